/-
  THE CONTRACT OF 'divide[int]' (function 4): its n parts lie in a new row of n cells, in order over the items' own array; nothing that was there has turned.
-/
import Derived.Test.YbulkcyniRows
import Derived.Test.YbulkcyniMath
import Derived.WalkKit
import Derived.Maps.AppendAt
import Derived.Deep.QuietTactic
import Derived.BigQuiet
import Derived.Deep.DeepCutAuto
import Derived.WalkSmall
namespace Go.Proofs.Ybulkcyni
open Go.RowKit

theorem Yba.info22 : (Yba.prog.info? 22).map (fun i => (i.zero, i.size, i.bytes)) = some (some (.slice none 0 0), 1, 24) := by kernel_rfl

/-- Part j: the items from 'lo j' up to 'lo (j + 1)', with no room past its end. -/
def piece (b off len n j : Nat) : Value := .slice (some ⟨b, off + Cut.lo len n j, none⟩) (Cut.lo len n (j + 1) - Cut.lo len n j) (Cut.lo len n (j + 1) - Cut.lo len n j)
def pieces (b off len n k : Nat) : List Value := (List.range k).map (piece b off len n)
theorem pieces_succ (b off len n k : Nat) : pieces b off len n (k + 1) = pieces b off len n k ++ [piece b off len n k] := by
  simp [pieces, List.range_succ]
theorem pieces_len (b off len n k : Nat) : (pieces b off len n k).length = k := by simp [pieces]
theorem pieces_at (b off len n k j : Nat) (h : j < k) : (pieces b off len n k)[j]? = some (piece b off len n j) := by
  simp [pieces, h]

set_option maxHeartbeats 400000 in
theorem divide_pos (b off len cap n : Nat) (size : Int) (w : World) (hlen : len ≤ 1024) (hlc : len ≤ cap) (hcm : cap ≤ 9223372036854775807) (h1 : 1 ≤ n) (hn : n ≤ len)
    (hs : size ≠ 0) (hq0 : -1024 ≤ (len : Int) / size) (hq1 : (len : Int) / size ≤ 1024)
    (hsz : ((len : Int) / size ≤ 1 ∧ n = 1) ∨ (1 < (len : Int) / size ∧ (len : Int) / size = (n : Int))) :
    Calls Yba.prog 4 #[.slice (some ⟨b, off, none⟩) len cap, .int .i64 size] w fun e w' => e = .returned (.slice (some ⟨w.heap.size, 0, none⟩) n n) ∧
      w'.ownsRow w.heap.size 22 1 (.slice (some ⟨w.heap.size, 0, none⟩) n n) n (pieces b off len n n) ∧ Below w.heap.size w w' := by
  obtain ⟨i0, hi0, hz0, hz1, hz2⟩ := info_parts Yba.info22
  have HS : Hid (((len : Int) / size ≤ 1 ∧ n = 1) ∨ (1 < (len : Int) / size ∧ (len : Int) / size = (n : Int))) := hsz
  clear hsz
  go_enter Yba.func4, Yba.ntmps4
  go_upto_region 1 with fail
  go_cut [5] (fun v wx => v = .int .i64 (n : Int) ∧ wx = w)
  case first =>
    rcases HS.out with ⟨hq, hn1⟩ | ⟨hq, hqn⟩
    · have Hn1 : Hid (n = 1) := hn1
      clear hn1
      go_wp2
      · go_meet
        exact ⟨by rw [Hn1.out]; rfl, rfl⟩
      · go_meet
        exact ⟨by rw [Hn1.out]; congr 1; omega, rfl⟩
    · have Hq : Hid ((len : Int) / size = (n : Int)) := hqn
      clear hqn
      go_wp2
      go_meet
      exact ⟨by rw [Hq.out], rfl⟩
  case rest =>
    obtain ⟨rfl, rfl⟩ := hcut
    clear HS hq0 hq1
    go_wp2_with (first
      | (at_make; refine wpList_make_own _ rfl _ _ 23 rfl wc.heap.size 22 i0 (.slice none 0 0) 1 Yba.underlying23 hi0 hz0 hz1 .i64 .i64 _ n rfl rfl rfl (by rw [hz2]; omega) (by unfold maxLen; omega) (Nat.le_refl _) ?_; intro w0 hown0 hgrow0))
    go_loopw [6, 18] (fun v i wr => ∃ k : Nat, k ≤ n ∧ i = .int .i64 (k : Int) ∧ v = .slice (some ⟨wc.heap.size, 0, none⟩) k n ∧
        wr.ownsRow wc.heap.size 22 1 (.slice (some ⟨wc.heap.size, 0, none⟩) k n) k (pieces b off len n k) ∧ Below wc.heap.size wc wr)
      (fun _ i _ => n - (intOf i).toNat)
    case atStart => exact ⟨0, Nat.zero_le _, rfl, rfl, hown0, (Below.refl _ _).grown hgrow0 (Nat.le_refl _) (fun k h => by cases h)⟩
    case round =>
      obtain ⟨k, hk, rfl, rfl, hown, hnx⟩ := hrel
      have hsize := hnx.size
      by_cases hlt : k < n
      · obtain ⟨hkl0, hkl⟩ := Cut.mul_bd k len (by omega) hlen
        obtain ⟨hkl0', hkl'⟩ := Cut.mul_bd' k len (by omega) hlen
        have hA := Cut.lo_int len n k
        have hB := Cut.lo_int' len n k
        have hc := Cut.lo_lt len n k h1 hn
        have hd := Cut.lo_le len n (k + 1) h1 hlt
        have HE : Hid (piece b off len n k = .slice (some ⟨b, off + Cut.lo len n k, none⟩) (Cut.lo len n (k + 1) - Cut.lo len n k) (Cut.lo len n (k + 1) - Cut.lo len n k)) := rfl
        generalize Cut.lo len n k = lo at *
        generalize Cut.lo len n (k + 1) = hi at *
        go_wp2_with fail
        go_quiet (fail)
        rw [hA, hB]
        clear hA hB hkl hkl0 hkl' hkl0'
        have hown2 : (wr.drewN nq).ownsRow wc.heap.size 22 1 (.slice (some ⟨wc.heap.size, 0, none⟩) k n) k (pieces b off len n k) := hown
        have hnx2 : Below wc.heap.size wc (wr.drewN nq) := below_drewN hnx nq
        clear hown hnx hsize
        generalize wr.drewN nq = wq at *
        have hsize := hnx2.size
        go_wp2_with (first
          | (at_builtin; refine wpList_append_fits _ rfl (.tmp 37) (.tmp 43) 23 rfl wc.heap.size 22 i0 1 Yba.underlying23 hi0 hz1 wc.heap.size k n (pieces b off len n k) rfl (hown2.alloc _) ⟨wq.heap.size, 0, none⟩ 1 1 [.slice (some ⟨b, off + lo, none⟩) (hi - lo) (hi - lo)] rfl rfl (cell_one_new _ _ _) (by intro u hu; simp at hu; subst hu; rfl) (by omega) ?_; intro w1 hown1 hgrow1))
        go_roundw
        case rel => exact ⟨k + 1, by omega, by go_num, rfl, by rw [pieces_succ, HE.out]; exact hown1, (hnx2.alloc hsize _).grown hgrow1 (by simp; omega) (fun j hj => by cases hj; exact Nat.le_refl _)⟩
        case measure => simp [intOf]; omega
      · go_wp2_with fail
        go_ret
        obtain rfl : k = n := by omega
        exact ⟨rfl, hown, hnx⟩

/-- No items (a nil slice too): no part, in a row with room for one. -/
theorem divide_none (ao : Option Addr) (cap : Nat) (size : Int) (w : World) (hs : size ≠ 0) :
    Calls Yba.prog 4 #[.slice ao 0 cap, .int .i64 size] w fun e w' => e = .returned (.slice (some ⟨w.heap.size, 0, none⟩) 0 1) ∧ Below w.heap.size w w' := by
  obtain ⟨i0, hi0, hz0, hz1, hz2⟩ := info_parts Yba.info22
  go_enter Yba.func4, Yba.ntmps4
  go_wp2_with (first
    | (at_make; refine wpList_make_own _ rfl _ _ 23 rfl w.heap.size 22 i0 (.slice none 0 0) 1 Yba.underlying23 hi0 hz0 hz1 .i64 .i64 _ 1 rfl rfl rfl (by rw [hz2]; omega) (by unfold maxLen; omega) (Nat.le_refl _) ?_; intro w0 hown0 hgrow0))
  refine wp_loop_rounds 2 ?_
  rw [rounds_succ]
  go_wp2_with fail
  go_quiet (fail)
  go_wp2_with fail
  rw [rounds_succ]
  go_wp2_with fail
  go_ret
  exact ⟨rfl, below_drewN ((Below.refl _ _).grown hgrow0 (Nat.le_refl _) (fun k h => by cases h)) nq⟩

end Go.Proofs.Ybulkcyni
