/-
  THE WALKS OF 'LawS5000CParts' (function 3), one a way ahead of its tests; 'divide' by its contract (YbulkcyniDivide).
-/
import Derived.Test.YbulkcyniDivide
import Derived.Test.YbulkcyniPtr
namespace Go.Proofs.Ybulkcyni
open Go.RowKit

theorem Yba.info3 : (Yba.prog.info? 3).map (fun i => (i.zero, i.size, i.bytes)) = some (some (.int .i64 0), 1, 8) := by kernel_rfl

theorem law_long (ao : Option Addr) (len cap : Nat) (size : Int) (w : World) (h : 1024 < len) (hm : len ≤ 9223372036854775807) :
    Calls Yba.prog 3 #[.slice ao len cap, .int .i64 size] w fun e w' => e = .returned (.bool true) ∧ Below w.heap.size w w' := by
  go_enter Yba.func3, Yba.ntmps3
  go_wp2
  go_ret
  exact ⟨rfl, Below.refl _ _⟩

theorem law_zero (ao : Option Addr) (len cap : Nat) (w : World) (h : len ≤ 1024) :
    Calls Yba.prog 3 #[.slice ao len cap, .int .i64 0] w fun e w' => e = .returned (.bool true) ∧ Below w.heap.size w w' := by
  go_enter Yba.func3, Yba.ntmps3
  go_wp2
  go_ret
  exact ⟨rfl, Below.refl _ _⟩

set_option maxHeartbeats 400000 in
theorem law_none (ao : Option Addr) (cap : Nat) (size : Int) (w : World) (hs : size ≠ 0) :
    Calls Yba.prog 3 #[.slice ao 0 cap, .int .i64 size] w fun e w' => e = .returned (.bool true) ∧ Below w.heap.size w w' := by
  have hsb : (size == 0) = false := by simp [hs]
  go_enter Yba.func3, Yba.ntmps3
  go_wp2_with (go_at_call 4; refine (divide_none _ _ _ _ hs).mono ?_; rintro e w1 ⟨rfl, hb⟩)
  refine wp_loop_rounds 1 ?_
  rw [rounds_succ]
  by_cases hp : 0 < size
  · go_wp2_with fail
    go_ret
    exact ⟨rfl, hb⟩
  · go_wp2_with fail
    go_ret
    exact ⟨rfl, hb⟩

set_option maxRecDepth 100000 in
set_option maxHeartbeats 1000000 in
theorem law_pos (b off len cap n q u : Nat) (size : Int) (w : World) (h0 : 1 ≤ len) (hlen : len ≤ 1024) (hlc : len ≤ cap) (hcm : cap ≤ 9223372036854775807) (h1 : 1 ≤ n) (hn : n ≤ len)
    (hs : size ≠ 0) (hsq : 1 < (len : Int) / size → 0 < size) (hq0 : -1024 ≤ (len : Int) / size) (hq1 : (len : Int) / size ≤ 1024)
    (hsz : ((len : Int) / size ≤ 1 ∧ n = 1) ∨ (1 < (len : Int) / size ∧ (len : Int) / size = (n : Int)))
    (hstep : ∀ k, Cut.lo len n k + q ≤ Cut.lo len n (k + 1) ∧ Cut.lo len n (k + 1) ≤ Cut.lo len n k + u) (huq : u ≤ q + 1) (hql : q ≤ len)
    (hlo : 0 < size → size ≤ len → size ≤ (q : Int)) (hhi : 0 < size → size ≤ len → (u : Int) ≤ 2 * size - 1) :
    Calls Yba.prog 3 #[.slice (some ⟨b, off, none⟩) len cap, .int .i64 size] w fun e w' => e = .returned (.bool true) ∧ Below w.heap.size w w' := by
  have hsb : (size == 0) = false := by simp [hs]
  have HS : Hid (((len : Int) / size ≤ 1 ∧ n = 1) ∨ (1 < (len : Int) / size ∧ (len : Int) / size = (n : Int))) := hsz
  have HSQ : Hid (1 < (len : Int) / size → 0 < size) := hsq
  have HST : Hid (∀ k, Cut.lo len n k + q ≤ Cut.lo len n (k + 1) ∧ Cut.lo len n (k + 1) ≤ Cut.lo len n k + u) := hstep
  have HLO : Hid (0 < size → size ≤ len → size ≤ (q : Int)) := hlo
  have HHI : Hid (0 < size → size ≤ len → (u : Int) ≤ 2 * size - 1) := hhi
  have hd1 : decide ((1024 : Int) < (len : Int)) = false := decide_eq_false (by omega)
  have hd2 : decide ((0 : Int) < (len : Int)) = true := decide_eq_true (by omega)
  have hd3 : decide (0 < len) = true := decide_eq_true (by omega)
  obtain ⟨j3, hj3, _, _, _⟩ := info_parts Yba.info3
  have hpe := fun (v : World) (p : Addr) => run_neq_ptr_same (P := Yba.prog) v p Yba.underlying25 hj3
  clear hsz hsq hstep hlo hhi hj3
  go_enter Yba.func3, Yba.ntmps3
  go_wp2_with fail
  refine (divide_pos b off len cap n size w hlen hlc hcm h1 hn hs hq0 hq1 HS.out).mono ?_
  rintro e w1 ⟨rfl, hown, hb⟩
  have HO : Hid (w1.ownsRow w.heap.size 22 1 (.slice (some ⟨w.heap.size, 0, none⟩) n n) n (pieces b off len n n)) := hown
  clear hown
  go_upto_if 26 with fail
  go_cut [7] (fun v wx => v = .int .i64 (n : Int) ∧ wx = w1)
  case first =>
    clear HO
    rcases HS.out with ⟨hq, hn1⟩ | ⟨hq, hqn⟩
    · have Hn1 : Hid (n = 1) := hn1
      clear hn1
      by_cases hp : 0 < size
      · go_wp2
        go_meet
        exact ⟨by rw [Hn1.out]; rfl, rfl⟩
      · go_wp2
        go_meet
        exact ⟨by rw [Hn1.out]; rfl, rfl⟩
    · have Hq : Hid ((len : Int) / size = (n : Int)) := hqn
      clear hqn
      have hp : 0 < size := HSQ.out hq
      go_wp2
      go_meet
      exact ⟨by rw [Hq.out], rfl⟩
  case rest =>
    obtain ⟨rfl, rfl⟩ := hcut
    clear HS HSQ hq0 hq1
    go_wp2_with fail
    go_loopw [8, 9, 10, 46] (fun o mn mx i wr => ∃ (k : Nat) (m x : Int), k ≤ n ∧ i = .int .i64 (k : Int) ∧ o = .int .i64 (Cut.lo len n k : Int) ∧ mn = .int .i64 m ∧ mx = .int .i64 x ∧
        (q : Int) ≤ m ∧ m ≤ (len : Int) + 1 ∧ -1 ≤ x ∧ x ≤ (u : Int) ∧
        wr.ownsRow w.heap.size 22 1 (.slice (some ⟨w.heap.size, 0, none⟩) n n) n (pieces b off len n n) ∧ Below w.heap.size w wr)
      (fun _ _ _ i _ => n - (intOf i).toNat)
    case atStart => exact ⟨0, (len : Int) + 1, -1, Nat.zero_le _, rfl, by rw [Cut.lo_zero]; rfl, rfl, rfl, by omega, by omega, by omega, by omega, HO.out, hb⟩
    case round =>
      obtain ⟨k, m, x, hk, rfl, rfl, rfl, rfl, hm1, hm2, hx1, hx2, hown, hnx⟩ := hrel
      clear hb HO
      have hsize := hnx.size
      by_cases hlt : k < n
      · obtain ⟨lp, hlp⟩ : ∃ lp, Cut.lo len n (k + 1) = Cut.lo len n k + lp := ⟨_, (Nat.add_sub_of_le (Nat.le_of_lt (Cut.lo_lt len n k h1 hn))).symm⟩
        have hc := Cut.lo_lt len n k h1 hn
        have hd := Cut.lo_le len n (k + 1) h1 hlt
        have hst := HST.out k
        have hcell : wr.cell? ⟨w.heap.size, k, none⟩ = some (.slice (some ⟨b, off + Cut.lo len n k, none⟩) lp lp) := by
          rw [hown.cellAt k (by omega), pieces_at _ _ _ _ _ _ hlt, piece, hlp, Nat.add_sub_cancel_left]
        have HP : Hid (Cut.lo len n (k + 1) = Cut.lo len n k + lp) := hlp
        rw [hlp] at hc hd hst
        clear hlp
        generalize Cut.lo len n k = lo at hc hd hst hcell HP ⊢
        have hl1 : 1 ≤ lp := by omega
        have hz1 : ((lp : Int) == 0) = false := beq_eq_false_iff_ne.2 (by omega)
        have hz2 : decide ((len : Int) < (lo : Int) + (lp : Int)) = false := decide_eq_false (by omega)
        have hz3 : (0 : Int) < (lp : Int) := by omega
        have hz4 : (lo : Int) < (len : Int) := by omega
        have hz5 : 0 < lp := by omega
        have hz6 : lo < len := by omega
        go_wp2_with fail
        go_quiet (fail)
        have hown2 : (wr.drewN nq).ownsRow w.heap.size 22 1 (.slice (some ⟨w.heap.size, 0, none⟩) n n) n (pieces b off len n n) := hown
        have hnx2 : Below w.heap.size w (wr.drewN nq) := below_drewN hnx nq
        go_wp2_with fail
        all_goals
          go_roundw
          case rel => exact ⟨k + 1, _, _, by omega, by go_num, by rw [HP.out]; go_num, rfl, rfl, by omega, by omega, by omega, by omega, hown2, hnx2⟩
          case measure => simp [intOf]; omega
      · have hke : k = n := by omega
        have hle : Cut.lo len n k = len := by rw [hke]; exact Cut.lo_end len n h1
        rw [hle]
        clear hle hke
        have hn0 : decide (0 < n) = true := decide_eq_true (by omega)
        by_cases hp : 0 < size
        · by_cases hps : size ≤ (len : Int)
          · have e1 := HLO.out hp hps
            have e2 := HHI.out hp hps
            have hz1 : decide (m < size) = false := decide_eq_false (by omega)
            have hz2 : decide (2 * size - 1 < x) = false := decide_eq_false (by omega)
            go_wp2_with fail
            go_ret
            exact ⟨rfl, hnx⟩
          · go_wp2_with fail
            go_ret
            exact ⟨rfl, hnx⟩
        · go_wp2_with fail
          go_ret
          exact ⟨rfl, hnx⟩

end Go.Proofs.Ybulkcyni
