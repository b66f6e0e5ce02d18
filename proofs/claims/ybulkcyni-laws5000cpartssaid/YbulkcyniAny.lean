/-
  'LawS5000CParts' AT ONE ITEM OR MORE, EVERY SIZE BUT 0: the plain law's numbers handed to the walk 'law_pos'.
-/
import Derived.Test.YbulkcyniLaw
namespace Go.Proofs.Ybulkcyni
open Go.RowKit

theorem law_any (b off len cap : Nat) (size : Int) (w : World) (h0 : 1 ≤ len) (hlen : len ≤ 1024) (hlc : len ≤ cap) (hcm : cap ≤ 9223372036854775807) (hs : size ≠ 0) :
    Calls Yba.prog 3 #[.slice (some ⟨b, off, none⟩) len cap, .int .i64 size] w fun e w' => e = .returned (.bool true) ∧ Below w.heap.size w w' := by
  by_cases hp : 0 < size
  · obtain ⟨s, rfl⟩ : ∃ s : Nat, size = (s : Int) := ⟨size.toNat, by omega⟩
    have hs1 : 1 ≤ s := by omega
    have e : (len : Int) / (s : Int) = ((len / s : Nat) : Int) := (Int.natCast_ediv len s).symm
    have hle : len / s ≤ len := Nat.div_le_self len s
    have hge : (0 : Int) ≤ ((len / s : Nat) : Int) := Int.natCast_nonneg _
    obtain ⟨n, hn⟩ : ∃ n, n = max (len / s) 1 := ⟨_, rfl⟩
    refine law_pos b off len cap n (len / n) ((len + n - 1) / n) s w h0 hlen hlc hcm (by omega) (by omega) hs (fun _ => hp) (by rw [e]; omega) (by rw [e]; omega) ?_
      (fun k => ⟨Cut.lo_step_ge len n k (by omega), Cut.lo_step_le len n k (by omega)⟩) (Cut.up_le len n (by omega)) (Nat.div_le_self len n) ?_ ?_
    · rw [e]
      by_cases h : len / s ≤ 1
      · exact .inl ⟨by omega, by omega⟩
      · exact .inr ⟨by omega, by omega⟩
    · intro _ h
      have h2 := Cut.q_ge len s n hs1 (by omega) hn
      omega
    · intro _ h
      have h2 := Cut.up_le_two len s n hs1 (by omega) hn
      omega
  · obtain ⟨s, rfl⟩ : ∃ s : Nat, size = -(s : Int) := ⟨(-size).toNat, by omega⟩
    have e : (len : Int) / (-(s : Int)) = -((len / s : Nat) : Int) := by rw [Int.ediv_neg, Int.natCast_ediv]
    have hle : len / s ≤ len := Nat.div_le_self len s
    have hge : (0 : Int) ≤ ((len / s : Nat) : Int) := Int.natCast_nonneg _
    refine law_pos b off len cap 1 (len / 1) ((len + 1 - 1) / 1) _ w h0 hlen hlc hcm (by omega) (by omega) hs (fun h => by rw [e] at h; omega) (by rw [e]; omega) (by rw [e]; omega)
      (.inl ⟨by rw [e]; omega, rfl⟩) (fun k => ⟨Cut.lo_step_ge len 1 k (by omega), Cut.lo_step_le len 1 k (by omega)⟩) (Cut.up_le len 1 (by omega)) (Nat.div_le_self len 1) ?_ ?_
    · intro h; omega
    · intro h; omega

end Go.Proofs.Ybulkcyni
