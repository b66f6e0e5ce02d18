/-
  A LAW THAT THE KIT LACKS: '!=' between two plain pointers that are one address: false. (After Derived/LaidEql.lean, which has it for interface values.)
-/
import Derived.LaidEql
namespace Go.Proofs.Ybulkcyni
section
variable {P : Program} (w : World)

theorem run_equalIn_ptr_same (d : Nat) {tp te : TypeId} {j : TypeInfo} (a : Addr) (hp : P.underlying tp = some (.pointer te)) (hte : P.info? te = some j) :
    (Op.equalIn (d + 1) tp (.pointer (some a)) (.pointer (some a))).run P w = .ok true w := by
  simp [Op.equalIn, run_underlying hp, typeInfo, sizeOf, run_sameAddr_same, hte]

theorem run_neq_ptr_same {tp te : TypeId} {j : TypeInfo} (a : Addr) (hp : P.underlying tp = some (.pointer te)) (hte : P.info? te = some j) :
    (binOp .neq tp (.pointer (some a)) (.pointer (some a))).run P w = .ok (.bool false) w := by
  simp only [binOp]
  simp [Op.equal, Op.maxDepth, run_equalIn_ptr_same w 9999 a hp hte]
end
end Go.Proofs.Ybulkcyni
