import Derived.Test.Qxb6627519aCt
import Derived.LaidEqlPtr
namespace Go.Proofs.Qxb6627519a
open Go.RowKit

theorem size37 : (Try.prog.info? 37).map (·.size) = some 11 := by kernel_rfl

/-- 'p != p' on nodes. -/
theorem neq_same (a : Addr) (w : World) : (binOp .neq 27 (.pointer (some a)) (.pointer (some a))).run Try.prog w = .ok (.bool false) w := by
  obtain ⟨j, hj, _⟩ := Option.map_eq_some_iff.1 size37
  have h : ∀ d : Nat, (Op.equalIn (d + 1) 27 (.pointer (some a)) (.pointer (some a))).run Try.prog w = .ok true w := fun d => by
    simp [Op.equalIn, run_underlying Try.underlying27, sizeOf, typeInfo, hj, run_sameAddr_same]
  simp only [binOp]
  simp [Op.equal, Op.maxDepth, h 9999]

/-- 'p != q', two nodes in two blocks. -/
theorem neq_other {b1 b2 : Nat} {c1 c2 : Array Value} {t1 t2 : TypeId} (w : World) (hne : b1 ≠ b2) (h1 : w.heap[b1]? = some (.cells c1 t1 (0, 0))) (h2 : w.heap[b2]? = some (.cells c2 t2 (0, 0))) :
    (binOp .neq 27 (.pointer (some ⟨b1, 0, none⟩)) (.pointer (some ⟨b2, 0, none⟩))).run Try.prog w = .ok (.bool true) w := by
  obtain ⟨j, hj, hs⟩ := Option.map_eq_some_iff.1 size37
  have hsz : j.size ≠ 0 := by rw [hs]; omega
  have hne' : (⟨b1, 0, none⟩ : Addr) ≠ ⟨b2, 0, none⟩ := fun e => hne (congrArg Addr.block e)
  have h : ∀ d : Nat, (Op.equalIn (d + 1) 27 (.pointer (some ⟨b1, 0, none⟩)) (.pointer (some ⟨b2, 0, none⟩))).run Try.prog w = .ok false w := fun d => by
    simp [Op.equalIn, run_underlying Try.underlying27, sizeOf, typeInfo, hj, hsz, run_sameAddr_other w hne' h1 h2]
  simp only [binOp]
  simp [Op.equal, Op.maxDepth, h 9999]

end Go.Proofs.Qxb6627519a
