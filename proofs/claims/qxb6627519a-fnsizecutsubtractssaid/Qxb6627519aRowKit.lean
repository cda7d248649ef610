import Derived.Test.Qxb6627519aW1
import Derived.ProofKit
import Derived.OpenShut
import Derived.ChangeOld
import Derived.Below
import Derived.Deep.SlicePairs
namespace Go.Proofs.Qxb6627519a
open Go.ChangeShapes Go.WideShapes Go.ChangeAt Go.RowKit Go.Deep

theorem laidOut : laidOutB Try.prog = true := by kernel_rfl

def fPar (i : Nat) (V : Nat → Value) : Int := match V i with | .int _ n => n | _ => 0
def fObj (i : Nat) (V : Nat → Value) : Bool := match V i with | .bool b => b | _ => false

theorem add_plain (b o j : Nat) : (⟨b, o, none⟩ : Addr).add j = ⟨b, o + j, none⟩ := by unfold Addr.add; split <;> simp_all

/-- What a walk is told of a slice of ZNodes that came in. -/
theorem zs_of {H : Type} {enc : TypeId × Value → H} {W : World} {a : Option Addr} {len cap : Nat} {d : DataW H} {p : List MemPlace}
    (h : DataW.Trod enc Try.prog W 0 (fun _ => true) true 22 (.slice a len cap) d p) : ∃ P O, Zs W a len P O := by
  obtain ⟨fuel, hf⟩ := h
  rcases open_slice_pairs Try.underlying22 Try.underlying42 cells42 rfl rfl cells3 cells4 hf with ⟨hcs, _⟩ | ⟨x, l, c, m, k, V0, V1, D0, D1, P0, P1, hcs, _, hl, hm, hmm, _, hcell⟩
  · simp [Value.cells] at hcs
    obtain ⟨rfl, rfl, rfl⟩ := hcs
    exact ⟨fun _ => 0, fun _ => false, fun i hi => absurd hi (Nat.not_lt_zero _)⟩
  · simp [Value.cells] at hcs
    obtain ⟨rfl, rfl, rfl⟩ := hcs
    refine ⟨fun i => fPar i V0, fun i => fObj i V1, fun i hi => ?_⟩
    simp at hmm
    obtain ⟨c0, c1, t0, t1⟩ := hcell i (by omega)
    obtain ⟨b, off, spot⟩ := x
    have hspot : spot = none := by simpa [Addr.add] using World.cell?_spot (hcell 0 (by omega)).1
    subst hspot
    obtain ⟨n, e0, _, _⟩ := DataW.trod_int Try.underlying3 t0
    obtain ⟨q, e1, _⟩ := DataW.trod_bool Try.underlying4 t1
    simp at e0 e1
    refine ⟨b, off, rfl, ?_, ?_⟩
    · rw [add_plain] at c0; rw [c0]; simp [fPar, e0]
    · rw [add_plain, ← Nat.add_assoc] at c1; rw [c1]; simp [fObj, e1]

end Go.Proofs.Qxb6627519a
