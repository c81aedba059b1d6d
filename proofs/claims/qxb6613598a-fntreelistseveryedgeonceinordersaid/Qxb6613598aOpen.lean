/-
  THE ARGUMENT 'neighbours [][]int', OPENED: nil, or a row of slices ('Nb').
-/
import Derived.Test.Qxb6613598aMem
import Derived.ProofKit
import Derived.OpenShut
import Derived.ChangeOld
import Derived.Deep.Matrix
namespace Go.Proofs.Qxb6613598a
open Go.ChangeShapes Go.WideShapes Go.ChangeAt Go.RowKit Go.Deep

theorem Try.own : ownKnob Try.prog.godebug = none := by kernel_rfl
theorem Try.laidOut : laidOutB Try.prog = true := by kernel_rfl
theorem Try.cells24 : Try.prog.cellsOf 24 = 1 := by kernel_rfl
theorem Try.cells3 : Try.prog.cellsOf 3 = 1 := by kernel_rfl

/-- what the walk is told of the argument -/
def IsNb (w : World) (a : Option Addr) (n : Nat) : Prop :=
  n = 0 ∨ ∃ (bm om : Nat) (A : Nat → Option Addr) (L C Ab Ao : Nat → Nat) (Z : Nat → Nat → Int), a = some ⟨bm, om, none⟩ ∧ 0 < n ∧ n ≤ 9223372036854775807 ∧ Nb w bm om n A L C Ab Ao Z

theorem isNb_of {H : Type} {enc : TypeId × Value → H} {w : World} {a : Option Addr} {n cap : Nat} {d : DataW H} {p : List MemPlace} (h : DataW.Trod enc Try.prog w 0 (fun _ => true) true 22 (.slice a n cap) d p) : IsNb w a n := by
  obtain ⟨fuel, hf⟩ := h
  rcases open_int_rows Try.underlying22 Try.underlying24 Try.underlying3 Try.cells24 Try.cells3 hf with ⟨hcs, _⟩ | ⟨a', len', cap', A, L, C, Z, hcs, _, hl, hm, _, hrows⟩
  · simp [Value.cells] at hcs
    exact Or.inl hcs.2.1
  · simp [Value.cells] at hcs
    obtain ⟨rfl, rfl, rfl⟩ := hcs
    by_cases hn : n = 0
    · exact Or.inl hn
    right
    obtain ⟨bm, om, spot⟩ := a'
    have hspot : spot = none := by simpa [Addr.add] using World.cell?_spot (hrows 0 (by omega)).1
    subst hspot
    refine ⟨bm, om, A, L, C, fun r => ((A r).getD default).block, fun r => ((A r).getD default).off, fun r c => (Z r).getD c 0, rfl, by omega, by unfold maxLen at hm; omega, ?_, ?_⟩
    · intro r hr
      rw [← add_plain]; exact (hrows r (by omega)).1
    · intro r hr c hc
      obtain ⟨_, h1, _, _, _, h3, h4⟩ := hrows r (by omega)
      cases hA' : A r with
      | none =>
        have := h3 hA'
        omega
      | some a' =>
        obtain ⟨_, hcell⟩ := h4 a' hA'
        obtain ⟨b, o, sp⟩ := a'
        have hs : sp = none := by simpa [Addr.add] using World.cell?_spot (hcell 0 (by omega))
        subst hs
        refine ⟨rfl, ?_⟩
        have := hcell c (by omega)
        rw [add_plain] at this
        exact this

end Go.Proofs.Qxb6613598a
