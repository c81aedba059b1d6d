/-
  FROM THE ROW's CONDITION ('laid': the three variables read as listed) TO WHAT THE WALKS WANT ('Tabs').
-/
import Derived.Test.Qxb6614212aDoorSpans
import Derived.ProofKit
import Derived.LaidMore
import Derived.OpenShut
import Derived.OpenVars
import Derived.Stop.Joined
import Derived.Deep.SlicePairs
namespace Go.Proofs.Qxb6614212aDoor
open Go.ChangeShapes Go.WideShapes Go.ChangeAt Go.RowKit Go.Deep

theorem own : ownKnob Tryd.prog.godebug = none := by kernel_rfl
theorem laidOut : laidOutB Tryd.prog = true := by kernel_rfl
theorem cells26 : Tryd.prog.cellsOf 26 = 2 := by kernel_rfl
theorem cells21 : Tryd.prog.cellsOf 21 = 1 := by kernel_rfl

def spData {H : Type} (sp : List (Int × Int)) : DataW H := .slice (sp.map fun e => .agg [.lit (.int .i32 e.1), .lit (.int .i32 e.2)]) []

theorem spans_of {H : Type} {enc : TypeId × Value → H} {w : World} {spare : Nat → Bool} {held : Bool} {fuel : Nat} {cs : List Value} {sp : List (Int × Int)} {p : List MemPlace} (hne : 0 < sp.length)
    (h : DataW.trod enc Tryd.prog w 0 spare held fuel 24 cs = some (spData sp, p)) : ∃ b o cap, cs = [.slice (some ⟨b, o, none⟩) sp.length cap] ∧ SpansAt w b o sp := by
  rcases open_slice_pairs Tryd.underlying24 Tryd.underlying26 cells26 rfl rfl cells21 cells21 h with ⟨_, hx⟩ | ⟨a, len, cap, m, n, V0, V1, D0, D1, P0, P1, rfl, _, hl, _, hm, hx, hc⟩
  · simp [spData] at hx
  · simp only [spData, Prod.mk.injEq, DataW.slice.injEq] at hx
    obtain ⟨⟨hx1, _⟩, _⟩ := hx
    have hlen : sp.length = len := by have := congrArg List.length hx1; simpa using this
    have hlm : len ≤ m := by rw [hm]; split <;> omega
    have hget : ∀ i (hi : i < sp.length), D0 i = .lit (.int .i32 (sp[i]).1) ∧ D1 i = .lit (.int .i32 (sp[i]).2) := by
      intro i hi
      have h1 := congrArg (fun l => l[i]?) hx1
      have hi2 : i < len := by omega
      simp [hi, hi2] at h1
      exact ⟨h1.1.symm, h1.2.symm⟩
    have hcell : ∀ i (hi : i < sp.length), w.cell? (a.add (i * 2)) = some (.int .i32 (sp[i]).1) ∧ w.cell? (a.add (i * 2 + 1)) = some (.int .i32 (sp[i]).2) := by
      intro i hi
      obtain ⟨c0, c1, t0, t1⟩ := hc i (by omega)
      obtain ⟨k0, e0, e0', _⟩ := DataW.trod_int Tryd.underlying21 t0
      obtain ⟨k1, e1, e1', _⟩ := DataW.trod_int Tryd.underlying21 t1
      obtain ⟨g0, g1⟩ := hget i hi
      simp only [Prod.mk.injEq] at e0' e1'
      rw [e0'.1] at g0
      rw [e1'.1] at g1
      simp at e0 e1 g0 g1
      rw [c0, c1, e0, e1, g0, g1]
      exact ⟨rfl, rfl⟩
    obtain ⟨b, o, spot⟩ := a
    have hspot : spot = none := by simpa [Addr.add] using World.cell?_spot (hcell 0 hne).1
    subst hspot
    refine ⟨b, o, cap, by rw [hlen], fun i hi => ?_⟩
    have h1 := hcell i hi
    rw [Addr.add_lit, Addr.add_lit] at h1
    exact h1

/-- The door's own heap meets the condition: closed facts. -/
theorem door_met (os : Os) (args : Array Value) : laidMetH Tryd.prog Rows.fnIsCharIsScalarValueLessControlsAndNoncharactersRow.laid ((World.doorLaid Tryd.prog 42 os).forCall (fun _ _ => 0) ⟨#[], args, []⟩).memory :=
  laidMetH_of_parts3 (fuel := 8) (laidMet_of_run' 8 (by kernel_rfl) (by kernel_rfl)) (by kernel_rfl) (by kernel_rfl)

/-- one listed variable: its cell and its spans -/
theorem tab_of {H : Type} {enc : TypeId × Value → H} {w : World} {spare : Nat → Bool} {held : Bool} {fuel g : Nat} {n : String} {cs : Array Value} {sp : List (Int × Int)} {p : List MemPlace} (hne : 0 < sp.length) (hg : Tryd.prog.globalNamed n = some g) (hv : w.var? Tryd.prog n = some cs)
    (h : DataW.trod enc Tryd.prog w 0 spare held fuel 24 cs.toList = some (spData sp, p)) : ∃ b o cap, w.cell? ⟨g, 0, none⟩ = some (.slice (some ⟨b, o, none⟩) sp.length cap) ∧ SpansAt w b o sp := by
  obtain ⟨b, o, cap, hcs, hs⟩ := spans_of hne h
  refine ⟨b, o, cap, ?_, hs⟩
  have := World.var?_cell hg hv 0
  rw [Array.eq_one_of_toList hcs] at this
  simpa using this

theorem of_laid {W : World} (h : laidMetH Tryd.prog Rows.fnIsCharIsScalarValueLessControlsAndNoncharactersRow.laid W) : Tabs W := by
  rw [MakeChecks.laidMetH_plain _ _ _ (by kernel_rfl)] at h
  obtain ⟨ps, ⟨g0, t0, cs0, f0, p0, q0, hg0, ht0, hv0, hd0, ⟨g1, t1, cs1, f1, p1, q1, hg1, ht1, hv1, hd1, ⟨g2, t2, cs2, f2, p2, q2, hg2, ht2, hv2, hd2, _, _⟩, _⟩, _⟩, _, _⟩ := h
  obtain rfl : g0 = 0 := Option.some.inj (hg0.symm.trans (by kernel_rfl))
  obtain rfl : g1 = 1 := Option.some.inj (hg1.symm.trans (by kernel_rfl))
  obtain rfl : g2 = 2 := Option.some.inj (hg2.symm.trans (by kernel_rfl))
  obtain rfl : t0 = 24 := Option.some.inj (ht0.symm.trans (by kernel_rfl))
  obtain rfl : t1 = 24 := Option.some.inj (ht1.symm.trans (by kernel_rfl))
  obtain rfl : t2 = 24 := Option.some.inj (ht2.symm.trans (by kernel_rfl))
  exact ⟨tab_of (sp := chS) (by decide) hg0 hv0 hd0, tab_of (sp := nsS) (by decide) hg1 hv1 hd1, tab_of (sp := noS) (by decide) hg2 hv2 hd2⟩

end Go.Proofs.Qxb6614212aDoor
