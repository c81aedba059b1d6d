/-
  inSpans (function 10) over a slice of spans that lies in memory.
-/
import Derived.Test.Qxb6614212aDoorRows
import Derived.WalkKit
namespace Go.Proofs.Qxb6614212aDoor
open Go.RowKit

/-- what inSpans answers -/
def inS (r : Int) : List (Int × Int) → Bool
  | [] => false
  | (lo, hi) :: t => if r < lo then false else if r ≤ hi then true else inS r t

theorem inS_drop {sp : List (Int × Int)} {k : Nat} (r : Int) (hk : k < sp.length) : inS r (sp.drop k) = if r < (sp[k]).1 then false else if r ≤ (sp[k]).2 then true else inS r (sp.drop (k + 1)) := by
  rw [List.drop_eq_getElem_cons hk]
  rfl

/-- the spans lie at ⟨b, o⟩, two cells each -/
def SpansAt (w : World) (b o : Nat) (sp : List (Int × Int)) : Prop :=
  ∀ i (hi : i < sp.length), w.cell? ⟨b, o + i * 2, none⟩ = some (.int .i32 (sp[i]).1) ∧ w.cell? ⟨b, o + i * 2 + 1, none⟩ = some (.int .i32 (sp[i]).2)

theorem SpansAt.below {w w' : World} {b o : Nat} {sp : List (Int × Int)} (h : SpansAt w b o sp) (hb : Below w.heap.size w w') : SpansAt w' b o sp :=
  fun i hi => ⟨(hb.cell (World.block_lt_of_cell? _ _ (h i hi).1)).trans (h i hi).1, (hb.cell (World.block_lt_of_cell? _ _ (h i hi).2)).trans (h i hi).2⟩

def SpPost (w : World) (v : Bool) (e : Ending) (w' : World) : Prop := e = .returned (.bool v) ∧ Below w.heap.size w w'
theorem SpPost.mk' {w w' : World} {v : Bool} (u : Bool) (h : v = u) (hb : Below w.heap.size w w') : SpPost w v (.returned (.bool u)) w' := ⟨by rw [h], hb⟩

set_option maxRecDepth 100000 in
theorem spans_any (r : Int) (b o cap : Nat) (sp : List (Int × Int)) (w : World) (hlen : sp.length ≤ 1048576) (hs : SpansAt w b o sp) :
    Calls Tryd.prog 10 #[.int .i32 r, .slice (some ⟨b, o, none⟩) sp.length cap] w (SpPost w (inS r sp)) := by
  go_enter Tryd.func10, Tryd.ntmps10
  go_wp2
  go_loopw [9] (fun i wr => ∃ k : Nat, k ≤ sp.length ∧ i = .int .i64 k ∧ Below w.heap.size w wr ∧ Hid (inS r sp = inS r (sp.drop k))) (fun i _ => sp.length - (intOf i).toNat)
  case atStart => exact ⟨0, by omega, rfl, Below.refl _ _, rfl⟩
  case round =>
    obtain ⟨k, hk, rfl, hb, H⟩ := hrel
    by_cases hlt : k < sp.length
    · have hc := hs.below hb k hlt
      have HD : Hid (inS r sp = if r < (sp[k]).1 then false else if r ≤ (sp[k]).2 then true else inS r (sp.drop (k + 1))) := H.out.trans (inS_drop r hlt)
      generalize (sp[k]).1 = lo at hc HD
      generalize (sp[k]).2 = hi at hc HD
      have hc1 := hc.1
      have hc2 := hc.2
      have hbs := hb.size
      clear hc H
      by_cases h1 : r < lo
      · go_wp2
        go_ret
        exact SpPost.mk' false (by rw [HD.out, if_pos h1]) (hb.alloc hbs _)
      by_cases h2 : r ≤ hi
      · go_wp2
        go_ret
        exact SpPost.mk' true (by rw [HD.out, if_neg (by omega), if_pos h2]) (hb.alloc hbs _)
      · go_wp2
        go_roundw
        case rel => exact ⟨k + 1, by omega, by go_num, hb.alloc hbs _, by rw [HD.out, if_neg (by omega), if_neg (by omega)]; rfl⟩
        case measure => simp [intOf]; omega
    · go_wp2
      go_ret
      exact SpPost.mk' false (by rw [H.out, List.drop_eq_nil_of_le (by omega)]; rfl) hb

def chS : List (Int × Int) := [(32, 55295), (57344, 65533), (65536, 1114111)]
def nsS : List (Int × Int) := [(192, 214), (216, 246), (248, 767), (880, 893), (895, 8191), (8204, 8205), (8304, 8591), (11264, 12271), (12289, 55295), (63744, 64975), (65008, 65533), (65536, 983039)]
def noS : List (Int × Int) := [(183, 183), (768, 879), (8255, 8256)]

/-- the three variables, as the walks want them -/
structure Tabs (w : World) : Prop where
  ch : ∃ b o cap, w.cell? ⟨0, 0, none⟩ = some (.slice (some ⟨b, o, none⟩) chS.length cap) ∧ SpansAt w b o chS
  ns : ∃ b o cap, w.cell? ⟨1, 0, none⟩ = some (.slice (some ⟨b, o, none⟩) nsS.length cap) ∧ SpansAt w b o nsS
  no : ∃ b o cap, w.cell? ⟨2, 0, none⟩ = some (.slice (some ⟨b, o, none⟩) noS.length cap) ∧ SpansAt w b o noS

theorem Tabs.below {w w' : World} (h : Tabs w) (hb : Below w.heap.size w w') : Tabs w' := by
  obtain ⟨⟨b, o, c, h1, h2⟩, ⟨b2, o2, c2, h3, h4⟩, ⟨b3, o3, c3, h5, h6⟩⟩ := h
  exact ⟨⟨b, o, c, (hb.cell (World.block_lt_of_cell? _ _ h1)).trans h1, h2.below hb⟩, ⟨b2, o2, c2, (hb.cell (World.block_lt_of_cell? _ _ h3)).trans h3, h4.below hb⟩, ⟨b3, o3, c3, (hb.cell (World.block_lt_of_cell? _ _ h5)).trans h5, h6.below hb⟩⟩

def chB (r : Int) : Bool := decide (r = 9 ∨ r = 10 ∨ r = 13) || inS r chS
def nsB (r : Int) : Bool := inS r nsS
def nmB (r : Int) : Bool := inS r nsS || inS r noS

set_option maxRecDepth 100000 in
theorem isChar7 (r : Int) (w : World) (ht : Tabs w) : Calls Tryd.prog 7 #[.int .i32 r] w (SpPost w (chB r)) := by
  obtain ⟨b, o, cap, hc, hs⟩ := ht.ch
  clear ht
  by_cases h9 : r = 9 ∨ r = 10 ∨ r = 13
  · have hv : chB r = true := by simp [chB, h9]
    have HV : Hid (chB r = true) := hv
    clear hv
    rcases h9 with h | h | h
    all_goals
      subst h
      go_enter Tryd.func7, Tryd.ntmps7
      go_wp2
      go_ret
      exact SpPost.mk' true HV.out (Below.refl _ _)
  · have hv : chB r = inS r chS := by simp [chB, h9]
    have HV : Hid (chB r = inS r chS) := hv
    clear hv
    have h1 : (r == 9) = false := by simp; omega
    have h2 : (r == 10) = false := by simp; omega
    have h3 : (r == 13) = false := by simp; omega
    clear h9
    go_enter Tryd.func7, Tryd.ntmps7
    go_wp2_with fail
    refine (spans_any r b o cap chS w (by decide) hs).mono ?_
    rintro e w' ⟨rfl, hb⟩
    go_wp2
    go_ret
    exact SpPost.mk' _ HV.out hb

set_option maxRecDepth 100000 in
theorem isNameStart8 (r : Int) (w : World) (ht : Tabs w) : Calls Tryd.prog 8 #[.int .i32 r] w (SpPost w (nsB r)) := by
  obtain ⟨b, o, cap, hc, hs⟩ := ht.ns
  clear ht
  go_enter Tryd.func8, Tryd.ntmps8
  go_wp2_with fail
  refine (spans_any r b o cap nsS w (by decide) hs).mono ?_
  rintro e w' ⟨rfl, hb⟩
  go_wp2
  go_ret
  exact SpPost.mk' _ rfl hb

set_option maxRecDepth 100000 in
theorem isName9 (r : Int) (w : World) (ht : Tabs w) : Calls Tryd.prog 9 #[.int .i32 r] w (SpPost w (nmB r)) := by
  obtain ⟨b, o, cap, hc, hs⟩ := ht.ns
  have ht2 := ht
  clear ht
  go_enter Tryd.func9, Tryd.ntmps9
  go_wp2_with fail
  refine (spans_any r b o cap nsS w (by decide) hs).mono ?_
  rintro e w' ⟨rfl, hb⟩
  obtain ⟨b3, o3, cap3, hc3, hs3⟩ := (ht2.below hb).no
  have HV : Hid (nmB r = (inS r nsS || inS r noS)) := rfl
  generalize inS r nsS = v1 at HV
  clear ht2 hc hs
  cases v1 with
  | true =>
    go_wp2
    go_ret
    exact SpPost.mk' true (by rw [HV.out]; rfl) hb
  | false =>
    go_wp2_with fail
    refine (spans_any r b3 o3 cap3 noS w' (by decide) hs3).mono ?_
    rintro e w2 ⟨rfl, hb2⟩
    go_wp2
    go_ret
    exact SpPost.mk' _ (by rw [HV.out]; rfl) (hb.trans (hb2.mono hb.size))

theorem isChar4 (r : Int) (w : World) (ht : Tabs w) : Calls Tryd.prog 4 #[.int .i32 r] w (SpPost w (chB r)) := by
  go_enter Tryd.func4, Tryd.ntmps4
  go_wp2_with fail
  refine (isChar7 r w ht).mono ?_
  rintro e w' ⟨rfl, hb⟩
  go_wp2
  go_ret
  exact SpPost.mk' _ rfl hb
theorem isNameStart5 (r : Int) (w : World) (ht : Tabs w) : Calls Tryd.prog 5 #[.int .i32 r] w (SpPost w (nsB r)) := by
  go_enter Tryd.func5, Tryd.ntmps5
  go_wp2_with fail
  refine (isNameStart8 r w ht).mono ?_
  rintro e w' ⟨rfl, hb⟩
  go_wp2
  go_ret
  exact SpPost.mk' _ rfl hb
theorem isName6 (r : Int) (w : World) (ht : Tabs w) : Calls Tryd.prog 6 #[.int .i32 r] w (SpPost w (nmB r)) := by
  go_enter Tryd.func6, Tryd.ntmps6
  go_wp2_with fail
  refine (isName9 r w ht).mono ?_
  rintro e w' ⟨rfl, hb⟩
  go_wp2
  go_ret
  exact SpPost.mk' _ rfl hb

end Go.Proofs.Qxb6614212aDoor
