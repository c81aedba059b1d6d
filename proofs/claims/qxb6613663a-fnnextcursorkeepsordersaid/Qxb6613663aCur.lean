/-
  slices.Clip (18), nextCursor (16), ZZnextCursor (8): the key and one byte 0 behind it, in new memory.
-/
import Derived.Test.Qxb6613663aCmp
namespace Go.Proofs.Qxb6613663a
open Go.RowKit Plain

theorem Try.info5 : (Try.prog.info? 5).map (fun i => (i.zero, i.size, i.bytes)) = some (some (.int .u8 0), 1, 1) := by kernel_rfl

theorem clip_any (a : Option Addr) (n cap : Nat) (w : World) (h : a = none → n = 0 ∧ cap = 0) (hc : n ≤ cap) (hm : cap ≤ 9223372036854775807) :
    Calls Try.prog 18 #[.slice a n cap] w fun e w' => e = .returned (.slice a n n) ∧ w' = w := by
  cases a with
  | none =>
    obtain ⟨rfl, rfl⟩ := h rfl
    go_enter Try.func18, Try.ntmps18
    go_wp2
    go_ret
    exact ⟨rfl, rfl⟩
  | some x =>
    go_enter Try.func18, Try.ntmps18
    go_wp2
    go_ret
    exact ⟨rfl, rfl⟩

/-- 'append(s, x)' of one element first lays x in a block of its own: the one cell lies there -/
theorem one_cell_new (w : World) (x : Value) (t : TypeId) : ∀ j u, [x][j]? = some u → (w.alloc (.cells #[x] t)).cell? ((⟨w.heap.size, 0, none⟩ : Addr).add j) = some u := by
  intro j u hj
  match j, hj with
  | 0, hj =>
    simp at hj
    subst hj
    simp [Addr.add]
theorem one_int (k : IntKind) (z : Int) : ∀ u ∈ [Value.int k z], u.oneCell' = true := by
  intro u hu
  simp at hu
  subst hu
  rfl

def CurPost (w : World) (xs : List Int) (e : Ending) (w' : World) : Prop :=
  ∃ g cap, e = .returned (.slice (some ⟨g, 0, none⟩) (xs.length + 1) cap) ∧ Below w.heap.size w w' ∧ Row w' (some ⟨g, 0, none⟩) (xs ++ [0])

/-- what append leaves, as 'Row' -/
theorem row_of_owns {w : World} {base : Nat} {v : Value} {xs : List Int} {n : Nat} (hn : xs.length = n) (hpos : 0 < n) (h : w.ownsRow base 5 1 v n (xs.map (Value.int .u8))) :
    ∃ g cap, v = .slice (some ⟨g, 0, none⟩) n cap ∧ Row w (some ⟨g, 0, none⟩) xs := by
  rcases h.2 with ⟨_, h0⟩ | ⟨g, cap, cur, hv, _⟩
  · omega
  · refine ⟨g, cap, hv, Or.inr ⟨g, 0, rfl, fun i hi => ?_⟩⟩
    subst hv
    rw [Nat.zero_add, h.cellAt i (by omega)]
    simp [List.getD, hi]

set_option maxRecDepth 100000 in
theorem next16_any (a : Option Addr) (n cap : Nat) (xs : List Int) (w : World) (hx : xs.length = n) (h : a = none → n = 0 ∧ cap = 0) (hc : n ≤ cap) (hm : cap ≤ 9223372036854775807) (hn : n ≤ 1048576) (hr : Row w a xs) :
    Calls Try.prog 16 #[.slice a n cap] w (CurPost w xs) := by
  obtain ⟨i5, hi5, hz0, hz1, hz2⟩ := info_parts Try.info5
  have holds : ∀ b, a = some b → ∀ j u, (xs.map (Value.int .u8))[j]? = some u → (w.alloc (.cells #[.int .u8 0] 5)).cell? (b.add j) = some u := by
    intro b hb j u hj
    have hjl : j < xs.length := by have := (List.getElem?_eq_some_iff.1 hj).1; simpa using this
    rcases hr with rfl | ⟨b', o', ha, hcell⟩
    · simp at hjl
    · rw [hb] at ha
      obtain rfl := Option.some.inj ha
      rw [Addr.add_lit]
      have h1 := hcell j hjl
      rw [World.cell?_alloc_lt _ _ _ (World.block_lt_of_cell? _ _ h1), h1, ← hj]
      simp [List.getD, hjl]
  go_enter Try.func16, Try.ntmps16
  go_wp2_with fail
  refine (clip_any a n cap w h hc hm).mono ?_
  rintro e w' ⟨rfl, rfl⟩
  have h' : a = none → n = 0 ∧ n = 0 := fun e => ⟨(h e).1, (h e).1⟩
  have HH : Hid (a = none → n = 0 ∧ n = 0) := h'
  have HO : Hid (∀ b, a = some b → ∀ j u, (xs.map (Value.int .u8))[j]? = some u → (w'.alloc (.cells #[.int .u8 0] 5)).cell? (b.add j) = some u) := holds
  have HX : Hid (xs.length = n) := hx
  clear h h' holds hx hr
  go_wp2_with (at_builtin; (refine wpList_append_grows _ rfl _ _ 22 rfl 5 i5 (.int .u8 0) 1 1 Try.underlying22 hi5 hz0 hz1 hz2 rfl (by decide) a n n (xs.map (Value.int .u8)) rfl HH.out (by rw [List.length_map, HX.out, Nat.mul_one]) HO.out ⟨w'.heap.size, 0, none⟩ 1 1 [.int .u8 0] rfl rfl (one_cell_new _ _ _) (one_int _ _) (by omega) (by unfold maxLen; omega) (by omega) ?_))
  intro v' w2 hown hg
  have hap : xs.map (Value.int .u8) ++ [.int .u8 0] = (xs ++ [0]).map (Value.int .u8) := by simp
  rw [hap] at hown
  obtain ⟨g, cap', hv, hrow⟩ := row_of_owns (by simp [HX.out]) (by omega) hown
  have hb : Below w'.heap.size w' w2 := ((Below.refl _ _).alloc (Nat.le_refl _) _).grown hg (by simp) (fun k hk => by cases hk)
  rw [hv]
  clear hv hown hg hap HO HH
  go_wp2
  go_ret
  exact ⟨g, cap', by rw [HX.out]; rfl, hb, hrow⟩

theorem next_any (a : Option Addr) (n cap : Nat) (xs : List Int) (w : World) (hx : xs.length = n) (h : a = none → n = 0 ∧ cap = 0) (hc : n ≤ cap) (hm : cap ≤ 9223372036854775807) (hn : n ≤ 1048576) (hr : Row w a xs) :
    Calls Try.prog 8 #[.slice a n cap] w (CurPost w xs) := by
  go_enter Try.func8, Try.ntmps8
  go_wp2_with fail
  refine (next16_any a n cap xs w hx h hc hm hn hr).mono ?_
  rintro e w' ⟨g, cap', rfl, hb, hrow⟩
  subst hx
  go_wp2
  go_ret
  exact ⟨g, cap', rfl, hb, hrow⟩

end Go.Proofs.Qxb6613663a
