/-
  THE LAW's OWN MEMORY WHILE IT REBUILDS THE LISTS: the row 'rebuilt' (block bR), its n slices, each over a block of its own; the edges' row (block g) stays.
-/
import Derived.Test.Qxb6613598aEdg
import Derived.Maps.AppendAt
namespace Go.Proofs.Qxb6613598a
open Go.RowKit Plain

theorem Try.info24 : (Try.prog.info? 24).map (fun i => (i.zero, i.size, i.bytes)) = some (some (.slice none 0 0), 1, 24) := by kernel_rfl

theorem ownsRow_setCell_other {w : World} {base : Nat} {e : TypeId} {size : Nat} {v : Value} {n : Nat} {xs : List Value} (h : w.ownsRow base e size v n xs) {a : Addr} (ha : v.ownBlock ≠ some a.block) (u : Value) : (w.setCell a u).ownsRow base e size v n xs := by
  obtain ⟨h1, h2⟩ := h
  refine ⟨h1, ?_⟩
  rcases h2 with h2 | ⟨g, cap, cur, hv, hg, hh, r⟩
  · exact Or.inl h2
  · refine Or.inr ⟨g, cap, cur, hv, hg, ?_, r⟩
    rw [Below.heap_setCell _ _ _ _ (fun e => ha (by rw [hv, ← e]; rfl))]
    exact hh

def val (VA : Nat → Option Addr) (VC : Nat → Nat) (T : Nat → List Int) (i : Nat) : Value := .slice (VA i) (T i).length (VC i)

structure Reb (w wr : World) (n g c bR : Nat) (es : List (Int × Int)) (VA : Nat → Option Addr) (VC : Nat → Nat) (T : Nat → List Int) : Prop where
  below : Below w.heap.size w wr
  got : wr.ownsRow g 35 2 (.slice (some ⟨g, 0, none⟩) es.length c) es.length (ev es)
  ge : w.heap.size ≤ g
  lt : g < bR
  row : wr.rowIs bR 24 n (val VA VC T)
  own : ∀ i, i < n → wr.ownsRow (bR + 1) 3 1 (val VA VC T i) (T i).length ((T i).map (Value.int .i64))
  apart : ∀ i j, i < n → j < n → i ≠ j → (val VA VC T i).ownBlock = none ∨ (val VA VC T i).ownBlock ≠ (val VA VC T j).ownBlock

theorem Reb.start {w wr : World} {n g c : Nat} {es : List (Int × Int)} (hb : Below w.heap.size w wr) (hge : w.heap.size ≤ g) (hgot : wr.ownsRow g 35 2 (.slice (some ⟨g, 0, none⟩) es.length c) es.length (ev es)) :
    Reb w (wr.alloc (.cells (madeCells #[.slice none 0 0] n) 24)) n g c wr.heap.size es (fun _ => none) (fun _ => 0) (fun _ => []) := by
  refine ⟨hb.alloc hb.size _, hgot.alloc _, hge, (hgot.lt g rfl).2, World.rowIs_made wr _ n 24, fun i _ => World.ownsRow_nil _ _ _ _, fun _ _ _ _ _ => Or.inl rfl⟩

def put {α : Type} (f : Nat → α) (a : Nat) (x : α) : Nat → α := fun j => if j = a then x else f j
theorem put_self {α : Type} (f : Nat → α) (a : Nat) (x : α) : put f a x a = x := by simp [put]
theorem put_other {α : Type} (f : Nat → α) {a j : Nat} (x : α) (h : j ≠ a) : put f a x j = f j := by simp [put, h]

theorem Reb.block {w wr : World} {n g c bR : Nat} {es : List (Int × Int)} {VA : Nat → Option Addr} {VC : Nat → Nat} {T : Nat → List Int} (h : Reb w wr n g c bR es VA VC T) {i : Nat} (hi : i < n) : ∀ k, (val VA VC T i).ownBlock = some k → bR + 1 ≤ k ∧ k < wr.heap.size :=
  (h.own i hi).lt

/-- 'rebuilt[a] = append(rebuilt[a], x)' -/
theorem Reb.step {w wr w1 : World} {n g c bR : Nat} {es : List (Int × Int)} {VA : Nat → Option Addr} {VC : Nat → Nat} {T : Nat → List Int} (h : Reb w wr n g c bR es VA VC T) {a : Nat} (ha : a < n) (x : Int) (o : Obj) (v' : Value)
    (hown : w1.ownsRow (bR + 1) 3 1 v' ((T a).length + 1) ((T a).map (Value.int .i64) ++ [.int .i64 x])) (hg : (wr.alloc o).grownBy w1 (val VA VC T a).ownBlock)
    (hat : v'.ownBlock = (val VA VC T a).ownBlock ∨ v'.ownBlock = some (wr.heap.size + 1)) :
    ∃ (g' cap' : Nat), v' = .slice (some ⟨g', 0, none⟩) ((T a).length + 1) cap' ∧ w1.cell? ⟨bR, a, none⟩ = some (val VA VC T a) ∧ w1.frozen? ⟨bR, a, none⟩ = false ∧
      Reb w (w1.setCell ⟨bR, a, none⟩ v') n g c bR es (put VA a (some ⟨g', 0, none⟩)) (put VC a cap') (put T a (T a ++ [x])) := by
  have hsz : (wr.alloc o).heap.size = wr.heap.size + 1 := by simp
  have hbR := h.row.lt
  have hge := h.ge
  have hlt := h.lt
  have hv : ∃ (g' cap' : Nat), v' = .slice (some ⟨g', 0, none⟩) ((T a).length + 1) cap' := by
    rcases hown.2 with ⟨_, h0⟩ | ⟨g', cap', _, hv, _⟩
    · omega
    · exact ⟨g', cap', hv⟩
  obtain ⟨g', cap', rfl⟩ := hv
  have hrow1 : w1.rowIs bR 24 n (val VA VC T) := (h.row.alloc o).of_block (hg.block bR (by omega) (fun e => by have := h.block ha bR e.symm; omega))
  have hval : ∀ j, val (put VA a (some ⟨g', 0, none⟩)) (put VC a cap') (put T a (T a ++ [x])) j = if j = a then .slice (some ⟨g', 0, none⟩) ((T a).length + 1) cap' else val VA VC T j := by
    intro j
    by_cases e : j = a
    · subst e; simp [val, put]
    · simp [val, put, e]
  have hat2 : g' < w1.heap.size ∧ bR + 1 ≤ g' ∧ ((val VA VC T a).ownBlock = some g' ∨ g' = wr.heap.size + 1) := by
    have h1 := hown.lt g' rfl
    refine ⟨h1.2, h1.1, ?_⟩
    rcases hat with e | e
    · exact Or.inl e.symm
    · right; simpa [Value.ownBlock] using e
  refine ⟨g', cap', rfl, hrow1.cell ha, hrow1.frozen a, ?_, ?_, hge, hlt, ?_, ?_, ?_⟩
  · refine ((h.below.alloc h.below.size o).grown hg (by rw [hsz]; have := h.below.size; omega) (fun k hk => ?_)).setCell (by show w.heap.size ≤ bR; omega) _
    have := h.block ha k hk; omega
  · refine ownsRow_setCell_other ((h.got.alloc o).kept hg (Or.inr fun e => ?_)) (fun e => ?_) _
    · have := h.block ha g e.symm; omega
    · simp [Value.ownBlock] at e; omega
  · refine (hrow1.set a _).congr fun j _ => ?_
    rw [hval j]
  · intro j hj
    rw [hval j]
    by_cases e : j = a
    · subst e
      rw [if_pos rfl, put_self]
      refine ownsRow_setCell_other ?_ (fun e => ?_) _
      · simpa using hown
      · simp [Value.ownBlock] at e; omega
    · rw [if_neg e, put_other _ _ e]
      refine ownsRow_setCell_other (((h.own j hj).alloc o).kept hg (h.apart j a hj ha e)) (fun e2 => ?_) _
      have := h.block hj bR e2; omega
  · intro i j hi hj hij
    rw [hval i, hval j]
    by_cases ei : i = a
    · subst ei
      have ej : ¬ j = i := fun e => hij e.symm
      rw [if_pos rfl, if_neg ej]
      right
      show some g' ≠ _
      rcases hat2.2.2 with e | e
      · rw [← e]
        intro e3
        rcases h.apart i j hi hj hij with e4 | e4
        · rw [e4] at e; cases e
        · exact e4 e3
      · intro e3
        have := h.block hj g' e3.symm; omega
    · rw [if_neg ei]
      by_cases ej : j = a
      · subst ej
        rw [if_pos rfl]
        show _ ∨ _ ≠ some g'
        rcases hat2.2.2 with e | e
        · rw [← e]; exact h.apart i j hi hj hij
        · right
          intro e3
          have := h.block hi g' e3; omega
      · rw [if_neg ej]
        exact h.apart i j hi hj hij

/-- the cells of a rebuilt list -/
theorem Reb.cells {w wr : World} {n g c bR : Nat} {es : List (Int × Int)} {VA : Nat → Option Addr} {VC : Nat → Nat} {T : Nat → List Int} (h : Reb w wr n g c bR es VA VC T) {i : Nat} (hi : i < n) (k : Nat) (hk : k < (T i).length) :
    ∃ g', VA i = some ⟨g', 0, none⟩ ∧ ∀ k, k < (T i).length → wr.cell? ⟨g', k, none⟩ = some (.int .i64 ((T i).getD k 0)) := by
  have ho := h.own i hi
  unfold val at ho
  rcases ho.2 with ⟨_, h0⟩ | ⟨g', cap', _, hv, _⟩
  · omega
  · simp only [Value.slice.injEq] at hv
    obtain ⟨e1, _, e2⟩ := hv
    refine ⟨g', e1, fun k hk => ?_⟩
    rw [e1] at ho
    rw [ho.cellAt k (by omega)]
    simp [List.getD, hk]

theorem Reb.lens {w wr : World} {n g c bR : Nat} {es : List (Int × Int)} {VA : Nat → Option Addr} {VC : Nat → Nat} {T : Nat → List Int} (h : Reb w wr n g c bR es VA VC T) {k : Nat} (hk : k < es.length) :
    wr.cell? ⟨g, k * 2, none⟩ = some (.int .i64 (es[k]).1) ∧ wr.cell? ⟨g, k * 2 + 1, none⟩ = some (.int .i64 (es[k]).2) := by
  have h1 := ev_get es k es[k] (List.getElem?_eq_getElem hk)
  rw [h.got.cellAt (k * 2) (by omega), h.got.cellAt (k * 2 + 1) (by omega), Nat.mul_comm k 2]
  exact h1

theorem rb_take_succ {es : List (Int × Int)} {k : Nat} (hk : k < es.length) (v : Int) : rb (es.take (k + 1)) v = rb (es.take k) v ++ gets v es[k] := by
  rw [List.take_succ_eq_append_getElem hk, rb_snoc]

theorem rb_len (v : Int) : ∀ es : List (Int × Int), (rb es v).length ≤ 2 * es.length
  | [] => by simp [rb]
  | e :: es => by
    have ih := rb_len v es
    have : (gets v e).length ≤ 2 := by
      unfold gets
      split <;> split <;> simp
    simp only [rb, List.flatMap_cons, List.length_append, List.length_cons] at ih ⊢
    omega

/-- what one edge (a, b) gives to each vertex -/
theorem put_put {T : Nat → List Int} {es : List (Int × Int)} {j a b : Nat} (hj : j < es.length) (hT : T = fun v : Nat => rb (es.take j) (v : Int)) (he : es[j] = ((a : Int), (b : Int))) (hab : a < b) :
    put (put T a (T a ++ [(b : Int)])) b (put T a (T a ++ [(b : Int)]) b ++ [(a : Int)]) = fun v : Nat => rb (es.take (j + 1)) (v : Int) := by
  funext v
  rw [rb_take_succ hj, he]
  by_cases e1 : v = b
  · subst e1
    rw [put_self, put_other _ _ (by omega), hT]
    have e3 : gets (v : Int) ((a : Int), (v : Int)) = [(a : Int)] := by
      unfold gets
      rw [if_neg (show ¬ (a : Int) = v by omega), if_pos rfl]; rfl
    rw [e3]
  · rw [put_other _ _ e1]
    by_cases e2 : v = a
    · subst e2
      rw [put_self, hT]
      have e3 : gets (v : Int) ((v : Int), (b : Int)) = [(b : Int)] := by
        unfold gets
        rw [if_pos rfl, if_neg (show ¬ (b : Int) = v by omega)]; rfl
      rw [e3]
    · rw [put_other _ _ e2, hT]
      have e3 : gets (v : Int) ((a : Int), (b : Int)) = [] := by
        unfold gets
        rw [if_neg (show ¬ (a : Int) = v by omega), if_neg (show ¬ (b : Int) = v by omega)]; rfl
      rw [e3, List.append_nil]

end Go.Proofs.Qxb6613598a
