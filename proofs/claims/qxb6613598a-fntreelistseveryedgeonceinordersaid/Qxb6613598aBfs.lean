/-
  zzIsTree's OWN MEMORY WHILE IT SEARCHES: the row 'seen' (block B), the row 'queue' (block B + 1). No more vertices are put into the queue than there are.
-/
import Derived.Test.Qxb6613598aMem
import Derived.Deep.OwnRows
namespace Go.Proofs.Qxb6613598a
open Go.RowKit

theorem Try.info3 : (Try.prog.info? 3).map (fun i => (i.zero, i.size, i.bytes)) = some (some (.int .i64 0), 1, 8) := by kernel_rfl
theorem Try.info4 : (Try.prog.info? 4).map (fun i => (i.zero, i.size, i.bytes)) = some (some (.bool false), 1, 1) := by kernel_rfl

/-- 'append(s, x)' of one element first lays x in a block of its own: the one cell lies there -/
theorem one_cell_new (w : World) (g : Nat) (x : Value) (t : TypeId) (hg : g = w.heap.size) : ∀ j u, [x][j]? = some u → (w.alloc (.cells #[x] t)).cell? ((⟨g, 0, none⟩ : Addr).add j) = some u := by
  subst hg
  intro j u hj
  match j, hj with
  | 0, hj =>
    simp at hj
    subst hj
    simp [Addr.add]
theorem one_int (k : IntKind) (z : Int) : ∀ u ∈ [Value.int k z], u.oneCell' = true := by
  intro u hu
  simp at hu
  subst hu
  rfl
theorem size_setCell (w : World) (a : Addr) (v : Value) : (w.setCell a v).heap.size = w.heap.size := by simp [World.setCell]

/-- how many of the first n are seen -/
def cnt (S : Nat → Bool) : Nat → Nat
  | 0 => 0
  | n + 1 => cnt S n + if S n then 1 else 0
theorem cnt_le (S : Nat → Bool) : ∀ n, cnt S n ≤ n
  | 0 => Nat.le_refl _
  | n + 1 => by have := cnt_le S n; unfold cnt; split <;> omega
theorem cnt_none : ∀ n, cnt (fun _ => false) n = 0
  | 0 => rfl
  | n + 1 => by simp [cnt, cnt_none n]
theorem cnt_set (S : Nat → Bool) (i : Nat) (hS : S i = false) : ∀ n, cnt (fun j => if j = i then true else S j) n = cnt S n + if i < n then 1 else 0
  | 0 => by simp [cnt]
  | n + 1 => by
    have ih := cnt_set S i hS n
    unfold cnt
    rw [ih]
    by_cases e : n = i
    · subst e; simp [hS]
    · simp only [if_neg e]
      by_cases hlt : i < n
      · rw [if_pos hlt, if_pos (show i < n + 1 by omega)]; omega
      · rw [if_neg hlt, if_neg (show ¬ i < n + 1 by omega)]; omega

structure Bfs (w wr : World) (B n q : Nat) (qs : List Int) (S : Nat → Bool) : Prop where
  isB : w.heap.size = B
  below : Below B w wr
  seen : wr.rowIs B 4 n (fun i => .bool (S i))
  own : wr.ownsRow (B + 1) 3 1 (.slice (some ⟨B + 1, 0, none⟩) q n) q (qs.map (Value.int .i64))
  cnt : cnt S n = q
  rng : ∀ x ∈ qs, 0 ≤ x ∧ x < n

theorem Bfs.len {w wr : World} {B n q : Nat} {qs : List Int} {S : Nat → Bool} (h : Bfs w wr B n q qs S) : qs.length = q := by
  have := h.own.1; simpa using this
theorem Bfs.le {w wr : World} {B n q : Nat} {qs : List Int} {S : Nat → Bool} (h : Bfs w wr B n q qs S) : q ≤ n := by
  have := cnt_le S n; have := h.cnt; omega
theorem Bfs.size {w wr : World} {B n q : Nat} {qs : List Int} {S : Nat → Bool} (h : Bfs w wr B n q qs S) : B + 1 < wr.heap.size := by
  have := (h.own.lt (B + 1) rfl).2; exact this
theorem Bfs.at {w wr : World} {B n q : Nat} {qs : List Int} {S : Nat → Bool} (h : Bfs w wr B n q qs S) {k : Nat} (hk : k < q) : ∃ x : Nat, x < n ∧ wr.cell? ⟨B + 1, k, none⟩ = some (.int .i64 (x : Nat)) := by
  have hl := h.len
  have hx := h.rng (qs[k]'(by omega)) (List.getElem_mem _)
  refine ⟨(qs[k]'(by omega)).toNat, by omega, ?_⟩
  rw [h.own.cellAt k (by omega)]
  simp only [List.getElem?_map]
  rw [List.getElem?_eq_getElem (by omega)]
  simp only [Option.map_some]
  congr 2
  omega

theorem Bfs.room {w wr : World} {B n q : Nat} {qs : List Int} {S : Nat → Bool} (h : Bfs w wr B n q qs S) {z : Nat} (hz : z < n) (hS : S z = false) : q + 1 ≤ n := by
  have h1 := cnt_set S z hS n
  have h2 := cnt_le (fun j => if j = z then true else S j) n
  have h3 := h.cnt
  rw [if_pos hz] at h1
  omega

/-- 'seen[i] = true; queue = append(queue, i)': what the round's store and append leave -/
theorem Bfs.step {w wr w1 : World} {B n q : Nat} {qs : List Int} {S : Nat → Bool} {z : Int} (h : Bfs w wr B n q qs S) (h0 : 0 ≤ z) (h1 : z < n) (hS : S z.toNat = false) (o : Obj)
    (hown : w1.ownsRow (B + 1) 3 1 (.slice (some ⟨B + 1, 0, none⟩) (q + 1) n) (q + 1) (qs.map (Value.int .i64) ++ [.int .i64 z]))
    (hg : ((wr.setCell ⟨B, z.toNat, none⟩ (.bool true)).alloc o).grownBy w1 (some (B + 1))) :
    Bfs w w1 B n (q + 1) (qs ++ [z]) (fun j => if j = z.toNat then true else S j) := by
  have hsz := h.size
  have hsz2 : (wr.setCell ⟨B, z.toNat, none⟩ (.bool true)).heap.size = wr.heap.size := by simp [World.setCell]
  refine ⟨h.isB, ?_, ?_, by simpa using hown, ?_, ?_⟩
  · refine ((h.below.setCell (Nat.le_refl _) _).alloc (by rw [hsz2]; omega) o).grown hg (by simp; omega) ?_
    intro k hk
    simp at hk; omega
  · have h2 := ((h.seen.set z.toNat (.bool true)).alloc o)
    have h3 : w1.rowIs B 4 n _ := h2.of_block (hg.block B (by have := h2.lt; exact this) (by simp))
    refine h3.congr fun j _ => ?_
    split <;> rfl
  · rw [cnt_set S _ hS n, h.cnt, if_pos (by omega)]
  · intro x hx
    rcases List.mem_append.1 hx with hx | hx
    · exact h.rng x hx
    · simp at hx; subst hx; exact ⟨h0, h1⟩

/-- the start: both rows are made, vertex 0 is seen and stands in the queue -/
theorem Bfs.start {w w1 w2 : World} {n : Nat} (hn : 0 < n) (o : Obj)
    (hown0 : w1.ownsRow (w.heap.size + 1) 3 1 (.slice (some ⟨w.heap.size + 1, 0, none⟩) 0 n) 0 [])
    (hg0 : (w.alloc (.cells (madeCells #[.bool false] n) 4)).grownBy w1 none)
    (hown : w2.ownsRow (w.heap.size + 1) 3 1 (.slice (some ⟨w.heap.size + 1, 0, none⟩) 1 n) 1 [.int .i64 0])
    (hg : ((w1.setCell ⟨w.heap.size, 0, none⟩ (.bool true)).alloc o).grownBy w2 (some (w.heap.size + 1))) :
    Bfs w w2 w.heap.size n 1 [0] (fun j => if j = 0 then true else false) := by
  have h0 : Bfs w w1 w.heap.size n 0 [] (fun _ => false) := by
    refine ⟨rfl, ?_, ?_, hown0, cnt_none n, fun x hx => by cases hx⟩
    · exact ((Below.refl _ _).alloc (Nat.le_refl _) _).grown hg0 (by simp) (fun k hk => by cases hk)
    · have h2 := World.rowIs_made w (.bool false) n 4
      exact h2.of_block (hg0.block _ h2.lt (by simp))
  exact h0.step (z := 0) (by omega) (by omega) rfl o (by simpa using hown) hg

end Go.Proofs.Qxb6613598a
