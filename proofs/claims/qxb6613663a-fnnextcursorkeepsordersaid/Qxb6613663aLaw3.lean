/-
  THE WALK OF FnNextCursorLeastAbove (function 3).
-/
import Derived.Test.Qxb6613663aCur
import Derived.Laws.CopyOwn
import Derived.Deep.OwnRows
namespace Go.Proofs.Qxb6613663a
open Go.RowKit Plain

theorem Try.size5 : (Try.prog.info? 5).map (·.size) = some 1 := by kernel_rfl

def BPost (w : World) (e : Ending) (w' : World) : Prop := ∃ r : Bool, e = .returned (.bool r) ∧ w' = w
theorem bytes7_any (a a2 : Option Addr) (n cap n2 cap2 : Nat) (w : World) (hn : n ≤ 9223372036854775807) (hn2 : n2 ≤ 9223372036854775807) :
    Calls Try.prog 7 #[.slice a n cap, .slice a2 n2 cap2] w (BPost w) := by
  go_enter Try.func7, Try.ntmps7
  go_wp2
  all_goals
    go_ret
    exact ⟨_, rfl, rfl⟩
theorem bytes10_any (a a2 : Option Addr) (n cap n2 cap2 : Nat) (w : World) (hn : n ≤ 9223372036854775807) (hn2 : n2 ≤ 9223372036854775807) :
    Calls Try.prog 10 #[.slice a n cap, .slice a2 n2 cap2] w (BPost w) := by
  go_enter Try.func10, Try.ntmps10
  go_wp2
  all_goals
    go_ret
    exact ⟨_, rfl, rfl⟩

/-- 'zzc := make([]byte, len(s)); copy(zzc, s)': the copy's run, and what it leaves -/
theorem copy_run (x0 : Addr) (n cap : Nat) (xs : List Int) (w : World) (hn : xs.length = n) (hcell : ∀ i, i < n → w.cell? (x0.add i) = some (.int .u8 (xs.getD i 0))) :
    ∃ w2, (Builtin.copy_ #[22, 22] 3 #[.slice (some ⟨w.heap.size, 0, none⟩) n n, .slice (some x0) n cap]).run Try.prog (w.alloc (.cells (madeCells #[.int .u8 0] n) 5)) = .ok (.int .i64 n) w2 ∧
      Below w.heap.size w w2 ∧ Row w2 (some ⟨w.heap.size, 0, none⟩) xs := by
  have hg : (w.alloc (.cells (madeCells #[.int .u8 0] n) 5)).heap[w.heap.size]? = some (.cells (madeCells #[.int .u8 0] n) 5 (0, 0)) := heap_alloc_new w _
  have hl : (xs.map (Value.int .u8)).length = n := by simp [hn]
  have hsz : (madeCells #[Value.int .u8 0] n).size = n := size_madeCells _ _
  have hr := run_copy_row (P := Try.prog) (w.alloc (.cells (madeCells #[.int .u8 0] n) 5)) 22 22 3 5 w.heap.size 0 n n x0 n cap _ 5 (xs.map (Value.int .u8)) Try.underlying22 Try.size5 hg (by rw [hl]; exact (Nat.min_self n).symm)
    (fun j v hj => by
      have hjl : j < xs.length := by have := (List.getElem?_eq_some_iff.1 hj).1; simpa using this
      have h1 := hcell j (by omega)
      rw [World.cell?_alloc_lt _ _ _ (World.block_lt_of_cell? _ _ h1), h1, ← hj]
      simp [List.getD, hjl]) (by rw [hl, hsz]; omega) (ints_oneCell _ _)
  rw [hl] at hr
  refine ⟨_, hr, below_setRow ((Below.refl _ _).alloc (Nat.le_refl _) _) (Nat.le_refl _) _, ?_⟩
  have hg2 := setRow_heap (w.alloc (.cells (madeCells #[.int .u8 0] n) 5)) w.heap.size _ (((madeCells #[Value.int .u8 0] n).toList.take 0 ++ xs.map (Value.int .u8) ++ (madeCells #[Value.int .u8 0] n).toList.drop (0 + n)).toArray) 5 _ hg
  have e : ((madeCells #[Value.int .u8 0] n).toList.take 0 ++ xs.map (Value.int .u8) ++ (madeCells #[Value.int .u8 0] n).toList.drop (0 + n)) = xs.map (Value.int .u8) := by
    rw [List.drop_eq_nil_of_le (by rw [Array.length_toList, hsz]; omega)]; simp
  refine Or.inr ⟨w.heap.size, 0, rfl, fun i hi => ?_⟩
  rw [e] at hg2 ⊢
  rw [Nat.zero_add, cell_of_row _ w.heap.size i _ 5 (0, 0) hg2]
  simp [List.getD, hi]

def LawPost (w : World) (e : Ending) (w' : World) : Prop := e = .returned (.bool true) ∧ Below w.heap.size w w'

theorem Row.drewN {w : World} {a : Option Addr} {xs : List Int} (h : Row w a xs) (n : Nat) : Row (w.drewN n) a xs := h

set_option maxRecDepth 100000 in
theorem law3_some (x0 : Addr) (cap : Nat) (xs : List Int) (a1 : Option Addr) (cap1 : Nat) (ys : List Int) (w : World) (hc : xs.length ≤ 9223372036854775807) (hc1 : ys.length ≤ 9223372036854775807)
    (hcell : ∀ i, i < xs.length → w.cell? (x0.add i) = some (.int .u8 (xs.getD i 0))) (hr : Row w a1 ys) (hpos : ∀ y ∈ ys, 0 ≤ y) :
    Calls Try.prog 3 #[.slice (some x0) xs.length cap, .slice a1 ys.length cap1] w (LawPost w) := by
  have HP : Hid (∀ y ∈ ys, 0 ≤ y) := hpos
  have HC : Hid (∀ i, i < xs.length → w.cell? (x0.add i) = some (.int .u8 (xs.getD i 0))) := hcell
  clear hpos hcell
  go_enter Try.func3, Try.ntmps3
  go_wp2_with fail
  refine (bytes7_any _ _ xs.length cap ys.length cap1 w hc hc1).mono ?_
  rintro e w' ⟨r, rfl, rfl⟩
  cases r with
  | false =>
    go_wp2
    go_ret
    exact ⟨rfl, Below.refl _ _⟩
  | true =>
    by_cases hb0 : 524288 < xs.length
    · go_wp2
      go_ret
      exact ⟨rfl, Below.refl _ _⟩
    by_cases hb1 : 524288 < ys.length
    · go_wp2
      go_ret
      exact ⟨rfl, Below.refl _ _⟩
    have hnil := fun (wx : World) => run_neq_slice_nil_any (P := Try.prog) wx 22 5 (some x0) xs.length cap 0 0 Try.underlying22
    have hmk := run_make_row' (P := Try.prog) 22 5 (.int .u8 0) 1 Try.underlying22 Try.info5 rfl .i64 .i64 xs.length (by omega) (by omega)
    obtain ⟨w2, hrun, hbel, hrow⟩ := copy_run x0 xs.length cap xs w' rfl HC.out
    have hr2 := hr.below hbel
    clear hr HC
    go_wp2_with fail
    clear hrun hmk hnil
    refine (next_any (some ⟨w'.heap.size, 0, none⟩) xs.length xs.length xs w2 rfl (fun h => by cases h) (Nat.le_refl _) (by omega) (by omega) hrow).mono ?_
    rintro e w3 ⟨g, capg, rfl, hb3, hrc⟩
    have hbel3 : Below w'.heap.size w' w3 := hbel.trans (hb3.mono hbel.size)
    have hrow3 := hrow.below hb3
    have hr3 := hr2.below hb3
    clear hrow hr2 hb3
    go_wp2_with fail
    refine (cmp_any (some ⟨g, 0, none⟩) (some ⟨w'.heap.size, 0, none⟩) (xs.length + 1) capg xs.length xs.length (xs ++ [0]) xs w3 (by simp) rfl (by omega) (by omega) hrc hrow3).mono ?_
    rintro e w4 ⟨rfl, m1, rfl⟩
    rw [cmpL_snoc]
    go_wp2_with fail
    refine (cmp_any a1 (some ⟨w'.heap.size, 0, none⟩) ys.length cap1 xs.length xs.length ys xs _ rfl rfl (by omega) (by omega) (hr3.drewN m1) (hrow3.drewN m1)).mono ?_
    rintro e w4 ⟨rfl, m2, rfl⟩
    have HLE : Hid (0 < cmpL ys xs → 0 ≤ cmpL ys (xs ++ [0])) := cmpL_least ys xs HP.out
    generalize cmpL ys xs = c1 at HLE
    by_cases hc1 : 0 < c1
    · have hc2 := HLE.out hc1
      clear HLE
      go_wp2_with fail
      refine (cmp_any a1 (some ⟨g, 0, none⟩) ys.length cap1 (xs.length + 1) capg ys (xs ++ [0]) _ rfl (by simp) (by omega) (by omega) (hr3.drewN (m1 + m2)) (hrc.drewN (m1 + m2))).mono ?_
      rintro e w4 ⟨rfl, m3, rfl⟩
      generalize cmpL ys (xs ++ [0]) = c2 at hc2
      go_wp2
      go_ret
      exact ⟨rfl, below_drewN hbel3 _⟩
    · clear HLE
      go_wp2
      go_ret
      exact ⟨rfl, below_drewN hbel3 _⟩

set_option maxRecDepth 100000 in
theorem law3_none (a1 : Option Addr) (cap1 : Nat) (ys : List Int) (w : World) (hc1 : ys.length ≤ 9223372036854775807) (hr : Row w a1 ys) (hpos : ∀ y ∈ ys, 0 ≤ y) :
    Calls Try.prog 3 #[.slice none 0 0, .slice a1 ys.length cap1] w (LawPost w) := by
  have HP : Hid (∀ y ∈ ys, 0 ≤ y) := hpos
  clear hpos
  go_enter Try.func3, Try.ntmps3
  go_wp2_with fail
  refine (bytes7_any _ _ 0 0 ys.length cap1 w (by omega) hc1).mono ?_
  rintro e w2 ⟨r, rfl, rfl⟩
  cases r with
  | false =>
    go_wp2
    go_ret
    exact ⟨rfl, Below.refl _ _⟩
  | true =>
    by_cases hb1 : 524288 < ys.length
    · go_wp2
      go_ret
      exact ⟨rfl, Below.refl _ _⟩
    have hnil := fun (wx : World) => run_neq_slice_nil_any (P := Try.prog) wx 22 5 none 0 0 0 0 Try.underlying22
    have hrow : Row w2 none [] := Or.inl rfl
    have hbel : Below w2.heap.size w2 w2 := Below.refl _ _
    have hr2 := hr
    clear hr
    go_wp2_with fail
    clear hnil
    refine (next_any none 0 0 [] w2 rfl (fun _ => ⟨rfl, rfl⟩) (Nat.le_refl _) (by omega) (by omega) hrow).mono ?_
    rintro e w3 ⟨g, capg, rfl, hb3, hrc⟩
    have hbel3 : Below w2.heap.size w2 w3 := hbel.trans (hb3.mono hbel.size)
    have hrow3 := hrow.below hb3
    have hr3 := hr2.below hb3
    clear hrow hr2 hb3
    go_wp2_with fail
    refine (cmp_any (some ⟨g, 0, none⟩) none (0 + 1) capg 0 0 ([] ++ [0]) [] w3 (by simp) rfl (by omega) (by omega) hrc hrow3).mono ?_
    rintro e w4 ⟨rfl, m1, rfl⟩
    rw [cmpL_snoc]
    go_wp2_with fail
    refine (cmp_any a1 none ys.length cap1 0 0 ys [] _ rfl rfl (by omega) (by omega) (hr3.drewN m1) (hrow3.drewN m1)).mono ?_
    rintro e w4 ⟨rfl, m2, rfl⟩
    have HLE : Hid (0 < cmpL ys [] → 0 ≤ cmpL ys ([] ++ [0])) := cmpL_least ys [] HP.out
    generalize cmpL ys [] = c1 at HLE
    by_cases hc1 : 0 < c1
    · have hc2 := HLE.out hc1
      clear HLE
      go_wp2_with fail
      refine (cmp_any a1 (some ⟨g, 0, none⟩) ys.length cap1 (0 + 1) capg ys ([] ++ [0]) _ rfl (by simp) (by omega) (by omega) (hr3.drewN (m1 + m2)) (hrc.drewN (m1 + m2))).mono ?_
      rintro e w4 ⟨rfl, m3, rfl⟩
      generalize cmpL ys ([] ++ [0]) = c2 at hc2
      go_wp2
      go_ret
      exact ⟨rfl, below_drewN hbel3 _⟩
    · clear HLE
      go_wp2
      go_ret
      exact ⟨rfl, below_drewN hbel3 _⟩

end Go.Proofs.Qxb6613663a
