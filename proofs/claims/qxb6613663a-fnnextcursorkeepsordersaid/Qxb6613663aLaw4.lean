/-
  THE WALK OF FnNextCursorKeepsOrder (function 4).
-/
import Derived.Test.Qxb6613663aLaw3
namespace Go.Proofs.Qxb6613663a
open Go.RowKit Plain

theorem cells_below {w w' : World} {x0 : Addr} {xs : List Int} (h : ∀ i, i < xs.length → w.cell? (x0.add i) = some (.int .u8 (xs.getD i 0))) (hb : Below w.heap.size w w') : ∀ i, i < xs.length → w'.cell? (x0.add i) = some (.int .u8 (xs.getD i 0)) :=
  fun i hi => (hb.cell (World.block_lt_of_cell? _ _ (h i hi))).trans (h i hi)

set_option maxRecDepth 100000 in
theorem law4_some_some (x0 : Addr) (cap : Nat) (xs : List Int) (x1 : Addr) (cap1 : Nat) (ys : List Int) (w : World) (hc : xs.length ≤ 9223372036854775807) (hcell : ∀ i, i < xs.length → w.cell? (x0.add i) = some (.int .u8 (xs.getD i 0))) (hpos : ∀ y ∈ xs, 0 ≤ y) (hc1 : ys.length ≤ 9223372036854775807) (hcell1 : ∀ i, i < ys.length → w.cell? (x1.add i) = some (.int .u8 (ys.getD i 0))) (hpos1 : ∀ y ∈ ys, 0 ≤ y) :
    Calls Try.prog 4 #[.slice (some x0) xs.length cap, .slice (some x1) ys.length cap1] w (LawPost w) := by
  have KP : Hid (cmpL (xs ++ [0]) (ys ++ [0]) = cmpL xs ys) := cmpL_keeps xs ys hpos hpos1
  have HC : Hid (∀ i, i < xs.length → w.cell? (x0.add i) = some (.int .u8 (xs.getD i 0))) := hcell
  clear hpos hcell
  have HC1 : Hid (∀ i, i < ys.length → w.cell? (x1.add i) = some (.int .u8 (ys.getD i 0))) := hcell1
  clear hpos1 hcell1
  go_enter Try.func4, Try.ntmps4
  go_wp2_with fail
  refine (bytes10_any _ _ xs.length cap ys.length cap1 w (by omega) (by omega)).mono ?_
  rintro e w' ⟨r, rfl, rfl⟩
  cases r with
  | false =>
    go_wp2
    go_ret
    exact ⟨rfl, Below.refl _ _⟩
  | true =>
    by_cases hb0 : 524288 < xs.length
    · go_wp2
      go_ret
      exact ⟨rfl, Below.refl _ _⟩
    by_cases hb1 : 524288 < ys.length
    · go_wp2
      go_ret
      exact ⟨rfl, Below.refl _ _⟩
    have hnil0 := fun (wx : World) => run_neq_slice_nil_any (P := Try.prog) wx 22 5 (some x0) xs.length cap 0 0 Try.underlying22
    have hnil1 := fun (wx : World) => run_neq_slice_nil_any (P := Try.prog) wx 22 5 (some x1) ys.length cap1 0 0 Try.underlying22
    have hmk0 := run_make_row' (P := Try.prog) 22 5 (.int .u8 0) 1 Try.underlying22 Try.info5 rfl .i64 .i64 xs.length (by omega) (by omega)
    obtain ⟨w2, hrun0, hbel, hrow0⟩ := copy_run x0 xs.length cap xs w' rfl HC.out
    have hmk1 := run_make_row' (P := Try.prog) 22 5 (.int .u8 0) 1 Try.underlying22 Try.info5 rfl .i64 .i64 ys.length (by omega) (by omega)
    obtain ⟨w3, hrun1, hbel3, hrow1⟩ := copy_run x1 ys.length cap1 ys w2 rfl (cells_below HC1.out hbel)
    have hrow0 := hrow0.below hbel3
    have hbel := hbel.trans (hbel3.mono hbel.size)
    go_wp2_with fail
    clear hnil0 hnil1 hmk0 hrun0 hmk1 hrun1
    refine (next_any (some ⟨w'.heap.size, 0, none⟩) xs.length xs.length xs w3 rfl (fun h => by cases h) (Nat.le_refl _) (by omega) (by omega) hrow0).mono ?_
    rintro e w4 ⟨g0, capg0, rfl, hb4, hrc0⟩
    have hrow0 := hrow0.below hb4
    have hrow1 := hrow1.below hb4
    have hbel := hbel.trans (hb4.mono hbel.size)
    clear hb4
    go_wp2_with fail
    refine (next_any (some ⟨w2.heap.size, 0, none⟩) ys.length ys.length ys w4 rfl (fun h => by cases h) (Nat.le_refl _) (by omega) (by omega) hrow1).mono ?_
    rintro e w5 ⟨g1, capg1, rfl, hb5, hrc1⟩
    have hrow0 := hrow0.below hb5
    have hrow1 := hrow1.below hb5
    have hrc0 := hrc0.below hb5
    have hbel := hbel.trans (hb5.mono hbel.size)
    clear hb5
    go_wp2_with fail
    refine (pfx_any (some ⟨g0, 0, none⟩) (some ⟨w'.heap.size, 0, none⟩) (xs.length + 1) capg0 xs.length xs.length xs [0] w5 (by simp) rfl (by omega) hrc0 hrow0).mono ?_
    rintro e w6 ⟨rfl, m1, rfl⟩
    go_wp2_with fail
    refine (pfx_any (some ⟨g1, 0, none⟩) (some ⟨w2.heap.size, 0, none⟩) (ys.length + 1) capg1 ys.length ys.length ys [0] _ (by simp) rfl (by omega) (hrc1.drewN m1) (hrow1.drewN m1)).mono ?_
    rintro e w6 ⟨rfl, m2, rfl⟩
    go_wp2_with fail
    refine (cmp_any (some ⟨g0, 0, none⟩) (some ⟨g1, 0, none⟩) (xs.length + 1) capg0 (ys.length + 1) capg1 (xs ++ [0]) (ys ++ [0]) _ (by simp) (by simp) (by omega) (by omega) (hrc0.drewN (m1 + m2)) (hrc1.drewN (m1 + m2))).mono ?_
    rintro e w6 ⟨rfl, m3, rfl⟩
    rw [KP.out]
    go_wp2_with fail
    refine (cmp_any (some ⟨w'.heap.size, 0, none⟩) (some ⟨w2.heap.size, 0, none⟩) xs.length xs.length ys.length ys.length xs ys _ rfl rfl (by omega) (by omega) (hrow0.drewN (m1 + m2 + m3)) (hrow1.drewN (m1 + m2 + m3))).mono ?_
    rintro e w6 ⟨rfl, m4, rfl⟩
    generalize cmpL xs ys = c1
    go_wp2
    go_ret
    exact ⟨by simp, below_drewN hbel _⟩

set_option maxRecDepth 100000 in
theorem law4_some_none (x0 : Addr) (cap : Nat) (xs : List Int) (w : World) (hc : xs.length ≤ 9223372036854775807) (hcell : ∀ i, i < xs.length → w.cell? (x0.add i) = some (.int .u8 (xs.getD i 0))) (hpos : ∀ y ∈ xs, 0 ≤ y) :
    Calls Try.prog 4 #[.slice (some x0) xs.length cap, .slice none 0 0] w (LawPost w) := by
  have KP : Hid (cmpL (xs ++ [0]) ([] ++ [0]) = cmpL xs []) := cmpL_keeps xs [] hpos (fun y hy => by cases hy)
  have HC : Hid (∀ i, i < xs.length → w.cell? (x0.add i) = some (.int .u8 (xs.getD i 0))) := hcell
  clear hpos hcell
  go_enter Try.func4, Try.ntmps4
  go_wp2_with fail
  refine (bytes10_any _ _ xs.length cap 0 0 w (by omega) (by omega)).mono ?_
  rintro e w' ⟨r, rfl, rfl⟩
  cases r with
  | false =>
    go_wp2
    go_ret
    exact ⟨rfl, Below.refl _ _⟩
  | true =>
    by_cases hb0 : 524288 < xs.length
    · go_wp2
      go_ret
      exact ⟨rfl, Below.refl _ _⟩
    have hnil0 := fun (wx : World) => run_neq_slice_nil_any (P := Try.prog) wx 22 5 (some x0) xs.length cap 0 0 Try.underlying22
    have hnil1 := fun (wx : World) => run_neq_slice_nil_any (P := Try.prog) wx 22 5 none 0 0 0 0 Try.underlying22
    have hmk0 := run_make_row' (P := Try.prog) 22 5 (.int .u8 0) 1 Try.underlying22 Try.info5 rfl .i64 .i64 xs.length (by omega) (by omega)
    obtain ⟨w2, hrun0, hbel, hrow0⟩ := copy_run x0 xs.length cap xs w' rfl HC.out
    have hrow1 : Row w2 none [] := Or.inl rfl
    go_wp2_with fail
    clear hnil0 hnil1 hmk0 hrun0
    refine (next_any (some ⟨w'.heap.size, 0, none⟩) xs.length xs.length xs w2 rfl (fun h => by cases h) (Nat.le_refl _) (by omega) (by omega) hrow0).mono ?_
    rintro e w4 ⟨g0, capg0, rfl, hb4, hrc0⟩
    have hrow0 := hrow0.below hb4
    have hrow1 := hrow1.below hb4
    have hbel := hbel.trans (hb4.mono hbel.size)
    clear hb4
    go_wp2_with fail
    refine (next_any none 0 0 [] w4 rfl (fun _ => ⟨rfl, rfl⟩) (Nat.le_refl _) (by omega) (by omega) hrow1).mono ?_
    rintro e w5 ⟨g1, capg1, rfl, hb5, hrc1⟩
    have hrow0 := hrow0.below hb5
    have hrow1 := hrow1.below hb5
    have hrc0 := hrc0.below hb5
    have hbel := hbel.trans (hb5.mono hbel.size)
    clear hb5
    go_wp2_with fail
    refine (pfx_any (some ⟨g0, 0, none⟩) (some ⟨w'.heap.size, 0, none⟩) (xs.length + 1) capg0 xs.length xs.length xs [0] w5 (by simp) rfl (by omega) hrc0 hrow0).mono ?_
    rintro e w6 ⟨rfl, m1, rfl⟩
    go_wp2_with fail
    refine (pfx_any (some ⟨g1, 0, none⟩) none (0 + 1) capg1 0 0 [] [0] _ (by simp) rfl (by omega) (hrc1.drewN m1) (hrow1.drewN m1)).mono ?_
    rintro e w6 ⟨rfl, m2, rfl⟩
    go_wp2_with fail
    refine (cmp_any (some ⟨g0, 0, none⟩) (some ⟨g1, 0, none⟩) (xs.length + 1) capg0 (0 + 1) capg1 (xs ++ [0]) ([] ++ [0]) _ (by simp) (by simp) (by omega) (by omega) (hrc0.drewN (m1 + m2)) (hrc1.drewN (m1 + m2))).mono ?_
    rintro e w6 ⟨rfl, m3, rfl⟩
    rw [KP.out]
    go_wp2_with fail
    refine (cmp_any (some ⟨w'.heap.size, 0, none⟩) none xs.length xs.length 0 0 xs [] _ rfl rfl (by omega) (by omega) (hrow0.drewN (m1 + m2 + m3)) (hrow1.drewN (m1 + m2 + m3))).mono ?_
    rintro e w6 ⟨rfl, m4, rfl⟩
    generalize cmpL xs [] = c1
    go_wp2
    go_ret
    exact ⟨by simp, below_drewN hbel _⟩

set_option maxRecDepth 100000 in
theorem law4_none_some (x1 : Addr) (cap1 : Nat) (ys : List Int) (w : World) (hc1 : ys.length ≤ 9223372036854775807) (hcell1 : ∀ i, i < ys.length → w.cell? (x1.add i) = some (.int .u8 (ys.getD i 0))) (hpos1 : ∀ y ∈ ys, 0 ≤ y) :
    Calls Try.prog 4 #[.slice none 0 0, .slice (some x1) ys.length cap1] w (LawPost w) := by
  have KP : Hid (cmpL ([] ++ [0]) (ys ++ [0]) = cmpL [] ys) := cmpL_keeps [] ys (fun y hy => by cases hy) hpos1
  have HC1 : Hid (∀ i, i < ys.length → w.cell? (x1.add i) = some (.int .u8 (ys.getD i 0))) := hcell1
  clear hpos1 hcell1
  go_enter Try.func4, Try.ntmps4
  go_wp2_with fail
  refine (bytes10_any _ _ 0 0 ys.length cap1 w (by omega) (by omega)).mono ?_
  rintro e w' ⟨r, rfl, rfl⟩
  cases r with
  | false =>
    go_wp2
    go_ret
    exact ⟨rfl, Below.refl _ _⟩
  | true =>
    by_cases hb1 : 524288 < ys.length
    · go_wp2
      go_ret
      exact ⟨rfl, Below.refl _ _⟩
    have hnil0 := fun (wx : World) => run_neq_slice_nil_any (P := Try.prog) wx 22 5 none 0 0 0 0 Try.underlying22
    have hnil1 := fun (wx : World) => run_neq_slice_nil_any (P := Try.prog) wx 22 5 (some x1) ys.length cap1 0 0 Try.underlying22
    have hbel : Below w'.heap.size w' w' := Below.refl _ _
    have hrow0 : Row w' none [] := Or.inl rfl
    have hmk1 := run_make_row' (P := Try.prog) 22 5 (.int .u8 0) 1 Try.underlying22 Try.info5 rfl .i64 .i64 ys.length (by omega) (by omega)
    obtain ⟨w3, hrun1, hbel3, hrow1⟩ := copy_run x1 ys.length cap1 ys w' rfl (cells_below HC1.out hbel)
    have hrow0 := hrow0.below hbel3
    have hbel := hbel.trans (hbel3.mono hbel.size)
    go_wp2_with fail
    clear hnil0 hnil1 hmk1 hrun1
    refine (next_any none 0 0 [] w3 rfl (fun _ => ⟨rfl, rfl⟩) (Nat.le_refl _) (by omega) (by omega) hrow0).mono ?_
    rintro e w4 ⟨g0, capg0, rfl, hb4, hrc0⟩
    have hrow0 := hrow0.below hb4
    have hrow1 := hrow1.below hb4
    have hbel := hbel.trans (hb4.mono hbel.size)
    clear hb4
    go_wp2_with fail
    refine (next_any (some ⟨w'.heap.size, 0, none⟩) ys.length ys.length ys w4 rfl (fun h => by cases h) (Nat.le_refl _) (by omega) (by omega) hrow1).mono ?_
    rintro e w5 ⟨g1, capg1, rfl, hb5, hrc1⟩
    have hrow0 := hrow0.below hb5
    have hrow1 := hrow1.below hb5
    have hrc0 := hrc0.below hb5
    have hbel := hbel.trans (hb5.mono hbel.size)
    clear hb5
    go_wp2_with fail
    refine (pfx_any (some ⟨g0, 0, none⟩) none (0 + 1) capg0 0 0 [] [0] w5 (by simp) rfl (by omega) hrc0 hrow0).mono ?_
    rintro e w6 ⟨rfl, m1, rfl⟩
    go_wp2_with fail
    refine (pfx_any (some ⟨g1, 0, none⟩) (some ⟨w'.heap.size, 0, none⟩) (ys.length + 1) capg1 ys.length ys.length ys [0] _ (by simp) rfl (by omega) (hrc1.drewN m1) (hrow1.drewN m1)).mono ?_
    rintro e w6 ⟨rfl, m2, rfl⟩
    go_wp2_with fail
    refine (cmp_any (some ⟨g0, 0, none⟩) (some ⟨g1, 0, none⟩) (0 + 1) capg0 (ys.length + 1) capg1 ([] ++ [0]) (ys ++ [0]) _ (by simp) (by simp) (by omega) (by omega) (hrc0.drewN (m1 + m2)) (hrc1.drewN (m1 + m2))).mono ?_
    rintro e w6 ⟨rfl, m3, rfl⟩
    rw [KP.out]
    go_wp2_with fail
    refine (cmp_any none (some ⟨w'.heap.size, 0, none⟩) 0 0 ys.length ys.length [] ys _ rfl rfl (by omega) (by omega) (hrow0.drewN (m1 + m2 + m3)) (hrow1.drewN (m1 + m2 + m3))).mono ?_
    rintro e w6 ⟨rfl, m4, rfl⟩
    generalize cmpL [] ys = c1
    go_wp2
    go_ret
    exact ⟨by simp, below_drewN hbel _⟩

set_option maxRecDepth 100000 in
theorem law4_none_none (w : World) :
    Calls Try.prog 4 #[.slice none 0 0, .slice none 0 0] w (LawPost w) := by
  have KP : Hid (cmpL ([] ++ [0]) ([] ++ [0]) = cmpL [] []) := cmpL_keeps [] [] (fun y hy => by cases hy) (fun y hy => by cases hy)
  go_enter Try.func4, Try.ntmps4
  go_wp2_with fail
  refine (bytes10_any _ _ 0 0 0 0 w (by omega) (by omega)).mono ?_
  rintro e w' ⟨r, rfl, rfl⟩
  cases r with
  | false =>
    go_wp2
    go_ret
    exact ⟨rfl, Below.refl _ _⟩
  | true =>
    have hnil0 := fun (wx : World) => run_neq_slice_nil_any (P := Try.prog) wx 22 5 none 0 0 0 0 Try.underlying22
    have hbel : Below w'.heap.size w' w' := Below.refl _ _
    have hrow0 : Row w' none [] := Or.inl rfl
    have hrow1 : Row w' none [] := Or.inl rfl
    go_wp2_with fail
    clear hnil0
    refine (next_any none 0 0 [] w' rfl (fun _ => ⟨rfl, rfl⟩) (Nat.le_refl _) (by omega) (by omega) hrow0).mono ?_
    rintro e w4 ⟨g0, capg0, rfl, hb4, hrc0⟩
    have hrow0 := hrow0.below hb4
    have hrow1 := hrow1.below hb4
    have hbel := hbel.trans (hb4.mono hbel.size)
    clear hb4
    go_wp2_with fail
    refine (next_any none 0 0 [] w4 rfl (fun _ => ⟨rfl, rfl⟩) (Nat.le_refl _) (by omega) (by omega) hrow1).mono ?_
    rintro e w5 ⟨g1, capg1, rfl, hb5, hrc1⟩
    have hrow0 := hrow0.below hb5
    have hrow1 := hrow1.below hb5
    have hrc0 := hrc0.below hb5
    have hbel := hbel.trans (hb5.mono hbel.size)
    clear hb5
    go_wp2_with fail
    refine (pfx_any (some ⟨g0, 0, none⟩) none (0 + 1) capg0 0 0 [] [0] w5 (by simp) rfl (by omega) hrc0 hrow0).mono ?_
    rintro e w6 ⟨rfl, m1, rfl⟩
    go_wp2_with fail
    refine (pfx_any (some ⟨g1, 0, none⟩) none (0 + 1) capg1 0 0 [] [0] _ (by simp) rfl (by omega) (hrc1.drewN m1) (hrow1.drewN m1)).mono ?_
    rintro e w6 ⟨rfl, m2, rfl⟩
    go_wp2_with fail
    refine (cmp_any (some ⟨g0, 0, none⟩) (some ⟨g1, 0, none⟩) (0 + 1) capg0 (0 + 1) capg1 ([] ++ [0]) ([] ++ [0]) _ (by simp) (by simp) (by omega) (by omega) (hrc0.drewN (m1 + m2)) (hrc1.drewN (m1 + m2))).mono ?_
    rintro e w6 ⟨rfl, m3, rfl⟩
    rw [KP.out]
    go_wp2_with fail
    refine (cmp_any none none 0 0 0 0 [] [] _ rfl rfl (by omega) (by omega) (hrow0.drewN (m1 + m2 + m3)) (hrow1.drewN (m1 + m2 + m3))).mono ?_
    rintro e w6 ⟨rfl, m4, rfl⟩
    generalize cmpL [] [] = c1
    go_wp2
    go_ret
    exact ⟨by simp, below_drewN hbel _⟩

end Go.Proofs.Qxb6613663a
