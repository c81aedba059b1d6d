/-
  THE WALK OF zzIsTree (function 9): it returns; it writes nothing that was there; 'true' means 'TreeF'.
-/
import Derived.Test.Qxb6613598aBfs
import Derived.Test.Qxb6613598aHas
namespace Go.Proofs.Qxb6613598a
open Go.RowKit

def TreePost (w : World) (n : Nat) (L : Nat → Nat) (Z : Nat → Nat → Int) (e : Ending) (w' : World) : Prop :=
  ∃ r : Bool, e = .returned (.bool r) ∧ Below w.heap.size w w' ∧ (r = true → TreeF n L Z)
theorem TreePost.no {w w' : World} {n : Nat} {L : Nat → Nat} {Z : Nat → Nat → Int} (hb : Below w.heap.size w w') : TreePost w n L Z (.returned (.bool false)) w' :=
  ⟨false, rfl, hb, fun h => by cases h⟩

theorem rows_step {n : Nat} {L : Nat → Nat} {Z : Nat → Nat → Int} {a : Nat} (H : ∀ a', a' < a → ∀ k, k < L a' → CellOk n L Z a' k) (H2 : ∀ k, k < L a → CellOk n L Z a k) : ∀ a', a' < a + 1 → ∀ k, k < L a' → CellOk n L Z a' k := by
  intro a' ha' k hk
  by_cases e : a' = a
  · subst e; exact H2 k hk
  · exact H a' (by omega) k hk
theorem cells_step {n : Nat} {L : Nat → Nat} {Z : Nat → Nat → Int} {a k : Nat} (H : ∀ k', k' < k → CellOk n L Z a k') (H2 : CellOk n L Z a k) : ∀ k', k' < k + 1 → CellOk n L Z a k' := by
  intro k' hk'
  by_cases e : k' = k
  · subst e; exact H2
  · exact H k' (by omega)

set_option maxHeartbeats 400000 in
set_option maxRecDepth 100000 in
theorem tree_any (bm om n cap : Nat) (A : Nat → Option Addr) (L C Ab Ao : Nat → Nat) (Z : Nat → Nat → Int) (w : World) (hn : 0 < n) (hsum : n + sumL L n ≤ 131072) (hnb : Nb w bm om n A L C Ab Ao Z) :
    Calls Try.prog 9 #[.slice (some ⟨bm, om, none⟩) n cap] w (TreePost w n L Z) := by
  go_enter Try.func9, Try.ntmps9
  go_wp2
  go_loop [4, 5] (fun d i => ∃ a : Nat, a ≤ n ∧ i = .int .i64 a ∧ d = .int .i64 (sumL L a : Nat) ∧ Hid (∀ a', a' < a → ∀ k, k < L a' → CellOk n L Z a' k))
    (fun _ i => n - (intOf i).toNat)
  case atStart => exact ⟨0, Nat.zero_le _, rfl, rfl, fun a' h => absurd h (Nat.not_lt_zero _)⟩
  case round =>
    obtain ⟨a, ha, rfl, rfl, H⟩ := hrel
    have hsa := sumL_le L ha
    by_cases hlt : a < n
    · have hrow := hnb.row a hlt
      have hsL := L_le_sumL L hlt
      by_cases hL : L a = 0
      · go_wp2
        refine wp_loop_rounds 1 ?_
        rw [rounds_succ]
        go_wp2
        go_round
        case rel => exact ⟨a + 1, by omega, by go_num, by rw [sumL_succ]; go_num, rows_step H.out fun k hk => by omega⟩
        case measure => simp [intOf]; omega
      · have hA := (hnb.cel a hlt 0 (by omega)).1
        go_wp2
        go_loop [7] (fun i => ∃ k : Nat, k ≤ L a ∧ i = .int .i64 k ∧ Hid (∀ k', k' < k → CellOk n L Z a k')) (fun i => L a - (intOf i).toNat)
        case atStart => exact ⟨0, Nat.zero_le _, rfl, fun k' h => absurd h (Nat.not_lt_zero _)⟩
        case round =>
          obtain ⟨k, hk, rfl, H2⟩ := hrel
          by_cases hklt : k < L a
          · have hcel := (hnb.cel a hlt k hklt).2
            have no : ∀ w', w' = w → TreePost w n L Z (.returned (.bool false)) w' := fun w' h => by subst h; exact TreePost.no (Below.refl _ _)
            by_cases h0 : Z a k < 0
            · go_wp2
              go_ret
              exact no _ rfl
            by_cases h1 : (n : Int) ≤ Z a k
            · go_wp2
              go_ret
              exact no _ rfl
            cases h2 : (Z a k == (a : Int)) with
            | true =>
              go_wp2
              go_ret
              exact no _ rfl
            | false =>
              have hne : Z a k ≠ a := by simpa using h2
              have HN : Hid (Z a k ≠ a) := hne
              clear hne
              have hcb := hnb.row (Z a k).toNat (by omega)
              have HC : Hid ((0 < k → Z a (k - 1) < Z a k) → (∃ c, c < L (Z a k).toNat ∧ Z (Z a k).toNat c = a) → CellOk n L Z a k) := fun q r => ⟨by omega, by omega, HN.out, q, r⟩
              have hLb := L_le_sumL L (show (Z a k).toNat < n by omega)
              have HB : Hid (∀ c, c < L (Z a k).toNat → _) := hnb.cel (Z a k).toNat (by omega)
              by_cases hk0 : 0 < k
              · have hcp := (hnb.cel a hlt (k - 1) (by omega)).2
                by_cases hs : Z a (k - 1) < Z a k
                · go_wp2_with fail
                  refine (has_any (A (Z a k).toNat) (Ab (Z a k).toNat) (Ao (Z a k).toNat) (L (Z a k).toNat) (C (Z a k).toNat) (Z (Z a k).toNat) a w (by omega) HB.out).mono ?_
                  rintro e w' ⟨r, rfl, rfl, hr1, -⟩
                  cases r with
                  | false =>
                    go_wp2
                    go_ret
                    exact no _ rfl
                  | true =>
                    have H3 := HC.out (fun _ => hs) (hr1 rfl)
                    go_wp2
                    go_round
                    case rel => exact ⟨k + 1, by omega, by go_num, cells_step H2.out H3⟩
                    case measure => simp [intOf]; omega
                · go_wp2
                  go_ret
                  exact no _ rfl
              · go_wp2_with fail
                refine (has_any (A (Z a k).toNat) (Ab (Z a k).toNat) (Ao (Z a k).toNat) (L (Z a k).toNat) (C (Z a k).toNat) (Z (Z a k).toNat) a w (by omega) HB.out).mono ?_
                rintro e w' ⟨r, rfl, rfl, hr1, -⟩
                cases r with
                | false =>
                  go_wp2
                  go_ret
                  exact no _ rfl
                | true =>
                  have H3 := HC.out (fun h => absurd h hk0) (hr1 rfl)
                  go_wp2
                  go_round
                  case rel => exact ⟨k + 1, by omega, by go_num, cells_step H2.out H3⟩
                  case measure => simp [intOf]; omega
          · go_wp2
            go_round
            case rel => exact ⟨a + 1, by omega, by go_num, by rw [sumL_succ]; go_num, rows_step H.out fun k' hk' => H2.out k' (by omega)⟩
            case measure => simp [intOf]; omega
    · have ea : a = n := by omega
      subst ea
      obtain ⟨i3, hi3, hz30, hz31, hz32⟩ := info_parts Try.info3
      have hmk := run_make_row' (P := Try.prog) 57 4 (.bool false) 1 Try.underlying57 Try.info4 rfl .i64 .i64 a (by omega) (by omega)
      cases hd : ((sumL L a : Nat) : Int) == 2 * ((a : Int) - 1) with
      | false =>
        go_wp2
        go_ret
        exact TreePost.no (Below.refl _ _)
      | true =>
        go_wp2_with (at_make; refine wpList_make_own _ rfl _ _ 24 rfl (w.heap.size + 1) 3 i3 (.int .i64 0) 1 Try.underlying24 hi3 hz30 hz31 .i64 .i64 _ a rfl rfl rfl (by rw [hz32]; omega) (by unfold maxLen; omega) (by simp) ?_)
        intro w1 hown0 hg0
        have hs1 := World.rowIs_made w (.bool false) a 4
        have hs2 := hs1.of_block (hg0.block _ hs1.lt (by simp))
        have hc1 := hs2.cell hn
        have hf1 := hs2.frozen 0
        have hsz1 := (hown0.lt _ rfl).2
        have hmx : 0 + 1 ≤ a := hn
        have hown1 := ownsRow_setCell_below hown0 (a := ⟨w.heap.size, 0, none⟩) (by simp) (.bool true)
        go_wp2_with (at_builtin; (refine wpList_append_fits _ rfl _ _ 24 rfl (w.heap.size + 1) 3 i3 1 Try.underlying24 hi3 hz31 (w.heap.size + 1) 0 a [] rfl (hown1.alloc _) ⟨w1.heap.size, 0, none⟩ 1 1 [.int .i64 0] rfl rfl (one_cell_new _ _ _ _ (size_setCell _ _ _).symm) (one_int _ _) (by omega) ?_))
        intro w2 hown2 hg2
        have HT : Hid (TreeF a L Z) := ⟨hn, H.out, by have : ((sumL L a : Nat) : Int) = 2 * ((a : Int) - 1) := by simpa using hd
                                                      omega⟩
        have hbf := Bfs.start hn _ hown0 hg0 hown2 hg2
        clear hown0 hg0 hs1 hs2 hc1 hf1 hsz1 hmx hown1 hown2 hg2 hmk hd
        go_wp2
        go_loopw [10, 11] (fun v i wr => ∃ (h q : Nat) (qs : List Int) (S : Nat → Bool), h ≤ q ∧ q ≤ a ∧ i = .int .i64 h ∧ v = .slice (some ⟨w.heap.size + 1, 0, none⟩) q a ∧ Bfs w wr w.heap.size a q qs S)
          (fun _ i _ => a - (intOf i).toNat)
        case atStart => exact ⟨0, 1, _, _, by omega, hn, rfl, rfl, hbf⟩
        case round =>
          obtain ⟨h, q, qs, S, hhq, hqa, rfl, rfl, hbf⟩ := hrel
          by_cases hlt : h < q
          · obtain ⟨x, hx, hcx⟩ := hbf.at hlt
            have hnb2 := hnb.below (hbf.isB ▸ hbf.below)
            have hrow := hnb2.row x hx
            by_cases hL : L x = 0
            · go_wp2
              refine wp_loop_rounds 1 ?_
              rw [rounds_succ]
              go_wp2
              go_roundw
              case rel => exact ⟨h + 1, q, qs, S, by omega, hqa, by go_num, rfl, hbf⟩
              case measure => simp [intOf]; omega
            · have hA := (hnb2.cel x hx 0 (by omega)).1
              have hLx := L_le_sumL L hx
              go_wp2
              clear hrow hcx
              go_loopw [10, 13] (fun v i wr => ∃ (k q : Nat) (qs : List Int) (S : Nat → Bool), k ≤ L x ∧ h < q ∧ q ≤ a ∧ i = .int .i64 k ∧ v = .slice (some ⟨w.heap.size + 1, 0, none⟩) q a ∧ Bfs w wr w.heap.size a q qs S)
                (fun _ i _ => L x - (intOf i).toNat)
              case atStart => exact ⟨0, q, qs, S, by omega, hlt, hqa, rfl, rfl, hbf⟩
              case round =>
                clear hnb2 hbf
                obtain ⟨k, q, qs, S, hk, hhq, hqa, rfl, rfl, hbf⟩ := hrel
                by_cases hklt : k < L x
                · have hnb2 := hnb.below (hbf.isB ▸ hbf.below)
                  have hcel := (hnb2.cel x hx k hklt).2
                  have hok := H.out x hx k hklt
                  have hz0 := hok.1
                  have hz1 := hok.2.1
                  have hseen := hbf.seen.cell (i := (Z x k).toNat) (by omega)
                  have hfr := hbf.seen.frozen (Z x k).toNat
                  have hcel2 := ((hnb.below (hbf.isB ▸ hbf.below.setCell (p := ⟨w.heap.size, (Z x k).toNat, none⟩) (Nat.le_refl _) (.bool true))).cel x hx k hklt).2
                  clear hok hnb2
                  cases hS : S (Z x k).toNat with
                  | true =>
                    rw [hS] at hseen
                    go_wp2
                    go_roundw
                    case rel => exact ⟨k + 1, q, qs, S, by omega, hhq, hqa, by go_num, rfl, hbf⟩
                    case measure => simp [intOf]; omega
                  | false =>
                    rw [hS] at hseen
                    have hq := hbf.room (by omega) hS
                    have hsz := hbf.size
                    have HS : Hid (S (Z x k).toNat = false) := hS
                    clear hS
                    have hown1 := ownsRow_setCell_below hbf.own (a := ⟨w.heap.size, (Z x k).toNat, none⟩) (by simp) (.bool true)
                    go_wp2_with (at_builtin; (refine wpList_append_fits _ rfl _ _ 24 rfl (w.heap.size + 1) 3 i3 1 Try.underlying24 hi3 hz31 (w.heap.size + 1) q a _ rfl (hown1.alloc _) ⟨wr.heap.size, 0, none⟩ 1 1 [.int .i64 (Z x k)] rfl rfl (one_cell_new _ _ _ _ (size_setCell _ _ _).symm) (one_int _ _) (by omega) ?_))
                    intro w3 hown3 hg3
                    have hbf3 := hbf.step hz0 hz1 HS.out _ hown3 hg3
                    clear hown1 hown3 hg3 hcel hcel2 hseen hfr hbf
                    go_wp2
                    go_roundw
                    case rel => exact ⟨k + 1, q + 1, _, _, by omega, by omega, hq, by go_num, rfl, hbf3⟩
                    case measure => simp [intOf]; omega
                · go_wp2
                  go_roundw
                  case rel => exact ⟨h + 1, q, qs, S, by omega, hqa, by go_num, rfl, hbf⟩
                  case measure => simp [intOf]; omega
          · go_wp2
            go_ret
            exact ⟨_, rfl, hbf.isB ▸ hbf.below, fun _ => HT.out⟩

/-- no vertex at all -/
theorem tree_zero (A : Option Addr) (cap : Nat) (w : World) : Calls Try.prog 9 #[.slice A 0 cap] w fun e w' => e = .returned (.bool false) ∧ w' = w := by
  go_enter Try.func9, Try.ntmps9
  go_wp2
  go_ret
  exact ⟨rfl, rfl⟩

end Go.Proofs.Qxb6613598a
