/-
  THE WALK OF FnTreeListsEveryEdgeOnceInOrder (function 3).
-/
import Derived.Test.Qxb6613598aTree
import Derived.Test.Qxb6613598aRost
import Derived.WalkSpells
namespace Go.Proofs.Qxb6613598a
open Go.RowKit Plain

def LawPost3 (w : World) (e : Ending) (w' : World) : Prop := e = .returned (.bool true) ∧ Below w.heap.size w w'

theorem pair_cells {wr : World} {g c : Nat} {es : List (Int × Int)} (h : wr.ownsRow g 35 2 (.slice (some ⟨g, 0, none⟩) es.length c) es.length (ev es)) {k : Nat} (hk : k < es.length) :
    wr.cell? ⟨g, k * 2, none⟩ = some (.int .i64 (es[k]).1) ∧ wr.cell? ⟨g, k * 2 + 1, none⟩ = some (.int .i64 (es[k]).2) := by
  have h1 := ev_get es k es[k] (List.getElem?_eq_getElem hk)
  rw [h.cellAt (k * 2) (by omega), h.cellAt (k * 2 + 1) (by omega), Nat.mul_comm k 2]
  exact h1

set_option maxHeartbeats 400000 in
set_option maxRecDepth 100000 in
theorem law3_pos (ht : Bool) (bm om n cap : Nat) (A : Nat → Option Addr) (L C Ab Ao : Nat → Nat) (Z : Nat → Nat → Int) (w : World) (hn : 0 < n) (hmx : n ≤ 9223372036854775807) (hnb : Nb w bm om n A L C Ab Ao Z) :
    Calls Try.prog 3 #[.bool ht, .slice (some ⟨bm, om, none⟩) n cap] w (LawPost3 w) := by
  go_enter Try.func3, Try.ntmps3
  go_wp2_with fail
  refine (bytes6_any ht bm om n cap A L C Ab Ao Z w hnb hmx).mono ?_
  rintro e w' ⟨r, rfl, rfl, hr⟩
  cases r with
  | false =>
    go_wp2
    go_ret
    exact ⟨rfl, Below.refl _ _⟩
  | true =>
    have HL : Hid (∀ j, j < n → L j ≤ 1048576) := hr rfl
    clear hr
    by_cases hbig : 131072 < n
    · go_wp2
      go_ret
      exact ⟨rfl, Below.refl _ _⟩
    go_wp2
    go_loop [5, 6] (fun m i => ∃ k : Nat, k ≤ n ∧ n + sumL L k ≤ 131072 ∧ i = .int .i64 k ∧ m = .int .i64 (n + sumL L k : Nat)) (fun _ i => n - (intOf i).toNat)
    case atStart => exact ⟨0, by omega, by rw [sumL_zero]; omega, rfl, rfl⟩
    case round =>
      obtain ⟨k, hk, hs, rfl, rfl⟩ := hrel
      by_cases hlt : k < n
      · have hrow := hnb.row k hlt
        have hLk := HL.out k hlt
        have hss := sumL_succ L k
        have HSS : Hid (sumL L (k + 1) = sumL L k + L k) := hss
        clear hss
        by_cases h2 : 131072 < n + sumL L k + L k
        · go_wp2
          go_ret
          exact ⟨rfl, Below.refl _ _⟩
        · go_wp2
          go_round
          case rel => exact ⟨k + 1, by omega, by rw [HSS.out]; omega, by go_num, by rw [HSS.out]; go_num⟩
          case measure => simp [intOf]; omega
      · have ek : k = n := by omega
        subst ek
        clear hk hlt HL
        cases ht with
        | false =>
          have hnil := fun (wx : World) => Lib.run_eql_slice_nil (P := Try.prog) wx 25 35 none 0 0 0 0 Try.underlying25
          go_wp2_with fail
          refine (roster_none w').mono ?_
          rintro e w1 ⟨rfl, hb1⟩
          go_wp2_with fail
          refine (tree8_none w1).mono ?_
          rintro e w2 ⟨rfl, hb2⟩
          go_wp2
          go_ret
          exact ⟨rfl, hb1.trans (hb2.mono hb1.size)⟩
        | true =>
          go_wp2_with fail
          refine (tree_any bm om k cap A L C Ab Ao Z w' hn hs hnb).mono ?_
          rintro e w1 ⟨r, rfl, hb1, hr⟩
          cases r with
          | false =>
            go_wp2
            go_ret
            exact ⟨rfl, hb1⟩
          | true =>
            have HT : Hid (TreeF k L Z) := hr rfl
            clear hr
            have hnb1 := hnb.below hb1
            go_wp2_with fail
            refine (roster_any (some ⟨bm, om, none⟩) k cap w1).mono ?_
            rintro e w2 ⟨rfl, hb2, hp⟩
            have hnb2 := hnb1.below hb2
            go_wp2_with fail
            refine (tree8_any (w1.heap.size + 1) bm om k cap A L C Ab Ao Z w2 hn hs hnb2 HT hp).mono ?_
            rintro e w3 ⟨g, hg, rfl, hb3, hown⟩
            have hb : Below w'.heap.size w' w3 := hb1.trans ((hb2.trans (hb3.mono hb2.size)).mono hb1.size)
            clear hb1 hb2 hb3 hnb1 hnb2 hp hg
            obtain ⟨es, hes⟩ : ∃ es, es = edgesTo (rowOfF L Z) k := ⟨_, rfl⟩
            rw [← hes] at hown ⊢
            have HES : Hid (es = edgesTo (rowOfF L Z) k) := hes
            clear hes
            have hlen : es.length + 1 = k := by rw [HES.out, edges_len HT.out.plain]; omega
            have hq : ((es.length : Int) != (k : Int) - 1) = false := by simp; omega
            have HLEN : Hid (es.length + 1 = k) := hlen
            clear hlen
            have hnil := fun (wx : World) => Lib.run_eql_slice_nil (P := Try.prog) wx 25 35 (some ⟨g, 0, none⟩) es.length (k - 1) 0 0 Try.underlying25
            have HE : Hid (∀ e ∈ es, 0 ≤ e.1 ∧ e.1 < e.2 ∧ e.2 < k ∧ e.2 ∈ rowOfF L Z e.1.toNat) := fun e he => edges_in HT.out.plain e (HES.out ▸ he)
            have HX : Hid (es.Pairwise fun e f => e.1 < f.1 ∨ (e.1 = f.1 ∧ e.2 < f.2)) := by rw [HES.out]; exact edges_lex HT.out.plain.srt
            have hnb3 := hnb.below hb
            go_wp2
            clear hnil
            go_loop [9] (fun i => ∃ j : Nat, j ≤ es.length ∧ i = .int .i64 j) (fun i => es.length - (intOf i).toNat)
            case atStart => exact ⟨0, by omega, rfl⟩
            case round =>
              obtain ⟨j, hj, rfl⟩ := hrel
              have hlk : es.length ≤ k := by have := HLEN.out; omega
              by_cases hlt : j < es.length
              · have hej := HE.out es[j] (List.getElem_mem _)
                obtain ⟨a, b, heab, hab, hbk⟩ : ∃ a b : Nat, es[j] = ((a : Int), (b : Int)) ∧ a < b ∧ b < k := ⟨es[j].1.toNat, es[j].2.toNat, by ext <;> simp <;> omega, by omega, by omega⟩
                have hc := pair_cells hown hlt
                rw [heab] at hc hej
                have hc1 := hc.1
                have hc2 := hc.2
                have hmem : ∃ c, c < L a ∧ Z a c = b := by simpa [rowOfF] using hej.2.2.2
                have HM : Hid (∃ c, c < L a ∧ Z a c = b) := hmem
                clear hc hej hmem
                have hak : a < k := by omega
                have hrow := hnb3.row a hak
                have hLa := L_le_sumL L hak
                have HB : Hid (∀ c, c < L a → _) := hnb3.cel a hak
                have HR : Hid (∀ i j, i < j → j < L a → Z a i < Z a j) := HT.out.mono a hak
                go_wp2_with fail
                refine (has_any (A a) (Ab a) (Ao a) (L a) (C a) (Z a) b w3 (by omega) HB.out).mono ?_
                rintro e w4 ⟨r, rfl, rfl, -, hr2⟩
                have hrt : r = true := hr2 HR.out HM.out
                subst hrt
                clear hr2 hrow HB HR HM hc1 hc2
                by_cases hj0 : 0 < j
                · have hlt1 : j - 1 < es.length := by omega
                  have hej := HE.out es[j - 1] (List.getElem_mem _)
                  obtain ⟨pa, pb, heab1, hpab, hpbk⟩ : ∃ a b : Nat, es[j - 1] = ((a : Int), (b : Int)) ∧ a < b ∧ b < k := ⟨es[j - 1].1.toNat, es[j - 1].2.toNat, by ext <;> simp <;> omega, by omega, by omega⟩
                  have hc := pair_cells hown hlt1
                  rw [heab1] at hc
                  have hc1 := hc.1
                  have hc2 := hc.2
                  have hlex : pa < a ∨ (pa = a ∧ pb < b) := by
                    have h1 := List.pairwise_iff_getElem.1 HX.out (j - 1) j hlt1 hlt (by omega)
                    rw [heab1, heab] at h1
                    simp only at h1
                    omega
                  clear hc hej heab heab1
                  rcases hlex with hlex | ⟨hlex, hlex2⟩
                  · have hd1 : ((pa : Int) == (a : Int)) = false := by simp; omega
                    go_wp2
                    go_round
                    case rel => exact ⟨j + 1, by omega, by go_num⟩
                    case measure => simp [intOf]; omega
                  · subst hlex
                    go_wp2
                    go_round
                    case rel => exact ⟨j + 1, by omega, by go_num⟩
                    case measure => simp [intOf]; omega
                · clear heab
                  go_wp2
                  go_round
                  case rel => exact ⟨j + 1, by omega, by go_num⟩
                  case measure => simp [intOf]; omega
              · go_wp2
                go_ret
                exact ⟨rfl, hb⟩
/-- no vertex at all -/
theorem law3_zero (ht : Bool) (A : Option Addr) (cap : Nat) (w : World) : Calls Try.prog 3 #[.bool ht, .slice A 0 cap] w (LawPost3 w) := by
  go_enter Try.func3, Try.ntmps3
  go_wp2_with fail
  refine (bytes6_zero ht A cap (fun _ => 0) w).mono ?_
  rintro e w' ⟨r, rfl, rfl, -⟩
  cases r with
  | false =>
    go_wp2
    go_ret
    exact ⟨rfl, Below.refl _ _⟩
  | true =>
    go_wp2
    refine wp_loop_rounds 1 ?_
    rw [rounds_succ]
    cases ht with
    | false =>
      have hnil := fun (wx : World) => Lib.run_eql_slice_nil (P := Try.prog) wx 25 35 none 0 0 0 0 Try.underlying25
      go_wp2_with fail
      refine (roster_none w').mono ?_
      rintro e w1 ⟨rfl, hb1⟩
      go_wp2_with fail
      refine (tree8_none w1).mono ?_
      rintro e w2 ⟨rfl, hb2⟩
      go_wp2
      go_ret
      exact ⟨rfl, hb1.trans (hb2.mono hb1.size)⟩
    | true =>
      go_wp2_with fail
      refine (tree_zero A cap w').mono ?_
      rintro e w2 ⟨rfl, rfl⟩
      go_wp2
      go_ret
      exact ⟨rfl, Below.refl _ _⟩

end Go.Proofs.Qxb6613598a
