/-
  THE WALK OF FnTreeEdgesGiveBackEveryNeighbourList (function 4).
-/
import Derived.Test.Qxb6613598aTree
import Derived.Test.Qxb6613598aRost
import Derived.Test.Qxb6613598aReb
import Derived.WalkSpells
import Derived.WalkSmall
import Derived.Deep.QuietTactic
import Derived.BigQuiet
namespace Go.Proofs.Qxb6613598a
open Go.RowKit Plain

def LawPost (w : World) (e : Ending) (w' : World) : Prop := e = .returned (.bool true) ∧ Below w.heap.size w w'

set_option maxHeartbeats 400000 in
set_option maxRecDepth 100000 in
theorem law4_pos (bm om n cap : Nat) (A : Nat → Option Addr) (L C Ab Ao : Nat → Nat) (Z : Nat → Nat → Int) (w : World) (hn : 0 < n) (hmx : n ≤ 9223372036854775807) (hnb : Nb w bm om n A L C Ab Ao Z) :
    Calls Try.prog 4 #[.slice (some ⟨bm, om, none⟩) n cap] w (LawPost w) := by
  go_enter Try.func4, Try.ntmps4
  go_wp2_with fail
  refine (bytes12_any bm om n cap A L C Ab Ao Z w hnb hmx).mono ?_
  rintro e w' ⟨r, rfl, rfl, hr⟩
  cases r with
  | false =>
    go_wp2
    go_ret
    exact ⟨rfl, Below.refl _ _⟩
  | true =>
    have HL : Hid (∀ j, j < n → L j ≤ 1048576) := hr rfl
    clear hr
    by_cases hbig : 131072 < n
    · go_wp2
      go_ret
      exact ⟨rfl, Below.refl _ _⟩
    go_wp2
    go_loop [3, 4] (fun m i => ∃ k : Nat, k ≤ n ∧ n + sumL L k ≤ 131072 ∧ i = .int .i64 k ∧ m = .int .i64 (n + sumL L k : Nat)) (fun _ i => n - (intOf i).toNat)
    case atStart => exact ⟨0, by omega, by rw [sumL_zero]; omega, rfl, rfl⟩
    case round =>
      obtain ⟨k, hk, hs, rfl, rfl⟩ := hrel
      by_cases hlt : k < n
      · have hrow := hnb.row k hlt
        have hLk := HL.out k hlt
        have hss := sumL_succ L k
        have HSS : Hid (sumL L (k + 1) = sumL L k + L k) := hss
        clear hss
        by_cases h2 : 131072 < n + sumL L k + L k
        · go_wp2
          go_ret
          exact ⟨rfl, Below.refl _ _⟩
        · go_wp2
          go_round
          case rel => exact ⟨k + 1, by omega, by rw [HSS.out]; omega, by go_num, by rw [HSS.out]; go_num⟩
          case measure => simp [intOf]; omega
      · have ek : k = n := by omega
        subst ek
        clear hk hlt HL
        go_wp2_with fail
        refine (tree_any bm om k cap A L C Ab Ao Z w' hn hs hnb).mono ?_
        rintro e w1 ⟨r, rfl, hb1, hr⟩
        cases r with
        | false =>
          go_wp2
          go_ret
          exact ⟨rfl, hb1⟩
        | true =>
          have HT : Hid (TreeF k L Z) := hr rfl
          clear hr
          have hnb1 := hnb.below hb1
          go_wp2_with fail
          refine (roster_any (some ⟨bm, om, none⟩) k cap w1).mono ?_
          rintro e w2 ⟨rfl, hb2, hp⟩
          have hnb2 := hnb1.below hb2
          go_wp2_with fail
          refine (tree8_any (w1.heap.size + 1) bm om k cap A L C Ab Ao Z w2 hn hs hnb2 HT hp).mono ?_
          rintro e w3 ⟨g, hg, rfl, hb3, hown⟩
          have hb : Below w'.heap.size w' w3 := hb1.trans ((hb2.trans (hb3.mono hb2.size)).mono hb1.size)
          have hge : w'.heap.size ≤ g := Nat.le_trans hb1.size (Nat.le_trans hb2.size hg)
          clear hb1 hb2 hb3 hnb1 hnb2 hp hg
          obtain ⟨es, hes⟩ : ∃ es, es = edgesTo (rowOfF L Z) k := ⟨_, rfl⟩
          rw [← hes] at hown ⊢
          have HES : Hid (es = edgesTo (rowOfF L Z) k) := hes
          clear hes
          have hlen : es.length ≤ k := by rw [HES.out, edges_len HT.out.plain]; omega
          have hnil := fun (wx : World) => Lib.run_eql_slice_nil (P := Try.prog) wx 25 35 (some ⟨g, 0, none⟩) es.length (k - 1) 0 0 Try.underlying25
          have hmk := run_make_row' (P := Try.prog) 22 24 (.slice none 0 0) 24 Try.underlying22 Try.info24 rfl .i64 .i64 k (by omega) (by omega)
          obtain ⟨i3, hi3, hz30, hz31, hz32⟩ := info_parts Try.info3
          have hr0 := Reb.start (n := k) (c := k - 1) hb hge hown
          have HE : Hid (∀ e ∈ es, 0 ≤ e.1 ∧ e.1 < e.2 ∧ e.2 < k) := fun e he => by
            have := edges_in HT.out.plain e (HES.out ▸ he)
            exact ⟨this.1, this.2.1, this.2.2.1⟩
          clear hb hge hown
          have hnl : ¬ k < es.length := by omega
          go_wp2
          clear hmk hnil
          generalize hbR : w3.heap.size = bR at hr0 ⊢
          clear hbR
          go_loopw [8] (fun i wr => ∃ (j : Nat) (VA : Nat → Option Addr) (VC : Nat → Nat), j ≤ es.length ∧ i = .int .i64 j ∧ Reb w' wr k g (k - 1) bR es VA VC (fun v => rb (es.take j) (v : Nat)))
            (fun i _ => es.length - (intOf i).toNat)
          case atStart => exact ⟨0, _, _, by omega, rfl, hr0⟩
          case round =>
            clear hr0
            obtain ⟨j, VA, VC, hj, rfl, hr⟩ := hrel
            by_cases hlt : j < es.length
            · have hej := HE.out es[j] (List.getElem_mem _)
              obtain ⟨a, b, heab, hab, hbk⟩ : ∃ a b : Nat, es[j] = ((a : Int), (b : Int)) ∧ a < b ∧ b < k := ⟨es[j].1.toNat, es[j].2.toNat, by ext <;> simp <;> omega, by omega, by omega⟩
              have hc := hr.lens hlt
              rw [heab] at hc
              have hc1 := hc.1
              have hc2 := hc.2
              clear hc hej
              have HEJ : Hid (es[j] = ((a : Int), (b : Int))) := heab
              clear heab
              obtain ⟨T, hT⟩ : ∃ T : Nat → List Int, T = fun v : Nat => rb (es.take j) (v : Int) := ⟨_, rfl⟩
              rw [← hT] at hr
              have hTl : ∀ v, (T v).length ≤ 2 * es.length := fun v => by
                have h1 := rb_len (v : Int) (es.take j)
                have h2 : (es.take j).length ≤ es.length := by rw [List.length_take]; omega
                rw [hT]; show (rb (es.take j) (v : Int)).length ≤ _; omega
              have HPP : Hid (put (put T a (T a ++ [(b : Int)])) b (put T a (T a ++ [(b : Int)]) b ++ [(a : Int)]) = fun v : Nat => rb (es.take (j + 1)) (v : Int)) := put_put hlt hT HEJ.out hab
              have hT1 := hTl a
              have hT2 := hTl b
              clear hTl hT
              have hak : a < k := by omega
              have hca := hr.row.cell hak
              unfold val at hca
              have hbs := hr.row.lt
              go_wp2_with (at_builtin; (refine wpList_append_own_at _ rfl (.tmp 90) (.tmp 92) 24 rfl (bR + 1) 3 i3 (.int .i64 0) 1 8 Try.underlying24 hi3 hz30 hz31 hz32 rfl (by decide) _ _ _ rfl ((hr.own a hak).alloc _) ⟨wr.heap.size, 0, none⟩ 1 1 [.int .i64 b] rfl rfl (one_cell_new _ _ _ _ rfl) (one_int _ _) (by unfold maxLen; omega) (by omega) (by simp; omega) ?_))
              intro v' w4 hown4 hg4 _ hat4
              obtain ⟨g4, cap4, hv, hcl4, hfr4, hr4⟩ := hr.step hak b _ v' hown4 hg4 hat4
              rw [hv] at hr4 ⊢
              unfold val at hcl4
              clear hv hown4 hg4 hat4 hca hr hc1 hc2
              have hT3 : (put T a (T a ++ [(b : Int)]) b).length ≤ 2 * es.length := by rw [put_other _ _ (by omega)]; exact hT2
              generalize put T a (T a ++ [(b : Int)]) = T1 at hr4 HPP hT3
              generalize put VA a (some ⟨g4, 0, none⟩) = VA1 at hr4
              generalize put VC a cap4 = VC1 at hr4
              have hcb := hr4.row.cell hbk
              unfold val at hcb
              have HSZ : Hid ((w4.setCell ⟨bR, a, none⟩ (.slice (some ⟨g4, 0, none⟩) ((T a).length + 1) cap4)).heap.size = w4.heap.size) := size_setCell _ _ _
              have hbs5 : bR < w4.heap.size := HSZ.out ▸ hr4.row.lt
              go_wp2_with (at_builtin; (refine wpList_append_own_at _ rfl (.tmp 100) (.tmp 102) 24 rfl (bR + 1) 3 i3 (.int .i64 0) 1 8 Try.underlying24 hi3 hz30 hz31 hz32 rfl (by decide) _ _ _ rfl ((hr4.own b hbk).alloc _) ⟨w4.heap.size, 0, none⟩ 1 1 [.int .i64 a] rfl rfl (one_cell_new _ _ _ _ HSZ.out.symm) (one_int _ _) (by unfold maxLen; omega) (by omega) (by rw [World.size_alloc, HSZ.out]; omega) ?_))
              intro v2 w6 hown6 hg6 _ hat6
              obtain ⟨g6, cap6, hv, hcl6, hfr6, hr6⟩ := hr4.step hbk a _ v2 hown6 hg6 (by rw [HSZ.out]; exact hat6)
              rw [hv] at hr6 ⊢
              unfold val at hcl6
              rw [HPP.out] at hr6
              clear hv hown6 hg6 hat6 hcb hr4 hcl4 hfr4 HPP HSZ hT1 hT2 hT3
              go_wp2
              go_roundw
              case rel => exact ⟨j + 1, _, _, by omega, by go_num, hr6⟩
              case measure => simp [intOf]; omega
            · have ej : j = es.length := by omega
              rw [ej, List.take_of_length_le (Nat.le_refl _)] at hr
              have hTL : ∀ v, v < k → rb es (v : Int) = rowOfF L Z v := fun v hv => by rw [HES.out]; exact rb_eq HT.out.plain v hv
              have HTL : Hid (∀ v, v < k → rb es (v : Int) = rowOfF L Z v) := hTL
              obtain ⟨T, hTd⟩ : ∃ T : Nat → List Int, T = fun v : Nat => rb es (v : Int) := ⟨_, rfl⟩
              rw [← hTd] at hr
              have HTT : Hid (∀ v, v < k → T v = rowOfF L Z v) := fun v hv => by rw [hTd]; exact hTL v hv
              clear hTd hTL HTL
              have hnbr := hnb.below hr.below
              have hbel := hr.below
              go_wp2
              go_loopw [11] (fun i wx => ∃ (v m : Nat), v ≤ k ∧ i = .int .i64 v ∧ wx = wr.drewN m) (fun i _ => k - (intOf i).toNat)
              case atStart => exact ⟨0, 0, by omega, rfl, rfl⟩
              case round =>
                obtain ⟨v, m, hv, rfl, rfl⟩ := hrel
                by_cases hvk : v < k
                · have hrow := hnbr.row v hvk
                  have hreb := hr.row.cell hvk
                  unfold val at hreb
                  have hLv : (T v).length = L v := by rw [HTT.out v hvk, rowOfF_len]
                  rw [hLv] at hreb
                  clear hLv
                  have hsLv := L_le_sumL L hvk
                  have hA : 0 < L v → A v = some ⟨Ab v, Ao v, none⟩ := fun h => (hnbr.cel v hvk 0 h).1
                  go_wp2
                  go_quiet (fail)
                  go_wp2
                  go_loopw [12] (fun i wx => ∃ (c m : Nat), c ≤ L v ∧ i = .int .i64 c ∧ wx = wr.drewN m) (fun i _ => L v - (intOf i).toNat)
                  case atStart => exact ⟨0, _, by omega, rfl, World.drewN_drewN _ _ _⟩
                  case round =>
                    obtain ⟨c, m, hc, rfl, rfl⟩ := hrel
                    by_cases hcl : c < L v
                    · have hLv : (T v).length = L v := by rw [HTT.out v hvk, rowOfF_len]
                      obtain ⟨g', hVA, hcells⟩ := hr.cells hvk c (by omega)
                      have hc1 := hcells c (by omega)
                      have hc2 := (hnbr.cel v hvk c hcl).2
                      have hA' := hA (by omega)
                      have hTv : (T v).getD c 0 = Z v c := by rw [HTT.out v hvk]; simp [rowOfF, List.getD, hcl]
                      rw [hTv] at hc1
                      clear hcells hLv hTv
                      go_wp2
                      go_quiet (fail)
                      go_wp2
                      go_roundw
                      case rel => exact ⟨c + 1, _, by omega, by go_num, rfl⟩
                      case measure => simp [intOf]; omega
                    · go_wp2
                      go_roundw
                      case rel => exact ⟨v + 1, _, by omega, by go_num, rfl⟩
                      case measure => simp [intOf]; omega
                · go_wp2
                  go_ret
                  exact ⟨rfl, below_drewN hbel _⟩

/-- no vertex at all -/
theorem law4_zero (A : Option Addr) (cap : Nat) (w : World) : Calls Try.prog 4 #[.slice A 0 cap] w (LawPost w) := by
  go_enter Try.func4, Try.ntmps4
  go_wp2_with fail
  refine (bytes12_zero A cap (fun _ => 0) w).mono ?_
  rintro e w' ⟨r, rfl, rfl, -⟩
  cases r with
  | false =>
    go_wp2
    go_ret
    exact ⟨rfl, Below.refl _ _⟩
  | true =>
    go_wp2
    refine wp_loop_rounds 1 ?_
    rw [rounds_succ]
    go_wp2_with fail
    refine (tree_zero A cap w').mono ?_
    rintro e w2 ⟨rfl, rfl⟩
    go_wp2
    go_ret
    exact ⟨rfl, Below.refl _ _⟩
end Go.Proofs.Qxb6613598a
