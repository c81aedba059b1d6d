/-
  (SpanningTree).edges (function 19): over a tree, the list of its edges in a row of its own.
-/
import Derived.Test.Qxb6613598aBfs
namespace Go.Proofs.Qxb6613598a
open Go.RowKit Plain

theorem Try.info35 : (Try.prog.info? 35).map (fun i => (i.zero, i.size, i.bytes)) = some (some (.agg #[.int .i64 0, .int .i64 0]), 2, 16) := by kernel_rfl

/-- a list of pairs as cells -/
def ev (es : List (Int × Int)) : List Value := es.flatMap fun e => [.int .i64 e.1, .int .i64 e.2]
theorem ev_snoc (es : List (Int × Int)) (e : Int × Int) : ev (es ++ [e]) = ev es ++ [.int .i64 e.1, .int .i64 e.2] := by simp [ev]
theorem ev_get : ∀ (es : List (Int × Int)) (k : Nat) (e : Int × Int), es[k]? = some e → (ev es)[2 * k]? = some (.int .i64 e.1) ∧ (ev es)[2 * k + 1]? = some (.int .i64 e.2)
  | [], k, e, h => by simp at h
  | x :: es, 0, e, h => by simp at h; subst h; simp [ev]
  | x :: es, k + 1, e, h => by
    have ih := ev_get es k e (by simpa using h)
    have e1 : ev (x :: es) = .int .i64 x.1 :: .int .i64 x.2 :: ev es := by simp [ev]
    rw [e1, show 2 * (k + 1) = (2 * k) + 1 + 1 from by omega]
    simpa using ih

structure Edg (w wr : World) (B n : Nat) (es : List (Int × Int)) : Prop where
  below : Below B w wr
  own : wr.ownsRow (B + 1) 35 2 (.slice (some ⟨B + 1, 0, none⟩) es.length (n - 1)) es.length (ev es)

theorem Edg.size {w wr : World} {B n : Nat} {es : List (Int × Int)} (h : Edg w wr B n es) : B + 1 < wr.heap.size := (h.own.lt (B + 1) rfl).2

theorem Edg.step {w wr w1 : World} {B n : Nat} {es : List (Int × Int)} (h : Edg w wr B n es) (e : Int × Int) (o : Obj)
    (hown : w1.ownsRow (B + 1) 35 2 (.slice (some ⟨B + 1, 0, none⟩) (es.length + 1) (n - 1)) (es.length + 1) (ev es ++ [.int .i64 e.1, .int .i64 e.2]))
    (hg : (wr.alloc o).grownBy w1 (some (B + 1))) : Edg w w1 B n (es ++ [e]) := by
  have hsz := h.size
  refine ⟨(h.below.alloc (by omega) o).grown hg (by simp; omega) (fun k hk => by simp at hk; omega), ?_⟩
  rw [ev_snoc, List.length_append]
  exact hown

/-- the edges so far are no more than all of them -/
theorem edges_upto {n : Nat} (R : Nat → List Int) {a k : Nat} (ha : a < n) : (edgesTo R a ++ rowE a ((R a).take k)).length ≤ (edgesTo R n).length := by
  have h1 : ∀ m, (edgesTo R (a + 1)).length ≤ (edgesTo R (a + 1 + m)).length := by
    intro m
    induction m with
    | zero => exact Nat.le_refl _
    | succ m ih => rw [show a + 1 + (m + 1) = (a + 1 + m) + 1 from by omega, edgesTo_succ R (a + 1 + m), List.length_append]; omega
  have h2 := h1 (n - (a + 1))
  rw [show a + 1 + (n - (a + 1)) = n from by omega, edgesTo_succ, List.length_append] at h2
  rw [List.length_append]
  have h3 : (rowE a ((R a).take k)).length ≤ (rowE a (R a)).length := by
    have hap : ∀ l m : List Int, rowE a (l ++ m) = rowE a l ++ rowE a m := fun l m => by simp [rowE]
    have h4 := hap ((R a).take k) ((R a).drop k)
    rw [List.take_append_drop] at h4
    rw [h4, List.length_append]; omega
  omega

theorem take_row {L : Nat → Nat} {Z : Nat → Nat → Int} {a k : Nat} (hk : k < L a) : (rowOfF L Z a).take (k + 1) = (rowOfF L Z a).take k ++ [Z a k] := by
  rw [List.take_succ_eq_append_getElem (by rw [rowOfF_len]; exact hk)]
  simp [rowOfF]


theorem two_cells_new (w : World) (x y : Value) (t : TypeId) : ∀ j u, [x, y][j]? = some u → (w.alloc (.cells #[x, y] t)).cell? ((⟨w.heap.size, 0, none⟩ : Addr).add j) = some u := by
  intro j u hj
  match j, hj with
  | 0, hj =>
    simp at hj
    subst hj
    simp [Addr.add]
  | 1, hj =>
    simp at hj
    subst hj
    simp [Addr.add]
theorem two_ints (k : IntKind) (y z : Int) : ∀ u ∈ [Value.int k y, Value.int k z], u.oneCell' = true := by
  intro u hu
  simp at hu
  rcases hu with rfl | rfl <;> rfl

def EdgesPost (w : World) (n : Nat) (L : Nat → Nat) (Z : Nat → Nat → Int) (e : Ending) (w' : World) : Prop :=
  e = .returned (.slice (some ⟨w.heap.size + 1, 0, none⟩) (edgesTo (rowOfF L Z) n).length (n - 1)) ∧ Edg w w' w.heap.size n (edgesTo (rowOfF L Z) n)

set_option maxHeartbeats 400000 in
set_option maxRecDepth 100000 in
theorem edges_any (bm om n cap : Nat) (A : Nat → Option Addr) (L C Ab Ao : Nat → Nat) (Z : Nat → Nat → Int) (w : World) (hn : 0 < n) (hsum : n + sumL L n ≤ 131072) (hnb : Nb w bm om n A L C Ab Ao Z) (HT : Hid (TreeF n L Z)) :
    Calls Try.prog 19 #[.agg #[.slice (some ⟨bm, om, none⟩) n cap]] w (EdgesPost w n L Z) := by
  obtain ⟨i35, hi, hz0, hz1, hz2⟩ := info_parts Try.info35
  go_enter Try.func19, Try.ntmps19
  go_wp2_with (at_make; (refine wpList_make_own _ rfl _ _ 25 rfl (w.heap.size + 1) 35 i35 (.agg #[.int .i64 0, .int .i64 0]) 2 Try.underlying25 hi hz0 hz1 .i64 .i64 _ (n - 1) rfl rfl (by omega) (by rw [hz2]; omega) (by unfold maxLen; omega) (by simp) ?_))
  intro w1 hown0 hg0
  have hbox : w1.cell? ⟨w.heap.size, 0, none⟩ = some (.slice (some ⟨bm, om, none⟩) n cap) := hg0.cell (by simp) (by simp)
  have he : Edg w w1 w.heap.size n (edgesTo (rowOfF L Z) 0) := ⟨((Below.refl _ _).alloc (Nat.le_refl _) _).grown hg0 (by simp) (fun k hk => by cases hk), hown0⟩
  clear hown0 hg0
  go_wp2
  clear hbox
  go_loopw [3, 17] (fun v i wr => ∃ a : Nat, a ≤ n ∧ i = .int .i64 a ∧ v = .slice (some ⟨w.heap.size + 1, 0, none⟩) (edgesTo (rowOfF L Z) a).length (n - 1) ∧ Edg w wr w.heap.size n (edgesTo (rowOfF L Z) a))
    (fun _ i _ => n - (intOf i).toNat)
  case atStart => exact ⟨0, Nat.zero_le _, rfl, rfl, he⟩
  case round =>
    obtain ⟨a, ha, rfl, rfl, he⟩ := hrel
    by_cases hlt : a < n
    · have hnb2 := hnb.below he.below
      have hrow := hnb2.row a hlt
      have hsL := L_le_sumL L hlt
      by_cases hL : L a = 0
      · have hrow0 : rowOfF L Z a = [] := by simp [rowOfF, hL]
        have he2 : edgesTo (rowOfF L Z) (a + 1) = edgesTo (rowOfF L Z) a := by rw [edgesTo_succ, hrow0]; simp [rowE]
        have HE : Hid (edgesTo (rowOfF L Z) (a + 1) = edgesTo (rowOfF L Z) a) := he2
        clear he2 hrow0
        go_wp2
        refine wp_loop_rounds 1 ?_
        rw [rounds_succ]
        go_wp2
        go_roundw
        case rel => exact ⟨a + 1, by omega, by go_num, by rw [HE.out], by rw [HE.out]; exact he⟩
        case measure => simp [intOf]; omega
      · have hA := (hnb2.cel a hlt 0 (by omega)).1
        go_wp2
        clear hrow hnb2
        go_loopw [3, 24] (fun v i wr => ∃ (k : Nat) (es : List (Int × Int)), k ≤ L a ∧ i = .int .i64 k ∧ v = .slice (some ⟨w.heap.size + 1, 0, none⟩) es.length (n - 1) ∧ Edg w wr w.heap.size n es ∧ Hid (es = edgesTo (rowOfF L Z) a ++ rowE a ((rowOfF L Z a).take k)))
          (fun _ i _ => L a - (intOf i).toNat)
        case atStart => exact ⟨0, _, by omega, rfl, rfl, he, by simp [Hid, rowE]⟩
        case round =>
          clear he
          obtain ⟨k, es, hk, rfl, rfl, he, HE⟩ := hrel
          by_cases hklt : k < L a
          · have hcel := ((hnb.below he.below).cel a hlt k hklt).2
            by_cases hb : (a : Int) < Z a k
            · have HE2 : Hid (es ++ [((a : Int), Z a k)] = edgesTo (rowOfF L Z) a ++ rowE a ((rowOfF L Z a).take (k + 1))) := by
                show _ = _
                rw [take_row hklt, rowE_snoc_yes _ _ _ hb, HE.out, List.append_assoc]
              have hroom : es.length + 1 ≤ n - 1 := by
                have h1 := edges_upto (rowOfF L Z) (k := k + 1) hlt
                rw [← HE2.out, edges_len HT.out.plain] at h1
                simpa using h1
              have hown1 := he.own
              go_wp2_with (at_builtin; (refine wpList_append_fits _ rfl _ _ 25 rfl (w.heap.size + 1) 35 i35 2 Try.underlying25 hi hz1 (w.heap.size + 1) es.length (n - 1) _ rfl (hown1.alloc _) ⟨wr.heap.size, 0, none⟩ 1 1 [.int .i64 a, .int .i64 (Z a k)] rfl rfl (two_cells_new _ _ _ _) (two_ints _ _ _) (by omega) ?_))
              intro w3 hown3 hg3
              have he3 := he.step ((a : Int), Z a k) _ hown3 hg3
              clear hown1 hown3 hg3 hcel he
              go_wp2
              go_roundw
              case rel => exact ⟨k + 1, _, by omega, by go_num, by rw [List.length_append]; rfl, he3, HE2⟩
              case measure => simp [intOf]; omega
            · have HE2 : Hid (es = edgesTo (rowOfF L Z) a ++ rowE a ((rowOfF L Z a).take (k + 1))) := by
                show _ = _
                rw [take_row hklt, rowE_snoc_no _ _ _ hb, HE.out]
              go_wp2
              go_roundw
              case rel => exact ⟨k + 1, es, by omega, by go_num, rfl, he, HE2⟩
              case measure => simp [intOf]; omega
          · have HE2 : Hid (es = edgesTo (rowOfF L Z) (a + 1)) := by
              show _ = _
              rw [edgesTo_succ, HE.out, List.take_of_length_le (by rw [rowOfF_len]; omega)]
            go_wp2
            go_roundw
            case rel => exact ⟨a + 1, by omega, by go_num, by rw [HE2.out], by rw [← HE2.out]; exact he⟩
            case measure => simp [intOf]; omega
    · have ea : a = n := by omega
      subst ea
      go_wp2
      go_ret
      exact ⟨rfl, he⟩

end Go.Proofs.Qxb6613598a
