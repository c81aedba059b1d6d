/-
  ZZrosterOfTree (10), ZZrosterWithoutTree (7), (Roster).Tree (8), the two zzBytes (12, 6).
-/
import Derived.Test.Qxb6613598aEdg
import Derived.Laws.EntriesVeiled
namespace Go.Proofs.Qxb6613598a
open Go.RowKit Plain

set_option maxRecDepth 100000 in
theorem roster_any (v : Option Addr) (n cap : Nat) (w : World) :
    Calls Try.prog 10 #[.slice v n cap] w fun e w' => e = .returned (.agg #[.nilFunc, .nilFunc, .pointer (some ⟨w.heap.size + 1, 0, none⟩)]) ∧ Below w.heap.size w w' ∧ w'.cell? ⟨w.heap.size + 1, 0, none⟩ = some (.slice v n cap) := by
  go_enter Try.func10, Try.ntmps10
  go_wp2
  exact bodyPost_ret (v := .agg #[.nilFunc, .nilFunc, .pointer (some ⟨w.heap.size + 1, 0, none⟩)]) (by simp [results, Try.results10, go_sem]) rfl ⟨rfl, ((Below.refl _ _).alloc (Nat.le_refl _) _).alloc (by simp) _, by simp⟩

theorem roster_none (w : World) :
    Calls Try.prog 7 #[] w fun e w' => e = .returned (.agg #[.nilFunc, .nilFunc, .pointer none]) ∧ Below w.heap.size w w'  := by
  go_enter Try.func7, Try.ntmps7
  go_wp2
  exact bodyPost_ret (v := .agg #[.nilFunc, .nilFunc, .pointer none]) (by simp [results, Try.results7, go_sem]) rfl ⟨rfl, ((Below.refl _ _).alloc (Nat.le_refl _) _)⟩

/-- what Tree() hands back over a tree: a slice of pairs in new memory, not nil -/
def GotPost (w : World) (n : Nat) (es : List (Int × Int)) (e : Ending) (w' : World) : Prop :=
  ∃ g, w.heap.size ≤ g ∧ e = .returned (.slice (some ⟨g, 0, none⟩) es.length (n - 1)) ∧ Below w.heap.size w w' ∧ w'.ownsRow g 35 2 (.slice (some ⟨g, 0, none⟩) es.length (n - 1)) es.length (ev es)

set_option maxRecDepth 100000 in
theorem tree8_any (pb bm om n cap : Nat) (A : Nat → Option Addr) (L C Ab Ao : Nat → Nat) (Z : Nat → Nat → Int) (w : World) (hn : 0 < n) (hsum : n + sumL L n ≤ 131072) (hnb : Nb w bm om n A L C Ab Ao Z) (HT : Hid (TreeF n L Z))
    (hp : w.cell? ⟨pb, 0, none⟩ = some (.slice (some ⟨bm, om, none⟩) n cap)) :
    Calls Try.prog 8 #[.agg #[.nilFunc, .nilFunc, .pointer (some ⟨pb, 0, none⟩)]] w (GotPost w n (edgesTo (rowOfF L Z) n)) := by
  have hpb : pb < w.heap.size := World.block_lt_of_cell? _ _ hp
  go_enter Try.func8, Try.ntmps8
  go_wp2_with fail
  refine (edges_any bm om n cap A L C Ab Ao Z _ hn hsum (hnb.below ((Below.refl _ _).alloc (Nat.le_refl _) _)) HT).mono ?_
  rintro e w' ⟨rfl, he⟩
  have hown := he.own
  have hb : Below w.heap.size w w' := ((Below.refl _ _).alloc (Nat.le_refl _) _).trans (he.below.mono (by simp))
  clear he
  simp only [World.size_alloc] at hown ⊢
  go_wp2
  go_ret
  exact ⟨w.heap.size + 1 + 1, by omega, rfl, hb, hown⟩

theorem tree8_none (w : World) : Calls Try.prog 8 #[.agg #[.nilFunc, .nilFunc, .pointer none]] w fun e w' => e = .returned (.slice none 0 0) ∧ Below w.heap.size w w' := by
  go_enter Try.func8, Try.ntmps8
  go_wp2
  go_ret
  exact ⟨rfl, (Below.refl _ _).alloc (Nat.le_refl _) _⟩

theorem upto_succ {L : Nat → Nat} {k : Nat} (h : ∀ j, j < k → L j ≤ 1048576) (h2 : L k ≤ 1048576) : ∀ j, j < k + 1 → L j ≤ 1048576 := by
  intro j hj
  by_cases e : j = k
  · subst e; exact h2
  · exact h j (by omega)

def BytesPost (w : World) (n : Nat) (L : Nat → Nat) (e : Ending) (w' : World) : Prop := ∃ r : Bool, e = .returned (.bool r) ∧ w' = w ∧ (r = true → ∀ j, j < n → L j ≤ 1048576)
set_option maxRecDepth 100000 in
theorem bytes12_any (bm om n cap : Nat) (A : Nat → Option Addr) (L C Ab Ao : Nat → Nat) (Z : Nat → Nat → Int) (w : World) (hnb : Nb w bm om n A L C Ab Ao Z) (hmx : n ≤ 9223372036854775807) :
    Calls Try.prog 12 #[.slice (some ⟨bm, om, none⟩) n cap] w (BytesPost w n L) := by
  by_cases hbig : 1048576 < n
  · go_enter Try.func12, Try.ntmps12
    go_wp2
    go_ret
    exact ⟨false, rfl, rfl, fun h => by cases h⟩
  go_enter Try.func12, Try.ntmps12
  go_wp2
  go_loop [3, 4] (fun m i => ∃ q k : Nat, k ≤ n ∧ q ≤ 1048576 ∧ i = .int .i64 k ∧ m = .int .i64 q ∧ Hid (∀ j, j < k → L j ≤ 1048576)) (fun _ i => n - (intOf i).toNat)
  case atStart => exact ⟨n, 0, by omega, by omega, rfl, rfl, fun j hj => absurd hj (Nat.not_lt_zero _)⟩
  case round =>
    obtain ⟨q, k, hk, hq, rfl, rfl, H⟩ := hrel
    by_cases hlt : k < n
    · have hrow := hnb.row k hlt
      by_cases h1 : 1048576 < L k
      · go_wp2
        go_ret
        exact ⟨false, rfl, rfl, fun h => by cases h⟩
      by_cases h2 : 1048576 < q + L k
      · go_wp2
        go_ret
        exact ⟨false, rfl, rfl, fun h => by cases h⟩
      go_wp2
      go_round
      case rel => exact ⟨q + L k, k + 1, by omega, by omega, by go_num, by go_num, upto_succ H.out (by omega)⟩
      case measure => simp [intOf]; omega
    · go_wp2
      go_ret
      exact ⟨_, rfl, rfl, fun _ j hj => H.out j (by omega)⟩

theorem bytes12_zero (A : Option Addr) (cap : Nat) (L : Nat → Nat) (w : World) :
    Calls Try.prog 12 #[.slice A 0 cap] w (BytesPost w 0 L) := by
  go_enter Try.func12, Try.ntmps12
  go_wp2
  refine wp_loop_rounds 1 ?_
  rw [rounds_succ]
  go_wp2
  go_ret
  exact ⟨_, rfl, rfl, fun _ j hj => absurd hj (Nat.not_lt_zero _)⟩


set_option maxRecDepth 100000 in
theorem bytes6_any (ht : Bool) (bm om n cap : Nat) (A : Nat → Option Addr) (L C Ab Ao : Nat → Nat) (Z : Nat → Nat → Int) (w : World) (hnb : Nb w bm om n A L C Ab Ao Z) (hmx : n ≤ 9223372036854775807) :
    Calls Try.prog 6 #[.bool ht, .slice (some ⟨bm, om, none⟩) n cap] w (BytesPost w n L) := by
  by_cases hbig : 1048576 < n
  · go_enter Try.func6, Try.ntmps6
    go_wp2
    go_ret
    exact ⟨false, rfl, rfl, fun h => by cases h⟩
  go_enter Try.func6, Try.ntmps6
  go_wp2
  go_loop [5, 6] (fun m i => ∃ q k : Nat, k ≤ n ∧ q ≤ 1048576 ∧ i = .int .i64 k ∧ m = .int .i64 q ∧ Hid (∀ j, j < k → L j ≤ 1048576)) (fun _ i => n - (intOf i).toNat)
  case atStart => exact ⟨n, 0, by omega, by omega, rfl, rfl, fun j hj => absurd hj (Nat.not_lt_zero _)⟩
  case round =>
    obtain ⟨q, k, hk, hq, rfl, rfl, H⟩ := hrel
    by_cases hlt : k < n
    · have hrow := hnb.row k hlt
      by_cases h1 : 1048576 < L k
      · go_wp2
        go_ret
        exact ⟨false, rfl, rfl, fun h => by cases h⟩
      by_cases h2 : 1048576 < q + L k
      · go_wp2
        go_ret
        exact ⟨false, rfl, rfl, fun h => by cases h⟩
      go_wp2
      go_round
      case rel => exact ⟨q + L k, k + 1, by omega, by omega, by go_num, by go_num, upto_succ H.out (by omega)⟩
      case measure => simp [intOf]; omega
    · go_wp2
      go_ret
      exact ⟨_, rfl, rfl, fun _ j hj => H.out j (by omega)⟩

theorem bytes6_zero (ht : Bool) (A : Option Addr) (cap : Nat) (L : Nat → Nat) (w : World) :
    Calls Try.prog 6 #[.bool ht, .slice A 0 cap] w (BytesPost w 0 L) := by
  go_enter Try.func6, Try.ntmps6
  go_wp2
  refine wp_loop_rounds 1 ?_
  rw [rounds_succ]
  go_wp2
  go_ret
  exact ⟨_, rfl, rfl, fun _ j hj => absurd hj (Nat.not_lt_zero _)⟩

end Go.Proofs.Qxb6613598a
