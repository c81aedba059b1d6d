/-
  cmpBytes (function 9), hasPrefix (function 11).
-/
import Derived.Test.Qxb6613663aRows
import Derived.Test.Qxb6613663aPlain
import Derived.WalkKit
import Derived.WalkSpells
import Derived.WalkSmall
import Derived.Deep.QuietTactic
import Derived.BigQuiet
namespace Go.Proofs.Qxb6613663a
open Go.RowKit Plain

/-- a slice of bytes lies in memory: nothing is asked of an empty one -/
def Row (w : World) (a : Option Addr) (xs : List Int) : Prop :=
  xs = [] ∨ ∃ b o, a = some ⟨b, o, none⟩ ∧ ∀ i, i < xs.length → w.cell? ⟨b, o + i, none⟩ = some (.int .u8 (xs.getD i 0))

theorem Row.below {w w' : World} {a : Option Addr} {xs : List Int} (h : Row w a xs) (hb : Below w.heap.size w w') : Row w' a xs := by
  rcases h with h | ⟨b, o, ha, hc⟩
  · exact Or.inl h
  · exact Or.inr ⟨b, o, ha, fun i hi => (hb.cell (World.block_lt_of_cell? _ _ (hc i hi))).trans (hc i hi)⟩

def CmpPost (w : World) (xs ys : List Int) (e : Ending) (w' : World) : Prop := e = .returned (.int .i64 (cmpL xs ys)) ∧ ∃ n, w' = w.drewN n

theorem CmpPost.mk0 {w : World} {xs ys : List Int} (c : Int) (h : cmpL xs ys = c) (n : Nat) : CmpPost w xs ys (.returned (.int .i64 c)) (w.drewN n) := ⟨by rw [h], n, rfl⟩
theorem CmpPost.mk1 {w : World} {xs ys : List Int} (c : Int) (h : cmpL xs ys = c) (n m : Nat) : CmpPost w xs ys (.returned (.int .i64 c)) ((w.drewN n).drewN m) := ⟨by rw [h], n + m, World.drewN_drewN _ _ _⟩
theorem CmpPost.mk2 {w : World} {xs ys : List Int} (c : Int) (h : cmpL xs ys = c) (n m q : Nat) : CmpPost w xs ys (.returned (.int .i64 c)) (((w.drewN n).drewN m).drewN q) := ⟨by rw [h], n + m + q, by rw [World.drewN_drewN, World.drewN_drewN, Nat.add_assoc]⟩

set_option maxRecDepth 100000 in
theorem cmp_pos (b o cx b2 o2 cy : Nat) (xs ys : List Int) (w : World) (hx : xs.length ≤ 1048577) (hy : ys.length ≤ 1048577)
    (hcx : ∀ i, i < xs.length → w.cell? ⟨b, o + i, none⟩ = some (.int .u8 (xs.getD i 0))) (hcy : ∀ i, i < ys.length → w.cell? ⟨b2, o2 + i, none⟩ = some (.int .u8 (ys.getD i 0))) :
    Calls Try.prog 9 #[.slice (some ⟨b, o, none⟩) xs.length cx, .slice (some ⟨b2, o2, none⟩) ys.length cy] w (CmpPost w xs ys) := by
  have HX : Hid (∀ i, i < xs.length → w.cell? ⟨b, o + i, none⟩ = some (.int .u8 (xs.getD i 0))) := hcx
  have HY : Hid (∀ i, i < ys.length → w.cell? ⟨b2, o2 + i, none⟩ = some (.int .u8 (ys.getD i 0))) := hcy
  clear hcx hcy
  obtain ⟨m, hm⟩ : ∃ m : Nat, m = min xs.length ys.length := ⟨_, rfl⟩
  have hm1 : m ≤ xs.length := by omega
  have hm2 : m ≤ ys.length := by omega
  have HM : Hid (m = min xs.length ys.length) := hm
  clear hm
  have step : ∀ k : Nat, k < m → ∃ x y : Int, w.cell? ⟨b, o + k, none⟩ = some (.int .u8 x) ∧ w.cell? ⟨b2, o2 + k, none⟩ = some (.int .u8 y) ∧
      cmpL (xs.drop k) (ys.drop k) = if x < y then -1 else if y < x then 1 else cmpL (xs.drop (k + 1)) (ys.drop (k + 1)) := by
    intro k hk
    refine ⟨xs[k]'(by omega), ys[k]'(by omega), ?_, ?_, cmpL_drop_step (by omega) (by omega)⟩
    · have := HX.out k (by omega)
      rwa [List.getD, List.getElem?_eq_getElem (by omega)] at this
    · have := HY.out k (by omega)
      rwa [List.getD, List.getElem?_eq_getElem (by omega)] at this
  have ends : cmpL (xs.drop m) (ys.drop m) = if xs.length < ys.length then -1 else if ys.length < xs.length then 1 else 0 := cmpL_end (by have := HM.out; omega) hm1 hm2
  have ST : Hid (∀ k : Nat, k < m → ∃ x y : Int, w.cell? ⟨b, o + k, none⟩ = some (.int .u8 x) ∧ w.cell? ⟨b2, o2 + k, none⟩ = some (.int .u8 y) ∧
      cmpL (xs.drop k) (ys.drop k) = if x < y then -1 else if y < x then 1 else cmpL (xs.drop (k + 1)) (ys.drop (k + 1))) := step
  have EN : Hid (cmpL (xs.drop m) (ys.drop m) = if xs.length < ys.length then -1 else if ys.length < xs.length then 1 else 0) := ends
  clear step ends HX HY
  by_cases hl : ys.length < xs.length
  · have hm3 : ys.length ≤ m := by have := HM.out; omega
    clear HM
    go_enter Try.func9, Try.ntmps9
    go_wp2
    go_loopw [6] (fun i wr => ∃ k n : Nat, k ≤ m ∧ i = .int .i64 k ∧ wr = w.drewN n ∧ Hid (cmpL xs ys = cmpL (xs.drop k) (ys.drop k))) (fun i _ => m - (intOf i).toNat)
    case atStart => exact ⟨0, 0, by omega, rfl, rfl, rfl⟩
    case round =>
      obtain ⟨k, n, hk, rfl, rfl, H⟩ := hrel
      by_cases hlt : k < m
      · obtain ⟨x, y, hc1, hc2, hs⟩ := ST.out k hlt
        have HS : Hid (cmpL xs ys = if x < y then -1 else if y < x then 1 else cmpL (xs.drop (k + 1)) (ys.drop (k + 1))) := H.out.trans hs
        clear hs
        by_cases h1 : x < y
        · go_wp2
          go_quiet (fail)
          go_wp2
          go_ret
          exact CmpPost.mk1 (-1) (by rw [HS.out, if_pos (by omega)]) _ _
        by_cases h2 : y < x
        · go_wp2
          go_quiet (fail)
          go_wp2
          go_quiet (fail)
          go_wp2
          go_ret
          exact CmpPost.mk2 1 (by rw [HS.out, if_neg (by omega), if_pos (by omega)]) _ _ _
        · go_wp2
          go_quiet (fail)
          go_wp2
          go_quiet (fail)
          go_wp2
          go_roundw
          case rel => exact ⟨k + 1, _, by omega, by go_num, rfl, by rw [HS.out, if_neg (by omega), if_neg (by omega)]; rfl⟩
          case measure => simp [intOf]; omega
      · have ek : k = m := by omega
        go_wp2
        go_ret
        exact CmpPost.mk0 1 (by rw [H.out, ek, EN.out, if_neg (by omega), if_pos hl]) _
  · have hm3 : xs.length ≤ m := by have := HM.out; omega
    clear HM
    go_enter Try.func9, Try.ntmps9
    go_wp2
    go_loopw [6] (fun i wr => ∃ k n : Nat, k ≤ m ∧ i = .int .i64 k ∧ wr = w.drewN n ∧ Hid (cmpL xs ys = cmpL (xs.drop k) (ys.drop k))) (fun i _ => m - (intOf i).toNat)
    case atStart => exact ⟨0, 0, by omega, rfl, rfl, rfl⟩
    case round =>
      obtain ⟨k, n, hk, rfl, rfl, H⟩ := hrel
      by_cases hlt : k < m
      · obtain ⟨x, y, hc1, hc2, hs⟩ := ST.out k hlt
        have HS : Hid (cmpL xs ys = if x < y then -1 else if y < x then 1 else cmpL (xs.drop (k + 1)) (ys.drop (k + 1))) := H.out.trans hs
        clear hs
        by_cases h1 : x < y
        · go_wp2
          go_quiet (fail)
          go_wp2
          go_ret
          exact CmpPost.mk1 (-1) (by rw [HS.out, if_pos (by omega)]) _ _
        by_cases h2 : y < x
        · go_wp2
          go_quiet (fail)
          go_wp2
          go_quiet (fail)
          go_wp2
          go_ret
          exact CmpPost.mk2 1 (by rw [HS.out, if_neg (by omega), if_pos (by omega)]) _ _ _
        · go_wp2
          go_quiet (fail)
          go_wp2
          go_quiet (fail)
          go_wp2
          go_roundw
          case rel => exact ⟨k + 1, _, by omega, by go_num, rfl, by rw [HS.out, if_neg (by omega), if_neg (by omega)]; rfl⟩
          case measure => simp [intOf]; omega
      · have ek : k = m := by omega
        by_cases hq : xs.length < ys.length
        · go_wp2
          go_ret
          exact CmpPost.mk0 (-1) (by rw [H.out, ek, EN.out, if_pos hq]) _
        · go_wp2
          go_ret
          exact CmpPost.mk0 0 (by rw [H.out, ek, EN.out, if_neg (by omega), if_neg (by omega)]) _

theorem cmp_nil_left (a a2 : Option Addr) (cx cy : Nat) (ys : List Int) (w : World) (hy : ys.length ≤ 1048577) :
    Calls Try.prog 9 #[.slice a 0 cx, .slice a2 ys.length cy] w (CmpPost w [] ys) := by
  by_cases h : 0 < ys.length
  · have hc : cmpL [] ys = -1 := by cases ys with
      | nil => simp at h
      | cons _ _ => rfl
    have HC : Hid (cmpL [] ys = -1) := hc
    clear hc
    go_enter Try.func9, Try.ntmps9
    go_wp2
    refine wp_loop_rounds 1 ?_
    rw [rounds_succ]
    go_wp2
    go_ret
    exact CmpPost.mk0 (-1) HC.out 0
  · have hn : ys = [] := List.eq_nil_of_length_eq_zero (by omega)
    subst hn
    go_enter Try.func9, Try.ntmps9
    go_wp2
    refine wp_loop_rounds 1 ?_
    rw [rounds_succ]
    go_wp2
    go_ret
    exact CmpPost.mk0 0 rfl 0

theorem cmp_nil_right (a a2 : Option Addr) (cx cy : Nat) (xs : List Int) (w : World) (hx : xs.length ≤ 1048577) (h : 0 < xs.length) :
    Calls Try.prog 9 #[.slice a xs.length cx, .slice a2 0 cy] w (CmpPost w xs []) := by
  have hc : cmpL xs [] = 1 := by cases xs with
    | nil => simp at h
    | cons _ _ => rfl
  have HC : Hid (cmpL xs [] = 1) := hc
  clear hc
  go_enter Try.func9, Try.ntmps9
  go_wp2
  refine wp_loop_rounds 1 ?_
  rw [rounds_succ]
  go_wp2
  go_ret
  exact CmpPost.mk0 1 HC.out 0

theorem cmp_any (a a2 : Option Addr) (lx cx ly cy : Nat) (xs ys : List Int) (w : World) (hlx : xs.length = lx) (hly : ys.length = ly) (hx : lx ≤ 1048577) (hy : ly ≤ 1048577) (rx : Row w a xs) (ry : Row w a2 ys) :
    Calls Try.prog 9 #[.slice a lx cx, .slice a2 ly cy] w (CmpPost w xs ys) := by
  subst hlx
  subst hly
  rcases rx with rfl | ⟨b, o, rfl, hcx⟩
  · exact cmp_nil_left a a2 cx cy ys w hy
  · rcases ry with rfl | ⟨b2, o2, rfl, hcy⟩
    · by_cases h : 0 < xs.length
      · exact cmp_nil_right _ a2 cx cy xs w hx h
      · have hn : xs = [] := List.eq_nil_of_length_eq_zero (by omega)
        subst hn
        exact cmp_nil_left _ a2 cx cy [] w hy
    · exact cmp_pos b o cx b2 o2 cy xs ys w hx hy hcx hcy

/-- hasPrefix(s, p) where s begins with p -/
def PfxPost (w : World) (e : Ending) (w' : World) : Prop := e = .returned (.bool true) ∧ ∃ n, w' = w.drewN n

set_option maxRecDepth 100000 in
theorem pfx_pos (b o cx b2 o2 cy lx : Nat) (ys zs : List Int) (w : World) (hlx : (ys ++ zs).length = lx) (hx : lx ≤ 1048577)
    (hcx : ∀ i, i < (ys ++ zs).length → w.cell? ⟨b, o + i, none⟩ = some (.int .u8 ((ys ++ zs).getD i 0))) (hcy : ∀ i, i < ys.length → w.cell? ⟨b2, o2 + i, none⟩ = some (.int .u8 (ys.getD i 0))) :
    Calls Try.prog 11 #[.slice (some ⟨b, o, none⟩) lx cx, .slice (some ⟨b2, o2, none⟩) ys.length cy] w (PfxPost w) := by
  have hly : ys.length ≤ lx := by rw [← hlx]; simp
  have step : ∀ k : Nat, k < ys.length → ∃ x : Int, w.cell? ⟨b, o + k, none⟩ = some (.int .u8 x) ∧ w.cell? ⟨b2, o2 + k, none⟩ = some (.int .u8 x) := by
    intro k hk
    refine ⟨ys.getD k 0, ?_, hcy k hk⟩
    have := hcx k (by omega)
    rw [this]
    simp [List.getD, List.getElem?_append_left hk]
  have ST : Hid (∀ k : Nat, k < ys.length → ∃ x : Int, w.cell? ⟨b, o + k, none⟩ = some (.int .u8 x) ∧ w.cell? ⟨b2, o2 + k, none⟩ = some (.int .u8 x)) := step
  clear step hcx hcy hlx
  go_enter Try.func11, Try.ntmps11
  go_wp2
  go_loopw [5] (fun i wr => ∃ k n : Nat, k ≤ ys.length ∧ i = .int .i64 k ∧ wr = w.drewN n) (fun i _ => ys.length - (intOf i).toNat)
  case atStart => exact ⟨0, 0, by omega, rfl, rfl⟩
  case round =>
    obtain ⟨k, n, hk, rfl, rfl⟩ := hrel
    by_cases hlt : k < ys.length
    · obtain ⟨x, hc1, hc2⟩ := ST.out k hlt
      have hkx : k < lx := by omega
      go_wp2
      go_quiet (fail)
      go_wp2
      go_roundw
      case rel => exact ⟨k + 1, _, by omega, by go_num, rfl⟩
      case measure => simp [intOf]; omega
    · go_wp2
      go_ret
      exact ⟨rfl, _, rfl⟩

theorem pfx_nil (a a2 : Option Addr) (lx cx cy : Nat) (w : World) :
    Calls Try.prog 11 #[.slice a lx cx, .slice a2 0 cy] w (PfxPost w) := by
  go_enter Try.func11, Try.ntmps11
  go_wp2
  refine wp_loop_rounds 1 ?_
  rw [rounds_succ]
  go_wp2
  go_ret
  exact ⟨rfl, 0, rfl⟩

theorem pfx_any (a a2 : Option Addr) (lx cx ly cy : Nat) (ys zs : List Int) (w : World) (hlx : (ys ++ zs).length = lx) (hly : ys.length = ly) (hx : lx ≤ 1048577) (rx : Row w a (ys ++ zs)) (ry : Row w a2 ys) :
    Calls Try.prog 11 #[.slice a lx cx, .slice a2 ly cy] w (PfxPost w) := by
  subst hly
  rcases ry with rfl | ⟨b2, o2, rfl, hcy⟩
  · exact pfx_nil a a2 lx cx cy w
  · rcases rx with h | ⟨b, o, rfl, hcx⟩
    · have hn : ys = [] := (List.append_eq_nil_iff.1 h).1
      subst hn
      exact pfx_nil a _ lx cx cy w
    · exact pfx_pos b o cx b2 o2 cy lx ys zs w hlx hx hcx hcy

end Go.Proofs.Qxb6613663a
