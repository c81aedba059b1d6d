/-
  THE WALK OF zzHasInt (function 11): a binary search; whatever the slice holds, 'true' means that x is there; over a slice in order, x being there means 'true'.
-/
import Derived.Test.Qxb6613598aRows
import Derived.WalkKit
namespace Go.Proofs.Qxb6613598a
open Go.RowKit

def HasPost (w : World) (Z : Nat → Int) (len : Nat) (x : Int) (e : Ending) (w' : World) : Prop :=
  ∃ r : Bool, e = .returned (.bool r) ∧ w' = w ∧ (r = true → ∃ c, c < len ∧ Z c = x) ∧ ((∀ i j, i < j → j < len → Z i < Z j) → (∃ c, c < len ∧ Z c = x) → r = true)

theorem has_pos (b o len cap : Nat) (Z : Nat → Int) (x : Int) (w : World) (hbig : len ≤ 9223372036854775807)
    (hc : ∀ c, c < len → w.cell? ⟨b, o + c, none⟩ = some (.int .i64 (Z c))) :
    Calls Try.prog 11 #[.slice (some ⟨b, o, none⟩) len cap, .int .i64 x] w (HasPost w Z len x) := by
  go_enter Try.func11, Try.ntmps11
  go_wp2
  go_loop [5, 6] (fun lo hi => ∃ l h : Nat, l ≤ h ∧ h ≤ len ∧ lo = .int .i64 l ∧ hi = .int .i64 h ∧ Hid ((∀ i j, i < j → j < len → Z i < Z j) → ∀ c, c < len → Z c = x → l ≤ c ∧ c ≤ h))
    (fun lo hi => (intOf hi).toNat - (intOf lo).toNat)
  case atStart => exact ⟨0, len, Nat.zero_le _, Nat.le_refl _, rfl, rfl, fun _ c hc _ => ⟨Nat.zero_le _, by omega⟩⟩
  case round =>
    obtain ⟨l, h, hlh, hh, rfl, rfl, H⟩ := hrel
    have hcell : l < h → w.cell? ⟨b, o + (l + (h - l) / 2), none⟩ = some (.int .i64 (Z (l + (h - l) / 2))) := fun _ => hc _ (by omega)
    have hcl : l < len → w.cell? ⟨b, o + l, none⟩ = some (.int .i64 (Z l)) := fun _ => hc _ (by omega)
    go_wp2
    · have hlt : l < h := by assumption
      have hq : Z (l + (h - l) / 2) < x := by assumption
      go_round
      case rel =>
        refine ⟨l + (h - l) / 2 + 1, h, by omega, hh, by go_num, rfl, fun hs c hcl hcx => ?_⟩
        have h1 := H.out hs c hcl hcx
        refine ⟨?_, h1.2⟩
        rcases Nat.lt_or_ge (l + (h - l) / 2) c with h2 | h2
        · exact h2
        · rcases Nat.lt_or_ge c (l + (h - l) / 2) with h3 | h3
          · have := hs c (l + (h - l) / 2) h3 (by omega); omega
          · have : c = l + (h - l) / 2 := by omega
            rw [← this] at hq; omega
      case measure => simp only [intOf]; omega
    · have hlt : l < h := by assumption
      have hq : x ≤ Z (l + (h - l) / 2) := by assumption
      go_round
      case rel =>
        refine ⟨l, l + (h - l) / 2, by omega, by omega, rfl, by go_num, fun hs c hcl hcx => ?_⟩
        have h1 := H.out hs c hcl hcx
        refine ⟨h1.1, ?_⟩
        rcases Nat.lt_or_ge (l + (h - l) / 2) c with h2 | h2
        · have := hs (l + (h - l) / 2) c h2 hcl; omega
        · exact h2
      case measure => simp only [intOf]; omega
    · have hge : ¬ l < h := by assumption
      have hl : l < len := by assumption
      go_ret
      refine ⟨_, rfl, rfl, fun hr => ⟨l, hl, by simpa using hr⟩, fun hs ⟨c, hc1, hc2⟩ => ?_⟩
      have h1 := H.out hs c hc1 hc2
      have : c = l := by omega
      subst this
      simpa using hc2
    · have hge : ¬ l < h := by assumption
      have hl : ¬ l < len := by assumption
      go_ret
      refine ⟨false, rfl, rfl, fun hr => (by cases hr), fun hs ⟨c, hc1, hc2⟩ => ?_⟩
      have h1 := H.out hs c hc1 hc2
      omega

theorem has_zero (A : Option Addr) (cap : Nat) (Z : Nat → Int) (x : Int) (w : World) :
    Calls Try.prog 11 #[.slice A 0 cap, .int .i64 x] w (HasPost w Z 0 x) := by
  go_enter Try.func11, Try.ntmps11
  go_wp2
  refine wp_loop_rounds 1 ?_
  rw [rounds_succ]
  go_wp2
  go_ret
  exact ⟨false, rfl, rfl, fun hr => (by cases hr), fun _ ⟨c, hc, _⟩ => absurd hc (Nat.not_lt_zero _)⟩

/-- for a row that may be nil -/
theorem has_any (A : Option Addr) (b o len cap : Nat) (Z : Nat → Int) (x : Int) (w : World) (hbig : len ≤ 9223372036854775807)
    (hc : ∀ c, c < len → A = some ⟨b, o, none⟩ ∧ w.cell? ⟨b, o + c, none⟩ = some (.int .i64 (Z c))) :
    Calls Try.prog 11 #[.slice A len cap, .int .i64 x] w (HasPost w Z len x) := by
  cases len with
  | zero => exact has_zero A cap Z x w
  | succ m =>
    have := (hc 0 (Nat.succ_pos _)).1
    subst this
    exact has_pos b o (m + 1) cap Z x w hbig fun c h => (hc c h).2

end Go.Proofs.Qxb6613598a
