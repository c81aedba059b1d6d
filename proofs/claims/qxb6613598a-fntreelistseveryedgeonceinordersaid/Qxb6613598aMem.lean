/-
  HOW THE ARGUMENT LIES IN MEMORY ('Nb'), and what zzIsTree's 'true' says of it ('TreeF').
-/
import Derived.Test.Qxb6613598aRows
import Derived.Test.Qxb6613598aPlain
import Derived.WalkKit
namespace Go.Proofs.Qxb6613598a
open Go.RowKit

structure Nb (w : World) (bm om n : Nat) (A : Nat → Option Addr) (L C Ab Ao : Nat → Nat) (Z : Nat → Nat → Int) : Prop where
  row : ∀ r, r < n → w.cell? ⟨bm, om + r, none⟩ = some (.slice (A r) (L r) (C r))
  cel : ∀ r, r < n → ∀ c, c < L r → A r = some ⟨Ab r, Ao r, none⟩ ∧ w.cell? ⟨Ab r, Ao r + c, none⟩ = some (.int .i64 (Z r c))

theorem Nb.below {w w' : World} {bm om n : Nat} {A : Nat → Option Addr} {L C Ab Ao : Nat → Nat} {Z : Nat → Nat → Int} (h : Nb w bm om n A L C Ab Ao Z) (hb : Below w.heap.size w w') : Nb w' bm om n A L C Ab Ao Z :=
  ⟨fun r hr => (hb.cell (World.block_lt_of_cell? _ _ (h.row r hr))).trans (h.row r hr),
   fun r hr c hc => ⟨(h.cel r hr c hc).1, (hb.cell (World.block_lt_of_cell? _ _ (h.cel r hr c hc).2)).trans (h.cel r hr c hc).2⟩⟩

def sumL (L : Nat → Nat) (k : Nat) : Nat := ((List.range k).map L).sum
theorem sumL_zero (L : Nat → Nat) : sumL L 0 = 0 := rfl
theorem sumL_succ (L : Nat → Nat) (k : Nat) : sumL L (k + 1) = sumL L k + L k := by
  simp [sumL, List.range_succ]
theorem sumL_le (L : Nat → Nat) {k n : Nat} (h : k ≤ n) : sumL L k ≤ sumL L n := by
  induction n with
  | zero => have : k = 0 := by omega
            subst this; exact Nat.le_refl _
  | succ n ih =>
    by_cases e : k = n + 1
    · subst e; exact Nat.le_refl _
    · rw [sumL_succ]; have := ih (by omega); omega
theorem L_le_sumL (L : Nat → Nat) {a n : Nat} (h : a < n) : sumL L a + L a ≤ sumL L n := by
  have := sumL_le L (show a + 1 ≤ n from h)
  rwa [sumL_succ] at this

/-- one cell of row a stands as a tree's must -/
def CellOk (n : Nat) (L : Nat → Nat) (Z : Nat → Nat → Int) (a k : Nat) : Prop :=
  0 ≤ Z a k ∧ Z a k < n ∧ Z a k ≠ a ∧ (0 < k → Z a (k - 1) < Z a k) ∧ ∃ j, j < L (Z a k).toNat ∧ Z (Z a k).toNat j = a
def TreeF (n : Nat) (L : Nat → Nat) (Z : Nat → Nat → Int) : Prop :=
  1 ≤ n ∧ (∀ a, a < n → ∀ k, k < L a → CellOk n L Z a k) ∧ sumL L n = 2 * (n - 1)

/-- the rows as lists -/
def rowOfF (L : Nat → Nat) (Z : Nat → Nat → Int) (a : Nat) : List Int := (List.range (L a)).map (Z a)
theorem rowOfF_len (L : Nat → Nat) (Z : Nat → Nat → Int) (a : Nat) : (rowOfF L Z a).length = L a := by simp [rowOfF]

theorem srt_of_steps (Z : Nat → Int) (len : Nat) (h : ∀ k, k < len → 0 < k → Z (k - 1) < Z k) : ∀ i j, i < j → j < len → Z i < Z j := by
  intro i j hij hj
  induction j with
  | zero => omega
  | succ j ih =>
    have h1 := h (j + 1) hj (by omega)
    simp at h1
    by_cases e : i = j
    · subst e; exact h1
    · have := ih (by omega) (by omega); omega

theorem TreeF.mono {n : Nat} {L : Nat → Nat} {Z : Nat → Nat → Int} (h : TreeF n L Z) (a : Nat) (ha : a < n) : ∀ i j, i < j → j < L a → Z a i < Z a j :=
  srt_of_steps (Z a) (L a) fun k hk h0 => (h.2.1 a ha k hk).2.2.2.1 h0

theorem TreeF.plain {n : Nat} {L : Nat → Nat} {Z : Nat → Nat → Int} (h : TreeF n L Z) : Plain.TreeP n (rowOfF L Z) := by
  refine ⟨h.1, fun a ha => ?_, fun a ha x hx => ?_, fun a ha x hx => ?_, ?_⟩
  · unfold Plain.Srt rowOfF
    rw [List.pairwise_map]
    refine List.Pairwise.imp_of_mem ?_ (List.pairwise_lt_range (n := L a))
    intro i j _ hj hij
    exact h.mono a ha i j hij (List.mem_range.1 hj)
  · simp only [rowOfF, List.mem_map, List.mem_range] at hx
    obtain ⟨k, hk, rfl⟩ := hx
    have := h.2.1 a ha k hk
    exact ⟨this.1, this.2.1, this.2.2.1⟩
  · simp only [rowOfF, List.mem_map, List.mem_range] at hx ⊢
    obtain ⟨k, hk, rfl⟩ := hx
    obtain ⟨j, hj, e⟩ := (h.2.1 a ha k hk).2.2.2.2
    exact ⟨j, hj, e⟩
  · simp only [rowOfF_len]
    exact h.2.2

end Go.Proofs.Qxb6613598a
