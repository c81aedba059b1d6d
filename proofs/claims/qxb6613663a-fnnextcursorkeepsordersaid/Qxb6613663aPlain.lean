/-
  THE PLAIN LAW OF THE CURSOR SEAT: byte strings as lists of integers; the three-way comparison.
-/
namespace Go.Proofs.Qxb6613663a.Plain

def cmpL : List Int → List Int → Int
  | [], [] => 0
  | [], _ :: _ => -1
  | _ :: _, [] => 1
  | a :: l, b :: m => if a < b then -1 else if b < a then 1 else cmpL l m

theorem cmpL_range : ∀ l m : List Int, cmpL l m = -1 ∨ cmpL l m = 0 ∨ cmpL l m = 1
  | [], [] => by simp [cmpL]
  | [], _ :: _ => by simp [cmpL]
  | _ :: _, [] => by simp [cmpL]
  | a :: l, b :: m => by
    unfold cmpL
    split
    · simp
    · split
      · simp
      · exact cmpL_range l m

theorem cmpL_same (x : Int) (l m : List Int) : cmpL (x :: l) (x :: m) = cmpL l m := by
  rw [cmpL, if_neg (by omega), if_neg (by omega)]

/-- the cursor lies above its key -/
theorem cmpL_snoc : ∀ l : List Int, cmpL (l ++ [0]) l = 1
  | [] => rfl
  | a :: l => by rw [List.cons_append, cmpL_same]; exact cmpL_snoc l

/-- nothing lies between a key and its cursor -/
theorem cmpL_least : ∀ (k l : List Int), (∀ x ∈ k, 0 ≤ x) → 0 < cmpL k l → 0 ≤ cmpL k (l ++ [0])
  | [], [], _, h => by simp [cmpL] at h
  | [], _ :: _, _, h => by simp [cmpL] at h
  | a :: k, [], hk, _ => by
    have ha := hk a (by simp)
    rw [List.nil_append, cmpL, if_neg (by omega)]
    split
    · omega
    · cases k <;> simp [cmpL]
  | a :: k, b :: l, hk, h => by
    rw [List.cons_append]
    rw [cmpL] at h ⊢
    split
    · rename_i h1; rw [if_pos h1] at h; omega
    · rename_i h1
      rw [if_neg h1] at h
      split
      · omega
      · rename_i h2
        rw [if_neg h2] at h
        exact cmpL_least k l (fun x hx => hk x (by simp [hx])) h

/-- cursors compare as their keys -/
theorem cmpL_keeps : ∀ (k l : List Int), (∀ x ∈ k, 0 ≤ x) → (∀ x ∈ l, 0 ≤ x) → cmpL (k ++ [0]) (l ++ [0]) = cmpL k l
  | [], [], _, _ => by simp [cmpL]
  | [], b :: l, _, hl => by
    have hb := hl b (by simp)
    rw [List.nil_append, List.cons_append, cmpL, cmpL]
    split
    · rfl
    · rw [if_neg (by omega)]
      cases l <;> simp [cmpL]
  | a :: k, [], hk, _ => by
    have ha := hk a (by simp)
    rw [List.nil_append, List.cons_append, cmpL, cmpL, if_neg (by omega)]
    split
    · rfl
    · cases k <;> simp [cmpL]
  | a :: k, b :: l, hk, hl => by
    rw [List.cons_append, List.cons_append, cmpL, cmpL]
    rw [cmpL_keeps k l (fun x hx => hk x (by simp [hx])) (fun x hx => hl x (by simp [hx]))]

/-- the loop's step -/
theorem cmpL_drop_step {l m : List Int} {k : Nat} (h1 : k < l.length) (h2 : k < m.length) : cmpL (l.drop k) (m.drop k) = if l[k] < m[k] then -1 else if m[k] < l[k] then 1 else cmpL (l.drop (k + 1)) (m.drop (k + 1)) := by
  rw [List.drop_eq_getElem_cons h1, List.drop_eq_getElem_cons h2, cmpL]

theorem cmpL_end {l m : List Int} {k : Nat} (h : l.length ≤ k ∨ m.length ≤ k) (h1 : k ≤ l.length) (h2 : k ≤ m.length) : cmpL (l.drop k) (m.drop k) = if l.length < m.length then -1 else if m.length < l.length then 1 else 0 := by
  rcases h with h | h
  · rw [List.drop_eq_nil_of_le h]
    by_cases e : k < m.length
    · rw [List.drop_eq_getElem_cons e, cmpL, if_pos (by omega)]
    · rw [List.drop_eq_nil_of_le (by omega), cmpL, if_neg (by omega), if_neg (by omega)]
  · rw [List.drop_eq_nil_of_le h]
    by_cases e : k < l.length
    · rw [List.drop_eq_getElem_cons e, cmpL, if_neg (by omega), if_pos (by omega)]
    · rw [List.drop_eq_nil_of_le (by omega), cmpL, if_neg (by omega), if_neg (by omega)]

end Go.Proofs.Qxb6613663a.Plain
