/-
  THE PLAIN LAW OF THE TREE SEAT: lists of integers alone; no Go in sight.
  'R a': the neighbour list of vertex a. 'TreeP n R': what zzIsTree's answer 'true' gives (connectedness is not needed).
-/
namespace Go.Proofs.Qxb6613598a.Plain

def Srt (l : List Int) : Prop := l.Pairwise (fun x y => x < y)

structure TreeP (n : Nat) (R : Nat → List Int) : Prop where
  pos : 1 ≤ n
  srt : ∀ a, a < n → Srt (R a)
  rng : ∀ a, a < n → ∀ x ∈ R a, 0 ≤ x ∧ x < n ∧ x ≠ a
  sym : ∀ a, a < n → ∀ x ∈ R a, (a : Int) ∈ R x.toNat
  deg : ((List.range n).map fun a => (R a).length).sum = 2 * (n - 1)

def rowE (a : Nat) (l : List Int) : List (Int × Int) := (l.filter (fun b => decide ((a : Int) < b))).map (fun b => ((a : Int), b))
def edgesTo (R : Nat → List Int) (a : Nat) : List (Int × Int) := (List.range a).flatMap (fun i => rowE i (R i))
def gets (v : Int) (e : Int × Int) : List Int := (if e.1 = v then [e.2] else []) ++ (if e.2 = v then [e.1] else [])
def rb (es : List (Int × Int)) (v : Int) : List Int := es.flatMap (gets v)

theorem edgesTo_zero (R : Nat → List Int) : edgesTo R 0 = [] := rfl
theorem edgesTo_succ (R : Nat → List Int) (a : Nat) : edgesTo R (a + 1) = edgesTo R a ++ rowE a (R a) := by
  simp [edgesTo, List.range_succ]
theorem rowE_nil (a : Nat) : rowE a [] = [] := rfl
theorem rowE_snoc_yes (a : Nat) (l : List Int) (b : Int) (h : (a : Int) < b) : rowE a (l ++ [b]) = rowE a l ++ [((a : Int), b)] := by
  simp [rowE, h]
theorem rowE_snoc_no (a : Nat) (l : List Int) (b : Int) (h : ¬ (a : Int) < b) : rowE a (l ++ [b]) = rowE a l := by
  simp [rowE, h]
theorem rowE_len (a : Nat) (l : List Int) : (rowE a l).length ≤ l.length := by
  simp only [rowE, List.length_map]; exact List.length_filter_le _ _
theorem mem_rowE {a : Nat} {l : List Int} {e : Int × Int} : e ∈ rowE a l ↔ e.1 = a ∧ e.2 ∈ l ∧ (a : Int) < e.2 := by
  obtain ⟨x, y⟩ := e
  simp only [rowE, List.mem_map, List.mem_filter, decide_eq_true_eq, Prod.mk.injEq]
  constructor
  · rintro ⟨b, ⟨h1, h2⟩, rfl, rfl⟩; exact ⟨rfl, h1, h2⟩
  · rintro ⟨rfl, h1, h2⟩; exact ⟨y, ⟨h1, h2⟩, rfl, rfl⟩
theorem mem_edges {R : Nat → List Int} {n : Nat} {e : Int × Int} : e ∈ edgesTo R n ↔ ∃ a, a < n ∧ e.1 = (a : Nat) ∧ e.2 ∈ R a ∧ (a : Int) < e.2 := by
  simp only [edgesTo, List.mem_flatMap, List.mem_range, mem_rowE]

theorem srt_eq : ∀ {l m : List Int}, Srt l → Srt m → (∀ x, x ∈ l ↔ x ∈ m) → l = m
  | [], [], _, _, _ => rfl
  | [], b :: m, _, _, h => by have := (h b).2 (by simp); simp at this
  | a :: l, [], _, _, h => by have := (h a).1 (by simp); simp at this
  | a :: l, b :: m, hl, hm, h => by
    simp only [Srt, List.pairwise_cons] at hl hm
    have hab : a = b := by
      have h1 := (h a).1 (by simp)
      have h2 := (h b).2 (by simp)
      simp only [List.mem_cons] at h1 h2
      rcases h1 with h1 | h1
      · exact h1
      · rcases h2 with h2 | h2
        · exact h2.symm
        · have := hl.1 b h2; have := hm.1 a h1; omega
    subst hab
    have : l = m := srt_eq (l := l) (m := m) hl.2 hm.2 fun x => by
      have hx := h x
      simp only [List.mem_cons] at hx
      constructor
      · intro hxl
        rcases hx.1 (Or.inr hxl) with e | e
        · subst e; have := hl.1 _ hxl; omega
        · exact e
      · intro hxm
        rcases hx.2 (Or.inr hxm) with e | e
        · subst e; have := hm.1 _ hxm; omega
        · exact e
    rw [this]

theorem mem_rb {es : List (Int × Int)} {v x : Int} : x ∈ rb es v ↔ (v, x) ∈ es ∨ (x, v) ∈ es := by
  simp only [rb, List.mem_flatMap, gets]
  constructor
  · rintro ⟨⟨a, b⟩, he, hx⟩
    simp only [List.mem_append] at hx
    rcases hx with hx | hx
    · split at hx
      · rename_i h1; simp at hx h1; subst h1; subst hx; exact Or.inl he
      · simp at hx
    · split at hx
      · rename_i h1; simp at hx h1; subst h1; subst hx; exact Or.inr he
      · simp at hx
  · rintro (h | h)
    · exact ⟨_, h, by simp⟩
    · exact ⟨_, h, by simp⟩

theorem rb_append (es fs : List (Int × Int)) (v : Int) : rb (es ++ fs) v = rb es v ++ rb fs v := by simp [rb]
theorem rb_snoc (es : List (Int × Int)) (e : Int × Int) (v : Int) : rb (es ++ [e]) v = rb es v ++ gets v e := by simp [rb]
theorem rb_flat (R : Nat → List Int) (n : Nat) (v : Int) : rb (edgesTo R n) v = (List.range n).flatMap fun i => rb (rowE i (R i)) v := by
  simp [rb, edgesTo, List.flatMap_assoc]

/-- what one row of edges gives to vertex v is in order -/
theorem rb_row_srt {R : Nat → List Int} {i : Nat} (h : Srt (R i)) (v : Int) : Srt (rb (rowE i (R i)) v) := by
  unfold rb Srt
  rw [List.pairwise_flatMap]
  constructor
  · intro e he
    obtain ⟨h1, h2, h3⟩ := mem_rowE.1 he
    unfold gets
    by_cases e1 : e.1 = v
    · rw [if_pos e1, if_neg (by omega)]; simp
    · rw [if_neg e1]; split <;> simp
  · unfold rowE
    rw [List.pairwise_map]
    refine List.Pairwise.imp_of_mem ?_ (h.filter _)
    intro b c hb hc hbc x hx y hy
    simp only [List.mem_filter, decide_eq_true_eq] at hb hc
    simp only [gets, List.mem_append] at hx hy
    by_cases e1 : (i : Int) = v
    · have e2 : ¬ b = v := by omega
      have e3 : ¬ c = v := by omega
      simp [e1, e2, e3] at hx hy
      omega
    · simp only [if_neg e1] at hx hy
      by_cases e2 : b = v
      · have e3 : ¬ c = v := by omega
        simp [e3] at hy
      · simp [e2] at hx

theorem rb_srt {n : Nat} {R : Nat → List Int} (h : ∀ a, a < n → Srt (R a)) (v : Int) : Srt (rb (edgesTo R n) v) := by
  rw [rb_flat]
  unfold Srt
  rw [List.pairwise_flatMap]
  refine ⟨fun i hi => rb_row_srt (h i (List.mem_range.1 hi)) v, ?_⟩
  refine List.Pairwise.imp_of_mem ?_ (List.pairwise_lt_range (n := n))
  intro i j hi hj hij x hx y hy
  have hx' := mem_rb.1 hx
  have hy' := mem_rb.1 hy
  simp only [mem_rowE] at hx' hy'
  omega

theorem rb_eq {n : Nat} {R : Nat → List Int} (h : TreeP n R) (v : Nat) (hv : v < n) : rb (edgesTo R n) v = R v := by
  refine srt_eq (rb_srt h.srt _) (h.srt v hv) fun x => ?_
  rw [mem_rb, mem_edges, mem_edges]
  constructor
  · rintro (⟨a, ha, h1, h2, h3⟩ | ⟨a, ha, h1, h2, h3⟩)
    · simp at h1 h2 h3
      have : a = v := by omega
      subst this; exact h2
    · simp at h1 h2 h3
      have := h.sym a ha _ h2
      simp at this
      rw [h1]; exact this
  · intro hx
    obtain ⟨h0, h1, h2⟩ := h.rng v hv x hx
    by_cases hlt : (v : Int) < x
    · exact Or.inl ⟨v, hv, rfl, hx, hlt⟩
    · exact Or.inr ⟨x.toNat, by omega, by simp; omega, h.sym v hv x hx, by simp; omega⟩

theorem sum_ind (n : Nat) (x : Int) (y : Int) (h0 : 0 ≤ x) (h1 : x < n) : ((List.range n).map fun v => (if x = ((v : Nat) : Int) then [y] else []).length).sum = 1 := by
  have aux : ∀ m : Nat, ((List.range m).map fun v => (if x = ((v : Nat) : Int) then [y] else []).length).sum = if x < m then 1 else 0 := by
    intro m
    induction m with
    | zero => simp; omega
    | succ m ih =>
      rw [List.range_succ, List.map_append, List.sum_append_nat, ih]
      simp only [List.map_cons, List.map_nil, List.sum_cons, List.sum_nil]
      by_cases e : x = m
      · rw [if_neg (by omega), if_pos e, if_pos (by omega)]; rfl
      · rw [if_neg e]
        by_cases e2 : x < m
        · rw [if_pos e2, if_pos (by omega)]; rfl
        · rw [if_neg e2, if_neg (by omega)]; rfl
  rw [aux, if_pos h1]

theorem sum_add (f g : Nat → Nat) : ∀ l : List Nat, (l.map fun v => f v + g v).sum = (l.map f).sum + (l.map g).sum
  | [] => rfl
  | a :: l => by simp only [List.map_cons, List.sum_cons, sum_add f g l]; omega

theorem sum_rb (n : Nat) : ∀ es : List (Int × Int), (∀ e ∈ es, 0 ≤ e.1 ∧ e.1 < n ∧ 0 ≤ e.2 ∧ e.2 < n) → ((List.range n).map fun v => (rb es ((v : Nat) : Int)).length).sum = 2 * es.length
  | [], _ => by
    have : ∀ l : List Nat, (l.map fun v => (rb [] ((v : Nat) : Int)).length).sum = 0 := by
      intro l; induction l with
      | nil => rfl
      | cons a l ih => simp only [List.map_cons, List.sum_cons, ih]; rfl
    simpa using this (List.range n)
  | e :: es, h => by
    have ih := sum_rb n es fun e' he' => h e' (by simp [he'])
    have he := h e (by simp)
    have heq : (fun v : Nat => (rb (e :: es) ((v : Nat) : Int)).length) = fun v => ((if e.1 = ((v : Nat) : Int) then [e.2] else []).length + (if e.2 = ((v : Nat) : Int) then [e.1] else []).length) + (rb es ((v : Nat) : Int)).length := by
      funext v; simp only [rb, List.flatMap_cons, List.length_append, gets]
    rw [heq, sum_add (fun v : Nat => (if e.1 = ((v : Nat) : Int) then [e.2] else []).length + (if e.2 = ((v : Nat) : Int) then [e.1] else []).length), sum_add, ih, sum_ind n e.1 e.2 he.1 he.2.1, sum_ind n e.2 e.1 he.2.2.1 he.2.2.2]
    simp only [List.length_cons]; omega

theorem edges_in {n : Nat} {R : Nat → List Int} (h : TreeP n R) : ∀ e ∈ edgesTo R n, 0 ≤ e.1 ∧ e.1 < e.2 ∧ e.2 < n ∧ e.2 ∈ R e.1.toNat := by
  intro e he
  obtain ⟨a, ha, h1, h2, h3⟩ := mem_edges.1 he
  obtain ⟨r1, r2, r3⟩ := h.rng a ha _ h2
  rw [h1]
  refine ⟨by omega, h3, r2, by simpa using h2⟩

theorem edges_len {n : Nat} {R : Nat → List Int} (h : TreeP n R) : (edgesTo R n).length = n - 1 := by
  have h1 := sum_rb n (edgesTo R n) fun e he => by have := edges_in h e he; omega
  have h2 : ((List.range n).map fun v => (rb (edgesTo R n) ((v : Nat) : Int)).length) = (List.range n).map fun a => (R a).length :=
    List.map_congr_left fun v hv => by rw [rb_eq h v (List.mem_range.1 hv)]
  rw [h2, h.deg] at h1
  omega

/-- the edges come in order, none twice -/
theorem edges_lex {n : Nat} {R : Nat → List Int} (h : ∀ a, a < n → Srt (R a)) : (edgesTo R n).Pairwise fun e f => e.1 < f.1 ∨ (e.1 = f.1 ∧ e.2 < f.2) := by
  unfold edgesTo
  rw [List.pairwise_flatMap]
  constructor
  · intro i hi
    unfold rowE
    rw [List.pairwise_map]
    exact List.Pairwise.imp_of_mem (fun _ _ hbc => Or.inr ⟨rfl, hbc⟩) ((h i (List.mem_range.1 hi)).filter _)
  · refine List.Pairwise.imp_of_mem ?_ (List.pairwise_lt_range (n := n))
    intro i j hi hj hij x hx y hy
    have hx' := (mem_rowE.1 hx).1
    have hy' := (mem_rowE.1 hy).1
    left; omega

end Go.Proofs.Qxb6613598a.Plain
