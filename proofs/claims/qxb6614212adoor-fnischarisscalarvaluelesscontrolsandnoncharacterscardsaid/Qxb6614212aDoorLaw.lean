/-
  THE WALK OF FnIsCharIsScalarValueLessControlsAndNoncharacters (function 3).
-/
import Derived.Test.Qxb6614212aDoorSpans
namespace Go.Proofs.Qxb6614212aDoor
open Go.RowKit

theorem inS_mem {r : Int} : ∀ {l : List (Int × Int)}, inS r l = true → ∃ e ∈ l, e.1 ≤ r ∧ r ≤ e.2
  | [], h => by cases h
  | (lo, hi) :: t, h => by
    unfold inS at h
    split at h
    · cases h
    · split at h
      · exact ⟨(lo, hi), by simp, by simp; omega, by simpa using ‹r ≤ hi›⟩
      · obtain ⟨e, he, h1⟩ := inS_mem h
        exact ⟨e, by simp [he], h1⟩

theorem ch_yes {r : Int} (h : (32 ≤ r ∧ r ≤ 55295) ∨ (57344 ≤ r ∧ r ≤ 65533) ∨ (65536 ≤ r ∧ r ≤ 1114111)) : chB r = true := by
  have : inS r chS = true := by
    simp only [chS, inS]
    repeat' split
    all_goals first | rfl | omega
  simp [chB, this]
theorem ch_ctl {r : Int} (h : r = 9 ∨ r = 10 ∨ r = 13) : chB r = true := by simp [chB, h]
theorem ch_no {r : Int} (h9 : ¬ (r = 9 ∨ r = 10 ∨ r = 13)) (h : ¬ ((32 ≤ r ∧ r ≤ 55295) ∨ (57344 ≤ r ∧ r ≤ 65533) ∨ (65536 ≤ r ∧ r ≤ 1114111))) : chB r = false := by
  have : inS r chS = false := by
    simp only [chS, inS]
    repeat' split
    all_goals first | rfl | omega
  simp [chB, this, h9]

def okSpan (e : Int × Int) : Bool := decide ((32 ≤ e.1 ∧ e.2 ≤ 55295) ∨ (57344 ≤ e.1 ∧ e.2 ≤ 65533) ∨ (65536 ≤ e.1 ∧ e.2 ≤ 1114111))
theorem span_ch {r : Int} {l : List (Int × Int)} (hl : l.all okSpan = true) (h : inS r l = true) : chB r = true := by
  obtain ⟨e, he, h1, h2⟩ := inS_mem h
  have := List.all_eq_true.1 hl e he
  simp only [okSpan, decide_eq_true_eq] at this
  exact ch_yes (by omega)
theorem nm_ch {r : Int} (h : nmB r = true) : chB r = true := by
  simp only [nmB, Bool.or_eq_true] at h
  rcases h with h | h
  · exact span_ch (l := nsS) (by decide) h
  · exact span_ch (l := noS) (by decide) h
theorem ns_nm {r : Int} (h : nsB r = true) : nmB r = true := by
  unfold nsB at h
  simp [nmB, h]

/-- which answers can stand together -/
theorem bools (r : Int) : (chB r = true ∧ nsB r = true ∧ nmB r = true) ∨ (chB r = true ∧ nsB r = false ∧ nmB r = true) ∨ (chB r = true ∧ nsB r = false ∧ nmB r = false) ∨ (chB r = false ∧ nsB r = false ∧ nmB r = false) := by
  have h1 := @nm_ch r
  have h2 := @ns_nm r
  cases hc : chB r <;> cases hs : nsB r <;> cases hm : nmB r <;> simp_all

theorem yesCases {r : Int} (h : chB r = true) : r = 9 ∨ r = 10 ∨ r = 13 ∨ (32 ≤ r ∧ r ≤ 55295) ∨ (57344 ≤ r ∧ r ≤ 65533) ∨ (65536 ≤ r ∧ r ≤ 1114111) := by
  rcases Decidable.em (r = 9 ∨ r = 10 ∨ r = 13) with h9 | h9
  · omega
  · rcases Decidable.em ((32 ≤ r ∧ r ≤ 55295) ∨ (57344 ≤ r ∧ r ≤ 65533) ∨ (65536 ≤ r ∧ r ≤ 1114111)) with h2 | h2
    · omega
    · rw [ch_no h9 h2] at h; cases h
theorem noCases {r : Int} (h : chB r = false) : r < 0 ∨ (0 ≤ r ∧ r ≤ 8) ∨ (11 ≤ r ∧ r ≤ 12) ∨ (14 ≤ r ∧ r ≤ 31) ∨ (55296 ≤ r ∧ r ≤ 57343) ∨ r = 65534 ∨ r = 65535 ∨ 1114112 ≤ r := by
  rcases Decidable.em (r = 9 ∨ r = 10 ∨ r = 13) with h9 | h9
  · rw [ch_ctl h9] at h; cases h
  · rcases Decidable.em ((32 ≤ r ∧ r ≤ 55295) ∨ (57344 ≤ r ∧ r ≤ 65533) ∨ (65536 ≤ r ∧ r ≤ 1114111)) with h2 | h2
    · rw [ch_yes h2] at h; cases h
    · omega

def LawPost (w : World) (e : Ending) (w' : World) : Prop := e = .returned (.bool true) ∧ Below w.heap.size w w'


set_option maxRecDepth 100000 in
theorem yes9 (r : Int) (vs vm : Bool) (w : World) (ht : Tabs w) (hc : chB r = true) (hs : nsB r = vs) (hm : nmB r = vm) (hv : (vs = true ∧ vm = true) ∨ (vs = false ∧ vm = true) ∨ (vs = false ∧ vm = false)) (hr : r = 9) :
    Calls Tryd.prog 3 #[.int .i32 r] w (LawPost w) := by
  have HC : Hid (chB r = true) := hc
  have HS : Hid (nsB r = vs) := hs
  have HM : Hid (nmB r = vm) := hm
  clear hc hs hm
  subst hr
  rcases hv with ⟨rfl, rfl⟩ | ⟨rfl, rfl⟩ | ⟨rfl, rfl⟩
  all_goals
    go_enter Tryd.func3, Tryd.ntmps3
    go_wp2_with fail
    refine (isChar4 _ w ht).mono ?_
    rintro e w1 ⟨rfl, hb1⟩
    rw [HC.out]
    go_wp2_with fail
    refine (isNameStart5 _ w1 (ht.below hb1)).mono ?_
    rintro e w2 ⟨rfl, hb2⟩
    rw [HS.out]
    have hb12 := hb1.trans (hb2.mono hb1.size)
    go_wp2_with fail
    refine (isName6 _ w2 (ht.below hb12)).mono ?_
    rintro e w3 ⟨rfl, hb3⟩
    rw [HM.out]
    have hb13 := hb12.trans (hb3.mono hb12.size)
    clear hb1 hb2 hb3 hb12
    go_wp2
    go_ret
    exact ⟨rfl, hb13⟩

set_option maxRecDepth 100000 in
theorem yes10 (r : Int) (vs vm : Bool) (w : World) (ht : Tabs w) (hc : chB r = true) (hs : nsB r = vs) (hm : nmB r = vm) (hv : (vs = true ∧ vm = true) ∨ (vs = false ∧ vm = true) ∨ (vs = false ∧ vm = false)) (hr : r = 10) :
    Calls Tryd.prog 3 #[.int .i32 r] w (LawPost w) := by
  have HC : Hid (chB r = true) := hc
  have HS : Hid (nsB r = vs) := hs
  have HM : Hid (nmB r = vm) := hm
  clear hc hs hm
  subst hr
  rcases hv with ⟨rfl, rfl⟩ | ⟨rfl, rfl⟩ | ⟨rfl, rfl⟩
  all_goals
    go_enter Tryd.func3, Tryd.ntmps3
    go_wp2_with fail
    refine (isChar4 _ w ht).mono ?_
    rintro e w1 ⟨rfl, hb1⟩
    rw [HC.out]
    go_wp2_with fail
    refine (isNameStart5 _ w1 (ht.below hb1)).mono ?_
    rintro e w2 ⟨rfl, hb2⟩
    rw [HS.out]
    have hb12 := hb1.trans (hb2.mono hb1.size)
    go_wp2_with fail
    refine (isName6 _ w2 (ht.below hb12)).mono ?_
    rintro e w3 ⟨rfl, hb3⟩
    rw [HM.out]
    have hb13 := hb12.trans (hb3.mono hb12.size)
    clear hb1 hb2 hb3 hb12
    go_wp2
    go_ret
    exact ⟨rfl, hb13⟩

set_option maxRecDepth 100000 in
theorem yes13 (r : Int) (vs vm : Bool) (w : World) (ht : Tabs w) (hc : chB r = true) (hs : nsB r = vs) (hm : nmB r = vm) (hv : (vs = true ∧ vm = true) ∨ (vs = false ∧ vm = true) ∨ (vs = false ∧ vm = false)) (hr : r = 13) :
    Calls Tryd.prog 3 #[.int .i32 r] w (LawPost w) := by
  have HC : Hid (chB r = true) := hc
  have HS : Hid (nsB r = vs) := hs
  have HM : Hid (nmB r = vm) := hm
  clear hc hs hm
  subst hr
  rcases hv with ⟨rfl, rfl⟩ | ⟨rfl, rfl⟩ | ⟨rfl, rfl⟩
  all_goals
    go_enter Tryd.func3, Tryd.ntmps3
    go_wp2_with fail
    refine (isChar4 _ w ht).mono ?_
    rintro e w1 ⟨rfl, hb1⟩
    rw [HC.out]
    go_wp2_with fail
    refine (isNameStart5 _ w1 (ht.below hb1)).mono ?_
    rintro e w2 ⟨rfl, hb2⟩
    rw [HS.out]
    have hb12 := hb1.trans (hb2.mono hb1.size)
    go_wp2_with fail
    refine (isName6 _ w2 (ht.below hb12)).mono ?_
    rintro e w3 ⟨rfl, hb3⟩
    rw [HM.out]
    have hb13 := hb12.trans (hb3.mono hb12.size)
    clear hb1 hb2 hb3 hb12
    go_wp2
    go_ret
    exact ⟨rfl, hb13⟩

set_option maxRecDepth 100000 in
theorem yesA (r : Int) (vs vm : Bool) (w : World) (ht : Tabs w) (hc : chB r = true) (hs : nsB r = vs) (hm : nmB r = vm) (hv : (vs = true ∧ vm = true) ∨ (vs = false ∧ vm = true) ∨ (vs = false ∧ vm = false)) (hr : 32 ≤ r) (hr2 : r ≤ 55295) :
    Calls Tryd.prog 3 #[.int .i32 r] w (LawPost w) := by
  have HC : Hid (chB r = true) := hc
  have HS : Hid (nsB r = vs) := hs
  have HM : Hid (nmB r = vm) := hm
  clear hc hs hm
  have n1 : (r != 65534) = true := by simp; omega
  have n2 : (r != 65535) = true := by simp; omega
  rcases hv with ⟨rfl, rfl⟩ | ⟨rfl, rfl⟩ | ⟨rfl, rfl⟩
  all_goals
    go_enter Tryd.func3, Tryd.ntmps3
    go_wp2_with fail
    refine (isChar4 _ w ht).mono ?_
    rintro e w1 ⟨rfl, hb1⟩
    rw [HC.out]
    go_wp2_with fail
    refine (isNameStart5 _ w1 (ht.below hb1)).mono ?_
    rintro e w2 ⟨rfl, hb2⟩
    rw [HS.out]
    have hb12 := hb1.trans (hb2.mono hb1.size)
    go_wp2_with fail
    refine (isName6 _ w2 (ht.below hb12)).mono ?_
    rintro e w3 ⟨rfl, hb3⟩
    rw [HM.out]
    have hb13 := hb12.trans (hb3.mono hb12.size)
    clear hb1 hb2 hb3 hb12
    go_wp2
    go_ret
    exact ⟨rfl, hb13⟩

set_option maxRecDepth 100000 in
theorem yesB (r : Int) (vs vm : Bool) (w : World) (ht : Tabs w) (hc : chB r = true) (hs : nsB r = vs) (hm : nmB r = vm) (hv : (vs = true ∧ vm = true) ∨ (vs = false ∧ vm = true) ∨ (vs = false ∧ vm = false)) (hr : 57344 ≤ r) (hr2 : r ≤ 65533) :
    Calls Tryd.prog 3 #[.int .i32 r] w (LawPost w) := by
  have HC : Hid (chB r = true) := hc
  have HS : Hid (nsB r = vs) := hs
  have HM : Hid (nmB r = vm) := hm
  clear hc hs hm
  have d1 : decide (r < 55296) = false := by simp; omega
  have d2 : decide (57343 < r) = true := by simp; omega
  have n1 : (r != 65534) = true := by simp; omega
  have n2 : (r != 65535) = true := by simp; omega
  rcases hv with ⟨rfl, rfl⟩ | ⟨rfl, rfl⟩ | ⟨rfl, rfl⟩
  all_goals
    go_enter Tryd.func3, Tryd.ntmps3
    go_wp2_with fail
    refine (isChar4 _ w ht).mono ?_
    rintro e w1 ⟨rfl, hb1⟩
    rw [HC.out]
    go_wp2_with fail
    refine (isNameStart5 _ w1 (ht.below hb1)).mono ?_
    rintro e w2 ⟨rfl, hb2⟩
    rw [HS.out]
    have hb12 := hb1.trans (hb2.mono hb1.size)
    go_wp2_with fail
    refine (isName6 _ w2 (ht.below hb12)).mono ?_
    rintro e w3 ⟨rfl, hb3⟩
    rw [HM.out]
    have hb13 := hb12.trans (hb3.mono hb12.size)
    clear hb1 hb2 hb3 hb12
    go_wp2
    go_ret
    exact ⟨rfl, hb13⟩

set_option maxRecDepth 100000 in
theorem yesC (r : Int) (vs vm : Bool) (w : World) (ht : Tabs w) (hc : chB r = true) (hs : nsB r = vs) (hm : nmB r = vm) (hv : (vs = true ∧ vm = true) ∨ (vs = false ∧ vm = true) ∨ (vs = false ∧ vm = false)) (hr : 65536 ≤ r) (hr2 : r ≤ 1114111) :
    Calls Tryd.prog 3 #[.int .i32 r] w (LawPost w) := by
  have HC : Hid (chB r = true) := hc
  have HS : Hid (nsB r = vs) := hs
  have HM : Hid (nmB r = vm) := hm
  clear hc hs hm
  have d1 : decide (r < 55296) = false := by simp; omega
  have d2 : decide (57343 < r) = true := by simp; omega
  have n1 : (r != 65534) = true := by simp; omega
  have n2 : (r != 65535) = true := by simp; omega
  rcases hv with ⟨rfl, rfl⟩ | ⟨rfl, rfl⟩ | ⟨rfl, rfl⟩
  all_goals
    go_enter Tryd.func3, Tryd.ntmps3
    go_wp2_with fail
    refine (isChar4 _ w ht).mono ?_
    rintro e w1 ⟨rfl, hb1⟩
    rw [HC.out]
    go_wp2_with fail
    refine (isNameStart5 _ w1 (ht.below hb1)).mono ?_
    rintro e w2 ⟨rfl, hb2⟩
    rw [HS.out]
    have hb12 := hb1.trans (hb2.mono hb1.size)
    go_wp2_with fail
    refine (isName6 _ w2 (ht.below hb12)).mono ?_
    rintro e w3 ⟨rfl, hb3⟩
    rw [HM.out]
    have hb13 := hb12.trans (hb3.mono hb12.size)
    clear hb1 hb2 hb3 hb12
    go_wp2
    go_ret
    exact ⟨rfl, hb13⟩

set_option maxRecDepth 100000 in
theorem noA (r : Int) (w : World) (ht : Tabs w) (hc : chB r = false) (hs : nsB r = false) (hm : nmB r = false) (hr : r < 0) :
    Calls Tryd.prog 3 #[.int .i32 r] w (LawPost w) := by
  have HC : Hid (chB r = false) := hc
  have HS : Hid (nsB r = false) := hs
  have HM : Hid (nmB r = false) := hm
  clear hc hs hm
  have e9 : (r == 9) = false := by simp; omega
  have e10 : (r == 10) = false := by simp; omega
  have e13 : (r == 13) = false := by simp; omega
  go_enter Tryd.func3, Tryd.ntmps3
  go_wp2_with fail
  refine (isChar4 _ w ht).mono ?_
  rintro e w1 ⟨rfl, hb1⟩
  rw [HC.out]
  go_wp2_with fail
  refine (isNameStart5 _ w1 (ht.below hb1)).mono ?_
  rintro e w2 ⟨rfl, hb2⟩
  rw [HS.out]
  have hb12 := hb1.trans (hb2.mono hb1.size)
  go_wp2_with fail
  refine (isName6 _ w2 (ht.below hb12)).mono ?_
  rintro e w3 ⟨rfl, hb3⟩
  rw [HM.out]
  have hb13 := hb12.trans (hb3.mono hb12.size)
  clear hb1 hb2 hb3 hb12
  go_wp2
  go_ret
  exact ⟨rfl, hb13⟩

set_option maxRecDepth 100000 in
theorem noB (r : Int) (w : World) (ht : Tabs w) (hc : chB r = false) (hs : nsB r = false) (hm : nmB r = false) (hr : 0 ≤ r) (hr2 : r ≤ 8) :
    Calls Tryd.prog 3 #[.int .i32 r] w (LawPost w) := by
  have HC : Hid (chB r = false) := hc
  have HS : Hid (nsB r = false) := hs
  have HM : Hid (nmB r = false) := hm
  clear hc hs hm
  have e9 : (r == 9) = false := by simp; omega
  have e10 : (r == 10) = false := by simp; omega
  have e13 : (r == 13) = false := by simp; omega
  go_enter Tryd.func3, Tryd.ntmps3
  go_wp2_with fail
  refine (isChar4 _ w ht).mono ?_
  rintro e w1 ⟨rfl, hb1⟩
  rw [HC.out]
  go_wp2_with fail
  refine (isNameStart5 _ w1 (ht.below hb1)).mono ?_
  rintro e w2 ⟨rfl, hb2⟩
  rw [HS.out]
  have hb12 := hb1.trans (hb2.mono hb1.size)
  go_wp2_with fail
  refine (isName6 _ w2 (ht.below hb12)).mono ?_
  rintro e w3 ⟨rfl, hb3⟩
  rw [HM.out]
  have hb13 := hb12.trans (hb3.mono hb12.size)
  clear hb1 hb2 hb3 hb12
  go_wp2
  go_ret
  exact ⟨rfl, hb13⟩

set_option maxRecDepth 100000 in
theorem noC (r : Int) (w : World) (ht : Tabs w) (hc : chB r = false) (hs : nsB r = false) (hm : nmB r = false) (hr : 11 ≤ r) (hr2 : r ≤ 12) :
    Calls Tryd.prog 3 #[.int .i32 r] w (LawPost w) := by
  have HC : Hid (chB r = false) := hc
  have HS : Hid (nsB r = false) := hs
  have HM : Hid (nmB r = false) := hm
  clear hc hs hm
  have e9 : (r == 9) = false := by simp; omega
  have e10 : (r == 10) = false := by simp; omega
  have e13 : (r == 13) = false := by simp; omega
  go_enter Tryd.func3, Tryd.ntmps3
  go_wp2_with fail
  refine (isChar4 _ w ht).mono ?_
  rintro e w1 ⟨rfl, hb1⟩
  rw [HC.out]
  go_wp2_with fail
  refine (isNameStart5 _ w1 (ht.below hb1)).mono ?_
  rintro e w2 ⟨rfl, hb2⟩
  rw [HS.out]
  have hb12 := hb1.trans (hb2.mono hb1.size)
  go_wp2_with fail
  refine (isName6 _ w2 (ht.below hb12)).mono ?_
  rintro e w3 ⟨rfl, hb3⟩
  rw [HM.out]
  have hb13 := hb12.trans (hb3.mono hb12.size)
  clear hb1 hb2 hb3 hb12
  go_wp2
  go_ret
  exact ⟨rfl, hb13⟩

set_option maxRecDepth 100000 in
theorem noD (r : Int) (w : World) (ht : Tabs w) (hc : chB r = false) (hs : nsB r = false) (hm : nmB r = false) (hr : 14 ≤ r) (hr2 : r ≤ 31) :
    Calls Tryd.prog 3 #[.int .i32 r] w (LawPost w) := by
  have HC : Hid (chB r = false) := hc
  have HS : Hid (nsB r = false) := hs
  have HM : Hid (nmB r = false) := hm
  clear hc hs hm
  have e9 : (r == 9) = false := by simp; omega
  have e10 : (r == 10) = false := by simp; omega
  have e13 : (r == 13) = false := by simp; omega
  go_enter Tryd.func3, Tryd.ntmps3
  go_wp2_with fail
  refine (isChar4 _ w ht).mono ?_
  rintro e w1 ⟨rfl, hb1⟩
  rw [HC.out]
  go_wp2_with fail
  refine (isNameStart5 _ w1 (ht.below hb1)).mono ?_
  rintro e w2 ⟨rfl, hb2⟩
  rw [HS.out]
  have hb12 := hb1.trans (hb2.mono hb1.size)
  go_wp2_with fail
  refine (isName6 _ w2 (ht.below hb12)).mono ?_
  rintro e w3 ⟨rfl, hb3⟩
  rw [HM.out]
  have hb13 := hb12.trans (hb3.mono hb12.size)
  clear hb1 hb2 hb3 hb12
  go_wp2
  go_ret
  exact ⟨rfl, hb13⟩

set_option maxRecDepth 100000 in
theorem noE (r : Int) (w : World) (ht : Tabs w) (hc : chB r = false) (hs : nsB r = false) (hm : nmB r = false) (hr : 55296 ≤ r) (hr2 : r ≤ 57343) :
    Calls Tryd.prog 3 #[.int .i32 r] w (LawPost w) := by
  have HC : Hid (chB r = false) := hc
  have HS : Hid (nsB r = false) := hs
  have HM : Hid (nmB r = false) := hm
  clear hc hs hm
  have d1 : decide (r < 55296) = false := by simp; omega
  have d2 : decide (57343 < r) = false := by simp; omega
  go_enter Tryd.func3, Tryd.ntmps3
  go_wp2_with fail
  refine (isChar4 _ w ht).mono ?_
  rintro e w1 ⟨rfl, hb1⟩
  rw [HC.out]
  go_wp2_with fail
  refine (isNameStart5 _ w1 (ht.below hb1)).mono ?_
  rintro e w2 ⟨rfl, hb2⟩
  rw [HS.out]
  have hb12 := hb1.trans (hb2.mono hb1.size)
  go_wp2_with fail
  refine (isName6 _ w2 (ht.below hb12)).mono ?_
  rintro e w3 ⟨rfl, hb3⟩
  rw [HM.out]
  have hb13 := hb12.trans (hb3.mono hb12.size)
  clear hb1 hb2 hb3 hb12
  go_wp2
  go_ret
  exact ⟨rfl, hb13⟩

set_option maxRecDepth 100000 in
theorem noF (r : Int) (w : World) (ht : Tabs w) (hc : chB r = false) (hs : nsB r = false) (hm : nmB r = false) (hr : r = 65534) :
    Calls Tryd.prog 3 #[.int .i32 r] w (LawPost w) := by
  have HC : Hid (chB r = false) := hc
  have HS : Hid (nsB r = false) := hs
  have HM : Hid (nmB r = false) := hm
  clear hc hs hm
  subst hr
  go_enter Tryd.func3, Tryd.ntmps3
  go_wp2_with fail
  refine (isChar4 _ w ht).mono ?_
  rintro e w1 ⟨rfl, hb1⟩
  rw [HC.out]
  go_wp2_with fail
  refine (isNameStart5 _ w1 (ht.below hb1)).mono ?_
  rintro e w2 ⟨rfl, hb2⟩
  rw [HS.out]
  have hb12 := hb1.trans (hb2.mono hb1.size)
  go_wp2_with fail
  refine (isName6 _ w2 (ht.below hb12)).mono ?_
  rintro e w3 ⟨rfl, hb3⟩
  rw [HM.out]
  have hb13 := hb12.trans (hb3.mono hb12.size)
  clear hb1 hb2 hb3 hb12
  go_wp2
  go_ret
  exact ⟨rfl, hb13⟩

set_option maxRecDepth 100000 in
theorem noG (r : Int) (w : World) (ht : Tabs w) (hc : chB r = false) (hs : nsB r = false) (hm : nmB r = false) (hr : r = 65535) :
    Calls Tryd.prog 3 #[.int .i32 r] w (LawPost w) := by
  have HC : Hid (chB r = false) := hc
  have HS : Hid (nsB r = false) := hs
  have HM : Hid (nmB r = false) := hm
  clear hc hs hm
  subst hr
  go_enter Tryd.func3, Tryd.ntmps3
  go_wp2_with fail
  refine (isChar4 _ w ht).mono ?_
  rintro e w1 ⟨rfl, hb1⟩
  rw [HC.out]
  go_wp2_with fail
  refine (isNameStart5 _ w1 (ht.below hb1)).mono ?_
  rintro e w2 ⟨rfl, hb2⟩
  rw [HS.out]
  have hb12 := hb1.trans (hb2.mono hb1.size)
  go_wp2_with fail
  refine (isName6 _ w2 (ht.below hb12)).mono ?_
  rintro e w3 ⟨rfl, hb3⟩
  rw [HM.out]
  have hb13 := hb12.trans (hb3.mono hb12.size)
  clear hb1 hb2 hb3 hb12
  go_wp2
  go_ret
  exact ⟨rfl, hb13⟩

set_option maxRecDepth 100000 in
theorem noH (r : Int) (w : World) (ht : Tabs w) (hc : chB r = false) (hs : nsB r = false) (hm : nmB r = false) (hr : 1114112 ≤ r) :
    Calls Tryd.prog 3 #[.int .i32 r] w (LawPost w) := by
  have HC : Hid (chB r = false) := hc
  have HS : Hid (nsB r = false) := hs
  have HM : Hid (nmB r = false) := hm
  clear hc hs hm
  go_enter Tryd.func3, Tryd.ntmps3
  go_wp2_with fail
  refine (isChar4 _ w ht).mono ?_
  rintro e w1 ⟨rfl, hb1⟩
  rw [HC.out]
  go_wp2_with fail
  refine (isNameStart5 _ w1 (ht.below hb1)).mono ?_
  rintro e w2 ⟨rfl, hb2⟩
  rw [HS.out]
  have hb12 := hb1.trans (hb2.mono hb1.size)
  go_wp2_with fail
  refine (isName6 _ w2 (ht.below hb12)).mono ?_
  rintro e w3 ⟨rfl, hb3⟩
  rw [HM.out]
  have hb13 := hb12.trans (hb3.mono hb12.size)
  clear hb1 hb2 hb3 hb12
  go_wp2
  go_ret
  exact ⟨rfl, hb13⟩

theorem law_any (r : Int) (w : World) (ht : Tabs w) : Calls Tryd.prog 3 #[.int .i32 r] w (LawPost w) := by
  have yes : ∀ vs vm : Bool, chB r = true → nsB r = vs → nmB r = vm → ((vs = true ∧ vm = true) ∨ (vs = false ∧ vm = true) ∨ (vs = false ∧ vm = false)) → Calls Tryd.prog 3 #[.int .i32 r] w (LawPost w) := by
    intro vs vm hc hs hm hv
    rcases yesCases hc with hr | hr | hr | hr | hr | hr
    · exact yes9 r vs vm w ht hc hs hm hv hr
    · exact yes10 r vs vm w ht hc hs hm hv hr
    · exact yes13 r vs vm w ht hc hs hm hv hr
    · exact yesA r vs vm w ht hc hs hm hv hr.1 hr.2
    · exact yesB r vs vm w ht hc hs hm hv hr.1 hr.2
    · exact yesC r vs vm w ht hc hs hm hv hr.1 hr.2
  rcases bools r with ⟨hc, hs, hm⟩ | ⟨hc, hs, hm⟩ | ⟨hc, hs, hm⟩ | ⟨hc, hs, hm⟩
  · exact yes true true hc hs hm (Or.inl ⟨rfl, rfl⟩)
  · exact yes false true hc hs hm (Or.inr (Or.inl ⟨rfl, rfl⟩))
  · exact yes false false hc hs hm (Or.inr (Or.inr ⟨rfl, rfl⟩))
  · rcases noCases hc with hr | hr | hr | hr | hr | hr | hr | hr
    · exact noA r w ht hc hs hm hr
    · exact noB r w ht hc hs hm hr.1 hr.2
    · exact noC r w ht hc hs hm hr.1 hr.2
    · exact noD r w ht hc hs hm hr.1 hr.2
    · exact noE r w ht hc hs hm hr.1 hr.2
    · exact noF r w ht hc hs hm hr
    · exact noG r w ht hc hs hm hr
    · exact noH r w ht hc hs hm hr

end Go.Proofs.Qxb6614212aDoor
