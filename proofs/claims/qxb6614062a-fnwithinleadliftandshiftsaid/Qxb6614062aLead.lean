/-
  withinLead (function 5), ZZWithinLead (function 4), and the law's walk (function 3).
-/
import Derived.Test.Qxb6614062aRows
import Derived.WalkKit
import Derived.ProofKit
namespace Go.Proofs.Qxb6614062a
open Go.RowKit

def wl (c o : Int) : Bool := decide (c ≤ 9223372041149743104 ∨ c ≤ o + 4294967296)
theorem wl_yes {c o : Int} (h : c ≤ 9223372041149743104 ∨ c ≤ o + 4294967296) : wl c o = true := decide_eq_true h
theorem wl_no {c o : Int} (h : ¬ (c ≤ 9223372041149743104 ∨ c ≤ o + 4294967296)) : wl c o = false := decide_eq_false h

theorem within5 (c o : Int) (w : World) (hc0 : 0 ≤ c) (hc1 : c ≤ 18446744073709551615) :
    Calls Try.prog 5 #[.int .u64 c, .int .u64 o] w fun e w' => e = .returned (.bool (wl c o)) ∧ w' = w := by
  by_cases h1 : c ≤ 9223372041149743104
  · have hw : wl c o = true := wl_yes (Or.inl h1)
    rw [hw]
    clear hw
    go_enter Try.func5, Try.ntmps5
    go_wp2
    go_ret
    exact ⟨rfl, rfl⟩
  · by_cases h2 : c - 4294967296 ≤ o
    · have hw : wl c o = true := wl_yes (Or.inr (by omega))
      rw [hw]
      clear hw
      go_enter Try.func5, Try.ntmps5
      go_wp2
      go_ret
      exact ⟨rfl, rfl⟩
    · have hw : wl c o = false := wl_no (by omega)
      rw [hw]
      clear hw
      go_enter Try.func5, Try.ntmps5
      go_wp2
      go_ret
      exact ⟨rfl, rfl⟩

theorem within4 (c o : Int) (w : World) (hc0 : 0 ≤ c) (hc1 : c ≤ 18446744073709551615) :
    Calls Try.prog 4 #[.int .u64 c, .int .u64 o] w fun e w' => e = .returned (.bool (wl c o)) ∧ w' = w := by
  go_enter Try.func4, Try.ntmps4
  go_wp2_with fail
  refine (within5 c o w hc0 hc1).mono ?_
  rintro e w' ⟨rfl, rfl⟩
  go_wp2
  go_ret
  exact ⟨rfl, rfl⟩

set_option maxRecDepth 100000 in
theorem law_low (c o d : Int) (w : World) (hc0 : 0 ≤ c) (hc1 : c ≤ 18446744073709551615) (ho0 : 0 ≤ o) (ho1 : o ≤ 18446744073709551615) (hd0 : 0 ≤ d) (hd1 : d ≤ 18446744073709551615) (hF : o < 9223372036854775808) :
    Calls Try.prog 3 #[.int .u64 c, .int .u64 o, .int .u64 d] w fun e w' => e = .returned (.bool true) ∧ w' = w := by
  by_cases h1 : c ≤ 9223372036854775808 + 4294967296
  · have e1 : wl c o = true := wl_yes (by omega)
    have e2 : wl c 9223372036854775808 = true := wl_yes (by omega)
    have e3 : d + 9223372036854775808 ≤ 18446744073709551615 → wl (c + d) (9223372036854775808 + d) = true := fun _ => wl_yes (by omega)
    have E3 : Hid (d + 9223372036854775808 ≤ 18446744073709551615 → wl (c + d) (9223372036854775808 + d) = true) := e3
    clear e3
    by_cases h2 : c ≤ 9223372036854775808
    · by_cases h3 : c < 9223372036854775808
      · by_cases h4 : d ≤ 18446744073709551615 - 9223372036854775808
        · have e4 := E3.out (by omega)
          go_enter Try.func3, Try.ntmps3
          go_wp2_with fail
          refine (within4 _ _ _ (by omega) (by omega)).mono ?_
          rintro e w' ⟨rfl, rfl⟩
          rw [e1]
          go_wp2_with fail
          refine (within4 _ _ _ (by omega) (by omega)).mono ?_
          rintro e w' ⟨rfl, rfl⟩
          rw [e2]
          go_wp2_with fail
          refine (within4 _ _ _ (by omega) (by omega)).mono ?_
          rintro e w' ⟨rfl, rfl⟩
          rw [e4]
          go_wp2
          go_ret
          exact ⟨rfl, rfl⟩
        · go_enter Try.func3, Try.ntmps3
          go_wp2_with fail
          refine (within4 _ _ _ (by omega) (by omega)).mono ?_
          rintro e w' ⟨rfl, rfl⟩
          rw [e1]
          go_wp2_with fail
          refine (within4 _ _ _ (by omega) (by omega)).mono ?_
          rintro e w' ⟨rfl, rfl⟩
          rw [e2]
          go_wp2
          go_ret
          exact ⟨rfl, rfl⟩
      · have h5 : c = 9223372036854775808 := by omega
        by_cases h4 : d ≤ 18446744073709551615 - c
        · have e4 := E3.out (by omega)
          clear h5
          go_enter Try.func3, Try.ntmps3
          go_wp2_with fail
          refine (within4 _ _ _ (by omega) (by omega)).mono ?_
          rintro e w' ⟨rfl, rfl⟩
          rw [e1]
          go_wp2_with fail
          refine (within4 _ _ _ (by omega) (by omega)).mono ?_
          rintro e w' ⟨rfl, rfl⟩
          rw [e2]
          go_wp2_with fail
          refine (within4 _ _ _ (by omega) (by omega)).mono ?_
          rintro e w' ⟨rfl, rfl⟩
          rw [e4]
          go_wp2
          go_ret
          exact ⟨rfl, rfl⟩
        · clear h5
          go_enter Try.func3, Try.ntmps3
          go_wp2_with fail
          refine (within4 _ _ _ (by omega) (by omega)).mono ?_
          rintro e w' ⟨rfl, rfl⟩
          rw [e1]
          go_wp2_with fail
          refine (within4 _ _ _ (by omega) (by omega)).mono ?_
          rintro e w' ⟨rfl, rfl⟩
          rw [e2]
          go_wp2
          go_ret
          exact ⟨rfl, rfl⟩
    · have h6 : c - 9223372036854775808 ≤ 4294967296 := by omega
      by_cases h4 : d ≤ 18446744073709551615 - c
      · have e4 := E3.out (by omega)
        go_enter Try.func3, Try.ntmps3
        go_wp2_with fail
        refine (within4 _ _ _ (by omega) (by omega)).mono ?_
        rintro e w' ⟨rfl, rfl⟩
        rw [e1]
        go_wp2_with fail
        refine (within4 _ _ _ (by omega) (by omega)).mono ?_
        rintro e w' ⟨rfl, rfl⟩
        rw [e2]
        go_wp2_with fail
        refine (within4 _ _ _ (by omega) (by omega)).mono ?_
        rintro e w' ⟨rfl, rfl⟩
        rw [e4]
        go_wp2
        go_ret
        exact ⟨rfl, rfl⟩
      · go_enter Try.func3, Try.ntmps3
        go_wp2_with fail
        refine (within4 _ _ _ (by omega) (by omega)).mono ?_
        rintro e w' ⟨rfl, rfl⟩
        rw [e1]
        go_wp2_with fail
        refine (within4 _ _ _ (by omega) (by omega)).mono ?_
        rintro e w' ⟨rfl, rfl⟩
        rw [e2]
        go_wp2
        go_ret
        exact ⟨rfl, rfl⟩
  · have e1 : wl c o = false := wl_no (by omega)
    have e2 : wl c 9223372036854775808 = false := wl_no (by omega)
    by_cases h4 : d ≤ 18446744073709551615 - c
    · have e4 : wl (c + d) (9223372036854775808 + d) = false := wl_no (by omega)
      go_enter Try.func3, Try.ntmps3
      go_wp2_with fail
      refine (within4 _ _ _ (by omega) (by omega)).mono ?_
      rintro e w' ⟨rfl, rfl⟩
      rw [e1]
      go_wp2_with fail
      refine (within4 _ _ _ (by omega) (by omega)).mono ?_
      rintro e w' ⟨rfl, rfl⟩
      rw [e2]
      go_wp2_with fail
      refine (within4 _ _ _ (by omega) (by omega)).mono ?_
      rintro e w' ⟨rfl, rfl⟩
      rw [e4]
      go_wp2
      go_ret
      exact ⟨rfl, rfl⟩
    · go_enter Try.func3, Try.ntmps3
      go_wp2_with fail
      refine (within4 _ _ _ (by omega) (by omega)).mono ?_
      rintro e w' ⟨rfl, rfl⟩
      rw [e1]
      go_wp2_with fail
      refine (within4 _ _ _ (by omega) (by omega)).mono ?_
      rintro e w' ⟨rfl, rfl⟩
      rw [e2]
      go_wp2
      go_ret
      exact ⟨rfl, rfl⟩

set_option maxRecDepth 100000 in
theorem law_high (c o d : Int) (w : World) (hc0 : 0 ≤ c) (hc1 : c ≤ 18446744073709551615) (ho0 : 0 ≤ o) (ho1 : o ≤ 18446744073709551615) (hd0 : 0 ≤ d) (hd1 : d ≤ 18446744073709551615) (hF : ¬ o < 9223372036854775808) :
    Calls Try.prog 3 #[.int .u64 c, .int .u64 o, .int .u64 d] w fun e w' => e = .returned (.bool true) ∧ w' = w := by
  by_cases h1 : c ≤ o + 4294967296
  · have e1 : wl c o = true := wl_yes (by omega)
    have e2 : wl c o = true := wl_yes (by omega)
    have e3 : d + o ≤ 18446744073709551615 → wl (c + d) (o + d) = true := fun _ => wl_yes (by omega)
    have E3 : Hid (d + o ≤ 18446744073709551615 → wl (c + d) (o + d) = true) := e3
    clear e3
    by_cases h2 : c ≤ o
    · by_cases h3 : c < o
      · by_cases h4 : d ≤ 18446744073709551615 - o
        · have e4 := E3.out (by omega)
          go_enter Try.func3, Try.ntmps3
          go_wp2_with fail
          refine (within4 _ _ _ (by omega) (by omega)).mono ?_
          rintro e w' ⟨rfl, rfl⟩
          rw [e1]
          go_wp2_with fail
          refine (within4 _ _ _ (by omega) (by omega)).mono ?_
          rintro e w' ⟨rfl, rfl⟩
          rw [e2]
          go_wp2_with fail
          refine (within4 _ _ _ (by omega) (by omega)).mono ?_
          rintro e w' ⟨rfl, rfl⟩
          rw [e4]
          go_wp2
          go_ret
          exact ⟨rfl, rfl⟩
        · go_enter Try.func3, Try.ntmps3
          go_wp2_with fail
          refine (within4 _ _ _ (by omega) (by omega)).mono ?_
          rintro e w' ⟨rfl, rfl⟩
          rw [e1]
          go_wp2_with fail
          refine (within4 _ _ _ (by omega) (by omega)).mono ?_
          rintro e w' ⟨rfl, rfl⟩
          rw [e2]
          go_wp2
          go_ret
          exact ⟨rfl, rfl⟩
      · have h5 : c = o := by omega
        by_cases h4 : d ≤ 18446744073709551615 - c
        · have e4 := E3.out (by omega)
          clear h5
          go_enter Try.func3, Try.ntmps3
          go_wp2_with fail
          refine (within4 _ _ _ (by omega) (by omega)).mono ?_
          rintro e w' ⟨rfl, rfl⟩
          rw [e1]
          go_wp2_with fail
          refine (within4 _ _ _ (by omega) (by omega)).mono ?_
          rintro e w' ⟨rfl, rfl⟩
          rw [e2]
          go_wp2_with fail
          refine (within4 _ _ _ (by omega) (by omega)).mono ?_
          rintro e w' ⟨rfl, rfl⟩
          rw [e4]
          go_wp2
          go_ret
          exact ⟨rfl, rfl⟩
        · clear h5
          go_enter Try.func3, Try.ntmps3
          go_wp2_with fail
          refine (within4 _ _ _ (by omega) (by omega)).mono ?_
          rintro e w' ⟨rfl, rfl⟩
          rw [e1]
          go_wp2_with fail
          refine (within4 _ _ _ (by omega) (by omega)).mono ?_
          rintro e w' ⟨rfl, rfl⟩
          rw [e2]
          go_wp2
          go_ret
          exact ⟨rfl, rfl⟩
    · have h6 : c - o ≤ 4294967296 := by omega
      by_cases h4 : d ≤ 18446744073709551615 - c
      · have e4 := E3.out (by omega)
        go_enter Try.func3, Try.ntmps3
        go_wp2_with fail
        refine (within4 _ _ _ (by omega) (by omega)).mono ?_
        rintro e w' ⟨rfl, rfl⟩
        rw [e1]
        go_wp2_with fail
        refine (within4 _ _ _ (by omega) (by omega)).mono ?_
        rintro e w' ⟨rfl, rfl⟩
        rw [e2]
        go_wp2_with fail
        refine (within4 _ _ _ (by omega) (by omega)).mono ?_
        rintro e w' ⟨rfl, rfl⟩
        rw [e4]
        go_wp2
        go_ret
        exact ⟨rfl, rfl⟩
      · go_enter Try.func3, Try.ntmps3
        go_wp2_with fail
        refine (within4 _ _ _ (by omega) (by omega)).mono ?_
        rintro e w' ⟨rfl, rfl⟩
        rw [e1]
        go_wp2_with fail
        refine (within4 _ _ _ (by omega) (by omega)).mono ?_
        rintro e w' ⟨rfl, rfl⟩
        rw [e2]
        go_wp2
        go_ret
        exact ⟨rfl, rfl⟩
  · have e1 : wl c o = false := wl_no (by omega)
    have e2 : wl c o = false := wl_no (by omega)
    by_cases h4 : d ≤ 18446744073709551615 - c
    · have e4 : wl (c + d) (o + d) = false := wl_no (by omega)
      go_enter Try.func3, Try.ntmps3
      go_wp2_with fail
      refine (within4 _ _ _ (by omega) (by omega)).mono ?_
      rintro e w' ⟨rfl, rfl⟩
      rw [e1]
      go_wp2_with fail
      refine (within4 _ _ _ (by omega) (by omega)).mono ?_
      rintro e w' ⟨rfl, rfl⟩
      rw [e2]
      go_wp2_with fail
      refine (within4 _ _ _ (by omega) (by omega)).mono ?_
      rintro e w' ⟨rfl, rfl⟩
      rw [e4]
      go_wp2
      go_ret
      exact ⟨rfl, rfl⟩
    · go_enter Try.func3, Try.ntmps3
      go_wp2_with fail
      refine (within4 _ _ _ (by omega) (by omega)).mono ?_
      rintro e w' ⟨rfl, rfl⟩
      rw [e1]
      go_wp2_with fail
      refine (within4 _ _ _ (by omega) (by omega)).mono ?_
      rintro e w' ⟨rfl, rfl⟩
      rw [e2]
      go_wp2
      go_ret
      exact ⟨rfl, rfl⟩

end Go.Proofs.Qxb6614062a
