/-
  Seat b6001222a: strings.HasPrefix (53, 54), underBoth (51).
-/
import Derived.Test.Qxb6001222aInts
import Derived.Test.Qxb6001222aPlain
namespace Go.Proofs.Qxb6001222a
open Go.RowKit Go.WideShapes

set_option maxRecDepth 1000000 in
theorem lite_any (s p : ByteArray) (w : World) :
    Calls Try.prog 54 #[.string s, .string p] w fun e w' => e = .returned (.bool (pfx s p)) ∧ w' = w := by
  by_cases h : p.size ≤ s.size
  · have hI : (p.size : Int) ≤ (s.size : Int) := by omega
    have HR := hid (show pfx s p = ((s.extract 0 p.size).toList == p.toList) by unfold pfx; rw [decide_eq_true h, Bool.true_and])
    go_enter Try.func54, Try.ntmps54
    go_wp2
    go_ret
    exact ⟨ret_bool (by rw [HR.out]), rfl⟩
  · have hI : (s.size : Int) < (p.size : Int) := by omega
    have HR := hid (show pfx s p = false by unfold pfx; rw [decide_eq_false h, Bool.false_and])
    go_enter Try.func54, Try.ntmps54
    go_wp2
    go_ret
    exact ⟨ret_bool (by rw [HR.out]), rfl⟩

set_option maxRecDepth 1000000 in
theorem hasPrefix_any (s p : ByteArray) (w : World) :
    Calls Try.prog 53 #[.string s, .string p] w fun e w' => e = .returned (.bool (pfx s p)) ∧ w' = w := by
  go_enter Try.func53, Try.ntmps53
  go_wp2_with fail
  refine (lite_any s p _).mono ?_
  rintro e w' ⟨rfl, rfl⟩
  go_wp2_with fail
  go_ret
  exact ⟨rfl, rfl⟩

theorem ret_pair {s t : ByteArray} {a b : Bool} (h1 : s = t) (h2 : a = b) : Ending.returned (.tuple #[.string s, .bool a]) = .returned (.tuple #[.string t, .bool b]) := by rw [h1, h2]

set_option maxRecDepth 1000000 in
theorem underBoth_any (a b : ByteArray) (w : World) :
    Calls Try.prog 51 #[.string a, .string b] w fun e w' => e = .returned (.tuple #[.string (ubP a b), .bool (ubS a b)]) ∧ w' = w := by
  cases h : pfx a b with
  | true =>
    have HP := hid (show ubP a b = a by unfold ubP; rw [if_pos h])
    have HS := hid (show ubS a b = true by unfold ubS; rw [if_pos h])
    go_enter Try.func51, Try.ntmps51
    go_wp2_with fail
    refine (hasPrefix_any a b _).mono ?_
    rintro e w' ⟨rfl, rfl⟩
    go_wp2_with fail
    go_ret2
    exact ⟨ret_pair HP.out.symm HS.out.symm, rfl⟩
  | false =>
    have HP := hid (show ubP a b = b by unfold ubP; rw [h]; rfl)
    have HS := hid (show ubS a b = pfx b a by unfold ubS; rw [h]; rfl)
    go_enter Try.func51, Try.ntmps51
    go_wp2_with fail
    refine (hasPrefix_any a b _).mono ?_
    rintro e w' ⟨rfl, rfl⟩
    go_wp2_with fail
    refine (hasPrefix_any b a _).mono ?_
    rintro e w' ⟨rfl, rfl⟩
    go_wp2_with fail
    go_ret2
    exact ⟨ret_pair HP.out.symm HS.out.symm, rfl⟩

end Go.Proofs.Qxb6001222a
