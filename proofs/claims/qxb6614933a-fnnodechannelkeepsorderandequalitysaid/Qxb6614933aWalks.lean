import Derived.Test.Qxb6614933aRows
import Derived.WalkKit
import Derived.WalkSpells
import Derived.WalkLawsBesides
namespace Go.Proofs.Qxb6614933a
open Go.RowKit

/-- What every channel's name opens with. -/
def pre : ByteArray := ⟨#[103, 97, 116, 101, 108, 97, 116, 99, 104, 95, 110, 111, 100, 101, 95]⟩
theorem pre_size : pre.size = 15 := rfl

theorem channel_any (s : ByteArray) (w : World) (hs : s.size ≤ 2097152) :
    Calls Try.prog 8 #[.string s] w fun e w' => e = .returned (.string (pre ++ s)) ∧ w' = w := by
  have hc : ∀ w, (Op.stringOp .add ⟨#[103, 97, 116, 101, 108, 97, 116, 99, 104, 95, 110, 111, 100, 101, 95]⟩ s).run Try.prog w = .ok (.string (pre ++ s)) w := fun w => run_string_add_sum (P := Try.prog) w _ s (by rw [show (ByteArray.mk #[103, 97, 116, 101, 108, 97, 116, 99, 104, 95, 110, 111, 100, 101, 95]).size = 15 from rfl]; omega)
  go_enter Try.func8, Try.ntmps8
  go_wp2
  go_ret
  exact ⟨rfl, rfl⟩

theorem zzchannel_any (s : ByteArray) (w : World) (hs : s.size ≤ 2097152) :
    Calls Try.prog 6 #[.string s] w fun e w' => e = .returned (.string (pre ++ s)) ∧ w' = w := by
  go_enter Try.func6, Try.ntmps6
  go_wp2_with (go_at_call 8; refine (channel_any _ _ hs).mono ?_; rintro e w' ⟨rfl, rfl⟩)
  go_ret
  exact ⟨rfl, rfl⟩

theorem bytes5 (a b : ByteArray) (w : World) (ha : a.size ≤ maxLen) (hb : b.size ≤ maxLen) :
    Calls Try.prog 5 #[.string a, .string b] w fun e w' => (∃ t, e = .returned (.bool t)) ∧ w' = w := by
  unfold maxLen at ha hb
  go_enter Try.func5, Try.ntmps5
  go_wp2
  all_goals (go_ret; exact ⟨⟨_, rfl⟩, rfl⟩)
theorem bytes7 (a b : ByteArray) (w : World) (ha : a.size ≤ maxLen) (hb : b.size ≤ maxLen) :
    Calls Try.prog 7 #[.string a, .string b] w fun e w' => (∃ t, e = .returned (.bool t)) ∧ w' = w := by
  unfold maxLen at ha hb
  go_enter Try.func7, Try.ntmps7
  go_wp2
  all_goals (go_ret; exact ⟨⟨_, rfl⟩, rfl⟩)

theorem joins_in (a b : ByteArray) (w : World) (ha : a.size ≤ 524288) (hb : b.size ≤ 524288) :
    Calls Try.prog 3 #[.string a, .string b] w fun e w' => e = .returned (.bool true) ∧ w' = w := by
  have h1 : a.size ≤ maxLen := by unfold maxLen; omega
  have h2 : b.size ≤ maxLen := by unfold maxLen; omega
  have hadd : ∀ w, (Op.stringOp .add a b).run Try.prog w = .ok (.string (a ++ b)) w := fun w => run_string_add_sum (P := Try.prog) w a b (by omega)
  have hab : (a ++ b).size ≤ 2097152 := by rw [ByteArray.size_append]; omega
  have hadd2 : ∀ w, (Op.stringOp .add (pre ++ a) b).run Try.prog w = .ok (.string (pre ++ a ++ b)) w := fun w => run_string_add_sum (P := Try.prog) w (pre ++ a) b (by rw [ByteArray.size_append, pre_size]; omega)
  go_enter Try.func3, Try.ntmps3
  go_wp2_with fail
  refine (bytes5 a b _ h1 h2).mono ?_
  rintro e w1 ⟨⟨t, rfl⟩, hw⟩
  subst hw
  cases t
  · go_wp2
    go_ret
    exact ⟨rfl, rfl⟩
  · go_wp2_with fail
    refine (zzchannel_any (a ++ b) _ hab).mono ?_
    rintro e w2 ⟨rfl, hw⟩
    subst hw
    rw [← ByteArray.append_assoc]
    go_wp2_with fail
    refine (zzchannel_any a _ (by omega)).mono ?_
    rintro e w3 ⟨rfl, hw⟩
    subst hw
    have hlt : decide ((a.size : Int) < (pre.size : Int) + (a.size : Int)) = true := by rw [pre_size]; simp; omega
    go_wp2
    go_ret
    exact ⟨rfl, rfl⟩

theorem joins_any (a b : ByteArray) (w : World) (ha : a.size ≤ maxLen) (hb : b.size ≤ maxLen) :
    Calls Try.prog 3 #[.string a, .string b] w fun e w' => e = .returned (.bool true) ∧ w' = w := by
  by_cases h1 : 524288 < a.size
  · have ha' := ha
    unfold maxLen at ha'
    go_enter Try.func3, Try.ntmps3
    go_wp2_with fail
    refine (bytes5 a b _ ha hb).mono ?_
    rintro e w1 ⟨⟨t, rfl⟩, hw⟩
    subst hw
    cases t
    · go_wp2
      go_ret
      exact ⟨rfl, rfl⟩
    · go_wp2
      go_ret
      exact ⟨rfl, rfl⟩
  · by_cases h2 : 524288 < b.size
    · have h1' : a.size ≤ 524288 := by omega
      have hb' := hb
      unfold maxLen at hb'
      clear h1
      go_enter Try.func3, Try.ntmps3
      go_wp2_with fail
      refine (bytes5 a b _ ha hb).mono ?_
      rintro e w1 ⟨⟨t, rfl⟩, hw⟩
      subst hw
      cases t
      · go_wp2
        go_ret
        exact ⟨rfl, rfl⟩
      · go_wp2
        go_ret
        exact ⟨rfl, rfl⟩
    · exact joins_in a b w (by omega) (by omega)

theorem less_prefix (p x y : List UInt8) : Op.bytesLess (p ++ x) (p ++ y) = Op.bytesLess x y := by
  induction p with
  | nil => rfl
  | cons c p ih => simp [Op.bytesLess, ih]

theorem toList_pre (a : ByteArray) : (pre ++ a).toList = pre.toList ++ a.toList := by
  rw [ByteArray.toList_eq, ByteArray.toList_eq, ByteArray.toList_eq]
  simp
theorem eq_pre (a b : ByteArray) : ((pre ++ a).toList == (pre ++ b).toList) = (a.toList == b.toList) := by
  rw [toList_pre, toList_pre, Bool.eq_iff_iff]
  simp
theorem less_pre (a b : ByteArray) : Op.bytesLess (pre ++ a).toList (pre ++ b).toList = Op.bytesLess a.toList b.toList := by
  rw [toList_pre, toList_pre, less_prefix]

theorem order_in (a b : ByteArray) (w : World) (ha : a.size ≤ 524288) (hb : b.size ≤ 524288) :
    Calls Try.prog 4 #[.string a, .string b] w fun e w' => e = .returned (.bool true) ∧ w' = w := by
  have h1 : a.size ≤ maxLen := by unfold maxLen; omega
  have h2 : b.size ≤ maxLen := by unfold maxLen; omega
  go_enter Try.func4, Try.ntmps4
  go_wp2_with fail
  refine (bytes7 a b _ h1 h2).mono ?_
  rintro e w1 ⟨⟨t, rfl⟩, hw⟩
  subst hw
  cases t
  · go_wp2
    go_ret
    exact ⟨rfl, rfl⟩
  · go_wp2_with fail
    refine (zzchannel_any a _ (by omega)).mono ?_
    rintro e w2 ⟨rfl, hw⟩
    subst hw
    go_wp2_with fail
    refine (zzchannel_any b _ (by omega)).mono ?_
    rintro e w3 ⟨rfl, hw⟩
    subst hw
    have e1 := eq_pre a b
    have e2 := less_pre a b
    have e3 : (pre.size : Int) = 15 := by rw [pre_size]; rfl
    go_wp2
    go_ret
    exact ⟨rfl, rfl⟩

theorem order_any (a b : ByteArray) (w : World) (ha : a.size ≤ maxLen) (hb : b.size ≤ maxLen) :
    Calls Try.prog 4 #[.string a, .string b] w fun e w' => e = .returned (.bool true) ∧ w' = w := by
  by_cases h1 : 524288 < a.size
  · have ha' := ha
    unfold maxLen at ha'
    go_enter Try.func4, Try.ntmps4
    go_wp2_with fail
    refine (bytes7 a b _ ha hb).mono ?_
    rintro e w1 ⟨⟨t, rfl⟩, hw⟩
    subst hw
    cases t
    · go_wp2
      go_ret
      exact ⟨rfl, rfl⟩
    · go_wp2
      go_ret
      exact ⟨rfl, rfl⟩
  · by_cases h2 : 524288 < b.size
    · have h1' : a.size ≤ 524288 := by omega
      have hb' := hb
      unfold maxLen at hb'
      clear h1
      go_enter Try.func4, Try.ntmps4
      go_wp2_with fail
      refine (bytes7 a b _ ha hb).mono ?_
      rintro e w1 ⟨⟨t, rfl⟩, hw⟩
      subst hw
      cases t
      · go_wp2
        go_ret
        exact ⟨rfl, rfl⟩
      · go_wp2
        go_ret
        exact ⟨rfl, rfl⟩
    · exact order_in a b w (by omega) (by omega)
end Go.Proofs.Qxb6614933a
