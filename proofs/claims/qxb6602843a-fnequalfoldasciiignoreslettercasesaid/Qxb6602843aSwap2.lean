import Derived.Test.Qxb6602843aSwap
namespace Go.Proofs.Qxb6602843a
open Go.ChangeShapes Go.WideShapes Go.ChangeAt Go.RowKit
set_option linter.unusedVariables false

/-! ### the bound on the total length (func 11) -/
set_option maxHeartbeats 400000 in
theorem bytes2_yes (a b : ByteArray) (w : World) (h : a.size + b.size ≤ 1048576) :
    Calls Try.prog 11 #[.string a, .string b] w fun e w' => e = .returned (.bool true) ∧ w' = w := by
  have h1 : ¬ (1048576 : Int) < (a.size : Int) := by omega
  have h2 : ¬ (1048576 : Int) < (b.size : Int) := by omega
  have h4 : ¬ (1048576 : Int) < (a.size : Int) + (b.size : Int) := by omega
  go_enter Try.func11, Try.ntmps11
  go_wp2
  go_ret
  exact ⟨rfl, rfl⟩

set_option maxHeartbeats 400000 in
theorem bytes2_no (a b : ByteArray) (w : World) (ha : a.size ≤ maxLen) (hb : b.size ≤ maxLen) (h : 1048576 < a.size + b.size) :
    Calls Try.prog 11 #[.string a, .string b] w fun e w' => e = .returned (.bool false) ∧ w' = w := by
  unfold maxLen at ha hb
  by_cases h1 : (1048576 : Int) < (a.size : Int)
  · go_enter Try.func11, Try.ntmps11
    go_wp2
    go_ret
    exact ⟨rfl, rfl⟩
  by_cases h2 : (1048576 : Int) < (b.size : Int)
  · go_enter Try.func11, Try.ntmps11
    go_wp2
    go_ret
    exact ⟨rfl, rfl⟩
  have h4 : (1048576 : Int) < (a.size : Int) + (b.size : Int) := by omega
  go_enter Try.func11, Try.ntmps11
  go_wp2
  go_ret
  exact ⟨rfl, rfl⟩

theorem Grown_trans {a b c : World} (h : Grown a b) (k : Grown b c) : Grown a c :=
  ⟨World.keptBut_trans h.1 k.1, fun x => (k.2.1 x).trans (h.2.1 x), Nat.le_trans h.2.2 k.2.2⟩

set_option maxHeartbeats 400000 in
/-- One walk for each answer. -/
theorem letter_at (a b s : ByteArray) (w : World) (ha : a.size ≤ maxLen) (hb : b.size ≤ maxLen) (hs : s.size ≤ maxLen) (h : a.size + b.size ≤ 1048576) (hsw : s = strOf (swps a))
    (h1 : (a.size : Int) ≤ 524288) (h2 : (b.size : Int) ≤ 524288)
    (x : Bool) (has : eqf a s = true) (hsa : eqf s a = true) (hab : eqf a b = x) (hsb : eqf s b = x) :
    Calls Try.prog 4 #[.string a, .string b] w fun e w' => e = .returned (.bool true) ∧ Grown w w' := by
  have d1 : ¬ (524288 : Int) < (a.size : Int) := by omega
  have d2 : ¬ (524288 : Int) < (b.size : Int) := by omega
  have H : Hid (a.size + b.size ≤ 1048576) := h
  have Hs : Hid (s = strOf (swps a)) := hsw
  clear h hsw
  cases x
  all_goals
    go_enter Try.func4, Try.ntmps4
    go_wp2_with (first
      | (go_at_call 11; refine (bytes2_yes a b _ H.out).mono ?_; rintro e w' ⟨rfl, rfl⟩)
      | (go_at_call 12; refine (swap_any a _ (by have := H.out; omega)).mono ?_; rw [← Hs.out]; rintro e w1 ⟨rfl, hg⟩)
      | (go_at_call 10; refine (zzfold _ _ _ (by assumption) (by assumption)).mono ?_; rintro e w' ⟨rfl, n, rfl⟩))
    go_ret
    exact ⟨rfl, Grown_trans hg (grown_drewN ⟨_, rfl⟩)⟩

set_option maxHeartbeats 400000 in
theorem letter_long (a b : ByteArray) (w : World) (ha : a.size ≤ maxLen) (hb : b.size ≤ maxLen) (h : 1048576 < a.size + b.size) :
    Calls Try.prog 4 #[.string a, .string b] w fun e w' => e = .returned (.bool true) ∧ Grown w w' := by
  have H : Hid (1048576 < a.size + b.size) := h
  clear h
  go_enter Try.func4, Try.ntmps4
  go_wp2_with (go_at_call 11; refine (bytes2_no a b _ ha hb H.out).mono ?_; rintro e w' ⟨rfl, rfl⟩)
  go_ret
  exact ⟨rfl, Grown.refl _⟩

set_option maxHeartbeats 400000 in
theorem letter_wide (a b : ByteArray) (w : World) (h : a.size + b.size ≤ 1048576) (hd : (524288 : Int) < (a.size : Int) ∨ (524288 : Int) < (b.size : Int)) :
    Calls Try.prog 4 #[.string a, .string b] w fun e w' => e = .returned (.bool true) ∧ Grown w w' := by
  have H : Hid (a.size + b.size ≤ 1048576) := h
  clear h
  by_cases d1 : (524288 : Int) < (a.size : Int)
  · clear hd
    go_enter Try.func4, Try.ntmps4
    go_wp2_with (go_at_call 11; refine (bytes2_yes a b _ H.out).mono ?_; rintro e w' ⟨rfl, rfl⟩)
    go_ret
    exact ⟨rfl, Grown.refl _⟩
  have d2 : (524288 : Int) < (b.size : Int) := by omega
  clear hd
  go_enter Try.func4, Try.ntmps4
  go_wp2_with (go_at_call 11; refine (bytes2_yes a b _ H.out).mono ?_; rintro e w' ⟨rfl, rfl⟩)
  go_ret
  exact ⟨rfl, Grown.refl _⟩

theorem letterCase (a b : ByteArray) (ha : a.size ≤ maxLen) (hb : b.size ≤ maxLen) (w : World) :
    Calls Try.prog 4 #[.string a, .string b] w fun e w' => e = .returned (.bool true) ∧ Grown w w' := by
  by_cases h : a.size + b.size ≤ 1048576
  · by_cases hd : (524288 : Int) < (a.size : Int) ∨ (524288 : Int) < (b.size : Int)
    · exact letter_wide a b w h hd
    · have hk := key_swps a
      refine letter_at a b (strOf (swps a)) w ha hb (by rw [strOf_size, swps_len]; exact ha) h rfl (by omega) (by omega) (eqf a b) (decide_eq_true hk.symm) (decide_eq_true hk) rfl ?_
      unfold eqf
      rw [hk]
  · exact letter_long a b w ha hb (by omega)

end Go.Proofs.Qxb6602843a
