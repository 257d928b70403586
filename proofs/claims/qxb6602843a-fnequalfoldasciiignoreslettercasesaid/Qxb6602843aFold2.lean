import Derived.Test.Qxb6602843aFold
namespace Go.Proofs.Qxb6602843a
open Go.ChangeShapes Go.WideShapes Go.ChangeAt Go.RowKit
set_option linter.unusedVariables false

/-! ### the bound on the total length (func 9) -/
set_option maxHeartbeats 400000 in
theorem bytes3_yes (a b c : ByteArray) (w : World) (h : a.size + b.size + c.size ≤ 1048576) :
    Calls Try.prog 9 #[.string a, .string b, .string c] w fun e w' => e = .returned (.bool true) ∧ w' = w := by
  have h1 : ¬ (1048576 : Int) < (a.size : Int) := by omega
  have h2 : ¬ (1048576 : Int) < (b.size : Int) := by omega
  have h3 : ¬ (1048576 : Int) < (c.size : Int) := by omega
  have h4 : ¬ (1048576 : Int) < (a.size : Int) + (b.size : Int) := by omega
  have h5 : ¬ (1048576 : Int) < (a.size : Int) + (b.size : Int) + (c.size : Int) := by omega
  go_enter Try.func9, Try.ntmps9
  go_wp2
  go_ret
  exact ⟨rfl, rfl⟩

set_option maxHeartbeats 400000 in
theorem bytes3_no (a b c : ByteArray) (w : World) (ha : a.size ≤ maxLen) (hb : b.size ≤ maxLen) (hc : c.size ≤ maxLen) (h : 1048576 < a.size + b.size + c.size) :
    Calls Try.prog 9 #[.string a, .string b, .string c] w fun e w' => e = .returned (.bool false) ∧ w' = w := by
  unfold maxLen at ha hb hc
  by_cases h1 : (1048576 : Int) < (a.size : Int)
  · go_enter Try.func9, Try.ntmps9
    go_wp2
    go_ret
    exact ⟨rfl, rfl⟩
  by_cases h2 : (1048576 : Int) < (b.size : Int)
  · go_enter Try.func9, Try.ntmps9
    go_wp2
    go_ret
    exact ⟨rfl, rfl⟩
  by_cases h4 : (1048576 : Int) < (a.size : Int) + (b.size : Int)
  · go_enter Try.func9, Try.ntmps9
    go_wp2
    go_ret
    exact ⟨rfl, rfl⟩
  by_cases h3 : (1048576 : Int) < (c.size : Int)
  · go_enter Try.func9, Try.ntmps9
    go_wp2
    go_ret
    exact ⟨rfl, rfl⟩
  have h5 : (1048576 : Int) < (a.size : Int) + (b.size : Int) + (c.size : Int) := by omega
  go_enter Try.func9, Try.ntmps9
  go_wp2
  go_ret
  exact ⟨rfl, rfl⟩

/-! ### the equivalence -/
theorem eqf_refl (a : ByteArray) : eqf a a = true := decide_eq_true rfl
theorem eqf_symm (a b : ByteArray) : eqf b a = eqf a b := by
  unfold eqf
  by_cases h : key a = key b
  · rw [decide_eq_true h, decide_eq_true h.symm]
  · rw [decide_eq_false h, decide_eq_false (fun e => h e.symm)]
theorem eqf_trans {a b c : ByteArray} (h : eqf a b = true) (k : eqf b c = true) : eqf a c = true :=
  decide_eq_true ((of_decide_eq_true h).trans (of_decide_eq_true k))

set_option maxHeartbeats 400000 in
/-- One walk for each answer of the four calls. -/
theorem equiv_at (a b c : ByteArray) (w : World) (ha : a.size ≤ maxLen) (hb : b.size ≤ maxLen) (hc : c.size ≤ maxLen) (h : a.size + b.size + c.size ≤ 1048576)
    (h1 : (a.size : Int) ≤ 262144) (h2 : (b.size : Int) ≤ 262144) (h3 : (c.size : Int) ≤ 262144)
    (x y z : Bool) (haa : eqf a a = true) (hab : eqf a b = x) (hba : eqf b a = x) (hbc : eqf b c = y) (hac : eqf a c = z) (hl : (x && y && !z) = false) :
    Calls Try.prog 3 #[.string a, .string b, .string c] w fun e w' => e = .returned (.bool true) ∧ ∃ n, w' = w.drewN n := by
  have d1 : ¬ (262144 : Int) < (a.size : Int) := by omega
  have d2 : ¬ (262144 : Int) < (b.size : Int) := by omega
  have d3 : ¬ (262144 : Int) < (c.size : Int) := by omega
  have H : Hid (a.size + b.size + c.size ≤ 1048576) := h
  clear h
  cases x <;> cases y <;> cases z <;> first | (simp at hl; done) | skip
  all_goals
    clear hl
    go_enter Try.func3, Try.ntmps3
    go_wp2_with (first
      | (go_at_call 9; refine (bytes3_yes a b c _ H.out).mono ?_; rintro e w' ⟨rfl, rfl⟩)
      | (go_at_call 10; refine (zzfold _ _ _ (by assumption) (by assumption)).mono ?_; rintro e w' ⟨rfl, n, rfl⟩))
    go_ret
    exact ⟨rfl, _, rfl⟩

set_option maxHeartbeats 400000 in
theorem equiv_long (a b c : ByteArray) (w : World) (ha : a.size ≤ maxLen) (hb : b.size ≤ maxLen) (hc : c.size ≤ maxLen) (h : 1048576 < a.size + b.size + c.size) :
    Calls Try.prog 3 #[.string a, .string b, .string c] w fun e w' => e = .returned (.bool true) ∧ ∃ n, w' = w.drewN n := by
  have H : Hid (1048576 < a.size + b.size + c.size) := h
  clear h
  go_enter Try.func3, Try.ntmps3
  go_wp2_with (go_at_call 9; refine (bytes3_no a b c _ ha hb hc H.out).mono ?_; rintro e w' ⟨rfl, rfl⟩)
  go_ret
  exact ⟨rfl, 0, rfl⟩

set_option maxHeartbeats 400000 in
theorem equiv_wide (a b c : ByteArray) (w : World) (h : a.size + b.size + c.size ≤ 1048576) (hd : (262144 : Int) < (a.size : Int) ∨ (262144 : Int) < (b.size : Int) ∨ (262144 : Int) < (c.size : Int)) :
    Calls Try.prog 3 #[.string a, .string b, .string c] w fun e w' => e = .returned (.bool true) ∧ ∃ n, w' = w.drewN n := by
  have H : Hid (a.size + b.size + c.size ≤ 1048576) := h
  clear h
  by_cases d1 : (262144 : Int) < (a.size : Int)
  · clear hd
    go_enter Try.func3, Try.ntmps3
    go_wp2_with (go_at_call 9; refine (bytes3_yes a b c _ H.out).mono ?_; rintro e w' ⟨rfl, rfl⟩)
    go_ret
    exact ⟨rfl, 0, rfl⟩
  by_cases d2 : (262144 : Int) < (b.size : Int)
  · clear hd
    go_enter Try.func3, Try.ntmps3
    go_wp2_with (go_at_call 9; refine (bytes3_yes a b c _ H.out).mono ?_; rintro e w' ⟨rfl, rfl⟩)
    go_ret
    exact ⟨rfl, 0, rfl⟩
  have d3 : (262144 : Int) < (c.size : Int) := by omega
  clear hd
  go_enter Try.func3, Try.ntmps3
  go_wp2_with (go_at_call 9; refine (bytes3_yes a b c _ H.out).mono ?_; rintro e w' ⟨rfl, rfl⟩)
  go_ret
  exact ⟨rfl, 0, rfl⟩

theorem grown_drewN {w w' : World} (h : ∃ n, w' = w.drewN n) : Grown w w' := by
  obtain ⟨n, rfl⟩ := h
  exact ⟨⟨rfl, rfl, (World.keptBut_refl w (fun _ => False)).2.2⟩, fun _ => rfl, Nat.le_refl _⟩

theorem equivalence (a b c : ByteArray) (ha : a.size ≤ maxLen) (hb : b.size ≤ maxLen) (hc : c.size ≤ maxLen) (w : World) :
    Calls Try.prog 3 #[.string a, .string b, .string c] w fun e w' => e = .returned (.bool true) ∧ Grown w w' := by
  suffices hs : Calls Try.prog 3 #[.string a, .string b, .string c] w fun e w' => e = .returned (.bool true) ∧ ∃ n, w' = w.drewN n from
    hs.mono fun e w' ⟨h1, h2⟩ => ⟨h1, grown_drewN h2⟩
  by_cases h : a.size + b.size + c.size ≤ 1048576
  · by_cases hd : (262144 : Int) < (a.size : Int) ∨ (262144 : Int) < (b.size : Int) ∨ (262144 : Int) < (c.size : Int)
    · exact equiv_wide a b c w h hd
    · refine equiv_at a b c w ha hb hc h (by omega) (by omega) (by omega) (eqf a b) (eqf b c) (eqf a c) (eqf_refl a) rfl (eqf_symm a b) rfl rfl ?_
      cases e1 : eqf a b
      · rfl
      · cases e2 : eqf b c
        · rfl
        · rw [eqf_trans e1 e2]; rfl
  · exact equiv_long a b c w ha hb hc (by omega)

end Go.Proofs.Qxb6602843a
