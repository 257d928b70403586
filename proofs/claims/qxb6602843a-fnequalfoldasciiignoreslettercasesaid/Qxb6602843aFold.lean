import Derived.Test.Qxb6602843aRows
import Derived.WalkKit
import Derived.ProofKit
import Derived.OpenShut
import Derived.ShutString
import Derived.BigQuiet
import Derived.Deep.QuietTactic
import Derived.WalkSmall
namespace Go.Proofs.Qxb6602843a
open Go.ChangeShapes Go.WideShapes Go.ChangeAt Go.RowKit
set_option linter.unusedVariables false

/-! ### The plain functions -/
def low (c : Int) : Int := if 65 ≤ c ∧ c ≤ 90 then c + 32 else c
def key (s : ByteArray) : List Int := s.data.toList.map fun c => low (c.toNat : Int)
def eqf (a b : ByteArray) : Bool := decide (key a = key b)

theorem low_in (c : Int) (h1 : 65 ≤ c) (h2 : c ≤ 90) : low c = c + 32 := by unfold low; rw [if_pos ⟨h1, h2⟩]
theorem low_out (c : Int) (h : ¬ (65 ≤ c ∧ c ≤ 90)) : low c = c := by unfold low; rw [if_neg h]
theorem key_len (s : ByteArray) : (key s).length = s.size := by simp [key]

theorem key_snoc (s : ByteArray) (k : Nat) (h : k < s.size) : (key s).take (k + 1) = (key s).take k ++ [low (s[k].toNat : Int)] := by
  rw [List.take_succ_eq_append_getElem (by rw [key_len]; exact h)]
  congr 2
  simp [key]
  rfl
theorem key_step {a b : ByteArray} {k : Nat} (h : k < a.size) (h' : k < b.size) (hk : (key a).take k = (key b).take k) (hc : low (a[k].toNat : Int) = low (b[k].toNat : Int)) :
    (key a).take (k + 1) = (key b).take (k + 1) := by
  rw [key_snoc a k h, key_snoc b k h', hk, hc]
theorem eqf_no {a b : ByteArray} {k : Nat} (h : k < a.size) (h' : k < b.size) (hc : ¬ low (a[k].toNat : Int) = low (b[k].toNat : Int)) : eqf a b = false := by
  refine decide_eq_false fun e => hc ?_
  have this : (key a).take (k + 1) = (key b).take (k + 1) := by rw [e]
  rw [key_snoc a k h, key_snoc b k h', e] at this
  simpa using List.append_cancel_left this
theorem eqf_yes {a b : ByteArray} {k : Nat} (h : a.size = b.size) (hk : (key a).take k = (key b).take k) (hn : ¬ k < a.size) : eqf a b = true := by
  refine decide_eq_true ?_
  rw [List.take_of_length_le (by rw [key_len]; omega), List.take_of_length_le (by rw [key_len]; omega)] at hk
  exact hk
theorem eqf_ne {a b : ByteArray} (h : a.size ≠ b.size) : eqf a b = false := by
  refine decide_eq_false fun e => h ?_
  have := congrArg List.length e
  rwa [key_len, key_len] at this

theorem drewN_more {w wr : World} (h : ∃ n, wr = w.drewN n) (m : Nat) : ∃ n, wr.drewN m = w.drewN n := by
  obtain ⟨n, rfl⟩ := h
  exact ⟨_, World.drewN_drewN _ _ _⟩

/-! ### lowerASCII -/
set_option maxHeartbeats 400000 in
theorem lower_any (c : Int) (w : World) : Calls Try.prog 24 #[.int .u8 c] w fun e w' => e = .returned (.int .u8 (low c)) ∧ w' = w := by
  by_cases h1 : 65 ≤ c
  · by_cases h2 : c ≤ 90
    · rw [low_in c h1 h2]
      go_enter Try.func24, Try.ntmps24
      go_wp2
      go_ret
      exact ⟨rfl, rfl⟩
    · rw [low_out c (by omega)]
      go_enter Try.func24, Try.ntmps24
      go_wp2
      go_ret
      exact ⟨rfl, rfl⟩
  · rw [low_out c (by omega)]
    have hd : decide ((65 : Int) ≤ c) = false := by simpa using h1
    go_enter Try.func24, Try.ntmps24
    go_wp2
    go_ret
    exact ⟨rfl, rfl⟩

/-! ### equalFoldASCII -/
set_option maxHeartbeats 400000 in
theorem fold_ne (a b : ByteArray) (w : World) (ha : a.size ≤ maxLen) (hb : b.size ≤ maxLen) (hne : a.size ≠ b.size) :
    Calls Try.prog 21 #[.string a, .string b] w fun e w' => e = .returned (.bool false) ∧ ∃ n, w' = w.drewN n := by
  unfold maxLen at ha hb
  go_enter Try.func21, Try.ntmps21
  go_wp2
  go_ret
  exact ⟨rfl, 0, rfl⟩

set_option maxHeartbeats 400000 in
theorem fold_eq (a b : ByteArray) (w : World) (ha : a.size ≤ maxLen) (hb : b.size ≤ maxLen) (hl : a.size = b.size) :
    Calls Try.prog 21 #[.string a, .string b] w fun e w' => e = .returned (.bool (eqf a b)) ∧ ∃ n, w' = w.drewN n := by
  unfold maxLen at ha hb
  have hl1 : ((a.size : Int) != (b.size : Int)) = false := by simp [hl]
  go_enter Try.func21, Try.ntmps21
  go_wp2_with fail
  go_loopw [5] (fun i wr => ∃ k : Nat, k ≤ a.size ∧ i = .int .i64 k ∧ (key a).take k = (key b).take k ∧ ∃ n, wr = w.drewN n) (fun i _ => a.size - (intOf i).toNat)
  case atStart => exact ⟨0, Nat.zero_le _, rfl, by simp, 0, rfl⟩
  case round =>
    obtain ⟨k, hk, rfl, ht, hw⟩ := hrel
    have Hw : Hid (∃ n, wr = w.drewN n) := hw
    have Ht : Hid ((key a).take k = (key b).take k) := ht
    have Hl : Hid (a.size = b.size) := hl
    clear ht hl hl1 hw
    by_cases hlt : k < a.size
    · have hlb : k < b.size := by have := Hl.out; omega
      by_cases hc : low (a[k].toNat : Int) = low (b[k].toNat : Int)
      · have hb' : (low (a[k].toNat : Int) != low (b[k].toNat : Int)) = false := by simp [hc]
        go_wp2
        go_quiet ((go_at_call 24; exact Calls.quiet_of_same (lower_any _ _)))
        go_wp2
        go_roundw
        case rel => exact ⟨k + 1, by omega, by go_num, key_step hlt hlb Ht.out hc, drewN_more Hw.out _⟩
        case measure => simp [intOf]; omega
      · have hb' : (low (a[k].toNat : Int) != low (b[k].toNat : Int)) = true := by simp [hc]
        have He : Hid (eqf a b = false) := eqf_no hlt hlb hc
        clear hc
        go_wp2
        go_quiet ((go_at_call 24; exact Calls.quiet_of_same (lower_any _ _)))
        go_wp2
        go_ret
        exact ⟨by rw [He.out]; rfl, drewN_more Hw.out _⟩
    · have He : Hid (eqf a b = true) := eqf_yes Hl.out Ht.out hlt
      go_wp2
      go_ret
      exact ⟨by rw [He.out]; rfl, Hw.out⟩

theorem fold_any (a b : ByteArray) (w : World) (ha : a.size ≤ maxLen) (hb : b.size ≤ maxLen) :
    Calls Try.prog 21 #[.string a, .string b] w fun e w' => e = .returned (.bool (eqf a b)) ∧ ∃ n, w' = w.drewN n := by
  by_cases h : a.size = b.size
  · exact fold_eq a b w ha hb h
  · rw [eqf_ne h]; exact fold_ne a b w ha hb h

set_option maxHeartbeats 400000 in
theorem zzfold (a b : ByteArray) (w : World) (ha : a.size ≤ maxLen) (hb : b.size ≤ maxLen) :
    Calls Try.prog 10 #[.string a, .string b] w fun e w' => e = .returned (.bool (eqf a b)) ∧ ∃ n, w' = w.drewN n := by
  go_enter Try.func10, Try.ntmps10
  go_wp2_with (go_at_call 21; refine (fold_any a b _ ha hb).mono ?_; rintro e w' ⟨rfl, n, rfl⟩)
  go_ret
  exact ⟨rfl, _, rfl⟩

end Go.Proofs.Qxb6602843a
