import Derived.Test.Qxb6603708aHex
namespace Go.Proofs.Qxb6603708a
open Go.ChangeShapes Go.WideShapes Go.ChangeAt Go.RowKit
set_option linter.unusedVariables false

theorem wrap_nil : wrap32 (val []) = 0 := by unfold wrap32 val; decide

/-! ### hex4 (func 13) -/
set_option maxHeartbeats 1000000 in
theorem hex4_any (B n cap : Nat) (hs : List Int) (w : World) (hn : 5 ≤ n) (hn' : n ≤ 2000000) (hcap : n ≤ cap) (hcap' : cap ≤ 2000000) (hl : hs.length = 4) (hd : Digits hs)
    (c0 : w.cell? ⟨B, 0, none⟩ = some (.int .u8 117)) (hc : ∀ i, i < 4 → w.cell? ⟨B, 1 + i, none⟩ = some (.int .u8 (hs.getD i 0))) :
    Calls Try.prog 13 #[.slice (some ⟨B, 0, none⟩) n cap] w fun e w' => e = .returned (.int .i32 (wrap32 (val hs))) ∧ w' = w := by
  have Hc : Hid (∀ i, i < 4 → w.cell? ⟨B, 1 + i, none⟩ = some (.int .u8 (hs.getD i 0))) := hc
  have Hl : Hid (hs.length = 4) := hl
  have Hd : Hid (Digits hs) := hd
  clear hc hl hd
  have b1 : ¬ (n : Int) < 5 := by omega
  have b2 : (0 : Int) < (n : Int) := by omega
  go_enter Try.func13, Try.ntmps13
  go_wp2_with fail
  go_loop [3, 18] (fun r i => ∃ k : Nat, k ≤ 4 ∧ i = .int .i64 k ∧ r = .int .i32 (wrap32 (val (hs.take k)))) (fun _ i => 4 - (intOf i).toNat)
  case atStart => exact ⟨0, Nat.zero_le _, rfl, by rw [List.take_zero, wrap_nil]⟩
  case round =>
    obtain ⟨k, hk, rfl, rfl⟩ := hrel
    by_cases hlt : k < 4
    · obtain ⟨z, hz⟩ : ∃ z, hs.getD k 0 = z := ⟨_, rfl⟩
      have q : w.cell? ⟨B, 1 + k, none⟩ = some (.int .u8 z) := by rw [← hz]; exact Hc.out k hlt
      obtain ⟨z0, z1, zd⟩ : 0 ≤ z ∧ z ≤ 255 ∧ 0 ≤ dig z := by rw [← hz]; exact Hd.out k (by rw [Hl.out]; exact hlt)
      have Hz : Hid (hs.getD k 0 = z) := hz
      clear hz
      obtain ⟨R, hR⟩ : ∃ R, wrap32 (val (hs.take k)) = R := ⟨_, rfl⟩
      rw [hR]
      have HR : Hid (wrap32 (val (hs.take k)) = R) := hR
      clear hR
      rcases dig_kinds z zd with ⟨k1, k2, k3⟩ | ⟨k1, k2, k3⟩ | ⟨k1, k2, k3⟩
      · have Ha : Hid (dig z = z - 48) := k3
        clear k3 zd
        go_wp2
        go_round
        case rel => exact ⟨k + 1, by omega, by go_num, by rw [← HR.out, rune_step hs k (by rw [Hl.out]; exact hlt) (z - 48) (by rw [Hz.out, Ha.out]) (by omega)]⟩
        case measure => simp [intOf]; omega
      · have Ha : Hid (dig z = z - 87) := k3
        clear k3 zd
        have n1 : (48 : Int) ≤ z := by omega
        have n2 : ¬ z ≤ 57 := by omega
        go_wp2
        go_round
        case rel => exact ⟨k + 1, by omega, by go_num, by rw [← HR.out, rune_step hs k (by rw [Hl.out]; exact hlt) (z - 87) (by rw [Hz.out, Ha.out]) (by omega)]⟩
        case measure => simp [intOf]; omega
      · have Ha : Hid (dig z = z - 55) := k3
        clear k3 zd
        have n1 : (48 : Int) ≤ z := by omega
        have n2 : ¬ z ≤ 57 := by omega
        have n3 : decide ((97 : Int) ≤ z) = false := decide_eq_false (by omega)
        go_wp2
        go_round
        case rel => exact ⟨k + 1, by omega, by go_num, by rw [← HR.out, rune_step hs k (by rw [Hl.out]; exact hlt) (z - 55) (by rw [Hz.out, Ha.out]) (by omega)]⟩
        case measure => simp [intOf]; omega
    · have e : hs.take k = hs := List.take_of_length_le (by rw [Hl.out]; omega)
      rw [e]
      clear e
      go_wp2
      go_ret
      exact ⟨rfl, rfl⟩

theorem zzhex4 (B n cap : Nat) (hs : List Int) (w : World) (hn : 5 ≤ n) (hn' : n ≤ 2000000) (hcap : n ≤ cap) (hcap' : cap ≤ 2000000) (hl : hs.length = 4) (hd : Digits hs)
    (c0 : w.cell? ⟨B, 0, none⟩ = some (.int .u8 117)) (hc : ∀ i, i < 4 → w.cell? ⟨B, 1 + i, none⟩ = some (.int .u8 (hs.getD i 0))) :
    Calls Try.prog 8 #[.slice (some ⟨B, 0, none⟩) n cap] w fun e w' => e = .returned (.int .i32 (wrap32 (val hs))) ∧ w' = w := by
  have Hc : Hid (∀ i, i < 4 → w.cell? ⟨B, 1 + i, none⟩ = some (.int .u8 (hs.getD i 0))) := hc
  have Hl : Hid (hs.length = 4) := hl
  clear hc hl
  go_enter Try.func8, Try.ntmps8
  go_wp2_with (go_at_call 13; refine (hex4_any B n cap hs _ hn hn' hcap hcap' Hl.out hd c0 Hc.out).mono ?_; rintro e w' ⟨rfl, rfl⟩)
  go_ret
  exact ⟨rfl, rfl⟩

end Go.Proofs.Qxb6603708a
