import Derived.Test.Qxb6603409aPlain
namespace Go.Proofs.Qxb6603409a
open Go.ChangeShapes Go.WideShapes Go.ChangeAt Go.RowKit
set_option linter.unusedVariables false

/-- Every number of the list is a byte that is a hexadecimal digit. -/
def Digits (zs : List Int) : Prop := ∀ i, i < zs.length → 0 ≤ zs.getD i 0 ∧ zs.getD i 0 ≤ 255 ∧ 0 ≤ dig (zs.getD i 0)

theorem wrap_nil : wrap32 (val []) = 0 := by unfold wrap32 val; decide

/-! ### hexRune, ZZHexRune -/
theorem rune_nil (w : World) : Calls Try.prog 25 #[.slice none 0 0] w fun e w' => e = .returned (.int .i32 0) ∧ w' = w := by
  go_enter Try.func25, Try.ntmps25
  go_wp2_with fail
  go_loop [3, 8] (fun r i => i = .int .i64 0 ∧ r = .int .i32 0) (fun _ i => 0)
  case atStart => exact ⟨rfl, rfl⟩
  case round =>
    obtain ⟨rfl, rfl⟩ := hrel
    go_wp2
    go_ret
    exact ⟨rfl, rfl⟩

set_option maxHeartbeats 400000 in
theorem rune_some (w : World) (x : Addr) (cap : Nat) (zs : List Int) (hl : zs.length ≤ 1048576) (hb : Digits zs) (hc : ∀ i, i < zs.length → w.cell? (x.add i) = some (.int .u8 (zs.getD i 0))) :
    Calls Try.prog 25 #[.slice (some x) zs.length cap] w fun e w' => e = .returned (.int .i32 (wrap32 (val zs))) ∧ w' = w := by
  have Hc : Hid (∀ i, i < zs.length → w.cell? (x.add i) = some (.int .u8 (zs.getD i 0))) := hc
  clear hc
  go_enter Try.func25, Try.ntmps25
  go_wp2_with fail
  go_loop [3, 8] (fun r i => ∃ k : Nat, k ≤ zs.length ∧ i = .int .i64 k ∧ r = .int .i32 (wrap32 (val (zs.take k)))) (fun _ i => zs.length - (intOf i).toNat)
  case atStart => exact ⟨0, Nat.zero_le _, rfl, by rw [List.take_zero, wrap_nil]⟩
  case round =>
    obtain ⟨k, hk, rfl, rfl⟩ := hrel
    by_cases hlt : k < zs.length
    · obtain ⟨z, hz⟩ : ∃ z, zs.getD k 0 = z := ⟨_, rfl⟩
      have q : w.cell? (x.add k) = some (.int .u8 z) := by rw [← hz]; exact Hc.out k hlt
      obtain ⟨z0, z1, zd⟩ : 0 ≤ z ∧ z ≤ 255 ∧ 0 ≤ dig z := by rw [← hz]; exact hb k hlt
      have Hz : Hid (zs.getD k 0 = z) := hz
      have Hd : Hid (0 ≤ dig z) := zd
      clear hz zd
      obtain ⟨R, hR⟩ : ∃ R, wrap32 (val (zs.take k)) = R := ⟨_, rfl⟩
      rw [hR]
      have HR : Hid (wrap32 (val (zs.take k)) = R) := hR
      clear hR
      by_cases a : z ≤ 57
      · obtain ⟨a0, a1⟩ := dig_lo z Hd.out a
        have Ha : Hid (dig z = z - 48) := a1
        clear a1
        go_wp2
        go_round
        case rel => exact ⟨k + 1, by omega, by go_num, by rw [← HR.out, rune_step zs k hlt (z - 48) (by rw [Hz.out, Ha.out]) (by omega)]⟩
        case measure => simp [intOf]; omega
      · by_cases b : z ≤ 70
        · obtain ⟨a0, a1⟩ := dig_up z Hd.out a b
          have Ha : Hid (dig z = z - 65 + 10) := a1
          clear a1
          go_wp2
          go_round
          case rel => exact ⟨k + 1, by omega, by go_num, by rw [← HR.out, rune_step zs k hlt (z - 65 + 10) (by rw [Hz.out, Ha.out]) (by omega)]⟩
          case measure => simp [intOf]; omega
        · obtain ⟨a0, a2, a1⟩ := dig_sm z Hd.out a b
          have Ha : Hid (dig z = z - 97 + 10) := a1
          clear a1
          go_wp2
          go_round
          case rel => exact ⟨k + 1, by omega, by go_num, by rw [← HR.out, rune_step zs k hlt (z - 97 + 10) (by rw [Hz.out, Ha.out]) (by omega)]⟩
          case measure => simp [intOf]; omega
    · have e : zs.take k = zs := List.take_of_length_le (by omega)
      rw [e]
      clear e
      go_wp2
      go_ret
      exact ⟨rfl, rfl⟩

theorem zzrune_nil (w : World) : Calls Try.prog 15 #[.slice none 0 0] w fun e w' => e = .returned (.int .i32 0) ∧ w' = w := by
  go_enter Try.func15, Try.ntmps15
  go_wp2_with (go_at_call 25; refine (rune_nil _).mono ?_; rintro e w' ⟨rfl, rfl⟩)
  go_ret
  exact ⟨rfl, rfl⟩
theorem zzrune_some (w : World) (x : Addr) (cap : Nat) (zs : List Int) (hl : zs.length ≤ 1048576) (hb : Digits zs) (hc : ∀ i, i < zs.length → w.cell? (x.add i) = some (.int .u8 (zs.getD i 0))) :
    Calls Try.prog 15 #[.slice (some x) zs.length cap] w fun e w' => e = .returned (.int .i32 (wrap32 (val zs))) ∧ w' = w := by
  have Hc : Hid (∀ i, i < zs.length → w.cell? (x.add i) = some (.int .u8 (zs.getD i 0))) := hc
  clear hc
  go_enter Try.func15, Try.ntmps15
  go_wp2_with (go_at_call 25; refine (rune_some _ x cap zs hl hb Hc.out).mono ?_; rintro e w' ⟨rfl, rfl⟩)
  go_ret
  exact ⟨rfl, rfl⟩

end Go.Proofs.Qxb6603409a
