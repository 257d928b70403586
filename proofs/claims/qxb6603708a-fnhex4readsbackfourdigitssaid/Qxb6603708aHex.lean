import Derived.Test.Qxb6603708aRows
import Derived.WalkKit
import Derived.ProofKit
import Derived.OpenShut
import Derived.ShutString
import Derived.BigQuiet
import Derived.Deep.QuietTactic
import Derived.Deep.OwnRows
import Derived.WalkSmall
import Derived.Below
import Derived.Lib.SliceRun
import Derived.WalkSpells
import Derived.OwnWalk
namespace Go.Proofs.Qxb6603708a
open Go.ChangeShapes Go.WideShapes Go.ChangeAt Go.RowKit
set_option linter.unusedVariables false

theorem rinfo5 : (Try.prog.info? 5).map (fun i => (i.zero, i.size, i.bytes)) = some (some (.int .u8 0), 1, 1) := by kernel_rfl

/-! ### The plain functions -/
def dig (c : Int) : Int := if 48 ≤ c ∧ c ≤ 57 then c - 48 else if 97 ≤ c ∧ c ≤ 102 then c - 97 + 10 else if 65 ≤ c ∧ c ≤ 70 then c - 65 + 10 else -1

theorem or_low (R d : Int) (h0 : 0 ≤ d) (h1 : d ≤ 15) : bits .or .i32 (wrap32 (R * 16)) d = wrap32 (16 * R + d) := by
  obtain ⟨n, rfl⟩ := Int.eq_ofNat_of_zero_le h0
  have hx : (BitVec.ofInt 32 (wrap32 (R * 16))).toNat = 2 ^ 4 * ((R % 268435456).toNat) := by
    rw [BitVec.toNat_ofInt]
    unfold wrap32
    omega
  have hd : (BitVec.ofInt 32 (n : Int)).toNat = n := by
    rw [BitVec.toNat_ofInt]
    omega
  have e : bits .or .i32 (wrap32 (R * 16)) n = IntKind.wrap .i32 ((BitVec.ofInt 32 (wrap32 (R * 16)) ||| BitVec.ofInt 32 (n : Int)).toNat : Int) := rfl
  rw [e, BitVec.toNat_or, hx, hd, ← Nat.two_pow_add_eq_or_of_lt (by omega)]
  rw [IntWalk.i32_left]
  unfold wrap32
  omega

theorem dig_le (c : Int) : dig c ≤ 15 := by
  unfold dig
  by_cases h1 : 48 ≤ c ∧ c ≤ 57
  · rw [if_pos h1]; omega
  · rw [if_neg h1]
    by_cases h2 : 97 ≤ c ∧ c ≤ 102
    · rw [if_pos h2]; omega
    · rw [if_neg h2]
      by_cases h3 : 65 ≤ c ∧ c ≤ 70
      · rw [if_pos h3]; omega
      · rw [if_neg h3]; omega
def val (zs : List Int) : Int := zs.foldl (fun r c => 16 * r + dig c) 0
theorem val_from (zs : List Int) : ∀ r : Int, zs.foldl (fun r c => 16 * r + dig c) r = r * 16 ^ zs.length + val zs := by
  induction zs with
  | nil => intro r; simp [val]
  | cons c zs ih =>
    intro r
    have hv : val (c :: zs) = (16 * 0 + dig c) * 16 ^ zs.length + val zs := ih (16 * 0 + dig c)
    rw [List.foldl_cons, ih, hv, List.length_cons, Int.pow_succ]
    have : (16 * r + dig c) * 16 ^ zs.length = r * (16 ^ zs.length * 16) + (16 * 0 + dig c) * 16 ^ zs.length := by
      rw [Int.add_mul, Int.mul_comm 16 r, Int.mul_assoc, Int.mul_comm 16 (16 ^ zs.length)]
      simp
    omega
theorem val_append (xs ys : List Int) : val (xs ++ ys) = val xs * 16 ^ ys.length + val ys := by
  unfold val
  rw [List.foldl_append, val_from]
  rfl
theorem val_take (zs : List Int) (k : Nat) (h : k < zs.length) : val (zs.take (k + 1)) = 16 * val (zs.take k) + dig (zs.getD k 0) := by
  rw [List.take_succ_eq_append_getElem h, val_append]
  rw [List.getD_eq_getElem?_getD, List.getElem?_eq_getElem h]
  simp [val]
  omega
theorem rune_step (zs : List Int) (k : Nat) (h : k < zs.length) (d : Int) (hd : d = dig (zs.getD k 0)) (h0 : 0 ≤ d) :
    bits .or .i32 (wrap32 (wrap32 (val (zs.take k)) * 16)) d = wrap32 (val (zs.take (k + 1))) := by
  rw [or_low _ _ h0 (by rw [hd]; exact dig_le _), val_take zs k h, ← hd]
  unfold wrap32
  omega


/-- Every number of the list is a byte that is a hexadecimal digit. -/
def Digits (zs : List Int) : Prop := ∀ i, i < zs.length → 0 ≤ zs.getD i 0 ∧ zs.getD i 0 ≤ 255 ∧ 0 ≤ dig (zs.getD i 0)
/-- A digit is of one of three kinds. -/
theorem dig_kinds (z : Int) (hd : 0 ≤ dig z) : (48 ≤ z ∧ z ≤ 57 ∧ dig z = z - 48) ∨ (97 ≤ z ∧ z ≤ 102 ∧ dig z = z - 87) ∨ (65 ≤ z ∧ z ≤ 70 ∧ dig z = z - 55) := by
  unfold dig at *
  by_cases h1 : 48 ≤ z ∧ z ≤ 57
  · rw [if_pos h1]; exact .inl ⟨h1.1, h1.2, rfl⟩
  · rw [if_neg h1] at *
    by_cases h2 : 97 ≤ z ∧ z ≤ 102
    · rw [if_pos h2]; exact .inr (.inl ⟨h2.1, h2.2, by omega⟩)
    · rw [if_neg h2] at *
      by_cases h3 : 65 ≤ z ∧ z ≤ 70
      · rw [if_pos h3]; exact .inr (.inr ⟨h3.1, h3.2, by omega⟩)
      · rw [if_neg h3] at hd; omega

/-! ### the bound on the total length (func 6) -/
theorem bytes_yes (r m : Int) (a : Option Addr) (l c : Nat) (w : World) (h : l ≤ 1048576) : Calls Try.prog 6 #[.int .i32 r, .int .u8 m, .slice a l c] w fun e w' => e = .returned (.bool true) ∧ w' = w := by
  have h1 : ¬ (1048576 : Int) < (l : Int) := by omega
  go_enter Try.func6, Try.ntmps6
  go_wp2
  go_ret
  exact ⟨rfl, rfl⟩
theorem bytes_no (r m : Int) (a : Option Addr) (l c : Nat) (w : World) (h : 1048576 < l) : Calls Try.prog 6 #[.int .i32 r, .int .u8 m, .slice a l c] w fun e w' => e = .returned (.bool false) ∧ w' = w := by
  have h1 : (1048576 : Int) < (l : Int) := by omega
  go_enter Try.func6, Try.ntmps6
  go_wp2
  go_ret
  exact ⟨rfl, rfl⟩

/-! ### zzHexChar (func 7) -/
theorem byte_le (c : UInt8) : (c.toNat : Int) ≤ 255 := by have := c.toNat_lt; omega
set_option maxHeartbeats 2000000 in
theorem hexchar_any (n : Int) (u : Bool) (w : World) (h0 : 0 ≤ n) (h1 : n ≤ 15) :
    Calls Try.prog 7 #[.int .i32 n, .bool u] w fun e w' => (∃ c : Int, e = .returned (.int .u8 c) ∧ 0 ≤ c ∧ c ≤ 255 ∧ dig c = n) ∧ w' = w := by
  obtain rfl | rfl | rfl | rfl | rfl | rfl | rfl | rfl | rfl | rfl | rfl | rfl | rfl | rfl | rfl | rfl : n = 0 ∨ n = 1 ∨ n = 2 ∨ n = 3 ∨ n = 4 ∨ n = 5 ∨ n = 6 ∨ n = 7 ∨ n = 8 ∨ n = 9 ∨ n = 10 ∨ n = 11 ∨ n = 12 ∨ n = 13 ∨ n = 14 ∨ n = 15 := by omega
  all_goals
    cases u
    all_goals
      go_enter Try.func7, Try.ntmps7
      go_wp2
      go_ret
      first | exact ⟨⟨_, rfl, Int.natCast_nonneg _, byte_le _, rfl⟩, rfl⟩ | exact ⟨⟨_, rfl, by decide, by decide, rfl⟩, rfl⟩

end Go.Proofs.Qxb6603708a
