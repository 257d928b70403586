import Derived.Test.Qxb6603409aHex
namespace Go.Proofs.Qxb6603409a
open Go.RowKit
set_option linter.unusedVariables false

theorem or_low (R d : Int) (h0 : 0 ≤ d) (h1 : d ≤ 15) : bits .or .i32 (wrap32 (R * 16)) d = wrap32 (16 * R + d) := by
  obtain ⟨n, rfl⟩ := Int.eq_ofNat_of_zero_le h0
  have hx : (BitVec.ofInt 32 (wrap32 (R * 16))).toNat = 2 ^ 4 * ((R % 268435456).toNat) := by
    rw [BitVec.toNat_ofInt]
    unfold wrap32
    omega
  have hd : (BitVec.ofInt 32 (n : Int)).toNat = n := by
    rw [BitVec.toNat_ofInt]
    omega
  have e : bits .or .i32 (wrap32 (R * 16)) n = IntKind.wrap .i32 ((BitVec.ofInt 32 (wrap32 (R * 16)) ||| BitVec.ofInt 32 (n : Int)).toNat : Int) := rfl
  rw [e, BitVec.toNat_or, hx, hd, ← Nat.two_pow_add_eq_or_of_lt (by omega)]
  rw [IntWalk.i32_left]
  unfold wrap32
  omega

theorem dig_le (c : Int) : dig c ≤ 15 := by
  unfold dig
  by_cases h1 : 48 ≤ c ∧ c ≤ 57
  · rw [if_pos h1]; omega
  · rw [if_neg h1]
    by_cases h2 : 97 ≤ c ∧ c ≤ 102
    · rw [if_pos h2]; omega
    · rw [if_neg h2]
      by_cases h3 : 65 ≤ c ∧ c ≤ 70
      · rw [if_pos h3]; omega
      · rw [if_neg h3]; omega
theorem dig_lo (z : Int) (hd : 0 ≤ dig z) (h : z ≤ 57) : 48 ≤ z ∧ dig z = z - 48 := by
  unfold dig at *
  by_cases h1 : 48 ≤ z ∧ z ≤ 57
  · rw [if_pos h1]; exact ⟨h1.1, rfl⟩
  · rw [if_neg h1, if_neg (by omega), if_neg (by omega)] at hd; omega
theorem dig_up (z : Int) (hd : 0 ≤ dig z) (h : ¬ z ≤ 57) (h' : z ≤ 70) : 65 ≤ z ∧ dig z = z - 65 + 10 := by
  unfold dig at *
  rw [if_neg (by omega), if_neg (by omega)] at *
  by_cases h1 : 65 ≤ z ∧ z ≤ 70
  · rw [if_pos h1]; exact ⟨h1.1, rfl⟩
  · rw [if_neg h1] at hd; omega
theorem dig_sm (z : Int) (hd : 0 ≤ dig z) (h : ¬ z ≤ 57) (h' : ¬ z ≤ 70) : 97 ≤ z ∧ z ≤ 102 ∧ dig z = z - 97 + 10 := by
  unfold dig at *
  rw [if_neg (by omega)] at *
  by_cases h1 : 97 ≤ z ∧ z ≤ 102
  · rw [if_pos h1]; exact ⟨h1.1, h1.2, rfl⟩
  · rw [if_neg h1, if_neg (by omega)] at hd; omega

def val (zs : List Int) : Int := zs.foldl (fun r c => 16 * r + dig c) 0
theorem val_from (zs : List Int) : ∀ r : Int, zs.foldl (fun r c => 16 * r + dig c) r = r * 16 ^ zs.length + val zs := by
  induction zs with
  | nil => intro r; simp [val]
  | cons c zs ih =>
    intro r
    have hv : val (c :: zs) = (16 * 0 + dig c) * 16 ^ zs.length + val zs := ih (16 * 0 + dig c)
    rw [List.foldl_cons, ih, hv, List.length_cons, Int.pow_succ]
    have : (16 * r + dig c) * 16 ^ zs.length = r * (16 ^ zs.length * 16) + (16 * 0 + dig c) * 16 ^ zs.length := by
      rw [Int.add_mul, Int.mul_comm 16 r, Int.mul_assoc, Int.mul_comm 16 (16 ^ zs.length)]
      simp
    omega
theorem val_append (xs ys : List Int) : val (xs ++ ys) = val xs * 16 ^ ys.length + val ys := by
  unfold val
  rw [List.foldl_append, val_from]
  rfl
theorem val_take (zs : List Int) (k : Nat) (h : k < zs.length) : val (zs.take (k + 1)) = 16 * val (zs.take k) + dig (zs.getD k 0) := by
  rw [List.take_succ_eq_append_getElem h, val_append]
  rw [List.getD_eq_getElem?_getD, List.getElem?_eq_getElem h]
  simp [val]
  omega
theorem rune_step (zs : List Int) (k : Nat) (h : k < zs.length) (d : Int) (hd : d = dig (zs.getD k 0)) (h0 : 0 ≤ d) :
    bits .or .i32 (wrap32 (wrap32 (val (zs.take k)) * 16)) d = wrap32 (val (zs.take (k + 1))) := by
  rw [or_low _ _ h0 (by rw [hd]; exact dig_le _), val_take zs k h, ← hd]
  unfold wrap32
  omega

/-- The last m digits. -/
def tl (zs : List Int) (m : Nat) : Int := val (zs.drop (zs.length - m))
theorem tl_zero (zs : List Int) : tl zs 0 = 0 := by
  unfold tl
  rw [Nat.sub_zero, List.drop_length]
  rfl
theorem tl_succ (zs : List Int) (m : Nat) (h : m < zs.length) : tl zs (m + 1) = dig (zs.getD (zs.length - 1 - m) 0) * 16 ^ m + tl zs m := by
  unfold tl
  have h1 : zs.length - (m + 1) < zs.length := by omega
  rw [List.drop_eq_getElem_cons h1, ← List.singleton_append, val_append]
  have e1 : zs.length - (m + 1) + 1 = zs.length - m := by omega
  have e2 : zs.length - 1 - m = zs.length - (m + 1) := by omega
  rw [e1, e2, List.getD_eq_getElem?_getD, List.getElem?_eq_getElem h1, List.length_drop]
  have e3 : zs.length - (zs.length - m) = m := by omega
  rw [e3]
  simp [val]
theorem tl_bound (zs : List Int) (hz : ∀ i, i < zs.length → 0 ≤ dig (zs.getD i 0)) (m : Nat) (h : m ≤ zs.length) : 0 ≤ tl zs m ∧ tl zs m < 16 ^ m := by
  induction m with
  | zero => rw [tl_zero]; simp
  | succ m ih =>
    obtain ⟨i1, i2⟩ := ih (by omega)
    rw [tl_succ zs m (by omega), Int.pow_succ]
    have d0 := hz (zs.length - 1 - m) (by omega)
    have d1 := dig_le (zs.getD (zs.length - 1 - m) 0)
    have p : (0 : Int) < 16 ^ m := Int.pow_pos (by decide)
    have q0 : 0 ≤ dig (zs.getD (zs.length - 1 - m) 0) * 16 ^ m := Int.mul_nonneg d0 (by omega)
    have q1 : dig (zs.getD (zs.length - 1 - m) 0) * 16 ^ m ≤ 15 * 16 ^ m := Int.mul_le_mul_of_nonneg_right d1 (by omega)
    constructor <;> omega
theorem tl_all (zs : List Int) (m : Nat) (h : zs.length ≤ m) : tl zs m = val zs := by
  unfold tl
  rw [show zs.length - m = 0 from by omega, List.drop_zero]
theorem val_tl8 (zs : List Int) (h : 8 ≤ zs.length) : wrap32 (val zs) = wrap32 (tl zs 8) := by
  have e : zs = zs.take (zs.length - 8) ++ zs.drop (zs.length - 8) := (List.take_append_drop _ _).symm
  have e2 : val zs = val (zs.take (zs.length - 8)) * 16 ^ 8 + tl zs 8 := by
    unfold tl
    conv => lhs; rw [e]
    rw [val_append, List.length_drop, show zs.length - (zs.length - 8) = 8 from by omega]
  rw [e2]
  unfold wrap32
  omega

/-- place -/
def plc (m : Nat) : Int := (16 ^ m : Int) % 4294967296
theorem plc_succ (m : Nat) : (plc m * 16) % 4294967296 = plc (m + 1) := by
  unfold plc
  rw [Int.pow_succ]
  omega
theorem plc_lt (m : Nat) (h : m < 8) : plc m = 16 ^ m := by
  unfold plc
  match m, h with
  | 0, _ => rfl
  | 1, _ => rfl
  | 2, _ => rfl
  | 3, _ => rfl
  | 4, _ => rfl
  | 5, _ => rfl
  | 6, _ => rfl
  | 7, _ => rfl
theorem pow_le8 (m : Nat) (h : m < 8) : (0 : Int) < 16 ^ m ∧ (16 : Int) ^ m ≤ 268435456 := by
  match m, h with
  | 0, _ => decide
  | 1, _ => decide
  | 2, _ => decide
  | 3, _ => decide
  | 4, _ => decide
  | 5, _ => decide
  | 6, _ => decide
  | 7, _ => decide
theorem add_step (zs : List Int) (hz : ∀ i, i < zs.length → 0 ≤ dig (zs.getD i 0)) (m : Nat) (hm : m < 8) (h : m < zs.length) (z : Int) (e : zs.getD (zs.length - 1 - m) 0 = z) :
    0 ≤ dig z * plc m ∧ dig z * plc m ≤ 4294967295 ∧ tl zs m + dig z * plc m = tl zs (m + 1) ∧ 0 ≤ tl zs m ∧ tl zs m + dig z * plc m ≤ 4294967295 := by
  subst e
  have d0 := hz (zs.length - 1 - m) (by omega)
  have d1 := dig_le (zs.getD (zs.length - 1 - m) 0)
  obtain ⟨p0, p1⟩ := pow_le8 m hm
  rw [plc_lt m hm]
  have q0 : 0 ≤ dig (zs.getD (zs.length - 1 - m) 0) * 16 ^ m := Int.mul_nonneg d0 (by omega)
  have q1 : dig (zs.getD (zs.length - 1 - m) 0) * 16 ^ m ≤ 15 * 16 ^ m := Int.mul_le_mul_of_nonneg_right d1 (by omega)
  obtain ⟨b0, b1⟩ := tl_bound zs hz m (by omega)
  rw [tl_succ zs m h]
  refine ⟨q0, ?_, ?_, b0, ?_⟩ <;> omega

end Go.Proofs.Qxb6603409a
