import Derived.Test.Qxb6603409aHex2
namespace Go.Proofs.Qxb6603409a
open Go.ChangeShapes Go.WideShapes Go.ChangeAt Go.RowKit
set_option linter.unusedVariables false

/-! ### FnHexRuneValueOfDigits (func 5) -/
set_option maxHeartbeats 400000 in
theorem value_long (a : Option Addr) (l c : Nat) (w : World) (h : 1048576 < l) : Calls Try.prog 5 #[.slice a l c] w fun e w' => e = .returned (.bool true) ∧ Below w.heap.size w w' := by
  have H : Hid (1048576 < l) := h
  clear h
  go_enter Try.func5, Try.ntmps5
  go_wp2_with (go_at_call 12; refine (bytes12_no a l c _ H.out).mono ?_; rintro e w' ⟨rfl, rfl⟩)
  go_ret
  exact ⟨rfl, Below.refl _ _⟩

set_option maxHeartbeats 400000 in
theorem value_wide (a : Option Addr) (l c : Nat) (w : World) (h : l ≤ 1048576) (hd : (65536 : Int) < (l : Int)) : Calls Try.prog 5 #[.slice a l c] w fun e w' => e = .returned (.bool true) ∧ Below w.heap.size w w' := by
  have H : Hid (l ≤ 1048576) := h
  clear h
  go_enter Try.func5, Try.ntmps5
  go_wp2_with (go_at_call 12; refine (bytes12_yes a l c _ H.out).mono ?_; rintro e w' ⟨rfl, rfl⟩)
  go_ret
  exact ⟨rfl, Below.refl _ _⟩

set_option maxHeartbeats 1000000 in
theorem value_nil (w : World) : Calls Try.prog 5 #[.slice none 0 0] w fun e w' => e = .returned (.bool true) ∧ Below w.heap.size w w' := by
  go_enter Try.func5, Try.ntmps5
  go_wp2_with (go_at_call 12; refine (bytes12_yes none 0 0 _ (by decide)).mono ?_; rintro e w' ⟨rfl, hw'⟩; rw [hw']; clear hw' w')
  go_loop [3] (fun i => i = .int .i64 0) (fun i => 0)
  case atStart => rfl
  case round =>
    obtain rfl := hrel
    go_wp2_with (first | (go_at_call 14; refine (clone_nil _).mono ?_; rintro e w' ⟨rfl, hw'⟩; rw [hw']; clear hw' w') | (go_at_call 15; refine (zzrune_nil _).mono ?_; rintro e w' ⟨rfl, hw'⟩; rw [hw']; clear hw' w'))
    go_loop [5, 8] (fun v i => v = .int .u32 0 ∧ i = .int .i64 (-1)) (fun _ i => 0)
    case atStart => exact ⟨rfl, rfl⟩
    case round =>
      obtain ⟨rfl, rfl⟩ := hrel
      go_wp2_with fail
      go_ret
      exact ⟨rfl, Below.refl _ _⟩

set_option maxHeartbeats 1000000 in
theorem value_some (w : World) (x : Addr) (cap : Nat) (zs : List Int) (hl : zs.length ≤ 65536) (hy : ∀ i, i < zs.length → 0 ≤ zs.getD i 0 ∧ zs.getD i 0 ≤ 255) (hc : ∀ i, i < zs.length → w.cell? (x.add i) = some (.int .u8 (zs.getD i 0))) :
    Calls Try.prog 5 #[.slice (some x) zs.length cap] w fun e w' => e = .returned (.bool true) ∧ Below w.heap.size w w' := by
  have Hc : Hid (∀ i, i < zs.length → w.cell? (x.add i) = some (.int .u8 (zs.getD i 0))) := hc
  have Hy : Hid (∀ i, i < zs.length → 0 ≤ zs.getD i 0 ∧ zs.getD i 0 ≤ 255) := hy
  clear hc hy
  have d1 : ¬ (65536 : Int) < (zs.length : Int) := by omega
  go_enter Try.func5, Try.ntmps5
  go_wp2_with (go_at_call 12; refine (bytes12_yes (some x) zs.length cap _ (by omega)).mono ?_; rintro e w' ⟨rfl, hw'⟩; rw [hw']; clear hw' w')
  go_loop [3] (fun i => ∃ k : Nat, k ≤ zs.length ∧ i = .int .i64 k ∧ ∀ j, j < k → 0 ≤ dig (zs.getD j 0)) (fun i => zs.length - (intOf i).toNat)
  case atStart => exact ⟨0, Nat.zero_le _, rfl, fun j hj => absurd hj (Nat.not_lt_zero _)⟩
  case round =>
    obtain ⟨k, hk, rfl, hd⟩ := hrel
    have Hd : Hid (∀ j, j < k → 0 ≤ dig (zs.getD j 0)) := hd
    clear hd
    by_cases hlt : k < zs.length
    · obtain ⟨z, hz⟩ : ∃ z, zs.getD k 0 = z := ⟨_, rfl⟩
      have q : w.cell? (x.add k) = some (.int .u8 z) := by rw [← hz]; exact Hc.out k hlt
      obtain ⟨z0, z1⟩ : 0 ≤ z ∧ z ≤ 255 := by rw [← hz]; exact Hy.out k hlt
      have Hz : Hid (zs.getD k 0 = z) := hz
      clear hz
      by_cases hneg : dig z < 0
      · go_wp2_with (go_at_call 13; refine (dig_any z _ z0 z1).mono ?_; rintro e w' ⟨rfl, hw'⟩; rw [hw']; clear hw' w')
        go_ret
        exact ⟨rfl, Below.refl _ _⟩
      · go_wp2_with (go_at_call 13; refine (dig_any z _ z0 z1).mono ?_; rintro e w' ⟨rfl, hw'⟩; rw [hw']; clear hw' w')
        go_round
        case rel =>
          refine ⟨k + 1, by omega, by go_num, fun j hj => ?_⟩
          by_cases e : j = k
          · rw [e, Hz.out]; omega
          · exact Hd.out j (by omega)
        case measure => simp [intOf]; omega
    · have HD : Hid (Digits zs) := fun i hi => ⟨(Hy.out i hi).1, (Hy.out i hi).2, Hd.out i (by omega)⟩
      go_wp2_with fail
      refine (clone_some w x cap zs (by omega) Hc.out).mono ?_
      rintro e w1 ⟨rfl, hr, hb⟩
      have HC : Hid (∀ i, i < zs.length → w1.cell? ⟨w.heap.size, i, none⟩ = some (.int .u8 (zs.getD i 0))) := fun i hi => by
        rw [hr.cell hi]; unfold copied; rw [if_pos hi]
      clear hr
      go_wp2_with fail
      refine (zzrune_some w1 ⟨w.heap.size, 0, none⟩ zs.length zs (by omega) HD.out (fun i hi => by rw [add_plain, Nat.zero_add]; exact HC.out i hi)).mono ?_
      rintro e w2 ⟨rfl, hw2⟩
      rw [hw2]
      clear hw2 w2
      go_wp2_with fail
      go_loop [5, 6, 7, 8] (fun v p n i => ∃ m : Nat, m ≤ 8 ∧ m ≤ zs.length ∧ v = .int .u32 (tl zs m) ∧ p = .int .u32 (plc m) ∧ n = .int .i64 m ∧ i = .int .i64 ((zs.length : Int) - 1 - m)) (fun _ _ n _ => 8 - (intOf n).toNat)
      case atStart => exact ⟨0, by omega, by omega, by rw [tl_zero], rfl, rfl, by go_num⟩
      case round =>
        obtain ⟨m, hm8, hml, rfl, rfl, rfl, rfl⟩ := hrel
        by_cases g1 : m < zs.length
        · by_cases g2 : m < 8
          · obtain ⟨z, hz⟩ : ∃ z, zs.getD (zs.length - 1 - m) 0 = z := ⟨_, rfl⟩
            have q : w1.cell? ⟨w.heap.size, zs.length - 1 - m, none⟩ = some (.int .u8 z) := by rw [← hz]; exact HC.out _ (by omega)
            obtain ⟨z0, z1⟩ : 0 ≤ z ∧ z ≤ 255 := by rw [← hz]; exact Hy.out _ (by omega)
            have zd : 0 ≤ dig z := by rw [← hz]; exact (HD.out _ (by omega)).2.2
            have zd' : dig z ≤ 15 := dig_le z
            obtain ⟨s1, s2, s3, s4, s5⟩ := add_step zs (fun i hi => (HD.out i hi).2.2) m g2 g1 z hz
            have Hs : Hid (tl zs m + dig z * plc m = tl zs (m + 1)) := s3
            have Hz : Hid (zs.getD (zs.length - 1 - m) 0 = z) := hz
            clear hz s3
            go_wp2_with (go_at_call 13; refine (dig_any z _ z0 z1).mono ?_; rintro e w' ⟨rfl, hw'⟩; rw [hw']; clear hw' w')
            go_round
            case rel => exact ⟨m + 1, by omega, by omega, by rw [← Hs.out], by rw [plc_succ], by go_num, by go_num⟩
            case measure => simp [intOf]; omega
          · have e8 : m = 8 := by omega
            subst e8
            have he : (wrap32 (val zs) == wrap32 (tl zs 8)) = true := by rw [val_tl8 zs hml]; simp
            go_wp2_with fail
            go_ret
            exact ⟨rfl, hb⟩
        · have he : (wrap32 (val zs) == wrap32 (tl zs m)) = true := by rw [tl_all zs m (by omega)]; simp
          have hneg : decide ((0 : Int) ≤ (zs.length : Int) - 1 - (m : Int)) = false := decide_eq_false (by omega)
          go_wp2_with fail
          go_ret
          exact ⟨rfl, hb⟩

/-! ### From what came in -/
/-- WHAT THE SHELL's 'IsRow .u8' SAYS, written out. -/
def Came (w : World) (a : Option Addr) (len cap : Nat) (zs : List Int) : Prop :=
  (a = none ∧ len = 0 ∧ cap = 0 ∧ zs = []) ∨
  ∃ x, a = some x ∧ len ≤ cap ∧ cap ≤ maxLen ∧ zs.length = cap ∧ (∀ i, i < zs.length → w.cell? (x.add i) = some (.int .u8 (zs.getD i 0))) ∧ ∀ n ∈ zs, (Lit.int .u8 n).wf = true
/-- Nil, or the elements, each a byte. -/
theorem Came.parts {w : World} {a : Option Addr} {len cap : Nat} {zs : List Int} (h : Came w a len cap zs) : (a = none ∧ len = 0 ∧ cap = 0) ∨
    ∃ (x : Addr) (ys : List Int), a = some x ∧ len = ys.length ∧ (∀ i, i < ys.length → 0 ≤ ys.getD i 0 ∧ ys.getD i 0 ≤ 255) ∧ ∀ i, i < ys.length → w.cell? (x.add i) = some (.int .u8 (ys.getD i 0)) := by
  rcases h with ⟨h1, h2, h3, _⟩ | ⟨x, rfl, h1, _, h3, h4, h5⟩
  · exact .inl ⟨h1, h2, h3⟩
  · right
    have hlen : (zs.take len).length = len := by rw [List.length_take]; omega
    have hg : ∀ i, i < len → (zs.take len).getD i 0 = zs.getD i 0 := fun i hi => by
      rw [List.getD_eq_getElem?_getD, List.getD_eq_getElem?_getD, List.getElem?_take_of_lt hi]
    refine ⟨x, zs.take len, rfl, hlen.symm, fun i hi => ?_, fun i hi => ?_⟩
    · rw [hlen] at hi
      rw [hg i hi]
      have hi' : i < zs.length := by omega
      rw [List.getD_eq_getElem?_getD, List.getElem?_eq_getElem hi']
      exact bounds_u8 (h5 _ (List.getElem_mem hi'))
    · rw [hlen] at hi
      rw [hg i hi, h4 i (by omega)]

theorem valueOfDigits (a : Option Addr) (len cap : Nat) (zs : List Int) (w : World) (h : Came w a len cap zs) :
    Calls Try.prog 5 #[.slice a len cap] w fun e w' => e = .returned (.bool true) ∧ Below w.heap.size w w' := by
  by_cases h1 : 1048576 < len
  · exact value_long a len cap w h1
  by_cases h2 : (65536 : Int) < (len : Int)
  · exact value_wide a len cap w (by omega) h2
  rcases h.parts with ⟨rfl, rfl, rfl⟩ | ⟨x, ys, rfl, rfl, hy, hc⟩
  · exact value_nil w
  · exact value_some w x cap ys (by omega) hy hc

end Go.Proofs.Qxb6603409a
