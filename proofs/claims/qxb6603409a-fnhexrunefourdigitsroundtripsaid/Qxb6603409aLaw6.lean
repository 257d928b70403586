import Derived.Test.Qxb6603409aLaw5
namespace Go.Proofs.Qxb6603409a
open Go.ChangeShapes Go.WideShapes Go.ChangeAt Go.RowKit
set_option linter.unusedVariables false

/-! ### lowerHexDigit (func 17) -/
def lowd (d : Int) : Int := if d < 10 then 48 + d else 97 + d - 10
theorem lowd_any (d : Int) (w : World) (h0 : 0 ≤ d) (h1 : d ≤ 15) : Calls Try.prog 17 #[.int .i64 d] w fun e w' => e = .returned (.int .u8 (lowd d)) ∧ w' = w := by
  unfold lowd
  by_cases h : d < 10
  · rw [if_pos h]
    go_enter Try.func17, Try.ntmps17
    go_wp2
    go_ret
    exact ⟨rfl, rfl⟩
  · rw [if_neg h]
    go_enter Try.func17, Try.ntmps17
    go_wp2
    go_ret
    exact ⟨rfl, rfl⟩

theorem lowd_up (z : Int) (h1 : 65 ≤ z) (h2 : z ≤ 70) : lowd (dig z) = z + 32 := by
  unfold lowd dig
  rw [if_neg (by omega : ¬ (48 ≤ z ∧ z ≤ 57)), if_neg (by omega : ¬ (97 ≤ z ∧ z ≤ 102)), if_pos (⟨h1, h2⟩ : 65 ≤ z ∧ z ≤ 70), if_neg (by omega)]
  omega
theorem lowd_other (z : Int) (hd : 0 ≤ dig z) (h : ¬ (65 ≤ z ∧ z ≤ 70)) : lowd (dig z) = z := by
  by_cases a : z ≤ 57
  · obtain ⟨_, e⟩ := dig_lo z hd a
    rw [e]; unfold lowd; rw [if_pos (by omega)]; omega
  · by_cases b : z ≤ 70
    · obtain ⟨_, _⟩ := dig_up z hd a b; omega
    · obtain ⟨_, _, e⟩ := dig_sm z hd a b
      rw [e]; unfold lowd; rw [if_neg (by omega)]; omega

theorem val_bound (zs : List Int) (hz : Digits zs) (h : zs.length = 4) (k : Nat) (hk : k ≤ 4) : 0 ≤ val (zs.take k) ∧ val (zs.take k) ≤ 65535 := by
  have v0 : val (zs.take 0) = 0 := by rw [List.take_zero]; rfl
  have d0 := (hz 0 (by omega)).2.2
  have d1 := (hz 1 (by omega)).2.2
  have d2 := (hz 2 (by omega)).2.2
  have d3 := (hz 3 (by omega)).2.2
  have e0 := dig_le (zs.getD 0 0)
  have e1 := dig_le (zs.getD 1 0)
  have e2 := dig_le (zs.getD 2 0)
  have e3 := dig_le (zs.getD 3 0)
  have v1 := val_take zs 0 (by omega)
  have v2 := val_take zs 1 (by omega)
  have v3 := val_take zs 2 (by omega)
  have v4 := val_take zs 3 (by omega)
  simp only [Nat.zero_add, Nat.reduceAdd] at v1 v2 v3 v4
  match k, hk with
  | 0, _ => omega
  | 1, _ => omega
  | 2, _ => omega
  | 3, _ => omega
  | 4, _ => omega

/-! ### FnHexRuneFourDigitsRoundTrip (func 6) -/
set_option maxHeartbeats 400000 in
theorem four_long (a : Option Addr) (l c : Nat) (w : World) (h : 1048576 < l) : Calls Try.prog 6 #[.slice a l c] w fun e w' => e = .returned (.bool true) ∧ Below w.heap.size w w' := by
  have H : Hid (1048576 < l) := h
  clear h
  go_enter Try.func6, Try.ntmps6
  go_wp2_with (go_at_call 16; refine (bytes16_no a l c _ H.out).mono ?_; rintro e w' ⟨rfl, rfl⟩)
  go_ret
  exact ⟨rfl, Below.refl _ _⟩

set_option maxHeartbeats 400000 in
theorem four_other (a : Option Addr) (l c : Nat) (w : World) (h : l ≤ 1048576) (hd : ((l : Int) != 4) = true) : Calls Try.prog 6 #[.slice a l c] w fun e w' => e = .returned (.bool true) ∧ Below w.heap.size w w' := by
  have H : Hid (l ≤ 1048576) := h
  clear h
  go_enter Try.func6, Try.ntmps6
  go_wp2_with (go_at_call 16; refine (bytes16_yes a l c _ H.out).mono ?_; rintro e w' ⟨rfl, rfl⟩)
  go_ret
  exact ⟨rfl, Below.refl _ _⟩

set_option maxHeartbeats 1000000 in
theorem four_some (w : World) (x : Addr) (cap n : Nat) (zs : List Int) (hn : n = 4) (hl : zs.length = n) (hy : ∀ i, i < zs.length → 0 ≤ zs.getD i 0 ∧ zs.getD i 0 ≤ 255) (hc : ∀ i, i < zs.length → w.cell? (x.add i) = some (.int .u8 (zs.getD i 0))) :
    Calls Try.prog 6 #[.slice (some x) n cap] w fun e w' => e = .returned (.bool true) ∧ Below w.heap.size w w' := by
  have Hc : Hid (∀ i, i < zs.length → w.cell? (x.add i) = some (.int .u8 (zs.getD i 0))) := hc
  have Hy : Hid (∀ i, i < zs.length → 0 ≤ zs.getD i 0 ∧ zs.getD i 0 ≤ 255) := hy
  have Hl : Hid (zs.length = n) := hl
  have Hn : Hid (n = 4) := hn
  have n1 : 4 ≤ n := by omega
  have n2 : n ≤ 4 := by omega
  have n3 : ((n : Int) != 4) = false := by rw [hn]; rfl
  clear hc hy hl hn
  go_enter Try.func6, Try.ntmps6
  go_wp2_with (go_at_call 16; refine (bytes16_yes (some x) n cap _ (by omega)).mono ?_; rintro e w' ⟨rfl, hw'⟩; rw [hw']; clear hw' w')
  go_loop [3] (fun i => ∃ k : Nat, k ≤ n ∧ i = .int .i64 k ∧ ∀ j, j < k → 0 ≤ dig (zs.getD j 0)) (fun i => n - (intOf i).toNat)
  case atStart => exact ⟨0, Nat.zero_le _, rfl, fun j hj => absurd hj (Nat.not_lt_zero _)⟩
  case round =>
    obtain ⟨k, hk, rfl, hd⟩ := hrel
    have Hd : Hid (∀ j, j < k → 0 ≤ dig (zs.getD j 0)) := hd
    clear hd
    by_cases hlt : k < n
    · obtain ⟨z, hz⟩ : ∃ z, zs.getD k 0 = z := ⟨_, rfl⟩
      have q : w.cell? (x.add k) = some (.int .u8 z) := by rw [← hz]; exact Hc.out k (by rw [Hl.out]; exact hlt)
      obtain ⟨z0, z1⟩ : 0 ≤ z ∧ z ≤ 255 := by rw [← hz]; exact Hy.out k (by rw [Hl.out]; exact hlt)
      have Hz : Hid (zs.getD k 0 = z) := hz
      clear hz
      by_cases hneg : dig z < 0
      · go_wp2_with (go_at_call 13; refine (dig_any z _ z0 z1).mono ?_; rintro e w' ⟨rfl, hw'⟩; rw [hw']; clear hw' w')
        go_ret
        exact ⟨rfl, Below.refl _ _⟩
      · go_wp2_with (go_at_call 13; refine (dig_any z _ z0 z1).mono ?_; rintro e w' ⟨rfl, hw'⟩; rw [hw']; clear hw' w')
        go_round
        case rel =>
          refine ⟨k + 1, by omega, by go_num, fun j hj => ?_⟩
          by_cases e : j = k
          · rw [e, Hz.out]; omega
          · exact Hd.out j (by omega)
        case measure => simp [intOf]; omega
    · have HD : Hid (Digits zs) := fun i hi => ⟨(Hy.out i hi).1, (Hy.out i hi).2, Hd.out i (by have := Hl.out; omega)⟩
      go_wp2_with fail
      have cl := clone_some w x cap zs (by rw [Hl.out]; omega) Hc.out
      rw [Hl.out] at cl
      refine cl.mono ?_
      clear cl
      rintro e w1 ⟨rfl, hr, hb⟩
      have HC : Hid (∀ i, i < n → w1.cell? ⟨w.heap.size, i, none⟩ = some (.int .u8 (zs.getD i 0))) := fun i hi => by
        rw [hr.cell hi]; unfold copied; rw [if_pos hi]
      clear hr
      go_wp2_with fail
      have zr := zzrune_some w1 ⟨w.heap.size, 0, none⟩ n zs (by rw [Hl.out]; omega) HD.out (fun i hi => by rw [add_plain, Nat.zero_add]; exact HC.out i (by rw [← Hl.out]; exact hi))
      have hv := val_bound zs HD.out (Hl.out.trans Hn.out) 4 (Nat.le_refl _)
      rw [List.take_of_length_le (by rw [Hl.out]; omega)] at hv
      obtain ⟨v0, v1⟩ := hv
      rw [Hl.out, IntWalk.wrap32_in (val zs) ⟨by omega, by omega⟩] at zr
      refine zr.mono ?_
      clear zr
      rintro e w2 ⟨rfl, hw2⟩
      rw [hw2]
      clear hw2 w2
      go_wp2_with fail
      go_loop [5, 6] (fun v i => ∃ m : Nat, m ≤ 4 ∧ v = .int .i64 (val (zs.take (4 - m))) ∧ i = .int .i64 (3 - (m : Int))) (fun _ i => (intOf i + 1).toNat)
      case atStart => exact ⟨0, by omega, by rw [List.take_of_length_le (by rw [Hl.out]; omega)], rfl⟩
      case round =>
        clear v0 v1
        obtain ⟨m, hm, rfl, rfl⟩ := hrel
        by_cases g : m < 4
        · obtain ⟨z, hz⟩ : ∃ z, zs.getD (3 - m) 0 = z := ⟨_, rfl⟩
          have q : w1.cell? ⟨w.heap.size, 3 - m, none⟩ = some (.int .u8 z) := by rw [← hz]; exact HC.out _ (by omega)
          obtain ⟨z0, z1, zd⟩ : 0 ≤ z ∧ z ≤ 255 ∧ 0 ≤ dig z := by rw [← hz]; exact HD.out _ (by rw [Hl.out]; omega)
          obtain ⟨b0, b1⟩ := val_bound zs HD.out (Hl.out.trans Hn.out) (4 - m) (by omega)
          have hstep : val (zs.take (4 - m)) = 16 * val (zs.take (3 - m)) + dig z := by
            have h := val_take zs (3 - m) (by rw [Hl.out]; omega)
            rwa [hz, show 3 - m + 1 = 4 - m from by omega] at h
          have hdl := dig_le z
          obtain ⟨V, hV⟩ : ∃ V, val (zs.take (4 - m)) = V := ⟨_, rfl⟩
          rw [hV] at b0 b1 hstep ⊢
          have hm16 : V % 16 = dig z := by omega
          have hq16 : V / 16 = val (zs.take (3 - m)) := by omega
          have Hq : Hid (V / 16 = val (zs.take (3 - m))) := hq16
          have Hm : Hid (V % 16 = dig z) := hm16
          have HZd : Hid (0 ≤ dig z) := zd
          clear hq16 hm16 hstep hdl hV hz zd
          by_cases u1 : 65 ≤ z
          · by_cases u2 : z ≤ 70
            · have he : ((z + 32) != lowd (V % 16)) = false := by rw [Hm.out, lowd_up z u1 u2]; simp
              go_wp2_with (go_at_call 17; refine (lowd_any (V % 16) _ (by omega) (by omega)).mono ?_; rintro e w' ⟨rfl, hw'⟩; rw [hw']; clear hw' w')
              go_round
              case rel => exact ⟨m + 1, by omega, by rw [Hq.out, show 4 - (m + 1) = 3 - m from by omega], by go_num⟩
              case measure => simp [intOf]; omega
            · have he : (z != lowd (V % 16)) = false := by rw [Hm.out, lowd_other z HZd.out (by omega)]; simp
              go_wp2_with (go_at_call 17; refine (lowd_any (V % 16) _ (by omega) (by omega)).mono ?_; rintro e w' ⟨rfl, hw'⟩; rw [hw']; clear hw' w')
              go_round
              case rel => exact ⟨m + 1, by omega, by rw [Hq.out, show 4 - (m + 1) = 3 - m from by omega], by go_num⟩
              case measure => simp [intOf]; omega
          · have he : (z != lowd (V % 16)) = false := by rw [Hm.out, lowd_other z HZd.out (by omega)]; simp
            have d1 : decide ((65 : Int) ≤ z) = false := decide_eq_false u1
            go_wp2_with (go_at_call 17; refine (lowd_any (V % 16) _ (by omega) (by omega)).mono ?_; rintro e w' ⟨rfl, hw'⟩; rw [hw']; clear hw' w')
            go_round
            case rel => exact ⟨m + 1, by omega, by rw [Hq.out, show 4 - (m + 1) = 3 - m from by omega], by go_num⟩
            case measure => simp [intOf]; omega
        · go_wp2_with fail
          go_ret
          exact ⟨rfl, hb⟩

theorem fourDigits (a : Option Addr) (len cap : Nat) (zs : List Int) (w : World) (h : Came w a len cap zs) :
    Calls Try.prog 6 #[.slice a len cap] w fun e w' => e = .returned (.bool true) ∧ Below w.heap.size w w' := by
  by_cases h1 : 1048576 < len
  · exact four_long a len cap w h1
  by_cases h2 : len = 4
  · rcases h.parts with ⟨rfl, rfl, rfl⟩ | ⟨x, ys, rfl, e, hy, hc⟩
    · exact absurd h2 (by decide)
    · exact four_some w x cap len ys h2 e.symm hy hc
  · exact four_other a len cap w (by omega) (by rw [bne_iff_ne]; omega)

end Go.Proofs.Qxb6603409a
