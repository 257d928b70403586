import Derived.Test.Qxb6602843aReq3
namespace Go.Proofs.Qxb6602843a
open Go.ChangeShapes Go.WideShapes Go.ChangeAt Go.RowKit
set_option linter.unusedVariables false

theorem Row.drewN {w : World} {v : Value} {o : Option (List Int)} (h : Row w v o) (n : Nat) : Row (w.drewN n) v o :=
  h.below (below_drewN (Below.refl _ _) n)

/-! ### tsigIs -/
set_option maxHeartbeats 1000000 in
theorem tsigis_yes (t : Nat) (k al : ByteArray) (ts fu oid rc : Int) (a5 a8 b5 b8 : Option Addr) (l5 c5 l8 c8 m5 d5 m8 d8 : Nat) (o5 o8 : Option (List Int)) (w : World)
    (ht : Tsig w t 0 k al ts fu oid rc (.slice a5 l5 c5) (.slice a8 l8 c8))
    (r5 : Row w (.slice a5 l5 c5) o5) (r8 : Row w (.slice a8 l8 c8) o8) (s5 : Row w (.slice b5 m5 d5) o5) (s8 : Row w (.slice b8 m8 d8) o8) :
    Calls Try.prog 18 #[.pointer (some ⟨t, 0, none⟩), .string k, .string al, .int .u64 ts, .int .u16 fu, .slice b5 m5 d5, .int .u16 oid, .int .u16 rc, .slice b8 m8 d8] w fun e w' => e = .returned (.bool true) ∧ ∃ n, w' = w.drewN n := by
  obtain ⟨t0, t1, t2, t3, t4, t5, t6, t7⟩ := ht
  simp only [Nat.zero_add] at t1 t2 t3 t4 t5 t6 t7
  go_enter Try.func18, Try.ntmps18
  go_wp2_with fail
  refine (same_any _ _ _ o5 r5 s5).mono ?_
  rintro e w1 ⟨rfl, n, rfl⟩
  go_wp2_with fail
  refine (same_any _ _ _ o8 (r8.drewN n) (s8.drewN n)).mono ?_
  rintro e w1 ⟨rfl, n', rfl⟩
  go_wp2_with fail
  go_ret
  exact ⟨rfl, _, rfl⟩


/-! ### the bound on the total length (func 14) -/
set_option maxHeartbeats 400000 in
theorem bytes14_yes (sg : Bool) (k al : ByteArray) (ts fu oid rc ad rs : Int) (a5 a8 a9 : Option Addr) (l5 c5 l8 c8 l9 c9 : Nat) (w : World) (h : k.size + al.size + l5 + l8 + l9 ≤ 1048576) :
    Calls Try.prog 14 #[.bool sg, .string k, .string al, .int .u64 ts, .int .u16 fu, .slice a5 l5 c5, .int .u16 oid, .int .u16 rc, .slice a8 l8 c8, .slice a9 l9 c9, .int .u16 ad, .int .u8 rs] w fun e w' => e = .returned (.bool true) ∧ w' = w := by
  have h1 : ¬ (1048576 : Int) < (k.size : Int) := by omega
  have h2 : ¬ (1048576 : Int) < (al.size : Int) := by omega
  have h3 : ¬ (1048576 : Int) < (l5 : Int) := by omega
  have h4 : ¬ (1048576 : Int) < (l8 : Int) := by omega
  have h5 : ¬ (1048576 : Int) < (l9 : Int) := by omega
  have s2 : ¬ (1048576 : Int) < (k.size : Int) + (al.size : Int) := by omega
  have s3 : ¬ (1048576 : Int) < (k.size : Int) + (al.size : Int) + (l5 : Int) := by omega
  have s4 : ¬ (1048576 : Int) < (k.size : Int) + (al.size : Int) + (l5 : Int) + (l8 : Int) := by omega
  have s5 : ¬ (1048576 : Int) < (k.size : Int) + (al.size : Int) + (l5 : Int) + (l8 : Int) + (l9 : Int) := by omega
  clear h
  go_enter Try.func14, Try.ntmps14
  go_wp2
  go_ret
  exact ⟨rfl, rfl⟩

set_option maxHeartbeats 1000000 in
theorem bytes14_no (sg : Bool) (k al : ByteArray) (ts fu oid rc ad rs : Int) (a5 a8 a9 : Option Addr) (l5 c5 l8 c8 l9 c9 : Nat) (w : World) (hk : k.size ≤ maxLen) (ha : al.size ≤ maxLen) (b5 : l5 ≤ maxLen) (b8 : l8 ≤ maxLen) (b9 : l9 ≤ maxLen) (h : 1048576 < k.size + al.size + l5 + l8 + l9) :
    Calls Try.prog 14 #[.bool sg, .string k, .string al, .int .u64 ts, .int .u16 fu, .slice a5 l5 c5, .int .u16 oid, .int .u16 rc, .slice a8 l8 c8, .slice a9 l9 c9, .int .u16 ad, .int .u8 rs] w fun e w' => e = .returned (.bool false) ∧ w' = w := by
  unfold maxLen at hk ha b5 b8 b9
  by_cases h1 : (1048576 : Int) < (k.size : Int)
  · clear h
    go_enter Try.func14, Try.ntmps14
    go_wp2
    go_ret
    exact ⟨rfl, rfl⟩
  by_cases h2 : (1048576 : Int) < (al.size : Int)
  · clear h
    go_enter Try.func14, Try.ntmps14
    go_wp2
    go_ret
    exact ⟨rfl, rfl⟩
  by_cases s2 : (1048576 : Int) < (k.size : Int) + (al.size : Int)
  · clear h
    go_enter Try.func14, Try.ntmps14
    go_wp2
    go_ret
    exact ⟨rfl, rfl⟩
  by_cases h3 : (1048576 : Int) < (l5 : Int)
  · clear h
    go_enter Try.func14, Try.ntmps14
    go_wp2
    go_ret
    exact ⟨rfl, rfl⟩
  by_cases s3 : (1048576 : Int) < (k.size : Int) + (al.size : Int) + (l5 : Int)
  · clear h
    go_enter Try.func14, Try.ntmps14
    go_wp2
    go_ret
    exact ⟨rfl, rfl⟩
  by_cases h4 : (1048576 : Int) < (l8 : Int)
  · clear h
    go_enter Try.func14, Try.ntmps14
    go_wp2
    go_ret
    exact ⟨rfl, rfl⟩
  by_cases s4 : (1048576 : Int) < (k.size : Int) + (al.size : Int) + (l5 : Int) + (l8 : Int)
  · clear h
    go_enter Try.func14, Try.ntmps14
    go_wp2
    go_ret
    exact ⟨rfl, rfl⟩
  by_cases h5 : (1048576 : Int) < (l9 : Int)
  · clear h
    go_enter Try.func14, Try.ntmps14
    go_wp2
    go_ret
    exact ⟨rfl, rfl⟩
  have s5 : (1048576 : Int) < (k.size : Int) + (al.size : Int) + (l5 : Int) + (l8 : Int) + (l9 : Int) := by omega
  clear h
  go_enter Try.func14, Try.ntmps14
  go_wp2
  go_ret
  exact ⟨rfl, rfl⟩

/-! ### the bound on the total length (func 19) -/
set_option maxHeartbeats 400000 in
theorem bytes19_yes (sg : Bool) (k al : ByteArray) (ts fu oid rc ad rs : Int) (a5 a8 a9 : Option Addr) (l5 c5 l8 c8 l9 c9 : Nat) (w : World) (h : k.size + al.size + l5 + l8 + l9 ≤ 1048576) :
    Calls Try.prog 19 #[.bool sg, .string k, .string al, .int .u64 ts, .int .u16 fu, .slice a5 l5 c5, .int .u16 oid, .int .u16 rc, .slice a8 l8 c8, .slice a9 l9 c9, .int .u16 ad, .int .u8 rs] w fun e w' => e = .returned (.bool true) ∧ w' = w := by
  have h1 : ¬ (1048576 : Int) < (k.size : Int) := by omega
  have h2 : ¬ (1048576 : Int) < (al.size : Int) := by omega
  have h3 : ¬ (1048576 : Int) < (l5 : Int) := by omega
  have h4 : ¬ (1048576 : Int) < (l8 : Int) := by omega
  have h5 : ¬ (1048576 : Int) < (l9 : Int) := by omega
  have s2 : ¬ (1048576 : Int) < (k.size : Int) + (al.size : Int) := by omega
  have s3 : ¬ (1048576 : Int) < (k.size : Int) + (al.size : Int) + (l5 : Int) := by omega
  have s4 : ¬ (1048576 : Int) < (k.size : Int) + (al.size : Int) + (l5 : Int) + (l8 : Int) := by omega
  have s5 : ¬ (1048576 : Int) < (k.size : Int) + (al.size : Int) + (l5 : Int) + (l8 : Int) + (l9 : Int) := by omega
  clear h
  go_enter Try.func19, Try.ntmps19
  go_wp2
  go_ret
  exact ⟨rfl, rfl⟩

set_option maxHeartbeats 1000000 in
theorem bytes19_no (sg : Bool) (k al : ByteArray) (ts fu oid rc ad rs : Int) (a5 a8 a9 : Option Addr) (l5 c5 l8 c8 l9 c9 : Nat) (w : World) (hk : k.size ≤ maxLen) (ha : al.size ≤ maxLen) (b5 : l5 ≤ maxLen) (b8 : l8 ≤ maxLen) (b9 : l9 ≤ maxLen) (h : 1048576 < k.size + al.size + l5 + l8 + l9) :
    Calls Try.prog 19 #[.bool sg, .string k, .string al, .int .u64 ts, .int .u16 fu, .slice a5 l5 c5, .int .u16 oid, .int .u16 rc, .slice a8 l8 c8, .slice a9 l9 c9, .int .u16 ad, .int .u8 rs] w fun e w' => e = .returned (.bool false) ∧ w' = w := by
  unfold maxLen at hk ha b5 b8 b9
  by_cases h1 : (1048576 : Int) < (k.size : Int)
  · clear h
    go_enter Try.func19, Try.ntmps19
    go_wp2
    go_ret
    exact ⟨rfl, rfl⟩
  by_cases h2 : (1048576 : Int) < (al.size : Int)
  · clear h
    go_enter Try.func19, Try.ntmps19
    go_wp2
    go_ret
    exact ⟨rfl, rfl⟩
  by_cases s2 : (1048576 : Int) < (k.size : Int) + (al.size : Int)
  · clear h
    go_enter Try.func19, Try.ntmps19
    go_wp2
    go_ret
    exact ⟨rfl, rfl⟩
  by_cases h3 : (1048576 : Int) < (l5 : Int)
  · clear h
    go_enter Try.func19, Try.ntmps19
    go_wp2
    go_ret
    exact ⟨rfl, rfl⟩
  by_cases s3 : (1048576 : Int) < (k.size : Int) + (al.size : Int) + (l5 : Int)
  · clear h
    go_enter Try.func19, Try.ntmps19
    go_wp2
    go_ret
    exact ⟨rfl, rfl⟩
  by_cases h4 : (1048576 : Int) < (l8 : Int)
  · clear h
    go_enter Try.func19, Try.ntmps19
    go_wp2
    go_ret
    exact ⟨rfl, rfl⟩
  by_cases s4 : (1048576 : Int) < (k.size : Int) + (al.size : Int) + (l5 : Int) + (l8 : Int)
  · clear h
    go_enter Try.func19, Try.ntmps19
    go_wp2
    go_ret
    exact ⟨rfl, rfl⟩
  by_cases h5 : (1048576 : Int) < (l9 : Int)
  · clear h
    go_enter Try.func19, Try.ntmps19
    go_wp2
    go_ret
    exact ⟨rfl, rfl⟩
  have s5 : (1048576 : Int) < (k.size : Int) + (al.size : Int) + (l5 : Int) + (l8 : Int) + (l9 : Int) := by omega
  clear h
  go_enter Try.func19, Try.ntmps19
  go_wp2
  go_ret
  exact ⟨rfl, rfl⟩

end Go.Proofs.Qxb6602843a
