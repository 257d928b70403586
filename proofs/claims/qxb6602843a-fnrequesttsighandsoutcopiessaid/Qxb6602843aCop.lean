import Derived.Test.Qxb6602843aReq5
import Derived.RegionTactic
import Derived.BigRegion
namespace Go.Proofs.Qxb6602843a
open Go.ChangeShapes Go.WideShapes Go.ChangeAt Go.RowKit
set_option linter.unusedVariables false
set_option maxRecDepth 100000

set_option maxHeartbeats 400000 in
theorem cop_long (sg : Bool) (k al : ByteArray) (ts fu oid rc ad rs : Int) (a5 a8 a9 : Option Addr) (l5 c5 l8 c8 l9 c9 : Nat) (w : World) (hk : k.size ≤ maxLen) (ha : al.size ≤ maxLen) (b5 : l5 ≤ maxLen) (b8 : l8 ≤ maxLen) (b9 : l9 ≤ maxLen) (h : 1048576 < k.size + al.size + l5 + l8 + l9) :
    Calls Try.prog 8 #[.bool sg, .string k, .string al, .int .u64 ts, .int .u16 fu, .slice a5 l5 c5, .int .u16 oid, .int .u16 rc, .slice a8 l8 c8, .slice a9 l9 c9, .int .u16 ad, .int .u8 rs] w fun e w' => e = .returned (.bool true) ∧ Below w.heap.size w w' := by
  have H : Hid (1048576 < k.size + al.size + l5 + l8 + l9) := h
  clear h
  go_enter Try.func8, Try.ntmps8
  go_wp2_with (go_at_call 19; refine (bytes19_no sg k al ts fu oid rc ad rs a5 a8 a9 l5 c5 l8 c8 l9 c9 _ hk ha b5 b8 b9 H.out).mono ?_; rintro e w' ⟨rfl, rfl⟩)
  go_ret
  exact ⟨rfl, Below.refl _ _⟩

set_option maxHeartbeats 1000000 in
theorem cop_wide (sg : Bool) (k al : ByteArray) (ts fu oid rc ad rs : Int) (a5 a8 a9 : Option Addr) (l5 c5 l8 c8 l9 c9 : Nat) (w : World) (h : k.size + al.size + l5 + l8 + l9 ≤ 1048576) (hd : (131072 : Int) < (k.size : Int) ∨ (131072 : Int) < (al.size : Int) ∨ (131072 : Int) < (l5 : Int) ∨ (131072 : Int) < (l8 : Int) ∨ (131072 : Int) < (l9 : Int)) :
    Calls Try.prog 8 #[.bool sg, .string k, .string al, .int .u64 ts, .int .u16 fu, .slice a5 l5 c5, .int .u16 oid, .int .u16 rc, .slice a8 l8 c8, .slice a9 l9 c9, .int .u16 ad, .int .u8 rs] w fun e w' => e = .returned (.bool true) ∧ Below w.heap.size w w' := by
  have H : Hid (k.size + al.size + l5 + l8 + l9 ≤ 1048576) := h
  clear h
  by_cases d1 : (131072 : Int) < (k.size : Int)
  · clear hd
    go_enter Try.func8, Try.ntmps8
    go_wp2_with (go_at_call 19; refine (bytes19_yes sg k al ts fu oid rc ad rs a5 a8 a9 l5 c5 l8 c8 l9 c9 _ H.out).mono ?_; rintro e w' ⟨rfl, rfl⟩)
    go_ret
    exact ⟨rfl, Below.refl _ _⟩
  by_cases d2 : (131072 : Int) < (al.size : Int)
  · clear hd
    go_enter Try.func8, Try.ntmps8
    go_wp2_with (go_at_call 19; refine (bytes19_yes sg k al ts fu oid rc ad rs a5 a8 a9 l5 c5 l8 c8 l9 c9 _ H.out).mono ?_; rintro e w' ⟨rfl, rfl⟩)
    go_ret
    exact ⟨rfl, Below.refl _ _⟩
  by_cases d3 : (131072 : Int) < (l5 : Int)
  · clear hd
    go_enter Try.func8, Try.ntmps8
    go_wp2_with (go_at_call 19; refine (bytes19_yes sg k al ts fu oid rc ad rs a5 a8 a9 l5 c5 l8 c8 l9 c9 _ H.out).mono ?_; rintro e w' ⟨rfl, rfl⟩)
    go_ret
    exact ⟨rfl, Below.refl _ _⟩
  by_cases d4 : (131072 : Int) < (l8 : Int)
  · clear hd
    go_enter Try.func8, Try.ntmps8
    go_wp2_with (go_at_call 19; refine (bytes19_yes sg k al ts fu oid rc ad rs a5 a8 a9 l5 c5 l8 c8 l9 c9 _ H.out).mono ?_; rintro e w' ⟨rfl, rfl⟩)
    go_ret
    exact ⟨rfl, Below.refl _ _⟩
  have d5 : (131072 : Int) < (l9 : Int) := by omega
  clear hd
  go_enter Try.func8, Try.ntmps8
  go_wp2_with (go_at_call 19; refine (bytes19_yes sg k al ts fu oid rc ad rs a5 a8 a9 l5 c5 l8 c8 l9 c9 _ H.out).mono ?_; rintro e w' ⟨rfl, rfl⟩)
  go_ret
  exact ⟨rfl, Below.refl _ _⟩

set_option maxHeartbeats 2000000 in
theorem cop_no (k al : ByteArray) (ts fu oid rc ad rs : Int) (a5 a8 a9 : Option Addr) (l5 c5 l8 c8 l9 c9 : Nat) (w : World) (o5 o8 o9 : Option (List Int)) (h : k.size + al.size + l5 + l8 + l9 ≤ 1048576)
    (hd : k.size ≤ 131072 ∧ al.size ≤ 131072 ∧ l5 ≤ 131072 ∧ l8 ≤ 131072 ∧ l9 ≤ 131072) (r5 : Row w (.slice a5 l5 c5) o5) (r8 : Row w (.slice a8 l8 c8) o8) (r9 : Row w (.slice a9 l9 c9) o9) :
    Calls Try.prog 8 #[.bool false, .string k, .string al, .int .u64 ts, .int .u16 fu, .slice a5 l5 c5, .int .u16 oid, .int .u16 rc, .slice a8 l8 c8, .slice a9 l9 c9, .int .u16 ad, .int .u8 rs] w fun e w' => e = .returned (.bool true) ∧ Below w.heap.size w w' := by
  have H : Hid (k.size + al.size + l5 + l8 + l9 ≤ 1048576) := h
  have d1 : ¬ (131072 : Int) < (k.size : Int) := by omega
  have d2 : ¬ (131072 : Int) < (al.size : Int) := by omega
  have d3 : ¬ (131072 : Int) < (l5 : Int) := by omega
  have d4 : ¬ (131072 : Int) < (l8 : Int) := by omega
  have d5 : ¬ (131072 : Int) < (l9 : Int) := by omega
  clear h hd
  go_enter Try.func8, Try.ntmps8
  go_wp2_with (go_at_call 19; refine (bytes19_yes false k al ts fu oid rc ad rs a5 a8 a9 l5 c5 l8 c8 l9 c9 _ H.out).mono ?_; rintro e w' ⟨rfl, hw'⟩; rw [hw']; clear hw' w')
  refine (clone_any _ _ o5 r5).mono ?_
  rintro e w1 ⟨x5, n5, e5, rfl, q5, hb1⟩
  go_wp2_with fail
  refine (clone_any _ _ o8 (r8.below hb1)).mono ?_
  rintro e w2 ⟨x8, n8, e8, rfl, q8, hb2⟩
  go_wp2_with fail
  refine (clone_any _ _ o9 ((r9.below hb1).below hb2)).mono ?_
  rintro e w3 ⟨x9, n9, e9, rfl, q9, hb3⟩
  have B3 : Below w.heap.size w w3 := (hb1.trans (hb2.mono hb1.size)).trans (hb3.mono (Nat.le_trans hb1.size hb2.size))
  have p5 : Row w3 (.slice x5 n5 e5) o5 := (q5.below hb2).below hb3
  have p8 : Row w3 (.slice x8 n8 e8) o8 := q8.below hb3
  clear q5 q8 q9 r5 r8 r9 hb1 hb2 hb3
  go_wp2_with fail
  refine (clone_any _ _ o5 p5).mono ?_
  rintro e w4 ⟨y5, i5, j5, rfl, s5, hb4⟩
  go_wp2_with fail
  refine (clone_any _ _ o8 (p8.below hb4)).mono ?_
  rintro e w5 ⟨y8, i8, j8, rfl, s8, hb5⟩
  have B5 : Below w.heap.size w w5 := (B3.trans (hb4.mono B3.size)).trans (hb5.mono (Nat.le_trans B3.size hb4.size))
  have P5 : Row w5 (.slice x5 n5 e5) o5 := (p5.below hb4).below hb5
  have P8 : Row w5 (.slice x8 n8 e8) o8 := (p8.below hb4).below hb5
  have S5 : Row w5 (.slice y5 i5 j5) o5 := s5.below hb5
  clear p5 p8 s5 hb4 hb5 B3 H
  go_wp2_with fail
  refine (newreq_no k al ts fu oid rc ad rs x5 x8 x9 n5 e5 n8 e8 n9 e9 w5).mono ?_
  rintro e w6 ⟨rfl, hb6, hp⟩
  have Hp : Hid (w6.cell? ⟨w5.heap.size, 0, none⟩ = some (.pointer none)) := hp
  clear hp
  go_wp2_with fail
  refine (tsig_no w5.heap.size w6 Hp.out).mono ?_
  rintro e w7 ⟨rfl, rfl⟩
  go_wp2_with fail
  refine (tsig_no w5.heap.size _ Hp.out).mono ?_
  rintro e w7 ⟨rfl, rfl⟩
  go_wp2_with fail
  go_ret
  exact ⟨rfl, B5.trans (hb6.mono B5.size)⟩

end Go.Proofs.Qxb6602843a
