import Derived.Test.Qxb6602843aReq4
namespace Go.Proofs.Qxb6602843a
open Go.ChangeShapes Go.WideShapes Go.ChangeAt Go.RowKit
set_option linter.unusedVariables false

set_option maxHeartbeats 400000 in
theorem rec_long (sg : Bool) (k al : ByteArray) (ts fu oid rc ad rs : Int) (a5 a8 a9 : Option Addr) (l5 c5 l8 c8 l9 c9 : Nat) (w : World) (hk : k.size ≤ maxLen) (ha : al.size ≤ maxLen) (b5 : l5 ≤ maxLen) (b8 : l8 ≤ maxLen) (b9 : l9 ≤ maxLen) (h : 1048576 < k.size + al.size + l5 + l8 + l9) :
    Calls Try.prog 7 #[.bool sg, .string k, .string al, .int .u64 ts, .int .u16 fu, .slice a5 l5 c5, .int .u16 oid, .int .u16 rc, .slice a8 l8 c8, .slice a9 l9 c9, .int .u16 ad, .int .u8 rs] w fun e w' => e = .returned (.bool true) ∧ Below w.heap.size w w' := by
  have H : Hid (1048576 < k.size + al.size + l5 + l8 + l9) := h
  clear h
  go_enter Try.func7, Try.ntmps7
  go_wp2_with (go_at_call 14; refine (bytes14_no sg k al ts fu oid rc ad rs a5 a8 a9 l5 c5 l8 c8 l9 c9 _ hk ha b5 b8 b9 H.out).mono ?_; rintro e w' ⟨rfl, rfl⟩)
  go_ret
  exact ⟨rfl, Below.refl _ _⟩

set_option maxHeartbeats 1000000 in
theorem rec_wide (sg : Bool) (k al : ByteArray) (ts fu oid rc ad rs : Int) (a5 a8 a9 : Option Addr) (l5 c5 l8 c8 l9 c9 : Nat) (w : World) (h : k.size + al.size + l5 + l8 + l9 ≤ 1048576) (hd : (131072 : Int) < (k.size : Int) ∨ (131072 : Int) < (al.size : Int) ∨ (131072 : Int) < (l5 : Int) ∨ (131072 : Int) < (l8 : Int) ∨ (131072 : Int) < (l9 : Int)) :
    Calls Try.prog 7 #[.bool sg, .string k, .string al, .int .u64 ts, .int .u16 fu, .slice a5 l5 c5, .int .u16 oid, .int .u16 rc, .slice a8 l8 c8, .slice a9 l9 c9, .int .u16 ad, .int .u8 rs] w fun e w' => e = .returned (.bool true) ∧ Below w.heap.size w w' := by
  have H : Hid (k.size + al.size + l5 + l8 + l9 ≤ 1048576) := h
  clear h
  by_cases d1 : (131072 : Int) < (k.size : Int)
  · clear hd
    go_enter Try.func7, Try.ntmps7
    go_wp2_with (go_at_call 14; refine (bytes14_yes sg k al ts fu oid rc ad rs a5 a8 a9 l5 c5 l8 c8 l9 c9 _ H.out).mono ?_; rintro e w' ⟨rfl, rfl⟩)
    go_ret
    exact ⟨rfl, Below.refl _ _⟩
  by_cases d2 : (131072 : Int) < (al.size : Int)
  · clear hd
    go_enter Try.func7, Try.ntmps7
    go_wp2_with (go_at_call 14; refine (bytes14_yes sg k al ts fu oid rc ad rs a5 a8 a9 l5 c5 l8 c8 l9 c9 _ H.out).mono ?_; rintro e w' ⟨rfl, rfl⟩)
    go_ret
    exact ⟨rfl, Below.refl _ _⟩
  by_cases d3 : (131072 : Int) < (l5 : Int)
  · clear hd
    go_enter Try.func7, Try.ntmps7
    go_wp2_with (go_at_call 14; refine (bytes14_yes sg k al ts fu oid rc ad rs a5 a8 a9 l5 c5 l8 c8 l9 c9 _ H.out).mono ?_; rintro e w' ⟨rfl, rfl⟩)
    go_ret
    exact ⟨rfl, Below.refl _ _⟩
  by_cases d4 : (131072 : Int) < (l8 : Int)
  · clear hd
    go_enter Try.func7, Try.ntmps7
    go_wp2_with (go_at_call 14; refine (bytes14_yes sg k al ts fu oid rc ad rs a5 a8 a9 l5 c5 l8 c8 l9 c9 _ H.out).mono ?_; rintro e w' ⟨rfl, rfl⟩)
    go_ret
    exact ⟨rfl, Below.refl _ _⟩
  have d5 : (131072 : Int) < (l9 : Int) := by omega
  clear hd
  go_enter Try.func7, Try.ntmps7
  go_wp2_with (go_at_call 14; refine (bytes14_yes sg k al ts fu oid rc ad rs a5 a8 a9 l5 c5 l8 c8 l9 c9 _ H.out).mono ?_; rintro e w' ⟨rfl, rfl⟩)
  go_ret
  exact ⟨rfl, Below.refl _ _⟩

set_option maxHeartbeats 1000000 in
theorem rec_yes (k al : ByteArray) (ts fu oid rc ad rs : Int) (a5 a8 a9 : Option Addr) (l5 c5 l8 c8 l9 c9 : Nat) (w : World) (o5 o8 o9 : Option (List Int)) (h : k.size + al.size + l5 + l8 + l9 ≤ 1048576)
    (hd : k.size ≤ 131072 ∧ al.size ≤ 131072 ∧ l5 ≤ 131072 ∧ l8 ≤ 131072 ∧ l9 ≤ 131072) (r5 : Row w (.slice a5 l5 c5) o5) (r8 : Row w (.slice a8 l8 c8) o8) (r9 : Row w (.slice a9 l9 c9) o9) :
    Calls Try.prog 7 #[.bool true, .string k, .string al, .int .u64 ts, .int .u16 fu, .slice a5 l5 c5, .int .u16 oid, .int .u16 rc, .slice a8 l8 c8, .slice a9 l9 c9, .int .u16 ad, .int .u8 rs] w fun e w' => e = .returned (.bool true) ∧ Below w.heap.size w w' := by
  have H : Hid (k.size + al.size + l5 + l8 + l9 ≤ 1048576) := h
  have d1 : ¬ (131072 : Int) < (k.size : Int) := by omega
  have d2 : ¬ (131072 : Int) < (al.size : Int) := by omega
  have d3 : ¬ (131072 : Int) < (l5 : Int) := by omega
  have d4 : ¬ (131072 : Int) < (l8 : Int) := by omega
  have d5 : ¬ (131072 : Int) < (l9 : Int) := by omega
  clear h hd
  go_enter Try.func7, Try.ntmps7
  go_wp2_with (go_at_call 14; refine (bytes14_yes true k al ts fu oid rc ad rs a5 a8 a9 l5 c5 l8 c8 l9 c9 _ H.out).mono ?_; rintro e w' ⟨rfl, rfl⟩)
  refine (clone_any _ _ o5 r5).mono ?_
  rintro e w1 ⟨x5, n5, e5, rfl, q5, hb1⟩
  go_wp2_with fail
  refine (clone_any _ _ o8 (r8.below hb1)).mono ?_
  rintro e w2 ⟨x8, n8, e8, rfl, q8, hb2⟩
  go_wp2_with fail
  refine (clone_any _ _ o9 ((r9.below hb1).below hb2)).mono ?_
  rintro e w3 ⟨x9, n9, e9, rfl, q9, hb3⟩
  go_wp2_with fail
  refine (newreq_yes k al ts fu oid rc ad rs x5 x8 x9 n5 e5 n8 e8 n9 e9 w3).mono ?_
  rintro e w4 ⟨rfl, hb4, hp, hT⟩
  have P5 := ((q5.below hb2).below hb3).below hb4
  have P8 := (q8.below hb3).below hb4
  have HT : Hid (Tsig w4 (w3.heap.size + 1) 2 k al ts fu oid rc (.slice x5 n5 e5) (.slice x8 n8 e8)) := hT
  have Hp : Hid (w4.cell? ⟨w3.heap.size, 0, none⟩ = some (.pointer (some ⟨w3.heap.size + 1, 0, none⟩))) := hp
  clear q5 q8 q9 hT hp r5 r8 r9
  go_wp2_with fail
  refine (tsig_yes w3.heap.size (w3.heap.size + 1) k al ts fu oid rc x5 x8 n5 e5 n8 e8 o5 o8 w4 Hp.out HT.out P5 P8).mono ?_
  rintro e w5 ⟨rfl, hb5, b5, b8, m5, f5, m8, f8, M, hT5, hF5, hM1, hM2, O5, O8⟩
  have HT5 : Hid (Tsig w5 w4.heap.size 0 k al ts fu oid rc (.slice b5 m5 f5) (.slice b8 m8 f8)) := hT5
  have Q5 := P5.below hb5
  have Q8 := P8.below hb5
  clear hT5 hF5
  go_wp2_with fail
  refine (tsigis_yes w4.heap.size k al ts fu oid rc b5 b8 x5 x8 m5 f5 m8 f8 n5 e5 n8 e8 o5 o8 w5 HT5.out O5.row O8.row Q5 Q8).mono ?_
  rintro e w6 ⟨rfl, n, rfl⟩
  go_wp2_with fail
  go_ret
  have z1 := hb1.size
  have z2 := hb2.size
  have z3 := hb3.size
  have z4 := hb4.size
  refine ⟨rfl, below_drewN ?_ n⟩
  exact (((hb1.trans (hb2.mono z1)).trans (hb3.mono (by omega))).trans (hb4.mono (by omega))).trans (hb5.mono (by omega))

set_option maxHeartbeats 1000000 in
theorem rec_no (k al : ByteArray) (ts fu oid rc ad rs : Int) (a5 a8 a9 : Option Addr) (l5 c5 l8 c8 l9 c9 : Nat) (w : World) (o5 o8 o9 : Option (List Int)) (h : k.size + al.size + l5 + l8 + l9 ≤ 1048576)
    (hd : k.size ≤ 131072 ∧ al.size ≤ 131072 ∧ l5 ≤ 131072 ∧ l8 ≤ 131072 ∧ l9 ≤ 131072) (r5 : Row w (.slice a5 l5 c5) o5) (r8 : Row w (.slice a8 l8 c8) o8) (r9 : Row w (.slice a9 l9 c9) o9) :
    Calls Try.prog 7 #[.bool false, .string k, .string al, .int .u64 ts, .int .u16 fu, .slice a5 l5 c5, .int .u16 oid, .int .u16 rc, .slice a8 l8 c8, .slice a9 l9 c9, .int .u16 ad, .int .u8 rs] w fun e w' => e = .returned (.bool true) ∧ Below w.heap.size w w' := by
  have H : Hid (k.size + al.size + l5 + l8 + l9 ≤ 1048576) := h
  have d1 : ¬ (131072 : Int) < (k.size : Int) := by omega
  have d2 : ¬ (131072 : Int) < (al.size : Int) := by omega
  have d3 : ¬ (131072 : Int) < (l5 : Int) := by omega
  have d4 : ¬ (131072 : Int) < (l8 : Int) := by omega
  have d5 : ¬ (131072 : Int) < (l9 : Int) := by omega
  clear h hd
  go_enter Try.func7, Try.ntmps7
  go_wp2_with (go_at_call 14; refine (bytes14_yes false k al ts fu oid rc ad rs a5 a8 a9 l5 c5 l8 c8 l9 c9 _ H.out).mono ?_; rintro e w' ⟨rfl, rfl⟩)
  refine (clone_any _ _ o5 r5).mono ?_
  rintro e w1 ⟨x5, n5, e5, rfl, q5, hb1⟩
  go_wp2_with fail
  refine (clone_any _ _ o8 (r8.below hb1)).mono ?_
  rintro e w2 ⟨x8, n8, e8, rfl, q8, hb2⟩
  go_wp2_with fail
  refine (clone_any _ _ o9 ((r9.below hb1).below hb2)).mono ?_
  rintro e w3 ⟨x9, n9, e9, rfl, q9, hb3⟩
  go_wp2_with fail
  refine (newreq_no k al ts fu oid rc ad rs x5 x8 x9 n5 e5 n8 e8 n9 e9 w3).mono ?_
  rintro e w4 ⟨rfl, hb4, hp⟩
  have Hp : Hid (w4.cell? ⟨w3.heap.size, 0, none⟩ = some (.pointer none)) := hp
  clear q5 q8 q9 hp r5 r8 r9
  go_wp2_with fail
  refine (tsig_no w3.heap.size w4 Hp.out).mono ?_
  rintro e w5 ⟨rfl, rfl⟩
  go_wp2_with fail
  go_ret
  have z1 := hb1.size
  have z2 := hb2.size
  have z3 := hb3.size
  refine ⟨rfl, ?_⟩
  exact ((hb1.trans (hb2.mono z1)).trans (hb3.mono (by omega))).trans (hb4.mono (by omega))

/-! ### From what came in to 'Row' -/
/-- WHAT THE SHELL's 'IsRow .u8' SAYS, written out. -/
def Came (w : World) (a : Option Addr) (len cap : Nat) (zs : List Int) : Prop :=
  (a = none ∧ len = 0 ∧ cap = 0 ∧ zs = []) ∨
  ∃ x, a = some x ∧ len ≤ cap ∧ cap ≤ maxLen ∧ zs.length = cap ∧ (∀ i, i < zs.length → w.cell? (x.add i) = some (.int .u8 (zs.getD i 0))) ∧ ∀ n ∈ zs, (Lit.int .u8 n).wf = true
theorem Came.len {w : World} {a : Option Addr} {len cap : Nat} {zs : List Int} (h : Came w a len cap zs) : len ≤ maxLen := by
  rcases h with ⟨_, rfl, _⟩ | ⟨x, _, h1, h2, _⟩
  · exact Nat.zero_le _
  · omega
theorem Came.row {w : World} {a : Option Addr} {len cap : Nat} {zs : List Int} (h : Came w a len cap zs) (hl : len ≤ 1048576) : ∃ o, Row w (.slice a len cap) o := by
  rcases h with ⟨rfl, rfl, rfl, _⟩ | ⟨x, rfl, h1, _, h3, h4, _⟩
  · exact ⟨none, rfl⟩
  · have hlen : (zs.take len).length = len := by rw [List.length_take]; omega
    refine ⟨some (zs.take len), x, cap, by rw [hlen], by omega, fun i hi => ?_⟩
    rw [hlen] at hi
    rw [h4 i (by omega)]
    congr 2
    rw [List.getD_eq_getElem?_getD, List.getD_eq_getElem?_getD, List.getElem?_take_of_lt hi]

theorem returnsRecord (sg : Bool) (k al : ByteArray) (ts fu oid rc ad rs : Int) (a5 a8 a9 : Option Addr) (l5 c5 l8 c8 l9 c9 : Nat) (z5 z8 z9 : List Int) (w : World) (hk : k.size ≤ maxLen) (ha : al.size ≤ maxLen)
    (r5 : Came w a5 l5 c5 z5) (r8 : Came w a8 l8 c8 z8) (r9 : Came w a9 l9 c9 z9) :
    Calls Try.prog 7 #[.bool sg, .string k, .string al, .int .u64 ts, .int .u16 fu, .slice a5 l5 c5, .int .u16 oid, .int .u16 rc, .slice a8 l8 c8, .slice a9 l9 c9, .int .u16 ad, .int .u8 rs] w fun e w' => e = .returned (.bool true) ∧ Below w.heap.size w w' := by
  by_cases h : k.size + al.size + l5 + l8 + l9 ≤ 1048576
  · by_cases hd : (131072 : Int) < (k.size : Int) ∨ (131072 : Int) < (al.size : Int) ∨ (131072 : Int) < (l5 : Int) ∨ (131072 : Int) < (l8 : Int) ∨ (131072 : Int) < (l9 : Int)
    · exact rec_wide sg k al ts fu oid rc ad rs a5 a8 a9 l5 c5 l8 c8 l9 c9 w h hd
    · obtain ⟨o5, q5⟩ := r5.row (by omega)
      obtain ⟨o8, q8⟩ := r8.row (by omega)
      obtain ⟨o9, q9⟩ := r9.row (by omega)
      cases sg
      · exact rec_no k al ts fu oid rc ad rs a5 a8 a9 l5 c5 l8 c8 l9 c9 w o5 o8 o9 h (by omega) q5 q8 q9
      · exact rec_yes k al ts fu oid rc ad rs a5 a8 a9 l5 c5 l8 c8 l9 c9 w o5 o8 o9 h (by omega) q5 q8 q9
  · exact rec_long sg k al ts fu oid rc ad rs a5 a8 a9 l5 c5 l8 c8 l9 c9 w hk ha r5.len r8.len r9.len (by omega)

end Go.Proofs.Qxb6602843a
