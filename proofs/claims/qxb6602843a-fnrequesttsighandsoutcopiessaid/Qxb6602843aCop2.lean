import Derived.Test.Qxb6602843aCop0
import Derived.RegionTactic
import Derived.BigRegion
namespace Go.Proofs.Qxb6602843a
open Go.ChangeShapes Go.WideShapes Go.ChangeAt Go.RowKit
set_option linter.unusedVariables false
set_option maxRecDepth 100000

theorem six {b hi : Nat} {w8 wr : World} (hk : Keeps (b + 1) hi w8 wr) (h : b < hi) (v0 v1 v2 v3 v5 v6 : Value) :
    Keeps b hi w8 ((((((wr.setCell ⟨b, 0, none⟩ v0).setCell ⟨b, 1, none⟩ v1).setCell ⟨b, 2, none⟩ v2).setCell ⟨b, 3, none⟩ v3).setCell ⟨b, 5, none⟩ v5).setCell ⟨b, 6, none⟩ v6) :=
  (((((((hk.wide (Nat.le_succ b)).set (a := ⟨b, 0, none⟩) (Nat.le_refl _) h v0).set (a := ⟨b, 1, none⟩) (Nat.le_refl _) h v1).set (a := ⟨b, 2, none⟩) (Nat.le_refl _) h v2).set (a := ⟨b, 3, none⟩) (Nat.le_refl _) h v3).set (a := ⟨b, 5, none⟩) (Nat.le_refl _) h v5).set (a := ⟨b, 6, none⟩) (Nat.le_refl _) h v6)

set_option maxHeartbeats 2000000 in
theorem cop_yes (k al : ByteArray) (ts fu oid rc ad rs : Int) (a5 a8 a9 : Option Addr) (l5 c5 l8 c8 l9 c9 : Nat) (w : World) (o5 o8 o9 : Option (List Int)) (h : k.size + al.size + l5 + l8 + l9 ≤ 1048576)
    (hd : k.size ≤ 131072 ∧ al.size ≤ 131072 ∧ l5 ≤ 131072 ∧ l8 ≤ 131072 ∧ l9 ≤ 131072) (r5 : Row w (.slice a5 l5 c5) o5) (r8 : Row w (.slice a8 l8 c8) o8) (r9 : Row w (.slice a9 l9 c9) o9) :
    Calls Try.prog 8 #[.bool true, .string k, .string al, .int .u64 ts, .int .u16 fu, .slice a5 l5 c5, .int .u16 oid, .int .u16 rc, .slice a8 l8 c8, .slice a9 l9 c9, .int .u16 ad, .int .u8 rs] w fun e w' => e = .returned (.bool true) ∧ Below w.heap.size w w' := by
  have H : Hid (k.size + al.size + l5 + l8 + l9 ≤ 1048576) := h
  have d1 : ¬ (131072 : Int) < (k.size : Int) := by omega
  have d2 : ¬ (131072 : Int) < (al.size : Int) := by omega
  have d3 : ¬ (131072 : Int) < (l5 : Int) := by omega
  have d4 : ¬ (131072 : Int) < (l8 : Int) := by omega
  have d5 : ¬ (131072 : Int) < (l9 : Int) := by omega
  clear h hd
  go_enter Try.func8, Try.ntmps8
  go_wp2_with (go_at_call 19; refine (bytes19_yes true k al ts fu oid rc ad rs a5 a8 a9 l5 c5 l8 c8 l9 c9 _ H.out).mono ?_; rintro e w' ⟨rfl, hw'⟩; rw [hw']; clear hw' w')
  refine (clone_any _ _ o5 r5).mono ?_
  rintro e w1 ⟨x5, n5, e5, rfl, q5, hb1⟩
  go_wp2_with fail
  refine (clone_any _ _ o8 (r8.below hb1)).mono ?_
  rintro e w2 ⟨x8, n8, e8, rfl, q8, hb2⟩
  go_wp2_with fail
  refine (clone_any _ _ o9 ((r9.below hb1).below hb2)).mono ?_
  rintro e w3 ⟨x9, n9, e9, rfl, q9, hb3⟩
  have B3 : Below w.heap.size w w3 := (hb1.trans (hb2.mono hb1.size)).trans (hb3.mono (Nat.le_trans hb1.size hb2.size))
  have p5 : Row w3 (.slice x5 n5 e5) o5 := (q5.below hb2).below hb3
  have p8 : Row w3 (.slice x8 n8 e8) o8 := q8.below hb3
  clear q5 q8 q9 r5 r8 r9 hb1 hb2 hb3
  go_wp2_with fail
  refine (clone_any _ _ o5 p5).mono ?_
  rintro e w4 ⟨y5, i5, j5, rfl, s5, hb4⟩
  go_wp2_with fail
  refine (clone_any _ _ o8 (p8.below hb4)).mono ?_
  rintro e w5 ⟨y8, i8, j8, rfl, s8, hb5⟩
  have B5 : Below w.heap.size w w5 := (B3.trans (hb4.mono B3.size)).trans (hb5.mono (Nat.le_trans B3.size hb4.size))
  have P5 : Row w5 (.slice x5 n5 e5) o5 := (p5.below hb4).below hb5
  have P8 : Row w5 (.slice x8 n8 e8) o8 := (p8.below hb4).below hb5
  have S5 : Row w5 (.slice y5 i5 j5) o5 := s5.below hb5
  clear p5 p8 s5 hb4 hb5 B3 H
  go_wp2_with fail
  refine (newreq_yes k al ts fu oid rc ad rs x5 x8 x9 n5 e5 n8 e8 n9 e9 w5).mono ?_
  rintro e w6 ⟨rfl, hb6, hp, hT⟩
  have HT : Hid (Tsig w6 (w5.heap.size + 1) 2 k al ts fu oid rc (.slice x5 n5 e5) (.slice x8 n8 e8)) := hT
  have Hp : Hid (w6.cell? ⟨w5.heap.size, 0, none⟩ = some (.pointer (some ⟨w5.heap.size + 1, 0, none⟩))) := hp
  have B6 : Below w.heap.size w w6 := B5.trans (hb6.mono B5.size)
  have R5 : Row w6 (.slice x5 n5 e5) o5 := P5.below hb6
  have R8 : Row w6 (.slice x8 n8 e8) o8 := P8.below hb6
  have W5 : Row w6 (.slice y5 i5 j5) o5 := S5.below hb6
  have W8 : Row w6 (.slice y8 i8 j8) o8 := s8.below hb6
  clear hT hp P5 P8 S5 s8 hb6 B5
  go_wp2_with fail
  refine (tsig_own w5.heap.size (w5.heap.size + 1) k al ts fu oid rc x5 x8 n5 e5 n8 e8 o5 o8 w6 Hp.out HT.out R5 R8).mono ?_
  rintro e w7 ⟨rfl, hb7, b5, b8, m5, f5, m8, f8, M, hT7, hK7, hM1, hM2, O5, O8⟩
  have HT7 : Hid (Tsig w7 w6.heap.size 0 k al ts fu oid rc (.slice b5 m5 f5) (.slice b8 m8 f8)) := hT7
  have HK7 : Hid (∃ cs, w7.heap[w6.heap.size]? = some (.cells cs 42 (0, 0))) := hK7
  clear hT7 hK7
  go_wp2_with fail
  refine (tsig_own w5.heap.size (w5.heap.size + 1) k al ts fu oid rc x5 x8 n5 e5 n8 e8 o5 o8 w7 ?_ ?_ (R5.below hb7) (R8.below hb7)).mono ?_
  · exact (hb7.cell (block_of_cell Hp.out)).trans Hp.out
  · exact HT.out.keep (hb7.block _ (block_of_cell HT.out.c0))
  rintro e w8 ⟨rfl, hb8, g5, g8, t5, h5, t8, h8, M', hT8, hK8, hM1', hM2', G5, G8⟩
  have HT8 : Hid (Tsig w8 w7.heap.size 0 k al ts fu oid rc (.slice g5 t5 h5) (.slice g8 t8 h8)) := hT8
  have sz : w6.heap.size < w7.heap.size := by omega
  have HU : Hid (Tsig w8 w6.heap.size 0 k al ts fu oid rc (.slice b5 m5 f5) (.slice b8 m8 f8)) := HT7.out.keep (hb8.block _ sz)
  have HK : Hid (∃ cs, w8.heap[w6.heap.size]? = some (.cells cs 42 (0, 0))) := HK7.out.elim fun cs h => ⟨cs, (hb8.block _ sz).trans h⟩
  have U5 : Wr (w6.heap.size + 1) w7.heap.size w8 b5 m5 := ((O5.wide (Nat.le_refl _) hM2).below fun g h1 h2 => hb8.block g h2).wr
  have U8 : Wr (w6.heap.size + 1) w7.heap.size w8 b8 m8 := ((O8.wide hM1 (Nat.le_refl _)).below fun g h1 h2 => hb8.block g h2).wr
  have B68 : Below w6.heap.size w6 w8 := hb7.trans (hb8.mono hb7.size)
  have heq := ptr_ne w8 w6.heap.size w7.heap.size (by omega) HK.out hK8
  clear hT8 hK8 HT7 HK7 hb7 hb8 O5 O8 hM1 hM2
  have lm5 : m5 ≤ 1048576 := U5.1
  have lm8 : m8 ≤ 1048576 := U8.1
  have c4 : w8.cell? ⟨w6.heap.size, 4, none⟩ = some (.slice b5 m5 f5) := HU.out.c4
  go_wp2_with fail
  clear heq
  go_loopw [30] (fun i wr => ∃ q : Nat, q ≤ m5 ∧ i = .int .i64 q ∧ Keeps (w6.heap.size + 1) w7.heap.size w8 wr ∧ Wr (w6.heap.size + 1) w7.heap.size wr b5 m5 ∧ Wr (w6.heap.size + 1) w7.heap.size wr b8 m8) (fun i _ => m5 - (intOf i).toNat)
  case atStart => exact ⟨0, Nat.zero_le _, rfl, Keeps.refl _ _ _, U5, U8⟩
  case round =>
    obtain ⟨q, hq, rfl, hk, u5, u8⟩ := hrel
    have HU' : Hid (Tsig wr w6.heap.size 0 k al ts fu oid rc (.slice b5 m5 f5) (.slice b8 m8 f8)) := HU.out.keep (hk.block _ (.inl (Nat.lt_succ_self _)))
    clear c4
    by_cases hlt : q < m5
    · obtain ⟨g, rfl, hg1, hg2, hgf, hgc⟩ := u5.2 (by omega)
      obtain ⟨z, hz⟩ := hgc q hlt
      have hfz := hgf q
      have c4 : wr.cell? ⟨w6.heap.size, 4, none⟩ = some (.slice (some ⟨g, 0, none⟩) m5 f5) := HU'.out.c4
      have hlt' : (q : Int) < (m5 : Int) := by omega
      have Hc : Hid (∀ i, i < m5 → ∃ z, wr.cell? ⟨g, i, none⟩ = some (.int .u8 z)) := hgc
      clear hgc hgf
      go_wp2_with fail
      go_region
      all_goals
        go_wp2_with fail
        go_roundw
        case rel => exact ⟨q + 1, by omega, by go_num, (hk.set (a := ⟨g, q, none⟩) hg1 hg2 _).drew, (u5.set _ _).drew, (u8.set _ _).drew⟩
        case measure => simp [intOf]; omega
    · have c4 : wr.cell? ⟨w6.heap.size, 4, none⟩ = some (.slice b5 m5 f5) := HU'.out.c4
      have c7 : wr.cell? ⟨w6.heap.size, 7, none⟩ = some (.slice b8 m8 f8) := HU'.out.c7
      go_wp2_with fail
      clear c4 c7 hlt hq
      go_loopw [31] (fun i wr => ∃ q : Nat, q ≤ m8 ∧ i = .int .i64 q ∧ Keeps (w6.heap.size + 1) w7.heap.size w8 wr ∧ Wr (w6.heap.size + 1) w7.heap.size wr b8 m8) (fun i _ => m8 - (intOf i).toNat)
      case atStart => exact ⟨0, Nat.zero_le _, rfl, hk, u8⟩
      case round =>
        clear hk u5 u8 HU' U5 U8 lm5
        obtain ⟨q', hq, rfl, hk, u8⟩ := hrel
        have HU' : Hid (Tsig wr w6.heap.size 0 k al ts fu oid rc (.slice b5 m5 f5) (.slice b8 m8 f8)) := HU.out.keep (hk.block _ (.inl (Nat.lt_succ_self _)))
        by_cases hlt : q' < m8
        · obtain ⟨g, rfl, hg1, hg2, hgf, hgc⟩ := u8.2 (by omega)
          obtain ⟨z, hz⟩ := hgc q' hlt
          have hfz := hgf q'
          have c7 : wr.cell? ⟨w6.heap.size, 7, none⟩ = some (.slice (some ⟨g, 0, none⟩) m8 f8) := HU'.out.c7
          have hlt' : (q' : Int) < (m8 : Int) := by omega
          have Hc : Hid (∀ i, i < m8 → ∃ z, wr.cell? ⟨g, i, none⟩ = some (.int .u8 z)) := hgc
          clear hgc hgf
          go_wp2_with fail
          go_region
          all_goals
            go_wp2_with fail
            go_roundw
            case rel => exact ⟨q' + 1, by omega, by go_num, (hk.set (a := ⟨g, q', none⟩) hg1 hg2 _).drew, (u8.set _ _).drew⟩
            case measure => simp [intOf]; omega
        · have c0 : wr.cell? ⟨w6.heap.size, 0, none⟩ = some (.string k) := HU'.out.c0
          have c1 : wr.cell? ⟨w6.heap.size, 1, none⟩ = some (.string al) := HU'.out.c1
          have c2 : wr.cell? ⟨w6.heap.size, 2, none⟩ = some (.int .u64 ts) := HU'.out.c2
          have c3 : wr.cell? ⟨w6.heap.size, 3, none⟩ = some (.int .u16 fu) := HU'.out.c3
          have c5' : wr.cell? ⟨w6.heap.size, 5, none⟩ = some (.int .u16 oid) := HU'.out.c5
          have c6 : wr.cell? ⟨w6.heap.size, 6, none⟩ = some (.int .u16 rc) := HU'.out.c6
          have c7 : wr.cell? ⟨w6.heap.size, 7, none⟩ = some (.slice b8 m8 f8) := HU'.out.c7
          have cf : ∀ j, wr.frozen? ⟨w6.heap.size, j, none⟩ = false := fun j => by
            obtain ⟨cs, hcs⟩ := HK.out
            exact frozen_of_row wr w6.heap.size j cs 42 ((hk.block _ (.inl (Nat.lt_succ_self _))).trans hcs)
          go_wp2_with fail
          have KS := six hk sz (.string (k ++ { data := #[120] })) (.string (al ++ { data := #[120] })) (.int .u64 (IntKind.u64.wrap (ts + 1))) (.int .u16 (IntKind.u16.wrap (fu + 1))) (.int .u16 (IntKind.u16.wrap (oid + 1))) (.int .u16 (IntKind.u16.wrap (rc + 1)))
          generalize ((((((wr.setCell ⟨w6.heap.size, 0, none⟩ (.string (k ++ { data := #[120] }))).setCell ⟨w6.heap.size, 1, none⟩ (.string (al ++ { data := #[120] }))).setCell ⟨w6.heap.size, 2, none⟩ (.int .u64 (IntKind.u64.wrap (ts + 1)))).setCell ⟨w6.heap.size, 3, none⟩ (.int .u16 (IntKind.u16.wrap (fu + 1)))).setCell ⟨w6.heap.size, 5, none⟩ (.int .u16 (IntKind.u16.wrap (oid + 1)))).setCell ⟨w6.heap.size, 6, none⟩ (.int .u16 (IntKind.u16.wrap (rc + 1)))) = wS at KS ⊢
          clear c0 c1 c2 c3 c5' c6 c7 cf HU' hk u8
          have B6S : Below w6.heap.size w6 wS := B68.trans KS.below
          have T2 : Hid (Tsig wS w7.heap.size 0 k al ts fu oid rc (.slice g5 t5 h5) (.slice g8 t8 h8)) := HT8.out.keep (KS.block _ (.inr (Nat.le_refl _)))
          have E5 : Own (w7.heap.size + 1) M' wS (.slice g5 t5 h5) o5 := G5.below fun g h1 _ => KS.block g (.inr (by omega))
          have E8 : Own M' w8.heap.size wS (.slice g8 t8 h8) o8 := G8.below fun g h1 _ => KS.block g (.inr (by omega))
          have szS : wS.heap.size = w8.heap.size := KS.size
          have HszS : Hid (wS.heap.size = w8.heap.size) := szS
          clear szS HT8 HU HK G5 G8 B68 KS
          refine (tsig_own w5.heap.size (w5.heap.size + 1) k al ts fu oid rc x5 x8 n5 e5 n8 e8 o5 o8 wS ?_ ?_ (R5.below B6S) (R8.below B6S)).mono ?_
          · exact (B6S.cell (block_of_cell Hp.out)).trans Hp.out
          · exact HT.out.keep (B6S.block _ (block_of_cell HT.out.c0))
          rintro e w9 ⟨rfl, hb9, v5, v8, z5, y5', z8, y8', M3, hT9, hK9, hN1, hN2, O5, O8⟩
          have T9 : Hid (Tsig w9 wS.heap.size 0 k al ts fu oid rc (.slice v5 z5 y5') (.slice v8 z8 y8')) := hT9
          have T2' : Hid (Tsig w9 w7.heap.size 0 k al ts fu oid rc (.slice g5 t5 h5) (.slice g8 t8 h8)) := T2.out.keep (hb9.block _ (by have := HszS.out; omega))
          have E5' : Row w9 (.slice g5 t5 h5) o5 := E5.row.below hb9
          have E8' : Row w9 (.slice g8 t8 h8) o8 := E8.row.below hb9
          have B69 : Below w6.heap.size w6 w9 := B6S.trans (hb9.mono B6S.size)
          have Q5 : Row w9 (.slice x5 n5 e5) o5 := R5.below B69
          have Q8 : Row w9 (.slice x8 n8 e8) o8 := R8.below B69
          have V5 : Row w9 (.slice y5 i5 j5) o5 := W5.below B69
          have V8 : Row w9 (.slice y8 i8 j8) o8 := W8.below B69
          have O5' := O5.row
          have O8' := O8.row
          have B9 : Below w.heap.size w w9 := B6.trans (B69.mono B6.size)
          clear hT9 hK9 T2 E5 E8 R5 R8 W5 W8 O5 O8 B69 B6S hb9 B6 HT Hp hN1 hN2 hM1' hM2'
          go_wp2_with fail
          refine (tsigis_yes w7.heap.size k al ts fu oid rc g5 g8 y5 y8 t5 h5 t8 h8 i5 j5 i8 j8 o5 o8 w9 T2'.out E5' E8' V5 V8).mono ?_
          rintro e w10 ⟨rfl, n1, rfl⟩
          go_wp2_with fail
          refine (tsigis_yes wS.heap.size k al ts fu oid rc v5 v8 y5 y8 z5 y5' z8 y8' i5 j5 i8 j8 o5 o8 _ (T9.out.drewN n1) (O5'.drewN n1) (O8'.drewN n1) (V5.drewN n1) (V8.drewN n1)).mono ?_
          rintro e w11 ⟨rfl, n2, rfl⟩
          rw [World.drewN_drewN]
          go_wp2_with fail
          refine (same_any _ _ _ o5 (Q5.drewN (n1 + n2)) (V5.drewN (n1 + n2))).mono ?_
          rintro e w12 ⟨rfl, n3, rfl⟩
          rw [World.drewN_drewN]
          go_wp2_with fail
          refine (same_any _ _ _ o8 (Q8.drewN (n1 + n2 + n3)) (V8.drewN (n1 + n2 + n3))).mono ?_
          rintro e w13 ⟨rfl, n4, rfl⟩
          go_wp2_with fail
          go_ret
          exact ⟨rfl, below_drewN B9 _⟩

theorem handsCopies (sg : Bool) (k al : ByteArray) (ts fu oid rc ad rs : Int) (a5 a8 a9 : Option Addr) (l5 c5 l8 c8 l9 c9 : Nat) (z5 z8 z9 : List Int) (w : World) (hk : k.size ≤ maxLen) (ha : al.size ≤ maxLen)
    (r5 : Came w a5 l5 c5 z5) (r8 : Came w a8 l8 c8 z8) (r9 : Came w a9 l9 c9 z9) :
    Calls Try.prog 8 #[.bool sg, .string k, .string al, .int .u64 ts, .int .u16 fu, .slice a5 l5 c5, .int .u16 oid, .int .u16 rc, .slice a8 l8 c8, .slice a9 l9 c9, .int .u16 ad, .int .u8 rs] w fun e w' => e = .returned (.bool true) ∧ Below w.heap.size w w' := by
  by_cases h : k.size + al.size + l5 + l8 + l9 ≤ 1048576
  · by_cases hd : (131072 : Int) < (k.size : Int) ∨ (131072 : Int) < (al.size : Int) ∨ (131072 : Int) < (l5 : Int) ∨ (131072 : Int) < (l8 : Int) ∨ (131072 : Int) < (l9 : Int)
    · exact cop_wide sg k al ts fu oid rc ad rs a5 a8 a9 l5 c5 l8 c8 l9 c9 w h hd
    · obtain ⟨o5, q5⟩ := r5.row (by omega)
      obtain ⟨o8, q8⟩ := r8.row (by omega)
      obtain ⟨o9, q9⟩ := r9.row (by omega)
      cases sg
      · exact cop_no k al ts fu oid rc ad rs a5 a8 a9 l5 c5 l8 c8 l9 c9 w o5 o8 o9 h (by omega) q5 q8 q9
      · exact cop_yes k al ts fu oid rc ad rs a5 a8 a9 l5 c5 l8 c8 l9 c9 w o5 o8 o9 h (by omega) q5 q8 q9
  · exact cop_long sg k al ts fu oid rc ad rs a5 a8 a9 l5 c5 l8 c8 l9 c9 w hk ha r5.len r8.len r9.len (by omega)

end Go.Proofs.Qxb6602843a
