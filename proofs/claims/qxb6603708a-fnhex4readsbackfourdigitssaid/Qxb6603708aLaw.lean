import Derived.Test.Qxb6603708aHex2
namespace Go.Proofs.Qxb6603708a
open Go.ChangeShapes Go.WideShapes Go.ChangeAt Go.RowKit
set_option linter.unusedVariables false

theorem and15 (x : Int) (h0 : 0 ≤ x) (h1 : x ≤ 65535) : bits .and .i32 x 15 = x % 16 := by
  obtain ⟨n, rfl⟩ := Int.eq_ofNat_of_zero_le h0
  have hd : (BitVec.ofInt 32 (n : Int)).toNat = n := by
    rw [BitVec.toNat_ofInt]
    omega
  have e : bits .and .i32 n 15 = IntKind.wrap .i32 ((BitVec.ofInt 32 (n : Int) &&& BitVec.ofInt 32 15).toNat : Int) := rfl
  have h15 : (BitVec.ofInt 32 15).toNat = 2 ^ 4 - 1 := by decide
  rw [e, BitVec.toNat_and, hd, h15, Nat.and_two_pow_sub_one_eq_mod, IntWalk.i32_left]
  unfold wrap32
  omega

set_option maxHeartbeats 400000 in
theorem law_long (r m : Int) (a : Option Addr) (l c : Nat) (w : World) (h : 1048576 < l) : Calls Try.prog 3 #[.int .i32 r, .int .u8 m, .slice a l c] w fun e w' => e = .returned (.bool true) ∧ Below w.heap.size w w' := by
  have H : Hid (1048576 < l) := h
  clear h
  go_enter Try.func3, Try.ntmps3
  go_wp2_with (go_at_call 6; refine (bytes_no r m a l c _ H.out).mono ?_; rintro e w' ⟨rfl, rfl⟩)
  go_ret
  exact ⟨rfl, Below.refl _ _⟩

set_option maxHeartbeats 400000 in
theorem law_out (r m : Int) (a : Option Addr) (l c : Nat) (w : World) (h : l ≤ 1048576) (hr : r < 0 ∨ 65535 < r) : Calls Try.prog 3 #[.int .i32 r, .int .u8 m, .slice a l c] w fun e w' => e = .returned (.bool true) ∧ Below w.heap.size w w' := by
  have d : ¬ (1048576 : Int) < (l : Int) := by omega
  rcases hr with h1 | h1
  · go_enter Try.func3, Try.ntmps3
    go_wp2_with (go_at_call 6; refine (bytes_yes r m a l c _ h).mono ?_; rintro e w' ⟨rfl, rfl⟩)
    go_ret
    exact ⟨rfl, Below.refl _ _⟩
  · have h2 : ¬ r < 0 := by omega
    go_enter Try.func3, Try.ntmps3
    go_wp2_with (go_at_call 6; refine (bytes_yes r m a l c _ h).mono ?_; rintro e w' ⟨rfl, rfl⟩)
    go_ret
    exact ⟨rfl, Below.refl _ _⟩

/-- The k-th digit of r. -/
def nb (r : Int) : Nat → Int
  | 0 => r / 4096 % 16
  | 1 => r / 256 % 16
  | 2 => r / 16 % 16
  | _ => r % 16

theorem block_of_cell {w : World} {a : Addr} {v : Value} (h : w.cell? a = some v) : a.block < w.heap.size := by
  by_cases hlt : a.block < w.heap.size
  · exact hlt
  · have hn : w.heap[a.block]? = none := by simp; omega
    simp [World.cell?, hn] at h

theorem snoc_ok {r : Int} {hs : List Int} {ch : Int} {k : Nat} (hl : hs.length = k) (hn : ∀ j, j < k → 0 ≤ hs.getD j 0 ∧ hs.getD j 0 ≤ 255 ∧ dig (hs.getD j 0) = nb r j)
    (k0 : 0 ≤ ch) (k1 : ch ≤ 255) (k2 : dig ch = nb r k) : ∀ j, j < k + 1 → 0 ≤ (hs ++ [ch]).getD j 0 ∧ (hs ++ [ch]).getD j 0 ≤ 255 ∧ dig ((hs ++ [ch]).getD j 0) = nb r j := by
  intro j hj
  by_cases e : j = k
  · subst e
    have e2 : (hs ++ [ch]).getD j 0 = ch := by
      rw [List.getD_eq_getElem?_getD, ← hl, List.getElem?_concat_length]
      rfl
    rw [e2]
    exact ⟨k0, k1, k2⟩
  · have e2 : (hs ++ [ch]).getD j 0 = hs.getD j 0 := by
      rw [List.getD_eq_getElem?_getD, List.getD_eq_getElem?_getD, List.getElem?_append_left (by omega)]
    rw [e2]
    exact hn j (by omega)

theorem nb_nonneg (r : Int) (h0 : 0 ≤ r) (j : Nat) : 0 ≤ nb r j := by
  unfold nb
  split <;> omega

theorem val_four (r : Int) (h0 : 0 ≤ r) (h1 : r ≤ 65535) (hs : List Int) (hl : hs.length = 4) (hn : ∀ j, j < 4 → 0 ≤ hs.getD j 0 ∧ hs.getD j 0 ≤ 255 ∧ dig (hs.getD j 0) = nb r j) : val hs = r := by
  have v0 : val (hs.take 0) = 0 := by rw [List.take_zero]; rfl
  have v1 := val_take hs 0 (by omega)
  have v2 := val_take hs 1 (by omega)
  have v3 := val_take hs 2 (by omega)
  have v4 := val_take hs 3 (by omega)
  rw [(hn 0 (by omega)).2.2] at v1
  rw [(hn 1 (by omega)).2.2] at v2
  rw [(hn 2 (by omega)).2.2] at v3
  rw [(hn 3 (by omega)).2.2] at v4
  simp only [Nat.zero_add, Nat.reduceAdd, nb] at v1 v2 v3 v4
  rw [List.take_of_length_le (by omega)] at v4
  omega

theorem digits_four (r : Int) (h0 : 0 ≤ r) (hs : List Int) (hl : hs.length = 4) (hn : ∀ j, j < 4 → 0 ≤ hs.getD j 0 ∧ hs.getD j 0 ≤ 255 ∧ dig (hs.getD j 0) = nb r j) : Digits hs := by
  intro i hi
  obtain ⟨a, b, c⟩ := hn i (by omega)
  exact ⟨a, b, by rw [c]; exact nb_nonneg r h0 i⟩

set_option maxHeartbeats 2000000 in
theorem law_in (r m : Int) (a : Option Addr) (l c : Nat) (w : World) (h : l ≤ 1048576) (r0 : 0 ≤ r) (r1 : r ≤ 65535)
    (ht : 0 < l → ∃ x, a = some x ∧ ∀ i, i < l → ∃ z : Int, w.cell? (x.add i) = some (.int .u8 z)) :
    Calls Try.prog 3 #[.int .i32 r, .int .u8 m, .slice a l c] w fun e w' => e = .returned (.bool true) ∧ Below w.heap.size w w' := by
  have d : ¬ (1048576 : Int) < (l : Int) := by omega
  have e1 : ¬ r < 0 := by omega
  have e2 : ¬ 65535 < r := by omega
  have Ht : Hid (0 < l → ∃ x, a = some x ∧ ∀ i, i < l → ∃ z : Int, w.cell? (x.add i) = some (.int .u8 z)) := ht
  clear ht
  obtain ⟨i0, hi, hz0, hz1, hz2⟩ := info_parts rinfo5
  go_enter Try.func3, Try.ntmps3
  go_wp2_with (first
    | (go_at_call 6; refine (bytes_yes r m a l c _ h).mono ?_; rintro e w' ⟨rfl, hw'⟩; rw [hw']; clear hw' w')
    | (at_make; refine wpList_make_own _ rfl _ _ 22 rfl w.heap.size 5 i0 (.int .u8 0) 1 Try.underlying22 hi hz0 hz1 .i64 .i64 _ (5 + l) rfl rfl (by omega) ?b2 ?b3 ?b4 ?_))
  case b2 => rw [hz2]; omega
  case b3 => unfold maxLen; omega
  case b4 => exact Nat.le_refl _
  intro w1 hown hgrow
  have B1 : Below w.heap.size w w1 := (Below.refl _ _).grown hgrow (Nat.le_refl _) (fun k hk => by simp at hk)
  have s1 : w.heap.size < w1.heap.size := (hown.lt _ rfl).2
  clear hgrow
  go_wp2_with (at_builtin; refine wpList_append_fits _ rfl _ _ 22 rfl w.heap.size 5 i0 1 Try.underlying22 hi hz1 w.heap.size 0 (5 + l) [] rfl (hown.alloc _) ⟨w1.heap.size, 0, none⟩ 1 1 [.int .u8 117] rfl rfl ?c1 ?c2 (by omega) ?_)
  case c1 =>
    intro j u hj
    match j, hj with
    | 0, hj => simp at hj; subst hj; simp [Addr.add]
  case c2 => intro u hu; simp at hu; subst hu; rfl
  intro w2 hown2 hgrow2
  have B2 : Below w.heap.size w w2 := (B1.alloc (by omega) _).grown hgrow2 (by simp; omega) (fun k hk => by simp at hk; omega)
  clear hgrow2 hown B1 s1
  go_wp2_with fail
  go_loopw [7, 8] (fun v i wr => ∃ (k : Nat) (hs : List Int), k ≤ 4 ∧ hs.length = k ∧ i = .int .i64 k ∧ v = .slice (some ⟨w.heap.size, 0, none⟩) (1 + k) (5 + l) ∧
      wr.ownsRow w.heap.size 5 1 (.slice (some ⟨w.heap.size, 0, none⟩) (1 + k) (5 + l)) (1 + k) ((117 :: hs).map (Value.int .u8)) ∧ Below w.heap.size w wr ∧ ∀ j, j < k → 0 ≤ hs.getD j 0 ∧ hs.getD j 0 ≤ 255 ∧ dig (hs.getD j 0) = nb r j)
    (fun _ i _ => 4 - (intOf i).toNat)
  case atStart => exact ⟨0, [], by omega, rfl, rfl, rfl, hown2, B2, fun j hj => absurd hj (Nat.not_lt_zero _)⟩
  case round =>
    clear hown2 B2
    obtain ⟨k, hs, hk, hl, rfl, rfl, hown, hb, hn⟩ := hrel
    have Hl : Hid (hs.length = k) := hl
    have Hn : Hid (∀ j, j < k → 0 ≤ hs.getD j 0 ∧ hs.getD j 0 ≤ 255 ∧ dig (hs.getD j 0) = nb r j) := hn
    have s1 : w.heap.size < wr.heap.size := (hown.lt _ rfl).2
    clear hl hn
    by_cases hlt : k < 4
    · obtain rfl | rfl | rfl | rfl : k = 0 ∨ k = 1 ∨ k = 2 ∨ k = 3 := by omega
      · have hA := and15 (r / 4096) (by omega) (by omega)
        go_wp2_with fail
        refine (hexchar_any (r / 4096 % 16) _ wr (by omega) (by omega)).mono ?_
        rintro e w' ⟨⟨ch, rfl, k0, k1, k2⟩, hw'⟩
        rw [hw']
        clear hw' w' hA
        have Hk : Hid (dig ch = r / 4096 % 16) := k2
        clear k2
        go_wp2_with (at_builtin; refine wpList_append_fits _ rfl _ _ 22 rfl w.heap.size 5 i0 1 Try.underlying22 hi hz1 w.heap.size (1 + 0) (5 + l) ((117 :: hs).map (Value.int .u8)) rfl (hown.alloc _) ⟨wr.heap.size, 0, none⟩ 1 1 [.int .u8 ch] rfl rfl ?c1 ?c2 (by omega) ?_)
        case c1 =>
          intro j u hj
          match j, hj with
          | 0, hj => simp at hj; subst hj; simp [Addr.add]
        case c2 => intro u hu; simp at hu; subst hu; rfl
        intro w3 hown3 hgrow3
        have B3 : Below w.heap.size w w3 := (hb.alloc (by omega) _).grown hgrow3 (by simp; omega) (fun k hk => by simp at hk; omega)
        have O3 : Hid (w3.ownsRow w.heap.size 5 1 (.slice (some ⟨w.heap.size, 0, none⟩) (1 + 1) (5 + l)) (1 + 1) ((117 :: (hs ++ [ch])).map (Value.int .u8))) := by
          have e : (117 :: (hs ++ [ch])).map (Value.int .u8) = (117 :: hs).map (Value.int .u8) ++ [.int .u8 ch] := by simp
          rw [e]
          exact hown3
        clear hgrow3 hown3 hown hb
        go_wp2_with fail
        go_roundw
        case rel => exact ⟨1, hs ++ [ch], by omega, by rw [List.length_append, Hl.out]; rfl, rfl, rfl, O3.out, B3, snoc_ok Hl.out Hn.out k0 k1 Hk.out⟩
        case measure => simp [intOf]
      · have hA := and15 (r / 256) (by omega) (by omega)
        go_wp2_with fail
        refine (hexchar_any (r / 256 % 16) _ wr (by omega) (by omega)).mono ?_
        rintro e w' ⟨⟨ch, rfl, k0, k1, k2⟩, hw'⟩
        rw [hw']
        clear hw' w' hA
        have Hk : Hid (dig ch = r / 256 % 16) := k2
        clear k2
        go_wp2_with (at_builtin; refine wpList_append_fits _ rfl _ _ 22 rfl w.heap.size 5 i0 1 Try.underlying22 hi hz1 w.heap.size (1 + 1) (5 + l) ((117 :: hs).map (Value.int .u8)) rfl (hown.alloc _) ⟨wr.heap.size, 0, none⟩ 1 1 [.int .u8 ch] rfl rfl ?c1 ?c2 (by omega) ?_)
        case c1 =>
          intro j u hj
          match j, hj with
          | 0, hj => simp at hj; subst hj; simp [Addr.add]
        case c2 => intro u hu; simp at hu; subst hu; rfl
        intro w3 hown3 hgrow3
        have B3 : Below w.heap.size w w3 := (hb.alloc (by omega) _).grown hgrow3 (by simp; omega) (fun k hk => by simp at hk; omega)
        have O3 : Hid (w3.ownsRow w.heap.size 5 1 (.slice (some ⟨w.heap.size, 0, none⟩) (1 + 2) (5 + l)) (1 + 2) ((117 :: (hs ++ [ch])).map (Value.int .u8))) := by
          have e : (117 :: (hs ++ [ch])).map (Value.int .u8) = (117 :: hs).map (Value.int .u8) ++ [.int .u8 ch] := by simp
          rw [e]
          exact hown3
        clear hgrow3 hown3 hown hb
        go_wp2_with fail
        go_roundw
        case rel => exact ⟨2, hs ++ [ch], by omega, by rw [List.length_append, Hl.out]; rfl, rfl, rfl, O3.out, B3, snoc_ok Hl.out Hn.out k0 k1 Hk.out⟩
        case measure => simp [intOf]
      · have hA := and15 (r / 16) (by omega) (by omega)
        go_wp2_with fail
        refine (hexchar_any (r / 16 % 16) _ wr (by omega) (by omega)).mono ?_
        rintro e w' ⟨⟨ch, rfl, k0, k1, k2⟩, hw'⟩
        rw [hw']
        clear hw' w' hA
        have Hk : Hid (dig ch = r / 16 % 16) := k2
        clear k2
        go_wp2_with (at_builtin; refine wpList_append_fits _ rfl _ _ 22 rfl w.heap.size 5 i0 1 Try.underlying22 hi hz1 w.heap.size (1 + 2) (5 + l) ((117 :: hs).map (Value.int .u8)) rfl (hown.alloc _) ⟨wr.heap.size, 0, none⟩ 1 1 [.int .u8 ch] rfl rfl ?c1 ?c2 (by omega) ?_)
        case c1 =>
          intro j u hj
          match j, hj with
          | 0, hj => simp at hj; subst hj; simp [Addr.add]
        case c2 => intro u hu; simp at hu; subst hu; rfl
        intro w3 hown3 hgrow3
        have B3 : Below w.heap.size w w3 := (hb.alloc (by omega) _).grown hgrow3 (by simp; omega) (fun k hk => by simp at hk; omega)
        have O3 : Hid (w3.ownsRow w.heap.size 5 1 (.slice (some ⟨w.heap.size, 0, none⟩) (1 + 3) (5 + l)) (1 + 3) ((117 :: (hs ++ [ch])).map (Value.int .u8))) := by
          have e : (117 :: (hs ++ [ch])).map (Value.int .u8) = (117 :: hs).map (Value.int .u8) ++ [.int .u8 ch] := by simp
          rw [e]
          exact hown3
        clear hgrow3 hown3 hown hb
        go_wp2_with fail
        go_roundw
        case rel => exact ⟨3, hs ++ [ch], by omega, by rw [List.length_append, Hl.out]; rfl, rfl, rfl, O3.out, B3, snoc_ok Hl.out Hn.out k0 k1 Hk.out⟩
        case measure => simp [intOf]
      · have hA := and15 (r) (by omega) (by omega)
        go_wp2_with fail
        refine (hexchar_any (r % 16) _ wr (by omega) (by omega)).mono ?_
        rintro e w' ⟨⟨ch, rfl, k0, k1, k2⟩, hw'⟩
        rw [hw']
        clear hw' w' hA
        have Hk : Hid (dig ch = r % 16) := k2
        clear k2
        go_wp2_with (at_builtin; refine wpList_append_fits _ rfl _ _ 22 rfl w.heap.size 5 i0 1 Try.underlying22 hi hz1 w.heap.size (1 + 3) (5 + l) ((117 :: hs).map (Value.int .u8)) rfl (hown.alloc _) ⟨wr.heap.size, 0, none⟩ 1 1 [.int .u8 ch] rfl rfl ?c1 ?c2 (by omega) ?_)
        case c1 =>
          intro j u hj
          match j, hj with
          | 0, hj => simp at hj; subst hj; simp [Addr.add]
        case c2 => intro u hu; simp at hu; subst hu; rfl
        intro w3 hown3 hgrow3
        have B3 : Below w.heap.size w w3 := (hb.alloc (by omega) _).grown hgrow3 (by simp; omega) (fun k hk => by simp at hk; omega)
        have O3 : Hid (w3.ownsRow w.heap.size 5 1 (.slice (some ⟨w.heap.size, 0, none⟩) (1 + 4) (5 + l)) (1 + 4) ((117 :: (hs ++ [ch])).map (Value.int .u8))) := by
          have e : (117 :: (hs ++ [ch])).map (Value.int .u8) = (117 :: hs).map (Value.int .u8) ++ [.int .u8 ch] := by simp
          rw [e]
          exact hown3
        clear hgrow3 hown3 hown hb
        go_wp2_with fail
        go_roundw
        case rel => exact ⟨4, hs ++ [ch], by omega, by rw [List.length_append, Hl.out]; rfl, rfl, rfl, O3.out, B3, snoc_ok Hl.out Hn.out k0 k1 Hk.out⟩
        case measure => simp [intOf]
    · have k4 : k = 4 := by omega
      subst k4
      go_wp2_with fail
      go_loopw [7, 10] (fun v i wr => ∃ (q : Nat) (ts : List Value), q ≤ l ∧ ts.length = q ∧ i = .int .i64 q ∧ v = .slice (some ⟨w.heap.size, 0, none⟩) (5 + q) (5 + l) ∧
          wr.ownsRow w.heap.size 5 1 (.slice (some ⟨w.heap.size, 0, none⟩) (5 + q) (5 + l)) (5 + q) ((117 :: hs).map (Value.int .u8) ++ ts) ∧ Below w.heap.size w wr)
        (fun _ i _ => l - (intOf i).toNat)
      case atStart => exact ⟨0, [], Nat.zero_le _, rfl, rfl, rfl, by rw [List.append_nil]; exact hown, hb⟩
      case round =>
        clear hown hb s1
        obtain ⟨q, ts, hq, hql, rfl, rfl, hown, hb⟩ := hrel
        have Hq : Hid (ts.length = q) := hql
        have s1 : w.heap.size < wr.heap.size := (hown.lt _ rfl).2
        clear hql
        by_cases hlt' : q < l
        · obtain ⟨x, rfl, hx⟩ := Ht.out (by omega)
          obtain ⟨z, hz⟩ := hx q hlt'
          have qc : wr.cell? (x.add q) = some (.int .u8 z) := (hb.cell (block_of_cell hz)).trans hz
          clear hx hz
          go_wp2_with (at_builtin; refine wpList_append_fits _ rfl _ _ 22 rfl w.heap.size 5 i0 1 Try.underlying22 hi hz1 w.heap.size (5 + q) (5 + l) ((117 :: hs).map (Value.int .u8) ++ ts) rfl (hown.alloc _) ⟨wr.heap.size, 0, none⟩ 1 1 [.int .u8 z] rfl rfl ?c1 ?c2 (by omega) ?_)
          case c1 =>
            intro j u hj
            match j, hj with
            | 0, hj => simp at hj; subst hj; simp [Addr.add]
          case c2 => intro u hu; simp at hu; subst hu; rfl
          intro w3 hown3 hgrow3
          have B3 : Below w.heap.size w w3 := (hb.alloc (by omega) _).grown hgrow3 (by simp; omega) (fun k hk => by simp at hk; omega)
          have O3 : Hid (w3.ownsRow w.heap.size 5 1 (.slice (some ⟨w.heap.size, 0, none⟩) (5 + (q + 1)) (5 + l)) (5 + (q + 1)) ((117 :: hs).map (Value.int .u8) ++ (ts ++ [.int .u8 z]))) := by
            exact hown3
          clear hgrow3 hown3 hown hb qc
          go_wp2_with fail
          go_roundw
          case rel => (repeat apply Exists.intro); exact ⟨⟨q + 1, ts ++ [.int .u8 z], by omega, by rw [List.length_append, Hq.out]; rfl, by go_num, rfl, O3.out, B3⟩, rfl⟩
          case measure => simp [intOf]; omega
        · have ql : q = l := by omega
          subst ql
          have HX : ∀ j, j < 5 → wr.cell? ⟨w.heap.size, j, none⟩ = some (.int .u8 ((117 :: hs).getD j 0)) := fun j hj => by
            have hj' : j < ((117 :: hs).map (Value.int .u8)).length := by rw [List.length_map, List.length_cons, Hl.out]; exact hj
            rw [hown.cellAt j (by omega), List.getElem?_append_left hj', List.getElem?_map, List.getD_eq_getElem?_getD]
            have hj2 : j < (117 :: hs).length := by rw [List.length_cons, Hl.out]; exact hj
            rw [List.getElem?_eq_getElem hj2]
            rfl
          have he : (wrap32 (val hs) == r) = true := by
            rw [val_four r r0 r1 hs Hl.out Hn.out, IntWalk.wrap32_in r ⟨by omega, by omega⟩]
            simp
          have HXH : Hid (∀ j, j < 5 → wr.cell? ⟨w.heap.size, j, none⟩ = some (.int .u8 ((117 :: hs).getD j 0))) := HX
          clear HX hown
          go_wp2_with fail
          refine (zzhex4 w.heap.size (5 + q) (5 + q) hs wr (by omega) (by omega) (Nat.le_refl _) (by omega) Hl.out (digits_four r r0 hs Hl.out Hn.out) (HXH.out 0 (by omega)) (fun i hi => ?_)).mono ?_
          · rw [HXH.out (1 + i) (by omega), Nat.add_comm 1 i]
            rfl
          rintro e w' ⟨rfl, hw'⟩
          rw [hw']
          clear hw' w'
          go_wp2_with fail
          go_ret
          exact ⟨rfl, hb⟩

/-! ### From what came in -/
/-- WHAT THE SHELL's 'IsRow .u8' SAYS, written out. -/
def Came (w : World) (a : Option Addr) (len cap : Nat) (zs : List Int) : Prop :=
  (a = none ∧ len = 0 ∧ cap = 0 ∧ zs = []) ∨
  ∃ x, a = some x ∧ len ≤ cap ∧ cap ≤ maxLen ∧ zs.length = cap ∧ (∀ i, i < zs.length → w.cell? (x.add i) = some (.int .u8 (zs.getD i 0))) ∧ ∀ n ∈ zs, (Lit.int .u8 n).wf = true

theorem readsBack (r m : Int) (a : Option Addr) (len cap : Nat) (zs : List Int) (w : World) (h : Came w a len cap zs) :
    Calls Try.prog 3 #[.int .i32 r, .int .u8 m, .slice a len cap] w fun e w' => e = .returned (.bool true) ∧ Below w.heap.size w w' := by
  by_cases h1 : 1048576 < len
  · exact law_long r m a len cap w h1
  by_cases h2 : r < 0 ∨ 65535 < r
  · exact law_out r m a len cap w (by omega) h2
  refine law_in r m a len cap w (by omega) (by omega) (by omega) fun hpos => ?_
  rcases h with ⟨_, h0, _⟩ | ⟨x, hx, k1, _, k3, k4, _⟩
  · omega
  · exact ⟨x, hx, fun i hi => ⟨_, k4 i (by omega)⟩⟩

end Go.Proofs.Qxb6603708a
