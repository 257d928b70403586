import Derived.Test.Qxb6602843aSec2
namespace Go.Proofs.Qxb6602843a
open Go.ChangeShapes Go.WideShapes Go.ChangeAt Go.RowKit

theorem sec_1 (k a u : Int) (h : k ≤ a) : sec k a u = 1 := by unfold sec; rw [if_pos h]
theorem sec_2 (k a u : Int) (h0 : 1 ≤ k) (h : k ≤ u) : sec (a + k) a u = 2 := by unfold sec; rw [if_neg (by omega), if_pos (by omega)]
theorem sec_3 (k a u : Int) (h0 : 1 ≤ k) (hu : 0 ≤ u) : sec (a + u + k) a u = 3 := by unfold sec; rw [if_neg (by omega), if_neg (by omega)]
theorem keep25 {w wr w' : World} (hh : wr.heap[w.heap.size]? = some (.cells zarr 25)) (hs : w.heap.size < wr.heap.size) (hg : Grown w wr) (g : Grown wr w') (b : Below wr.heap.size wr w') :
    w'.heap[w.heap.size]? = some (.cells zarr 25) ∧ w.heap.size < w'.heap.size ∧ Grown w w' :=
  ⟨(b.block _ hs).trans hh, Nat.lt_of_lt_of_le hs b.size, Grown.trans' hg g⟩

set_option maxRecDepth 100000 in
set_option maxHeartbeats 1000000 in
theorem partitions (a0 : Int) (a1 : Int) (a2 : Int) (w0 : (Lit.int .u16 a0).wf = true) (w1 : (Lit.int .u16 a1).wf = true) (w2 : (Lit.int .u16 a2).wf = true) (w : World) :
    Calls Try.prog 6 #[.int .u16 a0, .int .u16 a1, .int .u16 a2] w fun e w' => e = .returned (.bool true) ∧ Grown w w' := by
  obtain ⟨l0, u0⟩ := bounds_u16 w0
  obtain ⟨l1, u1⟩ := bounds_u16 w1
  obtain ⟨l2, u2⟩ := bounds_u16 w2
  clear w0 w1 w2
  have hz := (zero_of_info info25).1
  go_enter Try.func6, Try.ntmps6
  go_wp2_with fail
  go_loopw [12] (fun i wr => ∃ k : Int, 1 ≤ k ∧ k ≤ a0 + 1 ∧ i = .int .i64 k ∧ wr.heap[w.heap.size]? = some (.cells zarr 25) ∧ w.heap.size < wr.heap.size ∧ Grown w wr) (fun i _ => (a0 + 1 - intOf i).toNat)
  case atStart => exact ⟨1, by omega, by omega, rfl, heap_alloc_last w _, by simp, (Grown.refl w).alloc _ _⟩
  case round =>
    obtain ⟨k, hk1, hk2, rfl, hh, hs, hg⟩ := hrel
    have Hh : Hid (wr.heap[w.heap.size]? = some (.cells zarr 25)) := hh
    clear hh hz
    by_cases hlt : k ≤ a0
    · have hsec := sec_1 k a0 a1 hlt
      go_wp2_with (first
        | (go_at_call 13; refine (zzsec k a0 a1 _ wr l0 u0 l1 u1).mono ?_; rintro e w' ⟨rfl, g, b⟩)
        | ((with_reducible refine op_load25 rfl _ rfl w.heap.size ?_ ?_ ?_); (· rfl); (· exact Hh.out)))
      go_roundw
      case rel =>
        obtain ⟨c1, c2, c3⟩ := keep25 Hh.out hs hg g b
        exact ⟨k + 1, by omega, by omega, rfl, c1, c2, c3⟩
      case measure => simp [intOf]; omega
    · go_wp2_with fail
      go_loopw [13] (fun i wr => ∃ k : Int, 1 ≤ k ∧ k ≤ a1 + 1 ∧ i = .int .i64 k ∧ wr.heap[w.heap.size]? = some (.cells zarr 25) ∧ w.heap.size < wr.heap.size ∧ Grown w wr) (fun i _ => (a1 + 1 - intOf i).toNat)
      case atStart => exact ⟨1, by omega, by omega, rfl, Hh.out, hs, hg⟩
      case round =>
        clear Hh hs hg hk1 hk2 hlt
        obtain ⟨k', hk1, hk2, rfl, hh, hs, hg⟩ := hrel
        have Hh : Hid (wr.heap[w.heap.size]? = some (.cells zarr 25)) := hh
        clear hh
        by_cases hlt : k' ≤ a1
        · have hsec := sec_2 k' a0 a1 hk1 hlt
          go_wp2_with (first
            | (go_at_call 13; refine (zzsec (a0 + k') a0 a1 _ wr l0 u0 l1 u1).mono ?_; rintro e w' ⟨rfl, g, b⟩)
            | ((with_reducible refine op_load25 rfl _ rfl w.heap.size ?_ ?_ ?_); (· rfl); (· exact Hh.out)))
          go_roundw
          case rel =>
            obtain ⟨c1, c2, c3⟩ := keep25 Hh.out hs hg g b
            exact ⟨k' + 1, by omega, by omega, rfl, c1, c2, c3⟩
          case measure => simp [intOf]; omega
        · go_wp2_with fail
          go_loopw [14] (fun i wr => ∃ k : Int, 1 ≤ k ∧ k ≤ a2 + 1 ∧ i = .int .i64 k ∧ wr.heap[w.heap.size]? = some (.cells zarr 25) ∧ w.heap.size < wr.heap.size ∧ Grown w wr) (fun i _ => (a2 + 1 - intOf i).toNat)
          case atStart => exact ⟨1, by omega, by omega, rfl, Hh.out, hs, hg⟩
          case round =>
            clear Hh hs hg hk1 hk2 hlt
            obtain ⟨k'', hk1, hk2, rfl, hh, hs, hg⟩ := hrel
            have Hh : Hid (wr.heap[w.heap.size]? = some (.cells zarr 25)) := hh
            clear hh
            by_cases hlt : k'' ≤ a2
            · have hsec := sec_3 k'' a0 a1 hk1 l1
              go_wp2_with (first
                | (go_at_call 13; refine (zzsec (a0 + a1 + k'') a0 a1 _ wr l0 u0 l1 u1).mono ?_; rintro e w' ⟨rfl, g, b⟩)
                | ((with_reducible refine op_load25 rfl _ rfl w.heap.size ?_ ?_ ?_); (· rfl); (· exact Hh.out)))
              go_roundw
              case rel =>
                obtain ⟨c1, c2, c3⟩ := keep25 Hh.out hs hg g b
                exact ⟨k'' + 1, by omega, by omega, rfl, c1, c2, c3⟩
              case measure => simp [intOf]; omega
            · go_wp2_with fail
              go_ret
              exact ⟨rfl, hg⟩

end Go.Proofs.Qxb6602843a
