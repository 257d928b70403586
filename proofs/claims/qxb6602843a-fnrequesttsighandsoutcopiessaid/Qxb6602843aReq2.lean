import Derived.Test.Qxb6602843aReq
import Derived.Laws.AppendOwn
import Derived.OwnWalk
namespace Go.Proofs.Qxb6602843a
open Go.ChangeShapes Go.WideShapes Go.ChangeAt Go.RowKit
set_option linter.unusedVariables false

/-- THE SLICE VALUE v READS AS o IN w, AND ITS ROW IS ONE OF THE BLOCKS FROM lo TO hi, not frozen, v at its head. -/
def Own (lo hi : Nat) (w : World) (v : Value) : Option (List Int) → Prop
  | none => v = .slice none 0 0
  | some zs => ∃ g cap, v = .slice (some ⟨g, 0, none⟩) zs.length cap ∧ lo ≤ g ∧ g < hi ∧ zs.length ≤ 1048576 ∧ (∀ j, w.frozen? ⟨g, j, none⟩ = false) ∧ ∀ i, i < zs.length → w.cell? ⟨g, i, none⟩ = some (.int .u8 (zs.getD i 0))

theorem Own.row {lo hi : Nat} {w : World} {v : Value} {o : Option (List Int)} (h : Own lo hi w v o) : Row w v o := by
  cases o with
  | none => exact h
  | some zs =>
    obtain ⟨g, cap, rfl, _, _, hl, _, hc⟩ := h
    exact ⟨⟨g, 0, none⟩, cap, rfl, hl, fun i hi => by rw [add_plain, Nat.zero_add]; exact hc i hi⟩

theorem own_of_ownsRow {B : Nat} {w : World} {v : Value} {zs : List Int} (hl : zs.length ≤ 1048576) (h : w.ownsRow B 5 1 v zs.length (zs.map (Value.int .u8))) (hne : v ≠ .slice none 0 0) : Own B w.heap.size w v (some zs) := by
  obtain ⟨h1, h | ⟨g, cap, cur, rfl, hB, hg, hcap, _, hsz, htk⟩⟩ := h
  · exact absurd h.1 hne
  · refine ⟨g, cap, rfl, hB, ?_, hl, fun j => by simp [World.frozen?, hg], fun i hi => ?_⟩
    · obtain ⟨hlt, _⟩ := Array.getElem?_eq_some_iff.1 hg
      exact hlt
    · have e : cur.toList[i]? = some (.int .u8 (zs.getD i 0)) := by
        have h2 : (cur.toList.take (zs.length * 1))[i]? = (zs.map (Value.int .u8))[i]? := by rw [htk]
        rw [List.getElem?_take_of_lt (by omega), List.getElem?_map, List.getElem?_eq_getElem hi] at h2
        rw [h2, List.getD_eq_getElem?_getD, List.getElem?_eq_getElem hi]
        rfl
      simpa [World.cell?, hg] using e

/-! ### slices.Clone -/
theorem sclone_nil (w : World) : Calls Try.prog 23 #[.slice none 0 0] w fun e w' => e = .returned (.slice none 0 0) ∧ w' = w := by
  have hn := fun (w : World) (a : Option Addr) (n c n' c' : Nat) => Lib.run_eql_slice_nil (P := Try.prog) w 32 5 a n c n' c' Try.underlying32
  go_enter Try.func23, Try.ntmps23
  go_wp2
  go_ret
  exact ⟨rfl, rfl⟩

set_option maxHeartbeats 400000 in
theorem sclone_some (w : World) (x : Addr) (cap : Nat) (zs : List Int) (hl : zs.length ≤ 1048576) (hc : ∀ i, i < zs.length → w.cell? (x.add i) = some (.int .u8 (zs.getD i 0))) :
    Calls Try.prog 23 #[.slice (some x) zs.length cap] w fun e w' => ∃ v', e = .returned v' ∧ Own w.heap.size w'.heap.size w' v' (some zs) ∧ Below w.heap.size w w' := by
  have hn := fun (w : World) (a : Option Addr) (n c n' c' : Nat) => Lib.run_eql_slice_nil (P := Try.prog) w 32 5 a n c n' c' Try.underlying32
  have Hc : Hid (∀ i, i < zs.length → w.cell? (x.add i) = some (.int .u8 (zs.getD i 0))) := hc
  clear hc
  obtain ⟨i0, hi, hz0, hz1, hz2⟩ := info_parts rinfo5
  go_enter Try.func23, Try.ntmps23
  go_wp2_with (at_builtin; refine wpList_append_own _ rfl _ _ 32 rfl w.heap.size 5 i0 (.int .u8 0) 1 1 Try.underlying32 hi hz0 hz1 hz2 rfl (by decide) (.slice (some ⟨w.heap.size, 0, none⟩) 0 0) 0 [] rfl ?c0 x zs.length cap (zs.map (Value.int .u8)) rfl ?ca ?c1 ?c2 ?c3 ?c4 ?c5 ?_)
  case c0 => exact World.ownsRow_lit w #[] 0 (Nat.le_refl _) (by simp [maxLen]) rfl
  case ca => simp
  case c1 =>
    intro j u hu
    have hj : j < zs.length := by
      have := (List.getElem?_eq_some_iff.1 hu).1
      simpa using this
    have h0 := Hc.out j hj
    rw [World.cell?_alloc_lt _ _ _ (block_of_cell h0), h0]
    rw [List.getElem?_map, List.getElem?_eq_getElem hj] at hu
    rw [List.getD_eq_getElem?_getD, List.getElem?_eq_getElem hj]
    exact hu
  case c2 =>
    intro u hu
    obtain ⟨n, _, rfl⟩ := List.mem_map.1 hu
    rfl
  case c3 => unfold maxLen; omega
  case c4 => omega
  case c5 => simp
  intro v' w1 hown hgrow hnil
  have Hne : Hid (v' ≠ .slice none 0 0) := hnil
  clear hnil hn hi hz0 hz1 hz2
  go_wp2
  go_ret
  refine ⟨v', rfl, own_of_ownsRow hl hown Hne.out, ?_⟩
  refine Below.grown ((Below.refl _ _).alloc (Nat.le_refl _) _) hgrow (by simp) ?_
  intro k hk
  simp [Value.ownBlock] at hk
  omega

theorem sclone_any (w : World) (v : Value) (o : Option (List Int)) (h : Row w v o) :
    Calls Try.prog 23 #[v] w fun e w' => ∃ a l c, e = .returned (.slice a l c) ∧ Own w.heap.size w'.heap.size w' (.slice a l c) o ∧ Below w.heap.size w w' := by
  cases o with
  | none =>
    obtain rfl : v = .slice none 0 0 := h
    exact (sclone_nil w).mono fun e w' ⟨h1, h2⟩ => ⟨_, _, _, h1, rfl, by rw [h2]; exact Below.refl _ _⟩
  | some zs =>
    obtain ⟨x, cap, rfl, hl, hc⟩ := h
    refine (sclone_some w x cap zs hl hc).mono fun e w' ⟨v', h1, h2, h3⟩ => ?_
    have h2' := h2
    obtain ⟨g, cap', rfl, _⟩ := h2'
    exact ⟨_, _, _, h1, h2, h3⟩

theorem Own.below {lo hi : Nat} {w w' : World} {v : Value} {o : Option (List Int)} (h : Own lo hi w v o) (k : ∀ g, lo ≤ g → g < hi → w'.heap[g]? = w.heap[g]?) : Own lo hi w' v o := by
  cases o with
  | none => exact h
  | some zs =>
    obtain ⟨g, cap, rfl, h1, h2, hl, hf, hc⟩ := h
    refine ⟨g, cap, rfl, h1, h2, hl, fun j => ?_, fun i hi => ?_⟩
    · rw [World.frozen?_of_block (w := w) (k g h1 h2)]; exact hf j
    · rw [World.cell?_of_block (w := w) (k g h1 h2)]; exact hc i hi
theorem Own.wide {lo hi lo' hi' : Nat} {w : World} {v : Value} {o : Option (List Int)} (h : Own lo hi w v o) (h1 : lo' ≤ lo) (h2 : hi ≤ hi') : Own lo' hi' w v o := by
  cases o with
  | none => exact h
  | some zs =>
    obtain ⟨g, cap, rfl, k1, k2, k3⟩ := h
    exact ⟨g, cap, rfl, by omega, by omega, k3⟩

end Go.Proofs.Qxb6602843a
