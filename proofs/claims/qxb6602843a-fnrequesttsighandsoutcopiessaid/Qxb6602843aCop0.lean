import Derived.Test.Qxb6602843aCop1
import Derived.LaidEqlPtr
namespace Go.Proofs.Qxb6602843a
open Go.ChangeShapes Go.WideShapes Go.ChangeAt Go.RowKit
set_option linter.unusedVariables false

/-- ONLY THE BLOCKS FROM lo TO hi MAY HAVE BEEN WRITTEN; none is new. -/
structure Keeps (lo hi : Nat) (w w' : World) : Prop where
  os : w'.os = w.os
  tape : w'.tape = w.tape
  output : w'.output = w.output
  size : w'.heap.size = w.heap.size
  block : ∀ g, (g < lo ∨ hi ≤ g) → w'.heap[g]? = w.heap[g]?

theorem Keeps.refl (lo hi : Nat) (w : World) : Keeps lo hi w w := ⟨rfl, rfl, rfl, rfl, fun _ _ => rfl⟩
theorem Keeps.drew {lo hi : Nat} {w w' : World} (h : Keeps lo hi w w') : Keeps lo hi w w'.drew := ⟨h.os, h.tape, h.output, h.size, h.block⟩
theorem Keeps.set {lo hi : Nat} {w w' : World} (h : Keeps lo hi w w') {a : Addr} (h1 : lo ≤ a.block) (h2 : a.block < hi) (v : Value) : Keeps lo hi w (w'.setCell a v) :=
  ⟨h.os, h.tape, h.output, by rw [World.size_setCell]; exact h.size, fun g hg => (Below.heap_setCell _ _ _ _ (by omega)).trans (h.block g hg)⟩
theorem Keeps.wide {lo hi lo' : Nat} {w w' : World} (h : Keeps lo hi w w') (h1 : lo' ≤ lo) : Keeps lo' hi w w' :=
  ⟨h.os, h.tape, h.output, h.size, fun g hg => h.block g (by omega)⟩
theorem Keeps.below {lo hi : Nat} {w w' : World} (h : Keeps lo hi w w') : Below lo w w' :=
  ⟨h.os, h.tape, h.output, by rw [h.size]; exact Nat.le_refl _, fun g hg => h.block g (.inl hg)⟩

/-- n BYTES LIE AT a, in a block from lo to hi, none frozen. -/
def Wr (lo hi : Nat) (w : World) (a : Option Addr) (n : Nat) : Prop :=
  n ≤ 1048576 ∧ (0 < n → ∃ g, a = some ⟨g, 0, none⟩ ∧ lo ≤ g ∧ g < hi ∧ (∀ j, w.frozen? ⟨g, j, none⟩ = false) ∧ ∀ i, i < n → ∃ z, w.cell? ⟨g, i, none⟩ = some (.int .u8 z))
theorem Own.wr {lo hi : Nat} {w : World} {a : Option Addr} {n c : Nat} {o : Option (List Int)} (h : Own lo hi w (.slice a n c) o) : Wr lo hi w a n := by
  cases o with
  | none =>
    have h' : (Value.slice a n c) = .slice none 0 0 := h
    simp at h'
    obtain ⟨_, rfl, _⟩ := h'
    exact ⟨Nat.zero_le _, fun h => absurd h (Nat.lt_irrefl _)⟩
  | some zs =>
    obtain ⟨g, cap, he, h1, h2, hl, hf, hc⟩ := h
    simp at he
    obtain ⟨rfl, rfl, rfl⟩ := he
    exact ⟨hl, fun _ => ⟨g, rfl, h1, h2, hf, fun i hi => ⟨_, hc i hi⟩⟩⟩
theorem Wr.set {lo hi : Nat} {w : World} {a : Option Addr} {n : Nat} (h : Wr lo hi w a n) (b : Addr) (x : Int) : Wr lo hi (w.setCell b (.int .u8 x)) a n := by
  refine ⟨h.1, fun hn => ?_⟩
  obtain ⟨g, ha, h1, h2, hf, hc⟩ := h.2 hn
  refine ⟨g, ha, h1, h2, fun j => by rw [World.frozen?_setCell]; exact hf j, fun i hi => ?_⟩
  obtain ⟨z, hz⟩ := hc i hi
  by_cases e : b = ⟨g, i, none⟩
  · subst e; exact ⟨x, World.cell?_setCell_same _ _ _ hz⟩
  · exact ⟨z, by rw [World.cell?_setCell_other _ _ _ _ e]; exact hz⟩
theorem Wr.drew {lo hi : Nat} {w : World} {a : Option Addr} {n : Nat} (h : Wr lo hi w a n) : Wr lo hi w.drew a n := h
theorem Wr.low {lo hi lo' hi' : Nat} {w : World} {a : Option Addr} {n : Nat} (h : Wr lo hi w a n) (h1 : lo' ≤ lo) (h2 : hi ≤ hi') : Wr lo' hi' w a n := by
  refine ⟨h.1, fun hn => ?_⟩
  obtain ⟨g, ha, k1, k2, k3⟩ := h.2 hn
  exact ⟨g, ha, by omega, by omega, k3⟩

/-- Two records in different blocks are not one. -/
theorem ptr_ne (w : World) (p q : Nat) (h : p ≠ q) (h1 : ∃ cs, w.heap[p]? = some (.cells cs 42 (0, 0))) (h2 : ∃ cs, w.heap[q]? = some (.cells cs 42 (0, 0))) :
    (binOp .eql 37 (.pointer (some ⟨p, 0, none⟩)) (.pointer (some ⟨q, 0, none⟩))).run Try.prog w = .ok (.bool false) w := by
  obtain ⟨c1, h1⟩ := h1
  obtain ⟨c2, h2⟩ := h2
  obtain ⟨j, hj, hs⟩ : ∃ j, Try.prog.info? 42 = some j ∧ j.size = 8 := by
    have h : (Try.prog.info? 42).map (fun i => i.size) = some 8 := by kernel_rfl
    obtain ⟨j, hj, hs⟩ := Option.map_eq_some_iff.1 h
    exact ⟨j, hj, hs⟩
  exact run_eql_ptr_other w Try.underlying37 hj (by omega) (fun e => h (congrArg Addr.block e)) h1 h2

theorem Tsig.drewN {w : World} {s d : Nat} {k al : ByteArray} {ts fu oid rc : Int} {m t : Value} (h : Tsig w s d k al ts fu oid rc m t) (n : Nat) : Tsig (w.drewN n) s d k al ts fu oid rc m t := h.keep rfl

end Go.Proofs.Qxb6602843a
