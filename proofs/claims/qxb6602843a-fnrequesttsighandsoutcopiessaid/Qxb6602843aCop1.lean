import Derived.Test.Qxb6602843aCop
import Derived.Laws.Rows
namespace Go.Proofs.Qxb6602843a
open Go.ChangeShapes Go.WideShapes Go.ChangeAt Go.RowKit
set_option linter.unusedVariables false

/-! ### (*Request).TSIG once more: the new record's block is a plain row -/
set_option maxHeartbeats 400000 in
theorem tsig_own (p s : Nat) (k al : ByteArray) (ts fu oid rc : Int) (a5 a8 : Option Addr) (l5 c5 l8 c8 : Nat) (o5 o8 : Option (List Int)) (w : World)
    (hp : w.cell? ⟨p, 0, none⟩ = some (.pointer (some ⟨s, 0, none⟩))) (ht : Tsig w s 2 k al ts fu oid rc (.slice a5 l5 c5) (.slice a8 l8 c8))
    (r5 : Row w (.slice a5 l5 c5) o5) (r8 : Row w (.slice a8 l8 c8) o8) :
    Calls Try.prog 17 #[.pointer (some ⟨p, 0, none⟩)] w fun e w' => e = .returned (.pointer (some ⟨w.heap.size, 0, none⟩)) ∧ Below w.heap.size w w' ∧
      ∃ (b5 b8 : Option Addr) (m5 d5 m8 d8 M : Nat), Tsig w' w.heap.size 0 k al ts fu oid rc (.slice b5 m5 d5) (.slice b8 m8 d8) ∧ (∃ cs, w'.heap[w.heap.size]? = some (.cells cs 42 (0, 0))) ∧
        w.heap.size + 1 ≤ M ∧ M ≤ w'.heap.size ∧ Own (w.heap.size + 1) M w' (.slice b5 m5 d5) o5 ∧ Own M w'.heap.size w' (.slice b8 m8 d8) o8 := by
  obtain ⟨t0, t1, t2, t3, t4, t5, t6, t7⟩ := ht
  simp only [Nat.reduceAdd] at t1 t2 t3 t4 t5 t6 t7
  go_enter Try.func17, Try.ntmps17
  go_wp2_with fail
  refine (sclone_any _ _ o5 (r5.below ((Below.refl _ _).alloc (Nat.le_refl _) _))).mono ?_
  rintro e w2 ⟨b5, m5, d5, rfl, ho5, hb2⟩
  have sz2 : w.heap.size + 1 ≤ w2.heap.size := by have := hb2.size; rwa [World.size_alloc] at this
  have T2 : Hid (Tsig w2 w.heap.size 0 k al ts fu oid rc (.slice a5 l5 c5) (.slice a8 l8 c8)) :=
    Tsig.keep (w := w.alloc (.cells #[.string k, .string al, .int .u64 ts, .int .u16 fu, .slice a5 l5 c5, .int .u16 oid, .int .u16 rc, .slice a8 l8 c8] 42)) ⟨by simp, by simp, by simp, by simp, by simp, by simp, by simp, by simp⟩ (hb2.block _ (by simp))
  have F2 : ∀ j, w2.frozen? ⟨w.heap.size, j, none⟩ = false := fun j => (hb2.frozen (p := ⟨w.heap.size, j, none⟩) (by simp)).trans (by simp)
  have K2 : Hid (∃ cs, w2.heap[w.heap.size]? = some (.cells cs 42 (0, 0))) := ⟨_, (hb2.block _ (by simp)).trans (heap_alloc_new w _)⟩
  have B2 : Below w.heap.size w w2 := ((Below.refl _ _).alloc (Nat.le_refl _) _).trans (hb2.mono (by simp))
  rw [World.size_alloc] at ho5
  have O5 : Hid (Own (w.heap.size + 1) w2.heap.size w2 (.slice b5 m5 d5) o5) := ho5
  clear ho5 hb2 t0 t1 t2 t3 t4 t5 t6 t7 hp r5
  have f4 : w2.cell? ⟨w.heap.size, 4, none⟩ = some (.slice a5 l5 c5) := T2.out.c4
  have f7 : w2.cell? ⟨w.heap.size, 7, none⟩ = some (.slice a8 l8 c8) := T2.out.c7
  go_wp2_with fail
  refine (sclone_any _ _ o8 (r8.below (B2.setCell (Nat.le_refl _) _))).mono ?_
  rintro e w4 ⟨b8, m8, d8, rfl, ho8, hb4⟩
  rw [World.size_setCell] at ho8 hb4
  have T4 : Hid (Tsig w4 w.heap.size 0 k al ts fu oid rc (.slice b5 m5 d5) (.slice a8 l8 c8)) := (T2.out.set4 _).keep (hb4.block _ (by omega))
  have F4 : ∀ j, w4.frozen? ⟨w.heap.size, j, none⟩ = false := fun j => (hb4.frozen (p := ⟨w.heap.size, j, none⟩) (by show w.heap.size < w2.heap.size; omega)).trans (by rw [World.frozen?_setCell]; exact F2 j)
  have K4 : Hid (∃ cs, w4.heap[w.heap.size]? = some (.cells cs 42 (0, 0))) := by
    obtain ⟨cs, hcs⟩ := K2.out
    exact ⟨_, (hb4.block _ (by omega)).trans (heap_setCell_same _ _ _ cs 42 _ hcs)⟩
  have B4 : Below w.heap.size w w4 := (B2.setCell (Nat.le_refl _) _).trans (hb4.mono (by omega))
  have sz4 : w2.heap.size ≤ w4.heap.size := by have := hb4.size; rwa [World.size_setCell] at this
  have O5' : Hid (Own (w.heap.size + 1) w2.heap.size w4 (.slice b5 m5 d5) o5) := O5.out.below fun g h1 h2 => (hb4.block g h2).trans (Below.heap_setCell _ _ _ _ (by show g ≠ w.heap.size; omega))
  have O8 : Hid (Own w2.heap.size w4.heap.size w4 (.slice b8 m8 d8) o8) := ho8
  clear ho8 hb4 f4 f7 F2 r8
  have f7 : w4.cell? ⟨w.heap.size, 7, none⟩ = some (.slice a8 l8 c8) := T4.out.c7
  go_wp2_with fail
  go_ret
  refine ⟨rfl, B4.setCell (Nat.le_refl _) _, b5, b8, m5, d5, m8, d8, w2.heap.size, T4.out.set7 _, (K4.out.elim fun cs hcs => ⟨_, heap_setCell_same _ _ _ cs 42 _ hcs⟩), sz2, by rw [World.size_setCell]; exact sz4, ?_, ?_⟩
  · exact O5'.out.below fun g h1 h2 => Below.heap_setCell _ _ _ _ (by show g ≠ w.heap.size; omega)
  · rw [World.size_setCell]
    exact O8.out.below fun g h1 h2 => Below.heap_setCell _ _ _ _ (by show g ≠ w.heap.size; omega)

end Go.Proofs.Qxb6602843a
