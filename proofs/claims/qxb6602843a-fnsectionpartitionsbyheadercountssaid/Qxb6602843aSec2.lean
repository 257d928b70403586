import Derived.Test.Qxb6602843aSec
import Derived.WalkSmall
import Derived.Below
namespace Go.Proofs.Qxb6602843a
open Go.ChangeShapes Go.WideShapes Go.ChangeAt Go.RowKit
theorem wpList_build_list {P : Program} {ops : Array Oper} {rest : List Oper} {o : Oper} {a : Act} {w : World} {Q : Exit → Act → World → Prop} (hg : o.guard = none) (t : TypeId) (parts : List (Nat × Operand)) (ho : o.op = .build t parts.toArray)
    (vs : List (Nat × Value)) (hv : (parts.map fun (i, x) => (i, a.eval x)) = vs) (cs : Array Value) (hb : (Instr.build t vs.toArray).run P w = .ok (.agg cs) w)
    (h : wpList P ops Q rest (a.put o.dst (.agg cs)) w) : wpList P ops Q (o :: rest) a w :=
  wpList_build_run hg t parts.toArray ho vs.toArray (by rw [← hv]; simp) cs hb h

theorem setRow2 (w : World) (A : Obj) (c c' : Array Value) (t : TypeId) : ((w.alloc A).alloc (.cells c t)).setRow (w.heap.size + 1) c' = (w.alloc A).alloc (.cells c' t) := by
  have h := World.setRow_alloc_new (w.alloc A) c c' t
  rwa [World.size_alloc] at h
theorem cell2 (w : World) (A : Obj) (c : Array Value) (t : TypeId) (j : Nat) : ((w.alloc A).alloc (.cells c t)).cell? ⟨w.heap.size + 1, j, none⟩ = c[j]? := by
  have h := cell_of_row ((w.alloc A).alloc (.cells c t)) (w.heap.size + 1) j c t (0, 0) (heap_alloc2_new w A _)
  exact h

/-! THE THREE OPERATIONS ON WHOLE ARRAYS -/
theorem op_load25 {ops : Array Oper} {rest : List Oper} {o : Oper} {a : Act} {w : World} {Q : Exit → Act → World → Prop} (hgd : o.guard = none) (x : Operand) (ho : o.op = .load 25 x)
    (g : Nat) (hx : a.eval x = .pointer (some ⟨g, 0, none⟩)) (hg : w.heap[g]? = some (.cells zarr 25))
    (h : wpList Try.prog ops Q rest (a.put o.dst (.agg zarr)) w) : wpList Try.prog ops Q (o :: rest) a w :=
  wpList_load_row hgd 25 x ho g hx 25 zarr (0, 0) _ hg Try.underlying25 rfl hsz25 h

theorem op_build45 {ops : Array Oper} {rest : List Oper} {o : Oper} {a : Act} {w : World} {Q : Exit → Act → World → Prop} (hgd : o.guard = none) (parts : List (Nat × Operand)) (ho : o.op = .build 45 parts.toArray)
    (r b u t : Int) (hv : (parts.map fun (i, x) => (i, a.eval x)) = [(0, .slice none 0 0), (1, .int .i64 0), (2, .int .i64 0), (3, .int .i64 0), (4, .int .i64 r), (5, .int .i64 b), (6, .int .i64 u), (7, .int .i64 t), (8, .int .i64 0), (9, .int .i64 0), (10, .int .i64 0), (11, .agg zarr)])
    (h : wpList Try.prog ops Q rest (a.put o.dst (.agg (rec45 r b u t))) w) : wpList Try.prog ops Q (o :: rest) a w :=
  wpList_build_list hgd 45 parts ho _ hv (rec45 r b u t) (build45 r b u t w) h

theorem op_store45 {ops : Array Oper} {rest : List Oper} {o : Oper} {a : Act} {w wx : World} {Q : Exit → Act → World → Prop} (hgd : o.guard = none) (x y : Operand) (ho : o.op = .store 45 x y)
    (r b u t : Int) (A : Obj) (hw : wx = (w.alloc A).alloc (.cells z45 45)) (hx : a.eval x = .pointer (some ⟨w.heap.size + 1, 0, none⟩)) (hy : a.eval y = .agg (rec45 r b u t))
    (h : ∀ w', w' = (w.alloc A).alloc (.cells (rec45 r b u t) 45) → wpList Try.prog ops Q rest (a.put o.dst undef) w') :
    wpList Try.prog ops Q (o :: rest) a wx := by
  subst hw
  exact wpList_store_row hgd 45 x y ho (w.heap.size + 1) (rec45 r b u t) hx hy 45 z45 (heap_alloc2_new w A _) (hsz45 r b u t) (z45size r b u t) (rec45one r b u t) (h _ (setRow2 _ _ _ _ _))

set_option maxRecDepth 100000 in
set_option maxHeartbeats 400000 in
theorem zzsec (r a u t : Int) (w : World) (ha : 0 ≤ a) (ha' : a ≤ 65535) (hu : 0 ≤ u) (hu' : u ≤ 65535) :
    Calls Try.prog 13 #[.slice none 0 0, .int .i64 0, .int .i64 0, .int .i64 0, .int .i64 r, .int .i64 a, .int .i64 u, .int .i64 t, .int .i64 0, .int .i64 0, .int .i64 0, .agg zarr] w fun e w' => e = .returned (.int .u8 (sec r a u)) ∧ Grown w w' ∧ Below w.heap.size w w' := by
  have hz := (zero_of_info info45).1
  go_enter Try.func13, Try.ntmps13
  go_wp2_with (first
    | (go_at_call 22; refine (section_any (w.heap.size + 1) r a u _ ha ha' hu hu' (by rw [H1.out, cell2]; exact rec45_4 r a u t) (by rw [H1.out, cell2]; exact rec45_5 r a u t) (by rw [H1.out, cell2]; exact rec45_6 r a u t)).mono ?_; rintro e w' ⟨rfl, n, rfl⟩)
    | ((with_reducible refine op_load25 rfl _ rfl w.heap.size ?_ ?_ ?_); (· rfl); (· exact heap_alloc_last w _))
    | ((with_reducible refine op_build45 rfl _ rfl r a u t ?_ ?_); (· rfl))
    | ((with_reducible refine op_store45 (w := w) rfl _ _ rfl r a u t (.cells zarr 25) rfl ?_ ?_ ?_); (· rfl); (· rfl); intro w1 hw1; have H1 : Hid (w1 = (w.alloc (.cells zarr 25)).alloc (.cells (rec45 r a u t) 45)) := hw1; clear hw1))
  go_ret
  have hg : Grown w w1 ∧ Below w.heap.size w w1 := by
    rw [H1.out]
    exact ⟨((Grown.refl w).alloc _ _).alloc _ _, ((Below.refl _ _).alloc (Nat.le_refl _) _).alloc (by simp) _⟩
  exact ⟨rfl, Grown.trans' hg.1 (drewN_grown _ _), below_drewN hg.2 _⟩
end Go.Proofs.Qxb6602843a
