import Derived.Test.Qxb6602843aRows
import Derived.WalkKit
import Derived.ProofKit
import Derived.OpenShut
import Derived.ShutString
import Derived.BigQuiet
import Derived.Deep.QuietTactic
import Derived.Deep.WholeRow
namespace Go.Proofs.Qxb6602843a
open Go.ChangeShapes Go.WideShapes Go.ChangeAt Go.RowKit

theorem Grown.trans' {a b c : World} (h : Grown a b) (k : Grown b c) : Grown a c :=
  ⟨World.keptBut_trans h.1 k.1, fun x => (k.2.1 x).trans (h.2.1 x), Nat.le_trans h.2.2 k.2.2⟩

theorem drewN_grown (w : World) : ∀ n, Grown w (w.drewN n) := fun n => by
  refine ⟨?_, ?_, ?_⟩
  · exact ⟨rfl, rfl, (World.keptBut_refl w (fun _ => False)).2.2⟩
  · intro a; rfl
  · exact Nat.le_refl _

/-! ### (*recordWalk).section : the three ways -/
set_option maxHeartbeats 400000 in
theorem section_1 (b : Nat) (r a : Int) (w : World) (h : r ≤ a)
    (h4 : w.cell? ⟨b, 4, none⟩ = some (.int .i64 r)) (h5 : w.cell? ⟨b, 5, none⟩ = some (.int .i64 a)) :
    Calls Try.prog 22 #[.pointer (some ⟨b, 0, none⟩)] w fun e w' => e = .returned (.int .u8 1) ∧ ∃ n, w' = w.drewN n := by
  go_enter Try.func22, Try.ntmps22
  go_wp2
  go_quiet (fail)
  go_wp2
  go_ret
  exact ⟨rfl, _, rfl⟩

set_option maxHeartbeats 400000 in
theorem section_2 (b : Nat) (r a u : Int) (w : World) (h : ¬ r ≤ a) (h' : r ≤ a + u) (ha : 0 ≤ a) (ha' : a ≤ 65535) (hu : 0 ≤ u) (hu' : u ≤ 65535)
    (h4 : w.cell? ⟨b, 4, none⟩ = some (.int .i64 r)) (h5 : w.cell? ⟨b, 5, none⟩ = some (.int .i64 a)) (h6 : w.cell? ⟨b, 6, none⟩ = some (.int .i64 u)) :
    Calls Try.prog 22 #[.pointer (some ⟨b, 0, none⟩)] w fun e w' => e = .returned (.int .u8 2) ∧ ∃ n, w' = w.drewN n := by
  go_enter Try.func22, Try.ntmps22
  go_wp2
  go_quiet (fail)
  go_wp2
  go_quiet (fail)
  go_wp2
  go_ret
  exact ⟨rfl, _, by rw [World.drewN_drewN]⟩

set_option maxHeartbeats 400000 in
theorem section_3 (b : Nat) (r a u : Int) (w : World) (h : ¬ r ≤ a) (h' : ¬ r ≤ a + u) (ha : 0 ≤ a) (ha' : a ≤ 65535) (hu : 0 ≤ u) (hu' : u ≤ 65535)
    (h4 : w.cell? ⟨b, 4, none⟩ = some (.int .i64 r)) (h5 : w.cell? ⟨b, 5, none⟩ = some (.int .i64 a)) (h6 : w.cell? ⟨b, 6, none⟩ = some (.int .i64 u)) :
    Calls Try.prog 22 #[.pointer (some ⟨b, 0, none⟩)] w fun e w' => e = .returned (.int .u8 3) ∧ ∃ n, w' = w.drewN n := by
  go_enter Try.func22, Try.ntmps22
  go_wp2
  go_quiet (fail)
  go_wp2
  go_quiet (fail)
  go_wp2
  go_ret
  exact ⟨rfl, _, by rw [World.drewN_drewN]⟩

def sec (r a u : Int) : Int := if r ≤ a then 1 else if r ≤ a + u then 2 else 3

theorem section_any (b : Nat) (r a u : Int) (w : World) (ha : 0 ≤ a) (ha' : a ≤ 65535) (hu : 0 ≤ u) (hu' : u ≤ 65535)
    (h4 : w.cell? ⟨b, 4, none⟩ = some (.int .i64 r)) (h5 : w.cell? ⟨b, 5, none⟩ = some (.int .i64 a)) (h6 : w.cell? ⟨b, 6, none⟩ = some (.int .i64 u)) :
    Calls Try.prog 22 #[.pointer (some ⟨b, 0, none⟩)] w fun e w' => e = .returned (.int .u8 (sec r a u)) ∧ ∃ n, w' = w.drewN n := by
  unfold sec
  by_cases h : r ≤ a
  · rw [if_pos h]; exact section_1 b r a w h h4 h5
  · rw [if_neg h]
    by_cases h' : r ≤ a + u
    · rw [if_pos h']; exact section_2 b r a u w h h' ha ha' hu hu' h4 h5 h6
    · rw [if_neg h']; exact section_3 b r a u w h h' ha ha' hu hu' h4 h5 h6

/-! ### ZZRecordWalkSection: the array of 255 bytes by value, whole -/
def zarr : Array Value := Array.replicate 255 (.int .u8 0)
theorem info25 : (Try.prog.info? 25).map (fun i => (i.zero, i.size)) = some (some (.agg zarr), 255) := by kernel_rfl
def z45 : Array Value := #[.slice none 0 0, .int .i64 0, .int .i64 0, .int .i64 0, .int .i64 0, .int .i64 0, .int .i64 0, .int .i64 0, .int .i64 0, .int .i64 0, .int .i64 0] ++ zarr
theorem info45 : (Try.prog.info? 45).map (fun i => (i.zero, i.size)) = some (some (.agg z45), 266) := by kernel_rfl
theorem hsz25 : (Try.prog.info? 25).map (·.size) = some zarr.size := by kernel_rfl
def rec45 (r a u t : Int) : Array Value := #[.slice none 0 0, .int .i64 0, .int .i64 0, .int .i64 0, .int .i64 r, .int .i64 a, .int .i64 u, .int .i64 t, .int .i64 0, .int .i64 0, .int .i64 0] ++ zarr
theorem hsz45 (r a u t : Int) : (Try.prog.info? 45).map (·.size) = some (rec45 r a u t).size := by kernel_rfl
theorem z45size (r a u t : Int) : z45.size = (rec45 r a u t).size := by kernel_rfl
theorem rec45one (r a u t : Int) : (rec45 r a u t).all (·.oneCell') = true := by kernel_rfl
theorem rec45_4 (r a u t : Int) : (rec45 r a u t)[4]? = some (.int .i64 r) := by kernel_rfl
theorem rec45_5 (r a u t : Int) : (rec45 r a u t)[5]? = some (.int .i64 a) := by kernel_rfl
theorem rec45_6 (r a u t : Int) : (rec45 r a u t)[6]? = some (.int .i64 u) := by kernel_rfl
theorem build45 (r a u t : Int) (w : World) : (Instr.build 45 #[(0, .slice none 0 0), (1, .int .i64 0), (2, .int .i64 0), (3, .int .i64 0), (4, .int .i64 r), (5, .int .i64 a), (6, .int .i64 u), (7, .int .i64 t), (8, .int .i64 0), (9, .int .i64 0), (10, .int .i64 0), (11, .agg zarr)]).run Try.prog w = .ok (.agg (rec45 r a u t)) w := by kernel_rfl

theorem wpList_build_run {P : Program} {ops : Array Oper} {rest : List Oper} {o : Oper} {a : Act} {w : World} {Q : Exit → Act → World → Prop} (hg : o.guard = none) (t : TypeId) (parts : Array (Nat × Operand)) (ho : o.op = .build t parts)
    (vs : Array (Nat × Value)) (hv : (parts.map fun (i, x) => (i, a.eval x)) = vs) (cs : Array Value) (hb : (Instr.build t vs).run P w = .ok (.agg cs) w)
    (h : wpList P ops Q rest (a.put o.dst (.agg cs)) w) : wpList P ops Q (o :: rest) a w :=
  wpList_plain hg fun _ hK => by
    unfold Oper.wp execOp
    simp only [ho, hv, Sem.run_bind, hb, Result.andThen_ok, Sem.run_pure]
    exact hK _ _ h


end Go.Proofs.Qxb6602843a
