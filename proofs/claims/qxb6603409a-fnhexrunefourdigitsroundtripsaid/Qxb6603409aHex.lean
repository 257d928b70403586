import Derived.Test.Qxb6603409aRows
import Derived.WalkKit
import Derived.ProofKit
import Derived.OpenShut
import Derived.ShutString
import Derived.BigQuiet
import Derived.Deep.QuietTactic
import Derived.Deep.OwnRows
import Derived.WalkSmall
import Derived.Below
import Derived.Lib.SliceRun
import Derived.WalkSpells
namespace Go.Proofs.Qxb6603409a
open Go.ChangeShapes Go.WideShapes Go.ChangeAt Go.RowKit
set_option linter.unusedVariables false

theorem rinfo5 : (Try.prog.info? 5).map (fun i => (i.zero, i.size, i.bytes)) = some (some (.int .u8 0), 1, 1) := by kernel_rfl

/-- THE SLICE VALUE v READS AS o IN w: nil; or the bytes zs. -/
def Row (w : World) (v : Value) : Option (List Int) → Prop
  | none => v = .slice none 0 0
  | some zs => ∃ x cap, v = .slice (some x) zs.length cap ∧ zs.length ≤ 1048576 ∧ ∀ i, i < zs.length → w.cell? (x.add i) = some (.int .u8 (zs.getD i 0))

theorem block_of_cell {w : World} {a : Addr} {v : Value} (h : w.cell? a = some v) : a.block < w.heap.size := by
  by_cases hlt : a.block < w.heap.size
  · exact hlt
  · have hn : w.heap[a.block]? = none := by simp; omega
    simp [World.cell?, hn] at h

theorem Row.below {w w' : World} {v : Value} {o : Option (List Int)} (h : Row w v o) (b : Below w.heap.size w w') : Row w' v o := by
  cases o with
  | none => exact h
  | some zs =>
    obtain ⟨x, cap, rfl, hl, hc⟩ := h
    exact ⟨x, cap, rfl, hl, fun i hi => (b.cell (block_of_cell (hc i hi))).trans (hc i hi)⟩

/-! ### cloneBytes -/
def copied (zs : List Int) (k : Nat) (j : Nat) : Value := .int .u8 (if j < k then zs.getD j 0 else 0)
theorem copied_set (zs : List Int) (k : Nat) (j : Nat) : (if j = k then Value.int .u8 (zs.getD k 0) else copied zs k j) = copied zs (k + 1) j := by
  unfold copied
  by_cases e : j = k
  · subst e
    rw [if_pos rfl, if_pos (by omega)]
  · rw [if_neg e]
    by_cases h' : j < k
    · rw [if_pos h', if_pos (by omega)]
    · rw [if_neg h', if_neg (by omega)]

theorem clone_nil (w : World) : Calls Try.prog 14 #[.slice none 0 0] w fun e w' => e = .returned (.slice none 0 0) ∧ w' = w := by
  have hn := fun (w : World) (a : Option Addr) (n c n' c' : Nat) => Lib.run_eql_slice_nil (P := Try.prog) w 27 5 a n c n' c' Try.underlying27
  go_enter Try.func14, Try.ntmps14
  go_wp2
  go_ret
  exact ⟨rfl, rfl⟩

set_option maxHeartbeats 400000 in
theorem clone_some (w : World) (x : Addr) (cap : Nat) (zs : List Int) (hl : zs.length ≤ 1048576) (hc : ∀ i, i < zs.length → w.cell? (x.add i) = some (.int .u8 (zs.getD i 0))) :
    Calls Try.prog 14 #[.slice (some x) zs.length cap] w fun e w' => e = .returned (.slice (some ⟨w.heap.size, 0, none⟩) zs.length zs.length) ∧ w'.rowIs w.heap.size 5 zs.length (copied zs zs.length) ∧ Below w.heap.size w w' := by
  have hn := fun (w : World) (a : Option Addr) (n c n' c' : Nat) => Lib.run_eql_slice_nil (P := Try.prog) w 27 5 a n c n' c' Try.underlying27
  have hmk := run_make_row' (P := Try.prog) 27 5 (.int .u8 0) 1 Try.underlying27 rinfo5 rfl .i64 .i64 zs.length (by omega) (by omega)
  have Hc : Hid (∀ i, i < zs.length → w.cell? (x.add i) = some (.int .u8 (zs.getD i 0))) := hc
  clear hc
  go_enter Try.func14, Try.ntmps14
  go_wp2_with fail
  go_loopw [4] (fun i wr => ∃ k : Nat, k ≤ zs.length ∧ i = .int .i64 k ∧ wr.rowIs w.heap.size 5 zs.length (copied zs k) ∧ Below w.heap.size w wr) (fun i _ => zs.length - (intOf i).toNat)
  case atStart =>
    exact ⟨0, Nat.zero_le _, rfl, (World.rowIs_made w (.int .u8 0) zs.length 5).congr fun j _ => by unfold copied; rw [if_neg (by omega)], (Below.refl _ _).alloc (Nat.le_refl _) _⟩
  case round =>
    obtain ⟨k, hk, rfl, hr, hb⟩ := hrel
    clear hmk hn
    by_cases hlt : k < zs.length
    · have q : wr.cell? ⟨w.heap.size, k, none⟩ = some (copied zs k k) := hr.cell hlt
      have q' : wr.frozen? ⟨w.heap.size, k, none⟩ = false := hr.frozen k
      obtain ⟨z, hz⟩ : ∃ z, zs.getD k 0 = z := ⟨_, rfl⟩
      have q2 : wr.cell? (x.add k) = some (.int .u8 z) := by rw [← hz]; exact (hb.cell (block_of_cell (Hc.out k hlt))).trans (Hc.out k hlt)
      have Hz : Hid (zs.getD k 0 = z) := hz
      clear hz
      have Hr : Hid (wr.rowIs w.heap.size 5 zs.length (copied zs k)) := hr
      clear hr
      go_wp2
      go_roundw
      case rel =>
        exact ⟨k + 1, by omega, by go_num, (Hr.out.set k _).congr fun j _ => by rw [← Hz.out]; exact copied_set zs k j, hb.setCell (Nat.le_refl _) _⟩
      case measure => simp [intOf]; omega
    · have e : k = zs.length := by omega
      subst e
      go_wp2
      go_ret
      exact ⟨rfl, hr, hb⟩

theorem clone_any (w : World) (v : Value) (o : Option (List Int)) (h : Row w v o) :
    Calls Try.prog 14 #[v] w fun e w' => ∃ a l c, e = .returned (.slice a l c) ∧ Row w' (.slice a l c) o ∧ Below w.heap.size w w' := by
  cases o with
  | none =>
    obtain rfl : v = .slice none 0 0 := h
    exact (clone_nil w).mono fun e w' ⟨h1, h2⟩ => ⟨_, _, _, h1, rfl, by rw [h2]; exact Below.refl _ _⟩
  | some zs =>
    obtain ⟨x, cap, rfl, hl, hc⟩ := h
    refine (clone_some w x cap zs hl hc).mono fun e w' ⟨h1, h2, h3⟩ => ⟨_, _, _, h1, ⟨⟨w.heap.size, 0, none⟩, zs.length, rfl, hl, fun i hi => ?_⟩, h3⟩
    rw [add_plain, Nat.zero_add, h2.cell hi]
    unfold copied
    rw [if_pos hi]


/-! ### the bounds on the total length (func 12, 16) -/

theorem bytes12_yes (a : Option Addr) (l c : Nat) (w : World) (h : l ≤ 1048576) : Calls Try.prog 12 #[.slice a l c] w fun e w' => e = .returned (.bool true) ∧ w' = w := by
  have h1 : ¬ (1048576 : Int) < (l : Int) := by omega
  go_enter Try.func12, Try.ntmps12
  go_wp2
  go_ret
  exact ⟨rfl, rfl⟩
theorem bytes12_no (a : Option Addr) (l c : Nat) (w : World) (h : 1048576 < l) : Calls Try.prog 12 #[.slice a l c] w fun e w' => e = .returned (.bool false) ∧ w' = w := by
  have h1 : (1048576 : Int) < (l : Int) := by omega
  go_enter Try.func12, Try.ntmps12
  go_wp2
  go_ret
  exact ⟨rfl, rfl⟩

theorem bytes16_yes (a : Option Addr) (l c : Nat) (w : World) (h : l ≤ 1048576) : Calls Try.prog 16 #[.slice a l c] w fun e w' => e = .returned (.bool true) ∧ w' = w := by
  have h1 : ¬ (1048576 : Int) < (l : Int) := by omega
  go_enter Try.func16, Try.ntmps16
  go_wp2
  go_ret
  exact ⟨rfl, rfl⟩
theorem bytes16_no (a : Option Addr) (l c : Nat) (w : World) (h : 1048576 < l) : Calls Try.prog 16 #[.slice a l c] w fun e w' => e = .returned (.bool false) ∧ w' = w := by
  have h1 : (1048576 : Int) < (l : Int) := by omega
  go_enter Try.func16, Try.ntmps16
  go_wp2
  go_ret
  exact ⟨rfl, rfl⟩

/-! ### hexDigitValue -/
def dig (c : Int) : Int := if 48 ≤ c ∧ c ≤ 57 then c - 48 else if 97 ≤ c ∧ c ≤ 102 then c - 97 + 10 else if 65 ≤ c ∧ c ≤ 70 then c - 65 + 10 else -1

set_option maxHeartbeats 400000 in
theorem dig_any (c : Int) (w : World) (h0 : 0 ≤ c) (h1 : c ≤ 255) : Calls Try.prog 13 #[.int .u8 c] w fun e w' => e = .returned (.int .i64 (dig c)) ∧ w' = w := by
  unfold dig
  by_cases a1 : 48 ≤ c
  · by_cases a2 : c ≤ 57
    · rw [if_pos ⟨a1, a2⟩]
      go_enter Try.func13, Try.ntmps13
      go_wp2
      go_ret
      exact ⟨rfl, rfl⟩
    · rw [if_neg (by omega)]
      by_cases b1 : 97 ≤ c
      · by_cases b2 : c ≤ 102
        · rw [if_pos ⟨b1, b2⟩]
          go_enter Try.func13, Try.ntmps13
          go_wp2
          go_ret
          exact ⟨rfl, rfl⟩
        · rw [if_neg (by omega), if_neg (by omega)]
          have c1 : 65 ≤ c := by omega
          have c2 : ¬ c ≤ 70 := by omega
          go_enter Try.func13, Try.ntmps13
          go_wp2
          go_ret
          exact ⟨rfl, rfl⟩
      · rw [if_neg (by omega)]
        have d1 : decide ((97 : Int) ≤ c) = false := decide_eq_false b1
        by_cases c1 : 65 ≤ c
        · by_cases c2 : c ≤ 70
          · rw [if_pos ⟨c1, c2⟩]
            go_enter Try.func13, Try.ntmps13
            go_wp2
            go_ret
            exact ⟨rfl, rfl⟩
          · rw [if_neg (by omega)]
            go_enter Try.func13, Try.ntmps13
            go_wp2
            go_ret
            exact ⟨rfl, rfl⟩
        · rw [if_neg (by omega)]
          have d2 : decide ((65 : Int) ≤ c) = false := decide_eq_false c1
          go_enter Try.func13, Try.ntmps13
          go_wp2
          go_ret
          exact ⟨rfl, rfl⟩
  · rw [if_neg (by omega), if_neg (by omega), if_neg (by omega)]
    have d0 : decide ((48 : Int) ≤ c) = false := decide_eq_false a1
    have d1 : decide ((97 : Int) ≤ c) = false := decide_eq_false (by omega)
    have d2 : decide ((65 : Int) ≤ c) = false := decide_eq_false (by omega)
    go_enter Try.func13, Try.ntmps13
    go_wp2
    go_ret
    exact ⟨rfl, rfl⟩

end Go.Proofs.Qxb6603409a
