import Derived.Test.Qxb6602843aFold2
import Derived.Deep.OwnRows
import Derived.Laws.BytesString
namespace Go.Proofs.Qxb6602843a
open Go.ChangeShapes Go.WideShapes Go.ChangeAt Go.RowKit
set_option linter.unusedVariables false

theorem info5 : (Try.prog.info? 5).map (fun i => (i.zero, i.size, i.bytes)) = some (some (.int .u8 0), 1, 1) := by kernel_rfl

/-! ### The plain functions -/
def swp (c : Int) : Int := if (97 ≤ c ∧ c ≤ 122) ∨ (65 ≤ c ∧ c ≤ 90) then bits .xor .u8 c 32 else c
def swps (a : ByteArray) : List Int := a.data.toList.map fun c => swp (c.toNat : Int)
def strOf (ns : List Int) : ByteArray := ns.foldl (fun r n => r.push (UInt8.ofNat n.toNat)) ByteArray.empty

theorem swp_letter (c : Int) (h : (97 ≤ c ∧ c ≤ 122) ∨ (65 ≤ c ∧ c ≤ 90)) : bits .xor .u8 c 32 = swp c := by unfold swp; rw [if_pos h]
theorem swp_other (c : Int) (h : ¬ ((97 ≤ c ∧ c ≤ 122) ∨ (65 ≤ c ∧ c ≤ 90))) : c = swp c := by unfold swp; rw [if_neg h]
theorem low_swp_nat : ∀ n : Fin 256, low (swp (n.val : Int)) = low (n.val : Int) ∧ 0 ≤ swp (n.val : Int) ∧ swp (n.val : Int) ≤ 255 := by decide +kernel
theorem low_swp (c : UInt8) : low (swp (c.toNat : Int)) = low (c.toNat : Int) ∧ 0 ≤ swp (c.toNat : Int) ∧ swp (c.toNat : Int) ≤ 255 :=
  low_swp_nat ⟨c.toNat, c.toNat_lt⟩
theorem swps_len (a : ByteArray) : (swps a).length = a.size := by simp [swps]
theorem swps_at (a : ByteArray) (k : Nat) (h : k < a.size) : (swps a).getD k 0 = swp (a[k].toNat : Int) := by
  have h' : k < (swps a).length := by rw [swps_len]; exact h
  rw [List.getD_eq_getElem?_getD, List.getElem?_eq_getElem h']
  simp [swps]
  rfl
theorem strOf_data (ns : List Int) : ∀ r : ByteArray, (ns.foldl (fun r n => r.push (UInt8.ofNat n.toNat)) r).data.toList = r.data.toList ++ ns.map fun n => UInt8.ofNat n.toNat := by
  induction ns with
  | nil => intro r; simp
  | cons n ns ih => intro r; rw [List.foldl_cons, ih]; simp
theorem key_strOf (ns : List Int) (h : ∀ n ∈ ns, 0 ≤ n ∧ n ≤ 255) : key (strOf ns) = ns.map low := by
  unfold key strOf
  rw [strOf_data]
  simp
  intro n hn
  obtain ⟨h0, h1⟩ := h n hn
  congr 1
  omega
theorem key_swps (a : ByteArray) : key (strOf (swps a)) = key a := by
  rw [key_strOf]
  · unfold swps key
    rw [List.map_map]
    exact List.map_congr_left fun c _ => (low_swp c).1
  · intro n hn
    simp [swps] at hn
    obtain ⟨c, _, rfl⟩ := hn
    exact (low_swp c).2
theorem strOf_size (ns : List Int) : (strOf ns).size = ns.length := by
  have h := congrArg List.length (strOf_data ns ByteArray.empty)
  unfold strOf
  simpa using h

/-! ### swapLetterCase -/
/-- The content of the new row after k rounds. -/
def half (a : ByteArray) (k : Nat) (j : Nat) : Value := .int .u8 (if j < k then (swps a).getD j 0 else 0)
theorem half_set (a : ByteArray) (k : Nat) (h : k < a.size) (x : Int) (hx : x = swp (a[k].toNat : Int)) (j : Nat) : (if j = k then Value.int .u8 x else half a k j) = half a (k + 1) j := by
  unfold half
  by_cases e : j = k
  · subst e
    rw [if_pos rfl, if_pos (by omega), swps_at a j h, hx]
  · rw [if_neg e]
    by_cases h' : j < k
    · rw [if_pos h', if_pos (by omega)]
    · rw [if_neg h', if_neg (by omega)]

theorem rel_step {a : ByteArray} {w wr : World} {k : Nat} {x : Int} (h : k < a.size) (hx : x = swp (a[k].toNat : Int)) (hr : wr.rowIs w.heap.size 5 a.size (half a k)) (hg : Grown w wr) :
    (wr.setCell ⟨w.heap.size, k, none⟩ (.int .u8 x)).rowIs w.heap.size 5 a.size (half a (k + 1)) ∧ Grown w (wr.setCell ⟨w.heap.size, k, none⟩ (.int .u8 x)) :=
  ⟨(hr.set k _).congr fun j _ => half_set a k h x hx j, hg.setCell (Nat.le_refl _) _⟩

theorem conv_done {a : ByteArray} {w wr : World} {k : Nat} (h : ¬ k < a.size) (hr : wr.rowIs w.heap.size 5 a.size (half a k)) :
    (convert 32 9 (.slice (some ⟨w.heap.size, 0, none⟩) a.size a.size)).run Try.prog wr = .ok (.string (strOf (swps a))) wr := by
  rw [run_convert_bytes_string wr 32 9 5 _ _ _ Try.underlying32 Try.underlying5 Try.underlying9]
  refine run_bytesToString wr _ _ _ (swps a) ?_
  have hl : a.size = ((swps a).map (Value.int .u8)).length := by rw [List.length_map, swps_len]
  rw [hl]
  refine run_loadCells_list wr _ _ fun j v hv => ?_
  have hj : j < a.size := by
    have := (List.getElem?_eq_some_iff.1 hv).1
    rwa [List.length_map, swps_len] at this
  rw [add_plain, Nat.zero_add, hr.cell hj]
  unfold half
  rw [if_pos (by omega)]
  rw [List.getElem?_map, Option.map_eq_some_iff] at hv
  obtain ⟨n, hn, rfl⟩ := hv
  rw [List.getD_eq_getElem?_getD, hn]
  rfl

set_option maxHeartbeats 1000000 in
theorem swap_any (a : ByteArray) (w : World) (ha : a.size ≤ 1048576) :
    Calls Try.prog 12 #[.string a] w fun e w' => e = .returned (.string (strOf (swps a))) ∧ Grown w w' := by
  have hmk := run_make_row' (P := Try.prog) 32 5 (.int .u8 0) 1 Try.underlying32 info5 rfl .i64 .i64 a.size (by omega) (by omega)
  go_enter Try.func12, Try.ntmps12
  go_wp2_with fail
  go_loopw [4] (fun i wr => ∃ k : Nat, k ≤ a.size ∧ i = .int .i64 k ∧ wr.rowIs w.heap.size 5 a.size (half a k) ∧ Grown w wr) (fun i _ => a.size - (intOf i).toNat)
  case atStart =>
    exact ⟨0, Nat.zero_le _, rfl, (World.rowIs_made w (.int .u8 0) a.size 5).congr fun j _ => by unfold half; rw [if_neg (by omega)], (Grown.refl w).alloc _ _⟩
  case round =>
    obtain ⟨k, hk, rfl, hr, hg⟩ := hrel
    clear hmk
    by_cases hlt : k < a.size
    · have q : wr.cell? ⟨w.heap.size, k, none⟩ = some (half a k k) := hr.cell hlt
      have q' : wr.frozen? ⟨w.heap.size, k, none⟩ = false := hr.frozen k
      have Hr : Hid (wr.rowIs w.heap.size 5 a.size (half a k)) := hr
      clear hr
      by_cases c1 : (97 : Int) ≤ (a[k].toNat : Int)
      · by_cases c2 : (a[k].toNat : Int) ≤ 122
        · go_wp2
          go_roundw
          case rel =>
            obtain ⟨r1, r2⟩ := rel_step hlt (swp_letter _ (.inl ⟨c1, c2⟩)) Hr.out hg
            exact ⟨k + 1, by omega, by go_num, r1, r2⟩
          case measure => simp [intOf]; omega
        · have c3 : (65 : Int) ≤ (a[k].toNat : Int) := by omega
          have c4 : ¬ (a[k].toNat : Int) ≤ 90 := by omega
          go_wp2
          go_roundw
          case rel =>
            obtain ⟨r1, r2⟩ := rel_step hlt (swp_other _ (by omega)) Hr.out hg
            exact ⟨k + 1, by omega, by go_num, r1, r2⟩
          case measure => simp [intOf]; omega
      · have d1 : decide ((97 : Int) ≤ (a[k].toNat : Int)) = false := decide_eq_false c1
        by_cases c3 : (65 : Int) ≤ (a[k].toNat : Int)
        · by_cases c4 : (a[k].toNat : Int) ≤ 90
          · go_wp2
            go_roundw
            case rel =>
              obtain ⟨r1, r2⟩ := rel_step hlt (swp_letter _ (.inr ⟨c3, c4⟩)) Hr.out hg
              exact ⟨k + 1, by omega, by go_num, r1, r2⟩
            case measure => simp [intOf]; omega
          · go_wp2
            go_roundw
            case rel =>
              obtain ⟨r1, r2⟩ := rel_step hlt (swp_other _ (by omega)) Hr.out hg
              exact ⟨k + 1, by omega, by go_num, r1, r2⟩
            case measure => simp [intOf]; omega
        · have d3 : decide ((65 : Int) ≤ (a[k].toNat : Int)) = false := decide_eq_false c3
          go_wp2
          go_roundw
          case rel =>
            obtain ⟨r1, r2⟩ := rel_step hlt (swp_other _ (by omega)) Hr.out hg
            exact ⟨k + 1, by omega, by go_num, r1, r2⟩
          case measure => simp [intOf]; omega
    · have hcv := conv_done hlt hr
      go_wp2
      go_ret
      exact ⟨rfl, hg⟩

end Go.Proofs.Qxb6602843a
