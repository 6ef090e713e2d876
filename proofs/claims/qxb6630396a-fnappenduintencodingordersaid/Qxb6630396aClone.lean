/-
  Contracts: the bounds on the length, and cloneBytes.
-/
import Derived.Test.Qxb6630396aRows
import Derived.WalkKit
import Derived.WalkSpells
import Derived.WalkLawsBesides
namespace Go.Proofs.Qxb6630396a.Rlp
open Go.RowKit
set_option linter.unusedVariables false

theorem info5 : (Try.prog.info? 5).map (fun i => (i.zero, i.size, i.bytes)) = some (some (.int .u8 0), 1, 1) := by kernel_rfl

theorem ret_bool {a b : Bool} (h : a = b) : Ending.returned (.bool a) = .returned (.bool b) := by rw [h]

/-- The bound on the length. -/
def fits (n : Nat) : Bool := decide (n ≤ 1048576)

/-- Bytes as cells. -/
def cellsOf (zs : List Int) : List Value := zs.map (Value.int .u8)

set_option maxHeartbeats 400000 in
theorem bytes5_any (a : Option Addr) (n c : Nat) (v : Int) (w : World) (hn : n ≤ maxLen) :
    Calls Try.prog 5 #[.slice a n c, .int .u64 v] w fun e w' => e = .returned (.bool (fits n)) ∧ w = w' := by
  unfold maxLen at hn
  by_cases h1 : 1048576 < n
  · go_enter Try.func5, Try.ntmps5
    go_wp2
    go_ret
    exact ⟨ret_bool (by simp [fits]; omega), rfl⟩
  · go_enter Try.func5, Try.ntmps5
    go_wp2
    go_ret
    exact ⟨ret_bool (by simp [fits]; omega), rfl⟩

set_option maxHeartbeats 400000 in
theorem bytes9_any (a : Option Addr) (n c : Nat) (v u : Int) (w : World) (hn : n ≤ maxLen) :
    Calls Try.prog 9 #[.slice a n c, .int .u64 v, .int .u64 u] w fun e w' => e = .returned (.bool (fits n)) ∧ w = w' := by
  unfold maxLen at hn
  by_cases h1 : 1048576 < n
  · go_enter Try.func9, Try.ntmps9
    go_wp2
    go_ret
    exact ⟨ret_bool (by simp [fits]; omega), rfl⟩
  · go_enter Try.func9, Try.ntmps9
    go_wp2
    go_ret
    exact ⟨ret_bool (by simp [fits]; omega), rfl⟩

set_option maxHeartbeats 400000 in
theorem clone_nil (w : World) :
    Calls Try.prog 6 #[.slice none 0 0] w fun e w' => e = .returned (.slice none 0 0) ∧ w' = w := by
  have hq := fun (w : World) (a : Option Addr) (n c : Nat) => Lib.run_eql_slice_nil (P := Try.prog) w 22 5 a n c 0 0 Try.underlying22
  go_enter Try.func6, Try.ntmps6
  go_wp2
  go_ret
  exact ⟨rfl, rfl⟩

/-- The new row after k rounds. -/
def upto (zs : List Int) (n k : Nat) : List Value := cellsOf (zs.take k ++ List.replicate (n - k) 0)
theorem upto_zero (zs : List Int) (n : Nat) : upto zs n 0 = List.replicate n (.int .u8 0) := by
  simp [upto, cellsOf]
theorem upto_all (zs : List Int) (n : Nat) (h : zs.length = n) : upto zs n n = cellsOf zs := by
  simp [upto, cellsOf, ← h]
theorem upto_at (zs : List Int) (n k : Nat) (h : zs.length = n) (hk : k < n) : (upto zs n k)[k]? = some (.int .u8 0) := by
  have h1 : (zs.take k).length = k := by simp; omega
  unfold upto cellsOf
  rw [List.getElem?_map, List.getElem?_append_right (by omega), h1, Nat.sub_self, List.getElem?_replicate, if_pos (by omega)]
  rfl
theorem upto_succ (zs : List Int) (n k : Nat) (h : zs.length = n) (hk : k < n) : (upto zs n k).set k (.int .u8 (zs.getD k 0)) = upto zs n (k + 1) := by
  have h1 : (zs.take k).length = k := by simp; omega
  unfold upto cellsOf
  rw [← List.map_set, List.set_append_right _ _ (by omega), h1, Nat.sub_self]
  congr 1
  rw [List.take_succ_eq_append_getElem (by omega), List.append_assoc]
  congr 1
  rw [show n - k = (n - (k + 1)) + 1 from by omega, List.replicate_succ, List.set_cons_zero]
  simp [List.getD, show k < zs.length by omega]

theorem clone_step {w wr : World} {zs : List Int} {n k : Nat} (h : zs.length = n) (hk : k < n)
    (hown : wr.ownsRow w.heap.size 5 1 (.slice (some ⟨w.heap.size, 0, none⟩) n n) n (upto zs n k)) (hbel : Below w.heap.size w wr) :
    (wr.setCell ⟨w.heap.size, k, none⟩ (.int .u8 (zs.getD k 0))).ownsRow w.heap.size 5 1 (.slice (some ⟨w.heap.size, 0, none⟩) n n) n (upto zs n (k + 1)) ∧
      Below w.heap.size w (wr.setCell ⟨w.heap.size, k, none⟩ (.int .u8 (zs.getD k 0))) := by
  have s := hown.stored k (.int .u8 (zs.getD k 0))
  rw [upto_succ zs n k h hk] at s
  exact ⟨s.1, hbel.setCell (Nat.le_refl _) _⟩

set_option maxHeartbeats 1000000 in
theorem clone_some (b off n c : Nat) (zs : List Int) (w : World) (hn : n ≤ 1048576) (hz : zs.length = n)
    (hc : ∀ i, i < n → w.cell? ⟨b, off + i, none⟩ = some (.int .u8 (zs.getD i 0))) (hb : b < w.heap.size) :
    Calls Try.prog 6 #[.slice (some ⟨b, off, none⟩) n c] w fun e w' => e = .returned (.slice (some ⟨w.heap.size, 0, none⟩) n n) ∧
      w'.ownsRow w.heap.size 5 1 (.slice (some ⟨w.heap.size, 0, none⟩) n n) n (cellsOf zs) ∧ Below w.heap.size w w' := by
  have hq := fun (w : World) (a : Option Addr) (n c : Nat) => Lib.run_eql_slice_nil (P := Try.prog) w 22 5 a n c 0 0 Try.underlying22
  obtain ⟨i0, hi, hz0, hz1, hz2⟩ := info_parts info5
  go_enter Try.func6, Try.ntmps6
  go_wp2_with (refine wpList_make_full _ rfl (.tmp 8) (.tmp 8) 22 rfl w.heap.size 5 i0 (.int .u8 0) 1 Try.underlying22 hi hz0 hz1 .i64 .i64 n n n rfl rfl rfl rfl ?b2 ?b3 (Nat.le_refl _) ?_)
  case b2 => rw [hz2]; omega
  case b3 => unfold maxLen; omega
  intro w1 hown1 hgrow1
  go_wp2
  go_loopw [4] (fun i wr => ∃ k : Nat, k ≤ n ∧ i = .int .i64 k ∧ wr.ownsRow w.heap.size 5 1 (.slice (some ⟨w.heap.size, 0, none⟩) n n) n (upto zs n k) ∧ Below w.heap.size w wr) (fun i _ => n - (intOf i).toNat)
  case atStart =>
    refine ⟨0, Nat.zero_le _, rfl, ?_, (Below.refl _ _).grown hgrow1 (Nat.le_refl _) (fun k h => by cases h)⟩
    rw [upto_zero]
    simpa [toList_madeCells_one] using hown1
  case round =>
    obtain ⟨k, hk, rfl, hown, hbel⟩ := hrel
    clear hown1 hgrow1
    by_cases hlt : k < n
    · have S := clone_step hz hlt hown hbel
      have hcs : wr.cell? ⟨b, off + k, none⟩ = some (.int .u8 (zs.getD k 0)) := (hbel.cell (p := ⟨b, off + k, none⟩) hb).trans (hc k hlt)
      have hcd : wr.cell? ⟨w.heap.size, k, none⟩ = some (.int .u8 0) := by rw [hown.cellAt k (by omega), upto_at zs n k hz hlt]
      have hfd : wr.frozen? ⟨w.heap.size, k, none⟩ = false := hown.frozenAt k
      clear hown hbel
      go_wp2
      go_roundw
      case rel => exact ⟨k + 1, by omega, by go_num, by simpa [show k < zs.length by omega] using S.1, by simpa [show k < zs.length by omega] using S.2⟩
      case measure => simp [intOf]; omega
    · obtain rfl : k = n := by omega
      rw [upto_all zs k hz] at hown
      go_wp2
      go_ret
      exact ⟨rfl, hown, hbel⟩

set_option maxHeartbeats 1000000 in
theorem clone_zero (x : Addr) (c : Nat) (w : World) :
    Calls Try.prog 6 #[.slice (some x) 0 c] w fun e w' => e = .returned (.slice (some ⟨w.heap.size, 0, none⟩) 0 0) ∧ Below w.heap.size w w' := by
  have hq := fun (w : World) (a : Option Addr) (n c : Nat) => Lib.run_eql_slice_nil (P := Try.prog) w 22 5 a n c 0 0 Try.underlying22
  obtain ⟨i0, hi, hz0, hz1, hz2⟩ := info_parts info5
  go_enter Try.func6, Try.ntmps6
  go_wp2_with (refine wpList_make_full _ rfl (.tmp 8) (.tmp 8) 22 rfl w.heap.size 5 i0 (.int .u8 0) 1 Try.underlying22 hi hz0 hz1 .i64 .i64 0 0 0 rfl rfl rfl rfl ?b2 ?b3 (Nat.le_refl _) ?_)
  case b2 => omega
  case b3 => unfold maxLen; omega
  intro w1 hown1 hgrow1
  have hbel : Below w.heap.size w w1 := (Below.refl _ _).grown hgrow1 (Nat.le_refl _) (fun k h => by cases h)
  clear hown1 hgrow1
  go_wp2
  refine wp_loop_rounds 1 ?_
  rw [rounds_succ]
  go_wp2
  go_ret
  exact ⟨rfl, hbel⟩

/-- The slice's elements, read in the world w: the numbers zs. -/
def RdS (w : World) (ao : Option Addr) (zs : List Int) : Prop :=
  (ao = none → zs = []) ∧ ∀ x, ao = some x → ∀ j, j < zs.length → w.cell? (x.add j) = some (.int .u8 (zs.getD j 0))

theorem RdS.at {w : World} {ao : Option Addr} {zs : List Int} (h : RdS w ao zs) (hp : 0 < zs.length) :
    ∃ b o, ao = some ⟨b, o, none⟩ ∧ b < w.heap.size ∧ ∀ j, j < zs.length → w.cell? ⟨b, o + j, none⟩ = some (.int .u8 (zs.getD j 0)) := by
  cases ao with
  | none => have := h.1 rfl; subst this; simp at hp
  | some x =>
    have hx := h.2 x rfl
    obtain ⟨b, o, spot⟩ := x
    have hspot : spot = none := by simpa [Addr.add] using World.cell?_spot (hx 0 hp)
    subst hspot
    have hy : ∀ j, j < zs.length → w.cell? ⟨b, o + j, none⟩ = some (.int .u8 (zs.getD j 0)) := fun j hj => by rw [← Go.WideShapes.add_plain]; exact hx j hj
    exact ⟨b, o, rfl, Go.block_lt_of_cell (hy 0 hp), hy⟩

theorem RdS.mk {w : World} {b o : Nat} {zs : List Int} (h : ∀ j, j < zs.length → w.cell? ⟨b, o + j, none⟩ = some (.int .u8 (zs.getD j 0))) : RdS w (some ⟨b, o, none⟩) zs :=
  ⟨fun e => (by cases e), fun x e j hj => by cases e; rw [Go.WideShapes.add_plain]; exact h j hj⟩

theorem RdS.below {w w' : World} {ao : Option Addr} {zs : List Int} (h : RdS w ao zs) (hb : Below w.heap.size w w') : RdS w' ao zs := by
  refine ⟨h.1, fun x e j hj => ?_⟩
  have hx := h.2 x e j hj
  have hl := Go.block_lt_of_cell hx
  rw [hb.cell hl]; exact hx

theorem RdS.own {w : World} {base g n cap : Nat} {zs : List Int} (h : w.ownsRow base 5 1 (.slice (some ⟨g, 0, none⟩) n cap) n (cellsOf zs)) : RdS w (some ⟨g, 0, none⟩) zs := by
  have hl : zs.length = n := by simpa [cellsOf] using h.1
  refine RdS.mk fun j hj => ?_
  rw [Nat.zero_add, h.cellAt j (by omega)]
  simp [cellsOf, hj]

theorem clone_any (ao : Option Addr) (n c : Nat) (zs : List Int) (w : World) (hn : n ≤ 1048576) (hz : zs.length = n) (hnil : ao = none → c = 0) (h : RdS w ao zs) :
    Calls Try.prog 6 #[.slice ao n c] w fun e w' => ∃ ao', e = .returned (.slice ao' n n) ∧ RdS w' ao' zs ∧ Below w.heap.size w w' := by
  cases ao with
  | none =>
    have hzn := h.1 rfl
    subst hzn
    obtain rfl : c = 0 := hnil rfl
    obtain rfl : n = 0 := by simpa using hz.symm
    refine (clone_nil w).mono ?_
    rintro e w' ⟨rfl, rfl⟩
    exact ⟨none, rfl, h, Below.refl _ _⟩
  | some x =>
    by_cases hp : 0 < zs.length
    · obtain ⟨b, o, hx, hb, hc⟩ := h.at hp
      cases hx
      refine (clone_some b o n c zs w hn hz (fun i hi => hc i (by omega)) hb).mono ?_
      rintro e w' ⟨rfl, ho, hbel⟩
      exact ⟨_, rfl, RdS.own ho, hbel⟩
    · obtain rfl : zs = [] := List.eq_nil_of_length_eq_zero (by omega)
      obtain rfl : n = 0 := by simpa using hz.symm
      refine (clone_zero x c w).mono ?_
      rintro e w' ⟨rfl, hbel⟩
      exact ⟨_, rfl, ⟨fun e => (by cases e), fun _ _ j hj => (by simp at hj)⟩, hbel⟩

end Go.Proofs.Qxb6630396a.Rlp
