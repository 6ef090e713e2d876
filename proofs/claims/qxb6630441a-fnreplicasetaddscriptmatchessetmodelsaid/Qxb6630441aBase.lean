/-
  Contracts of the callees of both laws of seat b6630441a.
-/
import Derived.Test.Qxb6630441aRows
import Derived.WalkKit
import Derived.WalkSpells
import Derived.WalkLawsBesides
namespace Go.Proofs.Qxb6630441a.Set
open Go.RowKit
set_option linter.unusedVariables false

theorem info4 : (Try.prog.info? 4).map (fun i => (i.zero, i.size, i.bytes)) = some (some (.bool false), 1, 1) := by kernel_rfl
theorem info3 : (Try.prog.info? 3).map (fun i => (i.zero, i.size, i.bytes)) = some (some (.int .i64 0), 1, 8) := by kernel_rfl

theorem ret_bool {a b : Bool} (h : a = b) : Ending.returned (.bool a) = .returned (.bool b) := by rw [h]
theorem ret_int {k : IntKind} {a b : Int} (h : a = b) : Ending.returned (.int k a) = .returned (.int k b) := by rw [h]

/-- The cells of bools, of numbers. -/
def vb (bs : List Bool) : List Value := bs.map Value.bool
def vi (zs : List Int) : List Value := zs.map (Value.int .i64)

/-- The bounds on the lengths. -/
def fits (n : Nat) : Bool := decide (n ≤ 1048576)

set_option maxHeartbeats 400000 in
theorem bytes13_any (a : Option Addr) (n c : Nat) (x y z : Int) (w : World) (hn : n ≤ maxLen) :
    Calls Try.prog 13 #[.slice a n c, .int .i64 x, .int .i64 y, .int .i64 z] w fun e w' => e = .returned (.bool (fits n)) ∧ w = w' := by
  unfold maxLen at hn
  by_cases h1 : 1048576 < n
  · go_enter Try.func13, Try.ntmps13
    go_wp2
    go_ret
    exact ⟨ret_bool (by simp [fits]; omega), rfl⟩
  · go_enter Try.func13, Try.ntmps13
    go_wp2
    go_ret
    exact ⟨ret_bool (by simp [fits]; omega), rfl⟩

set_option maxHeartbeats 400000 in
theorem bytes5_any (a : Option Addr) (n c : Nat) (x : Int) (a' : Option Addr) (m c' : Nat) (w : World) (hn : n ≤ maxLen) (hm : m ≤ maxLen) :
    Calls Try.prog 5 #[.slice a n c, .int .i64 x, .slice a' m c'] w fun e w' => e = .returned (.bool (fits (n + m))) ∧ w = w' := by
  unfold maxLen at hn hm
  by_cases h1 : 1048576 < n
  · go_enter Try.func5, Try.ntmps5
    go_wp2
    go_ret
    exact ⟨ret_bool (by simp [fits]; omega), rfl⟩
  by_cases h2 : 1048576 < m
  · go_enter Try.func5, Try.ntmps5
    go_wp2
    go_ret
    exact ⟨ret_bool (by simp [fits]; omega), rfl⟩
  by_cases h3 : 1048576 < n + m
  · go_enter Try.func5, Try.ntmps5
    go_wp2
    go_ret
    exact ⟨ret_bool (by simp [fits]; omega), rfl⟩
  · go_enter Try.func5, Try.ntmps5
    go_wp2
    go_ret
    exact ⟨ret_bool (by simp [fits]; omega), rfl⟩

/-- How many are true. -/
def ct (bs : List Bool) : Nat := (bs.filter id).length
theorem ct_le (bs : List Bool) : ct bs ≤ bs.length := List.length_filter_le _ _
theorem ct_snoc (bs : List Bool) (b : Bool) : ct (bs ++ [b]) = ct bs + if b = true then 1 else 0 := by
  unfold ct; rw [List.filter_append]; cases b <;> simp
theorem take_snocB (bs : List Bool) (k : Nat) (h : k < bs.length) : bs.take (k + 1) = bs.take k ++ [bs.getD k false] := by
  rw [List.take_succ_eq_append_getElem h]; simp [List.getD, h]

/-- The slice's elements, read in the world w: the values vs. -/
def RdV (w : World) (ao : Option Addr) (vs : List Value) : Prop :=
  (ao = none → vs = []) ∧ ∀ x, ao = some x → ∀ j u, vs[j]? = some u → w.cell? (x.add j) = some u

theorem RdV.at {w : World} {ao : Option Addr} {vs : List Value} (h : RdV w ao vs) (hp : 0 < vs.length) :
    ∃ b o, ao = some ⟨b, o, none⟩ ∧ b < w.heap.size ∧ ∀ j u, vs[j]? = some u → w.cell? ⟨b, o + j, none⟩ = some u := by
  cases ao with
  | none => have := h.1 rfl; subst this; simp at hp
  | some x =>
    have hx := h.2 x rfl
    obtain ⟨b, o, spot⟩ := x
    have h0 := hx 0 (vs[0]) (by simp [hp])
    have hspot : spot = none := by simpa [Addr.add] using World.cell?_spot h0
    subst hspot
    have hy : ∀ j u, vs[j]? = some u → w.cell? ⟨b, o + j, none⟩ = some u := fun j u hj => by rw [← Go.WideShapes.add_plain]; exact hx j u hj
    exact ⟨b, o, rfl, Go.block_lt_of_cell (hy 0 (vs[0]) (by simp [hp])), hy⟩

theorem RdV.mk {w : World} {b o : Nat} {vs : List Value} (h : ∀ j u, vs[j]? = some u → w.cell? ⟨b, o + j, none⟩ = some u) : RdV w (some ⟨b, o, none⟩) vs :=
  ⟨fun e => (by cases e), fun x e j u hj => by cases e; rw [Go.WideShapes.add_plain]; exact h j u hj⟩

theorem RdV.below {w w' : World} {ao : Option Addr} {vs : List Value} (h : RdV w ao vs) (hb : Below w.heap.size w w') : RdV w' ao vs := by
  refine ⟨h.1, fun x e j u hj => ?_⟩
  have hx := h.2 x e j u hj
  have hl := Go.block_lt_of_cell hx
  rw [hb.cell hl]; exact hx

theorem RdV.own {w : World} {base e g n cap : Nat} {vs : List Value} (h : w.ownsRow base e 1 (.slice (some ⟨g, 0, none⟩) n cap) n vs) : RdV w (some ⟨g, 0, none⟩) vs := by
  have hl : vs.length = n := by simpa using h.1
  refine RdV.mk fun j u hj => ?_
  have hj' := (List.getElem?_eq_some_iff.1 hj).1
  rw [Nat.zero_add, h.cellAt j (by omega), hj]

theorem vb_at {bs : List Bool} {j : Nat} (h : j < bs.length) : (vb bs)[j]? = some (.bool (bs.getD j false)) := by simp [vb, h]
theorem vi_at {zs : List Int} {j : Nat} (h : j < zs.length) : (vi zs)[j]? = some (.int .i64 (zs.getD j 0)) := by simp [vi, h]
theorem vb_len (bs : List Bool) : (vb bs).length = bs.length := by simp [vb]
theorem vi_len (zs : List Int) : (vi zs).length = zs.length := by simp [vi]

set_option maxHeartbeats 1000000 in
theorem count_some (b off n c : Nat) (bs : List Bool) (w : World) (hn : n ≤ 1048576) (hz : bs.length = n)
    (hc : ∀ i, i < n → w.cell? ⟨b, off + i, none⟩ = some (.bool (bs.getD i false))) :
    Calls Try.prog 6 #[.slice (some ⟨b, off, none⟩) n c] w fun e w' => e = .returned (.int .i64 (ct bs)) ∧ w = w' := by
  go_enter Try.func6, Try.ntmps6
  go_wp2
  go_loop [3, 4] (fun q i => ∃ k : Nat, k ≤ n ∧ i = .int .i64 k ∧ q = .int .i64 (ct (bs.take k))) (fun _ i => n - (intOf i).toNat)
  case atStart => exact ⟨0, Nat.zero_le _, rfl, rfl⟩
  case round =>
    obtain ⟨k, hk, rfl, rfl⟩ := hrel
    have hle := ct_le (bs.take k)
    have hle2 : (bs.take k).length ≤ k := List.length_take_le _ _
    by_cases hlt : k < n
    · have hcell := hc k hlt
      have HS : Hid (ct (bs.take (k + 1)) = ct (bs.take k) + if bs.getD k false = true then 1 else 0) := by
        show _ = _
        rw [take_snocB bs k (by omega), ct_snoc]
      cases hx : bs.getD k false
      · rw [hx] at hcell HS
        have HT : Hid (ct (bs.take (k + 1)) = ct (bs.take k)) := HS.out
        clear hx HS hc
        generalize ct (bs.take k) = q at *
        go_wp2
        go_round
        case rel => exact ⟨k + 1, by omega, by go_num, by rw [HT.out]⟩
        case measure => simp [intOf]; omega
      · rw [hx] at hcell HS
        have HT : Hid (ct (bs.take (k + 1)) = ct (bs.take k) + 1) := HS.out
        clear hx HS hc
        generalize ct (bs.take k) = q at *
        go_wp2
        go_round
        case rel => exact ⟨k + 1, by omega, by go_num, by rw [HT.out]; go_num⟩
        case measure => simp [intOf]; omega
    · have he : bs.take k = bs := List.take_of_length_le (by omega)
      rw [he]
      go_wp2
      go_ret
      exact ⟨rfl, rfl⟩

set_option maxHeartbeats 1000000 in
theorem count_zero (ao : Option Addr) (c : Nat) (w : World) :
    Calls Try.prog 6 #[.slice ao 0 c] w fun e w' => e = .returned (.int .i64 0) ∧ w = w' := by
  go_enter Try.func6, Try.ntmps6
  go_wp2
  refine wp_loop_rounds 1 ?_
  rw [rounds_succ]
  go_wp2
  go_ret
  exact ⟨rfl, rfl⟩

theorem count_any (ao : Option Addr) (n c : Nat) (bs : List Bool) (w : World) (hn : n ≤ 1048576) (hz : bs.length = n) (h : RdV w ao (vb bs)) :
    Calls Try.prog 6 #[.slice ao n c] w fun e w' => e = .returned (.int .i64 (ct bs)) ∧ w = w' := by
  by_cases hp : 0 < n
  · obtain ⟨b, o, rfl, hb, hc⟩ := h.at (by rw [vb_len]; omega)
    exact count_some b o n c bs w hn hz (fun i hi => hc i _ (vb_at (by omega)))
  · obtain rfl : n = 0 := by omega
    obtain rfl : bs = [] := List.eq_nil_of_length_eq_zero hz
    exact count_zero ao c w

/-- The new row after k rounds. -/
def uptoB (zs : List Bool) (n k : Nat) : List Value := vb (zs.take k ++ List.replicate (n - k) false)
theorem uptoB_zero (zs : List Bool) (n : Nat) : uptoB zs n 0 = List.replicate n (.bool false) := by
  simp [uptoB, vb]
theorem uptoB_all (zs : List Bool) (n : Nat) (h : zs.length = n) : uptoB zs n n = vb zs := by
  simp [uptoB, vb, ← h]
theorem uptoB_at (zs : List Bool) (n k : Nat) (h : zs.length = n) (hk : k < n) : (uptoB zs n k)[k]? = some (.bool false) := by
  have h1 : (zs.take k).length = k := by simp; omega
  unfold uptoB vb
  rw [List.getElem?_map, List.getElem?_append_right (by omega), h1, Nat.sub_self, List.getElem?_replicate, if_pos (by omega)]
  rfl
theorem uptoB_succ (zs : List Bool) (n k : Nat) (h : zs.length = n) (hk : k < n) : (uptoB zs n k).set k (.bool (zs.getD k false)) = uptoB zs n (k + 1) := by
  have h1 : (zs.take k).length = k := by simp; omega
  unfold uptoB vb
  rw [← List.map_set, List.set_append_right _ _ (by omega), h1, Nat.sub_self]
  congr 1
  rw [List.take_succ_eq_append_getElem (by omega), List.append_assoc]
  congr 1
  rw [show n - k = (n - (k + 1)) + 1 from by omega, List.replicate_succ, List.set_cons_zero]
  simp [List.getD, show k < zs.length by omega]
theorem cloneB_step {w wr : World} {zs : List Bool} {n k : Nat} (h : zs.length = n) (hk : k < n)
    (hown : wr.ownsRow w.heap.size 4 1 (.slice (some ⟨w.heap.size, 0, none⟩) n n) n (uptoB zs n k)) (hbel : Below w.heap.size w wr) :
    (wr.setCell ⟨w.heap.size, k, none⟩ (.bool (zs.getD k false))).ownsRow w.heap.size 4 1 (.slice (some ⟨w.heap.size, 0, none⟩) n n) n (uptoB zs n (k + 1)) ∧
      Below w.heap.size w (wr.setCell ⟨w.heap.size, k, none⟩ (.bool (zs.getD k false))) := by
  have s := hown.stored k (.bool (zs.getD k false))
  rw [uptoB_succ zs n k h hk] at s
  exact ⟨s.1, hbel.setCell (Nat.le_refl _) _⟩

set_option maxHeartbeats 400000 in
theorem cloneB_nil (w : World) :
    Calls Try.prog 7 #[.slice none 0 0] w fun e w' => e = .returned (.slice none 0 0) ∧ w = w' := by
  have hq := fun (w : World) (a : Option Addr) (n c : Nat) => Lib.run_eql_slice_nil (P := Try.prog) w 22 4 a n c 0 0 Try.underlying22
  go_enter Try.func7, Try.ntmps7
  go_wp2
  go_ret
  exact ⟨rfl, rfl⟩

set_option maxHeartbeats 1000000 in
theorem cloneB_some (b off n c : Nat) (zs : List Bool) (w : World) (hn : n ≤ 1048576) (hz : zs.length = n)
    (hc : ∀ i, i < n → w.cell? ⟨b, off + i, none⟩ = some (.bool (zs.getD i false))) (hb : b < w.heap.size) :
    Calls Try.prog 7 #[.slice (some ⟨b, off, none⟩) n c] w fun e w' => e = .returned (.slice (some ⟨w.heap.size, 0, none⟩) n n) ∧
      w'.ownsRow w.heap.size 4 1 (.slice (some ⟨w.heap.size, 0, none⟩) n n) n (vb zs) ∧ Below w.heap.size w w' := by
  have hq := fun (w : World) (a : Option Addr) (n c : Nat) => Lib.run_eql_slice_nil (P := Try.prog) w 22 4 a n c 0 0 Try.underlying22
  obtain ⟨i0, hi, hz0, hz1, hz2⟩ := info_parts info4
  go_enter Try.func7, Try.ntmps7
  go_wp2_with (refine wpList_make_full _ rfl (.tmp 8) (.tmp 8) 22 rfl w.heap.size 4 i0 (.bool false) 1 Try.underlying22 hi hz0 hz1 .i64 .i64 n n n rfl rfl rfl rfl ?b2 ?b3 (Nat.le_refl _) ?_)
  case b2 => rw [hz2]; omega
  case b3 => unfold maxLen; omega
  intro w1 hown1 hgrow1
  go_wp2
  go_loopw [4] (fun i wr => ∃ k : Nat, k ≤ n ∧ i = .int .i64 k ∧ wr.ownsRow w.heap.size 4 1 (.slice (some ⟨w.heap.size, 0, none⟩) n n) n (uptoB zs n k) ∧ Below w.heap.size w wr) (fun i _ => n - (intOf i).toNat)
  case atStart =>
    refine ⟨0, Nat.zero_le _, rfl, ?_, (Below.refl _ _).grown hgrow1 (Nat.le_refl _) (fun k h => by cases h)⟩
    rw [uptoB_zero]
    simpa [toList_madeCells_one] using hown1
  case round =>
    obtain ⟨k, hk, rfl, hown, hbel⟩ := hrel
    clear hown1 hgrow1
    by_cases hlt : k < n
    · have S := cloneB_step hz hlt hown hbel
      have hcs : wr.cell? ⟨b, off + k, none⟩ = some (.bool (zs.getD k false)) := (hbel.cell (p := ⟨b, off + k, none⟩) hb).trans (hc k hlt)
      have hcd : wr.cell? ⟨w.heap.size, k, none⟩ = some (.bool false) := by rw [hown.cellAt k (by omega), uptoB_at zs n k hz hlt]
      have hfd : wr.frozen? ⟨w.heap.size, k, none⟩ = false := hown.frozenAt k
      generalize zs.getD k false = x at *
      clear hown hbel hc
      go_wp2
      go_roundw
      case rel => exact ⟨k + 1, by omega, by go_num, S.1, S.2⟩
      case measure => simp [intOf]; omega
    · obtain rfl : k = n := by omega
      rw [uptoB_all zs k hz] at hown
      go_wp2
      go_ret
      exact ⟨rfl, hown, hbel⟩

set_option maxHeartbeats 1000000 in
theorem cloneB_zero (x : Addr) (c : Nat) (w : World) :
    Calls Try.prog 7 #[.slice (some x) 0 c] w fun e w' => e = .returned (.slice (some ⟨w.heap.size, 0, none⟩) 0 0) ∧ Below w.heap.size w w' := by
  have hq := fun (w : World) (a : Option Addr) (n c : Nat) => Lib.run_eql_slice_nil (P := Try.prog) w 22 4 a n c 0 0 Try.underlying22
  obtain ⟨i0, hi, hz0, hz1, hz2⟩ := info_parts info4
  go_enter Try.func7, Try.ntmps7
  go_wp2_with (refine wpList_make_full _ rfl (.tmp 8) (.tmp 8) 22 rfl w.heap.size 4 i0 (.bool false) 1 Try.underlying22 hi hz0 hz1 .i64 .i64 0 0 0 rfl rfl rfl rfl ?b2 ?b3 (Nat.le_refl _) ?_)
  case b2 => omega
  case b3 => unfold maxLen; omega
  intro w1 hown1 hgrow1
  have hbel : Below w.heap.size w w1 := (Below.refl _ _).grown hgrow1 (Nat.le_refl _) (fun k h => by cases h)
  clear hown1 hgrow1
  go_wp2
  refine wp_loop_rounds 1 ?_
  rw [rounds_succ]
  go_wp2
  go_ret
  exact ⟨rfl, hbel⟩

theorem cloneB_any (ao : Option Addr) (n c : Nat) (zs : List Bool) (w : World) (hn : n ≤ 1048576) (hz : zs.length = n) (hnil : ao = none → c = 0) (h : RdV w ao (vb zs)) :
    Calls Try.prog 7 #[.slice ao n c] w fun e w' => ∃ ao', e = .returned (.slice ao' n n) ∧ RdV w' ao' (vb zs) ∧ Below w.heap.size w w' := by
  by_cases hp : 0 < n
  · obtain ⟨b, o, rfl, hb, hc⟩ := h.at (by rw [vb_len]; omega)
    refine (cloneB_some b o n c zs w hn hz (fun i hi => hc i _ (vb_at (by omega))) hb).mono ?_
    rintro e w' ⟨rfl, ho, hbel⟩
    exact ⟨_, rfl, RdV.own ho, hbel⟩
  · obtain rfl : n = 0 := by omega
    obtain rfl : zs = [] := List.eq_nil_of_length_eq_zero hz
    cases ao with
    | none =>
      obtain rfl : c = 0 := hnil rfl
      refine (cloneB_nil w).mono ?_
      rintro e w' ⟨rfl, rfl⟩
      exact ⟨none, rfl, h, Below.refl _ _⟩
    | some x =>
      refine (cloneB_zero x c w).mono ?_
      rintro e w' ⟨rfl, hbel⟩
      exact ⟨_, rfl, ⟨fun e => (by cases e), fun _ _ j u hj => (by simp [vb] at hj)⟩, hbel⟩

theorem cloneB_pos (ao : Option Addr) (n c : Nat) (zs : List Bool) (w : World) (hn : n ≤ 1048576) (hp : 0 < n) (hz : zs.length = n) (h : RdV w ao (vb zs)) :
    Calls Try.prog 7 #[.slice ao n c] w fun e w' => e = .returned (.slice (some ⟨w.heap.size, 0, none⟩) n n) ∧
      w'.ownsRow w.heap.size 4 1 (.slice (some ⟨w.heap.size, 0, none⟩) n n) n (vb zs) ∧ Below w.heap.size w w' := by
  obtain ⟨b, o, rfl, hb, hc⟩ := h.at (by rw [vb_len]; omega)
  exact cloneB_some b o n c zs w hn hz (fun i hi => hc i _ (vb_at (by omega))) hb

/-- The new row after k rounds. -/
def uptoI (zs : List Int) (n k : Nat) : List Value := vi (zs.take k ++ List.replicate (n - k) 0)
theorem uptoI_zero (zs : List Int) (n : Nat) : uptoI zs n 0 = List.replicate n (.int .i64 0) := by
  simp [uptoI, vi]
theorem uptoI_all (zs : List Int) (n : Nat) (h : zs.length = n) : uptoI zs n n = vi zs := by
  simp [uptoI, vi, ← h]
theorem uptoI_at (zs : List Int) (n k : Nat) (h : zs.length = n) (hk : k < n) : (uptoI zs n k)[k]? = some (.int .i64 0) := by
  have h1 : (zs.take k).length = k := by simp; omega
  unfold uptoI vi
  rw [List.getElem?_map, List.getElem?_append_right (by omega), h1, Nat.sub_self, List.getElem?_replicate, if_pos (by omega)]
  rfl
theorem uptoI_succ (zs : List Int) (n k : Nat) (h : zs.length = n) (hk : k < n) : (uptoI zs n k).set k (.int .i64 (zs.getD k 0)) = uptoI zs n (k + 1) := by
  have h1 : (zs.take k).length = k := by simp; omega
  unfold uptoI vi
  rw [← List.map_set, List.set_append_right _ _ (by omega), h1, Nat.sub_self]
  congr 1
  rw [List.take_succ_eq_append_getElem (by omega), List.append_assoc]
  congr 1
  rw [show n - k = (n - (k + 1)) + 1 from by omega, List.replicate_succ, List.set_cons_zero]
  simp [List.getD, show k < zs.length by omega]
theorem cloneI_step {w wr : World} {zs : List Int} {n k : Nat} (h : zs.length = n) (hk : k < n)
    (hown : wr.ownsRow w.heap.size 3 1 (.slice (some ⟨w.heap.size, 0, none⟩) n n) n (uptoI zs n k)) (hbel : Below w.heap.size w wr) :
    (wr.setCell ⟨w.heap.size, k, none⟩ (.int .i64 (zs.getD k 0))).ownsRow w.heap.size 3 1 (.slice (some ⟨w.heap.size, 0, none⟩) n n) n (uptoI zs n (k + 1)) ∧
      Below w.heap.size w (wr.setCell ⟨w.heap.size, k, none⟩ (.int .i64 (zs.getD k 0))) := by
  have s := hown.stored k (.int .i64 (zs.getD k 0))
  rw [uptoI_succ zs n k h hk] at s
  exact ⟨s.1, hbel.setCell (Nat.le_refl _) _⟩

set_option maxHeartbeats 400000 in
theorem cloneI_nil (w : World) :
    Calls Try.prog 8 #[.slice none 0 0] w fun e w' => e = .returned (.slice none 0 0) ∧ w = w' := by
  have hq := fun (w : World) (a : Option Addr) (n c : Nat) => Lib.run_eql_slice_nil (P := Try.prog) w 23 3 a n c 0 0 Try.underlying23
  go_enter Try.func8, Try.ntmps8
  go_wp2
  go_ret
  exact ⟨rfl, rfl⟩

set_option maxHeartbeats 1000000 in
theorem cloneI_some (b off n c : Nat) (zs : List Int) (w : World) (hn : n ≤ 1048576) (hz : zs.length = n)
    (hc : ∀ i, i < n → w.cell? ⟨b, off + i, none⟩ = some (.int .i64 (zs.getD i 0))) (hb : b < w.heap.size) :
    Calls Try.prog 8 #[.slice (some ⟨b, off, none⟩) n c] w fun e w' => e = .returned (.slice (some ⟨w.heap.size, 0, none⟩) n n) ∧
      w'.ownsRow w.heap.size 3 1 (.slice (some ⟨w.heap.size, 0, none⟩) n n) n (vi zs) ∧ Below w.heap.size w w' := by
  have hq := fun (w : World) (a : Option Addr) (n c : Nat) => Lib.run_eql_slice_nil (P := Try.prog) w 23 3 a n c 0 0 Try.underlying23
  obtain ⟨i0, hi, hz0, hz1, hz2⟩ := info_parts info3
  go_enter Try.func8, Try.ntmps8
  go_wp2_with (refine wpList_make_full _ rfl (.tmp 8) (.tmp 8) 23 rfl w.heap.size 3 i0 (.int .i64 0) 1 Try.underlying23 hi hz0 hz1 .i64 .i64 n n n rfl rfl rfl rfl ?b2 ?b3 (Nat.le_refl _) ?_)
  case b2 => rw [hz2]; omega
  case b3 => unfold maxLen; omega
  intro w1 hown1 hgrow1
  go_wp2
  go_loopw [4] (fun i wr => ∃ k : Nat, k ≤ n ∧ i = .int .i64 k ∧ wr.ownsRow w.heap.size 3 1 (.slice (some ⟨w.heap.size, 0, none⟩) n n) n (uptoI zs n k) ∧ Below w.heap.size w wr) (fun i _ => n - (intOf i).toNat)
  case atStart =>
    refine ⟨0, Nat.zero_le _, rfl, ?_, (Below.refl _ _).grown hgrow1 (Nat.le_refl _) (fun k h => by cases h)⟩
    rw [uptoI_zero]
    simpa [toList_madeCells_one] using hown1
  case round =>
    obtain ⟨k, hk, rfl, hown, hbel⟩ := hrel
    clear hown1 hgrow1
    by_cases hlt : k < n
    · have S := cloneI_step hz hlt hown hbel
      have hcs : wr.cell? ⟨b, off + k, none⟩ = some (.int .i64 (zs.getD k 0)) := (hbel.cell (p := ⟨b, off + k, none⟩) hb).trans (hc k hlt)
      have hcd : wr.cell? ⟨w.heap.size, k, none⟩ = some (.int .i64 0) := by rw [hown.cellAt k (by omega), uptoI_at zs n k hz hlt]
      have hfd : wr.frozen? ⟨w.heap.size, k, none⟩ = false := hown.frozenAt k
      generalize zs.getD k 0 = x at *
      clear hown hbel hc
      go_wp2
      go_roundw
      case rel => exact ⟨k + 1, by omega, by go_num, S.1, S.2⟩
      case measure => simp [intOf]; omega
    · obtain rfl : k = n := by omega
      rw [uptoI_all zs k hz] at hown
      go_wp2
      go_ret
      exact ⟨rfl, hown, hbel⟩

set_option maxHeartbeats 1000000 in
theorem cloneI_zero (x : Addr) (c : Nat) (w : World) :
    Calls Try.prog 8 #[.slice (some x) 0 c] w fun e w' => e = .returned (.slice (some ⟨w.heap.size, 0, none⟩) 0 0) ∧ Below w.heap.size w w' := by
  have hq := fun (w : World) (a : Option Addr) (n c : Nat) => Lib.run_eql_slice_nil (P := Try.prog) w 23 3 a n c 0 0 Try.underlying23
  obtain ⟨i0, hi, hz0, hz1, hz2⟩ := info_parts info3
  go_enter Try.func8, Try.ntmps8
  go_wp2_with (refine wpList_make_full _ rfl (.tmp 8) (.tmp 8) 23 rfl w.heap.size 3 i0 (.int .i64 0) 1 Try.underlying23 hi hz0 hz1 .i64 .i64 0 0 0 rfl rfl rfl rfl ?b2 ?b3 (Nat.le_refl _) ?_)
  case b2 => omega
  case b3 => unfold maxLen; omega
  intro w1 hown1 hgrow1
  have hbel : Below w.heap.size w w1 := (Below.refl _ _).grown hgrow1 (Nat.le_refl _) (fun k h => by cases h)
  clear hown1 hgrow1
  go_wp2
  refine wp_loop_rounds 1 ?_
  rw [rounds_succ]
  go_wp2
  go_ret
  exact ⟨rfl, hbel⟩

theorem cloneI_any (ao : Option Addr) (n c : Nat) (zs : List Int) (w : World) (hn : n ≤ 1048576) (hz : zs.length = n) (hnil : ao = none → c = 0) (h : RdV w ao (vi zs)) :
    Calls Try.prog 8 #[.slice ao n c] w fun e w' => ∃ ao', e = .returned (.slice ao' n n) ∧ RdV w' ao' (vi zs) ∧ Below w.heap.size w w' := by
  by_cases hp : 0 < n
  · obtain ⟨b, o, rfl, hb, hc⟩ := h.at (by rw [vi_len]; omega)
    refine (cloneI_some b o n c zs w hn hz (fun i hi => hc i _ (vi_at (by omega))) hb).mono ?_
    rintro e w' ⟨rfl, ho, hbel⟩
    exact ⟨_, rfl, RdV.own ho, hbel⟩
  · obtain rfl : n = 0 := by omega
    obtain rfl : zs = [] := List.eq_nil_of_length_eq_zero hz
    cases ao with
    | none =>
      obtain rfl : c = 0 := hnil rfl
      refine (cloneI_nil w).mono ?_
      rintro e w' ⟨rfl, rfl⟩
      exact ⟨none, rfl, h, Below.refl _ _⟩
    | some x =>
      refine (cloneI_zero x c w).mono ?_
      rintro e w' ⟨rfl, hbel⟩
      exact ⟨_, rfl, ⟨fun e => (by cases e), fun _ _ j u hj => (by simp [vi] at hj)⟩, hbel⟩

theorem cloneI_pos (ao : Option Addr) (n c : Nat) (zs : List Int) (w : World) (hn : n ≤ 1048576) (hp : 0 < n) (hz : zs.length = n) (h : RdV w ao (vi zs)) :
    Calls Try.prog 8 #[.slice ao n c] w fun e w' => e = .returned (.slice (some ⟨w.heap.size, 0, none⟩) n n) ∧
      w'.ownsRow w.heap.size 3 1 (.slice (some ⟨w.heap.size, 0, none⟩) n n) n (vi zs) ∧ Below w.heap.size w w' := by
  obtain ⟨b, o, rfl, hb, hc⟩ := h.at (by rw [vi_len]; omega)
  exact cloneI_some b o n c zs w hn hz (fun i hi => hc i _ (vi_at (by omega))) hb

end Go.Proofs.Qxb6630441a.Set
