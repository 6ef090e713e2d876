/-
  The set: made, added to, asked.
-/
import Derived.Test.Qxb6630441aBase
namespace Go.Proofs.Qxb6630441a.Set
open Go.RowKit
set_option linter.unusedVariables false

set_option maxHeartbeats 400000 in
theorem new_any (a : Option Addr) (n c : Nat) (x : Int) (w : World) :
    Calls Try.prog 9 #[.slice a n c, .int .i64 x] w fun e w' => e = .returned (.pointer (some ⟨w.heap.size, 0, none⟩)) ∧ w' = w.alloc (.cells #[.slice a n c, .int .i64 x] 35) := by
  go_enter Try.func9, Try.ntmps9
  go_wp2
  go_ret
  exact ⟨rfl, rfl⟩

set_option maxHeartbeats 400000 in
theorem in_any (p : Nat) (v : Value) (w : World) (h : w.cell? ⟨p, 0, none⟩ = some v) :
    Calls Try.prog 11 #[.pointer (some ⟨p, 0, none⟩)] w fun e w' => e = .returned v ∧ w = w' := by
  go_enter Try.func11, Try.ntmps11
  go_wp2
  go_ret
  exact ⟨rfl, rfl⟩

set_option maxHeartbeats 400000 in
theorem count12_any (p : Nat) (v : Value) (w : World) (h : w.cell? ⟨p, 1, none⟩ = some v) :
    Calls Try.prog 12 #[.pointer (some ⟨p, 0, none⟩)] w fun e w' => e = .returned v ∧ w = w' := by
  go_enter Try.func12, Try.ntmps12
  go_wp2
  go_ret
  exact ⟨rfl, rfl⟩

/-- The set at block p: its row at block g, n bools bs; its count. -/
structure SetAt (w : World) (base p g n : Nat) (bs : List Bool) (cnt : Int) : Prop where
  hd : w.heap[p]? = some (.cells #[.slice (some ⟨g, 0, none⟩) n n, .int .i64 cnt] 35 (0, 0))
  row : w.ownsRow base 4 1 (.slice (some ⟨g, 0, none⟩) n n) n (vb bs)

/-- Nothing has turned but blocks p and g. -/
structure Kept (p g : Nat) (w w' : World) : Prop where
  os : w'.os = w.os
  tape : w'.tape = w.tape
  output : w'.output = w.output
  size : w'.heap.size = w.heap.size
  block : ∀ k, k ≠ p → k ≠ g → w'.heap[k]? = w.heap[k]?

theorem Kept.refl (p g : Nat) (w : World) : Kept p g w w := ⟨rfl, rfl, rfl, rfl, fun _ _ _ => rfl⟩
theorem Kept.below {p g : Nat} {w w' : World} (h : Kept p g w w') {B : Nat} (h1 : B ≤ p) (h2 : B ≤ g) : Below B w w' :=
  ⟨h.os, h.tape, h.output, Nat.le_of_eq h.size.symm, fun k hk => h.block k (by omega) (by omega)⟩
theorem Kept.cell {p g : Nat} {w w' : World} (h : Kept p g w w') {a : Addr} (h1 : a.block ≠ p) (h2 : a.block ≠ g) : w'.cell? a = w.cell? a :=
  World.cell?_of_block (w := w) (h.block a.block h1 h2)
theorem Kept.frozen {p g : Nat} {w w' : World} (h : Kept p g w w') {a : Addr} (h1 : a.block ≠ p) (h2 : a.block ≠ g) : w'.frozen? a = w.frozen? a :=
  World.frozen?_of_block (w := w) (h.block a.block h1 h2)

theorem SetAt.len {w : World} {base p g n : Nat} {bs : List Bool} {cnt : Int} (h : SetAt w base p g n bs cnt) : bs.length = n := by simpa [vb] using h.row.1
theorem SetAt.base_le {w : World} {base p g n : Nat} {bs : List Bool} {cnt : Int} (h : SetAt w base p g n bs cnt) : base ≤ g := (h.row.lt g rfl).1
theorem SetAt.g_lt {w : World} {base p g n : Nat} {bs : List Bool} {cnt : Int} (h : SetAt w base p g n bs cnt) : g < w.heap.size := (h.row.lt g rfl).2
theorem SetAt.p_lt {w : World} {base p g n : Nat} {bs : List Bool} {cnt : Int} (h : SetAt w base p g n bs cnt) : p < w.heap.size := lt_of_block h.hd
theorem SetAt.ne {w : World} {base p g n : Nat} {bs : List Bool} {cnt : Int} (h : SetAt w base p g n bs cnt) : p ≠ g := by
  intro e
  subst e
  rcases h.row.2 with ⟨e, _⟩ | ⟨g', cap', cur, e, _, hg, _⟩
  · cases e
  · cases e
    have := h.hd
    rw [hg] at this
    simp at this
theorem SetAt.cell0 {w : World} {base p g n : Nat} {bs : List Bool} {cnt : Int} (h : SetAt w base p g n bs cnt) : w.cell? ⟨p, 0, none⟩ = some (.slice (some ⟨g, 0, none⟩) n n) := by
  rw [cell_of_row w p 0 _ _ _ h.hd]; rfl
theorem SetAt.cell1 {w : World} {base p g n : Nat} {bs : List Bool} {cnt : Int} (h : SetAt w base p g n bs cnt) : w.cell? ⟨p, 1, none⟩ = some (.int .i64 cnt) := by
  rw [cell_of_row w p 1 _ _ _ h.hd]; rfl
theorem SetAt.at {w : World} {base p g n : Nat} {bs : List Bool} {cnt : Int} (h : SetAt w base p g n bs cnt) {r : Nat} (hr : r < n) : w.cell? ⟨g, r, none⟩ = some (.bool (bs.getD r false)) := by
  have := h.len
  rw [h.row.cellAt r (by omega), vb_at (by omega)]
theorem SetAt.rd {w : World} {base p g n : Nat} {bs : List Bool} {cnt : Int} (h : SetAt w base p g n bs cnt) : RdV w (some ⟨g, 0, none⟩) (vb bs) := RdV.own h.row

/-- The set where other blocks have turned. -/
theorem SetAt.keep {w w' : World} {base p g n : Nat} {bs : List Bool} {cnt : Int} (h : SetAt w base p g n bs cnt) (hp : w'.heap[p]? = w.heap[p]?) (hg : w'.heap[g]? = w.heap[g]?) : SetAt w' base p g n bs cnt := by
  refine ⟨hp.trans h.hd, h.row.1, ?_⟩
  rcases h.row.2 with ⟨e, _⟩ | ⟨g', cap', cur, e, hb, hh, rest⟩
  · cases e
  · cases e
    exact .inr ⟨g, n, cur, rfl, hb, hg.trans hh, rest⟩
theorem SetAt.below {w w' : World} {base p g n B : Nat} {bs : List Bool} {cnt : Int} (h : SetAt w base p g n bs cnt) (hb : Below B w w') (hp : p < B) (hg : g < B) : SetAt w' base p g n bs cnt :=
  h.keep (hb.block p hp) (hb.block g hg)

theorem set_new {w : World} {base p g n r : Nat} {bs : List Bool} {cnt : Int} (h : SetAt w base p g n bs cnt) (hr : r < n) :
    SetAt ((w.setCell ⟨g, r, none⟩ (.bool true)).setCell ⟨p, 1, none⟩ (.int .i64 (cnt + 1))) base p g n (bs.set r true) (cnt + 1) ∧
      Kept p g w ((w.setCell ⟨g, r, none⟩ (.bool true)).setCell ⟨p, 1, none⟩ (.int .i64 (cnt + 1))) := by
  have hne := h.ne
  have s := h.row.stored r (.bool true)
  have e1 : (w.setCell ⟨g, r, none⟩ (.bool true)).heap[p]? = some (.cells #[.slice (some ⟨g, 0, none⟩) n n, .int .i64 cnt] 35 (0, 0)) := by
    rw [heap_setCell_other w ⟨g, r, none⟩ p _ hne]; exact h.hd
  have e2 : (vb bs).set r (.bool true) = vb (bs.set r true) := by simp [vb]
  refine ⟨⟨?_, ?_⟩, ⟨rfl, rfl, rfl, by simp, fun k h1 h2 => ?_⟩⟩
  · rw [heap_setCell_same _ p 1 _ 35 _ e1]; rfl
  · rw [← e2]
    exact ownsRow_setCell_other s.1 (by simp [Value.ownBlock]; omega) _
  · rw [heap_setCell_other _ ⟨p, 1, none⟩ k _ h1, heap_setCell_other _ ⟨g, r, none⟩ k _ h2]

set_option maxHeartbeats 1000000 in
theorem add_old (base p g n r : Nat) (bs : List Bool) (cnt : Int) (w : World) (h : SetAt w base p g n bs cnt) (hr : r < n) (hb : bs.getD r false = true) :
    Calls Try.prog 10 #[.pointer (some ⟨p, 0, none⟩), .int .i64 r] w fun e w' => e = .returned (.bool false) ∧ w = w' := by
  have h0 := h.cell0
  have h1 := h.at hr
  rw [hb] at h1
  have hri : (r : Int) < (n : Int) := by omega
  clear h hb
  go_enter Try.func10, Try.ntmps10
  go_wp2
  go_ret
  exact ⟨rfl, rfl⟩

set_option maxHeartbeats 1000000 in
theorem add_new (base p g n r : Nat) (bs : List Bool) (cnt : Int) (w : World) (h : SetAt w base p g n bs cnt) (hr : r < n) (hb : bs.getD r false = false) (c0 : 0 ≤ cnt) (c1 : cnt ≤ 100000000) :
    Calls Try.prog 10 #[.pointer (some ⟨p, 0, none⟩), .int .i64 r] w fun e w' => e = .returned (.bool true) ∧ SetAt w' base p g n (bs.set r true) (cnt + 1) ∧ Kept p g w w' := by
  have S := set_new h hr
  have h0 := h.cell0
  have h1 := h.cell1
  have h2 := h.at hr
  have f1 : w.frozen? ⟨p, 1, none⟩ = false := frozen_of_row w p 1 _ _ h.hd
  have f2 : w.frozen? ⟨g, r, none⟩ = false := h.row.frozenAt r
  rw [hb] at h2
  have hne := h.ne
  have hri : (r : Int) < (n : Int) := by omega
  clear h hb
  go_enter Try.func10, Try.ntmps10
  go_wp2
  go_ret
  exact ⟨rfl, S.1, S.2⟩

theorem count_at (ao : Option Addr) (n c : Nat) (bs : List Bool) (q : Nat) (w : World) (hn : n ≤ 1048576) (hz : bs.length = n) (h : RdV w ao (vb bs)) (hq : ct bs = q) :
    Calls Try.prog 6 #[.slice ao n c] w fun e w' => e = .returned (.int .i64 q) ∧ w = w' := by
  subst hq; exact count_any ao n c bs w hn hz h

/-- Add, the answer under a name. -/
theorem add_at (base p g n r : Nat) (bs : List Bool) (cnt : Int) (v : Bool) (w : World) (h : SetAt w base p g n bs cnt) (hr : r < n) (hb : bs.getD r false = v) (c0 : 0 ≤ cnt) (c1 : cnt ≤ 100000000) :
    Calls Try.prog 10 #[.pointer (some ⟨p, 0, none⟩), .int .i64 r] w fun e w' => e = .returned (.bool (!v)) ∧ SetAt w' base p g n (bs.set r true) (cnt + (if v = true then 0 else 1)) ∧ Kept p g w w' := by
  cases v with
  | true =>
    refine (add_old base p g n r bs cnt w h hr hb).mono ?_
    rintro e w' ⟨rfl, rfl⟩
    have hl := h.len
    have e1 : bs.set r true = bs := by
      refine List.ext_getElem (by simp) fun i h1 h2 => ?_
      rw [List.getElem_set]
      split
      · rename_i e; subst e; simp [List.getD, h2] at hb; exact hb.symm
      · rfl
    refine ⟨rfl, ?_, Kept.refl _ _ _⟩
    rw [e1]
    simpa using h
  | false =>
    refine (add_new base p g n r bs cnt w h hr hb c0 c1).mono ?_
    rintro e w' ⟨rfl, h1, h2⟩
    exact ⟨rfl, by simpa using h1, h2⟩

/-- A set made of a row that has just been cloned. -/
theorem SetAt.made {w : World} {base g n : Nat} {bs : List Bool} {cnt : Int} (h : w.ownsRow base 4 1 (.slice (some ⟨g, 0, none⟩) n n) n (vb bs)) :
    SetAt (w.alloc (.cells #[.slice (some ⟨g, 0, none⟩) n n, .int .i64 cnt] 35)) base w.heap.size g n bs cnt :=
  ⟨heap_alloc_new w _, h.alloc _⟩

theorem getD_set (bs : List Bool) (r j : Nat) (hr : r < bs.length) : (bs.set r true).getD j false = (bs.getD j false || decide (j = r)) := by
  by_cases e : j = r
  · subst e; simp [List.getD, hr]
  · rw [List.getD, List.getElem?_set_ne (by omega)]
    simp [List.getD, e]

end Go.Proofs.Qxb6630441a.Set
