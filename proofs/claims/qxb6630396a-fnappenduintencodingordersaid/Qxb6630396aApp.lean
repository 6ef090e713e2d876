/-
  The contract of AppendUint.
-/
import Derived.Test.Qxb6630396aClone
import Derived.Test.Qxb6630396aLen
import Derived.Test.Qxb6630396aPlain
namespace Go.Proofs.Qxb6630396a.Rlp
open Go.RowKit
set_option linter.unusedVariables false

theorem olds_of {w : World} {ao : Option Addr} {zs : List Int} (h : RdS w ao zs) (o : Obj) :
    ∀ b, ao = some b → ∀ j u, (cellsOf zs)[j]? = some u → (w.alloc o).cell? (b.add j) = some u := by
  intro b e j u hu
  have hj : j < zs.length := by
    have := (List.getElem?_eq_some_iff.1 hu).1
    simpa [cellsOf] using this
  have hx := h.2 b e j hj
  have hl := Go.block_lt_of_cell hx
  rw [((Below.refl w.heap.size w).alloc (Nat.le_refl _) o).cell hl, hx]
  have e2 : (cellsOf zs)[j]? = some (.int .u8 (zs.getD j 0)) := by simp [cellsOf, hj]
  rw [e2] at hu
  exact hu

theorem cellsOf_snoc (zs : List Int) (x : Int) : cellsOf zs ++ [.int .u8 x] = cellsOf (zs ++ [x]) := by simp [cellsOf]

theorem own_shape {w : World} {base n : Nat} {v : Value} {zs : List Int} (h : w.ownsRow base 5 1 v n (cellsOf zs)) (hp : 0 < n) :
    ∃ g cap, v = .slice (some ⟨g, 0, none⟩) n cap ∧ n ≤ cap ∧ base ≤ g ∧ RdS w (some ⟨g, 0, none⟩) zs := by
  rcases h.2 with ⟨_, h0⟩ | ⟨g, cap, cur, rfl, hb, _, hnc, _⟩
  · omega
  · exact ⟨g, cap, rfl, hnc, hb, RdS.own h⟩

theorem one_new (w : World) (x : Value) (t : TypeId) : ∀ j u, [x][j]? = some u → (w.alloc (.cells #[x] t)).cell? ((⟨w.heap.size, 0, none⟩ : Addr).add j) = some u := by
  intro j u hj
  match j, hj with
  | 0, hj => simp at hj; subst hj; simp [Addr.add]

set_option maxHeartbeats 1000000 in
theorem app_zero (ao : Option Addr) (n : Nat) (zs : List Int) (w : World) (hn : n ≤ 1048576) (hz : zs.length = n) (h : RdS w ao zs) :
    Calls Try.prog 7 #[.slice ao n n, .int .u64 0] w fun e w' => ∃ g cap, e = .returned (.slice (some ⟨g, 0, none⟩) (n + 1) cap) ∧ RdS w' (some ⟨g, 0, none⟩) (zs ++ [128]) ∧ n + 1 ≤ cap ∧ Below w.heap.size w w' := by
  obtain ⟨i0, hi, hz0, hz1, hz2⟩ := info_parts info5
  have hnone : ao = none → n = 0 ∧ n = 0 := fun e => by have := h.1 e; subst this; simp at hz; omega
  go_enter Try.func7, Try.ntmps7
  go_wp2_with (at_builtin; refine wpList_append_grows _ rfl (.tmp 9) (.tmp 10) 22 rfl 5 i0 (.int .u8 0) 1 1 Try.underlying22 hi hz0 hz1 hz2 rfl (by decide) ao n n (cellsOf zs) rfl hnone ?lo (olds_of h _) ⟨w.heap.size, 0, none⟩ 1 1 [.int .u8 128] rfl rfl (one_new _ _ _) ?c2 (by omega) ?b1 ?b2 ?grow)
  case lo => simp [cellsOf]; omega
  case c2 => intro u hu; simp at hu; subst hu; rfl
  case b1 => unfold maxLen; omega
  case b2 => omega
  case grow =>
    intro v' w' hown hgrow
    have hbel : Below w.heap.size w w' := ((Below.refl _ _).alloc (Nat.le_refl _) _).grown hgrow (by simp) (fun k h => by cases h)
    rw [cellsOf_snoc] at hown
    have hex := own_shape hown (by omega)
    obtain ⟨g, cap, hv, hcap, hg, hr⟩ := hex
    rw [hv]
    clear hown hgrow hv
    go_wp2
    go_ret
    exact ⟨g, cap, rfl, hr, hcap, hbel⟩

set_option maxHeartbeats 1000000 in
theorem app_small (ao : Option Addr) (n : Nat) (zs : List Int) (v : Int) (w : World) (hn : n ≤ 1048576) (hz : zs.length = n) (h : RdS w ao zs) (h1 : 0 < v) (h2 : v < 128) :
    Calls Try.prog 7 #[.slice ao n n, .int .u64 v] w fun e w' => ∃ g cap, e = .returned (.slice (some ⟨g, 0, none⟩) (n + 1) cap) ∧ RdS w' (some ⟨g, 0, none⟩) (zs ++ [v]) ∧ n + 1 ≤ cap ∧ Below w.heap.size w w' := by
  obtain ⟨i0, hi, hz0, hz1, hz2⟩ := info_parts info5
  have hnone : ao = none → n = 0 ∧ n = 0 := fun e => by have := h.1 e; subst this; simp at hz; omega
  have hv0 : (v == 0) = false := by simp; omega
  go_enter Try.func7, Try.ntmps7
  go_wp2_with (at_builtin; refine wpList_append_grows _ rfl (.tmp 14) (.tmp 17) 22 rfl 5 i0 (.int .u8 0) 1 1 Try.underlying22 hi hz0 hz1 hz2 rfl (by decide) ao n n (cellsOf zs) rfl hnone ?lo (olds_of h _) ⟨w.heap.size, 0, none⟩ 1 1 [.int .u8 v] rfl rfl (one_new _ _ _) ?c2 (by omega) ?b1 ?b2 ?grow)
  case lo => simp [cellsOf]; omega
  case c2 => intro u hu; simp at hu; subst hu; rfl
  case b1 => unfold maxLen; omega
  case b2 => omega
  case grow =>
    intro v' w' hown hgrow
    have hbel : Below w.heap.size w w' := ((Below.refl _ _).alloc (Nat.le_refl _) _).grown hgrow (by simp) (fun k h => by cases h)
    rw [cellsOf_snoc] at hown
    have hex := own_shape hown (by omega)
    obtain ⟨g, cap, hv, hcap, hg, hr⟩ := hex
    rw [hv]
    clear hown hgrow hv
    go_wp2
    go_ret
    exact ⟨g, cap, rfl, hr, hcap, hbel⟩

theorem own_mono {w : World} {base base' n : Nat} {v : Value} {xs : List Value} (h : w.ownsRow base 5 1 v n xs) (hb : base' ≤ base) : w.ownsRow base' 5 1 v n xs := by
  refine ⟨h.1, ?_⟩
  rcases h.2 with hn | ⟨g, cap, cur, hv, hg, rest⟩
  · exact .inl hn
  · exact .inr ⟨g, cap, cur, hv, Nat.le_trans hb hg, rest⟩

theorem own_base {w : World} {base n : Nat} {v : Value} {xs : List Value} (h : w.ownsRow base 5 1 v n xs) : ∀ k, v.ownBlock = some k → base ≤ k := fun k hk => (h.lt k hk).1

theorem be_step {q m : Nat} {v : Int} {pre : List Int} (h : pre ++ be (q + 1) v = (128 + (m : Int)) :: be m v) : (pre ++ [v / 2 ^ (8 * q) % 256]) ++ be q v = (128 + (m : Int)) :: be m v := by
  rw [List.append_assoc]; exact h

theorem app_step {w wr w1 : World} {d d' : Value} {n q : Nat} {v : Int} {zs pre : List Int} {o : Obj} (hown : wr.ownsRow w.heap.size 5 1 d (n + pre.length) (cellsOf (zs ++ pre))) (hbel : Below w.heap.size w wr)
    (hown' : w1.ownsRow w.heap.size 5 1 d' (n + pre.length + 1) (cellsOf (zs ++ pre) ++ [.int .u8 (v / 2 ^ (8 * q) % 256)])) (hgrow : (wr.alloc o).grownBy w1 d.ownBlock) :
    w1.ownsRow w.heap.size 5 1 d' (n + (pre ++ [v / 2 ^ (8 * q) % 256]).length) (cellsOf (zs ++ (pre ++ [v / 2 ^ (8 * q) % 256]))) ∧ Below w.heap.size w w1 := by
  rw [cellsOf_snoc, List.append_assoc] at hown'
  refine ⟨by simpa [Nat.add_assoc] using hown', ?_⟩
  exact (hbel.alloc hbel.size o).grown hgrow (by have := hbel.size; simp; omega) (own_base hown)

theorem len_at (v : Int) (L : Nat) (w : World) (h0 : 0 ≤ v) (h1 : v ≤ 18446744073709551615) (hL : Lib.bitLen v.toNat = L) :
    Calls Try.prog 12 #[.int .u64 v] w fun e w' => e = .returned (.int .i64 L) ∧ w = w' := by
  subst hL
  refine (Try.bits_Len64 v w h0 h1).mono ?_
  rintro e w' ⟨rfl, rfl⟩
  exact ⟨rfl, rfl⟩

set_option maxHeartbeats 1000000 in
theorem app_great (ao : Option Addr) (n : Nat) (zs : List Int) (v : Int) (m : Nat) (w : World) (hn : n ≤ 1048576) (hz : zs.length = n) (h : RdS w ao zs) (h1 : 128 ≤ v) (h2 : v ≤ 18446744073709551615) (hm : nb v = m) (hm1 : 1 ≤ m) (hm2 : m ≤ 8) :
    Calls Try.prog 7 #[.slice ao n n, .int .u64 v] w fun e w' => ∃ g cap, e = .returned (.slice (some ⟨g, 0, none⟩) (n + 1 + m) cap) ∧ RdS w' (some ⟨g, 0, none⟩) (zs ++ ((128 + (m : Int)) :: be m v)) ∧ n + 1 + m ≤ cap ∧ Below w.heap.size w w' := by
  obtain ⟨i0, hi, hz0, hz1, hz2⟩ := info_parts info5
  have hnone : ao = none → n = 0 ∧ n = 0 := fun e => by have := h.1 e; subst this; simp at hz; omega
  have hv0 : (v == 0) = false := by simp; omega
  have hv1 : decide (v < 128) = false := by simp; omega
  obtain ⟨L, hL⟩ : ∃ L, Lib.bitLen v.toNat = L := ⟨_, rfl⟩
  have hL1 : 8 * m ≤ L + 7 := by unfold nb at hm; omega
  have hL2 : L + 7 < 8 * m + 8 := by unfold nb at hm; omega
  have HL : Hid (Lib.bitLen v.toNat = L) := hL
  have HQ : Hid (((L : Int) + 7) / 8 = (m : Int)) := by show _ = _; omega
  clear hm hL
  go_enter Try.func7, Try.ntmps7
  go_wp2_with (first | (go_at_call 12; refine (len_at v L _ (by omega) h2 HL.out).mono ?_; rintro e w' ⟨rfl, rfl⟩) | (at_builtin; simp only [HQ.out]; refine wpList_append_grows _ rfl (.tmp 23) (.tmp 27) 22 rfl 5 i0 (.int .u8 0) 1 1 Try.underlying22 hi hz0 hz1 hz2 rfl (by decide) ao n n (cellsOf zs) rfl hnone ?lo (olds_of h _) ⟨w.heap.size, 0, none⟩ 1 1 [.int .u8 (128 + (m : Int))] rfl rfl (one_new _ _ _) ?c2 (by omega) ?b1 ?b2 ?grow))
  case lo => simp [cellsOf]; omega
  case c2 => intro u hu; simp at hu; subst hu; rfl
  case b1 => unfold maxLen; omega
  case b2 => omega
  intro v' w1 hown hgrow
  have hbel : Below w.heap.size w w1 := ((Below.refl _ _).alloc (Nat.le_refl _) _).grown hgrow (by simp) (fun k h => by cases h)
  rw [cellsOf_snoc] at hown
  go_wp2
  have hown0 : w1.ownsRow w.heap.size 5 1 v' (n + 1) (cellsOf (zs ++ [128 + (m : Int)])) := own_mono hown (by simp)
  clear hown hgrow
  go_loopw [0, 6] (fun d i wr => ∃ (r : Nat) (pre : List Int), r ≤ m ∧ i = .int .i64 ((r : Int) - 1) ∧ pre.length = 1 + (m - r) ∧ pre ++ be r v = (128 + (m : Int)) :: be m v ∧ wr.ownsRow w.heap.size 5 1 d (n + pre.length) (cellsOf (zs ++ pre)) ∧ Below w.heap.size w wr) (fun _ i _ => (intOf i + 1).toNat)
  case atStart => exact ⟨m, [128 + (m : Int)], Nat.le_refl _, rfl, by simp, rfl, hown0, hbel⟩
  case round =>
    obtain ⟨r, pre, hr, rfl, hpl, hpre, hown, hbel⟩ := hrel
    have HP : Hid (pre ++ be r v = (128 + (m : Int)) :: be m v) := hpre
    have HPL : Hid (pre.length = 1 + (m - r)) := hpl
    have hpl9 : pre.length ≤ 9 := by omega
    clear hpre hpl hown0
    by_cases hr0 : 1 ≤ r
    · obtain ⟨q, rfl⟩ : ∃ q, r = q + 1 := ⟨r - 1, by omega⟩
      have hws := hbel.size
      go_wp2_with (at_builtin; refine wpList_append_own _ rfl (.tmp 35) (.tmp 41) 22 rfl w.heap.size 5 i0 (.int .u8 0) 1 1 Try.underlying22 hi hz0 hz1 hz2 rfl (by decide) _ _ _ rfl (hown.alloc _) ⟨wr.heap.size, 0, none⟩ 1 1 [.int .u8 (v / 2 ^ (8 * q) % 256)] rfl rfl (one_new _ _ _) ?r2 ?r3 ?r4 ?r5 ?_)
      case r2 => intro u hu; simp at hu; subst hu; rfl
      case r3 => unfold maxLen; omega
      case r4 => omega
      case r5 => simp; omega
      intro d' w2 hown2 hgrow2 _
      have S := app_step hown hbel hown2 hgrow2
      clear hown hbel hown2 hgrow2
      go_wp2
      go_roundw
      case rel => exact ⟨q, pre ++ [v / 2 ^ (8 * q) % 256], by omega, by go_num, by have := HPL.out; simp; omega, be_step HP.out, S.1, S.2⟩
      case measure => simp [intOf]
    · obtain rfl : r = 0 := by omega
      have hpp : pre = (128 + (m : Int)) :: be m v := by simpa [be] using HP.out
      have hl2 : n + pre.length = n + 1 + m := by have := HPL.out; omega
      rw [hl2, hpp] at hown
      have hex := own_shape hown (by omega)
      obtain ⟨g, cap, hv, hcap, hg, hrd⟩ := hex
      clear hown hpp hl2
      rw [hv]
      clear hv
      go_wp2
      go_ret
      exact ⟨g, cap, rfl, hrd, hcap, hbel⟩

/-- AppendUint, whatever the number: the old bytes, then the encoding; nothing that was there is turned. -/
theorem app_any (ao : Option Addr) (n : Nat) (zs : List Int) (v : Int) (w : World) (hn : n ≤ 1048576) (hz : zs.length = n) (h : RdS w ao zs) (h1 : 0 ≤ v) (h2 : v ≤ 18446744073709551615) :
    Calls Try.prog 7 #[.slice ao n n, .int .u64 v] w fun e w' => ∃ g cap, e = .returned (.slice (some ⟨g, 0, none⟩) (n + (enc v).length) cap) ∧ RdS w' (some ⟨g, 0, none⟩) (zs ++ enc v) ∧ n + (enc v).length ≤ cap ∧ Below w.heap.size w w' := by
  by_cases c0 : v = 0
  · subst c0; rw [enc_zero]; exact app_zero ao n zs w hn hz h
  by_cases c1 : v < 128
  · rw [enc_small v c0 c1]; exact app_small ao n zs v w hn hz h (by omega) c1
  · have s := nb_spec v (by omega) h2
    rw [enc_great v (by omega), List.length_cons, be_length, Nat.add_comm (nb v) 1, ← Nat.add_assoc]
    exact app_great ao n zs v (nb v) w hn hz h (by omega) h2 rfl s.1 s.2.1

theorem app_at (ao : Option Addr) (n : Nat) (zs : List Int) (v : Int) (m : Nat) (w : World) (hn : n ≤ 1048576) (hz : zs.length = n) (h : RdS w ao zs) (h1 : 0 ≤ v) (h2 : v ≤ 18446744073709551615) (hm : (enc v).length = m) :
    Calls Try.prog 7 #[.slice ao n n, .int .u64 v] w fun e w' => ∃ g cap, e = .returned (.slice (some ⟨g, 0, none⟩) (n + m) cap) ∧ RdS w' (some ⟨g, 0, none⟩) (zs ++ enc v) ∧ n + m ≤ cap ∧ Below w.heap.size w w' := by
  subst hm; exact app_any ao n zs v w hn hz h h1 h2

theorem clone_pos (ao : Option Addr) (n c : Nat) (zs : List Int) (w : World) (hn : n ≤ 1048576) (hp : 0 < n) (hz : zs.length = n) (h : RdS w ao zs) :
    Calls Try.prog 6 #[.slice ao n c] w fun e w' => ∃ b o, e = .returned (.slice (some ⟨b, o, none⟩) n n) ∧ RdS w' (some ⟨b, o, none⟩) zs ∧ Below w.heap.size w w' := by
  obtain ⟨b, o, rfl, hb, hc⟩ := h.at (by omega)
  refine (clone_some b o n c zs w hn hz (fun i hi => hc i (by omega)) hb).mono ?_
  rintro e w' ⟨rfl, ho, hbel⟩
  exact ⟨_, _, rfl, RdS.own ho, hbel⟩

theorem enc_len (v : Int) (h2 : v ≤ 18446744073709551615) : (enc v).length ≤ 9 := by
  by_cases c0 : v = 0
  · subst c0; rw [enc_zero]; simp
  by_cases c1 : v < 128
  · rw [enc_small v c0 c1]; simp
  · have s := nb_spec v (by omega) h2
    rw [enc_great v (by omega), List.length_cons, be_length]; omega

end Go.Proofs.Qxb6630396a.Rlp
