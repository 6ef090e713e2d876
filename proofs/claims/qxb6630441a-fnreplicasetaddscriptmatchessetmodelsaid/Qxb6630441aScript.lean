/-
  The law on a script of Adds: the walk, where the script is not empty.
-/
import Derived.Test.Qxb6630441aScriptPlain
import Derived.BigQuiet
namespace Go.Proofs.Qxb6630441a.Set
open Go.RowKit
set_option linter.unusedVariables false

theorem own_keep {w w' : World} {base e g n cap : Nat} {xs : List Value} (h : w.ownsRow base e 1 (.slice (some ⟨g, 0, none⟩) n cap) n xs) (hg : w'.heap[g]? = w.heap[g]?) : w'.ownsRow base e 1 (.slice (some ⟨g, 0, none⟩) n cap) n xs := by
  refine ⟨h.1, ?_⟩
  rcases h.2 with ⟨e, _⟩ | ⟨g', cap', cur, e, hb, hh, rest⟩
  · cases e
  · cases e
    exact .inr ⟨g, cap, cur, rfl, hb, hg.trans hh, rest⟩

/-- One round of the script: Add, then the answer stored. -/
theorem script_step {w5 wr w1 : World} {base bq B p g gq n m k : Nat} {bs : List Bool} {R : Nat → Nat} {q : Nat} {v : Bool} (hk : k < m)
    (G : wr.ownsRow bq 4 1 (.slice (some ⟨gq, 0, none⟩) m m) m (gotTo bs R m k)) (HB : Below B w5 wr) (b1 : B ≤ p) (b2 : B ≤ g) (b3 : B ≤ gq) (n1 : gq ≠ p) (n2 : gq ≠ g)
    (hv : (st bs R k).getD (R k) false = v) (S : SetAt w1 base p g n ((st bs R k).set (R k) true) ((q : Int) + (fr bs R k : Int) + (if v = true then 0 else 1))) (K : Kept p g wr w1) :
    SetAt (w1.setCell ⟨gq, k, none⟩ (.bool !v)) base p g n (st bs R (k + 1)) ((q : Int) + (fr bs R (k + 1) : Int)) ∧
      (w1.setCell ⟨gq, k, none⟩ (.bool !v)).ownsRow bq 4 1 (.slice (some ⟨gq, 0, none⟩) m m) m (gotTo bs R m (k + 1)) ∧
      Below B w5 (w1.setCell ⟨gq, k, none⟩ (.bool !v)) ∧ w1.cell? ⟨gq, k, none⟩ = some (.bool false) ∧ w1.frozen? ⟨gq, k, none⟩ = false := by
  have G1 := own_keep G (K.block gq n1 n2)
  have s := G1.stored k (.bool !v)
  have ea : ans bs R k = !v := by unfold ans; rw [hv]
  rw [← ea, gotTo_succ bs R m k hk] at s
  have ec : (q : Int) + (fr bs R k : Int) + (if v = true then 0 else 1) = (q : Int) + (fr bs R (k + 1) : Int) := by
    rw [fr, ea]
    cases v <;> simp; omega
  rw [ec] at S
  refine ⟨?_, ?_, ?_, ?_, G1.frozenAt k⟩
  · exact S.keep (heap_setCell_other _ ⟨gq, k, none⟩ p _ (fun e => n1 e.symm)) (heap_setCell_other _ ⟨gq, k, none⟩ g _ (fun e => n2 e.symm))
  · rw [← ea]; exact s.1
  · exact (HB.trans (K.below b1 b2)).setCell b3 _
  · rw [G1.cellAt k (by omega), gotTo_at bs R m k hk]

theorem count_atI (ao : Option Addr) (n c : Nat) (bs : List Bool) (r : Int) (w : World) (hn : n ≤ 1048576) (hz : bs.length = n) (h : RdV w ao (vb bs)) (hq : (ct bs : Int) = r) :
    Calls Try.prog 6 #[.slice ao n c] w fun e w' => e = .returned (.int .i64 r) ∧ w = w' := by
  subst hq; exact count_any ao n c bs w hn hz h

/-- What lies in memory behind the script. -/
structure Mem (w : World) (base B1 B2 gq p g n m : Nat) (bs : List Bool) (R : Nat → Nat) (q : Nat) : Prop where
  in0 : ∀ j, j < n → w.cell? ⟨B2, j, none⟩ = some (.bool (bs.getD j false))
  rs : ∀ i, i < m → w.cell? ⟨B1, i, none⟩ = some (.int .i64 (R i))
  got : ∀ i, i < m → w.cell? ⟨gq, i, none⟩ = some (.bool (ans bs R i))
  set : SetAt w base p g n (st bs R m) ((q : Int) + (fr bs R m : Int))

theorem Mem.below {w w' : World} {base B1 B2 gq p g n m : Nat} {bs : List Bool} {R : Nat → Nat} {q : Nat} (h : Mem w base B1 B2 gq p g n m bs R q) (hb : Below w.heap.size w w') : Mem w' base B1 B2 gq p g n m bs R q :=
  ⟨fun j hj => (hb.cell (p := ⟨B2, j, none⟩) (block_lt_of_cell (h.in0 j hj))).trans (h.in0 j hj), fun j hj => (hb.cell (p := ⟨B1, j, none⟩) (block_lt_of_cell (h.rs j hj))).trans (h.rs j hj),
    fun j hj => (hb.cell (p := ⟨gq, j, none⟩) (block_lt_of_cell (h.got j hj))).trans (h.got j hj), h.set.below hb h.set.p_lt h.set.g_lt⟩

set_option maxRecDepth 100000 in
set_option maxHeartbeats 4000000 in
theorem script_pos (a0 : Option Addr) (n cap0 : Nat) (bs : List Bool) (q : Nat) (br orr m capr : Nat) (zs : List Int) (w : World) (hn : n + 8 * m ≤ 1048576) (hm : 0 < m) (hm2 : m ≤ 4096) (hz : bs.length = n) (hr : RdV w a0 (vb bs)) (hq : ct bs = q)
    (hzs : zs.length = m) (hrs : RdV w (some ⟨br, orr, none⟩) (vi zs)) :
    Calls Try.prog 3 #[.slice a0 n cap0, .int .i64 q, .slice (some ⟨br, orr, none⟩) m capr] w fun e w' => e = .returned (.bool true) ∧ Below w.heap.size w w' := by
  have hf : fits (n + m) = true := by simp [fits]; omega
  have hq1 : q ≤ 1048576 := by have := ct_le bs; omega
  have d1 : decide ((1048576 : Int) < (n : Int)) = false := decide_eq_false (by omega)
  have d2 : decide ((131072 : Int) < (m : Int)) = false := decide_eq_false (by omega)
  have d3 : decide ((1048576 : Int) < (n : Int) + 8 * (m : Int)) = false := decide_eq_false (by omega)
  have d4 : decide ((4096 : Int) < (m : Int)) = false := decide_eq_false (by omega)
  have HRS : Hid (∀ i, i < m → w.cell? ⟨br, orr + i, none⟩ = some (.int .i64 (zs.getD i 0))) := by
    obtain ⟨b, o, hx, _, hc⟩ := hrs.at (by rw [vi_len]; omega)
    cases hx
    exact fun i hi => hc i _ (vi_at (by omega))
  have HQ : Hid (ct bs = q) := hq
  clear hq
  go_enter Try.func3, Try.ntmps3
  go_wp2_with (go_at_call 5; refine (bytes5_any _ _ _ _ _ _ _ _ (by unfold maxLen; omega) (by unfold maxLen; omega)).mono ?_; rintro e w' ⟨rfl, rfl⟩)
  refine (count_at a0 n cap0 bs q _ (by omega) hz hr HQ.out).mono ?_
  rintro e w' ⟨rfl, rfl⟩
  go_wp2_with fail
  go_loop [8] (fun i => ∃ k : Nat, k ≤ m ∧ i = .int .i64 k ∧ Hid (∀ j, j < k → 0 ≤ zs.getD j 0 ∧ zs.getD j 0 < (n : Int))) (fun i => m - (intOf i).toNat)
  case atStart => exact ⟨0, Nat.zero_le _, rfl, fun j hj => by omega⟩
  case round =>
    obtain ⟨k, hk, rfl, HALL⟩ := hrel
    by_cases hlt : k < m
    · have c := HRS.out k hlt
      have i1 : (k : Int) < (m : Int) := by omega
      by_cases t1 : zs.getD k 0 < 0
      · clear HALL
        generalize zs.getD k 0 = x at *
        go_wp2_with fail
        go_ret
        exact ⟨rfl, Below.refl _ _⟩
      by_cases t2 : (n : Int) ≤ zs.getD k 0
      · clear HALL
        generalize zs.getD k 0 = x at *
        go_wp2_with fail
        go_ret
        exact ⟨rfl, Below.refl _ _⟩
      · have HALL' : Hid (∀ j, j < k + 1 → 0 ≤ zs.getD j 0 ∧ zs.getD j 0 < (n : Int)) := fun j hj => by
          by_cases e : j = k
          · subst e; omega
          · exact HALL.out j (by omega)
        clear HALL
        generalize zs.getD k 0 = x at *
        go_wp2_with fail
        go_round
        case rel => exact ⟨k + 1, by omega, by go_num, HALL'⟩
        case measure => simp [intOf]; omega
    · obtain rfl : m = k := by omega
      obtain ⟨R, hR⟩ : ∃ R : Nat → Nat, ∀ j, j < m → zs.getD j 0 = (R j : Int) ∧ R j < n := ⟨fun j => (zs.getD j 0).toNat, fun j hj => by have := HALL.out j hj; show zs.getD j 0 = ((zs.getD j 0).toNat : Int) ∧ (zs.getD j 0).toNat < n; omega⟩
      have HR : Hid (∀ j, j < m → zs.getD j 0 = (R j : Int) ∧ R j < n) := hR
      have hp : 0 < n := by have := (hR 0 hm).2; omega
      have HRl : Hid (∀ j, j < m → R j < bs.length) := fun j hj => by have := (hR j hj).2; omega
      clear hR HALL
      go_wp2_with fail
      refine (cloneB_pos a0 n cap0 bs _ (by omega) hp hz hr).mono ?_
      rintro e w1 ⟨rfl, ho1, hb1⟩
      go_wp2_with fail
      refine (cloneI_pos (some ⟨br, orr, none⟩) m capr zs _ (by omega) hm hzs (hrs.below hb1)).mono ?_
      rintro e w2 ⟨rfl, ho2, hb2⟩
      go_wp2_with fail
      refine (cloneB_pos (some ⟨w.heap.size, 0, none⟩) n n bs _ (by omega) hp hz ((RdV.own ho1).below hb2)).mono ?_
      rintro e w3 ⟨rfl, ho3, hb3⟩
      go_wp2_with fail
      refine (cloneB_pos (some ⟨w.heap.size, 0, none⟩) n n bs _ (by omega) hp hz (((RdV.own ho1).below hb2).below hb3)).mono ?_
      rintro e w4 ⟨rfl, ho4, hb4⟩
      go_wp2_with fail
      refine (new_any (some ⟨w3.heap.size, 0, none⟩) n n q w4).mono ?_
      rintro e w5 ⟨rfl, hw5⟩
      have S5 : SetAt w5 w3.heap.size w4.heap.size w3.heap.size n bs q := by rw [hw5]; exact SetAt.made ho4
      have hb5 : Below w4.heap.size w4 w5 := by rw [hw5]; exact (Below.refl _ _).alloc (Nat.le_refl _) _
      have hs5 : w4.heap.size < w5.heap.size := S5.p_lt
      clear hw5
      obtain ⟨i0, hi, hz0, hz1, hz2⟩ := info_parts info4
      go_wp2_with (refine wpList_make_full _ rfl (.tmp 79) (.tmp 79) 22 rfl w5.heap.size 4 i0 (.bool false) 1 Try.underlying22 hi hz0 hz1 .i64 .i64 m m m rfl rfl rfl rfl ?b2 ?b3 (Nat.le_refl _) ?_)
      case b2 => rw [hz2]; omega
      case b3 => unfold maxLen; omega
      intro w6 ho6 hg6
      have hb6 : Below w5.heap.size w5 w6 := (Below.refl _ _).grown hg6 (Nat.le_refl _) (fun k h => by cases h)
      have g6 : w6.ownsRow w5.heap.size 4 1 (.slice (some ⟨w5.heap.size, 0, none⟩) m m) m (gotTo bs R m 0) := by
        rw [gotTo_zero]; simpa [toList_madeCells_one] using ho6
      have S6 : SetAt w6 w3.heap.size w4.heap.size w3.heap.size n (st bs R 0) ((q : Int) + (fr bs R 0 : Int)) := by
        have := S5.below hb6 S5.p_lt S5.g_lt
        simpa [st, fr] using this
      have q34 := hb4.size
      have q45 : w4.heap.size ≤ w5.heap.size := by omega
      have hb36 : Below w3.heap.size w3 w6 := (hb4.trans (hb5.mono hb4.size)).trans (hb6.mono (by omega))
      have r3 : RdV w3 (some ⟨w1.heap.size, 0, none⟩) (vi zs) := (RdV.own ho2).below hb3
      have e3 : RdV w3 (some ⟨w2.heap.size, 0, none⟩) (vb bs) := RdV.own ho3
      have HRS3 : Hid (∀ i, i < m → w3.cell? ⟨w1.heap.size, i, none⟩ = some (.int .i64 (R i))) := by
        obtain ⟨b, o, hx, _, hc⟩ := r3.at (by rw [vi_len]; omega)
        cases hx
        exact fun i hi => by have := hc i _ (vi_at (by omega)); rw [Nat.zero_add, (HR.out i hi).1] at this; exact this
      have HIN3 : Hid (∀ j, j < n → w3.cell? ⟨w2.heap.size, j, none⟩ = some (.bool (bs.getD j false))) := by
        obtain ⟨b, o, hx, _, hc⟩ := e3.at (by rw [vb_len]; omega)
        cases hx
        exact fun i hi => by have := hc i _ (vb_at (by omega)); rwa [Nat.zero_add] at this
      have HBW : Hid (Below w.heap.size w w3) := (hb1.trans (hb2.mono hb1.size)).trans (hb3.mono (Nat.le_trans hb1.size hb2.size))
      have z13 : w1.heap.size < w3.heap.size := block_lt_of_cell (HRS3.out 0 hm)
      have z23 : w2.heap.size < w3.heap.size := block_lt_of_cell (HIN3.out 0 hp)
      clear ho6 hg6 hb4 hb5 hb6 S5 ho4 r3 e3 ho1 ho2 ho3 hb1 hb2 hb3 hr hrs HRS
      go_wp2_with fail
      go_loopw [12] (fun i wr => ∃ j : Nat, j ≤ m ∧ i = .int .i64 j ∧ SetAt wr w3.heap.size w4.heap.size w3.heap.size n (st bs R j) ((q : Int) + (fr bs R j : Int)) ∧ wr.ownsRow w5.heap.size 4 1 (.slice (some ⟨w5.heap.size, 0, none⟩) m m) m (gotTo bs R m j) ∧ Below w3.heap.size w3 wr) (fun i _ => m - (intOf i).toNat)
      case atStart => exact ⟨0, Nat.zero_le _, rfl, S6, g6, hb36⟩
      case round =>
        obtain ⟨j, hj, rfl, S, G, hbel⟩ := hrel
        clear S6 g6 hb36
        by_cases hjt : j < m
        · have crs : wr.cell? ⟨w1.heap.size, j, none⟩ = some (.int .i64 (R j)) := (hbel.cell (p := ⟨w1.heap.size, j, none⟩) z13).trans (HRS3.out j hjt)
          have i1 : (j : Int) < (m : Int) := by omega
          have hRj := (HR.out j hjt).2
          have hfl := fr_le bs R j
          obtain ⟨v, hv⟩ : ∃ v, (st bs R j).getD (R j) false = v := ⟨_, rfl⟩
          have HV : Hid ((st bs R j).getD (R j) false = v) := hv
          clear hv
          go_wp2_with fail
          refine (add_at w3.heap.size w4.heap.size w3.heap.size n (R j) (st bs R j) _ v wr S hRj HV.out (by omega) (by omega)).mono ?_
          rintro e w7 ⟨rfl, S7, K7⟩
          have T := script_step hjt G hbel (by omega) (Nat.le_refl _) (by omega) (by omega) (by omega) HV.out S7 K7
          obtain ⟨T1, T2, T3, T4, T5⟩ := T
          clear S G S7 K7 hbel crs
          go_wp2_with fail
          go_roundw
          case rel => exact ⟨j + 1, by omega, by go_num, T1, T2, T3⟩
          case measure => simp [intOf]; omega
        · obtain rfl : m = j := by omega
          have M : Mem wr w3.heap.size w1.heap.size w2.heap.size w5.heap.size w4.heap.size w3.heap.size n m bs R q :=
            ⟨fun j hj => (hbel.cell (p := ⟨w2.heap.size, j, none⟩) z23).trans (HIN3.out j hj), fun j hj => (hbel.cell (p := ⟨w1.heap.size, j, none⟩) z13).trans (HRS3.out j hj), fun j hj => by rw [G.cellAt j (by omega), gotTo_all bs R m j hj], S⟩
          have HBX : Hid (Below w.heap.size w wr) := HBW.out.trans (hbel.mono HBW.out.size)
          clear S G hbel HRS3 HIN3
          rename World => wA
          go_wp2_with fail
          go_loopw [13, 14] (fun c i wx => ∃ j : Nat, j ≤ m ∧ i = .int .i64 j ∧ c = .int .i64 (fr bs R j) ∧ Below wA.heap.size wA wx) (fun _ i _ => m - (intOf i).toNat)
          case atStart => exact ⟨0, Nat.zero_le _, rfl, rfl, Below.refl _ _⟩
          case round =>
            obtain ⟨j, hj, rfl, rfl, hbel⟩ := hrel
            rename World => wB
            by_cases hjt : j < m
            · have MB := M.below hbel
              have hRj := (HR.out j hjt).2
              have crs := MB.rs j hjt
              have cin := MB.in0 (R j) hRj
              have i1 : (j : Int) < (m : Int) := by omega
              have i2 : (R j : Int) < (n : Int) := by omega
              obtain ⟨v0, hv0⟩ : ∃ v0, bs.getD (R j) false = v0 := ⟨_, rfl⟩
              rw [hv0] at cin
              have HV0 : Hid (bs.getD (R j) false = v0) := hv0
              clear hv0
              have hfl := fr_le bs R j
              go_wp2_with fail
              go_loopw [15, 16] (fun f t wy => ∃ l : Nat, l ≤ j ∧ t = .int .i64 l ∧ f = .bool (!(st bs R l).getD (R j) false) ∧ Below wA.heap.size wA wy) (fun _ t _ => j - (intOf t).toNat)
              case atStart => exact ⟨0, Nat.zero_le _, rfl, by rw [← HV0.out]; rfl, hbel⟩
              case round =>
                obtain ⟨l, hl, rfl, rfl, hbel2⟩ := hrel
                rename World => wC
                clear crs cin MB hbel
                have MC := M.below hbel2
                have crj := MC.rs j hjt
                by_cases hlt2 : l < j
                · have crl := MC.rs l (by omega)
                  have i3 : (l : Int) < (m : Int) := by omega
                  have HSS : Hid ((st bs R (l + 1)).getD (R j) false = ((st bs R l).getD (R j) false || decide (R j = R l))) := st_succ bs R l (R j) (HRl.out l (by omega))
                  generalize (st bs R l).getD (R j) false = u at *
                  by_cases hE : R l = R j
                  · have hE' : ((R l : Int) == (R j : Int)) = true := by simp; omega
                    have HT : Hid ((st bs R (l + 1)).getD (R j) false = true) := by show _ = _; rw [HSS.out, hE]; simp
                    clear hE HSS MC
                    go_wp2_with fail
                    go_quiet (fail)
                    go_wp2_with fail
                    go_roundw
                    case rel => exact ⟨l + 1, by omega, by go_num, by rw [HT.out]; rfl, below_drewN hbel2 _⟩
                    case measure => simp [intOf]; omega
                  · have hE' : ((R l : Int) == (R j : Int)) = false := by simp; omega
                    have HT : Hid ((st bs R (l + 1)).getD (R j) false = u) := by show _ = _; rw [HSS.out, decide_eq_false (fun e => hE e.symm)]; simp
                    clear hE HSS MC
                    go_wp2_with fail
                    go_quiet (fail)
                    go_wp2_with fail
                    go_roundw
                    case rel => exact ⟨l + 1, by omega, by go_num, by rw [HT.out], below_drewN hbel2 _⟩
                    case measure => simp [intOf]; omega
                · obtain rfl : j = l := by omega
                  have hea : (!(st bs R j).getD (R j) false) = ans bs R j := rfl
                  have cgot := MC.got j hjt
                  rw [hea]
                  have HFR : Hid (fr bs R (j + 1) = fr bs R j + if ans bs R j = true then 1 else 0) := rfl
                  clear hea MC crj
                  cases hu : ans bs R j
                  · rw [hu] at cgot HFR
                    have HF2 : Hid (fr bs R (j + 1) = fr bs R j) := HFR.out
                    clear hu HFR
                    go_wp2_with fail
                    go_roundw
                    case rel => exact ⟨j + 1, by omega, by go_num, by rw [HF2.out], hbel2⟩
                    case measure => simp [intOf]; omega
                  · rw [hu] at cgot HFR
                    have HF2 : Hid (fr bs R (j + 1) = fr bs R j + 1) := HFR.out
                    clear hu HFR
                    go_wp2_with fail
                    go_roundw
                    case rel => exact ⟨j + 1, by omega, by go_num, by rw [HF2.out]; go_num, hbel2⟩
                    case measure => simp [intOf]; omega
            · obtain rfl : m = j := by omega
              have MB := M.below hbel
              have HBY : Hid (Below w.heap.size w wB) := HBX.out.trans (hbel.mono HBX.out.size)
              have p1 := MB.set.cell0
              have p2 := MB.set.cell1
              have hfl := fr_le bs R m
              have HCT : Hid ((ct (st bs R m) : Int) = (q : Int) + (fr bs R m : Int)) := by show _ = _; rw [ct_st bs R m HRl.out, HQ.out]; omega
              clear M hbel HBX
              go_wp2_with fail
              refine (in_any _ _ _ p1).mono ?_
              rintro e w' ⟨rfl, rfl⟩
              go_wp2_with fail
              go_loop [18] (fun i => ∃ j : Nat, j ≤ n ∧ i = .int .i64 j) (fun i => n - (intOf i).toNat)
              case atStart => exact ⟨0, Nat.zero_le _, rfl⟩
              case round =>
                obtain ⟨j, hj, rfl⟩ := hrel
                by_cases hjn : j < n
                · have c0 := MB.in0 j hjn
                  have c1 := MB.set.at hjn
                  have i1 : (j : Int) < (n : Int) := by omega
                  cases hx : bs.getD j false
                  · rw [hx] at c0
                    clear hx c1 MB p1 p2
                    go_wp2_with fail
                    go_round
                    case rel => exact ⟨j + 1, by omega, by go_num⟩
                    case measure => simp [intOf]; omega
                  · rw [hx] at c0
                    rw [st_mono bs R j m HRl.out hx] at c1
                    clear hx MB p1 p2
                    go_wp2_with fail
                    go_round
                    case rel => exact ⟨j + 1, by omega, by go_num⟩
                    case measure => simp [intOf]; omega
                · clear p1
                  go_wp2_with fail
                  go_loop [19] (fun i => ∃ j : Nat, j ≤ m ∧ i = .int .i64 j) (fun i => m - (intOf i).toNat)
                  case atStart => exact ⟨0, Nat.zero_le _, rfl⟩
                  case round =>
                    obtain ⟨l, hl, rfl⟩ := hrel
                    by_cases hlm : l < m
                    · have hRl := (HR.out l hlm).2
                      have c0 := MB.rs l hlm
                      have c1 := MB.set.at hRl
                      rw [st_has bs R l m HRl.out hlm] at c1
                      have i1 : (l : Int) < (m : Int) := by omega
                      have i2 : (R l : Int) < (n : Int) := by omega
                      clear MB p2
                      go_wp2_with fail
                      go_round
                      case rel => exact ⟨l + 1, by omega, by go_num⟩
                      case measure => simp [intOf]; omega
                    · go_wp2_with fail
                      refine (count_atI _ n n (st bs R m) _ _ (by omega) (by rw [st_len]; exact hz) MB.set.rd HCT.out).mono ?_
                      rintro e w' ⟨rfl, rfl⟩
                      go_wp2_with fail
                      refine (count12_any _ _ _ p2).mono ?_
                      rintro e w' ⟨rfl, rfl⟩
                      go_wp2_with fail
                      go_ret
                      exact ⟨rfl, HBY.out⟩

end Go.Proofs.Qxb6630441a.Set
