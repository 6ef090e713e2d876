/-
  decodesCanonically at an encoding: true.
-/
import Derived.Test.Qxb6630396aApp
import Derived.Laws.Bits64b
namespace Go.Proofs.Qxb6630396a.Rlp
open Go.RowKit
set_option linter.unusedVariables false

theorem or_byte (x y : Int) (x0 : 0 ≤ x) (x1 : x ≤ 72057594037927935) (y0 : 0 ≤ y) (y1 : y ≤ 255) : bits BinOp.or IntKind.u64 (x * 256) y = x * 256 + y := by
  obtain ⟨a, rfl⟩ := Int.eq_ofNat_of_zero_le x0
  obtain ⟨b, rfl⟩ := Int.eq_ofNat_of_zero_le y0
  have e : ((a : Int) * 256) = ((a * 256 : Nat) : Int) := by omega
  have e2 : a * 256 ||| b = a * 256 + b := by
    rw [show a * 256 = a <<< 8 from by rw [Nat.shiftLeft_eq], Nat.shiftLeft_add_eq_or_of_lt (show b < 2 ^ 8 by omega)]
  rw [e, bits_or_u64_nat (a * 256) b (by omega) (by omega), e2]
  omega

theorem num_eq {k : IntKind} {a b : Int} (h : a = b) : Value.int k a = .int k b := by rw [h]

set_option maxHeartbeats 1000000 in
theorem dec_zero (b o c : Nat) (w : World) (h0 : w.cell? ⟨b, o, none⟩ = some (.int .u8 128)) :
    Calls Try.prog 8 #[.slice (some ⟨b, o, none⟩) 1 c, .int .u64 0] w fun e w' => e = .returned (.bool true) ∧ w = w' := by
  go_enter Try.func8, Try.ntmps8
  go_wp2
  go_ret
  exact ⟨rfl, rfl⟩

set_option maxHeartbeats 1000000 in
theorem dec_small (b o c : Nat) (v : Int) (w : World) (h0 : w.cell? ⟨b, o, none⟩ = some (.int .u8 v)) (h1 : 0 < v) (h2 : v < 128) :
    Calls Try.prog 8 #[.slice (some ⟨b, o, none⟩) 1 c, .int .u64 v] w fun e w' => e = .returned (.bool true) ∧ w = w' := by
  have hv0 : (v != 0) = true := by simp; omega
  go_enter Try.func8, Try.ntmps8
  go_wp2
  go_ret
  exact ⟨rfl, rfl⟩

set_option maxRecDepth 100000 in
set_option maxHeartbeats 1000000 in
theorem dec_great (b o c m : Nat) (v : Int) (w : World) (hm1 : 1 ≤ m) (hm2 : m ≤ 8) (h0 : w.cell? ⟨b, o, none⟩ = some (.int .u8 (128 + (m : Int)))) (hc : ∀ j, j < m → w.cell? ⟨b, o + (1 + j), none⟩ = some (.int .u8 (v / 2 ^ (8 * (m - 1 - j)) % 256)))
    (h1 : 128 ≤ v) (h2 : v ≤ 18446744073709551615) (ht : 1 ≤ v / 2 ^ (8 * (m - 1)) ∧ v / 2 ^ (8 * (m - 1)) < 256) (hv0 : v / 2 ^ (8 * m) = 0) :
    Calls Try.prog 8 #[.slice (some ⟨b, o, none⟩) (1 + m) c, .int .u64 v] w fun e w' => e = .returned (.bool true) ∧ w = w' := by
  have hl : ((1 : Int) + (m : Int) == 0) = false := by simp; omega
  have hd1 : decide ((128 : Int) + (m : Int) < 128) = false := by simp; omega
  have hd2 : (128 : Int) + (m : Int) - 128 = (m : Int) := by omega
  have hd3 : decide ((8 : Int) < (m : Int)) = false := by simp; omega
  have hh : ((128 + (m : Int)) == 128) = false := by simp; omega
  have hx : w.cell? ⟨b, o + 1, none⟩ = some (.int .u8 (v / 2 ^ (8 * (m - 1)))) := by
    have := hc 0 (by omega)
    rw [Nat.sub_zero, Int.emod_eq_of_lt (by omega) ht.2] at this
    exact this
  obtain ⟨x, hxe⟩ : ∃ x, v / 2 ^ (8 * (m - 1)) = x := ⟨_, rfl⟩
  rw [hxe] at hx ht
  obtain ⟨ht1, ht2⟩ := ht
  have hx0 : (x == 0) = false := by simp; omega
  clear hxe
  have HC : Hid (∀ j, j < m → w.cell? ⟨b, o + (1 + j), none⟩ = some (.int .u8 (v / 2 ^ (8 * (m - 1 - j)) % 256))) := hc
  clear hc
  go_enter Try.func8, Try.ntmps8
  go_wp2
  go_loop [7, 8] (fun x i => ∃ k : Nat, k ≤ m ∧ i = .int .i64 (1 + (k : Int)) ∧ x = .int .u64 (v / 2 ^ (8 * (m - k)))) (fun _ i => m + 1 - (intOf i).toNat)
  case atStart => exact ⟨0, Nat.zero_le _, rfl, by rw [Nat.sub_zero, hv0]⟩
  case round =>
    obtain ⟨k, hk, rfl, rfl⟩ := hrel
    by_cases hlt : k < m
    · obtain ⟨r, hr⟩ : ∃ r, m - k = r + 1 := ⟨m - k - 1, by omega⟩
      have hcell : w.cell? ⟨b, o + (1 + k), none⟩ = some (.int .u8 (v / 2 ^ (8 * r) % 256)) := by
        rw [HC.out k hlt, show m - 1 - k = r from by omega]
      have HJ : Hid (v / 2 ^ (8 * (r + 1)) * 256 + v / 2 ^ (8 * r) % 256 = v / 2 ^ (8 * r)) := join_step v r
      rw [hr]
      have hj1 : 0 ≤ v / 2 ^ (8 * (r + 1)) := Int.ediv_nonneg (by omega) (Int.le_of_lt (pow8_pos _))
      have hj2 : 0 ≤ v / 2 ^ (8 * r) % 256 := by omega
      have hj3 : v / 2 ^ (8 * r) % 256 ≤ 255 := by omega
      have hj4 : v / 2 ^ (8 * (r + 1)) ≤ 72057594037927935 := by
        rw [div_step]
        have : v / 2 ^ (8 * r) ≤ v := Int.ediv_le_self _ (by omega)
        omega
      generalize v / 2 ^ (8 * (r + 1)) = x1 at *
      generalize v / 2 ^ (8 * r) % 256 = y1 at *
      have HO : Hid (bits BinOp.or IntKind.u64 (x1 * 256) y1 = x1 * 256 + y1) := or_byte x1 y1 hj1 hj4 hj2 hj3
      go_wp2
      go_round
      case rel => exact ⟨k + 1, by omega, by go_num, num_eq (by rw [HO.out, HJ.out, show m - (k + 1) = r from by omega])⟩
      case measure => simp [intOf]; omega
    · obtain rfl : k = m := by omega
      have hz : v / 2 ^ (8 * (k - k)) = v := by rw [Nat.sub_self]; simp
      rw [hz]
      go_wp2
      go_ret
      exact ⟨rfl, rfl⟩

theorem dec_any (b o c k : Nat) (v : Int) (w : World) (hk : (enc v).length = k) (h : RdS w (some ⟨b, o, none⟩) (enc v)) (h1 : 0 ≤ v) (h2 : v ≤ 18446744073709551615) :
    Calls Try.prog 8 #[.slice (some ⟨b, o, none⟩) k c, .int .u64 v] w fun e w' => e = .returned (.bool true) ∧ w = w' := by
  obtain ⟨b', o', hx, _, hc⟩ := h.at (enc_length_pos v)
  cases hx
  by_cases c0 : v = 0
  · subst c0
    rw [enc_zero] at hc hk
    obtain rfl : k = 1 := hk.symm
    exact dec_zero b o c w (hc 0 (by simp))
  by_cases c1 : v < 128
  · rw [enc_small v c0 c1] at hc hk
    obtain rfl : k = 1 := hk.symm
    exact dec_small b o c v w (hc 0 (by simp)) (by omega) c1
  · have s := nb_spec v (by omega) h2
    rw [enc_great v (by omega)] at hc hk
    obtain rfl : k = 1 + nb v := by rw [← hk, List.length_cons, be_length, Nat.add_comm]
    refine dec_great b o c (nb v) v w s.1 s.2.1 (hc 0 (by simp)) (fun j hj => ?_) (by omega) h2 (top_byte v (nb v) s.1 s.2.2.1 s.2.2.2) (Int.ediv_eq_zero_of_lt h1 s.2.2.2)
    rw [Nat.add_comm 1 j, hc (j + 1) (by simp [be_length]; omega), List.getD_cons_succ, be_get (nb v) v j hj]

end Go.Proofs.Qxb6630396a.Rlp
