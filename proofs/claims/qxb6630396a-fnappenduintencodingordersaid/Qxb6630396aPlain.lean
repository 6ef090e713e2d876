/-
  The plain law: what the encoding is, its bytes read back, its order. No Go in sight.
-/
import Derived.Lib.BitFns
namespace Go.Proofs.Qxb6630396a.Rlp

/-- n bytes of v, the greatest first. -/
def be : Nat → Int → List Int
  | 0, _ => []
  | n + 1, v => (v / 2 ^ (8 * n) % 256) :: be n v
/-- How many bytes v takes. -/
def nb (v : Int) : Nat := (Lib.bitLen v.toNat + 7) / 8
/-- The encoding. -/
def enc (v : Int) : List Int := if v = 0 then [128] else if v < 128 then [v] else (128 + (nb v : Int)) :: be (nb v) v

theorem bitLen_pos (x : Nat) (h0 : x ≠ 0) (h : x < 18446744073709551616) : 1 ≤ Lib.bitLen x := by
  rw [Lib.bitLen_half x h0 h]; omega

theorem nb_cases (v : Int) (h1 : 128 ≤ v) (h2 : v ≤ 18446744073709551615) :
    (v < 256 ∧ nb v = 1) ∨ (256 ≤ v ∧ v < 65536 ∧ nb v = 2) ∨ (65536 ≤ v ∧ v < 16777216 ∧ nb v = 3) ∨ (16777216 ≤ v ∧ v < 4294967296 ∧ nb v = 4) ∨
    (4294967296 ≤ v ∧ v < 1099511627776 ∧ nb v = 5) ∨ (1099511627776 ≤ v ∧ v < 281474976710656 ∧ nb v = 6) ∨ (281474976710656 ≤ v ∧ v < 72057594037927936 ∧ nb v = 7) ∨ (72057594037927936 ≤ v ∧ nb v = 8) := by
  have key : ∀ x : Nat, 128 ≤ x → x < 18446744073709551616 → (x < 256 ∧ (Lib.bitLen x + 7) / 8 = 1) ∨ (256 ≤ x ∧ x < 65536 ∧ (Lib.bitLen x + 7) / 8 = 2) ∨ (65536 ≤ x ∧ x < 16777216 ∧ (Lib.bitLen x + 7) / 8 = 3) ∨ (16777216 ≤ x ∧ x < 4294967296 ∧ (Lib.bitLen x + 7) / 8 = 4) ∨
    (4294967296 ≤ x ∧ x < 1099511627776 ∧ (Lib.bitLen x + 7) / 8 = 5) ∨ (1099511627776 ≤ x ∧ x < 281474976710656 ∧ (Lib.bitLen x + 7) / 8 = 6) ∨ (281474976710656 ≤ x ∧ x < 72057594037927936 ∧ (Lib.bitLen x + 7) / 8 = 7) ∨ (72057594037927936 ≤ x ∧ (Lib.bitLen x + 7) / 8 = 8) := by
    intro x hx1 hx2
    by_cases c1 : x < 256
    · have := Lib.bitLen_le x 8 (by omega) (by omega)
      have := bitLen_pos x (by omega) hx2
      exact .inl ⟨c1, by omega⟩
    by_cases c2 : x < 65536
    · have := Lib.bitLen_le x 16 (by omega) (by omega)
      have := Lib.bitLen_shift8 x (by omega) hx2
      have := bitLen_pos (x / 256) (by omega) (by omega)
      exact .inr (.inl ⟨by omega, c2, by omega⟩)
    by_cases c3 : x < 16777216
    · have := Lib.bitLen_le x 24 (by omega) (by omega)
      have := Lib.bitLen_shift16 x (by omega) hx2
      have := bitLen_pos (x / 65536) (by omega) (by omega)
      exact .inr (.inr (.inl ⟨by omega, c3, by omega⟩))
    by_cases c4 : x < 4294967296
    · have := Lib.bitLen_le x 32 (by omega) (by omega)
      have := Lib.bitLen_shift24 x (by omega) hx2
      have := bitLen_pos (x / 16777216) (by omega) (by omega)
      exact .inr (.inr (.inr (.inl ⟨by omega, c4, by omega⟩)))
    by_cases c5 : x < 1099511627776
    · have := Lib.bitLen_le x 40 (by omega) (by omega)
      have := Lib.bitLen_shift32 x (by omega) hx2
      have := bitLen_pos (x / 4294967296) (by omega) (by omega)
      exact .inr (.inr (.inr (.inr (.inl ⟨by omega, c5, by omega⟩))))
    by_cases c6 : x < 281474976710656
    · have := Lib.bitLen_le x 48 (by omega) (by omega)
      have := Lib.bitLen_shift40 x (by omega) hx2
      have := bitLen_pos (x / 1099511627776) (by omega) (by omega)
      exact .inr (.inr (.inr (.inr (.inr (.inl ⟨by omega, c6, by omega⟩)))))
    by_cases c7 : x < 72057594037927936
    · have := Lib.bitLen_le x 56 (by omega) (by omega)
      have := Lib.bitLen_shift48 x (by omega) hx2
      have := bitLen_pos (x / 281474976710656) (by omega) (by omega)
      exact .inr (.inr (.inr (.inr (.inr (.inr (.inl ⟨by omega, c7, by omega⟩))))))
    · have := Lib.bitLen_le x 64 (by omega) (by omega)
      have := Lib.bitLen_shift56 x (by omega) hx2
      have := bitLen_pos (x / 72057594037927936) (by omega) (by omega)
      exact .inr (.inr (.inr (.inr (.inr (.inr (.inr ⟨by omega, by omega⟩))))))
  obtain ⟨x, rfl⟩ : ∃ x : Nat, v = (x : Int) := ⟨v.toNat, by omega⟩
  unfold nb
  rw [Int.toNat_natCast]
  rcases key x (by omega) (by omega) with k | k | k | k | k | k | k | k
  · exact .inl ⟨by omega, k.2⟩
  · exact .inr (.inl ⟨by omega, by omega, k.2.2⟩)
  · exact .inr (.inr (.inl ⟨by omega, by omega, k.2.2⟩))
  · exact .inr (.inr (.inr (.inl ⟨by omega, by omega, k.2.2⟩)))
  · exact .inr (.inr (.inr (.inr (.inl ⟨by omega, by omega, k.2.2⟩))))
  · exact .inr (.inr (.inr (.inr (.inr (.inl ⟨by omega, by omega, k.2.2⟩)))))
  · exact .inr (.inr (.inr (.inr (.inr (.inr (.inl ⟨by omega, by omega, k.2.2⟩))))))
  · exact .inr (.inr (.inr (.inr (.inr (.inr (.inr ⟨by omega, k.2⟩))))))

theorem nb_spec (v : Int) (h1 : 128 ≤ v) (h2 : v ≤ 18446744073709551615) : 1 ≤ nb v ∧ nb v ≤ 8 ∧ (2 : Int) ^ (8 * (nb v - 1)) ≤ v ∧ v < (2 : Int) ^ (8 * nb v) := by
  rcases nb_cases v h1 h2 with ⟨a, e⟩ | ⟨a, b, e⟩ | ⟨a, b, e⟩ | ⟨a, b, e⟩ | ⟨a, b, e⟩ | ⟨a, b, e⟩ | ⟨a, b, e⟩ | ⟨a, e⟩ <;> rw [e] <;> refine ⟨by omega, by omega, ?_, ?_⟩ <;> simp <;> omega

theorem be_length : ∀ (n : Nat) (v : Int), (be n v).length = n
  | 0, _ => rfl
  | n + 1, v => by simp [be, be_length n v]

theorem be_get : ∀ (n : Nat) (v : Int) (j : Nat), j < n → (be n v).getD j 0 = v / 2 ^ (8 * (n - 1 - j)) % 256
  | 0, _, _, h => by omega
  | n + 1, v, 0, _ => by simp [be]
  | n + 1, v, j + 1, h => by
    have := be_get n v j (by omega)
    rw [be, List.getD_cons_succ, this]
    congr 4
    omega

theorem pow8_succ (r : Nat) : (2 : Int) ^ (8 * (r + 1)) = 2 ^ (8 * r) * 256 := by
  rw [Nat.mul_add, Int.pow_add]; rfl

theorem div_step (v : Int) (r : Nat) : v / 2 ^ (8 * (r + 1)) = v / 2 ^ (8 * r) / 256 := by
  rw [pow8_succ]
  rw [Int.ediv_ediv_of_nonneg]
  exact Int.pow_nonneg (by omega)

theorem join_step (v : Int) (r : Nat) : v / 2 ^ (8 * (r + 1)) * 256 + v / 2 ^ (8 * r) % 256 = v / 2 ^ (8 * r) := by
  rw [div_step]; omega

theorem pow8_pos (r : Nat) : (0 : Int) < 2 ^ (8 * r) := Int.pow_pos (by omega)

/-- The first byte is not zero. -/
theorem top_byte (v : Int) (m : Nat) (hm : 1 ≤ m) (h1 : (2 : Int) ^ (8 * (m - 1)) ≤ v) (h2 : v < (2 : Int) ^ (8 * m)) : 1 ≤ v / 2 ^ (8 * (m - 1)) ∧ v / 2 ^ (8 * (m - 1)) < 256 := by
  obtain ⟨r, rfl⟩ : ∃ r, m = r + 1 := ⟨m - 1, by omega⟩
  rw [Nat.add_sub_cancel] at h1 ⊢
  rw [pow8_succ] at h2
  have hp := pow8_pos r
  refine ⟨?_, ?_⟩
  · exact (Int.le_ediv_iff_mul_le hp).2 (by omega)
  · exact Int.ediv_lt_of_lt_mul hp (by rw [Int.mul_comm]; exact h2)

theorem enc_length_pos (v : Int) : 0 < (enc v).length := by
  unfold enc; split
  · simp
  · split <;> simp

/-- The lexicographic order of two lists. -/
def cmp : List Int → List Int → Int
  | [], [] => 0
  | [], _ :: _ => -1
  | _ :: _, [] => 1
  | x :: xs, y :: ys => if x < y then -1 else if y < x then 1 else cmp xs ys
def sgn (x y : Int) : Int := if x < y then -1 else if y < x then 1 else 0
/-- Where the encodings of a and b stand to each other. -/
def order (a b : Int) : Int :=
  if a = b then 0 else if a = 0 then (if b < 128 then 1 else -1) else if b = 0 then (if a < 128 then -1 else 1) else if a < b then -1 else 1

theorem cmp_app : ∀ (zs xs ys : List Int), cmp (zs ++ xs) (zs ++ ys) = cmp xs ys
  | [], _, _ => rfl
  | z :: zs, xs, ys => by
    simp only [List.cons_append, cmp, Int.lt_irrefl, if_false]
    exact cmp_app zs xs ys

theorem mod_step (a : Int) (n : Nat) : a % 2 ^ (8 * (n + 1)) = a / 2 ^ (8 * n) % 256 * 2 ^ (8 * n) + a % 2 ^ (8 * n) := by
  rw [pow8_succ]
  have h1 := Int.emod_add_mul_ediv a (2 ^ (8 * n))
  have h2 := Int.emod_add_mul_ediv a (2 ^ (8 * n) * 256)
  have h3 := Int.emod_add_mul_ediv (a / 2 ^ (8 * n)) 256
  have h4 : a / (2 ^ (8 * n) * 256) = a / 2 ^ (8 * n) / 256 := by
    rw [Int.ediv_ediv_of_nonneg]
    exact Int.pow_nonneg (by omega)
  rw [h4] at h2
  generalize a / 2 ^ (8 * n) = q at *
  generalize a % 2 ^ (8 * n) = r at *
  generalize a % (2 ^ (8 * n) * 256) = s at *
  generalize (2 : Int) ^ (8 * n) = p at *
  generalize q / 256 = t at *
  generalize q % 256 = u at *
  subst h3
  have e1 : p * (u + 256 * t) = u * p + p * 256 * t := by rw [Int.mul_add, Int.mul_comm p u, Int.mul_assoc]
  omega

theorem cmp_be : ∀ (n : Nat) (a b : Int), cmp (be n a) (be n b) = sgn (a % 2 ^ (8 * n)) (b % 2 ^ (8 * n))
  | 0, a, b => by simp [be, cmp, sgn]
  | n + 1, a, b => by
    have ih := cmp_be n a b
    rw [be, be, cmp, ih, mod_step a n, mod_step b n]
    have hp := pow8_pos n
    have a0 := Int.emod_nonneg a (Int.ne_of_gt hp)
    have a1 := Int.emod_lt_of_pos a hp
    have b0 := Int.emod_nonneg b (Int.ne_of_gt hp)
    have b1 := Int.emod_lt_of_pos b hp
    generalize a / 2 ^ (8 * n) % 256 = x at *
    generalize b / 2 ^ (8 * n) % 256 = y at *
    generalize a % 2 ^ (8 * n) = r at *
    generalize b % 2 ^ (8 * n) = s at *
    generalize (2 : Int) ^ (8 * n) = p at *
    by_cases h : x < y
    · have : x * p + p ≤ y * p := by
        have := Int.mul_le_mul_of_nonneg_right (show x + 1 ≤ y by omega) (show 0 ≤ p by omega)
        rw [Int.add_mul, Int.one_mul] at this; exact this
      rw [if_pos h, sgn, if_pos (by omega)]
    · by_cases h' : y < x
      · have : y * p + p ≤ x * p := by
          have := Int.mul_le_mul_of_nonneg_right (show y + 1 ≤ x by omega) (show 0 ≤ p by omega)
          rw [Int.add_mul, Int.one_mul] at this; exact this
        rw [if_neg h, if_pos h', sgn, if_neg (by omega), if_pos (by omega)]
      · obtain rfl : x = y := by omega
        rw [if_neg h, if_neg h']
        have e1 : (x * p + r < x * p + s) = (r < s) := propext ⟨fun _ => by omega, fun _ => by omega⟩
        have e2 : (x * p + s < x * p + r) = (s < r) := propext ⟨fun _ => by omega, fun _ => by omega⟩
        simp only [sgn, e1, e2]

theorem pow_mono {n k : Nat} (h : n ≤ k) : (2 : Int) ^ (8 * n) ≤ 2 ^ (8 * k) := by
  obtain ⟨d, rfl⟩ : ∃ d, k = n + d := ⟨k - n, by omega⟩
  rw [Nat.mul_add, Int.pow_add]
  have h1 := pow8_pos n
  have h2 := pow8_pos d
  have := Int.mul_le_mul_of_nonneg_left (show (1 : Int) ≤ 2 ^ (8 * d) by omega) (show (0 : Int) ≤ 2 ^ (8 * n) by omega)
  rw [Int.mul_one] at this; exact this

theorem nb_lt (a b : Int) (a1 : 128 ≤ a) (a2 : a ≤ 18446744073709551615) (b1 : 128 ≤ b) (b2 : b ≤ 18446744073709551615) (h : nb a < nb b) : a < b := by
  have sa := nb_spec a a1 a2
  have sb := nb_spec b b1 b2
  have := pow_mono (show nb a ≤ nb b - 1 by omega)
  omega

theorem cmp_cons (x y : Int) (xs ys : List Int) : cmp (x :: xs) (y :: ys) = if x < y then -1 else if y < x then 1 else cmp xs ys := rfl
theorem enc_zero : enc 0 = [128] := rfl
theorem enc_small (v : Int) (h0 : v ≠ 0) (h : v < 128) : enc v = [v] := by unfold enc; rw [if_neg h0, if_pos h]
theorem enc_great (v : Int) (h : 128 ≤ v) : enc v = (128 + (nb v : Int)) :: be (nb v) v := by unfold enc; rw [if_neg (by omega), if_neg (by omega)]

theorem cmp_enc (a b : Int) (a0 : 0 ≤ a) (a2 : a ≤ 18446744073709551615) (b0 : 0 ≤ b) (b2 : b ≤ 18446744073709551615) : cmp (enc a) (enc b) = order a b := by
  by_cases za : a = 0
  · subst za
    by_cases zb : b = 0
    · subst zb; rfl
    by_cases sb : b < 128
    · rw [enc_zero, enc_small b zb sb, cmp_cons, if_neg (by omega), if_pos (by omega), order, if_neg (by omega), if_pos rfl, if_pos sb]
    · have := nb_spec b (by omega) b2
      rw [enc_zero, enc_great b (by omega), cmp_cons, if_pos (by omega), order, if_neg (by omega), if_pos rfl, if_neg sb]
  by_cases sa : a < 128
  · by_cases zb : b = 0
    · subst zb
      rw [enc_zero, enc_small a za sa, cmp_cons, if_pos (by omega), order, if_neg za, if_neg za, if_pos rfl, if_pos sa]
    by_cases sb : b < 128
    · rw [enc_small a za sa, enc_small b zb sb, cmp_cons, order, if_neg za, if_neg zb]
      by_cases c : a < b
      · rw [if_pos c, if_neg (by omega), if_pos c]
      · by_cases c' : b < a
        · rw [if_neg c, if_pos c', if_neg (by omega), if_neg c]
        · rw [if_neg c, if_neg c', if_pos (by omega)]; rfl
    · have := nb_spec b (by omega) b2
      rw [enc_small a za sa, enc_great b (by omega), cmp_cons, if_pos (by omega), order, if_neg (by omega), if_neg za, if_neg zb, if_pos (by omega)]
  have na := nb_spec a (by omega) a2
  by_cases zb : b = 0
  · subst zb
    rw [enc_zero, enc_great a (by omega), cmp_cons, if_neg (by omega), if_pos (by omega), order, if_neg za, if_neg za, if_pos rfl, if_neg sa]
  by_cases sb : b < 128
  · rw [enc_great a (by omega), enc_small b zb sb, cmp_cons, if_neg (by omega), if_pos (by omega), order, if_neg (by omega), if_neg za, if_neg zb, if_neg (by omega)]
  have nbb := nb_spec b (by omega) b2
  rw [enc_great a (by omega), enc_great b (by omega), cmp_cons, order, if_neg za, if_neg zb]
  by_cases c : nb a < nb b
  · have := nb_lt a b (by omega) a2 (by omega) b2 c
    rw [if_pos (by omega), if_neg (by omega), if_pos this]
  · by_cases c' : nb b < nb a
    · have := nb_lt b a (by omega) b2 (by omega) a2 c'
      rw [if_neg (by omega), if_pos (by omega), if_neg (by omega), if_neg (by omega)]
    · have e : nb a = nb b := by omega
      rw [if_neg (by omega), if_neg (by omega), e, cmp_be, Int.emod_eq_of_lt a0 (by rw [← e]; omega), Int.emod_eq_of_lt b0 (by omega), sgn]
      by_cases d : a < b
      · rw [if_pos d, if_neg (by omega), if_pos d]
      · by_cases d' : b < a
        · rw [if_neg d, if_pos d', if_neg (by omega), if_neg d]
        · rw [if_neg d, if_neg d', if_pos (by omega)]

end Go.Proofs.Qxb6630396a.Rlp
