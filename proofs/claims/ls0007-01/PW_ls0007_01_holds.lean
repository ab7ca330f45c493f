import PyProof.Rows.All
import Wide.All
import OpenK.AllK
import Wide.FinOn
import PySem.Challenge.RW_ls0007_01
open PySem PySem.W PyProof.Rows
set_option Elab.async false
set_option maxRecDepth 100000
set_option maxHeartbeats 8000000
set_option linter.unusedVariables false
set_option linter.unusedSectionVars false
namespace Mine
open_top hd for PySem.Challenge.rw_ls0007_01

section
/-- the number has at most k figures -/
def Sm (k : Nat) (x : Int) : Prop := x.natAbs < 10 ^ k

theorem pow10_pos (k : Nat) : 0 < 10 ^ k := Nat.pow_pos (by decide)
theorem Sm.mono {i j : Nat} {x : Int} (h : Sm i x) (hij : i ≤ j) : Sm j x :=
  Nat.lt_of_lt_of_le h (Nat.pow_le_pow_right (by decide) hij)
theorem Sm.mul {i j : Nat} {x y : Int} (hx : Sm i x) (hy : Sm j y) : Sm (i + j) (x * y) := by
  unfold Sm at *
  rw [Int.natAbs_mul, Nat.pow_add]
  exact Nat.mul_lt_mul'' hx hy
theorem Sm.add {i : Nat} {x y : Int} (hx : Sm i x) (hy : Sm i y) : Sm (i + 1) (x + y) := by
  unfold Sm at *
  rw [Nat.pow_succ]
  have := Int.natAbs_add_le x y
  omega
theorem Sm.neg {i : Nat} {x : Int} (hx : Sm i x) : Sm i (-x) := by
  unfold Sm at *
  rw [Int.natAbs_neg]; exact hx
theorem Sm.sub {i : Nat} {x y : Int} (hx : Sm i x) (hy : Sm i y) : Sm (i + 1) (x - y) := by
  rw [Int.sub_eq_add_neg]; exact hx.add hy.neg
theorem Sm.abs {i : Nat} {x : Int} (hx : Sm i x) : Sm i (if x < 0 then -x else x) := by
  split
  · exact hx.neg
  · exact hx
theorem Sm.pow {k : Nat} {e : Int} (he : e ≤ k) : Sm (k + 1) (10 ^ e.toNat) := by
  unfold Sm
  rw [Int.natAbs_pow]
  exact Nat.pow_lt_pow_right (by decide) (by omega)
theorem Sm.log2 {k n : Nat} {x : Int} (h : Sm k x) (hk : 4 * k < n) : x.natAbs.log2 < n := by
  unfold Sm at h
  by_cases h0 : x.natAbs = 0
  · rw [h0, show Nat.log2 0 = 0 from by decide]; omega
  · have : x.natAbs < 2 ^ (4 * k) := by
      refine Nat.lt_of_lt_of_le h ?_
      rw [Nat.pow_mul]
      exact Nat.pow_le_pow_left (by decide) k
    have := (Nat.log2_lt h0).mpr this
    omega
theorem Sm.mulOk {i j : Nat} {x y : Int} (hx : Sm i x) (hy : Sm j y) (hi : i ≤ 100000) (hj : j ≤ 100000) : IntMulOk x y := by
  have h1 := hx.log2 (n := 4 * i + 1) (by omega)
  have h2 := hy.log2 (n := 4 * j + 1) (by omega)
  unfold IntMulOk
  intro h
  simp only [Bool.and_eq_true, decide_eq_true_eq, Builtin.Int.intTooBig] at h
  have b1 : Builtin.Int.intBits x ≤ 4 * i + 1 := by unfold Builtin.Int.intBits; split <;> omega
  have b2 : Builtin.Int.intBits y ≤ 4 * j + 1 := by unfold Builtin.Int.intBits; split <;> omega
  have b3 := h.2
  have e : (bitsLine : Int) = 16777216 ∨ (bitsLine : Int) > 1000000 := by right; decide
  rcases e with e | e <;> omega
theorem Sm.noPylong {k : Nat} {x y : Int} (h : Sm k y) (hk : k ≤ 2000) : Builtin.divisionGoesByPylong x y = false :=
  PyProof.noPylong_of_log2 (h.log2 (by omega))
end

section
/-- w is the whole number nearest to X / D, at a half the even one -/
def Rnd (X D w : Int) : Prop := 2 * (X - w * D) ≤ D ∧ -D ≤ 2 * (X - w * D) ∧ ((2 * (X - w * D) = D ∨ 2 * (X - w * D) = -D) → w % 2 = 0)

theorem Rnd.nonneg {X D w : Int} (h : Rnd X D w) (hD : 0 < D) (hX : 0 ≤ X) : 0 ≤ w := by
  obtain ⟨h1, h2, _⟩ := h
  apply Classical.byContradiction
  intro hw
  have : w * D ≤ (-1) * D := Int.mul_le_mul_of_nonneg_right (by omega) (by omega)
  omega

theorem Rnd.scale {X D w c : Int} (hc : 0 < c) : Rnd (X * c) (D * c) w ↔ Rnd X D w := by
  have e : 2 * (X * c - w * (D * c)) = (2 * (X - w * D)) * c := by
    rw [← Int.mul_assoc w D c, ← Int.sub_mul, Int.mul_assoc]
  unfold Rnd
  rw [e, ← Int.neg_mul]
  constructor
  · rintro ⟨h1, h2, h3⟩
    refine ⟨Int.le_of_mul_le_mul_right h1 hc, Int.le_of_mul_le_mul_right h2 hc, fun h => h3 ?_⟩
    rcases h with h | h
    · left; rw [h]
    · right; rw [h]
  · rintro ⟨h1, h2, h3⟩
    refine ⟨Int.mul_le_mul_of_nonneg_right h1 (by omega), Int.mul_le_mul_of_nonneg_right h2 (by omega), fun h => h3 ?_⟩
    rcases h with h | h
    · left; exact Int.eq_of_mul_eq_mul_right (by omega) h
    · right; exact Int.eq_of_mul_eq_mul_right (by omega) h

abbrev iabs (x : Int) : Int := if x < 0 then -x else x

theorem rnd_abs {N D q : Int} (hD : 0 < D) (h : Rnd N D q) : Rnd (iabs N) D (iabs q) := by
  obtain ⟨h1, h2, h3⟩ := h
  by_cases hq : q < 0
  · have : q * D ≤ (-1) * D := Int.mul_le_mul_of_nonneg_right (by omega) (by omega)
    have hN : N < 0 := by omega
    unfold Rnd iabs
    rw [if_pos hN, if_pos hq, Int.neg_mul]
    refine ⟨by omega, by omega, fun h => ?_⟩
    have := h3 (by omega)
    omega
  · by_cases hN : N < 0
    · by_cases hq0 : q = 0
      · subst hq0
        unfold Rnd iabs
        rw [if_pos hN, if_neg (by omega)]
        refine ⟨by omega, by omega, fun h => by decide⟩
      · have : 1 * D ≤ q * D := Int.mul_le_mul_of_nonneg_right (by omega) (by omega)
        omega
    · unfold Rnd iabs
      rw [if_neg hN, if_neg hq]
      exact ⟨h1, h2, h3⟩

theorem bitAnd_even (x : Int) : Builtin.bitAnd x (-2) = x - x % 2 := by
  by_cases hx : 0 ≤ x
  · have e : Builtin.bitAnd x (-2) = x - ((x.toNat &&& (Builtin.bitNot (-2)).toNat : Nat) : Int) := by
      unfold Builtin.bitAnd
      rw [decide_eq_true hx]
      rfl
    rw [e]
    have h : x.toNat &&& (Builtin.bitNot (-2)).toNat = x.toNat % 2 := Nat.and_two_pow_sub_one_eq_mod x.toNat 1
    rw [h]
    omega
  · have e : Builtin.bitAnd x (-2) = Builtin.bitNot (((Builtin.bitNot x).toNat ||| (Builtin.bitNot (-2)).toNat : Nat) : Int) := by
      unfold Builtin.bitAnd
      rw [decide_eq_false hx]
      rfl
    rw [e]
    have h : (Builtin.bitNot x).toNat ||| (Builtin.bitNot (-2)).toNat = (Builtin.bitNot x).toNat ||| 1 := rfl
    have h2 : ∀ y : Nat, y ||| 1 = y + 1 - y % 2 := by
      intro y
      apply Nat.eq_of_testBit_eq
      intro i
      rw [Nat.testBit_or]
      have e2 : y + 1 - y % 2 = 2 * (y / 2) + 1 := by omega
      rw [e2]
      cases i with
      | zero => simp [Nat.testBit_zero, Nat.add_mod]
      | succ i =>
        rw [Nat.testBit_succ, Nat.testBit_succ, Nat.testBit_succ]
        have e3 : (2 * (y / 2) + 1) / 2 = y / 2 := by omega
        have e4 : (1 : Nat) / 2 = 0 := by decide
        rw [e3, e4, Nat.zero_testBit, Bool.or_false]
    rw [h, h2]
    unfold Builtin.bitNot
    omega

theorem fd (N D : Int) (hD : 0 < D) : N = D * N.fdiv D + N.fmod D ∧ 0 ≤ N.fmod D ∧ N.fmod D < D :=
  ⟨(Int.mul_fdiv_add_fmod N D).symm, Int.fmod_nonneg_of_pos _ hD, Int.fmod_lt_of_pos _ hD⟩

theorem half (D : Int) : D.fdiv (2 ^ Int.toNat 1) = D / 2 := by
  rw [show ((2 : Int) ^ Int.toNat 1) = 2 from by decide]
  exact Int.fdiv_eq_ediv_of_nonneg _ (by decide)

/-- the three ways through _round_to_exponent -/
theorem rnd_even {N D : Int} (hD : 0 < D) (hr : (N + D.fdiv (2 ^ Int.toNat 1)).fmod D = 0) (h2 : Builtin.bitAnd D 1 = 0) :
    Rnd N D (Builtin.bitAnd ((N + D.fdiv (2 ^ Int.toNat 1)).fdiv D) (-2)) := by
  rw [bitAnd_m1] at h2
  rw [bitAnd_even]
  rw [half] at *
  obtain ⟨e, h0, h1⟩ := fd (N + D / 2) D hD
  generalize (N + D / 2).fdiv D = q at *
  generalize (N + D / 2).fmod D = r at *
  subst hr
  unfold Rnd
  rcases Int.emod_two_eq q with hq | hq
  · rw [hq, Int.sub_zero, Int.mul_comm q D]
    refine ⟨by omega, by omega, fun _ => hq⟩
  · rw [hq, Int.sub_mul, Int.mul_comm q D]
    refine ⟨by omega, by omega, fun _ => by omega⟩
theorem rnd_odd {N D : Int} (hD : 0 < D) (hr : (N + D.fdiv (2 ^ Int.toNat 1)).fmod D = 0) (h2 : Builtin.bitAnd D 1 ≠ 0) :
    Rnd N D ((N + D.fdiv (2 ^ Int.toNat 1)).fdiv D) := by
  rw [bitAnd_m1] at h2
  rw [half] at *
  obtain ⟨e, h0, h1⟩ := fd (N + D / 2) D hD
  generalize (N + D / 2).fdiv D = q at *
  generalize (N + D / 2).fmod D = r at *
  subst hr
  unfold Rnd
  rw [Int.mul_comm q D]
  refine ⟨by omega, by omega, fun _ => by omega⟩
theorem rnd_rest {N D : Int} (hD : 0 < D) (hr : (N + D.fdiv (2 ^ Int.toNat 1)).fmod D ≠ 0) :
    Rnd N D ((N + D.fdiv (2 ^ Int.toNat 1)).fdiv D) := by
  rw [half] at *
  obtain ⟨e, h0, h1⟩ := fd (N + D / 2) D hD
  generalize (N + D / 2).fdiv D = q at *
  generalize (N + D / 2).fmod D = r at *
  unfold Rnd
  rw [Int.mul_comm q D]
  refine ⟨by omega, by omega, fun _ => by omega⟩

/-- what _round_to_exponent tells of n / d at the exponent e -/
def Rte (n d e W : Int) : Prop := Rnd (iabs n * 10 ^ (-e).toNat) (d * 10 ^ e.toNat) W

theorem p10 (k : Nat) : (0 : Int) < 10 ^ k := Int.pow_pos (by decide)
theorem toNat_neg' {e : Int} (h : e ≤ 0) : e.toNat = 0 := by omega
theorem iabs_mul {n c : Int} (hc : 0 < c) : iabs (n * c) = iabs n * c := by
  unfold iabs
  by_cases h : n < 0
  · rw [if_pos h, if_pos (Int.mul_neg_of_neg_of_pos h hc), Int.neg_mul]
  · rw [if_neg h, if_neg (by have := Int.mul_nonneg (by omega : 0 ≤ n) (by omega : 0 ≤ c); omega)]
theorem neg_mul_iff {n c : Int} (hc : 0 < c) : decide (n * c < 0) = decide (n < 0) := by
  by_cases h : n < 0
  · rw [decide_eq_true h, decide_eq_true (Int.mul_neg_of_neg_of_pos h hc)]
  · rw [decide_eq_false h, decide_eq_false (by have := Int.mul_nonneg (by omega : 0 ≤ n) (by omega : 0 ≤ c); omega)]
theorem rte_up {n d e q : Int} (hd : 0 < d) (he : 0 ≤ e) (h : Rnd n (d * 10 ^ e.toNat) q) : Rte n d e (iabs q) := by
  have := rnd_abs (Int.mul_pos hd (p10 e.toNat)) h
  unfold Rte
  rw [show (-e).toNat = 0 from by omega, Int.pow_zero, Int.mul_one]
  exact this
theorem rte_dn {n d e q : Int} (hd : 0 < d) (he : ¬ 0 ≤ e) (h : Rnd (n * 10 ^ (-e).toNat) d q) : Rte n d e (iabs q) := by
  have := rnd_abs hd h
  unfold Rte
  rw [iabs_mul (p10 _)] at this
  rw [show e.toNat = 0 from by omega, Int.pow_zero, Int.mul_one]
  exact this
end

section
open PySem.NumText

/-- the signs of a number's text -/
def sg (x : Int) : List Nat := (Str.ofString (toString x)).cps.toList
theorem sg_len (x : Int) : (Str.ofString (toString x)).length = (sg x).length := by
  unfold sg
  rw [Array.length_toList]; rfl
theorem sg_nat (k : Nat) : sg (k : Int) = (Nat.toDigits 10 k).map Char.toNat := KIN.signs_num k
theorem sg_digits {x : Int} (h : 0 ≤ x) : AllDigits (sg x) := by
  obtain ⟨k, rfl⟩ := Int.eq_ofNat_of_zero_le h
  intro c hc
  rw [sg_nat] at hc
  obtain ⟨ch, hch, e⟩ := List.mem_map.mp hc
  have r := digit_range (Nat.isDigit_of_mem_toDigits (by decide) (by decide) hch)
  rw [← e]
  exact r
theorem sg_val {x : Int} (h : 0 ≤ x) : ((digitsVal (sg x) : Nat) : Int) = x := by
  obtain ⟨k, rfl⟩ := Int.eq_ofNat_of_zero_le h
  rw [sg_nat, KIN.val_back]
theorem sg_le {x : Int} {k : Nat} (h : 0 ≤ x) (hk : 1 ≤ k) (hx : x < 10 ^ k) : (sg x).length ≤ k := by
  obtain ⟨j, rfl⟩ := Int.eq_ofNat_of_zero_le h
  rw [sg_nat, List.length_map]
  refine digits10_le hk ?_
  have : ((10 ^ k : Nat) : Int) = 10 ^ k := by simp
  omega
theorem sg_ge {x : Int} {k : Nat} (h : 0 ≤ x) (hx : 10 ^ k ≤ x) : k + 1 ≤ (sg x).length := by
  obtain ⟨j, rfl⟩ := Int.eq_ofNat_of_zero_le h
  rw [sg_nat, List.length_map]
  refine digits10_ge ?_
  have : ((10 ^ k : Nat) : Int) = 10 ^ k := by simp
  omega
theorem sg_pos {x : Int} (h : 0 ≤ x) : 1 ≤ (sg x).length := by
  obtain ⟨j, rfl⟩ := Int.eq_ofNat_of_zero_le h
  rw [sg_nat, List.length_map]
  exact tDigits_len_ge 10 j
theorem sg_lt {x : Int} (h : 0 ≤ x) : x < 10 ^ (sg x).length := by
  apply Classical.byContradiction
  intro hc
  have := sg_ge h (Int.not_lt.mp hc)
  omega
theorem sg_low {x : Int} (h : 0 < x) : 10 ^ ((sg x).length - 1) ≤ x := by
  apply Classical.byContradiction
  intro hc
  have hp := sg_pos (x := x) (by omega)
  by_cases h1 : (sg x).length = 1
  · rw [h1] at hc
    simp at hc
    omega
  · have := sg_le (x := x) (k := (sg x).length - 1) (by omega) (by omega) (by omega)
    omega
theorem Sm.lt {k : Nat} {x : Int} (h : Sm k x) : x < 10 ^ k := by
  unfold Sm at h
  have : ((10 ^ k : Nat) : Int) = 10 ^ k := by simp
  omega
theorem sg_sm {x : Int} {k : Nat} (h : 0 ≤ x) (hk : 1 ≤ k) (hx : Sm k x) : (sg x).length ≤ k := sg_le h hk hx.lt

theorem foldl_from : ∀ (cs : List Nat) (a : Nat), cs.foldl (fun acc c => acc * 10 + (c - 48)) a = a * 10 ^ cs.length + digitsVal cs
  | [], a => by simp [digitsVal]
  | c :: cs, a => by
    have e0 : digitsVal (c :: cs) = (0 * 10 + (c - 48)) * 10 ^ cs.length + digitsVal cs := by
      show (c :: cs).foldl (fun acc c => acc * 10 + (c - 48)) 0 = _
      rw [List.foldl_cons, foldl_from cs]
    rw [e0, List.foldl_cons, foldl_from cs, List.length_cons, Nat.pow_succ, Nat.add_mul, Nat.zero_mul, Nat.zero_add]
    have e : a * 10 * 10 ^ cs.length = a * (10 ^ cs.length * 10) := by rw [Nat.mul_assoc, Nat.mul_comm 10]
    rw [e]
    omega
theorem val_cons (c : Nat) (cs : List Nat) : digitsVal (c :: cs) = (c - 48) * 10 ^ cs.length + digitsVal cs := by
  show (c :: cs).foldl (fun acc c => acc * 10 + (c - 48)) 0 = _
  rw [List.foldl_cons, foldl_from cs, Nat.zero_mul, Nat.zero_add]
theorem val_lt : ∀ (cs : List Nat), AllDigits cs → digitsVal cs < 10 ^ cs.length
  | [], _ => by decide
  | c :: cs, h => by
    have ih := val_lt cs h.tail
    have hc := h.head
    rw [val_cons, List.length_cons, Nat.pow_succ]
    have : (c - 48) * 10 ^ cs.length ≤ 9 * 10 ^ cs.length := Nat.mul_le_mul_right _ (by omega)
    omega
theorem lex_le : ∀ (A B : List Nat), AllDigits A → AllDigits B → ¬ (B < A) → digitsVal A * 10 ^ B.length ≤ digitsVal B * 10 ^ A.length
  | [], B, _, _, _ => by simp [digitsVal]
  | a :: A, [], _, _, h => absurd (List.nil_lt_cons a A) h
  | a :: A, b :: B, hA, hB, h => by
    have hva := val_lt A hA.tail
    rw [val_cons, val_cons, List.length_cons, List.length_cons]
    rw [List.cons_lt_cons_iff] at h
    have ha := hA.head
    have hb := hB.head
    by_cases hab : a = b
    · subst hab
      have ih := lex_le A B hA.tail hB.tail (fun hh => h (Or.inr ⟨rfl, hh⟩))
      rw [Nat.add_mul, Nat.add_mul, Nat.pow_succ, Nat.pow_succ]
      have e1 : (a - 48) * 10 ^ A.length * (10 ^ B.length * 10) = (a - 48) * 10 ^ B.length * (10 ^ A.length * 10) := by
        generalize (10 : Nat) ^ A.length = p
        generalize (10 : Nat) ^ B.length = q
        generalize a - 48 = r
        grind
      rw [e1]
      have e2 : digitsVal A * (10 ^ B.length * 10) = digitsVal A * 10 ^ B.length * 10 := by rw [Nat.mul_assoc]
      have e3 : digitsVal B * (10 ^ A.length * 10) = digitsVal B * 10 ^ A.length * 10 := by rw [Nat.mul_assoc]
      rw [e2, e3]
      omega
    · have hlt : a < b := by
        rcases Nat.lt_trichotomy a b with h' | h' | h'
        · exact h'
        · exact absurd h' hab
        · exact absurd (Or.inl h') h
      have l1 : (a - 48) * 10 ^ A.length + digitsVal A ≤ (b - 48) * 10 ^ A.length := by
        have : (a - 48 + 1) * 10 ^ A.length ≤ (b - 48) * 10 ^ A.length := Nat.mul_le_mul_right _ (by omega)
        rw [Nat.add_mul] at this
        omega
      refine Nat.le_trans (Nat.mul_le_mul_right _ l1) ?_
      refine Nat.le_trans ?_ (Nat.mul_le_mul_right _ (Nat.le_add_right _ _))
      rw [Nat.pow_succ, Nat.pow_succ]
      generalize (10 : Nat) ^ A.length = p
      generalize (10 : Nat) ^ B.length = q
      generalize b - 48 = r
      apply Nat.le_of_eq
      grind
theorem sg_cmp {x y : Int} (hx : 0 ≤ x) (hy : 0 ≤ y) (h : ¬ (sg y < sg x)) : x * 10 ^ (sg y).length ≤ y * 10 ^ (sg x).length := by
  have := lex_le _ _ (sg_digits hx) (sg_digits hy) h
  have e1 := sg_val hx
  have e2 := sg_val hy
  have := Int.ofNat_le.mpr this
  rw [Int.natCast_mul, Int.natCast_mul, e1, e2, Int.natCast_pow, Int.natCast_pow] at this
  exact this
theorem val_zeros : ∀ (Z A : List Nat), (∀ c ∈ Z, c = 48) → digitsVal (A ++ Z) = digitsVal A * 10 ^ Z.length
  | [], A, _ => by simp
  | z :: Z, A, h => by
    have hz := h z List.mem_cons_self
    subst hz
    have e : A ++ 48 :: Z = (A ++ [48]) ++ Z := by simp
    rw [e, val_zeros Z (A ++ [48]) (fun c hc => h c (List.mem_cons_of_mem _ hc)), digitsVal_snoc, List.length_cons, Nat.pow_succ]
    rw [Nat.sub_self, Nat.add_zero, Nat.mul_assoc, Nat.mul_comm 10]
theorem takeWhile_all (p : Nat → Bool) : ∀ (l : List Nat), ∀ c ∈ l.takeWhile p, p c = true
  | [], c, h => by simp at h
  | a :: l, c, h => by
    rw [List.takeWhile_cons] at h
    split at h
    · rcases List.mem_cons.mp h with rfl | h
      · assumption
      · exact takeWhile_all p l c h
    · simp at h
theorem rstrip_div {x : Int} (hx : 0 ≤ x) {s : Nat} (h : ¬ ((((Str.ofString (toString x)).length : Nat) : Int) - (((Txt.rstripChars (Str.ofString (toString x)) (Str.ofString "0")).length : Nat) : Int) < (s : Int))) : x % 10 ^ s = 0 := by
  unfold Txt.rstripChars at h
  rw [PyProof.Rows.stripBy_eq] at h
  have e0 : stripLo (Str.ofString "0").cps.contains false (Str.ofString (toString x)) = 0 := rfl
  rw [e0] at h
  have e1 : stripHi (Str.ofString "0").cps.contains true (Str.ofString (toString x)) 0 = (Str.ofString (toString x)).length - ((sg x).reverse.takeWhile (Str.ofString "0").cps.contains).length := rfl
  rw [e1, size_strSub _ _ _ (Nat.sub_le _ _)] at h
  generalize hp : ((Str.ofString "0").cps.contains : Nat → Bool) = p at h
  have ht : ∀ c ∈ (sg x).reverse.takeWhile p, c = 48 := by
    intro c hc
    have := takeWhile_all p _ c hc
    rw [← hp, show (Str.ofString "0").cps = #[48] from by decide +kernel] at this
    simpa using this
  have hl : ((sg x).reverse.takeWhile p).length ≤ (sg x).length := by
    have := len_takeWhile p (sg x).reverse
    rwa [List.length_reverse] at this
  rw [sg_len] at h
  have hsplit : sg x = ((sg x).reverse.dropWhile p).reverse ++ ((sg x).reverse.takeWhile p).reverse := by
    have := congrArg List.reverse (List.takeWhile_append_dropWhile (p := p) (l := (sg x).reverse))
    rw [List.reverse_append, List.reverse_reverse] at this
    exact this.symm
  have hv := sg_val hx
  rw [hsplit, val_zeros _ _ (fun c hc => ht c (List.mem_reverse.mp hc)), List.length_reverse] at hv
  generalize digitsVal ((sg x).reverse.dropWhile p).reverse = v at hv
  generalize ((sg x).reverse.takeWhile p).length = k at h hl hv
  have hk : s ≤ k := by omega
  obtain ⟨j, rfl⟩ : ∃ j, k = s + j := ⟨k - s, by omega⟩
  rw [← hv, Int.natCast_mul, Int.natCast_pow, Int.pow_add]
  have : ((v : Nat) : Int) * (((10 : Nat) : Int) ^ s * ((10 : Nat) : Int) ^ j) = (10 : Int) ^ s * ((v : Int) * 10 ^ j) := by
    show ((v : Nat) : Int) * ((10 : Int) ^ s * (10 : Int) ^ j) = _
    rw [← Int.mul_assoc, Int.mul_comm (v : Int) (10 ^ s), Int.mul_assoc]
  rw [this]
  exact Int.mul_emod_right _ _
theorem lt_not : ∀ {A B : List Nat}, A < B → ¬ (B < A) := fun h h' => List.lt_asymm h h'
end

section
open PySem.Spec PySem.Calls
abbrev tup2 (b : Bool) (x : Int) (t : Tok) (c : Nat) : Obj := { cls := .type "tuple", data := .seq #[.bool b, .int x t] c }

theorem rte_m1 {n e : Int} (hn : Sm 60 n) (h : -100 ≤ e) : IntMulOk n (10 ^ (-e).toNat) := hn.mulOk (Sm.pow (k := 100) (by omega)) (by decide) (by decide)
theorem rte_m2 {d e : Int} (hn : Sm 25 d) (h : e ≤ 100) : IntMulOk d (10 ^ e.toNat) := hn.mulOk (Sm.pow (k := 100) (by omega)) (by decide) (by decide)
theorem mul_ne {d e : Int} (h : 0 < d) : d * 10 ^ e.toNat ≠ 0 := by
  have : (0:Int) < d * 10 ^ e.toNat := Int.mul_pos h (Int.pow_pos (by decide))
  omega
local macro_rules | `(tactic| walk_at "inplaceOp Mult int int") => `(tactic| (k_here; first | (with_reducible refine imul_int ?_ (rte_m1 (by assumption) (by assumption))) | (with_reducible refine imul_int ?_ (rte_m2 (by assumption) (by assumption)))))
local macro_rules | `(tactic| walk_at "call builtin:divmod") => `(tactic| (k_here; first
  | (refine divmod_N (by assumption) (by assumption) ?hb ?_ (Or.inl (Sm.noPylong (k := 200) ?hs (by decide))); (case hb => first | exact mul_ne (by assumption) | omega); (case hs => first | exact (Sm.mul (by assumption) (Sm.pow (k := 100) (by assumption))).mono (by decide) | exact Sm.mono (i := 25) (by assumption) (by decide)); intro _ _ _)))
theorem rte_end {n d e : Int} {b b' : Bool} {x : Int} {t : Tok} {c : Nat} {h₀ h : Heap} {L D : Addr} {m : Str → Option Value} {news news' : List (Addr × Obj)} {s : Shared} {Q : Value → Shared → Prop} {tk : Nat}
    (hret : ∀ (W : Int) (D : Addr) (t : Tok) (c : Nat) (h' : Heap) (tk' : Nat), Rte n d e W → Fr h₀ L h' m → News h₀ L h' ((D, tup2 b W t c) :: news) → Q (.ref D) { s with heap := h', toks := tk' })
    (F : Fr h₀ L h m) (N : News h₀ L h news') (hm : (D, tup2 b' x t c) ∈ news') (hs : ∀ p ∈ news, p ∈ news') (hb : b' = b) (hW : Rte n d e x) : Q (.ref D) { s with heap := h, toks := tk } := by
  subst hb
  refine hret x D t c h tk hW F fun p hp => ?_
  rcases List.mem_cons.mp hp with rfl | hp
  · exact N _ hm
  · exact N p (hs p hp)
theorem rte_c (w : World) {mean mg mb} (n d e : Int) (tn td te : Tok) (hn : Sm 60 n) (hd0 : 0 < d) (hd1 : Sm 25 d) (he0 : -100 ≤ e) (he1 : e ≤ 100) :
    ∀ (dp un : Nat) (gd : Option (List Code)) (cn : Str) (cs : Scope) (a : Addr) (ccd : Value) (cl : List (Str × Addr)) (outer : List Env) (A₀ : Around) (base h₀ : Heap) (L : Addr) (m : Str → Option Value) (news : List (Addr × Obj)) (s : Shared) (Q E : Value → Shared → Prop),
    Below A₀ base outer h₀ → Fr h₀ L s.heap m → (hd.heap_39 w.params).In h₀ → News h₀ L s.heap news → Top hd.view_39 (looseW hd.view_39 [Str.ofString "_round_to_exponent"]) mean mg mb h₀ → cs.kind = .function → dp + 1 < recursionLimit → un + 8 < cLine →
    (∀ (W : Int) (D : Addr) (t : Tok) (c : Nat) (h' : Heap) (tk' : Nat), Rte n d e W → Fr h₀ L h' m → News h₀ L h' ((D, tup2 (decide (n < 0)) W t c) :: news) → Q (.ref D) { s with heap := h', toks := tk' }) →
    wpAny (model Challenge.rw_ls0007_01.row.prog w) (ktrTop dp un gd cn cs L a ccd cl outer) (call (.ref 22) [.int n tn, .int d td, .int e te]) Q E s := by
  w_on
  k_fill
  intros
  rename_i hret
  refine wpAny_call ?_
  k_dflt (refine' code_def ?k1 ?k2 ?k3 ?k4 ?k5 ?kA ?kF ?kK ?k6 ?k7 ?k8 ?k9 ?kB ?_ ?c2 ?c3 ?c4 ?c5; (case kA => exact rfl); (case kF => exact rfl); (case kK => assumption); (case k1 => k_asm); (case k2 => k_asm); (case k3 => k_asm); (case k4 => k_asm); (case k5 => k_asm); (case k6 => k_is); (case k7 => k_is); (case k8 => ktr_room); (case k9 => exact binds_K (by k_in) rfl (by k_is) rfl rfl rfl); (case c5 => decide); (case kB => exact locs rfl); (case c2 => exact rfl); (case c3 => exact rfl); (case c4 => exact rfl); k_whole; intro g' L' h' FG' F' N' B' X' T'; (try dsimp only); (try k_lift B'); (try k_fold))
  k_steps
  all_goals
    with_reducible refine rte_end hret (by assumption) (by assumption) (by exact List.mem_cons_self) (by exact fun p hp => List.mem_cons_of_mem _ (List.mem_cons_of_mem _ hp)) (by first | exact neg_mul_iff (p10 _) | exact rfl) ?_
    by_cases h1 : 0 ≤ e
    · with_reducible first
        | (have h2 := rnd_even (N := n) (D := d * 10 ^ e.toNat) (Int.mul_pos hd0 (p10 _)) (by assumption) (by assumption); exact rte_up hd0 h1 h2)
        | (have h2 := rnd_odd (N := n) (D := d * 10 ^ e.toNat) (Int.mul_pos hd0 (p10 _)) (by assumption) (by assumption); exact rte_up hd0 h1 h2)
        | (have h2 := rnd_rest (N := n) (D := d * 10 ^ e.toNat) (Int.mul_pos hd0 (p10 _)) (by assumption); exact rte_up hd0 h1 h2)
        | exact absurd h1 (by assumption)
    · with_reducible first
        | (have h2 := rnd_even (N := n * 10 ^ (-e).toNat) (D := d) hd0 (by assumption) (by assumption); exact rte_dn hd0 h1 h2)
        | (have h2 := rnd_odd (N := n * 10 ^ (-e).toNat) (D := d) hd0 (by assumption) (by assumption); exact rte_dn hd0 h1 h2)
        | (have h2 := rnd_rest (N := n * 10 ^ (-e).toNat) (D := d) hd0 (by assumption); exact rte_dn hd0 h1 h2)
        | exact absurd (by assumption) h1
end

section
open PySem.Spec PySem.Calls
abbrev tup3 (b : Bool) (x y : Int) (t u : Tok) (c : Nat) : Obj := { cls := .type "tuple", data := .seq #[.bool b, .int x t, .int y u] c }
/-- the place of the first figure, as _round_to_figures reckons it -/
def mOf (n d : Int) : Int := ((Str.ofString (toString (iabs n))).length : Int) - ((Str.ofString (toString d)).length : Int) + (if (!decide ((Str.ofString (toString (iabs n))).cps.toList < (Str.ofString (toString d)).cps.toList)) = true then (1 : Int) else 0)
def Rtf (n d f W e : Int) : Prop := (n = 0 ∧ W = 0 ∧ e = 1 - f) ∨ (n ≠ 0 ∧ ∃ W0, Rte n d (mOf n d - f) W0 ∧
  (((((Str.ofString (toString W0)).length : Nat) : Int) = f + 1 ∧ W = W0.fdiv 10 ∧ e = mOf n d - f + 1) ∨ ((((Str.ofString (toString W0)).length : Nat) : Int) ≠ f + 1 ∧ W = W0 ∧ e = mOf n d - f)))
theorem iabs_nn (n : Int) : 0 ≤ iabs n := by unfold iabs; split <;> omega
theorem iabs_pos {n : Int} (h : n ≠ 0) : 0 < iabs n := by unfold iabs; split <;> omega
theorem mOf_bounds {n d : Int} (hn : Sm 60 n) (hd0 : 0 < d) (hd1 : Sm 25 d) : -24 ≤ mOf n d ∧ mOf n d ≤ 60 := by
  have h1 := sg_pos (iabs_nn n)
  have h2 := sg_sm (iabs_nn n) (by decide) hn.abs
  have h3 := sg_pos (x := d) (by omega)
  have h4 := sg_sm (by omega) (by decide) hd1
  unfold mOf
  rw [sg_len, sg_len]
  split <;> omega
theorem rte_le {n d e W : Int} (h : Rte n d e W) (hd : 0 < d) : 0 ≤ W ∧ W ≤ iabs n * 10 ^ (-e).toNat := by
  unfold Rte at h
  have hD : 0 < d * 10 ^ e.toNat := Int.mul_pos hd (p10 _)
  have hX : 0 ≤ iabs n * 10 ^ (-e).toNat := Int.mul_nonneg (iabs_nn n) (Int.le_of_lt (p10 _))
  generalize d * 10 ^ e.toNat = D at *
  generalize iabs n * 10 ^ (-e).toNat = X at *
  have h0 := h.nonneg hD hX
  refine ⟨h0, ?_⟩
  apply Classical.byContradiction
  intro hc
  have h1 : (X + 1) * D ≤ W * D := Int.mul_le_mul_of_nonneg_right (by omega) (by omega)
  have h2 : X * 1 ≤ X * D := Int.mul_le_mul_of_nonneg_left (by omega) hX
  rw [Int.add_mul] at h1
  have := h.2.1
  omega
theorem Sm.of_le {k : Nat} {x y : Int} (h0 : 0 ≤ x) (hxy : x ≤ y) (h : Sm k y) : Sm k x := by
  unfold Sm at *
  omega
theorem rte_sm {n d e W : Int} (h : Rte n d e W) (hd : 0 < d) (hn : Sm 60 n) (he : -100 ≤ e) : Sm 161 W := by
  have h2 := rte_le h hd
  exact Sm.of_le h2.1 h2.2 (hn.abs.mul (Sm.pow (k := 100) (by omega)))
theorem len_fit {k : Nat} {x : Int} (h : Sm k x) (hk : k < 100000) : ¬ (((Str.ofString (toString x)).length : Nat) : Int) ≥ 2 ^ 63 := by
  have := int_text_length_le10 (a := x) (k := k + 1) (by omega) (h.mono (by omega))
  rw [PySem.ofString_length]
  omega
local macro_rules | `(tactic| walk_at "call type:str") => `(tactic| (k_here; (with_reducible show wpAny _ _ (call (Value.type "str") [Value.int _ _]) _ _ _); first
  | (refine P.str_of_int (Sm.log2 (k := 60) (by with_reducible exact Sm.abs (by assumption)) (by decide)) ?_)
  | (refine P.str_of_int (Sm.log2 (k := 60) (by with_reducible assumption) (by decide)) ?_)
  | (refine P.str_of_int (Sm.log2 (k := 25) (by with_reducible assumption) (by decide)) ?_)
  | (refine P.str_of_int (Sm.log2 (k := 161) (by with_reducible assumption) (by decide)) ?_)))
local macro_rules | `(tactic| walk_at "call builtin:len") => `(tactic| (k_here; (with_reducible show wpAny _ _ (call (Value.builtin "len") [Value.str _ _]) _ _ _); first
  | (refine P.len_str (len_fit (k := 60) (by with_reducible exact Sm.abs (by assumption)) (by decide)) ?_)
  | (refine P.len_str (len_fit (k := 25) (by with_reducible assumption) (by decide)) ?_)
  | (refine P.len_str (len_fit (k := 161) (by with_reducible assumption) (by decide)) ?_)))
theorem rte_use (w : World) {mean mg mb} {n d f : Int} (tn td te : Tok) (hn : Sm 60 n) (hd0 : 0 < d) (hd1 : Sm 25 d) (hf0 : 1 ≤ f) (hf1 : f ≤ 48) {e : Int} (he : e = mOf n d - f) :
    ∀ {dp un : Nat} {gd : Option (List Code)} {cn : Str} {cs : Scope} {a : Addr} {ccd : Value} {cl : List (Str × Addr)} {outer : List Env} {A₀ : Around} {base h₀ : Heap} {L : Addr} {m : Str → Option Value} {news : List (Addr × Obj)} {s : Shared} {Q E : Value → Shared → Prop},
    Below A₀ base outer h₀ → Fr h₀ L s.heap m → (hd.heap_39 w.params).In h₀ → News h₀ L s.heap news → Top hd.view_39 (looseW hd.view_39 [Str.ofString "_round_to_exponent"]) mean mg mb h₀ → cs.kind = .function → dp + 1 < recursionLimit → un + 8 < cLine →
    (∀ (W : Int) (D : Addr) (t : Tok) (c : Nat) (h' : Heap) (tk' : Nat), Rte n d (mOf n d - f) W → Sm 161 W → Fr h₀ L h' m → News h₀ L h' ((D, tup2 (decide (n < 0)) W t c) :: news) → Q (.ref D) { s with heap := h', toks := tk' }) →
    wpAny (model Challenge.rw_ls0007_01.row.prog w) (ktrTop dp un gd cn cs L a ccd cl outer) (call (.ref 22) [.int n tn, .int d td, .int e te]) Q E s := by
  intro dp un gd cn cs a ccd cl outer A₀ base h₀ L m news s Q E B F X N T hk hdp hun hret
  subst he
  have hb := mOf_bounds hn hd0 hd1
  exact rte_c w n d _ tn td te hn hd0 hd1 (by omega) (by omega) dp un gd cn cs a ccd cl outer A₀ base h₀ L m news s Q E B F X N T hk hdp hun
    (fun W D t c h' tk' hr F' N' => hret W D t c h' tk' hr (rte_sm hr hd0 hn (by omega)) F' N')
local macro_rules | `(tactic| walk_at "call ref") => `(tactic| (k_here; k_dflt (refine' rte_use _ _ _ _ ?q1 ?q2 ?q3 ?q4 ?q5 ?q6 ?k1 ?k2 ?k3 ?k4 ?k5 ?kK ?kd ?ku ?_; (case q1 => assumption); (case q2 => assumption); (case q3 => assumption); (case q4 => assumption); (case q5 => assumption); (case q6 => exact rfl); (case k1 => k_asm); (case k2 => k_asm); (case k3 => k_asm); (case k4 => k_asm); (case k5 => k_asm); (case kK => first | exact rfl | assumption); (case kd => ktr_room); (case ku => ktr_units); intro W9 D9 t9 c9 h9 tk9 R9 S9 F9 N9; (try dsimp only); (try k_fold))))
theorem rtf_end {n d f : Int} {b b' : Bool} {x y : Int} {t u : Tok} {c : Nat} {h₀ h : Heap} {L D : Addr} {m : Str → Option Value} {news news' : List (Addr × Obj)} {s : Shared} {Q : Value → Shared → Prop} {tk : Nat}
    (hret : ∀ (W e : Int) (D : Addr) (t u : Tok) (c : Nat) (h' : Heap) (tk' : Nat), Rtf n d f W e → Fr h₀ L h' m → News h₀ L h' ((D, tup3 b W e t u c) :: news) → Q (.ref D) { s with heap := h', toks := tk' })
    (F : Fr h₀ L h m) (N : News h₀ L h news') (hm : (D, tup3 b' x y t u c) ∈ news') (hs : ∀ p ∈ news, p ∈ news') (hb : b' = b) (hW : Rtf n d f x y) : Q (.ref D) { s with heap := h, toks := tk } := by
  subst hb
  refine hret x y D t u c h tk hW F fun p hp => ?_
  rcases List.mem_cons.mp hp with rfl | hp
  · exact N _ hm
  · exact N p (hs p hp)
theorem rtf_c (w : World) {mean mg mb} (n d f : Int) (tn td te : Tok) (hn : Sm 60 n) (hd0 : 0 < d) (hd1 : Sm 25 d) (hf0 : 1 ≤ f) (hf1 : f ≤ 48) :
    ∀ (dp un : Nat) (gd : Option (List Code)) (cn : Str) (cs : Scope) (a : Addr) (ccd : Value) (cl : List (Str × Addr)) (outer : List Env) (A₀ : Around) (base h₀ : Heap) (L : Addr) (m : Str → Option Value) (news : List (Addr × Obj)) (s : Shared) (Q E : Value → Shared → Prop),
    Below A₀ base outer h₀ → Fr h₀ L s.heap m → (hd.heap_39 w.params).In h₀ → News h₀ L s.heap news → Top hd.view_39 (looseW hd.view_39 [Str.ofString "_round_to_exponent"]) mean mg mb h₀ → cs.kind = .function → dp + 2 < recursionLimit → un + 16 < cLine →
    (∀ (W e : Int) (D : Addr) (t u : Tok) (c : Nat) (h' : Heap) (tk' : Nat), Rtf n d f W e → Fr h₀ L h' m → News h₀ L h' ((D, tup3 (decide (n < 0)) W e t u c) :: news) → Q (.ref D) { s with heap := h', toks := tk' }) →
    wpAny (model Challenge.rw_ls0007_01.row.prog w) (ktrTop dp un gd cn cs L a ccd cl outer) (call (.ref 29) [.int n tn, .int d td, .int f te]) Q E s := by
  w_on
  k_fill
  intros
  rename_i hret
  refine wpAny_call ?_
  k_dflt cell_enter
  k_steps
  all_goals
    with_reducible refine rtf_end hret (by assumption) (by assumption) (by exact List.mem_cons_self) (by (intro p hp; repeat (first | exact hp | apply List.mem_cons_of_mem))) ?_ ?_
    · first | (with_reducible rfl) | (rw [show n = 0 from by assumption]; rfl)
    · unfold Rtf
      first
        | (with_reducible exact Or.inl ⟨by assumption, by rfl, by rfl⟩)
        | (with_reducible refine Or.inr ⟨by assumption, _, by assumption, ?_⟩
           first
             | (refine Or.inl ⟨by with_reducible assumption, by with_reducible rfl, ?_⟩; unfold mOf iabs; with_reducible rfl)
             | (refine Or.inr ⟨by with_reducible assumption, by with_reducible rfl, ?_⟩; unfold mOf iabs; with_reducible rfl))
end

section
open PySem.Spec PySem.Calls
theorem rstrip_fit {k : Nat} {x : Int} (h : Sm k x) (hk : k < 100000) : (Str.ofString (toString x)).length ≤ sizeLine := by
  have := int_text_length_le10 (a := x) (k := k + 1) (by omega) (h.mono (by omega))
  rw [PySem.ofString_length, sizeLine_eq]
  omega
theorem rstrip_len_fit {k : Nat} {x : Int} {y : Str} (h : Sm k x) (hk : k < 100000) : ¬ (((Txt.rstripChars (Str.ofString (toString x)) y).length : Nat) : Int) ≥ 2 ^ 63 := by
  have h1 := len_rstripChars (Str.ofString (toString x)) y
  have h2 := len_fit h hk
  omega
local macro_rules | `(tactic| walk_at "call type:str") => `(tactic| (k_here; (with_reducible show wpAny _ _ (call (Value.type "str") [Value.int _ _]) _ _ _); first
  | (refine P.str_of_int (Sm.log2 (k := 161) (by with_reducible exact Sm.abs (by assumption)) (by decide)) ?_)))
local macro_rules | `(tactic| walk_at "call builtin:len") => `(tactic| (k_here; (with_reducible show wpAny _ _ (call (Value.builtin "len") [Value.str _ _]) _ _ _); first
  | (with_reducible refine P.len_str (len_fit (k := 161) (by with_reducible exact Sm.abs (by assumption)) (by decide)) ?_)
  | (with_reducible refine P.len_str (rstrip_len_fit (k := 161) (by with_reducible exact Sm.abs (by assumption)) (by decide)) ?_)))
local macro_rules | `(tactic| walk_at "call builtin:str.rstrip") => `(tactic| (k_here; (show wpAny _ _ (call (Value.builtin "str.rstrip") [Value.str _ _, Value.str _ _]) _ _ _); (refine SC.rstripChars (hsz := rstrip_fit (k := 161) (by with_reducible exact Sm.abs (by assumption)) (by decide)) ?_); intro _ _))
def Lsh (n e x : Int) : Prop := n % 10 ^ (-e).toNat = 0 ∧ x = n.fdiv (10 ^ (-e).toNat)
theorem lsh_zero {n e : Int} (h : n = 0) : Lsh n e 0 := by
  subst h
  exact ⟨Int.zero_emod _, (Int.zero_fdiv _).symm⟩
theorem lsh_div {n e : Int} (h0 : 0 ≤ n) (he : e < 0) (h : ¬ ((((Str.ofString (toString (if n < 0 then -n else n))).length : Nat) : Int) - (((Txt.rstripChars (Str.ofString (toString (if n < 0 then -n else n))) (Str.ofString "0")).length : Nat) : Int) < -e)) : Lsh n e (n.fdiv (10 ^ (-e).toNat)) := by
  rw [if_neg (by omega)] at h
  refine ⟨rstrip_div (s := (-e).toNat) h0 ?_, rfl⟩
  rw [Int.toNat_of_nonneg (by omega)]
  exact h
local macro_rules | `(tactic| walk_at "binaryOp FloorDiv int int") => `(tactic| (k_here; (with_reducible refine floordiv_int (Int.ne_of_gt (p10 _)) ?_ (Or.inl (Sm.noPylong (k := 9) (Sm.pow (k := 8) ?hs) (by decide))); (case hs => omega))))
theorem lsh_c (w : World) {mean mg mb} (n e : Int) (tn te : Tok) (hn : Sm 161 n) (hn0 : 0 ≤ n) (he0 : -8 ≤ e) (he1 : e < 0) :
    ∀ (dp un : Nat) (gd : Option (List Code)) (cn : Str) (cs : Scope) (a : Addr) (ccd : Value) (cl : List (Str × Addr)) (outer : List Env) (A₀ : Around) (base h₀ : Heap) (L : Addr) (m : Str → Option Value) (news : List (Addr × Obj)) (s : Shared) (Q E : Value → Shared → Prop),
    Below A₀ base outer h₀ → Fr h₀ L s.heap m → (hd.heap_39 w.params).In h₀ → News h₀ L s.heap news → Top hd.view_39 (looseW hd.view_39 [Str.ofString "_round_to_exponent"]) mean mg mb h₀ → cs.kind = .function → dp + 1 < recursionLimit → un + 8 < cLine →
    (∀ (h' : Heap) (tk' : Nat), Fr h₀ L h' m → News h₀ L h' news → Q .none { s with heap := h', toks := tk' }) → (∀ (x : Int) (t : Tok) (h' : Heap) (tk' : Nat), Lsh n e x → Fr h₀ L h' m → News h₀ L h' news → Q (.int x t) { s with heap := h', toks := tk' }) →
    wpAny (model Challenge.rw_ls0007_01.row.prog w) (ktrTop dp un gd cn cs L a ccd cl outer) (call (.ref 36) [.int n tn, .int e te]) Q E s := by
  w_on
  k_fill
  intros
  rename_i hnone hret
  refine wpAny_call ?_
  k_dflt cell_enter
  k_steps
  · with_reducible exact hret _ _ _ _ (lsh_zero (by assumption)) (by assumption) (by assumption)
  · with_reducible exact hnone _ _ (by assumption) (by assumption)
  · with_reducible exact hret _ _ _ _ (lsh_div (by assumption) (by assumption) (by assumption)) (by assumption) (by assumption)
end

section
open PySem.Spec PySem.Calls
def Dvn (x b : Int) : Int := x.fdiv b + (if decide (b < 2 * x.fmod b + Builtin.bitAnd (x.fdiv b) 1) = true then (1 : Int) else 0)
local macro_rules | `(tactic| walk_at "call builtin:divmod") => `(tactic| (k_here; (refine divmod_N (by assumption) (by assumption) (Int.ne_of_gt (by assumption)) ?_ (Or.inl (Sm.noPylong (k := 9) (by assumption) (by decide))); intro _ _ _)))
theorem dvn_c (w : World) {mean mg mb} (x b : Int) (tn te : Tok) (hb : 0 < b) (hb9 : Sm 9 b) :
    ∀ (dp un : Nat) (gd : Option (List Code)) (cn : Str) (cs : Scope) (a : Addr) (ccd : Value) (cl : List (Str × Addr)) (outer : List Env) (A₀ : Around) (base h₀ : Heap) (L : Addr) (m : Str → Option Value) (news : List (Addr × Obj)) (s : Shared) (Q E : Value → Shared → Prop),
    Below A₀ base outer h₀ → Fr h₀ L s.heap m → (hd.heap_39 w.params).In h₀ → News h₀ L s.heap news → Top hd.view_39 (looseW hd.view_39 [Str.ofString "_round_to_exponent"]) mean mg mb h₀ → cs.kind = .function → dp + 1 < recursionLimit → un + 8 < cLine →
    (∀ (t : Tok) (h' : Heap) (tk' : Nat), Fr h₀ L h' m → News h₀ L h' news → Q (.int (Dvn x b) t) { s with heap := h', toks := tk' }) →
    wpAny (model Challenge.rw_ls0007_01.row.prog w) (ktrTop dp un gd cn cs L a ccd cl outer) (call (.ref 43) [.int x tn, .int b te]) Q E s := by
  w_on
  k_fill
  intros
  rename_i hret
  refine wpAny_call ?_
  k_dflt cell_enter
  k_steps
  rename News _ _ _ _ => N6
  rename Fr _ _ _ _ => F6
  exact hret _ _ _ F6 (fun p hp => N6 p (List.mem_cons_of_mem _ hp))
end

section
-- one line more: the walk keeps its list of lines as long as their number is the same
local macro_rules | `(tactic| walk_at "no such key") => `(tactic| fail "none")
open PySem.Spec PySem.Calls
section
variable {prog : Program} {w : World} {A : Around} {E : Value → Shared → Prop} {s : Shared} {h₀ : Heap} {L : Addr} {m : Str → Option Value} {env : Env}
abbrev tupO (its : Array Value) (c : Nat) : Obj := { cls := .type "tuple", data := .seq its c }
def SrcT (ax : Addr) (its : Array Value) (nw : List (Addr × Obj)) : Prop := ∃ c, (ax, tupO its c) ∈ nw
theorem SrcT.at {ax : Addr} {its : Array Value} {nw : List (Addr × Obj)} {h : Heap} (x : SrcT ax its nw) (N : News h₀ L h nw) : h.IsTuple ax its := by
  obtain ⟨c, hm⟩ := x
  exact ⟨_, (N _ hm).1, rfl, c, rfl⟩
/-- a comprehension's source that is a tuple of the ledger's -/
def CompT (prog : Program) (w : World) (A : Around) (h₀ : Heap) (L : Addr) (m : Str → Option Value) (env : Env) (elt : PySem.Expr) (x : Str) (scope : Scope) (cl : List (Str × Addr)) (Q : Value → Shared → Prop) (xv : Value) (s₁ : Shared) : Prop :=
  ∃ ax its news, xv = .ref ax ∧ A.handled = none ∧ Fr h₀ L s₁.heap m ∧ News h₀ L s₁.heap news ∧ SrcT ax its news ∧ its.size ≤ sizeLine ∧
    ∀ s₂ : Shared, (∃ h, s₂ = { s₁ with heap := h }) → LCg.CompRest prog w A h₀ L m env elt x scope cl s₂ (SrcT ax its) (fun i v => its[i]? = some v) (LCg.FinE h₀ L m s₂ Q) its.size 0 [] news
theorem tup_st {ax I : Addr} {its : Array Value} : ∀ i (h h' : Heap) (o : Obj) (nw : List (Addr × Obj)), (h.IsTupleIter I ax i ∧ h.IsTuple ax its) → h.get? I = some o → h'.get? I = some o → (∀ b o, h₀.get? b = some o → h'.get? b = some o) → News h₀ L h' nw → SrcT ax its nw → (h'.IsTupleIter I ax i ∧ h'.IsTuple ax its) := by
  intro i h h' o nw st e e' _ N S
  refine ⟨?_, S.at N⟩
  obtain ⟨o', q, r⟩ := st.1
  rw [e] at q
  cases q
  exact ⟨o, e', r⟩
theorem comp_tup {elt iter : PySem.Expr} {x : Str} {px : Pos} {scope : Scope} {cl : List (Str × Addr)} {pos : Pos} {Q : Value → Shared → Prop} (F₀ : Fr h₀ L s.heap m)
    (hclos : closureFor scope env = pure cl) (hcell : ∀ y ∈ scope.names, y.2 ≠ .cell) (hkind : scope.kind = .function)
    (hnames : ∀ y ∈ scope.names, y.2 = .local → scope.names.lookup y.1 = some .local) (hx : scope.names.lookup x = some .local)
    (h : wpAny (model prog w) A (eval iter env) (CompT prog w A h₀ L m env elt x scope cl Q) E s)
    (hs : ∀ x, foldedSetIterable iter env x = pure x := by intro _; rfl) :
    wpAny (model prog w) A (eval (.ListComp elt [⟨.Name x px, iter, [], 0⟩] scope pos) env) Q E s := by
  rw [eval_ListComp]
  refine wpAny_comprehension_free (use := none) rfl hs hclos hkind hnames (wpAny_mono h (fun xv s₁ h₁ => ?_) fun _ _ e => e)
  obtain ⟨ax, its, news, hv, hh, F, N, S, hsz, R⟩ := h₁
  subst hv
  have ht := S.at N
  have hlt : ax < s₁.heap.objs.size := by
    obtain ⟨_, e, _⟩ := ht
    exact Heap.lt_size e
  refine wpAny_pyIter_tuple ht ?_
  have up : ∀ b o, s₁.heap.get? b = some o → (s₁.heap.push { cls := .type "tuple_iterator", data := .fields #[.ref ax, .int 0 0] }).get? b = some o := fun b o e => Heap.get?_push_of_some _ e
  refine LCg.block_U (Walks.tuple hh s₁.heap.objs.size ax (Nat.ne_of_lt hlt) its) hsz (fun i h st => ?_) tup_st hcell hkind hx ⟨⟨_, Heap.get?_push_size _ rfl, rfl, rfl⟩, ht.at fun o e => up _ o e⟩ (fun b hb => ?_)
    (F.keeps up) (N.grown up) (Nat.ne_of_lt F.ns.lt) (next_is_new F) (fun p hp => Nat.ne_of_lt (Heap.lt_size (N p hp).1)) S (R _ ⟨_, rfl⟩) ?_
  · obtain ⟨o, e, _⟩ := st.1
    exact ⟨o, e⟩
  · show b < (s₁.heap.push _).objs.size
    rw [Heap.size_push]
    rcases List.mem_cons.mp hb with rfl | hb
    · exact Nat.lt_succ_self _
    · rw [List.mem_singleton.mp hb]
      exact Nat.lt_succ_of_lt hlt
  · intro D C h tk m' ys news' F' N' o1 hn hC₀ hD₀ hCL hDL hCD offC fin
    refine ⟨m', hn, fun h'' hs'' => fin D h'' tk (F'.change hs'' hCL hC₀) (fun p hp => ?_) o1⟩
    refine ⟨hs''.extBut _ _ ?_ (N' p hp).1, (N' p hp).2⟩
    rcases List.mem_cons.mp hp with rfl | hp
    · exact Ne.symm hCD
    · exact offC p hp
end
theorem eq_same_list {prog : Program} {w : World} {A : Around} {E : Value → Shared → Prop} {s : Shared} {h₀ : Heap} {L l b : Addr} {items : Array Value} {c c' : Nat} {nw : List (Addr × Obj)} {Q : Value → Shared → Prop}
    (N : News h₀ L s.heap nw) (h1 : (b, ({ cls := .type "list", data := .seq items c } : Obj)) ∈ nw) (h2 : (l, ({ cls := .type "list", data := .seq items c' } : Obj)) ∈ nw) (hu : A.units < cLine) (h : Q (.bool true) s) :
    wpAny (model prog w) A (compareOp .Eq (.ref l) (.ref b)) Q E s := by
  refine PySem.SeqAt.eq_listAt (e := fun _ => true) ⟨_, (N _ h2).1, rfl, _, rfl⟩ ⟨_, (N _ h1).1, rfl, _, rfl⟩ rfl hu (fun j _ _ => PySem.SeqAt.EqAt.same _) ?_
  have e : ((List.range items.size).all fun _ => true) = true := by simp
  rw [e]
  exact h
local macro_rules | `(tactic| walk_at "eval ListComp") => `(tactic| (k_here; k_dflt (refine comp_tup (F₀ := by k_asm) (by rfl) (by decide) (by rfl) (by decide) (by rfl) ?_)))
theorem knd_c (w : World) {mean mg mb} (bb : Bool) (x y : Int) (t u : Tok) (c : Nat) (D : Addr) :
    ∀ (dp un : Nat) (gd : Option (List Code)) (cn : Str) (cs : Scope) (a : Addr) (ccd : Value) (cl : List (Str × Addr)) (outer : List Env) (A₀ : Around) (base h₀ : Heap) (L : Addr) (m : Str → Option Value) (news : List (Addr × Obj)) (s : Shared) (Q E : Value → Shared → Prop),
    Below A₀ base outer h₀ → Fr h₀ L s.heap m → (hd.heap_39 w.params).In h₀ → News h₀ L s.heap ((D, tup3 bb x y t u c) :: news) → Top hd.view_39 (looseW hd.view_39 [Str.ofString "_round_to_exponent"]) mean mg mb h₀ → cs.kind = .function → dp + 1 < recursionLimit → un + 8 < cLine →
    (∀ (h' : Heap) (tk' : Nat), Fr h₀ L h' m → News h₀ L h' news → Q (.bool true) { s with heap := h', toks := tk' }) →
    wpAny (model Challenge.rw_ls0007_01.row.prog w) (ktrTop dp un gd cn cs L a ccd cl outer) (call (.ref 55) [.ref D]) Q E s := by
  w_on
  k_fill
  intro dp un gd cn cs a ccd cl outer A₀ base h₀ L m news s Q E hB hF hX hN hT hk hdp hun hret
  refine wpAny_call ?_
  k_dflt cell_enter
  k_steps
  refine ⟨_, _, _, rfl, rfl, by k_asm, by k_asm, ⟨_, List.mem_cons_self⟩, (by rw [sizeLine_eq]; exact (by decide : 3 ≤ 16777216)), ?_⟩
  rintro s₂ ⟨h2, rfl⟩
  show LCg.CompRest _ _ _ _ _ _ _ _ _ _ _ _ _ _ _ 3 0 [] _
  refine LCg.CompRest.succ ?_
  intro v1 I1 oI1 C1 oC1 E1 m1 h1 tk1 P1 hv1 hC1 hx1 F1 N1 off1 ne1
  obtain rfl : Value.bool bb = v1 := Option.some.inj hv1
  clear hv1
  iterate 8 (first | walk1 | (dsimp only; walk1))
  k_unfold
  refine LCg.CompEnd.intro F1 N1 ((D, tup3 bb x y t u c) :: news) (fun p hp => hp) off1 ⟨_, List.mem_cons_self⟩ ?_
  refine LCg.CompRest.succ ?_
  intro v2 I2 oI2 C2 oC2 E2 m2 h2 tk2 P2 hv2 hC2 hx2 F2 N2 off2 ne2
  obtain rfl : Value.int x t = v2 := Option.some.inj hv2
  clear hv2
  iterate 8 (first | walk1 | (dsimp only; walk1))
  k_unfold
  refine LCg.CompEnd.intro F2 N2 ((D, tup3 bb x y t u c) :: news) (fun p hp => hp) off2 ⟨_, List.mem_cons_self⟩ ?_
  refine LCg.CompRest.succ ?_
  intro v3 I3 oI3 C3 oC3 E3 m3 h3 tk3 P3 hv3 hC3 hx3 F3 N3 off3 ne3
  obtain rfl : Value.int y u = v3 := Option.some.inj hv3
  clear hv3
  iterate 8 (first | walk1 | (dsimp only; walk1))
  k_unfold
  refine LCg.CompEnd.intro F3 N3 ((D, tup3 bb x y t u c) :: news) (fun p hp => hp) off3 ⟨_, List.mem_cons_self⟩ ?_
  refine LCg.CompRest.zero ?_
  unfold LCg.FinE
  intro D4 h4 tk4 F4 N4 o4
  simp only [List.nil_append, List.cons_append] at N4
  try dsimp only
  iterate 9 (first | walk1 | (dsimp only; walk1))
  rename News _ _ _ _ => N5
  refine eq_same_list N5 List.mem_cons_self (List.mem_cons_of_mem _ List.mem_cons_self) (by ktr_units) ?_
  iterate 2 (first | (k_unfold; (try dsimp only)) | walk1 | (dsimp only; walk1))
  rename News _ _ _ _ => N6
  rename Fr _ _ _ _ => F6
  exact hret _ _ F6 (fun p hp => N6 p (List.mem_cons_of_mem _ (List.mem_cons_of_mem _ (List.mem_cons_of_mem _ hp))))
end

section
open PySem.Spec PySem.Calls
def lawBodyOf : List Stmt → List Stmt
  | [_, _, _, _, _, _, _, _, _, .FunctionDef _ _ [_, _, _, _, .For _ _ b _ _, _] _ _ _ _ _ _ _] => b
  | _ => []
def lawScopeOf : List Stmt → Scope
  | [_, _, _, _, _, _, _, _, _, .FunctionDef _ _ _ _ _ _ sc _ _ _] => sc
  | _ => { kind := .function, names := [], isGenerator := false, isCoroutine := false }
def lawBody : List Stmt := lawBodyOf PySem.Challenge.pw_ls0007_01.main.body
def lawScope : Scope := lawScopeOf PySem.Challenge.pw_ls0007_01.main.body
theorem fr_say {h₀ h : Heap} {L : Addr} {m : Str → Option Value} {k : Str} {v : Value} (F : Fr h₀ L h m) (hm : m k = some v) : Fr h₀ L h (fun y => if y = k then some v else m y) := by
  have e : m = (fun y => if y = k then some v else m y) := by
    funext y
    by_cases h1 : y = k
    · rw [if_pos h1, h1, hm]
    · rw [if_neg h1]
  rw [← e]
  exact F
/-- what the law asks of the shorter one -/
def Fin (f up due V e' : Int) : Prop := (due = 10 ^ f.toNat → V = due.fdiv 10 ∧ e' = up + 1) ∧ (due ≠ 10 ^ f.toNat → V = due ∧ e' = up)
theorem fin_eq {f up due V e' : Int} (h : Fin f up due V e') (h1 : due ≠ 10 ^ f.toNat) (h2 : V ≠ due ∨ e' ≠ up) : False := by
  obtain ⟨rfl, rfl⟩ := h.2 h1
  simp at h2
theorem fin_up {f up due V e' : Int} (h : Fin f up due V e') (h1 : due = 10 ^ f.toNat) (h2 : V ≠ due.fdiv 10 ∨ e' ≠ up + 1) : False := by
  obtain ⟨rfl, rfl⟩ := h.1 h1
  simp at h2
local macro_rules | `(tactic| walk_at "call ref") => `(tactic| (k_here; (with_reducible show wpAny _ _ (call (Value.ref 36) _) _ _ _); k_dflt (refine' lsh_c _ _ _ _ _ ?q1 ?q2 ?q3 ?q4 _ _ _ _ _ _ _ _ _ _ _ _ _ _ _ _ _ _ ?k1 ?k2 ?k3 ?k4 ?k5 ?kK ?kd ?ku ?_ ?_; (case q1 => assumption); (case q2 => assumption); (case q3 => omega); (case q4 => omega); (case k1 => k_asm); (case k2 => k_asm); (case k3 => k_asm); (case k4 => k_asm); (case k5 => k_asm); (case kK => first | exact rfl | assumption); (case kd => ktr_room); (case ku => ktr_units); (all_goals (first | (intro h9 tk9 F9 N9) | (intro x9 t9 h9 tk9 R9 F9 N9)); (try dsimp only); (try k_fold)))))
local macro_rules | `(tactic| walk_at "call ref") => `(tactic| (k_here; (with_reducible show wpAny _ _ (call (Value.ref 43) _) _ _ _); k_dflt (refine' dvn_c _ _ _ _ _ ?q1 ?q2 _ _ _ _ _ _ _ _ _ _ _ _ _ _ _ _ _ _ ?k1 ?k2 ?k3 ?k4 ?k5 ?kK ?kd ?ku ?_; (case q1 => exact p10 _); (case q2 => exact Sm.pow (k := 8) (by omega)); (case k1 => k_asm); (case k2 => k_asm); (case k3 => k_asm); (case k4 => k_asm); (case k5 => k_asm); (case kK => first | exact rfl | assumption); (case kd => ktr_room); (case ku => ktr_units); intro t9 h9 tk9 F9 N9; (try dsimp only); (try k_fold))))
local macro_rules | `(tactic| walk_at "binaryOp Mod int int") => `(tactic| (k_here; (with_reducible refine mod_int' (Int.ne_of_gt (p10 _)) ?_)))
local macro_rules | `(tactic| walk_at "binaryOp FloorDiv int int") => `(tactic| (k_here; (with_reducible refine floordiv_int (Int.ne_of_gt (p10 _)) ?_ (Or.inl (Sm.noPylong (k := 9) (Sm.pow (k := 8) ?hs) (by decide))); (case hs => omega))))
theorem tail_c (w : World) {mean mg mb} (n d f sp W ab e V e' : Int) (tn td tf ts tW ta te tV tu : Tok) (cc : Nat) (D2 : Addr) (hf0 : 1 ≤ f) (hf1 : f ≤ 40) (hs0 : 1 ≤ sp) (hs1 : sp ≤ 8) (hW : Sm 161 W) (hW0 : 0 ≤ W)
    (H1 : ∀ z, Lsh W (-sp) z → Fin f (e + sp) z V e') (H2 : W.fmod (10 ^ sp.toNat) * 2 = 10 ^ sp.toNat → ab ≠ 0 → 0 < ab → Fin f (e + sp) (W.fdiv (10 ^ sp.toNat) + 1) V e')
    (H3 : W.fmod (10 ^ sp.toNat) * 2 = 10 ^ sp.toNat → ab ≠ 0 → ¬ 0 < ab → Fin f (e + sp) (W.fdiv (10 ^ sp.toNat) + 0) V e') (H4 : (W.fmod (10 ^ sp.toNat) * 2 ≠ 10 ^ sp.toNat ∨ ab = 0) → Fin f (e + sp) (Dvn W (10 ^ sp.toNat)) V e')
    (h₀ : Heap) (L fa cd : Addr) (m : Str → Option Value) (news : List (Addr × Obj)) (s : Shared) (Q : Flow → Shared → Prop) (E : Value → Shared → Prop)
    (hB : Below callerA h₀ [] h₀) (hF : Fr h₀ L s.heap m) (m1 : m (Str.ofString "n") = some (.int n tn)) (m2 : m (Str.ofString "d") = some (.int d td)) (m3 : m (Str.ofString "few") = some (.int f tf)) (m4 : m (Str.ofString "surplus") = some (.int sp ts)) (m5 : m (Str.ofString "whole") = some (.int W tW)) (m6 : m (Str.ofString "above") = some (.int ab ta)) (m7 : m (Str.ofString "exponent") = some (.int e te)) (m8 : m (Str.ofString "shorter") = some (.ref D2))
    (hX : (hd.heap_39 w.params).In h₀) (hN : News h₀ L s.heap ((D2, tup3 (decide (n < 0)) V e' tV tu cc) :: news)) (hT : Top hd.view_39 (looseW hd.view_39 [Str.ofString "_round_to_exponent"]) mean mg mb h₀)
    (hret : ∀ (m' : Str → Option Value) (h' : Heap) (tk' : Nat), m' (Str.ofString "n") = some (.int n tn) → m' (Str.ofString "d") = some (.int d td) → Fr h₀ L h' m' → News h₀ L h' news → Q .next { s with heap := h', toks := tk' }) :
    wpAny (model Challenge.rw_ls0007_01.row.prog w) (callerA.deeper (envOf (Str.ofString "law") lawScope L fa (.ref cd))) (execs (lawBody.drop 10) (envOf (Str.ofString "law") lawScope L fa (.ref cd))) Q E s := by
  w_on
  revert hX
  k_fill
  intro hX
  replace hF := fr_say (fr_say (fr_say (fr_say (fr_say (fr_say (fr_say (fr_say hF m1) ((if_neg (by decide +kernel)).trans m2)) ((if_neg (by decide +kernel)).trans ((if_neg (by decide +kernel)).trans m3))) ((if_neg (by decide +kernel)).trans ((if_neg (by decide +kernel)).trans ((if_neg (by decide +kernel)).trans m4)))) ((if_neg (by decide +kernel)).trans ((if_neg (by decide +kernel)).trans ((if_neg (by decide +kernel)).trans ((if_neg (by decide +kernel)).trans m5))))) ((if_neg (by decide +kernel)).trans ((if_neg (by decide +kernel)).trans ((if_neg (by decide +kernel)).trans ((if_neg (by decide +kernel)).trans ((if_neg (by decide +kernel)).trans m6)))))) ((if_neg (by decide +kernel)).trans ((if_neg (by decide +kernel)).trans ((if_neg (by decide +kernel)).trans ((if_neg (by decide +kernel)).trans ((if_neg (by decide +kernel)).trans ((if_neg (by decide +kernel)).trans m7))))))) ((if_neg (by decide +kernel)).trans ((if_neg (by decide +kernel)).trans ((if_neg (by decide +kernel)).trans ((if_neg (by decide +kernel)).trans ((if_neg (by decide +kernel)).trans ((if_neg (by decide +kernel)).trans ((if_neg (by decide +kernel)).trans m8)))))))
  clear m1 m2 m3 m4 m5 m6 m7 m8
  unfold lawBody lawScope lawBodyOf lawScopeOf PySem.Challenge.pw_ls0007_01
  dsimp only [List.drop]
  k_steps
  all_goals first
    | (rename News _ _ _ _ => N6; rename Fr _ _ _ _ => F6; (refine hret _ _ _ rfl rfl F6 (fun p hp => N6 p ?_)); repeat (first | exact hp | apply List.mem_cons_of_mem))
    | (exfalso; (rename ((_ && _) = false) => hq); rw [Bool.and_eq_false_iff] at hq; simp only [beq_eq_false_iff_ne] at hq; with_reducible first
        | exact fin_eq (H1 _ (by assumption)) (by assumption) hq
        | exact fin_up (H1 _ (by assumption)) (by assumption) hq
        | exact fin_eq (H2 (by assumption) (by assumption) (by assumption)) (by assumption) hq
        | exact fin_up (H2 (by assumption) (by assumption) (by assumption)) (by assumption) hq
        | exact fin_eq (H3 (by assumption) (by assumption) (by assumption)) (by assumption) hq
        | exact fin_up (H3 (by assumption) (by assumption) (by assumption)) (by assumption) hq
        | exact fin_eq (H4 (Or.inr (by assumption))) (by assumption) hq
        | exact fin_up (H4 (Or.inr (by assumption))) (by assumption) hq
        | exact fin_eq (H4 (Or.inl (by assumption))) (by assumption) hq
        | exact fin_up (H4 (Or.inl (by assumption))) (by assumption) hq)
end

section
open PySem.Spec PySem.Calls
theorem rtf_bounds {n d f W e : Int} (h : Rtf n d f W e) (hn : Sm 60 n) (hd0 : 0 < d) (hd1 : Sm 25 d) (hf0 : 1 ≤ f) (hf1 : f ≤ 48) : 0 ≤ W ∧ Sm 161 W ∧ -100 ≤ e ∧ e ≤ 100 := by
  have hb := mOf_bounds hn hd0 hd1
  rcases h with ⟨_, rfl, rfl⟩ | ⟨_, W0, hr, h⟩
  · exact ⟨by omega, by unfold Sm; exact pow10_pos _, by omega, by omega⟩
  · have h0 := (rte_le hr hd0).1
    have h1 := rte_sm hr hd0 hn (by omega)
    rcases h with ⟨_, rfl, rfl⟩ | ⟨_, rfl, rfl⟩
    · have e : W0.fdiv 10 = W0 / 10 := Int.fdiv_eq_ediv_of_nonneg _ (by decide)
      rw [e]
      exact ⟨by omega, Sm.of_le (by omega) (by omega) h1, by omega, by omega⟩
    · exact ⟨h0, h1, by omega, by omega⟩
theorem rtf_u (w : World) {mean mg mb} {n d f : Int} (tn td te : Tok) (hn : Sm 60 n) (hd0 : 0 < d) (hd1 : Sm 25 d) (hf0 : 1 ≤ f) (hf1 : f ≤ 48) :
    ∀ {dp un : Nat} {gd : Option (List Code)} {cn : Str} {cs : Scope} {a : Addr} {ccd : Value} {cl : List (Str × Addr)} {outer : List Env} {A₀ : Around} {base h₀ : Heap} {L : Addr} {m : Str → Option Value} {news : List (Addr × Obj)} {s : Shared} {Q E : Value → Shared → Prop},
    Below A₀ base outer h₀ → Fr h₀ L s.heap m → (hd.heap_39 w.params).In h₀ → News h₀ L s.heap news → Top hd.view_39 (looseW hd.view_39 [Str.ofString "_round_to_exponent"]) mean mg mb h₀ → cs.kind = .function → dp + 2 < recursionLimit → un + 16 < cLine →
    (∀ (W e : Int) (D : Addr) (t u : Tok) (c : Nat) (h' : Heap) (tk' : Nat), Rtf n d f W e → 0 ≤ W → Sm 161 W → -100 ≤ e → e ≤ 100 → Fr h₀ L h' m → News h₀ L h' ((D, tup3 (decide (n < 0)) W e t u c) :: news) → Q (.ref D) { s with heap := h', toks := tk' }) →
    wpAny (model Challenge.rw_ls0007_01.row.prog w) (ktrTop dp un gd cn cs L a ccd cl outer) (call (.ref 29) [.int n tn, .int d td, .int f te]) Q E s := by
  intro dp un gd cn cs a ccd cl outer A₀ base h₀ L m news s Q E B F X N T hk hdp hun hret
  exact rtf_c w n d f tn td te hn hd0 hd1 hf0 hf1 dp un gd cn cs a ccd cl outer A₀ base h₀ L m news s Q E B F X N T hk hdp hun
    (fun W e D t u c h' tk' hr F' N' => hret W e D t u c h' tk' hr (rtf_bounds hr hn hd0 hd1 hf0 hf1).1 (rtf_bounds hr hn hd0 hd1 hf0 hf1).2.1 (rtf_bounds hr hn hd0 hd1 hf0 hf1).2.2.1 (rtf_bounds hr hn hd0 hd1 hf0 hf1).2.2.2 F' N')
theorem knd_u (w : World) {mean mg mb} {bb : Bool} {x y : Int} {t u : Tok} {c : Nat} {D : Addr} :
    ∀ {dp un : Nat} {gd : Option (List Code)} {cn : Str} {cs : Scope} {a : Addr} {ccd : Value} {cl : List (Str × Addr)} {outer : List Env} {A₀ : Around} {base h₀ : Heap} {L : Addr} {m : Str → Option Value} {news : List (Addr × Obj)} {s : Shared} {Q E : Value → Shared → Prop},
    Below A₀ base outer h₀ → Fr h₀ L s.heap m → (hd.heap_39 w.params).In h₀ → News h₀ L s.heap news → (D, tup3 bb x y t u c) ∈ news → Top hd.view_39 (looseW hd.view_39 [Str.ofString "_round_to_exponent"]) mean mg mb h₀ → cs.kind = .function → dp + 1 < recursionLimit → un + 8 < cLine →
    (∀ (h' : Heap) (tk' : Nat), Fr h₀ L h' m → News h₀ L h' news → Q (.bool true) { s with heap := h', toks := tk' }) →
    wpAny (model Challenge.rw_ls0007_01.row.prog w) (ktrTop dp un gd cn cs L a ccd cl outer) (call (.ref 55) [.ref D]) Q E s := by
  intro dp un gd cn cs a ccd cl outer A₀ base h₀ L m news s Q E B F X N hm T hk hdp hun hret
  exact knd_c w bb x y t u c D dp un gd cn cs a ccd cl outer A₀ base h₀ L m news s Q E B F X (fun p hp => (List.mem_cons.mp hp).elim (fun e => e ▸ N _ hm) (fun hp => N p hp)) T hk hdp hun hret
/-- what the tail asks -/
def TailOk (f sp W ab e V e' : Int) : Prop :=
  (∀ z, Lsh W (-sp) z → Fin f (e + sp) z V e') ∧ (W.fmod (10 ^ sp.toNat) * 2 = 10 ^ sp.toNat → ab ≠ 0 → 0 < ab → Fin f (e + sp) (W.fdiv (10 ^ sp.toNat) + 1) V e') ∧
  (W.fmod (10 ^ sp.toNat) * 2 = 10 ^ sp.toNat → ab ≠ 0 → ¬ 0 < ab → Fin f (e + sp) (W.fdiv (10 ^ sp.toNat) + 0) V e') ∧ ((W.fmod (10 ^ sp.toNat) * 2 ≠ 10 ^ sp.toNat ∨ ab = 0) → Fin f (e + sp) (Dvn W (10 ^ sp.toNat)) V e')
theorem tail_u (w : World) {mean mg mb} {n d f sp W ab e V e' : Int} {tn td tf ts tW ta te tV tu : Tok} {cc : Nat} {D2 : Addr} (hf0 : 1 ≤ f) (hf1 : f ≤ 40) (hs0 : 1 ≤ sp) (hs1 : sp ≤ 8) (hW : Sm 161 W) (hW0 : 0 ≤ W)
    {h₀ : Heap} {L fa cd : Addr} {m : Str → Option Value} {news nw : List (Addr × Obj)} {s : Shared} {Q : Flow → Shared → Prop} {E : Value → Shared → Prop}
    (hB : Below callerA h₀ [] h₀) (hF : Fr h₀ L s.heap m) (hX : (hd.heap_39 w.params).In h₀) (hN : News h₀ L s.heap nw) (hT : Top hd.view_39 (looseW hd.view_39 [Str.ofString "_round_to_exponent"]) mean mg mb h₀) (hm : (D2, tup3 (decide (n < 0)) V e' tV tu cc) ∈ nw) (hs : ∀ p ∈ news, p ∈ nw)
    (m1 : m (Str.ofString "n") = some (.int n tn)) (m2 : m (Str.ofString "d") = some (.int d td)) (m3 : m (Str.ofString "few") = some (.int f tf)) (m4 : m (Str.ofString "surplus") = some (.int sp ts)) (m5 : m (Str.ofString "whole") = some (.int W tW)) (m6 : m (Str.ofString "above") = some (.int ab ta)) (m7 : m (Str.ofString "exponent") = some (.int e te)) (m8 : m (Str.ofString "shorter") = some (.ref D2))
    (hret : ∀ (m' : Str → Option Value) (h' : Heap) (tk' : Nat), m' (Str.ofString "n") = some (.int n tn) → m' (Str.ofString "d") = some (.int d td) → Fr h₀ L h' m' → News h₀ L h' news → Q .next { s with heap := h', toks := tk' })
    (H : TailOk f sp W ab e V e') :
    wpAny (model Challenge.rw_ls0007_01.row.prog w) (callerA.deeper (envOf (Str.ofString "law") lawScope L fa (.ref cd))) (execs (lawBody.drop 10) (envOf (Str.ofString "law") lawScope L fa (.ref cd))) Q E s :=
  tail_c w n d f sp W ab e V e' tn td tf ts tW ta te tV tu cc D2 hf0 hf1 hs0 hs1 hW hW0 H.1 H.2.1 H.2.2.1 H.2.2.2 h₀ L fa cd m news s Q E hB hF m1 m2 m3 m4 m5 m6 m7 m8 hX
    (fun p hp => (List.mem_cons.mp hp).elim (fun e => e ▸ hN _ hm) (fun hp => hN p (hs p hp))) hT hret
end

section
-- one line more: the walk keeps its list of lines as long as their number is the same
local macro_rules | `(tactic| walk_at "no such key") => `(tactic| fail "none")
open PySem.Spec PySem.Calls
/-- what the law asks of the longer one -/
def LongOk (n f sp W e st ab : Int) : Prop :=
  (n = 0 → e = 1 - (f + sp)) ∧ (n ≠ 0 → 10 ^ (f + sp - 1).toNat ≤ W ∧ W < 10 ^ (f + sp).toNat) ∧
  (W = 10 ^ (f + sp - 1).toNat → ab < 0 → ¬ st < 2 * 10 * (if ab < 0 then -ab else ab) ∧ (2 * 10 * (if ab < 0 then -ab else ab) = st → (W * 10).fmod 2 = 0)) ∧
  ((W ≠ 10 ^ (f + sp - 1).toNat ∨ ¬ ab < 0) → ¬ st < 2 * 1 * (if ab < 0 then -ab else ab) ∧ (2 * 1 * (if ab < 0 then -ab else ab) = st → (W * 1).fmod 2 = 0))
theorem bne_false {a b : Int} (h : a = b) : (a != b) = false := by rw [h]; exact bne_self_eq_false _
local macro_rules | `(tactic| walk_at "binaryOp Pow int int") => `(tactic| (k_here; (with_reducible refine pow_int_small ?kb1 ?kb2 ?kb3 ?_); (case kb1 => omega); (case kb2 => omega); (case kb3 => decide)))
section
variable {n f sp W e st ab : Int} (H : LongOk n f sp W e st ab)
include H
theorem lk1 (h : n = 0) : (e != 1 - (f + sp)) = false := bne_false (H.1 h)
theorem lk2 (h1 : W = 10 ^ (f + sp - 1).toNat) (h2 : ab < 0) : decide (st < 2 * 10 * (if ab < 0 then -ab else ab)) = false := decide_eq_false (H.2.2.1 h1 h2).1
theorem lk3 (h1 : W ≠ 10 ^ (f + sp - 1).toNat) : decide (st < 2 * 1 * (if ab < 0 then -ab else ab)) = false := decide_eq_false (H.2.2.2 (Or.inl h1)).1
theorem lk4 (h1 : ¬ ab < 0) : decide (st < 2 * 1 * (if ab < 0 then -ab else ab)) = false := decide_eq_false (H.2.2.2 (Or.inr h1)).1
theorem lk5 (h1 : W = 10 ^ (f + sp - 1).toNat) (h2 : ab < 0) (h3 : 2 * 10 * (if ab < 0 then -ab else ab) = st) : ((W * 10).fmod 2 != 0) = false := bne_false ((H.2.2.1 h1 h2).2 h3)
theorem lk6 (h1 : W ≠ 10 ^ (f + sp - 1).toNat) (h3 : 2 * 1 * (if ab < 0 then -ab else ab) = st) : ((W * 1).fmod 2 != 0) = false := bne_false ((H.2.2.2 (Or.inl h1)).2 h3)
theorem lk7 (h1 : ¬ ab < 0) (h3 : 2 * 1 * (if ab < 0 then -ab else ab) = st) : ((W * 1).fmod 2 != 0) = false := bne_false ((H.2.2.2 (Or.inr h1)).2 h3)
theorem lk8 (h : n ≠ 0) : decide (10 ^ (f + sp - 1).toNat ≤ W) = true := decide_eq_true (H.2.1 h).1
theorem lk10 (h : n ≠ 0) : (!decide (W < 10 ^ (f + sp).toNat)) = false := by rw [decide_eq_true (H.2.1 h).2]; rfl
theorem lk9 (h : n ≠ 0) : decide (W < 10 ^ (f + sp).toNat) = true := decide_eq_true (H.2.1 h).2
end
theorem ite_isTrue {b : Bool} {p q : Prop} (h : b = true) (hp : p) : if b = true then p else q := by rw [h]; exact hp
theorem ite_eqs {a b : Int} {p q : Prop} (h1 : a = b → p) (h2 : a ≠ b → q) : if (a == b) = true then p else q := by
  by_cases h : a = b
  · rw [if_pos (beq_iff_eq.mpr h)]; exact h1 h
  · rw [if_neg (fun hb => h (beq_iff_eq.mp hb))]; exact h2 h
theorem ite_lts {a b : Int} {p q : Prop} (h1 : a < b → p) (h2 : ¬ a < b → q) : if decide (a < b) = true then p else q := by
  by_cases h : a < b
  · rw [if_pos (decide_eq_true h)]; exact h1 h
  · rw [if_neg (fun hb => h (of_decide_eq_true hb))]; exact h2 h
local macro_rules | `(tactic| walk_at "ite") => `(tactic| (k_here; (rename LongOk _ _ _ _ _ _ _ => HL9); with_reducible first
  | refine ite_isFalse (bne_self_eq_false _) ?_
  | refine ite_isFalse (lk1 HL9 (by assumption)) ?_
  | refine ite_isFalse (lk2 HL9 (by assumption) (by assumption)) ?_
  | refine ite_isFalse (lk3 HL9 (by assumption)) ?_
  | refine ite_isFalse (lk4 HL9 (by assumption)) ?_
  | refine ite_isFalse (lk5 HL9 (by assumption) (by assumption) (by assumption)) ?_
  | refine ite_isFalse (lk6 HL9 (by assumption) (by assumption)) ?_
  | refine ite_isFalse (lk7 HL9 (by assumption) (by assumption)) ?_
  | refine ite_isTrue (lk8 HL9 (by assumption)) ?_
  | refine ite_isTrue (lk9 HL9 (by assumption)) ?_
  | refine ite_isFalse (lk10 HL9 (by assumption)) ?_
  | (refine ite_eqs ?_ ?_ <;> intro _)
  | (refine ite_lts ?_ ?_ <;> intro _)))
local macro_rules | `(tactic| walk_at "execs nil") => `(tactic| (with_reducible refine wpAny_execs_nil ?_))
local macro_rules | `(tactic| walk_at "execs cons") => `(tactic| (k_here; (with_reducible show wpAny _ _ (execs (Stmt.Assign [PySem.Expr.Name (Str.ofString "due") _] _ _ :: _) _) _ _ _); k_dflt (refine' tail_u _ ?q1 ?q2 ?q3 ?q4 ?q5 ?q6 ?k1 ?k2 ?k3 ?k4 ?k5 ?km ?ks ?m1 ?m2 ?m3 ?m4 ?m5 ?m6 ?m7 ?m8 ?hr ?hH; (case k1 => k_asm); (case k2 => k_asm); (case k3 => k_asm); (case k4 => k_asm); (case k5 => k_asm); (case m1 => exact rfl); (case m2 => exact rfl); (case m3 => exact rfl); (case m4 => exact rfl); (case m5 => exact rfl); (case m6 => exact rfl); (case m7 => exact rfl); (case m8 => exact rfl); (case q1 => assumption); (case q2 => assumption); (case q3 => assumption); (case q4 => assumption); (case q5 => assumption); (case q6 => assumption); (case hH => assumption); (case km => k_mem); (case hr => assumption); (case ks => (intro p hp; repeat (first | exact hp | apply List.mem_cons_of_mem))))))
theorem chk_c (w : World) {mean mg mb} (n d f sp W e st ab V e' : Int) (tn td tf ts tm tW te tst ta tV tu : Tok) (cc : Nat) (D2 : Addr) (hf0 : 1 ≤ f) (hf1 : f ≤ 40) (hs0 : 1 ≤ sp) (hs1 : sp ≤ 8) (hW : Sm 161 W) (hW0 : 0 ≤ W)
    (HL : LongOk n f sp W e st ab) (H : TailOk f sp W ab e V e')
    (h₀ : Heap) (L fa cd : Addr) (m : Str → Option Value) (news : List (Addr × Obj)) (s : Shared) (Q : Flow → Shared → Prop) (E : Value → Shared → Prop)
    (hB : Below callerA h₀ [] h₀) (hF : Fr h₀ L s.heap m) (m1 : m (Str.ofString "n") = some (.int n tn)) (m2 : m (Str.ofString "d") = some (.int d td)) (m3 : m (Str.ofString "few") = some (.int f tf)) (m4 : m (Str.ofString "surplus") = some (.int sp ts)) (m5 : m (Str.ofString "whole") = some (.int W tW)) (m6 : m (Str.ofString "above") = some (.int ab ta)) (m7 : m (Str.ofString "exponent") = some (.int e te)) (m8 : m (Str.ofString "shorter") = some (.ref D2))
    (m9 : m (Str.ofString "more") = some (.int (f + sp) tm)) (m10 : m (Str.ofString "step") = some (.int st tst)) (m11 : m (Str.ofString "minus") = some (.bool (decide (n < 0))))
    (hX : (hd.heap_39 w.params).In h₀) (hN : News h₀ L s.heap ((D2, tup3 (decide (n < 0)) V e' tV tu cc) :: news)) (hT : Top hd.view_39 (looseW hd.view_39 [Str.ofString "_round_to_exponent"]) mean mg mb h₀)
    (hret : ∀ (m' : Str → Option Value) (h' : Heap) (tk' : Nat), m' (Str.ofString "n") = some (.int n tn) → m' (Str.ofString "d") = some (.int d td) → Fr h₀ L h' m' → News h₀ L h' news → Q .next { s with heap := h', toks := tk' }) :
    wpAny (model Challenge.rw_ls0007_01.row.prog w) (callerA.deeper (envOf (Str.ofString "law") lawScope L fa (.ref cd))) (execs (lawBody.drop 7) (envOf (Str.ofString "law") lawScope L fa (.ref cd))) Q E s := by
  w_on
  revert hX
  k_fill
  intro hX
  replace hF := fr_say (fr_say (fr_say (fr_say (fr_say (fr_say (fr_say (fr_say (fr_say (fr_say (fr_say (hF) (m1)) ((if_neg (by decide +kernel)).trans (m2))) ((if_neg (by decide +kernel)).trans ((if_neg (by decide +kernel)).trans (m3)))) ((if_neg (by decide +kernel)).trans ((if_neg (by decide +kernel)).trans ((if_neg (by decide +kernel)).trans (m4))))) ((if_neg (by decide +kernel)).trans ((if_neg (by decide +kernel)).trans ((if_neg (by decide +kernel)).trans ((if_neg (by decide +kernel)).trans (m5)))))) ((if_neg (by decide +kernel)).trans ((if_neg (by decide +kernel)).trans ((if_neg (by decide +kernel)).trans ((if_neg (by decide +kernel)).trans ((if_neg (by decide +kernel)).trans (m6))))))) ((if_neg (by decide +kernel)).trans ((if_neg (by decide +kernel)).trans ((if_neg (by decide +kernel)).trans ((if_neg (by decide +kernel)).trans ((if_neg (by decide +kernel)).trans ((if_neg (by decide +kernel)).trans (m7)))))))) ((if_neg (by decide +kernel)).trans ((if_neg (by decide +kernel)).trans ((if_neg (by decide +kernel)).trans ((if_neg (by decide +kernel)).trans ((if_neg (by decide +kernel)).trans ((if_neg (by decide +kernel)).trans ((if_neg (by decide +kernel)).trans (m8))))))))) ((if_neg (by decide +kernel)).trans ((if_neg (by decide +kernel)).trans ((if_neg (by decide +kernel)).trans ((if_neg (by decide +kernel)).trans ((if_neg (by decide +kernel)).trans ((if_neg (by decide +kernel)).trans ((if_neg (by decide +kernel)).trans ((if_neg (by decide +kernel)).trans (m9)))))))))) ((if_neg (by decide +kernel)).trans ((if_neg (by decide +kernel)).trans ((if_neg (by decide +kernel)).trans ((if_neg (by decide +kernel)).trans ((if_neg (by decide +kernel)).trans ((if_neg (by decide +kernel)).trans ((if_neg (by decide +kernel)).trans ((if_neg (by decide +kernel)).trans ((if_neg (by decide +kernel)).trans (m10))))))))))) ((if_neg (by decide +kernel)).trans ((if_neg (by decide +kernel)).trans ((if_neg (by decide +kernel)).trans ((if_neg (by decide +kernel)).trans ((if_neg (by decide +kernel)).trans ((if_neg (by decide +kernel)).trans ((if_neg (by decide +kernel)).trans ((if_neg (by decide +kernel)).trans ((if_neg (by decide +kernel)).trans ((if_neg (by decide +kernel)).trans (m11)))))))))))
  clear m1 m2 m3 m4 m5 m6 m7 m8 m9 m10 m11
  unfold lawBody lawScope lawBodyOf lawScopeOf PySem.Challenge.pw_ls0007_01
  dsimp only [List.drop]
  k_steps
end

section
open PySem.Spec PySem.Calls
abbrev stOf (d e : Int) : Int := d * 10 ^ (if 0 > e then 0 else e).toNat
abbrev abOf (n d W e : Int) : Int := (if n < 0 then -n else n) * 10 ^ (if 0 > -e then 0 else -e).toNat - W * stOf d e
/-- the plain law behind the turn -/
def MLaw (n d f sp : Int) : Prop := ∀ W e V e', Rtf n d (f + sp) W e → Rtf n d f V e' → LongOk n f sp W e (stOf d e) (abOf n d W e) ∧ TailOk f sp W (abOf n d W e) e V e'
theorem chk_u (w : World) {mean mg mb} {n d f sp W e V e' : Int} {tn td tf ts tm tW te tst ta tV tu : Tok} {cc : Nat} {D2 : Addr}
    {h₀ : Heap} {L fa cd : Addr} {m : Str → Option Value} {news nw : List (Addr × Obj)} {s : Shared} {Q : Flow → Shared → Prop} {E : Value → Shared → Prop}
    (hB : Below callerA h₀ [] h₀) (hF : Fr h₀ L s.heap m) (hX : (hd.heap_39 w.params).In h₀) (hN : News h₀ L s.heap nw) (hT : Top hd.view_39 (looseW hd.view_39 [Str.ofString "_round_to_exponent"]) mean mg mb h₀)
    (m1 : m (Str.ofString "n") = some (.int n tn)) (m2 : m (Str.ofString "d") = some (.int d td)) (m3 : m (Str.ofString "few") = some (.int f tf)) (m4 : m (Str.ofString "surplus") = some (.int sp ts)) (m5 : m (Str.ofString "whole") = some (.int W tW)) (m6 : m (Str.ofString "above") = some (.int (abOf n d W e) ta)) (m7 : m (Str.ofString "exponent") = some (.int e te)) (m8 : m (Str.ofString "shorter") = some (.ref D2))
    (m9 : m (Str.ofString "more") = some (.int (f + sp) tm)) (m10 : m (Str.ofString "step") = some (.int (stOf d e) tst)) (m11 : m (Str.ofString "minus") = some (.bool (decide (n < 0))))
    (hm : (D2, tup3 (decide (n < 0)) V e' tV tu cc) ∈ nw) (hs : ∀ p ∈ news, p ∈ nw) (hf0 : 1 ≤ f) (hf1 : f ≤ 40) (hs0 : 1 ≤ sp) (hs1 : sp ≤ 8) (hW : Sm 161 W) (hW0 : 0 ≤ W)
    (ML : MLaw n d f sp) (R : Rtf n d (f + sp) W e) (R' : Rtf n d f V e')
    (hret : ∀ (m' : Str → Option Value) (h' : Heap) (tk' : Nat), m' (Str.ofString "n") = some (.int n tn) → m' (Str.ofString "d") = some (.int d td) → Fr h₀ L h' m' → News h₀ L h' news → Q .next { s with heap := h', toks := tk' }) :
    wpAny (model Challenge.rw_ls0007_01.row.prog w) (callerA.deeper (envOf (Str.ofString "law") lawScope L fa (.ref cd))) (execs (lawBody.drop 7) (envOf (Str.ofString "law") lawScope L fa (.ref cd))) Q E s :=
  chk_c w n d f sp W e (stOf d e) (abOf n d W e) V e' tn td tf ts tm tW te tst ta tV tu cc D2 hf0 hf1 hs0 hs1 hW hW0 (ML W e V e' R R').1 (ML W e V e' R R').2 h₀ L fa cd m news s Q E hB hF m1 m2 m3 m4 m5 m6 m7 m8 m9 m10 m11 hX
    (fun p hp => (List.mem_cons.mp hp).elim (fun e => e ▸ hN _ hm) (fun hp => hN p (hs p hp))) hT hret
theorem mulOk_a {d k : Int} (hd : Sm 25 d) (h : k ≤ 100) : IntMulOk d (10 ^ k.toNat) := hd.mulOk (Sm.pow (k := 100) (by omega)) (by decide) (by decide)
theorem mulOk_b {n k : Int} (hn : Sm 60 n) (h : k ≤ 100) : IntMulOk (if n < 0 then -n else n) (10 ^ k.toNat) := hn.abs.mulOk (Sm.pow (k := 100) (by omega)) (by decide) (by decide)
theorem mulOk_c {W d k : Int} (hW : Sm 161 W) (hd : Sm 25 d) (h : k ≤ 100) : IntMulOk W (d * 10 ^ k.toNat) := hW.mulOk (hd.mul (Sm.pow (k := 100) (by omega))) (by decide) (by decide)
local macro_rules | `(tactic| walk_at "call ref") => `(tactic| (k_here; (with_reducible show wpAny _ _ (call (Value.ref 29) _) _ _ _); k_dflt (refine' rtf_u _ _ _ _ ?q1 ?q2 ?q3 ?q4 ?q5 ?k1 ?k2 ?k3 ?k4 ?k5 ?kK ?kd ?ku ?_; (case q1 => assumption); (case q2 => assumption); (case q3 => assumption); (case q4 => omega); (case q5 => omega); (case k1 => k_asm); (case k2 => k_asm); (case k3 => k_asm); (case k4 => k_asm); (case k5 => k_asm); (case kK => first | exact rfl | assumption); (case kd => ktr_room); (case ku => ktr_units); intro W9 e9 D9 t9 u9 c9 h9 tk9 R9 P9 S9 A9 B9 F9 N9; (try dsimp only); (try k_fold))))
local macro_rules | `(tactic| walk_at "call ref") => `(tactic| (k_here; (with_reducible show wpAny _ _ (call (Value.ref 55) _) _ _ _); k_dflt (refine' knd_u _ ?k1 ?k2 ?k3 ?k4 ?km ?k5 ?kK ?kd ?ku ?_; (case k1 => k_asm); (case k2 => k_asm); (case k3 => k_asm); (case k4 => k_asm); (case km => k_mem); (case k5 => k_asm); (case kK => first | exact rfl | assumption); (case kd => ktr_room); (case ku => ktr_units); intro h9 tk9 F9 N9; (try dsimp only); (try k_fold))))
local macro_rules | `(tactic| walk_at "binaryOp Pow int int") => `(tactic| (k_here; (with_reducible refine pow_int_small ?kb1 ?kb2 ?kb3 ?_); (case kb1 => first | omega | (split <;> omega)); (case kb2 => first | omega | (split <;> omega)); (case kb3 => decide)))
local macro_rules | `(tactic| walk_at "binaryOp Mult int int") => `(tactic| (k_here; first
  | (with_reducible refine mul_int ?_ (mulOk_a (by assumption) ?kb); (case kb => split <;> omega))
  | (with_reducible refine mul_int ?_ (mulOk_b (by assumption) ?kb); (case kb => split <;> omega))
  | (with_reducible refine mul_int ?_ (mulOk_c (by assumption) (by assumption) ?kb); (case kb => split <;> omega))))
local macro_rules | `(tactic| walk_at "execs nil") => `(tactic| (with_reducible refine wpAny_execs_nil ?_))
local macro_rules | `(tactic| walk_at "execs cons") => `(tactic| (k_here; (with_reducible show wpAny _ _ (execs (Stmt.If (PySem.Expr.BoolOp _ [PySem.Expr.Compare _ _ _ _, _] _) _ _ _ :: _) _) _ _ _); k_dflt (refine' chk_u _ ?k1 ?k2 ?k3 ?k4 ?k5 ?m1 ?m2 ?m3 ?m4 ?m5 ?m6 ?m7 ?m8 ?m9 ?m10 ?m11 ?km ?ks ?q1 ?q2 ?q3 ?q4 ?q5 ?q6 ?hL ?hR1 ?hR2 ?hr; (case k1 => k_asm); (case k2 => k_asm); (case k3 => k_asm); (case k4 => k_asm); (case k5 => k_asm); (case m1 => exact rfl); (case m2 => exact rfl); (case m3 => exact rfl); (case m4 => exact rfl); (case m5 => exact rfl); (case m7 => exact rfl); (case m8 => exact rfl); (case m9 => exact rfl); (case m10 => exact rfl); (case m11 => exact rfl); (case m6 => exact rfl); (case km => k_mem); (case q1 => assumption); (case q2 => assumption); (case q3 => assumption); (case q4 => assumption); (case q5 => assumption); (case q6 => assumption); (case hL => assumption); (case hR1 => assumption); (case hR2 => assumption); (case hr => assumption); (case ks => (intro p hp; repeat (first | exact hp | apply List.mem_cons_of_mem))))))
theorem turn_b (w : World) {mean mg mb} (n d f sp : Int) (tn td tf ts tm : Tok) (hn : Sm 60 n) (hd0 : 0 < d) (hd1 : Sm 25 d) (hf0 : 1 ≤ f) (hf1 : f ≤ 40) (hs0 : 1 ≤ sp) (hs1 : sp ≤ 8) (ML : MLaw n d f sp)
    (h₀ : Heap) (L fa cd : Addr) (m : Str → Option Value) (news : List (Addr × Obj)) (s : Shared) (Q : Flow → Shared → Prop) (E : Value → Shared → Prop)
    (hB : Below callerA h₀ [] h₀) (hF : Fr h₀ L s.heap m) (m1 : m (Str.ofString "n") = some (.int n tn)) (m2 : m (Str.ofString "d") = some (.int d td)) (m3 : m (Str.ofString "few") = some (.int f tf)) (m4 : m (Str.ofString "surplus") = some (.int sp ts)) (m5 : m (Str.ofString "more") = some (.int (f + sp) tm))
    (hX : (hd.heap_39 w.params).In h₀) (hN : News h₀ L s.heap news) (hT : Top hd.view_39 (looseW hd.view_39 [Str.ofString "_round_to_exponent"]) mean mg mb h₀)
    (hret : ∀ (m' : Str → Option Value) (h' : Heap) (tk' : Nat), m' (Str.ofString "n") = some (.int n tn) → m' (Str.ofString "d") = some (.int d td) → Fr h₀ L h' m' → News h₀ L h' news → Q .next { s with heap := h', toks := tk' }) :
    wpAny (model Challenge.rw_ls0007_01.row.prog w) (callerA.deeper (envOf (Str.ofString "law") lawScope L fa (.ref cd))) (execs (lawBody.drop 2) (envOf (Str.ofString "law") lawScope L fa (.ref cd))) Q E s := by
  w_on
  revert hX
  k_fill
  intro hX
  replace hF := fr_say (fr_say (fr_say (fr_say (fr_say (hF) (m1)) ((if_neg (by decide +kernel)).trans (m2))) ((if_neg (by decide +kernel)).trans ((if_neg (by decide +kernel)).trans (m3)))) ((if_neg (by decide +kernel)).trans ((if_neg (by decide +kernel)).trans ((if_neg (by decide +kernel)).trans (m4))))) ((if_neg (by decide +kernel)).trans ((if_neg (by decide +kernel)).trans ((if_neg (by decide +kernel)).trans ((if_neg (by decide +kernel)).trans (m5)))))
  clear m1 m2 m3 m4 m5
  unfold lawBody lawScope lawBodyOf lawScopeOf PySem.Challenge.pw_ls0007_01
  dsimp only [List.drop]
  k_steps
end

section
open PySem.Spec PySem.Calls
theorem few_lo (z : Int) : 1 ≤ 1 + z.fmod 40 := by have := Int.fmod_nonneg_of_pos z (b := 40) (by decide); omega
theorem few_hi (z : Int) : 1 + z.fmod 40 ≤ 40 := by have := Int.fmod_lt_of_pos z (b := 40) (by decide); omega
theorem sur_lo (y : Int) : 1 ≤ 1 + y.fmod 8 := by have := Int.fmod_nonneg_of_pos y (b := 8) (by decide); omega
theorem sur_hi (y : Int) : 1 + y.fmod 8 ≤ 8 := by have := Int.fmod_lt_of_pos y (b := 8) (by decide); omega
def MAll (n d : Int) : Prop := ∀ f sp, 1 ≤ f → f ≤ 40 → 1 ≤ sp → sp ≤ 8 → MLaw n d f sp
theorem turn_bu (w : World) {mean mg mb} {n d z y : Int} {tn td tf ts tm : Tok} (hn : Sm 60 n) (hd0 : 0 < d) (hd1 : Sm 25 d) (ML : MAll n d)
    {h₀ : Heap} {L fa cd : Addr} {m : Str → Option Value} {news nw : List (Addr × Obj)} {s : Shared} {Q : Flow → Shared → Prop} {E : Value → Shared → Prop}
    (hB : Below callerA h₀ [] h₀) (hF : Fr h₀ L s.heap m) (hX : (hd.heap_39 w.params).In h₀) (hN : News h₀ L s.heap nw) (hT : Top hd.view_39 (looseW hd.view_39 [Str.ofString "_round_to_exponent"]) mean mg mb h₀)
    (m1 : m (Str.ofString "n") = some (.int n tn)) (m2 : m (Str.ofString "d") = some (.int d td)) (m3 : m (Str.ofString "few") = some (.int (1 + z.fmod 40) tf)) (m4 : m (Str.ofString "surplus") = some (.int (1 + y.fmod 8) ts)) (m5 : m (Str.ofString "more") = some (.int (1 + z.fmod 40 + (1 + y.fmod 8)) tm))
    (hs : ∀ p ∈ news, p ∈ nw)
    (hret : ∀ (m' : Str → Option Value) (h' : Heap) (tk' : Nat), m' (Str.ofString "n") = some (.int n tn) → m' (Str.ofString "d") = some (.int d td) → Fr h₀ L h' m' → News h₀ L h' news → Q .next { s with heap := h', toks := tk' }) :
    wpAny (model Challenge.rw_ls0007_01.row.prog w) (callerA.deeper (envOf (Str.ofString "law") lawScope L fa (.ref cd))) (execs (lawBody.drop 2) (envOf (Str.ofString "law") lawScope L fa (.ref cd))) Q E s :=
  turn_b w n d _ _ tn td tf ts tm hn hd0 hd1 (few_lo z) (few_hi z) (sur_lo y) (sur_hi y) (ML _ _ (few_lo z) (few_hi z) (sur_lo y) (sur_hi y)) h₀ L fa cd m news s Q E hB hF m1 m2 m3 m4 m5 hX (fun p hp => hN p (hs p hp)) hT hret
local macro_rules | `(tactic| walk_at "execs cons") => `(tactic| (k_here; (with_reducible show wpAny _ _ (execs (Stmt.Assign [PySem.Expr.Tuple [PySem.Expr.Name (Str.ofString "longer") _, _] _ _] _ _ :: _) _) _ _ _); k_dflt (refine' turn_bu _ ?q1 ?q2 ?q3 ?hL ?k1 ?k2 ?k3 ?k4 ?k5 ?m1 ?m2 ?m3 ?m4 ?m5 ?ks ?hr; (case k1 => k_asm); (case k2 => k_asm); (case k3 => k_asm); (case k4 => k_asm); (case k5 => k_asm); (case m1 => exact rfl); (case m2 => exact rfl); (case m3 => exact rfl); (case m4 => exact rfl); (case m5 => exact rfl); (case q1 => assumption); (case q2 => assumption); (case q3 => assumption); (case hL => assumption); (case hr => assumption); (case ks => (intro p hp; repeat (first | exact hp | apply List.mem_cons_of_mem))))))
theorem turn_c (w : World) {mean mg mb} (n d x : Int) (tn td tx : Tok) (hn : Sm 60 n) (hd0 : 0 < d) (hd1 : Sm 25 d) (ML : MAll n d) (h₀ : Heap) (L fa cd : Addr) (m : Str → Option Value) (news : List (Addr × Obj)) (s : Shared) (Q : Flow → Shared → Prop) (E : Value → Shared → Prop)
    (hB : Below callerA h₀ [] h₀) (hF : Fr h₀ L s.heap m) (m1 : m (Str.ofString "n") = some (.int n tn)) (m2 : m (Str.ofString "d") = some (.int d td)) (m3 : m (Str.ofString "x") = some (.int x tx)) (hX : (hd.heap_39 w.params).In h₀) (hN : News h₀ L s.heap news) (hT : Top hd.view_39 (looseW hd.view_39 [Str.ofString "_round_to_exponent"]) mean mg mb h₀)
    (hret : ∀ (m' : Str → Option Value) (h' : Heap) (tk' : Nat), m' (Str.ofString "n") = some (.int n tn) → m' (Str.ofString "d") = some (.int d td) → Fr h₀ L h' m' → News h₀ L h' news → Q .next { s with heap := h', toks := tk' }) :
    wpAny (model Challenge.rw_ls0007_01.row.prog w) (callerA.deeper (envOf (Str.ofString "law") lawScope L fa (.ref cd))) (execs lawBody (envOf (Str.ofString "law") lawScope L fa (.ref cd))) Q E s := by
  w_on
  revert hX
  k_fill
  intro hX
  replace hF := fr_say (fr_say (fr_say hF m1) ((if_neg (by decide +kernel)).trans m2)) ((if_neg (by decide +kernel)).trans ((if_neg (by decide +kernel)).trans m3))
  clear m1 m2 m3
  unfold lawBody lawScope lawBodyOf lawScopeOf PySem.Challenge.pw_ls0007_01
  dsimp only
  k_steps
end

section
/-- the law's heart: two roundings of one number X, by the unit u and by the unit u * S -/
theorem rnd_uniq {X U q v : Int} (hU : 0 < U) (h1 : 2 * (X - q * U) < U) (h2 : -U < 2 * (X - q * U)) (h : Rnd X U v) : v = q := by
  obtain ⟨a, b, _⟩ := h
  rcases Int.lt_trichotomy v q with hlt | heq | hgt
  · have : (v + 1) * U ≤ q * U := Int.mul_le_mul_of_nonneg_right (by omega) (by omega)
    rw [Int.add_mul] at this
    omega
  · exact heq
  · have : (q + 1) * U ≤ v * U := Int.mul_le_mul_of_nonneg_right (by omega) (by omega)
    rw [Int.add_mul] at this
    omega

section
variable {X u S W v q r : Int} (hu : 0 < u) (hS : 0 < S) (hW : Rnd X u W) (hv : Rnd X (u * S) v) (hq : W = q * S + r) (hr0 : 0 ≤ r) (hrS : r < S)
include hu hS hW hv hq hr0 hrS

theorem split_eq : X - q * (u * S) = r * u + (X - W * u) := by
  subst hq
  rw [Int.add_mul]
  have : q * S * u = q * (u * S) := by rw [Int.mul_assoc, Int.mul_comm S u]
  omega
theorem two_low (h2 : S % 2 = 0) (h : 2 * r < S) : v = q := by
  have e := split_eq hu hS hW hv hq hr0 hrS
  have hU : 0 < u * S := Int.mul_pos hu hS
  have m1 : (2 * r) * u ≤ (S - 2) * u := Int.mul_le_mul_of_nonneg_right (by omega) (by omega)
  have m2 : 0 ≤ r * u := Int.mul_nonneg hr0 (by omega)
  have m3 : 2 * u ≤ S * u := Int.mul_le_mul_of_nonneg_right (by omega) (by omega)
  have c : S * u = u * S := Int.mul_comm _ _
  rw [Int.sub_mul, Int.mul_assoc] at m1
  refine rnd_uniq hU ?_ ?_ hv
  · have := hW.1; omega
  · have := hW.2.1; omega
theorem two_high (h2 : S % 2 = 0) (h : S < 2 * r) : v = q + 1 := by
  have e := split_eq hu hS hW hv hq hr0 hrS
  have hU : 0 < u * S := Int.mul_pos hu hS
  have m1 : (S + 2) * u ≤ (2 * r) * u := Int.mul_le_mul_of_nonneg_right (by omega) (by omega)
  have m2 : r * u ≤ (S - 1) * u := Int.mul_le_mul_of_nonneg_right (by omega) (by omega)
  have m3 : 2 * u ≤ S * u := Int.mul_le_mul_of_nonneg_right (by omega) (by omega)
  have c : S * u = u * S := Int.mul_comm _ _
  rw [Int.add_mul, Int.mul_assoc] at m1
  rw [Int.sub_mul] at m2
  have e2 : (q + 1) * (u * S) = q * (u * S) + u * S := by rw [Int.add_mul, Int.one_mul]
  refine rnd_uniq hU ?_ ?_ hv
  · rw [e2]; have := hW.1; omega
  · rw [e2]; have := hW.2.1; omega
theorem half_up (h : 2 * r = S) (ha : 0 < X - W * u) : v = q + 1 := by
  have e := split_eq hu hS hW hv hq hr0 hrS
  have hU : 0 < u * S := Int.mul_pos hu hS
  have m1 : (2 * r) * u = S * u := by rw [h]
  have m3 : 2 * u ≤ S * u := Int.mul_le_mul_of_nonneg_right (by omega) (by omega)
  have c : S * u = u * S := Int.mul_comm _ _
  rw [Int.mul_assoc] at m1
  have e2 : (q + 1) * (u * S) = q * (u * S) + u * S := by rw [Int.add_mul, Int.one_mul]
  refine rnd_uniq hU ?_ ?_ hv
  · rw [e2]; have := hW.1; omega
  · rw [e2]; have := hW.2.1; omega
theorem half_down (h : 2 * r = S) (ha : X - W * u < 0) : v = q := by
  have e := split_eq hu hS hW hv hq hr0 hrS
  have hU : 0 < u * S := Int.mul_pos hu hS
  have m1 : (2 * r) * u = S * u := by rw [h]
  have m3 : 2 * u ≤ S * u := Int.mul_le_mul_of_nonneg_right (by omega) (by omega)
  have c : S * u = u * S := Int.mul_comm _ _
  rw [Int.mul_assoc] at m1
  refine rnd_uniq hU ?_ ?_ hv
  · have := hW.1; omega
  · have := hW.2.1; omega
theorem half_even (h : 2 * r = S) (ha : X - W * u = 0) : v = q + q % 2 := by
  have e := split_eq hu hS hW hv hq hr0 hrS
  have hU : 0 < u * S := Int.mul_pos hu hS
  have m1 : (2 * r) * u = S * u := by rw [h]
  have c : S * u = u * S := Int.mul_comm _ _
  rw [Int.mul_assoc] at m1
  obtain ⟨a, b, t⟩ := hv
  have hlo : q ≤ v := by
    apply Classical.byContradiction
    intro hc
    have : (v + 1) * (u * S) ≤ q * (u * S) := Int.mul_le_mul_of_nonneg_right (by omega) (by omega)
    rw [Int.add_mul] at this
    omega
  have hhi : v ≤ q + 1 := by
    apply Classical.byContradiction
    intro hc
    have : (q + 2) * (u * S) ≤ v * (u * S) := Int.mul_le_mul_of_nonneg_right (by omega) (by omega)
    rw [Int.add_mul] at this
    omega
  have hv' : v = q ∨ v = q + 1 := by omega
  rcases hv' with hv' | hv'
  · subst hv'
    have := t (by left; omega)
    omega
  · subst hv'
    have e2 : (q + 1) * (u * S) = q * (u * S) + u * S := by rw [Int.add_mul, Int.one_mul]
    have := t (by right; rw [e2]; omega)
    omega
end

theorem pw (a b c : Nat) (h : a + b = c) : (10 : Int) ^ a * 10 ^ b = 10 ^ c := by rw [← Int.pow_add, h]
theorem mul_pw (x : Int) (a b c : Nat) (h : a + b = c) : x * 10 ^ a * 10 ^ b = x * 10 ^ c := by rw [Int.mul_assoc, pw a b c h]
theorem le_pw {x y : Int} (k : Nat) (h : x ≤ y) : x * 10 ^ k ≤ y * 10 ^ k := Int.mul_le_mul_of_nonneg_right h (Int.le_of_lt (p10 k))

theorem m_range {n d : Int} (hn0 : n ≠ 0) (hn : Sm 60 n) (hd0 : 0 < d) (hd1 : Sm 25 d) :
    d * 10 ^ (mOf n d - 1 + 200).toNat ≤ iabs n * 10 ^ 200 ∧ iabs n * 10 ^ 200 ≤ d * 10 ^ (mOf n d + 200).toNat := by
  have hA := iabs_pos hn0
  have a1 := sg_pos (iabs_nn n)
  have a2 := sg_sm (iabs_nn n) (by decide) hn.abs
  have b1 := sg_pos (x := d) (by omega)
  have b2 := sg_sm (by omega) (by decide) hd1
  have alt := sg_lt (iabs_nn n)
  have alo := sg_low hA
  have blt := sg_lt (x := d) (by omega)
  have blo := sg_low hd0
  have c1 := fun h => sg_cmp (x := d) (y := iabs n) (by omega) (iabs_nn n) h
  have c2 := fun h => sg_cmp (x := iabs n) (y := d) (iabs_nn n) (by omega) h
  have em : mOf n d = ((sg (iabs n)).length : Int) - ((sg d).length : Int) + (if (!decide (sg (iabs n) < sg d)) = true then (1 : Int) else 0) := by
    unfold mOf
    rw [sg_len, sg_len]
    rfl
  rw [em]
  generalize hP : sg (iabs n) = P at *
  generalize hR : sg d = R at *
  generalize hA' : iabs n = A at *
  generalize hla : P.length = la at *
  generalize hld : R.length = ld at *
  by_cases hlt : P < R
  · rw [decide_eq_true hlt]
    have h := c2 (lt_not hlt)
    simp only [Bool.not_true, Bool.false_eq_true, if_false]
    constructor
    · have h1 : d * 10 ^ ((la : Int) - ld + 0 - 1 + 200).toNat ≤ 10 ^ ld * 10 ^ ((la : Int) - ld + 0 - 1 + 200).toNat := le_pw _ (Int.le_of_lt blt)
      rw [pw ld _ (la - 1 + 200) (by omega)] at h1
      have h2 := le_pw 200 alo
      rw [pw (la - 1) 200 _ rfl] at h2
      exact Int.le_trans h1 h2
    · have h1 := le_pw (200 - ld) h
      rw [mul_pw A ld (200 - ld) 200 (by omega), mul_pw d la (200 - ld) ((la : Int) - ld + 0 + 200).toNat (by omega)] at h1
      exact h1
  · rw [decide_eq_false hlt]
    have h := c1 hlt
    simp only [Bool.not_false, if_true]
    constructor
    · have h1 := le_pw (200 - ld) h
      rw [mul_pw A ld (200 - ld) 200 (by omega), mul_pw d la (200 - ld) ((la : Int) - ld + 1 - 1 + 200).toNat (by omega)] at h1
      exact h1
    · have h1 := le_pw 200 (Int.le_of_lt alt)
      rw [pw la 200 _ rfl] at h1
      have h2 : (10 : Int) ^ (ld - 1) * 10 ^ ((la : Int) - ld + 1 + 200).toNat ≤ d * 10 ^ ((la : Int) - ld + 1 + 200).toNat := le_pw _ blo
      rw [pw (ld - 1) _ (la + 200) (by omega)] at h2
      exact Int.le_trans h1 h2

def cE (e : Int) : Int := 10 ^ (200 - (-e).toNat)
theorem cE_pos (e : Int) : 0 < cE e := p10 _
theorem sc1 (A e : Int) (he : -200 ≤ e) : A * 10 ^ (-e).toNat * cE e = A * 10 ^ 200 := mul_pw _ _ _ _ (by omega)
theorem sc2 (d e : Int) (he : -200 ≤ e) : d * 10 ^ e.toNat * cE e = d * 10 ^ (e + 200).toNat := mul_pw _ _ _ _ (by omega)
theorem rte_scaled {n d e W : Int} (h : Rte n d e W) (he : -200 ≤ e) : Rnd (iabs n * 10 ^ 200) (d * 10 ^ (e + 200).toNat) W := by
  unfold Rte at h
  rw [← sc1 (iabs n) e he, ← sc2 d e he]
  exact (Rnd.scale (cE_pos e)).mpr h
theorem rnd_range {X u W a b : Int} (hu : 0 < u) (h : Rnd X u W) (h1 : a * u ≤ X) (h2 : X ≤ b * u) : a ≤ W ∧ W ≤ b := by
  obtain ⟨p, q, _⟩ := h
  constructor
  · apply Classical.byContradiction
    intro hc
    have : (W + 1) * u ≤ a * u := Int.mul_le_mul_of_nonneg_right (by omega) (by omega)
    rw [Int.add_mul] at this
    omega
  · apply Classical.byContradiction
    intro hc
    have : (b + 1) * u ≤ W * u := Int.mul_le_mul_of_nonneg_right (by omega) (by omega)
    rw [Int.add_mul] at this
    omega
theorem len_iff {W : Int} {g : Nat} (hg : 1 ≤ g) (h0 : 0 ≤ W) (h2 : W ≤ 10 ^ g) : ((((Str.ofString (toString W)).length : Nat) : Int) = (g : Int) + 1) ↔ W = 10 ^ g := by
  rw [sg_len]
  constructor
  · intro h
    apply Classical.byContradiction
    intro hc
    have := sg_le h0 hg (by omega)
    omega
  · intro h
    have h3 := sg_ge (k := g) h0 (by omega)
    have h4 : (10 : Int) ^ g < 10 ^ (g + 1) := by
      rw [Int.pow_succ]
      have := p10 g
      omega
    have h5 := sg_le (k := g + 1) h0 (by omega) (by omega)
    omega
end

section
theorem rtf_norm {n d : Int} {g : Nat} {W e : Int} (hg : 1 ≤ g) (hg1 : g ≤ 48) (hn0 : n ≠ 0) (hn : Sm 60 n) (hd0 : 0 < d) (hd1 : Sm 25 d) (h : Rtf n d (g : Int) W e) :
    ∃ W0, Rnd (iabs n * 10 ^ 200) (d * 10 ^ (mOf n d - g + 200).toNat) W0 ∧ 10 ^ (g - 1) ≤ W0 ∧ W0 ≤ 10 ^ g ∧
      ((W0 = 10 ^ g ∧ W = 10 ^ (g - 1) ∧ e = mOf n d - g + 1) ∨ (W0 < 10 ^ g ∧ W = W0 ∧ e = mOf n d - g)) := by
  have hb := mOf_bounds hn hd0 hd1
  have hm := m_range hn0 hn hd0 hd1
  rcases h with ⟨h0, _⟩ | ⟨_, W0, hr, h⟩
  · exact absurd h0 hn0
  · have hR := rte_scaled hr (by omega)
    have hu : 0 < d * 10 ^ (mOf n d - g + 200).toNat := Int.mul_pos hd0 (p10 _)
    have e1 : (10 : Int) ^ (g - 1) * (d * 10 ^ (mOf n d - g + 200).toNat) = d * 10 ^ (mOf n d - 1 + 200).toNat := by
      rw [Int.mul_comm, mul_pw d _ _ (mOf n d - 1 + 200).toNat (by omega)]
    have e2 : (10 : Int) ^ g * (d * 10 ^ (mOf n d - g + 200).toNat) = d * 10 ^ (mOf n d + 200).toNat := by
      rw [Int.mul_comm, mul_pw d _ _ (mOf n d + 200).toNat (by omega)]
    have hrg := rnd_range hu hR (a := 10 ^ (g - 1)) (b := 10 ^ g) (by rw [e1]; exact hm.1) (by rw [e2]; exact hm.2)
    refine ⟨W0, hR, hrg.1, hrg.2, ?_⟩
    have hp := p10 (g - 1)
    have hl := len_iff (W := W0) hg (by omega) hrg.2
    rcases h with ⟨a, b, c⟩ | ⟨a, b, c⟩
    · have hW := hl.mp a
      refine Or.inl ⟨hW, ?_, c⟩
      rw [b, hW]
      have e3 : (10 : Int) ^ g = 10 ^ (g - 1) * 10 := by
        rw [← Int.pow_succ]
        congr 1
        omega
      rw [e3]
      exact Int.mul_fdiv_cancel _ (by decide)
    · have hW : W0 ≠ 10 ^ g := fun hc => a (hl.mpr hc)
      exact Or.inr ⟨by omega, b, c⟩

theorem fin_of {f : Nat} {V0 V e' E : Int} (hf : 1 ≤ f) (h : (V0 = 10 ^ f ∧ V = 10 ^ (f - 1) ∧ e' = E + 1) ∨ (V0 < 10 ^ f ∧ V = V0 ∧ e' = E)) : Fin (f : Int) E V0 V e' := by
  have e3 : (10 : Int) ^ f = 10 ^ (f - 1) * 10 := by
    rw [← Int.pow_succ]
    congr 1
    omega
  unfold Fin
  rw [Int.toNat_natCast]
  rcases h with ⟨a, b, c⟩ | ⟨a, b, c⟩
  · refine ⟨fun _ => ⟨?_, c⟩, fun hc => absurd a hc⟩
    rw [a, b, e3]
    exact (Int.mul_fdiv_cancel _ (by decide)).symm
  · exact ⟨fun hc => by omega, fun _ => ⟨b, c⟩⟩

theorem dvn_eq {W S q r : Int} (hS : 0 < S) (hq : W.fdiv S = q) (hr : W.fmod S = r) : Dvn W S = q + (if S < 2 * r + q % 2 then 1 else 0) := by
  unfold Dvn
  rw [hq, hr, bitAnd_m1]
  by_cases h : S < 2 * r + q % 2
  · rw [if_pos (decide_eq_true h), if_pos h]
  · rw [if_neg (fun hb => h (of_decide_eq_true hb)), if_neg h]

theorem st_eq (d e : Int) : stOf d e = d * 10 ^ e.toNat := by
  unfold stOf
  congr 2
  split <;> omega
theorem ab_eq (n d W e : Int) : abOf n d W e = iabs n * 10 ^ (-e).toNat - W * (d * 10 ^ e.toNat) := by
  unfold abOf
  rw [st_eq]
  congr 3
  split <;> omega

theorem iabs_scale {a c : Int} (hc : 0 < c) : iabs a * c = iabs (a * c) := (iabs_mul hc).symm

/-- the checks of the longer one in the scaled numbers -/
theorem long_scaled {W st ab c U δ : Int} (k : Int) (hc : 0 < c) (hst : st * c = U) (hab : ab * c = δ) (h : 2 * k * iabs δ ≤ U) : ¬ st < 2 * k * iabs ab := by
  intro hlt
  have := Int.mul_lt_mul_of_pos_right hlt hc
  rw [hst, Int.mul_assoc, iabs_scale hc, hab] at this
  omega

theorem main_zero {d f sp W e V e' : Int} (hd0 : 0 < d) (hf0 : 1 ≤ f) (hs0 : 1 ≤ sp) (R : Rtf 0 d (f + sp) W e) (R' : Rtf 0 d f V e') :
    LongOk 0 f sp W e (stOf d e) (abOf 0 d W e) ∧ TailOk f sp W (abOf 0 d W e) e V e' := by
  rcases R with ⟨_, rfl, rfl⟩ | ⟨h, _⟩
  · rcases R' with ⟨_, rfl, rfl⟩ | ⟨h, _⟩
    · have hst : 0 < stOf d (1 - (f + sp)) := by rw [st_eq]; exact Int.mul_pos hd0 (p10 _)
      have hab : abOf 0 d 0 (1 - (f + sp)) = 0 := by rw [ab_eq]; simp [iabs]
      rw [hab]
      generalize stOf d (1 - (f + sp)) = st at *
      have hS := p10 sp.toNat
      have hF := p10 f.toNat
      have hP := p10 (f + sp - 1).toNat
      have hfin : Fin f (1 - (f + sp) + sp) 0 0 (1 - f) := ⟨fun h => by omega, fun _ => ⟨rfl, by omega⟩⟩
      refine ⟨⟨fun _ => rfl, fun h => absurd rfl h, fun h => by omega, fun _ => ⟨by simp; omega, fun h => by simp at h; omega⟩⟩, ?_, ?_, ?_, ?_⟩
      · intro z hz
        have : z = 0 := by rw [hz.2]; exact Int.zero_fdiv _
        rw [this]
        exact hfin
      · intro h
        rw [Int.zero_fmod] at h
        omega
      · intro h
        rw [Int.zero_fmod] at h
        omega
      · intro _
        rw [dvn_eq hS (Int.zero_fdiv _) (Int.zero_fmod _), if_neg (by omega)]
        exact hfin
    · exact absurd rfl h
  · exact absurd rfl h

theorem main_nz {n d W e V e' : Int} {f sp : Nat} (hn0 : n ≠ 0) (hn : Sm 60 n) (hd0 : 0 < d) (hd1 : Sm 25 d) (hf0 : 1 ≤ f) (hf1 : f ≤ 40) (hs0 : 1 ≤ sp) (hs1 : sp ≤ 8)
    (R : Rtf n d ((f : Int) + sp) W e) (R' : Rtf n d (f : Int) V e') :
    LongOk n f sp W e (stOf d e) (abOf n d W e) ∧ TailOk f sp W (abOf n d W e) e V e' := by
  have hb := mOf_bounds hn hd0 hd1
  have R2 : Rtf n d ((f + sp : Nat) : Int) W e := by
    rw [Int.natCast_add]
    exact R
  obtain ⟨W0, hW, w1, w2, hWe⟩ := rtf_norm (by omega) (by omega) hn0 hn hd0 hd1 R2
  obtain ⟨V0, hV, v1, v2, hVe⟩ := rtf_norm hf0 (by omega) hn0 hn hd0 hd1 R'
  have hm := (m_range hn0 hn hd0 hd1)
  have hfin : Fin (f : Int) (mOf n d - f) V0 V e' := fin_of hf0 hVe
  -- the powers
  have hS := p10 sp
  have hP := p10 (f - 1)
  have eF : (10 : Int) ^ f = 10 ^ (f - 1) * 10 := by
    rw [← Int.pow_succ]
    congr 1
    omega
  have eS : (10 : Int) ^ sp = 10 ^ (sp - 1) * 10 := by
    rw [← Int.pow_succ]
    congr 1
    omega
  have hS1 := p10 (sp - 1)
  have eG1 : (10 : Int) ^ (f + sp - 1) = 10 ^ (f - 1) * 10 ^ sp := (pw _ _ _ (by omega)).symm
  have eG : (10 : Int) ^ (f + sp) = 10 ^ (f - 1) * 10 * 10 ^ sp := by rw [← eF]; exact (pw _ _ _ rfl).symm
  -- the units
  have eU : d * 10 ^ (mOf n d - f + 200).toNat = d * 10 ^ (mOf n d - ((f + sp : Nat) : Int) + 200).toNat * 10 ^ sp := (mul_pw d _ _ _ (by omega)).symm
  rw [eU] at hV
  have hu : 0 < d * 10 ^ (mOf n d - ((f + sp : Nat) : Int) + 200).toNat := Int.mul_pos hd0 (p10 _)
  -- the range of X
  have hlo : 10 ^ (f + sp - 1) * (d * 10 ^ (mOf n d - ((f + sp : Nat) : Int) + 200).toNat) ≤ iabs n * 10 ^ 200 := by
    rw [Int.mul_comm, mul_pw d _ _ (mOf n d - 1 + 200).toNat (by omega)]
    exact hm.1
  have hhi : iabs n * 10 ^ 200 ≤ 10 ^ (f + sp) * (d * 10 ^ (mOf n d - ((f + sp : Nat) : Int) + 200).toNat) := by
    rw [Int.mul_comm (10 ^ (f + sp)), mul_pw d _ _ (mOf n d + 200).toNat (by omega)]
    exact hm.2
  have hc := cE_pos e
  have he : -200 ≤ e := by rcases hWe with ⟨_, _, h⟩ | ⟨_, _, h⟩ <;> omega
  have hst : stOf d e * cE e = d * 10 ^ (e + 200).toNat := by rw [st_eq]; exact sc2 d e he
  have hab : abOf n d W e * cE e = iabs n * 10 ^ 200 - W * (d * 10 ^ (e + 200).toNat) := by
    rw [ab_eq, Int.sub_mul, sc1 _ _ he, Int.mul_assoc, sc2 d e he]
  have hst0 : 0 < stOf d e := by rw [st_eq]; exact Int.mul_pos hd0 (p10 _)
  generalize stOf d e = st at *
  generalize abOf n d W e = ab at *
  generalize cE e = c at *
  have nf : ((f : Int) + (sp : Int)).toNat = f + sp := by omega
  have nf1 : ((f : Int) + (sp : Int) - 1).toNat = f + sp - 1 := by omega
  have ns : ((sp : Int)).toNat = sp := by omega
  have nns : (-(-(sp : Int))).toNat = sp := by omega
  unfold LongOk TailOk Lsh
  rw [nf, nf1, ns, nns]
  rcases hWe with ⟨hA, rfl, he1⟩ | ⟨hB, rfl, he1⟩
  · -- the carry
    have eU1 : d * 10 ^ (e + 200).toNat = (d * 10 ^ (mOf n d - ((f + sp : Nat) : Int) + 200).toNat) * 10 := by
      have := (mul_pw d (mOf n d - ((f + sp : Nat) : Int) + 200).toNat 1 (e + 200).toNat (by omega)).symm
      rwa [Int.pow_one] at this
    rw [eU1] at hst hab
    have hup : e + (sp : Int) = mOf n d - f + 1 := by omega
    generalize d * 10 ^ (mOf n d - ((f + sp : Nat) : Int) + 200).toNat = u at *
    generalize iabs n * 10 ^ 200 = X at *
    have eW : (10 : Int) ^ (f + sp - 1) * (u * 10) = W0 * u := by
      rw [hA, eG, eG1]
      grind
    rw [eW] at hab
    have hV0 : V0 = 10 ^ (f - 1) * 10 := by
      refine two_low (r := 0) hu hS hW hV ?_ (by omega) hS (by omega) (by omega)
      rw [hA, eG]
      omega
    have hX : X ≤ W0 * u := by rw [hA]; exact hhi
    have hneg : ¬ 0 < ab := by
      intro h
      have := Int.mul_pos h hc
      omega
    have hfin2 : Fin (f : Int) (e + sp) (10 ^ (f - 1)) V e' := by
      rw [hup]
      have h1 := hfin.1 (by rw [Int.toNat_natCast, hV0, eF])
      have e4 : V0.fdiv 10 = 10 ^ (f - 1) := by rw [hV0]; exact Int.mul_fdiv_cancel _ (by decide)
      rw [e4] at h1
      refine ⟨fun h => ?_, fun _ => h1⟩
      rw [Int.toNat_natCast, eF] at h
      omega
    have eq1 : ((10 : Int) ^ (f + sp - 1)).fdiv (10 ^ sp) = 10 ^ (f - 1) := by rw [eG1]; exact Int.mul_fdiv_cancel _ (by omega)
    have er1 : ((10 : Int) ^ (f + sp - 1)).fmod (10 ^ sp) = 0 := by rw [eG1]; exact Int.mul_fmod_left _ _
    refine ⟨⟨fun h => absurd h hn0, fun _ => ⟨Int.le_refl _, ?_⟩, fun _ h => ⟨?_, fun _ => ?_⟩, fun h => ?_⟩, ?_, ?_, ?_, ?_⟩
    · rw [eG, eG1]
      have : 0 < (10 : Int) ^ (f - 1) * 10 ^ sp := Int.mul_pos hP hS
      grind
    · refine long_scaled (W := W0) 10 hc hst hab ?_
      have := hW.2.1
      unfold iabs
      split <;> omega
    · rw [Int.fmod_eq_emod_of_nonneg _ (by decide)]
      omega
    · have h0 : ab = 0 := by
        rcases h with h | h
        · exact absurd rfl h
        · omega
      rw [h0]
      refine ⟨by simp; omega, fun h => by simp at h; omega⟩
    · intro z hz
      rw [hz.2, eq1]
      exact hfin2
    · intro h
      rw [er1] at h
      omega
    · intro h
      rw [er1] at h
      omega
    · intro _
      rw [dvn_eq hS eq1 er1, if_neg (by omega), Int.add_zero]
      exact hfin2
  · -- no carry
    rw [he1] at hst hab
    have hup : e + (sp : Int) = mOf n d - f := by omega
    generalize d * 10 ^ (mOf n d - ((f + sp : Nat) : Int) + 200).toNat = u at *
    generalize iabs n * 10 ^ 200 = X at *
    obtain ⟨hq, hr0, hr1⟩ := fd W (10 ^ sp) hS
    have hq' : W = W.fdiv (10 ^ sp) * 10 ^ sp + W.fmod (10 ^ sp) := by
      rw [Int.mul_comm]
      exact hq
    have hpos : 0 < ab ↔ 0 < X - W * u := by
      rw [← hab]
      constructor
      · exact fun h => Int.mul_pos h hc
      · intro h
        apply Classical.byContradiction
        intro h'
        have := Int.mul_nonpos_of_nonpos_of_nonneg (a := ab) (b := c) (by omega) (by omega)
        omega
    have hzero : ab = 0 ↔ X - W * u = 0 := by
      rw [← hab]
      constructor
      · intro h
        rw [h, Int.zero_mul]
      · intro h
        rcases Int.mul_eq_zero.mp h with h | h
        · exact h
        · omega
    rw [hup]
    have heven : (10 : Int) ^ sp % 2 = 0 := by rw [eS]; omega
    refine ⟨⟨fun h => absurd h hn0, fun _ => ⟨w1, hB⟩, fun h1 h2 => ?_, fun _ => ⟨?_, fun h => ?_⟩⟩, ?_, ?_, ?_, ?_⟩
    · exfalso
      have := Int.mul_neg_of_neg_of_pos h2 hc
      rw [hab, h1] at this
      omega
    · refine long_scaled (W := W) 1 hc hst hab ?_
      have := hW.1
      have := hW.2.1
      unfold iabs
      split <;> omega
    · rw [Int.mul_one, Int.fmod_eq_emod_of_nonneg _ (by decide)]
      have h3 : 2 * 1 * iabs ab * c = st * c := by rw [show (2 * 1 * iabs ab) = st from h]
      rw [hst, Int.mul_assoc, iabs_scale hc, hab] at h3
      refine hW.2.2 ?_
      unfold iabs at h3
      split at h3 <;> omega
    · intro z hz
      have hr : W.fmod (10 ^ sp) = 0 := by
        rw [Int.fmod_eq_emod_of_nonneg _ (by omega)]
        exact hz.1
      have := two_low hu hS hW hV hq' hr0 hr1 heven (by omega)
      rw [hz.2, ← this]
      exact hfin
    · intro h1 _ h2
      have := half_up hu hS hW hV hq' hr0 hr1 (by omega) (hpos.mp h2)
      rw [← this]
      exact hfin
    · intro h1 h0 h2
      have := half_down hu hS hW hV hq' hr0 hr1 (by omega) (by
        have := fun h => h2 (hpos.mpr h)
        have := fun h => h0 (hzero.mpr h)
        omega)
      rw [Int.add_zero, ← this]
      exact hfin
    · intro h
      rw [dvn_eq hS rfl rfl]
      have hd2 := Int.emod_two_eq (W.fdiv (10 ^ sp))
      rcases Int.lt_trichotomy (2 * W.fmod (10 ^ sp)) (10 ^ sp) with h1 | h1 | h1
      · have := two_low hu hS hW hV hq' hr0 hr1 heven h1
        rw [if_neg (by omega), Int.add_zero, ← this]
        exact hfin
      · have h0 : ab = 0 := by
          rcases h with h | h
          · omega
          · exact h
        have := half_even hu hS hW hV hq' hr0 hr1 h1 (hzero.mp h0)
        have e5 : W.fdiv (10 ^ sp) + (if 10 ^ sp < 2 * W.fmod (10 ^ sp) + W.fdiv (10 ^ sp) % 2 then 1 else 0) = V0 := by
          rw [this]
          split <;> omega
        rw [e5]
        exact hfin
      · have := two_high hu hS hW hV hq' hr0 hr1 heven h1
        rw [if_pos (by omega), ← this]
        exact hfin

theorem main_all {n d : Int} (hn : Sm 60 n) (hd0 : 0 < d) (hd1 : Sm 25 d) : MAll n d := by
  intro f sp hf0 hf1 hs0 hs1 W e V e' R R'
  by_cases h0 : n = 0
  · subst h0
    exact main_zero hd0 hf0 hs0 R R'
  · obtain ⟨f, rfl⟩ := Int.eq_ofNat_of_zero_le (a := f) (by omega)
    obtain ⟨sp, rfl⟩ := Int.eq_ofNat_of_zero_le (a := sp) (by omega)
    exact main_nz h0 hn hd0 hd1 (by omega) (by omega) (by omega) (by omega) R R'
end

section
open PySem.Spec PySem.Calls
theorem loop_c (w : World) {mean mg mb} {n d : Int} {tn td : Tok} (hn : Sm 60 n) (hd0 : 0 < d) (hd1 : Sm 25 d) (ML : MAll n d) {h₀ : Heap} {L fa cd l : Addr} {vs : List Value} {ns : List Int} {nn : Nat} {m : Str → Option Value} {news : List (Addr × Obj)} {s : Shared} {Q : Flow → Shared → Prop} {E : Value → Shared → Prop}
    (hB : Below callerA h₀ [] h₀) (F : Fr h₀ L s.heap m) (hX : (hd.heap_39 w.params).In h₀) (N : News h₀ L s.heap news) (hT : Top hd.view_39 (looseW hd.view_39 [Str.ofString "_round_to_exponent"]) mean mg mb h₀)
    (hl : (l, W.listOf vs.toArray nn) ∈ news) (hi : IntsAre vs ns) (m1 : m (Str.ofString "n") = some (.int n tn)) (m2 : m (Str.ofString "d") = some (.int d td))
    (done : ∀ (m' : Str → Option Value) (h' : Heap) (tk' : Nat), Fr h₀ L h' m' → News h₀ L h' news → Q .next { s with heap := h', toks := tk' }) :
    wpAny (model Challenge.rw_ls0007_01.row.prog w) (callerA.deeper (envOf (Str.ofString "law") lawScope L fa (.ref cd))) (pyIter (.ref l))
      (fun it s₂ => LoopAtV Challenge.rw_ls0007_01.row.prog w (callerA.deeper (envOf (Str.ofString "law") lawScope L fa (.ref cd))) h₀ (envOf (Str.ofString "law") lawScope L fa (.ref cd)) (Str.ofString "x") lawBody Q E it s₂) E s := by
  refine iter_invNL (fun _ m' nx => nx = news ∧ m' (Str.ofString "n") = some (.int n tn) ∧ m' (Str.ofString "d") = some (.int d td)) rfl hl hi F N ⟨rfl, m1, m2⟩ ?_ ?_
  · rintro i x t m₁ news₁ h tk own _ _ _ _ ⟨rfl, h1, h2⟩ F₁ N₁
    refine turn_c w n d x tn td t hn hd0 hd1 ML h₀ L fa cd _ (news₁ ++ own) _ _ E hB F₁ ((if_neg (by decide +kernel)).trans h1) ((if_neg (by decide +kernel)).trans h2) (if_pos rfl) hX N₁ hT ?_
    intro m' h' tk' a b F' N'
    exact InvEndN.intro F' N' ⟨hl, rfl, a, b⟩ rfl (fun p hp => List.mem_append_left _ hp) (fun p hp => List.mem_append_right _ hp)
  · rintro m₁ news₁ h tk _ ⟨rfl, h1, h2⟩ F' N'
    exact done _ _ _ F' N'
theorem n_sm (z y : Int) (hy : y = 1 ∨ y = -1) : Sm 60 (z.fmod (10 ^ Int.toNat 60) * y) := by
  have h0 := Int.fmod_nonneg_of_pos z (b := 10 ^ Int.toNat 60) (by decide +kernel)
  have h1 := Int.fmod_lt_of_pos z (b := 10 ^ Int.toNat 60) (by decide +kernel)
  have e : ((10 : Int) ^ Int.toNat 60) = ((10 ^ 60 : Nat) : Int) := by decide +kernel
  generalize (10 : Int) ^ Int.toNat 60 = P at *
  unfold Sm
  generalize (10 : Nat) ^ 60 = N at *
  generalize z.fmod P = r at *
  rcases hy with rfl | rfl <;> omega
theorem n_sm1 (z : Int) : Sm 60 (z.fmod (10 ^ Int.toNat 60) * 1) := n_sm z 1 (Or.inl rfl)
theorem n_sm2 (z : Int) : Sm 60 (z.fmod (10 ^ Int.toNat 60) * -1) := n_sm z (-1) (Or.inr rfl)
theorem d_pos (z : Int) : 0 < 1 + z.fmod (10 ^ Int.toNat 24) := by
  have h0 := Int.fmod_nonneg_of_pos z (b := 10 ^ Int.toNat 24) (by decide +kernel)
  omega
theorem d_sm (z : Int) : Sm 25 (1 + z.fmod (10 ^ Int.toNat 24)) := by
  have h0 := Int.fmod_nonneg_of_pos z (b := 10 ^ Int.toNat 24) (by decide +kernel)
  have h1 := Int.fmod_lt_of_pos z (b := 10 ^ Int.toNat 24) (by decide +kernel)
  have e : ((10 : Int) ^ Int.toNat 24) = 1000000000000000000000000 := by decide +kernel
  generalize (10 : Int) ^ Int.toNat 24 = P at *
  unfold Sm
  have e2 : (10 : Nat) ^ 25 = 10000000000000000000000000 := by decide +kernel
  rw [e2]
  generalize z.fmod P = r at *
  omega
end
end Mine
open Mine PySem.Spec PySem.Calls
local macro_rules | `(tactic| walk_at "exec For") => `(tactic| (k_here; (rename Fr _ _ _ _ => lF'); (with_unfolding_all refine' For_invVF lF' ?k1 ?k2 ?_; (case k1 => exact rfl); (case k2 => exact rfl); k_whole)))
local macro_rules | `(tactic| walk_at "pyIter ref") => `(tactic| (k_here; (with_reducible show wpAny _ _ (pyIter (Value.ref _)) (fun it s₂ => LoopAtV _ _ _ _ _ _ _ _ _ it s₂) _ _); k_dflt (refine' loop_c _ ?q1 ?q2 ?q3 ?q4 ?k1 ?k2 ?k3 ?k4 ?k5 ?kl ?ki ?m1 ?m2 ?_; (case k1 => k_asm); (case k2 => k_asm); (case k3 => k_asm); (case k4 => k_asm); (case k5 => k_asm); (case m1 => exact rfl); (case m2 => exact rfl); (case kl => k_mem); (case ki => assumption); (case q1 => with_reducible first | exact n_sm1 _ | exact n_sm2 _); (case q2 => with_reducible exact d_pos _); (case q3 => with_reducible exact d_sm _); (case q4 => exact main_all (by with_reducible first | exact n_sm1 _ | exact n_sm2 _) (d_pos _) (d_sm _)); intro m9 h9 tk9 F9 N9; (try dsimp only); (try k_fold))))
theorem PySem.Challenge.cw_ls0007_01_holds : PySem.Challenge.rw_ls0007_01.Holds := by
  w_on
  refine Mine.hd ?_
  w_strict k_go
