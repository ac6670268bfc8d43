import PyProof.Rows.All
import Wide.All
import OpenK.AllK
import Wide.FinOn
import Lean
import PySem.Challenge.RW_dm0269_04
open PySem PySem.W PyProof.Rows
set_option Elab.async false
set_option maxRecDepth 100000
set_option maxHeartbeats 8000000
set_option linter.all false

namespace Mine
open PySem.Builtin.Int (intBits)

/-- the nearest whole number to a / b, ties to even -/
def divN (a b : Int) : Int := a / b + (if b < 2 * (a % b) + a / b % 2 then 1 else 0)

theorem divN_of {a b : Int} (hb : 0 < b) :
    (a.fdiv b + if decide (b < 2 * a.fmod b + Builtin.bitAnd (a.fdiv b) 1) = true then 1 else 0) = divN a b := by
  rw [Int.fdiv_eq_ediv_of_nonneg _ (Int.le_of_lt hb), Int.fmod_eq_emod_of_nonneg _ (Int.le_of_lt hb), bitAnd_m1]
  simp only [decide_eq_true_eq]
  rfl

theorem noPy {a b : Int} {Z : Prop} (h : intBits b ≤ 9000) : Builtin.divisionGoesByPylong a b = false ∨ Z := by
  refine Or.inl (PyProof.noPylong_of_log2 ?_)
  unfold PySem.Builtin.Int.intBits at h
  by_cases hb : (b == 0) = true
  · have : b = 0 := by simpa using hb
    subst this; decide +kernel
  · rw [if_neg hb] at h; omega

theorem rshN_of {a : Int} (n : Int) :
    (a.fdiv (2 ^ n.toNat) + if decide (1 * 2 ^ n.toNat < 2 * Builtin.bitAnd a (1 * 2 ^ n.toNat - 1) + Builtin.bitAnd (a.fdiv (2 ^ n.toNat)) 1) = true then 1 else 0) = divN a (2 ^ n.toNat) := by
  have hp : (0 : Int) < 2 ^ n.toNat := Int.pow_pos (by decide)
  rw [Int.one_mul, kbt_mask, Int.fdiv_eq_ediv_of_nonneg _ (Int.le_of_lt hp), bitAnd_m1]
  simp only [decide_eq_true_eq]
  rfl

/-! the turn of the Newton loop -/
def sqStep (n a : Int) : Int := (a - (-n) / a) / 2

theorem sqStep_of {n a : Int} (ha : 0 < a) : (a - (-n).fdiv a).fdiv (2 ^ (1 : Int).toNat) = sqStep n a := by
  rw [Int.fdiv_eq_ediv_of_nonneg _ (Int.le_of_lt ha)]
  exact Int.fdiv_eq_ediv_of_nonneg _ (by decide)

/-- what a turn yields, by the two bounds of the quotient c = ceil (n / a) -/
theorem sqStep_facts {n a : Int} (hn : 0 < n) (ha : 0 < a) :
    ∃ c, 0 < c ∧ a * (c - 1) < n ∧ n ≤ a * c ∧ sqStep n a = (a + c) / 2 := by
  refine ⟨-((-n) / a), ?_, ?_, ?_, ?_⟩
  · have := Int.mul_ediv_add_emod (-n) a
    have h2 := Int.emod_nonneg (-n) (by omega : a ≠ 0)
    have h3 := Int.emod_lt_of_pos (-n) ha
    rcases Int.lt_or_le ((-n) / a) 0 with h | h
    · omega
    · have := Int.mul_nonneg (Int.le_of_lt ha) h
      omega
  · have := Int.mul_ediv_add_emod (-n) a
    have h2 := Int.emod_nonneg (-n) (by omega : a ≠ 0)
    have h3 := Int.emod_lt_of_pos (-n) ha
    have e : a * (-((-n) / a) - 1) = -(a * ((-n) / a)) - a := by rw [Int.mul_sub, Int.mul_neg, Int.mul_one]
    omega
  · have := Int.mul_ediv_add_emod (-n) a
    have h2 := Int.emod_nonneg (-n) (by omega : a ≠ 0)
    have e : a * (-((-n) / a)) = -(a * ((-n) / a)) := by rw [Int.mul_neg]
    omega
  · unfold sqStep
    congr 1

theorem int_sq_nonneg (a : Int) : 0 ≤ a * a := by
  rcases Int.le_total 0 a with h | h
  · exact Int.mul_nonneg h h
  · exact Int.mul_nonneg_of_nonpos_of_nonpos h h

theorem sqStep_pos {n a : Int} (hn : 0 < n) (ha : 0 < a) : 0 < sqStep n a := by
  obtain ⟨c, h1, _, _, h4⟩ := sqStep_facts hn ha
  omega

theorem sqStep_le {n a B : Int} (hn : 0 < n) (ha : 0 < a) (hB : a ≤ B) (hnB : n ≤ B) : sqStep n a ≤ B := by
  obtain ⟨c, h1, h2, h3, h4⟩ := sqStep_facts hn ha
  have : c ≤ n := by
    rcases Int.lt_or_le n c with h | h
    · have h5 : 1 * (c - 1) ≤ a * (c - 1) := Int.mul_le_mul_of_nonneg_right (by omega) (by omega)
      omega
    · exact h
  omega

/-- behind a turn a (a + 1) is no less than n -/
theorem sqStep_over {n a : Int} (hn : 0 < n) (ha : 0 < a) : n ≤ sqStep n a * (sqStep n a + 1) := by
  obtain ⟨c, h1, h2, h3, h4⟩ := sqStep_facts hn ha
  generalize sqStep n a = d at h4 ⊢
  -- a + c is 2 d or 2 d + 1
  have h5 : a + c = 2 * d ∨ a + c = 2 * d + 1 := by omega
  rcases h5 with h5 | h5
  · have e : c = 2 * d - a := by omega
    subst e
    have := int_sq_nonneg (a - d)
    grind
  · have e : c = 2 * d + 1 - a := by omega
    subst e
    have : 0 ≤ (a - d) * (a - d - 1) := by
      rcases Int.lt_or_le d a with h | h
      · exact Int.mul_nonneg (by omega) (by omega)
      · have := Int.mul_nonneg (show 0 ≤ d - a by omega) (show 0 ≤ d + 1 - a by omega)
        grind
    grind

/-- from there on it does not rise -/
theorem sqStep_down {n a : Int} (hn : 0 < n) (ha : 0 < a) (h : n ≤ a * (a + 1)) : sqStep n a ≤ a := by
  obtain ⟨c, h1, h2, h3, h4⟩ := sqStep_facts hn ha
  have : c ≤ a + 1 := by
    rcases Int.lt_or_le (a + 1) c with h' | h'
    · have := Int.mul_le_mul_of_nonneg_left (show a + 1 ≤ c - 1 by omega) (Int.le_of_lt ha)
      omega
    · exact h'
  omega

/-- where it stands still: the nearest root -/
theorem sqStep_still {n a : Int} (hn : 0 < n) (ha : 0 < a) (h : sqStep n a = a) : a * a - a < n ∧ n ≤ a * a + a := by
  obtain ⟨c, h1, h2, h3, h4⟩ := sqStep_facts hn ha
  have h5 : c = a ∨ c = a + 1 := by omega
  rcases h5 with rfl | rfl
  · constructor
    · grind
    · grind
  · constructor
    · grind
    · grind

/-- the nearest root, as a number -/
def IsRoot (n r : Int) : Prop := 0 < r ∧ r * r - r < n ∧ n ≤ r * r + r

/-- what holds between two turns: a, b of the loop -/
def SqInv (n a₀ a b : Int) : Prop := 0 < a ∧ a ≤ max a₀ n ∧ (b = 0 ∨ (0 < b ∧ a = sqStep n b ∧ n ≤ a * (a + 1)))
def sqMeas (n a₀ a b : Int) : Nat := if b = 0 then (2 * max a₀ n + 2).toNat else (2 * a + (if a = b then 0 else 1)).toNat

theorem sqInv_start {n a₀ : Int} (h : 0 < a₀) : SqInv n a₀ a₀ 0 := ⟨h, by omega, .inl rfl⟩
theorem sqInv_turn {n a₀ a b : Int} (hn : 0 < n) (h : SqInv n a₀ a b) : SqInv n a₀ (sqStep n a) a :=
  ⟨sqStep_pos hn h.1, sqStep_le hn h.1 h.2.1 (by omega), .inr ⟨h.1, rfl, sqStep_over hn h.1⟩⟩
theorem sqInv_less {n a₀ a b : Int} (hn : 0 < n) (h : SqInv n a₀ a b) (hne : ¬ a = b) : sqMeas n a₀ (sqStep n a) a < sqMeas n a₀ a b := by
  have h1 := h.1
  have h2 := sqStep_pos hn h1
  have h3 := sqStep_le hn h1 h.2.1 (show n ≤ max a₀ n by omega)
  unfold sqMeas
  rw [if_neg (show ¬ a = 0 by omega)]
  rcases h.2.2 with hb | ⟨hb, e, ho⟩
  · rw [if_pos hb]
    split <;> omega
  · rw [if_neg (show ¬ b = 0 by omega), if_neg hne]
    have := sqStep_down hn h1 ho
    split <;> omega
theorem sqInv_done {n a₀ a b : Int} (hn : 0 < n) (h : SqInv n a₀ a b) (e : a = b) : IsRoot n a := by
  rcases h.2.2 with hb | ⟨hb, e2, ho⟩
  · have := h.1; omega
  · subst e
    exact ⟨h.1, sqStep_still hn h.1 e2.symm⟩

theorem bits_le_max {a b : Int} {k : Nat} (ha : intBits a ≤ k) (hb : intBits b ≤ k) {x : Int} (h0 : 0 < x) (h : x ≤ max a b) : intBits x ≤ k := by
  have h1 := intBits_le_iff.mp ha
  have h2 := intBits_le_iff.mp hb
  refine intBits_le_iff.mpr ?_
  generalize 2 ^ k = t at h1 h2 ⊢
  omega

theorem root_unique {n a b : Int} (ha : IsRoot n a) (hb : IsRoot n b) : a = b := by
  obtain ⟨a0, a1, a2⟩ := ha
  obtain ⟨b0, b1, b2⟩ := hb
  rcases Int.lt_trichotomy a b with h | h | h
  · have := Int.mul_le_mul (show a ≤ b - 1 by omega) (show a + 1 ≤ b by omega) (by omega) (by omega)
    have e1 : a * (a + 1) = a * a + a := by grind
    have e2 : (b - 1) * b = b * b - b := by grind
    omega
  · exact h
  · have := Int.mul_le_mul (show b ≤ a - 1 by omega) (show b + 1 ≤ a by omega) (by omega) (by omega)
    have e1 : b * (b + 1) = b * b + b := by grind
    have e2 : (a - 1) * a = a * a - a := by grind
    omega

noncomputable def sqrtN (n : Int) : Int := Classical.epsilon (IsRoot n)
theorem sqrtN_of {n r : Int} (h : IsRoot n r) : r = sqrtN n := root_unique h (Classical.epsilon_spec (p := IsRoot n) ⟨r, h⟩)

/-- y behind R halvings -/
noncomputable def yH (M x : Int) : Nat → Int
  | 0 => x - M
  | R + 1 => divN (M * yH M x R * 2) (M + sqrtN (M * (M + divN (yH M x R) (2 ^ R))))

/-- the series' sum behind j turns -/
def wS (M ys T : Int) : Nat → Int
  | 0 => divN M T
  | j + 1 => divN M (T - 1 - (j : Int)) - divN (ys * wS M ys T j) M

/-- the halving loop's test -/
def Halves (M L y : Int) (R : Nat) : Prop := M * 2 ^ R ≤ (y.natAbs : Int) * 2 ^ L.toNat

theorem two_pow_pos (n : Nat) : (0 : Int) < 2 ^ n := Int.pow_pos (by decide)

theorem log_of_bits {a : Int} {k : Nat} (h : intBits a ≤ k) (hk : k ≤ 1900 := by decide) : a.natAbs.log2 < 1920 := by
  unfold PySem.Builtin.Int.intBits at h
  by_cases hb : (a == 0) = true
  · have : a = 0 := by simpa using hb
    subst this; decide +kernel
  · rw [if_neg hb] at h; omega

/-- how many signs a number's text has -/
def digs (M : Int) : Int := ((Str.ofString (toString M)).length : Int)

theorem divN_bits {a b : Int} {k : Nat} (hb : 0 < b) (ha : intBits a ≤ k) : intBits (divN a b) ≤ k + 1 := by
  have h1 := intBits_le_iff.mp ha
  refine intBits_le_iff.mpr ?_
  have h2 : (a / b).natAbs ≤ a.natAbs := by
    have := natAbs_fdiv_le a b
    rwa [Int.fdiv_eq_ediv_of_nonneg _ (Int.le_of_lt hb)] at this
  rw [Nat.pow_succ]
  have hp : 0 < 2 ^ k := Nat.two_pow_pos k
  unfold divN
  generalize 2 ^ k = t at h1 hp ⊢
  generalize a / b = q at h2 ⊢
  split <;> omega

theorem bits_mono {a : Int} {j k : Nat} (h : intBits a ≤ j) (hk : j ≤ k := by decide) : intBits a ≤ k := Nat.le_trans h hk

theorem Halves_up {M L y : Int} {j : Nat} (hj : (j : Int) ≤ L) : Halves M L y j ↔ M ≤ (if y < 0 then -y else y) * 2 ^ (L - (j : Int)).toNat := by
  have e : (y.natAbs : Int) = (if y < 0 then -y else y) := by split <;> omega
  have e2 : L.toNat = (L - (j : Int)).toNat + j := by omega
  have hp := two_pow_pos j
  unfold Halves
  rw [e, e2, Int.pow_add, ← Int.mul_assoc]
  exact Int.mul_le_mul_right hp
theorem Halves_down {M L y : Int} {j : Nat} (hL : 0 ≤ L) (hj : ¬ (j : Int) ≤ L) : Halves M L y j ↔ M ≤ (if y < 0 then -y else y).fdiv (2 ^ ((j : Int) - L).toNat) := by
  have e : (y.natAbs : Int) = (if y < 0 then -y else y) := by split <;> omega
  have e2 : j = ((j : Int) - L).toNat + L.toNat := by omega
  have hp := two_pow_pos L.toNat
  have hp2 := two_pow_pos ((j : Int) - L).toNat
  unfold Halves
  rw [Int.fdiv_eq_ediv_of_nonneg _ (Int.le_of_lt hp2), Int.le_ediv_iff_mul_le hp2, ← e]
  generalize ((j : Int) - L).toNat = d at *
  rw [e2, Int.pow_add, ← Int.mul_assoc]
  exact Int.mul_le_mul_right hp

/-- a size, told under a name of its own -/
structure Bd (k : Nat) (a : Int) : Prop where
  out : intBits a ≤ k
theorem abs_shl {a n : Int} {k : Nat} (h : intBits a ≤ k) (hn : n ≤ 100000) (hk : k ≤ 100000 := by decide) : (intBits (if a < 0 then -a else a) : Int) + n ≤ 2 ^ 27 := by
  have h2 : intBits (if a < 0 then -a else a) ≤ k := by
    split
    · exact intBits_neg_le h
    · exact h
  have e : (2 : Int) ^ 27 = 134217728 := by decide
  omega
theorem shl_ok {a n : Int} {k : Nat} (h : intBits a ≤ k) (hn : n ≤ 100000) (hk : k ≤ 100000 := by decide) : (intBits a : Int) + n ≤ 2 ^ 27 := by
  have e : (2 : Int) ^ 27 = 134217728 := by decide
  omega
theorem yH_turn {M x r : Int} {j R₁ : Nat} (h : IsRoot (M * (M + divN (yH M x j) (2 ^ (j : Int).toNat))) r) (hlt : j < R₁) :
    ∃ j' : Nat, (j : Int) + 1 = (j' : Int) ∧ j' ≤ R₁ ∧ divN (M * yH M x j * 2 ^ (1 : Int).toNat) (M + r) = yH M x j' := by
  refine ⟨j + 1, by omega, hlt, ?_⟩
  have e := sqrtN_of h
  subst e
  rfl

/-- the walk stands still before what is so marked -/
structure Stop (p : Prop) : Prop where
  out : p
theorem mul_ok {a b : Int} {j k : Nat} (ha : intBits a ≤ j) (hb : intBits b ≤ k) (h : j + k ≤ 100000 := by decide) : IntMulOk a b := IntMulOk.of_le ha hb (by omega)

theorem root_le {n r : Int} (h : IsRoot n r) : r ≤ n := by
  obtain ⟨h0, h1, h2⟩ := h
  rcases Int.lt_or_le n r with h | h
  · have : 0 ≤ (r - 1) * (r - 1) := int_sq_nonneg _
    have e : (r - 1) * (r - 1) = r * r - 2 * r + 1 := by grind
    omega
  · exact h
theorem root_bits {M d r : Int} {j k : Nat} (hM : 0 < M) (hM2 : intBits M ≤ j) (hd : 0 < d) (hd2 : intBits d ≤ k) (h : IsRoot (M * d) r) (hjk : j + k ≤ 8000 := by decide) : intBits (M + r) ≤ 9000 := by
  have hn : 0 < M * d := Int.mul_pos hM hd
  have h1 : intBits r ≤ j + k := bits_le_max (intBits_mul_le hM2 hd2) (intBits_mul_le hM2 hd2) h.1 (by have := root_le h; omega)
  refine Nat.le_trans (intBits_add_le hM2 h1) ?_
  omega

/-- how many terms of the series -/
def tOf (M L : Int) : Int := -((-10 * digs M) / (3 * L))
noncomputable def ilogF (M x L : Int) (R : Nat) : Int :=
  divN (wS M (divN (yH M x R) (2 ^ R)) (tOf M L) (tOf M L - 1).toNat * yH M x R) M

theorem digs_le {M : Int} {k : Nat} (hk : 0 < k) (h : intBits M ≤ k) : digs M ≤ k + 1 := by
  have h1 : M.natAbs.log2 < k := by
    unfold PySem.Builtin.Int.intBits at h
    by_cases hb : (M == 0) = true
    · have : M = 0 := by simpa using hb
      subst this; exact hk
    · rw [if_neg hb] at h; omega
  have h2 := int_text_length_le hk h1
  unfold digs
  rw [PySem.ofString_length]
  omega
theorem digs_nat (n : Nat) : digs (n : Int) = ((Nat.toDigits 10 n).length : Int) := by
  have h1 : (Str.ofString (toString (n : Int))).length = (Nat.toDigits 10 n).length := by
    rw [PySem.ofString_length]
    show (toString (n : Int)).length = _
    rw [show toString (n : Int) = toString n from rfl]
    show (Nat.repr n).length = _
    unfold Nat.repr
    simp
  unfold digs
  rw [h1]
theorem digs_iff {M : Int} (h0 : 0 ≤ M) {k : Nat} (hk : 0 < k) : digs M ≤ k ↔ M < 10 ^ k := by
  obtain ⟨n, rfl⟩ := Int.eq_ofNat_of_zero_le h0
  rw [digs_nat]
  have h2 := Nat.length_toDigits_le_iff (b := 10) (n := n) (by decide) hk
  constructor
  · intro h
    have h3 := h2.mp (by omega)
    exact_mod_cast h3
  · intro h
    have h3 : n < 10 ^ k := by exact_mod_cast h
    have := h2.mpr h3
    omega
theorem digs_pos {M : Int} (h0 : 0 ≤ M) : 0 < digs M := by
  obtain ⟨n, rfl⟩ := Int.eq_ofNat_of_zero_le h0
  rw [digs_nat]
  have := Nat.length_toDigits_pos (b := 10) (n := n)
  omega
theorem tOf_pos {M L : Int} (h0 : 0 ≤ M) (hL : 0 < L) : 0 < tOf M L := by
  have h1 := digs_pos h0
  unfold tOf
  have : (-10 * digs M) / (3 * L) < 0 := Int.ediv_neg_of_neg_of_pos (by omega) (by omega)
  omega
theorem tOf_le {M L : Int} {k : Nat} (hk : 0 < k) (hM : intBits M ≤ k) (hL : 0 < L) : tOf M L ≤ 10 * (k + 1) := by
  have h1 := digs_le hk hM
  unfold tOf
  have : (-10 * ((k : Int) + 1)) ≤ (-10 * digs M) / (3 * L) := by
    rw [Int.le_ediv_iff_mul_le (by omega)]
    have : (-10 * ((k : Int) + 1)) * (3 * L) ≤ (-10 * ((k : Int) + 1)) * 1 := Int.mul_le_mul_of_nonpos_left (by omega) (by omega)
    omega
  omega

section
variable {prog : Program} {w : World} {A : Around} {E : Value → Shared → Prop} {s : Shared}
theorem len_digs {M : Int} {t : Tok} {Q : Value → Shared → Prop} (hM : intBits M ≤ 1000) (h : Q (.int (digs M) (s.toks + 1)) { s with toks := s.toks + 1 + 1 }) : wpAny (model prog w) A (call (.builtin "len") [.str (Str.ofString (toString M)) t]) Q E s := by
  have h1 := digs_le (by decide) hM
  unfold digs at h1
  exact P.len_str (by omega) h
theorem mod_gen {a b : Int} {t u : Tok} {Q : Value → Shared → Prop} (hb : 0 < b) (h : ∀ r, 0 ≤ r → r < b → Q (.int r s.toks) { s with toks := s.toks + 1 }) : wpAny (model prog w) A (binaryOp .Mod (.int a t) (.int b u)) Q E s :=
  mod_int' (by omega) (h _ (Int.fmod_nonneg_of_pos a hb) (Int.fmod_lt_of_pos a hb))
theorem ne_same {a : Int} {t u : Tok} {Q : Value → Shared → Prop} (h : Q (.bool false) s) : wpAny (model prog w) A (compareOp .NotEq (.int a t) (.int a u)) Q E s := ne_int (by simpa using h)
theorem floordiv_pos {a b : Int} {t u : Tok} {Q : Value → Shared → Prop} (hb : 0 < b) (hb2 : intBits b ≤ 9000) (h : Q (.int (a / b) s.toks) { s with toks := s.toks + 1 }) : wpAny (model prog w) A (binaryOp .FloorDiv (.int a t) (.int b u)) Q E s :=
  floordiv_int (by omega) (by rw [Int.fdiv_eq_ediv_of_nonneg _ (Int.le_of_lt hb)]; exact h) (noPy hb2)
end

theorem bits_small {a : Int} {b : Int} (h : 0 < a) (h2 : a ≤ b) (hb : b ≤ 1000000000 := by decide) : intBits a ≤ 9000 := bits_mono (PySem.intBits_le_64 (by omega) (by omega))
theorem wS_turn {M ys T k : Int} {pre : List Int} (hk : k = T - 1 - (pre.length : Int)) : divN M k - divN (ys * wS M ys T pre.length) M = wS M ys T (pre ++ [k]).length := by
  rw [List.length_append, List.length_singleton, hk]
  rfl

theorem ilogF_of {M x L : Int} {j n : Nat} (h : n = (tOf M L - 1).toNat) : divN (wS M (divN (yH M x j) (2 ^ j)) (tOf M L) n * yH M x j) M = ilogF M x L j := by
  subst h; rfl

/-- the series of _iexp behind j turns -/
def eS (x Ms T : Int) : Nat → Int
  | 0 => divN x T
  | j + 1 => divN (x * (Ms + eS x Ms T j)) (Ms * (T - 1 - (j : Int)))
/-- the doublings of _iexp behind j turns, of R -/
def dS (M : Int) (R : Nat) (y : Int) : Nat → Int
  | 0 => y
  | j + 1 => divN (dS M R y j * (dS M R y j + M * 2 ^ (R - 1 - j + 2))) (M * 2 ^ (R - 1 - j + 2))
def rOf (M x L : Int) : Nat := intBits ((x * 2 ^ L.toNat) / M)
def iexpY (M x L : Int) : Int := eS x (M * 2 ^ rOf M x L) (tOf M L) (tOf M L - 1).toNat
def iexpF (M x L : Int) : Int := M + dS M (rOf M x L) (iexpY M x L) (rOf M x L)

theorem eS_turn {x Ms T k : Int} {pre : List Int} (hk : k = T - 1 - (pre.length : Int)) : divN (x * (Ms + eS x Ms T pre.length)) (Ms * k) = eS x Ms T (pre ++ [k]).length := by
  rw [List.length_append, List.length_singleton, hk]
  rfl
theorem dS_turn {M y k : Int} {R : Nat} {pre : List Int} (hk : k = (R : Int) - 1 - (pre.length : Int)) (hlt : pre.length < R) : divN (dS M R y pre.length * (dS M R y pre.length + M * 2 ^ (k + 2).toNat)) (M * 2 ^ (k + 2).toNat) = dS M R y (pre ++ [k]).length := by
  rw [List.length_append, List.length_singleton]
  have e : (k + 2).toNat = R - 1 - pre.length + 2 := by omega
  rw [e]
  rfl
theorem two_pow_bits (n : Nat) : intBits ((2 : Int) ^ n) ≤ n + 1 := by
  refine intBits_le_iff.mpr ?_
  rw [Int.natAbs_pow]
  exact Nat.pow_lt_pow_right (by decide) (by omega)
theorem shl_bits {M : Int} {k n c : Nat} (hM : intBits M ≤ k) (h : k + n + 1 ≤ c) : intBits (M * 2 ^ n) ≤ c := Nat.le_trans (intBits_mul_le hM (two_pow_bits n)) (by omega)
theorem shl_pos {M : Int} (hM : 0 < M) (n : Nat) : 0 < M * 2 ^ n := Int.mul_pos hM (two_pow_pos n)
theorem iexpY_of {M x L : Int} {n : Nat} (h : n = (tOf M L - 1).toNat) : eS x (M * 2 ^ rOf M x L) (tOf M L) n = iexpY M x L := by
  subst h; rfl
theorem iexpF_of {M x L : Int} {n : Nat} (h : n = rOf M x L) : M + dS M (rOf M x L) (iexpY M x L) n = iexpF M x L := by
  subst h; rfl

theorem gen_int {P : Int → Prop} (v : Int) (h : ∀ x, v = x → P x) : P v := h v rfl

end Mine

namespace Mine
open PySem.Builtin.Int (intBits)

theorem divN_spec {a b : Int} (hb : 0 < b) : -b ≤ 2 * (a - b * divN a b) ∧ 2 * (a - b * divN a b) ≤ b := by
  have h1 := Int.mul_ediv_add_emod a b
  have h2 := Int.emod_nonneg a (by omega : b ≠ 0)
  have h3 := Int.emod_lt_of_pos a hb
  unfold divN
  generalize a / b = q at *
  generalize a % b = r at *
  split
  · have e : b * (q + 1) = b * q + b := by rw [Int.mul_add, Int.mul_one]
    rw [e]
    omega
  · have e : b * (q + 0) = b * q := by rw [Int.add_zero]
    rw [e]
    omega

theorem divN_le {a b c : Int} (hb : 0 < b) (h : 2 * a < b * (2 * c + 1)) : divN a b ≤ c := by
  have h1 := (divN_spec (a := a) hb).1
  generalize divN a b = q at *
  rcases Int.lt_or_le c q with h2 | h2
  · have := Int.mul_le_mul_of_nonneg_left (show c + 1 ≤ q by omega) (Int.le_of_lt hb)
    grind
  · exact h2

theorem le_divN {a b c : Int} (hb : 0 < b) (h : b * (2 * c - 1) < 2 * a) : c ≤ divN a b := by
  have h1 := (divN_spec (a := a) hb).2
  generalize divN a b = q at *
  rcases Int.lt_or_le q c with h2 | h2
  · have := Int.mul_le_mul_of_nonneg_left (show q ≤ c - 1 by omega) (Int.le_of_lt hb)
    grind
  · exact h2

theorem divN_eq {a b c : Int} (hb : 0 < b) (h1 : b * (2 * c - 1) < 2 * a) (h2 : 2 * a < b * (2 * c + 1)) : divN a b = c :=
  Int.le_antisymm (divN_le hb h2) (le_divN hb h1)

theorem divN_le' {a b c : Int} (hb : 0 < b) (h : a ≤ b * c) : divN a b ≤ c := divN_le hb (by grind)
theorem le_divN' {a b c : Int} (hb : 0 < b) (h : b * c ≤ a) : c ≤ divN a b := le_divN hb (by grind)
theorem divN_one {a : Int} : divN a 1 = a := divN_eq (by decide) (by omega) (by omega)
theorem divN_zero {b : Int} (hb : 0 < b) : divN 0 b = 0 := divN_eq hb (by omega) (by omega)

theorem exists_first (P : Nat → Prop) : ∀ n, ¬ P n → ∃ r ≤ n, ¬ P r ∧ ∀ j < r, P j
  | 0, h => ⟨0, Nat.le_refl _, h, fun j hj => absurd hj (Nat.not_lt_zero j)⟩
  | n + 1, h => by
    by_cases hn : P n
    · by_cases hall : ∀ j < n + 1, P j
      · exact ⟨n + 1, Nat.le_refl _, h, hall⟩
      · obtain ⟨j, hj⟩ := Classical.not_forall.mp hall
        have hj1 : j < n + 1 := Classical.byContradiction fun h' => hj fun h'' => absurd h'' h'
        have hj2 : ¬ P j := fun h' => hj fun _ => h'
        have hjn : j < n := by
          rcases Nat.lt_or_ge j n with h' | h'
          · exact h'
          · have : j = n := by omega
            subst this; exact absurd hn hj2
        obtain ⟨r, h1, h2, h3⟩ := exists_first P j hj2
        exact ⟨r, by omega, h2, h3⟩
    · obtain ⟨r, h1, h2, h3⟩ := exists_first P n hn
      exact ⟨r, by omega, h2, h3⟩
termination_by n => n

theorem bits_abs {a b : Int} {k : Nat} (h1 : -b ≤ a) (h2 : a ≤ b) (hb : intBits b ≤ k) : intBits a ≤ k :=
  intBits_le_of_natAbs (y := b) (by omega) hb
theorem bits_lt {a : Int} {k : Nat} (h1 : -(2 ^ k) < a) (h2 : a < 2 ^ k) : intBits a ≤ k := by
  refine intBits_le_iff.mpr ?_
  have e : ((2 ^ k : Nat) : Int) = 2 ^ k := Int.natCast_pow 2 k
  omega
theorem root_exists_nat : ∀ n : Nat, ∃ r, IsRoot ((n : Int) + 1) r
  | 0 => ⟨1, by decide, by decide, by decide⟩
  | n + 1 => by
    obtain ⟨r, h0, h1, h2⟩ := root_exists_nat n
    rcases Int.lt_or_le ((n : Int) + 1) (r * r + r) with h | h
    · exact ⟨r, h0, by omega, by omega⟩
    · refine ⟨r + 1, by omega, ?_, ?_⟩
      · have : (r + 1) * (r + 1) = r * r + 2 * r + 1 := by grind
        omega
      · have : (r + 1) * (r + 1) = r * r + 2 * r + 1 := by grind
        omega
theorem sqrtN_spec {n : Int} (hn : 0 < n) : IsRoot n (sqrtN n) := by
  obtain ⟨r, hr⟩ := root_exists_nat (n - 1).toNat
  have e : (((n - 1).toNat : Nat) : Int) + 1 = n := by omega
  rw [e] at hr
  exact Classical.epsilon_spec (p := IsRoot n) ⟨r, hr⟩

end Mine

namespace Mine
open PySem.Builtin.Int (intBits)

theorem root_near {k M r s : Int} (hk : 100 ≤ k) (h1 : k * k ≤ M) (hr1 : -k ≤ r) (hr2 : r ≤ k) (hs : IsRoot (M * (M + r)) s) : M - k ≤ s ∧ s ≤ M + k := by
  obtain ⟨s0, s1, s2⟩ := hs
  have hM : 100 * k ≤ M := by
    have := Int.mul_le_mul_of_nonneg_right hk (show 0 ≤ k by omega)
    omega
  have a3 := Int.mul_le_mul_of_nonneg_left hk (show 0 ≤ M by omega)
  have a4 := int_sq_nonneg k
  constructor
  · rcases Int.lt_or_le s (M - k) with h | h
    · -- s ≤ M - k - 1
      have a1 := Int.mul_le_mul (show s ≤ M - k - 1 by omega) (show s + 1 ≤ M - k by omega) (by omega) (by omega)
      have a2 := Int.mul_le_mul_of_nonneg_left hr1 (show 0 ≤ M by omega)
      grind
    · exact h
  · rcases Int.lt_or_le (M + k) s with h | h
    · have a1 := Int.mul_le_mul (show M + k + 1 ≤ s by omega) (show M + k ≤ s - 1 by omega) (by omega) (by omega)
      have a2 := Int.mul_le_mul_of_nonneg_left hr2 (show 0 ≤ M by omega)
      grind
    · exact h

/-- a nearest quotient is no further from nought than what is divided -/
theorem divN_small {a b c : Int} (hb : 0 < b) (h1 : -c ≤ a) (h2 : a ≤ c) : -c ≤ divN a b ∧ divN a b ≤ c := by
  have hc : 0 ≤ c := by omega
  have e : c ≤ b * c := by
    have := Int.mul_le_mul_of_nonneg_right (show 1 ≤ b by omega) hc
    omega
  constructor
  · refine le_divN' hb ?_
    have : b * -c = -(b * c) := Int.mul_neg b c
    omega
  · exact divN_le' hb (by omega)

/-- with a distance below the root a halving leaves y as it stands -/
theorem halve_still {k M d : Int} (hk : 100 ≤ k) (h1 : k * k ≤ M) (hd1 : -k < d) (hd2 : d < k) : ∀ R, yH M (M + d) R = d
  | 0 => by show M + d - M = d; omega
  | R + 1 => by
    have ih := halve_still hk h1 hd1 hd2 R
    have hM : 100 * k ≤ M := by
      have := Int.mul_le_mul_of_nonneg_right hk (show 0 ≤ k by omega)
      omega
    show divN (M * yH M (M + d) R * 2) (M + sqrtN (M * (M + divN (yH M (M + d) R) (2 ^ R)))) = d
    rw [ih]
    obtain ⟨r1, r2⟩ := divN_small (a := d) (c := k) (two_pow_pos R) (by omega) (by omega)
    generalize divN d (2 ^ R) = r at r1 r2 ⊢
    obtain ⟨s1, s2⟩ := root_near hk h1 r1 r2 (sqrtN_spec (Int.mul_pos (by omega) (by omega)))
    generalize sqrtN (M * (M + r)) = s at s1 s2 ⊢
    -- 2 |d (M - s)| < M + s
    have b1 : 2 * (d * (M - s)) < M + s := by
      have c1 : d * (M - s) ≤ (k - 1) * k := by
        rcases Int.le_total 0 (M - s) with h | h
        · have := Int.mul_le_mul_of_nonneg_right (show d ≤ k - 1 by omega) h
          have := Int.mul_le_mul_of_nonneg_left (show M - s ≤ k by omega) (show 0 ≤ k - 1 by omega)
          omega
        · have := Int.mul_le_mul_of_nonpos_right (show -(k - 1) ≤ d by omega) h
          have := Int.mul_le_mul_of_nonneg_left (show s - M ≤ k by omega) (show 0 ≤ k - 1 by omega)
          grind
      grind
    have b2 : 2 * (d * (s - M)) < M + s := by
      have c1 : d * (s - M) ≤ (k - 1) * k := by
        rcases Int.le_total 0 (s - M) with h | h
        · have := Int.mul_le_mul_of_nonneg_right (show d ≤ k - 1 by omega) h
          have := Int.mul_le_mul_of_nonneg_left (show s - M ≤ k by omega) (show 0 ≤ k - 1 by omega)
          omega
        · have := Int.mul_le_mul_of_nonpos_right (show -(k - 1) ≤ d by omega) h
          have := Int.mul_le_mul_of_nonneg_left (show M - s ≤ k by omega) (show 0 ≤ k - 1 by omega)
          grind
      grind
    exact divN_eq (by omega) (by grind) (by grind)

theorem mul_abs {a b A B : Int} (a1 : -A ≤ a) (a2 : a ≤ A) (b1 : -B ≤ b) (b2 : b ≤ B) : -(A * B) ≤ a * b ∧ a * b ≤ A * B := by
  have h1 := Int.mul_nonneg (show 0 ≤ A - a by omega) (show 0 ≤ B + b by omega)
  have h2 := Int.mul_nonneg (show 0 ≤ A + a by omega) (show 0 ≤ B - b by omega)
  have h3 := Int.mul_nonneg (show 0 ≤ A - a by omega) (show 0 ≤ B - b by omega)
  have h4 := Int.mul_nonneg (show 0 ≤ A + a by omega) (show 0 ≤ B + b by omega)
  constructor <;> grind

theorem divN_abs {a b c : Int} (hb : 0 < b) (h1 : -(c * b) ≤ a) (h2 : a ≤ c * b) : -c ≤ divN a b ∧ divN a b ≤ c :=
  ⟨le_divN' hb (by grind), divN_le' hb (by grind)⟩

/-- M / i for i from 2 on -/
theorem part_le {M i : Int} (hM : 0 < M) (hi : 2 ≤ i) : 0 ≤ divN M i ∧ 2 * divN M i ≤ M + 1 := by
  have h1 := (divN_spec (a := M) (b := i) (by omega)).1
  have h0 : 0 ≤ divN M i := le_divN' (by omega) (by rw [Int.mul_zero]; omega)
  generalize divN M i = q at *
  refine ⟨h0, ?_⟩
  rcases Int.lt_or_le (M + 1) (2 * q) with h | h
  · have a1 := Int.mul_le_mul_of_nonneg_left (show M + 2 ≤ 2 * q by omega) (show 0 ≤ i by omega)
    have a2 := Int.mul_le_mul_of_nonneg_right hi (show 0 ≤ M by omega)
    grind
  · exact h
theorem part3 {M : Int} (hM : 0 < M) : 3 * divN M 3 ≤ M + 1 ∧ M - 1 ≤ 3 * divN M 3 := by
  have h1 := divN_spec (a := M) (b := 3) (by decide)
  omega
theorem part2 {M : Int} (hM : 0 < M) : 2 * divN M 2 ≤ M + 1 ∧ M - 1 ≤ 2 * divN M 2 := by
  have h1 := divN_spec (a := M) (b := 2) (by decide)
  omega

theorem wS_le {M ys T K : Int} (hM : 0 < M) (hK : 4 * K + 4 ≤ M) (hT : 1 ≤ T) (y1 : -K ≤ ys) (y2 : ys ≤ K) : ∀ j : Nat, (j : Int) + 2 ≤ T ∨ j = 0 → -M ≤ wS M ys T j ∧ wS M ys T j ≤ M
  | 0, _ => divN_small (by omega) (by omega) (by omega)
  | j + 1, hj => by
    have hj' : ((j + 1 : Nat) : Int) + 2 ≤ T := by omega
    obtain ⟨w1, w2⟩ := wS_le hM hK hT y1 y2 j (by omega)
    obtain ⟨p1, p2⟩ := part_le (i := T - 1 - (j : Int)) hM (by omega)
    obtain ⟨q1, q2⟩ := mul_abs y1 y2 w1 w2
    obtain ⟨t1, t2⟩ := divN_abs (a := ys * wS M ys T j) (c := K) hM q1 q2
    show -M ≤ divN M (T - 1 - (j : Int)) - divN (ys * wS M ys T j) M ∧ divN M (T - 1 - (j : Int)) - divN (ys * wS M ys T j) M ≤ M
    omega

theorem wS_succ {M ys T : Int} {j : Nat} : wS M ys T (j + 1) = divN M (T - 1 - (j : Int)) - divN (ys * wS M ys T j) M := rfl

/-- the third sum from the last -/
theorem wS_three {M ys T K : Int} (hM : 0 < M) (hK : 4 * K + 4 ≤ M) (hT : 3 ≤ T) (y1 : -K ≤ ys) (y2 : ys ≤ K) : M - 1 - 3 * K ≤ 3 * wS M ys T (T - 3).toNat ∧ 3 * wS M ys T (T - 3).toNat ≤ M + 1 + 3 * K := by
  have h3 := part3 hM
  rcases Int.lt_or_le 3 T with h | h
  · obtain ⟨j, hj⟩ : ∃ j : Nat, (T - 3).toNat = j + 1 := ⟨(T - 4).toNat, by omega⟩
    obtain ⟨w1, w2⟩ := wS_le (T := T) hM hK (by omega) y1 y2 j (by omega)
    obtain ⟨q1, q2⟩ := mul_abs y1 y2 w1 w2
    obtain ⟨t1, t2⟩ := divN_abs (a := ys * wS M ys T j) (c := K) hM q1 q2
    rw [hj, wS_succ, show T - 1 - (j : Int) = 3 by omega]
    omega
  · have e : T = 3 := by omega
    subst e
    show M - 1 - 3 * K ≤ 3 * divN M 3 ∧ 3 * divN M 3 ≤ M + 1 + 3 * K
    omega

theorem wS_two {M ys T : Int} (hT : 3 ≤ T) : wS M ys T (T - 2).toNat = divN M 2 - divN (ys * wS M ys T (T - 3).toNat) M := by
  have e : (T - 2).toNat = (T - 3).toNat + 1 := by omega
  rw [e, wS_succ, show T - 1 - (((T - 3).toNat : Nat) : Int) = 2 by omega]
theorem wS_one {M ys T : Int} (hT : 2 ≤ T) : wS M ys T (T - 1).toNat = M - divN (ys * wS M ys T (T - 2).toNat) M := by
  have e : (T - 1).toNat = (T - 2).toNat + 1 := by omega
  rw [e, wS_succ, show T - 1 - (((T - 2).toNat : Nat) : Int) = 1 by omega, divN_one]

theorem big_M {k M : Int} (hk : 100 ≤ k) (h1 : k * k ≤ M) : 100 * k ≤ M := by
  have := Int.mul_le_mul_of_nonneg_right hk (show 0 ≤ k by omega)
  omega

/-- the second sum from the last, with a distance below the root -/
theorem wS_two_le {k M ys T : Int} (hk : 100 ≤ k) (h1 : k * k ≤ M) (hT : 2 ≤ T) (y1 : -(k - 1) ≤ ys) (y2 : ys ≤ k - 1) :
    -(M + k) ≤ 2 * wS M ys T (T - 2).toNat ∧ 2 * wS M ys T (T - 2).toNat ≤ M + k := by
  have hM := big_M hk h1
  have h2 := part2 (M := M) (by omega)
  rcases Int.lt_or_le 2 T with h | h
  · rw [wS_two (by omega)]
    obtain ⟨w1, w2⟩ := wS_three (M := M) (T := T) (K := k - 1) (by omega) (by omega) (by omega) y1 y2
    generalize wS M ys T (T - 3).toNat = W at *
    obtain ⟨q1, q2⟩ := mul_abs y1 y2 (show -(M + 1 + 3 * (k - 1)) ≤ 3 * W by omega) w2
    have sp := divN_spec (a := ys * W) (b := M) (by omega)
    generalize divN (ys * W) M = u at *
    have hint := Int.mul_le_mul_of_nonneg_left hM (show 0 ≤ k - 1 by omega)
    have u1 : 2 * u ≤ k - 1 := by
      rcases Int.lt_or_le (k - 1) (2 * u) with h' | h'
      · have a1 := Int.mul_le_mul_of_nonneg_left (show k ≤ 2 * u by omega) (show 0 ≤ M by omega)
        grind
      · exact h'
    have u2 : -(k - 1) ≤ 2 * u := by
      rcases Int.lt_or_le (2 * u) (-(k - 1)) with h' | h'
      · have a1 := Int.mul_le_mul_of_nonneg_left (show 2 * u ≤ -k by omega) (show 0 ≤ M by omega)
        grind
      · exact h'
    omega
  · have e : T = 2 := by omega
    subst e
    show -(M + k) ≤ 2 * divN M 2 ∧ 2 * divN M 2 ≤ M + k
    omega

theorem ilog_still {k M d L : Int} (hk : 100 ≤ k) (h1 : k * k ≤ M) (hd1 : -k < d) (hd2 : d < k) (hL : 0 < L) (R : Nat) : ilogF M (M + d) L R = d := by
  have hM := big_M hk h1
  have hT := tOf_pos (M := M) (L := L) (by omega) hL
  unfold ilogF
  rw [halve_still hk h1 hd1 hd2]
  obtain ⟨y1, y2⟩ := divN_small (a := d) (c := k - 1) (two_pow_pos R) (by omega) (by omega)
  generalize divN d (2 ^ R) = ys at *
  generalize tOf M L = T at *
  rcases Int.lt_or_le 1 T with h | h
  · rw [wS_one (by omega)]
    obtain ⟨w1, w2⟩ := wS_two_le hk h1 (show 2 ≤ T by omega) y1 y2
    generalize wS M ys T (T - 2).toNat = W at *
    obtain ⟨q1, q2⟩ := mul_abs y1 y2 w1 w2
    have sp := divN_spec (a := ys * W) (b := M) (by omega)
    generalize divN (ys * W) M = t at *
    have t1 : 2 * t ≤ k := by
      rcases Int.lt_or_le k (2 * t) with h' | h'
      · have a1 := Int.mul_le_mul_of_nonneg_left (show k + 1 ≤ 2 * t by omega) (show 0 ≤ M by omega)
        grind
      · exact h'
    have t2 : -k ≤ 2 * t := by
      rcases Int.lt_or_le (2 * t) (-k) with h' | h'
      · have a1 := Int.mul_le_mul_of_nonneg_left (show 2 * t ≤ -k - 1 by omega) (show 0 ≤ M by omega)
        grind
      · exact h'
    obtain ⟨r1, r2⟩ := mul_abs t2 t1 (show -(k - 1) ≤ d by omega) (show d ≤ k - 1 by omega)
    exact divN_eq (by omega) (by grind) (by grind)
  · have e : T = 1 := by omega
    subst e
    show divN (divN M 1 * d) M = d
    rw [divN_one]
    exact divN_eq (by omega) (by grind) (by grind)

theorem wS_all {M ys T K : Int} (hM : 0 < M) (hK : 4 * K + 4 ≤ M) (hT : 1 ≤ T) (y1 : -K ≤ ys) (y2 : ys ≤ K) (j : Nat) (hj : (j : Int) < T) : -(2 * M) ≤ wS M ys T j ∧ wS M ys T j ≤ 2 * M := by
  rcases j with _ | j
  · have := wS_le (T := T) hM hK hT y1 y2 0 (.inr rfl)
    omega
  · obtain ⟨w1, w2⟩ := wS_le (T := T) hM hK hT y1 y2 j (by omega)
    obtain ⟨p1, p2⟩ := divN_small (a := M) (b := T - 1 - (j : Int)) (c := M) (by omega) (by omega) (by omega)
    obtain ⟨q1, q2⟩ := mul_abs y1 y2 w1 w2
    obtain ⟨t1, t2⟩ := divN_abs (a := ys * wS M ys T j) (c := K) hM q1 q2
    rw [wS_succ]
    omega

theorem bits_M {k M : Int} (hk0 : 0 ≤ k) (hk2 : k ≤ 2 ^ 34) (h2 : M ≤ k * k + 2 * k) (h0 : 0 < M) : intBits (4 * M) ≤ 75 := by
  have h1 := Int.mul_le_mul hk2 hk2 hk0 (by decide)
  refine bits_lt ?_ ?_
  · have : (0 : Int) < 2 ^ 75 := by decide
    omega
  · have e1 : (2 : Int) ^ 75 = 37778931862957161709568 := by decide
    have e2 : (2 : Int) ^ 34 * 2 ^ 34 = 295147905179352825856 := by decide
    have e3 : (2 : Int) ^ 34 = 17179869184 := by decide
    omega

theorem pre04_ilog {k M d L : Int} (hk : 100 ≤ k) (hk2 : k ≤ 2 ^ 34) (h1 : k * k ≤ M) (h2 : M ≤ k * k + 2 * k) (hd1 : -k < d) (hd2 : d < k) (hL : 0 < L) (hL2 : L ≤ 100) :
    ∃ R₁ : Nat, R₁ ≤ 1000 ∧ (∀ R < R₁, Halves M L (yH M (M + d) R) R ∧ 0 < M + divN (yH M (M + d) R) (2 ^ R)) ∧ ¬ Halves M L (yH M (M + d) R₁) R₁ ∧ (∀ R ≤ R₁, intBits (yH M (M + d) R) ≤ 3000) ∧
      (∀ j : Nat, (j : Int) < tOf M L → intBits (wS M (divN (yH M (M + d) R₁) (2 ^ R₁)) (tOf M L) j) ≤ 3000) ∧ ilogF M (M + d) L R₁ = d := by
  have hM := big_M hk h1
  have hb := bits_M (by omega) hk2 h2 (by omega)
  obtain ⟨R, r1, r2, r3⟩ := exists_first (fun R => Halves M L d R) L.toNat (by
    unfold Halves
    have := Int.mul_lt_mul_of_pos_right (show (d.natAbs : Int) < M by omega) (two_pow_pos L.toNat)
    omega)
  have hy := halve_still hk h1 hd1 hd2
  obtain ⟨y1, y2⟩ := divN_small (a := d) (c := k - 1) (two_pow_pos R) (by omega) (by omega)
  refine ⟨R, by omega, fun j hj => ⟨by rw [hy]; exact r3 j hj, ?_⟩, by rw [hy]; exact r2, fun j _ => ?_, fun j hj => ?_, ilog_still hk h1 hd1 hd2 hL R⟩
  · rw [hy]
    have := divN_small (a := d) (c := k - 1) (two_pow_pos j) (by omega) (by omega)
    omega
  · rw [hy]
    exact bits_mono (bits_abs (b := 4 * M) (by omega) (by omega) hb)
  · rw [hy]
    have := wS_all (M := M) (K := k - 1) (by omega) (by omega) (tOf_pos (M := M) (by omega) hL) y1 y2 j hj
    exact bits_mono (bits_abs (b := 4 * M) (by omega) (by omega) hb)

/-! _iexp, a distance below the root -/
theorem eS_succ {x Ms T : Int} {j : Nat} : eS x Ms T (j + 1) = divN (x * (Ms + eS x Ms T j)) (Ms * (T - 1 - (j : Int))) := rfl

/-- no sum is further from nought than x, with x * x less than the scale -/
theorem eS_le {x Ms T c : Int} (x1 : -c ≤ x) (x2 : x ≤ c) (hx : c ≤ Ms) (hMs : 0 < Ms) (hT : 1 ≤ T) : ∀ j : Nat, (j : Int) + 2 ≤ T ∨ j = 0 → -c ≤ eS x Ms T j ∧ eS x Ms T j ≤ c
  | 0, _ => divN_small (by omega) x1 x2
  | j + 1, hj => by
    obtain ⟨e1, e2⟩ := eS_le x1 x2 hx hMs hT j (by omega)
    have hc : 0 ≤ c := by omega
    rw [eS_succ]
    generalize eS x Ms T j = y at *
    have hi : 2 ≤ T - 1 - (j : Int) := by omega
    generalize T - 1 - (j : Int) = i at *
    obtain ⟨m1, m2⟩ := mul_abs x1 x2 e1 e2
    have p1 := Int.mul_le_mul_of_nonneg_right x1 (Int.le_of_lt hMs)
    have p2 := Int.mul_le_mul_of_nonneg_right x2 (Int.le_of_lt hMs)
    have p3 := Int.mul_le_mul_of_nonneg_left hx hc
    have p4 := Int.mul_le_mul_of_nonneg_left hi (Int.mul_nonneg hc (Int.le_of_lt hMs))
    exact divN_abs (Int.mul_pos hMs (by omega)) (by grind) (by grind)

theorem eS_two {x Ms T : Int} (hT : 3 ≤ T) : eS x Ms T (T - 2).toNat = divN (x * (Ms + eS x Ms T (T - 3).toNat)) (Ms * 2) := by
  have e : (T - 2).toNat = (T - 3).toNat + 1 := by omega
  rw [e, eS_succ, show T - 1 - (((T - 3).toNat : Nat) : Int) = 2 by omega]
theorem eS_one {x Ms T : Int} (hT : 2 ≤ T) : eS x Ms T (T - 1).toNat = divN (x * (Ms + eS x Ms T (T - 2).toNat)) Ms := by
  have e : (T - 1).toNat = (T - 2).toNat + 1 := by omega
  rw [e, eS_succ, show T - 1 - (((T - 2).toNat : Nat) : Int) = 1 by omega, Int.mul_one]

theorem eS_two_le {k Ms T d : Int} (hk : 100 ≤ k) (h1 : k * k ≤ Ms) (hT : 2 ≤ T) (d1 : -(k - 1) ≤ d) (d2 : d ≤ k - 1) : -k ≤ 2 * eS d Ms T (T - 2).toNat ∧ 2 * eS d Ms T (T - 2).toNat ≤ k := by
  have hM := big_M hk h1
  rcases Int.lt_or_le 2 T with h | h
  · rw [eS_two (by omega)]
    obtain ⟨e1, e2⟩ := eS_le (Ms := Ms) (T := T) d1 d2 (by omega) (by omega) (by omega) (T - 3).toNat (by omega)
    generalize eS d Ms T (T - 3).toNat = y at *
    obtain ⟨m1, m2⟩ := mul_abs d1 d2 e1 e2
    have sp := divN_spec (a := d * (Ms + y)) (b := Ms * 2) (by omega)
    generalize divN (d * (Ms + y)) (Ms * 2) = t at *
    have p1 := Int.mul_le_mul_of_nonneg_right d1 (show 0 ≤ Ms by omega)
    have p2 := Int.mul_le_mul_of_nonneg_right d2 (show 0 ≤ Ms by omega)
    constructor
    · rcases Int.lt_or_le (2 * t) (-k) with h' | h'
      · have a1 := Int.mul_le_mul_of_nonneg_left (show 2 * t ≤ -k - 1 by omega) (show 0 ≤ Ms by omega)
        grind
      · exact h'
    · rcases Int.lt_or_le k (2 * t) with h' | h'
      · have a1 := Int.mul_le_mul_of_nonneg_left (show k + 1 ≤ 2 * t by omega) (show 0 ≤ Ms by omega)
        grind
      · exact h'
  · have e : T = 2 := by omega
    subst e
    show -k ≤ 2 * divN d 2 ∧ 2 * divN d 2 ≤ k
    have := divN_spec (a := d) (b := 2) (by decide)
    omega

theorem eS_still {k Ms T d : Int} (hk : 100 ≤ k) (h1 : k * k ≤ Ms) (hT : 1 ≤ T) (d1 : -(k - 1) ≤ d) (d2 : d ≤ k - 1) : eS d Ms T (T - 1).toNat = d := by
  have hM := big_M hk h1
  rcases Int.lt_or_le 1 T with h | h
  · rw [eS_one (by omega)]
    obtain ⟨e1, e2⟩ := eS_two_le hk h1 (show 2 ≤ T by omega) d1 d2
    generalize eS d Ms T (T - 2).toNat = y at *
    obtain ⟨m1, m2⟩ := mul_abs d1 d2 e1 e2
    exact divN_eq (by omega) (by grind) (by grind)
  · have e : T = 1 := by omega
    subst e
    exact divN_one

theorem dS_succ {M y : Int} {R j : Nat} : dS M R y (j + 1) = divN (dS M R y j * (dS M R y j + M * 2 ^ (R - 1 - j + 2))) (M * 2 ^ (R - 1 - j + 2)) := rfl
theorem two_pow_ge1 (n : Nat) : (1 : Int) ≤ 2 ^ n := two_pow_pos n
theorem dS_still {k M d : Int} (hk : 100 ≤ k) (h1 : k * k ≤ M) (d1 : -(k - 1) ≤ d) (d2 : d ≤ k - 1) (R : Nat) : ∀ j, dS M R d j = d
  | 0 => rfl
  | j + 1 => by
    rw [dS_succ, dS_still hk h1 d1 d2 R j]
    have hM := big_M hk h1
    have e : M * 2 ^ (R - 1 - j + 2) = 4 * (M * 2 ^ (R - 1 - j)) := by rw [Int.pow_add]; grind
    rw [e]
    have hp := Int.mul_le_mul_of_nonneg_left (two_pow_ge1 (R - 1 - j)) (show 0 ≤ M by omega)
    generalize M * 2 ^ (R - 1 - j) = m at *
    obtain ⟨m1, m2⟩ := mul_abs d1 d2 d1 d2
    have := int_sq_nonneg d
    exact divN_eq (by omega) (by grind) (by grind)

theorem rOf_le {M x L : Int} (hM : 0 < M) (h1 : -M < x) (h2 : x < M) : rOf M x L ≤ L.toNat + 1 := by
  unfold rOf
  have hp := two_pow_pos L.toNat
  have a1 := Int.mul_lt_mul_of_pos_right h1 hp
  have a2 := Int.mul_lt_mul_of_pos_right h2 hp
  have e : (2 : Int) ^ (L.toNat + 1) = 2 * 2 ^ L.toNat := by rw [Int.pow_succ]; omega
  refine bits_lt ?_ ?_
  · have b : -(2 ^ L.toNat) ≤ x * 2 ^ L.toNat / M := (Int.le_ediv_iff_mul_le hM).mpr (by grind)
    omega
  · have b : x * 2 ^ L.toNat / M < 2 ^ L.toNat := Int.ediv_lt_of_lt_mul hM (by grind)
    omega

theorem pre04_iexp {k M d L : Int} (hk : 100 ≤ k) (hk2 : k ≤ 2 ^ 34) (h1 : k * k ≤ M) (h2 : M ≤ k * k + 2 * k) (hd1 : -k < d) (hd2 : d < k) (hL : 0 < L) (hL2 : L ≤ 100) :
    intBits d ≤ 2000 ∧ rOf M d L ≤ 1000 ∧ (∀ j : Nat, (j : Int) < tOf M L → intBits (eS d (M * 2 ^ rOf M d L) (tOf M L) j) ≤ 3000) ∧
      (∀ j : Nat, j ≤ rOf M d L → intBits (dS M (rOf M d L) (iexpY M d L) j) ≤ 3000) ∧ iexpF M d L = M + d := by
  have hM := big_M hk h1
  have hb := bits_M (by omega) hk2 h2 (by omega)
  have hT := tOf_pos (M := M) (L := L) (by omega) hL
  have hdb : intBits d ≤ 75 := bits_abs (b := 4 * M) (by omega) (by omega) hb
  have hp := Int.mul_le_mul_of_nonneg_left (two_pow_ge1 (rOf M d L)) (show 0 ≤ M by omega)
  have hMs : k * k ≤ M * 2 ^ rOf M d L := by omega
  have eY : iexpY M d L = d := eS_still hk hMs hT (by omega) (by omega)
  have hr := rOf_le (L := L) (show 0 < M by omega) (show -M < d by omega) (by omega)
  refine ⟨bits_mono hdb, by omega, fun j hj => ?_, fun j _ => ?_, ?_⟩
  · rcases Int.lt_or_le ((j : Int) + 1) (tOf M L) with h | h
    · obtain ⟨e1, e2⟩ := eS_le (x := d) (Ms := M * 2 ^ rOf M d L) (T := tOf M L) (c := k - 1) (by omega) (by omega) (by omega) (by omega) (by omega) j (by omega)
      exact bits_mono (bits_abs (b := 4 * M) (by omega) (by omega) hb)
    · have e : j = (tOf M L - 1).toNat := by omega
      subst e
      rw [show eS d (M * 2 ^ rOf M d L) (tOf M L) (tOf M L - 1).toNat = d from eY]
      exact bits_mono hdb
  · rw [eY, dS_still hk h1 (by omega) (by omega)]
    exact bits_mono hdb
  · unfold iexpF
    rw [eY, dS_still hk h1 (by omega) (by omega)]

/-! without a halving: distances from the root to half as much again -/
theorem three_terms {k M n b : Int} (hk : 100 ≤ k) (h1 : k * k ≤ M) (h2 : M ≤ k * k + 2 * k) (hn : k + 2 ≤ n) (hb : 0 < b) (h : n * 2 ^ b.toNat < M) : 3 ≤ tOf M b := by
  -- 2 ^ b < k
  have hM := big_M hk h1
  have c1 : (2 : Int) ^ b.toNat < k := by
    rcases Int.lt_or_le (2 ^ b.toNat) k with h' | h'
    · exact h'
    · have := Int.mul_le_mul hn h' (by omega) (by omega)
      grind
  have c2 : (2 : Int) ^ (2 * b.toNat) < M := by
    have := Int.mul_lt_mul_of_pos_right c1 (two_pow_pos b.toNat)
    have := Int.mul_lt_mul_of_pos_left c1 (show 0 < k by omega)
    have e : (2 : Int) ^ (2 * b.toNat) = 2 ^ b.toNat * 2 ^ b.toNat := by rw [Nat.two_mul, Int.pow_add]
    omega
  obtain ⟨m, hm⟩ := Int.eq_ofNat_of_zero_le (show 0 ≤ M by omega)
  obtain ⟨D, hD⟩ := Int.eq_ofNat_of_zero_le (show 0 ≤ digs M from Int.le_of_lt (digs_pos (by omega)))
  have hD0 : 0 < D := by have := digs_pos (M := M) (by omega); omega
  have c3 := (digs_iff (M := M) (by omega) hD0).mp (by omega)
  have c4 : (2 : Int) ^ (2 * b.toNat) < 10 ^ D := by omega
  have c5 : (2 : Nat) ^ (2 * b.toNat) < 10 ^ D := by exact_mod_cast c4
  rcases Int.lt_or_le 2 (tOf M b) with h' | h'
  · exact h'
  · exfalso
    have d1 : -2 ≤ (-10 * digs M) / (3 * b) := by unfold tOf at h'; omega
    have d2 := (Int.le_ediv_iff_mul_le (show 0 < 3 * b by omega)).mp d1
    have d3 : 10 * D ≤ 6 * b.toNat := by omega
    have e1 : (2 ^ (2 * b.toNat)) ^ 3 < (10 ^ D) ^ 3 := Nat.pow_lt_pow_left c5 (by decide)
    have e2 : (2 ^ (2 * b.toNat)) ^ 3 = 2 ^ (6 * b.toNat) := by rw [← Nat.pow_mul]; congr 1; omega
    have e3 : 2 ^ (10 * D) ≤ 2 ^ (6 * b.toNat) := Nat.pow_le_pow_right (by decide) d3
    have e4 : 2 ^ (10 * D) = 1024 ^ D := by rw [Nat.pow_mul]
    have e5 : (10 ^ D) ^ 3 = 1000 ^ D := by rw [← Nat.pow_mul, Nat.mul_comm, Nat.pow_mul]
    have e6 : 1000 ^ D ≤ 1024 ^ D := Nat.pow_le_pow_left (by decide) D
    omega

/-- what the logarithm bends by, at a distance d: its last term t stands between half of M and three halves, by d -/
theorem ilog_bent {M d t : Int} (hM : 0 < M) (h1 : M < 2 * (t * d)) (h2 : 2 * (t * d) < 3 * M) : divN ((M - t) * d) M = d - 1 :=
  divN_eq hM (by grind) (by grind)

theorem wS_u_pos {k M d T : Int} (hk : 100 ≤ k) (h1 : k * k ≤ M) (hT : 3 ≤ T) (d1 : k < d) (d2 : 2 * d ≤ 3 * k) :
    0 ≤ divN (d * wS M d T (T - 3).toNat) M ∧ 6 * (M * divN (d * wS M d T (T - 3).toNat) M) ≤ 2 * (d * (M + 1 + 3 * d)) + 3 * M := by
  have hM := big_M hk h1
  obtain ⟨w1, w2⟩ := wS_three (M := M) (T := T) (K := d) (by omega) (by omega) (by omega) (show -d ≤ d by omega) (Int.le_refl d)
  generalize wS M d T (T - 3).toNat = W at *
  have sp := divN_spec (a := d * W) (b := M) (by omega)
  have p1 := Int.mul_le_mul_of_nonneg_left w2 (show 0 ≤ d by omega)
  have p0 : 0 ≤ d * W := Int.mul_nonneg (by omega) (by omega)
  refine ⟨le_divN' (by omega) (by omega), ?_⟩
  generalize divN (d * W) M = u at *
  grind

/-- squares of what is at most half as much again as k -/
theorem sq_half {k M d : Int} (h0 : 0 ≤ d) (h1 : k * k ≤ M) (d2 : 2 * d ≤ 3 * k) : 4 * (d * d) ≤ 9 * (k * k) := by
  have := Int.mul_le_mul d2 d2 (by omega) (by omega)
  grind

theorem ilog_pos {k M d T : Int} (hk : 100 ≤ k) (h1 : k * k ≤ M) (h2 : M ≤ k * k + 2 * k) (hT : 3 ≤ T) (d1 : k + 2 ≤ d) (d2 : 2 * d ≤ 3 * k) : divN (wS M d T (T - 1).toNat * d) M = d - 1 := by
  have hM := big_M hk h1
  have hsq := sq_half (by omega) h1 d2
  obtain ⟨u1, u2⟩ := wS_u_pos (T := T) hk h1 hT (by omega) d2
  have m2 := part2 (M := M) (by omega)
  rw [wS_one (by omega), wS_two hT]
  generalize divN (d * wS M d T (T - 3).toNat) M = u at *
  generalize divN M 2 = h at *
  have u3 : 6 * u ≤ 2 * d + 17 := by
    rcases Int.lt_or_le (2 * d + 17) (6 * u) with h' | h'
    · have a1 := Int.mul_le_mul_of_nonneg_left (show 2 * d + 18 ≤ 6 * u by omega) (show 0 ≤ M by omega)
      grind
    · exact h'
  have sp := divN_spec (a := d * (h - u)) (b := M) (by omega)
  generalize divN (d * (h - u)) M = t at *
  have e1 := Int.mul_le_mul_of_nonneg_left (show 2 * (h - u) ≤ M + 1 by omega) (show 0 ≤ d by omega)
  have e2 := Int.mul_le_mul_of_nonneg_left (show M - 1 - 2 * u ≤ 2 * (h - u) by omega) (show 0 ≤ d by omega)
  have e3 := Int.mul_le_mul_of_nonneg_left u3 (show 0 ≤ d by omega)
  have t1 : k + 1 ≤ 2 * t := by
    rcases Int.lt_or_le (2 * t) (k + 1) with h' | h'
    · have a1 := Int.mul_le_mul_of_nonneg_left (show 2 * t ≤ k by omega) (show 0 ≤ M by omega)
      have a2 : 3 * ((d - k - 1) * M) ≤ 2 * (d * d) + 20 * d := by grind
      rcases Int.lt_or_le (k + 2) d with h'' | h''
      · have a3 := Int.mul_le_mul_of_nonneg_right (show 2 ≤ d - k - 1 by omega) (show 0 ≤ M by omega)
        have a4 := Int.mul_le_mul_of_nonneg_right hk (show 0 ≤ k by omega)
        grind
      · have e : d = k + 2 := by omega
        subst e
        have a4 := Int.mul_le_mul_of_nonneg_right hk (show 0 ≤ k by omega)
        grind
    · exact h'
  have t2 : 2 * t ≤ d + 1 := by
    rcases Int.lt_or_le (d + 1) (2 * t) with h' | h'
    · have a1 := Int.mul_le_mul_of_nonneg_left (show d + 2 ≤ 2 * t by omega) (show 0 ≤ M by omega)
      grind
    · exact h'
  have f1 := Int.mul_le_mul t1 d1 (by omega) (by omega)
  have f2 := Int.mul_le_mul_of_nonneg_right t2 (show 0 ≤ d by omega)
  have a4 := Int.mul_le_mul_of_nonneg_right hk (show 0 ≤ k by omega)
  exact ilog_bent (by omega) (by grind) (by grind)

theorem ilog_neg {k M c T : Int} (hk : 100 ≤ k) (h1 : k * k ≤ M) (h2 : M ≤ k * k + 2 * k) (hT : 3 ≤ T) (d1 : k + 1 ≤ c) (d2 : 2 * c ≤ 3 * k) : divN (wS M (-c) T (T - 1).toNat * -c) M = -c - 1 := by
  have hM := big_M hk h1
  have hsq := sq_half (by omega) h1 d2
  have m2 := part2 (M := M) (by omega)
  obtain ⟨w1, w2⟩ := wS_three (M := M) (T := T) (K := c) (ys := -c) (by omega) (by omega) (by omega) (by omega) (by omega)
  rw [wS_one (by omega), wS_two hT]
  generalize wS M (-c) T (T - 3).toNat = W at *
  have spu := divN_spec (a := -c * W) (b := M) (by omega)
  have p1 := Int.mul_le_mul_of_nonneg_left w2 (show 0 ≤ c by omega)
  have p2 := Int.mul_le_mul_of_nonneg_left w1 (show 0 ≤ c by omega)
  have p3 := Int.mul_le_mul_of_nonneg_right (show 101 ≤ c by omega) (show 0 ≤ M by omega)
  have u0 : divN (-c * W) M ≤ -1 := divN_le (by omega) (by grind)
  generalize divN (-c * W) M = u at *
  generalize divN M 2 = h at *
  have u3 : -(2 * c + 17) ≤ 6 * u := by
    rcases Int.lt_or_le (6 * u) (-(2 * c + 17)) with h' | h'
    · have a1 := Int.mul_le_mul_of_nonneg_left (show 6 * u ≤ -(2 * c + 18) by omega) (show 0 ≤ M by omega)
      grind
    · exact h'
  have sp := divN_spec (a := -c * (h - u)) (b := M) (by omega)
  generalize divN (-c * (h - u)) M = t at *
  have e1 := Int.mul_le_mul_of_nonneg_left (show 6 * (h - u) ≤ 3 * M + 3 + 2 * c + 17 by omega) (show 0 ≤ c by omega)
  have e2 := Int.mul_le_mul_of_nonneg_left (show M + 1 ≤ 2 * (h - u) by omega) (show 0 ≤ c by omega)
  have t1 : k + 1 ≤ -(2 * t) := by
    rcases Int.lt_or_le (-(2 * t)) (k + 1) with h' | h'
    · have a1 := Int.mul_le_mul_of_nonneg_left (show -(2 * t) ≤ k by omega) (show 0 ≤ M by omega)
      have a2 := Int.mul_le_mul_of_nonneg_right d1 (show 0 ≤ M by omega)
      grind
    · exact h'
  have t2 : -(6 * t) ≤ 3 * c + 8 := by
    rcases Int.lt_or_le (3 * c + 8) (-(6 * t)) with h' | h'
    · have a1 := Int.mul_le_mul_of_nonneg_left (show 3 * c + 9 ≤ -(6 * t) by omega) (show 0 ≤ M by omega)
      grind
    · exact h'
  have f1 := Int.mul_le_mul t1 d1 (by omega) (by omega)
  have f2 := Int.mul_le_mul_of_nonneg_right t2 (show 0 ≤ c by omega)
  have a4 := Int.mul_le_mul_of_nonneg_right hk (show 0 ≤ k by omega)
  exact ilog_bent (by omega) (by grind) (by grind)

theorem eS_nonneg {x Ms T : Int} (hx : 0 ≤ x) (hMs : 0 < Ms) : ∀ j : Nat, (j : Int) < T → 0 ≤ eS x Ms T j
  | 0, hT => le_divN' (by omega) (by rw [Int.mul_zero]; exact hx)
  | j + 1, hT => by
    rw [eS_succ]
    have ih := eS_nonneg (T := T) hx hMs j (by omega)
    refine le_divN' (Int.mul_pos hMs (by omega)) ?_
    rw [Int.mul_zero]
    exact Int.mul_nonneg hx (by omega)

theorem eS_bent {k M d T : Int} (hk : 100 ≤ k) (h1 : k * k ≤ M) (h2 : M ≤ k * k + 2 * k) (hT : 3 ≤ T) (d1 : k + 1 ≤ d) (d2 : 2 * d ≤ 3 * k) : eS d M T (T - 1).toNat = d + 1 := by
  have hM := big_M hk h1
  have hsq := sq_half (by omega) h1 d2
  obtain ⟨e1, e2⟩ := eS_le (x := d) (Ms := M) (T := T) (c := d) (by omega) (by omega) (by omega) (by omega) (by omega) (T - 3).toNat (by omega)
  have e0 : 1 ≤ eS d M T (T - 3).toNat := by
    rcases Int.lt_or_le 3 T with h | h
    · obtain ⟨j, hj⟩ : ∃ j : Nat, (T - 3).toNat = j + 1 := ⟨(T - 4).toNat, by omega⟩
      have n0 := eS_nonneg (x := d) (Ms := M) (T := T) (by omega) (by omega) j (by omega)
      rw [hj, eS_succ, show T - 1 - (j : Int) = 3 by omega]
      have p1 := Int.mul_nonneg (show 0 ≤ d by omega) n0
      have p2 := Int.mul_le_mul_of_nonneg_right (show 101 ≤ d by omega) (show 0 ≤ M by omega)
      exact le_divN (by omega) (by grind)
    · have e : T = 3 := by omega
      subst e
      show 1 ≤ divN d 3
      exact le_divN (by decide) (by omega)
  rw [eS_one (by omega), eS_two hT]
  generalize eS d M T (T - 3).toNat = y at *
  have sp := divN_spec (a := d * (M + y)) (b := M * 2) (by omega)
  generalize divN (d * (M + y)) (M * 2) = t at *
  have p1 := Int.mul_le_mul_of_nonneg_left e0 (show 0 ≤ d by omega)
  have p2 := Int.mul_le_mul_of_nonneg_left e2 (show 0 ≤ d by omega)
  have t1 : k + 1 ≤ 2 * t := by
    rcases Int.lt_or_le (2 * t) (k + 1) with h' | h'
    · have a1 := Int.mul_le_mul_of_nonneg_left (show 2 * t ≤ k by omega) (show 0 ≤ M by omega)
      have a2 := Int.mul_le_mul_of_nonneg_right d1 (show 0 ≤ M by omega)
      grind
    · exact h'
  have t2 : 4 * t ≤ 2 * d + 6 := by
    rcases Int.lt_or_le (2 * d + 6) (4 * t) with h' | h'
    · have a1 := Int.mul_le_mul_of_nonneg_left (show 2 * d + 7 ≤ 4 * t by omega) (show 0 ≤ M by omega)
      grind
    · exact h'
  have f1 := Int.mul_le_mul t1 d1 (by omega) (by omega)
  have f2 := Int.mul_le_mul_of_nonneg_right t2 (show 0 ≤ d by omega)
  have a4 := Int.mul_le_mul_of_nonneg_right hk (show 0 ≤ k by omega)
  exact divN_eq (by omega) (by grind) (by grind)

theorem pre04b_ilog {k M n d b : Int} (hk : 100 ≤ k) (hk2 : k ≤ 2 ^ 34) (h1 : k * k ≤ M) (h2 : M ≤ k * k + 2 * k) (n1 : k + 2 ≤ n) (n2 : 2 * n ≤ 3 * k) (hb : 0 < b) (hnb : n * 2 ^ b.toNat < M)
    (hd1 : -n ≤ d) (hd2 : d ≤ n) (hd : k + 2 ≤ d ∨ d ≤ -k - 1) :
    (∀ R < 0, Halves M b (yH M (M + d) R) R ∧ 0 < M + divN (yH M (M + d) R) (2 ^ R)) ∧ ¬ Halves M b (yH M (M + d) 0) 0 ∧ (∀ R ≤ 0, intBits (yH M (M + d) R) ≤ 3000) ∧
      (∀ j : Nat, (j : Int) < tOf M b → intBits (wS M (divN (yH M (M + d) 0) (2 ^ 0)) (tOf M b) j) ≤ 3000) ∧ ilogF M (M + d) b 0 = d - 1 := by
  have hM := big_M hk h1
  have hbM := bits_M (by omega) hk2 h2 (by omega)
  have hy : yH M (M + d) 0 = d := by show M + d - M = d; omega
  have hT := three_terms hk h1 h2 n1 hb hnb
  have e1 : divN d (2 ^ 0) = d := divN_one
  refine ⟨fun R hR => absurd hR (Nat.not_lt_zero R), ?_, fun R hR => ?_, fun j hj => ?_, ?_⟩
  · rw [hy]
    unfold Halves
    have := Int.mul_le_mul_of_nonneg_right (show (d.natAbs : Int) ≤ n by omega) (Int.le_of_lt (two_pow_pos b.toNat))
    rw [Int.pow_zero, Int.mul_one]
    omega
  · have : R = 0 := by omega
    subst this
    rw [hy]
    exact bits_mono (bits_abs (b := 4 * M) (by omega) (by omega) hbM)
  · rw [hy, e1]
    have := wS_all (M := M) (ys := d) (K := n) (by omega) (by omega) (tOf_pos (M := M) (by omega) hb) hd1 hd2 j hj
    exact bits_mono (bits_abs (b := 4 * M) (by omega) (by omega) hbM)
  · unfold ilogF
    rw [hy, e1]
    rcases hd with hd | hd
    · exact ilog_pos hk h1 h2 hT hd (by omega)
    · have := ilog_neg (c := -d) hk h1 h2 hT (by omega) (by omega)
      rwa [Int.neg_neg] at this

theorem rOf_zero {M x L : Int} (hx : 0 ≤ x) (h : x * 2 ^ L.toNat < M) : rOf M x L = 0 := by
  unfold rOf
  have h0 : 0 ≤ x * 2 ^ L.toNat := Int.mul_nonneg hx (Int.le_of_lt (two_pow_pos _))
  rw [Int.ediv_eq_zero_of_lt h0 h]
  rfl

theorem pre04b_iexp {k M n d b : Int} (hk : 100 ≤ k) (hk2 : k ≤ 2 ^ 34) (h1 : k * k ≤ M) (h2 : M ≤ k * k + 2 * k) (n1 : k + 2 ≤ n) (n2 : 2 * n ≤ 3 * k) (hb : 0 < b) (hnb : n * 2 ^ b.toNat < M)
    (hd1 : k + 1 ≤ d) (hd2 : d ≤ n) :
    intBits d ≤ 2000 ∧ rOf M d b ≤ 1000 ∧ (∀ j : Nat, (j : Int) < tOf M b → intBits (eS d (M * 2 ^ rOf M d b) (tOf M b) j) ≤ 3000) ∧
      (∀ j : Nat, j ≤ rOf M d b → intBits (dS M (rOf M d b) (iexpY M d b) j) ≤ 3000) ∧ iexpF M d b = M + d + 1 := by
  have hM := big_M hk h1
  have hbM := bits_M (by omega) hk2 h2 (by omega)
  have hT := three_terms hk h1 h2 n1 hb hnb
  have hr : rOf M d b = 0 := rOf_zero (by omega) (by
    have := Int.mul_le_mul_of_nonneg_right hd2 (Int.le_of_lt (two_pow_pos b.toNat))
    omega)
  have eY : iexpY M d b = d + 1 := by
    unfold iexpY
    rw [hr, Int.pow_zero, Int.mul_one]
    exact eS_bent hk h1 h2 hT hd1 (by omega)
  refine ⟨bits_mono (bits_abs (b := 4 * M) (by omega) (by omega) hbM), by omega, fun j hj => ?_, fun j hj => ?_, ?_⟩
  · rw [hr, Int.pow_zero, Int.mul_one]
    rcases Int.lt_or_le ((j : Int) + 1) (tOf M b) with h | h
    · obtain ⟨e1, e2⟩ := eS_le (x := d) (Ms := M) (T := tOf M b) (c := d) (by omega) (by omega) (by omega) (by omega) (by omega) j (by omega)
      exact bits_mono (bits_abs (b := 4 * M) (by omega) (by omega) hbM)
    · have e : j = (tOf M b - 1).toNat := by omega
      subst e
      rw [eS_bent hk h1 h2 hT hd1 (by omega)]
      exact bits_mono (bits_abs (b := 4 * M) (by omega) (by omega) hbM)
  · have e : j = 0 := by omega
    subst e
    show intBits (iexpY M d b) ≤ 3000
    rw [eY]
    exact bits_mono (bits_abs (b := 4 * M) (by omega) (by omega) hbM)
  · unfold iexpF
    rw [hr]
    show M + iexpY M d b = M + d + 1
    rw [eY]
    omega

theorem fmod_bnd (a : Int) {b : Int} (hb : 0 < b) : 0 ≤ a.fmod b ∧ a.fmod b < b := ⟨Int.fmod_nonneg_of_pos a hb, Int.fmod_lt_of_pos a hb⟩
theorem ten_ten : (10 : Int) ^ Int.toNat 10 = 10000000000 := by decide
theorem k_range {r k : Int} (h1 : 0 ≤ r) (h2 : r < 10 ^ Int.toNat 10) (h : r + 100 = k) : 100 ≤ k ∧ k ≤ 2 ^ 34 := by
  rw [ten_ten] at h2
  have e2 : (2 : Int) ^ 34 = 17179869184 := by decide
  omega
theorem bits_k {k : Int} (h : 100 ≤ k) (h2 : k ≤ 2 ^ 34) : intBits k ≤ 64 := by
  have e2 : (2 : Int) ^ 34 = 17179869184 := by decide
  exact PySem.intBits_le_64 (by omega) (by omega)
theorem log2_le {x : Nat} (h : x ≠ 0) : 2 ^ x.log2 ≤ x := Nat.log2_self_le h
theorem most_range {k M n m : Int} (hk : 100 ≤ k) (hk2 : k ≤ 2 ^ 34) (h1 : k * k ≤ M) (h2 : M ≤ k * k + 2 * k) (hn : 0 < n) (hn2 : 2 * n ≤ 3 * k) (hm : (intBits ((M - 1) / n) : Int) - 1 = m) :
    1 ≤ m ∧ m ≤ 100 ∧ n * 2 ^ m.toNat < M := by
  have hM := big_M hk h1
  have hq : 2 ≤ (M - 1) / n := (Int.le_ediv_iff_mul_le hn).mpr (by omega)
  have hq2 : (M - 1) / n * n ≤ M - 1 := Int.ediv_mul_le _ (by omega)
  have hq3 : (M - 1) / n ≤ M := by
    have := Int.mul_le_mul_of_nonneg_left (show 1 ≤ n by omega) (show 0 ≤ (M - 1) / n by omega)
    omega
  have hb := bits_M (by omega) hk2 h2 (by omega)
  have hb2 : intBits ((M - 1) / n) ≤ 75 := bits_abs (b := 4 * M) (by omega) (by omega) hb
  generalize (M - 1) / n = q at *
  obtain ⟨x, rfl⟩ := Int.eq_ofNat_of_zero_le (show 0 ≤ q by omega)
  have e : intBits (x : Int) = x.log2 + 1 := by
    unfold PySem.Builtin.Int.intBits
    rw [if_neg (by simp; omega)]
    rfl
  have h3 := log2_le (x := x) (by omega)
  have h4 : 1 ≤ x.log2 := by
    rcases Nat.lt_or_ge x.log2 1 with h | h
    · have h5 : x < 2 ^ (x.log2 + 1) := Nat.lt_log2_self
      have : x.log2 = 0 := by omega
      rw [this] at h5
      omega
    · exact h
  refine ⟨by omega, by omega, ?_⟩
  have e2 : m.toNat = x.log2 := by omega
  rw [e2]
  have h5 : ((2 ^ x.log2 : Nat) : Int) ≤ (x : Int) := by omega
  have e3 : ((2 ^ x.log2 : Nat) : Int) = 2 ^ x.log2 := Int.natCast_pow 2 _
  rw [e3] at h5
  have := Int.mul_le_mul_of_nonneg_left h5 (Int.le_of_lt hn)
  have e4 : n * (x : Int) = (x : Int) * n := Int.mul_comm _ _
  omega
theorem bits_less {M n m b : Int} (hn : 0 < n) (hb : b ≤ m) (hb0 : 0 ≤ b) (h : n * 2 ^ m.toNat < M) : n * 2 ^ b.toNat < M := by
  have h1 : (2 : Nat) ^ b.toNat ≤ 2 ^ m.toNat := Nat.pow_le_pow_right (by decide) (by omega)
  have e1 : ((2 ^ b.toNat : Nat) : Int) = 2 ^ b.toNat := Int.natCast_pow 2 _
  have e2 : ((2 ^ m.toNat : Nat) : Int) = 2 ^ m.toNat := Int.natCast_pow 2 _
  have h2 : (2 : Int) ^ b.toNat ≤ 2 ^ m.toNat := by omega
  have := Int.mul_le_mul_of_nonneg_left h2 (Int.le_of_lt hn)
  omega

end Mine

open_top hd04 for PySem.Challenge.rw_dm0269_04

local macro_rules | `(tactic| walk_at "call builtin:divmod") => `(tactic| ((with_reducible show wpAny _ _ (call (Value.builtin _) [Value.int _ _, Value.int _ _]) _ _ _); refine divmod_N (by assumption) (by assumption) (by omega) ?_ (Mine.noPy (by assumption)); intro _ _ _))
local macro_rules | `(tactic| walk_at "pyIter ref") => `(tactic| (k_here; (with_reducible show wpAny _ _ (pyIter (Value.ref _)) _ _ _); refine Mine.Stop.out ?_))
local macro_rules | `(tactic| walk_at "binaryOp FloorDiv int int") => `(tactic| (k_here; (with_reducible show wpAny _ _ (binaryOp Operator.FloorDiv (Value.int _ _) (Value.int _ _)) _ _ _); refine Mine.Stop.out ?_))
local macro_rules | `(tactic| walk_at "call ref") => `(tactic| (k_here; (with_reducible show wpAny _ _ (call (Value.ref _) (Value.int _ _ :: _)) _ _ _); refine Mine.Stop.out ?_))
local macro_rules | `(tactic| walk_at "call type:str") => `(tactic| (k_here; (with_reducible show wpAny _ _ (call (Value.type "str") [Value.int _ _]) _ _ _); refine Mine.Stop.out ?_))
local macro_rules | `(tactic| walk_at "binaryOp LShift int int") => `(tactic| (k_here; (with_reducible refine lshift_int ?kbn ?kbs ?_); (case kbn => omega); (case kbs => first | exact Mine.abs_shl (Mine.Bd.out (by assumption)) (by omega) | exact Mine.shl_ok (Mine.Bd.out (by assumption)) (by omega))))
local macro_rules | `(tactic| walk_at "compareOp NotEq int int") => `(tactic| (with_reducible refine Mine.ne_same ?_))
local macro_rules | `(tactic| walk_at "binaryOp Mod int int") => `(tactic| (k_here; (with_reducible refine Mine.mod_gen ?hmb ?_); (case hmb => first | omega | decide | fail "the divisor"); intro r9 hr9 hs9))
namespace Mine
open PySem.Builtin.Int (intBits)
section
variable {w : World} {loose : List Str} {mean : ExcName → Option Value} {mg mb : Str → Option Value} {news : List (Addr × Obj)} {dp un : Nat} {gd : Option (List Code)} {cn : Str} {cs : PySem.Scope} {ca : Addr} {ccd : Value} {cl : List (Str × Addr)} {outer : List Env} {A₀ : Around} {base h₀ : Heap} {L : Addr} {m : Str → Option Value} {s : Shared} {Q E : Value → Shared → Prop}
theorem c_div {a b : Int} {ta tb : Tok} (B : Below A₀ base outer h₀) (F : Fr h₀ L s.heap m) (X : (hd04.heap_39 w.params).In h₀) (N : News h₀ L s.heap news) (T : Top hd04.view_39 loose mean mg mb h₀) (hk : cs.kind = .function)
  (hb : 0 < b) (hb2 : intBits b ≤ 9000) (hd : dp + 2 < recursionLimit) (hu : un + 16 < cLine)
  (hret : ∀ (t : Tok) (h' : Heap) (tk' : Nat), Fr h₀ L h' m → News h₀ L h' news → Q (.int (divN a b) t) { s with heap := h', toks := tk' }) :
  wpAny (model PySem.Challenge.rw_dm0269_04.row.prog w) (ktrTop dp un gd cn cs L ca ccd cl outer) (call (.ref 35) [.int a ta, .int b tb]) Q E s := by
  revert X; k_fill; intro X
  refine wpAny_call ?_
  k_dflt cell_enter
  k_steps
  refine cb_retI (Q := Q) hret ?e1 ?e2 ?e3
  case e2 => k_asm
  case e3 => first | k_asm | (refine' cb_drop ?cbN ?cbS; (case cbN => assumption); (case cbS => kcj_all))
  case e1 => exact divN_of hb
theorem c_rsh {a n : Int} {ta tb : Tok} (B : Below A₀ base outer h₀) (F : Fr h₀ L s.heap m) (X : (hd04.heap_39 w.params).In h₀) (N : News h₀ L s.heap news) (T : Top hd04.view_39 loose mean mg mb h₀) (hk : cs.kind = .function)
  (hn : 0 ≤ n) (hn2 : n ≤ 1000) (hd : dp + 2 < recursionLimit) (hu : un + 16 < cLine)
  (hret : ∀ (t : Tok) (h' : Heap) (tk' : Nat), Fr h₀ L h' m → News h₀ L h' news → Q (.int (divN a (2 ^ n.toNat)) t) { s with heap := h', toks := tk' }) :
  wpAny (model PySem.Challenge.rw_dm0269_04.row.prog w) (ktrTop dp un gd cn cs L ca ccd cl outer) (call (.ref 28) [.int a ta, .int n tb]) Q E s := by
  revert X; k_fill; intro X
  refine wpAny_call ?_
  k_dflt cell_enter
  k_steps
  refine cb_retI (Q := Q) hret ?e1 ?e2 ?e3
  case e2 => k_asm
  case e3 => first | k_asm | (refine' cb_drop ?cbN ?cbS; (case cbN => assumption); (case cbS => kcj_all))
  case e1 => exact rshN_of n
theorem c_sqrt {n a : Int} {ta tb : Tok} (B : Below A₀ base outer h₀) (F : Fr h₀ L s.heap m) (X : (hd04.heap_39 w.params).In h₀) (N : News h₀ L s.heap news) (T : Top hd04.view_39 loose mean mg mb h₀) (hk : cs.kind = .function)
  (hn : 0 < n) (ha : 0 < a) (hn2 : intBits n ≤ 9000) (ha2 : intBits a ≤ 9000) (hd : dp + 2 < recursionLimit) (hu : un + 16 < cLine)
  (hret : ∀ (r : Int) (t : Tok) (h' : Heap) (tk' : Nat), IsRoot n r → Fr h₀ L h' m → News h₀ L h' news → Q (.int r t) { s with heap := h', toks := tk' }) :
  wpAny (model PySem.Challenge.rw_dm0269_04.row.prog w) (ktrTop dp un gd cn cs L ca ccd cl outer) (call (.ref 21) [.int n ta, .int a tb]) Q E s := by
  revert X; k_fill; intro X
  k_with "exec While Compare cons nil" => k_while (fun _ x y => SqInv n a x y) (fun _ x y => sqMeas n a x y) "a" "b"
  k_with "state" => first | exact sqInv_start ha | ((rename SqInv _ _ _ _ => hI); (rw [sqStep_of hI.1]); exact sqInv_turn hn hI)
  k_with "measure" => ((rename SqInv _ _ _ _ => hI); (rw [sqStep_of hI.1]); refine sqInv_less hn hI ?_; omega)
  refine wpAny_call ?_
  k_dflt cell_enter
  k_steps
  · rename SqInv _ _ _ _ => hI
    refine Stop.mk ?_
    refine floordiv_int (by have := hI.1; omega) ?_ (noPy (bits_le_max ha2 hn2 hI.1 hI.2.1))
    k_steps
  · rename SqInv _ _ _ _ => hI
    refine hret _ _ _ _ (sqInv_done hn hI ?e1) ?e2 ?e3
    case e1 => simp only [decide_eq_true_eq, decide_eq_false_iff_not, ne_eq, Decidable.not_not, Bool.not_eq_true] at *; omega
    case e2 => k_asm
    case e3 => first | k_asm | (refine' cb_drop ?cbN ?cbS; (case cbN => assumption); (case cbS => kcj_all))
theorem c_ilog {x M LL : Int} {ta tb tc : Tok} (R₁ : Nat) (B : Below A₀ base outer h₀) (F : Fr h₀ L s.heap m) (X : (hd04.heap_39 w.params).In h₀) (N : News h₀ L s.heap news) (T : Top hd04.view_39 loose mean mg mb h₀) (hk : cs.kind = .function)
  (hM : 0 < M) (hM2 : intBits M ≤ 1000) (hL : 0 < LL) (hL2 : LL ≤ 100) (hR₁ : R₁ ≤ 1000)
  (hgo : ∀ R < R₁, Halves M LL (yH M x R) R ∧ 0 < M + divN (yH M x R) (2 ^ R)) (hend : ¬ Halves M LL (yH M x R₁) R₁)
  (hy : ∀ R ≤ R₁, intBits (yH M x R) ≤ 3000) (hw : ∀ j : Nat, (j : Int) < tOf M LL → intBits (wS M (divN (yH M x R₁) (2 ^ R₁)) (tOf M LL) j) ≤ 3000)
  (hd : dp + 4 < recursionLimit) (hu : un + 40 < cLine)
  (hret : ∀ (t : Tok) (h' : Heap) (tk' : Nat), Fr h₀ L h' m → News h₀ L h' news → Q (.int (ilogF M x LL R₁) t) { s with heap := h', toks := tk' }) :
  wpAny (model PySem.Challenge.rw_dm0269_04.row.prog w) (ktrTop dp un gd cn cs L ca ccd cl outer) (call (.ref 43) [.int x ta, .int M tb, .int LL tc]) Q E s := by
  revert X; k_fill; intro X
  k_with "exec While BoolOp cons nil" => (k_while (fun _ y R => ∃ j : Nat, R = (j : Int) ∧ j ≤ R₁ ∧ y = yH M x j) (fun _ y R => R₁ - R.toNat) "y" "R"; (obtain ⟨j, rfl, hj, rfl⟩ := kInv); have hyb := Bd.mk (hy j hj))
  k_with "state" => first | exact rfl | exact wS_turn (by assumption) | exact ⟨0, rfl, Nat.zero_le _, rfl⟩ | exact yH_turn (by assumption) (by assumption)
  refine wpAny_call ?_
  k_dflt (refine' code_def ?k1 ?k2 ?k3 ?k4 ?k5 ?kA ?kF ?kK ?k6 ?k7 ?k8 ?k9 ?kB ?_ ?c2 ?c3 ?c4 ?c5; (case kA => exact rfl); (case kF => exact rfl); (case kK => assumption); (case k1 => k_asm); (case k2 => k_asm); (case k3 => k_asm); (case k4 => k_asm); (case k5 => k_asm); (case k6 => k_is); (case k7 => k_is); (case k8 => ktr_room); (case k9 => exact binds_K (by k_in) rfl (by k_is) rfl rfl rfl); (case c5 => decide); (case kB => exact locs rfl); (case c2 => exact rfl); (case c3 => exact rfl); (case c4 => exact rfl); k_whole; intro g' L' h' FG' F' N' B' X' T'; (try dsimp only); (try k_lift B'); (try k_fold))
  k_steps
  · have hlt : j < R₁ := by
      rcases Nat.lt_or_ge j R₁ with h | h
      · exact h
      · have e : j = R₁ := by omega
        subst e
        exact absurd ((Halves_up (by assumption)).mpr (by assumption)) hend
    have hMy : Bd 4000 (M * yH M x j) := ⟨intBits_mul_le hM2 hyb.out⟩
    have hpos := (hgo j hlt).2
    have hrb : intBits (divN (yH M x j) (2 ^ (j : Int).toNat)) ≤ 3001 := divN_bits (two_pow_pos _) hyb.out
    have hsb : intBits (M + divN (yH M x j) (2 ^ (j : Int).toNat)) ≤ 3002 := bits_mono (intBits_add_le hM2 hrb)
    refine mul_int ?_ (mul_ok hM2 hyb.out)
    k_steps
    refine Stop.mk ?_
    (with_unfolding_all refine' c_rsh ?k1_1 ?k2_1 ?k3_1 ?k4_1 ?k5_1 ?kK_1 ?kp_1 ?kq_1 ?kd_1 ?ku_1 ?kR_1); (case k1_1 => k_asm); (case k2_1 => k_asm); (case k3_1 => k_asm); (case k4_1 => k_asm); (case k5_1 => k_asm); (case kK_1 => first | exact rfl | assumption); (case kp_1 => omega); (case kq_1 => omega); (case kd_1 => ktr_room); (case ku_1 => ktr_units); (intro t9 h9 tk9 F9 N9); (try dsimp only); (try k_fold)
    k_steps
    refine mul_int ?_ (mul_ok hM2 hsb)
    k_steps
    refine Stop.mk ?_
    (with_unfolding_all refine' c_sqrt ?k1_2 ?k2_2 ?k3_2 ?k4_2 ?k5_2 ?kK_2 ?kp_2 ?kq_2 ?kr_2 ?ks_2 ?kd_2 ?ku_2 ?kR_2); (case k1_2 => k_asm); (case k2_2 => k_asm); (case k3_2 => k_asm); (case k4_2 => k_asm); (case k5_2 => k_asm); (case kK_2 => first | exact rfl | assumption); (case kp_2 => exact Int.mul_pos hM hpos); (case kq_2 => exact hM); (case kr_2 => exact bits_mono (intBits_mul_le hM2 hsb)); (case ks_2 => exact bits_mono hM2); (case kd_2 => ktr_room); (case ku_2 => ktr_units); (intro r9 t9 h9 tk9 hr9 F9 N9); (try dsimp only); (try k_fold)
    k_steps
    refine Stop.mk ?_
    (with_unfolding_all refine' c_div ?k1_3 ?k2_3 ?k3_3 ?k4_3 ?k5_3 ?kK_3 ?kp_3 ?kq_3 ?kd_3 ?ku_3 ?kR_3); (case k1_3 => k_asm); (case k2_3 => k_asm); (case k3_3 => k_asm); (case k4_3 => k_asm); (case k5_3 => k_asm); (case kK_3 => first | exact rfl | assumption); (case kp_3 => have := hr9.1; omega); (case kq_3 => exact root_bits hM hM2 hpos hsb hr9); (case kd_3 => ktr_room); (case ku_3 => ktr_units); (intro t9 h9 tk9 F9 N9); (try dsimp only); (try k_fold)
    k_steps
  · have hge : j = R₁ := by
      rcases Nat.lt_or_ge j R₁ with h | h
      · exact absurd ((Halves_up (by assumption)).mp (hgo j h).1) (by assumption)
      · omega
    subst hge
    refine Stop.mk ?_
    refine P.str_of_int (log_of_bits hM2) ?_
    k_steps
    refine len_digs hM2 ?_
    have hTp := tOf_pos (Int.le_of_lt hM) hL
    have hTl := tOf_le (by decide) hM2 hL
    have hTp' : 0 < -((-10 * digs M) / (3 * LL)) := hTp
    have hTl' : -((-10 * digs M) / (3 * LL)) ≤ 10 * (1000 + 1) := hTl
    have hysb : intBits (divN (yH M x j) (2 ^ (j : Int).toNat)) ≤ 3001 := divN_bits (two_pow_pos _) hyb.out
    k_steps
    refine Stop.mk ?_
    refine floordiv_pos (by omega) (bits_small (b := 1000) (by omega) (by omega)) ?_
    k_steps
    refine Stop.mk ?_
    (with_unfolding_all refine' c_rsh ?k1_4 ?k2_4 ?k3_4 ?k4_4 ?k5_4 ?kK_4 ?kp_4 ?kq_4 ?kd_4 ?ku_4 ?kR_4); (case k1_4 => k_asm); (case k2_4 => k_asm); (case k3_4 => k_asm); (case k4_4 => k_asm); (case k5_4 => k_asm); (case kK_4 => first | exact rfl | assumption); (case kp_4 => omega); (case kq_4 => omega); (case kd_4 => ktr_room); (case ku_4 => ktr_units); (intro t9 h9 tk9 F9 N9); (try dsimp only); (try k_fold)
    k_steps
    refine Stop.mk ?_
    (with_unfolding_all refine' c_div ?k1_5 ?k2_5 ?k3_5 ?k4_5 ?k5_5 ?kK_5 ?kp_5 ?kq_5 ?kd_5 ?ku_5 ?kR_5); (case k1_5 => k_asm); (case k2_5 => k_asm); (case k3_5 => k_asm); (case k4_5 => k_asm); (case k5_5 => k_asm); (case kK_5 => first | exact rfl | assumption); (case kp_5 => exact hTp); (case kq_5 => exact bits_small hTp hTl); (case kd_5 => ktr_room); (case ku_5 => ktr_units); (intro t9 h9 tk9 F9 N9); (try dsimp only); (try k_fold)
    k_steps
    refine Stop.mk ?_
    k_state (fun pre w => w = wS M (divN (yH M x j) (2 ^ j)) (tOf M LL) pre.length) "w"
    all_goals subst kInv
    · k_steps
      refine Stop.mk ?_
      (with_unfolding_all refine' c_div ?k1_6 ?k2_6 ?k3_6 ?k4_6 ?k5_6 ?kK_6 ?kp_6 ?kq_6 ?kd_6 ?ku_6 ?kR_6); (case k1_6 => k_asm); (case k2_6 => k_asm); (case k3_6 => k_asm); (case k4_6 => k_asm); (case k5_6 => k_asm); (case kK_6 => first | exact rfl | assumption); (case kp_6 => omega); (case kq_6 => exact bits_small (b := 100000) (by omega) (by omega)); (case kd_6 => ktr_room); (case ku_6 => ktr_units); (intro t9 h9 tk9 F9 N9); (try dsimp only); (try k_fold)
      k_steps
      refine mul_int ?_ (mul_ok hysb (hw _ (by show _ < -((-10 * digs M) / (3 * LL)); omega)))
      k_steps
      refine Stop.mk ?_
      (with_unfolding_all refine' c_div ?k1_7 ?k2_7 ?k3_7 ?k4_7 ?k5_7 ?kK_7 ?kp_7 ?kq_7 ?kd_7 ?ku_7 ?kR_7); (case k1_7 => k_asm); (case k2_7 => k_asm); (case k3_7 => k_asm); (case k4_7 => k_asm); (case k5_7 => k_asm); (case kK_7 => first | exact rfl | assumption); (case kp_7 => exact hM); (case kq_7 => exact bits_mono hM2); (case kd_7 => ktr_room); (case ku_7 => ktr_units); (intro t9 h9 tk9 F9 N9); (try dsimp only); (try k_fold)
      k_steps
    · k_steps
      refine mul_int ?_ (mul_ok (hw _ (by rw [downKs_length]; show _ < -((-10 * digs M) / (3 * LL)); omega)) hyb.out)
      k_steps
      refine Stop.mk ?_
      (with_unfolding_all refine' c_div ?k1_8 ?k2_8 ?k3_8 ?k4_8 ?k5_8 ?kK_8 ?kp_8 ?kq_8 ?kd_8 ?ku_8 ?kR_8); (case k1_8 => k_asm); (case k2_8 => k_asm); (case k3_8 => k_asm); (case k4_8 => k_asm); (case k5_8 => k_asm); (case kK_8 => first | exact rfl | assumption); (case kp_8 => exact hM); (case kq_8 => exact bits_mono hM2); (case kd_8 => ktr_room); (case ku_8 => ktr_units); (intro t9 h9 tk9 F9 N9); (try dsimp only); (try k_fold)
      k_steps
      refine cb_retI (Q := Q) hret ?e1 ?e2 ?e3
      case e2 => k_asm
      case e3 => first | k_asm | (refine' cb_drop ?cbN ?cbS; (case cbN => assumption); (case cbS => kcj_all))
      case e1 => exact ilogF_of (by rw [downKs_length]; show _ = (-((-10 * digs M) / (3 * LL)) - 1).toNat; omega)
  · have hlt : j < R₁ := by
      rcases Nat.lt_or_ge j R₁ with h | h
      · exact h
      · have e : j = R₁ := by omega
        subst e
        exact absurd ((Halves_down (by omega) (by omega)).mpr (by assumption)) hend
    have hMy : Bd 4000 (M * yH M x j) := ⟨intBits_mul_le hM2 hyb.out⟩
    have hpos := (hgo j hlt).2
    have hrb : intBits (divN (yH M x j) (2 ^ (j : Int).toNat)) ≤ 3001 := divN_bits (two_pow_pos _) hyb.out
    have hsb : intBits (M + divN (yH M x j) (2 ^ (j : Int).toNat)) ≤ 3002 := bits_mono (intBits_add_le hM2 hrb)
    refine mul_int ?_ (mul_ok hM2 hyb.out)
    k_steps
    refine Stop.mk ?_
    (with_unfolding_all refine' c_rsh ?k1_9 ?k2_9 ?k3_9 ?k4_9 ?k5_9 ?kK_9 ?kp_9 ?kq_9 ?kd_9 ?ku_9 ?kR_9); (case k1_9 => k_asm); (case k2_9 => k_asm); (case k3_9 => k_asm); (case k4_9 => k_asm); (case k5_9 => k_asm); (case kK_9 => first | exact rfl | assumption); (case kp_9 => omega); (case kq_9 => omega); (case kd_9 => ktr_room); (case ku_9 => ktr_units); (intro t9 h9 tk9 F9 N9); (try dsimp only); (try k_fold)
    k_steps
    refine mul_int ?_ (mul_ok hM2 hsb)
    k_steps
    refine Stop.mk ?_
    (with_unfolding_all refine' c_sqrt ?k1_10 ?k2_10 ?k3_10 ?k4_10 ?k5_10 ?kK_10 ?kp_10 ?kq_10 ?kr_10 ?ks_10 ?kd_10 ?ku_10 ?kR_10); (case k1_10 => k_asm); (case k2_10 => k_asm); (case k3_10 => k_asm); (case k4_10 => k_asm); (case k5_10 => k_asm); (case kK_10 => first | exact rfl | assumption); (case kp_10 => exact Int.mul_pos hM hpos); (case kq_10 => exact hM); (case kr_10 => exact bits_mono (intBits_mul_le hM2 hsb)); (case ks_10 => exact bits_mono hM2); (case kd_10 => ktr_room); (case ku_10 => ktr_units); (intro r9 t9 h9 tk9 hr9 F9 N9); (try dsimp only); (try k_fold)
    k_steps
    refine Stop.mk ?_
    (with_unfolding_all refine' c_div ?k1_11 ?k2_11 ?k3_11 ?k4_11 ?k5_11 ?kK_11 ?kp_11 ?kq_11 ?kd_11 ?ku_11 ?kR_11); (case k1_11 => k_asm); (case k2_11 => k_asm); (case k3_11 => k_asm); (case k4_11 => k_asm); (case k5_11 => k_asm); (case kK_11 => first | exact rfl | assumption); (case kp_11 => have := hr9.1; omega); (case kq_11 => exact root_bits hM hM2 hpos hsb hr9); (case kd_11 => ktr_room); (case ku_11 => ktr_units); (intro t9 h9 tk9 F9 N9); (try dsimp only); (try k_fold)
    k_steps
  · have hge : j = R₁ := by
      rcases Nat.lt_or_ge j R₁ with h | h
      · exact absurd ((Halves_down (by omega) (by omega)).mp (hgo j h).1) (by assumption)
      · omega
    subst hge
    refine Stop.mk ?_
    refine P.str_of_int (log_of_bits hM2) ?_
    k_steps
    refine len_digs hM2 ?_
    have hTp := tOf_pos (Int.le_of_lt hM) hL
    have hTl := tOf_le (by decide) hM2 hL
    have hTp' : 0 < -((-10 * digs M) / (3 * LL)) := hTp
    have hTl' : -((-10 * digs M) / (3 * LL)) ≤ 10 * (1000 + 1) := hTl
    have hysb : intBits (divN (yH M x j) (2 ^ (j : Int).toNat)) ≤ 3001 := divN_bits (two_pow_pos _) hyb.out
    k_steps
    refine Stop.mk ?_
    refine floordiv_pos (by omega) (bits_small (b := 1000) (by omega) (by omega)) ?_
    k_steps
    refine Stop.mk ?_
    (with_unfolding_all refine' c_rsh ?k1_12 ?k2_12 ?k3_12 ?k4_12 ?k5_12 ?kK_12 ?kp_12 ?kq_12 ?kd_12 ?ku_12 ?kR_12); (case k1_12 => k_asm); (case k2_12 => k_asm); (case k3_12 => k_asm); (case k4_12 => k_asm); (case k5_12 => k_asm); (case kK_12 => first | exact rfl | assumption); (case kp_12 => omega); (case kq_12 => omega); (case kd_12 => ktr_room); (case ku_12 => ktr_units); (intro t9 h9 tk9 F9 N9); (try dsimp only); (try k_fold)
    k_steps
    refine Stop.mk ?_
    (with_unfolding_all refine' c_div ?k1_13 ?k2_13 ?k3_13 ?k4_13 ?k5_13 ?kK_13 ?kp_13 ?kq_13 ?kd_13 ?ku_13 ?kR_13); (case k1_13 => k_asm); (case k2_13 => k_asm); (case k3_13 => k_asm); (case k4_13 => k_asm); (case k5_13 => k_asm); (case kK_13 => first | exact rfl | assumption); (case kp_13 => exact hTp); (case kq_13 => exact bits_small hTp hTl); (case kd_13 => ktr_room); (case ku_13 => ktr_units); (intro t9 h9 tk9 F9 N9); (try dsimp only); (try k_fold)
    k_steps
    refine Stop.mk ?_
    k_state (fun pre w => w = wS M (divN (yH M x j) (2 ^ j)) (tOf M LL) pre.length) "w"
    all_goals subst kInv
    · k_steps
      refine Stop.mk ?_
      (with_unfolding_all refine' c_div ?k1_14 ?k2_14 ?k3_14 ?k4_14 ?k5_14 ?kK_14 ?kp_14 ?kq_14 ?kd_14 ?ku_14 ?kR_14); (case k1_14 => k_asm); (case k2_14 => k_asm); (case k3_14 => k_asm); (case k4_14 => k_asm); (case k5_14 => k_asm); (case kK_14 => first | exact rfl | assumption); (case kp_14 => omega); (case kq_14 => exact bits_small (b := 100000) (by omega) (by omega)); (case kd_14 => ktr_room); (case ku_14 => ktr_units); (intro t9 h9 tk9 F9 N9); (try dsimp only); (try k_fold)
      k_steps
      refine mul_int ?_ (mul_ok hysb (hw _ (by show _ < -((-10 * digs M) / (3 * LL)); omega)))
      k_steps
      refine Stop.mk ?_
      (with_unfolding_all refine' c_div ?k1_15 ?k2_15 ?k3_15 ?k4_15 ?k5_15 ?kK_15 ?kp_15 ?kq_15 ?kd_15 ?ku_15 ?kR_15); (case k1_15 => k_asm); (case k2_15 => k_asm); (case k3_15 => k_asm); (case k4_15 => k_asm); (case k5_15 => k_asm); (case kK_15 => first | exact rfl | assumption); (case kp_15 => exact hM); (case kq_15 => exact bits_mono hM2); (case kd_15 => ktr_room); (case ku_15 => ktr_units); (intro t9 h9 tk9 F9 N9); (try dsimp only); (try k_fold)
      k_steps
    · k_steps
      refine mul_int ?_ (mul_ok (hw _ (by rw [downKs_length]; show _ < -((-10 * digs M) / (3 * LL)); omega)) hyb.out)
      k_steps
      refine Stop.mk ?_
      (with_unfolding_all refine' c_div ?k1_16 ?k2_16 ?k3_16 ?k4_16 ?k5_16 ?kK_16 ?kp_16 ?kq_16 ?kd_16 ?ku_16 ?kR_16); (case k1_16 => k_asm); (case k2_16 => k_asm); (case k3_16 => k_asm); (case k4_16 => k_asm); (case k5_16 => k_asm); (case kK_16 => first | exact rfl | assumption); (case kp_16 => exact hM); (case kq_16 => exact bits_mono hM2); (case kd_16 => ktr_room); (case ku_16 => ktr_units); (intro t9 h9 tk9 F9 N9); (try dsimp only); (try k_fold)
      k_steps
      refine cb_retI (Q := Q) hret ?e1 ?e2 ?e3
      case e2 => k_asm
      case e3 => first | k_asm | (refine' cb_drop ?cbN ?cbS; (case cbN => assumption); (case cbS => kcj_all))
      case e1 => exact ilogF_of (by rw [downKs_length]; show _ = (-((-10 * digs M) / (3 * LL)) - 1).toNat; omega)
theorem c_ilogV {x M LL v : Int} {ta tb tc : Tok} (R₁ : Nat) (B : Below A₀ base outer h₀) (F : Fr h₀ L s.heap m) (X : (hd04.heap_39 w.params).In h₀) (N : News h₀ L s.heap news) (T : Top hd04.view_39 loose mean mg mb h₀) (hk : cs.kind = .function)
  (hM : 0 < M) (hM2 : intBits M ≤ 1000) (hL : 0 < LL) (hL2 : LL ≤ 100) (hR₁ : R₁ ≤ 1000)
  (hgo : ∀ R < R₁, Halves M LL (yH M x R) R ∧ 0 < M + divN (yH M x R) (2 ^ R)) (hend : ¬ Halves M LL (yH M x R₁) R₁)
  (hy : ∀ R ≤ R₁, intBits (yH M x R) ≤ 3000) (hw : ∀ j : Nat, (j : Int) < tOf M LL → intBits (wS M (divN (yH M x R₁) (2 ^ R₁)) (tOf M LL) j) ≤ 3000)
  (hv : ilogF M x LL R₁ = v) (hd : dp + 4 < recursionLimit) (hu : un + 40 < cLine)
  (hret : ∀ (t : Tok) (h' : Heap) (tk' : Nat), Fr h₀ L h' m → News h₀ L h' news → Q (.int v t) { s with heap := h', toks := tk' }) :
  wpAny (model PySem.Challenge.rw_dm0269_04.row.prog w) (ktrTop dp un gd cn cs L ca ccd cl outer) (call (.ref 43) [.int x ta, .int M tb, .int LL tc]) Q E s := by
  subst hv
  exact c_ilog R₁ B F X N T hk hM hM2 hL hL2 hR₁ hgo hend hy hw hd hu hret

theorem c_iexp {x M LL : Int} {ta tb tc : Tok} (B : Below A₀ base outer h₀) (F : Fr h₀ L s.heap m) (X : (hd04.heap_39 w.params).In h₀) (N : News h₀ L s.heap news) (T : Top hd04.view_39 loose mean mg mb h₀) (hk : cs.kind = .function)
  (hM : 0 < M) (hM2 : intBits M ≤ 1000) (hL : 0 < LL) (hL2 : LL ≤ 100) (hx : intBits x ≤ 2000) (hR : rOf M x LL ≤ 1000)
  (he : ∀ j : Nat, (j : Int) < tOf M LL → intBits (eS x (M * 2 ^ rOf M x LL) (tOf M LL) j) ≤ 3000)
  (hdd : ∀ j : Nat, j ≤ rOf M x LL → intBits (dS M (rOf M x LL) (iexpY M x LL) j) ≤ 3000)
  (hd : dp + 4 < recursionLimit) (hu : un + 40 < cLine)
  (hret : ∀ (t : Tok) (h' : Heap) (tk' : Nat), Fr h₀ L h' m → News h₀ L h' news → Q (.int (iexpF M x LL) t) { s with heap := h', toks := tk' }) :
  wpAny (model PySem.Challenge.rw_dm0269_04.row.prog w) (ktrTop dp un gd cn cs L ca ccd cl outer) (call (.ref 51) [.int x ta, .int M tb, .int LL tc]) Q E s := by
  revert X; k_fill; intro X
  have hxb := Bd.mk hx
  have hMb := Bd.mk hM2
  k_with "state" => first | exact rfl | exact eS_turn (by assumption) | exact dS_turn (by assumption) (by show _ < intBits ((_ * _) / _); omega)
  refine wpAny_call ?_
  k_dflt (refine' code_def ?k1 ?k2 ?k3 ?k4 ?k5 ?kA ?kF ?kK ?k6 ?k7 ?k8 ?k9 ?kB ?_ ?c2 ?c3 ?c4 ?c5; (case kA => exact rfl); (case kF => exact rfl); (case kK => assumption); (case k1 => k_asm); (case k2 => k_asm); (case k3 => k_asm); (case k4 => k_asm); (case k5 => k_asm); (case k6 => k_is); (case k7 => k_is); (case k8 => ktr_room); (case k9 => exact binds_K (by k_in) rfl (by k_is) rfl rfl rfl); (case c5 => decide); (case kB => exact locs rfl); (case c2 => exact rfl); (case c3 => exact rfl); (case c4 => exact rfl); k_whole; intro g' L' h' FG' F' N' B' X' T'; (try dsimp only); (try k_lift B'); (try k_fold))
  k_steps
  refine Stop.mk ?_
  refine floordiv_pos hM (bits_mono hM2) ?_
  k_steps
  refine Stop.mk ?_
  refine P.str_of_int (log_of_bits hM2) ?_
  k_steps
  refine len_digs hM2 ?_
  have hTp := tOf_pos (Int.le_of_lt hM) hL
  have hTl := tOf_le (by decide) hM2 hL
  have hTp' : 0 < -((-10 * digs M) / (3 * LL)) := hTp
  have hTl' : -((-10 * digs M) / (3 * LL)) ≤ 10 * (1000 + 1) := hTl
  have hR' : intBits ((x * 2 ^ LL.toNat) / M) ≤ 1000 := hR
  k_steps
  refine Stop.mk ?_
  refine floordiv_pos (by omega) (bits_small (b := 1000) (by omega) (by omega)) ?_
  k_steps
  refine Stop.mk ?_
  (with_unfolding_all refine' c_div ?k1_1 ?k2_1 ?k3_1 ?k4_1 ?k5_1 ?kK_1 ?kp_1 ?kq_1 ?kd_1 ?ku_1 ?kR_1); (case k1_1 => k_asm); (case k2_1 => k_asm); (case k3_1 => k_asm); (case k4_1 => k_asm); (case k5_1 => k_asm); (case kK_1 => first | exact rfl | assumption); (case kp_1 => exact hTp); (case kq_1 => exact bits_small hTp hTl); (case kd_1 => ktr_room); (case ku_1 => ktr_units); (intro t9 h9 tk9 F9 N9); (try dsimp only); (try k_fold)
  k_steps
  refine Stop.mk ?_
  have hMsp : 0 < M * 2 ^ rOf M x LL := shl_pos hM _
  have hMsb : intBits (M * 2 ^ rOf M x LL) ≤ 2001 := shl_bits hM2 (by omega)
  k_state (fun pre y => y = eS x (M * 2 ^ rOf M x LL) (tOf M LL) pre.length) "y"
  · subst kInv
    have heb := he kPre.length (by show _ < -((-10 * digs M) / (3 * LL)); omega)
    have hsb : intBits (M * 2 ^ rOf M x LL + eS x (M * 2 ^ rOf M x LL) (tOf M LL) kPre.length) ≤ 3001 := bits_mono (intBits_add_le hMsb heb)
    k_steps
    refine mul_int ?_ (mul_ok hx hsb)
    k_steps
    refine Stop.mk ?_
    (with_unfolding_all refine' c_div ?k1_2 ?k2_2 ?k3_2 ?k4_2 ?k5_2 ?kK_2 ?kp_2 ?kq_2 ?kd_2 ?ku_2 ?kR_2); (case k1_2 => k_asm); (case k2_2 => k_asm); (case k3_2 => k_asm); (case k4_2 => k_asm); (case k5_2 => k_asm); (case kK_2 => first | exact rfl | assumption); (case kp_2 => exact Int.mul_pos hMsp (by omega)); (case kq_2 => exact bits_mono (intBits_mul_le hMsb (PySem.intBits_le_64 (by omega) (by omega)))); (case kd_2 => ktr_room); (case ku_2 => ktr_units); (intro t9 h9 tk9 F9 N9); (try dsimp only); (try k_fold)
    k_steps
  · have kI2 : _ = iexpY M x LL := kInv.trans (iexpY_of (by rw [downKs_length]; show _ = (-((-10 * digs M) / (3 * LL)) - 1).toNat; omega))
    clear kInv
    subst kI2
    k_steps
    refine Stop.mk ?_
    k_state (fun pre y => y = dS M (rOf M x LL) (iexpY M x LL) pre.length) "y"
    · subst kInv
      have hdb := hdd kPre.length (by show _ ≤ intBits ((x * 2 ^ LL.toNat) / M); omega)
      have hMkb : intBits (M * 2 ^ (kN + 2).toNat) ≤ 2010 := shl_bits hM2 (by omega)
      have hyM : intBits (dS M (rOf M x LL) (iexpY M x LL) kPre.length + M * 2 ^ (kN + 2).toNat) ≤ 3001 := bits_mono (intBits_add_le hdb hMkb)
      k_steps
      refine mul_int ?_ (mul_ok hdb hyM)
      k_steps
      refine Stop.mk ?_
      (with_unfolding_all refine' c_div ?k1_3 ?k2_3 ?k3_3 ?k4_3 ?k5_3 ?kK_3 ?kp_3 ?kq_3 ?kd_3 ?ku_3 ?kR_3); (case k1_3 => k_asm); (case k2_3 => k_asm); (case k3_3 => k_asm); (case k4_3 => k_asm); (case k5_3 => k_asm); (case kK_3 => first | exact rfl | assumption); (case kp_3 => exact shl_pos hM _); (case kq_3 => exact bits_mono hMkb); (case kd_3 => ktr_room); (case ku_3 => ktr_units); (intro t9 h9 tk9 F9 N9); (try dsimp only); (try k_fold)
      k_steps
    · subst kInv
      k_steps
      refine cb_retI (Q := Q) hret ?e1 ?e2 ?e3
      case e2 => k_asm
      case e3 => first | k_asm | (refine' cb_drop ?cbN ?cbS; (case cbN => assumption); (case cbS => kcj_all))
      case e1 => exact iexpF_of (by rw [downKs_length]; show _ = intBits ((x * 2 ^ LL.toNat) / M); omega)
theorem c_iexpV {x M LL v : Int} {ta tb tc : Tok} (B : Below A₀ base outer h₀) (F : Fr h₀ L s.heap m) (X : (hd04.heap_39 w.params).In h₀) (N : News h₀ L s.heap news) (T : Top hd04.view_39 loose mean mg mb h₀) (hk : cs.kind = .function)
  (hM : 0 < M) (hM2 : intBits M ≤ 1000) (hL : 0 < LL) (hL2 : LL ≤ 100) (hx : intBits x ≤ 2000) (hR : rOf M x LL ≤ 1000)
  (he : ∀ j : Nat, (j : Int) < tOf M LL → intBits (eS x (M * 2 ^ rOf M x LL) (tOf M LL) j) ≤ 3000)
  (hdd : ∀ j : Nat, j ≤ rOf M x LL → intBits (dS M (rOf M x LL) (iexpY M x LL) j) ≤ 3000)
  (hv : iexpF M x LL = v) (hd : dp + 4 < recursionLimit) (hu : un + 40 < cLine)
  (hret : ∀ (t : Tok) (h' : Heap) (tk' : Nat), Fr h₀ L h' m → News h₀ L h' news → Q (.int v t) { s with heap := h', toks := tk' }) :
  wpAny (model PySem.Challenge.rw_dm0269_04.row.prog w) (ktrTop dp un gd cn cs L ca ccd cl outer) (call (.ref 51) [.int x ta, .int M tb, .int LL tc]) Q E s := by
  subst hv
  exact c_iexp B F X N T hk hM hM2 hL hL2 hx hR he hdd hd hu hret

end
end Mine

local macro_rules | `(tactic| walk_at "storeName") => `(tactic| (k_here; (with_reducible show wpAny _ _ (storeName _ (PySem.Str.ofString "k") (Value.int _ _)) _ _ _); refine Mine.Stop.out ?_))
local macro_rules | `(tactic| walk_at "storeName") => `(tactic| (k_here; (with_reducible show wpAny _ _ (storeName _ (PySem.Str.ofString "M") (Value.int _ _)) _ _ _); refine Mine.Stop.out ?_))
local macro_rules | `(tactic| walk_at "storeName") => `(tactic| (k_here; (with_reducible show wpAny _ _ (storeName _ (PySem.Str.ofString "L") (Value.int _ _)) _ _ _); refine Mine.Stop.out ?_))
local macro_rules | `(tactic| walk_at "storeName") => `(tactic| (k_here; (with_reducible show wpAny _ _ (storeName _ (PySem.Str.ofString "most") (Value.int _ _)) _ _ _); refine Mine.Stop.out ?_))
local macro_rules | `(tactic| walk_at "storeName") => `(tactic| (k_here; (with_reducible show wpAny _ _ (storeName _ (PySem.Str.ofString "bits") (Value.int _ _)) _ _ _); refine Mine.Stop.out ?_))
namespace Mine
open PySem.Builtin.Int (intBits)
theorem w04 : PySem.Challenge.rw_dm0269_04.Holds := hd04 (by
  k_go0; (all_goals try k_fold)
  k_steps
  refine Stop.mk ?_
  refine gen_int (P := fun x => wpAny _ _ (storeName _ _ (Value.int x _)) _ _ _) _ ?_
  intro k hk0
  obtain ⟨hk, hk2⟩ := k_range (by assumption) (by assumption) hk0
  clear hk0
  have hkb := bits_k hk hk2
  refine storeX_L (by k_asm) (by k_asm) ?_
  intro h' F' N'
  (try k_sweep)
  k_steps
  refine Stop.mk ?_
  refine gen_int (P := fun x => wpAny _ _ (storeName _ _ (Value.int x _)) _ _ _) _ ?_
  intro M hM0
  have hM1 : k * k ≤ M := by omega
  have hM2 : M ≤ k * k + 2 * k := by omega
  clear hM0
  have hMk := big_M hk hM1
  have hM0 : 0 < M := by omega
  have hMb : intBits M ≤ 1000 := bits_mono (bits_abs (b := 4 * M) (by omega) (by omega) (bits_M (by omega) hk2 hM2 hM0))
  refine storeX_L (by k_asm) (by k_asm) ?_
  intro h' F' N'
  (try k_sweep)
  k_steps
  refine Stop.mk ?_
  refine gen_int (P := fun x => wpAny _ _ (storeName _ _ (Value.int x _)) _ _ _) _ ?_
  intro LL hL0
  have hL : 0 < LL := by omega
  have hL2 : LL ≤ 100 := by omega
  clear hL0
  refine storeX_L (by k_asm) (by k_asm) ?_
  intro h' F' N'
  (try k_sweep)
  k_steps
  rename Int => n2
  refine Stop.mk ?_
  ktu_seq
  k_steps
  refine Stop.mk ?_
  ktu_seq
  k_steps
  obtain ⟨R₁, a1, a2, a3, a4, a5, a6⟩ := pre04_ilog (d := k - 1) hk hk2 hM1 hM2 (by omega) (by omega) hL hL2
  refine Stop.mk ?_
  (with_unfolding_all refine' c_ilogV R₁ ?k1_1 ?k2_1 ?k3_1 ?k4_1 ?k5_1 ?kK_1 ?p1_1 ?p2_1 ?p3_1 ?p4_1 ?p5_1 ?p6_1 ?p7_1 ?p8_1 ?p9_1 ?p10_1 ?kd_1 ?ku_1 ?kR_1); (case k1_1 => k_asm); (case k2_1 => k_asm); (case k3_1 => k_asm); (case k4_1 => k_asm); (case k5_1 => k_asm); (case kK_1 => first | exact rfl | assumption); (case p1_1 => exact hM0); (case p2_1 => exact hMb); (case p3_1 => exact hL); (case p4_1 => exact hL2); (case p5_1 => exact a1); (case p6_1 => exact a2); (case p7_1 => exact a3); (case p8_1 => exact a4); (case p9_1 => exact a5); (case p10_1 => exact a6); (case kd_1 => ktr_room); (case ku_1 => ktr_units); (intro t9 h9 tk9 F9 N9); (try dsimp only); (try k_fold)
  clear a1 a2 a3 a4 a5 a6
  k_steps
  obtain ⟨a1, a2, a3, a4, a5⟩ := pre04_iexp (d := k - 1) hk hk2 hM1 hM2 (by omega) (by omega) hL hL2
  refine Stop.mk ?_
  (with_unfolding_all refine' c_iexpV ?k1_2 ?k2_2 ?k3_2 ?k4_2 ?k5_2 ?kK_2 ?p1_2 ?p2_2 ?p3_2 ?p4_2 ?p5_2 ?p6_2 ?p7_2 ?p8_2 ?p9_2 ?kd_2 ?ku_2 ?kR_2); (case k1_2 => k_asm); (case k2_2 => k_asm); (case k3_2 => k_asm); (case k4_2 => k_asm); (case k5_2 => k_asm); (case kK_2 => first | exact rfl | assumption); (case p1_2 => exact hM0); (case p2_2 => exact hMb); (case p3_2 => exact hL); (case p4_2 => exact hL2); (case p5_2 => exact a1); (case p6_2 => exact a2); (case p7_2 => exact a3); (case p8_2 => exact a4); (case p9_2 => exact a5); (case kd_2 => ktr_room); (case ku_2 => ktr_units); (intro t9 h9 tk9 F9 N9); (try dsimp only); (try k_fold)
  clear a1 a2 a3 a4 a5
  k_steps
  obtain ⟨R₁, a1, a2, a3, a4, a5, a6⟩ := pre04_ilog (d := -(k - 1)) hk hk2 hM1 hM2 (by omega) (by omega) hL hL2
  refine Stop.mk ?_
  (with_unfolding_all refine' c_ilogV R₁ ?k1_3 ?k2_3 ?k3_3 ?k4_3 ?k5_3 ?kK_3 ?p1_3 ?p2_3 ?p3_3 ?p4_3 ?p5_3 ?p6_3 ?p7_3 ?p8_3 ?p9_3 ?p10_3 ?kd_3 ?ku_3 ?kR_3); (case k1_3 => k_asm); (case k2_3 => k_asm); (case k3_3 => k_asm); (case k4_3 => k_asm); (case k5_3 => k_asm); (case kK_3 => first | exact rfl | assumption); (case p1_3 => exact hM0); (case p2_3 => exact hMb); (case p3_3 => exact hL); (case p4_3 => exact hL2); (case p5_3 => exact a1); (case p6_3 => exact a2); (case p7_3 => exact a3); (case p8_3 => exact a4); (case p9_3 => exact a5); (case p10_3 => exact a6); (case kd_3 => ktr_room); (case ku_3 => ktr_units); (intro t9 h9 tk9 F9 N9); (try dsimp only); (try k_fold)
  clear a1 a2 a3 a4 a5 a6
  k_steps
  obtain ⟨a1, a2, a3, a4, a5⟩ := pre04_iexp (d := -(k - 1)) hk hk2 hM1 hM2 (by omega) (by omega) hL hL2
  refine Stop.mk ?_
  (with_unfolding_all refine' c_iexpV ?k1_4 ?k2_4 ?k3_4 ?k4_4 ?k5_4 ?kK_4 ?p1_4 ?p2_4 ?p3_4 ?p4_4 ?p5_4 ?p6_4 ?p7_4 ?p8_4 ?p9_4 ?kd_4 ?ku_4 ?kR_4); (case k1_4 => k_asm); (case k2_4 => k_asm); (case k3_4 => k_asm); (case k4_4 => k_asm); (case k5_4 => k_asm); (case kK_4 => first | exact rfl | assumption); (case p1_4 => exact hM0); (case p2_4 => exact hMb); (case p3_4 => exact hL); (case p4_4 => exact hL2); (case p5_4 => exact a1); (case p6_4 => exact a2); (case p7_4 => exact a3); (case p8_4 => exact a4); (case p9_4 => exact a5); (case kd_4 => ktr_room); (case ku_4 => ktr_units); (intro t9 h9 tk9 F9 N9); (try dsimp only); (try k_fold)
  clear a1 a2 a3 a4 a5
  k_steps
  refine Stop.mk ?_
  ktu_seq
  k_steps
  obtain ⟨R₁, a1, a2, a3, a4, a5, a6⟩ := pre04_ilog (d := n2) hk hk2 hM1 hM2 (by omega) (by omega) hL hL2
  refine Stop.mk ?_
  (with_unfolding_all refine' c_ilogV R₁ ?k1_5 ?k2_5 ?k3_5 ?k4_5 ?k5_5 ?kK_5 ?p1_5 ?p2_5 ?p3_5 ?p4_5 ?p5_5 ?p6_5 ?p7_5 ?p8_5 ?p9_5 ?p10_5 ?kd_5 ?ku_5 ?kR_5); (case k1_5 => k_asm); (case k2_5 => k_asm); (case k3_5 => k_asm); (case k4_5 => k_asm); (case k5_5 => k_asm); (case kK_5 => first | exact rfl | assumption); (case p1_5 => exact hM0); (case p2_5 => exact hMb); (case p3_5 => exact hL); (case p4_5 => exact hL2); (case p5_5 => exact a1); (case p6_5 => exact a2); (case p7_5 => exact a3); (case p8_5 => exact a4); (case p9_5 => exact a5); (case p10_5 => exact a6); (case kd_5 => ktr_room); (case ku_5 => ktr_units); (intro t9 h9 tk9 F9 N9); (try dsimp only); (try k_fold)
  clear a1 a2 a3 a4 a5 a6
  k_steps
  obtain ⟨a1, a2, a3, a4, a5⟩ := pre04_iexp (d := n2) hk hk2 hM1 hM2 (by omega) (by omega) hL hL2
  refine Stop.mk ?_
  (with_unfolding_all refine' c_iexpV ?k1_6 ?k2_6 ?k3_6 ?k4_6 ?k5_6 ?kK_6 ?p1_6 ?p2_6 ?p3_6 ?p4_6 ?p5_6 ?p6_6 ?p7_6 ?p8_6 ?p9_6 ?kd_6 ?ku_6 ?kR_6); (case k1_6 => k_asm); (case k2_6 => k_asm); (case k3_6 => k_asm); (case k4_6 => k_asm); (case k5_6 => k_asm); (case kK_6 => first | exact rfl | assumption); (case p1_6 => exact hM0); (case p2_6 => exact hMb); (case p3_6 => exact hL); (case p4_6 => exact hL2); (case p5_6 => exact a1); (case p6_6 => exact a2); (case p7_6 => exact a3); (case p8_6 => exact a4); (case p9_6 => exact a5); (case kd_6 => ktr_room); (case ku_6 => ktr_units); (intro t9 h9 tk9 F9 N9); (try dsimp only); (try k_fold)
  clear a1 a2 a3 a4 a5
  k_steps
  obtain ⟨R₁, a1, a2, a3, a4, a5, a6⟩ := pre04_ilog (d := -n2) hk hk2 hM1 hM2 (by omega) (by omega) hL hL2
  refine Stop.mk ?_
  (with_unfolding_all refine' c_ilogV R₁ ?k1_7 ?k2_7 ?k3_7 ?k4_7 ?k5_7 ?kK_7 ?p1_7 ?p2_7 ?p3_7 ?p4_7 ?p5_7 ?p6_7 ?p7_7 ?p8_7 ?p9_7 ?p10_7 ?kd_7 ?ku_7 ?kR_7); (case k1_7 => k_asm); (case k2_7 => k_asm); (case k3_7 => k_asm); (case k4_7 => k_asm); (case k5_7 => k_asm); (case kK_7 => first | exact rfl | assumption); (case p1_7 => exact hM0); (case p2_7 => exact hMb); (case p3_7 => exact hL); (case p4_7 => exact hL2); (case p5_7 => exact a1); (case p6_7 => exact a2); (case p7_7 => exact a3); (case p8_7 => exact a4); (case p9_7 => exact a5); (case p10_7 => exact a6); (case kd_7 => ktr_room); (case ku_7 => ktr_units); (intro t9 h9 tk9 F9 N9); (try dsimp only); (try k_fold)
  clear a1 a2 a3 a4 a5 a6
  k_steps
  obtain ⟨a1, a2, a3, a4, a5⟩ := pre04_iexp (d := -n2) hk hk2 hM1 hM2 (by omega) (by omega) hL hL2
  refine Stop.mk ?_
  (with_unfolding_all refine' c_iexpV ?k1_8 ?k2_8 ?k3_8 ?k4_8 ?k5_8 ?kK_8 ?p1_8 ?p2_8 ?p3_8 ?p4_8 ?p5_8 ?p6_8 ?p7_8 ?p8_8 ?p9_8 ?kd_8 ?ku_8 ?kR_8); (case k1_8 => k_asm); (case k2_8 => k_asm); (case k3_8 => k_asm); (case k4_8 => k_asm); (case k5_8 => k_asm); (case kK_8 => first | exact rfl | assumption); (case p1_8 => exact hM0); (case p2_8 => exact hMb); (case p3_8 => exact hL); (case p4_8 => exact hL2); (case p5_8 => exact a1); (case p6_8 => exact a2); (case p7_8 => exact a3); (case p8_8 => exact a4); (case p9_8 => exact a5); (case kd_8 => ktr_room); (case ku_8 => ktr_units); (intro t9 h9 tk9 F9 N9); (try dsimp only); (try k_fold)
  clear a1 a2 a3 a4 a5
  k_steps
  refine Stop.mk ?_
  refine floordiv_pos (by decide) (bits_small (b := 2) (by decide) (by decide)) ?_
  k_steps
  refine Stop.mk ?_
  refine floordiv_pos (by omega) (bits_mono (bits_abs (b := 4 * M) (by omega) (by omega) (bits_M (by omega) hk2 hM2 hM0))) ?_
  k_steps
  rename Int => rn
  refine Stop.mk ?_
  refine gen_int (P := fun x => wpAny _ _ (storeName _ _ (Value.int x _)) _ _ _) _ ?_
  intro most hm0
  have hn1 : k + 2 ≤ k + 2 + rn := by omega
  have hn2 : 2 * (k + 2 + rn) ≤ 3 * k := by omega
  obtain ⟨hm1, hm2, hm3⟩ := most_range hk hk2 hM1 hM2 (by omega) hn2 hm0
  clear hm0
  refine storeX_L (by k_asm) (by k_asm) ?_
  intro h' F' N'
  (try k_sweep)
  k_steps
  refine Stop.mk ?_
  refine gen_int (P := fun x => wpAny _ _ (storeName _ _ (Value.int x _)) _ _ _) _ ?_
  intro b hb0
  have hb : 0 < b := by omega
  have hb2 : b ≤ 100 := by omega
  have hnb := bits_less (show 0 < k + 2 + rn by omega) (show b ≤ most by omega) (Int.le_of_lt hb) hm3
  clear hb0
  refine storeX_L (by k_asm) (by k_asm) ?_
  intro h' F' N'
  (try k_sweep)
  k_steps
  refine Stop.mk ?_
  ktu_seq
  k_steps
  obtain ⟨a2, a3, a4, a5, a6⟩ := pre04b_ilog (d := k + 2 + rn) hk hk2 hM1 hM2 hn1 hn2 hb hnb (by omega) (by omega) (by omega)
  refine Stop.mk ?_
  (with_unfolding_all refine' c_ilogV 0 ?k1_9 ?k2_9 ?k3_9 ?k4_9 ?k5_9 ?kK_9 ?p1_9 ?p2_9 ?p3_9 ?p4_9 ?p5_9 ?p6_9 ?p7_9 ?p8_9 ?p9_9 ?p10_9 ?kd_9 ?ku_9 ?kR_9); (case k1_9 => k_asm); (case k2_9 => k_asm); (case k3_9 => k_asm); (case k4_9 => k_asm); (case k5_9 => k_asm); (case kK_9 => first | exact rfl | assumption); (case p1_9 => exact hM0); (case p2_9 => exact hMb); (case p3_9 => exact hb); (case p4_9 => exact hb2); (case p5_9 => exact Nat.zero_le _); (case p6_9 => exact a2); (case p7_9 => exact a3); (case p8_9 => exact a4); (case p9_9 => exact a5); (case p10_9 => exact a6); (case kd_9 => ktr_room); (case ku_9 => ktr_units); (intro t9 h9 tk9 F9 N9); (try dsimp only); (try k_fold)
  clear a2 a3 a4 a5 a6
  k_steps
  obtain ⟨a2, a3, a4, a5, a6⟩ := pre04b_ilog (d := k + 2) hk hk2 hM1 hM2 hn1 hn2 hb hnb (by omega) (by omega) (by omega)
  refine Stop.mk ?_
  (with_unfolding_all refine' c_ilogV 0 ?k1_10 ?k2_10 ?k3_10 ?k4_10 ?k5_10 ?kK_10 ?p1_10 ?p2_10 ?p3_10 ?p4_10 ?p5_10 ?p6_10 ?p7_10 ?p8_10 ?p9_10 ?p10_10 ?kd_10 ?ku_10 ?kR_10); (case k1_10 => k_asm); (case k2_10 => k_asm); (case k3_10 => k_asm); (case k4_10 => k_asm); (case k5_10 => k_asm); (case kK_10 => first | exact rfl | assumption); (case p1_10 => exact hM0); (case p2_10 => exact hMb); (case p3_10 => exact hb); (case p4_10 => exact hb2); (case p5_10 => exact Nat.zero_le _); (case p6_10 => exact a2); (case p7_10 => exact a3); (case p8_10 => exact a4); (case p9_10 => exact a5); (case p10_10 => exact a6); (case kd_10 => ktr_room); (case ku_10 => ktr_units); (intro t9 h9 tk9 F9 N9); (try dsimp only); (try k_fold)
  clear a2 a3 a4 a5 a6
  k_steps
  obtain ⟨a2, a3, a4, a5, a6⟩ := pre04b_ilog (d := -(k + 2 + rn)) hk hk2 hM1 hM2 hn1 hn2 hb hnb (by omega) (by omega) (by omega)
  refine Stop.mk ?_
  (with_unfolding_all refine' c_ilogV 0 ?k1_11 ?k2_11 ?k3_11 ?k4_11 ?k5_11 ?kK_11 ?p1_11 ?p2_11 ?p3_11 ?p4_11 ?p5_11 ?p6_11 ?p7_11 ?p8_11 ?p9_11 ?p10_11 ?kd_11 ?ku_11 ?kR_11); (case k1_11 => k_asm); (case k2_11 => k_asm); (case k3_11 => k_asm); (case k4_11 => k_asm); (case k5_11 => k_asm); (case kK_11 => first | exact rfl | assumption); (case p1_11 => exact hM0); (case p2_11 => exact hMb); (case p3_11 => exact hb); (case p4_11 => exact hb2); (case p5_11 => exact Nat.zero_le _); (case p6_11 => exact a2); (case p7_11 => exact a3); (case p8_11 => exact a4); (case p9_11 => exact a5); (case p10_11 => exact a6); (case kd_11 => ktr_room); (case ku_11 => ktr_units); (intro t9 h9 tk9 F9 N9); (try dsimp only); (try k_fold)
  clear a2 a3 a4 a5 a6
  k_steps
  obtain ⟨a2, a3, a4, a5, a6⟩ := pre04b_ilog (d := -k - 1) hk hk2 hM1 hM2 hn1 hn2 hb hnb (by omega) (by omega) (by omega)
  refine Stop.mk ?_
  (with_unfolding_all refine' c_ilogV 0 ?k1_12 ?k2_12 ?k3_12 ?k4_12 ?k5_12 ?kK_12 ?p1_12 ?p2_12 ?p3_12 ?p4_12 ?p5_12 ?p6_12 ?p7_12 ?p8_12 ?p9_12 ?p10_12 ?kd_12 ?ku_12 ?kR_12); (case k1_12 => k_asm); (case k2_12 => k_asm); (case k3_12 => k_asm); (case k4_12 => k_asm); (case k5_12 => k_asm); (case kK_12 => first | exact rfl | assumption); (case p1_12 => exact hM0); (case p2_12 => exact hMb); (case p3_12 => exact hb); (case p4_12 => exact hb2); (case p5_12 => exact Nat.zero_le _); (case p6_12 => exact a2); (case p7_12 => exact a3); (case p8_12 => exact a4); (case p9_12 => exact a5); (case p10_12 => exact a6); (case kd_12 => ktr_room); (case ku_12 => ktr_units); (intro t9 h9 tk9 F9 N9); (try dsimp only); (try k_fold)
  clear a2 a3 a4 a5 a6
  k_steps
  refine Stop.mk ?_
  ktu_seq
  k_steps
  obtain ⟨a1, a2, a3, a4, a5⟩ := pre04b_iexp (d := k + 2 + rn) hk hk2 hM1 hM2 hn1 hn2 hb hnb (by omega) (by omega)
  refine Stop.mk ?_
  (with_unfolding_all refine' c_iexpV ?k1_13 ?k2_13 ?k3_13 ?k4_13 ?k5_13 ?kK_13 ?p1_13 ?p2_13 ?p3_13 ?p4_13 ?p5_13 ?p6_13 ?p7_13 ?p8_13 ?p9_13 ?kd_13 ?ku_13 ?kR_13); (case k1_13 => k_asm); (case k2_13 => k_asm); (case k3_13 => k_asm); (case k4_13 => k_asm); (case k5_13 => k_asm); (case kK_13 => first | exact rfl | assumption); (case p1_13 => exact hM0); (case p2_13 => exact hMb); (case p3_13 => exact hb); (case p4_13 => exact hb2); (case p5_13 => exact a1); (case p6_13 => exact a2); (case p7_13 => exact a3); (case p8_13 => exact a4); (case p9_13 => exact a5); (case kd_13 => ktr_room); (case ku_13 => ktr_units); (intro t9 h9 tk9 F9 N9); (try dsimp only); (try k_fold)
  clear a1 a2 a3 a4 a5
  k_steps
  obtain ⟨a1, a2, a3, a4, a5⟩ := pre04b_iexp (d := k + 1) hk hk2 hM1 hM2 hn1 hn2 hb hnb (by omega) (by omega)
  refine Stop.mk ?_
  (with_unfolding_all refine' c_iexpV ?k1_14 ?k2_14 ?k3_14 ?k4_14 ?k5_14 ?kK_14 ?p1_14 ?p2_14 ?p3_14 ?p4_14 ?p5_14 ?p6_14 ?p7_14 ?p8_14 ?p9_14 ?kd_14 ?ku_14 ?kR_14); (case k1_14 => k_asm); (case k2_14 => k_asm); (case k3_14 => k_asm); (case k4_14 => k_asm); (case k5_14 => k_asm); (case kK_14 => first | exact rfl | assumption); (case p1_14 => exact hM0); (case p2_14 => exact hMb); (case p3_14 => exact hb); (case p4_14 => exact hb2); (case p5_14 => exact a1); (case p6_14 => exact a2); (case p7_14 => exact a3); (case p8_14 => exact a4); (case p9_14 => exact a5); (case kd_14 => ktr_room); (case ku_14 => ktr_units); (intro t9 h9 tk9 F9 N9); (try dsimp only); (try k_fold)
  clear a1 a2 a3 a4 a5
  k_steps
)
end Mine


theorem PySem.Challenge.cw_dm0269_04_holds : PySem.Challenge.rw_dm0269_04.Holds :=
  Mine.w04
