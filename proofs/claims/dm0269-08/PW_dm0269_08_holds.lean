import PyProof.Rows.All
import Wide.All
import OpenK.AllK
import Wide.FinOn
import Lean
import PySem.Challenge.RW_dm0269_08
open PySem PySem.W PyProof.Rows
set_option Elab.async false
set_option maxRecDepth 100000
set_option maxHeartbeats 8000000
set_option linter.all false

namespace Mine
open PySem.Builtin.Int (intBits)

/-- the nearest whole number to a / b, ties to even -/
def divN (a b : Int) : Int := a / b + (if b < 2 * (a % b) + a / b % 2 then 1 else 0)

theorem divN_of {a b : Int} (hb : 0 < b) :
    (a.fdiv b + if decide (b < 2 * a.fmod b + Builtin.bitAnd (a.fdiv b) 1) = true then 1 else 0) = divN a b := by
  rw [Int.fdiv_eq_ediv_of_nonneg _ (Int.le_of_lt hb), Int.fmod_eq_emod_of_nonneg _ (Int.le_of_lt hb), bitAnd_m1]
  simp only [decide_eq_true_eq]
  rfl

theorem noPy {a b : Int} {Z : Prop} (h : intBits b ≤ 9000) : Builtin.divisionGoesByPylong a b = false ∨ Z := by
  refine Or.inl (PyProof.noPylong_of_log2 ?_)
  unfold PySem.Builtin.Int.intBits at h
  by_cases hb : (b == 0) = true
  · have : b = 0 := by simpa using hb
    subst this; decide +kernel
  · rw [if_neg hb] at h; omega

theorem rshN_of {a : Int} (n : Int) :
    (a.fdiv (2 ^ n.toNat) + if decide (1 * 2 ^ n.toNat < 2 * Builtin.bitAnd a (1 * 2 ^ n.toNat - 1) + Builtin.bitAnd (a.fdiv (2 ^ n.toNat)) 1) = true then 1 else 0) = divN a (2 ^ n.toNat) := by
  have hp : (0 : Int) < 2 ^ n.toNat := Int.pow_pos (by decide)
  rw [Int.one_mul, kbt_mask, Int.fdiv_eq_ediv_of_nonneg _ (Int.le_of_lt hp), bitAnd_m1]
  simp only [decide_eq_true_eq]
  rfl

/-! the turn of the Newton loop -/
def sqStep (n a : Int) : Int := (a - (-n) / a) / 2

theorem sqStep_of {n a : Int} (ha : 0 < a) : (a - (-n).fdiv a).fdiv (2 ^ (1 : Int).toNat) = sqStep n a := by
  rw [Int.fdiv_eq_ediv_of_nonneg _ (Int.le_of_lt ha)]
  exact Int.fdiv_eq_ediv_of_nonneg _ (by decide)

/-- what a turn yields, by the two bounds of the quotient c = ceil (n / a) -/
theorem sqStep_facts {n a : Int} (hn : 0 < n) (ha : 0 < a) :
    ∃ c, 0 < c ∧ a * (c - 1) < n ∧ n ≤ a * c ∧ sqStep n a = (a + c) / 2 := by
  refine ⟨-((-n) / a), ?_, ?_, ?_, ?_⟩
  · have := Int.mul_ediv_add_emod (-n) a
    have h2 := Int.emod_nonneg (-n) (by omega : a ≠ 0)
    have h3 := Int.emod_lt_of_pos (-n) ha
    rcases Int.lt_or_le ((-n) / a) 0 with h | h
    · omega
    · have := Int.mul_nonneg (Int.le_of_lt ha) h
      omega
  · have := Int.mul_ediv_add_emod (-n) a
    have h2 := Int.emod_nonneg (-n) (by omega : a ≠ 0)
    have h3 := Int.emod_lt_of_pos (-n) ha
    have e : a * (-((-n) / a) - 1) = -(a * ((-n) / a)) - a := by rw [Int.mul_sub, Int.mul_neg, Int.mul_one]
    omega
  · have := Int.mul_ediv_add_emod (-n) a
    have h2 := Int.emod_nonneg (-n) (by omega : a ≠ 0)
    have e : a * (-((-n) / a)) = -(a * ((-n) / a)) := by rw [Int.mul_neg]
    omega
  · unfold sqStep
    congr 1

theorem int_sq_nonneg (a : Int) : 0 ≤ a * a := by
  rcases Int.le_total 0 a with h | h
  · exact Int.mul_nonneg h h
  · exact Int.mul_nonneg_of_nonpos_of_nonpos h h

theorem sqStep_pos {n a : Int} (hn : 0 < n) (ha : 0 < a) : 0 < sqStep n a := by
  obtain ⟨c, h1, _, _, h4⟩ := sqStep_facts hn ha
  omega

theorem sqStep_le {n a B : Int} (hn : 0 < n) (ha : 0 < a) (hB : a ≤ B) (hnB : n ≤ B) : sqStep n a ≤ B := by
  obtain ⟨c, h1, h2, h3, h4⟩ := sqStep_facts hn ha
  have : c ≤ n := by
    rcases Int.lt_or_le n c with h | h
    · have h5 : 1 * (c - 1) ≤ a * (c - 1) := Int.mul_le_mul_of_nonneg_right (by omega) (by omega)
      omega
    · exact h
  omega

/-- behind a turn a (a + 1) is no less than n -/
theorem sqStep_over {n a : Int} (hn : 0 < n) (ha : 0 < a) : n ≤ sqStep n a * (sqStep n a + 1) := by
  obtain ⟨c, h1, h2, h3, h4⟩ := sqStep_facts hn ha
  generalize sqStep n a = d at h4 ⊢
  -- a + c is 2 d or 2 d + 1
  have h5 : a + c = 2 * d ∨ a + c = 2 * d + 1 := by omega
  rcases h5 with h5 | h5
  · have e : c = 2 * d - a := by omega
    subst e
    have := int_sq_nonneg (a - d)
    grind
  · have e : c = 2 * d + 1 - a := by omega
    subst e
    have : 0 ≤ (a - d) * (a - d - 1) := by
      rcases Int.lt_or_le d a with h | h
      · exact Int.mul_nonneg (by omega) (by omega)
      · have := Int.mul_nonneg (show 0 ≤ d - a by omega) (show 0 ≤ d + 1 - a by omega)
        grind
    grind

/-- from there on it does not rise -/
theorem sqStep_down {n a : Int} (hn : 0 < n) (ha : 0 < a) (h : n ≤ a * (a + 1)) : sqStep n a ≤ a := by
  obtain ⟨c, h1, h2, h3, h4⟩ := sqStep_facts hn ha
  have : c ≤ a + 1 := by
    rcases Int.lt_or_le (a + 1) c with h' | h'
    · have := Int.mul_le_mul_of_nonneg_left (show a + 1 ≤ c - 1 by omega) (Int.le_of_lt ha)
      omega
    · exact h'
  omega

/-- where it stands still: the nearest root -/
theorem sqStep_still {n a : Int} (hn : 0 < n) (ha : 0 < a) (h : sqStep n a = a) : a * a - a < n ∧ n ≤ a * a + a := by
  obtain ⟨c, h1, h2, h3, h4⟩ := sqStep_facts hn ha
  have h5 : c = a ∨ c = a + 1 := by omega
  rcases h5 with rfl | rfl
  · constructor
    · grind
    · grind
  · constructor
    · grind
    · grind

/-- the nearest root, as a number -/
def IsRoot (n r : Int) : Prop := 0 < r ∧ r * r - r < n ∧ n ≤ r * r + r

/-- what holds between two turns: a, b of the loop -/
def SqInv (n a₀ a b : Int) : Prop := 0 < a ∧ a ≤ max a₀ n ∧ (b = 0 ∨ (0 < b ∧ a = sqStep n b ∧ n ≤ a * (a + 1)))
def sqMeas (n a₀ a b : Int) : Nat := if b = 0 then (2 * max a₀ n + 2).toNat else (2 * a + (if a = b then 0 else 1)).toNat

theorem sqInv_start {n a₀ : Int} (h : 0 < a₀) : SqInv n a₀ a₀ 0 := ⟨h, by omega, .inl rfl⟩
theorem sqInv_turn {n a₀ a b : Int} (hn : 0 < n) (h : SqInv n a₀ a b) : SqInv n a₀ (sqStep n a) a :=
  ⟨sqStep_pos hn h.1, sqStep_le hn h.1 h.2.1 (by omega), .inr ⟨h.1, rfl, sqStep_over hn h.1⟩⟩
theorem sqInv_less {n a₀ a b : Int} (hn : 0 < n) (h : SqInv n a₀ a b) (hne : ¬ a = b) : sqMeas n a₀ (sqStep n a) a < sqMeas n a₀ a b := by
  have h1 := h.1
  have h2 := sqStep_pos hn h1
  have h3 := sqStep_le hn h1 h.2.1 (show n ≤ max a₀ n by omega)
  unfold sqMeas
  rw [if_neg (show ¬ a = 0 by omega)]
  rcases h.2.2 with hb | ⟨hb, e, ho⟩
  · rw [if_pos hb]
    split <;> omega
  · rw [if_neg (show ¬ b = 0 by omega), if_neg hne]
    have := sqStep_down hn h1 ho
    split <;> omega
theorem sqInv_done {n a₀ a b : Int} (hn : 0 < n) (h : SqInv n a₀ a b) (e : a = b) : IsRoot n a := by
  rcases h.2.2 with hb | ⟨hb, e2, ho⟩
  · have := h.1; omega
  · subst e
    exact ⟨h.1, sqStep_still hn h.1 e2.symm⟩

theorem bits_le_max {a b : Int} {k : Nat} (ha : intBits a ≤ k) (hb : intBits b ≤ k) {x : Int} (h0 : 0 < x) (h : x ≤ max a b) : intBits x ≤ k := by
  have h1 := intBits_le_iff.mp ha
  have h2 := intBits_le_iff.mp hb
  refine intBits_le_iff.mpr ?_
  generalize 2 ^ k = t at h1 h2 ⊢
  omega

theorem root_unique {n a b : Int} (ha : IsRoot n a) (hb : IsRoot n b) : a = b := by
  obtain ⟨a0, a1, a2⟩ := ha
  obtain ⟨b0, b1, b2⟩ := hb
  rcases Int.lt_trichotomy a b with h | h | h
  · have := Int.mul_le_mul (show a ≤ b - 1 by omega) (show a + 1 ≤ b by omega) (by omega) (by omega)
    have e1 : a * (a + 1) = a * a + a := by grind
    have e2 : (b - 1) * b = b * b - b := by grind
    omega
  · exact h
  · have := Int.mul_le_mul (show b ≤ a - 1 by omega) (show b + 1 ≤ a by omega) (by omega) (by omega)
    have e1 : b * (b + 1) = b * b + b := by grind
    have e2 : (a - 1) * a = a * a - a := by grind
    omega

noncomputable def sqrtN (n : Int) : Int := Classical.epsilon (IsRoot n)
theorem sqrtN_of {n r : Int} (h : IsRoot n r) : r = sqrtN n := root_unique h (Classical.epsilon_spec (p := IsRoot n) ⟨r, h⟩)

/-- y behind R halvings -/
noncomputable def yH (M x : Int) : Nat → Int
  | 0 => x - M
  | R + 1 => divN (M * yH M x R * 2) (M + sqrtN (M * (M + divN (yH M x R) (2 ^ R))))

/-- the series' sum behind j turns -/
def wS (M ys T : Int) : Nat → Int
  | 0 => divN M T
  | j + 1 => divN M (T - 1 - (j : Int)) - divN (ys * wS M ys T j) M

/-- the halving loop's test -/
def Halves (M L y : Int) (R : Nat) : Prop := M * 2 ^ R ≤ (y.natAbs : Int) * 2 ^ L.toNat

theorem two_pow_pos (n : Nat) : (0 : Int) < 2 ^ n := Int.pow_pos (by decide)

theorem log_of_bits {a : Int} {k : Nat} (h : intBits a ≤ k) (hk : k ≤ 1900 := by decide) : a.natAbs.log2 < 1920 := by
  unfold PySem.Builtin.Int.intBits at h
  by_cases hb : (a == 0) = true
  · have : a = 0 := by simpa using hb
    subst this; decide +kernel
  · rw [if_neg hb] at h; omega

/-- how many signs a number's text has -/
def digs (M : Int) : Int := ((Str.ofString (toString M)).length : Int)

theorem divN_bits {a b : Int} {k : Nat} (hb : 0 < b) (ha : intBits a ≤ k) : intBits (divN a b) ≤ k + 1 := by
  have h1 := intBits_le_iff.mp ha
  refine intBits_le_iff.mpr ?_
  have h2 : (a / b).natAbs ≤ a.natAbs := by
    have := natAbs_fdiv_le a b
    rwa [Int.fdiv_eq_ediv_of_nonneg _ (Int.le_of_lt hb)] at this
  rw [Nat.pow_succ]
  have hp : 0 < 2 ^ k := Nat.two_pow_pos k
  unfold divN
  generalize 2 ^ k = t at h1 hp ⊢
  generalize a / b = q at h2 ⊢
  split <;> omega

theorem bits_mono {a : Int} {j k : Nat} (h : intBits a ≤ j) (hk : j ≤ k := by decide) : intBits a ≤ k := Nat.le_trans h hk

theorem Halves_up {M L y : Int} {j : Nat} (hj : (j : Int) ≤ L) : Halves M L y j ↔ M ≤ (if y < 0 then -y else y) * 2 ^ (L - (j : Int)).toNat := by
  have e : (y.natAbs : Int) = (if y < 0 then -y else y) := by split <;> omega
  have e2 : L.toNat = (L - (j : Int)).toNat + j := by omega
  have hp := two_pow_pos j
  unfold Halves
  rw [e, e2, Int.pow_add, ← Int.mul_assoc]
  exact Int.mul_le_mul_right hp
theorem Halves_down {M L y : Int} {j : Nat} (hL : 0 ≤ L) (hj : ¬ (j : Int) ≤ L) : Halves M L y j ↔ M ≤ (if y < 0 then -y else y).fdiv (2 ^ ((j : Int) - L).toNat) := by
  have e : (y.natAbs : Int) = (if y < 0 then -y else y) := by split <;> omega
  have e2 : j = ((j : Int) - L).toNat + L.toNat := by omega
  have hp := two_pow_pos L.toNat
  have hp2 := two_pow_pos ((j : Int) - L).toNat
  unfold Halves
  rw [Int.fdiv_eq_ediv_of_nonneg _ (Int.le_of_lt hp2), Int.le_ediv_iff_mul_le hp2, ← e]
  generalize ((j : Int) - L).toNat = d at *
  rw [e2, Int.pow_add, ← Int.mul_assoc]
  exact Int.mul_le_mul_right hp

/-- a size, told under a name of its own -/
structure Bd (k : Nat) (a : Int) : Prop where
  out : intBits a ≤ k
theorem abs_shl {a n : Int} {k : Nat} (h : intBits a ≤ k) (hn : n ≤ 100000) (hk : k ≤ 100000 := by decide) : (intBits (if a < 0 then -a else a) : Int) + n ≤ 2 ^ 27 := by
  have h2 : intBits (if a < 0 then -a else a) ≤ k := by
    split
    · exact intBits_neg_le h
    · exact h
  have e : (2 : Int) ^ 27 = 134217728 := by decide
  omega
theorem shl_ok {a n : Int} {k : Nat} (h : intBits a ≤ k) (hn : n ≤ 100000) (hk : k ≤ 100000 := by decide) : (intBits a : Int) + n ≤ 2 ^ 27 := by
  have e : (2 : Int) ^ 27 = 134217728 := by decide
  omega
theorem yH_turn {M x r : Int} {j R₁ : Nat} (h : IsRoot (M * (M + divN (yH M x j) (2 ^ (j : Int).toNat))) r) (hlt : j < R₁) :
    ∃ j' : Nat, (j : Int) + 1 = (j' : Int) ∧ j' ≤ R₁ ∧ divN (M * yH M x j * 2 ^ (1 : Int).toNat) (M + r) = yH M x j' := by
  refine ⟨j + 1, by omega, hlt, ?_⟩
  have e := sqrtN_of h
  subst e
  rfl

/-- the walk stands still before what is so marked -/
structure Stop (p : Prop) : Prop where
  out : p
theorem mul_ok {a b : Int} {j k : Nat} (ha : intBits a ≤ j) (hb : intBits b ≤ k) (h : j + k ≤ 100000 := by decide) : IntMulOk a b := IntMulOk.of_le ha hb (by omega)

theorem root_le {n r : Int} (h : IsRoot n r) : r ≤ n := by
  obtain ⟨h0, h1, h2⟩ := h
  rcases Int.lt_or_le n r with h | h
  · have : 0 ≤ (r - 1) * (r - 1) := int_sq_nonneg _
    have e : (r - 1) * (r - 1) = r * r - 2 * r + 1 := by grind
    omega
  · exact h
theorem root_bits {M d r : Int} {j k : Nat} (hM : 0 < M) (hM2 : intBits M ≤ j) (hd : 0 < d) (hd2 : intBits d ≤ k) (h : IsRoot (M * d) r) (hjk : j + k ≤ 8000 := by decide) : intBits (M + r) ≤ 9000 := by
  have hn : 0 < M * d := Int.mul_pos hM hd
  have h1 : intBits r ≤ j + k := bits_le_max (intBits_mul_le hM2 hd2) (intBits_mul_le hM2 hd2) h.1 (by have := root_le h; omega)
  refine Nat.le_trans (intBits_add_le hM2 h1) ?_
  omega

/-- how many terms of the series -/
def tOf (M L : Int) : Int := -((-10 * digs M) / (3 * L))
noncomputable def ilogF (M x L : Int) (R : Nat) : Int :=
  divN (wS M (divN (yH M x R) (2 ^ R)) (tOf M L) (tOf M L - 1).toNat * yH M x R) M

theorem digs_le {M : Int} {k : Nat} (hk : 0 < k) (h : intBits M ≤ k) : digs M ≤ k + 1 := by
  have h1 : M.natAbs.log2 < k := by
    unfold PySem.Builtin.Int.intBits at h
    by_cases hb : (M == 0) = true
    · have : M = 0 := by simpa using hb
      subst this; exact hk
    · rw [if_neg hb] at h; omega
  have h2 := int_text_length_le hk h1
  unfold digs
  rw [PySem.ofString_length]
  omega
theorem digs_nat (n : Nat) : digs (n : Int) = ((Nat.toDigits 10 n).length : Int) := by
  have h1 : (Str.ofString (toString (n : Int))).length = (Nat.toDigits 10 n).length := by
    rw [PySem.ofString_length]
    show (toString (n : Int)).length = _
    rw [show toString (n : Int) = toString n from rfl]
    show (Nat.repr n).length = _
    unfold Nat.repr
    simp
  unfold digs
  rw [h1]
theorem digs_iff {M : Int} (h0 : 0 ≤ M) {k : Nat} (hk : 0 < k) : digs M ≤ k ↔ M < 10 ^ k := by
  obtain ⟨n, rfl⟩ := Int.eq_ofNat_of_zero_le h0
  rw [digs_nat]
  have h2 := Nat.length_toDigits_le_iff (b := 10) (n := n) (by decide) hk
  constructor
  · intro h
    have h3 := h2.mp (by omega)
    exact_mod_cast h3
  · intro h
    have h3 : n < 10 ^ k := by exact_mod_cast h
    have := h2.mpr h3
    omega
theorem digs_pos {M : Int} (h0 : 0 ≤ M) : 0 < digs M := by
  obtain ⟨n, rfl⟩ := Int.eq_ofNat_of_zero_le h0
  rw [digs_nat]
  have := Nat.length_toDigits_pos (b := 10) (n := n)
  omega
theorem tOf_pos {M L : Int} (h0 : 0 ≤ M) (hL : 0 < L) : 0 < tOf M L := by
  have h1 := digs_pos h0
  unfold tOf
  have : (-10 * digs M) / (3 * L) < 0 := Int.ediv_neg_of_neg_of_pos (by omega) (by omega)
  omega
theorem tOf_le {M L : Int} {k : Nat} (hk : 0 < k) (hM : intBits M ≤ k) (hL : 0 < L) : tOf M L ≤ 10 * (k + 1) := by
  have h1 := digs_le hk hM
  unfold tOf
  have : (-10 * ((k : Int) + 1)) ≤ (-10 * digs M) / (3 * L) := by
    rw [Int.le_ediv_iff_mul_le (by omega)]
    have : (-10 * ((k : Int) + 1)) * (3 * L) ≤ (-10 * ((k : Int) + 1)) * 1 := Int.mul_le_mul_of_nonpos_left (by omega) (by omega)
    omega
  omega

section
variable {prog : Program} {w : World} {A : Around} {E : Value → Shared → Prop} {s : Shared}
theorem len_digs {M : Int} {t : Tok} {Q : Value → Shared → Prop} (hM : intBits M ≤ 1000) (h : Q (.int (digs M) (s.toks + 1)) { s with toks := s.toks + 1 + 1 }) : wpAny (model prog w) A (call (.builtin "len") [.str (Str.ofString (toString M)) t]) Q E s := by
  have h1 := digs_le (by decide) hM
  unfold digs at h1
  exact P.len_str (by omega) h
theorem mod_gen {a b : Int} {t u : Tok} {Q : Value → Shared → Prop} (hb : 0 < b) (h : ∀ r, 0 ≤ r → r < b → Q (.int r s.toks) { s with toks := s.toks + 1 }) : wpAny (model prog w) A (binaryOp .Mod (.int a t) (.int b u)) Q E s :=
  mod_int' (by omega) (h _ (Int.fmod_nonneg_of_pos a hb) (Int.fmod_lt_of_pos a hb))
theorem ne_same {a : Int} {t u : Tok} {Q : Value → Shared → Prop} (h : Q (.bool false) s) : wpAny (model prog w) A (compareOp .NotEq (.int a t) (.int a u)) Q E s := ne_int (by simpa using h)
theorem floordiv_pos {a b : Int} {t u : Tok} {Q : Value → Shared → Prop} (hb : 0 < b) (hb2 : intBits b ≤ 9000) (h : Q (.int (a / b) s.toks) { s with toks := s.toks + 1 }) : wpAny (model prog w) A (binaryOp .FloorDiv (.int a t) (.int b u)) Q E s :=
  floordiv_int (by omega) (by rw [Int.fdiv_eq_ediv_of_nonneg _ (Int.le_of_lt hb)]; exact h) (noPy hb2)
end

theorem bits_small {a : Int} {b : Int} (h : 0 < a) (h2 : a ≤ b) (hb : b ≤ 1000000000 := by decide) : intBits a ≤ 9000 := bits_mono (PySem.intBits_le_64 (by omega) (by omega))
theorem wS_turn {M ys T k : Int} {pre : List Int} (hk : k = T - 1 - (pre.length : Int)) : divN M k - divN (ys * wS M ys T pre.length) M = wS M ys T (pre ++ [k]).length := by
  rw [List.length_append, List.length_singleton, hk]
  rfl

theorem ilogF_of {M x L : Int} {j n : Nat} (h : n = (tOf M L - 1).toNat) : divN (wS M (divN (yH M x j) (2 ^ j)) (tOf M L) n * yH M x j) M = ilogF M x L j := by
  subst h; rfl

/-- the series of _iexp behind j turns -/
def eS (x Ms T : Int) : Nat → Int
  | 0 => divN x T
  | j + 1 => divN (x * (Ms + eS x Ms T j)) (Ms * (T - 1 - (j : Int)))
/-- the doublings of _iexp behind j turns, of R -/
def dS (M : Int) (R : Nat) (y : Int) : Nat → Int
  | 0 => y
  | j + 1 => divN (dS M R y j * (dS M R y j + M * 2 ^ (R - 1 - j + 2))) (M * 2 ^ (R - 1 - j + 2))
def rOf (M x L : Int) : Nat := intBits ((x * 2 ^ L.toNat) / M)
def iexpY (M x L : Int) : Int := eS x (M * 2 ^ rOf M x L) (tOf M L) (tOf M L - 1).toNat
def iexpF (M x L : Int) : Int := M + dS M (rOf M x L) (iexpY M x L) (rOf M x L)

theorem eS_turn {x Ms T k : Int} {pre : List Int} (hk : k = T - 1 - (pre.length : Int)) : divN (x * (Ms + eS x Ms T pre.length)) (Ms * k) = eS x Ms T (pre ++ [k]).length := by
  rw [List.length_append, List.length_singleton, hk]
  rfl
theorem dS_turn {M y k : Int} {R : Nat} {pre : List Int} (hk : k = (R : Int) - 1 - (pre.length : Int)) (hlt : pre.length < R) : divN (dS M R y pre.length * (dS M R y pre.length + M * 2 ^ (k + 2).toNat)) (M * 2 ^ (k + 2).toNat) = dS M R y (pre ++ [k]).length := by
  rw [List.length_append, List.length_singleton]
  have e : (k + 2).toNat = R - 1 - pre.length + 2 := by omega
  rw [e]
  rfl
theorem two_pow_bits (n : Nat) : intBits ((2 : Int) ^ n) ≤ n + 1 := by
  refine intBits_le_iff.mpr ?_
  rw [Int.natAbs_pow]
  exact Nat.pow_lt_pow_right (by decide) (by omega)
theorem shl_bits {M : Int} {k n c : Nat} (hM : intBits M ≤ k) (h : k + n + 1 ≤ c) : intBits (M * 2 ^ n) ≤ c := Nat.le_trans (intBits_mul_le hM (two_pow_bits n)) (by omega)
theorem shl_pos {M : Int} (hM : 0 < M) (n : Nat) : 0 < M * 2 ^ n := Int.mul_pos hM (two_pow_pos n)
theorem iexpY_of {M x L : Int} {n : Nat} (h : n = (tOf M L - 1).toNat) : eS x (M * 2 ^ rOf M x L) (tOf M L) n = iexpY M x L := by
  subst h; rfl
theorem iexpF_of {M x L : Int} {n : Nat} (h : n = rOf M x L) : M + dS M (rOf M x L) (iexpY M x L) n = iexpF M x L := by
  subst h; rfl

theorem gen_int {P : Int → Prop} (v : Int) (h : ∀ x, v = x → P x) : P v := h v rfl

end Mine

namespace Mine
open PySem.Builtin.Int (intBits)

theorem divN_spec {a b : Int} (hb : 0 < b) : -b ≤ 2 * (a - b * divN a b) ∧ 2 * (a - b * divN a b) ≤ b := by
  have h1 := Int.mul_ediv_add_emod a b
  have h2 := Int.emod_nonneg a (by omega : b ≠ 0)
  have h3 := Int.emod_lt_of_pos a hb
  unfold divN
  generalize a / b = q at *
  generalize a % b = r at *
  split
  · have e : b * (q + 1) = b * q + b := by rw [Int.mul_add, Int.mul_one]
    rw [e]
    omega
  · have e : b * (q + 0) = b * q := by rw [Int.add_zero]
    rw [e]
    omega

theorem divN_le {a b c : Int} (hb : 0 < b) (h : 2 * a < b * (2 * c + 1)) : divN a b ≤ c := by
  have h1 := (divN_spec (a := a) hb).1
  generalize divN a b = q at *
  rcases Int.lt_or_le c q with h2 | h2
  · have := Int.mul_le_mul_of_nonneg_left (show c + 1 ≤ q by omega) (Int.le_of_lt hb)
    grind
  · exact h2

theorem le_divN {a b c : Int} (hb : 0 < b) (h : b * (2 * c - 1) < 2 * a) : c ≤ divN a b := by
  have h1 := (divN_spec (a := a) hb).2
  generalize divN a b = q at *
  rcases Int.lt_or_le q c with h2 | h2
  · have := Int.mul_le_mul_of_nonneg_left (show q ≤ c - 1 by omega) (Int.le_of_lt hb)
    grind
  · exact h2

theorem divN_eq {a b c : Int} (hb : 0 < b) (h1 : b * (2 * c - 1) < 2 * a) (h2 : 2 * a < b * (2 * c + 1)) : divN a b = c :=
  Int.le_antisymm (divN_le hb h2) (le_divN hb h1)

theorem divN_le' {a b c : Int} (hb : 0 < b) (h : a ≤ b * c) : divN a b ≤ c := divN_le hb (by grind)
theorem le_divN' {a b c : Int} (hb : 0 < b) (h : b * c ≤ a) : c ≤ divN a b := le_divN hb (by grind)
theorem divN_one {a : Int} : divN a 1 = a := divN_eq (by decide) (by omega) (by omega)
theorem divN_zero {b : Int} (hb : 0 < b) : divN 0 b = 0 := divN_eq hb (by omega) (by omega)

theorem exists_first (P : Nat → Prop) : ∀ n, ¬ P n → ∃ r ≤ n, ¬ P r ∧ ∀ j < r, P j
  | 0, h => ⟨0, Nat.le_refl _, h, fun j hj => absurd hj (Nat.not_lt_zero j)⟩
  | n + 1, h => by
    by_cases hn : P n
    · by_cases hall : ∀ j < n + 1, P j
      · exact ⟨n + 1, Nat.le_refl _, h, hall⟩
      · obtain ⟨j, hj⟩ := Classical.not_forall.mp hall
        have hj1 : j < n + 1 := Classical.byContradiction fun h' => hj fun h'' => absurd h'' h'
        have hj2 : ¬ P j := fun h' => hj fun _ => h'
        have hjn : j < n := by
          rcases Nat.lt_or_ge j n with h' | h'
          · exact h'
          · have : j = n := by omega
            subst this; exact absurd hn hj2
        obtain ⟨r, h1, h2, h3⟩ := exists_first P j hj2
        exact ⟨r, by omega, h2, h3⟩
    · obtain ⟨r, h1, h2, h3⟩ := exists_first P n hn
      exact ⟨r, by omega, h2, h3⟩
termination_by n => n

theorem bits_abs {a b : Int} {k : Nat} (h1 : -b ≤ a) (h2 : a ≤ b) (hb : intBits b ≤ k) : intBits a ≤ k :=
  intBits_le_of_natAbs (y := b) (by omega) hb
theorem bits_lt {a : Int} {k : Nat} (h1 : -(2 ^ k) < a) (h2 : a < 2 ^ k) : intBits a ≤ k := by
  refine intBits_le_iff.mpr ?_
  have e : ((2 ^ k : Nat) : Int) = 2 ^ k := Int.natCast_pow 2 k
  omega
theorem root_exists_nat : ∀ n : Nat, ∃ r, IsRoot ((n : Int) + 1) r
  | 0 => ⟨1, by decide, by decide, by decide⟩
  | n + 1 => by
    obtain ⟨r, h0, h1, h2⟩ := root_exists_nat n
    rcases Int.lt_or_le ((n : Int) + 1) (r * r + r) with h | h
    · exact ⟨r, h0, by omega, by omega⟩
    · refine ⟨r + 1, by omega, ?_, ?_⟩
      · have : (r + 1) * (r + 1) = r * r + 2 * r + 1 := by grind
        omega
      · have : (r + 1) * (r + 1) = r * r + 2 * r + 1 := by grind
        omega
theorem sqrtN_spec {n : Int} (hn : 0 < n) : IsRoot n (sqrtN n) := by
  obtain ⟨r, hr⟩ := root_exists_nat (n - 1).toNat
  have e : (((n - 1).toNat : Nat) : Int) + 1 = n := by omega
  rw [e] at hr
  exact Classical.epsilon_spec (p := IsRoot n) ⟨r, hr⟩

end Mine

namespace Mine
open PySem.Builtin.Int (intBits)

theorem root_near {k M r s : Int} (hk : 100 ≤ k) (h1 : k * k ≤ M) (hr1 : -k ≤ r) (hr2 : r ≤ k) (hs : IsRoot (M * (M + r)) s) : M - k ≤ s ∧ s ≤ M + k := by
  obtain ⟨s0, s1, s2⟩ := hs
  have hM : 100 * k ≤ M := by
    have := Int.mul_le_mul_of_nonneg_right hk (show 0 ≤ k by omega)
    omega
  have a3 := Int.mul_le_mul_of_nonneg_left hk (show 0 ≤ M by omega)
  have a4 := int_sq_nonneg k
  constructor
  · rcases Int.lt_or_le s (M - k) with h | h
    · -- s ≤ M - k - 1
      have a1 := Int.mul_le_mul (show s ≤ M - k - 1 by omega) (show s + 1 ≤ M - k by omega) (by omega) (by omega)
      have a2 := Int.mul_le_mul_of_nonneg_left hr1 (show 0 ≤ M by omega)
      grind
    · exact h
  · rcases Int.lt_or_le (M + k) s with h | h
    · have a1 := Int.mul_le_mul (show M + k + 1 ≤ s by omega) (show M + k ≤ s - 1 by omega) (by omega) (by omega)
      have a2 := Int.mul_le_mul_of_nonneg_left hr2 (show 0 ≤ M by omega)
      grind
    · exact h

/-- a nearest quotient is no further from nought than what is divided -/
theorem divN_small {a b c : Int} (hb : 0 < b) (h1 : -c ≤ a) (h2 : a ≤ c) : -c ≤ divN a b ∧ divN a b ≤ c := by
  have hc : 0 ≤ c := by omega
  have e : c ≤ b * c := by
    have := Int.mul_le_mul_of_nonneg_right (show 1 ≤ b by omega) hc
    omega
  constructor
  · refine le_divN' hb ?_
    have : b * -c = -(b * c) := Int.mul_neg b c
    omega
  · exact divN_le' hb (by omega)

/-- with a distance below the root a halving leaves y as it stands -/
theorem halve_still {k M d : Int} (hk : 100 ≤ k) (h1 : k * k ≤ M) (hd1 : -k < d) (hd2 : d < k) : ∀ R, yH M (M + d) R = d
  | 0 => by show M + d - M = d; omega
  | R + 1 => by
    have ih := halve_still hk h1 hd1 hd2 R
    have hM : 100 * k ≤ M := by
      have := Int.mul_le_mul_of_nonneg_right hk (show 0 ≤ k by omega)
      omega
    show divN (M * yH M (M + d) R * 2) (M + sqrtN (M * (M + divN (yH M (M + d) R) (2 ^ R)))) = d
    rw [ih]
    obtain ⟨r1, r2⟩ := divN_small (a := d) (c := k) (two_pow_pos R) (by omega) (by omega)
    generalize divN d (2 ^ R) = r at r1 r2 ⊢
    obtain ⟨s1, s2⟩ := root_near hk h1 r1 r2 (sqrtN_spec (Int.mul_pos (by omega) (by omega)))
    generalize sqrtN (M * (M + r)) = s at s1 s2 ⊢
    -- 2 |d (M - s)| < M + s
    have b1 : 2 * (d * (M - s)) < M + s := by
      have c1 : d * (M - s) ≤ (k - 1) * k := by
        rcases Int.le_total 0 (M - s) with h | h
        · have := Int.mul_le_mul_of_nonneg_right (show d ≤ k - 1 by omega) h
          have := Int.mul_le_mul_of_nonneg_left (show M - s ≤ k by omega) (show 0 ≤ k - 1 by omega)
          omega
        · have := Int.mul_le_mul_of_nonpos_right (show -(k - 1) ≤ d by omega) h
          have := Int.mul_le_mul_of_nonneg_left (show s - M ≤ k by omega) (show 0 ≤ k - 1 by omega)
          grind
      grind
    have b2 : 2 * (d * (s - M)) < M + s := by
      have c1 : d * (s - M) ≤ (k - 1) * k := by
        rcases Int.le_total 0 (s - M) with h | h
        · have := Int.mul_le_mul_of_nonneg_right (show d ≤ k - 1 by omega) h
          have := Int.mul_le_mul_of_nonneg_left (show s - M ≤ k by omega) (show 0 ≤ k - 1 by omega)
          omega
        · have := Int.mul_le_mul_of_nonpos_right (show -(k - 1) ≤ d by omega) h
          have := Int.mul_le_mul_of_nonneg_left (show M - s ≤ k by omega) (show 0 ≤ k - 1 by omega)
          grind
      grind
    exact divN_eq (by omega) (by grind) (by grind)

theorem mul_abs {a b A B : Int} (a1 : -A ≤ a) (a2 : a ≤ A) (b1 : -B ≤ b) (b2 : b ≤ B) : -(A * B) ≤ a * b ∧ a * b ≤ A * B := by
  have h1 := Int.mul_nonneg (show 0 ≤ A - a by omega) (show 0 ≤ B + b by omega)
  have h2 := Int.mul_nonneg (show 0 ≤ A + a by omega) (show 0 ≤ B - b by omega)
  have h3 := Int.mul_nonneg (show 0 ≤ A - a by omega) (show 0 ≤ B - b by omega)
  have h4 := Int.mul_nonneg (show 0 ≤ A + a by omega) (show 0 ≤ B + b by omega)
  constructor <;> grind

theorem divN_abs {a b c : Int} (hb : 0 < b) (h1 : -(c * b) ≤ a) (h2 : a ≤ c * b) : -c ≤ divN a b ∧ divN a b ≤ c :=
  ⟨le_divN' hb (by grind), divN_le' hb (by grind)⟩

/-- M / i for i from 2 on -/
theorem part_le {M i : Int} (hM : 0 < M) (hi : 2 ≤ i) : 0 ≤ divN M i ∧ 2 * divN M i ≤ M + 1 := by
  have h1 := (divN_spec (a := M) (b := i) (by omega)).1
  have h0 : 0 ≤ divN M i := le_divN' (by omega) (by rw [Int.mul_zero]; omega)
  generalize divN M i = q at *
  refine ⟨h0, ?_⟩
  rcases Int.lt_or_le (M + 1) (2 * q) with h | h
  · have a1 := Int.mul_le_mul_of_nonneg_left (show M + 2 ≤ 2 * q by omega) (show 0 ≤ i by omega)
    have a2 := Int.mul_le_mul_of_nonneg_right hi (show 0 ≤ M by omega)
    grind
  · exact h
theorem part3 {M : Int} (hM : 0 < M) : 3 * divN M 3 ≤ M + 1 ∧ M - 1 ≤ 3 * divN M 3 := by
  have h1 := divN_spec (a := M) (b := 3) (by decide)
  omega
theorem part2 {M : Int} (hM : 0 < M) : 2 * divN M 2 ≤ M + 1 ∧ M - 1 ≤ 2 * divN M 2 := by
  have h1 := divN_spec (a := M) (b := 2) (by decide)
  omega

theorem wS_le {M ys T K : Int} (hM : 0 < M) (hK : 4 * K + 4 ≤ M) (hT : 1 ≤ T) (y1 : -K ≤ ys) (y2 : ys ≤ K) : ∀ j : Nat, (j : Int) + 2 ≤ T ∨ j = 0 → -M ≤ wS M ys T j ∧ wS M ys T j ≤ M
  | 0, _ => divN_small (by omega) (by omega) (by omega)
  | j + 1, hj => by
    have hj' : ((j + 1 : Nat) : Int) + 2 ≤ T := by omega
    obtain ⟨w1, w2⟩ := wS_le hM hK hT y1 y2 j (by omega)
    obtain ⟨p1, p2⟩ := part_le (i := T - 1 - (j : Int)) hM (by omega)
    obtain ⟨q1, q2⟩ := mul_abs y1 y2 w1 w2
    obtain ⟨t1, t2⟩ := divN_abs (a := ys * wS M ys T j) (c := K) hM q1 q2
    show -M ≤ divN M (T - 1 - (j : Int)) - divN (ys * wS M ys T j) M ∧ divN M (T - 1 - (j : Int)) - divN (ys * wS M ys T j) M ≤ M
    omega

theorem wS_succ {M ys T : Int} {j : Nat} : wS M ys T (j + 1) = divN M (T - 1 - (j : Int)) - divN (ys * wS M ys T j) M := rfl

/-- the third sum from the last -/
theorem wS_three {M ys T K : Int} (hM : 0 < M) (hK : 4 * K + 4 ≤ M) (hT : 3 ≤ T) (y1 : -K ≤ ys) (y2 : ys ≤ K) : M - 1 - 3 * K ≤ 3 * wS M ys T (T - 3).toNat ∧ 3 * wS M ys T (T - 3).toNat ≤ M + 1 + 3 * K := by
  have h3 := part3 hM
  rcases Int.lt_or_le 3 T with h | h
  · obtain ⟨j, hj⟩ : ∃ j : Nat, (T - 3).toNat = j + 1 := ⟨(T - 4).toNat, by omega⟩
    obtain ⟨w1, w2⟩ := wS_le (T := T) hM hK (by omega) y1 y2 j (by omega)
    obtain ⟨q1, q2⟩ := mul_abs y1 y2 w1 w2
    obtain ⟨t1, t2⟩ := divN_abs (a := ys * wS M ys T j) (c := K) hM q1 q2
    rw [hj, wS_succ, show T - 1 - (j : Int) = 3 by omega]
    omega
  · have e : T = 3 := by omega
    subst e
    show M - 1 - 3 * K ≤ 3 * divN M 3 ∧ 3 * divN M 3 ≤ M + 1 + 3 * K
    omega

theorem wS_two {M ys T : Int} (hT : 3 ≤ T) : wS M ys T (T - 2).toNat = divN M 2 - divN (ys * wS M ys T (T - 3).toNat) M := by
  have e : (T - 2).toNat = (T - 3).toNat + 1 := by omega
  rw [e, wS_succ, show T - 1 - (((T - 3).toNat : Nat) : Int) = 2 by omega]
theorem wS_one {M ys T : Int} (hT : 2 ≤ T) : wS M ys T (T - 1).toNat = M - divN (ys * wS M ys T (T - 2).toNat) M := by
  have e : (T - 1).toNat = (T - 2).toNat + 1 := by omega
  rw [e, wS_succ, show T - 1 - (((T - 2).toNat : Nat) : Int) = 1 by omega, divN_one]

theorem big_M {k M : Int} (hk : 100 ≤ k) (h1 : k * k ≤ M) : 100 * k ≤ M := by
  have := Int.mul_le_mul_of_nonneg_right hk (show 0 ≤ k by omega)
  omega

/-- the second sum from the last, with a distance below the root -/
theorem wS_two_le {k M ys T : Int} (hk : 100 ≤ k) (h1 : k * k ≤ M) (hT : 2 ≤ T) (y1 : -(k - 1) ≤ ys) (y2 : ys ≤ k - 1) :
    -(M + k) ≤ 2 * wS M ys T (T - 2).toNat ∧ 2 * wS M ys T (T - 2).toNat ≤ M + k := by
  have hM := big_M hk h1
  have h2 := part2 (M := M) (by omega)
  rcases Int.lt_or_le 2 T with h | h
  · rw [wS_two (by omega)]
    obtain ⟨w1, w2⟩ := wS_three (M := M) (T := T) (K := k - 1) (by omega) (by omega) (by omega) y1 y2
    generalize wS M ys T (T - 3).toNat = W at *
    obtain ⟨q1, q2⟩ := mul_abs y1 y2 (show -(M + 1 + 3 * (k - 1)) ≤ 3 * W by omega) w2
    have sp := divN_spec (a := ys * W) (b := M) (by omega)
    generalize divN (ys * W) M = u at *
    have hint := Int.mul_le_mul_of_nonneg_left hM (show 0 ≤ k - 1 by omega)
    have u1 : 2 * u ≤ k - 1 := by
      rcases Int.lt_or_le (k - 1) (2 * u) with h' | h'
      · have a1 := Int.mul_le_mul_of_nonneg_left (show k ≤ 2 * u by omega) (show 0 ≤ M by omega)
        grind
      · exact h'
    have u2 : -(k - 1) ≤ 2 * u := by
      rcases Int.lt_or_le (2 * u) (-(k - 1)) with h' | h'
      · have a1 := Int.mul_le_mul_of_nonneg_left (show 2 * u ≤ -k by omega) (show 0 ≤ M by omega)
        grind
      · exact h'
    omega
  · have e : T = 2 := by omega
    subst e
    show -(M + k) ≤ 2 * divN M 2 ∧ 2 * divN M 2 ≤ M + k
    omega

theorem ilog_still {k M d L : Int} (hk : 100 ≤ k) (h1 : k * k ≤ M) (hd1 : -k < d) (hd2 : d < k) (hL : 0 < L) (R : Nat) : ilogF M (M + d) L R = d := by
  have hM := big_M hk h1
  have hT := tOf_pos (M := M) (L := L) (by omega) hL
  unfold ilogF
  rw [halve_still hk h1 hd1 hd2]
  obtain ⟨y1, y2⟩ := divN_small (a := d) (c := k - 1) (two_pow_pos R) (by omega) (by omega)
  generalize divN d (2 ^ R) = ys at *
  generalize tOf M L = T at *
  rcases Int.lt_or_le 1 T with h | h
  · rw [wS_one (by omega)]
    obtain ⟨w1, w2⟩ := wS_two_le hk h1 (show 2 ≤ T by omega) y1 y2
    generalize wS M ys T (T - 2).toNat = W at *
    obtain ⟨q1, q2⟩ := mul_abs y1 y2 w1 w2
    have sp := divN_spec (a := ys * W) (b := M) (by omega)
    generalize divN (ys * W) M = t at *
    have t1 : 2 * t ≤ k := by
      rcases Int.lt_or_le k (2 * t) with h' | h'
      · have a1 := Int.mul_le_mul_of_nonneg_left (show k + 1 ≤ 2 * t by omega) (show 0 ≤ M by omega)
        grind
      · exact h'
    have t2 : -k ≤ 2 * t := by
      rcases Int.lt_or_le (2 * t) (-k) with h' | h'
      · have a1 := Int.mul_le_mul_of_nonneg_left (show 2 * t ≤ -k - 1 by omega) (show 0 ≤ M by omega)
        grind
      · exact h'
    obtain ⟨r1, r2⟩ := mul_abs t2 t1 (show -(k - 1) ≤ d by omega) (show d ≤ k - 1 by omega)
    exact divN_eq (by omega) (by grind) (by grind)
  · have e : T = 1 := by omega
    subst e
    show divN (divN M 1 * d) M = d
    rw [divN_one]
    exact divN_eq (by omega) (by grind) (by grind)

theorem wS_all {M ys T K : Int} (hM : 0 < M) (hK : 4 * K + 4 ≤ M) (hT : 1 ≤ T) (y1 : -K ≤ ys) (y2 : ys ≤ K) (j : Nat) (hj : (j : Int) < T) : -(2 * M) ≤ wS M ys T j ∧ wS M ys T j ≤ 2 * M := by
  rcases j with _ | j
  · have := wS_le (T := T) hM hK hT y1 y2 0 (.inr rfl)
    omega
  · obtain ⟨w1, w2⟩ := wS_le (T := T) hM hK hT y1 y2 j (by omega)
    obtain ⟨p1, p2⟩ := divN_small (a := M) (b := T - 1 - (j : Int)) (c := M) (by omega) (by omega) (by omega)
    obtain ⟨q1, q2⟩ := mul_abs y1 y2 w1 w2
    obtain ⟨t1, t2⟩ := divN_abs (a := ys * wS M ys T j) (c := K) hM q1 q2
    rw [wS_succ]
    omega

theorem bits_M {k M : Int} (hk0 : 0 ≤ k) (hk2 : k ≤ 2 ^ 34) (h2 : M ≤ k * k + 2 * k) (h0 : 0 < M) : intBits (4 * M) ≤ 75 := by
  have h1 := Int.mul_le_mul hk2 hk2 hk0 (by decide)
  refine bits_lt ?_ ?_
  · have : (0 : Int) < 2 ^ 75 := by decide
    omega
  · have e1 : (2 : Int) ^ 75 = 37778931862957161709568 := by decide
    have e2 : (2 : Int) ^ 34 * 2 ^ 34 = 295147905179352825856 := by decide
    have e3 : (2 : Int) ^ 34 = 17179869184 := by decide
    omega

theorem pre04_ilog {k M d L : Int} (hk : 100 ≤ k) (hk2 : k ≤ 2 ^ 34) (h1 : k * k ≤ M) (h2 : M ≤ k * k + 2 * k) (hd1 : -k < d) (hd2 : d < k) (hL : 0 < L) (hL2 : L ≤ 100) :
    ∃ R₁ : Nat, R₁ ≤ 1000 ∧ (∀ R < R₁, Halves M L (yH M (M + d) R) R ∧ 0 < M + divN (yH M (M + d) R) (2 ^ R)) ∧ ¬ Halves M L (yH M (M + d) R₁) R₁ ∧ (∀ R ≤ R₁, intBits (yH M (M + d) R) ≤ 3000) ∧
      (∀ j : Nat, (j : Int) < tOf M L → intBits (wS M (divN (yH M (M + d) R₁) (2 ^ R₁)) (tOf M L) j) ≤ 3000) ∧ ilogF M (M + d) L R₁ = d := by
  have hM := big_M hk h1
  have hb := bits_M (by omega) hk2 h2 (by omega)
  obtain ⟨R, r1, r2, r3⟩ := exists_first (fun R => Halves M L d R) L.toNat (by
    unfold Halves
    have := Int.mul_lt_mul_of_pos_right (show (d.natAbs : Int) < M by omega) (two_pow_pos L.toNat)
    omega)
  have hy := halve_still hk h1 hd1 hd2
  obtain ⟨y1, y2⟩ := divN_small (a := d) (c := k - 1) (two_pow_pos R) (by omega) (by omega)
  refine ⟨R, by omega, fun j hj => ⟨by rw [hy]; exact r3 j hj, ?_⟩, by rw [hy]; exact r2, fun j _ => ?_, fun j hj => ?_, ilog_still hk h1 hd1 hd2 hL R⟩
  · rw [hy]
    have := divN_small (a := d) (c := k - 1) (two_pow_pos j) (by omega) (by omega)
    omega
  · rw [hy]
    exact bits_mono (bits_abs (b := 4 * M) (by omega) (by omega) hb)
  · rw [hy]
    have := wS_all (M := M) (K := k - 1) (by omega) (by omega) (tOf_pos (M := M) (by omega) hL) y1 y2 j hj
    exact bits_mono (bits_abs (b := 4 * M) (by omega) (by omega) hb)

/-! _iexp, a distance below the root -/
theorem eS_succ {x Ms T : Int} {j : Nat} : eS x Ms T (j + 1) = divN (x * (Ms + eS x Ms T j)) (Ms * (T - 1 - (j : Int))) := rfl

/-- no sum is further from nought than x, with x * x less than the scale -/
theorem eS_le {x Ms T c : Int} (x1 : -c ≤ x) (x2 : x ≤ c) (hx : c ≤ Ms) (hMs : 0 < Ms) (hT : 1 ≤ T) : ∀ j : Nat, (j : Int) + 2 ≤ T ∨ j = 0 → -c ≤ eS x Ms T j ∧ eS x Ms T j ≤ c
  | 0, _ => divN_small (by omega) x1 x2
  | j + 1, hj => by
    obtain ⟨e1, e2⟩ := eS_le x1 x2 hx hMs hT j (by omega)
    have hc : 0 ≤ c := by omega
    rw [eS_succ]
    generalize eS x Ms T j = y at *
    have hi : 2 ≤ T - 1 - (j : Int) := by omega
    generalize T - 1 - (j : Int) = i at *
    obtain ⟨m1, m2⟩ := mul_abs x1 x2 e1 e2
    have p1 := Int.mul_le_mul_of_nonneg_right x1 (Int.le_of_lt hMs)
    have p2 := Int.mul_le_mul_of_nonneg_right x2 (Int.le_of_lt hMs)
    have p3 := Int.mul_le_mul_of_nonneg_left hx hc
    have p4 := Int.mul_le_mul_of_nonneg_left hi (Int.mul_nonneg hc (Int.le_of_lt hMs))
    exact divN_abs (Int.mul_pos hMs (by omega)) (by grind) (by grind)

theorem eS_two {x Ms T : Int} (hT : 3 ≤ T) : eS x Ms T (T - 2).toNat = divN (x * (Ms + eS x Ms T (T - 3).toNat)) (Ms * 2) := by
  have e : (T - 2).toNat = (T - 3).toNat + 1 := by omega
  rw [e, eS_succ, show T - 1 - (((T - 3).toNat : Nat) : Int) = 2 by omega]
theorem eS_one {x Ms T : Int} (hT : 2 ≤ T) : eS x Ms T (T - 1).toNat = divN (x * (Ms + eS x Ms T (T - 2).toNat)) Ms := by
  have e : (T - 1).toNat = (T - 2).toNat + 1 := by omega
  rw [e, eS_succ, show T - 1 - (((T - 2).toNat : Nat) : Int) = 1 by omega, Int.mul_one]

theorem eS_two_le {k Ms T d : Int} (hk : 100 ≤ k) (h1 : k * k ≤ Ms) (hT : 2 ≤ T) (d1 : -(k - 1) ≤ d) (d2 : d ≤ k - 1) : -k ≤ 2 * eS d Ms T (T - 2).toNat ∧ 2 * eS d Ms T (T - 2).toNat ≤ k := by
  have hM := big_M hk h1
  rcases Int.lt_or_le 2 T with h | h
  · rw [eS_two (by omega)]
    obtain ⟨e1, e2⟩ := eS_le (Ms := Ms) (T := T) d1 d2 (by omega) (by omega) (by omega) (T - 3).toNat (by omega)
    generalize eS d Ms T (T - 3).toNat = y at *
    obtain ⟨m1, m2⟩ := mul_abs d1 d2 e1 e2
    have sp := divN_spec (a := d * (Ms + y)) (b := Ms * 2) (by omega)
    generalize divN (d * (Ms + y)) (Ms * 2) = t at *
    have p1 := Int.mul_le_mul_of_nonneg_right d1 (show 0 ≤ Ms by omega)
    have p2 := Int.mul_le_mul_of_nonneg_right d2 (show 0 ≤ Ms by omega)
    constructor
    · rcases Int.lt_or_le (2 * t) (-k) with h' | h'
      · have a1 := Int.mul_le_mul_of_nonneg_left (show 2 * t ≤ -k - 1 by omega) (show 0 ≤ Ms by omega)
        grind
      · exact h'
    · rcases Int.lt_or_le k (2 * t) with h' | h'
      · have a1 := Int.mul_le_mul_of_nonneg_left (show k + 1 ≤ 2 * t by omega) (show 0 ≤ Ms by omega)
        grind
      · exact h'
  · have e : T = 2 := by omega
    subst e
    show -k ≤ 2 * divN d 2 ∧ 2 * divN d 2 ≤ k
    have := divN_spec (a := d) (b := 2) (by decide)
    omega

theorem eS_still {k Ms T d : Int} (hk : 100 ≤ k) (h1 : k * k ≤ Ms) (hT : 1 ≤ T) (d1 : -(k - 1) ≤ d) (d2 : d ≤ k - 1) : eS d Ms T (T - 1).toNat = d := by
  have hM := big_M hk h1
  rcases Int.lt_or_le 1 T with h | h
  · rw [eS_one (by omega)]
    obtain ⟨e1, e2⟩ := eS_two_le hk h1 (show 2 ≤ T by omega) d1 d2
    generalize eS d Ms T (T - 2).toNat = y at *
    obtain ⟨m1, m2⟩ := mul_abs d1 d2 e1 e2
    exact divN_eq (by omega) (by grind) (by grind)
  · have e : T = 1 := by omega
    subst e
    exact divN_one

theorem dS_succ {M y : Int} {R j : Nat} : dS M R y (j + 1) = divN (dS M R y j * (dS M R y j + M * 2 ^ (R - 1 - j + 2))) (M * 2 ^ (R - 1 - j + 2)) := rfl
theorem two_pow_ge1 (n : Nat) : (1 : Int) ≤ 2 ^ n := two_pow_pos n
theorem dS_still {k M d : Int} (hk : 100 ≤ k) (h1 : k * k ≤ M) (d1 : -(k - 1) ≤ d) (d2 : d ≤ k - 1) (R : Nat) : ∀ j, dS M R d j = d
  | 0 => rfl
  | j + 1 => by
    rw [dS_succ, dS_still hk h1 d1 d2 R j]
    have hM := big_M hk h1
    have e : M * 2 ^ (R - 1 - j + 2) = 4 * (M * 2 ^ (R - 1 - j)) := by rw [Int.pow_add]; grind
    rw [e]
    have hp := Int.mul_le_mul_of_nonneg_left (two_pow_ge1 (R - 1 - j)) (show 0 ≤ M by omega)
    generalize M * 2 ^ (R - 1 - j) = m at *
    obtain ⟨m1, m2⟩ := mul_abs d1 d2 d1 d2
    have := int_sq_nonneg d
    exact divN_eq (by omega) (by grind) (by grind)

theorem rOf_le {M x L : Int} (hM : 0 < M) (h1 : -M < x) (h2 : x < M) : rOf M x L ≤ L.toNat + 1 := by
  unfold rOf
  have hp := two_pow_pos L.toNat
  have a1 := Int.mul_lt_mul_of_pos_right h1 hp
  have a2 := Int.mul_lt_mul_of_pos_right h2 hp
  have e : (2 : Int) ^ (L.toNat + 1) = 2 * 2 ^ L.toNat := by rw [Int.pow_succ]; omega
  refine bits_lt ?_ ?_
  · have b : -(2 ^ L.toNat) ≤ x * 2 ^ L.toNat / M := (Int.le_ediv_iff_mul_le hM).mpr (by grind)
    omega
  · have b : x * 2 ^ L.toNat / M < 2 ^ L.toNat := Int.ediv_lt_of_lt_mul hM (by grind)
    omega

theorem pre04_iexp {k M d L : Int} (hk : 100 ≤ k) (hk2 : k ≤ 2 ^ 34) (h1 : k * k ≤ M) (h2 : M ≤ k * k + 2 * k) (hd1 : -k < d) (hd2 : d < k) (hL : 0 < L) (hL2 : L ≤ 100) :
    intBits d ≤ 2000 ∧ rOf M d L ≤ 1000 ∧ (∀ j : Nat, (j : Int) < tOf M L → intBits (eS d (M * 2 ^ rOf M d L) (tOf M L) j) ≤ 3000) ∧
      (∀ j : Nat, j ≤ rOf M d L → intBits (dS M (rOf M d L) (iexpY M d L) j) ≤ 3000) ∧ iexpF M d L = M + d := by
  have hM := big_M hk h1
  have hb := bits_M (by omega) hk2 h2 (by omega)
  have hT := tOf_pos (M := M) (L := L) (by omega) hL
  have hdb : intBits d ≤ 75 := bits_abs (b := 4 * M) (by omega) (by omega) hb
  have hp := Int.mul_le_mul_of_nonneg_left (two_pow_ge1 (rOf M d L)) (show 0 ≤ M by omega)
  have hMs : k * k ≤ M * 2 ^ rOf M d L := by omega
  have eY : iexpY M d L = d := eS_still hk hMs hT (by omega) (by omega)
  have hr := rOf_le (L := L) (show 0 < M by omega) (show -M < d by omega) (by omega)
  refine ⟨bits_mono hdb, by omega, fun j hj => ?_, fun j _ => ?_, ?_⟩
  · rcases Int.lt_or_le ((j : Int) + 1) (tOf M L) with h | h
    · obtain ⟨e1, e2⟩ := eS_le (x := d) (Ms := M * 2 ^ rOf M d L) (T := tOf M L) (c := k - 1) (by omega) (by omega) (by omega) (by omega) (by omega) j (by omega)
      exact bits_mono (bits_abs (b := 4 * M) (by omega) (by omega) hb)
    · have e : j = (tOf M L - 1).toNat := by omega
      subst e
      rw [show eS d (M * 2 ^ rOf M d L) (tOf M L) (tOf M L - 1).toNat = d from eY]
      exact bits_mono hdb
  · rw [eY, dS_still hk h1 (by omega) (by omega)]
    exact bits_mono hdb
  · unfold iexpF
    rw [eY, dS_still hk h1 (by omega) (by omega)]

/-! without a halving: distances from the root to half as much again -/
theorem three_terms {k M n b : Int} (hk : 100 ≤ k) (h1 : k * k ≤ M) (h2 : M ≤ k * k + 2 * k) (hn : k + 2 ≤ n) (hb : 0 < b) (h : n * 2 ^ b.toNat < M) : 3 ≤ tOf M b := by
  -- 2 ^ b < k
  have hM := big_M hk h1
  have c1 : (2 : Int) ^ b.toNat < k := by
    rcases Int.lt_or_le (2 ^ b.toNat) k with h' | h'
    · exact h'
    · have := Int.mul_le_mul hn h' (by omega) (by omega)
      grind
  have c2 : (2 : Int) ^ (2 * b.toNat) < M := by
    have := Int.mul_lt_mul_of_pos_right c1 (two_pow_pos b.toNat)
    have := Int.mul_lt_mul_of_pos_left c1 (show 0 < k by omega)
    have e : (2 : Int) ^ (2 * b.toNat) = 2 ^ b.toNat * 2 ^ b.toNat := by rw [Nat.two_mul, Int.pow_add]
    omega
  obtain ⟨m, hm⟩ := Int.eq_ofNat_of_zero_le (show 0 ≤ M by omega)
  obtain ⟨D, hD⟩ := Int.eq_ofNat_of_zero_le (show 0 ≤ digs M from Int.le_of_lt (digs_pos (by omega)))
  have hD0 : 0 < D := by have := digs_pos (M := M) (by omega); omega
  have c3 := (digs_iff (M := M) (by omega) hD0).mp (by omega)
  have c4 : (2 : Int) ^ (2 * b.toNat) < 10 ^ D := by omega
  have c5 : (2 : Nat) ^ (2 * b.toNat) < 10 ^ D := by exact_mod_cast c4
  rcases Int.lt_or_le 2 (tOf M b) with h' | h'
  · exact h'
  · exfalso
    have d1 : -2 ≤ (-10 * digs M) / (3 * b) := by unfold tOf at h'; omega
    have d2 := (Int.le_ediv_iff_mul_le (show 0 < 3 * b by omega)).mp d1
    have d3 : 10 * D ≤ 6 * b.toNat := by omega
    have e1 : (2 ^ (2 * b.toNat)) ^ 3 < (10 ^ D) ^ 3 := Nat.pow_lt_pow_left c5 (by decide)
    have e2 : (2 ^ (2 * b.toNat)) ^ 3 = 2 ^ (6 * b.toNat) := by rw [← Nat.pow_mul]; congr 1; omega
    have e3 : 2 ^ (10 * D) ≤ 2 ^ (6 * b.toNat) := Nat.pow_le_pow_right (by decide) d3
    have e4 : 2 ^ (10 * D) = 1024 ^ D := by rw [Nat.pow_mul]
    have e5 : (10 ^ D) ^ 3 = 1000 ^ D := by rw [← Nat.pow_mul, Nat.mul_comm, Nat.pow_mul]
    have e6 : 1000 ^ D ≤ 1024 ^ D := Nat.pow_le_pow_left (by decide) D
    omega

/-- what the logarithm bends by, at a distance d: its last term t stands between half of M and three halves, by d -/
theorem ilog_bent {M d t : Int} (hM : 0 < M) (h1 : M < 2 * (t * d)) (h2 : 2 * (t * d) < 3 * M) : divN ((M - t) * d) M = d - 1 :=
  divN_eq hM (by grind) (by grind)

theorem wS_u_pos {k M d T : Int} (hk : 100 ≤ k) (h1 : k * k ≤ M) (hT : 3 ≤ T) (d1 : k < d) (d2 : 2 * d ≤ 3 * k) :
    0 ≤ divN (d * wS M d T (T - 3).toNat) M ∧ 6 * (M * divN (d * wS M d T (T - 3).toNat) M) ≤ 2 * (d * (M + 1 + 3 * d)) + 3 * M := by
  have hM := big_M hk h1
  obtain ⟨w1, w2⟩ := wS_three (M := M) (T := T) (K := d) (by omega) (by omega) (by omega) (show -d ≤ d by omega) (Int.le_refl d)
  generalize wS M d T (T - 3).toNat = W at *
  have sp := divN_spec (a := d * W) (b := M) (by omega)
  have p1 := Int.mul_le_mul_of_nonneg_left w2 (show 0 ≤ d by omega)
  have p0 : 0 ≤ d * W := Int.mul_nonneg (by omega) (by omega)
  refine ⟨le_divN' (by omega) (by omega), ?_⟩
  generalize divN (d * W) M = u at *
  grind

/-- squares of what is at most half as much again as k -/
theorem sq_half {k M d : Int} (h0 : 0 ≤ d) (h1 : k * k ≤ M) (d2 : 2 * d ≤ 3 * k) : 4 * (d * d) ≤ 9 * (k * k) := by
  have := Int.mul_le_mul d2 d2 (by omega) (by omega)
  grind

theorem ilog_pos {k M d T : Int} (hk : 100 ≤ k) (h1 : k * k ≤ M) (h2 : M ≤ k * k + 2 * k) (hT : 3 ≤ T) (d1 : k + 2 ≤ d) (d2 : 2 * d ≤ 3 * k) : divN (wS M d T (T - 1).toNat * d) M = d - 1 := by
  have hM := big_M hk h1
  have hsq := sq_half (by omega) h1 d2
  obtain ⟨u1, u2⟩ := wS_u_pos (T := T) hk h1 hT (by omega) d2
  have m2 := part2 (M := M) (by omega)
  rw [wS_one (by omega), wS_two hT]
  generalize divN (d * wS M d T (T - 3).toNat) M = u at *
  generalize divN M 2 = h at *
  have u3 : 6 * u ≤ 2 * d + 17 := by
    rcases Int.lt_or_le (2 * d + 17) (6 * u) with h' | h'
    · have a1 := Int.mul_le_mul_of_nonneg_left (show 2 * d + 18 ≤ 6 * u by omega) (show 0 ≤ M by omega)
      grind
    · exact h'
  have sp := divN_spec (a := d * (h - u)) (b := M) (by omega)
  generalize divN (d * (h - u)) M = t at *
  have e1 := Int.mul_le_mul_of_nonneg_left (show 2 * (h - u) ≤ M + 1 by omega) (show 0 ≤ d by omega)
  have e2 := Int.mul_le_mul_of_nonneg_left (show M - 1 - 2 * u ≤ 2 * (h - u) by omega) (show 0 ≤ d by omega)
  have e3 := Int.mul_le_mul_of_nonneg_left u3 (show 0 ≤ d by omega)
  have t1 : k + 1 ≤ 2 * t := by
    rcases Int.lt_or_le (2 * t) (k + 1) with h' | h'
    · have a1 := Int.mul_le_mul_of_nonneg_left (show 2 * t ≤ k by omega) (show 0 ≤ M by omega)
      have a2 : 3 * ((d - k - 1) * M) ≤ 2 * (d * d) + 20 * d := by grind
      rcases Int.lt_or_le (k + 2) d with h'' | h''
      · have a3 := Int.mul_le_mul_of_nonneg_right (show 2 ≤ d - k - 1 by omega) (show 0 ≤ M by omega)
        have a4 := Int.mul_le_mul_of_nonneg_right hk (show 0 ≤ k by omega)
        grind
      · have e : d = k + 2 := by omega
        subst e
        have a4 := Int.mul_le_mul_of_nonneg_right hk (show 0 ≤ k by omega)
        grind
    · exact h'
  have t2 : 2 * t ≤ d + 1 := by
    rcases Int.lt_or_le (d + 1) (2 * t) with h' | h'
    · have a1 := Int.mul_le_mul_of_nonneg_left (show d + 2 ≤ 2 * t by omega) (show 0 ≤ M by omega)
      grind
    · exact h'
  have f1 := Int.mul_le_mul t1 d1 (by omega) (by omega)
  have f2 := Int.mul_le_mul_of_nonneg_right t2 (show 0 ≤ d by omega)
  have a4 := Int.mul_le_mul_of_nonneg_right hk (show 0 ≤ k by omega)
  exact ilog_bent (by omega) (by grind) (by grind)

theorem ilog_neg {k M c T : Int} (hk : 100 ≤ k) (h1 : k * k ≤ M) (h2 : M ≤ k * k + 2 * k) (hT : 3 ≤ T) (d1 : k + 1 ≤ c) (d2 : 2 * c ≤ 3 * k) : divN (wS M (-c) T (T - 1).toNat * -c) M = -c - 1 := by
  have hM := big_M hk h1
  have hsq := sq_half (by omega) h1 d2
  have m2 := part2 (M := M) (by omega)
  obtain ⟨w1, w2⟩ := wS_three (M := M) (T := T) (K := c) (ys := -c) (by omega) (by omega) (by omega) (by omega) (by omega)
  rw [wS_one (by omega), wS_two hT]
  generalize wS M (-c) T (T - 3).toNat = W at *
  have spu := divN_spec (a := -c * W) (b := M) (by omega)
  have p1 := Int.mul_le_mul_of_nonneg_left w2 (show 0 ≤ c by omega)
  have p2 := Int.mul_le_mul_of_nonneg_left w1 (show 0 ≤ c by omega)
  have p3 := Int.mul_le_mul_of_nonneg_right (show 101 ≤ c by omega) (show 0 ≤ M by omega)
  have u0 : divN (-c * W) M ≤ -1 := divN_le (by omega) (by grind)
  generalize divN (-c * W) M = u at *
  generalize divN M 2 = h at *
  have u3 : -(2 * c + 17) ≤ 6 * u := by
    rcases Int.lt_or_le (6 * u) (-(2 * c + 17)) with h' | h'
    · have a1 := Int.mul_le_mul_of_nonneg_left (show 6 * u ≤ -(2 * c + 18) by omega) (show 0 ≤ M by omega)
      grind
    · exact h'
  have sp := divN_spec (a := -c * (h - u)) (b := M) (by omega)
  generalize divN (-c * (h - u)) M = t at *
  have e1 := Int.mul_le_mul_of_nonneg_left (show 6 * (h - u) ≤ 3 * M + 3 + 2 * c + 17 by omega) (show 0 ≤ c by omega)
  have e2 := Int.mul_le_mul_of_nonneg_left (show M + 1 ≤ 2 * (h - u) by omega) (show 0 ≤ c by omega)
  have t1 : k + 1 ≤ -(2 * t) := by
    rcases Int.lt_or_le (-(2 * t)) (k + 1) with h' | h'
    · have a1 := Int.mul_le_mul_of_nonneg_left (show -(2 * t) ≤ k by omega) (show 0 ≤ M by omega)
      have a2 := Int.mul_le_mul_of_nonneg_right d1 (show 0 ≤ M by omega)
      grind
    · exact h'
  have t2 : -(6 * t) ≤ 3 * c + 8 := by
    rcases Int.lt_or_le (3 * c + 8) (-(6 * t)) with h' | h'
    · have a1 := Int.mul_le_mul_of_nonneg_left (show 3 * c + 9 ≤ -(6 * t) by omega) (show 0 ≤ M by omega)
      grind
    · exact h'
  have f1 := Int.mul_le_mul t1 d1 (by omega) (by omega)
  have f2 := Int.mul_le_mul_of_nonneg_right t2 (show 0 ≤ c by omega)
  have a4 := Int.mul_le_mul_of_nonneg_right hk (show 0 ≤ k by omega)
  exact ilog_bent (by omega) (by grind) (by grind)

theorem eS_nonneg {x Ms T : Int} (hx : 0 ≤ x) (hMs : 0 < Ms) : ∀ j : Nat, (j : Int) < T → 0 ≤ eS x Ms T j
  | 0, hT => le_divN' (by omega) (by rw [Int.mul_zero]; exact hx)
  | j + 1, hT => by
    rw [eS_succ]
    have ih := eS_nonneg (T := T) hx hMs j (by omega)
    refine le_divN' (Int.mul_pos hMs (by omega)) ?_
    rw [Int.mul_zero]
    exact Int.mul_nonneg hx (by omega)

theorem eS_bent {k M d T : Int} (hk : 100 ≤ k) (h1 : k * k ≤ M) (h2 : M ≤ k * k + 2 * k) (hT : 3 ≤ T) (d1 : k + 1 ≤ d) (d2 : 2 * d ≤ 3 * k) : eS d M T (T - 1).toNat = d + 1 := by
  have hM := big_M hk h1
  have hsq := sq_half (by omega) h1 d2
  obtain ⟨e1, e2⟩ := eS_le (x := d) (Ms := M) (T := T) (c := d) (by omega) (by omega) (by omega) (by omega) (by omega) (T - 3).toNat (by omega)
  have e0 : 1 ≤ eS d M T (T - 3).toNat := by
    rcases Int.lt_or_le 3 T with h | h
    · obtain ⟨j, hj⟩ : ∃ j : Nat, (T - 3).toNat = j + 1 := ⟨(T - 4).toNat, by omega⟩
      have n0 := eS_nonneg (x := d) (Ms := M) (T := T) (by omega) (by omega) j (by omega)
      rw [hj, eS_succ, show T - 1 - (j : Int) = 3 by omega]
      have p1 := Int.mul_nonneg (show 0 ≤ d by omega) n0
      have p2 := Int.mul_le_mul_of_nonneg_right (show 101 ≤ d by omega) (show 0 ≤ M by omega)
      exact le_divN (by omega) (by grind)
    · have e : T = 3 := by omega
      subst e
      show 1 ≤ divN d 3
      exact le_divN (by decide) (by omega)
  rw [eS_one (by omega), eS_two hT]
  generalize eS d M T (T - 3).toNat = y at *
  have sp := divN_spec (a := d * (M + y)) (b := M * 2) (by omega)
  generalize divN (d * (M + y)) (M * 2) = t at *
  have p1 := Int.mul_le_mul_of_nonneg_left e0 (show 0 ≤ d by omega)
  have p2 := Int.mul_le_mul_of_nonneg_left e2 (show 0 ≤ d by omega)
  have t1 : k + 1 ≤ 2 * t := by
    rcases Int.lt_or_le (2 * t) (k + 1) with h' | h'
    · have a1 := Int.mul_le_mul_of_nonneg_left (show 2 * t ≤ k by omega) (show 0 ≤ M by omega)
      have a2 := Int.mul_le_mul_of_nonneg_right d1 (show 0 ≤ M by omega)
      grind
    · exact h'
  have t2 : 4 * t ≤ 2 * d + 6 := by
    rcases Int.lt_or_le (2 * d + 6) (4 * t) with h' | h'
    · have a1 := Int.mul_le_mul_of_nonneg_left (show 2 * d + 7 ≤ 4 * t by omega) (show 0 ≤ M by omega)
      grind
    · exact h'
  have f1 := Int.mul_le_mul t1 d1 (by omega) (by omega)
  have f2 := Int.mul_le_mul_of_nonneg_right t2 (show 0 ≤ d by omega)
  have a4 := Int.mul_le_mul_of_nonneg_right hk (show 0 ≤ k by omega)
  exact divN_eq (by omega) (by grind) (by grind)

theorem pre04b_ilog {k M n d b : Int} (hk : 100 ≤ k) (hk2 : k ≤ 2 ^ 34) (h1 : k * k ≤ M) (h2 : M ≤ k * k + 2 * k) (n1 : k + 2 ≤ n) (n2 : 2 * n ≤ 3 * k) (hb : 0 < b) (hnb : n * 2 ^ b.toNat < M)
    (hd1 : -n ≤ d) (hd2 : d ≤ n) (hd : k + 2 ≤ d ∨ d ≤ -k - 1) :
    (∀ R < 0, Halves M b (yH M (M + d) R) R ∧ 0 < M + divN (yH M (M + d) R) (2 ^ R)) ∧ ¬ Halves M b (yH M (M + d) 0) 0 ∧ (∀ R ≤ 0, intBits (yH M (M + d) R) ≤ 3000) ∧
      (∀ j : Nat, (j : Int) < tOf M b → intBits (wS M (divN (yH M (M + d) 0) (2 ^ 0)) (tOf M b) j) ≤ 3000) ∧ ilogF M (M + d) b 0 = d - 1 := by
  have hM := big_M hk h1
  have hbM := bits_M (by omega) hk2 h2 (by omega)
  have hy : yH M (M + d) 0 = d := by show M + d - M = d; omega
  have hT := three_terms hk h1 h2 n1 hb hnb
  have e1 : divN d (2 ^ 0) = d := divN_one
  refine ⟨fun R hR => absurd hR (Nat.not_lt_zero R), ?_, fun R hR => ?_, fun j hj => ?_, ?_⟩
  · rw [hy]
    unfold Halves
    have := Int.mul_le_mul_of_nonneg_right (show (d.natAbs : Int) ≤ n by omega) (Int.le_of_lt (two_pow_pos b.toNat))
    rw [Int.pow_zero, Int.mul_one]
    omega
  · have : R = 0 := by omega
    subst this
    rw [hy]
    exact bits_mono (bits_abs (b := 4 * M) (by omega) (by omega) hbM)
  · rw [hy, e1]
    have := wS_all (M := M) (ys := d) (K := n) (by omega) (by omega) (tOf_pos (M := M) (by omega) hb) hd1 hd2 j hj
    exact bits_mono (bits_abs (b := 4 * M) (by omega) (by omega) hbM)
  · unfold ilogF
    rw [hy, e1]
    rcases hd with hd | hd
    · exact ilog_pos hk h1 h2 hT hd (by omega)
    · have := ilog_neg (c := -d) hk h1 h2 hT (by omega) (by omega)
      rwa [Int.neg_neg] at this

theorem rOf_zero {M x L : Int} (hx : 0 ≤ x) (h : x * 2 ^ L.toNat < M) : rOf M x L = 0 := by
  unfold rOf
  have h0 : 0 ≤ x * 2 ^ L.toNat := Int.mul_nonneg hx (Int.le_of_lt (two_pow_pos _))
  rw [Int.ediv_eq_zero_of_lt h0 h]
  rfl

theorem pre04b_iexp {k M n d b : Int} (hk : 100 ≤ k) (hk2 : k ≤ 2 ^ 34) (h1 : k * k ≤ M) (h2 : M ≤ k * k + 2 * k) (n1 : k + 2 ≤ n) (n2 : 2 * n ≤ 3 * k) (hb : 0 < b) (hnb : n * 2 ^ b.toNat < M)
    (hd1 : k + 1 ≤ d) (hd2 : d ≤ n) :
    intBits d ≤ 2000 ∧ rOf M d b ≤ 1000 ∧ (∀ j : Nat, (j : Int) < tOf M b → intBits (eS d (M * 2 ^ rOf M d b) (tOf M b) j) ≤ 3000) ∧
      (∀ j : Nat, j ≤ rOf M d b → intBits (dS M (rOf M d b) (iexpY M d b) j) ≤ 3000) ∧ iexpF M d b = M + d + 1 := by
  have hM := big_M hk h1
  have hbM := bits_M (by omega) hk2 h2 (by omega)
  have hT := three_terms hk h1 h2 n1 hb hnb
  have hr : rOf M d b = 0 := rOf_zero (by omega) (by
    have := Int.mul_le_mul_of_nonneg_right hd2 (Int.le_of_lt (two_pow_pos b.toNat))
    omega)
  have eY : iexpY M d b = d + 1 := by
    unfold iexpY
    rw [hr, Int.pow_zero, Int.mul_one]
    exact eS_bent hk h1 h2 hT hd1 (by omega)
  refine ⟨bits_mono (bits_abs (b := 4 * M) (by omega) (by omega) hbM), by omega, fun j hj => ?_, fun j hj => ?_, ?_⟩
  · rw [hr, Int.pow_zero, Int.mul_one]
    rcases Int.lt_or_le ((j : Int) + 1) (tOf M b) with h | h
    · obtain ⟨e1, e2⟩ := eS_le (x := d) (Ms := M) (T := tOf M b) (c := d) (by omega) (by omega) (by omega) (by omega) (by omega) j (by omega)
      exact bits_mono (bits_abs (b := 4 * M) (by omega) (by omega) hbM)
    · have e : j = (tOf M b - 1).toNat := by omega
      subst e
      rw [eS_bent hk h1 h2 hT hd1 (by omega)]
      exact bits_mono (bits_abs (b := 4 * M) (by omega) (by omega) hbM)
  · have e : j = 0 := by omega
    subst e
    show intBits (iexpY M d b) ≤ 3000
    rw [eY]
    exact bits_mono (bits_abs (b := 4 * M) (by omega) (by omega) hbM)
  · unfold iexpF
    rw [hr]
    show M + iexpY M d b = M + d + 1
    rw [eY]
    omega

theorem fmod_bnd (a : Int) {b : Int} (hb : 0 < b) : 0 ≤ a.fmod b ∧ a.fmod b < b := ⟨Int.fmod_nonneg_of_pos a hb, Int.fmod_lt_of_pos a hb⟩
theorem ten_ten : (10 : Int) ^ Int.toNat 10 = 10000000000 := by decide
theorem k_range {r k : Int} (h1 : 0 ≤ r) (h2 : r < 10 ^ Int.toNat 10) (h : r + 100 = k) : 100 ≤ k ∧ k ≤ 2 ^ 34 := by
  rw [ten_ten] at h2
  have e2 : (2 : Int) ^ 34 = 17179869184 := by decide
  omega
theorem bits_k {k : Int} (h : 100 ≤ k) (h2 : k ≤ 2 ^ 34) : intBits k ≤ 64 := by
  have e2 : (2 : Int) ^ 34 = 17179869184 := by decide
  exact PySem.intBits_le_64 (by omega) (by omega)
theorem log2_le {x : Nat} (h : x ≠ 0) : 2 ^ x.log2 ≤ x := Nat.log2_self_le h
theorem most_range {k M n m : Int} (hk : 100 ≤ k) (hk2 : k ≤ 2 ^ 34) (h1 : k * k ≤ M) (h2 : M ≤ k * k + 2 * k) (hn : 0 < n) (hn2 : 2 * n ≤ 3 * k) (hm : (intBits ((M - 1) / n) : Int) - 1 = m) :
    1 ≤ m ∧ m ≤ 100 ∧ n * 2 ^ m.toNat < M := by
  have hM := big_M hk h1
  have hq : 2 ≤ (M - 1) / n := (Int.le_ediv_iff_mul_le hn).mpr (by omega)
  have hq2 : (M - 1) / n * n ≤ M - 1 := Int.ediv_mul_le _ (by omega)
  have hq3 : (M - 1) / n ≤ M := by
    have := Int.mul_le_mul_of_nonneg_left (show 1 ≤ n by omega) (show 0 ≤ (M - 1) / n by omega)
    omega
  have hb := bits_M (by omega) hk2 h2 (by omega)
  have hb2 : intBits ((M - 1) / n) ≤ 75 := bits_abs (b := 4 * M) (by omega) (by omega) hb
  generalize (M - 1) / n = q at *
  obtain ⟨x, rfl⟩ := Int.eq_ofNat_of_zero_le (show 0 ≤ q by omega)
  have e : intBits (x : Int) = x.log2 + 1 := by
    unfold PySem.Builtin.Int.intBits
    rw [if_neg (by simp; omega)]
    rfl
  have h3 := log2_le (x := x) (by omega)
  have h4 : 1 ≤ x.log2 := by
    rcases Nat.lt_or_ge x.log2 1 with h | h
    · have h5 : x < 2 ^ (x.log2 + 1) := Nat.lt_log2_self
      have : x.log2 = 0 := by omega
      rw [this] at h5
      omega
    · exact h
  refine ⟨by omega, by omega, ?_⟩
  have e2 : m.toNat = x.log2 := by omega
  rw [e2]
  have h5 : ((2 ^ x.log2 : Nat) : Int) ≤ (x : Int) := by omega
  have e3 : ((2 ^ x.log2 : Nat) : Int) = 2 ^ x.log2 := Int.natCast_pow 2 _
  rw [e3] at h5
  have := Int.mul_le_mul_of_nonneg_left h5 (Int.le_of_lt hn)
  have e4 : n * (x : Int) = (x : Int) * n := Int.mul_comm _ _
  omega
theorem bits_less {M n m b : Int} (hn : 0 < n) (hb : b ≤ m) (hb0 : 0 ≤ b) (h : n * 2 ^ m.toNat < M) : n * 2 ^ b.toNat < M := by
  have h1 : (2 : Nat) ^ b.toNat ≤ 2 ^ m.toNat := Nat.pow_le_pow_right (by decide) (by omega)
  have e1 : ((2 ^ b.toNat : Nat) : Int) = 2 ^ b.toNat := Int.natCast_pow 2 _
  have e2 : ((2 ^ m.toNat : Nat) : Int) = 2 ^ m.toNat := Int.natCast_pow 2 _
  have h2 : (2 : Int) ^ b.toNat ≤ 2 ^ m.toNat := by omega
  have := Int.mul_le_mul_of_nonneg_left h2 (Int.le_of_lt hn)
  omega

end Mine

namespace Mine
namespace Ex

theorem sq_nonneg (a : Rat) : 0 ≤ a * a := by
  rcases Rat.le_total (a := 0) (b := a) with h | h
  · exact Rat.mul_nonneg h h
  · have := Rat.mul_nonneg (show 0 ≤ -a by grind) (show 0 ≤ -a by grind)
    grind

theorem lt_of_not_le {a b : Rat} (h : ¬ a ≤ b) : b < a := Rat.not_le.mp h
theorem le_div {a b c : Rat} (hc : 0 < c) (h : a * c ≤ b) : a ≤ b / c := by
  have e : b / c * c = b := Rat.div_mul_cancel (by grind)
  rcases Classical.em (a ≤ b / c) with x | x
  · exact x
  · have := Rat.mul_lt_mul_of_pos_right (lt_of_not_le x) hc
    grind
theorem div_le {a b c : Rat} (hc : 0 < c) (h : b ≤ a * c) : b / c ≤ a := by
  have e : b / c * c = b := Rat.div_mul_cancel (by grind)
  rcases Classical.em (b / c ≤ a) with x | x
  · exact x
  · have := Rat.mul_lt_mul_of_pos_right (lt_of_not_le x) hc
    grind
theorem le_div_mul {a b c : Rat} (hc : 0 < c) (h : a ≤ b / c) : a * c ≤ b := by
  have e : b / c * c = b := Rat.div_mul_cancel (by grind)
  have := Rat.mul_le_mul_of_nonneg_right h (Rat.le_of_lt hc)
  grind
theorem div_le_mul {a b c : Rat} (hc : 0 < c) (h : b / c ≤ a) : b ≤ a * c := by
  have e : b / c * c = b := Rat.div_mul_cancel (by grind)
  have := Rat.mul_le_mul_of_nonneg_right h (Rat.le_of_lt hc)
  grind
theorem div_mono {a b p : Rat} (hp : 0 < p) (h : a ≤ b) : a / p ≤ b / p := by
  refine div_le hp ?_
  have e : b / p * p = b := Rat.div_mul_cancel (by grind)
  rw [e]
  exact h
theorem div_pos {a b : Rat} (ha : 0 < a) (hb : 0 < b) : 0 < a / b := by
  have := Rat.mul_pos ha (Rat.inv_pos.mpr hb)
  grind
theorem div_nn {a b : Rat} (ha : 0 ≤ a) (hb : 0 < b) : 0 ≤ a / b := le_div hb (by grind)

/-- u to the power 2 ^ n, by squaring -/
def sq : Nat → Rat → Rat
  | 0, u => u
  | n + 1, u => sq n (u * u)

theorem sq_mul (u v : Rat) : ∀ n, sq n (u * v) = sq n u * sq n v := by
  intro n
  induction n generalizing u v with
  | zero => rfl
  | succ n ih =>
    show sq n (u * v * (u * v)) = sq n (u * u) * sq n (v * v)
    rw [← ih]
    congr 1
    grind
theorem sq_one : ∀ n, sq n 1 = 1
  | 0 => rfl
  | n + 1 => by show sq n (1 * 1) = 1; rw [Rat.mul_one]; exact sq_one n
theorem sq_le {u v : Rat} (h0 : 0 ≤ u) (h : u ≤ v) : ∀ n, sq n u ≤ sq n v := by
  intro n
  induction n generalizing u v with
  | zero => exact h
  | succ n ih =>
    refine ih (sq_nonneg u) ?_
    have h1 := Rat.mul_le_mul_of_nonneg_left h h0
    have h2 := Rat.mul_le_mul_of_nonneg_right h (show 0 ≤ v by grind)
    grind
theorem sq_pos {u : Rat} (h : 0 < u) : ∀ n, 0 < sq n u := by
  intro n
  induction n generalizing u with
  | zero => exact h
  | succ n ih => exact ih (Rat.mul_pos h h)
theorem sq_nn {u : Rat} (h : 0 ≤ u) (n : Nat) : 0 ≤ sq n u := by
  have := sq_le (u := 0) (by grind) h n
  have e : ∀ n, sq n 0 = 0 := by
    intro n
    induction n with
    | zero => rfl
    | succ n ih => show sq n (0 * 0) = 0; rw [Rat.zero_mul]; exact ih
  rw [e] at this
  exact this

/-- two to the n, as a rational -/
def P (n : Nat) : Rat := 2 ^ n
theorem P_zero : P 0 = 1 := by unfold P; grind
theorem P_succ (n : Nat) : P (n + 1) = 2 * P n := by unfold P; grind
theorem P_pos : ∀ n, 0 < P n
  | 0 => by rw [P_zero]; decide
  | n + 1 => by rw [P_succ]; have := P_pos n; grind
theorem P_ge : ∀ n : Nat, ((n : Nat) : Rat) + 1 ≤ P n
  | 0 => by rw [P_zero]; grind
  | n + 1 => by
    rw [P_succ]
    have h := P_ge n
    have h2 := P_pos n
    have e : ((n + 1 : Nat) : Rat) = (n : Rat) + 1 := by grind
    rw [e]
    rcases Nat.eq_zero_or_pos n with h0 | h0
    · subst h0; rw [P_zero] at *; grind
    · have : (1 : Rat) ≤ (n : Rat) := by exact_mod_cast h0
      grind
theorem P_mono {m n : Nat} (h : m ≤ n) : P m ≤ P n := by
  obtain ⟨k, rfl⟩ := Nat.le.dest h
  induction k with
  | zero => exact Rat.le_refl
  | succ k ih =>
    have := ih (by omega)
    have := P_pos (m + k)
    have e := P_succ (m + k)
    have e2 : m + (k + 1) = m + k + 1 := by omega
    rw [e2, e]
    grind

theorem arch (q : Rat) : ∃ n : Nat, q < (n : Rat) := by
  refine ⟨(q.ceil + 1).toNat, ?_⟩
  have h1 : q ≤ (q.ceil : Rat) := Rat.le_ceil
  have h2 : q.ceil < (((q.ceil + 1).toNat : Nat) : Int) := by omega
  have h3 : ((q.ceil : Int) : Rat) < ((((q.ceil + 1).toNat : Nat) : Int) : Rat) := by exact_mod_cast h2
  have h4 : ((((q.ceil + 1).toNat : Nat) : Int) : Rat) = (((q.ceil + 1).toNat : Nat) : Rat) := by norm_cast
  grind
theorem archP (q : Rat) : ∃ n : Nat, ∀ m, n ≤ m → q < P m := by
  obtain ⟨n, hn⟩ := arch q
  refine ⟨n, fun m hm => ?_⟩
  have h1 := P_ge n
  have h2 := P_mono hm
  grind
/-- no more than c, if so but for any small part -/
theorem le_of_all {a c B : Rat} (h : ∃ n : Nat, ∀ m, n ≤ m → a ≤ c + B / P m) : a ≤ c := by
  rcases Rat.le_total (a := a) (b := c) with h1 | h1
  · exact h1
  · rcases Classical.em (a = c) with e | e
    · rw [e]; exact Rat.le_refl
    · exfalso
      have hd : 0 < a - c := by
        have := Rat.lt_of_le_of_ne h1 (fun x => e x.symm)
        grind
      obtain ⟨n, hn⟩ := h
      obtain ⟨k, hk⟩ := archP (B / (a - c))
      have h2 := hn (max n k) (by omega)
      have h3 := hk (max n k) (by omega)
      have hp := P_pos (max n k)
      generalize P (max n k) = p at *
      have e1 : B / (a - c) * (a - c) = B := Rat.div_mul_cancel (by grind)
      have e2 : B / p * p = B := Rat.div_mul_cancel (by grind)
      have h4 := Rat.mul_lt_mul_of_pos_right h3 hd
      have h5 := Rat.mul_le_mul_of_nonneg_right (show a - c ≤ B / p by grind) (Rat.le_of_lt hp)
      grind

end Ex
end Mine

namespace Mine
namespace Ex

/-- Bernoulli -/
theorem bern (u : Rat) : ∀ n, 1 + P n * (u - 1) ≤ sq n u := by
  intro n
  induction n generalizing u with
  | zero => rw [P_zero]; show 1 + 1 * (u - 1) ≤ u; grind
  | succ n ih =>
    have h := ih (u * u)
    have h2 := sq_nonneg (u - 1)
    have h3 := Rat.mul_le_mul_of_nonneg_left (show 2 * (u - 1) ≤ u * u - 1 by grind) (Rat.le_of_lt (P_pos n))
    show 1 + P (n + 1) * (u - 1) ≤ sq n (u * u)
    rw [P_succ]
    grind

/-- interest on interest, at 2 ^ n parts -/
def ap (q : Rat) (n : Nat) : Rat := sq n (1 + q / P n)
def Ok (q : Rat) (n : Nat) : Prop := 0 ≤ 1 + q / P n

theorem div_P_succ (q : Rat) (n : Nat) : q / P (n + 1) = q / P n / 2 := by
  rw [P_succ]
  have := P_pos n
  grind
theorem ok_succ {q : Rat} {n : Nat} (h : Ok q n) : Ok q (n + 1) := by
  unfold Ok at *
  rw [div_P_succ]
  grind
theorem ok_mono {q : Rat} {m n : Nat} (h : Ok q m) (hm : m ≤ n) : Ok q n := by
  obtain ⟨k, rfl⟩ := Nat.le.dest hm
  induction k with
  | zero => exact h
  | succ k ih => exact ok_succ (ih (by omega))
theorem ap_succ {q : Rat} {n : Nat} (h : Ok q n) : ap q n ≤ ap q (n + 1) := by
  unfold ap
  show sq n (1 + q / P n) ≤ sq n ((1 + q / P (n + 1)) * (1 + q / P (n + 1)))
  refine sq_le h ?_ n
  rw [div_P_succ]
  have := sq_nonneg (q / P n / 2)
  grind
theorem ap_mono {q : Rat} {m n : Nat} (h : Ok q m) (hm : m ≤ n) : ap q m ≤ ap q n := by
  obtain ⟨k, rfl⟩ := Nat.le.dest hm
  induction k with
  | zero => exact Rat.le_refl
  | succ k ih => exact Rat.le_trans (ih (by omega)) (ap_succ (ok_mono h (by omega)))
/-- from some n on q is less than a small part of 2 ^ n -/
theorem small (q : Rat) {e : Rat} (he : 0 < e) : ∃ n : Nat, ∀ m, n ≤ m → -e < q / P m ∧ q / P m < e := by
  obtain ⟨a, ha⟩ := archP (q / e)
  obtain ⟨b, hb⟩ := archP (-q / e)
  refine ⟨max a b, fun m hm => ?_⟩
  have h1 := ha m (by omega)
  have h2 := hb m (by omega)
  have hp := P_pos m
  generalize P m = p at *
  have e1 : q / e * e = q := Rat.div_mul_cancel (by grind)
  have e2 : -q / e * e = -q := Rat.div_mul_cancel (by grind)
  have e3 : q / p * p = q := Rat.div_mul_cancel (by grind)
  have k1 := Rat.mul_lt_mul_of_pos_right h1 he
  have k2 := Rat.mul_lt_mul_of_pos_right h2 he
  constructor
  · rcases Rat.le_total (a := q / p) (b := -e) with h | h
    · have := Rat.mul_le_mul_of_nonneg_right h (Rat.le_of_lt hp)
      grind
    · rcases Classical.em (q / p = -e) with x | x
      · rw [x] at e3; grind
      · exact Rat.lt_of_le_of_ne h (fun y => x y.symm)
  · rcases Rat.le_total (a := e) (b := q / p) with h | h
    · have := Rat.mul_le_mul_of_nonneg_right h (Rat.le_of_lt hp)
      grind
    · rcases Classical.em (q / p = e) with x | x
      · rw [x] at e3; grind
      · exact Rat.lt_of_le_of_ne h x

/-- exp q is no more than b -/
def EL (q b : Rat) : Prop := ∀ n, Ok q n → ap q n ≤ b
/-- exp q is no less than b -/
def EG (q b : Rat) : Prop := ∀ c, EL q c → b ≤ c

theorem ok_ex (q : Rat) : ∃ n, ∀ m, n ≤ m → Ok q m ∧ 0 < 1 + q / P m := by
  obtain ⟨n, hn⟩ := small q (e := 1) (by decide)
  refine ⟨n, fun m hm => ?_⟩
  have := hn m hm
  unfold Ok
  grind
theorem ap_ge {q : Rat} {n : Nat} : 1 + q ≤ ap q n := by
  have h := bern (1 + q / P n) n
  have hp := P_pos n
  have e : P n * (1 + q / P n - 1) = q := by grind
  unfold ap
  rw [e] at h
  exact h
theorem EL.pos {q b : Rat} (h : EL q b) : 0 < b := by
  obtain ⟨n, hn⟩ := ok_ex q
  obtain ⟨h1, h2⟩ := hn n (Nat.le_refl n)
  have := h n h1
  have := sq_pos h2 n
  unfold ap at *
  grind
theorem EG.le {q a b : Rat} (h : EG q a) (h2 : EL q b) : a ≤ b := h b h2
theorem EL.mono {q b c : Rat} (h : EL q b) (hc : b ≤ c) : EL q c := fun n hn => Rat.le_trans (h n hn) hc
theorem EG.mono {q b c : Rat} (h : EG q b) (hc : c ≤ b) : EG q c := fun d hd => Rat.le_trans hc (h d hd)
theorem EG.one_add (q : Rat) : EG q (1 + q) := fun c hc => by
  obtain ⟨n, hn⟩ := ok_ex q
  exact Rat.le_trans ap_ge (hc n (hn n (Nat.le_refl n)).1)

theorem ap_neg {q : Rat} {n : Nat} (h1 : Ok q n) (h2 : Ok (-q) n) : ap q n * ap (-q) n ≤ 1 := by
  unfold ap Ok at *
  rw [← sq_mul]
  have h3 := Rat.mul_nonneg h1 h2
  have h4 := sq_nonneg (q / P n)
  have := sq_le h3 (show (1 + q / P n) * (1 + -q / P n) ≤ 1 by
    have e : -q / P n = -(q / P n) := by grind
    rw [e]; grind) n
  rwa [sq_one] at this
theorem ap_neg2 {q : Rat} {m n : Nat} (h1 : Ok q m) (h2 : Ok (-q) n) : ap q m * ap (-q) n ≤ 1 := by
  have a1 := ap_mono h1 (show m ≤ max m n by omega)
  have a2 := ap_mono h2 (show n ≤ max m n by omega)
  have a3 := ap_neg (ok_mono h1 (show m ≤ max m n by omega)) (ok_mono h2 (show n ≤ max m n by omega))
  have b1 : 0 ≤ ap q m := sq_nn h1 m
  have b2 : 0 ≤ ap (-q) n := sq_nn h2 n
  have c1 := Rat.mul_le_mul_of_nonneg_right a1 b2
  have c2 := Rat.mul_le_mul_of_nonneg_left a2 (show 0 ≤ ap q (max m n) by grind)
  grind
/-- from below to above -/
theorem EG.neg {q c : Rat} (h : EG q c) (hc : 0 < c) : EL (-q) (1 / c) := fun n hn => by
  have b0 : 0 ≤ ap (-q) n := sq_nn hn n
  refine le_div hc ?_
  rcases Classical.em (ap (-q) n = 0) with e | e
  · rw [e]; grind
  · have b1 : 0 < ap (-q) n := Rat.lt_of_le_of_ne b0 (fun x => e x.symm)
    have h1 : EL q (1 / ap (-q) n) := fun m hm => le_div b1 (ap_neg2 hm hn)
    have h2 := le_div_mul b1 (h _ h1)
    grind
/-- from above to below -/
theorem EL.neg {q b : Rat} (h : EL q b) : EG (-q) (1 / b) := fun c hc => by
  have hb := h.pos
  refine div_le hb ?_
  have hc0 := hc.pos
  obtain ⟨n1, h1⟩ := ok_ex q
  obtain ⟨n2, h2⟩ := ok_ex (-q)
  refine le_of_all (B := q * q) ⟨max n1 n2, fun m hm => ?_⟩
  obtain ⟨o1, p1⟩ := h1 m (by omega)
  obtain ⟨o2, p2⟩ := h2 m (by omega)
  have a1 := h m o1
  have a2 := hc m o2
  have b1 : 0 ≤ ap q m := sq_nn o1 m
  have b2 : 0 ≤ ap (-q) m := sq_nn o2 m
  have hp := P_pos m
  have k : 1 - q * q / P m ≤ ap q m * ap (-q) m := by
    unfold ap
    rw [← sq_mul]
    have := bern ((1 + q / P m) * (1 + -q / P m)) m
    have e : P m * ((1 + q / P m) * (1 + -q / P m) - 1) = -(q * q / P m) := by grind
    rw [e] at this
    grind
  have c1 := Rat.mul_le_mul_of_nonneg_right a1 b2
  have c2 := Rat.mul_le_mul_of_nonneg_left a2 (Rat.le_of_lt hb)
  grind

theorem sq_up {s : Rat} (h0 : 0 ≤ s) {n : Nat} (h : P n * s < 1) : sq n (1 + s) * (1 - P n * s) ≤ 1 := by
  have hp := P_pos n
  have hs : s < 1 := by
    have h1 : (1 : Rat) ≤ P n := by have := P_mono (Nat.zero_le n); rwa [P_zero] at this
    have := Rat.mul_le_mul_of_nonneg_right h1 h0
    grind
  have h1 := bern (1 - s) n
  have h2 : sq n (1 + s) * sq n (1 - s) ≤ 1 := by
    rw [← sq_mul]
    have h3 := sq_nonneg s
    have := sq_le (u := (1 + s) * (1 - s)) (v := 1) (Rat.mul_nonneg (by grind) (by grind)) (by grind) n
    rwa [sq_one] at this
  have h4 : 0 ≤ sq n (1 + s) := sq_nn (by grind) n
  have h5 := Rat.mul_le_mul_of_nonneg_left (show 1 - P n * s ≤ sq n (1 - s) by grind) h4
  grind

theorem EL.add {q r b c : Rat} (h1 : EL q b) (h2 : EL r c) : EL (q + r) (b * c) := fun n hn => by
  have hb := h1.pos
  have hc := h2.pos
  obtain ⟨n1, k1⟩ := small q (e := 1 / 4) (by grind)
  obtain ⟨n2, k2⟩ := small r (e := 1 / 4) (by grind)
  obtain ⟨n3, k3⟩ := ok_ex (q + r)
  -- the size of the cross term
  obtain ⟨D, hD0, hD1, hD2⟩ : ∃ D : Rat, 0 ≤ D ∧ q * r ≤ D ∧ -(q * r) ≤ D := by
    rcases Rat.le_total (a := 0) (b := q * r) with h | h
    · exact ⟨q * r, h, Rat.le_refl, by grind⟩
    · exact ⟨-(q * r), by grind, by grind, Rat.le_refl⟩
  obtain ⟨n4, k4⟩ := archP (2 * D)
  refine le_of_all (B := 2 * D * ap (q + r) n) ⟨max (max n1 n2) (max (max n3 n4) n), fun m hm => ?_⟩
  obtain ⟨q1, q2⟩ := k1 m (by omega)
  obtain ⟨r1, r2⟩ := k2 m (by omega)
  obtain ⟨o3, p3⟩ := k3 m (by omega)
  have d4 := k4 m (by omega)
  have hp := P_pos m
  have hmono := ap_mono hn (show n ≤ m by omega)
  have oq : Ok q m := by unfold Ok; grind
  have or' : Ok r m := by unfold Ok; grind
  have a1 := h1 m oq
  have a2 := h2 m or'
  have hs0 : 0 ≤ 2 * D / P m / P m := div_nn (div_nn (by grind) hp) hp
  have hs1 : P m * (2 * D / P m / P m) = 2 * D / P m := by grind
  have hs2 : 2 * D / P m < 1 := by
    rcases Classical.em (2 * D / P m < 1) with x | x
    · exact x
    · have := le_div_mul hp (Rat.not_lt.mp x)
      grind
  have up := sq_up hs0 (n := m) (by rw [hs1]; exact hs2)
  rw [hs1] at up
  generalize hs : 2 * D / P m / P m = s at *
  -- v ≤ u (1 + s)
  have hu : (1 : Rat) / 2 ≤ (1 + q / P m) * (1 + r / P m) := by
    have := Rat.mul_le_mul_of_nonneg_left (show (3 : Rat) / 4 ≤ 1 + r / P m by grind) (show 0 ≤ 1 + q / P m by grind)
    grind
  have hv : 1 + (q + r) / P m ≤ (1 + q / P m) * (1 + r / P m) * (1 + s) := by
    have t1 := Rat.mul_le_mul_of_nonneg_right hu hs0
    have t2 : -(q * r) / P m / P m ≤ D / P m / P m := div_mono hp (div_mono hp hD2)
    have t3 : D / P m / P m = s / 2 := by rw [← hs]; grind
    have t4 : 1 + (q + r) / P m = (1 + q / P m) * (1 + r / P m) + -(q * r) / P m / P m := by grind
    rw [t4]
    grind
  have b1 : ap (q + r) m ≤ ap q m * ap r m * sq m (1 + s) := by
    have := sq_le o3 hv m
    rw [sq_mul, sq_mul] at this
    exact this
  have x1 : 0 ≤ ap q m := sq_nn oq m
  have x2 : 0 ≤ ap r m := sq_nn or' m
  have x3 : 0 ≤ sq m (1 + s) := sq_nn (by grind) m
  have c1 := Rat.mul_le_mul_of_nonneg_right a1 x2
  have c2 := Rat.mul_le_mul_of_nonneg_left a2 (Rat.le_of_lt hb)
  have c3 := Rat.mul_le_mul_of_nonneg_right (show ap q m * ap r m ≤ b * c by grind) x3
  have c4 : ap (q + r) m ≤ b * c * sq m (1 + s) := Rat.le_trans b1 c3
  have c5 := Rat.mul_le_mul_of_nonneg_right c4 (show 0 ≤ 1 - 2 * D / P m by grind)
  have c6 := Rat.mul_le_mul_of_nonneg_left up (Rat.le_of_lt (Rat.mul_pos hb hc))
  have c7 := Rat.mul_le_mul_of_nonneg_right hmono (show 0 ≤ 1 - 2 * D / P m by grind)
  have e : 2 * D * ap (q + r) n / P m = ap (q + r) n * (2 * D / P m) := by grind
  rw [e]
  grind

theorem EG.add {q r b c : Rat} (h1 : EG q b) (h2 : EG r c) (hc : 0 < c) : EG (q + r) (b * c) := fun d hd => by
  have h3 := EL.add hd (h2.neg hc)
  have e : q + r + -r = q := by grind
  rw [e] at h3
  have := h1 _ h3
  have e2 : d * (1 / c) = d / c := by grind
  rw [e2] at this
  exact le_div_mul hc this

theorem ap_q_mono {q r : Rat} (h : q ≤ r) {n : Nat} (hn : Ok q n) : ap q n ≤ ap r n := by
  refine sq_le hn ?_ n
  have hp := P_pos n
  have : q / P n ≤ r / P n := div_mono hp h
  grind
theorem EL.exp_mono {q r b : Rat} (h : EL r b) (hq : q ≤ r) : EL q b := fun n hn => by
  have hp := P_pos n
  have : q / P n ≤ r / P n := div_mono hp hq
  exact Rat.le_trans (ap_q_mono hq hn) (h n (by unfold Ok at *; grind))
theorem EG.exp_mono {q r b : Rat} (h : EG q b) (hq : q ≤ r) : EG r b := fun c hc => h c (hc.exp_mono hq)
theorem EL.zero : EL 0 1 := fun n _ => by
  unfold ap
  have e : (1 : Rat) + 0 / P n = 1 := by have := P_pos n; grind
  rw [e, sq_one]
  exact Rat.le_refl
theorem EG.zero : EG 0 1 := by have := EG.one_add 0; rwa [Rat.add_zero] at this
theorem EL.inv {x : Rat} (h : x < 1) : EL x (1 / (1 - x)) := by
  have h1 := EG.one_add (-x)
  have h2 := EG.neg h1 (by grind)
  have e : - -x = x := by grind
  have e2 : 1 + -x = 1 - x := by grind
  rwa [e, e2] at h2
/-- closing -/
theorem EL.of_all {q b B : Rat} (h : ∃ n : Nat, ∀ m, n ≤ m → EL q (b + B / P m)) : EL q b := fun k hk => by
  obtain ⟨n, hn⟩ := h
  exact le_of_all ⟨n, fun m hm => hn m hm k hk⟩
theorem EG.of_all {q b B : Rat} (h : ∃ n : Nat, ∀ m, n ≤ m → EG q (b - B / P m)) : EG q b := fun c hc => by
  obtain ⟨n, hn⟩ := h
  refine le_of_all (B := B) ⟨n, fun m hm => ?_⟩
  have := hn m hm c hc
  grind
theorem EL.quad {x : Rat} (h : x ≤ 1 / 2) : EL x (1 + x + 2 * (x * x)) := by
  refine (EL.inv (by grind)).mono (div_le (by grind) ?_)
  have := sq_nonneg x
  have := Rat.mul_le_mul_of_nonneg_right (show 0 ≤ 1 - 2 * x by grind) this
  grind

end Ex
end Mine

namespace Mine
namespace Ex

theorem pow_up {s : Rat} (h0 : 0 ≤ s) : ∀ n : Nat, (1 + s) ^ n * (1 - (n : Rat) * s) ≤ 1
  | 0 => by
    have e : ((0 : Nat) : Rat) = 0 := rfl
    rw [Rat.pow_zero, e]; grind
  | n + 1 => by
    have ih := pow_up h0 n
    have e : ((n + 1 : Nat) : Rat) = (n : Rat) + 1 := by grind
    rw [Rat.pow_succ, e]
    have hn : (0 : Rat) ≤ (n : Rat) := by exact_mod_cast Nat.zero_le n
    have hp : 0 < (1 + s) ^ n := Rat.pow_pos (by grind)
    generalize (1 + s) ^ n = u at *
    generalize (n : Rat) = k at *
    have h1 := Rat.mul_nonneg h0 h0
    have h2 := Rat.mul_nonneg (Rat.mul_nonneg hn h1) (Rat.le_of_lt hp)
    have h3 := Rat.mul_nonneg h1 (Rat.le_of_lt hp)
    grind
theorem pow_dn {s : Rat} (h0 : 0 ≤ s) (h1 : s ≤ 1) : ∀ n : Nat, 1 - (n : Rat) * s ≤ (1 - s) ^ n
  | 0 => by
    have e : ((0 : Nat) : Rat) = 0 := rfl
    rw [Rat.pow_zero, e]; grind
  | n + 1 => by
    have ih := pow_dn h0 h1 n
    have e : ((n + 1 : Nat) : Rat) = (n : Rat) + 1 := by grind
    rw [Rat.pow_succ, e]
    have hn : (0 : Rat) ≤ (n : Rat) := by exact_mod_cast Nat.zero_le n
    have h2 := Rat.mul_le_mul_of_nonneg_right ih (show 0 ≤ 1 - s by grind)
    have h3 := Rat.mul_nonneg hn (Rat.mul_nonneg h0 h0)
    generalize (1 - s) ^ n = u at *
    generalize (n : Rat) = k at *
    grind
theorem pow_nn {u : Rat} (h : 0 ≤ u) (n : Nat) : 0 ≤ u ^ n := by
  induction n with
  | zero => rw [Rat.pow_zero]; decide
  | succ n ih => rw [Rat.pow_succ]; exact Rat.mul_nonneg ih h
theorem P_cast (n : Nat) : P n = ((2 ^ n : Nat) : Rat) := by
  induction n with
  | zero => rw [P_zero]; rfl
  | succ n ih =>
    rw [P_succ, ih, Nat.pow_succ]
    have : ((2 ^ n * 2 : Nat) : Rat) = ((2 ^ n : Nat) : Rat) * 2 := by grind
    rw [this]; grind

theorem div_self1 {x : Rat} (h : 0 < x) : x / x * 1 = 1 := by grind
theorem tele {a b c u v : Rat} (ha : 0 < a) (hc : 0 < c) : a / c * u * (b / a * v) = b / c * (u * v) := by grind
theorem tele2 (a b c : Rat) : a - c + (b - a) = b - c := by grind
theorem sub_self' (a : Rat) : a - a = 0 := by grind

/-- f has the slope f' on 0 .. X, but for a square of the way; all bounded -/
structure Sm (X B C : Rat) (f f' : Rat → Rat) : Prop where
  b0 : 0 ≤ B
  c0 : 0 ≤ C
  lo : ∀ t, 0 ≤ t → t ≤ X → -B ≤ f t
  hi : ∀ t, 0 ≤ t → t ≤ X → f t ≤ B
  lo' : ∀ t, 0 ≤ t → t ≤ X → -B ≤ f' t
  hi' : ∀ t, 0 ≤ t → t ≤ X → f' t ≤ B
  dn : ∀ t h, 0 ≤ t → 0 ≤ h → t + h ≤ X → f t + h * f' t - C * (h * h) ≤ f (t + h)
  up : ∀ t h, 0 ≤ t → 0 ≤ h → t + h ≤ X → f (t + h) ≤ f t + h * f' t + C * (h * h)

theorem step_sum {X h : Rat} {i : Nat} (h0 : 0 ≤ h) (hi : ((i + 1 : Nat) : Rat) * h ≤ X) : 0 ≤ (i : Rat) * h ∧ (i : Rat) * h + h ≤ X ∧ (i : Rat) * h + h = ((i + 1 : Nat) : Rat) * h := by
  have e : ((i + 1 : Nat) : Rat) = (i : Rat) + 1 := by grind
  have hn : (0 : Rat) ≤ (i : Rat) := by exact_mod_cast Nat.zero_le i
  have h1 := Rat.mul_nonneg hn h0
  rw [e] at *
  refine ⟨h1, by grind, by grind⟩

theorem up_steps {X h D : Rat} {f g : Rat → Rat} (h0 : 0 ≤ h) (hD : 0 ≤ D) (hg : ∀ t, 0 ≤ t → t ≤ X → 0 < g t)
    (st : ∀ t, 0 ≤ t → t + h ≤ X → EL (f (t + h) - f t) (g (t + h) / g t * (1 + D * (h * h)))) (hX : 0 ≤ X) :
    ∀ i : Nat, (i : Rat) * h ≤ X → EL (f ((i : Rat) * h) - f 0) (g ((i : Rat) * h) / g 0 * (1 + D * (h * h)) ^ i)
  | 0, _ => by
    have e : ((0 : Nat) : Rat) * h = 0 := by have : ((0 : Nat) : Rat) = 0 := rfl; rw [this]; grind
    rw [e, Rat.pow_zero]
    have hp := hg 0 Rat.le_refl hX
    rw [sub_self', div_self1 hp]
    exact EL.zero
  | i + 1, hi => by
    obtain ⟨s1, s2, s3⟩ := step_sum h0 hi
    have ih := up_steps h0 hD hg st hX i (by grind)
    have k := st ((i : Rat) * h) s1 s2
    rw [s3] at k
    have r := EL.add ih k
    have p0 := hg 0 Rat.le_refl hX
    have p1 := hg ((i : Rat) * h) s1 (by grind)
    generalize ((i + 1 : Nat) : Rat) * h = b at *
    generalize (i : Rat) * h = a at *
    rw [tele2, tele p1 p0, ← Rat.pow_succ] at r
    exact r

theorem dn_steps {X h D : Rat} {f g : Rat → Rat} (h0 : 0 ≤ h) (hD : 0 < 1 - D * (h * h)) (hg : ∀ t, 0 ≤ t → t ≤ X → 0 < g t)
    (st : ∀ t, 0 ≤ t → t + h ≤ X → EG (f (t + h) - f t) (g (t + h) / g t * (1 - D * (h * h)))) (hX : 0 ≤ X) :
    ∀ i : Nat, (i : Rat) * h ≤ X → EG (f ((i : Rat) * h) - f 0) (g ((i : Rat) * h) / g 0 * (1 - D * (h * h)) ^ i)
  | 0, _ => by
    have e : ((0 : Nat) : Rat) * h = 0 := by have : ((0 : Nat) : Rat) = 0 := rfl; rw [this]; grind
    rw [e, Rat.pow_zero]
    have hp := hg 0 Rat.le_refl hX
    rw [sub_self', div_self1 hp]
    exact EG.zero
  | i + 1, hi => by
    obtain ⟨s1, s2, s3⟩ := step_sum h0 hi
    have ih := dn_steps h0 hD hg st hX i (by grind)
    have k := st ((i : Rat) * h) s1 s2
    rw [s3] at k
    have p0 := hg 0 Rat.le_refl hX
    have p1 := hg ((i : Rat) * h) s1 (by grind)
    have p2 := hg (((i + 1 : Nat) : Rat) * h) (by grind) hi
    have r := EG.add ih k (Rat.mul_pos (div_pos p2 p1) hD)
    generalize ((i + 1 : Nat) : Rat) * h = b at *
    generalize (i : Rat) * h = a at *
    rw [tele2, tele p1 p0, ← Rat.pow_succ] at r
    exact r

end Ex
end Mine

namespace Mine
namespace Ex

theorem lt_lt_le {a b c : Rat} (h : a < b) (h2 : b ≤ c) : a < c := by grind
theorem par1 {D X p : Rat} (hp : 0 < p) : p * (D * (X / p * (X / p))) = D * (X * X) / p := by grind
theorem par2 {X p : Rat} (hp : 0 < p) : p * (X / p) = X := by grind
theorem par3 {X p : Rat} (hp : 0 < p) (h : X < p) : X / p ≤ 1 := div_le hp (by grind)
theorem par4 {X p K : Rat} (hp : 0 < p) (h : 2 * X * K < p) : X / p * K ≤ 1 / 2 := by
  have e : X / p * K = X * K / p := by grind
  rw [e]
  exact div_le hp (by grind)
theorem par5 {q p : Rat} (hp : 0 < p) (h : 2 * q < p) : q / p ≤ 1 / 2 := div_le hp (by grind)
theorem par6 (r q p : Rat) : 2 * r * q / p = r * (2 * (q / p)) := by grind
theorem par7 (r q p : Rat) : r * q / p = r * (q / p) := by grind
theorem par8 {u q : Rat} (hq0 : 0 ≤ q) (hq1 : q ≤ 1 / 2) (pu : u * (1 - q) ≤ 1) : u ≤ 1 + 2 * q := by
  rcases Classical.em (u ≤ 1 + 2 * q) with x | x
  · exact x
  · have y := Rat.mul_lt_mul_of_pos_right (lt_of_not_le x) (show 0 < 1 - q by grind)
    have z := Rat.mul_nonneg hq0 (show 0 ≤ 1 - 2 * q by grind)
    grind
theorem par9 {h f' B C : Rat} (h0 : 0 ≤ h) (h1 : h ≤ 1) (hC : 0 ≤ C) (f2 : f' ≤ B) (hh : h * (B + C) ≤ 1 / 2) : h * f' + C * (h * h) ≤ 1 / 2 := by
  have x1 := Rat.mul_le_mul_of_nonneg_left f2 h0
  have x2 := Rat.mul_le_mul_of_nonneg_left h1 (Rat.mul_nonneg hC h0)
  grind
theorem par10 {a b c d : Rat} (h : a ≤ b + c + d) : a - b ≤ c + d := by grind
theorem par11 {a b c d : Rat} (h : b + c - d ≤ a) : c - d ≤ a - b := by grind
theorem par12 {r u q : Rat} (hr : 0 < r) (h : u ≤ 1 + 2 * q) : r * u ≤ r + r * (2 * q) := by
  have := Rat.mul_le_mul_of_nonneg_left h (Rat.le_of_lt hr)
  grind
theorem par13 {r u q : Rat} (hr : 0 < r) (h : 1 - q ≤ u) : r - r * q ≤ r * u := by
  have := Rat.mul_le_mul_of_nonneg_left h (Rat.le_of_lt hr)
  grind
theorem par14 {a b : Rat} (ha : 0 ≤ a) (hb : 0 ≤ b) : 0 ≤ a + b := by grind
theorem par15 {s p : Rat} (h1 : 1 ≤ p) (hs : 0 ≤ s) (h : p * s ≤ 1 / 2) : s ≤ 1 / 2 ∧ 0 < 1 - s := by
  have := Rat.mul_le_mul_of_nonneg_right h1 hs
  grind
theorem P_ge1 (m : Nat) : (1 : Rat) ≤ P m := by have := P_mono (Nat.zero_le m); rwa [P_zero] at this

/-- the arithmetic of one step, upwards -/
theorem step_up_arith {B C γ h f' g g' g2 s : Rat} (hB : 0 ≤ B) (hC : 0 ≤ C) (hγ : 0 < γ) (h0 : 0 ≤ h) (h1 : h ≤ 1)
    (f1 : -B ≤ f') (f2 : f' ≤ B) (g1 : γ ≤ g) (g3 : g ≤ B) (g4 : γ ≤ g2) (hd : f' * g ≤ g') (hg : g + h * g' - C * (h * h) ≤ g2) (hs : s = h * f' + C * (h * h)) :
    1 + s + 2 * (s * s) ≤ g2 / g * (1 + (C + (C + 2 * ((B + C) * (B + C))) * B) / γ * (h * h)) := by
  have hg0 : 0 < g := by grind
  have hh : 0 ≤ h * h := Rat.mul_nonneg h0 h0
  -- s * s ≤ (h (B + C)) ^ 2
  have a1 : -(h * (B + C)) ≤ s := by
    have x1 := Rat.mul_le_mul_of_nonneg_left f1 h0
    have x2 := Rat.mul_nonneg hC hh
    have x3 := Rat.mul_nonneg h0 hC
    grind
  have a2 : s ≤ h * (B + C) := by
    have x1 := Rat.mul_le_mul_of_nonneg_left f2 h0
    have x2 := Rat.mul_le_mul_of_nonneg_left h1 (Rat.mul_nonneg hC h0)
    grind
  have a3 : s * s ≤ h * h * ((B + C) * (B + C)) := by
    have := Rat.mul_nonneg (show 0 ≤ h * (B + C) - s by grind) (show 0 ≤ h * (B + C) + s by grind)
    grind
  -- times g
  have b1 : (1 + s + 2 * (s * s)) * g ≤ g2 + (C + (C + 2 * ((B + C) * (B + C))) * B) * (h * h) := by
    have x1 := Rat.mul_le_mul_of_nonneg_right a3 (Rat.le_of_lt hg0)
    have x2 := Rat.mul_le_mul_of_nonneg_left hd h0
    have x3 := Rat.mul_le_mul_of_nonneg_left g3 (Rat.mul_nonneg hh (show 0 ≤ C + 2 * ((B + C) * (B + C)) by
      have := sq_nonneg (B + C); grind))
    rw [hs] at *
    grind
  have b2 : (C + (C + 2 * ((B + C) * (B + C))) * B) * (h * h) ≤ g2 * ((C + (C + 2 * ((B + C) * (B + C))) * B) / γ * (h * h)) := by
    have k0 : 0 ≤ C + (C + 2 * ((B + C) * (B + C))) * B := by
      have x1 := sq_nonneg (B + C)
      have x2 := Rat.mul_nonneg (show 0 ≤ C + 2 * ((B + C) * (B + C)) by grind) hB
      grind
    generalize C + (C + 2 * ((B + C) * (B + C))) * B = K at *
    have x1 := Rat.mul_nonneg (div_nn k0 hγ) hh
    have x2 := Rat.mul_le_mul_of_nonneg_right g4 x1
    have e : γ * (K / γ * (h * h)) = K * (h * h) := by grind
    rw [e] at x2
    exact x2
  generalize (C + (C + 2 * ((B + C) * (B + C))) * B) / γ * (h * h) = w at *
  have e : g2 / g * (1 + w) = g2 * (1 + w) / g := by grind
  rw [e]
  refine le_div hg0 ?_
  grind

theorem step_dn_arith {B C γ h f' g g' g2 s : Rat} (hB : 0 ≤ B) (hC : 0 ≤ C) (hγ : 0 < γ) (h0 : 0 ≤ h)
    (g1 : γ ≤ g) (g3 : g ≤ B) (g4 : γ ≤ g2) (hd : g' ≤ f' * g) (hg : g2 ≤ g + h * g' + C * (h * h)) (hs : s = h * f' - C * (h * h)) :
    g2 / g * (1 - (C + C * B) / γ * (h * h)) ≤ 1 + s := by
  have hg0 : 0 < g := by grind
  have hh : 0 ≤ h * h := Rat.mul_nonneg h0 h0
  have b1 : g2 - (C + C * B) * (h * h) ≤ (1 + s) * g := by
    have x2 := Rat.mul_le_mul_of_nonneg_left hd h0
    have x3 := Rat.mul_le_mul_of_nonneg_left g3 (Rat.mul_nonneg hC hh)
    rw [hs]
    grind
  have b2 : (C + C * B) * (h * h) ≤ g2 * ((C + C * B) / γ * (h * h)) := by
    have k0 : 0 ≤ C + C * B := by have := Rat.mul_nonneg hC hB; grind
    generalize C + C * B = K at *
    have x1 := Rat.mul_nonneg (div_nn k0 hγ) hh
    have x2 := Rat.mul_le_mul_of_nonneg_right g4 x1
    have e : γ * (K / γ * (h * h)) = K * (h * h) := by grind
    rw [e] at x2
    exact x2
  generalize (C + C * B) / γ * (h * h) = w at *
  have e : g2 / g * (1 - w) = g2 * (1 - w) / g := by grind
  rw [e]
  refine div_le hg0 ?_
  grind

/-- f' g ≤ g' : exp of the rise of f is no more than the ratio of g -/
theorem cmp_up {X B C γ : Rat} {f f' g g' : Rat → Rat} (hX : 0 ≤ X) (F : Sm X B C f f') (G : Sm X B C g g') (hγ : 0 < γ) (hg : ∀ t, 0 ≤ t → t ≤ X → γ ≤ g t)
    (hd : ∀ t, 0 ≤ t → t ≤ X → f' t * g t ≤ g' t) : EL (f X - f 0) (g X / g 0) := by
  have hB := F.b0
  have hC := F.c0
  have hK : 0 ≤ C + (C + 2 * ((B + C) * (B + C))) * B := by
    have x1 := sq_nonneg (B + C)
    have x2 := Rat.mul_nonneg (show 0 ≤ C + 2 * ((B + C) * (B + C)) by clear hd hg; grind) hB
    exact par14 hC x2
  have hD := div_nn hK hγ
  have arith := fun h (h0 : 0 ≤ h) (h1 : h ≤ 1) t t0 t2 t1 hh => step_up_arith (s := h * f' t + C * (h * h)) hB hC hγ h0 h1 (F.lo' t t0 t2) (F.hi' t t0 t2) (hg t t0 t2) (G.hi t t0 t2) (hg (t + h) hh t1) (hd t t0 t2) (G.dn t h t0 h0 t1) rfl
  generalize (C + (C + 2 * ((B + C) * (B + C))) * B) / γ = D at *
  have hgp : ∀ t, 0 ≤ t → t ≤ X → 0 < g t := fun t h1 h2 => lt_lt_le hγ (hg t h1 h2)
  obtain ⟨n1, k1⟩ := archP (2 * X * (B + C))
  obtain ⟨n2, k2⟩ := archP X
  obtain ⟨n3, k3⟩ := archP (2 * (D * (X * X)))
  refine EL.of_all (B := 2 * (g X / g 0) * (D * (X * X))) ⟨max n1 (max n2 n3), fun m hm => ?_⟩
  have m1 := k1 m (by omega)
  have m2 := k2 m (by omega)
  have m3 := k3 m (by omega)
  have hp := P_pos m
  have hh0 : 0 ≤ X / P m := div_nn hX hp
  have hh1 : X / P m ≤ 1 := par3 hp m2
  have hh2 : X / P m * (B + C) ≤ 1 / 2 := par4 hp m1
  have st : ∀ t, 0 ≤ t → t + X / P m ≤ X → EL (f (t + X / P m) - f t) (g (t + X / P m) / g t * (1 + D * (X / P m * (X / P m)))) := by
    intro t t0 t1
    have t3 : 0 ≤ t + X / P m := par14 t0 hh0
    have t2 : t ≤ X := by clear hd hg hgp arith k1 k2 k3 hm; grind
    refine EL.mono ?_ (arith _ hh0 hh1 t t0 t2 t1 t3)
    exact EL.exp_mono (EL.quad (par9 hh0 hh1 hC (F.hi' t t0 t2) hh2)) (par10 (F.up t (X / P m) t0 hh0 t1))
  have key := up_steps hh0 hD hgp st hX (2 ^ m)
  rw [← P_cast, par2 hp] at key
  refine (key Rat.le_refl).mono ?_
  have pu := pow_up (s := D * (X / P m * (X / P m))) (Rat.mul_nonneg hD (Rat.mul_nonneg hh0 hh0)) (2 ^ m)
  rw [← P_cast, par1 hp] at pu
  have hq0 : 0 ≤ D * (X * X) / P m := div_nn (Rat.mul_nonneg hD (Rat.mul_nonneg hX hX)) hp
  have hq1 : D * (X * X) / P m ≤ 1 / 2 := par5 hp m3
  have hr0 : 0 < g X / g 0 := div_pos (hgp X hX Rat.le_refl) (hgp 0 Rat.le_refl hX)
  rw [par6]
  exact par12 hr0 (par8 hq0 hq1 pu)

/-- g' ≤ f' g : exp of the rise of f is no less than the ratio of g -/
theorem cmp_dn {X B C γ : Rat} {f f' g g' : Rat → Rat} (hX : 0 ≤ X) (F : Sm X B C f f') (G : Sm X B C g g') (hγ : 0 < γ) (hg : ∀ t, 0 ≤ t → t ≤ X → γ ≤ g t)
    (hd : ∀ t, 0 ≤ t → t ≤ X → g' t ≤ f' t * g t) : EG (f X - f 0) (g X / g 0) := by
  have hB := F.b0
  have hC := F.c0
  have hK : 0 ≤ C + C * B := par14 hC (Rat.mul_nonneg hC hB)
  have hD := div_nn hK hγ
  have arith := fun h (h0 : 0 ≤ h) t t0 t2 t1 hh => step_dn_arith (s := h * f' t - C * (h * h)) hB hC hγ h0 (hg t t0 t2) (G.hi t t0 t2) (hg (t + h) hh t1) (hd t t0 t2) (G.up t h t0 h0 t1) rfl
  generalize (C + C * B) / γ = D at *
  have hgp : ∀ t, 0 ≤ t → t ≤ X → 0 < g t := fun t h1 h2 => lt_lt_le hγ (hg t h1 h2)
  obtain ⟨n3, k3⟩ := archP (2 * (D * (X * X)))
  refine EG.of_all (B := (g X / g 0) * (D * (X * X))) ⟨n3, fun m hm => ?_⟩
  have m3 := k3 m (by omega)
  have hp := P_pos m
  have hh0 : 0 ≤ X / P m := div_nn hX hp
  have st : ∀ t, 0 ≤ t → t + X / P m ≤ X → EG (f (t + X / P m) - f t) (g (t + X / P m) / g t * (1 - D * (X / P m * (X / P m)))) := by
    intro t t0 t1
    have t3 : 0 ≤ t + X / P m := par14 t0 hh0
    have t2 : t ≤ X := by clear hd hg hgp arith k3 hm; grind
    refine EG.mono ?_ (arith _ hh0 t t0 t2 t1 t3)
    exact EG.exp_mono (EG.one_add _) (par11 (F.dn t (X / P m) t0 hh0 t1))
  have hq0 : 0 ≤ D * (X * X) / P m := div_nn (Rat.mul_nonneg hD (Rat.mul_nonneg hX hX)) hp
  have hq1 : D * (X * X) / P m ≤ 1 / 2 := par5 hp m3
  have hs0 : 0 ≤ D * (X / P m * (X / P m)) := Rat.mul_nonneg hD (Rat.mul_nonneg hh0 hh0)
  obtain ⟨hs1, hs2⟩ := par15 (P_ge1 m) hs0 (by rw [par1 hp]; exact hq1)
  have key := dn_steps hh0 hs2 hgp st hX (2 ^ m)
  rw [← P_cast, par2 hp] at key
  refine (key Rat.le_refl).mono ?_
  have pd := pow_dn hs0 (by clear hd hg hgp arith k3 hm st key; grind) (2 ^ m)
  rw [← P_cast, par1 hp] at pd
  have hr0 : 0 < g X / g 0 := div_pos (hgp X hX Rat.le_refl) (hgp 0 Rat.le_refl hX)
  rw [par7]
  exact par13 hr0 pd

end Ex
end Mine

namespace Mine
namespace Ex

def Smooth (X : Rat) (f f' : Rat → Rat) : Prop := ∃ B C, Sm X B C f f'

theorem Sm.mono {X B C B' C' : Rat} {f f' : Rat → Rat} (S : Sm X B C f f') (hB : B ≤ B') (hC : C ≤ C') : Sm X B' C' f f' where
  b0 := Rat.le_trans S.b0 hB
  c0 := Rat.le_trans S.c0 hC
  lo t h1 h2 := by have := S.lo t h1 h2; grind
  hi t h1 h2 := by have := S.hi t h1 h2; grind
  lo' t h1 h2 := by have := S.lo' t h1 h2; grind
  hi' t h1 h2 := by have := S.hi' t h1 h2; grind
  dn t h h1 h2 h3 := by
    have := S.dn t h h1 h2 h3
    have := Rat.mul_le_mul_of_nonneg_right hC (Rat.mul_nonneg h2 h2)
    grind
  up t h h1 h2 h3 := by
    have := S.up t h h1 h2 h3
    have := Rat.mul_le_mul_of_nonneg_right hC (Rat.mul_nonneg h2 h2)
    grind

theorem abs_ex (c : Rat) : ∃ a : Rat, 0 ≤ a ∧ -a ≤ c ∧ c ≤ a := by
  rcases Rat.le_total (a := 0) (b := c) with h | h
  · exact ⟨c, h, by grind, Rat.le_refl⟩
  · exact ⟨-c, by grind, by grind, by grind⟩
theorem Smooth.const {X : Rat} (c : Rat) : Smooth X (fun _ => c) (fun _ => 0) := by
  obtain ⟨a, h0, h1, h2⟩ := abs_ex c
  exact ⟨a, 0, h0, Rat.le_refl, fun _ _ _ => h1, fun _ _ _ => h2, fun _ _ _ => by grind, fun _ _ _ => h0, fun t h _ _ _ => by grind, fun t h _ _ _ => by grind⟩
theorem Smooth.add {X : Rat} {f f' g g' : Rat → Rat} (F : Smooth X f f') (G : Smooth X g g') : Smooth X (fun t => f t + g t) (fun t => f' t + g' t) := by
  obtain ⟨B, C, F⟩ := F
  obtain ⟨B2, C2, G⟩ := G
  refine ⟨B + B2, C + C2, par14 F.b0 G.b0, par14 F.c0 G.c0, fun t h1 h2 => ?_, fun t h1 h2 => ?_, fun t h1 h2 => ?_, fun t h1 h2 => ?_, fun t h h1 h2 h3 => ?_, fun t h h1 h2 h3 => ?_⟩
  · have a := F.lo t h1 h2; have b := G.lo t h1 h2; show -(B + B2) ≤ f t + g t; clear F G; grind
  · have a := F.hi t h1 h2; have b := G.hi t h1 h2; show f t + g t ≤ B + B2; clear F G; grind
  · have a := F.lo' t h1 h2; have b := G.lo' t h1 h2; show -(B + B2) ≤ f' t + g' t; clear F G; grind
  · have a := F.hi' t h1 h2; have b := G.hi' t h1 h2; show f' t + g' t ≤ B + B2; clear F G; grind
  · have a := F.dn t h h1 h2 h3; have b := G.dn t h h1 h2 h3
    show f t + g t + h * (f' t + g' t) - (C + C2) * (h * h) ≤ f (t + h) + g (t + h)
    clear F G; grind
  · have a := F.up t h h1 h2 h3; have b := G.up t h h1 h2 h3
    show f (t + h) + g (t + h) ≤ f t + g t + h * (f' t + g' t) + (C + C2) * (h * h)
    clear F G; grind
theorem mul_pm {c a x B : Rat} (h0 : 0 ≤ a) (h1 : -a ≤ c) (h2 : c ≤ a) (x1 : -B ≤ x) (x2 : x ≤ B) : -(a * B) ≤ c * x ∧ c * x ≤ a * B := by
  have k1 := Rat.mul_nonneg (show 0 ≤ a - c by grind) (show 0 ≤ B + x by grind)
  have k2 := Rat.mul_nonneg (show 0 ≤ a + c by grind) (show 0 ≤ B - x by grind)
  have k3 := Rat.mul_nonneg (show 0 ≤ a - c by grind) (show 0 ≤ B - x by grind)
  have k4 := Rat.mul_nonneg (show 0 ≤ a + c by grind) (show 0 ≤ B + x by grind)
  constructor <;> grind
theorem Smooth.smul {X : Rat} {f f' : Rat → Rat} (F : Smooth X f f') (c : Rat) : Smooth X (fun t => c * f t) (fun t => c * f' t) := by
  obtain ⟨B, C, F⟩ := F
  obtain ⟨a, h0, h1, h2⟩ := abs_ex c
  have key : ∀ t h, 0 ≤ t → 0 ≤ h → t + h ≤ X → -(a * (C * (h * h))) ≤ c * (f (t + h) - f t - h * f' t) ∧ c * (f (t + h) - f t - h * f' t) ≤ a * (C * (h * h)) := fun t h t0 k0 t1 =>
    mul_pm h0 h1 h2 (by have := F.dn t h t0 k0 t1; clear F; grind) (by have := F.up t h t0 k0 t1; clear F; grind)
  refine ⟨a * B, a * C, Rat.mul_nonneg h0 F.b0, Rat.mul_nonneg h0 F.c0, fun t t0 t1 => (mul_pm h0 h1 h2 (F.lo t t0 t1) (F.hi t t0 t1)).1, fun t t0 t1 => (mul_pm h0 h1 h2 (F.lo t t0 t1) (F.hi t t0 t1)).2,
    fun t t0 t1 => (mul_pm h0 h1 h2 (F.lo' t t0 t1) (F.hi' t t0 t1)).1, fun t t0 t1 => (mul_pm h0 h1 h2 (F.lo' t t0 t1) (F.hi' t t0 t1)).2, fun t h t0 k0 t1 => ?_, fun t h t0 k0 t1 => ?_⟩
  · have := (key t h t0 k0 t1).1
    show c * f t + h * (c * f' t) - a * C * (h * h) ≤ c * f (t + h)
    clear F key; grind
  · have := (key t h t0 k0 t1).2
    show c * f (t + h) ≤ c * f t + h * (c * f' t) + a * C * (h * h)
    clear F key; grind
theorem Smooth.mulX {X : Rat} (hX : 0 ≤ X) {f f' : Rat → Rat} (F : Smooth X f f') : Smooth X (fun t => t * f t) (fun t => f t + t * f' t) := by
  obtain ⟨B, C, F⟩ := F
  have hB := F.b0
  have hC := F.c0
  have key : ∀ t h, 0 ≤ t → 0 ≤ h → t + h ≤ X →
      -((B + 2 * (X * C)) * (h * h)) ≤ (t + h) * f (t + h) - t * f t - h * (f t + t * f' t) ∧ (t + h) * f (t + h) - t * f t - h * (f t + t * f' t) ≤ (B + 2 * (X * C)) * (h * h) := by
    intro t h t0 k0 t1
    have e1 := F.dn t h t0 k0 t1
    have e2 := F.up t h t0 k0 t1
    have b1 := F.lo' t t0 (by clear F; grind)
    have b2 := F.hi' t t0 (by clear F; grind)
    clear F
    generalize f (t + h) = y at *
    generalize f t = x at *
    generalize f' t = z at *
    have hh := Rat.mul_nonneg k0 k0
    have q1 := Rat.mul_le_mul_of_nonneg_left b1 hh
    have q2 := Rat.mul_le_mul_of_nonneg_left b2 hh
    have r1 := Rat.mul_le_mul_of_nonneg_left (show x + h * z - C * (h * h) ≤ y by grind) (show 0 ≤ t + h by grind)
    have r2 := Rat.mul_le_mul_of_nonneg_left (show y ≤ x + h * z + C * (h * h) by grind) (show 0 ≤ t + h by grind)
    have s1 := Rat.mul_le_mul_of_nonneg_right t1 (Rat.mul_nonneg hC hh)
    have s2 := Rat.mul_nonneg (Rat.mul_nonneg hX hC) hh
    constructor <;> grind
  refine ⟨B + X * B, B + 2 * (X * C), par14 hB (Rat.mul_nonneg hX hB), par14 hB (by have := Rat.mul_nonneg hX hC; clear F key; grind), ?_, ?_, ?_, ?_, ?_, ?_⟩
  · intro t t0 t1
    have a := mul_pm (c := t) (a := X) hX (by clear F key; grind) t1 (F.lo t t0 t1) (F.hi t t0 t1)
    show -(B + X * B) ≤ t * f t
    clear F key; grind
  · intro t t0 t1
    have a := mul_pm (c := t) (a := X) hX (by clear F key; grind) t1 (F.lo t t0 t1) (F.hi t t0 t1)
    show t * f t ≤ B + X * B
    clear F key; grind
  · intro t t0 t1
    have a := mul_pm (c := t) (a := X) hX (by clear F key; grind) t1 (F.lo' t t0 t1) (F.hi' t t0 t1)
    have b := F.lo t t0 t1
    show -(B + X * B) ≤ f t + t * f' t
    clear F key; grind
  · intro t t0 t1
    have a := mul_pm (c := t) (a := X) hX (by clear F key; grind) t1 (F.lo' t t0 t1) (F.hi' t t0 t1)
    have b := F.hi t t0 t1
    show f t + t * f' t ≤ B + X * B
    clear F key; grind
  · intro t h t0 k0 t1
    have := (key t h t0 k0 t1).1
    show t * f t + h * (f t + t * f' t) - (B + 2 * (X * C)) * (h * h) ≤ (t + h) * f (t + h)
    clear F key; grind
  · intro t h t0 k0 t1
    have := (key t h t0 k0 t1).2
    show (t + h) * f (t + h) ≤ t * f t + h * (f t + t * f' t) + (B + 2 * (X * C)) * (h * h)
    clear F key; grind
theorem Smooth.congr {X : Rat} {f f' g g' : Rat → Rat} (F : Smooth X f f') (h1 : ∀ t, f t = g t) (h2 : ∀ t, f' t = g' t) : Smooth X g g' := by
  have e1 : f = g := funext h1
  have e2 : f' = g' := funext h2
  rw [← e1, ← e2]
  exact F

theorem cmp_upS {X γ : Rat} {f f' g g' : Rat → Rat} (hX : 0 ≤ X) (F : Smooth X f f') (G : Smooth X g g') (hγ : 0 < γ) (hg : ∀ t, 0 ≤ t → t ≤ X → γ ≤ g t)
    (hd : ∀ t, 0 ≤ t → t ≤ X → f' t * g t ≤ g' t) : EL (f X - f 0) (g X / g 0) := by
  obtain ⟨B, C, F⟩ := F
  obtain ⟨B2, C2, G⟩ := G
  have b1 := F.b0
  have b2 := F.c0
  have b3 := G.b0
  have b4 := G.c0
  exact cmp_up hX (F.mono (show B ≤ B + B2 by clear hg hd F G; grind) (show C ≤ C + C2 by clear hg hd F G; grind)) (G.mono (show B2 ≤ B + B2 by clear hg hd F G; grind) (show C2 ≤ C + C2 by clear hg hd F G; grind)) hγ hg hd
theorem cmp_dnS {X γ : Rat} {f f' g g' : Rat → Rat} (hX : 0 ≤ X) (F : Smooth X f f') (G : Smooth X g g') (hγ : 0 < γ) (hg : ∀ t, 0 ≤ t → t ≤ X → γ ≤ g t)
    (hd : ∀ t, 0 ≤ t → t ≤ X → g' t ≤ f' t * g t) : EG (f X - f 0) (g X / g 0) := by
  obtain ⟨B, C, F⟩ := F
  obtain ⟨B2, C2, G⟩ := G
  have b1 := F.b0
  have b2 := F.c0
  have b3 := G.b0
  have b4 := G.c0
  exact cmp_dn hX (F.mono (show B ≤ B + B2 by clear hg hd F G; grind) (show C ≤ C + C2 by clear hg hd F G; grind)) (G.mono (show B2 ≤ B + B2 by clear hg hd F G; grind) (show C2 ≤ C + C2 by clear hg hd F G; grind)) hγ hg hd

end Ex
end Mine

namespace Mine
namespace Ex

/-- z ^ n / n ! -/
def mz : Nat → Rat → Rat
  | 0, _ => 1
  | n + 1, z => z * mz n z / ((n : Rat) + 1)
/-- the sum to the T-th power -/
def eZ : Nat → Rat → Rat
  | 0, _ => 1
  | T + 1, z => eZ T z + mz (T + 1) z

theorem n1_pos (n : Nat) : (0 : Rat) < (n : Rat) + 1 := by
  have : (0 : Rat) ≤ (n : Rat) := by exact_mod_cast Nat.zero_le n
  grind
theorem mz_succ (n : Nat) (z : Rat) : mz (n + 1) z = z * mz n z / ((n : Rat) + 1) := rfl
theorem eZ_succ (n : Nat) (z : Rat) : eZ (n + 1) z = eZ n z + mz (n + 1) z := rfl
theorem mz_smooth {X : Rat} (hX : 0 ≤ X) (s : Rat) : ∀ n, Smooth X (fun t => mz (n + 1) (s * t)) (fun t => s * mz n (s * t))
  | 0 => by
    refine ((Smooth.const (X := X) s).mulX hX).congr (fun t => ?_) (fun t => ?_)
    · show t * s = s * t * 1 / (((0 : Nat) : Rat) + 1)
      have : ((0 : Nat) : Rat) = 0 := rfl
      rw [this]; grind
    · show s + t * 0 = s * 1
      grind
  | n + 1 => by
    have ih := mz_smooth hX s n
    refine ((ih.mulX hX).smul (s / (((n + 1 : Nat) : Rat) + 1))).congr (fun t => ?_) (fun t => ?_)
    · show s / (((n + 1 : Nat) : Rat) + 1) * (t * mz (n + 1) (s * t)) = s * t * mz (n + 1) (s * t) / (((n + 1 : Nat) : Rat) + 1)
      generalize mz (n + 1) (s * t) = u
      generalize (((n + 1 : Nat) : Rat) + 1) = k
      grind
    · show s / (((n + 1 : Nat) : Rat) + 1) * (mz (n + 1) (s * t) + t * (s * mz n (s * t))) = s * mz (n + 1) (s * t)
      rw [mz_succ n]
      have h1 := n1_pos n
      have e : ((n + 1 : Nat) : Rat) = (n : Rat) + 1 := by grind
      rw [e]
      generalize mz n (s * t) = u
      generalize (n : Rat) = k at *
      grind
theorem eZ_smooth {X : Rat} (hX : 0 ≤ X) (s : Rat) : ∀ T, Smooth X (fun t => eZ (T + 1) (s * t)) (fun t => s * eZ T (s * t))
  | 0 => by
    refine ((Smooth.const (X := X) 1).add (mz_smooth hX s 0)).congr (fun t => rfl) (fun t => ?_)
    show 0 + s * mz 0 (s * t) = s * 1
    have : mz 0 (s * t) = 1 := rfl
    rw [this]; grind
  | T + 1 => by
    refine ((eZ_smooth hX s T).add (mz_smooth hX s (T + 1))).congr (fun t => rfl) (fun t => ?_)
    show s * eZ T (s * t) + s * mz (T + 1) (s * t) = s * (eZ T (s * t) + mz (T + 1) (s * t))
    grind

theorem mz_nn {z : Rat} (h : 0 ≤ z) : ∀ n, 0 ≤ mz n z
  | 0 => by show (0 : Rat) ≤ 1; decide
  | n + 1 => by
    rw [mz_succ]
    exact div_nn (Rat.mul_nonneg h (mz_nn h n)) (n1_pos n)
/-- the sign falls out -/
theorem mz_neg {z : Rat} : ∀ n, (mz n (-z) = mz n z) ∨ (mz n (-z) = -mz n z)
  | 0 => .inl rfl
  | n + 1 => by
    rw [mz_succ, mz_succ]
    rcases mz_neg (z := z) n with h | h
    · right
      rw [h]
      have := n1_pos n
      generalize (n : Rat) + 1 = k at *
      generalize mz n z = u
      grind
    · left
      rw [h]
      have := n1_pos n
      generalize (n : Rat) + 1 = k at *
      generalize mz n z = u
      grind
theorem mz_abs {z : Rat} (h : 0 ≤ z) (n : Nat) : -mz n z ≤ mz n (-z) ∧ mz n (-z) ≤ mz n z := by
  have h1 := mz_nn h n
  rcases mz_neg (z := z) n with e | e <;> rw [e] <;> grind
/-- each term is no more than z times the one ahead -/
theorem mz_le {z : Rat} (h : 0 ≤ z) (n : Nat) : mz (n + 1) z ≤ z * mz n z := by
  rw [mz_succ]
  have h1 := n1_pos n
  have h2 := Rat.mul_nonneg h (mz_nn h n)
  refine div_le h1 ?_
  have h3 : (0 : Rat) ≤ (n : Rat) := by exact_mod_cast Nat.zero_le n
  have := Rat.mul_nonneg h2 h3
  grind
theorem mz_half {z : Rat} (h : 0 ≤ z) (n : Nat) : 2 * mz (n + 2) z ≤ z * mz (n + 1) z := by
  rw [mz_succ (n + 1)]
  have h1 := n1_pos (n + 1)
  have h2 := Rat.mul_nonneg h (mz_nn h (n + 1))
  have h3 : (0 : Rat) ≤ (n : Rat) := by exact_mod_cast Nat.zero_le n
  have e : ((n + 1 : Nat) : Rat) = (n : Rat) + 1 := by grind
  have k : z * mz (n + 1) z / (((n + 1 : Nat) : Rat) + 1) ≤ z * mz (n + 1) z / 2 := by
    refine div_le h1 ?_
    rw [e]
    have := Rat.mul_nonneg h2 h3
    grind
  grind
/-- the sum, for z below a quarter, is within a third of 1 -/
theorem eZ_near {z : Rat} (h : 0 ≤ z) (h2 : z ≤ 1 / 4) : ∀ T, 1 ≤ eZ T z ∧ eZ T z ≤ 4 / 3 - mz T z / 3 ∧ 2 / 3 + mz T z / 3 ≤ eZ T (-z) ∧ eZ T (-z) ≤ 4 / 3 - mz T z / 3
  | 0 => by
    have e1 : eZ 0 z = 1 := rfl
    have e2 : eZ 0 (-z) = 1 := rfl
    have e3 : mz 0 z = 1 := rfl
    rw [e1, e2, e3]
    grind
  | T + 1 => by
    obtain ⟨a, b, c, d⟩ := eZ_near h h2 T
    rw [eZ_succ, eZ_succ]
    have n0 := mz_nn h T
    have n1 := mz_nn h (T + 1)
    have k := mz_le h T
    have q := Rat.mul_le_mul_of_nonneg_right h2 n0
    obtain ⟨x, y⟩ := mz_abs h (T + 1)
    generalize mz (T + 1) z = u at *
    generalize mz (T + 1) (-z) = u' at *
    generalize mz T z = v at *
    grind

end Ex
end Mine

namespace Mine
namespace Ex

theorem lin_smooth {X : Rat} (hX : 0 ≤ X) (s : Rat) : Smooth X (fun t => s * t) (fun _ => s) :=
  ((Smooth.const (X := X) s).mulX hX).congr (fun t => by grind) (fun t => by grind)
theorem mz_zero (n : Nat) : mz (n + 1) 0 = 0 := by
  rw [mz_succ]
  have := n1_pos n
  generalize mz n 0 = u
  grind
theorem eZ_zero : ∀ n, eZ n 0 = 1
  | 0 => rfl
  | n + 1 => by rw [eZ_succ, eZ_zero n, mz_zero]; grind

theorem taylor_up_pos {z : Rat} (h : 0 ≤ z) (h2 : z ≤ 1 / 4) (T : Nat) : EL z (eZ (T + 1) z + 5 / 4 * mz (T + 2) z) := by
  have key := cmp_upS (X := z) (γ := 1) (f := fun t => 1 * t) (f' := fun _ => 1) (g := fun t => eZ (T + 1) (1 * t) + 5 / 4 * mz (T + 2) (1 * t)) (g' := fun t => 1 * eZ T (1 * t) + 5 / 4 * (1 * mz (T + 1) (1 * t))) h (lin_smooth h 1)
    ((eZ_smooth h 1 T).add ((mz_smooth h 1 (T + 1)).smul (5 / 4))) (by decide) ?_ ?_
  · simp only [Rat.one_mul] at key
    rw [eZ_zero, mz_zero] at key
    have e1 : z - 0 = z := by grind
    have e2 : (eZ (T + 1) z + 5 / 4 * mz (T + 2) z) / (1 + 5 / 4 * 0) = eZ (T + 1) z + 5 / 4 * mz (T + 2) z := by grind
    rwa [e1, e2] at key
  · intro t t0 t1
    have a := (eZ_near t0 (by grind) (T + 1)).1
    have b := mz_nn t0 (T + 2)
    simp only [Rat.one_mul]
    grind
  · intro t t0 t1
    simp only [Rat.one_mul]
    rw [eZ_succ]
    have a := mz_half t0 T
    have b := mz_nn t0 (T + 1)
    have c := Rat.mul_le_mul_of_nonneg_right (show t ≤ 1 / 4 by grind) b
    grind
theorem taylor_dn_pos {z : Rat} (h : 0 ≤ z) (h2 : z ≤ 1 / 4) (T : Nat) : EG z (eZ (T + 1) z) := by
  have key := cmp_dnS (X := z) (γ := 1) (f := fun t => 1 * t) (f' := fun _ => 1) (g := fun t => eZ (T + 1) (1 * t)) (g' := fun t => 1 * eZ T (1 * t)) h (lin_smooth h 1)
    (eZ_smooth h 1 T) (by decide) ?_ ?_
  · simp only [Rat.one_mul] at key
    rw [eZ_zero] at key
    have e1 : z - 0 = z := by grind
    have e2 : eZ (T + 1) z / 1 = eZ (T + 1) z := by grind
    rwa [e1, e2] at key
  · intro t t0 t1
    have a := (eZ_near t0 (by grind) (T + 1)).1
    simp only [Rat.one_mul]
    exact a
  · intro t t0 t1
    simp only [Rat.one_mul]
    rw [eZ_succ]
    have b := mz_nn t0 (T + 1)
    grind
theorem neg_one_mul' (t : Rat) : -1 * t = -t := by grind
theorem taylor_up_neg {z : Rat} (h : 0 ≤ z) (h2 : z ≤ 1 / 4) (T : Nat) : EL (-z) (eZ (T + 1) (-z) + 5 / 4 * mz (T + 2) z) := by
  have key := cmp_upS (X := z) (γ := 1 / 2) (f := fun t => -1 * t) (f' := fun _ => -1) (g := fun t => eZ (T + 1) (-1 * t) + 5 / 4 * mz (T + 2) (1 * t)) (g' := fun t => -1 * eZ T (-1 * t) + 5 / 4 * (1 * mz (T + 1) (1 * t))) h (lin_smooth h (-1))
    ((eZ_smooth h (-1) T).add ((mz_smooth h 1 (T + 1)).smul (5 / 4))) (by grind) ?_ ?_
  · simp only [Rat.one_mul, neg_one_mul'] at key
    have e0 : -(0 : Rat) = 0 := by grind
    rw [e0, eZ_zero, mz_zero] at key
    have e1 : -z - 0 = -z := by grind
    have e2 : (eZ (T + 1) (-z) + 5 / 4 * mz (T + 2) z) / (1 + 5 / 4 * 0) = eZ (T + 1) (-z) + 5 / 4 * mz (T + 2) z := by grind
    rwa [e1, e2] at key
  · intro t t0 t1
    have a := (eZ_near t0 (by grind) (T + 1)).2.2.1
    have b := mz_nn t0 (T + 2)
    have c := mz_nn t0 (T + 1)
    simp only [Rat.one_mul, neg_one_mul']
    grind
  · intro t t0 t1
    simp only [Rat.one_mul, neg_one_mul']
    rw [eZ_succ]
    have a := mz_nn t0 (T + 2)
    have b := mz_nn t0 (T + 1)
    have c := (mz_abs t0 (T + 1)).1
    grind
theorem taylor_dn_neg {z : Rat} (h : 0 ≤ z) (h2 : z ≤ 1 / 4) (T : Nat) : EG (-z) (eZ (T + 1) (-z) - mz (T + 2) z) := by
  have key := cmp_dnS (X := z) (γ := 1 / 2) (f := fun t => -1 * t) (f' := fun _ => -1) (g := fun t => eZ (T + 1) (-1 * t) + -1 * mz (T + 2) (1 * t)) (g' := fun t => -1 * eZ T (-1 * t) + -1 * (1 * mz (T + 1) (1 * t))) h (lin_smooth h (-1))
    ((eZ_smooth h (-1) T).add ((mz_smooth h 1 (T + 1)).smul (-1))) (by grind) ?_ ?_
  · simp only [Rat.one_mul, neg_one_mul'] at key
    have e0 : -(0 : Rat) = 0 := by grind
    rw [e0, eZ_zero, mz_zero] at key
    have e1 : -z - 0 = -z := by grind
    have e2 : (eZ (T + 1) (-z) + -mz (T + 2) z) / (1 + -0) = eZ (T + 1) (-z) - mz (T + 2) z := by grind
    rwa [e1, e2] at key
  · intro t t0 t1
    have a := (eZ_near t0 (by grind) (T + 1)).2.2.1
    have b := mz_le t0 (T + 1)
    have c := mz_nn t0 (T + 1)
    have d := Rat.mul_le_mul_of_nonneg_right (show t ≤ 1 / 4 by grind) c
    simp only [Rat.one_mul, neg_one_mul']
    grind
  · intro t t0 t1
    simp only [Rat.one_mul, neg_one_mul']
    rw [eZ_succ]
    have a := mz_nn t0 (T + 2)
    have b := mz_nn t0 (T + 1)
    have c := (mz_abs t0 (T + 1)).2
    grind

/-- the series of exp, with what it leaves out; a is z without its sign -/
theorem exp_taylor {z a : Rat} (h : 0 ≤ a) (h2 : a ≤ 1 / 4) (hz : z = a ∨ z = -a) (T : Nat) : EL z (eZ (T + 1) z + 5 / 4 * mz (T + 2) a) ∧ EG z (eZ (T + 1) z - mz (T + 2) a) := by
  rcases hz with e | e
  · rw [e]
    refine ⟨taylor_up_pos h h2 T, (taylor_dn_pos h h2 T).mono ?_⟩
    have := mz_nn h (T + 2)
    grind
  · rw [e]
    exact ⟨taylor_up_neg h h2 T, taylor_dn_neg h h2 T⟩

/-! the logarithm -/
/-- the sum of (-y) ^ k for k < T -/
def gZ : Nat → Rat → Rat
  | 0, _ => 0
  | T + 1, y => gZ T y + (-y) ^ T
/-- y - y ^ 2 / 2 + y ^ 3 / 3 .., T terms -/
def lZ : Nat → Rat → Rat
  | 0, _ => 0
  | T + 1, y => lZ T y + y * (-y) ^ T / ((T : Rat) + 1)
theorem gZ_mul (y : Rat) : ∀ T, (1 + y) * gZ T y = 1 - (-y) ^ T
  | 0 => by rw [Rat.pow_zero]; show (1 + y) * 0 = 1 - 1; grind
  | T + 1 => by
    have ih := gZ_mul y T
    rw [Rat.pow_succ]
    show (1 + y) * (gZ T y + (-y) ^ T) = 1 - (-y) ^ T * -y
    generalize (-y) ^ T = u at *
    grind
theorem pw_smooth {X : Rat} (hX : 0 ≤ X) : ∀ n : Nat, Smooth X (fun t => t * t ^ n) (fun t => ((n : Rat) + 1) * t ^ n)
  | 0 => by
    refine ((Smooth.const (X := X) 1).mulX hX).congr (fun t => ?_) (fun t => ?_)
    · show t * 1 = t * t ^ 0
      rw [Rat.pow_zero]
    · show 1 + t * 0 = (((0 : Nat) : Rat) + 1) * t ^ 0
      have : ((0 : Nat) : Rat) = 0 := rfl
      rw [Rat.pow_zero, this]; grind
  | n + 1 => by
    refine ((pw_smooth hX n).mulX hX).congr (fun t => ?_) (fun t => ?_)
    · show t * (t * t ^ n) = t * t ^ (n + 1)
      rw [Rat.pow_succ]; grind
    · show t * t ^ n + t * (((n : Rat) + 1) * t ^ n) = (((n + 1 : Nat) : Rat) + 1) * t ^ (n + 1)
      have e : ((n + 1 : Nat) : Rat) = (n : Rat) + 1 := by grind
      rw [Rat.pow_succ, e]
      generalize t ^ n = u
      grind
theorem mul_pow' (a b : Rat) : ∀ n : Nat, (a * b) ^ n = a ^ n * b ^ n
  | 0 => by rw [Rat.pow_zero, Rat.pow_zero, Rat.pow_zero]; grind
  | n + 1 => by rw [Rat.pow_succ, Rat.pow_succ, Rat.pow_succ, mul_pow' a b n]; grind
theorem lZ_smooth {X : Rat} (hX : 0 ≤ X) (s : Rat) : ∀ T, Smooth X (fun t => lZ T (s * t)) (fun t => s * gZ T (s * t))
  | 0 => (Smooth.const (X := X) 0).congr (fun t => rfl) (fun t => by show (0 : Rat) = s * 0; grind)
  | T + 1 => by
    refine ((lZ_smooth hX s T).add ((pw_smooth hX T).smul (s * (-s) ^ T / ((T : Rat) + 1)))).congr (fun t => ?_) (fun t => ?_)
    · show lZ T (s * t) + s * (-s) ^ T / ((T : Rat) + 1) * (t * t ^ T) = lZ T (s * t) + s * t * (-(s * t)) ^ T / ((T : Rat) + 1)
      have e : -(s * t) = -s * t := by grind
      rw [e, mul_pow']
      generalize (-s) ^ T = u
      generalize t ^ T = v
      generalize (T : Rat) + 1 = k
      grind
    · show s * gZ T (s * t) + s * (-s) ^ T / ((T : Rat) + 1) * (((T : Rat) + 1) * t ^ T) = s * (gZ T (s * t) + (-(s * t)) ^ T)
      have e : -(s * t) = -s * t := by grind
      rw [e, mul_pow']
      have := n1_pos T
      generalize (-s) ^ T = u
      generalize t ^ T = v
      generalize (T : Rat) + 1 = k at *
      grind

end Ex
end Mine

namespace Mine
namespace Ex

theorem sgn_pow {s : Rat} (hs : s = 1 ∨ s = -1) : ∀ n : Nat, s ^ n = 1 ∨ s ^ n = -1
  | 0 => .inl (Rat.pow_zero s)
  | n + 1 => by
    rw [Rat.pow_succ]
    rcases sgn_pow hs n with h | h <;> rcases hs with e | e <;> rw [h, e] <;> grind

/-- what the series of the logarithm leaves out -/
def rZ (T : Nat) (a : Rat) : Rat := a * a ^ T / ((T : Rat) + 1)
theorem rZ_smooth {X : Rat} (hX : 0 ≤ X) (T : Nat) : Smooth X (fun t => rZ T t) (fun t => t ^ T) :=
  ((pw_smooth hX T).smul (1 / ((T : Rat) + 1))).congr (fun t => by
    show 1 / ((T : Rat) + 1) * (t * t ^ T) = t * t ^ T / ((T : Rat) + 1)
    grind) (fun t => by
    show 1 / ((T : Rat) + 1) * (((T : Rat) + 1) * t ^ T) = t ^ T
    have := n1_pos T
    generalize t ^ T = v
    generalize (T : Rat) + 1 = k at *
    grind)
theorem lZ_zero : ∀ T, lZ T 0 = 0
  | 0 => rfl
  | T + 1 => by
    show lZ T 0 + 0 * (-0) ^ T / ((T : Rat) + 1) = 0
    rw [lZ_zero T]
    have := n1_pos T
    generalize (-(0 : Rat)) ^ T = u
    generalize (T : Rat) + 1 = k at *
    grind
theorem rZ_zero (T : Nat) : rZ T 0 = 0 := by
  unfold rZ
  have := n1_pos T
  generalize (0 : Rat) ^ T = u
  generalize (T : Rat) + 1 = k at *
  grind
theorem neg_pm {s : Rat} (hs : s = 1 ∨ s = -1) : -s = 1 ∨ -s = -1 := by grind

theorem log_up {s X : Rat} (hs : s = 1 ∨ s = -1) (hX : 0 ≤ X) (hX2 : X ≤ 1 / 2) (T : Nat) : EL (lZ T (s * X) - 2 * rZ T X) (1 + s * X) := by
  have key := cmp_upS (X := X) (γ := 1 / 2) (f := fun t => lZ T (s * t) + -2 * rZ T t) (f' := fun t => s * gZ T (s * t) + -2 * t ^ T) (g := fun t => 1 + s * t) (g' := fun t => 0 + s) hX
    ((lZ_smooth hX s T).add ((rZ_smooth hX T).smul (-2))) ((Smooth.const 1).add (lin_smooth hX s)) (by grind) ?_ ?_
  · have e0 : s * 0 = 0 := by grind
    simp only [e0, lZ_zero, rZ_zero] at key
    have e1 : lZ T (s * X) + -2 * rZ T X - (0 + -2 * 0) = lZ T (s * X) - 2 * rZ T X := by grind
    have e2 : (1 + s * X) / (1 + 0) = 1 + s * X := by grind
    rwa [e1, e2] at key
  · intro t t0 t1
    show 1 / 2 ≤ 1 + s * t
    rcases hs with e | e <;> rw [e] <;> grind
  · intro t t0 t1
    show (s * gZ T (s * t) + -2 * t ^ T) * (1 + s * t) ≤ 0 + s
    have k := gZ_mul (s * t) T
    have e : -(s * t) = -s * t := by grind
    rw [e, mul_pow'] at k
    have p := pow_nn t0 T
    generalize t ^ T = v at *
    generalize gZ T (s * t) = w at *
    have q := Rat.mul_nonneg p (show 0 ≤ 1 + 2 * (s * t) by rcases hs with e | e <;> rw [e] <;> grind)
    rcases sgn_pow (neg_pm hs) T with x | x <;> rw [x] at k <;> clear x e <;> rcases hs with rfl | rfl <;> grind
theorem log_dn {s X : Rat} (hs : s = 1 ∨ s = -1) (hX : 0 ≤ X) (hX2 : X ≤ 1 / 2) (T : Nat) : EG (lZ T (s * X) + 2 * rZ T X) (1 + s * X) := by
  have key := cmp_dnS (X := X) (γ := 1 / 2) (f := fun t => lZ T (s * t) + 2 * rZ T t) (f' := fun t => s * gZ T (s * t) + 2 * t ^ T) (g := fun t => 1 + s * t) (g' := fun t => 0 + s) hX
    ((lZ_smooth hX s T).add ((rZ_smooth hX T).smul 2)) ((Smooth.const 1).add (lin_smooth hX s)) (by grind) ?_ ?_
  · have e0 : s * 0 = 0 := by grind
    simp only [e0, lZ_zero, rZ_zero] at key
    have e1 : lZ T (s * X) + 2 * rZ T X - (0 + 2 * 0) = lZ T (s * X) + 2 * rZ T X := by grind
    have e2 : (1 + s * X) / (1 + 0) = 1 + s * X := by grind
    rwa [e1, e2] at key
  · intro t t0 t1
    show 1 / 2 ≤ 1 + s * t
    rcases hs with e | e <;> rw [e] <;> grind
  · intro t t0 t1
    show 0 + s ≤ (s * gZ T (s * t) + 2 * t ^ T) * (1 + s * t)
    have k := gZ_mul (s * t) T
    have e : -(s * t) = -s * t := by grind
    rw [e, mul_pow'] at k
    have p := pow_nn t0 T
    generalize t ^ T = v at *
    generalize gZ T (s * t) = w at *
    have q := Rat.mul_nonneg p (show 0 ≤ 1 + 2 * (s * t) by rcases hs with e | e <;> rw [e] <;> grind)
    rcases sgn_pow (neg_pm hs) T with x | x <;> rw [x] at k <;> clear x e <;> rcases hs with rfl | rfl <;> grind

/-- the series of the logarithm; a is y without its sign -/
theorem log_series {y a : Rat} (h : 0 ≤ a) (h2 : a ≤ 1 / 2) (hy : y = a ∨ y = -a) (T : Nat) : EL (lZ T y - 2 * rZ T a) (1 + y) ∧ EG (lZ T y + 2 * rZ T a) (1 + y) := by
  rcases hy with e | e
  · have k1 := log_up (s := 1) (.inl rfl) h h2 T
    have k2 := log_dn (s := 1) (.inl rfl) h h2 T
    rw [Rat.one_mul] at k1 k2
    rw [e]
    exact ⟨k1, k2⟩
  · have k1 := log_up (s := -1) (.inr rfl) h h2 T
    have k2 := log_dn (s := -1) (.inr rfl) h h2 T
    rw [neg_one_mul'] at k1 k2
    rw [e]
    exact ⟨k1, k2⟩

end Ex
end Mine

namespace Mine
open Ex

theorem castpos {b : Int} (h : 0 < b) : (0 : Rat) < (b : Rat) := by exact_mod_cast h
theorem castnn {b : Int} (h : 0 ≤ b) : (0 : Rat) ≤ (b : Rat) := by exact_mod_cast h
theorem castle {a b : Int} (h : a ≤ b) : (a : Rat) ≤ (b : Rat) := by exact_mod_cast h
theorem divN_rat {a b : Int} (hb : 0 < b) : (a : Rat) / b - 1 / 2 ≤ (divN a b : Rat) ∧ (divN a b : Rat) ≤ (a : Rat) / b + 1 / 2 := by
  obtain ⟨h1, h2⟩ := divN_spec (a := a) hb
  generalize divN a b = q at *
  have hb' := castpos hb
  have k1 : (-(b : Rat)) ≤ 2 * ((a : Rat) - b * q) := by exact_mod_cast h1
  have k2 : 2 * ((a : Rat) - b * q) ≤ (b : Rat) := by exact_mod_cast h2
  generalize (a : Rat) = a at *
  generalize (b : Rat) = b at *
  generalize (q : Rat) = q at *
  constructor
  · have : a / b ≤ q + 1 / 2 := div_le hb' (by grind)
    grind
  · have : q - 1 / 2 ≤ a / b := le_div hb' (by grind)
    grind

/-- Horner's scheme of exp behind j turns -/
def hS (z : Rat) (T : Int) : Nat → Rat
  | 0 => z / T
  | j + 1 => z * (1 + hS z T j) / ((T - 1 - (j : Int) : Int) : Rat)
/-- Horner's scheme of the logarithm behind j turns -/
def vS (z : Rat) (T : Int) : Nat → Rat
  | 0 => 1 / T
  | j + 1 => 1 / ((T - 1 - (j : Int) : Int) : Rat) - z * vS z T j

theorem hS_sum (z : Rat) {T : Nat} : ∀ j : Nat, j < T → mz (T - 1 - j) z * hS z (T : Int) j = eZ T z - eZ (T - 1 - j) z
  | 0, hj => by
    obtain ⟨n, rfl⟩ : ∃ n, T = n + 1 := ⟨T - 1, by omega⟩
    show mz (n + 1 - 1 - 0) z * (z / (((n + 1 : Nat) : Int) : Rat)) = eZ (n + 1) z - eZ (n + 1 - 1 - 0) z
    have e : n + 1 - 1 - 0 = n := by omega
    have e2 : ((((n + 1 : Nat) : Int)) : Rat) = (n : Rat) + 1 := by push_cast; rfl
    rw [e, e2, eZ_succ, mz_succ]
    have := n1_pos n
    generalize mz n z = u
    generalize eZ n z = w
    generalize (n : Rat) + 1 = k at *
    grind
  | j + 1, hj => by
    have ih := hS_sum z (T := T) j (by omega)
    obtain ⟨n, hn⟩ : ∃ n, T - 1 - j = n + 1 := ⟨T - 2 - j, by omega⟩
    have e1 : T - 1 - (j + 1) = n := by omega
    have e2 : ((T : Int) - 1 - (j : Int)) = ((n + 1 : Nat) : Int) := by omega
    rw [hn] at ih
    show mz (T - 1 - (j + 1)) z * (z * (1 + hS z (T : Int) j) / (((T : Int) - 1 - (j : Int) : Int) : Rat)) = _
    have e3 : ((((n + 1 : Nat) : Int)) : Rat) = (n : Rat) + 1 := by push_cast; rfl
    rw [e1, e2, e3]
    rw [mz_succ, eZ_succ, mz_succ] at ih
    have := n1_pos n
    generalize mz n z = u at *
    generalize eZ n z = w at *
    generalize eZ T z = E at *
    generalize hS z (T : Int) j = h at *
    generalize (n : Rat) + 1 = k at *
    grind
theorem hS_last (z : Rat) {T : Nat} (hT : 0 < T) : hS z (T : Int) (T - 1) = eZ T z - 1 := by
  have h := hS_sum z (T := T) (T - 1) (by omega)
  have e : T - 1 - (T - 1) = 0 := by omega
  rw [e] at h
  have e1 : mz 0 z = 1 := rfl
  have e2 : eZ 0 z = 1 := rfl
  rw [e1, e2] at h
  grind
theorem vS_sum (z : Rat) {T : Nat} : ∀ j : Nat, j < T → (-z) ^ (T - 1 - j) * z * vS z (T : Int) j = lZ T z - lZ (T - 1 - j) z
  | 0, hj => by
    obtain ⟨n, rfl⟩ : ∃ n, T = n + 1 := ⟨T - 1, by omega⟩
    show (-z) ^ (n + 1 - 1 - 0) * z * (1 / (((n + 1 : Nat) : Int) : Rat)) = lZ (n + 1) z - lZ (n + 1 - 1 - 0) z
    have e : n + 1 - 1 - 0 = n := by omega
    have e2 : ((((n + 1 : Nat) : Int)) : Rat) = (n : Rat) + 1 := by push_cast; rfl
    rw [e, e2]
    show (-z) ^ n * z * (1 / ((n : Rat) + 1)) = lZ n z + z * (-z) ^ n / ((n : Rat) + 1) - lZ n z
    generalize (-z) ^ n = u
    generalize lZ n z = w
    generalize (n : Rat) + 1 = k
    grind
  | j + 1, hj => by
    have ih := vS_sum z (T := T) j (by omega)
    obtain ⟨n, hn⟩ : ∃ n, T - 1 - j = n + 1 := ⟨T - 2 - j, by omega⟩
    have e1 : T - 1 - (j + 1) = n := by omega
    have e2 : ((T : Int) - 1 - (j : Int)) = ((n + 1 : Nat) : Int) := by omega
    rw [hn, Rat.pow_succ] at ih
    show (-z) ^ (T - 1 - (j + 1)) * z * (1 / (((T : Int) - 1 - (j : Int) : Int) : Rat) - z * vS z (T : Int) j) = _
    have e3 : ((((n + 1 : Nat) : Int)) : Rat) = (n : Rat) + 1 := by push_cast; rfl
    rw [e1, e2, e3]
    have e4 : lZ (n + 1) z = lZ n z + z * (-z) ^ n / ((n : Rat) + 1) := rfl
    rw [e4] at ih
    generalize (-z) ^ n = u at *
    generalize lZ n z = w at *
    generalize lZ T z = E at *
    generalize vS z (T : Int) j = h at *
    generalize (n : Rat) + 1 = k at *
    grind
theorem vS_last (z : Rat) {T : Nat} (hT : 0 < T) : z * vS z (T : Int) (T - 1) = lZ T z := by
  have h := vS_sum z (T := T) (T - 1) (by omega)
  have e : T - 1 - (T - 1) = 0 := by omega
  rw [e, Rat.pow_zero] at h
  have e2 : lZ 0 z = 0 := rfl
  rw [e2] at h
  grind

theorem cast_mul3 (x a b : Int) : ((x * (a + b) : Int) : Rat) = (x : Rat) * ((a : Rat) + (b : Rat)) := by push_cast; rfl
theorem rat_mul_cast (a b : Int) : ((a * b : Int) : Rat) = (a : Rat) * (b : Rat) := by push_cast; rfl

/-- one turn of the series of exp, in rationals -/
theorem eS_step {z Ms E H i c ρ q : Rat} (hM : 0 < Ms) (hi : 1 ≤ i) (hc : 0 ≤ c) (hρ : 0 ≤ ρ) (z1 : -ρ ≤ z) (z2 : z ≤ ρ) (e1 : Ms * H - c ≤ E) (e2 : E ≤ Ms * H + c)
    (q1 : z * Ms * (Ms + E) / (Ms * i) - 1 / 2 ≤ q) (q2 : q ≤ z * Ms * (Ms + E) / (Ms * i) + 1 / 2) (hcc : 1 / 2 + ρ * c ≤ c) :
    Ms * (z * (1 + H) / i) - c ≤ q ∧ q ≤ Ms * (z * (1 + H) / i) + c := by
  have hi0 : 0 < i := by grind
  have e : z * Ms * (Ms + E) / (Ms * i) = Ms * (z * (1 + H) / i) + z * (E - Ms * H) / i := by grind
  rw [e] at q1 q2
  have m := mul_pm hρ z1 z2 (show -c ≤ E - Ms * H by grind) (show E - Ms * H ≤ c by grind)
  have k0 : 0 ≤ ρ * c := Rat.mul_nonneg hρ hc
  have k1 : z * (E - Ms * H) / i ≤ ρ * c := div_le hi0 (by
    have := Rat.mul_le_mul_of_nonneg_left hi k0
    grind)
  have k2 : -(ρ * c) ≤ z * (E - Ms * H) / i := le_div hi0 (by
    have := Rat.mul_le_mul_of_nonneg_left hi k0
    grind)
  generalize z * (E - Ms * H) / i = w at *
  generalize Ms * (z * (1 + H) / i) = W at *
  grind

theorem eS_err {x Ms T : Int} {z c ρ : Rat} (hM : 0 < Ms) (hT : 0 < T) (hz : z = (x : Rat) / (Ms : Rat)) (hc : 0 ≤ c) (hρ : 0 ≤ ρ) (z1 : -ρ ≤ z) (z2 : z ≤ ρ) (hcc : 1 / 2 + ρ * c ≤ c) :
    ∀ j : Nat, (j : Int) < T → (Ms : Rat) * hS z T j - c ≤ (eS x Ms T j : Rat) ∧ (eS x Ms T j : Rat) ≤ (Ms : Rat) * hS z T j + c
  | 0, _ => by
    have hM' := castpos hM
    have hT' := castpos hT
    have d := divN_rat (a := x) (b := T) hT
    show (Ms : Rat) * (z / T) - c ≤ (divN x T : Rat) ∧ (divN x T : Rat) ≤ (Ms : Rat) * (z / T) + c
    have e : (Ms : Rat) * (z / T) = (x : Rat) / T := by
      rw [hz]
      generalize (Ms : Rat) = M at *
      generalize (T : Rat) = t at *
      grind
    rw [e]
    have := Rat.mul_nonneg hρ hc
    generalize (x : Rat) / T = w at *
    generalize (divN x T : Rat) = q at *
    grind
  | j + 1, hj => by
    have hM' := castpos hM
    obtain ⟨e1, e2⟩ := eS_err hM hT hz hc hρ z1 z2 hcc j (by omega)
    have hi : 0 < T - 1 - (j : Int) := by omega
    have d := divN_rat (a := x * (Ms + eS x Ms T j)) (b := Ms * (T - 1 - (j : Int))) (Int.mul_pos hM hi)
    have hi' : (1 : Rat) ≤ ((T - 1 - (j : Int) : Int) : Rat) := by
      have : (1 : Int) ≤ T - 1 - (j : Int) := by omega
      exact_mod_cast this
    rw [cast_mul3, rat_mul_cast] at d
    have hx : (x : Rat) = z * (Ms : Rat) := by
      rw [hz]
      generalize (Ms : Rat) = M at *
      generalize (x : Rat) = t at *
      grind
    rw [hx] at d
    exact eS_step hM' hi' hc hρ z1 z2 e1 e2 d.1 d.2 hcc

/-- one turn of the series of the logarithm, in rationals -/
theorem wS_step {ζ M W V p q c ρ r : Rat} (hM : 0 < M) (hρ : 0 ≤ ρ) (z1 : -ρ ≤ ζ) (z2 : ζ ≤ ρ) (e1 : M * V - c ≤ W) (e2 : W ≤ M * V + c)
    (p1 : M * r - 1 / 2 ≤ p) (p2 : p ≤ M * r + 1 / 2)
    (q1 : ζ * M * W / M - 1 / 2 ≤ q) (q2 : q ≤ ζ * M * W / M + 1 / 2) (hcc : 1 + ρ * c ≤ c) :
    M * (r - ζ * V) - c ≤ p - q ∧ p - q ≤ M * (r - ζ * V) + c := by
  have e : ζ * M * W / M = ζ * W := by grind
  rw [e] at q1 q2
  have m := mul_pm hρ z1 z2 (show -c ≤ W - M * V by grind) (show W - M * V ≤ c by grind)
  grind

theorem wS_err {M ys T : Int} {ζ c ρ : Rat} (hM : 0 < M) (hT : 0 < T) (hz : ζ = (ys : Rat) / (M : Rat)) (hc : 1 ≤ c) (hρ : 0 ≤ ρ) (z1 : -ρ ≤ ζ) (z2 : ζ ≤ ρ) (hcc : 1 + ρ * c ≤ c) :
    ∀ j : Nat, (j : Int) < T → (M : Rat) * vS ζ T j - c ≤ (wS M ys T j : Rat) ∧ (wS M ys T j : Rat) ≤ (M : Rat) * vS ζ T j + c
  | 0, _ => by
    have hM' := castpos hM
    have hT' := castpos hT
    have d := divN_rat (a := M) (b := T) hT
    show (M : Rat) * (1 / T) - c ≤ (divN M T : Rat) ∧ (divN M T : Rat) ≤ (M : Rat) * (1 / T) + c
    have e : (M : Rat) * (1 / T) = (M : Rat) / T := by grind
    rw [e]
    generalize (M : Rat) / T = w at *
    generalize (divN M T : Rat) = q at *
    grind
  | j + 1, hj => by
    have hM' := castpos hM
    obtain ⟨e1, e2⟩ := wS_err hM hT hz hc hρ z1 z2 hcc j (by omega)
    have hi : 0 < T - 1 - (j : Int) := by omega
    have d := divN_rat (a := M) (b := T - 1 - (j : Int)) hi
    have d2 := divN_rat (a := ys * wS M ys T j) (b := M) hM
    rw [rat_mul_cast] at d2
    have hx : (ys : Rat) = ζ * (M : Rat) := by
      rw [hz]
      generalize (M : Rat) = M at *
      generalize (ys : Rat) = t at *
      grind
    rw [hx] at d2
    have ec : ((divN M (T - 1 - (j : Int)) - divN (ys * wS M ys T j) M : Int) : Rat) = (divN M (T - 1 - (j : Int)) : Rat) - (divN (ys * wS M ys T j) M : Rat) := by push_cast; rfl
    show (M : Rat) * (1 / ((T - 1 - (j : Int) : Int) : Rat) - ζ * vS ζ T j) - c ≤ ((divN M (T - 1 - (j : Int)) - divN (ys * wS M ys T j) M : Int) : Rat) ∧ ((divN M (T - 1 - (j : Int)) - divN (ys * wS M ys T j) M : Int) : Rat) ≤ (M : Rat) * (1 / ((T - 1 - (j : Int) : Int) : Rat) - ζ * vS ζ T j) + c
    rw [ec]
    have em : (M : Rat) / ((T - 1 - (j : Int) : Int) : Rat) = (M : Rat) * (1 / ((T - 1 - (j : Int) : Int) : Rat)) := by grind
    rw [em] at d
    exact wS_step hM' hρ z1 z2 e1 e2 d.1 d.2 d2.1 d2.2 hcc

end Mine

namespace Mine
open Ex

/-- factorials -/
def fc : Nat → Rat
  | 0 => 1
  | n + 1 => fc n * ((n : Rat) + 1)
theorem fc_pos : ∀ n, 0 < fc n
  | 0 => by show (0 : Rat) < 1; decide
  | n + 1 => Rat.mul_pos (fc_pos n) (n1_pos n)
theorem fc_succ_ge (n : Nat) : fc n ≤ fc (n + 1) := by
  show fc n ≤ fc n * ((n : Rat) + 1)
  have h : (0 : Rat) ≤ (n : Rat) := by exact_mod_cast Nat.zero_le n
  have := Rat.mul_nonneg (Rat.le_of_lt (fc_pos n)) h
  grind
theorem fc_mono {m n : Nat} (h : m ≤ n) : fc m ≤ fc n := by
  obtain ⟨k, rfl⟩ := Nat.le.dest h
  induction k with
  | zero => exact Rat.le_refl
  | succ k ih => exact Rat.le_trans (ih (by omega)) (fc_succ_ge (m + k))
theorem fc2 : fc 2 = 2 := by show (1 * (((0 : Nat) : Rat) + 1)) * (((1 : Nat) : Rat) + 1) = 2; grind
theorem fc3 : fc 3 = 6 := by show fc 2 * (((2 : Nat) : Rat) + 1) = 6; rw [fc2]; grind
theorem fc4 : fc 4 = 24 := by show fc 3 * (((3 : Nat) : Rat) + 1) = 24; rw [fc3]; grind
theorem mz_fc (a : Rat) : ∀ n, mz n a * fc n = a ^ n
  | 0 => by rw [Rat.pow_zero]; show (1 : Rat) * 1 = 1; grind
  | n + 1 => by
    rw [mz_succ, Rat.pow_succ, ← mz_fc a n]
    show a * mz n a / ((n : Rat) + 1) * (fc n * ((n : Rat) + 1)) = mz n a * fc n * a
    have := n1_pos n
    generalize (n : Rat) + 1 = k at *
    generalize mz n a = u
    generalize fc n = f
    grind
theorem mz_le_pow {a : Rat} (h : 0 ≤ a) {n m : Nat} (hm : m ≤ n) : mz n a * fc m ≤ a ^ n := by
  rw [← mz_fc a n]
  exact Rat.mul_le_mul_of_nonneg_left (fc_mono hm) (mz_nn h n)

theorem pow_le_one {u : Rat} (h : 0 ≤ u) (h2 : u ≤ 1) : ∀ n : Nat, u ^ n ≤ 1
  | 0 => by rw [Rat.pow_zero]; exact Rat.le_refl
  | n + 1 => by
    rw [Rat.pow_succ]
    have := pow_le_one h h2 n
    have := pow_nn h n
    have := Rat.mul_le_mul_of_nonneg_left h2 this
    grind
theorem pow_le_pow' {u v : Rat} (h : 0 ≤ u) (h2 : u ≤ v) : ∀ n : Nat, u ^ n ≤ v ^ n
  | 0 => by rw [Rat.pow_zero, Rat.pow_zero]; exact Rat.le_refl
  | n + 1 => by
    rw [Rat.pow_succ, Rat.pow_succ]
    have a := pow_le_pow' h h2 n
    have b := pow_nn h n
    have c := Rat.mul_le_mul_of_nonneg_left h2 b
    have d := Rat.mul_le_mul_of_nonneg_right a (show 0 ≤ v by grind)
    grind

/-- 2 ^ (L T) is at least 10 ^ (the signs of M) -/
theorem two_LT {M L : Int} (hM : 0 < M) (hL : 0 < L) : 10 ^ (digs M).toNat ≤ 2 ^ (L.toNat * (tOf M L).toNat) := by
  have hD := digs_pos (Int.le_of_lt hM)
  have hT := tOf_pos (Int.le_of_lt hM) hL
  obtain ⟨D, eD⟩ := Int.eq_ofNat_of_zero_le (Int.le_of_lt hD)
  obtain ⟨l, el⟩ := Int.eq_ofNat_of_zero_le (Int.le_of_lt hL)
  obtain ⟨t, et⟩ := Int.eq_ofNat_of_zero_le (Int.le_of_lt hT)
  have h1 : 10 * D ≤ 3 * (l * t) := by
    have h2 : (-10 * digs M) / (3 * L) * (3 * L) ≤ -10 * digs M := Int.ediv_mul_le _ (by omega)
    have h3 : (-10 * digs M) / (3 * L) = -(t : Int) := by unfold tOf at et; omega
    rw [h3, eD, el] at h2
    have h4 : (-(t : Int)) * (3 * (l : Int)) = -(3 * ((l * t : Nat) : Int)) := by push_cast; grind
    rw [h4] at h2
    omega
  rw [eD, et, el]
  show 10 ^ D ≤ 2 ^ (l * t)
  -- cubes
  have c1 : (10 ^ D) ^ 3 ≤ (2 ^ (l * t)) ^ 3 := by
    have e1 : (10 ^ D) ^ 3 = 1000 ^ D := by rw [← Nat.pow_mul, Nat.mul_comm, Nat.pow_mul]
    have e2 : (2 ^ (l * t)) ^ 3 = 2 ^ (3 * (l * t)) := by rw [← Nat.pow_mul, Nat.mul_comm]
    rw [e1, e2]
    have e3 : 1000 ^ D ≤ 1024 ^ D := Nat.pow_le_pow_left (by decide) D
    have e4 : 1024 ^ D = 2 ^ (10 * D) := by rw [Nat.pow_mul]
    have e5 : 2 ^ (10 * D) ≤ 2 ^ (3 * (l * t)) := Nat.pow_le_pow_right (by decide) h1
    omega
  rcases Nat.lt_or_ge (2 ^ (l * t)) (10 ^ D) with h | h
  · have := Nat.pow_lt_pow_left h (show 3 ≠ 0 by decide)
    omega
  · exact h
theorem M_lt_digs {M : Int} (hM : 0 < M) : M < 10 ^ (digs M).toNat := by
  have hD := digs_pos (Int.le_of_lt hM)
  exact (digs_iff (Int.le_of_lt hM) (by omega)).mp (by omega)

/-- the T-th power of what is below 2 ^ - L, by 10 ^ (the signs of M) -/
theorem pow_small {M L : Int} {a : Rat} (hM : 0 < M) (hL : 0 < L) (ha : 0 ≤ a) (h : a * (2 : Rat) ^ L.toNat ≤ 1) : a ^ (tOf M L).toNat * ((10 ^ (digs M).toNat : Nat) : Rat) ≤ 1 := by
  have h1 := two_LT hM hL
  have h2 : ((10 ^ (digs M).toNat : Nat) : Rat) ≤ ((2 ^ (L.toNat * (tOf M L).toNat) : Nat) : Rat) := by exact_mod_cast h1
  have h3 : ((2 ^ (L.toNat * (tOf M L).toNat) : Nat) : Rat) = ((2 : Rat) ^ L.toNat) ^ (tOf M L).toNat := by
    rw [Nat.pow_mul]
    push_cast
    rfl
  rw [h3] at h2
  have hp : (0 : Rat) ≤ (2 : Rat) ^ L.toNat := pow_nn (by decide) _
  have h4 := pow_le_one (Rat.mul_nonneg ha hp) h (tOf M L).toNat
  rw [mul_pow'] at h4
  have := Rat.mul_le_mul_of_nonneg_left h2 (pow_nn ha (tOf M L).toNat)
  grind
theorem pow_small_M {M L : Int} {a : Rat} (hM : 0 < M) (hL : 0 < L) (ha : 0 ≤ a) (h : a * (2 : Rat) ^ L.toNat ≤ 1) : a ^ (tOf M L).toNat * (M : Rat) ≤ 1 := by
  have h1 := pow_small hM hL ha h
  have h2 : (M : Rat) ≤ ((10 ^ (digs M).toNat : Nat) : Rat) := by
    have := M_lt_digs hM
    have e : ((10 ^ (digs M).toNat : Nat) : Int) = 10 ^ (digs M).toNat := Int.natCast_pow 10 _
    have h3 : M ≤ ((10 ^ (digs M).toNat : Nat) : Int) := by omega
    exact_mod_cast h3
  have := Rat.mul_le_mul_of_nonneg_left h2 (pow_nn ha (tOf M L).toNat)
  grind

end Mine

namespace Mine
open Ex

theorem base_alg_up {E Ms e m c : Rat} (hM : 0 < Ms) (h : Ms * (e - 1) - c ≤ E) : e + 5 / 4 * m ≤ 1 + (E + c + Ms * (5 / 4 * m)) / Ms := by
  have : e + 5 / 4 * m - 1 ≤ (E + c + Ms * (5 / 4 * m)) / Ms := le_div hM (by grind)
  grind
theorem base_alg_dn {E Ms e m c : Rat} (hM : 0 < Ms) (hm : 0 ≤ m) (h : E ≤ Ms * (e - 1) + c) : 1 + (E - c - Ms * (5 / 4 * m)) / Ms ≤ e - m := by
  have k : (E - c - Ms * (5 / 4 * m)) / Ms ≤ e - m - 1 := div_le hM (by
    have := Rat.mul_nonneg (Rat.le_of_lt hM) hm
    grind)
  grind

/-- the series of _iexp, ahead of the doublings -/
theorem iexp_base {x Ms : Int} {T : Nat} {z a c : Rat} (hM : 0 < Ms) (hT : 0 < T) (hz : z = (x : Rat) / (Ms : Rat)) (ha : 0 ≤ a) (ha4 : a ≤ 1 / 4) (hza : z = a ∨ z = -a) (hc : 0 ≤ c) (hcc : 1 / 2 + a * c ≤ c) :
    EL z (1 + ((eS x Ms T (T - 1) : Rat) + c + (Ms : Rat) * (5 / 4 * mz (T + 1) a)) / (Ms : Rat)) ∧
    EG z (1 + ((eS x Ms T (T - 1) : Rat) - c - (Ms : Rat) * (5 / 4 * mz (T + 1) a)) / (Ms : Rat)) := by
  have hM' := castpos hM
  obtain ⟨n, rfl⟩ : ∃ n, T = n + 1 := ⟨T - 1, by omega⟩
  obtain ⟨e1, e2⟩ := eS_err (x := x) (T := ((n + 1 : Nat) : Int)) hM (by omega) hz hc ha (show -a ≤ z by grind) (show z ≤ a by grind) hcc n (by omega)
  have hl := hS_last z (T := n + 1) (by omega)
  have en : n + 1 - 1 = n := by omega
  rw [en] at hl ⊢
  rw [hl] at e1 e2
  obtain ⟨t1, t2⟩ := exp_taylor ha ha4 hza n
  exact ⟨t1.mono (base_alg_up hM' e1), t2.mono (base_alg_dn hM' (mz_nn ha _) e2)⟩

theorem absz {x Ms : Int} (hM : 0 < Ms) : ∃ a : Rat, 0 ≤ a ∧ ((x : Rat) / (Ms : Rat) = a ∨ (x : Rat) / (Ms : Rat) = -a) ∧ a * (Ms : Rat) = ((x.natAbs : Int) : Rat) := by
  have hM' := castpos hM
  rcases Int.le_total 0 x with h | h
  · refine ⟨(x : Rat) / (Ms : Rat), div_nn (castnn h) hM', .inl rfl, ?_⟩
    have e : ((x.natAbs : Int)) = x := by omega
    rw [e]
    exact Rat.div_mul_cancel (by grind)
  · refine ⟨-((x : Rat) / (Ms : Rat)), ?_, .inr (by grind), ?_⟩
    · have := castle h
      have k : (x : Rat) / (Ms : Rat) ≤ 0 := div_le hM' (by grind)
      grind
    · have e : ((x.natAbs : Int)) = -x := by omega
      rw [e]
      have e2 : ((-x : Int) : Rat) = -(x : Rat) := by push_cast; rfl
      rw [e2]
      have := Rat.div_mul_cancel (a := (x : Rat)) (b := (Ms : Rat)) (by grind)
      grind

/-- what the series of _iexp leaves out, by the length of x -/
theorem rest_le {M Ms L : Int} {a X : Rat} {m : Nat} (hM : 0 < M) (hMs : 0 < Ms) (hL : 0 < L) (ha : 0 ≤ a) (h : a * (2 : Rat) ^ L.toNat ≤ 1) (hX : a * (Ms : Rat) = X) (hm : m ≤ (tOf M L).toNat + 1) :
    (Ms : Rat) * (5 / 4 * mz ((tOf M L).toNat + 1) a) * fc m * (M : Rat) ≤ 5 / 4 * X := by
  have h1 := pow_small_M hM hL ha h
  have h2 := mz_le_pow ha hm
  rw [Rat.pow_succ] at h2
  have hMs' := castpos hMs
  have hM' := castpos hM
  generalize a ^ (tOf M L).toNat = p at *
  generalize mz ((tOf M L).toNat + 1) a = u at *
  generalize fc m = f at *
  generalize (Ms : Rat) = S at *
  generalize (M : Rat) = N at *
  -- S * 5/4 u f N ≤ 5/4 S p a N ≤ 5/4 S a
  have k1 := Rat.mul_le_mul_of_nonneg_left h2 (Rat.mul_nonneg (Rat.le_of_lt hMs') (Rat.le_of_lt hM'))
  have k2 := Rat.mul_le_mul_of_nonneg_left h1 (Rat.mul_nonneg (Rat.le_of_lt hMs') ha)
  grind

/-- _ilog without a halving -/
theorem ilog_base {M y : Int} {T : Nat} {z a c : Rat} (hM : 0 < M) (hT : 0 < T) (hz : z = (y : Rat) / (M : Rat)) (ha : 0 ≤ a) (ha2 : a ≤ 1 / 2) (hza : z = a ∨ z = -a) (hc : 1 ≤ c) (hcc : 1 + a * c ≤ c) :
    EL (((divN (wS M y T (T - 1) * y) M : Rat) - (1 / 2 + c * a + (M : Rat) * (2 * rZ T a))) / (M : Rat)) (1 + z) ∧
    EG (((divN (wS M y T (T - 1) * y) M : Rat) + (1 / 2 + c * a + (M : Rat) * (2 * rZ T a))) / (M : Rat)) (1 + z) := by
  have hM' := castpos hM
  obtain ⟨e1, e2⟩ := wS_err (ys := y) (T := (T : Int)) hM (by omega) hz hc ha (show -a ≤ z by grind) (show z ≤ a by grind) hcc (T - 1) (by omega)
  have d := divN_rat (a := wS M y T (T - 1) * y) (b := M) hM
  rw [rat_mul_cast] at d
  have hl := vS_last z hT
  obtain ⟨l1, l2⟩ := log_series ha ha2 hza T
  have hy : (y : Rat) = z * (M : Rat) := by
    rw [hz]
    generalize (M : Rat) = M at *
    generalize (y : Rat) = t at *
    grind
  rw [hy] at d
  generalize (divN (wS M y T (T - 1) * y) M : Rat) = r at *
  generalize (wS M y T (T - 1) : Rat) = w at *
  generalize vS z (T : Int) (T - 1) = v at *
  rw [← hl] at l1 l2
  generalize rZ T a = R at *
  generalize (M : Rat) = N at *
  have e : w * (z * N) / N = w * z := by grind
  rw [e] at d
  -- |w z - N z v| ≤ c a
  have m := mul_pm (c := z) (a := a) (x := w - N * v) (B := c) ha (by grind) (by grind) (by grind) (by grind)
  constructor
  · refine l1.exp_mono (div_le hM' ?_)
    grind
  · refine l2.exp_mono (le_div hM' ?_)
    grind

theorem rZ_le {M L : Int} {a : Rat} (hM : 0 < M) (hL : 0 < L) (ha : 0 ≤ a) (h : a * (2 : Rat) ^ L.toNat ≤ 1) : (M : Rat) * (2 * rZ (tOf M L).toNat a) ≤ a := by
  have h1 := pow_small_M hM hL ha h
  have hT := tOf_pos (Int.le_of_lt hM) hL
  have hT1 : (1 : Rat) ≤ (((tOf M L).toNat : Nat) : Rat) := by
    have : 1 ≤ (tOf M L).toNat := by omega
    exact_mod_cast this
  unfold rZ
  generalize (((tOf M L).toNat : Nat) : Rat) = k at *
  have hM' := castpos hM
  have e : (M : Rat) * (2 * (a * a ^ (tOf M L).toNat / (k + 1))) = 2 * (a * (a ^ (tOf M L).toNat * (M : Rat))) / (k + 1) := by
    generalize a ^ (tOf M L).toNat = p
    grind
  rw [e]
  refine div_le (by grind) ?_
  have h2 := Rat.mul_le_mul_of_nonneg_left h1 ha
  have h3 := Rat.mul_le_mul_of_nonneg_left hT1 ha
  grind

end Mine

namespace Mine
open PySem.Builtin.Int (intBits)
open Ex

theorem two_pow_rat (n : Nat) : ((2 ^ n : Int) : Rat) = (2 : Rat) ^ n := by push_cast; rfl

/-- x small against M: how small x / M is -/
theorem small_a {x M L : Int} {a : Rat} (hM : 0 < M) (hL : 3 ≤ L) (h : (x.natAbs : Int) * 2 ^ L.toNat * 4 ≤ 3 * M) (ha0 : 0 ≤ a) (ha : a * (M : Rat) = ((x.natAbs : Int) : Rat)) :
    a ≤ 3 / 32 ∧ a * (2 : Rat) ^ L.toNat ≤ 3 / 4 := by
  have hM' := castpos hM
  have h1 : (((x.natAbs : Int) : Rat)) * (2 : Rat) ^ L.toNat * 4 ≤ 3 * (M : Rat) := by
    have := castle h
    rw [← two_pow_rat]
    exact_mod_cast this
  rw [← ha] at h1
  have h8 : (8 : Rat) ≤ (2 : Rat) ^ L.toNat := by
    have : (2 : Nat) ^ 3 ≤ 2 ^ L.toNat := Nat.pow_le_pow_right (by decide) (by omega)
    have h9 : ((2 ^ 3 : Nat) : Rat) ≤ ((2 ^ L.toNat : Nat) : Rat) := by exact_mod_cast this
    push_cast at h9
    grind
  generalize (2 : Rat) ^ L.toNat = p at *
  generalize (M : Rat) = N at *
  have k : a * p ≤ 3 / 4 := by
    rcases Classical.em (a * p ≤ 3 / 4) with x | x
    · exact x
    · have := Rat.mul_lt_mul_of_pos_right (lt_of_not_le x) hM'
      grind
  refine ⟨?_, k⟩
  have := Rat.mul_le_mul_of_nonneg_left h8 ha0
  grind

theorem tau_le {M Ms L : Int} {a X : Rat} (hM : 0 < M) (hMs : 0 < Ms) (hL : 0 < L) (ha : 0 ≤ a) (h : a * (2 : Rat) ^ L.toNat ≤ 1) (hX : a * (Ms : Rat) = X) (hX2 : X ≤ 3 / 32 * (M : Rat)) :
    (Ms : Rat) * (5 / 4 * mz ((tOf M L).toNat + 1) a) ≤ 3 / 50 := by
  have hT := tOf_pos (Int.le_of_lt hM) hL
  have k := rest_le (m := 2) hM hMs hL ha h hX (by omega)
  rw [fc2] at k
  have hM' := castpos hM
  generalize (Ms : Rat) * (5 / 4 * mz ((tOf M L).toNat + 1) a) = t at *
  generalize (M : Rat) = N at *
  rcases Classical.em (t ≤ 3 / 50) with y | y
  · exact y
  · have := Rat.mul_lt_mul_of_pos_right (lt_of_not_le y) hM'
    grind

theorem unit_up {E c t t2 N : Rat} (hN : 0 < N) (h : E + c + t ≤ t2) : 1 + (E + c + t) / N ≤ (N + t2) / N := by
  have : (E + c + t) / N ≤ (N + t2) / N - 1 := div_le hN (by
    have e : ((N + t2) / N - 1) * N = t2 := by grind
    rw [e]; exact h)
  grind
theorem unit_dn {E c t t2 N : Rat} (hN : 0 < N) (h : t2 ≤ E - c - t) : (N + t2) / N ≤ 1 + (E - c - t) / N := by
  have : (N + t2) / N - 1 ≤ (E - c - t) / N := le_div hN (by
    have e : ((N + t2) / N - 1) * N = t2 := by grind
    rw [e]; exact h)
  grind

/-- _iexp of what is not below nought -/
theorem iexp03_pos {x M L : Int} (hM : 16000 ≤ M) (hL : 3 ≤ L) (hx : 0 ≤ x) (h : (x.natAbs : Int) * 2 ^ L.toNat * 4 ≤ 3 * M) :
    EL ((x : Rat) / (M : Rat)) (((iexpF M x L : Int) + 11 / 10 : Rat) / (M : Rat)) ∧ EG ((x : Rat) / (M : Rat)) (((iexpF M x L : Int) - 11 / 10 : Rat) / (M : Rat)) := by
  have hM0 : 0 < M := by omega
  have hM' := castpos hM0
  have hT := tOf_pos (M := M) (L := L) (by omega) (by omega)
  obtain ⟨a, a0, az, am⟩ := absz (x := x) hM0
  obtain ⟨a1, a2⟩ := small_a hM0 hL h a0 am
  have hr : rOf M x L = 0 := rOf_zero hx (by
    have e : (x.natAbs : Int) = x := by omega
    rw [e] at h
    omega)
  obtain ⟨b1, b2⟩ := iexp_base (x := x) (Ms := M) (T := (tOf M L).toNat) (c := 16 / 29) hM0 (by omega) rfl a0 (by grind) az (by grind) (by grind)
  have hX2 : ((x.natAbs : Int) : Rat) ≤ 3 / 32 * (M : Rat) := by
    rw [← am]
    exact Rat.mul_le_mul_of_nonneg_right a1 (Rat.le_of_lt hM')
  have tl := tau_le (M := M) (Ms := M) (L := L) hM0 hM0 (by omega) a0 (by grind) am hX2
  have t0 : 0 ≤ (M : Rat) * (5 / 4 * mz ((tOf M L).toNat + 1) a) := Rat.mul_nonneg (Rat.le_of_lt hM') (by have := mz_nn a0 ((tOf M L).toNat + 1); grind)
  have eF : (iexpF M x L : Rat) = (M : Rat) + (eS x M (((tOf M L).toNat : Nat) : Int) ((tOf M L).toNat - 1) : Rat) := by
    unfold iexpF iexpY
    rw [hr]
    have e1 : (((tOf M L).toNat : Nat) : Int) = tOf M L := by omega
    have e2 : (tOf M L - 1).toNat = (tOf M L).toNat - 1 := by omega
    rw [e1, Int.pow_zero, Int.mul_one, e2]
    show ((M + eS x M (tOf M L) ((tOf M L).toNat - 1) : Int) : Rat) = _
    push_cast
    rfl
  rw [eF]
  generalize (eS x M (((tOf M L).toNat : Nat) : Int) ((tOf M L).toNat - 1) : Rat) = E at *
  generalize (M : Rat) * (5 / 4 * mz ((tOf M L).toNat + 1) a) = t at *
  generalize (M : Rat) = N at *
  constructor
  · refine b1.mono ?_
    have e : N + E + 11 / 10 = N + (E + 11 / 10) := by grind
    rw [e]
    exact unit_up hM' (by grind)
  · refine b2.mono ?_
    have e : N + E - 11 / 10 = N + (E - 11 / 10) := by grind
    rw [e]
    exact unit_dn hM' (by grind)

theorem rOf_one {M x L : Int} (hM : 0 < M) (hx : x < 0) (h : -M ≤ x * 2 ^ L.toNat) : rOf M x L = 1 := by
  have h0 : x * 2 ^ L.toNat < 0 := Int.mul_neg_of_neg_of_pos hx (two_pow_pos _)
  have e : (x * 2 ^ L.toNat) / M = -1 := by
    have k1 : -1 ≤ (x * 2 ^ L.toNat) / M := (Int.le_ediv_iff_mul_le hM).mpr (by omega)
    have k2 : (x * 2 ^ L.toNat) / M < 0 := Int.ediv_neg_of_neg_of_pos h0 hM
    omega
  unfold rOf
  rw [e]
  rfl

/-- one doubling, in rationals -/
theorem dbl_alg {E N q c : Rat} (hN : 16000 ≤ N) (c0 : 0 ≤ c) (c1 : c ≤ 59 / 100) (hE : E ≤ c) (hE2 : -(1 / 4 * N) ≤ E) (q1 : E * (E + 4 * N) / (4 * N) - 1 / 2 ≤ q) (q2 : q ≤ E * (E + 4 * N) / (4 * N) + 1 / 2) :
    (1 + (E + c) / (2 * N)) * (1 + (E + c) / (2 * N)) ≤ (N + q + 11 / 10) / N ∧ (N + q - 11 / 10) / N ≤ (1 + (E - c) / (2 * N)) * (1 + (E - c) / (2 * N)) := by
  have hN0 : 0 < N := by grind
  have e1 : E * (E + 4 * N) / (4 * N) = E + E * E / (4 * N) := by grind
  rw [e1] at q1 q2
  have cc : c * c ≤ 1 := by
    have := Rat.mul_le_mul_of_nonneg_left c1 c0
    grind
  have hEc : E * c ≤ 1 := by
    have := Rat.mul_le_mul_of_nonneg_right hE c0
    grind
  have d1 : E * c / (2 * N) ≤ 1 / 1000 := div_le (by grind) (by grind)
  have d2 : c * c / (4 * N) ≤ 1 / 1000 := div_le (by grind) (by grind)
  have d3 : 0 ≤ c * c / (4 * N) := div_nn (Rat.mul_nonneg c0 c0) (by grind)
  constructor
  · refine le_div hN0 ?_
    have e2 : (1 + (E + c) / (2 * N)) * (1 + (E + c) / (2 * N)) * N = N + E + E * E / (4 * N) + c + E * c / (2 * N) + c * c / (4 * N) := by grind
    rw [e2]
    grind
  · refine div_le hN0 ?_
    have e2 : (1 + (E - c) / (2 * N)) * (1 + (E - c) / (2 * N)) * N = N + E + E * E / (4 * N) - c - E * c / (2 * N) + c * c / (4 * N) := by grind
    rw [e2]
    grind

theorem EL.le_one {z : Rat} (h : z ≤ 0) : EL z 1 := EL.zero.exp_mono h

theorem iexp03_neg {x M L : Int} (hM : 16000 ≤ M) (hL : 3 ≤ L) (hx : x < 0) (h : (x.natAbs : Int) * 2 ^ L.toNat * 4 ≤ 3 * M) :
    EL ((x : Rat) / (M : Rat)) (((iexpF M x L : Int) + 11 / 10 : Rat) / (M : Rat)) ∧ EG ((x : Rat) / (M : Rat)) (((iexpF M x L : Int) - 11 / 10 : Rat) / (M : Rat)) := by
  have hM0 : 0 < M := by omega
  have hM' := castpos hM0
  have hN16 : (16000 : Rat) ≤ (M : Rat) := by exact_mod_cast hM
  have hT := tOf_pos (M := M) (L := L) (by omega) (by omega)
  have hMs0 : 0 < M * 2 := by omega
  have eMs : ((M * 2 : Int) : Rat) = 2 * (M : Rat) := by push_cast; grind
  obtain ⟨a, a0, az, am⟩ := absz (x := x) hMs0
  obtain ⟨b, b0, bz, bm⟩ := absz (x := x) hM0
  obtain ⟨b1, b2⟩ := small_a hM0 hL h b0 bm
  have hab : a = b / 2 := by
    rw [← bm, eMs] at am
    have : (2 * a - b) * (M : Rat) = 0 := by grind
    rcases Rat.mul_eq_zero.mp this with k | k
    · grind
    · grind
  have hr : rOf M x L = 1 := rOf_one hM0 hx (by
    have e : (x.natAbs : Int) = -x := by omega
    rw [e] at h
    have : -x * 2 ^ L.toNat = -(x * 2 ^ L.toNat) := Int.neg_mul _ _
    rw [this] at h
    omega)
  have ha2 : a * (2 : Rat) ^ L.toNat ≤ 1 := by
    rw [hab]
    generalize (2 : Rat) ^ L.toNat = p at *
    grind
  obtain ⟨c1, c2⟩ := iexp_base (x := x) (Ms := M * 2) (T := (tOf M L).toNat) (c := 32 / 61) hMs0 (by omega) rfl a0 (by grind) az (by grind) (by grind)
  have hX2 : ((x.natAbs : Int) : Rat) ≤ 3 / 32 * (M : Rat) := by
    rw [← bm]
    exact Rat.mul_le_mul_of_nonneg_right b1 (Rat.le_of_lt hM')
  have tl := tau_le (M := M) (Ms := M * 2) (L := L) hM0 hMs0 (by omega) a0 ha2 am hX2
  have t0 : 0 ≤ ((M * 2 : Int) : Rat) * (5 / 4 * mz ((tOf M L).toNat + 1) a) := Rat.mul_nonneg (castnn (Int.le_of_lt hMs0)) (by have := mz_nn a0 ((tOf M L).toNat + 1); grind)
  -- the program's number
  have eF : iexpF M x L = M + divN (eS x (M * 2) (((tOf M L).toNat : Nat) : Int) ((tOf M L).toNat - 1) * (eS x (M * 2) (((tOf M L).toNat : Nat) : Int) ((tOf M L).toNat - 1) + M * 4)) (M * 4) := by
    unfold iexpF iexpY
    rw [hr]
    have e1 : (((tOf M L).toNat : Nat) : Int) = tOf M L := by omega
    have e2 : (tOf M L - 1).toNat = (tOf M L).toNat - 1 := by omega
    rw [e1, e2]
    rfl
  have d := divN_rat (a := eS x (M * 2) (((tOf M L).toNat : Nat) : Int) ((tOf M L).toNat - 1) * (eS x (M * 2) (((tOf M L).toNat : Nat) : Int) ((tOf M L).toNat - 1) + M * 4)) (b := M * 4) (by omega)
  rw [cast_mul3, rat_mul_cast] at d
  rw [eF]
  generalize hq : divN (eS x (M * 2) (((tOf M L).toNat : Nat) : Int) ((tOf M L).toNat - 1) * (eS x (M * 2) (((tOf M L).toNat : Nat) : Int) ((tOf M L).toNat - 1) + M * 4)) (M * 4) = q at *
  have e4 : (M : Rat) * ((4 : Int) : Rat) = 4 * (M : Rat) := by
    have : ((4 : Int) : Rat) = 4 := rfl
    rw [this]; grind
  rw [e4] at d
  have e5 : ((M + q : Int) : Rat) = (M : Rat) + (q : Rat) := by push_cast; rfl
  rw [e5]
  rw [eMs] at *
  have hz : (x : Rat) / (M : Rat) = (x : Rat) / (2 * (M : Rat)) + (x : Rat) / (2 * (M : Rat)) := by grind
  rw [hz]
  have hz0 : (x : Rat) / (2 * (M : Rat)) ≤ 0 := div_le (by grind) (by
    have := castle (Int.le_of_lt hx)
    grind)
  have hz1 : -(3 / 64) ≤ (x : Rat) / (2 * (M : Rat)) := by grind
  generalize (x : Rat) / (2 * (M : Rat)) = z at *
  generalize (eS x (M * 2) (((tOf M L).toNat : Nat) : Int) ((tOf M L).toNat - 1) : Rat) = E at *
  generalize 2 * (M : Rat) * (5 / 4 * mz ((tOf M L).toNat + 1) a) = t at *
  generalize (M : Rat) = N at *
  generalize (q : Rat) = q at *
  -- join c and t
  have c1' : EL z (1 + (E + 59 / 100) / (2 * N)) := c1.mono (by
    have := div_mono (p := 2 * N) (by grind) (show E + 32 / 61 + t ≤ E + 59 / 100 by grind)
    grind)
  have c2' : EG z (1 + (E - 59 / 100) / (2 * N)) := c2.mono (by
    have := div_mono (p := 2 * N) (by grind) (show E - 59 / 100 ≤ E - 32 / 61 - t by grind)
    grind)
  have hE1 : E ≤ 59 / 100 := by
    have k := c2'.le (EL.le_one hz0)
    have k2 : (E - 59 / 100) / (2 * N) ≤ 0 := by grind
    have := div_le_mul (show 0 < 2 * N by grind) k2
    grind
  have hE2 : -(1 / 4 * N) ≤ E := by
    have k := (EG.one_add z).le c1'
    have k2 : -(3 / 64) ≤ (E + 59 / 100) / (2 * N) := by grind
    have := le_div_mul (show 0 < 2 * N by grind) k2
    grind
  obtain ⟨u, v⟩ := dbl_alg hN16 (by grind) (show (59 : Rat) / 100 ≤ 59 / 100 from Rat.le_refl) hE1 hE2 d.1 d.2
  refine ⟨(EL.add c1' c1').mono u, (EG.add c2' c2' ?_).mono v⟩
  have : -(1 / 2) ≤ (E - 59 / 100) / (2 * N) := le_div (by grind) (by grind)
  grind

theorem iexp03 {x M L : Int} (hM : 16000 ≤ M) (hL : 3 ≤ L) (h : (x.natAbs : Int) * 2 ^ L.toNat * 4 ≤ 3 * M) :
    EL ((x : Rat) / (M : Rat)) (((iexpF M x L : Int) + 11 / 10 : Rat) / (M : Rat)) ∧ EG ((x : Rat) / (M : Rat)) (((iexpF M x L : Int) - 11 / 10 : Rat) / (M : Rat)) := by
  rcases Int.lt_or_le x 0 with hx | hx
  · exact iexp03_neg hM hL hx h
  · exact iexp03_pos hM hL hx h

/-- _ilog without a halving -/
theorem ilog03 {y M L : Int} (hM : 16000 ≤ M) (hL : 3 ≤ L) (h : (y.natAbs : Int) * 2 ^ L.toNat * 4 ≤ 3 * M) :
    EL (((ilogF M (M + y) L 0 : Int) - 7 / 10 : Rat) / (M : Rat)) (1 + (y : Rat) / (M : Rat)) ∧ EG (((ilogF M (M + y) L 0 : Int) + 7 / 10 : Rat) / (M : Rat)) (1 + (y : Rat) / (M : Rat)) := by
  have hM0 : 0 < M := by omega
  have hM' := castpos hM0
  have hT := tOf_pos (M := M) (L := L) (by omega) (by omega)
  obtain ⟨a, a0, az, am⟩ := absz (x := y) hM0
  obtain ⟨a1, a2⟩ := small_a hM0 hL h a0 am
  obtain ⟨b1, b2⟩ := ilog_base (y := y) (T := (tOf M L).toNat) (c := 32 / 29) hM0 (by omega) rfl a0 (by grind) az (by grind) (by grind)
  have rz := rZ_le (M := M) (L := L) hM0 (by omega) a0 (by grind)
  have r0 : 0 ≤ (M : Rat) * (2 * rZ (tOf M L).toNat a) := by
    have : 0 ≤ rZ (tOf M L).toNat a := div_nn (Rat.mul_nonneg a0 (pow_nn a0 _)) (n1_pos _)
    exact Rat.mul_nonneg (Rat.le_of_lt hM') (by grind)
  have eF : ilogF M (M + y) L 0 = divN (wS M y (((tOf M L).toNat : Nat) : Int) ((tOf M L).toNat - 1) * y) M := by
    unfold ilogF
    have e1 : (((tOf M L).toNat : Nat) : Int) = tOf M L := by omega
    have e2 : (tOf M L - 1).toNat = (tOf M L).toNat - 1 := by omega
    have e3 : yH M (M + y) 0 = y := by show M + y - M = y; omega
    have e4 : divN y (2 ^ 0) = y := divN_one
    rw [e1, e2, e3, e4]
  rw [eF]
  generalize (divN (wS M y (((tOf M L).toNat : Nat) : Int) ((tOf M L).toNat - 1) * y) M : Rat) = r at *
  generalize (M : Rat) * (2 * rZ (tOf M L).toNat a) = w at *
  exact ⟨b1.exp_mono (div_mono hM' (by grind)), b2.exp_mono (div_mono hM' (by grind))⟩

end Mine

namespace Mine
open PySem.Builtin.Int (intBits)
open Ex

/-- the rational core: d / N between, t, r the two answers -/
theorem core_a1 {d t r N : Rat} (hN : 16000 ≤ N) (d1 : -(1 / 16 * N) ≤ d) (e1 : EG (d / N) ((t - 11 / 10) / N)) (e2 : EL (d / N) ((t + 11 / 10) / N)) (l1 : EL ((r - 7 / 10) / N) (t / N)) (h : d + 2 ≤ r) : False := by
  have hN0 : 0 < N := by grind
  have ht : 15 / 16 * N - 11 / 10 ≤ t := by
    have k := (EG.one_add (d / N)).le e2
    have k2 : -(1 / 16) ≤ d / N := le_div hN0 (by grind)
    have k3 : 15 / 16 ≤ (t + 11 / 10) / N := by grind
    have := le_div_mul hN0 k3
    grind
  have hq : 13 / 10 / N ≤ (r - 7 / 10) / N - d / N := by
    have e : (r - 7 / 10) / N - d / N = (r - 7 / 10 - d) / N := by grind
    rw [e]
    exact div_mono hN0 (by grind)
  have hq0 : 0 < 13 / 10 / N := div_pos (by grind) hN0
  have k := EG.add e1 (EG.one_add ((r - 7 / 10) / N - d / N)) (by grind)
  have e : d / N + ((r - 7 / 10) / N - d / N) = (r - 7 / 10) / N := by grind
  rw [e] at k
  have k2 := k.le l1
  have p : 0 < (t - 11 / 10) / N := div_pos (by grind) hN0
  have k3 := Rat.mul_le_mul_of_nonneg_left (show 1 + 13 / 10 / N ≤ 1 + ((r - 7 / 10) / N - d / N) by grind) (Rat.le_of_lt p)
  have k4 : (t - 11 / 10) / N * (1 + 13 / 10 / N) ≤ t / N := Rat.le_trans k3 k2
  have k5 := le_div_mul hN0 k4
  have e5 : (t - 11 / 10) / N * (1 + 13 / 10 / N) * N = t - 11 / 10 + (t - 11 / 10) * (13 / 10) / N := by grind
  rw [e5] at k5
  have k6 : (t - 11 / 10) * (13 / 10) / N ≤ 11 / 10 := by grind
  have := div_le_mul hN0 k6
  grind
theorem core_a2 {d t r N : Rat} (hN : 16000 ≤ N) (d1 : -(1 / 16 * N) ≤ d) (e2 : EL (d / N) ((t + 11 / 10) / N)) (l1 : EG ((r + 7 / 10) / N) (t / N)) (h : r + 2 ≤ d) : False := by
  have hN0 : 0 < N := by grind
  have ht : 15 / 16 * N - 11 / 10 ≤ t := by
    have k := (EG.one_add (d / N)).le e2
    have k2 : -(1 / 16) ≤ d / N := le_div hN0 (by grind)
    have k3 : 15 / 16 ≤ (t + 11 / 10) / N := by grind
    have := le_div_mul hN0 k3
    grind
  have hq : 13 / 10 / N ≤ d / N - (r + 7 / 10) / N := by
    have e : d / N - (r + 7 / 10) / N = (d - (r + 7 / 10)) / N := by grind
    rw [e]
    exact div_mono hN0 (by grind)
  have hq0 : 0 < 13 / 10 / N := div_pos (by grind) hN0
  have k := EG.add l1 (EG.one_add (d / N - (r + 7 / 10) / N)) (by grind)
  have e : (r + 7 / 10) / N + (d / N - (r + 7 / 10) / N) = d / N := by grind
  rw [e] at k
  have k2 := k.le e2
  have p : 0 < t / N := div_pos (by grind) hN0
  have k3 := Rat.mul_le_mul_of_nonneg_left (show 1 + 13 / 10 / N ≤ 1 + (d / N - (r + 7 / 10) / N) by grind) (Rat.le_of_lt p)
  have k4 : t / N * (1 + 13 / 10 / N) ≤ (t + 11 / 10) / N := Rat.le_trans k3 k2
  have k5 := le_div_mul hN0 k4
  have e5 : t / N * (1 + 13 / 10 / N) * N = t + t * (13 / 10) / N := by grind
  rw [e5] at k5
  have k6 : t * (13 / 10) / N ≤ 11 / 10 := by grind
  have := div_le_mul hN0 k6
  grind
theorem core_b1 {d t r N : Rat} (hN : 16000 ≤ N) (d2 : d ≤ 1 / 16 * N) (d1 : -(1 / 16 * N) ≤ d) (e1 : EG (r / N) ((t - 11 / 10) / N)) (l1 : EL ((r - 7 / 10) / N) (1 + d / N)) (h : N + d + 2 ≤ t) : False := by
  have hN0 : 0 < N := by grind
  have h7 : 7 / 10 / N < 1 := by
    have : 7 / 10 / N ≤ 1 / 2 := div_le hN0 (by grind)
    grind
  have k := EL.add l1 (EL.inv h7)
  have e : (r - 7 / 10) / N + 7 / 10 / N = r / N := by grind
  rw [e] at k
  have k2 := e1.le k
  have p : 0 < 1 - 7 / 10 / N := by grind
  have e3 : (1 + d / N) * (1 / (1 - 7 / 10 / N)) = (1 + d / N) / (1 - 7 / 10 / N) := by grind
  rw [e3] at k2
  have k3 := le_div_mul p k2
  have k4 := Rat.mul_le_mul_of_nonneg_right k3 (Rat.le_of_lt hN0)
  have e4 : (1 + d / N) * N = N + d := by grind
  have e5 : (t - 11 / 10) / N * (1 - 7 / 10 / N) * N = t - 11 / 10 - (t - 11 / 10) / N * (7 / 10) := by grind
  rw [e4, e5] at k4
  -- t - 11/10 = N + d + s; the rest
  have k5 : (t - 11 / 10) * (1 - 7 / 10 / N) ≤ N + d := by
    have e6 : (t - 11 / 10) * (1 - 7 / 10 / N) = t - 11 / 10 - (t - 11 / 10) / N * (7 / 10) := by grind
    rw [e6]; exact k4
  have k6 := Rat.mul_le_mul_of_nonneg_right (show N + d + 9 / 10 ≤ t - 11 / 10 by grind) (Rat.le_of_lt p)
  have k7 : (N + d + 9 / 10) * (1 - 7 / 10 / N) ≤ N + d := Rat.le_trans k6 k5
  have e8 : (N + d + 9 / 10) * (1 - 7 / 10 / N) = N + d + 9 / 10 - 7 / 10 * (N + d + 9 / 10) / N := by grind
  rw [e8] at k7
  have k8 : 9 / 10 ≤ 7 / 10 * (N + d + 9 / 10) / N := by grind
  have := le_div_mul hN0 k8
  grind
theorem core_b2 {d t r N : Rat} (hN : 16000 ≤ N) (d2 : d ≤ 1 / 16 * N) (d1 : -(1 / 16 * N) ≤ d) (e1 : EL (r / N) ((t + 11 / 10) / N)) (l1 : EG ((r + 7 / 10) / N) (1 + d / N)) (h : t + 2 ≤ N + d) : False := by
  have hN0 : 0 < N := by grind
  have h7 : 7 / 10 / N ≤ 1 / 2 := div_le hN0 (by grind)
  have k := EG.add l1 (EG.one_add (-(7 / 10 / N))) (by grind)
  have e : (r + 7 / 10) / N + -(7 / 10 / N) = r / N := by grind
  rw [e] at k
  have k2 := k.le e1
  have k3 := le_div_mul hN0 k2
  have e3 : (1 + d / N) * (1 + -(7 / 10 / N)) * N = N + d - 7 / 10 * (N + d) / N := by grind
  rw [e3] at k3
  have k8 : 9 / 10 ≤ 7 / 10 * (N + d) / N := by grind
  have := le_div_mul hN0 k8
  grind

/-- how far _iexp can go -/
theorem iexp_far {d t N u : Rat} (hN : 16000 ≤ N) (hu : 0 ≤ u) (hu2 : u ≤ 1 / 16 * N) (d1 : -u ≤ d) (d2 : d ≤ u) (e1 : EG (d / N) ((t - 11 / 10) / N)) (e2 : EL (d / N) ((t + 11 / 10) / N)) :
    t - N ≤ 9 / 8 * u + 11 / 10 ∧ -(9 / 8 * u) - 11 / 10 ≤ t - N := by
  have hN0 : 0 < N := by grind
  have a1 : d / N ≤ 1 / 16 := div_le hN0 (by grind)
  have a2 : -(1 / 16) ≤ d / N := le_div hN0 (by grind)
  constructor
  · have k := e1.le (EL.quad (show d / N ≤ 1 / 2 by grind))
    have k2 := Rat.mul_le_mul_of_nonneg_right k (Rat.le_of_lt hN0)
    have e3 : (t - 11 / 10) / N * N = t - 11 / 10 := by grind
    have e4 : (1 + d / N + 2 * (d / N * (d / N))) * N = N + d + 2 * (d / N) * d := by grind
    rw [e3, e4] at k2
    have m := mul_pm (c := d / N) (a := 1 / 16) (x := d) (B := u) (by grind) a2 a1 d1 d2
    grind
  · have k := (EG.one_add (d / N)).le e2
    have k2 := Rat.mul_le_mul_of_nonneg_right k (Rat.le_of_lt hN0)
    have e3 : (t + 11 / 10) / N * N = t + 11 / 10 := by grind
    have e4 : (1 + d / N) * N = N + d := by grind
    rw [e3, e4] at k2
    grind
/-- how far _ilog can go -/
theorem ilog_far {d r N u : Rat} (hN : 16000 ≤ N) (hu : 0 ≤ u) (hu2 : u ≤ 1 / 16 * N) (d1 : -u ≤ d) (d2 : d ≤ u) (hr : r ≤ 1 / 2 * N) (l1 : EL ((r - 7 / 10) / N) (1 + d / N)) (l2 : EG ((r + 7 / 10) / N) (1 + d / N)) :
    r ≤ 9 / 8 * u + 11 / 10 ∧ -(9 / 8 * u) - 11 / 10 ≤ r := by
  have hN0 : 0 < N := by grind
  have a1 : d / N ≤ 1 / 16 := div_le hN0 (by grind)
  have a2 : -(1 / 16) ≤ d / N := le_div hN0 (by grind)
  constructor
  · have k := (EG.one_add ((r - 7 / 10) / N)).le l1
    have k2 := Rat.mul_le_mul_of_nonneg_right k (Rat.le_of_lt hN0)
    have e3 : (1 + (r - 7 / 10) / N) * N = N + r - 7 / 10 := by grind
    have e4 : (1 + d / N) * N = N + d := by grind
    rw [e3, e4] at k2
    grind
  · have h1 : (r + 7 / 10) / N < 1 := by
      have : (r + 7 / 10) / N ≤ 3 / 4 := div_le hN0 (by grind)
      grind
    have k := l2.le (EL.inv h1)
    have k2 := le_div_mul (show 0 < 1 - (r + 7 / 10) / N by grind) k
    have k3 := Rat.mul_le_mul_of_nonneg_right k2 (Rat.le_of_lt hN0)
    have e3 : (1 + d / N) * (1 - (r + 7 / 10) / N) * N = (1 + d / N) * (N - (r + 7 / 10)) := by grind
    rw [e3] at k3
    -- (1 + u) (N - v) ≤ N : v ≥ N - N / (1 + u)
    rcases Classical.em (-(9 / 8 * u) - 11 / 10 ≤ r) with x | x
    · exact x
    · have y := lt_of_not_le x
      have k4 := Rat.mul_le_mul_of_nonneg_left (show N + 9 / 8 * u + 4 / 10 ≤ N - (r + 7 / 10) by grind) (show 0 ≤ 1 + d / N by grind)
      have e5 : (1 + d / N) * (N + 9 / 8 * u + 4 / 10) = N + d + 9 / 8 * u + 4 / 10 + d / N * (9 / 8 * u + 4 / 10) := by grind
      rw [e5] at k4
      have m := mul_pm (c := d / N) (a := 1 / 16) (x := 9 / 8 * u + 4 / 10) (B := 9 / 8 * u + 4 / 10) (by grind) a2 a1 (by grind) Rat.le_refl
      grind

end Mine

namespace Mine
open PySem.Builtin.Int (intBits)
open Ex

theorem eS_all {x Ms T c : Int} (x1 : -c ≤ x) (x2 : x ≤ c) (hx : c ≤ Ms) (hMs : 0 < Ms) (hT : 1 ≤ T) (j : Nat) (hj : (j : Int) < T) : -(2 * c) ≤ eS x Ms T j ∧ eS x Ms T j ≤ 2 * c := by
  rcases j with _ | j
  · have := eS_le (T := T) x1 x2 hx hMs hT 0 (.inr rfl)
    omega
  · obtain ⟨e1, e2⟩ := eS_le (T := T) x1 x2 hx hMs hT j (by omega)
    rw [eS_succ]
    generalize eS x Ms T j = y at *
    have hi : 1 ≤ T - 1 - (j : Int) := by omega
    generalize T - 1 - (j : Int) = i at *
    have hc : 0 ≤ c := by omega
    obtain ⟨m1, m2⟩ := mul_abs x1 x2 e1 e2
    have p1 := Int.mul_le_mul_of_nonneg_right x1 (Int.le_of_lt hMs)
    have p2 := Int.mul_le_mul_of_nonneg_right x2 (Int.le_of_lt hMs)
    have p3 := Int.mul_le_mul_of_nonneg_left hx hc
    have p4 := Int.mul_le_mul_of_nonneg_left hi (Int.mul_nonneg hc (Int.le_of_lt hMs))
    exact divN_abs (Int.mul_pos hMs (by omega)) (by grind) (by grind)

theorem x_le {x M L : Int} (h : (x.natAbs : Int) * 2 ^ L.toNat * 4 ≤ 3 * M) (hL : 3 ≤ L) : 32 * (x.natAbs : Int) ≤ 3 * M := by
  have h8 : (8 : Int) ≤ 2 ^ L.toNat := by
    have : (2 : Nat) ^ 3 ≤ 2 ^ L.toNat := Nat.pow_le_pow_right (by decide) (by omega)
    have e : ((2 ^ L.toNat : Nat) : Int) = 2 ^ L.toNat := Int.natCast_pow 2 _
    omega
  have := Int.mul_le_mul_of_nonneg_left h8 (show 0 ≤ (x.natAbs : Int) by omega)
  omega

theorem iexp_pre {x M L : Int} (hM : 0 < M) (hMb : intBits M ≤ 200) (hL : 3 ≤ L) (h : (x.natAbs : Int) * 2 ^ L.toNat * 4 ≤ 3 * M) :
    intBits x ≤ 2000 ∧ rOf M x L ≤ 1000 ∧ (∀ j : Nat, (j : Int) < tOf M L → intBits (eS x (M * 2 ^ rOf M x L) (tOf M L) j) ≤ 3000) ∧
      (∀ j : Nat, j ≤ rOf M x L → intBits (dS M (rOf M x L) (iexpY M x L) j) ≤ 3000) := by
  have hx := x_le h hL
  have hT := tOf_pos (M := M) (L := L) (by omega) (by omega)
  have hb8 : intBits (16 * M) ≤ 264 := intBits_mul_le (m := 64) (PySem.intBits_le_64 (by decide) (by decide)) hMb
  have hr : rOf M x L ≤ 1 := by
    rcases Int.lt_or_le x 0 with h0 | h0
    · rw [rOf_one hM h0 (by
        have e : (x.natAbs : Int) = -x := by omega
        rw [e] at h
        have : -x * 2 ^ L.toNat = -(x * 2 ^ L.toNat) := Int.neg_mul _ _
        rw [this] at h
        omega)]
      exact Nat.le_refl 1
    · rw [rOf_zero h0 (by
        have e : (x.natAbs : Int) = x := by omega
        rw [e] at h
        omega)]
      exact Nat.zero_le 1
  have hp := Int.mul_le_mul_of_nonneg_left (two_pow_ge1 (rOf M x L)) (show 0 ≤ M by omega)
  have hY : ∀ j : Nat, (j : Int) < tOf M L → -(2 * M) ≤ eS x (M * 2 ^ rOf M x L) (tOf M L) j ∧ eS x (M * 2 ^ rOf M x L) (tOf M L) j ≤ 2 * M := fun j hj => by
    have := eS_all (x := x) (Ms := M * 2 ^ rOf M x L) (T := tOf M L) (c := M) (by omega) (by omega) (by omega) (by omega) (by omega) j hj
    omega
  refine ⟨bits_mono (bits_abs (b := 16 * M) (by omega) (by omega) hb8), by omega, fun j hj => ?_, fun j hj => ?_⟩
  · have := hY j hj
    exact bits_mono (bits_abs (b := 16 * M) (by omega) (by omega) hb8)
  · have y := hY (tOf M L - 1).toNat (by omega)
    have eY : iexpY M x L = eS x (M * 2 ^ rOf M x L) (tOf M L) (tOf M L - 1).toNat := rfl
    rw [← eY] at y
    generalize iexpY M x L = Y at *
    rcases j with _ | j
    · exact bits_mono (bits_abs (b := 16 * M) (by show _ ≤ Y; omega) (by show Y ≤ _; omega) hb8)
    · have j0 : j = 0 := by omega
      subst j0
      have r1 : rOf M x L = 1 := by omega
      rw [r1, dS_succ]
      show intBits (divN (Y * (Y + M * 2 ^ (1 - 1 - 0 + 2))) (M * 2 ^ (1 - 1 - 0 + 2))) ≤ 3000
      have e4 : M * 2 ^ (1 - 1 - 0 + 2) = M * 4 := rfl
      rw [e4]
      obtain ⟨m1, m2⟩ := mul_abs y.1 y.2 (show -(6 * M) ≤ Y + M * 4 by omega) (show Y + M * 4 ≤ 6 * M by omega)
      obtain ⟨q1, q2⟩ := divN_abs (a := Y * (Y + M * 4)) (b := M * 4) (c := 3 * M) (by omega) (by grind) (by grind)
      exact bits_mono (bits_abs (b := 16 * M) (by omega) (by omega) hb8)

theorem ilog_pre {y M L : Int} (hM : 16 ≤ M) (hMb : intBits M ≤ 200) (hL : 3 ≤ L) (h : (y.natAbs : Int) * 2 ^ L.toNat * 4 ≤ 3 * M) :
    (∀ R < 0, Halves M L (yH M (M + y) R) R ∧ 0 < M + divN (yH M (M + y) R) (2 ^ R)) ∧ ¬ Halves M L (yH M (M + y) 0) 0 ∧ (∀ R ≤ 0, intBits (yH M (M + y) R) ≤ 3000) ∧
      (∀ j : Nat, (j : Int) < tOf M L → intBits (wS M (divN (yH M (M + y) 0) (2 ^ 0)) (tOf M L) j) ≤ 3000) := by
  have hy := x_le h hL
  have hT := tOf_pos (M := M) (L := L) (by omega) (by omega)
  have hb8 : intBits (16 * M) ≤ 264 := intBits_mul_le (m := 64) (PySem.intBits_le_64 (by decide) (by decide)) hMb
  have e0 : yH M (M + y) 0 = y := by show M + y - M = y; omega
  have e1 : divN y (2 ^ 0) = y := divN_one
  refine ⟨fun R hR => absurd hR (Nat.not_lt_zero R), ?_, fun R hR => ?_, fun j hj => ?_⟩
  · rw [e0]
    unfold Halves
    rw [Int.pow_zero, Int.mul_one]
    omega
  · have : R = 0 := by omega
    subst this
    rw [e0]
    exact bits_mono (bits_abs (b := 16 * M) (by omega) (by omega) hb8)
  · rw [e0, e1]
    have := wS_all (M := M) (ys := y) (T := tOf M L) (K := (y.natAbs : Int)) (by omega) (by omega) (by omega) (by omega) (by omega) j hj
    exact bits_mono (bits_abs (b := 16 * M) (by omega) (by omega) hb8)

/-- what is asked of the scale, the counts and the distance -/
structure Asked (M b d L₁ L₂ : Int) : Prop where
  m : 1000 * 2 ^ (b.toNat + 1) ≤ M
  d : (d.natAbs : Int) * 2 ^ (b.toNat + 1) ≤ M
  l1 : 3 ≤ L₁
  l1b : L₁ ≤ b
  l2 : 3 ≤ L₂
  l2b : L₂ ≤ b
  mb : intBits M ≤ 200

theorem pow_le_int {m n : Nat} (h : m ≤ n) : (2 : Int) ^ m ≤ 2 ^ n := by
  have h1 : (2 : Nat) ^ m ≤ 2 ^ n := Nat.pow_le_pow_right (by decide) h
  have e1 : ((2 ^ m : Nat) : Int) = 2 ^ m := Int.natCast_pow 2 _
  have e2 : ((2 ^ n : Nat) : Int) = 2 ^ n := Int.natCast_pow 2 _
  omega
/-- a number little more than the distance is small too -/
theorem small_of {M b d L x : Int} (hm : 1000 * 2 ^ (b.toNat + 1) ≤ M) (hd : (d.natAbs : Int) * 2 ^ (b.toNat + 1) ≤ M) (hL : 0 ≤ L) (hLb : L ≤ b) (hx : 8 * (x.natAbs : Int) ≤ 9 * (d.natAbs : Int) + 9) :
    (x.natAbs : Int) * 2 ^ L.toNat * 4 ≤ 3 * M := by
  have e : (2 : Int) ^ (b.toNat + 1) = 2 * 2 ^ b.toNat := by rw [Int.pow_succ]; omega
  rw [e] at hm hd
  have h1 := pow_le_int (show L.toNat ≤ b.toNat by omega)
  have h2 := two_pow_pos L.toNat
  have h3 := Int.mul_le_mul_of_nonneg_left h1 (show 0 ≤ (x.natAbs : Int) by omega)
  have h4 := Int.mul_le_mul_of_nonneg_right hx (show 0 ≤ (2 : Int) ^ b.toNat by omega)
  generalize (2 : Int) ^ b.toNat = p at *
  generalize (2 : Int) ^ L.toNat = q at *
  generalize (x.natAbs : Int) = X at *
  generalize (d.natAbs : Int) = D at *
  grind

theorem Asked.small {M b d L₁ L₂ : Int} (A : Asked M b d L₁ L₂) : (d.natAbs : Int) * 2 ^ L₁.toNat * 4 ≤ 3 * M ∧ (d.natAbs : Int) * 2 ^ L₂.toNat * 4 ≤ 3 * M := by
  have a := A.m; have b' := A.d; have c := A.l1; have d' := A.l1b; have e := A.l2; have f := A.l2b
  exact ⟨small_of A.m A.d (by omega) A.l1b (by omega), small_of A.m A.d (by omega) A.l2b (by omega)⟩
theorem Asked.big {M b d L₁ L₂ : Int} (A : Asked M b d L₁ L₂) : 16000 ≤ M ∧ 16 * (d.natAbs : Int) ≤ M := by
  have a := A.m; have d' := A.d; have c := A.l1; have e := A.l1b
  have h := pow_le_int (show 4 ≤ b.toNat + 1 by omega)
  have h4 : (2 : Int) ^ 4 = 16 := by decide
  rw [h4] at h
  have h2 := Int.mul_le_mul_of_nonneg_left h (show 0 ≤ (d.natAbs : Int) by omega)
  constructor
  · omega
  · omega
theorem Asked.rat {M b d L₁ L₂ : Int} (A : Asked M b d L₁ L₂) : (16000 : Rat) ≤ (M : Rat) ∧ ((d.natAbs : Int) : Rat) ≤ 1 / 16 * (M : Rat) ∧ -((d.natAbs : Int) : Rat) ≤ (d : Rat) ∧ (d : Rat) ≤ ((d.natAbs : Int) : Rat) ∧ (0 : Rat) ≤ ((d.natAbs : Int) : Rat) := by
  obtain ⟨h1, h2⟩ := A.big
  have k1 : (16000 : Rat) ≤ (M : Rat) := by exact_mod_cast h1
  have k2 : (16 : Rat) * ((d.natAbs : Int) : Rat) ≤ (M : Rat) := by
    have := castle h2
    rwa [rat_mul_cast] at this
  have k3 := castle (show d ≤ (d.natAbs : Int) by omega)
  have k4 := castle (show -(d.natAbs : Int) ≤ d by omega)
  have e4 : ((-(d.natAbs : Int) : Int) : Rat) = -((d.natAbs : Int) : Rat) := Rat.intCast_neg _
  rw [e4] at k4
  refine ⟨k1, by grind, k4, k3, castnn (by omega)⟩

/-- an int within 9/8 u + 11/10 -/
theorem int_far {x u : Int} (hu : 0 ≤ u) (h1 : (x : Rat) ≤ 9 / 8 * (u : Rat) + 11 / 10) (h2 : -(9 / 8 * (u : Rat)) - 11 / 10 ≤ (x : Rat)) : 8 * (x.natAbs : Int) ≤ 9 * u + 9 := by
  have k1 : ((80 * x : Int) : Rat) ≤ ((90 * u + 88 : Int) : Rat) := by
    have e1 : ((80 * x : Int) : Rat) = 80 * (x : Rat) := by push_cast; rfl
    have e2 : ((90 * u + 88 : Int) : Rat) = 90 * (u : Rat) + 88 := by push_cast; rfl
    rw [e1, e2]; grind
  have k2 : ((-(90 * u + 88) : Int) : Rat) ≤ ((80 * x : Int) : Rat) := by
    have e1 : ((80 * x : Int) : Rat) = 80 * (x : Rat) := by push_cast; rfl
    have e2 : ((-(90 * u + 88) : Int) : Rat) = -(90 * (u : Rat) + 88) := by push_cast; rfl
    rw [e1, e2]; grind
  have j1 := Rat.intCast_le_intCast.mp k1
  have j2 := Rat.intCast_le_intCast.mp k2
  omega

theorem law03_a {M b d L₁ L₂ : Int} (A : Asked M b d L₁ L₂) :
    ((iexpF M d L₁ - M).natAbs : Int) * 2 ^ L₂.toNat * 4 ≤ 3 * M ∧ -1 ≤ ilogF M (M + (iexpF M d L₁ - M)) L₂ 0 - d ∧ ilogF M (M + (iexpF M d L₁ - M)) L₂ 0 - d ≤ 1 := by
  obtain ⟨s1, s2⟩ := A.small
  obtain ⟨B1, B2⟩ := A.big
  obtain ⟨r1, r2, r3, r4, r5⟩ := A.rat
  obtain ⟨e1, e2⟩ := iexp03 B1 A.l1 s1
  have hN0 := castpos (show 0 < M by omega)
  generalize iexpF M d L₁ = t at *
  obtain ⟨f1, f2⟩ := iexp_far r1 r5 r2 r3 r4 e2 e1
  have ey : ((t - M : Int) : Rat) = (t : Rat) - (M : Rat) := Rat.intCast_sub _ _
  have hy : ((t - M).natAbs : Int) * 2 ^ L₂.toNat * 4 ≤ 3 * M :=
    small_of A.m A.d (by have := A.l2; omega) A.l2b (int_far (by omega) (by rw [ey]; exact f1) (by rw [ey]; exact f2))
  obtain ⟨l1, l2⟩ := ilog03 B1 A.l2 hy
  have e1z : 1 + ((t - M : Int) : Rat) / (M : Rat) = (t : Rat) / (M : Rat) := by
    rw [ey]
    generalize (M : Rat) = N at *
    grind
  rw [e1z] at l1 l2
  generalize ilogF M (M + (t - M)) L₂ 0 = r at *
  refine ⟨hy, ?_, ?_⟩
  · rcases Int.lt_or_le (r - d) (-1) with h | h
    · exfalso
      have k := castle (show r + 2 ≤ d by omega)
      have e : ((r + 2 : Int) : Rat) = (r : Rat) + 2 := by push_cast; rfl
      rw [e] at k
      exact core_a2 r1 (by grind) e1 l2 k
    · exact h
  · rcases Int.lt_or_le 1 (r - d) with h | h
    · exfalso
      have k := castle (show d + 2 ≤ r by omega)
      have e : ((d + 2 : Int) : Rat) = (d : Rat) + 2 := by push_cast; rfl
      rw [e] at k
      exact core_a1 r1 (by grind) e2 e1 l1 k
    · exact h

theorem law03_b {M b d L₁ L₂ : Int} (A : Asked M b d L₁ L₂) :
    ((ilogF M (M + d) L₂ 0).natAbs : Int) * 2 ^ L₁.toNat * 4 ≤ 3 * M ∧ -1 ≤ iexpF M (ilogF M (M + d) L₂ 0) L₁ - M - d ∧ iexpF M (ilogF M (M + d) L₂ 0) L₁ - M - d ≤ 1 := by
  obtain ⟨s1, s2⟩ := A.small
  obtain ⟨B1, B2⟩ := A.big
  obtain ⟨r1, r2, r3, r4, r5⟩ := A.rat
  obtain ⟨l1, l2⟩ := ilog03 B1 A.l2 s2
  have hN0 := castpos (show 0 < M by omega)
  generalize ilogF M (M + d) L₂ 0 = r at *
  have hr : (r : Rat) ≤ 1 / 2 * (M : Rat) := by
    have k := (EG.one_add (((r : Rat) - 7 / 10) / (M : Rat))).le l1
    have k2 : ((r : Rat) - 7 / 10) / (M : Rat) ≤ (d : Rat) / (M : Rat) := by grind
    have k3 := div_le_mul hN0 k2
    have e : (d : Rat) / (M : Rat) * (M : Rat) = (d : Rat) := Rat.div_mul_cancel (by grind)
    rw [e] at k3
    grind
  obtain ⟨f1, f2⟩ := ilog_far r1 r5 r2 r3 r4 hr l1 l2
  have hy : (r.natAbs : Int) * 2 ^ L₁.toNat * 4 ≤ 3 * M := small_of A.m A.d (by have := A.l1; omega) A.l1b (int_far (by omega) f1 f2)
  obtain ⟨e1, e2⟩ := iexp03 B1 A.l1 hy
  generalize iexpF M r L₁ = t at *
  refine ⟨hy, ?_, ?_⟩
  · rcases Int.lt_or_le (t - M - d) (-1) with h | h
    · exfalso
      have k := castle (show t + 2 ≤ M + d by omega)
      have e : ((t + 2 : Int) : Rat) = (t : Rat) + 2 := by push_cast; rfl
      have e' : ((M + d : Int) : Rat) = (M : Rat) + (d : Rat) := by push_cast; rfl
      rw [e, e'] at k
      exact core_b2 r1 (by grind) (by grind) e1 l2 k
    · exact h
  · rcases Int.lt_or_le 1 (t - M - d) with h | h
    · exfalso
      have k := castle (show M + d + 2 ≤ t by omega)
      have e : ((M + d + 2 : Int) : Rat) = (M : Rat) + (d : Rat) + 2 := by push_cast; rfl
      rw [e] at k
      exact core_b1 r1 (by grind) (by grind) e2 l1 k
    · exact h

end Mine

namespace Mine
open PySem.Builtin.Int (intBits)

/-- what the contract of _iexp asks -/
structure PreE (M x L : Int) : Prop where
  b : intBits x ≤ 2000
  r : rOf M x L ≤ 1000
  e : ∀ j : Nat, (j : Int) < tOf M L → intBits (eS x (M * 2 ^ rOf M x L) (tOf M L) j) ≤ 3000
  d : ∀ j : Nat, j ≤ rOf M x L → intBits (dS M (rOf M x L) (iexpY M x L) j) ≤ 3000
/-- what the contract of _ilog asks -/
structure PreL (M x L : Int) (R₁ : Nat) : Prop where
  go : ∀ R < R₁, Halves M L (yH M x R) R ∧ 0 < M + divN (yH M x R) (2 ^ R)
  stop : ¬ Halves M L (yH M x R₁) R₁
  y : ∀ R ≤ R₁, intBits (yH M x R) ≤ 3000
  w : ∀ j : Nat, (j : Int) < tOf M L → intBits (wS M (divN (yH M x R₁) (2 ^ R₁)) (tOf M L) j) ≤ 3000

theorem law03_A {M b d L₁ L₂ : Int} (A : Asked M b d L₁ L₂) : ∃ t r, PreE M d L₁ ∧ iexpF M d L₁ = t ∧ PreL M t L₂ 0 ∧ ilogF M t L₂ 0 = r ∧ -1 ≤ r - d ∧ r - d ≤ 1 := by
  obtain ⟨s1, s2⟩ := A.small
  obtain ⟨B1, B2⟩ := A.big
  obtain ⟨h1, h2, h3⟩ := law03_a A
  obtain ⟨p1, p2, p3, p4⟩ := iexp_pre (by omega) A.mb A.l1 s1
  obtain ⟨q1, q2, q3, q4⟩ := ilog_pre (by omega) A.mb A.l2 h1
  have e : M + (iexpF M d L₁ - M) = iexpF M d L₁ := by omega
  rw [e] at h2 h3 q1 q2 q3 q4
  exact ⟨_, _, ⟨p1, p2, p3, p4⟩, rfl, ⟨q1, q2, q3, q4⟩, rfl, h2, h3⟩
theorem law03_B {M b d L₁ L₂ : Int} (A : Asked M b d L₁ L₂) : ∃ r t, PreL M (M + d) L₂ 0 ∧ ilogF M (M + d) L₂ 0 = r ∧ PreE M r L₁ ∧ iexpF M r L₁ = t ∧ -1 ≤ t - M - d ∧ t - M - d ≤ 1 := by
  obtain ⟨s1, s2⟩ := A.small
  obtain ⟨B1, B2⟩ := A.big
  obtain ⟨h1, h2, h3⟩ := law03_b A
  obtain ⟨q1, q2, q3, q4⟩ := ilog_pre (by omega) A.mb A.l2 s2
  obtain ⟨p1, p2, p3, p4⟩ := iexp_pre (by omega) A.mb A.l1 h1
  exact ⟨_, _, ⟨q1, q2, q3, q4⟩, rfl, ⟨p1, p2, p3, p4⟩, rfl, h2, h3⟩

theorem part_of {L₁ L₂ part : Int} (h : 2 ^ ((if L₂ > L₁ then L₂ else L₁) + 1).toNat = part) (h1 : 3 ≤ L₁) (h1b : L₁ ≤ 40) (h2 : 3 ≤ L₂) (h2b : L₂ ≤ 40) :
    ∃ b, L₁ ≤ b ∧ L₂ ≤ b ∧ b ≤ 40 ∧ 2 ^ (b.toNat + 1) = part ∧ 0 < part ∧ part ≤ 2199023255552 := by
  refine ⟨if L₂ > L₁ then L₂ else L₁, by split <;> omega, by split <;> omega, by split <;> omega, ?_, ?_, ?_⟩
  · rw [← h]
    congr 1
    split <;> omega
  · rw [← h]; exact two_pow_pos _
  · rw [← h]
    have := pow_le_int (m := ((if L₂ > L₁ then L₂ else L₁) + 1).toNat) (n := 41) (by split <;> omega)
    have e : (2 : Int) ^ 41 = 2199023255552 := by decide
    omega
theorem ten24 : (10 : Int) ^ Int.toNat 24 = 1000000000000000000000000 := by decide
theorem room_of {r room : Int} (h0 : 0 ≤ r) (h1 : r < 10 ^ Int.toNat 24) (h : r + 1000 = room) : 1000 ≤ room ∧ room ≤ 2 ^ 81 := by
  rw [ten24] at h1
  have e : (2 : Int) ^ 81 = 2417851639229258349412352 := by decide
  omega
theorem M_of {room part r M : Int} (hr : 1000 ≤ room) (hr2 : room ≤ 2 ^ 81) (hp : 0 < part) (hp2 : part ≤ 2199023255552) (h0 : 0 ≤ r) (h1 : r < part) (h : room * part + r = M) :
    room * part ≤ M ∧ 1000 * part ≤ M ∧ intBits M ≤ 200 ∧ 0 < M := by
  have k1 := Int.mul_le_mul_of_nonneg_right hr (Int.le_of_lt hp)
  have k2 := Int.mul_le_mul hr2 hp2 (by omega) (by decide)
  have e1 : (2 : Int) ^ 81 * 2199023255552 = 5316911983139663491615228241121378304 := by decide
  refine ⟨by omega, by omega, ?_, by omega⟩
  refine bits_lt ?_ ?_
  · have : (0 : Int) < 2 ^ 200 := two_pow_pos _
    omega
  · have k3 := pow_le_int (show 130 ≤ 200 by decide)
    have e2 : (2 : Int) ^ 130 = 1361129467683753853853498429727072845824 := by decide
    omega
theorem asked_of {M room part b d L₁ L₂ : Int} (hm : room * part ≤ M) (hm2 : 1000 * part ≤ M) (hp : 0 < part) (e : 2 ^ (b.toNat + 1) = part) (h1 : 3 ≤ L₁) (h1b : L₁ ≤ b) (h2 : 3 ≤ L₂) (h2b : L₂ ≤ b) (mb : intBits M ≤ 200) (d1 : -room ≤ d) (d2 : d ≤ room) : Asked M b d L₁ L₂ where
  m := by rw [e]; exact hm2
  d := by
    rw [e]
    have := Int.mul_le_mul_of_nonneg_right (show (d.natAbs : Int) ≤ room by omega) (Int.le_of_lt hp)
    omega
  l1 := h1
  l1b := h1b
  l2 := h2
  l2b := h2b
  mb := mb

end Mine

namespace Mine
open PySem.Builtin.Int (intBits)
open Ex

theorem P_int (n : Nat) : ((2 ^ n : Int) : Rat) = P n := by rw [two_pow_rat]; rfl

/-- one doubling, in rationals: s the scale ahead -/
theorem dbl_up {Y w s Y' : Rat} (hs : 0 < s) (h1 : Y * (Y + 2 * s) / (2 * s) - 1 / 2 ≤ Y') :
    (1 + (Y + w) / s) * (1 + (Y + w) / s) ≤ 1 + (Y' + (1 / 2 + w * (1 + Y / s) + w * w / (2 * s))) / (s / 2) := by
  have e : Y * (Y + 2 * s) / (2 * s) = Y + Y * Y / (2 * s) := by grind
  rw [e] at h1
  have k : ((1 + (Y + w) / s) * (1 + (Y + w) / s) - 1) ≤ (Y' + (1 / 2 + w * (1 + Y / s) + w * w / (2 * s))) / (s / 2) := by
    refine le_div (by grind) ?_
    have e2 : ((1 + (Y + w) / s) * (1 + (Y + w) / s) - 1) * (s / 2) = Y + Y * Y / (2 * s) + w * (1 + Y / s) + w * w / (2 * s) := by grind
    rw [e2]
    grind
  grind
theorem dbl_dn {Y w s Y' : Rat} (hs : 0 < s) (h1 : Y' ≤ Y * (Y + 2 * s) / (2 * s) + 1 / 2) :
    1 + (Y' - (1 / 2 + w * (1 + Y / s) + w * w / (2 * s))) / (s / 2) ≤ (1 + (Y - w) / s) * (1 + (Y - w) / s) := by
  have e : Y * (Y + 2 * s) / (2 * s) = Y + Y * Y / (2 * s) := by grind
  rw [e] at h1
  have k : (Y' - (1 / 2 + w * (1 + Y / s) + w * w / (2 * s))) / (s / 2) ≤ ((1 + (Y - w) / s) * (1 + (Y - w) / s) - 1) := by
    refine div_le (by grind) ?_
    have e2 : ((1 + (Y - w) / s) * (1 + (Y - w) / s) - 1) * (s / 2) = Y + Y * Y / (2 * s) - w * (1 + Y / s) + w * w / (2 * s) := by grind
    rw [e2]
    have : 0 ≤ w * w / (2 * s) := div_nn (sq_nonneg w) (by grind)
    grind
  grind

/-- the scale behind j of R doublings -/
def sc (M : Int) (R j : Nat) : Rat := (M : Rat) * P (R - j)
theorem sc_pos {M : Int} (hM : 0 < M) (R j : Nat) : 0 < sc M R j := Rat.mul_pos (castpos hM) (P_pos _)
theorem sc_succ {M : Int} {R j : Nat} (h : j < R) : sc M R (j + 1) = sc M R j / 2 := by
  unfold sc
  have e : R - j = (R - (j + 1)) + 1 := by omega
  rw [e, P_succ]
  grind
theorem sc_last {M : Int} {R : Nat} : sc M R R = (M : Rat) := by
  unfold sc
  rw [Nat.sub_self, P_zero]
  grind
theorem sc_ge {M : Int} (hM : 0 < M) {R j : Nat} : (M : Rat) ≤ sc M R j := by
  unfold sc
  have h := Rat.mul_le_mul_of_nonneg_left (P_ge1 (R - j)) (Rat.le_of_lt (castpos hM))
  grind

theorem half_half (x s : Rat) (hs : 0 < s) : x / (s / 2) = x / s + x / s := by grind

theorem dS_rat {M Y : Int} {R j : Nat} (hM : 0 < M) (hj : j < R) :
    (dS M R Y j : Rat) * ((dS M R Y j : Rat) + 2 * sc M R j) / (2 * sc M R j) - 1 / 2 ≤ (dS M R Y (j + 1) : Rat) ∧
    (dS M R Y (j + 1) : Rat) ≤ (dS M R Y j : Rat) * ((dS M R Y j : Rat) + 2 * sc M R j) / (2 * sc M R j) + 1 / 2 := by
  rw [dS_succ]
  generalize dS M R Y j = y
  have hp : 0 < M * 2 ^ (R - 1 - j + 2) := shl_pos hM _
  have d := divN_rat (a := y * (y + M * 2 ^ (R - 1 - j + 2))) (b := M * 2 ^ (R - 1 - j + 2)) hp
  have e : ((M * 2 ^ (R - 1 - j + 2) : Int) : Rat) = 2 * sc M R j := by
    rw [rat_mul_cast, P_int]
    unfold sc
    have e1 : R - 1 - j + 2 = (R - j) + 1 := by omega
    rw [e1, P_succ]
    grind
  rw [cast_mul3, e] at d
  exact d

theorem dbl_run {M x Y : Int} {R : Nat} {w : Nat → Rat} (hM : 0 < M)
    (h0 : EL ((x : Rat) / sc M R 0) (1 + ((Y : Rat) + w 0) / sc M R 0) ∧ EG ((x : Rat) / sc M R 0) (1 + ((Y : Rat) - w 0) / sc M R 0))
    (hw : ∀ j < R, EL ((x : Rat) / sc M R j) (1 + ((dS M R Y j : Rat) + w j) / sc M R j) → EG ((x : Rat) / sc M R j) (1 + ((dS M R Y j : Rat) - w j) / sc M R j) →
      1 / 2 + w j * (1 + (dS M R Y j : Rat) / sc M R j) + w j * w j / (2 * sc M R j) ≤ w (j + 1) ∧ 0 < 1 + ((dS M R Y j : Rat) - w j) / sc M R j) :
    ∀ j ≤ R, EL ((x : Rat) / sc M R j) (1 + ((dS M R Y j : Rat) + w j) / sc M R j) ∧ EG ((x : Rat) / sc M R j) (1 + ((dS M R Y j : Rat) - w j) / sc M R j)
  | 0, _ => h0
  | j + 1, hj => by
    obtain ⟨a, b⟩ := dbl_run hM h0 hw j (by omega)
    obtain ⟨c1, c2⟩ := hw j (by omega) a b
    obtain ⟨d1, d2⟩ := dS_rat (Y := Y) hM (show j < R by omega)
    have hs := sc_pos hM R j
    have hs2 := sc_pos hM R (j + 1)
    rw [sc_succ (show j < R by omega)] at *
    generalize dS M R Y (j + 1) = Y2 at *
    generalize dS M R Y j = Y1 at *
    generalize sc M R j = s at *
    clear hw h0
    have hq := half_half (x : Rat) s hs
    rw [hq]
    generalize w (j + 1) = w2 at *
    generalize w j = w1 at *
    constructor
    · refine (EL.add a a).mono (Rat.le_trans (dbl_up hs d1) ?_)
      have := div_mono hs2 (show (Y2 : Rat) + (1 / 2 + w1 * (1 + (Y1 : Rat) / s) + w1 * w1 / (2 * s)) ≤ (Y2 : Rat) + w2 by grind)
      grind
    · refine (EG.add b b c2).mono (Rat.le_trans ?_ (dbl_dn hs d2))
      have := div_mono hs2 (show (Y2 : Rat) - w2 ≤ (Y2 : Rat) - (1 / 2 + w1 * (1 + (Y1 : Rat) / s) + w1 * w1 / (2 * s)) by grind)
      grind

theorem natAbs_bits {n : Int} : (n.natAbs : Int) < 2 ^ intBits n := by
  have h := intBits_le_iff.mp (Nat.le_refl (intBits n))
  have e : ((2 ^ intBits n : Nat) : Int) = 2 ^ intBits n := Int.natCast_pow 2 _
  omega
/-- what the doublings leave of x is below 2 ^ - L -/
theorem rOf_spec {M x L : Int} (hM : 0 < M) : (x.natAbs : Int) * 2 ^ L.toNat < M * 2 ^ rOf M x L := by
  have h := natAbs_bits (n := (x * 2 ^ L.toNat) / M)
  have h1 := Int.mul_ediv_add_emod (x * 2 ^ L.toNat) M
  have h2 := Int.emod_nonneg (x * 2 ^ L.toNat) (by omega : M ≠ 0)
  have h3 := Int.emod_lt_of_pos (x * 2 ^ L.toNat) hM
  have hp := two_pow_pos L.toNat
  unfold rOf
  generalize intBits ((x * 2 ^ L.toNat) / M) = r at *
  generalize (x * 2 ^ L.toNat) % M = m at *
  rcases Int.le_total 0 x with hx | hx
  · have e : (x.natAbs : Int) = x := by omega
    rw [e]
    have hxp := Int.mul_nonneg hx (Int.le_of_lt hp)
    have hq : 0 ≤ (x * 2 ^ L.toNat) / M := Int.ediv_nonneg hxp (by omega)
    generalize (x * 2 ^ L.toNat) / M = q at *
    have := Int.mul_le_mul_of_nonneg_left (show q + 1 ≤ 2 ^ r by omega) (Int.le_of_lt hM)
    grind
  · have e : (x.natAbs : Int) = -x := by omega
    rw [e]
    have hxp := Int.mul_nonneg (show 0 ≤ -x by omega) (Int.le_of_lt hp)
    have e2 : -x * 2 ^ L.toNat = -(x * 2 ^ L.toNat) := Int.neg_mul _ _
    rw [e2] at *
    generalize (x * 2 ^ L.toNat) / M = q at *
    generalize x * 2 ^ L.toNat = X at *
    have h5 : -q < 2 ^ r := by omega
    have := Int.mul_lt_mul_of_pos_left h5 hM
    grind

/-- the series, ahead of the doublings: w0 at least what it errs by -/
theorem iexp_start {M x L : Int} {c w0 : Rat} {a : Rat} (hM : 0 < M) (hL : 3 ≤ L) (a0 : 0 ≤ a) (az : (x : Rat) / sc M (rOf M x L) 0 = a ∨ (x : Rat) / sc M (rOf M x L) 0 = -a) (ha4 : a ≤ 1 / 4)
    (hc : 0 ≤ c) (hcc : 1 / 2 + a * c ≤ c) (hw : c + sc M (rOf M x L) 0 * (5 / 4 * mz ((tOf M L).toNat + 1) a) ≤ w0) :
    EL ((x : Rat) / sc M (rOf M x L) 0) (1 + ((iexpY M x L : Rat) + w0) / sc M (rOf M x L) 0) ∧ EG ((x : Rat) / sc M (rOf M x L) 0) (1 + ((iexpY M x L : Rat) - w0) / sc M (rOf M x L) 0) := by
  have hT := tOf_pos (M := M) (L := L) (by omega) (by omega)
  have hMs : 0 < M * 2 ^ rOf M x L := shl_pos hM _
  have es : ((M * 2 ^ rOf M x L : Int) : Rat) = sc M (rOf M x L) 0 := by
    rw [rat_mul_cast, P_int]; rfl
  have hs := sc_pos hM (rOf M x L) 0
  have key := iexp_base (x := x) (Ms := M * 2 ^ rOf M x L) (T := (tOf M L).toNat) (c := c) (z := (x : Rat) / sc M (rOf M x L) 0) hMs (by omega) (by rw [es]) a0 ha4 az hc hcc
  rw [es] at key
  have eY : iexpY M x L = eS x (M * 2 ^ rOf M x L) (((tOf M L).toNat : Nat) : Int) ((tOf M L).toNat - 1) := by
    unfold iexpY
    have e1 : (((tOf M L).toNat : Nat) : Int) = tOf M L := by omega
    have e2 : (tOf M L - 1).toNat = (tOf M L).toNat - 1 := by omega
    rw [e1, e2]
  rw [eY]
  obtain ⟨k1, k2⟩ := key
  generalize (eS x (M * 2 ^ rOf M x L) (((tOf M L).toNat : Nat) : Int) ((tOf M L).toNat - 1) : Rat) = E at *
  generalize sc M (rOf M x L) 0 * (5 / 4 * mz ((tOf M L).toNat + 1) a) = t at *
  generalize sc M (rOf M x L) 0 = s at *
  constructor
  · refine k1.mono ?_
    have := div_mono hs (show E + c + t ≤ E + w0 by grind)
    grind
  · refine k2.mono ?_
    have := div_mono hs (show E - w0 ≤ E - c - t by grind)
    grind

/-- x by the scale ahead of the doublings, without its sign -/
theorem abs_start {M x L : Int} (hM : 0 < M) : ∃ a : Rat, 0 ≤ a ∧ ((x : Rat) / sc M (rOf M x L) 0 = a ∨ (x : Rat) / sc M (rOf M x L) 0 = -a) ∧ a * sc M (rOf M x L) 0 = ((x.natAbs : Int) : Rat) ∧ a * (2 : Rat) ^ L.toNat ≤ 1 := by
  have hMs : 0 < M * 2 ^ rOf M x L := shl_pos hM _
  have es : ((M * 2 ^ rOf M x L : Int) : Rat) = sc M (rOf M x L) 0 := by
    rw [rat_mul_cast, P_int]; rfl
  obtain ⟨a, a0, az, am⟩ := absz (x := x) hMs
  have sp := rOf_spec (x := x) (L := L) hM
  have k := castle (Int.le_of_lt sp)
  rw [es] at az am k
  rw [rat_mul_cast, two_pow_rat, ← am] at k
  refine ⟨a, a0, az, am, ?_⟩
  have hs := sc_pos hM (rOf M x L) 0
  generalize sc M (rOf M x L) 0 = s at *
  generalize (2 : Rat) ^ L.toNat = p at *
  rcases Classical.em (a * p ≤ 1) with y | y
  · exact y
  · have := Rat.mul_lt_mul_of_pos_right (lt_of_not_le y) hs
    grind

end Mine

namespace Mine
open PySem.Builtin.Int (intBits)
open Ex

theorem iexpF_unit {M x L : Int} {w : Rat} (hM : 0 < M) : 1 + ((dS M (rOf M x L) (iexpY M x L) (rOf M x L) : Rat) + w) / (M : Rat) = ((iexpF M x L : Rat) + w) / (M : Rat) := by
  unfold iexpF
  have hM' := castpos hM
  have e : ((M + dS M (rOf M x L) (iexpY M x L) (rOf M x L) : Int) : Rat) = (M : Rat) + (dS M (rOf M x L) (iexpY M x L) (rOf M x L) : Rat) := by push_cast; rfl
  rw [e]
  generalize (dS M (rOf M x L) (iexpY M x L) (rOf M x L) : Rat) = y
  generalize (M : Rat) = N at *
  grind
theorem iexpF_unit' {M x L : Int} {w : Rat} (hM : 0 < M) : 1 + ((dS M (rOf M x L) (iexpY M x L) (rOf M x L) : Rat) - w) / (M : Rat) = ((iexpF M x L : Rat) - w) / (M : Rat) := by
  have h := iexpF_unit (x := x) (L := L) (w := -w) hM
  have e1 : ∀ y : Rat, y + -w = y - w := fun y => by grind
  rw [e1, e1] at h
  exact h

/-- what a doubling asks, by a bound of exp -/
theorem abs_step {Y w s b w2 q : Rat} (hs : 0 < s) (hw0 : 0 ≤ w) (hq : 0 ≤ q) (h1 : EL q (1 + (Y + w) / s)) (h2 : EG q (1 + (Y - w) / s)) (hb : EL q b) (hs2 : 2 * w < s)
    (hw : 1 / 2 + w * b + 3 / 2 * (w * w) / s ≤ w2) : 1 / 2 + w * (1 + Y / s) + w * w / (2 * s) ≤ w2 ∧ 0 < 1 + (Y - w) / s := by
  have k1 := h2.le hb
  have k2 := (EG.one_add q).le h1
  have e1 : (Y - w) / s = Y / s - w / s := by grind
  have e2 : (Y + w) / s = Y / s + w / s := by grind
  have e3 : 3 / 2 * (w * w) / s = w * (w / s) + w * w / (2 * s) := by grind
  have k5 : w / s < 1 / 2 := by
    rcases Classical.em (w / s < 1 / 2) with x | x
    · exact x
    · have := le_div_mul hs (Rat.not_lt.mp x)
      grind
  rw [e1] at k1 ⊢
  rw [e2] at k2
  rw [e3] at hw
  have k3 : 1 + Y / s ≤ b + w / s := by grind
  have k4 := Rat.mul_le_mul_of_nonneg_left k3 hw0
  constructor
  · grind
  · grind

/-- _iexp of what is not below nought, by a table of bounds -/
theorem iexp_abs_run {M x L : Int} {b W : Nat → Rat} (hM : 0 < M) (hx : 0 ≤ x)
    (h0 : EL ((x : Rat) / sc M (rOf M x L) 0) (1 + ((iexpY M x L : Rat) + W (rOf M x L)) / sc M (rOf M x L) 0) ∧ EG ((x : Rat) / sc M (rOf M x L) 0) (1 + ((iexpY M x L : Rat) - W (rOf M x L)) / sc M (rOf M x L) 0))
    (hb : ∀ i, 1 ≤ i → i ≤ rOf M x L → EL ((x : Rat) / ((M : Rat) * P i)) (b i)) (hWn : ∀ i, i ≤ rOf M x L → 0 ≤ W i) (hWs : ∀ i, 1 ≤ i → i ≤ rOf M x L → 2 * W i < (M : Rat) * P i)
    (hW : ∀ i, i < rOf M x L → 1 / 2 + W (i + 1) * b (i + 1) + 3 / 2 * (W (i + 1) * W (i + 1)) / ((M : Rat) * P (i + 1)) ≤ W i) :
    ∀ j ≤ rOf M x L, EL ((x : Rat) / sc M (rOf M x L) j) (1 + ((dS M (rOf M x L) (iexpY M x L) j : Rat) + W (rOf M x L - j)) / sc M (rOf M x L) j) ∧ EG ((x : Rat) / sc M (rOf M x L) j) (1 + ((dS M (rOf M x L) (iexpY M x L) j : Rat) - W (rOf M x L - j)) / sc M (rOf M x L) j) := by
  refine dbl_run (w := fun j => W (rOf M x L - j)) hM h0 ?_
  intro j hj e1 e2
  have hs := sc_pos hM (rOf M x L) j
  have hq : 0 ≤ (x : Rat) / sc M (rOf M x L) j := div_nn (castnn hx) hs
  obtain ⟨i, hi⟩ : ∃ i, rOf M x L - j = i + 1 := ⟨rOf M x L - j - 1, by omega⟩
  have es : sc M (rOf M x L) j = (M : Rat) * P (i + 1) := by unfold sc; rw [hi]
  have hi2 : rOf M x L - (j + 1) = i := by omega
  show 1 / 2 + W (rOf M x L - j) * _ + W (rOf M x L - j) * W (rOf M x L - j) / _ ≤ W (rOf M x L - (j + 1)) ∧ 0 < 1 + (_ - W (rOf M x L - j)) / _
  rw [hi2]
  have e1' : EL ((x : Rat) / sc M (rOf M x L) j) (1 + ((dS M (rOf M x L) (iexpY M x L) j : Rat) + W (rOf M x L - j)) / sc M (rOf M x L) j) := e1
  have e2' : EG ((x : Rat) / sc M (rOf M x L) j) (1 + ((dS M (rOf M x L) (iexpY M x L) j : Rat) - W (rOf M x L - j)) / sc M (rOf M x L) j) := e2
  rw [hi] at e1' e2' ⊢
  have hb' := hb (i + 1) (by omega) (by omega)
  have hs2 := hWs (i + 1) (by omega) (by omega)
  have hW' := hW i (by omega)
  have hn := hWn (i + 1) (by omega)
  rw [← es] at hb' hs2 hW'
  exact abs_step hs hn hq e1' e2' hb' hs2 hW'

theorem iexp_abs {M x L : Int} {b W : Nat → Rat} (hM : 0 < M) (hx : 0 ≤ x)
    (h0 : EL ((x : Rat) / sc M (rOf M x L) 0) (1 + ((iexpY M x L : Rat) + W (rOf M x L)) / sc M (rOf M x L) 0) ∧ EG ((x : Rat) / sc M (rOf M x L) 0) (1 + ((iexpY M x L : Rat) - W (rOf M x L)) / sc M (rOf M x L) 0))
    (hb : ∀ i, 1 ≤ i → i ≤ rOf M x L → EL ((x : Rat) / ((M : Rat) * P i)) (b i)) (hWn : ∀ i, i ≤ rOf M x L → 0 ≤ W i) (hWs : ∀ i, 1 ≤ i → i ≤ rOf M x L → 2 * W i < (M : Rat) * P i)
    (hW : ∀ i, i < rOf M x L → 1 / 2 + W (i + 1) * b (i + 1) + 3 / 2 * (W (i + 1) * W (i + 1)) / ((M : Rat) * P (i + 1)) ≤ W i) :
    EL ((x : Rat) / (M : Rat)) (((iexpF M x L : Rat) + W 0) / (M : Rat)) ∧ EG ((x : Rat) / (M : Rat)) (((iexpF M x L : Rat) - W 0) / (M : Rat)) := by
  have k := iexp_abs_run hM hx h0 hb hWn hWs hW (rOf M x L) (Nat.le_refl _)
  rw [sc_last, Nat.sub_self, iexpF_unit hM, iexpF_unit' hM] at k
  exact k

theorem rOf_le_pos {M x L : Int} {n : Nat} (hM : 0 < M) (hx : 0 ≤ x) (h : x * 2 ^ L.toNat < M * 2 ^ n) : rOf M x L ≤ n := by
  unfold rOf
  refine intBits_le_iff.mpr ?_
  have hp := two_pow_pos L.toNat
  have h0 : 0 ≤ (x * 2 ^ L.toNat) / M := Int.ediv_nonneg (Int.mul_nonneg hx (Int.le_of_lt hp)) (Int.le_of_lt hM)
  have h1 : (x * 2 ^ L.toNat) / M < 2 ^ n := Int.ediv_lt_of_lt_mul hM (by rw [Int.mul_comm (2 ^ n) M]; exact h)
  have e : ((2 ^ n : Nat) : Int) = 2 ^ n := Int.natCast_pow 2 n
  omega
theorem rOf_le_neg {M x L : Int} {n : Nat} (hM : 0 < M) (hx : x ≤ 0) (h : -(x * 2 ^ L.toNat) ≤ M * (2 ^ n - 1)) : rOf M x L ≤ n := by
  unfold rOf
  refine intBits_le_iff.mpr ?_
  have hp := two_pow_pos L.toNat
  have h0 : (x * 2 ^ L.toNat) / M ≤ 0 := by
    have : (x * 2 ^ L.toNat) / M ≤ 0 / M := Int.ediv_le_ediv hM (by
      have := Int.mul_nonneg (show 0 ≤ -x by omega) (Int.le_of_lt hp)
      rw [Int.neg_mul] at this
      omega)
    rwa [Int.zero_ediv] at this
  have h1 : -(2 ^ n - 1) ≤ (x * 2 ^ L.toNat) / M := (Int.le_ediv_iff_mul_le hM).mpr (by
    have : -(2 ^ n - 1) * M = -(M * (2 ^ n - 1)) := by grind
    rw [this]; omega)
  have e : ((2 ^ n : Nat) : Int) = 2 ^ n := Int.natCast_pow 2 n
  omega

/-- sizes that the contract of _iexp asks -/
theorem preE_of {M x L : Int} {B : Int} (hM : 0 < M) (hMb : intBits M ≤ 300) (hL : 0 < L) (hR : rOf M x L ≤ 400) (hxb : intBits x ≤ 2000) (hB0 : 0 < B) (hB : intBits B ≤ 200)
    (h : ∀ j ≤ rOf M x L, -((B : Rat) * sc M (rOf M x L) j) ≤ (dS M (rOf M x L) (iexpY M x L) j : Rat) ∧ (dS M (rOf M x L) (iexpY M x L) j : Rat) ≤ (B : Rat) * sc M (rOf M x L) j) : PreE M x L := by
  have hMs : 0 < M * 2 ^ rOf M x L := shl_pos hM _
  have hMsb : intBits (M * 2 ^ rOf M x L) ≤ 701 := shl_bits hMb (by omega)
  have hT := tOf_pos (M := M) (L := L) (by omega) (by omega)
  refine ⟨hxb, by omega, fun j hj => ?_, fun j hj => ?_⟩
  · have sp := rOf_spec (x := x) (L := L) hM
    have hp := two_pow_ge1 L.toNat
    have h1 := Int.mul_le_mul_of_nonneg_left hp (show 0 ≤ (x.natAbs : Int) by omega)
    have := eS_all (x := x) (Ms := M * 2 ^ rOf M x L) (T := tOf M L) (c := M * 2 ^ rOf M x L) (by omega) (by omega) (by omega) hMs (by omega) j hj
    exact bits_mono (bits_abs (b := 2 * (M * 2 ^ rOf M x L)) (by omega) (by omega) (intBits_mul_le (m := 64) (PySem.intBits_le_64 (by decide) (by decide)) hMsb))
  · obtain ⟨a, b⟩ := h j hj
    have hs : sc M (rOf M x L) j ≤ sc M (rOf M x L) 0 := by
      unfold sc
      exact Rat.mul_le_mul_of_nonneg_left (P_mono (by omega)) (Rat.le_of_lt (castpos hM))
    have es : ((B * (M * 2 ^ rOf M x L) : Int) : Rat) = (B : Rat) * sc M (rOf M x L) 0 := by
      rw [rat_mul_cast, rat_mul_cast, P_int]; rfl
    have hB' := castpos hB0
    have k := Rat.mul_le_mul_of_nonneg_left hs (Rat.le_of_lt hB')
    have k1 : (dS M (rOf M x L) (iexpY M x L) j : Rat) ≤ ((B * (M * 2 ^ rOf M x L) : Int) : Rat) := by rw [es]; exact Rat.le_trans b k
    have k2 : ((-(B * (M * 2 ^ rOf M x L)) : Int) : Rat) ≤ (dS M (rOf M x L) (iexpY M x L) j : Rat) := by
      rw [Rat.intCast_neg, es]
      grind
    exact bits_mono (bits_abs (b := B * (M * 2 ^ rOf M x L)) (Rat.intCast_le_intCast.mp k2) (Rat.intCast_le_intCast.mp k1) (intBits_mul_le hB hMsb))

/-- Y is bounded, by what the run tells -/
theorem run_bound {Y w s b q : Rat} (hs : 0 < s) (hw : w ≤ s) (h1 : EL q (1 + (Y + w) / s)) (h2 : EG q (1 + (Y - w) / s)) (hb : EL q b) {B : Rat} (hB : b + 1 ≤ B) (hB2 : 2 ≤ B) :
    -(B * s) ≤ Y ∧ Y ≤ B * s := by
  have k1 := h2.le hb
  have k2 := h1.pos
  have m := Rat.mul_le_mul_of_nonneg_right hB (Rat.le_of_lt hs)
  have m2 := Rat.mul_le_mul_of_nonneg_right hB2 (Rat.le_of_lt hs)
  have m3 := Rat.mul_le_mul_of_nonneg_right k1 (Rat.le_of_lt hs)
  have m4 := Rat.mul_lt_mul_of_pos_right k2 hs
  have e1 : (1 + (Y - w) / s) * s = s + Y - w := by grind
  have e2 : (1 + (Y + w) / s) * s = s + Y + w := by grind
  rw [e1] at m3
  rw [e2] at m4
  constructor <;> grind

end Mine

namespace Mine
open PySem.Builtin.Int (intBits)

/-- the first q + 1 of the stored figures of log(10) -/
def l10 (q : Int) : Int := 23025850929940456840179914546843642076011014886 / 10 ^ (46 - q).toNat
theorem l10_text_nat : ∀ n : Fin 47, PySem.intText? (Txt.slice (Str.ofString "23025850929940456840179914546843642076011014886") none (some (((n : Nat) : Int) + 1))) = some (l10 ((n : Nat) : Int)) ∧ (Txt.slice (Str.ofString "23025850929940456840179914546843642076011014886") none (some (((n : Nat) : Int) + 1))).length ≤ 640 := by decide +kernel
theorem l10_text {q : Int} (h0 : 0 ≤ q) (h1 : q ≤ 46) : PySem.intText? (Txt.slice (Str.ofString "23025850929940456840179914546843642076011014886") none (some (q + 1))) = some (l10 q) ∧ (Txt.slice (Str.ofString "23025850929940456840179914546843642076011014886") none (some (q + 1))).length ≤ 640 := by
  obtain ⟨n, rfl⟩ := Int.eq_ofNat_of_zero_le h0
  exact l10_text_nat ⟨n, by omega⟩

/-- the parts of _dexp -/
def dxX (c e : Int) : Int := if e + digs c - 1 > 0 then e + digs c - 1 else 0
def dxC (c e p : Int) : Int := if e + (p + 2 + dxX c e) ≥ 0 then c * 10 ^ (e + (p + 2 + dxX c e)).toNat else c / 10 ^ (-(e + (p + 2 + dxX c e))).toNat
def dxQ (c e p : Int) : Int := dxC c e p / l10 (p + 2 + dxX c e)
def dxR (c e p : Int) : Int := divN (dxC c e p % l10 (p + 2 + dxX c e)) (10 ^ (dxX c e).toNat)
def dexpD (c e p : Int) : Int := divN (iexpF (10 ^ (p + 2).toNat) (dxR c e p) 8) 1000
def dexpE (c e p : Int) : Int := dxQ c e p - (p + 2) + 3

theorem l10_pos_nat : ∀ n : Fin 47, 0 < l10 ((n : Nat) : Int) ∧ l10 ((n : Nat) : Int) < 2 ^ 160 := by decide +kernel
theorem l10_pos {q : Int} (h0 : 0 ≤ q) (h1 : q ≤ 46) : 0 < l10 q ∧ l10 q < 2 ^ 160 := by
  obtain ⟨n, rfl⟩ := Int.eq_ofNat_of_zero_le h0
  exact l10_pos_nat ⟨n, by omega⟩

theorem dxX_nn {c e x : Int} (h : (if e + digs c - 1 > 0 then e + digs c - 1 else 0) = x) : 0 ≤ x := by
  split at h <;> omega
theorem ten_pos (n : Nat) : (0 : Int) < 10 ^ n := Int.pow_pos (by decide)
theorem ten_bits {n : Nat} (h : n ≤ 250) : intBits ((10 : Int) ^ n) ≤ 1000 := by
  refine intBits_le_iff.mpr ?_
  rw [Int.natAbs_pow]
  have h1 : (10 : Nat) ^ n ≤ 10 ^ 250 := Nat.pow_le_pow_right (by decide) h
  have h2 : (10 : Nat) ^ 250 < 2 ^ 1000 := by decide +kernel
  exact Nat.lt_of_le_of_lt h1 h2
theorem ten_bits46 {n : Nat} (h : n ≤ 46) : intBits ((10 : Int) ^ n) ≤ 200 := by
  refine intBits_le_iff.mpr ?_
  rw [Int.natAbs_pow]
  have h1 : (10 : Nat) ^ n ≤ 10 ^ 46 := Nat.pow_le_pow_right (by decide) h
  have h2 : (10 : Nat) ^ 46 < 2 ^ 200 := by decide +kernel
  exact Nat.lt_of_le_of_lt h1 h2
theorem l10_bits {q : Int} (h0 : 0 ≤ q) (h1 : q ≤ 46) : intBits (l10 q) ≤ 9000 := by
  obtain ⟨a, b⟩ := l10_pos h0 h1
  have hp : (0 : Int) < 2 ^ 160 := two_pow_pos _
  exact bits_mono (bits_lt (k := 160) (by omega) b)
theorem dxC_up {c e p x C : Int} (hx : dxX c e = x) (h : 0 ≤ e + (p + 2 + x)) (hC : c * 10 ^ (e + (p + 2 + x)).toNat = C) : dxC c e p = C := by
  unfold dxC
  rw [hx, if_pos h, hC]
theorem dxC_dn {c e p x C : Int} (hx : dxX c e = x) (h : ¬ 0 ≤ e + (p + 2 + x)) (hC : c / 10 ^ (-(e + (p + 2 + x))).toNat = C) : dxC c e p = C := by
  unfold dxC
  rw [hx, if_neg h, hC]
theorem dxR_of {c e p x C : Int} (hx : dxX c e = x) (hC : dxC c e p = C) (hl : 0 < l10 (p + 2 + x)) : divN (C.fmod (l10 (p + 2 + x))) (10 ^ x.toNat) = dxR c e p := by
  unfold dxR
  rw [hx, hC, Int.fmod_eq_emod_of_nonneg _ (Int.le_of_lt hl)]
theorem dxQ_of {c e p x C : Int} (hx : dxX c e = x) (hC : dxC c e p = C) (hl : 0 < l10 (p + 2 + x)) : C.fdiv (l10 (p + 2 + x)) = dxQ c e p := by
  unfold dxQ
  rw [hx, hC, Int.fdiv_eq_ediv_of_nonneg _ (Int.le_of_lt hl)]
end Mine

namespace Mine
open Ex

theorem lg_up : eZ 26 (23025850929940456840179914546843642076011014886 / 160000000000000000000000000000000000000000000000) + 5 / 4 * mz 27 (23025850929940456840179914546843642076011014886 / 160000000000000000000000000000000000000000000000) ≤ (1154781984689458179666482887295508281566948041477534890154152 : Rat) / 1000000000000000000000000000000000000000000000000000000000000 := by decide +kernel
theorem lg_dn : (1154781984689458179666482887295508281566948041484748442395783 : Rat) / 1000000000000000000000000000000000000000000000000000000000000 ≤ eZ 26 (23025850929940456840179914546843642076011014887 / 160000000000000000000000000000000000000000000000) - mz 27 (23025850929940456840179914546843642076011014887 / 160000000000000000000000000000000000000000000000) := by decide +kernel
theorem dblL {q b c : Rat} (h : EL q b) (hc : b * b ≤ c) : EL (q + q) c := (EL.add h h).mono hc
theorem dblG {q b c : Rat} (h : EG q b) (hb : 0 < b) (hc : c ≤ b * b) : EG (q + q) c := (EG.add h h hb).mono hc
theorem four_dbl (q : Rat) : q / 16 + q / 16 + (q / 16 + q / 16) + (q / 16 + q / 16 + (q / 16 + q / 16)) + (q / 16 + q / 16 + (q / 16 + q / 16) + (q / 16 + q / 16 + (q / 16 + q / 16))) = q := by grind

/-- the stored figures of log(10) are no more than log(10) -/
theorem lg_EL : EL (23025850929940456840179914546843642076011014886 / 10000000000000000000000000000000000000000000000) 10 := by
  have k := (exp_taylor (z := 23025850929940456840179914546843642076011014886 / 160000000000000000000000000000000000000000000000) (by decide +kernel) (by decide +kernel) (.inl rfl) 25).1.mono lg_up
  have k4 := dblL (c := 10) (dblL (dblL (dblL k Rat.le_refl) Rat.le_refl) Rat.le_refl) (by decide +kernel)
  have e : (23025850929940456840179914546843642076011014886 : Rat) / 160000000000000000000000000000000000000000000000 = 23025850929940456840179914546843642076011014886 / 10000000000000000000000000000000000000000000000 / 16 := by decide +kernel
  rw [e, four_dbl] at k4
  exact k4
/-- and one more in the last place is no less -/
theorem lg_EG : EG (23025850929940456840179914546843642076011014887 / 10000000000000000000000000000000000000000000000) 10 := by
  have k := (exp_taylor (z := 23025850929940456840179914546843642076011014887 / 160000000000000000000000000000000000000000000000) (by decide +kernel) (by decide +kernel) (.inl rfl) 25).2.mono lg_dn
  have k4 := dblG (c := 10) (dblG (dblG (dblG k (by decide +kernel) Rat.le_refl) (by decide +kernel) Rat.le_refl) (by decide +kernel) Rat.le_refl) (by decide +kernel) (by decide +kernel)
  have e : (23025850929940456840179914546843642076011014887 : Rat) / 160000000000000000000000000000000000000000000000 = 23025850929940456840179914546843642076011014887 / 10000000000000000000000000000000000000000000000 / 16 := by decide +kernel
  rw [e, four_dbl] at k4
  exact k4


theorem pow_add' (a : Rat) (m : Nat) : ∀ n : Nat, a ^ (m + n) = a ^ m * a ^ n
  | 0 => by rw [Rat.pow_zero, Nat.add_zero]; grind
  | n + 1 => by rw [← Nat.add_assoc, Rat.pow_succ, Rat.pow_succ, pow_add' a m n]; grind
theorem ten_cast (n : Nat) : (((10 : Int) ^ n : Int) : Rat) = (10 : Rat) ^ n := by push_cast; rfl
theorem tenQ_pos (n : Nat) : (0 : Rat) < (10 : Rat) ^ n := Rat.pow_pos (by decide)
/-- the first figures, cut: no more than log(10), and one more is no less -/
theorem l10_spec {q : Int} (h0 : 0 ≤ q) (h1 : q ≤ 46) : EL ((l10 q : Rat) / (10 : Rat) ^ q.toNat) 10 ∧ EG (((l10 q : Rat) + 1) / (10 : Rat) ^ q.toNat) 10 := by
  have hp : (0 : Int) < 10 ^ (46 - q).toNat := Int.pow_pos (by decide)
  have a := Int.mul_ediv_add_emod 23025850929940456840179914546843642076011014886 (10 ^ (46 - q).toNat)
  have b := Int.emod_nonneg 23025850929940456840179914546843642076011014886 (show (10 : Int) ^ (46 - q).toNat ≠ 0 by omega)
  have c := Int.emod_lt_of_pos 23025850929940456840179914546843642076011014886 hp
  have e : (10 : Rat) ^ (46 - q).toNat * (10 : Rat) ^ q.toNat = 10000000000000000000000000000000000000000000000 := by
    rw [← pow_add']
    have : (46 - q).toNat + q.toNat = 46 := by omega
    rw [this]
    decide +kernel
  have hl : l10 q = 23025850929940456840179914546843642076011014886 / 10 ^ (46 - q).toNat := rfl
  rw [← hl] at a
  generalize l10 q = l at *
  generalize 23025850929940456840179914546843642076011014886 % (10 : Int) ^ (46 - q).toNat = m at *
  have k1 : ((10 ^ (46 - q).toNat * l : Int) : Rat) ≤ ((23025850929940456840179914546843642076011014886 : Int) : Rat) := Rat.intCast_le_intCast.mpr (by omega)
  have k2 : ((23025850929940456840179914546843642076011014887 : Int) : Rat) ≤ ((10 ^ (46 - q).toNat * (l + 1) : Int) : Rat) := Rat.intCast_le_intCast.mpr (by rw [Int.mul_add, Int.mul_one]; omega)
  have e1 : ((10 ^ (46 - q).toNat * l : Int) : Rat) = (10 : Rat) ^ (46 - q).toNat * (l : Rat) := by push_cast; rfl
  have e2 : ((10 ^ (46 - q).toNat * (l + 1) : Int) : Rat) = (10 : Rat) ^ (46 - q).toNat * ((l : Rat) + 1) := by push_cast; rfl
  rw [e1] at k1
  rw [e2] at k2
  have hq := tenQ_pos q.toNat
  have hr := tenQ_pos (46 - q).toNat
  generalize (10 : Rat) ^ q.toNat = Q at *
  generalize (10 : Rat) ^ (46 - q).toNat = R at *
  generalize (l : Rat) = l at *
  have c1 : ((23025850929940456840179914546843642076011014886 : Int) : Rat) = 23025850929940456840179914546843642076011014886 := rfl
  have c2 : ((23025850929940456840179914546843642076011014887 : Int) : Rat) = 23025850929940456840179914546843642076011014887 := rfl
  rw [c1] at k1
  rw [c2] at k2
  constructor
  · refine lg_EL.exp_mono (div_le hq ?_)
    have e3 : (23025850929940456840179914546843642076011014886 : Rat) / 10000000000000000000000000000000000000000000000 * Q = 23025850929940456840179914546843642076011014886 / R := by
      rw [← e]
      grind
    rw [e3]
    exact le_div hr (by grind)
  · refine lg_EG.exp_mono (le_div hq ?_)
    have e3 : (23025850929940456840179914546843642076011014887 : Rat) / 10000000000000000000000000000000000000000000000 * Q = 23025850929940456840179914546843642076011014887 / R := by
      rw [← e]
      grind
    rw [e3]
    exact div_le hr (by grind)

end Mine

namespace Mine
open PySem.Builtin.Int (intBits)
open Ex

/-- a / b, cut -/
theorem ediv_rat {a b : Int} (hb : 0 < b) : ((a / b : Int) : Rat) ≤ (a : Rat) / (b : Rat) ∧ (a : Rat) / (b : Rat) < ((a / b : Int) : Rat) + 1 := by
  have h1 := Int.mul_ediv_add_emod a b
  have h2 := Int.emod_nonneg a (by omega : b ≠ 0)
  have h3 := Int.emod_lt_of_pos a hb
  have hb' := castpos hb
  generalize a / b = q at *
  generalize a % b = r at *
  have e : (a : Rat) = (b : Rat) * (q : Rat) + (r : Rat) := by rw [← h1]; push_cast; rfl
  have k2 := castnn h2
  have k3 : (r : Rat) < (b : Rat) := by exact_mod_cast h3
  rw [e]
  generalize (b : Rat) = b at *
  generalize (q : Rat) = q at *
  generalize (r : Rat) = r at *
  have e2 : (b * q + r) / b = q + r / b := by grind
  rw [e2]
  have k4 := div_nn k2 hb'
  have k5 : r / b < 1 := by
    rcases Classical.em (r / b < 1) with x | x
    · exact x
    · have := le_div_mul hb' (Rat.not_lt.mp x)
      grind
  constructor <;> grind

theorem EL3 : EL 3 64 := by
  have a := EL.quad (x := 3 / 8) (by decide +kernel)
  have b := dblL (c := 64) (dblL (dblL a Rat.le_refl) Rat.le_refl) (by decide +kernel)
  have e : (3 : Rat) / 8 + 3 / 8 + (3 / 8 + 3 / 8) + (3 / 8 + 3 / 8 + (3 / 8 + 3 / 8)) = 3 := by grind
  rw [e] at b
  exact b


/-- between two turns of the law's own bounds: j of n squarings are done -/
structure BInv (v : Rat) (one : Int) (n j : Nat) (low high : Int) : Prop where
  g : EG (v / P (n - j)) ((low : Rat) / (one : Rat))
  l : EL (v / P (n - j)) ((high : Rat) / (one : Rat))
  g1 : one ≤ low
  l1 : one ≤ high
  b : EG (3 / P (n - j) - 1 / (one : Rat)) ((high : Rat) / (one : Rat))

theorem one_le_rat {one a : Int} (ho : 0 < one) (h : one ≤ a) : 1 ≤ (a : Rat) / (one : Rat) := le_div (castpos ho) (by have := castle h; grind)
theorem le_64 {q : Rat} {a one : Int} (ho : 0 < one) (h : EG q ((a : Rat) / (one : Rat))) (hq : q ≤ 3) : a ≤ 64 * one := by
  have k := div_le_mul (castpos ho) ((h.exp_mono hq).le EL3)
  have e : ((64 * one : Int) : Rat) = 64 * (one : Rat) := by push_cast; rfl
  rw [← e] at k
  exact Rat.intCast_le_intCast.mp k
theorem BInv.bound {v : Rat} {one : Int} {n j : Nat} {low high : Int} (h : BInv v one n j low high) (ho : 0 < one) (v1 : v ≤ 1) : low ≤ 64 * one ∧ high ≤ 64 * one := by
  have p1 := P_ge1 (n - j)
  have p0 := P_pos (n - j)
  refine ⟨le_64 ho h.g ?_, le_64 ho h.b ?_⟩
  · have : v / P (n - j) ≤ 1 := div_le p0 (by grind)
    grind
  · have h1 : 3 / P (n - j) ≤ 3 := div_le p0 (by grind)
    have h2 := div_nn (show (0 : Rat) ≤ 1 by decide) (castpos ho)
    grind

theorem div_P_half (x : Rat) {n j : Nat} (h : j < n) : x / P (n - (j + 1)) = x / P (n - j) + x / P (n - j) := by
  have e : n - j = (n - (j + 1)) + 1 := by omega
  rw [e, P_succ]
  have := P_pos (n - (j + 1))
  generalize P (n - (j + 1)) = p at *
  grind

theorem BInv.turn {v : Rat} {one : Int} {n j : Nat} {low high : Int} (h : BInv v one n j low high) (ho : 0 < one) (hj : j < n) :
    BInv v one n (j + 1) (low * low / one) (-(-high * high / one)) := by
  have ho' := castpos ho
  have r1 := one_le_rat ho h.g1
  have r2 := one_le_rat ho h.l1
  obtain ⟨d1, d2⟩ := ediv_rat (a := low * low) ho
  obtain ⟨u1, u2⟩ := ediv_rat (a := -high * high) ho
  have eu : ((-high * high : Int) : Rat) = -((high : Rat) * (high : Rat)) := by push_cast; grind
  have en : ((-(-high * high / one) : Int) : Rat) = -((-high * high / one : Int) : Rat) := Rat.intCast_neg _
  rw [rat_mul_cast] at d1 d2
  rw [eu] at u1 u2
  have eh : ∀ x : Rat, x / (one : Rat) * (x / (one : Rat)) * (one : Rat) = x * x / (one : Rat) := fun x => by
    generalize (one : Rat) = o at *
    grind
  have hup : (high : Rat) / (one : Rat) * ((high : Rat) / (one : Rat)) ≤ ((-(-high * high / one) : Int) : Rat) / (one : Rat) := le_div ho' (by
    rw [en, eh]
    have : -((high : Rat) * (high : Rat)) / (one : Rat) = -((high : Rat) * (high : Rat) / (one : Rat)) := by
      generalize (one : Rat) = o at *
      grind
    rw [this] at u1
    grind)
  have hup2 : ((-(-high * high / one) : Int) : Rat) / (one : Rat) ≤ (high : Rat) / (one : Rat) * ((high : Rat) / (one : Rat)) + 1 / (one : Rat) := div_le ho' (by
    rw [en]
    have : -((high : Rat) * (high : Rat)) / (one : Rat) = -((high : Rat) * (high : Rat) / (one : Rat)) := by
      generalize (one : Rat) = o at *
      grind
    rw [this] at u2
    have e3 : ((high : Rat) / (one : Rat) * ((high : Rat) / (one : Rat)) + 1 / (one : Rat)) * (one : Rat) = (high : Rat) * (high : Rat) / (one : Rat) + 1 := by
      generalize (one : Rat) = o at *
      grind
    rw [e3]
    grind)
  have hlo : ((low * low / one : Int) : Rat) / (one : Rat) ≤ (low : Rat) / (one : Rat) * ((low : Rat) / (one : Rat)) := div_le ho' (by rw [eh]; exact d1)
  have g2 : one ≤ low * low / one := (Int.le_ediv_iff_mul_le ho).mpr (Int.mul_le_mul h.g1 h.g1 (Int.le_of_lt ho) (by have := h.g1; omega))
  have l2 : one ≤ -(-high * high / one) := by
    have : -high * high / one ≤ -one := by
      refine Int.le_of_lt_add_one (Int.ediv_lt_of_lt_mul ho ?_)
      have := Int.mul_le_mul h.l1 h.l1 (Int.le_of_lt ho) (by have := h.l1; omega)
      grind
    omega
  have e1 := div_P_half v hj
  have e3 := div_P_half 3 hj
  refine ⟨?_, ?_, g2, l2, ?_⟩
  · rw [e1]
    exact (EG.add h.g h.g (by grind)).mono hlo
  · rw [e1]
    exact (EL.add h.l h.l).mono hup
  · rw [e3]
    have k := EG.add (EG.add h.b h.b (by grind)) (EG.one_add (1 / (one : Rat))) (by have := div_pos (show (0 : Rat) < 1 by decide) ho'; grind)
    have e4 : 3 / P (n - j) - 1 / (one : Rat) + (3 / P (n - j) - 1 / (one : Rat)) + 1 / (one : Rat) = 3 / P (n - j) + 3 / P (n - j) - 1 / (one : Rat) := by grind
    rw [e4] at k
    refine k.mono (Rat.le_trans hup2 ?_)
    have hh : 1 ≤ (high : Rat) / (one : Rat) * ((high : Rat) / (one : Rat)) := by
      have := Rat.mul_le_mul_of_nonneg_left r2 (show 0 ≤ (high : Rat) / (one : Rat) by grind)
      grind
    have := Rat.mul_le_mul_of_nonneg_right hh (div_nn (show (0 : Rat) ≤ 1 by decide) ho')
    generalize (high : Rat) / (one : Rat) * ((high : Rat) / (one : Rat)) = H at *
    grind

theorem start_alg {D o h u e : Rat} (ho : 0 < o) (he : e = 1 / o) (hu0 : 0 ≤ u) (hu : u ≤ 1 / 1000) (heu : 1000 * e ≤ u) (hD : o - u * o - 1 ≤ D) (hD2 : h ≤ o * o / D + 1) : h / o ≤ 1 + (3 * u - e) := by
  have heo : e * o = 1 := by rw [he]; grind
  have he0 : 0 < e := by rw [he]; exact div_pos (by decide) ho
  -- o o / D ≤ o (1 + 2 u)
  have k0 : 0 < o - u * o - 1 := by
    have : u * o ≤ 1 / 1000 * o := Rat.mul_le_mul_of_nonneg_right hu (Rat.le_of_lt ho)
    have : 1000 * e * o ≤ u * o := Rat.mul_le_mul_of_nonneg_right heu (Rat.le_of_lt ho)
    grind
  have k1 : o * o / D ≤ o + 2 * (u * o) := by
    refine div_le (by grind) ?_
    have a1 := Rat.mul_le_mul_of_nonneg_left hD (show 0 ≤ o + 2 * (u * o) by
      have := Rat.mul_nonneg hu0 (Rat.le_of_lt ho)
      grind)
    refine Rat.le_trans ?_ a1
    have b1 : 1000 * e * (o * o) ≤ u * (o * o) := Rat.mul_le_mul_of_nonneg_right heu (Rat.le_of_lt (Rat.mul_pos ho ho))
    have b2 : 1000 * o ≤ u * (o * o) := by
      have : 1000 * e * (o * o) = 1000 * o := by grind
      grind
    have b3 : u * (u * (o * o)) ≤ 1 / 1000 * (u * (o * o)) := Rat.mul_le_mul_of_nonneg_right hu (Rat.mul_nonneg hu0 (Rat.le_of_lt (Rat.mul_pos ho ho)))
    have b4 : u * o ≤ 1 / 1000 * o := Rat.mul_le_mul_of_nonneg_right hu (Rat.le_of_lt ho)
    grind
  refine div_le ho ?_
  have b1 : 1000 * e * o ≤ u * o := Rat.mul_le_mul_of_nonneg_right heu (Rat.le_of_lt ho)
  grind

theorem BInv.start {c K one : Int} {n : Nat} (hc : 0 ≤ c) (hcK : c ≤ K) (hK : 0 < K) (ho : 0 < one) (hn : 10 ≤ n) (hon : 1000 * 2 ^ n ≤ one) :
    BInv ((c : Rat) / (K : Rat)) one n 0 (one + c * one / (K * 2 ^ n)) (-(-one * one / (one + -c * one / (K * 2 ^ n)))) ∧ 0 < one + -c * one / (K * 2 ^ n) := by
  have ho' := castpos ho
  have hK' := castpos hK
  have hP := P_pos n
  have hp : 0 < K * 2 ^ n := shl_pos hK n
  have ep : ((K * 2 ^ n : Int) : Rat) = (K : Rat) * P n := by rw [rat_mul_cast, P_int]
  obtain ⟨a1, a2⟩ := ediv_rat (a := c * one) hp
  obtain ⟨b1, b2⟩ := ediv_rat (a := -c * one) hp
  have ec : ((-c * one : Int) : Rat) = -((c : Rat) * (one : Rat)) := by push_cast; grind
  rw [rat_mul_cast, ep] at a1 a2
  rw [ec, ep] at b1 b2
  have hc' := castnn hc
  have hcK' := castle hcK
  -- v / P n = u
  have eu : (c : Rat) / (K : Rat) / P n * (one : Rat) = (c : Rat) * (one : Rat) / ((K : Rat) * P n) := by
    generalize (K : Rat) = k at *
    generalize P n = q at *
    grind
  have eu' : -((c : Rat) * (one : Rat)) / ((K : Rat) * P n) = -((c : Rat) / (K : Rat) / P n * (one : Rat)) := by
    rw [eu]
    generalize (K : Rat) * P n = k at *
    grind
  have hv0 : 0 ≤ (c : Rat) / (K : Rat) := div_nn hc' hK'
  have hv1 : (c : Rat) / (K : Rat) ≤ 1 := div_le hK' (by grind)
  have hu0 : 0 ≤ (c : Rat) / (K : Rat) / P n := div_nn hv0 hP
  have hu1 : (c : Rat) / (K : Rat) / P n ≤ 1 / P n := div_mono hP hv1
  have hP10 : (1000 : Rat) ≤ P n := by
    have h1 := P_mono hn
    have h2 : P 10 = 1024 := by decide +kernel
    rw [h2] at h1
    grind
  have hinv : 1 / P n ≤ 1 / 1000 := div_le hP (by grind)
  have hone : 1000 * (1 / (one : Rat)) ≤ 1 / P n := by
    refine le_div hP ?_
    have k : ((1000 * 2 ^ n : Int) : Rat) ≤ (one : Rat) := castle hon
    rw [rat_mul_cast, P_int] at k
    have k2 : 1000 * (1 / (one : Rat)) * P n = 1000 * P n / (one : Rat) := by
      generalize (one : Rat) = o at *
      grind
    rw [k2]
    refine div_le ho' ?_
    have e1000 : ((1000 : Int) : Rat) = 1000 := rfl
    rw [e1000] at k
    grind
  rw [← eu] at a1 a2
  rw [eu'] at b1 b2
  generalize hu : (c : Rat) / (K : Rat) / P n = u at *
  -- the divisor
  have eD : ((one + -c * one / (K * 2 ^ n) : Int) : Rat) = (one : Rat) + ((-c * one / (K * 2 ^ n) : Int) : Rat) := by push_cast; rfl
  have D1 : ((one + -c * one / (K * 2 ^ n) : Int) : Rat) ≤ (one : Rat) - u * (one : Rat) := by rw [eD]; grind
  have D2 : (one : Rat) - u * (one : Rat) - 1 ≤ ((one + -c * one / (K * 2 ^ n) : Int) : Rat) := by rw [eD]; grind
  have hu3 : u * (one : Rat) ≤ 1 / 1000 * (one : Rat) := Rat.mul_le_mul_of_nonneg_right (by grind) (Rat.le_of_lt ho')
  have ho1 : (1000 : Rat) ≤ (one : Rat) := by
    have : (1000 : Int) ≤ one := by
      have := two_pow_ge1 n
      omega
    exact_mod_cast this
  have Dp : 0 < one + -c * one / (K * 2 ^ n) := by
    have : (0 : Rat) < ((one + -c * one / (K * 2 ^ n) : Int) : Rat) := by grind
    exact_mod_cast this
  refine ⟨?_, Dp⟩
  generalize one + -c * one / (K * 2 ^ n) = D at *
  have Dp' := castpos Dp
  obtain ⟨h1, h2⟩ := ediv_rat (a := -one * one) Dp
  have eo : ((-one * one : Int) : Rat) = -((one : Rat) * (one : Rat)) := by push_cast; grind
  rw [eo] at h1 h2
  have en : ((-(-one * one / D) : Int) : Rat) = -((-one * one / D : Int) : Rat) := Rat.intCast_neg _
  have em : -((one : Rat) * (one : Rat)) / (D : Rat) = -((one : Rat) * (one : Rat) / (D : Rat)) := by
    generalize (D : Rat) = D at *
    grind
  rw [em] at h1 h2
  have el : ((one + c * one / (K * 2 ^ n) : Int) : Rat) = (one : Rat) + ((c * one / (K * 2 ^ n) : Int) : Rat) := by push_cast; rfl
  have hl0 : 0 ≤ c * one / (K * 2 ^ n) := Int.ediv_nonneg (Int.mul_nonneg hc (Int.le_of_lt ho)) (Int.le_of_lt hp)
  refine ⟨?_, ?_, by omega, ?_, ?_⟩
  · show EG ((c : Rat) / (K : Rat) / P n) _
    rw [hu]
    refine (EG.one_add u).mono (div_le ho' ?_)
    rw [el]
    grind
  · show EL ((c : Rat) / (K : Rat) / P n) _
    rw [hu]
    refine (EL.inv (by grind)).mono ?_
    refine le_div ho' ?_
    rw [en]
    have k : 1 / (1 - u) * (one : Rat) ≤ (one : Rat) * (one : Rat) / (D : Rat) := by
      refine le_div Dp' ?_
      have k1 : 1 / (1 - u) * (one : Rat) * (D : Rat) ≤ 1 / (1 - u) * (one : Rat) * ((one : Rat) - u * (one : Rat)) := Rat.mul_le_mul_of_nonneg_left D1 (Rat.mul_nonneg (div_nn (by decide) (by grind)) (Rat.le_of_lt ho'))
      have k2 : 1 / (1 - u) * (one : Rat) * ((one : Rat) - u * (one : Rat)) = (one : Rat) * (one : Rat) := by
        have : (1 - u) ≠ 0 := by grind
        generalize (one : Rat) = o at *
        grind
      rw [k2] at k1
      exact k1
    grind
  · have : (one : Rat) ≤ ((-(-one * one / D) : Int) : Rat) := by
      rw [en]
      have : (one : Rat) ≤ (one : Rat) * (one : Rat) / (D : Rat) := le_div Dp' (Rat.mul_le_mul_of_nonneg_left (by
        have := Rat.mul_nonneg hu0 (Rat.le_of_lt ho')
        grind) (Rat.le_of_lt ho'))
      grind
    exact Rat.intCast_le_intCast.mp this
  · show EG (3 / P n - 1 / (one : Rat)) _
    refine (EG.one_add _).mono ?_
    have e3 : 3 / P n = 3 * (1 / P n) := by grind
    rw [e3]
    refine start_alg (D := (D : Rat)) ho' rfl (div_nn (by decide) hP) hinv hone ?_ ?_
    · have := Rat.mul_le_mul_of_nonneg_right hu1 (Rat.le_of_lt ho')
      grind
    · rw [en]
      grind

end Mine

namespace Mine
open PySem.Builtin.Int (intBits)
open Ex

theorem digs_neg {m : Nat} (h : 0 < m) : digs (-(m : Int)) = digs (m : Int) + 1 := by
  obtain ⟨n, rfl⟩ : ∃ n, m = n + 1 := ⟨m - 1, by omega⟩
  have e : toString (-((n + 1 : Nat) : Int)) = "-" ++ toString ((n + 1 : Nat) : Int) := rfl
  unfold digs
  rw [e, PySem.ofString_length, PySem.ofString_length, String.length_append]
  have : ("-" : String).length = 1 := rfl
  rw [this]
  omega
/-- how many signs, by powers of ten, for either side of nought -/
theorem digs_le_abs {c : Int} {k : Nat} (hk : 0 < k) (h : (c.natAbs : Int) < 10 ^ k) : digs c ≤ (k : Int) + (if c < 0 then 1 else 0) := by
  rcases Int.lt_or_le c 0 with h0 | h0
  · rw [if_pos h0]
    have e : c = -((c.natAbs : Nat) : Int) := by omega
    have h1 := (digs_iff (M := (c.natAbs : Int)) (by omega) hk).mpr h
    rw [e, digs_neg (by omega)]
    omega
  · rw [if_neg (by omega)]
    have e : (c.natAbs : Int) = c := by omega
    rw [e] at h
    have := (digs_iff h0 hk).mpr h
    omega
theorem dxX_zero {c k : Int} (hk : 1 ≤ k) (h : (c.natAbs : Int) < 10 ^ k.toNat) : dxX c (-k) = 0 := by
  have := digs_le_abs (k := k.toNat) (by omega) h
  unfold dxX
  rw [if_neg]
  split at this <;> omega
theorem digs_ten (n : Nat) : digs ((10 : Int) ^ n) = (n : Int) + 1 := by
  have hp := ten_pos n
  have h1 : digs ((10 : Int) ^ n) ≤ ((n + 1 : Nat) : Int) := (digs_iff (Int.le_of_lt hp) (by omega)).mpr (by rw [Int.pow_succ]; omega)
  rcases Nat.eq_zero_or_pos n with h0 | h0
  · subst h0
    have := digs_pos (Int.le_of_lt hp)
    omega
  · have h2 : ¬ digs ((10 : Int) ^ n) ≤ ((n : Nat) : Int) := fun h => by
      have := (digs_iff (Int.le_of_lt hp) h0).mp h
      omega
    omega

/-- what the series leaves out at a power of ten -/
theorem rest10 {n : Nat} {x : Int} {a X : Rat} {m : Nat} (ha : 0 ≤ a) (h : a * (2 : Rat) ^ (Int.toNat 8) ≤ 1) (hX : a * sc (10 ^ n) (rOf (10 ^ n) x 8) 0 = X) (hm : m ≤ (tOf (10 ^ n) 8).toNat + 1) :
    sc (10 ^ n) (rOf (10 ^ n) x 8) 0 * (5 / 4 * mz ((tOf (10 ^ n) 8).toNat + 1) a) * fc m * (10 * (10 : Rat) ^ n) ≤ 5 / 4 * X := by
  have hM := ten_pos n
  have h1 := pow_small (L := 8) hM (by decide) ha h
  rw [digs_ten] at h1
  have e : ((10 ^ ((n : Int) + 1).toNat : Nat) : Rat) = 10 * (10 : Rat) ^ n := by
    have : ((n : Int) + 1).toNat = n + 1 := by omega
    rw [this, Nat.pow_succ]
    push_cast
    grind
  rw [e] at h1
  have h2 := mz_le_pow ha hm
  rw [Rat.pow_succ] at h2
  have hs := sc_pos hM (rOf (10 ^ n) x 8) 0
  have h10 : (0 : Rat) < 10 * (10 : Rat) ^ n := by have := tenQ_pos n; grind
  generalize 10 * (10 : Rat) ^ n = N at *
  generalize a ^ (tOf (10 ^ n) 8).toNat = p at *
  generalize mz ((tOf (10 ^ n) 8).toNat + 1) a = u at *
  generalize fc m = f at *
  generalize sc (10 ^ n) (rOf (10 ^ n) x 8) 0 = S at *
  have k1 := Rat.mul_le_mul_of_nonneg_left h2 (Rat.mul_nonneg (Rat.le_of_lt hs) (Rat.le_of_lt h10))
  have k2 := Rat.mul_le_mul_of_nonneg_left h1 (Rat.mul_nonneg (Rat.le_of_lt hs) ha)
  grind

theorem tOf_ten {n : Nat} (hn : 3 ≤ n) : 2 ≤ (tOf (10 ^ n) 8).toNat := by
  unfold tOf
  rw [digs_ten]
  have : (-10 * ((n : Int) + 1)) / (3 * 8) ≤ -2 := by
    have h : (-10 * ((n : Int) + 1)) / (3 * 8) < -1 := Int.ediv_lt_of_lt_mul (by decide) (by omega)
    omega
  omega

/-- the start: the series errs by no more than 128 / 255 and a part of x by M -/
theorem start10 {n : Nat} {x : Int} {w0 X : Rat} (hn : 3 ≤ n) (hX : ((x.natAbs : Int) : Rat) ≤ X * (10 : Rat) ^ n) (hw : 128 / 255 + X / 48 ≤ w0) :
    EL ((x : Rat) / sc (10 ^ n) (rOf (10 ^ n) x 8) 0) (1 + ((iexpY (10 ^ n) x 8 : Rat) + w0) / sc (10 ^ n) (rOf (10 ^ n) x 8) 0) ∧ EG ((x : Rat) / sc (10 ^ n) (rOf (10 ^ n) x 8) 0) (1 + ((iexpY (10 ^ n) x 8 : Rat) - w0) / sc (10 ^ n) (rOf (10 ^ n) x 8) 0) := by
  have hM := ten_pos n
  obtain ⟨a, a0, az, am, ap⟩ := abs_start (x := x) (L := 8) hM
  have e8 : (2 : Rat) ^ (Int.toNat 8) = 256 := by decide +kernel
  have ha : a ≤ 1 / 256 := by rw [e8] at ap; grind
  have r := rest10 (m := 3) a0 ap am (by have := tOf_ten hn; omega)
  rw [fc3] at r
  refine iexp_start (c := 128 / 255) hM (by decide) a0 az (by grind) (by grind) (by grind) ?_
  have h10 := tenQ_pos n
  generalize sc (10 ^ n) (rOf (10 ^ n) x 8) 0 * (5 / 4 * mz ((tOf (10 ^ n) 8).toNat + 1) a) = t at *
  generalize ((x.natAbs : Int) : Rat) = y at *
  generalize (10 : Rat) ^ n = N at *
  have k : t ≤ X / 48 := by
    rcases Classical.em (t ≤ X / 48) with z | z
    · exact z
    · have := Rat.mul_lt_mul_of_pos_right (lt_of_not_le z) h10
      grind
  grind

theorem tab_alg {w N p : Rat} (hp : 0 < p) : 3 / 2 * (w * w) / (1000 * p) * (N * p) = 3 / 2 * (w * w) * (N / 1000) := by grind
/-- _iexp at a power of ten, by a table -/
theorem iexp_tab {n N : Nat} {x : Int} {b W : Nat → Rat} {Λ w0 : Rat} (hn : 3 ≤ n) (hn2 : n ≤ 90) (hx : 0 ≤ x) (hR : rOf (10 ^ n) x 8 ≤ N) (hN : N ≤ 20) (hΛ : (x : Rat) ≤ Λ * (10 : Rat) ^ n) (hw : 128 / 255 + Λ / 48 ≤ w0)
    (hb : ∀ i, i ≤ N → EL (Λ / P i) (b i)) (hb64 : ∀ i, i ≤ N → b i ≤ 63) (hW0 : ∀ i, i ≤ N → w0 ≤ W i) (hw0 : 0 ≤ w0) (hWs : ∀ i, i ≤ N → W i ≤ 100)
    (hW : ∀ i, i < N → 1 / 2 + W (i + 1) * b (i + 1) + 3 / 2 * (W (i + 1) * W (i + 1)) / (1000 * P (i + 1)) ≤ W i) :
    EL ((x : Rat) / (10 : Rat) ^ n) (((iexpF (10 ^ n) x 8 : Rat) + W 0) / (10 : Rat) ^ n) ∧ EG ((x : Rat) / (10 : Rat) ^ n) (((iexpF (10 ^ n) x 8 : Rat) - W 0) / (10 : Rat) ^ n) ∧ PreE (10 ^ n) x 8 := by
  have hM := ten_pos n
  have eM := ten_cast n
  have h10 := tenQ_pos n
  have h1000 : (1000 : Rat) ≤ (10 : Rat) ^ n := by
    have h1 : (10 : Nat) ^ 3 ≤ 10 ^ n := Nat.pow_le_pow_right (by decide) hn
    have h2 : ((10 ^ 3 : Nat) : Rat) ≤ ((10 ^ n : Nat) : Rat) := by exact_mod_cast h1
    push_cast at h2
    grind
  have hxa : ((x.natAbs : Int) : Rat) ≤ Λ * (10 : Rat) ^ n := by
    have e : (x.natAbs : Int) = x := by omega
    rw [e]; exact hΛ
  have hst := start10 (w0 := W (rOf (10 ^ n) x 8)) hn hxa (Rat.le_trans hw (hW0 _ hR))
  have hbR : ∀ i, i ≤ rOf (10 ^ n) x 8 → EL ((x : Rat) / (((10 ^ n : Int) : Rat) * P i)) (b i) := fun i h2 => by
    refine (hb i (by omega)).exp_mono ?_
    rw [eM]
    have hp := P_pos i
    refine div_le (Rat.mul_pos h10 hp) ?_
    have e : Λ / P i * ((10 : Rat) ^ n * P i) = Λ * (10 : Rat) ^ n := by
      generalize (10 : Rat) ^ n = N at *
      generalize P i = p at *
      grind
    rw [e]
    exact hΛ
  have hWn : ∀ i, i ≤ rOf (10 ^ n) x 8 → 0 ≤ W i := fun i hi => by have := hW0 i (by omega); grind
  have hsc : ∀ i, (1000 : Rat) ≤ ((10 ^ n : Int) : Rat) * P i := fun i => by
    have := Rat.mul_le_mul_of_nonneg_left (P_ge1 i) (Rat.le_of_lt h10)
    rw [eM]
    grind
  have hWs' : ∀ i, 1 ≤ i → i ≤ rOf (10 ^ n) x 8 → 2 * W i < ((10 ^ n : Int) : Rat) * P i := fun i h1 h2 => by
    have a := hWs i (by omega)
    have b' := hsc i
    grind
  have hWst : ∀ i, i < rOf (10 ^ n) x 8 → 1 / 2 + W (i + 1) * b (i + 1) + 3 / 2 * (W (i + 1) * W (i + 1)) / (((10 ^ n : Int) : Rat) * P (i + 1)) ≤ W i := fun i hi => by
    refine Rat.le_trans ?_ (hW i (by omega))
    have hp := P_pos (i + 1)
    have k : 3 / 2 * (W (i + 1) * W (i + 1)) / (((10 ^ n : Int) : Rat) * P (i + 1)) ≤ 3 / 2 * (W (i + 1) * W (i + 1)) / (1000 * P (i + 1)) := by
      rw [eM]
      refine div_le (Rat.mul_pos h10 hp) ?_
      have e : 3 / 2 * (W (i + 1) * W (i + 1)) / (1000 * P (i + 1)) * ((10 : Rat) ^ n * P (i + 1)) = 3 / 2 * (W (i + 1) * W (i + 1)) * ((10 : Rat) ^ n / 1000) := by
        exact tab_alg hp
      rw [e]
      have k2 : 1 ≤ (10 : Rat) ^ n / 1000 := le_div (by decide) (by grind)
      have := Rat.mul_le_mul_of_nonneg_left k2 (show 0 ≤ 3 / 2 * (W (i + 1) * W (i + 1)) by have := sq_nonneg (W (i + 1)); grind)
      grind
    grind
  have main := iexp_abs hM hx hst (fun i _ h2 => hbR i h2) hWn hWs' hWst
  have run := iexp_abs_run hM hx hst (fun i _ h2 => hbR i h2) hWn hWs' hWst
  have hb200 : intBits ((10 : Int) ^ n) ≤ 300 := by
    refine intBits_le_iff.mpr ?_
    rw [Int.natAbs_pow]
    have h1 : (10 : Nat) ^ n ≤ 10 ^ 90 := Nat.pow_le_pow_right (by decide) hn2
    have h2 : (10 : Nat) ^ 90 < 2 ^ 300 := by decide +kernel
    exact Nat.lt_of_le_of_lt h1 h2
  rw [eM] at main
  refine ⟨main.1, main.2, ?_⟩
  have hxb : intBits x ≤ 2000 := by
    have sp := rOf_spec (x := x) (L := 8) hM
    have h1 := Int.mul_le_mul_of_nonneg_left (two_pow_ge1 (Int.toNat 8)) (show 0 ≤ (x.natAbs : Int) by omega)
    exact bits_mono (bits_abs (b := 10 ^ n * 2 ^ rOf (10 ^ n) x 8) (by omega) (by omega) (shl_bits (c := 400) hb200 (by omega)))
  refine preE_of (B := 64) hM hb200 (by decide) (by omega) hxb (by decide) (bits_mono (PySem.intBits_le_64 (by decide) (by decide))) (fun j hj => ?_)
  obtain ⟨r1, r2⟩ := run j hj
  have hi : rOf (10 ^ n) x 8 - j ≤ rOf (10 ^ n) x 8 := by omega
  have hb' := hbR (rOf (10 ^ n) x 8 - j) hi
  have es : ((10 ^ n : Int) : Rat) * P (rOf (10 ^ n) x 8 - j) = sc (10 ^ n) (rOf (10 ^ n) x 8) j := rfl
  rw [es] at hb'
  have h63 := hb64 (rOf (10 ^ n) x 8 - j) (by omega)
  have h100 := hWs (rOf (10 ^ n) x 8 - j) (by omega)
  have hss := hsc (rOf (10 ^ n) x 8 - j)
  rw [es] at hss
  exact run_bound (B := ((64 : Int) : Rat)) (sc_pos hM _ _) (by grind) r1 r2 hb' (by have : ((64 : Int) : Rat) = 64 := rfl; rw [this]; grind) (by decide)

end Mine

namespace Mine
open PySem.Builtin.Int (intBits)
/-- what the law's own bounds tell -/
structure BDone (c k p low high : Int) : Prop where
  g : Ex.EG ((c : Rat) / ((10 ^ k.toNat : Int) : Rat)) ((low : Rat) / ((10 ^ (2 * p + 16).toNat : Int) : Rat))
  l : Ex.EL ((c : Rat) / ((10 ^ k.toNat : Int) : Rat)) ((high : Rat) / ((10 ^ (2 * p + 16).toNat : Int) : Rat))
  g1 : 10 ^ (2 * p + 16).toNat ≤ low
  l1 : 10 ^ (2 * p + 16).toNat ≤ high
  g2 : low ≤ 64 * 10 ^ (2 * p + 16).toNat
  l2 : high ≤ 64 * 10 ^ (2 * p + 16).toNat
theorem one_facts {n p one : Int} (hp : 1 ≤ p) (hp2 : p ≤ 40) (hn : 0 ≤ n) (hn2 : n ≤ 4 * (p + 5)) (h : 10 ^ (2 * p + 16).toNat = one) : 0 < one ∧ 1000 * 2 ^ n.toNat ≤ one ∧ intBits one ≤ 400 := by
  have key : ∀ q : Fin 41, 1000 * 2 ^ (4 * ((q : Nat) + 5)) ≤ 10 ^ (2 * (q : Nat) + 16) ∧ 10 ^ (2 * (q : Nat) + 16) < 2 ^ 400 := by decide +kernel
  obtain ⟨q, rfl⟩ := Int.eq_ofNat_of_zero_le (show 0 ≤ p by omega)
  have hk := key ⟨q, by omega⟩
  have e1 : (2 * (q : Int) + 16).toNat = 2 * q + 16 := by omega
  rw [e1] at h
  have e2 : ((10 ^ (2 * q + 16) : Nat) : Int) = one := by rw [← h]; exact Int.natCast_pow 10 _
  have k1 : (2 : Nat) ^ n.toNat ≤ 2 ^ (4 * (q + 5)) := Nat.pow_le_pow_right (by decide) (by omega)
  have e3 : ((2 ^ n.toNat : Nat) : Int) = 2 ^ n.toNat := Int.natCast_pow 2 _
  have hk1 : 1000 * 2 ^ (4 * (q + 5)) ≤ 10 ^ (2 * q + 16) := hk.1
  have hk2 : 10 ^ (2 * q + 16) < 2 ^ 400 := hk.2
  have k2 := Nat.two_pow_pos n.toNat
  refine ⟨by omega, by omega, intBits_le_iff.mpr (by omega)⟩
theorem den_bits {one c parts : Int} (h : 0 < one + -c * one / parts) (hc : 0 ≤ c) (ho : 0 < one) (hp : 0 < parts) (hob : intBits one ≤ 400) : intBits (one + -c * one / parts) ≤ 9000 := by
  have k : -c * one / parts ≤ 0 := by
    have : -c * one / parts ≤ 0 / parts := Int.ediv_le_ediv hp (by
      have := Int.mul_nonneg hc (Int.le_of_lt ho)
      rw [Int.neg_mul]; omega)
    rwa [Int.zero_ediv] at this
  exact bits_mono (bits_abs (b := one) (by omega) (by omega) hob)
theorem BInv.turn' {v : Rat} {one : Int} {n : Nat} {low high : Int} {pre : List Int} {x : Int} (ho : 0 < one) (h : BInv v one n pre.length low high) (hj : pre.length < n) :
    BInv v one n (pre ++ [x]).length (low * low / one) (-(-high * high / one)) := by
  rw [List.length_append, List.length_singleton]
  exact h.turn ho hj
theorem v_le1 {c K : Int} (h : c ≤ K) (hK : 0 < K) : (c : Rat) / (K : Rat) ≤ 1 := Ex.div_le (castpos hK) (by have := castle h; grind)
theorem b64 {one a : Int} (ho : 0 < one) (hob : intBits one ≤ 400) (h1 : one ≤ a) (h2 : a ≤ 64 * one) : intBits a ≤ 464 :=
  bits_abs (b := 64 * one) (by omega) h2 (intBits_mul_le (m := 64) (PySem.intBits_le_64 (by decide) (by decide)) hob)
theorem BDone.of {c k p one low high : Int} {n : Nat} (h : BInv ((c : Rat) / ((10 ^ k.toNat : Int) : Rat)) one n n low high) (h1 : low ≤ 64 * one) (h2 : high ≤ 64 * one) (ho : 10 ^ (2 * p + 16).toNat = one) (hpos : 0 < one) : BDone c k p low high := by
  subst ho
  have g := h.g
  have l := h.l
  rw [Nat.sub_self, Ex.P_zero] at g l
  have e : ∀ x : Rat, x / 1 = x := fun x => by grind
  rw [e] at g l
  exact ⟨g, l, h.g1, h.l1, h1, h2⟩
end Mine

namespace Mine
open PySem.Builtin.Int (intBits)
open Ex

/-- bounds of exp (Λ / 2 ^ i), by squaring -/
theorem tab_sq {Λ : Rat} {b : Nat → Rat} {N : Nat} (h0 : EL (Λ / P N) (b N)) (hs : ∀ i, i < N → b (i + 1) * b (i + 1) ≤ b i) : ∀ j, j ≤ N → EL (Λ / P (N - j)) (b (N - j))
  | 0, _ => h0
  | j + 1, hj => by
    have ih := tab_sq h0 hs j (by omega)
    have e := div_P_half Λ (show j < N by omega)
    rw [e]
    refine (EL.add ih ih).mono ?_
    have e2 : N - j = (N - (j + 1)) + 1 := by omega
    rw [e2]
    exact hs _ (by omega)
theorem tab_all {Λ : Rat} {b : Nat → Rat} {N : Nat} (h0 : EL (Λ / P N) (b N)) (hs : ∀ i, i < N → b (i + 1) * b (i + 1) ≤ b i) (i : Nat) (hi : i ≤ N) : EL (Λ / P i) (b i) := by
  have := tab_sq h0 hs (N - i) (by omega)
  have e : N - (N - i) = i := by omega
  rwa [e] at this

/-- up to log(10) -/
def bA : Nat → Rat
  | 10 => 100226 / 100000 | 9 => 1004526 / 1000000 | 8 => 1009073 / 1000000 | 7 => 1018229 / 1000000 | 6 => 1036791 / 1000000 | 5 => 1074936 / 1000000
  | 4 => 1155488 / 1000000 | 3 => 1335153 / 1000000 | 2 => 1782634 / 1000000 | 1 => 3177785 / 1000000 | _ => 10098318 / 1000000
def wA : Nat → Rat
  | 10 => 56 / 100 | 9 => 10613 / 10000 | 8 => 15662 / 10000 | 7 => 20805 / 10000 | 6 => 26185 / 10000 | 5 => 32150 / 10000
  | 4 => 39565 / 10000 | 3 => 50732 / 10000 | 2 => 72784 / 10000 | 1 => 134946 / 10000 | _ => 43520 / 1000
/-- up to 1 -/
def bB : Nat → Rat
  | 8 => 1003937 / 1000000 | 7 => 1007890 / 1000000 | 6 => 1015843 / 1000000 | 5 => 1031938 / 1000000
  | 4 => 1064897 / 1000000 | 3 => 1134006 / 1000000 | 2 => 1285970 / 1000000 | 1 => 1653719 / 1000000 | _ => 2734787 / 1000000
def wB : Nat → Rat
  | 8 => 56 / 100 | 7 => 10623 / 10000 | 6 => 15708 / 10000 | 5 => 20959 / 10000
  | 4 => 26632 / 10000 | 3 => 33368 / 10000 | 2 => 42861 / 10000 | 1 => 60188 / 10000 | _ => 10482 / 1000

theorem bA_top : EL ((2303 : Rat) / 1000 / P 10) (bA 10) := (EL.quad (by decide +kernel)).mono (by decide +kernel)
theorem bB_top : EL ((1 : Rat) / P 8) (bB 8) := (EL.quad (by decide +kernel)).mono (by decide +kernel)
theorem bA_sq : ∀ i : Fin 10, bA ((i : Nat) + 1) * bA ((i : Nat) + 1) ≤ bA (i : Nat) := by decide +kernel
theorem bB_sq : ∀ i : Fin 8, bB ((i : Nat) + 1) * bB ((i : Nat) + 1) ≤ bB (i : Nat) := by decide +kernel
theorem wA_st : ∀ i : Fin 10, 1 / 2 + wA ((i : Nat) + 1) * bA ((i : Nat) + 1) + 3 / 2 * (wA ((i : Nat) + 1) * wA ((i : Nat) + 1)) / (1000 * P ((i : Nat) + 1)) ≤ wA (i : Nat) := by decide +kernel
theorem wB_st : ∀ i : Fin 8, 1 / 2 + wB ((i : Nat) + 1) * bB ((i : Nat) + 1) + 3 / 2 * (wB ((i : Nat) + 1) * wB ((i : Nat) + 1)) / (1000 * P ((i : Nat) + 1)) ≤ wB (i : Nat) := by decide +kernel
theorem A_le : ∀ i : Fin 11, bA (i : Nat) ≤ 63 ∧ 56 / 100 ≤ wA (i : Nat) ∧ wA (i : Nat) ≤ 100 := by decide +kernel
theorem B_le : ∀ i : Fin 9, bB (i : Nat) ≤ 63 ∧ 56 / 100 ≤ wB (i : Nat) ∧ wB (i : Nat) ≤ 100 := by decide +kernel

theorem iexp_A {n : Nat} {x : Int} (hn : 3 ≤ n) (hn2 : n ≤ 90) (hx : 0 ≤ x) (h : (x : Rat) ≤ 2303 / 1000 * (10 : Rat) ^ n) :
    EL ((x : Rat) / (10 : Rat) ^ n) (((iexpF (10 ^ n) x 8 : Rat) + 43520 / 1000) / (10 : Rat) ^ n) ∧ EG ((x : Rat) / (10 : Rat) ^ n) (((iexpF (10 ^ n) x 8 : Rat) - 43520 / 1000) / (10 : Rat) ^ n) ∧ PreE (10 ^ n) x 8 := by
  have hM := ten_pos n
  have hx2 : 1000 * x ≤ 2303 * 10 ^ n := by
    have k : ((1000 * x : Int) : Rat) ≤ ((2303 * 10 ^ n : Int) : Rat) := by
      have e1 : ((1000 * x : Int) : Rat) = 1000 * (x : Rat) := by push_cast; rfl
      have e2 : ((2303 * 10 ^ n : Int) : Rat) = 2303 * (10 : Rat) ^ n := by push_cast; rfl
      rw [e1, e2]
      generalize (10 : Rat) ^ n = N at *
      grind
    exact Rat.intCast_le_intCast.mp k
  have hR : rOf (10 ^ n) x 8 ≤ 10 := rOf_le_pos hM hx (by
    have e8 : (2 : Int) ^ Int.toNat 8 = 256 := by decide
    have e10 : (2 : Int) ^ 10 = 1024 := by decide
    rw [e8, e10]; omega)
  exact iexp_tab (N := 10) (b := bA) (W := wA) (Λ := 2303 / 1000) (w0 := 56 / 100) hn hn2 hx hR (by decide) h (by decide +kernel)
    (fun i hi => tab_all bA_top (fun j hj => bA_sq ⟨j, hj⟩) i hi) (fun i hi => (A_le ⟨i, by omega⟩).1) (fun i hi => (A_le ⟨i, by omega⟩).2.1) (by decide +kernel) (fun i hi => (A_le ⟨i, by omega⟩).2.2) (fun i hi => wA_st ⟨i, hi⟩)
theorem iexp_B {n : Nat} {x : Int} (hn : 3 ≤ n) (hn2 : n ≤ 90) (hx : 0 ≤ x) (h : x < 10 ^ n) :
    EL ((x : Rat) / (10 : Rat) ^ n) (((iexpF (10 ^ n) x 8 : Rat) + 10482 / 1000) / (10 : Rat) ^ n) ∧ EG ((x : Rat) / (10 : Rat) ^ n) (((iexpF (10 ^ n) x 8 : Rat) - 10482 / 1000) / (10 : Rat) ^ n) ∧ PreE (10 ^ n) x 8 := by
  have hM := ten_pos n
  have hx2 : (x : Rat) ≤ 1 * (10 : Rat) ^ n := by
    have k := castle (Int.le_of_lt h)
    rw [ten_cast] at k
    grind
  have hR : rOf (10 ^ n) x 8 ≤ 8 := rOf_le_pos hM hx (by
    have e8 : (2 : Int) ^ Int.toNat 8 = 256 := by decide
    have e10 : (2 : Int) ^ 8 = 256 := by decide
    rw [e8, e10]; omega)
  exact iexp_tab (N := 8) (b := bB) (W := wB) (Λ := 1) (w0 := 56 / 100) hn hn2 hx hR (by decide) hx2 (by decide +kernel)
    (fun i hi => tab_all bB_top (fun j hj => bB_sq ⟨j, hj⟩) i hi) (fun i hi => (B_le ⟨i, by omega⟩).1) (fun i hi => (B_le ⟨i, by omega⟩).2.1) (by decide +kernel) (fun i hi => (B_le ⟨i, by omega⟩).2.2) (fun i hi => wB_st ⟨i, hi⟩)
theorem iexp_C {n : Nat} {x : Int} (hn : 3 ≤ n) (hn2 : n ≤ 90) (hx : 0 ≤ x) (h : 256 * x < 10 ^ n) :
    EL ((x : Rat) / (10 : Rat) ^ n) (((iexpF (10 ^ n) x 8 : Rat) + 503 / 1000) / (10 : Rat) ^ n) ∧ EG ((x : Rat) / (10 : Rat) ^ n) (((iexpF (10 ^ n) x 8 : Rat) - 503 / 1000) / (10 : Rat) ^ n) := by
  have hM := ten_pos n
  have hx2 : (x : Rat) ≤ 1 / 256 * (10 : Rat) ^ n := by
    have k := castle (Int.le_of_lt h)
    rw [ten_cast, rat_mul_cast] at k
    have e : ((256 : Int) : Rat) = 256 := rfl
    rw [e] at k
    generalize (10 : Rat) ^ n = N at *
    grind
  have hR : rOf (10 ^ n) x 8 ≤ 0 := rOf_le_pos hM hx (by
    have e8 : (2 : Int) ^ Int.toNat 8 = 256 := by decide
    rw [e8, Int.pow_zero]; omega)
  have k := iexp_tab (N := 0) (b := fun _ => 2) (W := fun _ => 503 / 1000) (Λ := 1 / 256) (w0 := 503 / 1000) hn hn2 hx hR (by decide) hx2 (by decide +kernel)
    (fun i hi => (EL.quad (by have : i = 0 := by omega
                              subst this; decide +kernel)).mono (by have : i = 0 := by omega
                                                                    subst this; decide +kernel)) (fun i hi => by decide +kernel) (fun i hi => Rat.le_refl) (by decide +kernel) (fun i hi => by decide +kernel) (fun i hi => absurd hi (Nat.not_lt_zero i))
  exact ⟨k.1, k.2.1⟩

end Mine

namespace Mine
open PySem.Builtin.Int (intBits)
open Ex

theorem l10_near_nat : ∀ n : Fin 47, 2 * 10 ^ (n : Nat) ≤ l10 ((n : Nat) : Int) ∧ 1000 * l10 ((n : Nat) : Int) ≤ 2303 * 10 ^ (n : Nat) := by decide +kernel
theorem l10_near {q : Int} (h0 : 0 ≤ q) (h1 : q ≤ 46) : 2 * 10 ^ q.toNat ≤ l10 q ∧ 1000 * l10 q ≤ 2303 * 10 ^ q.toNat := by
  obtain ⟨n, rfl⟩ := Int.eq_ofNat_of_zero_le h0
  exact l10_near_nat ⟨n, by omega⟩

theorem sub_alg {c K S : Rat} (hK : 0 < K) (hS : 0 < S) : c / (K * S) * K = c / S := by grind
/-- c shifted, cut downwards -/
theorem dxC_spec {c k p : Int} (hk : 1 ≤ k) (hp : 0 ≤ p) (hX : dxX c (-k) = 0) :
    ((dxC c (-k) p : Int) : Rat) ≤ (c : Rat) / (10 : Rat) ^ k.toNat * (10 : Rat) ^ (p + 2).toNat ∧ (c : Rat) / (10 : Rat) ^ k.toNat * (10 : Rat) ^ (p + 2).toNat < ((dxC c (-k) p : Int) : Rat) + 1 := by
  unfold dxC
  rw [hX]
  rcases Int.lt_or_le (-k + (p + 2 + 0)) 0 with h | h
  · rw [if_neg (by omega)]
    have hp10 := ten_pos (-(-k + (p + 2 + 0))).toNat
    obtain ⟨a, b⟩ := ediv_rat (a := c) hp10
    rw [ten_cast] at a b
    have e : (c : Rat) / (10 : Rat) ^ k.toNat * (10 : Rat) ^ (p + 2).toNat = (c : Rat) / (10 : Rat) ^ (-(-k + (p + 2 + 0))).toNat := by
      have e2 : k.toNat = (p + 2).toNat + (-(-k + (p + 2 + 0))).toNat := by omega
      rw [e2, pow_add']
      exact sub_alg (tenQ_pos _) (tenQ_pos _)
    rw [e]
    exact ⟨a, b⟩
  · rw [if_pos h]
    have e : (c : Rat) / (10 : Rat) ^ k.toNat * (10 : Rat) ^ (p + 2).toNat = ((c * 10 ^ (-k + (p + 2 + 0)).toNat : Int) : Rat) := by
      have e2 : (p + 2).toNat = k.toNat + (-k + (p + 2 + 0)).toNat := by omega
      rw [e2, pow_add', rat_mul_cast, ten_cast]
      have := tenQ_pos k.toNat
      generalize (10 : Rat) ^ k.toNat = K at *
      generalize (10 : Rat) ^ (-k + (p + 2 + 0)).toNat = S at *
      grind
    rw [e]
    constructor
    · exact Rat.le_refl
    · grind

theorem int_lt_of_rat {a b : Int} (h : (a : Rat) < (b : Rat)) : a < b := by exact_mod_cast h
theorem int_le_of_rat {a b : Int} (h : (a : Rat) ≤ (b : Rat)) : a ≤ b := Rat.intCast_le_intCast.mp h

/-- the parts of _dexp for what is not below nought and below one -/
theorem dx_pos {c k p : Int} (hk : 1 ≤ k) (hp : 1 ≤ p) (hp2 : p ≤ 40) (h0 : 0 ≤ c) (hc : c < 10 ^ k.toNat) :
    dxX c (-k) = 0 ∧ dexpE c (-k) p = 1 - p ∧ dxR c (-k) p = dxC c (-k) p ∧ 0 ≤ dxC c (-k) p ∧ dxC c (-k) p < 10 ^ (p + 2).toNat := by
  have hX := dxX_zero hk (c := c) (by omega)
  obtain ⟨a, b⟩ := dxC_spec hk (by omega : 0 ≤ p) hX
  have hKp := tenQ_pos k.toNat
  have hMp := tenQ_pos (p + 2).toNat
  have hv0 : 0 ≤ (c : Rat) / (10 : Rat) ^ k.toNat := div_nn (castnn h0) hKp
  have hv1 : (c : Rat) / (10 : Rat) ^ k.toNat ≤ 1 := div_le hKp (by have := castle (Int.le_of_lt hc); rw [ten_cast] at this; grind)
  have hC0 : 0 ≤ dxC c (-k) p := by
    unfold dxC
    split
    · exact Int.mul_nonneg h0 (Int.le_of_lt (ten_pos _))
    · exact Int.ediv_nonneg h0 (Int.le_of_lt (ten_pos _))
  have hC1 : dxC c (-k) p < 10 ^ (p + 2).toNat := by
    unfold dxC
    rw [hX]
    rcases Int.lt_or_le (-k + (p + 2 + 0)) 0 with h | h
    · rw [if_neg (by omega)]
      refine Int.ediv_lt_of_lt_mul (ten_pos _) ?_
      rw [← Int.pow_add]
      have : (p + 2).toNat + (-(-k + (p + 2 + 0))).toNat = k.toNat := by omega
      rw [this]; exact hc
    · rw [if_pos h]
      have e2 : (p + 2).toNat = k.toNat + (-k + (p + 2 + 0)).toNat := by omega
      rw [e2, Int.pow_add]
      exact Int.mul_lt_mul_of_pos_right hc (ten_pos _)
  obtain ⟨l1, l2⟩ := l10_near (q := p + 2 + 0) (by omega) (by omega)
  have el : (p + 2 + 0).toNat = (p + 2).toNat := by omega
  rw [el] at l1 l2
  have hq : dxQ c (-k) p = 0 := by
    unfold dxQ
    rw [hX]
    exact Int.ediv_eq_zero_of_lt hC0 (by omega)
  have hR : dxR c (-k) p = dxC c (-k) p := by
    unfold dxR
    rw [hX, Int.emod_eq_of_lt hC0 (by omega)]
    exact divN_one
  refine ⟨hX, ?_, hR, hC0, hC1⟩
  unfold dexpE
  rw [hq]
  omega

theorem dx_neg {c k p : Int} (hk : 1 ≤ k) (hp : 1 ≤ p) (hp2 : p ≤ 40) (h0 : 0 < c) (hc : c < 10 ^ k.toNat) :
    dxX (-c) (-k) = 0 ∧ dexpE (-c) (-k) p = -p ∧ dxR (-c) (-k) p = dxC (-c) (-k) p + l10 (p + 2) ∧ dxC (-c) (-k) p < 0 ∧ -(10 ^ (p + 2).toNat) ≤ dxC (-c) (-k) p := by
  have hX := dxX_zero hk (c := -c) (by omega)
  obtain ⟨a, b⟩ := dxC_spec hk (by omega : 0 ≤ p) hX
  have hKp := tenQ_pos k.toNat
  have hMp := tenQ_pos (p + 2).toNat
  have hv0 : ((-c : Int) : Rat) / (10 : Rat) ^ k.toNat < 0 := by
    rcases Classical.em (((-c : Int) : Rat) / (10 : Rat) ^ k.toNat < 0) with x | x
    · exact x
    · have := le_div_mul hKp (Rat.not_lt.mp x)
      have h2 : ((-c : Int) : Rat) < ((0 : Int) : Rat) := Rat.intCast_lt_intCast.mpr (by omega)
      have e0 : ((0 : Int) : Rat) = 0 := rfl
      grind
  have hv1 : -1 ≤ ((-c : Int) : Rat) / (10 : Rat) ^ k.toNat := le_div hKp (by
    have h2 := castle (show -(10 ^ k.toNat) ≤ -c by omega)
    rw [Rat.intCast_neg, ten_cast] at h2
    grind)
  have m1 := Rat.mul_lt_mul_of_pos_right hv0 hMp
  have m2 := Rat.mul_le_mul_of_nonneg_right hv1 (Rat.le_of_lt hMp)
  have hC0 : dxC (-c) (-k) p < 0 := by
    have : ((dxC (-c) (-k) p : Int) : Rat) < ((0 : Int) : Rat) := by
      have e0 : ((0 : Int) : Rat) = 0 := rfl
      rw [e0]; grind
    exact int_lt_of_rat this
  have hC1 : -(10 ^ (p + 2).toNat) ≤ dxC (-c) (-k) p := by
    have : ((-(10 ^ (p + 2).toNat) : Int) : Rat) < ((dxC (-c) (-k) p + 1 : Int) : Rat) := by
      rw [Rat.intCast_neg, ten_cast]
      have e1 : ((dxC (-c) (-k) p + 1 : Int) : Rat) = ((dxC (-c) (-k) p : Int) : Rat) + 1 := by push_cast; rfl
      rw [e1]; grind
    have := int_lt_of_rat this
    omega
  obtain ⟨l1, l2⟩ := l10_near (q := p + 2) (by omega) (by omega)
  have hpp := ten_pos (p + 2).toNat
  have e0 : p + 2 + 0 = p + 2 := by omega
  have hq : dxQ (-c) (-k) p = -1 := by
    unfold dxQ
    rw [hX, e0]
    have k1 : -1 ≤ dxC (-c) (-k) p / l10 (p + 2) := (Int.le_ediv_iff_mul_le (by omega)).mpr (by omega)
    have k2 : dxC (-c) (-k) p / l10 (p + 2) < 0 := Int.ediv_neg_of_neg_of_pos hC0 (by omega)
    omega
  have hR : dxR (-c) (-k) p = dxC (-c) (-k) p + l10 (p + 2) := by
    have hm := Int.mul_ediv_add_emod (dxC (-c) (-k) p) (l10 (p + 2))
    unfold dxQ at hq
    rw [hX, e0] at hq
    rw [hq] at hm
    unfold dxR
    rw [hX, e0]
    have e1 : dxC (-c) (-k) p % l10 (p + 2) = dxC (-c) (-k) p + l10 (p + 2) := by omega
    rw [e1]
    exact divN_one
  refine ⟨hX, ?_, hR, hC0, hC1⟩
  unfold dexpE
  rw [hq]
  omega

end Mine

namespace Mine
open PySem.Builtin.Int (intBits)
open Ex

/-- the two comparisons, cross-multiplied: M' the scale, h, l bounds by one -/
theorem cmp_hi {d I one H slack : Int} {M W h : Rat} (ho : 0 < one) (hM : 0 < M) (hd : 1000 * d ≤ I + 500) (hI : ((I : Rat) - W) / M ≤ h) (hH : h * M * (one : Rat) ≤ (H : Rat)) (hs : 500 + W < (slack : Rat)) :
    (1000 * d - slack) * one < H := by
  have ho' := castpos ho
  have k1 := div_le_mul hM hI
  have k2 : (1000 * (d : Rat)) ≤ (I : Rat) + 500 := by
    have := castle hd
    have e1 : ((1000 * d : Int) : Rat) = 1000 * (d : Rat) := by push_cast; rfl
    have e2 : ((I + 500 : Int) : Rat) = (I : Rat) + 500 := by push_cast; rfl
    rw [e1, e2] at this
    exact this
  have k3 : (1000 * (d : Rat) - (slack : Rat)) * (one : Rat) < h * M * (one : Rat) := Rat.mul_lt_mul_of_pos_right (by grind) ho'
  refine int_lt_of_rat ?_
  have e : (((1000 * d - slack) * one : Int) : Rat) = (1000 * (d : Rat) - (slack : Rat)) * (one : Rat) := by push_cast; rfl
  rw [e]
  grind
theorem cmp_lo {d I one H slack : Int} {M W l : Rat} (ho : 0 < one) (hM : 0 < M) (hd : I ≤ 1000 * d + 500) (hI : l ≤ ((I : Rat) + W) / M) (hH : (H : Rat) ≤ l * M * (one : Rat)) (hs : 500 + W < (slack : Rat)) :
    H < (1000 * d + slack) * one := by
  have ho' := castpos ho
  have k1 := le_div_mul hM hI
  have k2 : (I : Rat) ≤ (1000 * (d : Rat)) + 500 := by
    have := castle hd
    have e1 : ((1000 * d + 500 : Int) : Rat) = 1000 * (d : Rat) + 500 := by push_cast; rfl
    rw [e1] at this
    exact this
  have k3 : l * M * (one : Rat) < (1000 * (d : Rat) + (slack : Rat)) * (one : Rat) := Rat.mul_lt_mul_of_pos_right (by grind) ho'
  refine int_lt_of_rat ?_
  have e : (((1000 * d + slack) * one : Int) : Rat) = (1000 * (d : Rat) + (slack : Rat)) * (one : Rat) := by push_cast; rfl
  rw [e]
  grind
theorem div1000 {I : Int} : 1000 * divN I 1000 ≤ I + 500 ∧ I ≤ 1000 * divN I 1000 + 500 := by
  have := divN_spec (a := I) (b := 1000) (by decide)
  omega

/-- shifting the argument by s units of M -/
theorem shift_up {q v I M W s : Rat} (hM : 1000 ≤ M) (hs0 : 0 ≤ s) (hs : s ≤ 2) (h : EL q ((I + W) / M)) (hv : v ≤ q + s / M) (hb : (I + W) ≤ 11 * M) : EL v ((I + (W + s * (I + W) / M + 1 / 10)) / M) := by
  have hM0 : 0 < M := by grind
  have hx : s / M ≤ 1 / 2 := div_le hM0 (by grind)
  have k := (EL.add h (EL.quad hx)).exp_mono hv
  refine k.mono ?_
  have hp := h.pos
  have hIW : 0 < I + W := by
    rcases Classical.em (0 < I + W) with y | y
    · exact y
    · have : (I + W) / M ≤ 0 := div_le hM0 (by grind)
      grind
  refine le_div hM0 ?_
  have e : (I + W) / M * (1 + s / M + 2 * (s / M * (s / M))) * M = I + W + s * (I + W) / M + 2 * s * (s / M) * ((I + W) / M) := by grind
  rw [e]
  have m1 : (I + W) / M ≤ 11 := div_le hM0 (by grind)
  have m2 : s / M ≤ 2 / 1000 := div_le hM0 (by grind)
  have m3 : 0 ≤ s / M := div_nn hs0 hM0
  have m4 := Rat.mul_le_mul_of_nonneg_left m1 (show 0 ≤ 2 * s * (s / M) from Rat.mul_nonneg (by grind) m3)
  have m5 := Rat.mul_le_mul_of_nonneg_left m2 (show 0 ≤ 2 * s by grind)
  have m6 : 2 * s * (s / M) * 11 ≤ 1 / 10 := by grind
  grind

theorem ten3 {p : Int} (hp : 1 ≤ p) : (1000 : Rat) * (10 : Rat) ^ (-(1 - p)).toNat = (10 : Rat) ^ (p + 2).toNat := by
  have e : (p + 2).toNat = 3 + (-(1 - p)).toNat := by omega
  rw [e, pow_add']
  have : (10 : Rat) ^ 3 = 1000 := by decide +kernel
  rw [this]
theorem ten2 {p : Int} (hp : 1 ≤ p) : (1000 : Rat) * (10 : Rat) ^ (- -p).toNat = 10 * (10 : Rat) ^ (p + 2).toNat := by
  have e : (p + 2).toNat = 2 + (- -p).toNat := by omega
  rw [e, pow_add']
  have : (10 : Rat) ^ 2 = 100 := by decide +kernel
  rw [this]
  grind
theorem ten1000 {p : Int} (hp : 1 ≤ p) : (1000 : Rat) ≤ (10 : Rat) ^ (p + 2).toNat := by
  have h1 : (10 : Nat) ^ 3 ≤ 10 ^ (p + 2).toNat := Nat.pow_le_pow_right (by decide) (by omega)
  have h2 : ((10 ^ 3 : Nat) : Rat) ≤ ((10 ^ (p + 2).toNat : Nat) : Rat) := by exact_mod_cast h1
  push_cast at h2
  grind

theorem cast3 {h : Int} {n : Nat} : ((1000 * h * 10 ^ n : Int) : Rat) = (h : Rat) * (1000 * (10 : Rat) ^ n) := by push_cast; grind
theorem one_cancel {h one M : Rat} (ho : 0 < one) : h / one * M * one = h * M := by grind
theorem vle_alg {c K M C : Rat} (hM : 0 < M) (h : C ≤ c / K * M) : C / M ≤ c / K := div_le hM h
theorem vge_alg {v M C : Rat} (hM : 0 < M) (h : v * M < C + 1) : v ≤ C / M + 1 / M := by
  have e : C / M + 1 / M = (C + 1) / M := by grind
  rw [e]
  exact le_div hM (by grind)

theorem law08_pos_core {c k p slack : Int} {W : Rat} (hk : 1 ≤ k) (hp : 1 ≤ p) (hp2 : p ≤ 40) (h0 : 0 ≤ c) (hc : c < 10 ^ k.toNat) (hW0 : 0 ≤ W)
    (e1 : EL ((dxR c (-k) p : Rat) / (10 : Rat) ^ (p + 2).toNat) (((iexpF (10 ^ (p + 2).toNat) (dxR c (-k) p) 8 : Rat) + W) / (10 : Rat) ^ (p + 2).toNat))
    (e2 : EG ((dxR c (-k) p : Rat) / (10 : Rat) ^ (p + 2).toNat) (((iexpF (10 ^ (p + 2).toNat) (dxR c (-k) p) 8 : Rat) - W) / (10 : Rat) ^ (p + 2).toNat))
    {g : Rat} (hg : EL ((dxR c (-k) p : Rat) / (10 : Rat) ^ (p + 2).toNat) g) (hg2 : g + 2 * W / 1000 ≤ 11) (hs : 500 + (W + (g + 2 * W / 1000) + 1 / 10) < (slack : Rat))
    {low high : Int} (B : BDone c k p low high) :
    (1000 * dexpD c (-k) p - slack) * 10 ^ (2 * p + 16).toNat < 1000 * high * 10 ^ (-(1 - p)).toNat ∧ 1000 * low * 10 ^ (-(1 - p)).toNat < (1000 * dexpD c (-k) p + slack) * 10 ^ (2 * p + 16).toNat := by
  obtain ⟨hX, _, hR, _, _⟩ := dx_pos hk hp hp2 h0 hc
  obtain ⟨a, b⟩ := dxC_spec hk (by omega : 0 ≤ p) hX
  rw [← hR] at a b
  have ho := ten_pos (2 * p + 16).toNat
  have hM := tenQ_pos (p + 2).toNat
  have hM1 := ten1000 hp
  have t3 := ten3 hp
  have gB := B.g
  have lB := B.l
  rw [ten_cast k.toNat] at gB lB
  have ho' := castpos ho
  have hH : (high : Rat) / ((10 ^ (2 * p + 16).toNat : Int) : Rat) * (10 : Rat) ^ (p + 2).toNat * ((10 ^ (2 * p + 16).toNat : Int) : Rat) = ((1000 * high * 10 ^ (-(1 - p)).toNat : Int) : Rat) := by
    rw [cast3, t3]; exact one_cancel ho'
  have hL : (low : Rat) / ((10 ^ (2 * p + 16).toNat : Int) : Rat) * (10 : Rat) ^ (p + 2).toNat * ((10 ^ (2 * p + 16).toNat : Int) : Rat) = ((1000 * low * 10 ^ (-(1 - p)).toNat : Int) : Rat) := by
    rw [cast3, t3]; exact one_cancel ho'
  have hv1 := vle_alg hM a
  have hv2 := vge_alg hM b
  obtain ⟨d1, d2⟩ := div1000 (I := iexpF (10 ^ (p + 2).toNat) (dxR c (-k) p) 8)
  have hD : dexpD c (-k) p = divN (iexpF (10 ^ (p + 2).toNat) (dxR c (-k) p) 8) 1000 := rfl
  rw [← hD] at d1 d2
  generalize dexpD c (-k) p = d at *
  -- the size of I
  have kg := e2.le hg
  have kg2 := div_le_mul hM kg
  have hIW : ((iexpF (10 ^ (p + 2).toNat) (dxR c (-k) p) 8 : Rat) + W) ≤ (g + 2 * W / 1000) * (10 : Rat) ^ (p + 2).toNat := by
    have := Rat.mul_le_mul_of_nonneg_left hM1 (show 0 ≤ 2 * W / 1000 from div_nn (by grind) (by decide))
    have e : 2 * W / 1000 * 1000 = 2 * W := Rat.div_mul_cancel (by decide)
    generalize 2 * W / 1000 = w at *
    grind
  generalize iexpF (10 ^ (p + 2).toNat) (dxR c (-k) p) 8 = I at *
  generalize (dxR c (-k) p : Rat) = x at *
  generalize (10 : Rat) ^ (p + 2).toNat = M at *
  have h11 := Rat.mul_le_mul_of_nonneg_right hg2 (Rat.le_of_lt hM)
  constructor
  · exact cmp_hi ho hM d1 ((e2.exp_mono hv1).le lB) (by rw [hH]; exact Rat.le_refl) (by
      have : 0 ≤ g := Rat.le_of_lt hg.pos
      have : 0 ≤ 2 * W / 1000 := div_nn (by grind) (by decide)
      grind)
  · have k := shift_up (s := 1) hM1 (by decide) (by decide) e1 hv2 (by grind)
    refine cmp_lo ho hM d2 (gB.le k) (by rw [hL]; exact Rat.le_refl) ?_
    have k3 : 1 * ((I : Rat) + W) / M ≤ g + 2 * W / 1000 := div_le hM (by grind)
    grind


theorem law08_pos {c k p : Int} (hk : 1 ≤ k) (hp : 1 ≤ p) (hp2 : p ≤ 40) (h0 : 0 ≤ c) (hc : c < 10 ^ k.toNat) {slack : Int} (hs : 520 ≤ slack ∨ slack = 502 ∧ 256 * c < 10 ^ k.toNat) :
    dexpE c (-k) p = 1 - p ∧ p + 2 + dxX c (-k) ≤ 46 ∧ PreE (10 ^ (p + 2).toNat) (dxR c (-k) p) 8 ∧ ∀ low high, BDone c k p low high →
      (1000 * dexpD c (-k) p - slack) * 10 ^ (2 * p + 16).toNat < 1000 * high * 10 ^ (-(1 - p)).toNat ∧ 1000 * low * 10 ^ (-(1 - p)).toNat < (1000 * dexpD c (-k) p + slack) * 10 ^ (2 * p + 16).toNat := by
  obtain ⟨hX, hE, hR, hC0, hC1⟩ := dx_pos hk hp hp2 h0 hc
  rw [← hR] at hC0 hC1
  obtain ⟨b1, b2, b3⟩ := iexp_B (n := (p + 2).toNat) (by omega) (by omega) hC0 hC1
  refine ⟨hE, by omega, b3, fun low high B => ?_⟩
  rcases hs with h520 | ⟨rfl, h256⟩
  · have h520' : (520 : Rat) ≤ (slack : Rat) := castle h520
    have hg := tab_all bB_top (fun j hj => bB_sq ⟨j, hj⟩) 0 (by decide)
    have hx1 : (dxR c (-k) p : Rat) / (10 : Rat) ^ (p + 2).toNat ≤ 1 / P 0 := by
      rw [P_zero]
      have e : (1 : Rat) / 1 = 1 := by decide +kernel
      rw [e]
      refine div_le (tenQ_pos _) ?_
      have := castle (Int.le_of_lt hC1)
      rw [ten_cast] at this
      grind
    exact law08_pos_core hk hp hp2 h0 hc (by decide +kernel) b1 b2 (hg.exp_mono hx1) (by decide +kernel) (lt_lt_le (by decide +kernel) h520') B
  · have h256' : 256 * dxR c (-k) p < 10 ^ (p + 2).toNat := by
      have hd := dx_pos hk hp hp2 (show 0 ≤ 256 * c by omega) h256
      -- 256 C ≤ the shifted 256 c
      obtain ⟨a, b⟩ := dxC_spec hk (by omega : 0 ≤ p) hX
      rw [← hR] at a
      have hKp := tenQ_pos k.toNat
      have hMp := tenQ_pos (p + 2).toNat
      have hv : (c : Rat) / (10 : Rat) ^ k.toNat < 1 / 256 := by
        rcases Classical.em ((c : Rat) / (10 : Rat) ^ k.toNat < 1 / 256) with y | y
        · exact y
        · have k1 := le_div_mul hKp (Rat.not_lt.mp y)
          have k2 : ((256 * c : Int) : Rat) < ((10 ^ k.toNat : Int) : Rat) := Rat.intCast_lt_intCast.mpr h256
          rw [ten_cast, rat_mul_cast] at k2
          have e : ((256 : Int) : Rat) = 256 := rfl
          rw [e] at k2
          generalize (10 : Rat) ^ k.toNat = K at *
          grind
      have m := Rat.mul_lt_mul_of_pos_right hv hMp
      refine int_lt_of_rat ?_
      rw [ten_cast, rat_mul_cast]
      have e : ((256 : Int) : Rat) = 256 := rfl
      rw [e]
      generalize (10 : Rat) ^ (p + 2).toNat = M at *
      grind
    obtain ⟨c1, c2⟩ := iexp_C (n := (p + 2).toNat) (by omega) (by omega) hC0 h256'
    have hx1 : (dxR c (-k) p : Rat) / (10 : Rat) ^ (p + 2).toNat ≤ 1 / 256 := by
      refine div_le (tenQ_pos _) ?_
      have := castle (Int.le_of_lt h256')
      rw [ten_cast, rat_mul_cast] at this
      have e : ((256 : Int) : Rat) = 256 := rfl
      rw [e] at this
      grind
    exact law08_pos_core (g := 1004 / 1000) hk hp hp2 h0 hc (by decide +kernel) c1 c2 ((EL.quad (x := 1 / 256) (by decide +kernel)).exp_mono hx1 |>.mono (by decide +kernel)) (by decide +kernel) (by decide +kernel) B

/-- one by a lower bound is an upper one of exp of the other sign; and so on -/
theorem flip_hi {v : Rat} {one low : Int} (ho : 0 < one) (hl : 0 < low) (g : EG v ((low : Rat) / (one : Rat))) : EL (-v) (((-(-one * one / low) : Int) : Rat) / (one : Rat)) := by
  have ho' := castpos ho
  have hl' := castpos hl
  refine (g.neg (div_pos hl' ho')).mono (le_div ho' ?_)
  obtain ⟨a, b⟩ := ediv_rat (a := -one * one) hl
  have eo : ((-one * one : Int) : Rat) = -((one : Rat) * (one : Rat)) := by push_cast; grind
  rw [eo] at a b
  rw [Rat.intCast_neg]
  generalize ((-one * one / low : Int) : Rat) = q at *
  generalize (one : Rat) = o at *
  generalize (low : Rat) = l at *
  have e : 1 / (l / o) * o = o * o / l := by grind
  have e2 : -(o * o) / l = -(o * o / l) := by grind
  rw [e]
  grind
theorem flip_lo {v : Rat} {one high : Int} (ho : 0 < one) (hl : 0 < high) (g : EL v ((high : Rat) / (one : Rat))) : EG (-v) (((one * one / high : Int) : Rat) / (one : Rat)) := by
  have ho' := castpos ho
  have hl' := castpos hl
  refine g.neg.mono (div_le ho' ?_)
  obtain ⟨a, b⟩ := ediv_rat (a := one * one) hl
  rw [rat_mul_cast] at a b
  generalize ((one * one / high : Int) : Rat) = q at *
  generalize (one : Rat) = o at *
  generalize (high : Rat) = l at *
  have e : 1 / (l / o) * o = o * o / l := by grind
  rw [e]
  exact a

theorem neg_alg {x C l M v : Rat} (hM : 0 < M) (hx : x = C + l) (h : C ≤ v * M) : x / M ≤ v + l / M := by
  have e : v + l / M = (v * M + l) / M := by grind
  rw [e, hx]
  exact div_mono hM (by grind)
theorem neg_alg2 {x C l M v : Rat} (hM : 0 < M) (hx : x = C + l) (h : v * M < C + 1) : v + (l + 1) / M ≤ x / M + 2 / M := by
  have e : v + (l + 1) / M = (v * M + (l + 1)) / M := by grind
  have e2 : x / M + 2 / M = (x + 2) / M := by grind
  rw [e, e2, hx]
  exact div_mono hM (by grind)

theorem law08_neg {c k p : Int} (hk : 1 ≤ k) (hp : 1 ≤ p) (hp2 : p ≤ 40) (h0 : 0 < c) (hc : c < 10 ^ k.toNat) :
    dexpE (-c) (-k) p = -p ∧ p + 2 + dxX (-c) (-k) ≤ 46 ∧ PreE (10 ^ (p + 2).toNat) (dxR (-c) (-k) p) 8 ∧ ∀ low high, BDone c k p low high →
      (1000 * dexpD (-c) (-k) p - 570) * 10 ^ (2 * p + 16).toNat < 1000 * (-(-10 ^ (2 * p + 16).toNat * 10 ^ (2 * p + 16).toNat / low)) * 10 ^ (- -p).toNat ∧
      1000 * (10 ^ (2 * p + 16).toNat * 10 ^ (2 * p + 16).toNat / high) * 10 ^ (- -p).toNat < (1000 * dexpD (-c) (-k) p + 570) * 10 ^ (2 * p + 16).toNat := by
  obtain ⟨hX, hE, hR, hC0, hC1⟩ := dx_neg hk hp hp2 h0 hc
  obtain ⟨l1, l2⟩ := l10_near (q := p + 2) (by omega) (by omega)
  obtain ⟨s1, s2⟩ := l10_spec (q := p + 2) (by omega) (by omega)
  obtain ⟨a, b⟩ := dxC_spec hk (by omega : 0 ≤ p) hX
  have ho := ten_pos (2 * p + 16).toNat
  have hMi := ten_pos (p + 2).toNat
  have hM := tenQ_pos (p + 2).toNat
  have hM1 := ten1000 hp
  have t2 := ten2 hp
  have ho' := castpos ho
  have hR' : (dxR (-c) (-k) p : Rat) = (dxC (-c) (-k) p : Rat) + (l10 (p + 2) : Rat) := by rw [hR]; push_cast; rfl
  have hx0 : 0 ≤ dxR (-c) (-k) p := by omega
  have hxA : (dxR (-c) (-k) p : Rat) ≤ 2303 / 1000 * (10 : Rat) ^ (p + 2).toNat := by
    have k1 := castle (show 1000 * dxR (-c) (-k) p ≤ 2303 * 10 ^ (p + 2).toNat by omega)
    rw [rat_mul_cast, rat_mul_cast, ten_cast] at k1
    have e1 : ((1000 : Int) : Rat) = 1000 := rfl
    have e2 : ((2303 : Int) : Rat) = 2303 := rfl
    rw [e1, e2] at k1
    generalize (10 : Rat) ^ (p + 2).toNat = M at *
    grind
  obtain ⟨e1, e2, e3⟩ := iexp_A (n := (p + 2).toNat) (by omega) (by omega) hx0 hxA
  refine ⟨hE, by omega, e3, fun low high B => ?_⟩
  have gB := B.g
  have lB := B.l
  have hlo : 0 < low := by have := B.g1; omega
  have hhi : 0 < high := by have := B.l1; omega
  rw [ten_cast k.toNat] at gB lB
  have fh := flip_hi ho hlo gB
  have fl := flip_lo ho hhi lB
  have ev : -((c : Rat) / (10 : Rat) ^ k.toNat) = ((-c : Int) : Rat) / (10 : Rat) ^ k.toNat := by rw [Rat.intCast_neg]; grind
  rw [ev] at fh fl
  have hv1 := neg_alg hM hR' a
  have hv2 := neg_alg2 hM hR' b
  generalize (-(-10 ^ (2 * p + 16).toNat * 10 ^ (2 * p + 16).toNat / low) : Int) = H' at *
  generalize (10 ^ (2 * p + 16).toNat * 10 ^ (2 * p + 16).toNat / high : Int) = L' at *
  have hg := tab_all bA_top (fun j hj => bA_sq ⟨j, hj⟩) 0 (by decide)
  have hx1 : (dxR (-c) (-k) p : Rat) / (10 : Rat) ^ (p + 2).toNat ≤ 2303 / 1000 / P 0 := by
    rw [P_zero]
    have e : (2303 : Rat) / 1000 / 1 = 2303 / 1000 := by decide +kernel
    rw [e]
    exact div_le hM hxA
  have hg' := hg.exp_mono hx1
  have eb : bA 0 = 10098318 / 1000000 := rfl
  rw [eb] at hg'
  obtain ⟨d1, d2⟩ := div1000 (I := iexpF (10 ^ (p + 2).toNat) (dxR (-c) (-k) p) 8)
  have hD : dexpD (-c) (-k) p = divN (iexpF (10 ^ (p + 2).toNat) (dxR (-c) (-k) p) 8) 1000 := rfl
  rw [← hD] at d1 d2
  generalize dexpD (-c) (-k) p = d at *
  have kg := div_le_mul hM (e2.le hg')
  have hH : ((10 : Rat) * ((H' : Rat) / ((10 ^ (2 * p + 16).toNat : Int) : Rat))) * (10 : Rat) ^ (p + 2).toNat * ((10 ^ (2 * p + 16).toNat : Int) : Rat) = ((1000 * H' * 10 ^ (- -p).toNat : Int) : Rat) := by
    rw [cast3, t2]
    generalize ((10 ^ (2 * p + 16).toNat : Int) : Rat) = o at *
    generalize (10 : Rat) ^ (p + 2).toNat = M at *
    grind
  have hL : ((10 : Rat) * ((L' : Rat) / ((10 ^ (2 * p + 16).toNat : Int) : Rat))) * (10 : Rat) ^ (p + 2).toNat * ((10 ^ (2 * p + 16).toNat : Int) : Rat) = ((1000 * L' * 10 ^ (- -p).toNat : Int) : Rat) := by
    rw [cast3, t2]
    generalize ((10 ^ (2 * p + 16).toNat : Int) : Rat) = o at *
    generalize (10 : Rat) ^ (p + 2).toNat = M at *
    grind
  generalize iexpF (10 ^ (p + 2).toNat) (dxR (-c) (-k) p) 8 = I at *
  have hIW : ((I : Rat) + 43520 / 1000) ≤ 11 * (10 : Rat) ^ (p + 2).toNat := by
    generalize (10 : Rat) ^ (p + 2).toNat = M at *
    grind
  have hIW2 : 2 * ((I : Rat) + 43520 / 1000) / (10 : Rat) ^ (p + 2).toNat ≤ 205 / 10 := div_le hM (by
    generalize (10 : Rat) ^ (p + 2).toNat = M at *
    grind)
  constructor
  · refine cmp_hi ho hM d1 (W := 43520 / 1000) (h := 10 * ((H' : Rat) / ((10 ^ (2 * p + 16).toNat : Int) : Rat))) ?_ (by rw [hH]; exact Rat.le_refl) (by decide +kernel)
    have k2 := (EL.add fh s1).exp_mono hv1
    have := e2.le k2
    grind
  · refine cmp_lo ho hM d2 (W := 43520 / 1000 + 205 / 10 + 1 / 10) (l := 10 * ((L' : Rat) / ((10 ^ (2 * p + 16).toNat : Int) : Rat))) ?_ (by rw [hL]; exact Rat.le_refl) (by decide +kernel)
    have k := shift_up (s := 2) hM1 (by decide) (by decide) e1 hv2 hIW
    have k2 := (EG.add fl s2 (by decide)).le k
    refine Rat.le_trans ?_ (div_mono hM (show (I : Rat) + (43520 / 1000 + 2 * ((I : Rat) + 43520 / 1000) / (10 : Rat) ^ (p + 2).toNat + 1 / 10) ≤ (I : Rat) + (43520 / 1000 + 205 / 10 + 1 / 10) by
      generalize 2 * ((I : Rat) + 43520 / 1000) / (10 : Rat) ^ (p + 2).toNat = y at *
      grind))
    refine Rat.le_trans ?_ k2
    grind

end Mine

open_top hd08 for PySem.Challenge.rw_dm0269_08

local macro_rules | `(tactic| walk_at "call builtin:divmod") => `(tactic| ((with_reducible show wpAny _ _ (call (Value.builtin _) [Value.int _ _, Value.int _ _]) _ _ _); refine divmod_N (by assumption) (by assumption) (by omega) ?_ (Mine.noPy (by assumption)); intro _ _ _))
local macro_rules | `(tactic| walk_at "pyIter ref") => `(tactic| (k_here; (with_reducible show wpAny _ _ (pyIter (Value.ref _)) _ _ _); refine Mine.Stop.out ?_))
local macro_rules | `(tactic| walk_at "binaryOp FloorDiv int int") => `(tactic| (k_here; (with_reducible show wpAny _ _ (binaryOp Operator.FloorDiv (Value.int _ _) (Value.int _ _)) _ _ _); refine Mine.Stop.out ?_))
local macro_rules | `(tactic| walk_at "call ref") => `(tactic| (k_here; (with_reducible show wpAny _ _ (call (Value.ref _) (Value.int _ _ :: _)) _ _ _); refine Mine.Stop.out ?_))
local macro_rules | `(tactic| walk_at "call type:str") => `(tactic| (k_here; (with_reducible show wpAny _ _ (call (Value.type "str") [Value.int _ _]) _ _ _); refine Mine.Stop.out ?_))
local macro_rules | `(tactic| walk_at "binaryOp LShift int int") => `(tactic| (k_here; (with_reducible refine lshift_int ?kbn ?kbs ?_); (case kbn => omega); (case kbs => first | exact Mine.abs_shl (Mine.Bd.out (by assumption)) (by omega) | exact Mine.shl_ok (Mine.Bd.out (by assumption)) (by omega))))
local macro_rules | `(tactic| walk_at "compareOp NotEq int int") => `(tactic| (with_reducible refine Mine.ne_same ?_))
local macro_rules | `(tactic| walk_at "binaryOp Mod int int") => `(tactic| (k_here; (with_reducible refine Mine.mod_gen ?hmb ?_); (case hmb => first | omega | decide | fail "the divisor"); intro r9 hr9 hs9))
local macro_rules | `(tactic| walk_at "UnrEndW") => `(tactic| (k_dflt ktu_end))
local macro_rules | `(tactic| walk_at "binaryOp Pow int int") => `(tactic| (k_here; (with_reducible refine pow_int_small ?kb1 ?kb2 ?kb3 ?_); (case kb1 => first | decide | omega); (case kb2 => first | decide | omega); (case kb3 => decide)))
namespace Mine
open PySem.Builtin.Int (intBits)
section
variable {w : World} {loose : List Str} {mean : ExcName → Option Value} {mg mb : Str → Option Value} {news : List (Addr × Obj)} {dp un : Nat} {gd : Option (List Code)} {cn : Str} {cs : PySem.Scope} {ca : Addr} {ccd : Value} {cl : List (Str × Addr)} {outer : List Env} {A₀ : Around} {base h₀ : Heap} {L : Addr} {m : Str → Option Value} {s : Shared} {Q E : Value → Shared → Prop}
theorem c_div {a b : Int} {ta tb : Tok} (B : Below A₀ base outer h₀) (F : Fr h₀ L s.heap m) (X : (hd08.heap_39 w.params).In h₀) (N : News h₀ L s.heap news) (T : Top hd08.view_39 loose mean mg mb h₀) (hk : cs.kind = .function)
  (hb : 0 < b) (hb2 : intBits b ≤ 9000) (hd : dp + 2 < recursionLimit) (hu : un + 16 < cLine)
  (hret : ∀ (t : Tok) (h' : Heap) (tk' : Nat), Fr h₀ L h' m → News h₀ L h' news → Q (.int (divN a b) t) { s with heap := h', toks := tk' }) :
  wpAny (model PySem.Challenge.rw_dm0269_08.row.prog w) (ktrTop dp un gd cn cs L ca ccd cl outer) (call (.ref 35) [.int a ta, .int b tb]) Q E s := by
  revert X; k_fill; intro X
  refine wpAny_call ?_
  k_dflt cell_enter
  k_steps
  refine cb_retI (Q := Q) hret ?e1 ?e2 ?e3
  case e2 => k_asm
  case e3 => first | k_asm | (refine' cb_drop ?cbN ?cbS; (case cbN => assumption); (case cbS => kcj_all))
  case e1 => exact divN_of hb
theorem c_iexp {x M : Int} {ta tb : Tok} (B : Below A₀ base outer h₀) (F : Fr h₀ L s.heap m) (X : (hd08.heap_39 w.params).In h₀) (N : News h₀ L s.heap news) (T : Top hd08.view_39 loose mean mg mb h₀) (hk : cs.kind = .function)
  (hM : 0 < M) (hM2 : intBits M ≤ 1000) (hx : intBits x ≤ 2000) (hR : rOf M x 8 ≤ 1000)
  (he : ∀ j : Nat, (j : Int) < tOf M 8 → intBits (eS x (M * 2 ^ rOf M x 8) (tOf M 8) j) ≤ 3000)
  (hdd : ∀ j : Nat, j ≤ rOf M x 8 → intBits (dS M (rOf M x 8) (iexpY M x 8) j) ≤ 3000)
  (hd : dp + 4 < recursionLimit) (hu : un + 40 < cLine)
  (hret : ∀ (t : Tok) (h' : Heap) (tk' : Nat), Fr h₀ L h' m → News h₀ L h' news → Q (.int (iexpF M x 8) t) { s with heap := h', toks := tk' }) :
  wpAny (model PySem.Challenge.rw_dm0269_08.row.prog w) (ktrTop dp un gd cn cs L ca ccd cl outer) (call (.ref 83) [.int x ta, .int M tb]) Q E s := by
  revert X; k_fill; intro X
  have hxb := Bd.mk hx
  have hMb := Bd.mk hM2
  k_with "state" => first | exact rfl | exact eS_turn (by assumption) | exact dS_turn (by assumption) (by show _ < intBits ((_ * _) / _); omega)
  refine wpAny_call ?_
  k_dflt (refine' code_def ?k1 ?k2 ?k3 ?k4 ?k5 ?kA ?kF ?kK ?k6 ?k7 ?k8 ?k9 ?kB ?_ ?c2 ?c3 ?c4 ?c5; (case kA => exact rfl); (case kF => exact rfl); (case kK => assumption); (case k1 => k_asm); (case k2 => k_asm); (case k3 => k_asm); (case k4 => k_asm); (case k5 => k_asm); (case k6 => k_is); (case k7 => k_is); (case k8 => ktr_room); (case k9 => exact binds_K (by k_in) rfl (by k_is) rfl rfl rfl); (case c5 => decide); (case kB => exact locs rfl); (case c2 => exact rfl); (case c3 => exact rfl); (case c4 => exact rfl); k_whole; intro g' L' h' FG' F' N' B' X' T'; (try dsimp only); (try k_lift B'); (try k_fold))
  k_steps
  refine Stop.mk ?_
  refine floordiv_pos hM (bits_mono hM2) ?_
  k_steps
  refine Stop.mk ?_
  refine P.str_of_int (log_of_bits hM2) ?_
  k_steps
  refine len_digs hM2 ?_
  have hTp := tOf_pos (L := 8) (Int.le_of_lt hM) (by decide)
  have hTl := tOf_le (L := 8) (by decide) hM2 (by decide)
  have hTp' : 0 < -((-10 * digs M) / (3 * 8)) := hTp
  have hTl' : -((-10 * digs M) / (3 * 8)) ≤ 10 * (1000 + 1) := hTl
  have hR' : intBits ((x * 2 ^ Int.toNat 8) / M) ≤ 1000 := hR
  k_steps
  refine Stop.mk ?_
  refine floordiv_pos (by omega) (bits_small (b := 1000) (by omega) (by omega)) ?_
  k_steps
  refine Stop.mk ?_
  (with_unfolding_all refine' c_div ?k1_1 ?k2_1 ?k3_1 ?k4_1 ?k5_1 ?kK_1 ?kp_1 ?kq_1 ?kd_1 ?ku_1 ?kR_1); (case k1_1 => k_asm); (case k2_1 => k_asm); (case k3_1 => k_asm); (case k4_1 => k_asm); (case k5_1 => k_asm); (case kK_1 => first | exact rfl | assumption); (case kp_1 => exact hTp); (case kq_1 => exact bits_small hTp hTl); (case kd_1 => ktr_room); (case ku_1 => ktr_units); (intro t9 h9 tk9 F9 N9); (try dsimp only); (try k_fold)
  k_steps
  refine Stop.mk ?_
  have hMsp : 0 < M * 2 ^ rOf M x 8 := shl_pos hM _
  have hMsb : intBits (M * 2 ^ rOf M x 8) ≤ 2001 := shl_bits hM2 (by omega)
  k_state (fun pre y => y = eS x (M * 2 ^ rOf M x 8) (tOf M 8) pre.length) "y"
  · subst kInv
    have heb := he kPre.length (by show _ < -((-10 * digs M) / (3 * 8)); omega)
    have hsb : intBits (M * 2 ^ rOf M x 8 + eS x (M * 2 ^ rOf M x 8) (tOf M 8) kPre.length) ≤ 3001 := bits_mono (intBits_add_le hMsb heb)
    k_steps
    refine mul_int ?_ (mul_ok hx hsb)
    k_steps
    refine Stop.mk ?_
    (with_unfolding_all refine' c_div ?k1_2 ?k2_2 ?k3_2 ?k4_2 ?k5_2 ?kK_2 ?kp_2 ?kq_2 ?kd_2 ?ku_2 ?kR_2); (case k1_2 => k_asm); (case k2_2 => k_asm); (case k3_2 => k_asm); (case k4_2 => k_asm); (case k5_2 => k_asm); (case kK_2 => first | exact rfl | assumption); (case kp_2 => exact Int.mul_pos hMsp (by omega)); (case kq_2 => exact bits_mono (intBits_mul_le hMsb (PySem.intBits_le_64 (by omega) (by omega)))); (case kd_2 => ktr_room); (case ku_2 => ktr_units); (intro t9 h9 tk9 F9 N9); (try dsimp only); (try k_fold)
    k_steps
  · have kI2 : _ = iexpY M x 8 := kInv.trans (iexpY_of (by rw [downKs_length]; show _ = (-((-10 * digs M) / (3 * 8)) - 1).toNat; omega))
    clear kInv
    subst kI2
    k_steps
    refine Stop.mk ?_
    k_state (fun pre y => y = dS M (rOf M x 8) (iexpY M x 8) pre.length) "y"
    · subst kInv
      have hdb := hdd kPre.length (by show _ ≤ intBits ((x * 2 ^ Int.toNat 8) / M); omega)
      have hMkb : intBits (M * 2 ^ (kN + 2).toNat) ≤ 2010 := shl_bits hM2 (by omega)
      have hyM : intBits (dS M (rOf M x 8) (iexpY M x 8) kPre.length + M * 2 ^ (kN + 2).toNat) ≤ 3001 := bits_mono (intBits_add_le hdb hMkb)
      k_steps
      refine mul_int ?_ (mul_ok hdb hyM)
      k_steps
      refine Stop.mk ?_
      (with_unfolding_all refine' c_div ?k1_3 ?k2_3 ?k3_3 ?k4_3 ?k5_3 ?kK_3 ?kp_3 ?kq_3 ?kd_3 ?ku_3 ?kR_3); (case k1_3 => k_asm); (case k2_3 => k_asm); (case k3_3 => k_asm); (case k4_3 => k_asm); (case k5_3 => k_asm); (case kK_3 => first | exact rfl | assumption); (case kp_3 => exact shl_pos hM _); (case kq_3 => exact bits_mono hMkb); (case kd_3 => ktr_room); (case ku_3 => ktr_units); (intro t9 h9 tk9 F9 N9); (try dsimp only); (try k_fold)
      k_steps
    · subst kInv
      k_steps
      refine cb_retI (Q := Q) hret ?e1 ?e2 ?e3
      case e2 => k_asm
      case e3 => first | k_asm | (refine' cb_drop ?cbN ?cbS; (case cbN => assumption); (case cbS => kcj_all))
      case e1 => exact iexpF_of (by rw [downKs_length]; show _ = intBits ((x * 2 ^ Int.toNat 8) / M); omega)
theorem c_iexpV {x M v : Int} {ta tb : Tok} (B : Below A₀ base outer h₀) (F : Fr h₀ L s.heap m) (X : (hd08.heap_39 w.params).In h₀) (N : News h₀ L s.heap news) (T : Top hd08.view_39 loose mean mg mb h₀) (hk : cs.kind = .function)
  (hM : 0 < M) (hM2 : intBits M ≤ 1000) (hx : intBits x ≤ 2000) (hR : rOf M x 8 ≤ 1000)
  (he : ∀ j : Nat, (j : Int) < tOf M 8 → intBits (eS x (M * 2 ^ rOf M x 8) (tOf M 8) j) ≤ 3000)
  (hdd : ∀ j : Nat, j ≤ rOf M x 8 → intBits (dS M (rOf M x 8) (iexpY M x 8) j) ≤ 3000)
  (hv : iexpF M x 8 = v) (hd : dp + 4 < recursionLimit) (hu : un + 40 < cLine)
  (hret : ∀ (t : Tok) (h' : Heap) (tk' : Nat), Fr h₀ L h' m → News h₀ L h' news → Q (.int v t) { s with heap := h', toks := tk' }) :
  wpAny (model PySem.Challenge.rw_dm0269_08.row.prog w) (ktrTop dp un gd cn cs L ca ccd cl outer) (call (.ref 83) [.int x ta, .int M tb]) Q E s := by
  subst hv
  exact c_iexp B F X N T hk hM hM2 hx hR he hdd hd hu hret

theorem ret2 {x1 x2 y1 y2 : Int} {u1 u2 : Tok} {D : Addr} {h : Heap} {tk : Nat} {rest : List (Addr × Obj)} (hret : ∀ (D : Addr) (t1 t2 : Tok) (h' : Heap) (tk' : Nat), Fr h₀ L h' m → News h₀ L h' ((D, ({ cls := .type "tuple", data := .seq #[.int x1 t1, .int x2 t2] } : Obj)) :: news) → AllLt D news → Q (.ref D) { s with heap := h', toks := tk' })
    (e1 : y1 = x1) (e2 : y2 = x2) (F : Fr h₀ L h m) (N : News h₀ L h ((D, ({ cls := .type "tuple", data := .seq #[.int y1 u1, .int y2 u2] } : Obj)) :: rest)) (hs : ∀ p ∈ news, p ∈ rest) (hl : AllLt D news) : Q (.ref D) { s with heap := h, toks := tk } := by
  subst e1 e2
  refine hret D u1 u2 h tk F (fun p hp => N p ?_) hl
  rcases List.mem_cons.mp hp with h | h
  · rw [h]; exact List.mem_cons_self
  · exact List.mem_cons_of_mem _ (hs p h)
theorem ret3 {H : Prop} {x1 x2 x3 y1 : Int} {u1 u2 u3 : Tok} {D : Addr} {h : Heap} {tk : Nat} {rest : List (Addr × Obj)} (hret : ∀ (D : Addr) (t1 t2 t3 : Tok) (h' : Heap) (tk' : Nat), H → Fr h₀ L h' m → News h₀ L h' ((D, ({ cls := .type "tuple", data := .seq #[.int x1 t1, .int x2 t2, .int x3 t3] } : Obj)) :: news) → AllLt D news → Q (.ref D) { s with heap := h', toks := tk' })
    (hH : H) (e1 : y1 = x1) (F : Fr h₀ L h m) (N : News h₀ L h ((D, ({ cls := .type "tuple", data := .seq #[.int y1 u1, .int x2 u2, .int x3 u3] } : Obj)) :: rest)) (hs : ∀ p ∈ news, p ∈ rest) (hl : AllLt D news) : Q (.ref D) { s with heap := h, toks := tk } := by
  subst e1
  refine hret D u1 u2 u3 h tk hH F (fun p hp => N p ?_) hl
  rcases List.mem_cons.mp hp with h | h
  · rw [h]; exact List.mem_cons_self
  · exact List.mem_cons_of_mem _ (hs p h)
theorem callWith_KM {prog : Program} {w : World} {K : Frag} {A : Around} {E : Value → Shared → Prop} {Q : Value → Shared → Prop} {s : Shared} {h₀ : Heap} {q g : Addr} {self : Value} {pos : Pos} {env : Env} {first : List Value} {e : Expr} {rest : List Expr} (_X : K.In h₀) (hq : K.lookup q = some (methodObj (.ref g) self)) (hf : fnIn K g = true) (h : wpAny (model prog w) A (spliced (backTo pos (starEach (e :: rest) env))) (fun vs s₁ => K.In s₁.heap ∧ wpAny (model prog w) A (call (.ref q) (first ++ vs)) Q E s₁) E s)
    (he : starEach (e :: rest) env = (false, eval e env) :: starEach rest env := by rfl) (hplain : (backTo pos (starEach rest env)).any (·.1) = false := by rfl) :
    wpAny (model prog w) A (callWith pos (.ref q) first (backTo pos (starEach (e :: rest) env)) []) Q E s := by
  rw [he] at h ⊢
  exact callWith_of (by show ((false || (backTo pos (starEach rest env)).any (·.1)) || false) = false; rw [hplain]; rfl) (fun hh X => keeps_M hf hh ⟨X _ _ hq, X⟩) (PySem.Calls.evalArgs_plain h)
theorem c_l10 {q : Int} {ta : Tok} (B : Below A₀ base outer h₀) (F : Fr h₀ L s.heap m) (X : (hd08.heap_39 w.params).In h₀) (N : News h₀ L s.heap news) (T : Top hd08.view_39 loose mean mg mb h₀) (hk : cs.kind = .function)
  (hq : 0 ≤ q) (hq2 : q ≤ 46) (hd : dp + 2 < recursionLimit) (hu : un + 16 < cLine)
  (hret : ∀ (t : Tok) (h' : Heap) (tk' : Nat), Fr h₀ L h' m → News h₀ L h' news → Q (.int (l10 q) t) { s with heap := h', toks := tk' }) :
  wpAny (model PySem.Challenge.rw_dm0269_08.row.prog w) (ktrTop dp un gd cn cs L ca ccd cl outer) (call (.ref 75) [.int q ta]) Q E s := by
  revert X; k_fill; intro X
  refine wpAny_call ?_
  refine method_call (f := .ref 64) (self := .ref 73) (p := 75) ((X.keeps F.keep) _ _ rfl) ?_
  k_dflt cell_enter
  k_steps
  refine KIN.call_text (l10_text hq hq2).1 (l10_text hq hq2).2 ?_
  k_steps
  refine cb_retI (Q := Q) hret ?e1 ?e2 ?e3
  case e2 => k_asm
  case e3 => first | k_asm | (refine' cb_drop ?cbN ?cbS; (case cbN => assumption); (case cbS => kcj_all))
  case e1 => exact rfl
local macro_rules | `(tactic| walk_at "callWith ref") => `(tactic| (k_here; (with_reducible show wpAny _ _ (callWith _ (Value.ref _) _ _ _) _ _ _); (refine' Mine.callWith_KM ?k1 ?k2 ?k3 ?_); (case k1 => k_asm); (case k2 => exact rfl); (case k3 => k_is); k_whole))
local macro_rules | `(tactic| walk_at "storeName") => `(tactic| (k_here; (with_reducible show wpAny _ _ (storeName _ (PySem.Str.ofString "extra") (Value.int _ _)) _ _ _); refine Mine.Stop.out ?_))
local macro_rules | `(tactic| walk_at "storeName") => `(tactic| (k_here; (with_reducible show wpAny _ _ (storeName _ (PySem.Str.ofString "cshift") (Value.int _ _)) _ _ _); refine Mine.Stop.out ?_))
theorem c_dexp {c e p : Int} {ta tb tc : Tok} (B : Below A₀ base outer h₀) (F : Fr h₀ L s.heap m) (X : (hd08.heap_39 w.params).In h₀) (N : News h₀ L s.heap news) (T : Top hd08.view_39 loose mean mg mb h₀) (hk : cs.kind = .function)
  (hc : intBits c ≤ 1000) (he : -200 ≤ e) (he2 : e ≤ 0) (hp : 0 ≤ p) (hp2 : p ≤ 44) (hq2 : p + 2 + dxX c e ≤ 46) (hE : PreE (10 ^ (p + 2).toNat) (dxR c e p) 8) (hd : dp + 8 < recursionLimit) (hu : un + 80 < cLine)
  (hret : ∀ (D : Addr) (t1 t2 : Tok) (h' : Heap) (tk' : Nat), Fr h₀ L h' m → News h₀ L h' ((D, ({ cls := .type "tuple", data := .seq #[.int (dexpD c e p) t1, .int (dexpE c e p) t2] } : Obj)) :: news) → AllLt D news → Q (.ref D) { s with heap := h', toks := tk' }) :
  wpAny (model PySem.Challenge.rw_dm0269_08.row.prog w) (ktrTop dp un gd cn cs L ca ccd cl outer) (call (.ref 90) [.int c ta, .int e tb, .int p tc]) Q E s := by
  revert X; k_fill; intro X
  refine wpAny_call ?_
  k_dflt cell_enter
  k_steps
  refine Stop.mk ?_
  refine P.str_of_int (log_of_bits hc) ?_
  k_steps
  refine len_digs hc ?_
  k_steps
  refine Stop.mk ?_
  refine gen_int (P := fun x => wpAny _ _ (storeName _ _ (Value.int x _)) _ _ _) _ ?_
  intro x hx
  have hx' : dxX c e = x := hx
  have hx0 : 0 ≤ x := dxX_nn hx
  clear hx
  rw [hx'] at hq2
  obtain ⟨hl1, hl2⟩ := l10_pos (q := p + 2 + x) (by omega) hq2
  have hl3 : intBits (l10 (p + 2 + x)) ≤ 9000 := l10_bits (by omega) hq2
  refine storeX_L (by k_asm) (by k_asm) ?_
  intro h' F' N'
  k_steps
  · refine mul_int ?_ (mul_ok hc (ten_bits (by omega)))
    k_steps
    refine Stop.mk ?_
    refine gen_int (P := fun x => wpAny _ _ (storeName _ _ (Value.int x _)) _ _ _) _ ?_
    intro C hC0
    have hC : dxC c e p = C := dxC_up hx' (by omega) hC0
    clear hC0
    refine storeX_L (by k_asm) (by k_asm) ?_
    intro h' F' N'
    k_steps
    refine Stop.mk ?_
    (with_unfolding_all refine' c_l10 ?k1_1 ?k2_1 ?k3_1 ?k4_1 ?k5_1 ?kK_1 ?kp_1 ?kq_1 ?kd_1 ?ku_1 ?kR_1); (case k1_1 => k_asm); (case k2_1 => k_asm); (case k3_1 => k_asm); (case k4_1 => k_asm); (case k5_1 => k_asm); (case kK_1 => first | exact rfl | assumption); (case kp_1 => omega); (case kq_1 => omega); (case kd_1 => ktr_room); (case ku_1 => ktr_units); (intro t9 h9 tk9 F9 N9); (try dsimp only); (try k_fold)
    k_steps
    refine Stop.mk ?_
    (with_unfolding_all refine' c_div ?k1_2 ?k2_2 ?k3_2 ?k4_2 ?k5_2 ?kK_2 ?kp_2 ?kq_2 ?kd_2 ?ku_2 ?kR_2); (case k1_2 => k_asm); (case k2_2 => k_asm); (case k3_2 => k_asm); (case k4_2 => k_asm); (case k5_2 => k_asm); (case kK_2 => first | exact rfl | assumption); (case kp_2 => exact ten_pos _); (case kq_2 => exact bits_mono (ten_bits (by omega))); (case kd_2 => ktr_room); (case ku_2 => ktr_units); (intro t9 h9 tk9 F9 N9); (try dsimp only); (try k_fold)
    k_steps
    refine Stop.mk ?_
    have hR : divN (C.fmod (l10 (p + 2 + x))) (10 ^ x.toNat) = dxR c e p := dxR_of hx' hC hl1
    rw [hR]
    (with_unfolding_all refine' c_iexp ?k1_3 ?k2_3 ?k3_3 ?k4_3 ?k5_3 ?kK_3 ?kp_3 ?kq_3 ?kr_3 ?ks_3 ?kt_3 ?kw_3 ?kd_3 ?ku_3 ?kR_3); (case k1_3 => k_asm); (case k2_3 => k_asm); (case k3_3 => k_asm); (case k4_3 => k_asm); (case k5_3 => k_asm); (case kK_3 => first | exact rfl | assumption); (case kp_3 => exact ten_pos _); (case kq_3 => exact bits_mono (ten_bits46 (by omega))); (case kr_3 => exact hE.b); (case ks_3 => exact hE.r); (case kt_3 => exact hE.e); (case kw_3 => exact hE.d); (case kd_3 => ktr_room); (case ku_3 => ktr_units); (intro t9 h9 tk9 F9 N9); (try dsimp only); (try k_fold)
    k_steps
    refine Stop.mk ?_
    (with_unfolding_all refine' c_div ?k1_4 ?k2_4 ?k3_4 ?k4_4 ?k5_4 ?kK_4 ?kp_4 ?kq_4 ?kd_4 ?ku_4 ?kR_4); (case k1_4 => k_asm); (case k2_4 => k_asm); (case k3_4 => k_asm); (case k4_4 => k_asm); (case k5_4 => k_asm); (case kK_4 => first | exact rfl | assumption); (case kp_4 => decide); (case kq_4 => exact bits_small (b := 1000) (by decide) (by decide)); (case kd_4 => ktr_room); (case ku_4 => ktr_units); (intro t9 h9 tk9 F9 N9); (try dsimp only); (try k_fold)
    k_steps
    refine' ret2 (Q := Q) hret ?e1_5 ?e2_5 ?e3_5 ?e4_5 ?e5_5 ?e6_5
    case e3_5 => k_asm
    case e4_5 => k_asm
    case e5_5 => intro p hp; exact List.mem_cons_of_mem _ hp
    case e6_5 => exact (by assumption : _ ∧ AllLt _ _).2
    case e1_5 => exact rfl
    case e2_5 => rw [dxQ_of hx' hC hl1]; exact rfl
  · refine Stop.mk ?_
    refine floordiv_pos (ten_pos _) (bits_mono (ten_bits (by omega))) ?_
    k_steps
    refine Stop.mk ?_
    refine gen_int (P := fun x => wpAny _ _ (storeName _ _ (Value.int x _)) _ _ _) _ ?_
    intro C hC0
    have hC : dxC c e p = C := dxC_dn hx' (by omega) hC0
    clear hC0
    refine storeX_L (by k_asm) (by k_asm) ?_
    intro h' F' N'
    k_steps
    refine Stop.mk ?_
    (with_unfolding_all refine' c_l10 ?k1_6 ?k2_6 ?k3_6 ?k4_6 ?k5_6 ?kK_6 ?kp_6 ?kq_6 ?kd_6 ?ku_6 ?kR_6); (case k1_6 => k_asm); (case k2_6 => k_asm); (case k3_6 => k_asm); (case k4_6 => k_asm); (case k5_6 => k_asm); (case kK_6 => first | exact rfl | assumption); (case kp_6 => omega); (case kq_6 => omega); (case kd_6 => ktr_room); (case ku_6 => ktr_units); (intro t9 h9 tk9 F9 N9); (try dsimp only); (try k_fold)
    k_steps
    refine Stop.mk ?_
    (with_unfolding_all refine' c_div ?k1_7 ?k2_7 ?k3_7 ?k4_7 ?k5_7 ?kK_7 ?kp_7 ?kq_7 ?kd_7 ?ku_7 ?kR_7); (case k1_7 => k_asm); (case k2_7 => k_asm); (case k3_7 => k_asm); (case k4_7 => k_asm); (case k5_7 => k_asm); (case kK_7 => first | exact rfl | assumption); (case kp_7 => exact ten_pos _); (case kq_7 => exact bits_mono (ten_bits (by omega))); (case kd_7 => ktr_room); (case ku_7 => ktr_units); (intro t9 h9 tk9 F9 N9); (try dsimp only); (try k_fold)
    k_steps
    refine Stop.mk ?_
    have hR : divN (C.fmod (l10 (p + 2 + x))) (10 ^ x.toNat) = dxR c e p := dxR_of hx' hC hl1
    rw [hR]
    (with_unfolding_all refine' c_iexp ?k1_8 ?k2_8 ?k3_8 ?k4_8 ?k5_8 ?kK_8 ?kp_8 ?kq_8 ?kr_8 ?ks_8 ?kt_8 ?kw_8 ?kd_8 ?ku_8 ?kR_8); (case k1_8 => k_asm); (case k2_8 => k_asm); (case k3_8 => k_asm); (case k4_8 => k_asm); (case k5_8 => k_asm); (case kK_8 => first | exact rfl | assumption); (case kp_8 => exact ten_pos _); (case kq_8 => exact bits_mono (ten_bits46 (by omega))); (case kr_8 => exact hE.b); (case ks_8 => exact hE.r); (case kt_8 => exact hE.e); (case kw_8 => exact hE.d); (case kd_8 => ktr_room); (case ku_8 => ktr_units); (intro t9 h9 tk9 F9 N9); (try dsimp only); (try k_fold)
    k_steps
    refine Stop.mk ?_
    (with_unfolding_all refine' c_div ?k1_9 ?k2_9 ?k3_9 ?k4_9 ?k5_9 ?kK_9 ?kp_9 ?kq_9 ?kd_9 ?ku_9 ?kR_9); (case k1_9 => k_asm); (case k2_9 => k_asm); (case k3_9 => k_asm); (case k4_9 => k_asm); (case k5_9 => k_asm); (case kK_9 => first | exact rfl | assumption); (case kp_9 => decide); (case kq_9 => exact bits_small (b := 1000) (by decide) (by decide)); (case kd_9 => ktr_room); (case ku_9 => ktr_units); (intro t9 h9 tk9 F9 N9); (try dsimp only); (try k_fold)
    k_steps
    refine' ret2 (Q := Q) hret ?e1_10 ?e2_10 ?e3_10 ?e4_10 ?e5_10 ?e6_10
    case e3_10 => k_asm
    case e4_10 => k_asm
    case e5_10 => intro p hp; exact List.mem_cons_of_mem _ hp
    case e6_10 => exact (by assumption : _ ∧ AllLt _ _).2
    case e1_10 => exact rfl
    case e2_10 => rw [dxQ_of hx' hC hl1]; exact rfl

theorem c_dexpV {c e p d f : Int} {ta tb tc : Tok} (B : Below A₀ base outer h₀) (F : Fr h₀ L s.heap m) (X : (hd08.heap_39 w.params).In h₀) (N : News h₀ L s.heap news) (T : Top hd08.view_39 loose mean mg mb h₀) (hk : cs.kind = .function)
  (hc : intBits c ≤ 1000) (he : -200 ≤ e) (he2 : e ≤ 0) (hp : 0 ≤ p) (hp2 : p ≤ 44) (hq2 : p + 2 + dxX c e ≤ 46) (hE : PreE (10 ^ (p + 2).toNat) (dxR c e p) 8) (hv1 : dexpD c e p = d) (hv2 : dexpE c e p = f) (hd : dp + 8 < recursionLimit) (hu : un + 80 < cLine)
  (hret : ∀ (D : Addr) (t1 t2 : Tok) (h' : Heap) (tk' : Nat), Fr h₀ L h' m → News h₀ L h' ((D, ({ cls := .type "tuple", data := .seq #[.int d t1, .int f t2] } : Obj)) :: news) → AllLt D news → Q (.ref D) { s with heap := h', toks := tk' }) :
  wpAny (model PySem.Challenge.rw_dm0269_08.row.prog w) (ktrTop dp un gd cn cs L ca ccd cl outer) (call (.ref 90) [.int c ta, .int e tb, .int p tc]) Q E s := by
  subst hv1 hv2
  exact c_dexp B F X N T hk hc he he2 hp hp2 hq2 hE hd hu hret
local macro_rules | `(tactic| walk_at "storeName") => `(tactic| (k_here; (with_reducible show wpAny _ _ (storeName _ (PySem.Str.ofString "doublings") (Value.int _ _)) _ _ _); refine Mine.Stop.out ?_))
local macro_rules | `(tactic| walk_at "storeName") => `(tactic| (k_here; (with_reducible show wpAny _ _ (storeName _ (PySem.Str.ofString "one") (Value.int _ _)) _ _ _); refine Mine.Stop.out ?_))
local macro_rules | `(tactic| walk_at "storeName") => `(tactic| (k_here; (with_reducible show wpAny _ _ (storeName _ (PySem.Str.ofString "parts") (Value.int _ _)) _ _ _); refine Mine.Stop.out ?_))
theorem c_lawb {c k p : Int} {ta tb tc : Tok} (B : Below A₀ base outer h₀) (F : Fr h₀ L s.heap m) (X : (hd08.heap_39 w.params).In h₀) (N : News h₀ L s.heap news) (T : Top hd08.view_39 loose mean mg mb h₀) (hk : cs.kind = .function)
  (hc : 0 ≤ c) (hcK : c ≤ 10 ^ k.toNat) (hk1 : 1 ≤ k) (hk2 : k ≤ 50) (hp : 1 ≤ p) (hp2 : p ≤ 40) (hd : dp + 4 < recursionLimit) (hu : un + 40 < cLine)
  (hret : ∀ (low high : Int) (D : Addr) (t1 t2 t3 : Tok) (h' : Heap) (tk' : Nat), BDone c k p low high → Fr h₀ L h' m → News h₀ L h' ((D, ({ cls := .type "tuple", data := .seq #[.int (10 ^ (2 * p + 16).toNat) t1, .int low t2, .int high t3] } : Obj)) :: news) → AllLt D news → Q (.ref D) { s with heap := h', toks := tk' }) :
  wpAny (model PySem.Challenge.rw_dm0269_08.row.prog w) (ktrTop dp un gd cn cs L ca ccd cl outer) (call (.ref 97) [.int c ta, .int k tb, .int p tc]) Q E s := by
  revert X; k_fill; intro X
  have hKp := ten_pos k.toNat
  have hKb : Bd 1000 ((10 : Int) ^ k.toNat) := ⟨ten_bits (by omega)⟩
  have hcb : intBits c ≤ 1000 := bits_abs (b := 10 ^ k.toNat) (by omega) hcK hKb.out
  refine wpAny_call ?_
  k_dflt cell_enter
  k_steps
  refine Stop.mk ?_
  refine floordiv_pos (by decide) (bits_small (b := 3) (by decide) (by decide)) ?_
  k_steps
  refine Stop.mk ?_
  refine gen_int (P := fun x => wpAny _ _ (storeName _ _ (Value.int x _)) _ _ _) _ ?_
  intro n hn0
  have hn1 : 10 ≤ n := by omega
  have hn2 : n ≤ 4 * (p + 5) := by omega
  refine storeX_L (by k_asm) (by k_asm) ?_
  intro h' F' N'
  k_steps
  refine Stop.mk ?_
  refine gen_int (P := fun x => wpAny _ _ (storeName _ _ (Value.int x _)) _ _ _) _ ?_
  intro one ho0
  obtain ⟨ho, hon, hob⟩ := one_facts (n := n) hp hp2 (by omega) hn2 ho0
  refine storeX_L (by k_asm) (by k_asm) ?_
  intro h' F' N'
  k_steps
  refine Stop.mk ?_
  refine gen_int (P := fun x => wpAny _ _ (storeName _ _ (Value.int x _)) _ _ _) _ ?_
  intro parts hpt0
  have hpt : parts = 10 ^ k.toNat * 2 ^ n.toNat := hpt0.symm
  have hptp : 0 < parts := by rw [hpt]; exact shl_pos hKp _
  have hptb : intBits parts ≤ 1201 := by rw [hpt]; exact shl_bits hKb.out (by omega)
  refine storeX_L (by k_asm) (by k_asm) ?_
  intro h' F' N'
  k_steps
  refine mul_int ?_ (mul_ok hcb hob)
  k_steps
  refine Stop.mk ?_
  refine floordiv_pos hptp (bits_mono hptb) ?_
  k_steps
  have hS := BInv.start (n := n.toNat) hc hcK hKp ho (by omega) hon
  rw [← hpt] at hS
  refine mul_int ?_ (mul_ok (intBits_neg_le hob) hob)
  k_steps
  refine mul_int ?_ (mul_ok (intBits_neg_le hcb) hob)
  k_steps
  refine Stop.mk ?_
  refine floordiv_pos hptp (bits_mono hptb) ?_
  k_steps
  refine Stop.mk ?_
  refine floordiv_pos hS.2 (den_bits hS.2 hc ho hptp hob) ?_
  k_steps
  refine Stop.mk ?_
  k_with "state" => first | exact hS.1 | exact BInv.turn' ho (by assumption) (by omega)
  k_state (fun pre low high => BInv ((c : Rat) / ((10 ^ k.toNat : Int) : Rat)) one n.toNat pre.length low high) "low" "high"
  · have hB := kInv.bound ho (v_le1 hcK hKp)
    have hlo := kInv.g1
    have hhi := kInv.l1
    have hlb := b64 ho hob hlo hB.1
    have hhb := b64 ho hob hhi hB.2
    k_steps
    refine mul_int ?_ (mul_ok hlb hlb)
    k_steps
    refine Stop.mk ?_
    refine floordiv_pos ho (bits_mono hob) ?_
    k_steps
    refine mul_int ?_ (mul_ok (intBits_neg_le hhb) hhb)
    k_steps
    refine Stop.mk ?_
    refine floordiv_pos ho (bits_mono hob) ?_
    k_steps
  · have hlen : (rangeKs 0 (n - 0).toNat).length = n.toNat := by rw [rangeKs_length]; omega
    rw [hlen] at kInv
    have hB := kInv.bound ho (v_le1 hcK hKp)
    have hDn := BDone.of (hpos := ho) kInv hB.1 hB.2 ho0
    subst ho0
    k_steps
    refine' ret3 (Q := Q) (hret _ _) hDn rfl ?f3 ?f4 ?f5 ?f6
    case f3 => k_asm
    case f4 => k_asm
    case f5 => first | exact fun p hp => hp | (intro p hp; exact List.mem_cons_of_mem _ hp)
    case f6 => first | assumption | exact allLt_of (by assumption) | exact (by assumption : _ ∧ AllLt _ _).2

end
end Mine

namespace Mine
open PySem.Builtin.Int (intBits)
theorem gen_toks {P : Nat → Prop} (n : Nat) (h : ∀ k, P k) : P n := h n
theorem item_bits {ns : List Int} {j : Nat} (h : PyData.layable0 (.list (ns.map .int)) = true) : intBits ((ns ++ (List.replicate (Int.toNat 4) [0]).flatten).getD j 0) ≤ 1048576 := by
  rcases Nat.lt_or_ge j ns.length with h1 | h1
  · have e : (ns ++ (List.replicate (Int.toNat 4) [0]).flatten).getD j 0 = ns.getD j 0 := by
      rw [List.getD_eq_getElem?_getD, List.getD_eq_getElem?_getD, List.getElem?_append_left h1]
    rw [e]
    exact kbm_getD h (by decide)
  · have e : (ns ++ (List.replicate (Int.toNat 4) [0]).flatten).getD j 0 = 0 := by
      rw [List.getD_eq_getElem?_getD, List.getElem?_append_right h1]
      have : (List.replicate (Int.toNat 4) [(0 : Int)]).flatten = [0, 0, 0, 0] := rfl
      rw [this]
      generalize j - ns.length = i
      match i with
      | 0 => rfl
      | 1 => rfl
      | 2 => rfl
      | 3 => rfl
      | n + 4 => rfl
    rw [e]
    exact Nat.le_trans (PySem.intBits_le_64 (by decide) (by decide)) (by decide)
theorem item_mul_ok {x b : Int} (h : intBits x ≤ 1048576) (hb : intBits b ≤ 1000) : IntMulOk (x * 618034 + 314159) b :=
  IntMulOk.of_le (intBits_add_le (intBits_mul_le h (PySem.intBits_le_64 (k := 618034) (by decide) (by decide))) (PySem.intBits_le_64 (k := 314159) (by decide) (by decide))) hb (by decide)
theorem dexpD_bits {c e p : Int} (hp : 0 ≤ p) (hp2 : p ≤ 44) (h : PreE (10 ^ (p + 2).toNat) (dxR c e p) 8) : intBits (dexpD c e p) ≤ 3003 := by
  have h1 : intBits (iexpF (10 ^ (p + 2).toNat) (dxR c e p) 8) ≤ 3001 := by
    unfold iexpF
    exact bits_mono (intBits_add_le (ten_bits46 (by omega)) (h.d _ (Nat.le_refl _)))
  exact bits_mono (divN_bits (by decide) h1)
theorem lin_bits {d s : Int} (h : intBits d ≤ 3003) (hs : intBits s ≤ 64) : intBits (1000 * d + s) ≤ 3100 :=
  bits_mono (intBits_add_le (intBits_mul_le (m := 64) (PySem.intBits_le_64 (by decide) (by decide)) h) hs)
theorem lin_bits' {d s : Int} (h : intBits d ≤ 3003) (hs : intBits s ≤ 64) : intBits (1000 * d - s) ≤ 3100 := by
  rw [Int.sub_eq_add_neg]
  exact lin_bits h (intBits_neg_le hs)
theorem high_bits {one a : Int} (hob : intBits one ≤ 400) (h1 : one ≤ a) (h2 : a ≤ 64 * one) (ho : 0 < one) : intBits (1000 * a) ≤ 600 :=
  bits_mono (intBits_mul_le (m := 64) (PySem.intBits_le_64 (by decide) (by decide)) (b64 ho hob h1 h2))
section
variable {prog : Program} {w : World} {A : Around} {E : Value → Shared → Prop} {s : Shared}
theorem ge_false {a b : Int} {t u : Tok} {Q : Value → Shared → Prop} (hab : a < b) (h : Q (.bool false) s) : wpAny (model prog w) A (compareOp .GtE (.int a t) (.int b u)) Q E s := ge_int (by
  have e : decide (a ≥ b) = false := decide_eq_false (by omega)
  first | (rw [e]; exact h) | (simp only [ge_iff_le] at e ⊢; rw [e]; exact h))
theorem le_false {a b : Int} {t u : Tok} {Q : Value → Shared → Prop} (hab : b < a) (h : Q (.bool false) s) : wpAny (model prog w) A (compareOp .LtE (.int a t) (.int b u)) Q E s := le_int (by
  have e : decide (a ≤ b) = false := decide_eq_false (by omega)
  rw [e]; exact h)
end
theorem flip_bits {one q : Int} (hob : intBits one ≤ 400) : intBits (1000 * (-(-one * one / q))) ≤ 1200 := by
  have h : intBits (-one * one / q) ≤ 800 := by
    rcases Int.lt_or_le 0 q with hq | hq
    · have := natAbs_fdiv_le (-one * one) q
      rw [Int.fdiv_eq_ediv_of_nonneg _ (Int.le_of_lt hq)] at this
      exact intBits_le_of_natAbs this (intBits_mul_le (intBits_neg_le hob) hob)
    · have h0 : (-one * one / q).natAbs ≤ (-one * one).natAbs + 0 := by
        have := Int.natAbs_ediv_le_natAbs (-one * one) q
        omega
      exact intBits_le_of_natAbs h0 (intBits_mul_le (intBits_neg_le hob) hob)
  exact bits_mono (intBits_mul_le (m := 64) (PySem.intBits_le_64 (by decide) (by decide)) (intBits_neg_le h))
theorem flip_bits' {one q : Int} (hob : intBits one ≤ 400) : intBits (1000 * (one * one / q)) ≤ 1200 := by
  have h : intBits (one * one / q) ≤ 800 := intBits_le_of_natAbs (Int.natAbs_ediv_le_natAbs (one * one) q) (intBits_mul_le hob hob)
  exact bits_mono (intBits_mul_le (m := 64) (PySem.intBits_le_64 (by decide) (by decide)) h)
theorem gen_int2 {P : Int → Tok → Prop} (v : Int) (t : Tok) (h : ∀ x u, v = x → P x u) : P v t := h v t rfl
theorem fr_has4 {h₀ h : Heap} {L : Addr} {m : Str → Option Value} {a1 a2 a3 a4 : Str} {v1 v2 v3 v4 : Value} (e1 : m a1 = some v1) (e2 : m a2 = some v2) (e3 : m a3 = some v3) (e4 : m a4 = some v4) (F : Fr h₀ L h m) :
    Fr h₀ L h (fun y => if y = a1 then some v1 else if y = a2 then some v2 else if y = a3 then some v3 else if y = a4 then some v4 else m y) := by
  have e : m = (fun y => if y = a1 then some v1 else if y = a2 then some v2 else if y = a3 then some v3 else if y = a4 then some v4 else m y) := by
    funext y
    split
    · rename_i h; rw [h, e1]
    · split
      · rename_i h; rw [h, e2]
      · split
        · rename_i h; rw [h, e3]
        · split
          · rename_i h; rw [h, e4]
          · rfl
  rw [← e]; exact F
/-- what a turn of the loop does: told once, used at each turn -/
def Turn (M : Model) (A : Around) (t : Sem Flow) (E : Value → Shared → Prop) (h₀ : Heap) (L : Addr) (k p : Int) (tk tp : Tok) (i : Addr) (rest : List (Addr × Obj)) (P : Int → Int → Prop) : Prop :=
  ∀ (number slack : Int) (tn ts : Tok) (m : Str → Option Value) (o : Obj) (s : Shared) (Q : Flow → Shared → Prop),
    P number slack → Fr h₀ L s.heap m → News h₀ L s.heap ((i, o) :: rest) →
    m (Str.ofString "number") = some (.int number tn) → m (Str.ofString "slack") = some (.int slack ts) → m (Str.ofString "k") = some (.int k tk) → m (Str.ofString "p") = some (.int p tp) →
    (∀ (m' : Str → Option Value) (h' : Heap) (tk' : Nat), m' (Str.ofString "k") = some (.int k tk) → m' (Str.ofString "p") = some (.int p tp) → Fr h₀ L h' m' → News h₀ L h' ((i, o) :: rest) → Q .next { s with heap := h', toks := tk' }) →
    wpAny M A t Q E s
theorem turn_cut {M : Model} {A : Around} {t : Sem Flow} {h₀ : Heap} {L : Addr} {k p : Int} {tk tp : Tok} {P1 P2 : Int → Int → Prop} {Q : Flow → Shared → Prop} {E : Value → Shared → Prop} {s : Shared} {m : Str → Option Value} {i : Addr} {o : Obj} {rest : List (Addr × Obj)}
    (_ : Fr h₀ L s.heap m) (_ : News h₀ L s.heap ((i, o) :: rest)) (_ : m (Str.ofString "k") = some (.int k tk)) (_ : m (Str.ofString "p") = some (.int p tp))
    (C1 : Turn M A t E h₀ L k p tk tp i rest P1) (C2 : Turn M A t E h₀ L k p tk tp i rest P2)
    (h : Turn M A t E h₀ L k p tk tp i rest P1 → Turn M A t E h₀ L k p tk tp i rest P2 → wpAny M A t Q E s) : wpAny M A t Q E s := h C1 C2
theorem turn_use {M : Model} {A : Around} {t : Sem Flow} {h₀ : Heap} {L : Addr} {k p number slack : Int} {tk tp tn ts : Tok} {P : Int → Int → Prop} {Q : Flow → Shared → Prop} {E : Value → Shared → Prop} {s : Shared} {m : Str → Option Value} {i : Addr} {o : Obj} {rest : List (Addr × Obj)}
    (C : Turn M A t E h₀ L k p tk tp i rest P) (F : Fr h₀ L s.heap m) (N : News h₀ L s.heap ((i, o) :: rest))
    (e1 : m (Str.ofString "number") = some (.int number tn)) (e2 : m (Str.ofString "slack") = some (.int slack ts)) (e3 : m (Str.ofString "k") = some (.int k tk)) (e4 : m (Str.ofString "p") = some (.int p tp)) (hP : P number slack)
    (h : ∀ (m' : Str → Option Value) (h' : Heap) (tk' : Nat), m' (Str.ofString "k") = some (.int k tk) → m' (Str.ofString "p") = some (.int p tp) → Fr h₀ L h' m' → News h₀ L h' ((i, o) :: rest) → Q .next { s with heap := h', toks := tk' }) : wpAny M A t Q E s :=
  C number slack tn ts m o s Q hP F N e1 e2 e3 e4 h
theorem turn_two {M : Model} {A : Around} {t : Sem Flow} {h₀ : Heap} {L : Addr} {k p c : Int} {tk tp tn ts : Tok} {Q : Flow → Shared → Prop} {E : Value → Shared → Prop} {s : Shared} {m : Str → Option Value} {i : Addr} {o : Obj} {rest : List (Addr × Obj)}
    (F : Fr h₀ L s.heap m)
    (C1 : Turn M A t E h₀ L k p tk tp i rest (fun number slack => 0 ≤ number ∧ number < 10 ^ k.toNat ∧ (520 ≤ slack ∨ slack = 502 ∧ 256 * number < 10 ^ k.toNat) ∧ slack ≤ 1000))
    (C2 : Turn M A t E h₀ L k p tk tp i rest (fun number slack => number < 0 ∧ -number < 10 ^ k.toNat ∧ slack = 570)) (N : News h₀ L s.heap ((i, o) :: rest))
    (e1 : m (Str.ofString "number") = some (.int (-c) tn)) (e2 : m (Str.ofString "slack") = some (.int 570 ts)) (e3 : m (Str.ofString "k") = some (.int k tk)) (e4 : m (Str.ofString "p") = some (.int p tp)) (h1 : 0 ≤ c) (h2 : c < 10 ^ k.toNat)
    (h : ∀ (m' : Str → Option Value) (h' : Heap) (tk' : Nat), m' (Str.ofString "k") = some (.int k tk) → m' (Str.ofString "p") = some (.int p tp) → Fr h₀ L h' m' → News h₀ L h' ((i, o) :: rest) → Q .next { s with heap := h', toks := tk' }) : wpAny M A t Q E s := by
  rcases Int.lt_or_le 0 c with hc | hc
  · exact turn_use C2 F N e1 e2 e3 e4 ⟨by omega, by omega, rfl⟩ h
  · exact turn_use C1 F N e1 e2 e3 e4 ⟨by omega, by omega, .inl (by decide), by decide⟩ h
end Mine
local macro_rules | `(tactic| walk_at "storeName") => `(tactic| (k_here; (with_reducible show wpAny _ _ (storeName _ (PySem.Str.ofString "k") (Value.int _ _)) _ _ _); refine Mine.Stop.out ?_))
local macro_rules | `(tactic| walk_at "storeName") => `(tactic| (k_here; (with_reducible show wpAny _ _ (storeName _ (PySem.Str.ofString "p") (Value.int _ _)) _ _ _); refine Mine.Stop.out ?_))
local macro_rules | `(tactic| walk_at "storeName") => `(tactic| (k_here; (with_reducible show wpAny _ _ (storeName _ (PySem.Str.ofString "c") (Value.int _ _)) _ _ _); refine Mine.Stop.out ?_))
local macro_rules | `(tactic| walk_at "compareOp GtE int int") => `(tactic| (k_here; (with_reducible refine Mine.ge_false (by assumption) ?_)))
local macro_rules | `(tactic| walk_at "compareOp LtE int int") => `(tactic| (k_here; (with_reducible refine Mine.le_false (by assumption) ?_)))
local macro_rules | `(tactic| walk_at "execs cons") => `(tactic| (k_here; (with_reducible refine Mine.gen_toks (P := fun k => wpAny _ _ (execs (_ :: _) _) _ _ { heap := _, gens := _, drawn := _, toks := k, os := _ }) _ ?_); intro tk; (with_reducible refine wpAny_execs_cons ?_); try dsimp only))
local macro_rules | `(tactic| walk_at "execs nil") => `(tactic| (k_here; (with_reducible refine Mine.gen_toks (P := fun k => wpAny _ _ (execs [] _) _ _ { heap := _, gens := _, drawn := _, toks := k, os := _ }) _ ?_); intro tk; (with_reducible refine wpAny_execs_nil ?_); try dsimp only))
local macro_rules | `(tactic| walk_at "execs cons") => `(tactic| (k_here; (with_reducible show wpAny _ _ (execs (PySem.Stmt.Assign [PySem.Expr.Name (PySem.Str.ofString "told") _] _ _ :: _) _) _ _ _); refine Mine.Stop.out ?_))
namespace Mine
open PySem.Builtin.Int (intBits)
set_option rowWalk.seconds 0
theorem w08 : PySem.Challenge.rw_dm0269_08.Holds := hd08 (by
  k_go0; (all_goals try k_fold)
  k_steps
  refine Stop.mk ?_
  refine gen_int2 (P := fun x u => wpAny _ _ (storeName _ _ (Value.int x u)) _ _ _) _ _ ?_
  intro k tk hk0
  have hk1 : 1 ≤ k := by omega
  have hk2 : k ≤ 50 := by omega
  clear hk0
  have hKp := ten_pos k.toNat
  refine storeX_L (by k_asm) (by k_asm) ?_
  intro h' F' N'
  (try dsimp only)
  k_steps
  refine Stop.mk ?_
  refine gen_int2 (P := fun x u => wpAny _ _ (storeName _ _ (Value.int x u)) _ _ _) _ _ ?_
  intro p tp hp0
  have hp1 : 1 ≤ p := by omega
  have hp2 : p ≤ 40 := by omega
  clear hp0
  refine storeX_L (by k_asm) (by k_asm) ?_
  intro h' F' N'
  (try dsimp only)
  k_steps
  refine mul_int ?_ (item_mul_ok (item_bits (by assumption)) (ten_bits (by omega)))
  k_steps
  refine Stop.mk ?_
  refine floordiv_pos (ten_pos _) (bits_mono (ten_bits (by decide))) ?_
  k_steps
  refine Stop.mk ?_
  refine gen_int2 (P := fun x u => wpAny _ _ (storeName _ _ (Value.int x u)) _ _ _) _ _ ?_
  intro c tc hc0
  have hc1 : 0 ≤ c := by omega
  have hc2 : c < 10 ^ k.toNat := by omega
  have hcb : intBits c ≤ 1000 := bits_abs (b := 10 ^ k.toNat) (by omega) (by omega) (ten_bits (by omega))
  clear hc0
  refine storeX_L (by k_asm) (by k_asm) ?_
  intro h' F' N'
  (try dsimp only)
  k_steps
  refine Stop.mk ?_
  refine floordiv_pos (by decide) (bits_small (b := 256) (by decide) (by decide)) ?_
  k_steps
  refine Stop.mk ?_
  ktu_seq
  k_steps
  refine Stop.mk ?_
  have ho := ten_pos (2 * p + 16).toNat
  have hob : intBits ((10 : Int) ^ (2 * p + 16).toNat) ≤ 400 := (one_facts (n := 0) hp1 hp2 (by decide) (by omega) rfl).2.2
  refine turn_cut (P1 := fun number slack => 0 ≤ number ∧ number < 10 ^ k.toNat ∧ (520 ≤ slack ∨ slack = 502 ∧ 256 * number < 10 ^ k.toNat) ∧ slack ≤ 1000) (P2 := fun number slack => number < 0 ∧ -number < 10 ^ k.toNat ∧ slack = 570) (by k_asm) (by k_asm) (by rfl) (by rfl) ?C1 ?C2 ?C3
  case C1 =>
    rename Below _ _ _ _ => B0
    rename Top _ _ _ _ _ _ => T0
    rename Frag.In _ _ => X0
    clear hc1 hc2 hcb
    intro number slack tn ts m0 o0 s0 Q0 hP F0 N0 e1 e2 e3 e4 hret
    have F1 := fr_has4 e2 e1 e4 e3 F0
    clear F0 e1 e2 e3 e4
    (try k_sweep)
    have hsb : intBits slack ≤ 64 := PySem.intBits_le_64 (by omega) (by omega)
    have hcb : intBits number ≤ 1000 := bits_abs (b := 10 ^ k.toNat) (by omega) (by omega) (ten_bits (by omega))
    obtain ⟨a1, a2, a3, a4⟩ := law08_pos hk1 hp1 hp2 hP.1 hP.2.1 hP.2.2.1
    obtain ⟨hP1, hP2, -, -⟩ := hP
    have hdb := dexpD_bits (by omega) (by omega) a3
    obtain ⟨d, hd⟩ : ∃ d, dexpD number (-k) p = d := ⟨_, rfl⟩
    rw [hd] at a4 hdb
    refine wpAny_execs_cons ?_
    (try dsimp only)
    k_steps
    refine Stop.mk ?_
    (with_unfolding_all refine' c_dexpV ?k1_1 ?k2_1 ?k3_1 ?k4_1 ?k5_1 ?kK_1 ?p1_1 ?p2_1 ?p3_1 ?p4_1 ?p5_1 ?p6_1 ?p7_1 ?p8_1 ?p9_1 ?kd_1 ?ku_1 ?kR_1); (case k1_1 => k_asm); (case k2_1 => k_asm); (case k3_1 => k_asm); (case k4_1 => k_asm); (case k5_1 => k_asm); (case kK_1 => first | exact rfl | assumption); (case p1_1 => exact hcb); (case p2_1 => omega); (case p3_1 => omega); (case p4_1 => omega); (case p5_1 => omega); (case p6_1 => exact a2); (case p7_1 => exact a3); (case p8_1 => exact hd); (case p9_1 => exact a1); (case kd_1 => ktr_room); (case ku_1 => ktr_units); (intro D9 t91 t92 h9 tk9 F9 N9 l9); (try dsimp only); (try k_fold)
    (try k_lt l9)
    clear a2 a3 hd
    k_steps
    refine Stop.mk ?_
    ktu_seq
    k_steps
    refine Stop.mk ?_
    rw [show (if number < 0 then -number else number) = number from if_neg (by omega)]
    (with_unfolding_all refine' c_lawb ?k1_2 ?k2_2 ?k3_2 ?k4_2 ?k5_2 ?kK_2 ?p1_2 ?p2_2 ?p3_2 ?p4_2 ?p5_2 ?p6_2 ?kd_2 ?ku_2 ?kR_2); (case k1_2 => k_asm); (case k2_2 => k_asm); (case k3_2 => k_asm); (case k4_2 => k_asm); (case k5_2 => k_asm); (case kK_2 => first | exact rfl | assumption); (case p1_2 => omega); (case p2_2 => omega); (case p3_2 => exact hk1); (case p4_2 => exact hk2); (case p5_2 => exact hp1); (case p6_2 => exact hp2); (case kd_2 => ktr_room); (case ku_2 => ktr_units); (intro low high D9 t91 t92 t93 h9 tk9 B9 F9 N9 l9); (try dsimp only); (try k_fold)
    (try k_lt l9)
    obtain ⟨b1, b2⟩ := a4 low high B9
    have o1 := B9.g1
    have o2 := B9.l1
    have o3 := B9.g2
    have o4 := B9.l2
    clear B9 a4
    k_steps
    refine mul_int ?_ (mul_ok (lin_bits' hdb hsb) hob)
    k_steps
    refine mul_int ?_ (mul_ok (high_bits hob o2 o4 ho) (ten_bits (by omega)))
    k_steps
    refine mul_int ?_ (mul_ok (lin_bits hdb hsb) hob)
    k_steps
    refine mul_int ?_ (mul_ok (high_bits hob o1 o3 ho) (ten_bits (by omega)))
    k_steps
    skip
    refine hret _ _ _ ?q1 ?q2 (by k_asm) ?q3
    case q1 => first | rfl | (simp; done)
    case q2 => first | rfl | (simp; done)
    case q3 => first | k_asm | (refine' cb_drop ?cbN ?cbS; (case cbN => assumption); (case cbS => kcj_all))
  case C2 =>
    rename Below _ _ _ _ => B0
    rename Top _ _ _ _ _ _ => T0
    rename Frag.In _ _ => X0
    clear hc1 hc2 hcb
    intro number slack tn ts m0 o0 s0 Q0 hP F0 N0 e1 e2 e3 e4 hret
    have F1 := fr_has4 e2 e1 e4 e3 F0
    clear F0 e1 e2 e3 e4
    (try k_sweep)
    obtain ⟨hP1, hP2, rfl⟩ := hP
    obtain ⟨c, rfl⟩ : ∃ c, number = -c := ⟨-number, by omega⟩
    have hc3 : 0 < c := by omega
    have hc2 : c < 10 ^ k.toNat := by omega
    have hsb : intBits 570 ≤ 64 := PySem.intBits_le_64 (by decide) (by decide)
    have hcb : intBits (-c) ≤ 1000 := bits_abs (b := 10 ^ k.toNat) (by omega) (by omega) (ten_bits (by omega))
    obtain ⟨a1, a2, a3, a4⟩ := law08_neg hk1 hp1 hp2 hc3 hc2
    have hdb := dexpD_bits (by omega) (by omega) a3
    obtain ⟨d, hd⟩ : ∃ d, dexpD (-c) (-k) p = d := ⟨_, rfl⟩
    rw [hd] at a4 hdb
    refine wpAny_execs_cons ?_
    (try dsimp only)
    k_steps
    refine Stop.mk ?_
    (with_unfolding_all refine' c_dexpV ?k1_3 ?k2_3 ?k3_3 ?k4_3 ?k5_3 ?kK_3 ?p1_3 ?p2_3 ?p3_3 ?p4_3 ?p5_3 ?p6_3 ?p7_3 ?p8_3 ?p9_3 ?kd_3 ?ku_3 ?kR_3); (case k1_3 => k_asm); (case k2_3 => k_asm); (case k3_3 => k_asm); (case k4_3 => k_asm); (case k5_3 => k_asm); (case kK_3 => first | exact rfl | assumption); (case p1_3 => exact hcb); (case p2_3 => omega); (case p3_3 => omega); (case p4_3 => omega); (case p5_3 => omega); (case p6_3 => exact a2); (case p7_3 => exact a3); (case p8_3 => exact hd); (case p9_3 => exact a1); (case kd_3 => ktr_room); (case ku_3 => ktr_units); (intro D9 t91 t92 h9 tk9 F9 N9 l9); (try dsimp only); (try k_fold)
    (try k_lt l9)
    clear a2 a3 hd
    k_steps
    refine Stop.mk ?_
    ktu_seq
    k_steps
    refine Stop.mk ?_
    rw [show (if -c < 0 then - -c else -c) = c by rw [if_pos (by omega)]; omega]
    (with_unfolding_all refine' c_lawb ?k1_4 ?k2_4 ?k3_4 ?k4_4 ?k5_4 ?kK_4 ?p1_4 ?p2_4 ?p3_4 ?p4_4 ?p5_4 ?p6_4 ?kd_4 ?ku_4 ?kR_4); (case k1_4 => k_asm); (case k2_4 => k_asm); (case k3_4 => k_asm); (case k4_4 => k_asm); (case k5_4 => k_asm); (case kK_4 => first | exact rfl | assumption); (case p1_4 => omega); (case p2_4 => omega); (case p3_4 => exact hk1); (case p4_4 => exact hk2); (case p5_4 => exact hp1); (case p6_4 => exact hp2); (case kd_4 => ktr_room); (case ku_4 => ktr_units); (intro low high D9 t91 t92 t93 h9 tk9 B9 F9 N9 l9); (try dsimp only); (try k_fold)
    (try k_lt l9)
    obtain ⟨b1, b2⟩ := a4 low high B9
    have o1 := B9.g1
    have o2 := B9.l1
    have o3 := B9.g2
    have o4 := B9.l2
    clear B9 a4
    k_steps
    refine mul_int ?_ (mul_ok hob hob)
    k_steps
    refine Stop.mk ?_
    refine floordiv_pos (by omega) (bits_mono (b64 ho hob o2 o4)) ?_
    k_steps
    refine mul_int ?_ (mul_ok (intBits_neg_le hob) hob)
    k_steps
    refine Stop.mk ?_
    refine floordiv_pos (by omega) (bits_mono (b64 ho hob o1 o3)) ?_
    k_steps
    refine mul_int ?_ (mul_ok (lin_bits' hdb hsb) hob)
    k_steps
    refine mul_int ?_ (mul_ok (flip_bits hob) (ten_bits (by omega)))
    k_steps
    refine mul_int ?_ (mul_ok (lin_bits hdb hsb) hob)
    k_steps
    refine mul_int ?_ (mul_ok (flip_bits' hob) (ten_bits (by omega)))
    k_steps
    skip
    refine hret _ _ _ ?q1 ?q2 (by k_asm) ?q3
    case q1 => first | rfl | (simp; done)
    case q2 => first | rfl | (simp; done)
    case q3 => first | k_asm | (refine' cb_drop ?cbN ?cbS; (case cbN => assumption); (case cbS => kcj_all))
  case C3 =>
    intro c1 c2
    refine turn_use c1 (by k_asm) (by k_asm) (by rfl) (by rfl) (by rfl) (by rfl) ⟨hc1, hc2, .inl (by decide), by decide⟩ ?_
    intro m9 h9 tk9 e93 e94 F9 N9
    (try dsimp only)
    k_steps
    refine Stop.mk ?_
    refine turn_two (c := c) (by k_asm) c1 c2 (by k_asm) (by rfl) (by rfl) (by first | exact e93 | simpa using e93) (by first | exact e94 | simpa using e94) hc1 hc2 ?_
    intro m9 h9 tk9 e93 e94 F9 N9
    (try dsimp only)
    k_steps
    refine Stop.mk ?_
    refine turn_use c1 (by k_asm) (by k_asm) (by rfl) (by rfl) (by first | exact e93 | simpa using e93) (by first | exact e94 | simpa using e94) ⟨by omega, by omega, .inr ⟨rfl, by omega⟩, by decide⟩ ?_
    intro m9 h9 tk9 e93 e94 F9 N9
    (try dsimp only)
    k_steps
  )
end Mine


theorem PySem.Challenge.cw_dm0269_08_holds : PySem.Challenge.rw_dm0269_08.Holds :=
  Mine.w08
