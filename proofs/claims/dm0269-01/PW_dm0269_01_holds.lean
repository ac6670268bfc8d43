import PyProof.Rows.All
import Wide.All
import OpenK.AllK
import Wide.FinOn
import Lean
import PySem.Challenge.RW_dm0269_01
open PySem PySem.W PyProof.Rows
set_option Elab.async false
set_option maxRecDepth 100000
set_option linter.all false

section
local macro_rules | `(tactic| omega) => `(tactic| lia)
namespace Mine
open PySem.Builtin.Int (intBits)

/-- the nearest whole number to a / b, ties to even -/
def divN (a b : Int) : Int := a / b + (if b < 2 * (a % b) + a / b % 2 then 1 else 0)

theorem divN_of {a b : Int} (hb : 0 < b) :
    (a.fdiv b + if decide (b < 2 * a.fmod b + Builtin.bitAnd (a.fdiv b) 1) = true then 1 else 0) = divN a b := by
  rw [Int.fdiv_eq_ediv_of_nonneg _ (Int.le_of_lt hb), Int.fmod_eq_emod_of_nonneg _ (Int.le_of_lt hb), bitAnd_m1]
  simp only [decide_eq_true_eq]
  rfl

theorem noPy {a b : Int} {Z : Prop} (h : intBits b ≤ 9000) : Builtin.divisionGoesByPylong a b = false ∨ Z := by
  refine Or.inl (PyProof.noPylong_of_log2 ?_)
  unfold PySem.Builtin.Int.intBits at h
  by_cases hb : (b == 0) = true
  · have : b = 0 := by simpa using hb
    subst this; decide +kernel
  · rw [if_neg hb] at h; omega

theorem rshN_of {a : Int} (n : Int) :
    (a.fdiv (2 ^ n.toNat) + if decide (1 * 2 ^ n.toNat < 2 * Builtin.bitAnd a (1 * 2 ^ n.toNat - 1) + Builtin.bitAnd (a.fdiv (2 ^ n.toNat)) 1) = true then 1 else 0) = divN a (2 ^ n.toNat) := by
  have hp : (0 : Int) < 2 ^ n.toNat := Int.pow_pos (by decide)
  rw [Int.one_mul, kbt_mask, Int.fdiv_eq_ediv_of_nonneg _ (Int.le_of_lt hp), bitAnd_m1]
  simp only [decide_eq_true_eq]
  rfl

/-! the turn of the Newton loop -/
def sqStep (n a : Int) : Int := (a - (-n) / a) / 2

theorem sqStep_of {n a : Int} (ha : 0 < a) : (a - (-n).fdiv a).fdiv (2 ^ (1 : Int).toNat) = sqStep n a := by
  rw [Int.fdiv_eq_ediv_of_nonneg _ (Int.le_of_lt ha)]
  exact Int.fdiv_eq_ediv_of_nonneg _ (by decide)

/-- what a turn yields, by the two bounds of the quotient c = ceil (n / a) -/
theorem sqStep_facts {n a : Int} (hn : 0 < n) (ha : 0 < a) :
    ∃ c, 0 < c ∧ a * (c - 1) < n ∧ n ≤ a * c ∧ sqStep n a = (a + c) / 2 := by
  refine ⟨-((-n) / a), ?_, ?_, ?_, ?_⟩
  · have := Int.mul_ediv_add_emod (-n) a
    have h2 := Int.emod_nonneg (-n) (by omega : a ≠ 0)
    have h3 := Int.emod_lt_of_pos (-n) ha
    rcases Int.lt_or_le ((-n) / a) 0 with h | h
    · omega
    · have := Int.mul_nonneg (Int.le_of_lt ha) h
      omega
  · have := Int.mul_ediv_add_emod (-n) a
    have h2 := Int.emod_nonneg (-n) (by omega : a ≠ 0)
    have h3 := Int.emod_lt_of_pos (-n) ha
    have e : a * (-((-n) / a) - 1) = -(a * ((-n) / a)) - a := by rw [Int.mul_sub, Int.mul_neg, Int.mul_one]
    omega
  · have := Int.mul_ediv_add_emod (-n) a
    have h2 := Int.emod_nonneg (-n) (by omega : a ≠ 0)
    have e : a * (-((-n) / a)) = -(a * ((-n) / a)) := by rw [Int.mul_neg]
    omega
  · unfold sqStep
    congr 1

theorem int_sq_nonneg (a : Int) : 0 ≤ a * a := by
  rcases Int.le_total 0 a with h | h
  · exact Int.mul_nonneg h h
  · exact Int.mul_nonneg_of_nonpos_of_nonpos h h

theorem sqStep_pos {n a : Int} (hn : 0 < n) (ha : 0 < a) : 0 < sqStep n a := by
  obtain ⟨c, h1, _, _, h4⟩ := sqStep_facts hn ha
  omega

theorem sqStep_le {n a B : Int} (hn : 0 < n) (ha : 0 < a) (hB : a ≤ B) (hnB : n ≤ B) : sqStep n a ≤ B := by
  obtain ⟨c, h1, h2, h3, h4⟩ := sqStep_facts hn ha
  have : c ≤ n := by
    rcases Int.lt_or_le n c with h | h
    · have h5 : 1 * (c - 1) ≤ a * (c - 1) := Int.mul_le_mul_of_nonneg_right (by omega) (by omega)
      omega
    · exact h
  omega

/-- behind a turn a (a + 1) is no less than n -/
theorem sqStep_over {n a : Int} (hn : 0 < n) (ha : 0 < a) : n ≤ sqStep n a * (sqStep n a + 1) := by
  obtain ⟨c, h1, h2, h3, h4⟩ := sqStep_facts hn ha
  generalize sqStep n a = d at h4 ⊢
  -- a + c is 2 d or 2 d + 1
  have h5 : a + c = 2 * d ∨ a + c = 2 * d + 1 := by omega
  rcases h5 with h5 | h5
  · have e : c = 2 * d - a := by omega
    subst e
    have := int_sq_nonneg (a - d)
    grind
  · have e : c = 2 * d + 1 - a := by omega
    subst e
    have : 0 ≤ (a - d) * (a - d - 1) := by
      rcases Int.lt_or_le d a with h | h
      · exact Int.mul_nonneg (by omega) (by omega)
      · have := Int.mul_nonneg (show 0 ≤ d - a by omega) (show 0 ≤ d + 1 - a by omega)
        grind
    grind

/-- from there on it does not rise -/
theorem sqStep_down {n a : Int} (hn : 0 < n) (ha : 0 < a) (h : n ≤ a * (a + 1)) : sqStep n a ≤ a := by
  obtain ⟨c, h1, h2, h3, h4⟩ := sqStep_facts hn ha
  have : c ≤ a + 1 := by
    rcases Int.lt_or_le (a + 1) c with h' | h'
    · have := Int.mul_le_mul_of_nonneg_left (show a + 1 ≤ c - 1 by omega) (Int.le_of_lt ha)
      omega
    · exact h'
  omega

/-- where it stands still: the nearest root -/
theorem sqStep_still {n a : Int} (hn : 0 < n) (ha : 0 < a) (h : sqStep n a = a) : a * a - a < n ∧ n ≤ a * a + a := by
  obtain ⟨c, h1, h2, h3, h4⟩ := sqStep_facts hn ha
  have h5 : c = a ∨ c = a + 1 := by omega
  rcases h5 with rfl | rfl
  · constructor
    · grind
    · grind
  · constructor
    · grind
    · grind

/-- the nearest root, as a number -/
def IsRoot (n r : Int) : Prop := 0 < r ∧ r * r - r < n ∧ n ≤ r * r + r

/-- what holds between two turns: a, b of the loop -/
def SqInv (n a₀ a b : Int) : Prop := 0 < a ∧ a ≤ max a₀ n ∧ (b = 0 ∨ (0 < b ∧ a = sqStep n b ∧ n ≤ a * (a + 1)))
def sqMeas (n a₀ a b : Int) : Nat := if b = 0 then (2 * max a₀ n + 2).toNat else (2 * a + (if a = b then 0 else 1)).toNat

theorem sqInv_start {n a₀ : Int} (h : 0 < a₀) : SqInv n a₀ a₀ 0 := ⟨h, by omega, .inl rfl⟩
theorem sqInv_turn {n a₀ a b : Int} (hn : 0 < n) (h : SqInv n a₀ a b) : SqInv n a₀ (sqStep n a) a :=
  ⟨sqStep_pos hn h.1, sqStep_le hn h.1 h.2.1 (by omega), .inr ⟨h.1, rfl, sqStep_over hn h.1⟩⟩
theorem sqInv_less {n a₀ a b : Int} (hn : 0 < n) (h : SqInv n a₀ a b) (hne : ¬ a = b) : sqMeas n a₀ (sqStep n a) a < sqMeas n a₀ a b := by
  have h1 := h.1
  have h2 := sqStep_pos hn h1
  have h3 := sqStep_le hn h1 h.2.1 (show n ≤ max a₀ n by omega)
  unfold sqMeas
  rw [if_neg (show ¬ a = 0 by omega)]
  rcases h.2.2 with hb | ⟨hb, e, ho⟩
  · rw [if_pos hb]
    split <;> omega
  · rw [if_neg (show ¬ b = 0 by omega), if_neg hne]
    have := sqStep_down hn h1 ho
    split <;> omega
theorem sqInv_done {n a₀ a b : Int} (hn : 0 < n) (h : SqInv n a₀ a b) (e : a = b) : IsRoot n a := by
  rcases h.2.2 with hb | ⟨hb, e2, ho⟩
  · have := h.1; omega
  · subst e
    exact ⟨h.1, sqStep_still hn h.1 e2.symm⟩

theorem bits_le_max {a b : Int} {k : Nat} (ha : intBits a ≤ k) (hb : intBits b ≤ k) {x : Int} (h0 : 0 < x) (h : x ≤ max a b) : intBits x ≤ k := by
  have h1 := intBits_le_iff.mp ha
  have h2 := intBits_le_iff.mp hb
  refine intBits_le_iff.mpr ?_
  generalize 2 ^ k = t at h1 h2 ⊢
  omega

theorem root_unique {n a b : Int} (ha : IsRoot n a) (hb : IsRoot n b) : a = b := by
  obtain ⟨a0, a1, a2⟩ := ha
  obtain ⟨b0, b1, b2⟩ := hb
  rcases Int.lt_trichotomy a b with h | h | h
  · have := Int.mul_le_mul (show a ≤ b - 1 by omega) (show a + 1 ≤ b by omega) (by omega) (by omega)
    have e1 : a * (a + 1) = a * a + a := by grind
    have e2 : (b - 1) * b = b * b - b := by grind
    omega
  · exact h
  · have := Int.mul_le_mul (show b ≤ a - 1 by omega) (show b + 1 ≤ a by omega) (by omega) (by omega)
    have e1 : b * (b + 1) = b * b + b := by grind
    have e2 : (a - 1) * a = a * a - a := by grind
    omega

noncomputable def sqrtN (n : Int) : Int := Classical.epsilon (IsRoot n)
theorem sqrtN_of {n r : Int} (h : IsRoot n r) : r = sqrtN n := root_unique h (Classical.epsilon_spec (p := IsRoot n) ⟨r, h⟩)

/-- y behind R halvings -/
noncomputable def yH (M x : Int) : Nat → Int
  | 0 => x - M
  | R + 1 => divN (M * yH M x R * 2) (M + sqrtN (M * (M + divN (yH M x R) (2 ^ R))))

/-- the series' sum behind j turns -/
def wS (M ys T : Int) : Nat → Int
  | 0 => divN M T
  | j + 1 => divN M (T - 1 - (j : Int)) - divN (ys * wS M ys T j) M

/-- the halving loop's test -/
def Halves (M L y : Int) (R : Nat) : Prop := M * 2 ^ R ≤ (y.natAbs : Int) * 2 ^ L.toNat

theorem two_pow_pos (n : Nat) : (0 : Int) < 2 ^ n := Int.pow_pos (by decide)

theorem log_of_bits {a : Int} {k : Nat} (h : intBits a ≤ k) (hk : k ≤ 1900 := by decide) : a.natAbs.log2 < 1920 := by
  unfold PySem.Builtin.Int.intBits at h
  by_cases hb : (a == 0) = true
  · have : a = 0 := by simpa using hb
    subst this; decide +kernel
  · rw [if_neg hb] at h; omega

/-- how many signs a number's text has -/
def digs (M : Int) : Int := ((Str.ofString (toString M)).length : Int)

theorem divN_bits {a b : Int} {k : Nat} (hb : 0 < b) (ha : intBits a ≤ k) : intBits (divN a b) ≤ k + 1 := by
  have h1 := intBits_le_iff.mp ha
  refine intBits_le_iff.mpr ?_
  have h2 : (a / b).natAbs ≤ a.natAbs := by
    have := natAbs_fdiv_le a b
    rwa [Int.fdiv_eq_ediv_of_nonneg _ (Int.le_of_lt hb)] at this
  rw [Nat.pow_succ]
  have hp : 0 < 2 ^ k := Nat.two_pow_pos k
  unfold divN
  generalize 2 ^ k = t at h1 hp ⊢
  generalize a / b = q at h2 ⊢
  split <;> omega

theorem bits_mono {a : Int} {j k : Nat} (h : intBits a ≤ j) (hk : j ≤ k := by decide) : intBits a ≤ k := Nat.le_trans h hk

theorem Halves_up {M L y : Int} {j : Nat} (hj : (j : Int) ≤ L) : Halves M L y j ↔ M ≤ (if y < 0 then -y else y) * 2 ^ (L - (j : Int)).toNat := by
  have e : (y.natAbs : Int) = (if y < 0 then -y else y) := by split <;> omega
  have e2 : L.toNat = (L - (j : Int)).toNat + j := by omega
  have hp := two_pow_pos j
  unfold Halves
  rw [e, e2, Int.pow_add, ← Int.mul_assoc]
  exact Int.mul_le_mul_right hp
theorem Halves_down {M L y : Int} {j : Nat} (hL : 0 ≤ L) (hj : ¬ (j : Int) ≤ L) : Halves M L y j ↔ M ≤ (if y < 0 then -y else y).fdiv (2 ^ ((j : Int) - L).toNat) := by
  have e : (y.natAbs : Int) = (if y < 0 then -y else y) := by split <;> omega
  have e2 : j = ((j : Int) - L).toNat + L.toNat := by omega
  have hp := two_pow_pos L.toNat
  have hp2 := two_pow_pos ((j : Int) - L).toNat
  unfold Halves
  rw [Int.fdiv_eq_ediv_of_nonneg _ (Int.le_of_lt hp2), Int.le_ediv_iff_mul_le hp2, ← e]
  generalize ((j : Int) - L).toNat = d at *
  rw [e2, Int.pow_add, ← Int.mul_assoc]
  exact Int.mul_le_mul_right hp

/-- a size, told under a name of its own -/
structure Bd (k : Nat) (a : Int) : Prop where
  out : intBits a ≤ k
theorem abs_shl {a n : Int} {k : Nat} (h : intBits a ≤ k) (hn : n ≤ 100000) (hk : k ≤ 100000 := by decide) : (intBits (if a < 0 then -a else a) : Int) + n ≤ 2 ^ 27 := by
  have h2 : intBits (if a < 0 then -a else a) ≤ k := by
    split
    · exact intBits_neg_le h
    · exact h
  have e : (2 : Int) ^ 27 = 134217728 := by decide
  omega
theorem shl_ok {a n : Int} {k : Nat} (h : intBits a ≤ k) (hn : n ≤ 100000) (hk : k ≤ 100000 := by decide) : (intBits a : Int) + n ≤ 2 ^ 27 := by
  have e : (2 : Int) ^ 27 = 134217728 := by decide
  omega
theorem yH_turn {M x r : Int} {j R₁ : Nat} (h : IsRoot (M * (M + divN (yH M x j) (2 ^ (j : Int).toNat))) r) (hlt : j < R₁) :
    ∃ j' : Nat, (j : Int) + 1 = (j' : Int) ∧ j' ≤ R₁ ∧ divN (M * yH M x j * 2 ^ (1 : Int).toNat) (M + r) = yH M x j' := by
  refine ⟨j + 1, by omega, hlt, ?_⟩
  have e := sqrtN_of h
  subst e
  rfl

/-- the walk stands still before what is so marked -/
structure Stop (p : Prop) : Prop where
  out : p
theorem mul_ok {a b : Int} {j k : Nat} (ha : intBits a ≤ j) (hb : intBits b ≤ k) (h : j + k ≤ 100000 := by decide) : IntMulOk a b := IntMulOk.of_le ha hb (by omega)

theorem root_le {n r : Int} (h : IsRoot n r) : r ≤ n := by
  obtain ⟨h0, h1, h2⟩ := h
  rcases Int.lt_or_le n r with h | h
  · have : 0 ≤ (r - 1) * (r - 1) := int_sq_nonneg _
    have e : (r - 1) * (r - 1) = r * r - 2 * r + 1 := by grind
    omega
  · exact h
theorem root_bits {M d r : Int} {j k : Nat} (hM : 0 < M) (hM2 : intBits M ≤ j) (hd : 0 < d) (hd2 : intBits d ≤ k) (h : IsRoot (M * d) r) (hjk : j + k ≤ 8000 := by decide) : intBits (M + r) ≤ 9000 := by
  have hn : 0 < M * d := Int.mul_pos hM hd
  have h1 : intBits r ≤ j + k := bits_le_max (intBits_mul_le hM2 hd2) (intBits_mul_le hM2 hd2) h.1 (by have := root_le h; omega)
  refine Nat.le_trans (intBits_add_le hM2 h1) ?_
  omega

/-- how many terms of the series -/
def tOf (M L : Int) : Int := -((-10 * digs M) / (3 * L))
noncomputable def ilogF (M x L : Int) (R : Nat) : Int :=
  divN (wS M (divN (yH M x R) (2 ^ R)) (tOf M L) (tOf M L - 1).toNat * yH M x R) M

theorem digs_le {M : Int} {k : Nat} (hk : 0 < k) (h : intBits M ≤ k) : digs M ≤ k + 1 := by
  have h1 : M.natAbs.log2 < k := by
    unfold PySem.Builtin.Int.intBits at h
    by_cases hb : (M == 0) = true
    · have : M = 0 := by simpa using hb
      subst this; exact hk
    · rw [if_neg hb] at h; omega
  have h2 := int_text_length_le hk h1
  unfold digs
  rw [PySem.ofString_length]
  omega
theorem digs_nat (n : Nat) : digs (n : Int) = ((Nat.toDigits 10 n).length : Int) := by
  have h1 : (Str.ofString (toString (n : Int))).length = (Nat.toDigits 10 n).length := by
    rw [PySem.ofString_length]
    show (toString (n : Int)).length = _
    rw [show toString (n : Int) = toString n from rfl]
    show (Nat.repr n).length = _
    unfold Nat.repr
    simp
  unfold digs
  rw [h1]
theorem digs_iff {M : Int} (h0 : 0 ≤ M) {k : Nat} (hk : 0 < k) : digs M ≤ k ↔ M < 10 ^ k := by
  obtain ⟨n, rfl⟩ := Int.eq_ofNat_of_zero_le h0
  rw [digs_nat]
  have h2 := Nat.length_toDigits_le_iff (b := 10) (n := n) (by decide) hk
  constructor
  · intro h
    have h3 := h2.mp (by omega)
    exact_mod_cast h3
  · intro h
    have h3 : n < 10 ^ k := by exact_mod_cast h
    have := h2.mpr h3
    omega
theorem digs_pos {M : Int} (h0 : 0 ≤ M) : 0 < digs M := by
  obtain ⟨n, rfl⟩ := Int.eq_ofNat_of_zero_le h0
  rw [digs_nat]
  have := Nat.length_toDigits_pos (b := 10) (n := n)
  omega
theorem tOf_pos {M L : Int} (h0 : 0 ≤ M) (hL : 0 < L) : 0 < tOf M L := by
  have h1 := digs_pos h0
  unfold tOf
  have : (-10 * digs M) / (3 * L) < 0 := Int.ediv_neg_of_neg_of_pos (by omega) (by omega)
  omega
theorem tOf_le {M L : Int} {k : Nat} (hk : 0 < k) (hM : intBits M ≤ k) (hL : 0 < L) : tOf M L ≤ 10 * (k + 1) := by
  have h1 := digs_le hk hM
  unfold tOf
  have : (-10 * ((k : Int) + 1)) ≤ (-10 * digs M) / (3 * L) := by
    rw [Int.le_ediv_iff_mul_le (by omega)]
    have : (-10 * ((k : Int) + 1)) * (3 * L) ≤ (-10 * ((k : Int) + 1)) * 1 := Int.mul_le_mul_of_nonpos_left (by omega) (by omega)
    omega
  omega

section
variable {prog : Program} {w : World} {A : Around} {E : Value → Shared → Prop} {s : Shared}
theorem len_digs {M : Int} {t : Tok} {Q : Value → Shared → Prop} (hM : intBits M ≤ 1000) (h : Q (.int (digs M) (s.toks + 1)) { s with toks := s.toks + 1 + 1 }) : wpAny (model prog w) A (call (.builtin "len") [.str (Str.ofString (toString M)) t]) Q E s := by
  have h1 := digs_le (by decide) hM
  unfold digs at h1
  exact P.len_str (by omega) h
theorem mod_gen {a b : Int} {t u : Tok} {Q : Value → Shared → Prop} (hb : 0 < b) (h : ∀ r, 0 ≤ r → r < b → Q (.int r s.toks) { s with toks := s.toks + 1 }) : wpAny (model prog w) A (binaryOp .Mod (.int a t) (.int b u)) Q E s :=
  mod_int' (by omega) (h _ (Int.fmod_nonneg_of_pos a hb) (Int.fmod_lt_of_pos a hb))
theorem ne_same {a : Int} {t u : Tok} {Q : Value → Shared → Prop} (h : Q (.bool false) s) : wpAny (model prog w) A (compareOp .NotEq (.int a t) (.int a u)) Q E s := ne_int (by simpa using h)
theorem floordiv_pos {a b : Int} {t u : Tok} {Q : Value → Shared → Prop} (hb : 0 < b) (hb2 : intBits b ≤ 9000) (h : Q (.int (a / b) s.toks) { s with toks := s.toks + 1 }) : wpAny (model prog w) A (binaryOp .FloorDiv (.int a t) (.int b u)) Q E s :=
  floordiv_int (by omega) (by rw [Int.fdiv_eq_ediv_of_nonneg _ (Int.le_of_lt hb)]; exact h) (noPy hb2)
end

theorem bits_small {a : Int} {b : Int} (h : 0 < a) (h2 : a ≤ b) (hb : b ≤ 1000000000 := by decide) : intBits a ≤ 9000 := bits_mono (PySem.intBits_le_64 (by omega) (by omega))
theorem wS_turn {M ys T k : Int} {pre : List Int} (hk : k = T - 1 - (pre.length : Int)) : divN M k - divN (ys * wS M ys T pre.length) M = wS M ys T (pre ++ [k]).length := by
  rw [List.length_append, List.length_singleton, hk]
  rfl

theorem ilogF_of {M x L : Int} {j n : Nat} (h : n = (tOf M L - 1).toNat) : divN (wS M (divN (yH M x j) (2 ^ j)) (tOf M L) n * yH M x j) M = ilogF M x L j := by
  subst h; rfl

/-- the series of _iexp behind j turns -/
def eS (x Ms T : Int) : Nat → Int
  | 0 => divN x T
  | j + 1 => divN (x * (Ms + eS x Ms T j)) (Ms * (T - 1 - (j : Int)))
/-- the doublings of _iexp behind j turns, of R -/
def dS (M : Int) (R : Nat) (y : Int) : Nat → Int
  | 0 => y
  | j + 1 => divN (dS M R y j * (dS M R y j + M * 2 ^ (R - 1 - j + 2))) (M * 2 ^ (R - 1 - j + 2))
def rOf (M x L : Int) : Nat := intBits ((x * 2 ^ L.toNat) / M)
def iexpY (M x L : Int) : Int := eS x (M * 2 ^ rOf M x L) (tOf M L) (tOf M L - 1).toNat
def iexpF (M x L : Int) : Int := M + dS M (rOf M x L) (iexpY M x L) (rOf M x L)

theorem eS_turn {x Ms T k : Int} {pre : List Int} (hk : k = T - 1 - (pre.length : Int)) : divN (x * (Ms + eS x Ms T pre.length)) (Ms * k) = eS x Ms T (pre ++ [k]).length := by
  rw [List.length_append, List.length_singleton, hk]
  rfl
theorem dS_turn {M y k : Int} {R : Nat} {pre : List Int} (hk : k = (R : Int) - 1 - (pre.length : Int)) (hlt : pre.length < R) : divN (dS M R y pre.length * (dS M R y pre.length + M * 2 ^ (k + 2).toNat)) (M * 2 ^ (k + 2).toNat) = dS M R y (pre ++ [k]).length := by
  rw [List.length_append, List.length_singleton]
  have e : (k + 2).toNat = R - 1 - pre.length + 2 := by omega
  rw [e]
  rfl
theorem two_pow_bits (n : Nat) : intBits ((2 : Int) ^ n) ≤ n + 1 := by
  refine intBits_le_iff.mpr ?_
  rw [Int.natAbs_pow]
  exact Nat.pow_lt_pow_right (by decide) (by omega)
theorem shl_bits {M : Int} {k n c : Nat} (hM : intBits M ≤ k) (h : k + n + 1 ≤ c) : intBits (M * 2 ^ n) ≤ c := Nat.le_trans (intBits_mul_le hM (two_pow_bits n)) (by omega)
theorem shl_pos {M : Int} (hM : 0 < M) (n : Nat) : 0 < M * 2 ^ n := Int.mul_pos hM (two_pow_pos n)
theorem iexpY_of {M x L : Int} {n : Nat} (h : n = (tOf M L - 1).toNat) : eS x (M * 2 ^ rOf M x L) (tOf M L) n = iexpY M x L := by
  subst h; rfl
theorem iexpF_of {M x L : Int} {n : Nat} (h : n = rOf M x L) : M + dS M (rOf M x L) (iexpY M x L) n = iexpF M x L := by
  subst h; rfl

theorem gen_int {P : Int → Prop} (v : Int) (h : ∀ x, v = x → P x) : P v := h v rfl

end Mine

namespace Mine
open PySem.Builtin.Int (intBits)

theorem divN_spec {a b : Int} (hb : 0 < b) : -b ≤ 2 * (a - b * divN a b) ∧ 2 * (a - b * divN a b) ≤ b := by
  have h1 := Int.mul_ediv_add_emod a b
  have h2 := Int.emod_nonneg a (by omega : b ≠ 0)
  have h3 := Int.emod_lt_of_pos a hb
  unfold divN
  generalize a / b = q at *
  generalize a % b = r at *
  split
  · have e : b * (q + 1) = b * q + b := by rw [Int.mul_add, Int.mul_one]
    rw [e]
    omega
  · have e : b * (q + 0) = b * q := by rw [Int.add_zero]
    rw [e]
    omega

theorem divN_le {a b c : Int} (hb : 0 < b) (h : 2 * a < b * (2 * c + 1)) : divN a b ≤ c := by
  have h1 := (divN_spec (a := a) hb).1
  generalize divN a b = q at *
  rcases Int.lt_or_le c q with h2 | h2
  · have := Int.mul_le_mul_of_nonneg_left (show c + 1 ≤ q by omega) (Int.le_of_lt hb)
    grind
  · exact h2

theorem le_divN {a b c : Int} (hb : 0 < b) (h : b * (2 * c - 1) < 2 * a) : c ≤ divN a b := by
  have h1 := (divN_spec (a := a) hb).2
  generalize divN a b = q at *
  rcases Int.lt_or_le q c with h2 | h2
  · have := Int.mul_le_mul_of_nonneg_left (show q ≤ c - 1 by omega) (Int.le_of_lt hb)
    grind
  · exact h2

theorem divN_le' {a b c : Int} (hb : 0 < b) (h : a ≤ b * c) : divN a b ≤ c := divN_le hb (by grind)
theorem le_divN' {a b c : Int} (hb : 0 < b) (h : b * c ≤ a) : c ≤ divN a b := le_divN hb (by grind)
theorem exists_first (P : Nat → Prop) : ∀ n, ¬ P n → ∃ r ≤ n, ¬ P r ∧ ∀ j < r, P j
  | 0, h => ⟨0, Nat.le_refl _, h, fun j hj => absurd hj (Nat.not_lt_zero j)⟩
  | n + 1, h => by
    by_cases hn : P n
    · by_cases hall : ∀ j < n + 1, P j
      · exact ⟨n + 1, Nat.le_refl _, h, hall⟩
      · obtain ⟨j, hj⟩ := Classical.not_forall.mp hall
        have hj1 : j < n + 1 := Classical.byContradiction fun h' => hj fun h'' => absurd h'' h'
        have hj2 : ¬ P j := fun h' => hj fun _ => h'
        have hjn : j < n := by
          rcases Nat.lt_or_ge j n with h' | h'
          · exact h'
          · have : j = n := by omega
            subst this; exact absurd hn hj2
        obtain ⟨r, h1, h2, h3⟩ := exists_first P j hj2
        exact ⟨r, by omega, h2, h3⟩
    · obtain ⟨r, h1, h2, h3⟩ := exists_first P n hn
      exact ⟨r, by omega, h2, h3⟩
termination_by n => n

theorem bits_abs {a b : Int} {k : Nat} (h1 : -b ≤ a) (h2 : a ≤ b) (hb : intBits b ≤ k) : intBits a ≤ k :=
  intBits_le_of_natAbs (y := b) (by omega) hb
theorem root_exists_nat : ∀ n : Nat, ∃ r, IsRoot ((n : Int) + 1) r
  | 0 => ⟨1, by decide, by decide, by decide⟩
  | n + 1 => by
    obtain ⟨r, h0, h1, h2⟩ := root_exists_nat n
    rcases Int.lt_or_le ((n : Int) + 1) (r * r + r) with h | h
    · exact ⟨r, h0, by omega, by omega⟩
    · refine ⟨r + 1, by omega, ?_, ?_⟩
      · have : (r + 1) * (r + 1) = r * r + 2 * r + 1 := by grind
        omega
      · have : (r + 1) * (r + 1) = r * r + 2 * r + 1 := by grind
        omega
theorem sqrtN_spec {n : Int} (hn : 0 < n) : IsRoot n (sqrtN n) := by
  obtain ⟨r, hr⟩ := root_exists_nat (n - 1).toNat
  have e : (((n - 1).toNat : Nat) : Int) + 1 = n := by omega
  rw [e] at hr
  exact Classical.epsilon_spec (p := IsRoot n) ⟨r, hr⟩

end Mine

namespace Mine
open PySem.Builtin.Int (intBits)

/-- a nearest quotient is no further from nought than what is divided -/
theorem divN_small {a b c : Int} (hb : 0 < b) (h1 : -c ≤ a) (h2 : a ≤ c) : -c ≤ divN a b ∧ divN a b ≤ c := by
  have hc : 0 ≤ c := by omega
  have e : c ≤ b * c := by
    have := Int.mul_le_mul_of_nonneg_right (show 1 ≤ b by omega) hc
    omega
  constructor
  · refine le_divN' hb ?_
    have : b * -c = -(b * c) := Int.mul_neg b c
    omega
  · exact divN_le' hb (by omega)

theorem mul_abs {a b A B : Int} (a1 : -A ≤ a) (a2 : a ≤ A) (b1 : -B ≤ b) (b2 : b ≤ B) : -(A * B) ≤ a * b ∧ a * b ≤ A * B := by
  have h1 := Int.mul_nonneg (show 0 ≤ A - a by omega) (show 0 ≤ B + b by omega)
  have h2 := Int.mul_nonneg (show 0 ≤ A + a by omega) (show 0 ≤ B - b by omega)
  have h3 := Int.mul_nonneg (show 0 ≤ A - a by omega) (show 0 ≤ B - b by omega)
  have h4 := Int.mul_nonneg (show 0 ≤ A + a by omega) (show 0 ≤ B + b by omega)
  constructor <;> grind

theorem divN_abs {a b c : Int} (hb : 0 < b) (h1 : -(c * b) ≤ a) (h2 : a ≤ c * b) : -c ≤ divN a b ∧ divN a b ≤ c :=
  ⟨le_divN' hb (by grind), divN_le' hb (by grind)⟩

/-- M / i for i from 2 on -/
theorem part_le {M i : Int} (hM : 0 < M) (hi : 2 ≤ i) : 0 ≤ divN M i ∧ 2 * divN M i ≤ M + 1 := by
  have h1 := (divN_spec (a := M) (b := i) (by omega)).1
  have h0 : 0 ≤ divN M i := le_divN' (by omega) (by rw [Int.mul_zero]; omega)
  generalize divN M i = q at *
  refine ⟨h0, ?_⟩
  rcases Int.lt_or_le (M + 1) (2 * q) with h | h
  · have a1 := Int.mul_le_mul_of_nonneg_left (show M + 2 ≤ 2 * q by omega) (show 0 ≤ i by omega)
    have a2 := Int.mul_le_mul_of_nonneg_right hi (show 0 ≤ M by omega)
    grind
  · exact h
theorem wS_le {M ys T K : Int} (hM : 0 < M) (hK : 4 * K + 4 ≤ M) (hT : 1 ≤ T) (y1 : -K ≤ ys) (y2 : ys ≤ K) : ∀ j : Nat, (j : Int) + 2 ≤ T ∨ j = 0 → -M ≤ wS M ys T j ∧ wS M ys T j ≤ M
  | 0, _ => divN_small (by omega) (by omega) (by omega)
  | j + 1, hj => by
    have hj' : ((j + 1 : Nat) : Int) + 2 ≤ T := by omega
    obtain ⟨w1, w2⟩ := wS_le hM hK hT y1 y2 j (by omega)
    obtain ⟨p1, p2⟩ := part_le (i := T - 1 - (j : Int)) hM (by omega)
    obtain ⟨q1, q2⟩ := mul_abs y1 y2 w1 w2
    obtain ⟨t1, t2⟩ := divN_abs (a := ys * wS M ys T j) (c := K) hM q1 q2
    show -M ≤ divN M (T - 1 - (j : Int)) - divN (ys * wS M ys T j) M ∧ divN M (T - 1 - (j : Int)) - divN (ys * wS M ys T j) M ≤ M
    omega

theorem wS_succ {M ys T : Int} {j : Nat} : wS M ys T (j + 1) = divN M (T - 1 - (j : Int)) - divN (ys * wS M ys T j) M := rfl

theorem wS_all {M ys T K : Int} (hM : 0 < M) (hK : 4 * K + 4 ≤ M) (hT : 1 ≤ T) (y1 : -K ≤ ys) (y2 : ys ≤ K) (j : Nat) (hj : (j : Int) < T) : -(2 * M) ≤ wS M ys T j ∧ wS M ys T j ≤ 2 * M := by
  rcases j with _ | j
  · have := wS_le (T := T) hM hK hT y1 y2 0 (.inr rfl)
    omega
  · obtain ⟨w1, w2⟩ := wS_le (T := T) hM hK hT y1 y2 j (by omega)
    obtain ⟨p1, p2⟩ := divN_small (a := M) (b := T - 1 - (j : Int)) (c := M) (by omega) (by omega) (by omega)
    obtain ⟨q1, q2⟩ := mul_abs y1 y2 w1 w2
    obtain ⟨t1, t2⟩ := divN_abs (a := ys * wS M ys T j) (c := K) hM q1 q2
    rw [wS_succ]
    omega

/-! _iexp, a distance below the root -/
theorem eS_succ {x Ms T : Int} {j : Nat} : eS x Ms T (j + 1) = divN (x * (Ms + eS x Ms T j)) (Ms * (T - 1 - (j : Int))) := rfl

/-- no sum is further from nought than x, with x * x less than the scale -/
theorem eS_le {x Ms T c : Int} (x1 : -c ≤ x) (x2 : x ≤ c) (hx : c ≤ Ms) (hMs : 0 < Ms) (hT : 1 ≤ T) : ∀ j : Nat, (j : Int) + 2 ≤ T ∨ j = 0 → -c ≤ eS x Ms T j ∧ eS x Ms T j ≤ c
  | 0, _ => divN_small (by omega) x1 x2
  | j + 1, hj => by
    obtain ⟨e1, e2⟩ := eS_le x1 x2 hx hMs hT j (by omega)
    have hc : 0 ≤ c := by omega
    rw [eS_succ]
    generalize eS x Ms T j = y at *
    have hi : 2 ≤ T - 1 - (j : Int) := by omega
    generalize T - 1 - (j : Int) = i at *
    obtain ⟨m1, m2⟩ := mul_abs x1 x2 e1 e2
    have p1 := Int.mul_le_mul_of_nonneg_right x1 (Int.le_of_lt hMs)
    have p2 := Int.mul_le_mul_of_nonneg_right x2 (Int.le_of_lt hMs)
    have p3 := Int.mul_le_mul_of_nonneg_left hx hc
    have p4 := Int.mul_le_mul_of_nonneg_left hi (Int.mul_nonneg hc (Int.le_of_lt hMs))
    exact divN_abs (Int.mul_pos hMs (by omega)) (by grind) (by grind)

theorem dS_succ {M y : Int} {R j : Nat} : dS M R y (j + 1) = divN (dS M R y j * (dS M R y j + M * 2 ^ (R - 1 - j + 2))) (M * 2 ^ (R - 1 - j + 2)) := rfl
theorem two_pow_ge1 (n : Nat) : (1 : Int) ≤ 2 ^ n := two_pow_pos n
/-! without a halving: distances from the root to half as much again -/
end Mine

namespace Mine
namespace Ex

theorem sq_nonneg (a : Rat) : 0 ≤ a * a := by
  rcases Rat.le_total (a := 0) (b := a) with h | h
  · exact Rat.mul_nonneg h h
  · have := Rat.mul_nonneg (show 0 ≤ -a by grind) (show 0 ≤ -a by grind)
    grind

theorem lt_of_not_le {a b : Rat} (h : ¬ a ≤ b) : b < a := Rat.not_le.mp h
theorem le_div {a b c : Rat} (hc : 0 < c) (h : a * c ≤ b) : a ≤ b / c := by
  have e : b / c * c = b := Rat.div_mul_cancel (by grind)
  rcases Classical.em (a ≤ b / c) with x | x
  · exact x
  · have := Rat.mul_lt_mul_of_pos_right (lt_of_not_le x) hc
    grind
theorem div_le {a b c : Rat} (hc : 0 < c) (h : b ≤ a * c) : b / c ≤ a := by
  have e : b / c * c = b := Rat.div_mul_cancel (by grind)
  rcases Classical.em (b / c ≤ a) with x | x
  · exact x
  · have := Rat.mul_lt_mul_of_pos_right (lt_of_not_le x) hc
    grind
theorem le_div_mul {a b c : Rat} (hc : 0 < c) (h : a ≤ b / c) : a * c ≤ b := by
  have e : b / c * c = b := Rat.div_mul_cancel (by grind)
  have := Rat.mul_le_mul_of_nonneg_right h (Rat.le_of_lt hc)
  grind
theorem div_le_mul {a b c : Rat} (hc : 0 < c) (h : b / c ≤ a) : b ≤ a * c := by
  have e : b / c * c = b := Rat.div_mul_cancel (by grind)
  have := Rat.mul_le_mul_of_nonneg_right h (Rat.le_of_lt hc)
  grind
theorem div_mono {a b p : Rat} (hp : 0 < p) (h : a ≤ b) : a / p ≤ b / p := by
  refine div_le hp ?_
  have e : b / p * p = b := Rat.div_mul_cancel (by grind)
  rw [e]
  exact h
theorem div_pos {a b : Rat} (ha : 0 < a) (hb : 0 < b) : 0 < a / b := by
  have := Rat.mul_pos ha (Rat.inv_pos.mpr hb)
  grind
theorem div_nn {a b : Rat} (ha : 0 ≤ a) (hb : 0 < b) : 0 ≤ a / b := le_div hb (by grind)

/-- u to the power 2 ^ n, by squaring -/
def sq : Nat → Rat → Rat
  | 0, u => u
  | n + 1, u => sq n (u * u)

theorem sq_mul (u v : Rat) : ∀ n, sq n (u * v) = sq n u * sq n v := by
  intro n
  induction n generalizing u v with
  | zero => rfl
  | succ n ih =>
    show sq n (u * v * (u * v)) = sq n (u * u) * sq n (v * v)
    rw [← ih]
    congr 1
    grind
theorem sq_one : ∀ n, sq n 1 = 1
  | 0 => rfl
  | n + 1 => by show sq n (1 * 1) = 1; rw [Rat.mul_one]; exact sq_one n
theorem sq_le {u v : Rat} (h0 : 0 ≤ u) (h : u ≤ v) : ∀ n, sq n u ≤ sq n v := by
  intro n
  induction n generalizing u v with
  | zero => exact h
  | succ n ih =>
    refine ih (sq_nonneg u) ?_
    have h1 := Rat.mul_le_mul_of_nonneg_left h h0
    have h2 := Rat.mul_le_mul_of_nonneg_right h (show 0 ≤ v by grind)
    grind
theorem sq_pos {u : Rat} (h : 0 < u) : ∀ n, 0 < sq n u := by
  intro n
  induction n generalizing u with
  | zero => exact h
  | succ n ih => exact ih (Rat.mul_pos h h)
theorem sq_nn {u : Rat} (h : 0 ≤ u) (n : Nat) : 0 ≤ sq n u := by
  have := sq_le (u := 0) (by grind) h n
  have e : ∀ n, sq n 0 = 0 := by
    intro n
    induction n with
    | zero => rfl
    | succ n ih => show sq n (0 * 0) = 0; rw [Rat.zero_mul]; exact ih
  rw [e] at this
  exact this

/-- two to the n, as a rational -/
def P (n : Nat) : Rat := 2 ^ n
theorem P_zero : P 0 = 1 := by unfold P; grind
theorem P_succ (n : Nat) : P (n + 1) = 2 * P n := by unfold P; grind
theorem P_pos : ∀ n, 0 < P n
  | 0 => by rw [P_zero]; decide
  | n + 1 => by rw [P_succ]; have := P_pos n; grind
theorem P_ge : ∀ n : Nat, ((n : Nat) : Rat) + 1 ≤ P n
  | 0 => by rw [P_zero]; grind
  | n + 1 => by
    rw [P_succ]
    have h := P_ge n
    have h2 := P_pos n
    have e : ((n + 1 : Nat) : Rat) = (n : Rat) + 1 := by grind
    rw [e]
    rcases Nat.eq_zero_or_pos n with h0 | h0
    · subst h0; rw [P_zero] at *; grind
    · have : (1 : Rat) ≤ (n : Rat) := by exact_mod_cast h0
      grind
theorem P_mono {m n : Nat} (h : m ≤ n) : P m ≤ P n := by
  obtain ⟨k, rfl⟩ := Nat.le.dest h
  induction k with
  | zero => exact Rat.le_refl
  | succ k ih =>
    have := ih (by omega)
    have := P_pos (m + k)
    have e := P_succ (m + k)
    have e2 : m + (k + 1) = m + k + 1 := by omega
    rw [e2, e]
    grind

theorem arch (q : Rat) : ∃ n : Nat, q < (n : Rat) := by
  refine ⟨(q.ceil + 1).toNat, ?_⟩
  have h1 : q ≤ (q.ceil : Rat) := Rat.le_ceil
  have h2 : q.ceil < (((q.ceil + 1).toNat : Nat) : Int) := by omega
  have h3 : ((q.ceil : Int) : Rat) < ((((q.ceil + 1).toNat : Nat) : Int) : Rat) := by exact_mod_cast h2
  have h4 : ((((q.ceil + 1).toNat : Nat) : Int) : Rat) = (((q.ceil + 1).toNat : Nat) : Rat) := by norm_cast
  grind
theorem archP (q : Rat) : ∃ n : Nat, ∀ m, n ≤ m → q < P m := by
  obtain ⟨n, hn⟩ := arch q
  refine ⟨n, fun m hm => ?_⟩
  have h1 := P_ge n
  have h2 := P_mono hm
  grind
/-- no more than c, if so but for any small part -/
theorem le_of_all {a c B : Rat} (h : ∃ n : Nat, ∀ m, n ≤ m → a ≤ c + B / P m) : a ≤ c := by
  rcases Rat.le_total (a := a) (b := c) with h1 | h1
  · exact h1
  · rcases Classical.em (a = c) with e | e
    · rw [e]; exact Rat.le_refl
    · exfalso
      have hd : 0 < a - c := by
        have := Rat.lt_of_le_of_ne h1 (fun x => e x.symm)
        grind
      obtain ⟨n, hn⟩ := h
      obtain ⟨k, hk⟩ := archP (B / (a - c))
      have h2 := hn (max n k) (by omega)
      have h3 := hk (max n k) (by omega)
      have hp := P_pos (max n k)
      generalize P (max n k) = p at *
      have e1 : B / (a - c) * (a - c) = B := Rat.div_mul_cancel (by grind)
      have e2 : B / p * p = B := Rat.div_mul_cancel (by grind)
      have h4 := Rat.mul_lt_mul_of_pos_right h3 hd
      have h5 := Rat.mul_le_mul_of_nonneg_right (show a - c ≤ B / p by grind) (Rat.le_of_lt hp)
      grind

end Ex
end Mine

namespace Mine
namespace Ex

/-- Bernoulli -/
theorem bern (u : Rat) : ∀ n, 1 + P n * (u - 1) ≤ sq n u := by
  intro n
  induction n generalizing u with
  | zero => rw [P_zero]; show 1 + 1 * (u - 1) ≤ u; grind
  | succ n ih =>
    have h := ih (u * u)
    have h2 := sq_nonneg (u - 1)
    have h3 := Rat.mul_le_mul_of_nonneg_left (show 2 * (u - 1) ≤ u * u - 1 by grind) (Rat.le_of_lt (P_pos n))
    show 1 + P (n + 1) * (u - 1) ≤ sq n (u * u)
    rw [P_succ]
    grind

/-- interest on interest, at 2 ^ n parts -/
def ap (q : Rat) (n : Nat) : Rat := sq n (1 + q / P n)
def Ok (q : Rat) (n : Nat) : Prop := 0 ≤ 1 + q / P n

theorem div_P_succ (q : Rat) (n : Nat) : q / P (n + 1) = q / P n / 2 := by
  rw [P_succ]
  have := P_pos n
  grind
theorem ok_succ {q : Rat} {n : Nat} (h : Ok q n) : Ok q (n + 1) := by
  unfold Ok at *
  rw [div_P_succ]
  grind
theorem ok_mono {q : Rat} {m n : Nat} (h : Ok q m) (hm : m ≤ n) : Ok q n := by
  obtain ⟨k, rfl⟩ := Nat.le.dest hm
  induction k with
  | zero => exact h
  | succ k ih => exact ok_succ (ih (by omega))
theorem ap_succ {q : Rat} {n : Nat} (h : Ok q n) : ap q n ≤ ap q (n + 1) := by
  unfold ap
  show sq n (1 + q / P n) ≤ sq n ((1 + q / P (n + 1)) * (1 + q / P (n + 1)))
  refine sq_le h ?_ n
  rw [div_P_succ]
  have := sq_nonneg (q / P n / 2)
  grind
theorem ap_mono {q : Rat} {m n : Nat} (h : Ok q m) (hm : m ≤ n) : ap q m ≤ ap q n := by
  obtain ⟨k, rfl⟩ := Nat.le.dest hm
  induction k with
  | zero => exact Rat.le_refl
  | succ k ih => exact Rat.le_trans (ih (by omega)) (ap_succ (ok_mono h (by omega)))
/-- from some n on q is less than a small part of 2 ^ n -/
theorem small (q : Rat) {e : Rat} (he : 0 < e) : ∃ n : Nat, ∀ m, n ≤ m → -e < q / P m ∧ q / P m < e := by
  obtain ⟨a, ha⟩ := archP (q / e)
  obtain ⟨b, hb⟩ := archP (-q / e)
  refine ⟨max a b, fun m hm => ?_⟩
  have h1 := ha m (by omega)
  have h2 := hb m (by omega)
  have hp := P_pos m
  generalize P m = p at *
  have e1 : q / e * e = q := Rat.div_mul_cancel (by grind)
  have e2 : -q / e * e = -q := Rat.div_mul_cancel (by grind)
  have e3 : q / p * p = q := Rat.div_mul_cancel (by grind)
  have k1 := Rat.mul_lt_mul_of_pos_right h1 he
  have k2 := Rat.mul_lt_mul_of_pos_right h2 he
  constructor
  · rcases Rat.le_total (a := q / p) (b := -e) with h | h
    · have := Rat.mul_le_mul_of_nonneg_right h (Rat.le_of_lt hp)
      grind
    · rcases Classical.em (q / p = -e) with x | x
      · rw [x] at e3; grind
      · exact Rat.lt_of_le_of_ne h (fun y => x y.symm)
  · rcases Rat.le_total (a := e) (b := q / p) with h | h
    · have := Rat.mul_le_mul_of_nonneg_right h (Rat.le_of_lt hp)
      grind
    · rcases Classical.em (q / p = e) with x | x
      · rw [x] at e3; grind
      · exact Rat.lt_of_le_of_ne h x

/-- exp q is no more than b -/
def EL (q b : Rat) : Prop := ∀ n, Ok q n → ap q n ≤ b
/-- exp q is no less than b -/
def EG (q b : Rat) : Prop := ∀ c, EL q c → b ≤ c

theorem ok_ex (q : Rat) : ∃ n, ∀ m, n ≤ m → Ok q m ∧ 0 < 1 + q / P m := by
  obtain ⟨n, hn⟩ := small q (e := 1) (by decide)
  refine ⟨n, fun m hm => ?_⟩
  have := hn m hm
  unfold Ok
  grind
theorem ap_ge {q : Rat} {n : Nat} : 1 + q ≤ ap q n := by
  have h := bern (1 + q / P n) n
  have hp := P_pos n
  have e : P n * (1 + q / P n - 1) = q := by grind
  unfold ap
  rw [e] at h
  exact h
theorem EL.pos {q b : Rat} (h : EL q b) : 0 < b := by
  obtain ⟨n, hn⟩ := ok_ex q
  obtain ⟨h1, h2⟩ := hn n (Nat.le_refl n)
  have := h n h1
  have := sq_pos h2 n
  unfold ap at *
  grind
theorem EG.le {q a b : Rat} (h : EG q a) (h2 : EL q b) : a ≤ b := h b h2
theorem EL.mono {q b c : Rat} (h : EL q b) (hc : b ≤ c) : EL q c := fun n hn => Rat.le_trans (h n hn) hc
theorem EG.mono {q b c : Rat} (h : EG q b) (hc : c ≤ b) : EG q c := fun d hd => Rat.le_trans hc (h d hd)
theorem EG.one_add (q : Rat) : EG q (1 + q) := fun c hc => by
  obtain ⟨n, hn⟩ := ok_ex q
  exact Rat.le_trans ap_ge (hc n (hn n (Nat.le_refl n)).1)

theorem ap_neg {q : Rat} {n : Nat} (h1 : Ok q n) (h2 : Ok (-q) n) : ap q n * ap (-q) n ≤ 1 := by
  unfold ap Ok at *
  rw [← sq_mul]
  have h3 := Rat.mul_nonneg h1 h2
  have h4 := sq_nonneg (q / P n)
  have := sq_le h3 (show (1 + q / P n) * (1 + -q / P n) ≤ 1 by
    have e : -q / P n = -(q / P n) := by grind
    rw [e]; grind) n
  rwa [sq_one] at this
theorem ap_neg2 {q : Rat} {m n : Nat} (h1 : Ok q m) (h2 : Ok (-q) n) : ap q m * ap (-q) n ≤ 1 := by
  have a1 := ap_mono h1 (show m ≤ max m n by omega)
  have a2 := ap_mono h2 (show n ≤ max m n by omega)
  have a3 := ap_neg (ok_mono h1 (show m ≤ max m n by omega)) (ok_mono h2 (show n ≤ max m n by omega))
  have b1 : 0 ≤ ap q m := sq_nn h1 m
  have b2 : 0 ≤ ap (-q) n := sq_nn h2 n
  have c1 := Rat.mul_le_mul_of_nonneg_right a1 b2
  have c2 := Rat.mul_le_mul_of_nonneg_left a2 (show 0 ≤ ap q (max m n) by grind)
  grind
/-- from below to above -/
theorem EG.neg {q c : Rat} (h : EG q c) (hc : 0 < c) : EL (-q) (1 / c) := fun n hn => by
  have b0 : 0 ≤ ap (-q) n := sq_nn hn n
  refine le_div hc ?_
  rcases Classical.em (ap (-q) n = 0) with e | e
  · rw [e]; grind
  · have b1 : 0 < ap (-q) n := Rat.lt_of_le_of_ne b0 (fun x => e x.symm)
    have h1 : EL q (1 / ap (-q) n) := fun m hm => le_div b1 (ap_neg2 hm hn)
    have h2 := le_div_mul b1 (h _ h1)
    grind
/-- from above to below -/
theorem EL.neg {q b : Rat} (h : EL q b) : EG (-q) (1 / b) := fun c hc => by
  have hb := h.pos
  refine div_le hb ?_
  have hc0 := hc.pos
  obtain ⟨n1, h1⟩ := ok_ex q
  obtain ⟨n2, h2⟩ := ok_ex (-q)
  refine le_of_all (B := q * q) ⟨max n1 n2, fun m hm => ?_⟩
  obtain ⟨o1, p1⟩ := h1 m (by omega)
  obtain ⟨o2, p2⟩ := h2 m (by omega)
  have a1 := h m o1
  have a2 := hc m o2
  have b1 : 0 ≤ ap q m := sq_nn o1 m
  have b2 : 0 ≤ ap (-q) m := sq_nn o2 m
  have hp := P_pos m
  have k : 1 - q * q / P m ≤ ap q m * ap (-q) m := by
    unfold ap
    rw [← sq_mul]
    have := bern ((1 + q / P m) * (1 + -q / P m)) m
    have e : P m * ((1 + q / P m) * (1 + -q / P m) - 1) = -(q * q / P m) := by grind
    rw [e] at this
    grind
  have c1 := Rat.mul_le_mul_of_nonneg_right a1 b2
  have c2 := Rat.mul_le_mul_of_nonneg_left a2 (Rat.le_of_lt hb)
  grind

theorem sq_up {s : Rat} (h0 : 0 ≤ s) {n : Nat} (h : P n * s < 1) : sq n (1 + s) * (1 - P n * s) ≤ 1 := by
  have hp := P_pos n
  have hs : s < 1 := by
    have h1 : (1 : Rat) ≤ P n := by have := P_mono (Nat.zero_le n); rwa [P_zero] at this
    have := Rat.mul_le_mul_of_nonneg_right h1 h0
    grind
  have h1 := bern (1 - s) n
  have h2 : sq n (1 + s) * sq n (1 - s) ≤ 1 := by
    rw [← sq_mul]
    have h3 := sq_nonneg s
    have := sq_le (u := (1 + s) * (1 - s)) (v := 1) (Rat.mul_nonneg (by grind) (by grind)) (by grind) n
    rwa [sq_one] at this
  have h4 : 0 ≤ sq n (1 + s) := sq_nn (by grind) n
  have h5 := Rat.mul_le_mul_of_nonneg_left (show 1 - P n * s ≤ sq n (1 - s) by grind) h4
  grind

theorem EL.add {q r b c : Rat} (h1 : EL q b) (h2 : EL r c) : EL (q + r) (b * c) := fun n hn => by
  have hb := h1.pos
  have hc := h2.pos
  obtain ⟨n1, k1⟩ := small q (e := 1 / 4) (by grind)
  obtain ⟨n2, k2⟩ := small r (e := 1 / 4) (by grind)
  obtain ⟨n3, k3⟩ := ok_ex (q + r)
  -- the size of the cross term
  obtain ⟨D, hD0, hD1, hD2⟩ : ∃ D : Rat, 0 ≤ D ∧ q * r ≤ D ∧ -(q * r) ≤ D := by
    rcases Rat.le_total (a := 0) (b := q * r) with h | h
    · exact ⟨q * r, h, Rat.le_refl, by grind⟩
    · exact ⟨-(q * r), by grind, by grind, Rat.le_refl⟩
  obtain ⟨n4, k4⟩ := archP (2 * D)
  refine le_of_all (B := 2 * D * ap (q + r) n) ⟨max (max n1 n2) (max (max n3 n4) n), fun m hm => ?_⟩
  obtain ⟨q1, q2⟩ := k1 m (by omega)
  obtain ⟨r1, r2⟩ := k2 m (by omega)
  obtain ⟨o3, p3⟩ := k3 m (by omega)
  have d4 := k4 m (by omega)
  have hp := P_pos m
  have hmono := ap_mono hn (show n ≤ m by omega)
  have oq : Ok q m := by unfold Ok; grind
  have or' : Ok r m := by unfold Ok; grind
  have a1 := h1 m oq
  have a2 := h2 m or'
  have hs0 : 0 ≤ 2 * D / P m / P m := div_nn (div_nn (by grind) hp) hp
  have hs1 : P m * (2 * D / P m / P m) = 2 * D / P m := by grind
  have hs2 : 2 * D / P m < 1 := by
    rcases Classical.em (2 * D / P m < 1) with x | x
    · exact x
    · have := le_div_mul hp (Rat.not_lt.mp x)
      grind
  have up := sq_up hs0 (n := m) (by rw [hs1]; exact hs2)
  rw [hs1] at up
  generalize hs : 2 * D / P m / P m = s at *
  -- v ≤ u (1 + s)
  have hu : (1 : Rat) / 2 ≤ (1 + q / P m) * (1 + r / P m) := by
    have := Rat.mul_le_mul_of_nonneg_left (show (3 : Rat) / 4 ≤ 1 + r / P m by grind) (show 0 ≤ 1 + q / P m by grind)
    grind
  have hv : 1 + (q + r) / P m ≤ (1 + q / P m) * (1 + r / P m) * (1 + s) := by
    have t1 := Rat.mul_le_mul_of_nonneg_right hu hs0
    have t2 : -(q * r) / P m / P m ≤ D / P m / P m := div_mono hp (div_mono hp hD2)
    have t3 : D / P m / P m = s / 2 := by rw [← hs]; grind
    have t4 : 1 + (q + r) / P m = (1 + q / P m) * (1 + r / P m) + -(q * r) / P m / P m := by grind
    rw [t4]
    grind
  have b1 : ap (q + r) m ≤ ap q m * ap r m * sq m (1 + s) := by
    have := sq_le o3 hv m
    rw [sq_mul, sq_mul] at this
    exact this
  have x1 : 0 ≤ ap q m := sq_nn oq m
  have x2 : 0 ≤ ap r m := sq_nn or' m
  have x3 : 0 ≤ sq m (1 + s) := sq_nn (by grind) m
  have c1 := Rat.mul_le_mul_of_nonneg_right a1 x2
  have c2 := Rat.mul_le_mul_of_nonneg_left a2 (Rat.le_of_lt hb)
  have c3 := Rat.mul_le_mul_of_nonneg_right (show ap q m * ap r m ≤ b * c by grind) x3
  have c4 : ap (q + r) m ≤ b * c * sq m (1 + s) := Rat.le_trans b1 c3
  have c5 := Rat.mul_le_mul_of_nonneg_right c4 (show 0 ≤ 1 - 2 * D / P m by grind)
  have c6 := Rat.mul_le_mul_of_nonneg_left up (Rat.le_of_lt (Rat.mul_pos hb hc))
  have c7 := Rat.mul_le_mul_of_nonneg_right hmono (show 0 ≤ 1 - 2 * D / P m by grind)
  have e : 2 * D * ap (q + r) n / P m = ap (q + r) n * (2 * D / P m) := by grind
  rw [e]
  grind

theorem EG.add {q r b c : Rat} (h1 : EG q b) (h2 : EG r c) (hc : 0 < c) : EG (q + r) (b * c) := fun d hd => by
  have h3 := EL.add hd (h2.neg hc)
  have e : q + r + -r = q := by grind
  rw [e] at h3
  have := h1 _ h3
  have e2 : d * (1 / c) = d / c := by grind
  rw [e2] at this
  exact le_div_mul hc this

theorem ap_q_mono {q r : Rat} (h : q ≤ r) {n : Nat} (hn : Ok q n) : ap q n ≤ ap r n := by
  refine sq_le hn ?_ n
  have hp := P_pos n
  have : q / P n ≤ r / P n := div_mono hp h
  grind
theorem EL.exp_mono {q r b : Rat} (h : EL r b) (hq : q ≤ r) : EL q b := fun n hn => by
  have hp := P_pos n
  have : q / P n ≤ r / P n := div_mono hp hq
  exact Rat.le_trans (ap_q_mono hq hn) (h n (by unfold Ok at *; grind))
theorem EG.exp_mono {q r b : Rat} (h : EG q b) (hq : q ≤ r) : EG r b := fun c hc => h c (hc.exp_mono hq)
theorem EL.zero : EL 0 1 := fun n _ => by
  unfold ap
  have e : (1 : Rat) + 0 / P n = 1 := by have := P_pos n; grind
  rw [e, sq_one]
  exact Rat.le_refl
theorem EG.zero : EG 0 1 := by have := EG.one_add 0; rwa [Rat.add_zero] at this
theorem EL.inv {x : Rat} (h : x < 1) : EL x (1 / (1 - x)) := by
  have h1 := EG.one_add (-x)
  have h2 := EG.neg h1 (by grind)
  have e : - -x = x := by grind
  have e2 : 1 + -x = 1 - x := by grind
  rwa [e, e2] at h2
/-- closing -/
theorem EL.of_all {q b B : Rat} (h : ∃ n : Nat, ∀ m, n ≤ m → EL q (b + B / P m)) : EL q b := fun k hk => by
  obtain ⟨n, hn⟩ := h
  exact le_of_all ⟨n, fun m hm => hn m hm k hk⟩
theorem EG.of_all {q b B : Rat} (h : ∃ n : Nat, ∀ m, n ≤ m → EG q (b - B / P m)) : EG q b := fun c hc => by
  obtain ⟨n, hn⟩ := h
  refine le_of_all (B := B) ⟨n, fun m hm => ?_⟩
  have := hn m hm c hc
  grind
theorem EL.quad {x : Rat} (h : x ≤ 1 / 2) : EL x (1 + x + 2 * (x * x)) := by
  refine (EL.inv (by grind)).mono (div_le (by grind) ?_)
  have := sq_nonneg x
  have := Rat.mul_le_mul_of_nonneg_right (show 0 ≤ 1 - 2 * x by grind) this
  grind

end Ex
end Mine

namespace Mine
namespace Ex

theorem pow_up {s : Rat} (h0 : 0 ≤ s) : ∀ n : Nat, (1 + s) ^ n * (1 - (n : Rat) * s) ≤ 1
  | 0 => by
    have e : ((0 : Nat) : Rat) = 0 := rfl
    rw [Rat.pow_zero, e]; grind
  | n + 1 => by
    have ih := pow_up h0 n
    have e : ((n + 1 : Nat) : Rat) = (n : Rat) + 1 := by grind
    rw [Rat.pow_succ, e]
    have hn : (0 : Rat) ≤ (n : Rat) := by exact_mod_cast Nat.zero_le n
    have hp : 0 < (1 + s) ^ n := Rat.pow_pos (by grind)
    generalize (1 + s) ^ n = u at *
    generalize (n : Rat) = k at *
    have h1 := Rat.mul_nonneg h0 h0
    have h2 := Rat.mul_nonneg (Rat.mul_nonneg hn h1) (Rat.le_of_lt hp)
    have h3 := Rat.mul_nonneg h1 (Rat.le_of_lt hp)
    grind
theorem pow_dn {s : Rat} (h0 : 0 ≤ s) (h1 : s ≤ 1) : ∀ n : Nat, 1 - (n : Rat) * s ≤ (1 - s) ^ n
  | 0 => by
    have e : ((0 : Nat) : Rat) = 0 := rfl
    rw [Rat.pow_zero, e]; grind
  | n + 1 => by
    have ih := pow_dn h0 h1 n
    have e : ((n + 1 : Nat) : Rat) = (n : Rat) + 1 := by grind
    rw [Rat.pow_succ, e]
    have hn : (0 : Rat) ≤ (n : Rat) := by exact_mod_cast Nat.zero_le n
    have h2 := Rat.mul_le_mul_of_nonneg_right ih (show 0 ≤ 1 - s by grind)
    have h3 := Rat.mul_nonneg hn (Rat.mul_nonneg h0 h0)
    generalize (1 - s) ^ n = u at *
    generalize (n : Rat) = k at *
    grind
theorem pow_nn {u : Rat} (h : 0 ≤ u) (n : Nat) : 0 ≤ u ^ n := by
  induction n with
  | zero => rw [Rat.pow_zero]; decide
  | succ n ih => rw [Rat.pow_succ]; exact Rat.mul_nonneg ih h
theorem P_cast (n : Nat) : P n = ((2 ^ n : Nat) : Rat) := by
  induction n with
  | zero => rw [P_zero]; rfl
  | succ n ih =>
    rw [P_succ, ih, Nat.pow_succ]
    have : ((2 ^ n * 2 : Nat) : Rat) = ((2 ^ n : Nat) : Rat) * 2 := by grind
    rw [this]; grind

theorem div_self1 {x : Rat} (h : 0 < x) : x / x * 1 = 1 := by grind
theorem tele {a b c u v : Rat} (ha : 0 < a) (hc : 0 < c) : a / c * u * (b / a * v) = b / c * (u * v) := by grind
theorem tele2 (a b c : Rat) : a - c + (b - a) = b - c := by grind
theorem sub_self' (a : Rat) : a - a = 0 := by grind

/-- f has the slope f' on 0 .. X, but for a square of the way; all bounded -/
structure Sm (X B C : Rat) (f f' : Rat → Rat) : Prop where
  b0 : 0 ≤ B
  c0 : 0 ≤ C
  lo : ∀ t, 0 ≤ t → t ≤ X → -B ≤ f t
  hi : ∀ t, 0 ≤ t → t ≤ X → f t ≤ B
  lo' : ∀ t, 0 ≤ t → t ≤ X → -B ≤ f' t
  hi' : ∀ t, 0 ≤ t → t ≤ X → f' t ≤ B
  dn : ∀ t h, 0 ≤ t → 0 ≤ h → t + h ≤ X → f t + h * f' t - C * (h * h) ≤ f (t + h)
  up : ∀ t h, 0 ≤ t → 0 ≤ h → t + h ≤ X → f (t + h) ≤ f t + h * f' t + C * (h * h)

theorem step_sum {X h : Rat} {i : Nat} (h0 : 0 ≤ h) (hi : ((i + 1 : Nat) : Rat) * h ≤ X) : 0 ≤ (i : Rat) * h ∧ (i : Rat) * h + h ≤ X ∧ (i : Rat) * h + h = ((i + 1 : Nat) : Rat) * h := by
  have e : ((i + 1 : Nat) : Rat) = (i : Rat) + 1 := by grind
  have hn : (0 : Rat) ≤ (i : Rat) := by exact_mod_cast Nat.zero_le i
  have h1 := Rat.mul_nonneg hn h0
  rw [e] at *
  refine ⟨h1, by grind, by grind⟩

theorem up_steps {X h D : Rat} {f g : Rat → Rat} (h0 : 0 ≤ h) (hD : 0 ≤ D) (hg : ∀ t, 0 ≤ t → t ≤ X → 0 < g t)
    (st : ∀ t, 0 ≤ t → t + h ≤ X → EL (f (t + h) - f t) (g (t + h) / g t * (1 + D * (h * h)))) (hX : 0 ≤ X) :
    ∀ i : Nat, (i : Rat) * h ≤ X → EL (f ((i : Rat) * h) - f 0) (g ((i : Rat) * h) / g 0 * (1 + D * (h * h)) ^ i)
  | 0, _ => by
    have e : ((0 : Nat) : Rat) * h = 0 := by have : ((0 : Nat) : Rat) = 0 := rfl; rw [this]; grind
    rw [e, Rat.pow_zero]
    have hp := hg 0 Rat.le_refl hX
    rw [sub_self', div_self1 hp]
    exact EL.zero
  | i + 1, hi => by
    obtain ⟨s1, s2, s3⟩ := step_sum h0 hi
    have ih := up_steps h0 hD hg st hX i (by grind)
    have k := st ((i : Rat) * h) s1 s2
    rw [s3] at k
    have r := EL.add ih k
    have p0 := hg 0 Rat.le_refl hX
    have p1 := hg ((i : Rat) * h) s1 (by grind)
    generalize ((i + 1 : Nat) : Rat) * h = b at *
    generalize (i : Rat) * h = a at *
    rw [tele2, tele p1 p0, ← Rat.pow_succ] at r
    exact r

theorem dn_steps {X h D : Rat} {f g : Rat → Rat} (h0 : 0 ≤ h) (hD : 0 < 1 - D * (h * h)) (hg : ∀ t, 0 ≤ t → t ≤ X → 0 < g t)
    (st : ∀ t, 0 ≤ t → t + h ≤ X → EG (f (t + h) - f t) (g (t + h) / g t * (1 - D * (h * h)))) (hX : 0 ≤ X) :
    ∀ i : Nat, (i : Rat) * h ≤ X → EG (f ((i : Rat) * h) - f 0) (g ((i : Rat) * h) / g 0 * (1 - D * (h * h)) ^ i)
  | 0, _ => by
    have e : ((0 : Nat) : Rat) * h = 0 := by have : ((0 : Nat) : Rat) = 0 := rfl; rw [this]; grind
    rw [e, Rat.pow_zero]
    have hp := hg 0 Rat.le_refl hX
    rw [sub_self', div_self1 hp]
    exact EG.zero
  | i + 1, hi => by
    obtain ⟨s1, s2, s3⟩ := step_sum h0 hi
    have ih := dn_steps h0 hD hg st hX i (by grind)
    have k := st ((i : Rat) * h) s1 s2
    rw [s3] at k
    have p0 := hg 0 Rat.le_refl hX
    have p1 := hg ((i : Rat) * h) s1 (by grind)
    have p2 := hg (((i + 1 : Nat) : Rat) * h) (by grind) hi
    have r := EG.add ih k (Rat.mul_pos (div_pos p2 p1) hD)
    generalize ((i + 1 : Nat) : Rat) * h = b at *
    generalize (i : Rat) * h = a at *
    rw [tele2, tele p1 p0, ← Rat.pow_succ] at r
    exact r

end Ex
end Mine

namespace Mine
namespace Ex

theorem lt_lt_le {a b c : Rat} (h : a < b) (h2 : b ≤ c) : a < c := by grind
theorem par1 {D X p : Rat} (hp : 0 < p) : p * (D * (X / p * (X / p))) = D * (X * X) / p := by grind
theorem par2 {X p : Rat} (hp : 0 < p) : p * (X / p) = X := by grind
theorem par3 {X p : Rat} (hp : 0 < p) (h : X < p) : X / p ≤ 1 := div_le hp (by grind)
theorem par4 {X p K : Rat} (hp : 0 < p) (h : 2 * X * K < p) : X / p * K ≤ 1 / 2 := by
  have e : X / p * K = X * K / p := by grind
  rw [e]
  exact div_le hp (by grind)
theorem par5 {q p : Rat} (hp : 0 < p) (h : 2 * q < p) : q / p ≤ 1 / 2 := div_le hp (by grind)
theorem par6 (r q p : Rat) : 2 * r * q / p = r * (2 * (q / p)) := by grind
theorem par7 (r q p : Rat) : r * q / p = r * (q / p) := by grind
theorem par8 {u q : Rat} (hq0 : 0 ≤ q) (hq1 : q ≤ 1 / 2) (pu : u * (1 - q) ≤ 1) : u ≤ 1 + 2 * q := by
  rcases Classical.em (u ≤ 1 + 2 * q) with x | x
  · exact x
  · have y := Rat.mul_lt_mul_of_pos_right (lt_of_not_le x) (show 0 < 1 - q by grind)
    have z := Rat.mul_nonneg hq0 (show 0 ≤ 1 - 2 * q by grind)
    grind
theorem par9 {h f' B C : Rat} (h0 : 0 ≤ h) (h1 : h ≤ 1) (hC : 0 ≤ C) (f2 : f' ≤ B) (hh : h * (B + C) ≤ 1 / 2) : h * f' + C * (h * h) ≤ 1 / 2 := by
  have x1 := Rat.mul_le_mul_of_nonneg_left f2 h0
  have x2 := Rat.mul_le_mul_of_nonneg_left h1 (Rat.mul_nonneg hC h0)
  grind
theorem par10 {a b c d : Rat} (h : a ≤ b + c + d) : a - b ≤ c + d := by grind
theorem par11 {a b c d : Rat} (h : b + c - d ≤ a) : c - d ≤ a - b := by grind
theorem par12 {r u q : Rat} (hr : 0 < r) (h : u ≤ 1 + 2 * q) : r * u ≤ r + r * (2 * q) := by
  have := Rat.mul_le_mul_of_nonneg_left h (Rat.le_of_lt hr)
  grind
theorem par13 {r u q : Rat} (hr : 0 < r) (h : 1 - q ≤ u) : r - r * q ≤ r * u := by
  have := Rat.mul_le_mul_of_nonneg_left h (Rat.le_of_lt hr)
  grind
theorem par14 {a b : Rat} (ha : 0 ≤ a) (hb : 0 ≤ b) : 0 ≤ a + b := by grind
theorem par15 {s p : Rat} (h1 : 1 ≤ p) (hs : 0 ≤ s) (h : p * s ≤ 1 / 2) : s ≤ 1 / 2 ∧ 0 < 1 - s := by
  have := Rat.mul_le_mul_of_nonneg_right h1 hs
  grind
theorem P_ge1 (m : Nat) : (1 : Rat) ≤ P m := by have := P_mono (Nat.zero_le m); rwa [P_zero] at this

/-- the arithmetic of one step, upwards -/
theorem step_up_arith {B C γ h f' g g' g2 s : Rat} (hB : 0 ≤ B) (hC : 0 ≤ C) (hγ : 0 < γ) (h0 : 0 ≤ h) (h1 : h ≤ 1)
    (f1 : -B ≤ f') (f2 : f' ≤ B) (g1 : γ ≤ g) (g3 : g ≤ B) (g4 : γ ≤ g2) (hd : f' * g ≤ g') (hg : g + h * g' - C * (h * h) ≤ g2) (hs : s = h * f' + C * (h * h)) :
    1 + s + 2 * (s * s) ≤ g2 / g * (1 + (C + (C + 2 * ((B + C) * (B + C))) * B) / γ * (h * h)) := by
  have hg0 : 0 < g := by grind
  have hh : 0 ≤ h * h := Rat.mul_nonneg h0 h0
  -- s * s ≤ (h (B + C)) ^ 2
  have a1 : -(h * (B + C)) ≤ s := by
    have x1 := Rat.mul_le_mul_of_nonneg_left f1 h0
    have x2 := Rat.mul_nonneg hC hh
    have x3 := Rat.mul_nonneg h0 hC
    grind
  have a2 : s ≤ h * (B + C) := by
    have x1 := Rat.mul_le_mul_of_nonneg_left f2 h0
    have x2 := Rat.mul_le_mul_of_nonneg_left h1 (Rat.mul_nonneg hC h0)
    grind
  have a3 : s * s ≤ h * h * ((B + C) * (B + C)) := by
    have := Rat.mul_nonneg (show 0 ≤ h * (B + C) - s by grind) (show 0 ≤ h * (B + C) + s by grind)
    grind
  -- times g
  have b1 : (1 + s + 2 * (s * s)) * g ≤ g2 + (C + (C + 2 * ((B + C) * (B + C))) * B) * (h * h) := by
    have x1 := Rat.mul_le_mul_of_nonneg_right a3 (Rat.le_of_lt hg0)
    have x2 := Rat.mul_le_mul_of_nonneg_left hd h0
    have x3 := Rat.mul_le_mul_of_nonneg_left g3 (Rat.mul_nonneg hh (show 0 ≤ C + 2 * ((B + C) * (B + C)) by
      have := sq_nonneg (B + C); grind))
    rw [hs] at *
    grind
  have b2 : (C + (C + 2 * ((B + C) * (B + C))) * B) * (h * h) ≤ g2 * ((C + (C + 2 * ((B + C) * (B + C))) * B) / γ * (h * h)) := by
    have k0 : 0 ≤ C + (C + 2 * ((B + C) * (B + C))) * B := by
      have x1 := sq_nonneg (B + C)
      have x2 := Rat.mul_nonneg (show 0 ≤ C + 2 * ((B + C) * (B + C)) by grind) hB
      grind
    generalize C + (C + 2 * ((B + C) * (B + C))) * B = K at *
    have x1 := Rat.mul_nonneg (div_nn k0 hγ) hh
    have x2 := Rat.mul_le_mul_of_nonneg_right g4 x1
    have e : γ * (K / γ * (h * h)) = K * (h * h) := by grind
    rw [e] at x2
    exact x2
  generalize (C + (C + 2 * ((B + C) * (B + C))) * B) / γ * (h * h) = w at *
  have e : g2 / g * (1 + w) = g2 * (1 + w) / g := by grind
  rw [e]
  refine le_div hg0 ?_
  grind

theorem step_dn_arith {B C γ h f' g g' g2 s : Rat} (hB : 0 ≤ B) (hC : 0 ≤ C) (hγ : 0 < γ) (h0 : 0 ≤ h)
    (g1 : γ ≤ g) (g3 : g ≤ B) (g4 : γ ≤ g2) (hd : g' ≤ f' * g) (hg : g2 ≤ g + h * g' + C * (h * h)) (hs : s = h * f' - C * (h * h)) :
    g2 / g * (1 - (C + C * B) / γ * (h * h)) ≤ 1 + s := by
  have hg0 : 0 < g := by grind
  have hh : 0 ≤ h * h := Rat.mul_nonneg h0 h0
  have b1 : g2 - (C + C * B) * (h * h) ≤ (1 + s) * g := by
    have x2 := Rat.mul_le_mul_of_nonneg_left hd h0
    have x3 := Rat.mul_le_mul_of_nonneg_left g3 (Rat.mul_nonneg hC hh)
    rw [hs]
    grind
  have b2 : (C + C * B) * (h * h) ≤ g2 * ((C + C * B) / γ * (h * h)) := by
    have k0 : 0 ≤ C + C * B := by have := Rat.mul_nonneg hC hB; grind
    generalize C + C * B = K at *
    have x1 := Rat.mul_nonneg (div_nn k0 hγ) hh
    have x2 := Rat.mul_le_mul_of_nonneg_right g4 x1
    have e : γ * (K / γ * (h * h)) = K * (h * h) := by grind
    rw [e] at x2
    exact x2
  generalize (C + C * B) / γ * (h * h) = w at *
  have e : g2 / g * (1 - w) = g2 * (1 - w) / g := by grind
  rw [e]
  refine div_le hg0 ?_
  grind

/-- f' g ≤ g' : exp of the rise of f is no more than the ratio of g -/
theorem cmp_up {X B C γ : Rat} {f f' g g' : Rat → Rat} (hX : 0 ≤ X) (F : Sm X B C f f') (G : Sm X B C g g') (hγ : 0 < γ) (hg : ∀ t, 0 ≤ t → t ≤ X → γ ≤ g t)
    (hd : ∀ t, 0 ≤ t → t ≤ X → f' t * g t ≤ g' t) : EL (f X - f 0) (g X / g 0) := by
  have hB := F.b0
  have hC := F.c0
  have hK : 0 ≤ C + (C + 2 * ((B + C) * (B + C))) * B := by
    have x1 := sq_nonneg (B + C)
    have x2 := Rat.mul_nonneg (show 0 ≤ C + 2 * ((B + C) * (B + C)) by clear hd hg; grind) hB
    exact par14 hC x2
  have hD := div_nn hK hγ
  have arith := fun h (h0 : 0 ≤ h) (h1 : h ≤ 1) t t0 t2 t1 hh => step_up_arith (s := h * f' t + C * (h * h)) hB hC hγ h0 h1 (F.lo' t t0 t2) (F.hi' t t0 t2) (hg t t0 t2) (G.hi t t0 t2) (hg (t + h) hh t1) (hd t t0 t2) (G.dn t h t0 h0 t1) rfl
  generalize (C + (C + 2 * ((B + C) * (B + C))) * B) / γ = D at *
  have hgp : ∀ t, 0 ≤ t → t ≤ X → 0 < g t := fun t h1 h2 => lt_lt_le hγ (hg t h1 h2)
  obtain ⟨n1, k1⟩ := archP (2 * X * (B + C))
  obtain ⟨n2, k2⟩ := archP X
  obtain ⟨n3, k3⟩ := archP (2 * (D * (X * X)))
  refine EL.of_all (B := 2 * (g X / g 0) * (D * (X * X))) ⟨max n1 (max n2 n3), fun m hm => ?_⟩
  have m1 := k1 m (by omega)
  have m2 := k2 m (by omega)
  have m3 := k3 m (by omega)
  have hp := P_pos m
  have hh0 : 0 ≤ X / P m := div_nn hX hp
  have hh1 : X / P m ≤ 1 := par3 hp m2
  have hh2 : X / P m * (B + C) ≤ 1 / 2 := par4 hp m1
  have st : ∀ t, 0 ≤ t → t + X / P m ≤ X → EL (f (t + X / P m) - f t) (g (t + X / P m) / g t * (1 + D * (X / P m * (X / P m)))) := by
    intro t t0 t1
    have t3 : 0 ≤ t + X / P m := par14 t0 hh0
    have t2 : t ≤ X := by clear hd hg hgp arith k1 k2 k3 hm; grind
    refine EL.mono ?_ (arith _ hh0 hh1 t t0 t2 t1 t3)
    exact EL.exp_mono (EL.quad (par9 hh0 hh1 hC (F.hi' t t0 t2) hh2)) (par10 (F.up t (X / P m) t0 hh0 t1))
  have key := up_steps hh0 hD hgp st hX (2 ^ m)
  rw [← P_cast, par2 hp] at key
  refine (key Rat.le_refl).mono ?_
  have pu := pow_up (s := D * (X / P m * (X / P m))) (Rat.mul_nonneg hD (Rat.mul_nonneg hh0 hh0)) (2 ^ m)
  rw [← P_cast, par1 hp] at pu
  have hq0 : 0 ≤ D * (X * X) / P m := div_nn (Rat.mul_nonneg hD (Rat.mul_nonneg hX hX)) hp
  have hq1 : D * (X * X) / P m ≤ 1 / 2 := par5 hp m3
  have hr0 : 0 < g X / g 0 := div_pos (hgp X hX Rat.le_refl) (hgp 0 Rat.le_refl hX)
  rw [par6]
  exact par12 hr0 (par8 hq0 hq1 pu)

/-- g' ≤ f' g : exp of the rise of f is no less than the ratio of g -/
theorem cmp_dn {X B C γ : Rat} {f f' g g' : Rat → Rat} (hX : 0 ≤ X) (F : Sm X B C f f') (G : Sm X B C g g') (hγ : 0 < γ) (hg : ∀ t, 0 ≤ t → t ≤ X → γ ≤ g t)
    (hd : ∀ t, 0 ≤ t → t ≤ X → g' t ≤ f' t * g t) : EG (f X - f 0) (g X / g 0) := by
  have hB := F.b0
  have hC := F.c0
  have hK : 0 ≤ C + C * B := par14 hC (Rat.mul_nonneg hC hB)
  have hD := div_nn hK hγ
  have arith := fun h (h0 : 0 ≤ h) t t0 t2 t1 hh => step_dn_arith (s := h * f' t - C * (h * h)) hB hC hγ h0 (hg t t0 t2) (G.hi t t0 t2) (hg (t + h) hh t1) (hd t t0 t2) (G.up t h t0 h0 t1) rfl
  generalize (C + C * B) / γ = D at *
  have hgp : ∀ t, 0 ≤ t → t ≤ X → 0 < g t := fun t h1 h2 => lt_lt_le hγ (hg t h1 h2)
  obtain ⟨n3, k3⟩ := archP (2 * (D * (X * X)))
  refine EG.of_all (B := (g X / g 0) * (D * (X * X))) ⟨n3, fun m hm => ?_⟩
  have m3 := k3 m (by omega)
  have hp := P_pos m
  have hh0 : 0 ≤ X / P m := div_nn hX hp
  have st : ∀ t, 0 ≤ t → t + X / P m ≤ X → EG (f (t + X / P m) - f t) (g (t + X / P m) / g t * (1 - D * (X / P m * (X / P m)))) := by
    intro t t0 t1
    have t3 : 0 ≤ t + X / P m := par14 t0 hh0
    have t2 : t ≤ X := by clear hd hg hgp arith k3 hm; grind
    refine EG.mono ?_ (arith _ hh0 t t0 t2 t1 t3)
    exact EG.exp_mono (EG.one_add _) (par11 (F.dn t (X / P m) t0 hh0 t1))
  have hq0 : 0 ≤ D * (X * X) / P m := div_nn (Rat.mul_nonneg hD (Rat.mul_nonneg hX hX)) hp
  have hq1 : D * (X * X) / P m ≤ 1 / 2 := par5 hp m3
  have hs0 : 0 ≤ D * (X / P m * (X / P m)) := Rat.mul_nonneg hD (Rat.mul_nonneg hh0 hh0)
  obtain ⟨hs1, hs2⟩ := par15 (P_ge1 m) hs0 (by rw [par1 hp]; exact hq1)
  have key := dn_steps hh0 hs2 hgp st hX (2 ^ m)
  rw [← P_cast, par2 hp] at key
  refine (key Rat.le_refl).mono ?_
  have pd := pow_dn hs0 (by clear hd hg hgp arith k3 hm st key; grind) (2 ^ m)
  rw [← P_cast, par1 hp] at pd
  have hr0 : 0 < g X / g 0 := div_pos (hgp X hX Rat.le_refl) (hgp 0 Rat.le_refl hX)
  rw [par7]
  exact par13 hr0 pd

end Ex
end Mine

namespace Mine
namespace Ex

def Smooth (X : Rat) (f f' : Rat → Rat) : Prop := ∃ B C, Sm X B C f f'

theorem Sm.mono {X B C B' C' : Rat} {f f' : Rat → Rat} (S : Sm X B C f f') (hB : B ≤ B') (hC : C ≤ C') : Sm X B' C' f f' where
  b0 := Rat.le_trans S.b0 hB
  c0 := Rat.le_trans S.c0 hC
  lo t h1 h2 := by have := S.lo t h1 h2; grind
  hi t h1 h2 := by have := S.hi t h1 h2; grind
  lo' t h1 h2 := by have := S.lo' t h1 h2; grind
  hi' t h1 h2 := by have := S.hi' t h1 h2; grind
  dn t h h1 h2 h3 := by
    have := S.dn t h h1 h2 h3
    have := Rat.mul_le_mul_of_nonneg_right hC (Rat.mul_nonneg h2 h2)
    grind
  up t h h1 h2 h3 := by
    have := S.up t h h1 h2 h3
    have := Rat.mul_le_mul_of_nonneg_right hC (Rat.mul_nonneg h2 h2)
    grind

theorem abs_ex (c : Rat) : ∃ a : Rat, 0 ≤ a ∧ -a ≤ c ∧ c ≤ a := by
  rcases Rat.le_total (a := 0) (b := c) with h | h
  · exact ⟨c, h, by grind, Rat.le_refl⟩
  · exact ⟨-c, by grind, by grind, by grind⟩
theorem Smooth.const {X : Rat} (c : Rat) : Smooth X (fun _ => c) (fun _ => 0) := by
  obtain ⟨a, h0, h1, h2⟩ := abs_ex c
  exact ⟨a, 0, h0, Rat.le_refl, fun _ _ _ => h1, fun _ _ _ => h2, fun _ _ _ => by grind, fun _ _ _ => h0, fun t h _ _ _ => by grind, fun t h _ _ _ => by grind⟩
theorem Smooth.add {X : Rat} {f f' g g' : Rat → Rat} (F : Smooth X f f') (G : Smooth X g g') : Smooth X (fun t => f t + g t) (fun t => f' t + g' t) := by
  obtain ⟨B, C, F⟩ := F
  obtain ⟨B2, C2, G⟩ := G
  refine ⟨B + B2, C + C2, par14 F.b0 G.b0, par14 F.c0 G.c0, fun t h1 h2 => ?_, fun t h1 h2 => ?_, fun t h1 h2 => ?_, fun t h1 h2 => ?_, fun t h h1 h2 h3 => ?_, fun t h h1 h2 h3 => ?_⟩
  · have a := F.lo t h1 h2; have b := G.lo t h1 h2; show -(B + B2) ≤ f t + g t; clear F G; grind
  · have a := F.hi t h1 h2; have b := G.hi t h1 h2; show f t + g t ≤ B + B2; clear F G; grind
  · have a := F.lo' t h1 h2; have b := G.lo' t h1 h2; show -(B + B2) ≤ f' t + g' t; clear F G; grind
  · have a := F.hi' t h1 h2; have b := G.hi' t h1 h2; show f' t + g' t ≤ B + B2; clear F G; grind
  · have a := F.dn t h h1 h2 h3; have b := G.dn t h h1 h2 h3
    show f t + g t + h * (f' t + g' t) - (C + C2) * (h * h) ≤ f (t + h) + g (t + h)
    clear F G; grind
  · have a := F.up t h h1 h2 h3; have b := G.up t h h1 h2 h3
    show f (t + h) + g (t + h) ≤ f t + g t + h * (f' t + g' t) + (C + C2) * (h * h)
    clear F G; grind
theorem mul_pm {c a x B : Rat} (h0 : 0 ≤ a) (h1 : -a ≤ c) (h2 : c ≤ a) (x1 : -B ≤ x) (x2 : x ≤ B) : -(a * B) ≤ c * x ∧ c * x ≤ a * B := by
  have k1 := Rat.mul_nonneg (show 0 ≤ a - c by grind) (show 0 ≤ B + x by grind)
  have k2 := Rat.mul_nonneg (show 0 ≤ a + c by grind) (show 0 ≤ B - x by grind)
  have k3 := Rat.mul_nonneg (show 0 ≤ a - c by grind) (show 0 ≤ B - x by grind)
  have k4 := Rat.mul_nonneg (show 0 ≤ a + c by grind) (show 0 ≤ B + x by grind)
  constructor <;> grind
theorem Smooth.smul {X : Rat} {f f' : Rat → Rat} (F : Smooth X f f') (c : Rat) : Smooth X (fun t => c * f t) (fun t => c * f' t) := by
  obtain ⟨B, C, F⟩ := F
  obtain ⟨a, h0, h1, h2⟩ := abs_ex c
  have key : ∀ t h, 0 ≤ t → 0 ≤ h → t + h ≤ X → -(a * (C * (h * h))) ≤ c * (f (t + h) - f t - h * f' t) ∧ c * (f (t + h) - f t - h * f' t) ≤ a * (C * (h * h)) := fun t h t0 k0 t1 =>
    mul_pm h0 h1 h2 (by have := F.dn t h t0 k0 t1; clear F; grind) (by have := F.up t h t0 k0 t1; clear F; grind)
  refine ⟨a * B, a * C, Rat.mul_nonneg h0 F.b0, Rat.mul_nonneg h0 F.c0, fun t t0 t1 => (mul_pm h0 h1 h2 (F.lo t t0 t1) (F.hi t t0 t1)).1, fun t t0 t1 => (mul_pm h0 h1 h2 (F.lo t t0 t1) (F.hi t t0 t1)).2,
    fun t t0 t1 => (mul_pm h0 h1 h2 (F.lo' t t0 t1) (F.hi' t t0 t1)).1, fun t t0 t1 => (mul_pm h0 h1 h2 (F.lo' t t0 t1) (F.hi' t t0 t1)).2, fun t h t0 k0 t1 => ?_, fun t h t0 k0 t1 => ?_⟩
  · have := (key t h t0 k0 t1).1
    show c * f t + h * (c * f' t) - a * C * (h * h) ≤ c * f (t + h)
    clear F key; grind
  · have := (key t h t0 k0 t1).2
    show c * f (t + h) ≤ c * f t + h * (c * f' t) + a * C * (h * h)
    clear F key; grind
theorem Smooth.mulX {X : Rat} (hX : 0 ≤ X) {f f' : Rat → Rat} (F : Smooth X f f') : Smooth X (fun t => t * f t) (fun t => f t + t * f' t) := by
  obtain ⟨B, C, F⟩ := F
  have hB := F.b0
  have hC := F.c0
  have key : ∀ t h, 0 ≤ t → 0 ≤ h → t + h ≤ X →
      -((B + 2 * (X * C)) * (h * h)) ≤ (t + h) * f (t + h) - t * f t - h * (f t + t * f' t) ∧ (t + h) * f (t + h) - t * f t - h * (f t + t * f' t) ≤ (B + 2 * (X * C)) * (h * h) := by
    intro t h t0 k0 t1
    have e1 := F.dn t h t0 k0 t1
    have e2 := F.up t h t0 k0 t1
    have b1 := F.lo' t t0 (by clear F; grind)
    have b2 := F.hi' t t0 (by clear F; grind)
    clear F
    generalize f (t + h) = y at *
    generalize f t = x at *
    generalize f' t = z at *
    have hh := Rat.mul_nonneg k0 k0
    have q1 := Rat.mul_le_mul_of_nonneg_left b1 hh
    have q2 := Rat.mul_le_mul_of_nonneg_left b2 hh
    have r1 := Rat.mul_le_mul_of_nonneg_left (show x + h * z - C * (h * h) ≤ y by grind) (show 0 ≤ t + h by grind)
    have r2 := Rat.mul_le_mul_of_nonneg_left (show y ≤ x + h * z + C * (h * h) by grind) (show 0 ≤ t + h by grind)
    have s1 := Rat.mul_le_mul_of_nonneg_right t1 (Rat.mul_nonneg hC hh)
    have s2 := Rat.mul_nonneg (Rat.mul_nonneg hX hC) hh
    constructor <;> grind
  refine ⟨B + X * B, B + 2 * (X * C), par14 hB (Rat.mul_nonneg hX hB), par14 hB (by have := Rat.mul_nonneg hX hC; clear F key; grind), ?_, ?_, ?_, ?_, ?_, ?_⟩
  · intro t t0 t1
    have a := mul_pm (c := t) (a := X) hX (by clear F key; grind) t1 (F.lo t t0 t1) (F.hi t t0 t1)
    show -(B + X * B) ≤ t * f t
    clear F key; grind
  · intro t t0 t1
    have a := mul_pm (c := t) (a := X) hX (by clear F key; grind) t1 (F.lo t t0 t1) (F.hi t t0 t1)
    show t * f t ≤ B + X * B
    clear F key; grind
  · intro t t0 t1
    have a := mul_pm (c := t) (a := X) hX (by clear F key; grind) t1 (F.lo' t t0 t1) (F.hi' t t0 t1)
    have b := F.lo t t0 t1
    show -(B + X * B) ≤ f t + t * f' t
    clear F key; grind
  · intro t t0 t1
    have a := mul_pm (c := t) (a := X) hX (by clear F key; grind) t1 (F.lo' t t0 t1) (F.hi' t t0 t1)
    have b := F.hi t t0 t1
    show f t + t * f' t ≤ B + X * B
    clear F key; grind
  · intro t h t0 k0 t1
    have := (key t h t0 k0 t1).1
    show t * f t + h * (f t + t * f' t) - (B + 2 * (X * C)) * (h * h) ≤ (t + h) * f (t + h)
    clear F key; grind
  · intro t h t0 k0 t1
    have := (key t h t0 k0 t1).2
    show (t + h) * f (t + h) ≤ t * f t + h * (f t + t * f' t) + (B + 2 * (X * C)) * (h * h)
    clear F key; grind
theorem Smooth.congr {X : Rat} {f f' g g' : Rat → Rat} (F : Smooth X f f') (h1 : ∀ t, f t = g t) (h2 : ∀ t, f' t = g' t) : Smooth X g g' := by
  have e1 : f = g := funext h1
  have e2 : f' = g' := funext h2
  rw [← e1, ← e2]
  exact F

theorem cmp_upS {X γ : Rat} {f f' g g' : Rat → Rat} (hX : 0 ≤ X) (F : Smooth X f f') (G : Smooth X g g') (hγ : 0 < γ) (hg : ∀ t, 0 ≤ t → t ≤ X → γ ≤ g t)
    (hd : ∀ t, 0 ≤ t → t ≤ X → f' t * g t ≤ g' t) : EL (f X - f 0) (g X / g 0) := by
  obtain ⟨B, C, F⟩ := F
  obtain ⟨B2, C2, G⟩ := G
  have b1 := F.b0
  have b2 := F.c0
  have b3 := G.b0
  have b4 := G.c0
  exact cmp_up hX (F.mono (show B ≤ B + B2 by clear hg hd F G; grind) (show C ≤ C + C2 by clear hg hd F G; grind)) (G.mono (show B2 ≤ B + B2 by clear hg hd F G; grind) (show C2 ≤ C + C2 by clear hg hd F G; grind)) hγ hg hd
theorem cmp_dnS {X γ : Rat} {f f' g g' : Rat → Rat} (hX : 0 ≤ X) (F : Smooth X f f') (G : Smooth X g g') (hγ : 0 < γ) (hg : ∀ t, 0 ≤ t → t ≤ X → γ ≤ g t)
    (hd : ∀ t, 0 ≤ t → t ≤ X → g' t ≤ f' t * g t) : EG (f X - f 0) (g X / g 0) := by
  obtain ⟨B, C, F⟩ := F
  obtain ⟨B2, C2, G⟩ := G
  have b1 := F.b0
  have b2 := F.c0
  have b3 := G.b0
  have b4 := G.c0
  exact cmp_dn hX (F.mono (show B ≤ B + B2 by clear hg hd F G; grind) (show C ≤ C + C2 by clear hg hd F G; grind)) (G.mono (show B2 ≤ B + B2 by clear hg hd F G; grind) (show C2 ≤ C + C2 by clear hg hd F G; grind)) hγ hg hd

end Ex
end Mine

namespace Mine
namespace Ex

/-- z ^ n / n ! -/
def mz : Nat → Rat → Rat
  | 0, _ => 1
  | n + 1, z => z * mz n z / ((n : Rat) + 1)
/-- the sum to the T-th power -/
def eZ : Nat → Rat → Rat
  | 0, _ => 1
  | T + 1, z => eZ T z + mz (T + 1) z

theorem n1_pos (n : Nat) : (0 : Rat) < (n : Rat) + 1 := by
  have : (0 : Rat) ≤ (n : Rat) := by exact_mod_cast Nat.zero_le n
  grind
theorem mz_succ (n : Nat) (z : Rat) : mz (n + 1) z = z * mz n z / ((n : Rat) + 1) := rfl
theorem eZ_succ (n : Nat) (z : Rat) : eZ (n + 1) z = eZ n z + mz (n + 1) z := rfl
theorem mz_smooth {X : Rat} (hX : 0 ≤ X) (s : Rat) : ∀ n, Smooth X (fun t => mz (n + 1) (s * t)) (fun t => s * mz n (s * t))
  | 0 => by
    refine ((Smooth.const (X := X) s).mulX hX).congr (fun t => ?_) (fun t => ?_)
    · show t * s = s * t * 1 / (((0 : Nat) : Rat) + 1)
      have : ((0 : Nat) : Rat) = 0 := rfl
      rw [this]; grind
    · show s + t * 0 = s * 1
      grind
  | n + 1 => by
    have ih := mz_smooth hX s n
    refine ((ih.mulX hX).smul (s / (((n + 1 : Nat) : Rat) + 1))).congr (fun t => ?_) (fun t => ?_)
    · show s / (((n + 1 : Nat) : Rat) + 1) * (t * mz (n + 1) (s * t)) = s * t * mz (n + 1) (s * t) / (((n + 1 : Nat) : Rat) + 1)
      generalize mz (n + 1) (s * t) = u
      generalize (((n + 1 : Nat) : Rat) + 1) = k
      grind
    · show s / (((n + 1 : Nat) : Rat) + 1) * (mz (n + 1) (s * t) + t * (s * mz n (s * t))) = s * mz (n + 1) (s * t)
      rw [mz_succ n]
      have h1 := n1_pos n
      have e : ((n + 1 : Nat) : Rat) = (n : Rat) + 1 := by grind
      rw [e]
      generalize mz n (s * t) = u
      generalize (n : Rat) = k at *
      grind
theorem eZ_smooth {X : Rat} (hX : 0 ≤ X) (s : Rat) : ∀ T, Smooth X (fun t => eZ (T + 1) (s * t)) (fun t => s * eZ T (s * t))
  | 0 => by
    refine ((Smooth.const (X := X) 1).add (mz_smooth hX s 0)).congr (fun t => rfl) (fun t => ?_)
    show 0 + s * mz 0 (s * t) = s * 1
    have : mz 0 (s * t) = 1 := rfl
    rw [this]; grind
  | T + 1 => by
    refine ((eZ_smooth hX s T).add (mz_smooth hX s (T + 1))).congr (fun t => rfl) (fun t => ?_)
    show s * eZ T (s * t) + s * mz (T + 1) (s * t) = s * (eZ T (s * t) + mz (T + 1) (s * t))
    grind

theorem mz_nn {z : Rat} (h : 0 ≤ z) : ∀ n, 0 ≤ mz n z
  | 0 => by show (0 : Rat) ≤ 1; decide
  | n + 1 => by
    rw [mz_succ]
    exact div_nn (Rat.mul_nonneg h (mz_nn h n)) (n1_pos n)
/-- the sign falls out -/
theorem mz_neg {z : Rat} : ∀ n, (mz n (-z) = mz n z) ∨ (mz n (-z) = -mz n z)
  | 0 => .inl rfl
  | n + 1 => by
    rw [mz_succ, mz_succ]
    rcases mz_neg (z := z) n with h | h
    · right
      rw [h]
      have := n1_pos n
      generalize (n : Rat) + 1 = k at *
      generalize mz n z = u
      grind
    · left
      rw [h]
      have := n1_pos n
      generalize (n : Rat) + 1 = k at *
      generalize mz n z = u
      grind
theorem mz_abs {z : Rat} (h : 0 ≤ z) (n : Nat) : -mz n z ≤ mz n (-z) ∧ mz n (-z) ≤ mz n z := by
  have h1 := mz_nn h n
  rcases mz_neg (z := z) n with e | e <;> rw [e] <;> grind
/-- each term is no more than z times the one ahead -/
theorem mz_le {z : Rat} (h : 0 ≤ z) (n : Nat) : mz (n + 1) z ≤ z * mz n z := by
  rw [mz_succ]
  have h1 := n1_pos n
  have h2 := Rat.mul_nonneg h (mz_nn h n)
  refine div_le h1 ?_
  have h3 : (0 : Rat) ≤ (n : Rat) := by exact_mod_cast Nat.zero_le n
  have := Rat.mul_nonneg h2 h3
  grind
theorem mz_half {z : Rat} (h : 0 ≤ z) (n : Nat) : 2 * mz (n + 2) z ≤ z * mz (n + 1) z := by
  rw [mz_succ (n + 1)]
  have h1 := n1_pos (n + 1)
  have h2 := Rat.mul_nonneg h (mz_nn h (n + 1))
  have h3 : (0 : Rat) ≤ (n : Rat) := by exact_mod_cast Nat.zero_le n
  have e : ((n + 1 : Nat) : Rat) = (n : Rat) + 1 := by grind
  have k : z * mz (n + 1) z / (((n + 1 : Nat) : Rat) + 1) ≤ z * mz (n + 1) z / 2 := by
    refine div_le h1 ?_
    rw [e]
    have := Rat.mul_nonneg h2 h3
    grind
  grind
/-- the sum, for z below a quarter, is within a third of 1 -/
theorem eZ_near {z : Rat} (h : 0 ≤ z) (h2 : z ≤ 1 / 4) : ∀ T, 1 ≤ eZ T z ∧ eZ T z ≤ 4 / 3 - mz T z / 3 ∧ 2 / 3 + mz T z / 3 ≤ eZ T (-z) ∧ eZ T (-z) ≤ 4 / 3 - mz T z / 3
  | 0 => by
    have e1 : eZ 0 z = 1 := rfl
    have e2 : eZ 0 (-z) = 1 := rfl
    have e3 : mz 0 z = 1 := rfl
    rw [e1, e2, e3]
    grind
  | T + 1 => by
    obtain ⟨a, b, c, d⟩ := eZ_near h h2 T
    rw [eZ_succ, eZ_succ]
    have n0 := mz_nn h T
    have n1 := mz_nn h (T + 1)
    have k := mz_le h T
    have q := Rat.mul_le_mul_of_nonneg_right h2 n0
    obtain ⟨x, y⟩ := mz_abs h (T + 1)
    generalize mz (T + 1) z = u at *
    generalize mz (T + 1) (-z) = u' at *
    generalize mz T z = v at *
    grind

end Ex
end Mine

namespace Mine
namespace Ex

theorem lin_smooth {X : Rat} (hX : 0 ≤ X) (s : Rat) : Smooth X (fun t => s * t) (fun _ => s) :=
  ((Smooth.const (X := X) s).mulX hX).congr (fun t => by grind) (fun t => by grind)
theorem mz_zero (n : Nat) : mz (n + 1) 0 = 0 := by
  rw [mz_succ]
  have := n1_pos n
  generalize mz n 0 = u
  grind
theorem eZ_zero : ∀ n, eZ n 0 = 1
  | 0 => rfl
  | n + 1 => by rw [eZ_succ, eZ_zero n, mz_zero]; grind

theorem taylor_up_pos {z : Rat} (h : 0 ≤ z) (h2 : z ≤ 1 / 4) (T : Nat) : EL z (eZ (T + 1) z + 5 / 4 * mz (T + 2) z) := by
  have key := cmp_upS (X := z) (γ := 1) (f := fun t => 1 * t) (f' := fun _ => 1) (g := fun t => eZ (T + 1) (1 * t) + 5 / 4 * mz (T + 2) (1 * t)) (g' := fun t => 1 * eZ T (1 * t) + 5 / 4 * (1 * mz (T + 1) (1 * t))) h (lin_smooth h 1)
    ((eZ_smooth h 1 T).add ((mz_smooth h 1 (T + 1)).smul (5 / 4))) (by decide) ?_ ?_
  · simp only [Rat.one_mul] at key
    rw [eZ_zero, mz_zero] at key
    have e1 : z - 0 = z := by grind
    have e2 : (eZ (T + 1) z + 5 / 4 * mz (T + 2) z) / (1 + 5 / 4 * 0) = eZ (T + 1) z + 5 / 4 * mz (T + 2) z := by grind
    rwa [e1, e2] at key
  · intro t t0 t1
    have a := (eZ_near t0 (by grind) (T + 1)).1
    have b := mz_nn t0 (T + 2)
    simp only [Rat.one_mul]
    grind
  · intro t t0 t1
    simp only [Rat.one_mul]
    rw [eZ_succ]
    have a := mz_half t0 T
    have b := mz_nn t0 (T + 1)
    have c := Rat.mul_le_mul_of_nonneg_right (show t ≤ 1 / 4 by grind) b
    grind
theorem taylor_dn_pos {z : Rat} (h : 0 ≤ z) (h2 : z ≤ 1 / 4) (T : Nat) : EG z (eZ (T + 1) z) := by
  have key := cmp_dnS (X := z) (γ := 1) (f := fun t => 1 * t) (f' := fun _ => 1) (g := fun t => eZ (T + 1) (1 * t)) (g' := fun t => 1 * eZ T (1 * t)) h (lin_smooth h 1)
    (eZ_smooth h 1 T) (by decide) ?_ ?_
  · simp only [Rat.one_mul] at key
    rw [eZ_zero] at key
    have e1 : z - 0 = z := by grind
    have e2 : eZ (T + 1) z / 1 = eZ (T + 1) z := by grind
    rwa [e1, e2] at key
  · intro t t0 t1
    have a := (eZ_near t0 (by grind) (T + 1)).1
    simp only [Rat.one_mul]
    exact a
  · intro t t0 t1
    simp only [Rat.one_mul]
    rw [eZ_succ]
    have b := mz_nn t0 (T + 1)
    grind
theorem neg_one_mul' (t : Rat) : -1 * t = -t := by grind
theorem taylor_up_neg {z : Rat} (h : 0 ≤ z) (h2 : z ≤ 1 / 4) (T : Nat) : EL (-z) (eZ (T + 1) (-z) + 5 / 4 * mz (T + 2) z) := by
  have key := cmp_upS (X := z) (γ := 1 / 2) (f := fun t => -1 * t) (f' := fun _ => -1) (g := fun t => eZ (T + 1) (-1 * t) + 5 / 4 * mz (T + 2) (1 * t)) (g' := fun t => -1 * eZ T (-1 * t) + 5 / 4 * (1 * mz (T + 1) (1 * t))) h (lin_smooth h (-1))
    ((eZ_smooth h (-1) T).add ((mz_smooth h 1 (T + 1)).smul (5 / 4))) (by grind) ?_ ?_
  · simp only [Rat.one_mul, neg_one_mul'] at key
    have e0 : -(0 : Rat) = 0 := by grind
    rw [e0, eZ_zero, mz_zero] at key
    have e1 : -z - 0 = -z := by grind
    have e2 : (eZ (T + 1) (-z) + 5 / 4 * mz (T + 2) z) / (1 + 5 / 4 * 0) = eZ (T + 1) (-z) + 5 / 4 * mz (T + 2) z := by grind
    rwa [e1, e2] at key
  · intro t t0 t1
    have a := (eZ_near t0 (by grind) (T + 1)).2.2.1
    have b := mz_nn t0 (T + 2)
    have c := mz_nn t0 (T + 1)
    simp only [Rat.one_mul, neg_one_mul']
    grind
  · intro t t0 t1
    simp only [Rat.one_mul, neg_one_mul']
    rw [eZ_succ]
    have a := mz_nn t0 (T + 2)
    have b := mz_nn t0 (T + 1)
    have c := (mz_abs t0 (T + 1)).1
    grind
theorem taylor_dn_neg {z : Rat} (h : 0 ≤ z) (h2 : z ≤ 1 / 4) (T : Nat) : EG (-z) (eZ (T + 1) (-z) - mz (T + 2) z) := by
  have key := cmp_dnS (X := z) (γ := 1 / 2) (f := fun t => -1 * t) (f' := fun _ => -1) (g := fun t => eZ (T + 1) (-1 * t) + -1 * mz (T + 2) (1 * t)) (g' := fun t => -1 * eZ T (-1 * t) + -1 * (1 * mz (T + 1) (1 * t))) h (lin_smooth h (-1))
    ((eZ_smooth h (-1) T).add ((mz_smooth h 1 (T + 1)).smul (-1))) (by grind) ?_ ?_
  · simp only [Rat.one_mul, neg_one_mul'] at key
    have e0 : -(0 : Rat) = 0 := by grind
    rw [e0, eZ_zero, mz_zero] at key
    have e1 : -z - 0 = -z := by grind
    have e2 : (eZ (T + 1) (-z) + -mz (T + 2) z) / (1 + -0) = eZ (T + 1) (-z) - mz (T + 2) z := by grind
    rwa [e1, e2] at key
  · intro t t0 t1
    have a := (eZ_near t0 (by grind) (T + 1)).2.2.1
    have b := mz_le t0 (T + 1)
    have c := mz_nn t0 (T + 1)
    have d := Rat.mul_le_mul_of_nonneg_right (show t ≤ 1 / 4 by grind) c
    simp only [Rat.one_mul, neg_one_mul']
    grind
  · intro t t0 t1
    simp only [Rat.one_mul, neg_one_mul']
    rw [eZ_succ]
    have a := mz_nn t0 (T + 2)
    have b := mz_nn t0 (T + 1)
    have c := (mz_abs t0 (T + 1)).2
    grind

/-- the series of exp, with what it leaves out; a is z without its sign -/
theorem exp_taylor {z a : Rat} (h : 0 ≤ a) (h2 : a ≤ 1 / 4) (hz : z = a ∨ z = -a) (T : Nat) : EL z (eZ (T + 1) z + 5 / 4 * mz (T + 2) a) ∧ EG z (eZ (T + 1) z - mz (T + 2) a) := by
  rcases hz with e | e
  · rw [e]
    refine ⟨taylor_up_pos h h2 T, (taylor_dn_pos h h2 T).mono ?_⟩
    have := mz_nn h (T + 2)
    grind
  · rw [e]
    exact ⟨taylor_up_neg h h2 T, taylor_dn_neg h h2 T⟩

/-! the logarithm -/
/-- the sum of (-y) ^ k for k < T -/
def gZ : Nat → Rat → Rat
  | 0, _ => 0
  | T + 1, y => gZ T y + (-y) ^ T
/-- y - y ^ 2 / 2 + y ^ 3 / 3 .., T terms -/
def lZ : Nat → Rat → Rat
  | 0, _ => 0
  | T + 1, y => lZ T y + y * (-y) ^ T / ((T : Rat) + 1)
theorem gZ_mul (y : Rat) : ∀ T, (1 + y) * gZ T y = 1 - (-y) ^ T
  | 0 => by rw [Rat.pow_zero]; show (1 + y) * 0 = 1 - 1; grind
  | T + 1 => by
    have ih := gZ_mul y T
    rw [Rat.pow_succ]
    show (1 + y) * (gZ T y + (-y) ^ T) = 1 - (-y) ^ T * -y
    generalize (-y) ^ T = u at *
    grind
theorem pw_smooth {X : Rat} (hX : 0 ≤ X) : ∀ n : Nat, Smooth X (fun t => t * t ^ n) (fun t => ((n : Rat) + 1) * t ^ n)
  | 0 => by
    refine ((Smooth.const (X := X) 1).mulX hX).congr (fun t => ?_) (fun t => ?_)
    · show t * 1 = t * t ^ 0
      rw [Rat.pow_zero]
    · show 1 + t * 0 = (((0 : Nat) : Rat) + 1) * t ^ 0
      have : ((0 : Nat) : Rat) = 0 := rfl
      rw [Rat.pow_zero, this]; grind
  | n + 1 => by
    refine ((pw_smooth hX n).mulX hX).congr (fun t => ?_) (fun t => ?_)
    · show t * (t * t ^ n) = t * t ^ (n + 1)
      rw [Rat.pow_succ]; grind
    · show t * t ^ n + t * (((n : Rat) + 1) * t ^ n) = (((n + 1 : Nat) : Rat) + 1) * t ^ (n + 1)
      have e : ((n + 1 : Nat) : Rat) = (n : Rat) + 1 := by grind
      rw [Rat.pow_succ, e]
      generalize t ^ n = u
      grind
theorem mul_pow' (a b : Rat) : ∀ n : Nat, (a * b) ^ n = a ^ n * b ^ n
  | 0 => by rw [Rat.pow_zero, Rat.pow_zero, Rat.pow_zero]; grind
  | n + 1 => by rw [Rat.pow_succ, Rat.pow_succ, Rat.pow_succ, mul_pow' a b n]; grind
theorem lZ_smooth {X : Rat} (hX : 0 ≤ X) (s : Rat) : ∀ T, Smooth X (fun t => lZ T (s * t)) (fun t => s * gZ T (s * t))
  | 0 => (Smooth.const (X := X) 0).congr (fun t => rfl) (fun t => by show (0 : Rat) = s * 0; grind)
  | T + 1 => by
    refine ((lZ_smooth hX s T).add ((pw_smooth hX T).smul (s * (-s) ^ T / ((T : Rat) + 1)))).congr (fun t => ?_) (fun t => ?_)
    · show lZ T (s * t) + s * (-s) ^ T / ((T : Rat) + 1) * (t * t ^ T) = lZ T (s * t) + s * t * (-(s * t)) ^ T / ((T : Rat) + 1)
      have e : -(s * t) = -s * t := by grind
      rw [e, mul_pow']
      generalize (-s) ^ T = u
      generalize t ^ T = v
      generalize (T : Rat) + 1 = k
      grind
    · show s * gZ T (s * t) + s * (-s) ^ T / ((T : Rat) + 1) * (((T : Rat) + 1) * t ^ T) = s * (gZ T (s * t) + (-(s * t)) ^ T)
      have e : -(s * t) = -s * t := by grind
      rw [e, mul_pow']
      have := n1_pos T
      generalize (-s) ^ T = u
      generalize t ^ T = v
      generalize (T : Rat) + 1 = k at *
      grind

end Ex
end Mine

namespace Mine
namespace Ex

theorem sgn_pow {s : Rat} (hs : s = 1 ∨ s = -1) : ∀ n : Nat, s ^ n = 1 ∨ s ^ n = -1
  | 0 => .inl (Rat.pow_zero s)
  | n + 1 => by
    rw [Rat.pow_succ]
    rcases sgn_pow hs n with h | h <;> rcases hs with e | e <;> rw [h, e] <;> grind

/-- what the series of the logarithm leaves out -/
def rZ (T : Nat) (a : Rat) : Rat := a * a ^ T / ((T : Rat) + 1)
theorem rZ_smooth {X : Rat} (hX : 0 ≤ X) (T : Nat) : Smooth X (fun t => rZ T t) (fun t => t ^ T) :=
  ((pw_smooth hX T).smul (1 / ((T : Rat) + 1))).congr (fun t => by
    show 1 / ((T : Rat) + 1) * (t * t ^ T) = t * t ^ T / ((T : Rat) + 1)
    grind) (fun t => by
    show 1 / ((T : Rat) + 1) * (((T : Rat) + 1) * t ^ T) = t ^ T
    have := n1_pos T
    generalize t ^ T = v
    generalize (T : Rat) + 1 = k at *
    grind)
theorem lZ_zero : ∀ T, lZ T 0 = 0
  | 0 => rfl
  | T + 1 => by
    show lZ T 0 + 0 * (-0) ^ T / ((T : Rat) + 1) = 0
    rw [lZ_zero T]
    have := n1_pos T
    generalize (-(0 : Rat)) ^ T = u
    generalize (T : Rat) + 1 = k at *
    grind
theorem rZ_zero (T : Nat) : rZ T 0 = 0 := by
  unfold rZ
  have := n1_pos T
  generalize (0 : Rat) ^ T = u
  generalize (T : Rat) + 1 = k at *
  grind
theorem neg_pm {s : Rat} (hs : s = 1 ∨ s = -1) : -s = 1 ∨ -s = -1 := by grind

theorem log_up {s X : Rat} (hs : s = 1 ∨ s = -1) (hX : 0 ≤ X) (hX2 : X ≤ 1 / 2) (T : Nat) : EL (lZ T (s * X) - 2 * rZ T X) (1 + s * X) := by
  have key := cmp_upS (X := X) (γ := 1 / 2) (f := fun t => lZ T (s * t) + -2 * rZ T t) (f' := fun t => s * gZ T (s * t) + -2 * t ^ T) (g := fun t => 1 + s * t) (g' := fun t => 0 + s) hX
    ((lZ_smooth hX s T).add ((rZ_smooth hX T).smul (-2))) ((Smooth.const 1).add (lin_smooth hX s)) (by grind) ?_ ?_
  · have e0 : s * 0 = 0 := by grind
    simp only [e0, lZ_zero, rZ_zero] at key
    have e1 : lZ T (s * X) + -2 * rZ T X - (0 + -2 * 0) = lZ T (s * X) - 2 * rZ T X := by grind
    have e2 : (1 + s * X) / (1 + 0) = 1 + s * X := by grind
    rwa [e1, e2] at key
  · intro t t0 t1
    show 1 / 2 ≤ 1 + s * t
    rcases hs with e | e <;> rw [e] <;> grind
  · intro t t0 t1
    show (s * gZ T (s * t) + -2 * t ^ T) * (1 + s * t) ≤ 0 + s
    have k := gZ_mul (s * t) T
    have e : -(s * t) = -s * t := by grind
    rw [e, mul_pow'] at k
    have p := pow_nn t0 T
    generalize t ^ T = v at *
    generalize gZ T (s * t) = w at *
    have q := Rat.mul_nonneg p (show 0 ≤ 1 + 2 * (s * t) by rcases hs with e | e <;> rw [e] <;> grind)
    rcases sgn_pow (neg_pm hs) T with x | x <;> rw [x] at k <;> clear x e <;> rcases hs with rfl | rfl <;> grind
theorem log_dn {s X : Rat} (hs : s = 1 ∨ s = -1) (hX : 0 ≤ X) (hX2 : X ≤ 1 / 2) (T : Nat) : EG (lZ T (s * X) + 2 * rZ T X) (1 + s * X) := by
  have key := cmp_dnS (X := X) (γ := 1 / 2) (f := fun t => lZ T (s * t) + 2 * rZ T t) (f' := fun t => s * gZ T (s * t) + 2 * t ^ T) (g := fun t => 1 + s * t) (g' := fun t => 0 + s) hX
    ((lZ_smooth hX s T).add ((rZ_smooth hX T).smul 2)) ((Smooth.const 1).add (lin_smooth hX s)) (by grind) ?_ ?_
  · have e0 : s * 0 = 0 := by grind
    simp only [e0, lZ_zero, rZ_zero] at key
    have e1 : lZ T (s * X) + 2 * rZ T X - (0 + 2 * 0) = lZ T (s * X) + 2 * rZ T X := by grind
    have e2 : (1 + s * X) / (1 + 0) = 1 + s * X := by grind
    rwa [e1, e2] at key
  · intro t t0 t1
    show 1 / 2 ≤ 1 + s * t
    rcases hs with e | e <;> rw [e] <;> grind
  · intro t t0 t1
    show 0 + s ≤ (s * gZ T (s * t) + 2 * t ^ T) * (1 + s * t)
    have k := gZ_mul (s * t) T
    have e : -(s * t) = -s * t := by grind
    rw [e, mul_pow'] at k
    have p := pow_nn t0 T
    generalize t ^ T = v at *
    generalize gZ T (s * t) = w at *
    have q := Rat.mul_nonneg p (show 0 ≤ 1 + 2 * (s * t) by rcases hs with e | e <;> rw [e] <;> grind)
    rcases sgn_pow (neg_pm hs) T with x | x <;> rw [x] at k <;> clear x e <;> rcases hs with rfl | rfl <;> grind

/-- the series of the logarithm; a is y without its sign -/
theorem log_series {y a : Rat} (h : 0 ≤ a) (h2 : a ≤ 1 / 2) (hy : y = a ∨ y = -a) (T : Nat) : EL (lZ T y - 2 * rZ T a) (1 + y) ∧ EG (lZ T y + 2 * rZ T a) (1 + y) := by
  rcases hy with e | e
  · have k1 := log_up (s := 1) (.inl rfl) h h2 T
    have k2 := log_dn (s := 1) (.inl rfl) h h2 T
    rw [Rat.one_mul] at k1 k2
    rw [e]
    exact ⟨k1, k2⟩
  · have k1 := log_up (s := -1) (.inr rfl) h h2 T
    have k2 := log_dn (s := -1) (.inr rfl) h h2 T
    rw [neg_one_mul'] at k1 k2
    rw [e]
    exact ⟨k1, k2⟩

end Ex
end Mine

namespace Mine
open Ex

theorem castpos {b : Int} (h : 0 < b) : (0 : Rat) < (b : Rat) := by exact_mod_cast h
theorem castnn {b : Int} (h : 0 ≤ b) : (0 : Rat) ≤ (b : Rat) := by exact_mod_cast h
theorem castle {a b : Int} (h : a ≤ b) : (a : Rat) ≤ (b : Rat) := by exact_mod_cast h
theorem divN_rat {a b : Int} (hb : 0 < b) : (a : Rat) / b - 1 / 2 ≤ (divN a b : Rat) ∧ (divN a b : Rat) ≤ (a : Rat) / b + 1 / 2 := by
  obtain ⟨h1, h2⟩ := divN_spec (a := a) hb
  generalize divN a b = q at *
  have hb' := castpos hb
  have k1 : (-(b : Rat)) ≤ 2 * ((a : Rat) - b * q) := by exact_mod_cast h1
  have k2 : 2 * ((a : Rat) - b * q) ≤ (b : Rat) := by exact_mod_cast h2
  generalize (a : Rat) = a at *
  generalize (b : Rat) = b at *
  generalize (q : Rat) = q at *
  constructor
  · have : a / b ≤ q + 1 / 2 := div_le hb' (by grind)
    grind
  · have : q - 1 / 2 ≤ a / b := le_div hb' (by grind)
    grind

/-- Horner's scheme of exp behind j turns -/
def hS (z : Rat) (T : Int) : Nat → Rat
  | 0 => z / T
  | j + 1 => z * (1 + hS z T j) / ((T - 1 - (j : Int) : Int) : Rat)
/-- Horner's scheme of the logarithm behind j turns -/
def vS (z : Rat) (T : Int) : Nat → Rat
  | 0 => 1 / T
  | j + 1 => 1 / ((T - 1 - (j : Int) : Int) : Rat) - z * vS z T j

theorem hS_sum (z : Rat) {T : Nat} : ∀ j : Nat, j < T → mz (T - 1 - j) z * hS z (T : Int) j = eZ T z - eZ (T - 1 - j) z
  | 0, hj => by
    obtain ⟨n, rfl⟩ : ∃ n, T = n + 1 := ⟨T - 1, by omega⟩
    show mz (n + 1 - 1 - 0) z * (z / (((n + 1 : Nat) : Int) : Rat)) = eZ (n + 1) z - eZ (n + 1 - 1 - 0) z
    have e : n + 1 - 1 - 0 = n := by omega
    have e2 : ((((n + 1 : Nat) : Int)) : Rat) = (n : Rat) + 1 := by push_cast; rfl
    rw [e, e2, eZ_succ, mz_succ]
    have := n1_pos n
    generalize mz n z = u
    generalize eZ n z = w
    generalize (n : Rat) + 1 = k at *
    grind
  | j + 1, hj => by
    have ih := hS_sum z (T := T) j (by omega)
    obtain ⟨n, hn⟩ : ∃ n, T - 1 - j = n + 1 := ⟨T - 2 - j, by omega⟩
    have e1 : T - 1 - (j + 1) = n := by omega
    have e2 : ((T : Int) - 1 - (j : Int)) = ((n + 1 : Nat) : Int) := by omega
    rw [hn] at ih
    show mz (T - 1 - (j + 1)) z * (z * (1 + hS z (T : Int) j) / (((T : Int) - 1 - (j : Int) : Int) : Rat)) = _
    have e3 : ((((n + 1 : Nat) : Int)) : Rat) = (n : Rat) + 1 := by push_cast; rfl
    rw [e1, e2, e3]
    rw [mz_succ, eZ_succ, mz_succ] at ih
    have := n1_pos n
    generalize mz n z = u at *
    generalize eZ n z = w at *
    generalize eZ T z = E at *
    generalize hS z (T : Int) j = h at *
    generalize (n : Rat) + 1 = k at *
    grind
theorem hS_last (z : Rat) {T : Nat} (hT : 0 < T) : hS z (T : Int) (T - 1) = eZ T z - 1 := by
  have h := hS_sum z (T := T) (T - 1) (by omega)
  have e : T - 1 - (T - 1) = 0 := by omega
  rw [e] at h
  have e1 : mz 0 z = 1 := rfl
  have e2 : eZ 0 z = 1 := rfl
  rw [e1, e2] at h
  grind
theorem vS_sum (z : Rat) {T : Nat} : ∀ j : Nat, j < T → (-z) ^ (T - 1 - j) * z * vS z (T : Int) j = lZ T z - lZ (T - 1 - j) z
  | 0, hj => by
    obtain ⟨n, rfl⟩ : ∃ n, T = n + 1 := ⟨T - 1, by omega⟩
    show (-z) ^ (n + 1 - 1 - 0) * z * (1 / (((n + 1 : Nat) : Int) : Rat)) = lZ (n + 1) z - lZ (n + 1 - 1 - 0) z
    have e : n + 1 - 1 - 0 = n := by omega
    have e2 : ((((n + 1 : Nat) : Int)) : Rat) = (n : Rat) + 1 := by push_cast; rfl
    rw [e, e2]
    show (-z) ^ n * z * (1 / ((n : Rat) + 1)) = lZ n z + z * (-z) ^ n / ((n : Rat) + 1) - lZ n z
    generalize (-z) ^ n = u
    generalize lZ n z = w
    generalize (n : Rat) + 1 = k
    grind
  | j + 1, hj => by
    have ih := vS_sum z (T := T) j (by omega)
    obtain ⟨n, hn⟩ : ∃ n, T - 1 - j = n + 1 := ⟨T - 2 - j, by omega⟩
    have e1 : T - 1 - (j + 1) = n := by omega
    have e2 : ((T : Int) - 1 - (j : Int)) = ((n + 1 : Nat) : Int) := by omega
    rw [hn, Rat.pow_succ] at ih
    show (-z) ^ (T - 1 - (j + 1)) * z * (1 / (((T : Int) - 1 - (j : Int) : Int) : Rat) - z * vS z (T : Int) j) = _
    have e3 : ((((n + 1 : Nat) : Int)) : Rat) = (n : Rat) + 1 := by push_cast; rfl
    rw [e1, e2, e3]
    have e4 : lZ (n + 1) z = lZ n z + z * (-z) ^ n / ((n : Rat) + 1) := rfl
    rw [e4] at ih
    generalize (-z) ^ n = u at *
    generalize lZ n z = w at *
    generalize lZ T z = E at *
    generalize vS z (T : Int) j = h at *
    generalize (n : Rat) + 1 = k at *
    grind
theorem vS_last (z : Rat) {T : Nat} (hT : 0 < T) : z * vS z (T : Int) (T - 1) = lZ T z := by
  have h := vS_sum z (T := T) (T - 1) (by omega)
  have e : T - 1 - (T - 1) = 0 := by omega
  rw [e, Rat.pow_zero] at h
  have e2 : lZ 0 z = 0 := rfl
  rw [e2] at h
  grind

theorem cast_mul3 (x a b : Int) : ((x * (a + b) : Int) : Rat) = (x : Rat) * ((a : Rat) + (b : Rat)) := by push_cast; rfl
theorem rat_mul_cast (a b : Int) : ((a * b : Int) : Rat) = (a : Rat) * (b : Rat) := by push_cast; rfl

/-- one turn of the series of exp, in rationals -/
theorem eS_step {z Ms E H i c ρ q : Rat} (hM : 0 < Ms) (hi : 1 ≤ i) (hc : 0 ≤ c) (hρ : 0 ≤ ρ) (z1 : -ρ ≤ z) (z2 : z ≤ ρ) (e1 : Ms * H - c ≤ E) (e2 : E ≤ Ms * H + c)
    (q1 : z * Ms * (Ms + E) / (Ms * i) - 1 / 2 ≤ q) (q2 : q ≤ z * Ms * (Ms + E) / (Ms * i) + 1 / 2) (hcc : 1 / 2 + ρ * c ≤ c) :
    Ms * (z * (1 + H) / i) - c ≤ q ∧ q ≤ Ms * (z * (1 + H) / i) + c := by
  have hi0 : 0 < i := by grind
  have e : z * Ms * (Ms + E) / (Ms * i) = Ms * (z * (1 + H) / i) + z * (E - Ms * H) / i := by grind
  rw [e] at q1 q2
  have m := mul_pm hρ z1 z2 (show -c ≤ E - Ms * H by grind) (show E - Ms * H ≤ c by grind)
  have k0 : 0 ≤ ρ * c := Rat.mul_nonneg hρ hc
  have k1 : z * (E - Ms * H) / i ≤ ρ * c := div_le hi0 (by
    have := Rat.mul_le_mul_of_nonneg_left hi k0
    grind)
  have k2 : -(ρ * c) ≤ z * (E - Ms * H) / i := le_div hi0 (by
    have := Rat.mul_le_mul_of_nonneg_left hi k0
    grind)
  generalize z * (E - Ms * H) / i = w at *
  generalize Ms * (z * (1 + H) / i) = W at *
  grind

theorem eS_err {x Ms T : Int} {z c ρ : Rat} (hM : 0 < Ms) (hT : 0 < T) (hz : z = (x : Rat) / (Ms : Rat)) (hc : 0 ≤ c) (hρ : 0 ≤ ρ) (z1 : -ρ ≤ z) (z2 : z ≤ ρ) (hcc : 1 / 2 + ρ * c ≤ c) :
    ∀ j : Nat, (j : Int) < T → (Ms : Rat) * hS z T j - c ≤ (eS x Ms T j : Rat) ∧ (eS x Ms T j : Rat) ≤ (Ms : Rat) * hS z T j + c
  | 0, _ => by
    have hM' := castpos hM
    have hT' := castpos hT
    have d := divN_rat (a := x) (b := T) hT
    show (Ms : Rat) * (z / T) - c ≤ (divN x T : Rat) ∧ (divN x T : Rat) ≤ (Ms : Rat) * (z / T) + c
    have e : (Ms : Rat) * (z / T) = (x : Rat) / T := by
      rw [hz]
      generalize (Ms : Rat) = M at *
      generalize (T : Rat) = t at *
      grind
    rw [e]
    have := Rat.mul_nonneg hρ hc
    generalize (x : Rat) / T = w at *
    generalize (divN x T : Rat) = q at *
    grind
  | j + 1, hj => by
    have hM' := castpos hM
    obtain ⟨e1, e2⟩ := eS_err hM hT hz hc hρ z1 z2 hcc j (by omega)
    have hi : 0 < T - 1 - (j : Int) := by omega
    have d := divN_rat (a := x * (Ms + eS x Ms T j)) (b := Ms * (T - 1 - (j : Int))) (Int.mul_pos hM hi)
    have hi' : (1 : Rat) ≤ ((T - 1 - (j : Int) : Int) : Rat) := by
      have : (1 : Int) ≤ T - 1 - (j : Int) := by omega
      exact_mod_cast this
    rw [cast_mul3, rat_mul_cast] at d
    have hx : (x : Rat) = z * (Ms : Rat) := by
      rw [hz]
      generalize (Ms : Rat) = M at *
      generalize (x : Rat) = t at *
      grind
    rw [hx] at d
    exact eS_step hM' hi' hc hρ z1 z2 e1 e2 d.1 d.2 hcc

/-- one turn of the series of the logarithm, in rationals -/
theorem wS_step {ζ M W V p q c ρ r : Rat} (hM : 0 < M) (hρ : 0 ≤ ρ) (z1 : -ρ ≤ ζ) (z2 : ζ ≤ ρ) (e1 : M * V - c ≤ W) (e2 : W ≤ M * V + c)
    (p1 : M * r - 1 / 2 ≤ p) (p2 : p ≤ M * r + 1 / 2)
    (q1 : ζ * M * W / M - 1 / 2 ≤ q) (q2 : q ≤ ζ * M * W / M + 1 / 2) (hcc : 1 + ρ * c ≤ c) :
    M * (r - ζ * V) - c ≤ p - q ∧ p - q ≤ M * (r - ζ * V) + c := by
  have e : ζ * M * W / M = ζ * W := by grind
  rw [e] at q1 q2
  have m := mul_pm hρ z1 z2 (show -c ≤ W - M * V by grind) (show W - M * V ≤ c by grind)
  grind

theorem wS_err {M ys T : Int} {ζ c ρ : Rat} (hM : 0 < M) (hT : 0 < T) (hz : ζ = (ys : Rat) / (M : Rat)) (hc : 1 ≤ c) (hρ : 0 ≤ ρ) (z1 : -ρ ≤ ζ) (z2 : ζ ≤ ρ) (hcc : 1 + ρ * c ≤ c) :
    ∀ j : Nat, (j : Int) < T → (M : Rat) * vS ζ T j - c ≤ (wS M ys T j : Rat) ∧ (wS M ys T j : Rat) ≤ (M : Rat) * vS ζ T j + c
  | 0, _ => by
    have hM' := castpos hM
    have hT' := castpos hT
    have d := divN_rat (a := M) (b := T) hT
    show (M : Rat) * (1 / T) - c ≤ (divN M T : Rat) ∧ (divN M T : Rat) ≤ (M : Rat) * (1 / T) + c
    have e : (M : Rat) * (1 / T) = (M : Rat) / T := by grind
    rw [e]
    generalize (M : Rat) / T = w at *
    generalize (divN M T : Rat) = q at *
    grind
  | j + 1, hj => by
    have hM' := castpos hM
    obtain ⟨e1, e2⟩ := wS_err hM hT hz hc hρ z1 z2 hcc j (by omega)
    have hi : 0 < T - 1 - (j : Int) := by omega
    have d := divN_rat (a := M) (b := T - 1 - (j : Int)) hi
    have d2 := divN_rat (a := ys * wS M ys T j) (b := M) hM
    rw [rat_mul_cast] at d2
    have hx : (ys : Rat) = ζ * (M : Rat) := by
      rw [hz]
      generalize (M : Rat) = M at *
      generalize (ys : Rat) = t at *
      grind
    rw [hx] at d2
    have ec : ((divN M (T - 1 - (j : Int)) - divN (ys * wS M ys T j) M : Int) : Rat) = (divN M (T - 1 - (j : Int)) : Rat) - (divN (ys * wS M ys T j) M : Rat) := by push_cast; rfl
    show (M : Rat) * (1 / ((T - 1 - (j : Int) : Int) : Rat) - ζ * vS ζ T j) - c ≤ ((divN M (T - 1 - (j : Int)) - divN (ys * wS M ys T j) M : Int) : Rat) ∧ ((divN M (T - 1 - (j : Int)) - divN (ys * wS M ys T j) M : Int) : Rat) ≤ (M : Rat) * (1 / ((T - 1 - (j : Int) : Int) : Rat) - ζ * vS ζ T j) + c
    rw [ec]
    have em : (M : Rat) / ((T - 1 - (j : Int) : Int) : Rat) = (M : Rat) * (1 / ((T - 1 - (j : Int) : Int) : Rat)) := by grind
    rw [em] at d
    exact wS_step hM' hρ z1 z2 e1 e2 d.1 d.2 d2.1 d2.2 hcc

end Mine

namespace Mine
open Ex

/-- factorials -/
def fc : Nat → Rat
  | 0 => 1
  | n + 1 => fc n * ((n : Rat) + 1)
theorem fc_pos : ∀ n, 0 < fc n
  | 0 => by show (0 : Rat) < 1; decide
  | n + 1 => Rat.mul_pos (fc_pos n) (n1_pos n)
theorem fc_succ_ge (n : Nat) : fc n ≤ fc (n + 1) := by
  show fc n ≤ fc n * ((n : Rat) + 1)
  have h : (0 : Rat) ≤ (n : Rat) := by exact_mod_cast Nat.zero_le n
  have := Rat.mul_nonneg (Rat.le_of_lt (fc_pos n)) h
  grind
theorem fc_mono {m n : Nat} (h : m ≤ n) : fc m ≤ fc n := by
  obtain ⟨k, rfl⟩ := Nat.le.dest h
  induction k with
  | zero => exact Rat.le_refl
  | succ k ih => exact Rat.le_trans (ih (by omega)) (fc_succ_ge (m + k))
theorem fc2 : fc 2 = 2 := by show (1 * (((0 : Nat) : Rat) + 1)) * (((1 : Nat) : Rat) + 1) = 2; grind
theorem fc3 : fc 3 = 6 := by show fc 2 * (((2 : Nat) : Rat) + 1) = 6; rw [fc2]; grind
theorem fc4 : fc 4 = 24 := by show fc 3 * (((3 : Nat) : Rat) + 1) = 24; rw [fc3]; grind
theorem mz_fc (a : Rat) : ∀ n, mz n a * fc n = a ^ n
  | 0 => by rw [Rat.pow_zero]; show (1 : Rat) * 1 = 1; grind
  | n + 1 => by
    rw [mz_succ, Rat.pow_succ, ← mz_fc a n]
    show a * mz n a / ((n : Rat) + 1) * (fc n * ((n : Rat) + 1)) = mz n a * fc n * a
    have := n1_pos n
    generalize (n : Rat) + 1 = k at *
    generalize mz n a = u
    generalize fc n = f
    grind
theorem mz_le_pow {a : Rat} (h : 0 ≤ a) {n m : Nat} (hm : m ≤ n) : mz n a * fc m ≤ a ^ n := by
  rw [← mz_fc a n]
  exact Rat.mul_le_mul_of_nonneg_left (fc_mono hm) (mz_nn h n)

theorem pow_le_one {u : Rat} (h : 0 ≤ u) (h2 : u ≤ 1) : ∀ n : Nat, u ^ n ≤ 1
  | 0 => by rw [Rat.pow_zero]; exact Rat.le_refl
  | n + 1 => by
    rw [Rat.pow_succ]
    have := pow_le_one h h2 n
    have := pow_nn h n
    have := Rat.mul_le_mul_of_nonneg_left h2 this
    grind
theorem pow_le_pow' {u v : Rat} (h : 0 ≤ u) (h2 : u ≤ v) : ∀ n : Nat, u ^ n ≤ v ^ n
  | 0 => by rw [Rat.pow_zero, Rat.pow_zero]; exact Rat.le_refl
  | n + 1 => by
    rw [Rat.pow_succ, Rat.pow_succ]
    have a := pow_le_pow' h h2 n
    have b := pow_nn h n
    have c := Rat.mul_le_mul_of_nonneg_left h2 b
    have d := Rat.mul_le_mul_of_nonneg_right a (show 0 ≤ v by grind)
    grind

/-- 2 ^ (L T) is at least 10 ^ (the signs of M) -/
theorem two_LT {M L : Int} (hM : 0 < M) (hL : 0 < L) : 10 ^ (digs M).toNat ≤ 2 ^ (L.toNat * (tOf M L).toNat) := by
  have hD := digs_pos (Int.le_of_lt hM)
  have hT := tOf_pos (Int.le_of_lt hM) hL
  obtain ⟨D, eD⟩ := Int.eq_ofNat_of_zero_le (Int.le_of_lt hD)
  obtain ⟨l, el⟩ := Int.eq_ofNat_of_zero_le (Int.le_of_lt hL)
  obtain ⟨t, et⟩ := Int.eq_ofNat_of_zero_le (Int.le_of_lt hT)
  have h1 : 10 * D ≤ 3 * (l * t) := by
    have h2 : (-10 * digs M) / (3 * L) * (3 * L) ≤ -10 * digs M := Int.ediv_mul_le _ (by omega)
    have h3 : (-10 * digs M) / (3 * L) = -(t : Int) := by unfold tOf at et; omega
    rw [h3, eD, el] at h2
    have h4 : (-(t : Int)) * (3 * (l : Int)) = -(3 * ((l * t : Nat) : Int)) := by push_cast; grind
    rw [h4] at h2
    omega
  rw [eD, et, el]
  show 10 ^ D ≤ 2 ^ (l * t)
  -- cubes
  have c1 : (10 ^ D) ^ 3 ≤ (2 ^ (l * t)) ^ 3 := by
    have e1 : (10 ^ D) ^ 3 = 1000 ^ D := by rw [← Nat.pow_mul, Nat.mul_comm, Nat.pow_mul]
    have e2 : (2 ^ (l * t)) ^ 3 = 2 ^ (3 * (l * t)) := by rw [← Nat.pow_mul, Nat.mul_comm]
    rw [e1, e2]
    have e3 : 1000 ^ D ≤ 1024 ^ D := Nat.pow_le_pow_left (by decide) D
    have e4 : 1024 ^ D = 2 ^ (10 * D) := by rw [Nat.pow_mul]
    have e5 : 2 ^ (10 * D) ≤ 2 ^ (3 * (l * t)) := Nat.pow_le_pow_right (by decide) h1
    omega
  rcases Nat.lt_or_ge (2 ^ (l * t)) (10 ^ D) with h | h
  · have := Nat.pow_lt_pow_left h (show 3 ≠ 0 by decide)
    omega
  · exact h
theorem M_lt_digs {M : Int} (hM : 0 < M) : M < 10 ^ (digs M).toNat := by
  have hD := digs_pos (Int.le_of_lt hM)
  exact (digs_iff (Int.le_of_lt hM) (by omega)).mp (by omega)

/-- the T-th power of what is below 2 ^ - L, by 10 ^ (the signs of M) -/
theorem pow_small {M L : Int} {a : Rat} (hM : 0 < M) (hL : 0 < L) (ha : 0 ≤ a) (h : a * (2 : Rat) ^ L.toNat ≤ 1) : a ^ (tOf M L).toNat * ((10 ^ (digs M).toNat : Nat) : Rat) ≤ 1 := by
  have h1 := two_LT hM hL
  have h2 : ((10 ^ (digs M).toNat : Nat) : Rat) ≤ ((2 ^ (L.toNat * (tOf M L).toNat) : Nat) : Rat) := by exact_mod_cast h1
  have h3 : ((2 ^ (L.toNat * (tOf M L).toNat) : Nat) : Rat) = ((2 : Rat) ^ L.toNat) ^ (tOf M L).toNat := by
    rw [Nat.pow_mul]
    push_cast
    rfl
  rw [h3] at h2
  have hp : (0 : Rat) ≤ (2 : Rat) ^ L.toNat := pow_nn (by decide) _
  have h4 := pow_le_one (Rat.mul_nonneg ha hp) h (tOf M L).toNat
  rw [mul_pow'] at h4
  have := Rat.mul_le_mul_of_nonneg_left h2 (pow_nn ha (tOf M L).toNat)
  grind
theorem pow_small_M {M L : Int} {a : Rat} (hM : 0 < M) (hL : 0 < L) (ha : 0 ≤ a) (h : a * (2 : Rat) ^ L.toNat ≤ 1) : a ^ (tOf M L).toNat * (M : Rat) ≤ 1 := by
  have h1 := pow_small hM hL ha h
  have h2 : (M : Rat) ≤ ((10 ^ (digs M).toNat : Nat) : Rat) := by
    have := M_lt_digs hM
    have e : ((10 ^ (digs M).toNat : Nat) : Int) = 10 ^ (digs M).toNat := Int.natCast_pow 10 _
    have h3 : M ≤ ((10 ^ (digs M).toNat : Nat) : Int) := by omega
    exact_mod_cast h3
  have := Rat.mul_le_mul_of_nonneg_left h2 (pow_nn ha (tOf M L).toNat)
  grind

end Mine

namespace Mine
open Ex

theorem base_alg_up {E Ms e m c : Rat} (hM : 0 < Ms) (h : Ms * (e - 1) - c ≤ E) : e + 5 / 4 * m ≤ 1 + (E + c + Ms * (5 / 4 * m)) / Ms := by
  have : e + 5 / 4 * m - 1 ≤ (E + c + Ms * (5 / 4 * m)) / Ms := le_div hM (by grind)
  grind
theorem base_alg_dn {E Ms e m c : Rat} (hM : 0 < Ms) (hm : 0 ≤ m) (h : E ≤ Ms * (e - 1) + c) : 1 + (E - c - Ms * (5 / 4 * m)) / Ms ≤ e - m := by
  have k : (E - c - Ms * (5 / 4 * m)) / Ms ≤ e - m - 1 := div_le hM (by
    have := Rat.mul_nonneg (Rat.le_of_lt hM) hm
    grind)
  grind

/-- the series of _iexp, ahead of the doublings -/
theorem iexp_base {x Ms : Int} {T : Nat} {z a c : Rat} (hM : 0 < Ms) (hT : 0 < T) (hz : z = (x : Rat) / (Ms : Rat)) (ha : 0 ≤ a) (ha4 : a ≤ 1 / 4) (hza : z = a ∨ z = -a) (hc : 0 ≤ c) (hcc : 1 / 2 + a * c ≤ c) :
    EL z (1 + ((eS x Ms T (T - 1) : Rat) + c + (Ms : Rat) * (5 / 4 * mz (T + 1) a)) / (Ms : Rat)) ∧
    EG z (1 + ((eS x Ms T (T - 1) : Rat) - c - (Ms : Rat) * (5 / 4 * mz (T + 1) a)) / (Ms : Rat)) := by
  have hM' := castpos hM
  obtain ⟨n, rfl⟩ : ∃ n, T = n + 1 := ⟨T - 1, by omega⟩
  obtain ⟨e1, e2⟩ := eS_err (x := x) (T := ((n + 1 : Nat) : Int)) hM (by omega) hz hc ha (show -a ≤ z by grind) (show z ≤ a by grind) hcc n (by omega)
  have hl := hS_last z (T := n + 1) (by omega)
  have en : n + 1 - 1 = n := by omega
  rw [en] at hl ⊢
  rw [hl] at e1 e2
  obtain ⟨t1, t2⟩ := exp_taylor ha ha4 hza n
  exact ⟨t1.mono (base_alg_up hM' e1), t2.mono (base_alg_dn hM' (mz_nn ha _) e2)⟩

theorem absz {x Ms : Int} (hM : 0 < Ms) : ∃ a : Rat, 0 ≤ a ∧ ((x : Rat) / (Ms : Rat) = a ∨ (x : Rat) / (Ms : Rat) = -a) ∧ a * (Ms : Rat) = ((x.natAbs : Int) : Rat) := by
  have hM' := castpos hM
  rcases Int.le_total 0 x with h | h
  · refine ⟨(x : Rat) / (Ms : Rat), div_nn (castnn h) hM', .inl rfl, ?_⟩
    have e : ((x.natAbs : Int)) = x := by omega
    rw [e]
    exact Rat.div_mul_cancel (by grind)
  · refine ⟨-((x : Rat) / (Ms : Rat)), ?_, .inr (by grind), ?_⟩
    · have := castle h
      have k : (x : Rat) / (Ms : Rat) ≤ 0 := div_le hM' (by grind)
      grind
    · have e : ((x.natAbs : Int)) = -x := by omega
      rw [e]
      have e2 : ((-x : Int) : Rat) = -(x : Rat) := by push_cast; rfl
      rw [e2]
      have := Rat.div_mul_cancel (a := (x : Rat)) (b := (Ms : Rat)) (by grind)
      grind

/-- what the series of _iexp leaves out, by the length of x -/
theorem rest_le {M Ms L : Int} {a X : Rat} {m : Nat} (hM : 0 < M) (hMs : 0 < Ms) (hL : 0 < L) (ha : 0 ≤ a) (h : a * (2 : Rat) ^ L.toNat ≤ 1) (hX : a * (Ms : Rat) = X) (hm : m ≤ (tOf M L).toNat + 1) :
    (Ms : Rat) * (5 / 4 * mz ((tOf M L).toNat + 1) a) * fc m * (M : Rat) ≤ 5 / 4 * X := by
  have h1 := pow_small_M hM hL ha h
  have h2 := mz_le_pow ha hm
  rw [Rat.pow_succ] at h2
  have hMs' := castpos hMs
  have hM' := castpos hM
  generalize a ^ (tOf M L).toNat = p at *
  generalize mz ((tOf M L).toNat + 1) a = u at *
  generalize fc m = f at *
  generalize (Ms : Rat) = S at *
  generalize (M : Rat) = N at *
  -- S * 5/4 u f N ≤ 5/4 S p a N ≤ 5/4 S a
  have k1 := Rat.mul_le_mul_of_nonneg_left h2 (Rat.mul_nonneg (Rat.le_of_lt hMs') (Rat.le_of_lt hM'))
  have k2 := Rat.mul_le_mul_of_nonneg_left h1 (Rat.mul_nonneg (Rat.le_of_lt hMs') ha)
  grind

end Mine

namespace Mine
open PySem.Builtin.Int (intBits)
open Ex

theorem two_pow_rat (n : Nat) : ((2 ^ n : Int) : Rat) = (2 : Rat) ^ n := by push_cast; rfl

end Mine

namespace Mine
open PySem.Builtin.Int (intBits)
open Ex

end Mine

namespace Mine
open PySem.Builtin.Int (intBits)
open Ex

theorem eS_all {x Ms T c : Int} (x1 : -c ≤ x) (x2 : x ≤ c) (hx : c ≤ Ms) (hMs : 0 < Ms) (hT : 1 ≤ T) (j : Nat) (hj : (j : Int) < T) : -(2 * c) ≤ eS x Ms T j ∧ eS x Ms T j ≤ 2 * c := by
  rcases j with _ | j
  · have := eS_le (T := T) x1 x2 hx hMs hT 0 (.inr rfl)
    omega
  · obtain ⟨e1, e2⟩ := eS_le (T := T) x1 x2 hx hMs hT j (by omega)
    rw [eS_succ]
    generalize eS x Ms T j = y at *
    have hi : 1 ≤ T - 1 - (j : Int) := by omega
    generalize T - 1 - (j : Int) = i at *
    have hc : 0 ≤ c := by omega
    obtain ⟨m1, m2⟩ := mul_abs x1 x2 e1 e2
    have p1 := Int.mul_le_mul_of_nonneg_right x1 (Int.le_of_lt hMs)
    have p2 := Int.mul_le_mul_of_nonneg_right x2 (Int.le_of_lt hMs)
    have p3 := Int.mul_le_mul_of_nonneg_left hx hc
    have p4 := Int.mul_le_mul_of_nonneg_left hi (Int.mul_nonneg hc (Int.le_of_lt hMs))
    exact divN_abs (Int.mul_pos hMs (by omega)) (by grind) (by grind)

/-- what is asked of the scale, the counts and the distance -/
structure Asked (M b d L₁ L₂ : Int) : Prop where
  m : 1000 * 2 ^ (b.toNat + 1) ≤ M
  d : (d.natAbs : Int) * 2 ^ (b.toNat + 1) ≤ M
  l1 : 3 ≤ L₁
  l1b : L₁ ≤ b
  l2 : 3 ≤ L₂
  l2b : L₂ ≤ b
  mb : intBits M ≤ 200

theorem pow_le_int {m n : Nat} (h : m ≤ n) : (2 : Int) ^ m ≤ 2 ^ n := by
  have h1 : (2 : Nat) ^ m ≤ 2 ^ n := Nat.pow_le_pow_right (by decide) h
  have e1 : ((2 ^ m : Nat) : Int) = 2 ^ m := Int.natCast_pow 2 _
  have e2 : ((2 ^ n : Nat) : Int) = 2 ^ n := Int.natCast_pow 2 _
  omega
/-- a number little more than the distance is small too -/
theorem small_of {M b d L x : Int} (hm : 1000 * 2 ^ (b.toNat + 1) ≤ M) (hd : (d.natAbs : Int) * 2 ^ (b.toNat + 1) ≤ M) (hL : 0 ≤ L) (hLb : L ≤ b) (hx : 8 * (x.natAbs : Int) ≤ 9 * (d.natAbs : Int) + 9) :
    (x.natAbs : Int) * 2 ^ L.toNat * 4 ≤ 3 * M := by
  have e : (2 : Int) ^ (b.toNat + 1) = 2 * 2 ^ b.toNat := by rw [Int.pow_succ]; omega
  rw [e] at hm hd
  have h1 := pow_le_int (show L.toNat ≤ b.toNat by omega)
  have h2 := two_pow_pos L.toNat
  have h3 := Int.mul_le_mul_of_nonneg_left h1 (show 0 ≤ (x.natAbs : Int) by omega)
  have h4 := Int.mul_le_mul_of_nonneg_right hx (show 0 ≤ (2 : Int) ^ b.toNat by omega)
  generalize (2 : Int) ^ b.toNat = p at *
  generalize (2 : Int) ^ L.toNat = q at *
  generalize (x.natAbs : Int) = X at *
  generalize (d.natAbs : Int) = D at *
  grind

theorem Asked.small {M b d L₁ L₂ : Int} (A : Asked M b d L₁ L₂) : (d.natAbs : Int) * 2 ^ L₁.toNat * 4 ≤ 3 * M ∧ (d.natAbs : Int) * 2 ^ L₂.toNat * 4 ≤ 3 * M := by
  have a := A.m; have b' := A.d; have c := A.l1; have d' := A.l1b; have e := A.l2; have f := A.l2b
  exact ⟨small_of A.m A.d (by omega) A.l1b (by omega), small_of A.m A.d (by omega) A.l2b (by omega)⟩
theorem Asked.big {M b d L₁ L₂ : Int} (A : Asked M b d L₁ L₂) : 16000 ≤ M ∧ 16 * (d.natAbs : Int) ≤ M := by
  have a := A.m; have d' := A.d; have c := A.l1; have e := A.l1b
  have h := pow_le_int (show 4 ≤ b.toNat + 1 by omega)
  have h4 : (2 : Int) ^ 4 = 16 := by decide
  rw [h4] at h
  have h2 := Int.mul_le_mul_of_nonneg_left h (show 0 ≤ (d.natAbs : Int) by omega)
  constructor
  · omega
  · omega
end Mine

namespace Mine
open PySem.Builtin.Int (intBits)

/-- what the contract of _iexp asks -/
structure PreE (M x L : Int) : Prop where
  b : intBits x ≤ 2000
  r : rOf M x L ≤ 1000
  e : ∀ j : Nat, (j : Int) < tOf M L → intBits (eS x (M * 2 ^ rOf M x L) (tOf M L) j) ≤ 3000
  d : ∀ j : Nat, j ≤ rOf M x L → intBits (dS M (rOf M x L) (iexpY M x L) j) ≤ 3000
/-- what the contract of _ilog asks -/
structure PreL (M x L : Int) (R₁ : Nat) : Prop where
  go : ∀ R < R₁, Halves M L (yH M x R) R ∧ 0 < M + divN (yH M x R) (2 ^ R)
  stop : ¬ Halves M L (yH M x R₁) R₁
  y : ∀ R ≤ R₁, intBits (yH M x R) ≤ 3000
  w : ∀ j : Nat, (j : Int) < tOf M L → intBits (wS M (divN (yH M x R₁) (2 ^ R₁)) (tOf M L) j) ≤ 3000

end Mine

namespace Mine
open PySem.Builtin.Int (intBits)
open Ex

theorem P_int (n : Nat) : ((2 ^ n : Int) : Rat) = P n := by rw [two_pow_rat]; rfl

/-- the scale behind j of R doublings -/
def sc (M : Int) (R j : Nat) : Rat := (M : Rat) * P (R - j)
theorem sc_pos {M : Int} (hM : 0 < M) (R j : Nat) : 0 < sc M R j := Rat.mul_pos (castpos hM) (P_pos _)
theorem sc_succ {M : Int} {R j : Nat} (h : j < R) : sc M R (j + 1) = sc M R j / 2 := by
  unfold sc
  have e : R - j = (R - (j + 1)) + 1 := by omega
  rw [e, P_succ]
  grind
theorem sc_last {M : Int} {R : Nat} : sc M R R = (M : Rat) := by
  unfold sc
  rw [Nat.sub_self, P_zero]
  grind
theorem sc_ge {M : Int} (hM : 0 < M) {R j : Nat} : (M : Rat) ≤ sc M R j := by
  unfold sc
  have h := Rat.mul_le_mul_of_nonneg_left (P_ge1 (R - j)) (Rat.le_of_lt (castpos hM))
  grind

theorem half_half (x s : Rat) (hs : 0 < s) : x / (s / 2) = x / s + x / s := by grind

theorem dS_rat {M Y : Int} {R j : Nat} (hM : 0 < M) (hj : j < R) :
    (dS M R Y j : Rat) * ((dS M R Y j : Rat) + 2 * sc M R j) / (2 * sc M R j) - 1 / 2 ≤ (dS M R Y (j + 1) : Rat) ∧
    (dS M R Y (j + 1) : Rat) ≤ (dS M R Y j : Rat) * ((dS M R Y j : Rat) + 2 * sc M R j) / (2 * sc M R j) + 1 / 2 := by
  rw [dS_succ]
  generalize dS M R Y j = y
  have hp : 0 < M * 2 ^ (R - 1 - j + 2) := shl_pos hM _
  have d := divN_rat (a := y * (y + M * 2 ^ (R - 1 - j + 2))) (b := M * 2 ^ (R - 1 - j + 2)) hp
  have e : ((M * 2 ^ (R - 1 - j + 2) : Int) : Rat) = 2 * sc M R j := by
    rw [rat_mul_cast, P_int]
    unfold sc
    have e1 : R - 1 - j + 2 = (R - j) + 1 := by omega
    rw [e1, P_succ]
    grind
  rw [cast_mul3, e] at d
  exact d

theorem natAbs_bits {n : Int} : (n.natAbs : Int) < 2 ^ intBits n := by
  have h := intBits_le_iff.mp (Nat.le_refl (intBits n))
  have e : ((2 ^ intBits n : Nat) : Int) = 2 ^ intBits n := Int.natCast_pow 2 _
  omega
/-- what the doublings leave of x is below 2 ^ - L -/
theorem rOf_spec {M x L : Int} (hM : 0 < M) : (x.natAbs : Int) * 2 ^ L.toNat < M * 2 ^ rOf M x L := by
  have h := natAbs_bits (n := (x * 2 ^ L.toNat) / M)
  have h1 := Int.mul_ediv_add_emod (x * 2 ^ L.toNat) M
  have h2 := Int.emod_nonneg (x * 2 ^ L.toNat) (by omega : M ≠ 0)
  have h3 := Int.emod_lt_of_pos (x * 2 ^ L.toNat) hM
  have hp := two_pow_pos L.toNat
  unfold rOf
  generalize intBits ((x * 2 ^ L.toNat) / M) = r at *
  generalize (x * 2 ^ L.toNat) % M = m at *
  rcases Int.le_total 0 x with hx | hx
  · have e : (x.natAbs : Int) = x := by omega
    rw [e]
    have hxp := Int.mul_nonneg hx (Int.le_of_lt hp)
    have hq : 0 ≤ (x * 2 ^ L.toNat) / M := Int.ediv_nonneg hxp (by omega)
    generalize (x * 2 ^ L.toNat) / M = q at *
    have := Int.mul_le_mul_of_nonneg_left (show q + 1 ≤ 2 ^ r by omega) (Int.le_of_lt hM)
    grind
  · have e : (x.natAbs : Int) = -x := by omega
    rw [e]
    have hxp := Int.mul_nonneg (show 0 ≤ -x by omega) (Int.le_of_lt hp)
    have e2 : -x * 2 ^ L.toNat = -(x * 2 ^ L.toNat) := Int.neg_mul _ _
    rw [e2] at *
    generalize (x * 2 ^ L.toNat) / M = q at *
    generalize x * 2 ^ L.toNat = X at *
    have h5 : -q < 2 ^ r := by omega
    have := Int.mul_lt_mul_of_pos_left h5 hM
    grind

/-- the series, ahead of the doublings: w0 at least what it errs by -/
theorem iexp_start {M x L : Int} {c w0 : Rat} {a : Rat} (hM : 0 < M) (hL : 3 ≤ L) (a0 : 0 ≤ a) (az : (x : Rat) / sc M (rOf M x L) 0 = a ∨ (x : Rat) / sc M (rOf M x L) 0 = -a) (ha4 : a ≤ 1 / 4)
    (hc : 0 ≤ c) (hcc : 1 / 2 + a * c ≤ c) (hw : c + sc M (rOf M x L) 0 * (5 / 4 * mz ((tOf M L).toNat + 1) a) ≤ w0) :
    EL ((x : Rat) / sc M (rOf M x L) 0) (1 + ((iexpY M x L : Rat) + w0) / sc M (rOf M x L) 0) ∧ EG ((x : Rat) / sc M (rOf M x L) 0) (1 + ((iexpY M x L : Rat) - w0) / sc M (rOf M x L) 0) := by
  have hT := tOf_pos (M := M) (L := L) (by omega) (by omega)
  have hMs : 0 < M * 2 ^ rOf M x L := shl_pos hM _
  have es : ((M * 2 ^ rOf M x L : Int) : Rat) = sc M (rOf M x L) 0 := by
    rw [rat_mul_cast, P_int]; rfl
  have hs := sc_pos hM (rOf M x L) 0
  have key := iexp_base (x := x) (Ms := M * 2 ^ rOf M x L) (T := (tOf M L).toNat) (c := c) (z := (x : Rat) / sc M (rOf M x L) 0) hMs (by omega) (by rw [es]) a0 ha4 az hc hcc
  rw [es] at key
  have eY : iexpY M x L = eS x (M * 2 ^ rOf M x L) (((tOf M L).toNat : Nat) : Int) ((tOf M L).toNat - 1) := by
    unfold iexpY
    have e1 : (((tOf M L).toNat : Nat) : Int) = tOf M L := by omega
    have e2 : (tOf M L - 1).toNat = (tOf M L).toNat - 1 := by omega
    rw [e1, e2]
  rw [eY]
  obtain ⟨k1, k2⟩ := key
  generalize (eS x (M * 2 ^ rOf M x L) (((tOf M L).toNat : Nat) : Int) ((tOf M L).toNat - 1) : Rat) = E at *
  generalize sc M (rOf M x L) 0 * (5 / 4 * mz ((tOf M L).toNat + 1) a) = t at *
  generalize sc M (rOf M x L) 0 = s at *
  constructor
  · refine k1.mono ?_
    have := div_mono hs (show E + c + t ≤ E + w0 by grind)
    grind
  · refine k2.mono ?_
    have := div_mono hs (show E - w0 ≤ E - c - t by grind)
    grind

/-- x by the scale ahead of the doublings, without its sign -/
theorem abs_start {M x L : Int} (hM : 0 < M) : ∃ a : Rat, 0 ≤ a ∧ ((x : Rat) / sc M (rOf M x L) 0 = a ∨ (x : Rat) / sc M (rOf M x L) 0 = -a) ∧ a * sc M (rOf M x L) 0 = ((x.natAbs : Int) : Rat) ∧ a * (2 : Rat) ^ L.toNat ≤ 1 := by
  have hMs : 0 < M * 2 ^ rOf M x L := shl_pos hM _
  have es : ((M * 2 ^ rOf M x L : Int) : Rat) = sc M (rOf M x L) 0 := by
    rw [rat_mul_cast, P_int]; rfl
  obtain ⟨a, a0, az, am⟩ := absz (x := x) hMs
  have sp := rOf_spec (x := x) (L := L) hM
  have k := castle (Int.le_of_lt sp)
  rw [es] at az am k
  rw [rat_mul_cast, two_pow_rat, ← am] at k
  refine ⟨a, a0, az, am, ?_⟩
  have hs := sc_pos hM (rOf M x L) 0
  generalize sc M (rOf M x L) 0 = s at *
  generalize (2 : Rat) ^ L.toNat = p at *
  rcases Classical.em (a * p ≤ 1) with y | y
  · exact y
  · have := Rat.mul_lt_mul_of_pos_right (lt_of_not_le y) hs
    grind

end Mine

namespace Mine
open PySem.Builtin.Int (intBits)
open Ex

theorem iexpF_unit {M x L : Int} {w : Rat} (hM : 0 < M) : 1 + ((dS M (rOf M x L) (iexpY M x L) (rOf M x L) : Rat) + w) / (M : Rat) = ((iexpF M x L : Rat) + w) / (M : Rat) := by
  unfold iexpF
  have hM' := castpos hM
  have e : ((M + dS M (rOf M x L) (iexpY M x L) (rOf M x L) : Int) : Rat) = (M : Rat) + (dS M (rOf M x L) (iexpY M x L) (rOf M x L) : Rat) := by push_cast; rfl
  rw [e]
  generalize (dS M (rOf M x L) (iexpY M x L) (rOf M x L) : Rat) = y
  generalize (M : Rat) = N at *
  grind
theorem rOf_le_pos {M x L : Int} {n : Nat} (hM : 0 < M) (hx : 0 ≤ x) (h : x * 2 ^ L.toNat < M * 2 ^ n) : rOf M x L ≤ n := by
  unfold rOf
  refine intBits_le_iff.mpr ?_
  have hp := two_pow_pos L.toNat
  have h0 : 0 ≤ (x * 2 ^ L.toNat) / M := Int.ediv_nonneg (Int.mul_nonneg hx (Int.le_of_lt hp)) (Int.le_of_lt hM)
  have h1 : (x * 2 ^ L.toNat) / M < 2 ^ n := Int.ediv_lt_of_lt_mul hM (by rw [Int.mul_comm (2 ^ n) M]; exact h)
  have e : ((2 ^ n : Nat) : Int) = 2 ^ n := Int.natCast_pow 2 n
  omega
theorem rOf_le_neg {M x L : Int} {n : Nat} (hM : 0 < M) (hx : x ≤ 0) (h : -(x * 2 ^ L.toNat) ≤ M * (2 ^ n - 1)) : rOf M x L ≤ n := by
  unfold rOf
  refine intBits_le_iff.mpr ?_
  have hp := two_pow_pos L.toNat
  have h0 : (x * 2 ^ L.toNat) / M ≤ 0 := by
    have : (x * 2 ^ L.toNat) / M ≤ 0 / M := Int.ediv_le_ediv hM (by
      have := Int.mul_nonneg (show 0 ≤ -x by omega) (Int.le_of_lt hp)
      rw [Int.neg_mul] at this
      omega)
    rwa [Int.zero_ediv] at this
  have h1 : -(2 ^ n - 1) ≤ (x * 2 ^ L.toNat) / M := (Int.le_ediv_iff_mul_le hM).mpr (by
    have : -(2 ^ n - 1) * M = -(M * (2 ^ n - 1)) := by grind
    rw [this]; omega)
  have e : ((2 ^ n : Nat) : Int) = 2 ^ n := Int.natCast_pow 2 n
  omega

/-- sizes that the contract of _iexp asks -/
theorem preE_of {M x L : Int} {B : Int} (hM : 0 < M) (hMb : intBits M ≤ 300) (hL : 0 < L) (hR : rOf M x L ≤ 400) (hxb : intBits x ≤ 2000) (hB0 : 0 < B) (hB : intBits B ≤ 200)
    (h : ∀ j ≤ rOf M x L, -((B : Rat) * sc M (rOf M x L) j) ≤ (dS M (rOf M x L) (iexpY M x L) j : Rat) ∧ (dS M (rOf M x L) (iexpY M x L) j : Rat) ≤ (B : Rat) * sc M (rOf M x L) j) : PreE M x L := by
  have hMs : 0 < M * 2 ^ rOf M x L := shl_pos hM _
  have hMsb : intBits (M * 2 ^ rOf M x L) ≤ 701 := shl_bits hMb (by omega)
  have hT := tOf_pos (M := M) (L := L) (by omega) (by omega)
  refine ⟨hxb, by omega, fun j hj => ?_, fun j hj => ?_⟩
  · have sp := rOf_spec (x := x) (L := L) hM
    have hp := two_pow_ge1 L.toNat
    have h1 := Int.mul_le_mul_of_nonneg_left hp (show 0 ≤ (x.natAbs : Int) by omega)
    have := eS_all (x := x) (Ms := M * 2 ^ rOf M x L) (T := tOf M L) (c := M * 2 ^ rOf M x L) (by omega) (by omega) (by omega) hMs (by omega) j hj
    exact bits_mono (bits_abs (b := 2 * (M * 2 ^ rOf M x L)) (by omega) (by omega) (intBits_mul_le (m := 64) (PySem.intBits_le_64 (by decide) (by decide)) hMsb))
  · obtain ⟨a, b⟩ := h j hj
    have hs : sc M (rOf M x L) j ≤ sc M (rOf M x L) 0 := by
      unfold sc
      exact Rat.mul_le_mul_of_nonneg_left (P_mono (by omega)) (Rat.le_of_lt (castpos hM))
    have es : ((B * (M * 2 ^ rOf M x L) : Int) : Rat) = (B : Rat) * sc M (rOf M x L) 0 := by
      rw [rat_mul_cast, rat_mul_cast, P_int]; rfl
    have hB' := castpos hB0
    have k := Rat.mul_le_mul_of_nonneg_left hs (Rat.le_of_lt hB')
    have k1 : (dS M (rOf M x L) (iexpY M x L) j : Rat) ≤ ((B * (M * 2 ^ rOf M x L) : Int) : Rat) := by rw [es]; exact Rat.le_trans b k
    have k2 : ((-(B * (M * 2 ^ rOf M x L)) : Int) : Rat) ≤ (dS M (rOf M x L) (iexpY M x L) j : Rat) := by
      rw [Rat.intCast_neg, es]
      grind
    exact bits_mono (bits_abs (b := B * (M * 2 ^ rOf M x L)) (Rat.intCast_le_intCast.mp k2) (Rat.intCast_le_intCast.mp k1) (intBits_mul_le hB hMsb))

end Mine

namespace Mine
open PySem.Builtin.Int (intBits)
open Ex

end Mine

namespace Mine
open PySem.Builtin.Int (intBits)

end Mine

namespace Mine
open Ex

theorem dblL {q b c : Rat} (h : EL q b) (hc : b * b ≤ c) : EL (q + q) c := (EL.add h h).mono hc
end Mine

namespace Mine
open PySem.Builtin.Int (intBits)
open Ex

/-- a / b, cut -/
theorem ediv_rat {a b : Int} (hb : 0 < b) : ((a / b : Int) : Rat) ≤ (a : Rat) / (b : Rat) ∧ (a : Rat) / (b : Rat) < ((a / b : Int) : Rat) + 1 := by
  have h1 := Int.mul_ediv_add_emod a b
  have h2 := Int.emod_nonneg a (by omega : b ≠ 0)
  have h3 := Int.emod_lt_of_pos a hb
  have hb' := castpos hb
  generalize a / b = q at *
  generalize a % b = r at *
  have e : (a : Rat) = (b : Rat) * (q : Rat) + (r : Rat) := by rw [← h1]; push_cast; rfl
  have k2 := castnn h2
  have k3 : (r : Rat) < (b : Rat) := by exact_mod_cast h3
  rw [e]
  generalize (b : Rat) = b at *
  generalize (q : Rat) = q at *
  generalize (r : Rat) = r at *
  have e2 : (b * q + r) / b = q + r / b := by grind
  rw [e2]
  have k4 := div_nn k2 hb'
  have k5 : r / b < 1 := by
    rcases Classical.em (r / b < 1) with x | x
    · exact x
    · have := le_div_mul hb' (Rat.not_lt.mp x)
      grind
  constructor <;> grind

theorem EL3 : EL 3 64 := by
  have a := EL.quad (x := 3 / 8) (by decide +kernel)
  have b := dblL (c := 64) (dblL (dblL a Rat.le_refl) Rat.le_refl) (by decide +kernel)
  have e : (3 : Rat) / 8 + 3 / 8 + (3 / 8 + 3 / 8) + (3 / 8 + 3 / 8 + (3 / 8 + 3 / 8)) = 3 := by grind
  rw [e] at b
  exact b


/-- between two turns of the law's own bounds: j of n squarings are done -/
structure BInv (v : Rat) (one : Int) (n j : Nat) (low high : Int) : Prop where
  g : EG (v / P (n - j)) ((low : Rat) / (one : Rat))
  l : EL (v / P (n - j)) ((high : Rat) / (one : Rat))
  g1 : one ≤ low
  l1 : one ≤ high
  b : EG (3 / P (n - j) - 1 / (one : Rat)) ((high : Rat) / (one : Rat))

theorem one_le_rat {one a : Int} (ho : 0 < one) (h : one ≤ a) : 1 ≤ (a : Rat) / (one : Rat) := le_div (castpos ho) (by have := castle h; grind)
theorem le_64 {q : Rat} {a one : Int} (ho : 0 < one) (h : EG q ((a : Rat) / (one : Rat))) (hq : q ≤ 3) : a ≤ 64 * one := by
  have k := div_le_mul (castpos ho) ((h.exp_mono hq).le EL3)
  have e : ((64 * one : Int) : Rat) = 64 * (one : Rat) := by push_cast; rfl
  rw [← e] at k
  exact Rat.intCast_le_intCast.mp k
theorem BInv.bound {v : Rat} {one : Int} {n j : Nat} {low high : Int} (h : BInv v one n j low high) (ho : 0 < one) (v1 : v ≤ 1) : low ≤ 64 * one ∧ high ≤ 64 * one := by
  have p1 := P_ge1 (n - j)
  have p0 := P_pos (n - j)
  refine ⟨le_64 ho h.g ?_, le_64 ho h.b ?_⟩
  · have : v / P (n - j) ≤ 1 := div_le p0 (by grind)
    grind
  · have h1 : 3 / P (n - j) ≤ 3 := div_le p0 (by grind)
    have h2 := div_nn (show (0 : Rat) ≤ 1 by decide) (castpos ho)
    grind

theorem div_P_half (x : Rat) {n j : Nat} (h : j < n) : x / P (n - (j + 1)) = x / P (n - j) + x / P (n - j) := by
  have e : n - j = (n - (j + 1)) + 1 := by omega
  rw [e, P_succ]
  have := P_pos (n - (j + 1))
  generalize P (n - (j + 1)) = p at *
  grind

theorem BInv.turn {v : Rat} {one : Int} {n j : Nat} {low high : Int} (h : BInv v one n j low high) (ho : 0 < one) (hj : j < n) :
    BInv v one n (j + 1) (low * low / one) (-(-high * high / one)) := by
  have ho' := castpos ho
  have r1 := one_le_rat ho h.g1
  have r2 := one_le_rat ho h.l1
  obtain ⟨d1, d2⟩ := ediv_rat (a := low * low) ho
  obtain ⟨u1, u2⟩ := ediv_rat (a := -high * high) ho
  have eu : ((-high * high : Int) : Rat) = -((high : Rat) * (high : Rat)) := by push_cast; grind
  have en : ((-(-high * high / one) : Int) : Rat) = -((-high * high / one : Int) : Rat) := Rat.intCast_neg _
  rw [rat_mul_cast] at d1 d2
  rw [eu] at u1 u2
  have eh : ∀ x : Rat, x / (one : Rat) * (x / (one : Rat)) * (one : Rat) = x * x / (one : Rat) := fun x => by
    generalize (one : Rat) = o at *
    grind
  have hup : (high : Rat) / (one : Rat) * ((high : Rat) / (one : Rat)) ≤ ((-(-high * high / one) : Int) : Rat) / (one : Rat) := le_div ho' (by
    rw [en, eh]
    have : -((high : Rat) * (high : Rat)) / (one : Rat) = -((high : Rat) * (high : Rat) / (one : Rat)) := by
      generalize (one : Rat) = o at *
      grind
    rw [this] at u1
    grind)
  have hup2 : ((-(-high * high / one) : Int) : Rat) / (one : Rat) ≤ (high : Rat) / (one : Rat) * ((high : Rat) / (one : Rat)) + 1 / (one : Rat) := div_le ho' (by
    rw [en]
    have : -((high : Rat) * (high : Rat)) / (one : Rat) = -((high : Rat) * (high : Rat) / (one : Rat)) := by
      generalize (one : Rat) = o at *
      grind
    rw [this] at u2
    have e3 : ((high : Rat) / (one : Rat) * ((high : Rat) / (one : Rat)) + 1 / (one : Rat)) * (one : Rat) = (high : Rat) * (high : Rat) / (one : Rat) + 1 := by
      generalize (one : Rat) = o at *
      grind
    rw [e3]
    grind)
  have hlo : ((low * low / one : Int) : Rat) / (one : Rat) ≤ (low : Rat) / (one : Rat) * ((low : Rat) / (one : Rat)) := div_le ho' (by rw [eh]; exact d1)
  have g2 : one ≤ low * low / one := (Int.le_ediv_iff_mul_le ho).mpr (Int.mul_le_mul h.g1 h.g1 (Int.le_of_lt ho) (by have := h.g1; omega))
  have l2 : one ≤ -(-high * high / one) := by
    have : -high * high / one ≤ -one := by
      refine Int.le_of_lt_add_one (Int.ediv_lt_of_lt_mul ho ?_)
      have := Int.mul_le_mul h.l1 h.l1 (Int.le_of_lt ho) (by have := h.l1; omega)
      grind
    omega
  have e1 := div_P_half v hj
  have e3 := div_P_half 3 hj
  refine ⟨?_, ?_, g2, l2, ?_⟩
  · rw [e1]
    exact (EG.add h.g h.g (by grind)).mono hlo
  · rw [e1]
    exact (EL.add h.l h.l).mono hup
  · rw [e3]
    have k := EG.add (EG.add h.b h.b (by grind)) (EG.one_add (1 / (one : Rat))) (by have := div_pos (show (0 : Rat) < 1 by decide) ho'; grind)
    have e4 : 3 / P (n - j) - 1 / (one : Rat) + (3 / P (n - j) - 1 / (one : Rat)) + 1 / (one : Rat) = 3 / P (n - j) + 3 / P (n - j) - 1 / (one : Rat) := by grind
    rw [e4] at k
    refine k.mono (Rat.le_trans hup2 ?_)
    have hh : 1 ≤ (high : Rat) / (one : Rat) * ((high : Rat) / (one : Rat)) := by
      have := Rat.mul_le_mul_of_nonneg_left r2 (show 0 ≤ (high : Rat) / (one : Rat) by grind)
      grind
    have := Rat.mul_le_mul_of_nonneg_right hh (div_nn (show (0 : Rat) ≤ 1 by decide) ho')
    generalize (high : Rat) / (one : Rat) * ((high : Rat) / (one : Rat)) = H at *
    grind

end Mine

namespace Mine
open PySem.Builtin.Int (intBits)
open Ex

end Mine

namespace Mine
open PySem.Builtin.Int (intBits)
/-- what the law's own bounds tell -/
structure BDone (c k p low high : Int) : Prop where
  g : Ex.EG ((c : Rat) / ((10 ^ k.toNat : Int) : Rat)) ((low : Rat) / ((10 ^ (2 * p + 16).toNat : Int) : Rat))
  l : Ex.EL ((c : Rat) / ((10 ^ k.toNat : Int) : Rat)) ((high : Rat) / ((10 ^ (2 * p + 16).toNat : Int) : Rat))
  g1 : 10 ^ (2 * p + 16).toNat ≤ low
  l1 : 10 ^ (2 * p + 16).toNat ≤ high
  g2 : low ≤ 64 * 10 ^ (2 * p + 16).toNat
  l2 : high ≤ 64 * 10 ^ (2 * p + 16).toNat
theorem BDone.of {c k p one low high : Int} {n : Nat} (h : BInv ((c : Rat) / ((10 ^ k.toNat : Int) : Rat)) one n n low high) (h1 : low ≤ 64 * one) (h2 : high ≤ 64 * one) (ho : 10 ^ (2 * p + 16).toNat = one) (hpos : 0 < one) : BDone c k p low high := by
  subst ho
  have g := h.g
  have l := h.l
  rw [Nat.sub_self, Ex.P_zero] at g l
  have e : ∀ x : Rat, x / 1 = x := fun x => by grind
  rw [e] at g l
  exact ⟨g, l, h.g1, h.l1, h1, h2⟩
end Mine

namespace Mine
open PySem.Builtin.Int (intBits)
open Ex

end Mine

namespace Mine
open PySem.Builtin.Int (intBits)
open Ex

end Mine

namespace Mine
open PySem.Builtin.Int (intBits)
open Ex

/-- 1 by (1 + t / 32) to the 32: no less than exp(-t) -/
def wq (t : Rat) : Rat := 1 / (1 + t / 32) ^ 32
theorem P5 : P 5 = 32 := by decide +kernel
theorem sq5 (u : Rat) : sq 5 u = u ^ 32 := by
  show sq 0 _ = _ <;> simp only [sq] <;> grind
theorem wq_EG {t : Rat} (h : 0 < 1 + t / 32) : EG t (1 / wq t) := fun c hc => by
  have k := hc 5 (by show 0 ≤ 1 + t / P 5; rw [P5]; exact Rat.le_of_lt h)
  have e : ap t 5 = (1 + t / 32) ^ 32 := by
    show sq 5 (1 + t / P 5) = _
    rw [P5, sq5]
  rw [e] at k
  unfold wq
  have e2 : (1 : Rat) / (1 / (1 + t / 32) ^ 32) = (1 + t / 32) ^ 32 := by
    have := Rat.pow_pos (n := 32) h
    grind
  rw [e2]
  exact k
theorem wq_pos {t : Rat} (h : 0 < 1 + t / 32) : 0 < wq t := div_pos (by decide) (Rat.pow_pos h)
theorem wq_le {t v B : Rat} (h : 0 < v) (h1 : v ≤ 1 + t / 32) (hB : 1 ≤ B * v ^ 32) (hB0 : 0 ≤ B) : wq t ≤ B := by
  have hp := Rat.pow_pos (n := 32) (show 0 < 1 + t / 32 by grind)
  refine div_le hp ?_
  have k := Rat.mul_le_mul_of_nonneg_left (pow_le_pow' (Rat.le_of_lt h) h1 32) hB0
  exact Rat.le_trans hB k

/-- η g' is a half at least -/
theorem eta_half {g2 g' e W r η : Rat} (he : 0 < e) (he2 : e ≤ 1 / 1000000) (hW : 0 < W) (hW2 : W ≤ 13) (hr : 0 ≤ r) (hr2 : r ≤ 64) (hη : η = W / 2 + 462 * e)
    (h1 : 1 / W ≤ g2 * ((1 + r * e / 2) * (1 + r * e / 2))) (h2 : g2 - e / 2 ≤ g') (hg2 : 0 ≤ g2) : 1 / 2 ≤ η * g' := by
  -- (1 + u)^2 (1 - 2 u) ≤ 1
  have re0 : 0 ≤ r * e := Rat.mul_nonneg hr (Rat.le_of_lt he)
  have re1 : r * e ≤ 64 * e := Rat.mul_le_mul_of_nonneg_right hr2 (Rat.le_of_lt he)
  have hWg : 1 ≤ W * (g2 * ((1 + r * e / 2) * (1 + r * e / 2))) := by
    have := Rat.mul_le_mul_of_nonneg_left h1 (Rat.le_of_lt hW)
    have e1 : W * (1 / W) = 1 := by grind
    rwa [e1] at this
  generalize r * e = q at *
  have k1 : (1 + q / 2) * (1 + q / 2) * (1 - q) ≤ 1 := by
    have a := Rat.mul_nonneg re0 re0
    have b := Rat.mul_nonneg a re0
    grind
  have Wg0 := Rat.mul_nonneg (Rat.le_of_lt hW) hg2
  -- 1 - q ≤ W g2
  have k2 : 1 - q ≤ W * g2 := by
    have m := Rat.mul_le_mul_of_nonneg_right hWg (show 0 ≤ 1 - q by grind)
    have m2 := Rat.mul_le_mul_of_nonneg_left k1 Wg0
    have e2 : W * (g2 * ((1 + q / 2) * (1 + q / 2))) * (1 - q) = W * g2 * ((1 + q / 2) * (1 + q / 2) * (1 - q)) := by grind
    rw [e2] at m
    grind
  -- W g' ≥ 1 - 64 e - 13 e / 2
  have k3 : 1 - 141 / 2 * e ≤ W * g' := by
    have m := Rat.mul_le_mul_of_nonneg_left h2 (Rat.le_of_lt hW)
    have m2 := Rat.mul_le_mul_of_nonneg_right hW2 (Rat.le_of_lt he)
    have e3 : W * (g2 - e / 2) = W * g2 - W * e / 2 := by grind
    rw [e3] at m
    generalize W * e = we at *
    generalize W * g2 = wg at *
    generalize W * g' = wg' at *
    grind
  have hg' : 0 ≤ g' := by
    have : 0 ≤ W * g' := by grind
    have hh := le_div hW (show 0 * W ≤ W * g' by grind)
    have e4 : W * g' / W = g' := by grind
    rwa [e4] at hh
  -- g' ≥ (1 - ..) / 13
  have k4 : 1 - 141 / 2 * e ≤ 13 * g' := Rat.le_trans k3 (Rat.mul_le_mul_of_nonneg_right hW2 hg')
  have k5 := Rat.mul_le_mul_of_nonneg_left k4 (show 0 ≤ 462 * e by grind)
  have ee : e * e ≤ 1 / 1000000 * e := Rat.mul_le_mul_of_nonneg_right he2 (Rat.le_of_lt he)
  have e5 : η * g' = W * g' / 2 + 462 * e * g' := by rw [hη]; grind
  rw [e5]
  have e6 : 462 * e * (1 - 141 / 2 * e) = 462 * e - 32571 * (e * e) := by grind
  rw [e6] at k5
  have e7 : 462 * e * (13 * g') = 13 * (462 * e * g') := by grind
  rw [e7] at k5
  generalize 462 * e * g' = z at *
  generalize e * e = ee' at *
  generalize W * g' = wg' at *
  grind

theorem up_alg {e r η W κ : Rat} (he : 0 < e) (he2 : e ≤ 1 / 1000000) (hW : 0 < W) (hW2 : W ≤ 13) (hr : 0 ≤ r) (hr2 : r ≤ 64) (hη : η = W / 2 + 462 * e) (hκ : 1 / 400 ≤ κ) :
    (1 + η * e) * ((1 + r * e / 2) * (1 + r * e / 2)) ≤ 1 + (r + W / 2 + κ) * e := by
  have η0 : 0 ≤ η := by grind
  have η7 : η ≤ 7 := by grind
  have a1 : η * r ≤ 448 := by
    have m1 := Rat.mul_le_mul_of_nonneg_right η7 hr
    grind
  have a2 : r * r ≤ 4096 := by
    have m1 := Rat.mul_le_mul_of_nonneg_right hr2 hr
    grind
  have a3 : η * r * r ≤ 28672 := by
    have m1 := Rat.mul_le_mul_of_nonneg_right a1 hr
    grind
  have e1 : (1 + η * e) * ((1 + r * e / 2) * (1 + r * e / 2)) = 1 + (η + r + (η * r + r * r / 4 + η * r * r * e / 4) * e) * e := by grind
  rw [e1]
  have b1 : η * r * r * e ≤ 28672 * e := Rat.mul_le_mul_of_nonneg_right a3 (Rat.le_of_lt he)
  have b2 : (η * r + r * r / 4 + η * r * r * e / 4) * e ≤ 1500 * e := Rat.mul_le_mul_of_nonneg_right (by
    generalize η * r * r * e = z at *
    generalize η * r = y at *
    generalize r * r = x at *
    grind) (Rat.le_of_lt he)
  have b3 : η + r + (η * r + r * r / 4 + η * r * r * e / 4) * e ≤ r + W / 2 + κ := by
    generalize (η * r + r * r / 4 + η * r * r * e / 4) * e = z at *
    grind
  have := Rat.mul_le_mul_of_nonneg_right b3 (Rat.le_of_lt he)
  grind

theorem dn_alg {e r η W κ : Rat} (he : 0 < e) (he2 : e ≤ 1 / 1000000) (hW : 0 < W) (hr : 0 ≤ r) (hη : η = W / 2 + 462 * e) (hκ : 1 / 400 ≤ κ) (h1 : η * e ≤ 1) :
    1 - (r + W / 2 + κ) * e ≤ (1 - η * e) * ((1 - r * e / 2) * (1 - r * e / 2)) := by
  have η0 : 0 ≤ η := by grind
  have re := Rat.mul_nonneg hr (Rat.le_of_lt he)
  have ηe := Rat.mul_nonneg η0 (Rat.le_of_lt he)
  have k1 : 1 - r * e ≤ (1 - r * e / 2) * (1 - r * e / 2) := by
    have := sq_nonneg (r * e)
    grind
  have k2 := Rat.mul_le_mul_of_nonneg_left k1 (show 0 ≤ 1 - η * e by grind)
  have k3 := Rat.mul_nonneg ηe re
  have k4 : (r + W / 2 + κ) * e ≥ (r + η) * e := Rat.mul_le_mul_of_nonneg_right (by grind) (Rat.le_of_lt he)
  generalize (1 - r * e / 2) * (1 - r * e / 2) = z at *
  have e2 : (1 - η * e) * (1 - r * e) = 1 - (r + η) * e + η * e * (r * e) := by grind
  rw [e2] at k2
  grind

/-- one doubling, relative, for both signs: W is no less than exp(-x / (s / 2)) -/
theorem wt_step {Y Y' s r W κ q : Rat} (hs : 2000000 ≤ s) (hr : 0 ≤ r) (hr2 : r ≤ 64) (hW : 0 < W) (hW2 : W ≤ 13) (hκ : 1 / 400 ≤ κ)
    (d1 : Y * (Y + 2 * s) / (2 * s) - 1 / 2 ≤ Y') (d2 : Y' ≤ Y * (Y + 2 * s) / (2 * s) + 1 / 2)
    (h1 : EL q ((1 + Y / s) * (1 + r / s))) (h2 : EG q ((1 + Y / s) * (1 - r / s))) (hWq : EG (q + q) (1 / W)) :
    EL (q + q) ((1 + Y' / (s / 2)) * (1 + (r + W / 2 + κ) / (s / 2))) ∧ EG (q + q) ((1 + Y' / (s / 2)) * (1 - (r + W / 2 + κ) / (s / 2))) := by
  have hs0 : 0 < s := by grind
  obtain ⟨e, he⟩ : ∃ e, e = 1 / (s / 2) := ⟨_, rfl⟩
  have hes : e * s = 2 := by grind
  have he0 : 0 < e := by rw [he]; exact div_pos (by decide) (by grind)
  have he2 : e ≤ 1 / 1000000 := by rw [he]; exact div_le (by grind) (by grind)
  have er : r / s = r * e / 2 := by grind
  have eR : (r + W / 2 + κ) / (s / 2) = (r + W / 2 + κ) * e := by grind
  rw [er] at h1 h2
  rw [eR]
  have re0 : 0 ≤ r * e := Rat.mul_nonneg hr (Rat.le_of_lt he0)
  have re1 : r * e ≤ 64 * e := Rat.mul_le_mul_of_nonneg_right hr2 (Rat.le_of_lt he0)
  have hg : 0 < 1 + Y / s := by
    have p := h1.pos
    refine Classical.byContradiction fun hn => ?_
    have hn' : 1 + Y / s ≤ 0 := Rat.not_lt.mp hn
    have := Rat.mul_le_mul_of_nonneg_right hn' (show 0 ≤ 1 + r * e / 2 by grind)
    grind
  have g2e : (1 + Y / s) * (1 + Y / s) = 1 + (Y * (Y + 2 * s) / (2 * s)) / (s / 2) := by grind
  have hg2 := Rat.mul_pos hg hg
  have g1 : (1 + Y / s) * (1 + Y / s) - e / 2 ≤ 1 + Y' / (s / 2) := by
    have := div_mono (show 0 < s / 2 by grind) d1
    rw [g2e]; grind
  have g3 : 1 + Y' / (s / 2) ≤ (1 + Y / s) * (1 + Y / s) + e / 2 := by
    have := div_mono (show 0 < s / 2 by grind) d2
    rw [g2e]; grind
  have hLL := EL.add h1 h1
  have eL : (1 + Y / s) * (1 + r * e / 2) * ((1 + Y / s) * (1 + r * e / 2)) = (1 + Y / s) * (1 + Y / s) * ((1 + r * e / 2) * (1 + r * e / 2)) := by grind
  rw [eL] at hLL
  have hGG := EG.add h2 h2 (Rat.mul_pos hg (by grind))
  have eG : (1 + Y / s) * (1 - r * e / 2) * ((1 + Y / s) * (1 - r * e / 2)) = (1 + Y / s) * (1 + Y / s) * ((1 - r * e / 2) * (1 - r * e / 2)) := by grind
  rw [eG] at hGG
  have hw := hWq.le hLL
  generalize 1 + Y' / (s / 2) = g' at *
  generalize (1 + Y / s) * (1 + Y / s) = g2 at *
  obtain ⟨η, hη⟩ : ∃ η, η = W / 2 + 462 * e := ⟨_, rfl⟩
  have half := eta_half he0 he2 hW hW2 hr hr2 hη hw g1 (Rat.le_of_lt hg2)
  have half' := Rat.mul_le_mul_of_nonneg_right half (Rat.le_of_lt he0)
  have eh : η * g' * e = g' * (η * e) := by grind
  rw [eh] at half'
  have η7 : η ≤ 7 := by grind
  have η0 : 0 ≤ η := by grind
  have ηe : η * e ≤ 1 := by
    have := Rat.mul_le_mul_of_nonneg_right η7 (Rat.le_of_lt he0)
    grind
  have hg' : 0 ≤ g' := Classical.byContradiction fun hn => by
    have hn' : g' ≤ 0 := by grind
    have := Rat.mul_le_mul_of_nonneg_left hn' η0
    grind
  constructor
  · refine hLL.mono ?_
    have u := up_alg he0 he2 hW hW2 hr hr2 hη hκ
    have u2 := Rat.mul_le_mul_of_nonneg_left u hg'
    have sqn : 0 ≤ (1 + r * e / 2) * (1 + r * e / 2) := sq_nonneg _
    have u3 := Rat.mul_le_mul_of_nonneg_right (show g2 ≤ g' * (1 + η * e) by grind) sqn
    have e3 : g' * (1 + η * e) * ((1 + r * e / 2) * (1 + r * e / 2)) = g' * ((1 + η * e) * ((1 + r * e / 2) * (1 + r * e / 2))) := by grind
    rw [e3] at u3
    exact Rat.le_trans u3 u2
  · refine hGG.mono ?_
    have u := dn_alg he0 he2 hW hr hη hκ ηe
    have u2 := Rat.mul_le_mul_of_nonneg_left u hg'
    have sqn : 0 ≤ (1 - r * e / 2) * (1 - r * e / 2) := sq_nonneg _
    have u3 := Rat.mul_le_mul_of_nonneg_right (show g' * (1 - η * e) ≤ g2 by grind) sqn
    have e3 : g' * (1 - η * e) * ((1 - r * e / 2) * (1 - r * e / 2)) = g' * ((1 - η * e) * ((1 - r * e / 2) * (1 - r * e / 2))) := by grind
    rw [e3] at u3
    exact Rat.le_trans u2 u3

end Mine

namespace Mine
open PySem.Builtin.Int (intBits)
open Ex

/-- what k doublings add, from the last one back -/
def wSum (x M : Int) : Nat → Rat
  | 0 => 0
  | k + 1 => wSum x M k + wq ((x : Rat) / ((M : Rat) * P k)) / 2

theorem arg_ge {x M : Int} (hM : 0 < M) (hx : -(12 * M) ≤ 5 * x) (k : Nat) : -(12 / 5) ≤ (x : Rat) / ((M : Rat) * P k) ∧ (1 ≤ k → -(6 / 5) ≤ (x : Rat) / ((M : Rat) * P k)) := by
  have hM0 := castpos hM
  have hx' : -(12 * (M : Rat)) ≤ 5 * (x : Rat) := by exact_mod_cast hx
  have hP := P_ge1 k
  have hpos := Rat.mul_pos hM0 (P_pos k)
  have m := Rat.mul_le_mul_of_nonneg_left hP (Rat.le_of_lt hM0)
  constructor
  · exact le_div hpos (by grind)
  · intro hk
    have hP2 : 2 ≤ P k := by
      have := P_mono hk
      have e : P 1 = 2 := by decide +kernel
      grind
    have m2 := Rat.mul_le_mul_of_nonneg_left hP2 (Rat.le_of_lt hM0)
    exact le_div hpos (by grind)
theorem w13 : (1 : Rat) ≤ 13 * (37 / 40) ^ 32 := by decide +kernel
theorem w8 : (1 : Rat) ≤ 8 * (77 / 80) ^ 32 := by decide +kernel
theorem wk_pos {x M : Int} (hM : 0 < M) (hx : -(12 * M) ≤ 5 * x) (k : Nat) : 0 < 1 + (x : Rat) / ((M : Rat) * P k) / 32 := by
  have := (arg_ge hM hx k).1
  grind
theorem wk_le {x M : Int} (hM : 0 < M) (hx : -(12 * M) ≤ 5 * x) (k : Nat) : wq ((x : Rat) / ((M : Rat) * P k)) ≤ 13 ∧ (1 ≤ k → wq ((x : Rat) / ((M : Rat) * P k)) ≤ 8) := by
  obtain ⟨a, b⟩ := arg_ge hM hx k
  exact ⟨wq_le (v := 37 / 40) (by decide +kernel) (by grind) w13 (by decide), fun hk => wq_le (v := 77 / 80) (by decide +kernel) (by have := b hk; grind) w8 (by decide)⟩
theorem wSum_mono {x M : Int} (hM : 0 < M) (hx : -(12 * M) ≤ 5 * x) {m n : Nat} (h : m ≤ n) : wSum x M m ≤ wSum x M n := by
  induction h with
  | refl => exact Rat.le_refl
  | step _ ih =>
    rename_i n _
    show _ ≤ wSum x M n + _
    have := wq_pos (wk_pos hM hx n)
    grind
theorem wSum_le {x M : Int} (hM : 0 < M) (hx : -(12 * M) ≤ 5 * x) : ∀ k : Nat, wSum x M k ≤ 5 / 2 + 4 * (k : Rat)
  | 0 => by show (0 : Rat) ≤ 5 / 2 + 4 * ((0 : Nat) : Rat); decide +kernel
  | 1 => by
    show (0 : Rat) + _ ≤ 5 / 2 + 4 * ((1 : Nat) : Rat)
    have := (wk_le hM hx 0).1
    have e : ((1 : Nat) : Rat) = 1 := rfl
    rw [e]
    grind
  | k + 2 => by
    have ih := wSum_le hM hx (k + 1)
    have := (wk_le hM hx (k + 1)).2 (by omega)
    show wSum x M (k + 1) + _ ≤ _
    have e : ((k + 2 : Nat) : Rat) = ((k + 1 : Nat) : Rat) + 1 := by push_cast; grind
    rw [e]
    grind

/-- the base, relative -/
theorem rel_base {M s Y w r q X : Rat} (hM : 1000000 ≤ M) (hs : M ≤ s) (hq : -(1 / 8) ≤ q) (hX : 0 ≤ X) (hX2 : X ≤ 12) (hw : w = 4 / 7 + 5 / 96 * X) (hr : r = 6532 / 10000 + X / 16)
    (h1 : EL q (1 + (Y + w) / s)) (h2 : EG q (1 + (Y - w) / s)) : EL q ((1 + Y / s) * (1 + r / s)) ∧ EG q ((1 + Y / s) * (1 - r / s)) := by
  have hs0 : 0 < s := by grind
  have k := (EG.one_add q).le h1
  have e1 : (Y + w) / s = Y / s + w / s := by grind
  have e2 : (Y - w) / s = Y / s - w / s := by grind
  rw [e1] at k h1
  rw [e2] at h2
  have ws : w / s ≤ 1 / 500000 := div_le hs0 (by grind)
  have g : 8749 / 10000 ≤ 1 + Y / s := by grind
  have m : w ≤ r * (1 + Y / s) := by
    have := Rat.mul_le_mul_of_nonneg_left g (show 0 ≤ r by grind)
    grind
  have m2 := div_mono hs0 m
  have e3 : r * (1 + Y / s) / s = (1 + Y / s) * (r / s) := by grind
  rw [e3] at m2
  generalize Y / s = y at *
  generalize r / s = t at *
  generalize w / s = v at *
  constructor
  · exact h1.mono (by grind)
  · exact h2.mono (by grind)

theorem six_digs {M : Int} (hM : 1000000 ≤ M) : 7 ≤ digs M := by
  have h := M_lt_digs (M := M) (by omega)
  refine Classical.byContradiction fun hn => ?_
  have h2 : (digs M).toNat ≤ 6 := by omega
  have : (10 : Int) ^ (digs M).toNat ≤ 10 ^ 6 := (by exact_mod_cast Nat.pow_le_pow_right (show 0 < 10 by decide) h2)
  have e : (10 : Int) ^ 6 = 1000000 := by decide
  omega
theorem tOf3 {M L : Int} (hM : 1000000 ≤ M) (hL : 3 ≤ L) (hL2 : L ≤ 10) : 3 ≤ tOf M L := by
  have := six_digs hM
  unfold tOf
  have h1 := Int.ediv_mul_le (-10 * digs M) (show 3 * L ≠ 0 by omega)
  generalize -10 * digs M / (3 * L) = q at *
  refine Classical.byContradiction fun hn => ?_
  have h2 : -2 ≤ q := by omega
  have h3 : -2 * (3 * L) ≤ q * (3 * L) := Int.mul_le_mul_of_nonneg_right h2 (by omega)
  omega

theorem iexp_start_wt {M x L : Int} (hM : 1000000 ≤ M) (hL : 3 ≤ L) (hL2 : L ≤ 10) (hx2 : x ≤ 12 * M) (hx : -(12 * M) ≤ 5 * x) :
    let s := sc M (rOf M x L) 0
    let r := (6532 : Rat) / 10000 + ((x.natAbs : Int) : Rat) / (M : Rat) / 16
    EL ((x : Rat) / s) ((1 + (iexpY M x L : Rat) / s) * (1 + r / s)) ∧ EG ((x : Rat) / s) ((1 + (iexpY M x L : Rat) / s) * (1 - r / s)) := by
  have hM' : 0 < M := by omega
  have hM0 := castpos hM'
  have hM6 : (1000000 : Rat) ≤ (M : Rat) := castle hM
  obtain ⟨a, a0, az, aX, aL⟩ := abs_start (x := x) (L := L) hM'
  have hsM := sc_ge hM' (R := rOf M x L) (j := 0)
  have p8 : (8 : Rat) ≤ (2 : Rat) ^ L.toNat := by
    have e : (2 : Rat) ^ L.toNat = P L.toNat := rfl
    rw [e]
    have := P_mono (show 3 ≤ L.toNat by omega)
    have e3 : P 3 = 8 := by decide +kernel
    grind
  have a8 : a ≤ 1 / 8 := by
    have := Rat.mul_le_mul_of_nonneg_left p8 a0
    grind
  have hT := tOf3 hM hL hL2
  have X0 : (0 : Rat) ≤ ((x.natAbs : Int) : Rat) := castnn (by omega)
  have X12 : ((x.natAbs : Int) : Rat) ≤ 12 * (M : Rat) := by
    have : ((x.natAbs : Int)) ≤ 12 * M := by omega
    exact_mod_cast this
  have es : ((M * 2 ^ rOf M x L : Int) : Rat) = sc M (rOf M x L) 0 := by
    rw [rat_mul_cast, P_int]; unfold sc; rw [Nat.sub_zero]
  have rl := rest_le (M := M) (Ms := M * 2 ^ rOf M x L) (L := L) (a := a) (X := ((x.natAbs : Int) : Rat)) (m := 4) hM' (shl_pos hM' _) (by omega) a0 aL (by rw [es]; exact aX) (by omega)
  rw [es, fc4] at rl
  have hst := iexp_start (M := M) (x := x) (L := L) (c := 4 / 7) (w0 := 4 / 7 + 5 / 96 * (((x.natAbs : Int) : Rat) / (M : Rat))) hM' hL a0 az (by grind) (by decide +kernel) (by grind) (by
    have : sc M (rOf M x L) 0 * (5 / 4 * mz ((tOf M L).toNat + 1) a) ≤ 5 / 96 * ((x.natAbs : Int) : Rat) / (M : Rat) := le_div hM0 (by
      generalize sc M (rOf M x L) 0 * (5 / 4 * mz ((tOf M L).toNat + 1) a) = z at *
      have e : z * 24 * (M : Rat) = 24 * (z * (M : Rat)) := by grind
      rw [e] at rl
      grind)
    have e : 5 / 96 * ((x.natAbs : Int) : Rat) / (M : Rat) = 5 / 96 * (((x.natAbs : Int) : Rat) / (M : Rat)) := by grind
    rw [e] at this
    grind)
  refine rel_base (X := ((x.natAbs : Int) : Rat) / (M : Rat)) hM6 hsM ?_ (div_nn X0 hM0) (div_le hM0 X12) rfl rfl hst.1 hst.2
  rcases az with h | h <;> rw [h] <;> grind

/-- the doublings, relative, with weights -/
theorem wt_run {M x L : Int} (hM : 1000000 ≤ M) (hL : 3 ≤ L) (hL2 : L ≤ 10) (hx2 : x ≤ 12 * M) (hx : -(12 * M) ≤ 5 * x) (hR : rOf M x L ≤ 14) : ∀ j ≤ rOf M x L,
    EL ((x : Rat) / sc M (rOf M x L) j) ((1 + (dS M (rOf M x L) (iexpY M x L) j : Rat) / sc M (rOf M x L) j) * (1 + (6532 / 10000 + ((x.natAbs : Int) : Rat) / (M : Rat) / 16 + (j : Rat) * (1 / 400) + (wSum x M (rOf M x L) - wSum x M (rOf M x L - j))) / sc M (rOf M x L) j)) ∧
    EG ((x : Rat) / sc M (rOf M x L) j) ((1 + (dS M (rOf M x L) (iexpY M x L) j : Rat) / sc M (rOf M x L) j) * (1 - (6532 / 10000 + ((x.natAbs : Int) : Rat) / (M : Rat) / 16 + (j : Rat) * (1 / 400) + (wSum x M (rOf M x L) - wSum x M (rOf M x L - j))) / sc M (rOf M x L) j))
  | 0, _ => by
    have h := iexp_start_wt hM hL hL2 hx2 hx
    have e : (6532 : Rat) / 10000 + ((x.natAbs : Int) : Rat) / (M : Rat) / 16 + ((0 : Nat) : Rat) * (1 / 400) + (wSum x M (rOf M x L) - wSum x M (rOf M x L - 0)) = 6532 / 10000 + ((x.natAbs : Int) : Rat) / (M : Rat) / 16 := by
      have e0 : ((0 : Nat) : Rat) = 0 := rfl
      rw [e0, Nat.sub_zero]; grind
    rw [e]
    exact h
  | j + 1, hj => by
    obtain ⟨a, b⟩ := wt_run hM hL hL2 hx2 hx hR j (by omega)
    have hM' : 0 < M := by omega
    have hM0 := castpos hM'
    have hM6 : (1000000 : Rat) ≤ (M : Rat) := castle hM
    obtain ⟨d1, d2⟩ := dS_rat (Y := iexpY M x L) hM' (show j < rOf M x L by omega)
    have es := sc_succ (M := M) (R := rOf M x L) (j := j) (by omega)
    have hs1 := sc_ge hM' (R := rOf M x L) (j := j + 1)
    have ek : rOf M x L - j = (rOf M x L - (j + 1)) + 1 := by omega
    have eW : wSum x M (rOf M x L - j) = wSum x M (rOf M x L - (j + 1)) + wq ((x : Rat) / sc M (rOf M x L) (j + 1)) / 2 := by
      rw [ek]; rfl
    have wp := wq_EG (wk_pos hM' hx (rOf M x L - (j + 1)))
    have wpos := wq_pos (wk_pos hM' hx (rOf M x L - (j + 1)))
    have wle := (wk_le hM' hx (rOf M x L - (j + 1))).1
    have esc : (M : Rat) * P (rOf M x L - (j + 1)) = sc M (rOf M x L) (j + 1) := rfl
    rw [esc] at wp wpos wle
    have X0 : (0 : Rat) ≤ ((x.natAbs : Int) : Rat) := castnn (by omega)
    have X12 : ((x.natAbs : Int) : Rat) / (M : Rat) ≤ 12 := div_le hM0 (by
      have : ((x.natAbs : Int)) ≤ 12 * M := by omega
      exact_mod_cast this)
    have Xn := div_nn X0 hM0
    have sl := wSum_le hM' hx (rOf M x L)
    have sn : 0 ≤ wSum x M (rOf M x L - j) := wSum_mono hM' hx (Nat.zero_le _)
    have sm := wSum_mono hM' hx (show rOf M x L - j ≤ rOf M x L by omega)
    have r14 : ((rOf M x L : Nat) : Rat) ≤ 14 := by exact_mod_cast hR
    have j14 : ((j : Nat) : Rat) ≤ 14 := by
      have : j ≤ 14 := by omega
      exact_mod_cast this
    have j0 : (0 : Rat) ≤ (j : Rat) := by exact_mod_cast Nat.zero_le j
    have eq2 : (x : Rat) / sc M (rOf M x L) (j + 1) = (x : Rat) / sc M (rOf M x L) j + (x : Rat) / sc M (rOf M x L) j := by
      rw [es]; exact half_half _ _ (sc_pos hM' _ _)
    have wp' : EG ((x : Rat) / sc M (rOf M x L) j + (x : Rat) / sc M (rOf M x L) j) (1 / wq ((x : Rat) / sc M (rOf M x L) (j + 1))) := by rw [← eq2]; exact wp
    have st := wt_step (q := (x : Rat) / sc M (rOf M x L) j) (κ := 1 / 400) (by rw [es] at hs1; grind) (by grind) (by grind) wpos wle Rat.le_refl d1 d2 a b wp'
    rw [← es, ← eq2] at st
    have ej : ((j + 1 : Nat) : Rat) = (j : Rat) + 1 := by push_cast; rfl
    have er : 6532 / 10000 + ((x.natAbs : Int) : Rat) / (M : Rat) / 16 + (j : Rat) * (1 / 400) + (wSum x M (rOf M x L) - wSum x M (rOf M x L - j)) + wq ((x : Rat) / sc M (rOf M x L) (j + 1)) / 2 + 1 / 400 =
        6532 / 10000 + ((x.natAbs : Int) : Rat) / (M : Rat) / 16 + ((j + 1 : Nat) : Rat) * (1 / 400) + (wSum x M (rOf M x L) - wSum x M (rOf M x L - (j + 1))) := by
      rw [eW, ej]; grind
    rw [er] at st
    exact st

end Mine

namespace Mine
open PySem.Builtin.Int (intBits)
open Ex

theorem EL12 : EL 12 16777216 := by
  have h := EL.add (EL.add EL3 EL3) (EL.add EL3 EL3)
  have e1 : (3 : Rat) + 3 + (3 + 3) = 12 := by decide +kernel
  have e2 : (64 : Rat) * 64 * (64 * 64) = 16777216 := by decide +kernel
  rwa [e1, e2] at h

theorem rOf14 {M x L : Int} (hM : 1000000 ≤ M) (hL : 3 ≤ L) (hL2 : L ≤ 10) (hx2 : x ≤ 12 * M) (hx : -(12 * M) ≤ 5 * x) : rOf M x L ≤ 14 := by
  have p : (2 : Int) ^ L.toNat ≤ 1024 := by
    have : (2 : Nat) ^ L.toNat ≤ 2 ^ 10 := Nat.pow_le_pow_right (by decide) (by omega)
    have h : ((2 : Int) ^ L.toNat) = ((2 ^ L.toNat : Nat) : Int) := by push_cast; rfl
    omega
  have p0 := two_pow_pos L.toNat
  rcases Int.le_total 0 x with h | h
  · refine rOf_le_pos (by omega) h ?_
    have h1 := Int.mul_le_mul_of_nonneg_left p h
    have e : (2 : Int) ^ 14 = 16384 := by decide
    rw [e]
    omega
  · refine rOf_le_neg (by omega) h ?_
    have h1 := Int.mul_le_mul_of_nonneg_left p (show 0 ≤ -x by omega)
    have e : (2 : Int) ^ 14 = 16384 := by decide
    rw [e]
    have e2 : -x * 2 ^ L.toNat = -(x * 2 ^ L.toNat) := by rw [Int.neg_mul]
    omega

theorem run_bound2 {Y s r q : Rat} (hs : 1000000 ≤ s) (hr : 0 ≤ r) (hr2 : r ≤ 100) (hq : q ≤ 12) (h1 : EL q ((1 + Y / s) * (1 + r / s))) (h2 : EG q ((1 + Y / s) * (1 - r / s))) :
    0 < 1 + Y / s ∧ -((((2 : Int) ^ 26 : Int) : Rat) * s) ≤ Y ∧ Y ≤ (((2 : Int) ^ 26 : Int) : Rat) * s := by
  have hs0 : 0 < s := by grind
  have e26 : (((2 : Int) ^ 26 : Int) : Rat) = 67108864 := by decide +kernel
  rw [e26]
  have rs0 := div_nn hr hs0
  have rs1 : r / s ≤ 1 / 2 := div_le hs0 (by grind)
  have hg : 0 < 1 + Y / s := by
    have p := h1.pos
    refine Classical.byContradiction fun hn => ?_
    have hn' : 1 + Y / s ≤ 0 := Rat.not_lt.mp hn
    have := Rat.mul_le_mul_of_nonneg_right hn' (show 0 ≤ 1 + r / s by grind)
    grind
  have k := h2.le (EL12.exp_mono hq)
  have m := Rat.mul_le_mul_of_nonneg_left (show 1 / 2 ≤ 1 - r / s by grind) (Rat.le_of_lt hg)
  have a1 : Y / s ≤ 33554432 := by grind
  have a2 : -1 ≤ Y / s := by grind
  exact ⟨hg, by have := le_div_mul hs0 a2; grind, by have := div_le_mul hs0 a1; grind⟩

theorem iexp_wt {M x L : Int} (hM : 1000000 ≤ M) (hMb : intBits M ≤ 300) (hL : 3 ≤ L) (hL2 : L ≤ 10) (hx2 : x ≤ 12 * M) (hx : -(12 * M) ≤ 5 * x) :
    EL ((x : Rat) / (M : Rat)) ((iexpF M x L : Rat) / (M : Rat) * (1 + (69 / 100 + ((x.natAbs : Int) : Rat) / (M : Rat) / 16 + wSum x M (rOf M x L)) / (M : Rat))) ∧
    EG ((x : Rat) / (M : Rat)) ((iexpF M x L : Rat) / (M : Rat) * (1 - (69 / 100 + ((x.natAbs : Int) : Rat) / (M : Rat) / 16 + wSum x M (rOf M x L)) / (M : Rat))) ∧
    PreE M x L ∧ 0 < iexpF M x L ∧ rOf M x L ≤ 14 ∧ iexpF M x L ≤ 2 ^ 27 * M := by
  have hM' : 0 < M := by omega
  have hM0 := castpos hM'
  have hM6 : (1000000 : Rat) ≤ (M : Rat) := castle hM
  have hR := rOf14 hM hL hL2 hx2 hx
  have run := wt_run hM hL hL2 hx2 hx hR
  have X0 : (0 : Rat) ≤ ((x.natAbs : Int) : Rat) := castnn (by omega)
  have X12 : ((x.natAbs : Int) : Rat) / (M : Rat) ≤ 12 := div_le hM0 (by
    have : ((x.natAbs : Int)) ≤ 12 * M := by omega
    exact_mod_cast this)
  have Xn := div_nn X0 hM0
  have sl := wSum_le hM' hx (rOf M x L)
  have r14 : ((rOf M x L : Nat) : Rat) ≤ 14 := by exact_mod_cast hR
  have bd : ∀ j ≤ rOf M x L, 0 < 1 + (dS M (rOf M x L) (iexpY M x L) j : Rat) / sc M (rOf M x L) j ∧ -((((2 : Int) ^ 26 : Int) : Rat) * sc M (rOf M x L) j) ≤ (dS M (rOf M x L) (iexpY M x L) j : Rat) ∧ (dS M (rOf M x L) (iexpY M x L) j : Rat) ≤ (((2 : Int) ^ 26 : Int) : Rat) * sc M (rOf M x L) j := fun j hj => by
    obtain ⟨a, b⟩ := run j hj
    have hs := sc_ge hM' (R := rOf M x L) (j := j)
    have hs0 := sc_pos hM' (rOf M x L) j
    have sn : 0 ≤ wSum x M (rOf M x L - j) := wSum_mono hM' hx (Nat.zero_le _)
    have sm := wSum_mono hM' hx (show rOf M x L - j ≤ rOf M x L by omega)
    have j14 : ((j : Nat) : Rat) ≤ 14 := by
      have : j ≤ 14 := by omega
      exact_mod_cast this
    have j0 : (0 : Rat) ≤ (j : Rat) := by exact_mod_cast Nat.zero_le j
    refine run_bound2 (by grind) (by clear run; grind) (by clear run; grind) ?_ a b
    refine div_le hs0 ?_
    have : (x : Rat) ≤ 12 * (M : Rat) := by exact_mod_cast hx2
    clear run
    grind
  have hxb : intBits x ≤ 2000 := by
    exact bits_mono (bits_abs (b := 12 * M) (k := 400) (by omega) (by omega) (bits_mono (intBits_mul_le (m := 64) (PySem.intBits_le_64 (by decide) (by decide)) hMb)))
  have pre : PreE M x L := preE_of (B := 2 ^ 26) hM' hMb (by omega) (by omega) hxb (by decide) (bits_mono (PySem.intBits_le_64 (by decide) (by decide))) (fun j hj => (bd j hj).2)
  obtain ⟨a, b⟩ := run (rOf M x L) (Nat.le_refl _)
  obtain ⟨c1, _, c3⟩ := bd (rOf M x L) (Nat.le_refl _)
  rw [sc_last] at a b c1 c3
  have eF : (1 : Rat) + (dS M (rOf M x L) (iexpY M x L) (rOf M x L) : Rat) / (M : Rat) = (iexpF M x L : Rat) / (M : Rat) := by
    have := iexpF_unit (x := x) (L := L) (w := 0) hM'
    have z : ∀ y : Rat, y + 0 = y := fun y => by clear bd run; grind
    rw [z, z] at this
    exact this
  rw [eF] at a b c1
  have e0 : wSum x M (rOf M x L - rOf M x L) = 0 := by rw [Nat.sub_self]; rfl
  rw [e0] at a b
  have F0 : 0 < (iexpF M x L : Rat) := by
    have := Rat.mul_pos c1 hM0
    have e : (iexpF M x L : Rat) / (M : Rat) * (M : Rat) = (iexpF M x L : Rat) := Rat.div_mul_cancel (by clear bd run; grind)
    rwa [e] at this
  have hle : (6532 / 10000 + ((x.natAbs : Int) : Rat) / (M : Rat) / 16 + ((rOf M x L : Nat) : Rat) * (1 / 400) + (wSum x M (rOf M x L) - 0)) / (M : Rat) ≤ (69 / 100 + ((x.natAbs : Int) : Rat) / (M : Rat) / 16 + wSum x M (rOf M x L)) / (M : Rat) := div_mono hM0 (by clear bd run; grind)
  have cF : iexpF M x L ≤ 2 ^ 27 * M := by
    have : dS M (rOf M x L) (iexpY M x L) (rOf M x L) ≤ 2 ^ 26 * M := by exact_mod_cast c3
    unfold iexpF
    have e : (2 : Int) ^ 27 = 2 ^ 26 + 2 ^ 26 := by decide
    have e2 : (1 : Int) ≤ 2 ^ 26 := by decide
    rw [e, Int.add_mul]
    have := Int.mul_le_mul_of_nonneg_right e2 (Int.le_of_lt hM')
    omega
  refine ⟨a.mono ?_, b.mono ?_, pre, by exact_mod_cast F0, hR, cF⟩
  · exact Rat.mul_le_mul_of_nonneg_left (by clear bd run; grind) (Rat.le_of_lt c1)
  · exact Rat.mul_le_mul_of_nonneg_left (by clear bd run; grind) (Rat.le_of_lt c1)

end Mine

namespace Mine
open PySem.Builtin.Int (intBits)
open Ex

theorem EL.powN {q c : Rat} (h : EL q c) : ∀ n : Nat, EL ((n : Rat) * q) (c ^ n)
  | 0 => by
    have e : ((0 : Nat) : Rat) * q = 0 := by have : ((0 : Nat) : Rat) = 0 := rfl; rw [this]; grind
    rw [e, Rat.pow_zero]; exact EL.zero
  | n + 1 => by
    have e : ((n + 1 : Nat) : Rat) * q = (n : Rat) * q + q := by push_cast; grind
    rw [e, Rat.pow_succ]
    exact (EL.powN h n).add h
theorem EG.powN {q c : Rat} (h : EG q c) (hc : 0 < c) : ∀ n : Nat, EG ((n : Rat) * q) (c ^ n)
  | 0 => by
    have e : ((0 : Nat) : Rat) * q = 0 := by have : ((0 : Nat) : Rat) = 0 := rfl; rw [this]; grind
    rw [e, Rat.pow_zero]; exact EG.zero
  | n + 1 => by
    have e : ((n + 1 : Nat) : Rat) * q = (n : Rat) * q + q := by push_cast; grind
    rw [e, Rat.pow_succ]
    exact EG.add (EG.powN h hc n) h hc

theorem le_cast {a b : Int} (h : (a : Rat) ≤ (b : Rat)) : a ≤ b := by exact_mod_cast h
/-- what the law adds for one doubling -/
def lbT (x M : Int) (k : Nat) : Int := 10 ^ 6 * (32 * (M * 2 ^ k)) ^ 32 / (2 * (32 * (M * 2 ^ k) + x) ^ 32) + 1
def lb (x M : Int) : Nat → Int
  | 0 => 1200010 + 10 ^ 6 * (x.natAbs : Int) / (16 * M) + 1
  | k + 1 => lb x M k + lbT x M k

theorem den_pos {x M : Int} (hM : 0 < M) (hx : -(12 * M) ≤ 5 * x) (k : Nat) : 0 < 32 * (M * 2 ^ k) + x := by
  have := two_pow_ge1 k
  have := Int.mul_le_mul_of_nonneg_left this (Int.le_of_lt hM)
  omega
theorem div_powQ {a b : Rat} (hb : 0 < b) : ∀ n : Nat, (a / b) ^ n = a ^ n / b ^ n
  | 0 => by rw [Rat.pow_zero, Rat.pow_zero, Rat.pow_zero]; decide +kernel
  | n + 1 => by
    rw [Rat.pow_succ, Rat.pow_succ, Rat.pow_succ, div_powQ hb n]
    have := Rat.pow_pos (n := n) hb
    generalize b ^ n = y at *
    generalize a ^ n = z at *
    grind
theorem castpow (a : Int) (n : Nat) : ((a ^ n : Int) : Rat) = (a : Rat) ^ n := by push_cast; rfl
theorem wq_int {x M : Int} (hM : 0 < M) (hx : -(12 * M) ≤ 5 * x) (k : Nat) : wq ((x : Rat) / ((M : Rat) * P k)) = (((32 * (M * 2 ^ k)) ^ 32 : Int) : Rat) / (((32 * (M * 2 ^ k) + x) ^ 32 : Int) : Rat) := by
  have hd := castpos (den_pos hM hx k)
  have hm : (0 : Rat) < ((32 * (M * 2 ^ k) : Int) : Rat) := castpos (by have := shl_pos hM k; omega)
  have em : ((32 * (M * 2 ^ k) : Int) : Rat) = 32 * ((M : Rat) * P k) := by
    rw [rat_mul_cast, rat_mul_cast, P_int]; rfl
  have ed : ((32 * (M * 2 ^ k) + x : Int) : Rat) = 32 * ((M : Rat) * P k) + (x : Rat) := by
    rw [← em]; push_cast; rfl
  have hp := Rat.mul_pos (castpos hM) (P_pos k)
  rw [castpow, castpow, ed, em]
  rw [ed] at hd
  rw [em] at hm
  unfold wq
  generalize (M : Rat) * P k = y at *
  have e : 1 + (x : Rat) / y / 32 = (32 * y + (x : Rat)) / (32 * y) := by grind
  rw [e, div_powQ hm]
  have h1 := Rat.pow_pos (n := 32) hm
  have h2 := Rat.pow_pos (n := 32) hd
  generalize (32 * y) ^ 32 = a at *
  generalize (32 * y + (x : Rat)) ^ 32 = b at *
  grind
theorem turns_of {x M L : Int} {K : Nat} (hM : 0 < M) (h : ¬ M * 2 ^ K < (x.natAbs : Int) * 2 ^ L.toNat + M) : rOf M x L ≤ K := by
  rcases Int.le_total 0 x with h0 | h0
  · refine rOf_le_pos hM h0 ?_
    have e : (x.natAbs : Int) = x := by omega
    rw [e] at h
    omega
  · refine rOf_le_neg hM h0 ?_
    have e : (x.natAbs : Int) = -x := by omega
    rw [e, Int.neg_mul] at h
    rw [Int.mul_sub]
    omega
theorem turns_le {x M L : Int} {k : Nat} (hM : 0 < M) (hL : 3 ≤ L) (hL2 : L ≤ 10) (hx2 : x ≤ 12 * M) (hx : -(12 * M) ≤ 5 * x) (h : M * 2 ^ k < (x.natAbs : Int) * 2 ^ L.toNat + M) : k ≤ 13 := by
  have p : (2 : Int) ^ L.toNat ≤ 1024 := by
    have : (2 : Nat) ^ L.toNat ≤ 2 ^ 10 := Nat.pow_le_pow_right (by decide) (by omega)
    have h : ((2 : Int) ^ L.toNat) = ((2 ^ L.toNat : Nat) : Int) := by push_cast; rfl
    omega
  refine Classical.byContradiction fun hn => ?_
  have p14 : (2 : Int) ^ 14 ≤ 2 ^ k := by
    have : (2 : Nat) ^ 14 ≤ 2 ^ k := Nat.pow_le_pow_right (by decide) (by omega)
    exact_mod_cast this
  have e : (2 : Int) ^ 14 = 16384 := by decide
  rw [e] at p14
  have h1 := Int.mul_le_mul_of_nonneg_left p14 (Int.le_of_lt hM)
  have h2 := Int.mul_le_mul_of_nonneg_left p (show 0 ≤ (x.natAbs : Int) by omega)
  omega

end Mine

namespace Mine
open PySem.Builtin.Int (intBits)
open Ex

end Mine

namespace Mine
open PySem.Builtin.Int (intBits)
open Ex
theorem xb05 {M x : Int} (hM : 1000000 ≤ M) (hMb : intBits M ≤ 200) (hx2 : x ≤ 12 * M) (hx : -(12 * M) ≤ 5 * x) : intBits x ≤ 204 :=
  bits_abs (b := 12 * M) (k := 204) (by omega) (by omega) (intBits_mul_le (m := 4) (by decide) hMb)
theorem absI (x : Int) : (if x < 0 then -x else x) = (x.natAbs : Int) := by split <;> omega
def LbInv (x M total scale : Int) : Prop := ∃ k : Nat, k ≤ 14 ∧ scale = M * 2 ^ k ∧ total = lb x M k
def lbMeas (M scale : Int) : Nat := (M * 2 ^ 15 - scale).toNat
theorem LbInv.turn {x M L total scale : Int} (h : LbInv x M total scale) (hM : 1000000 ≤ M) (hL : 3 ≤ L) (hL2 : L ≤ 10) (hx2 : x ≤ 12 * M) (hx : -(12 * M) ≤ 5 * x) (hc : scale < (if x < 0 then -x else x) * 2 ^ L.toNat + M) :
    LbInv x M (total + (10 ^ Int.toNat 6 * (32 * scale) ^ Int.toNat 32 / (2 * (32 * scale + x) ^ Int.toNat 32) + 1)) (scale * 2) := by
  rw [absI] at hc
  obtain ⟨k, h1, rfl, rfl⟩ := h
  have := turns_le (by omega) hL hL2 hx2 hx hc
  refine ⟨k + 1, by omega, by rw [Int.pow_succ, Int.mul_assoc], rfl⟩
theorem LbInv.less {x M L total scale : Int} (h : LbInv x M total scale) (hM : 1000000 ≤ M) (hL : 3 ≤ L) (hL2 : L ≤ 10) (hx2 : x ≤ 12 * M) (hx : -(12 * M) ≤ 5 * x) (hc : scale < (if x < 0 then -x else x) * 2 ^ L.toNat + M) :
    lbMeas M (scale * 2) < lbMeas M scale := by
  rw [absI] at hc
  obtain ⟨k, h1, rfl, rfl⟩ := h
  have := turns_le (by omega) hL hL2 hx2 hx hc
  unfold lbMeas
  have hp := shl_pos (M := M) (by omega) k
  have : M * 2 ^ k < M * 2 ^ 15 := by
    refine Int.mul_lt_mul_of_pos_left ?_ (by omega)
    have : (2 : Nat) ^ k < 2 ^ 15 := Nat.pow_lt_pow_right (by decide) (by omega)
    exact_mod_cast this
  omega
theorem pow_bits {a : Int} {b : Nat} (h : intBits a ≤ b) : ∀ n : Nat, intBits (a ^ n) ≤ b * n + 1
  | 0 => by rw [Int.pow_zero]; exact (show intBits 1 ≤ 1 by decide)
  | n + 1 => by
    rw [Int.pow_succ]
    have := intBits_mul_le (pow_bits h n) h
    rw [Nat.mul_succ]
    omega
theorem LbInv.done {x M total scale Z : Int} (h : LbInv x M total scale) (hn : ¬ scale < (if x < 0 then -x else x) * Z + M) : ∃ K : Nat, K ≤ 14 ∧ ¬ M * 2 ^ K < (x.natAbs : Int) * Z + M ∧ lb x M K = total := by
  rw [absI] at hn
  obtain ⟨k, h1, rfl, rfl⟩ := h
  exact ⟨k, h1, hn, rfl⟩
end Mine

namespace Mine
open PySem.Builtin.Int (intBits)
open Ex

/-- exp is growing -/
theorem EL.arg_le {a c b : Rat} (h1 : EL a b) (h2 : EG c b) : a ≤ c := by
  refine Classical.byContradiction fun hn => ?_
  have h : 0 < a - c := by grind
  have k := (EG.one_add (a - c)).neg (by grind)
  have k2 := EL.add h1 k
  have e : a + -(a - c) = c := by grind
  rw [e] at k2
  have k3 := h2.le k2
  have hb := h1.pos
  have k4 : b * (1 / (1 + (a - c))) < b := by
    have : 1 / (1 + (a - c)) < 1 := by
      refine lt_of_not_le fun hh => ?_
      have := le_div_mul (show 0 < 1 + (a - c) by grind) hh
      grind
    have := Rat.mul_lt_mul_of_pos_left this hb
    grind
  grind
theorem tanh_sq {u : Rat} (h0 : 0 ≤ u) (h1 : u < 1) : (1 + u / 2) / (1 - u / 2) * ((1 + u / 2) / (1 - u / 2)) ≤ (1 + u) / (1 - u) := by
  refine le_div (by grind) ?_
  have hd : 0 < (1 - u / 2) * (1 - u / 2) := Rat.mul_pos (by grind) (by grind)
  have e : (1 + u / 2) / (1 - u / 2) * ((1 + u / 2) / (1 - u / 2)) * (1 - u) = (1 + u / 2) * (1 + u / 2) * (1 - u) / ((1 - u / 2) * (1 - u / 2)) := by
    have : 1 - u / 2 ≠ 0 := by grind
    grind
  rw [e]
  refine div_le hd ?_
  have := Rat.mul_nonneg (Rat.mul_nonneg h0 h0) h0
  grind
theorem tanh_ap : ∀ (n : Nat) {u : Rat}, 0 ≤ u → u < 1 → sq n (1 + 2 * u / P n) ≤ (1 + u) / (1 - u)
  | 0, u, h0, h1 => by
    show 1 + 2 * u / P 0 ≤ _
    rw [P_zero]
    refine le_div (by grind) ?_
    have := Rat.mul_nonneg h0 h0
    grind
  | n + 1, u, h0, h1 => by
    have ih := tanh_ap n (u := u / 2) (by grind) (by grind)
    have hP := P_pos n
    have e : 2 * u / P (n + 1) = 2 * (u / 2) / P n := by rw [P_succ]; grind
    rw [e]
    show sq n (_ * _) ≤ _
    rw [sq_mul]
    have hn : 0 ≤ sq n (1 + 2 * (u / 2) / P n) := sq_nn (by have := div_nn (show 0 ≤ 2 * (u / 2) by grind) hP; grind) n
    have m1 := Rat.mul_le_mul_of_nonneg_left ih hn
    have m2 := Rat.mul_le_mul_of_nonneg_right ih (Rat.le_trans hn ih)
    exact Rat.le_trans (Rat.le_trans m1 m2) (tanh_sq h0 h1)
theorem EL.tanh {u : Rat} (h0 : 0 ≤ u) (h1 : u < 1) : EL (2 * u) ((1 + u) / (1 - u)) := fun n _ => tanh_ap n h0 h1

/-- |γ - 1| / (γ + 1) by the logarithm of γ: a half of it -/
theorem tanh_of {γ q η a : Rat} (hγ : 0 < γ) (h1 : EL (q - η) γ) (h2 : EG (q + η) γ) (ha1 : q + η ≤ 2 * a) (ha2 : η - q ≤ 2 * a) : -(a * (1 + γ)) ≤ γ - 1 ∧ γ - 1 ≤ a * (1 + γ) := by
  have hs : 0 < 1 + γ := by grind
  rcases Rat.le_total (a := 1) (b := γ) with h | h
  · have u0 : 0 ≤ (γ - 1) / (1 + γ) := div_nn (by grind) hs
    have u1 : (γ - 1) / (1 + γ) < 1 := lt_of_not_le fun hh => by have := le_div_mul hs hh; grind
    have k := EL.tanh u0 u1
    have e : (1 + (γ - 1) / (1 + γ)) / (1 - (γ - 1) / (1 + γ)) = γ := by grind
    rw [e] at k
    have m := EL.arg_le k h2
    have m2 : (γ - 1) / (1 + γ) ≤ a := by grind
    have m3 := div_le_mul hs m2
    grind
  · have u0 : 0 ≤ (1 - γ) / (1 + γ) := div_nn (by grind) hs
    have u1 : (1 - γ) / (1 + γ) < 1 := lt_of_not_le fun hh => by have := le_div_mul hs hh; grind
    have k := (EL.tanh u0 u1).neg
    have e : 1 / ((1 + (1 - γ) / (1 + γ)) / (1 - (1 - γ) / (1 + γ))) = γ := by grind
    rw [e] at k
    have m := EL.arg_le h1 k
    have m2 : (1 - γ) / (1 + γ) ≤ a := by grind
    have m3 := div_le_mul hs m2
    grind

/-- a halving without its own rounding: g0 = (r + N g) / (N + r) -/
theorem hal_exact {N r g : Rat} (h : 0 < N + r) : (r + N * g) / (N + r) * ((r + N * g) / (N + r)) - g = (1 - g) * ((r * r - N * N * g) / ((N + r) * (N + r))) := by
  have : N + r ≠ 0 := by grind
  grind
theorem hal_near {N r g : Rat} (h : 0 < N + r) : N * ((r + N * g) / (N + r)) - r = -((r * r - N * N * g) / (N + r)) := by
  have : N + r ≠ 0 := by grind
  grind

/-- how far g0 * g0 lies from g -/
theorem hal_g0 {N r g a e g0 : Rat} (hN : 1000000 ≤ N) (he : e = 1 / N) (hr : 0 < r) (ha : 0 ≤ a) (hg0 : g0 = (r + N * g) / (N + r)) (h0 : 0 ≤ g0)
    (t1 : -(r + N / 2) ≤ r * r - N * N * g) (t2 : r * r - N * N * g ≤ r + N / 2) (a1 : -(a * (1 + g0)) ≤ g0 - 1) (a2 : g0 - 1 ≤ a * (1 + g0)) :
    -(a * e * (g0 + 1 / 2) * (1 + 8 * e)) ≤ g0 * g0 - g ∧ g0 * g0 - g ≤ a * e * (g0 + 1 / 2) * (1 + 8 * e) := by
  have hN0 : 0 < N := by grind
  have hNr : 0 < N + r := by grind
  have he0 : 0 < e := by rw [he]; exact div_pos (by decide) hN0
  have he1 : e ≤ 1 / 1000000 := by rw [he]; exact div_le hN0 (by grind)
  have eN : e * N = 1 := by grind
  have hx := hal_exact (g := g) hNr
  have hn := hal_near (g := g) hNr
  rw [← hg0] at hx hn
  obtain ⟨κ, hκ⟩ : ∃ κ, κ = (r * r - N * N * g) / ((N + r) * (N + r)) := ⟨_, rfl⟩
  rw [← hκ] at hx
  have hNN : 0 < (N + r) * (N + r) := Rat.mul_pos hNr hNr
  -- r is near N g0
  have d1 : (r * r - N * N * g) / (N + r) ≤ 1 := div_le hNr (by grind)
  have d2 : -1 ≤ (r * r - N * N * g) / (N + r) := le_div hNr (by grind)
  have n1 : r ≤ N * g0 + 1 := by grind
  have n2 : N * g0 - 1 ≤ r := by grind
  -- the size of κ
  obtain ⟨k, hk⟩ : ∃ k, k = (r + N / 2) / ((N + r) * (N + r)) := ⟨_, rfl⟩
  have k1 : κ ≤ k := by rw [hκ, hk]; exact div_mono hNN t2
  have k2 : -k ≤ κ := by
    rw [hκ, hk]
    have := div_mono hNN t1
    have e1 : -(r + N / 2) / ((N + r) * (N + r)) = -((r + N / 2) / ((N + r) * (N + r))) := by grind
    rwa [e1] at this
  have k0 : 0 ≤ k := by rw [hk]; exact div_nn (by grind) hNN
  have ke : k ≤ e := by
    rw [hk]
    refine div_le hNN ?_
    have m := Rat.mul_le_mul_of_nonneg_left (show N ≤ N + r by grind) (Rat.le_of_lt (Rat.mul_pos he0 hNr))
    have e2 : e * (N + r) * N = (N + r) * (e * N) := by grind
    rw [e2, eN] at m
    have e3 : e * ((N + r) * (N + r)) = e * (N + r) * (N + r) := by grind
    rw [e3]
    grind
  -- k (1 + g0)^2 ≤ e (g0 + 1 / 2) (1 + 5 e)
  have kk : k * ((1 + g0) * (1 + g0)) ≤ e * (g0 + 1 / 2) * (1 + 5 * e) := by
    have b1 : N * (1 + g0) * (1 - e) ≤ N + r := by
      have : N * (1 + g0) * (1 - e) = N * (1 + g0) - (e * N) * (1 + g0) := by grind
      rw [this, eN]
      grind
    have p1 : 0 ≤ N * (1 + g0) * (1 - e) := Rat.mul_nonneg (Rat.mul_nonneg (Rat.le_of_lt hN0) (by grind)) (by grind)
    have b2 := Rat.mul_le_mul_of_nonneg_left b1 p1
    have b3 := Rat.mul_le_mul_of_nonneg_right b1 (Rat.le_of_lt hNr)
    have b4 := Rat.le_trans b2 b3
    have b5 : r + N / 2 ≤ N * ((g0 + 1 / 2) * (1 + 2 * e)) := by
      have : N * ((g0 + 1 / 2) * (1 + 2 * e)) = N * g0 + N / 2 + 2 * (e * N) * (g0 + 1 / 2) := by grind
      rw [this, eN]
      grind
    have hkm : k * ((N + r) * (N + r)) = r + N / 2 := by rw [hk]; exact Rat.div_mul_cancel (by grind)
    have b6 := Rat.mul_le_mul_of_nonneg_left b4 k0
    rw [hkm] at b6
    have b7 := Rat.le_trans b6 b5
    -- k N^2 (1 + g0)^2 (1 - e)^2 ≤ N (g0 + 1/2) (1 + 2 e)
    have b8 := Rat.mul_le_mul_of_nonneg_left b7 (Rat.le_of_lt (Rat.mul_pos he0 he0))
    have e4 : e * e * (k * (N * (1 + g0) * (1 - e) * (N * (1 + g0) * (1 - e)))) = (e * N) * (e * N) * (k * ((1 + g0) * (1 + g0)) * ((1 - e) * (1 - e))) := by grind
    have e5 : e * e * (N * ((g0 + 1 / 2) * (1 + 2 * e))) = (e * N) * (e * (g0 + 1 / 2) * (1 + 2 * e)) := by grind
    rw [e4, e5, eN] at b8
    have c0 : 0 ≤ k * ((1 + g0) * (1 + g0)) := Rat.mul_nonneg k0 (sq_nonneg _)
    have c1 : 0 ≤ e * (g0 + 1 / 2) := Rat.mul_nonneg (Rat.le_of_lt he0) (by grind)
    generalize k * ((1 + g0) * (1 + g0)) = x at *
    generalize e * (g0 + 1 / 2) = z at *
    have ee := Rat.mul_nonneg (Rat.le_of_lt he0) (Rat.le_of_lt he0)
    have f1 : 1 ≤ (1 - e) * (1 - e) * (1 + 3 * e) ∨ True := .inr trivial
    have f2 : (1 - 2 * e) * x ≤ z * (1 + 2 * e) := by
      have : (1 - 2 * e) * x ≤ x * ((1 - e) * (1 - e)) := by
        have := Rat.mul_nonneg c0 ee
        grind
      grind
    have f3 := Rat.mul_le_mul_of_nonneg_right f2 (show 0 ≤ 1 + 5 / 2 * e by grind)
    have f4 : x ≤ (1 - 2 * e) * x * (1 + 5 / 2 * e) := by
      have g1 : 0 ≤ x * (e * (1 / 2 - 5 * e)) := Rat.mul_nonneg c0 (Rat.mul_nonneg (Rat.le_of_lt he0) (by grind))
      grind
    have f5 : z * (1 + 2 * e) * (1 + 5 / 2 * e) ≤ z * (1 + 5 * e) := by
      have g1 : 0 ≤ z * (e * (1 / 2 - 5 * e)) := Rat.mul_nonneg c1 (Rat.mul_nonneg (Rat.le_of_lt he0) (by grind))
      grind
    exact Rat.le_trans f4 (Rat.le_trans f3 f5)
  -- (g0^2 - g) (1 - κ) = - (g0 - 1) (g0 + 1) κ
  have id1 : (g0 * g0 - g) * (1 - κ) = -((g0 - 1) * (g0 + 1) * κ) := by
    have : g0 * g0 - 1 = (g - 1) * (1 - κ) := by grind
    have e6 : (g0 - 1) * (g0 + 1) * κ = (g0 * g0 - 1) * κ := by grind
    rw [e6, this, hx]
    grind
  have A0 : 0 ≤ a * (e * (g0 + 1 / 2) * (1 + 5 * e)) := Rat.mul_nonneg ha (Rat.mul_nonneg (Rat.mul_nonneg (Rat.le_of_lt he0) (by grind)) (by grind))
  have bnd : ∀ z : Rat, -(a * (1 + g0)) ≤ z → z ≤ a * (1 + g0) → -(a * (e * (g0 + 1 / 2) * (1 + 5 * e))) ≤ z * (1 + g0) * κ ∧ z * (1 + g0) * κ ≤ a * (e * (g0 + 1 / 2) * (1 + 5 * e)) := fun z z1 z2 => by
    have hA : 0 ≤ a * (1 + g0) := Rat.mul_nonneg ha (by grind)
    have q1 : a * (k * ((1 + g0) * (1 + g0))) ≤ a * (e * (g0 + 1 / 2) * (1 + 5 * e)) := Rat.mul_le_mul_of_nonneg_left kk ha
    have q2 : a * (1 + g0) * (1 + g0) * k = a * (k * ((1 + g0) * (1 + g0))) := by grind
    have hG : 0 ≤ (1 + g0) * k := Rat.mul_nonneg (by grind) k0
    have q3 := Rat.mul_nonneg (show 0 ≤ a * (1 + g0) - z by grind) (show 0 ≤ k + κ by grind)
    have q4 := Rat.mul_nonneg (show 0 ≤ a * (1 + g0) + z by grind) (show 0 ≤ k - κ by grind)
    have q5 := Rat.mul_nonneg (show 0 ≤ a * (1 + g0) - z by grind) (show 0 ≤ k - κ by grind)
    have q6 := Rat.mul_nonneg (show 0 ≤ a * (1 + g0) + z by grind) (show 0 ≤ k + κ by grind)
    have r1 : z * κ ≤ a * (1 + g0) * k := by grind
    have r2 : -(a * (1 + g0) * k) ≤ z * κ := by grind
    have s1 := Rat.mul_le_mul_of_nonneg_right r1 (show 0 ≤ 1 + g0 by grind)
    have s2 := Rat.mul_le_mul_of_nonneg_right r2 (show 0 ≤ 1 + g0 by grind)
    have e7 : z * (1 + g0) * κ = z * κ * (1 + g0) := by grind
    have e8 : a * (1 + g0) * k * (1 + g0) = a * (1 + g0) * (1 + g0) * k := by grind
    rw [e7]
    rw [e8, q2] at s1
    have e9 : -(a * (1 + g0) * k) * (1 + g0) = -(a * (1 + g0) * (1 + g0) * k) := by grind
    rw [e9, q2] at s2
    constructor
    · exact Rat.le_trans (by grind) s2
    · exact Rat.le_trans s1 q1
  obtain ⟨u1, u2⟩ := bnd (g0 - 1) a1 a2
  have e10 : (g0 - 1) * (g0 + 1) * κ = (g0 - 1) * (1 + g0) * κ := by grind
  rw [e10] at id1
  have e11 : a * e * (g0 + 1 / 2) * (1 + 8 * e) = a * (e * (g0 + 1 / 2)) * (1 + 8 * e) := by grind
  have e12 : a * (e * (g0 + 1 / 2) * (1 + 5 * e)) = a * (e * (g0 + 1 / 2)) * (1 + 5 * e) := by grind
  rw [e11]
  rw [e12] at u1 u2
  have c2 : 0 ≤ a * (e * (g0 + 1 / 2)) := Rat.mul_nonneg ha (Rat.mul_nonneg (Rat.le_of_lt he0) (by grind))
  generalize a * (e * (g0 + 1 / 2)) = z at *
  generalize (g0 - 1) * (1 + g0) * κ = y at *
  generalize g0 * g0 - g = x at *
  have κ1 : κ ≤ e := Rat.le_trans k1 ke
  have hh : z * (1 + 5 * e) ≤ z * (1 + 8 * e) * (1 - κ) := by
    have m := Rat.mul_le_mul_of_nonneg_left (show 1 - e ≤ 1 - κ by grind) (Rat.mul_nonneg c2 (show 0 ≤ 1 + 8 * e by grind))
    have g1 : 0 ≤ z * (e * (2 - 8 * e)) := Rat.mul_nonneg c2 (Rat.mul_nonneg (Rat.le_of_lt he0) (by grind))
    grind
  have hp : 0 < 1 - κ := by grind
  constructor
  · refine Classical.byContradiction fun hn => ?_
    have := Rat.mul_lt_mul_of_pos_right (show x < -(z * (1 + 8 * e)) by grind) hp
    grind
  · refine Classical.byContradiction fun hn => ?_
    have := Rat.mul_lt_mul_of_pos_right (show z * (1 + 8 * e) < x by grind) hp
    grind

end Mine

namespace Mine
open PySem.Builtin.Int (intBits)
open Ex

/-- v near W: products -/
theorem v_sq {v W e : Rat} (he : 0 < e) (he1 : e ≤ 1 / 1000000) (hv : 0 ≤ v) (hW : 0 ≤ W) (hW2 : W ≤ 7 / 2) (h : v ≤ W + 300 * e) : v * v ≤ W * W + 2101 * e := by
  have m1 := Rat.mul_le_mul_of_nonneg_left h hv
  have m2 := Rat.mul_le_mul_of_nonneg_right h (show 0 ≤ W + 300 * e by grind)
  have ee : e * e ≤ 1 / 1000000 * e := Rat.mul_le_mul_of_nonneg_right he1 (Rat.le_of_lt he)
  have We : W * e ≤ 7 / 2 * e := Rat.mul_le_mul_of_nonneg_right hW2 (Rat.le_of_lt he)
  have e1 : (W + 300 * e) * (W + 300 * e) = W * W + 600 * (W * e) + 90000 * (e * e) := by grind
  rw [e1] at m2
  have m3 := Rat.le_trans m1 m2
  generalize W * e = p at *
  generalize e * e = q at *
  generalize W * W = r at *
  generalize v * v = t at *
  grind

/-- what a halving adds, as the law counts it -/
def hE (W Z : Rat) : Rat := W / 2 + (W / 4 + W * W / 8) * Z

theorem hE_num {v W Z E e ε : Rat} (he : 0 < e) (he1 : e ≤ 1 / 1000000) (hv : 0 ≤ v) (hW : 0 ≤ W) (hW2 : W ≤ 7 / 2) (h : v ≤ W + 300 * e) (hZ : 0 ≤ Z) (hZ2 : Z ≤ 4) (hE0 : 0 ≤ E) (hE2 : E ≤ 70)
    (hε : ε = v / 2 + v * v * e / 4 + (Z + E * e) / 4 * (v + v * v / 2 + v * v * e) * (1 + 8 * e)) : 0 ≤ ε ∧ ε * (1 + 30 * e) ≤ hE W Z + 1 / 400 := by
  have vv := v_sq he he1 hv hW hW2 h
  have vv0 := sq_nonneg v
  have WW : W * W ≤ 49 / 4 := by
    have := Rat.mul_le_mul_of_nonneg_right hW2 hW
    grind
  have WW0 := sq_nonneg W
  have v4 : v * v ≤ 13 := by grind
  have vve : v * v * e ≤ 13 * e := Rat.mul_le_mul_of_nonneg_right v4 (Rat.le_of_lt he)
  have vve0 : 0 ≤ v * v * e := Rat.mul_nonneg vv0 (Rat.le_of_lt he)
  have Ee : E * e ≤ 70 * e := Rat.mul_le_mul_of_nonneg_right hE2 (Rat.le_of_lt he)
  have Ee0 : 0 ≤ E * e := Rat.mul_nonneg hE0 (Rat.le_of_lt he)
  -- the inner sum
  obtain ⟨S, hS⟩ : ∃ S, S = v + v * v / 2 + v * v * e := ⟨_, rfl⟩
  obtain ⟨S0, hS0⟩ : ∃ S0, S0 = W + W * W / 2 := ⟨_, rfl⟩
  have s1 : S ≤ S0 + 1400 * e := by rw [hS, hS0]; grind
  have s0 : 0 ≤ S := by rw [hS]; grind
  have s00 : 0 ≤ S0 := by rw [hS0]; grind
  have s2 : S0 ≤ 10 := by rw [hS0]; grind
  rw [← hS] at hε
  -- (Z + E e) S
  have p1 : (Z + E * e) * S ≤ Z * S0 + 6400 * e := by
    have a1 := Rat.mul_le_mul_of_nonneg_left s1 (show 0 ≤ Z + E * e by grind)
    have a2 : (Z + E * e) * (S0 + 1400 * e) = Z * S0 + E * e * S0 + 1400 * (Z * e) + 1400 * (E * e * e) := by grind
    rw [a2] at a1
    have a3 : E * e * S0 ≤ 70 * e * 10 := by
      have b1 := Rat.mul_le_mul_of_nonneg_left s2 Ee0
      have b2 := Rat.mul_le_mul_of_nonneg_right Ee (show (0 : Rat) ≤ 10 by decide)
      exact Rat.le_trans b1 b2
    have a4 : Z * e ≤ 4 * e := Rat.mul_le_mul_of_nonneg_right hZ2 (Rat.le_of_lt he)
    have a5 : E * e * e ≤ 1 / 1000 * e := Rat.mul_le_mul_of_nonneg_right (by grind) (Rat.le_of_lt he)
    generalize E * e * S0 = x1 at *
    generalize Z * e = x2 at *
    generalize E * e * e = x3 at *
    grind
  have p0 : 0 ≤ (Z + E * e) * S := Rat.mul_nonneg (by grind) s0
  have zs : Z * S0 ≤ 40 := by
    have b1 := Rat.mul_le_mul_of_nonneg_left s2 hZ
    grind
  have zs0 : 0 ≤ Z * S0 := Rat.mul_nonneg hZ s00
  have e1 : (Z + E * e) / 4 * S * (1 + 8 * e) = (Z + E * e) * S / 4 + 2 * ((Z + E * e) * S * e) := by grind
  rw [e1] at hε
  have p2 : (Z + E * e) * S * e ≤ 41 * e := Rat.mul_le_mul_of_nonneg_right (by grind) (Rat.le_of_lt he)
  have p3 : 0 ≤ (Z + E * e) * S * e := Rat.mul_nonneg p0 (Rat.le_of_lt he)
  have eh : hE W Z = W / 2 + Z * S0 / 4 := by unfold hE; rw [hS0]; grind
  rw [eh]
  generalize (Z + E * e) * S * e = x1 at *
  generalize (Z + E * e) * S = x2 at *
  generalize Z * S0 = x3 at *
  generalize v * v * e = x4 at *
  have q1 : ε ≤ W / 2 + x3 / 4 + 1900 * e := by rw [hε]; grind
  have q0 : 0 ≤ ε := by rw [hε]; grind
  have q2 : ε * (30 * e) ≤ 13 * (30 * e) := Rat.mul_le_mul_of_nonneg_right (by grind) (by grind)
  refine ⟨q0, ?_⟩
  have e2 : ε * (1 + 30 * e) = ε + ε * (30 * e) := by grind
  rw [e2]
  generalize ε * (30 * e) = x5 at *
  grind

end Mine

namespace Mine
open PySem.Builtin.Int (intBits)
open Ex

/-- 1 / g by the weight -/
theorem v_of {q η g v W e : Rat} (he1 : e ≤ 1 / 1000000) (hW : 0 < W) (hW2 : W ≤ 7 / 2) (hη : 0 ≤ η) (hη2 : η ≤ 32 * e) (hg : 0 < g) (hv : v = 1 / g)
    (h1 : EL (q - η) g) (hWq : EG q (1 / W)) : 0 < v ∧ v ≤ W + 300 * e := by
  have k := EL.add h1 (EL.inv (show η < 1 by grind))
  have e1 : q - η + η = q := by grind
  rw [e1] at k
  have m := hWq.le k
  have v0 : 0 < v := by rw [hv]; exact div_pos (by decide) hg
  refine ⟨v0, ?_⟩
  -- 1 - η ≤ W g
  have m2 : 1 - η ≤ W * g := by
    have a := Rat.mul_le_mul_of_nonneg_right m (show 0 ≤ W * (1 - η) from Rat.mul_nonneg (Rat.le_of_lt hW) (by grind))
    have e2 : 1 / W * (W * (1 - η)) = 1 - η := by grind
    have e3 : g * (1 / (1 - η)) * (W * (1 - η)) = W * g := by
      have : 1 - η ≠ 0 := by grind
      grind
    rw [e2, e3] at a
    exact a
  -- v (1 - η) ≤ W
  have m3 : v * (1 - η) ≤ W := by
    have a := Rat.mul_le_mul_of_nonneg_left m2 (Rat.le_of_lt v0)
    have e4 : v * (W * g) = W := by rw [hv]; grind
    rwa [e4] at a
  have m4 : v ≤ 4 := by
    refine Classical.byContradiction fun hn => ?_
    have := Rat.mul_le_mul_of_nonneg_right (show 4 ≤ v by grind) (show 0 ≤ 1 - η by grind)
    grind
  have m5 : v * η ≤ 4 * η := Rat.mul_le_mul_of_nonneg_right m4 hη
  grind

/-- the borders move by a small change -/
theorem shift_small {q η g g0 z : Rat} (hg : 0 < g) (hz : 0 ≤ z) (hz1 : z ≤ 1) (h1 : EL (q - η) g) (h2 : EG (q + η) g) (a1 : g * (1 - z / 2) ≤ g0) (a2 : g0 ≤ g * (1 + z)) :
    EL (q - (η + z)) g0 ∧ EG (q + (η + z)) g0 := by
  constructor
  · have k := EL.add h1 ((EG.one_add z).neg (by grind))
    have e1 : q - η + -z = q - (η + z) := by grind
    rw [e1] at k
    refine k.mono (Rat.le_trans ?_ a1)
    refine Rat.mul_le_mul_of_nonneg_left ?_ (Rat.le_of_lt hg)
    refine div_le (by grind) ?_
    have := Rat.mul_nonneg hz (show 0 ≤ 1 - z by grind)
    grind
  · have k := EG.add h2 (EG.one_add z) (by grind)
    have e1 : q + η + z = q + (η + z) := by grind
    rw [e1] at k
    exact k.mono a2

theorem div_two {T s : Rat} (h : 0 < s) : T / s = T * (2 * (1 / (2 * s))) := by grind
theorem hal_step {N s r Y Y' X E W Z e g g' : Rat} (hN : 1000000 ≤ N) (he : e = 1 / N) (hs : N ≤ s) (hr : 0 < r) (hg : g = 1 + Y / s) (hg' : g' = 1 + Y' / (2 * s))
    (t1 : -(r + N / 2) ≤ r * r - N * N * g) (t2 : r * r - N * N * g ≤ r + N / 2) (b1 : 2 * N * Y / (N + r) - 1 / 2 ≤ Y') (b2 : Y' ≤ 2 * N * Y / (N + r) + 1 / 2)
    (hE0 : 0 ≤ E) (hE2 : E ≤ 64) (h1 : EL ((X - E) / (2 * s)) g') (h2 : EG ((X + E) / (2 * s)) g') (hW : 0 < W) (hW2 : W ≤ 7 / 2) (hWq : EG (X / (2 * s)) (1 / W))
    (hZ1 : X ≤ Z * N) (hZ2 : -(Z * N) ≤ X) (hZ : 0 ≤ Z) (hZ4 : Z ≤ 4) :
    EL ((X - (E + (hE W Z + 1 / 400))) / s) g ∧ EG ((X + (E + (hE W Z + 1 / 400))) / s) g := by
  have hN0 : 0 < N := by grind
  have hs0 : 0 < s := by grind
  have hNr : 0 < N + r := by grind
  have he0 : 0 < e := by rw [he]; exact div_pos (by decide) hN0
  have he1 : e ≤ 1 / 1000000 := by rw [he]; exact div_le hN0 (by grind)
  have eN : e * N = 1 := by grind
  obtain ⟨f, hf⟩ : ∃ f, f = 1 / (2 * s) := ⟨_, rfl⟩
  have f0 : 0 < f := by rw [hf]; exact div_pos (by decide) (by grind)
  have fe : 2 * f ≤ e := by
    have : f ≤ e / 2 := by
      rw [hf]
      refine div_le (by grind) ?_
      have := Rat.mul_le_mul_of_nonneg_left hs (Rat.le_of_lt he0)
      grind
    grind
  have fs : f * s = 1 / 2 := by rw [hf]; grind
  have q1 : (X - E) / (2 * s) = X * f - E * f := by rw [hf]; grind
  have q2 : (X + E) / (2 * s) = X * f + E * f := by rw [hf]; grind
  have q3 : X / (2 * s) = X * f := by rw [hf]; grind
  have hgp : 0 < g' := h1.pos
  rw [q1] at h1
  rw [q2] at h2
  rw [q3] at hWq
  have Ef0 : 0 ≤ E * f := Rat.mul_nonneg hE0 (Rat.le_of_lt f0)
  have Ef1 : E * f ≤ 64 * f := Rat.mul_le_mul_of_nonneg_right hE2 (Rat.le_of_lt f0)
  obtain ⟨v, hv⟩ : ∃ v, v = 1 / g' := ⟨_, rfl⟩
  obtain ⟨v0, v1⟩ := v_of he1 hW hW2 Ef0 (by grind) hgp hv h1 hWq
  have vg : v * g' = 1 := by rw [hv]; grind
  have v4 : v ≤ 4 := by grind
  have vf : v * f ≤ 4 * f := Rat.mul_le_mul_of_nonneg_right v4 (Rat.le_of_lt f0)
  have vf0 : 0 ≤ v * f := Rat.mul_nonneg (Rat.le_of_lt v0) (Rat.le_of_lt f0)
  -- g0
  obtain ⟨g0, hg0⟩ : ∃ g0, g0 = (r + N * g) / (N + r) := ⟨_, rfl⟩
  have d1 : g' - f / 2 ≤ g0 ∧ g0 ≤ g' + f / 2 := by
    have e3 : g0 = 1 + 2 * N * Y / (N + r) * f := by
      rw [hg0, hg, hf]
      have : N + r ≠ 0 := by grind
      grind
    have e4 : g' = 1 + Y' * f := by rw [hg', hf]; grind
    have m1 := Rat.mul_le_mul_of_nonneg_right b1 (Rat.le_of_lt f0)
    have m2 := Rat.mul_le_mul_of_nonneg_right b2 (Rat.le_of_lt f0)
    rw [e3, e4]
    constructor <;> grind
  have gvf : g' * (v * f) = f := by
    have : g' * (v * f) = v * g' * f := by grind
    rw [this, vg]; grind
  obtain ⟨s1, s2⟩ := shift_small (q := X * f) (g0 := g0) (z := v * f) hgp vf0 (by grind) h1 h2 (by
    have : g' * (1 - v * f / 2) = g' - g' * (v * f) / 2 := by grind
    rw [this, gvf]; exact d1.1) (by
    have : g' * (1 + v * f) = g' + g' * (v * f) := by grind
    rw [this, gvf]; grind)
  have hg0p : 0 < g0 := s1.pos
  have ef : E * f + v * f = (E + v) * f := by grind
  rw [ef] at s1 s2
  -- a
  have ZN : Z * N * f = Z * (N * f) := by grind
  have m1 := Rat.mul_le_mul_of_nonneg_right hZ1 (Rat.le_of_lt f0)
  have m2 := Rat.mul_le_mul_of_nonneg_right hZ2 (Rat.le_of_lt f0)
  obtain ⟨a, ha⟩ : ∃ a, a = (Z * N + (E + v)) * f / 2 := ⟨_, rfl⟩
  have ZN0 : 0 ≤ Z * N := Rat.mul_nonneg hZ (Rat.le_of_lt hN0)
  have a0 : 0 ≤ a := by
    rw [ha]
    have := Rat.mul_nonneg (show 0 ≤ Z * N + (E + v) by grind) (Rat.le_of_lt f0)
    grind
  obtain ⟨ta1, ta2⟩ := tanh_of (a := a) hg0p s1 s2 (by rw [ha]; grind) (by rw [ha]; grind)
  obtain ⟨B1, B2⟩ := hal_g0 hN he hr a0 hg0 (Rat.le_of_lt hg0p) t1 t2 ta1 ta2
  -- |g' g' - g| s v v
  obtain ⟨B, hB⟩ : ∃ B, B = a * e * (g0 + 1 / 2) * (1 + 8 * e) := ⟨_, rfl⟩
  rw [← hB] at B1 B2
  obtain ⟨ε, hε⟩ : ∃ ε, ε = v / 2 + v * v * e / 4 + (Z + (E + v) * e) / 4 * (v + v * v / 2 + v * v * e) * (1 + 8 * e) := ⟨_, rfl⟩
  obtain ⟨ε0, ε1⟩ := hE_num he0 he1 (Rat.le_of_lt v0) (Rat.le_of_lt hW) hW2 v1 hZ hZ4 (show 0 ≤ E + v by grind) (show E + v ≤ 70 by grind) hε
  have vv0 := sq_nonneg v
  have D : -(ε * (2 * f)) ≤ (g' * g' - g) * (v * v) ∧ (g' * g' - g) * (v * v) ≤ ε * (2 * f) := by
    -- the rounding
    have r1 : -(f * g' + f * f / 4) ≤ g' * g' - g0 * g0 ∧ g' * g' - g0 * g0 ≤ f * g' + f * f / 4 := by
      have e5 : g' * g' - g0 * g0 = (g' - g0) * (g' + g0) := by grind
      rw [e5]
      have p1 := Rat.mul_nonneg (show 0 ≤ f / 2 - (g' - g0) by grind) (show 0 ≤ g' + g0 by grind)
      have p2 := Rat.mul_nonneg (show 0 ≤ f / 2 + (g' - g0) by grind) (show 0 ≤ g' + g0 by grind)
      have p3 := Rat.mul_le_mul_of_nonneg_left (show g' + g0 ≤ 2 * g' + f / 2 by grind) (show 0 ≤ f / 2 by grind)
      constructor <;> grind
    have t3 : (f * g' + f * f / 4) * (v * v) ≤ (v / 2 + v * v * e / 4) * (2 * f) := by
      have e6 : (f * g' + f * f / 4) * (v * v) = (v * g') * (f * v) + f * (v * v * f) / 4 := by grind
      rw [e6, vg]
      have p1 : v * v * f ≤ v * v * e := Rat.mul_le_mul_of_nonneg_left (by grind) vv0
      have p2 := Rat.mul_le_mul_of_nonneg_left p1 (Rat.le_of_lt f0)
      have p3 : 0 ≤ f * (v * v * e) := Rat.mul_nonneg (Rat.le_of_lt f0) (Rat.mul_nonneg vv0 (Rat.le_of_lt he0))
      have e7 : (v / 2 + v * v * e / 4) * (2 * f) = f * v + f * (v * v * e) / 2 := by grind
      rw [e7]
      generalize f * (v * v * e) = x1 at *
      generalize f * (v * v * f) = x2 at *
      grind
    have t4 : B * (v * v) ≤ (Z + (E + v) * e) / 4 * (v + v * v / 2 + v * v * e) * (1 + 8 * e) * (2 * f) := by
      have e8 : a * e = (Z + (E + v) * e) / 4 * (2 * f) := by
        rw [ha]
        have : (Z * N + (E + v)) * f / 2 * e = (Z * (e * N) + (E + v) * e) * f / 2 := by grind
        rw [this, eN]; grind
      have e9 : B * (v * v) = a * e * ((g0 + 1 / 2) * (v * v)) * (1 + 8 * e) := by rw [hB]; grind
      rw [e9, e8]
      have p1 : (g0 + 1 / 2) * (v * v) ≤ v + v * v / 2 + v * v * e := by
        have p2 := Rat.mul_le_mul_of_nonneg_right (show g0 + 1 / 2 ≤ g' + 1 / 2 + e by grind) vv0
        have e10 : (g' + 1 / 2 + e) * (v * v) = (v * g') * v + v * v / 2 + v * v * e := by grind
        rw [e10, vg] at p2
        grind
      have c0 : 0 ≤ (Z + (E + v) * e) / 4 * (2 * f) := by
        have := Rat.mul_nonneg (show 0 ≤ E + v by grind) (Rat.le_of_lt he0)
        exact Rat.mul_nonneg (by grind) (by grind)
      have p3 := Rat.mul_le_mul_of_nonneg_left p1 c0
      have p4 := Rat.mul_le_mul_of_nonneg_right p3 (show 0 ≤ 1 + 8 * e by grind)
      have e11 : (Z + (E + v) * e) / 4 * (v + v * v / 2 + v * v * e) * (1 + 8 * e) * (2 * f) = (Z + (E + v) * e) / 4 * (2 * f) * (v + v * v / 2 + v * v * e) * (1 + 8 * e) := by grind
      rw [e11]
      exact p4
    have e12 : ε * (2 * f) = (v / 2 + v * v * e / 4) * (2 * f) + (Z + (E + v) * e) / 4 * (v + v * v / 2 + v * v * e) * (1 + 8 * e) * (2 * f) := by rw [hε]; grind
    rw [e12]
    have u1 := Rat.mul_le_mul_of_nonneg_right (show g' * g' - g ≤ f * g' + f * f / 4 + B by grind) vv0
    have u2 := Rat.mul_le_mul_of_nonneg_right (show -(f * g' + f * f / 4 + B) ≤ g' * g' - g by grind) vv0
    have e13 : (f * g' + f * f / 4 + B) * (v * v) = (f * g' + f * f / 4) * (v * v) + B * (v * v) := by grind
    have e14 : -(f * g' + f * f / 4 + B) * (v * v) = -((f * g' + f * f / 4) * (v * v) + B * (v * v)) := by grind
    rw [e13] at u1
    rw [e14] at u2
    generalize (f * g' + f * f / 4) * (v * v) = x1 at *
    generalize B * (v * v) = x2 at *
    generalize (g' * g' - g) * (v * v) = x3 at *
    generalize (v / 2 + v * v * e / 4) * (2 * f) = x4 at *
    generalize (Z + (E + v) * e) / 4 * (v + v * v / 2 + v * v * e) * (1 + 8 * e) * (2 * f) = x5 at *
    constructor <;> grind
  -- back to g' g'
  have gg0 := Rat.mul_pos hgp hgp
  have e15 : (g' * g' - g) * (v * v) * (g' * g') = g' * g' - g := by
    have : (g' * g' - g) * (v * v) * (g' * g') = (g' * g' - g) * ((v * g') * (v * g')) := by grind
    rw [this, vg]; grind
  have D1 := Rat.mul_le_mul_of_nonneg_right D.1 (Rat.le_of_lt gg0)
  have D2 := Rat.mul_le_mul_of_nonneg_right D.2 (Rat.le_of_lt gg0)
  rw [e15] at D1 D2
  have εs : ε ≤ 14 := by
    have : hE W Z ≤ 12 := by
      unfold hE
      have w2 : W * W ≤ 49 / 4 := by
        have := Rat.mul_le_mul_of_nonneg_right hW2 (Rat.le_of_lt hW)
        grind
      have := Rat.mul_le_mul_of_nonneg_left hZ4 (show 0 ≤ W / 4 + W * W / 8 by have := sq_nonneg W; grind)
      generalize W * W = ww at *
      grind
    have := Rat.mul_nonneg ε0 (show 0 ≤ 30 * e by grind)
    grind
  obtain ⟨δ, hδ⟩ : ∃ δ, δ = ε * (1 + 30 * e) := ⟨_, rfl⟩
  rw [← hδ] at ε1
  have δε : ε ≤ δ := by rw [hδ]; have := Rat.mul_nonneg ε0 (show 0 ≤ 30 * e by grind); grind
  have δ0 : 0 ≤ δ := by grind
  have δ15 : δ ≤ 15 := by
    rw [hδ]
    have := Rat.mul_le_mul_of_nonneg_right εs (show 0 ≤ 30 * e by grind)
    grind
  -- g ≤ g'g' (1 + 2 f δ), g'g' ≤ g (1 + 2 f δ)
  have δf0 : 0 ≤ δ * (2 * f) := Rat.mul_nonneg δ0 (by grind)
  have c1 : g ≤ g' * g' * (1 + δ * (2 * f)) := by
    have m := Rat.mul_le_mul_of_nonneg_right (Rat.mul_le_mul_of_nonneg_right δε (show 0 ≤ 2 * f by grind)) (Rat.le_of_lt gg0)
    grind
  have gpos : 0 < g := by
    have εf : ε * (2 * f) ≤ 14 * (2 * f) := Rat.mul_le_mul_of_nonneg_right εs (by grind)
    have m := Rat.mul_le_mul_of_nonneg_right (show ε * (2 * f) ≤ 1 / 2 by grind) (Rat.le_of_lt gg0)
    grind
  have c2 : g' * g' ≤ g * (1 + δ * (2 * f)) := by
    have m : g' * g' * (1 - ε * (2 * f)) ≤ g := by grind
    have m2 := Rat.mul_le_mul_of_nonneg_right m (show 0 ≤ 1 + δ * (2 * f) by grind)
    have m3 : 1 ≤ (1 - ε * (2 * f)) * (1 + δ * (2 * f)) := by
      have e16 : (1 - ε * (2 * f)) * (1 + δ * (2 * f)) = 1 + (2 * f) * (δ - ε - ε * (δ * (2 * f))) := by grind
      rw [e16]
      have δf : δ * (2 * f) ≤ 30 * e := by
        have a1 := Rat.mul_le_mul_of_nonneg_right δ15 (show 0 ≤ 2 * f by grind)
        grind
      have a2 := Rat.mul_le_mul_of_nonneg_left δf ε0
      have hδ' : δ = ε + ε * (30 * e) := by rw [hδ]; clear a2 δf e16; grind
      have a3 : 0 ≤ δ - ε - ε * (δ * (2 * f)) := by
        generalize ε * (δ * (2 * f)) = x1 at a2 ⊢
        generalize ε * (30 * e) = x2 at a2 hδ'
        rw [hδ']
        have : x1 ≤ x2 := a2
        clear hδ' D D1 D2 s1 s2 ta1 ta2 B1 B2 hB hε ε1 h1 h2 hWq
        grind
      have := Rat.mul_nonneg (show 0 ≤ 2 * f by grind) a3
      grind
    have m4 := Rat.mul_le_mul_of_nonneg_left m3 (Rat.le_of_lt gg0)
    have e17 : g' * g' * ((1 - ε * (2 * f)) * (1 + δ * (2 * f))) = g' * g' * (1 - ε * (2 * f)) * (1 + δ * (2 * f)) := by grind
    rw [e17] at m4
    grind
  have fin : ∀ T : Rat, T / s = T * (2 * f) := fun T => by rw [hf]; exact div_two hs0
  have h11 := EL.add h1 h1
  have h22 := EG.add h2 h2 hgp
  rw [fin, fin]
  have hcmp := Rat.mul_le_mul_of_nonneg_right ε1 (show 0 ≤ 2 * f by grind)
  have dpos : 0 < 1 + δ * (2 * f) := by grind
  constructor
  · have k := EL.add h11 ((EG.one_add (δ * (2 * f))).neg dpos)
    refine (k.mono ?_).exp_mono ?_
    · have e18 : g' * g' * (1 / (1 + δ * (2 * f))) = g' * g' / (1 + δ * (2 * f)) := by grind
      rw [e18]
      exact div_le dpos c2
    · generalize hE W Z + 1 / 400 = H at *
      grind
  · have k := EG.add h22 (EG.one_add (δ * (2 * f))) dpos
    refine (k.mono c1).exp_mono ?_
    generalize hE W Z + 1 / 400 = H at *
    grind

end Mine

namespace Mine
open PySem.Builtin.Int (intBits)
open Ex

theorem vS_bd {z ρ c : Rat} {T : Int} (hc : 1 ≤ c) (hρ : 0 ≤ ρ) (z1 : -ρ ≤ z) (z2 : z ≤ ρ) (hcc : 1 + ρ * c ≤ c) : ∀ j : Nat, (j : Int) < T → -c ≤ vS z T j ∧ vS z T j ≤ c
  | 0, hj => by
    have hT : (1 : Rat) ≤ (T : Rat) := by
      have : 1 ≤ T := by omega
      exact_mod_cast this
    show -c ≤ 1 / (T : Rat) ∧ 1 / (T : Rat) ≤ c
    have a := div_nn (show (0 : Rat) ≤ 1 by decide) (show 0 < (T : Rat) by grind)
    have b : 1 / (T : Rat) ≤ 1 := div_le (by grind) (by grind)
    constructor <;> grind
  | j + 1, hj => by
    obtain ⟨a, b⟩ := vS_bd (T := T) hc hρ z1 z2 hcc j (by omega)
    have hi : (1 : Rat) ≤ ((T - 1 - (j : Int) : Int) : Rat) := by
      have : 1 ≤ T - 1 - (j : Int) := by omega
      exact_mod_cast this
    show -c ≤ 1 / ((T - 1 - (j : Int) : Int) : Rat) - z * vS z T j ∧ 1 / ((T - 1 - (j : Int) : Int) : Rat) - z * vS z T j ≤ c
    generalize ((T - 1 - (j : Int) : Int) : Rat) = i at *
    have p := div_nn (show (0 : Rat) ≤ 1 by decide) (show 0 < i by grind)
    have q : 1 / i ≤ 1 := div_le (by grind) (by grind)
    generalize vS z T j = v at *
    generalize 1 / i = w at *
    have m1 := Rat.mul_nonneg (show 0 ≤ ρ - z by grind) (show 0 ≤ c + v by grind)
    have m2 := Rat.mul_nonneg (show 0 ≤ ρ + z by grind) (show 0 ≤ c - v by grind)
    have m3 := Rat.mul_nonneg (show 0 ≤ ρ - z by grind) (show 0 ≤ c - v by grind)
    have m4 := Rat.mul_nonneg (show 0 ≤ ρ + z by grind) (show 0 ≤ c + v by grind)
    constructor <;> grind
theorem prod_bd {x y a b : Rat} (x1 : -a ≤ x) (x2 : x ≤ a) (y1 : -b ≤ y) (y2 : y ≤ b) : -(a * b) ≤ x * y ∧ x * y ≤ a * b := by
  have m1 := Rat.mul_nonneg (show 0 ≤ a - x by grind) (show 0 ≤ b + y by grind)
  have m2 := Rat.mul_nonneg (show 0 ≤ a + x by grind) (show 0 ≤ b - y by grind)
  have m3 := Rat.mul_nonneg (show 0 ≤ a - x by grind) (show 0 ≤ b - y by grind)
  have m4 := Rat.mul_nonneg (show 0 ≤ a + x by grind) (show 0 ≤ b + y by grind)
  constructor <;> grind
/-- vS hangs on its argument with the slope D -/
theorem vS_lip {z t ρ c D h : Rat} {T : Int} (hc : 1 ≤ c) (hρ : 0 ≤ ρ) (z1 : -ρ ≤ z) (z2 : z ≤ ρ) (t1 : -ρ ≤ t) (t2 : t ≤ ρ) (hcc : 1 + ρ * c ≤ c) (hD : 0 ≤ D) (hDD : c + ρ * D ≤ D) (h0 : 0 ≤ h) (h1 : -h ≤ z - t) (h2 : z - t ≤ h) :
    ∀ j : Nat, (j : Int) < T → -(h * D) ≤ vS z T j - vS t T j ∧ vS z T j - vS t T j ≤ h * D
  | 0, _ => by
    show -(h * D) ≤ 1 / (T : Rat) - 1 / (T : Rat) ∧ 1 / (T : Rat) - 1 / (T : Rat) ≤ h * D
    have := Rat.mul_nonneg h0 hD
    constructor <;> grind
  | j + 1, hj => by
    have ih := vS_lip (T := T) hc hρ z1 z2 t1 t2 hcc hD hDD h0 h1 h2 j (by omega)
    have b := vS_bd hc hρ t1 t2 hcc j (show (j : Int) < T by omega)
    show -(h * D) ≤ 1 / ((T - 1 - (j : Int) : Int) : Rat) - z * vS z T j - (1 / ((T - 1 - (j : Int) : Int) : Rat) - t * vS t T j) ∧ 1 / ((T - 1 - (j : Int) : Int) : Rat) - z * vS z T j - (1 / ((T - 1 - (j : Int) : Int) : Rat) - t * vS t T j) ≤ h * D
    generalize 1 / ((T - 1 - (j : Int) : Int) : Rat) = w at *
    generalize vS z T j = x at *
    generalize vS t T j = y at *
    have e : w - z * x - (w - t * y) = -(z * (x - y)) - (z - t) * y := by grind
    rw [e]
    have p1 := prod_bd z1 z2 ih.1 ih.2
    have p2 := prod_bd h1 h2 b.1 b.2
    have m := Rat.mul_le_mul_of_nonneg_left hDD h0
    have e2 : h * (c + ρ * D) = h * c + ρ * (h * D) := by grind
    rw [e2] at m
    generalize z * (x - y) = u at *
    generalize (z - t) * y = v at *
    constructor <;> grind

theorem divN_id {M : Int} : divN M 1 = M := by
  unfold divN
  have e1 : M / 1 = M := Int.ediv_one M
  have e2 : M % 1 = 0 := Int.emod_one M
  rw [e1, e2]
  have : ¬ (1 : Int) < 2 * 0 + M % 2 := by
    have := Int.emod_lt_of_pos M (show (0 : Int) < 2 by decide)
    omega
  rw [if_neg this]
  omega

/-- the last turn of the series: its first division is exact -/
theorem wS_last {M ys : Int} {T : Nat} {ζ c ρ : Rat} (hM : 0 < M) (hT : 2 ≤ T) (hz : ζ = (ys : Rat) / (M : Rat)) (hc : 1 ≤ c) (hρ : 0 ≤ ρ) (z1 : -ρ ≤ ζ) (z2 : ζ ≤ ρ) (hcc : 1 + ρ * c ≤ c) :
    (M : Rat) * vS ζ T (T - 1) - (1 / 2 + ρ * c) ≤ (wS M ys T (T - 1) : Rat) ∧ (wS M ys T (T - 1) : Rat) ≤ (M : Rat) * vS ζ T (T - 1) + (1 / 2 + ρ * c) := by
  obtain ⟨n, rfl⟩ : ∃ n, T = n + 2 := ⟨T - 2, by omega⟩
  have e1 : n + 2 - 1 = n + 1 := by omega
  rw [e1]
  obtain ⟨a, b⟩ := wS_err (ys := ys) (T := ((n + 2 : Nat) : Int)) hM (by omega) hz hc hρ z1 z2 hcc n (by omega)
  have hM' := castpos hM
  have eT : ((n + 2 : Nat) : Int) - 1 - (n : Int) = 1 := by omega
  have ew : wS M ys ((n + 2 : Nat) : Int) (n + 1) = M - divN (ys * wS M ys ((n + 2 : Nat) : Int) n) M := by
    show divN M (((n + 2 : Nat) : Int) - 1 - (n : Int)) - _ = _
    rw [eT, divN_id]
  have ev : vS ζ ((n + 2 : Nat) : Int) (n + 1) = 1 - ζ * vS ζ ((n + 2 : Nat) : Int) n := by
    show 1 / ((((n + 2 : Nat) : Int) - 1 - (n : Int) : Int) : Rat) - _ = _
    rw [eT]
    have : (1 : Rat) / ((1 : Int) : Rat) = 1 := by decide +kernel
    rw [this]
  rw [ew, ev]
  obtain ⟨d1, d2⟩ := divN_rat (a := ys * wS M ys ((n + 2 : Nat) : Int) n) hM
  rw [rat_mul_cast] at d1 d2
  have em : ((M - divN (ys * wS M ys ((n + 2 : Nat) : Int) n) M : Int) : Rat) = (M : Rat) - (divN (ys * wS M ys ((n + 2 : Nat) : Int) n) M : Rat) := Rat.intCast_sub _ _
  rw [em]
  generalize (wS M ys ((n + 2 : Nat) : Int) n : Rat) = w at *
  generalize vS ζ ((n + 2 : Nat) : Int) n = v at *
  generalize (divN (ys * wS M ys ((n + 2 : Nat) : Int) n) M : Rat) = d at *
  have ez : (ys : Rat) * w / (M : Rat) = ζ * w := by rw [hz]; grind
  rw [ez] at d1 d2
  have p := prod_bd z1 z2 (show -c ≤ w - (M : Rat) * v by grind) (show w - (M : Rat) * v ≤ c by grind)
  have e3 : ζ * (w - (M : Rat) * v) = ζ * w - (M : Rat) * (ζ * v) := by grind
  rw [e3] at p
  have e4 : (M : Rat) * (1 - ζ * v) = (M : Rat) - (M : Rat) * (ζ * v) := by grind
  rw [e4]
  generalize (M : Rat) * (ζ * v) = x at *
  generalize ζ * w = y at *
  constructor <;> grind

/-- the series of _ilog behind its halvings: X told, C and K numbers by ρ and T -/
theorem ser_alg {N s Y ζ t w X v vt lz ρ c D B2 C κ τ e a : Rat} (hN : 1000000 ≤ N) (he : e = 1 / N) (hs : 0 < s) (ht : t = Y / s) (ha : 0 ≤ a) (hta : t = a ∨ t = -a)
    (hζ1 : -(e / 2) ≤ ζ - t) (hζ2 : ζ - t ≤ e / 2) (hw1 : N * v - (1 / 2 + ρ * c) ≤ w) (hw2 : w ≤ N * v + (1 / 2 + ρ * c)) (hX1 : w * Y / N - 1 / 2 ≤ X) (hX2 : X ≤ w * Y / N + 1 / 2)
    (hl1 : -(e / 2 * (B2 + ρ * D)) ≤ v - vt) (hl2 : v - vt ≤ e / 2 * (B2 + ρ * D)) (hv : κ ≤ v) (hκ : 9 / 10 ≤ κ) (hlz : t * vt = lz) (hρc : 0 ≤ ρ * c) (hρc1 : ρ * c ≤ 1 / 4) (hBD : 0 ≤ B2 + ρ * D) (hτ0 : 0 ≤ τ)
    (hC : 1 / 2 + ρ * c + (B2 + ρ * D) / 2 + τ ≤ C) (hCκ : C ≤ 145 / 100 * (κ - 1 / 1000000)) :
    ∃ Z : Rat, 0 ≤ Z ∧ X ≤ Z * N ∧ -(Z * N) ≤ X ∧ Z * N = (if 0 ≤ X then X else -X) ∧ s * lz + s * (a * τ * e) ≤ X + (501 / 1000 + 145 / 100 * Z) ∧ X - (501 / 1000 + 145 / 100 * Z) ≤ s * lz - s * (a * τ * e) := by
  have hN0 : 0 < N := by grind
  have he0 : 0 < e := by rw [he]; exact div_pos (by decide) hN0
  have he1 : e ≤ 1 / 1000000 := by rw [he]; exact div_le hN0 (by grind)
  have eN : e * N = 1 := by grind
  have eY : Y = s * t := by rw [ht]; grind
  obtain ⟨A, hA⟩ : ∃ A, A = s * a := ⟨_, rfl⟩
  have A0 : 0 ≤ A := by rw [hA]; exact Rat.mul_nonneg (Rat.le_of_lt hs) ha
  have YA : -A ≤ Y ∧ Y ≤ A := by
    rw [eY, hA]
    rcases hta with h | h <;> rw [h]
    · have := Rat.mul_nonneg (Rat.le_of_lt hs) ha
      constructor <;> grind
    · have := Rat.mul_nonneg (Rat.le_of_lt hs) ha
      constructor <;> grind
  -- w Y / N = Y v + (w - N v) Y e
  have e1 : w * Y / N = Y * v + (w - N * v) * (Y * e) := by
    have : (w - N * v) * (Y * e) = w * Y * e - (e * N) * (Y * v) := by grind
    rw [this, eN, he]; grind
  rw [e1] at hX1 hX2
  have Ye : -(A * e) ≤ Y * e ∧ Y * e ≤ A * e := ⟨by have := Rat.mul_le_mul_of_nonneg_right YA.1 (Rat.le_of_lt he0); grind, Rat.mul_le_mul_of_nonneg_right YA.2 (Rat.le_of_lt he0)⟩
  have p1 := prod_bd (show -(1 / 2 + ρ * c) ≤ w - N * v by grind) (show w - N * v ≤ 1 / 2 + ρ * c by grind) Ye.1 Ye.2
  have p2 := prod_bd YA.1 YA.2 hl1 hl2
  have e2 : Y * (v - vt) = Y * v - s * lz := by rw [← hlz, eY]; grind
  rw [e2] at p2
  have e3 : A * (e / 2 * (B2 + ρ * D)) = (B2 + ρ * D) / 2 * (A * e) := by grind
  rw [e3] at p2
  have e4 : s * (a * τ * e) = τ * (A * e) := by rw [hA]; grind
  rw [e4]
  have Ae0 : 0 ≤ A * e := Rat.mul_nonneg A0 (Rat.le_of_lt he0)
  have hCA := Rat.mul_le_mul_of_nonneg_right hC Ae0
  have e5 : (1 / 2 + ρ * c + (B2 + ρ * D) / 2 + τ) * (A * e) = (1 / 2 + ρ * c) * (A * e) + (B2 + ρ * D) / 2 * (A * e) + τ * (A * e) := by grind
  rw [e5] at hCA
  -- |X| ≥ κ A - ..
  have big : (κ - 1 / 1000000) * A ≤ (if 0 ≤ X then X else -X) + 1 / 2 := by
    have v0 : 0 < v := by grind
    have kA := Rat.mul_le_mul_of_nonneg_right hv A0
    have small : (1 / 2 + ρ * c) * (A * e) ≤ 1 / 1000000 * A := by
      have a1 : (1 / 2 + ρ * c) * e ≤ 1 / 1000000 := by
        have := Rat.mul_le_mul_of_nonneg_right (show 1 / 2 + ρ * c ≤ 1 by grind) (Rat.le_of_lt he0)
        grind
      have := Rat.mul_le_mul_of_nonneg_right a1 A0
      grind
    rcases hta with h | h
    · have eYA : Y = A := by rw [eY, hA, h]
      have : A * v = v * A := by grind
      split
      · rw [eYA] at hX1 p1; grind
      · rw [eYA] at hX1 p1; grind
    · have eYA : Y = -A := by rw [eY, hA, h]; grind
      have e6 : -A * v = -(v * A) := by grind
      have e7 : -A * e = -(A * e) := by grind
      split
      · rw [eYA, e6, e7] at hX2; rw [eYA, e7] at p1; grind
      · rw [eYA, e6, e7] at hX2; rw [eYA, e7] at p1; grind
  obtain ⟨U, hU⟩ : ∃ U, U = (if 0 ≤ X then X else -X) := ⟨_, rfl⟩
  rw [← hU] at big
  have U0 : 0 ≤ U ∧ X ≤ U ∧ -U ≤ X := by rw [hU]; split <;> (refine ⟨?_, ?_, ?_⟩ <;> grind)
  have UN : U * e * N = U := by
    have : U * e * N = U * (e * N) := by grind
    rw [this, eN]; grind
  refine ⟨U * e, Rat.mul_nonneg U0.1 (Rat.le_of_lt he0), by rw [UN]; exact U0.2.1, by rw [UN]; exact U0.2.2, by rw [UN, hU], ?_⟩
  -- C A e ≤ 1.45 (U + 1 / 2) e
  have fin : C * (A * e) ≤ 145 / 100 * (U * e) + 145 / 200 * e := by
    have a1 := Rat.mul_le_mul_of_nonneg_right hCκ Ae0
    have a2 := Rat.mul_le_mul_of_nonneg_right big (Rat.le_of_lt he0)
    have e8 : 145 / 100 * (κ - 1 / 1000000) * (A * e) = 145 / 100 * ((κ - 1 / 1000000) * A * e) := by grind
    rw [e8] at a1
    have e9 : (U + 1 / 2) * e = U * e + e / 2 := by grind
    rw [e9] at a2
    generalize (κ - 1 / 1000000) * A * e = x at *
    grind
  generalize (1 / 2 + ρ * c) * (A * e) = x1 at *
  generalize (B2 + ρ * D) / 2 * (A * e) = x2 at *
  generalize τ * (A * e) = x3 at *
  generalize C * (A * e) = x4 at *
  generalize (w - N * v) * (Y * e) = x5 at *
  generalize U * e = x6 at *
  constructor <;> grind

end Mine

namespace Mine
open PySem.Builtin.Int (intBits)
open Ex

theorem vS_pen {z ρ c : Rat} {n : Nat} (hc : 1 ≤ c) (hρ : 0 ≤ ρ) (z1 : -ρ ≤ z) (z2 : z ≤ ρ) (hcc : 1 + ρ * c ≤ c) :
    vS z ((n + 3 : Nat) : Int) (n + 2) = 1 - z * vS z ((n + 3 : Nat) : Int) (n + 1) ∧ -(1 / 2 + ρ * c) ≤ vS z ((n + 3 : Nat) : Int) (n + 1) ∧ vS z ((n + 3 : Nat) : Int) (n + 1) ≤ 1 / 2 + ρ * c := by
  have e1 : ((n + 3 : Nat) : Int) - 1 - ((n + 1 : Nat) : Int) = 1 := by omega
  have e2 : ((n + 3 : Nat) : Int) - 1 - (n : Int) = 2 := by omega
  obtain ⟨a, b⟩ := vS_bd (T := ((n + 3 : Nat) : Int)) hc hρ z1 z2 hcc n (by omega)
  refine ⟨?_, ?_⟩
  · show 1 / ((((n + 3 : Nat) : Int) - 1 - ((n + 1 : Nat) : Int) : Int) : Rat) - _ = _
    rw [e1]
    have : (1 : Rat) / ((1 : Int) : Rat) = 1 := by decide +kernel
    rw [this]
  · have ev : vS z ((n + 3 : Nat) : Int) (n + 1) = 1 / 2 - z * vS z ((n + 3 : Nat) : Int) n := by
      show 1 / ((((n + 3 : Nat) : Int) - 1 - (n : Int) : Int) : Rat) - _ = _
      rw [e2]
      have : (1 : Rat) / ((2 : Int) : Rat) = 1 / 2 := by decide +kernel
      rw [this]
    rw [ev]
    have p := prod_bd z1 z2 a b
    generalize z * vS z ((n + 3 : Nat) : Int) n = u at *
    constructor <;> grind

theorem ilog_ser_core {M y L : Int} {R : Nat} {ρ c D τ : Rat} (hM : 1000000 ≤ M) (hL : 3 ≤ L) (hL2 : L ≤ 10) (hstop : ¬ Halves M L y R)
    (hc : 1 ≤ c) (hρ : 0 ≤ ρ) (hcc : 1 + ρ * c ≤ c) (hD : 0 ≤ D) (hDD : c + ρ * D ≤ D) (hρc1 : ρ * c ≤ 1 / 4) (hρ4 : ρ ≤ 1 / 4) (hτ0 : 0 ≤ τ) (hρL : ∀ a : Rat, 0 ≤ a → a * (2 : Rat) ^ L.toNat ≤ 1 → a + 1 / 2000000 ≤ ρ) (hτ : 2 ≤ τ * (((tOf M L).toNat : Rat) + 1))
    (hκ : 9 / 10 ≤ 1 - ρ * (1 / 2 + ρ * c)) (hC : 1 / 2 + ρ * c + (1 / 2 + ρ * c + ρ * D) / 2 + τ ≤ 145 / 100 * (1 - ρ * (1 / 2 + ρ * c) - 1 / 1000000)) :
    ∃ Z : Rat, 0 ≤ Z ∧ (divN (wS M (divN y (2 ^ R)) (tOf M L) (tOf M L - 1).toNat * y) M : Rat) ≤ Z * (M : Rat) ∧ -(Z * (M : Rat)) ≤ (divN (wS M (divN y (2 ^ R)) (tOf M L) (tOf M L - 1).toNat * y) M : Rat) ∧
      Z * (M : Rat) = (if 0 ≤ (divN (wS M (divN y (2 ^ R)) (tOf M L) (tOf M L - 1).toNat * y) M : Rat) then (divN (wS M (divN y (2 ^ R)) (tOf M L) (tOf M L - 1).toNat * y) M : Rat) else -(divN (wS M (divN y (2 ^ R)) (tOf M L) (tOf M L - 1).toNat * y) M : Rat)) ∧
      EL (((divN (wS M (divN y (2 ^ R)) (tOf M L) (tOf M L - 1).toNat * y) M : Rat) - (501 / 1000 + 145 / 100 * Z)) / ((M : Rat) * P R)) (1 + (y : Rat) / ((M : Rat) * P R)) ∧
      EG (((divN (wS M (divN y (2 ^ R)) (tOf M L) (tOf M L - 1).toNat * y) M : Rat) + (501 / 1000 + 145 / 100 * Z)) / ((M : Rat) * P R)) (1 + (y : Rat) / ((M : Rat) * P R)) := by
  have hM' : 0 < M := by omega
  have hM0 := castpos hM'
  have hM6 : (1000000 : Rat) ≤ (M : Rat) := castle hM
  have hs := Rat.mul_pos hM0 (P_pos R)
  have hT3 := tOf3 hM hL hL2
  obtain ⟨n, hn⟩ : ∃ n : Nat, (tOf M L).toNat = n + 3 := ⟨(tOf M L).toNat - 3, by omega⟩
  have eT : tOf M L = ((n + 3 : Nat) : Int) := by omega
  have eT1 : (tOf M L - 1).toNat = n + 2 := by omega
  rw [eT1, eT]
  rw [hn] at hτ
  -- t and a
  obtain ⟨a, a0, az, aX⟩ := absz (x := y) (Ms := M * 2 ^ R) (shl_pos hM' R)
  have es : ((M * 2 ^ R : Int) : Rat) = (M : Rat) * P R := by rw [rat_mul_cast, P_int]
  rw [es] at az aX
  have aL : a * (2 : Rat) ^ L.toNat ≤ 1 := by
    have h : (y.natAbs : Int) * 2 ^ L.toNat ≤ M * 2 ^ R := by unfold Halves at hstop; omega
    have h2 := castle h
    rw [rat_mul_cast, es, P_int] at h2
    have e1 : (2 : Rat) ^ L.toNat = P L.toNat := rfl
    rw [← aX] at h2
    rw [e1]
    have e2 : a * ((M : Rat) * P R) * P L.toNat = a * P L.toNat * ((M : Rat) * P R) := by
      generalize (M : Rat) * P R = s at *
      grind
    rw [e2] at h2
    have h3 := le_div hs h2
    have e3 : (M : Rat) * P R / ((M : Rat) * P R) = 1 := by
      generalize (M : Rat) * P R = s at *
      grind
    rwa [e3] at h3
  have aρ := hρL a a0 aL
  obtain ⟨e, he⟩ : ∃ e : Rat, e = 1 / (M : Rat) := ⟨_, rfl⟩
  have he0 : 0 < e := by rw [he]; exact div_pos (by decide) hM0
  have he1 : e ≤ 1 / 1000000 := by rw [he]; exact div_le hM0 (by grind)
  -- ζ near t
  obtain ⟨ζ, hζ⟩ : ∃ ζ : Rat, ζ = (divN y (2 ^ R) : Rat) / (M : Rat) := ⟨_, rfl⟩
  obtain ⟨t, ht⟩ : ∃ t : Rat, t = (y : Rat) / ((M : Rat) * P R) := ⟨_, rfl⟩
  rw [← ht] at az
  have dz : -(e / 2) ≤ ζ - t ∧ ζ - t ≤ e / 2 := by
    obtain ⟨d1, d2⟩ := divN_rat (a := y) (two_pow_pos R)
    rw [P_int] at d1 d2
    have hP := P_pos R
    have e4 : ζ = (divN y (2 ^ R) : Rat) * e := by rw [hζ, he]; clear d1 d2; grind
    have e5 : t = (y : Rat) / P R * e := by rw [ht, he]; clear d1 d2; grind
    have m1 := Rat.mul_le_mul_of_nonneg_right d1 (Rat.le_of_lt he0)
    have m2 := Rat.mul_le_mul_of_nonneg_right d2 (Rat.le_of_lt he0)
    rw [e4, e5]
    generalize (y : Rat) / P R = u at *
    generalize (divN y (2 ^ R) : Rat) = u' at *
    constructor <;> grind
  have tρ : -ρ ≤ t ∧ t ≤ ρ := by rcases az with h | h <;> rw [h] <;> constructor <;> grind
  have ζρ : -ρ ≤ ζ ∧ ζ ≤ ρ := by rcases az with h | h <;> rw [h] at dz <;> constructor <;> grind
  obtain ⟨v1, v2, v3⟩ := vS_pen (n := n) hc hρ ζρ.1 ζρ.2 hcc
  obtain ⟨u1, u2, u3⟩ := vS_pen (n := n) hc hρ tρ.1 tρ.2 hcc
  have lip := vS_lip (T := ((n + 3 : Nat) : Int)) hc hρ ζρ.1 ζρ.2 tρ.1 tρ.2 hcc hD hDD (show 0 ≤ e / 2 by grind) dz.1 dz.2 (n + 1) (by omega)
  have hw := wS_last (T := n + 3) hM' (by omega) hζ hc hρ ζρ.1 ζρ.2 hcc
  have hl := vS_last t (T := n + 3) (by omega)
  have hX := divN_rat (a := wS M (divN y (2 ^ R)) ((n + 3 : Nat) : Int) (n + 2) * y) hM'
  rw [rat_mul_cast] at hX
  have e32 : n + 3 - 1 = n + 2 := by omega
  rw [e32] at hw hl
  have hv := prod_bd ζρ.1 ζρ.2 v2 v3
  have lips : -(e / 2 * (1 / 2 + ρ * c + ρ * D)) ≤ vS ζ ((n + 3 : Nat) : Int) (n + 2) - vS t ((n + 3 : Nat) : Int) (n + 2) ∧ vS ζ ((n + 3 : Nat) : Int) (n + 2) - vS t ((n + 3 : Nat) : Int) (n + 2) ≤ e / 2 * (1 / 2 + ρ * c + ρ * D) := by
    rw [v1, u1]
    have p1 := prod_bd ζρ.1 ζρ.2 lip.1 lip.2
    have p2 := prod_bd dz.1 dz.2 u2 u3
    generalize vS ζ ((n + 3 : Nat) : Int) (n + 1) = x at *
    generalize vS t ((n + 3 : Nat) : Int) (n + 1) = z at *
    have e6 : 1 - ζ * x - (1 - t * z) = -(ζ * (x - z)) - (ζ - t) * z := by clear hX hw hl hv lip p1 p2; grind
    rw [e6]
    have e7 : e / 2 * (1 / 2 + ρ * c + ρ * D) = ρ * (e / 2 * D) + e / 2 * (1 / 2 + ρ * c) := by clear hX hw hl hv lip p1 p2; grind
    rw [e7]
    generalize ζ * (x - z) = x1 at *
    generalize (ζ - t) * z = x2 at *
    generalize ρ * (e / 2 * D) = x3 at *
    generalize e / 2 * (1 / 2 + ρ * c) = x4 at *
    clear hX hw hl hv lip
    constructor <;> grind
  have ρc0 : 0 ≤ ρ * c := Rat.mul_nonneg hρ (by grind)
  have ρD0 : 0 ≤ ρ * D := Rat.mul_nonneg hρ hD
  obtain ⟨Z, z0, z1, z2, z3, z4, z5⟩ := ser_alg (s := (M : Rat) * P R) (Y := (y : Rat)) (B2 := 1 / 2 + ρ * c) (κ := 1 - ρ * (1 / 2 + ρ * c)) (C := 1 / 2 + ρ * c + (1 / 2 + ρ * c + ρ * D) / 2 + τ) hM6 he hs ht a0 az dz.1 dz.2 hw.1 hw.2 hX.1 hX.2 lips.1 lips.2 (by rw [v1]; clear hX hw hl lips lip; grind) hκ hl ρc0 hρc1 (by grind) hτ0 Rat.le_refl hC
  refine ⟨Z, z0, z1, z2, z3, ?_⟩
  have ls := log_series (y := t) (a := a) a0 (by grind) az (n + 3)
  -- the rest of the series
  have rest : 2 * rZ (n + 3) a ≤ a * τ * e := by
    have ps := pow_small_M hM' (show 0 < L by omega) a0 aL
    rw [hn] at ps
    have h1 : a ^ (n + 3) ≤ e := by
      rw [he]
      exact le_div hM0 ps
    unfold rZ
    have hn1 : (0 : Rat) < ((n + 3 : Nat) : Rat) + 1 := by
      have : (0 : Rat) ≤ ((n + 3 : Nat) : Rat) := by exact_mod_cast Nat.zero_le _
      grind
    have e8 : 2 * (a * a ^ (n + 3) / (((n + 3 : Nat) : Rat) + 1)) = 2 * (a * a ^ (n + 3)) / (((n + 3 : Nat) : Rat) + 1) := by
      generalize ((n + 3 : Nat) : Rat) + 1 = k at *
      generalize a * a ^ (n + 3) = k2 at *
      grind
    rw [e8]
    refine div_le hn1 ?_
    have m1 := Rat.mul_le_mul_of_nonneg_left h1 a0
    have ae0 : 0 ≤ a * e := Rat.mul_nonneg a0 (Rat.le_of_lt he0)
    have m2 := Rat.mul_le_mul_of_nonneg_right hτ ae0
    have e9 : a * τ * e * (((n + 3 : Nat) : Rat) + 1) = τ * (((n + 3 : Nat) : Rat) + 1) * (a * e) := by
      generalize ((n + 3 : Nat) : Rat) + 1 = k at *
      grind
    rw [e9]
    generalize a * a ^ (n + 3) = k2 at *
    generalize a * e = k3 at *
    exact Rat.le_trans (by grind) m2
  have m := Rat.mul_le_mul_of_nonneg_left rest (Rat.le_of_lt hs)
  generalize (M : Rat) * P R = s at *
  rw [← ht]
  constructor
  · refine ls.1.exp_mono (div_le hs ?_)
    have e10 : (lZ (n + 3) t - 2 * rZ (n + 3) a) * s = s * lZ (n + 3) t - s * (2 * rZ (n + 3) a) := by
      generalize lZ (n + 3) t = x1
      generalize 2 * rZ (n + 3) a = x2
      clear m ls z4 z5 z3 hX hw hl lips lip hv
      grind
    rw [e10]
    generalize s * (2 * rZ (n + 3) a) = x1 at *
    generalize s * (a * τ * e) = x2 at *
    generalize s * lZ (n + 3) t = x3 at *
    clear hX hw hl lips lip hv ls z3
    grind
  · refine ls.2.exp_mono (le_div hs ?_)
    have e10 : (lZ (n + 3) t + 2 * rZ (n + 3) a) * s = s * lZ (n + 3) t + s * (2 * rZ (n + 3) a) := by
      generalize lZ (n + 3) t = x1
      generalize 2 * rZ (n + 3) a = x2
      clear m ls z4 z5 z3 hX hw hl lips lip hv
      grind
    rw [e10]
    generalize s * (2 * rZ (n + 3) a) = x1 at *
    generalize s * (a * τ * e) = x2 at *
    generalize s * lZ (n + 3) t = x3 at *
    clear hX hw hl lips lip hv ls z3
    grind

theorem tOf8 {M : Int} (hM : 1000000 ≤ M) : 8 ≤ tOf M 3 := by
  have := six_digs hM
  unfold tOf
  omega
/-- the series of _ilog, the halvings done -/
theorem ilog_ser {M y L : Int} {R : Nat} (hM : 1000000 ≤ M) (hL : 3 ≤ L) (hL2 : L ≤ 10) (hstop : ¬ Halves M L y R) {X : Int} (hX : divN (wS M (divN y (2 ^ R)) (tOf M L) (tOf M L - 1).toNat * y) M = X) :
    ∃ Z : Rat, 0 ≤ Z ∧ (X : Rat) ≤ Z * (M : Rat) ∧ -(Z * (M : Rat)) ≤ (X : Rat) ∧ Z * (M : Rat) = (if 0 ≤ (X : Rat) then (X : Rat) else -(X : Rat)) ∧
      EL (((X : Rat) - (501 / 1000 + 145 / 100 * Z)) / ((M : Rat) * P R)) (1 + (y : Rat) / ((M : Rat) * P R)) ∧
      EG (((X : Rat) + (501 / 1000 + 145 / 100 * Z)) / ((M : Rat) * P R)) (1 + (y : Rat) / ((M : Rat) * P R)) := by
  subst hX
  have two : ∀ (k : Nat) (a : Rat), k ≤ L.toNat → 0 ≤ a → a * (2 : Rat) ^ L.toNat ≤ 1 → a * P k ≤ 1 := fun k a hk a0 h => by
    have e : (2 : Rat) ^ L.toNat = P L.toNat := rfl
    rw [e] at h
    exact Rat.le_trans (Rat.mul_le_mul_of_nonneg_left (P_mono hk) a0) h
  have tn : ∀ n : Nat, (n : Int) ≤ tOf M L → (n : Rat) ≤ ((tOf M L).toNat : Rat) := fun n h => by
    have : n ≤ (tOf M L).toNat := by omega
    exact_mod_cast this
  rcases Int.lt_or_le 3 L with h | h
  · refine ilog_ser_core (ρ := 6251 / 100000) (c := 10668 / 10000) (D := 1138 / 1000) (τ := 1 / 2) hM hL hL2 hstop (by decide +kernel) (by decide +kernel) (by decide +kernel) (by decide +kernel) (by decide +kernel) (by decide +kernel) (by decide +kernel) (by decide +kernel) (fun a a0 ha => ?_) ?_ (by decide +kernel) (by decide +kernel)
    · have := two 4 a (by omega) a0 ha
      have e : P 4 = 16 := by decide +kernel
      rw [e] at this
      grind
    · have := tn 3 (tOf3 hM hL hL2)
      have e : ((3 : Nat) : Rat) = 3 := rfl
      rw [e] at this
      grind
  · have e3 : L = 3 := by omega
    subst e3
    refine ilog_ser_core (ρ := 12501 / 100000) (c := 1143 / 1000) (D := 1307 / 1000) (τ := 2 / 9) hM hL hL2 hstop (by decide +kernel) (by decide +kernel) (by decide +kernel) (by decide +kernel) (by decide +kernel) (by decide +kernel) (by decide +kernel) (by decide +kernel) (fun a a0 ha => ?_) ?_ (by decide +kernel) (by decide +kernel)
    · have := two 3 a (by decide) a0 ha
      have e : P 3 = 8 := by decide +kernel
      rw [e] at this
      grind
    · have := tn 8 (tOf8 hM)
      have e : ((8 : Nat) : Rat) = 8 := rfl
      rw [e] at this
      grind

end Mine

namespace Mine
open PySem.Builtin.Int (intBits)
open Ex

theorem hal_crude {N s r Y Y' e g g' m c μ : Rat} (hN : 1000000 ≤ N) (he : e = 1 / N) (hs : N ≤ s) (hr : 0 < r) (hg : g = 1 + Y / s) (hg' : g' = 1 + Y' / (2 * s))
    (t1 : -(r + N / 2) ≤ r * r - N * N * g) (t2 : r * r - N * N * g ≤ r + N / 2) (b1 : 2 * N * Y / (N + r) - 1 / 2 ≤ Y') (b2 : Y' ≤ 2 * N * Y / (N + r) + 1 / 2)
    (hm : m ≤ g) (hm0 : 0 < m) (hμ0 : 1 / 4 ≤ μ) (hμ1 : μ ≤ 1) (hμ : μ * μ + 2 / 1000000 ≤ m) (hc : 5001 / 10000 ≤ (c * μ - 15001 / 10000) * μ) (hc12 : c ≤ 12) (hc0 : 0 ≤ c) (hcμ : 15001 / 10000 ≤ c * μ) :
    0 < g' ∧ g' * g' ≤ g * (1 + c * e) ∧ g * (1 - c * e) ≤ g' * g' := by
  have hN0 : 0 < N := by grind
  have hs0 : 0 < s := by grind
  have hNr : 0 < N + r := by grind
  have he0 : 0 < e := by rw [he]; exact div_pos (by decide) hN0
  have he1 : e ≤ 1 / 1000000 := by rw [he]; exact div_le hN0 (by grind)
  obtain ⟨f, hf⟩ : ∃ f, f = 1 / (2 * s) := ⟨_, rfl⟩
  have f0 : 0 < f := by rw [hf]; exact div_pos (by decide) (by grind)
  have eN : e * N = 1 := by grind
  have fe : 2 * f ≤ e := by
    have : f ≤ e / 2 := by
      rw [hf]
      refine div_le (by grind) ?_
      have := Rat.mul_le_mul_of_nonneg_left hs (Rat.le_of_lt he0)
      grind
    grind
  obtain ⟨g0, hg0⟩ : ∃ g0, g0 = (r + N * g) / (N + r) := ⟨_, rfl⟩
  have gp : 0 < g := by grind
  have g0p : 0 < g0 := by
    rw [hg0]
    have := Rat.mul_pos hN0 gp
    exact div_pos (by grind) hNr
  have d1 : g' - f / 2 ≤ g0 ∧ g0 ≤ g' + f / 2 := by
    have e3 : g0 = 1 + 2 * N * Y / (N + r) * f := by
      rw [hg0, hg, hf]
      have : N + r ≠ 0 := by grind
      grind
    have e4 : g' = 1 + Y' * f := by rw [hg', hf]; grind
    have m1 := Rat.mul_le_mul_of_nonneg_right b1 (Rat.le_of_lt f0)
    have m2 := Rat.mul_le_mul_of_nonneg_right b2 (Rat.le_of_lt f0)
    rw [e3, e4]
    constructor <;> grind
  obtain ⟨B1, B2⟩ := hal_g0 (a := 1) hN he hr (by decide) hg0 (Rat.le_of_lt g0p) t1 t2 (by grind) (by grind)
  clear t1 t2 b1 b2 hg hg' hf hg0
  have eB : 1 * e * (g0 + 1 / 2) * (1 + 8 * e) = e * ((g0 + 1 / 2) * (1 + 8 * e)) := by grind
  rw [eB] at B1 B2
  have s8 : (g0 + 1 / 2) * (1 + 8 * e) ≤ g0 + 1 / 2 + 1 / 100000 * (g0 + 1 / 2) := by
    have := Rat.mul_le_mul_of_nonneg_left (show 8 * e ≤ 1 / 100000 by grind) (show 0 ≤ g0 + 1 / 2 by grind)
    grind
  have B3 := Rat.mul_le_mul_of_nonneg_left s8 (Rat.le_of_lt he0)
  -- g0 is no less than μ
  have gμ : μ ≤ g0 := by
    refine Classical.byContradiction fun hn => ?_
    have h1 : g0 < μ := by grind
    have h2 : g0 * g0 ≤ μ * μ := by
      have a1 := Rat.mul_le_mul_of_nonneg_left (Rat.le_of_lt h1) (Rat.le_of_lt g0p)
      have a2 := Rat.mul_le_mul_of_nonneg_right (Rat.le_of_lt h1) (show 0 ≤ μ by grind)
      grind
    have h3 : e * (g0 + 1 / 2 + 1 / 100000 * (g0 + 1 / 2)) < e * 2 := Rat.mul_lt_mul_of_pos_left (by grind) he0
    grind
  have k : c * g0 ≥ c * μ := Rat.mul_le_mul_of_nonneg_left gμ hc0
  -- c g0 g0 - 15001 / 10000 g0 - 5001 / 10000 ≥ 0
  have key : 15001 / 10000 * g0 + 5001 / 10000 ≤ c * (g0 * g0) := by
    have a1 := Rat.mul_le_mul_of_nonneg_right k (Rat.le_of_lt g0p)
    have a2 := Rat.mul_le_mul_of_nonneg_left gμ (show 0 ≤ c * μ - 15001 / 10000 by grind)
    have e1 : c * g0 * g0 = c * (g0 * g0) := by grind
    rw [e1] at a1
    grind
  -- g' g' near g0 g0
  have g'p : 0 < g' := by grind
  have r1 : -(f * g0 + f * f / 4) ≤ g' * g' - g0 * g0 ∧ g' * g' - g0 * g0 ≤ f * g0 + f * f / 4 := by
    have e5 : g' * g' - g0 * g0 = (g' - g0) * (g' + g0) := by grind
    rw [e5]
    have p1 := Rat.mul_nonneg (show 0 ≤ f / 2 - (g' - g0) by grind) (show 0 ≤ g' + g0 by grind)
    have p2 := Rat.mul_nonneg (show 0 ≤ f / 2 + (g' - g0) by grind) (show 0 ≤ g' + g0 by grind)
    have p3 := Rat.mul_le_mul_of_nonneg_left (show g' + g0 ≤ 2 * g0 + f / 2 by grind) (show 0 ≤ f / 2 by grind)
    constructor <;> grind
  have ff : f * f ≤ 1 / 1000000 * e := by
    have a1 := Rat.mul_le_mul_of_nonneg_left (show f ≤ 1 / 1000000 by grind) (Rat.le_of_lt f0)
    grind
  have fg : f * g0 ≤ e / 2 * g0 := Rat.mul_le_mul_of_nonneg_right (by grind) (Rat.le_of_lt g0p)
  have ec : c * e ≤ 12 / 1000000 := by
    have a1 := Rat.mul_le_mul_of_nonneg_right hc12 (Rat.le_of_lt he0)
    grind
  -- D ≤ e (3/2 g0 + 1/2 + ..)
  have D1 : g' * g' - g ≤ e * (15000 / 10000 * g0 + 1 / 2 + 2 / 100000 * (g0 + 1)) := by grind
  have D2 : -(e * (15000 / 10000 * g0 + 1 / 2 + 2 / 100000 * (g0 + 1))) ≤ g' * g' - g := by grind
  -- c e g ≥ e (c g0 g0 - ..)
  have G : e * (15000 / 10000 * g0 + 1 / 2 + 2 / 100000 * (g0 + 1)) ≤ g * (c * e) := by
    have a1 := Rat.mul_le_mul_of_nonneg_left (show g0 * g0 - e * (g0 + 1 / 2 + 1 / 100000 * (g0 + 1 / 2)) ≤ g by grind) (Rat.mul_nonneg hc0 (Rat.le_of_lt he0))
    have e6 : c * e * (g0 * g0 - e * (g0 + 1 / 2 + 1 / 100000 * (g0 + 1 / 2))) = e * (c * (g0 * g0)) - e * (c * e * (g0 + 1 / 2 + 1 / 100000 * (g0 + 1 / 2))) := by grind
    rw [e6] at a1
    have a2 := Rat.mul_le_mul_of_nonneg_right ec (show 0 ≤ g0 + 1 / 2 + 1 / 100000 * (g0 + 1 / 2) by grind)
    have a3 : 15000 / 10000 * g0 + 1 / 2 + 2 / 100000 * (g0 + 1) ≤ c * (g0 * g0) - c * e * (g0 + 1 / 2 + 1 / 100000 * (g0 + 1 / 2)) := by
      generalize c * e * (g0 + 1 / 2 + 1 / 100000 * (g0 + 1 / 2)) = x1 at *
      generalize c * (g0 * g0) = x2 at *
      grind
    have a4 := Rat.mul_le_mul_of_nonneg_left a3 (Rat.le_of_lt he0)
    have e7 : e * (c * (g0 * g0) - c * e * (g0 + 1 / 2 + 1 / 100000 * (g0 + 1 / 2))) = e * (c * (g0 * g0)) - e * (c * e * (g0 + 1 / 2 + 1 / 100000 * (g0 + 1 / 2))) := by grind
    rw [e7] at a4
    have e8 : c * e * g = g * (c * e) := by grind
    rw [e8] at a1
    exact Rat.le_trans a4 a1
  refine ⟨g'p, ?_, ?_⟩
  · have : g * (1 + c * e) = g + g * (c * e) := by grind
    rw [this]
    generalize g * (c * e) = x1 at *
    generalize e * (15000 / 10000 * g0 + 1 / 2 + 2 / 100000 * (g0 + 1)) = x2 at *
    grind
  · have : g * (1 - c * e) = g - g * (c * e) := by grind
    rw [this]
    generalize g * (c * e) = x1 at *
    generalize e * (15000 / 10000 * g0 + 1 / 2 + 2 / 100000 * (g0 + 1)) = x2 at *
    grind

/-- what a halving is, in rationals -/
noncomputable def gH (M x : Int) (j : Nat) : Rat := 1 + (yH M x j : Rat) / ((M : Rat) * P j)
theorem hal_facts {M x : Int} {j : Nat} (hM : 0 < M) (hpos : 0 < M + divN (yH M x j) (2 ^ j)) :
    ∃ r : Rat, 0 < r ∧ -(r + (M : Rat) / 2) ≤ r * r - (M : Rat) * (M : Rat) * gH M x j ∧ r * r - (M : Rat) * (M : Rat) * gH M x j ≤ r + (M : Rat) / 2 ∧
      2 * (M : Rat) * (yH M x j : Rat) / ((M : Rat) + r) - 1 / 2 ≤ (yH M x (j + 1) : Rat) ∧ (yH M x (j + 1) : Rat) ≤ 2 * (M : Rat) * (yH M x j : Rat) / ((M : Rat) + r) + 1 / 2 := by
  have hM0 := castpos hM
  have hn : 0 < M * (M + divN (yH M x j) (2 ^ j)) := Int.mul_pos hM hpos
  obtain ⟨r0, r1, r2⟩ := sqrtN_spec hn
  have ey : yH M x (j + 1) = divN (M * yH M x j * 2) (M + sqrtN (M * (M + divN (yH M x j) (2 ^ j)))) := rfl
  rw [ey]
  obtain ⟨d1, d2⟩ := divN_rat (a := yH M x j) (two_pow_pos j)
  rw [P_int] at d1 d2
  have hP := P_pos j
  have er : ((M * (M + divN (yH M x j) (2 ^ j)) : Int) : Rat) = (M : Rat) * ((M : Rat) + (divN (yH M x j) (2 ^ j) : Rat)) := by rw [rat_mul_cast, Rat.intCast_add]
  generalize sqrtN (M * (M + divN (yH M x j) (2 ^ j))) = r at *
  have hr := castpos r0
  have q1 : (r : Rat) * (r : Rat) - (r : Rat) ≤ (M : Rat) * ((M : Rat) + (divN (yH M x j) (2 ^ j) : Rat)) := by
    rw [← er, ← rat_mul_cast, ← Rat.intCast_sub]; exact castle (by omega)
  have q2 : (M : Rat) * ((M : Rat) + (divN (yH M x j) (2 ^ j) : Rat)) ≤ (r : Rat) * (r : Rat) + (r : Rat) := by
    rw [← er, ← rat_mul_cast, ← Rat.intCast_add]; exact castle r2
  have eg : (M : Rat) * (M : Rat) * gH M x j = (M : Rat) * ((M : Rat) + (yH M x j : Rat) / P j) := by
    unfold gH
    generalize (yH M x j : Rat) = y at *
    generalize P j = p at *
    clear q1 q2 d1 d2 er
    grind
  obtain ⟨c1, c2⟩ := divN_rat (a := M * yH M x j * 2) (b := M + r) (by omega)
  have e1 : ((M * yH M x j * 2 : Int) : Rat) / ((M + r : Int) : Rat) = 2 * (M : Rat) * (yH M x j : Rat) / ((M : Rat) + (r : Rat)) := by
    rw [rat_mul_cast, rat_mul_cast, Rat.intCast_add]
    have e2 : ((2 : Int) : Rat) = 2 := rfl
    rw [e2]
    have : (M : Rat) * (yH M x j : Rat) * 2 = 2 * (M : Rat) * (yH M x j : Rat) := by
      generalize (yH M x j : Rat) = y
      clear q1 q2 d1 d2 er eg
      grind
    rw [this]
  rw [e1] at c1 c2
  refine ⟨(r : Rat), hr, ?_, ?_, c1, c2⟩
  · rw [eg]
    have m := Rat.mul_le_mul_of_nonneg_left d1 (Rat.le_of_lt hM0)
    have m2 := Rat.mul_le_mul_of_nonneg_left d2 (Rat.le_of_lt hM0)
    generalize (yH M x j : Rat) / P j = u at *
    generalize (divN (yH M x j) (2 ^ j) : Rat) = w at *
    clear er c1 c2 e1 eg d1 d2
    grind
  · rw [eg]
    have m := Rat.mul_le_mul_of_nonneg_left d1 (Rat.le_of_lt hM0)
    have m2 := Rat.mul_le_mul_of_nonneg_left d2 (Rat.le_of_lt hM0)
    generalize (yH M x j : Rat) / P j = u at *
    generalize (divN (yH M x j) (2 ^ j) : Rat) = w at *
    clear er c1 c2 e1 eg d1 d2
    grind
theorem hal_pos {M x : Int} {j : Nat} (hM : 1000000 ≤ M) (h : 1 / 100 ≤ gH M x j) : 0 < M + divN (yH M x j) (2 ^ j) := by
  have hM0 := castpos (show 0 < M by omega)
  have hM6 : (1000000 : Rat) ≤ (M : Rat) := castle hM
  obtain ⟨d1, _⟩ := divN_rat (a := yH M x j) (two_pow_pos j)
  rw [P_int] at d1
  unfold gH at h
  have hP := P_pos j
  have e : (yH M x j : Rat) / ((M : Rat) * P j) * (M : Rat) = (yH M x j : Rat) / P j := by
    generalize (yH M x j : Rat) = y at *
    generalize P j = p at *
    clear d1 h
    grind
  have m := Rat.mul_le_mul_of_nonneg_right h (Rat.le_of_lt hM0)
  have e2 : (1 + (yH M x j : Rat) / ((M : Rat) * P j)) * (M : Rat) = (M : Rat) + (yH M x j : Rat) / ((M : Rat) * P j) * (M : Rat) := by
    generalize (yH M x j : Rat) / ((M : Rat) * P j) = u
    grind
  rw [e2, e] at m
  have k : (0 : Rat) < ((M + divN (yH M x j) (2 ^ j) : Int) : Rat) := by
    rw [Rat.intCast_add]
    generalize (yH M x j : Rat) / P j = u at *
    grind
  exact_mod_cast k

end Mine

namespace Mine
open PySem.Builtin.Int (intBits)
open Ex

theorem sq_le_sq1 {u : Rat} (h0 : 0 ≤ u) (h1 : u ≤ 1) : ∀ j, 1 ≤ j → sq j u ≤ u * u
  | 1, _ => by show sq 0 (u * u) ≤ _; exact Rat.le_refl
  | j + 2, _ => by
    show sq (j + 1) (u * u) ≤ _
    have uu : u * u ≤ u := by
      have := Rat.mul_le_mul_of_nonneg_left h1 h0
      grind
    have ih := sq_le_sq1 (u := u * u) (sq_nonneg u) (by grind) (j + 1) (by omega)
    have := Rat.mul_le_mul_of_nonneg_left uu (sq_nonneg u)
    have h2 := Rat.mul_le_mul_of_nonneg_left (show u * u ≤ 1 by grind) (sq_nonneg u)
    grind
theorem sq_double (j : Nat) (u : Rat) : sq (j + 1) u = sq j u * sq j u := by
  show sq j (u * u) = _
  exact sq_mul u u j

structure FwInv (M x : Int) (e : Rat) (j : Nat) : Prop where
  pos : 0 < gH M x j
  lo : gH M x 0 * (1 - 6 * e * (P j + 1)) ≤ sq j (gH M x j)
  hi : sq j (gH M x j) * (1 - 6 * e * (P j + 1)) ≤ gH M x 0

theorem gH_succ (M x : Int) (j : Nat) : gH M x (j + 1) = 1 + (yH M x (j + 1) : Rat) / (2 * ((M : Rat) * P j)) := by
  unfold gH
  rw [P_succ]
  have : (M : Rat) * (2 * P j) = 2 * ((M : Rat) * P j) := by grind
  rw [this]

theorem fw_step {M x : Int} {e : Rat} {j : Nat} (hM : 1000000 ≤ M) (he : e = 1 / (M : Rat)) (hlo : 994 / 10000 ≤ gH M x 0 * (1 - 50000 * e)) (hj : j ≤ 12) (I : FwInv M x e j) : FwInv M x e (j + 1) := by
  have hM' : 0 < M := by omega
  have hM0 := castpos hM'
  have hM6 : (1000000 : Rat) ≤ (M : Rat) := castle hM
  have he0 : 0 < e := by rw [he]; exact div_pos (by decide) hM0
  have he1 : e ≤ 1 / 1000000 := by rw [he]; exact div_le hM0 (by grind)
  have hP0 := P_pos j
  have hP1 := P_ge1 j
  have hP12 : P j ≤ 4096 := by
    have := P_mono hj
    have e12 : P 12 = 4096 := by decide +kernel
    grind
  have eP : e * P j ≤ 4096 * e := by
    have := Rat.mul_le_mul_of_nonneg_left hP12 (Rat.le_of_lt he0)
    grind
  have eP0 : 0 ≤ e * P j := Rat.mul_nonneg (Rat.le_of_lt he0) (Rat.le_of_lt hP0)
  have hg0 : 994 / 10000 ≤ gH M x 0 := by
    refine Classical.byContradiction fun hn => ?_
    have hneg : gH M x 0 < 994 / 10000 := by grind
    rcases Rat.le_total (a := 0) (b := gH M x 0) with h | h
    · have := Rat.mul_nonneg h (show 0 ≤ 50000 * e by grind)
      grind
    · have := Rat.mul_nonneg (show 0 ≤ -(gH M x 0) by grind) (show 0 ≤ 1 - 50000 * e by grind)
      grind
  -- the value at hand
  have lo' : 994 / 10000 ≤ sq j (gH M x j) := by
    refine Rat.le_trans hlo (Rat.le_trans (Rat.mul_le_mul_of_nonneg_left ?_ (show 0 ≤ gH M x 0 by grind)) I.lo)
    have e2 : 6 * e * (P j + 1) = 6 * (e * P j) + 6 * e := by grind
    rw [e2]
    grind
  have gj : 1 / 100 ≤ gH M x j ∧ (1 ≤ j → 315 / 1000 ≤ gH M x j) := by
    have pp := I.pos
    rcases Nat.eq_zero_or_pos j with h | h
    · subst h
      exact ⟨by grind, fun h => absurd h (by decide)⟩
    · have : 315 / 1000 ≤ gH M x j := by
        refine Classical.byContradiction fun hn => ?_
        have h1 : gH M x j < 315 / 1000 := by grind
        have h2 := sq_le_sq1 (u := gH M x j) (Rat.le_of_lt pp) (by grind) j h
        have h3 : gH M x j * gH M x j ≤ 315 / 1000 * (315 / 1000) := by
          have a1 := Rat.mul_le_mul_of_nonneg_left (Rat.le_of_lt h1) (Rat.le_of_lt pp)
          have a2 := Rat.mul_le_mul_of_nonneg_right (Rat.le_of_lt h1) (show (0 : Rat) ≤ 315 / 1000 by decide +kernel)
          exact Rat.le_trans a1 a2
        have h4 : (315 : Rat) / 1000 * (315 / 1000) < 994 / 10000 := by decide +kernel
        grind
      exact ⟨by grind, fun _ => this⟩
  obtain ⟨r, r0, t1, t2, b1, b2⟩ := hal_facts hM' (hal_pos hM gj.1)
  have hsN : (M : Rat) ≤ (M : Rat) * P j := by
    have := Rat.mul_le_mul_of_nonneg_left hP1 (Rat.le_of_lt hM0)
    grind
  have cr : ∃ c : Rat, 0 ≤ c ∧ c ≤ 12 ∧ (j = 0 ∨ c = 6) ∧ 0 < gH M x (j + 1) ∧ gH M x (j + 1) * gH M x (j + 1) ≤ gH M x j * (1 + c * e) ∧ gH M x j * (1 - c * e) ≤ gH M x (j + 1) * gH M x (j + 1) := by
    rcases Nat.eq_zero_or_pos j with h | h
    · refine ⟨12, by decide, by decide, .inl h, ?_⟩
      refine hal_crude (m := 994 / 10000) (μ := 31 / 100) hM6 he hsN r0 rfl (gH_succ M x j) t1 t2 b1 b2 (by subst h; exact hg0) (by decide +kernel) (by decide +kernel) (by decide +kernel) (by decide +kernel) (by decide +kernel) (by decide +kernel) (by decide +kernel) (by decide +kernel)
    · refine ⟨6, by decide, by decide, .inr rfl, ?_⟩
      refine hal_crude (m := 315 / 1000) (μ := 56 / 100) hM6 he hsN r0 rfl (gH_succ M x j) t1 t2 b1 b2 (gj.2 h) (by decide +kernel) (by decide +kernel) (by decide +kernel) (by decide +kernel) (by decide +kernel) (by decide +kernel) (by decide +kernel) (by decide +kernel)
  obtain ⟨c, c0, c12, cj, gp, u1, u2⟩ := cr
  have pp := I.pos
  rcases cj with h | h
  · subst h
    have e0 : P (0 + 1) = 2 := by decide +kernel
    have ce : c * e ≤ 12 * e := Rat.mul_le_mul_of_nonneg_right c12 (Rat.le_of_lt he0)
    have ce0 := Rat.mul_nonneg c0 (Rat.le_of_lt he0)
    have es : sq (0 + 1) (gH M x (0 + 1)) = gH M x (0 + 1) * gH M x (0 + 1) := rfl
    refine ⟨gp, ?_, ?_⟩
    · rw [es, e0]
      have := Rat.mul_le_mul_of_nonneg_left (show 1 - 6 * e * (2 + 1) ≤ 1 - c * e by grind) (Rat.le_of_lt pp)
      exact Rat.le_trans this u2
    · rw [es, e0]
      have m := Rat.mul_le_mul_of_nonneg_right u1 (show 0 ≤ 1 - 6 * e * (2 + 1) by grind)
      have m2 : (1 + c * e) * (1 - 6 * e * (2 + 1)) ≤ 1 := by
        have := Rat.mul_nonneg ce0 (show 0 ≤ 18 * e by grind)
        grind
      have m3 := Rat.mul_le_mul_of_nonneg_left m2 (Rat.le_of_lt pp)
      have e3 : gH M x 0 * (1 + c * e) * (1 - 6 * e * (2 + 1)) = gH M x 0 * ((1 + c * e) * (1 - 6 * e * (2 + 1))) := by
        generalize (1 + c * e) = z1
        generalize (1 - 6 * e * (2 + 1)) = z2
        grind
      rw [e3] at m
      grind
  · subst h
    have eS : sq (j + 1) (gH M x (j + 1)) = sq j (gH M x (j + 1) * gH M x (j + 1)) := rfl
    have α : (6 : Rat) * e * (P (j + 1) + 1) = 6 * (e * P j) + 6 * e * (P j + 1) := by rw [P_succ]; grind
    have β0 : 0 ≤ 1 - 6 * e * (P j + 1) := by grind
    have sg0 := sq_nn (Rat.le_of_lt pp) j
    refine ⟨gp, ?_, ?_⟩
    · -- from below
      have h1 := sq_le (Rat.mul_nonneg (Rat.le_of_lt pp) (show 0 ≤ 1 - 6 * e by grind)) u2 j
      rw [sq_mul] at h1
      have h2 := bern (1 - 6 * e) j
      have h3 : 1 - 6 * (e * P j) ≤ sq j (1 - 6 * e) := by
        have : 1 + P j * (1 - 6 * e - 1) = 1 - 6 * (e * P j) := by grind
        rwa [this] at h2
      have h4 := Rat.mul_le_mul_of_nonneg_left h3 sg0
      have h5 := Rat.mul_le_mul_of_nonneg_right I.lo (show 0 ≤ 1 - 6 * (e * P j) by grind)
      rw [eS, α]
      refine Rat.le_trans ?_ (Rat.le_trans h5 (Rat.le_trans h4 h1))
      have h6 : 1 - (6 * (e * P j) + 6 * e * (P j + 1)) ≤ (1 - 6 * e * (P j + 1)) * (1 - 6 * (e * P j)) := by
        have := Rat.mul_nonneg (show 0 ≤ 6 * e * (P j + 1) from Rat.mul_nonneg (by grind) (by grind)) (show 0 ≤ 6 * (e * P j) by grind)
        generalize 6 * e * (P j + 1) = z1 at *
        generalize 6 * (e * P j) = z2 at *
        grind
      have h7 := Rat.mul_le_mul_of_nonneg_left h6 (show 0 ≤ gH M x 0 by grind)
      refine Rat.le_trans h7 ?_
      generalize gH M x 0 = z0
      generalize (1 - 6 * e * (P j + 1)) = z1
      generalize (1 - 6 * (e * P j)) = z2
      have : z0 * (z1 * z2) = z0 * z1 * z2 := by clear h1 h2 h3 h4 h5 h6 h7; grind
      rw [this]
      exact Rat.le_refl
    · -- from above
      have h1 := sq_le (Rat.mul_nonneg (Rat.le_of_lt gp) (Rat.le_of_lt gp)) u1 j
      rw [sq_mul (gH M x j) (1 + 6 * e)] at h1
      have h2 := sq_up (s := 6 * e) (by grind) (n := j) (by
        have : P j * (6 * e) = 6 * (e * P j) := by grind
        rw [this]; grind)
      have e4 : P j * (6 * e) = 6 * (e * P j) := by grind
      rw [e4] at h2
      rw [eS, α]
      have sg1 : 0 ≤ sq j (1 + 6 * e) := sq_nn (by grind) j
      have γ0 : 0 ≤ 1 - (6 * (e * P j) + 6 * e * (P j + 1)) := by grind
      have h3 := Rat.mul_le_mul_of_nonneg_right h1 γ0
      refine Rat.le_trans h3 ?_
      have h6 : 1 - (6 * (e * P j) + 6 * e * (P j + 1)) ≤ (1 - 6 * (e * P j)) * (1 - 6 * e * (P j + 1)) := by
        have := Rat.mul_nonneg (show 0 ≤ 6 * e * (P j + 1) from Rat.mul_nonneg (by grind) (by grind)) (show 0 ≤ 6 * (e * P j) by grind)
        generalize 6 * e * (P j + 1) = z1 at *
        generalize 6 * (e * P j) = z2 at *
        grind
      have h7 := Rat.mul_le_mul_of_nonneg_left h6 (Rat.mul_nonneg sg0 sg1)
      refine Rat.le_trans h7 ?_
      have h8 := Rat.mul_le_mul_of_nonneg_right h2 (Rat.mul_nonneg sg0 β0)
      have hI := I.hi
      generalize sq j (gH M x j) = z0 at *
      generalize sq j (1 + 6 * e) = z1 at *
      generalize (1 - 6 * (e * P j)) = z2 at *
      generalize (1 - 6 * e * (P j + 1)) = z3 at *
      have e5 : z0 * z1 * (z2 * z3) = z1 * z2 * (z0 * z3) := by clear h1 h2 h3 h6 h7 h8 hI u1 u2 lo'; grind
      rw [e5]
      clear h1 h3 h6 h7 u1 u2 lo'
      grind

theorem fw_all {M x : Int} {e : Rat} (hM : 1000000 ≤ M) (he : e = 1 / (M : Rat)) (hlo : 994 / 10000 ≤ gH M x 0 * (1 - 50000 * e)) (hg : 0 < gH M x 0) : ∀ j : Nat, j ≤ 13 → FwInv M x e j
  | 0, _ => by
    have hM0 := castpos (show 0 < M by omega)
    have he0 : 0 < e := by rw [he]; exact div_pos (by decide) hM0
    have es : sq 0 (gH M x 0) = gH M x 0 := rfl
    refine ⟨hg, ?_, ?_⟩
    · rw [es, P_zero]
      have := Rat.mul_nonneg (Rat.le_of_lt hg) (Rat.le_of_lt he0)
      grind
    · rw [es, P_zero]
      have := Rat.mul_nonneg (Rat.le_of_lt hg) (Rat.le_of_lt he0)
      grind
  | j + 1, hj => fw_step hM he hlo (by omega) (fw_all hM he hlo hg j (by omega))

end Mine

namespace Mine
open PySem.Builtin.Int (intBits)
open Ex

theorem sq_add (m : Nat) (u : Rat) : ∀ n, sq (m + n) u = sq n (sq m u)
  | 0 => rfl
  | n + 1 => by
    rw [← Nat.add_assoc, sq_double, sq_add m u n]
    exact (sq_double n (sq m u)).symm
theorem EL.sqN {q b : Rat} (h : EL q b) : ∀ n, EL (P n * q) (sq n b)
  | 0 => by
    have e : P 0 * q = q := by rw [P_zero]; grind
    rw [e]; exact h
  | n + 1 => by
    have k := EL.add (EL.sqN h n) (EL.sqN h n)
    rw [← sq_double] at k
    have e : P (n + 1) * q = P n * q + P n * q := by rw [P_succ]; grind
    rw [e]; exact k
theorem EG.sqN {q b : Rat} (h : EG q b) (hb : 0 < b) : ∀ n, EG (P n * q) (sq n b)
  | 0 => by
    have e : P 0 * q = q := by rw [P_zero]; grind
    rw [e]; exact h
  | n + 1 => by
    have k := EG.add (EG.sqN h hb n) (EG.sqN h hb n) (sq_pos hb n)
    rw [← sq_double] at k
    have e : P (n + 1) * q = P n * q + P n * q := by rw [P_succ]; grind
    rw [e]; exact k

theorem e3985 : EG (3985 / 1000) (537 / 10) := by
  have h := taylor_dn_pos (z := 3985 / 16000) (by decide +kernel) (by decide +kernel) 8
  have k := EG.sqN (h.mono (show (12828 : Rat) / 10000 ≤ eZ (8 + 1) (3985 / 16000) by decide +kernel)) (by decide +kernel) 4
  have e : P 4 * (3985 / 16000) = 3985 / 1000 := by decide +kernel
  rw [e] at k
  exact k.mono (by decide +kernel)
theorem e231 : EL (-(231 / 100)) (994 / 10000) := by
  have h := taylor_dn_pos (z := 231 / 1600) (by decide +kernel) (by decide +kernel) 8
  have k := EG.sqN (h.mono (show (115529 : Rat) / 100000 ≤ eZ (8 + 1) (231 / 1600) by decide +kernel)) (by decide +kernel) 4
  have e : P 4 * (231 / 1600) = 231 / 100 := by decide +kernel
  rw [e] at k
  have k2 := k.mono (show (10000 : Rat) / 994 ≤ _ by decide +kernel)
  exact (k2.neg (by decide +kernel)).mono (by decide +kernel)

/-- the halvings stop within 13 -/
theorem fw_stop {M x L : Int} {e : Rat} (hM : 1000000 ≤ M) (he : e = 1 / (M : Rat)) (hL : 3 ≤ L) (hL2 : L ≤ 10) (hlo : 994 / 10000 ≤ gH M x 0 * (1 - 50000 * e)) (hg : 0 < gH M x 0) (hhi : gH M x 0 ≤ 51) : ¬ Halves M L (yH M x 13) 13 := by
  have I := fw_all hM he hlo hg 13 (by decide)
  have hM' : 0 < M := by omega
  have hM0 := castpos hM'
  have hM6 : (1000000 : Rat) ≤ (M : Rat) := castle hM
  have he0 : 0 < e := by rw [he]; exact div_pos (by decide) hM0
  have he1 : e ≤ 1 / 1000000 := by rw [he]; exact div_le hM0 (by grind)
  have eP : P 13 = 8192 := by decide +kernel
  have lo := I.lo
  have hi := I.hi
  rw [eP] at lo hi
  have hi2 : sq 13 (gH M x 13) ≤ 54 := by
    have s0 := sq_nn (Rat.le_of_lt I.pos) 13
    have := Rat.mul_le_mul_of_nonneg_left (show 95 / 100 ≤ 1 - 6 * e * (8192 + 1) by grind) s0
    grind
  have lo2 : 9 / 100 ≤ sq 13 (gH M x 13) := by
    have := Rat.mul_le_mul_of_nonneg_left (show 1 - 50000 * e ≤ 1 - 6 * e * (8192 + 1) by grind) (Rat.le_of_lt hg)
    grind
  intro hH
  unfold Halves at hH
  have h1 := castle hH
  rw [rat_mul_cast, rat_mul_cast, P_int, P_int] at h1
  have hPL : P L.toNat ≤ 1024 := by
    have := P_mono (show L.toNat ≤ 10 by omega)
    have e10 : P 10 = 1024 := by decide +kernel
    grind
  have hyn : (0 : Rat) ≤ (((yH M x 13).natAbs : Int) : Rat) := castnn (by omega)
  have h2 := Rat.mul_le_mul_of_nonneg_left hPL hyn
  have hs := Rat.mul_pos hM0 (P_pos 13)
  -- |y| ≥ s / 1024
  have h3 : (M : Rat) * P 13 ≤ (((yH M x 13).natAbs : Int) : Rat) * 1024 := Rat.le_trans h1 h2
  have e8 : sq 13 (gH M x 13) = sq 3 (sq 10 (gH M x 13)) := sq_add 10 _ 3
  rw [e8] at hi2 lo2
  rcases Int.le_total 0 (yH M x 13) with h | h
  · have ey : (((yH M x 13).natAbs : Int) : Rat) = (yH M x 13 : Rat) := by
      have : ((yH M x 13).natAbs : Int) = yH M x 13 := by omega
      rw [this]
    rw [ey] at h3
    have g1 : 1 + 1 / 1024 ≤ gH M x 13 := by
      unfold gH
      have := le_div hs (show 1 / 1024 * ((M : Rat) * P 13) ≤ (yH M x 13 : Rat) by grind)
      grind
    have b := bern (gH M x 13) 10
    have e10 : P 10 = 1024 := by decide +kernel
    rw [e10] at b
    have g2 : 2 ≤ sq 10 (gH M x 13) := by grind
    have g3 := sq_le (show (0 : Rat) ≤ 2 by decide) g2 3
    have e9 : sq 3 (2 : Rat) = 256 := by decide +kernel
    rw [e9] at g3
    have e11 : (54 : Rat) < 256 := by decide +kernel
    exact absurd (Rat.le_trans g3 hi2) (Rat.not_le.mpr e11)
  · have ey : (((yH M x 13).natAbs : Int) : Rat) = -(yH M x 13 : Rat) := by
      have : ((yH M x 13).natAbs : Int) = -(yH M x 13) := by omega
      rw [this, Rat.intCast_neg]
    rw [ey] at h3
    have g1 : gH M x 13 ≤ 1 - 1 / 1024 := by
      unfold gH
      have := div_le hs (show (yH M x 13 : Rat) ≤ -(1 / 1024) * ((M : Rat) * P 13) by grind)
      grind
    have g2 := sq_le (Rat.le_of_lt I.pos) g1 10
    have g3 : sq 10 ((1 : Rat) - 1 / 1024) ≤ 1 / 2 := by decide +kernel
    have g4 := sq_le (sq_nn (Rat.le_of_lt I.pos) 10) (Rat.le_trans g2 g3) 3
    have e9 : sq 3 ((1 : Rat) / 2) = 1 / 256 := by decide +kernel
    rw [e9] at g4
    have e11 : (1 : Rat) / 256 < 9 / 100 := by decide +kernel
    exact absurd (Rat.le_trans lo2 g4) (Rat.not_le.mpr e11)

/-- how far the number told lies from nought -/
theorem X_range {M x : Int} {e X Z : Rat} {R : Nat} (hM : 1000000 ≤ M) (he : e = 1 / (M : Rat)) (hlo : 994 / 10000 ≤ gH M x 0 * (1 - 50000 * e)) (hg : 0 < gH M x 0) (hhi : gH M x 0 ≤ 51) (hR : R ≤ 13)
    (hZ0 : 0 ≤ Z) (hZ : Z * (M : Rat) = (if 0 ≤ X then X else -X)) (h1 : EL ((X - (501 / 1000 + 145 / 100 * Z)) / ((M : Rat) * P R)) (gH M x R)) (h2 : EG ((X + (501 / 1000 + 145 / 100 * Z)) / ((M : Rat) * P R)) (gH M x R)) :
    Z ≤ 399 / 100 ∧ (X < 0 → Z ≤ 2311 / 1000) ∧ X ≤ 399 / 100 * (M : Rat) ∧ -(2311 / 1000 * (M : Rat)) ≤ X := by
  have I := fw_all hM he hlo hg R hR
  have hM' : 0 < M := by omega
  have hM0 := castpos hM'
  have hM6 : (1000000 : Rat) ≤ (M : Rat) := castle hM
  have he0 : 0 < e := by rw [he]; exact div_pos (by decide) hM0
  have he1 : e ≤ 1 / 1000000 := by rw [he]; exact div_le hM0 (by grind)
  have hP := P_pos R
  have hP13 : P R ≤ 8192 := by
    have := P_mono hR
    have e13 : P 13 = 8192 := by decide +kernel
    grind
  have eP : e * P R ≤ 8192 * e := by
    have := Rat.mul_le_mul_of_nonneg_left hP13 (Rat.le_of_lt he0)
    grind
  have e6 : 6 * e * (P R + 1) = 6 * (e * P R) + 6 * e := by grind
  have lo := I.lo
  have hi := I.hi
  rw [e6] at lo hi
  have hi2 : sq R (gH M x R) ≤ 537 / 10 := by
    have s0 := sq_nn (Rat.le_of_lt I.pos) R
    have := Rat.mul_le_mul_of_nonneg_left (show 95 / 100 ≤ 1 - (6 * (e * P R) + 6 * e) by grind) s0
    grind
  have lo2 : 994 / 10000 ≤ sq R (gH M x R) := by
    have := Rat.mul_le_mul_of_nonneg_left (show 1 - 50000 * e ≤ 1 - (6 * (e * P R) + 6 * e) by grind) (Rat.le_of_lt hg)
    grind
  have eq : ∀ T : Rat, P R * (T / ((M : Rat) * P R)) = T / (M : Rat) := fun T => by
    generalize P R = p at *
    clear lo hi hi2 lo2 h1 h2 hZ eP e6 I
    grind
  have k1 := EL.sqN h1 R
  have k2 := EG.sqN h2 I.pos R
  rw [eq] at k1 k2
  have m1 := EL.arg_le (k1.mono hi2) e3985
  have m2 := EL.arg_le e231 (k2.mono lo2)
  have n1 := div_le_mul hM0 m1
  have n2 := le_div_mul hM0 m2
  clear k1 k2 h1 h2 lo hi m1 m2 eq
  have hZM : 145 / 100 * Z ≤ 1 / 500000 * (Z * (M : Rat)) := by
    have := Rat.mul_le_mul_of_nonneg_left hM6 hZ0
    grind
  have up : ∀ q : Rat, Z * (M : Rat) ≤ q * (M : Rat) → Z ≤ q := fun q hq => by
    refine Classical.byContradiction fun hn => ?_
    have := Rat.mul_lt_mul_of_pos_right (show q < Z by grind) hM0
    grind
  rcases Rat.le_total (a := 0) (b := X) with h | h
  · have eU : Z * (M : Rat) = X := by rw [hZ]; exact if_pos h
    rw [eU] at hZM
    have k1 : X ≤ 399 / 100 * (M : Rat) := by clear up; grind
    exact ⟨up _ (by rw [eU]; exact k1), fun hn => absurd hn (Rat.not_lt.mpr h), k1, by clear up; grind⟩
  · have eU : Z * (M : Rat) = -X := by
      rw [hZ]
      split
      · clear up; grind
      · rfl
    rw [eU] at hZM
    have k1 : -X ≤ 2311 / 1000 * (M : Rat) := by clear up; grind
    exact ⟨up _ (by rw [eU]; clear up; grind), fun _ => up _ (by rw [eU]; exact k1), by clear up; grind, by clear up; grind⟩

end Mine

namespace Mine
open PySem.Builtin.Int (intBits)
open Ex

/-- what k halvings add, and a little -/
def hSum (X M : Int) (Z : Rat) : Nat → Rat
  | 0 => 0
  | k + 1 => hSum X M Z k + (hE (wq ((X : Rat) / ((M : Rat) * P (k + 1)))) Z + 1 / 400)

theorem hE_mono {W W' Z Z' : Rat} (hW : 0 ≤ W) (h : W ≤ W') (hZ : 0 ≤ Z) (h2 : Z ≤ Z') : hE W Z ≤ hE W' Z' := by
  unfold hE
  have a1 := Rat.mul_le_mul_of_nonneg_left h hW
  have a2 := Rat.mul_le_mul_of_nonneg_right h (show 0 ≤ W' by grind)
  have q : W / 4 + W * W / 8 ≤ W' / 4 + W' * W' / 8 := by
    have : W * W ≤ W' * W' := Rat.le_trans a1 a2
    grind
  have q0 : 0 ≤ W' / 4 + W' * W' / 8 := by have := sq_nonneg W'; grind
  have b1 := Rat.mul_le_mul_of_nonneg_right q hZ
  have b2 := Rat.mul_le_mul_of_nonneg_left h2 q0
  grind
theorem hE_nn {W Z : Rat} (hW : 0 ≤ W) (hZ : 0 ≤ Z) : 0 ≤ hE W Z := by
  unfold hE
  have := sq_nonneg W
  have := Rat.mul_nonneg (show 0 ≤ W / 4 + W * W / 8 by grind) hZ
  grind

theorem argk_ge {X M : Int} (hM : 0 < M) (hX : -(2311 / 1000 * (M : Rat)) ≤ (X : Rat)) {k : Nat} (hk : 1 ≤ k) : -(2311 / 2000) ≤ (X : Rat) / ((M : Rat) * P k) ∧ (2 ≤ k → -(2311 / 4000) ≤ (X : Rat) / ((M : Rat) * P k)) ∧ (0 ≤ (X : Rat) → 0 ≤ (X : Rat) / ((M : Rat) * P k)) := by
  have hM0 := castpos hM
  have hpos := Rat.mul_pos hM0 (P_pos k)
  have h2 : 2 ≤ P k := by
    have := P_mono hk
    have e : P 1 = 2 := by decide +kernel
    grind
  have m := Rat.mul_le_mul_of_nonneg_left h2 (Rat.le_of_lt hM0)
  refine ⟨le_div hpos (by grind), fun hk2 => ?_, fun h => div_nn h hpos⟩
  have h4 : 4 ≤ P k := by
    have := P_mono hk2
    have e : P 2 = 4 := by decide +kernel
    grind
  have m2 := Rat.mul_le_mul_of_nonneg_left h4 (Rat.le_of_lt hM0)
  exact le_div hpos (by grind)
theorem wh35 : (1 : Rat) ≤ 7 / 2 * (9638 / 10000) ^ 32 := by decide +kernel
theorem wh2 : (1 : Rat) ≤ 2 * (9819 / 10000) ^ 32 := by decide +kernel
theorem wh1 : (1 : Rat) ≤ 1 * 1 ^ 32 := by decide +kernel
theorem whk {X M : Int} (hM : 0 < M) (hX : -(2311 / 1000 * (M : Rat)) ≤ (X : Rat)) {k : Nat} (hk : 1 ≤ k) :
    0 < 1 + (X : Rat) / ((M : Rat) * P k) / 32 ∧ wq ((X : Rat) / ((M : Rat) * P k)) ≤ 7 / 2 ∧ (2 ≤ k → wq ((X : Rat) / ((M : Rat) * P k)) ≤ 2) ∧ (0 ≤ (X : Rat) → wq ((X : Rat) / ((M : Rat) * P k)) ≤ 1) := by
  obtain ⟨a, b, c⟩ := argk_ge hM hX hk
  refine ⟨by grind, wq_le (v := 9638 / 10000) (by decide +kernel) (by grind) wh35 (by decide +kernel), fun h => wq_le (v := 9819 / 10000) (by decide +kernel) (by have := b h; grind) wh2 (by decide), fun h => wq_le (v := 1) (by decide) (by have := c h; grind) wh1 (by decide)⟩

theorem hSum_le {X M : Int} {Z : Rat} (hM : 0 < M) (hX : -(2311 / 1000 * (M : Rat)) ≤ (X : Rat)) (hZ0 : 0 ≤ Z) (hZ4 : Z ≤ 399 / 100) (hZn : (X : Rat) < 0 → Z ≤ 2311 / 1000) : ∀ k : Nat, hSum X M Z k ≤ 4 + 332 / 100 * (k : Rat)
  | 0 => by show (0 : Rat) ≤ 4 + 332 / 100 * ((0 : Nat) : Rat); decide +kernel
  | 1 => by
    obtain ⟨a, b, _, d⟩ := whk hM hX (Nat.le_refl 1)
    have w0 := Rat.le_of_lt (wq_pos a)
    show (0 : Rat) + (hE _ Z + 1 / 400) ≤ 4 + 332 / 100 * ((1 : Nat) : Rat)
    have e : ((1 : Nat) : Rat) = 1 := rfl
    rw [e]
    rcases Rat.le_total (a := 0) (b := (X : Rat)) with h | h
    · have k := hE_mono w0 (d h) hZ0 hZ4
      have : hE 1 (399 / 100) ≤ 2 := by unfold hE; decide +kernel
      grind
    · rcases Classical.em ((X : Rat) < 0) with hn | hn
      · have k := hE_mono w0 b hZ0 (hZn hn)
        have : hE (7 / 2) (2311 / 1000) ≤ 7311 / 1000 := by unfold hE; decide +kernel
        grind
      · have k := hE_mono w0 (d (Rat.not_lt.mp hn)) hZ0 hZ4
        have : hE 1 (399 / 100) ≤ 2 := by unfold hE; decide +kernel
        grind
  | k + 2 => by
    have ih := hSum_le hM hX hZ0 hZ4 hZn (k + 1)
    obtain ⟨a, _, b, d⟩ := whk hM hX (k := k + 2) (by omega)
    have w0 := Rat.le_of_lt (wq_pos a)
    show hSum X M Z (k + 1) + (hE _ Z + 1 / 400) ≤ _
    have e : ((k + 2 : Nat) : Rat) = ((k + 1 : Nat) : Rat) + 1 := by push_cast; grind
    rw [e]
    rcases Classical.em ((X : Rat) < 0) with hn | hn
    · have k := hE_mono w0 (b (by omega)) hZ0 (hZn hn)
      have : hE 2 (2311 / 1000) ≤ 3311 / 1000 := by unfold hE; decide +kernel
      grind
    · have k := hE_mono w0 (d (Rat.not_lt.mp hn)) hZ0 hZ4
      have : hE 1 (399 / 100) ≤ 2 := by unfold hE; decide +kernel
      grind
theorem hSum_mono {X M : Int} {Z : Rat} (hM : 0 < M) (hX : -(2311 / 1000 * (M : Rat)) ≤ (X : Rat)) (hZ0 : 0 ≤ Z) {m n : Nat} (h : m ≤ n) : hSum X M Z m ≤ hSum X M Z n := by
  induction h with
  | refl => exact Rat.le_refl
  | step _ ih =>
    rename_i n _
    show _ ≤ hSum X M Z n + _
    have := hE_nn (Rat.le_of_lt (wq_pos (whk hM hX (k := n + 1) (by omega)).1)) hZ0
    grind

/-- back from the series to the number -/
theorem hal_back {M x X : Int} {e Z : Rat} {R : Nat} (hM : 1000000 ≤ M) (he : e = 1 / (M : Rat)) (hlo : 994 / 10000 ≤ gH M x 0 * (1 - 50000 * e)) (hg : 0 < gH M x 0) (hR : R ≤ 13)
    (hZ0 : 0 ≤ Z) (hZ4 : Z ≤ 399 / 100) (hZn : (X : Rat) < 0 → Z ≤ 2311 / 1000) (hX : -(2311 / 1000 * (M : Rat)) ≤ (X : Rat)) (hZ1 : (X : Rat) ≤ Z * (M : Rat)) (hZ2 : -(Z * (M : Rat)) ≤ (X : Rat))
    (h1 : EL (((X : Rat) - (501 / 1000 + 145 / 100 * Z)) / ((M : Rat) * P R)) (gH M x R)) (h2 : EG (((X : Rat) + (501 / 1000 + 145 / 100 * Z)) / ((M : Rat) * P R)) (gH M x R)) : ∀ i ≤ R,
    EL (((X : Rat) - (501 / 1000 + 145 / 100 * Z + (hSum X M Z R - hSum X M Z (R - i)))) / ((M : Rat) * P (R - i))) (gH M x (R - i)) ∧ EG (((X : Rat) + (501 / 1000 + 145 / 100 * Z + (hSum X M Z R - hSum X M Z (R - i)))) / ((M : Rat) * P (R - i))) (gH M x (R - i))
  | 0, _ => by
    rw [Nat.sub_zero]
    have e0 : 501 / 1000 + 145 / 100 * Z + (hSum X M Z R - hSum X M Z R) = 501 / 1000 + 145 / 100 * Z := by grind
    rw [e0]
    exact ⟨h1, h2⟩
  | i + 1, hi => by
    obtain ⟨a, b⟩ := hal_back hM he hlo hg hR hZ0 hZ4 hZn hX hZ1 hZ2 h1 h2 i (by omega)
    have hM' : 0 < M := by omega
    have hM0 := castpos hM'
    have hM6 : (1000000 : Rat) ≤ (M : Rat) := castle hM
    obtain ⟨j, hj⟩ : ∃ j, R - (i + 1) = j := ⟨_, rfl⟩
    have hj1 : R - i = j + 1 := by omega
    rw [hj1] at a b
    rw [hj]
    have I := fw_all hM he hlo hg j (by omega)
    have gj : 1 / 100 ≤ gH M x j := by
      have I2 := I.lo
      have hP13 : P j ≤ 4096 := by
        have := P_mono (show j ≤ 12 by omega)
        have e12 : P 12 = 4096 := by decide +kernel
        grind
      have he0 : 0 < e := by rw [he]; exact div_pos (by decide) hM0
      have eP : e * P j ≤ 4096 * e := by
        have := Rat.mul_le_mul_of_nonneg_left hP13 (Rat.le_of_lt he0)
        grind
      have lo2 : 994 / 10000 ≤ sq j (gH M x j) := by
        refine Rat.le_trans hlo (Rat.le_trans (Rat.mul_le_mul_of_nonneg_left ?_ (Rat.le_of_lt hg)) I2)
        have e2 : 6 * e * (P j + 1) = 6 * (e * P j) + 6 * e := by clear a b h1 h2; grind
        rw [e2]
        clear a b h1 h2
        grind
      refine Classical.byContradiction fun hn => ?_
      have h3 : gH M x j < 1 / 100 := by clear a b h1 h2; grind
      rcases Nat.eq_zero_or_pos j with h | h
      · subst h
        have : sq 0 (gH M x 0) = gH M x 0 := rfl
        rw [this] at lo2
        clear a b h1 h2
        grind
      · have h4 := sq_le_sq1 (u := gH M x j) (Rat.le_of_lt I.pos) (by clear a b h1 h2; grind) j h
        have h5 := Rat.mul_le_mul_of_nonneg_left (Rat.le_of_lt h3) (Rat.le_of_lt I.pos)
        clear a b h1 h2
        grind
    obtain ⟨r, r0, t1, t2, b1, b2⟩ := hal_facts hM' (hal_pos hM gj)
    have hsN : (M : Rat) ≤ (M : Rat) * P j := by
      have := Rat.mul_le_mul_of_nonneg_left (P_ge1 j) (Rat.le_of_lt hM0)
      grind
    have e2s : (M : Rat) * P (j + 1) = 2 * ((M : Rat) * P j) := by rw [P_succ]; grind
    obtain ⟨w1, w2, _, _⟩ := whk hM' hX (k := j + 1) (by omega)
    have wp := wq_pos w1
    have we := wq_EG w1
    have sl := hSum_le hM' hX hZ0 hZ4 hZn R
    have s0 : 0 ≤ hSum X M Z (j + 1) := hSum_mono hM' hX hZ0 (Nat.zero_le _)
    have sm := hSum_mono hM' hX hZ0 (show j + 1 ≤ R by omega)
    have r13 : ((R : Nat) : Rat) ≤ 13 := by exact_mod_cast hR
    have eS : hSum X M Z (j + 1) = hSum X M Z j + (hE (wq ((X : Rat) / ((M : Rat) * P (j + 1)))) Z + 1 / 400) := rfl
    have e1 : 501 / 1000 + 145 / 100 * Z + (hSum X M Z R - hSum X M Z (j + 1)) + (hE (wq ((X : Rat) / ((M : Rat) * P (j + 1)))) Z + 1 / 400) = 501 / 1000 + 145 / 100 * Z + (hSum X M Z R - hSum X M Z j) := by rw [eS]; clear a b h1 h2; grind
    have E0 : 0 ≤ 501 / 1000 + 145 / 100 * Z + (hSum X M Z R - hSum X M Z (j + 1)) := by clear a b h1 h2 e1 eS; grind
    have E64 : 501 / 1000 + 145 / 100 * Z + (hSum X M Z R - hSum X M Z (j + 1)) ≤ 64 := by clear a b h1 h2 e1 eS; grind
    rw [← e1]
    generalize 501 / 1000 + 145 / 100 * Z + (hSum X M Z R - hSum X M Z (j + 1)) = E at *
    rw [e2s] at a b wp w2 we ⊢
    exact hal_step hM6 he hsN r0 rfl (gH_succ M x j) t1 t2 b1 b2 E0 E64 a b wp w2 we hZ1 hZ2 hZ0 (by clear a b h1 h2; grind)

end Mine

namespace Mine
open PySem.Builtin.Int (intBits)
open Ex

theorem gH_zero {M x : Int} (hM : 0 < M) : gH M x 0 = (x : Rat) / (M : Rat) := by
  unfold gH
  have e : yH M x 0 = x - M := rfl
  rw [e, P_zero, Rat.intCast_sub]
  have := castpos hM
  grind
theorem sq_ge_self {u : Rat} (h : 1 ≤ u) : ∀ j, u ≤ sq j u
  | 0 => Rat.le_refl
  | j + 1 => by
    show u ≤ sq j (u * u)
    have a := Rat.mul_le_mul_of_nonneg_left h (show 0 ≤ u by grind)
    have ih := sq_ge_self (u := u * u) (by grind) j
    grind
theorem gH_le {M x : Int} {e : Rat} {j : Nat} (hM : 1000000 ≤ M) (he : e = 1 / (M : Rat)) (hlo : 994 / 10000 ≤ gH M x 0 * (1 - 50000 * e)) (hg : 0 < gH M x 0) (hhi : gH M x 0 ≤ 51) (hj : j ≤ 13) : 0 < gH M x j ∧ gH M x j ≤ 54 ∧ 1 / 100 ≤ gH M x j := by
  have I := fw_all hM he hlo hg j hj
  have hM0 := castpos (show 0 < M by omega)
  have hM6 : (1000000 : Rat) ≤ (M : Rat) := castle hM
  have he0 : 0 < e := by rw [he]; exact div_pos (by decide) hM0
  have he1 : e ≤ 1 / 1000000 := by rw [he]; exact div_le hM0 (by grind)
  have hP13 : P j ≤ 8192 := by
    have := P_mono hj
    have e13 : P 13 = 8192 := by decide +kernel
    grind
  have eP : e * P j ≤ 8192 * e := by
    have := Rat.mul_le_mul_of_nonneg_left hP13 (Rat.le_of_lt he0)
    grind
  have e6 : 6 * e * (P j + 1) = 6 * (e * P j) + 6 * e := by grind
  have lo := I.lo
  have hi := I.hi
  rw [e6] at lo hi
  have hi2 : sq j (gH M x j) ≤ 54 := by
    have s0 := sq_nn (Rat.le_of_lt I.pos) j
    have := Rat.mul_le_mul_of_nonneg_left (show 95 / 100 ≤ 1 - (6 * (e * P j) + 6 * e) by grind) s0
    grind
  have lo2 : 994 / 10000 ≤ sq j (gH M x j) := by
    have := Rat.mul_le_mul_of_nonneg_left (show 1 - 50000 * e ≤ 1 - (6 * (e * P j) + 6 * e) by grind) (Rat.le_of_lt hg)
    grind
  refine ⟨I.pos, ?_, ?_⟩
  · rcases Rat.le_total (a := gH M x j) (b := 1) with h | h
    · grind
    · have := sq_ge_self h j
      grind
  · refine Classical.byContradiction fun hn => ?_
    have h3 : gH M x j < 1 / 100 := by grind
    rcases Nat.eq_zero_or_pos j with h | h
    · subst h
      have : sq 0 (gH M x 0) = gH M x 0 := rfl
      rw [this] at lo2
      grind
    · have h4 := sq_le_sq1 (u := gH M x j) (Rat.le_of_lt I.pos) (by grind) j h
      have h5 := Rat.mul_le_mul_of_nonneg_left (Rat.le_of_lt h3) (Rat.le_of_lt I.pos)
      grind

theorem ys_bd {M y : Int} {R : Nat} {L : Int} (hM : 1000000 ≤ M) (hL : 3 ≤ L) (h : ¬ Halves M L y R) : -(M / 8 + 1) ≤ divN y (2 ^ R) ∧ divN y (2 ^ R) ≤ M / 8 + 1 := by
  unfold Halves at h
  have p8 : (8 : Int) ≤ 2 ^ L.toNat := by
    have : (2 : Nat) ^ 3 ≤ 2 ^ L.toNat := Nat.pow_le_pow_right (by decide) (by omega)
    have e : ((2 : Int) ^ L.toNat) = ((2 ^ L.toNat : Nat) : Int) := by push_cast; rfl
    omega
  have h1 := Int.mul_le_mul_of_nonneg_left p8 (show 0 ≤ (y.natAbs : Int) by omega)
  have hP := two_pow_pos R
  -- 8 |y| < M 2^R
  have h2 : 8 * (y.natAbs : Int) < M * 2 ^ R := by omega
  have h3 : M * 2 ^ R ≤ 8 * ((M / 8 + 1) * 2 ^ R) := by
    have : M ≤ 8 * (M / 8 + 1) := by omega
    have := Int.mul_le_mul_of_nonneg_right this (Int.le_of_lt hP)
    rw [Int.mul_assoc] at this
    exact this
  have h4 : (y.natAbs : Int) ≤ (M / 8 + 1) * 2 ^ R := by omega
  refine ⟨le_divN' hP ?_, divN_le' hP ?_⟩
  · rw [Int.mul_neg, Int.mul_comm]; omega
  · rw [Int.mul_comm]; omega

/-- _ilog, its halvings and its series: how near -/
theorem ilog_wt {M x L : Int} (hM : 1000000 ≤ M) (hMb : intBits M ≤ 300) (hL : 3 ≤ L) (hL2 : L ≤ 10) (hx : 0 < x) (hx51 : x ≤ 51 * M) (hlo : 994 / 10000 ≤ (x : Rat) / (M : Rat) * (1 - 50000 * (1 / (M : Rat)))) :
    ∃ R : Nat, R ≤ 13 ∧ PreL M x L R ∧ ∃ Z : Rat, 0 ≤ Z ∧ Z ≤ 399 / 100 ∧ ((ilogF M x L R : Rat) < 0 → Z ≤ 2311 / 1000) ∧ (ilogF M x L R : Rat) ≤ 399 / 100 * (M : Rat) ∧ -(2311 / 1000 * (M : Rat)) ≤ (ilogF M x L R : Rat) ∧
      Z * (M : Rat) = (((ilogF M x L R).natAbs : Int) : Rat) ∧
      EL (((ilogF M x L R : Rat) - (501 / 1000 + 145 / 100 * Z + hSum (ilogF M x L R) M Z R)) / (M : Rat)) ((x : Rat) / (M : Rat)) ∧
      EG (((ilogF M x L R : Rat) + (501 / 1000 + 145 / 100 * Z + hSum (ilogF M x L R) M Z R)) / (M : Rat)) ((x : Rat) / (M : Rat)) ∧
      (∀ j, j + 1 = R → EL (((ilogF M x L R : Rat) - 64) / ((M : Rat) * P j)) (gH M x j) ∧ EG (((ilogF M x L R : Rat) + 64) / ((M : Rat) * P j)) (gH M x j) ∧ Halves M L (yH M x j) j ∧ gH M x j ≤ 54) := by
  have hM' : 0 < M := by omega
  have hM0 := castpos hM'
  have ez := gH_zero (x := x) hM'
  obtain ⟨e, he⟩ : ∃ e : Rat, e = 1 / (M : Rat) := ⟨_, rfl⟩
  rw [← he, ← ez] at hlo
  have hg : 0 < gH M x 0 := by rw [ez]; exact div_pos (castpos hx) hM0
  have hhi : gH M x 0 ≤ 51 := by
    rw [ez]
    refine div_le hM0 ?_
    have := castle hx51
    rw [rat_mul_cast] at this
    exact this
  have hst := fw_stop (L := L) hM he hL hL2 hlo hg hhi
  obtain ⟨R, hR, r1, r2⟩ := exists_first (fun j => Halves M L (yH M x j) j) 13 hst
  have gle := fun j (hj : j ≤ 13) => gH_le (j := j) hM he hlo hg hhi hj
  refine ⟨R, hR, ?_, ?_⟩
  · have yb : ∀ j ≤ 13, (yH M x j).natAbs ≤ (64 * (M * 2 ^ j)).natAbs := fun j hj => by
      obtain ⟨g1, g2, g3⟩ := gle j hj
      unfold gH at g1 g2
      have hs := Rat.mul_pos hM0 (P_pos j)
      have a1 := div_le_mul hs (show (yH M x j : Rat) / ((M : Rat) * P j) ≤ 53 by clear gle; grind)
      have a2 := le_div_mul hs (show -1 ≤ (yH M x j : Rat) / ((M : Rat) * P j) by clear gle; grind)
      have es : ((M * 2 ^ j : Int) : Rat) = (M : Rat) * P j := by rw [rat_mul_cast, P_int]
      rw [← es] at a1 a2
      have b1 : yH M x j ≤ 53 * (M * 2 ^ j) := by
        have : (yH M x j : Rat) ≤ ((53 * (M * 2 ^ j) : Int) : Rat) := by rw [rat_mul_cast]; exact a1
        exact_mod_cast this
      have b2 : -(M * 2 ^ j) ≤ yH M x j := by
        have : ((-(M * 2 ^ j) : Int) : Rat) ≤ (yH M x j : Rat) := by
          rw [Rat.intCast_neg]
          generalize ((M * 2 ^ j : Int) : Rat) = z at *
          clear gle
          grind
        exact_mod_cast this
      have := shl_pos hM' j
      omega
    refine ⟨fun j hj => ⟨r2 j hj, hal_pos hM (gle j (by omega)).2.2⟩, r1, fun j hj => ?_, fun j hj => ?_⟩
    · have hb : intBits (64 * (M * 2 ^ j)) ≤ 400 := bits_mono (intBits_mul_le (m := 7) (by decide) (shl_bits (c := 320) hMb (by omega)))
      exact Nat.le_trans (intBits_le_of_natAbs (yb j (by omega)) hb) (by decide)
    · obtain ⟨y1, y2⟩ := ys_bd hM hL r1
      have hT := tOf_pos (M := M) (L := L) (by omega) (by omega)
      obtain ⟨w1, w2⟩ := wS_all (M := M) (ys := divN (yH M x R) (2 ^ R)) (T := tOf M L) (K := M / 8 + 1) hM' (by omega) (by omega) y1 y2 j hj
      exact bits_mono (bits_abs (b := 2 * M) (k := 400) (by omega) (by omega) (bits_mono (intBits_mul_le (m := 2) (by decide) hMb)))
  · obtain ⟨X, hX⟩ : ∃ X, ilogF M x L R = X := ⟨_, rfl⟩
    rw [hX]
    obtain ⟨Z, z0, z1, z2, z3, z4, z5⟩ := ilog_ser (y := yH M x R) hM hL hL2 r1 (X := X) hX
    have eg : 1 + (yH M x R : Rat) / ((M : Rat) * P R) = gH M x R := rfl
    rw [eg] at z4 z5
    obtain ⟨c1, c2, c3, c4⟩ := X_range hM he hlo hg hhi hR z0 z3 z4 z5
    have bk := hal_back (X := X) hM he hlo hg hR z0 c1 c2 c4 z1 z2 z4 z5
    obtain ⟨f1, f2⟩ := bk R (Nat.le_refl _)
    rw [Nat.sub_self, P_zero, ez] at f1 f2
    have e1 : (M : Rat) * 1 = (M : Rat) := by clear gle bk; grind
    have e2 : ∀ a : Rat, a + (hSum X M Z R - hSum X M Z 0) = a + hSum X M Z R := fun a => by
      have : hSum X M Z 0 = 0 := rfl
      rw [this]
      clear gle bk
      grind
    rw [e1, e2] at f1 f2
    refine ⟨Z, z0, c1, c2, c3, c4, ?_, f1, f2, fun j hj => ?_⟩
    · rw [z3]
      split
      · rename_i h
        have h' : 0 ≤ X := by exact_mod_cast h
        have : (X.natAbs : Int) = X := by omega
        rw [this]
      · rename_i h
        have h' : ¬ 0 ≤ X := fun hh => h (castnn hh)
        have : (X.natAbs : Int) = -X := by omega
        rw [this, Rat.intCast_neg]
    · obtain ⟨g1, g2⟩ := bk 1 (by omega)
      have ej : R - 1 = j := by omega
      rw [ej] at g1 g2
      have sl := hSum_le hM' c4 z0 c1 c2 R
      have s0 : 0 ≤ hSum X M Z j := hSum_mono hM' c4 z0 (Nat.zero_le _)
      have r13 : ((R : Nat) : Rat) ≤ 13 := by exact_mod_cast hR
      have hs := Rat.mul_pos hM0 (P_pos j)
      refine ⟨g1.exp_mono (div_mono hs ?_), g2.exp_mono (div_mono hs ?_), r2 j (by omega), (gle j (by omega)).2.1⟩
      · clear gle bk g1 g2 f1 f2 z4 z5 e2; grind
      · clear gle bk g1 g2 f1 f2 z4 z5 e2; grind

end Mine

namespace Mine
open PySem.Builtin.Int (intBits)
open Ex

/-- the weight that the law reckons -/
def wN (x M : Int) (k : Nat) : Int := 10 ^ 6 * (32 * (M * 2 ^ k)) ^ 32 / (32 * (M * 2 ^ k) + x) ^ 32 + 1
theorem wN_spec {x M : Int} (hM : 0 < M) (hx : -(12 * M) ≤ 5 * x) (k : Nat) : 1000000 * wq ((x : Rat) / ((M : Rat) * P k)) ≤ (wN x M k : Rat) ∧ 0 ≤ wN x M k ∧ wN x M k ≤ 13000001 := by
  have hd : 0 < (32 * (M * 2 ^ k) + x) ^ 32 := Int.pow_pos (den_pos hM hx k)
  obtain ⟨a, b⟩ := ediv_rat (a := 10 ^ 6 * (32 * (M * 2 ^ k)) ^ 32) hd
  have w := wq_int hM hx k
  have wl := (wk_le hM hx k).1
  have wp := wq_pos (wk_pos hM hx k)
  have e1 : ((10 ^ 6 * (32 * (M * 2 ^ k)) ^ 32 : Int) : Rat) / (((32 * (M * 2 ^ k) + x) ^ 32 : Int) : Rat) = 1000000 * wq ((x : Rat) / ((M : Rat) * P k)) := by
    rw [w, rat_mul_cast]
    have hdq := castpos hd
    have e6 : (((10 : Int) ^ 6 : Int) : Rat) = 1000000 := by decide +kernel
    rw [e6]
    generalize (((32 * (M * 2 ^ k)) ^ 32 : Int) : Rat) = y at *
    generalize (((32 * (M * 2 ^ k) + x) ^ 32 : Int) : Rat) = z at *
    grind
  rw [e1] at a b
  have el : (wN x M k : Rat) = ((10 ^ 6 * (32 * (M * 2 ^ k)) ^ 32 / (32 * (M * 2 ^ k) + x) ^ 32 : Int) : Rat) + 1 := by
    unfold wN
    exact Rat.intCast_add _ _
  generalize 10 ^ 6 * (32 * (M * 2 ^ k)) ^ 32 / (32 * (M * 2 ^ k) + x) ^ 32 = q at *
  refine ⟨by rw [el]; grind, ?_, ?_⟩
  · refine le_cast ?_
    have e0 : ((0 : Int) : Rat) = 0 := rfl
    rw [el, e0]; grind
  · refine le_cast ?_
    have e0 : ((13000001 : Int) : Rat) = 13000001 := rfl
    rw [el, e0]; grind

/-- the bound of _iexp that the law reckons -/
def dbN (x M : Int) : Nat → Int
  | 0 => 700000 + 10 ^ 6 * (x.natAbs : Int) / (16 * M) + 1
  | k + 1 => dbN x M k + (wN x M k / 2 + 1)
theorem dbN_spec {x M : Int} (hM : 0 < M) (hx : -(12 * M) ≤ 5 * x) (hx2 : x ≤ 12 * M) : ∀ k : Nat,
    1000000 * (70 / 100 + ((x.natAbs : Int) : Rat) / (M : Rat) / 16 + wSum x M k) ≤ (dbN x M k : Rat) ∧ dbN x M k ≤ 1500000 + 7000000 * (k : Int) ∧ 0 ≤ dbN x M k
  | 0 => by
    have hM0 := castpos hM
    obtain ⟨a, b⟩ := ediv_rat (a := 10 ^ 6 * (x.natAbs : Int)) (show 0 < 16 * M by omega)
    have e1 : ((10 ^ 6 * (x.natAbs : Int) : Int) : Rat) / ((16 * M : Int) : Rat) = 1000000 * (((x.natAbs : Int) : Rat) / (M : Rat) / 16) := by
      rw [rat_mul_cast, rat_mul_cast]
      have e6 : (((10 : Int) ^ 6 : Int) : Rat) = 1000000 := by decide +kernel
      have e2 : ((16 : Int) : Rat) = 16 := rfl
      rw [e6, e2]
      grind
    rw [e1] at a b
    have X12 : ((x.natAbs : Int) : Rat) / (M : Rat) ≤ 12 := div_le hM0 (by
      have : ((x.natAbs : Int)) ≤ 12 * M := by omega
      exact_mod_cast this)
    have X0 := div_nn (castnn (show 0 ≤ (x.natAbs : Int) by omega)) hM0
    have ez : wSum x M 0 = 0 := rfl
    show _ ≤ ((700000 + 10 ^ 6 * (x.natAbs : Int) / (16 * M) + 1 : Int) : Rat) ∧ 700000 + 10 ^ 6 * (x.natAbs : Int) / (16 * M) + 1 ≤ _ ∧ 0 ≤ 700000 + 10 ^ 6 * (x.natAbs : Int) / (16 * M) + 1
    have hq : 10 ^ 6 * (x.natAbs : Int) / (16 * M) ≤ 750000 := le_cast (by
      have e0 : ((750000 : Int) : Rat) = 750000 := rfl
      rw [e0]; grind)
    have hq0 : 0 ≤ 10 ^ 6 * (x.natAbs : Int) / (16 * M) := Int.ediv_nonneg (by omega) (by omega)
    generalize 10 ^ 6 * (x.natAbs : Int) / (16 * M) = q at *
    refine ⟨?_, by omega, by omega⟩
    rw [Rat.intCast_add, Rat.intCast_add, ez]
    have e7 : ((700000 : Int) : Rat) = 700000 := rfl
    have e8 : ((1 : Int) : Rat) = 1 := rfl
    rw [e7, e8]
    grind
  | k + 1 => by
    obtain ⟨a, b, b0⟩ := dbN_spec hM hx hx2 k
    obtain ⟨c, d0, d⟩ := wN_spec hM hx k
    obtain ⟨f1, f2⟩ := ediv_rat (a := wN x M k) (show (0 : Int) < 2 by decide)
    have e2 : ((2 : Int) : Rat) = 2 := rfl
    rw [e2] at f1 f2
    have el : (dbN x M (k + 1) : Rat) = (dbN x M k : Rat) + (((wN x M k / 2 : Int) : Rat) + 1) := by
      show ((dbN x M k + (wN x M k / 2 + 1) : Int) : Rat) = _
      rw [Rat.intCast_add, Rat.intCast_add]
      rfl
    refine ⟨?_, ?_, ?_⟩
    · rw [el]
      show 1000000 * (_ + (wSum x M k + _ / 2)) ≤ _
      grind
    · show dbN x M k + (wN x M k / 2 + 1) ≤ 1500000 + 7000000 * ((k + 1 : Nat) : Int)
      omega
    · show 0 ≤ dbN x M k + (wN x M k / 2 + 1)
      omega

/-- one halving, as the law reckons it -/
def hT (x M : Int) (k : Nat) : Int := wN x M k * (4 * 10 ^ 6 * M + (2 * 10 ^ 6 + wN x M k) * (x.natAbs : Int)) / (8 * 10 ^ 6 * M) + 1
def hvN (x M : Int) : Nat → Int
  | 0 => 550000 + 3 * 10 ^ 6 * (x.natAbs : Int) / (2 * M) + 1
  | k + 1 => hvN x M k + hT x M (k + 1)
theorem hT_spec {x M : Int} {Z : Rat} (hM : 0 < M) (hx : -(12 * M) ≤ 5 * x) (hx2 : x ≤ 12 * M) (hZ : Z * (M : Rat) = ((x.natAbs : Int) : Rat)) (hZ0 : 0 ≤ Z) (k : Nat) :
    1000000 * hE (wq ((x : Rat) / ((M : Rat) * P k))) Z ≤ (hT x M k : Rat) ∧ 0 ≤ hT x M k ∧ hT x M k ≤ 400000000 := by
  have hM0 := castpos hM
  obtain ⟨c, d0, d⟩ := wN_spec hM hx k
  have wp := wq_pos (wk_pos hM hx k)
  have hd : 0 < 8 * 10 ^ 6 * M := by omega
  obtain ⟨a, b⟩ := ediv_rat (a := wN x M k * (4 * 10 ^ 6 * M + (2 * 10 ^ 6 + wN x M k) * (x.natAbs : Int))) hd
  obtain ⟨ω, hω⟩ : ∃ ω : Rat, ω = (wN x M k : Rat) / 1000000 := ⟨_, rfl⟩
  have ω0 : 0 ≤ ω := by rw [hω]; exact div_nn (castnn d0) (by decide)
  have wω : wq ((x : Rat) / ((M : Rat) * P k)) ≤ ω := by rw [hω]; exact le_div (by decide) (by grind)
  have e1 : ((wN x M k * (4 * 10 ^ 6 * M + (2 * 10 ^ 6 + wN x M k) * (x.natAbs : Int)) : Int) : Rat) / ((8 * 10 ^ 6 * M : Int) : Rat) = 1000000 * hE ω Z := by
    have e6 : (((10 : Int) ^ 6 : Int) : Rat) = 1000000 := by decide +kernel
    rw [rat_mul_cast, Rat.intCast_add, rat_mul_cast, rat_mul_cast, rat_mul_cast, Rat.intCast_add, rat_mul_cast, rat_mul_cast, rat_mul_cast, e6, ← hZ]
    have e4 : ((4 : Int) : Rat) = 4 := rfl
    have e2 : ((2 : Int) : Rat) = 2 := rfl
    have e8 : ((8 : Int) : Rat) = 8 := rfl
    rw [e4, e2, e8]
    have ew : (wN x M k : Rat) = 1000000 * ω := by rw [hω]; grind
    rw [ew]
    unfold hE
    grind
  rw [e1] at a b
  have m := hE_mono (Rat.le_of_lt wp) wω hZ0 (Rat.le_refl (a := Z))
  have el : (hT x M k : Rat) = ((wN x M k * (4 * 10 ^ 6 * M + (2 * 10 ^ 6 + wN x M k) * (x.natAbs : Int)) / (8 * 10 ^ 6 * M) : Int) : Rat) + 1 := by
    unfold hT
    exact Rat.intCast_add _ _
  have Z12 : Z ≤ 12 := by
    refine Classical.byContradiction fun hn => ?_
    have h1 := Rat.mul_lt_mul_of_pos_right (show 12 < Z by grind) hM0
    rw [hZ] at h1
    have h2 : ((x.natAbs : Int) : Rat) ≤ 12 * (M : Rat) := by
      have : ((x.natAbs : Int)) ≤ 12 * M := by omega
      exact_mod_cast this
    grind
  have ω14 : ω ≤ 14 := by
    rw [hω]
    refine div_le (by decide) ?_
    have := castle d
    have e0 : ((13000001 : Int) : Rat) = 13000001 := rfl
    rw [e0] at this
    grind
  have mx := hE_mono ω0 ω14 hZ0 Z12
  have mxv : hE 14 12 ≤ 399 := by unfold hE; decide +kernel
  have hn := hE_nn ω0 hZ0
  generalize wN x M k * (4 * 10 ^ 6 * M + (2 * 10 ^ 6 + wN x M k) * (x.natAbs : Int)) / (8 * 10 ^ 6 * M) = q at *
  refine ⟨by rw [el]; grind, ?_, ?_⟩
  · refine le_cast ?_
    have e0 : ((0 : Int) : Rat) = 0 := rfl
    rw [el, e0]; grind
  · refine le_cast ?_
    have e0 : ((400000000 : Int) : Rat) = 400000000 := rfl
    rw [el, e0]; grind
theorem hvN_spec {x M : Int} {Z : Rat} (hM : 0 < M) (hx : -(12 * M) ≤ 5 * x) (hx2 : x ≤ 12 * M) (hX : -(2311 / 1000 * (M : Rat)) ≤ (x : Rat)) (hZ : Z * (M : Rat) = ((x.natAbs : Int) : Rat)) (hZ0 : 0 ≤ Z) : ∀ k : Nat,
    1000000 * (55 / 100 + 3 / 2 * Z + hSum x M Z k - (k : Rat) / 400) ≤ (hvN x M k : Rat) ∧ hvN x M k ≤ 20000000 + 400000000 * (k : Int) ∧ 0 ≤ hvN x M k
  | 0 => by
    have hM0 := castpos hM
    obtain ⟨a, b⟩ := ediv_rat (a := 3 * 10 ^ 6 * (x.natAbs : Int)) (show 0 < 2 * M by omega)
    have e1 : ((3 * 10 ^ 6 * (x.natAbs : Int) : Int) : Rat) / ((2 * M : Int) : Rat) = 1500000 * Z := by
      rw [rat_mul_cast, rat_mul_cast, rat_mul_cast, ← hZ]
      have e6 : (((10 : Int) ^ 6 : Int) : Rat) = 1000000 := by decide +kernel
      have e2 : ((2 : Int) : Rat) = 2 := rfl
      have e3 : ((3 : Int) : Rat) = 3 := rfl
      rw [e6, e2, e3]
      grind
    rw [e1] at a b
    have Z12 : Z ≤ 12 := by
      refine Classical.byContradiction fun hn => ?_
      have h1 := Rat.mul_lt_mul_of_pos_right (show 12 < Z by grind) hM0
      rw [hZ] at h1
      have h2 : ((x.natAbs : Int) : Rat) ≤ 12 * (M : Rat) := by
        have : ((x.natAbs : Int)) ≤ 12 * M := by omega
        exact_mod_cast this
      grind
    have ez : hSum x M Z 0 = 0 := rfl
    show _ ≤ ((550000 + 3 * 10 ^ 6 * (x.natAbs : Int) / (2 * M) + 1 : Int) : Rat) ∧ 550000 + 3 * 10 ^ 6 * (x.natAbs : Int) / (2 * M) + 1 ≤ _ ∧ 0 ≤ 550000 + 3 * 10 ^ 6 * (x.natAbs : Int) / (2 * M) + 1
    have hq : 3 * 10 ^ 6 * (x.natAbs : Int) / (2 * M) ≤ 18000000 := le_cast (by
      have e0 : ((18000000 : Int) : Rat) = 18000000 := rfl
      rw [e0]; grind)
    have hq0 : 0 ≤ 3 * 10 ^ 6 * (x.natAbs : Int) / (2 * M) := Int.ediv_nonneg (by omega) (by omega)
    generalize 3 * 10 ^ 6 * (x.natAbs : Int) / (2 * M) = q at *
    refine ⟨?_, by omega, by omega⟩
    rw [Rat.intCast_add, Rat.intCast_add, ez]
    have e7 : ((550000 : Int) : Rat) = 550000 := rfl
    have e8 : ((1 : Int) : Rat) = 1 := rfl
    have e9 : ((0 : Nat) : Rat) = 0 := rfl
    rw [e7, e8, e9]
    grind
  | k + 1 => by
    obtain ⟨a, b, b0⟩ := hvN_spec hM hx hx2 hX hZ hZ0 k
    obtain ⟨c, d0, d⟩ := hT_spec hM hx hx2 hZ hZ0 (k + 1)
    have el : (hvN x M (k + 1) : Rat) = (hvN x M k : Rat) + (hT x M (k + 1) : Rat) := by
      show ((hvN x M k + hT x M (k + 1) : Int) : Rat) = _
      exact Rat.intCast_add _ _
    have ek : ((k + 1 : Nat) : Rat) = (k : Rat) + 1 := by push_cast; rfl
    refine ⟨?_, ?_, ?_⟩
    · rw [el, ek]
      show 1000000 * (_ + (hSum x M Z k + (hE _ Z + 1 / 400)) - _) ≤ _
      grind
    · show hvN x M k + hT x M (k + 1) ≤ 20000000 + 400000000 * ((k + 1 : Nat) : Int)
      omega
    · show 0 ≤ hvN x M k + hT x M (k + 1)
      omega

end Mine

namespace Mine
open PySem.Builtin.Int (intBits)
open Ex

theorem hSum_mono2 {X M : Int} {Z : Rat} (hM : 0 < M) (hX : -(2311 / 1000 * (M : Rat)) ≤ (X : Rat)) (hZ0 : 0 ≤ Z) {m n : Nat} (h : m ≤ n) : hSum X M Z m - (m : Rat) / 400 ≤ hSum X M Z n - (n : Rat) / 400 := by
  induction h with
  | refl => exact Rat.le_refl
  | step _ ih =>
    rename_i n _
    have e : ((n + 1 : Nat) : Rat) = (n : Rat) + 1 := by push_cast; rfl
    rw [e]
    show _ ≤ hSum X M Z n + (hE _ Z + 1 / 400) - _
    have := hE_nn (Rat.le_of_lt (wq_pos (whk hM hX (k := n + 1) (by omega)).1)) hZ0
    grind

theorem EL_half {t : Rat} (h0 : 0 ≤ t) (h2 : t ≤ 2) : EL (t / 2) (1 + t) := by
  have k := EL.tanh (u := t / 4) (by grind) (by grind)
  have e : 2 * (t / 4) = t / 2 := by grind
  rw [e] at k
  refine k.mono (div_le (by grind) ?_)
  have := Rat.mul_nonneg h0 (show 0 ≤ 2 - t by grind)
  grind

/-- the halvings are no more than the law counts -/
theorem R_turns {M x L X : Int} {R t : Nat} (hM : 1000000 ≤ M) (hL : 3 ≤ L) (hL2 : L ≤ 10) (hR : R ≤ 13)
    (hj : ∀ j, j + 1 = R → EL (((X : Rat) - 64) / ((M : Rat) * P j)) (gH M x j) ∧ EG (((X : Rat) + 64) / ((M : Rat) * P j)) (gH M x j) ∧ Halves M L (yH M x j) j ∧ gH M x j ≤ 54)
    (ht : ¬ M * 2 ^ t < (X.natAbs : Int) * 2 ^ L.toNat + M) : R ≤ t + 1 := by
  refine Classical.byContradiction fun hn => ?_
  obtain ⟨i, hi⟩ : ∃ i, R = i + 2 := ⟨R - 2, by omega⟩
  obtain ⟨a, b, hH, g54⟩ := hj (i + 1) (by omega)
  have hM' : 0 < M := by omega
  have hM0 := castpos hM'
  have hM6 : (1000000 : Rat) ≤ (M : Rat) := castle hM
  have hti : t ≤ i := by omega
  have hs := Rat.mul_pos hM0 (P_pos (i + 1))
  have X0 : (0 : Rat) ≤ ((X.natAbs : Int) : Rat) := castnn (by omega)
  have Xa : (X : Rat) ≤ ((X.natAbs : Int) : Rat) := castle (by omega)
  have Xb : -((X.natAbs : Int) : Rat) ≤ (X : Rat) := by
    rw [← Rat.intCast_neg]; exact castle (by omega)
  unfold Halves at hH
  have h1 := castle hH
  rw [rat_mul_cast, rat_mul_cast, P_int, P_int] at h1
  have PL := P_pos L.toNat
  have PL8 : 8 ≤ P L.toNat := by
    have := P_mono (show 3 ≤ L.toNat by omega)
    have e3 : P 3 = 8 := by decide +kernel
    grind
  have PL10 : P L.toNat ≤ 1024 := by
    have := P_mono (show L.toNat ≤ 10 by omega)
    have e3 : P 10 = 1024 := by decide +kernel
    grind
  -- 2 |X| + 128 ≥ |y| or |X| + 64 ≥ s
  have key : (((yH M x (i + 1)).natAbs : Int) : Rat) ≤ 2 * ((X.natAbs : Int) : Rat) + 128 ∨ (M : Rat) * P (i + 1) ≤ ((X.natAbs : Int) : Rat) + 64 := by
    rcases Int.le_total 0 (yH M x (i + 1)) with h | h
    · have ey : (((yH M x (i + 1)).natAbs : Int) : Rat) = (yH M x (i + 1) : Rat) := by
        have : ((yH M x (i + 1)).natAbs : Int) = yH M x (i + 1) := by omega
        rw [this]
      rw [ey]
      have y0 := castnn h
      unfold gH at b
      have t0 := div_nn y0 hs
      rcases Rat.le_total (a := (yH M x (i + 1) : Rat) / ((M : Rat) * P (i + 1))) (b := 2) with h2 | h2
      · left
        have m := EL.arg_le (EL_half t0 h2) b
        have m2 := Rat.mul_le_mul_of_nonneg_right m (Rat.le_of_lt hs)
        generalize (M : Rat) * P (i + 1) = s at *
        have e1 : (yH M x (i + 1) : Rat) / s / 2 * s = (yH M x (i + 1) : Rat) / 2 := by
          generalize (yH M x (i + 1) : Rat) = y at *
          clear m m2 a b h1 hj
          grind
        have e2 : ((X : Rat) + 64) / s * s = (X : Rat) + 64 := Rat.div_mul_cancel (by clear m m2 a b h1 hj; grind)
        rw [e1, e2] at m2
        generalize (yH M x (i + 1) : Rat) = y at *
        clear m a b h1 hj
        grind
      · right
        have k := (EL_half (t := 2) (by decide) (by decide))
        have m := EL.arg_le (k.mono (show (1 : Rat) + 2 ≤ 1 + (yH M x (i + 1) : Rat) / ((M : Rat) * P (i + 1)) by clear a b h1 hj; grind)) b
        have m2 := Rat.mul_le_mul_of_nonneg_right m (Rat.le_of_lt hs)
        generalize (M : Rat) * P (i + 1) = s at *
        have e2 : ((X : Rat) + 64) / s * s = (X : Rat) + 64 := Rat.div_mul_cancel (by clear m m2 a b h1 hj; grind)
        rw [e2] at m2
        have e3 : (2 : Rat) / 2 * s = s := by clear m m2 a b h1 hj; grind
        rw [e3] at m2
        clear m a b h1 hj
        grind
    · left
      have ey : (((yH M x (i + 1)).natAbs : Int) : Rat) = -(yH M x (i + 1) : Rat) := by
        have : ((yH M x (i + 1)).natAbs : Int) = -(yH M x (i + 1)) := by omega
        rw [this, Rat.intCast_neg]
      rw [ey]
      unfold gH at a
      have m := EL.arg_le a (EG.one_add ((yH M x (i + 1) : Rat) / ((M : Rat) * P (i + 1))))
      have m2 := Rat.mul_le_mul_of_nonneg_right m (Rat.le_of_lt hs)
      generalize (M : Rat) * P (i + 1) = s at *
      have e1 : (yH M x (i + 1) : Rat) / s * s = (yH M x (i + 1) : Rat) := Rat.div_mul_cancel (by clear m m2 a b h1 hj; grind)
      have e2 : ((X : Rat) - 64) / s * s = (X : Rat) - 64 := Rat.div_mul_cancel (by clear m m2 a b h1 hj; grind)
      rw [e1, e2] at m2
      generalize (yH M x (i + 1) : Rat) = y at *
      clear m a b h1 hj
      grind
  apply ht
  have Pi : P t ≤ P i := P_mono hti
  have Pi0 := P_pos i
  have e1 : P (i + 1) = 2 * P i := P_succ i
  rw [e1] at key h1
  have fin : (M : Rat) * P t < ((X.natAbs : Int) : Rat) * P L.toNat + (M : Rat) := by
    have mt := Rat.mul_le_mul_of_nonneg_left Pi (Rat.le_of_lt hM0)
    clear a b hj hs
    generalize ((X.natAbs : Int) : Rat) = U at *
    generalize (((yH M x (i + 1)).natAbs : Int) : Rat) = V at *
    rcases key with k | k
    · have m := Rat.mul_le_mul_of_nonneg_right k (Rat.le_of_lt PL)
      have e3 : (M : Rat) * (2 * P i) = 2 * ((M : Rat) * P i) := by clear k m h1 mt; grind
      have e4 : (2 * U + 128) * P L.toNat = 2 * (U * P L.toNat) + 128 * P L.toNat := by clear k m h1 mt; grind
      rw [e3] at h1
      rw [e4] at m
      generalize U * P L.toNat = z1 at *
      generalize (M : Rat) * P i = z2 at *
      generalize (M : Rat) * P t = z3 at *
      generalize V * P L.toNat = z4 at *
      grind
    · have m := Rat.mul_le_mul_of_nonneg_left PL8 X0
      have e3 : (M : Rat) * (2 * P i) = 2 * ((M : Rat) * P i) := by clear k m h1 mt; grind
      rw [e3] at k
      generalize U * P L.toNat = z1 at *
      generalize (M : Rat) * P i = z2 at *
      generalize (M : Rat) * P t = z3 at *
      grind
  have c1 : ((M * 2 ^ t : Int) : Rat) < (((X.natAbs : Int) * 2 ^ L.toNat + M : Int) : Rat) := by
    rw [Rat.intCast_add, rat_mul_cast, rat_mul_cast, P_int, P_int]
    exact fin
  exact_mod_cast c1

/-- one logarithm of the law -/
theorem log01 {M w K : Int} (hM : 1000000 ≤ M) (hMb : intBits M ≤ 64) (hK : 3 ≤ K) (hK2 : K ≤ 10) (h1 : M / 6 ≤ w) (h2 : w < 51 * M) :
    ∃ R : Nat, R ≤ 13 ∧ PreL M w K R ∧ (-(12 * M) ≤ 5 * ilogF M w K R ∧ ilogF M w K R ≤ 12 * M) ∧ ((ilogF M w K R : Rat) ≤ 399 / 100 * (M : Rat) ∧ -(2311 / 1000 * (M : Rat)) ≤ (ilogF M w K R : Rat)) ∧
      ∃ E : Rat, 0 ≤ E ∧ E ≤ 64 ∧ EL (((ilogF M w K R : Rat) - E) / (M : Rat)) ((w : Rat) / (M : Rat)) ∧ EG (((ilogF M w K R : Rat) + E) / (M : Rat)) ((w : Rat) / (M : Rat)) ∧
        ∀ t : Nat, t ≤ 14 → ¬ M * 2 ^ t < ((ilogF M w K R).natAbs : Int) * 2 ^ K.toNat + M → 1000000 * (E + 16 / 1000) ≤ (hvN (ilogF M w K R) M (t + 1) : Rat) ∧ hvN (ilogF M w K R) M (t + 1) ≤ 7000000000 ∧ 0 ≤ hvN (ilogF M w K R) M (t + 1) := by
  have hM' : 0 < M := by omega
  have hM0 := castpos hM'
  have hM6 : (1000000 : Rat) ≤ (M : Rat) := castle hM
  have hlo : 994 / 10000 ≤ (w : Rat) / (M : Rat) * (1 - 50000 * (1 / (M : Rat))) := by
    have a1 : M - 5 ≤ 6 * w := by omega
    have a2 : (M : Rat) - 5 ≤ 6 * (w : Rat) := by
      have := castle a1
      rw [Rat.intCast_sub, rat_mul_cast] at this
      exact this
    have a3 : 1666 / 10000 ≤ (w : Rat) / (M : Rat) := le_div hM0 (by grind)
    have a4 : 1 / (M : Rat) ≤ 1 / 1000000 := div_le hM0 (by grind)
    have a5 := Rat.mul_le_mul_of_nonneg_left (show 95 / 100 ≤ 1 - 50000 * (1 / (M : Rat)) by grind) (show 0 ≤ (w : Rat) / (M : Rat) by grind)
    grind
  obtain ⟨R, hR, pre, Z, z0, z4, zn, x1, x2, zM, el, eg, hj⟩ := ilog_wt hM (bits_mono hMb) hK hK2 (show 0 < w by omega) (by omega) hlo
  refine ⟨R, hR, pre, ?_⟩
  generalize ilogF M w K R = X at *
  have r1 : -(12 * M) ≤ 5 * X := by
    refine le_cast ?_
    rw [Rat.intCast_neg, rat_mul_cast, rat_mul_cast]
    have e5 : ((5 : Int) : Rat) = 5 := rfl
    have e12 : ((12 : Int) : Rat) = 12 := rfl
    rw [e5, e12]
    clear el eg hj
    grind
  have r2 : X ≤ 12 * M := by
    refine le_cast ?_
    rw [rat_mul_cast]
    have e12 : ((12 : Int) : Rat) = 12 := rfl
    rw [e12]
    clear el eg hj
    grind
  have sl := hSum_le hM' x2 z0 z4 zn R
  have s0 : 0 ≤ hSum X M Z R := hSum_mono hM' x2 z0 (Nat.zero_le _)
  have r13 : ((R : Nat) : Rat) ≤ 13 := by exact_mod_cast hR
  refine ⟨⟨r1, r2⟩, ⟨x1, x2⟩, 501 / 1000 + 145 / 100 * Z + hSum X M Z R, by clear el eg hj; grind, by clear el eg hj; grind, el, eg, fun t ht14 ht => ?_⟩
  have hRt := R_turns hM hK hK2 hR hj ht
  obtain ⟨a, b, c⟩ := hvN_spec hM' r1 r2 x2 zM z0 (t + 1)
  have mm := hSum_mono2 hM' x2 z0 hRt
  refine ⟨?_, by omega, c⟩
  clear el eg hj
  generalize hSum X M Z (t + 1) = y at *
  generalize ((t + 1 : Nat) : Rat) = k at *
  generalize (hvN X M (t + 1) : Rat) = h at *
  clear zn x1 x2 zM hlo hM0 hM6
  grind

end Mine

namespace Mine
open PySem.Builtin.Int (intBits)
open Ex

theorem fin_dn2 {u ρ β θ N T q A : Rat} {n : Nat} (hN : 1000000 ≤ N) (hu : 0 < u) (hρ : 0 ≤ ρ) (hρ2 : ρ ≤ 70) (hθ0 : 0 ≤ θ) (hθ2 : θ ≤ 70) (hβ : ρ + θ + 1 / 50 ≤ β) (hβ2 : β ≤ 100000)
    (hE : EG q (u * (1 - ρ / N))) (hA : EL A T) (hq : (n : Rat) * q ≤ A + (n : Rat) * (θ / N)) : (u * (1 - β / N)) ^ n ≤ T := by
  have hN0 : 0 < N := by grind
  obtain ⟨e, he⟩ : ∃ e, e = 1 / N := ⟨_, rfl⟩
  have he0 : 0 < e := by rw [he]; exact div_pos (by decide) hN0
  have he1 : e ≤ 1 / 1000000 := by rw [he]; exact div_le hN0 (by grind)
  have e1 : ρ / N = ρ * e := by grind
  have e2 : β / N = β * e := by grind
  have e3 : θ / N = θ * e := by grind
  rw [e1] at hE
  rw [e3] at hq
  rw [e2]
  have ρe : ρ * e ≤ 70 * e := Rat.mul_le_mul_of_nonneg_right hρ2 (Rat.le_of_lt he0)
  have βe : β * e ≤ 100000 * e := Rat.mul_le_mul_of_nonneg_right hβ2 (Rat.le_of_lt he0)
  have θe : θ * e ≤ 70 * e := Rat.mul_le_mul_of_nonneg_right hθ2 (Rat.le_of_lt he0)
  have θe0 : 0 ≤ θ * e := Rat.mul_nonneg hθ0 (Rat.le_of_lt he0)
  have θ2 : 2 * (θ * e * (θ * e)) ≤ 98 / 10000 * e := by
    have a1 := Rat.mul_le_mul_of_nonneg_left θe θe0
    have a2 : θ * e * (70 * e) ≤ 70 * e * (70 * e) := Rat.mul_le_mul_of_nonneg_right θe (by grind)
    have a3 : e * e ≤ 1 / 1000000 * e := Rat.mul_le_mul_of_nonneg_right he1 (Rat.le_of_lt he0)
    have e4 : 70 * e * (70 * e) = 4900 * (e * e) := by grind
    rw [e4] at a2
    grind
  have hθ : EL (θ * e) (1 + (θ + 1 / 100) * e) := (EL.quad (by grind)).mono (by
    generalize θ * e * (θ * e) = z at *
    grind)
  have k1 := EG.powN hE (Rat.mul_pos hu (by grind)) n
  have k2 := (EL.add hA (EL.powN hθ n)).exp_mono hq
  have k := k1.le k2
  have θp : 0 ≤ (θ + 1 / 100) * e := Rat.mul_nonneg (by grind) (Rat.le_of_lt he0)
  have m : u * (1 - β * e) * (1 + (θ + 1 / 100) * e) ≤ u * (1 - ρ * e) := by
    have c1 : (1 - β * e) * (1 + (θ + 1 / 100) * e) ≤ 1 - ρ * e := by
      have b1 := Rat.mul_le_mul_of_nonneg_right hβ (Rat.le_of_lt he0)
      have b2 : 0 ≤ β * e := Rat.mul_nonneg (by grind) (Rat.le_of_lt he0)
      have b3 := Rat.mul_nonneg b2 θp
      have e5 : (1 - β * e) * (1 + (θ + 1 / 100) * e) = 1 - β * e + (θ + 1 / 100) * e - β * e * ((θ + 1 / 100) * e) := by grind
      rw [e5]
      generalize β * e * ((θ + 1 / 100) * e) = z at *
      grind
    have := Rat.mul_le_mul_of_nonneg_left c1 (Rat.le_of_lt hu)
    grind
  have pos1 : 0 ≤ u * (1 - β * e) := Rat.mul_nonneg (Rat.le_of_lt hu) (by grind)
  have m2 := pow_le_pow' (Rat.mul_nonneg pos1 (show 0 ≤ 1 + (θ + 1 / 100) * e by grind)) m n
  rw [mul_pow'] at m2
  have hp : 0 < (1 + (θ + 1 / 100) * e) ^ n := Rat.pow_pos (by grind)
  have m3 := Rat.le_trans m2 k
  have := le_div hp m3
  have e6 : T * (1 + (θ + 1 / 100) * e) ^ n / (1 + (θ + 1 / 100) * e) ^ n = T := by
    generalize (1 + (θ + 1 / 100) * e) ^ n = z at *
    grind
  rwa [e6] at this

theorem fin_up2 {u ρ β θ N T q A : Rat} {n : Nat} (hN : 1000000 ≤ N) (hu : 0 < u) (hρ : 0 ≤ ρ) (hρ2 : ρ ≤ 70) (hθ0 : 0 ≤ θ) (hθ2 : θ ≤ 70) (hβ : ρ + θ + 1 / 50 ≤ β)
    (hE : EL q (u * (1 + ρ / N))) (hA : EG A T) (hq : A ≤ (n : Rat) * q + (n : Rat) * (θ / N)) : T ≤ (u * (1 + β / N)) ^ n := by
  have hN0 : 0 < N := by grind
  obtain ⟨e, he⟩ : ∃ e, e = 1 / N := ⟨_, rfl⟩
  have he0 : 0 < e := by rw [he]; exact div_pos (by decide) hN0
  have he1 : e ≤ 1 / 1000000 := by rw [he]; exact div_le hN0 (by grind)
  have e1 : ρ / N = ρ * e := by grind
  have e2 : β / N = β * e := by grind
  have e3 : θ / N = θ * e := by grind
  rw [e1] at hE
  rw [e3] at hq
  rw [e2]
  have ρe : ρ * e ≤ 70 * e := Rat.mul_le_mul_of_nonneg_right hρ2 (Rat.le_of_lt he0)
  have ρe0 : 0 ≤ ρ * e := Rat.mul_nonneg hρ (Rat.le_of_lt he0)
  have θe : θ * e ≤ 70 * e := Rat.mul_le_mul_of_nonneg_right hθ2 (Rat.le_of_lt he0)
  have θe0 : 0 ≤ θ * e := Rat.mul_nonneg hθ0 (Rat.le_of_lt he0)
  have a3 : e * e ≤ 1 / 1000000 * e := Rat.mul_le_mul_of_nonneg_right he1 (Rat.le_of_lt he0)
  have θ2 : 2 * (θ * e * (θ * e)) ≤ 98 / 10000 * e := by
    have a1 := Rat.mul_le_mul_of_nonneg_left θe θe0
    have a2 : θ * e * (70 * e) ≤ 70 * e * (70 * e) := Rat.mul_le_mul_of_nonneg_right θe (by grind)
    have e4 : 70 * e * (70 * e) = 4900 * (e * e) := by grind
    rw [e4] at a2
    grind
  have hθ : EL (θ * e) (1 + (θ + 98 / 10000) * e) := (EL.quad (by grind)).mono (by
    generalize θ * e * (θ * e) = z at *
    grind)
  have k2 := (EL.add (EL.powN hE n) (EL.powN hθ n)).exp_mono hq
  have k := hA.le k2
  rw [← mul_pow'] at k
  have θp : 0 ≤ (θ + 98 / 10000) * e := Rat.mul_nonneg (by grind) (Rat.le_of_lt he0)
  refine Rat.le_trans k (pow_le_pow' ?_ ?_ n)
  · exact Rat.mul_nonneg (Rat.mul_nonneg (Rat.le_of_lt hu) (by grind)) (by grind)
  · have c1 : (1 + ρ * e) * (1 + (θ + 98 / 10000) * e) ≤ 1 + β * e := by
      have b1 := Rat.mul_le_mul_of_nonneg_right hβ (Rat.le_of_lt he0)
      have θp2 : (θ + 98 / 10000) * e ≤ 71 * e := Rat.mul_le_mul_of_nonneg_right (by grind) (Rat.le_of_lt he0)
      have b3 := Rat.mul_le_mul_of_nonneg_left θp2 ρe0
      have b4 : ρ * e * (71 * e) ≤ 70 * e * (71 * e) := Rat.mul_le_mul_of_nonneg_right ρe (by grind)
      have e5 : (1 + ρ * e) * (1 + (θ + 98 / 10000) * e) = 1 + ρ * e + (θ + 98 / 10000) * e + ρ * e * ((θ + 98 / 10000) * e) := by grind
      rw [e5]
      have e7 : 70 * e * (71 * e) = 4970 * (e * e) := by grind
      rw [e7] at b4
      generalize ρ * e * ((θ + 98 / 10000) * e) = z at *
      generalize ρ * e * (71 * e) = z2 at *
      generalize e * e = ee' at *
      grind
    have := Rat.mul_le_mul_of_nonneg_left c1 (Rat.le_of_lt hu)
    grind

/-- the law's last line, for n numbers -/
theorem core01 {M L v S HS W : Int} {n K : Nat} {F : Rat} (hM : 1000000 ≤ M) (hMb : intBits M ≤ 64) (hL : 3 ≤ L) (hL2 : L ≤ 10) (hn : 1 ≤ n) (hn3 : n ≤ 3)
    (hS1 : (S : Rat) ≤ (n : Rat) * (399 / 100 * (M : Rat))) (hS2 : -((n : Rat) * (2311 / 1000 * (M : Rat))) ≤ (S : Rat)) (hv : divN S (n : Int) = v)
    (hF0 : 0 ≤ F) (hF : F ≤ (n : Rat) * 64) (h1 : EL (((S : Rat) - F) / (M : Rat)) ((W : Rat) / (M : Rat) ^ n)) (h2 : EG (((S : Rat) + F) / (M : Rat)) ((W : Rat) / (M : Rat) ^ n))
    (hHS : 1000000 * (F + (n : Rat) * (16 / 1000)) ≤ (HS : Rat)) (hHS2 : HS ≤ (n : Int) * 7000000000)
    : v ≤ 12 * M ∧ -(12 * M) ≤ 5 * v ∧ PreE M v L ∧ 0 < iexpF M v L ∧ iexpF M v L ≤ 2 ^ 27 * M ∧
      ∀ K : Nat, K ≤ 14 → ¬ M * 2 ^ K < (v.natAbs : Int) * 2 ^ L.toNat + M → 0 ≤ HS / (n : Int) + 500001 + dbN v M K ∧ HS / (n : Int) + 500001 + dbN v M K ≤ 10000000000 ∧
      (iexpF M v L * (10 ^ 6 * M - (HS / (n : Int) + 500001 + dbN v M K))) ^ n ≤ (10 ^ 6 * M) ^ n * W ∧ (10 ^ 6 * M) ^ n * W ≤ (iexpF M v L * (10 ^ 6 * M + (HS / (n : Int) + 500001 + dbN v M K))) ^ n := by
  have hM' : 0 < M := by omega
  have hM0 := castpos hM'
  have hM6 : (1000000 : Rat) ≤ (M : Rat) := castle hM
  have hn0 : (0 : Int) < (n : Int) := by omega
  have hnq : (1 : Rat) ≤ (n : Rat) := by exact_mod_cast hn
  have hn3q : (n : Rat) ≤ 3 := by exact_mod_cast hn3
  obtain ⟨d1, d2⟩ := divN_rat (a := S) hn0
  rw [hv] at d1 d2
  have en : ((n : Int) : Rat) = (n : Rat) := by push_cast; rfl
  rw [en] at d1 d2
  have hnp : (0 : Rat) < (n : Rat) := by grind
  have v1 : (n : Rat) * (v : Rat) ≤ (S : Rat) + (n : Rat) / 2 := by
    have := Rat.mul_le_mul_of_nonneg_left d2 (Rat.le_of_lt hnp)
    have e : (n : Rat) * ((S : Rat) / (n : Rat) + 1 / 2) = (S : Rat) + (n : Rat) / 2 := by grind
    rwa [e] at this
  have v2 : (S : Rat) - (n : Rat) / 2 ≤ (n : Rat) * (v : Rat) := by
    have := Rat.mul_le_mul_of_nonneg_left d1 (Rat.le_of_lt hnp)
    have e : (n : Rat) * ((S : Rat) / (n : Rat) - 1 / 2) = (S : Rat) - (n : Rat) / 2 := by grind
    rwa [e] at this
  have w1 : (v : Rat) ≤ 399 / 100 * (M : Rat) + 1 / 2 := by
    have : (S : Rat) / (n : Rat) ≤ 399 / 100 * (M : Rat) := div_le hnp (by grind)
    grind
  have w2 : -(2311 / 1000 * (M : Rat)) - 1 / 2 ≤ (v : Rat) := by
    have : -(2311 / 1000 * (M : Rat)) ≤ (S : Rat) / (n : Rat) := le_div hnp (by grind)
    grind
  have x1 : v ≤ 12 * M := le_cast (by
    rw [rat_mul_cast]
    have e12 : ((12 : Int) : Rat) = 12 := rfl
    rw [e12]
    clear h1 h2
    grind)
  have x2 : -(12 * M) ≤ 5 * v := le_cast (by
    rw [Rat.intCast_neg, rat_mul_cast, rat_mul_cast]
    have e12 : ((12 : Int) : Rat) = 12 := rfl
    have e5 : ((5 : Int) : Rat) = 5 := rfl
    rw [e12, e5]
    clear h1 h2
    grind)
  obtain ⟨i1, i2, pre, t0, -, t2⟩ := iexp_wt (x := v) (L := L) hM (bits_mono hMb) hL hL2 x1 x2
  refine ⟨x1, x2, pre, t0, t2, fun K hK hK2 => ?_⟩
  obtain ⟨b1, b2, b3⟩ := dbN_spec hM' x2 x1 K
  have hR := turns_of hM' hK2
  have sm := wSum_mono hM' x2 hR
  have sn : 0 ≤ wSum v M (rOf M v L) := wSum_mono hM' x2 (Nat.zero_le _)
  have sl := wSum_le hM' x2 (rOf M v L)
  have hR14 := rOf14 hM hL hL2 x1 x2
  have r14 : ((rOf M v L : Nat) : Rat) ≤ 14 := by exact_mod_cast hR14
  have Xn := div_nn (castnn (show 0 ≤ (v.natAbs : Int) by omega)) hM0
  have X12 : ((v.natAbs : Int) : Rat) / (M : Rat) ≤ 12 := div_le hM0 (by
    have : ((v.natAbs : Int)) ≤ 12 * M := by omega
    exact_mod_cast this)
  obtain ⟨q1, q2⟩ := ediv_rat (a := HS) hn0
  rw [en] at q1 q2
  have HSn : 0 ≤ HS := le_cast (by
    have e0 : ((0 : Int) : Rat) = 0 := rfl
    rw [e0]
    clear h1 h2 i1 i2
    grind)
  have hq0 : 0 ≤ HS / (n : Int) := Int.ediv_nonneg HSn (by omega)
  have hq7 : HS / (n : Int) ≤ 7000000000 := by
    refine Int.ediv_le_of_le_mul hn0 ?_
    rw [Int.mul_comm]
    omega
  -- q ≥ ..
  have q3 : 1000000 * (F / (n : Rat) + 16 / 1000) ≤ (HS : Rat) / (n : Rat) := le_div hnp (by
    have e : 1000000 * (F / (n : Rat) + 16 / 1000) * (n : Rat) = 1000000 * (F + (n : Rat) * (16 / 1000)) := by clear h1 h2 i1 i2 q1 q2; grind
    rw [e]
    exact hHS)
  obtain ⟨B, hB⟩ : ∃ B, HS / (n : Int) + 500001 + dbN v M K = B := ⟨_, rfl⟩
  have hBq : (B : Rat) = ((HS / (n : Int) : Int) : Rat) + 500001 + (dbN v M K : Rat) := by
    rw [← hB, Rat.intCast_add, Rat.intCast_add]
    have e0 : ((500001 : Int) : Rat) = 500001 := rfl
    rw [e0]
  refine ⟨by omega, by omega, ?_⟩
  rw [hB]
  have hθ : F / (n : Rat) ≤ 64 := div_le hnp (by clear h1 h2 i1 i2; grind)
  have hθ0 := div_nn hF0 hnp
  obtain ⟨ρ, hρ⟩ : ∃ ρ : Rat, ρ = 69 / 100 + ((v.natAbs : Int) : Rat) / (M : Rat) / 16 + wSum v M (rOf M v L) := ⟨_, rfl⟩
  rw [← hρ] at i1 i2
  have ρ0 : 0 ≤ ρ := by rw [hρ]; clear h1 h2 i1 i2; grind
  have ρ70 : ρ ≤ 70 := by rw [hρ]; clear h1 h2 i1 i2; grind
  have hβ : ρ + (1 / 2 + F / (n : Rat)) + 1 / 50 ≤ (B : Rat) / 1000000 := le_div (by decide) (by
    rw [hρ, hBq]
    generalize F / (n : Rat) = f at *
    clear h1 h2 i1 i2 hB hBq hρ d1 d2 v1 v2
    grind)
  have hβ2 : (B : Rat) / 1000000 ≤ 100000 := div_le (by decide) (by
    have h : B ≤ 10000000000 := by omega
    have := castle h
    have e0 : ((10000000000 : Int) : Rat) = 10000000000 := rfl
    rw [e0] at this
    clear h1 h2 i1 i2
    grind)
  have hF0' := castpos t0
  have hu : 0 < (iexpF M v L : Rat) / (M : Rat) := div_pos hF0' hM0
  have nθ : (n : Rat) * ((1 / 2 + F / (n : Rat)) / (M : Rat)) = ((n : Rat) / 2 + F) / (M : Rat) := by clear h1 h2 i1 i2; grind
  have nv : (n : Rat) * ((v : Rat) / (M : Rat)) = (n : Rat) * (v : Rat) / (M : Rat) := by clear h1 h2 i1 i2; grind
  have c1 := fin_dn2 (n := n) hM6 hu ρ0 ρ70 (show 0 ≤ 1 / 2 + F / (n : Rat) by clear h1 h2 i1 i2; grind) (by clear h1 h2 i1 i2; grind) hβ hβ2 i2 h1 (by
    rw [nθ, nv]
    have := div_mono hM0 (show (n : Rat) * (v : Rat) ≤ (S : Rat) - F + ((n : Rat) / 2 + F) by clear h1 h2 i1 i2; grind)
    have e : ((S : Rat) - F + ((n : Rat) / 2 + F)) / (M : Rat) = ((S : Rat) - F) / (M : Rat) + ((n : Rat) / 2 + F) / (M : Rat) := by clear h1 h2 i1 i2; grind
    rwa [e] at this)
  have c2 := fin_up2 (n := n) hM6 hu ρ0 ρ70 (show 0 ≤ 1 / 2 + F / (n : Rat) by clear h1 h2 i1 i2; grind) (by clear h1 h2 i1 i2; grind) hβ i1 h2 (by
    rw [nθ, nv]
    have := div_mono hM0 (show (S : Rat) + F ≤ (n : Rat) * (v : Rat) + ((n : Rat) / 2 + F) by clear h1 h2 i1 i2; grind)
    have e : ((n : Rat) * (v : Rat) + ((n : Rat) / 2 + F)) / (M : Rat) = (n : Rat) * (v : Rat) / (M : Rat) + ((n : Rat) / 2 + F) / (M : Rat) := by clear h1 h2 i1 i2; grind
    rwa [e] at this)
  have e6 : (((10 : Int) ^ 6 : Int) : Rat) = 1000000 := by decide +kernel
  have eU : ((10 ^ 6 * M : Int) : Rat) = 1000000 * (M : Rat) := by rw [rat_mul_cast, e6]
  clear h1 h2 i1 i2 b1 b2 b3 q1 q2 q3 d1 d2 v1 v2 w1 w2 hβ hβ2 hρ hBq hB sl sm sn X12 Xn nθ nv
  generalize iexpF M v L = T at *
  have hNn : 0 < ((M : Rat) * (1000000 * (M : Rat))) ^ n := Rat.pow_pos (Rat.mul_pos hM0 (by grind))
  have hNb : 0 < (M : Rat) ^ n := Rat.pow_pos hM0
  have e2 : (W : Rat) / (M : Rat) ^ n * ((M : Rat) * (1000000 * (M : Rat))) ^ n = (1000000 * (M : Rat)) ^ n * (W : Rat) := by
    rw [mul_pow' (M : Rat) (1000000 * (M : Rat))]
    generalize (M : Rat) ^ n = z at *
    generalize (1000000 * (M : Rat)) ^ n = z2 at *
    clear c1 c2
    grind
  constructor
  · refine le_cast ?_
    rw [castpow, rat_mul_cast T, Rat.intCast_sub, rat_mul_cast ((10 ^ 6 * M) ^ n), castpow, eU]
    have e1 : (T : Rat) * (1000000 * (M : Rat) - (B : Rat)) = (T : Rat) / (M : Rat) * (1 - (B : Rat) / 1000000 / (M : Rat)) * ((M : Rat) * (1000000 * (M : Rat))) := by clear c1 c2 e2; grind
    rw [e1, mul_pow' (_ * _) ((M : Rat) * _), ← e2]
    exact Rat.mul_le_mul_of_nonneg_right c1 (Rat.le_of_lt hNn)
  · refine le_cast ?_
    rw [castpow, rat_mul_cast T, Rat.intCast_add, rat_mul_cast ((10 ^ 6 * M) ^ n), castpow, eU]
    have e1 : (T : Rat) * (1000000 * (M : Rat) + (B : Rat)) = (T : Rat) / (M : Rat) * (1 + (B : Rat) / 1000000 / (M : Rat)) * ((M : Rat) * (1000000 * (M : Rat))) := by clear c1 c2 e2; grind
    rw [e1, mul_pow' (_ * _) ((M : Rat) * _), ← e2]
    exact Rat.mul_le_mul_of_nonneg_right c2 (Rat.le_of_lt hNn)

end Mine

namespace Mine
open PySem.Builtin.Int (intBits)
open Ex
theorem tn_turn {x M L n : Int} (h : 0 ≤ n ∧ n ≤ 14) (hM : 1000000 ≤ M) (hL : 3 ≤ L) (hL2 : L ≤ 10) (hx2 : x ≤ 12 * M) (hx : -(12 * M) ≤ 5 * x) (hc : M * 2 ^ n.toNat < (if x < 0 then -x else x) * 2 ^ L.toNat + M) : 0 ≤ n + 1 ∧ n + 1 ≤ 14 := by
  rw [absI] at hc
  have := turns_le (by omega) hL hL2 hx2 hx hc
  omega
theorem tn_less {x M L n : Int} (h : 0 ≤ n ∧ n ≤ 14) (hM : 1000000 ≤ M) (hL : 3 ≤ L) (hL2 : L ≤ 10) (hx2 : x ≤ 12 * M) (hx : -(12 * M) ≤ 5 * x) (hc : M * 2 ^ n.toNat < (if x < 0 then -x else x) * 2 ^ L.toNat + M) : 15 - (n + 1).toNat < 15 - n.toNat := by
  have := tn_turn h hM hL hL2 hx2 hx hc
  omega
theorem tn_done {x M L n : Int} (h : 0 ≤ n ∧ n ≤ 14) (hc : ¬ M * 2 ^ n.toNat < (if x < 0 then -x else x) * 2 ^ L.toNat + M) : ∃ K : Nat, K ≤ 14 ∧ ¬ M * 2 ^ K < (x.natAbs : Int) * 2 ^ L.toNat + M ∧ n = (K : Int) := by
  rw [absI] at hc
  exact ⟨n.toNat, by omega, hc, by omega⟩
theorem w_facts {x M k : Int} (hM : 1000000 ≤ M) (hMb : intBits M ≤ 64) (hx2 : x ≤ 12 * M) (hx : -(12 * M) ≤ 5 * x) (hk : k ≤ 16) :
    intBits (M * 2 ^ k.toNat) ≤ 84 ∧ intBits (32 * (M * 2 ^ k.toNat)) ≤ 90 ∧ intBits (32 * (M * 2 ^ k.toNat) + x) ≤ 91 ∧ 0 < 32 * (M * 2 ^ k.toNat) + x := by
  have hM' : 0 < M := by omega
  have hsb : intBits (M * 2 ^ k.toNat) ≤ 84 := shl_bits (c := 84) hMb (by omega)
  have h32 : intBits (32 * (M * 2 ^ k.toNat)) ≤ 90 := intBits_mul_le (m := 6) (by decide) hsb
  have hxb : intBits x ≤ 68 := bits_abs (b := 12 * M) (k := 68) (by omega) (by omega) (intBits_mul_le (m := 4) (by decide) hMb)
  exact ⟨hsb, h32, bits_mono (intBits_add_le (m := 90) (n := 68) h32 hxb), den_pos hM' hx _⟩
theorem dbN_turn {x M k : Int} {pre : List Int} (h : k = (pre.length : Int)) : dbN x M pre.length + (wN x M k.toNat / 2 + 1) = dbN x M (pre ++ [k]).length := by
  rw [List.length_append, List.length_singleton]
  have : k.toNat = pre.length := by omega
  rw [this]
  rfl
theorem hvN_turn {x M k w : Int} {pre : List Int} (h : k = 1 + (pre.length : Int)) (hw : wN x M k.toNat = w) : hvN x M pre.length + (w * (4 * 10 ^ Int.toNat 6 * M + (2 * 10 ^ Int.toNat 6 + w) * (x.natAbs : Int)) / (8 * 10 ^ Int.toNat 6 * M) + 1) = hvN x M (pre ++ [k]).length := by
  rw [List.length_append, List.length_singleton]
  have : k.toNat = pre.length + 1 := by omega
  rw [this] at hw
  subst hw
  rfl
end Mine
namespace Mine
theorem hvN_start {x M : Int} : 550000 + 3 * 10 ^ Int.toNat 6 * (x.natAbs : Int) / (2 * M) + 1 = hvN x M ([] : List Int).length := rfl
theorem dbN_start {x M : Int} : 700000 + 10 ^ Int.toNat 6 * (x.natAbs : Int) / (16 * M) + 1 = dbN x M ([] : List Int).length := rfl
end Mine

namespace Mine
open PySem.Builtin.Int (intBits)
open Ex

/-- what is known of one logarithm -/
structure Lg1 (M K w X : Int) (E : Rat) : Prop where
  w0 : 0 < w
  xa : (X : Rat) ≤ 399 / 100 * (M : Rat)
  xb : -(2311 / 1000 * (M : Rat)) ≤ (X : Rat)
  ea : 0 ≤ E
  eb : E ≤ 64
  el : EL (((X : Rat) - E) / (M : Rat)) ((w : Rat) / (M : Rat))
  eg : EG (((X : Rat) + E) / (M : Rat)) ((w : Rat) / (M : Rat))
  hv : ∀ t : Nat, t ≤ 14 → ¬ M * 2 ^ t < (X.natAbs : Int) * 2 ^ K.toNat + M → 1000000 * (E + 16 / 1000) ≤ (hvN X M (t + 1) : Rat) ∧ hvN X M (t + 1) ≤ 7000000000 ∧ 0 ≤ hvN X M (t + 1)

theorem law01_2 {M L K w1 w2 X1 X2 v : Int} {E1 E2 : Rat} (hM : 1000000 ≤ M) (hMb : intBits M ≤ 64) (hL : 3 ≤ L) (hL2 : L ≤ 10) (g1 : Lg1 M K w1 X1 E1) (g2 : Lg1 M K w2 X2 E2) (hv : divN (X1 + X2) 2 = v) :
    (v ≤ 12 * M ∧ -(12 * M) ≤ 5 * v ∧ PreE M v L ∧ 0 < iexpF M v L ∧ iexpF M v L ≤ 2 ^ 27 * M) ∧
    ∀ (H1 H2 : Int) (t1 t2 k : Nat), hvN X1 M (t1 + 1) = H1 → hvN X2 M (t2 + 1) = H2 → t1 ≤ 14 → ¬ M * 2 ^ t1 < (X1.natAbs : Int) * 2 ^ K.toNat + M → t2 ≤ 14 → ¬ M * 2 ^ t2 < (X2.natAbs : Int) * 2 ^ K.toNat + M → k ≤ 14 → ¬ M * 2 ^ k < (v.natAbs : Int) * 2 ^ L.toNat + M →
      0 ≤ (H1 + H2) / 2 + 500001 + dbN v M k ∧ (H1 + H2) / 2 + 500001 + dbN v M k ≤ 10000000000 ∧
      (iexpF M v L * (10 ^ 6 * M - ((H1 + H2) / 2 + 500001 + dbN v M k))) ^ 2 ≤ (10 ^ 6 * M) ^ 2 * (w1 * w2) ∧ (10 ^ 6 * M) ^ 2 * (w1 * w2) ≤ (iexpF M v L * (10 ^ 6 * M + ((H1 + H2) / 2 + 500001 + dbN v M k))) ^ 2 := by
  have hM' : 0 < M := by omega
  have hM0 := castpos hM'
  have h1 : EL ((((X1 + X2 : Int) : Rat) - (E1 + E2)) / (M : Rat)) (((w1 * w2 : Int) : Rat) / (M : Rat) ^ 2) := by
    have k := EL.add g1.el g2.el
    have e1 : ((X1 : Rat) - E1) / (M : Rat) + ((X2 : Rat) - E2) / (M : Rat) = (((X1 + X2 : Int) : Rat) - (E1 + E2)) / (M : Rat) := by rw [Rat.intCast_add]; clear k; grind
    have e2 : (w1 : Rat) / (M : Rat) * ((w2 : Rat) / (M : Rat)) = ((w1 * w2 : Int) : Rat) / (M : Rat) ^ 2 := by rw [rat_mul_cast]; clear k; grind
    rw [e1, e2] at k
    exact k
  have h2 : EG ((((X1 + X2 : Int) : Rat) + (E1 + E2)) / (M : Rat)) (((w1 * w2 : Int) : Rat) / (M : Rat) ^ 2) := by
    have k := EG.add g1.eg g2.eg (div_pos (castpos g2.w0) hM0)
    have e1 : ((X1 : Rat) + E1) / (M : Rat) + ((X2 : Rat) + E2) / (M : Rat) = (((X1 + X2 : Int) : Rat) + (E1 + E2)) / (M : Rat) := by rw [Rat.intCast_add]; clear k; grind
    have e2 : (w1 : Rat) / (M : Rat) * ((w2 : Rat) / (M : Rat)) = ((w1 * w2 : Int) : Rat) / (M : Rat) ^ 2 := by rw [rat_mul_cast]; clear k; grind
    rw [e1, e2] at k
    exact k
  have e2q : ((2 : Nat) : Rat) = 2 := rfl
  have a1 := g1.xa
  have a2 := g2.xa
  have b1 := g1.xb
  have b2 := g2.xb
  have s1 : ((X1 + X2 : Int) : Rat) ≤ ((2 : Nat) : Rat) * (399 / 100 * (M : Rat)) := by rw [Rat.intCast_add, e2q]; clear h1 h2; grind
  have s2 : -(((2 : Nat) : Rat) * (2311 / 1000 * (M : Rat))) ≤ ((X1 + X2 : Int) : Rat) := by rw [Rat.intCast_add, e2q]; clear h1 h2; grind
  have f0 : 0 ≤ E1 + E2 := by have := g1.ea; have := g2.ea; clear h1 h2; grind
  have f1 : E1 + E2 ≤ ((2 : Nat) : Rat) * 64 := by rw [e2q]; have := g1.eb; have := g2.eb; clear h1 h2; grind
  have core := fun (HS : Int) => core01 (n := 2) (K := 0) (HS := HS) (W := w1 * w2) (L := L) (v := v) (F := E1 + E2) (S := X1 + X2) hM hMb hL hL2 (by decide) (by decide) s1 s2 hv f0 f1 h1 h2
  constructor
  · have c := core (2 * 7000000000) (by
      rw [e2q]
      have e0 : ((2 * 7000000000 : Int) : Rat) = 14000000000 := by decide +kernel
      rw [e0]
      rw [e2q] at f1
      clear h1 h2 core
      grind) (by decide)
    exact ⟨c.1, c.2.1, c.2.2.1, c.2.2.2.1, c.2.2.2.2.1⟩
  · intro H1 H2 t1 t2 k q1 q2 i1 j1 i2 j2 i3 j3
    obtain ⟨m1, m2, m3⟩ := g1.hv t1 i1 j1
    obtain ⟨n1, n2, n3⟩ := g2.hv t2 i2 j2
    rw [q1] at m1 m2 m3
    rw [q2] at n1 n2 n3
    have c := core (H1 + H2) (by
      rw [e2q, Rat.intCast_add]
      clear h1 h2 core
      grind) (by omega)
    exact c.2.2.2.2.2 k i3 j3

theorem law01_3 {M L K w1 w2 w3 X1 X2 X3 v : Int} {E1 E2 E3 : Rat} (hM : 1000000 ≤ M) (hMb : intBits M ≤ 64) (hL : 3 ≤ L) (hL2 : L ≤ 10) (g1 : Lg1 M K w1 X1 E1) (g2 : Lg1 M K w2 X2 E2) (g3 : Lg1 M K w3 X3 E3) (hv : divN (X1 + X2 + X3) 3 = v) :
    (v ≤ 12 * M ∧ -(12 * M) ≤ 5 * v ∧ PreE M v L ∧ 0 < iexpF M v L ∧ iexpF M v L ≤ 2 ^ 27 * M) ∧
    ∀ (H1 H2 H3 : Int) (t1 t2 t3 k : Nat), hvN X1 M (t1 + 1) = H1 → hvN X2 M (t2 + 1) = H2 → hvN X3 M (t3 + 1) = H3 → t1 ≤ 14 → ¬ M * 2 ^ t1 < (X1.natAbs : Int) * 2 ^ K.toNat + M → t2 ≤ 14 → ¬ M * 2 ^ t2 < (X2.natAbs : Int) * 2 ^ K.toNat + M → t3 ≤ 14 → ¬ M * 2 ^ t3 < (X3.natAbs : Int) * 2 ^ K.toNat + M → k ≤ 14 → ¬ M * 2 ^ k < (v.natAbs : Int) * 2 ^ L.toNat + M →
      0 ≤ (H1 + H2 + H3) / 3 + 500001 + dbN v M k ∧ (H1 + H2 + H3) / 3 + 500001 + dbN v M k ≤ 10000000000 ∧
      (iexpF M v L * (10 ^ 6 * M - ((H1 + H2 + H3) / 3 + 500001 + dbN v M k))) ^ 3 ≤ (10 ^ 6 * M) ^ 3 * (w1 * w2 * w3) ∧ (10 ^ 6 * M) ^ 3 * (w1 * w2 * w3) ≤ (iexpF M v L * (10 ^ 6 * M + ((H1 + H2 + H3) / 3 + 500001 + dbN v M k))) ^ 3 := by
  have hM' : 0 < M := by omega
  have hM0 := castpos hM'
  have cW : ((w1 * w2 * w3 : Int) : Rat) = (w1 : Rat) * (w2 : Rat) * (w3 : Rat) := by rw [rat_mul_cast, rat_mul_cast]
  have cX : ((X1 + X2 + X3 : Int) : Rat) = (X1 : Rat) + (X2 : Rat) + (X3 : Rat) := by rw [Rat.intCast_add, Rat.intCast_add]
  have e2 : (w1 : Rat) / (M : Rat) * ((w2 : Rat) / (M : Rat)) * ((w3 : Rat) / (M : Rat)) = ((w1 * w2 * w3 : Int) : Rat) / (M : Rat) ^ 3 := by rw [cW]; grind
  have h1 : EL ((((X1 + X2 + X3 : Int) : Rat) - (E1 + E2 + E3)) / (M : Rat)) (((w1 * w2 * w3 : Int) : Rat) / (M : Rat) ^ 3) := by
    have k := EL.add (EL.add g1.el g2.el) g3.el
    have e1 : ((X1 : Rat) - E1) / (M : Rat) + ((X2 : Rat) - E2) / (M : Rat) + ((X3 : Rat) - E3) / (M : Rat) = (((X1 + X2 + X3 : Int) : Rat) - (E1 + E2 + E3)) / (M : Rat) := by rw [cX]; clear k; grind
    rw [e1, e2] at k
    exact k
  have h2 : EG ((((X1 + X2 + X3 : Int) : Rat) + (E1 + E2 + E3)) / (M : Rat)) (((w1 * w2 * w3 : Int) : Rat) / (M : Rat) ^ 3) := by
    have k := EG.add (EG.add g1.eg g2.eg (div_pos (castpos g2.w0) hM0)) g3.eg (div_pos (castpos g3.w0) hM0)
    have e1 : ((X1 : Rat) + E1) / (M : Rat) + ((X2 : Rat) + E2) / (M : Rat) + ((X3 : Rat) + E3) / (M : Rat) = (((X1 + X2 + X3 : Int) : Rat) + (E1 + E2 + E3)) / (M : Rat) := by rw [cX]; clear k; grind
    rw [e1, e2] at k
    exact k
  have e2q : ((3 : Nat) : Rat) = 3 := rfl
  have a1 := g1.xa
  have a2 := g2.xa
  have a3 := g3.xa
  have b1 := g1.xb
  have b2 := g2.xb
  have b3 := g3.xb
  have s1 : ((X1 + X2 + X3 : Int) : Rat) ≤ ((3 : Nat) : Rat) * (399 / 100 * (M : Rat)) := by rw [cX, e2q]; clear h1 h2; grind
  have s2 : -(((3 : Nat) : Rat) * (2311 / 1000 * (M : Rat))) ≤ ((X1 + X2 + X3 : Int) : Rat) := by rw [cX, e2q]; clear h1 h2; grind
  have f0 : 0 ≤ E1 + E2 + E3 := by have := g1.ea; have := g2.ea; have := g3.ea; clear h1 h2; grind
  have f1 : E1 + E2 + E3 ≤ ((3 : Nat) : Rat) * 64 := by rw [e2q]; have := g1.eb; have := g2.eb; have := g3.eb; clear h1 h2; grind
  have core := fun (HS : Int) => core01 (n := 3) (K := 0) (HS := HS) (W := w1 * w2 * w3) (L := L) (v := v) (F := E1 + E2 + E3) (S := X1 + X2 + X3) hM hMb hL hL2 (by decide) (by decide) s1 s2 hv f0 f1 h1 h2
  constructor
  · have c := core (3 * 7000000000) (by
      rw [e2q]
      have e0 : ((3 * 7000000000 : Int) : Rat) = 21000000000 := by decide +kernel
      rw [e0]
      rw [e2q] at f1
      clear h1 h2 core
      grind) (by decide)
    exact ⟨c.1, c.2.1, c.2.2.1, c.2.2.2.1, c.2.2.2.2.1⟩
  · intro H1 H2 H3 t1 t2 t3 k q1 q2 q3 i1 j1 i2 j2 i3 j3 i4 j4
    obtain ⟨m1, m2, m3⟩ := g1.hv t1 i1 j1
    obtain ⟨n1, n2, n3⟩ := g2.hv t2 i2 j2
    obtain ⟨o1, o2, o3⟩ := g3.hv t3 i3 j3
    rw [q1] at m1 m2 m3
    rw [q2] at n1 n2 n3
    rw [q3] at o1 o2 o3
    have c := core (H1 + H2 + H3) (by
      rw [e2q, Rat.intCast_add, Rat.intCast_add]
      clear h1 h2 core
      grind) (by omega)
    exact c.2.2.2.2.2 k i4 j4

end Mine

end
set_option maxHeartbeats 8000000
open_top hd01 for PySem.Challenge.rw_dm0269_01

local macro_rules | `(tactic| walk_at "call builtin:divmod") => `(tactic| ((with_reducible show wpAny _ _ (call (Value.builtin _) [Value.int _ _, Value.int _ _]) _ _ _); refine divmod_N (by assumption) (by assumption) (by omega) ?_ (Mine.noPy (by assumption)); intro _ _ _))
local macro_rules | `(tactic| walk_at "pyIter ref") => `(tactic| (k_here; (with_reducible show wpAny _ _ (pyIter (Value.ref _)) _ _ _); refine Mine.Stop.out ?_))
local macro_rules | `(tactic| walk_at "binaryOp FloorDiv int int") => `(tactic| (k_here; (with_reducible show wpAny _ _ (binaryOp Operator.FloorDiv (Value.int _ _) (Value.int _ _)) _ _ _); refine Mine.Stop.out ?_))
local macro_rules | `(tactic| walk_at "call ref") => `(tactic| (k_here; (with_reducible show wpAny _ _ (call (Value.ref _) (Value.int _ _ :: _)) _ _ _); refine Mine.Stop.out ?_))
local macro_rules | `(tactic| walk_at "call type:str") => `(tactic| (k_here; (with_reducible show wpAny _ _ (call (Value.type "str") [Value.int _ _]) _ _ _); refine Mine.Stop.out ?_))
local macro_rules | `(tactic| walk_at "binaryOp LShift int int") => `(tactic| (k_here; (with_reducible refine lshift_int ?kbn ?kbs ?_); (case kbn => omega); (case kbs => first | exact Mine.abs_shl (Mine.Bd.out (by assumption)) (by omega) | exact Mine.shl_ok (Mine.Bd.out (by assumption)) (by omega))))
local macro_rules | `(tactic| walk_at "compareOp NotEq int int") => `(tactic| (with_reducible refine Mine.ne_same ?_))
local macro_rules | `(tactic| walk_at "binaryOp Mod int int") => `(tactic| (k_here; (with_reducible refine Mine.mod_gen ?hmb ?_); (case hmb => first | omega | decide | fail "the divisor"); intro r9 hr9 hs9))
local macro_rules | `(tactic| walk_at "UnrEndW") => `(tactic| (k_dflt ktu_end))
local macro_rules | `(tactic| walk_at "binaryOp Pow int int") => `(tactic| (k_here; (with_reducible refine pow_int_small ?kb1 ?kb2 ?kb3 ?_); (case kb1 => first | decide | omega); (case kb2 => first | decide | omega); (case kb3 => decide)))
namespace Mine
open PySem.Builtin.Int (intBits)
section
local macro_rules | `(tactic| omega) => `(tactic| lia)
variable {w : World} {loose : List Str} {mean : ExcName → Option Value} {mg mb : Str → Option Value} {news : List (Addr × Obj)} {dp un : Nat} {gd : Option (List Code)} {cn : Str} {cs : PySem.Scope} {ca : Addr} {ccd : Value} {cl : List (Str × Addr)} {outer : List Env} {A₀ : Around} {base h₀ : Heap} {L : Addr} {m : Str → Option Value} {s : Shared} {Q E : Value → Shared → Prop}
theorem c_div {a b : Int} {ta tb : Tok} (B : Below A₀ base outer h₀) (F : Fr h₀ L s.heap m) (X : (hd01.heap_39 w.params).In h₀) (N : News h₀ L s.heap news) (T : Top hd01.view_39 loose mean mg mb h₀) (hk : cs.kind = .function)
  (hb : 0 < b) (hb2 : intBits b ≤ 9000) (hd : dp + 2 < recursionLimit) (hu : un + 16 < cLine)
  (hret : ∀ (t : Tok) (h' : Heap) (tk' : Nat), Fr h₀ L h' m → News h₀ L h' news → Q (.int (divN a b) t) { s with heap := h', toks := tk' }) :
  wpAny (model PySem.Challenge.rw_dm0269_01.row.prog w) (ktrTop dp un gd cn cs L ca ccd cl outer) (call (.ref 35) [.int a ta, .int b tb]) Q E s := by
  revert X; k_fill; intro X
  refine wpAny_call ?_
  k_dflt cell_enter
  k_steps
  refine cb_retI (Q := Q) hret ?e1 ?e2 ?e3
  case e2 => k_asm
  case e3 => first | k_asm | (refine' cb_drop ?cbN ?cbS; (case cbN => assumption); (case cbS => kcj_all))
  case e1 => exact divN_of hb
theorem c_rsh {a n : Int} {ta tb : Tok} (B : Below A₀ base outer h₀) (F : Fr h₀ L s.heap m) (X : (hd01.heap_39 w.params).In h₀) (N : News h₀ L s.heap news) (T : Top hd01.view_39 loose mean mg mb h₀) (hk : cs.kind = .function)
  (hn : 0 ≤ n) (hn2 : n ≤ 1000) (hd : dp + 2 < recursionLimit) (hu : un + 16 < cLine)
  (hret : ∀ (t : Tok) (h' : Heap) (tk' : Nat), Fr h₀ L h' m → News h₀ L h' news → Q (.int (divN a (2 ^ n.toNat)) t) { s with heap := h', toks := tk' }) :
  wpAny (model PySem.Challenge.rw_dm0269_01.row.prog w) (ktrTop dp un gd cn cs L ca ccd cl outer) (call (.ref 28) [.int a ta, .int n tb]) Q E s := by
  revert X; k_fill; intro X
  refine wpAny_call ?_
  k_dflt cell_enter
  k_steps
  refine cb_retI (Q := Q) hret ?e1 ?e2 ?e3
  case e2 => k_asm
  case e3 => first | k_asm | (refine' cb_drop ?cbN ?cbS; (case cbN => assumption); (case cbS => kcj_all))
  case e1 => exact rshN_of n
theorem c_sqrt {n a : Int} {ta tb : Tok} (B : Below A₀ base outer h₀) (F : Fr h₀ L s.heap m) (X : (hd01.heap_39 w.params).In h₀) (N : News h₀ L s.heap news) (T : Top hd01.view_39 loose mean mg mb h₀) (hk : cs.kind = .function)
  (hn : 0 < n) (ha : 0 < a) (hn2 : intBits n ≤ 9000) (ha2 : intBits a ≤ 9000) (hd : dp + 2 < recursionLimit) (hu : un + 16 < cLine)
  (hret : ∀ (r : Int) (t : Tok) (h' : Heap) (tk' : Nat), IsRoot n r → Fr h₀ L h' m → News h₀ L h' news → Q (.int r t) { s with heap := h', toks := tk' }) :
  wpAny (model PySem.Challenge.rw_dm0269_01.row.prog w) (ktrTop dp un gd cn cs L ca ccd cl outer) (call (.ref 21) [.int n ta, .int a tb]) Q E s := by
  revert X; k_fill; intro X
  k_with "exec While Compare cons nil" => k_while (fun _ x y => SqInv n a x y) (fun _ x y => sqMeas n a x y) "a" "b"
  k_with "state" => first | exact sqInv_start ha | ((rename SqInv _ _ _ _ => hI); (rw [sqStep_of hI.1]); exact sqInv_turn hn hI)
  k_with "measure" => ((rename SqInv _ _ _ _ => hI); (rw [sqStep_of hI.1]); refine sqInv_less hn hI ?_; omega)
  refine wpAny_call ?_
  k_dflt cell_enter
  k_steps
  · rename SqInv _ _ _ _ => hI
    refine Stop.mk ?_
    refine floordiv_int (by have := hI.1; omega) ?_ (noPy (bits_le_max ha2 hn2 hI.1 hI.2.1))
    k_steps
  · rename SqInv _ _ _ _ => hI
    refine hret _ _ _ _ (sqInv_done hn hI ?e1) ?e2 ?e3
    case e1 => simp only [decide_eq_true_eq, decide_eq_false_iff_not, ne_eq, Decidable.not_not, Bool.not_eq_true] at *; omega
    case e2 => k_asm
    case e3 => first | k_asm | (refine' cb_drop ?cbN ?cbS; (case cbN => assumption); (case cbS => kcj_all))
/-- a truth by a word of it, the frame and the ledger as they were -/
structure IsLetterB (P : Bool → Prop) (h₀ : Heap) (L : Addr) (m : Str → Option Value) (news : List (Addr × Obj)) (s : Shared) (v : Bool) (s' : Shared) : Prop where
  out : ∃ (k : Nat) (h : Heap), P v ∧ s' = { s with heap := h, toks := k } ∧ Fr h₀ L h m ∧ News h₀ L h news
theorem eval_letterB {M : Model} {A : Around} {t : Sem Bool} {P : Bool → Prop} {Q : Bool → Shared → Prop} {E : Value → Shared → Prop} {s : Shared} {h₀ : Heap} {L : Addr} {m : Str → Option Value} {news : List (Addr × Obj)}
    (_ : Fr h₀ L s.heap m) (_ : News h₀ L s.heap news) (h : wpAny M A t (IsLetterB P h₀ L m news s) E s)
    (k : ∀ (a : Bool) (k : Nat) (h : Heap), P a → Fr h₀ L h m → News h₀ L h news → Q a { s with heap := h, toks := k }) : wpAny M A t Q E s :=
  wpAny_mono h (fun v s' ⟨n, h, hP, hs, hF, hN⟩ => by rw [hs]; exact k v n h hP hF hN) (fun _ _ e => e)
local macro_rules | `(tactic| walk_at "isTrue BoolOp") => `(tactic| (k_here; (with_reducible show wpAny _ _ (isTrue (Expr.BoolOp PySem.BoolOp.Or (_ :: _ :: _) _) _ _) _ _ _); refine Mine.Stop.out ?_))
theorem c_ilog {x M LL : Int} {ta tb tc : Tok} (R₁ : Nat) (B : Below A₀ base outer h₀) (F : Fr h₀ L s.heap m) (X : (hd01.heap_39 w.params).In h₀) (N : News h₀ L s.heap news) (T : Top hd01.view_39 loose mean mg mb h₀) (hk : cs.kind = .function)
  (hM : 0 < M) (hM2 : intBits M ≤ 1000) (hL : 0 < LL) (hL2 : LL ≤ 100) (hR₁ : R₁ ≤ 1000)
  (hgo : ∀ R < R₁, Halves M LL (yH M x R) R ∧ 0 < M + divN (yH M x R) (2 ^ R)) (hend : ¬ Halves M LL (yH M x R₁) R₁)
  (hy : ∀ R ≤ R₁, intBits (yH M x R) ≤ 3000) (hw : ∀ j : Nat, (j : Int) < tOf M LL → intBits (wS M (divN (yH M x R₁) (2 ^ R₁)) (tOf M LL) j) ≤ 3000)
  (hd : dp + 4 < recursionLimit) (hu : un + 40 < cLine)
  (hret : ∀ (t : Tok) (h' : Heap) (tk' : Nat), Fr h₀ L h' m → News h₀ L h' news → Q (.int (ilogF M x LL R₁) t) { s with heap := h', toks := tk' }) :
  wpAny (model PySem.Challenge.rw_dm0269_01.row.prog w) (ktrTop dp un gd cn cs L ca ccd cl outer) (call (.ref 43) [.int x ta, .int M tb, .int LL tc]) Q E s := by
  revert X; k_fill; intro X
  k_with "exec While BoolOp cons nil" => (k_while (fun _ y R => ∃ j : Nat, R = (j : Int) ∧ j ≤ R₁ ∧ y = yH M x j) (fun _ y R => R₁ - R.toNat) "y" "R"; (obtain ⟨j, rfl, hj, rfl⟩ := kInv); have hyb := Bd.mk (hy j hj))
  k_with "state" => first | exact rfl | exact wS_turn (by assumption) | exact ⟨0, rfl, Nat.zero_le _, rfl⟩ | exact yH_turn (by assumption) (by assumption)
  refine wpAny_call ?_
  k_dflt (refine' code_def ?k1 ?k2 ?k3 ?k4 ?k5 ?kA ?kF ?kK ?k6 ?k7 ?k8 ?k9 ?kB ?_ ?c2 ?c3 ?c4 ?c5; (case kA => exact rfl); (case kF => exact rfl); (case kK => assumption); (case k1 => k_asm); (case k2 => k_asm); (case k3 => k_asm); (case k4 => k_asm); (case k5 => k_asm); (case k6 => k_is); (case k7 => k_is); (case k8 => ktr_room); (case k9 => exact binds_K (by k_in) rfl (by k_is) rfl rfl rfl); (case c5 => decide); (case kB => exact locs rfl); (case c2 => exact rfl); (case c3 => exact rfl); (case c4 => exact rfl); k_whole; intro g' L' h' FG' F' N' B' X' T'; (try dsimp only); (try k_lift B'); (try k_fold))
  k_steps
  refine Stop.mk ?_
  refine eval_letterB (P := fun b => b = true ↔ Halves M LL (yH M x j) j) (by k_asm) (by k_asm) ?hl ?hk
  case hl =>
    with_reducible refine isTrue_or ?_
    (try dsimp only)
    k_steps
    · refine ⟨_, _, iff_of_true rfl ((Halves_up (by assumption)).mpr (by assumption)), rfl, ?_, ?_⟩ <;> first | k_asm | (refine' cb_drop ?cbN ?cbS; (case cbN => assumption); (case cbS => kcj_all))
    · refine ⟨_, _, iff_of_false Bool.false_ne_true (fun h => absurd ((Halves_up (by assumption)).mp h) (by assumption)), rfl, ?_, ?_⟩ <;> first | k_asm | (refine' cb_drop ?cbN ?cbS; (case cbN => assumption); (case cbS => kcj_all))
    · refine ⟨_, _, iff_of_true rfl ((Halves_down (by omega) (by omega)).mpr (by assumption)), rfl, ?_, ?_⟩ <;> first | k_asm | (refine' cb_drop ?cbN ?cbS; (case cbN => assumption); (case cbS => kcj_all))
    · refine ⟨_, _, iff_of_false Bool.false_ne_true (fun h => absurd ((Halves_down (by omega) (by omega)).mp h) (by assumption)), rfl, ?_, ?_⟩ <;> first | k_asm | (refine' cb_drop ?cbN ?cbS; (case cbN => assumption); (case cbS => kcj_all))
  case hk =>
  intro b9 tk9 h9 hb9 F9 N9
  (try dsimp only)
  rcases b9 with _ | _
  · have hge : j = R₁ := by
      rcases Nat.lt_or_ge j R₁ with h | h
      · exact absurd (hb9.mpr (hgo j h).1) Bool.false_ne_true
      · omega
    clear hb9
    k_steps
    subst hge
    refine Stop.mk ?_
    refine P.str_of_int (log_of_bits hM2) ?_
    k_steps
    refine len_digs hM2 ?_
    have hTp := tOf_pos (Int.le_of_lt hM) hL
    have hTl := tOf_le (by decide) hM2 hL
    have hTp' : 0 < -((-10 * digs M) / (3 * LL)) := hTp
    have hTl' : -((-10 * digs M) / (3 * LL)) ≤ 10 * (1000 + 1) := hTl
    have hysb : intBits (divN (yH M x j) (2 ^ (j : Int).toNat)) ≤ 3001 := divN_bits (two_pow_pos _) hyb.out
    k_steps
    refine Stop.mk ?_
    refine floordiv_pos (by omega) (bits_small (b := 1000) (by omega) (by omega)) ?_
    k_steps
    refine Stop.mk ?_
    (with_unfolding_all refine' c_rsh ?k1_1 ?k2_1 ?k3_1 ?k4_1 ?k5_1 ?kK_1 ?kp_1 ?kq_1 ?kd_1 ?ku_1 ?kR_1); (case k1_1 => k_asm); (case k2_1 => k_asm); (case k3_1 => k_asm); (case k4_1 => k_asm); (case k5_1 => k_asm); (case kK_1 => first | exact rfl | assumption); (case kp_1 => omega); (case kq_1 => omega); (case kd_1 => ktr_room); (case ku_1 => ktr_units); (intro t9 h9 tk9 F9 N9); (try dsimp only); (try k_fold)
    k_steps
    refine Stop.mk ?_
    (with_unfolding_all refine' c_div ?k1_2 ?k2_2 ?k3_2 ?k4_2 ?k5_2 ?kK_2 ?kp_2 ?kq_2 ?kd_2 ?ku_2 ?kR_2); (case k1_2 => k_asm); (case k2_2 => k_asm); (case k3_2 => k_asm); (case k4_2 => k_asm); (case k5_2 => k_asm); (case kK_2 => first | exact rfl | assumption); (case kp_2 => exact hTp); (case kq_2 => exact bits_small hTp hTl); (case kd_2 => ktr_room); (case ku_2 => ktr_units); (intro t9 h9 tk9 F9 N9); (try dsimp only); (try k_fold)
    k_steps
    refine Stop.mk ?_
    k_state (fun pre w => w = wS M (divN (yH M x j) (2 ^ j)) (tOf M LL) pre.length) "w"
    all_goals subst kInv
    · k_steps
      refine Stop.mk ?_
      (with_unfolding_all refine' c_div ?k1_3 ?k2_3 ?k3_3 ?k4_3 ?k5_3 ?kK_3 ?kp_3 ?kq_3 ?kd_3 ?ku_3 ?kR_3); (case k1_3 => k_asm); (case k2_3 => k_asm); (case k3_3 => k_asm); (case k4_3 => k_asm); (case k5_3 => k_asm); (case kK_3 => first | exact rfl | assumption); (case kp_3 => omega); (case kq_3 => exact bits_small (b := 100000) (by omega) (by omega)); (case kd_3 => ktr_room); (case ku_3 => ktr_units); (intro t9 h9 tk9 F9 N9); (try dsimp only); (try k_fold)
      k_steps
      refine mul_int ?_ (mul_ok hysb (hw _ (by show _ < -((-10 * digs M) / (3 * LL)); omega)))
      k_steps
      refine Stop.mk ?_
      (with_unfolding_all refine' c_div ?k1_4 ?k2_4 ?k3_4 ?k4_4 ?k5_4 ?kK_4 ?kp_4 ?kq_4 ?kd_4 ?ku_4 ?kR_4); (case k1_4 => k_asm); (case k2_4 => k_asm); (case k3_4 => k_asm); (case k4_4 => k_asm); (case k5_4 => k_asm); (case kK_4 => first | exact rfl | assumption); (case kp_4 => exact hM); (case kq_4 => exact bits_mono hM2); (case kd_4 => ktr_room); (case ku_4 => ktr_units); (intro t9 h9 tk9 F9 N9); (try dsimp only); (try k_fold)
      k_steps
    · k_steps
      refine mul_int ?_ (mul_ok (hw _ (by rw [downKs_length]; show _ < -((-10 * digs M) / (3 * LL)); omega)) hyb.out)
      k_steps
      refine Stop.mk ?_
      (with_unfolding_all refine' c_div ?k1_5 ?k2_5 ?k3_5 ?k4_5 ?k5_5 ?kK_5 ?kp_5 ?kq_5 ?kd_5 ?ku_5 ?kR_5); (case k1_5 => k_asm); (case k2_5 => k_asm); (case k3_5 => k_asm); (case k4_5 => k_asm); (case k5_5 => k_asm); (case kK_5 => first | exact rfl | assumption); (case kp_5 => exact hM); (case kq_5 => exact bits_mono hM2); (case kd_5 => ktr_room); (case ku_5 => ktr_units); (intro t9 h9 tk9 F9 N9); (try dsimp only); (try k_fold)
      k_steps
      refine cb_retI (Q := Q) hret ?e1 ?e2 ?e3
      case e2 => k_asm
      case e3 => first | k_asm | (refine' cb_drop ?cbN ?cbS; (case cbN => assumption); (case cbS => kcj_all))
      case e1 => exact ilogF_of (by rw [downKs_length]; show _ = (-((-10 * digs M) / (3 * LL)) - 1).toNat; omega)
  · have hlt : j < R₁ := by
      rcases Nat.lt_or_ge j R₁ with h | h
      · exact h
      · have e : j = R₁ := by omega
        subst e
        exact absurd (hb9.mp rfl) hend
    clear hb9
    k_steps
    have hMy : Bd 4000 (M * yH M x j) := ⟨intBits_mul_le hM2 hyb.out⟩
    have hpos := (hgo j hlt).2
    have hrb : intBits (divN (yH M x j) (2 ^ (j : Int).toNat)) ≤ 3001 := divN_bits (two_pow_pos _) hyb.out
    have hsb : intBits (M + divN (yH M x j) (2 ^ (j : Int).toNat)) ≤ 3002 := bits_mono (intBits_add_le hM2 hrb)
    refine mul_int ?_ (mul_ok hM2 hyb.out)
    k_steps
    refine Stop.mk ?_
    (with_unfolding_all refine' c_rsh ?k1_6 ?k2_6 ?k3_6 ?k4_6 ?k5_6 ?kK_6 ?kp_6 ?kq_6 ?kd_6 ?ku_6 ?kR_6); (case k1_6 => k_asm); (case k2_6 => k_asm); (case k3_6 => k_asm); (case k4_6 => k_asm); (case k5_6 => k_asm); (case kK_6 => first | exact rfl | assumption); (case kp_6 => omega); (case kq_6 => omega); (case kd_6 => ktr_room); (case ku_6 => ktr_units); (intro t9 h9 tk9 F9 N9); (try dsimp only); (try k_fold)
    k_steps
    refine mul_int ?_ (mul_ok hM2 hsb)
    k_steps
    refine Stop.mk ?_
    (with_unfolding_all refine' c_sqrt ?k1_7 ?k2_7 ?k3_7 ?k4_7 ?k5_7 ?kK_7 ?kp_7 ?kq_7 ?kr_7 ?ks_7 ?kd_7 ?ku_7 ?kR_7); (case k1_7 => k_asm); (case k2_7 => k_asm); (case k3_7 => k_asm); (case k4_7 => k_asm); (case k5_7 => k_asm); (case kK_7 => first | exact rfl | assumption); (case kp_7 => exact Int.mul_pos hM hpos); (case kq_7 => exact hM); (case kr_7 => exact bits_mono (intBits_mul_le hM2 hsb)); (case ks_7 => exact bits_mono hM2); (case kd_7 => ktr_room); (case ku_7 => ktr_units); (intro r9 t9 h9 tk9 hr9 F9 N9); (try dsimp only); (try k_fold)
    k_steps
    refine Stop.mk ?_
    (with_unfolding_all refine' c_div ?k1_8 ?k2_8 ?k3_8 ?k4_8 ?k5_8 ?kK_8 ?kp_8 ?kq_8 ?kd_8 ?ku_8 ?kR_8); (case k1_8 => k_asm); (case k2_8 => k_asm); (case k3_8 => k_asm); (case k4_8 => k_asm); (case k5_8 => k_asm); (case kK_8 => first | exact rfl | assumption); (case kp_8 => have := hr9.1; omega); (case kq_8 => exact root_bits hM hM2 hpos hsb hr9); (case kd_8 => ktr_room); (case ku_8 => ktr_units); (intro t9 h9 tk9 F9 N9); (try dsimp only); (try k_fold)
    k_steps
theorem c_ilogV {x M LL v : Int} {ta tb tc : Tok} (R₁ : Nat) (B : Below A₀ base outer h₀) (F : Fr h₀ L s.heap m) (X : (hd01.heap_39 w.params).In h₀) (N : News h₀ L s.heap news) (T : Top hd01.view_39 loose mean mg mb h₀) (hk : cs.kind = .function)
  (hM : 0 < M) (hM2 : intBits M ≤ 1000) (hL : 0 < LL) (hL2 : LL ≤ 100) (hR₁ : R₁ ≤ 1000)
  (hgo : ∀ R < R₁, Halves M LL (yH M x R) R ∧ 0 < M + divN (yH M x R) (2 ^ R)) (hend : ¬ Halves M LL (yH M x R₁) R₁)
  (hy : ∀ R ≤ R₁, intBits (yH M x R) ≤ 3000) (hw : ∀ j : Nat, (j : Int) < tOf M LL → intBits (wS M (divN (yH M x R₁) (2 ^ R₁)) (tOf M LL) j) ≤ 3000)
  (hv : ilogF M x LL R₁ = v) (hd : dp + 4 < recursionLimit) (hu : un + 40 < cLine)
  (hret : ∀ (t : Tok) (h' : Heap) (tk' : Nat), Fr h₀ L h' m → News h₀ L h' news → Q (.int v t) { s with heap := h', toks := tk' }) :
  wpAny (model PySem.Challenge.rw_dm0269_01.row.prog w) (ktrTop dp un gd cn cs L ca ccd cl outer) (call (.ref 43) [.int x ta, .int M tb, .int LL tc]) Q E s := by
  subst hv
  exact c_ilog R₁ B F X N T hk hM hM2 hL hL2 hR₁ hgo hend hy hw hd hu hret

theorem c_iexp {x M LL : Int} {ta tb tc : Tok} (B : Below A₀ base outer h₀) (F : Fr h₀ L s.heap m) (X : (hd01.heap_39 w.params).In h₀) (N : News h₀ L s.heap news) (T : Top hd01.view_39 loose mean mg mb h₀) (hk : cs.kind = .function)
  (hM : 0 < M) (hM2 : intBits M ≤ 1000) (hL : 0 < LL) (hL2 : LL ≤ 100) (hx : intBits x ≤ 2000) (hR : rOf M x LL ≤ 1000)
  (he : ∀ j : Nat, (j : Int) < tOf M LL → intBits (eS x (M * 2 ^ rOf M x LL) (tOf M LL) j) ≤ 3000)
  (hdd : ∀ j : Nat, j ≤ rOf M x LL → intBits (dS M (rOf M x LL) (iexpY M x LL) j) ≤ 3000)
  (hd : dp + 4 < recursionLimit) (hu : un + 40 < cLine)
  (hret : ∀ (t : Tok) (h' : Heap) (tk' : Nat), Fr h₀ L h' m → News h₀ L h' news → Q (.int (iexpF M x LL) t) { s with heap := h', toks := tk' }) :
  wpAny (model PySem.Challenge.rw_dm0269_01.row.prog w) (ktrTop dp un gd cn cs L ca ccd cl outer) (call (.ref 51) [.int x ta, .int M tb, .int LL tc]) Q E s := by
  revert X; k_fill; intro X
  have hxb := Bd.mk hx
  have hMb := Bd.mk hM2
  k_with "state" => first | exact rfl | exact eS_turn (by assumption) | exact dS_turn (by assumption) (by show _ < intBits ((_ * _) / _); omega)
  refine wpAny_call ?_
  k_dflt (refine' code_def ?k1 ?k2 ?k3 ?k4 ?k5 ?kA ?kF ?kK ?k6 ?k7 ?k8 ?k9 ?kB ?_ ?c2 ?c3 ?c4 ?c5; (case kA => exact rfl); (case kF => exact rfl); (case kK => assumption); (case k1 => k_asm); (case k2 => k_asm); (case k3 => k_asm); (case k4 => k_asm); (case k5 => k_asm); (case k6 => k_is); (case k7 => k_is); (case k8 => ktr_room); (case k9 => exact binds_K (by k_in) rfl (by k_is) rfl rfl rfl); (case c5 => decide); (case kB => exact locs rfl); (case c2 => exact rfl); (case c3 => exact rfl); (case c4 => exact rfl); k_whole; intro g' L' h' FG' F' N' B' X' T'; (try dsimp only); (try k_lift B'); (try k_fold))
  k_steps
  refine Stop.mk ?_
  refine floordiv_pos hM (bits_mono hM2) ?_
  k_steps
  refine Stop.mk ?_
  refine P.str_of_int (log_of_bits hM2) ?_
  k_steps
  refine len_digs hM2 ?_
  have hTp := tOf_pos (Int.le_of_lt hM) hL
  have hTl := tOf_le (by decide) hM2 hL
  have hTp' : 0 < -((-10 * digs M) / (3 * LL)) := hTp
  have hTl' : -((-10 * digs M) / (3 * LL)) ≤ 10 * (1000 + 1) := hTl
  have hR' : intBits ((x * 2 ^ LL.toNat) / M) ≤ 1000 := hR
  k_steps
  refine Stop.mk ?_
  refine floordiv_pos (by omega) (bits_small (b := 1000) (by omega) (by omega)) ?_
  k_steps
  refine Stop.mk ?_
  (with_unfolding_all refine' c_div ?k1_1 ?k2_1 ?k3_1 ?k4_1 ?k5_1 ?kK_1 ?kp_1 ?kq_1 ?kd_1 ?ku_1 ?kR_1); (case k1_1 => k_asm); (case k2_1 => k_asm); (case k3_1 => k_asm); (case k4_1 => k_asm); (case k5_1 => k_asm); (case kK_1 => first | exact rfl | assumption); (case kp_1 => exact hTp); (case kq_1 => exact bits_small hTp hTl); (case kd_1 => ktr_room); (case ku_1 => ktr_units); (intro t9 h9 tk9 F9 N9); (try dsimp only); (try k_fold)
  k_steps
  refine Stop.mk ?_
  have hMsp : 0 < M * 2 ^ rOf M x LL := shl_pos hM _
  have hMsb : intBits (M * 2 ^ rOf M x LL) ≤ 2001 := shl_bits hM2 (by omega)
  k_state (fun pre y => y = eS x (M * 2 ^ rOf M x LL) (tOf M LL) pre.length) "y"
  · subst kInv
    have heb := he kPre.length (by show _ < -((-10 * digs M) / (3 * LL)); omega)
    have hsb : intBits (M * 2 ^ rOf M x LL + eS x (M * 2 ^ rOf M x LL) (tOf M LL) kPre.length) ≤ 3001 := bits_mono (intBits_add_le hMsb heb)
    k_steps
    refine mul_int ?_ (mul_ok hx hsb)
    k_steps
    refine Stop.mk ?_
    (with_unfolding_all refine' c_div ?k1_2 ?k2_2 ?k3_2 ?k4_2 ?k5_2 ?kK_2 ?kp_2 ?kq_2 ?kd_2 ?ku_2 ?kR_2); (case k1_2 => k_asm); (case k2_2 => k_asm); (case k3_2 => k_asm); (case k4_2 => k_asm); (case k5_2 => k_asm); (case kK_2 => first | exact rfl | assumption); (case kp_2 => exact Int.mul_pos hMsp (by omega)); (case kq_2 => exact bits_mono (intBits_mul_le hMsb (PySem.intBits_le_64 (by omega) (by omega)))); (case kd_2 => ktr_room); (case ku_2 => ktr_units); (intro t9 h9 tk9 F9 N9); (try dsimp only); (try k_fold)
    k_steps
  · have kI2 : _ = iexpY M x LL := kInv.trans (iexpY_of (by rw [downKs_length]; show _ = (-((-10 * digs M) / (3 * LL)) - 1).toNat; omega))
    clear kInv
    subst kI2
    k_steps
    refine Stop.mk ?_
    k_state (fun pre y => y = dS M (rOf M x LL) (iexpY M x LL) pre.length) "y"
    · subst kInv
      have hdb := hdd kPre.length (by show _ ≤ intBits ((x * 2 ^ LL.toNat) / M); omega)
      have hMkb : intBits (M * 2 ^ (kN + 2).toNat) ≤ 2010 := shl_bits hM2 (by omega)
      have hyM : intBits (dS M (rOf M x LL) (iexpY M x LL) kPre.length + M * 2 ^ (kN + 2).toNat) ≤ 3001 := bits_mono (intBits_add_le hdb hMkb)
      k_steps
      refine mul_int ?_ (mul_ok hdb hyM)
      k_steps
      refine Stop.mk ?_
      (with_unfolding_all refine' c_div ?k1_3 ?k2_3 ?k3_3 ?k4_3 ?k5_3 ?kK_3 ?kp_3 ?kq_3 ?kd_3 ?ku_3 ?kR_3); (case k1_3 => k_asm); (case k2_3 => k_asm); (case k3_3 => k_asm); (case k4_3 => k_asm); (case k5_3 => k_asm); (case kK_3 => first | exact rfl | assumption); (case kp_3 => exact shl_pos hM _); (case kq_3 => exact bits_mono hMkb); (case kd_3 => ktr_room); (case ku_3 => ktr_units); (intro t9 h9 tk9 F9 N9); (try dsimp only); (try k_fold)
      k_steps
    · subst kInv
      k_steps
      refine cb_retI (Q := Q) hret ?e1 ?e2 ?e3
      case e2 => k_asm
      case e3 => first | k_asm | (refine' cb_drop ?cbN ?cbS; (case cbN => assumption); (case cbS => kcj_all))
      case e1 => exact iexpF_of (by rw [downKs_length]; show _ = intBits ((x * 2 ^ LL.toNat) / M); omega)
theorem c_iexpV {x M LL v : Int} {ta tb tc : Tok} (B : Below A₀ base outer h₀) (F : Fr h₀ L s.heap m) (X : (hd01.heap_39 w.params).In h₀) (N : News h₀ L s.heap news) (T : Top hd01.view_39 loose mean mg mb h₀) (hk : cs.kind = .function)
  (hM : 0 < M) (hM2 : intBits M ≤ 1000) (hL : 0 < LL) (hL2 : LL ≤ 100) (hx : intBits x ≤ 2000) (hR : rOf M x LL ≤ 1000)
  (he : ∀ j : Nat, (j : Int) < tOf M LL → intBits (eS x (M * 2 ^ rOf M x LL) (tOf M LL) j) ≤ 3000)
  (hdd : ∀ j : Nat, j ≤ rOf M x LL → intBits (dS M (rOf M x LL) (iexpY M x LL) j) ≤ 3000)
  (hv : iexpF M x LL = v) (hd : dp + 4 < recursionLimit) (hu : un + 40 < cLine)
  (hret : ∀ (t : Tok) (h' : Heap) (tk' : Nat), Fr h₀ L h' m → News h₀ L h' news → Q (.int v t) { s with heap := h', toks := tk' }) :
  wpAny (model PySem.Challenge.rw_dm0269_01.row.prog w) (ktrTop dp un gd cn cs L ca ccd cl outer) (call (.ref 51) [.int x ta, .int M tb, .int LL tc]) Q E s := by
  subst hv
  exact c_iexp B F X N T hk hM hM2 hL hL2 hx hR he hdd hd hu hret

theorem gen_toks {P : Nat → Prop} (n : Nat) (h : ∀ k, P k) : P n := h n
theorem mul_turn {prog : Program} {w : World} {A : Around} {E Q : Value → Shared → Prop} {s : Shared} {a b b' : Int} {t u : Tok} (e : b = b') (h : wpAny (model prog w) A (binaryOp .Mult (.int a t) (.int b' u)) Q E s) : wpAny (model prog w) A (binaryOp .Mult (.int a t) (.int b u)) Q E s := by rw [e]; exact h
local macro_rules | `(tactic| walk_at "binaryOp Pow int int") => `(tactic| (k_here; first | ((with_reducible refine pow_int_small ?kb1 ?kb2 ?kb3 ?_); (case kb1 => first | decide | omega); (case kb2 => first | decide | omega); (case kb3 => decide)) | ((with_reducible show wpAny _ _ (binaryOp Operator.Pow (Value.int _ _) (Value.int _ _)) _ _ _); refine Mine.Stop.out ?_)))
local macro_rules | `(tactic| walk_at "storeName") => `(tactic| (k_here; (with_reducible show wpAny _ _ (storeName _ (PySem.Str.ofString "total") (Value.int (Mine.hvN _ _ _ + _) _)) _ _ _); refine Mine.Stop.out ?_))
local macro_rules | `(tactic| walk_at "storeName") => `(tactic| (k_here; (with_reducible show wpAny _ _ (storeName _ (PySem.Str.ofString "w") (Value.int _ _)) _ _ _); refine Mine.Stop.out ?_))
local macro_rules | `(tactic| walk_at "binaryOp Mult int int") => `(tactic| (k_here; (with_reducible show wpAny _ _ (binaryOp Operator.Mult (Value.int _ _) (Value.int _ _)) _ _ _); refine Mine.Stop.out ?_))
local macro_rules | `(tactic| walk_at "execs cons") => `(tactic| (k_here; (with_reducible refine Mine.gen_toks (P := fun k => wpAny _ _ (execs (_ :: _) _) _ _ { heap := _, gens := _, drawn := _, toks := k, os := _ }) _ ?_); intro tk; (with_reducible refine wpAny_execs_cons ?_); try dsimp only))
local macro_rules | `(tactic| walk_at "execs nil") => `(tactic| (k_here; (with_reducible refine Mine.gen_toks (P := fun k => wpAny _ _ (execs [] _) _ _ { heap := _, gens := _, drawn := _, toks := k, os := _ }) _ ?_); intro tk; (with_reducible refine wpAny_execs_nil ?_); try dsimp only))
theorem c_turns {x M LL : Int} {ta tb tc : Tok} (B : Below A₀ base outer h₀) (F : Fr h₀ L s.heap m) (X : (hd01.heap_39 w.params).In h₀) (N : News h₀ L s.heap news) (T : Top hd01.view_39 loose mean mg mb h₀) (hk : cs.kind = .function)
  (hM : 1000000 ≤ M) (hMb : intBits M ≤ 64) (hL : 3 ≤ LL) (hL2 : LL ≤ 10) (hx2 : x ≤ 12 * M) (hx : -(12 * M) ≤ 5 * x) (hd : dp + 4 < recursionLimit) (hu : un + 40 < cLine)
  (hret : ∀ (K : Nat) (t : Tok) (h' : Heap) (tk' : Nat), K ≤ 14 → ¬ M * 2 ^ K < (x.natAbs : Int) * 2 ^ LL.toNat + M → Fr h₀ L h' m → News h₀ L h' news → Q (.int (K : Int) t) { s with heap := h', toks := tk' }) :
  wpAny (model PySem.Challenge.rw_dm0269_01.row.prog w) (ktrTop dp un gd cn cs L ca ccd cl outer) (call (.ref 58) [.int x ta, .int M tb, .int LL tc]) Q E s := by
  revert X; k_fill; intro X
  have hxB : Bd 204 x := ⟨xb05 hM (bits_mono hMb) hx2 hx⟩
  have hMB : Bd 64 M := ⟨hMb⟩
  k_with "exec While Compare cons nil" => k_while (fun _ turns => 0 ≤ turns ∧ turns ≤ 14) (fun _ turns => 15 - turns.toNat) "turns"
  k_with "state" => first | exact ⟨by decide, by decide⟩ | exact tn_turn ⟨by assumption, by assumption⟩ hM hL hL2 hx2 hx (by assumption)
  k_with "measure" => exact tn_less ⟨by assumption, by assumption⟩ hM hL hL2 hx2 hx (by assumption)
  refine wpAny_call ?_
  k_dflt cell_enter
  k_steps
  rename ¬ M * 2 ^ _ < _ => hnc
  obtain ⟨K, g1, g2, rfl⟩ := tn_done ⟨by assumption, by assumption⟩ hnc
  refine cb_retI (Q := Q) (fun t h' tk' F9 N9 => hret K t h' tk' g1 g2 F9 N9) ?e1 ?e2 ?e3
  case e2 => k_asm
  case e3 => first | k_asm | (refine' cb_drop ?cbN ?cbS; (case cbN => assumption); (case cbS => kcj_all))
  case e1 => exact rfl
theorem c_weight {x M k : Int} {ta tb tc : Tok} (B : Below A₀ base outer h₀) (F : Fr h₀ L s.heap m) (X : (hd01.heap_39 w.params).In h₀) (N : News h₀ L s.heap news) (T : Top hd01.view_39 loose mean mg mb h₀) (hk : cs.kind = .function)
  (hM : 1000000 ≤ M) (hMb : intBits M ≤ 64) (hk0 : 0 ≤ k) (hk16 : k ≤ 16) (hx2 : x ≤ 12 * M) (hx : -(12 * M) ≤ 5 * x) (hd : dp + 4 < recursionLimit) (hu : un + 40 < cLine)
  (hret : ∀ (t : Tok) (h' : Heap) (tk' : Nat), Fr h₀ L h' m → News h₀ L h' news → Q (.int (wN x M k.toNat) t) { s with heap := h', toks := tk' }) :
  wpAny (model PySem.Challenge.rw_dm0269_01.row.prog w) (ktrTop dp un gd cn cs L ca ccd cl outer) (call (.ref 65) [.int x ta, .int M tb, .int k tc]) Q E s := by
  revert X; k_fill; intro X
  have hMB : Bd 64 M := ⟨hMb⟩
  obtain ⟨f1, f2, f3, f4⟩ := w_facts hM hMb hx2 hx hk16
  refine wpAny_call ?_
  k_dflt cell_enter
  k_steps
  refine Stop.mk ?_
  refine mul_int ?_ (mul_ok (PySem.intBits_le_64 (by decide) (by decide)) f1)
  k_steps
  refine Stop.mk ?_
  refine pow_int (by decide) (by omega) ?_
  k_steps
  refine Stop.mk ?_
  refine mul_int ?_ (mul_ok (PySem.intBits_le_64 (k := 10 ^ Int.toNat 6) (by decide) (by decide)) (pow_bits f2 32))
  k_steps
  refine Stop.mk ?_
  refine pow_int (by decide) (by omega) ?_
  k_steps
  refine Stop.mk ?_
  refine floordiv_pos (Int.pow_pos f4) (Nat.le_trans (pow_bits f3 32) (by decide)) ?_
  k_steps
  refine cb_retI (Q := Q) hret ?e1 ?e2 ?e3
  case e2 => k_asm
  case e3 => first | k_asm | (refine' cb_drop ?cbN ?cbS; (case cbN => assumption); (case cbS => kcj_all))
  case e1 => exact rfl
theorem c_doubled {x M LL : Int} {ta tb tc : Tok} (B : Below A₀ base outer h₀) (F : Fr h₀ L s.heap m) (X : (hd01.heap_39 w.params).In h₀) (N : News h₀ L s.heap news) (T : Top hd01.view_39 loose mean mg mb h₀) (hk : cs.kind = .function)
  (hM : 1000000 ≤ M) (hMb : intBits M ≤ 64) (hL : 3 ≤ LL) (hL2 : LL ≤ 10) (hx2 : x ≤ 12 * M) (hx : -(12 * M) ≤ 5 * x) (hd : dp + 8 < recursionLimit) (hu : un + 80 < cLine)
  (hret : ∀ (K : Nat) (t : Tok) (h' : Heap) (tk' : Nat), K ≤ 14 → ¬ M * 2 ^ K < (x.natAbs : Int) * 2 ^ LL.toNat + M → Fr h₀ L h' m → News h₀ L h' news → Q (.int (dbN x M K) t) { s with heap := h', toks := tk' }) :
  wpAny (model PySem.Challenge.rw_dm0269_01.row.prog w) (ktrTop dp un gd cn cs L ca ccd cl outer) (call (.ref 72) [.int x ta, .int M tb, .int LL tc]) Q E s := by
  revert X; k_fill; intro X
  have hxB : Bd 68 x := ⟨bits_abs (b := 12 * M) (k := 68) (by omega) (by omega) (intBits_mul_le (m := 4) (by decide) hMb)⟩
  have habs : (if x < 0 then -x else x) = (x.natAbs : Int) := absI x
  have habb : intBits (x.natAbs : Int) ≤ 68 := by rw [← habs]; split <;> first | exact intBits_neg_le hxB.out | exact hxB.out
  k_with "state" => first | exact dbN_start | exact dbN_turn (by omega)
  refine wpAny_call ?_
  k_dflt cell_enter
  k_steps
  refine Stop.mk ?_
  refine mul_turn habs ?_
  refine mul_int ?_ (mul_ok (PySem.intBits_le_64 (k := 10 ^ Int.toNat 6) (by decide) (by decide)) habb)
  k_steps
  refine Stop.mk ?_
  refine mul_int ?_ (mul_ok (PySem.intBits_le_64 (by decide) (by decide)) hMb)
  k_steps
  refine Stop.mk ?_
  refine floordiv_pos (by omega) (bits_mono (intBits_mul_le (m := 64) (PySem.intBits_le_64 (by decide) (by decide)) hMb)) ?_
  k_steps
  refine Stop.mk ?_
  (with_unfolding_all refine' c_turns ?k1_1 ?k2_1 ?k3_1 ?k4_1 ?k5_1 ?kK_1 ?p1_1 ?p2_1 ?p3_1 ?p4_1 ?p5_1 ?p6_1 ?kd_1 ?ku_1 ?kR_1); (case k1_1 => k_asm); (case k2_1 => k_asm); (case k3_1 => k_asm); (case k4_1 => k_asm); (case k5_1 => k_asm); (case kK_1 => first | exact rfl | assumption); (case p1_1 => exact hM); (case p2_1 => exact hMb); (case p3_1 => exact hL); (case p4_1 => exact hL2); (case p5_1 => exact hx2); (case p6_1 => exact hx); (case kd_1 => ktr_room); (case ku_1 => ktr_units); (intro K t9 h9 tk9 g1 g2 F9 N9); (try dsimp only); (try k_fold)
  k_steps
  refine Stop.mk ?_
  k_state (fun pre total => total = dbN x M pre.length) "total"
  · subst kInv
    k_steps
    refine Stop.mk ?_
    (with_unfolding_all refine' c_weight ?k1_2 ?k2_2 ?k3_2 ?k4_2 ?k5_2 ?kK_2 ?p1_2 ?p2_2 ?p3_2 ?p4_2 ?p5_2 ?p6_2 ?kd_2 ?ku_2 ?kR_2); (case k1_2 => k_asm); (case k2_2 => k_asm); (case k3_2 => k_asm); (case k4_2 => k_asm); (case k5_2 => k_asm); (case kK_2 => first | exact rfl | assumption); (case p1_2 => exact hM); (case p2_2 => exact hMb); (case p3_2 => omega); (case p4_2 => omega); (case p5_2 => exact hx2); (case p6_2 => exact hx); (case kd_2 => ktr_room); (case ku_2 => ktr_units); (intro t9 h9 tk9 F9 N9); (try dsimp only); (try k_fold)
    k_steps
    refine Stop.mk ?_
    refine floordiv_pos (by decide) (bits_small (b := 2) (by decide) (by decide)) ?_
    k_steps
  · have kI2 : _ = dbN x M K := kInv.trans (congrArg (dbN x M) (by rw [rangeKs_length]; omega))
    clear kInv
    subst kI2
    k_steps
    refine cb_retI (Q := Q) (fun t h' tk' F9 N9 => hret K t h' tk' g1 g2 F9 N9) ?e1 ?e2 ?e3
    case e2 => k_asm
    case e3 => first | k_asm | (refine' cb_drop ?cbN ?cbS; (case cbN => assumption); (case cbS => kcj_all))
    case e1 => exact rfl
theorem c_halved {x M LL : Int} {ta tb tc : Tok} (B : Below A₀ base outer h₀) (F : Fr h₀ L s.heap m) (X : (hd01.heap_39 w.params).In h₀) (N : News h₀ L s.heap news) (T : Top hd01.view_39 loose mean mg mb h₀) (hk : cs.kind = .function)
  (hM : 1000000 ≤ M) (hMb : intBits M ≤ 64) (hL : 3 ≤ LL) (hL2 : LL ≤ 10) (hx2 : x ≤ 12 * M) (hx : -(12 * M) ≤ 5 * x) (hd : dp + 8 < recursionLimit) (hu : un + 80 < cLine)
  (hret : ∀ (K : Nat) (t : Tok) (h' : Heap) (tk' : Nat), K ≤ 14 → ¬ M * 2 ^ K < (x.natAbs : Int) * 2 ^ LL.toNat + M → Fr h₀ L h' m → News h₀ L h' news → Q (.int (hvN x M (K + 1)) t) { s with heap := h', toks := tk' }) :
  wpAny (model PySem.Challenge.rw_dm0269_01.row.prog w) (ktrTop dp un gd cn cs L ca ccd cl outer) (call (.ref 79) [.int x ta, .int M tb, .int LL tc]) Q E s := by
  revert X; k_fill; intro X
  have hxB : Bd 68 x := ⟨bits_abs (b := 12 * M) (k := 68) (by omega) (by omega) (intBits_mul_le (m := 4) (by decide) hMb)⟩
  have habs : (if x < 0 then -x else x) = (x.natAbs : Int) := absI x
  have habb : intBits (x.natAbs : Int) ≤ 68 := by rw [← habs]; split <;> first | exact intBits_neg_le hxB.out | exact hxB.out
  k_with "state" => first | exact hvN_start | with_reducible rfl
  refine wpAny_call ?_
  k_dflt cell_enter
  k_steps
  refine Stop.mk ?_
  refine mul_int ?_ (mul_ok (PySem.intBits_le_64 (by decide) (by decide)) (PySem.intBits_le_64 (k := 10 ^ Int.toNat 6) (by decide) (by decide)))
  k_steps
  refine Stop.mk ?_
  refine mul_turn habs ?_
  refine mul_int ?_ (mul_ok (intBits_mul_le (m := 64) (n := 64) (PySem.intBits_le_64 (by decide) (by decide)) (PySem.intBits_le_64 (k := 10 ^ Int.toNat 6) (by decide) (by decide))) habb)
  k_steps
  refine Stop.mk ?_
  refine mul_int ?_ (mul_ok (PySem.intBits_le_64 (by decide) (by decide)) hMb)
  k_steps
  refine Stop.mk ?_
  refine floordiv_pos (by omega) (bits_mono (intBits_mul_le (m := 64) (PySem.intBits_le_64 (by decide) (by decide)) hMb)) ?_
  k_steps
  refine Stop.mk ?_
  (with_unfolding_all refine' c_turns ?k1_3 ?k2_3 ?k3_3 ?k4_3 ?k5_3 ?kK_3 ?p1_3 ?p2_3 ?p3_3 ?p4_3 ?p5_3 ?p6_3 ?kd_3 ?ku_3 ?kR_3); (case k1_3 => k_asm); (case k2_3 => k_asm); (case k3_3 => k_asm); (case k4_3 => k_asm); (case k5_3 => k_asm); (case kK_3 => first | exact rfl | assumption); (case p1_3 => exact hM); (case p2_3 => exact hMb); (case p3_3 => exact hL); (case p4_3 => exact hL2); (case p5_3 => exact hx2); (case p6_3 => exact hx); (case kd_3 => ktr_room); (case ku_3 => ktr_units); (intro K t9 h9 tk9 g1 g2 F9 N9); (try dsimp only); (try k_fold)
  k_steps
  refine Stop.mk ?_
  k_state (fun pre total => total = hvN x M pre.length) "total"
  · subst kInv
    k_steps
    refine Stop.mk ?_
    (with_unfolding_all refine' c_weight ?k1_4 ?k2_4 ?k3_4 ?k4_4 ?k5_4 ?kK_4 ?p1_4 ?p2_4 ?p3_4 ?p4_4 ?p5_4 ?p6_4 ?kd_4 ?ku_4 ?kR_4); (case k1_4 => k_asm); (case k2_4 => k_asm); (case k3_4 => k_asm); (case k4_4 => k_asm); (case k5_4 => k_asm); (case kK_4 => first | exact rfl | assumption); (case p1_4 => exact hM); (case p2_4 => exact hMb); (case p3_4 => omega); (case p4_4 => omega); (case p5_4 => exact hx2); (case p6_4 => exact hx); (case kd_4 => ktr_room); (case ku_4 => ktr_units); (intro t9 h9 tk9 F9 N9); (try dsimp only); (try k_fold)
    k_steps
    refine Stop.mk ?_
    refine gen_int (P := fun x => wpAny _ _ (storeName _ _ (Value.int x _)) _ _ _) _ ?_
    intro w9 hw9
    have hwb : intBits w9 ≤ 64 := by
      obtain ⟨-, a0, a1⟩ := wN_spec (by omega) hx kN.toNat
      exact PySem.intBits_le_64 (by omega) (by omega)
    refine storeX_L (by k_asm) (by k_asm) ?_
    intro h' F' N'
    (try dsimp only)
    k_steps
    refine Stop.mk ?_
    refine mul_int ?_ (mul_ok (PySem.intBits_le_64 (by decide) (by decide)) (PySem.intBits_le_64 (k := 10 ^ Int.toNat 6) (by decide) (by decide)))
    k_steps
    refine Stop.mk ?_
    refine mul_int ?_ (mul_ok (intBits_mul_le (m := 64) (n := 64) (PySem.intBits_le_64 (by decide) (by decide)) (PySem.intBits_le_64 (k := 10 ^ Int.toNat 6) (by decide) (by decide))) hMb)
    k_steps
    refine Stop.mk ?_
    refine mul_int ?_ (mul_ok (PySem.intBits_le_64 (by decide) (by decide)) (PySem.intBits_le_64 (k := 10 ^ Int.toNat 6) (by decide) (by decide)))
    k_steps
    refine Stop.mk ?_
    refine mul_turn habs ?_
    refine mul_int ?_ (mul_ok (bits_mono (k := 200) (intBits_add_le (m := 128) (n := 64) (intBits_mul_le (m := 64) (n := 64) (PySem.intBits_le_64 (by decide) (by decide)) (PySem.intBits_le_64 (k := 10 ^ Int.toNat 6) (by decide) (by decide))) hwb)) habb)
    k_steps
    have hbig : intBits (4 * 10 ^ Int.toNat 6 * M + (2 * 10 ^ Int.toNat 6 + w9) * (x.natAbs : Int)) ≤ 400 := bits_mono (intBits_add_le (m := 192) (n := 300) (intBits_mul_le (m := 128) (n := 64) (intBits_mul_le (m := 64) (n := 64) (PySem.intBits_le_64 (by decide) (by decide)) (PySem.intBits_le_64 (k := 10 ^ Int.toNat 6) (by decide) (by decide))) hMb) (bits_mono (intBits_mul_le (m := 129) (n := 68) (intBits_add_le (m := 128) (n := 64) (intBits_mul_le (m := 64) (n := 64) (PySem.intBits_le_64 (by decide) (by decide)) (PySem.intBits_le_64 (k := 10 ^ Int.toNat 6) (by decide) (by decide))) hwb) habb)))
    refine Stop.mk ?_
    refine mul_int ?_ (mul_ok hwb hbig)
    k_steps
    refine Stop.mk ?_
    refine mul_int ?_ (mul_ok (PySem.intBits_le_64 (by decide) (by decide)) (PySem.intBits_le_64 (k := 10 ^ Int.toNat 6) (by decide) (by decide)))
    k_steps
    refine Stop.mk ?_
    refine mul_int ?_ (mul_ok (intBits_mul_le (m := 64) (n := 64) (PySem.intBits_le_64 (by decide) (by decide)) (PySem.intBits_le_64 (k := 10 ^ Int.toNat 6) (by decide) (by decide))) hMb)
    k_steps
    refine Stop.mk ?_
    refine floordiv_pos (Int.mul_pos (by decide) (by omega)) (bits_mono (intBits_mul_le (m := 128) (n := 64) (intBits_mul_le (m := 64) (n := 64) (PySem.intBits_le_64 (by decide) (by decide)) (PySem.intBits_le_64 (k := 10 ^ Int.toNat 6) (by decide) (by decide))) hMb)) ?_
    k_steps
    refine Stop.mk ?_
    refine gen_int (P := fun x => wpAny _ _ (storeName _ _ (Value.int x _)) _ _ _) _ ?_
    intro z9 hz9
    have hz8 := (hvN_turn kEq hw9).symm.trans hz9
    clear hz9
    subst hz8
    clear hbig hwb hw9
    refine storeX_L (by k_asm) (by k_asm) ?_
    intro h' F' N'
    (try dsimp only)
    walk1
    k_unfold
    dsimp only [InvPostN]
    kst_close
  · have kI2 : _ = hvN x M (K + 1) := kInv.trans (congrArg (hvN x M) (by rw [rangeKs_length]; omega))
    clear kInv
    subst kI2
    k_steps
    refine cb_retI (Q := Q) (fun t h' tk' F9 N9 => hret K t h' tk' g1 g2 F9 N9) ?e1 ?e2 ?e3
    case e2 => k_asm
    case e3 => first | k_asm | (refine' cb_drop ?cbN ?cbS; (case cbN => assumption); (case cbS => kcj_all))
    case e1 => exact rfl
theorem c_halvedV {x M LL : Int} {ta tb tc : Tok} (B : Below A₀ base outer h₀) (F : Fr h₀ L s.heap m) (X : (hd01.heap_39 w.params).In h₀) (N : News h₀ L s.heap news) (T : Top hd01.view_39 loose mean mg mb h₀) (hk : cs.kind = .function)
  (hM : 1000000 ≤ M) (hMb : intBits M ≤ 64) (hL : 3 ≤ LL) (hL2 : LL ≤ 10) (hx2 : x ≤ 12 * M) (hx : -(12 * M) ≤ 5 * x) (hd : dp + 8 < recursionLimit) (hu : un + 80 < cLine)
  (hret : ∀ (K : Nat) (H : Int) (t : Tok) (h' : Heap) (tk' : Nat), hvN x M (K + 1) = H → K ≤ 14 → ¬ M * 2 ^ K < (x.natAbs : Int) * 2 ^ LL.toNat + M → Fr h₀ L h' m → News h₀ L h' news → Q (.int H t) { s with heap := h', toks := tk' }) :
  wpAny (model PySem.Challenge.rw_dm0269_01.row.prog w) (ktrTop dp un gd cn cs L ca ccd cl outer) (call (.ref 79) [.int x ta, .int M tb, .int LL tc]) Q E s :=
  c_halved B F X N T hk hM hMb hL hL2 hx2 hx hd hu (fun K t h' tk' a b F9 N9 => hret K _ t h' tk' rfl a b F9 N9)
theorem c_doubledV {x M LL : Int} {ta tb tc : Tok} (B : Below A₀ base outer h₀) (F : Fr h₀ L s.heap m) (X : (hd01.heap_39 w.params).In h₀) (N : News h₀ L s.heap news) (T : Top hd01.view_39 loose mean mg mb h₀) (hk : cs.kind = .function)
  (hM : 1000000 ≤ M) (hMb : intBits M ≤ 64) (hL : 3 ≤ LL) (hL2 : LL ≤ 10) (hx2 : x ≤ 12 * M) (hx : -(12 * M) ≤ 5 * x) (hd : dp + 8 < recursionLimit) (hu : un + 80 < cLine)
  (hret : ∀ (K : Nat) (H : Int) (t : Tok) (h' : Heap) (tk' : Nat), dbN x M (K) = H → K ≤ 14 → ¬ M * 2 ^ K < (x.natAbs : Int) * 2 ^ LL.toNat + M → Fr h₀ L h' m → News h₀ L h' news → Q (.int H t) { s with heap := h', toks := tk' }) :
  wpAny (model PySem.Challenge.rw_dm0269_01.row.prog w) (ktrTop dp un gd cn cs L ca ccd cl outer) (call (.ref 72) [.int x ta, .int M tb, .int LL tc]) Q E s :=
  c_doubled B F X N T hk hM hMb hL hL2 hx2 hx hd hu (fun K t h' tk' a b F9 N9 => hret K _ t h' tk' rfl a b F9 N9)

end
end Mine

namespace Mine
open PySem.Builtin.Int (intBits)
theorem gen_int2 {P : Int → Tok → Prop} (v : Int) (t : Tok) (h : ∀ x u, v = x → P x u) : P v t := h v t rfl
theorem fr_has2 {h₀ h : Heap} {L : Addr} {m : Str → Option Value} {a1 a2 : Str} {v1 v2 : Value} (e1 : m a1 = some v1) (e2 : m a2 = some v2) (F : Fr h₀ L h m) :
    Fr h₀ L h (fun y => if y = a1 then some v1 else if y = a2 then some v2 else m y) := by
  have e : m = (fun y => if y = a1 then some v1 else if y = a2 then some v2 else m y) := by
    funext y
    split
    · rename_i h; rw [h, e1]
    · split
      · rename_i h; rw [h, e2]
      · rfl
  rw [← e]; exact F
/-- the law from the row on, the drawn numbers a list of two (three) ints; M and K lie in cells -/
def Tail2 (M : Model) (A : Around) (t : Sem Flow) (E : Value → Shared → Prop) (h₀ : Heap) (L : Addr) : Prop :=
  ∀ (M1 LL KK d1 d2 : Int) (tM tL tK t1 t2 : Tok) (D : Addr) (c : Nat) (oM oK : Obj) (m : Str → Option Value) (s : Shared) (Q : Flow → Shared → Prop),
    1000000 ≤ M1 → M1 ≤ 2000000000000 → 3 ≤ LL → LL ≤ 10 → 3 ≤ KK → KK ≤ 10 → intBits d1 ≤ 1048576 → intBits d2 ≤ 1048576 → Fr h₀ L s.heap m → News h₀ L s.heap [(D, PySem.W.listOf #[.int d1 t1, .int d2 t2] c), (L + 1 + 1, oK), (L + 1, oM)] →
    oM.data = .cell (some (.int M1 tM)) → oK.data = .cell (some (.int KK tK)) →
    m (Str.ofString "L") = some (.int LL tL) → m (Str.ofString "drawn") = some (.ref D) →
    (∀ (m' : Str → Option Value) (h' : Heap) (tk' : Nat), Fr h₀ L h' m' → Q (.ret (.bool true)) { s with heap := h', toks := tk' }) →
    wpAny M A t Q E s
def Tail3 (M : Model) (A : Around) (t : Sem Flow) (E : Value → Shared → Prop) (h₀ : Heap) (L : Addr) : Prop :=
  ∀ (M1 LL KK d1 d2 d3 : Int) (tM tL tK t1 t2 t3 : Tok) (D : Addr) (c : Nat) (oM oK : Obj) (m : Str → Option Value) (s : Shared) (Q : Flow → Shared → Prop),
    1000000 ≤ M1 → M1 ≤ 2000000000000 → 3 ≤ LL → LL ≤ 10 → 3 ≤ KK → KK ≤ 10 → intBits d1 ≤ 1048576 → intBits d2 ≤ 1048576 → intBits d3 ≤ 1048576 → Fr h₀ L s.heap m → News h₀ L s.heap [(D, PySem.W.listOf #[.int d1 t1, .int d2 t2, .int d3 t3] c), (L + 1 + 1, oK), (L + 1, oM)] →
    oM.data = .cell (some (.int M1 tM)) → oK.data = .cell (some (.int KK tK)) →
    m (Str.ofString "L") = some (.int LL tL) → m (Str.ofString "drawn") = some (.ref D) →
    (∀ (m' : Str → Option Value) (h' : Heap) (tk' : Nat), Fr h₀ L h' m' → Q (.ret (.bool true)) { s with heap := h', toks := tk' }) →
    wpAny M A t Q E s
theorem cut01 {M : Model} {A : Around} {env : Env} {stmts : List Stmt} {Q : Flow → Shared → Prop} {E : Value → Shared → Prop} {s : Shared} {h₀ : Heap} {L : Addr} {m : Str → Option Value} (_ : Fr h₀ L s.heap m)
    (C1 : Tail2 M A (execs (stmts.drop 5) env) E h₀ L) (C2 : Tail3 M A (execs (stmts.drop 5) env) E h₀ L) (h : Tail2 M A (execs (stmts.drop 5) env) E h₀ L → Tail3 M A (execs (stmts.drop 5) env) E h₀ L → wpAny M A (execs stmts env) Q E s) : wpAny M A (execs stmts env) Q E s := h C1 C2
/-- an int by a word of it, the state's tokens alone turned -/
structure IsLetter (P : Int → Prop) (s : Shared) (v : Value) (s' : Shared) : Prop where
  out : ∃ (a : Int) (u : Tok) (k : Nat), P a ∧ v = .int a u ∧ s' = { s with toks := k }
theorem eval_letter {M : Model} {A : Around} {t : Sem Value} {P : Int → Prop} {Q : Value → Shared → Prop} {E : Value → Shared → Prop} {s : Shared}
    (h : wpAny M A t (IsLetter P s) E s)
    (k : ∀ (a : Int) (u : Tok) (k : Nat), P a → Q (.int a u) { s with toks := k }) : wpAny M A t Q E s :=
  wpAny_mono h (fun v s' ⟨a, u, n, hP, hv, hs⟩ => by rw [hv, hs]; exact k a u n hP) (fun _ _ e => e)
theorem row_mul_ok {d a : Int} (h : intBits d ≤ 1048576) (ha : intBits a ≤ 64) : IntMulOk (if d < 0 then -d else d) a :=
  IntMulOk.of_le (show intBits (if d < 0 then -d else d) ≤ 1048576 by split <;> first | exact intBits_neg_le h | exact h) ha (by decide)
theorem pow_ok {a b : Int} (h : intBits a ≤ 1000) (hb0 : 0 ≤ b) (hb : b ≤ 100) : (intBits a : Int) * b ≤ 2 ^ 27 := by
  have h1 : (intBits a : Int) ≤ 1000 := by omega
  have h2 := Int.mul_le_mul_of_nonneg_right h1 hb0
  have e : (2 : Int) ^ 27 = 134217728 := by decide
  omega
section
variable {prog : Program} {w : World} {A : Around} {E : Value → Shared → Prop} {s : Shared}
theorem le_true {a b : Int} {t u : Tok} {Q : Value → Shared → Prop} (hab : a ≤ b) (h : Q (.bool true) s) : wpAny (model prog w) A (compareOp .LtE (.int a t) (.int b u)) Q E s := le_int (by
  have e : decide (a ≤ b) = true := decide_eq_true hab
  rw [e]; exact h)
end
theorem two_of {ws : List Value} {l : List Int} (h : IntsAre ws (List.take 2 (List.take 2 l ++ [0, 0]))) : ∃ (x1 x2 : Int) (t1 t2 : Tok), ws = [.int x1 t1, .int x2 t2] := by
  have hl : (List.take 2 (List.take 2 l ++ [0, 0])).length = 2 := by
    simp only [List.length_take, List.length_append, List.length_cons, List.length_nil]
    omega
  generalize List.take 2 (List.take 2 l ++ [0, 0]) = r at *
  cases h with
  | nil => cases hl
  | cons x1 t1 h =>
    cases h with
    | nil => cases hl
    | cons x2 t2 h =>
      cases h with
      | nil => exact ⟨x1, x2, _, _, rfl⟩
      | cons _ _ _ => simp at hl
theorem bits_mem {ns : List Int} {d : Int} (h : PyData.layable0 (.list (ns.map .int)) = true) (hd : d ∈ ns) : intBits d ≤ 1048576 := by
  obtain ⟨j, hj, rfl⟩ := List.getElem_of_mem hd
  have e : ns.getD j 0 = ns[j] := by rw [List.getD_eq_getElem?_getD, List.getElem?_eq_getElem hj]; rfl
  rw [← e]
  exact kbm_getD h (by decide)
/-- a list of at most three ints, by its length -/
theorem three_of {ws : List Value} {l ns : List Int} (h : IntsAre ws l) (hl : l.length ≤ 3) (hm : ∀ d ∈ l, d ∈ ns) (hb : PyData.layable0 (.list (ns.map .int)) = true) :
    (ws = [] ∧ l = []) ∨ (∃ d1 t1, ws = [.int d1 t1] ∧ l = [d1] ∧ intBits d1 ≤ 1048576) ∨ (∃ d1 d2 t1 t2, ws = [.int d1 t1, .int d2 t2] ∧ l = [d1, d2] ∧ intBits d1 ≤ 1048576 ∧ intBits d2 ≤ 1048576) ∨
      (∃ d1 d2 d3 t1 t2 t3, ws = [.int d1 t1, .int d2 t2, .int d3 t3] ∧ l = [d1, d2, d3] ∧ intBits d1 ≤ 1048576 ∧ intBits d2 ≤ 1048576 ∧ intBits d3 ≤ 1048576) := by
  cases h with
  | nil => exact .inl ⟨rfl, rfl⟩
  | cons d1 t1 h =>
    have b1 := bits_mem hb (hm d1 List.mem_cons_self)
    cases h with
    | nil => exact .inr (.inl ⟨d1, _, rfl, rfl, b1⟩)
    | cons d2 t2 h =>
      have b2 := bits_mem hb (hm d2 (List.mem_cons_of_mem _ List.mem_cons_self))
      cases h with
      | nil => exact .inr (.inr (.inl ⟨d1, d2, _, _, rfl, rfl, b1, b2⟩))
      | cons d3 t3 h =>
        have b3 := bits_mem hb (hm d3 (List.mem_cons_of_mem _ (List.mem_cons_of_mem _ List.mem_cons_self)))
        cases h with
        | nil => exact .inr (.inr (.inr ⟨d1, d2, d3, _, _, _, rfl, rfl, b1, b2, b3⟩))
        | cons _ _ _ =>
          simp only [List.length_cons] at hl
          omega
theorem tail2_use {M : Model} {A : Around} {t : Sem Flow} {E : Value → Shared → Prop} {h₀ : Heap} {L : Addr} {M1 LL KK d1 d2 : Int} {tM tL tK t1 t2 : Tok} {D : Addr} {c : Nat} {oM oK : Obj} {m : Str → Option Value} {s : Shared} {Q : Flow → Shared → Prop}
    (C : Tail2 M A t E h₀ L) (F : Fr h₀ L s.heap m) (e2 : m (Str.ofString "drawn") = some (.ref D)) (e1 : m (Str.ofString "L") = some (.int LL tL)) (N : News h₀ L s.heap [(D, PySem.W.listOf #[.int d1 t1, .int d2 t2] c), (L + 1 + 1, oK), (L + 1, oM)])
    (hoM : oM.data = .cell (some (.int M1 tM))) (hoK : oK.data = .cell (some (.int KK tK))) (b : 1000000 ≤ M1 ∧ M1 ≤ 2000000000000 ∧ 3 ≤ LL ∧ LL ≤ 10 ∧ 3 ≤ KK ∧ KK ≤ 10) (hd1 : intBits d1 ≤ 1048576) (hd2 : intBits d2 ≤ 1048576)
    (q : ∀ (m' : Str → Option Value) (h' : Heap) (tk' : Nat), Fr h₀ L h' m' → Q (.ret (.bool true)) { s with heap := h', toks := tk' }) : wpAny M A t Q E s :=
  C M1 LL KK d1 d2 tM tL tK t1 t2 D c oM oK m s Q b.1 b.2.1 b.2.2.1 b.2.2.2.1 b.2.2.2.2.1 b.2.2.2.2.2 hd1 hd2 F N hoM hoK e1 e2 q
theorem tail3_use {M : Model} {A : Around} {t : Sem Flow} {E : Value → Shared → Prop} {h₀ : Heap} {L : Addr} {M1 LL KK d1 d2 d3 : Int} {tM tL tK t1 t2 t3 : Tok} {D : Addr} {c : Nat} {oM oK : Obj} {m : Str → Option Value} {s : Shared} {Q : Flow → Shared → Prop}
    (C : Tail3 M A t E h₀ L) (F : Fr h₀ L s.heap m) (e2 : m (Str.ofString "drawn") = some (.ref D)) (e1 : m (Str.ofString "L") = some (.int LL tL)) (N : News h₀ L s.heap [(D, PySem.W.listOf #[.int d1 t1, .int d2 t2, .int d3 t3] c), (L + 1 + 1, oK), (L + 1, oM)])
    (hoM : oM.data = .cell (some (.int M1 tM))) (hoK : oK.data = .cell (some (.int KK tK))) (b : 1000000 ≤ M1 ∧ M1 ≤ 2000000000000 ∧ 3 ≤ LL ∧ LL ≤ 10 ∧ 3 ≤ KK ∧ KK ≤ 10) (hd1 : intBits d1 ≤ 1048576) (hd2 : intBits d2 ≤ 1048576) (hd3 : intBits d3 ≤ 1048576)
    (q : ∀ (m' : Str → Option Value) (h' : Heap) (tk' : Nat), Fr h₀ L h' m' → Q (.ret (.bool true)) { s with heap := h', toks := tk' }) : wpAny M A t Q E s :=
  C M1 LL KK d1 d2 d3 tM tL tK t1 t2 t3 D c oM oK m s Q b.1 b.2.1 b.2.2.1 b.2.2.2.1 b.2.2.2.2.1 b.2.2.2.2.2 hd1 hd2 hd3 F N hoM hoK e1 e2 q
end Mine
local macro_rules | `(tactic| walk_at "storeName") => `(tactic| (k_here; (with_reducible show wpAny _ _ (storeName _ (PySem.Str.ofString "v") (Value.int _ _)) _ _ _); refine Mine.Stop.out ?_))
local macro_rules | `(tactic| walk_at "storeName") => `(tactic| (k_here; (with_reducible show wpAny _ _ (storeName _ (PySem.Str.ofString "bound") (Value.int _ _)) _ _ _); refine Mine.Stop.out ?_))
local macro_rules | `(tactic| walk_at "storeName") => `(tactic| (k_here; (with_reducible show wpAny _ _ (storeName _ (PySem.Str.ofString "unit") (Value.int _ _)) _ _ _); refine Mine.Stop.out ?_))
local macro_rules | `(tactic| walk_at "storeName") => `(tactic| (k_here; (with_reducible show wpAny _ _ (storeName _ (PySem.Str.ofString "product") (Value.int _ _)) _ _ _); refine Mine.Stop.out ?_))
local macro_rules | `(tactic| walk_at "storeName") => `(tactic| (k_here; (with_reducible show wpAny _ _ (storeName _ (PySem.Str.ofString "drawn") (Value.ref _)) _ _ _); refine Mine.Stop.out ?_))
local macro_rules | `(tactic| walk_at "binaryOp Mult int int") => `(tactic| (k_here; (with_reducible show wpAny _ _ (binaryOp Operator.Mult (Value.int _ _) (Value.int _ _)) _ _ _); refine Mine.Stop.out ?_))
local macro_rules | `(tactic| walk_at "binaryOp Pow int int") => `(tactic| (k_here; first | ((with_reducible refine pow_int_small ?kb1 ?kb2 ?kb3 ?_); (case kb1 => first | decide | omega); (case kb2 => first | decide | omega); (case kb3 => decide)) | ((with_reducible show wpAny _ _ (binaryOp Operator.Pow (Value.int _ _) (Value.int _ _)) _ _ _); refine Mine.Stop.out ?_)))
local macro_rules | `(tactic| walk_at "eval IfExp") => `(tactic| (k_here; (with_reducible show wpAny _ _ (eval (Expr.IfExp _ _ _ _) _) _ _ _); refine Mine.Stop.out ?_))
local macro_rules | `(tactic| walk_at "eval BinOp") => `(tactic| (k_here; (with_reducible show wpAny _ _ (eval (Expr.BinOp (Expr.BinOp (Expr.Name (PySem.Str.ofString "M") _) Operator.FloorDiv _ _) Operator.Add (Expr.BinOp _ Operator.Mod _ _) _) _) _ _ _); refine Mine.Stop.out ?_))
local macro_rules | `(tactic| walk_at "compareOp LtE int int") => `(tactic| (k_here; (with_reducible refine Mine.le_true (by assumption) ?_)))
local macro_rules | `(tactic| walk_at "execs cons") => `(tactic| (k_here; (with_reducible refine Mine.gen_toks (P := fun k => wpAny _ _ (execs (_ :: _) _) _ _ { heap := _, gens := _, drawn := _, toks := k, os := _ }) _ ?_); intro tk; (with_reducible refine wpAny_execs_cons ?_); try dsimp only))
local macro_rules | `(tactic| walk_at "execs nil") => `(tactic| (k_here; (with_reducible refine Mine.gen_toks (P := fun k => wpAny _ _ (execs [] _) _ _ { heap := _, gens := _, drawn := _, toks := k, os := _ }) _ ?_); intro tk; (with_reducible refine wpAny_execs_nil ?_); try dsimp only))
local macro_rules | `(tactic| walk_at "CompSrc") => `(tactic| (k_here; k_dflt (refine LCg.CompSrc.ledger (by rfl) (by k_asm) (by k_asm) (by k_mem) (by first | size_fits | exact Nat.le_of_ble_eq_true rfl) ?_; intro g'; lcg_lit)))
local macro_rules | `(tactic| walk_at "execs cons") => `(tactic| (k_here; (with_reducible show wpAny _ _ (execs (PySem.Stmt.Assign [PySem.Expr.Name (PySem.Str.ofString "row") _] _ _ :: _) _) _ _ _); refine Mine.Stop.out ?_))
local macro_rules | `(tactic| lcg_off) => `(tactic| (simp only [PyProof.Rows.LCg.Off3, and_true]; assumption))
namespace Mine
open PySem.Builtin.Int (intBits)
set_option rowWalk.seconds 0
structure Hide (P : Prop) : Prop where
  out : P
noncomputable def m01 : PSigma fun (P : Prop) => PSigma fun (R : Prop) => Hide P → Hide R → PySem.Challenge.rw_dm0269_01.Holds := ⟨_, _, fun hP hR => hd01 (by
  k_go0; (all_goals try k_fold)
  (try dsimp only)
  refine cut01 (by k_asm) ?C1 ?C2 ?C3
  case C1 =>
    rename World => w9
    revert w9
    repeat (rename Shared => x9; revert x9)
    repeat (rename Heap => x9; revert x9)
    repeat (rename List _ => x9; revert x9)
    repeat (rename (Str → Option Value) => x9; revert x9)
    repeat (rename Value => x9; revert x9)
    repeat (rename Obj => x9; revert x9)
    repeat (rename Addr => x9; revert x9)
    repeat (rename Nat => x9; revert x9)
    exact hP.out
  case C2 =>
    rename World => w9
    revert w9
    repeat (rename Shared => x9; revert x9)
    repeat (rename Heap => x9; revert x9)
    repeat (rename List _ => x9; revert x9)
    repeat (rename (Str → Option Value) => x9; revert x9)
    repeat (rename Value => x9; revert x9)
    repeat (rename Obj => x9; revert x9)
    repeat (rename Addr => x9; revert x9)
    repeat (rename Nat => x9; revert x9)
    exact hR.out
  case C3 =>
    dsimp only [List.drop]
    intro c1 c2
    k_steps
    rename IntsAre _ (List.take 2 (_ ++ _)) => hI9
    obtain ⟨x1, x2, tx1, tx2, rfl⟩ := two_of hI9
    clear hI9
    k_steps
    refine Stop.mk ?_
    refine floordiv_pos (by decide) (bits_small (b := 8) (by decide) (by decide)) ?_
    k_steps
    refine Stop.mk ?_
    rename IntsAre _ (List.take _ (List.drop 2 _)) => hI9
    obtain ⟨rfl, e9⟩ | ⟨d1, t1, rfl, e9, hd1⟩ | ⟨d1, d2, t1, t2, rfl, e9, hd1, hd2⟩ | ⟨d1, d2, d3, t1, t2, t3, rfl, e9, hd1, hd2, hd3⟩ := three_of hI9 (by simp only [List.length_take, List.length_drop]; omega) (fun d hd => List.mem_of_mem_drop (List.mem_of_mem_take hd)) (by assumption)
    · refine storeX_L (by k_asm) (by k_asm) ?_
      intro h' F' N'
      (try dsimp only)
      k_steps
      refine Stop.mk ?_
      refine' tail2_use c1 (by k_asm) ?ze0 ?zf0 ?zn0 ?zM0 ?zK0 ?zb0 ?zd1_0 ?zd2_0 ?zq0
      case ze0 => rfl
      case zf0 => rfl
      case zn0 => first | k_asm | (refine' cb_drop ?cbN0 ?cbS0; (case cbN0 => assumption); (case cbS0 => kcj_all))
      case zM0 => assumption
      case zK0 => assumption
      case zb0 =>
        have e6 : (10 : Int) ^ Int.toNat 6 = 1000000 := by decide
        have e12 : (10 : Int) ^ Int.toNat 12 = 1000000000000 := by decide
        rename _ < (10 : Int) ^ Int.toNat 12 => h12
        rw [e12] at h12
        rw [e6]
        refine ⟨?_, ?_, ?_, ?_, ?_, ?_⟩ <;> omega
      case zd1_0 => first | assumption | exact Nat.le_trans (PySem.intBits_le_64 (by decide) (by decide)) (by decide)
      case zd2_0 => first | assumption | exact Nat.le_trans (PySem.intBits_le_64 (by decide) (by decide)) (by decide)
      case zq0 =>
        intro m8 h8 tk8 F8
        k_steps
    · refine storeX_L (by k_asm) (by k_asm) ?_
      intro h' F' N'
      (try dsimp only)
      k_steps
      refine Stop.mk ?_
      refine' tail2_use c1 (by k_asm) ?ze1 ?zf1 ?zn1 ?zM1 ?zK1 ?zb1 ?zd1_1 ?zd2_1 ?zq1
      case ze1 => rfl
      case zf1 => rfl
      case zn1 => first | k_asm | (refine' cb_drop ?cbN1 ?cbS1; (case cbN1 => assumption); (case cbS1 => kcj_all))
      case zM1 => assumption
      case zK1 => assumption
      case zb1 =>
        have e6 : (10 : Int) ^ Int.toNat 6 = 1000000 := by decide
        have e12 : (10 : Int) ^ Int.toNat 12 = 1000000000000 := by decide
        rename _ < (10 : Int) ^ Int.toNat 12 => h12
        rw [e12] at h12
        rw [e6]
        refine ⟨?_, ?_, ?_, ?_, ?_, ?_⟩ <;> omega
      case zd1_1 => first | assumption | exact Nat.le_trans (PySem.intBits_le_64 (by decide) (by decide)) (by decide)
      case zd2_1 => first | assumption | exact Nat.le_trans (PySem.intBits_le_64 (by decide) (by decide)) (by decide)
      case zq1 =>
        intro m8 h8 tk8 F8
        k_steps
    · refine storeX_L (by k_asm) (by k_asm) ?_
      intro h' F' N'
      (try dsimp only)
      k_steps
      refine Stop.mk ?_
      refine' tail2_use c1 (by k_asm) ?ze2 ?zf2 ?zn2 ?zM2 ?zK2 ?zb2 ?zd1_2 ?zd2_2 ?zq2
      case ze2 => rfl
      case zf2 => rfl
      case zn2 => first | k_asm | (refine' cb_drop ?cbN2 ?cbS2; (case cbN2 => assumption); (case cbS2 => kcj_all))
      case zM2 => assumption
      case zK2 => assumption
      case zb2 =>
        have e6 : (10 : Int) ^ Int.toNat 6 = 1000000 := by decide
        have e12 : (10 : Int) ^ Int.toNat 12 = 1000000000000 := by decide
        rename _ < (10 : Int) ^ Int.toNat 12 => h12
        rw [e12] at h12
        rw [e6]
        refine ⟨?_, ?_, ?_, ?_, ?_, ?_⟩ <;> omega
      case zd1_2 => first | assumption | exact Nat.le_trans (PySem.intBits_le_64 (by decide) (by decide)) (by decide)
      case zd2_2 => first | assumption | exact Nat.le_trans (PySem.intBits_le_64 (by decide) (by decide)) (by decide)
      case zq2 =>
        intro m8 h8 tk8 F8
        k_steps
    · refine storeX_L (by k_asm) (by k_asm) ?_
      intro h' F' N'
      (try dsimp only)
      k_steps
      refine Stop.mk ?_
      refine' tail3_use c2 (by k_asm) ?ze3 ?zf3 ?zn3 ?zM3 ?zK3 ?zb3 ?zd1_3 ?zd2_3 ?zd3_3 ?zq3
      case ze3 => rfl
      case zf3 => rfl
      case zn3 => first | k_asm | (refine' cb_drop ?cbN3 ?cbS3; (case cbN3 => assumption); (case cbS3 => kcj_all))
      case zM3 => assumption
      case zK3 => assumption
      case zb3 =>
        have e6 : (10 : Int) ^ Int.toNat 6 = 1000000 := by decide
        have e12 : (10 : Int) ^ Int.toNat 12 = 1000000000000 := by decide
        rename _ < (10 : Int) ^ Int.toNat 12 => h12
        rw [e12] at h12
        rw [e6]
        refine ⟨?_, ?_, ?_, ?_, ?_, ?_⟩ <;> omega
      case zd1_3 => first | assumption | exact Nat.le_trans (PySem.intBits_le_64 (by decide) (by decide)) (by decide)
      case zd2_3 => first | assumption | exact Nat.le_trans (PySem.intBits_le_64 (by decide) (by decide)) (by decide)
      case zd3_3 => first | assumption | exact Nat.le_trans (PySem.intBits_le_64 (by decide) (by decide)) (by decide)
      case zq3 =>
        intro m8 h8 tk8 F8
        k_steps
  )⟩
theorem t01a : m01.1 := by
  unfold m01
  (try dsimp only)
  k_fill
  w_top on
  intros
  dsimp only [List.drop]
  rename Below _ _ _ _ => B0
  rename Top _ _ _ _ _ _ => T0
  rename Frag.In _ _ => X0
  intro M LL KK d1 d2 tM tL tK t1 t2 D0 c0 oM oK m0 s0 Q0 hM hM2 hL hL2 hK hK2 hd1 hd2 F0 N0 hoM hoK e1 e2 hret
  have F1 := fr_has2 e1 e2 F0
  clear F0 e1 e2
  (try k_sweep)
  have hMb : intBits M ≤ 64 := PySem.intBits_le_64 (by omega) (by omega)
  refine wpAny_execs_cons ?_
  (try dsimp only)
  k_steps
  refine Stop.mk ?_
  refine eval_letter (P := fun w => M / 6 ≤ w ∧ w < 51 * M) ?hl_1 ?hk_1
  case hl_1 =>
    refine wpAny_BinOp ?_
    (try dsimp only)
    k_steps
    refine Stop.mk ?_
    refine floordiv_pos (by decide) (bits_small (b := 6) (by decide) (by decide)) ?_
    k_steps
    refine Stop.mk ?_
    refine floordiv_pos (by decide) (bits_small (b := 7) (by decide) (by decide)) ?_
    k_steps
    refine Stop.mk ?_
    refine mul_int ?_ (row_mul_ok hd1 (PySem.intBits_le_64 (by omega) (by omega)))
    k_steps
    refine Stop.mk ?_
    refine eval_letter (P := fun k => 1 ≤ k ∧ k ≤ 50) ?hm_1 ?hn_1
    case hm_1 =>
      refine wpAny_IfExp ?_
      (try dsimp only)
      k_steps
      all_goals exact ⟨_, _, _, by omega, rfl, rfl⟩
    case hn_1 =>
    intro k9 tk9 tk8 hk9
    (try dsimp only)
    have hkM1 : 0 < k9 * M := Int.mul_pos (by omega) (by omega)
    have hkM2 := Int.mul_le_mul_of_nonneg_right hk9.2 (show 0 ≤ M by omega)
    k_steps
    refine Stop.mk ?_
    refine mul_int ?_ (mul_ok (PySem.intBits_le_64 (by omega) (by omega)) hMb)
    k_steps
    exact ⟨_, _, _, by omega, rfl, rfl⟩
  case hk_1 =>
  intro w1 tw1 tkw1 hw1
  (try dsimp only)
  k_steps
  refine Stop.mk ?_
  refine eval_letter (P := fun w => M / 6 ≤ w ∧ w < 51 * M) ?hl_2 ?hk_2
  case hl_2 =>
    refine wpAny_BinOp ?_
    (try dsimp only)
    k_steps
    refine Stop.mk ?_
    refine floordiv_pos (by decide) (bits_small (b := 6) (by decide) (by decide)) ?_
    k_steps
    refine Stop.mk ?_
    refine floordiv_pos (by decide) (bits_small (b := 7) (by decide) (by decide)) ?_
    k_steps
    refine Stop.mk ?_
    refine mul_int ?_ (row_mul_ok hd2 (PySem.intBits_le_64 (by omega) (by omega)))
    k_steps
    refine Stop.mk ?_
    refine eval_letter (P := fun k => 1 ≤ k ∧ k ≤ 50) ?hm_2 ?hn_2
    case hm_2 =>
      refine wpAny_IfExp ?_
      (try dsimp only)
      k_steps
      all_goals exact ⟨_, _, _, by omega, rfl, rfl⟩
    case hn_2 =>
    intro k9 tk9 tk8 hk9
    (try dsimp only)
    have hkM1 : 0 < k9 * M := Int.mul_pos (by omega) (by omega)
    have hkM2 := Int.mul_le_mul_of_nonneg_right hk9.2 (show 0 ≤ M by omega)
    k_steps
    refine Stop.mk ?_
    refine mul_int ?_ (mul_ok (PySem.intBits_le_64 (by omega) (by omega)) hMb)
    k_steps
    exact ⟨_, _, _, by omega, rfl, rfl⟩
  case hk_2 =>
  intro w2 tw2 tkw2 hw2
  (try dsimp only)
  k_steps
  obtain ⟨R1, hR1, pre1, ⟨ra1, rb1⟩, ⟨xa1, xb1⟩, E1, ea1, eb1, el1, eg1, hv1⟩ := log01 hM hMb hK hK2 hw1.1 hw1.2
  obtain ⟨X1, hX1⟩ : ∃ X, ilogF M w1 KK R1 = X := ⟨_, rfl⟩
  rw [hX1] at ra1 rb1 xa1 xb1 el1 eg1 hv1
  refine Stop.mk ?_
  (with_unfolding_all refine' c_ilogV R1 ?k1_1 ?k2_1 ?k3_1 ?k4_1 ?k5_1 ?kK_1 ?p1_1 ?p2_1 ?p3_1 ?p4_1 ?p5_1 ?p6_1 ?p7_1 ?p8_1 ?p9_1 ?p10_1 ?kd_1 ?ku_1 ?kR_1); (case k1_1 => k_asm); (case k2_1 => k_asm); (case k3_1 => k_asm); (case k4_1 => k_asm); (case k5_1 => k_asm); (case kK_1 => first | exact rfl | assumption); (case p1_1 => omega); (case p2_1 => exact bits_mono hMb); (case p3_1 => omega); (case p4_1 => omega); (case p5_1 => omega); (case p6_1 => exact pre1.go); (case p7_1 => exact pre1.stop); (case p8_1 => exact pre1.y); (case p9_1 => exact pre1.w); (case p10_1 => exact hX1); (case kd_1 => ktr_room); (case ku_1 => ktr_units); (intro t9 h9 tk9 F9 N9); (try dsimp only); (try k_fold)
  clear pre1 hX1
  k_steps
  obtain ⟨R2, hR2, pre2, ⟨ra2, rb2⟩, ⟨xa2, xb2⟩, E2, ea2, eb2, el2, eg2, hv2⟩ := log01 hM hMb hK hK2 hw2.1 hw2.2
  obtain ⟨X2, hX2⟩ : ∃ X, ilogF M w2 KK R2 = X := ⟨_, rfl⟩
  rw [hX2] at ra2 rb2 xa2 xb2 el2 eg2 hv2
  refine Stop.mk ?_
  (with_unfolding_all refine' c_ilogV R2 ?k1_2 ?k2_2 ?k3_2 ?k4_2 ?k5_2 ?kK_2 ?p1_2 ?p2_2 ?p3_2 ?p4_2 ?p5_2 ?p6_2 ?p7_2 ?p8_2 ?p9_2 ?p10_2 ?kd_2 ?ku_2 ?kR_2); (case k1_2 => k_asm); (case k2_2 => k_asm); (case k3_2 => k_asm); (case k4_2 => k_asm); (case k5_2 => k_asm); (case kK_2 => first | exact rfl | assumption); (case p1_2 => omega); (case p2_2 => exact bits_mono hMb); (case p3_2 => omega); (case p4_2 => omega); (case p5_2 => omega); (case p6_2 => exact pre2.go); (case p7_2 => exact pre2.stop); (case p8_2 => exact pre2.y); (case p9_2 => exact pre2.w); (case p10_2 => exact hX2); (case kd_2 => ktr_room); (case ku_2 => ktr_units); (intro t9 h9 tk9 F9 N9); (try dsimp only); (try k_fold)
  clear pre2 hX2
  k_steps
  have G1 : Lg1 M KK w1 X1 E1 := ⟨by omega, xa1, xb1, ea1, eb1, el1, eg1, hv1⟩
  clear xa1 xb1 ea1 eb1 el1 eg1 hv1
  have G2 : Lg1 M KK w2 X2 E2 := ⟨by omega, xa2, xb2, ea2, eb2, el2, eg2, hv2⟩
  clear xa2 xb2 ea2 eb2 el2 eg2 hv2
  refine Stop.mk ?_
  (with_unfolding_all refine' c_div ?k1_3 ?k2_3 ?k3_3 ?k4_3 ?k5_3 ?kK_3 ?p1_3 ?p2_3 ?kd_3 ?ku_3 ?kR_3); (case k1_3 => k_asm); (case k2_3 => k_asm); (case k3_3 => k_asm); (case k4_3 => k_asm); (case k5_3 => k_asm); (case kK_3 => first | exact rfl | assumption); (case p1_3 => decide); (case p2_3 => exact bits_small (b := 3) (by decide) (by decide)); (case kd_3 => ktr_room); (case ku_3 => ktr_units); (intro t9 h9 tk9 F9 N9); (try dsimp only); (try k_fold)
  k_steps
  refine Stop.mk ?_
  refine gen_int2 (P := fun x u => wpAny _ _ (storeName _ _ (Value.int x u)) _ _ _) _ _ ?_
  intro v tv hv0
  have e0 : X1 + (X2 + 0) = X1 + X2 := by omega
  rw [e0] at hv0
  clear e0
  obtain ⟨⟨v1, v2, preV, t0, t2⟩, law⟩ := law01_2 hM hMb hL hL2 G1 G2 hv0
  obtain ⟨told, hto⟩ : ∃ told, iexpF M v LL = told := ⟨_, rfl⟩
  rw [hto] at t0 t2 law
  have htb : intBits told ≤ 100 := bits_abs (b := 2 ^ 27 * M) (k := 100) (by omega) t2 (bits_mono (intBits_mul_le (m := 28) (by decide) hMb))
  clear hv0 G1 G2
  refine storeX_L (by k_asm) (by k_asm) ?_
  intro h' F' N'
  (try dsimp only)
  k_steps
  refine Stop.mk ?_
  (with_unfolding_all refine' c_iexpV ?k1_4 ?k2_4 ?k3_4 ?k4_4 ?k5_4 ?kK_4 ?p1_4 ?p2_4 ?p3_4 ?p4_4 ?p5_4 ?p6_4 ?p7_4 ?p8_4 ?p9_4 ?kd_4 ?ku_4 ?kR_4); (case k1_4 => k_asm); (case k2_4 => k_asm); (case k3_4 => k_asm); (case k4_4 => k_asm); (case k5_4 => k_asm); (case kK_4 => first | exact rfl | assumption); (case p1_4 => omega); (case p2_4 => exact bits_mono hMb); (case p3_4 => omega); (case p4_4 => omega); (case p5_4 => exact preV.b); (case p6_4 => exact preV.r); (case p7_4 => exact preV.e); (case p8_4 => exact preV.d); (case p9_4 => exact hto); (case kd_4 => ktr_room); (case ku_4 => ktr_units); (intro t9 h9 tk9 F9 N9); (try dsimp only); (try k_fold)
  clear preV hto
  k_steps
  refine Stop.mk ?_
  (with_unfolding_all refine' c_halvedV ?k1_5 ?k2_5 ?k3_5 ?k4_5 ?k5_5 ?kK_5 ?p1_5 ?p2_5 ?p3_5 ?p4_5 ?p5_5 ?p6_5 ?kd_5 ?ku_5 ?kR_5); (case k1_5 => k_asm); (case k2_5 => k_asm); (case k3_5 => k_asm); (case k4_5 => k_asm); (case k5_5 => k_asm); (case kK_5 => first | exact rfl | assumption); (case p1_5 => exact hM); (case p2_5 => exact hMb); (case p3_5 => exact hK); (case p4_5 => exact hK2); (case p5_5 => exact rb1); (case p6_5 => exact ra1); (case kd_5 => ktr_room); (case ku_5 => ktr_units); (intro K1 H1 t9 h9 tk9 hH1 ga1 gb1 F9 N9); (try dsimp only); (try k_fold)
  k_steps
  refine Stop.mk ?_
  (with_unfolding_all refine' c_halvedV ?k1_6 ?k2_6 ?k3_6 ?k4_6 ?k5_6 ?kK_6 ?p1_6 ?p2_6 ?p3_6 ?p4_6 ?p5_6 ?p6_6 ?kd_6 ?ku_6 ?kR_6); (case k1_6 => k_asm); (case k2_6 => k_asm); (case k3_6 => k_asm); (case k4_6 => k_asm); (case k5_6 => k_asm); (case kK_6 => first | exact rfl | assumption); (case p1_6 => exact hM); (case p2_6 => exact hMb); (case p3_6 => exact hK); (case p4_6 => exact hK2); (case p5_6 => exact rb2); (case p6_6 => exact ra2); (case kd_6 => ktr_room); (case ku_6 => ktr_units); (intro K2 H2 t9 h9 tk9 hH2 ga2 gb2 F9 N9); (try dsimp only); (try k_fold)
  k_steps
  refine Stop.mk ?_
  refine floordiv_pos (by decide) (bits_small (b := 3) (by decide) (by decide)) ?_
  k_steps
  refine Stop.mk ?_
  (with_unfolding_all refine' c_doubledV ?k1_7 ?k2_7 ?k3_7 ?k4_7 ?k5_7 ?kK_7 ?p1_7 ?p2_7 ?p3_7 ?p4_7 ?p5_7 ?p6_7 ?kd_7 ?ku_7 ?kR_7); (case k1_7 => k_asm); (case k2_7 => k_asm); (case k3_7 => k_asm); (case k4_7 => k_asm); (case k5_7 => k_asm); (case kK_7 => first | exact rfl | assumption); (case p1_7 => exact hM); (case p2_7 => exact hMb); (case p3_7 => exact hL); (case p4_7 => exact hL2); (case p5_7 => exact v1); (case p6_7 => exact v2); (case kd_7 => ktr_room); (case ku_7 => ktr_units); (intro KD HD t9 h9 tk9 hHD gc gd F9 N9); (try dsimp only); (try k_fold)
  have e0 : H1 + (H2 + 0) = H1 + H2 := by omega
  obtain ⟨b0, b1, l1, l2⟩ := law H1 H2 K1 K2 KD hH1 hH2 ga1 gb1 ga2 gb2 gc gd
  rw [hHD, ← e0] at b0 b1 l1 l2
  clear law hHD gc gd e0 hH1 ga1 gb1 hH2 ga2 gb2
  k_steps
  refine Stop.mk ?_
  refine gen_int2 (P := fun x u => wpAny _ _ (storeName _ _ (Value.int x u)) _ _ _) _ _ ?_
  intro bound tbd hbd
  rw [hbd] at b0 b1 l1 l2
  clear hbd
  refine storeX_L (by k_asm) (by k_asm) ?_
  intro h' F' N'
  (try dsimp only)
  k_steps
  refine Stop.mk ?_
  refine mul_int ?_ (mul_ok (PySem.intBits_le_64 (k := 10 ^ Int.toNat 6) (by decide) (by decide)) hMb)
  k_steps
  refine Stop.mk ?_
  refine gen_int2 (P := fun x u => wpAny _ _ (storeName _ _ (Value.int x u)) _ _ _) _ _ ?_
  intro unit tu hun
  have hun' : 10 ^ 6 * M = unit := hun
  have hub : intBits unit ≤ 128 := by rw [← hun]; exact intBits_mul_le (m := 64) (PySem.intBits_le_64 (k := 10 ^ Int.toNat 6) (by decide) (by decide)) hMb
  rw [hun'] at l1 l2
  have u0 : 0 < unit := by omega
  clear hun hun'
  refine storeX_L (by k_asm) (by k_asm) ?_
  intro h' F' N'
  (try dsimp only)
  k_steps
  refine Stop.mk ?_
  refine pow_int (by decide) (pow_ok (bits_mono hub) (by decide) (by decide)) ?_
  k_steps
  refine Stop.mk ?_
  refine gen_int2 (P := fun x u => wpAny _ _ (storeName _ _ (Value.int x u)) _ _ _) _ _ ?_
  intro p0 tp0 hp0
  have hp0b : intBits p0 ≤ 500 := by rw [← hp0]; exact Nat.le_trans (pow_bits hub _) (by decide)
  refine storeX_L (by k_asm) (by k_asm) ?_
  intro h' F' N'
  (try dsimp only)
  k_steps
  refine Stop.mk ?_
  k_listUnr
  k_steps
  refine Stop.mk ?_
  refine gen_int2 (P := fun x u => wpAny _ _ (storeName _ _ (Value.int x u)) _ _ _) _ _ ?_
  intro p1 tp1 hp1
  have hp1b : intBits p1 ≤ 564 := by rw [← hp1]; exact intBits_mul_le hp0b (PySem.intBits_le_64 (by omega) (by omega))
  refine storeX_L (by k_asm) (by k_asm) ?_
  intro h' F' N'
  (try dsimp only)
  k_steps
  refine Stop.mk ?_
  refine gen_int2 (P := fun x u => wpAny _ _ (storeName _ _ (Value.int x u)) _ _ _) _ _ ?_
  intro p2 tp2 hp2
  have hp2b : intBits p2 ≤ 628 := by rw [← hp2]; exact intBits_mul_le hp1b (PySem.intBits_le_64 (by omega) (by omega))
  refine storeX_L (by k_asm) (by k_asm) ?_
  intro h' F' N'
  (try dsimp only)
  k_steps
  have hpf : unit ^ 2 * (w1 * w2) = p2 := by
    rw [← hp2, ← hp1, ← hp0]
    show _ = unit ^ 2 * w1 * w2
    simp only [Int.mul_assoc]
  rw [hpf] at l1 l2
  have l1z : (told * (unit - bound)) ^ Int.toNat 2 ≤ p2 := l1
  have l2z : p2 ≤ (told * (unit + bound)) ^ Int.toNat 2 := l2
  clear l1 l2
  have ub1 : intBits (unit - bound) ≤ 200 := by rw [Int.sub_eq_add_neg]; exact bits_mono (intBits_add_le hub (intBits_neg_le (PySem.intBits_le_64 (k := bound) (by omega) (by omega))))
  have ub2 : intBits (unit + bound) ≤ 200 := bits_mono (intBits_add_le hub (PySem.intBits_le_64 (k := bound) (by omega) (by omega)))
  refine Stop.mk ?_
  refine mul_int ?_ (mul_ok htb ub1)
  k_steps
  refine Stop.mk ?_
  refine pow_int (by decide) (pow_ok (bits_mono (intBits_mul_le htb ub1)) (by decide) (by decide)) ?_
  k_steps
  refine Stop.mk ?_
  refine mul_int ?_ (mul_ok htb ub2)
  k_steps
  refine Stop.mk ?_
  refine pow_int (by decide) (pow_ok (bits_mono (intBits_mul_le htb ub2)) (by decide) (by decide)) ?_
  k_steps
  (try dsimp only)
  exact hret _ _ _ (by k_asm)
theorem t01b : m01.2.1 := by
  unfold m01
  (try dsimp only)
  k_fill
  w_top on
  intros
  dsimp only [List.drop]
  rename Below _ _ _ _ => B0
  rename Top _ _ _ _ _ _ => T0
  rename Frag.In _ _ => X0
  intro M LL KK d1 d2 d3 tM tL tK t1 t2 t3 D0 c0 oM oK m0 s0 Q0 hM hM2 hL hL2 hK hK2 hd1 hd2 hd3 F0 N0 hoM hoK e1 e2 hret
  have F1 := fr_has2 e1 e2 F0
  clear F0 e1 e2
  (try k_sweep)
  have hMb : intBits M ≤ 64 := PySem.intBits_le_64 (by omega) (by omega)
  refine wpAny_execs_cons ?_
  (try dsimp only)
  k_steps
  refine Stop.mk ?_
  refine eval_letter (P := fun w => M / 6 ≤ w ∧ w < 51 * M) ?hl_1 ?hk_1
  case hl_1 =>
    refine wpAny_BinOp ?_
    (try dsimp only)
    k_steps
    refine Stop.mk ?_
    refine floordiv_pos (by decide) (bits_small (b := 6) (by decide) (by decide)) ?_
    k_steps
    refine Stop.mk ?_
    refine floordiv_pos (by decide) (bits_small (b := 7) (by decide) (by decide)) ?_
    k_steps
    refine Stop.mk ?_
    refine mul_int ?_ (row_mul_ok hd1 (PySem.intBits_le_64 (by omega) (by omega)))
    k_steps
    refine Stop.mk ?_
    refine eval_letter (P := fun k => 1 ≤ k ∧ k ≤ 50) ?hm_1 ?hn_1
    case hm_1 =>
      refine wpAny_IfExp ?_
      (try dsimp only)
      k_steps
      all_goals exact ⟨_, _, _, by omega, rfl, rfl⟩
    case hn_1 =>
    intro k9 tk9 tk8 hk9
    (try dsimp only)
    have hkM1 : 0 < k9 * M := Int.mul_pos (by omega) (by omega)
    have hkM2 := Int.mul_le_mul_of_nonneg_right hk9.2 (show 0 ≤ M by omega)
    k_steps
    refine Stop.mk ?_
    refine mul_int ?_ (mul_ok (PySem.intBits_le_64 (by omega) (by omega)) hMb)
    k_steps
    exact ⟨_, _, _, by omega, rfl, rfl⟩
  case hk_1 =>
  intro w1 tw1 tkw1 hw1
  (try dsimp only)
  k_steps
  refine Stop.mk ?_
  refine eval_letter (P := fun w => M / 6 ≤ w ∧ w < 51 * M) ?hl_2 ?hk_2
  case hl_2 =>
    refine wpAny_BinOp ?_
    (try dsimp only)
    k_steps
    refine Stop.mk ?_
    refine floordiv_pos (by decide) (bits_small (b := 6) (by decide) (by decide)) ?_
    k_steps
    refine Stop.mk ?_
    refine floordiv_pos (by decide) (bits_small (b := 7) (by decide) (by decide)) ?_
    k_steps
    refine Stop.mk ?_
    refine mul_int ?_ (row_mul_ok hd2 (PySem.intBits_le_64 (by omega) (by omega)))
    k_steps
    refine Stop.mk ?_
    refine eval_letter (P := fun k => 1 ≤ k ∧ k ≤ 50) ?hm_2 ?hn_2
    case hm_2 =>
      refine wpAny_IfExp ?_
      (try dsimp only)
      k_steps
      all_goals exact ⟨_, _, _, by omega, rfl, rfl⟩
    case hn_2 =>
    intro k9 tk9 tk8 hk9
    (try dsimp only)
    have hkM1 : 0 < k9 * M := Int.mul_pos (by omega) (by omega)
    have hkM2 := Int.mul_le_mul_of_nonneg_right hk9.2 (show 0 ≤ M by omega)
    k_steps
    refine Stop.mk ?_
    refine mul_int ?_ (mul_ok (PySem.intBits_le_64 (by omega) (by omega)) hMb)
    k_steps
    exact ⟨_, _, _, by omega, rfl, rfl⟩
  case hk_2 =>
  intro w2 tw2 tkw2 hw2
  (try dsimp only)
  k_steps
  refine Stop.mk ?_
  refine eval_letter (P := fun w => M / 6 ≤ w ∧ w < 51 * M) ?hl_3 ?hk_3
  case hl_3 =>
    refine wpAny_BinOp ?_
    (try dsimp only)
    k_steps
    refine Stop.mk ?_
    refine floordiv_pos (by decide) (bits_small (b := 6) (by decide) (by decide)) ?_
    k_steps
    refine Stop.mk ?_
    refine floordiv_pos (by decide) (bits_small (b := 7) (by decide) (by decide)) ?_
    k_steps
    refine Stop.mk ?_
    refine mul_int ?_ (row_mul_ok hd3 (PySem.intBits_le_64 (by omega) (by omega)))
    k_steps
    refine Stop.mk ?_
    refine eval_letter (P := fun k => 1 ≤ k ∧ k ≤ 50) ?hm_3 ?hn_3
    case hm_3 =>
      refine wpAny_IfExp ?_
      (try dsimp only)
      k_steps
      all_goals exact ⟨_, _, _, by omega, rfl, rfl⟩
    case hn_3 =>
    intro k9 tk9 tk8 hk9
    (try dsimp only)
    have hkM1 : 0 < k9 * M := Int.mul_pos (by omega) (by omega)
    have hkM2 := Int.mul_le_mul_of_nonneg_right hk9.2 (show 0 ≤ M by omega)
    k_steps
    refine Stop.mk ?_
    refine mul_int ?_ (mul_ok (PySem.intBits_le_64 (by omega) (by omega)) hMb)
    k_steps
    exact ⟨_, _, _, by omega, rfl, rfl⟩
  case hk_3 =>
  intro w3 tw3 tkw3 hw3
  (try dsimp only)
  k_steps
  obtain ⟨R1, hR1, pre1, ⟨ra1, rb1⟩, ⟨xa1, xb1⟩, E1, ea1, eb1, el1, eg1, hv1⟩ := log01 hM hMb hK hK2 hw1.1 hw1.2
  obtain ⟨X1, hX1⟩ : ∃ X, ilogF M w1 KK R1 = X := ⟨_, rfl⟩
  rw [hX1] at ra1 rb1 xa1 xb1 el1 eg1 hv1
  refine Stop.mk ?_
  (with_unfolding_all refine' c_ilogV R1 ?k1_8 ?k2_8 ?k3_8 ?k4_8 ?k5_8 ?kK_8 ?p1_8 ?p2_8 ?p3_8 ?p4_8 ?p5_8 ?p6_8 ?p7_8 ?p8_8 ?p9_8 ?p10_8 ?kd_8 ?ku_8 ?kR_8); (case k1_8 => k_asm); (case k2_8 => k_asm); (case k3_8 => k_asm); (case k4_8 => k_asm); (case k5_8 => k_asm); (case kK_8 => first | exact rfl | assumption); (case p1_8 => omega); (case p2_8 => exact bits_mono hMb); (case p3_8 => omega); (case p4_8 => omega); (case p5_8 => omega); (case p6_8 => exact pre1.go); (case p7_8 => exact pre1.stop); (case p8_8 => exact pre1.y); (case p9_8 => exact pre1.w); (case p10_8 => exact hX1); (case kd_8 => ktr_room); (case ku_8 => ktr_units); (intro t9 h9 tk9 F9 N9); (try dsimp only); (try k_fold)
  clear pre1 hX1
  k_steps
  obtain ⟨R2, hR2, pre2, ⟨ra2, rb2⟩, ⟨xa2, xb2⟩, E2, ea2, eb2, el2, eg2, hv2⟩ := log01 hM hMb hK hK2 hw2.1 hw2.2
  obtain ⟨X2, hX2⟩ : ∃ X, ilogF M w2 KK R2 = X := ⟨_, rfl⟩
  rw [hX2] at ra2 rb2 xa2 xb2 el2 eg2 hv2
  refine Stop.mk ?_
  (with_unfolding_all refine' c_ilogV R2 ?k1_9 ?k2_9 ?k3_9 ?k4_9 ?k5_9 ?kK_9 ?p1_9 ?p2_9 ?p3_9 ?p4_9 ?p5_9 ?p6_9 ?p7_9 ?p8_9 ?p9_9 ?p10_9 ?kd_9 ?ku_9 ?kR_9); (case k1_9 => k_asm); (case k2_9 => k_asm); (case k3_9 => k_asm); (case k4_9 => k_asm); (case k5_9 => k_asm); (case kK_9 => first | exact rfl | assumption); (case p1_9 => omega); (case p2_9 => exact bits_mono hMb); (case p3_9 => omega); (case p4_9 => omega); (case p5_9 => omega); (case p6_9 => exact pre2.go); (case p7_9 => exact pre2.stop); (case p8_9 => exact pre2.y); (case p9_9 => exact pre2.w); (case p10_9 => exact hX2); (case kd_9 => ktr_room); (case ku_9 => ktr_units); (intro t9 h9 tk9 F9 N9); (try dsimp only); (try k_fold)
  clear pre2 hX2
  k_steps
  obtain ⟨R3, hR3, pre3, ⟨ra3, rb3⟩, ⟨xa3, xb3⟩, E3, ea3, eb3, el3, eg3, hv3⟩ := log01 hM hMb hK hK2 hw3.1 hw3.2
  obtain ⟨X3, hX3⟩ : ∃ X, ilogF M w3 KK R3 = X := ⟨_, rfl⟩
  rw [hX3] at ra3 rb3 xa3 xb3 el3 eg3 hv3
  refine Stop.mk ?_
  (with_unfolding_all refine' c_ilogV R3 ?k1_10 ?k2_10 ?k3_10 ?k4_10 ?k5_10 ?kK_10 ?p1_10 ?p2_10 ?p3_10 ?p4_10 ?p5_10 ?p6_10 ?p7_10 ?p8_10 ?p9_10 ?p10_10 ?kd_10 ?ku_10 ?kR_10); (case k1_10 => k_asm); (case k2_10 => k_asm); (case k3_10 => k_asm); (case k4_10 => k_asm); (case k5_10 => k_asm); (case kK_10 => first | exact rfl | assumption); (case p1_10 => omega); (case p2_10 => exact bits_mono hMb); (case p3_10 => omega); (case p4_10 => omega); (case p5_10 => omega); (case p6_10 => exact pre3.go); (case p7_10 => exact pre3.stop); (case p8_10 => exact pre3.y); (case p9_10 => exact pre3.w); (case p10_10 => exact hX3); (case kd_10 => ktr_room); (case ku_10 => ktr_units); (intro t9 h9 tk9 F9 N9); (try dsimp only); (try k_fold)
  clear pre3 hX3
  k_steps
  have G1 : Lg1 M KK w1 X1 E1 := ⟨by omega, xa1, xb1, ea1, eb1, el1, eg1, hv1⟩
  clear xa1 xb1 ea1 eb1 el1 eg1 hv1
  have G2 : Lg1 M KK w2 X2 E2 := ⟨by omega, xa2, xb2, ea2, eb2, el2, eg2, hv2⟩
  clear xa2 xb2 ea2 eb2 el2 eg2 hv2
  have G3 : Lg1 M KK w3 X3 E3 := ⟨by omega, xa3, xb3, ea3, eb3, el3, eg3, hv3⟩
  clear xa3 xb3 ea3 eb3 el3 eg3 hv3
  refine Stop.mk ?_
  (with_unfolding_all refine' c_div ?k1_11 ?k2_11 ?k3_11 ?k4_11 ?k5_11 ?kK_11 ?p1_11 ?p2_11 ?kd_11 ?ku_11 ?kR_11); (case k1_11 => k_asm); (case k2_11 => k_asm); (case k3_11 => k_asm); (case k4_11 => k_asm); (case k5_11 => k_asm); (case kK_11 => first | exact rfl | assumption); (case p1_11 => decide); (case p2_11 => exact bits_small (b := 3) (by decide) (by decide)); (case kd_11 => ktr_room); (case ku_11 => ktr_units); (intro t9 h9 tk9 F9 N9); (try dsimp only); (try k_fold)
  k_steps
  refine Stop.mk ?_
  refine gen_int2 (P := fun x u => wpAny _ _ (storeName _ _ (Value.int x u)) _ _ _) _ _ ?_
  intro v tv hv0
  have e0 : X1 + (X2 + (X3 + 0)) = X1 + X2 + X3 := by omega
  rw [e0] at hv0
  clear e0
  obtain ⟨⟨v1, v2, preV, t0, t2⟩, law⟩ := law01_3 hM hMb hL hL2 G1 G2 G3 hv0
  obtain ⟨told, hto⟩ : ∃ told, iexpF M v LL = told := ⟨_, rfl⟩
  rw [hto] at t0 t2 law
  have htb : intBits told ≤ 100 := bits_abs (b := 2 ^ 27 * M) (k := 100) (by omega) t2 (bits_mono (intBits_mul_le (m := 28) (by decide) hMb))
  clear hv0 G1 G2 G3
  refine storeX_L (by k_asm) (by k_asm) ?_
  intro h' F' N'
  (try dsimp only)
  k_steps
  refine Stop.mk ?_
  (with_unfolding_all refine' c_iexpV ?k1_12 ?k2_12 ?k3_12 ?k4_12 ?k5_12 ?kK_12 ?p1_12 ?p2_12 ?p3_12 ?p4_12 ?p5_12 ?p6_12 ?p7_12 ?p8_12 ?p9_12 ?kd_12 ?ku_12 ?kR_12); (case k1_12 => k_asm); (case k2_12 => k_asm); (case k3_12 => k_asm); (case k4_12 => k_asm); (case k5_12 => k_asm); (case kK_12 => first | exact rfl | assumption); (case p1_12 => omega); (case p2_12 => exact bits_mono hMb); (case p3_12 => omega); (case p4_12 => omega); (case p5_12 => exact preV.b); (case p6_12 => exact preV.r); (case p7_12 => exact preV.e); (case p8_12 => exact preV.d); (case p9_12 => exact hto); (case kd_12 => ktr_room); (case ku_12 => ktr_units); (intro t9 h9 tk9 F9 N9); (try dsimp only); (try k_fold)
  clear preV hto
  k_steps
  refine Stop.mk ?_
  (with_unfolding_all refine' c_halvedV ?k1_13 ?k2_13 ?k3_13 ?k4_13 ?k5_13 ?kK_13 ?p1_13 ?p2_13 ?p3_13 ?p4_13 ?p5_13 ?p6_13 ?kd_13 ?ku_13 ?kR_13); (case k1_13 => k_asm); (case k2_13 => k_asm); (case k3_13 => k_asm); (case k4_13 => k_asm); (case k5_13 => k_asm); (case kK_13 => first | exact rfl | assumption); (case p1_13 => exact hM); (case p2_13 => exact hMb); (case p3_13 => exact hK); (case p4_13 => exact hK2); (case p5_13 => exact rb1); (case p6_13 => exact ra1); (case kd_13 => ktr_room); (case ku_13 => ktr_units); (intro K1 H1 t9 h9 tk9 hH1 ga1 gb1 F9 N9); (try dsimp only); (try k_fold)
  k_steps
  refine Stop.mk ?_
  (with_unfolding_all refine' c_halvedV ?k1_14 ?k2_14 ?k3_14 ?k4_14 ?k5_14 ?kK_14 ?p1_14 ?p2_14 ?p3_14 ?p4_14 ?p5_14 ?p6_14 ?kd_14 ?ku_14 ?kR_14); (case k1_14 => k_asm); (case k2_14 => k_asm); (case k3_14 => k_asm); (case k4_14 => k_asm); (case k5_14 => k_asm); (case kK_14 => first | exact rfl | assumption); (case p1_14 => exact hM); (case p2_14 => exact hMb); (case p3_14 => exact hK); (case p4_14 => exact hK2); (case p5_14 => exact rb2); (case p6_14 => exact ra2); (case kd_14 => ktr_room); (case ku_14 => ktr_units); (intro K2 H2 t9 h9 tk9 hH2 ga2 gb2 F9 N9); (try dsimp only); (try k_fold)
  k_steps
  refine Stop.mk ?_
  (with_unfolding_all refine' c_halvedV ?k1_15 ?k2_15 ?k3_15 ?k4_15 ?k5_15 ?kK_15 ?p1_15 ?p2_15 ?p3_15 ?p4_15 ?p5_15 ?p6_15 ?kd_15 ?ku_15 ?kR_15); (case k1_15 => k_asm); (case k2_15 => k_asm); (case k3_15 => k_asm); (case k4_15 => k_asm); (case k5_15 => k_asm); (case kK_15 => first | exact rfl | assumption); (case p1_15 => exact hM); (case p2_15 => exact hMb); (case p3_15 => exact hK); (case p4_15 => exact hK2); (case p5_15 => exact rb3); (case p6_15 => exact ra3); (case kd_15 => ktr_room); (case ku_15 => ktr_units); (intro K3 H3 t9 h9 tk9 hH3 ga3 gb3 F9 N9); (try dsimp only); (try k_fold)
  k_steps
  refine Stop.mk ?_
  refine floordiv_pos (by decide) (bits_small (b := 3) (by decide) (by decide)) ?_
  k_steps
  refine Stop.mk ?_
  (with_unfolding_all refine' c_doubledV ?k1_16 ?k2_16 ?k3_16 ?k4_16 ?k5_16 ?kK_16 ?p1_16 ?p2_16 ?p3_16 ?p4_16 ?p5_16 ?p6_16 ?kd_16 ?ku_16 ?kR_16); (case k1_16 => k_asm); (case k2_16 => k_asm); (case k3_16 => k_asm); (case k4_16 => k_asm); (case k5_16 => k_asm); (case kK_16 => first | exact rfl | assumption); (case p1_16 => exact hM); (case p2_16 => exact hMb); (case p3_16 => exact hL); (case p4_16 => exact hL2); (case p5_16 => exact v1); (case p6_16 => exact v2); (case kd_16 => ktr_room); (case ku_16 => ktr_units); (intro KD HD t9 h9 tk9 hHD gc gd F9 N9); (try dsimp only); (try k_fold)
  have e0 : H1 + (H2 + (H3 + 0)) = H1 + H2 + H3 := by omega
  obtain ⟨b0, b1, l1, l2⟩ := law H1 H2 H3 K1 K2 K3 KD hH1 hH2 hH3 ga1 gb1 ga2 gb2 ga3 gb3 gc gd
  rw [hHD, ← e0] at b0 b1 l1 l2
  clear law hHD gc gd e0 hH1 ga1 gb1 hH2 ga2 gb2 hH3 ga3 gb3
  k_steps
  refine Stop.mk ?_
  refine gen_int2 (P := fun x u => wpAny _ _ (storeName _ _ (Value.int x u)) _ _ _) _ _ ?_
  intro bound tbd hbd
  rw [hbd] at b0 b1 l1 l2
  clear hbd
  refine storeX_L (by k_asm) (by k_asm) ?_
  intro h' F' N'
  (try dsimp only)
  k_steps
  refine Stop.mk ?_
  refine mul_int ?_ (mul_ok (PySem.intBits_le_64 (k := 10 ^ Int.toNat 6) (by decide) (by decide)) hMb)
  k_steps
  refine Stop.mk ?_
  refine gen_int2 (P := fun x u => wpAny _ _ (storeName _ _ (Value.int x u)) _ _ _) _ _ ?_
  intro unit tu hun
  have hun' : 10 ^ 6 * M = unit := hun
  have hub : intBits unit ≤ 128 := by rw [← hun]; exact intBits_mul_le (m := 64) (PySem.intBits_le_64 (k := 10 ^ Int.toNat 6) (by decide) (by decide)) hMb
  rw [hun'] at l1 l2
  have u0 : 0 < unit := by omega
  clear hun hun'
  refine storeX_L (by k_asm) (by k_asm) ?_
  intro h' F' N'
  (try dsimp only)
  k_steps
  refine Stop.mk ?_
  refine pow_int (by decide) (pow_ok (bits_mono hub) (by decide) (by decide)) ?_
  k_steps
  refine Stop.mk ?_
  refine gen_int2 (P := fun x u => wpAny _ _ (storeName _ _ (Value.int x u)) _ _ _) _ _ ?_
  intro p0 tp0 hp0
  have hp0b : intBits p0 ≤ 500 := by rw [← hp0]; exact Nat.le_trans (pow_bits hub _) (by decide)
  refine storeX_L (by k_asm) (by k_asm) ?_
  intro h' F' N'
  (try dsimp only)
  k_steps
  refine Stop.mk ?_
  k_listUnr
  k_steps
  refine Stop.mk ?_
  refine gen_int2 (P := fun x u => wpAny _ _ (storeName _ _ (Value.int x u)) _ _ _) _ _ ?_
  intro p1 tp1 hp1
  have hp1b : intBits p1 ≤ 564 := by rw [← hp1]; exact intBits_mul_le hp0b (PySem.intBits_le_64 (by omega) (by omega))
  refine storeX_L (by k_asm) (by k_asm) ?_
  intro h' F' N'
  (try dsimp only)
  k_steps
  refine Stop.mk ?_
  refine gen_int2 (P := fun x u => wpAny _ _ (storeName _ _ (Value.int x u)) _ _ _) _ _ ?_
  intro p2 tp2 hp2
  have hp2b : intBits p2 ≤ 628 := by rw [← hp2]; exact intBits_mul_le hp1b (PySem.intBits_le_64 (by omega) (by omega))
  refine storeX_L (by k_asm) (by k_asm) ?_
  intro h' F' N'
  (try dsimp only)
  k_steps
  refine Stop.mk ?_
  refine gen_int2 (P := fun x u => wpAny _ _ (storeName _ _ (Value.int x u)) _ _ _) _ _ ?_
  intro p3 tp3 hp3
  have hp3b : intBits p3 ≤ 692 := by rw [← hp3]; exact intBits_mul_le hp2b (PySem.intBits_le_64 (by omega) (by omega))
  refine storeX_L (by k_asm) (by k_asm) ?_
  intro h' F' N'
  (try dsimp only)
  k_steps
  have hpf : unit ^ 3 * (w1 * w2 * w3) = p3 := by
    rw [← hp3, ← hp2, ← hp1, ← hp0]
    show _ = unit ^ 3 * w1 * w2 * w3
    simp only [Int.mul_assoc]
  rw [hpf] at l1 l2
  have l1z : (told * (unit - bound)) ^ Int.toNat 3 ≤ p3 := l1
  have l2z : p3 ≤ (told * (unit + bound)) ^ Int.toNat 3 := l2
  clear l1 l2
  have ub1 : intBits (unit - bound) ≤ 200 := by rw [Int.sub_eq_add_neg]; exact bits_mono (intBits_add_le hub (intBits_neg_le (PySem.intBits_le_64 (k := bound) (by omega) (by omega))))
  have ub2 : intBits (unit + bound) ≤ 200 := bits_mono (intBits_add_le hub (PySem.intBits_le_64 (k := bound) (by omega) (by omega)))
  refine Stop.mk ?_
  refine mul_int ?_ (mul_ok htb ub1)
  k_steps
  refine Stop.mk ?_
  refine pow_int (by decide) (pow_ok (bits_mono (intBits_mul_le htb ub1)) (by decide) (by decide)) ?_
  k_steps
  refine Stop.mk ?_
  refine mul_int ?_ (mul_ok htb ub2)
  k_steps
  refine Stop.mk ?_
  refine pow_int (by decide) (pow_ok (bits_mono (intBits_mul_le htb ub2)) (by decide) (by decide)) ?_
  k_steps
  (try dsimp only)
  exact hret _ _ _ (by k_asm)
theorem w01 : PySem.Challenge.rw_dm0269_01.Holds := m01.2.2 ⟨t01a⟩ ⟨t01b⟩
end Mine


theorem PySem.Challenge.cw_dm0269_01_holds : PySem.Challenge.rw_dm0269_01.Holds :=
  Mine.w01
