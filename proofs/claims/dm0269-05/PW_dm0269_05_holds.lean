import PyProof.Rows.All
import Wide.All
import OpenK.AllK
import Wide.FinOn
import Lean
import PySem.Challenge.RW_dm0269_05
open PySem PySem.W PyProof.Rows
set_option Elab.async false
set_option maxRecDepth 100000
set_option maxHeartbeats 8000000
set_option linter.all false

namespace Mine
open PySem.Builtin.Int (intBits)

/-- the nearest whole number to a / b, ties to even -/
def divN (a b : Int) : Int := a / b + (if b < 2 * (a % b) + a / b % 2 then 1 else 0)

theorem divN_of {a b : Int} (hb : 0 < b) :
    (a.fdiv b + if decide (b < 2 * a.fmod b + Builtin.bitAnd (a.fdiv b) 1) = true then 1 else 0) = divN a b := by
  rw [Int.fdiv_eq_ediv_of_nonneg _ (Int.le_of_lt hb), Int.fmod_eq_emod_of_nonneg _ (Int.le_of_lt hb), bitAnd_m1]
  simp only [decide_eq_true_eq]
  rfl

theorem noPy {a b : Int} {Z : Prop} (h : intBits b ≤ 9000) : Builtin.divisionGoesByPylong a b = false ∨ Z := by
  refine Or.inl (PyProof.noPylong_of_log2 ?_)
  unfold PySem.Builtin.Int.intBits at h
  by_cases hb : (b == 0) = true
  · have : b = 0 := by simpa using hb
    subst this; decide +kernel
  · rw [if_neg hb] at h; omega

/-! the turn of the Newton loop -/
theorem two_pow_pos (n : Nat) : (0 : Int) < 2 ^ n := Int.pow_pos (by decide)

theorem log_of_bits {a : Int} {k : Nat} (h : intBits a ≤ k) (hk : k ≤ 1900 := by decide) : a.natAbs.log2 < 1920 := by
  unfold PySem.Builtin.Int.intBits at h
  by_cases hb : (a == 0) = true
  · have : a = 0 := by simpa using hb
    subst this; decide +kernel
  · rw [if_neg hb] at h; omega

/-- how many signs a number's text has -/
def digs (M : Int) : Int := ((Str.ofString (toString M)).length : Int)

theorem bits_mono {a : Int} {j k : Nat} (h : intBits a ≤ j) (hk : j ≤ k := by decide) : intBits a ≤ k := Nat.le_trans h hk

/-- a size, told under a name of its own -/
structure Bd (k : Nat) (a : Int) : Prop where
  out : intBits a ≤ k
theorem abs_shl {a n : Int} {k : Nat} (h : intBits a ≤ k) (hn : n ≤ 100000) (hk : k ≤ 100000 := by decide) : (intBits (if a < 0 then -a else a) : Int) + n ≤ 2 ^ 27 := by
  have h2 : intBits (if a < 0 then -a else a) ≤ k := by
    split
    · exact intBits_neg_le h
    · exact h
  have e : (2 : Int) ^ 27 = 134217728 := by decide
  omega
theorem shl_ok {a n : Int} {k : Nat} (h : intBits a ≤ k) (hn : n ≤ 100000) (hk : k ≤ 100000 := by decide) : (intBits a : Int) + n ≤ 2 ^ 27 := by
  have e : (2 : Int) ^ 27 = 134217728 := by decide
  omega
/-- the walk stands still before what is so marked -/
structure Stop (p : Prop) : Prop where
  out : p
theorem mul_ok {a b : Int} {j k : Nat} (ha : intBits a ≤ j) (hb : intBits b ≤ k) (h : j + k ≤ 100000 := by decide) : IntMulOk a b := IntMulOk.of_le ha hb (by omega)

/-- how many terms of the series -/
def tOf (M L : Int) : Int := -((-10 * digs M) / (3 * L))
theorem digs_le {M : Int} {k : Nat} (hk : 0 < k) (h : intBits M ≤ k) : digs M ≤ k + 1 := by
  have h1 : M.natAbs.log2 < k := by
    unfold PySem.Builtin.Int.intBits at h
    by_cases hb : (M == 0) = true
    · have : M = 0 := by simpa using hb
      subst this; exact hk
    · rw [if_neg hb] at h; omega
  have h2 := int_text_length_le hk h1
  unfold digs
  rw [PySem.ofString_length]
  omega
theorem digs_nat (n : Nat) : digs (n : Int) = ((Nat.toDigits 10 n).length : Int) := by
  have h1 : (Str.ofString (toString (n : Int))).length = (Nat.toDigits 10 n).length := by
    rw [PySem.ofString_length]
    show (toString (n : Int)).length = _
    rw [show toString (n : Int) = toString n from rfl]
    show (Nat.repr n).length = _
    unfold Nat.repr
    simp
  unfold digs
  rw [h1]
theorem digs_iff {M : Int} (h0 : 0 ≤ M) {k : Nat} (hk : 0 < k) : digs M ≤ k ↔ M < 10 ^ k := by
  obtain ⟨n, rfl⟩ := Int.eq_ofNat_of_zero_le h0
  rw [digs_nat]
  have h2 := Nat.length_toDigits_le_iff (b := 10) (n := n) (by decide) hk
  constructor
  · intro h
    have h3 := h2.mp (by omega)
    exact_mod_cast h3
  · intro h
    have h3 : n < 10 ^ k := by exact_mod_cast h
    have := h2.mpr h3
    omega
theorem digs_pos {M : Int} (h0 : 0 ≤ M) : 0 < digs M := by
  obtain ⟨n, rfl⟩ := Int.eq_ofNat_of_zero_le h0
  rw [digs_nat]
  have := Nat.length_toDigits_pos (b := 10) (n := n)
  omega
theorem tOf_pos {M L : Int} (h0 : 0 ≤ M) (hL : 0 < L) : 0 < tOf M L := by
  have h1 := digs_pos h0
  unfold tOf
  have : (-10 * digs M) / (3 * L) < 0 := Int.ediv_neg_of_neg_of_pos (by omega) (by omega)
  omega
theorem tOf_le {M L : Int} {k : Nat} (hk : 0 < k) (hM : intBits M ≤ k) (hL : 0 < L) : tOf M L ≤ 10 * (k + 1) := by
  have h1 := digs_le hk hM
  unfold tOf
  have : (-10 * ((k : Int) + 1)) ≤ (-10 * digs M) / (3 * L) := by
    rw [Int.le_ediv_iff_mul_le (by omega)]
    have : (-10 * ((k : Int) + 1)) * (3 * L) ≤ (-10 * ((k : Int) + 1)) * 1 := Int.mul_le_mul_of_nonpos_left (by omega) (by omega)
    omega
  omega

section
variable {prog : Program} {w : World} {A : Around} {E : Value → Shared → Prop} {s : Shared}
theorem len_digs {M : Int} {t : Tok} {Q : Value → Shared → Prop} (hM : intBits M ≤ 1000) (h : Q (.int (digs M) (s.toks + 1)) { s with toks := s.toks + 1 + 1 }) : wpAny (model prog w) A (call (.builtin "len") [.str (Str.ofString (toString M)) t]) Q E s := by
  have h1 := digs_le (by decide) hM
  unfold digs at h1
  exact P.len_str (by omega) h
theorem mod_gen {a b : Int} {t u : Tok} {Q : Value → Shared → Prop} (hb : 0 < b) (h : ∀ r, 0 ≤ r → r < b → Q (.int r s.toks) { s with toks := s.toks + 1 }) : wpAny (model prog w) A (binaryOp .Mod (.int a t) (.int b u)) Q E s :=
  mod_int' (by omega) (h _ (Int.fmod_nonneg_of_pos a hb) (Int.fmod_lt_of_pos a hb))
theorem ne_same {a : Int} {t u : Tok} {Q : Value → Shared → Prop} (h : Q (.bool false) s) : wpAny (model prog w) A (compareOp .NotEq (.int a t) (.int a u)) Q E s := ne_int (by simpa using h)
theorem floordiv_pos {a b : Int} {t u : Tok} {Q : Value → Shared → Prop} (hb : 0 < b) (hb2 : intBits b ≤ 9000) (h : Q (.int (a / b) s.toks) { s with toks := s.toks + 1 }) : wpAny (model prog w) A (binaryOp .FloorDiv (.int a t) (.int b u)) Q E s :=
  floordiv_int (by omega) (by rw [Int.fdiv_eq_ediv_of_nonneg _ (Int.le_of_lt hb)]; exact h) (noPy hb2)
end

theorem bits_small {a : Int} {b : Int} (h : 0 < a) (h2 : a ≤ b) (hb : b ≤ 1000000000 := by decide) : intBits a ≤ 9000 := bits_mono (PySem.intBits_le_64 (by omega) (by omega))
/-- the series of _iexp behind j turns -/
def eS (x Ms T : Int) : Nat → Int
  | 0 => divN x T
  | j + 1 => divN (x * (Ms + eS x Ms T j)) (Ms * (T - 1 - (j : Int)))
/-- the doublings of _iexp behind j turns, of R -/
def dS (M : Int) (R : Nat) (y : Int) : Nat → Int
  | 0 => y
  | j + 1 => divN (dS M R y j * (dS M R y j + M * 2 ^ (R - 1 - j + 2))) (M * 2 ^ (R - 1 - j + 2))
def rOf (M x L : Int) : Nat := intBits ((x * 2 ^ L.toNat) / M)
def iexpY (M x L : Int) : Int := eS x (M * 2 ^ rOf M x L) (tOf M L) (tOf M L - 1).toNat
def iexpF (M x L : Int) : Int := M + dS M (rOf M x L) (iexpY M x L) (rOf M x L)

theorem eS_turn {x Ms T k : Int} {pre : List Int} (hk : k = T - 1 - (pre.length : Int)) : divN (x * (Ms + eS x Ms T pre.length)) (Ms * k) = eS x Ms T (pre ++ [k]).length := by
  rw [List.length_append, List.length_singleton, hk]
  rfl
theorem dS_turn {M y k : Int} {R : Nat} {pre : List Int} (hk : k = (R : Int) - 1 - (pre.length : Int)) (hlt : pre.length < R) : divN (dS M R y pre.length * (dS M R y pre.length + M * 2 ^ (k + 2).toNat)) (M * 2 ^ (k + 2).toNat) = dS M R y (pre ++ [k]).length := by
  rw [List.length_append, List.length_singleton]
  have e : (k + 2).toNat = R - 1 - pre.length + 2 := by omega
  rw [e]
  rfl
theorem two_pow_bits (n : Nat) : intBits ((2 : Int) ^ n) ≤ n + 1 := by
  refine intBits_le_iff.mpr ?_
  rw [Int.natAbs_pow]
  exact Nat.pow_lt_pow_right (by decide) (by omega)
theorem shl_bits {M : Int} {k n c : Nat} (hM : intBits M ≤ k) (h : k + n + 1 ≤ c) : intBits (M * 2 ^ n) ≤ c := Nat.le_trans (intBits_mul_le hM (two_pow_bits n)) (by omega)
theorem shl_pos {M : Int} (hM : 0 < M) (n : Nat) : 0 < M * 2 ^ n := Int.mul_pos hM (two_pow_pos n)
theorem iexpY_of {M x L : Int} {n : Nat} (h : n = (tOf M L - 1).toNat) : eS x (M * 2 ^ rOf M x L) (tOf M L) n = iexpY M x L := by
  subst h; rfl
theorem iexpF_of {M x L : Int} {n : Nat} (h : n = rOf M x L) : M + dS M (rOf M x L) (iexpY M x L) n = iexpF M x L := by
  subst h; rfl

end Mine

namespace Mine
open PySem.Builtin.Int (intBits)

theorem divN_spec {a b : Int} (hb : 0 < b) : -b ≤ 2 * (a - b * divN a b) ∧ 2 * (a - b * divN a b) ≤ b := by
  have h1 := Int.mul_ediv_add_emod a b
  have h2 := Int.emod_nonneg a (by omega : b ≠ 0)
  have h3 := Int.emod_lt_of_pos a hb
  unfold divN
  generalize a / b = q at *
  generalize a % b = r at *
  split
  · have e : b * (q + 1) = b * q + b := by rw [Int.mul_add, Int.mul_one]
    rw [e]
    omega
  · have e : b * (q + 0) = b * q := by rw [Int.add_zero]
    rw [e]
    omega

theorem divN_le {a b c : Int} (hb : 0 < b) (h : 2 * a < b * (2 * c + 1)) : divN a b ≤ c := by
  have h1 := (divN_spec (a := a) hb).1
  generalize divN a b = q at *
  rcases Int.lt_or_le c q with h2 | h2
  · have := Int.mul_le_mul_of_nonneg_left (show c + 1 ≤ q by omega) (Int.le_of_lt hb)
    grind
  · exact h2

theorem le_divN {a b c : Int} (hb : 0 < b) (h : b * (2 * c - 1) < 2 * a) : c ≤ divN a b := by
  have h1 := (divN_spec (a := a) hb).2
  generalize divN a b = q at *
  rcases Int.lt_or_le q c with h2 | h2
  · have := Int.mul_le_mul_of_nonneg_left (show q ≤ c - 1 by omega) (Int.le_of_lt hb)
    grind
  · exact h2

theorem divN_le' {a b c : Int} (hb : 0 < b) (h : a ≤ b * c) : divN a b ≤ c := divN_le hb (by grind)
theorem le_divN' {a b c : Int} (hb : 0 < b) (h : b * c ≤ a) : c ≤ divN a b := le_divN hb (by grind)
termination_by n => n

theorem bits_abs {a b : Int} {k : Nat} (h1 : -b ≤ a) (h2 : a ≤ b) (hb : intBits b ≤ k) : intBits a ≤ k :=
  intBits_le_of_natAbs (y := b) (by omega) hb
theorem bits_lt {a : Int} {k : Nat} (h1 : -(2 ^ k) < a) (h2 : a < 2 ^ k) : intBits a ≤ k := by
  refine intBits_le_iff.mpr ?_
  have e : ((2 ^ k : Nat) : Int) = 2 ^ k := Int.natCast_pow 2 k
  omega
end Mine

namespace Mine
open PySem.Builtin.Int (intBits)

/-- a nearest quotient is no further from nought than what is divided -/
theorem divN_small {a b c : Int} (hb : 0 < b) (h1 : -c ≤ a) (h2 : a ≤ c) : -c ≤ divN a b ∧ divN a b ≤ c := by
  have hc : 0 ≤ c := by omega
  have e : c ≤ b * c := by
    have := Int.mul_le_mul_of_nonneg_right (show 1 ≤ b by omega) hc
    omega
  constructor
  · refine le_divN' hb ?_
    have : b * -c = -(b * c) := Int.mul_neg b c
    omega
  · exact divN_le' hb (by omega)

theorem mul_abs {a b A B : Int} (a1 : -A ≤ a) (a2 : a ≤ A) (b1 : -B ≤ b) (b2 : b ≤ B) : -(A * B) ≤ a * b ∧ a * b ≤ A * B := by
  have h1 := Int.mul_nonneg (show 0 ≤ A - a by omega) (show 0 ≤ B + b by omega)
  have h2 := Int.mul_nonneg (show 0 ≤ A + a by omega) (show 0 ≤ B - b by omega)
  have h3 := Int.mul_nonneg (show 0 ≤ A - a by omega) (show 0 ≤ B - b by omega)
  have h4 := Int.mul_nonneg (show 0 ≤ A + a by omega) (show 0 ≤ B + b by omega)
  constructor <;> grind

theorem divN_abs {a b c : Int} (hb : 0 < b) (h1 : -(c * b) ≤ a) (h2 : a ≤ c * b) : -c ≤ divN a b ∧ divN a b ≤ c :=
  ⟨le_divN' hb (by grind), divN_le' hb (by grind)⟩

/-! _iexp, a distance below the root -/
theorem eS_succ {x Ms T : Int} {j : Nat} : eS x Ms T (j + 1) = divN (x * (Ms + eS x Ms T j)) (Ms * (T - 1 - (j : Int))) := rfl

/-- no sum is further from nought than x, with x * x less than the scale -/
theorem eS_le {x Ms T c : Int} (x1 : -c ≤ x) (x2 : x ≤ c) (hx : c ≤ Ms) (hMs : 0 < Ms) (hT : 1 ≤ T) : ∀ j : Nat, (j : Int) + 2 ≤ T ∨ j = 0 → -c ≤ eS x Ms T j ∧ eS x Ms T j ≤ c
  | 0, _ => divN_small (by omega) x1 x2
  | j + 1, hj => by
    obtain ⟨e1, e2⟩ := eS_le x1 x2 hx hMs hT j (by omega)
    have hc : 0 ≤ c := by omega
    rw [eS_succ]
    generalize eS x Ms T j = y at *
    have hi : 2 ≤ T - 1 - (j : Int) := by omega
    generalize T - 1 - (j : Int) = i at *
    obtain ⟨m1, m2⟩ := mul_abs x1 x2 e1 e2
    have p1 := Int.mul_le_mul_of_nonneg_right x1 (Int.le_of_lt hMs)
    have p2 := Int.mul_le_mul_of_nonneg_right x2 (Int.le_of_lt hMs)
    have p3 := Int.mul_le_mul_of_nonneg_left hx hc
    have p4 := Int.mul_le_mul_of_nonneg_left hi (Int.mul_nonneg hc (Int.le_of_lt hMs))
    exact divN_abs (Int.mul_pos hMs (by omega)) (by grind) (by grind)

theorem dS_succ {M y : Int} {R j : Nat} : dS M R y (j + 1) = divN (dS M R y j * (dS M R y j + M * 2 ^ (R - 1 - j + 2))) (M * 2 ^ (R - 1 - j + 2)) := rfl
theorem two_pow_ge1 (n : Nat) : (1 : Int) ≤ 2 ^ n := two_pow_pos n
/-! without a halving: distances from the root to half as much again -/
end Mine

namespace Mine
namespace Ex

theorem sq_nonneg (a : Rat) : 0 ≤ a * a := by
  rcases Rat.le_total (a := 0) (b := a) with h | h
  · exact Rat.mul_nonneg h h
  · have := Rat.mul_nonneg (show 0 ≤ -a by grind) (show 0 ≤ -a by grind)
    grind

theorem lt_of_not_le {a b : Rat} (h : ¬ a ≤ b) : b < a := Rat.not_le.mp h
theorem le_div {a b c : Rat} (hc : 0 < c) (h : a * c ≤ b) : a ≤ b / c := by
  have e : b / c * c = b := Rat.div_mul_cancel (by grind)
  rcases Classical.em (a ≤ b / c) with x | x
  · exact x
  · have := Rat.mul_lt_mul_of_pos_right (lt_of_not_le x) hc
    grind
theorem div_le {a b c : Rat} (hc : 0 < c) (h : b ≤ a * c) : b / c ≤ a := by
  have e : b / c * c = b := Rat.div_mul_cancel (by grind)
  rcases Classical.em (b / c ≤ a) with x | x
  · exact x
  · have := Rat.mul_lt_mul_of_pos_right (lt_of_not_le x) hc
    grind
theorem le_div_mul {a b c : Rat} (hc : 0 < c) (h : a ≤ b / c) : a * c ≤ b := by
  have e : b / c * c = b := Rat.div_mul_cancel (by grind)
  have := Rat.mul_le_mul_of_nonneg_right h (Rat.le_of_lt hc)
  grind
theorem div_le_mul {a b c : Rat} (hc : 0 < c) (h : b / c ≤ a) : b ≤ a * c := by
  have e : b / c * c = b := Rat.div_mul_cancel (by grind)
  have := Rat.mul_le_mul_of_nonneg_right h (Rat.le_of_lt hc)
  grind
theorem div_mono {a b p : Rat} (hp : 0 < p) (h : a ≤ b) : a / p ≤ b / p := by
  refine div_le hp ?_
  have e : b / p * p = b := Rat.div_mul_cancel (by grind)
  rw [e]
  exact h
theorem div_pos {a b : Rat} (ha : 0 < a) (hb : 0 < b) : 0 < a / b := by
  have := Rat.mul_pos ha (Rat.inv_pos.mpr hb)
  grind
theorem div_nn {a b : Rat} (ha : 0 ≤ a) (hb : 0 < b) : 0 ≤ a / b := le_div hb (by grind)

/-- u to the power 2 ^ n, by squaring -/
def sq : Nat → Rat → Rat
  | 0, u => u
  | n + 1, u => sq n (u * u)

theorem sq_mul (u v : Rat) : ∀ n, sq n (u * v) = sq n u * sq n v := by
  intro n
  induction n generalizing u v with
  | zero => rfl
  | succ n ih =>
    show sq n (u * v * (u * v)) = sq n (u * u) * sq n (v * v)
    rw [← ih]
    congr 1
    grind
theorem sq_one : ∀ n, sq n 1 = 1
  | 0 => rfl
  | n + 1 => by show sq n (1 * 1) = 1; rw [Rat.mul_one]; exact sq_one n
theorem sq_le {u v : Rat} (h0 : 0 ≤ u) (h : u ≤ v) : ∀ n, sq n u ≤ sq n v := by
  intro n
  induction n generalizing u v with
  | zero => exact h
  | succ n ih =>
    refine ih (sq_nonneg u) ?_
    have h1 := Rat.mul_le_mul_of_nonneg_left h h0
    have h2 := Rat.mul_le_mul_of_nonneg_right h (show 0 ≤ v by grind)
    grind
theorem sq_pos {u : Rat} (h : 0 < u) : ∀ n, 0 < sq n u := by
  intro n
  induction n generalizing u with
  | zero => exact h
  | succ n ih => exact ih (Rat.mul_pos h h)
theorem sq_nn {u : Rat} (h : 0 ≤ u) (n : Nat) : 0 ≤ sq n u := by
  have := sq_le (u := 0) (by grind) h n
  have e : ∀ n, sq n 0 = 0 := by
    intro n
    induction n with
    | zero => rfl
    | succ n ih => show sq n (0 * 0) = 0; rw [Rat.zero_mul]; exact ih
  rw [e] at this
  exact this

/-- two to the n, as a rational -/
def P (n : Nat) : Rat := 2 ^ n
theorem P_zero : P 0 = 1 := by unfold P; grind
theorem P_succ (n : Nat) : P (n + 1) = 2 * P n := by unfold P; grind
theorem P_pos : ∀ n, 0 < P n
  | 0 => by rw [P_zero]; decide
  | n + 1 => by rw [P_succ]; have := P_pos n; grind
theorem P_ge : ∀ n : Nat, ((n : Nat) : Rat) + 1 ≤ P n
  | 0 => by rw [P_zero]; grind
  | n + 1 => by
    rw [P_succ]
    have h := P_ge n
    have h2 := P_pos n
    have e : ((n + 1 : Nat) : Rat) = (n : Rat) + 1 := by grind
    rw [e]
    rcases Nat.eq_zero_or_pos n with h0 | h0
    · subst h0; rw [P_zero] at *; grind
    · have : (1 : Rat) ≤ (n : Rat) := by exact_mod_cast h0
      grind
theorem P_mono {m n : Nat} (h : m ≤ n) : P m ≤ P n := by
  obtain ⟨k, rfl⟩ := Nat.le.dest h
  induction k with
  | zero => exact Rat.le_refl
  | succ k ih =>
    have := ih (by omega)
    have := P_pos (m + k)
    have e := P_succ (m + k)
    have e2 : m + (k + 1) = m + k + 1 := by omega
    rw [e2, e]
    grind

theorem arch (q : Rat) : ∃ n : Nat, q < (n : Rat) := by
  refine ⟨(q.ceil + 1).toNat, ?_⟩
  have h1 : q ≤ (q.ceil : Rat) := Rat.le_ceil
  have h2 : q.ceil < (((q.ceil + 1).toNat : Nat) : Int) := by omega
  have h3 : ((q.ceil : Int) : Rat) < ((((q.ceil + 1).toNat : Nat) : Int) : Rat) := by exact_mod_cast h2
  have h4 : ((((q.ceil + 1).toNat : Nat) : Int) : Rat) = (((q.ceil + 1).toNat : Nat) : Rat) := by norm_cast
  grind
theorem archP (q : Rat) : ∃ n : Nat, ∀ m, n ≤ m → q < P m := by
  obtain ⟨n, hn⟩ := arch q
  refine ⟨n, fun m hm => ?_⟩
  have h1 := P_ge n
  have h2 := P_mono hm
  grind
/-- no more than c, if so but for any small part -/
theorem le_of_all {a c B : Rat} (h : ∃ n : Nat, ∀ m, n ≤ m → a ≤ c + B / P m) : a ≤ c := by
  rcases Rat.le_total (a := a) (b := c) with h1 | h1
  · exact h1
  · rcases Classical.em (a = c) with e | e
    · rw [e]; exact Rat.le_refl
    · exfalso
      have hd : 0 < a - c := by
        have := Rat.lt_of_le_of_ne h1 (fun x => e x.symm)
        grind
      obtain ⟨n, hn⟩ := h
      obtain ⟨k, hk⟩ := archP (B / (a - c))
      have h2 := hn (max n k) (by omega)
      have h3 := hk (max n k) (by omega)
      have hp := P_pos (max n k)
      generalize P (max n k) = p at *
      have e1 : B / (a - c) * (a - c) = B := Rat.div_mul_cancel (by grind)
      have e2 : B / p * p = B := Rat.div_mul_cancel (by grind)
      have h4 := Rat.mul_lt_mul_of_pos_right h3 hd
      have h5 := Rat.mul_le_mul_of_nonneg_right (show a - c ≤ B / p by grind) (Rat.le_of_lt hp)
      grind

end Ex
end Mine

namespace Mine
namespace Ex

/-- Bernoulli -/
theorem bern (u : Rat) : ∀ n, 1 + P n * (u - 1) ≤ sq n u := by
  intro n
  induction n generalizing u with
  | zero => rw [P_zero]; show 1 + 1 * (u - 1) ≤ u; grind
  | succ n ih =>
    have h := ih (u * u)
    have h2 := sq_nonneg (u - 1)
    have h3 := Rat.mul_le_mul_of_nonneg_left (show 2 * (u - 1) ≤ u * u - 1 by grind) (Rat.le_of_lt (P_pos n))
    show 1 + P (n + 1) * (u - 1) ≤ sq n (u * u)
    rw [P_succ]
    grind

/-- interest on interest, at 2 ^ n parts -/
def ap (q : Rat) (n : Nat) : Rat := sq n (1 + q / P n)
def Ok (q : Rat) (n : Nat) : Prop := 0 ≤ 1 + q / P n

theorem div_P_succ (q : Rat) (n : Nat) : q / P (n + 1) = q / P n / 2 := by
  rw [P_succ]
  have := P_pos n
  grind
theorem ok_succ {q : Rat} {n : Nat} (h : Ok q n) : Ok q (n + 1) := by
  unfold Ok at *
  rw [div_P_succ]
  grind
theorem ok_mono {q : Rat} {m n : Nat} (h : Ok q m) (hm : m ≤ n) : Ok q n := by
  obtain ⟨k, rfl⟩ := Nat.le.dest hm
  induction k with
  | zero => exact h
  | succ k ih => exact ok_succ (ih (by omega))
theorem ap_succ {q : Rat} {n : Nat} (h : Ok q n) : ap q n ≤ ap q (n + 1) := by
  unfold ap
  show sq n (1 + q / P n) ≤ sq n ((1 + q / P (n + 1)) * (1 + q / P (n + 1)))
  refine sq_le h ?_ n
  rw [div_P_succ]
  have := sq_nonneg (q / P n / 2)
  grind
theorem ap_mono {q : Rat} {m n : Nat} (h : Ok q m) (hm : m ≤ n) : ap q m ≤ ap q n := by
  obtain ⟨k, rfl⟩ := Nat.le.dest hm
  induction k with
  | zero => exact Rat.le_refl
  | succ k ih => exact Rat.le_trans (ih (by omega)) (ap_succ (ok_mono h (by omega)))
/-- from some n on q is less than a small part of 2 ^ n -/
theorem small (q : Rat) {e : Rat} (he : 0 < e) : ∃ n : Nat, ∀ m, n ≤ m → -e < q / P m ∧ q / P m < e := by
  obtain ⟨a, ha⟩ := archP (q / e)
  obtain ⟨b, hb⟩ := archP (-q / e)
  refine ⟨max a b, fun m hm => ?_⟩
  have h1 := ha m (by omega)
  have h2 := hb m (by omega)
  have hp := P_pos m
  generalize P m = p at *
  have e1 : q / e * e = q := Rat.div_mul_cancel (by grind)
  have e2 : -q / e * e = -q := Rat.div_mul_cancel (by grind)
  have e3 : q / p * p = q := Rat.div_mul_cancel (by grind)
  have k1 := Rat.mul_lt_mul_of_pos_right h1 he
  have k2 := Rat.mul_lt_mul_of_pos_right h2 he
  constructor
  · rcases Rat.le_total (a := q / p) (b := -e) with h | h
    · have := Rat.mul_le_mul_of_nonneg_right h (Rat.le_of_lt hp)
      grind
    · rcases Classical.em (q / p = -e) with x | x
      · rw [x] at e3; grind
      · exact Rat.lt_of_le_of_ne h (fun y => x y.symm)
  · rcases Rat.le_total (a := e) (b := q / p) with h | h
    · have := Rat.mul_le_mul_of_nonneg_right h (Rat.le_of_lt hp)
      grind
    · rcases Classical.em (q / p = e) with x | x
      · rw [x] at e3; grind
      · exact Rat.lt_of_le_of_ne h x

/-- exp q is no more than b -/
def EL (q b : Rat) : Prop := ∀ n, Ok q n → ap q n ≤ b
/-- exp q is no less than b -/
def EG (q b : Rat) : Prop := ∀ c, EL q c → b ≤ c

theorem ok_ex (q : Rat) : ∃ n, ∀ m, n ≤ m → Ok q m ∧ 0 < 1 + q / P m := by
  obtain ⟨n, hn⟩ := small q (e := 1) (by decide)
  refine ⟨n, fun m hm => ?_⟩
  have := hn m hm
  unfold Ok
  grind
theorem ap_ge {q : Rat} {n : Nat} : 1 + q ≤ ap q n := by
  have h := bern (1 + q / P n) n
  have hp := P_pos n
  have e : P n * (1 + q / P n - 1) = q := by grind
  unfold ap
  rw [e] at h
  exact h
theorem EL.pos {q b : Rat} (h : EL q b) : 0 < b := by
  obtain ⟨n, hn⟩ := ok_ex q
  obtain ⟨h1, h2⟩ := hn n (Nat.le_refl n)
  have := h n h1
  have := sq_pos h2 n
  unfold ap at *
  grind
theorem EG.le {q a b : Rat} (h : EG q a) (h2 : EL q b) : a ≤ b := h b h2
theorem EL.mono {q b c : Rat} (h : EL q b) (hc : b ≤ c) : EL q c := fun n hn => Rat.le_trans (h n hn) hc
theorem EG.mono {q b c : Rat} (h : EG q b) (hc : c ≤ b) : EG q c := fun d hd => Rat.le_trans hc (h d hd)
theorem EG.one_add (q : Rat) : EG q (1 + q) := fun c hc => by
  obtain ⟨n, hn⟩ := ok_ex q
  exact Rat.le_trans ap_ge (hc n (hn n (Nat.le_refl n)).1)

theorem ap_neg {q : Rat} {n : Nat} (h1 : Ok q n) (h2 : Ok (-q) n) : ap q n * ap (-q) n ≤ 1 := by
  unfold ap Ok at *
  rw [← sq_mul]
  have h3 := Rat.mul_nonneg h1 h2
  have h4 := sq_nonneg (q / P n)
  have := sq_le h3 (show (1 + q / P n) * (1 + -q / P n) ≤ 1 by
    have e : -q / P n = -(q / P n) := by grind
    rw [e]; grind) n
  rwa [sq_one] at this
theorem ap_neg2 {q : Rat} {m n : Nat} (h1 : Ok q m) (h2 : Ok (-q) n) : ap q m * ap (-q) n ≤ 1 := by
  have a1 := ap_mono h1 (show m ≤ max m n by omega)
  have a2 := ap_mono h2 (show n ≤ max m n by omega)
  have a3 := ap_neg (ok_mono h1 (show m ≤ max m n by omega)) (ok_mono h2 (show n ≤ max m n by omega))
  have b1 : 0 ≤ ap q m := sq_nn h1 m
  have b2 : 0 ≤ ap (-q) n := sq_nn h2 n
  have c1 := Rat.mul_le_mul_of_nonneg_right a1 b2
  have c2 := Rat.mul_le_mul_of_nonneg_left a2 (show 0 ≤ ap q (max m n) by grind)
  grind
/-- from below to above -/
theorem EG.neg {q c : Rat} (h : EG q c) (hc : 0 < c) : EL (-q) (1 / c) := fun n hn => by
  have b0 : 0 ≤ ap (-q) n := sq_nn hn n
  refine le_div hc ?_
  rcases Classical.em (ap (-q) n = 0) with e | e
  · rw [e]; grind
  · have b1 : 0 < ap (-q) n := Rat.lt_of_le_of_ne b0 (fun x => e x.symm)
    have h1 : EL q (1 / ap (-q) n) := fun m hm => le_div b1 (ap_neg2 hm hn)
    have h2 := le_div_mul b1 (h _ h1)
    grind
/-- from above to below -/
theorem EL.neg {q b : Rat} (h : EL q b) : EG (-q) (1 / b) := fun c hc => by
  have hb := h.pos
  refine div_le hb ?_
  have hc0 := hc.pos
  obtain ⟨n1, h1⟩ := ok_ex q
  obtain ⟨n2, h2⟩ := ok_ex (-q)
  refine le_of_all (B := q * q) ⟨max n1 n2, fun m hm => ?_⟩
  obtain ⟨o1, p1⟩ := h1 m (by omega)
  obtain ⟨o2, p2⟩ := h2 m (by omega)
  have a1 := h m o1
  have a2 := hc m o2
  have b1 : 0 ≤ ap q m := sq_nn o1 m
  have b2 : 0 ≤ ap (-q) m := sq_nn o2 m
  have hp := P_pos m
  have k : 1 - q * q / P m ≤ ap q m * ap (-q) m := by
    unfold ap
    rw [← sq_mul]
    have := bern ((1 + q / P m) * (1 + -q / P m)) m
    have e : P m * ((1 + q / P m) * (1 + -q / P m) - 1) = -(q * q / P m) := by grind
    rw [e] at this
    grind
  have c1 := Rat.mul_le_mul_of_nonneg_right a1 b2
  have c2 := Rat.mul_le_mul_of_nonneg_left a2 (Rat.le_of_lt hb)
  grind

theorem sq_up {s : Rat} (h0 : 0 ≤ s) {n : Nat} (h : P n * s < 1) : sq n (1 + s) * (1 - P n * s) ≤ 1 := by
  have hp := P_pos n
  have hs : s < 1 := by
    have h1 : (1 : Rat) ≤ P n := by have := P_mono (Nat.zero_le n); rwa [P_zero] at this
    have := Rat.mul_le_mul_of_nonneg_right h1 h0
    grind
  have h1 := bern (1 - s) n
  have h2 : sq n (1 + s) * sq n (1 - s) ≤ 1 := by
    rw [← sq_mul]
    have h3 := sq_nonneg s
    have := sq_le (u := (1 + s) * (1 - s)) (v := 1) (Rat.mul_nonneg (by grind) (by grind)) (by grind) n
    rwa [sq_one] at this
  have h4 : 0 ≤ sq n (1 + s) := sq_nn (by grind) n
  have h5 := Rat.mul_le_mul_of_nonneg_left (show 1 - P n * s ≤ sq n (1 - s) by grind) h4
  grind

theorem EL.add {q r b c : Rat} (h1 : EL q b) (h2 : EL r c) : EL (q + r) (b * c) := fun n hn => by
  have hb := h1.pos
  have hc := h2.pos
  obtain ⟨n1, k1⟩ := small q (e := 1 / 4) (by grind)
  obtain ⟨n2, k2⟩ := small r (e := 1 / 4) (by grind)
  obtain ⟨n3, k3⟩ := ok_ex (q + r)
  -- the size of the cross term
  obtain ⟨D, hD0, hD1, hD2⟩ : ∃ D : Rat, 0 ≤ D ∧ q * r ≤ D ∧ -(q * r) ≤ D := by
    rcases Rat.le_total (a := 0) (b := q * r) with h | h
    · exact ⟨q * r, h, Rat.le_refl, by grind⟩
    · exact ⟨-(q * r), by grind, by grind, Rat.le_refl⟩
  obtain ⟨n4, k4⟩ := archP (2 * D)
  refine le_of_all (B := 2 * D * ap (q + r) n) ⟨max (max n1 n2) (max (max n3 n4) n), fun m hm => ?_⟩
  obtain ⟨q1, q2⟩ := k1 m (by omega)
  obtain ⟨r1, r2⟩ := k2 m (by omega)
  obtain ⟨o3, p3⟩ := k3 m (by omega)
  have d4 := k4 m (by omega)
  have hp := P_pos m
  have hmono := ap_mono hn (show n ≤ m by omega)
  have oq : Ok q m := by unfold Ok; grind
  have or' : Ok r m := by unfold Ok; grind
  have a1 := h1 m oq
  have a2 := h2 m or'
  have hs0 : 0 ≤ 2 * D / P m / P m := div_nn (div_nn (by grind) hp) hp
  have hs1 : P m * (2 * D / P m / P m) = 2 * D / P m := by grind
  have hs2 : 2 * D / P m < 1 := by
    rcases Classical.em (2 * D / P m < 1) with x | x
    · exact x
    · have := le_div_mul hp (Rat.not_lt.mp x)
      grind
  have up := sq_up hs0 (n := m) (by rw [hs1]; exact hs2)
  rw [hs1] at up
  generalize hs : 2 * D / P m / P m = s at *
  -- v ≤ u (1 + s)
  have hu : (1 : Rat) / 2 ≤ (1 + q / P m) * (1 + r / P m) := by
    have := Rat.mul_le_mul_of_nonneg_left (show (3 : Rat) / 4 ≤ 1 + r / P m by grind) (show 0 ≤ 1 + q / P m by grind)
    grind
  have hv : 1 + (q + r) / P m ≤ (1 + q / P m) * (1 + r / P m) * (1 + s) := by
    have t1 := Rat.mul_le_mul_of_nonneg_right hu hs0
    have t2 : -(q * r) / P m / P m ≤ D / P m / P m := div_mono hp (div_mono hp hD2)
    have t3 : D / P m / P m = s / 2 := by rw [← hs]; grind
    have t4 : 1 + (q + r) / P m = (1 + q / P m) * (1 + r / P m) + -(q * r) / P m / P m := by grind
    rw [t4]
    grind
  have b1 : ap (q + r) m ≤ ap q m * ap r m * sq m (1 + s) := by
    have := sq_le o3 hv m
    rw [sq_mul, sq_mul] at this
    exact this
  have x1 : 0 ≤ ap q m := sq_nn oq m
  have x2 : 0 ≤ ap r m := sq_nn or' m
  have x3 : 0 ≤ sq m (1 + s) := sq_nn (by grind) m
  have c1 := Rat.mul_le_mul_of_nonneg_right a1 x2
  have c2 := Rat.mul_le_mul_of_nonneg_left a2 (Rat.le_of_lt hb)
  have c3 := Rat.mul_le_mul_of_nonneg_right (show ap q m * ap r m ≤ b * c by grind) x3
  have c4 : ap (q + r) m ≤ b * c * sq m (1 + s) := Rat.le_trans b1 c3
  have c5 := Rat.mul_le_mul_of_nonneg_right c4 (show 0 ≤ 1 - 2 * D / P m by grind)
  have c6 := Rat.mul_le_mul_of_nonneg_left up (Rat.le_of_lt (Rat.mul_pos hb hc))
  have c7 := Rat.mul_le_mul_of_nonneg_right hmono (show 0 ≤ 1 - 2 * D / P m by grind)
  have e : 2 * D * ap (q + r) n / P m = ap (q + r) n * (2 * D / P m) := by grind
  rw [e]
  grind

theorem EG.add {q r b c : Rat} (h1 : EG q b) (h2 : EG r c) (hc : 0 < c) : EG (q + r) (b * c) := fun d hd => by
  have h3 := EL.add hd (h2.neg hc)
  have e : q + r + -r = q := by grind
  rw [e] at h3
  have := h1 _ h3
  have e2 : d * (1 / c) = d / c := by grind
  rw [e2] at this
  exact le_div_mul hc this

theorem ap_q_mono {q r : Rat} (h : q ≤ r) {n : Nat} (hn : Ok q n) : ap q n ≤ ap r n := by
  refine sq_le hn ?_ n
  have hp := P_pos n
  have : q / P n ≤ r / P n := div_mono hp h
  grind
theorem EL.exp_mono {q r b : Rat} (h : EL r b) (hq : q ≤ r) : EL q b := fun n hn => by
  have hp := P_pos n
  have : q / P n ≤ r / P n := div_mono hp hq
  exact Rat.le_trans (ap_q_mono hq hn) (h n (by unfold Ok at *; grind))
theorem EG.exp_mono {q r b : Rat} (h : EG q b) (hq : q ≤ r) : EG r b := fun c hc => h c (hc.exp_mono hq)
theorem EL.zero : EL 0 1 := fun n _ => by
  unfold ap
  have e : (1 : Rat) + 0 / P n = 1 := by have := P_pos n; grind
  rw [e, sq_one]
  exact Rat.le_refl
theorem EG.zero : EG 0 1 := by have := EG.one_add 0; rwa [Rat.add_zero] at this
theorem EL.inv {x : Rat} (h : x < 1) : EL x (1 / (1 - x)) := by
  have h1 := EG.one_add (-x)
  have h2 := EG.neg h1 (by grind)
  have e : - -x = x := by grind
  have e2 : 1 + -x = 1 - x := by grind
  rwa [e, e2] at h2
/-- closing -/
theorem EL.of_all {q b B : Rat} (h : ∃ n : Nat, ∀ m, n ≤ m → EL q (b + B / P m)) : EL q b := fun k hk => by
  obtain ⟨n, hn⟩ := h
  exact le_of_all ⟨n, fun m hm => hn m hm k hk⟩
theorem EG.of_all {q b B : Rat} (h : ∃ n : Nat, ∀ m, n ≤ m → EG q (b - B / P m)) : EG q b := fun c hc => by
  obtain ⟨n, hn⟩ := h
  refine le_of_all (B := B) ⟨n, fun m hm => ?_⟩
  have := hn m hm c hc
  grind
theorem EL.quad {x : Rat} (h : x ≤ 1 / 2) : EL x (1 + x + 2 * (x * x)) := by
  refine (EL.inv (by grind)).mono (div_le (by grind) ?_)
  have := sq_nonneg x
  have := Rat.mul_le_mul_of_nonneg_right (show 0 ≤ 1 - 2 * x by grind) this
  grind

end Ex
end Mine

namespace Mine
namespace Ex

theorem pow_up {s : Rat} (h0 : 0 ≤ s) : ∀ n : Nat, (1 + s) ^ n * (1 - (n : Rat) * s) ≤ 1
  | 0 => by
    have e : ((0 : Nat) : Rat) = 0 := rfl
    rw [Rat.pow_zero, e]; grind
  | n + 1 => by
    have ih := pow_up h0 n
    have e : ((n + 1 : Nat) : Rat) = (n : Rat) + 1 := by grind
    rw [Rat.pow_succ, e]
    have hn : (0 : Rat) ≤ (n : Rat) := by exact_mod_cast Nat.zero_le n
    have hp : 0 < (1 + s) ^ n := Rat.pow_pos (by grind)
    generalize (1 + s) ^ n = u at *
    generalize (n : Rat) = k at *
    have h1 := Rat.mul_nonneg h0 h0
    have h2 := Rat.mul_nonneg (Rat.mul_nonneg hn h1) (Rat.le_of_lt hp)
    have h3 := Rat.mul_nonneg h1 (Rat.le_of_lt hp)
    grind
theorem pow_dn {s : Rat} (h0 : 0 ≤ s) (h1 : s ≤ 1) : ∀ n : Nat, 1 - (n : Rat) * s ≤ (1 - s) ^ n
  | 0 => by
    have e : ((0 : Nat) : Rat) = 0 := rfl
    rw [Rat.pow_zero, e]; grind
  | n + 1 => by
    have ih := pow_dn h0 h1 n
    have e : ((n + 1 : Nat) : Rat) = (n : Rat) + 1 := by grind
    rw [Rat.pow_succ, e]
    have hn : (0 : Rat) ≤ (n : Rat) := by exact_mod_cast Nat.zero_le n
    have h2 := Rat.mul_le_mul_of_nonneg_right ih (show 0 ≤ 1 - s by grind)
    have h3 := Rat.mul_nonneg hn (Rat.mul_nonneg h0 h0)
    generalize (1 - s) ^ n = u at *
    generalize (n : Rat) = k at *
    grind
theorem pow_nn {u : Rat} (h : 0 ≤ u) (n : Nat) : 0 ≤ u ^ n := by
  induction n with
  | zero => rw [Rat.pow_zero]; decide
  | succ n ih => rw [Rat.pow_succ]; exact Rat.mul_nonneg ih h
theorem P_cast (n : Nat) : P n = ((2 ^ n : Nat) : Rat) := by
  induction n with
  | zero => rw [P_zero]; rfl
  | succ n ih =>
    rw [P_succ, ih, Nat.pow_succ]
    have : ((2 ^ n * 2 : Nat) : Rat) = ((2 ^ n : Nat) : Rat) * 2 := by grind
    rw [this]; grind

theorem div_self1 {x : Rat} (h : 0 < x) : x / x * 1 = 1 := by grind
theorem tele {a b c u v : Rat} (ha : 0 < a) (hc : 0 < c) : a / c * u * (b / a * v) = b / c * (u * v) := by grind
theorem tele2 (a b c : Rat) : a - c + (b - a) = b - c := by grind
theorem sub_self' (a : Rat) : a - a = 0 := by grind

/-- f has the slope f' on 0 .. X, but for a square of the way; all bounded -/
structure Sm (X B C : Rat) (f f' : Rat → Rat) : Prop where
  b0 : 0 ≤ B
  c0 : 0 ≤ C
  lo : ∀ t, 0 ≤ t → t ≤ X → -B ≤ f t
  hi : ∀ t, 0 ≤ t → t ≤ X → f t ≤ B
  lo' : ∀ t, 0 ≤ t → t ≤ X → -B ≤ f' t
  hi' : ∀ t, 0 ≤ t → t ≤ X → f' t ≤ B
  dn : ∀ t h, 0 ≤ t → 0 ≤ h → t + h ≤ X → f t + h * f' t - C * (h * h) ≤ f (t + h)
  up : ∀ t h, 0 ≤ t → 0 ≤ h → t + h ≤ X → f (t + h) ≤ f t + h * f' t + C * (h * h)

theorem step_sum {X h : Rat} {i : Nat} (h0 : 0 ≤ h) (hi : ((i + 1 : Nat) : Rat) * h ≤ X) : 0 ≤ (i : Rat) * h ∧ (i : Rat) * h + h ≤ X ∧ (i : Rat) * h + h = ((i + 1 : Nat) : Rat) * h := by
  have e : ((i + 1 : Nat) : Rat) = (i : Rat) + 1 := by grind
  have hn : (0 : Rat) ≤ (i : Rat) := by exact_mod_cast Nat.zero_le i
  have h1 := Rat.mul_nonneg hn h0
  rw [e] at *
  refine ⟨h1, by grind, by grind⟩

theorem up_steps {X h D : Rat} {f g : Rat → Rat} (h0 : 0 ≤ h) (hD : 0 ≤ D) (hg : ∀ t, 0 ≤ t → t ≤ X → 0 < g t)
    (st : ∀ t, 0 ≤ t → t + h ≤ X → EL (f (t + h) - f t) (g (t + h) / g t * (1 + D * (h * h)))) (hX : 0 ≤ X) :
    ∀ i : Nat, (i : Rat) * h ≤ X → EL (f ((i : Rat) * h) - f 0) (g ((i : Rat) * h) / g 0 * (1 + D * (h * h)) ^ i)
  | 0, _ => by
    have e : ((0 : Nat) : Rat) * h = 0 := by have : ((0 : Nat) : Rat) = 0 := rfl; rw [this]; grind
    rw [e, Rat.pow_zero]
    have hp := hg 0 Rat.le_refl hX
    rw [sub_self', div_self1 hp]
    exact EL.zero
  | i + 1, hi => by
    obtain ⟨s1, s2, s3⟩ := step_sum h0 hi
    have ih := up_steps h0 hD hg st hX i (by grind)
    have k := st ((i : Rat) * h) s1 s2
    rw [s3] at k
    have r := EL.add ih k
    have p0 := hg 0 Rat.le_refl hX
    have p1 := hg ((i : Rat) * h) s1 (by grind)
    generalize ((i + 1 : Nat) : Rat) * h = b at *
    generalize (i : Rat) * h = a at *
    rw [tele2, tele p1 p0, ← Rat.pow_succ] at r
    exact r

theorem dn_steps {X h D : Rat} {f g : Rat → Rat} (h0 : 0 ≤ h) (hD : 0 < 1 - D * (h * h)) (hg : ∀ t, 0 ≤ t → t ≤ X → 0 < g t)
    (st : ∀ t, 0 ≤ t → t + h ≤ X → EG (f (t + h) - f t) (g (t + h) / g t * (1 - D * (h * h)))) (hX : 0 ≤ X) :
    ∀ i : Nat, (i : Rat) * h ≤ X → EG (f ((i : Rat) * h) - f 0) (g ((i : Rat) * h) / g 0 * (1 - D * (h * h)) ^ i)
  | 0, _ => by
    have e : ((0 : Nat) : Rat) * h = 0 := by have : ((0 : Nat) : Rat) = 0 := rfl; rw [this]; grind
    rw [e, Rat.pow_zero]
    have hp := hg 0 Rat.le_refl hX
    rw [sub_self', div_self1 hp]
    exact EG.zero
  | i + 1, hi => by
    obtain ⟨s1, s2, s3⟩ := step_sum h0 hi
    have ih := dn_steps h0 hD hg st hX i (by grind)
    have k := st ((i : Rat) * h) s1 s2
    rw [s3] at k
    have p0 := hg 0 Rat.le_refl hX
    have p1 := hg ((i : Rat) * h) s1 (by grind)
    have p2 := hg (((i + 1 : Nat) : Rat) * h) (by grind) hi
    have r := EG.add ih k (Rat.mul_pos (div_pos p2 p1) hD)
    generalize ((i + 1 : Nat) : Rat) * h = b at *
    generalize (i : Rat) * h = a at *
    rw [tele2, tele p1 p0, ← Rat.pow_succ] at r
    exact r

end Ex
end Mine

namespace Mine
namespace Ex

theorem lt_lt_le {a b c : Rat} (h : a < b) (h2 : b ≤ c) : a < c := by grind
theorem par1 {D X p : Rat} (hp : 0 < p) : p * (D * (X / p * (X / p))) = D * (X * X) / p := by grind
theorem par2 {X p : Rat} (hp : 0 < p) : p * (X / p) = X := by grind
theorem par3 {X p : Rat} (hp : 0 < p) (h : X < p) : X / p ≤ 1 := div_le hp (by grind)
theorem par4 {X p K : Rat} (hp : 0 < p) (h : 2 * X * K < p) : X / p * K ≤ 1 / 2 := by
  have e : X / p * K = X * K / p := by grind
  rw [e]
  exact div_le hp (by grind)
theorem par5 {q p : Rat} (hp : 0 < p) (h : 2 * q < p) : q / p ≤ 1 / 2 := div_le hp (by grind)
theorem par6 (r q p : Rat) : 2 * r * q / p = r * (2 * (q / p)) := by grind
theorem par7 (r q p : Rat) : r * q / p = r * (q / p) := by grind
theorem par8 {u q : Rat} (hq0 : 0 ≤ q) (hq1 : q ≤ 1 / 2) (pu : u * (1 - q) ≤ 1) : u ≤ 1 + 2 * q := by
  rcases Classical.em (u ≤ 1 + 2 * q) with x | x
  · exact x
  · have y := Rat.mul_lt_mul_of_pos_right (lt_of_not_le x) (show 0 < 1 - q by grind)
    have z := Rat.mul_nonneg hq0 (show 0 ≤ 1 - 2 * q by grind)
    grind
theorem par9 {h f' B C : Rat} (h0 : 0 ≤ h) (h1 : h ≤ 1) (hC : 0 ≤ C) (f2 : f' ≤ B) (hh : h * (B + C) ≤ 1 / 2) : h * f' + C * (h * h) ≤ 1 / 2 := by
  have x1 := Rat.mul_le_mul_of_nonneg_left f2 h0
  have x2 := Rat.mul_le_mul_of_nonneg_left h1 (Rat.mul_nonneg hC h0)
  grind
theorem par10 {a b c d : Rat} (h : a ≤ b + c + d) : a - b ≤ c + d := by grind
theorem par11 {a b c d : Rat} (h : b + c - d ≤ a) : c - d ≤ a - b := by grind
theorem par12 {r u q : Rat} (hr : 0 < r) (h : u ≤ 1 + 2 * q) : r * u ≤ r + r * (2 * q) := by
  have := Rat.mul_le_mul_of_nonneg_left h (Rat.le_of_lt hr)
  grind
theorem par13 {r u q : Rat} (hr : 0 < r) (h : 1 - q ≤ u) : r - r * q ≤ r * u := by
  have := Rat.mul_le_mul_of_nonneg_left h (Rat.le_of_lt hr)
  grind
theorem par14 {a b : Rat} (ha : 0 ≤ a) (hb : 0 ≤ b) : 0 ≤ a + b := by grind
theorem par15 {s p : Rat} (h1 : 1 ≤ p) (hs : 0 ≤ s) (h : p * s ≤ 1 / 2) : s ≤ 1 / 2 ∧ 0 < 1 - s := by
  have := Rat.mul_le_mul_of_nonneg_right h1 hs
  grind
theorem P_ge1 (m : Nat) : (1 : Rat) ≤ P m := by have := P_mono (Nat.zero_le m); rwa [P_zero] at this

/-- the arithmetic of one step, upwards -/
theorem step_up_arith {B C γ h f' g g' g2 s : Rat} (hB : 0 ≤ B) (hC : 0 ≤ C) (hγ : 0 < γ) (h0 : 0 ≤ h) (h1 : h ≤ 1)
    (f1 : -B ≤ f') (f2 : f' ≤ B) (g1 : γ ≤ g) (g3 : g ≤ B) (g4 : γ ≤ g2) (hd : f' * g ≤ g') (hg : g + h * g' - C * (h * h) ≤ g2) (hs : s = h * f' + C * (h * h)) :
    1 + s + 2 * (s * s) ≤ g2 / g * (1 + (C + (C + 2 * ((B + C) * (B + C))) * B) / γ * (h * h)) := by
  have hg0 : 0 < g := by grind
  have hh : 0 ≤ h * h := Rat.mul_nonneg h0 h0
  -- s * s ≤ (h (B + C)) ^ 2
  have a1 : -(h * (B + C)) ≤ s := by
    have x1 := Rat.mul_le_mul_of_nonneg_left f1 h0
    have x2 := Rat.mul_nonneg hC hh
    have x3 := Rat.mul_nonneg h0 hC
    grind
  have a2 : s ≤ h * (B + C) := by
    have x1 := Rat.mul_le_mul_of_nonneg_left f2 h0
    have x2 := Rat.mul_le_mul_of_nonneg_left h1 (Rat.mul_nonneg hC h0)
    grind
  have a3 : s * s ≤ h * h * ((B + C) * (B + C)) := by
    have := Rat.mul_nonneg (show 0 ≤ h * (B + C) - s by grind) (show 0 ≤ h * (B + C) + s by grind)
    grind
  -- times g
  have b1 : (1 + s + 2 * (s * s)) * g ≤ g2 + (C + (C + 2 * ((B + C) * (B + C))) * B) * (h * h) := by
    have x1 := Rat.mul_le_mul_of_nonneg_right a3 (Rat.le_of_lt hg0)
    have x2 := Rat.mul_le_mul_of_nonneg_left hd h0
    have x3 := Rat.mul_le_mul_of_nonneg_left g3 (Rat.mul_nonneg hh (show 0 ≤ C + 2 * ((B + C) * (B + C)) by
      have := sq_nonneg (B + C); grind))
    rw [hs] at *
    grind
  have b2 : (C + (C + 2 * ((B + C) * (B + C))) * B) * (h * h) ≤ g2 * ((C + (C + 2 * ((B + C) * (B + C))) * B) / γ * (h * h)) := by
    have k0 : 0 ≤ C + (C + 2 * ((B + C) * (B + C))) * B := by
      have x1 := sq_nonneg (B + C)
      have x2 := Rat.mul_nonneg (show 0 ≤ C + 2 * ((B + C) * (B + C)) by grind) hB
      grind
    generalize C + (C + 2 * ((B + C) * (B + C))) * B = K at *
    have x1 := Rat.mul_nonneg (div_nn k0 hγ) hh
    have x2 := Rat.mul_le_mul_of_nonneg_right g4 x1
    have e : γ * (K / γ * (h * h)) = K * (h * h) := by grind
    rw [e] at x2
    exact x2
  generalize (C + (C + 2 * ((B + C) * (B + C))) * B) / γ * (h * h) = w at *
  have e : g2 / g * (1 + w) = g2 * (1 + w) / g := by grind
  rw [e]
  refine le_div hg0 ?_
  grind

theorem step_dn_arith {B C γ h f' g g' g2 s : Rat} (hB : 0 ≤ B) (hC : 0 ≤ C) (hγ : 0 < γ) (h0 : 0 ≤ h)
    (g1 : γ ≤ g) (g3 : g ≤ B) (g4 : γ ≤ g2) (hd : g' ≤ f' * g) (hg : g2 ≤ g + h * g' + C * (h * h)) (hs : s = h * f' - C * (h * h)) :
    g2 / g * (1 - (C + C * B) / γ * (h * h)) ≤ 1 + s := by
  have hg0 : 0 < g := by grind
  have hh : 0 ≤ h * h := Rat.mul_nonneg h0 h0
  have b1 : g2 - (C + C * B) * (h * h) ≤ (1 + s) * g := by
    have x2 := Rat.mul_le_mul_of_nonneg_left hd h0
    have x3 := Rat.mul_le_mul_of_nonneg_left g3 (Rat.mul_nonneg hC hh)
    rw [hs]
    grind
  have b2 : (C + C * B) * (h * h) ≤ g2 * ((C + C * B) / γ * (h * h)) := by
    have k0 : 0 ≤ C + C * B := by have := Rat.mul_nonneg hC hB; grind
    generalize C + C * B = K at *
    have x1 := Rat.mul_nonneg (div_nn k0 hγ) hh
    have x2 := Rat.mul_le_mul_of_nonneg_right g4 x1
    have e : γ * (K / γ * (h * h)) = K * (h * h) := by grind
    rw [e] at x2
    exact x2
  generalize (C + C * B) / γ * (h * h) = w at *
  have e : g2 / g * (1 - w) = g2 * (1 - w) / g := by grind
  rw [e]
  refine div_le hg0 ?_
  grind

/-- f' g ≤ g' : exp of the rise of f is no more than the ratio of g -/
theorem cmp_up {X B C γ : Rat} {f f' g g' : Rat → Rat} (hX : 0 ≤ X) (F : Sm X B C f f') (G : Sm X B C g g') (hγ : 0 < γ) (hg : ∀ t, 0 ≤ t → t ≤ X → γ ≤ g t)
    (hd : ∀ t, 0 ≤ t → t ≤ X → f' t * g t ≤ g' t) : EL (f X - f 0) (g X / g 0) := by
  have hB := F.b0
  have hC := F.c0
  have hK : 0 ≤ C + (C + 2 * ((B + C) * (B + C))) * B := by
    have x1 := sq_nonneg (B + C)
    have x2 := Rat.mul_nonneg (show 0 ≤ C + 2 * ((B + C) * (B + C)) by clear hd hg; grind) hB
    exact par14 hC x2
  have hD := div_nn hK hγ
  have arith := fun h (h0 : 0 ≤ h) (h1 : h ≤ 1) t t0 t2 t1 hh => step_up_arith (s := h * f' t + C * (h * h)) hB hC hγ h0 h1 (F.lo' t t0 t2) (F.hi' t t0 t2) (hg t t0 t2) (G.hi t t0 t2) (hg (t + h) hh t1) (hd t t0 t2) (G.dn t h t0 h0 t1) rfl
  generalize (C + (C + 2 * ((B + C) * (B + C))) * B) / γ = D at *
  have hgp : ∀ t, 0 ≤ t → t ≤ X → 0 < g t := fun t h1 h2 => lt_lt_le hγ (hg t h1 h2)
  obtain ⟨n1, k1⟩ := archP (2 * X * (B + C))
  obtain ⟨n2, k2⟩ := archP X
  obtain ⟨n3, k3⟩ := archP (2 * (D * (X * X)))
  refine EL.of_all (B := 2 * (g X / g 0) * (D * (X * X))) ⟨max n1 (max n2 n3), fun m hm => ?_⟩
  have m1 := k1 m (by omega)
  have m2 := k2 m (by omega)
  have m3 := k3 m (by omega)
  have hp := P_pos m
  have hh0 : 0 ≤ X / P m := div_nn hX hp
  have hh1 : X / P m ≤ 1 := par3 hp m2
  have hh2 : X / P m * (B + C) ≤ 1 / 2 := par4 hp m1
  have st : ∀ t, 0 ≤ t → t + X / P m ≤ X → EL (f (t + X / P m) - f t) (g (t + X / P m) / g t * (1 + D * (X / P m * (X / P m)))) := by
    intro t t0 t1
    have t3 : 0 ≤ t + X / P m := par14 t0 hh0
    have t2 : t ≤ X := by clear hd hg hgp arith k1 k2 k3 hm; grind
    refine EL.mono ?_ (arith _ hh0 hh1 t t0 t2 t1 t3)
    exact EL.exp_mono (EL.quad (par9 hh0 hh1 hC (F.hi' t t0 t2) hh2)) (par10 (F.up t (X / P m) t0 hh0 t1))
  have key := up_steps hh0 hD hgp st hX (2 ^ m)
  rw [← P_cast, par2 hp] at key
  refine (key Rat.le_refl).mono ?_
  have pu := pow_up (s := D * (X / P m * (X / P m))) (Rat.mul_nonneg hD (Rat.mul_nonneg hh0 hh0)) (2 ^ m)
  rw [← P_cast, par1 hp] at pu
  have hq0 : 0 ≤ D * (X * X) / P m := div_nn (Rat.mul_nonneg hD (Rat.mul_nonneg hX hX)) hp
  have hq1 : D * (X * X) / P m ≤ 1 / 2 := par5 hp m3
  have hr0 : 0 < g X / g 0 := div_pos (hgp X hX Rat.le_refl) (hgp 0 Rat.le_refl hX)
  rw [par6]
  exact par12 hr0 (par8 hq0 hq1 pu)

/-- g' ≤ f' g : exp of the rise of f is no less than the ratio of g -/
theorem cmp_dn {X B C γ : Rat} {f f' g g' : Rat → Rat} (hX : 0 ≤ X) (F : Sm X B C f f') (G : Sm X B C g g') (hγ : 0 < γ) (hg : ∀ t, 0 ≤ t → t ≤ X → γ ≤ g t)
    (hd : ∀ t, 0 ≤ t → t ≤ X → g' t ≤ f' t * g t) : EG (f X - f 0) (g X / g 0) := by
  have hB := F.b0
  have hC := F.c0
  have hK : 0 ≤ C + C * B := par14 hC (Rat.mul_nonneg hC hB)
  have hD := div_nn hK hγ
  have arith := fun h (h0 : 0 ≤ h) t t0 t2 t1 hh => step_dn_arith (s := h * f' t - C * (h * h)) hB hC hγ h0 (hg t t0 t2) (G.hi t t0 t2) (hg (t + h) hh t1) (hd t t0 t2) (G.up t h t0 h0 t1) rfl
  generalize (C + C * B) / γ = D at *
  have hgp : ∀ t, 0 ≤ t → t ≤ X → 0 < g t := fun t h1 h2 => lt_lt_le hγ (hg t h1 h2)
  obtain ⟨n3, k3⟩ := archP (2 * (D * (X * X)))
  refine EG.of_all (B := (g X / g 0) * (D * (X * X))) ⟨n3, fun m hm => ?_⟩
  have m3 := k3 m (by omega)
  have hp := P_pos m
  have hh0 : 0 ≤ X / P m := div_nn hX hp
  have st : ∀ t, 0 ≤ t → t + X / P m ≤ X → EG (f (t + X / P m) - f t) (g (t + X / P m) / g t * (1 - D * (X / P m * (X / P m)))) := by
    intro t t0 t1
    have t3 : 0 ≤ t + X / P m := par14 t0 hh0
    have t2 : t ≤ X := by clear hd hg hgp arith k3 hm; grind
    refine EG.mono ?_ (arith _ hh0 t t0 t2 t1 t3)
    exact EG.exp_mono (EG.one_add _) (par11 (F.dn t (X / P m) t0 hh0 t1))
  have hq0 : 0 ≤ D * (X * X) / P m := div_nn (Rat.mul_nonneg hD (Rat.mul_nonneg hX hX)) hp
  have hq1 : D * (X * X) / P m ≤ 1 / 2 := par5 hp m3
  have hs0 : 0 ≤ D * (X / P m * (X / P m)) := Rat.mul_nonneg hD (Rat.mul_nonneg hh0 hh0)
  obtain ⟨hs1, hs2⟩ := par15 (P_ge1 m) hs0 (by rw [par1 hp]; exact hq1)
  have key := dn_steps hh0 hs2 hgp st hX (2 ^ m)
  rw [← P_cast, par2 hp] at key
  refine (key Rat.le_refl).mono ?_
  have pd := pow_dn hs0 (by clear hd hg hgp arith k3 hm st key; grind) (2 ^ m)
  rw [← P_cast, par1 hp] at pd
  have hr0 : 0 < g X / g 0 := div_pos (hgp X hX Rat.le_refl) (hgp 0 Rat.le_refl hX)
  rw [par7]
  exact par13 hr0 pd

end Ex
end Mine

namespace Mine
namespace Ex

def Smooth (X : Rat) (f f' : Rat → Rat) : Prop := ∃ B C, Sm X B C f f'

theorem Sm.mono {X B C B' C' : Rat} {f f' : Rat → Rat} (S : Sm X B C f f') (hB : B ≤ B') (hC : C ≤ C') : Sm X B' C' f f' where
  b0 := Rat.le_trans S.b0 hB
  c0 := Rat.le_trans S.c0 hC
  lo t h1 h2 := by have := S.lo t h1 h2; grind
  hi t h1 h2 := by have := S.hi t h1 h2; grind
  lo' t h1 h2 := by have := S.lo' t h1 h2; grind
  hi' t h1 h2 := by have := S.hi' t h1 h2; grind
  dn t h h1 h2 h3 := by
    have := S.dn t h h1 h2 h3
    have := Rat.mul_le_mul_of_nonneg_right hC (Rat.mul_nonneg h2 h2)
    grind
  up t h h1 h2 h3 := by
    have := S.up t h h1 h2 h3
    have := Rat.mul_le_mul_of_nonneg_right hC (Rat.mul_nonneg h2 h2)
    grind

theorem abs_ex (c : Rat) : ∃ a : Rat, 0 ≤ a ∧ -a ≤ c ∧ c ≤ a := by
  rcases Rat.le_total (a := 0) (b := c) with h | h
  · exact ⟨c, h, by grind, Rat.le_refl⟩
  · exact ⟨-c, by grind, by grind, by grind⟩
theorem Smooth.const {X : Rat} (c : Rat) : Smooth X (fun _ => c) (fun _ => 0) := by
  obtain ⟨a, h0, h1, h2⟩ := abs_ex c
  exact ⟨a, 0, h0, Rat.le_refl, fun _ _ _ => h1, fun _ _ _ => h2, fun _ _ _ => by grind, fun _ _ _ => h0, fun t h _ _ _ => by grind, fun t h _ _ _ => by grind⟩
theorem Smooth.add {X : Rat} {f f' g g' : Rat → Rat} (F : Smooth X f f') (G : Smooth X g g') : Smooth X (fun t => f t + g t) (fun t => f' t + g' t) := by
  obtain ⟨B, C, F⟩ := F
  obtain ⟨B2, C2, G⟩ := G
  refine ⟨B + B2, C + C2, par14 F.b0 G.b0, par14 F.c0 G.c0, fun t h1 h2 => ?_, fun t h1 h2 => ?_, fun t h1 h2 => ?_, fun t h1 h2 => ?_, fun t h h1 h2 h3 => ?_, fun t h h1 h2 h3 => ?_⟩
  · have a := F.lo t h1 h2; have b := G.lo t h1 h2; show -(B + B2) ≤ f t + g t; clear F G; grind
  · have a := F.hi t h1 h2; have b := G.hi t h1 h2; show f t + g t ≤ B + B2; clear F G; grind
  · have a := F.lo' t h1 h2; have b := G.lo' t h1 h2; show -(B + B2) ≤ f' t + g' t; clear F G; grind
  · have a := F.hi' t h1 h2; have b := G.hi' t h1 h2; show f' t + g' t ≤ B + B2; clear F G; grind
  · have a := F.dn t h h1 h2 h3; have b := G.dn t h h1 h2 h3
    show f t + g t + h * (f' t + g' t) - (C + C2) * (h * h) ≤ f (t + h) + g (t + h)
    clear F G; grind
  · have a := F.up t h h1 h2 h3; have b := G.up t h h1 h2 h3
    show f (t + h) + g (t + h) ≤ f t + g t + h * (f' t + g' t) + (C + C2) * (h * h)
    clear F G; grind
theorem mul_pm {c a x B : Rat} (h0 : 0 ≤ a) (h1 : -a ≤ c) (h2 : c ≤ a) (x1 : -B ≤ x) (x2 : x ≤ B) : -(a * B) ≤ c * x ∧ c * x ≤ a * B := by
  have k1 := Rat.mul_nonneg (show 0 ≤ a - c by grind) (show 0 ≤ B + x by grind)
  have k2 := Rat.mul_nonneg (show 0 ≤ a + c by grind) (show 0 ≤ B - x by grind)
  have k3 := Rat.mul_nonneg (show 0 ≤ a - c by grind) (show 0 ≤ B - x by grind)
  have k4 := Rat.mul_nonneg (show 0 ≤ a + c by grind) (show 0 ≤ B + x by grind)
  constructor <;> grind
theorem Smooth.smul {X : Rat} {f f' : Rat → Rat} (F : Smooth X f f') (c : Rat) : Smooth X (fun t => c * f t) (fun t => c * f' t) := by
  obtain ⟨B, C, F⟩ := F
  obtain ⟨a, h0, h1, h2⟩ := abs_ex c
  have key : ∀ t h, 0 ≤ t → 0 ≤ h → t + h ≤ X → -(a * (C * (h * h))) ≤ c * (f (t + h) - f t - h * f' t) ∧ c * (f (t + h) - f t - h * f' t) ≤ a * (C * (h * h)) := fun t h t0 k0 t1 =>
    mul_pm h0 h1 h2 (by have := F.dn t h t0 k0 t1; clear F; grind) (by have := F.up t h t0 k0 t1; clear F; grind)
  refine ⟨a * B, a * C, Rat.mul_nonneg h0 F.b0, Rat.mul_nonneg h0 F.c0, fun t t0 t1 => (mul_pm h0 h1 h2 (F.lo t t0 t1) (F.hi t t0 t1)).1, fun t t0 t1 => (mul_pm h0 h1 h2 (F.lo t t0 t1) (F.hi t t0 t1)).2,
    fun t t0 t1 => (mul_pm h0 h1 h2 (F.lo' t t0 t1) (F.hi' t t0 t1)).1, fun t t0 t1 => (mul_pm h0 h1 h2 (F.lo' t t0 t1) (F.hi' t t0 t1)).2, fun t h t0 k0 t1 => ?_, fun t h t0 k0 t1 => ?_⟩
  · have := (key t h t0 k0 t1).1
    show c * f t + h * (c * f' t) - a * C * (h * h) ≤ c * f (t + h)
    clear F key; grind
  · have := (key t h t0 k0 t1).2
    show c * f (t + h) ≤ c * f t + h * (c * f' t) + a * C * (h * h)
    clear F key; grind
theorem Smooth.mulX {X : Rat} (hX : 0 ≤ X) {f f' : Rat → Rat} (F : Smooth X f f') : Smooth X (fun t => t * f t) (fun t => f t + t * f' t) := by
  obtain ⟨B, C, F⟩ := F
  have hB := F.b0
  have hC := F.c0
  have key : ∀ t h, 0 ≤ t → 0 ≤ h → t + h ≤ X →
      -((B + 2 * (X * C)) * (h * h)) ≤ (t + h) * f (t + h) - t * f t - h * (f t + t * f' t) ∧ (t + h) * f (t + h) - t * f t - h * (f t + t * f' t) ≤ (B + 2 * (X * C)) * (h * h) := by
    intro t h t0 k0 t1
    have e1 := F.dn t h t0 k0 t1
    have e2 := F.up t h t0 k0 t1
    have b1 := F.lo' t t0 (by clear F; grind)
    have b2 := F.hi' t t0 (by clear F; grind)
    clear F
    generalize f (t + h) = y at *
    generalize f t = x at *
    generalize f' t = z at *
    have hh := Rat.mul_nonneg k0 k0
    have q1 := Rat.mul_le_mul_of_nonneg_left b1 hh
    have q2 := Rat.mul_le_mul_of_nonneg_left b2 hh
    have r1 := Rat.mul_le_mul_of_nonneg_left (show x + h * z - C * (h * h) ≤ y by grind) (show 0 ≤ t + h by grind)
    have r2 := Rat.mul_le_mul_of_nonneg_left (show y ≤ x + h * z + C * (h * h) by grind) (show 0 ≤ t + h by grind)
    have s1 := Rat.mul_le_mul_of_nonneg_right t1 (Rat.mul_nonneg hC hh)
    have s2 := Rat.mul_nonneg (Rat.mul_nonneg hX hC) hh
    constructor <;> grind
  refine ⟨B + X * B, B + 2 * (X * C), par14 hB (Rat.mul_nonneg hX hB), par14 hB (by have := Rat.mul_nonneg hX hC; clear F key; grind), ?_, ?_, ?_, ?_, ?_, ?_⟩
  · intro t t0 t1
    have a := mul_pm (c := t) (a := X) hX (by clear F key; grind) t1 (F.lo t t0 t1) (F.hi t t0 t1)
    show -(B + X * B) ≤ t * f t
    clear F key; grind
  · intro t t0 t1
    have a := mul_pm (c := t) (a := X) hX (by clear F key; grind) t1 (F.lo t t0 t1) (F.hi t t0 t1)
    show t * f t ≤ B + X * B
    clear F key; grind
  · intro t t0 t1
    have a := mul_pm (c := t) (a := X) hX (by clear F key; grind) t1 (F.lo' t t0 t1) (F.hi' t t0 t1)
    have b := F.lo t t0 t1
    show -(B + X * B) ≤ f t + t * f' t
    clear F key; grind
  · intro t t0 t1
    have a := mul_pm (c := t) (a := X) hX (by clear F key; grind) t1 (F.lo' t t0 t1) (F.hi' t t0 t1)
    have b := F.hi t t0 t1
    show f t + t * f' t ≤ B + X * B
    clear F key; grind
  · intro t h t0 k0 t1
    have := (key t h t0 k0 t1).1
    show t * f t + h * (f t + t * f' t) - (B + 2 * (X * C)) * (h * h) ≤ (t + h) * f (t + h)
    clear F key; grind
  · intro t h t0 k0 t1
    have := (key t h t0 k0 t1).2
    show (t + h) * f (t + h) ≤ t * f t + h * (f t + t * f' t) + (B + 2 * (X * C)) * (h * h)
    clear F key; grind
theorem Smooth.congr {X : Rat} {f f' g g' : Rat → Rat} (F : Smooth X f f') (h1 : ∀ t, f t = g t) (h2 : ∀ t, f' t = g' t) : Smooth X g g' := by
  have e1 : f = g := funext h1
  have e2 : f' = g' := funext h2
  rw [← e1, ← e2]
  exact F

theorem cmp_upS {X γ : Rat} {f f' g g' : Rat → Rat} (hX : 0 ≤ X) (F : Smooth X f f') (G : Smooth X g g') (hγ : 0 < γ) (hg : ∀ t, 0 ≤ t → t ≤ X → γ ≤ g t)
    (hd : ∀ t, 0 ≤ t → t ≤ X → f' t * g t ≤ g' t) : EL (f X - f 0) (g X / g 0) := by
  obtain ⟨B, C, F⟩ := F
  obtain ⟨B2, C2, G⟩ := G
  have b1 := F.b0
  have b2 := F.c0
  have b3 := G.b0
  have b4 := G.c0
  exact cmp_up hX (F.mono (show B ≤ B + B2 by clear hg hd F G; grind) (show C ≤ C + C2 by clear hg hd F G; grind)) (G.mono (show B2 ≤ B + B2 by clear hg hd F G; grind) (show C2 ≤ C + C2 by clear hg hd F G; grind)) hγ hg hd
theorem cmp_dnS {X γ : Rat} {f f' g g' : Rat → Rat} (hX : 0 ≤ X) (F : Smooth X f f') (G : Smooth X g g') (hγ : 0 < γ) (hg : ∀ t, 0 ≤ t → t ≤ X → γ ≤ g t)
    (hd : ∀ t, 0 ≤ t → t ≤ X → g' t ≤ f' t * g t) : EG (f X - f 0) (g X / g 0) := by
  obtain ⟨B, C, F⟩ := F
  obtain ⟨B2, C2, G⟩ := G
  have b1 := F.b0
  have b2 := F.c0
  have b3 := G.b0
  have b4 := G.c0
  exact cmp_dn hX (F.mono (show B ≤ B + B2 by clear hg hd F G; grind) (show C ≤ C + C2 by clear hg hd F G; grind)) (G.mono (show B2 ≤ B + B2 by clear hg hd F G; grind) (show C2 ≤ C + C2 by clear hg hd F G; grind)) hγ hg hd

end Ex
end Mine

namespace Mine
namespace Ex

/-- z ^ n / n ! -/
def mz : Nat → Rat → Rat
  | 0, _ => 1
  | n + 1, z => z * mz n z / ((n : Rat) + 1)
/-- the sum to the T-th power -/
def eZ : Nat → Rat → Rat
  | 0, _ => 1
  | T + 1, z => eZ T z + mz (T + 1) z

theorem n1_pos (n : Nat) : (0 : Rat) < (n : Rat) + 1 := by
  have : (0 : Rat) ≤ (n : Rat) := by exact_mod_cast Nat.zero_le n
  grind
theorem mz_succ (n : Nat) (z : Rat) : mz (n + 1) z = z * mz n z / ((n : Rat) + 1) := rfl
theorem eZ_succ (n : Nat) (z : Rat) : eZ (n + 1) z = eZ n z + mz (n + 1) z := rfl
theorem mz_smooth {X : Rat} (hX : 0 ≤ X) (s : Rat) : ∀ n, Smooth X (fun t => mz (n + 1) (s * t)) (fun t => s * mz n (s * t))
  | 0 => by
    refine ((Smooth.const (X := X) s).mulX hX).congr (fun t => ?_) (fun t => ?_)
    · show t * s = s * t * 1 / (((0 : Nat) : Rat) + 1)
      have : ((0 : Nat) : Rat) = 0 := rfl
      rw [this]; grind
    · show s + t * 0 = s * 1
      grind
  | n + 1 => by
    have ih := mz_smooth hX s n
    refine ((ih.mulX hX).smul (s / (((n + 1 : Nat) : Rat) + 1))).congr (fun t => ?_) (fun t => ?_)
    · show s / (((n + 1 : Nat) : Rat) + 1) * (t * mz (n + 1) (s * t)) = s * t * mz (n + 1) (s * t) / (((n + 1 : Nat) : Rat) + 1)
      generalize mz (n + 1) (s * t) = u
      generalize (((n + 1 : Nat) : Rat) + 1) = k
      grind
    · show s / (((n + 1 : Nat) : Rat) + 1) * (mz (n + 1) (s * t) + t * (s * mz n (s * t))) = s * mz (n + 1) (s * t)
      rw [mz_succ n]
      have h1 := n1_pos n
      have e : ((n + 1 : Nat) : Rat) = (n : Rat) + 1 := by grind
      rw [e]
      generalize mz n (s * t) = u
      generalize (n : Rat) = k at *
      grind
theorem eZ_smooth {X : Rat} (hX : 0 ≤ X) (s : Rat) : ∀ T, Smooth X (fun t => eZ (T + 1) (s * t)) (fun t => s * eZ T (s * t))
  | 0 => by
    refine ((Smooth.const (X := X) 1).add (mz_smooth hX s 0)).congr (fun t => rfl) (fun t => ?_)
    show 0 + s * mz 0 (s * t) = s * 1
    have : mz 0 (s * t) = 1 := rfl
    rw [this]; grind
  | T + 1 => by
    refine ((eZ_smooth hX s T).add (mz_smooth hX s (T + 1))).congr (fun t => rfl) (fun t => ?_)
    show s * eZ T (s * t) + s * mz (T + 1) (s * t) = s * (eZ T (s * t) + mz (T + 1) (s * t))
    grind

theorem mz_nn {z : Rat} (h : 0 ≤ z) : ∀ n, 0 ≤ mz n z
  | 0 => by show (0 : Rat) ≤ 1; decide
  | n + 1 => by
    rw [mz_succ]
    exact div_nn (Rat.mul_nonneg h (mz_nn h n)) (n1_pos n)
/-- the sign falls out -/
theorem mz_neg {z : Rat} : ∀ n, (mz n (-z) = mz n z) ∨ (mz n (-z) = -mz n z)
  | 0 => .inl rfl
  | n + 1 => by
    rw [mz_succ, mz_succ]
    rcases mz_neg (z := z) n with h | h
    · right
      rw [h]
      have := n1_pos n
      generalize (n : Rat) + 1 = k at *
      generalize mz n z = u
      grind
    · left
      rw [h]
      have := n1_pos n
      generalize (n : Rat) + 1 = k at *
      generalize mz n z = u
      grind
theorem mz_abs {z : Rat} (h : 0 ≤ z) (n : Nat) : -mz n z ≤ mz n (-z) ∧ mz n (-z) ≤ mz n z := by
  have h1 := mz_nn h n
  rcases mz_neg (z := z) n with e | e <;> rw [e] <;> grind
/-- each term is no more than z times the one ahead -/
theorem mz_le {z : Rat} (h : 0 ≤ z) (n : Nat) : mz (n + 1) z ≤ z * mz n z := by
  rw [mz_succ]
  have h1 := n1_pos n
  have h2 := Rat.mul_nonneg h (mz_nn h n)
  refine div_le h1 ?_
  have h3 : (0 : Rat) ≤ (n : Rat) := by exact_mod_cast Nat.zero_le n
  have := Rat.mul_nonneg h2 h3
  grind
theorem mz_half {z : Rat} (h : 0 ≤ z) (n : Nat) : 2 * mz (n + 2) z ≤ z * mz (n + 1) z := by
  rw [mz_succ (n + 1)]
  have h1 := n1_pos (n + 1)
  have h2 := Rat.mul_nonneg h (mz_nn h (n + 1))
  have h3 : (0 : Rat) ≤ (n : Rat) := by exact_mod_cast Nat.zero_le n
  have e : ((n + 1 : Nat) : Rat) = (n : Rat) + 1 := by grind
  have k : z * mz (n + 1) z / (((n + 1 : Nat) : Rat) + 1) ≤ z * mz (n + 1) z / 2 := by
    refine div_le h1 ?_
    rw [e]
    have := Rat.mul_nonneg h2 h3
    grind
  grind
/-- the sum, for z below a quarter, is within a third of 1 -/
theorem eZ_near {z : Rat} (h : 0 ≤ z) (h2 : z ≤ 1 / 4) : ∀ T, 1 ≤ eZ T z ∧ eZ T z ≤ 4 / 3 - mz T z / 3 ∧ 2 / 3 + mz T z / 3 ≤ eZ T (-z) ∧ eZ T (-z) ≤ 4 / 3 - mz T z / 3
  | 0 => by
    have e1 : eZ 0 z = 1 := rfl
    have e2 : eZ 0 (-z) = 1 := rfl
    have e3 : mz 0 z = 1 := rfl
    rw [e1, e2, e3]
    grind
  | T + 1 => by
    obtain ⟨a, b, c, d⟩ := eZ_near h h2 T
    rw [eZ_succ, eZ_succ]
    have n0 := mz_nn h T
    have n1 := mz_nn h (T + 1)
    have k := mz_le h T
    have q := Rat.mul_le_mul_of_nonneg_right h2 n0
    obtain ⟨x, y⟩ := mz_abs h (T + 1)
    generalize mz (T + 1) z = u at *
    generalize mz (T + 1) (-z) = u' at *
    generalize mz T z = v at *
    grind

end Ex
end Mine

namespace Mine
namespace Ex

theorem lin_smooth {X : Rat} (hX : 0 ≤ X) (s : Rat) : Smooth X (fun t => s * t) (fun _ => s) :=
  ((Smooth.const (X := X) s).mulX hX).congr (fun t => by grind) (fun t => by grind)
theorem mz_zero (n : Nat) : mz (n + 1) 0 = 0 := by
  rw [mz_succ]
  have := n1_pos n
  generalize mz n 0 = u
  grind
theorem eZ_zero : ∀ n, eZ n 0 = 1
  | 0 => rfl
  | n + 1 => by rw [eZ_succ, eZ_zero n, mz_zero]; grind

theorem taylor_up_pos {z : Rat} (h : 0 ≤ z) (h2 : z ≤ 1 / 4) (T : Nat) : EL z (eZ (T + 1) z + 5 / 4 * mz (T + 2) z) := by
  have key := cmp_upS (X := z) (γ := 1) (f := fun t => 1 * t) (f' := fun _ => 1) (g := fun t => eZ (T + 1) (1 * t) + 5 / 4 * mz (T + 2) (1 * t)) (g' := fun t => 1 * eZ T (1 * t) + 5 / 4 * (1 * mz (T + 1) (1 * t))) h (lin_smooth h 1)
    ((eZ_smooth h 1 T).add ((mz_smooth h 1 (T + 1)).smul (5 / 4))) (by decide) ?_ ?_
  · simp only [Rat.one_mul] at key
    rw [eZ_zero, mz_zero] at key
    have e1 : z - 0 = z := by grind
    have e2 : (eZ (T + 1) z + 5 / 4 * mz (T + 2) z) / (1 + 5 / 4 * 0) = eZ (T + 1) z + 5 / 4 * mz (T + 2) z := by grind
    rwa [e1, e2] at key
  · intro t t0 t1
    have a := (eZ_near t0 (by grind) (T + 1)).1
    have b := mz_nn t0 (T + 2)
    simp only [Rat.one_mul]
    grind
  · intro t t0 t1
    simp only [Rat.one_mul]
    rw [eZ_succ]
    have a := mz_half t0 T
    have b := mz_nn t0 (T + 1)
    have c := Rat.mul_le_mul_of_nonneg_right (show t ≤ 1 / 4 by grind) b
    grind
theorem taylor_dn_pos {z : Rat} (h : 0 ≤ z) (h2 : z ≤ 1 / 4) (T : Nat) : EG z (eZ (T + 1) z) := by
  have key := cmp_dnS (X := z) (γ := 1) (f := fun t => 1 * t) (f' := fun _ => 1) (g := fun t => eZ (T + 1) (1 * t)) (g' := fun t => 1 * eZ T (1 * t)) h (lin_smooth h 1)
    (eZ_smooth h 1 T) (by decide) ?_ ?_
  · simp only [Rat.one_mul] at key
    rw [eZ_zero] at key
    have e1 : z - 0 = z := by grind
    have e2 : eZ (T + 1) z / 1 = eZ (T + 1) z := by grind
    rwa [e1, e2] at key
  · intro t t0 t1
    have a := (eZ_near t0 (by grind) (T + 1)).1
    simp only [Rat.one_mul]
    exact a
  · intro t t0 t1
    simp only [Rat.one_mul]
    rw [eZ_succ]
    have b := mz_nn t0 (T + 1)
    grind
theorem neg_one_mul' (t : Rat) : -1 * t = -t := by grind
theorem taylor_up_neg {z : Rat} (h : 0 ≤ z) (h2 : z ≤ 1 / 4) (T : Nat) : EL (-z) (eZ (T + 1) (-z) + 5 / 4 * mz (T + 2) z) := by
  have key := cmp_upS (X := z) (γ := 1 / 2) (f := fun t => -1 * t) (f' := fun _ => -1) (g := fun t => eZ (T + 1) (-1 * t) + 5 / 4 * mz (T + 2) (1 * t)) (g' := fun t => -1 * eZ T (-1 * t) + 5 / 4 * (1 * mz (T + 1) (1 * t))) h (lin_smooth h (-1))
    ((eZ_smooth h (-1) T).add ((mz_smooth h 1 (T + 1)).smul (5 / 4))) (by grind) ?_ ?_
  · simp only [Rat.one_mul, neg_one_mul'] at key
    have e0 : -(0 : Rat) = 0 := by grind
    rw [e0, eZ_zero, mz_zero] at key
    have e1 : -z - 0 = -z := by grind
    have e2 : (eZ (T + 1) (-z) + 5 / 4 * mz (T + 2) z) / (1 + 5 / 4 * 0) = eZ (T + 1) (-z) + 5 / 4 * mz (T + 2) z := by grind
    rwa [e1, e2] at key
  · intro t t0 t1
    have a := (eZ_near t0 (by grind) (T + 1)).2.2.1
    have b := mz_nn t0 (T + 2)
    have c := mz_nn t0 (T + 1)
    simp only [Rat.one_mul, neg_one_mul']
    grind
  · intro t t0 t1
    simp only [Rat.one_mul, neg_one_mul']
    rw [eZ_succ]
    have a := mz_nn t0 (T + 2)
    have b := mz_nn t0 (T + 1)
    have c := (mz_abs t0 (T + 1)).1
    grind
theorem taylor_dn_neg {z : Rat} (h : 0 ≤ z) (h2 : z ≤ 1 / 4) (T : Nat) : EG (-z) (eZ (T + 1) (-z) - mz (T + 2) z) := by
  have key := cmp_dnS (X := z) (γ := 1 / 2) (f := fun t => -1 * t) (f' := fun _ => -1) (g := fun t => eZ (T + 1) (-1 * t) + -1 * mz (T + 2) (1 * t)) (g' := fun t => -1 * eZ T (-1 * t) + -1 * (1 * mz (T + 1) (1 * t))) h (lin_smooth h (-1))
    ((eZ_smooth h (-1) T).add ((mz_smooth h 1 (T + 1)).smul (-1))) (by grind) ?_ ?_
  · simp only [Rat.one_mul, neg_one_mul'] at key
    have e0 : -(0 : Rat) = 0 := by grind
    rw [e0, eZ_zero, mz_zero] at key
    have e1 : -z - 0 = -z := by grind
    have e2 : (eZ (T + 1) (-z) + -mz (T + 2) z) / (1 + -0) = eZ (T + 1) (-z) - mz (T + 2) z := by grind
    rwa [e1, e2] at key
  · intro t t0 t1
    have a := (eZ_near t0 (by grind) (T + 1)).2.2.1
    have b := mz_le t0 (T + 1)
    have c := mz_nn t0 (T + 1)
    have d := Rat.mul_le_mul_of_nonneg_right (show t ≤ 1 / 4 by grind) c
    simp only [Rat.one_mul, neg_one_mul']
    grind
  · intro t t0 t1
    simp only [Rat.one_mul, neg_one_mul']
    rw [eZ_succ]
    have a := mz_nn t0 (T + 2)
    have b := mz_nn t0 (T + 1)
    have c := (mz_abs t0 (T + 1)).2
    grind

/-- the series of exp, with what it leaves out; a is z without its sign -/
theorem exp_taylor {z a : Rat} (h : 0 ≤ a) (h2 : a ≤ 1 / 4) (hz : z = a ∨ z = -a) (T : Nat) : EL z (eZ (T + 1) z + 5 / 4 * mz (T + 2) a) ∧ EG z (eZ (T + 1) z - mz (T + 2) a) := by
  rcases hz with e | e
  · rw [e]
    refine ⟨taylor_up_pos h h2 T, (taylor_dn_pos h h2 T).mono ?_⟩
    have := mz_nn h (T + 2)
    grind
  · rw [e]
    exact ⟨taylor_up_neg h h2 T, taylor_dn_neg h h2 T⟩

/-! the logarithm -/
theorem mul_pow' (a b : Rat) : ∀ n : Nat, (a * b) ^ n = a ^ n * b ^ n
  | 0 => by rw [Rat.pow_zero, Rat.pow_zero, Rat.pow_zero]; grind
  | n + 1 => by rw [Rat.pow_succ, Rat.pow_succ, Rat.pow_succ, mul_pow' a b n]; grind
end Ex
end Mine

namespace Mine
namespace Ex

end Ex
end Mine

namespace Mine
open Ex

theorem castpos {b : Int} (h : 0 < b) : (0 : Rat) < (b : Rat) := by exact_mod_cast h
theorem castnn {b : Int} (h : 0 ≤ b) : (0 : Rat) ≤ (b : Rat) := by exact_mod_cast h
theorem castle {a b : Int} (h : a ≤ b) : (a : Rat) ≤ (b : Rat) := by exact_mod_cast h
theorem divN_rat {a b : Int} (hb : 0 < b) : (a : Rat) / b - 1 / 2 ≤ (divN a b : Rat) ∧ (divN a b : Rat) ≤ (a : Rat) / b + 1 / 2 := by
  obtain ⟨h1, h2⟩ := divN_spec (a := a) hb
  generalize divN a b = q at *
  have hb' := castpos hb
  have k1 : (-(b : Rat)) ≤ 2 * ((a : Rat) - b * q) := by exact_mod_cast h1
  have k2 : 2 * ((a : Rat) - b * q) ≤ (b : Rat) := by exact_mod_cast h2
  generalize (a : Rat) = a at *
  generalize (b : Rat) = b at *
  generalize (q : Rat) = q at *
  constructor
  · have : a / b ≤ q + 1 / 2 := div_le hb' (by grind)
    grind
  · have : q - 1 / 2 ≤ a / b := le_div hb' (by grind)
    grind

/-- Horner's scheme of exp behind j turns -/
def hS (z : Rat) (T : Int) : Nat → Rat
  | 0 => z / T
  | j + 1 => z * (1 + hS z T j) / ((T - 1 - (j : Int) : Int) : Rat)
theorem hS_sum (z : Rat) {T : Nat} : ∀ j : Nat, j < T → mz (T - 1 - j) z * hS z (T : Int) j = eZ T z - eZ (T - 1 - j) z
  | 0, hj => by
    obtain ⟨n, rfl⟩ : ∃ n, T = n + 1 := ⟨T - 1, by omega⟩
    show mz (n + 1 - 1 - 0) z * (z / (((n + 1 : Nat) : Int) : Rat)) = eZ (n + 1) z - eZ (n + 1 - 1 - 0) z
    have e : n + 1 - 1 - 0 = n := by omega
    have e2 : ((((n + 1 : Nat) : Int)) : Rat) = (n : Rat) + 1 := by push_cast; rfl
    rw [e, e2, eZ_succ, mz_succ]
    have := n1_pos n
    generalize mz n z = u
    generalize eZ n z = w
    generalize (n : Rat) + 1 = k at *
    grind
  | j + 1, hj => by
    have ih := hS_sum z (T := T) j (by omega)
    obtain ⟨n, hn⟩ : ∃ n, T - 1 - j = n + 1 := ⟨T - 2 - j, by omega⟩
    have e1 : T - 1 - (j + 1) = n := by omega
    have e2 : ((T : Int) - 1 - (j : Int)) = ((n + 1 : Nat) : Int) := by omega
    rw [hn] at ih
    show mz (T - 1 - (j + 1)) z * (z * (1 + hS z (T : Int) j) / (((T : Int) - 1 - (j : Int) : Int) : Rat)) = _
    have e3 : ((((n + 1 : Nat) : Int)) : Rat) = (n : Rat) + 1 := by push_cast; rfl
    rw [e1, e2, e3]
    rw [mz_succ, eZ_succ, mz_succ] at ih
    have := n1_pos n
    generalize mz n z = u at *
    generalize eZ n z = w at *
    generalize eZ T z = E at *
    generalize hS z (T : Int) j = h at *
    generalize (n : Rat) + 1 = k at *
    grind
theorem hS_last (z : Rat) {T : Nat} (hT : 0 < T) : hS z (T : Int) (T - 1) = eZ T z - 1 := by
  have h := hS_sum z (T := T) (T - 1) (by omega)
  have e : T - 1 - (T - 1) = 0 := by omega
  rw [e] at h
  have e1 : mz 0 z = 1 := rfl
  have e2 : eZ 0 z = 1 := rfl
  rw [e1, e2] at h
  grind
theorem cast_mul3 (x a b : Int) : ((x * (a + b) : Int) : Rat) = (x : Rat) * ((a : Rat) + (b : Rat)) := by push_cast; rfl
theorem rat_mul_cast (a b : Int) : ((a * b : Int) : Rat) = (a : Rat) * (b : Rat) := by push_cast; rfl

/-- one turn of the series of exp, in rationals -/
theorem eS_step {z Ms E H i c ρ q : Rat} (hM : 0 < Ms) (hi : 1 ≤ i) (hc : 0 ≤ c) (hρ : 0 ≤ ρ) (z1 : -ρ ≤ z) (z2 : z ≤ ρ) (e1 : Ms * H - c ≤ E) (e2 : E ≤ Ms * H + c)
    (q1 : z * Ms * (Ms + E) / (Ms * i) - 1 / 2 ≤ q) (q2 : q ≤ z * Ms * (Ms + E) / (Ms * i) + 1 / 2) (hcc : 1 / 2 + ρ * c ≤ c) :
    Ms * (z * (1 + H) / i) - c ≤ q ∧ q ≤ Ms * (z * (1 + H) / i) + c := by
  have hi0 : 0 < i := by grind
  have e : z * Ms * (Ms + E) / (Ms * i) = Ms * (z * (1 + H) / i) + z * (E - Ms * H) / i := by grind
  rw [e] at q1 q2
  have m := mul_pm hρ z1 z2 (show -c ≤ E - Ms * H by grind) (show E - Ms * H ≤ c by grind)
  have k0 : 0 ≤ ρ * c := Rat.mul_nonneg hρ hc
  have k1 : z * (E - Ms * H) / i ≤ ρ * c := div_le hi0 (by
    have := Rat.mul_le_mul_of_nonneg_left hi k0
    grind)
  have k2 : -(ρ * c) ≤ z * (E - Ms * H) / i := le_div hi0 (by
    have := Rat.mul_le_mul_of_nonneg_left hi k0
    grind)
  generalize z * (E - Ms * H) / i = w at *
  generalize Ms * (z * (1 + H) / i) = W at *
  grind

theorem eS_err {x Ms T : Int} {z c ρ : Rat} (hM : 0 < Ms) (hT : 0 < T) (hz : z = (x : Rat) / (Ms : Rat)) (hc : 0 ≤ c) (hρ : 0 ≤ ρ) (z1 : -ρ ≤ z) (z2 : z ≤ ρ) (hcc : 1 / 2 + ρ * c ≤ c) :
    ∀ j : Nat, (j : Int) < T → (Ms : Rat) * hS z T j - c ≤ (eS x Ms T j : Rat) ∧ (eS x Ms T j : Rat) ≤ (Ms : Rat) * hS z T j + c
  | 0, _ => by
    have hM' := castpos hM
    have hT' := castpos hT
    have d := divN_rat (a := x) (b := T) hT
    show (Ms : Rat) * (z / T) - c ≤ (divN x T : Rat) ∧ (divN x T : Rat) ≤ (Ms : Rat) * (z / T) + c
    have e : (Ms : Rat) * (z / T) = (x : Rat) / T := by
      rw [hz]
      generalize (Ms : Rat) = M at *
      generalize (T : Rat) = t at *
      grind
    rw [e]
    have := Rat.mul_nonneg hρ hc
    generalize (x : Rat) / T = w at *
    generalize (divN x T : Rat) = q at *
    grind
  | j + 1, hj => by
    have hM' := castpos hM
    obtain ⟨e1, e2⟩ := eS_err hM hT hz hc hρ z1 z2 hcc j (by omega)
    have hi : 0 < T - 1 - (j : Int) := by omega
    have d := divN_rat (a := x * (Ms + eS x Ms T j)) (b := Ms * (T - 1 - (j : Int))) (Int.mul_pos hM hi)
    have hi' : (1 : Rat) ≤ ((T - 1 - (j : Int) : Int) : Rat) := by
      have : (1 : Int) ≤ T - 1 - (j : Int) := by omega
      exact_mod_cast this
    rw [cast_mul3, rat_mul_cast] at d
    have hx : (x : Rat) = z * (Ms : Rat) := by
      rw [hz]
      generalize (Ms : Rat) = M at *
      generalize (x : Rat) = t at *
      grind
    rw [hx] at d
    exact eS_step hM' hi' hc hρ z1 z2 e1 e2 d.1 d.2 hcc

end Mine

namespace Mine
open Ex

/-- factorials -/
def fc : Nat → Rat
  | 0 => 1
  | n + 1 => fc n * ((n : Rat) + 1)
theorem fc_pos : ∀ n, 0 < fc n
  | 0 => by show (0 : Rat) < 1; decide
  | n + 1 => Rat.mul_pos (fc_pos n) (n1_pos n)
theorem fc_succ_ge (n : Nat) : fc n ≤ fc (n + 1) := by
  show fc n ≤ fc n * ((n : Rat) + 1)
  have h : (0 : Rat) ≤ (n : Rat) := by exact_mod_cast Nat.zero_le n
  have := Rat.mul_nonneg (Rat.le_of_lt (fc_pos n)) h
  grind
theorem fc_mono {m n : Nat} (h : m ≤ n) : fc m ≤ fc n := by
  obtain ⟨k, rfl⟩ := Nat.le.dest h
  induction k with
  | zero => exact Rat.le_refl
  | succ k ih => exact Rat.le_trans (ih (by omega)) (fc_succ_ge (m + k))
theorem fc2 : fc 2 = 2 := by show (1 * (((0 : Nat) : Rat) + 1)) * (((1 : Nat) : Rat) + 1) = 2; grind
theorem fc3 : fc 3 = 6 := by show fc 2 * (((2 : Nat) : Rat) + 1) = 6; rw [fc2]; grind
theorem fc4 : fc 4 = 24 := by show fc 3 * (((3 : Nat) : Rat) + 1) = 24; rw [fc3]; grind
theorem mz_fc (a : Rat) : ∀ n, mz n a * fc n = a ^ n
  | 0 => by rw [Rat.pow_zero]; show (1 : Rat) * 1 = 1; grind
  | n + 1 => by
    rw [mz_succ, Rat.pow_succ, ← mz_fc a n]
    show a * mz n a / ((n : Rat) + 1) * (fc n * ((n : Rat) + 1)) = mz n a * fc n * a
    have := n1_pos n
    generalize (n : Rat) + 1 = k at *
    generalize mz n a = u
    generalize fc n = f
    grind
theorem mz_le_pow {a : Rat} (h : 0 ≤ a) {n m : Nat} (hm : m ≤ n) : mz n a * fc m ≤ a ^ n := by
  rw [← mz_fc a n]
  exact Rat.mul_le_mul_of_nonneg_left (fc_mono hm) (mz_nn h n)

theorem pow_le_one {u : Rat} (h : 0 ≤ u) (h2 : u ≤ 1) : ∀ n : Nat, u ^ n ≤ 1
  | 0 => by rw [Rat.pow_zero]; exact Rat.le_refl
  | n + 1 => by
    rw [Rat.pow_succ]
    have := pow_le_one h h2 n
    have := pow_nn h n
    have := Rat.mul_le_mul_of_nonneg_left h2 this
    grind
theorem pow_le_pow' {u v : Rat} (h : 0 ≤ u) (h2 : u ≤ v) : ∀ n : Nat, u ^ n ≤ v ^ n
  | 0 => by rw [Rat.pow_zero, Rat.pow_zero]; exact Rat.le_refl
  | n + 1 => by
    rw [Rat.pow_succ, Rat.pow_succ]
    have a := pow_le_pow' h h2 n
    have b := pow_nn h n
    have c := Rat.mul_le_mul_of_nonneg_left h2 b
    have d := Rat.mul_le_mul_of_nonneg_right a (show 0 ≤ v by grind)
    grind

/-- 2 ^ (L T) is at least 10 ^ (the signs of M) -/
theorem two_LT {M L : Int} (hM : 0 < M) (hL : 0 < L) : 10 ^ (digs M).toNat ≤ 2 ^ (L.toNat * (tOf M L).toNat) := by
  have hD := digs_pos (Int.le_of_lt hM)
  have hT := tOf_pos (Int.le_of_lt hM) hL
  obtain ⟨D, eD⟩ := Int.eq_ofNat_of_zero_le (Int.le_of_lt hD)
  obtain ⟨l, el⟩ := Int.eq_ofNat_of_zero_le (Int.le_of_lt hL)
  obtain ⟨t, et⟩ := Int.eq_ofNat_of_zero_le (Int.le_of_lt hT)
  have h1 : 10 * D ≤ 3 * (l * t) := by
    have h2 : (-10 * digs M) / (3 * L) * (3 * L) ≤ -10 * digs M := Int.ediv_mul_le _ (by omega)
    have h3 : (-10 * digs M) / (3 * L) = -(t : Int) := by unfold tOf at et; omega
    rw [h3, eD, el] at h2
    have h4 : (-(t : Int)) * (3 * (l : Int)) = -(3 * ((l * t : Nat) : Int)) := by push_cast; grind
    rw [h4] at h2
    omega
  rw [eD, et, el]
  show 10 ^ D ≤ 2 ^ (l * t)
  -- cubes
  have c1 : (10 ^ D) ^ 3 ≤ (2 ^ (l * t)) ^ 3 := by
    have e1 : (10 ^ D) ^ 3 = 1000 ^ D := by rw [← Nat.pow_mul, Nat.mul_comm, Nat.pow_mul]
    have e2 : (2 ^ (l * t)) ^ 3 = 2 ^ (3 * (l * t)) := by rw [← Nat.pow_mul, Nat.mul_comm]
    rw [e1, e2]
    have e3 : 1000 ^ D ≤ 1024 ^ D := Nat.pow_le_pow_left (by decide) D
    have e4 : 1024 ^ D = 2 ^ (10 * D) := by rw [Nat.pow_mul]
    have e5 : 2 ^ (10 * D) ≤ 2 ^ (3 * (l * t)) := Nat.pow_le_pow_right (by decide) h1
    omega
  rcases Nat.lt_or_ge (2 ^ (l * t)) (10 ^ D) with h | h
  · have := Nat.pow_lt_pow_left h (show 3 ≠ 0 by decide)
    omega
  · exact h
theorem M_lt_digs {M : Int} (hM : 0 < M) : M < 10 ^ (digs M).toNat := by
  have hD := digs_pos (Int.le_of_lt hM)
  exact (digs_iff (Int.le_of_lt hM) (by omega)).mp (by omega)

/-- the T-th power of what is below 2 ^ - L, by 10 ^ (the signs of M) -/
theorem pow_small {M L : Int} {a : Rat} (hM : 0 < M) (hL : 0 < L) (ha : 0 ≤ a) (h : a * (2 : Rat) ^ L.toNat ≤ 1) : a ^ (tOf M L).toNat * ((10 ^ (digs M).toNat : Nat) : Rat) ≤ 1 := by
  have h1 := two_LT hM hL
  have h2 : ((10 ^ (digs M).toNat : Nat) : Rat) ≤ ((2 ^ (L.toNat * (tOf M L).toNat) : Nat) : Rat) := by exact_mod_cast h1
  have h3 : ((2 ^ (L.toNat * (tOf M L).toNat) : Nat) : Rat) = ((2 : Rat) ^ L.toNat) ^ (tOf M L).toNat := by
    rw [Nat.pow_mul]
    push_cast
    rfl
  rw [h3] at h2
  have hp : (0 : Rat) ≤ (2 : Rat) ^ L.toNat := pow_nn (by decide) _
  have h4 := pow_le_one (Rat.mul_nonneg ha hp) h (tOf M L).toNat
  rw [mul_pow'] at h4
  have := Rat.mul_le_mul_of_nonneg_left h2 (pow_nn ha (tOf M L).toNat)
  grind
theorem pow_small_M {M L : Int} {a : Rat} (hM : 0 < M) (hL : 0 < L) (ha : 0 ≤ a) (h : a * (2 : Rat) ^ L.toNat ≤ 1) : a ^ (tOf M L).toNat * (M : Rat) ≤ 1 := by
  have h1 := pow_small hM hL ha h
  have h2 : (M : Rat) ≤ ((10 ^ (digs M).toNat : Nat) : Rat) := by
    have := M_lt_digs hM
    have e : ((10 ^ (digs M).toNat : Nat) : Int) = 10 ^ (digs M).toNat := Int.natCast_pow 10 _
    have h3 : M ≤ ((10 ^ (digs M).toNat : Nat) : Int) := by omega
    exact_mod_cast h3
  have := Rat.mul_le_mul_of_nonneg_left h2 (pow_nn ha (tOf M L).toNat)
  grind

end Mine

namespace Mine
open Ex

theorem base_alg_up {E Ms e m c : Rat} (hM : 0 < Ms) (h : Ms * (e - 1) - c ≤ E) : e + 5 / 4 * m ≤ 1 + (E + c + Ms * (5 / 4 * m)) / Ms := by
  have : e + 5 / 4 * m - 1 ≤ (E + c + Ms * (5 / 4 * m)) / Ms := le_div hM (by grind)
  grind
theorem base_alg_dn {E Ms e m c : Rat} (hM : 0 < Ms) (hm : 0 ≤ m) (h : E ≤ Ms * (e - 1) + c) : 1 + (E - c - Ms * (5 / 4 * m)) / Ms ≤ e - m := by
  have k : (E - c - Ms * (5 / 4 * m)) / Ms ≤ e - m - 1 := div_le hM (by
    have := Rat.mul_nonneg (Rat.le_of_lt hM) hm
    grind)
  grind

/-- the series of _iexp, ahead of the doublings -/
theorem iexp_base {x Ms : Int} {T : Nat} {z a c : Rat} (hM : 0 < Ms) (hT : 0 < T) (hz : z = (x : Rat) / (Ms : Rat)) (ha : 0 ≤ a) (ha4 : a ≤ 1 / 4) (hza : z = a ∨ z = -a) (hc : 0 ≤ c) (hcc : 1 / 2 + a * c ≤ c) :
    EL z (1 + ((eS x Ms T (T - 1) : Rat) + c + (Ms : Rat) * (5 / 4 * mz (T + 1) a)) / (Ms : Rat)) ∧
    EG z (1 + ((eS x Ms T (T - 1) : Rat) - c - (Ms : Rat) * (5 / 4 * mz (T + 1) a)) / (Ms : Rat)) := by
  have hM' := castpos hM
  obtain ⟨n, rfl⟩ : ∃ n, T = n + 1 := ⟨T - 1, by omega⟩
  obtain ⟨e1, e2⟩ := eS_err (x := x) (T := ((n + 1 : Nat) : Int)) hM (by omega) hz hc ha (show -a ≤ z by grind) (show z ≤ a by grind) hcc n (by omega)
  have hl := hS_last z (T := n + 1) (by omega)
  have en : n + 1 - 1 = n := by omega
  rw [en] at hl ⊢
  rw [hl] at e1 e2
  obtain ⟨t1, t2⟩ := exp_taylor ha ha4 hza n
  exact ⟨t1.mono (base_alg_up hM' e1), t2.mono (base_alg_dn hM' (mz_nn ha _) e2)⟩

theorem absz {x Ms : Int} (hM : 0 < Ms) : ∃ a : Rat, 0 ≤ a ∧ ((x : Rat) / (Ms : Rat) = a ∨ (x : Rat) / (Ms : Rat) = -a) ∧ a * (Ms : Rat) = ((x.natAbs : Int) : Rat) := by
  have hM' := castpos hM
  rcases Int.le_total 0 x with h | h
  · refine ⟨(x : Rat) / (Ms : Rat), div_nn (castnn h) hM', .inl rfl, ?_⟩
    have e : ((x.natAbs : Int)) = x := by omega
    rw [e]
    exact Rat.div_mul_cancel (by grind)
  · refine ⟨-((x : Rat) / (Ms : Rat)), ?_, .inr (by grind), ?_⟩
    · have := castle h
      have k : (x : Rat) / (Ms : Rat) ≤ 0 := div_le hM' (by grind)
      grind
    · have e : ((x.natAbs : Int)) = -x := by omega
      rw [e]
      have e2 : ((-x : Int) : Rat) = -(x : Rat) := by push_cast; rfl
      rw [e2]
      have := Rat.div_mul_cancel (a := (x : Rat)) (b := (Ms : Rat)) (by grind)
      grind

/-- what the series of _iexp leaves out, by the length of x -/
theorem rest_le {M Ms L : Int} {a X : Rat} {m : Nat} (hM : 0 < M) (hMs : 0 < Ms) (hL : 0 < L) (ha : 0 ≤ a) (h : a * (2 : Rat) ^ L.toNat ≤ 1) (hX : a * (Ms : Rat) = X) (hm : m ≤ (tOf M L).toNat + 1) :
    (Ms : Rat) * (5 / 4 * mz ((tOf M L).toNat + 1) a) * fc m * (M : Rat) ≤ 5 / 4 * X := by
  have h1 := pow_small_M hM hL ha h
  have h2 := mz_le_pow ha hm
  rw [Rat.pow_succ] at h2
  have hMs' := castpos hMs
  have hM' := castpos hM
  generalize a ^ (tOf M L).toNat = p at *
  generalize mz ((tOf M L).toNat + 1) a = u at *
  generalize fc m = f at *
  generalize (Ms : Rat) = S at *
  generalize (M : Rat) = N at *
  -- S * 5/4 u f N ≤ 5/4 S p a N ≤ 5/4 S a
  have k1 := Rat.mul_le_mul_of_nonneg_left h2 (Rat.mul_nonneg (Rat.le_of_lt hMs') (Rat.le_of_lt hM'))
  have k2 := Rat.mul_le_mul_of_nonneg_left h1 (Rat.mul_nonneg (Rat.le_of_lt hMs') ha)
  grind

end Mine

namespace Mine
open PySem.Builtin.Int (intBits)
open Ex

theorem two_pow_rat (n : Nat) : ((2 ^ n : Int) : Rat) = (2 : Rat) ^ n := by push_cast; rfl

end Mine

namespace Mine
open PySem.Builtin.Int (intBits)
open Ex

end Mine

namespace Mine
open PySem.Builtin.Int (intBits)
open Ex

theorem eS_all {x Ms T c : Int} (x1 : -c ≤ x) (x2 : x ≤ c) (hx : c ≤ Ms) (hMs : 0 < Ms) (hT : 1 ≤ T) (j : Nat) (hj : (j : Int) < T) : -(2 * c) ≤ eS x Ms T j ∧ eS x Ms T j ≤ 2 * c := by
  rcases j with _ | j
  · have := eS_le (T := T) x1 x2 hx hMs hT 0 (.inr rfl)
    omega
  · obtain ⟨e1, e2⟩ := eS_le (T := T) x1 x2 hx hMs hT j (by omega)
    rw [eS_succ]
    generalize eS x Ms T j = y at *
    have hi : 1 ≤ T - 1 - (j : Int) := by omega
    generalize T - 1 - (j : Int) = i at *
    have hc : 0 ≤ c := by omega
    obtain ⟨m1, m2⟩ := mul_abs x1 x2 e1 e2
    have p1 := Int.mul_le_mul_of_nonneg_right x1 (Int.le_of_lt hMs)
    have p2 := Int.mul_le_mul_of_nonneg_right x2 (Int.le_of_lt hMs)
    have p3 := Int.mul_le_mul_of_nonneg_left hx hc
    have p4 := Int.mul_le_mul_of_nonneg_left hi (Int.mul_nonneg hc (Int.le_of_lt hMs))
    exact divN_abs (Int.mul_pos hMs (by omega)) (by grind) (by grind)

/-- what is asked of the scale, the counts and the distance -/
structure Asked (M b d L₁ L₂ : Int) : Prop where
  m : 1000 * 2 ^ (b.toNat + 1) ≤ M
  d : (d.natAbs : Int) * 2 ^ (b.toNat + 1) ≤ M
  l1 : 3 ≤ L₁
  l1b : L₁ ≤ b
  l2 : 3 ≤ L₂
  l2b : L₂ ≤ b
  mb : intBits M ≤ 200

theorem pow_le_int {m n : Nat} (h : m ≤ n) : (2 : Int) ^ m ≤ 2 ^ n := by
  have h1 : (2 : Nat) ^ m ≤ 2 ^ n := Nat.pow_le_pow_right (by decide) h
  have e1 : ((2 ^ m : Nat) : Int) = 2 ^ m := Int.natCast_pow 2 _
  have e2 : ((2 ^ n : Nat) : Int) = 2 ^ n := Int.natCast_pow 2 _
  omega
/-- a number little more than the distance is small too -/
theorem small_of {M b d L x : Int} (hm : 1000 * 2 ^ (b.toNat + 1) ≤ M) (hd : (d.natAbs : Int) * 2 ^ (b.toNat + 1) ≤ M) (hL : 0 ≤ L) (hLb : L ≤ b) (hx : 8 * (x.natAbs : Int) ≤ 9 * (d.natAbs : Int) + 9) :
    (x.natAbs : Int) * 2 ^ L.toNat * 4 ≤ 3 * M := by
  have e : (2 : Int) ^ (b.toNat + 1) = 2 * 2 ^ b.toNat := by rw [Int.pow_succ]; omega
  rw [e] at hm hd
  have h1 := pow_le_int (show L.toNat ≤ b.toNat by omega)
  have h2 := two_pow_pos L.toNat
  have h3 := Int.mul_le_mul_of_nonneg_left h1 (show 0 ≤ (x.natAbs : Int) by omega)
  have h4 := Int.mul_le_mul_of_nonneg_right hx (show 0 ≤ (2 : Int) ^ b.toNat by omega)
  generalize (2 : Int) ^ b.toNat = p at *
  generalize (2 : Int) ^ L.toNat = q at *
  generalize (x.natAbs : Int) = X at *
  generalize (d.natAbs : Int) = D at *
  grind

theorem Asked.small {M b d L₁ L₂ : Int} (A : Asked M b d L₁ L₂) : (d.natAbs : Int) * 2 ^ L₁.toNat * 4 ≤ 3 * M ∧ (d.natAbs : Int) * 2 ^ L₂.toNat * 4 ≤ 3 * M := by
  have a := A.m; have b' := A.d; have c := A.l1; have d' := A.l1b; have e := A.l2; have f := A.l2b
  exact ⟨small_of A.m A.d (by omega) A.l1b (by omega), small_of A.m A.d (by omega) A.l2b (by omega)⟩
end Mine

namespace Mine
open PySem.Builtin.Int (intBits)

/-- what the contract of _iexp asks -/
structure PreE (M x L : Int) : Prop where
  b : intBits x ≤ 2000
  r : rOf M x L ≤ 1000
  e : ∀ j : Nat, (j : Int) < tOf M L → intBits (eS x (M * 2 ^ rOf M x L) (tOf M L) j) ≤ 3000
  d : ∀ j : Nat, j ≤ rOf M x L → intBits (dS M (rOf M x L) (iexpY M x L) j) ≤ 3000
end Mine

namespace Mine
open PySem.Builtin.Int (intBits)
open Ex

theorem P_int (n : Nat) : ((2 ^ n : Int) : Rat) = P n := by rw [two_pow_rat]; rfl

/-- the scale behind j of R doublings -/
def sc (M : Int) (R j : Nat) : Rat := (M : Rat) * P (R - j)
theorem sc_pos {M : Int} (hM : 0 < M) (R j : Nat) : 0 < sc M R j := Rat.mul_pos (castpos hM) (P_pos _)
theorem sc_succ {M : Int} {R j : Nat} (h : j < R) : sc M R (j + 1) = sc M R j / 2 := by
  unfold sc
  have e : R - j = (R - (j + 1)) + 1 := by omega
  rw [e, P_succ]
  grind
theorem sc_last {M : Int} {R : Nat} : sc M R R = (M : Rat) := by
  unfold sc
  rw [Nat.sub_self, P_zero]
  grind
theorem sc_ge {M : Int} (hM : 0 < M) {R j : Nat} : (M : Rat) ≤ sc M R j := by
  unfold sc
  have h := Rat.mul_le_mul_of_nonneg_left (P_ge1 (R - j)) (Rat.le_of_lt (castpos hM))
  grind

theorem half_half (x s : Rat) (hs : 0 < s) : x / (s / 2) = x / s + x / s := by grind

theorem dS_rat {M Y : Int} {R j : Nat} (hM : 0 < M) (hj : j < R) :
    (dS M R Y j : Rat) * ((dS M R Y j : Rat) + 2 * sc M R j) / (2 * sc M R j) - 1 / 2 ≤ (dS M R Y (j + 1) : Rat) ∧
    (dS M R Y (j + 1) : Rat) ≤ (dS M R Y j : Rat) * ((dS M R Y j : Rat) + 2 * sc M R j) / (2 * sc M R j) + 1 / 2 := by
  rw [dS_succ]
  generalize dS M R Y j = y
  have hp : 0 < M * 2 ^ (R - 1 - j + 2) := shl_pos hM _
  have d := divN_rat (a := y * (y + M * 2 ^ (R - 1 - j + 2))) (b := M * 2 ^ (R - 1 - j + 2)) hp
  have e : ((M * 2 ^ (R - 1 - j + 2) : Int) : Rat) = 2 * sc M R j := by
    rw [rat_mul_cast, P_int]
    unfold sc
    have e1 : R - 1 - j + 2 = (R - j) + 1 := by omega
    rw [e1, P_succ]
    grind
  rw [cast_mul3, e] at d
  exact d

theorem natAbs_bits {n : Int} : (n.natAbs : Int) < 2 ^ intBits n := by
  have h := intBits_le_iff.mp (Nat.le_refl (intBits n))
  have e : ((2 ^ intBits n : Nat) : Int) = 2 ^ intBits n := Int.natCast_pow 2 _
  omega
/-- what the doublings leave of x is below 2 ^ - L -/
theorem rOf_spec {M x L : Int} (hM : 0 < M) : (x.natAbs : Int) * 2 ^ L.toNat < M * 2 ^ rOf M x L := by
  have h := natAbs_bits (n := (x * 2 ^ L.toNat) / M)
  have h1 := Int.mul_ediv_add_emod (x * 2 ^ L.toNat) M
  have h2 := Int.emod_nonneg (x * 2 ^ L.toNat) (by omega : M ≠ 0)
  have h3 := Int.emod_lt_of_pos (x * 2 ^ L.toNat) hM
  have hp := two_pow_pos L.toNat
  unfold rOf
  generalize intBits ((x * 2 ^ L.toNat) / M) = r at *
  generalize (x * 2 ^ L.toNat) % M = m at *
  rcases Int.le_total 0 x with hx | hx
  · have e : (x.natAbs : Int) = x := by omega
    rw [e]
    have hxp := Int.mul_nonneg hx (Int.le_of_lt hp)
    have hq : 0 ≤ (x * 2 ^ L.toNat) / M := Int.ediv_nonneg hxp (by omega)
    generalize (x * 2 ^ L.toNat) / M = q at *
    have := Int.mul_le_mul_of_nonneg_left (show q + 1 ≤ 2 ^ r by omega) (Int.le_of_lt hM)
    grind
  · have e : (x.natAbs : Int) = -x := by omega
    rw [e]
    have hxp := Int.mul_nonneg (show 0 ≤ -x by omega) (Int.le_of_lt hp)
    have e2 : -x * 2 ^ L.toNat = -(x * 2 ^ L.toNat) := Int.neg_mul _ _
    rw [e2] at *
    generalize (x * 2 ^ L.toNat) / M = q at *
    generalize x * 2 ^ L.toNat = X at *
    have h5 : -q < 2 ^ r := by omega
    have := Int.mul_lt_mul_of_pos_left h5 hM
    grind

/-- the series, ahead of the doublings: w0 at least what it errs by -/
theorem iexp_start {M x L : Int} {c w0 : Rat} {a : Rat} (hM : 0 < M) (hL : 3 ≤ L) (a0 : 0 ≤ a) (az : (x : Rat) / sc M (rOf M x L) 0 = a ∨ (x : Rat) / sc M (rOf M x L) 0 = -a) (ha4 : a ≤ 1 / 4)
    (hc : 0 ≤ c) (hcc : 1 / 2 + a * c ≤ c) (hw : c + sc M (rOf M x L) 0 * (5 / 4 * mz ((tOf M L).toNat + 1) a) ≤ w0) :
    EL ((x : Rat) / sc M (rOf M x L) 0) (1 + ((iexpY M x L : Rat) + w0) / sc M (rOf M x L) 0) ∧ EG ((x : Rat) / sc M (rOf M x L) 0) (1 + ((iexpY M x L : Rat) - w0) / sc M (rOf M x L) 0) := by
  have hT := tOf_pos (M := M) (L := L) (by omega) (by omega)
  have hMs : 0 < M * 2 ^ rOf M x L := shl_pos hM _
  have es : ((M * 2 ^ rOf M x L : Int) : Rat) = sc M (rOf M x L) 0 := by
    rw [rat_mul_cast, P_int]; rfl
  have hs := sc_pos hM (rOf M x L) 0
  have key := iexp_base (x := x) (Ms := M * 2 ^ rOf M x L) (T := (tOf M L).toNat) (c := c) (z := (x : Rat) / sc M (rOf M x L) 0) hMs (by omega) (by rw [es]) a0 ha4 az hc hcc
  rw [es] at key
  have eY : iexpY M x L = eS x (M * 2 ^ rOf M x L) (((tOf M L).toNat : Nat) : Int) ((tOf M L).toNat - 1) := by
    unfold iexpY
    have e1 : (((tOf M L).toNat : Nat) : Int) = tOf M L := by omega
    have e2 : (tOf M L - 1).toNat = (tOf M L).toNat - 1 := by omega
    rw [e1, e2]
  rw [eY]
  obtain ⟨k1, k2⟩ := key
  generalize (eS x (M * 2 ^ rOf M x L) (((tOf M L).toNat : Nat) : Int) ((tOf M L).toNat - 1) : Rat) = E at *
  generalize sc M (rOf M x L) 0 * (5 / 4 * mz ((tOf M L).toNat + 1) a) = t at *
  generalize sc M (rOf M x L) 0 = s at *
  constructor
  · refine k1.mono ?_
    have := div_mono hs (show E + c + t ≤ E + w0 by grind)
    grind
  · refine k2.mono ?_
    have := div_mono hs (show E - w0 ≤ E - c - t by grind)
    grind

/-- x by the scale ahead of the doublings, without its sign -/
theorem abs_start {M x L : Int} (hM : 0 < M) : ∃ a : Rat, 0 ≤ a ∧ ((x : Rat) / sc M (rOf M x L) 0 = a ∨ (x : Rat) / sc M (rOf M x L) 0 = -a) ∧ a * sc M (rOf M x L) 0 = ((x.natAbs : Int) : Rat) ∧ a * (2 : Rat) ^ L.toNat ≤ 1 := by
  have hMs : 0 < M * 2 ^ rOf M x L := shl_pos hM _
  have es : ((M * 2 ^ rOf M x L : Int) : Rat) = sc M (rOf M x L) 0 := by
    rw [rat_mul_cast, P_int]; rfl
  obtain ⟨a, a0, az, am⟩ := absz (x := x) hMs
  have sp := rOf_spec (x := x) (L := L) hM
  have k := castle (Int.le_of_lt sp)
  rw [es] at az am k
  rw [rat_mul_cast, two_pow_rat, ← am] at k
  refine ⟨a, a0, az, am, ?_⟩
  have hs := sc_pos hM (rOf M x L) 0
  generalize sc M (rOf M x L) 0 = s at *
  generalize (2 : Rat) ^ L.toNat = p at *
  rcases Classical.em (a * p ≤ 1) with y | y
  · exact y
  · have := Rat.mul_lt_mul_of_pos_right (lt_of_not_le y) hs
    grind

end Mine

namespace Mine
open PySem.Builtin.Int (intBits)
open Ex

theorem iexpF_unit {M x L : Int} {w : Rat} (hM : 0 < M) : 1 + ((dS M (rOf M x L) (iexpY M x L) (rOf M x L) : Rat) + w) / (M : Rat) = ((iexpF M x L : Rat) + w) / (M : Rat) := by
  unfold iexpF
  have hM' := castpos hM
  have e : ((M + dS M (rOf M x L) (iexpY M x L) (rOf M x L) : Int) : Rat) = (M : Rat) + (dS M (rOf M x L) (iexpY M x L) (rOf M x L) : Rat) := by push_cast; rfl
  rw [e]
  generalize (dS M (rOf M x L) (iexpY M x L) (rOf M x L) : Rat) = y
  generalize (M : Rat) = N at *
  grind
theorem rOf_le_pos {M x L : Int} {n : Nat} (hM : 0 < M) (hx : 0 ≤ x) (h : x * 2 ^ L.toNat < M * 2 ^ n) : rOf M x L ≤ n := by
  unfold rOf
  refine intBits_le_iff.mpr ?_
  have hp := two_pow_pos L.toNat
  have h0 : 0 ≤ (x * 2 ^ L.toNat) / M := Int.ediv_nonneg (Int.mul_nonneg hx (Int.le_of_lt hp)) (Int.le_of_lt hM)
  have h1 : (x * 2 ^ L.toNat) / M < 2 ^ n := Int.ediv_lt_of_lt_mul hM (by rw [Int.mul_comm (2 ^ n) M]; exact h)
  have e : ((2 ^ n : Nat) : Int) = 2 ^ n := Int.natCast_pow 2 n
  omega
theorem rOf_le_neg {M x L : Int} {n : Nat} (hM : 0 < M) (hx : x ≤ 0) (h : -(x * 2 ^ L.toNat) ≤ M * (2 ^ n - 1)) : rOf M x L ≤ n := by
  unfold rOf
  refine intBits_le_iff.mpr ?_
  have hp := two_pow_pos L.toNat
  have h0 : (x * 2 ^ L.toNat) / M ≤ 0 := by
    have : (x * 2 ^ L.toNat) / M ≤ 0 / M := Int.ediv_le_ediv hM (by
      have := Int.mul_nonneg (show 0 ≤ -x by omega) (Int.le_of_lt hp)
      rw [Int.neg_mul] at this
      omega)
    rwa [Int.zero_ediv] at this
  have h1 : -(2 ^ n - 1) ≤ (x * 2 ^ L.toNat) / M := (Int.le_ediv_iff_mul_le hM).mpr (by
    have : -(2 ^ n - 1) * M = -(M * (2 ^ n - 1)) := by grind
    rw [this]; omega)
  have e : ((2 ^ n : Nat) : Int) = 2 ^ n := Int.natCast_pow 2 n
  omega

/-- sizes that the contract of _iexp asks -/
theorem preE_of {M x L : Int} {B : Int} (hM : 0 < M) (hMb : intBits M ≤ 300) (hL : 0 < L) (hR : rOf M x L ≤ 400) (hxb : intBits x ≤ 2000) (hB0 : 0 < B) (hB : intBits B ≤ 200)
    (h : ∀ j ≤ rOf M x L, -((B : Rat) * sc M (rOf M x L) j) ≤ (dS M (rOf M x L) (iexpY M x L) j : Rat) ∧ (dS M (rOf M x L) (iexpY M x L) j : Rat) ≤ (B : Rat) * sc M (rOf M x L) j) : PreE M x L := by
  have hMs : 0 < M * 2 ^ rOf M x L := shl_pos hM _
  have hMsb : intBits (M * 2 ^ rOf M x L) ≤ 701 := shl_bits hMb (by omega)
  have hT := tOf_pos (M := M) (L := L) (by omega) (by omega)
  refine ⟨hxb, by omega, fun j hj => ?_, fun j hj => ?_⟩
  · have sp := rOf_spec (x := x) (L := L) hM
    have hp := two_pow_ge1 L.toNat
    have h1 := Int.mul_le_mul_of_nonneg_left hp (show 0 ≤ (x.natAbs : Int) by omega)
    have := eS_all (x := x) (Ms := M * 2 ^ rOf M x L) (T := tOf M L) (c := M * 2 ^ rOf M x L) (by omega) (by omega) (by omega) hMs (by omega) j hj
    exact bits_mono (bits_abs (b := 2 * (M * 2 ^ rOf M x L)) (by omega) (by omega) (intBits_mul_le (m := 64) (PySem.intBits_le_64 (by decide) (by decide)) hMsb))
  · obtain ⟨a, b⟩ := h j hj
    have hs : sc M (rOf M x L) j ≤ sc M (rOf M x L) 0 := by
      unfold sc
      exact Rat.mul_le_mul_of_nonneg_left (P_mono (by omega)) (Rat.le_of_lt (castpos hM))
    have es : ((B * (M * 2 ^ rOf M x L) : Int) : Rat) = (B : Rat) * sc M (rOf M x L) 0 := by
      rw [rat_mul_cast, rat_mul_cast, P_int]; rfl
    have hB' := castpos hB0
    have k := Rat.mul_le_mul_of_nonneg_left hs (Rat.le_of_lt hB')
    have k1 : (dS M (rOf M x L) (iexpY M x L) j : Rat) ≤ ((B * (M * 2 ^ rOf M x L) : Int) : Rat) := by rw [es]; exact Rat.le_trans b k
    have k2 : ((-(B * (M * 2 ^ rOf M x L)) : Int) : Rat) ≤ (dS M (rOf M x L) (iexpY M x L) j : Rat) := by
      rw [Rat.intCast_neg, es]
      grind
    exact bits_mono (bits_abs (b := B * (M * 2 ^ rOf M x L)) (Rat.intCast_le_intCast.mp k2) (Rat.intCast_le_intCast.mp k1) (intBits_mul_le hB hMsb))

end Mine

namespace Mine
open PySem.Builtin.Int (intBits)
open Ex

end Mine

namespace Mine
open PySem.Builtin.Int (intBits)

/-- the first q + 1 of the stored figures of log(10) -/
def l10 (q : Int) : Int := 23025850929940456840179914546843642076011014886 / 10 ^ (46 - q).toNat
theorem l10_text_nat : ∀ n : Fin 47, PySem.intText? (Txt.slice (Str.ofString "23025850929940456840179914546843642076011014886") none (some (((n : Nat) : Int) + 1))) = some (l10 ((n : Nat) : Int)) ∧ (Txt.slice (Str.ofString "23025850929940456840179914546843642076011014886") none (some (((n : Nat) : Int) + 1))).length ≤ 640 := by decide +kernel
theorem l10_text {q : Int} (h0 : 0 ≤ q) (h1 : q ≤ 46) : PySem.intText? (Txt.slice (Str.ofString "23025850929940456840179914546843642076011014886") none (some (q + 1))) = some (l10 q) ∧ (Txt.slice (Str.ofString "23025850929940456840179914546843642076011014886") none (some (q + 1))).length ≤ 640 := by
  obtain ⟨n, rfl⟩ := Int.eq_ofNat_of_zero_le h0
  exact l10_text_nat ⟨n, by omega⟩

theorem l10_pos_nat : ∀ n : Fin 47, 0 < l10 ((n : Nat) : Int) ∧ l10 ((n : Nat) : Int) < 2 ^ 160 := by decide +kernel
theorem l10_pos {q : Int} (h0 : 0 ≤ q) (h1 : q ≤ 46) : 0 < l10 q ∧ l10 q < 2 ^ 160 := by
  obtain ⟨n, rfl⟩ := Int.eq_ofNat_of_zero_le h0
  exact l10_pos_nat ⟨n, by omega⟩

theorem ten_pos (n : Nat) : (0 : Int) < 10 ^ n := Int.pow_pos (by decide)
theorem ten_bits46 {n : Nat} (h : n ≤ 46) : intBits ((10 : Int) ^ n) ≤ 200 := by
  refine intBits_le_iff.mpr ?_
  rw [Int.natAbs_pow]
  have h1 : (10 : Nat) ^ n ≤ 10 ^ 46 := Nat.pow_le_pow_right (by decide) h
  have h2 : (10 : Nat) ^ 46 < 2 ^ 200 := by decide +kernel
  exact Nat.lt_of_le_of_lt h1 h2
theorem l10_bits {q : Int} (h0 : 0 ≤ q) (h1 : q ≤ 46) : intBits (l10 q) ≤ 9000 := by
  obtain ⟨a, b⟩ := l10_pos h0 h1
  have hp : (0 : Int) < 2 ^ 160 := two_pow_pos _
  exact bits_mono (bits_lt (k := 160) (by omega) b)
end Mine

namespace Mine
open Ex

theorem lg_up : eZ 26 (23025850929940456840179914546843642076011014886 / 160000000000000000000000000000000000000000000000) + 5 / 4 * mz 27 (23025850929940456840179914546843642076011014886 / 160000000000000000000000000000000000000000000000) ≤ (1154781984689458179666482887295508281566948041477534890154152 : Rat) / 1000000000000000000000000000000000000000000000000000000000000 := by decide +kernel
theorem lg_dn : (1154781984689458179666482887295508281566948041484748442395783 : Rat) / 1000000000000000000000000000000000000000000000000000000000000 ≤ eZ 26 (23025850929940456840179914546843642076011014887 / 160000000000000000000000000000000000000000000000) - mz 27 (23025850929940456840179914546843642076011014887 / 160000000000000000000000000000000000000000000000) := by decide +kernel
theorem dblL {q b c : Rat} (h : EL q b) (hc : b * b ≤ c) : EL (q + q) c := (EL.add h h).mono hc
theorem dblG {q b c : Rat} (h : EG q b) (hb : 0 < b) (hc : c ≤ b * b) : EG (q + q) c := (EG.add h h hb).mono hc
theorem four_dbl (q : Rat) : q / 16 + q / 16 + (q / 16 + q / 16) + (q / 16 + q / 16 + (q / 16 + q / 16)) + (q / 16 + q / 16 + (q / 16 + q / 16) + (q / 16 + q / 16 + (q / 16 + q / 16))) = q := by grind

/-- the stored figures of log(10) are no more than log(10) -/
theorem lg_EL : EL (23025850929940456840179914546843642076011014886 / 10000000000000000000000000000000000000000000000) 10 := by
  have k := (exp_taylor (z := 23025850929940456840179914546843642076011014886 / 160000000000000000000000000000000000000000000000) (by decide +kernel) (by decide +kernel) (.inl rfl) 25).1.mono lg_up
  have k4 := dblL (c := 10) (dblL (dblL (dblL k Rat.le_refl) Rat.le_refl) Rat.le_refl) (by decide +kernel)
  have e : (23025850929940456840179914546843642076011014886 : Rat) / 160000000000000000000000000000000000000000000000 = 23025850929940456840179914546843642076011014886 / 10000000000000000000000000000000000000000000000 / 16 := by decide +kernel
  rw [e, four_dbl] at k4
  exact k4
/-- and one more in the last place is no less -/
theorem lg_EG : EG (23025850929940456840179914546843642076011014887 / 10000000000000000000000000000000000000000000000) 10 := by
  have k := (exp_taylor (z := 23025850929940456840179914546843642076011014887 / 160000000000000000000000000000000000000000000000) (by decide +kernel) (by decide +kernel) (.inl rfl) 25).2.mono lg_dn
  have k4 := dblG (c := 10) (dblG (dblG (dblG k (by decide +kernel) Rat.le_refl) (by decide +kernel) Rat.le_refl) (by decide +kernel) Rat.le_refl) (by decide +kernel) (by decide +kernel)
  have e : (23025850929940456840179914546843642076011014887 : Rat) / 160000000000000000000000000000000000000000000000 = 23025850929940456840179914546843642076011014887 / 10000000000000000000000000000000000000000000000 / 16 := by decide +kernel
  rw [e, four_dbl] at k4
  exact k4


theorem pow_add' (a : Rat) (m : Nat) : ∀ n : Nat, a ^ (m + n) = a ^ m * a ^ n
  | 0 => by rw [Rat.pow_zero, Nat.add_zero]; grind
  | n + 1 => by rw [← Nat.add_assoc, Rat.pow_succ, Rat.pow_succ, pow_add' a m n]; grind
theorem ten_cast (n : Nat) : (((10 : Int) ^ n : Int) : Rat) = (10 : Rat) ^ n := by push_cast; rfl
theorem tenQ_pos (n : Nat) : (0 : Rat) < (10 : Rat) ^ n := Rat.pow_pos (by decide)
/-- the first figures, cut: no more than log(10), and one more is no less -/
theorem l10_spec {q : Int} (h0 : 0 ≤ q) (h1 : q ≤ 46) : EL ((l10 q : Rat) / (10 : Rat) ^ q.toNat) 10 ∧ EG (((l10 q : Rat) + 1) / (10 : Rat) ^ q.toNat) 10 := by
  have hp : (0 : Int) < 10 ^ (46 - q).toNat := Int.pow_pos (by decide)
  have a := Int.mul_ediv_add_emod 23025850929940456840179914546843642076011014886 (10 ^ (46 - q).toNat)
  have b := Int.emod_nonneg 23025850929940456840179914546843642076011014886 (show (10 : Int) ^ (46 - q).toNat ≠ 0 by omega)
  have c := Int.emod_lt_of_pos 23025850929940456840179914546843642076011014886 hp
  have e : (10 : Rat) ^ (46 - q).toNat * (10 : Rat) ^ q.toNat = 10000000000000000000000000000000000000000000000 := by
    rw [← pow_add']
    have : (46 - q).toNat + q.toNat = 46 := by omega
    rw [this]
    decide +kernel
  have hl : l10 q = 23025850929940456840179914546843642076011014886 / 10 ^ (46 - q).toNat := rfl
  rw [← hl] at a
  generalize l10 q = l at *
  generalize 23025850929940456840179914546843642076011014886 % (10 : Int) ^ (46 - q).toNat = m at *
  have k1 : ((10 ^ (46 - q).toNat * l : Int) : Rat) ≤ ((23025850929940456840179914546843642076011014886 : Int) : Rat) := Rat.intCast_le_intCast.mpr (by omega)
  have k2 : ((23025850929940456840179914546843642076011014887 : Int) : Rat) ≤ ((10 ^ (46 - q).toNat * (l + 1) : Int) : Rat) := Rat.intCast_le_intCast.mpr (by rw [Int.mul_add, Int.mul_one]; omega)
  have e1 : ((10 ^ (46 - q).toNat * l : Int) : Rat) = (10 : Rat) ^ (46 - q).toNat * (l : Rat) := by push_cast; rfl
  have e2 : ((10 ^ (46 - q).toNat * (l + 1) : Int) : Rat) = (10 : Rat) ^ (46 - q).toNat * ((l : Rat) + 1) := by push_cast; rfl
  rw [e1] at k1
  rw [e2] at k2
  have hq := tenQ_pos q.toNat
  have hr := tenQ_pos (46 - q).toNat
  generalize (10 : Rat) ^ q.toNat = Q at *
  generalize (10 : Rat) ^ (46 - q).toNat = R at *
  generalize (l : Rat) = l at *
  have c1 : ((23025850929940456840179914546843642076011014886 : Int) : Rat) = 23025850929940456840179914546843642076011014886 := rfl
  have c2 : ((23025850929940456840179914546843642076011014887 : Int) : Rat) = 23025850929940456840179914546843642076011014887 := rfl
  rw [c1] at k1
  rw [c2] at k2
  constructor
  · refine lg_EL.exp_mono (div_le hq ?_)
    have e3 : (23025850929940456840179914546843642076011014886 : Rat) / 10000000000000000000000000000000000000000000000 * Q = 23025850929940456840179914546843642076011014886 / R := by
      rw [← e]
      grind
    rw [e3]
    exact le_div hr (by grind)
  · refine lg_EG.exp_mono (le_div hq ?_)
    have e3 : (23025850929940456840179914546843642076011014887 : Rat) / 10000000000000000000000000000000000000000000000 * Q = 23025850929940456840179914546843642076011014887 / R := by
      rw [← e]
      grind
    rw [e3]
    exact div_le hr (by grind)

end Mine

namespace Mine
open PySem.Builtin.Int (intBits)
open Ex

/-- a / b, cut -/
theorem ediv_rat {a b : Int} (hb : 0 < b) : ((a / b : Int) : Rat) ≤ (a : Rat) / (b : Rat) ∧ (a : Rat) / (b : Rat) < ((a / b : Int) : Rat) + 1 := by
  have h1 := Int.mul_ediv_add_emod a b
  have h2 := Int.emod_nonneg a (by omega : b ≠ 0)
  have h3 := Int.emod_lt_of_pos a hb
  have hb' := castpos hb
  generalize a / b = q at *
  generalize a % b = r at *
  have e : (a : Rat) = (b : Rat) * (q : Rat) + (r : Rat) := by rw [← h1]; push_cast; rfl
  have k2 := castnn h2
  have k3 : (r : Rat) < (b : Rat) := by exact_mod_cast h3
  rw [e]
  generalize (b : Rat) = b at *
  generalize (q : Rat) = q at *
  generalize (r : Rat) = r at *
  have e2 : (b * q + r) / b = q + r / b := by grind
  rw [e2]
  have k4 := div_nn k2 hb'
  have k5 : r / b < 1 := by
    rcases Classical.em (r / b < 1) with x | x
    · exact x
    · have := le_div_mul hb' (Rat.not_lt.mp x)
      grind
  constructor <;> grind

theorem EL3 : EL 3 64 := by
  have a := EL.quad (x := 3 / 8) (by decide +kernel)
  have b := dblL (c := 64) (dblL (dblL a Rat.le_refl) Rat.le_refl) (by decide +kernel)
  have e : (3 : Rat) / 8 + 3 / 8 + (3 / 8 + 3 / 8) + (3 / 8 + 3 / 8 + (3 / 8 + 3 / 8)) = 3 := by grind
  rw [e] at b
  exact b


/-- between two turns of the law's own bounds: j of n squarings are done -/
structure BInv (v : Rat) (one : Int) (n j : Nat) (low high : Int) : Prop where
  g : EG (v / P (n - j)) ((low : Rat) / (one : Rat))
  l : EL (v / P (n - j)) ((high : Rat) / (one : Rat))
  g1 : one ≤ low
  l1 : one ≤ high
  b : EG (3 / P (n - j) - 1 / (one : Rat)) ((high : Rat) / (one : Rat))

theorem one_le_rat {one a : Int} (ho : 0 < one) (h : one ≤ a) : 1 ≤ (a : Rat) / (one : Rat) := le_div (castpos ho) (by have := castle h; grind)
theorem le_64 {q : Rat} {a one : Int} (ho : 0 < one) (h : EG q ((a : Rat) / (one : Rat))) (hq : q ≤ 3) : a ≤ 64 * one := by
  have k := div_le_mul (castpos ho) ((h.exp_mono hq).le EL3)
  have e : ((64 * one : Int) : Rat) = 64 * (one : Rat) := by push_cast; rfl
  rw [← e] at k
  exact Rat.intCast_le_intCast.mp k
theorem BInv.bound {v : Rat} {one : Int} {n j : Nat} {low high : Int} (h : BInv v one n j low high) (ho : 0 < one) (v1 : v ≤ 1) : low ≤ 64 * one ∧ high ≤ 64 * one := by
  have p1 := P_ge1 (n - j)
  have p0 := P_pos (n - j)
  refine ⟨le_64 ho h.g ?_, le_64 ho h.b ?_⟩
  · have : v / P (n - j) ≤ 1 := div_le p0 (by grind)
    grind
  · have h1 : 3 / P (n - j) ≤ 3 := div_le p0 (by grind)
    have h2 := div_nn (show (0 : Rat) ≤ 1 by decide) (castpos ho)
    grind

theorem div_P_half (x : Rat) {n j : Nat} (h : j < n) : x / P (n - (j + 1)) = x / P (n - j) + x / P (n - j) := by
  have e : n - j = (n - (j + 1)) + 1 := by omega
  rw [e, P_succ]
  have := P_pos (n - (j + 1))
  generalize P (n - (j + 1)) = p at *
  grind

theorem BInv.turn {v : Rat} {one : Int} {n j : Nat} {low high : Int} (h : BInv v one n j low high) (ho : 0 < one) (hj : j < n) :
    BInv v one n (j + 1) (low * low / one) (-(-high * high / one)) := by
  have ho' := castpos ho
  have r1 := one_le_rat ho h.g1
  have r2 := one_le_rat ho h.l1
  obtain ⟨d1, d2⟩ := ediv_rat (a := low * low) ho
  obtain ⟨u1, u2⟩ := ediv_rat (a := -high * high) ho
  have eu : ((-high * high : Int) : Rat) = -((high : Rat) * (high : Rat)) := by push_cast; grind
  have en : ((-(-high * high / one) : Int) : Rat) = -((-high * high / one : Int) : Rat) := Rat.intCast_neg _
  rw [rat_mul_cast] at d1 d2
  rw [eu] at u1 u2
  have eh : ∀ x : Rat, x / (one : Rat) * (x / (one : Rat)) * (one : Rat) = x * x / (one : Rat) := fun x => by
    generalize (one : Rat) = o at *
    grind
  have hup : (high : Rat) / (one : Rat) * ((high : Rat) / (one : Rat)) ≤ ((-(-high * high / one) : Int) : Rat) / (one : Rat) := le_div ho' (by
    rw [en, eh]
    have : -((high : Rat) * (high : Rat)) / (one : Rat) = -((high : Rat) * (high : Rat) / (one : Rat)) := by
      generalize (one : Rat) = o at *
      grind
    rw [this] at u1
    grind)
  have hup2 : ((-(-high * high / one) : Int) : Rat) / (one : Rat) ≤ (high : Rat) / (one : Rat) * ((high : Rat) / (one : Rat)) + 1 / (one : Rat) := div_le ho' (by
    rw [en]
    have : -((high : Rat) * (high : Rat)) / (one : Rat) = -((high : Rat) * (high : Rat) / (one : Rat)) := by
      generalize (one : Rat) = o at *
      grind
    rw [this] at u2
    have e3 : ((high : Rat) / (one : Rat) * ((high : Rat) / (one : Rat)) + 1 / (one : Rat)) * (one : Rat) = (high : Rat) * (high : Rat) / (one : Rat) + 1 := by
      generalize (one : Rat) = o at *
      grind
    rw [e3]
    grind)
  have hlo : ((low * low / one : Int) : Rat) / (one : Rat) ≤ (low : Rat) / (one : Rat) * ((low : Rat) / (one : Rat)) := div_le ho' (by rw [eh]; exact d1)
  have g2 : one ≤ low * low / one := (Int.le_ediv_iff_mul_le ho).mpr (Int.mul_le_mul h.g1 h.g1 (Int.le_of_lt ho) (by have := h.g1; omega))
  have l2 : one ≤ -(-high * high / one) := by
    have : -high * high / one ≤ -one := by
      refine Int.le_of_lt_add_one (Int.ediv_lt_of_lt_mul ho ?_)
      have := Int.mul_le_mul h.l1 h.l1 (Int.le_of_lt ho) (by have := h.l1; omega)
      grind
    omega
  have e1 := div_P_half v hj
  have e3 := div_P_half 3 hj
  refine ⟨?_, ?_, g2, l2, ?_⟩
  · rw [e1]
    exact (EG.add h.g h.g (by grind)).mono hlo
  · rw [e1]
    exact (EL.add h.l h.l).mono hup
  · rw [e3]
    have k := EG.add (EG.add h.b h.b (by grind)) (EG.one_add (1 / (one : Rat))) (by have := div_pos (show (0 : Rat) < 1 by decide) ho'; grind)
    have e4 : 3 / P (n - j) - 1 / (one : Rat) + (3 / P (n - j) - 1 / (one : Rat)) + 1 / (one : Rat) = 3 / P (n - j) + 3 / P (n - j) - 1 / (one : Rat) := by grind
    rw [e4] at k
    refine k.mono (Rat.le_trans hup2 ?_)
    have hh : 1 ≤ (high : Rat) / (one : Rat) * ((high : Rat) / (one : Rat)) := by
      have := Rat.mul_le_mul_of_nonneg_left r2 (show 0 ≤ (high : Rat) / (one : Rat) by grind)
      grind
    have := Rat.mul_le_mul_of_nonneg_right hh (div_nn (show (0 : Rat) ≤ 1 by decide) ho')
    generalize (high : Rat) / (one : Rat) * ((high : Rat) / (one : Rat)) = H at *
    grind

theorem start_alg {D o h u e : Rat} (ho : 0 < o) (he : e = 1 / o) (hu0 : 0 ≤ u) (hu : u ≤ 1 / 1000) (heu : 1000 * e ≤ u) (hD : o - u * o - 1 ≤ D) (hD2 : h ≤ o * o / D + 1) : h / o ≤ 1 + (3 * u - e) := by
  have heo : e * o = 1 := by rw [he]; grind
  have he0 : 0 < e := by rw [he]; exact div_pos (by decide) ho
  -- o o / D ≤ o (1 + 2 u)
  have k0 : 0 < o - u * o - 1 := by
    have : u * o ≤ 1 / 1000 * o := Rat.mul_le_mul_of_nonneg_right hu (Rat.le_of_lt ho)
    have : 1000 * e * o ≤ u * o := Rat.mul_le_mul_of_nonneg_right heu (Rat.le_of_lt ho)
    grind
  have k1 : o * o / D ≤ o + 2 * (u * o) := by
    refine div_le (by grind) ?_
    have a1 := Rat.mul_le_mul_of_nonneg_left hD (show 0 ≤ o + 2 * (u * o) by
      have := Rat.mul_nonneg hu0 (Rat.le_of_lt ho)
      grind)
    refine Rat.le_trans ?_ a1
    have b1 : 1000 * e * (o * o) ≤ u * (o * o) := Rat.mul_le_mul_of_nonneg_right heu (Rat.le_of_lt (Rat.mul_pos ho ho))
    have b2 : 1000 * o ≤ u * (o * o) := by
      have : 1000 * e * (o * o) = 1000 * o := by grind
      grind
    have b3 : u * (u * (o * o)) ≤ 1 / 1000 * (u * (o * o)) := Rat.mul_le_mul_of_nonneg_right hu (Rat.mul_nonneg hu0 (Rat.le_of_lt (Rat.mul_pos ho ho)))
    have b4 : u * o ≤ 1 / 1000 * o := Rat.mul_le_mul_of_nonneg_right hu (Rat.le_of_lt ho)
    grind
  refine div_le ho ?_
  have b1 : 1000 * e * o ≤ u * o := Rat.mul_le_mul_of_nonneg_right heu (Rat.le_of_lt ho)
  grind

theorem BInv.start {c K one : Int} {n : Nat} (hc : 0 ≤ c) (hcK : c ≤ K) (hK : 0 < K) (ho : 0 < one) (hn : 10 ≤ n) (hon : 1000 * 2 ^ n ≤ one) :
    BInv ((c : Rat) / (K : Rat)) one n 0 (one + c * one / (K * 2 ^ n)) (-(-one * one / (one + -c * one / (K * 2 ^ n)))) ∧ 0 < one + -c * one / (K * 2 ^ n) := by
  have ho' := castpos ho
  have hK' := castpos hK
  have hP := P_pos n
  have hp : 0 < K * 2 ^ n := shl_pos hK n
  have ep : ((K * 2 ^ n : Int) : Rat) = (K : Rat) * P n := by rw [rat_mul_cast, P_int]
  obtain ⟨a1, a2⟩ := ediv_rat (a := c * one) hp
  obtain ⟨b1, b2⟩ := ediv_rat (a := -c * one) hp
  have ec : ((-c * one : Int) : Rat) = -((c : Rat) * (one : Rat)) := by push_cast; grind
  rw [rat_mul_cast, ep] at a1 a2
  rw [ec, ep] at b1 b2
  have hc' := castnn hc
  have hcK' := castle hcK
  -- v / P n = u
  have eu : (c : Rat) / (K : Rat) / P n * (one : Rat) = (c : Rat) * (one : Rat) / ((K : Rat) * P n) := by
    generalize (K : Rat) = k at *
    generalize P n = q at *
    grind
  have eu' : -((c : Rat) * (one : Rat)) / ((K : Rat) * P n) = -((c : Rat) / (K : Rat) / P n * (one : Rat)) := by
    rw [eu]
    generalize (K : Rat) * P n = k at *
    grind
  have hv0 : 0 ≤ (c : Rat) / (K : Rat) := div_nn hc' hK'
  have hv1 : (c : Rat) / (K : Rat) ≤ 1 := div_le hK' (by grind)
  have hu0 : 0 ≤ (c : Rat) / (K : Rat) / P n := div_nn hv0 hP
  have hu1 : (c : Rat) / (K : Rat) / P n ≤ 1 / P n := div_mono hP hv1
  have hP10 : (1000 : Rat) ≤ P n := by
    have h1 := P_mono hn
    have h2 : P 10 = 1024 := by decide +kernel
    rw [h2] at h1
    grind
  have hinv : 1 / P n ≤ 1 / 1000 := div_le hP (by grind)
  have hone : 1000 * (1 / (one : Rat)) ≤ 1 / P n := by
    refine le_div hP ?_
    have k : ((1000 * 2 ^ n : Int) : Rat) ≤ (one : Rat) := castle hon
    rw [rat_mul_cast, P_int] at k
    have k2 : 1000 * (1 / (one : Rat)) * P n = 1000 * P n / (one : Rat) := by
      generalize (one : Rat) = o at *
      grind
    rw [k2]
    refine div_le ho' ?_
    have e1000 : ((1000 : Int) : Rat) = 1000 := rfl
    rw [e1000] at k
    grind
  rw [← eu] at a1 a2
  rw [eu'] at b1 b2
  generalize hu : (c : Rat) / (K : Rat) / P n = u at *
  -- the divisor
  have eD : ((one + -c * one / (K * 2 ^ n) : Int) : Rat) = (one : Rat) + ((-c * one / (K * 2 ^ n) : Int) : Rat) := by push_cast; rfl
  have D1 : ((one + -c * one / (K * 2 ^ n) : Int) : Rat) ≤ (one : Rat) - u * (one : Rat) := by rw [eD]; grind
  have D2 : (one : Rat) - u * (one : Rat) - 1 ≤ ((one + -c * one / (K * 2 ^ n) : Int) : Rat) := by rw [eD]; grind
  have hu3 : u * (one : Rat) ≤ 1 / 1000 * (one : Rat) := Rat.mul_le_mul_of_nonneg_right (by grind) (Rat.le_of_lt ho')
  have ho1 : (1000 : Rat) ≤ (one : Rat) := by
    have : (1000 : Int) ≤ one := by
      have := two_pow_ge1 n
      omega
    exact_mod_cast this
  have Dp : 0 < one + -c * one / (K * 2 ^ n) := by
    have : (0 : Rat) < ((one + -c * one / (K * 2 ^ n) : Int) : Rat) := by grind
    exact_mod_cast this
  refine ⟨?_, Dp⟩
  generalize one + -c * one / (K * 2 ^ n) = D at *
  have Dp' := castpos Dp
  obtain ⟨h1, h2⟩ := ediv_rat (a := -one * one) Dp
  have eo : ((-one * one : Int) : Rat) = -((one : Rat) * (one : Rat)) := by push_cast; grind
  rw [eo] at h1 h2
  have en : ((-(-one * one / D) : Int) : Rat) = -((-one * one / D : Int) : Rat) := Rat.intCast_neg _
  have em : -((one : Rat) * (one : Rat)) / (D : Rat) = -((one : Rat) * (one : Rat) / (D : Rat)) := by
    generalize (D : Rat) = D at *
    grind
  rw [em] at h1 h2
  have el : ((one + c * one / (K * 2 ^ n) : Int) : Rat) = (one : Rat) + ((c * one / (K * 2 ^ n) : Int) : Rat) := by push_cast; rfl
  have hl0 : 0 ≤ c * one / (K * 2 ^ n) := Int.ediv_nonneg (Int.mul_nonneg hc (Int.le_of_lt ho)) (Int.le_of_lt hp)
  refine ⟨?_, ?_, by omega, ?_, ?_⟩
  · show EG ((c : Rat) / (K : Rat) / P n) _
    rw [hu]
    refine (EG.one_add u).mono (div_le ho' ?_)
    rw [el]
    grind
  · show EL ((c : Rat) / (K : Rat) / P n) _
    rw [hu]
    refine (EL.inv (by grind)).mono ?_
    refine le_div ho' ?_
    rw [en]
    have k : 1 / (1 - u) * (one : Rat) ≤ (one : Rat) * (one : Rat) / (D : Rat) := by
      refine le_div Dp' ?_
      have k1 : 1 / (1 - u) * (one : Rat) * (D : Rat) ≤ 1 / (1 - u) * (one : Rat) * ((one : Rat) - u * (one : Rat)) := Rat.mul_le_mul_of_nonneg_left D1 (Rat.mul_nonneg (div_nn (by decide) (by grind)) (Rat.le_of_lt ho'))
      have k2 : 1 / (1 - u) * (one : Rat) * ((one : Rat) - u * (one : Rat)) = (one : Rat) * (one : Rat) := by
        have : (1 - u) ≠ 0 := by grind
        generalize (one : Rat) = o at *
        grind
      rw [k2] at k1
      exact k1
    grind
  · have : (one : Rat) ≤ ((-(-one * one / D) : Int) : Rat) := by
      rw [en]
      have : (one : Rat) ≤ (one : Rat) * (one : Rat) / (D : Rat) := le_div Dp' (Rat.mul_le_mul_of_nonneg_left (by
        have := Rat.mul_nonneg hu0 (Rat.le_of_lt ho')
        grind) (Rat.le_of_lt ho'))
      grind
    exact Rat.intCast_le_intCast.mp this
  · show EG (3 / P n - 1 / (one : Rat)) _
    refine (EG.one_add _).mono ?_
    have e3 : 3 / P n = 3 * (1 / P n) := by grind
    rw [e3]
    refine start_alg (D := (D : Rat)) ho' rfl (div_nn (by decide) hP) hinv hone ?_ ?_
    · have := Rat.mul_le_mul_of_nonneg_right hu1 (Rat.le_of_lt ho')
      grind
    · rw [en]
      grind

end Mine

namespace Mine
open PySem.Builtin.Int (intBits)
open Ex

end Mine

namespace Mine
open PySem.Builtin.Int (intBits)
/-- what the law's own bounds tell -/
structure BDone (c k p low high : Int) : Prop where
  g : Ex.EG ((c : Rat) / ((10 ^ k.toNat : Int) : Rat)) ((low : Rat) / ((10 ^ (2 * p + 16).toNat : Int) : Rat))
  l : Ex.EL ((c : Rat) / ((10 ^ k.toNat : Int) : Rat)) ((high : Rat) / ((10 ^ (2 * p + 16).toNat : Int) : Rat))
  g1 : 10 ^ (2 * p + 16).toNat ≤ low
  l1 : 10 ^ (2 * p + 16).toNat ≤ high
  g2 : low ≤ 64 * 10 ^ (2 * p + 16).toNat
  l2 : high ≤ 64 * 10 ^ (2 * p + 16).toNat
theorem BDone.of {c k p one low high : Int} {n : Nat} (h : BInv ((c : Rat) / ((10 ^ k.toNat : Int) : Rat)) one n n low high) (h1 : low ≤ 64 * one) (h2 : high ≤ 64 * one) (ho : 10 ^ (2 * p + 16).toNat = one) (hpos : 0 < one) : BDone c k p low high := by
  subst ho
  have g := h.g
  have l := h.l
  rw [Nat.sub_self, Ex.P_zero] at g l
  have e : ∀ x : Rat, x / 1 = x := fun x => by grind
  rw [e] at g l
  exact ⟨g, l, h.g1, h.l1, h1, h2⟩
end Mine

namespace Mine
open PySem.Builtin.Int (intBits)
open Ex

end Mine

namespace Mine
open PySem.Builtin.Int (intBits)
open Ex

theorem l10_near_nat : ∀ n : Fin 47, 2 * 10 ^ (n : Nat) ≤ l10 ((n : Nat) : Int) ∧ 1000 * l10 ((n : Nat) : Int) ≤ 2303 * 10 ^ (n : Nat) := by decide +kernel
theorem l10_near {q : Int} (h0 : 0 ≤ q) (h1 : q ≤ 46) : 2 * 10 ^ q.toNat ≤ l10 q ∧ 1000 * l10 q ≤ 2303 * 10 ^ q.toNat := by
  obtain ⟨n, rfl⟩ := Int.eq_ofNat_of_zero_le h0
  exact l10_near_nat ⟨n, by omega⟩

end Mine

namespace Mine
open PySem.Builtin.Int (intBits)
open Ex

/-- 1 by (1 + t / 32) to the 32: no less than exp(-t) -/
def wq (t : Rat) : Rat := 1 / (1 + t / 32) ^ 32
theorem P5 : P 5 = 32 := by decide +kernel
theorem sq5 (u : Rat) : sq 5 u = u ^ 32 := by
  show sq 0 _ = _ <;> simp only [sq] <;> grind
theorem wq_EG {t : Rat} (h : 0 < 1 + t / 32) : EG t (1 / wq t) := fun c hc => by
  have k := hc 5 (by show 0 ≤ 1 + t / P 5; rw [P5]; exact Rat.le_of_lt h)
  have e : ap t 5 = (1 + t / 32) ^ 32 := by
    show sq 5 (1 + t / P 5) = _
    rw [P5, sq5]
  rw [e] at k
  unfold wq
  have e2 : (1 : Rat) / (1 / (1 + t / 32) ^ 32) = (1 + t / 32) ^ 32 := by
    have := Rat.pow_pos (n := 32) h
    grind
  rw [e2]
  exact k
theorem wq_pos {t : Rat} (h : 0 < 1 + t / 32) : 0 < wq t := div_pos (by decide) (Rat.pow_pos h)
theorem wq_le {t v B : Rat} (h : 0 < v) (h1 : v ≤ 1 + t / 32) (hB : 1 ≤ B * v ^ 32) (hB0 : 0 ≤ B) : wq t ≤ B := by
  have hp := Rat.pow_pos (n := 32) (show 0 < 1 + t / 32 by grind)
  refine div_le hp ?_
  have k := Rat.mul_le_mul_of_nonneg_left (pow_le_pow' (Rat.le_of_lt h) h1 32) hB0
  exact Rat.le_trans hB k

/-- η g' is a half at least -/
theorem eta_half {g2 g' e W r η : Rat} (he : 0 < e) (he2 : e ≤ 1 / 1000000) (hW : 0 < W) (hW2 : W ≤ 13) (hr : 0 ≤ r) (hr2 : r ≤ 64) (hη : η = W / 2 + 462 * e)
    (h1 : 1 / W ≤ g2 * ((1 + r * e / 2) * (1 + r * e / 2))) (h2 : g2 - e / 2 ≤ g') (hg2 : 0 ≤ g2) : 1 / 2 ≤ η * g' := by
  -- (1 + u)^2 (1 - 2 u) ≤ 1
  have re0 : 0 ≤ r * e := Rat.mul_nonneg hr (Rat.le_of_lt he)
  have re1 : r * e ≤ 64 * e := Rat.mul_le_mul_of_nonneg_right hr2 (Rat.le_of_lt he)
  have hWg : 1 ≤ W * (g2 * ((1 + r * e / 2) * (1 + r * e / 2))) := by
    have := Rat.mul_le_mul_of_nonneg_left h1 (Rat.le_of_lt hW)
    have e1 : W * (1 / W) = 1 := by grind
    rwa [e1] at this
  generalize r * e = q at *
  have k1 : (1 + q / 2) * (1 + q / 2) * (1 - q) ≤ 1 := by
    have a := Rat.mul_nonneg re0 re0
    have b := Rat.mul_nonneg a re0
    grind
  have Wg0 := Rat.mul_nonneg (Rat.le_of_lt hW) hg2
  -- 1 - q ≤ W g2
  have k2 : 1 - q ≤ W * g2 := by
    have m := Rat.mul_le_mul_of_nonneg_right hWg (show 0 ≤ 1 - q by grind)
    have m2 := Rat.mul_le_mul_of_nonneg_left k1 Wg0
    have e2 : W * (g2 * ((1 + q / 2) * (1 + q / 2))) * (1 - q) = W * g2 * ((1 + q / 2) * (1 + q / 2) * (1 - q)) := by grind
    rw [e2] at m
    grind
  -- W g' ≥ 1 - 64 e - 13 e / 2
  have k3 : 1 - 141 / 2 * e ≤ W * g' := by
    have m := Rat.mul_le_mul_of_nonneg_left h2 (Rat.le_of_lt hW)
    have m2 := Rat.mul_le_mul_of_nonneg_right hW2 (Rat.le_of_lt he)
    have e3 : W * (g2 - e / 2) = W * g2 - W * e / 2 := by grind
    rw [e3] at m
    generalize W * e = we at *
    generalize W * g2 = wg at *
    generalize W * g' = wg' at *
    grind
  have hg' : 0 ≤ g' := by
    have : 0 ≤ W * g' := by grind
    have hh := le_div hW (show 0 * W ≤ W * g' by grind)
    have e4 : W * g' / W = g' := by grind
    rwa [e4] at hh
  -- g' ≥ (1 - ..) / 13
  have k4 : 1 - 141 / 2 * e ≤ 13 * g' := Rat.le_trans k3 (Rat.mul_le_mul_of_nonneg_right hW2 hg')
  have k5 := Rat.mul_le_mul_of_nonneg_left k4 (show 0 ≤ 462 * e by grind)
  have ee : e * e ≤ 1 / 1000000 * e := Rat.mul_le_mul_of_nonneg_right he2 (Rat.le_of_lt he)
  have e5 : η * g' = W * g' / 2 + 462 * e * g' := by rw [hη]; grind
  rw [e5]
  have e6 : 462 * e * (1 - 141 / 2 * e) = 462 * e - 32571 * (e * e) := by grind
  rw [e6] at k5
  have e7 : 462 * e * (13 * g') = 13 * (462 * e * g') := by grind
  rw [e7] at k5
  generalize 462 * e * g' = z at *
  generalize e * e = ee' at *
  generalize W * g' = wg' at *
  grind

theorem up_alg {e r η W κ : Rat} (he : 0 < e) (he2 : e ≤ 1 / 1000000) (hW : 0 < W) (hW2 : W ≤ 13) (hr : 0 ≤ r) (hr2 : r ≤ 64) (hη : η = W / 2 + 462 * e) (hκ : 1 / 400 ≤ κ) :
    (1 + η * e) * ((1 + r * e / 2) * (1 + r * e / 2)) ≤ 1 + (r + W / 2 + κ) * e := by
  have η0 : 0 ≤ η := by grind
  have η7 : η ≤ 7 := by grind
  have a1 : η * r ≤ 448 := by
    have m1 := Rat.mul_le_mul_of_nonneg_right η7 hr
    grind
  have a2 : r * r ≤ 4096 := by
    have m1 := Rat.mul_le_mul_of_nonneg_right hr2 hr
    grind
  have a3 : η * r * r ≤ 28672 := by
    have m1 := Rat.mul_le_mul_of_nonneg_right a1 hr
    grind
  have e1 : (1 + η * e) * ((1 + r * e / 2) * (1 + r * e / 2)) = 1 + (η + r + (η * r + r * r / 4 + η * r * r * e / 4) * e) * e := by grind
  rw [e1]
  have b1 : η * r * r * e ≤ 28672 * e := Rat.mul_le_mul_of_nonneg_right a3 (Rat.le_of_lt he)
  have b2 : (η * r + r * r / 4 + η * r * r * e / 4) * e ≤ 1500 * e := Rat.mul_le_mul_of_nonneg_right (by
    generalize η * r * r * e = z at *
    generalize η * r = y at *
    generalize r * r = x at *
    grind) (Rat.le_of_lt he)
  have b3 : η + r + (η * r + r * r / 4 + η * r * r * e / 4) * e ≤ r + W / 2 + κ := by
    generalize (η * r + r * r / 4 + η * r * r * e / 4) * e = z at *
    grind
  have := Rat.mul_le_mul_of_nonneg_right b3 (Rat.le_of_lt he)
  grind

theorem dn_alg {e r η W κ : Rat} (he : 0 < e) (he2 : e ≤ 1 / 1000000) (hW : 0 < W) (hr : 0 ≤ r) (hη : η = W / 2 + 462 * e) (hκ : 1 / 400 ≤ κ) (h1 : η * e ≤ 1) :
    1 - (r + W / 2 + κ) * e ≤ (1 - η * e) * ((1 - r * e / 2) * (1 - r * e / 2)) := by
  have η0 : 0 ≤ η := by grind
  have re := Rat.mul_nonneg hr (Rat.le_of_lt he)
  have ηe := Rat.mul_nonneg η0 (Rat.le_of_lt he)
  have k1 : 1 - r * e ≤ (1 - r * e / 2) * (1 - r * e / 2) := by
    have := sq_nonneg (r * e)
    grind
  have k2 := Rat.mul_le_mul_of_nonneg_left k1 (show 0 ≤ 1 - η * e by grind)
  have k3 := Rat.mul_nonneg ηe re
  have k4 : (r + W / 2 + κ) * e ≥ (r + η) * e := Rat.mul_le_mul_of_nonneg_right (by grind) (Rat.le_of_lt he)
  generalize (1 - r * e / 2) * (1 - r * e / 2) = z at *
  have e2 : (1 - η * e) * (1 - r * e) = 1 - (r + η) * e + η * e * (r * e) := by grind
  rw [e2] at k2
  grind

/-- one doubling, relative, for both signs: W is no less than exp(-x / (s / 2)) -/
theorem wt_step {Y Y' s r W κ q : Rat} (hs : 2000000 ≤ s) (hr : 0 ≤ r) (hr2 : r ≤ 64) (hW : 0 < W) (hW2 : W ≤ 13) (hκ : 1 / 400 ≤ κ)
    (d1 : Y * (Y + 2 * s) / (2 * s) - 1 / 2 ≤ Y') (d2 : Y' ≤ Y * (Y + 2 * s) / (2 * s) + 1 / 2)
    (h1 : EL q ((1 + Y / s) * (1 + r / s))) (h2 : EG q ((1 + Y / s) * (1 - r / s))) (hWq : EG (q + q) (1 / W)) :
    EL (q + q) ((1 + Y' / (s / 2)) * (1 + (r + W / 2 + κ) / (s / 2))) ∧ EG (q + q) ((1 + Y' / (s / 2)) * (1 - (r + W / 2 + κ) / (s / 2))) := by
  have hs0 : 0 < s := by grind
  obtain ⟨e, he⟩ : ∃ e, e = 1 / (s / 2) := ⟨_, rfl⟩
  have hes : e * s = 2 := by grind
  have he0 : 0 < e := by rw [he]; exact div_pos (by decide) (by grind)
  have he2 : e ≤ 1 / 1000000 := by rw [he]; exact div_le (by grind) (by grind)
  have er : r / s = r * e / 2 := by grind
  have eR : (r + W / 2 + κ) / (s / 2) = (r + W / 2 + κ) * e := by grind
  rw [er] at h1 h2
  rw [eR]
  have re0 : 0 ≤ r * e := Rat.mul_nonneg hr (Rat.le_of_lt he0)
  have re1 : r * e ≤ 64 * e := Rat.mul_le_mul_of_nonneg_right hr2 (Rat.le_of_lt he0)
  have hg : 0 < 1 + Y / s := by
    have p := h1.pos
    refine Classical.byContradiction fun hn => ?_
    have hn' : 1 + Y / s ≤ 0 := Rat.not_lt.mp hn
    have := Rat.mul_le_mul_of_nonneg_right hn' (show 0 ≤ 1 + r * e / 2 by grind)
    grind
  have g2e : (1 + Y / s) * (1 + Y / s) = 1 + (Y * (Y + 2 * s) / (2 * s)) / (s / 2) := by grind
  have hg2 := Rat.mul_pos hg hg
  have g1 : (1 + Y / s) * (1 + Y / s) - e / 2 ≤ 1 + Y' / (s / 2) := by
    have := div_mono (show 0 < s / 2 by grind) d1
    rw [g2e]; grind
  have g3 : 1 + Y' / (s / 2) ≤ (1 + Y / s) * (1 + Y / s) + e / 2 := by
    have := div_mono (show 0 < s / 2 by grind) d2
    rw [g2e]; grind
  have hLL := EL.add h1 h1
  have eL : (1 + Y / s) * (1 + r * e / 2) * ((1 + Y / s) * (1 + r * e / 2)) = (1 + Y / s) * (1 + Y / s) * ((1 + r * e / 2) * (1 + r * e / 2)) := by grind
  rw [eL] at hLL
  have hGG := EG.add h2 h2 (Rat.mul_pos hg (by grind))
  have eG : (1 + Y / s) * (1 - r * e / 2) * ((1 + Y / s) * (1 - r * e / 2)) = (1 + Y / s) * (1 + Y / s) * ((1 - r * e / 2) * (1 - r * e / 2)) := by grind
  rw [eG] at hGG
  have hw := hWq.le hLL
  generalize 1 + Y' / (s / 2) = g' at *
  generalize (1 + Y / s) * (1 + Y / s) = g2 at *
  obtain ⟨η, hη⟩ : ∃ η, η = W / 2 + 462 * e := ⟨_, rfl⟩
  have half := eta_half he0 he2 hW hW2 hr hr2 hη hw g1 (Rat.le_of_lt hg2)
  have half' := Rat.mul_le_mul_of_nonneg_right half (Rat.le_of_lt he0)
  have eh : η * g' * e = g' * (η * e) := by grind
  rw [eh] at half'
  have η7 : η ≤ 7 := by grind
  have η0 : 0 ≤ η := by grind
  have ηe : η * e ≤ 1 := by
    have := Rat.mul_le_mul_of_nonneg_right η7 (Rat.le_of_lt he0)
    grind
  have hg' : 0 ≤ g' := Classical.byContradiction fun hn => by
    have hn' : g' ≤ 0 := by grind
    have := Rat.mul_le_mul_of_nonneg_left hn' η0
    grind
  constructor
  · refine hLL.mono ?_
    have u := up_alg he0 he2 hW hW2 hr hr2 hη hκ
    have u2 := Rat.mul_le_mul_of_nonneg_left u hg'
    have sqn : 0 ≤ (1 + r * e / 2) * (1 + r * e / 2) := sq_nonneg _
    have u3 := Rat.mul_le_mul_of_nonneg_right (show g2 ≤ g' * (1 + η * e) by grind) sqn
    have e3 : g' * (1 + η * e) * ((1 + r * e / 2) * (1 + r * e / 2)) = g' * ((1 + η * e) * ((1 + r * e / 2) * (1 + r * e / 2))) := by grind
    rw [e3] at u3
    exact Rat.le_trans u3 u2
  · refine hGG.mono ?_
    have u := dn_alg he0 he2 hW hr hη hκ ηe
    have u2 := Rat.mul_le_mul_of_nonneg_left u hg'
    have sqn : 0 ≤ (1 - r * e / 2) * (1 - r * e / 2) := sq_nonneg _
    have u3 := Rat.mul_le_mul_of_nonneg_right (show g' * (1 - η * e) ≤ g2 by grind) sqn
    have e3 : g' * (1 - η * e) * ((1 - r * e / 2) * (1 - r * e / 2)) = g' * ((1 - η * e) * ((1 - r * e / 2) * (1 - r * e / 2))) := by grind
    rw [e3] at u3
    exact Rat.le_trans u2 u3

end Mine

namespace Mine
open PySem.Builtin.Int (intBits)
open Ex

/-- what k doublings add, from the last one back -/
def wSum (x M : Int) : Nat → Rat
  | 0 => 0
  | k + 1 => wSum x M k + wq ((x : Rat) / ((M : Rat) * P k)) / 2

theorem arg_ge {x M : Int} (hM : 0 < M) (hx : -(12 * M) ≤ 5 * x) (k : Nat) : -(12 / 5) ≤ (x : Rat) / ((M : Rat) * P k) ∧ (1 ≤ k → -(6 / 5) ≤ (x : Rat) / ((M : Rat) * P k)) := by
  have hM0 := castpos hM
  have hx' : -(12 * (M : Rat)) ≤ 5 * (x : Rat) := by exact_mod_cast hx
  have hP := P_ge1 k
  have hpos := Rat.mul_pos hM0 (P_pos k)
  have m := Rat.mul_le_mul_of_nonneg_left hP (Rat.le_of_lt hM0)
  constructor
  · exact le_div hpos (by grind)
  · intro hk
    have hP2 : 2 ≤ P k := by
      have := P_mono hk
      have e : P 1 = 2 := by decide +kernel
      grind
    have m2 := Rat.mul_le_mul_of_nonneg_left hP2 (Rat.le_of_lt hM0)
    exact le_div hpos (by grind)
theorem w13 : (1 : Rat) ≤ 13 * (37 / 40) ^ 32 := by decide +kernel
theorem w8 : (1 : Rat) ≤ 8 * (77 / 80) ^ 32 := by decide +kernel
theorem wk_pos {x M : Int} (hM : 0 < M) (hx : -(12 * M) ≤ 5 * x) (k : Nat) : 0 < 1 + (x : Rat) / ((M : Rat) * P k) / 32 := by
  have := (arg_ge hM hx k).1
  grind
theorem wk_le {x M : Int} (hM : 0 < M) (hx : -(12 * M) ≤ 5 * x) (k : Nat) : wq ((x : Rat) / ((M : Rat) * P k)) ≤ 13 ∧ (1 ≤ k → wq ((x : Rat) / ((M : Rat) * P k)) ≤ 8) := by
  obtain ⟨a, b⟩ := arg_ge hM hx k
  exact ⟨wq_le (v := 37 / 40) (by decide +kernel) (by grind) w13 (by decide), fun hk => wq_le (v := 77 / 80) (by decide +kernel) (by have := b hk; grind) w8 (by decide)⟩
theorem wSum_mono {x M : Int} (hM : 0 < M) (hx : -(12 * M) ≤ 5 * x) {m n : Nat} (h : m ≤ n) : wSum x M m ≤ wSum x M n := by
  induction h with
  | refl => exact Rat.le_refl
  | step _ ih =>
    rename_i n _
    show _ ≤ wSum x M n + _
    have := wq_pos (wk_pos hM hx n)
    grind
theorem wSum_le {x M : Int} (hM : 0 < M) (hx : -(12 * M) ≤ 5 * x) : ∀ k : Nat, wSum x M k ≤ 5 / 2 + 4 * (k : Rat)
  | 0 => by show (0 : Rat) ≤ 5 / 2 + 4 * ((0 : Nat) : Rat); decide +kernel
  | 1 => by
    show (0 : Rat) + _ ≤ 5 / 2 + 4 * ((1 : Nat) : Rat)
    have := (wk_le hM hx 0).1
    have e : ((1 : Nat) : Rat) = 1 := rfl
    rw [e]
    grind
  | k + 2 => by
    have ih := wSum_le hM hx (k + 1)
    have := (wk_le hM hx (k + 1)).2 (by omega)
    show wSum x M (k + 1) + _ ≤ _
    have e : ((k + 2 : Nat) : Rat) = ((k + 1 : Nat) : Rat) + 1 := by push_cast; grind
    rw [e]
    grind

/-- the base, relative -/
theorem rel_base {M s Y w r q X : Rat} (hM : 1000000 ≤ M) (hs : M ≤ s) (hq : -(1 / 8) ≤ q) (hX : 0 ≤ X) (hX2 : X ≤ 12) (hw : w = 4 / 7 + 5 / 96 * X) (hr : r = 6532 / 10000 + X / 16)
    (h1 : EL q (1 + (Y + w) / s)) (h2 : EG q (1 + (Y - w) / s)) : EL q ((1 + Y / s) * (1 + r / s)) ∧ EG q ((1 + Y / s) * (1 - r / s)) := by
  have hs0 : 0 < s := by grind
  have k := (EG.one_add q).le h1
  have e1 : (Y + w) / s = Y / s + w / s := by grind
  have e2 : (Y - w) / s = Y / s - w / s := by grind
  rw [e1] at k h1
  rw [e2] at h2
  have ws : w / s ≤ 1 / 500000 := div_le hs0 (by grind)
  have g : 8749 / 10000 ≤ 1 + Y / s := by grind
  have m : w ≤ r * (1 + Y / s) := by
    have := Rat.mul_le_mul_of_nonneg_left g (show 0 ≤ r by grind)
    grind
  have m2 := div_mono hs0 m
  have e3 : r * (1 + Y / s) / s = (1 + Y / s) * (r / s) := by grind
  rw [e3] at m2
  generalize Y / s = y at *
  generalize r / s = t at *
  generalize w / s = v at *
  constructor
  · exact h1.mono (by grind)
  · exact h2.mono (by grind)

theorem six_digs {M : Int} (hM : 1000000 ≤ M) : 7 ≤ digs M := by
  have h := M_lt_digs (M := M) (by omega)
  refine Classical.byContradiction fun hn => ?_
  have h2 : (digs M).toNat ≤ 6 := by omega
  have : (10 : Int) ^ (digs M).toNat ≤ 10 ^ 6 := (by exact_mod_cast Nat.pow_le_pow_right (show 0 < 10 by decide) h2)
  have e : (10 : Int) ^ 6 = 1000000 := by decide
  omega
theorem tOf3 {M L : Int} (hM : 1000000 ≤ M) (hL : 3 ≤ L) (hL2 : L ≤ 10) : 3 ≤ tOf M L := by
  have := six_digs hM
  unfold tOf
  have h1 := Int.ediv_mul_le (-10 * digs M) (show 3 * L ≠ 0 by omega)
  generalize -10 * digs M / (3 * L) = q at *
  refine Classical.byContradiction fun hn => ?_
  have h2 : -2 ≤ q := by omega
  have h3 : -2 * (3 * L) ≤ q * (3 * L) := Int.mul_le_mul_of_nonneg_right h2 (by omega)
  omega

theorem iexp_start_wt {M x L : Int} (hM : 1000000 ≤ M) (hL : 3 ≤ L) (hL2 : L ≤ 10) (hx2 : x ≤ 12 * M) (hx : -(12 * M) ≤ 5 * x) :
    let s := sc M (rOf M x L) 0
    let r := (6532 : Rat) / 10000 + ((x.natAbs : Int) : Rat) / (M : Rat) / 16
    EL ((x : Rat) / s) ((1 + (iexpY M x L : Rat) / s) * (1 + r / s)) ∧ EG ((x : Rat) / s) ((1 + (iexpY M x L : Rat) / s) * (1 - r / s)) := by
  have hM' : 0 < M := by omega
  have hM0 := castpos hM'
  have hM6 : (1000000 : Rat) ≤ (M : Rat) := castle hM
  obtain ⟨a, a0, az, aX, aL⟩ := abs_start (x := x) (L := L) hM'
  have hsM := sc_ge hM' (R := rOf M x L) (j := 0)
  have p8 : (8 : Rat) ≤ (2 : Rat) ^ L.toNat := by
    have e : (2 : Rat) ^ L.toNat = P L.toNat := rfl
    rw [e]
    have := P_mono (show 3 ≤ L.toNat by omega)
    have e3 : P 3 = 8 := by decide +kernel
    grind
  have a8 : a ≤ 1 / 8 := by
    have := Rat.mul_le_mul_of_nonneg_left p8 a0
    grind
  have hT := tOf3 hM hL hL2
  have X0 : (0 : Rat) ≤ ((x.natAbs : Int) : Rat) := castnn (by omega)
  have X12 : ((x.natAbs : Int) : Rat) ≤ 12 * (M : Rat) := by
    have : ((x.natAbs : Int)) ≤ 12 * M := by omega
    exact_mod_cast this
  have es : ((M * 2 ^ rOf M x L : Int) : Rat) = sc M (rOf M x L) 0 := by
    rw [rat_mul_cast, P_int]; unfold sc; rw [Nat.sub_zero]
  have rl := rest_le (M := M) (Ms := M * 2 ^ rOf M x L) (L := L) (a := a) (X := ((x.natAbs : Int) : Rat)) (m := 4) hM' (shl_pos hM' _) (by omega) a0 aL (by rw [es]; exact aX) (by omega)
  rw [es, fc4] at rl
  have hst := iexp_start (M := M) (x := x) (L := L) (c := 4 / 7) (w0 := 4 / 7 + 5 / 96 * (((x.natAbs : Int) : Rat) / (M : Rat))) hM' hL a0 az (by grind) (by decide +kernel) (by grind) (by
    have : sc M (rOf M x L) 0 * (5 / 4 * mz ((tOf M L).toNat + 1) a) ≤ 5 / 96 * ((x.natAbs : Int) : Rat) / (M : Rat) := le_div hM0 (by
      generalize sc M (rOf M x L) 0 * (5 / 4 * mz ((tOf M L).toNat + 1) a) = z at *
      have e : z * 24 * (M : Rat) = 24 * (z * (M : Rat)) := by grind
      rw [e] at rl
      grind)
    have e : 5 / 96 * ((x.natAbs : Int) : Rat) / (M : Rat) = 5 / 96 * (((x.natAbs : Int) : Rat) / (M : Rat)) := by grind
    rw [e] at this
    grind)
  refine rel_base (X := ((x.natAbs : Int) : Rat) / (M : Rat)) hM6 hsM ?_ (div_nn X0 hM0) (div_le hM0 X12) rfl rfl hst.1 hst.2
  rcases az with h | h <;> rw [h] <;> grind

/-- the doublings, relative, with weights -/
theorem wt_run {M x L : Int} (hM : 1000000 ≤ M) (hL : 3 ≤ L) (hL2 : L ≤ 10) (hx2 : x ≤ 12 * M) (hx : -(12 * M) ≤ 5 * x) (hR : rOf M x L ≤ 14) : ∀ j ≤ rOf M x L,
    EL ((x : Rat) / sc M (rOf M x L) j) ((1 + (dS M (rOf M x L) (iexpY M x L) j : Rat) / sc M (rOf M x L) j) * (1 + (6532 / 10000 + ((x.natAbs : Int) : Rat) / (M : Rat) / 16 + (j : Rat) * (1 / 400) + (wSum x M (rOf M x L) - wSum x M (rOf M x L - j))) / sc M (rOf M x L) j)) ∧
    EG ((x : Rat) / sc M (rOf M x L) j) ((1 + (dS M (rOf M x L) (iexpY M x L) j : Rat) / sc M (rOf M x L) j) * (1 - (6532 / 10000 + ((x.natAbs : Int) : Rat) / (M : Rat) / 16 + (j : Rat) * (1 / 400) + (wSum x M (rOf M x L) - wSum x M (rOf M x L - j))) / sc M (rOf M x L) j))
  | 0, _ => by
    have h := iexp_start_wt hM hL hL2 hx2 hx
    have e : (6532 : Rat) / 10000 + ((x.natAbs : Int) : Rat) / (M : Rat) / 16 + ((0 : Nat) : Rat) * (1 / 400) + (wSum x M (rOf M x L) - wSum x M (rOf M x L - 0)) = 6532 / 10000 + ((x.natAbs : Int) : Rat) / (M : Rat) / 16 := by
      have e0 : ((0 : Nat) : Rat) = 0 := rfl
      rw [e0, Nat.sub_zero]; grind
    rw [e]
    exact h
  | j + 1, hj => by
    obtain ⟨a, b⟩ := wt_run hM hL hL2 hx2 hx hR j (by omega)
    have hM' : 0 < M := by omega
    have hM0 := castpos hM'
    have hM6 : (1000000 : Rat) ≤ (M : Rat) := castle hM
    obtain ⟨d1, d2⟩ := dS_rat (Y := iexpY M x L) hM' (show j < rOf M x L by omega)
    have es := sc_succ (M := M) (R := rOf M x L) (j := j) (by omega)
    have hs1 := sc_ge hM' (R := rOf M x L) (j := j + 1)
    have ek : rOf M x L - j = (rOf M x L - (j + 1)) + 1 := by omega
    have eW : wSum x M (rOf M x L - j) = wSum x M (rOf M x L - (j + 1)) + wq ((x : Rat) / sc M (rOf M x L) (j + 1)) / 2 := by
      rw [ek]; rfl
    have wp := wq_EG (wk_pos hM' hx (rOf M x L - (j + 1)))
    have wpos := wq_pos (wk_pos hM' hx (rOf M x L - (j + 1)))
    have wle := (wk_le hM' hx (rOf M x L - (j + 1))).1
    have esc : (M : Rat) * P (rOf M x L - (j + 1)) = sc M (rOf M x L) (j + 1) := rfl
    rw [esc] at wp wpos wle
    have X0 : (0 : Rat) ≤ ((x.natAbs : Int) : Rat) := castnn (by omega)
    have X12 : ((x.natAbs : Int) : Rat) / (M : Rat) ≤ 12 := div_le hM0 (by
      have : ((x.natAbs : Int)) ≤ 12 * M := by omega
      exact_mod_cast this)
    have Xn := div_nn X0 hM0
    have sl := wSum_le hM' hx (rOf M x L)
    have sn : 0 ≤ wSum x M (rOf M x L - j) := wSum_mono hM' hx (Nat.zero_le _)
    have sm := wSum_mono hM' hx (show rOf M x L - j ≤ rOf M x L by omega)
    have r14 : ((rOf M x L : Nat) : Rat) ≤ 14 := by exact_mod_cast hR
    have j14 : ((j : Nat) : Rat) ≤ 14 := by
      have : j ≤ 14 := by omega
      exact_mod_cast this
    have j0 : (0 : Rat) ≤ (j : Rat) := by exact_mod_cast Nat.zero_le j
    have eq2 : (x : Rat) / sc M (rOf M x L) (j + 1) = (x : Rat) / sc M (rOf M x L) j + (x : Rat) / sc M (rOf M x L) j := by
      rw [es]; exact half_half _ _ (sc_pos hM' _ _)
    have wp' : EG ((x : Rat) / sc M (rOf M x L) j + (x : Rat) / sc M (rOf M x L) j) (1 / wq ((x : Rat) / sc M (rOf M x L) (j + 1))) := by rw [← eq2]; exact wp
    have st := wt_step (q := (x : Rat) / sc M (rOf M x L) j) (κ := 1 / 400) (by rw [es] at hs1; grind) (by grind) (by grind) wpos wle Rat.le_refl d1 d2 a b wp'
    rw [← es, ← eq2] at st
    have ej : ((j + 1 : Nat) : Rat) = (j : Rat) + 1 := by push_cast; rfl
    have er : 6532 / 10000 + ((x.natAbs : Int) : Rat) / (M : Rat) / 16 + (j : Rat) * (1 / 400) + (wSum x M (rOf M x L) - wSum x M (rOf M x L - j)) + wq ((x : Rat) / sc M (rOf M x L) (j + 1)) / 2 + 1 / 400 =
        6532 / 10000 + ((x.natAbs : Int) : Rat) / (M : Rat) / 16 + ((j + 1 : Nat) : Rat) * (1 / 400) + (wSum x M (rOf M x L) - wSum x M (rOf M x L - (j + 1))) := by
      rw [eW, ej]; grind
    rw [er] at st
    exact st

end Mine

namespace Mine
open PySem.Builtin.Int (intBits)
open Ex

theorem EL12 : EL 12 16777216 := by
  have h := EL.add (EL.add EL3 EL3) (EL.add EL3 EL3)
  have e1 : (3 : Rat) + 3 + (3 + 3) = 12 := by decide +kernel
  have e2 : (64 : Rat) * 64 * (64 * 64) = 16777216 := by decide +kernel
  rwa [e1, e2] at h

theorem rOf14 {M x L : Int} (hM : 1000000 ≤ M) (hL : 3 ≤ L) (hL2 : L ≤ 10) (hx2 : x ≤ 12 * M) (hx : -(12 * M) ≤ 5 * x) : rOf M x L ≤ 14 := by
  have p : (2 : Int) ^ L.toNat ≤ 1024 := by
    have : (2 : Nat) ^ L.toNat ≤ 2 ^ 10 := Nat.pow_le_pow_right (by decide) (by omega)
    have h : ((2 : Int) ^ L.toNat) = ((2 ^ L.toNat : Nat) : Int) := by push_cast; rfl
    omega
  have p0 := two_pow_pos L.toNat
  rcases Int.le_total 0 x with h | h
  · refine rOf_le_pos (by omega) h ?_
    have h1 := Int.mul_le_mul_of_nonneg_left p h
    have e : (2 : Int) ^ 14 = 16384 := by decide
    rw [e]
    omega
  · refine rOf_le_neg (by omega) h ?_
    have h1 := Int.mul_le_mul_of_nonneg_left p (show 0 ≤ -x by omega)
    have e : (2 : Int) ^ 14 = 16384 := by decide
    rw [e]
    have e2 : -x * 2 ^ L.toNat = -(x * 2 ^ L.toNat) := by rw [Int.neg_mul]
    omega

theorem run_bound2 {Y s r q : Rat} (hs : 1000000 ≤ s) (hr : 0 ≤ r) (hr2 : r ≤ 100) (hq : q ≤ 12) (h1 : EL q ((1 + Y / s) * (1 + r / s))) (h2 : EG q ((1 + Y / s) * (1 - r / s))) :
    0 < 1 + Y / s ∧ -((((2 : Int) ^ 26 : Int) : Rat) * s) ≤ Y ∧ Y ≤ (((2 : Int) ^ 26 : Int) : Rat) * s := by
  have hs0 : 0 < s := by grind
  have e26 : (((2 : Int) ^ 26 : Int) : Rat) = 67108864 := by decide +kernel
  rw [e26]
  have rs0 := div_nn hr hs0
  have rs1 : r / s ≤ 1 / 2 := div_le hs0 (by grind)
  have hg : 0 < 1 + Y / s := by
    have p := h1.pos
    refine Classical.byContradiction fun hn => ?_
    have hn' : 1 + Y / s ≤ 0 := Rat.not_lt.mp hn
    have := Rat.mul_le_mul_of_nonneg_right hn' (show 0 ≤ 1 + r / s by grind)
    grind
  have k := h2.le (EL12.exp_mono hq)
  have m := Rat.mul_le_mul_of_nonneg_left (show 1 / 2 ≤ 1 - r / s by grind) (Rat.le_of_lt hg)
  have a1 : Y / s ≤ 33554432 := by grind
  have a2 : -1 ≤ Y / s := by grind
  exact ⟨hg, by have := le_div_mul hs0 a2; grind, by have := div_le_mul hs0 a1; grind⟩

theorem iexp_wt {M x L : Int} (hM : 1000000 ≤ M) (hMb : intBits M ≤ 300) (hL : 3 ≤ L) (hL2 : L ≤ 10) (hx2 : x ≤ 12 * M) (hx : -(12 * M) ≤ 5 * x) :
    EL ((x : Rat) / (M : Rat)) ((iexpF M x L : Rat) / (M : Rat) * (1 + (69 / 100 + ((x.natAbs : Int) : Rat) / (M : Rat) / 16 + wSum x M (rOf M x L)) / (M : Rat))) ∧
    EG ((x : Rat) / (M : Rat)) ((iexpF M x L : Rat) / (M : Rat) * (1 - (69 / 100 + ((x.natAbs : Int) : Rat) / (M : Rat) / 16 + wSum x M (rOf M x L)) / (M : Rat))) ∧
    PreE M x L ∧ 0 < iexpF M x L ∧ rOf M x L ≤ 14 ∧ iexpF M x L ≤ 2 ^ 27 * M := by
  have hM' : 0 < M := by omega
  have hM0 := castpos hM'
  have hM6 : (1000000 : Rat) ≤ (M : Rat) := castle hM
  have hR := rOf14 hM hL hL2 hx2 hx
  have run := wt_run hM hL hL2 hx2 hx hR
  have X0 : (0 : Rat) ≤ ((x.natAbs : Int) : Rat) := castnn (by omega)
  have X12 : ((x.natAbs : Int) : Rat) / (M : Rat) ≤ 12 := div_le hM0 (by
    have : ((x.natAbs : Int)) ≤ 12 * M := by omega
    exact_mod_cast this)
  have Xn := div_nn X0 hM0
  have sl := wSum_le hM' hx (rOf M x L)
  have r14 : ((rOf M x L : Nat) : Rat) ≤ 14 := by exact_mod_cast hR
  have bd : ∀ j ≤ rOf M x L, 0 < 1 + (dS M (rOf M x L) (iexpY M x L) j : Rat) / sc M (rOf M x L) j ∧ -((((2 : Int) ^ 26 : Int) : Rat) * sc M (rOf M x L) j) ≤ (dS M (rOf M x L) (iexpY M x L) j : Rat) ∧ (dS M (rOf M x L) (iexpY M x L) j : Rat) ≤ (((2 : Int) ^ 26 : Int) : Rat) * sc M (rOf M x L) j := fun j hj => by
    obtain ⟨a, b⟩ := run j hj
    have hs := sc_ge hM' (R := rOf M x L) (j := j)
    have hs0 := sc_pos hM' (rOf M x L) j
    have sn : 0 ≤ wSum x M (rOf M x L - j) := wSum_mono hM' hx (Nat.zero_le _)
    have sm := wSum_mono hM' hx (show rOf M x L - j ≤ rOf M x L by omega)
    have j14 : ((j : Nat) : Rat) ≤ 14 := by
      have : j ≤ 14 := by omega
      exact_mod_cast this
    have j0 : (0 : Rat) ≤ (j : Rat) := by exact_mod_cast Nat.zero_le j
    refine run_bound2 (by grind) (by clear run; grind) (by clear run; grind) ?_ a b
    refine div_le hs0 ?_
    have : (x : Rat) ≤ 12 * (M : Rat) := by exact_mod_cast hx2
    clear run
    grind
  have hxb : intBits x ≤ 2000 := by
    exact bits_mono (bits_abs (b := 12 * M) (k := 400) (by omega) (by omega) (bits_mono (intBits_mul_le (m := 64) (PySem.intBits_le_64 (by decide) (by decide)) hMb)))
  have pre : PreE M x L := preE_of (B := 2 ^ 26) hM' hMb (by omega) (by omega) hxb (by decide) (bits_mono (PySem.intBits_le_64 (by decide) (by decide))) (fun j hj => (bd j hj).2)
  obtain ⟨a, b⟩ := run (rOf M x L) (Nat.le_refl _)
  obtain ⟨c1, _, c3⟩ := bd (rOf M x L) (Nat.le_refl _)
  rw [sc_last] at a b c1 c3
  have eF : (1 : Rat) + (dS M (rOf M x L) (iexpY M x L) (rOf M x L) : Rat) / (M : Rat) = (iexpF M x L : Rat) / (M : Rat) := by
    have := iexpF_unit (x := x) (L := L) (w := 0) hM'
    have z : ∀ y : Rat, y + 0 = y := fun y => by clear bd run; grind
    rw [z, z] at this
    exact this
  rw [eF] at a b c1
  have e0 : wSum x M (rOf M x L - rOf M x L) = 0 := by rw [Nat.sub_self]; rfl
  rw [e0] at a b
  have F0 : 0 < (iexpF M x L : Rat) := by
    have := Rat.mul_pos c1 hM0
    have e : (iexpF M x L : Rat) / (M : Rat) * (M : Rat) = (iexpF M x L : Rat) := Rat.div_mul_cancel (by clear bd run; grind)
    rwa [e] at this
  have hle : (6532 / 10000 + ((x.natAbs : Int) : Rat) / (M : Rat) / 16 + ((rOf M x L : Nat) : Rat) * (1 / 400) + (wSum x M (rOf M x L) - 0)) / (M : Rat) ≤ (69 / 100 + ((x.natAbs : Int) : Rat) / (M : Rat) / 16 + wSum x M (rOf M x L)) / (M : Rat) := div_mono hM0 (by clear bd run; grind)
  have cF : iexpF M x L ≤ 2 ^ 27 * M := by
    have : dS M (rOf M x L) (iexpY M x L) (rOf M x L) ≤ 2 ^ 26 * M := by exact_mod_cast c3
    unfold iexpF
    have e : (2 : Int) ^ 27 = 2 ^ 26 + 2 ^ 26 := by decide
    have e2 : (1 : Int) ≤ 2 ^ 26 := by decide
    rw [e, Int.add_mul]
    have := Int.mul_le_mul_of_nonneg_right e2 (Int.le_of_lt hM')
    omega
  refine ⟨a.mono ?_, b.mono ?_, pre, by exact_mod_cast F0, hR, cF⟩
  · exact Rat.mul_le_mul_of_nonneg_left (by clear bd run; grind) (Rat.le_of_lt c1)
  · exact Rat.mul_le_mul_of_nonneg_left (by clear bd run; grind) (Rat.le_of_lt c1)

end Mine

namespace Mine
open PySem.Builtin.Int (intBits)
open Ex

theorem EL.powN {q c : Rat} (h : EL q c) : ∀ n : Nat, EL ((n : Rat) * q) (c ^ n)
  | 0 => by
    have e : ((0 : Nat) : Rat) * q = 0 := by have : ((0 : Nat) : Rat) = 0 := rfl; rw [this]; grind
    rw [e, Rat.pow_zero]; exact EL.zero
  | n + 1 => by
    have e : ((n + 1 : Nat) : Rat) * q = (n : Rat) * q + q := by push_cast; grind
    rw [e, Rat.pow_succ]
    exact (EL.powN h n).add h
theorem EG.powN {q c : Rat} (h : EG q c) (hc : 0 < c) : ∀ n : Nat, EG ((n : Rat) * q) (c ^ n)
  | 0 => by
    have e : ((0 : Nat) : Rat) * q = 0 := by have : ((0 : Nat) : Rat) = 0 := rfl; rw [this]; grind
    rw [e, Rat.pow_zero]; exact EG.zero
  | n + 1 => by
    have e : ((n + 1 : Nat) : Rat) * q = (n : Rat) * q + q := by push_cast; grind
    rw [e, Rat.pow_succ]
    exact EG.add (EG.powN h hc n) h hc

theorem fin_dn {u ρ β N T q A : Rat} {n : Nat} (hN : 1000000 ≤ N) (hu : 0 < u) (hρ : 0 ≤ ρ) (hρ2 : ρ ≤ 1000) (hβ : ρ + 51 / 100 ≤ β) (hβ2 : β ≤ 1000)
    (hE : EG q (u * (1 - ρ / N))) (hA : EL A T) (hq : (n : Rat) * q ≤ A + (n : Rat) * (50001 / 100000 / N)) : (u * (1 - β / N)) ^ n ≤ T := by
  have hN0 : 0 < N := by grind
  obtain ⟨e, he⟩ : ∃ e, e = 1 / N := ⟨_, rfl⟩
  have he0 : 0 < e := by rw [he]; exact div_pos (by decide) hN0
  have he1 : e ≤ 1 / 1000000 := by rw [he]; exact div_le hN0 (by grind)
  have e1 : ρ / N = ρ * e := by grind
  have e2 : β / N = β * e := by grind
  have e3 : 50001 / 100000 / N = 50001 / 100000 * e := by grind
  rw [e1] at hE
  rw [e3] at hq
  rw [e2]
  have ρe : ρ * e ≤ 1000 * e := Rat.mul_le_mul_of_nonneg_right hρ2 (Rat.le_of_lt he0)
  have βe : β * e ≤ 1000 * e := Rat.mul_le_mul_of_nonneg_right hβ2 (Rat.le_of_lt he0)
  have ee : e * e ≤ 1 / 1000000 * e := Rat.mul_le_mul_of_nonneg_right he1 (Rat.le_of_lt he0)
  have hθ : EL (50001 / 100000 * e) (1 + 5001 / 10000 * e) := (EL.quad (by grind)).mono (by
    have e4 : 50001 / 100000 * e * (50001 / 100000 * e) = 2500100001 / 10000000000 * (e * e) := by grind
    rw [e4]
    generalize e * e = z at *
    grind)
  have k1 := EG.powN hE (Rat.mul_pos hu (by grind)) n
  have k2 := (EL.add hA (EL.powN hθ n)).exp_mono hq
  have k := k1.le k2
  have m : u * (1 - β * e) * (1 + 5001 / 10000 * e) ≤ u * (1 - ρ * e) := by
    have c1 : (1 - β * e) * (1 + 5001 / 10000 * e) ≤ 1 - ρ * e := by
      have b1 := Rat.mul_le_mul_of_nonneg_right hβ (Rat.le_of_lt he0)
      have b2 : 0 ≤ β * e := Rat.mul_nonneg (by grind) (Rat.le_of_lt he0)
      have b3 := Rat.mul_nonneg b2 (Rat.le_of_lt he0)
      have e5 : (1 - β * e) * (1 + 5001 / 10000 * e) = 1 - β * e + 5001 / 10000 * e - 5001 / 10000 * (β * e * e) := by grind
      rw [e5]
      generalize β * e * e = z at *
      grind
    have := Rat.mul_le_mul_of_nonneg_left c1 (Rat.le_of_lt hu)
    grind
  have pos1 : 0 ≤ u * (1 - β * e) := Rat.mul_nonneg (Rat.le_of_lt hu) (by grind)
  have m2 := pow_le_pow' (Rat.mul_nonneg pos1 (show 0 ≤ 1 + 5001 / 10000 * e by grind)) m n
  rw [mul_pow'] at m2
  have hp : 0 < (1 + 5001 / 10000 * e) ^ n := Rat.pow_pos (by grind)
  have m3 := Rat.le_trans m2 k
  have := le_div hp m3
  have e6 : T * (1 + 5001 / 10000 * e) ^ n / (1 + 5001 / 10000 * e) ^ n = T := by
    generalize (1 + 5001 / 10000 * e) ^ n = z at *
    grind
  rwa [e6] at this

theorem fin_up {u ρ β N T q A : Rat} {n : Nat} (hN : 1000000 ≤ N) (hu : 0 < u) (hρ : 0 ≤ ρ) (hρ2 : ρ ≤ 1000) (hβ : ρ + 51 / 100 ≤ β)
    (hE : EL q (u * (1 + ρ / N))) (hA : EG A T) (hq : A ≤ (n : Rat) * q + (n : Rat) * (50001 / 100000 / N)) : T ≤ (u * (1 + β / N)) ^ n := by
  have hN0 : 0 < N := by grind
  obtain ⟨e, he⟩ : ∃ e, e = 1 / N := ⟨_, rfl⟩
  have he0 : 0 < e := by rw [he]; exact div_pos (by decide) hN0
  have he1 : e ≤ 1 / 1000000 := by rw [he]; exact div_le hN0 (by grind)
  have e1 : ρ / N = ρ * e := by grind
  have e2 : β / N = β * e := by grind
  have e3 : 50001 / 100000 / N = 50001 / 100000 * e := by grind
  rw [e1] at hE
  rw [e3] at hq
  rw [e2]
  have ρe : ρ * e ≤ 1000 * e := Rat.mul_le_mul_of_nonneg_right hρ2 (Rat.le_of_lt he0)
  have ee : e * e ≤ 1 / 1000000 * e := Rat.mul_le_mul_of_nonneg_right he1 (Rat.le_of_lt he0)
  have hθ : EL (50001 / 100000 * e) (1 + 5001 / 10000 * e) := (EL.quad (by grind)).mono (by
    have e4 : 50001 / 100000 * e * (50001 / 100000 * e) = 2500100001 / 10000000000 * (e * e) := by grind
    rw [e4]
    generalize e * e = z at *
    grind)
  have k2 := (EL.add (EL.powN hE n) (EL.powN hθ n)).exp_mono hq
  have k := hA.le k2
  rw [← mul_pow'] at k
  refine Rat.le_trans k (pow_le_pow' ?_ ?_ n)
  · have : 0 ≤ ρ * e := Rat.mul_nonneg hρ (Rat.le_of_lt he0)
    exact Rat.mul_nonneg (Rat.mul_nonneg (Rat.le_of_lt hu) (by grind)) (by grind)
  · have c1 : (1 + ρ * e) * (1 + 5001 / 10000 * e) ≤ 1 + β * e := by
      have b1 := Rat.mul_le_mul_of_nonneg_right hβ (Rat.le_of_lt he0)
      have b3 := Rat.mul_le_mul_of_nonneg_right ρe (Rat.le_of_lt he0)
      have e5 : (1 + ρ * e) * (1 + 5001 / 10000 * e) = 1 + ρ * e + 5001 / 10000 * e + 5001 / 10000 * (ρ * e * e) := by grind
      rw [e5]
      have e7 : 1000 * e * e = 1000 * (e * e) := by grind
      rw [e7] at b3
      generalize ρ * e * e = z at *
      generalize e * e = ee' at *
      grind
    have := Rat.mul_le_mul_of_nonneg_left c1 (Rat.le_of_lt hu)
    grind

theorem one_powQ : ∀ n : Nat, (1 : Rat) ^ n = 1
  | 0 => rfl
  | n + 1 => by rw [Rat.pow_succ, one_powQ n]; decide +kernel

/-- ten to the a, a of either sign, by log(10) -/
theorem ten_pm {q : Int} (h0 : 0 ≤ q) (h1 : q ≤ 46) {a c : Int} (hc : 0 ≤ c) (ha : 0 ≤ c + a) :
    EL ((a : Rat) * ((l10 q : Rat) / (10 : Rat) ^ q.toNat) - ((a.natAbs : Int) : Rat) / (10 : Rat) ^ q.toNat) ((10 : Rat) ^ (c + a).toNat / (10 : Rat) ^ c.toNat) ∧
    EG ((a : Rat) * ((l10 q : Rat) / (10 : Rat) ^ q.toNat) + ((a.natAbs : Int) : Rat) / (10 : Rat) ^ q.toNat) ((10 : Rat) ^ (c + a).toNat / (10 : Rat) ^ c.toNat) := by
  obtain ⟨s1, s2⟩ := l10_spec h0 h1
  have hp := tenQ_pos q.toNat
  have hpc := tenQ_pos c.toNat
  rcases Int.le_total 0 a with h | h
  · obtain ⟨n, rfl⟩ := Int.eq_ofNat_of_zero_le h
    have e : (10 : Rat) ^ (c + (n : Int)).toNat / (10 : Rat) ^ c.toNat = 10 ^ n := by
      have : (c + (n : Int)).toNat = c.toNat + n := by omega
      rw [this, pow_add']
      generalize (10 : Rat) ^ n = z at *
      grind
    rw [e]
    have en : ((n : Int) : Rat) = (n : Rat) := by push_cast; rfl
    have en2 : ((((n : Int).natAbs : Nat) : Int) : Rat) = (n : Rat) := by rw [Int.natAbs_natCast]; exact en
    rw [en, en2]
    have n0 : (0 : Rat) ≤ (n : Rat) := by exact_mod_cast Nat.zero_le n
    have nd := div_nn n0 hp
    constructor
    · exact (EL.powN s1 n).exp_mono (by grind)
    · exact (EG.powN s2 (by decide) n).exp_mono (by grind)
  · obtain ⟨n, hn⟩ := Int.eq_ofNat_of_zero_le (show 0 ≤ -a by omega)
    have ea : a = -(n : Int) := by omega
    subst ea
    have e : (10 : Rat) ^ (c + -(n : Int)).toNat / (10 : Rat) ^ c.toNat = (1 / 10) ^ n := by
      have h2 : c.toNat = (c + -(n : Int)).toNat + n := by omega
      rw [h2, pow_add']
      have h3 : ((1 : Rat) / 10) ^ n * 10 ^ n = 1 := by
        rw [← mul_pow']
        have : (1 : Rat) / 10 * 10 = 1 := by decide +kernel
        rw [this]
        exact one_powQ n
      have h4 := tenQ_pos n
      have h5 := tenQ_pos (c + -(n : Int)).toNat
      generalize (c + -(n : Int)).toNat = k at *
      generalize (10 : Rat) ^ n = z at *
      generalize (10 : Rat) ^ k = y at *
      generalize ((1 : Rat) / 10) ^ n = v at *
      have : y / (y * z) = 1 / z := by grind
      rw [this]
      grind
    rw [e]
    have en : ((-(n : Int) : Int) : Rat) = -(n : Rat) := by push_cast; rfl
    have en2 : ((((-(n : Int)).natAbs : Nat) : Int) : Rat) = (n : Rat) := by rw [Int.natAbs_neg, Int.natAbs_natCast]; push_cast; rfl
    rw [en, en2]
    have n0 : (0 : Rat) ≤ (n : Rat) := by exact_mod_cast Nat.zero_le n
    have nd := div_nn n0 hp
    constructor
    · exact (EL.powN (s2.neg (by decide)) n).exp_mono (by grind)
    · exact (EG.powN s1.neg (by decide +kernel) n).exp_mono (by grind)

theorem le_cast {a b : Int} (h : (a : Rat) ≤ (b : Rat)) : a ≤ b := by exact_mod_cast h
/-- what the law adds for one doubling -/
def lbT (x M : Int) (k : Nat) : Int := 10 ^ 6 * (32 * (M * 2 ^ k)) ^ 32 / (2 * (32 * (M * 2 ^ k) + x) ^ 32) + 1
def lb (x M : Int) : Nat → Int
  | 0 => 1200010 + 10 ^ 6 * (x.natAbs : Int) / (16 * M) + 1
  | k + 1 => lb x M k + lbT x M k

theorem den_pos {x M : Int} (hM : 0 < M) (hx : -(12 * M) ≤ 5 * x) (k : Nat) : 0 < 32 * (M * 2 ^ k) + x := by
  have := two_pow_ge1 k
  have := Int.mul_le_mul_of_nonneg_left this (Int.le_of_lt hM)
  omega
theorem div_powQ {a b : Rat} (hb : 0 < b) : ∀ n : Nat, (a / b) ^ n = a ^ n / b ^ n
  | 0 => by rw [Rat.pow_zero, Rat.pow_zero, Rat.pow_zero]; decide +kernel
  | n + 1 => by
    rw [Rat.pow_succ, Rat.pow_succ, Rat.pow_succ, div_powQ hb n]
    have := Rat.pow_pos (n := n) hb
    generalize b ^ n = y at *
    generalize a ^ n = z at *
    grind
theorem castpow (a : Int) (n : Nat) : ((a ^ n : Int) : Rat) = (a : Rat) ^ n := by push_cast; rfl
theorem wq_int {x M : Int} (hM : 0 < M) (hx : -(12 * M) ≤ 5 * x) (k : Nat) : wq ((x : Rat) / ((M : Rat) * P k)) = (((32 * (M * 2 ^ k)) ^ 32 : Int) : Rat) / (((32 * (M * 2 ^ k) + x) ^ 32 : Int) : Rat) := by
  have hd := castpos (den_pos hM hx k)
  have hm : (0 : Rat) < ((32 * (M * 2 ^ k) : Int) : Rat) := castpos (by have := shl_pos hM k; omega)
  have em : ((32 * (M * 2 ^ k) : Int) : Rat) = 32 * ((M : Rat) * P k) := by
    rw [rat_mul_cast, rat_mul_cast, P_int]; rfl
  have ed : ((32 * (M * 2 ^ k) + x : Int) : Rat) = 32 * ((M : Rat) * P k) + (x : Rat) := by
    rw [← em]; push_cast; rfl
  have hp := Rat.mul_pos (castpos hM) (P_pos k)
  rw [castpow, castpow, ed, em]
  rw [ed] at hd
  rw [em] at hm
  unfold wq
  generalize (M : Rat) * P k = y at *
  have e : 1 + (x : Rat) / y / 32 = (32 * y + (x : Rat)) / (32 * y) := by grind
  rw [e, div_powQ hm]
  have h1 := Rat.pow_pos (n := 32) hm
  have h2 := Rat.pow_pos (n := 32) hd
  generalize (32 * y) ^ 32 = a at *
  generalize (32 * y + (x : Rat)) ^ 32 = b at *
  grind
theorem lbT_spec {x M : Int} (hM : 0 < M) (hx : -(12 * M) ≤ 5 * x) (k : Nat) : 500000 * wq ((x : Rat) / ((M : Rat) * P k)) ≤ (lbT x M k : Rat) ∧ lbT x M k ≤ 7000000 := by
  have hd : 0 < (32 * (M * 2 ^ k) + x) ^ 32 := Int.pow_pos (den_pos hM hx k)
  have hd2 : 0 < 2 * (32 * (M * 2 ^ k) + x) ^ 32 := by omega
  obtain ⟨a, b⟩ := ediv_rat (a := 10 ^ 6 * (32 * (M * 2 ^ k)) ^ 32) hd2
  have w := wq_int hM hx k
  have wl := (wk_le hM hx k).1
  have e1 : ((10 ^ 6 * (32 * (M * 2 ^ k)) ^ 32 : Int) : Rat) / ((2 * (32 * (M * 2 ^ k) + x) ^ 32 : Int) : Rat) = 500000 * wq ((x : Rat) / ((M : Rat) * P k)) := by
    rw [w, rat_mul_cast, rat_mul_cast]
    have hdq := castpos hd
    have e6 : (((10 : Int) ^ 6 : Int) : Rat) = 1000000 := by decide +kernel
    have e2 : ((2 : Int) : Rat) = 2 := rfl
    rw [e6, e2]
    generalize (((32 * (M * 2 ^ k)) ^ 32 : Int) : Rat) = y at *
    generalize (((32 * (M * 2 ^ k) + x) ^ 32 : Int) : Rat) = z at *
    grind
  rw [e1] at a b
  have el : (lbT x M k : Rat) = ((10 ^ 6 * (32 * (M * 2 ^ k)) ^ 32 / (2 * (32 * (M * 2 ^ k) + x) ^ 32) : Int) : Rat) + 1 := by
    unfold lbT; push_cast; rfl
  constructor
  · rw [el]; grind
  · have : (lbT x M k : Rat) ≤ ((7000000 : Int) : Rat) := by
      have e7 : ((7000000 : Int) : Rat) = 7000000 := rfl
      rw [el, e7]; grind
    exact le_cast this
theorem lb_spec {x M : Int} (hM : 0 < M) (hx : -(12 * M) ≤ 5 * x) (hx2 : x ≤ 12 * M) : ∀ k : Nat,
    1000000 * (120001 / 100000 + ((x.natAbs : Int) : Rat) / (M : Rat) / 16 + wSum x M k) ≤ (lb x M k : Rat) ∧ lb x M k ≤ 2000000 + 7000000 * (k : Int)
  | 0 => by
    have hM0 := castpos hM
    obtain ⟨a, b⟩ := ediv_rat (a := 10 ^ 6 * (x.natAbs : Int)) (show 0 < 16 * M by omega)
    have e1 : ((10 ^ 6 * (x.natAbs : Int) : Int) : Rat) / ((16 * M : Int) : Rat) = 1000000 * (((x.natAbs : Int) : Rat) / (M : Rat) / 16) := by
      rw [rat_mul_cast, rat_mul_cast]
      have e6 : (((10 : Int) ^ 6 : Int) : Rat) = 1000000 := by decide +kernel
      have e2 : ((16 : Int) : Rat) = 16 := rfl
      rw [e6, e2]
      grind
    rw [e1] at a b
    have el : (lb x M 0 : Rat) = 1200010 + ((10 ^ 6 * (x.natAbs : Int) / (16 * M) : Int) : Rat) + 1 := by
      unfold lb; push_cast; rfl
    have X12 : ((x.natAbs : Int) : Rat) / (M : Rat) ≤ 12 := div_le hM0 (by
      have : ((x.natAbs : Int)) ≤ 12 * M := by omega
      exact_mod_cast this)
    have ez : wSum x M 0 = 0 := rfl
    constructor
    · rw [el, ez]; grind
    · have : (lb x M 0 : Rat) ≤ ((2000000 : Int) : Rat) := by
        have e7 : ((2000000 : Int) : Rat) = 2000000 := rfl
        rw [el, e7]; grind
      have h : lb x M 0 ≤ 2000000 := le_cast this
      omega
  | k + 1 => by
    obtain ⟨a, b⟩ := lb_spec hM hx hx2 k
    obtain ⟨c, d⟩ := lbT_spec hM hx k
    have el : (lb x M (k + 1) : Rat) = (lb x M k : Rat) + (lbT x M k : Rat) := by
      show ((lb x M k + lbT x M k : Int) : Rat) = _
      exact Rat.intCast_add _ _
    constructor
    · rw [el]
      show 1000000 * (_ + (wSum x M k + _ / 2)) ≤ _
      grind
    · show lb x M k + lbT x M k ≤ 2000000 + 7000000 * ((k + 1 : Nat) : Int)
      omega
theorem lb_nn {x M : Int} (hM : 0 < M) (hx : -(12 * M) ≤ 5 * x) (hx2 : x ≤ 12 * M) (k : Nat) : 0 ≤ lb x M k := by
  have h := (lb_spec hM hx hx2 k).1
  have s0 : 0 ≤ wSum x M k := wSum_mono hM hx (Nat.zero_le k)
  have X0 := div_nn (castnn (show 0 ≤ (x.natAbs : Int) by omega)) (castpos hM)
  have : ((0 : Int) : Rat) ≤ (lb x M k : Rat) := by
    have e0 : ((0 : Int) : Rat) = 0 := rfl
    rw [e0]; grind
  exact le_cast this

theorem tenN_ge1 : ∀ n : Nat, (1 : Rat) ≤ 10 ^ n
  | 0 => by rw [Rat.pow_zero]; exact Rat.le_refl
  | n + 1 => by rw [Rat.pow_succ]; have := tenN_ge1 n; grind
theorem turns_of {x M L : Int} {K : Nat} (hM : 0 < M) (h : ¬ M * 2 ^ K < (x.natAbs : Int) * 2 ^ L.toNat + M) : rOf M x L ≤ K := by
  rcases Int.le_total 0 x with h0 | h0
  · refine rOf_le_pos hM h0 ?_
    have e : (x.natAbs : Int) = x := by omega
    rw [e] at h
    omega
  · refine rOf_le_neg hM h0 ?_
    have e : (x.natAbs : Int) = -x := by omega
    rw [e, Int.neg_mul] at h
    rw [Int.mul_sub]
    omega
theorem turns_le {x M L : Int} {k : Nat} (hM : 0 < M) (hL : 3 ≤ L) (hL2 : L ≤ 10) (hx2 : x ≤ 12 * M) (hx : -(12 * M) ≤ 5 * x) (h : M * 2 ^ k < (x.natAbs : Int) * 2 ^ L.toNat + M) : k ≤ 13 := by
  have p : (2 : Int) ^ L.toNat ≤ 1024 := by
    have : (2 : Nat) ^ L.toNat ≤ 2 ^ 10 := Nat.pow_le_pow_right (by decide) (by omega)
    have h : ((2 : Int) ^ L.toNat) = ((2 ^ L.toNat : Nat) : Int) := by push_cast; rfl
    omega
  refine Classical.byContradiction fun hn => ?_
  have p14 : (2 : Int) ^ 14 ≤ 2 ^ k := by
    have : (2 : Nat) ^ 14 ≤ 2 ^ k := Nat.pow_le_pow_right (by decide) (by omega)
    exact_mod_cast this
  have e : (2 : Int) ^ 14 = 16384 := by decide
  rw [e] at p14
  have h1 := Int.mul_le_mul_of_nonneg_left p14 (Int.le_of_lt hM)
  have h2 := Int.mul_le_mul_of_nonneg_left p (show 0 ≤ (x.natAbs : Int) by omega)
  omega

theorem x05 {p a b : Int} (hp : 6 ≤ p) (hp2 : p ≤ 38) (hb : 1 ≤ b) (hb2 : b ≤ 6) (ha : -b ≤ a) (ha2 : a ≤ 5 * b) {x : Int} (hx : divN (a * l10 (p + 6)) (b * 10 ^ 6) = x) :
    x ≤ 12 * 10 ^ p.toNat ∧ -(12 * 10 ^ p.toNat) ≤ 5 * x ∧
    (b.toNat : Rat) * ((x : Rat) / (10 : Rat) ^ p.toNat) ≤ (a : Rat) * ((l10 (p + 6) : Rat) / (10 : Rat) ^ (p + 6).toNat) - ((a.natAbs : Int) : Rat) / (10 : Rat) ^ (p + 6).toNat + (b.toNat : Rat) * (50001 / 100000 / (10 : Rat) ^ p.toNat) ∧
    (a : Rat) * ((l10 (p + 6) : Rat) / (10 : Rat) ^ (p + 6).toNat) + ((a.natAbs : Int) : Rat) / (10 : Rat) ^ (p + 6).toNat ≤ (b.toNat : Rat) * ((x : Rat) / (10 : Rat) ^ p.toNat) + (b.toNat : Rat) * (50001 / 100000 / (10 : Rat) ^ p.toNat) := by
  have hbp : 0 < b * 10 ^ 6 := by omega
  obtain ⟨d1, d2⟩ := divN_rat (a := a * l10 (p + 6)) hbp
  rw [hx] at d1 d2
  obtain ⟨l1, l2⟩ := l10_near (q := p + 6) (by omega) (by omega)
  have hM := tenQ_pos p.toNat
  have eq6 : (10 : Rat) ^ (p + 6).toNat = (10 : Rat) ^ p.toNat * 1000000 := by
    have : (p + 6).toNat = p.toNat + 6 := by omega
    rw [this, pow_add']
    have e6 : (10 : Rat) ^ 6 = 1000000 := by decide +kernel
    rw [e6]
  have hl2 : 1000 * (l10 (p + 6) : Rat) ≤ 2303 * ((10 : Rat) ^ p.toNat * 1000000) := by
    rw [← eq6]
    have := castle l2
    rw [rat_mul_cast, rat_mul_cast, ten_cast] at this
    exact this
  have hl0 : 0 ≤ (l10 (p + 6) : Rat) := castnn (by have := ten_pos (p + 6).toNat; omega)
  have hM6 : (1000000 : Rat) ≤ (10 : Rat) ^ p.toNat := by
    have : p.toNat = 6 + (p.toNat - 6) := by omega
    rw [this, pow_add']
    have e6 : (10 : Rat) ^ 6 = 1000000 := by decide +kernel
    have : (1 : Rat) ≤ 10 ^ (p.toNat - 6) := by
      have := tenN_ge1 (p.toNat - 6)
      exact this
    rw [e6]
    grind
  have eb : ((b * 10 ^ 6 : Int) : Rat) = (b : Rat) * 1000000 := by
    rw [rat_mul_cast]
    have e6 : (((10 : Int) ^ 6 : Int) : Rat) = 1000000 := by decide +kernel
    rw [e6]
  rw [eb, rat_mul_cast] at d1 d2
  rw [eq6]
  have hb1 : (1 : Rat) ≤ (b : Rat) := by have := castle hb; exact this
  have hba : -(b : Rat) ≤ (a : Rat) := by exact_mod_cast ha
  have hba2 : (a : Rat) ≤ 5 * (b : Rat) := by exact_mod_cast ha2
  have ebn : (b.toNat : Rat) = (b : Rat) := by
    have : ((b.toNat : Nat) : Int) = b := by omega
    have h2 : (((b.toNat : Nat) : Int) : Rat) = (b : Rat) := by rw [this]
    rw [← h2]; push_cast; rfl
  have hab : ((a.natAbs : Int) : Rat) ≤ 5 * (b : Rat) := by
    have : (a.natAbs : Int) ≤ 5 * b := by omega
    exact_mod_cast this
  have hab0 : (0 : Rat) ≤ ((a.natAbs : Int) : Rat) := castnn (by omega)
  rw [ebn]
  have ex1 : x ≤ 12 * 10 ^ p.toNat := by
    refine le_cast ?_
    rw [rat_mul_cast, ten_cast]
    have e12 : ((12 : Int) : Rat) = 12 := rfl
    rw [e12]
    have k : (a : Rat) * (l10 (p + 6) : Rat) / ((b : Rat) * 1000000) ≤ 11515 / 1000 * (10 : Rat) ^ p.toNat := div_le (by grind) (by
      have m1 := Rat.mul_le_mul_of_nonneg_right hba2 hl0
      have m2 := Rat.mul_le_mul_of_nonneg_left hl2 (show 0 ≤ (b : Rat) by grind)
      generalize (10 : Rat) ^ p.toNat = N at *
      generalize (l10 (p + 6) : Rat) = l at *
      grind)
    generalize (10 : Rat) ^ p.toNat = N at *
    grind
  have ex2 : -(12 * 10 ^ p.toNat) ≤ 5 * x := by
    refine le_cast ?_
    rw [Rat.intCast_neg, rat_mul_cast, rat_mul_cast, ten_cast]
    have e12 : ((12 : Int) : Rat) = 12 := rfl
    have e5 : ((5 : Int) : Rat) = 5 := rfl
    rw [e12, e5]
    have k : -(2303 / 1000 * (10 : Rat) ^ p.toNat) ≤ (a : Rat) * (l10 (p + 6) : Rat) / ((b : Rat) * 1000000) := le_div (by grind) (by
      have m1 := Rat.mul_le_mul_of_nonneg_right hba hl0
      have m2 := Rat.mul_le_mul_of_nonneg_left hl2 (show 0 ≤ (b : Rat) by grind)
      generalize (10 : Rat) ^ p.toNat = N at *
      generalize (l10 (p + 6) : Rat) = l at *
      grind)
    generalize (10 : Rat) ^ p.toNat = N at *
    grind
  refine ⟨ex1, ex2, ?_, ?_⟩
  · clear ex1 ex2 l1 l2 eq6
    generalize (10 : Rat) ^ p.toNat = N at *
    generalize (l10 (p + 6) : Rat) = l at *
    generalize ((a.natAbs : Int) : Rat) = aa at *
    have m := Rat.mul_le_mul_of_nonneg_left d2 (show 0 ≤ (b : Rat) / N from div_nn (by grind) hM)
    have e1 : (b : Rat) / N * (x : Rat) = (b : Rat) * ((x : Rat) / N) := by grind
    have e2 : (b : Rat) / N * ((a : Rat) * l / ((b : Rat) * 1000000) + 1 / 2) = (a : Rat) * (l / (N * 1000000)) + (b : Rat) * (1 / 2 / N) := by grind
    rw [e1, e2] at m
    have m2 : aa / (N * 1000000) ≤ (b : Rat) * (1 / 100000 / N) := by
      have e3 : (b : Rat) * (1 / 100000 / N) = 10 * (b : Rat) / (N * 1000000) := by grind
      rw [e3]
      exact div_mono (by grind) (by grind)
    have e4 : (b : Rat) * (50001 / 100000 / N) = (b : Rat) * (1 / 2 / N) + (b : Rat) * (1 / 100000 / N) := by grind
    rw [e4]
    grind
  · clear ex1 ex2 l1 l2 eq6
    generalize (10 : Rat) ^ p.toNat = N at *
    generalize (l10 (p + 6) : Rat) = l at *
    generalize ((a.natAbs : Int) : Rat) = aa at *
    have m := Rat.mul_le_mul_of_nonneg_left d1 (show 0 ≤ (b : Rat) / N from div_nn (by grind) hM)
    have e1 : (b : Rat) / N * (x : Rat) = (b : Rat) * ((x : Rat) / N) := by grind
    have e2 : (b : Rat) / N * ((a : Rat) * l / ((b : Rat) * 1000000) - 1 / 2) = (a : Rat) * (l / (N * 1000000)) - (b : Rat) * (1 / 2 / N) := by grind
    rw [e1, e2] at m
    have m2 : aa / (N * 1000000) ≤ (b : Rat) * (1 / 100000 / N) := by
      have e3 : (b : Rat) * (1 / 100000 / N) = 10 * (b : Rat) / (N * 1000000) := by grind
      rw [e3]
      exact div_mono (by grind) (by grind)
    have e4 : (b : Rat) * (50001 / 100000 / N) = (b : Rat) * (1 / 2 / N) + (b : Rat) * (1 / 100000 / N) := by grind
    rw [e4]
    grind

end Mine

namespace Mine
open PySem.Builtin.Int (intBits)
open Ex

theorem pow_mulQ (a : Rat) (m : Nat) : ∀ n : Nat, a ^ (m * n) = (a ^ m) ^ n
  | 0 => by rw [Nat.mul_zero, Rat.pow_zero, Rat.pow_zero]
  | n + 1 => by rw [Nat.mul_succ, pow_add', pow_mulQ a m n, Rat.pow_succ]
theorem ten6_le {p : Int} (hp : 6 ≤ p) : (1000000 : Int) ≤ 10 ^ p.toNat := by
  have : (10 : Nat) ^ 6 ≤ 10 ^ p.toNat := Nat.pow_le_pow_right (by decide) (by omega)
  have e : ((10 : Nat) ^ 6) = 1000000 := by decide
  have e2 : ((10 : Int) ^ p.toNat) = ((10 ^ p.toNat : Nat) : Int) := by push_cast; rfl
  omega

theorem law05 {p L a b x : Int} {K : Nat} (hp : 6 ≤ p) (hp2 : p ≤ 38) (hL : 3 ≤ L) (hL2 : L ≤ 10) (hb : 1 ≤ b) (hb2 : b ≤ 6) (ha : -b ≤ a) (ha2 : a ≤ 5 * b) (hx : divN (a * l10 (p + 6)) (b * 10 ^ 6) = x)
    (hK : ¬ 10 ^ p.toNat * 2 ^ K < (x.natAbs : Int) * 2 ^ L.toNat + 10 ^ p.toNat) (hK2 : K ≤ 14) :
    (iexpF (10 ^ p.toNat) x L * (10 ^ 6 * 10 ^ p.toNat - lb x (10 ^ p.toNat) K)) ^ b.toNat ≤ 10 ^ (p * b + a).toNat * (10 ^ 6 * 10 ^ p.toNat) ^ b.toNat ∧
    10 ^ (p * b + a).toNat * (10 ^ 6 * 10 ^ p.toNat) ^ b.toNat ≤ (iexpF (10 ^ p.toNat) x L * (10 ^ 6 * 10 ^ p.toNat + lb x (10 ^ p.toNat) K)) ^ b.toNat := by
  obtain ⟨x1, x2, q1, q2⟩ := x05 hp hp2 hb hb2 ha ha2 hx
  have hM := ten6_le hp
  obtain ⟨w1, w2, -, t0, -, -⟩ := iexp_wt (x := x) (L := L) hM (bits_mono (ten_bits46 (by omega))) hL hL2 x1 x2
  have hM' : (0 : Int) < 10 ^ p.toNat := by omega
  have hR := turns_of hM' hK
  obtain ⟨b1, b2⟩ := lb_spec hM' x2 x1 K
  have sm := wSum_mono hM' x2 hR
  have sn : 0 ≤ wSum x (10 ^ p.toNat) (rOf (10 ^ p.toNat) x L) := wSum_mono hM' x2 (Nat.zero_le _)
  have X0 := div_nn (castnn (show 0 ≤ (x.natAbs : Int) by omega)) (castpos hM')
  have hpb : 0 ≤ p * b := Int.mul_nonneg (by omega) (by omega)
  have hpa : 0 ≤ p * b + a := by
    have := Int.mul_le_mul_of_nonneg_right hp (show 0 ≤ b by omega)
    omega
  obtain ⟨t1, t2⟩ := ten_pm (q := p + 6) (by omega) (by omega) (a := a) hpb hpa
  have hb14 : (lb x (10 ^ p.toNat) K : Rat) ≤ 100000000 + 10000000 := by
    have h : lb x (10 ^ p.toNat) K ≤ 110000000 := by omega
    have := castle h
    have e : ((110000000 : Int) : Rat) = 100000000 + 10000000 := by decide +kernel
    rwa [e] at this
  have hM6 : (1000000 : Rat) ≤ (10 : Rat) ^ p.toNat := by
    have := castle hM
    rw [ten_cast] at this
    exact this
  rw [ten_cast] at w1 w2 X0 b1
  have hF := castpos t0
  have hM0 : (0 : Rat) < (10 : Rat) ^ p.toNat := by grind
  have hu : 0 < (iexpF (10 ^ p.toNat) x L : Rat) / (10 : Rat) ^ p.toNat := div_pos hF hM0
  have c1 := fin_dn (β := (lb x (10 ^ p.toNat) K : Rat) / 1000000) hM6 hu (by grind) (by grind) (by grind) (by grind) w2 t1 q1
  have c2 := fin_up (β := (lb x (10 ^ p.toNat) K : Rat) / 1000000) hM6 hu (by grind) (by grind) (by grind) w1 t2 q2
  have eM : (10 : Rat) ^ (p * b).toNat = ((10 : Rat) ^ p.toNat) ^ b.toNat := by
    have : (p * b).toNat = p.toNat * b.toNat := Int.toNat_mul (by omega) (by omega)
    rw [this]
    exact pow_mulQ 10 p.toNat b.toNat
  rw [eM] at c1 c2
  have e6 : (((10 : Int) ^ 6 : Int) : Rat) = 1000000 := by decide +kernel
  clear b1 b2 hb14 w1 w2 t1 t2 q1 q2 sm sn X0
  generalize iexpF (10 ^ p.toNat) x L = F at *
  generalize lb x (10 ^ p.toNat) K = B at *
  have eD : ((10 ^ (p * b + a).toNat : Int) : Rat) = (10 : Rat) ^ (p * b + a).toNat := ten_cast _
  have eU : ((10 ^ 6 * 10 ^ p.toNat : Int) : Rat) = 1000000 * (10 : Rat) ^ p.toNat := by rw [rat_mul_cast, e6, ten_cast]
  have hNn : 0 < (((10 : Rat) ^ p.toNat) * (1000000 * (10 : Rat) ^ p.toNat)) ^ b.toNat := Rat.pow_pos (Rat.mul_pos hM0 (by grind))
  have hNb : 0 < ((10 : Rat) ^ p.toNat) ^ b.toNat := Rat.pow_pos hM0
  constructor
  · refine le_cast ?_
    rw [rat_mul_cast (10 ^ (p * b + a).toNat), castpow (10 ^ 6 * 10 ^ p.toNat), castpow (F * _), rat_mul_cast F, Rat.intCast_sub, eD, eU]
    clear eD eU eM
    generalize (10 : Rat) ^ p.toNat = N at *
    generalize (10 : Rat) ^ (p * b + a).toNat = T at *
    have e1 : (F : Rat) * (1000000 * N - (B : Rat)) = (F : Rat) / N * (1 - (B : Rat) / 1000000 / N) * (N * (1000000 * N)) := by grind
    rw [e1, mul_pow']
    have m := Rat.mul_le_mul_of_nonneg_right c1 (Rat.le_of_lt hNn)
    have e2 : T / N ^ b.toNat * (N * (1000000 * N)) ^ b.toNat = T * (1000000 * N) ^ b.toNat := by
      rw [mul_pow' N]
      generalize N ^ b.toNat = z at *
      grind
    rw [e2] at m
    exact m
  · refine le_cast ?_
    rw [rat_mul_cast (10 ^ (p * b + a).toNat), castpow (10 ^ 6 * 10 ^ p.toNat), castpow (F * _), rat_mul_cast F, Rat.intCast_add, eD, eU]
    clear eD eU eM
    generalize (10 : Rat) ^ p.toNat = N at *
    generalize (10 : Rat) ^ (p * b + a).toNat = T at *
    have e1 : (F : Rat) * (1000000 * N + (B : Rat)) = (F : Rat) / N * (1 + (B : Rat) / 1000000 / N) * (N * (1000000 * N)) := by grind
    rw [e1, mul_pow' (_ * _) (N * _)]
    have m := Rat.mul_le_mul_of_nonneg_right c2 (Rat.le_of_lt hNn)
    have e2 : T / N ^ b.toNat * (N * (1000000 * N)) ^ b.toNat = T * (1000000 * N) ^ b.toNat := by
      rw [mul_pow' N]
      generalize N ^ b.toNat = z at *
      grind
    rw [e2] at m
    exact m

end Mine

namespace Mine
open PySem.Builtin.Int (intBits)
open Ex
theorem xb05 {M x : Int} (hM : 1000000 ≤ M) (hMb : intBits M ≤ 200) (hx2 : x ≤ 12 * M) (hx : -(12 * M) ≤ 5 * x) : intBits x ≤ 204 :=
  bits_abs (b := 12 * M) (k := 204) (by omega) (by omega) (intBits_mul_le (m := 4) (by decide) hMb)
theorem absI (x : Int) : (if x < 0 then -x else x) = (x.natAbs : Int) := by split <;> omega
def LbInv (x M total scale : Int) : Prop := ∃ k : Nat, k ≤ 14 ∧ scale = M * 2 ^ k ∧ total = lb x M k
def lbMeas (M scale : Int) : Nat := (M * 2 ^ 15 - scale).toNat
theorem LbInv.start {x M : Int} : LbInv x M (1200010 + 10 ^ Int.toNat 6 * (x.natAbs : Int) / (16 * M) + 1) M := ⟨0, by decide, by rw [Int.pow_zero, Int.mul_one], rfl⟩
theorem LbInv.turn {x M L total scale : Int} (h : LbInv x M total scale) (hM : 1000000 ≤ M) (hL : 3 ≤ L) (hL2 : L ≤ 10) (hx2 : x ≤ 12 * M) (hx : -(12 * M) ≤ 5 * x) (hc : scale < (if x < 0 then -x else x) * 2 ^ L.toNat + M) :
    LbInv x M (total + (10 ^ Int.toNat 6 * (32 * scale) ^ Int.toNat 32 / (2 * (32 * scale + x) ^ Int.toNat 32) + 1)) (scale * 2) := by
  rw [absI] at hc
  obtain ⟨k, h1, rfl, rfl⟩ := h
  have := turns_le (by omega) hL hL2 hx2 hx hc
  refine ⟨k + 1, by omega, by rw [Int.pow_succ, Int.mul_assoc], rfl⟩
theorem LbInv.less {x M L total scale : Int} (h : LbInv x M total scale) (hM : 1000000 ≤ M) (hL : 3 ≤ L) (hL2 : L ≤ 10) (hx2 : x ≤ 12 * M) (hx : -(12 * M) ≤ 5 * x) (hc : scale < (if x < 0 then -x else x) * 2 ^ L.toNat + M) :
    lbMeas M (scale * 2) < lbMeas M scale := by
  rw [absI] at hc
  obtain ⟨k, h1, rfl, rfl⟩ := h
  have := turns_le (by omega) hL hL2 hx2 hx hc
  unfold lbMeas
  have hp := shl_pos (M := M) (by omega) k
  have : M * 2 ^ k < M * 2 ^ 15 := by
    refine Int.mul_lt_mul_of_pos_left ?_ (by omega)
    have : (2 : Nat) ^ k < 2 ^ 15 := Nat.pow_lt_pow_right (by decide) (by omega)
    exact_mod_cast this
  omega
theorem LbInv.facts {x M total scale : Int} (h : LbInv x M total scale) (hM : 1000000 ≤ M) (hMb : intBits M ≤ 200) (hx2 : x ≤ 12 * M) (hx : -(12 * M) ≤ 5 * x) :
    0 < scale ∧ intBits scale ≤ 220 ∧ intBits (32 * scale) ≤ 226 ∧ intBits (32 * scale + x) ≤ 227 ∧ 0 < 32 * scale + x ∧ 0 ≤ total ∧ total ≤ 110000000 := by
  obtain ⟨k, h1, rfl, rfl⟩ := h
  have hM' : 0 < M := by omega
  have hs := shl_pos hM' k
  have hsb : intBits (M * 2 ^ k) ≤ 220 := shl_bits (c := 220) hMb (by omega)
  have h32 : intBits (32 * (M * 2 ^ k)) ≤ 226 := intBits_mul_le (m := 6) (by decide) hsb
  refine ⟨hs, hsb, h32, bits_mono (intBits_add_le (m := 226) (n := 204) h32 (xb05 hM hMb hx2 hx)), den_pos hM' hx k, lb_nn hM' hx hx2 k, ?_⟩
  have := (lb_spec hM' hx hx2 k).2
  omega
theorem pow_bits {a : Int} {b : Nat} (h : intBits a ≤ b) : ∀ n : Nat, intBits (a ^ n) ≤ b * n + 1
  | 0 => by rw [Int.pow_zero]; exact (show intBits 1 ≤ 1 by decide)
  | n + 1 => by
    rw [Int.pow_succ]
    have := intBits_mul_le (pow_bits h n) h
    rw [Nat.mul_succ]
    omega
theorem LbInv.done {x M total scale Z : Int} (h : LbInv x M total scale) (hn : ¬ scale < (if x < 0 then -x else x) * Z + M) : ∃ K : Nat, K ≤ 14 ∧ ¬ M * 2 ^ K < (x.natAbs : Int) * Z + M ∧ lb x M K = total := by
  rw [absI] at hn
  obtain ⟨k, h1, rfl, rfl⟩ := h
  exact ⟨k, h1, hn, rfl⟩
end Mine

open_top hd05 for PySem.Challenge.rw_dm0269_05

local macro_rules | `(tactic| walk_at "call builtin:divmod") => `(tactic| ((with_reducible show wpAny _ _ (call (Value.builtin _) [Value.int _ _, Value.int _ _]) _ _ _); refine divmod_N (by assumption) (by assumption) (by omega) ?_ (Mine.noPy (by assumption)); intro _ _ _))
local macro_rules | `(tactic| walk_at "pyIter ref") => `(tactic| (k_here; (with_reducible show wpAny _ _ (pyIter (Value.ref _)) _ _ _); refine Mine.Stop.out ?_))
local macro_rules | `(tactic| walk_at "binaryOp FloorDiv int int") => `(tactic| (k_here; (with_reducible show wpAny _ _ (binaryOp Operator.FloorDiv (Value.int _ _) (Value.int _ _)) _ _ _); refine Mine.Stop.out ?_))
local macro_rules | `(tactic| walk_at "call ref") => `(tactic| (k_here; (with_reducible show wpAny _ _ (call (Value.ref _) (Value.int _ _ :: _)) _ _ _); refine Mine.Stop.out ?_))
local macro_rules | `(tactic| walk_at "call type:str") => `(tactic| (k_here; (with_reducible show wpAny _ _ (call (Value.type "str") [Value.int _ _]) _ _ _); refine Mine.Stop.out ?_))
local macro_rules | `(tactic| walk_at "binaryOp LShift int int") => `(tactic| (k_here; (with_reducible refine lshift_int ?kbn ?kbs ?_); (case kbn => omega); (case kbs => first | exact Mine.abs_shl (Mine.Bd.out (by assumption)) (by omega) | exact Mine.shl_ok (Mine.Bd.out (by assumption)) (by omega))))
local macro_rules | `(tactic| walk_at "compareOp NotEq int int") => `(tactic| (with_reducible refine Mine.ne_same ?_))
local macro_rules | `(tactic| walk_at "binaryOp Mod int int") => `(tactic| (k_here; (with_reducible refine Mine.mod_gen ?hmb ?_); (case hmb => first | omega | decide | fail "the divisor"); intro r9 hr9 hs9))
local macro_rules | `(tactic| walk_at "UnrEndW") => `(tactic| (k_dflt ktu_end))
local macro_rules | `(tactic| walk_at "binaryOp Pow int int") => `(tactic| (k_here; (with_reducible refine pow_int_small ?kb1 ?kb2 ?kb3 ?_); (case kb1 => first | decide | omega); (case kb2 => first | decide | omega); (case kb3 => decide)))
namespace Mine
open PySem.Builtin.Int (intBits)
section
variable {w : World} {loose : List Str} {mean : ExcName → Option Value} {mg mb : Str → Option Value} {news : List (Addr × Obj)} {dp un : Nat} {gd : Option (List Code)} {cn : Str} {cs : PySem.Scope} {ca : Addr} {ccd : Value} {cl : List (Str × Addr)} {outer : List Env} {A₀ : Around} {base h₀ : Heap} {L : Addr} {m : Str → Option Value} {s : Shared} {Q E : Value → Shared → Prop}
theorem c_div {a b : Int} {ta tb : Tok} (B : Below A₀ base outer h₀) (F : Fr h₀ L s.heap m) (X : (hd05.heap_39 w.params).In h₀) (N : News h₀ L s.heap news) (T : Top hd05.view_39 loose mean mg mb h₀) (hk : cs.kind = .function)
  (hb : 0 < b) (hb2 : intBits b ≤ 9000) (hd : dp + 2 < recursionLimit) (hu : un + 16 < cLine)
  (hret : ∀ (t : Tok) (h' : Heap) (tk' : Nat), Fr h₀ L h' m → News h₀ L h' news → Q (.int (divN a b) t) { s with heap := h', toks := tk' }) :
  wpAny (model PySem.Challenge.rw_dm0269_05.row.prog w) (ktrTop dp un gd cn cs L ca ccd cl outer) (call (.ref 35) [.int a ta, .int b tb]) Q E s := by
  revert X; k_fill; intro X
  refine wpAny_call ?_
  k_dflt cell_enter
  k_steps
  refine cb_retI (Q := Q) hret ?e1 ?e2 ?e3
  case e2 => k_asm
  case e3 => first | k_asm | (refine' cb_drop ?cbN ?cbS; (case cbN => assumption); (case cbS => kcj_all))
  case e1 => exact divN_of hb
theorem c_iexp {x M LL : Int} {ta tb tc : Tok} (B : Below A₀ base outer h₀) (F : Fr h₀ L s.heap m) (X : (hd05.heap_39 w.params).In h₀) (N : News h₀ L s.heap news) (T : Top hd05.view_39 loose mean mg mb h₀) (hk : cs.kind = .function)
  (hM : 0 < M) (hM2 : intBits M ≤ 1000) (hL : 0 < LL) (hL2 : LL ≤ 100) (hx : intBits x ≤ 2000) (hR : rOf M x LL ≤ 1000)
  (he : ∀ j : Nat, (j : Int) < tOf M LL → intBits (eS x (M * 2 ^ rOf M x LL) (tOf M LL) j) ≤ 3000)
  (hdd : ∀ j : Nat, j ≤ rOf M x LL → intBits (dS M (rOf M x LL) (iexpY M x LL) j) ≤ 3000)
  (hd : dp + 4 < recursionLimit) (hu : un + 40 < cLine)
  (hret : ∀ (t : Tok) (h' : Heap) (tk' : Nat), Fr h₀ L h' m → News h₀ L h' news → Q (.int (iexpF M x LL) t) { s with heap := h', toks := tk' }) :
  wpAny (model PySem.Challenge.rw_dm0269_05.row.prog w) (ktrTop dp un gd cn cs L ca ccd cl outer) (call (.ref 83) [.int x ta, .int M tb, .int LL tc]) Q E s := by
  revert X; k_fill; intro X
  have hxb := Bd.mk hx
  have hMb := Bd.mk hM2
  k_with "state" => first | exact rfl | exact eS_turn (by assumption) | exact dS_turn (by assumption) (by show _ < intBits ((_ * _) / _); omega)
  refine wpAny_call ?_
  k_dflt (refine' code_def ?k1 ?k2 ?k3 ?k4 ?k5 ?kA ?kF ?kK ?k6 ?k7 ?k8 ?k9 ?kB ?_ ?c2 ?c3 ?c4 ?c5; (case kA => exact rfl); (case kF => exact rfl); (case kK => assumption); (case k1 => k_asm); (case k2 => k_asm); (case k3 => k_asm); (case k4 => k_asm); (case k5 => k_asm); (case k6 => k_is); (case k7 => k_is); (case k8 => ktr_room); (case k9 => exact binds_K (by k_in) rfl (by k_is) rfl rfl rfl); (case c5 => decide); (case kB => exact locs rfl); (case c2 => exact rfl); (case c3 => exact rfl); (case c4 => exact rfl); k_whole; intro g' L' h' FG' F' N' B' X' T'; (try dsimp only); (try k_lift B'); (try k_fold))
  k_steps
  refine Stop.mk ?_
  refine floordiv_pos hM (bits_mono hM2) ?_
  k_steps
  refine Stop.mk ?_
  refine P.str_of_int (log_of_bits hM2) ?_
  k_steps
  refine len_digs hM2 ?_
  have hTp := tOf_pos (Int.le_of_lt hM) hL
  have hTl := tOf_le (by decide) hM2 hL
  have hTp' : 0 < -((-10 * digs M) / (3 * LL)) := hTp
  have hTl' : -((-10 * digs M) / (3 * LL)) ≤ 10 * (1000 + 1) := hTl
  have hR' : intBits ((x * 2 ^ LL.toNat) / M) ≤ 1000 := hR
  k_steps
  refine Stop.mk ?_
  refine floordiv_pos (by omega) (bits_small (b := 1000) (by omega) (by omega)) ?_
  k_steps
  refine Stop.mk ?_
  (with_unfolding_all refine' c_div ?k1_1 ?k2_1 ?k3_1 ?k4_1 ?k5_1 ?kK_1 ?kp_1 ?kq_1 ?kd_1 ?ku_1 ?kR_1); (case k1_1 => k_asm); (case k2_1 => k_asm); (case k3_1 => k_asm); (case k4_1 => k_asm); (case k5_1 => k_asm); (case kK_1 => first | exact rfl | assumption); (case kp_1 => exact hTp); (case kq_1 => exact bits_small hTp hTl); (case kd_1 => ktr_room); (case ku_1 => ktr_units); (intro t9 h9 tk9 F9 N9); (try dsimp only); (try k_fold)
  k_steps
  refine Stop.mk ?_
  have hMsp : 0 < M * 2 ^ rOf M x LL := shl_pos hM _
  have hMsb : intBits (M * 2 ^ rOf M x LL) ≤ 2001 := shl_bits hM2 (by omega)
  k_state (fun pre y => y = eS x (M * 2 ^ rOf M x LL) (tOf M LL) pre.length) "y"
  · subst kInv
    have heb := he kPre.length (by show _ < -((-10 * digs M) / (3 * LL)); omega)
    have hsb : intBits (M * 2 ^ rOf M x LL + eS x (M * 2 ^ rOf M x LL) (tOf M LL) kPre.length) ≤ 3001 := bits_mono (intBits_add_le hMsb heb)
    k_steps
    refine mul_int ?_ (mul_ok hx hsb)
    k_steps
    refine Stop.mk ?_
    (with_unfolding_all refine' c_div ?k1_2 ?k2_2 ?k3_2 ?k4_2 ?k5_2 ?kK_2 ?kp_2 ?kq_2 ?kd_2 ?ku_2 ?kR_2); (case k1_2 => k_asm); (case k2_2 => k_asm); (case k3_2 => k_asm); (case k4_2 => k_asm); (case k5_2 => k_asm); (case kK_2 => first | exact rfl | assumption); (case kp_2 => exact Int.mul_pos hMsp (by omega)); (case kq_2 => exact bits_mono (intBits_mul_le hMsb (PySem.intBits_le_64 (by omega) (by omega)))); (case kd_2 => ktr_room); (case ku_2 => ktr_units); (intro t9 h9 tk9 F9 N9); (try dsimp only); (try k_fold)
    k_steps
  · have kI2 : _ = iexpY M x LL := kInv.trans (iexpY_of (by rw [downKs_length]; show _ = (-((-10 * digs M) / (3 * LL)) - 1).toNat; omega))
    clear kInv
    subst kI2
    k_steps
    refine Stop.mk ?_
    k_state (fun pre y => y = dS M (rOf M x LL) (iexpY M x LL) pre.length) "y"
    · subst kInv
      have hdb := hdd kPre.length (by show _ ≤ intBits ((x * 2 ^ LL.toNat) / M); omega)
      have hMkb : intBits (M * 2 ^ (kN + 2).toNat) ≤ 2010 := shl_bits hM2 (by omega)
      have hyM : intBits (dS M (rOf M x LL) (iexpY M x LL) kPre.length + M * 2 ^ (kN + 2).toNat) ≤ 3001 := bits_mono (intBits_add_le hdb hMkb)
      k_steps
      refine mul_int ?_ (mul_ok hdb hyM)
      k_steps
      refine Stop.mk ?_
      (with_unfolding_all refine' c_div ?k1_3 ?k2_3 ?k3_3 ?k4_3 ?k5_3 ?kK_3 ?kp_3 ?kq_3 ?kd_3 ?ku_3 ?kR_3); (case k1_3 => k_asm); (case k2_3 => k_asm); (case k3_3 => k_asm); (case k4_3 => k_asm); (case k5_3 => k_asm); (case kK_3 => first | exact rfl | assumption); (case kp_3 => exact shl_pos hM _); (case kq_3 => exact bits_mono hMkb); (case kd_3 => ktr_room); (case ku_3 => ktr_units); (intro t9 h9 tk9 F9 N9); (try dsimp only); (try k_fold)
      k_steps
    · subst kInv
      k_steps
      refine cb_retI (Q := Q) hret ?e1 ?e2 ?e3
      case e2 => k_asm
      case e3 => first | k_asm | (refine' cb_drop ?cbN ?cbS; (case cbN => assumption); (case cbS => kcj_all))
      case e1 => exact iexpF_of (by rw [downKs_length]; show _ = intBits ((x * 2 ^ LL.toNat) / M); omega)
theorem c_iexpV {x M LL v : Int} {ta tb tc : Tok} (B : Below A₀ base outer h₀) (F : Fr h₀ L s.heap m) (X : (hd05.heap_39 w.params).In h₀) (N : News h₀ L s.heap news) (T : Top hd05.view_39 loose mean mg mb h₀) (hk : cs.kind = .function)
  (hM : 0 < M) (hM2 : intBits M ≤ 1000) (hL : 0 < LL) (hL2 : LL ≤ 100) (hx : intBits x ≤ 2000) (hR : rOf M x LL ≤ 1000)
  (he : ∀ j : Nat, (j : Int) < tOf M LL → intBits (eS x (M * 2 ^ rOf M x LL) (tOf M LL) j) ≤ 3000)
  (hdd : ∀ j : Nat, j ≤ rOf M x LL → intBits (dS M (rOf M x LL) (iexpY M x LL) j) ≤ 3000)
  (hv : iexpF M x LL = v) (hd : dp + 4 < recursionLimit) (hu : un + 40 < cLine)
  (hret : ∀ (t : Tok) (h' : Heap) (tk' : Nat), Fr h₀ L h' m → News h₀ L h' news → Q (.int v t) { s with heap := h', toks := tk' }) :
  wpAny (model PySem.Challenge.rw_dm0269_05.row.prog w) (ktrTop dp un gd cn cs L ca ccd cl outer) (call (.ref 83) [.int x ta, .int M tb, .int LL tc]) Q E s := by
  subst hv
  exact c_iexp B F X N T hk hM hM2 hL hL2 hx hR he hdd hd hu hret

theorem callWith_KM {prog : Program} {w : World} {K : Frag} {A : Around} {E : Value → Shared → Prop} {Q : Value → Shared → Prop} {s : Shared} {h₀ : Heap} {q g : Addr} {self : Value} {pos : Pos} {env : Env} {first : List Value} {e : Expr} {rest : List Expr} (_X : K.In h₀) (hq : K.lookup q = some (methodObj (.ref g) self)) (hf : fnIn K g = true) (h : wpAny (model prog w) A (spliced (backTo pos (starEach (e :: rest) env))) (fun vs s₁ => K.In s₁.heap ∧ wpAny (model prog w) A (call (.ref q) (first ++ vs)) Q E s₁) E s)
    (he : starEach (e :: rest) env = (false, eval e env) :: starEach rest env := by rfl) (hplain : (backTo pos (starEach rest env)).any (·.1) = false := by rfl) :
    wpAny (model prog w) A (callWith pos (.ref q) first (backTo pos (starEach (e :: rest) env)) []) Q E s := by
  rw [he] at h ⊢
  exact callWith_of (by show ((false || (backTo pos (starEach rest env)).any (·.1)) || false) = false; rw [hplain]; rfl) (fun hh X => keeps_M hf hh ⟨X _ _ hq, X⟩) (PySem.Calls.evalArgs_plain h)
theorem c_l10 {q : Int} {ta : Tok} (B : Below A₀ base outer h₀) (F : Fr h₀ L s.heap m) (X : (hd05.heap_39 w.params).In h₀) (N : News h₀ L s.heap news) (T : Top hd05.view_39 loose mean mg mb h₀) (hk : cs.kind = .function)
  (hq : 0 ≤ q) (hq2 : q ≤ 46) (hd : dp + 2 < recursionLimit) (hu : un + 16 < cLine)
  (hret : ∀ (t : Tok) (h' : Heap) (tk' : Nat), Fr h₀ L h' m → News h₀ L h' news → Q (.int (l10 q) t) { s with heap := h', toks := tk' }) :
  wpAny (model PySem.Challenge.rw_dm0269_05.row.prog w) (ktrTop dp un gd cn cs L ca ccd cl outer) (call (.ref 75) [.int q ta]) Q E s := by
  revert X; k_fill; intro X
  refine wpAny_call ?_
  refine method_call (f := .ref 64) (self := .ref 73) (p := 75) ((X.keeps F.keep) _ _ rfl) ?_
  k_dflt cell_enter
  k_steps
  refine KIN.call_text (l10_text hq hq2).1 (l10_text hq hq2).2 ?_
  k_steps
  refine cb_retI (Q := Q) hret ?e1 ?e2 ?e3
  case e2 => k_asm
  case e3 => first | k_asm | (refine' cb_drop ?cbN ?cbS; (case cbN => assumption); (case cbS => kcj_all))
  case e1 => exact rfl
theorem gen_toks {P : Nat → Prop} (n : Nat) (h : ∀ k, P k) : P n := h n
local macro_rules | `(tactic| walk_at "binaryOp Pow int int") => `(tactic| (k_here; (with_reducible show wpAny _ _ (binaryOp Operator.Pow (Value.int (32 * _) _) (Value.int _ _)) _ _ _); refine Mine.Stop.out ?_))
local macro_rules | `(tactic| walk_at "binaryOp Pow int int") => `(tactic| (k_here; (with_reducible show wpAny _ _ (binaryOp Operator.Pow (Value.int (32 * _ + _) _) (Value.int _ _)) _ _ _); refine Mine.Stop.out ?_))
local macro_rules | `(tactic| walk_at "binaryOp Mult int int") => `(tactic| (k_here; (with_reducible show wpAny _ _ (binaryOp Operator.Mult (Value.int (10 ^ _) _) (Value.int _ _)) _ _ _); refine Mine.Stop.out ?_))
local macro_rules | `(tactic| walk_at "execs cons") => `(tactic| (k_here; (with_reducible refine Mine.gen_toks (P := fun k => wpAny _ _ (execs (_ :: _) _) _ _ { heap := _, gens := _, drawn := _, toks := k, os := _ }) _ ?_); intro tk; (with_reducible refine wpAny_execs_cons ?_); try dsimp only))
local macro_rules | `(tactic| walk_at "execs nil") => `(tactic| (k_here; (with_reducible refine Mine.gen_toks (P := fun k => wpAny _ _ (execs [] _) _ _ { heap := _, gens := _, drawn := _, toks := k, os := _ }) _ ?_); intro tk; (with_reducible refine wpAny_execs_nil ?_); try dsimp only))
theorem c_lbd {x M LL : Int} {ta tb tc : Tok} (B : Below A₀ base outer h₀) (F : Fr h₀ L s.heap m) (X : (hd05.heap_39 w.params).In h₀) (N : News h₀ L s.heap news) (T : Top hd05.view_39 loose mean mg mb h₀) (hk : cs.kind = .function)
  (hM : 1000000 ≤ M) (hMb : intBits M ≤ 200) (hL : 3 ≤ LL) (hL2 : LL ≤ 10) (hx2 : x ≤ 12 * M) (hx : -(12 * M) ≤ 5 * x) (hd : dp + 4 < recursionLimit) (hu : un + 40 < cLine)
  (hret : ∀ (K : Nat) (t : Tok) (h' : Heap) (tk' : Nat), K ≤ 14 → ¬ M * 2 ^ K < (x.natAbs : Int) * 2 ^ LL.toNat + M → Fr h₀ L h' m → News h₀ L h' news → Q (.int (lb x M K) t) { s with heap := h', toks := tk' }) :
  wpAny (model PySem.Challenge.rw_dm0269_05.row.prog w) (ktrTop dp un gd cn cs L ca ccd cl outer) (call (.ref 90) [.int x ta, .int M tb, .int LL tc]) Q E s := by
  revert X; k_fill; intro X
  have hxB : Bd 204 x := ⟨xb05 hM hMb hx2 hx⟩
  have habs : (if x < 0 then -x else x) = (x.natAbs : Int) := by split <;> omega
  have habb : intBits (x.natAbs : Int) ≤ 204 := by rw [← habs]; split <;> first | exact intBits_neg_le hxB.out | exact hxB.out
  k_with "exec While Compare cons nil" => k_while (fun _ total scale => LbInv x M total scale) (fun _ total scale => lbMeas M scale) "total" "scale"
  k_with "state" => first | exact LbInv.start | exact LbInv.turn (by assumption) hM hL hL2 hx2 hx (by assumption)
  k_with "measure" => exact LbInv.less (by assumption) hM hL hL2 hx2 hx (by assumption)
  refine wpAny_call ?_
  k_dflt cell_enter
  k_steps
  refine Stop.mk ?_
  rw [habs]
  refine mul_int ?_ (mul_ok (PySem.intBits_le_64 (by decide) (by decide)) habb)
  k_steps
  refine Stop.mk ?_
  refine floordiv_pos (by omega) (bits_mono (intBits_mul_le (m := 64) (PySem.intBits_le_64 (by decide) (by decide)) hMb)) ?_
  k_steps
  · obtain ⟨f1, f2, f3, f4, f5, f6, f7⟩ := kInv.facts hM hMb hx2 hx
    refine Stop.mk ?_
    refine pow_int (by decide) (by omega) ?_
    k_steps
    refine Stop.mk ?_
    refine mul_int ?_ (mul_ok (PySem.intBits_le_64 (by decide) (by decide)) (pow_bits f3 32))
    k_steps
    refine Stop.mk ?_
    refine pow_int (by decide) (by omega) ?_
    k_steps
    refine Stop.mk ?_
    refine floordiv_pos (by have := Int.pow_pos (m := Int.toNat 32) f5; omega) (bits_mono (intBits_mul_le (m := 64) (n := 227 * 32 + 1) (PySem.intBits_le_64 (by decide) (by decide)) (pow_bits f4 32))) ?_
    k_steps
  · obtain ⟨K, g1, g2, g3⟩ := kInv.done (by assumption)
    refine cb_retI (Q := Q) (fun t h' tk' F9 N9 => hret K t h' tk' g1 g2 F9 N9) ?e1 ?e2 ?e3
    case e2 => k_asm
    case e3 => first | k_asm | (refine' cb_drop ?cbN ?cbS; (case cbN => assumption); (case cbS => kcj_all))
    case e1 => exact g3.symm

end
end Mine

namespace Mine
open PySem.Builtin.Int (intBits)
theorem gen_int2 {P : Int → Tok → Prop} (v : Int) (t : Tok) (h : ∀ x u, v = x → P x u) : P v t := h v t rfl
theorem fr_has5 {h₀ h : Heap} {L : Addr} {m : Str → Option Value} {a1 a2 a3 a4 a5 : Str} {v1 v2 v3 v4 v5 : Value} (e1 : m a1 = some v1) (e2 : m a2 = some v2) (e3 : m a3 = some v3) (e4 : m a4 = some v4) (e5 : m a5 = some v5) (F : Fr h₀ L h m) :
    Fr h₀ L h (fun y => if y = a1 then some v1 else if y = a2 then some v2 else if y = a3 then some v3 else if y = a4 then some v4 else if y = a5 then some v5 else m y) := by
  have e : m = (fun y => if y = a1 then some v1 else if y = a2 then some v2 else if y = a3 then some v3 else if y = a4 then some v4 else if y = a5 then some v5 else m y) := by
    funext y
    split
    · rename_i h; rw [h, e1]
    · split
      · rename_i h; rw [h, e2]
      · split
        · rename_i h; rw [h, e3]
        · split
          · rename_i h; rw [h, e4]
          · split
            · rename_i h; rw [h, e5]
            · rfl
  rw [← e]; exact F
/-- the body of the loop over pairs -/
def forBody : List Stmt → List Stmt
  | [] => []
  | .For (.Tuple _ _ _) _ b _ _ :: _ => b
  | _ :: r => forBody r
/-- what a turn of the last loop does -/
def Turn5 (M : Model) (A : Around) (t : Sem Flow) (h₀ : Heap) (L : Addr) : Prop :=
  ∀ (p LL a b : Int) (tp tL tM ta tb : Tok) (m : Str → Option Value) (news : List (Addr × Obj)) (s : Shared) (Q : Flow → Shared → Prop) (E : Value → Shared → Prop),
    6 ≤ p → p ≤ 38 → 3 ≤ LL → LL ≤ 10 → 1 ≤ b → b ≤ 6 → -b ≤ a → a ≤ 5 * b → Fr h₀ L s.heap m → News h₀ L s.heap news →
    m (Str.ofString "a") = some (.int a ta) → m (Str.ofString "b") = some (.int b tb) → m (Str.ofString "p") = some (.int p tp) → m (Str.ofString "L") = some (.int LL tL) → m (Str.ofString "M") = some (.int (10 ^ p.toNat) tM) →
    (∀ (m' : Str → Option Value) (h' : Heap) (tk' : Nat), m' (Str.ofString "p") = some (.int p tp) → m' (Str.ofString "L") = some (.int LL tL) → m' (Str.ofString "M") = some (.int (10 ^ p.toNat) tM) → Fr h₀ L h' m' → News h₀ L h' news → Q .next { s with heap := h', toks := tk' }) →
    wpAny M A t Q E s
theorem cut5 {M : Model} {A : Around} {env : Env} {stmts : List Stmt} {Q : Flow → Shared → Prop} {E : Value → Shared → Prop} {s : Shared} {h₀ : Heap} {L : Addr} {m : Str → Option Value} (_ : Fr h₀ L s.heap m)
    (C : Turn5 M A (execs (forBody stmts) env) h₀ L) (h : Turn5 M A (execs (forBody stmts) env) h₀ L → wpAny M A (execs stmts env) Q E s) : wpAny M A (execs stmts env) Q E s := h C
theorem turn5_use {M : Model} {A : Around} {t : Sem Flow} {h₀ : Heap} {L : Addr} {p LL a b : Int} {tp tL tM ta tb : Tok} {m : Str → Option Value} {news : List (Addr × Obj)} {s : Shared} {Q : Flow → Shared → Prop} {E : Value → Shared → Prop}
    (C : Turn5 M A t h₀ L) (F : Fr h₀ L s.heap m) (N : News h₀ L s.heap news)
    (e1 : m (Str.ofString "a") = some (.int a ta)) (e2 : m (Str.ofString "b") = some (.int b tb)) (e3 : m (Str.ofString "p") = some (.int p tp)) (e4 : m (Str.ofString "L") = some (.int LL tL)) (e5 : m (Str.ofString "M") = some (.int (10 ^ p.toNat) tM))
    (h : 6 ≤ p ∧ p ≤ 38 ∧ 3 ≤ LL ∧ LL ≤ 10 ∧ 1 ≤ b ∧ b ≤ 6 ∧ -b ≤ a ∧ a ≤ 5 * b)
    (k : ∀ (m' : Str → Option Value) (h' : Heap) (tk' : Nat), m' (Str.ofString "p") = some (.int p tp) → m' (Str.ofString "L") = some (.int LL tL) → m' (Str.ofString "M") = some (.int (10 ^ p.toNat) tM) → Fr h₀ L h' m' → News h₀ L h' news → Q .next { s with heap := h', toks := tk' }) : wpAny M A t Q E s :=
  C p LL a b tp tL tM ta tb m news s Q E h.1 h.2.1 h.2.2.1 h.2.2.2.1 h.2.2.2.2.1 h.2.2.2.2.2.1 h.2.2.2.2.2.2.1 h.2.2.2.2.2.2.2 F N e1 e2 e3 e4 e5 k
theorem pow_ok {a b : Int} (h : intBits a ≤ 1000) (hb0 : 0 ≤ b) (hb : b ≤ 100) : (intBits a : Int) * b ≤ 2 ^ 27 := by
  have h1 : (intBits a : Int) ≤ 1000 := by omega
  have h2 := Int.mul_le_mul_of_nonneg_right h1 hb0
  have e : (2 : Int) ^ 27 = 134217728 := by decide
  omega
theorem ten_bits300 {n : Nat} (h : n ≤ 300) : intBits ((10 : Int) ^ n) ≤ 1000 := by
  have := pow_bits (a := 10) (b := 4) (by decide) n
  rcases Nat.lt_or_ge n 240 with h1 | h1
  · omega
  · refine Nat.le_trans (m := 1000) ?_ (by decide)
    refine intBits_le_iff.mpr ?_
    have e1 : ((10 : Int) ^ n).natAbs = 10 ^ n := by rw [Int.natAbs_pow]; rfl
    rw [e1]
    exact Nat.lt_of_le_of_lt (Nat.pow_le_pow_right (by decide) h) (by decide +kernel)
theorem pb_facts {p a b : Int} (hp : 6 ≤ p) (hp2 : p ≤ 38) (hb : 1 ≤ b) (hb2 : b ≤ 6) (ha : -b ≤ a) (ha2 : a ≤ 5 * b) : 0 ≤ p * b + a ∧ p * b + a ≤ 300 ∧ 0 ≤ p * b := by
  have h1 := Int.mul_le_mul_of_nonneg_right hp (show 0 ≤ b by omega)
  have h2 := Int.mul_le_mul_of_nonneg_right hp2 (show 0 ≤ b by omega)
  omega
section
variable {prog : Program} {w : World} {A : Around} {E : Value → Shared → Prop} {s : Shared}
theorem le_true {a b : Int} {t u : Tok} {Q : Value → Shared → Prop} (hab : a ≤ b) (h : Q (.bool true) s) : wpAny (model prog w) A (compareOp .LtE (.int a t) (.int b u)) Q E s := le_int (by
  have e : decide (a ≤ b) = true := decide_eq_true hab
  rw [e]; exact h)
end
theorem told05 {M told : Int} (hMb : intBits M ≤ 200) (h0 : 0 < told) (h : told ≤ 2 ^ 27 * M) : intBits told ≤ 230 :=
  bits_abs (b := 2 ^ 27 * M) (k := 230) (by omega) h (bits_mono (intBits_mul_le (m := 28) (by decide) hMb))
/-- an int by a word of it, the state's tokens alone turned -/
structure IsLetter (P : Int → Prop) (s : Shared) (v : Value) (s' : Shared) : Prop where
  out : ∃ (a : Int) (u : Tok) (k : Nat), P a ∧ v = .int a u ∧ s' = { s with toks := k }
theorem eval_letter {M : Model} {A : Around} {t : Sem Value} {P : Int → Prop} {Q : Value → Shared → Prop} {E : Value → Shared → Prop} {s : Shared}
    (h : wpAny M A t (IsLetter P s) E s)
    (k : ∀ (a : Int) (u : Tok) (k : Nat), P a → Q (.int a u) { s with toks := k }) : wpAny M A t Q E s :=
  wpAny_mono h (fun v s' ⟨a, u, n, hP, hv, hs⟩ => by rw [hv, hs]; exact k a u n hP) (fun _ _ e => e)
section
variable {prog : Program} {w : World} {A : Around} {E : Value → Shared → Prop} {s : Shared}
theorem mod_keep {a b : Int} {t u : Tok} {Q : Value → Shared → Prop} (hb : 0 < b) (h : ∀ r, 0 ≤ r → r < b → a % b = r → Q (.int r s.toks) { s with toks := s.toks + 1 }) : wpAny (model prog w) A (binaryOp .Mod (.int a t) (.int b u)) Q E s :=
  mod_int' (by omega) (h _ (Int.fmod_nonneg_of_pos a hb) (Int.fmod_lt_of_pos a hb) (Int.fmod_eq_emod_of_nonneg a (Int.le_of_lt hb)).symm)
end
open PySem.Calls PyProof.V PySem.Spec
section
variable {prog : Program} {w : World} {A : Around} {E : Value → Shared → Prop} {s : Shared} {env : Env} {h₀ : Heap} {x : Str} {body : List Stmt} {Q : Flow → Shared → Prop}
/-- the iterator of a range with the step c -/
def itC (c x left : Int) : Obj := { cls := .type "range_iterator", data := .fields #[rawInt x, rawInt left, rawInt c] }
/-- what is left of a loop over a range with the step c, turn by turn -/
def RestC (prog : Program) (w : World) (A : Around) (E : Value → Shared → Prop) (h₀ : Heap) (env : Env) (x : Str) (body : List Stmt) (Q : Flow → Shared → Prop) (s : Shared) (I : Addr) (a c : Int) (n : Nat) : Nat → Nat → (Str → Option Value) → List (Addr × Obj) → Prop
  | 0, _, m, news => ∀ h tk, Fr h₀ env.locals h m → News h₀ env.locals h news → Q .next { s with heap := h, toks := tk }
  | k + 1, i, m, news => ∀ t h tk, Fr h₀ env.locals h (fun y => if y = x then some (.int (a + (i : Int) * c) t) else m y) →
      News h₀ env.locals h ((I, itC c (a + ((i + 1 : Nat) : Int) * c) ((n : Int) - ((i + 1 : Nat) : Int))) :: news) →
      wpAny (model prog w) A (execs body env) (UnrPost h₀ env.locals { s with heap := h, toks := tk } I (itC c (a + ((i + 1 : Nat) : Int) * c) ((n : Int) - ((i + 1 : Nat) : Int))) (RestC prog w A E h₀ env x body Q s I a c n k (i + 1)) Q) E { s with heap := h, toks := tk }
theorem iter_rangeC {r : Addr} {a c b : Int} {t₀ u₀ v₀ : Tok} {n : Nat} {m₀ : Str → Option Value} {news : List (Addr × Obj)}
    (hh : A.handled = none) (hr : IsRange s.heap r a b c t₀ u₀ v₀) (hsmall : Builtin.Range.small a b c = true) (hn : Builtin.Range.rangeSize a b c = (n : Int)) (F : Fr h₀ env.locals s.heap m₀) (N : News h₀ env.locals s.heap news)
    (rest₀ : ∀ I : Addr, (∀ p ∈ news, p.1 < I) → RestC prog w A E h₀ env x body Q s I a c n n 0 m₀ news) :
    wpAny (model prog w) A (pyIter (.ref r)) (fun it s₂ => LoopAtV prog w A h₀ env x body Q E it s₂) E s := by
  refine wpAny_pyIter_range hr hsmall ?_
  have rest := rest₀ s.heap.objs.size fun p hp => Heap.lt_size (N p hp).1
  have W : Walks prog w A s.heap.objs.size [s.heap.objs.size] [s.heap.objs.size] n (fun i v => i < n ∧ ∃ t, v = .int (a + i * c) t)
      (fun i h => IsRangeIter h s.heap.objs.size (a + (i : Nat) * c) ((n : Int) - (i : Nat)) c) := (Walks.range hh _ a c n).bound
  have hnew := next_is_new F
  let J : Nat → (Str → Option Value) → List (Addr × Obj) → Prop := fun i m₁ news₁ => RestC prog w A E h₀ env x body Q s s.heap.objs.size a c n (n - i) i m₁ news₁
  refine ⟨_, _, _, n, _, _, m₀, news, J, rfl, W, ?_, ?_, ?_, (by show IsRangeIter _ _ _ _ _; rw [hn]; simpa using Heap.get?_push_size _ rfl), F.push _, (fun p hp => ⟨Heap.get?_push_of_some _ (N p hp).1, (N p hp).2⟩), rest, ?_, ?_⟩
  · intro hm
    exact absurd F.ns.lt ((List.mem_singleton.mp hm) ▸ Nat.lt_irrefl _)
  · intro b hb
    rw [List.mem_singleton.mp hb]
    exact hnew
  · intro p hp hI
    exact absurd (Heap.lt_size (N p hp).1) ((List.mem_singleton.mp hI) ▸ Nat.lt_irrefl _)
  · rintro i v m₁ news₁ s₁ own ⟨hh', tk', rfl⟩ hin ⟨_, t, rfl⟩ hJ hoff hown hget hall hst F₁ N₁
    have hst' : hh'.get? s.heap.objs.size = some (itC c (a + ((i + 1 : Nat) : Int) * c) ((n : Int) - ((i + 1 : Nat) : Int))) := hst
    have hmem := hall s.heap.objs.size (List.mem_singleton.mpr rfl) hnew _ hst'
    have hkk : n - i = (n - (i + 1)) + 1 := by omega
    have hJ' : RestC prog w A E h₀ env x body Q s s.heap.objs.size a c n ((n - (i + 1)) + 1) i m₁ news₁ := by rw [← hkk]; exact hJ
    have N₂ : News h₀ env.locals hh' ((s.heap.objs.size, itC c (a + ((i + 1 : Nat) : Int) * c) ((n : Int) - ((i + 1 : Nat) : Int))) :: news₁) := fun p hp => by
      rcases List.mem_cons.mp hp with rfl | hp
      · exact N₁ _ (List.mem_append_left _ hmem)
      · exact N₁ _ (List.mem_append_right _ hp)
    refine wpAny_mono (hJ' t hh' tk' F₁ N₂) (fun f s₂ p => ?_) fun _ _ e => e
    have fin : UnrEnd h₀ env.locals { s with heap := hh', toks := tk' } s.heap.objs.size (itC c (a + ((i + 1 : Nat) : Int) * c) ((n : Int) - ((i + 1 : Nat) : Int))) (RestC prog w A E h₀ env x body Q s s.heap.objs.size a c n (n - (i + 1)) (i + 1)) s₂ →
        LoopStepU h₀ env.locals [s.heap.objs.size] own (J (i + 1)) { s with heap := hh', toks := tk' } .next s₂ := by
      rintro ⟨h', tk, m', news', e, F', N', ho, r⟩
      refine ⟨rfl, h', tk, m', news', e, F', fun p hp => ?_, fun p hp hI => ho p hp (List.mem_singleton.mp hI), r⟩
      rcases List.mem_append.mp hp with hp | hp
      · have h1 : p.1 = s.heap.objs.size := List.mem_singleton.mp (hown p hp)
        have h2 : hh'.get? p.1 = some p.2 := hget p hp
        rw [h1, hst'] at h2
        have h3 : p = (s.heap.objs.size, itC c (a + ((i + 1 : Nat) : Int) * c) ((n : Int) - ((i + 1 : Nat) : Int))) := Prod.ext h1 (Option.some.inj h2).symm
        rw [h3]; exact N' _ (List.mem_cons_self ..)
      · exact N' _ (List.mem_cons_of_mem _ hp)
    cases f with
    | ret v => exact .ret p
    | brk => exact .brk p
    | next => exact .next (fin p)
    | cont => exact .cont (fin p)
  · rintro h' tk m' news' F' N' _ hJ
    have hJ' : RestC prog w A E h₀ env x body Q s s.heap.objs.size a c n 0 n m' news' := by
      have z : n - n = 0 := Nat.sub_self n
      have q : RestC prog w A E h₀ env x body Q s s.heap.objs.size a c n (n - n) n m' news' := hJ
      rw [z] at q; exact q
    exact hJ' h' tk F' N'
end
end Mine
local macro_rules | `(tactic| walk_at "storeName") => `(tactic| (k_here; (with_reducible show wpAny _ _ (storeName _ (PySem.Str.ofString "x") (Value.int _ _)) _ _ _); refine Mine.Stop.out ?_))
local macro_rules | `(tactic| walk_at "storeName") => `(tactic| (k_here; (with_reducible show wpAny _ _ (storeName _ (PySem.Str.ofString "bound") (Value.int _ _)) _ _ _); refine Mine.Stop.out ?_))
local macro_rules | `(tactic| walk_at "storeName") => `(tactic| (k_here; (with_reducible show wpAny _ _ (storeName _ (PySem.Str.ofString "unit") (Value.int _ _)) _ _ _); refine Mine.Stop.out ?_))
local macro_rules | `(tactic| walk_at "storeName") => `(tactic| (k_here; (with_reducible show wpAny _ _ (storeName _ (PySem.Str.ofString "due") (Value.int _ _)) _ _ _); refine Mine.Stop.out ?_))
local macro_rules | `(tactic| walk_at "storeName") => `(tactic| (k_here; (with_reducible show wpAny _ _ (storeName _ (PySem.Str.ofString "p") (Value.int _ _)) _ _ _); refine Mine.Stop.out ?_))
local macro_rules | `(tactic| walk_at "storeName") => `(tactic| (k_here; (with_reducible show wpAny _ _ (storeName _ (PySem.Str.ofString "L") (Value.int _ _)) _ _ _); refine Mine.Stop.out ?_))
local macro_rules | `(tactic| walk_at "binaryOp Mult int int") => `(tactic| (k_here; (with_reducible show wpAny _ _ (binaryOp Operator.Mult (Value.int _ _) (Value.int _ _)) _ _ _); refine Mine.Stop.out ?_))
local macro_rules | `(tactic| walk_at "binaryOp Pow int int") => `(tactic| (k_here; first | ((with_reducible refine pow_int_small ?kb1 ?kb2 ?kb3 ?_); (case kb1 => first | decide | omega); (case kb2 => first | decide | omega); (case kb3 => decide)) | ((with_reducible show wpAny _ _ (binaryOp Operator.Pow (Value.int _ _) (Value.int _ _)) _ _ _); refine Mine.Stop.out ?_)))
local macro_rules | `(tactic| walk_at "binaryOp Mod int int") => `(tactic| (k_here; (with_reducible show wpAny _ _ (binaryOp Operator.Mod (Value.int (Nat.cast _) _) (Value.int _ _)) _ _ _); (with_reducible refine Mine.mod_keep (by decide) ?_); intro r9 hr9 hs9 he9))
local macro_rules | `(tactic| walk_at "storeName") => `(tactic| (k_here; (with_reducible show wpAny _ _ (storeName _ (PySem.Str.ofString "b") (Value.int (1 + _) _)) _ _ _); refine Mine.Stop.out ?_))
local macro_rules | `(tactic| walk_at "eval IfExp") => `(tactic| (k_here; (with_reducible show wpAny _ _ (eval (Expr.IfExp _ _ _ _) _) _ _ _); refine Mine.Stop.out ?_))
local macro_rules | `(tactic| walk_at "compareOp LtE int int") => `(tactic| (k_here; (with_reducible refine Mine.le_true (by assumption) ?_)))
local macro_rules | `(tactic| walk_at "callWith ref") => `(tactic| (k_here; (with_reducible show wpAny _ _ (callWith _ (Value.ref _) _ _ _) _ _ _); (refine' Mine.callWith_KM ?k1 ?k2 ?k3 ?_); (case k1 => k_asm); (case k2 => exact rfl); (case k3 => k_is); k_whole))
local macro_rules | `(tactic| walk_at "execs cons") => `(tactic| (k_here; (with_reducible refine Mine.gen_toks (P := fun k => wpAny _ _ (execs (_ :: _) _) _ _ { heap := _, gens := _, drawn := _, toks := k, os := _ }) _ ?_); intro tk; (with_reducible refine wpAny_execs_cons ?_); try dsimp only))
local macro_rules | `(tactic| walk_at "execs nil") => `(tactic| (k_here; (with_reducible refine Mine.gen_toks (P := fun k => wpAny _ _ (execs [] _) _ _ { heap := _, gens := _, drawn := _, toks := k, os := _ }) _ ?_); intro tk; (with_reducible refine wpAny_execs_nil ?_); try dsimp only))
local macro_rules | `(tactic| walk_at "execs cons") => `(tactic| (k_here; (with_reducible show wpAny _ _ (execs (PySem.Stmt.Assign [PySem.Expr.Name (PySem.Str.ofString "x") _] _ _ :: _) _) _ _ _); refine Mine.Stop.out ?_))
namespace Mine
open PySem.Builtin.Int (intBits)
set_option rowWalk.seconds 0
theorem w05 : PySem.Challenge.rw_dm0269_05.Holds := hd05 (by
  k_go0; (all_goals try k_fold)
  (try dsimp only)
  refine cut5 (by k_asm) ?C1 ?C2
  case C1 =>
    dsimp only [forBody]
    rename Below _ _ _ _ => B0
    rename Top _ _ _ _ _ _ => T0
    rename Frag.In _ _ => X0
    intro p LL a b tp tL tM ta tb m0 news0 s0 Q0 E0 hp hp2 hL hL2 hb hb2 ha ha2 F0 N0 e1 e2 e3 e4 e5 hret
    have F1 := fr_has5 e1 e2 e3 e4 e5 F0
    clear F0 e1 e2 e3 e4 e5
    (try k_sweep)
    have hMb : intBits ((10 : Int) ^ p.toNat) ≤ 200 := ten_bits46 (by omega)
    have hM6 := ten6_le hp
    obtain ⟨hpb1, hpb2, hpb3⟩ := pb_facts hp hp2 hb hb2 ha ha2
    refine wpAny_execs_cons ?_
    (try dsimp only)
    k_steps
    refine Stop.mk ?_
    (with_unfolding_all refine' c_l10 ?k1_1 ?k2_1 ?k3_1 ?k4_1 ?k5_1 ?kK_1 ?p1_1 ?p2_1 ?kd_1 ?ku_1 ?kR_1); (case k1_1 => k_asm); (case k2_1 => k_asm); (case k3_1 => k_asm); (case k4_1 => k_asm); (case k5_1 => k_asm); (case kK_1 => first | exact rfl | assumption); (case p1_1 => omega); (case p2_1 => omega); (case kd_1 => ktr_room); (case ku_1 => ktr_units); (intro t9 h9 tk9 F9 N9); (try dsimp only); (try k_fold)
    k_steps
    refine Stop.mk ?_
    refine mul_int ?_ (mul_ok (PySem.intBits_le_64 (by omega) (by omega)) (l10_bits (by omega) (by omega)))
    k_steps
    refine Stop.mk ?_
    refine mul_int ?_ (mul_ok (PySem.intBits_le_64 (by omega) (by omega)) (PySem.intBits_le_64 (k := 10 ^ Int.toNat 6) (by decide) (by decide)))
    k_steps
    refine Stop.mk ?_
    (with_unfolding_all refine' c_div ?k1_2 ?k2_2 ?k3_2 ?k4_2 ?k5_2 ?kK_2 ?p1_2 ?p2_2 ?kd_2 ?ku_2 ?kR_2); (case k1_2 => k_asm); (case k2_2 => k_asm); (case k3_2 => k_asm); (case k4_2 => k_asm); (case k5_2 => k_asm); (case kK_2 => first | exact rfl | assumption); (case p1_2 => exact Int.mul_pos (by omega) (by decide)); (case p2_2 => exact bits_mono (intBits_mul_le (m := 64) (n := 64) (PySem.intBits_le_64 (by omega) (by omega)) (PySem.intBits_le_64 (k := 10 ^ Int.toNat 6) (by decide) (by decide)))); (case kd_2 => ktr_room); (case ku_2 => ktr_units); (intro t9 h9 tk9 F9 N9); (try dsimp only); (try k_fold)
    k_steps
    refine Stop.mk ?_
    refine gen_int2 (P := fun x u => wpAny _ _ (storeName _ _ (Value.int x u)) _ _ _) _ _ ?_
    intro x tx hx
    have hx' : divN (a * l10 (p + 6)) (b * 10 ^ 6) = x := hx
    obtain ⟨x1, x2, -, -⟩ := x05 hp hp2 hb hb2 ha ha2 hx'
    obtain ⟨-, -, pre, t0, -, t2⟩ := iexp_wt (x := x) (L := LL) hM6 (bits_mono hMb) hL hL2 x1 x2
    obtain ⟨told, hto⟩ : ∃ told, iexpF (10 ^ p.toNat) x LL = told := ⟨_, rfl⟩
    have law := fun K => law05 (K := K) hp hp2 hL hL2 hb hb2 ha ha2 hx'
    rw [hto] at t0 t2
    have htb : intBits told ≤ 230 := told05 hMb t0 t2
    clear hx hx'
    refine storeX_L (by k_asm) (by k_asm) ?_
    intro h' F' N'
    (try dsimp only)
    k_steps
    refine Stop.mk ?_
    (with_unfolding_all refine' c_iexpV ?k1_3 ?k2_3 ?k3_3 ?k4_3 ?k5_3 ?kK_3 ?p1_3 ?p2_3 ?p3_3 ?p4_3 ?p5_3 ?p6_3 ?p7_3 ?p8_3 ?p9_3 ?kd_3 ?ku_3 ?kR_3); (case k1_3 => k_asm); (case k2_3 => k_asm); (case k3_3 => k_asm); (case k4_3 => k_asm); (case k5_3 => k_asm); (case kK_3 => first | exact rfl | assumption); (case p1_3 => omega); (case p2_3 => exact bits_mono hMb); (case p3_3 => omega); (case p4_3 => omega); (case p5_3 => exact pre.b); (case p6_3 => exact pre.r); (case p7_3 => exact pre.e); (case p8_3 => exact pre.d); (case p9_3 => exact hto); (case kd_3 => ktr_room); (case ku_3 => ktr_units); (intro t9 h9 tk9 F9 N9); (try dsimp only); (try k_fold)
    clear pre
    k_steps
    refine Stop.mk ?_
    (with_unfolding_all refine' c_lbd ?k1_4 ?k2_4 ?k3_4 ?k4_4 ?k5_4 ?kK_4 ?p1_4 ?p2_4 ?p3_4 ?p4_4 ?p5_4 ?p6_4 ?kd_4 ?ku_4 ?kR_4); (case k1_4 => k_asm); (case k2_4 => k_asm); (case k3_4 => k_asm); (case k4_4 => k_asm); (case k5_4 => k_asm); (case kK_4 => first | exact rfl | assumption); (case p1_4 => exact hM6); (case p2_4 => exact hMb); (case p3_4 => exact hL); (case p4_4 => exact hL2); (case p5_4 => exact x1); (case p6_4 => exact x2); (case kd_4 => ktr_room); (case ku_4 => ktr_units); (intro K t9 h9 tk9 g1 g2 F9 N9); (try dsimp only); (try k_fold)
    obtain ⟨l1, l2⟩ := law K g2 g1
    have bn := lb_nn (by omega) x2 x1 K
    have bl := (lb_spec (by omega) x2 x1 K).2
    have bu : lb x (10 ^ p.toNat) K ≤ 110000000 := by omega
    rw [hto] at l1 l2
    clear law g1 g2 hto bl
    k_steps
    refine Stop.mk ?_
    refine gen_int2 (P := fun x u => wpAny _ _ (storeName _ _ (Value.int x u)) _ _ _) _ _ ?_
    intro bound tbd hbd
    rw [hbd] at l1 l2 bn bu
    clear hbd
    refine storeX_L (by k_asm) (by k_asm) ?_
    intro h' F' N'
    (try dsimp only)
    k_steps
    refine Stop.mk ?_
    refine mul_int ?_ (mul_ok (PySem.intBits_le_64 (k := 10 ^ Int.toNat 6) (by decide) (by decide)) hMb)
    k_steps
    refine Stop.mk ?_
    refine gen_int2 (P := fun x u => wpAny _ _ (storeName _ _ (Value.int x u)) _ _ _) _ _ ?_
    intro unit tu hun
    have hun' : 10 ^ 6 * 10 ^ p.toNat = unit := hun
    have hub : intBits unit ≤ 264 := by rw [← hun]; exact intBits_mul_le (m := 64) (PySem.intBits_le_64 (k := 10 ^ Int.toNat 6) (by decide) (by decide)) hMb
    rw [hun'] at l1 l2
    have u0 : 0 < unit := by omega
    clear hun hun'
    refine storeX_L (by k_asm) (by k_asm) ?_
    intro h' F' N'
    (try dsimp only)
    k_steps
    refine Stop.mk ?_
    refine mul_int ?_ (mul_ok (PySem.intBits_le_64 (by omega) (by omega)) (PySem.intBits_le_64 (by omega) (by omega)))
    k_steps
    refine Stop.mk ?_
    refine pow_int (by omega) (pow_ok (bits_mono hub) (by omega) (by omega)) ?_
    k_steps
    refine Stop.mk ?_
    refine mul_int ?_ (mul_ok (ten_bits300 (by omega)) (Nat.le_trans (pow_bits hub _) (show 264 * b.toNat + 1 ≤ 1600 by omega)))
    k_steps
    refine Stop.mk ?_
    refine gen_int2 (P := fun x u => wpAny _ _ (storeName _ _ (Value.int x u)) _ _ _) _ _ ?_
    intro due td hdu
    rw [hdu] at l1 l2
    clear hdu
    refine storeX_L (by k_asm) (by k_asm) ?_
    intro h' F' N'
    (try dsimp only)
    k_steps
    have ub1 : intBits (unit - bound) ≤ 300 := by rw [Int.sub_eq_add_neg]; exact bits_mono (intBits_add_le hub (intBits_neg_le (PySem.intBits_le_64 (k := bound) (by omega) (by omega))))
    have ub2 : intBits (unit + bound) ≤ 300 := bits_mono (intBits_add_le hub (PySem.intBits_le_64 (k := bound) (by omega) (by omega)))
    refine Stop.mk ?_
    refine mul_int ?_ (mul_ok htb ub1)
    k_steps
    refine Stop.mk ?_
    refine pow_int (by omega) (pow_ok (bits_mono (intBits_mul_le htb ub1)) (by omega) (by omega)) ?_
    k_steps
    refine Stop.mk ?_
    refine mul_int ?_ (mul_ok htb ub2)
    k_steps
    refine Stop.mk ?_
    refine pow_int (by omega) (pow_ok (bits_mono (intBits_mul_le htb ub2)) (by omega) (by omega)) ?_
    k_steps
    refine hret _ _ _ ?q1 ?q2 ?q4 (by k_asm) ?q3
    case q1 => first | rfl | (simp; done)
    case q2 => first | rfl | (simp; done)
    case q4 => first | rfl | (simp; done)
    case q3 => first | k_asm | (refine' cb_drop ?cbN ?cbS; (case cbN => assumption); (case cbS => kcj_all))
  case C2 =>
    dsimp only [forBody]
    intro c1
    k_steps
    refine Stop.mk ?_
    refine eval_letter (P := fun p => 6 ≤ p ∧ p ≤ 38) ?hl_1 ?hk_1
    case hl_1 =>
      refine wpAny_IfExp ?_
      (try dsimp only)
      k_steps
      all_goals exact ⟨_, _, _, by omega, rfl, rfl⟩
    case hk_1 =>
    intro p tp tk1 hp
    (try dsimp only)
    k_steps
    refine Stop.mk ?_
    refine storeX_L (by k_asm) (by k_asm) ?_
    intro h' F' N'
    (try dsimp only)
    k_steps
    refine Stop.mk ?_
    refine eval_letter (P := fun LL => 3 ≤ LL ∧ LL ≤ 10) ?hl_2 ?hk_2
    case hl_2 =>
      refine wpAny_IfExp ?_
      (try dsimp only)
      k_steps
      all_goals exact ⟨_, _, _, by omega, rfl, rfl⟩
    case hk_2 =>
    intro LL tL tk2 hL
    (try dsimp only)
    k_steps
    have hp1 := hp.1
    have hp2 := hp.2
    refine Stop.mk ?_
    refine storeX_L (by k_asm) (by k_asm) ?_
    intro h' F' N'
    (try dsimp only)
    k_steps
    all_goals first | (exfalso; omega) | skip
    · refine Stop.mk ?_
      refine iter_rangeC (n := 2) (by rfl) (by assumption) (by decide) (by decide) (by k_asm) (by k_asm) ?_
      intro I9 l9
      (try k_lt l9)
      intro t9 h9 tk9 F9 N9
      have F9' : Fr _ _ _ (fun y => if y = Str.ofString "k" then some (Value.int 0 t9) else _) := F9
      clear F9
      (try dsimp only)
      k_steps
      refine Stop.mk ?_
      refine gen_int2 (P := fun x u => wpAny _ _ (storeName _ _ (Value.int x u)) _ _ _) _ _ ?_
      intro b0 tb0 hb0
      have hb0a : 1 ≤ b0 := by omega
      have hb0b : b0 ≤ 6 := by omega
      clear hb0
      refine storeX_L (by k_asm) (by k_asm) ?_
      intro h' F' N'
      (try dsimp only)
      k_steps
      refine Stop.mk ?_
      refine eval_letter (P := fun a => -b0 ≤ a ∧ a ≤ 5 * b0) ?hl_10 ?hk_10
      case hl_10 =>
        refine wpAny_IfExp ?_
        (try dsimp only)
        k_steps
        all_goals (try (refine Stop.mk ?_; refine mul_int ?_ (mul_ok (PySem.intBits_le_64 (by omega) (by omega)) (PySem.intBits_le_64 (by omega) (by omega))); k_steps))
        all_goals exact ⟨_, _, _, by omega, rfl, rfl⟩
      case hk_10 =>
      intro a0 ta0 tka0 ha0
      (try dsimp only)
      k_steps
      intro t9 h9 tk9 F9 N9
      have F9' : Fr _ _ _ (fun y => if y = Str.ofString "k" then some (Value.int 2 t9) else _) := F9
      clear F9
      (try dsimp only)
      k_steps
      refine Stop.mk ?_
      refine gen_int2 (P := fun x u => wpAny _ _ (storeName _ _ (Value.int x u)) _ _ _) _ _ ?_
      intro b1 tb1 hb1
      have hb1a : 1 ≤ b1 := by omega
      have hb1b : b1 ≤ 6 := by omega
      clear hb1
      refine storeX_L (by k_asm) (by k_asm) ?_
      intro h' F' N'
      (try dsimp only)
      k_steps
      refine Stop.mk ?_
      refine eval_letter (P := fun a => -b1 ≤ a ∧ a ≤ 5 * b1) ?hl_11 ?hk_11
      case hl_11 =>
        refine wpAny_IfExp ?_
        (try dsimp only)
        k_steps
        all_goals (try (refine Stop.mk ?_; refine mul_int ?_ (mul_ok (PySem.intBits_le_64 (by omega) (by omega)) (PySem.intBits_le_64 (by omega) (by omega))); k_steps))
        all_goals exact ⟨_, _, _, by omega, rfl, rfl⟩
      case hk_11 =>
      intro a1 ta1 tka1 ha1
      (try dsimp only)
      k_steps
      intro h9 tk9 F9 N9
      (try dsimp only)
      k_steps
      refine Stop.mk ?_
      ktu_seq
      k_steps
      refine Stop.mk ?_
      refine turn5_use c1 (by k_asm) (by k_asm) (by rfl) (by rfl) (by rfl) (by rfl) (by rfl) ⟨by omega, by omega, by omega, by omega, by omega, by omega, by omega, by omega⟩ ?_
      intro m9 h9 tk9 e93 e94 e95 F9 N9
      (try dsimp only)
      k_steps
      refine Stop.mk ?_
      refine turn5_use c1 (by k_asm) (by k_asm) (by rfl) (by rfl) (by first | exact e93 | simpa using e93) (by first | exact e94 | simpa using e94) (by first | exact e95 | simpa using e95) ⟨by omega, by omega, by omega, by omega, by omega, by omega, by omega, by omega⟩ ?_
      intro m9 h9 tk9 e93 e94 e95 F9 N9
      (try dsimp only)
      k_steps
      refine Stop.mk ?_
      refine turn5_use c1 (by k_asm) (by k_asm) (by rfl) (by rfl) (by first | exact e93 | simpa using e93) (by first | exact e94 | simpa using e94) (by first | exact e95 | simpa using e95) ⟨by omega, by omega, by omega, by omega, by omega, by omega, by omega, by omega⟩ ?_
      intro m9 h9 tk9 e93 e94 e95 F9 N9
      (try dsimp only)
      k_steps
      refine Stop.mk ?_
      refine turn5_use c1 (by k_asm) (by k_asm) (by rfl) (by rfl) (by first | exact e93 | simpa using e93) (by first | exact e94 | simpa using e94) (by first | exact e95 | simpa using e95) ⟨by omega, by omega, by omega, by omega, by omega, by omega, by omega, by omega⟩ ?_
      intro m9 h9 tk9 e93 e94 e95 F9 N9
      (try dsimp only)
      k_steps
    · refine Stop.mk ?_
      refine iter_rangeC (n := 1) (by rfl) (by assumption) (by decide) (by decide) (by k_asm) (by k_asm) ?_
      intro I9 l9
      (try k_lt l9)
      intro t9 h9 tk9 F9 N9
      have F9' : Fr _ _ _ (fun y => if y = Str.ofString "k" then some (Value.int 0 t9) else _) := F9
      clear F9
      (try dsimp only)
      k_steps
      refine Stop.mk ?_
      refine gen_int2 (P := fun x u => wpAny _ _ (storeName _ _ (Value.int x u)) _ _ _) _ _ ?_
      intro b0 tb0 hb0
      have hb0a : 1 ≤ b0 := by omega
      have hb0b : b0 ≤ 6 := by omega
      clear hb0
      refine storeX_L (by k_asm) (by k_asm) ?_
      intro h' F' N'
      (try dsimp only)
      k_steps
      refine Stop.mk ?_
      refine eval_letter (P := fun a => -b0 ≤ a ∧ a ≤ 5 * b0) ?hl_10 ?hk_10
      case hl_10 =>
        refine wpAny_IfExp ?_
        (try dsimp only)
        k_steps
        all_goals (try (refine Stop.mk ?_; refine mul_int ?_ (mul_ok (PySem.intBits_le_64 (by omega) (by omega)) (PySem.intBits_le_64 (by omega) (by omega))); k_steps))
        all_goals exact ⟨_, _, _, by omega, rfl, rfl⟩
      case hk_10 =>
      intro a0 ta0 tka0 ha0
      (try dsimp only)
      k_steps
      intro h9 tk9 F9 N9
      (try dsimp only)
      k_steps
      refine Stop.mk ?_
      ktu_seq
      k_steps
      refine Stop.mk ?_
      refine turn5_use c1 (by k_asm) (by k_asm) (by rfl) (by rfl) (by rfl) (by rfl) (by rfl) ⟨by omega, by omega, by omega, by omega, by omega, by omega, by omega, by omega⟩ ?_
      intro m9 h9 tk9 e93 e94 e95 F9 N9
      (try dsimp only)
      k_steps
      refine Stop.mk ?_
      refine turn5_use c1 (by k_asm) (by k_asm) (by rfl) (by rfl) (by first | exact e93 | simpa using e93) (by first | exact e94 | simpa using e94) (by first | exact e95 | simpa using e95) ⟨by omega, by omega, by omega, by omega, by omega, by omega, by omega, by omega⟩ ?_
      intro m9 h9 tk9 e93 e94 e95 F9 N9
      (try dsimp only)
      k_steps
      refine Stop.mk ?_
      refine turn5_use c1 (by k_asm) (by k_asm) (by rfl) (by rfl) (by first | exact e93 | simpa using e93) (by first | exact e94 | simpa using e94) (by first | exact e95 | simpa using e95) ⟨by omega, by omega, by omega, by omega, by omega, by omega, by omega, by omega⟩ ?_
      intro m9 h9 tk9 e93 e94 e95 F9 N9
      (try dsimp only)
      k_steps
    · refine Stop.mk ?_
      refine iter_rangeC (n := 2) (by rfl) (by assumption) (by decide) (by decide) (by k_asm) (by k_asm) ?_
      intro I9 l9
      (try k_lt l9)
      intro t9 h9 tk9 F9 N9
      have F9' : Fr _ _ _ (fun y => if y = Str.ofString "k" then some (Value.int 0 t9) else _) := F9
      clear F9
      (try dsimp only)
      k_steps
      refine Stop.mk ?_
      refine gen_int2 (P := fun x u => wpAny _ _ (storeName _ _ (Value.int x u)) _ _ _) _ _ ?_
      intro b0 tb0 hb0
      have hb0a : 1 ≤ b0 := by omega
      have hb0b : b0 ≤ 6 := by omega
      clear hb0
      refine storeX_L (by k_asm) (by k_asm) ?_
      intro h' F' N'
      (try dsimp only)
      k_steps
      refine Stop.mk ?_
      refine eval_letter (P := fun a => -b0 ≤ a ∧ a ≤ 5 * b0) ?hl_10 ?hk_10
      case hl_10 =>
        refine wpAny_IfExp ?_
        (try dsimp only)
        k_steps
        all_goals (try (refine Stop.mk ?_; refine mul_int ?_ (mul_ok (PySem.intBits_le_64 (by omega) (by omega)) (PySem.intBits_le_64 (by omega) (by omega))); k_steps))
        all_goals exact ⟨_, _, _, by omega, rfl, rfl⟩
      case hk_10 =>
      intro a0 ta0 tka0 ha0
      (try dsimp only)
      k_steps
      intro t9 h9 tk9 F9 N9
      have F9' : Fr _ _ _ (fun y => if y = Str.ofString "k" then some (Value.int 2 t9) else _) := F9
      clear F9
      (try dsimp only)
      k_steps
      refine Stop.mk ?_
      refine gen_int2 (P := fun x u => wpAny _ _ (storeName _ _ (Value.int x u)) _ _ _) _ _ ?_
      intro b1 tb1 hb1
      have hb1a : 1 ≤ b1 := by omega
      have hb1b : b1 ≤ 6 := by omega
      clear hb1
      refine storeX_L (by k_asm) (by k_asm) ?_
      intro h' F' N'
      (try dsimp only)
      k_steps
      refine Stop.mk ?_
      refine eval_letter (P := fun a => -b1 ≤ a ∧ a ≤ 5 * b1) ?hl_11 ?hk_11
      case hl_11 =>
        refine wpAny_IfExp ?_
        (try dsimp only)
        k_steps
        all_goals (try (refine Stop.mk ?_; refine mul_int ?_ (mul_ok (PySem.intBits_le_64 (by omega) (by omega)) (PySem.intBits_le_64 (by omega) (by omega))); k_steps))
        all_goals exact ⟨_, _, _, by omega, rfl, rfl⟩
      case hk_11 =>
      intro a1 ta1 tka1 ha1
      (try dsimp only)
      k_steps
      intro h9 tk9 F9 N9
      (try dsimp only)
      k_steps
      refine Stop.mk ?_
      ktu_seq
      k_steps
      refine Stop.mk ?_
      refine turn5_use c1 (by k_asm) (by k_asm) (by rfl) (by rfl) (by rfl) (by rfl) (by rfl) ⟨by omega, by omega, by omega, by omega, by omega, by omega, by omega, by omega⟩ ?_
      intro m9 h9 tk9 e93 e94 e95 F9 N9
      (try dsimp only)
      k_steps
      refine Stop.mk ?_
      refine turn5_use c1 (by k_asm) (by k_asm) (by rfl) (by rfl) (by first | exact e93 | simpa using e93) (by first | exact e94 | simpa using e94) (by first | exact e95 | simpa using e95) ⟨by omega, by omega, by omega, by omega, by omega, by omega, by omega, by omega⟩ ?_
      intro m9 h9 tk9 e93 e94 e95 F9 N9
      (try dsimp only)
      k_steps
      refine Stop.mk ?_
      refine turn5_use c1 (by k_asm) (by k_asm) (by rfl) (by rfl) (by first | exact e93 | simpa using e93) (by first | exact e94 | simpa using e94) (by first | exact e95 | simpa using e95) ⟨by omega, by omega, by omega, by omega, by omega, by omega, by omega, by omega⟩ ?_
      intro m9 h9 tk9 e93 e94 e95 F9 N9
      (try dsimp only)
      k_steps
      refine Stop.mk ?_
      refine turn5_use c1 (by k_asm) (by k_asm) (by rfl) (by rfl) (by first | exact e93 | simpa using e93) (by first | exact e94 | simpa using e94) (by first | exact e95 | simpa using e95) ⟨by omega, by omega, by omega, by omega, by omega, by omega, by omega, by omega⟩ ?_
      intro m9 h9 tk9 e93 e94 e95 F9 N9
      (try dsimp only)
      k_steps
    · refine Stop.mk ?_
      refine iter_rangeC (n := 0) (by rfl) (by assumption) (by decide) (by decide) (by k_asm) (by k_asm) ?_
      intro I9 l9
      (try k_lt l9)
      intro h9 tk9 F9 N9
      (try dsimp only)
      k_steps
      refine Stop.mk ?_
      ktu_seq
      k_steps
      refine Stop.mk ?_
      refine turn5_use c1 (by k_asm) (by k_asm) (by rfl) (by rfl) (by rfl) (by rfl) (by rfl) ⟨by omega, by omega, by omega, by omega, by omega, by omega, by omega, by omega⟩ ?_
      intro m9 h9 tk9 e93 e94 e95 F9 N9
      (try dsimp only)
      k_steps
      refine Stop.mk ?_
      refine turn5_use c1 (by k_asm) (by k_asm) (by rfl) (by rfl) (by first | exact e93 | simpa using e93) (by first | exact e94 | simpa using e94) (by first | exact e95 | simpa using e95) ⟨by omega, by omega, by omega, by omega, by omega, by omega, by omega, by omega⟩ ?_
      intro m9 h9 tk9 e93 e94 e95 F9 N9
      (try dsimp only)
      k_steps
    · refine Stop.mk ?_
      refine iter_rangeC (n := 1) (by rfl) (by assumption) (by decide) (by decide) (by k_asm) (by k_asm) ?_
      intro I9 l9
      (try k_lt l9)
      intro t9 h9 tk9 F9 N9
      have F9' : Fr _ _ _ (fun y => if y = Str.ofString "k" then some (Value.int 0 t9) else _) := F9
      clear F9
      (try dsimp only)
      k_steps
      refine Stop.mk ?_
      refine gen_int2 (P := fun x u => wpAny _ _ (storeName _ _ (Value.int x u)) _ _ _) _ _ ?_
      intro b0 tb0 hb0
      have hb0a : 1 ≤ b0 := by omega
      have hb0b : b0 ≤ 6 := by omega
      clear hb0
      refine storeX_L (by k_asm) (by k_asm) ?_
      intro h' F' N'
      (try dsimp only)
      k_steps
      refine Stop.mk ?_
      refine eval_letter (P := fun a => -b0 ≤ a ∧ a ≤ 5 * b0) ?hl_10 ?hk_10
      case hl_10 =>
        refine wpAny_IfExp ?_
        (try dsimp only)
        k_steps
        all_goals (try (refine Stop.mk ?_; refine mul_int ?_ (mul_ok (PySem.intBits_le_64 (by omega) (by omega)) (PySem.intBits_le_64 (by omega) (by omega))); k_steps))
        all_goals exact ⟨_, _, _, by omega, rfl, rfl⟩
      case hk_10 =>
      intro a0 ta0 tka0 ha0
      (try dsimp only)
      k_steps
      intro h9 tk9 F9 N9
      (try dsimp only)
      k_steps
      refine Stop.mk ?_
      ktu_seq
      k_steps
      refine Stop.mk ?_
      refine turn5_use c1 (by k_asm) (by k_asm) (by rfl) (by rfl) (by rfl) (by rfl) (by rfl) ⟨by omega, by omega, by omega, by omega, by omega, by omega, by omega, by omega⟩ ?_
      intro m9 h9 tk9 e93 e94 e95 F9 N9
      (try dsimp only)
      k_steps
      refine Stop.mk ?_
      refine turn5_use c1 (by k_asm) (by k_asm) (by rfl) (by rfl) (by first | exact e93 | simpa using e93) (by first | exact e94 | simpa using e94) (by first | exact e95 | simpa using e95) ⟨by omega, by omega, by omega, by omega, by omega, by omega, by omega, by omega⟩ ?_
      intro m9 h9 tk9 e93 e94 e95 F9 N9
      (try dsimp only)
      k_steps
      refine Stop.mk ?_
      refine turn5_use c1 (by k_asm) (by k_asm) (by rfl) (by rfl) (by first | exact e93 | simpa using e93) (by first | exact e94 | simpa using e94) (by first | exact e95 | simpa using e95) ⟨by omega, by omega, by omega, by omega, by omega, by omega, by omega, by omega⟩ ?_
      intro m9 h9 tk9 e93 e94 e95 F9 N9
      (try dsimp only)
      k_steps
  )
end Mine


theorem PySem.Challenge.cw_dm0269_05_holds : PySem.Challenge.rw_dm0269_05.Holds :=
  Mine.w05
