import PyProof.Rows.All
import Wide.All
import OpenK.AllK
import Wide.FinOn
import Lean
import PySem.Challenge.RW_ln0028_01
open PySem PySem.Spec PySem.Calls PySem.W PyProof.Rows
set_option Elab.async false
set_option maxRecDepth 100000

namespace Mine

/-- an int cut to 32 bits with a sign -/
def cut (x : Int) : Int := (x + 2147483648) % 4294967296 - 2147483648
def sgn (x : Int) : Int := if x % 4294967296 < 2147483648 then 0 else 2147483648
def p2 (b : Int) : Int := 2 ^ (b % 32).toNat
/-- the quotient of the sizes -/
def qt (a b : Int) : Int := ((a.natAbs / b.natAbs : Nat) : Int)

theorem cut_lo (x : Int) : -2147483648 ≤ cut x := by unfold cut; omega
theorem cut_hi (x : Int) : cut x < 2147483648 := by unfold cut; omega
theorem cut_id {x : Int} (h1 : -2147483648 ≤ x) (h2 : x < 2147483648) : cut x = x := by unfold cut; omega
theorem sgn_lo (x : Int) : 0 ≤ sgn x := by unfold sgn; split <;> omega
theorem sgn_hi (x : Int) : sgn x ≤ 2147483648 := by unfold sgn; split <;> omega
theorem sgn_cut (x : Int) : x % 4294967296 - sgn x * 2 = cut x := by
  unfold cut sgn; split <;> omega
theorem p2_pos (b : Int) : 1 ≤ p2 b := by
  unfold p2
  have : (0 : Int) < 2 ^ (b % 32).toNat := Int.pow_pos (by decide)
  omega
theorem p2_hi (b : Int) : p2 b ≤ 2147483648 := by
  unfold p2
  have h : (b % 32).toNat ≤ 31 := by omega
  have h2 : (2 : Nat) ^ (b % 32).toNat ≤ 2 ^ 31 := Nat.pow_le_pow_right (by decide) h
  have h3 : ((2 ^ (b % 32).toNat : Nat) : Int) ≤ ((2 ^ 31 : Nat) : Int) := Int.ofNat_le.mpr h2
  rw [Int.natCast_pow] at h3
  exact h3

theorem and_sign (x : Int) : Builtin.bitAnd (x % 4294967296) 2147483648 = sgn x := by
  have e : Builtin.bitAnd (x % 4294967296) 2147483648 = (x % 4294967296 / 2147483648 % 2) * 2147483648 := kbt_bit (x % 4294967296) 31
  rw [e]
  unfold sgn
  split <;> omega

theorem fdiv_p2 {a : Int} (b : Int) (h1 : -2147483648 ≤ a) (h2 : a < 2147483648) : cut (a.fdiv (p2 b)) = a.fdiv (p2 b) := by
  have hp := p2_pos b
  generalize p2 b = p at hp
  rw [Int.fdiv_eq_ediv_of_nonneg _ (by omega)]
  have e := Int.emod_add_mul_ediv a p
  have e0 := Int.emod_nonneg a (show p ≠ 0 by omega)
  have e1 := Int.emod_lt_of_pos a (show 0 < p by omega)
  refine cut_id ?_ ?_
  · refine (Int.le_ediv_iff_mul_le (by omega)).mpr ?_
    have : -2147483648 * p ≤ -2147483648 * 1 := Int.mul_le_mul_of_nonpos_left (by decide) hp
    omega
  · refine Int.ediv_lt_of_lt_mul (by omega) ?_
    have : 2147483648 * 1 ≤ 2147483648 * p := Int.mul_le_mul_of_nonneg_left hp (by decide)
    omega

/-! ### plain facts of the quotient -/
theorem qt_nonneg (a b : Int) : 0 ≤ qt a b := Int.natCast_nonneg _
theorem qt_zero (b : Int) : qt 0 b = 0 := by simp [qt]

theorem absdiv (a b : Int) : (if a < 0 then -a else a).fdiv (if b < 0 then -b else b) = qt a b := by
  have ha : (if a < 0 then -a else a) = (a.natAbs : Int) := by split <;> omega
  have hb : (if b < 0 then -b else b) = (b.natAbs : Int) := by split <;> omega
  rw [ha, hb, Int.fdiv_eq_ediv_of_nonneg _ (Int.natCast_nonneg _)]
  rfl

/-- both of one sign: the quotient of the sizes is the floor's -/
theorem fdiv_same {a b : Int} (h : 0 < a * b) : a.fdiv b = qt a b := by
  unfold qt
  rcases Int.lt_trichotomy b 0 with hb | hb | hb
  · have ha : a < 0 := by
      rcases Int.lt_or_le a 0 with h1 | h1
      · exact h1
      · have := Int.mul_nonpos_of_nonneg_of_nonpos h1 (Int.le_of_lt hb); omega
    rw [← Int.neg_fdiv_neg, Int.fdiv_eq_ediv_of_nonneg _ (by omega)]
    rw [Int.natCast_ediv]
    congr 1 <;> omega
  · subst hb; simp at h
  · have ha : 0 < a := by
      rcases Int.lt_or_le 0 a with h1 | h1
      · exact h1
      · have := Int.mul_nonpos_of_nonpos_of_nonneg h1 (Int.le_of_lt hb); omega
    rw [Int.fdiv_eq_ediv_of_nonneg _ (by omega), Int.natCast_ediv]
    congr 1 <;> omega

/-- signs that part, or nought: the floor of the negated one -/
theorem fdiv_part {a b : Int} (h : ¬ 0 < a * b) (hb0 : b ≠ 0) : (-a).fdiv b = qt a b := by
  by_cases ha0 : a = 0
  · subst ha0; simp [qt]
  · have hne : a * b ≠ 0 := Int.mul_ne_zero ha0 hb0
    have h2 : 0 < (-a) * b := by rw [Int.neg_mul]; omega
    rw [fdiv_same h2]
    unfold qt
    rw [Int.natAbs_neg]

theorem fmod_same {a b : Int} (h : 0 < a * b) : a.fmod b = a - b * qt a b := by
  rw [← fdiv_same h]
  have := Int.mul_fdiv_add_fmod a b
  omega
theorem fmod_part {a b : Int} (h : ¬ 0 < a * b) (hb0 : b ≠ 0) : (-a).fmod b = -a - b * qt a b := by
  rw [← fdiv_part h hb0]
  have := Int.mul_fdiv_add_fmod (-a) b
  omega
theorem fdiv_back {a b : Int} (hb0 : b ≠ 0) : (a + (-a - b * qt a b)).fdiv b = -(qt a b) := by
  have e : a + (-a - b * qt a b) = b * (-(qt a b)) := by rw [Int.mul_neg]; omega
  rw [e, Int.mul_fdiv_cancel_left _ hb0]

/-- signs of a product -/
theorem same_zero {a b : Int} (hf : (decide (a < 0) == decide (b < 0)) = true) (hb : b ≠ 0) (hp : ¬ 0 < a * b) : a = 0 := by
  rcases Int.lt_trichotomy a 0 with h | h | h
  · have hb' : b < 0 := by simpa [h] using hf
    exact absurd (Int.mul_pos_of_neg_of_neg h hb') hp
  · exact h
  · have hb' : ¬ b < 0 := by
      have h' : ¬ a < 0 := by omega
      simpa [h'] using hf
    exact absurd (Int.mul_pos h (by omega)) hp
theorem diff_neg {a b : Int} (hf : (decide (a < 0) == decide (b < 0)) = false) : ¬ 0 < a * b := by
  intro hp
  by_cases h : a < 0
  · have hb' : ¬ b < 0 := by simpa [h] using hf
    have := Int.mul_nonpos_of_nonpos_of_nonneg (Int.le_of_lt h) (show 0 ≤ b by omega)
    omega
  · have hb' : b < 0 := by simpa [h] using hf
    have := Int.mul_nonpos_of_nonneg_of_nonpos (show 0 ≤ a by omega) (Int.le_of_lt hb')
    omega
theorem qt_le (a b : Int) : qt a b ≤ (a.natAbs : Int) := Int.ofNat_le.mpr (Nat.div_le_self _ _)
theorem qt_ne1 {a b : Int} (h1 : -2147483648 ≤ a) (h2 : a < 2147483648) (hm : a ≠ -2147483648) : qt a b ≠ 2147483648 := by
  have := qt_le a b
  omega
theorem qt_ne2 {a b : Int} (h1 : -2147483648 ≤ a) (h2 : a < 2147483648) (hf : (decide (a < 0) == decide (b < 0)) = true) (hb : b ≠ -1) : qt a b ≠ 2147483648 := by
  by_cases hm : a = -2147483648
  · have ha : a < 0 := by omega
    have hb' : b < 0 := by simpa [ha] using hf
    have h3 : a.natAbs / b.natAbs ≤ a.natAbs / 2 := Nat.div_le_div_left (by omega) (by decide)
    have h4 : qt a b = ((a.natAbs / b.natAbs : Nat) : Int) := rfl
    omega
  · exact qt_ne1 h1 h2 hm
theorem qt_edge {a b : Int} (ha : a = -2147483648) (hb : b = -1) : qt a b = 2147483648 := by
  subst ha hb; decide
theorem qt_negne (a b : Int) : -(qt a b) ≠ 2147483648 := by
  have := qt_nonneg a b
  omega

/-! ### the steps -/
section
variable {prog : Program} {w : World} {A : Around} {E : Value → Shared → Prop} {s : Shared} {t u : Tok} {Q : Value → Shared → Prop}

theorem bits64 {x : Int} (h : x.natAbs < 2 ^ 64) : Builtin.Int.intBits x ≤ 64 := intBits_le h

theorem st_pow31 (h : Q (.int 2147483648 s.toks) { s with toks := s.toks + 1 }) : wpAny (model prog w) A (binaryOp .Pow (.int 2 t) (.int 31 u)) Q E s :=
  pow_int_small (by decide) (by decide) (by decide) h
theorem st_pow32 (h : Q (.int 4294967296 s.toks) { s with toks := s.toks + 1 }) : wpAny (model prog w) A (binaryOp .Pow (.int 2 t) (.int 32 u)) Q E s :=
  pow_int_small (by decide) (by decide) (by decide) h
theorem st_mod32 {x : Int} (h : Q (.int (x % 4294967296) s.toks) { s with toks := s.toks + 1 }) : wpAny (model prog w) A (binaryOp .Mod (.int x t) (.int 4294967296 u)) Q E s :=
  mod_int' (by decide) (by rw [Int.fmod_eq_emod_of_nonneg _ (by decide)]; exact h)
theorem st_cut {x : Int} (h : Q (.int (cut x) s.toks) { s with toks := s.toks + 1 }) : wpAny (model prog w) A (binaryOp .Sub (.int ((x + 2147483648) % 4294967296) t) (.int 2147483648 u)) Q E s :=
  sub_int h
theorem st_mask {x : Int} (h : Q (.int (x % 4294967296) s.toks) { s with toks := s.toks + 1 }) : wpAny (model prog w) A (binaryOp .BitAnd (.int x t) (.int 4294967295 u)) Q E s :=
  and_int (by rw [bitAnd_m32]; exact h)
theorem st_sign {x : Int} (h : Q (.int (sgn x) s.toks) { s with toks := s.toks + 1 }) : wpAny (model prog w) A (binaryOp .BitAnd (.int (x % 4294967296) t) (.int 2147483648 u)) Q E s :=
  and_int (by rw [and_sign]; exact h)
theorem st_shl1 {x : Int} (h : Q (.int (sgn x * 2) s.toks) { s with toks := s.toks + 1 }) : wpAny (model prog w) A (binaryOp .LShift (.int (sgn x) t) (.int 1 u)) Q E s :=
  lshift_int_small (by decide) (by decide) (by have := sgn_lo x; have := sgn_hi x; omega) h
theorem st_fit {x : Int} (h : Q (.int (cut x) s.toks) { s with toks := s.toks + 1 }) : wpAny (model prog w) A (binaryOp .Sub (.int (x % 4294967296) t) (.int (sgn x * 2) u)) Q E s :=
  sub_int (by rw [sgn_cut]; exact h)
theorem st_low5 {b : Int} (h : Q (.int (b % 32) s.toks) { s with toks := s.toks + 1 }) : wpAny (model prog w) A (binaryOp .BitAnd (.int b t) (.int 31 u)) Q E s :=
  and_int (by rw [bitAnd_m5]; exact h)
theorem st_mod5 {b : Int} (h : Q (.int (b % 32) s.toks) { s with toks := s.toks + 1 }) : wpAny (model prog w) A (binaryOp .Mod (.int b t) (.int 32 u)) Q E s :=
  mod_int' (by decide) (by rw [Int.fmod_eq_emod_of_nonneg _ (by decide)]; exact h)
theorem st_pow5 {b : Int} (h : Q (.int (p2 b) s.toks) { s with toks := s.toks + 1 }) : wpAny (model prog w) A (binaryOp .Pow (.int 2 t) (.int (b % 32) u)) Q E s :=
  pow_int_small (by omega) (by omega) (by decide) h
theorem st_shl {a b : Int} (h1 : -2147483648 ≤ a) (h2 : a < 2147483648) (h : Q (.int (a * p2 b) s.toks) { s with toks := s.toks + 1 }) : wpAny (model prog w) A (binaryOp .LShift (.int a t) (.int (b % 32) u)) Q E s :=
  lshift_int_small (by omega) (by omega) (by omega) h
theorem st_shr {a b : Int} (h : Q (.int (a.fdiv (p2 b)) s.toks) { s with toks := s.toks + 1 }) : wpAny (model prog w) A (binaryOp .RShift (.int a t) (.int (b % 32) u)) Q E s :=
  rshift_int (by omega) h
theorem st_divp {a b : Int} (h1 : -2147483648 ≤ a) (h2 : a < 2147483648) (h : Q (.int (cut (a.fdiv (p2 b))) s.toks) { s with toks := s.toks + 1 }) : wpAny (model prog w) A (binaryOp .FloorDiv (.int a t) (.int (p2 b) u)) Q E s := by
  rw [fdiv_p2 b h1 h2] at h
  exact floordiv_int (by have := p2_pos b; omega) h (Or.inl (PyProof.noPylong_of_log2 (kbt_py (by omega))))
theorem st_mul {a b : Int} (h1 : -2147483648 ≤ a) (h2 : a < 2147483648) (h : Q (.int (a * b) s.toks) { s with toks := s.toks + 1 }) : wpAny (model prog w) A (binaryOp .Mult (.int a t) (.int b u)) Q E s :=
  mul_int h (IntMulOk.of_left (bits64 (by omega)))
theorem log_small {y : Int} (h : y.natAbs ≤ 2147483648) : y.natAbs.log2 < 9000 := by
  by_cases h0 : y.natAbs = 0
  · rw [h0]; decide +kernel
  · have h30 : y.natAbs.log2 < 32 := (Nat.log2_lt h0).mpr (by omega)
    omega
theorem st_absdiv {a b : Int} (h1 : -2147483648 ≤ b) (h2 : b < 2147483648) (h0 : b ≠ 0) (h : Q (.int (qt a b) s.toks) { s with toks := s.toks + 1 }) : wpAny (model prog w) A (binaryOp .FloorDiv (.int (if a < 0 then -a else a) t) (.int (if b < 0 then -b else b) u)) Q E s :=
  floordiv_int (by split <;> omega) (by rw [absdiv]; exact h) (Or.inl (PyProof.noPylong_of_log2 (log_small (by split <;> omega))))
theorem st_divsame {a b : Int} (h1 : -2147483648 ≤ b) (h2 : b < 2147483648) (hp : 0 < a * b) (h : Q (.int (qt a b) s.toks) { s with toks := s.toks + 1 }) : wpAny (model prog w) A (binaryOp .FloorDiv (.int a t) (.int b u)) Q E s :=
  floordiv_int (by intro e; subst e; simp at hp) (by rw [fdiv_same hp]; exact h) (Or.inl (PyProof.noPylong_of_log2 (log_small (by omega))))
theorem st_modsame {a b : Int} (hp : 0 < a * b) (h : Q (.int (a - b * qt a b) s.toks) { s with toks := s.toks + 1 }) : wpAny (model prog w) A (binaryOp .Mod (.int a t) (.int b u)) Q E s :=
  mod_int' (by intro e; subst e; simp at hp) (by rw [fmod_same hp]; exact h)
theorem st_modpart {a b : Int} (hb : b ≠ 0) (hp : ¬ 0 < a * b) (h : Q (.int (-a - b * qt a b) s.toks) { s with toks := s.toks + 1 }) : wpAny (model prog w) A (binaryOp .Mod (.int (-a) t) (.int b u)) Q E s :=
  mod_int' hb (by rw [fmod_part hp hb]; exact h)
theorem st_divpart {a b : Int} (h1 : -2147483648 ≤ b) (h2 : b < 2147483648) (hb : b ≠ 0) (h : Q (.int (-(qt a b)) s.toks) { s with toks := s.toks + 1 }) : wpAny (model prog w) A (binaryOp .FloorDiv (.int (a + (-a - b * qt a b)) t) (.int b u)) Q E s :=
  floordiv_int hb (by rw [fdiv_back hb]; exact h) (Or.inl (PyProof.noPylong_of_log2 (log_small (by omega))))
theorem st_forgetA {x : Int} {env : Env} {P : Unit → Shared → Prop} (h : ∀ y : Int, -2147483648 ≤ y → y < 2147483648 → wpAny (model prog w) A (storeName env (Str.ofString "a") (.int y t)) P E s) : wpAny (model prog w) A (storeName env (Str.ofString "a") (.int (cut x) t)) P E s :=
  h _ (cut_lo x) (cut_hi x)
theorem st_forgetB {x : Int} {env : Env} {P : Unit → Shared → Prop} (h : ∀ y : Int, -2147483648 ≤ y → y < 2147483648 → wpAny (model prog w) A (storeName env (Str.ofString "b") (.int y t)) P E s) : wpAny (model prog w) A (storeName env (Str.ofString "b") (.int (cut x) t)) P E s :=
  h _ (cut_lo x) (cut_hi x)
theorem len_two (ns : List Int) : (1 : Int) < ((ns ++ ([7, -2] : List Int).drop ((ns.length : Int).toNat)).length : Int) := by
  simp only [List.length_append, List.length_drop, List.length_cons, List.length_nil]
  omega
theorem len_one (ns : List Int) : (0 : Int) < ((ns ++ ([7, -2] : List Int).drop ((ns.length : Int).toNat)).length : Int) := by
  have := len_two ns
  omega
theorem st_sub31 (h : Q (.int 31 s.toks) { s with toks := s.toks + 1 }) : wpAny (model prog w) A (binaryOp .Sub (.int 32 t) (.int 1 u)) Q E s :=
  sub_int h
theorem st_mul0 {a b : Int} (hb : b = 0) (h : Q (.int 0 s.toks) { s with toks := s.toks + 1 }) : wpAny (model prog w) A (binaryOp .Mult (.int a t) (.int b u)) Q E s :=
  mul_int (by rw [hb, Int.mul_zero]; exact h) (IntMulOk.of_right (bits64 (by rw [hb]; decide)))
theorem st_mulS {a b : Int} (h1 : -2147483648 ≤ a) (h2 : a < 2147483648) (hf : (decide (a < 0) == decide (b < 0)) = true) (hb : b ≠ 0) (h : (¬ 0 < a * b → a = 0) → Q (.int (a * b) s.toks) { s with toks := s.toks + 1 }) : wpAny (model prog w) A (binaryOp .Mult (.int a t) (.int b u)) Q E s :=
  st_mul h1 h2 (h (same_zero hf hb))
theorem st_mulD {a b : Int} (h1 : -2147483648 ≤ a) (h2 : a < 2147483648) (hf : (decide (a < 0) == decide (b < 0)) = false) (h : ¬ 0 < a * b → Q (.int (a * b) s.toks) { s with toks := s.toks + 1 }) : wpAny (model prog w) A (binaryOp .Mult (.int a t) (.int b u)) Q E s :=
  st_mul h1 h2 (h (diff_neg hf))
theorem st_mod0 {a b : Int} (hA : A.handled = none) (hb : b = 0) (h : ∀ h' tk e, Heap.NewExc s.heap h' e "ZeroDivisionError" → E (.ref e) { s with heap := h', toks := tk }) : wpAny (model prog w) A (binaryOp .Mod (.int a t) (.int b u)) Q E s :=
  mod_int_or hA (fun _ => h) fun hn => absurd hb hn
theorem st_divpartZ {a b : Int} (h1 : -2147483648 ≤ b) (h2 : b < 2147483648) (hb : b ≠ 0) (hz : ¬ 0 < a * b → a = 0) (hp : ¬ 0 < a * b) (h : Q (.int (qt a b) s.toks) { s with toks := s.toks + 1 }) : wpAny (model prog w) A (binaryOp .FloorDiv (.int (a + (-a - b * qt a b)) t) (.int b u)) Q E s := by
  refine st_divpart h1 h2 hb ?_
  have ha := hz hp
  subst ha
  rw [qt_zero] at h ⊢
  exact h
theorem st_negremZ {a b : Int} (hz : ¬ 0 < a * b → a = 0) (hp : ¬ 0 < a * b) (h : Q (.int (a - b * qt a b) s.toks) { s with toks := s.toks + 1 }) : wpAny (model prog w) A (unaryOp .USub (.int (-a - b * qt a b) t)) Q E s := by
  refine neg_int ?_
  have ha := hz hp
  subst ha
  rw [qt_zero, Int.mul_zero] at h ⊢
  exact h
theorem st_negrem {a b : Int} (h : Q (.int (a - b * -(qt a b)) s.toks) { s with toks := s.toks + 1 }) : wpAny (model prog w) A (unaryOp .USub (.int (-a - b * qt a b) t)) Q E s := by
  refine neg_int ?_
  have e : -(-a - b * qt a b) = a - b * -(qt a b) := by rw [Int.mul_neg]; omega
  rw [e]
  exact h
theorem st_neT {x y : Int} (hxy : x ≠ y) (h : Q (.bool true) s) : wpAny (model prog w) A (compareOp .NotEq (.int x t) (.int y u)) Q E s :=
  ne_int (by rw [bne_iff_ne.mpr hxy]; exact h)
theorem st_eqT {x y : Int} (hxy : x = y) (h : Q (.bool true) s) : wpAny (model prog w) A (compareOp .Eq (.int x t) (.int y u)) Q E s :=
  eq_int (by rw [beq_iff_eq.mpr hxy]; exact h)
end
end Mine

namespace Mine
section
variable {prog : Program} {w : World} {A₀ : Around} {E : Value → Shared → Prop} {s' : Shared} {h₀ h : Heap} {outer : List Env} {L a e : Addr} {m : Str → Option Value} {name : Str} {scope : Scope} {cd cls : Value}
  {b₀ : Stmt} {suite : List Stmt} {pos : Pos} {rest : List ExceptHandler} {Q : Flow → Shared → Prop} {news : List (Addr × Obj)} {KF : Frag} {tt : PySem.Expr} {p : Program} {loose : List Str} {mg mb : Str → Option Value}

/-- a new exception that flew into the law's own frame, taken by a clause whose test is known to hold -/
theorem caught_N0T (K : Below A₀ h₀ outer h₀) (F : Fr h₀ L h m) (hsm : h.UpToSlots s'.heap) (R : RaisedN h₀ (envOf name scope L a cd :: outer) e cls news s'.heap)
    (X : KF.In h₀) (T : TopRead p loose mg mb h₀) (TT : KtsTest prog w KF p loose mg mb name scope L a cd cls tt true)
    (k : ∀ h', Fr h₀ L h' m → News h₀ L h' news →
      wpAny (model prog w) ((A₀.deeper (envOf name scope L a cd)).mark (some (.ref e))) (execs (b₀ :: suite) (envOf name scope L a cd)) Q E { s' with heap := h' })
    (hE : PassesOwnAt (model prog w) ((A₀.deeper (envOf name scope L a cd)).mark (some (.ref e))) (A₀.deeper (envOf name scope L a cd)) (envOf name scope L a cd) E := by passes_own) :
    wpAny (model prog w) (A₀.deeper (envOf name scope L a cd)) (noteFrame (.ref e) (envOf name scope L a cd))
      (fun _ s₂ => wpAny (model prog w) (A₀.deeper (envOf name scope L a cd)) (setFlight (.ref e) none) (fun _ s₃ =>
        wpAny (model prog w) (A₀.deeper (envOf name scope L a cd)) (handleBy (.ref e) (envOf name scope L a cd) (.ExceptHandler (some tt) none (b₀ :: suite) pos :: rest)) Q E s₃) E s₂) E s' := by
  obtain ⟨B, a0, hB, hl, hfl⟩ := R
  have hL : B.get? L = none := by
    obtain ⟨_, ⟨L', _, hf, hn', _⟩, _⟩ := hfl.2.2.1
    obtain rfl : L = L' := Option.some.inj hf
    exact hn'
  refine wpAny_looks_onW (Around.frames_deeper K.stack) rfl hfl fun h₄ hheld₄ hsm₄ => ?_
  refine wpAny_landsW hheld₄ fun h₅ hheld hsm₅' => ?_
  have hsm₅ := hsm₄.trans hsm₅'
  have hheld' := flyingW_base hB hheld
  have F₅ := F.of_stays hheld'.1 (hsm.trans hsm₅)
  have LT : Looks (model prog w) h₅ (typeOf (.ref e)) cls := by
    obtain ⟨ob, hob, hc⟩ := hheld'.there
    subst hc
    exact (Looks.ld hob).andThen .now
  refine wpAny_handleBy_cons (codeAny_handlers_test (TT _ _ _ _ h₀ e m F₅ X T LT fun h₇ kp => ?_)) (by intro q; cases q)
  have hheld₇ := flying_keeps hheld kp
  refine codeAny_handlers_suite ?_
  refine lands_againW hheld₇ fun h₆ hfl₆ hsm₆ => ?_
  have F₆ := F.of_stays (flyingW_base hB hfl₆).1 (((hsm.trans hsm₅).trans (Heap.UpToSlots.of_keeps kp)).trans hsm₆)
  exact wpAny_passesOwnAt hE (k h₆ F₆ fun q hq => ⟨hfl₆.1 _ _ (hl q hq).1, (fun z => by have := (hl q hq).1; rw [z, hL] at this; cases this), (hl q hq).2⟩)
end
end Mine

open Mine

local macro_rules | `(tactic| walk_at "subscriptTail List cons Slice ref ref") => `(tactic| (k_here; k_dflt (refine kba_turn (value' := PySem.Expr.Name (PySem.Str.ofString "x") ⟨0, 0, 0, 0⟩) (fun _ => rfl) ?_); k_dflt (refine' kmk_slice_ints ?F ?N ?l ?p ?q ?i ?m ?c ?_ ?s ?t ?z; (case F => k_asm); (case N => k_asm); (case l => kmk_list); (case p => kmk_part); (case q => kmk_part); (case i => l_ints); (case m => exact kmk_from (by l_ints) (Int.natCast_nonneg _)); (case c => kmk_len); (case s => with_unfolding_all rfl); (case t => kmk_pure); (case z => kmk_size)); intro D' ws' h' F' N' l1 hI' hC' hL'; (try k_lt l1); (try k_sweep)))

local macro_rules | `(tactic| walk_at "subscriptTail BinOp Name Add Subscript Constant ref int") => `(tactic| (k_here; (with_unfolding_all refine' item_anyK ?k1 ?k2 ?k3 ?k4 ?k5 ?_ ?k6; (case k1 => is_list); (case k2 => l_ints); (case k3 => decide); (case k4 => first | exact len_one _ | exact len_two _); (case k5 => decide); (case k6 => with_unfolding_all rfl); k_whole); intro _))
local macro_rules | `(tactic| walk_at "storeName int") => `(tactic| ((first | with_reducible refine st_forgetA ?_ | with_reducible refine st_forgetB ?_); intro y' hy1 hy2))

local macro_rules | `(tactic| walk_at "binaryOp Pow int int") => `(tactic| first | with_reducible refine st_pow31 ?_ | with_reducible refine st_pow32 ?_ | with_reducible refine st_pow5 ?_)
local macro_rules | `(tactic| walk_at "binaryOp Mod int int") => `(tactic| first | with_reducible refine st_mod32 ?_ | with_reducible refine st_mod5 ?_ | with_reducible refine st_mod0 (by with_unfolding_all rfl) (by with_reducible assumption) (fun _ _ _ _ => ?_) | with_reducible refine st_modsame (by with_reducible assumption) ?_ | with_reducible refine st_modpart (by with_reducible assumption) (by with_reducible assumption) ?_)
local macro_rules | `(tactic| walk_at "binaryOp Sub int int") => `(tactic| first | with_reducible refine st_sub31 ?_ | with_reducible refine st_cut ?_ | with_reducible refine st_fit ?_ | with_reducible refine sub_int ?_)
local macro_rules | `(tactic| walk_at "binaryOp BitAnd int int") => `(tactic| first | with_reducible refine st_mask ?_ | with_reducible refine st_sign ?_ | with_reducible refine st_low5 ?_)
local macro_rules | `(tactic| walk_at "binaryOp LShift int int") => `(tactic| first | with_reducible refine st_shl1 ?_ | with_reducible refine st_shl (by with_reducible assumption) (by with_reducible assumption) ?_)
local macro_rules | `(tactic| walk_at "binaryOp RShift int int") => `(tactic| with_reducible refine st_shr ?_)

local macro_rules | `(tactic| walk_at "binaryOp FloorDiv int int") => `(tactic| first | with_reducible refine st_divp (by with_reducible assumption) (by with_reducible assumption) ?_ | with_reducible refine st_absdiv (by with_reducible assumption) (by with_reducible assumption) (by with_reducible assumption) ?_ | with_reducible refine st_divpartZ (by with_reducible assumption) (by with_reducible assumption) (by with_reducible assumption) (by with_reducible assumption) (by with_reducible assumption) ?_ | with_reducible refine st_divpart (by with_reducible assumption) (by with_reducible assumption) (by with_reducible assumption) ?_ | with_reducible refine st_divsame (by with_reducible assumption) (by with_reducible assumption) (by with_reducible assumption) ?_)
local macro_rules | `(tactic| walk_at "binaryOp Mult int int") => `(tactic| first | with_reducible refine st_mul0 (by with_reducible assumption) ?_ | (with_reducible refine st_mulS (by with_reducible assumption) (by with_reducible assumption) (by with_reducible assumption) (by with_reducible assumption) ?_; intro hz') | (with_reducible refine st_mulD (by with_reducible assumption) (by with_reducible assumption) (by first | with_reducible assumption | exact Bool.eq_false_iff.mpr (by with_reducible assumption)) ?_; intro hz') | with_reducible refine st_mul (by with_reducible assumption) (by with_reducible assumption) ?_)
local macro_rules | `(tactic| walk_at "unaryOp USub int") => `(tactic| first | with_reducible refine st_negremZ (by with_reducible assumption) (by with_reducible assumption) ?_ | with_reducible refine st_negrem ?_)
local macro_rules | `(tactic| walk_at "compareOp NotEq int int") => `(tactic| first | with_reducible refine st_neT (qt_negne _ _) ?_ | with_reducible refine st_neT (qt_ne1 (by with_reducible assumption) (by with_reducible assumption) (by with_reducible assumption)) ?_ | with_reducible refine st_neT (qt_ne2 (by with_reducible assumption) (by with_reducible assumption) (by with_reducible assumption) (by with_reducible assumption)) ?_ | with_reducible refine st_neT (by with_reducible assumption) ?_)
local macro_rules | `(tactic| walk_at "compareOp Eq int int") => `(tactic| first | with_reducible refine st_eqT (qt_edge (by with_reducible assumption) (by with_reducible assumption)) ?_ | with_reducible refine st_eqT (by with_reducible assumption) ?_)
local macro_rules | `(tactic| walk_at "noteFrame ref") => `(tactic| (k_here; (rename RaisedN _ _ _ _ _ _ => rkX); k_dflt (refine' caught_N0T ?K ?F ?U ?R ?X ?T ?TT ?_ ?hE; (case R => assumption); (case F => assumption); (case K => assumption); (case U => assumption); (case X => assumption); (case T => k_asm); (case TT => kts_test); (case hE => passes_own); k_whole); intro h' F' N'; (try k_sweep)))

set_option maxHeartbeats 40000000 in
theorem PySem.Challenge.cw_ln0028_01_holds : PySem.Challenge.rw_ln0028_01.Holds := by
  open_k
