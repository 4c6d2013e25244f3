import PyProof.Rows.All
import Wide.All
import OpenK.AllK
import Wide.FinOn
import Lean
import PySem.Challenge.RW_kq0022_05
/- written by an AI agent; joined by wip/join.py -/
set_option Elab.async false
set_option linter.all false
namespace Mine
section
open PySem PySem.W PyProof.Rows
set_option Elab.async false
open PySem.Builtin.Int (intBits)


theorem bl_lt (a : Int) : a.natAbs < 2 ^ intBits a := natAbs_lt_pow_bits a
theorem bl_le {a : Int} {k : Nat} (h : a.natAbs < 2 ^ k) : intBits a ≤ k := intBits_le h
theorem bl_le_iff {a : Int} {k : Nat} : intBits a ≤ k ↔ a.natAbs < 2 ^ k :=
  ⟨fun h => Nat.lt_of_lt_of_le (bl_lt a) (Nat.pow_le_pow_right (by decide) h), bl_le⟩
theorem bl_mono {a b : Int} (h : a.natAbs ≤ b.natAbs) : intBits a ≤ intBits b := bl_le (Nat.lt_of_le_of_lt h (bl_lt b))
theorem bl_neg (a : Int) : intBits (-a) = intBits a := Nat.le_antisymm (bl_mono (by omega)) (bl_mono (by omega))
theorem bl_mul (a b : Int) : intBits (a * b) ≤ intBits a + intBits b := by
  refine bl_le ?_
  rw [Int.natAbs_mul, Nat.pow_add]
  exact Nat.mul_lt_mul'' (bl_lt a) (bl_lt b)
theorem bl_add (a b : Int) : intBits (a + b) ≤ max (intBits a) (intBits b) + 1 := by
  refine bl_le ?_
  have h1 := Nat.lt_of_lt_of_le (bl_lt a) (Nat.pow_le_pow_right (n := 2) (by decide) (Nat.le_max_left (intBits a) (intBits b)))
  have h2 := Nat.lt_of_lt_of_le (bl_lt b) (Nat.pow_le_pow_right (n := 2) (by decide) (Nat.le_max_right (intBits a) (intBits b)))
  rw [Nat.pow_succ]
  omega
theorem bl_shl (a : Int) (k : Nat) : intBits (a * 2 ^ k) ≤ intBits a + k := by
  refine bl_le ?_
  rw [Int.natAbs_mul, Int.natAbs_pow, Nat.pow_add]
  exact Nat.mul_lt_mul_of_lt_of_le (bl_lt a) (Nat.le_refl _) (Nat.pow_pos (by decide))
theorem bl_div {a b : Int} (ha : 0 ≤ a) : intBits (a / b) ≤ intBits a := by
  refine bl_mono ?_
  obtain ⟨n, rfl⟩ := Int.eq_ofNat_of_zero_le ha
  cases b with
  | ofNat m =>
    show Int.natAbs (((n / m : Nat) : Int)) ≤ _
    exact Nat.div_le_self n m
  | negSucc m =>
    have e : ((n : Int) / Int.negSucc m) = -(((n / (m + 1) : Nat)) : Int) := rfl
    rw [e, Int.natAbs_neg]
    exact Nat.div_le_self n _
theorem bl_of_lt {a : Int} {k : Nat} (h0 : 0 ≤ a) (h : a < 2 ^ k) : intBits a ≤ k := by
  refine bl_le ?_
  have e : (2 : Int) ^ k = ((2 ^ k : Nat) : Int) := two_pow_cast k
  rw [e] at h
  omega
theorem two_pow_pos' (k : Nat) : (0 : Int) < 2 ^ k := Int.pow_pos (by decide)

theorem mulOk {a b : Int} (h : intBits a + intBits b ≤ 2 ^ 27) : IntMulOk a b := by
  unfold IntMulOk
  have h' : Builtin.Int.intTooBig ((intBits a : Int) + (intBits b : Int)) = false := decide_eq_false (by unfold bitsLine; omega)
  intro hc
  simp only [Bool.and_eq_true] at hc
  rw [h'] at hc
  exact absurd hc.2 (by decide)

section
variable {prog : Program} {w : World} {A : Around} {E : Value → Shared → Prop} {s : Shared} {a b n : Int} {t u : Tok} {Q : Value → Shared → Prop}

theorem mulX (hm : intBits a + intBits b ≤ 2 ^ 27) (h : Q (.int (a * b) s.toks) { s with toks := s.toks + 1 }) : wpAny (model prog w) A (binaryOp .Mult (.int a t) (.int b u)) Q E s :=
  mul_int h (mulOk hm)

theorem noPy_of {a b : Int} (h : intBits b ≤ 9000 ∨ intBits a ≤ intBits b + 4000) : Builtin.divisionGoesByPylong a b = false := by
  have e : ∀ n : Int, (if n == 0 then 0 else n.natAbs.log2 / 30 + 1) = (intBits n + 29) / 30 := by
    intro n
    unfold intBits
    split
    · rfl
    · omega
  unfold Builtin.divisionGoesByPylong
  simp only [e]
  rw [Bool.and_eq_false_iff]
  rcases h with h | h
  · left; simp; omega
  · right; simp; omega

theorem divX (hb : 0 < b) (hp : intBits b ≤ 9000 ∨ intBits a ≤ intBits b + 4000) (h : Q (.int (a / b) s.toks) { s with toks := s.toks + 1 }) : wpAny (model prog w) A (binaryOp .FloorDiv (.int a t) (.int b u)) Q E s := by
  refine floordiv_int (Int.ne_of_gt hb) ?_ (Or.inl (noPy_of hp))
  rw [Int.fdiv_eq_ediv_of_nonneg _ (Int.le_of_lt hb)]
  exact h
theorem modX (hb : 0 < b) (h : Q (.int (a % b) s.toks) { s with toks := s.toks + 1 }) : wpAny (model prog w) A (binaryOp .Mod (.int a t) (.int b u)) Q E s := by
  refine mod_int' (Int.ne_of_gt hb) ?_
  rw [Int.fmod_eq_emod_of_nonneg _ (Int.le_of_lt hb)]
  exact h
theorem shlX (hn : 0 ≤ n) (hm : (intBits a : Int) + n ≤ 2 ^ 27) (h : Q (.int (a * 2 ^ n.toNat) s.toks) { s with toks := s.toks + 1 }) : wpAny (model prog w) A (binaryOp .LShift (.int a t) (.int n u)) Q E s :=
  lshift_int hn hm h
theorem shrX (hn : 0 ≤ n) (h : Q (.int (a / 2 ^ n.toNat) s.toks) { s with toks := s.toks + 1 }) : wpAny (model prog w) A (binaryOp .RShift (.int a t) (.int n u)) Q E s := by
  refine rshift_int hn ?_
  rw [Int.fdiv_eq_ediv_of_nonneg _ (Int.le_of_lt (two_pow_pos' _))]
  exact h
theorem powX (hn : 0 ≤ n) (hm : (intBits a : Int) * n ≤ 2 ^ 27) (h : Q (.int (a ^ n.toNat) s.toks) { s with toks := s.toks + 1 }) : wpAny (model prog w) A (binaryOp .Pow (.int a t) (.int n u)) Q E s :=
  pow_int hn hm h

theorem isqrtX (h0 : 0 ≤ a) (hm : intBits a ≤ 13000) (h : Q (.int ((Float64.isqrt a.toNat : Nat) : Int) s.toks) { s with toks := s.toks + 1 }) : wpAny (model prog w) A (call (.builtin "math.isqrt") [.int a t]) Q E s := by
  have hl : a.toNat.log2 ≤ 13000 := by
    have e : a.toNat = a.natAbs := by omega
    rw [e]
    unfold intBits at hm
    split at hm
    · rename_i hz
      have : a = 0 := by simpa using hz
      subst this
      decide
    · omega
  exact call_function_meets MGF.kind_isqrt MGF.plain_isqrt MGF.entry_isqrt (MGF.args_isqrt _) (mg_run_isqrt a t (by omega) (by omega) (by omega)).meets h

theorem differs_int_bool_or : reflectedDiffers (.type "int") (.type "bool") "or" = pure true := by
  unfold reflectedDiffers
  show (typeLookup (.type "bool") (dunderR "or") >>= fun rb => typeLookup (.type "int") (dunderR "or") >>= fun ra => pure (rb.isSome && rb != ra)) = pure true
  rw [typeLookup_type, typeLookup_type, builtinLookup_eq_fast]; kernel_rfl

theorem gives_or_int_bool (a : Int) (t : Tok) (b : Bool) :
    Gives (Builtin.«int.__or__» ⟨[.int a t, .bool b], []⟩) (.int (Builtin.bitOr a (if b = true then 1 else 0))) :=
  .of_eq rfl
theorem gives_ror_bool_int (a : Int) (t : Tok) (b : Bool) :
    Gives (Builtin.«bool.__ror__» ⟨[.bool b, .int a t], []⟩) (.int (Builtin.bitOr a (if b = true then 1 else 0))) :=
  Gives.rule (tag := "bool.bitwise.as-ints") (t := again (.builtin "int.__or__" ⟨[.int a t, .bool b], []⟩)) (.again (id' := "int.__or__") (args' := ⟨[.int a t, .bool b], []⟩) (B' := Builtin.«int.__or__») rfl (by decide +kernel) entry_int_or (gives_or_int_bool a t b))

theorem call_ror_bool_int {b : Bool} {Q : Value → Shared → Prop} (h : Q (.int (Builtin.bitOr a (if b = true then 1 else 0)) s.toks) { s with toks := s.toks + 1 }) :
    wpAny (model prog w) A (call (.builtin "bool.__ror__") [.bool b, .int a t]) (fun v s' => v ≠ .notImplemented ∧ Q v s') E s :=
  call_gives (Q := fun v s' => v ≠ .notImplemented ∧ Q v s') F.slot_bool_ror (PySem.typeIs_bool s b) F.entry_bool_ror (F.args_bool_ror_2 _ _) (gives_ror_bool_int a t b) (Made.post_and (m := .int _) trivial h)

theorem or_int_bool {b : Bool} (h : Q (.int (Builtin.bitOr a (if b = true then 1 else 0)) s.toks) { s with toks := s.toks + 1 }) : wpAny (model prog w) A (binaryOp .BitOr (.int a t) (.bool b)) Q E s := by
  simp only [binaryOp, Operator.info]
  refine wpAny_holding ?_
  refine wpAny_bind ?_
  simp only [binaryOp1]
  refine wpAny_bind (wpAny_typeOf (typeIs_int s a t) (wpAny_bind (wpAny_typeOf (T := "bool") rfl (wpAny_bind (wpAny_of_eq fills_int_or ?_)))))
  have hne : (Value.type "int" == Value.type "bool") = false := by decide
  simp only [hne, Bool.false_eq_true, if_false]
  refine wpAny_bind (wpAny_of_eq F.fills_bool_or ?_)
  simp only [Bool.and_self, if_true]
  refine wpAny_bind (wpAny_of_eq isSubtype_bool_int ?_)
  simp only [if_true]
  refine wpAny_bind (wpAny_of_eq differs_int_bool_or ?_)
  simp only [if_true]
  refine wpAny_bind (wpAny_rule ?_)
  simp only [tryMethod]
  have h1 : wpAny (model prog w) A (callSpecial? (.bool b) (dunderR "or") [.int a t]) (fun v s₁ => ∃ v', v = some v' ∧ v' ≠ .notImplemented ∧ Q v' s₁) E s := by
    refine wpAny_callSpecial?_slot (T := "bool") (id := "bool.__ror__") ?_ ?_ ?_
    · exact PySem.typeIs_bool s b
    · exact F.slot_bool_ror
    · exact wpAny_mono (call_ror_bool_int (Q := Q) (a := a) (t := t) (b := b) h) (fun v s₁ h₁ => ⟨v, rfl, h₁⟩) fun _ _ x => x
  refine wpAny_bind (wpAny_bind (wpAny_mono h1 (fun v s₁ h₁ => ?_) fun _ _ x => x))
  obtain ⟨v', rfl, hv, hq⟩ := h₁
  cases v' <;> first | exact absurd rfl hv | exact wpAny_pure (wpAny_pure (wpAny_pure hq))
end
end
section
open PySem PySem.W PyProof.Rows
set_option Elab.async false
open PySem.Builtin.Int (intBits)

/-- the root of N / M rounded to odd, of natural numbers -/
def rtoN (N M : Nat) : Nat := if Float64.isqrt (N / M) * Float64.isqrt (N / M) * M = N then Float64.isqrt (N / M) else Float64.isqrt (N / M) ||| 1

theorem bitOr_nat (a b : Nat) : Builtin.bitOr (a : Int) (b : Int) = ((a ||| b : Nat) : Int) := by
  unfold Builtin.bitOr Builtin.bitAnd Builtin.bitNot
  have h1 : decide (0 ≤ -(a : Int) - 1) = false := decide_eq_false (by omega)
  have h2 : decide (0 ≤ -(b : Int) - 1) = false := decide_eq_false (by omega)
  simp only [h1, h2]
  have e1 : (-(-(a : Int) - 1) - 1).toNat = a := by omega
  have e2 : (-(-(b : Int) - 1) - 1).toNat = b := by omega
  rw [e1, e2]
  omega

/-- both are of one sign, the lower one not 0 -/
def Sg (n m : Int) : Prop := (0 ≤ n ∧ 0 < m) ∨ (n ≤ 0 ∧ m < 0)
theorem Sg.ne {n m : Int} (h : Sg n m) : m ≠ 0 := by rcases h with h | h <;> omega
theorem Sg.fdiv {n m : Int} (h : Sg n m) : n.fdiv m = ((n.natAbs / m.natAbs : Nat) : Int) := by
  rcases h with ⟨h1, h2⟩ | ⟨h1, h2⟩
  · obtain ⟨a, rfl⟩ := Int.eq_ofNat_of_zero_le h1
    obtain ⟨b, rfl⟩ := Int.eq_ofNat_of_zero_le (Int.le_of_lt h2)
    rw [Int.fdiv_eq_ediv_of_nonneg _ (Int.natCast_nonneg _)]
    simp
  · have e : n = -((n.natAbs : Nat) : Int) := by omega
    have e2 : m = -((m.natAbs : Nat) : Int) := by omega
    rw [e, e2, Int.neg_fdiv_neg, Int.fdiv_eq_ediv_of_nonneg _ (Int.natCast_nonneg _)]
    simp
theorem Sg.test {n m : Int} (h : Sg n m) (r : Nat) : ((r : Int) * (r : Int) * m != n) = decide (r * r * m.natAbs ≠ n.natAbs) := by
  have key : ((r : Int) * (r : Int) * m = n) ↔ r * r * m.natAbs = n.natAbs := by
    have e0 : (r : Int) * (r : Int) = ((r * r : Nat) : Int) := (Int.natCast_mul r r).symm
    rw [e0]
    generalize r * r = q
    constructor
    · intro e
      rw [← e, Int.natAbs_mul, Int.natAbs_natCast]
    · intro e
      rcases h with ⟨h1, h2⟩ | ⟨h1, h2⟩
      · have e1 : n = ((n.natAbs : Nat) : Int) := by omega
        have e2 : m = ((m.natAbs : Nat) : Int) := by omega
        rw [e1, e2, ← e, Int.natCast_mul]
      · have e1 : n = -((n.natAbs : Nat) : Int) := by omega
        have e2 : m = -((m.natAbs : Nat) : Int) := by omega
        rw [e1, e2, ← e, Int.natCast_mul, Int.mul_neg]
  by_cases hk : r * r * m.natAbs = n.natAbs
  · rw [key.mpr hk]; simp [hk]
  · have hn : (r : Int) * (r : Int) * m ≠ n := fun e => hk (key.mp e)
    simp [hk, hn]

theorem rto_val {n m : Int} (h : Sg n m) : Builtin.bitOr ((Float64.isqrt (n.fdiv m).toNat : Nat) : Int) (if ((Float64.isqrt (n.fdiv m).toNat : Nat) : Int) * ((Float64.isqrt (n.fdiv m).toNat : Nat) : Int) * m != n then 1 else 0) = ((rtoN n.natAbs m.natAbs : Nat) : Int) := by
  rw [h.test, h.fdiv, Int.toNat_natCast]
  unfold rtoN
  generalize Float64.isqrt (n.natAbs / m.natAbs) = a
  by_cases hk : a * a * m.natAbs = n.natAbs
  · rw [if_pos hk, decide_eq_false (by simpa using hk)]
    have := bitOr_nat a 0
    simpa using this
  · rw [if_neg hk, decide_eq_true (by simpa using hk)]
    have := bitOr_nat a 1
    simpa using this

theorem isqrt_le (n : Nat) : Float64.isqrt n ≤ n := by
  have h := (Float64.isqrt_spec n).1
  generalize Float64.isqrt n = r at h ⊢
  cases r with
  | zero => exact Nat.zero_le _
  | succ k => exact Nat.le_trans (Nat.le_mul_of_pos_right _ (Nat.succ_pos k)) h
theorem bl_root {q : Int} {k : Nat} (h : intBits q ≤ k) : intBits ((Float64.isqrt q.toNat : Nat) : Int) ≤ k := by
  refine Nat.le_trans (bl_mono ?_) h
  have := isqrt_le q.toNat
  omega

theorem bl_ge {a : Int} (h : a ≠ 0) : 2 ^ (intBits a - 1) ≤ a.natAbs := by
  have hz : (a == 0) = false := by simpa using h
  unfold intBits
  rw [hz]
  simp only [Bool.false_eq_true, if_false, Nat.add_sub_cancel]
  exact Nat.log2_self_le (by omega)
theorem bl_pos {a : Int} (h : a ≠ 0) : 1 ≤ intBits a := by
  have hz : (a == 0) = false := by simpa using h
  unfold intBits
  rw [hz]
  simp
theorem bl_zero : intBits 0 = 0 := rfl
theorem bl_shl_eq {a : Int} (h : a ≠ 0) (k : Nat) : intBits (a * 2 ^ k) = intBits a + k := by
  refine Nat.le_antisymm (bl_shl a k) ?_
  have h1 := bl_ge h
  have h2 := bl_lt (a * 2 ^ k)
  rw [Int.natAbs_mul, Int.natAbs_pow] at h2
  have h3 : 2 ^ (intBits a - 1 + k) < 2 ^ intBits (a * 2 ^ k) := by
    rw [Nat.pow_add]
    exact Nat.lt_of_le_of_lt (Nat.mul_le_mul_right _ h1) h2
  have h4 := (Nat.pow_lt_pow_iff_right (a := 2) (by decide)).mp h3
  have h5 := bl_pos h
  omega
/-- a quotient's size -/
theorem bl_quot {n m : Int} (h : Sg n m) {k : Nat} (hk : intBits n + 1 ≤ intBits m + k) : intBits (n.fdiv m) ≤ k := by
  rw [h.fdiv]
  refine bl_le ?_
  rw [Int.natAbs_natCast]
  refine Nat.div_lt_of_lt_mul ?_
  have h1 := bl_ge h.ne
  have h2 := bl_lt n
  have h3 := bl_pos h.ne
  have h4 : 2 ^ intBits n ≤ 2 ^ (intBits m - 1) * 2 ^ k := by
    rw [← Nat.pow_add]
    exact Nat.pow_le_pow_right (by decide) (by omega)
  exact Nat.lt_of_lt_of_le h2 (Nat.le_trans h4 (Nat.mul_le_mul_right _ h1))
theorem bl_rto {n m : Int} (h : Sg n m) {k : Nat} (hk : intBits (n.fdiv m) ≤ k + 1) : intBits ((rtoN n.natAbs m.natAbs : Nat) : Int) ≤ k + 1 := by
  refine bl_le ?_
  rw [Int.natAbs_natCast]
  have h1 := bl_le_iff.mp hk
  rw [h.fdiv, Int.natAbs_natCast] at h1
  have h2 := isqrt_le (n.natAbs / m.natAbs)
  have h3 : Float64.isqrt (n.natAbs / m.natAbs) < 2 ^ (k + 1) := Nat.lt_of_le_of_lt h2 h1
  unfold rtoN
  split
  · exact h3
  · exact Nat.or_lt_two_pow h3 (Nat.one_lt_pow (by omega) (by decide))
theorem Sg.mul {n m : Int} (h : Sg n m) {c : Int} (hc : 0 < c) : Sg n (m * c) := by
  rcases h with ⟨h1, h2⟩ | ⟨h1, h2⟩
  · exact .inl ⟨h1, Int.mul_pos h2 hc⟩
  · exact .inr ⟨h1, Int.mul_neg_of_neg_of_pos h2 hc⟩
theorem Sg.mul' {n m : Int} (h : Sg n m) {c : Int} (hc : 0 < c) : Sg (n * c) m := by
  rcases h with ⟨h1, h2⟩ | ⟨h1, h2⟩
  · exact .inl ⟨Int.mul_nonneg h1 (Int.le_of_lt hc), h2⟩
  · exact .inr ⟨Int.mul_nonpos_of_nonpos_of_nonneg h1 (Int.le_of_lt hc), h2⟩

/-- the exponent that _float_sqrt_of_frac takes -/
def fsQ (n m : Int) : Int := ((intBits n : Int) - (intBits m : Int) - 109) / 2
/-- what it divides, upper and lower number -/
def fsP (n m : Int) : Nat × Nat :=
  if 0 ≤ fsQ n m then (rtoN n.natAbs (m.natAbs * 2 ^ (2 * fsQ n m).toNat) * 2 ^ (fsQ n m).toNat, 1)
  else (rtoN (n.natAbs * 2 ^ (-2 * fsQ n m).toNat) m.natAbs, 2 ^ (-fsQ n m).toNat)
def fsF (n m : Int) : UInt64 := Float64.ofFrac false (fsP n m).1 (fsP n m).2

theorem natAbs_shl (a : Int) (k : Nat) : (a * 2 ^ k).natAbs = a.natAbs * 2 ^ k := by rw [Int.natAbs_mul, Int.natAbs_pow]; rfl

structure FsUp (n m q : Int) : Prop where
  fs : Sg n (m * 2 ^ (2 * q).toNat)
  fb : intBits (n.fdiv (m * 2 ^ (2 * q).toNat)) ≤ 13000
  fp : intBits (m * 2 ^ (2 * q).toNat) ≤ 9000 ∨ intBits n ≤ intBits (m * 2 ^ (2 * q).toNat) + 4000
  fm : intBits (m * 2 ^ (2 * q).toNat) ≤ 2 ^ 26
  fr : intBits ((rtoN n.natAbs (m * 2 ^ (2 * q).toNat).natAbs : Nat) : Int) ≤ 111
theorem fsUp {n m q : Int} (h : Sg n m) (hn : intBits n ≤ 2 ^ 24) (hm : intBits m ≤ 2 ^ 24) (e : q = ((intBits n : Int) - (intBits m : Int) - 109) / 2) (hq : 0 ≤ q) : FsUp n m q := by
  have e1 := bl_shl_eq h.ne (2 * q).toNat
  have s := h.mul (two_pow_pos' (2 * q).toNat)
  have b : intBits (n.fdiv (m * 2 ^ (2 * q).toNat)) ≤ 111 := bl_quot s (by omega)
  exact ⟨s, by omega, by omega, by omega, bl_rto s b⟩
structure FsDown (n m q : Int) : Prop where
  fs : Sg (n * 2 ^ (-2 * q).toNat) m
  fb : intBits ((n * 2 ^ (-2 * q).toNat).fdiv m) ≤ 13000
  fp : intBits m ≤ 9000 ∨ intBits (n * 2 ^ (-2 * q).toNat) ≤ intBits m + 4000
  fm : intBits m ≤ 2 ^ 26
  fr : intBits ((rtoN (n * 2 ^ (-2 * q).toNat).natAbs m.natAbs : Nat) : Int) ≤ 111
theorem fsDown {n m q : Int} (h : Sg n m) (hn : intBits n ≤ 2 ^ 24) (hm : intBits m ≤ 2 ^ 24) (e : q = ((intBits n : Int) - (intBits m : Int) - 109) / 2) (hq : ¬ 0 ≤ q) : FsDown n m q := by
  have s := h.mul' (two_pow_pos' (-2 * q).toNat)
  have e1 : intBits (n * 2 ^ (-2 * q).toNat) ≤ intBits m + 110 := by
    by_cases hz : n = 0
    · subst hz; rw [Int.zero_mul, bl_zero]; omega
    · rw [bl_shl_eq hz]; omega
  have b : intBits ((n * 2 ^ (-2 * q).toNat).fdiv m) ≤ 111 := bl_quot s (by omega)
  exact ⟨s, by omega, by omega, by omega, bl_rto s b⟩

theorem fsQ_bl {n m q : Int} (hn : intBits n ≤ 2 ^ 24) (hm : intBits m ≤ 2 ^ 24) (e : q = ((intBits n : Int) - (intBits m : Int) - 109) / 2) : intBits q ≤ 26 := bl_le (by omega)
theorem fsP_up {n m q : Int} (e : q = ((intBits n : Int) - (intBits m : Int) - 109) / 2) (hq : 0 ≤ q) : fsP n m = (rtoN n.natAbs (m * 2 ^ (2 * q).toNat).natAbs * 2 ^ q.toNat, 1) := by
  subst e
  unfold fsP fsQ
  rw [if_pos hq, natAbs_shl]
theorem fsP_down {n m q : Int} (e : q = ((intBits n : Int) - (intBits m : Int) - 109) / 2) (hq : ¬ 0 ≤ q) : fsP n m = (rtoN (n * 2 ^ (-2 * q).toNat).natAbs m.natAbs, 2 ^ (-q).toNat) := by
  subst e
  unfold fsP fsQ
  rw [if_neg hq, natAbs_shl]
theorem fsF_up {n m q : Int} (e : q = ((intBits n : Int) - (intBits m : Int) - 109) / 2) (hq : 0 ≤ q) :
    Float64.ofFrac false (((rtoN n.natAbs (m * 2 ^ (2 * q).toNat).natAbs : Nat) : Int) * 2 ^ q.toNat).natAbs (Int.natAbs 1) = fsF n m := by
  unfold fsF
  rw [fsP_up e hq, natAbs_shl]
  rfl
theorem fsF_down {n m q : Int} (e : q = ((intBits n : Int) - (intBits m : Int) - 109) / 2) (hq : ¬ 0 ≤ q) :
    Float64.ofFrac false ((rtoN (n * 2 ^ (-2 * q).toNat).natAbs m.natAbs : Nat) : Int).natAbs ((1 : Int) * 2 ^ (-q).toNat).natAbs = fsF n m := by
  unfold fsF
  rw [fsP_down e hq, natAbs_shl, Int.natAbs_natCast]
  simp
theorem fsP_pos (n m : Int) : 0 < (fsP n m).2 := by
  unfold fsP
  split
  · exact Nat.one_pos
  · exact Nat.pow_pos (by decide)

section
variable {prog : Program} {w : World} {A : Around} {E : Value → Shared → Prop} {s : Shared} {a b : Int} {t u : Tok} {Q : Value → Shared → Prop}
theorem tdivX (hA : A.handled = none) (ha : 0 ≤ a) (hb : 0 < b) (hf : Float64.isInf (Float64.ofFrac false a.natAbs b.natAbs) = false)
    (h : Q (.float (Float64.ofFrac false a.natAbs b.natAbs) s.toks) { s with toks := s.toks + 1 }) : wpAny (model prog w) A (binaryOp .Div (.int a t) (.int b u)) Q E s := by
  have e : (decide (a < 0) != decide (b < 0)) = false := by
    rw [decide_eq_false (Int.not_lt.mpr ha), decide_eq_false (Int.not_lt.mpr (Int.le_of_lt hb))]; rfl
  refine Flt.div_ii hA (fun h0 => absurd h0 (Int.ne_of_gt hb)) (fun _ hi => ?_) (fun _ _ => ?_)
  · rw [e, hf] at hi; cases hi
  · rw [e]; exact h
end
end
section
open PySem PySem.W PyProof.Rows
set_option Elab.async false
set_option maxRecDepth 100000
open PySem.Builtin.Int (intBits)
theorem ga_float : typeLookup (.type "float") "__getattribute__" = pure (some (.builtin "object.__getattribute__")) := by rw [typeLookup_type, builtinLookup_eq_fast]; kernel_rfl
theorem canon_ga_float : (Manifest.canonical "object.__getattribute__" != "object.__getattribute__") = false := by decide +kernel
theorem no_getattr_float : typeLookup (.type "float") "__getattr__" = pure none := by rw [typeLookup_type, builtinLookup_eq_fast]; kernel_rfl
section
variable {prog : Program} {w : World} {A : Around} {E : Value → Shared → Prop} {s : Shared} {x : UInt64} {t : Tok}
theorem getMethod_air {pl : Sem Bool} {Q : Value × List Value → Shared → Prop} (h : Q (.builtin "float.as_integer_ratio", [.float x t]) s) :
    wpAny (model prog w) A (getMethod (.float x t) (Str.ofString "as_integer_ratio") pl) Q E s :=
  getMethod_value (T := "float") (name := Str.ofString "as_integer_ratio") (ga := "object.__getattribute__") (id := "float.as_integer_ratio") rfl (by intro _ x; cases x) ga_float canon_ga_float no_getattr_float F.slot_float_as_integer_ratio.lookup F.type_float_as_integer_ratio h
theorem call_air {m : Nat} {e : Int} {p q : Nat} {h₀ : Heap} {L : Addr} {lm : Str → Option Value} {news : List (Addr × Obj)} {Q : Value → Shared → Prop}
    (Fm : Fr h₀ L s.heap lm) (N : News h₀ L s.heap news) (hd : Float64.decode x = .fin false m e) (hr : Float64.ratio m e = (p, q))
    (h : ∀ h' T tk, Fr h₀ L h' lm → News h₀ L h' ((T, { cls := .type "tuple", data := .seq #[.int (p : Int) s.toks, .int (q : Int) (s.toks + 1)] }) :: news) → (∀ p ∈ news, p.1 < T) → Q (.ref T) { s with heap := h', toks := tk }) :
    wpAny (model prog w) A (call (.builtin "float.as_integer_ratio") [.float x t]) Q E s := by
  refine wpAny_call_entry F.slot_float_as_integer_ratio rfl F.entry_float_as_integer_ratio ?_ (F.args_float_as_integer_ratio_1 _)
  show wpAny _ _ (match Float64.decode x with | .nan => _ | .inf _ => _ | .fin s m e => _) _ _ s
  rw [hd]
  dsimp only
  rw [hr]
  dsimp only
  refine wpAny_bind (wpAny_mkInt (wpAny_bind (wpAny_mkInt (wpAny_bind (wpAny_newTuple ?_)))))
  refine wpAny_pure ⟨_, rfl, ?_⟩
  exact h _ _ _ (Fm.push _) (N.push Fm _) (fun p hp => Heap.lt_size (N p hp).1)
end
section
variable {prog : Program} {w : World} {A : Around} {E : Value → Shared → Prop} {s : Shared} {a b c n : Int} {t u : Tok} {Q : Value → Shared → Prop}
theorem mulE (he : a * b = c) (hm : intBits a + intBits b ≤ 2 ^ 27) (h : Q (.int c s.toks) { s with toks := s.toks + 1 }) : wpAny (model prog w) A (binaryOp .Mult (.int a t) (.int b u)) Q E s := by
  subst he; exact mulX hm h
theorem divE (he : a / b = c) (hb : 0 < b) (hp : intBits b ≤ 9000 ∨ intBits a ≤ intBits b + 4000) (h : Q (.int c s.toks) { s with toks := s.toks + 1 }) : wpAny (model prog w) A (binaryOp .FloorDiv (.int a t) (.int b u)) Q E s := by
  subst he; exact divX hb hp h
theorem modE (he : a % b = c) (hb : 0 < b) (h : Q (.int c s.toks) { s with toks := s.toks + 1 }) : wpAny (model prog w) A (binaryOp .Mod (.int a t) (.int b u)) Q E s := by
  subst he; exact modX hb h
theorem powE (he : a ^ n.toNat = c) (hn : 0 ≤ n) (hm : (intBits a : Int) * n ≤ 2 ^ 27) (h : Q (.int c s.toks) { s with toks := s.toks + 1 }) : wpAny (model prog w) A (binaryOp .Pow (.int a t) (.int n u)) Q E s := by
  subst he; exact powX hn hm h
theorem shlE (he : a * 2 ^ n.toNat = c) (hn : 0 ≤ n) (hm : (intBits a : Int) + n ≤ 2 ^ 27) (h : Q (.int c s.toks) { s with toks := s.toks + 1 }) : wpAny (model prog w) A (binaryOp .LShift (.int a t) (.int n u)) Q E s := by
  subst he; exact shlX hn hm h
theorem shrE (he : a / 2 ^ n.toNat = c) (hn : 0 ≤ n) (h : Q (.int c s.toks) { s with toks := s.toks + 1 }) : wpAny (model prog w) A (binaryOp .RShift (.int a t) (.int n u)) Q E s := by
  subst he; exact shrX hn h
theorem addE (he : a + b = c) (h : Q (.int c s.toks) { s with toks := s.toks + 1 }) : wpAny (model prog w) A (binaryOp .Add (.int a t) (.int b u)) Q E s := by
  subst he; exact add_int h
theorem subE (he : a - b = c) (h : Q (.int c s.toks) { s with toks := s.toks + 1 }) : wpAny (model prog w) A (binaryOp .Sub (.int a t) (.int b u)) Q E s := by
  subst he; exact sub_int h
theorem absE (he : (if a < 0 then -a else a) = c) (h : ∀ u tk, Q (.int c u) { s with toks := tk }) : wpAny (model prog w) A (call (.builtin "abs") [.int a t]) Q E s := by
  subst he; exact call_abs_int h
end
end
section
open PySem PySem.W PyProof.Rows
set_option Elab.async false
set_option exponentiation.threshold 300
open PySem.Builtin.Int (intBits)
open Float64 (V roundUn infMag)

theorem or_one (a : Nat) : (a % 2 = 0 → a ||| 1 = a + 1) ∧ (a % 2 = 1 → a ||| 1 = a) := by
  constructor
  · intro h
    have h1 : a = 2 * (a / 2) := by omega
    have h2 := Nat.two_pow_add_eq_or_of_lt (i := 1) (b := 1) (by decide) (a / 2)
    rw [h1]
    simp only [Nat.pow_one] at h2
    exact h2.symm
  · intro h
    have h1 : a = 2 * (a / 2) + 1 := by omega
    have h2 := Nat.two_pow_add_eq_or_of_lt (i := 1) (b := 1) (by decide) (a / 2)
    simp only [Nat.pow_one] at h2
    rw [h1, h2, Nat.or_assoc, Nat.or_self]

theorem sq_lt {a b : Nat} (h : a < b) : a * a < b * b := Nat.mul_lt_mul'' h h
theorem sq_le {a b : Nat} (h : a ≤ b) : a * a ≤ b * b := Nat.mul_le_mul h h
/-- rounding to odd tells on which side of an even number the root lies -/
theorem rto_cmp {N M : Nat} (hM : 0 < M) {y : Nat} (hy : y % 2 = 0) :
    (rtoN N M < y ↔ N < y * y * M) ∧ (y < rtoN N M ↔ y * y * M < N) := by
  obtain ⟨h1, h2⟩ := Float64.isqrt_spec (N / M)
  unfold rtoN
  generalize Float64.isqrt (N / M) = a at *
  have h1' : a * a * M ≤ N := Nat.le_trans (Nat.mul_le_mul_right _ h1) (Nat.div_mul_le_self N M)
  have h2' : N < (a + 1) * (a + 1) * M := (Nat.div_lt_iff_lt_mul hM).mp h2
  have mono : ∀ {b c : Nat}, b ≤ c → b * b * M ≤ c * c * M := fun h => Nat.mul_le_mul_right _ (sq_le h)
  have smono : ∀ {b c : Nat}, b < c → b * b * M < c * c * M := fun h => Nat.mul_lt_mul_of_pos_right (sq_lt h) hM
  by_cases he : a * a * M = N
  · rw [if_pos he]
    constructor
    · constructor
      · intro h; rw [← he]; exact smono h
      · intro h; exact Nat.lt_of_not_le fun h' => Nat.not_le.mpr h (by rw [← he]; exact mono h')
    · constructor
      · intro h; rw [← he]; exact smono h
      · intro h; exact Nat.lt_of_not_le fun h' => Nat.not_le.mpr h (by rw [← he]; exact mono h')
  · rw [if_neg he]
    have key1 : a < y ↔ N < y * y * M := by
      constructor
      · intro h; exact Nat.lt_of_lt_of_le h2' (mono h)
      · intro h; exact Nat.lt_of_not_le fun h' => Nat.not_le.mpr h (Nat.le_trans (mono h') h1')
    have key2 : y ≤ a ↔ y * y * M < N := by
      constructor
      · intro h; exact Nat.lt_of_le_of_ne (Nat.le_trans (mono h) h1') (fun e => by
          have : y = a := Nat.le_antisymm h (Nat.le_of_not_lt fun h' => Nat.not_le.mpr h2' (Nat.le_of_eq (by
            exact absurd (Nat.lt_of_lt_of_le (smono h') (by rw [e]; exact h1')) (Nat.lt_irrefl _)) ))
          subst this
          exact he e)
      · intro h; exact Nat.le_of_not_lt fun h' => Nat.not_le.mpr h (Nat.le_of_lt (key1.mp h'))
    rw [← key1, ← key2]
    obtain ⟨o1, o2⟩ := or_one a
    rcases Nat.mod_two_eq_zero_or_one a with h | h
    · rw [o1 h]; omega
    · rw [o2 h]; omega

/-- the sum of two neighbours in the row of floats: twice the middle between them -/
def S (j : Nat) : Nat := V j + V (j + 1)
theorem S_form (j : Nat) : ∃ k p, p < 2 ^ 53 ∧ S j = (2 * p + 1) * 2 ^ k := by
  obtain ⟨k, q, ht, hq, hor, hV⟩ := Float64.V_form j
  have e : j + 1 = k * 2 ^ 52 + (q + 1) := by omega
  have h2 := Float64.V_at (k := k) (q := q + 1) (by omega) (by omega)
  refine ⟨k, q, hq, ?_⟩
  unfold S
  rw [hV, e, h2, ← Nat.add_mul]
  congr 1
  omega
theorem S_lt {i j : Nat} (h : i < j) : S i < S j := by
  have h1 := Float64.V_lt h
  have h2 := Float64.V_lt (Nat.succ_lt_succ h)
  unfold S
  exact Nat.add_lt_add h1 h2
theorem S_le {i j : Nat} (h : i ≤ j) : S i ≤ S j := by
  rcases Nat.lt_or_eq_of_le h with h | h
  · exact Nat.le_of_lt (S_lt h)
  · rw [h]; exact Nat.le_refl _

theorem grid {N M r α β p k : Nat} (hM : 0 < M) (hr : r = rtoN N M) (hbig : 2 ^ 108 * M ≤ N) (hp : p < 2 ^ 53) :
    (r * 2 ^ α < (2 * p + 1) * 2 ^ k * 2 ^ β ↔ N * (2 ^ α * 2 ^ α) < M * ((2 * p + 1) * 2 ^ k * 2 ^ β * ((2 * p + 1) * 2 ^ k * 2 ^ β))) ∧
    ((2 * p + 1) * 2 ^ k * 2 ^ β < r * 2 ^ α ↔ M * ((2 * p + 1) * 2 ^ k * 2 ^ β * ((2 * p + 1) * 2 ^ k * 2 ^ β)) < N * (2 ^ α * 2 ^ α)) := by
  subst hr
  have hA : 0 < 2 ^ α := Nat.two_pow_pos α
  by_cases hk : α + 1 ≤ k + β
  · obtain ⟨y, hy, hy2⟩ : ∃ y, (2 * p + 1) * 2 ^ k * 2 ^ β = y * 2 ^ α ∧ y % 2 = 0 := by
      refine ⟨(2 * p + 1) * 2 ^ (k + β - α), ?_, ?_⟩
      · rw [Nat.mul_assoc, Nat.mul_assoc, ← Nat.pow_add, ← Nat.pow_add]
        congr 2
        omega
      · have e : k + β - α = (k + β - α - 1) + 1 := by omega
        rw [e, Nat.pow_succ, ← Nat.mul_assoc]
        exact Nat.mul_mod_left _ 2
    rw [hy]
    obtain ⟨c1, c2⟩ := rto_cmp (N := N) hM hy2
    have e1 : M * (y * 2 ^ α * (y * 2 ^ α)) = y * y * M * (2 ^ α * 2 ^ α) := by
      generalize 2 ^ α = b
      simp only [Nat.mul_assoc, Nat.mul_comm, Nat.mul_left_comm]
    rw [e1, Nat.mul_lt_mul_right hA, Nat.mul_lt_mul_right hA, Nat.mul_lt_mul_right (Nat.mul_pos hA hA), Nat.mul_lt_mul_right (Nat.mul_pos hA hA)]
    exact ⟨c1, c2⟩
  · -- the middle lies below
    have hs : (2 * p + 1) * 2 ^ k * 2 ^ β < 2 ^ 54 * 2 ^ α := by
      rw [Nat.mul_assoc, ← Nat.pow_add]
      refine Nat.lt_of_lt_of_le (Nat.mul_lt_mul_of_pos_right (show 2 * p + 1 < 2 ^ 54 by omega) (Nat.two_pow_pos _)) ?_
      exact Nat.mul_le_mul_left _ (Nat.pow_le_pow_right (by decide) (by omega))
    have hr : 2 ^ 54 ≤ rtoN N M := by
      have c := (rto_cmp (N := N) hM (y := 2 ^ 54) (by decide)).1
      refine Nat.le_of_not_lt fun h => ?_
      have h' := c.mp h
      have e : (2 : Nat) ^ 54 * 2 ^ 54 = 2 ^ 108 := by decide
      rw [e] at h'
      omega
    generalize hy : (2 * p + 1) * 2 ^ k * 2 ^ β = y at *
    have h1 : y < rtoN N M * 2 ^ α := Nat.lt_of_lt_of_le hs (Nat.mul_le_mul_right _ hr)
    have h2 : M * (y * y) < N * (2 ^ α * 2 ^ α) := by
      have h3 : y * y < 2 ^ 108 * (2 ^ α * 2 ^ α) := by
        have h4 := sq_lt hs
        have e : 2 ^ 54 * 2 ^ α * (2 ^ 54 * 2 ^ α) = 2 ^ 108 * (2 ^ α * 2 ^ α) := by
          have e : (2 : Nat) ^ 108 = 2 ^ 54 * 2 ^ 54 := by decide
          rw [e]
          generalize 2 ^ α = b
          simp only [Nat.mul_assoc, Nat.mul_comm, Nat.mul_left_comm]
        rwa [e] at h4
      refine Nat.lt_of_lt_of_le (Nat.mul_lt_mul_of_pos_left h3 hM) ?_
      rw [← Nat.mul_assoc, Nat.mul_comm M]
      exact Nat.mul_le_mul_right _ hbig
    exact ⟨⟨fun h => absurd h (Nat.not_lt.mpr (Nat.le_of_lt h1)), fun h => absurd h (Nat.not_lt.mpr (Nat.le_of_lt h2))⟩, ⟨fun _ => h2, fun _ => h1⟩⟩

theorem ratio_big {n m : Int} (hn : n ≠ 0) {c d : Nat} (h : intBits m + c + 1 ≤ intBits n + d) : 2 ^ c * m.natAbs ≤ n.natAbs * 2 ^ d := by
  have h1 := bl_ge hn
  have h2 := bl_lt m
  have h3 := bl_pos hn
  have h4 : 2 ^ c * m.natAbs ≤ 2 ^ (c + intBits m) := by
    rw [Nat.pow_add]
    exact Nat.mul_le_mul_left _ (Nat.le_of_lt h2)
  refine Nat.le_trans h4 (Nat.le_trans (Nat.pow_le_pow_right (n := 2) (by decide) (show c + intBits m ≤ intBits n - 1 + d by omega)) ?_)
  rw [Nat.pow_add]
  exact Nat.mul_le_mul_right _ h1

theorem fs_cmp {n m : Int} (hn : n ≠ 0) (hm : m ≠ 0) (j : Nat) :
    ((fsP n m).1 * 2 ^ 1075 < (fsP n m).2 * S j ↔ n.natAbs * (2 ^ 1075 * 2 ^ 1075) < m.natAbs * (S j * S j)) ∧
    ((fsP n m).2 * S j < (fsP n m).1 * 2 ^ 1075 ↔ m.natAbs * (S j * S j) < n.natAbs * (2 ^ 1075 * 2 ^ 1075)) := by
  obtain ⟨k, p, hp, hS⟩ := S_form j
  have hN : 0 < n.natAbs := by omega
  have hM : 0 < m.natAbs := by omega
  unfold fsP
  have hqe : fsQ n m = ((intBits n : Int) - (intBits m : Int) - 109) / 2 := rfl
  generalize fsQ n m = q at *
  by_cases hq : 0 ≤ q
  · rw [if_pos hq]
    dsimp only
    obtain ⟨a, rfl⟩ := Int.eq_ofNat_of_zero_le hq
    have e2 : (2 * (a : Int)).toNat = 2 * a := by omega
    rw [e2, Int.toNat_natCast]
    have hb := ratio_big (m := m) (c := 108 + 2 * a) (d := 0) hn (by omega)
    rw [Nat.pow_zero, Nat.mul_one, Nat.pow_add, Nat.mul_assoc, Nat.mul_comm (2 ^ (2 * a))] at hb
    have g := grid (α := a + 1075) (β := 0) (k := k) (Nat.mul_pos hM (Nat.two_pow_pos (2 * a))) rfl hb hp
    rw [Nat.pow_zero, Nat.mul_one, ← hS] at g
    rw [Nat.one_mul, Nat.mul_assoc, ← Nat.pow_add]
    have e3 : n.natAbs * (2 ^ (a + 1075) * 2 ^ (a + 1075)) = 2 ^ (2 * a) * (n.natAbs * (2 ^ 1075 * 2 ^ 1075)) := by
      rw [Nat.two_mul, Nat.pow_add, Nat.pow_add]
      generalize 2 ^ a = x
      generalize 2 ^ 1075 = y
      simp only [Nat.mul_assoc, Nat.mul_comm, Nat.mul_left_comm]
    have e4 : m.natAbs * 2 ^ (2 * a) * (S j * S j) = 2 ^ (2 * a) * (m.natAbs * (S j * S j)) := by
      rw [Nat.mul_comm m.natAbs, Nat.mul_assoc]
    rw [e3, e4, Nat.mul_lt_mul_left (Nat.two_pow_pos _), Nat.mul_lt_mul_left (Nat.two_pow_pos _)] at g
    exact g
  · rw [if_neg hq]
    dsimp only
    obtain ⟨a, ha⟩ := Int.eq_ofNat_of_zero_le (show 0 ≤ -q by omega)
    have e1 : (-q).toNat = a := by omega
    have e2 : (-2 * q).toNat = 2 * a := by omega
    rw [e1, e2]
    have hb := ratio_big (m := m) (c := 108) (d := 2 * a) hn (by omega)
    have g := grid (α := 1075) (β := a) (k := k) hM rfl hb hp
    rw [← hS] at g
    have e3 : n.natAbs * 2 ^ (2 * a) * (2 ^ 1075 * 2 ^ 1075) = 2 ^ (2 * a) * (n.natAbs * (2 ^ 1075 * 2 ^ 1075)) := by
      rw [Nat.mul_comm n.natAbs, Nat.mul_assoc]
    have e4 : m.natAbs * (S j * 2 ^ a * (S j * 2 ^ a)) = 2 ^ (2 * a) * (m.natAbs * (S j * S j)) := by
      rw [Nat.two_mul, Nat.pow_add]
      generalize 2 ^ a = x
      simp only [Nat.mul_assoc, Nat.mul_comm, Nat.mul_left_comm]
    rw [e3, e4, Nat.mul_lt_mul_left (Nat.two_pow_pos _), Nat.mul_lt_mul_left (Nat.two_pow_pos _), Nat.mul_comm (S j)] at g
    exact g

/-- the place, in the row of all floats, of what _float_sqrt_of_frac tells -/
def fsT (n m : Int) : Nat := roundUn (fsP n m).1 (fsP n m).2

/-- where the root of N / M lies as to the middles about t, W W standing for 2 ^ 2150 -/
structure At (N M W t : Nat) : Prop where
  up : N * (W * W) ≤ M * (S t * S t)
  upE : N * (W * W) = M * (S t * S t) → t % 2 = 0
  dn : ∀ i, t = i + 1 → M * (S i * S i) ≤ N * (W * W)
  dnE : ∀ i, t = i + 1 → M * (S i * S i) = N * (W * W) → t % 2 = 0

theorem near_up {W x y : Nat} (h : Float64.dist W x ≤ Float64.dist W y) (hxy : x < y) : 2 * W ≤ x + y := by
  unfold Float64.dist at h; omega
theorem near_dn {W x y : Nat} (h : Float64.dist W x ≤ Float64.dist W y) (hxy : y < x) : y + x ≤ 2 * W := by
  unfold Float64.dist at h; omega
theorem near_eq {W x y : Nat} (h : 2 * W = x + y) : Float64.dist W x = Float64.dist W y := by
  unfold Float64.dist; omega

theorem fs_at {n m : Int} (h : Sg n m) : At n.natAbs m.natAbs (2 ^ 1075) (fsT n m) := by
  by_cases hn : n = 0
  · subst hn
    have e0 : (fsP 0 m).1 = 0 := by
      unfold fsP
      split <;> simp [rtoN, show Float64.isqrt 0 = 0 from rfl]
    have e : fsT 0 m = 0 := by
      unfold fsT
      rw [e0]
      unfold Float64.roundUn
      simp
    rw [e]
    exact ⟨by simp, fun _ => rfl, fun i hi => absurd hi (by omega), fun i hi => absurd hi (by omega)⟩
  · have hr := Float64.roundUn_right (n := (fsP n m).1) (d := (fsP n m).2) (fsP_pos n m)
    have hc := fs_cmp hn h.ne
    have hd := fsP_pos n m
    unfold fsT
    generalize (fsP n m).1 = u at *
    generalize (fsP n m).2 = d at *
    generalize roundUn u d = T at *
    have e2 : u * 2 ^ 1075 = 2 * (u * 2 ^ 1074) := by
      rw [Nat.pow_succ 2 1074, ← Nat.mul_assoc, Nat.mul_comm]
    have V1 : ∀ i j, i < j → d * V i < d * V j := fun i j hij => Nat.mul_lt_mul_of_pos_left (Float64.V_lt hij) hd
    have up : 2 * (u * 2 ^ 1074) ≤ d * S T := by
      unfold S; rw [Nat.mul_add]; exact near_up (hr (T + 1)).1 (V1 _ _ (Nat.lt_succ_self T))
    have upE : 2 * (u * 2 ^ 1074) = d * S T → T % 2 = 0 := by
      intro e
      unfold S at e; rw [Nat.mul_add] at e
      exact (hr (T + 1)).2 (Nat.ne_of_gt (Float64.V_lt (Nat.lt_succ_self T))) (near_eq e)
    have dn : ∀ i, T = i + 1 → d * S i ≤ 2 * (u * 2 ^ 1074) := by
      intro i hi
      subst hi
      unfold S; rw [Nat.mul_add]; exact near_dn (hr i).1 (V1 _ _ (Nat.lt_succ_self i))
    have dnE : ∀ i, T = i + 1 → d * S i = 2 * (u * 2 ^ 1074) → T % 2 = 0 := by
      intro i hi e
      subst hi
      unfold S at e; rw [Nat.mul_add] at e
      exact (hr i).2 (Nat.ne_of_lt (Float64.V_lt (Nat.lt_succ_self i))) (near_eq (by omega))
    rw [e2] at hc
    clear e2
    generalize (2 : Nat) ^ 1075 = W at *
    refine ⟨?_, fun e => ?_, fun i hi => ?_, fun i hi e => ?_⟩
    · exact Nat.le_of_not_lt fun h' => Nat.not_lt.mpr up ((hc T).2.mpr h')
    · refine upE (Nat.le_antisymm up (Nat.le_of_not_lt fun h' => ?_))
      exact Nat.lt_irrefl _ (e ▸ (hc T).1.mp h')
    · exact Nat.le_of_not_lt fun h' => Nat.not_lt.mpr (dn i hi) ((hc i).1.mpr h')
    · refine dnE i hi (Nat.le_antisymm (dn i hi) (Nat.le_of_not_lt fun h' => ?_))
      exact Nat.lt_irrefl _ (e ▸ (hc i).2.mp h')

theorem At.unique {N M W t t' : Nat} (hM : 0 < M) (a : At N M W t) (b : At N M W t') : t = t' := by
  have key : ∀ {t t' : Nat}, At N M W t → At N M W t' → t < t' → False := by
    intro t t' a b hlt
    obtain ⟨i, rfl⟩ : ∃ i, t' = i + 1 := ⟨t' - 1, by omega⟩
    have h1 := b.dn i rfl
    have h2 : S t ≤ S i := S_le (by omega)
    have h3 : M * (S t * S t) ≤ M * (S i * S i) := Nat.mul_le_mul_left _ (sq_le h2)
    have h4 : N * (W * W) = M * (S t * S t) := Nat.le_antisymm a.up (Nat.le_trans h3 h1)
    have h5 : M * (S i * S i) = N * (W * W) := Nat.le_antisymm h1 (by rw [h4]; exact h3)
    have h6 := a.upE h4
    have h7 := b.dnE i rfl h5
    have h8 : M * (S t * S t) = M * (S i * S i) := by rw [h5, h4]
    have h9 : S t * S t = S i * S i := Nat.eq_of_mul_eq_mul_left hM h8
    have h10 : t = i := by
      rcases Nat.lt_trichotomy t i with h | h | h
      · exact absurd h9 (Nat.ne_of_lt (sq_lt (S_lt h)))
      · exact h
      · exact absurd h9 (Nat.ne_of_gt (sq_lt (S_lt h)))
    omega
  rcases Nat.lt_trichotomy t t' with h | h | h
  · exact (key a b h).elim
  · exact h
  · exact (key b a h).elim

theorem fsT_eq {n m : Int} (h : Sg n m) {t : Nat} (a : At n.natAbs m.natAbs (2 ^ 1075) t) : fsT n m = t :=
  At.unique (by have := h.ne; omega) (fs_at h) a

theorem fsF_eq (n m : Int) : fsF n m = Float64.pack false (min infMag (fsT n m)) := by
  unfold fsF Float64.ofFrac fsT
  rw [Float64.roundMag_min]
end
section
open PySem PySem.W PyProof.Rows
set_option Elab.async false
open PySem.Builtin.Int (intBits)
open Float64 (V roundUn infMag)

theorem V_norm {t : Nat} (h1 : 2 ^ 52 ≤ t) : V t = (2 ^ 52 + t % 2 ^ 52) * 2 ^ (t / 2 ^ 52 - 1) := by
  have h5 : 1 ≤ t / 2 ^ 52 := (Nat.le_div_iff_mul_le (by decide)).mpr (by simpa using h1)
  unfold Float64.V
  rw [if_neg (by omega)]
end
section
open PySem PySem.W PyProof.Rows
set_option Elab.async false
set_option exponentiation.threshold 5000
open PySem.Builtin.Int (intBits)
open Float64 (V roundUn infMag)

/-- the middles about a float that is no small one, in its own figures -/
theorem S_here {t : Nat} (h : 2 ^ 52 ≤ t) : 2 * S t = (4 * (2 ^ 52 + t % 2 ^ 52) + 2) * 2 ^ (t / 2 ^ 52 - 1) := by
  have h5 : 1 ≤ t / 2 ^ 52 := (Nat.le_div_iff_mul_le (by decide)).mpr (by simpa using h)
  have e : t + 1 = (t / 2 ^ 52 - 1) * 2 ^ 52 + (2 ^ 52 + t % 2 ^ 52 + 1) := by omega
  have hv : V (t + 1) = (2 ^ 52 + t % 2 ^ 52 + 1) * 2 ^ (t / 2 ^ 52 - 1) := by
    have := Float64.V_at (k := t / 2 ^ 52 - 1) (q := 2 ^ 52 + t % 2 ^ 52 + 1) (by omega) (by omega)
    rw [← e] at this
    exact this
  unfold S
  rw [V_norm h, hv, ← Nat.add_mul, ← Nat.mul_assoc]
  congr 1
  omega
theorem S_below {t i : Nat} (h : 2 ^ 53 ≤ t) (hi : t = i + 1) :
    2 * S i = (4 * (2 ^ 52 + t % 2 ^ 52) - (if 2 ^ 52 + t % 2 ^ 52 = 2 ^ 52 then 1 else 2)) * 2 ^ (t / 2 ^ 52 - 1) := by
  have h5 : 2 ≤ t / 2 ^ 52 := (Nat.le_div_iff_mul_le (by decide)).mpr (by simpa using h)
  by_cases hz : t % 2 ^ 52 = 0
  · rw [if_pos (by omega)]
    have e : i = (t / 2 ^ 52 - 2) * 2 ^ 52 + (2 ^ 53 - 1) := by omega
    have hv : V i = (2 ^ 53 - 1) * 2 ^ (t / 2 ^ 52 - 2) := by
      have := Float64.V_at (k := t / 2 ^ 52 - 2) (q := 2 ^ 53 - 1) (by omega) (by omega)
      rw [← e] at this
      exact this
    have hP : (2 : Nat) ^ (t / 2 ^ 52 - 1) = 2 ^ (t / 2 ^ 52 - 2) * 2 := by
      rw [← Nat.pow_succ]; congr 1; omega
    have ht : V t = 2 ^ 53 * 2 ^ (t / 2 ^ 52 - 2) := by
      rw [V_norm (by omega), hz, hP]
      omega
    unfold S
    rw [← hi, hv, ht, hz, hP]
    omega
  · rw [if_neg (by omega)]
    have e : i = (t / 2 ^ 52 - 1) * 2 ^ 52 + (2 ^ 52 + t % 2 ^ 52 - 1) := by omega
    have hv : V i = (2 ^ 52 + t % 2 ^ 52 - 1) * 2 ^ (t / 2 ^ 52 - 1) := by
      have := Float64.V_at (k := t / 2 ^ 52 - 1) (q := 2 ^ 52 + t % 2 ^ 52 - 1) (by omega) (by omega)
      rw [← e] at this
      exact this
    unfold S
    rw [← hi, hv, V_norm (by omega), ← Nat.add_mul, ← Nat.mul_assoc]
    congr 1
    omega

theorem V_top : 2 ^ 2097 ≤ V (infMag - 1) := by
  have e : infMag - 1 = 2045 * 2 ^ 52 + (2 ^ 53 - 1) := by unfold infMag; omega
  rw [e, Float64.V_at (by omega) (by omega)]
  have : (2 : Nat) ^ 2097 = 2 ^ 52 * 2 ^ 2045 := by rw [← Nat.pow_add]
  rw [this]
  exact Nat.mul_le_mul_right _ (by decide)

/-- between the greatest floats and the small ones -/
theorem fsT_range {n m : Int} (hs : Sg n m) (hn : n ≠ 0) (h1 : intBits n ≤ 2040) (h2 : intBits m ≤ 1010) : 2 ^ 53 ≤ fsT n m ∧ fsT n m < infMag := by
  have a := fs_at hs
  have hN : n.natAbs < 2 ^ 2040 := bl_le_iff.mp h1
  have hM : m.natAbs < 2 ^ 1010 := bl_le_iff.mp h2
  have hN0 : 0 < n.natAbs := by omega
  have hM0 : 0 < m.natAbs := by have := hs.ne; omega
  generalize n.natAbs = N at *
  generalize m.natAbs = M at *
  generalize fsT n m = T at *
  constructor
  · refine Nat.le_of_not_lt fun h => ?_
    have h3 : S T ≤ 2 ^ 55 := by
      have h4 : S T ≤ S (2 ^ 53 - 1) := S_le (by omega)
      have h5 : S (2 ^ 53 - 1) ≤ 2 ^ 55 := by decide +kernel
      exact Nat.le_trans h4 h5
    have h4 : N * (2 ^ 1075 * 2 ^ 1075) ≤ 2 ^ 1010 * (2 ^ 55 * 2 ^ 55) := Nat.le_trans a.up (Nat.mul_le_mul (Nat.le_of_lt hM) (sq_le h3))
    have h5 : 2 ^ 1075 * 2 ^ 1075 ≤ N * (2 ^ 1075 * 2 ^ 1075) := Nat.le_mul_of_pos_left _ hN0
    have h6 := Nat.le_trans h5 h4
    rw [← Nat.pow_add, ← Nat.pow_add, ← Nat.pow_add] at h6
    exact absurd ((Nat.pow_le_pow_iff_right (a := 2) (by decide)).mp h6) (by decide)
  · refine Nat.lt_of_not_le fun h => ?_
    have hi : 1 ≤ infMag := by decide
    have h3 := a.dn (T - 1) (by omega)
    have h4 : 2 ^ 2097 ≤ S (T - 1) := by
      refine Nat.le_trans V_top (Nat.le_trans ?_ (S_le (show infMag - 1 ≤ T - 1 by omega)))
      exact Nat.le_add_right _ _
    have h5 : 2 ^ 2097 * 2 ^ 2097 ≤ N * (2 ^ 1075 * 2 ^ 1075) := Nat.le_trans (sq_le h4) (Nat.le_trans (Nat.le_mul_of_pos_left _ hM0) h3)
    have h6 : N * (2 ^ 1075 * 2 ^ 1075) < 2 ^ 2040 * (2 ^ 1075 * 2 ^ 1075) := Nat.mul_lt_mul_of_pos_right hN (Nat.mul_pos (Nat.two_pow_pos _) (Nat.two_pow_pos _))
    have h7 := Nat.lt_of_le_of_lt h5 h6
    rw [← Nat.pow_add, ← Nat.pow_add, ← Nat.pow_add] at h7
    exact absurd ((Nat.pow_lt_pow_iff_right (a := 2) (by decide)).mp h7) (by decide)

theorem isInf_at {t : Nat} (h : t < infMag) : Float64.isInf (Float64.pack false t) = false := by
  obtain ⟨m, e, hd, _⟩ := Float64.decode_pack false h
  unfold Float64.isInf
  rw [hd]
end
section
open PySem PySem.W PyProof.Rows
set_option Elab.async false
set_option exponentiation.threshold 5000
open PySem.Builtin.Int (intBits)
open Float64 (infMag)
theorem bl_two : intBits 2 = 2 := by decide
end
section
open PySem PySem.W PyProof.Rows PySem.Calls PyProof.V PySem.Spec
set_option Elab.async false
open PySem.Builtin.Int (intBits)

/-- a turn's end: all that stood at its start stands, the frame is as J says -/
def TE (h₀ : Heap) (L : Addr) (J : (Str → Option Value) → Prop) (all : List (Addr × Obj)) (s₁ s₂ : Shared) : Prop :=
  ∃ h' tk m', s₂ = { s₁ with heap := h', toks := tk } ∧ Fr h₀ L h' m' ∧ News h₀ L h' all ∧ J m'
def TP (h₀ : Heap) (L : Addr) (J : (Str → Option Value) → Prop) (all : List (Addr × Obj)) (s₁ : Shared) (Q : Flow → Shared → Prop) (f : Flow) (s₂ : Shared) : Prop :=
  match f with
  | .ret v => Q (.ret v) s₂
  | .brk => Q .next s₂
  | _ => TE h₀ L J all s₁ s₂
theorem TP.next {h₀ : Heap} {L : Addr} {J : (Str → Option Value) → Prop} {all all' : List (Addr × Obj)} {s₁ : Shared} {Q : Flow → Shared → Prop} {h' : Heap} {tk : Nat} {m' : Str → Option Value}
    (F : Fr h₀ L h' m') (N : News h₀ L h' all') (hs : ∀ p ∈ all, p ∈ all') (hJ : J m') : TP h₀ L J all s₁ Q .next { s₁ with heap := h', toks := tk } :=
  ⟨h', tk, m', rfl, F, fun p hp => N p (hs p hp), hJ⟩

section
variable {prog : Program} {w : World} {A : Around} {E : Value → Shared → Prop} {s : Shared} {env : Env} {h₀ : Heap} {target : Expr} {body : List Stmt} {Q : Flow → Shared → Prop}

theorem turns_inv {I : Addr} {fp wr : List Addr} {n : Nat} {P Md : Nat → Value → Heap → Prop} {St : Nat → Heap → Prop} {m₀ : Str → Option Value} {news : List (Addr × Obj)} {hp : Heap} {tk0 : Nat}
    (W : KTurns prog w A target I fp wr n P Md St) (hL : env.locals ∉ fp) (hwr : ∀ b ∈ wr, h₀.get? b = none) (hnw : ∀ p ∈ news, p.1 ∉ wr) (hst : St 0 hp)
    (F : Fr h₀ env.locals hp m₀) (N : News h₀ env.locals hp news) (J : Nat → (Str → Option Value) → Prop) (h0 : J 0 m₀)
    (turn : ∀ i v m₁ h tk own, i < n → P i v h → J i m₁ → Fr h₀ env.locals h m₁ → News h₀ env.locals h (news ++ own) →
      wpAny (model prog w) A (assign target env v) (fun _ s₃ => wpAny (model prog w) A (execs body env) (TP h₀ env.locals (J (i + 1)) (news ++ own) { s with heap := h, toks := tk } Q) E s₃) E { s with heap := h, toks := tk })
    (done : ∀ m₁ h tk, J n m₁ → Fr h₀ env.locals h m₁ → News h₀ env.locals h news → Q .next { s with heap := h, toks := tk }) :
    TurnsAt prog w A h₀ env target body Q E (.ref I) { s with heap := hp, toks := tk0 } := by
  refine ⟨I, fp, wr, n, P, Md, St, m₀, news, (fun i m nx => nx = news ∧ J i m), rfl, W, hL, hwr, hnw, hst, F, N, ⟨rfl, h0⟩, ?_, ?_⟩
  · rintro i v m₁ news₁ h₁ tk₁ own hin hP ⟨rfl, hJ⟩ hoff hown hget hall hst₁ F₁ N₁
    have N₂ : News h₀ env.locals h₁ (news₁ ++ own) := fun p hp => N₁ p ((List.mem_append.mp hp).elim (fun h => List.mem_append.mpr (.inr h)) fun h => List.mem_append.mpr (.inl h))
    refine wpAny_mono (turn i v m₁ h₁ tk₁ own hin hP hJ F₁ N₂) (fun _ s₂ h₂ => wpAny_mono h₂ (fun f s₃ p => ?_) fun _ _ e => e) fun _ _ e => e
    have fin : TE h₀ env.locals (J (i + 1)) (news₁ ++ own) { s with heap := h₁, toks := tk₁ } s₃ → LoopStepU h₀ env.locals wr own (fun m nx => nx = news₁ ∧ J (i + 1) m) { s with heap := h₁, toks := tk₁ } .next s₃ := by
      rintro ⟨h', tk, m', e, F', N', hm⟩
      exact ⟨rfl, h', tk, m', news₁, e, F', fun p hp => N' p ((List.mem_append.mp hp).elim (fun h => List.mem_append.mpr (.inr h)) fun h => List.mem_append.mpr (.inl h)), hnw, rfl, hm⟩
    cases f with
    | ret v => exact .ret p
    | brk => exact .brk p
    | next => exact .next (fin p)
    | cont => exact .cont (fin p)
  · rintro h' tk m' news' F' N' _ ⟨rfl, hJ⟩
    exact done m' h' tk hJ F' N'

/-- over a list that the call has made, whatever the turns do but to what stands -/
theorem list_inv {ax : Addr} {lo : Obj} {vs : List Value} {n : Nat} {m₀ : Str → Option Value} {news : List (Addr × Obj)}
    (hh : A.handled = none) (F : Fr h₀ env.locals s.heap m₀) (N : News h₀ env.locals s.heap news) (hm : (ax, lo) ∈ news) (hc : lo.cls = .type "list") (hd : lo.data = .seq vs.toArray n)
    (J : Nat → (Str → Option Value) → Prop) (h0 : J 0 m₀)
    (turn : ∀ i v m₁ h tk own, vs[i]? = some v → J i m₁ → Fr h₀ env.locals h m₁ → News h₀ env.locals h (news ++ own) →
      wpAny (model prog w) A (assign target env v) (fun _ s₃ => wpAny (model prog w) A (execs body env) (TP h₀ env.locals (J (i + 1)) (news ++ own) { s with heap := h, toks := tk } Q) E s₃) E { s with heap := h, toks := tk })
    (done : ∀ m₁ h tk, J vs.length m₁ → Fr h₀ env.locals h m₁ → News h₀ env.locals h news → Q .next { s with heap := h, toks := tk }) :
    wpAny (model prog w) A (pyIter (.ref ax)) (fun it s₂ => TurnsAt prog w A h₀ env target body Q E it s₂) E s := by
  have hax := N _ hm
  have hl : s.heap.IsList ax vs.toArray := ⟨lo, hax.1, hc, n, hd⟩
  have hlt : ax < s.heap.objs.size := Heap.lt_size hax.1
  have hne : ax ≠ s.heap.objs.size := Nat.ne_of_lt hlt
  refine wpAny_pyIter_list hl ?_
  refine turns_inv (tk0 := s.toks) (s := s) (KTurns.ofWalks (Walks.list hh s.heap.objs.size ax hne vs.toArray) fun i v s Q E st q => letGo_listiter st.1 q) ?_ ?_ ?_ ?_ (F.push _) (fun p hp => ⟨Heap.get?_push_of_some _ (N p hp).1, (N p hp).2⟩) J h0 ?_ ?_
  · intro hI
    rcases List.mem_cons.mp hI with e | hI
    · exact absurd F.ns.lt (e ▸ Nat.lt_irrefl _)
    · exact hax.2.1 (List.mem_singleton.mp hI).symm
  · intro b hb
    rw [List.mem_singleton.mp hb]
    exact next_is_new F
  · intro p hp hI
    exact absurd (Heap.lt_size (N p hp).1) ((List.mem_singleton.mp hI) ▸ Nat.lt_irrefl _)
  · exact ⟨⟨_, Heap.get?_push_size _ rfl, rfl, rfl⟩, hl.at fun o e => Heap.get?_push_of_some _ e⟩
  · intro i v m₁ h tk own _ hP hJ F₁ N₁
    exact turn i v m₁ h tk own (by simpa using hP) hJ F₁ N₁
  · intro m₁ h tk hJ F₁ N₁
    have e : vs.toArray.size = vs.length := by simp
    rw [e] at hJ
    exact done m₁ h tk hJ F₁ N₁

end

/-- the names that stay as they were -/
def Keeps (keep : List Str) (m₀ m' : Str → Option Value) : Prop := keep.map m' = keep.map m₀
theorem Keeps.eq {keep : List Str} {m₀ m' : Str → Option Value} (h : Keeps keep m₀ m') : (fun y => if keep.contains y then m₀ y else m' y) = m' := by
  funext y
  by_cases hy : keep.contains y = true
  · rw [if_pos hy]
    have : ∀ z ∈ keep, m' z = m₀ z := by
      unfold Keeps at h
      exact fun z hz => List.map_inj_left.mp h z hz
    exact (this y (by simpa using hy)).symm
  · rw [if_neg hy]
section
variable {prog : Program} {w : World} {A : Around} {E : Value → Shared → Prop} {s : Shared} {env : Env} {h₀ : Heap} {target : Expr} {body : List Stmt} {Q : Flow → Shared → Prop}
theorem list_keep {ax : Addr} {lo : Obj} {vs : List Value} {n : Nat} {m₀ : Str → Option Value} {news : List (Addr × Obj)} (keep : List Str)
    (hh : A.handled = none) (F : Fr h₀ env.locals s.heap m₀) (N : News h₀ env.locals s.heap news) (hm : (ax, lo) ∈ news) (hc : lo.cls = .type "list") (hd : lo.data = .seq vs.toArray n)
    (turn : ∀ (i : Nat) v (m₁ : Str → Option Value) h tk own, vs[i]? = some v → Fr h₀ env.locals h (fun y => if keep.contains y then m₀ y else m₁ y) → News h₀ env.locals h (news ++ own) →
      wpAny (model prog w) A (assign target env v) (fun _ s₃ => wpAny (model prog w) A (execs body env) (TP h₀ env.locals (Keeps keep m₀) (news ++ own) { s with heap := h, toks := tk } Q) E s₃) E { s with heap := h, toks := tk })
    (done : ∀ (m₁ : Str → Option Value) h tk, Fr h₀ env.locals h (fun y => if keep.contains y then m₀ y else m₁ y) → News h₀ env.locals h news → Q .next { s with heap := h, toks := tk }) :
    wpAny (model prog w) A (pyIter (.ref ax)) (fun it s₂ => TurnsAt prog w A h₀ env target body Q E it s₂) E s :=
  list_inv hh F N hm hc hd (fun _ => Keeps keep m₀) rfl (fun i v m₁ h tk own hv hJ F₁ N₁ => turn i v m₁ h tk own hv (by rw [hJ.eq]; exact F₁) N₁)
    (fun m₁ h tk hJ F₁ N₁ => done m₁ h tk (by rw [hJ.eq]; exact F₁) N₁)
/-- an item of a list of ints at a place that is told -/
theorem item_at {value slice : Expr} {l : Addr} {vs : List Value} {ns : List Int} {k c : Int} {u : Tok} {Q : Value → Shared → Prop} (hl : s.heap.IsList l vs.toArray) (hi : IntsAre vs ns) (h0 : 0 ≤ k) (hk : k < 2 ^ 63) (hc : ns[k.toNat]? = some c)
    (h : ∀ t, Q (.int c t) s) (hs : subscripted slice false (.ref l) (.int k u) = operate [.ref l, .int k u] (getItem (.ref l) (.int k u)) := by with_unfolding_all rfl) :
    wpAny (model prog w) A (subscriptTail value slice (.ref l) (.int k u)) Q E s := by
  obtain ⟨t, ht⟩ := hi.get k.toNat c hc
  exact tail_any hl.typeIs slot_list_getitem.lookup (wpAny_getItem_list hl h0 hk (by simpa using ht) (h t)) hs
end
end
section
open PySem PySem.W PyProof.Rows
set_option Elab.async false
open PySem.Builtin.Int (intBits)
end
section
open PySem PySem.W PyProof.Rows PySem.Calls PyProof.V PySem.Spec
set_option Elab.async false
open PySem.Builtin.Int (intBits)
section
variable {prog : Program} {w : World} {A : Around} {E : Value → Shared → Prop} {s : Shared} {env : Env} {h₀ : Heap} {target : Expr} {body : List Stmt} {Q : Flow → Shared → Prop}

/-- as turns_inv; the iterator stands written in the ledger -/
theorem turns_one {I : Addr} {fp wr : List Addr} {n : Nat} {P Md : Nat → Value → Heap → Prop} {St : Nat → Heap → Prop} {m₀ : Str → Option Value} {news : List (Addr × Obj)} {hp : Heap} {tk0 : Nat} (keep : List Str)
    (W : KTurns prog w A target I fp wr n P Md St) (hL : env.locals ∉ fp) (hwr : ∀ b ∈ wr, h₀.get? b = none) (hnw : ∀ p ∈ news, p.1 ∉ wr) (hst : St 0 hp)
    (hfp : ∀ b ∈ fp, b = I ∨ ∃ o, (b, o) ∈ news) (hI : I ∈ fp) (hI0 : h₀.get? I = none) (hobj : ∀ i h, St i h → ∃ o, h.get? I = some o) (hlt : ∀ p ∈ news, p.1 < I)
    (F : Fr h₀ env.locals hp m₀) (N : News h₀ env.locals hp news)
    (turn : ∀ (I : Addr) (o : Obj) i v (m₁ : Str → Option Value) h tk, (∀ p ∈ news, p.1 < I) → i < n → P i v h → Fr h₀ env.locals h (fun y => if keep.contains y then m₀ y else m₁ y) → News h₀ env.locals h (news ++ [(I, o)]) →
      wpAny (model prog w) A (assign target env v) (fun _ s₃ => wpAny (model prog w) A (execs body env) (TP h₀ env.locals (Keeps keep m₀) (news ++ [(I, o)]) { s with heap := h, toks := tk } Q) E s₃) E { s with heap := h, toks := tk })
    (done : ∀ (m₁ : Str → Option Value) h tk, Fr h₀ env.locals h (fun y => if keep.contains y then m₀ y else m₁ y) → News h₀ env.locals h news → Q .next { s with heap := h, toks := tk }) :
    TurnsAt prog w A h₀ env target body Q E (.ref I) { s with heap := hp, toks := tk0 } := by
  refine ⟨I, fp, wr, n, P, Md, St, m₀, news, (fun _ m nx => nx = news ∧ Keeps keep m₀ m), rfl, W, hL, hwr, hnw, hst, F, N, ⟨rfl, rfl⟩, ?_, ?_⟩
  · rintro i v m₁ news₁ h₁ tk₁ own hin hP ⟨rfl, hJ⟩ hoff hown hget hall hst₁ F₁ N₁
    obtain ⟨o, ho⟩ := hobj _ _ hst₁
    have N₂ : News h₀ env.locals h₁ (news₁ ++ [(I, o)]) := fun p hp => by
      rcases List.mem_append.mp hp with h | h
      · exact N₁ p (List.mem_append.mpr (.inr h))
      · rw [List.mem_singleton.mp h]
        exact N₁ _ (List.mem_append.mpr (.inl (hall I hI hI0 o ho)))
    refine wpAny_mono (turn I o i v m₁ h₁ tk₁ hlt hin hP (by rw [hJ.eq]; exact F₁) N₂) (fun _ s₂ h₂ => wpAny_mono h₂ (fun f s₃ p => ?_) fun _ _ e => e) fun _ _ e => e
    have fin : TE h₀ env.locals (Keeps keep m₀) (news₁ ++ [(I, o)]) { s with heap := h₁, toks := tk₁ } s₃ → LoopStepU h₀ env.locals wr own (fun m nx => nx = news₁ ∧ Keeps keep m₀ m) { s with heap := h₁, toks := tk₁ } .next s₃ := by
      rintro ⟨h', tk, m', e, F', N', hm⟩
      refine ⟨rfl, h', tk, m', news₁, e, F', fun p hp => ?_, hnw, rfl, hm⟩
      rcases List.mem_append.mp hp with h | h
      · have e1 : h₁.get? p.1 = some p.2 := hget p h
        rcases hfp p.1 (hown p h) with h2 | ⟨o', h2⟩
        · rw [h2, ho] at e1
          have : p = (I, o) := Prod.ext h2 (Option.some.inj e1).symm
          rw [this]; exact N' _ (List.mem_append.mpr (.inr (List.mem_singleton.mpr rfl)))
        · have e2 := (N₁ _ (List.mem_append.mpr (.inr h2))).1
          rw [show ((p.1, o') : Addr × Obj).1 = p.1 from rfl, e1] at e2
          have : p = (p.1, o') := Prod.ext rfl (Option.some.inj e2)
          rw [this]; exact N' _ (List.mem_append.mpr (.inl h2))
      · exact N' p (List.mem_append.mpr (.inl h))
    cases f with
    | ret v => exact .ret p
    | brk => exact .brk p
    | next => exact .next (fin p)
    | cont => exact .cont (fin p)
  · rintro h' tk m' news' F' N' _ ⟨rfl, hJ⟩
    exact done m' h' tk (by rw [hJ.eq]; exact F') N'

theorem range_led {x : Str} {px : Pos} {r : Addr} {a₀ b₀ : Int} {t₀ u₀ v₀ : Tok} {n : Nat} {m₀ : Str → Option Value} {news : List (Addr × Obj)} (keep : List Str)
    (hh : A.handled = none) (hr : IsRange s.heap r a₀ b₀ 1 t₀ u₀ v₀) (hsmall : Builtin.Range.small a₀ b₀ 1 = true) (hn : Builtin.Range.rangeSize a₀ b₀ 1 = (n : Int)) (F : Fr h₀ env.locals s.heap m₀) (N : News h₀ env.locals s.heap news)
    (turn : ∀ (I : Addr) (o : Obj) (i : Nat) t (m₁ : Str → Option Value) h tk, (∀ p ∈ news, p.1 < I) → i < n → Fr h₀ env.locals h (fun y => if keep.contains y then m₀ y else m₁ y) → News h₀ env.locals h (news ++ [(I, o)]) →
      wpAny (model prog w) A (assign (.Name x px) env (.int (a₀ + (i : Int)) t)) (fun _ s₃ => wpAny (model prog w) A (execs body env) (TP h₀ env.locals (Keeps keep m₀) (news ++ [(I, o)]) { s with heap := h, toks := tk } Q) E s₃) E { s with heap := h, toks := tk })
    (done : ∀ (m₁ : Str → Option Value) h tk, Fr h₀ env.locals h (fun y => if keep.contains y then m₀ y else m₁ y) → News h₀ env.locals h news → Q .next { s with heap := h, toks := tk }) :
    wpAny (model prog w) A (pyIter (.ref r)) (fun it s₂ => TurnsAt prog w A h₀ env (.Name x px) body Q E it s₂) E s := by
  refine wpAny_pyIter_range hr hsmall ?_
  refine turns_one (tk0 := s.toks) (s := s) keep (KTurns.ofWalks (Walks.range hh s.heap.objs.size a₀ 1 n) fun i v s Q E st q => wpAny_pure q) ?_ ?_ ?_ ?_ ?_ (List.mem_singleton.mpr rfl) (next_is_new F) (fun i h st => ⟨_, st⟩) (fun p hp => Heap.lt_size (N p hp).1) (F.push _) (fun p hp => ⟨Heap.get?_push_of_some _ (N p hp).1, (N p hp).2⟩) ?_ done
  · intro hm
    exact absurd F.ns.lt ((List.mem_singleton.mp hm) ▸ Nat.lt_irrefl _)
  · intro b hb
    rw [List.mem_singleton.mp hb]
    exact next_is_new F
  · intro p hp hI
    exact absurd (Heap.lt_size (N p hp).1) ((List.mem_singleton.mp hI) ▸ Nat.lt_irrefl _)
  · show IsRangeIter _ _ _ _ _
    rw [hn]; simpa using Heap.get?_push_size _ rfl
  · intro b hb
    exact .inl (List.mem_singleton.mp hb)
  · rintro I o i v m₁ h tk hI hi ⟨t, rfl⟩ F₁ N₁
    rw [Int.mul_one]
    exact turn I o i t m₁ h tk hI hi F₁ N₁
end
end
section
open PySem PySem.W PyProof.Rows PySem.Calls PyProof.V PySem.Spec
set_option Elab.async false
open PySem.Builtin.Int (intBits)

/-- names that a loop turns, laid over the rest of the frame -/
def look : List (Str × Value) → (Str → Option Value) → Str → Option Value
  | [], m, y => m y
  | (x, v) :: r, m, y => if y = x then some v else look r m y
theorem look_eq : ∀ {vs : List (Str × Value)} {m : Str → Option Value}, (∀ p ∈ vs, m p.1 = some p.2) → look vs m = m
  | [], _, _ => rfl
  | (x, v) :: r, m, h => by
    funext y
    show (if y = x then some v else look r m y) = m y
    rw [look_eq (vs := r) fun p hp => h p (List.mem_cons_of_mem _ hp)]
    by_cases hy : y = x
    · rw [if_pos hy, hy]; exact (h _ (List.mem_cons_self ..)).symm
    · rw [if_neg hy]
theorem Keeps.look {keep : List Str} {vs : List (Str × Value)} {m₀ m' : Str → Option Value} (h : Keeps keep m₀ m') (hv : ∀ p ∈ vs, m' p.1 = some p.2) : (fun y => if keep.contains y then m₀ y else look vs m' y) = m' := by
  rw [look_eq hv]; exact h.eq

/-- a turn's end, with a state -/
def SE {σ : Type} (h₀ : Heap) (L : Addr) (keep : List Str) (m₀ : Str → Option Value) (vars : σ → List (Str × Value)) (Led : σ → List (Addr × Obj)) (J : σ → Prop) (I : Addr) (all : List (Addr × Obj)) (s₁ s₂ : Shared) : Prop :=
  ∃ (c : σ) (h' : Heap) (tk : Nat) (m' : Str → Option Value), s₂ = { s₁ with heap := h', toks := tk } ∧ Fr h₀ L h' m' ∧ News h₀ L h' (Led c ++ all) ∧ (∀ p ∈ Led c, p.1 ≠ I) ∧ Keeps keep m₀ m' ∧ (∀ p ∈ vars c, m' p.1 = some p.2) ∧ J c
def SP {σ : Type} (h₀ : Heap) (L : Addr) (keep : List Str) (m₀ : Str → Option Value) (vars : σ → List (Str × Value)) (Led : σ → List (Addr × Obj)) (J : σ → Prop) (I : Addr) (all : List (Addr × Obj)) (s₁ : Shared) (Q : Flow → Shared → Prop) (f : Flow) (s₂ : Shared) : Prop :=
  match f with
  | .ret v => Q (.ret v) s₂
  | .brk => Q .next s₂
  | _ => SE h₀ L keep m₀ vars Led J I all s₁ s₂
theorem SP.next {σ : Type} {h₀ : Heap} {L : Addr} {keep : List Str} {m₀ : Str → Option Value} {vars : σ → List (Str × Value)} {Led : σ → List (Addr × Obj)} {J : σ → Prop} {I : Addr} {o : Obj} {all all' : List (Addr × Obj)} {s₁ : Shared} {Q : Flow → Shared → Prop} {h' : Heap} {tk : Nat} {m' : Str → Option Value}
    (c : σ) (F : Fr h₀ L h' m') (N : News h₀ L h' all') (hI : (I, o) ∈ all') (hl : ∀ p ∈ Led c, p ∈ all') (ha : ∀ p ∈ all, p ∈ all') (hc : ∀ p ∈ Led c, p.2.cls ≠ o.cls) (hk : Keeps keep m₀ m') (hv : ∀ p ∈ vars c, m' p.1 = some p.2) (hJ : J c) :
    SP h₀ L keep m₀ vars Led J I all s₁ Q .next { s₁ with heap := h', toks := tk } := by
  refine ⟨c, h', tk, m', rfl, F, fun p hp => ?_, fun p hp e => ?_, hk, hv, hJ⟩
  · rcases List.mem_append.mp hp with h | h
    · exact N p (hl p h)
    · exact N p (ha p h)
  · have e1 := (N p (hl p hp)).1
    have e2 := (N _ hI).1
    rw [e] at e1
    exact hc p hp (congrArg Obj.cls (Option.some.inj (e1.symm.trans e2)))

section
variable {prog : Program} {w : World} {A : Around} {E : Value → Shared → Prop} {s : Shared} {env : Env} {h₀ : Heap} {target : Expr} {body : List Stmt} {Q : Flow → Shared → Prop}

theorem turns_state {σ : Type} {I : Addr} {n : Nat} {P Md : Nat → Value → Heap → Prop} {St : Nat → Heap → Prop} {m₀ : Str → Option Value} {news : List (Addr × Obj)} {hp : Heap} {tk0 : Nat} (keep : List Str) (vars : σ → List (Str × Value)) (Led : σ → List (Addr × Obj)) (J : Nat → σ → Prop) (c₀ : σ)
    (W : KTurns prog w A target I [I] [I] n P Md St) (hL : env.locals ≠ I) (hI0 : h₀.get? I = none) (hnw : ∀ p ∈ news, p.1 ≠ I) (hl0 : ∀ p ∈ Led c₀, p ∈ news) (hst : St 0 hp)
    (hobj : ∀ i h, St i h → ∃ o, h.get? I = some o ∧ o.cls ≠ .type "list" ∧ o.cls ≠ .type "tuple")
    (F : Fr h₀ env.locals hp m₀) (N : News h₀ env.locals hp news) (hv0 : ∀ p ∈ vars c₀, m₀ p.1 = some p.2) (h0 : J 0 c₀)
    (turn : ∀ (I : Addr) (o : Obj) i v (c : σ) (m₁ : Str → Option Value) h tk, o.cls ≠ .type "list" → o.cls ≠ .type "tuple" → i < n → P i v h → J i c → Fr h₀ env.locals h (fun y => if keep.contains y then m₀ y else look (vars c) m₁ y) → News h₀ env.locals h (Led c ++ (news ++ [(I, o)])) →
      wpAny (model prog w) A (assign target env v) (fun _ s₃ => wpAny (model prog w) A (execs body env) (SP h₀ env.locals keep m₀ vars Led (J (i + 1)) I (news ++ [(I, o)]) { s with heap := h, toks := tk } Q) E s₃) E { s with heap := h, toks := tk })
    (done : ∀ (c : σ) (m₁ : Str → Option Value) h tk, J n c → Fr h₀ env.locals h (fun y => if keep.contains y then m₀ y else look (vars c) m₁ y) → News h₀ env.locals h (Led c ++ news) → Q .next { s with heap := h, toks := tk }) :
    TurnsAt prog w A h₀ env target body Q E (.ref I) { s with heap := hp, toks := tk0 } := by
  refine ⟨I, [I], [I], n, P, Md, St, m₀, news, (fun i m nx => ∃ c, (∀ p ∈ Led c ++ news, p ∈ nx) ∧ Keeps keep m₀ m ∧ (∀ p ∈ vars c, m p.1 = some p.2) ∧ J i c), rfl, W, ?_, ?_, ?_, hst, F, N, ⟨c₀, fun p hp => (List.mem_append.mp hp).elim (hl0 p) id, rfl, hv0, h0⟩, ?_, ?_⟩
  · intro h; exact hL (List.mem_singleton.mp h)
  · intro b hb; rw [List.mem_singleton.mp hb]; exact hI0
  · intro p hp h; exact hnw p hp (List.mem_singleton.mp h)
  · rintro i v m₁ nx h₁ tk₁ own hin hP ⟨c, hnx, hk, hv, hJ⟩ hoff hown hget hall hst₁ F₁ N₁
    obtain ⟨o, ho, hol, hot⟩ := hobj _ _ hst₁
    have N₂ : News h₀ env.locals h₁ (Led c ++ (news ++ [(I, o)])) := fun p hp => by
      rw [← List.append_assoc] at hp
      rcases List.mem_append.mp hp with h | h
      · exact N₁ p (List.mem_append.mpr (.inr (hnx p h)))
      · rw [List.mem_singleton.mp h]
        exact N₁ _ (List.mem_append.mpr (.inl (hall I (List.mem_singleton.mpr rfl) hI0 o ho)))
    refine wpAny_mono (turn I o i v c m₁ h₁ tk₁ hol hot hin hP hJ (by rw [hk.look hv]; exact F₁) N₂) (fun _ s₂ h₂ => wpAny_mono h₂ (fun f s₃ p => ?_) fun _ _ e => e) fun _ _ e => e
    have fin : SE h₀ env.locals keep m₀ vars Led (J (i + 1)) I (news ++ [(I, o)]) { s with heap := h₁, toks := tk₁ } s₃ → LoopStepU h₀ env.locals [I] own (fun m nx => ∃ c, (∀ p ∈ Led c ++ news, p ∈ nx) ∧ Keeps keep m₀ m ∧ (∀ p ∈ vars c, m p.1 = some p.2) ∧ J (i + 1) c) { s with heap := h₁, toks := tk₁ } .next s₃ := by
      rintro ⟨c', h', tk, m', e, F', N', hne, hk', hv', hJ'⟩
      refine ⟨rfl, h', tk, m', Led c' ++ news, e, F', fun p hp => ?_, fun p hp hI => ?_, c', fun _ hp => hp, hk', hv', hJ'⟩
      · rcases List.mem_append.mp hp with h | h
        · have e1 : h₁.get? p.1 = some p.2 := hget p h
          have e0 : p.1 = I := List.mem_singleton.mp (hown p h)
          rw [e0, ho] at e1
          have : p = (I, o) := Prod.ext e0 (Option.some.inj e1).symm
          rw [this]; exact N' _ (List.mem_append.mpr (.inr (List.mem_append.mpr (.inr (List.mem_singleton.mpr rfl)))))
        · rcases List.mem_append.mp h with h2 | h2
          · exact N' p (List.mem_append.mpr (.inl h2))
          · exact N' p (List.mem_append.mpr (.inr (List.mem_append.mpr (.inl h2))))
      · rcases List.mem_append.mp hp with h | h
        · exact hne p h (List.mem_singleton.mp hI)
        · exact hnw p h (List.mem_singleton.mp hI)
    cases f with
    | ret v => exact .ret p
    | brk => exact .brk p
    | next => exact .next (fin p)
    | cont => exact .cont (fin p)
  · rintro h' tk m' nx F' N' _ ⟨c, hnx, hk, hv, hJ⟩
    exact done c m' h' tk hJ (by rw [hk.look hv]; exact F') fun p hp => N' p (hnx p hp)

/-- over a range by ones, short or long -/
theorem range_state {σ : Type} {x : Str} {px : Pos} {r : Addr} {a₀ b₀ : Int} {t₀ u₀ v₀ : Tok} {n : Nat} {m₀ : Str → Option Value} {news : List (Addr × Obj)} (keep : List Str) (vars : σ → List (Str × Value)) (Led : σ → List (Addr × Obj)) (J : Nat → σ → Prop) (c₀ : σ)
    (hh : A.handled = none) (hr : IsRange s.heap r a₀ b₀ 1 t₀ u₀ v₀) (hn : Builtin.Range.rangeSize a₀ b₀ 1 = (n : Int)) (F : Fr h₀ env.locals s.heap m₀) (N : News h₀ env.locals s.heap news)
    (hl0 : ∀ p ∈ Led c₀, p ∈ news) (hv0 : ∀ p ∈ vars c₀, m₀ p.1 = some p.2) (h0 : J 0 c₀)
    (turn : ∀ (I : Addr) (o : Obj) (i : Nat) t (c : σ) (m₁ : Str → Option Value) h tk, o.cls ≠ .type "list" → o.cls ≠ .type "tuple" → i < n → J i c → Fr h₀ env.locals h (fun y => if keep.contains y then m₀ y else look (vars c) m₁ y) → News h₀ env.locals h (Led c ++ (news ++ [(I, o)])) →
      wpAny (model prog w) A (assign (.Name x px) env (.int (a₀ + (i : Int)) t)) (fun _ s₃ => wpAny (model prog w) A (execs body env) (SP h₀ env.locals keep m₀ vars Led (J (i + 1)) I (news ++ [(I, o)]) { s with heap := h, toks := tk } Q) E s₃) E { s with heap := h, toks := tk })
    (done : ∀ (c : σ) (m₁ : Str → Option Value) h tk, J n c → Fr h₀ env.locals h (fun y => if keep.contains y then m₀ y else look (vars c) m₁ y) → News h₀ env.locals h (Led c ++ news) → Q .next { s with heap := h, toks := tk }) :
    wpAny (model prog w) A (pyIter (.ref r)) (fun it s₂ => TurnsAt prog w A h₀ env (.Name x px) body Q E it s₂) E s := by
  have hturn : ∀ (I : Addr) (o : Obj) i v (c : σ) (m₁ : Str → Option Value) h tk, o.cls ≠ .type "list" → o.cls ≠ .type "tuple" → i < n → (∃ t, v = Value.int (a₀ + (i : Int) * 1) t) → J i c → Fr h₀ env.locals h (fun y => if keep.contains y then m₀ y else look (vars c) m₁ y) → News h₀ env.locals h (Led c ++ (news ++ [(I, o)])) →
      wpAny (model prog w) A (assign (.Name x px) env v) (fun _ s₃ => wpAny (model prog w) A (execs body env) (SP h₀ env.locals keep m₀ vars Led (J (i + 1)) I (news ++ [(I, o)]) { s with heap := h, toks := tk } Q) E s₃) E { s with heap := h, toks := tk } := by
    rintro I o i v c m₁ h tk ho1 ho2 hi ⟨t, rfl⟩ hJ F₁ N₁
    rw [Int.mul_one]
    exact turn I o i t c m₁ h tk ho1 ho2 hi hJ F₁ N₁
  have hL : env.locals ≠ s.heap.objs.size := fun e => absurd F.ns.lt (e ▸ Nat.lt_irrefl _)
  have hnw : ∀ p ∈ news, p.1 ≠ s.heap.objs.size := fun p hp => Nat.ne_of_lt (Heap.lt_size (N p hp).1)
  cases hsmall : Builtin.Range.small a₀ b₀ 1 with
  | true =>
    refine wpAny_pyIter_range hr hsmall ?_
    refine turns_state (tk0 := s.toks) (s := s) keep vars Led J c₀ (KTurns.ofWalks (Walks.range hh s.heap.objs.size a₀ 1 n) fun i v s Q E st q => wpAny_pure q) hL (next_is_new F) hnw hl0 ?_ (fun i h st => ⟨_, st, by simp, by simp⟩) (F.push _) (fun p hp => ⟨Heap.get?_push_of_some _ (N p hp).1, (N p hp).2⟩) hv0 h0 hturn done
    show IsRangeIter _ _ _ _ _
    rw [hn]; simpa using Heap.get?_push_size _ rfl
  | false =>
    refine wpAny_pyIter_longrange hr hsmall ?_
    refine turns_state (tk0 := s.toks) (s := s) keep vars Led J c₀ (KTurns.ofWalks (Walks.longrange hh s.heap.objs.size a₀ 1 n) fun i v s Q E st q => wpAny_pure q) hL (next_is_new F) hnw hl0 ?_ (fun i h st => ⟨_, st, by simp, by simp⟩) (F.push _) (fun p hp => ⟨Heap.get?_push_of_some _ (N p hp).1, (N p hp).2⟩) hv0 h0 hturn done
    show IsLongIter _ _ _ _ _
    rw [hn]; simpa using Heap.get?_push_size _ rfl

/-- a while, with a state and a measure -/
def WE {σ : Type} (h₀ : Heap) (L : Addr) (keep : List Str) (m₀ : Str → Option Value) (vars : σ → List (Str × Value)) (Led : σ → List (Addr × Obj)) (J : σ → Prop) (μ : σ → Nat) (k : Nat) (all : List (Addr × Obj)) (s₁ s₂ : Shared) : Prop :=
  ∃ (c : σ) (h' : Heap) (tk : Nat) (m' : Str → Option Value), s₂ = { s₁ with heap := h', toks := tk } ∧ Fr h₀ L h' m' ∧ News h₀ L h' (Led c ++ all) ∧ Keeps keep m₀ m' ∧ (∀ p ∈ vars c, m' p.1 = some p.2) ∧ J c ∧ μ c < k
def WP {σ : Type} (h₀ : Heap) (L : Addr) (keep : List Str) (m₀ : Str → Option Value) (vars : σ → List (Str × Value)) (Led : σ → List (Addr × Obj)) (J : σ → Prop) (μ : σ → Nat) (k : Nat) (all : List (Addr × Obj)) (s₁ : Shared) (Q : Flow → Shared → Prop) (f : Flow) (s₂ : Shared) : Prop :=
  match f with
  | .ret v => Q (.ret v) s₂
  | .brk => Q .next s₂
  | _ => WE h₀ L keep m₀ vars Led J μ k all s₁ s₂
theorem WP.next {σ : Type} {h₀ : Heap} {L : Addr} {keep : List Str} {m₀ : Str → Option Value} {vars : σ → List (Str × Value)} {Led : σ → List (Addr × Obj)} {J : σ → Prop} {μ : σ → Nat} {k : Nat} {all all' : List (Addr × Obj)} {s₁ : Shared} {Q : Flow → Shared → Prop} {h' : Heap} {tk : Nat} {m' : Str → Option Value}
    (c : σ) (F : Fr h₀ L h' m') (N : News h₀ L h' all') (hl : ∀ p ∈ Led c, p ∈ all') (ha : ∀ p ∈ all, p ∈ all') (hk : Keeps keep m₀ m') (hv : ∀ p ∈ vars c, m' p.1 = some p.2) (hJ : J c) (hm : μ c < k) :
    WP h₀ L keep m₀ vars Led J μ k all s₁ Q .next { s₁ with heap := h', toks := tk } :=
  ⟨c, h', tk, m', rfl, F, fun p hp => (List.mem_append.mp hp).elim (fun h => N p (hl p h)) (fun h => N p (ha p h)), hk, hv, hJ, hm⟩
theorem while_state {σ : Type} {test : Expr} {pos : Pos} {m₀ : Str → Option Value} {news : List (Addr × Obj)} (keep : List Str) (vars : σ → List (Str × Value)) (Led : σ → List (Addr × Obj)) (J : σ → Prop) (μ : σ → Nat) (c₀ : σ)
    (F : Fr h₀ env.locals s.heap m₀) (N : News h₀ env.locals s.heap news) (hl0 : ∀ p ∈ Led c₀, p ∈ news) (hv0 : ∀ p ∈ vars c₀, m₀ p.1 = some p.2) (h0 : J c₀)
    (turn : ∀ (c : σ) (m₁ : Str → Option Value) h tk, J c → Fr h₀ env.locals h (fun y => if keep.contains y then m₀ y else look (vars c) m₁ y) → News h₀ env.locals h (Led c ++ news) →
      wpAny (model prog w) A (isTrue test env (eval test env)) (fun b s₂ =>
        if b = true then wpAny (model prog w) A (execs body env) (WP h₀ env.locals keep m₀ vars Led J μ (μ c) news s Q) E s₂ else Q .next s₂) E { s with heap := h, toks := tk })
    (hE : PassesOwn (model prog w) A env E := by passes_own) :
    wpAny (model prog w) A (exec (.While test body [] pos) env) Q E s := by
  refine While_inv2 (fun n m nx => ∃ c, n = μ c ∧ (∀ p ∈ Led c ++ news, p ∈ nx) ∧ Keeps keep m₀ m ∧ (∀ p ∈ vars c, m p.1 = some p.2) ∧ J c) F N ⟨c₀, rfl, fun p hp => (List.mem_append.mp hp).elim (hl0 p) id, rfl, hv0, h0⟩ ?_ hE
  rintro n m₁ nx h tk F₁ N₁ ⟨c, rfl, hnx, hk, hv, hJ⟩
  refine wpAny_mono (turn c m₁ h tk hJ (by rw [hk.look hv]; exact F₁) fun p hp => N₁ p (hnx p hp)) (fun b s₂ p => ?_) fun _ _ x => x
  cases b with
  | false => simpa using p
  | true =>
    simp only [if_true] at p ⊢
    refine wpAny_mono p (fun f s₃ q => ?_) fun _ _ x => x
    have fin : WE h₀ env.locals keep m₀ vars Led J μ (μ c) news s s₃ → WhileStep2 h₀ env.locals s (fun n m nx => ∃ c, n = μ c ∧ (∀ p ∈ Led c ++ news, p ∈ nx) ∧ Keeps keep m₀ m ∧ (∀ p ∈ vars c, m p.1 = some p.2) ∧ J c) Q (μ c) .next s₃ := by
      rintro ⟨c', h', tk', m', rfl, F', N', hk', hv', hJ', hm'⟩
      exact ⟨h', tk', m', Led c' ++ news, μ c', rfl, F', N', hm', c', rfl, fun _ hp => hp, hk', hv', hJ'⟩
    cases f with
    | ret v => exact q
    | brk => exact q
    | next => exact fin q
    | cont => exact fin q
end
end
section
open PySem PySem.W PyProof.Rows
set_option Elab.async false
theorem knows3 {h₀ h : Heap} {L : Addr} {m : Str → Option Value} {x0 x1 x2 : Str} {v0 v1 v2 : Value} (F : Fr h₀ L h m) (h0 : m x0 = some v0) (h1 : m x1 = some v1) (h2 : m x2 = some v2) : ∃ m' : Str → Option Value, Fr h₀ L h (fun z => if z = x0 then some v0 else if z = x1 then some v1 else if z = x2 then some v2 else m' z) := by
  refine ⟨m, ?_⟩
  have e : look [(x0, v0), (x1, v1), (x2, v2)] m = m := look_eq (by intro p hp; simp only [List.mem_cons, List.not_mem_nil, or_false] at hp; rcases hp with rfl | rfl | rfl <;> assumption)
  rw [← e] at F; exact F

theorem knows4 {h₀ h : Heap} {L : Addr} {m : Str → Option Value} {x0 x1 x2 x3 : Str} {v0 v1 v2 v3 : Value} (F : Fr h₀ L h m) (h0 : m x0 = some v0) (h1 : m x1 = some v1) (h2 : m x2 = some v2) (h3 : m x3 = some v3) : ∃ m' : Str → Option Value, Fr h₀ L h (fun z => if z = x0 then some v0 else if z = x1 then some v1 else if z = x2 then some v2 else if z = x3 then some v3 else m' z) := by
  refine ⟨m, ?_⟩
  have e : look [(x0, v0), (x1, v1), (x2, v2), (x3, v3)] m = m := look_eq (by intro p hp; simp only [List.mem_cons, List.not_mem_nil, or_false] at hp; rcases hp with rfl | rfl | rfl | rfl <;> assumption)
  rw [← e] at F; exact F

theorem knows5 {h₀ h : Heap} {L : Addr} {m : Str → Option Value} {x0 x1 x2 x3 x4 : Str} {v0 v1 v2 v3 v4 : Value} (F : Fr h₀ L h m) (h0 : m x0 = some v0) (h1 : m x1 = some v1) (h2 : m x2 = some v2) (h3 : m x3 = some v3) (h4 : m x4 = some v4) : ∃ m' : Str → Option Value, Fr h₀ L h (fun z => if z = x0 then some v0 else if z = x1 then some v1 else if z = x2 then some v2 else if z = x3 then some v3 else if z = x4 then some v4 else m' z) := by
  refine ⟨m, ?_⟩
  have e : look [(x0, v0), (x1, v1), (x2, v2), (x3, v3), (x4, v4)] m = m := look_eq (by intro p hp; simp only [List.mem_cons, List.not_mem_nil, or_false] at hp; rcases hp with rfl | rfl | rfl | rfl | rfl <;> assumption)
  rw [← e] at F; exact F

theorem knows10 {h₀ h : Heap} {L : Addr} {m : Str → Option Value} {x0 x1 x2 x3 x4 x5 x6 x7 x8 x9 : Str} {v0 v1 v2 v3 v4 v5 v6 v7 v8 v9 : Value} (F : Fr h₀ L h m) (h0 : m x0 = some v0) (h1 : m x1 = some v1) (h2 : m x2 = some v2) (h3 : m x3 = some v3) (h4 : m x4 = some v4) (h5 : m x5 = some v5) (h6 : m x6 = some v6) (h7 : m x7 = some v7) (h8 : m x8 = some v8) (h9 : m x9 = some v9) : ∃ m' : Str → Option Value, Fr h₀ L h (fun z => if z = x0 then some v0 else if z = x1 then some v1 else if z = x2 then some v2 else if z = x3 then some v3 else if z = x4 then some v4 else if z = x5 then some v5 else if z = x6 then some v6 else if z = x7 then some v7 else if z = x8 then some v8 else if z = x9 then some v9 else m' z) := by
  refine ⟨m, ?_⟩
  have e : look [(x0, v0), (x1, v1), (x2, v2), (x3, v3), (x4, v4), (x5, v5), (x6, v6), (x7, v7), (x8, v8), (x9, v9)] m = m := look_eq (by intro p hp; simp only [List.mem_cons, List.not_mem_nil, or_false] at hp; rcases hp with rfl | rfl | rfl | rfl | rfl | rfl | rfl | rfl | rfl | rfl <;> assumption)
  rw [← e] at F; exact F

theorem knows11 {h₀ h : Heap} {L : Addr} {m : Str → Option Value} {x0 x1 x2 x3 x4 x5 x6 x7 x8 x9 x10 : Str} {v0 v1 v2 v3 v4 v5 v6 v7 v8 v9 v10 : Value} (F : Fr h₀ L h m) (h0 : m x0 = some v0) (h1 : m x1 = some v1) (h2 : m x2 = some v2) (h3 : m x3 = some v3) (h4 : m x4 = some v4) (h5 : m x5 = some v5) (h6 : m x6 = some v6) (h7 : m x7 = some v7) (h8 : m x8 = some v8) (h9 : m x9 = some v9) (h10 : m x10 = some v10) : ∃ m' : Str → Option Value, Fr h₀ L h (fun z => if z = x0 then some v0 else if z = x1 then some v1 else if z = x2 then some v2 else if z = x3 then some v3 else if z = x4 then some v4 else if z = x5 then some v5 else if z = x6 then some v6 else if z = x7 then some v7 else if z = x8 then some v8 else if z = x9 then some v9 else if z = x10 then some v10 else m' z) := by
  refine ⟨m, ?_⟩
  have e : look [(x0, v0), (x1, v1), (x2, v2), (x3, v3), (x4, v4), (x5, v5), (x6, v6), (x7, v7), (x8, v8), (x9, v9), (x10, v10)] m = m := look_eq (by intro p hp; simp only [List.mem_cons, List.not_mem_nil, or_false] at hp; rcases hp with rfl | rfl | rfl | rfl | rfl | rfl | rfl | rfl | rfl | rfl | rfl <;> assumption)
  rw [← e] at F; exact F
section
variable {prog : Program} {w : World} {A : Around} {E : Value → Shared → Prop} {s : Shared} {env : Env} {h₀ : Heap} {target : Expr} {body : List Stmt} {Q : Flow → Shared → Prop}
end
section
variable {prog : Program} {w : World} {A : Around} {E : Value → Shared → Prop} {s : Shared} {env : Env} {h₀ : Heap} {target : Expr} {body : List Stmt} {Q : Flow → Shared → Prop}
end
end
section
open PySem PySem.W PyProof.Rows PySem.Calls PyProof.V PySem.Spec
set_option Elab.async false
open PySem.Builtin.Int (intBits)
section
variable {prog : Program} {w : World} {A : Around} {E : Value → Shared → Prop} {s : Shared} {env : Env} {h₀ : Heap} {target : Expr} {body : List Stmt} {Q : Flow → Shared → Prop}

/-- as turns_state; the iterator may look at objects of the ledger -/
theorem turns_state2 {σ : Type} {I : Addr} {fp : List Addr} {n : Nat} {P Md : Nat → Value → Heap → Prop} {St : Nat → Heap → Prop} {m₀ : Str → Option Value} {news : List (Addr × Obj)} {hp : Heap} {tk0 : Nat} (keep : List Str) (vars : σ → List (Str × Value)) (Led : σ → List (Addr × Obj)) (J : Nat → σ → Prop) (c₀ : σ)
    (W : KTurns prog w A target I fp [I] n P Md St) (hL : env.locals ∉ fp) (hI0 : h₀.get? I = none) (hIf : I ∈ fp) (hfp : ∀ b ∈ fp, b = I ∨ ∃ o, (b, o) ∈ news) (hnw : ∀ p ∈ news, p.1 ≠ I) (hl0 : ∀ p ∈ Led c₀, p ∈ news) (hst : St 0 hp)
    (hobj : ∀ i h, St i h → ∃ o, h.get? I = some o ∧ o.cls ≠ .type "list" ∧ o.cls ≠ .type "tuple")
    (F : Fr h₀ env.locals hp m₀) (N : News h₀ env.locals hp news) (hv0 : ∀ p ∈ vars c₀, m₀ p.1 = some p.2) (h0 : J 0 c₀)
    (turn : ∀ (I : Addr) (o : Obj) i v (c : σ) (m₁ : Str → Option Value) h tk, o.cls ≠ .type "list" → o.cls ≠ .type "tuple" → i < n → P i v h → J i c → Fr h₀ env.locals h (fun y => if keep.contains y then m₀ y else look (vars c) m₁ y) → News h₀ env.locals h (Led c ++ (news ++ [(I, o)])) →
      wpAny (model prog w) A (assign target env v) (fun _ s₃ => wpAny (model prog w) A (execs body env) (SP h₀ env.locals keep m₀ vars Led (J (i + 1)) I (news ++ [(I, o)]) { s with heap := h, toks := tk } Q) E s₃) E { s with heap := h, toks := tk })
    (done : ∀ (c : σ) (m₁ : Str → Option Value) h tk, J n c → Fr h₀ env.locals h (fun y => if keep.contains y then m₀ y else look (vars c) m₁ y) → News h₀ env.locals h (Led c ++ news) → Q .next { s with heap := h, toks := tk }) :
    TurnsAt prog w A h₀ env target body Q E (.ref I) { s with heap := hp, toks := tk0 } := by
  refine ⟨I, fp, [I], n, P, Md, St, m₀, news, (fun i m nx => ∃ c, (∀ p ∈ Led c ++ news, p ∈ nx) ∧ Keeps keep m₀ m ∧ (∀ p ∈ vars c, m p.1 = some p.2) ∧ J i c), rfl, W, hL, ?_, ?_, hst, F, N, ⟨c₀, fun p hp => (List.mem_append.mp hp).elim (hl0 p) id, rfl, hv0, h0⟩, ?_, ?_⟩
  · intro b hb; rw [List.mem_singleton.mp hb]; exact hI0
  · intro p hp h; exact hnw p hp (List.mem_singleton.mp h)
  · rintro i v m₁ nx h₁ tk₁ own hin hP ⟨c, hnx, hk, hv, hJ⟩ hoff hown hget hall hst₁ F₁ N₁
    obtain ⟨o, ho, hol, hot⟩ := hobj _ _ hst₁
    have N₂ : News h₀ env.locals h₁ (Led c ++ (news ++ [(I, o)])) := fun p hp => by
      rw [← List.append_assoc] at hp
      rcases List.mem_append.mp hp with h | h
      · exact N₁ p (List.mem_append.mpr (.inr (hnx p h)))
      · rw [List.mem_singleton.mp h]
        exact N₁ _ (List.mem_append.mpr (.inl (hall I hIf hI0 o ho)))
    refine wpAny_mono (turn I o i v c m₁ h₁ tk₁ hol hot hin hP hJ (by rw [hk.look hv]; exact F₁) N₂) (fun _ s₂ h₂ => wpAny_mono h₂ (fun f s₃ p => ?_) fun _ _ e => e) fun _ _ e => e
    have fin : SE h₀ env.locals keep m₀ vars Led (J (i + 1)) I (news ++ [(I, o)]) { s with heap := h₁, toks := tk₁ } s₃ → LoopStepU h₀ env.locals [I] own (fun m nx => ∃ c, (∀ p ∈ Led c ++ news, p ∈ nx) ∧ Keeps keep m₀ m ∧ (∀ p ∈ vars c, m p.1 = some p.2) ∧ J (i + 1) c) { s with heap := h₁, toks := tk₁ } .next s₃ := by
      rintro ⟨c', h', tk, m', e, F', N', hne, hk', hv', hJ'⟩
      refine ⟨rfl, h', tk, m', Led c' ++ news, e, F', fun p hp => ?_, fun p hp hI => ?_, c', fun _ hp => hp, hk', hv', hJ'⟩
      · rcases List.mem_append.mp hp with h | h
        · have e1 : h₁.get? p.1 = some p.2 := hget p h
          rcases hfp p.1 (hown p h) with e0 | ⟨o', h2⟩
          · rw [e0, ho] at e1
            have : p = (I, o) := Prod.ext e0 (Option.some.inj e1).symm
            rw [this]; exact N' _ (List.mem_append.mpr (.inr (List.mem_append.mpr (.inr (List.mem_singleton.mpr rfl)))))
          · have e2 := (N₂ _ (List.mem_append.mpr (.inr (List.mem_append.mpr (.inl h2))))).1
            rw [show ((p.1, o') : Addr × Obj).1 = p.1 from rfl, e1] at e2
            have : p = (p.1, o') := Prod.ext rfl (Option.some.inj e2)
            rw [this]; exact N' _ (List.mem_append.mpr (.inr (List.mem_append.mpr (.inl h2))))
        · rcases List.mem_append.mp h with h2 | h2
          · exact N' p (List.mem_append.mpr (.inl h2))
          · exact N' p (List.mem_append.mpr (.inr (List.mem_append.mpr (.inl h2))))
      · rcases List.mem_append.mp hp with h | h
        · exact hne p h (List.mem_singleton.mp hI)
        · exact hnw p h (List.mem_singleton.mp hI)
    cases f with
    | ret v => exact .ret p
    | brk => exact .brk p
    | next => exact .next (fin p)
    | cont => exact .cont (fin p)
  · rintro h' tk m' nx F' N' _ ⟨c, hnx, hk, hv, hJ⟩
    exact done c m' h' tk hJ (by rw [hk.look hv]; exact F') fun p hp => N' p (hnx p hp)

/-- over a list of the call's own, with a state -/
theorem list_state {σ : Type} {ax : Addr} {lo : Obj} {vs : List Value} {nn : Nat} {m₀ : Str → Option Value} {news : List (Addr × Obj)} (keep : List Str) (vars : σ → List (Str × Value)) (Led : σ → List (Addr × Obj)) (J : Nat → σ → Prop) (c₀ : σ)
    (hh : A.handled = none) (F : Fr h₀ env.locals s.heap m₀) (N : News h₀ env.locals s.heap news) (hm : (ax, lo) ∈ news) (hc : lo.cls = .type "list") (hd : lo.data = .seq vs.toArray nn)
    (hl0 : ∀ p ∈ Led c₀, p ∈ news) (hv0 : ∀ p ∈ vars c₀, m₀ p.1 = some p.2) (h0 : J 0 c₀)
    (turn : ∀ (I : Addr) (o : Obj) (i : Nat) v (c : σ) (m₁ : Str → Option Value) h tk, o.cls ≠ .type "list" → o.cls ≠ .type "tuple" → vs[i]? = some v → J i c → Fr h₀ env.locals h (fun y => if keep.contains y then m₀ y else look (vars c) m₁ y) → News h₀ env.locals h (Led c ++ (news ++ [(I, o)])) →
      wpAny (model prog w) A (assign target env v) (fun _ s₃ => wpAny (model prog w) A (execs body env) (SP h₀ env.locals keep m₀ vars Led (J (i + 1)) I (news ++ [(I, o)]) { s with heap := h, toks := tk } Q) E s₃) E { s with heap := h, toks := tk })
    (done : ∀ (c : σ) (m₁ : Str → Option Value) h tk, J vs.length c → Fr h₀ env.locals h (fun y => if keep.contains y then m₀ y else look (vars c) m₁ y) → News h₀ env.locals h (Led c ++ news) → Q .next { s with heap := h, toks := tk }) :
    wpAny (model prog w) A (pyIter (.ref ax)) (fun it s₂ => TurnsAt prog w A h₀ env target body Q E it s₂) E s := by
  have hax := N _ hm
  have hl : s.heap.IsList ax vs.toArray := ⟨lo, hax.1, hc, nn, hd⟩
  have hlt : ax < s.heap.objs.size := Heap.lt_size hax.1
  have hne : ax ≠ s.heap.objs.size := Nat.ne_of_lt hlt
  refine wpAny_pyIter_list hl ?_
  refine turns_state2 (tk0 := s.toks) (s := s) keep vars Led J c₀ (KTurns.ofWalks (Walks.list hh s.heap.objs.size ax hne vs.toArray) fun i v s Q E st q => letGo_listiter st.1 q) ?_ (next_is_new F) (List.mem_cons_self ..) ?_ (fun p hp => Nat.ne_of_lt (Heap.lt_size (N p hp).1)) hl0 ?_ ?_ (F.push _) (fun p hp => ⟨Heap.get?_push_of_some _ (N p hp).1, (N p hp).2⟩) hv0 h0 ?_ ?_
  · intro hI
    rcases List.mem_cons.mp hI with e | hI
    · exact absurd F.ns.lt (e ▸ Nat.lt_irrefl _)
    · exact hax.2.1 (List.mem_singleton.mp hI).symm
  · intro b hb
    rcases List.mem_cons.mp hb with e | hb
    · exact .inl e
    · exact .inr ⟨lo, (List.mem_singleton.mp hb) ▸ hm⟩
  · exact ⟨⟨_, Heap.get?_push_size _ rfl, rfl, rfl⟩, hl.at fun o e => Heap.get?_push_of_some _ e⟩
  · rintro i h ⟨⟨o, ho, hcl, _⟩, _⟩
    exact ⟨o, ho, by rw [hcl]; simp, by rw [hcl]; simp⟩
  · intro I o i v c m₁ h tk h1 h2 _ hP hJ F₁ N₁
    exact turn I o i v c m₁ h tk h1 h2 (by simpa using hP) hJ F₁ N₁
  · intro c m₁ h tk hJ F₁ N₁
    have e : vs.toArray.size = vs.length := by simp
    rw [e] at hJ
    exact done c m₁ h tk hJ F₁ N₁

/-- a while whose turns change an object of the ledger -/
theorem while_list {σ : Type} {test : Expr} {pos : Pos} {lw : Addr} {m₀ : Str → Option Value} {news : List (Addr × Obj)} (keep : List Str) (vars : σ → List (Str × Value)) (lst : σ → List Value × Nat) (J : σ → Prop) (μ : σ → Nat) (c₀ : σ)
    (F : Fr h₀ env.locals s.heap m₀) (N : News h₀ env.locals s.heap ((lw, W.listOf (lst c₀).1.toArray (lst c₀).2) :: news)) (hv0 : ∀ p ∈ vars c₀, m₀ p.1 = some p.2) (h0 : J c₀)
    (turn : ∀ (c : σ) (m₁ : Str → Option Value) h tk, J c → Fr h₀ env.locals h (fun y => if keep.contains y then m₀ y else look (vars c) m₁ y) → News h₀ env.locals h ((lw, W.listOf (lst c).1.toArray (lst c).2) :: news) →
      wpAny (model prog w) A (isTrue test env (eval test env)) (fun b s₂ =>
        if b = true then wpAny (model prog w) A (execs body env) (WP h₀ env.locals keep m₀ vars (fun c => [(lw, W.listOf (lst c).1.toArray (lst c).2)]) J μ (μ c) news s Q) E s₂ else Q .next s₂) E { s with heap := h, toks := tk })
    (hE : PassesOwn (model prog w) A env E := by passes_own) :
    wpAny (model prog w) A (exec (.While test body [] pos) env) Q E s := by
  refine While_inv2 (fun n m nx => ∃ c, n = μ c ∧ (∀ p ∈ (lw, W.listOf (lst c).1.toArray (lst c).2) :: news, p ∈ nx) ∧ Keeps keep m₀ m ∧ (∀ p ∈ vars c, m p.1 = some p.2) ∧ J c) F N ⟨c₀, rfl, fun p hp => hp, rfl, hv0, h0⟩ ?_ hE
  rintro n m₁ nx h tk F₁ N₁ ⟨c, rfl, hnx, hk, hv, hJ⟩
  refine wpAny_mono (turn c m₁ h tk hJ (by rw [hk.look hv]; exact F₁) fun p hp => N₁ p (hnx p hp)) (fun b s₂ p => ?_) fun _ _ x => x
  cases b with
  | false => simpa using p
  | true =>
    simp only [if_true] at p ⊢
    refine wpAny_mono p (fun f s₃ q => ?_) fun _ _ x => x
    have fin : WE h₀ env.locals keep m₀ vars (fun c => [(lw, W.listOf (lst c).1.toArray (lst c).2)]) J μ (μ c) news s s₃ → WhileStep2 h₀ env.locals s (fun n m nx => ∃ c, n = μ c ∧ (∀ p ∈ (lw, W.listOf (lst c).1.toArray (lst c).2) :: news, p ∈ nx) ∧ Keeps keep m₀ m ∧ (∀ p ∈ vars c, m p.1 = some p.2) ∧ J c) Q (μ c) .next s₃ := by
      rintro ⟨c', h', tk', m', rfl, F', N', hk', hv', hJ', hm'⟩
      exact ⟨h', tk', m', (lw, W.listOf (lst c').1.toArray (lst c').2) :: news, μ c', rfl, F', N', hm', c', rfl, fun _ hp => hp, hk', hv', hJ'⟩
    cases f with
    | ret v => exact q
    | brk => exact q
    | next => exact fin q
    | cont => exact fin q
end
/-- a call that gives back a new pair of whole numbers -/
abbrev TupRet (h₀ : Heap) (L : Addr) (lm : Str → Option Value) (news : List (Addr × Obj)) (s : Shared) (Q : Value → Shared → Prop) (n m : Int) : Prop :=
  ∀ (T : Addr) (t u : Tok) (h' : Heap) (tk' : Nat), Fr h₀ L h' lm → News h₀ L h' ((T, { cls := Value.type "tuple", data := Data.seq #[Value.int n t, Value.int m u] }) :: news) → Q (.ref T) { s with heap := h', toks := tk' }
end
section
open PySem PySem.W PyProof.Rows
set_option Elab.async false
set_option exponentiation.threshold 5000
open PySem.Builtin.Int (intBits)
open Float64 (V roundUn infMag)
theorem V_inj {a b : Nat} (h : V a = V b) : a = b := by
  rcases Nat.lt_trichotomy a b with h' | h' | h'
  · exact absurd h (Nat.ne_of_lt (Float64.V_lt h'))
  · exact h'
  · exact absurd h.symm (Nat.ne_of_lt (Float64.V_lt h'))
theorem fsF_at {n m : Int} (h : fsT n m < infMag) : fsF n m = Float64.pack false (fsT n m) := by
  rw [fsF_eq, Nat.min_eq_right (Nat.le_of_lt h)]
theorem fsF_fin {n m : Int} (h : fsT n m < infMag) : Float64.isInf (fsF n m) = false := by
  rw [fsF_at h]; exact isInf_at h
section
variable {prog : Program} {w : World} {A : Around} {E : Value → Shared → Prop} {s : Shared} {a b : Int} {t u : Tok} {Q : Value → Shared → Prop}
end
end
section
open PySem PySem.W PyProof.Rows
set_option Elab.async false
set_option exponentiation.threshold 5000
open PySem.Builtin.Int (intBits)
open Float64 (V roundUn infMag)

section
variable {b t W : Nat}
end
theorem At.scale {N M W t c : Nat} (hc : 0 < c) (h : At (N * c) (M * c) W t) : At N M W t := by
  have e : ∀ x y, x * c * y = x * y * c := fun x y => Nat.mul_right_comm x c y
  refine ⟨?_, fun h' => h.upE (by rw [e, e, h']), fun i hi => ?_, fun i hi h' => h.dnE i hi (by rw [e, e, h'])⟩
  · have := h.up; rw [e, e] at this; exact Nat.le_of_mul_le_mul_right this hc
  · have := h.dn i hi; rw [e, e] at this; exact Nat.le_of_mul_le_mul_right this hc
end
section
open PySem PySem.W PyProof.Rows
set_option Elab.async false
open PySem.Builtin.Int (intBits)
end
section
open PySem PySem.W PyProof.Rows
set_option Elab.async false
open PySem.Builtin.Int (intBits)

/-- an item at an index from the start or from the end -/
def ItemAt (ns : List Int) (k c : Int) : Prop := (0 ≤ k ∧ k < 2 ^ 63 ∧ ns[k.toNat]? = some c) ∨ (k < 0 ∧ -(ns.length : Int) ≤ k ∧ -(2 ^ 63) ≤ k ∧ ns[(k + ns.length).toNat]? = some c)
end
section
open PySem PySem.W PyProof.Rows
set_option Elab.async false
open PySem.Builtin.Int (intBits)
end
section
open PySem PySem.W PyProof.Rows
set_option Elab.async false
open PySem.Builtin.Int (intBits)

section
variable {prog : Program} {w : World} {A : Around} {E : Value → Shared → Prop} {s : Shared} {a b c n : Int} {t u : Tok} {Q : Value → Shared → Prop}
theorem mulA (he : a * b = c) (hm : intBits a + intBits b ≤ 2 ^ 27) (h : ∀ u' tk, Q (.int c u') { s with toks := tk }) : wpAny (model prog w) A (binaryOp .Mult (.int a t) (.int b u)) Q E s := mulE he hm (h _ _)
theorem addA (he : a + b = c) (h : ∀ u' tk, Q (.int c u') { s with toks := tk }) : wpAny (model prog w) A (binaryOp .Add (.int a t) (.int b u)) Q E s := addE he (h _ _)
theorem subA (he : a - b = c) (h : ∀ u' tk, Q (.int c u') { s with toks := tk }) : wpAny (model prog w) A (binaryOp .Sub (.int a t) (.int b u)) Q E s := subE he (h _ _)
theorem modA (he : a % b = c) (hb : 0 < b) (h : ∀ u' tk, Q (.int c u') { s with toks := tk }) : wpAny (model prog w) A (binaryOp .Mod (.int a t) (.int b u)) Q E s := modE he hb (h _ _)
theorem powA (he : a ^ n.toNat = c) (hn : 0 ≤ n) (hm : (intBits a : Int) * n ≤ 2 ^ 27) (h : ∀ u' tk, Q (.int c u') { s with toks := tk }) : wpAny (model prog w) A (binaryOp .Pow (.int a t) (.int n u)) Q E s := powE he hn hm (h _ _)
theorem shlA (he : a * 2 ^ n.toNat = c) (hn : 0 ≤ n) (hm : (intBits a : Int) + n ≤ 2 ^ 27) (h : ∀ u' tk, Q (.int c u') { s with toks := tk }) : wpAny (model prog w) A (binaryOp .LShift (.int a t) (.int n u)) Q E s := shlE he hn hm (h _ _)
theorem shrA (he : a / 2 ^ n.toNat = c) (hn : 0 ≤ n) (h : ∀ u' tk, Q (.int c u') { s with toks := tk }) : wpAny (model prog w) A (binaryOp .RShift (.int a t) (.int n u)) Q E s := shrE he hn (h _ _)
end
end
section
open PySem PySem.W PyProof.Rows
set_option Elab.async false
open PySem.Builtin.Int (intBits)
theorem knows1 {h₀ h : Heap} {L : Addr} {m : Str → Option Value} {x : Str} {v : Value} (F : Fr h₀ L h m) (hx : m x = some v) : ∃ m' : Str → Option Value, Fr h₀ L h (fun z => if z = x then some v else m' z) := by
  refine ⟨m, ?_⟩
  have e : (fun z => if z = x then some v else m z) = m := by
    funext z
    by_cases h1 : z = x
    · rw [if_pos h1, h1, hx]
    · rw [if_neg h1]
  rw [e]; exact F
end
section
open PySem PySem.W PyProof.Rows
set_option Elab.async false
open PySem.Builtin.Int (intBits)

/-- what sd tells: -1 below, 1 above, 0 at what is sought; N / M is the simplest at which it is 0 -/
structure Side (sd : Int → Int → Int) (N M : Int) : Prop where
  N1 : 1 ≤ N
  M1 : 1 ≤ M
  rng : ∀ n m, sd n m = -1 ∨ sd n m = 0 ∨ sd n m = 1
  lo : ∀ n m, 0 < n → 0 < m → n * M ≤ N * m → sd n m ≤ 0
  hi : ∀ n m, 0 < n → 0 < m → N * m ≤ n * M → 0 ≤ sd n m
  min : ∀ n m, 0 < n → 0 < m → sd n m = 0 → N ≤ n ∧ M ≤ m
  NB : N ≤ 2 ^ 230
  MB : M ≤ 2 ^ 230
  small : N ≤ 2 ^ 110 ∨ M ≤ 2 ^ 110
theorem Side.swap {sd : Int → Int → Int} {N M : Int} (h : Side sd N M) : Side (fun n m => - sd m n) M N where
  N1 := h.M1
  M1 := h.N1
  rng n m := by have := h.rng m n; omega
  lo n m hn hm e := by have := h.hi m n hm hn (by rw [Int.mul_comm N, Int.mul_comm m]; exact e); omega
  hi n m hn hm e := by have := h.lo m n hm hn (by rw [Int.mul_comm N, Int.mul_comm m]; exact e); omega
  min n m hn hm e := by have := h.min m n hm hn (by omega); exact ⟨this.2, this.1⟩
  NB := h.MB
  MB := h.NB
  small := h.small.symm

/-- between the ends a / b and c / d, in turn i -/
structure AS (N M : Int) (i : Nat) (a b c d : Int) : Prop where
  a0 : 0 ≤ a
  b0 : 0 ≤ b
  c0 : 0 ≤ c
  d0 : 0 ≤ d
  det : c * b - a * d = 1
  st : ∃ s t : Int, 1 ≤ s ∧ 1 ≤ t ∧ N = a * s + c * t ∧ M = b * s + d * t ∧ ((i = 0 ∧ s = M ∧ t = N) ∨ (1 ≤ i ∧ s * t * 2 ^ (i - 1) ≤ 2 ^ 220))
theorem AS.swap {N M : Int} {i : Nat} {a b c d : Int} (h : AS N M i a b c d) : AS M N i d c b a := by
  obtain ⟨a0, b0, c0, d0, det, s, t, s1, t1, e1, e2, f⟩ := h
  refine ⟨d0, c0, b0, a0, by grind, t, s, t1, s1, by omega, by omega, ?_⟩
  rcases f with ⟨f1, f2, f3⟩ | ⟨f1, f2⟩
  · exact .inl ⟨f1, f3, f2⟩
  · exact .inr ⟨f1, by rw [Int.mul_comm t]; exact f2⟩
theorem AS.zero {N M : Int} (h1 : 1 ≤ N) (h2 : 1 ≤ M) : AS N M 0 0 1 1 0 :=
  ⟨by decide, by decide, by decide, by decide, by decide, M, N, h2, h1, by omega, by omega, .inl ⟨rfl, rfl, rfl⟩⟩
theorem AS.ends {N M : Int} {i : Nat} {a b c d : Int} (h : AS N M i a b c d) : 1 ≤ b ∧ 1 ≤ c ∧ a + c ≤ N ∧ b + d ≤ M := by
  obtain ⟨a0, b0, c0, d0, det, s, t, s1, t1, e1, e2, _⟩ := h
  have had := Int.mul_nonneg a0 d0
  have hb : 1 ≤ b := by
    rcases Int.lt_or_eq_of_le b0 with h | h
    · exact h
    · rw [← h] at det; omega
  have hc : 1 ≤ c := by
    rcases Int.lt_or_eq_of_le c0 with h | h
    · exact h
    · rw [← h] at det; omega
  have q1 := Int.mul_le_mul_of_nonneg_left s1 a0
  have q2 := Int.mul_le_mul_of_nonneg_left t1 c0
  have q3 := Int.mul_le_mul_of_nonneg_left s1 b0
  have q4 := Int.mul_le_mul_of_nonneg_left t1 d0
  exact ⟨hb, hc, by omega, by omega⟩
theorem AS.hit {sd : Int → Int → Int} {N M : Int} {i : Nat} {a b c d : Int} (S : Side sd N M) (h : AS N M i a b c d) (h0 : sd (a + c) (b + d) = 0) : a + c = N ∧ b + d = M := by
  obtain ⟨hb, hc, h1, h2⟩ := h.ends
  have hs := h.a0
  have hd := h.d0
  have := S.min _ _ (by omega) (by omega) h0
  omega

/-- how far the end a / b may go toward c / d -/
structure Gal (sd : Int → Int → Int) (a b c d side K : Int) : Prop where
  K1 : 1 ≤ K
  KB : K ≤ 2 ^ 230
  yes : ∀ k, 1 ≤ k → k ≤ K → sd (a + k * c) (b + k * d) = side
  no : ∀ k, K < k → sd (a + k * c) (b + k * d) ≠ side
  pos : ∀ k, 1 ≤ k → 0 < a + k * c ∧ 0 < b + k * d
  a0 : 0 ≤ a
  b0 : 0 ≤ b
  c0 : 0 ≤ c
  d0 : 0 ≤ d
  aB : a ≤ 2 ^ 230
  bB : b ≤ 2 ^ 230
  cB : c ≤ 2 ^ 230
  dB : d ≤ 2 ^ 230
theorem AS.low {sd : Int → Int → Int} {N M : Int} {i : Nat} {a b c d : Int} (S : Side sd N M) (h : AS N M i a b c d) (h0 : sd (a + c) (b + d) = -1) :
    ∃ K, Gal sd a b c d (-1) K ∧ AS N M (i + 1) (a + K * c) (b + K * d) c d := by
  have he := h.ends
  obtain ⟨a0, b0, c0, d0, det, s, t, s1, t1, e1, e2, f⟩ := h
  obtain ⟨hb, hc, hN, hM⟩ := he
  have NB := S.NB
  have MB := S.MB
  have key : ∀ k : Int, (a + k * c) * M - N * (b + k * d) = k * s - t := by
    intro k
    have : (a + k * c) * M - N * (b + k * d) = (k * s - t) * (c * b - a * d) := by rw [e1, e2]; grind
    rw [this, det, Int.mul_one]
  have hst : s < t := by
    refine Int.not_le.mp fun h' => ?_
    have k1 := key 1
    rw [Int.one_mul, Int.one_mul, Int.one_mul] at k1
    have := S.hi (a + c) (b + d) (by omega) (by omega) (by omega)
    omega
  have tN : t ≤ N := by
    have q1 := Int.mul_nonneg a0 (show 0 ≤ s by omega)
    have q2 := Int.mul_le_mul_of_nonneg_right hc (show 0 ≤ t by omega)
    omega
  obtain ⟨K, hK⟩ : ∃ K, K = (t - 1) / s := ⟨_, rfl⟩
  have k1 : K * s ≤ t - 1 := by rw [hK]; exact Int.ediv_mul_le _ (by omega)
  have k2 : t - 1 < (K + 1) * s := by rw [hK]; exact Int.lt_ediv_add_one_mul_self _ (by omega)
  have K1 : 1 ≤ K := by rw [hK]; exact Int.le_ediv_of_mul_le (by omega) (by omega)
  have KK : K ≤ K * s := by
    have := Int.mul_le_mul_of_nonneg_left s1 (show 0 ≤ K by omega)
    omega
  refine ⟨K, ⟨K1, by omega, ?_, ?_, ?_, a0, b0, c0, d0, by omega, by omega, by omega, by omega⟩, ?_⟩
  · intro k hk hkK
    have hks : k * s ≤ K * s := Int.mul_le_mul_of_nonneg_right hkK (by omega)
    have hkc := Int.mul_le_mul_of_nonneg_right hk c0
    have hkd := Int.mul_nonneg (show 0 ≤ k by omega) d0
    have hkk : k ≤ k * s := by
      have := Int.mul_le_mul_of_nonneg_left s1 (show 0 ≤ k by omega)
      omega
    have hle := S.lo (a + k * c) (b + k * d) (by omega) (by omega) (by have := key k; omega)
    rcases S.rng (a + k * c) (b + k * d) with h | h | h
    · exact h
    · exfalso
      have hm := S.min _ _ (show 0 < a + k * c by omega) (show 0 < b + k * d by omega) h
      have q1 : c ≤ c * (t - k) := by have := Int.mul_le_mul_of_nonneg_left (show 1 ≤ t - k by omega) c0; omega
      have q2 : 0 ≤ a * (s - 1) := Int.mul_nonneg a0 (by omega)
      have q3 : N - (a + k * c) = c * (t - k) + a * (s - 1) := by rw [e1]; grind
      omega
    · omega
  · intro k hk hs
    have hkc := Int.mul_nonneg (show 0 ≤ k by omega) c0
    have hkd := Int.mul_nonneg (show 0 ≤ k by omega) d0
    have hkc' := Int.mul_le_mul_of_nonneg_right (show 1 ≤ k by omega) c0
    have hks : (K + 1) * s ≤ k * s := Int.mul_le_mul_of_nonneg_right (by omega) (by omega)
    have := S.hi (a + k * c) (b + k * d) (by omega) (by omega) (by have := key k; omega)
    omega
  · intro k hk
    have hkc := Int.mul_le_mul_of_nonneg_right hk c0
    have hkd := Int.mul_nonneg (show 0 ≤ k by omega) d0
    omega
  · have hkc := Int.mul_nonneg (show 0 ≤ K by omega) c0
    have hkd := Int.mul_nonneg (show 0 ≤ K by omega) d0
    have es : (K + 1) * s = K * s + s := by rw [Int.add_mul, Int.one_mul]
    have Ks1 : s ≤ K * s := by have := Int.mul_le_mul_of_nonneg_right K1 (show 0 ≤ s by omega); omega
    refine ⟨by omega, by omega, c0, d0, by grind, s, t - K * s, s1, by omega, by rw [e1]; grind, by rw [e2]; grind, .inr ⟨by omega, ?_⟩⟩
    obtain ⟨u, hu⟩ : ∃ u, t - K * s = u := ⟨_, rfl⟩
    rw [hu]
    have u1 : 1 ≤ u := by omega
    have us : u ≤ s := by omega
    rcases f with ⟨f1, f2, f3⟩ | ⟨f1, f2⟩
    · subst f1
      have hMs : M ≤ 2 ^ 110 := by have := S.small; omega
      have q1 : s * u ≤ s * s := Int.mul_le_mul_of_nonneg_left us (by omega)
      have q2 : s * s ≤ 2 ^ 110 * 2 ^ 110 := Int.mul_le_mul (by omega) (by omega) (by omega) (by decide)
      have q3 : (2 : Int) ^ 110 * 2 ^ 110 = 2 ^ 220 := by decide
      show s * u * 2 ^ 0 ≤ 2 ^ 220
      omega
    · obtain ⟨j, rfl⟩ : ∃ j, i = j + 1 := ⟨i - 1, by omega⟩
      have q0 : 2 * u ≤ t := by omega
      have q1 : s * (2 * u) ≤ s * t := Int.mul_le_mul_of_nonneg_left q0 (by omega)
      have q2 : s * (2 * u) * 2 ^ j ≤ s * t * 2 ^ j := Int.mul_le_mul_of_nonneg_right q1 (Int.le_of_lt (two_pow_pos' j))
      show s * u * 2 ^ (j + 1) ≤ 2 ^ 220
      have e : s * u * 2 ^ (j + 1) = s * (2 * u) * 2 ^ j := by rw [Int.pow_succ]; grind
      rw [e]
      exact Int.le_trans q2 f2
theorem AS.high {sd : Int → Int → Int} {N M : Int} {i : Nat} {a b c d : Int} (S : Side sd N M) (h : AS N M i a b c d) (h0 : sd (a + c) (b + d) = 1) :
    ∃ K, Gal sd c d a b 1 K ∧ AS N M (i + 1) a b (c + K * a) (d + K * b) := by
  obtain ⟨K, g, h'⟩ := h.swap.low S.swap (by show - sd (c + a) (d + b) = -1; rw [Int.add_comm c, Int.add_comm d, h0])
  obtain ⟨K1, KB, yes, no, pos, a0, b0, c0, d0, aB, bB, cB, dB⟩ := g
  refine ⟨K, ⟨K1, KB, fun k h1 h2 => ?_, fun k h1 h2 => ?_, fun k h1 => ⟨(pos k h1).2, (pos k h1).1⟩, b0, a0, d0, c0, bB, aB, dB, cB⟩, h'.swap⟩
  · have e : - sd (c + k * a) (d + k * b) = -1 := yes k h1 h2
    omega
  · exact no k h1 (by show - sd (c + k * a) (d + k * b) = -1; omega)
theorem AS.over {N M : Int} {a b c d : Int} (h : AS N M 300 a b c d) : False := by
  obtain ⟨_, _, _, _, _, s, t, s1, t1, _, _, f⟩ := h
  rcases f with ⟨f1, _⟩ | ⟨_, f2⟩
  · omega
  · have q1 : 1 * 1 ≤ s * t := Int.mul_le_mul s1 t1 (by decide) (by omega)
    have q2 := Int.mul_le_mul_of_nonneg_right q1 (show (0 : Int) ≤ 2 ^ (300 - 1) by decide)
    have q3 : ¬ ((1 * 1 : Int) * 2 ^ (300 - 1) ≤ 2 ^ 220) := by decide
    omega

/-- the simplest ratio from a / b to c / d -/
structure Simp (a b c d n m : Int) : Prop where
  n1 : 1 ≤ n
  m1 : 1 ≤ m
  lo : a * m ≤ n * b
  hi : n * d ≤ c * m
  min : ∀ n' m', 0 < n' → 0 < m' → a * m' ≤ n' * b → n' * d ≤ c * m' → n ≤ n' ∧ m ≤ m'
structure Iv (a b c d : Int) : Prop where
  a1 : 0 < a
  b1 : 0 < b
  c1 : 0 < c
  d1 : 0 < d
  le : a * d ≤ c * b
theorem ceil_of {a b : Int} (hb : 0 < b) : a ≤ -(-a / b) * b ∧ -(-a / b) * b < a + b := by
  have h1 := Int.ediv_mul_le (-a) (b := b) (by omega)
  have h2 := Int.lt_ediv_add_one_mul_self (-a) hb
  rw [Int.add_mul] at h2
  rw [Int.neg_mul]
  omega
theorem Simp.base {a b c d : Int} (h : Iv a b c d) (hq : -(-a / b) * d ≤ c) : Simp a b c d (-(-a / b)) 1 := by
  obtain ⟨h1, h2⟩ := ceil_of (a := a) h.b1
  have hb := h.b1
  have ha := h.a1
  generalize -(-a / b) = q at *
  have q1 : 1 ≤ q := by
    refine Int.not_lt.mp fun h' => ?_
    have := Int.mul_nonpos_of_nonpos_of_nonneg (show q ≤ 0 by omega) (Int.le_of_lt hb)
    omega
  refine ⟨q1, by decide, by omega, by omega, fun n' m' hn hm e1 e2 => ⟨?_, by omega⟩⟩
  refine Int.not_lt.mp fun h' => ?_
  have := Int.mul_le_mul_of_nonneg_right (show n' + 1 ≤ q by omega) (Int.le_of_lt hb)
  rw [Int.add_mul] at this
  have := Int.mul_le_mul_of_nonneg_left (show 1 ≤ m' by omega) (Int.le_of_lt ha)
  omega
theorem Simp.le {a b c d n m : Int} (h : Iv a b c d) (s : Simp a b c d n m) : n ≤ a ∧ m ≤ b := s.min a b h.a1 h.b1 (Int.le_refl _) h.le
structure Step (a b c d w r c' : Int) : Prop where
  iv : Iv d c' b r
  w0 : 0 ≤ w
  ea : a = w * b + r
  ec : c = w * d + c'
  rb : r < b
  cd : c' < d
theorem Iv.step {a b c d : Int} (h : Iv a b c d) (hq : c < -(-a / b) * d) : Step a b c d (a / b) (a % b) (c - a / b * d) := by
  obtain ⟨h1, h2⟩ := ceil_of (a := a) h.b1
  have hb := h.b1
  have ha := h.a1
  have hd := h.d1
  have hle := h.le
  have r0 := Int.emod_nonneg a (show b ≠ 0 by omega)
  have r1 := Int.emod_lt_of_pos a hb
  have e0 := Int.mul_ediv_add_emod a b
  have w0 : 0 ≤ a / b := Int.ediv_nonneg (by omega) (by omega)
  rw [Int.mul_comm] at e0
  generalize -(-a / b) = q at *
  generalize a / b = w at *
  generalize a % b = r at *
  -- the upper whole number is w + 1, or w
  have hqw : q ≤ w + 1 := by
    refine Int.not_lt.mp fun h' => ?_
    have := Int.mul_le_mul_of_nonneg_right (show w + 2 ≤ q by omega) (Int.le_of_lt hb)
    rw [Int.add_mul] at this
    omega
  have hqd := Int.mul_le_mul_of_nonneg_right hqw (Int.le_of_lt hd)
  rw [Int.add_mul] at hqd
  have hr : 0 < r := by
    rcases Int.lt_or_eq_of_le r0 with h' | h'
    · exact h'
    · exfalso
      have hqw' : q ≤ w := by
        refine Int.not_lt.mp fun h'' => ?_
        have := Int.mul_le_mul_of_nonneg_right (show w + 1 ≤ q by omega) (Int.le_of_lt hb)
        rw [Int.add_mul] at this
        omega
      have g1 := Int.mul_le_mul_of_nonneg_right hqw' (Int.le_of_lt hd)
      have g2 : w * d * b ≤ c * b := by
        have : a * d = w * d * b := by rw [← e0, ← h']; grind
        omega
      have g3 := Int.le_of_mul_le_mul_right g2 hb
      omega
  have hc : 0 < c - w * d := by
    have g1 : w * d * b < c * b := by
      have e : a * d = w * d * b + r * d := by rw [← e0]; grind
      have := Int.mul_pos hr hd
      omega
    have := Int.lt_of_mul_lt_mul_right g1 (Int.le_of_lt hb)
    omega
  refine ⟨⟨hd, hc, hb, hr, ?_⟩, w0, by omega, by omega, r1, by omega⟩
  have e1 : a * d = w * d * b + d * r := by rw [← e0]; grind
  have e2 : b * (c - w * d) = c * b - w * d * b := by grind
  omega
theorem Step.back {a b c d w r c' n m : Int} (_h : Iv a b c d) (st : Step a b c d w r c') (s : Simp d c' b r n m) : Simp a b c d (w * n + m) n := by
  obtain ⟨⟨d1, c1, b1, r1, _⟩, w0, ea, ec, rb, cd⟩ := st
  obtain ⟨n1, m1, lo, hi, min⟩ := s
  have q0 := Int.mul_nonneg w0 (show 0 ≤ n by omega)
  refine ⟨by omega, n1, ?_, ?_, ?_⟩
  · have : (w * n + m) * b - a * n = b * m - n * r := by rw [ea]; grind
    omega
  · have : c * n - (w * n + m) * d = n * c' - d * m := by rw [ec]; grind
    omega
  · intro n' m' hn hm e1 e2
    obtain ⟨q, hq⟩ : ∃ q, n' = w * m' + q := ⟨n' - w * m', by omega⟩
    have g1 : m' * r ≤ b * q := by
      have : n' * b - a * m' = b * q - m' * r := by rw [hq, ea]; grind
      omega
    have g2 : d * q ≤ m' * c' := by
      have : c * m' - n' * d = m' * c' - d * q := by rw [hq, ec]; grind
      omega
    have hq0 : 0 < q := by
      refine Int.not_le.mp fun h' => ?_
      have := Int.mul_pos hm r1
      have := Int.mul_nonpos_of_nonneg_of_nonpos (Int.le_of_lt b1) h'
      omega
    obtain ⟨i1, i2⟩ := min m' q hm hq0 g2 g1
    have := Int.mul_le_mul_of_nonneg_left i1 w0
    omega

/-- the ends after some wholes are taken off -/
inductive Unf (a0 b0 c0 d0 : Int) : List Int → Int → Int → Int → Int → Prop
  | nil : Unf a0 b0 c0 d0 [] a0 b0 c0 d0
  | snoc {ws : List Int} {a b c d w r c' : Int} : Unf a0 b0 c0 d0 ws a b c d → Iv a b c d → Step a b c d w r c' → Unf a0 b0 c0 d0 (ws ++ [w]) d c' b r
theorem Unf.iv {a0 b0 c0 d0 : Int} (h0 : Iv a0 b0 c0 d0) {ws : List Int} {a b c d : Int} (h : Unf a0 b0 c0 d0 ws a b c d) : Iv a b c d := by
  cases h with
  | nil => exact h0
  | snoc _ _ st => exact st.iv
theorem Unf.bound {a0 b0 c0 d0 B : Int} (ha : a0 ≤ B) (hb : b0 ≤ B) (hc : c0 ≤ B) (hd : d0 ≤ B) {ws : List Int} {a b c d : Int} (h : Unf a0 b0 c0 d0 ws a b c d) : a ≤ B ∧ b ≤ B ∧ c ≤ B ∧ d ≤ B := by
  induction h with
  | nil => exact ⟨ha, hb, hc, hd⟩
  | snoc _ iv st ih =>
    obtain ⟨i1, i2, i3, i4⟩ := ih
    have := st.cd
    have := st.rb
    omega
theorem Unf.nil_inv {a0 b0 c0 d0 : Int} {ws : List Int} {a b c d : Int} (h : Unf a0 b0 c0 d0 ws a b c d) (e : ws = []) : a = a0 ∧ b = b0 ∧ c = c0 ∧ d = d0 := by
  cases h with
  | nil => exact ⟨rfl, rfl, rfl, rfl⟩
  | snoc => simp at e
theorem Unf.len {a0 b0 c0 d0 : Int} {ws : List Int} {a b c d : Int} (h : Unf a0 b0 c0 d0 ws a b c d) :
    ws = [] ∨ (1 ≤ ws.length ∧ b ≤ a ∧ (a + b) * (c + d) * 2 ^ (ws.length - 1) ≤ (a0 + b0) * (c0 + d0)) := by
  induction h with
  | nil => exact .inl rfl
  | @snoc ws a b c d w r c' hu iv st ih =>
    obtain ⟨⟨d1, c1, b1, r1, _⟩, w0, ea, ec, rb, cd⟩ := st
    refine .inr ⟨by rw [List.length_append, List.length_singleton]; omega, by omega, ?_⟩
    rw [List.length_append, List.length_singleton, Nat.add_sub_cancel]
    rcases ih with h0 | ⟨hl, hab, hp⟩
    · obtain ⟨rfl, rfl, rfl, rfl⟩ := hu.nil_inv h0
      subst h0
      have q1 := Int.mul_nonneg w0 (Int.le_of_lt d1)
      have q2 := Int.mul_nonneg w0 (Int.le_of_lt b1)
      have g := Int.mul_le_mul (show d + c' ≤ c + d by omega) (show b + r ≤ a + b by omega) (by omega) (by omega)
      rw [Int.mul_comm (c + d)] at g
      show (d + c') * (b + r) * 2 ^ 0 ≤ _
      rw [Int.pow_zero, Int.mul_one]
      exact g
    · obtain ⟨k, hk⟩ : ∃ k, ws.length = k + 1 := ⟨ws.length - 1, by omega⟩
      have w1 : 1 ≤ w := by
        refine Int.not_lt.mp fun h' => ?_
        have : w = 0 := by omega
        rw [this] at ea
        omega
      have q1 := Int.mul_le_mul_of_nonneg_right w1 (Int.le_of_lt d1)
      have q2 := Int.mul_le_mul_of_nonneg_right w1 (Int.le_of_lt b1)
      have g1 : (2 * b + r) * (2 * d + c') ≤ (a + b) * (c + d) := Int.mul_le_mul (by omega) (by omega) (by omega) (by omega)
      have g2 : c' * r ≤ d * b := Int.mul_le_mul (by omega) (by omega) (by omega) (by omega)
      have g3 : (2 * b + r) * (2 * d + c') = 2 * ((d + c') * (b + r)) + 2 * (d * b) - c' * r := by grind
      have g4 := Int.mul_nonneg (Int.le_of_lt d1) (Int.le_of_lt b1)
      have g5 : (d + c') * (b + r) * 2 ≤ (a + b) * (c + d) := by omega
      rw [hk] at hp ⊢
      rw [Nat.add_sub_cancel] at hp
      have g6 := Int.mul_le_mul_of_nonneg_right g5 (Int.le_of_lt (two_pow_pos' k))
      rw [Int.pow_succ]
      have e : (d + c') * (b + r) * (2 ^ k * 2) = (d + c') * (b + r) * 2 * 2 ^ k := by grind
      rw [e]
      exact Int.le_trans g6 hp
theorem Unf.short {a0 b0 c0 d0 : Int} (h0 : Iv a0 b0 c0 d0) (ha : a0 ≤ 2 ^ 800) (hb : b0 ≤ 2 ^ 800) (hc : c0 ≤ 2 ^ 800) (hd : d0 ≤ 2 ^ 800) {ws : List Int} {a b c d : Int} (h : Unf a0 b0 c0 d0 ws a b c d) : ws.length ≤ 2000 := by
  have iv := h.iv h0
  rcases h.len with h1 | ⟨h1, _, h2⟩
  · rw [h1]; decide
  · refine Nat.le_of_not_lt fun h' => ?_
    obtain ⟨k, hk⟩ : ∃ k, ws.length - 1 = k + 2000 := ⟨ws.length - 2001, by omega⟩
    rw [hk, Int.pow_add] at h2
    have q1 : 1 * 1 ≤ (a + b) * (c + d) := Int.mul_le_mul (by have := iv.a1; have := iv.b1; omega) (by have := iv.c1; have := iv.d1; omega) (by decide) (by have := iv.a1; have := iv.b1; omega)
    have q2 : 1 * 2 ^ 2000 ≤ (2 : Int) ^ k * 2 ^ 2000 := Int.mul_le_mul_of_nonneg_right (by have := two_pow_pos' k; omega) (Int.le_of_lt (two_pow_pos' 2000))
    have q3 := Int.mul_le_mul q1 q2 (by rw [Int.one_mul]; exact Int.le_of_lt (two_pow_pos' 2000)) (by omega)
    have q4 : (a0 + b0) * (c0 + d0) ≤ 2 ^ 801 * 2 ^ 801 := by
      clear q1 q2 q3 h2 hk
      have e : (2 : Int) ^ 801 = 2 ^ 800 * 2 := Int.pow_succ ..
      have x0 := two_pow_pos' 800
      rw [e]
      have y1 := h0.c1
      have y2 := h0.d1
      generalize (2 : Int) ^ 800 = X at *
      exact Int.mul_le_mul (by omega) (by omega) (by omega) (by omega)
    have q5 : ¬ ((1 * 1 : Int) * (1 * 2 ^ 2000) ≤ 2 ^ 801 * 2 ^ 801) := by
      simp only [← Int.pow_add, Int.one_mul]
      exact Int.not_le.mpr (Int.pow_lt_pow_of_lt (by decide) (by decide))
    exact q5 (Int.le_trans q3 (Int.le_trans h2 q4))

/-- on the way back: the simplest of what is left -/
def Bk (a0 b0 c0 d0 : Int) (ws : List Int) (i : Nat) (n m : Int) : Prop := ∃ ws' tail a b c d, ws = ws' ++ tail ∧ tail.length = i ∧ Unf a0 b0 c0 d0 ws' a b c d ∧ Simp a b c d n m
theorem Bk.zero {a0 b0 c0 d0 : Int} {ws : List Int} {a b c d n m : Int} (h : Unf a0 b0 c0 d0 ws a b c d) (s : Simp a b c d n m) : Bk a0 b0 c0 d0 ws 0 n m := ⟨ws, [], a, b, c, d, by simp, rfl, h, s⟩
theorem Bk.next {a0 b0 c0 d0 : Int} {ws : List Int} {i : Nat} {n m w : Int} (h : Bk a0 b0 c0 d0 ws i n m) (hw : ws.reverse[i]? = some w) : Bk a0 b0 c0 d0 ws (i + 1) (w * n + m) n := by
  obtain ⟨ws', tail, a, b, c, d, e1, e2, hu, hs⟩ := h
  cases hu with
  | nil =>
    exfalso
    have : ws.reverse.length = i := by rw [List.length_reverse, e1, List.nil_append, e2]
    rw [List.getElem?_eq_none (by omega)] at hw
    cases hw
  | @snoc ws'' a' b' c' d' w' r cc hu iv st =>
    have : w' = w := by
      have e3 : ws.reverse = tail.reverse ++ w' :: ws''.reverse := by rw [e1]; simp
      rw [e3, List.getElem?_append_right (by rw [List.length_reverse]; omega), List.length_reverse, e2, Nat.sub_self] at hw
      exact Option.some.inj hw
    subst this
    exact ⟨ws'', w' :: tail, _, _, _, _, by rw [e1]; simp, by simp [e2], hu, st.back iv hs⟩
theorem Bk.done {a0 b0 c0 d0 : Int} {ws : List Int} {n m : Int} (h : Bk a0 b0 c0 d0 ws ws.length n m) : Simp a0 b0 c0 d0 n m := by
  obtain ⟨ws', tail, a, b, c, d, e1, e2, hu, hs⟩ := h
  have : ws' = [] := by
    have := congrArg List.length e1
    rw [List.length_append] at this
    exact List.length_eq_zero_iff.mp (by omega)
  obtain ⟨rfl, rfl, rfl, rfl⟩ := hu.nil_inv this
  exact hs
theorem Bk.bound {a0 b0 c0 d0 B : Int} (h0 : Iv a0 b0 c0 d0) (ha : a0 ≤ B) (hb : b0 ≤ B) (hc : c0 ≤ B) (hd : d0 ≤ B) {ws : List Int} {i : Nat} {n m : Int} (h : Bk a0 b0 c0 d0 ws i n m) : 1 ≤ n ∧ 1 ≤ m ∧ n ≤ B ∧ m ≤ B := by
  obtain ⟨ws', tail, a, b, c, d, e1, e2, hu, hs⟩ := h
  have b := hu.bound ha hb hc hd
  have := hs.le (hu.iv h0)
  have := hs.n1
  have := hs.m1
  omega
theorem Unf.wholes {a0 b0 c0 d0 B : Int} (h0 : Iv a0 b0 c0 d0) (ha : a0 ≤ B) (hb : b0 ≤ B) (hc : c0 ≤ B) (hd : d0 ≤ B) {ws : List Int} {a b c d : Int} (h : Unf a0 b0 c0 d0 ws a b c d) : ∀ w ∈ ws, 0 ≤ w ∧ w ≤ B := by
  induction h with
  | nil => intro w hw; cases hw
  | @snoc ws a b c d w r c' hu iv st ih =>
    intro x hx
    rcases List.mem_append.mp hx with h | h
    · exact ih x h
    · rw [List.mem_singleton.mp h]
      refine ⟨st.w0, ?_⟩
      have q := Int.mul_le_mul_of_nonneg_left (show 1 ≤ b by have := iv.b1; omega) st.w0
      have := st.ea
      have := st.iv.d1
      have := (hu.bound ha hb hc hd).1
      omega
end
section
open PySem PySem.W PyProof.Rows
set_option Elab.async false
set_option exponentiation.threshold 5000
open PySem.Builtin.Int (intBits)
open Float64 (V roundUn infMag)

/-- which side of the float at place T the root of n / m is told to lie -/
def sdT (T : Nat) (n m : Int) : Int := if T < fsT n m then 1 else if fsT n m < T then -1 else 0
theorem sdT_rng (T : Nat) (n m : Int) : sdT T n m = -1 ∨ sdT T n m = 0 ∨ sdT T n m = 1 := by
  unfold sdT
  split
  · exact .inr (.inr rfl)
  · split
    · exact .inl rfl
    · exact .inr (.inl rfl)
theorem sg_mul {n m tm : Int} (hn : 0 < n) (hm : 0 < m) (ht : tm ≠ 0) : Sg (n * tm) (m * tm) := by
  rcases Int.lt_or_gt_of_ne ht with h | h
  · exact .inr ⟨Int.mul_nonpos_of_nonneg_of_nonpos (by omega) (by omega), Int.mul_neg_of_pos_of_neg hm h⟩
  · exact .inl ⟨Int.mul_nonneg (by omega) (by omega), Int.mul_pos hm h⟩
theorem fsT_mul {n m tm : Int} (hn : 0 < n) (hm : 0 < m) (ht : tm ≠ 0) : fsT (n * tm) (m * tm) = fsT n m := by
  have h := fs_at (sg_mul hn hm ht)
  rw [Int.natAbs_mul, Int.natAbs_mul] at h
  exact (fsT_eq (.inl ⟨by omega, hm⟩) (h.scale (by omega))).symm

theorem val_pack {t : Nat} (h : t < infMag) : Float64.val (Float64.pack false t) = ((V t : Nat) : Int) := by
  obtain ⟨m, e, hd, hv⟩ := Float64.decode_pack false h
  unfold Float64.val
  rw [hd]
  show Float64.sgn false (m * 2 ^ (e + 1074).toNat) = _
  rw [hv]; rfl
theorem cmp_pack {a b : Nat} (ha : a < infMag) (hb : b < infMag) : Float64.cmp (Float64.pack false a) (Float64.pack false b) = some (compare ((V a : Nat) : Int) ((V b : Nat) : Int)) := by
  obtain ⟨m, e, hd, _⟩ := Float64.decode_pack false ha
  obtain ⟨m', e', hd', _⟩ := Float64.decode_pack false hb
  rw [Float64.cmp_right hd hd', val_pack ha, val_pack hb]
theorem V_lt_iff {a b : Nat} : V a < V b ↔ a < b := by
  refine ⟨fun h => ?_, Float64.V_lt⟩
  rcases Nat.lt_trichotomy a b with h' | h' | h'
  · exact h'
  · rw [h'] at h; exact absurd h (Nat.lt_irrefl _)
  · exact absurd h (Nat.not_lt.mpr (Nat.le_of_lt (Float64.V_lt h')))
theorem gt_pack {a b : Nat} (ha : a < infMag) (hb : b < infMag) : (Float64.cmp (Float64.pack false a) (Float64.pack false b) == some .gt) = decide (b < a) := by
  rw [cmp_pack ha hb]
  by_cases h : b < a
  · rw [decide_eq_true h, show compare ((V a : Nat) : Int) ((V b : Nat) : Int) = .gt from Int.compare_eq_gt.mpr (by have := Float64.V_lt h; omega)]; rfl
  · rw [decide_eq_false h]
    have h2 : ¬ V b < V a := fun h' => h (V_lt_iff.mp h')
    cases hc : compare ((V a : Nat) : Int) ((V b : Nat) : Int) with
    | gt => exact absurd (Int.compare_eq_gt.mp hc) (by omega)
    | lt => rfl
    | eq => rfl
theorem lt_pack {a b : Nat} (ha : a < infMag) (hb : b < infMag) : (Float64.cmp (Float64.pack false a) (Float64.pack false b) == some .lt) = decide (a < b) := by
  rw [cmp_pack ha hb]
  by_cases h : a < b
  · rw [decide_eq_true h, show compare ((V a : Nat) : Int) ((V b : Nat) : Int) = .lt from Int.compare_eq_lt.mpr (by have := Float64.V_lt h; omega)]; rfl
  · rw [decide_eq_false h]
    have h2 : ¬ V a < V b := fun h' => h (V_lt_iff.mp h')
    cases hc : compare ((V a : Nat) : Int) ((V b : Nat) : Int) with
    | lt => exact absurd (Int.compare_eq_lt.mp hc) (by omega)
    | gt => rfl
    | eq => rfl
/-- what _law_side gives back -/
theorem side_val {T : Nat} {n m tm : Int} (hT : T < infMag) (hn : 0 < n) (hm : 0 < m) (ht : tm ≠ 0) (hf : fsT n m < infMag) :
    b2i (Float64.cmp (fsF (n * tm) (m * tm)) (Float64.pack false T) == some .gt) - b2i (Float64.cmp (fsF (n * tm) (m * tm)) (Float64.pack false T) == some .lt) = sdT T n m := by
  have e := fsT_mul hn hm ht
  rw [fsF_at (by rw [e]; exact hf), e, gt_pack hf hT, lt_pack hf hT]
  unfold sdT b2i
  by_cases h1 : T < fsT n m
  · rw [decide_eq_true h1, decide_eq_false (by omega), if_pos h1]; rfl
  · rw [decide_eq_false h1, if_neg h1]
    by_cases h2 : fsT n m < T
    · rw [decide_eq_true h2, if_pos h2]; rfl
    · rw [decide_eq_false h2, if_neg h2]; rfl

/-- the float's own numbers: whole w, U = 2 ^ α above, D = 2 ^ β below -/
structure Flo (T w U D α β e : Nat) : Prop where
  w1 : 2 ^ 52 ≤ w
  w2 : w < 2 ^ 53
  eT : T = (e + 1) * 2 ^ 52 + (w - 2 ^ 52)
  e1 : 900 ≤ e
  e2 : e ≤ 1200
  ab : α + 1074 = e + β
  one : α = 0 ∨ β = 0
  eU : U = 2 ^ α
  eD : D = 2 ^ β
  aB : α ≤ 60
  bB : β ≤ 104
theorem Flo.T53 {T w U D α β e : Nat} (h : Flo T w U D α β e) : 2 ^ 53 ≤ T := by
  have := h.eT; have := h.e1; omega
theorem Flo.fin {T w U D α β e : Nat} (h : Flo T w U D α β e) : T < infMag := by
  have := h.eT; have := h.e2; have := h.w2
  unfold infMag; omega
theorem Flo.par {T w U D α β e : Nat} (h : Flo T w U D α β e) : T % 2 = w % 2 := by
  have := h.eT; have := h.w1; omega
theorem Flo.mod {T w U D α β e : Nat} (h : Flo T w U D α β e) : 2 ^ 52 + T % 2 ^ 52 = w ∧ T / 2 ^ 52 - 1 = e := by
  have := h.eT; have := h.w1; have := h.w2; omega
theorem Flo.V {T w U D α β e : Nat} (h : Flo T w U D α β e) : V T = w * 2 ^ e := by
  have := h.T53
  rw [V_norm (by omega), h.mod.1, h.mod.2]
theorem round_eq {t n d : Nat} (hd : 0 < d) (h : n * 2 ^ 1074 = d * V t) : roundUn n d = t := by
  have hr := (Float64.roundUn_right (n := n) (d := d) hd t).1
  generalize roundUn n d = r at *
  rw [h] at hr
  have e : Float64.dist (d * V t) (d * V t) = 0 := by unfold Float64.dist; omega
  rw [e] at hr
  have h2 : d * V t = d * V r := by unfold Float64.dist at hr; omega
  exact (V_inj (Nat.eq_of_mul_eq_mul_left hd h2)).symm
theorem Flo.due {T w U D α β e : Nat} (h : Flo T w U D α β e) : Float64.ofFrac false (w * U) D = Float64.pack false T := by
  have hD : 0 < D := by rw [h.eD]; exact Nat.two_pow_pos _
  have key : w * U * 2 ^ 1074 = D * Float64.V T := by
    rw [h.V, h.eU, h.eD, Nat.mul_assoc, ← Nat.pow_add, h.ab, Nat.pow_add, Nat.mul_comm (2 ^ β), Nat.mul_assoc]
  unfold Float64.ofFrac
  rw [Float64.roundMag_min, round_eq hD key, Nat.min_eq_right (Nat.le_of_lt h.fin)]

/-- the middles, in whole numbers -/
theorem Flo.mid {T w U D α β e X : Nat} (h : Flo T w U D α β e) {s c : Nat} (hs : 2 * s = c * 2 ^ e) (hX : X = 2 ^ 1074 * 2 ^ 1074) : s * s * (4 * (D * D)) = (c * U) * (c * U) * X := by
  have h1 : 2 ^ e * D = U * 2 ^ 1074 := by rw [h.eU, h.eD, ← Nat.pow_add, ← Nat.pow_add, h.ab]
  have h2 : s * s * (4 * (D * D)) = (2 * s * D) * (2 * s * D) := by grind
  have h3 : c * 2 ^ e * D = c * U * 2 ^ 1074 := by rw [Nat.mul_assoc, h1, ← Nat.mul_assoc]
  rw [h2, hs, h3, hX]
  generalize (2 : Nat) ^ 1074 = Y
  grind
theorem Flo.wide {D X : Nat} (hX : X = 2 ^ 1074 * 2 ^ 1074) : 2 ^ 1075 * 2 ^ 1075 * (4 * (D * D)) = 16 * (D * D) * X := by
  rw [hX, show (2 : Nat) ^ 1075 = 2 ^ 1074 * 2 from Nat.pow_succ ..]
  generalize (2 : Nat) ^ 1074 = Y
  grind

/-- the lower and the upper number of the ends -/
def lowC (w : Nat) : Nat := 4 * w - (if w = 2 ^ 52 then 1 else 2)
structure Cmp (T lo2 hi2 P n m : Nat) : Prop where
  gt : T < fsT (n : Int) (m : Int) → hi2 * m ≤ n * P ∧ (hi2 * m = n * P → T % 2 = 1)
  lt : fsT (n : Int) (m : Int) < T → n * P ≤ lo2 * m ∧ (n * P = lo2 * m → T % 2 = 1)
  eq : fsT (n : Int) (m : Int) = T → lo2 * m ≤ n * P ∧ n * P ≤ hi2 * m ∧ (lo2 * m = n * P → T % 2 = 0) ∧ (n * P = hi2 * m → T % 2 = 0)
theorem cmp_core {T i n m t W C P X hi2 lo2 : Nat} (hi : T = i + 1) (hm : 0 < m) (a : At n m W t) (hX : 0 < X) (hC : 0 < C) (m1 : S T * S T * C = hi2 * X) (m2 : S i * S i * C = lo2 * X) (w1 : W * W * C = P * X) :
    (T < t → hi2 * m ≤ n * P ∧ (hi2 * m = n * P → T % 2 = 1)) ∧ (t < T → n * P ≤ lo2 * m ∧ (n * P = lo2 * m → T % 2 = 1)) ∧
    (t = T → lo2 * m ≤ n * P ∧ n * P ≤ hi2 * m ∧ (lo2 * m = n * P → T % 2 = 0) ∧ (n * P = hi2 * m → T % 2 = 0)) := by
  -- both sides times C
  have eN : n * (W * W) * C = n * P * X := by rw [Nat.mul_assoc, w1, Nat.mul_assoc]
  have eH : m * (S T * S T) * C = hi2 * m * X := by rw [Nat.mul_assoc, m1, ← Nat.mul_assoc, Nat.mul_comm m]
  have eL : m * (S i * S i) * C = lo2 * m * X := by rw [Nat.mul_assoc, m2, ← Nat.mul_assoc, Nat.mul_comm m]
  have toLe : ∀ {x y p q : Nat}, x * C = p * X → y * C = q * X → x ≤ y → p ≤ q := fun h1 h2 h => Nat.le_of_mul_le_mul_right (by rw [← h1, ← h2]; exact Nat.mul_le_mul_right _ h) hX
  have toEq : ∀ {x y p q : Nat}, x * C = p * X → y * C = q * X → p = q → x = y := fun h1 h2 h => Nat.eq_of_mul_eq_mul_right hC (by rw [h1, h2, h])
  have Sinj : ∀ {x y : Nat}, m * (S x * S x) = m * (S y * S y) → x = y := by
    intro x y hxy
    have h9 := Nat.eq_of_mul_eq_mul_left hm hxy
    rcases Nat.lt_trichotomy x y with h | h | h
    · exact absurd h9 (Nat.ne_of_lt (sq_lt (S_lt h)))
    · exact h
    · exact absurd h9 (Nat.ne_of_gt (sq_lt (S_lt h)))
  have Smono : ∀ {x y : Nat}, x ≤ y → m * (S x * S x) ≤ m * (S y * S y) := fun h => Nat.mul_le_mul_left _ (sq_le (S_le h))
  refine ⟨fun ht => ?_, fun ht => ?_, fun ht => ?_⟩
  · obtain ⟨j, rfl⟩ : ∃ j, t = j + 1 := ⟨t - 1, by omega⟩
    have d1 := a.dn j rfl
    have d2 := Smono (show T ≤ j by omega)
    refine ⟨toLe eH eN (Nat.le_trans d2 d1), fun he => ?_⟩
    have q := toEq eH eN he
    have : T = j := Sinj (Nat.le_antisymm d2 (by rw [q]; exact d1))
    subst this
    have := a.dnE T rfl q
    omega
  · have u1 := a.up
    have u2 := Smono (show t ≤ i by omega)
    refine ⟨toLe eN eL (Nat.le_trans u1 u2), fun he => ?_⟩
    have q := toEq eN eL he
    have : t = i := Sinj (Nat.le_antisymm u2 (by rw [← q]; exact u1))
    subst this
    have := a.upE q
    omega
  · subst ht
    exact ⟨toLe eL eN (a.dn i hi), toLe eN eH a.up, fun he => a.dnE i hi (toEq eL eN he), fun he => a.upE (toEq eN eH he)⟩

theorem Flo.cmp {T w U D α β e : Nat} (h : Flo T w U D α β e) {n m : Nat} (hn : 0 < n) (hm : 0 < m) : Cmp T (lowC w * U * (lowC w * U)) ((4 * w + 2) * U * ((4 * w + 2) * U)) (16 * (D * D)) n m := by
  have hT := h.T53
  obtain ⟨i, hi⟩ : ∃ i, T = i + 1 := ⟨T - 1, by omega⟩
  have a := fs_at (n := (n : Int)) (m := (m : Int)) (.inl ⟨by omega, by omega⟩)
  rw [Int.natAbs_natCast, Int.natAbs_natCast] at a
  have s1 := S_here (t := T) (by omega)
  have s2 := S_below hT hi
  rw [h.mod.1, h.mod.2] at s1 s2
  obtain ⟨X, eX⟩ : ∃ X : Nat, X = 2 ^ 1074 * 2 ^ 1074 := ⟨_, rfl⟩
  have hX : 0 < X := by rw [eX]; exact Nat.mul_pos (Nat.two_pow_pos _) (Nat.two_pow_pos _)
  have hC : 0 < 4 * (D * D) := by
    have : 0 < D := by rw [h.eD]; exact Nat.two_pow_pos _
    have := Nat.mul_pos this this
    omega
  obtain ⟨g1, g2, g3⟩ := cmp_core hi hm a hX hC (h.mid s1 eX) (h.mid (c := lowC w) s2 eX) (Flo.wide eX)
  exact ⟨g1, g2, g3⟩
end
section
open PySem PySem.W PyProof.Rows
set_option Elab.async false
set_option exponentiation.threshold 5000
open PySem.Builtin.Int (intBits)
open Float64 (V roundUn infMag)

/-- within the ends -/
structure In (w : Nat) (lo hi P n m : Int) : Prop where
  l : lo * m ≤ n * P
  h : n * P ≤ hi * m
  lE : lo * m = n * P → w % 2 = 0
  hE : n * P = hi * m → w % 2 = 0
structure CmpI (T w : Nat) (lo hi P : Int) : Prop where
  gt : ∀ n m : Int, 0 < n → 0 < m → sdT T n m = 1 → hi * m ≤ n * P ∧ (hi * m = n * P → w % 2 = 1)
  lt : ∀ n m : Int, 0 < n → 0 < m → sdT T n m = -1 → n * P ≤ lo * m ∧ (n * P = lo * m → w % 2 = 1)
  eq : ∀ n m : Int, 0 < n → 0 < m → sdT T n m = 0 → In w lo hi P n m
theorem Flo.cmpI {T w U D α β e : Nat} (h : Flo T w U D α β e) : CmpI T w ((lowC w * U * (lowC w * U) : Nat) : Int) (((4 * w + 2) * U * ((4 * w + 2) * U) : Nat) : Int) ((16 * (D * D) : Nat) : Int) := by
  have hp := h.par
  have key : ∀ n m : Nat, 0 < n → 0 < m → Cmp T (lowC w * U * (lowC w * U)) ((4 * w + 2) * U * ((4 * w + 2) * U)) (16 * (D * D)) n m := fun n m hn hm => h.cmp hn hm
  generalize lowC w * U * (lowC w * U) = lo at *
  generalize (4 * w + 2) * U * ((4 * w + 2) * U) = hi at *
  generalize 16 * (D * D) = P at *
  have e1 : ∀ n m : Int, sdT T n m = 1 → T < fsT n m := by
    intro n m h; unfold sdT at h; split at h
    · assumption
    · split at h <;> omega
  have e2 : ∀ n m : Int, sdT T n m = -1 → fsT n m < T := by
    intro n m h; unfold sdT at h; split at h
    · omega
    · split at h
      · assumption
      · omega
  have e3 : ∀ n m : Int, sdT T n m = 0 → fsT n m = T := by
    intro n m h; unfold sdT at h; split at h
    · omega
    · split at h <;> omega
  refine ⟨fun n m hn hm hs => ?_, fun n m hn hm hs => ?_, fun n m hn hm hs => ?_⟩ <;>
    (obtain ⟨N, rfl⟩ := Int.eq_ofNat_of_zero_le (Int.le_of_lt hn); obtain ⟨M, rfl⟩ := Int.eq_ofNat_of_zero_le (Int.le_of_lt hm); have c := key N M (by omega) (by omega))
  · obtain ⟨g1, g2⟩ := c.gt (e1 _ _ hs)
    exact ⟨by exact_mod_cast g1, fun he => by rw [← hp]; exact g2 (by exact_mod_cast he)⟩
  · obtain ⟨g1, g2⟩ := c.lt (e2 _ _ hs)
    exact ⟨by exact_mod_cast g1, fun he => by rw [← hp]; exact g2 (by exact_mod_cast he)⟩
  · obtain ⟨g1, g2, g3, g4⟩ := c.eq (e3 _ _ hs)
    exact ⟨by exact_mod_cast g1, by exact_mod_cast g2, fun he => by rw [← hp]; exact g3 (by exact_mod_cast he), fun he => by rw [← hp]; exact g4 (by exact_mod_cast he)⟩

/-- cross products: n M ≤ N m -/
theorem cross {n m N M p q P : Int} (hm : 0 < m) (hM : 0 < M) (hP : 0 < P) (h1 : q * m ≤ n * P) (h2 : N * P ≤ q * M) (h : n * M ≤ N * m) (hp : p = q) : q * m = n * P ∧ N * P = q * M := by
  subst hp
  have g1 : p * m * M ≤ n * P * M := Int.mul_le_mul_of_nonneg_right h1 (by omega)
  have g2 : N * P * m ≤ p * M * m := Int.mul_le_mul_of_nonneg_right h2 (by omega)
  have g3 : n * M * P ≤ N * m * P := Int.mul_le_mul_of_nonneg_right h (by omega)
  have e1 : n * P * M = n * M * P := by grind
  have e2 : N * P * m = N * m * P := by grind
  have e3 : p * M * m = p * m * M := by grind
  refine ⟨Int.eq_of_mul_eq_mul_right (show M ≠ 0 by omega) ?_, Int.eq_of_mul_eq_mul_right (show m ≠ 0 by omega) ?_⟩ <;> omega
theorem side_of {T w : Nat} {lo hi P N M : Int} (c : CmpI T w lo hi P) (hP : 0 < P) (N1 : 1 ≤ N) (M1 : 1 ≤ M) (hin : In w lo hi P N M) (hmin : ∀ n m, 0 < n → 0 < m → In w lo hi P n m → N ≤ n ∧ M ≤ m)
    (NB : N ≤ 2 ^ 230) (MB : M ≤ 2 ^ 230) (small : N ≤ 2 ^ 110 ∨ M ≤ 2 ^ 110) : Side (sdT T) N M where
  N1 := N1
  M1 := M1
  rng := sdT_rng T
  lo n m hn hm h := by
    rcases sdT_rng T n m with h' | h' | h'
    · omega
    · omega
    · exfalso
      obtain ⟨g1, g2⟩ := c.gt n m hn hm h'
      obtain ⟨q1, q2⟩ := cross hm (by omega) hP g1 hin.h h rfl
      have := g2 q1
      have := hin.hE q2
      omega
  hi n m hn hm h := by
    rcases sdT_rng T n m with h' | h' | h'
    · exfalso
      obtain ⟨g1, g2⟩ := c.lt n m hn hm h'
      obtain ⟨q1, q2⟩ := cross (show 0 < M by omega) hm hP hin.l g1 h rfl
      have := g2 q2
      have := hin.lE q1
      omega
    · omega
    · omega
  min n m hn hm h := hmin n m hn hm (c.eq n m hn hm h)
  NB := NB
  MB := MB
  small := small

/-- the law's ratio: the simplest from end to end, put right where the lower end itself is the simplest -/
def fixN (w : Nat) (lo P n m : Int) : Int := if w % 2 = 1 ∧ P * n = lo * m then n + 1 else n

theorem odd_sq {k x : Nat} (hx : x % 2 = 1) {y : Nat} (h : 2 ^ k ∣ x * y) : 2 ^ k ∣ y := by
  have hc : Nat.Coprime (2 ^ k) x := by
    apply Nat.Coprime.pow_left
    show Nat.gcd 2 x = 1
    have h1 : Nat.gcd 2 x ∣ 2 := Nat.gcd_dvd_left _ _
    have h3 : Nat.gcd 2 x ≤ 2 := Nat.le_of_dvd (by decide) h1
    have h4 : Nat.gcd 2 x ∣ x := Nat.gcd_dvd_right _ _
    have h5 : Nat.gcd 2 x ≠ 0 := fun e => by rw [e] at h1; exact absurd (Nat.eq_zero_of_zero_dvd h1) (by decide)
    have h6 : Nat.gcd 2 x ≠ 2 := fun e => by rw [e] at h4; omega
    omega
  exact hc.dvd_of_dvd_mul_left h

/-- an odd float's end is no ratio of small numbers, or a whole one -/
theorem end_odd {U D α β n m c : Nat} (hU : U = 2 ^ α) (hD : D = 2 ^ β) (one : α = 0 ∨ β = 0) (hc : c % 2 = 1) (hm : 0 < m) (hmD : m ≤ D * D) (h : 16 * (D * D) * n = (2 * c * U) * (2 * c * U) * m) : β = 0 ∧ m = 1 ∧ ∃ u, U = 2 * u ∧ n = c * u * (c * u) := by
  have hD0 : 0 < D := by rw [hD]; exact Nat.two_pow_pos _
  have h4 : 4 * (D * D) * n = c * U * (c * U) * m := by
    have e : (2 * c * U) * (2 * c * U) * m = 4 * (c * U * (c * U) * m) := by grind
    rw [e] at h
    have e2 : 16 * (D * D) * n = 4 * (4 * (D * D) * n) := by grind
    omega
  have a0 : α ≠ 0 := by
    intro hα
    subst hα
    have hU1 : U = 1 := by rw [hU, Nat.pow_zero]
    rw [hU1, Nat.mul_one] at h4
    have e4 : 4 * (D * D) = 2 ^ (2 * β + 2) := by
      rw [hD, Nat.pow_add, Nat.two_mul, Nat.pow_add]; omega
    have hd : 2 ^ (2 * β + 2) ∣ c * c * m := ⟨n, by rw [← h4, e4]⟩
    have hd2 := odd_sq (by rw [Nat.mul_mod, hc]) hd
    have := Nat.le_of_dvd hm hd2
    rw [← e4] at this
    have := Nat.mul_pos hD0 hD0
    omega
  have b0 : β = 0 := by omega
  have hD1 : D = 1 := by rw [hD, b0, Nat.pow_zero]
  rw [hD1] at hmD h4
  have hm1 : m = 1 := by omega
  obtain ⟨a, rfl⟩ : ∃ a, α = a + 1 := ⟨α - 1, by omega⟩
  refine ⟨b0, hm1, 2 ^ a, by rw [hU, Nat.pow_succ, Nat.mul_comm], ?_⟩
  rw [hm1, hU, Nat.pow_succ] at h4
  generalize 2 ^ a = u at *
  have e : c * (u * 2) * (c * (u * 2)) * 1 = 4 * (c * u * (c * u)) := by grind
  omega

theorem Flo.simple {T w U D α β e : Nat} (h : Flo T w U D α β e) {n m : Int}
    (s : Simp ((lowC w * U * (lowC w * U) : Nat) : Int) ((16 * (D * D) : Nat) : Int) (((4 * w + 2) * U * ((4 * w + 2) * U) : Nat) : Int) ((16 * (D * D) : Nat) : Int) n m) :
    Side (sdT T) (fixN w ((lowC w * U * (lowC w * U) : Nat) : Int) ((16 * (D * D) : Nat) : Int) n m) m := by
  have hU0 : 0 < U := by rw [h.eU]; exact Nat.two_pow_pos _
  have hD0 : 0 < D := by rw [h.eD]; exact Nat.two_pow_pos _
  have hDD := Nat.mul_pos hD0 hD0
  have w1 := h.w1
  have w2 := h.w2
  have c := h.cmpI
  obtain ⟨n1, m1, lo, hi, min⟩ := s
  obtain ⟨n, rfl⟩ := Int.eq_ofNat_of_zero_le (show 0 ≤ n by omega)
  obtain ⟨m, rfl⟩ := Int.eq_ofNat_of_zero_le (show 0 ≤ m by omega)
  -- the float's own square lies between
  have own := min ((w * U * (w * U) : Nat) : Int) ((D * D : Nat) : Int) (by have := Nat.mul_pos (Nat.mul_pos (show 0 < w by omega) hU0) (Nat.mul_pos (show 0 < w by omega) hU0); omega) (by omega) (by
      have h1 : lowC w * U * (lowC w * U) ≤ 4 * w * U * (4 * w * U) := sq_le (Nat.mul_le_mul_right _ (by unfold lowC; omega))
      have e : 4 * w * U * (4 * w * U) * (D * D) = w * U * (w * U) * (16 * (D * D)) := by grind
      have := Nat.mul_le_mul_right (D * D) h1
      rw [e] at this
      exact_mod_cast this) (by
      have h1 : 4 * w * U * (4 * w * U) ≤ (4 * w + 2) * U * ((4 * w + 2) * U) := sq_le (Nat.mul_le_mul_right _ (by omega))
      have e : 4 * w * U * (4 * w * U) * (D * D) = w * U * (w * U) * (16 * (D * D)) := by grind
      have := Nat.mul_le_mul_right (D * D) h1
      rw [e] at this
      exact_mod_cast this)
  have nB : n ≤ w * U * (w * U) := by omega
  have mB : m ≤ D * D := by omega
  have lo' : lowC w * U * (lowC w * U) * m ≤ n * (16 * (D * D)) := by exact_mod_cast lo
  have hi' : n * (16 * (D * D)) ≤ (4 * w + 2) * U * ((4 * w + 2) * U) * m := by exact_mod_cast hi
  have hwU : w * U * (w * U) ≤ 2 ^ 53 * U * (2 ^ 53 * U) := sq_le (Nat.mul_le_mul_right _ (by omega))
  have n230 : n + 1 ≤ 2 ^ 230 ∧ m ≤ 2 ^ 230 ∧ (n + 1 ≤ 2 ^ 110 ∨ m ≤ 2 ^ 110) := by
    have u1 : U ≤ 2 ^ 60 := by rw [h.eU]; exact Nat.pow_le_pow_right (by decide) h.aB
    have d1 : D ≤ 2 ^ 104 := by rw [h.eD]; exact Nat.pow_le_pow_right (by decide) h.bB
    have u2 : 2 ^ 53 * U * (2 ^ 53 * U) ≤ 2 ^ 53 * 2 ^ 60 * (2 ^ 53 * 2 ^ 60) := sq_le (Nat.mul_le_mul_left _ u1)
    have d2 : D * D ≤ 2 ^ 104 * 2 ^ 104 := sq_le d1
    refine ⟨by omega, by omega, ?_⟩
    rcases h.one with ho | ho
    · have : U = 1 := by rw [h.eU, ho, Nat.pow_zero]
      rw [this] at nB hwU
      exact .inl (by omega)
    · have : D = 1 := by rw [h.eD, ho, Nat.pow_zero]
      rw [this] at mB
      exact .inr (by omega)
  have hP : (0 : Int) < ((16 * (D * D) : Nat) : Int) := by omega
  by_cases hw : w % 2 = 1
  · -- odd: the ends themselves do not count
    have hl2 : lowC w * U = 2 * (2 * w - 1) * U := by unfold lowC; rw [if_neg (by omega)]; congr 1; omega
    have hh2 : (4 * w + 2) * U = 2 * (2 * w + 1) * U := by congr 1; omega
    have notHi : n * (16 * (D * D)) ≠ (4 * w + 2) * U * ((4 * w + 2) * U) * m := by
      intro he
      rw [hh2, Nat.mul_comm n] at he
      obtain ⟨b0, _, u, hu, hn⟩ := end_odd h.eU h.eD h.one (show (2 * w + 1) % 2 = 1 by omega) (by omega) mB he
      have h1 : w * U * (w * U) < (2 * w + 1) * u * ((2 * w + 1) * u) := by
        rw [hu, show w * (2 * u) = 2 * w * u by grind]
        exact sq_lt (Nat.mul_lt_mul_of_pos_right (by omega) (by omega))
      omega
    by_cases hE : (16 * (D * D)) * n = lowC w * U * (lowC w * U) * m
    · have hfix : fixN w ((lowC w * U * (lowC w * U) : Nat) : Int) ((16 * (D * D) : Nat) : Int) n m = ((n + 1 : Nat) : Int) := by
        unfold fixN; rw [if_pos ⟨hw, by exact_mod_cast hE⟩]; rfl
      rw [hfix]
      have hE' := hE
      rw [hl2] at hE'
      obtain ⟨b0, hm1, u, hu, hn⟩ := end_odd h.eU h.eD h.one (show (2 * w - 1) % 2 = 1 by omega) (by omega) mB hE'
      have hD1 : D = 1 := by rw [h.eD, b0, Nat.pow_zero]
      have hu0 : 0 < u := by omega
      subst hm1
      have hup : n + 1 < (2 * w + 1) * u * ((2 * w + 1) * u) := by
        obtain ⟨x, hx⟩ : ∃ x, 2 * w - 1 = x := ⟨_, rfl⟩
        have e1 : 2 * w + 1 = x + 2 := by omega
        rw [hn, hx, e1]
        have e2 : (x + 2) * u * ((x + 2) * u) = x * u * (x * u) + 4 * (x * (u * u)) + 4 * (u * u) := by grind
        have := Nat.mul_pos hu0 hu0
        omega
      have ehi : (4 * w + 2) * U * ((4 * w + 2) * U) = 16 * ((2 * w + 1) * u * ((2 * w + 1) * u)) := by rw [hh2, hu]; grind
      have elo : lowC w * U * (lowC w * U) = 16 * n := by rw [hD1] at hE; omega
      refine side_of c hP (by omega) (by omega) ⟨?_, ?_, ?_, ?_⟩ ?_ (by omega) (by omega) (by have := n230.2.2; omega)
      · rw [elo, hD1]; omega
      · rw [ehi, hD1]; omega
      · rw [elo, hD1]; omega
      · rw [ehi, hD1]; omega
      · intro n' m' hn' hm' hI
        have h1 := hI.l
        have h2 := hI.lE
        rw [elo, hD1] at h1 h2
        have h3 : (n : Int) * 1 ≤ (n : Int) * m' := Int.mul_le_mul_of_nonneg_left (by omega) (by omega)
        have e5 : ((16 * n : Nat) : Int) * m' = 16 * ((n : Int) * m') := by push_cast; grind
        rw [e5] at h1 h2
        omega
    · have hfix : fixN w ((lowC w * U * (lowC w * U) : Nat) : Int) ((16 * (D * D) : Nat) : Int) n m = (n : Int) := by
        unfold fixN; rw [if_neg (fun hh => hE (by exact_mod_cast hh.2))]
      rw [hfix]
      refine side_of c hP n1 m1 ⟨lo, hi, fun he => ?_, fun he => ?_⟩ (fun n' m' hn' hm' hI => min n' m' hn' hm' hI.l hI.h) (by omega) (by omega) (by have := n230.2.2; omega)
      · exact absurd (by have : lowC w * U * (lowC w * U) * m = n * (16 * (D * D)) := by exact_mod_cast he
                         rw [this, Nat.mul_comm]) hE
      · exact absurd (by exact_mod_cast he) notHi
  · have hfix : fixN w ((lowC w * U * (lowC w * U) : Nat) : Int) ((16 * (D * D) : Nat) : Int) n m = (n : Int) := by
      unfold fixN; rw [if_neg (fun hh => hw hh.1)]
    rw [hfix]
    exact side_of c hP n1 m1 ⟨lo, hi, fun _ => by omega, fun _ => by omega⟩ (fun n' m' hn' hm' hI => min n' m' hn' hm' hI.l hI.h) (by omega) (by omega) (by have := n230.2.2; omega)
end
section
open PySem PySem.W PyProof.Rows
set_option Elab.async false
set_option exponentiation.threshold 5000
open PySem.Builtin.Int (intBits)
theorem bl_up {x : Int} {k : Nat} (h0 : 0 ≤ x) (h : x ≤ 2 ^ k) : intBits x ≤ k + 1 := bl_of_lt h0 (by rw [Int.pow_succ]; have := two_pow_pos' k; omega)
theorem m_turn {a₀ b₀ c₀ d₀ a b c d : Int} {ws : List Int} {vs : List Value} (h0 : Iv a₀ b₀ c₀ d₀) (ba : a₀ ≤ 2 ^ 800) (bb : b₀ ≤ 2 ^ 800) (bc : c₀ ≤ 2 ^ 800) (bd : d₀ ≤ 2 ^ 800) (hu : Unf a₀ b₀ c₀ d₀ ws a b c d) (hi : IntsAre vs ws) :
    ∃ q0 qd, -a / b = q0 ∧ 0 < b ∧ (intBits b ≤ 9000 ∨ intBits (-a) ≤ intBits b + 4000) ∧ -q0 * d = qd ∧ intBits (-q0) + intBits d ≤ 2 ^ 27 ∧ vs.length ≤ 2000 ∧
      ((decide (c < qd) = true ∧ ∃ w0 wd c' r, a / b = w0 ∧ (intBits b ≤ 9000 ∨ intBits a ≤ intBits b + 4000) ∧ w0 * d = wd ∧ intBits w0 + intBits d ≤ 2 ^ 27 ∧ c - wd = c' ∧ a % b = r ∧ Unf a₀ b₀ c₀ d₀ (ws ++ [w0]) d c' b r ∧ (c' + r).toNat < (b + d).toNat) ∨
       (decide (c < qd) = false ∧ Simp a b c d (-q0) 1)) := by
  obtain ⟨ua, ub, uc, ud⟩ := hu.bound ba bb bc bd
  have iv := hu.iv h0
  obtain ⟨a1, b1, c1, d1, _⟩ := id iv
  have xa := bl_up (Int.le_of_lt a1) ua
  have xb := bl_up (Int.le_of_lt b1) ub
  have xd := bl_up (Int.le_of_lt d1) ud
  have hl := hu.short h0 ba bb bc bd
  have hq : intBits (-(-a / b)) ≤ 801 := by
    obtain ⟨h1, h2⟩ := ceil_of (a := a) b1
    refine Nat.le_trans (bl_mono (b := a) ?_) xa
    generalize -(-a / b) = q at *
    have q1 : 0 ≤ q := by
      refine Int.not_lt.mp fun h' => ?_
      have := Int.mul_nonpos_of_nonpos_of_nonneg (show q ≤ 0 by omega) (Int.le_of_lt b1)
      omega
    have q2 : q ≤ a := by
      refine Int.not_lt.mp fun h' => ?_
      have g := Int.mul_le_mul_of_nonneg_right (show a + 1 ≤ q by omega) (Int.le_of_lt b1)
      have g2 := Int.mul_le_mul_of_nonneg_left (show 1 ≤ b by omega) (Int.le_of_lt a1)
      rw [Int.add_mul] at g
      omega
    omega
  refine ⟨_, _, rfl, b1, .inl (by omega), rfl, by omega, by rw [hi.length]; exact hl, ?_⟩
  by_cases h : c < -(-a / b) * d
  · have st := iv.step h
    have w0 := st.w0
    have hw : intBits (a / b) ≤ 801 := Nat.le_trans (bl_div (Int.le_of_lt a1)) xa
    have g1 := st.rb
    have g2 := st.cd
    have g3 := st.iv.b1
    have g4 := st.iv.d1
    exact .inl ⟨decide_eq_true h, _, _, _, _, rfl, .inl (by omega), rfl, by omega, rfl, rfl, hu.snoc iv st, by omega⟩
  · exact .inr ⟨decide_eq_false h, Simp.base iv (by omega)⟩
theorem bk_turn {a₀ b₀ c₀ d₀ n m w : Int} {ws : List Int} {i : Nat} (h0 : Iv a₀ b₀ c₀ d₀) (ba : a₀ ≤ 2 ^ 800) (bb : b₀ ≤ 2 ^ 800) (bc : c₀ ≤ 2 ^ 800) (bd : d₀ ≤ 2 ^ 800) {a b c d : Int} (hu : Unf a₀ b₀ c₀ d₀ ws a b c d) (h : Bk a₀ b₀ c₀ d₀ ws i n m) (hw : ws.reverse[i]? = some w) :
    ∃ wn n', w * n = wn ∧ intBits w + intBits n ≤ 2 ^ 27 ∧ wn + m = n' ∧ Bk a₀ b₀ c₀ d₀ ws (i + 1) n' n := by
  have b := h.bound h0 ba bb bc bd
  have hw' := hu.wholes h0 ba bb bc bd w (List.mem_reverse.mp (List.mem_of_getElem? hw))
  have x1 := bl_up hw'.1 hw'.2
  have x2 := bl_up (show 0 ≤ n by omega) b.2.2.1
  exact ⟨_, _, rfl, by omega, rfl, h.next hw⟩
theorem ints_snoc {vs : List Value} {ws : List Int} (h : IntsAre vs ws) (x : Int) (t : Tok) : IntsAre (vs ++ [.int x t]) (ws ++ [x]) := h.append (.cons x t .nil)
end
section
open PySem PySem.W PyProof.Rows
set_option Elab.async false
set_option exponentiation.threshold 5000
open PySem.Builtin.Int (intBits)
/-- what is reckoned and told at a step of x -/
def Probe (sd : Int → Int → Int) (a b c d side K x : Int) : Prop :=
  ∃ xc n xd m r, x * c = xc ∧ intBits x + intBits c ≤ 2 ^ 27 ∧ a + xc = n ∧ x * d = xd ∧ intBits x + intBits d ≤ 2 ^ 27 ∧ b + xd = m ∧ 0 < n ∧ 0 < m ∧ intBits n ≤ 900 ∧ intBits m ≤ 900 ∧ sd n m = r ∧ ((x ≤ K ∧ (r == side) = true) ∨ (K < x ∧ (r == side) = false))
theorem Gal.probe {sd : Int → Int → Int} {a b c d side K x : Int} (g : Gal sd a b c d side K) (h1 : 1 ≤ x) (h2 : x ≤ 2 ^ 232) : Probe sd a b c d side K x := by
  obtain ⟨K1, KB, yes, no, pos, a0, b0, c0, d0, aB, bB, cB, dB⟩ := g
  have xx := bl_up (show 0 ≤ x by omega) h2
  have xa := bl_up a0 aB
  have xb := bl_up b0 bB
  have xc := bl_up c0 cB
  have xd := bl_up d0 dB
  have m1 := bl_mul x c
  have m2 := bl_mul x d
  have s1 := bl_add a (x * c)
  have s2 := bl_add b (x * d)
  obtain ⟨p1, p2⟩ := pos x h1
  refine ⟨_, _, _, _, _, rfl, by omega, rfl, rfl, by omega, rfl, p1, p2, by omega, by omega, rfl, ?_⟩
  by_cases h : x ≤ K
  · exact .inl ⟨h, by rw [yes x h1 h]; simp⟩
  · exact .inr ⟨by omega, beq_false_of_ne (no x (by omega))⟩

/-- the first loop's k -/
def K1 (K k : Int) : Prop := ∃ e : Nat, k = 2 ^ e ∧ k ≤ K
theorem K1.start {K : Int} (h : 1 ≤ K) : K1 K 1 := ⟨0, rfl, h⟩
theorem k1_turn {sd : Int → Int → Int} {a b c d side K k Z : Int} (g : Gal sd a b c d side K) (hZ : 2 ^ 230 < Z) (h : K1 K k) :
    ∃ k2, decide (k < Z) = true ∧ 2 * k = k2 ∧ intBits 2 + intBits k ≤ 2 ^ 27 ∧ k * 2 = k2 ∧ intBits k + intBits 2 ≤ 2 ^ 27 ∧ Probe sd a b c d side K k2 ∧ (k2 ≤ K → K1 K k2 ∧ (K - k2).toNat < (K - k).toNat) ∧ 0 < k := by
  obtain ⟨e, ek, hk⟩ := h
  have k0 : 0 < k := ek ▸ two_pow_pos' e
  have KB := g.KB
  have xk := bl_up (show 0 ≤ k by omega) (show k ≤ 2 ^ 230 by omega)
  have i2 : intBits 2 = 2 := by decide
  exact ⟨2 * k, decide_eq_true (by omega), rfl, by omega, by omega, by omega, g.probe (by omega) (by omega), fun h => ⟨⟨e + 1, by rw [ek, Int.pow_succ]; omega, h⟩, by omega⟩, k0⟩
/-- the second loop's k and more -/
def K2 (K k more : Int) : Prop := ∃ e : Nat, more = 2 ^ e / 2 ∧ 1 ≤ k ∧ k ≤ K ∧ K < k + 2 ^ e ∧ more ≤ K
theorem K1.next {K k k2 : Int} (h : K1 K k) (e2 : 2 * k = k2) (hk : K < k2) : ∃ more, k / 2 = more ∧ (0 : Int) < 2 ∧ (intBits 2 ≤ 9000 ∨ intBits k ≤ intBits 2 + 4000) ∧ K2 K k more := by
  obtain ⟨e, ek, hk'⟩ := h
  have k0 : 0 < k := ek ▸ two_pow_pos' e
  exact ⟨_, rfl, by decide, .inl (by decide), e, by rw [ek], by omega, hk', by omega, by omega⟩
theorem k2_turn {sd : Int → Int → Int} {a b c d side K k more : Int} (g : Gal sd a b c d side K) (h : K2 K k more) :
    (decide (0 < more) = false ∧ k = K) ∨ (decide (0 < more) = true ∧ ∃ km m2, k + more = km ∧ more / 2 = m2 ∧ (0 : Int) < 2 ∧ (intBits 2 ≤ 9000 ∨ intBits more ≤ intBits 2 + 4000) ∧ Probe sd a b c d side K km ∧ (km ≤ K → K2 K km m2) ∧ (K < km → K2 K k m2) ∧ m2.toNat < more.toNat) := by
  obtain ⟨e, em, h1, h2, h3, h4⟩ := h
  have KB := g.KB
  cases e with
  | zero =>
    have : more = 0 := by rw [em]; rfl
    have h3' : K < k + 1 := by simpa using h3
    exact .inl ⟨decide_eq_false (by omega), by omega⟩
  | succ e =>
    have p := two_pow_pos' e
    rw [Int.pow_succ] at em h3
    have em' : more = 2 ^ e := by omega
    refine .inr ⟨decide_eq_true (by omega), _, _, rfl, rfl, by decide, .inl (by decide), g.probe (by omega) (by omega), fun hk => ⟨e, by rw [em'], by omega, hk, by omega, by omega⟩, fun hk => ⟨e, by rw [em'], h1, h2, by omega, by omega⟩, by omega⟩
theorem mid_facts {sd : Int → Int → Int} {N M : Int} {i : Nat} {a b c d : Int} (S : Side sd N M) (h : AS N M i a b c d) :
    ∃ n m r, a + c = n ∧ b + d = m ∧ 0 < n ∧ 0 < m ∧ intBits n ≤ 900 ∧ intBits m ≤ 900 ∧ sd n m = r ∧
      ((r = 0 ∧ n = N ∧ m = M) ∨ (r = -1 ∧ ∃ K, Gal sd a b c d (-1) K ∧ AS N M (i + 1) (a + K * c) (b + K * d) c d) ∨ (r = 1 ∧ ∃ K, Gal sd c d a b 1 K ∧ AS N M (i + 1) a b (c + K * a) (d + K * b))) := by
  obtain ⟨hb, hc, h1, h2⟩ := h.ends
  have a0 := h.a0
  have d0 := h.d0
  have x1 := bl_up (show 0 ≤ a + c by omega) (show a + c ≤ 2 ^ 230 by have := S.NB; omega)
  have x2 := bl_up (show 0 ≤ b + d by omega) (show b + d ≤ 2 ^ 230 by have := S.MB; omega)
  refine ⟨_, _, _, rfl, rfl, by omega, by omega, by omega, by omega, rfl, ?_⟩
  rcases S.rng (a + c) (b + d) with h' | h' | h'
  · exact .inr (.inl ⟨h', h.low S h'⟩)
  · exact .inl ⟨h', h.hit S h'⟩
  · exact .inr (.inr ⟨h', h.high S h'⟩)
end
section
open PySem PySem.W PyProof.Rows
set_option Elab.async false
set_option exponentiation.threshold 5000
open PySem.Builtin.Int (intBits)
open Float64 (V roundUn infMag)

theorem row_items5 {ns : List Int} {i : Nat} (hi : i < ns.length) (h3 : 2 ≤ ns.length) (h4 : ns.length ≤ 1000) :
    ∃ k1 k2 c0 c1 c2, (i : Int) - 1 = k1 ∧ (i : Int) - 2 = k2 ∧ ItemAt ns (i : Int) c0 ∧ ItemAt ns k1 c1 ∧ ItemAt ns k2 c2 := by
  have key : ∀ k : Int, -2 ≤ k → k < (ns.length : Int) → ∃ c, ItemAt ns k c := by
    intro k h1 h2
    by_cases h0 : 0 ≤ k
    · have h : k.toNat < ns.length := by omega
      exact ⟨ns[k.toNat], .inl ⟨h0, by omega, by simp [h]⟩⟩
    · have h : (k + ns.length).toNat < ns.length := by omega
      exact ⟨ns[(k + ns.length).toNat], .inr ⟨by omega, by omega, by omega, by simp [h]⟩⟩
  obtain ⟨c0, a0⟩ := key i (by omega) (by omega)
  obtain ⟨c1, a1⟩ := key (i - 1) (by omega) (by omega)
  obtain ⟨c2, a2⟩ := key (i - 2) (by omega) (by omega)
  exact ⟨_, _, c0, c1, c2, rfl, rfl, a0, a1, a2⟩
theorem row_facts5 {l : List Int} {vs : List Value} (hI : IntsAre vs (l ++ [52, 1865452045155277])) (h : ¬ ((63 : Nat) : Int) < ((l.length : Nat) : Int)) :
    ∃ ns : List Int, l.length + (1 + 1) = ns.length ∧ IntsAre vs ns ∧ 2 ≤ ns.length ∧ ns.length ≤ 66 := by
  refine ⟨_, ?_, hI, ?_, ?_⟩ <;> simp only [List.length_append, List.length_cons, List.length_nil] <;> omega

theorem times5 {Z z : Int} (hZ0 : 0 < Z) (hZ : Z < 2 ^ 140) : ∃ az zr zz tm, (if z < 0 then -z else z) = az ∧ az % Z = zr ∧ 1 + zr = zz ∧ tm ≠ 0 ∧ intBits tm ≤ 200 ∧ intBits zz + intBits 1 ≤ 2 ^ 27 ∧ intBits zz + intBits (-1) ≤ 2 ^ 27 ∧
    ((decide (0 ≤ z) = true ∧ zz * 1 = tm) ∨ (decide (0 ≤ z) = false ∧ zz * -1 = tm)) := by
  have p0 : 0 ≤ (if z < 0 then -z else z) % Z := Int.emod_nonneg _ (by omega)
  have p1 : (if z < 0 then -z else z) % Z < 2 ^ 140 := Int.lt_trans (Int.emod_lt_of_pos _ hZ0) hZ
  have b := bl_of_lt p0 p1
  have b2 := bl_add 1 ((if z < 0 then -z else z) % Z)
  have i1 : intBits 1 = 1 := by decide
  have im : intBits (-1) = 1 := by decide
  clear p1
  obtain ⟨zr, hzr⟩ : ∃ zr, (if z < 0 then -z else z) % Z = zr := ⟨_, rfl⟩
  rw [hzr] at p0 b b2
  have b3 : intBits ((1 + zr) * -1) = intBits (1 + zr) := by rw [Int.mul_neg, Int.mul_one]; exact bl_neg _
  by_cases h : 0 ≤ z
  · exact ⟨_, zr, _, (1 + zr) * 1, rfl, hzr, rfl, by omega, by rw [Int.mul_one]; omega, by omega, by omega, .inl ⟨decide_eq_true h, rfl⟩⟩
  · exact ⟨_, zr, _, (1 + zr) * -1, rfl, hzr, rfl, by omega, by omega, by omega, by omega, .inr ⟨decide_eq_false h, rfl⟩⟩

structure Ts (T : Nat) (x y f wI yr pw upI dnI wu d16 parts w4 l4 lowI h4 highI l2 h2 : Int) : Prop where
  ef : x % 4503599627370496 = f
  ew : 4503599627370496 + f = wI
  eyr : y % 165 = yr
  epw : yr - 104 = pw
  eu : (2 : Int) ^ (if 0 > pw then 0 else pw).toNat = upI
  eu0 : 0 ≤ (if 0 > pw then 0 else pw)
  eus : (intBits 2 : Int) * (if 0 > pw then 0 else pw) ≤ 2 ^ 27
  ed : (2 : Int) ^ (if 0 > -pw then 0 else -pw).toNat = dnI
  ed0 : 0 ≤ (if 0 > -pw then 0 else -pw)
  eds : (intBits 2 : Int) * (if 0 > -pw then 0 else -pw) ≤ 2 ^ 27
  ewu : wI * upI = wu
  swu : intBits wI + intBits upI ≤ 2 ^ 27
  wu0 : 0 ≤ wu
  dn0 : 0 < dnI
  inf : Float64.isInf (Float64.ofFrac false wu.natAbs dnI.natAbs) = false
  due : Float64.ofFrac false wu.natAbs dnI.natAbs = Float64.pack false T
  hT : T < infMag
  e16 : 16 * dnI = d16
  s16 : intBits 16 + intBits dnI ≤ 2 ^ 27
  ep : d16 * dnI = parts
  sp : intBits d16 + intBits dnI ≤ 2 ^ 27
  e4 : 4 * wI = w4
  s4 : intBits 4 + intBits wI ≤ 2 ^ 27
  hl : ((wI == 4503599627370496) = true ∧ w4 - 1 = l4) ∨ ((wI == 4503599627370496) = false ∧ w4 - 2 = l4)
  el : l4 * upI = lowI
  sl : intBits l4 + intBits upI ≤ 2 ^ 27
  eh4 : w4 + 2 = h4
  eh : h4 * upI = highI
  sh : intBits h4 + intBits upI ≤ 2 ^ 27
  el2 : lowI * lowI = l2
  sl2 : intBits lowI + intBits lowI ≤ 2 ^ 27
  eh2 : highI * highI = h2
  sh2 : intBits highI + intBits highI ≤ 2 ^ 27
  iv : Iv l2 parts h2 parts
  b1 : l2 ≤ 2 ^ 800
  b2 : parts ≤ 2 ^ 800
  b3 : h2 ≤ 2 ^ 800
  pp : 0 < parts
  pb : intBits parts ≤ 900
  simp : ∀ n m, Simp l2 parts h2 parts n m → ∃ pn lm n1, parts * n = pn ∧ intBits parts + intBits n ≤ 2 ^ 27 ∧ l2 * m = lm ∧ intBits l2 + intBits m ≤ 2 ^ 27 ∧ n + 1 = n1 ∧
    ((wI % 2 = 0 ∧ Side (sdT T) n m) ∨ (wI % 2 = 1 ∧ (pn == lm) = true ∧ Side (sdT T) n1 m) ∨ (wI % 2 = 1 ∧ (pn == lm) = false ∧ Side (sdT T) n m))
  ends : ∀ E, E = lowI ∨ E = highI → ∃ e2 r, E * E = e2 ∧ intBits E + intBits E ≤ 2 ^ 27 ∧ 0 < e2 ∧ intBits e2 ≤ 900 ∧ sdT T e2 parts = r ∧ (((r == 0) = true ∧ wI % 2 = 0) ∨ ((r == 0) = false ∧ wI % 2 = 1))

theorem end_side {T w : Nat} {lo hi P : Int} (c : CmpI T w lo hi P) (hP : 0 < P) (hlo : 0 < lo) (hlh : lo < hi) (E : Int) (hE : E = lo ∨ E = hi) : ((sdT T E P == 0) = true ∧ w % 2 = 0) ∨ ((sdT T E P == 0) = false ∧ w % 2 = 1) := by
  have hEp : 0 < E := by omega
  have hlt := Int.mul_lt_mul_of_pos_right hlh hP
  rcases sdT_rng T E P with h | h | h
  · right
    refine ⟨by rw [h]; rfl, ?_⟩
    obtain ⟨g1, g2⟩ := c.lt E P hEp hP h
    rcases hE with rfl | rfl
    · exact g2 rfl
    · omega
  · left
    refine ⟨by rw [h]; rfl, ?_⟩
    have g := c.eq E P hEp hP h
    rcases hE with rfl | rfl
    · exact g.lE rfl
    · exact g.hE rfl
  · right
    refine ⟨by rw [h]; rfl, ?_⟩
    obtain ⟨g1, g2⟩ := c.gt E P hEp hP h
    rcases hE with rfl | rfl
    · omega
    · exact g2 rfl

theorem t5 (x y : Int) : ∃ T f wI yr pw upI dnI wu d16 parts w4 l4 lowI h4 highI l2 h2, Ts T x y f wI yr pw upI dnI wu d16 parts w4 l4 lowI h4 highI l2 h2 := by
  have f0 : 0 ≤ x % 4503599627370496 := Int.emod_nonneg _ (by decide)
  have f1 : x % 4503599627370496 < 4503599627370496 := Int.emod_lt_of_pos _ (by decide)
  have y0 : 0 ≤ y % 165 := Int.emod_nonneg _ (by decide)
  have y1 : y % 165 < 165 := Int.emod_lt_of_pos _ (by decide)
  obtain ⟨pw, hpw⟩ : ∃ pw, y % 165 - 104 = pw := ⟨_, rfl⟩
  obtain ⟨w, hw⟩ : ∃ w : Nat, 4503599627370496 + x % 4503599627370496 = (w : Int) := ⟨(4503599627370496 + x % 4503599627370496).toNat, by omega⟩
  obtain ⟨α, hα⟩ : ∃ α : Nat, (if 0 > pw then 0 else pw) = (α : Int) := ⟨(if 0 > pw then 0 else pw).toNat, by split <;> omega⟩
  obtain ⟨β, hβ⟩ : ∃ β : Nat, (if 0 > -pw then 0 else -pw) = (β : Int) := ⟨(if 0 > -pw then 0 else -pw).toNat, by split <;> omega⟩
  have hab : (α : Int) - β = pw ∧ (α = 0 ∨ β = 0) ∧ α ≤ 60 ∧ β ≤ 104 := by
    split at hα <;> split at hβ <;> omega
  obtain ⟨U, hU⟩ : ∃ U : Nat, U = 2 ^ α := ⟨_, rfl⟩
  obtain ⟨D, hD⟩ : ∃ D : Nat, D = 2 ^ β := ⟨_, rfl⟩
  have e1 : (2 : Int) ^ (α : Int).toNat = (U : Int) := by rw [hU, Int.toNat_natCast]; exact two_pow_cast α
  have e2 : (2 : Int) ^ (β : Int).toNat = (D : Int) := by rw [hD, Int.toNat_natCast]; exact two_pow_cast β
  have U0 : 0 < U := by rw [hU]; exact Nat.two_pow_pos _
  have D0 : 0 < D := by rw [hD]; exact Nat.two_pow_pos _
  have bU : U ≤ 2 ^ 60 := by rw [hU]; exact Nat.pow_le_pow_right (by decide) hab.2.2.1
  have bD : D ≤ 2 ^ 104 := by rw [hD]; exact Nat.pow_le_pow_right (by decide) hab.2.2.2
  have F : Flo ((α + 1074 - β + 1) * 2 ^ 52 + (w - 2 ^ 52)) w U D α β (α + 1074 - β) := ⟨by omega, by omega, rfl, by omega, by omega, by omega, hab.2.1, hU, hD, hab.2.2.1, hab.2.2.2⟩
  obtain ⟨T, hT⟩ : ∃ T, T = (α + 1074 - β + 1) * 2 ^ 52 + (w - 2 ^ 52) := ⟨_, rfl⟩
  rw [← hT] at F
  clear hT f0 f1
  have bln : ∀ {x k : Nat}, x < 2 ^ k → intBits (x : Int) ≤ k := fun h => bl_le (by simpa using h)
  have w1 := F.w1
  have w2 := F.w2
  have lw1 : 3 * w ≤ lowC w ∧ lowC w < 4 * w := by unfold lowC; split <;> omega
  have lwC : ((w : Int) == 4503599627370496) = true ∧ ((4 * w : Nat) : Int) - 1 = ((lowC w : Nat) : Int) ∨ ((w : Int) == 4503599627370496) = false ∧ ((4 * w : Nat) : Int) - 2 = ((lowC w : Nat) : Int) := by
    unfold lowC
    by_cases h : w = 2 ^ 52
    · left; subst h; exact ⟨by decide, by decide⟩
    · right; rw [if_neg h]; exact ⟨beq_false_of_ne (by omega), by omega⟩
  have bw : intBits (w : Int) ≤ 53 := bln w2
  have bu : intBits (U : Int) ≤ 61 := bln (by omega)
  have bd : intBits (D : Int) ≤ 105 := bln (by omega)
  have b4 : intBits ((4 * w : Nat) : Int) ≤ 55 := bln (by omega)
  have bl4' : intBits ((lowC w : Nat) : Int) ≤ 55 := bln (by omega)
  have bh4 : intBits ((4 * w + 2 : Nat) : Int) ≤ 56 := bln (by omega)
  have mulB : ∀ {a b p q : Nat}, a ≤ 2 ^ p → b ≤ 2 ^ q → a * b ≤ 2 ^ (p + q) := fun h1 h2 => by rw [Nat.pow_add]; exact Nat.mul_le_mul h1 h2
  have B1 : lowC w * U ≤ 2 ^ 115 := mulB (p := 55) (q := 60) (by omega) bU
  have B2 : (4 * w + 2) * U ≤ 2 ^ 116 := mulB (p := 56) (q := 60) (by omega) bU
  have B3 : lowC w * U * (lowC w * U) ≤ 2 ^ 230 := mulB B1 B1
  have B4 : (4 * w + 2) * U * ((4 * w + 2) * U) ≤ 2 ^ 232 := mulB B2 B2
  have B5 : D * D ≤ 2 ^ 208 := mulB bD bD
  have P1 : 0 < lowC w * U := Nat.mul_pos (by omega) U0
  have P2 : lowC w * U < (4 * w + 2) * U := Nat.mul_lt_mul_of_pos_right (by omega) U0
  have P3 : lowC w * U * (lowC w * U) < (4 * w + 2) * U * ((4 * w + 2) * U) := sq_lt P2
  have P4 : 0 < lowC w * U * (lowC w * U) := Nat.mul_pos P1 P1
  have P5 : 0 < D * D := Nat.mul_pos D0 D0
  have bl1 : intBits ((lowC w * U : Nat) : Int) ≤ 116 := bln (by omega)
  have bl2 : intBits (((4 * w + 2) * U : Nat) : Int) ≤ 117 := bln (by omega)
  have bl3 : intBits ((lowC w * U * (lowC w * U) : Nat) : Int) ≤ 231 := bln (by omega)
  have bl5 : intBits (((4 * w + 2) * U * ((4 * w + 2) * U) : Nat) : Int) ≤ 233 := bln (by omega)
  have bl6 : intBits ((16 * (D * D) : Nat) : Int) ≤ 213 := bln (by omega)
  have bl7 : intBits ((16 * D : Nat) : Int) ≤ 109 := bln (by omega)
  have hsimp := fun n m (s : Simp ((lowC w * U * (lowC w * U) : Nat) : Int) ((16 * (D * D) : Nat) : Int) (((4 * w + 2) * U * ((4 * w + 2) * U) : Nat) : Int) ((16 * (D * D) : Nat) : Int) n m) => F.simple s
  have hcmp := F.cmpI
  have hdue := F.due
  have hfin := F.fin
  have ewI : ((w : Int)) = 4503599627370496 + x % 4503599627370496 := hw.symm
  have el2 : ((lowC w * U : Nat) : Int) * ((lowC w * U : Nat) : Int) = ((lowC w * U * (lowC w * U) : Nat) : Int) := (Int.natCast_mul _ _).symm
  have eh2 : (((4 * w + 2) * U : Nat) : Int) * (((4 * w + 2) * U : Nat) : Int) = (((4 * w + 2) * U * ((4 * w + 2) * U) : Nat) : Int) := (Int.natCast_mul _ _).symm
  have el1 : ((lowC w : Nat) : Int) * (U : Int) = ((lowC w * U : Nat) : Int) := (Int.natCast_mul _ _).symm
  have eh1 : ((4 * w + 2 : Nat) : Int) * (U : Int) = (((4 * w + 2) * U : Nat) : Int) := (Int.natCast_mul _ _).symm
  have epp : ((16 * D : Nat) : Int) * (D : Int) = ((16 * (D * D) : Nat) : Int) := by rw [← Int.natCast_mul, Nat.mul_assoc]
  have S800 : ∀ {x : Nat}, x ≤ 2 ^ 232 → ((x : Nat) : Int) ≤ 2 ^ 800 := @fun x h => by
    have h1 : ((x : Nat) : Int) ≤ 2 ^ 232 := by exact_mod_cast h
    exact Int.le_trans h1 (by decide)
  have i2 : intBits 2 = 2 := by decide
  have i4 : intBits 4 = 3 := by decide
  have i16 : intBits 16 = 5 := by decide
  have hiv : Iv ((lowC w * U * (lowC w * U) : Nat) : Int) ((16 * (D * D) : Nat) : Int) (((4 * w + 2) * U * ((4 * w + 2) * U) : Nat) : Int) ((16 * (D * D) : Nat) : Int) :=
    ⟨by omega, by omega, by omega, by omega, Int.mul_le_mul_of_nonneg_right (by omega) (by omega)⟩
  clear B1 B2 hU hD
  refine ⟨T, _, (w : Int), _, pw, (U : Int), (D : Int), ((w * U : Nat) : Int), ((16 * D : Nat) : Int), ((16 * (D * D) : Nat) : Int), ((4 * w : Nat) : Int), ((lowC w : Nat) : Int), ((lowC w * U : Nat) : Int), ((4 * w + 2 : Nat) : Int), (((4 * w + 2) * U : Nat) : Int), ((lowC w * U * (lowC w * U) : Nat) : Int), (((4 * w + 2) * U * ((4 * w + 2) * U) : Nat) : Int), {
    ef := rfl, ew := hw, eyr := rfl, epw := hpw
    eu := by rw [hα]; exact e1
    eu0 := by rw [hα]; omega
    eus := by rw [hα, i2]; omega
    ed := by rw [hβ]; exact e2
    ed0 := by rw [hβ]; omega
    eds := by rw [hβ, i2]; omega
    ewu := (Int.natCast_mul _ _).symm
    swu := by omega
    wu0 := Int.natCast_nonneg _
    dn0 := by omega
    inf := by rw [Int.natAbs_natCast, Int.natAbs_natCast, hdue]; exact isInf_at hfin
    due := by rw [Int.natAbs_natCast, Int.natAbs_natCast, hdue]
    hT := hfin
    e16 := by omega
    s16 := by omega
    ep := epp
    sp := by omega
    e4 := by omega
    s4 := by omega
    hl := lwC
    el := el1
    sl := by omega
    eh4 := by omega
    eh := eh1
    sh := by omega
    el2 := el2
    sl2 := by omega
    eh2 := eh2
    sh2 := by omega
    iv := hiv
    b1 := S800 (by omega)
    b2 := S800 (by omega)
    b3 := S800 B4
    pp := by omega
    pb := by omega
    simp := ?_
    ends := ?_ }⟩
  · intro n m s
    have hs := hsimp n m s
    obtain ⟨g1, g2⟩ := s.le hiv
    have gn := s.n1
    have gm := s.m1
    have x1 : intBits n ≤ 231 := Nat.le_trans (bl_mono (b := ((lowC w * U * (lowC w * U) : Nat) : Int)) (by omega)) bl3
    have x2 : intBits m ≤ 213 := Nat.le_trans (bl_mono (b := ((16 * (D * D) : Nat) : Int)) (by omega)) bl6
    refine ⟨_, _, _, rfl, by omega, rfl, by omega, rfl, ?_⟩
    unfold fixN at hs
    rcases Nat.mod_two_eq_zero_or_one w with h | h
    · rw [if_neg (by omega)] at hs
      exact .inl ⟨by omega, hs⟩
    · by_cases he : ((16 * (D * D) : Nat) : Int) * n = ((lowC w * U * (lowC w * U) : Nat) : Int) * m
      · rw [if_pos ⟨h, he⟩] at hs
        exact .inr (.inl ⟨by omega, by rw [he]; simp, hs⟩)
      · rw [if_neg fun hh => he hh.2] at hs
        exact .inr (.inr ⟨by omega, beq_false_of_ne he, hs⟩)
  · have hP : (0 : Int) < ((16 * (D * D) : Nat) : Int) := by omega
    have key := end_side hcmp hP (by omega) (by omega)
    intro E hE
    rcases hE with rfl | rfl
    · refine ⟨_, _, el2, by omega, by omega, by omega, rfl, ?_⟩
      rcases key _ (.inl rfl) with ⟨k1, k2⟩ | ⟨k1, k2⟩
      · exact .inl ⟨k1, by omega⟩
      · exact .inr ⟨k1, by omega⟩
    · refine ⟨_, _, eh2, by omega, by omega, by omega, rfl, ?_⟩
      rcases key _ (.inr rfl) with ⟨k1, k2⟩ | ⟨k1, k2⟩
      · exact .inl ⟨k1, by omega⟩
      · exact .inr ⟨k1, by omega⟩
/-- what holds of an end -/
def EndOK (T : Nat) (wI parts E : Int) : Prop := ∃ e2 r, E * E = e2 ∧ intBits E + intBits E ≤ 2 ^ 27 ∧ 0 < e2 ∧ intBits e2 ≤ 900 ∧ sdT T e2 parts = r ∧ (((r == 0) = true ∧ wI % 2 = 0) ∨ ((r == 0) = false ∧ wI % 2 = 1))
theorem picke {T : Nat} {wI parts lowI highI : Int} {t1 t2 : Tok} {j : Nat} {v : Value} (hv : [Value.int lowI t1, Value.int highI t2][j]? = some v) (h : ∀ E, E = lowI ∨ E = highI → EndOK T wI parts E) : ∃ E tE, v = .int E tE ∧ EndOK T wI parts E := by
  match j, hv with
  | 0, hv => exact ⟨_, _, (Option.some.inj hv).symm, h _ (.inl rfl)⟩
  | 1, hv => exact ⟨_, _, (Option.some.inj hv).symm, h _ (.inr rfl)⟩
  | j + 2, hv => simp at hv
end
section
open PySem PySem.W PyProof.Rows
set_option Elab.async false
open PySem.Builtin.Int (intBits)
section
variable {prog : Program} {w : World} {A : Around} {E : Value → Shared → Prop} {s : Shared} {a b c n : Int} {t u : Tok} {Q : Value → Shared → Prop}
theorem divA (he : a / b = c) (hb : 0 < b) (hp : intBits b ≤ 9000 ∨ intBits a ≤ intBits b + 4000) (h : ∀ u' tk, Q (.int c u') { s with toks := tk }) : wpAny (model prog w) A (binaryOp .FloorDiv (.int a t) (.int b u)) Q E s := divE he hb hp (h _ _)
theorem imulA (he : a * b = c) (hm : intBits a + intBits b ≤ 2 ^ 27) (h : ∀ u' tk, Q (.int c u') { s with toks := tk }) : wpAny (model prog w) A (inplaceOp .Mult (.int a t) (.int b u)) Q E s := by
  subst he; exact imul_int (h _ _) (mulOk hm)
theorem iaddA (he : a + b = c) (h : ∀ u' tk, Q (.int c u') { s with toks := tk }) : wpAny (model prog w) A (inplaceOp .Add (.int a t) (.int b u)) Q E s := by
  subst he; exact iadd_int (h _ _)
theorem idivA (he : a / b = c) (hb : 0 < b) (hp : intBits b ≤ 9000 ∨ intBits a ≤ intBits b + 4000) (h : ∀ u' tk, Q (.int c u') { s with toks := tk }) : wpAny (model prog w) A (inplaceOp .FloorDiv (.int a t) (.int b u)) Q E s := by
  subst he
  refine ifloordiv_int (Int.ne_of_gt hb) ?_ (Or.inl (noPy_of hp))
  rw [Int.fdiv_eq_ediv_of_nonneg _ (Int.le_of_lt hb)]
  exact h _ _
theorem geC {v : Bool} (he : decide (b ≤ a) = v) (h : Q (.bool v) s) : wpAny (model prog w) A (compareOp .GtE (.int a t) (.int b u)) Q E s := by
  subst he; exact ge_int h
theorem item_wrap {value slice : PySem.Expr} {L l : Addr} {h₀ : Heap} {lo : Obj} {vs : List Value} {ns : List Int} {nn : Nat} {news : List (Addr × Obj)} {k c : Int} (N : News h₀ L s.heap news) (hm : (l, lo) ∈ news) (hc' : lo.cls = .type "list") (hd : lo.data = .seq vs.toArray nn) (hi : IntsAre vs ns) (hc : ItemAt ns k c)
    (h : ∀ t, Q (.int c t) s) (hs : subscripted slice false (.ref l) (.int k u) = operate [.ref l, .int k u] (getItem (.ref l) (.int k u)) := by with_unfolding_all rfl) :
    wpAny (model prog w) A (subscriptTail value slice (.ref l) (.int k u)) Q E s := by
  have hl : s.heap.IsList l vs.toArray := ⟨lo, (N _ hm).1, hc', nn, hd⟩
  rcases hc with ⟨h0, h1, h2⟩ | ⟨h0, h1, h2, h3⟩
  · exact item_at hl hi h0 h1 h2 h hs
  · obtain ⟨t, ht⟩ := hi.get _ c h3
    have hlen := hi.length
    exact tail_any hl.typeIs slot_list_getitem.lookup (wpAny_getItem_list_neg hl h0 (by simpa [hlen] using h1) h2 (by simpa [hlen] using ht) (h t)) hs
end
end
open PySem PySem.W PyProof.Rows
set_option Elab.async false
set_option maxRecDepth 100000
set_option maxHeartbeats 8000000
open PySem.Builtin.Int (intBits)
open_top hd5 for PySem.Challenge.rw_kq0022_05
theorem fill5 : PySem.Challenge.rw_kq0022_05 = PySem.Challenge.rw_kq0022_05 ∧ ∀ P, hd5.heap_39 P = hd5.heap_39 P := by k_fill; exact ⟨rfl, fun _ => rfl⟩
def Stop (P : Prop) : Prop := P
theorem stop {P : Prop} (h : Stop P) : P := h
local macro_rules | `(tactic| walk_at "binaryOp FloorDiv int int") => `(tactic| first
  | (refine' divE ?kz ?ka ?kb ?_; (case kz => first | assumption | k_dflt assumption); (case ka => first | assumption | k_dflt assumption | k_dflt decide); (case kb => first | assumption | k_dflt assumption | k_dflt exact Or.inl (by decide) | k_dflt omega))
  | (refine floordiv_int ?ka ?_ ?kb; (case ka => assumption); (case kb => exact Or.inl (by assumption)))
  | (refine divX ?ka ?kb ?_; (case ka => first | assumption | k_dflt assumption | k_dflt decide); (case kb => first | assumption | k_dflt assumption | k_dflt exact Or.inl (by decide) | k_dflt omega)))
local macro_rules | `(tactic| walk_at "binaryOp Mod int int") => `(tactic| first
  | (refine' modE ?kz ?ka ?_; (case kz => first | assumption | k_dflt assumption); (case ka => first | assumption | k_dflt assumption | k_dflt decide | k_dflt omega))
  | (refine modX ?ka ?_; (case ka => first | assumption | k_dflt assumption | k_dflt decide | k_dflt omega)))
local macro_rules | `(tactic| walk_at "binaryOp Mult int int") => `(tactic| first
  | (refine' mulE ?kz ?ka ?_; (case kz => first | assumption | k_dflt assumption); (case ka => first | assumption | k_dflt assumption | k_dflt omega))
  | (refine mulX ?ka ?_; (case ka => first | assumption | k_dflt assumption | k_dflt omega)))
local macro_rules | `(tactic| walk_at "binaryOp Add int int") => `(tactic| (refine' addE ?kz ?_; (case kz => first | assumption | k_dflt assumption)))
local macro_rules | `(tactic| walk_at "binaryOp Sub int int") => `(tactic| (refine' subE ?kz ?_; (case kz => first | assumption | k_dflt assumption)))
local macro_rules | `(tactic| walk_at "binaryOp LShift int int") => `(tactic| first
  | (refine' shlE ?kz ?ka ?kb ?_; (case kz => first | assumption | k_dflt assumption); (case ka => first | assumption | k_dflt assumption | k_dflt omega); (case kb => first | assumption | k_dflt assumption | k_dflt omega))
  | (refine shlX ?ka ?kb ?_; (case ka => first | assumption | k_dflt assumption | k_dflt omega); (case kb => first | assumption | k_dflt assumption | k_dflt omega)))
local macro_rules | `(tactic| walk_at "binaryOp RShift int int") => `(tactic| first
  | (refine' shrE ?kz ?ka ?_; (case kz => first | assumption | k_dflt assumption); (case ka => first | assumption | k_dflt assumption | k_dflt omega))
  | (refine shrX ?ka ?_; (case ka => first | assumption | k_dflt assumption | k_dflt omega)))
local macro_rules | `(tactic| walk_at "binaryOp Pow int int") => `(tactic| first
  | (refine' powE ?kz ?ka ?kb ?_; (case kz => first | assumption | k_dflt assumption); (case ka => first | assumption | k_dflt assumption | k_dflt decide | k_dflt omega); (case kb => first | assumption | k_dflt assumption | k_dflt decide | k_dflt omega))
  | (refine powX ?ka ?kb ?_; (case ka => first | assumption | k_dflt assumption | k_dflt decide | k_dflt omega); (case kb => first | assumption | k_dflt assumption | k_dflt decide | k_dflt omega)))
local macro_rules | `(tactic| walk_at "call builtin:math.isqrt") => `(tactic| (refine isqrtX ?ka ?kb ?_; (case ka => assumption); (case kb => assumption)))
local macro_rules | `(tactic| walk_at "binaryOp BitOr int bool") => `(tactic| (refine or_int_bool ?_))
local macro_rules | `(tactic| walk_at "binaryOp Div int int") => `(tactic| (refine tdivX ?kh ?ka ?kb ?kc ?_; (case kh => k_dflt rfl); (case ka => first | assumption | k_dflt assumption | k_dflt omega); (case kb => first | assumption | k_dflt assumption | k_dflt decide | k_dflt omega); (case kc => assumption)))
local macro_rules | `(tactic| walk_at "getMethod float") => `(tactic| (refine getMethod_air ?_))
local macro_rules | `(tactic| walk_at "call builtin:float.as_integer_ratio") => `(tactic| (k_here; k_dflt (refine' call_air ?F ?N ?d ?r ?_; (case F => k_asm); (case N => k_asm); (case d => assumption); (case r => assumption); k_whole); intro h' T' tk' F' N' l1; (try k_lt l1); (try k_sweep)))
local macro_rules | `(tactic| walk_at "call builtin:abs") => `(tactic| (refine' absE ?kz ?_; (case kz => first | assumption | k_dflt assumption); intro u' tk'))
section
variable {prog : Program} {w : World} {p : Program} {loose : List Str} {mean : ExcName → Option Value} {mg mb : Str → Option Value} {news : List (Addr × Obj)}
  {dp un : Nat} {gd : Option (List Code)} {cn : Str} {cs : Scope} {L a : Addr} {ccd : Value} {cl : List (Str × Addr)} {outer : List Env} {A₀ : Around} {base h₀ : Heap} {lm : Str → Option Value} {s : Shared} {Q E : Value → Shared → Prop}
theorem rto5 {n m : Int} {t u : Tok} (B : Below A₀ base outer h₀) (F : Fr h₀ L s.heap lm) (X : (hd5.heap_39 w.params).In h₀) (N : News h₀ L s.heap news) (T : Top p loose mean mg mb h₀)
    (hk : cs.kind = .function) (hd : dp + 1 < recursionLimit) (_hu : un + 8 < cLine)
    (hs : Sg n m) (hq : intBits (n.fdiv m) ≤ 13000) (hp : intBits m ≤ 9000 ∨ intBits n ≤ intBits m + 4000) (hm : intBits m ≤ 2 ^ 26) (hret : CbRet h₀ L lm news s Q (fun t => .int ((rtoN n.natAbs m.natAbs : Nat) : Int) t)) :
    wpAny (model prog w) (ktrTop dp un gd cn cs L a ccd cl outer) (call (.ref 49) [.int n t, .int m u]) Q E s := by
  dsimp only [CbRet] at hret
  have f1 : m ≠ 0 := hs.ne
  have f2 := noPy_of hp
  have f3 : 0 ≤ n.fdiv m := by rw [hs.fdiv]; exact Int.natCast_nonneg _
  have f4 := bl_root hq
  have f5 : intBits ((Float64.isqrt (n.fdiv m).toNat : Nat) : Int) + intBits ((Float64.isqrt (n.fdiv m).toNat : Nat) : Int) ≤ 2 ^ 27 := by omega
  have f6 : intBits (((Float64.isqrt (n.fdiv m).toNat : Nat) : Int) * ((Float64.isqrt (n.fdiv m).toNat : Nat) : Int)) + intBits m ≤ 2 ^ 27 := by
    have := bl_mul ((Float64.isqrt (n.fdiv m).toNat : Nat) : Int) ((Float64.isqrt (n.fdiv m).toNat : Nat) : Int)
    omega
  refine wpAny_call ?_
  k_dflt cell_enter
  k_steps
  exact cb_retI hret (rto_val hs) (by assumption) (by assumption)
end
section
variable {prog : Program} {w : World} {p : Program} {loose : List Str} {mean : ExcName → Option Value} {mg mb : Str → Option Value} {news : List (Addr × Obj)}
  {dp un : Nat} {gd : Option (List Code)} {cn : Str} {cs : Scope} {L a : Addr} {ccd : Value} {cl : List (Str × Addr)} {outer : List Env} {A₀ : Around} {base h₀ : Heap} {lm : Str → Option Value} {s : Shared} {Q E : Value → Shared → Prop}
local macro_rules | `(tactic| walk_at "call ref") => `(tactic| (k_here; (with_reducible show wpAny _ _ (call (Value.ref _) [Value.int _ _, Value.int _ _]) _ _ _); k_dflt (refine' rto5 ?B ?F ?X ?N ?T ?k ?d ?u ?s ?b ?p ?m ?_; (case B => k_asm); (case F => k_asm); (case X => k_asm); (case N => k_asm); (case T => k_asm); (case k => exact rfl); (case d => ktr_room); (case u => ktr_units); (case s => assumption); (case b => assumption); (case p => assumption); (case m => assumption); (intro t9 h9 tk9 F9 N9; (try dsimp only); (try k_fold)))))
theorem fsq5 {n m : Int} {t u : Tok} (B : Below A₀ base outer h₀) (F : Fr h₀ L s.heap lm) (X : (hd5.heap_39 w.params).In h₀) (N : News h₀ L s.heap news) (T : Top p loose mean mg mb h₀)
    (hk : cs.kind = .function) (hd : dp + 2 < recursionLimit) (_hu : un + 16 < cLine)
    (hs : Sg n m) (hn : intBits n ≤ 2 ^ 24) (hm : intBits m ≤ 2 ^ 24) (hf : Float64.isInf (fsF n m) = false) (hret : CbRet h₀ L lm news s Q (fun t => .float (fsF n m) t)) :
    wpAny (model prog w) (ktrTop dp un gd cn cs L a ccd cl outer) (call (.ref 56) [.int n t, .int m u]) Q E s := by
  dsimp only [CbRet] at hret
  have f1 : intBits 2 = 2 := by decide
  have f2 : intBits 1 = 1 := by decide
  have f3 := fsQ_bl hn hm rfl
  have f4 : intBits 2 + intBits (((intBits n : Int) - (intBits m : Int) - 109) / 2) ≤ 2 ^ 27 := by omega
  have f5 : intBits (-2) + intBits (((intBits n : Int) - (intBits m : Int) - 109) / 2) ≤ 2 ^ 27 := by
    have : intBits (-2) = 2 := by decide
    omega
  by_cases hq : 0 ≤ ((intBits n : Int) - (intBits m : Int) - 109) / 2
  · obtain ⟨g1, g2, g3, g4, g5⟩ := fsUp hs hn hm rfl hq
    have g6 := fsF_up (n := n) (m := m) rfl hq
    have g7 : (0 : Int) ≤ ((rtoN n.natAbs (m * 2 ^ (2 * (((intBits n : Int) - (intBits m : Int) - 109) / 2)).toNat).natAbs : Nat) : Int) * 2 ^ (((intBits n : Int) - (intBits m : Int) - 109) / 2).toNat := Int.mul_nonneg (Int.natCast_nonneg _) (Int.le_of_lt (two_pow_pos' _))
    have g8 := hf
    rw [← g6] at g8
    refine wpAny_call ?_
    k_dflt cell_enter
    k_steps
    rw [g6]
    exact hret _ _ _ (by assumption) (by assumption)
  · obtain ⟨g1, g2, g3, g4, g5⟩ := fsDown hs hn hm rfl hq
    have g6 := fsF_down (n := n) (m := m) rfl hq
    have g7 := Int.natCast_nonneg (rtoN (n * 2 ^ (-2 * (((intBits n : Int) - (intBits m : Int) - 109) / 2)).toNat).natAbs m.natAbs)
    have g9 : (0 : Int) < 1 * 2 ^ (-(((intBits n : Int) - (intBits m : Int) - 109) / 2)).toNat := Int.mul_pos (by decide) (two_pow_pos' _)
    have g8 := hf
    rw [← g6] at g8
    refine wpAny_call ?_
    k_dflt cell_enter
    k_steps
    rw [g6]
    exact hret _ _ _ (by assumption) (by assumption)
end
section
local macro_rules | `(tactic| walk_at "idle one") => `(tactic| skip)
local macro_rules | `(tactic| walk_at "idle two") => `(tactic| skip)
local macro_rules | `(tactic| walk_at "call ref") => `(tactic| (k_here; (with_reducible show wpAny _ _ (call (Value.ref 56) [Value.int _ _, Value.int _ _]) _ _ _); k_dflt (refine' fsq5 ?B ?F ?X ?N ?T ?k ?d ?u ?q0 ?q1 ?q2 ?q3 ?_; (case B => k_asm); (case F => k_asm); (case X => k_asm); (case N => k_asm); (case T => k_asm); (case k => exact rfl); (case d => ktr_room); (case u => ktr_units); (case q0 => first | assumption | omega); (case q1 => first | assumption | omega); (case q2 => first | assumption | omega); (case q3 => first | assumption | omega); (intro t9 h9 tk9 F9 N9; (try dsimp only); (try k_fold)))))

section
variable {prog : Program} {w : World} {p : Program} {loose : List Str} {mean : ExcName → Option Value} {mg mb : Str → Option Value} {news : List (Addr × Obj)}
  {dp un : Nat} {gd : Option (List Code)} {cn : Str} {cs : Scope} {L a : Addr} {ccd : Value} {cl : List (Str × Addr)} {outer : List Env} {A₀ : Around} {base h₀ : Heap} {lm : Str → Option Value} {s : Shared} {Q E : Value → Shared → Prop}

theorem side5 {n m tm r : Int} {T₀ : Nat} {d : UInt64} {tx ty tz tw : Tok} (B : Below A₀ base outer h₀) (F : Fr h₀ L s.heap lm) (X : (hd5.heap_39 w.params).In h₀) (N : News h₀ L s.heap news) (T : Top p loose mean mg mb h₀)
    (hk : cs.kind = .function) (hd : dp + 3 < recursionLimit) (_hu : un + 24 < cLine)
    (hn : 0 < n) (hm : 0 < m) (bn : intBits n ≤ 900) (bm : intBits m ≤ 900) (ht : tm ≠ 0) (bt : intBits tm ≤ 200) (hT : T₀ < Float64.infMag) (hd' : d = Float64.pack false T₀) (hr : sdT T₀ n m = r)
    (hret : CbRet h₀ L lm news s Q (fun t => .int r t)) :
    wpAny (model prog w) (ktrTop dp un gd cn cs L a ccd cl outer) (call (.ref 63) [.int n tx, .int m ty, .int tm tz, .float d tw]) Q E s := by
  dsimp only [CbRet] at hret
  have hf : fsT n m < Float64.infMag := (fsT_range (.inl ⟨by omega, hm⟩) (by omega) (by omega) (by omega)).2
  have hv := side_val hT hn hm ht hf
  have f1 := sg_mul hn hm ht
  have b1 := bl_mul n tm
  have b2 := bl_mul m tm
  have f2 : intBits n + intBits tm ≤ 2 ^ 27 := by omega
  have f3 : intBits m + intBits tm ≤ 2 ^ 27 := by omega
  have f4 : intBits (n * tm) ≤ 2 ^ 24 := by omega
  have f5 : intBits (m * tm) ≤ 2 ^ 24 := by omega
  have f6 : Float64.isInf (fsF (n * tm) (m * tm)) = false := fsF_fin (by rw [fsT_mul hn hm ht]; exact hf)
  rw [← hd', hr] at hv
  clear b1 b2 hf hr hd' bn bm bt hT ht
  w_top off
  refine wpAny_call ?_
  k_dflt cell_enter
  k_steps
  exact cb_retI hret hv (by assumption) (by assumption)
end

end
section
local macro_rules | `(tactic| walk_at "exec For") => `(tactic| (k_here; (rename Fr _ _ _ _ => lF'); (with_unfolding_all refine' For_turns lF' ?_; k_whole)))
local macro_rules | `(tactic| walk_at "exec For Tuple Call cons nil") => `(tactic| (k_here; (rename Fr _ _ _ _ => lF'); (with_unfolding_all refine' For_turns lF' ?_; k_whole)))
local macro_rules | `(tactic| walk_at "exec For Tuple List cons nil") => `(tactic| (k_here; (rename Fr _ _ _ _ => lF'); (with_unfolding_all refine' For_turns lF' ?_; k_whole)))
local macro_rules | `(tactic| walk_at "exec For Name List cons nil") => `(tactic| (k_here; (rename Fr _ _ _ _ => lF'); (with_unfolding_all refine' For_turns lF' ?_; k_whole)))
local macro_rules | `(tactic| walk_at "exec For Name Tuple cons nil") => `(tactic| (k_here; (rename Fr _ _ _ _ => lF'); (with_unfolding_all refine' For_turns lF' ?_; k_whole)))
local macro_rules | `(tactic| walk_at "exec For Name Call cons nil") => `(tactic| (k_here; (rename Fr _ _ _ _ => lF'); (with_unfolding_all refine' For_turns lF' ?_; k_whole)))
local macro_rules | `(tactic| walk_at "exec For Name Name cons nil") => `(tactic| (k_here; (rename Fr _ _ _ _ => lF'); (with_unfolding_all refine' For_turns lF' ?_; k_whole)))
local macro_rules | `(tactic| walk_at "call type:zip") => `(tactic| ((with_reducible show wpAny _ _ (call (Value.type _) [Value.ref _, Value.ref _]) (fun xv s₁ => wpAny _ _ (pyIter xv) (fun it s₂ => TurnsAt _ _ _ _ _ _ _ _ _ it s₂) _ s₁) _ _); refine stop ?_))
local macro_rules | `(tactic| walk_at "pyIter ref") => `(tactic| ((with_reducible show wpAny _ _ (pyIter (Value.ref _)) (fun it s₂ => TurnsAt _ _ _ _ _ _ _ _ _ it s₂) _ _); refine stop ?_))
local macro_rules | `(tactic| walk_at "binaryOp Mult int int") => `(tactic| first | (refine' mulA ?kz ?ka ?_; (case kz => k_dflt assumption); (case ka => k_dflt assumption); intro _ _; (try dsimp only)) | (refine mulX ?ka ?_; (case ka => (apply_assumption <;> omega))))
local macro_rules | `(tactic| walk_at "binaryOp Add int int") => `(tactic| first | (refine' addA ?kz ?_; (case kz => k_dflt assumption); intro _ _; (try dsimp only)))
local macro_rules | `(tactic| walk_at "binaryOp Sub int int") => `(tactic| first | (refine' subA ?kz ?_; (case kz => k_dflt assumption); intro _ _; (try dsimp only)))
local macro_rules | `(tactic| walk_at "binaryOp Mod int int") => `(tactic| first | (refine' modA ?kz ?ka ?_; (case kz => k_dflt assumption); (case ka => k_dflt assumption); intro _ _; (try dsimp only)))
local macro_rules | `(tactic| walk_at "binaryOp Pow int int") => `(tactic| first | (refine' powA ?kz ?ka ?kb ?_; (case kz => k_dflt assumption); (case ka => k_dflt assumption); (case kb => k_dflt assumption); intro _ _; (try dsimp only)))
local macro_rules | `(tactic| walk_at "binaryOp LShift int int") => `(tactic| first | (refine' shlA ?kz ?ka ?kb ?_; (case kz => k_dflt assumption); (case ka => k_dflt assumption); (case kb => k_dflt assumption); intro _ _; (try dsimp only)) | (refine shlX ?ka ?kb ?_; (case ka => (apply_assumption <;> omega)); (case kb => (apply_assumption <;> omega))))
local macro_rules | `(tactic| walk_at "binaryOp RShift int int") => `(tactic| first | (refine' shrA ?kz ?ka ?_; (case kz => k_dflt assumption); (case ka => k_dflt assumption); intro _ _; (try dsimp only)))
local macro_rules | `(tactic| walk_at "binaryOp FloorDiv int int") => `(tactic| first | (refine' divA ?kz ?ka ?kb ?_; (case kz => k_dflt assumption); (case ka => first | k_dflt assumption | k_dflt decide); (case kb => first | k_dflt assumption | k_dflt exact Or.inl (by decide)); intro _ _; (try dsimp only)))
local macro_rules | `(tactic| walk_at "exec While Compare cons nil") => `(tactic| (refine stop ?_))
local macro_rules | `(tactic| walk_at "exec While BoolOp cons nil") => `(tactic| (refine stop ?_))

/-- the state of the first loop -/
structure SM where
  a : Int
  b : Int
  c : Int
  d : Int
  ta : Tok
  tb : Tok
  tc : Tok
  td : Tok
  ws : List Int
  vs : List Value
  k : Nat
theorem WP.wholes {h₀ : Heap} {L lw : Addr} {keep : List Str} {m₀ : Str → Option Value} {J : SM → Prop} {kk : Nat} {x : Addr × Obj} {news : List (Addr × Obj)} {s₁ : Shared} {Q : Flow → Shared → Prop} {h' : Heap} {tk : Nat} {m' : Str → Option Value}
    {a b c d w0 : Int} {ta tb tc td u : Tok} {ws : List Int} {vs : List Value} {k : Nat}
    (F : Fr h₀ L h' m') (N : News h₀ L h' (x :: (lw, W.listOf (vs ++ [Value.int w0 u]).toArray k) :: news)) (ea : m' (Str.ofString "a") = some (Value.int a ta)) (eb : m' (Str.ofString "b") = some (Value.int b tb)) (ec : m' (Str.ofString "c") = some (Value.int c tc)) (ed : m' (Str.ofString "d") = some (Value.int d td))
    (hk : Keeps keep m₀ m') (hJ : J ⟨a, b, c, d, ta, tb, tc, td, ws ++ [w0], vs ++ [Value.int w0 u], k⟩) (hm : (b + d).toNat < kk) :
    WP h₀ L keep m₀ (fun c : SM => [(Str.ofString "a", Value.int c.a c.ta), (Str.ofString "b", Value.int c.b c.tb), (Str.ofString "c", Value.int c.c c.tc), (Str.ofString "d", Value.int c.d c.td)]) (fun c => [(lw, W.listOf (c.vs, c.k).1.toArray (c.vs, c.k).2)]) J (fun c => (c.b + c.d).toNat) kk news s₁ Q .next { s₁ with heap := h', toks := tk } :=
  WP.next ⟨a, b, c, d, ta, tb, tc, td, ws ++ [w0], vs ++ [Value.int w0 u], k⟩ F N (fun p hp => by rw [List.mem_singleton.mp hp]; exact .tail _ (.head _)) (fun p hp => .tail _ (.tail _ hp)) hk
    (fun p hp => by simp only [List.mem_cons, List.not_mem_nil, or_false] at hp; rcases hp with rfl | rfl | rfl | rfl <;> assumption) hJ hm
section
variable {prog : Program} {w : World} {A : Around} {E : Value → Shared → Prop} {s : Shared} {env : Env} {h₀ : Heap} {target : Expr} {body : List Stmt} {Q : Flow → Shared → Prop}
/-- over a list, two names that hold ints -/
theorem list_two {x0 x1 : Str} {n0 m0 : Int} {t0 u0 : Tok} {ax : Addr} {lo : Obj} {vs : List Value} {nn : Nat} {m₀ : Str → Option Value} {news : List (Addr × Obj)} (keep : List Str) (J : Nat → Int → Int → Prop)
    (hh : A.handled = none) (F : Fr h₀ env.locals s.heap (fun y => if y = x0 then some (Value.int n0 t0) else if y = x1 then some (Value.int m0 u0) else m₀ y)) (hx : x1 ≠ x0) (N : News h₀ env.locals s.heap news) (hm : (ax, lo) ∈ news) (hc : lo.cls = .type "list") (hd : lo.data = .seq vs.toArray nn)
    (h0 : J 0 n0 m0)
    (turn : ∀ (I : Addr) (o : Obj) (i : Nat) v (n m : Int) (tn tm : Tok) (m₁ : Str → Option Value) h tk, vs[i]? = some v → J i n m → Fr h₀ env.locals h (fun y => if keep.contains y then (if y = x0 then some (Value.int n0 t0) else if y = x1 then some (Value.int m0 u0) else m₀ y) else if y = x0 then some (Value.int n tn) else if y = x1 then some (Value.int m tm) else m₁ y) → News h₀ env.locals h (news ++ [(I, o)]) →
      wpAny (model prog w) A (assign target env v) (fun _ s₃ => wpAny (model prog w) A (execs body env) (SP h₀ env.locals keep (fun y => if y = x0 then some (Value.int n0 t0) else if y = x1 then some (Value.int m0 u0) else m₀ y) (fun c : Int × Int × Tok × Tok => [(x0, Value.int c.1 c.2.2.1), (x1, Value.int c.2.1 c.2.2.2)]) (fun _ => []) (fun c => J (i + 1) c.1 c.2.1) I (news ++ [(I, o)]) { s with heap := h, toks := tk } Q) E s₃) E { s with heap := h, toks := tk })
    (done : ∀ (n m : Int) (tn tm : Tok) (m₁ : Str → Option Value) h tk, J vs.length n m → Fr h₀ env.locals h (fun y => if keep.contains y then (if y = x0 then some (Value.int n0 t0) else if y = x1 then some (Value.int m0 u0) else m₀ y) else if y = x0 then some (Value.int n tn) else if y = x1 then some (Value.int m tm) else m₁ y) → News h₀ env.locals h news → Q .next { s with heap := h, toks := tk }) :
    wpAny (model prog w) A (pyIter (.ref ax)) (fun it s₂ => TurnsAt prog w A h₀ env target body Q E it s₂) E s :=
  list_state (σ := Int × Int × Tok × Tok) keep (fun c => [(x0, Value.int c.1 c.2.2.1), (x1, Value.int c.2.1 c.2.2.2)]) (fun _ => []) (fun i c => J i c.1 c.2.1) (n0, m0, t0, u0) hh F N hm hc hd (fun p hp => nomatch hp)
    (fun p hp => by simp only [List.mem_cons, List.not_mem_nil, or_false] at hp; rcases hp with rfl | rfl <;> simp [hx]) h0
    (fun I o i v c m₁ h tk _ _ hv hJ F₁ N₁ => turn I o i v c.1 c.2.1 c.2.2.1 c.2.2.2 m₁ h tk hv hJ F₁ N₁) (fun c m₁ h tk hJ F₁ N₁ => done c.1 c.2.1 c.2.2.1 c.2.2.2 m₁ h tk hJ F₁ N₁)
end
theorem SP.two {h₀ : Heap} {L : Addr} {keep : List Str} {m₀ : Str → Option Value} {x0 x1 : Str} {J : Int × Int × Tok × Tok → Prop} {I : Addr} {all all' : List (Addr × Obj)} {s₁ : Shared} {Q : Flow → Shared → Prop} {h' : Heap} {tk : Nat} {m' : Str → Option Value} {n m : Int} {tn tm : Tok}
    (F : Fr h₀ L h' m') (N : News h₀ L h' all') (ha : ∀ p ∈ all, p ∈ all') (hk : Keeps keep m₀ m') (en : m' x0 = some (Value.int n tn)) (em : m' x1 = some (Value.int m tm)) (hJ : J (n, m, tn, tm)) :
    SP h₀ L keep m₀ (fun c : Int × Int × Tok × Tok => [(x0, Value.int c.1 c.2.2.1), (x1, Value.int c.2.1 c.2.2.2)]) (fun _ => []) J I all s₁ Q .next { s₁ with heap := h', toks := tk } := by
  refine ⟨(n, m, tn, tm), h', tk, m', rfl, F, fun p hp => N p (ha p hp), ?_, hk, ?_, hJ⟩
  · intro p hp; exact nomatch hp
  · intro p hp; simp only [List.mem_cons, List.not_mem_nil, or_false] at hp; rcases hp with rfl | rfl <;> assumption
section
variable {prog : Program} {w : World} {p : Program} {loose : List Str} {mean : ExcName → Option Value} {mg mb : Str → Option Value} {news : List (Addr × Obj)}
  {dp un : Nat} {gd : Option (List Code)} {cn : Str} {cs : Scope} {L a : Addr} {ccd : Value} {cl : List (Str × Addr)} {outer : List Env} {A₀ : Around} {base h₀ : Heap} {lm : Str → Option Value} {s : Shared} {Q E : Value → Shared → Prop}

theorem simp5 {a₀ b₀ c₀ d₀ : Int} {tx ty tz tw : Tok} (B : Below A₀ base outer h₀) (F : Fr h₀ L s.heap lm) (X : (hd5.heap_39 w.params).In h₀) (N : News h₀ L s.heap news) (T : Top p loose mean mg mb h₀)
    (hk : cs.kind = .function) (hd : dp + 3 < recursionLimit) (_hu : un + 40 < cLine)
    (iv : Iv a₀ b₀ c₀ d₀) (ba : a₀ ≤ 2 ^ 800) (bb : b₀ ≤ 2 ^ 800) (bc : c₀ ≤ 2 ^ 800) (bd : d₀ ≤ 2 ^ 800)
    (hret : ∀ n m, Simp a₀ b₀ c₀ d₀ n m → TupRet h₀ L lm news s Q n m) :
    wpAny (model prog w) (ktrTop dp un gd cn cs L a ccd cl outer) (call (.ref 77) [.int a₀ tx, .int b₀ ty, .int c₀ tz, .int d₀ tw]) Q E s := by
  w_top off
  refine wpAny_call ?_
  k_dflt cell_enter
  k_steps
  unfold Stop
  rename Fr _ _ _ _ => hF
  obtain ⟨_, FF⟩ := knows5 (x0 := Str.ofString "wholes") (x1 := Str.ofString "a") (x2 := Str.ofString "b") (x3 := Str.ofString "c") (x4 := Str.ofString "d") hF (by with_unfolding_all rfl) (by with_unfolding_all rfl) (by with_unfolding_all rfl) (by with_unfolding_all rfl) (by with_unfolding_all rfl)
  clear hF
  rename News _ _ _ _ => hN
  refine while_list (σ := SM) [Str.ofString "wholes"] (fun c => [(Str.ofString "a", .int c.a c.ta), (Str.ofString "b", .int c.b c.tb), (Str.ofString "c", .int c.c c.tc), (Str.ofString "d", .int c.d c.td)]) (fun c => (c.vs, c.k)) (fun c => Unf a₀ b₀ c₀ d₀ c.ws c.a c.b c.c c.d ∧ IntsAre c.vs c.ws) (fun c => (c.b + c.d).toNat) ⟨a₀, b₀, c₀, d₀, tx, ty, tz, tw, [], [], 0⟩ FF hN ?_ ⟨.nil, .nil⟩ ?_
  · intro p hp
    simp only [List.mem_cons, List.not_mem_nil, or_false] at hp
    rcases hp with rfl | rfl | rfl | rfl <;> with_unfolding_all rfl
  · intro c m₁ h tk hJ F₁ N₁
    obtain ⟨a, b, c, d, ta, tb, tc, td, ws, vs, k⟩ := c
    obtain ⟨hu, hi⟩ := hJ
    dsimp only [look] at F₁ N₁ hu hi ⊢
    clear FF hN
    obtain ⟨_, FF2⟩ := knows5 (x0 := Str.ofString "wholes") (x1 := Str.ofString "a") (x2 := Str.ofString "b") (x3 := Str.ofString "c") (x4 := Str.ofString "d") F₁ (by with_unfolding_all rfl) (by with_unfolding_all rfl) (by with_unfolding_all rfl) (by with_unfolding_all rfl) (by with_unfolding_all rfl)
    clear F₁
    have ht := m_turn iv ba bb bc bd hu hi
    obtain ⟨q0, qd, eq0, b1, eb, eqd, sqd, hlen, hcase⟩ := ht
    rcases hcase with ⟨g1, w0, wd, c', r, ew0, eb2, ewd, swd, ec', er, hu', hmu⟩ | ⟨g1, hs⟩
    · k_steps
      rename News _ _ _ _ => nE
      simp only [List.push_toArray] at nE
      exact WP.wholes (by assumption) nE (by with_unfolding_all rfl) (by with_unfolding_all rfl) (by with_unfolding_all rfl) (by with_unfolding_all rfl) (by with_unfolding_all rfl) ⟨hu', ints_snoc hi _ _⟩ hmu
    · k_steps
      unfold Stop
      rename Fr _ _ _ _ => hF
      rename IntsAre _ (List.reverse _) => hR
      clear g1 eq0 eb eqd sqd hlen
      refine list_two [] (fun i n m => Bk a₀ b₀ c₀ d₀ ws i n m) rfl hF (by decide) (by assumption) (by k_mem) rfl rfl (Bk.zero hu hs) ?_ ?_
      · intro I o i v n m tn tm m₂ h₂ tk₂ hv hB F₂ N₂
        simp only [List.cons_append, List.nil_append] at N₂
        obtain ⟨x, tx', hv', hw⟩ := hR.at _ _ hv
        subst hv'
        have hb := bk_turn iv ba bb bc bd hu hB hw
        obtain ⟨wn, n', ewn, swn, en', hB'⟩ := hb
        k_steps
        exact SP.two (by assumption) (by assumption) (fun _ hp => .tail _ hp) (by with_unfolding_all rfl) (by with_unfolding_all rfl) (by with_unfolding_all rfl) hB'
      · intro n m tn tm m₂ h₂ tk₂ hB F₂ N₂
        k_steps
        rename News _ _ _ _ => kN
        rename Fr _ _ _ _ => kF
        try dsimp only at kF kN
        rw [hR.length, List.length_reverse] at hB
        exact hret n m hB.done _ _ _ _ _ kF (cb_drop kN fun p hp => by
          rcases List.mem_cons.mp hp with rfl | h
          · exact .head _
          · exact .tail _ (.tail _ (.tail _ (.tail _ h))))
end

end
section

/-- a pair of ints, as it lies -/
abbrev tup2 (a : Int) (t : Tok) (b : Int) (u : Tok) : Obj := { cls := Value.type "tuple", data := Data.seq #[Value.int a t, Value.int b u] }
structure AQ where
  T1 : Addr
  T2 : Addr
  a : Int
  b : Int
  c : Int
  d : Int
  ta : Tok
  tb : Tok
  tc : Tok
  td : Tok
section
variable {prog : Program} {w : World} {A : Around} {E : Value → Shared → Prop} {s : Shared} {env : Env} {h₀ : Heap} {target : Expr} {body : List Stmt} {Q : Flow → Shared → Prop}
/-- over a range, two names that hold pairs -/
theorem range_ends {x x0 x1 : Str} {px : Pos} {r T1 T2 : Addr} {a₀ b₀ : Int} {t₀ u₀ v₀ : Tok} {n : Nat} {m₀ : Str → Option Value} {news : List (Addr × Obj)} {a b c d : Int} {ta tb tc td : Tok} (keep : List Str) (J : Nat → Int → Int → Int → Int → Prop)
    (hh : A.handled = none) (hr : IsRange s.heap r a₀ b₀ 1 t₀ u₀ v₀) (hn : Builtin.Range.rangeSize a₀ b₀ 1 = (n : Int)) (F : Fr h₀ env.locals s.heap (fun y => if y = x0 then some (.ref T1) else if y = x1 then some (.ref T2) else m₀ y)) (hx : x1 ≠ x0) (N : News h₀ env.locals s.heap news) (h1 : (T1, tup2 a ta b tb) ∈ news) (h2 : (T2, tup2 c tc d td) ∈ news)
    (h0 : J 0 a b c d)
    (turn : ∀ (I : Addr) (o : Obj) (i : Nat) t (T1' T2' : Addr) (a b c d : Int) (ta tb tc td : Tok) (m₁ : Str → Option Value) h tk, o.cls ≠ .type "list" → o.cls ≠ .type "tuple" → i < n → J i a b c d → Fr h₀ env.locals h (fun y => if keep.contains y then (if y = x0 then some (.ref T1) else if y = x1 then some (.ref T2) else m₀ y) else if y = x0 then some (.ref T1') else if y = x1 then some (.ref T2') else m₁ y) → News h₀ env.locals h ((T1', tup2 a ta b tb) :: (T2', tup2 c tc d td) :: (news ++ [(I, o)])) →
      wpAny (model prog w) A (assign (.Name x px) env (.int (a₀ + (i : Int)) t)) (fun _ s₃ => wpAny (model prog w) A (execs body env) (SP h₀ env.locals keep (fun y => if y = x0 then some (.ref T1) else if y = x1 then some (.ref T2) else m₀ y) (fun c : AQ => [(x0, .ref c.T1), (x1, .ref c.T2)]) (fun c => [(c.T1, tup2 c.a c.ta c.b c.tb), (c.T2, tup2 c.c c.tc c.d c.td)]) (fun c => J (i + 1) c.a c.b c.c c.d) I (news ++ [(I, o)]) { s with heap := h, toks := tk } Q) E s₃) E { s with heap := h, toks := tk })
    (done : ∀ (c : AQ) (m₁ : Str → Option Value) h tk, J n c.a c.b c.c c.d → Q .next { s with heap := h, toks := tk }) :
    wpAny (model prog w) A (pyIter (.ref r)) (fun it s₂ => TurnsAt prog w A h₀ env (.Name x px) body Q E it s₂) E s :=
  range_state (σ := AQ) keep (fun c => [(x0, .ref c.T1), (x1, .ref c.T2)]) (fun c => [(c.T1, tup2 c.a c.ta c.b c.tb), (c.T2, tup2 c.c c.tc c.d c.td)]) (fun i c => J i c.a c.b c.c c.d) ⟨T1, T2, a, b, c, d, ta, tb, tc, td⟩ hh hr hn F N
    (fun p hp => by simp only [List.mem_cons, List.not_mem_nil, or_false] at hp; rcases hp with rfl | rfl <;> assumption) (fun p hp => by simp only [List.mem_cons, List.not_mem_nil, or_false] at hp; rcases hp with rfl | rfl <;> simp [hx]) h0
    (fun I o i t c m₁ h tk e1 e2 hi hJ F₁ N₁ => turn I o i t c.T1 c.T2 c.a c.b c.c c.d c.ta c.tb c.tc c.td m₁ h tk e1 e2 hi hJ F₁ N₁) (fun c m₁ h tk hJ _ _ => done c m₁ h tk hJ)
theorem SP.ends {L : Addr} {keep : List Str} {m₀ : Str → Option Value} {x0 x1 : Str} {J : AQ → Prop} {I : Addr} {o : Obj} {all all' : List (Addr × Obj)} {s₁ : Shared} {h' : Heap} {tk : Nat} {m' : Str → Option Value} {T1 T2 : Addr} {a b c d : Int} {ta tb tc td : Tok}
    (F : Fr h₀ L h' m') (N : News h₀ L h' all') (e1 : m' x0 = some (.ref T1)) (e2 : m' x1 = some (.ref T2)) (h1 : (T1, tup2 a ta b tb) ∈ all') (h2 : (T2, tup2 c tc d td) ∈ all') (ha : ∀ p ∈ all, p ∈ all') (hI : (I, o) ∈ all) (hc : o.cls ≠ .type "tuple") (hk : Keeps keep m₀ m') (hJ : J ⟨T1, T2, a, b, c, d, ta, tb, tc, td⟩) :
    SP h₀ L keep m₀ (fun c : AQ => [(x0, .ref c.T1), (x1, .ref c.T2)]) (fun c => [(c.T1, tup2 c.a c.ta c.b c.tb), (c.T2, tup2 c.c c.tc c.d c.td)]) J I all s₁ Q .next { s₁ with heap := h', toks := tk } :=
  SP.next (o := o) ⟨T1, T2, a, b, c, d, ta, tb, tc, td⟩ F N (ha _ hI) (fun p hp => by simp only [List.mem_cons, List.not_mem_nil, or_false] at hp; rcases hp with rfl | rfl <;> assumption) ha
    (fun p hp => by simp only [List.mem_cons, List.not_mem_nil, or_false] at hp; rcases hp with rfl | rfl <;> exact fun e => hc e.symm) hk
    (fun p hp => by simp only [List.mem_cons, List.not_mem_nil, or_false] at hp; rcases hp with rfl | rfl <;> assumption) hJ
/-- a while that turns one name, an int -/
theorem while_one {test : Expr} {pos : Pos} {x0 : Str} {k0 : Int} {t0 : Tok} {m₀ : Str → Option Value} {news : List (Addr × Obj)} (keep : List Str) (J : Int → Prop) (μ : Int → Nat)
    (F : Fr h₀ env.locals s.heap (fun y => if y = x0 then some (.int k0 t0) else m₀ y)) (N : News h₀ env.locals s.heap news) (h0 : J k0)
    (turn : ∀ (k : Int) (tk' : Tok) (m₁ : Str → Option Value) h tk, J k → Fr h₀ env.locals h (fun y => if keep.contains y then (if y = x0 then some (.int k0 t0) else m₀ y) else if y = x0 then some (.int k tk') else m₁ y) → News h₀ env.locals h news →
      wpAny (model prog w) A (isTrue test env (eval test env)) (fun b s₂ =>
        if b = true then wpAny (model prog w) A (execs body env) (WP h₀ env.locals keep (fun y => if y = x0 then some (.int k0 t0) else m₀ y) (fun c : Int × Tok => [(x0, .int c.1 c.2)]) (fun _ => []) (fun c => J c.1) (fun c => μ c.1) (μ k) news s Q) E s₂ else Q .next s₂) E { s with heap := h, toks := tk })
    (hE : PassesOwn (model prog w) A env E := by passes_own) :
    wpAny (model prog w) A (exec (.While test body [] pos) env) Q E s :=
  while_state (σ := Int × Tok) keep (fun c => [(x0, .int c.1 c.2)]) (fun _ => []) (fun c => J c.1) (fun c => μ c.1) (k0, t0) F N (fun p hp => nomatch hp) (fun p hp => by rw [List.mem_singleton.mp hp]; exact if_pos rfl) h0
    (fun c m₁ h tk hJ F₁ N₁ => turn c.1 c.2 m₁ h tk hJ F₁ N₁) hE
theorem WP.one {L : Addr} {keep : List Str} {m₀ : Str → Option Value} {x0 : Str} {J : Int × Tok → Prop} {μ : Int × Tok → Nat} {kk : Nat} {all all' : List (Addr × Obj)} {s₁ : Shared} {h' : Heap} {tk : Nat} {m' : Str → Option Value} {k : Int} {t : Tok}
    (F : Fr h₀ L h' m') (N : News h₀ L h' all') (ha : ∀ p ∈ all, p ∈ all') (hk : Keeps keep m₀ m') (e : m' x0 = some (.int k t)) (hJ : J (k, t)) (hm : μ (k, t) < kk) :
    WP h₀ L keep m₀ (fun c : Int × Tok => [(x0, .int c.1 c.2)]) (fun _ => []) J μ kk all s₁ Q .next { s₁ with heap := h', toks := tk } :=
  WP.next (k, t) F N (fun p hp => nomatch hp) ha hk (fun p hp => by rw [List.mem_singleton.mp hp]; exact e) hJ hm
/-- a while that turns two names, ints -/
theorem while_two {test : Expr} {pos : Pos} {x0 x1 : Str} {k0 l0 : Int} {t0 u0 : Tok} {m₀ : Str → Option Value} {news : List (Addr × Obj)} (keep : List Str) (J : Int → Int → Prop) (μ : Int → Int → Nat)
    (F : Fr h₀ env.locals s.heap (fun y => if y = x0 then some (.int k0 t0) else if y = x1 then some (.int l0 u0) else m₀ y)) (hx : x1 ≠ x0) (N : News h₀ env.locals s.heap news) (h0 : J k0 l0)
    (turn : ∀ (k l : Int) (tk' tl : Tok) (m₁ : Str → Option Value) h tk, J k l → Fr h₀ env.locals h (fun y => if keep.contains y then (if y = x0 then some (.int k0 t0) else if y = x1 then some (.int l0 u0) else m₀ y) else if y = x0 then some (.int k tk') else if y = x1 then some (.int l tl) else m₁ y) → News h₀ env.locals h news →
      wpAny (model prog w) A (isTrue test env (eval test env)) (fun b s₂ =>
        if b = true then wpAny (model prog w) A (execs body env) (WP h₀ env.locals keep (fun y => if y = x0 then some (.int k0 t0) else if y = x1 then some (.int l0 u0) else m₀ y) (fun c : Int × Int × Tok × Tok => [(x0, .int c.1 c.2.2.1), (x1, .int c.2.1 c.2.2.2)]) (fun _ => []) (fun c => J c.1 c.2.1) (fun c => μ c.1 c.2.1) (μ k l) news s Q) E s₂ else Q .next s₂) E { s with heap := h, toks := tk })
    (hE : PassesOwn (model prog w) A env E := by passes_own) :
    wpAny (model prog w) A (exec (.While test body [] pos) env) Q E s :=
  while_state (σ := Int × Int × Tok × Tok) keep (fun c => [(x0, .int c.1 c.2.2.1), (x1, .int c.2.1 c.2.2.2)]) (fun _ => []) (fun c => J c.1 c.2.1) (fun c => μ c.1 c.2.1) (k0, l0, t0, u0) F N (fun p hp => nomatch hp)
    (fun p hp => by simp only [List.mem_cons, List.not_mem_nil, or_false] at hp; rcases hp with rfl | rfl <;> simp [hx]) h0
    (fun c m₁ h tk hJ F₁ N₁ => turn c.1 c.2.1 c.2.2.1 c.2.2.2 m₁ h tk hJ F₁ N₁) hE
theorem WP.two {L : Addr} {keep : List Str} {m₀ : Str → Option Value} {x0 x1 : Str} {J : Int × Int × Tok × Tok → Prop} {μ : Int × Int × Tok × Tok → Nat} {kk : Nat} {all all' : List (Addr × Obj)} {s₁ : Shared} {h' : Heap} {tk : Nat} {m' : Str → Option Value} {k l : Int} {t u : Tok}
    (F : Fr h₀ L h' m') (N : News h₀ L h' all') (ha : ∀ p ∈ all, p ∈ all') (hk : Keeps keep m₀ m') (e : m' x0 = some (.int k t)) (e' : m' x1 = some (.int l u)) (hJ : J (k, l, t, u)) (hm : μ (k, l, t, u) < kk) :
    WP h₀ L keep m₀ (fun c : Int × Int × Tok × Tok => [(x0, .int c.1 c.2.2.1), (x1, .int c.2.1 c.2.2.2)]) (fun _ => []) J μ kk all s₁ Q .next { s₁ with heap := h', toks := tk } :=
  WP.next (k, l, t, u) F N (fun p hp => nomatch hp) ha hk (fun p hp => by simp only [List.mem_cons, List.not_mem_nil, or_false] at hp; rcases hp with rfl | rfl <;> assumption) hJ hm
end
local macro_rules | `(tactic| walk_at "exec For") => `(tactic| (k_here; (rename Fr _ _ _ _ => lF'); (with_unfolding_all refine' For_turns lF' ?_; k_whole)))
local macro_rules | `(tactic| walk_at "exec For Tuple Call cons nil") => `(tactic| (k_here; (rename Fr _ _ _ _ => lF'); (with_unfolding_all refine' For_turns lF' ?_; k_whole)))
local macro_rules | `(tactic| walk_at "exec For Tuple List cons nil") => `(tactic| (k_here; (rename Fr _ _ _ _ => lF'); (with_unfolding_all refine' For_turns lF' ?_; k_whole)))
local macro_rules | `(tactic| walk_at "exec For Name List cons nil") => `(tactic| (k_here; (rename Fr _ _ _ _ => lF'); (with_unfolding_all refine' For_turns lF' ?_; k_whole)))
local macro_rules | `(tactic| walk_at "exec For Name Tuple cons nil") => `(tactic| (k_here; (rename Fr _ _ _ _ => lF'); (with_unfolding_all refine' For_turns lF' ?_; k_whole)))
local macro_rules | `(tactic| walk_at "exec For Name Call cons nil") => `(tactic| (k_here; (rename Fr _ _ _ _ => lF'); (with_unfolding_all refine' For_turns lF' ?_; k_whole)))
local macro_rules | `(tactic| walk_at "exec For Name Name cons nil") => `(tactic| (k_here; (rename Fr _ _ _ _ => lF'); (with_unfolding_all refine' For_turns lF' ?_; k_whole)))
local macro_rules | `(tactic| walk_at "call type:zip") => `(tactic| ((with_reducible show wpAny _ _ (call (Value.type _) [Value.ref _, Value.ref _]) (fun xv s₁ => wpAny _ _ (pyIter xv) (fun it s₂ => TurnsAt _ _ _ _ _ _ _ _ _ it s₂) _ s₁) _ _); refine stop ?_))
local macro_rules | `(tactic| walk_at "pyIter ref") => `(tactic| ((with_reducible show wpAny _ _ (pyIter (Value.ref _)) (fun it s₂ => TurnsAt _ _ _ _ _ _ _ _ _ it s₂) _ _); refine stop ?_))
local macro_rules | `(tactic| walk_at "binaryOp Mult int int") => `(tactic| first | (refine' mulA ?kz ?ka ?_; (case kz => k_dflt assumption); (case ka => k_dflt assumption); intro _ _; (try dsimp only)) | (refine mulX ?ka ?_; (case ka => (apply_assumption <;> omega))))
local macro_rules | `(tactic| walk_at "binaryOp Add int int") => `(tactic| first | (refine' addA ?kz ?_; (case kz => k_dflt assumption); intro _ _; (try dsimp only)))
local macro_rules | `(tactic| walk_at "binaryOp Sub int int") => `(tactic| first | (refine' subA ?kz ?_; (case kz => k_dflt assumption); intro _ _; (try dsimp only)))
local macro_rules | `(tactic| walk_at "binaryOp Mod int int") => `(tactic| first | (refine' modA ?kz ?ka ?_; (case kz => k_dflt assumption); (case ka => k_dflt assumption); intro _ _; (try dsimp only)))
local macro_rules | `(tactic| walk_at "binaryOp Pow int int") => `(tactic| first | (refine' powA ?kz ?ka ?kb ?_; (case kz => k_dflt assumption); (case ka => k_dflt assumption); (case kb => k_dflt assumption); intro _ _; (try dsimp only)))
local macro_rules | `(tactic| walk_at "binaryOp LShift int int") => `(tactic| first | (refine' shlA ?kz ?ka ?kb ?_; (case kz => k_dflt assumption); (case ka => k_dflt assumption); (case kb => k_dflt assumption); intro _ _; (try dsimp only)) | (refine shlX ?ka ?kb ?_; (case ka => (apply_assumption <;> omega)); (case kb => (apply_assumption <;> omega))))
local macro_rules | `(tactic| walk_at "binaryOp RShift int int") => `(tactic| first | (refine' shrA ?kz ?ka ?_; (case kz => k_dflt assumption); (case ka => k_dflt assumption); intro _ _; (try dsimp only)))
local macro_rules | `(tactic| walk_at "binaryOp FloorDiv int int") => `(tactic| first | (refine' divA ?kz ?ka ?kb ?_; (case kz => k_dflt assumption); (case ka => first | k_dflt assumption | k_dflt decide); (case kb => first | k_dflt assumption | k_dflt exact Or.inl (by decide)); intro _ _; (try dsimp only)))
local macro_rules | `(tactic| walk_at "inplaceOp Mult int int") => `(tactic| first | (refine' imulA ?kz ?ka ?_; (case kz => k_dflt assumption); (case ka => k_dflt assumption); intro _ _; (try dsimp only)))
local macro_rules | `(tactic| walk_at "inplaceOp Add int int") => `(tactic| first | (refine' iaddA ?kz ?_; (case kz => k_dflt assumption); intro _ _; (try dsimp only)))
local macro_rules | `(tactic| walk_at "inplaceOp FloorDiv int int") => `(tactic| first | (refine' idivA ?kz ?ka ?kb ?_; (case kz => k_dflt assumption); (case ka => k_dflt assumption); (case kb => k_dflt assumption); intro _ _; (try dsimp only)))
local macro_rules | `(tactic| walk_at "exec While Compare cons nil") => `(tactic| (refine stop ?_))
local macro_rules | `(tactic| walk_at "exec While BoolOp cons nil") => `(tactic| (refine stop ?_))
local macro_rules | `(tactic| walk_at "call ref") => `(tactic| (k_here; (with_reducible show wpAny _ _ (call (Value.ref 63) [Value.int _ _, Value.int _ _, Value.int _ _, Value.float _ _]) _ _ _); k_dflt (refine' side5 ?B ?F ?X ?N ?T ?k ?d ?u ?q0 ?q1 ?q2 ?q3 ?q4 ?q5 ?q6 ?q7 ?q8 ?_; (case B => k_asm); (case F => k_asm); (case X => k_asm); (case N => k_asm); (case T => k_asm); (case k => exact rfl); (case d => ktr_room); (case u => ktr_units); (case q0 => assumption); (case q1 => assumption); (case q2 => assumption); (case q3 => assumption); (case q4 => assumption); (case q5 => assumption); (case q6 => assumption); (case q7 => assumption); (case q8 => assumption); (intro t9 h9 tk9 F9 N9; (try dsimp only); (try k_fold)))))

section
variable {prog : Program} {w : World} {p : Program} {loose : List Str} {mean : ExcName → Option Value} {mg mb : Str → Option Value} {news : List (Addr × Obj)}
  {dp un : Nat} {gd : Option (List Code)} {cn : Str} {cs : Scope} {L a : Addr} {ccd : Value} {cl : List (Str × Addr)} {outer : List Env} {A₀ : Around} {base h₀ : Heap} {lm : Str → Option Value} {s : Shared} {Q E : Value → Shared → Prop}

theorem asked5 {tm N₀ M₀ : Int} {T₀ : Nat} {d₀ : UInt64} {tz tw : Tok} (B : Below A₀ base outer h₀) (F : Fr h₀ L s.heap lm) (X : (hd5.heap_39 w.params).In h₀) (N : News h₀ L s.heap news) (T : Top p loose mean mg mb h₀)
    (hk : cs.kind = .function) (hd : dp + 5 < recursionLimit) (_hu : un + 60 < cLine)
    (S : Side (sdT T₀) N₀ M₀) (ht : tm ≠ 0) (bt : intBits tm ≤ 200) (hT : T₀ < Float64.infMag) (hd' : d₀ = Float64.pack false T₀)
    (hret : TupRet h₀ L lm news s Q N₀ M₀) :
    wpAny (model prog w) (ktrTop dp un gd cn cs L a ccd cl outer) (call (.ref 70) [.int tm tz, .float d₀ tw]) Q E s := by
  have eZ0 : ∃ Z, (2 : Int) ^ (300 : Int).toNat = Z ∧ 2 ^ 230 < Z := ⟨_, rfl, by decide⟩
  obtain ⟨Z, eZ, hZ⟩ := eZ0
  have i2 : intBits 2 = 2 := by decide
  have zZ : (0 : Int) ≤ 300 := by decide
  have zZ2 : (intBits 2 : Int) * 300 ≤ 2 ^ 27 := by decide
  w_top off
  refine wpAny_call ?_
  k_dflt cell_enter
  k_steps

  unfold Stop
  rename Fr _ _ _ _ => hF
  obtain ⟨_, FF⟩ := knows4 (x0 := Str.ofString "low") (x1 := Str.ofString "high") (x2 := Str.ofString "times") (x3 := Str.ofString "due") hF (by with_unfolding_all rfl) (by with_unfolding_all rfl) (by with_unfolding_all rfl) (by with_unfolding_all rfl)
  clear hF
  have e00 : ((0 : Int) == 0) = true := by decide
  have em0 : ((-1 : Int) == 0) = false := by decide
  have e10 : ((1 : Int) == 0) = false := by decide
  have lm0 : decide ((-1 : Int) < 0) = true := by decide
  have l10 : decide ((1 : Int) < 0) = false := by decide
  refine range_ends [Str.ofString "times", Str.ofString "due"] (fun i a b c d => AS N₀ M₀ i a b c d) rfl (by assumption) (n := 300) (by decide) FF (by decide) (by assumption) (by k_mem) (by k_mem) (AS.zero S.N1 S.M1) ?_ (fun c _ _ _ hJ => absurd hJ (fun h => h.over))
  · intro I o i ti T1 T2 a b c d ta tb tc td m₁ h tk o1 o2 hi hJ F₁ N₁
    simp only [List.cons_append, List.nil_append] at N₁
    clear FF
    obtain ⟨_, FF1⟩ := knows4 (x0 := Str.ofString "low") (x1 := Str.ofString "high") (x2 := Str.ofString "times") (x3 := Str.ofString "due") F₁ (by with_unfolding_all rfl) (by with_unfolding_all rfl) (by with_unfolding_all rfl) (by with_unfolding_all rfl)
    clear F₁
    have hm := mid_facts S hJ
    obtain ⟨n1, m1, r, en1, em1, pn, pm, bn, bm, er, hcase⟩ := hm
    rcases hcase with ⟨rfl, hN, hM⟩ | ⟨rfl, K, g, hAS⟩ | ⟨rfl, K, g, hAS⟩
    · subst hN hM
      k_steps
      unfold SP
      dsimp only
      k_steps
      rename News _ _ _ _ => kN
      rename Fr _ _ _ _ => kF
      try dsimp only at kF kN
      exact hret _ _ _ _ _ kF (cb_drop kN fun p hp => by
        rcases List.mem_cons.mp hp with rfl | h
        · exact .head _
        · exact .tail _ (.tail _ (.tail _ (.tail _ (.tail _ (.tail _ (List.mem_append.mpr (.inl h))))))))
    · clear hJ
      k_steps
      unfold Stop
      clear pn pm bn bm er en1 em1
      try clear FF1
      rename Fr _ _ _ _ => hF
      obtain ⟨_, FF2⟩ := knows10 (x0 := Str.ofString "k") (x1 := Str.ofString "times") (x2 := Str.ofString "due") (x3 := Str.ofString "low") (x4 := Str.ofString "high") (x5 := Str.ofString "side") (x6 := Str.ofString "a") (x7 := Str.ofString "b") (x8 := Str.ofString "c") (x9 := Str.ofString "d") hF (by with_unfolding_all rfl) (by with_unfolding_all rfl) (by with_unfolding_all rfl) (by with_unfolding_all rfl) (by with_unfolding_all rfl) (by with_unfolding_all rfl) (by with_unfolding_all rfl) (by with_unfolding_all rfl) (by with_unfolding_all rfl) (by with_unfolding_all rfl)
      clear hF
      refine while_one [Str.ofString "times", Str.ofString "due", Str.ofString "low", Str.ofString "high", Str.ofString "side", Str.ofString "a", Str.ofString "b", Str.ofString "c", Str.ofString "d"] (K1 K) (fun k => (K - k).toNat) FF2 (by assumption) (K1.start g.K1) ?_
      · intro k tkk m₂ h₂ tk₂ hk F₂ N₂
        clear FF2
        obtain ⟨_, FF3⟩ := knows10 (x0 := Str.ofString "k") (x1 := Str.ofString "times") (x2 := Str.ofString "due") (x3 := Str.ofString "low") (x4 := Str.ofString "high") (x5 := Str.ofString "side") (x6 := Str.ofString "a") (x7 := Str.ofString "b") (x8 := Str.ofString "c") (x9 := Str.ofString "d") F₂ (by with_unfolding_all rfl) (by with_unfolding_all rfl) (by with_unfolding_all rfl) (by with_unfolding_all rfl) (by with_unfolding_all rfl) (by with_unfolding_all rfl) (by with_unfolding_all rfl) (by with_unfolding_all rfl) (by with_unfolding_all rfl) (by with_unfolding_all rfl)
        clear F₂
        have h1 := k1_turn g hZ hk
        obtain ⟨k2, q1, q2, q3, q4, q5, pr, hnext, kpos⟩ := h1
        obtain ⟨xc, n, xd, m, r, q6, q7, q8, q9, q10, q11, q12, q13, q14, q15, q16, hv⟩ := pr
        rcases hv with ⟨hle, hv⟩ | ⟨hgt, hv⟩
        · obtain ⟨hk', hmu⟩ := hnext hle
          k_steps
          exact WP.one (by assumption) (by assumption) (fun _ hp => hp) (by with_unfolding_all rfl) (by with_unfolding_all rfl) hk' hmu
        · have h2 := hk.next q2 hgt
          obtain ⟨more, q17, q18, q19, hk2⟩ := h2
          k_steps
          clear hnext q1 q2 q3 q4 q5 q6 q7 q8 q9 q10 q11 q12 q13 q14 q15 q16 q17 q19 hgt hv hk
          unfold Stop
          try clear FF3
          rename Fr _ _ _ _ => hF
          obtain ⟨_, FF4⟩ := knows11 (x0 := Str.ofString "k") (x1 := Str.ofString "more") (x2 := Str.ofString "times") (x3 := Str.ofString "due") (x4 := Str.ofString "low") (x5 := Str.ofString "high") (x6 := Str.ofString "side") (x7 := Str.ofString "a") (x8 := Str.ofString "b") (x9 := Str.ofString "c") (x10 := Str.ofString "d") hF (by with_unfolding_all rfl) (by with_unfolding_all rfl) (by with_unfolding_all rfl) (by with_unfolding_all rfl) (by with_unfolding_all rfl) (by with_unfolding_all rfl) (by with_unfolding_all rfl) (by with_unfolding_all rfl) (by with_unfolding_all rfl) (by with_unfolding_all rfl) (by with_unfolding_all rfl)
          clear hF
          refine while_two [Str.ofString "times", Str.ofString "due", Str.ofString "low", Str.ofString "high", Str.ofString "side", Str.ofString "a", Str.ofString "b", Str.ofString "c", Str.ofString "d"] (K2 K) (fun _ more => more.toNat) FF4 (by decide) (by assumption) hk2 ?_
          intro k' more' tk' tm' m₃ h₃ tk₃ hk2' F₃ N₃
          clear FF4 hk2
          obtain ⟨_, FF5⟩ := knows11 (x0 := Str.ofString "k") (x1 := Str.ofString "more") (x2 := Str.ofString "times") (x3 := Str.ofString "due") (x4 := Str.ofString "low") (x5 := Str.ofString "high") (x6 := Str.ofString "side") (x7 := Str.ofString "a") (x8 := Str.ofString "b") (x9 := Str.ofString "c") (x10 := Str.ofString "d") F₃ (by with_unfolding_all rfl) (by with_unfolding_all rfl) (by with_unfolding_all rfl) (by with_unfolding_all rfl) (by with_unfolding_all rfl) (by with_unfolding_all rfl) (by with_unfolding_all rfl) (by with_unfolding_all rfl) (by with_unfolding_all rfl) (by with_unfolding_all rfl) (by with_unfolding_all rfl)
          clear F₃
          have h3 := k2_turn g hk2'
          rcases h3 with ⟨hf, hkK⟩ | ⟨ht', km, m2, r1, r2, r3, r4, pr, hy, hn, hmu⟩
          · subst hkK
            have pr := g.probe g.K1 (Int.le_trans g.KB (by decide))
            obtain ⟨xc, n', xd, m', r, q6, q7, q8, q9, q10, q11, q12, q13, q14, q15, q16, hv⟩ := pr
            clear q12 q13 q14 q15 q16 hv
            rw [q6, q9, q8, q11] at hAS
            k_steps
            exact SP.ends (by assumption) (by assumption) (by with_unfolding_all rfl) (by with_unfolding_all rfl) (.head _) (.tail _ (.tail _ (.head _))) (fun _ hp => .tail _ (.tail _ (.tail _ hp))) (by simp) o2 (by with_unfolding_all rfl) hAS
          · obtain ⟨xc, n', xd, m', r, q6, q7, q8, q9, q10, q11, q12, q13, q14, q15, q16, hv⟩ := pr
            rcases hv with ⟨hle, hv⟩ | ⟨hgt, hv⟩
            · have hy' := hy hle
              k_steps
              exact WP.two (by assumption) (by assumption) (fun _ hp => hp) (by with_unfolding_all rfl) (by with_unfolding_all rfl) (by with_unfolding_all rfl) hy' hmu
            · have hn' := hn hgt
              k_steps
              exact WP.two (by assumption) (by assumption) (fun _ hp => hp) (by with_unfolding_all rfl) (by with_unfolding_all rfl) (by with_unfolding_all rfl) hn' hmu
    · clear hJ
      k_steps
      unfold Stop
      clear pn pm bn bm er en1 em1
      try clear FF1
      rename Fr _ _ _ _ => hF
      obtain ⟨_, FF2⟩ := knows10 (x0 := Str.ofString "k") (x1 := Str.ofString "times") (x2 := Str.ofString "due") (x3 := Str.ofString "low") (x4 := Str.ofString "high") (x5 := Str.ofString "side") (x6 := Str.ofString "a") (x7 := Str.ofString "b") (x8 := Str.ofString "c") (x9 := Str.ofString "d") hF (by with_unfolding_all rfl) (by with_unfolding_all rfl) (by with_unfolding_all rfl) (by with_unfolding_all rfl) (by with_unfolding_all rfl) (by with_unfolding_all rfl) (by with_unfolding_all rfl) (by with_unfolding_all rfl) (by with_unfolding_all rfl) (by with_unfolding_all rfl)
      clear hF
      refine while_one [Str.ofString "times", Str.ofString "due", Str.ofString "low", Str.ofString "high", Str.ofString "side", Str.ofString "a", Str.ofString "b", Str.ofString "c", Str.ofString "d"] (K1 K) (fun k => (K - k).toNat) FF2 (by assumption) (K1.start g.K1) ?_
      · intro k tkk m₂ h₂ tk₂ hk F₂ N₂
        clear FF2
        obtain ⟨_, FF3⟩ := knows10 (x0 := Str.ofString "k") (x1 := Str.ofString "times") (x2 := Str.ofString "due") (x3 := Str.ofString "low") (x4 := Str.ofString "high") (x5 := Str.ofString "side") (x6 := Str.ofString "a") (x7 := Str.ofString "b") (x8 := Str.ofString "c") (x9 := Str.ofString "d") F₂ (by with_unfolding_all rfl) (by with_unfolding_all rfl) (by with_unfolding_all rfl) (by with_unfolding_all rfl) (by with_unfolding_all rfl) (by with_unfolding_all rfl) (by with_unfolding_all rfl) (by with_unfolding_all rfl) (by with_unfolding_all rfl) (by with_unfolding_all rfl)
        clear F₂
        have h1 := k1_turn g hZ hk
        obtain ⟨k2, q1, q2, q3, q4, q5, pr, hnext, kpos⟩ := h1
        obtain ⟨xc, n, xd, m, r, q6, q7, q8, q9, q10, q11, q12, q13, q14, q15, q16, hv⟩ := pr
        rcases hv with ⟨hle, hv⟩ | ⟨hgt, hv⟩
        · obtain ⟨hk', hmu⟩ := hnext hle
          k_steps
          exact WP.one (by assumption) (by assumption) (fun _ hp => hp) (by with_unfolding_all rfl) (by with_unfolding_all rfl) hk' hmu
        · have h2 := hk.next q2 hgt
          obtain ⟨more, q17, q18, q19, hk2⟩ := h2
          k_steps
          clear hnext q1 q2 q3 q4 q5 q6 q7 q8 q9 q10 q11 q12 q13 q14 q15 q16 q17 q19 hgt hv hk
          unfold Stop
          try clear FF3
          rename Fr _ _ _ _ => hF
          obtain ⟨_, FF4⟩ := knows11 (x0 := Str.ofString "k") (x1 := Str.ofString "more") (x2 := Str.ofString "times") (x3 := Str.ofString "due") (x4 := Str.ofString "low") (x5 := Str.ofString "high") (x6 := Str.ofString "side") (x7 := Str.ofString "a") (x8 := Str.ofString "b") (x9 := Str.ofString "c") (x10 := Str.ofString "d") hF (by with_unfolding_all rfl) (by with_unfolding_all rfl) (by with_unfolding_all rfl) (by with_unfolding_all rfl) (by with_unfolding_all rfl) (by with_unfolding_all rfl) (by with_unfolding_all rfl) (by with_unfolding_all rfl) (by with_unfolding_all rfl) (by with_unfolding_all rfl) (by with_unfolding_all rfl)
          clear hF
          refine while_two [Str.ofString "times", Str.ofString "due", Str.ofString "low", Str.ofString "high", Str.ofString "side", Str.ofString "a", Str.ofString "b", Str.ofString "c", Str.ofString "d"] (K2 K) (fun _ more => more.toNat) FF4 (by decide) (by assumption) hk2 ?_
          intro k' more' tk' tm' m₃ h₃ tk₃ hk2' F₃ N₃
          clear FF4 hk2
          obtain ⟨_, FF5⟩ := knows11 (x0 := Str.ofString "k") (x1 := Str.ofString "more") (x2 := Str.ofString "times") (x3 := Str.ofString "due") (x4 := Str.ofString "low") (x5 := Str.ofString "high") (x6 := Str.ofString "side") (x7 := Str.ofString "a") (x8 := Str.ofString "b") (x9 := Str.ofString "c") (x10 := Str.ofString "d") F₃ (by with_unfolding_all rfl) (by with_unfolding_all rfl) (by with_unfolding_all rfl) (by with_unfolding_all rfl) (by with_unfolding_all rfl) (by with_unfolding_all rfl) (by with_unfolding_all rfl) (by with_unfolding_all rfl) (by with_unfolding_all rfl) (by with_unfolding_all rfl) (by with_unfolding_all rfl)
          clear F₃
          have h3 := k2_turn g hk2'
          rcases h3 with ⟨hf, hkK⟩ | ⟨ht', km, m2, r1, r2, r3, r4, pr, hy, hn, hmu⟩
          · subst hkK
            have pr := g.probe g.K1 (Int.le_trans g.KB (by decide))
            obtain ⟨xc, n', xd, m', r, q6, q7, q8, q9, q10, q11, q12, q13, q14, q15, q16, hv⟩ := pr
            clear q12 q13 q14 q15 q16 hv
            rw [q6, q9, q8, q11] at hAS
            k_steps
            exact SP.ends (by assumption) (by assumption) (by with_unfolding_all rfl) (by with_unfolding_all rfl) (.tail _ (.head _)) (.head _) (fun _ hp => .tail _ (.tail _ (.tail _ hp))) (by simp) o2 (by with_unfolding_all rfl) hAS
          · obtain ⟨xc, n', xd, m', r, q6, q7, q8, q9, q10, q11, q12, q13, q14, q15, q16, hv⟩ := pr
            rcases hv with ⟨hle, hv⟩ | ⟨hgt, hv⟩
            · have hy' := hy hle
              k_steps
              exact WP.two (by assumption) (by assumption) (fun _ hp => hp) (by with_unfolding_all rfl) (by with_unfolding_all rfl) (by with_unfolding_all rfl) hy' hmu
            · have hn' := hn hgt
              k_steps
              exact WP.two (by assumption) (by assumption) (fun _ hp => hp) (by with_unfolding_all rfl) (by with_unfolding_all rfl) (by with_unfolding_all rfl) hn' hmu

end

end
section
local macro_rules | `(tactic| walk_at "exec For") => `(tactic| (k_here; (rename Fr _ _ _ _ => lF'); (with_unfolding_all refine' For_turns lF' ?_; k_whole)))
local macro_rules | `(tactic| walk_at "exec For Tuple Call cons nil") => `(tactic| (k_here; (rename Fr _ _ _ _ => lF'); (with_unfolding_all refine' For_turns lF' ?_; k_whole)))
local macro_rules | `(tactic| walk_at "exec For Tuple List cons nil") => `(tactic| (k_here; (rename Fr _ _ _ _ => lF'); (with_unfolding_all refine' For_turns lF' ?_; k_whole)))
local macro_rules | `(tactic| walk_at "exec For Name List cons nil") => `(tactic| (k_here; (rename Fr _ _ _ _ => lF'); (with_unfolding_all refine' For_turns lF' ?_; k_whole)))
local macro_rules | `(tactic| walk_at "exec For Name Tuple cons nil") => `(tactic| (k_here; (rename Fr _ _ _ _ => lF'); (with_unfolding_all refine' For_turns lF' ?_; k_whole)))
local macro_rules | `(tactic| walk_at "exec For Name Call cons nil") => `(tactic| (k_here; (rename Fr _ _ _ _ => lF'); (with_unfolding_all refine' For_turns lF' ?_; k_whole)))
local macro_rules | `(tactic| walk_at "exec For Name Name cons nil") => `(tactic| (k_here; (rename Fr _ _ _ _ => lF'); (with_unfolding_all refine' For_turns lF' ?_; k_whole)))
local macro_rules | `(tactic| walk_at "call type:zip") => `(tactic| ((with_reducible show wpAny _ _ (call (Value.type _) [Value.ref _, Value.ref _]) (fun xv s₁ => wpAny _ _ (pyIter xv) (fun it s₂ => TurnsAt _ _ _ _ _ _ _ _ _ it s₂) _ s₁) _ _); refine stop ?_))
local macro_rules | `(tactic| walk_at "pyIter ref") => `(tactic| ((with_reducible show wpAny _ _ (pyIter (Value.ref _)) (fun it s₂ => TurnsAt _ _ _ _ _ _ _ _ _ it s₂) _ _); refine stop ?_))
local macro_rules | `(tactic| walk_at "binaryOp Mult int int") => `(tactic| first | (refine' mulA ?kz ?ka ?_; (case kz => k_dflt assumption); (case ka => k_dflt assumption); intro _ _; (try dsimp only)) | (refine mulX ?ka ?_; (case ka => (apply_assumption <;> omega))))
local macro_rules | `(tactic| walk_at "binaryOp Add int int") => `(tactic| first | (refine' addA ?kz ?_; (case kz => k_dflt assumption); intro _ _; (try dsimp only)))
local macro_rules | `(tactic| walk_at "binaryOp Sub int int") => `(tactic| first | (refine' subA ?kz ?_; (case kz => k_dflt assumption); intro _ _; (try dsimp only)))
local macro_rules | `(tactic| walk_at "binaryOp Mod int int") => `(tactic| first | (refine' modA ?kz ?ka ?_; (case kz => k_dflt assumption); (case ka => k_dflt assumption); intro _ _; (try dsimp only)))
local macro_rules | `(tactic| walk_at "binaryOp Pow int int") => `(tactic| first | (refine' powA ?kz ?ka ?kb ?_; (case kz => k_dflt assumption); (case ka => k_dflt assumption); (case kb => k_dflt assumption); intro _ _; (try dsimp only)))
local macro_rules | `(tactic| walk_at "binaryOp LShift int int") => `(tactic| first | (refine' shlA ?kz ?ka ?kb ?_; (case kz => k_dflt assumption); (case ka => k_dflt assumption); (case kb => k_dflt assumption); intro _ _; (try dsimp only)) | (refine shlX ?ka ?kb ?_; (case ka => (apply_assumption <;> omega)); (case kb => (apply_assumption <;> omega))))
local macro_rules | `(tactic| walk_at "binaryOp RShift int int") => `(tactic| first | (refine' shrA ?kz ?ka ?_; (case kz => k_dflt assumption); (case ka => k_dflt assumption); intro _ _; (try dsimp only)))
local macro_rules | `(tactic| walk_at "binaryOp FloorDiv int int") => `(tactic| first | (refine' divA ?kz ?ka ?kb ?_; (case kz => k_dflt assumption); (case ka => first | k_dflt assumption | k_dflt decide); (case kb => first | k_dflt assumption | k_dflt exact Or.inl (by decide)); intro _ _; (try dsimp only)))
local macro_rules | `(tactic| walk_at "compareOp GtE int int") => `(tactic| (refine' geC ?kz ?_; (case kz => k_dflt assumption)))
local macro_rules | `(tactic| walk_at "inplaceOp Add int int") => `(tactic| first | (refine' iaddA ?kz ?_; (case kz => k_dflt assumption); intro _ _; (try dsimp only)))
local macro_rules | `(tactic| walk_at "subscriptTail Name BinOp ref int") => `(tactic| (k_here; (with_reducible show wpAny _ _ (subscriptTail _ _ (Value.ref _) (Value.int _ _)) _ _ _); k_dflt (refine' item_wrap ?zN ?zm ?zq ?zd ?zi ?zc ?_ ?zh; (case zN => k_asm); (case zm => k_mem); (case zq => exact rfl); (case zd => exact rfl); (case zi => assumption); (case zc => assumption); (case zh => with_unfolding_all rfl); (intro t'))))
local macro_rules | `(tactic| walk_at "subscriptTail Name Name ref int") => `(tactic| (k_here; (with_reducible show wpAny _ _ (subscriptTail _ _ (Value.ref _) (Value.int _ _)) _ _ _); k_dflt (refine' item_wrap ?zN ?zm ?zq ?zd ?zi ?zc ?_ ?zh; (case zN => k_asm); (case zm => k_mem); (case zq => exact rfl); (case zd => exact rfl); (case zi => assumption); (case zc => assumption); (case zh => with_unfolding_all rfl); (intro t'))))
local macro_rules | `(tactic| walk_at "call ref") => `(tactic| (k_here; (with_reducible show wpAny _ _ (call (Value.ref 63) [Value.int _ _, Value.int _ _, Value.int _ _, Value.float _ _]) _ _ _); k_dflt (refine' side5 ?B ?F ?X ?N ?T ?k ?d ?u ?q0 ?q1 ?q2 ?q3 ?q4 ?q5 ?q6 ?q7 ?q8 ?_; (case B => k_asm); (case F => k_asm); (case X => k_asm); (case N => k_asm); (case T => k_asm); (case k => exact rfl); (case d => ktr_room); (case u => ktr_units); (case q0 => assumption); (case q1 => assumption); (case q2 => assumption); (case q3 => assumption); (case q4 => assumption); (case q5 => assumption); (case q6 => assumption); (case q7 => assumption); (case q8 => assumption); (intro t9 h9 tk9 F9 N9; (try dsimp only); (try k_fold)))))
local macro_rules | `(tactic| walk_at "call ref") => `(tactic| (k_here; (with_reducible show wpAny _ _ (call (Value.ref 70) [Value.int _ _, Value.float _ _]) _ _ _); k_dflt (refine' asked5 ?B ?F ?X ?N ?T ?k ?d ?u ?q0 ?q1 ?q2 ?q3 ?q4 ?_; (case B => k_asm); (case F => k_asm); (case X => k_asm); (case N => k_asm); (case T => k_asm); (case k => exact rfl); (case d => ktr_room); (case u => ktr_units); (case q0 => assumption); (case q1 => assumption); (case q2 => assumption); (case q3 => assumption); (case q4 => assumption); (intro T9 t9 u9 h9 tk9 F9 N9; (try dsimp only); (try k_fold)))))
local macro_rules | `(tactic| walk_at "call ref") => `(tactic| (k_here; (with_reducible show wpAny _ _ (call (Value.ref 77) [Value.int _ _, Value.int _ _, Value.int _ _, Value.int _ _]) _ _ _); k_dflt (refine' simp5 ?B ?F ?X ?N ?T ?k ?d ?u ?q0 ?q1 ?q2 ?q3 ?q4 ?_; (case B => k_asm); (case F => k_asm); (case X => k_asm); (case N => k_asm); (case T => k_asm); (case k => exact rfl); (case d => ktr_room); (case u => ktr_units); (case q0 => assumption); (case q1 => assumption); (case q2 => assumption); (case q3 => assumption); (case q4 => assumption); (intro n9 m9 hS9 T9 t9 u9 h9 tk9 F9 N9; (try dsimp only); (try k_fold); refine stop ?_))))

theorem law5 : PySem.Challenge.rw_kq0022_05.Holds := hd5 (by
  have i2 : intBits 2 = 2 := bl_two
  have eZ0 : ∃ Z, (10 : Int) ^ (40 : Int).toNat = Z ∧ 0 < Z ∧ Z < 2 ^ 140 := ⟨_, rfl, by decide, by decide⟩
  obtain ⟨Z, eZ, hZ0, hZ2⟩ := eZ0
  have e52 : (2 : Int) ^ (52 : Int).toNat = 4503599627370496 := by decide
  k_go0
  (all_goals try k_fold)
  k_steps
  unfold Stop
  rename IntsAre _ (_ ++ [52, 1865452045155277]) => hI
  rename ¬ ((63 : Nat) : Int) < ((List.length _ : Nat) : Int) => h63
  have hr := row_facts5 hI h63
  clear hI
  obtain ⟨ns, hns, hI, h2, h66⟩ := hr
  rename Fr _ _ _ _ => hF
  obtain ⟨_, FF⟩ := knows1 (x := Str.ofString "row") hF (by with_unfolding_all rfl)
  clear hF
  refine range_led [Str.ofString "row"] rfl (by assumption) (small_one (by omega) (by omega) (by omega) (by omega)) (rangeSize_nat _ _) FF (by assumption) ?_ ?_
  · intro I o i ti m₁ h tk hlt hi F₁ N₁
    try simp only [List.cons_append, List.nil_append] at N₁
    have hi' : i < ns.length := by have := hi; simp only [Int.sub_zero, Int.toNat_natCast] at this; omega
    rw [Int.zero_add]
    clear FF
    obtain ⟨_, FF⟩ := knows1 (x := Str.ofString "row") F₁ (by with_unfolding_all rfl)
    clear F₁
    have hw := row_items5 hi' h2 (by omega)
    obtain ⟨k1, k2, x, y, z, ek1, ek2, ic0, ic1, ic2⟩ := hw
    have ht := times5 (z := z) hZ0 hZ2
    obtain ⟨az, zr, zz, tm, eaz, ezr, ezz, ht0, bt, sz1, sz2, hsg⟩ := ht
    have hts := t5 x y
    obtain ⟨T₀, f, wI, yr, pw, upI, dnI, wu, d16, parts, w4, l4, lowI, h4, highI, l2, h2', ts⟩ := hts
    obtain ⟨ef, ew, eyr, epw, eu, eu0, eus, ed, ed0, eds, ewu, swu, wu0, dn0, inf, due, hT, e16, s16, ep, sp, e4, s4, hl, el, sl, eh4, eh, sh, el2, sl2, eh2, sh2, iv, b1, b2, b3, pp, pb, hsimp, hends⟩ := ts
    have h165 : (0 : Int) < 165 := by decide
    have h02 : (0 : Int) < 2 := by decide
    have h52 : (0 : Int) < 4503599627370496 := by decide
    have e11 : ((1 : Int) == 1) = true := by decide
    have e01 : ((0 : Int) == 1) = false := by decide
    have e00 : ((0 : Int) == 0) = true := by decide
    have e10 : ((1 : Int) == 0) = false := by decide
    rcases hsg with ⟨g1, g2⟩ | ⟨g1, g2⟩ <;> rcases hl with ⟨g3, g4⟩ | ⟨g3, g4⟩
    k_steps
    all_goals (unfold Stop; rename Simp _ _ _ _ _ _ => hS; have hs := hsimp _ _ hS; obtain ⟨pn, lm, n1, q1, q2, q3, q4, q5, hcase⟩ := hs; rcases hcase with ⟨q6, S⟩ | ⟨q6, q7, S⟩ | ⟨q6, q7, S⟩)
    all_goals first | (exfalso; have hbad := eq_of_beq g3; omega) | skip
    all_goals clear hS hsimp ef ew eyr epw eu eu0 eus ed ed0 eds ewu swu wu0 dn0 inf e16 s16 ep sp e4 s4 g1 g2 g3 g4 el sl eh4 eh sh eh2 sh2 iv b1 b2 b3 ek1 ek2 ic0 ic1 ic2 eaz ezr ezz sz1 sz2
    k_steps
    all_goals (
      unfold Stop
      clear q1 q2 q3 q4 q5 S el2 sl2
      try clear FF
      rename Fr _ _ _ _ => hF
      obtain ⟨_, FF2⟩ := knows5 (x0 := Str.ofString "row") (x1 := Str.ofString "whole") (x2 := Str.ofString "parts") (x3 := Str.ofString "times") (x4 := Str.ofString "due") hF (by with_unfolding_all rfl) (by with_unfolding_all rfl) (by with_unfolding_all rfl) (by with_unfolding_all rfl) (by with_unfolding_all rfl)
      clear hF
      refine list_keep (vs := [_, _]) [Str.ofString "row", Str.ofString "whole", Str.ofString "parts", Str.ofString "times", Str.ofString "due"] rfl FF2 (by assumption) (by k_mem) rfl rfl ?_ ?_
      · intro j v₂ m₂ h₂ tk₂ own hv F₂ N₂
        try simp only [List.cons_append, List.nil_append] at N₂
        clear FF2
        obtain ⟨_, FF3⟩ := knows5 (x0 := Str.ofString "row") (x1 := Str.ofString "whole") (x2 := Str.ofString "parts") (x3 := Str.ofString "times") (x4 := Str.ofString "due") F₂ (by with_unfolding_all rfl) (by with_unfolding_all rfl) (by with_unfolding_all rfl) (by with_unfolding_all rfl) (by with_unfolding_all rfl)
        clear F₂
        have hE := picke (T := T₀) (wI := wI) (parts := parts) hv hends
        obtain ⟨E, tE, hv', e2, r, r1, r2, r3, r4, r5, hr⟩ := hE
        clear hv hends
        subst hv'
        rcases hr with ⟨r6, r7⟩ | ⟨r6, r7⟩
        all_goals first | (exfalso; omega) | skip
        k_steps
        all_goals first | exact TP.next (by assumption) (by assumption) (fun _ hp => hp) (by with_unfolding_all rfl) | (rename (_ != _) = true => hb; rw [r6] at hb; exact absurd hb (by decide))
      · intro m₂ h₂ tk₂ F₂ N₂
        k_steps
        exact TP.next (by assumption) (by assumption) (fun _ hp => by first | exact hp | exact .tail _ (hp) | exact .tail _ (.tail _ (hp)) | exact .tail _ (.tail _ (.tail _ (hp))) | exact .tail _ (.tail _ (.tail _ (.tail _ (hp)))) | exact .tail _ (.tail _ (.tail _ (.tail _ (.tail _ (hp))))) | exact .tail _ (.tail _ (.tail _ (.tail _ (.tail _ (.tail _ (hp)))))) | exact .tail _ (.tail _ (.tail _ (.tail _ (.tail _ (.tail _ (.tail _ (hp))))))) | exact .tail _ (.tail _ (.tail _ (.tail _ (.tail _ (.tail _ (.tail _ (.tail _ (hp)))))))) | exact .tail _ (.tail _ (.tail _ (.tail _ (.tail _ (.tail _ (.tail _ (.tail _ (.tail _ (hp))))))))) | exact .tail _ (.tail _ (.tail _ (.tail _ (.tail _ (.tail _ (.tail _ (.tail _ (.tail _ (.tail _ (hp)))))))))) | exact .tail _ (.tail _ (.tail _ (.tail _ (.tail _ (.tail _ (.tail _ (.tail _ (.tail _ (.tail _ (.tail _ (hp))))))))))) | exact .tail _ (.tail _ (.tail _ (.tail _ (.tail _ (.tail _ (.tail _ (.tail _ (.tail _ (.tail _ (.tail _ (.tail _ (hp)))))))))))) | exact .tail _ (.tail _ (.tail _ (.tail _ (.tail _ (.tail _ (.tail _ (.tail _ (.tail _ (.tail _ (.tail _ (.tail _ (.tail _ (hp))))))))))))) | exact .tail _ (.tail _ (.tail _ (.tail _ (.tail _ (.tail _ (.tail _ (.tail _ (.tail _ (.tail _ (.tail _ (.tail _ (.tail _ (.tail _ (hp)))))))))))))) | exact .tail _ (.tail _ (.tail _ (.tail _ (.tail _ (.tail _ (.tail _ (.tail _ (.tail _ (.tail _ (.tail _ (.tail _ (.tail _ (.tail _ (.tail _ (hp)))))))))))))))) (by with_unfolding_all rfl))
  · intro m₁ h tk F₁ N₁
    k_steps
    )

end
end Mine
theorem PySem.Challenge.cw_kq0022_05_holds : PySem.Challenge.rw_kq0022_05.Holds := by
  exact Mine.law5
