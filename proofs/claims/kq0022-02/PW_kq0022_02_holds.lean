import PyProof.Rows.All
import Wide.All
import OpenK.AllK
import Wide.FinOn
import Lean
import PySem.Challenge.RW_kq0022_02
/- written by an AI agent; joined by wip/join.py -/
set_option Elab.async false
set_option linter.all false
namespace Mine
section
open PySem PySem.W PyProof.Rows
set_option Elab.async false
open PySem.Builtin.Int (intBits)


theorem bl_lt (a : Int) : a.natAbs < 2 ^ intBits a := natAbs_lt_pow_bits a
theorem bl_le {a : Int} {k : Nat} (h : a.natAbs < 2 ^ k) : intBits a ≤ k := intBits_le h
theorem bl_le_iff {a : Int} {k : Nat} : intBits a ≤ k ↔ a.natAbs < 2 ^ k :=
  ⟨fun h => Nat.lt_of_lt_of_le (bl_lt a) (Nat.pow_le_pow_right (by decide) h), bl_le⟩
theorem bl_mono {a b : Int} (h : a.natAbs ≤ b.natAbs) : intBits a ≤ intBits b := bl_le (Nat.lt_of_le_of_lt h (bl_lt b))
theorem bl_neg (a : Int) : intBits (-a) = intBits a := Nat.le_antisymm (bl_mono (by omega)) (bl_mono (by omega))
theorem bl_mul (a b : Int) : intBits (a * b) ≤ intBits a + intBits b := by
  refine bl_le ?_
  rw [Int.natAbs_mul, Nat.pow_add]
  exact Nat.mul_lt_mul'' (bl_lt a) (bl_lt b)
theorem bl_add (a b : Int) : intBits (a + b) ≤ max (intBits a) (intBits b) + 1 := by
  refine bl_le ?_
  have h1 := Nat.lt_of_lt_of_le (bl_lt a) (Nat.pow_le_pow_right (n := 2) (by decide) (Nat.le_max_left (intBits a) (intBits b)))
  have h2 := Nat.lt_of_lt_of_le (bl_lt b) (Nat.pow_le_pow_right (n := 2) (by decide) (Nat.le_max_right (intBits a) (intBits b)))
  rw [Nat.pow_succ]
  omega
theorem bl_sub (a b : Int) : intBits (a - b) ≤ max (intBits a) (intBits b) + 1 := by
  have h := bl_add a (-b)
  rw [bl_neg] at h
  rwa [Int.sub_eq_add_neg]
theorem bl_pow2 (k : Nat) : intBits ((2 : Int) ^ k) = k + 1 := by
  refine Nat.le_antisymm (bl_le ?_) ?_
  · rw [Int.natAbs_pow]; exact Nat.pow_lt_pow_right (by decide) (Nat.lt_succ_self k)
  · have h := bl_lt ((2 : Int) ^ k)
    rw [Int.natAbs_pow] at h
    exact (Nat.pow_lt_pow_iff_right (by decide)).mp h
theorem bl_shl (a : Int) (k : Nat) : intBits (a * 2 ^ k) ≤ intBits a + k := by
  refine bl_le ?_
  rw [Int.natAbs_mul, Int.natAbs_pow, Nat.pow_add]
  exact Nat.mul_lt_mul_of_lt_of_le (bl_lt a) (Nat.le_refl _) (Nat.pow_pos (by decide))
theorem bl_div {a b : Int} (ha : 0 ≤ a) : intBits (a / b) ≤ intBits a := by
  refine bl_mono ?_
  obtain ⟨n, rfl⟩ := Int.eq_ofNat_of_zero_le ha
  cases b with
  | ofNat m =>
    show Int.natAbs (((n / m : Nat) : Int)) ≤ _
    exact Nat.div_le_self n m
  | negSucc m =>
    have e : ((n : Int) / Int.negSucc m) = -(((n / (m + 1) : Nat)) : Int) := rfl
    rw [e, Int.natAbs_neg]
    exact Nat.div_le_self n _
theorem bl_mod {a b : Int} (hb : 0 < b) : intBits (a % b) ≤ intBits b := by
  refine bl_mono ?_
  have h1 := Int.emod_nonneg a (Int.ne_of_gt hb)
  have h2 := Int.emod_lt_of_pos a hb
  omega
theorem bl_of_lt {a : Int} {k : Nat} (h0 : 0 ≤ a) (h : a < 2 ^ k) : intBits a ≤ k := by
  refine bl_le ?_
  have e : (2 : Int) ^ k = ((2 ^ k : Nat) : Int) := two_pow_cast k
  rw [e] at h
  omega
theorem lt_of_bl {a : Int} {k : Nat} (h : intBits a ≤ k) : a < 2 ^ k := by
  have h := bl_le_iff.mp h
  have e : (2 : Int) ^ k = ((2 ^ k : Nat) : Int) := two_pow_cast k
  rw [e]
  omega
theorem two_pow_pos' (k : Nat) : (0 : Int) < 2 ^ k := Int.pow_pos (by decide)

theorem mulOk {a b : Int} (h : intBits a + intBits b ≤ 2 ^ 27) : IntMulOk a b := by
  unfold IntMulOk
  have h' : Builtin.Int.intTooBig ((intBits a : Int) + (intBits b : Int)) = false := decide_eq_false (by unfold bitsLine; omega)
  intro hc
  simp only [Bool.and_eq_true] at hc
  rw [h'] at hc
  exact absurd hc.2 (by decide)

section
variable {prog : Program} {w : World} {A : Around} {E : Value → Shared → Prop} {s : Shared} {a b n : Int} {t u : Tok} {Q : Value → Shared → Prop}

theorem mulX (hm : intBits a + intBits b ≤ 2 ^ 27) (h : Q (.int (a * b) s.toks) { s with toks := s.toks + 1 }) : wpAny (model prog w) A (binaryOp .Mult (.int a t) (.int b u)) Q E s :=
  mul_int h (mulOk hm)

theorem noPy_of {a b : Int} (h : intBits b ≤ 9000 ∨ intBits a ≤ intBits b + 4000) : Builtin.divisionGoesByPylong a b = false := by
  have e : ∀ n : Int, (if n == 0 then 0 else n.natAbs.log2 / 30 + 1) = (intBits n + 29) / 30 := by
    intro n
    unfold intBits
    split
    · rfl
    · omega
  unfold Builtin.divisionGoesByPylong
  simp only [e]
  rw [Bool.and_eq_false_iff]
  rcases h with h | h
  · left; simp; omega
  · right; simp; omega

theorem divX (hb : 0 < b) (hp : intBits b ≤ 9000 ∨ intBits a ≤ intBits b + 4000) (h : Q (.int (a / b) s.toks) { s with toks := s.toks + 1 }) : wpAny (model prog w) A (binaryOp .FloorDiv (.int a t) (.int b u)) Q E s := by
  refine floordiv_int (Int.ne_of_gt hb) ?_ (Or.inl (noPy_of hp))
  rw [Int.fdiv_eq_ediv_of_nonneg _ (Int.le_of_lt hb)]
  exact h
theorem modX (hb : 0 < b) (h : Q (.int (a % b) s.toks) { s with toks := s.toks + 1 }) : wpAny (model prog w) A (binaryOp .Mod (.int a t) (.int b u)) Q E s := by
  refine mod_int' (Int.ne_of_gt hb) ?_
  rw [Int.fmod_eq_emod_of_nonneg _ (Int.le_of_lt hb)]
  exact h
theorem shlX (hn : 0 ≤ n) (hm : (intBits a : Int) + n ≤ 2 ^ 27) (h : Q (.int (a * 2 ^ n.toNat) s.toks) { s with toks := s.toks + 1 }) : wpAny (model prog w) A (binaryOp .LShift (.int a t) (.int n u)) Q E s :=
  lshift_int hn hm h
theorem shrX (hn : 0 ≤ n) (h : Q (.int (a / 2 ^ n.toNat) s.toks) { s with toks := s.toks + 1 }) : wpAny (model prog w) A (binaryOp .RShift (.int a t) (.int n u)) Q E s := by
  refine rshift_int hn ?_
  rw [Int.fdiv_eq_ediv_of_nonneg _ (Int.le_of_lt (two_pow_pos' _))]
  exact h
theorem powX (hn : 0 ≤ n) (hm : (intBits a : Int) * n ≤ 2 ^ 27) (h : Q (.int (a ^ n.toNat) s.toks) { s with toks := s.toks + 1 }) : wpAny (model prog w) A (binaryOp .Pow (.int a t) (.int n u)) Q E s :=
  pow_int hn hm h

theorem isqrtX (h0 : 0 ≤ a) (hm : intBits a ≤ 13000) (h : Q (.int ((Float64.isqrt a.toNat : Nat) : Int) s.toks) { s with toks := s.toks + 1 }) : wpAny (model prog w) A (call (.builtin "math.isqrt") [.int a t]) Q E s := by
  have hl : a.toNat.log2 ≤ 13000 := by
    have e : a.toNat = a.natAbs := by omega
    rw [e]
    unfold intBits at hm
    split at hm
    · rename_i hz
      have : a = 0 := by simpa using hz
      subst this
      decide
    · omega
  exact call_function_meets MGF.kind_isqrt MGF.plain_isqrt MGF.entry_isqrt (MGF.args_isqrt _) (mg_run_isqrt a t (by omega) (by omega) (by omega)).meets h

theorem differs_int_bool_or : reflectedDiffers (.type "int") (.type "bool") "or" = pure true := by
  unfold reflectedDiffers
  show (typeLookup (.type "bool") (dunderR "or") >>= fun rb => typeLookup (.type "int") (dunderR "or") >>= fun ra => pure (rb.isSome && rb != ra)) = pure true
  rw [typeLookup_type, typeLookup_type, builtinLookup_eq_fast]; kernel_rfl

theorem gives_or_int_bool (a : Int) (t : Tok) (b : Bool) :
    Gives (Builtin.«int.__or__» ⟨[.int a t, .bool b], []⟩) (.int (Builtin.bitOr a (if b = true then 1 else 0))) :=
  .of_eq rfl
theorem gives_ror_bool_int (a : Int) (t : Tok) (b : Bool) :
    Gives (Builtin.«bool.__ror__» ⟨[.bool b, .int a t], []⟩) (.int (Builtin.bitOr a (if b = true then 1 else 0))) :=
  Gives.rule (tag := "bool.bitwise.as-ints") (t := again (.builtin "int.__or__" ⟨[.int a t, .bool b], []⟩)) (.again (id' := "int.__or__") (args' := ⟨[.int a t, .bool b], []⟩) (B' := Builtin.«int.__or__») rfl (by decide +kernel) entry_int_or (gives_or_int_bool a t b))

theorem call_ror_bool_int {b : Bool} {Q : Value → Shared → Prop} (h : Q (.int (Builtin.bitOr a (if b = true then 1 else 0)) s.toks) { s with toks := s.toks + 1 }) :
    wpAny (model prog w) A (call (.builtin "bool.__ror__") [.bool b, .int a t]) (fun v s' => v ≠ .notImplemented ∧ Q v s') E s :=
  call_gives (Q := fun v s' => v ≠ .notImplemented ∧ Q v s') F.slot_bool_ror (PySem.typeIs_bool s b) F.entry_bool_ror (F.args_bool_ror_2 _ _) (gives_ror_bool_int a t b) (Made.post_and (m := .int _) trivial h)

theorem or_int_bool {b : Bool} (h : Q (.int (Builtin.bitOr a (if b = true then 1 else 0)) s.toks) { s with toks := s.toks + 1 }) : wpAny (model prog w) A (binaryOp .BitOr (.int a t) (.bool b)) Q E s := by
  simp only [binaryOp, Operator.info]
  refine wpAny_holding ?_
  refine wpAny_bind ?_
  simp only [binaryOp1]
  refine wpAny_bind (wpAny_typeOf (typeIs_int s a t) (wpAny_bind (wpAny_typeOf (T := "bool") rfl (wpAny_bind (wpAny_of_eq fills_int_or ?_)))))
  have hne : (Value.type "int" == Value.type "bool") = false := by decide
  simp only [hne, Bool.false_eq_true, if_false]
  refine wpAny_bind (wpAny_of_eq F.fills_bool_or ?_)
  simp only [Bool.and_self, if_true]
  refine wpAny_bind (wpAny_of_eq isSubtype_bool_int ?_)
  simp only [if_true]
  refine wpAny_bind (wpAny_of_eq differs_int_bool_or ?_)
  simp only [if_true]
  refine wpAny_bind (wpAny_rule ?_)
  simp only [tryMethod]
  have h1 : wpAny (model prog w) A (callSpecial? (.bool b) (dunderR "or") [.int a t]) (fun v s₁ => ∃ v', v = some v' ∧ v' ≠ .notImplemented ∧ Q v' s₁) E s := by
    refine wpAny_callSpecial?_slot (T := "bool") (id := "bool.__ror__") ?_ ?_ ?_
    · exact PySem.typeIs_bool s b
    · exact F.slot_bool_ror
    · exact wpAny_mono (call_ror_bool_int (Q := Q) (a := a) (t := t) (b := b) h) (fun v s₁ h₁ => ⟨v, rfl, h₁⟩) fun _ _ x => x
  refine wpAny_bind (wpAny_bind (wpAny_mono h1 (fun v s₁ h₁ => ?_) fun _ _ x => x))
  obtain ⟨v', rfl, hv, hq⟩ := h₁
  cases v' <;> first | exact absurd rfl hv | exact wpAny_pure (wpAny_pure (wpAny_pure hq))
end
end
section
open PySem PySem.W PyProof.Rows
set_option Elab.async false
open PySem.Builtin.Int (intBits)

/-- the root of N / M rounded to odd, of natural numbers -/
def rtoN (N M : Nat) : Nat := if Float64.isqrt (N / M) * Float64.isqrt (N / M) * M = N then Float64.isqrt (N / M) else Float64.isqrt (N / M) ||| 1

theorem bitOr_nat (a b : Nat) : Builtin.bitOr (a : Int) (b : Int) = ((a ||| b : Nat) : Int) := by
  unfold Builtin.bitOr Builtin.bitAnd Builtin.bitNot
  have h1 : decide (0 ≤ -(a : Int) - 1) = false := decide_eq_false (by omega)
  have h2 : decide (0 ≤ -(b : Int) - 1) = false := decide_eq_false (by omega)
  simp only [h1, h2]
  have e1 : (-(-(a : Int) - 1) - 1).toNat = a := by omega
  have e2 : (-(-(b : Int) - 1) - 1).toNat = b := by omega
  rw [e1, e2]
  omega

/-- both are of one sign, the lower one not 0 -/
def Sg (n m : Int) : Prop := (0 ≤ n ∧ 0 < m) ∨ (n ≤ 0 ∧ m < 0)
theorem Sg.ne {n m : Int} (h : Sg n m) : m ≠ 0 := by rcases h with h | h <;> omega
theorem Sg.fdiv {n m : Int} (h : Sg n m) : n.fdiv m = ((n.natAbs / m.natAbs : Nat) : Int) := by
  rcases h with ⟨h1, h2⟩ | ⟨h1, h2⟩
  · obtain ⟨a, rfl⟩ := Int.eq_ofNat_of_zero_le h1
    obtain ⟨b, rfl⟩ := Int.eq_ofNat_of_zero_le (Int.le_of_lt h2)
    rw [Int.fdiv_eq_ediv_of_nonneg _ (Int.natCast_nonneg _)]
    simp
  · have e : n = -((n.natAbs : Nat) : Int) := by omega
    have e2 : m = -((m.natAbs : Nat) : Int) := by omega
    rw [e, e2, Int.neg_fdiv_neg, Int.fdiv_eq_ediv_of_nonneg _ (Int.natCast_nonneg _)]
    simp
theorem Sg.test {n m : Int} (h : Sg n m) (r : Nat) : ((r : Int) * (r : Int) * m != n) = decide (r * r * m.natAbs ≠ n.natAbs) := by
  have key : ((r : Int) * (r : Int) * m = n) ↔ r * r * m.natAbs = n.natAbs := by
    have e0 : (r : Int) * (r : Int) = ((r * r : Nat) : Int) := (Int.natCast_mul r r).symm
    rw [e0]
    generalize r * r = q
    constructor
    · intro e
      rw [← e, Int.natAbs_mul, Int.natAbs_natCast]
    · intro e
      rcases h with ⟨h1, h2⟩ | ⟨h1, h2⟩
      · have e1 : n = ((n.natAbs : Nat) : Int) := by omega
        have e2 : m = ((m.natAbs : Nat) : Int) := by omega
        rw [e1, e2, ← e, Int.natCast_mul]
      · have e1 : n = -((n.natAbs : Nat) : Int) := by omega
        have e2 : m = -((m.natAbs : Nat) : Int) := by omega
        rw [e1, e2, ← e, Int.natCast_mul, Int.mul_neg]
  by_cases hk : r * r * m.natAbs = n.natAbs
  · rw [key.mpr hk]; simp [hk]
  · have hn : (r : Int) * (r : Int) * m ≠ n := fun e => hk (key.mp e)
    simp [hk, hn]

theorem rto_val {n m : Int} (h : Sg n m) : Builtin.bitOr ((Float64.isqrt (n.fdiv m).toNat : Nat) : Int) (if ((Float64.isqrt (n.fdiv m).toNat : Nat) : Int) * ((Float64.isqrt (n.fdiv m).toNat : Nat) : Int) * m != n then 1 else 0) = ((rtoN n.natAbs m.natAbs : Nat) : Int) := by
  rw [h.test, h.fdiv, Int.toNat_natCast]
  unfold rtoN
  generalize Float64.isqrt (n.natAbs / m.natAbs) = a
  by_cases hk : a * a * m.natAbs = n.natAbs
  · rw [if_pos hk, decide_eq_false (by simpa using hk)]
    have := bitOr_nat a 0
    simpa using this
  · rw [if_neg hk, decide_eq_true (by simpa using hk)]
    have := bitOr_nat a 1
    simpa using this

theorem isqrt_sq_le (N M : Nat) : Float64.isqrt (N / M) * Float64.isqrt (N / M) * M ≤ N :=
  Nat.le_trans (Nat.mul_le_mul_right _ (Float64.isqrt_spec _).1) (Nat.div_mul_le_self N M)

theorem isqrt_le (n : Nat) : Float64.isqrt n ≤ n := by
  have h := (Float64.isqrt_spec n).1
  generalize Float64.isqrt n = r at h ⊢
  cases r with
  | zero => exact Nat.zero_le _
  | succ k => exact Nat.le_trans (Nat.le_mul_of_pos_right _ (Nat.succ_pos k)) h
theorem bl_root {q : Int} {k : Nat} (h : intBits q ≤ k) : intBits ((Float64.isqrt q.toNat : Nat) : Int) ≤ k := by
  refine Nat.le_trans (bl_mono ?_) h
  have := isqrt_le q.toNat
  omega

theorem bl_ge {a : Int} (h : a ≠ 0) : 2 ^ (intBits a - 1) ≤ a.natAbs := by
  have hz : (a == 0) = false := by simpa using h
  unfold intBits
  rw [hz]
  simp only [Bool.false_eq_true, if_false, Nat.add_sub_cancel]
  exact Nat.log2_self_le (by omega)
theorem bl_pos {a : Int} (h : a ≠ 0) : 1 ≤ intBits a := by
  have hz : (a == 0) = false := by simpa using h
  unfold intBits
  rw [hz]
  simp
theorem bl_zero : intBits 0 = 0 := rfl
theorem bl_shl_eq {a : Int} (h : a ≠ 0) (k : Nat) : intBits (a * 2 ^ k) = intBits a + k := by
  refine Nat.le_antisymm (bl_shl a k) ?_
  have h1 := bl_ge h
  have h2 := bl_lt (a * 2 ^ k)
  rw [Int.natAbs_mul, Int.natAbs_pow] at h2
  have h3 : 2 ^ (intBits a - 1 + k) < 2 ^ intBits (a * 2 ^ k) := by
    rw [Nat.pow_add]
    exact Nat.lt_of_le_of_lt (Nat.mul_le_mul_right _ h1) h2
  have h4 := (Nat.pow_lt_pow_iff_right (a := 2) (by decide)).mp h3
  have h5 := bl_pos h
  omega
theorem bl_natAbs (a : Int) : intBits ((a.natAbs : Nat) : Int) = intBits a := Nat.le_antisymm (bl_mono (by omega)) (bl_mono (by omega))
/-- a quotient's size -/
theorem bl_quot {n m : Int} (h : Sg n m) {k : Nat} (hk : intBits n + 1 ≤ intBits m + k) : intBits (n.fdiv m) ≤ k := by
  rw [h.fdiv]
  refine bl_le ?_
  rw [Int.natAbs_natCast]
  refine Nat.div_lt_of_lt_mul ?_
  have h1 := bl_ge h.ne
  have h2 := bl_lt n
  have h3 := bl_pos h.ne
  have h4 : 2 ^ intBits n ≤ 2 ^ (intBits m - 1) * 2 ^ k := by
    rw [← Nat.pow_add]
    exact Nat.pow_le_pow_right (by decide) (by omega)
  exact Nat.lt_of_lt_of_le h2 (Nat.le_trans h4 (Nat.mul_le_mul_right _ h1))
theorem bl_rto {n m : Int} (h : Sg n m) {k : Nat} (hk : intBits (n.fdiv m) ≤ k + 1) : intBits ((rtoN n.natAbs m.natAbs : Nat) : Int) ≤ k + 1 := by
  refine bl_le ?_
  rw [Int.natAbs_natCast]
  have h1 := bl_le_iff.mp hk
  rw [h.fdiv, Int.natAbs_natCast] at h1
  have h2 := isqrt_le (n.natAbs / m.natAbs)
  have h3 : Float64.isqrt (n.natAbs / m.natAbs) < 2 ^ (k + 1) := Nat.lt_of_le_of_lt h2 h1
  unfold rtoN
  split
  · exact h3
  · exact Nat.or_lt_two_pow h3 (Nat.one_lt_pow (by omega) (by decide))
theorem Sg.mul {n m : Int} (h : Sg n m) {c : Int} (hc : 0 < c) : Sg n (m * c) := by
  rcases h with ⟨h1, h2⟩ | ⟨h1, h2⟩
  · exact .inl ⟨h1, Int.mul_pos h2 hc⟩
  · exact .inr ⟨h1, Int.mul_neg_of_neg_of_pos h2 hc⟩
theorem Sg.mul' {n m : Int} (h : Sg n m) {c : Int} (hc : 0 < c) : Sg (n * c) m := by
  rcases h with ⟨h1, h2⟩ | ⟨h1, h2⟩
  · exact .inl ⟨Int.mul_nonneg h1 (Int.le_of_lt hc), h2⟩
  · exact .inr ⟨Int.mul_nonpos_of_nonpos_of_nonneg h1 (Int.le_of_lt hc), h2⟩

/-- the exponent that _float_sqrt_of_frac takes -/
def fsQ (n m : Int) : Int := ((intBits n : Int) - (intBits m : Int) - 109) / 2
/-- what it divides, upper and lower number -/
def fsP (n m : Int) : Nat × Nat :=
  if 0 ≤ fsQ n m then (rtoN n.natAbs (m.natAbs * 2 ^ (2 * fsQ n m).toNat) * 2 ^ (fsQ n m).toNat, 1)
  else (rtoN (n.natAbs * 2 ^ (-2 * fsQ n m).toNat) m.natAbs, 2 ^ (-fsQ n m).toNat)
def fsF (n m : Int) : UInt64 := Float64.ofFrac false (fsP n m).1 (fsP n m).2

theorem natAbs_shl (a : Int) (k : Nat) : (a * 2 ^ k).natAbs = a.natAbs * 2 ^ k := by rw [Int.natAbs_mul, Int.natAbs_pow]; rfl

structure FsUp (n m q : Int) : Prop where
  fs : Sg n (m * 2 ^ (2 * q).toNat)
  fb : intBits (n.fdiv (m * 2 ^ (2 * q).toNat)) ≤ 13000
  fp : intBits (m * 2 ^ (2 * q).toNat) ≤ 9000 ∨ intBits n ≤ intBits (m * 2 ^ (2 * q).toNat) + 4000
  fm : intBits (m * 2 ^ (2 * q).toNat) ≤ 2 ^ 26
  fr : intBits ((rtoN n.natAbs (m * 2 ^ (2 * q).toNat).natAbs : Nat) : Int) ≤ 111
theorem fsUp {n m q : Int} (h : Sg n m) (hn : intBits n ≤ 2 ^ 24) (hm : intBits m ≤ 2 ^ 24) (e : q = ((intBits n : Int) - (intBits m : Int) - 109) / 2) (hq : 0 ≤ q) : FsUp n m q := by
  have e1 := bl_shl_eq h.ne (2 * q).toNat
  have s := h.mul (two_pow_pos' (2 * q).toNat)
  have b : intBits (n.fdiv (m * 2 ^ (2 * q).toNat)) ≤ 111 := bl_quot s (by omega)
  exact ⟨s, by omega, by omega, by omega, bl_rto s b⟩
structure FsDown (n m q : Int) : Prop where
  fs : Sg (n * 2 ^ (-2 * q).toNat) m
  fb : intBits ((n * 2 ^ (-2 * q).toNat).fdiv m) ≤ 13000
  fp : intBits m ≤ 9000 ∨ intBits (n * 2 ^ (-2 * q).toNat) ≤ intBits m + 4000
  fm : intBits m ≤ 2 ^ 26
  fr : intBits ((rtoN (n * 2 ^ (-2 * q).toNat).natAbs m.natAbs : Nat) : Int) ≤ 111
theorem fsDown {n m q : Int} (h : Sg n m) (hn : intBits n ≤ 2 ^ 24) (hm : intBits m ≤ 2 ^ 24) (e : q = ((intBits n : Int) - (intBits m : Int) - 109) / 2) (hq : ¬ 0 ≤ q) : FsDown n m q := by
  have s := h.mul' (two_pow_pos' (-2 * q).toNat)
  have e1 : intBits (n * 2 ^ (-2 * q).toNat) ≤ intBits m + 110 := by
    by_cases hz : n = 0
    · subst hz; rw [Int.zero_mul, bl_zero]; omega
    · rw [bl_shl_eq hz]; omega
  have b : intBits ((n * 2 ^ (-2 * q).toNat).fdiv m) ≤ 111 := bl_quot s (by omega)
  exact ⟨s, by omega, by omega, by omega, bl_rto s b⟩

theorem fsQ_bl {n m q : Int} (hn : intBits n ≤ 2 ^ 24) (hm : intBits m ≤ 2 ^ 24) (e : q = ((intBits n : Int) - (intBits m : Int) - 109) / 2) : intBits q ≤ 26 := bl_le (by omega)
theorem fsP_up {n m q : Int} (e : q = ((intBits n : Int) - (intBits m : Int) - 109) / 2) (hq : 0 ≤ q) : fsP n m = (rtoN n.natAbs (m * 2 ^ (2 * q).toNat).natAbs * 2 ^ q.toNat, 1) := by
  subst e
  unfold fsP fsQ
  rw [if_pos hq, natAbs_shl]
theorem fsP_down {n m q : Int} (e : q = ((intBits n : Int) - (intBits m : Int) - 109) / 2) (hq : ¬ 0 ≤ q) : fsP n m = (rtoN (n * 2 ^ (-2 * q).toNat).natAbs m.natAbs, 2 ^ (-q).toNat) := by
  subst e
  unfold fsP fsQ
  rw [if_neg hq, natAbs_shl]
theorem fsF_up {n m q : Int} (e : q = ((intBits n : Int) - (intBits m : Int) - 109) / 2) (hq : 0 ≤ q) :
    Float64.ofFrac false (((rtoN n.natAbs (m * 2 ^ (2 * q).toNat).natAbs : Nat) : Int) * 2 ^ q.toNat).natAbs (Int.natAbs 1) = fsF n m := by
  unfold fsF
  rw [fsP_up e hq, natAbs_shl]
  rfl
theorem fsF_down {n m q : Int} (e : q = ((intBits n : Int) - (intBits m : Int) - 109) / 2) (hq : ¬ 0 ≤ q) :
    Float64.ofFrac false ((rtoN (n * 2 ^ (-2 * q).toNat).natAbs m.natAbs : Nat) : Int).natAbs ((1 : Int) * 2 ^ (-q).toNat).natAbs = fsF n m := by
  unfold fsF
  rw [fsP_down e hq, natAbs_shl, Int.natAbs_natCast]
  simp
theorem fsP_pos (n m : Int) : 0 < (fsP n m).2 := by
  unfold fsP
  split
  · exact Nat.one_pos
  · exact Nat.pow_pos (by decide)

section
variable {prog : Program} {w : World} {A : Around} {E : Value → Shared → Prop} {s : Shared} {a b : Int} {t u : Tok} {Q : Value → Shared → Prop}
theorem tdivX (hA : A.handled = none) (ha : 0 ≤ a) (hb : 0 < b) (hf : Float64.isInf (Float64.ofFrac false a.natAbs b.natAbs) = false)
    (h : Q (.float (Float64.ofFrac false a.natAbs b.natAbs) s.toks) { s with toks := s.toks + 1 }) : wpAny (model prog w) A (binaryOp .Div (.int a t) (.int b u)) Q E s := by
  have e : (decide (a < 0) != decide (b < 0)) = false := by
    rw [decide_eq_false (Int.not_lt.mpr ha), decide_eq_false (Int.not_lt.mpr (Int.le_of_lt hb))]; rfl
  refine Flt.div_ii hA (fun h0 => absurd h0 (Int.ne_of_gt hb)) (fun _ hi => ?_) (fun _ _ => ?_)
  · rw [e, hf] at hi; cases hi
  · rw [e]; exact h
end
end
section
open PySem PySem.W PyProof.Rows
set_option Elab.async false
set_option maxRecDepth 100000
open PySem.Builtin.Int (intBits)
theorem ga_float : typeLookup (.type "float") "__getattribute__" = pure (some (.builtin "object.__getattribute__")) := by rw [typeLookup_type, builtinLookup_eq_fast]; kernel_rfl
theorem canon_ga_float : (Manifest.canonical "object.__getattribute__" != "object.__getattribute__") = false := by decide +kernel
theorem no_getattr_float : typeLookup (.type "float") "__getattr__" = pure none := by rw [typeLookup_type, builtinLookup_eq_fast]; kernel_rfl
section
variable {prog : Program} {w : World} {A : Around} {E : Value → Shared → Prop} {s : Shared} {x : UInt64} {t : Tok}
theorem getMethod_air {pl : Sem Bool} {Q : Value × List Value → Shared → Prop} (h : Q (.builtin "float.as_integer_ratio", [.float x t]) s) :
    wpAny (model prog w) A (getMethod (.float x t) (Str.ofString "as_integer_ratio") pl) Q E s :=
  getMethod_value (T := "float") (name := Str.ofString "as_integer_ratio") (ga := "object.__getattribute__") (id := "float.as_integer_ratio") rfl (by intro _ x; cases x) ga_float canon_ga_float no_getattr_float F.slot_float_as_integer_ratio.lookup F.type_float_as_integer_ratio h
theorem call_air {m : Nat} {e : Int} {p q : Nat} {h₀ : Heap} {L : Addr} {lm : Str → Option Value} {news : List (Addr × Obj)} {Q : Value → Shared → Prop}
    (Fm : Fr h₀ L s.heap lm) (N : News h₀ L s.heap news) (hd : Float64.decode x = .fin false m e) (hr : Float64.ratio m e = (p, q))
    (h : ∀ h' T tk, Fr h₀ L h' lm → News h₀ L h' ((T, { cls := .type "tuple", data := .seq #[.int (p : Int) s.toks, .int (q : Int) (s.toks + 1)] }) :: news) → (∀ p ∈ news, p.1 < T) → Q (.ref T) { s with heap := h', toks := tk }) :
    wpAny (model prog w) A (call (.builtin "float.as_integer_ratio") [.float x t]) Q E s := by
  refine wpAny_call_entry F.slot_float_as_integer_ratio rfl F.entry_float_as_integer_ratio ?_ (F.args_float_as_integer_ratio_1 _)
  show wpAny _ _ (match Float64.decode x with | .nan => _ | .inf _ => _ | .fin s m e => _) _ _ s
  rw [hd]
  dsimp only
  rw [hr]
  dsimp only
  refine wpAny_bind (wpAny_mkInt (wpAny_bind (wpAny_mkInt (wpAny_bind (wpAny_newTuple ?_)))))
  refine wpAny_pure ⟨_, rfl, ?_⟩
  exact h _ _ _ (Fm.push _) (N.push Fm _) (fun p hp => Heap.lt_size (N p hp).1)
end
section
variable {prog : Program} {w : World} {A : Around} {E : Value → Shared → Prop} {s : Shared} {a b c n : Int} {t u : Tok} {Q : Value → Shared → Prop}
theorem mulE (he : a * b = c) (hm : intBits a + intBits b ≤ 2 ^ 27) (h : Q (.int c s.toks) { s with toks := s.toks + 1 }) : wpAny (model prog w) A (binaryOp .Mult (.int a t) (.int b u)) Q E s := by
  subst he; exact mulX hm h
theorem divE (he : a / b = c) (hb : 0 < b) (hp : intBits b ≤ 9000 ∨ intBits a ≤ intBits b + 4000) (h : Q (.int c s.toks) { s with toks := s.toks + 1 }) : wpAny (model prog w) A (binaryOp .FloorDiv (.int a t) (.int b u)) Q E s := by
  subst he; exact divX hb hp h
theorem modE (he : a % b = c) (hb : 0 < b) (h : Q (.int c s.toks) { s with toks := s.toks + 1 }) : wpAny (model prog w) A (binaryOp .Mod (.int a t) (.int b u)) Q E s := by
  subst he; exact modX hb h
theorem powE (he : a ^ n.toNat = c) (hn : 0 ≤ n) (hm : (intBits a : Int) * n ≤ 2 ^ 27) (h : Q (.int c s.toks) { s with toks := s.toks + 1 }) : wpAny (model prog w) A (binaryOp .Pow (.int a t) (.int n u)) Q E s := by
  subst he; exact powX hn hm h
theorem shlE (he : a * 2 ^ n.toNat = c) (hn : 0 ≤ n) (hm : (intBits a : Int) + n ≤ 2 ^ 27) (h : Q (.int c s.toks) { s with toks := s.toks + 1 }) : wpAny (model prog w) A (binaryOp .LShift (.int a t) (.int n u)) Q E s := by
  subst he; exact shlX hn hm h
theorem shrE (he : a / 2 ^ n.toNat = c) (hn : 0 ≤ n) (h : Q (.int c s.toks) { s with toks := s.toks + 1 }) : wpAny (model prog w) A (binaryOp .RShift (.int a t) (.int n u)) Q E s := by
  subst he; exact shrX hn h
theorem addE (he : a + b = c) (h : Q (.int c s.toks) { s with toks := s.toks + 1 }) : wpAny (model prog w) A (binaryOp .Add (.int a t) (.int b u)) Q E s := by
  subst he; exact add_int h
theorem subE (he : a - b = c) (h : Q (.int c s.toks) { s with toks := s.toks + 1 }) : wpAny (model prog w) A (binaryOp .Sub (.int a t) (.int b u)) Q E s := by
  subst he; exact sub_int h
theorem absE (he : (if a < 0 then -a else a) = c) (h : ∀ u tk, Q (.int c u) { s with toks := tk }) : wpAny (model prog w) A (call (.builtin "abs") [.int a t]) Q E s := by
  subst he; exact call_abs_int h
end
end
section
open PySem PySem.W PyProof.Rows
set_option Elab.async false
set_option exponentiation.threshold 300
open PySem.Builtin.Int (intBits)
open Float64 (V roundUn infMag)

theorem or_one (a : Nat) : (a % 2 = 0 → a ||| 1 = a + 1) ∧ (a % 2 = 1 → a ||| 1 = a) := by
  constructor
  · intro h
    have h1 : a = 2 * (a / 2) := by omega
    have h2 := Nat.two_pow_add_eq_or_of_lt (i := 1) (b := 1) (by decide) (a / 2)
    rw [h1]
    simp only [Nat.pow_one] at h2
    exact h2.symm
  · intro h
    have h1 : a = 2 * (a / 2) + 1 := by omega
    have h2 := Nat.two_pow_add_eq_or_of_lt (i := 1) (b := 1) (by decide) (a / 2)
    simp only [Nat.pow_one] at h2
    rw [h1, h2, Nat.or_assoc, Nat.or_self]

theorem sq_lt {a b : Nat} (h : a < b) : a * a < b * b := Nat.mul_lt_mul'' h h
theorem sq_le {a b : Nat} (h : a ≤ b) : a * a ≤ b * b := Nat.mul_le_mul h h
theorem sq_lt_iff {a b : Nat} : a * a < b * b ↔ a < b :=
  ⟨fun h => Nat.lt_of_not_le fun h' => Nat.not_le.mpr h (sq_le h'), sq_lt⟩
theorem sq_le_iff {a b : Nat} : a * a ≤ b * b ↔ a ≤ b :=
  ⟨fun h => Nat.le_of_not_lt fun h' => Nat.not_le.mpr (sq_lt h') h, sq_le⟩

/-- rounding to odd tells on which side of an even number the root lies -/
theorem rto_cmp {N M : Nat} (hM : 0 < M) {y : Nat} (hy : y % 2 = 0) :
    (rtoN N M < y ↔ N < y * y * M) ∧ (y < rtoN N M ↔ y * y * M < N) := by
  obtain ⟨h1, h2⟩ := Float64.isqrt_spec (N / M)
  unfold rtoN
  generalize Float64.isqrt (N / M) = a at *
  have h1' : a * a * M ≤ N := Nat.le_trans (Nat.mul_le_mul_right _ h1) (Nat.div_mul_le_self N M)
  have h2' : N < (a + 1) * (a + 1) * M := (Nat.div_lt_iff_lt_mul hM).mp h2
  have mono : ∀ {b c : Nat}, b ≤ c → b * b * M ≤ c * c * M := fun h => Nat.mul_le_mul_right _ (sq_le h)
  have smono : ∀ {b c : Nat}, b < c → b * b * M < c * c * M := fun h => Nat.mul_lt_mul_of_pos_right (sq_lt h) hM
  by_cases he : a * a * M = N
  · rw [if_pos he]
    constructor
    · constructor
      · intro h; rw [← he]; exact smono h
      · intro h; exact Nat.lt_of_not_le fun h' => Nat.not_le.mpr h (by rw [← he]; exact mono h')
    · constructor
      · intro h; rw [← he]; exact smono h
      · intro h; exact Nat.lt_of_not_le fun h' => Nat.not_le.mpr h (by rw [← he]; exact mono h')
  · rw [if_neg he]
    have key1 : a < y ↔ N < y * y * M := by
      constructor
      · intro h; exact Nat.lt_of_lt_of_le h2' (mono h)
      · intro h; exact Nat.lt_of_not_le fun h' => Nat.not_le.mpr h (Nat.le_trans (mono h') h1')
    have key2 : y ≤ a ↔ y * y * M < N := by
      constructor
      · intro h; exact Nat.lt_of_le_of_ne (Nat.le_trans (mono h) h1') (fun e => by
          have : y = a := Nat.le_antisymm h (Nat.le_of_not_lt fun h' => Nat.not_le.mpr h2' (Nat.le_of_eq (by
            exact absurd (Nat.lt_of_lt_of_le (smono h') (by rw [e]; exact h1')) (Nat.lt_irrefl _)) ))
          subst this
          exact he e)
      · intro h; exact Nat.le_of_not_lt fun h' => Nat.not_le.mpr h (Nat.le_of_lt (key1.mp h'))
    rw [← key1, ← key2]
    obtain ⟨o1, o2⟩ := or_one a
    rcases Nat.mod_two_eq_zero_or_one a with h | h
    · rw [o1 h]; omega
    · rw [o2 h]; omega

/-- the sum of two neighbours in the row of floats: twice the middle between them -/
def S (j : Nat) : Nat := V j + V (j + 1)
theorem S_form (j : Nat) : ∃ k p, p < 2 ^ 53 ∧ S j = (2 * p + 1) * 2 ^ k := by
  obtain ⟨k, q, ht, hq, hor, hV⟩ := Float64.V_form j
  have e : j + 1 = k * 2 ^ 52 + (q + 1) := by omega
  have h2 := Float64.V_at (k := k) (q := q + 1) (by omega) (by omega)
  refine ⟨k, q, hq, ?_⟩
  unfold S
  rw [hV, e, h2, ← Nat.add_mul]
  congr 1
  omega
theorem S_lt {i j : Nat} (h : i < j) : S i < S j := by
  have h1 := Float64.V_lt h
  have h2 := Float64.V_lt (Nat.succ_lt_succ h)
  unfold S
  exact Nat.add_lt_add h1 h2
theorem S_le {i j : Nat} (h : i ≤ j) : S i ≤ S j := by
  rcases Nat.lt_or_eq_of_le h with h | h
  · exact Nat.le_of_lt (S_lt h)
  · rw [h]; exact Nat.le_refl _

theorem grid {N M r α β p k : Nat} (hM : 0 < M) (hr : r = rtoN N M) (hbig : 2 ^ 108 * M ≤ N) (hp : p < 2 ^ 53) :
    (r * 2 ^ α < (2 * p + 1) * 2 ^ k * 2 ^ β ↔ N * (2 ^ α * 2 ^ α) < M * ((2 * p + 1) * 2 ^ k * 2 ^ β * ((2 * p + 1) * 2 ^ k * 2 ^ β))) ∧
    ((2 * p + 1) * 2 ^ k * 2 ^ β < r * 2 ^ α ↔ M * ((2 * p + 1) * 2 ^ k * 2 ^ β * ((2 * p + 1) * 2 ^ k * 2 ^ β)) < N * (2 ^ α * 2 ^ α)) := by
  subst hr
  have hA : 0 < 2 ^ α := Nat.two_pow_pos α
  by_cases hk : α + 1 ≤ k + β
  · obtain ⟨y, hy, hy2⟩ : ∃ y, (2 * p + 1) * 2 ^ k * 2 ^ β = y * 2 ^ α ∧ y % 2 = 0 := by
      refine ⟨(2 * p + 1) * 2 ^ (k + β - α), ?_, ?_⟩
      · rw [Nat.mul_assoc, Nat.mul_assoc, ← Nat.pow_add, ← Nat.pow_add]
        congr 2
        omega
      · have e : k + β - α = (k + β - α - 1) + 1 := by omega
        rw [e, Nat.pow_succ, ← Nat.mul_assoc]
        exact Nat.mul_mod_left _ 2
    rw [hy]
    obtain ⟨c1, c2⟩ := rto_cmp (N := N) hM hy2
    have e1 : M * (y * 2 ^ α * (y * 2 ^ α)) = y * y * M * (2 ^ α * 2 ^ α) := by
      generalize 2 ^ α = b
      simp only [Nat.mul_assoc, Nat.mul_comm, Nat.mul_left_comm]
    rw [e1, Nat.mul_lt_mul_right hA, Nat.mul_lt_mul_right hA, Nat.mul_lt_mul_right (Nat.mul_pos hA hA), Nat.mul_lt_mul_right (Nat.mul_pos hA hA)]
    exact ⟨c1, c2⟩
  · -- the middle lies below
    have hs : (2 * p + 1) * 2 ^ k * 2 ^ β < 2 ^ 54 * 2 ^ α := by
      rw [Nat.mul_assoc, ← Nat.pow_add]
      refine Nat.lt_of_lt_of_le (Nat.mul_lt_mul_of_pos_right (show 2 * p + 1 < 2 ^ 54 by omega) (Nat.two_pow_pos _)) ?_
      exact Nat.mul_le_mul_left _ (Nat.pow_le_pow_right (by decide) (by omega))
    have hr : 2 ^ 54 ≤ rtoN N M := by
      have c := (rto_cmp (N := N) hM (y := 2 ^ 54) (by decide)).1
      refine Nat.le_of_not_lt fun h => ?_
      have h' := c.mp h
      have e : (2 : Nat) ^ 54 * 2 ^ 54 = 2 ^ 108 := by decide
      rw [e] at h'
      omega
    generalize hy : (2 * p + 1) * 2 ^ k * 2 ^ β = y at *
    have h1 : y < rtoN N M * 2 ^ α := Nat.lt_of_lt_of_le hs (Nat.mul_le_mul_right _ hr)
    have h2 : M * (y * y) < N * (2 ^ α * 2 ^ α) := by
      have h3 : y * y < 2 ^ 108 * (2 ^ α * 2 ^ α) := by
        have h4 := sq_lt hs
        have e : 2 ^ 54 * 2 ^ α * (2 ^ 54 * 2 ^ α) = 2 ^ 108 * (2 ^ α * 2 ^ α) := by
          have e : (2 : Nat) ^ 108 = 2 ^ 54 * 2 ^ 54 := by decide
          rw [e]
          generalize 2 ^ α = b
          simp only [Nat.mul_assoc, Nat.mul_comm, Nat.mul_left_comm]
        rwa [e] at h4
      refine Nat.lt_of_lt_of_le (Nat.mul_lt_mul_of_pos_left h3 hM) ?_
      rw [← Nat.mul_assoc, Nat.mul_comm M]
      exact Nat.mul_le_mul_right _ hbig
    exact ⟨⟨fun h => absurd h (Nat.not_lt.mpr (Nat.le_of_lt h1)), fun h => absurd h (Nat.not_lt.mpr (Nat.le_of_lt h2))⟩, ⟨fun _ => h2, fun _ => h1⟩⟩

theorem ratio_big {n m : Int} (hn : n ≠ 0) {c d : Nat} (h : intBits m + c + 1 ≤ intBits n + d) : 2 ^ c * m.natAbs ≤ n.natAbs * 2 ^ d := by
  have h1 := bl_ge hn
  have h2 := bl_lt m
  have h3 := bl_pos hn
  have h4 : 2 ^ c * m.natAbs ≤ 2 ^ (c + intBits m) := by
    rw [Nat.pow_add]
    exact Nat.mul_le_mul_left _ (Nat.le_of_lt h2)
  refine Nat.le_trans h4 (Nat.le_trans (Nat.pow_le_pow_right (n := 2) (by decide) (show c + intBits m ≤ intBits n - 1 + d by omega)) ?_)
  rw [Nat.pow_add]
  exact Nat.mul_le_mul_right _ h1

theorem fs_cmp {n m : Int} (hn : n ≠ 0) (hm : m ≠ 0) (j : Nat) :
    ((fsP n m).1 * 2 ^ 1075 < (fsP n m).2 * S j ↔ n.natAbs * (2 ^ 1075 * 2 ^ 1075) < m.natAbs * (S j * S j)) ∧
    ((fsP n m).2 * S j < (fsP n m).1 * 2 ^ 1075 ↔ m.natAbs * (S j * S j) < n.natAbs * (2 ^ 1075 * 2 ^ 1075)) := by
  obtain ⟨k, p, hp, hS⟩ := S_form j
  have hN : 0 < n.natAbs := by omega
  have hM : 0 < m.natAbs := by omega
  unfold fsP
  have hqe : fsQ n m = ((intBits n : Int) - (intBits m : Int) - 109) / 2 := rfl
  generalize fsQ n m = q at *
  by_cases hq : 0 ≤ q
  · rw [if_pos hq]
    dsimp only
    obtain ⟨a, rfl⟩ := Int.eq_ofNat_of_zero_le hq
    have e2 : (2 * (a : Int)).toNat = 2 * a := by omega
    rw [e2, Int.toNat_natCast]
    have hb := ratio_big (m := m) (c := 108 + 2 * a) (d := 0) hn (by omega)
    rw [Nat.pow_zero, Nat.mul_one, Nat.pow_add, Nat.mul_assoc, Nat.mul_comm (2 ^ (2 * a))] at hb
    have g := grid (α := a + 1075) (β := 0) (k := k) (Nat.mul_pos hM (Nat.two_pow_pos (2 * a))) rfl hb hp
    rw [Nat.pow_zero, Nat.mul_one, ← hS] at g
    rw [Nat.one_mul, Nat.mul_assoc, ← Nat.pow_add]
    have e3 : n.natAbs * (2 ^ (a + 1075) * 2 ^ (a + 1075)) = 2 ^ (2 * a) * (n.natAbs * (2 ^ 1075 * 2 ^ 1075)) := by
      rw [Nat.two_mul, Nat.pow_add, Nat.pow_add]
      generalize 2 ^ a = x
      generalize 2 ^ 1075 = y
      simp only [Nat.mul_assoc, Nat.mul_comm, Nat.mul_left_comm]
    have e4 : m.natAbs * 2 ^ (2 * a) * (S j * S j) = 2 ^ (2 * a) * (m.natAbs * (S j * S j)) := by
      rw [Nat.mul_comm m.natAbs, Nat.mul_assoc]
    rw [e3, e4, Nat.mul_lt_mul_left (Nat.two_pow_pos _), Nat.mul_lt_mul_left (Nat.two_pow_pos _)] at g
    exact g
  · rw [if_neg hq]
    dsimp only
    obtain ⟨a, ha⟩ := Int.eq_ofNat_of_zero_le (show 0 ≤ -q by omega)
    have e1 : (-q).toNat = a := by omega
    have e2 : (-2 * q).toNat = 2 * a := by omega
    rw [e1, e2]
    have hb := ratio_big (m := m) (c := 108) (d := 2 * a) hn (by omega)
    have g := grid (α := 1075) (β := a) (k := k) hM rfl hb hp
    rw [← hS] at g
    have e3 : n.natAbs * 2 ^ (2 * a) * (2 ^ 1075 * 2 ^ 1075) = 2 ^ (2 * a) * (n.natAbs * (2 ^ 1075 * 2 ^ 1075)) := by
      rw [Nat.mul_comm n.natAbs, Nat.mul_assoc]
    have e4 : m.natAbs * (S j * 2 ^ a * (S j * 2 ^ a)) = 2 ^ (2 * a) * (m.natAbs * (S j * S j)) := by
      rw [Nat.two_mul, Nat.pow_add]
      generalize 2 ^ a = x
      simp only [Nat.mul_assoc, Nat.mul_comm, Nat.mul_left_comm]
    rw [e3, e4, Nat.mul_lt_mul_left (Nat.two_pow_pos _), Nat.mul_lt_mul_left (Nat.two_pow_pos _), Nat.mul_comm (S j)] at g
    exact g

/-- the place, in the row of all floats, of what _float_sqrt_of_frac tells -/
def fsT (n m : Int) : Nat := roundUn (fsP n m).1 (fsP n m).2

/-- where the root of N / M lies as to the middles about t, W W standing for 2 ^ 2150 -/
structure At (N M W t : Nat) : Prop where
  up : N * (W * W) ≤ M * (S t * S t)
  upE : N * (W * W) = M * (S t * S t) → t % 2 = 0
  dn : ∀ i, t = i + 1 → M * (S i * S i) ≤ N * (W * W)
  dnE : ∀ i, t = i + 1 → M * (S i * S i) = N * (W * W) → t % 2 = 0

theorem near_up {W x y : Nat} (h : Float64.dist W x ≤ Float64.dist W y) (hxy : x < y) : 2 * W ≤ x + y := by
  unfold Float64.dist at h; omega
theorem near_dn {W x y : Nat} (h : Float64.dist W x ≤ Float64.dist W y) (hxy : y < x) : y + x ≤ 2 * W := by
  unfold Float64.dist at h; omega
theorem near_eq {W x y : Nat} (h : 2 * W = x + y) : Float64.dist W x = Float64.dist W y := by
  unfold Float64.dist; omega

theorem fs_at {n m : Int} (h : Sg n m) : At n.natAbs m.natAbs (2 ^ 1075) (fsT n m) := by
  by_cases hn : n = 0
  · subst hn
    have e0 : (fsP 0 m).1 = 0 := by
      unfold fsP
      split <;> simp [rtoN, show Float64.isqrt 0 = 0 from rfl]
    have e : fsT 0 m = 0 := by
      unfold fsT
      rw [e0]
      unfold Float64.roundUn
      simp
    rw [e]
    exact ⟨by simp, fun _ => rfl, fun i hi => absurd hi (by omega), fun i hi => absurd hi (by omega)⟩
  · have hr := Float64.roundUn_right (n := (fsP n m).1) (d := (fsP n m).2) (fsP_pos n m)
    have hc := fs_cmp hn h.ne
    have hd := fsP_pos n m
    unfold fsT
    generalize (fsP n m).1 = u at *
    generalize (fsP n m).2 = d at *
    generalize roundUn u d = T at *
    have e2 : u * 2 ^ 1075 = 2 * (u * 2 ^ 1074) := by
      rw [Nat.pow_succ 2 1074, ← Nat.mul_assoc, Nat.mul_comm]
    have V1 : ∀ i j, i < j → d * V i < d * V j := fun i j hij => Nat.mul_lt_mul_of_pos_left (Float64.V_lt hij) hd
    have up : 2 * (u * 2 ^ 1074) ≤ d * S T := by
      unfold S; rw [Nat.mul_add]; exact near_up (hr (T + 1)).1 (V1 _ _ (Nat.lt_succ_self T))
    have upE : 2 * (u * 2 ^ 1074) = d * S T → T % 2 = 0 := by
      intro e
      unfold S at e; rw [Nat.mul_add] at e
      exact (hr (T + 1)).2 (Nat.ne_of_gt (Float64.V_lt (Nat.lt_succ_self T))) (near_eq e)
    have dn : ∀ i, T = i + 1 → d * S i ≤ 2 * (u * 2 ^ 1074) := by
      intro i hi
      subst hi
      unfold S; rw [Nat.mul_add]; exact near_dn (hr i).1 (V1 _ _ (Nat.lt_succ_self i))
    have dnE : ∀ i, T = i + 1 → d * S i = 2 * (u * 2 ^ 1074) → T % 2 = 0 := by
      intro i hi e
      subst hi
      unfold S at e; rw [Nat.mul_add] at e
      exact (hr i).2 (Nat.ne_of_lt (Float64.V_lt (Nat.lt_succ_self i))) (near_eq (by omega))
    rw [e2] at hc
    clear e2
    generalize (2 : Nat) ^ 1075 = W at *
    refine ⟨?_, fun e => ?_, fun i hi => ?_, fun i hi e => ?_⟩
    · exact Nat.le_of_not_lt fun h' => Nat.not_lt.mpr up ((hc T).2.mpr h')
    · refine upE (Nat.le_antisymm up (Nat.le_of_not_lt fun h' => ?_))
      exact Nat.lt_irrefl _ (e ▸ (hc T).1.mp h')
    · exact Nat.le_of_not_lt fun h' => Nat.not_lt.mpr (dn i hi) ((hc i).1.mpr h')
    · refine dnE i hi (Nat.le_antisymm (dn i hi) (Nat.le_of_not_lt fun h' => ?_))
      exact Nat.lt_irrefl _ (e ▸ (hc i).2.mp h')

theorem At.unique {N M W t t' : Nat} (hM : 0 < M) (a : At N M W t) (b : At N M W t') : t = t' := by
  have key : ∀ {t t' : Nat}, At N M W t → At N M W t' → t < t' → False := by
    intro t t' a b hlt
    obtain ⟨i, rfl⟩ : ∃ i, t' = i + 1 := ⟨t' - 1, by omega⟩
    have h1 := b.dn i rfl
    have h2 : S t ≤ S i := S_le (by omega)
    have h3 : M * (S t * S t) ≤ M * (S i * S i) := Nat.mul_le_mul_left _ (sq_le h2)
    have h4 : N * (W * W) = M * (S t * S t) := Nat.le_antisymm a.up (Nat.le_trans h3 h1)
    have h5 : M * (S i * S i) = N * (W * W) := Nat.le_antisymm h1 (by rw [h4]; exact h3)
    have h6 := a.upE h4
    have h7 := b.dnE i rfl h5
    have h8 : M * (S t * S t) = M * (S i * S i) := by rw [h5, h4]
    have h9 : S t * S t = S i * S i := Nat.eq_of_mul_eq_mul_left hM h8
    have h10 : t = i := by
      rcases Nat.lt_trichotomy t i with h | h | h
      · exact absurd h9 (Nat.ne_of_lt (sq_lt (S_lt h)))
      · exact h
      · exact absurd h9 (Nat.ne_of_gt (sq_lt (S_lt h)))
    omega
  rcases Nat.lt_trichotomy t t' with h | h | h
  · exact (key a b h).elim
  · exact h
  · exact (key b a h).elim

theorem fsT_eq {n m : Int} (h : Sg n m) {t : Nat} (a : At n.natAbs m.natAbs (2 ^ 1075) t) : fsT n m = t :=
  At.unique (by have := h.ne; omega) (fs_at h) a

theorem fsF_eq (n m : Int) : fsF n m = Float64.pack false (min infMag (fsT n m)) := by
  unfold fsF Float64.ofFrac fsT
  rw [Float64.roundMag_min]
end
section
open PySem PySem.W PyProof.Rows
set_option Elab.async false
open PySem.Builtin.Int (intBits)
open Float64 (V roundUn infMag)

theorem dvd_pow2 : ∀ (j g : Nat), g ∣ 2 ^ j → ∃ z, z ≤ j ∧ g = 2 ^ z
  | 0, g, h => ⟨0, Nat.le_refl _, by simpa using h⟩
  | j + 1, g, h => by
    rcases Nat.mod_two_eq_zero_or_one g with h2 | h2
    · obtain ⟨k, rfl⟩ : ∃ k, g = 2 * k := ⟨g / 2, by omega⟩
      rw [Nat.pow_succ, Nat.mul_comm (2 ^ j)] at h
      obtain ⟨z, hz, rfl⟩ := dvd_pow2 j k (Nat.dvd_of_mul_dvd_mul_left (by decide) h)
      exact ⟨z + 1, by omega, by rw [Nat.pow_succ, Nat.mul_comm]⟩
    · have hc : Nat.Coprime g 2 := by
        have h1 : Nat.gcd g 2 ∣ 2 := Nat.gcd_dvd_right _ _
        have h3 : Nat.gcd g 2 ≤ 2 := Nat.le_of_dvd (by decide) h1
        have h4 : Nat.gcd g 2 ∣ g := Nat.gcd_dvd_left _ _
        have h5 : Nat.gcd g 2 ≠ 0 := fun e => by rw [e] at h1; exact absurd (Nat.eq_zero_of_zero_dvd h1) (by decide)
        have h6 : Nat.gcd g 2 ≠ 2 := fun e => by rw [e] at h4; omega
        show Nat.gcd g 2 = 1
        omega
      rw [Nat.pow_succ] at h
      obtain ⟨z, hz, e⟩ := dvd_pow2 j g (hc.dvd_of_dvd_mul_right h)
      exact ⟨z, by omega, e⟩

theorem intBits_of {a k : Nat} (h1 : 2 ^ k ≤ a) (h2 : a < 2 ^ (k + 1)) : intBits (a : Int) = k + 1 := by
  refine Nat.le_antisymm (bl_le (by simpa using h2)) ?_
  have h3 := bl_lt (a : Int)
  rw [Int.natAbs_natCast] at h3
  exact (Nat.pow_lt_pow_iff_right (a := 2) (by decide)).mp (Nat.lt_of_le_of_lt h1 h3)

/-- what as_integer_ratio gives for a float of 53 figures -/
theorem ratio_up {D k : Nat} : Float64.ratio D (k : Int) = (D * 2 ^ k, 1) := by
  unfold Float64.ratio Float64.shift
  simp
theorem ratio_down {D j : Nat} (hj : 0 < j) : ∃ z, z ≤ j ∧ D = D / 2 ^ z * 2 ^ z ∧ Float64.ratio D (-(j : Int)) = (D / 2 ^ z, 2 ^ (j - z)) := by
  unfold Float64.ratio Float64.shift
  have h0 : ¬ (-(j : Int) ≥ 0) := by omega
  have e : (- -(j : Int)).toNat = j := by omega
  rw [if_neg h0, e, Nat.one_mul]
  obtain ⟨z, hz, hg⟩ := dvd_pow2 j (Nat.gcd D (2 ^ j)) (Nat.gcd_dvd_right _ _)
  refine ⟨z, hz, ?_, ?_⟩
  · rw [← hg]; exact (Nat.div_mul_cancel (Nat.gcd_dvd_left _ _)).symm
  · dsimp only
    rw [hg, Nat.pow_div hz (by decide)]

theorem decode_at {t : Nat} (h1 : 2 ^ 52 ≤ t) (h2 : t < infMag) : Float64.decode (Float64.pack false t) = .fin false (2 ^ 52 + t % 2 ^ 52) ((t / 2 ^ 52 : Nat) - 1075) := by
  have ht : t < 2 ^ 63 := Nat.lt_trans h2 (by decide)
  have e := Float64.pack_toNat false ht
  simp only [Bool.false_eq_true, if_false, Nat.zero_add] at e
  unfold infMag at h2
  unfold Float64.decode
  simp only [e]
  have h3 : t / 2 ^ 63 = 0 := Nat.div_eq_of_lt ht
  have h4 : t / 2 ^ 52 < 2047 := (Nat.div_lt_iff_lt_mul (by decide)).mpr h2
  have h5 : 1 ≤ t / 2 ^ 52 := (Nat.le_div_iff_mul_le (by decide)).mpr (by simpa using h1)
  have h6 : t / 2 ^ 52 % 2048 = t / 2 ^ 52 := Nat.mod_eq_of_lt (by omega)
  rw [h6, h3]
  have h7 : (t / 2 ^ 52 == 2047) = false := by simpa using (by omega : t / 2 ^ 52 ≠ 2047)
  have h8 : (t / 2 ^ 52 == 0) = false := by simpa using (by omega : t / 2 ^ 52 ≠ 0)
  rw [h7, h8]
  rfl

theorem V_norm {t : Nat} (h1 : 2 ^ 52 ≤ t) : V t = (2 ^ 52 + t % 2 ^ 52) * 2 ^ (t / 2 ^ 52 - 1) := by
  have h5 : 1 ≤ t / 2 ^ 52 := (Nat.le_div_iff_mul_le (by decide)).mpr (by simpa using h1)
  unfold Float64.V
  rw [if_neg (by omega)]


/-- the float's figures and power, as the law reads them -/
structure Read (D : Nat) (e : Int) (pp qq st sb bo : Nat) : Prop where
  r : Float64.ratio D e = (pp, qq)
  st1 : (2 : Int) ^ (if 0 > (intBits (pp : Int) : Int) - 53 then 0 else (intBits (pp : Int) : Int) - 53).toNat = (st : Int)
  st2 : 0 ≤ (if 0 > (intBits (pp : Int) : Int) - 53 then 0 else (intBits (pp : Int) : Int) - 53)
  st3 : (intBits 2 : Int) * (if 0 > (intBits (pp : Int) : Int) - 53 then 0 else (intBits (pp : Int) : Int) - 53) ≤ 2 ^ 27
  sb1 : (2 : Int) ^ (if 0 > -((intBits (pp : Int) : Int) - 53) then 0 else -((intBits (pp : Int) : Int) - 53)).toNat = (sb : Int)
  sb2 : 0 ≤ (if 0 > -((intBits (pp : Int) : Int) - 53) then 0 else -((intBits (pp : Int) : Int) - 53))
  sb3 : (intBits 2 : Int) * (if 0 > -((intBits (pp : Int) : Int) - 53) then 0 else -((intBits (pp : Int) : Int) - 53)) ≤ 2 ^ 27
  mm : intBits (pp : Int) + intBits (sb : Int) ≤ 2 ^ 27
  top : (pp : Int) * (sb : Int) / (st : Int) = (D : Int)
  stp : (0 : Int) < (st : Int)
  stb : intBits (st : Int) ≤ 2000
  mb : intBits (qq : Int) + intBits (sb : Int) ≤ 2 ^ 27
  bot : (qq : Int) * (sb : Int) = (bo : Int)
  bob : intBits (bo : Int) ≤ 2000
  bop : 0 < bo
  link : ∃ k j : Nat, st = 2 ^ k ∧ bo = 2 ^ j ∧ e = (k : Int) - (j : Int)

theorem read_of {D : Nat} {e : Int} (h1 : 2 ^ 52 ≤ D) (h2 : D < 2 ^ 53) (he : -1075 ≤ e) (he2 : e ≤ 1000) : ∃ pp qq st sb bo, Read D e pp qq st sb bo := by
  have i2 : intBits 2 = 2 := by decide
  have p0 : (2 : Int) ^ (0 : Int).toNat = ((1 : Nat) : Int) := by decide
  have b1 : intBits ((1 : Nat) : Int) = 1 := by decide
  by_cases h0 : 0 ≤ e
  · obtain ⟨k, rfl⟩ := Int.eq_ofNat_of_zero_le h0
    have hb : intBits ((D * 2 ^ k : Nat) : Int) = 53 + k := by
      have := intBits_of (a := D * 2 ^ k) (k := 52 + k) (by rw [Nat.pow_add]; exact Nat.mul_le_mul_right _ h1) (by
        rw [show 52 + k + 1 = 53 + k by omega, Nat.pow_add]; exact Nat.mul_lt_mul_of_pos_right h2 (Nat.two_pow_pos k))
      omega
    have eA : (if 0 > (intBits ((D * 2 ^ k : Nat) : Int) : Int) - 53 then 0 else (intBits ((D * 2 ^ k : Nat) : Int) : Int) - 53) = (k : Int) := by
      rw [hb, if_neg (by omega)]; omega
    have eB : (if 0 > -((intBits ((D * 2 ^ k : Nat) : Int) : Int) - 53) then 0 else -((intBits ((D * 2 ^ k : Nat) : Int) : Int) - 53)) = 0 := by
      rw [hb]; split <;> omega
    have hs : intBits ((2 ^ k : Nat) : Int) = k + 1 := intBits_of (Nat.le_refl _) (Nat.pow_lt_pow_right (by decide) (Nat.lt_succ_self k))
    refine ⟨D * 2 ^ k, 1, 2 ^ k, 1, 1, ⟨ratio_up, ?_, ?_, ?_, ?_, ?_, ?_, ?_, ?_, ?_, ?_, ?_, ?_, ?_, ?_, ⟨k, 0, rfl, rfl, by omega⟩⟩⟩
    · rw [eA, Int.toNat_natCast]; exact two_pow_cast k
    · rw [eA]; omega
    · rw [eA, i2]; omega
    · rw [eB]; exact p0
    · rw [eB]; decide
    · rw [eB, i2]; decide
    · rw [hb, b1]; omega
    · rw [Int.natCast_one, Int.mul_one, Int.natCast_mul]
      exact Int.mul_ediv_cancel _ (Int.ne_of_gt (by rw [← two_pow_cast]; exact two_pow_pos' k))
    · rw [← two_pow_cast]; exact two_pow_pos' k
    · rw [hs]; omega
    · rw [b1]; decide
    · decide
    · rw [b1]; decide
    · decide
  · obtain ⟨j, hj⟩ := Int.eq_ofNat_of_zero_le (show 0 ≤ -e by omega)
    have he' : e = -(j : Int) := by omega
    subst he'
    have hj0 : 0 < j := by omega
    obtain ⟨z, hz, hD, hr⟩ := ratio_down (D := D) hj0
    generalize hP : D / 2 ^ z = P at *
    have hzp := Nat.two_pow_pos z
    have hP1 : 0 < P := Nat.pos_of_ne_zero fun e => by rw [e, Nat.zero_mul] at hD; rw [hD] at h1; exact absurd h1 (by decide)
    have hz52 : z ≤ 52 := by
      have h3 : 2 ^ z ≤ P * 2 ^ z := Nat.le_mul_of_pos_left _ hP1
      rw [← hD] at h3
      have h4 := (Nat.pow_lt_pow_iff_right (a := 2) (by decide)).mp (Nat.lt_of_le_of_lt h3 h2)
      omega
    have hb : intBits (P : Int) = 53 - z := by
      have := intBits_of (a := P) (k := 52 - z) (by
        refine Nat.le_of_mul_le_mul_right (c := 2 ^ z) ?_ hzp
        rw [← hD, ← Nat.pow_add, Nat.sub_add_cancel hz52]; exact h1) (by
        refine Nat.lt_of_mul_lt_mul_right (a := 2 ^ z) ?_
        rw [← hD, ← Nat.pow_add, show 52 - z + 1 + z = 53 by omega]; exact h2)
      omega
    have eA : (if 0 > (intBits (P : Int) : Int) - 53 then 0 else (intBits (P : Int) : Int) - 53) = 0 := by
      rw [hb]; split <;> omega
    have eB : (if 0 > -((intBits (P : Int) : Int) - 53) then 0 else -((intBits (P : Int) : Int) - 53)) = (z : Int) := by
      rw [hb]; split <;> omega
    have hs : ∀ a : Nat, intBits ((2 ^ a : Nat) : Int) = a + 1 := fun a => intBits_of (Nat.le_refl _) (Nat.pow_lt_pow_right (by decide) (Nat.lt_succ_self a))
    refine ⟨P, 2 ^ (j - z), 1, 2 ^ z, 2 ^ j, ⟨hr, ?_, ?_, ?_, ?_, ?_, ?_, ?_, ?_, ?_, ?_, ?_, ?_, ?_, ?_, ⟨0, j, rfl, rfl, by omega⟩⟩⟩
    · rw [eA]; exact p0
    · rw [eA]; decide
    · rw [eA, i2]; decide
    · rw [eB, Int.toNat_natCast]; exact two_pow_cast z
    · rw [eB]; omega
    · rw [eB, i2]; omega
    · rw [hb, hs]; omega
    · rw [Int.natCast_one, Int.ediv_one, ← Int.natCast_mul, ← hD]
    · decide
    · rw [b1]; decide
    · rw [hs, hs]; omega
    · rw [← Int.natCast_mul, ← Nat.pow_add, Nat.sub_add_cancel hz]
    · rw [hs]; omega
    · exact Nat.two_pow_pos j

theorem near_conv {X P K st bo n m : Nat} (hK : 0 < K) (hl : st * K = P * bo) (h : m * (X * P * (X * P)) ≤ n * (4 * K * (4 * K))) :
    X * st * (X * st) * m ≤ n * (4 * bo * (4 * bo)) := by
  refine Nat.le_of_mul_le_mul_right (c := K * K) ?_ (Nat.mul_pos hK hK)
  have e1 : X * st * (X * st) * m * (K * K) = m * (X * P * (X * P)) * (bo * bo) := by
    have : X * st * (X * st) * m * (K * K) = X * X * m * (st * K * (st * K)) := by simp only [Nat.mul_assoc, Nat.mul_comm, Nat.mul_left_comm]
    rw [this, hl]; simp only [Nat.mul_assoc, Nat.mul_comm, Nat.mul_left_comm]
  have e2 : n * (4 * bo * (4 * bo)) * (K * K) = n * (4 * K * (4 * K)) * (bo * bo) := by simp only [Nat.mul_assoc, Nat.mul_comm, Nat.mul_left_comm]
  rw [e1, e2]
  exact Nat.mul_le_mul_right _ h
theorem near_conv' {X P K st bo n m : Nat} (hK : 0 < K) (hl : st * K = P * bo) (h : n * (4 * K * (4 * K)) ≤ m * (X * P * (X * P))) :
    n * (4 * bo * (4 * bo)) ≤ X * st * (X * st) * m := by
  refine Nat.le_of_mul_le_mul_right (c := K * K) ?_ (Nat.mul_pos hK hK)
  have e1 : X * st * (X * st) * m * (K * K) = m * (X * P * (X * P)) * (bo * bo) := by
    have : X * st * (X * st) * m * (K * K) = X * X * m * (st * K * (st * K)) := by simp only [Nat.mul_assoc, Nat.mul_comm, Nat.mul_left_comm]
    rw [this, hl]; simp only [Nat.mul_assoc, Nat.mul_comm, Nat.mul_left_comm]
  have e2 : n * (4 * bo * (4 * bo)) * (K * K) = n * (4 * K * (4 * K)) * (bo * bo) := by simp only [Nat.mul_assoc, Nat.mul_comm, Nat.mul_left_comm]
  rw [e1, e2]
  exact Nat.mul_le_mul_right _ h
theorem near_convE {X P K st bo n m : Nat} (_hK : 0 < K) (hb : 0 < bo) (hl : st * K = P * bo) (h : n * (4 * bo * (4 * bo)) = X * st * (X * st) * m) :
    n * (4 * K * (4 * K)) = m * (X * P * (X * P)) := by
  refine Nat.eq_of_mul_eq_mul_right (Nat.mul_pos hb hb) ?_
  have e1 : X * st * (X * st) * m * (K * K) = m * (X * P * (X * P)) * (bo * bo) := by
    have : X * st * (X * st) * m * (K * K) = X * X * m * (st * K * (st * K)) := by simp only [Nat.mul_assoc, Nat.mul_comm, Nat.mul_left_comm]
    rw [this, hl]; simp only [Nat.mul_assoc, Nat.mul_comm, Nat.mul_left_comm]
  have e2 : n * (4 * bo * (4 * bo)) * (K * K) = n * (4 * K * (4 * K)) * (bo * bo) := by simp only [Nat.mul_assoc, Nat.mul_comm, Nat.mul_left_comm]
  rw [← e1, ← e2, h]
end
section
open PySem PySem.W PyProof.Rows
set_option Elab.async false
set_option exponentiation.threshold 5000
open PySem.Builtin.Int (intBits)
open Float64 (V roundUn infMag)

theorem sq2 (x : Int) : x ^ (2 : Int).toNat = x * x := by
  show x ^ 2 = _
  rw [Int.pow_succ, Int.pow_succ, Int.pow_zero, Int.one_mul]

/-- the middles about a float that is no small one, in its own figures -/
theorem S_here {t : Nat} (h : 2 ^ 52 ≤ t) : 2 * S t = (4 * (2 ^ 52 + t % 2 ^ 52) + 2) * 2 ^ (t / 2 ^ 52 - 1) := by
  have h5 : 1 ≤ t / 2 ^ 52 := (Nat.le_div_iff_mul_le (by decide)).mpr (by simpa using h)
  have e : t + 1 = (t / 2 ^ 52 - 1) * 2 ^ 52 + (2 ^ 52 + t % 2 ^ 52 + 1) := by omega
  have hv : V (t + 1) = (2 ^ 52 + t % 2 ^ 52 + 1) * 2 ^ (t / 2 ^ 52 - 1) := by
    have := Float64.V_at (k := t / 2 ^ 52 - 1) (q := 2 ^ 52 + t % 2 ^ 52 + 1) (by omega) (by omega)
    rw [← e] at this
    exact this
  unfold S
  rw [V_norm h, hv, ← Nat.add_mul, ← Nat.mul_assoc]
  congr 1
  omega
theorem S_below {t i : Nat} (h : 2 ^ 53 ≤ t) (hi : t = i + 1) :
    2 * S i = (4 * (2 ^ 52 + t % 2 ^ 52) - (if 2 ^ 52 + t % 2 ^ 52 = 2 ^ 52 then 1 else 2)) * 2 ^ (t / 2 ^ 52 - 1) := by
  have h5 : 2 ≤ t / 2 ^ 52 := (Nat.le_div_iff_mul_le (by decide)).mpr (by simpa using h)
  by_cases hz : t % 2 ^ 52 = 0
  · rw [if_pos (by omega)]
    have e : i = (t / 2 ^ 52 - 2) * 2 ^ 52 + (2 ^ 53 - 1) := by omega
    have hv : V i = (2 ^ 53 - 1) * 2 ^ (t / 2 ^ 52 - 2) := by
      have := Float64.V_at (k := t / 2 ^ 52 - 2) (q := 2 ^ 53 - 1) (by omega) (by omega)
      rw [← e] at this
      exact this
    have hP : (2 : Nat) ^ (t / 2 ^ 52 - 1) = 2 ^ (t / 2 ^ 52 - 2) * 2 := by
      rw [← Nat.pow_succ]; congr 1; omega
    have ht : V t = 2 ^ 53 * 2 ^ (t / 2 ^ 52 - 2) := by
      rw [V_norm (by omega), hz, hP]
      omega
    unfold S
    rw [← hi, hv, ht, hz, hP]
    omega
  · rw [if_neg (by omega)]
    have e : i = (t / 2 ^ 52 - 1) * 2 ^ 52 + (2 ^ 52 + t % 2 ^ 52 - 1) := by omega
    have hv : V i = (2 ^ 52 + t % 2 ^ 52 - 1) * 2 ^ (t / 2 ^ 52 - 1) := by
      have := Float64.V_at (k := t / 2 ^ 52 - 1) (q := 2 ^ 52 + t % 2 ^ 52 - 1) (by omega) (by omega)
      rw [← e] at this
      exact this
    unfold S
    rw [← hi, hv, V_norm (by omega), ← Nat.add_mul, ← Nat.mul_assoc]
    congr 1
    omega

theorem V_top : 2 ^ 2097 ≤ V (infMag - 1) := by
  have e : infMag - 1 = 2045 * 2 ^ 52 + (2 ^ 53 - 1) := by unfold infMag; omega
  rw [e, Float64.V_at (by omega) (by omega)]
  have : (2 : Nat) ^ 2097 = 2 ^ 52 * 2 ^ 2045 := by rw [← Nat.pow_add]
  rw [this]
  exact Nat.mul_le_mul_right _ (by decide)

/-- between the greatest floats and the small ones -/
theorem fsT_range {n m : Int} (hs : Sg n m) (hn : n ≠ 0) (h1 : intBits n ≤ 2040) (h2 : intBits m ≤ 1010) : 2 ^ 53 ≤ fsT n m ∧ fsT n m < infMag := by
  have a := fs_at hs
  have hN : n.natAbs < 2 ^ 2040 := bl_le_iff.mp h1
  have hM : m.natAbs < 2 ^ 1010 := bl_le_iff.mp h2
  have hN0 : 0 < n.natAbs := by omega
  have hM0 : 0 < m.natAbs := by have := hs.ne; omega
  generalize n.natAbs = N at *
  generalize m.natAbs = M at *
  generalize fsT n m = T at *
  constructor
  · refine Nat.le_of_not_lt fun h => ?_
    have h3 : S T ≤ 2 ^ 55 := by
      have h4 : S T ≤ S (2 ^ 53 - 1) := S_le (by omega)
      have h5 : S (2 ^ 53 - 1) ≤ 2 ^ 55 := by decide +kernel
      exact Nat.le_trans h4 h5
    have h4 : N * (2 ^ 1075 * 2 ^ 1075) ≤ 2 ^ 1010 * (2 ^ 55 * 2 ^ 55) := Nat.le_trans a.up (Nat.mul_le_mul (Nat.le_of_lt hM) (sq_le h3))
    have h5 : 2 ^ 1075 * 2 ^ 1075 ≤ N * (2 ^ 1075 * 2 ^ 1075) := Nat.le_mul_of_pos_left _ hN0
    have h6 := Nat.le_trans h5 h4
    rw [← Nat.pow_add, ← Nat.pow_add, ← Nat.pow_add] at h6
    exact absurd ((Nat.pow_le_pow_iff_right (a := 2) (by decide)).mp h6) (by decide)
  · refine Nat.lt_of_not_le fun h => ?_
    have hi : 1 ≤ infMag := by decide
    have h3 := a.dn (T - 1) (by omega)
    have h4 : 2 ^ 2097 ≤ S (T - 1) := by
      refine Nat.le_trans V_top (Nat.le_trans ?_ (S_le (show infMag - 1 ≤ T - 1 by omega)))
      exact Nat.le_add_right _ _
    have h5 : 2 ^ 2097 * 2 ^ 2097 ≤ N * (2 ^ 1075 * 2 ^ 1075) := Nat.le_trans (sq_le h4) (Nat.le_trans (Nat.le_mul_of_pos_left _ hM0) h3)
    have h6 : N * (2 ^ 1075 * 2 ^ 1075) < 2 ^ 2040 * (2 ^ 1075 * 2 ^ 1075) := Nat.mul_lt_mul_of_pos_right hN (Nat.mul_pos (Nat.two_pow_pos _) (Nat.two_pow_pos _))
    have h7 := Nat.lt_of_le_of_lt h5 h6
    rw [← Nat.pow_add, ← Nat.pow_add, ← Nat.pow_add] at h7
    exact absurd ((Nat.pow_lt_pow_iff_right (a := 2) (by decide)).mp h7) (by decide)

theorem isInf_at {t : Nat} (h : t < infMag) : Float64.isInf (Float64.pack false t) = false := by
  obtain ⟨m, e, hd, _⟩ := Float64.decode_pack false h
  unfold Float64.isInf
  rw [hd]

structure NearF (n m : Int) (D : Nat) (e : Int) (pp qq st sb bo : Nat) (c : Int) : Prop where
  dec : Float64.decode (fsF n m) = .fin false D e
  fin : Float64.isInf (fsF n m) = false
  lo : 2 ^ 52 ≤ D
  hi : D < 2 ^ 53
  rd : Read D e pp qq st sb bo
  cc : ((D : Int) = 4503599627370496 ∧ c = 1) ∨ ((D : Int) ≠ 4503599627370496 ∧ c = 2)
  nr : ((D : Int) % 2 = 0 ∧ ((4 * (D : Int) - c) * (st : Int)) ^ (2 : Int).toNat * m ≤ n * (4 * (bo : Int)) ^ (2 : Int).toNat ∧ n * (4 * (bo : Int)) ^ (2 : Int).toNat ≤ ((4 * (D : Int) + 2) * (st : Int)) ^ (2 : Int).toNat * m) ∨
    ((D : Int) % 2 = 1 ∧ ((4 * (D : Int) - c) * (st : Int)) ^ (2 : Int).toNat * m < n * (4 * (bo : Int)) ^ (2 : Int).toNat ∧ n * (4 * (bo : Int)) ^ (2 : Int).toNat < ((4 * (D : Int) + 2) * (st : Int)) ^ (2 : Int).toNat * m)

theorem near_facts {n m : Int} (hn : 0 < n) (hm : 0 < m) (h1 : intBits n ≤ 2040) (h2 : intBits m ≤ 1010) : ∃ D e pp qq st sb bo c, NearF n m D e pp qq st sb bo c := by
  have hs : Sg n m := .inl ⟨Int.le_of_lt hn, hm⟩
  obtain ⟨hlo, hhi⟩ := fsT_range hs (Int.ne_of_gt hn) h1 h2
  have a := fs_at hs
  have hx := fsF_eq n m
  rw [Nat.min_eq_right (Nat.le_of_lt hhi)] at hx
  generalize hT : fsT n m = T at *
  have hdec := decode_at (t := T) (by omega) hhi
  have hS := S_here (t := T) (by omega)
  have hSb := fun i hi => S_below (t := T) (i := i) hlo hi
  obtain ⟨i, hi⟩ : ∃ i, T = i + 1 := ⟨T - 1, by omega⟩
  replace hSb := hSb i hi
  have hex : 1 ≤ T / 2 ^ 52 := (Nat.le_div_iff_mul_le (by decide)).mpr (by omega)
  have hex2 : T / 2 ^ 52 < 2047 := (Nat.div_lt_iff_lt_mul (by decide)).mpr hhi
  have hpar : (2 ^ 52 + T % 2 ^ 52) % 2 = T % 2 := by omega
  have hD2 : 2 ^ 52 + T % 2 ^ 52 < 2 ^ 53 := by omega
  have hD1 : 2 ^ 52 ≤ 2 ^ 52 + T % 2 ^ 52 := by omega
  generalize hD : 2 ^ 52 + T % 2 ^ 52 = D at *
  obtain ⟨pp, qq, st, sb, bo, rd⟩ := read_of (e := ((T / 2 ^ 52 : Nat) : Int) - 1075) hD1 hD2 (by omega) (by omega)
  generalize hcn : (if D = 2 ^ 52 then 1 else 2) = cn at hSb
  have hc4 : cn ≤ 4 * D := by rw [← hcn]; split <;> omega
  obtain ⟨k, j, hst, hbo, hkj⟩ := rd.link
  have hl : st * 2 ^ 1074 = 2 ^ (T / 2 ^ 52 - 1) * bo := by
    rw [hst, hbo, ← Nat.pow_add, ← Nat.pow_add]
    congr 1
    omega
  have hK : 0 < 2 ^ 1074 := Nat.two_pow_pos _
  have hW : (2 : Nat) ^ 1075 = 2 * 2 ^ 1074 := by rw [Nat.pow_succ, Nat.mul_comm]
  have au := a.up
  have ad := a.dn i hi
  have aue := a.upE
  have ade := a.dnE i hi
  rw [hW] at au ad aue ade
  generalize (2 : Nat) ^ 1074 = K at *
  generalize (2 : Nat) ^ (T / 2 ^ 52 - 1) = P at *
  have quad : ∀ x : Nat, 2 * x * (2 * x) = 4 * (x * x) := fun x => by rw [Nat.mul_mul_mul_comm]
  have q4 : n.natAbs * (4 * K * (4 * K)) = 4 * (n.natAbs * (2 * K * (2 * K))) := by
    rw [show 4 * K = 2 * (2 * K) by omega, quad (2 * K), Nat.mul_left_comm]
  have mU : m.natAbs * ((4 * D + 2) * P * ((4 * D + 2) * P)) = 4 * (m.natAbs * (S T * S T)) := by
    rw [← hS, quad, Nat.mul_left_comm]
  have mL : m.natAbs * ((4 * D - cn) * P * ((4 * D - cn) * P)) = 4 * (m.natAbs * (S i * S i)) := by
    rw [← hSb, quad, Nat.mul_left_comm]
  have up := near_conv' (n := n.natAbs) hK hl (by rw [q4, mU]; exact Nat.mul_le_mul_left 4 au)
  have dn := near_conv (n := n.natAbs) hK hl (by rw [q4, mL]; exact Nat.mul_le_mul_left 4 ad)
  have upE : n.natAbs * (4 * bo * (4 * bo)) = (4 * D + 2) * st * ((4 * D + 2) * st) * m.natAbs → T % 2 = 0 := fun e => by
    have := near_convE hK rd.bop hl e
    rw [q4, mU] at this
    exact aue (by omega)
  have dnE : n.natAbs * (4 * bo * (4 * bo)) = (4 * D - cn) * st * ((4 * D - cn) * st) * m.natAbs → T % 2 = 0 := fun e => by
    have := near_convE hK rd.bop hl e
    rw [q4, mL] at this
    exact ade (by omega)
  have en : n = ((n.natAbs : Nat) : Int) := by omega
  have em : m = ((m.natAbs : Nat) : Int) := by omega
  have eMid : n * (4 * (bo : Int)) ^ (2 : Int).toNat = ((n.natAbs * (4 * bo * (4 * bo)) : Nat) : Int) := by
    rw [sq2, Int.natCast_mul, ← en, Int.natCast_mul, Int.natCast_mul]; rfl
  have eU : ((4 * (D : Int) + 2) * (st : Int)) ^ (2 : Int).toNat * m = (((4 * D + 2) * st * ((4 * D + 2) * st) * m.natAbs : Nat) : Int) := by
    rw [sq2, Int.natCast_mul, ← em, Int.natCast_mul, Int.natCast_mul, Int.natCast_add, Int.natCast_mul]; rfl
  have eL : ((4 * (D : Int) - (cn : Int)) * (st : Int)) ^ (2 : Int).toNat * m = (((4 * D - cn) * st * ((4 * D - cn) * st) * m.natAbs : Nat) : Int) := by
    rw [sq2, Int.natCast_mul, ← em, Int.natCast_mul, Int.natCast_mul, Int.natCast_sub hc4, Int.natCast_mul]; rfl
  refine ⟨D, _, pp, qq, st, sb, bo, (cn : Int), ⟨by rw [hx]; exact hdec, by rw [hx]; exact isInf_at hhi, hD1, hD2, rd, ?_, ?_⟩⟩
  · by_cases h : D = 2 ^ 52
    · rw [if_pos h] at hcn
      exact .inl ⟨by omega, by omega⟩
    · rw [if_neg h] at hcn
      exact .inr ⟨by omega, by omega⟩
  · rw [eMid, eU, eL]
    rcases Nat.mod_two_eq_zero_or_one D with h | h
    · exact .inl ⟨by omega, Int.ofNat_le.mpr dn, Int.ofNat_le.mpr up⟩
    · refine .inr ⟨by omega, Int.ofNat_lt.mpr (Nat.lt_of_le_of_ne dn fun e => ?_), Int.ofNat_lt.mpr (Nat.lt_of_le_of_ne up fun e => ?_)⟩
      · have := dnE e.symm; omega
      · have := upE e; omega
end
section
open PySem PySem.W PyProof.Rows
set_option Elab.async false
set_option exponentiation.threshold 5000
open PySem.Builtin.Int (intBits)
open Float64 (infMag)
structure Ok (n m : Int) : Prop where
  n0 : 0 ≤ n
  m0 : 0 < m
  nb : intBits n ≤ 2040
  mb : intBits m ≤ 1010
theorem Ok.sg {n m : Int} (h : Ok n m) : Sg n m := .inl ⟨h.n0, h.m0⟩
theorem Ok.fin {n m : Int} (h : Ok n m) : Float64.isInf (fsF n m) = false := by
  by_cases hz : n = 0
  · subst hz
    rw [fsF_eq]
    have : fsT 0 m = 0 := by
      have e0 : (fsP 0 m).1 = 0 := by
        unfold fsP
        split <;> simp [rtoN, show Float64.isqrt 0 = 0 from rfl]
      unfold fsT
      rw [e0]
      unfold Float64.roundUn
      simp
    rw [this]
    exact isInf_at (by decide)
  · obtain ⟨_, hhi⟩ := fsT_range h.sg hz h.nb h.mb
    rw [fsF_eq, Nat.min_eq_right (Nat.le_of_lt hhi)]
    exact isInf_at hhi

theorem bl_one : intBits 1 = 1 := by decide
theorem bl_two : intBits 2 = 2 := by decide
/-- the numbers that law 3 builds -/
structure L3 (k S2 kk k2 m sq n0 : Int) : Prop where
  kS : intBits k + intBits S2 ≤ 2 ^ 27
  kk2 : (intBits kk : Int) * 2 ≤ 2 ^ 27
  k2m : intBits k2 + intBits m ≤ 2 ^ 27
  o1 : Ok n0 m
  o2 : Ok (if 0 > sq - 1 then 0 else sq - 1) m
  o3 : Ok sq m
  o4 : Ok (sq + 1) m
theorem l3 {ax ay mr m k ax2 sh S2 kk k2 sq n0 : Int} (e1 : 0 ≤ ax)
    (e3 : ay % 2 ^ 1000 = mr) (e4 : 1 + mr = m) (e5 : ax % 2 ^ 54 = k) (e6 : ax2 % 400 = sh) (e7 : (2 : Int) ^ sh.toNat = S2) (e8 : k * S2 = kk) (e9 : kk ^ (2 : Int).toNat = k2) (e10 : k2 * m = sq) (e11 : ax % 2 ^ 2000 = n0) :
    L3 k S2 kk k2 m sq n0 := by
  have hmr0 : 0 ≤ mr := e3 ▸ Int.emod_nonneg _ (Int.ne_of_gt (two_pow_pos' 1000))
  have hmr1 : mr < 2 ^ 1000 := e3 ▸ Int.emod_lt_of_pos _ (two_pow_pos' 1000)
  have hk0 : 0 ≤ k := e5 ▸ Int.emod_nonneg _ (Int.ne_of_gt (two_pow_pos' 54))
  have hk1 : k < 2 ^ 54 := e5 ▸ Int.emod_lt_of_pos _ (two_pow_pos' 54)
  have hn0 : 0 ≤ n0 := e11 ▸ Int.emod_nonneg _ (Int.ne_of_gt (two_pow_pos' 2000))
  have hn1 : n0 < 2 ^ 2000 := e11 ▸ Int.emod_lt_of_pos _ (two_pow_pos' 2000)
  have bm := bl_of_lt hmr0 hmr1
  have bk := bl_of_lt hk0 hk1
  have bn := bl_of_lt hn0 hn1
  have hs : 0 ≤ sh ∧ sh < 400 := by omega
  have bS : intBits S2 = sh.toNat + 1 := by rw [← e7]; exact bl_pow2 _
  have hS : 0 < S2 := e7 ▸ two_pow_pos' _
  have bm' : intBits m ≤ 1001 := by
    have := bl_add 1 mr
    rw [bl_one, e4] at this
    omega
  have bkk : intBits kk ≤ 454 := by
    have := bl_mul k S2
    rw [e8] at this
    omega
  have hkk : 0 ≤ kk := e8 ▸ Int.mul_nonneg hk0 (Int.le_of_lt hS)
  have bk2 : intBits k2 ≤ 908 := by
    rw [← e9, sq2]
    have := bl_mul kk kk
    omega
  have hk2 : 0 ≤ k2 := by rw [← e9, sq2]; exact Int.mul_nonneg hkk hkk
  have hm0 : 0 < m := by omega
  have bsq : intBits sq ≤ 1909 := by
    have := bl_mul k2 m
    rw [e10] at this
    omega
  have hsq : 0 ≤ sq := e10 ▸ Int.mul_nonneg hk2 (Int.le_of_lt hm0)
  have b4 := bl_add sq 1
  rw [bl_one] at b4
  have b5 := bl_sub sq 1
  rw [bl_one] at b5
  refine ⟨by omega, by omega, by omega, ⟨hn0, hm0, by omega, by omega⟩, ?_, ⟨hsq, hm0, by omega, by omega⟩, ⟨by omega, hm0, by omega, by omega⟩⟩
  split
  · exact ⟨Int.le_refl _, hm0, by rw [bl_zero]; omega, by omega⟩
  · exact ⟨by omega, hm0, by omega, by omega⟩
end
section
open PySem PySem.W PyProof.Rows PySem.Calls PyProof.V PySem.Spec
set_option Elab.async false
open PySem.Builtin.Int (intBits)

/-- a turn's end: all that stood at its start stands, the frame is as J says -/
def TE (h₀ : Heap) (L : Addr) (J : (Str → Option Value) → Prop) (all : List (Addr × Obj)) (s₁ s₂ : Shared) : Prop :=
  ∃ h' tk m', s₂ = { s₁ with heap := h', toks := tk } ∧ Fr h₀ L h' m' ∧ News h₀ L h' all ∧ J m'
def TP (h₀ : Heap) (L : Addr) (J : (Str → Option Value) → Prop) (all : List (Addr × Obj)) (s₁ : Shared) (Q : Flow → Shared → Prop) (f : Flow) (s₂ : Shared) : Prop :=
  match f with
  | .ret v => Q (.ret v) s₂
  | .brk => Q .next s₂
  | _ => TE h₀ L J all s₁ s₂
theorem TP.next {h₀ : Heap} {L : Addr} {J : (Str → Option Value) → Prop} {all all' : List (Addr × Obj)} {s₁ : Shared} {Q : Flow → Shared → Prop} {h' : Heap} {tk : Nat} {m' : Str → Option Value}
    (F : Fr h₀ L h' m') (N : News h₀ L h' all') (hs : ∀ p ∈ all, p ∈ all') (hJ : J m') : TP h₀ L J all s₁ Q .next { s₁ with heap := h', toks := tk } :=
  ⟨h', tk, m', rfl, F, fun p hp => N p (hs p hp), hJ⟩

theorem knows {h₀ h : Heap} {L : Addr} {m : Str → Option Value} {x : Str} {v : Value} (F : Fr h₀ L h m) (hx : m x = some v) : Fr h₀ L h (fun y => if y = x then some v else m y) := by
  have e : (fun y => if y = x then some v else m y) = m := by
    funext y
    by_cases hy : y = x
    · rw [if_pos hy, hy, hx]
    · rw [if_neg hy]
  rw [e]; exact F
section
variable {prog : Program} {w : World} {A : Around} {E : Value → Shared → Prop} {s : Shared} {env : Env} {h₀ : Heap} {target : Expr} {body : List Stmt} {Q : Flow → Shared → Prop}

theorem turns_inv {I : Addr} {fp wr : List Addr} {n : Nat} {P Md : Nat → Value → Heap → Prop} {St : Nat → Heap → Prop} {m₀ : Str → Option Value} {news : List (Addr × Obj)} {hp : Heap} {tk0 : Nat}
    (W : KTurns prog w A target I fp wr n P Md St) (hL : env.locals ∉ fp) (hwr : ∀ b ∈ wr, h₀.get? b = none) (hnw : ∀ p ∈ news, p.1 ∉ wr) (hst : St 0 hp)
    (F : Fr h₀ env.locals hp m₀) (N : News h₀ env.locals hp news) (J : Nat → (Str → Option Value) → Prop) (h0 : J 0 m₀)
    (turn : ∀ i v m₁ h tk own, i < n → P i v h → J i m₁ → Fr h₀ env.locals h m₁ → News h₀ env.locals h (news ++ own) →
      wpAny (model prog w) A (assign target env v) (fun _ s₃ => wpAny (model prog w) A (execs body env) (TP h₀ env.locals (J (i + 1)) (news ++ own) { s with heap := h, toks := tk } Q) E s₃) E { s with heap := h, toks := tk })
    (done : ∀ m₁ h tk, J n m₁ → Fr h₀ env.locals h m₁ → News h₀ env.locals h news → Q .next { s with heap := h, toks := tk }) :
    TurnsAt prog w A h₀ env target body Q E (.ref I) { s with heap := hp, toks := tk0 } := by
  refine ⟨I, fp, wr, n, P, Md, St, m₀, news, (fun i m nx => nx = news ∧ J i m), rfl, W, hL, hwr, hnw, hst, F, N, ⟨rfl, h0⟩, ?_, ?_⟩
  · rintro i v m₁ news₁ h₁ tk₁ own hin hP ⟨rfl, hJ⟩ hoff hown hget hall hst₁ F₁ N₁
    have N₂ : News h₀ env.locals h₁ (news₁ ++ own) := fun p hp => N₁ p ((List.mem_append.mp hp).elim (fun h => List.mem_append.mpr (.inr h)) fun h => List.mem_append.mpr (.inl h))
    refine wpAny_mono (turn i v m₁ h₁ tk₁ own hin hP hJ F₁ N₂) (fun _ s₂ h₂ => wpAny_mono h₂ (fun f s₃ p => ?_) fun _ _ e => e) fun _ _ e => e
    have fin : TE h₀ env.locals (J (i + 1)) (news₁ ++ own) { s with heap := h₁, toks := tk₁ } s₃ → LoopStepU h₀ env.locals wr own (fun m nx => nx = news₁ ∧ J (i + 1) m) { s with heap := h₁, toks := tk₁ } .next s₃ := by
      rintro ⟨h', tk, m', e, F', N', hm⟩
      exact ⟨rfl, h', tk, m', news₁, e, F', fun p hp => N' p ((List.mem_append.mp hp).elim (fun h => List.mem_append.mpr (.inr h)) fun h => List.mem_append.mpr (.inl h)), hnw, rfl, hm⟩
    cases f with
    | ret v => exact .ret p
    | brk => exact .brk p
    | next => exact .next (fin p)
    | cont => exact .cont (fin p)
  · rintro h' tk m' news' F' N' _ ⟨rfl, hJ⟩
    exact done m' h' tk hJ F' N'

/-- over a list that the call has made, whatever the turns do but to what stands -/
theorem list_inv {ax : Addr} {lo : Obj} {vs : List Value} {n : Nat} {m₀ : Str → Option Value} {news : List (Addr × Obj)}
    (hh : A.handled = none) (F : Fr h₀ env.locals s.heap m₀) (N : News h₀ env.locals s.heap news) (hm : (ax, lo) ∈ news) (hc : lo.cls = .type "list") (hd : lo.data = .seq vs.toArray n)
    (J : Nat → (Str → Option Value) → Prop) (h0 : J 0 m₀)
    (turn : ∀ i v m₁ h tk own, vs[i]? = some v → J i m₁ → Fr h₀ env.locals h m₁ → News h₀ env.locals h (news ++ own) →
      wpAny (model prog w) A (assign target env v) (fun _ s₃ => wpAny (model prog w) A (execs body env) (TP h₀ env.locals (J (i + 1)) (news ++ own) { s with heap := h, toks := tk } Q) E s₃) E { s with heap := h, toks := tk })
    (done : ∀ m₁ h tk, J vs.length m₁ → Fr h₀ env.locals h m₁ → News h₀ env.locals h news → Q .next { s with heap := h, toks := tk }) :
    wpAny (model prog w) A (pyIter (.ref ax)) (fun it s₂ => TurnsAt prog w A h₀ env target body Q E it s₂) E s := by
  have hax := N _ hm
  have hl : s.heap.IsList ax vs.toArray := ⟨lo, hax.1, hc, n, hd⟩
  have hlt : ax < s.heap.objs.size := Heap.lt_size hax.1
  have hne : ax ≠ s.heap.objs.size := Nat.ne_of_lt hlt
  refine wpAny_pyIter_list hl ?_
  refine turns_inv (tk0 := s.toks) (s := s) (KTurns.ofWalks (Walks.list hh s.heap.objs.size ax hne vs.toArray) fun i v s Q E st q => letGo_listiter st.1 q) ?_ ?_ ?_ ?_ (F.push _) (fun p hp => ⟨Heap.get?_push_of_some _ (N p hp).1, (N p hp).2⟩) J h0 ?_ ?_
  · intro hI
    rcases List.mem_cons.mp hI with e | hI
    · exact absurd F.ns.lt (e ▸ Nat.lt_irrefl _)
    · exact hax.2.1 (List.mem_singleton.mp hI).symm
  · intro b hb
    rw [List.mem_singleton.mp hb]
    exact next_is_new F
  · intro p hp hI
    exact absurd (Heap.lt_size (N p hp).1) ((List.mem_singleton.mp hI) ▸ Nat.lt_irrefl _)
  · exact ⟨⟨_, Heap.get?_push_size _ rfl, rfl, rfl⟩, hl.at fun o e => Heap.get?_push_of_some _ e⟩
  · intro i v m₁ h tk own _ hP hJ F₁ N₁
    exact turn i v m₁ h tk own (by simpa using hP) hJ F₁ N₁
  · intro m₁ h tk hJ F₁ N₁
    have e : vs.toArray.size = vs.length := by simp
    rw [e] at hJ
    exact done m₁ h tk hJ F₁ N₁

/-- over a tuple that the call has made -/
theorem tup_inv {ax : Addr} {lo : Obj} {vs : List Value} {n : Nat} {m₀ : Str → Option Value} {news : List (Addr × Obj)}
    (hh : A.handled = none) (F : Fr h₀ env.locals s.heap m₀) (N : News h₀ env.locals s.heap news) (hm : (ax, lo) ∈ news) (hc : lo.cls = .type "tuple") (hd : lo.data = .seq vs.toArray n)
    (J : Nat → (Str → Option Value) → Prop) (h0 : J 0 m₀)
    (turn : ∀ i v m₁ h tk own, vs[i]? = some v → J i m₁ → Fr h₀ env.locals h m₁ → News h₀ env.locals h (news ++ own) →
      wpAny (model prog w) A (assign target env v) (fun _ s₃ => wpAny (model prog w) A (execs body env) (TP h₀ env.locals (J (i + 1)) (news ++ own) { s with heap := h, toks := tk } Q) E s₃) E { s with heap := h, toks := tk })
    (done : ∀ m₁ h tk, J vs.length m₁ → Fr h₀ env.locals h m₁ → News h₀ env.locals h news → Q .next { s with heap := h, toks := tk }) :
    wpAny (model prog w) A (pyIter (.ref ax)) (fun it s₂ => TurnsAt prog w A h₀ env target body Q E it s₂) E s := by
  have hax := N _ hm
  have hl : s.heap.IsTuple ax vs.toArray := ⟨lo, hax.1, hc, n, hd⟩
  have hlt : ax < s.heap.objs.size := Heap.lt_size hax.1
  have hne : ax ≠ s.heap.objs.size := Nat.ne_of_lt hlt
  refine wpAny_pyIter_tuple hl ?_
  refine turns_inv (tk0 := s.toks) (s := s) (KTurns.ofWalks (Walks.tuple hh s.heap.objs.size ax hne vs.toArray) fun i v s Q E st q => letGo_tupleiter st.1 q) ?_ ?_ ?_ ?_ (F.push _) (fun p hp => ⟨Heap.get?_push_of_some _ (N p hp).1, (N p hp).2⟩) J h0 ?_ ?_
  · intro hI
    rcases List.mem_cons.mp hI with e | hI
    · exact absurd F.ns.lt (e ▸ Nat.lt_irrefl _)
    · exact hax.2.1 (List.mem_singleton.mp hI).symm
  · intro b hb
    rw [List.mem_singleton.mp hb]
    exact next_is_new F
  · intro p hp hI
    exact absurd (Heap.lt_size (N p hp).1) ((List.mem_singleton.mp hI) ▸ Nat.lt_irrefl _)
  · exact ⟨⟨_, Heap.get?_push_size _ rfl, rfl, rfl⟩, hl.at fun o e => Heap.get?_push_of_some _ e⟩
  · intro i v m₁ h tk own _ hP hJ F₁ N₁
    exact turn i v m₁ h tk own (by simpa using hP) hJ F₁ N₁
  · intro m₁ h tk hJ F₁ N₁
    have e : vs.toArray.size = vs.length := by simp
    rw [e] at hJ
    exact done m₁ h tk hJ F₁ N₁

/-- over a range of small numbers -/
theorem range_inv {x : Str} {px : Pos} {r : Addr} {a₀ b₀ : Int} {t₀ u₀ v₀ : Tok} {n : Nat} {m₀ : Str → Option Value} {news : List (Addr × Obj)}
    (hh : A.handled = none) (hr : IsRange s.heap r a₀ b₀ 1 t₀ u₀ v₀) (hsmall : Builtin.Range.small a₀ b₀ 1 = true) (hn : Builtin.Range.rangeSize a₀ b₀ 1 = (n : Int)) (F : Fr h₀ env.locals s.heap m₀) (N : News h₀ env.locals s.heap news)
    (J : Nat → (Str → Option Value) → Prop) (h0 : J 0 m₀)
    (turn : ∀ (i : Nat) t m₁ h tk own, i < n → J i m₁ → Fr h₀ env.locals h m₁ → News h₀ env.locals h (news ++ own) →
      wpAny (model prog w) A (assign (.Name x px) env (.int (a₀ + (i : Int)) t)) (fun _ s₃ => wpAny (model prog w) A (execs body env) (TP h₀ env.locals (J (i + 1)) (news ++ own) { s with heap := h, toks := tk } Q) E s₃) E { s with heap := h, toks := tk })
    (done : ∀ m₁ h tk, J n m₁ → Fr h₀ env.locals h m₁ → News h₀ env.locals h news → Q .next { s with heap := h, toks := tk }) :
    wpAny (model prog w) A (pyIter (.ref r)) (fun it s₂ => TurnsAt prog w A h₀ env (.Name x px) body Q E it s₂) E s := by
  refine wpAny_pyIter_range hr hsmall ?_
  refine turns_inv (tk0 := s.toks) (s := s) (KTurns.ofWalks (Walks.range hh s.heap.objs.size a₀ 1 n) fun i v s Q E st q => wpAny_pure q) ?_ ?_ ?_ ?_ (F.push _) (fun p hp => ⟨Heap.get?_push_of_some _ (N p hp).1, (N p hp).2⟩) J h0 ?_ done
  · intro hm
    exact absurd F.ns.lt ((List.mem_singleton.mp hm) ▸ Nat.lt_irrefl _)
  · intro b hb
    rw [List.mem_singleton.mp hb]
    exact next_is_new F
  · intro p hp hI
    exact absurd (Heap.lt_size (N p hp).1) ((List.mem_singleton.mp hI) ▸ Nat.lt_irrefl _)
  · show IsRangeIter _ _ _ _ _
    rw [hn]; simpa using Heap.get?_push_size _ rfl
  · rintro i v m₁ h tk own hi ⟨t, rfl⟩ hJ F₁ N₁
    rw [Int.mul_one]
    exact turn i t m₁ h tk own hi hJ F₁ N₁

/-- over two lists of ints side by side -/
theorem zip_inv {elts : List Expr} {k : Nat} {pos : Pos} {l1 l2 : Addr} {lo1 lo2 : Obj} {xs ys : List Value} {as bs : List Int} {n1 n2 : Nat} {m₀ : Str → Option Value} {news : List (Addr × Obj)}
    (hh : A.handled = none) (F : Fr h₀ env.locals s.heap m₀) (N : News h₀ env.locals s.heap news) (hm1 : (l1, lo1) ∈ news) (hc1 : lo1.cls = .type "list") (hd1 : lo1.data = .seq xs.toArray n1) (hm2 : (l2, lo2) ∈ news) (hc2 : lo2.cls = .type "list") (hd2 : lo2.data = .seq ys.toArray n2)
    (hx : IntsAre xs as) (hy : IntsAre ys bs)
    (J : Nat → (Str → Option Value) → Prop) (h0 : J 0 m₀)
    (turn : ∀ (i : Nat) (a b : Int) ta tb T m₁ h tk own, as[i]? = some a → bs[i]? = some b → IsTup h T #[.int a ta, .int b tb] → J i m₁ → Fr h₀ env.locals h m₁ → News h₀ env.locals h (news ++ own) →
      wpAny (model prog w) A (assign (.Tuple elts k pos) env (.ref T)) (fun _ s₃ => wpAny (model prog w) A (execs body env) (TP h₀ env.locals (J (i + 1)) (news ++ own) { s with heap := h, toks := tk } Q) E s₃) E { s with heap := h, toks := tk })
    (done : ∀ m₁ h tk, J (min xs.length ys.length) m₁ → Fr h₀ env.locals h m₁ → News h₀ env.locals h news → Q .next { s with heap := h, toks := tk }) :
    wpAny (model prog w) A (call (.type "zip") [.ref l1, .ref l2]) (fun xv s₁ => wpAny (model prog w) A (pyIter xv) (fun it s₂ => TurnsAt prog w A h₀ env (.Tuple elts k pos) body Q E it s₂) E s₁) E s := by
  have hax1 := N _ hm1
  have hax2 := N _ hm2
  have hl1 : s.heap.IsList l1 xs.toArray := ⟨lo1, hax1.1, hc1, n1, hd1⟩
  have hl2 : s.heap.IsList l2 ys.toArray := ⟨lo2, hax2.1, hc2, n2, hd2⟩
  have hlt1 : l1 < s.heap.objs.size := Heap.lt_size hax1.1
  have hlt2 : l2 < s.heap.objs.size := Heap.lt_size hax2.1
  have hLs : env.locals < s.heap.objs.size := F.ns.lt
  have D : ZipApart (s.heap.objs.size + 4) (s.heap.objs.size + 2) (s.heap.objs.size + 3) s.heap.objs.size (s.heap.objs.size + 1) l1 l2 := ktu_apart _ _ _ hlt1 hlt2
  refine call_zip_2 hl1 hl2 fun h' hz hTI hTO hi1 hi2 hsz hk => ?_
  refine wpAny_pyIter_zip hz ?_
  refine turns_inv (tk0 := s.toks) (s := s) (KTurns.ofWalksU (WalksT.zip2 hh _ _ _ _ _ _ _ D xs.toArray ys.toArray).toU) ?_ ?_ ?_ ?_ (F.keeps hk) (N.grown hk) J h0 ?_ ?_
  · intro hI'
    have hb' : env.locals = s.heap.objs.size + 4 ∨ env.locals = s.heap.objs.size + 2 ∨ env.locals = s.heap.objs.size + 3 ∨ env.locals = s.heap.objs.size ∨ env.locals = s.heap.objs.size + 1 ∨ env.locals = l1 ∨ env.locals = l2 := by simpa using hI'
    have n1 := hax1.2.1
    have n2 := hax2.2.1
    rcases hb' with e | e | e | e | e | e | e
    · exact ktu_ne 4 hLs e
    · exact ktu_ne 2 hLs e
    · exact ktu_ne 3 hLs e
    · exact Nat.ne_of_lt hLs e
    · exact ktu_ne 1 hLs e
    · exact n1 e.symm
    · exact n2 e.symm
  · intro b hb
    have hb' : b = s.heap.objs.size + 4 ∨ b = s.heap.objs.size + 3 ∨ b = s.heap.objs.size ∨ b = s.heap.objs.size + 1 := by simpa using hb
    rcases hb' with rfl | rfl | rfl | rfl
    · exact ktu_new F (Nat.le_add_right _ _)
    · exact ktu_new F (Nat.le_add_right _ _)
    · exact ktu_new F (Nat.le_refl _)
    · exact ktu_new F (Nat.le_add_right _ _)
  · intro p hp hI'
    have hb' : p.1 = s.heap.objs.size + 4 ∨ p.1 = s.heap.objs.size + 3 ∨ p.1 = s.heap.objs.size ∨ p.1 = s.heap.objs.size + 1 := by simpa using hI'
    have hlp := Heap.lt_size (N p hp).1
    rcases hb' with e | e | e | e
    · exact ktu_ne 4 hlp e
    · exact ktu_ne 3 hlp e
    · exact Nat.ne_of_lt hlp e
    · exact ktu_ne 1 hlp e
  · exact ⟨hz, hTI, ⟨_, _, hTO⟩, hi1, hi2, hl1.at fun o e => hk l1 o e, hl2.at fun o e => hk l2 o e⟩
  · rintro i v m₁ h tk own hi ⟨T, vals, rfl, ⟨x, y, hx', hy', rfl⟩, hT⟩ hJ F₁ N₁
    have hi1' : i < xs.length := by have := hi; simp at this; omega
    have hi2' : i < ys.length := by have := hi; simp at this; omega
    have l1' := hx.length
    have l2' := hy.length
    obtain ⟨ta, ea⟩ := hx.get i as[i] (by simp [← l1', hi1'])
    obtain ⟨tb, eb⟩ := hy.get i bs[i] (by simp [← l2', hi2'])
    have ex : x = .int as[i] ta := by have : xs[i]? = some x := by simpa using hx'
                                      rw [ea] at this; exact (Option.some.inj this).symm
    have ey : y = .int bs[i] tb := by have : ys[i]? = some y := by simpa using hy'
                                      rw [eb] at this; exact (Option.some.inj this).symm
    subst ex ey
    exact turn i _ _ ta tb T m₁ h tk own (by simp [← l1', hi1']) (by simp [← l2', hi2']) hT hJ F₁ N₁
  · intro m₁ h tk hJ F₁ N₁
    exact done m₁ h tk (by simpa using hJ) F₁ N₁
end

/-- the names that stay as they were -/
def Keeps (keep : List Str) (m₀ m' : Str → Option Value) : Prop := keep.map m' = keep.map m₀
theorem Keeps.eq {keep : List Str} {m₀ m' : Str → Option Value} (h : Keeps keep m₀ m') : (fun y => if keep.contains y then m₀ y else m' y) = m' := by
  funext y
  by_cases hy : keep.contains y = true
  · rw [if_pos hy]
    have : ∀ z ∈ keep, m' z = m₀ z := by
      unfold Keeps at h
      exact fun z hz => List.map_inj_left.mp h z hz
    exact (this y (by simpa using hy)).symm
  · rw [if_neg hy]
section
variable {prog : Program} {w : World} {A : Around} {E : Value → Shared → Prop} {s : Shared} {env : Env} {h₀ : Heap} {target : Expr} {body : List Stmt} {Q : Flow → Shared → Prop}
theorem range_keep {x : Str} {px : Pos} {r : Addr} {a₀ b₀ : Int} {t₀ u₀ v₀ : Tok} {n : Nat} {m₀ : Str → Option Value} {news : List (Addr × Obj)} (keep : List Str)
    (hh : A.handled = none) (hr : IsRange s.heap r a₀ b₀ 1 t₀ u₀ v₀) (hsmall : Builtin.Range.small a₀ b₀ 1 = true) (hn : Builtin.Range.rangeSize a₀ b₀ 1 = (n : Int)) (F : Fr h₀ env.locals s.heap m₀) (N : News h₀ env.locals s.heap news)
    (turn : ∀ (i : Nat) t (m₁ : Str → Option Value) h tk own, i < n → Fr h₀ env.locals h (fun y => if keep.contains y then m₀ y else m₁ y) → News h₀ env.locals h (news ++ own) →
      wpAny (model prog w) A (assign (.Name x px) env (.int (a₀ + (i : Int)) t)) (fun _ s₃ => wpAny (model prog w) A (execs body env) (TP h₀ env.locals (Keeps keep m₀) (news ++ own) { s with heap := h, toks := tk } Q) E s₃) E { s with heap := h, toks := tk })
    (done : ∀ (m₁ : Str → Option Value) h tk, Fr h₀ env.locals h (fun y => if keep.contains y then m₀ y else m₁ y) → News h₀ env.locals h news → Q .next { s with heap := h, toks := tk }) :
    wpAny (model prog w) A (pyIter (.ref r)) (fun it s₂ => TurnsAt prog w A h₀ env (.Name x px) body Q E it s₂) E s :=
  range_inv hh hr hsmall hn F N (fun _ => Keeps keep m₀) rfl (fun i t m₁ h tk own hi hJ F₁ N₁ => turn i t m₁ h tk own hi (by rw [hJ.eq]; exact F₁) N₁)
    (fun m₁ h tk hJ F₁ N₁ => done m₁ h tk (by rw [hJ.eq]; exact F₁) N₁)
theorem list_keep {ax : Addr} {lo : Obj} {vs : List Value} {n : Nat} {m₀ : Str → Option Value} {news : List (Addr × Obj)} (keep : List Str)
    (hh : A.handled = none) (F : Fr h₀ env.locals s.heap m₀) (N : News h₀ env.locals s.heap news) (hm : (ax, lo) ∈ news) (hc : lo.cls = .type "list") (hd : lo.data = .seq vs.toArray n)
    (turn : ∀ (i : Nat) v (m₁ : Str → Option Value) h tk own, vs[i]? = some v → Fr h₀ env.locals h (fun y => if keep.contains y then m₀ y else m₁ y) → News h₀ env.locals h (news ++ own) →
      wpAny (model prog w) A (assign target env v) (fun _ s₃ => wpAny (model prog w) A (execs body env) (TP h₀ env.locals (Keeps keep m₀) (news ++ own) { s with heap := h, toks := tk } Q) E s₃) E { s with heap := h, toks := tk })
    (done : ∀ (m₁ : Str → Option Value) h tk, Fr h₀ env.locals h (fun y => if keep.contains y then m₀ y else m₁ y) → News h₀ env.locals h news → Q .next { s with heap := h, toks := tk }) :
    wpAny (model prog w) A (pyIter (.ref ax)) (fun it s₂ => TurnsAt prog w A h₀ env target body Q E it s₂) E s :=
  list_inv hh F N hm hc hd (fun _ => Keeps keep m₀) rfl (fun i v m₁ h tk own hv hJ F₁ N₁ => turn i v m₁ h tk own hv (by rw [hJ.eq]; exact F₁) N₁)
    (fun m₁ h tk hJ F₁ N₁ => done m₁ h tk (by rw [hJ.eq]; exact F₁) N₁)
theorem tup_keep {ax : Addr} {lo : Obj} {vs : List Value} {n : Nat} {m₀ : Str → Option Value} {news : List (Addr × Obj)} (keep : List Str)
    (hh : A.handled = none) (F : Fr h₀ env.locals s.heap m₀) (N : News h₀ env.locals s.heap news) (hm : (ax, lo) ∈ news) (hc : lo.cls = .type "tuple") (hd : lo.data = .seq vs.toArray n)
    (turn : ∀ (i : Nat) v (m₁ : Str → Option Value) h tk own, vs[i]? = some v → Fr h₀ env.locals h (fun y => if keep.contains y then m₀ y else m₁ y) → News h₀ env.locals h (news ++ own) →
      wpAny (model prog w) A (assign target env v) (fun _ s₃ => wpAny (model prog w) A (execs body env) (TP h₀ env.locals (Keeps keep m₀) (news ++ own) { s with heap := h, toks := tk } Q) E s₃) E { s with heap := h, toks := tk })
    (done : ∀ (m₁ : Str → Option Value) h tk, Fr h₀ env.locals h (fun y => if keep.contains y then m₀ y else m₁ y) → News h₀ env.locals h news → Q .next { s with heap := h, toks := tk }) :
    wpAny (model prog w) A (pyIter (.ref ax)) (fun it s₂ => TurnsAt prog w A h₀ env target body Q E it s₂) E s :=
  tup_inv hh F N hm hc hd (fun _ => Keeps keep m₀) rfl (fun i v m₁ h tk own hv hJ F₁ N₁ => turn i v m₁ h tk own hv (by rw [hJ.eq]; exact F₁) N₁)
    (fun m₁ h tk hJ F₁ N₁ => done m₁ h tk (by rw [hJ.eq]; exact F₁) N₁)

/-- an item of a list of ints at a place that is told -/
theorem item_at {value slice : Expr} {l : Addr} {vs : List Value} {ns : List Int} {k c : Int} {u : Tok} {Q : Value → Shared → Prop} (hl : s.heap.IsList l vs.toArray) (hi : IntsAre vs ns) (h0 : 0 ≤ k) (hk : k < 2 ^ 63) (hc : ns[k.toNat]? = some c)
    (h : ∀ t, Q (.int c t) s) (hs : subscripted slice false (.ref l) (.int k u) = operate [.ref l, .int k u] (getItem (.ref l) (.int k u)) := by with_unfolding_all rfl) :
    wpAny (model prog w) A (subscriptTail value slice (.ref l) (.int k u)) Q E s := by
  obtain ⟨t, ht⟩ := hi.get k.toNat c hc
  exact tail_any hl.typeIs slot_list_getitem.lookup (wpAny_getItem_list hl h0 hk (by simpa using ht) (h t)) hs
theorem item_made {value slice : Expr} {L l : Addr} {lo : Obj} {vs : List Value} {ns : List Int} {nn : Nat} {news : List (Addr × Obj)} {k c : Int} {u : Tok} {Q : Value → Shared → Prop} (N : News h₀ L s.heap news) (hm : (l, lo) ∈ news) (hc' : lo.cls = .type "list") (hd : lo.data = .seq vs.toArray nn) (hi : IntsAre vs ns) (h0 : 0 ≤ k) (hk : k < 2 ^ 63) (hc : ns[k.toNat]? = some c)
    (h : ∀ t, Q (.int c t) s) (hs : subscripted slice false (.ref l) (.int k u) = operate [.ref l, .int k u] (getItem (.ref l) (.int k u)) := by with_unfolding_all rfl) :
    wpAny (model prog w) A (subscriptTail value slice (.ref l) (.int k u)) Q E s :=
  item_at ⟨lo, (N _ hm).1, hc', nn, hd⟩ hi h0 hk hc h hs
theorem item_base {value slice : Expr} {L l : Addr} {m : Str → Option Value} {vs : List Value} {ns : List Int} {k c : Int} {u : Tok} {Q : Value → Shared → Prop} (F : Fr h₀ L s.heap m) (hl : h₀.IsList l vs.toArray) (hi : IntsAre vs ns) (h0 : 0 ≤ k) (hk : k < 2 ^ 63) (hc : ns[k.toNat]? = some c)
    (h : ∀ t, Q (.int c t) s) (hs : subscripted slice false (.ref l) (.int k u) = operate [.ref l, .int k u] (getItem (.ref l) (.int k u)) := by with_unfolding_all rfl) :
    wpAny (model prog w) A (subscriptTail value slice (.ref l) (.int k u)) Q E s :=
  item_at (hl.at fun o e => F.keep l o e) hi h0 hk hc h hs
end
end
section
open PySem PySem.W PyProof.Rows
set_option Elab.async false
open PySem.Builtin.Int (intBits)
/-- the script's ints are no heavier than the claim says -/
theorem cells_small {ns : List Int} (h : PyData.layable0 (.list (ns.map .int)) = true) : ∀ x ∈ ns, intBits x ≤ 1048576 :=
  fun _ hx => intBits_le_of_item hx h
theorem cell_get {ns : List Int} (h : ∀ x ∈ ns, intBits x ≤ 1048576) {i : Nat} (hi : i < ns.length) : ∃ c, ns[((i : Nat) : Int).toNat]? = some c ∧ intBits c ≤ 1048576 :=
  ⟨ns[i], by rw [Int.toNat_natCast]; simp [hi], h _ (List.getElem_mem hi)⟩
theorem cell_mod {ns : List Int} (h : ∀ x ∈ ns, intBits x ≤ 1048576) {i : Nat} (hi : i < ns.length) (j : Int) : ∃ k c, j % (ns.length : Int) = k ∧ 0 ≤ k ∧ k < (ns.length : Int) ∧ ns[k.toNat]? = some c ∧ intBits c ≤ 1048576 := by
  have h0 : 0 ≤ j % (ns.length : Int) := Int.emod_nonneg _ (by omega)
  have h1 : j % (ns.length : Int) < (ns.length : Int) := Int.emod_lt_of_pos _ (by omega)
  have h2 : (j % (ns.length : Int)).toNat < ns.length := by omega
  exact ⟨_, ns[(j % (ns.length : Int)).toNat], rfl, h0, h1, by simp [h2], h _ (List.getElem_mem h2)⟩
theorem abs_bl {c a : Int} (e : (if c < 0 then -c else c) = a) (h : intBits c ≤ 1048576) : 0 ≤ a ∧ intBits a ≤ 1048576 := by
  rw [← e]
  split
  · exact ⟨by omega, by rw [bl_neg]; exact h⟩
  · exact ⟨by omega, h⟩
end
section
open PySem PySem.W PyProof.Rows PySem.Calls PyProof.V PySem.Spec
set_option Elab.async false
open PySem.Builtin.Int (intBits)
section
variable {prog : Program} {w : World} {A : Around} {E : Value → Shared → Prop} {s : Shared} {env : Env} {h₀ : Heap} {target : Expr} {body : List Stmt} {Q : Flow → Shared → Prop}

/-- as turns_inv; the iterator stands written in the ledger -/
theorem turns_one {I : Addr} {fp wr : List Addr} {n : Nat} {P Md : Nat → Value → Heap → Prop} {St : Nat → Heap → Prop} {m₀ : Str → Option Value} {news : List (Addr × Obj)} {hp : Heap} {tk0 : Nat} (keep : List Str)
    (W : KTurns prog w A target I fp wr n P Md St) (hL : env.locals ∉ fp) (hwr : ∀ b ∈ wr, h₀.get? b = none) (hnw : ∀ p ∈ news, p.1 ∉ wr) (hst : St 0 hp)
    (hfp : ∀ b ∈ fp, b = I ∨ ∃ o, (b, o) ∈ news) (hI : I ∈ fp) (hI0 : h₀.get? I = none) (hobj : ∀ i h, St i h → ∃ o, h.get? I = some o) (hlt : ∀ p ∈ news, p.1 < I)
    (F : Fr h₀ env.locals hp m₀) (N : News h₀ env.locals hp news)
    (turn : ∀ (I : Addr) (o : Obj) i v (m₁ : Str → Option Value) h tk, (∀ p ∈ news, p.1 < I) → i < n → P i v h → Fr h₀ env.locals h (fun y => if keep.contains y then m₀ y else m₁ y) → News h₀ env.locals h (news ++ [(I, o)]) →
      wpAny (model prog w) A (assign target env v) (fun _ s₃ => wpAny (model prog w) A (execs body env) (TP h₀ env.locals (Keeps keep m₀) (news ++ [(I, o)]) { s with heap := h, toks := tk } Q) E s₃) E { s with heap := h, toks := tk })
    (done : ∀ (m₁ : Str → Option Value) h tk, Fr h₀ env.locals h (fun y => if keep.contains y then m₀ y else m₁ y) → News h₀ env.locals h news → Q .next { s with heap := h, toks := tk }) :
    TurnsAt prog w A h₀ env target body Q E (.ref I) { s with heap := hp, toks := tk0 } := by
  refine ⟨I, fp, wr, n, P, Md, St, m₀, news, (fun _ m nx => nx = news ∧ Keeps keep m₀ m), rfl, W, hL, hwr, hnw, hst, F, N, ⟨rfl, rfl⟩, ?_, ?_⟩
  · rintro i v m₁ news₁ h₁ tk₁ own hin hP ⟨rfl, hJ⟩ hoff hown hget hall hst₁ F₁ N₁
    obtain ⟨o, ho⟩ := hobj _ _ hst₁
    have N₂ : News h₀ env.locals h₁ (news₁ ++ [(I, o)]) := fun p hp => by
      rcases List.mem_append.mp hp with h | h
      · exact N₁ p (List.mem_append.mpr (.inr h))
      · rw [List.mem_singleton.mp h]
        exact N₁ _ (List.mem_append.mpr (.inl (hall I hI hI0 o ho)))
    refine wpAny_mono (turn I o i v m₁ h₁ tk₁ hlt hin hP (by rw [hJ.eq]; exact F₁) N₂) (fun _ s₂ h₂ => wpAny_mono h₂ (fun f s₃ p => ?_) fun _ _ e => e) fun _ _ e => e
    have fin : TE h₀ env.locals (Keeps keep m₀) (news₁ ++ [(I, o)]) { s with heap := h₁, toks := tk₁ } s₃ → LoopStepU h₀ env.locals wr own (fun m nx => nx = news₁ ∧ Keeps keep m₀ m) { s with heap := h₁, toks := tk₁ } .next s₃ := by
      rintro ⟨h', tk, m', e, F', N', hm⟩
      refine ⟨rfl, h', tk, m', news₁, e, F', fun p hp => ?_, hnw, rfl, hm⟩
      rcases List.mem_append.mp hp with h | h
      · have e1 : h₁.get? p.1 = some p.2 := hget p h
        rcases hfp p.1 (hown p h) with h2 | ⟨o', h2⟩
        · rw [h2, ho] at e1
          have : p = (I, o) := Prod.ext h2 (Option.some.inj e1).symm
          rw [this]; exact N' _ (List.mem_append.mpr (.inr (List.mem_singleton.mpr rfl)))
        · have e2 := (N₁ _ (List.mem_append.mpr (.inr h2))).1
          rw [show ((p.1, o') : Addr × Obj).1 = p.1 from rfl, e1] at e2
          have : p = (p.1, o') := Prod.ext rfl (Option.some.inj e2)
          rw [this]; exact N' _ (List.mem_append.mpr (.inl h2))
      · exact N' p (List.mem_append.mpr (.inl h))
    cases f with
    | ret v => exact .ret p
    | brk => exact .brk p
    | next => exact .next (fin p)
    | cont => exact .cont (fin p)
  · rintro h' tk m' news' F' N' _ ⟨rfl, hJ⟩
    exact done m' h' tk (by rw [hJ.eq]; exact F') N'

theorem range_led {x : Str} {px : Pos} {r : Addr} {a₀ b₀ : Int} {t₀ u₀ v₀ : Tok} {n : Nat} {m₀ : Str → Option Value} {news : List (Addr × Obj)} (keep : List Str)
    (hh : A.handled = none) (hr : IsRange s.heap r a₀ b₀ 1 t₀ u₀ v₀) (hsmall : Builtin.Range.small a₀ b₀ 1 = true) (hn : Builtin.Range.rangeSize a₀ b₀ 1 = (n : Int)) (F : Fr h₀ env.locals s.heap m₀) (N : News h₀ env.locals s.heap news)
    (turn : ∀ (I : Addr) (o : Obj) (i : Nat) t (m₁ : Str → Option Value) h tk, (∀ p ∈ news, p.1 < I) → i < n → Fr h₀ env.locals h (fun y => if keep.contains y then m₀ y else m₁ y) → News h₀ env.locals h (news ++ [(I, o)]) →
      wpAny (model prog w) A (assign (.Name x px) env (.int (a₀ + (i : Int)) t)) (fun _ s₃ => wpAny (model prog w) A (execs body env) (TP h₀ env.locals (Keeps keep m₀) (news ++ [(I, o)]) { s with heap := h, toks := tk } Q) E s₃) E { s with heap := h, toks := tk })
    (done : ∀ (m₁ : Str → Option Value) h tk, Fr h₀ env.locals h (fun y => if keep.contains y then m₀ y else m₁ y) → News h₀ env.locals h news → Q .next { s with heap := h, toks := tk }) :
    wpAny (model prog w) A (pyIter (.ref r)) (fun it s₂ => TurnsAt prog w A h₀ env (.Name x px) body Q E it s₂) E s := by
  refine wpAny_pyIter_range hr hsmall ?_
  refine turns_one (tk0 := s.toks) (s := s) keep (KTurns.ofWalks (Walks.range hh s.heap.objs.size a₀ 1 n) fun i v s Q E st q => wpAny_pure q) ?_ ?_ ?_ ?_ ?_ (List.mem_singleton.mpr rfl) (next_is_new F) (fun i h st => ⟨_, st⟩) (fun p hp => Heap.lt_size (N p hp).1) (F.push _) (fun p hp => ⟨Heap.get?_push_of_some _ (N p hp).1, (N p hp).2⟩) ?_ done
  · intro hm
    exact absurd F.ns.lt ((List.mem_singleton.mp hm) ▸ Nat.lt_irrefl _)
  · intro b hb
    rw [List.mem_singleton.mp hb]
    exact next_is_new F
  · intro p hp hI
    exact absurd (Heap.lt_size (N p hp).1) ((List.mem_singleton.mp hI) ▸ Nat.lt_irrefl _)
  · show IsRangeIter _ _ _ _ _
    rw [hn]; simpa using Heap.get?_push_size _ rfl
  · intro b hb
    exact .inl (List.mem_singleton.mp hb)
  · rintro I o i v m₁ h tk hI hi ⟨t, rfl⟩ F₁ N₁
    rw [Int.mul_one]
    exact turn I o i t m₁ h tk hI hi F₁ N₁
end
end
section
open PySem PySem.W PyProof.Rows PySem.Calls PyProof.V PySem.Spec
set_option Elab.async false
open PySem.Builtin.Int (intBits)

/-- names that a loop turns, laid over the rest of the frame -/
def look : List (Str × Value) → (Str → Option Value) → Str → Option Value
  | [], m, y => m y
  | (x, v) :: r, m, y => if y = x then some v else look r m y
theorem look_eq : ∀ {vs : List (Str × Value)} {m : Str → Option Value}, (∀ p ∈ vs, m p.1 = some p.2) → look vs m = m
  | [], _, _ => rfl
  | (x, v) :: r, m, h => by
    funext y
    show (if y = x then some v else look r m y) = m y
    rw [look_eq (vs := r) fun p hp => h p (List.mem_cons_of_mem _ hp)]
    by_cases hy : y = x
    · rw [if_pos hy, hy]; exact (h _ (List.mem_cons_self ..)).symm
    · rw [if_neg hy]
theorem Keeps.look {keep : List Str} {vs : List (Str × Value)} {m₀ m' : Str → Option Value} (h : Keeps keep m₀ m') (hv : ∀ p ∈ vs, m' p.1 = some p.2) : (fun y => if keep.contains y then m₀ y else look vs m' y) = m' := by
  rw [look_eq hv]; exact h.eq

/-- a turn's end, with a state -/
def SE {σ : Type} (h₀ : Heap) (L : Addr) (keep : List Str) (m₀ : Str → Option Value) (vars : σ → List (Str × Value)) (Led : σ → List (Addr × Obj)) (J : σ → Prop) (I : Addr) (all : List (Addr × Obj)) (s₁ s₂ : Shared) : Prop :=
  ∃ (c : σ) (h' : Heap) (tk : Nat) (m' : Str → Option Value), s₂ = { s₁ with heap := h', toks := tk } ∧ Fr h₀ L h' m' ∧ News h₀ L h' (Led c ++ all) ∧ (∀ p ∈ Led c, p.1 ≠ I) ∧ Keeps keep m₀ m' ∧ (∀ p ∈ vars c, m' p.1 = some p.2) ∧ J c
def SP {σ : Type} (h₀ : Heap) (L : Addr) (keep : List Str) (m₀ : Str → Option Value) (vars : σ → List (Str × Value)) (Led : σ → List (Addr × Obj)) (J : σ → Prop) (I : Addr) (all : List (Addr × Obj)) (s₁ : Shared) (Q : Flow → Shared → Prop) (f : Flow) (s₂ : Shared) : Prop :=
  match f with
  | .ret v => Q (.ret v) s₂
  | .brk => Q .next s₂
  | _ => SE h₀ L keep m₀ vars Led J I all s₁ s₂
theorem SP.next {σ : Type} {h₀ : Heap} {L : Addr} {keep : List Str} {m₀ : Str → Option Value} {vars : σ → List (Str × Value)} {Led : σ → List (Addr × Obj)} {J : σ → Prop} {I : Addr} {o : Obj} {all all' : List (Addr × Obj)} {s₁ : Shared} {Q : Flow → Shared → Prop} {h' : Heap} {tk : Nat} {m' : Str → Option Value}
    (c : σ) (F : Fr h₀ L h' m') (N : News h₀ L h' all') (hI : (I, o) ∈ all') (hl : ∀ p ∈ Led c, p ∈ all') (ha : ∀ p ∈ all, p ∈ all') (hc : ∀ p ∈ Led c, p.2.cls ≠ o.cls) (hk : Keeps keep m₀ m') (hv : ∀ p ∈ vars c, m' p.1 = some p.2) (hJ : J c) :
    SP h₀ L keep m₀ vars Led J I all s₁ Q .next { s₁ with heap := h', toks := tk } := by
  refine ⟨c, h', tk, m', rfl, F, fun p hp => ?_, fun p hp e => ?_, hk, hv, hJ⟩
  · rcases List.mem_append.mp hp with h | h
    · exact N p (hl p h)
    · exact N p (ha p h)
  · have e1 := (N p (hl p hp)).1
    have e2 := (N _ hI).1
    rw [e] at e1
    exact hc p hp (congrArg Obj.cls (Option.some.inj (e1.symm.trans e2)))

section
variable {prog : Program} {w : World} {A : Around} {E : Value → Shared → Prop} {s : Shared} {env : Env} {h₀ : Heap} {target : Expr} {body : List Stmt} {Q : Flow → Shared → Prop}

theorem turns_state {σ : Type} {I : Addr} {n : Nat} {P Md : Nat → Value → Heap → Prop} {St : Nat → Heap → Prop} {m₀ : Str → Option Value} {news : List (Addr × Obj)} {hp : Heap} {tk0 : Nat} (keep : List Str) (vars : σ → List (Str × Value)) (Led : σ → List (Addr × Obj)) (J : Nat → σ → Prop) (c₀ : σ)
    (W : KTurns prog w A target I [I] [I] n P Md St) (hL : env.locals ≠ I) (hI0 : h₀.get? I = none) (hnw : ∀ p ∈ news, p.1 ≠ I) (hl0 : ∀ p ∈ Led c₀, p ∈ news) (hst : St 0 hp)
    (hobj : ∀ i h, St i h → ∃ o, h.get? I = some o ∧ o.cls ≠ .type "list" ∧ o.cls ≠ .type "tuple")
    (F : Fr h₀ env.locals hp m₀) (N : News h₀ env.locals hp news) (hv0 : ∀ p ∈ vars c₀, m₀ p.1 = some p.2) (h0 : J 0 c₀)
    (turn : ∀ (I : Addr) (o : Obj) i v (c : σ) (m₁ : Str → Option Value) h tk, o.cls ≠ .type "list" → o.cls ≠ .type "tuple" → i < n → P i v h → J i c → Fr h₀ env.locals h (fun y => if keep.contains y then m₀ y else look (vars c) m₁ y) → News h₀ env.locals h (Led c ++ (news ++ [(I, o)])) →
      wpAny (model prog w) A (assign target env v) (fun _ s₃ => wpAny (model prog w) A (execs body env) (SP h₀ env.locals keep m₀ vars Led (J (i + 1)) I (news ++ [(I, o)]) { s with heap := h, toks := tk } Q) E s₃) E { s with heap := h, toks := tk })
    (done : ∀ (c : σ) (m₁ : Str → Option Value) h tk, J n c → Fr h₀ env.locals h (fun y => if keep.contains y then m₀ y else look (vars c) m₁ y) → News h₀ env.locals h (Led c ++ news) → Q .next { s with heap := h, toks := tk }) :
    TurnsAt prog w A h₀ env target body Q E (.ref I) { s with heap := hp, toks := tk0 } := by
  refine ⟨I, [I], [I], n, P, Md, St, m₀, news, (fun i m nx => ∃ c, (∀ p ∈ Led c ++ news, p ∈ nx) ∧ Keeps keep m₀ m ∧ (∀ p ∈ vars c, m p.1 = some p.2) ∧ J i c), rfl, W, ?_, ?_, ?_, hst, F, N, ⟨c₀, fun p hp => (List.mem_append.mp hp).elim (hl0 p) id, rfl, hv0, h0⟩, ?_, ?_⟩
  · intro h; exact hL (List.mem_singleton.mp h)
  · intro b hb; rw [List.mem_singleton.mp hb]; exact hI0
  · intro p hp h; exact hnw p hp (List.mem_singleton.mp h)
  · rintro i v m₁ nx h₁ tk₁ own hin hP ⟨c, hnx, hk, hv, hJ⟩ hoff hown hget hall hst₁ F₁ N₁
    obtain ⟨o, ho, hol, hot⟩ := hobj _ _ hst₁
    have N₂ : News h₀ env.locals h₁ (Led c ++ (news ++ [(I, o)])) := fun p hp => by
      rw [← List.append_assoc] at hp
      rcases List.mem_append.mp hp with h | h
      · exact N₁ p (List.mem_append.mpr (.inr (hnx p h)))
      · rw [List.mem_singleton.mp h]
        exact N₁ _ (List.mem_append.mpr (.inl (hall I (List.mem_singleton.mpr rfl) hI0 o ho)))
    refine wpAny_mono (turn I o i v c m₁ h₁ tk₁ hol hot hin hP hJ (by rw [hk.look hv]; exact F₁) N₂) (fun _ s₂ h₂ => wpAny_mono h₂ (fun f s₃ p => ?_) fun _ _ e => e) fun _ _ e => e
    have fin : SE h₀ env.locals keep m₀ vars Led (J (i + 1)) I (news ++ [(I, o)]) { s with heap := h₁, toks := tk₁ } s₃ → LoopStepU h₀ env.locals [I] own (fun m nx => ∃ c, (∀ p ∈ Led c ++ news, p ∈ nx) ∧ Keeps keep m₀ m ∧ (∀ p ∈ vars c, m p.1 = some p.2) ∧ J (i + 1) c) { s with heap := h₁, toks := tk₁ } .next s₃ := by
      rintro ⟨c', h', tk, m', e, F', N', hne, hk', hv', hJ'⟩
      refine ⟨rfl, h', tk, m', Led c' ++ news, e, F', fun p hp => ?_, fun p hp hI => ?_, c', fun _ hp => hp, hk', hv', hJ'⟩
      · rcases List.mem_append.mp hp with h | h
        · have e1 : h₁.get? p.1 = some p.2 := hget p h
          have e0 : p.1 = I := List.mem_singleton.mp (hown p h)
          rw [e0, ho] at e1
          have : p = (I, o) := Prod.ext e0 (Option.some.inj e1).symm
          rw [this]; exact N' _ (List.mem_append.mpr (.inr (List.mem_append.mpr (.inr (List.mem_singleton.mpr rfl)))))
        · rcases List.mem_append.mp h with h2 | h2
          · exact N' p (List.mem_append.mpr (.inl h2))
          · exact N' p (List.mem_append.mpr (.inr (List.mem_append.mpr (.inl h2))))
      · rcases List.mem_append.mp hp with h | h
        · exact hne p h (List.mem_singleton.mp hI)
        · exact hnw p h (List.mem_singleton.mp hI)
    cases f with
    | ret v => exact .ret p
    | brk => exact .brk p
    | next => exact .next (fin p)
    | cont => exact .cont (fin p)
  · rintro h' tk m' nx F' N' _ ⟨c, hnx, hk, hv, hJ⟩
    exact done c m' h' tk hJ (by rw [hk.look hv]; exact F') fun p hp => N' p (hnx p hp)

/-- over a range by ones, short or long -/
theorem range_state {σ : Type} {x : Str} {px : Pos} {r : Addr} {a₀ b₀ : Int} {t₀ u₀ v₀ : Tok} {n : Nat} {m₀ : Str → Option Value} {news : List (Addr × Obj)} (keep : List Str) (vars : σ → List (Str × Value)) (Led : σ → List (Addr × Obj)) (J : Nat → σ → Prop) (c₀ : σ)
    (hh : A.handled = none) (hr : IsRange s.heap r a₀ b₀ 1 t₀ u₀ v₀) (hn : Builtin.Range.rangeSize a₀ b₀ 1 = (n : Int)) (F : Fr h₀ env.locals s.heap m₀) (N : News h₀ env.locals s.heap news)
    (hl0 : ∀ p ∈ Led c₀, p ∈ news) (hv0 : ∀ p ∈ vars c₀, m₀ p.1 = some p.2) (h0 : J 0 c₀)
    (turn : ∀ (I : Addr) (o : Obj) (i : Nat) t (c : σ) (m₁ : Str → Option Value) h tk, o.cls ≠ .type "list" → o.cls ≠ .type "tuple" → i < n → J i c → Fr h₀ env.locals h (fun y => if keep.contains y then m₀ y else look (vars c) m₁ y) → News h₀ env.locals h (Led c ++ (news ++ [(I, o)])) →
      wpAny (model prog w) A (assign (.Name x px) env (.int (a₀ + (i : Int)) t)) (fun _ s₃ => wpAny (model prog w) A (execs body env) (SP h₀ env.locals keep m₀ vars Led (J (i + 1)) I (news ++ [(I, o)]) { s with heap := h, toks := tk } Q) E s₃) E { s with heap := h, toks := tk })
    (done : ∀ (c : σ) (m₁ : Str → Option Value) h tk, J n c → Fr h₀ env.locals h (fun y => if keep.contains y then m₀ y else look (vars c) m₁ y) → News h₀ env.locals h (Led c ++ news) → Q .next { s with heap := h, toks := tk }) :
    wpAny (model prog w) A (pyIter (.ref r)) (fun it s₂ => TurnsAt prog w A h₀ env (.Name x px) body Q E it s₂) E s := by
  have hturn : ∀ (I : Addr) (o : Obj) i v (c : σ) (m₁ : Str → Option Value) h tk, o.cls ≠ .type "list" → o.cls ≠ .type "tuple" → i < n → (∃ t, v = Value.int (a₀ + (i : Int) * 1) t) → J i c → Fr h₀ env.locals h (fun y => if keep.contains y then m₀ y else look (vars c) m₁ y) → News h₀ env.locals h (Led c ++ (news ++ [(I, o)])) →
      wpAny (model prog w) A (assign (.Name x px) env v) (fun _ s₃ => wpAny (model prog w) A (execs body env) (SP h₀ env.locals keep m₀ vars Led (J (i + 1)) I (news ++ [(I, o)]) { s with heap := h, toks := tk } Q) E s₃) E { s with heap := h, toks := tk } := by
    rintro I o i v c m₁ h tk ho1 ho2 hi ⟨t, rfl⟩ hJ F₁ N₁
    rw [Int.mul_one]
    exact turn I o i t c m₁ h tk ho1 ho2 hi hJ F₁ N₁
  have hL : env.locals ≠ s.heap.objs.size := fun e => absurd F.ns.lt (e ▸ Nat.lt_irrefl _)
  have hnw : ∀ p ∈ news, p.1 ≠ s.heap.objs.size := fun p hp => Nat.ne_of_lt (Heap.lt_size (N p hp).1)
  cases hsmall : Builtin.Range.small a₀ b₀ 1 with
  | true =>
    refine wpAny_pyIter_range hr hsmall ?_
    refine turns_state (tk0 := s.toks) (s := s) keep vars Led J c₀ (KTurns.ofWalks (Walks.range hh s.heap.objs.size a₀ 1 n) fun i v s Q E st q => wpAny_pure q) hL (next_is_new F) hnw hl0 ?_ (fun i h st => ⟨_, st, by simp, by simp⟩) (F.push _) (fun p hp => ⟨Heap.get?_push_of_some _ (N p hp).1, (N p hp).2⟩) hv0 h0 hturn done
    show IsRangeIter _ _ _ _ _
    rw [hn]; simpa using Heap.get?_push_size _ rfl
  | false =>
    refine wpAny_pyIter_longrange hr hsmall ?_
    refine turns_state (tk0 := s.toks) (s := s) keep vars Led J c₀ (KTurns.ofWalks (Walks.longrange hh s.heap.objs.size a₀ 1 n) fun i v s Q E st q => wpAny_pure q) hL (next_is_new F) hnw hl0 ?_ (fun i h st => ⟨_, st, by simp, by simp⟩) (F.push _) (fun p hp => ⟨Heap.get?_push_of_some _ (N p hp).1, (N p hp).2⟩) hv0 h0 hturn done
    show IsLongIter _ _ _ _ _
    rw [hn]; simpa using Heap.get?_push_size _ rfl

/-- a while, with a state and a measure -/
def WE {σ : Type} (h₀ : Heap) (L : Addr) (keep : List Str) (m₀ : Str → Option Value) (vars : σ → List (Str × Value)) (Led : σ → List (Addr × Obj)) (J : σ → Prop) (μ : σ → Nat) (k : Nat) (all : List (Addr × Obj)) (s₁ s₂ : Shared) : Prop :=
  ∃ (c : σ) (h' : Heap) (tk : Nat) (m' : Str → Option Value), s₂ = { s₁ with heap := h', toks := tk } ∧ Fr h₀ L h' m' ∧ News h₀ L h' (Led c ++ all) ∧ Keeps keep m₀ m' ∧ (∀ p ∈ vars c, m' p.1 = some p.2) ∧ J c ∧ μ c < k
def WP {σ : Type} (h₀ : Heap) (L : Addr) (keep : List Str) (m₀ : Str → Option Value) (vars : σ → List (Str × Value)) (Led : σ → List (Addr × Obj)) (J : σ → Prop) (μ : σ → Nat) (k : Nat) (all : List (Addr × Obj)) (s₁ : Shared) (Q : Flow → Shared → Prop) (f : Flow) (s₂ : Shared) : Prop :=
  match f with
  | .ret v => Q (.ret v) s₂
  | .brk => Q .next s₂
  | _ => WE h₀ L keep m₀ vars Led J μ k all s₁ s₂
theorem WP.next {σ : Type} {h₀ : Heap} {L : Addr} {keep : List Str} {m₀ : Str → Option Value} {vars : σ → List (Str × Value)} {Led : σ → List (Addr × Obj)} {J : σ → Prop} {μ : σ → Nat} {k : Nat} {all all' : List (Addr × Obj)} {s₁ : Shared} {Q : Flow → Shared → Prop} {h' : Heap} {tk : Nat} {m' : Str → Option Value}
    (c : σ) (F : Fr h₀ L h' m') (N : News h₀ L h' all') (hl : ∀ p ∈ Led c, p ∈ all') (ha : ∀ p ∈ all, p ∈ all') (hk : Keeps keep m₀ m') (hv : ∀ p ∈ vars c, m' p.1 = some p.2) (hJ : J c) (hm : μ c < k) :
    WP h₀ L keep m₀ vars Led J μ k all s₁ Q .next { s₁ with heap := h', toks := tk } :=
  ⟨c, h', tk, m', rfl, F, fun p hp => (List.mem_append.mp hp).elim (fun h => N p (hl p h)) (fun h => N p (ha p h)), hk, hv, hJ, hm⟩
theorem while_state {σ : Type} {test : Expr} {pos : Pos} {m₀ : Str → Option Value} {news : List (Addr × Obj)} (keep : List Str) (vars : σ → List (Str × Value)) (Led : σ → List (Addr × Obj)) (J : σ → Prop) (μ : σ → Nat) (c₀ : σ)
    (F : Fr h₀ env.locals s.heap m₀) (N : News h₀ env.locals s.heap news) (hl0 : ∀ p ∈ Led c₀, p ∈ news) (hv0 : ∀ p ∈ vars c₀, m₀ p.1 = some p.2) (h0 : J c₀)
    (turn : ∀ (c : σ) (m₁ : Str → Option Value) h tk, J c → Fr h₀ env.locals h (fun y => if keep.contains y then m₀ y else look (vars c) m₁ y) → News h₀ env.locals h (Led c ++ news) →
      wpAny (model prog w) A (isTrue test env (eval test env)) (fun b s₂ =>
        if b = true then wpAny (model prog w) A (execs body env) (WP h₀ env.locals keep m₀ vars Led J μ (μ c) news s Q) E s₂ else Q .next s₂) E { s with heap := h, toks := tk })
    (hE : PassesOwn (model prog w) A env E := by passes_own) :
    wpAny (model prog w) A (exec (.While test body [] pos) env) Q E s := by
  refine While_inv2 (fun n m nx => ∃ c, n = μ c ∧ (∀ p ∈ Led c ++ news, p ∈ nx) ∧ Keeps keep m₀ m ∧ (∀ p ∈ vars c, m p.1 = some p.2) ∧ J c) F N ⟨c₀, rfl, fun p hp => (List.mem_append.mp hp).elim (hl0 p) id, rfl, hv0, h0⟩ ?_ hE
  rintro n m₁ nx h tk F₁ N₁ ⟨c, rfl, hnx, hk, hv, hJ⟩
  refine wpAny_mono (turn c m₁ h tk hJ (by rw [hk.look hv]; exact F₁) fun p hp => N₁ p (hnx p hp)) (fun b s₂ p => ?_) fun _ _ x => x
  cases b with
  | false => simpa using p
  | true =>
    simp only [if_true] at p ⊢
    refine wpAny_mono p (fun f s₃ q => ?_) fun _ _ x => x
    have fin : WE h₀ env.locals keep m₀ vars Led J μ (μ c) news s s₃ → WhileStep2 h₀ env.locals s (fun n m nx => ∃ c, n = μ c ∧ (∀ p ∈ Led c ++ news, p ∈ nx) ∧ Keeps keep m₀ m ∧ (∀ p ∈ vars c, m p.1 = some p.2) ∧ J c) Q (μ c) .next s₃ := by
      rintro ⟨c', h', tk', m', rfl, F', N', hk', hv', hJ', hm'⟩
      exact ⟨h', tk', m', Led c' ++ news, μ c', rfl, F', N', hm', c', rfl, fun _ hp => hp, hk', hv', hJ'⟩
    cases f with
    | ret v => exact q
    | brk => exact q
    | next => exact fin q
    | cont => exact fin q
end
end
section
open PySem PySem.W PyProof.Rows
set_option Elab.async false
theorem knows3 {h₀ h : Heap} {L : Addr} {m : Str → Option Value} {x0 x1 x2 : Str} {v0 v1 v2 : Value} (F : Fr h₀ L h m) (h0 : m x0 = some v0) (h1 : m x1 = some v1) (h2 : m x2 = some v2) : ∃ m' : Str → Option Value, Fr h₀ L h (fun z => if z = x0 then some v0 else if z = x1 then some v1 else if z = x2 then some v2 else m' z) := by
  refine ⟨m, ?_⟩
  have e : look [(x0, v0), (x1, v1), (x2, v2)] m = m := look_eq (by intro p hp; simp only [List.mem_cons, List.not_mem_nil, or_false] at hp; rcases hp with rfl | rfl | rfl <;> assumption)
  rw [← e] at F; exact F

theorem knows4 {h₀ h : Heap} {L : Addr} {m : Str → Option Value} {x0 x1 x2 x3 : Str} {v0 v1 v2 v3 : Value} (F : Fr h₀ L h m) (h0 : m x0 = some v0) (h1 : m x1 = some v1) (h2 : m x2 = some v2) (h3 : m x3 = some v3) : ∃ m' : Str → Option Value, Fr h₀ L h (fun z => if z = x0 then some v0 else if z = x1 then some v1 else if z = x2 then some v2 else if z = x3 then some v3 else m' z) := by
  refine ⟨m, ?_⟩
  have e : look [(x0, v0), (x1, v1), (x2, v2), (x3, v3)] m = m := look_eq (by intro p hp; simp only [List.mem_cons, List.not_mem_nil, or_false] at hp; rcases hp with rfl | rfl | rfl | rfl <;> assumption)
  rw [← e] at F; exact F

theorem knows5 {h₀ h : Heap} {L : Addr} {m : Str → Option Value} {x0 x1 x2 x3 x4 : Str} {v0 v1 v2 v3 v4 : Value} (F : Fr h₀ L h m) (h0 : m x0 = some v0) (h1 : m x1 = some v1) (h2 : m x2 = some v2) (h3 : m x3 = some v3) (h4 : m x4 = some v4) : ∃ m' : Str → Option Value, Fr h₀ L h (fun z => if z = x0 then some v0 else if z = x1 then some v1 else if z = x2 then some v2 else if z = x3 then some v3 else if z = x4 then some v4 else m' z) := by
  refine ⟨m, ?_⟩
  have e : look [(x0, v0), (x1, v1), (x2, v2), (x3, v3), (x4, v4)] m = m := look_eq (by intro p hp; simp only [List.mem_cons, List.not_mem_nil, or_false] at hp; rcases hp with rfl | rfl | rfl | rfl | rfl <;> assumption)
  rw [← e] at F; exact F

theorem knows6 {h₀ h : Heap} {L : Addr} {m : Str → Option Value} {x0 x1 x2 x3 x4 x5 : Str} {v0 v1 v2 v3 v4 v5 : Value} (F : Fr h₀ L h m) (h0 : m x0 = some v0) (h1 : m x1 = some v1) (h2 : m x2 = some v2) (h3 : m x3 = some v3) (h4 : m x4 = some v4) (h5 : m x5 = some v5) : ∃ m' : Str → Option Value, Fr h₀ L h (fun z => if z = x0 then some v0 else if z = x1 then some v1 else if z = x2 then some v2 else if z = x3 then some v3 else if z = x4 then some v4 else if z = x5 then some v5 else m' z) := by
  refine ⟨m, ?_⟩
  have e : look [(x0, v0), (x1, v1), (x2, v2), (x3, v3), (x4, v4), (x5, v5)] m = m := look_eq (by intro p hp; simp only [List.mem_cons, List.not_mem_nil, or_false] at hp; rcases hp with rfl | rfl | rfl | rfl | rfl | rfl <;> assumption)
  rw [← e] at F; exact F

theorem knows7 {h₀ h : Heap} {L : Addr} {m : Str → Option Value} {x0 x1 x2 x3 x4 x5 x6 : Str} {v0 v1 v2 v3 v4 v5 v6 : Value} (F : Fr h₀ L h m) (h0 : m x0 = some v0) (h1 : m x1 = some v1) (h2 : m x2 = some v2) (h3 : m x3 = some v3) (h4 : m x4 = some v4) (h5 : m x5 = some v5) (h6 : m x6 = some v6) : ∃ m' : Str → Option Value, Fr h₀ L h (fun z => if z = x0 then some v0 else if z = x1 then some v1 else if z = x2 then some v2 else if z = x3 then some v3 else if z = x4 then some v4 else if z = x5 then some v5 else if z = x6 then some v6 else m' z) := by
  refine ⟨m, ?_⟩
  have e : look [(x0, v0), (x1, v1), (x2, v2), (x3, v3), (x4, v4), (x5, v5), (x6, v6)] m = m := look_eq (by intro p hp; simp only [List.mem_cons, List.not_mem_nil, or_false] at hp; rcases hp with rfl | rfl | rfl | rfl | rfl | rfl | rfl <;> assumption)
  rw [← e] at F; exact F

theorem knows8 {h₀ h : Heap} {L : Addr} {m : Str → Option Value} {x0 x1 x2 x3 x4 x5 x6 x7 : Str} {v0 v1 v2 v3 v4 v5 v6 v7 : Value} (F : Fr h₀ L h m) (h0 : m x0 = some v0) (h1 : m x1 = some v1) (h2 : m x2 = some v2) (h3 : m x3 = some v3) (h4 : m x4 = some v4) (h5 : m x5 = some v5) (h6 : m x6 = some v6) (h7 : m x7 = some v7) : ∃ m' : Str → Option Value, Fr h₀ L h (fun z => if z = x0 then some v0 else if z = x1 then some v1 else if z = x2 then some v2 else if z = x3 then some v3 else if z = x4 then some v4 else if z = x5 then some v5 else if z = x6 then some v6 else if z = x7 then some v7 else m' z) := by
  refine ⟨m, ?_⟩
  have e : look [(x0, v0), (x1, v1), (x2, v2), (x3, v3), (x4, v4), (x5, v5), (x6, v6), (x7, v7)] m = m := look_eq (by intro p hp; simp only [List.mem_cons, List.not_mem_nil, or_false] at hp; rcases hp with rfl | rfl | rfl | rfl | rfl | rfl | rfl | rfl <;> assumption)
  rw [← e] at F; exact F

theorem knows9 {h₀ h : Heap} {L : Addr} {m : Str → Option Value} {x0 x1 x2 x3 x4 x5 x6 x7 x8 : Str} {v0 v1 v2 v3 v4 v5 v6 v7 v8 : Value} (F : Fr h₀ L h m) (h0 : m x0 = some v0) (h1 : m x1 = some v1) (h2 : m x2 = some v2) (h3 : m x3 = some v3) (h4 : m x4 = some v4) (h5 : m x5 = some v5) (h6 : m x6 = some v6) (h7 : m x7 = some v7) (h8 : m x8 = some v8) : ∃ m' : Str → Option Value, Fr h₀ L h (fun z => if z = x0 then some v0 else if z = x1 then some v1 else if z = x2 then some v2 else if z = x3 then some v3 else if z = x4 then some v4 else if z = x5 then some v5 else if z = x6 then some v6 else if z = x7 then some v7 else if z = x8 then some v8 else m' z) := by
  refine ⟨m, ?_⟩
  have e : look [(x0, v0), (x1, v1), (x2, v2), (x3, v3), (x4, v4), (x5, v5), (x6, v6), (x7, v7), (x8, v8)] m = m := look_eq (by intro p hp; simp only [List.mem_cons, List.not_mem_nil, or_false] at hp; rcases hp with rfl | rfl | rfl | rfl | rfl | rfl | rfl | rfl | rfl <;> assumption)
  rw [← e] at F; exact F

theorem knows10 {h₀ h : Heap} {L : Addr} {m : Str → Option Value} {x0 x1 x2 x3 x4 x5 x6 x7 x8 x9 : Str} {v0 v1 v2 v3 v4 v5 v6 v7 v8 v9 : Value} (F : Fr h₀ L h m) (h0 : m x0 = some v0) (h1 : m x1 = some v1) (h2 : m x2 = some v2) (h3 : m x3 = some v3) (h4 : m x4 = some v4) (h5 : m x5 = some v5) (h6 : m x6 = some v6) (h7 : m x7 = some v7) (h8 : m x8 = some v8) (h9 : m x9 = some v9) : ∃ m' : Str → Option Value, Fr h₀ L h (fun z => if z = x0 then some v0 else if z = x1 then some v1 else if z = x2 then some v2 else if z = x3 then some v3 else if z = x4 then some v4 else if z = x5 then some v5 else if z = x6 then some v6 else if z = x7 then some v7 else if z = x8 then some v8 else if z = x9 then some v9 else m' z) := by
  refine ⟨m, ?_⟩
  have e : look [(x0, v0), (x1, v1), (x2, v2), (x3, v3), (x4, v4), (x5, v5), (x6, v6), (x7, v7), (x8, v8), (x9, v9)] m = m := look_eq (by intro p hp; simp only [List.mem_cons, List.not_mem_nil, or_false] at hp; rcases hp with rfl | rfl | rfl | rfl | rfl | rfl | rfl | rfl | rfl | rfl <;> assumption)
  rw [← e] at F; exact F

theorem knows11 {h₀ h : Heap} {L : Addr} {m : Str → Option Value} {x0 x1 x2 x3 x4 x5 x6 x7 x8 x9 x10 : Str} {v0 v1 v2 v3 v4 v5 v6 v7 v8 v9 v10 : Value} (F : Fr h₀ L h m) (h0 : m x0 = some v0) (h1 : m x1 = some v1) (h2 : m x2 = some v2) (h3 : m x3 = some v3) (h4 : m x4 = some v4) (h5 : m x5 = some v5) (h6 : m x6 = some v6) (h7 : m x7 = some v7) (h8 : m x8 = some v8) (h9 : m x9 = some v9) (h10 : m x10 = some v10) : ∃ m' : Str → Option Value, Fr h₀ L h (fun z => if z = x0 then some v0 else if z = x1 then some v1 else if z = x2 then some v2 else if z = x3 then some v3 else if z = x4 then some v4 else if z = x5 then some v5 else if z = x6 then some v6 else if z = x7 then some v7 else if z = x8 then some v8 else if z = x9 then some v9 else if z = x10 then some v10 else m' z) := by
  refine ⟨m, ?_⟩
  have e : look [(x0, v0), (x1, v1), (x2, v2), (x3, v3), (x4, v4), (x5, v5), (x6, v6), (x7, v7), (x8, v8), (x9, v9), (x10, v10)] m = m := look_eq (by intro p hp; simp only [List.mem_cons, List.not_mem_nil, or_false] at hp; rcases hp with rfl | rfl | rfl | rfl | rfl | rfl | rfl | rfl | rfl | rfl | rfl <;> assumption)
  rw [← e] at F; exact F
section
variable {prog : Program} {w : World} {A : Around} {E : Value → Shared → Prop} {s : Shared} {env : Env} {h₀ : Heap} {target : Expr} {body : List Stmt} {Q : Flow → Shared → Prop}
/-- over a range, one list of the frame's that the turns make anew -/
theorem range_found {x x0 : Str} {px : Pos} {r lf : Addr} {a₀ b₀ : Int} {t₀ u₀ v₀ : Tok} {n : Nat} {m : Str → Option Value} {news : List (Addr × Obj)} (keep : List Str) (J : Nat → List Value → Prop)
    (hh : A.handled = none) (hr : IsRange s.heap r a₀ b₀ 1 t₀ u₀ v₀) (hn : Builtin.Range.rangeSize a₀ b₀ 1 = (n : Int)) (F : Fr h₀ env.locals s.heap (fun y => if y = x0 then some (.ref lf) else m y)) (N : News h₀ env.locals s.heap ((lf, W.listOf #[] 0) :: news)) (h0 : J 0 [])
    (turn : ∀ (I : Addr) (o : Obj) (i : Nat) t (l : Addr) (vs : List Value) (m₁ : Str → Option Value) h tk, o.cls ≠ .type "list" → o.cls ≠ .type "tuple" → i < n → J i vs → Fr h₀ env.locals h (fun y => if keep.contains y then (if y = x0 then some (.ref lf) else m y) else if y = x0 then some (.ref l) else m₁ y) → News h₀ env.locals h ((l, W.listOf vs.toArray 0) :: ((lf, W.listOf #[] 0) :: news ++ [(I, o)])) →
      wpAny (model prog w) A (assign (.Name x px) env (.int (a₀ + (i : Int)) t)) (fun _ s₃ => wpAny (model prog w) A (execs body env) (SP h₀ env.locals keep (fun y => if y = x0 then some (.ref lf) else m y) (fun c : Addr × List Value => [(x0, .ref c.1)]) (fun c => [(c.1, W.listOf c.2.toArray 0)]) (fun c => J (i + 1) c.2) I ((lf, W.listOf #[] 0) :: news ++ [(I, o)]) { s with heap := h, toks := tk } Q) E s₃) E { s with heap := h, toks := tk })
    (done : ∀ (l : Addr) (vs : List Value) (m₁ : Str → Option Value) h tk, J n vs → Fr h₀ env.locals h (fun y => if keep.contains y then (if y = x0 then some (.ref lf) else m y) else if y = x0 then some (.ref l) else m₁ y) → News h₀ env.locals h ((l, W.listOf vs.toArray 0) :: (lf, W.listOf #[] 0) :: news) → Q .next { s with heap := h, toks := tk }) :
    wpAny (model prog w) A (pyIter (.ref r)) (fun it s₂ => TurnsAt prog w A h₀ env (.Name x px) body Q E it s₂) E s :=
  range_state (σ := Addr × List Value) keep (fun c => [(x0, .ref c.1)]) (fun c => [(c.1, W.listOf c.2.toArray 0)]) (fun i c => J i c.2) (lf, []) hh hr hn F N
    (fun p hp => by rw [List.mem_singleton.mp hp]; exact .head _) (fun p hp => by rw [List.mem_singleton.mp hp]; exact if_pos rfl) h0
    (fun I o i t c m₁ h tk h1 h2 hi hJ F₁ N₁ => turn I o i t c.1 c.2 m₁ h tk h1 h2 hi hJ F₁ N₁) (fun c m₁ h tk hJ F₁ N₁ => done c.1 c.2 m₁ h tk hJ F₁ N₁)
end
theorem SP.found {h₀ : Heap} {L : Addr} {keep : List Str} {m₀ : Str → Option Value} {x0 : Str} {J : Addr × List Value → Prop} {I : Addr} {o : Obj} {all all' : List (Addr × Obj)} {s₁ : Shared} {Q : Flow → Shared → Prop} {h' : Heap} {tk : Nat} {m' : Str → Option Value}
    {l : Addr} {vs : List Value} (F : Fr h₀ L h' m') (N : News h₀ L h' all') (hl : (l, W.listOf vs.toArray 0) ∈ all') (ha : ∀ p ∈ all, p ∈ all') (hI : (I, o) ∈ all) (hc : o.cls ≠ .type "list") (hk : Keeps keep m₀ m') (hv : m' x0 = some (.ref l)) (hJ : J (l, vs)) :
    SP h₀ L keep m₀ (fun c : Addr × List Value => [(x0, .ref c.1)]) (fun c => [(c.1, W.listOf c.2.toArray 0)]) J I all s₁ Q .next { s₁ with heap := h', toks := tk } :=
  SP.next (o := o) (l, vs) F N (ha _ hI) (fun p hp => by rw [List.mem_singleton.mp hp]; exact hl) ha (fun p hp => by rw [List.mem_singleton.mp hp]; exact fun e => hc e.symm) hk (fun p hp => by rw [List.mem_singleton.mp hp]; exact hv) hJ
/-- a turn of a loop that keeps no state -/
theorem SP.plain {h₀ : Heap} {L : Addr} {keep : List Str} {m₀ : Str → Option Value} {I : Addr} {all all' : List (Addr × Obj)} {s₁ : Shared} {Q : Flow → Shared → Prop} {h' : Heap} {tk : Nat} {m' : Str → Option Value}
    (F : Fr h₀ L h' m') (N : News h₀ L h' all') (ha : ∀ p ∈ all, p ∈ all') (hk : Keeps keep m₀ m') :
    SP h₀ L keep m₀ (fun _ : Unit => []) (fun _ => []) (fun _ => True) I all s₁ Q .next { s₁ with heap := h', toks := tk } :=
  by
  refine ⟨(), h', tk, m', rfl, F, fun p hp => N p (ha p hp), ?_, hk, ?_, trivial⟩ <;> (intro p hp; exact nomatch hp)
section
variable {prog : Program} {w : World} {A : Around} {E : Value → Shared → Prop} {s : Shared} {env : Env} {h₀ : Heap} {target : Expr} {body : List Stmt} {Q : Flow → Shared → Prop}
/-- over a range, short or long, that turns nothing -/
theorem range_plain {x : Str} {px : Pos} {r : Addr} {a₀ b₀ : Int} {t₀ u₀ v₀ : Tok} {n : Nat} {m₀ : Str → Option Value} {news : List (Addr × Obj)} (keep : List Str)
    (hh : A.handled = none) (hr : IsRange s.heap r a₀ b₀ 1 t₀ u₀ v₀) (hn : Builtin.Range.rangeSize a₀ b₀ 1 = (n : Int)) (F : Fr h₀ env.locals s.heap m₀) (N : News h₀ env.locals s.heap news)
    (turn : ∀ (I : Addr) (o : Obj) (i : Nat) t (m₁ : Str → Option Value) h tk, i < n → Fr h₀ env.locals h (fun y => if keep.contains y then m₀ y else m₁ y) → News h₀ env.locals h (news ++ [(I, o)]) →
      wpAny (model prog w) A (assign (.Name x px) env (.int (a₀ + (i : Int)) t)) (fun _ s₃ => wpAny (model prog w) A (execs body env) (SP h₀ env.locals keep m₀ (fun _ : Unit => []) (fun _ => []) (fun _ => True) I (news ++ [(I, o)]) { s with heap := h, toks := tk } Q) E s₃) E { s with heap := h, toks := tk })
    (done : ∀ (m₁ : Str → Option Value) h tk, Fr h₀ env.locals h (fun y => if keep.contains y then m₀ y else m₁ y) → News h₀ env.locals h news → Q .next { s with heap := h, toks := tk }) :
    wpAny (model prog w) A (pyIter (.ref r)) (fun it s₂ => TurnsAt prog w A h₀ env (.Name x px) body Q E it s₂) E s :=
  range_state (σ := Unit) keep (fun _ => []) (fun _ => []) (fun _ _ => True) () hh hr hn F N (fun _ hp => nomatch hp) (fun _ hp => nomatch hp) trivial
    (fun I o i t _ m₁ h tk _ _ hi _ F₁ N₁ => turn I o i t m₁ h tk hi F₁ N₁) (fun _ m₁ h tk _ F₁ N₁ => done m₁ h tk F₁ N₁)
end
end
section
open PySem PySem.W PyProof.Rows
set_option Elab.async false
open PySem.Builtin.Int (intBits)

theorem mul_lt_pos {a b m : Int} (h : a < b) (hm : 0 < m) : a * m < b * m := Int.mul_lt_mul_of_pos_right h hm
theorem isq_lt {a b : Int} (h : a * a < b * b) (h0 : 0 ≤ b) : a < b := by
  apply Int.lt_of_not_ge; intro h'
  have := Int.mul_le_mul h' h' h0 (by omega)
  omega
theorem isq_mono {a b : Int} (h : a ≤ b) (h0 : 0 ≤ a) : a * a ≤ b * b := Int.mul_le_mul h h h0 (by omega)
theorem isq_smono {a b : Int} (h : a < b) (h0 : 0 ≤ a) : a * a < b * b := by
  have := isq_mono (a := a + 1) (b := b) (by omega) (by omega)
  have e : (a + 1) * (a + 1) = a * a + 2 * a + 1 := by grind
  omega
theorem iroot {d : Int} (h : 0 ≤ d) : ∃ k, 0 ≤ k ∧ k * k ≤ d ∧ d < (k + 1) * (k + 1) := by
  obtain ⟨D, rfl⟩ := Int.eq_ofNat_of_zero_le h
  obtain ⟨h1, h2⟩ := Float64.isqrt_spec D
  exact ⟨((Float64.isqrt D : Nat) : Int), Int.natCast_nonneg _, by exact_mod_cast h1, by exact_mod_cast h2⟩

/-- the root rounded to odd, of whole numbers -/
def rtoI (n m : Int) : Int := ((rtoN n.natAbs m.natAbs : Nat) : Int)
theorem rtoI_odd {n m k : Int} (hk : 0 ≤ k) (hm : 0 < m) (h1 : (2 * k) * (2 * k) * m < n) (h2 : n < (2 * k + 2) * (2 * k + 2) * m) : rtoI n m = 2 * k + 1 := by
  have hn : 0 ≤ n := Int.le_trans (Int.mul_nonneg (Int.mul_nonneg (by omega) (by omega)) (Int.le_of_lt hm)) (Int.le_of_lt h1)
  obtain ⟨N, rfl⟩ := Int.eq_ofNat_of_zero_le hn
  obtain ⟨M, rfl⟩ := Int.eq_ofNat_of_zero_le (Int.le_of_lt hm)
  obtain ⟨K, rfl⟩ := Int.eq_ofNat_of_zero_le hk
  have hM : 0 < M := by omega
  have c1 := (rto_cmp (N := N) hM (y := 2 * K) (by omega)).2
  have c2 := (rto_cmp (N := N) hM (y := 2 * K + 2) (by omega)).1
  have e1 : (2 * K) * (2 * K) * M < N := by exact_mod_cast h1
  have e2 : N < (2 * K + 2) * (2 * K + 2) * M := by exact_mod_cast h2
  have r1 := c1.mpr e1
  have r2 := c2.mpr e2
  unfold rtoI
  rw [Int.natAbs_natCast, Int.natAbs_natCast]
  omega
theorem rtoI_even {m k : Int} (hk : 0 ≤ k) (hm : 0 < m) : rtoI ((2 * k) * (2 * k) * m) m = 2 * k := by
  obtain ⟨M, rfl⟩ := Int.eq_ofNat_of_zero_le (Int.le_of_lt hm)
  obtain ⟨K, rfl⟩ := Int.eq_ofNat_of_zero_le hk
  have hM : 0 < M := by omega
  have c := rto_cmp (N := (2 * K) * (2 * K) * M) hM (y := 2 * K) (by omega)
  unfold rtoI
  rw [show (2 * (K : Int)) * (2 * (K : Int)) * (M : Int) = (((2 * K) * (2 * K) * M : Nat) : Int) by push_cast; rfl, Int.natAbs_natCast, Int.natAbs_natCast]
  have r1 := fun h => Nat.lt_irrefl _ (c.1.mp h)
  have r2 := fun h => Nat.lt_irrefl _ (c.2.mp h)
  omega

/-- d is a square -/
def Sq (d : Int) : Prop := ∃ b : Int, 0 ≤ b ∧ b * b = d
theorem sq_or {d : Int} (h : 0 ≤ d) : (∃ b, 0 ≤ b ∧ b * b = d) ∨ ∃ k, 0 ≤ k ∧ k * k < d ∧ d < (k + 1) * (k + 1) := by
  obtain ⟨k, h0, h1, h2⟩ := iroot h
  by_cases he : k * k = d
  · exact .inl ⟨k, h0, he⟩
  · exact .inr ⟨k, h0, by omega, h2⟩
theorem not_sq {d k : Int} (h0 : 0 ≤ k) (h1 : k * k < d) (h2 : d < (k + 1) * (k + 1)) : ∀ b, b * b ≠ d := by
  intro b hb
  have hb' : ∃ c, 0 ≤ c ∧ c * c = d := by
    rcases Int.le_total 0 b with h | h
    · exact ⟨b, h, hb⟩
    · exact ⟨-b, by omega, by rw [← hb]; grind⟩
  obtain ⟨c, hc, rfl⟩ := hb'
  have := isq_lt h1 hc
  have := isq_lt h2 (by omega)
  omega

/-- four times a square, or not -/
theorem rto4_sq {b t : Int} (hb : 0 ≤ b) (ht : 0 < t) : rtoI (4 * (b * b) * t) t = 2 * b := by
  rw [show 4 * (b * b) * t = (2 * b) * (2 * b) * t by grind]
  exact rtoI_even hb ht
theorem rto4_up {b t p : Int} (hb : 0 ≤ b) (h0 : 0 < p) (h1 : p < t) : rtoI (4 * (b * b) * t + p) t = 2 * b + 1 := by
  refine rtoI_odd hb (by omega) ?_ ?_
  · rw [show (2 * b) * (2 * b) * t = 4 * (b * b) * t by grind]; omega
  · rw [show (2 * b + 2) * (2 * b + 2) * t = 4 * (b * b) * t + 4 * t + 8 * (b * t) by grind]
    have := Int.mul_nonneg hb (show 0 ≤ t by omega)
    omega
theorem rto4_down {b t p : Int} (hb : 0 < b) (h0 : 0 < p) (h1 : p < t) : rtoI (4 * (b * b) * t - p) t = 2 * b - 1 := by
  rw [show 2 * b - 1 = 2 * (b - 1) + 1 by omega]
  refine rtoI_odd (by omega) (by omega) ?_ ?_
  · rw [show 4 * (b * b) * t = (2 * (b - 1)) * (2 * (b - 1)) * t + 8 * ((b - 1) * t) + 4 * t by grind]
    have := Int.mul_nonneg (show 0 ≤ b - 1 by omega) (show 0 ≤ t by omega)
    omega
  · rw [show (2 * (b - 1) + 2) * (2 * (b - 1) + 2) * t = 4 * (b * b) * t by grind]; omega
theorem rto4_non {d k t p : Int} (hk : 0 ≤ k) (ht : 0 < t) (h1 : k * k < d) (h2 : d < (k + 1) * (k + 1)) (p1 : -t < p) (p2 : p < t) : rtoI (4 * d * t + p) t = 2 * k + 1 := by
  have q1 := Int.mul_le_mul_of_nonneg_right (show k * k + 1 ≤ d by omega) (Int.le_of_lt ht)
  have q2 := Int.mul_le_mul_of_nonneg_right (show d + 1 ≤ (k + 1) * (k + 1) by omega) (Int.le_of_lt ht)
  have e1 : 4 * d * t = 4 * (d * t) := by grind
  refine rtoI_odd hk ht ?_ ?_
  · rw [show (2 * k) * (2 * k) * t = 4 * (k * k * t) by grind]
    rw [Int.add_mul] at q1
    omega
  · rw [show (2 * k + 2) * (2 * k + 2) * t = 4 * ((k + 1) * (k + 1) * t) by grind]
    rw [Int.add_mul d] at q2
    omega

/-- the whole root rounded up -/
theorem begin_of {N t : Int} (hN : 0 < N) (ht : 0 < t) : ∃ b, (rtoI (4 * N * t) t + 1) / 2 = b ∧ 1 ≤ b ∧ (b - 1) * (b - 1) < N ∧ N ≤ b * b := by
  rcases sq_or (Int.le_of_lt hN) with ⟨b, hb, e⟩ | ⟨k, hk, h1, h2⟩
  · refine ⟨b, ?_, ?_, ?_, by omega⟩
    · rw [← e, rto4_sq hb ht]; omega
    · rcases Int.lt_or_eq_of_le hb with h | h
      · exact h
      · rw [← h] at e; omega
    · rcases Int.lt_or_eq_of_le hb with h | h
      · have := isq_smono (a := b - 1) (b := b) (by omega) (by omega)
        omega
      · rw [← h] at e; omega
  · refine ⟨k + 1, ?_, by omega, ?_, by omega⟩
    · have := rto4_non (p := 0) hk ht h1 h2 (by omega) (by omega)
      rw [Int.add_zero] at this
      rw [this]; omega
    · rw [Int.add_sub_cancel]; exact h1

/-- what is due of a part p beside sq * t -/
def dueOf (tw p : Int) : Int := if tw % 2 = 1 then tw else tw + (if 0 < p then 1 else 0) - (if p < 0 then 1 else 0)
theorem part_ok {d t p : Int} (hd : 0 ≤ d) (p1 : -t < p) (p2 : p < t) (h0 : 0 ≤ 4 * d * t + p) : rtoI (4 * d * t + p) t = dueOf (rtoI (4 * d * t) t) p := by
  have ht : 0 < t := by omega
  unfold dueOf
  rcases sq_or hd with ⟨b, hb, e⟩ | ⟨k, hk, h1, h2⟩
  · rw [← e, rto4_sq hb ht, if_neg (by omega)]
    rcases Int.lt_trichotomy p 0 with h | h | h
    · rw [if_neg (by omega), if_pos h]
      have hb' : 0 < b := by
        rcases Int.lt_or_eq_of_le hb with h' | h'
        · exact h'
        · rw [← h'] at e; rw [← e] at h0; omega
      have := rto4_down hb' (p := -p) (t := t) (by omega) (by omega)
      rw [Int.sub_neg] at this
      rw [this]; omega
    · rw [h, Int.add_zero, rto4_sq hb ht]; simp
    · rw [if_pos h, if_neg (by omega), rto4_up hb h p2]; omega
  · have q := rto4_non (p := 0) hk ht h1 h2 (by omega) (by omega)
    rw [Int.add_zero] at q
    rw [q, rto4_non hk ht h1 h2 p1 p2, if_pos (by omega)]
theorem twice_even {d t : Int} (hd : 0 ≤ d) (ht : 0 < t) : (∃ b, 0 ≤ b ∧ b * b = d ∧ rtoI (4 * d * t) t = 2 * b) ∨ ((∀ b, b * b ≠ d) ∧ ∃ k, 0 ≤ k ∧ rtoI (4 * d * t) t = 2 * k + 1) := by
  rcases sq_or hd with ⟨b, hb, e⟩ | ⟨k, hk, h1, h2⟩
  · exact .inl ⟨b, hb, e, by rw [← e, rto4_sq hb ht]⟩
  · have q := rto4_non (p := 0) hk ht h1 h2 (by omega) (by omega)
    rw [Int.add_zero] at q
    exact .inr ⟨not_sq hk h1 h2, k, hk, q⟩

/-- the first a from b0 on for which a * a - N is a square -/
structure Found (N b0 f0 f1 : Int) : Prop where
  prod : f0 * f1 = N
  ab : ∃ a b, f0 = a - b ∧ f1 = a + b ∧ 0 ≤ b ∧ b0 ≤ a ∧ ∀ x, b0 ≤ x → x < a → ∀ y, y * y ≠ x * x - N
theorem Found.of {N b0 a b : Int} (hb : 0 ≤ b) (h : b * b = a * a - N) (h0 : b0 ≤ a) (hf : ∀ x, b0 ≤ x → x < a → ∀ y, y * y ≠ x * x - N) : Found N b0 (a - b) (a + b) :=
  ⟨by rw [show (a - b) * (a + b) = a * a - b * b by grind, h]; omega, a, b, rfl, rfl, hb, h0, hf⟩
theorem Found.pos {N b0 f0 f1 : Int} (h : Found N b0 f0 f1) (hN : 0 < N) (hb : 1 ≤ b0) : 0 < f0 ∧ f0 ≤ f1 := by
  obtain ⟨hp, a, b, h1, h2, h3, h4, _⟩ := h
  refine ⟨?_, by omega⟩
  apply Int.lt_of_not_ge
  intro h
  have := Int.mul_nonneg (show 0 ≤ -f0 by omega) (show 0 ≤ f1 by omega)
  rw [Int.neg_mul] at this
  omega
/-- no two factors lie nearer to each other -/
theorem Found.near {N b0 f0 f1 p : Int} (h : Found N b0 f0 f1) (hN : 0 < N) (hb : 1 ≤ b0) (hb0 : (b0 - 1) * (b0 - 1) < N) (hp : f0 < p) (hpp : p * p ≤ N) (hd : N % p = 0) : (p + N / p) % 2 = 1 := by
  obtain ⟨g0, _⟩ := h.pos hN hb
  obtain ⟨hq, a, b, h1, h2, h3, h4, h5⟩ := h
  have e : p * (N / p) = N := Int.mul_ediv_cancel' (Int.dvd_of_emod_eq_zero hd)
  generalize N / p = q at e ⊢
  rcases Int.emod_two_eq (p + q) with h | h
  · exfalso
    have hpq : p ≤ q := by
      refine Int.not_lt.mp fun h' => ?_
      have := Int.mul_lt_mul_of_pos_left h' (show 0 < p by omega)
      omega
    obtain ⟨x, hx⟩ : ∃ x, p + q = 2 * x := ⟨(p + q) / 2, by omega⟩
    obtain ⟨y, hy⟩ : ∃ y, q - p = 2 * y := ⟨(q - p) / 2, by omega⟩
    have e2 : 4 * (y * y) = 4 * (x * x - N) := by rw [← e]; grind
    have hxN : N ≤ x * x := by
      have : 0 ≤ y * y := by
        rcases Int.le_total 0 y with h | h
        · exact Int.mul_nonneg h h
        · exact Int.mul_nonneg_of_nonpos_of_nonpos h h
      omega
    have hx0 : b0 - 1 < x := isq_lt (Int.lt_of_lt_of_le hb0 hxN) (by omega)
    have hxa : x < a := by
      have e3 : (p - f0) * (q - f0) = f0 * (f0 + f1 - (p + q)) := by rw [← e] at hq; grind
      have e4 : 0 < (p - f0) * (q - f0) := Int.mul_pos (by omega) (by omega)
      rw [e3] at e4
      have : 0 < f0 + f1 - (p + q) := by
        apply Int.lt_of_not_ge
        intro h'
        have := Int.mul_nonpos_of_nonneg_of_nonpos (show 0 ≤ f0 by omega) (show f0 + f1 - (p + q) ≤ 0 by omega)
        omega
      omega
    exact h5 x (by omega) hxa y (by omega)
  · exact h
end
section
open PySem PySem.W PyProof.Rows
set_option Elab.async false
open PySem.Builtin.Int (intBits)

/-- a ratio that the root may be asked for -/
structure RtoOK (n m : Int) : Prop where
  hs : Sg n m
  hq : intBits (n.fdiv m) ≤ 13000
  hp : intBits m ≤ 9000 ∨ intBits n ≤ intBits m + 4000
  hm : intBits m ≤ 2 ^ 26
theorem RtoOK.of {n m : Int} (h0 : 0 ≤ n) (hm : 0 < m) (hn : intBits n ≤ 13000) (hb : intBits m ≤ 9000) : RtoOK n m :=
  ⟨.inl ⟨h0, hm⟩, by rw [Int.fdiv_eq_ediv_of_nonneg _ (Int.le_of_lt hm)]; exact Nat.le_trans (bl_div h0) hn, .inl hb, by omega⟩

/-- an item at an index from the start or from the end -/
def ItemAt (ns : List Int) (k c : Int) : Prop := (0 ≤ k ∧ k < 2 ^ 63 ∧ ns[k.toNat]? = some c) ∨ (k < 0 ∧ -(ns.length : Int) ≤ k ∧ -(2 ^ 63) ≤ k ∧ ns[(k + ns.length).toNat]? = some c)
theorem row_items {ns : List Int} (hp : ∀ x ∈ ns, 0 ≤ x) {i : Nat} (hi : i < ns.length) (h3 : 3 ≤ ns.length) (h4 : ns.length ≤ 1000) :
    ∃ k1 k2 c0 c1 c2, (i : Int) - 1 = k1 ∧ (i : Int) - 2 = k2 ∧ ItemAt ns (i : Int) c0 ∧ ItemAt ns k1 c1 ∧ ItemAt ns k2 c2 ∧ 0 ≤ c0 ∧ 0 ≤ c1 ∧ 0 ≤ c2 := by
  have key : ∀ k : Int, -2 ≤ k → k < (ns.length : Int) → ∃ c, ItemAt ns k c ∧ 0 ≤ c := by
    intro k h1 h2
    by_cases h0 : 0 ≤ k
    · have h : k.toNat < ns.length := by omega
      exact ⟨ns[k.toNat], .inl ⟨h0, by omega, by simp [h]⟩, hp _ (List.getElem_mem h)⟩
    · have h : (k + ns.length).toNat < ns.length := by omega
      exact ⟨ns[(k + ns.length).toNat], .inr ⟨by omega, by omega, by omega, by simp [h]⟩, hp _ (List.getElem_mem h)⟩
  obtain ⟨c0, a0, b0⟩ := key i (by omega) (by omega)
  obtain ⟨c1, a1, b1⟩ := key (i - 1) (by omega) (by omega)
  obtain ⟨c2, a2, b2⟩ := key (i - 2) (by omega) (by omega)
  exact ⟨_, _, c0, c1, c2, rfl, rfl, a0, a1, a2, b0, b1, b2⟩
theorem row_pos (ns : List Int) : ∀ x ∈ ns.map (fun k' : Int => if k' < 0 then -k' else k') ++ [0, 9, 2], 0 ≤ x := by
  intro x hx
  rcases List.mem_append.mp hx with h | h
  · obtain ⟨y, _, rfl⟩ := List.mem_map.mp h
    split <;> omega
  · simp at h; omega

structure UV (u v : Int) : Prop where
  u1 : 1 ≤ u
  uv : u ≤ v
  ev : (u + v) % 2 = 0
  bu : intBits u ≤ 2100
  bv : intBits v ≤ 2100
theorem bl10 : intBits 10 = 4 := by decide
theorem bl40 : intBits 40 = 6 := by decide
theorem bl4 : intBits 4 = 3 := by decide
theorem bl_2 : intBits 2 = 2 := by decide
theorem bl_1 : intBits 1 = 1 := by decide
theorem bl39 : intBits 39 = 6 := by decide
theorem pow_two (x : Int) : x ^ (2 : Int).toNat = x * x := by rw [show (2 : Int).toNat = 2 from rfl, Int.pow_succ, Int.pow_succ, Int.pow_zero, Int.one_mul]

theorem turn1 {Z Y c0 c1 c2 : Int} (hZ0 : 0 < Z) (hZ : Z < 2 ^ 1000) (hY0 : 0 < Y) (hY : Y < 2 ^ 400) (h0 : 0 ≤ c0) (_h1 : 0 ≤ c1) (_h2 : 0 ≤ c2) :
    ∃ x y z t xx w xw h near x1 w2 x2 n1 n2 : Int, c0 % Z = x ∧ c1 % Y = y ∧ c2 % Y = z ∧ 1 + z = t ∧ x * x = xx ∧ intBits x + intBits x ≤ 2 ^ 27 ∧ y % 40 = w ∧ (0 : Int) < 40 ∧ xx + w = xw ∧ xw / 2 = h ∧ h + 2 = near ∧
      1 + x = x1 ∧ 2 * w = w2 ∧ intBits 2 + intBits w ≤ 2 ^ 27 ∧ x1 + w2 = x2 ∧ near - x = n1 ∧ near + x = n2 ∧ UV x1 x2 ∧ UV n1 n2 ∧ 0 < t ∧ intBits t ≤ 402 ∧ 0 ≤ y ∧ intBits y ≤ 400 := by
  have x0 : 0 ≤ c0 % Z := Int.emod_nonneg _ (by omega)
  have xl : c0 % Z < 2 ^ 1000 := Int.lt_trans (Int.emod_lt_of_pos _ hZ0) hZ
  have y0 : 0 ≤ c1 % Y := Int.emod_nonneg _ (by omega)
  have yl : c1 % Y < 2 ^ 400 := Int.lt_trans (Int.emod_lt_of_pos _ hY0) hY
  have z0 : 0 ≤ c2 % Y := Int.emod_nonneg _ (by omega)
  have zl : c2 % Y < 2 ^ 400 := Int.lt_trans (Int.emod_lt_of_pos _ hY0) hY
  have bx := bl_of_lt x0 xl
  have bY := bl_of_lt y0 yl
  have bz := bl_of_lt z0 zl
  clear xl yl zl hZ hY
  generalize c0 % Z = x at *
  generalize c1 % Y = y at *
  generalize c2 % Y = z at *
  have w0 : 0 ≤ y % 40 := Int.emod_nonneg _ (by decide)
  have w1 : y % 40 < 40 := Int.emod_lt_of_pos _ (by decide)
  have bw : intBits (y % 40) ≤ 6 := bl_of_lt w0 (Int.lt_trans w1 (by decide))
  obtain ⟨w, ew⟩ : ∃ w, y % 40 = w := ⟨_, rfl⟩
  rw [ew] at w0 w1 bw
  have bxx := bl_mul x x
  have b1 := bl_add (x * x) w
  have b2 := bl_div (a := x * x + w) (b := 2) (by have := Int.mul_nonneg x0 x0; omega)
  have b3 := bl_add ((x * x + w) / 2) 2
  have b4 := bl_add 1 x
  have b5 := bl_mul 2 w
  have b6 := bl_add (1 + x) (2 * w)
  have b7 := bl_sub ((x * x + w) / 2 + 2) x
  have b8 := bl_add ((x * x + w) / 2 + 2) x
  have b9 := bl_add 1 z
  have i1 := bl_1
  have i2 := bl_2
  have hx : 2 * x ≤ x * x + 1 := by
    have : 0 ≤ (x - 1) * (x - 1) := by
      rcases Int.le_total 0 (x - 1) with h | h
      · exact Int.mul_nonneg h h
      · exact Int.mul_nonneg_of_nonpos_of_nonpos h h
    have e : (x - 1) * (x - 1) = x * x - 2 * x + 1 := by grind
    omega
  exact ⟨_, _, _, _, _, w, _, _, _, _, _, _, _, _, rfl, rfl, rfl, rfl, rfl, by omega, ew, by decide, rfl, rfl, rfl, rfl, rfl, by omega, rfl, rfl, rfl,
    ⟨by omega, by omega, by omega, by omega, by omega⟩, ⟨by omega, by omega, by omega, by omega, by omega⟩, by omega, by omega, y0, bY⟩

/-- what holds of a product from its root, rounded up, on -/
structure Pr (N b0 mid t : Int) : Prop where
  N0 : 0 < N
  b1 : 1 ≤ b0
  lo : (b0 - 1) * (b0 - 1) < N
  hi : N ≤ b0 * b0
  le : b0 ≤ mid
  sq : ∃ y, 0 ≤ y ∧ y * y = mid * mid - N
  bN : intBits N ≤ 4200
  bm : intBits mid ≤ 2101
  bb : intBits b0 ≤ 2101
  t0 : 0 < t
  tb : intBits t ≤ 402
theorem turn2 {u v t : Int} (h : UV u v) (t0 : 0 < t) (tb : intBits t ≤ 402) :
    ∃ N u4 u4v q r r1 b0 bm bms bs sm mid mid1 : Int, u * v = N ∧ intBits u + intBits v ≤ 2 ^ 27 ∧ 4 * u = u4 ∧ intBits 4 + intBits u ≤ 2 ^ 27 ∧ u4 * v = u4v ∧ intBits u4 + intBits v ≤ 2 ^ 27 ∧ u4v * t = q ∧ intBits u4v + intBits t ≤ 2 ^ 27 ∧
      RtoOK q t ∧ rtoI q t = r ∧ r + 1 = r1 ∧ r1 / 2 = b0 ∧ b0 - 1 = bm ∧ bm ^ (2 : Int).toNat = bms ∧ (intBits bm : Int) * 2 ≤ 2 ^ 27 ∧ b0 ^ (2 : Int).toNat = bs ∧ (intBits b0 : Int) * 2 ≤ 2 ^ 27 ∧ decide (bms < N) = true ∧ decide (N ≤ bs) = true ∧
      u + v = sm ∧ sm / 2 = mid ∧ mid + 1 = mid1 ∧ Pr N b0 mid t := by
  obtain ⟨u1, uv, ev, bu, bv⟩ := h
  have N0 : 0 < u * v := Int.mul_pos (by omega) (by omega)
  have i4 := bl4
  have i1 := bl_1
  have c1 := bl_mul u v
  have c2 := bl_mul 4 u
  have c3 := bl_mul (4 * u) v
  have c4 := bl_mul (4 * u * v) t
  have q0 : 0 < 4 * u * v * t := Int.mul_pos (by rw [Int.mul_assoc]; omega) t0
  obtain ⟨b0, e0, b1, lo, hi⟩ := begin_of N0 t0
  rw [← Int.mul_assoc] at e0
  obtain ⟨mid, em⟩ : ∃ mid, u + v = 2 * mid := ⟨(u + v) / 2, by omega⟩
  have e9 : (u + v) / 2 = mid := by omega
  obtain ⟨y, ey⟩ : ∃ y, v - u = 2 * y := ⟨(v - u) / 2, by omega⟩
  have e8 : y * y = mid * mid - u * v := by
    have e1 : u = mid - y := by omega
    have e2 : v = mid + y := by omega
    rw [e1, e2]; grind
  have e7 : 0 ≤ y * y := Int.mul_nonneg (by omega) (by omega)
  have hle : b0 ≤ mid := by
    have := isq_lt (a := b0 - 1) (b := mid) (by omega) (by omega)
    omega
  have bm : intBits mid ≤ 2101 := by
    have := bl_add u v
    have := bl_div (a := u + v) (b := 2) (by omega)
    rw [e9] at this
    omega
  have bb : intBits b0 ≤ 2101 := Nat.le_trans (bl_mono (by omega)) bm
  have b2 := bl_sub b0 1
  refine ⟨u * v, _, _, _, _, _, b0, _, _, _, _, mid, _, rfl, by omega, rfl, by omega, rfl, by omega, rfl, by omega, RtoOK.of (by omega) t0 (by omega) (by omega), rfl, rfl, e0, rfl, rfl, by omega, rfl, by omega, ?_, ?_, rfl, e9, rfl, N0, b1, lo, hi, hle, ⟨y, by omega, e8⟩, by omega, bm, bb, t0, tb⟩
  · rw [pow_two]; exact decide_eq_true lo
  · rw [pow_two]; exact decide_eq_true hi

/-- a part more or less above the stroke -/
def PartOK (sqt t tw p : Int) : Prop := ∃ sp d1 due, sqt + p = sp ∧ tw + (if decide (0 < p) = true then 1 else 0) = d1 ∧ d1 - (if decide (p < 0) = true then 1 else 0) = due ∧
  ((decide (0 ≤ sp) = false ∧ tw % 2 = 1) ∨ (decide (0 ≤ sp) = false ∧ tw % 2 = 0) ∨ (decide (0 ≤ sp) = true ∧ RtoOK sp t ∧ tw % 2 = 1 ∧ rtoI sp t = tw) ∨ (decide (0 ≤ sp) = true ∧ RtoOK sp t ∧ tw % 2 = 0 ∧ rtoI sp t = due))
theorem part_facts {d sqt t tw p : Int} (hd : 0 ≤ d) (p1 : -t < p) (p2 : p < t) (e : 4 * d * t = sqt) (et : rtoI sqt t = tw) (t0 : 0 < t) (tb : intBits t ≤ 402) (hs : intBits sqt ≤ 6000) (_h0 : 0 ≤ sqt) : PartOK sqt t tw p := by
  refine ⟨_, _, _, rfl, rfl, rfl, ?_⟩
  by_cases hp : 0 ≤ sqt + p
  · have bp : intBits p ≤ 402 := Nat.le_trans (bl_mono (by omega)) tb
    have b := bl_add sqt p
    have ok := RtoOK.of hp t0 (by omega) (by omega)
    subst e
    have := part_ok hd p1 p2 hp
    rw [this, et]
    unfold dueOf
    rcases Int.emod_two_eq tw with h | h
    · refine .inr (.inr (.inr ⟨decide_eq_true hp, ok, h, ?_⟩))
      rw [if_neg (by omega)]; simp
    · exact .inr (.inr (.inl ⟨decide_eq_true hp, ok, h, by rw [if_pos h]⟩))
  · rcases Int.emod_two_eq tw with h | h
    · exact .inr (.inl ⟨decide_eq_false hp, h⟩)
    · exact .inl ⟨decide_eq_false hp, h⟩

theorem turn3 {N b0 mid t y : Int} (h : Pr N b0 mid t) {i : Nat} (hi : i < (mid + 1 - b0).toNat) (y0 : 0 ≤ y) :
    ∃ a aa d sq sqt tw pt npt : Int, b0 + (i : Int) = a ∧ a * a = aa ∧ intBits a + intBits a ≤ 2 ^ 27 ∧ aa - N = d ∧ 4 * d = sq ∧ intBits 4 + intBits d ≤ 2 ^ 27 ∧ sq * t = sqt ∧ intBits sq + intBits t ≤ 2 ^ 27 ∧ RtoOK sqt t ∧ rtoI sqt t = tw ∧ y % t = pt ∧ -pt = npt ∧
      PartOK sqt t tw pt ∧ PartOK sqt t tw npt ∧
      ((tw % 2 = 0 ∧ ∃ b f0 f1, tw / 2 = b ∧ a - b = f0 ∧ a + b = f1 ∧ ((∀ x, b0 ≤ x → x < a → ∀ y, y * y ≠ x * x - N) → Found N b0 f0 f1)) ∨ (tw % 2 = 1 ∧ ∀ b, b * b ≠ a * a - N)) := by
  obtain ⟨N0, b1, lo, hi', le, _, bN, bm, bb, t0, tb⟩ := h
  have ha : b0 ≤ b0 + (i : Int) := by omega
  have ha2 : b0 + (i : Int) ≤ mid := by omega
  have ba : intBits (b0 + (i : Int)) ≤ 2101 := Nat.le_trans (bl_mono (by omega)) bm
  have hd : N ≤ (b0 + (i : Int)) * (b0 + (i : Int)) := Int.le_trans hi' (isq_mono ha (by omega))
  generalize b0 + (i : Int) = a at *
  have i4 := bl4
  have c1 := bl_mul a a
  have c2 := bl_sub (a * a) N
  have c3 := bl_mul 4 (a * a - N)
  have c4 := bl_mul (4 * (a * a - N)) t
  have s0 : 0 ≤ 4 * (a * a - N) * t := Int.mul_nonneg (by omega) (by omega)
  have p0 : 0 ≤ y % t := Int.emod_nonneg _ (by omega)
  have p1 : y % t < t := Int.emod_lt_of_pos _ t0
  refine ⟨a, _, _, _, _, _, _, _, rfl, rfl, by omega, rfl, rfl, by omega, rfl, by omega, RtoOK.of s0 t0 (by omega) (by omega), rfl, rfl, rfl,
    part_facts (d := a * a - N) (by omega) (by omega) p1 rfl rfl t0 tb (by omega) s0, part_facts (d := a * a - N) (by omega) (by omega) (by omega) rfl rfl t0 tb (by omega) s0, ?_⟩
  rcases twice_even (d := a * a - N) (t := t) (by omega) t0 with ⟨b, hb, e1, e2⟩ | ⟨h1, k, hk, e2⟩
  · rw [e2]
    exact .inl ⟨by omega, b, _, _, by omega, rfl, rfl, fun hf => Found.of hb e1 ha hf⟩
  · rw [e2]
    exact .inr ⟨by omega, h1⟩

theorem turn4 {N b0 mid t f0 f1 : Int} (h : Pr N b0 mid t) (hf : Found N b0 f0 f1) :
    ∃ f01 b39 b01 : Int, f0 * f1 = N ∧ intBits f0 + intBits f1 ≤ 2 ^ 27 ∧ (N != N) = false ∧ f0 + 1 = f01 ∧ b0 - 39 = b39 ∧ b0 + 1 = b01 ∧ 0 < f0 ∧ (f0 < f01) := by
  obtain ⟨g0, g1⟩ := hf.pos h.N0 h.b1
  have hN := h.bN
  have b1 : intBits f1 ≤ intBits N := by
    refine bl_mono ?_
    have := Int.mul_le_mul_of_nonneg_right (show 1 ≤ f0 by omega) (show 0 ≤ f1 by omega)
    have e := hf.prod
    omega
  have b2 : intBits f0 ≤ intBits f1 := bl_mono (by omega)
  exact ⟨_, _, _, hf.prod, by omega, by simp, rfl, rfl, rfl, g0, by omega⟩
theorem turn5 {N b0 mid t f0 f1 p : Int} (h : Pr N b0 mid t) (hf : Found N b0 f0 f1) (h0 : 0 < f0) (hp : f0 < p) (hb : p ≤ b0) :
    ∃ pp m qq pq e : Int, p * p = pp ∧ intBits p + intBits p ≤ 2 ^ 27 ∧ N % p = m ∧ 0 < p ∧ N / p = qq ∧ (intBits p ≤ 9000 ∨ intBits N ≤ intBits p + 4000) ∧ p + qq = pq ∧ pq % 2 = e ∧ (0 : Int) < 2 ∧ (decide (pp ≤ N) = false ∨ (decide (pp ≤ N) = true ∧ ((m == 0) = false ∨ ((m == 0) = true ∧ (e == 0) = false)))) := by
  have bp : intBits p ≤ 2101 := Nat.le_trans (bl_mono (by omega)) h.bb
  refine ⟨_, _, _, _, _, rfl, by omega, rfl, by omega, rfl, by omega, rfl, rfl, by decide, ?_⟩
  by_cases h1 : p * p ≤ N
  · refine .inr ⟨decide_eq_true h1, ?_⟩
    by_cases h2 : N % p = 0
    · refine .inr ⟨by simp [h2], ?_⟩
      have := hf.near h.N0 h.b1 h.lo hp h1 h2
      rw [this]; rfl
    · exact .inl (beq_false_of_ne h2)
  · exact .inl (decide_eq_false h1)
/-- the loop's state: nothing found yet, or the factors -/
def St2 (N b0 : Int) (i : Nat) (vs : List Value) : Prop :=
  (vs = [] ∧ ∀ x, b0 ≤ x → x < b0 + (i : Int) → ∀ y, y * y ≠ x * x - N) ∨ ∃ f0 f1 t0 t1, vs = [.int f0 t0, .int f1 t1] ∧ Found N b0 f0 f1
theorem St2.zero {N b0 : Int} : St2 N b0 0 [] := .inl ⟨rfl, fun x h1 h2 => by omega⟩
theorem St2.stay {N b0 : Int} {i : Nat} {f0 f1 : Int} {t0 t1 : Tok} (h : Found N b0 f0 f1) : St2 N b0 i [.int f0 t0, .int f1 t1] := .inr ⟨f0, f1, t0, t1, rfl, h⟩
theorem St2.none {N b0 a : Int} {i : Nat} (hx : ∀ x, b0 ≤ x → x < a → ∀ y, y * y ≠ x * x - N) (ha : b0 + (i : Int) = a) (h : ∀ b, b * b ≠ a * a - N) : St2 N b0 (i + 1) [] := by
  refine .inl ⟨rfl, fun x h1 h2 => ?_⟩
  by_cases hx' : x < a
  · exact hx x h1 hx'
  · have : x = a := by omega
    subst this; exact h
theorem St2.done {N b0 mid t : Int} {n : Nat} {vs : List Value} (h : Pr N b0 mid t) (hn : (n : Int) = mid + 1 - b0) (hs : St2 N b0 n vs) : ∃ f0 f1 t0 t1, vs = [.int f0 t0, .int f1 t1] ∧ Found N b0 f0 f1 := by
  rcases hs with ⟨_, hx⟩ | hs
  · obtain ⟨y, _, e⟩ := h.sq
    exact absurd e (hx mid h.le (by omega) y)
  · exact hs
theorem row_facts {l : List Int} {vs : List Value} (hI : IntsAre vs (l.map (fun k' : Int => if k' < 0 then -k' else k') ++ [0, 9, 2])) (h : ¬ ((63 : Nat) : Int) < ((l.length : Nat) : Int)) :
    ∃ ns : List Int, (l.map (fun k' : Int => if k' < 0 then -k' else k')).length + (1 + 1 + 1) = ns.length ∧ IntsAre vs ns ∧ (∀ x ∈ ns, 0 ≤ x) ∧ 3 ≤ ns.length ∧ ns.length ≤ 66 := by
  refine ⟨_, ?_, hI, row_pos l, ?_, ?_⟩ <;> simp only [List.length_append, List.length_map, List.length_cons, List.length_nil] <;> omega
theorem max_facts (a b : Int) : ∃ x, (if a > b then a else b) = x ∧ b ≤ x := ⟨_, rfl, by split <;> omega⟩
theorem rangeSize_sub (a b : Int) : Builtin.Range.rangeSize a b 1 = (((b - a).toNat : Nat) : Int) := by
  rw [rangeSize_one]; split <;> omega
theorem pick2 {h₀ h : Heap} {L l T1 T2 : Addr} {lo : Obj} {x1 x2 n1 n2 : Int} {t1 t2 t3 t4 : Tok} {rest : List (Addr × Obj)} {j : Nat} {v : Value}
    (N : News h₀ L h ((l, lo) :: (T2, { cls := Value.type "tuple", data := Data.seq #[Value.int n1 t1, Value.int n2 t2] }) :: (T1, { cls := Value.type "tuple", data := Data.seq #[Value.int x1 t3, Value.int x2 t4] }) :: rest))
    (hv : [Value.ref T1, Value.ref T2][j]? = some v) (u1 : UV x1 x2) (u2 : UV n1 n2) :
    ∃ T u w tu tw, v = .ref T ∧ News h₀ L h ((T, { cls := Value.type "tuple", data := Data.seq #[Value.int u tu, Value.int w tw] }) :: (l, lo) :: (T2, { cls := Value.type "tuple", data := Data.seq #[Value.int n1 t1, Value.int n2 t2] }) :: (T1, { cls := Value.type "tuple", data := Data.seq #[Value.int x1 t3, Value.int x2 t4] }) :: rest) ∧ UV u w := by
  match j, hv with
  | 0, hv =>
    refine ⟨T1, x1, x2, t3, t4, (Option.some.inj hv).symm, fun p hp => ?_, u1⟩
    rcases List.mem_cons.mp hp with rfl | hp
    · exact N _ (.tail _ (.tail _ (.head _)))
    · exact N p hp
  | 1, hv =>
    refine ⟨T2, n1, n2, t1, t2, (Option.some.inj hv).symm, fun p hp => ?_, u2⟩
    rcases List.mem_cons.mp hp with rfl | hp
    · exact N _ (.tail _ (.head _))
    · exact N p hp
  | j + 2, hv => simp at hv
theorem pickp {p0 p1 sqt t tw : Int} {t1 t2 : Tok} {j : Nat} {v : Value} (hv : [Value.int p0 t1, Value.int p1 t2][j]? = some v) (h0 : PartOK sqt t tw p0) (h1 : PartOK sqt t tw p1) : ∃ p tp, v = .int p tp ∧ PartOK sqt t tw p := by
  match j, hv with
  | 0, hv => exact ⟨_, _, (Option.some.inj hv).symm, h0⟩
  | 1, hv => exact ⟨_, _, (Option.some.inj hv).symm, h1⟩
  | j + 2, hv => simp at hv
end
section
open PySem PySem.W PyProof.Rows
set_option Elab.async false
open PySem.Builtin.Int (intBits)

theorem bitAnd_one (a : Nat) : Builtin.bitAnd (a : Int) 1 = ((a % 2 : Nat) : Int) := by
  unfold Builtin.bitAnd
  have h1 : decide (0 ≤ (a : Int)) = true := decide_eq_true (by omega)
  have h2 : decide ((0 : Int) ≤ 1) = true := by decide
  simp only [h1, h2, Int.toNat_natCast]
  rw [show ((1 : Int).toNat) = 1 from rfl, Nat.and_one_is_mod]

/-- the root with one rung more, halved and made odd, is the root -/
theorem rto_stage {N M : Nat} (hM : 0 < M) : (rtoN (N * 4) M / 2) ||| (rtoN (N * 4) M % 2) = rtoN N M := by
  have c := fun {y : Nat} (hy : y % 2 = 0) => rto_cmp (N := N) hM hy
  have c4 := fun {y : Nat} (hy : y % 2 = 0) => rto_cmp (N := N * 4) hM hy
  -- the four-fold
  obtain ⟨h1, h2⟩ := Float64.isqrt_spec (N / M)
  obtain ⟨k1, k2⟩ := Float64.isqrt_spec (N * 4 / M)
  unfold rtoN
  generalize Float64.isqrt (N / M) = a at *
  generalize Float64.isqrt (N * 4 / M) = b at *
  have h1' : a * a * M ≤ N := Nat.le_trans (Nat.mul_le_mul_right _ h1) (Nat.div_mul_le_self N M)
  have h2' : N < (a + 1) * (a + 1) * M := (Nat.div_lt_iff_lt_mul hM).mp h2
  have k1' : b * b * M ≤ N * 4 := Nat.le_trans (Nat.mul_le_mul_right _ k1) (Nat.div_mul_le_self _ M)
  have k2' : N * 4 < (b + 1) * (b + 1) * M := (Nat.div_lt_iff_lt_mul hM).mp k2
  have mono : ∀ {b c : Nat}, b * b * M < c * c * M → b < c := fun h => sq_lt_iff.mp (Nat.lt_of_mul_lt_mul_right h)
  have q4 : ∀ x : Nat, (2 * x) * (2 * x) * M = x * x * M * 4 := fun x => by rw [Nat.mul_mul_mul_comm, Nat.mul_assoc (2 * 2), Nat.mul_comm (2 * 2)]
  have b1 : 2 * a < b + 1 := mono (by rw [q4]; omega)
  have b2 : b < 2 * (a + 1) := mono (by rw [q4]; omega)
  have hb : b = 2 * a ∨ b = 2 * a + 1 := by omega
  obtain ⟨oa, oa'⟩ := or_one a
  obtain ⟨ob, ob'⟩ := or_one b
  by_cases he : a * a * M = N
  · have hb2 : b = 2 * a := by
      rcases hb with h | h
      · exact h
      · have : (2 * a) * (2 * a) * M < b * b * M := Nat.mul_lt_mul_of_pos_right (sq_lt (by omega)) hM
        rw [q4, he] at this
        omega
    rw [if_pos he, if_pos (by rw [hb2, q4, he]), hb2]
    rw [show 2 * a / 2 = a by omega, show 2 * a % 2 = 0 by omega]
    exact Nat.or_zero a
  · rw [if_neg he]
    by_cases hf : b * b * M = N * 4
    · rcases hb with h | h
      · rw [h, q4] at hf
        omega
      · rw [if_pos hf, h, show (2 * a + 1) / 2 = a by omega, show (2 * a + 1) % 2 = 1 by omega]
    · rw [if_neg hf]
      rcases hb with h | h
      · rw [ob (by omega), h, show (2 * a + 1) / 2 = a by omega, show (2 * a + 1) % 2 = 1 by omega]
      · rw [ob' (by omega), h, show (2 * a + 1) / 2 = a by omega, show (2 * a + 1) % 2 = 1 by omega]

/-- what the last rung tells -/
structure Last (N M low rest half : Nat) : Prop where
  zero : rest = 0 ↔ low * low * M = N
  le : low * low * M ≤ N
  lt : N < (low + 1) * (low + 1) * M
  gt : half < rest ↔ (2 * low + 1) * (2 * low + 1) * M < 4 * N
  ls : rest < half ↔ 4 * N < (2 * low + 1) * (2 * low + 1) * M
theorem last_of {N M R : Nat} (hM : 0 < M) (hR : 2 ≤ R) :
    Last N M (rtoN (N * 4 ^ R) M / 2 ^ R) (rtoN (N * 4 ^ R) M % 2 ^ R) (2 ^ (R - 1)) := by
  obtain ⟨j, rfl⟩ : ∃ j, R = j + 2 := ⟨R - 2, by omega⟩
  have e1 : j + 2 - 1 = j + 1 := rfl
  rw [e1]
  have c := fun {y : Nat} (hy : y % 2 = 0) => rto_cmp (N := N * 4 ^ (j + 2)) hM hy
  generalize rtoN (N * 4 ^ (j + 2)) M = r at *
  have hp : 0 < 2 ^ j := Nat.two_pow_pos j
  have e2 : 2 ^ (j + 2) = 2 ^ j * 4 := by rw [Nat.pow_add]
  have e3 : 2 ^ (j + 1) = 2 ^ j * 2 := by rw [Nat.pow_succ]
  have e4 : 4 ^ (j + 2) = (2 ^ j * 4) * (2 ^ j * 4) := by
    rw [show (4 : Nat) = 2 * 2 from rfl, Nat.mul_pow, ← e2]
  rw [e2, e3]
  have dm := Nat.div_add_mod r (2 ^ j * 4)
  have ml := Nat.mod_lt r (show 0 < 2 ^ j * 4 by omega)
  rw [e4] at c
  generalize r / (2 ^ j * 4) = low at *
  generalize r % (2 ^ j * 4) = rest at *
  generalize 2 ^ j = p at *
  have hpp : 0 < p * 4 * (p * 4) := Nat.mul_pos (by omega) (by omega)
  -- at a whole number
  have full : ∀ x : Nat, (r < x * (p * 4) ↔ N < x * x * M) ∧ (x * (p * 4) < r ↔ x * x * M < N) := by
    intro x
    have c1 := c (y := x * (p * 4)) (by rw [← Nat.mul_assoc]; omega)
    have e : x * (p * 4) * (x * (p * 4)) * M = x * x * M * (p * 4 * (p * 4)) := by
      rw [Nat.mul_mul_mul_comm, Nat.mul_right_comm]
    rw [e, Nat.mul_lt_mul_right hpp, Nat.mul_lt_mul_right hpp] at c1
    exact c1
  have halfw : (r < (2 * low + 1) * (p * 2) ↔ 4 * N < (2 * low + 1) * (2 * low + 1) * M) ∧ ((2 * low + 1) * (p * 2) < r ↔ (2 * low + 1) * (2 * low + 1) * M < 4 * N) := by
    have c1 := c (y := (2 * low + 1) * (p * 2)) (by rw [← Nat.mul_assoc]; omega)
    have e : (2 * low + 1) * (p * 2) * ((2 * low + 1) * (p * 2)) * M = (2 * low + 1) * (2 * low + 1) * M * (p * 2 * (p * 2)) := by
      rw [Nat.mul_mul_mul_comm, Nat.mul_right_comm]
    have e' : N * (p * 4 * (p * 4)) = 4 * N * (p * 2 * (p * 2)) := by
      rw [show p * 4 * (p * 4) = 4 * (p * 2 * (p * 2)) by rw [show p * 4 = 2 * (p * 2) by omega, Nat.mul_mul_mul_comm], Nat.mul_left_comm, ← Nat.mul_assoc]
    have hpp2 : 0 < p * 2 * (p * 2) := Nat.mul_pos (by omega) (by omega)
    rw [e, e', Nat.mul_lt_mul_right hpp2, Nat.mul_lt_mul_right hpp2] at c1
    exact c1
  have hlow : r = low * (p * 4) + rest := by rw [Nat.mul_comm low]; exact dm.symm
  have ehalf : (2 * low + 1) * (p * 2) = low * (p * 4) + p * 2 := by
    rw [Nat.add_mul, Nat.one_mul, Nat.mul_assoc, Nat.mul_left_comm 2 low, show 2 * (p * 2) = p * 4 by omega]
  have esucc : (low + 1) * (p * 4) = low * (p * 4) + p * 4 := by rw [Nat.add_mul, Nat.one_mul]
  have f1 := full low
  have f2 := (full (low + 1)).1
  rw [esucc] at f2
  rw [ehalf] at halfw
  refine ⟨?_, ?_, ?_, ?_, ?_⟩
  · omega
  · omega
  · exact f2.mp (by omega)
  · rw [← halfw.2]; omega
  · rw [← halfw.1]; omega
end
section
open PySem PySem.W PyProof.Rows
set_option Elab.async false
open PySem.Builtin.Int (intBits)

section
variable {prog : Program} {w : World} {A : Around} {E : Value → Shared → Prop} {s : Shared} {a b c n : Int} {t u : Tok} {Q : Value → Shared → Prop}
theorem andE (he : Builtin.bitAnd a b = c) (h : Q (.int c s.toks) { s with toks := s.toks + 1 }) : wpAny (model prog w) A (binaryOp .BitAnd (.int a t) (.int b u)) Q E s := by
  subst he; exact and_int h
theorem orE (he : Builtin.bitOr a b = c) (h : Q (.int c s.toks) { s with toks := s.toks + 1 }) : wpAny (model prog w) A (binaryOp .BitOr (.int a t) (.int b u)) Q E s := by
  subst he; exact or_int h
theorem mulA (he : a * b = c) (hm : intBits a + intBits b ≤ 2 ^ 27) (h : ∀ u' tk, Q (.int c u') { s with toks := tk }) : wpAny (model prog w) A (binaryOp .Mult (.int a t) (.int b u)) Q E s := mulE he hm (h _ _)
theorem addA (he : a + b = c) (h : ∀ u' tk, Q (.int c u') { s with toks := tk }) : wpAny (model prog w) A (binaryOp .Add (.int a t) (.int b u)) Q E s := addE he (h _ _)
theorem subA (he : a - b = c) (h : ∀ u' tk, Q (.int c u') { s with toks := tk }) : wpAny (model prog w) A (binaryOp .Sub (.int a t) (.int b u)) Q E s := subE he (h _ _)
theorem modA (he : a % b = c) (hb : 0 < b) (h : ∀ u' tk, Q (.int c u') { s with toks := tk }) : wpAny (model prog w) A (binaryOp .Mod (.int a t) (.int b u)) Q E s := modE he hb (h _ _)
theorem powA (he : a ^ n.toNat = c) (hn : 0 ≤ n) (hm : (intBits a : Int) * n ≤ 2 ^ 27) (h : ∀ u' tk, Q (.int c u') { s with toks := tk }) : wpAny (model prog w) A (binaryOp .Pow (.int a t) (.int n u)) Q E s := powE he hn hm (h _ _)
theorem shlA (he : a * 2 ^ n.toNat = c) (hn : 0 ≤ n) (hm : (intBits a : Int) + n ≤ 2 ^ 27) (h : ∀ u' tk, Q (.int c u') { s with toks := tk }) : wpAny (model prog w) A (binaryOp .LShift (.int a t) (.int n u)) Q E s := shlE he hn hm (h _ _)
theorem shrA (he : a / 2 ^ n.toNat = c) (hn : 0 ≤ n) (h : ∀ u' tk, Q (.int c u') { s with toks := tk }) : wpAny (model prog w) A (binaryOp .RShift (.int a t) (.int n u)) Q E s := shrE he hn (h _ _)
theorem eqC {v : Bool} (he : (a == b) = v) (h : Q (.bool v) s) : wpAny (model prog w) A (compareOp .Eq (.int a t) (.int b u)) Q E s := by
  subst he; exact eq_int h
theorem neC {v : Bool} (he : (a != b) = v) (h : Q (.bool v) s) : wpAny (model prog w) A (compareOp .NotEq (.int a t) (.int b u)) Q E s := by
  subst he; exact ne_int h
theorem ltC {v : Bool} (he : decide (a < b) = v) (h : Q (.bool v) s) : wpAny (model prog w) A (compareOp .Lt (.int a t) (.int b u)) Q E s := by
  subst he; exact lt_int h
theorem leC {v : Bool} (he : decide (a ≤ b) = v) (h : Q (.bool v) s) : wpAny (model prog w) A (compareOp .LtE (.int a t) (.int b u)) Q E s := by
  subst he; exact le_int h
theorem gtC {v : Bool} (he : decide (b < a) = v) (h : Q (.bool v) s) : wpAny (model prog w) A (compareOp .Gt (.int a t) (.int b u)) Q E s := by
  subst he; exact gt_int h
end
def rung (n m k : Int) : Int := ((rtoN (n * 2 ^ (2 * k).toNat).natAbs m.natAbs : Nat) : Int)
theorem rung_nat (N M k : Nat) : rung (N : Int) (M : Int) (k : Int) = ((rtoN (N * 4 ^ k) M : Nat) : Int) := by
  unfold rung
  rw [natAbs_shl, Int.natAbs_natCast, Int.natAbs_natCast, show (2 * (k : Int)).toNat = 2 * k by omega, Nat.pow_mul]
theorem rung_stage {n m : Int} (hn : 0 ≤ n) (hm : 0 < m) {k : Int} (hk : 0 ≤ k) : Builtin.bitOr (rung n m (k + 1) / 2 ^ (1 : Int).toNat) (Builtin.bitAnd (rung n m (k + 1)) 1) = rung n m k := by
  obtain ⟨N, rfl⟩ := Int.eq_ofNat_of_zero_le hn
  obtain ⟨M, rfl⟩ := Int.eq_ofNat_of_zero_le (Int.le_of_lt hm)
  obtain ⟨K, rfl⟩ := Int.eq_ofNat_of_zero_le hk
  rw [show (K : Int) + 1 = ((K + 1 : Nat) : Int) from rfl, rung_nat, rung_nat, bitAnd_one, show (2 : Int) ^ (1 : Int).toNat = 2 from rfl, show ∀ x : Nat, (x : Int) / 2 = ((x / 2 : Nat) : Int) from fun x => by omega, bitOr_nat, Nat.pow_succ, ← Nat.mul_assoc, rto_stage (by omega)]

/-- the rungs -/
def rungs (n m R : Int) : List Int := List.map (fun k' => ((rtoN (n * 2 ^ (2 * k').toNat).natAbs m.natAbs : Nat) : Int)) (rangeKs 0 (R + 1 - 0).toNat)
theorem rungs_at {n m R k : Int} (h0 : 0 ≤ k) (hk : k ≤ R) : (List.map (fun k' => ((rtoN (n * 2 ^ (2 * k').toNat).natAbs m.natAbs : Nat) : Int)) (rangeKs 0 (R + 1 - 0).toNat))[k.toNat]? = some (rung n m k) := by
  have h1 : k.toNat < (R + 1).toNat := by omega
  have h2 : ((k.toNat : Nat) : Int) = k := by omega
  simp [rangeKs, rung, h1, h2]

theorem knows2 {h₀ h : Heap} {L : Addr} {m : Str → Option Value} {x y : Str} {v u : Value} (F : Fr h₀ L h m) (hx : m x = some v) (hy : m y = some u) : ∃ m' : Str → Option Value, Fr h₀ L h (fun z => if z = x then some v else if z = y then some u else m' z) := by
  refine ⟨m, ?_⟩
  have e : (fun z => if z = x then some v else if z = y then some u else m z) = m := by
    funext z
    by_cases h1 : z = x
    · rw [if_pos h1, h1, hx]
    · rw [if_neg h1]
      by_cases h2 : z = y
      · rw [if_pos h2, h2, hy]
      · rw [if_neg h2]
  rw [e]; exact F
theorem ints_item {vs : List Value} {ns : List Int} (h : IntsAre vs ns) {i : Nat} {v : Value} (hv : vs[i]? = some v) : ∃ a t, v = .int a t := by
  have hl : i < ns.length := by
    have := h.length
    have h2 : i < vs.length := by
      rw [List.getElem?_eq_some_iff] at hv
      exact hv.1
    omega
  obtain ⟨t, ht⟩ := h.get i ns[i] (by simp [hl])
  rw [hv] at ht
  exact ⟨_, t, Option.some.inj ht⟩

theorem rung_turn {n m R : Int} (hn : 0 ≤ n) (hm : 0 < m) (hR2 : R ≤ 33) {i : Nat} (hi : i < R.toNat) :
    ∃ c0 c1 z y k1, (i : Int) + 1 = k1 ∧ 0 ≤ k1 ∧ k1 < 2 ^ 63 ∧ (List.map (fun k' => ((rtoN (n * 2 ^ (2 * k').toNat).natAbs m.natAbs : Nat) : Int)) (rangeKs 0 (R + 1 - 0).toNat))[((i : Nat) : Int).toNat]? = some c0 ∧
      (List.map (fun k' => ((rtoN (n * 2 ^ (2 * k').toNat).natAbs m.natAbs : Nat) : Int)) (rangeKs 0 (R + 1 - 0).toNat))[k1.toNat]? = some c1 ∧ c1 / 2 ^ (1 : Int).toNat = z ∧ Builtin.bitAnd c1 1 = y ∧ Builtin.bitOr z y = c0 ∧ (i : Int) < 2 ^ 63 ∧ (c0 != c0) = false :=
  ⟨_, _, _, _, _, rfl, by omega, by omega, rungs_at (by omega) (by omega), rungs_at (by omega) (by omega), rfl, rfl, rung_stage hn hm (by omega), by omega, bne_self_eq_false _⟩

def NearOK (n m near : Int) : Prop :=
  (near % 2 = 0 → (near = 0 ∨ (2 * near - 1) * (2 * near - 1) * m ≤ 4 * n) ∧ 4 * n ≤ (2 * near + 1) * (2 * near + 1) * m) ∧
  (near % 2 = 1 → (2 * near - 1) * (2 * near - 1) * m < 4 * n ∧ 4 * n < (2 * near + 1) * (2 * near + 1) * m)

theorem near_low {N M low : Nat} (hM : 0 < M) (h1 : low * low * M ≤ N) (h2 : 4 * N ≤ (2 * low + 1) * (2 * low + 1) * M) (h3 : low % 2 = 1 → 4 * N < (2 * low + 1) * (2 * low + 1) * M) : NearOK N M low := by
  have e1 : (2 * (low : Int) + 1) * (2 * (low : Int) + 1) * (M : Int) = (((2 * low + 1) * (2 * low + 1) * M : Nat) : Int) := by push_cast; rfl
  have e2 : low ≠ 0 → (2 * (low : Int) - 1) * (2 * (low : Int) - 1) * (M : Int) < 4 * (N : Int) := by
    intro h0
    obtain ⟨j, rfl⟩ : ∃ j, low = j + 1 := ⟨low - 1, by omega⟩
    rw [show 2 * ((j + 1 : Nat) : Int) - 1 = ((2 * j + 1 : Nat) : Int) by omega]
    have : (2 * j + 1) * (2 * j + 1) * M < (2 * (j + 1)) * (2 * (j + 1)) * M := Nat.mul_lt_mul_of_pos_right (sq_lt (by omega)) hM
    have q4 : (2 * (j + 1)) * (2 * (j + 1)) * M = (j + 1) * (j + 1) * M * 4 := by rw [Nat.mul_mul_mul_comm, Nat.mul_assoc (2 * 2), Nat.mul_comm (2 * 2)]
    have h4 : (2 * j + 1) * (2 * j + 1) * M < 4 * N := by omega
    exact_mod_cast h4
  unfold NearOK
  rw [e1]
  refine ⟨fun h => ⟨?_, by omega⟩, fun h => ⟨e2 (by omega), ?_⟩⟩
  · by_cases h0 : low = 0
    · exact .inl (by omega)
    · exact .inr (Int.le_of_lt (e2 h0))
  · have := h3 (by omega)
    omega
theorem near_next {N M low : Nat} (hM : 0 < M) (h1 : N < (low + 1) * (low + 1) * M) (h2 : (2 * low + 1) * (2 * low + 1) * M ≤ 4 * N) (h3 : low % 2 = 0 → (2 * low + 1) * (2 * low + 1) * M < 4 * N) : NearOK N M ((low : Int) + 1) := by
  have e1 : (2 * ((low : Int) + 1) - 1) * (2 * ((low : Int) + 1) - 1) * (M : Int) = (((2 * low + 1) * (2 * low + 1) * M : Nat) : Int) := by
    rw [show 2 * ((low : Int) + 1) - 1 = ((2 * low + 1 : Nat) : Int) by omega]; push_cast; rfl
  have e2 : 4 * (N : Int) < (2 * ((low : Int) + 1) + 1) * (2 * ((low : Int) + 1) + 1) * (M : Int) := by
    rw [show 2 * ((low : Int) + 1) + 1 = ((2 * low + 3 : Nat) : Int) by omega]
    have : (2 * (low + 1)) * (2 * (low + 1)) * M ≤ (2 * low + 3) * (2 * low + 3) * M := Nat.mul_le_mul_right _ (sq_le (by omega))
    have q4 : (2 * (low + 1)) * (2 * (low + 1)) * M = (low + 1) * (low + 1) * M * 4 := by rw [Nat.mul_mul_mul_comm, Nat.mul_assoc (2 * 2), Nat.mul_comm (2 * 2)]
    have h4 : 4 * N < (2 * low + 3) * (2 * low + 3) * M := by omega
    exact_mod_cast h4
  unfold NearOK
  rw [e1]
  refine ⟨fun h => ⟨.inr (by omega), Int.le_of_lt e2⟩, fun h => ⟨?_, e2⟩⟩
  have := h3 (by omega)
  omega

theorem rnear_facts {n m near : Int} (h : NearOK n m near) (hb : intBits near ≤ 14000) (hmb : intBits m ≤ 4000) (hnb : intBits n ≤ 8000) :
    ∃ d d1 s1 below d2 s2 above n4, 2 * near = d ∧ intBits 2 + intBits near ≤ 2 ^ 27 ∧ d - 1 = d1 ∧ d1 ^ (2 : Int).toNat = s1 ∧ (intBits d1 : Int) * 2 ≤ 2 ^ 27 ∧ s1 * m = below ∧ intBits s1 + intBits m ≤ 2 ^ 27 ∧
      d + 1 = d2 ∧ d2 ^ (2 : Int).toNat = s2 ∧ (intBits d2 : Int) * 2 ≤ 2 ^ 27 ∧ s2 * m = above ∧ intBits s2 + intBits m ≤ 2 ^ 27 ∧ 4 * n = n4 ∧ intBits 4 + intBits n ≤ 2 ^ 27 ∧
      (near % 2 = 0 → (near = 0 ∨ below ≤ n4) ∧ n4 ≤ above) ∧ (near % 2 = 1 → below < n4 ∧ n4 < above) := by
  have i2 : intBits 2 = 2 := by decide
  have i4 : intBits 4 = 3 := by decide
  have i1 : intBits 1 = 1 := by decide
  have b1 := bl_mul 2 near
  have b2 := bl_sub (2 * near) 1
  have b3 := bl_add (2 * near) 1
  have b4 := bl_mul (2 * near - 1) (2 * near - 1)
  have b5 := bl_mul (2 * near + 1) (2 * near + 1)
  have p : ∀ x : Int, x ^ (2 : Int).toNat = x * x := fun x => by rw [show (2 : Int).toNat = 2 from rfl, Int.pow_succ, Int.pow_succ, Int.pow_zero, Int.one_mul]
  refine ⟨_, _, _, _, _, _, _, _, rfl, by omega, rfl, p _, by omega, rfl, by omega, rfl, p _, by omega, rfl, by omega, rfl, by omega, h.1, h.2⟩

theorem rung_last {n m R : Int} (hn : 0 ≤ n) (hm : 0 < m) (hnb : intBits n ≤ 8000) (hmb : intBits m ≤ 4000) (hR : 2 ≤ R) (hR2 : R ≤ 33) :
    ∃ r low lowR rest R1 half ll llm, (List.map (fun k' => ((rtoN (n * 2 ^ (2 * k').toNat).natAbs m.natAbs : Nat) : Int)) (rangeKs 0 (R + 1 - 0).toNat))[R.toNat]? = some r ∧ r / 2 ^ R.toNat = low ∧ low * 2 ^ R.toNat = lowR ∧ (intBits low : Int) + R ≤ 2 ^ 27 ∧ r - lowR = rest ∧
      low * low = ll ∧ ll * m = llm ∧ intBits low + intBits low ≤ 2 ^ 27 ∧ intBits ll + intBits m ≤ 2 ^ 27 ∧ (rest = 0 ↔ llm = n) ∧ R - 1 = R1 ∧ 0 ≤ R1 ∧ 1 * 2 ^ R1.toNat = half ∧ (intBits 1 : Int) + R1 ≤ 2 ^ 27 ∧ 0 ≤ low ∧ intBits low ≤ 13001 ∧ intBits (low + 1) ≤ 14000 ∧ 0 < half ∧
      (half < rest → NearOK n m (low + 1)) ∧ (rest = half → low % 2 = 1 → NearOK n m (low + 1)) ∧ (rest < half → NearOK n m low) ∧ (rest = half → low % 2 = 0 → NearOK n m low) := by
  have i1 : intBits 1 = 1 := by decide
  have hr : intBits (rung n m R) ≤ 13001 := by
    unfold rung
    refine bl_rto (k := 13000) (Sg.mul' (.inl ⟨hn, hm⟩) (two_pow_pos' _)) ?_
    rw [Int.fdiv_eq_ediv_of_nonneg _ (Int.le_of_lt hm)]
    refine Nat.le_trans (bl_div (Int.mul_nonneg hn (Int.le_of_lt (two_pow_pos' _)))) ?_
    have := bl_shl n (2 * R).toNat
    omega
  have h0 : 0 ≤ rung n m R := Int.natCast_nonneg _
  have hl : intBits (rung n m R / 2 ^ R.toNat) ≤ 13001 := Nat.le_trans (bl_div h0) hr
  have hl0 : 0 ≤ rung n m R / 2 ^ R.toNat := Int.ediv_nonneg h0 (Int.le_of_lt (two_pow_pos' _))
  have b2 := bl_mul (rung n m R / 2 ^ R.toNat) (rung n m R / 2 ^ R.toNat)
  have b1 := bl_add (rung n m R / 2 ^ R.toNat) 1
  suffices H : ∃ half : Int, 1 * 2 ^ (R - 1).toNat = half ∧ (rung n m R - rung n m R / 2 ^ R.toNat * 2 ^ R.toNat = 0 ↔ rung n m R / 2 ^ R.toNat * (rung n m R / 2 ^ R.toNat) * m = n) ∧ 0 < half ∧
      (half < rung n m R - rung n m R / 2 ^ R.toNat * 2 ^ R.toNat → NearOK n m (rung n m R / 2 ^ R.toNat + 1)) ∧ (rung n m R - rung n m R / 2 ^ R.toNat * 2 ^ R.toNat = half → rung n m R / 2 ^ R.toNat % 2 = 1 → NearOK n m (rung n m R / 2 ^ R.toNat + 1)) ∧
      (rung n m R - rung n m R / 2 ^ R.toNat * 2 ^ R.toNat < half → NearOK n m (rung n m R / 2 ^ R.toNat)) ∧ (rung n m R - rung n m R / 2 ^ R.toNat * 2 ^ R.toNat = half → rung n m R / 2 ^ R.toNat % 2 = 0 → NearOK n m (rung n m R / 2 ^ R.toNat)) by
    obtain ⟨half, e, z, p, q⟩ := H
    subst e
    exact ⟨_, _, _, _, _, _, _, _, rungs_at (by omega) (Int.le_refl _), rfl, rfl, by omega, rfl, rfl, rfl, by omega, by omega, z, rfl, by omega, rfl, by omega, hl0, hl, by omega, p, q⟩
  clear hr h0 hl hl0 b1 b2
  obtain ⟨N, rfl⟩ := Int.eq_ofNat_of_zero_le hn
  obtain ⟨M, rfl⟩ := Int.eq_ofNat_of_zero_le (Int.le_of_lt hm)
  obtain ⟨K, rfl⟩ := Int.eq_ofNat_of_zero_le (Int.le_trans (by decide) hR)
  have hM : 0 < M := by omega
  have H := last_of (N := N) (M := M) (R := K) hM (by omega)
  rw [rung_nat]
  have dm := Nat.div_add_mod (rtoN (N * 4 ^ K) M) (2 ^ K)
  generalize rtoN (N * 4 ^ K) M = r at *
  have el : ((r : Nat) : Int) / 2 ^ (K : Int).toNat = ((r / 2 ^ K : Nat) : Int) := by
    rw [Int.toNat_natCast, Int.natCast_ediv, Int.natCast_pow]; rfl
  have er : (r : Int) - ((r / 2 ^ K : Nat) : Int) * 2 ^ (K : Int).toNat = ((r % 2 ^ K : Nat) : Int) := by
    rw [Int.toNat_natCast, show ((2 : Int) ^ K) = ((2 ^ K : Nat) : Int) by rw [Int.natCast_pow]; rfl, ← Int.natCast_mul, Nat.mul_comm]
    omega
  rw [el, er]
  have eh : (1 : Int) * 2 ^ ((K : Int) - 1).toNat = ((2 ^ (K - 1) : Nat) : Int) := by
    rw [Int.one_mul, show ((K : Int) - 1).toNat = K - 1 by omega, Int.natCast_pow]; rfl
  refine ⟨_, eh, ?_, ?_⟩
  · rw [← Int.natCast_mul, ← Int.natCast_mul]
    have := H.zero
    omega
  have hp : 0 < 2 ^ (K - 1) := Nat.two_pow_pos _
  obtain ⟨z, le, lt, gt, ls⟩ := H
  clear dm el er z
  generalize r / 2 ^ K = low at *
  generalize r % 2 ^ K = rest at *
  generalize 2 ^ (K - 1) = half at *
  refine ⟨by omega, fun h => ?_, fun h h' => ?_, fun h => ?_, fun h h' => ?_⟩
  · have := gt.mp (by omega)
    exact near_next hM lt (Nat.le_of_lt this) fun _ => this
  · have e1 : ¬ 4 * N < (2 * low + 1) * (2 * low + 1) * M := fun c => by have := ls.mpr c; omega
    exact near_next hM lt (by omega) fun c => by omega
  · have := ls.mp (by omega)
    exact near_low hM le (Nat.le_of_lt this) fun _ => this
  · have e1 : ¬ (2 * low + 1) * (2 * low + 1) * M < 4 * N := fun c => by have := gt.mpr c; omega
    exact near_low hM le (by omega) fun c => by omega
end
section
open PySem PySem.W PyProof.Rows
set_option Elab.async false
open PySem.Builtin.Int (intBits)
theorem knows1 {h₀ h : Heap} {L : Addr} {m : Str → Option Value} {x : Str} {v : Value} (F : Fr h₀ L h m) (hx : m x = some v) : ∃ m' : Str → Option Value, Fr h₀ L h (fun z => if z = x then some v else m' z) := by
  refine ⟨m, ?_⟩
  have e : (fun z => if z = x then some v else m z) = m := by
    funext z
    by_cases h1 : z = x
    · rw [if_pos h1, h1, hx]
    · rw [if_neg h1]
  rw [e]; exact F
def Cell (Z c : Int) : Prop := 0 ≤ c ∧ c < Z
theorem cells_mod {Z : Int} (hZ : 0 < Z) (ns : List Int) : ∀ x ∈ List.map (fun k' : Int => (if k' < 0 then -k' else k') % Z) ns, Cell Z x := by
  intro x hx
  obtain ⟨y, _, rfl⟩ := List.mem_map.mp hx
  exact ⟨Int.emod_nonneg _ (by omega), Int.emod_lt_of_pos _ hZ⟩
theorem cells_of {Z : Int} (hZ : 0 < Z) {ns : List Int} {ys : List Value} (_h : IntsAre ys (List.map (fun k' : Int => (if k' < 0 then -k' else k') % Z) ns)) : ∀ x ∈ List.map (fun k' : Int => (if k' < 0 then -k' else k') % Z) ns, Cell Z x := cells_mod hZ ns
theorem cells_len {Z : Int} {ns : List Int} {ys : List Value} (_h : IntsAre ys (List.map (fun k' : Int => (if k' < 0 then -k' else k') % Z) ns)) (h : ¬ ((63 : Nat) : Int) < (ns.length : Int)) : ((List.map (fun k' : Int => (if k' < 0 then -k' else k') % Z) ns).length : Int) ≤ 63 := by
  rw [List.length_map]; omega
theorem cellP_get {P : Int → Prop} {ns : List Int} (h : ∀ x ∈ ns, P x) {i : Nat} (hi : i < ns.length) : ∃ c, ns[((i : Nat) : Int).toNat]? = some c ∧ P c :=
  ⟨ns[i], by rw [Int.toNat_natCast]; simp [hi], h _ (List.getElem_mem hi)⟩
theorem cellP_mod {P : Int → Prop} {ns : List Int} (h : ∀ x ∈ ns, P x) {i : Nat} (hi : i < ns.length) (j : Int) : ∃ k c, j % (ns.length : Int) = k ∧ 0 ≤ k ∧ k < (ns.length : Int) ∧ ns[k.toNat]? = some c ∧ P c := by
  have h0 : 0 ≤ j % (ns.length : Int) := Int.emod_nonneg _ (by omega)
  have h1 : j % (ns.length : Int) < (ns.length : Int) := Int.emod_lt_of_pos _ (by omega)
  have h2 : (j % (ns.length : Int)).toNat < ns.length := by omega
  exact ⟨_, ns[(j % (ns.length : Int)).toNat], rfl, h0, h1, by simp [h2], h _ (List.getElem_mem h2)⟩

/-- a ratio that may be handed over -/
def RatOK (n m : Int) : Prop := 0 ≤ n ∧ 0 < m ∧ intBits n ≤ 8000 ∧ intBits m ≤ 4000
theorem ratios1 {Z c0 c1 c2 : Int} (hZ : Z < 2 ^ 2000) (h0 : Cell Z c0) (h1 : Cell Z c1) (h2 : Cell Z c2) :
    ∃ q v t b uu uut vv vvt k R x1 x2 x3 : Int, (if c0 < 0 then -c0 else c0) = c0 ∧ (if c1 < 0 then -c1 else c1) = c1 ∧ (if c2 < 0 then -c2 else c2) = c2 ∧
      c1 % 4 = q ∧ (0 : Int) < 4 ∧ 1 + q = v ∧ c2 + 1 = t ∧ c1 + 1 = b ∧ c0 * c0 = uu ∧ intBits c0 + intBits c0 ≤ 2 ^ 27 ∧ uu * t = uut ∧ intBits uu + intBits t ≤ 2 ^ 27 ∧ v * v = vv ∧ intBits v + intBits v ≤ 2 ^ 27 ∧ vv * t = vvt ∧ intBits vv + intBits t ≤ 2 ^ 27 ∧
      uut + -1 = x1 ∧ uut + 0 = x2 ∧ uut + 1 = x3 ∧ c2 % 32 = k ∧ (0 : Int) < 32 ∧ 2 + k = R ∧ 2 ≤ R ∧ R ≤ 33 ∧ RatOK c0 b ∧ RatOK (if x1 > 0 then x1 else 0) vvt ∧ RatOK (if x2 > 0 then x2 else 0) vvt ∧ RatOK (if x3 > 0 then x3 else 0) vvt ∧ 0 ≤ uut := by
  obtain ⟨a0, b0⟩ := h0
  obtain ⟨a1, b1⟩ := h1
  obtain ⟨a2, b2⟩ := h2
  have s0 : intBits c0 ≤ 2000 := bl_of_lt a0 (Int.lt_trans b0 hZ)
  have s1 : intBits c1 ≤ 2000 := bl_of_lt a1 (Int.lt_trans b1 hZ)
  have s2 : intBits c2 ≤ 2000 := bl_of_lt a2 (Int.lt_trans b2 hZ)
  have i1 : intBits 1 = 1 := by decide
  have im : intBits (-1) = 1 := by decide
  have i0 : intBits 0 = 0 := rfl
  have sb := bl_add c1 1
  have st := bl_add c2 1
  have suu := bl_mul c0 c0
  have suut := bl_mul (c0 * c0) (c2 + 1)
  have q0 : 0 ≤ c1 % 4 := Int.emod_nonneg _ (by decide)
  have q1 : c1 % 4 < 4 := Int.emod_lt_of_pos _ (by decide)
  have sv : intBits (1 + c1 % 4) ≤ 3 := bl_of_lt (by omega) (by omega)
  have svv := bl_mul (1 + c1 % 4) (1 + c1 % 4)
  have svvt := bl_mul ((1 + c1 % 4) * (1 + c1 % 4)) (c2 + 1)
  have pu : 0 ≤ c0 * c0 * (c2 + 1) := Int.mul_nonneg (Int.mul_nonneg a0 a0) (by omega)
  have pv : 0 < (1 + c1 % 4) * (1 + c1 % 4) * (c2 + 1) := Int.mul_pos (Int.mul_pos (by omega) (by omega)) (by omega)
  have sx1 := bl_add (c0 * c0 * (c2 + 1)) (-1)
  have sx2 := bl_add (c0 * c0 * (c2 + 1)) 0
  have sx3 := bl_add (c0 * c0 * (c2 + 1)) 1
  have mx : ∀ x : Int, intBits x ≤ 8000 → 0 ≤ (if x > 0 then x else 0) ∧ intBits (if x > 0 then x else 0) ≤ 8000 := by
    intro x hx
    by_cases h : x > 0
    · rw [if_pos h]; exact ⟨Int.le_of_lt h, hx⟩
    · rw [if_neg h]; exact ⟨Int.le_refl _, by decide⟩
  refine ⟨_, _, _, _, _, _, _, _, _, _, _, _, _, if_neg (by omega), if_neg (by omega), if_neg (by omega), rfl, by decide, rfl, rfl, rfl, rfl, by omega, rfl, by omega, rfl, by omega, rfl, by omega, rfl, rfl, rfl, rfl, by decide, rfl, by omega, by omega, ⟨a0, by omega, by omega, by omega⟩,
    ⟨(mx _ (by omega)).1, pv, (mx _ (by omega)).2, by omega⟩, ⟨(mx _ (by omega)).1, pv, (mx _ (by omega)).2, by omega⟩, ⟨(mx _ (by omega)).1, pv, (mx _ (by omega)).2, by omega⟩, pu⟩
theorem cellD {P : Int → Prop} {ns : List Int} {j : Nat} {c : Int} (h : ns[j]? = some c) (p : P c) : P (ns.getD j 0) := by
  rw [List.getD_eq_getElem?_getD, h]; exact p
theorem sizes1 {Z d0 d1 d2 : Int} (h0 : Cell Z d0) (h1 : Cell Z d1) (h2 : Cell Z d2) : ∃ u0 u1 u2 : Int, (if d0 < 0 then -d0 else d0) = u0 ∧ (if d1 < 0 then -d1 else d1) = u1 ∧ (if d2 < 0 then -d2 else d2) = u2 ∧ Cell Z u0 ∧ Cell Z u1 ∧ Cell Z u2 :=
  ⟨d0, d1, d2, if_neg (Int.not_lt.mpr h0.1), if_neg (Int.not_lt.mpr h1.1), if_neg (Int.not_lt.mpr h2.1), h0, h1, h2⟩
end
open PySem PySem.W PyProof.Rows
set_option Elab.async false
set_option maxRecDepth 100000
set_option maxHeartbeats 8000000
open PySem.Builtin.Int (intBits)
open_top hd2 for PySem.Challenge.rw_kq0022_02
theorem fill2 : PySem.Challenge.rw_kq0022_02 = PySem.Challenge.rw_kq0022_02 ∧ ∀ P, hd2.heap_39 P = hd2.heap_39 P := by k_fill; exact ⟨rfl, fun _ => rfl⟩
def Stop (P : Prop) : Prop := P
theorem stop {P : Prop} (h : Stop P) : P := h
local macro_rules | `(tactic| walk_at "binaryOp FloorDiv int int") => `(tactic| first
  | (refine' divE ?kz ?ka ?kb ?_; (case kz => first | assumption | k_dflt assumption); (case ka => first | assumption | k_dflt assumption | k_dflt decide); (case kb => first | assumption | k_dflt assumption | k_dflt exact Or.inl (by decide) | k_dflt omega))
  | (refine floordiv_int ?ka ?_ ?kb; (case ka => assumption); (case kb => exact Or.inl (by assumption)))
  | (refine divX ?ka ?kb ?_; (case ka => first | assumption | k_dflt assumption | k_dflt decide); (case kb => first | assumption | k_dflt assumption | k_dflt exact Or.inl (by decide) | k_dflt omega)))
local macro_rules | `(tactic| walk_at "binaryOp Mod int int") => `(tactic| first
  | (refine' modE ?kz ?ka ?_; (case kz => first | assumption | k_dflt assumption); (case ka => first | assumption | k_dflt assumption | k_dflt decide | k_dflt omega))
  | (refine modX ?ka ?_; (case ka => first | assumption | k_dflt assumption | k_dflt decide | k_dflt omega)))
local macro_rules | `(tactic| walk_at "binaryOp Mult int int") => `(tactic| first
  | (refine' mulE ?kz ?ka ?_; (case kz => first | assumption | k_dflt assumption); (case ka => first | assumption | k_dflt assumption | k_dflt omega))
  | (refine mulX ?ka ?_; (case ka => first | assumption | k_dflt assumption | k_dflt omega)))
local macro_rules | `(tactic| walk_at "binaryOp Add int int") => `(tactic| (refine' addE ?kz ?_; (case kz => first | assumption | k_dflt assumption)))
local macro_rules | `(tactic| walk_at "binaryOp Sub int int") => `(tactic| (refine' subE ?kz ?_; (case kz => first | assumption | k_dflt assumption)))
local macro_rules | `(tactic| walk_at "binaryOp LShift int int") => `(tactic| first
  | (refine' shlE ?kz ?ka ?kb ?_; (case kz => first | assumption | k_dflt assumption); (case ka => first | assumption | k_dflt assumption | k_dflt omega); (case kb => first | assumption | k_dflt assumption | k_dflt omega))
  | (refine shlX ?ka ?kb ?_; (case ka => first | assumption | k_dflt assumption | k_dflt omega); (case kb => first | assumption | k_dflt assumption | k_dflt omega)))
local macro_rules | `(tactic| walk_at "binaryOp RShift int int") => `(tactic| first
  | (refine' shrE ?kz ?ka ?_; (case kz => first | assumption | k_dflt assumption); (case ka => first | assumption | k_dflt assumption | k_dflt omega))
  | (refine shrX ?ka ?_; (case ka => first | assumption | k_dflt assumption | k_dflt omega)))
local macro_rules | `(tactic| walk_at "binaryOp Pow int int") => `(tactic| first
  | (refine' powE ?kz ?ka ?kb ?_; (case kz => first | assumption | k_dflt assumption); (case ka => first | assumption | k_dflt assumption | k_dflt decide | k_dflt omega); (case kb => first | assumption | k_dflt assumption | k_dflt decide | k_dflt omega))
  | (refine powX ?ka ?kb ?_; (case ka => first | assumption | k_dflt assumption | k_dflt decide | k_dflt omega); (case kb => first | assumption | k_dflt assumption | k_dflt decide | k_dflt omega)))
local macro_rules | `(tactic| walk_at "call builtin:math.isqrt") => `(tactic| (refine isqrtX ?ka ?kb ?_; (case ka => assumption); (case kb => assumption)))
local macro_rules | `(tactic| walk_at "binaryOp BitOr int bool") => `(tactic| (refine or_int_bool ?_))
local macro_rules | `(tactic| walk_at "binaryOp Div int int") => `(tactic| (refine tdivX ?kh ?ka ?kb ?kc ?_; (case kh => k_dflt rfl); (case ka => first | assumption | k_dflt assumption | k_dflt omega); (case kb => first | assumption | k_dflt assumption | k_dflt decide | k_dflt omega); (case kc => assumption)))
local macro_rules | `(tactic| walk_at "getMethod float") => `(tactic| (refine getMethod_air ?_))
local macro_rules | `(tactic| walk_at "call builtin:float.as_integer_ratio") => `(tactic| (k_here; k_dflt (refine' call_air ?F ?N ?d ?r ?_; (case F => k_asm); (case N => k_asm); (case d => assumption); (case r => assumption); k_whole); intro h' T' tk' F' N' l1; (try k_lt l1); (try k_sweep)))
local macro_rules | `(tactic| walk_at "call builtin:abs") => `(tactic| (refine' absE ?kz ?_; (case kz => first | assumption | k_dflt assumption); intro u' tk'))
section
variable {prog : Program} {w : World} {p : Program} {loose : List Str} {mean : ExcName → Option Value} {mg mb : Str → Option Value} {news : List (Addr × Obj)}
  {dp un : Nat} {gd : Option (List Code)} {cn : Str} {cs : Scope} {L a : Addr} {ccd : Value} {cl : List (Str × Addr)} {outer : List Env} {A₀ : Around} {base h₀ : Heap} {lm : Str → Option Value} {s : Shared} {Q E : Value → Shared → Prop}
theorem rto2 {n m : Int} {t u : Tok} (B : Below A₀ base outer h₀) (F : Fr h₀ L s.heap lm) (X : (hd2.heap_39 w.params).In h₀) (N : News h₀ L s.heap news) (T : Top p loose mean mg mb h₀)
    (hk : cs.kind = .function) (hd : dp + 1 < recursionLimit) (_hu : un + 8 < cLine)
    (hs : Sg n m) (hq : intBits (n.fdiv m) ≤ 13000) (hp : intBits m ≤ 9000 ∨ intBits n ≤ intBits m + 4000) (hm : intBits m ≤ 2 ^ 26) (hret : CbRet h₀ L lm news s Q (fun t => .int ((rtoN n.natAbs m.natAbs : Nat) : Int) t)) :
    wpAny (model prog w) (ktrTop dp un gd cn cs L a ccd cl outer) (call (.ref 49) [.int n t, .int m u]) Q E s := by
  dsimp only [CbRet] at hret
  have f1 : m ≠ 0 := hs.ne
  have f2 := noPy_of hp
  have f3 : 0 ≤ n.fdiv m := by rw [hs.fdiv]; exact Int.natCast_nonneg _
  have f4 := bl_root hq
  have f5 : intBits ((Float64.isqrt (n.fdiv m).toNat : Nat) : Int) + intBits ((Float64.isqrt (n.fdiv m).toNat : Nat) : Int) ≤ 2 ^ 27 := by omega
  have f6 : intBits (((Float64.isqrt (n.fdiv m).toNat : Nat) : Int) * ((Float64.isqrt (n.fdiv m).toNat : Nat) : Int)) + intBits m ≤ 2 ^ 27 := by
    have := bl_mul ((Float64.isqrt (n.fdiv m).toNat : Nat) : Int) ((Float64.isqrt (n.fdiv m).toNat : Nat) : Int)
    omega
  refine wpAny_call ?_
  k_dflt cell_enter
  k_steps
  exact cb_retI hret (rto_val hs) (by assumption) (by assumption)
end
section
section
variable {prog : Program} {w : World} {A : Around} {E : Value → Shared → Prop} {s : Shared} {a b c n : Int} {t u : Tok} {Q : Value → Shared → Prop}
theorem divA (he : a / b = c) (hb : 0 < b) (hp : intBits b ≤ 9000 ∨ intBits a ≤ intBits b + 4000) (h : ∀ u' tk, Q (.int c u') { s with toks := tk }) : wpAny (model prog w) A (binaryOp .FloorDiv (.int a t) (.int b u)) Q E s := divE he hb hp (h _ _)
theorem geC {v : Bool} (he : decide (b ≤ a) = v) (h : Q (.bool v) s) : wpAny (model prog w) A (compareOp .GtE (.int a t) (.int b u)) Q E s := by
  subst he; exact ge_int h
theorem addBo {b : Bool} (he : a + (if b = true then 1 else 0) = c) (h : ∀ u' tk, Q (.int c u') { s with toks := tk }) : wpAny (model prog w) A (binaryOp .Add (.int a t) (.bool b)) Q E s := by
  subst he; exact add_int_bool (h _ _)
theorem same_reflected_int_bool_sub : reflectedDiffers (.type "int") (.type "bool") "sub" = pure false := by
  unfold reflectedDiffers
  show (typeLookup (.type "bool") (dunderR "sub") >>= fun rb => typeLookup (.type "int") (dunderR "sub") >>= fun ra => pure (rb.isSome && rb != ra)) = pure false
  rw [typeLookup_type, typeLookup_type, builtinLookup_eq_fast]; kernel_rfl
theorem subBo {b : Bool} (he : a - (if b = true then 1 else 0) = c) (h : ∀ u' tk, Q (.int c u') { s with toks := tk }) : wpAny (model prog w) A (binaryOp .Sub (.int a t) (.bool b)) Q E s := by
  subst he
  exact binaryOp_sub_gives (op := .Sub) (T := "int") (U := "bool") (by decide) (typeIs_int s a t) rfl F.fills_int_sub F.fills_bool_sub isSubtype_bool_int same_reflected_int_bool_sub F.slot_int_sub F.entry_int_sub (F.args_int_sub_2 _ _)
    (AutoIntG7.int___sub___int_bool_0 a t b) trivial (h _ _)
theorem item_wrap {value slice : PySem.Expr} {L l : Addr} {h₀ : Heap} {lo : Obj} {vs : List Value} {ns : List Int} {nn : Nat} {news : List (Addr × Obj)} {k c : Int} (N : News h₀ L s.heap news) (hm : (l, lo) ∈ news) (hc' : lo.cls = .type "list") (hd : lo.data = .seq vs.toArray nn) (hi : IntsAre vs ns) (hc : ItemAt ns k c)
    (h : ∀ t, Q (.int c t) s) (hs : subscripted slice false (.ref l) (.int k u) = operate [.ref l, .int k u] (getItem (.ref l) (.int k u)) := by with_unfolding_all rfl) :
    wpAny (model prog w) A (subscriptTail value slice (.ref l) (.int k u)) Q E s := by
  have hl : s.heap.IsList l vs.toArray := ⟨lo, (N _ hm).1, hc', nn, hd⟩
  rcases hc with ⟨h0, h1, h2⟩ | ⟨h0, h1, h2, h3⟩
  · exact item_at hl hi h0 h1 h2 h hs
  · obtain ⟨t, ht⟩ := hi.get _ c h3
    have hlen := hi.length
    exact tail_any hl.typeIs slot_list_getitem.lookup (wpAny_getItem_list_neg hl h0 (by simpa [hlen] using h1) h2 (by simpa [hlen] using ht) (h t)) hs
end
local macro_rules | `(tactic| walk_at "exec For") => `(tactic| (k_here; (rename Fr _ _ _ _ => lF'); (with_unfolding_all refine' For_turns lF' ?_; k_whole)))
local macro_rules | `(tactic| walk_at "exec For Tuple Call cons nil") => `(tactic| (k_here; (rename Fr _ _ _ _ => lF'); (with_unfolding_all refine' For_turns lF' ?_; k_whole)))
local macro_rules | `(tactic| walk_at "exec For Tuple List cons nil") => `(tactic| (k_here; (rename Fr _ _ _ _ => lF'); (with_unfolding_all refine' For_turns lF' ?_; k_whole)))
local macro_rules | `(tactic| walk_at "exec For Name List cons nil") => `(tactic| (k_here; (rename Fr _ _ _ _ => lF'); (with_unfolding_all refine' For_turns lF' ?_; k_whole)))
local macro_rules | `(tactic| walk_at "exec For Name Tuple cons nil") => `(tactic| (k_here; (rename Fr _ _ _ _ => lF'); (with_unfolding_all refine' For_turns lF' ?_; k_whole)))
local macro_rules | `(tactic| walk_at "exec For Name Call cons nil") => `(tactic| (k_here; (rename Fr _ _ _ _ => lF'); (with_unfolding_all refine' For_turns lF' ?_; k_whole)))
local macro_rules | `(tactic| walk_at "exec For Name Name cons nil") => `(tactic| (k_here; (rename Fr _ _ _ _ => lF'); (with_unfolding_all refine' For_turns lF' ?_; k_whole)))
local macro_rules | `(tactic| walk_at "call type:zip") => `(tactic| ((with_reducible show wpAny _ _ (call (Value.type _) [Value.ref _, Value.ref _]) (fun xv s₁ => wpAny _ _ (pyIter xv) (fun it s₂ => TurnsAt _ _ _ _ _ _ _ _ _ it s₂) _ s₁) _ _); refine stop ?_))
local macro_rules | `(tactic| walk_at "pyIter ref") => `(tactic| ((with_reducible show wpAny _ _ (pyIter (Value.ref _)) (fun it s₂ => TurnsAt _ _ _ _ _ _ _ _ _ it s₂) _ _); refine stop ?_))
local macro_rules | `(tactic| walk_at "binaryOp Mult int int") => `(tactic| first | (refine' mulA ?kz ?ka ?_; (case kz => k_dflt assumption); (case ka => k_dflt assumption); intro _ _; (try dsimp only)) | (refine mulX ?ka ?_; (case ka => (apply_assumption <;> omega))))
local macro_rules | `(tactic| walk_at "binaryOp Add int int") => `(tactic| first | (refine' addA ?kz ?_; (case kz => k_dflt assumption); intro _ _; (try dsimp only)))
local macro_rules | `(tactic| walk_at "binaryOp Sub int int") => `(tactic| first | (refine' subA ?kz ?_; (case kz => k_dflt assumption); intro _ _; (try dsimp only)))
local macro_rules | `(tactic| walk_at "binaryOp Mod int int") => `(tactic| first | (refine' modA ?kz ?ka ?_; (case kz => k_dflt assumption); (case ka => k_dflt assumption); intro _ _; (try dsimp only)))
local macro_rules | `(tactic| walk_at "binaryOp Pow int int") => `(tactic| first | (refine' powA ?kz ?ka ?kb ?_; (case kz => k_dflt assumption); (case ka => k_dflt assumption); (case kb => k_dflt assumption); intro _ _; (try dsimp only)))
local macro_rules | `(tactic| walk_at "binaryOp LShift int int") => `(tactic| first | (refine' shlA ?kz ?ka ?kb ?_; (case kz => k_dflt assumption); (case ka => k_dflt assumption); (case kb => k_dflt assumption); intro _ _; (try dsimp only)) | (refine shlX ?ka ?kb ?_; (case ka => (apply_assumption <;> omega)); (case kb => (apply_assumption <;> omega))))
local macro_rules | `(tactic| walk_at "binaryOp RShift int int") => `(tactic| first | (refine' shrA ?kz ?ka ?_; (case kz => k_dflt assumption); (case ka => k_dflt assumption); intro _ _; (try dsimp only)))
local macro_rules | `(tactic| walk_at "binaryOp FloorDiv int int") => `(tactic| first | (refine' divA ?kz ?ka ?kb ?_; (case kz => k_dflt assumption); (case ka => first | k_dflt assumption | k_dflt decide); (case kb => first | k_dflt assumption | k_dflt exact Or.inl (by decide)); intro _ _; (try dsimp only)))
local macro_rules | `(tactic| walk_at "compareOp GtE int int") => `(tactic| (refine' geC ?kz ?_; (case kz => k_dflt assumption)))
local macro_rules | `(tactic| walk_at "binaryOp Add int bool") => `(tactic| (refine' addBo ?kz ?_; (case kz => k_dflt assumption); intro _ _; (try dsimp only)))
local macro_rules | `(tactic| walk_at "binaryOp Sub int bool") => `(tactic| (refine' subBo ?kz ?_; (case kz => k_dflt assumption); intro _ _; (try dsimp only)))
local macro_rules | `(tactic| walk_at "subscriptTail Name BinOp ref int") => `(tactic| (k_here; (with_reducible show wpAny _ _ (subscriptTail _ _ (Value.ref _) (Value.int _ _)) _ _ _); k_dflt (refine' item_wrap ?zN ?zm ?zq ?zd ?zi ?zc ?_ ?zh; (case zN => k_asm); (case zm => k_mem); (case zq => exact rfl); (case zd => exact rfl); (case zi => assumption); (case zc => assumption); (case zh => with_unfolding_all rfl); (intro t'))))
local macro_rules | `(tactic| walk_at "subscriptTail Name Name ref int") => `(tactic| (k_here; (with_reducible show wpAny _ _ (subscriptTail _ _ (Value.ref _) (Value.int _ _)) _ _ _); k_dflt (refine' item_wrap ?zN ?zm ?zq ?zd ?zi ?zc ?_ ?zh; (case zN => k_asm); (case zm => k_mem); (case zq => exact rfl); (case zd => exact rfl); (case zi => assumption); (case zc => assumption); (case zh => with_unfolding_all rfl); (intro t'))))
local macro_rules | `(tactic| walk_at "eval ListComp") => `(tactic| (k_here; k_dflt (refine LCg.ListComp_U (F₀ := by k_asm) (by with_unfolding_all rfl) (by decide) (by rfl) (by decide) (by rfl) ?_)))
local macro_rules | `(tactic| walk_at "CompSrc") => `(tactic| (refine stop ?_))
section
variable {prog : Program} {w : World} {p : Program} {loose : List Str} {mean : ExcName → Option Value} {mg mb : Str → Option Value} {news : List (Addr × Obj)}
  {dp un : Nat} {gd : Option (List Code)} {cn : Str} {cs : Scope} {L a : Addr} {ccd : Value} {cl : List (Str × Addr)} {outer : List Env} {A₀ : Around} {base h₀ : Heap} {lm : Str → Option Value} {s : Shared} {Q E : Value → Shared → Prop}
theorem rto2E {n m r : Int} {t u : Tok} (B : Below A₀ base outer h₀) (F : Fr h₀ L s.heap lm) (X : (hd2.heap_39 w.params).In h₀) (N : News h₀ L s.heap news) (T : Top p loose mean mg mb h₀)
    (hk : cs.kind = .function) (hd : dp + 1 < recursionLimit) (_hu : un + 8 < cLine)
    (ok : RtoOK n m) (he : rtoI n m = r) (hret : CbRet h₀ L lm news s Q (fun t => .int r t)) :
    wpAny (model prog w) (ktrTop dp un gd cn cs L a ccd cl outer) (call (.ref 49) [.int n t, .int m u]) Q E s := by
  subst he; exact rto2 B F X N T hk hd _hu ok.hs ok.hq ok.hp ok.hm hret
end
local macro_rules | `(tactic| walk_at "call ref") => `(tactic| (k_here; (with_reducible show wpAny _ _ (call (Value.ref 49) [Value.int _ _, Value.int _ _]) _ _ _); k_dflt (refine' rto2E ?B ?F ?X ?N ?T ?k ?d ?u ?q0 ?q1 ?_; (case B => k_asm); (case F => k_asm); (case X => k_asm); (case N => k_asm); (case T => k_asm); (case k => exact rfl); (case d => ktr_room); (case u => ktr_units); (case q0 => assumption); (case q1 => assumption); (intro t9 h9 tk9 F9 N9; (try dsimp only); (try k_fold)))))

theorem law2 : PySem.Challenge.rw_kq0022_02.Holds := hd2 (by
  have i2 : intBits 2 = 2 := bl_two
  have eZ0 : ∃ Z, (10 : Int) ^ (300 : Int).toNat = Z ∧ 0 < Z ∧ Z < 2 ^ 1000 := ⟨_, rfl, by decide, by decide⟩
  obtain ⟨Z, eZ, hZ0, hZ2⟩ := eZ0
  have eY0 : ∃ Z, (10 : Int) ^ (100 : Int).toNat = Z ∧ 0 < Z ∧ Z < 2 ^ 400 := ⟨_, rfl, by decide, by decide⟩
  obtain ⟨Y, eY, hY0, hY2⟩ := eY0
  have h02 : (0 : Int) < 2 := by decide
  have e11 : ((1 : Int) == 1) = true := by decide
  have e01 : ((0 : Int) == 1) = false := by decide
  have e00 : ((0 : Int) == 0) = true := by decide
  have e10 : ((1 : Int) == 0) = false := by decide
  k_go0
  (all_goals try k_fold)
  k_steps
  unfold Stop
  k_dflt (refine LCg.CompSrc.base (by rfl) (by k_asm) (by k_asm) (by assumption) (by size_fits) ?_)
  intro g'
  (refine' kcf_list _ (by assumption) (fun k' t' I' oI' C' oC' D' m' ys' h' tk' E' hk' hC' hx' F' N' off' ne' hMark' => ?_) ?_)
  (all_goals (try (simp only [LCg.Off3, and_true] at off')))
  kcf_last
  k_steps
  unfold Stop
  rename IntsAre _ (List.map _ _ ++ [0, 9, 2]) => hI
  rename ¬ ((63 : Nat) : Int) < ((List.length _ : Nat) : Int) => h63
  have hr := row_facts hI h63
  clear hI
  obtain ⟨ns, hns, hI, hrow, h3, h66⟩ := hr
  rename Fr _ _ _ _ => hF
  obtain ⟨_, FF⟩ := knows1 (x := Str.ofString "row") hF (by with_unfolding_all rfl)
  clear hF
  refine range_led [Str.ofString "row"] rfl (by assumption) (small_one (by omega) (by omega) (by omega) (by omega)) (rangeSize_nat _ _) FF (by assumption) ?_ ?_
  · intro I o i ti m₁ h tk hlt hi F₁ N₁
    try simp only [List.cons_append, List.nil_append] at N₁
    have hi' : i < ns.length := by have := hi; simp only [Int.sub_zero, Int.toNat_natCast] at this; omega
    rw [Int.zero_add]
    clear FF
    obtain ⟨_, FF⟩ := knows1 (x := Str.ofString "row") F₁ (by with_unfolding_all rfl)
    clear F₁
    have hw := row_items hrow hi' h3 (by omega)
    obtain ⟨k1, k2, c0, c1, c2, ek1, ek2, ic0, ic1, ic2, p0, p1, p2⟩ := hw
    have ht := turn1 hZ0 hZ2 hY0 hY2 p0 p1 p2
    obtain ⟨x, y, z, t, xx, ww, xw, hh, near, x1, w2, x2, n1, n2, ex, ey, ez, et, exx, sxx, ew, h40, exw, eh, enear, ex1, ew2, sw2, ex2, en1, en2, uv1, uv2, t0, tb, y0, yb⟩ := ht
    k_steps
    clear ex ey ez exx sxx ew h40 exw eh enear ex1 ew2 sw2 ex2 en1 en2 ek1 ek2 ic0 ic1 ic2 et
    unfold Stop
    rename Fr _ _ _ _ => hF
    try dsimp only at hF
    refine list_keep (vs := [_, _]) [Str.ofString "row", Str.ofString "y", Str.ofString "t"] rfl hF (by assumption) (by k_mem) rfl rfl ?_ ?_
    · intro j v₂ m₂ h₂ tk₂ own hv F₂ N₂
      try simp only [List.cons_append, List.nil_append] at N₂
      have hT := pick2 N₂ hv uv1 uv2
      obtain ⟨T, u, v, tu, tv, hv', N₂', uv⟩ := hT
      clear N₂ hv uv1 uv2
      subst hv'
      obtain ⟨_, FF2⟩ := knows3 (x0 := Str.ofString "row") (x1 := Str.ofString "y") (x2 := Str.ofString "t") F₂ (by with_unfolding_all rfl) (by with_unfolding_all rfl) (by with_unfolding_all rfl)
      clear F₂
      have h2 := turn2 uv t0 tb
      obtain ⟨N, u4, u4v, q, r, r1, b0, bm, bms, bs, sm, mid, mid1, eN, sN, eu4, su4, eu4v, su4v, eq, sq', okq, er, er1, eb0, ebm, ebms, sbm, ebs, sbs, d1, d2, esm, emid, emid1, hPr⟩ := h2
      k_steps
      clear uv eu4 su4 eu4v su4v eq sq' okq er er1 eb0 ebm ebms sbm ebs sbs d1 d2 esm emid
      unfold Stop
      try clear FF2
      rename Fr _ _ _ _ => hF
      obtain ⟨_, FF3⟩ := knows7 (x0 := Str.ofString "found") (x1 := Str.ofString "row") (x2 := Str.ofString "y") (x3 := Str.ofString "t") (x4 := Str.ofString "u") (x5 := Str.ofString "v") (x6 := Str.ofString "begin") hF (by with_unfolding_all rfl) (by with_unfolding_all rfl) (by with_unfolding_all rfl) (by with_unfolding_all rfl) (by with_unfolding_all rfl) (by with_unfolding_all rfl) (by with_unfolding_all rfl)
      clear hF
      refine range_found [Str.ofString "row", Str.ofString "y", Str.ofString "t", Str.ofString "u", Str.ofString "v", Str.ofString "begin"] (fun i vs => St2 N b0 i vs) rfl (by assumption) (rangeSize_sub _ _) FF3 (by assumption) St2.zero ?_ ?_
      · intro I₂ o₂ i₂ t₂ lf vsf m₃ h₃ tk₃ hol hot hi₂ hJ F₃ N₃
        simp only [List.cons_append, List.nil_append] at N₃
        clear FF3
        obtain ⟨_, FF4⟩ := knows7 (x0 := Str.ofString "found") (x1 := Str.ofString "row") (x2 := Str.ofString "y") (x3 := Str.ofString "t") (x4 := Str.ofString "u") (x5 := Str.ofString "v") (x6 := Str.ofString "begin") F₃ (by with_unfolding_all rfl) (by with_unfolding_all rfl) (by with_unfolding_all rfl) (by with_unfolding_all rfl) (by with_unfolding_all rfl) (by with_unfolding_all rfl) (by with_unfolding_all rfl)
        clear F₃
        rw [← emid1] at hi₂
        have h3 := turn3 hPr hi₂ y0
        obtain ⟨a, aa, d, sq, sqt, tw, pt, npt, ea, eaa, saa, ed, esq, ssq, esqt, ssqt, okt, etw, ept, enpt, ok1, ok2, hev⟩ := h3
        subst enpt
        rw [ea]
        k_steps
        clear eaa saa ed esq ssq okt etw ept
        unfold Stop
        try clear FF4
        rename Fr _ _ _ _ => hF
        refine list_keep (vs := [_, _]) [Str.ofString "row", Str.ofString "y", Str.ofString "t", Str.ofString "u", Str.ofString "v", Str.ofString "begin", Str.ofString "found", Str.ofString "a", Str.ofString "square", Str.ofString "twice"] rfl hF (by assumption) (by k_mem) rfl rfl ?_ ?_
        · intro j' v₃ m₄ h₄ tk₄ own₂ hv F₄ N₄
          try simp only [List.cons_append, List.nil_append] at N₄
          have hp := pickp hv ok1 ok2
          obtain ⟨p, tp, hv', sp, e1, due, esp, ee1, edue, hcase⟩ := hp
          clear hv ok1 ok2 hev hJ
          subst hv'
          obtain ⟨_, FF5⟩ := knows10 (x0 := Str.ofString "row") (x1 := Str.ofString "y") (x2 := Str.ofString "t") (x3 := Str.ofString "u") (x4 := Str.ofString "v") (x5 := Str.ofString "begin") (x6 := Str.ofString "found") (x7 := Str.ofString "a") (x8 := Str.ofString "square") (x9 := Str.ofString "twice") F₄ (by with_unfolding_all rfl) (by with_unfolding_all rfl) (by with_unfolding_all rfl) (by with_unfolding_all rfl) (by with_unfolding_all rfl) (by with_unfolding_all rfl) (by with_unfolding_all rfl) (by with_unfolding_all rfl) (by with_unfolding_all rfl) (by with_unfolding_all rfl)
          clear F₄
          have ne1 := bne_self_eq_false tw
          have ne2 := bne_self_eq_false due
          rcases hcase with ⟨g1, g2⟩ | ⟨g1, g2⟩ | ⟨g1, g2, g3, g4⟩ | ⟨g1, g2, g3, g4⟩
          k_steps
          all_goals exact TP.next (by assumption) (by assumption) (fun _ hp => hp) (by with_unfolding_all rfl)
        · intro m₄ h₄ tk₄ F₄ N₄
          clear ok1 ok2
          obtain ⟨_, FF5⟩ := knows10 (x0 := Str.ofString "row") (x1 := Str.ofString "y") (x2 := Str.ofString "t") (x3 := Str.ofString "u") (x4 := Str.ofString "v") (x5 := Str.ofString "begin") (x6 := Str.ofString "found") (x7 := Str.ofString "a") (x8 := Str.ofString "square") (x9 := Str.ofString "twice") F₄ (by with_unfolding_all rfl) (by with_unfolding_all rfl) (by with_unfolding_all rfl) (by with_unfolding_all rfl) (by with_unfolding_all rfl) (by with_unfolding_all rfl) (by with_unfolding_all rfl) (by with_unfolding_all rfl) (by with_unfolding_all rfl) (by with_unfolding_all rfl)
          clear F₄
          unfold St2 at hJ
          rw [ea] at hJ
          rcases hev with ⟨g2, b, f0, f1, eb, ef0, ef1, hFo⟩ | ⟨g2, hno⟩ <;> rcases hJ with ⟨hvs, hx⟩ | ⟨g0, g1, t0', t1', hvs, hFo'⟩ <;> subst hvs
          k_steps
          all_goals first
            | exact SP.found (by assumption) (by assumption) (.head _) (fun _ hp => .tail _ (.tail _ (.tail _ (.tail _ hp)))) (by simp) hol (by with_unfolding_all rfl) (by with_unfolding_all rfl) (St2.stay (hFo (by assumption)))
            | exact SP.found (by assumption) (by assumption) (.tail _ (.tail _ (.head _))) (fun _ hp => .tail _ (.tail _ (.tail _ hp))) (by simp) hol (by with_unfolding_all rfl) (by with_unfolding_all rfl) (St2.stay (by assumption))
            | exact SP.found (by assumption) (by assumption) (.tail _ (.head _)) (fun _ hp => .tail _ (.tail _ hp)) (by simp) hol (by with_unfolding_all rfl) (by with_unfolding_all rfl) (St2.stay (by assumption))
            | exact SP.found (vs := []) (by assumption) (by assumption) (.tail _ (.head _)) (fun _ hp => .tail _ (.tail _ hp)) (by simp) hol (by with_unfolding_all rfl) (by with_unfolding_all rfl) (St2.none (by assumption) ea (by assumption))
            | (rename decide (_ = _) = true => hbad; exact absurd hbad (by simp))
            | trace_state
      · intro lf vsf m₃ h₃ tk₃ hJ F₃ N₃
        clear FF3
        obtain ⟨_, FF4⟩ := knows7 (x0 := Str.ofString "found") (x1 := Str.ofString "row") (x2 := Str.ofString "y") (x3 := Str.ofString "t") (x4 := Str.ofString "u") (x5 := Str.ofString "v") (x6 := Str.ofString "begin") F₃ (by with_unfolding_all rfl) (by with_unfolding_all rfl) (by with_unfolding_all rfl) (by with_unfolding_all rfl) (by with_unfolding_all rfl) (by with_unfolding_all rfl) (by with_unfolding_all rfl)
        clear F₃
        have hd := St2.done hPr (by have := hPr.le; omega) hJ
        obtain ⟨f0, f1, t0', t1', hvs, hFo⟩ := hd
        subst hvs
        have h4 := turn4 hPr hFo
        obtain ⟨f01, b39, b01, ef, sf, eNN, ef01, eb39, eb01, f00, f01'⟩ := h4
        k_steps
        · rename decide (_ = _) = true => hbad
          simp at hbad
        · unfold Stop
          try clear FF4
          rename IsRange _ _ _ _ _ _ _ _ => hr
          have hm := max_facts b39 f01
          obtain ⟨mx, emx, hmx⟩ := hm
          rw [emx] at hr
          rename Fr _ _ _ _ => hF
          refine range_plain [Str.ofString "row", Str.ofString "y", Str.ofString "t", Str.ofString "u", Str.ofString "v"] rfl hr (rangeSize_sub _ _) hF (by assumption) ?_ ?_
          · intro I₃ o₃ i₃ t₃ m₄ h₄ tk₄ hi₃ F₄ N₄
            simp only [List.cons_append, List.nil_append] at N₄
            obtain ⟨_, FF6⟩ := knows5 (x0 := Str.ofString "row") (x1 := Str.ofString "y") (x2 := Str.ofString "t") (x3 := Str.ofString "u") (x4 := Str.ofString "v") F₄ (by with_unfolding_all rfl) (by with_unfolding_all rfl) (by with_unfolding_all rfl) (by with_unfolding_all rfl) (by with_unfolding_all rfl)
            clear F₄
            have hp0 : ∃ p, mx + (i₃ : Int) = p := ⟨_, rfl⟩
            obtain ⟨p, ep⟩ := hp0
            rw [ep]
            have h5 := turn5 (p := p) hPr hFo f00 (by omega) (by omega)
            obtain ⟨pp, m, qq, pq, e, epp, spp, em, p0, eqq, sqq, epq, ee, h22, hcase⟩ := h5
            rcases hcase with g1 | ⟨g1, g2 | ⟨g2, g3⟩⟩
            k_steps
            all_goals exact SP.plain (by assumption) (by assumption) (fun _ hp => hp) (by with_unfolding_all rfl)
          · intro m₄ h₄ tk₄ F₄ N₄
            k_steps
            exact TP.next (by assumption) (by assumption) (fun _ hp => .tail _ (.tail _ (.tail _ (.tail _ hp)))) (by with_unfolding_all rfl)
    · intro m₂ h₂ tk₂ F₂ N₂
      k_steps
      exact TP.next (by assumption) (by assumption) (fun _ hp => .tail _ (.tail _ (.tail _ (.tail _ hp)))) (by with_unfolding_all rfl)
  · intro m₁ h tk F₁ N₁
    k_steps
    )

end
end Mine
theorem PySem.Challenge.cw_kq0022_02_holds : PySem.Challenge.rw_kq0022_02.Holds := by
  exact Mine.law2
