import PyProof.Rows.All
import Wide.All
import OpenK.AllK
import Wide.FinOn
import Lean
import PySem.Challenge.RW_bw0023_01
open PySem PySem.W PySem.Spec PySem.Calls PyProof.Rows
set_option Elab.async false
set_option maxRecDepth 100000
set_option maxHeartbeats 8000000
namespace Mine
open_top hd for PySem.Challenge.rw_bw0023_01
/-! contracts -/
def Ctr (w : World) (f : Addr) (need : Nat) (vs : List Value) (news : List (Addr × Obj)) (R : Value → List (Addr × Obj) → Prop) : Prop :=
  ∀ (loose : List Str) (mean : ExcName → Option Value) (mg mb : Str → Option Value) (dp un : Nat) (gd : Option (List Code)) (cn : Str) (cs : Scope) (a : Addr) (ccd : Value) (cl : List (Str × Addr)) (outer : List Env) (A₀ : Around) (base h₀ : Heap) (L : Addr) (m : Str → Option Value) (s : Shared) (Q E : Value → Shared → Prop),
    Below A₀ base outer h₀ → Fr h₀ L s.heap m → (Mine.hd.heap_39 w.params).In h₀ → News h₀ L s.heap news → Top Mine.hd.view_39 loose mean mg mb h₀ → cs.kind = .function →
    dp + need < recursionLimit → un + 8 * need < cLine →
    (∀ v nx h' tk', Fr h₀ L h' m → News h₀ L h' nx → (∀ p ∈ news, p ∈ nx) → R v nx → Q v { s with heap := h', toks := tk' }) →
    wpAny (model PySem.Challenge.rw_bw0023_01.row.prog w) (ktrTop dp un gd cn cs L a ccd cl outer) (call (.ref f) vs) Q E s

theorem ctr_use {w : World} {f : Addr} {need : Nat} {vs : List Value} {news : List (Addr × Obj)} {R : Value → List (Addr × Obj) → Prop} (C : Ctr w f need vs news R)
    {loose : List Str} {mean : ExcName → Option Value} {mg mb : Str → Option Value} {dp un : Nat} {gd : Option (List Code)} {cn : Str} {cs : Scope} {a : Addr} {ccd : Value} {cl : List (Str × Addr)} {outer : List Env} {A₀ : Around} {base h₀ : Heap} {L : Addr} {m : Str → Option Value} {s : Shared} {Q E : Value → Shared → Prop}
    (B : Below A₀ base outer h₀) (F : Fr h₀ L s.heap m) (X : (Mine.hd.heap_39 w.params).In h₀) (N : News h₀ L s.heap news) (T : Top Mine.hd.view_39 loose mean mg mb h₀) (hk : cs.kind = .function)
    (hd : dp + need < recursionLimit) (hu : un + 8 * need < cLine)
    (hret : ∀ v nx h' tk', Fr h₀ L h' m → News h₀ L h' (nx ++ news) → R v nx → Q v { s with heap := h', toks := tk' }) :
    wpAny (model PySem.Challenge.rw_bw0023_01.row.prog w) (ktrTop dp un gd cn cs L a ccd cl outer) (call (.ref f) vs) Q E s := C _ _ _ _ _ _ _ _ _ _ _ _ _ _ _ _ _ _ _ _ _ B F X N T hk hd hu
    fun v nx h' tk' F N s R => hret v nx h' tk' F (fun p hp => (List.mem_append.mp hp).elim (N p) fun h => N p (s p h)) R

theorem Ctr.mono {w : World} {f : Addr} {need : Nat} {vs : List Value} {news : List (Addr × Obj)} {R R' : Value → List (Addr × Obj) → Prop} (C : Ctr w f need vs news R) (h : ∀ v nx, R v nx → R' v nx) : Ctr w f need vs news R' :=
  fun _ _ _ _ _ _ _ _ _ _ _ _ _ _ _ _ _ _ _ _ _ B F X N T hk hd hu hret => C _ _ _ _ _ _ _ _ _ _ _ _ _ _ _ _ _ _ _ _ _ B F X N T hk hd hu fun v nx h' tk' F N s r => hret v nx h' tk' F N s (h v nx r)
inductive Way | n | f | c | u | d
def Way.str : Way → Str
  | .n => Str.ofString "n" | .f => Str.ofString "f" | .c => Str.ofString "c" | .u => Str.ofString "u" | .d => Str.ofString "d"

structure M4 where
  s : Int
  m : Int
  e : Int
  b : Int
abbrev t4 (a b c d : Int) (ta tb tc td : Tok) (n : Nat) : Obj := { cls := .type "tuple", data := .seq #[.int a ta, .int b tb, .int c tc, .int d td] n }
def V4 (x : M4) (v : Value) (nx : List (Addr × Obj)) : Prop :=
  (x = ⟨0, 0, 0, 0⟩ ∧ v = .ref 22) ∨ ∃ D ta tb tc td n, v = .ref D ∧ (D, t4 x.s x.m x.e x.b ta tb tc td n) ∈ nx
theorem V4.mono {x : M4} {v : Value} {nx ny : List (Addr × Obj)} (h : V4 x v nx) (s : ∀ p ∈ nx, p ∈ ny) : V4 x v ny :=
  h.imp id fun ⟨D, ta, tb, tc, td, n, e, m⟩ => ⟨D, ta, tb, tc, td, n, e, s _ m⟩
theorem V4.left {x : M4} {v : Value} {nx ny : List (Addr × Obj)} (h : V4 x v nx) : V4 x v (nx ++ ny) := h.mono fun _ h => List.mem_append.mpr (.inl h)
theorem V4.right {x : M4} {v : Value} {nx ny : List (Addr × Obj)} (h : V4 x v ny) : V4 x v (nx ++ ny) := h.mono fun _ h => List.mem_append.mpr (.inr h)
theorem V4.tail {x : M4} {v : Value} {p : Addr × Obj} {ny : List (Addr × Obj)} (h : V4 x v ny) : V4 x v (p :: ny) := h.mono fun _ h => List.mem_cons_of_mem _ h
theorem V4.zero {nx : List (Addr × Obj)} : V4 ⟨0, 0, 0, 0⟩ (.ref 22) nx := .inl ⟨rfl, rfl⟩
theorem V4.mk {x : M4} {a b c d : Int} {ta tb tc td : Tok} {n : Nat} {D : Addr} {nx : List (Addr × Obj)} (e : x = ⟨a, b, c, d⟩) (h : (D, t4 a b c d ta tb tc td n) ∈ nx) : V4 x (.ref D) nx := by
  subst e; exact .inr ⟨D, ta, tb, tc, td, n, rfl, h⟩

/-! what the code reckons: words that the walk does not open -/
@[irreducible] def shl (a n : Int) : Int := a * 2 ^ n.toNat
@[irreducible] def shr (a n : Int) : Int := a.fdiv (2 ^ n.toNat)
@[irreducible] def band (a b : Int) : Int := Builtin.bitAnd a b
@[irreducible] def bits (a : Int) : Int := (Builtin.Int.intBits a : Int)
/-- trailing's answer -/
@[irreducible] def twosI (n : Int) : Int := bits (band n (-n)) - 1
@[irreducible] def rmN (man n : Int) : Int :=
  if band (shr man (n - 1)) 1 ≠ 0 ∧ (band (shr man (n - 1)) 2 ≠ 0 ∨ band man (shl 1 (n - 1) - 1) ≠ 0) then shr (shr man (n - 1)) 1 + 1 else shr (shr man (n - 1)) 1
@[irreducible] def rmX (man n sign : Int) : Way → Int
  | .n => rmN man n
  | .f => if sign = 0 then shr man n else -(shr (-man) n)
  | .c => if sign = 0 then -(shr (-man) n) else shr man n
  | .u => -(shr (-man) n)
  | .d => shr man n
@[irreducible] def finX (sign X e b : Int) : M4 :=
  if band X 1 = 0 then ⟨sign, shr X (twosI X), e + twosI X, if shr X (twosI X) = 1 then 1 else b - twosI X⟩
  else ⟨sign, X, e, if X = 1 then 1 else b⟩
@[irreducible] def nrmX (sign man exp bc prec : Int) (way : Way) : M4 :=
  if man = 0 then ⟨0, 0, 0, 0⟩ else finX sign (if 0 < bc - prec then rmX man (bc - prec) sign way else man) (if 0 < bc - prec then exp + (bc - prec) else exp) (if 0 < bc - prec then prec else bc)

theorem tok_any {α : Type} {M : Model} {A : Around} {t : Sem α} {Q : α → Shared → Prop} {E : Value → Shared → Prop} {s : Shared} (h : ∀ tk : Nat, wpAny M A t Q E { s with toks := tk }) : wpAny M A t Q E s := h s.toks
theorem ite_tt0 {A B : Prop} (h : A) : if true = true then A else B := by rw [if_pos rfl]; exact h
theorem ite_ff0 {A B : Prop} (h : B) : if false = true then A else B := by rw [if_neg Bool.false_ne_true]; exact h
theorem ite_ne0 {x : Int} {A B : Prop} (e : x ≠ 0) (h : A) : if (x != 0) = true then A else B := by rw [if_pos (by simpa using e)]; exact h
theorem ite_eq0 {x : Int} {A B : Prop} (e : x = 0) (h : B) : if (x != 0) = true then A else B := by rw [if_neg (by simpa using e)]; exact h
theorem ite_any0 {x : Int} {A B : Prop} (h1 : x ≠ 0 → A) (h2 : x = 0 → B) : if (x != 0) = true then A else B := by
  by_cases e : x = 0
  · exact ite_eq0 e (h2 e)
  · exact ite_ne0 e (h1 e)
@[irreducible] def mulI (a b : Int) : Int := a * b
@[irreducible] def qdiv (a b : Int) : Int := a.fdiv b
@[irreducible] def qmod (a b : Int) : Int := a.fmod b
@[irreducible] def xorI (a b : Int) : Int := Builtin.bitXor a b
@[irreducible] def absI (a : Int) : Int := if a < 0 then -a else a
@[irreducible] def maxI (a b : Int) : Int := if a < b then b else a
@[irreducible] def pw2 (n : Int) : Int := 2 ^ n.toNat
section
variable {prog : Program} {w : World} {A : Around} {s : Shared} {a b n : Int} {t u : Tok} {Q E : Value → Shared → Prop}
theorem r_mul (hm : bits a ≤ 64 ∨ bits b ≤ 64) (h : Q (.int (mulI a b) s.toks) { s with toks := s.toks + 1 }) : wpAny (model prog w) A (binaryOp .Mult (.int a t) (.int b u)) Q E s :=
  mul_int (by unfold mulI at h; exact h) (hm.elim (fun h => IntMulOk.of_left (by unfold bits at h; omega)) fun h => IntMulOk.of_right (by unfold bits at h; omega))
theorem r_imul (hm : bits a ≤ 64 ∨ bits b ≤ 64) (h : Q (.int (mulI a b) s.toks) { s with toks := s.toks + 1 }) : wpAny (model prog w) A (inplaceOp .Mult (.int a t) (.int b u)) Q E s :=
  imul_int (by unfold mulI at h; exact h) (hm.elim (fun h => IntMulOk.of_left (by unfold bits at h; omega)) fun h => IntMulOk.of_right (by unfold bits at h; omega))
theorem noPy {a b : Int} (h : bits b ≤ 9000) : Builtin.divisionGoesByPylong a b = false := PyProof.noPylong_of_log2 (by
  unfold bits Builtin.Int.intBits at h
  by_cases e : b = 0
  · subst e; decide
  · have : (b == 0) = false := by simpa using e
    rw [this] at h
    simp only [Bool.false_eq_true, if_false] at h
    omega)
theorem r_floordiv (hb : b ≠ 0) (hp : bits b ≤ 9000) (h : Q (.int (qdiv a b) s.toks) { s with toks := s.toks + 1 }) : wpAny (model prog w) A (binaryOp .FloorDiv (.int a t) (.int b u)) Q E s :=
  floordiv_int hb (by unfold qdiv at h; exact h) (.inl (noPy hp))
theorem r_mod (hb : b ≠ 0) (h : Q (.int (qmod a b) s.toks) { s with toks := s.toks + 1 }) : wpAny (model prog w) A (binaryOp .Mod (.int a t) (.int b u)) Q E s :=
  mod_int' hb (by unfold qmod at h; exact h)
theorem r_xor (h : Q (.int (xorI a b) s.toks) { s with toks := s.toks + 1 }) : wpAny (model prog w) A (binaryOp .BitXor (.int a t) (.int b u)) Q E s :=
  xor_int (by unfold xorI at h; exact h)
theorem r_ixor (h : Q (.int (xorI a b) s.toks) { s with toks := s.toks + 1 }) : wpAny (model prog w) A (inplaceOp .BitXor (.int a t) (.int b u)) Q E s :=
  ixor_int (by unfold xorI at h; exact h)
theorem r_abs (h : ∀ u tk, Q (.int (absI a) u) { s with toks := tk }) : wpAny (model prog w) A (call (.builtin "abs") [.int a t]) Q E s :=
  call_abs_int (by unfold absI at h; exact h)
theorem r_pow2 (hn : 0 ≤ n) (hn2 : n ≤ 100000) (h : Q (.int (pw2 n) s.toks) { s with toks := s.toks + 1 }) : wpAny (model prog w) A (binaryOp .Pow (.int 2 t) (.int n u)) Q E s :=
  pow_int_small hn (by omega) (by decide) (by unfold pw2 at h; exact h)
theorem r_divmod {h₀ : Heap} {L : Addr} {m : Str → Option Value} {news : List (Addr × Obj)} (F : Fr h₀ L s.heap m) (N : News h₀ L s.heap news) (hb : b ≠ 0) (hp : bits b ≤ 9000)
    (h : ∀ D t1 t2 h', Fr h₀ L h' m → News h₀ L h' ((D, { cls := .type "tuple", data := .seq #[.int (qdiv a b) t1, .int (qmod a b) t2] }) :: news) → Q (.ref D) { s with toks := s.toks + 1 + 1, heap := h' }) :
    wpAny (model prog w) A (call (.builtin "divmod") [.int a t, .int b u]) Q E s :=
  divmod_N F N hb (fun h' F' N' => h _ _ _ h' F' (by unfold qdiv qmod; exact N')) (.inl (noPy hp))
end
section
variable {prog : Program} {w : World} {A : Around} {s : Shared} {a b n : Int} {t u : Tok} {Q E : Value → Shared → Prop}
theorem r_lshift (hn : 0 ≤ n) (hsz : bits a + n ≤ 100000) (h : Q (.int (shl a n) s.toks) { s with toks := s.toks + 1 }) : wpAny (model prog w) A (binaryOp .LShift (.int a t) (.int n u)) Q E s :=
  lshift_int hn (by unfold bits at hsz; omega) (by unfold shl at h; exact h)
theorem r_rshift (hn : 0 ≤ n) (h : Q (.int (shr a n) s.toks) { s with toks := s.toks + 1 }) : wpAny (model prog w) A (binaryOp .RShift (.int a t) (.int n u)) Q E s :=
  rshift_int hn (by unfold shr at h; exact h)
theorem r_irshift (hn : 0 ≤ n) (h : Q (.int (shr a n) s.toks) { s with toks := s.toks + 1 }) : wpAny (model prog w) A (inplaceOp .RShift (.int a t) (.int n u)) Q E s :=
  irshift_int hn (by unfold shr at h; exact h)
theorem r_band (h : Q (.int (band a b) s.toks) { s with toks := s.toks + 1 }) : wpAny (model prog w) A (binaryOp .BitAnd (.int a t) (.int b u)) Q E s :=
  and_int (by unfold band at h; exact h)
theorem r_bits (h : Q (.int (bits a) s.toks) { s with toks := s.toks + 1 }) : wpAny (model prog w) A (call (.builtin "int.bit_length") [.int a t]) Q E s :=
  call_int_bit_length (by unfold bits at h; exact h)
end

/-! the plain words -/
def twosF : Nat → Nat → Nat
  | 0, _ => 0
  | f + 1, n => if n % 2 = 1 then 0 else twosF f (n / 2) + 1
def twosN (n : Nat) : Nat := twosF n n
def oddp (n : Nat) : Nat := n / 2 ^ twosN n
@[irreducible] def told (a e : Int) : M4 :=
  if a = 0 then ⟨0, 0, 0, 0⟩ else ⟨if a < 0 then 1 else 0, oddp a.natAbs, e + twosN a.natAbs, bits (oddp a.natAbs)⟩
def far (way : Way) (neg : Bool) (l r D : Nat) : Bool := match way with
  | .n => decide (2 * r > D) || (decide (2 * r = D) && decide (l % 2 = 1))
  | .f => neg
  | .c => !neg
  | .u => true
  | .d => false
def roundQ (N D : Nat) (way : Way) (neg : Bool) : Nat := N / D + (if N % D ≠ 0 ∧ far way neg (N / D) (N % D) D = true then 1 else 0)
def sgn (a : Int) : Int := if a < 0 then -1 else 1
/-- x is A / B * 2 ^ P, rounded to prec bits -/
def IsRnd (A : Int) (B : Nat) (P : Int) (prec : Nat) (way : Way) (x : M4) : Prop :=
  (A = 0 ∧ x = ⟨0, 0, 0, 0⟩) ∨ (A ≠ 0 ∧ ∃ (N D i j : Nat) (e : Int), 0 < D ∧ D * 2 ^ (prec - 1) ≤ N ∧ N < D * 2 ^ prec ∧ N * B * 2 ^ i = A.natAbs * D * 2 ^ j ∧ e - P = (i : Int) - j ∧ x = told (sgn A * (roundQ N D way (decide (A < 0)) : Nat)) e)
/-- a number, normalized, as the code hands it about -/
def Mpf (a e : Int) (v : Value) (nx : List (Addr × Obj)) : Prop :=
  (a = 0 ∧ v = .ref 22) ∨ (a ≠ 0 ∧ ∃ D ta tb tc td n, v = .ref D ∧ (D, t4 (told a e).s (told a e).m (told a e).e (told a e).b ta tb tc td n) ∈ nx)
theorem Mpf.mono {a e : Int} {v : Value} {nx ny : List (Addr × Obj)} (h : Mpf a e v nx) (s : ∀ p ∈ nx, p ∈ ny) : Mpf a e v ny :=
  h.imp id fun ⟨z, D, ta, tb, tc, td, n, e, m⟩ => ⟨z, D, ta, tb, tc, td, n, e, s _ m⟩
theorem Mpf.left {a e : Int} {v : Value} {nx ny : List (Addr × Obj)} (h : Mpf a e v nx) : Mpf a e v (nx ++ ny) := h.mono fun _ h => List.mem_append.mpr (.inl h)
theorem Mpf.right {a e : Int} {v : Value} {nx ny : List (Addr × Obj)} (h : Mpf a e v ny) : Mpf a e v (nx ++ ny) := h.mono fun _ h => List.mem_append.mpr (.inr h)
theorem Mpf.tail {a e : Int} {v : Value} {p : Addr × Obj} {ny : List (Addr × Obj)} (h : Mpf a e v ny) : Mpf a e v (p :: ny) := h.mono fun _ h => List.mem_cons_of_mem _ h
theorem Mpf.zero {e : Int} {nx : List (Addr × Obj)} : Mpf 0 e (.ref 22) nx := .inl ⟨rfl, rfl⟩
theorem Mpf.mk {a e : Int} {x y z u : Int} {ta tb tc td : Tok} {n : Nat} {D : Addr} {nx : List (Addr × Obj)} (ha : a ≠ 0) (h : told a e = ⟨x, y, z, u⟩) (hm : (D, t4 x y z u ta tb tc td n) ∈ nx) : Mpf a e (.ref D) nx :=
  .inr ⟨ha, D, ta, tb, tc, td, n, rfl, by rw [h]; exact hm⟩
theorem Mpf.v4 {a e : Int} {v : Value} {nx : List (Addr × Obj)} (h : Mpf a e v nx) : V4 (told a e) v nx := by
  rcases h with ⟨rfl, rfl⟩ | ⟨_, D, ta, tb, tc, td, n, rfl, hm⟩
  · left; exact ⟨by unfold told; rw [if_pos rfl], rfl⟩
  · right; exact ⟨D, ta, tb, tc, td, n, rfl, hm⟩

/-- a value that bears A / B * 2 ^ P, rounded -/
def Rnd (A : Int) (B : Nat) (P : Int) (prec : Int) (way : Way) (v : Value) (nx : List (Addr × Obj)) : Prop := ∃ x, V4 x v nx ∧ IsRnd A B P prec.toNat way x
theorem Rnd.left {A : Int} {B : Nat} {P : Int} {prec : Int} {way : Way} {v : Value} {nx ny : List (Addr × Obj)} (h : Rnd A B P prec way v nx) : Rnd A B P prec way v (nx ++ ny) := let ⟨x, a, b⟩ := h; ⟨x, a.left, b⟩
theorem Rnd.right {A : Int} {B : Nat} {P : Int} {prec : Int} {way : Way} {v : Value} {nx ny : List (Addr × Obj)} (h : Rnd A B P prec way v ny) : Rnd A B P prec way v (nx ++ ny) := let ⟨x, a, b⟩ := h; ⟨x, a.right, b⟩
theorem Rnd.tail {A : Int} {B : Nat} {P : Int} {prec : Int} {way : Way} {v : Value} {p : Addr × Obj} {ny : List (Addr × Obj)} (h : Rnd A B P prec way v ny) : Rnd A B P prec way v (p :: ny) := let ⟨x, a, b⟩ := h; ⟨x, a.tail, b⟩
theorem Rnd.zero {B : Nat} {P : Int} {prec : Int} {way : Way} {nx : List (Addr × Obj)} : Rnd 0 B P prec way (.ref 22) nx := ⟨_, V4.zero, .inl ⟨rfl, rfl⟩⟩
/-- what is left, rounded -/
def rndL (A low part unit rest : Int) : Way → Int
  | .n => if (0 < part ∨ 0 < rest) ∧ (unit < mulI 2 part ∨ (mulI 2 part = unit ∧ (0 < rest ∨ qmod low 2 = 1))) then low + 1 else low
  | .f => if (0 < part ∨ 0 < rest) ∧ A < 0 then low + 1 else low
  | .c => if (0 < part ∨ 0 < rest) ∧ 0 < A then low + 1 else low
  | .u => if 0 < part ∨ 0 < rest then low + 1 else low
  | .d => low
/-! bits -/
theorem bits_le_iff (a : Int) (k : Nat) : bits a ≤ (k : Int) ↔ a.natAbs < 2 ^ k := by
  unfold bits Builtin.Int.intBits
  by_cases h : a = 0
  · subst h
    have h2 := Nat.pow_pos (n := k) (show 0 < 2 by decide)
    simp
    exact h2
  · have h1 : (a == 0) = false := by simpa using h
    have h2 : a.natAbs ≠ 0 := by omega
    rw [h1]
    simp only [Bool.false_eq_true, if_false]
    rw [← Nat.log2_lt h2]
    omega
theorem bits_nonneg {a : Int} : 0 ≤ bits a := by unfold bits; omega
theorem bits_nat (a : Int) : ∃ k : Nat, bits a = k ∧ a.natAbs < 2 ^ k := by
  have h0 := @bits_nonneg a
  refine ⟨(bits a).toNat, by omega, (bits_le_iff a _).mp (by omega)⟩
/-- the exact word -/
theorem bits_iff (a : Int) (h : a ≠ 0) (k : Nat) : bits a = (k : Int) + 1 ↔ 2 ^ k ≤ a.natAbs ∧ a.natAbs < 2 ^ (k + 1) := by
  have h1 := bits_le_iff a k
  have h2 := bits_le_iff a (k + 1)
  omega
theorem bits_pos {a : Int} (h : a ≠ 0) : 1 ≤ bits a := by
  have h1 := bits_le_iff a 0
  have h0 := @bits_nonneg a
  simp at h1
  omega
theorem bits_mul {a b : Int} : bits (mulI a b) ≤ bits a + bits b := by
  obtain ⟨k, hk, hk'⟩ := bits_nat a
  obtain ⟨l, hl, hl'⟩ := bits_nat b
  rw [hk, hl, ← Int.natCast_add, bits_le_iff]
  unfold mulI
  rw [Int.natAbs_mul, Nat.pow_add]
  exact Nat.mul_lt_mul'' hk' hl'
theorem bits_shl {a n : Int} (hn : 0 ≤ n) : bits (shl a n) ≤ bits a + n := by
  obtain ⟨k, hk, hk'⟩ := bits_nat a
  obtain ⟨m, rfl⟩ := Int.eq_ofNat_of_zero_le hn
  rw [hk, ← Int.natCast_add, bits_le_iff]
  unfold shl
  rw [Int.natAbs_mul, Nat.pow_add, Int.natAbs_pow]
  exact Nat.mul_lt_mul_of_pos_right hk' (Nat.pow_pos (by decide))
theorem qdiv_eq {a b : Int} (hb : 0 < b) : qdiv a b = a / b := by unfold qdiv; exact Int.fdiv_eq_ediv_of_nonneg _ (Int.le_of_lt hb)
theorem qmod_eq {a b : Int} (hb : 0 < b) : qmod a b = a % b := by unfold qmod; exact Int.fmod_eq_emod_of_nonneg _ (Int.le_of_lt hb)
theorem qdiv_nonneg {a b : Int} (ha : 0 ≤ a) (hb : 0 < b) : 0 ≤ qdiv a b := by rw [qdiv_eq hb]; exact Int.ediv_nonneg ha (Int.le_of_lt hb)
theorem bits_qdiv {a b : Int} (ha : 0 ≤ a) (hb : 0 < b) : bits (qdiv a b) ≤ bits a := by
  obtain ⟨k, hk, hk'⟩ := bits_nat a
  rw [hk, bits_le_iff]
  have h0 := qdiv_nonneg ha hb
  have h1 : qdiv a b ≤ a := by rw [qdiv_eq hb]; exact Int.ediv_le_self _ ha
  omega
theorem shl_nonneg {a n : Int} (ha : 0 ≤ a) : 0 ≤ shl a n := by unfold shl; exact Int.mul_nonneg ha (Int.le_of_lt (Int.pow_pos (by decide)))
theorem bits_sticky {a : Int} (ha : 0 ≤ a) : bits (shl a 1 + 1) ≤ bits a + 1 := by
  obtain ⟨k, hk, hk'⟩ := bits_nat a
  rw [hk, show ((k : Int) + 1) = ((k + 1 : Nat) : Int) by omega, bits_le_iff]
  have h : shl a 1 = a * 2 := by unfold shl; rfl
  rw [h, Nat.pow_succ]
  omega
theorem pw2_nat (n : Nat) : pw2 (n : Int) = ((2 ^ n : Nat) : Int) := by unfold pw2; simp
theorem bits_pw2 {n : Int} (h : 0 ≤ n) : bits (pw2 n) = n + 1 := by
  obtain ⟨m, rfl⟩ := Int.eq_ofNat_of_zero_le h
  rw [pw2_nat]
  have hp : 0 < 2 ^ m := Nat.pow_pos (by decide)
  rw [bits_iff _ (by omega)]
  rw [Int.natAbs_natCast, Nat.pow_succ]
  omega
theorem bits_le20 {x : Int} (h1 : -524288 < x) (h2 : x < 524288) : bits x ≤ 20 := by
  have := bits_le_iff x 20
  have e : (2 : Nat) ^ 20 = 1048576 := by decide
  rw [e] at this
  omega
/-! twos, told -/
theorem bits_shift (y k : Nat) (h : 0 < y) : bits (((2 ^ k * y : Nat) : Int)) = bits (y : Int) + k := by
  have h0 := @bits_pos (y : Int) (by omega)
  obtain ⟨b, hb⟩ : ∃ b : Nat, bits (y : Int) = (b : Int) + 1 := ⟨(bits (y : Int) - 1).toNat, by omega⟩
  have h1 := (bits_iff (y : Int) (by omega) b).mp hb
  rw [Int.natAbs_natCast] at h1
  have hp : 0 < 2 ^ k := Nat.pow_pos (by decide)
  have h2 : 0 < 2 ^ k * y := Nat.mul_pos hp h
  rw [hb, show ((b : Int) + 1 + (k : Int)) = ((b + k : Nat) : Int) + 1 by omega, bits_iff _ (by omega), Int.natAbs_natCast]
  constructor
  · rw [Nat.add_comm b k, Nat.pow_add]; exact Nat.mul_le_mul_left _ h1.1
  · rw [show b + k + 1 = k + (b + 1) by omega, Nat.pow_add]; exact (Nat.mul_lt_mul_left hp).mpr h1.2
theorem twosF_spec : ∀ (f n : Nat), 0 < n → n ≤ f → ∃ o, n = 2 ^ twosF f n * o ∧ o % 2 = 1
  | 0, n, h, h2 => by omega
  | f + 1, n, h, h2 => by
    unfold twosF
    by_cases e : n % 2 = 1
    · exact ⟨n, by rw [if_pos e]; simp, e⟩
    · rw [if_neg e]
      obtain ⟨o, h3, h4⟩ := twosF_spec f (n / 2) (by omega) (by omega)
      refine ⟨o, ?_, h4⟩
      rw [Nat.pow_succ, Nat.mul_assoc, Nat.mul_comm 2 o, ← Nat.mul_assoc, ← h3]
      omega
theorem two_unique : ∀ (j k a b : Nat), 2 ^ j * a = 2 ^ k * b → a % 2 = 1 → b % 2 = 1 → j = k ∧ a = b
  | 0, 0, a, b, h, _, _ => by simpa using h
  | 0, k + 1, a, b, h, ha, _ => by rw [Nat.pow_succ, Nat.mul_comm (2 ^ k) 2, Nat.mul_assoc] at h; simp at h; omega
  | j + 1, 0, a, b, h, _, hb => by rw [Nat.pow_succ, Nat.mul_comm (2 ^ j) 2, Nat.mul_assoc] at h; simp at h; omega
  | j + 1, k + 1, a, b, h, ha, hb => by
    rw [Nat.pow_succ, Nat.pow_succ, Nat.mul_comm (2 ^ j) 2, Nat.mul_comm (2 ^ k) 2, Nat.mul_assoc, Nat.mul_assoc] at h
    have := two_unique j k a b (by omega) ha hb
    omega
theorem odd_split (n : Nat) (h : 0 < n) : n = 2 ^ twosN n * oddp n ∧ oddp n % 2 = 1 := by
  obtain ⟨o, h1, h2⟩ := twosF_spec n n h (Nat.le_refl n)
  have hp : 0 < 2 ^ twosN n := Nat.pow_pos (by decide)
  have h3 : oddp n = o := by
    unfold oddp
    have : n = 2 ^ twosN n * o := h1
    conv => lhs; arg 1; rw [this]
    exact Nat.mul_div_cancel_left o hp
  rw [h3]
  exact ⟨h1, h2⟩
/-- told, told by its make -/
theorem told_char {x e : Int} {t o : Nat} (ho : o % 2 = 1) (h : x.natAbs = 2 ^ t * o) : told x e = ⟨if x < 0 then 1 else 0, o, e + t, bits o⟩ := by
  have hp : 0 < 2 ^ t := Nat.pow_pos (by decide)
  have h0 : 0 < x.natAbs := by rw [h]; exact Nat.mul_pos hp (by omega)
  obtain ⟨h1, h2⟩ := odd_split x.natAbs h0
  have h3 := two_unique _ _ _ _ (h1.symm.trans h) h2 ho
  unfold told
  rw [if_neg (by omega), h3.1, h3.2]
/-- every number has its make -/
theorem make_of {x : Int} (h : x ≠ 0) : ∃ t o : Nat, o % 2 = 1 ∧ x.natAbs = 2 ^ t * o := by
  obtain ⟨h1, h2⟩ := odd_split x.natAbs (by omega)
  exact ⟨_, _, h2, h1⟩
theorem band_one (x : Int) : band x 1 = x % 2 := by unfold band; exact kbt_mask x 1
theorem band_two (x : Int) : band x 2 = x / 2 % 2 * 2 := by unfold band; exact kbt_bit x 1
theorem shr_nat (x : Int) (k : Nat) : shr x k = x / 2 ^ k := by unfold shr; exact Int.fdiv_eq_ediv_of_nonneg _ (Int.le_of_lt (Int.pow_pos (by decide)))
theorem twosI_make {x : Int} {t o : Nat} (ho : o % 2 = 1) (h : x.natAbs = 2 ^ t * o) : twosI x = t := by
  have key : Builtin.bitAnd x (-x) = 2 ^ t := by
    rcases Int.natAbs_eq x with e | e
    · have e2 : x = 2 ^ t * (2 * ((o / 2 : Nat) : Int) + 1) := by
        rw [e, h, show (2 * ((o / 2 : Nat) : Int) + 1) = (o : Int) by omega]; simp
      rw [e2]; exact kbt_low t _
    · have e2 : x = 2 ^ t * (2 * (-((o / 2 : Nat) : Int) - 1) + 1) := by
        rw [e, h, show (2 * (-((o / 2 : Nat) : Int) - 1) + 1) = -(o : Int) by omega]; simp [Int.mul_neg]
      rw [e2]; exact kbt_low t _
  unfold twosI band
  rw [key]
  have := bits_pw2 (n := (t : Int)) (by omega)
  unfold pw2 at this
  rw [Int.toNat_natCast] at this
  rw [this]; omega
theorem twosI_nonneg {x : Int} (h : x ≠ 0) : 0 ≤ twosI x := by
  obtain ⟨t, o, h1, h2⟩ := make_of h
  rw [twosI_make h1 h2]; omega
section
variable {x e sg M : Int}
theorem told_gen {t o : Nat} (hM : 0 < M) (hs : (x = M ∧ sg = 0) ∨ (x = -M ∧ sg = 1)) (ho : o % 2 = 1) (h : M.natAbs = 2 ^ t * o) : told x e = ⟨sg, o, e + t, bits o⟩ := by
  have hx : x.natAbs = 2 ^ t * o := by rw [← h]; omega
  rw [told_char ho hx]
  congr 1
  rcases hs with ⟨h1, h2⟩ | ⟨h1, h2⟩
  · rw [if_neg (by omega), h2]
  · rw [if_pos (by omega), h2]
theorem told_odd (hM : 0 < M) (hs : (x = M ∧ sg = 0) ∨ (x = -M ∧ sg = 1)) (h1 : band M 1 ≠ 0) : told x e = ⟨sg, M, e, bits M⟩ := by
  rw [band_one] at h1
  rw [told_gen (t := 0) (o := M.natAbs) hM hs (by omega) (by simp)]
  rw [show ((M.natAbs : Nat) : Int) = M by omega]
  simp
theorem told_ev (hM : 0 < M) (hs : (x = M ∧ sg = 0) ∨ (x = -M ∧ sg = 1)) (_h1 : band M 1 = 0) : told x e = ⟨sg, shr M (twosI M), e + twosI M, bits M - twosI M⟩ := by
  obtain ⟨t, o, h2, h3⟩ := make_of (show M ≠ 0 by omega)
  have hMe : M = ((2 ^ t * o : Nat) : Int) := by omega
  have hp : (0 : Int) < 2 ^ t := Int.pow_pos (by decide)
  rw [told_gen hM hs h2 h3, twosI_make h2 h3, shr_nat]
  congr 1
  · rw [hMe]; push_cast; exact (Int.mul_ediv_cancel_left _ (by omega)).symm
  · conv => rhs; rw [hMe, bits_shift o t (by omega)]
    omega
theorem told_two (hM : 0 < M) (hs : (x = M ∧ sg = 0) ∨ (x = -M ∧ sg = 1)) (h1 : band M 1 = 0) (h2 : band M 2 ≠ 0) : told x e = ⟨sg, shr M 1, e + 1, bits M - 1⟩ := by
  have h3 := told_ev (e := e) hM hs h1
  rw [band_one] at h1
  rw [band_two] at h2
  have h4 : twosI M = 1 := twosI_make (t := 1) (o := (M / 2).natAbs) (by omega) (by omega)
  rw [h4] at h3
  exact h3
end
/-! what told bears -/
theorem told_sgn (x e : Int) : (told x e).s = 0 ∨ (told x e).s = 1 := by
  unfold told
  split
  · exact .inl rfl
  · dsimp only; split
    · exact .inr rfl
    · exact .inl rfl
theorem told_pos {x e : Int} (h : x ≠ 0) : 0 < (told x e).m := by
  obtain ⟨t, o, h1, h2⟩ := make_of h
  rw [told_char h1 h2]
  dsimp only; omega
theorem told_bits (x e : Int) : (told x e).b = bits (told x e).m := by
  by_cases h : x = 0
  · subst h; unfold told; rw [if_pos rfl]; dsimp only; unfold bits; decide
  · obtain ⟨t, o, h1, h2⟩ := make_of h
    rw [told_char h1 h2]
theorem told_le {x e : Int} {k : Int} (h : bits x ≤ k) : bits (told x e).m ≤ k := by
  by_cases hx : x = 0
  · subst hx; unfold told; rw [if_pos rfl]; exact h
  · obtain ⟨t, o, h1, h2⟩ := make_of hx
    rw [told_char h1 h2]
    dsimp only
    obtain ⟨b, hb, hb'⟩ := bits_nat x
    have h3 : bits (o : Int) ≤ (b : Int) := by
      rw [bits_le_iff, Int.natAbs_natCast]
      have : o ≤ 2 ^ t * o := Nat.le_mul_of_pos_left o (Nat.pow_pos (by decide))
      omega
    omega
theorem odd_mul {a b : Nat} (ha : a % 2 = 1) (hb : b % 2 = 1) : (a * b) % 2 = 1 := by rw [Nat.mul_mod, ha, hb]
theorem told_mul {x y e f : Int} (hx : x ≠ 0) (hy : y ≠ 0) : told (mulI x y) (e + f) = ⟨xorI (told x e).s (told y f).s, mulI (told x e).m (told y f).m, (told x e).e + (told y f).e, bits (mulI (told x e).m (told y f).m)⟩ := by
  obtain ⟨t, o, h1, h2⟩ := make_of hx
  obtain ⟨u, p, h3, h4⟩ := make_of hy
  have h5 : (x * y).natAbs = 2 ^ (t + u) * (o * p) := by
    rw [Int.natAbs_mul, h2, h4, Nat.pow_add]
    simp only [Nat.mul_assoc, Nat.mul_left_comm]
  unfold mulI
  rw [told_char (odd_mul h1 h3) h5, told_char h1 h2, told_char h3 h4]
  dsimp only
  congr 1
  · unfold xorI
    by_cases hx0 : x < 0 <;> by_cases hy0 : y < 0
    · rw [if_pos hx0, if_pos hy0, if_neg (by have := Int.mul_pos_of_neg_of_neg hx0 hy0; omega)]; decide
    · rw [if_pos hx0, if_neg hy0, if_pos (Int.mul_neg_of_neg_of_pos hx0 (by omega))]; decide
    · rw [if_neg hx0, if_pos hy0, if_pos (Int.mul_neg_of_pos_of_neg (by omega) hy0)]; decide
    · rw [if_neg hx0, if_neg hy0, if_neg (by have := Int.mul_pos (show 0 < x by omega) (show 0 < y by omega); omega)]; decide
  · omega
theorem told_half {s p : Int} (h : 0 < s) (h2 : qmod s 2 = 0) : told s p = told (qdiv s 2) (p + 1) ∧ 0 < qdiv s 2 ∧ qdiv s 2 < s := by
  rw [qmod_eq (by decide)] at h2
  rw [qdiv_eq (by decide)]
  refine ⟨?_, by omega, by omega⟩
  obtain ⟨t, o, h3, h4⟩ := make_of (show s / 2 ≠ 0 by omega)
  have h5 : s.natAbs = 2 ^ (t + 1) * o := by
    rw [Nat.pow_succ, Nat.mul_assoc, Nat.mul_comm 2 o, ← Nat.mul_assoc, ← h4]; omega
  rw [told_char h3 h4, told_char h3 h5, if_neg (by omega), if_neg (by omega)]
  congr 1
  omega
theorem told_fin {x e s p : Int} (hx : x ≠ 0) (h : told (absI x) e = told s p) (hs : 0 < s) (ho : qmod s 2 ≠ 0) : told x e = ⟨if x < 0 then 1 else 0, s, p, bits s⟩ := by
  rw [qmod_eq (by decide)] at ho
  obtain ⟨t, o, h1, h2⟩ := make_of hx
  have h3 : (absI x).natAbs = 2 ^ t * o := by rw [← h2]; unfold absI; split <;> omega
  rw [told_char h1 h3, told_char (t := 0) (o := s.natAbs) (by omega) (by simp)] at h
  rw [told_char h1 h2]
  have e1 := congrArg M4.m h
  have e2 := congrArg M4.e h
  dsimp only at e1 e2
  have e3 : (o : Int) = s := by omega
  rw [e3]
  congr 1
  omega
/-! rounding -/
theorem far_congr {way : Way} {neg : Bool} {l r D r' D' : Nat} (h1 : 2 * r > D ↔ 2 * r' > D') (h2 : 2 * r = D ↔ 2 * r' = D') : far way neg l r D = far way neg l r' D' := by
  cases way with
  | n =>
    unfold far
    dsimp only
    rw [decide_eq_decide.mpr h1, decide_eq_decide.mpr h2]
  | _ => rfl
theorem roundQ_congr {N D N' D' : Nat} {way : Way} {neg : Bool} (h0 : N / D = N' / D') (hz : N % D = 0 ↔ N' % D' = 0) (h1 : 2 * (N % D) > D ↔ 2 * (N' % D') > D') (h2 : 2 * (N % D) = D ↔ 2 * (N' % D') = D') :
    roundQ N D way neg = roundQ N' D' way neg := by
  unfold roundQ
  rw [h0, far_congr h1 h2]
  by_cases hq : N % D = 0
  · rw [if_neg (fun q => q.1 hq), if_neg (fun q => q.1 (hz.mp hq))]
  · by_cases hf : far way neg (N' / D') (N' % D') D' = true
    · rw [if_pos ⟨hq, hf⟩, if_pos ⟨fun q => hq (hz.mpr q), hf⟩]
    · rw [if_neg (fun q => hf q.2), if_neg (fun q => hf q.2)]
theorem roundQ_scale {N D k : Nat} {way : Way} {neg : Bool} (hk : 0 < k) : roundQ (k * N) (k * D) way neg = roundQ N D way neg := by
  apply roundQ_congr
  · exact Nat.mul_div_mul_left N D hk
  · rw [Nat.mul_mod_mul_left]
    constructor
    · intro h; rcases Nat.mul_eq_zero.mp h with h | h
      · omega
      · exact h
    · intro h; rw [h, Nat.mul_zero]
  · rw [Nat.mul_mod_mul_left, Nat.mul_left_comm]
    exact Nat.mul_lt_mul_left hk
  · rw [Nat.mul_mod_mul_left, Nat.mul_left_comm]
    exact Nat.mul_right_inj (by omega)
theorem roundQ_sticky {W b r k : Nat} {way : Way} {neg : Bool} (hb : r < b) (hk : 1 ≤ k) : roundQ (W * b + r) (b * 2 ^ k) way neg = roundQ (2 * W + (if r = 0 then 0 else 1)) (2 * 2 ^ k) way neg := by
  obtain ⟨j, rfl⟩ : ∃ j, k = j + 1 := ⟨k - 1, by omega⟩
  have hd : (W * b + r) / b = W := by rw [Nat.mul_comm, Nat.mul_add_div (by omega), Nat.div_eq_of_lt hb, Nat.add_zero]
  have hm : (W * b + r) % b = r := by rw [Nat.mul_comm, Nat.mul_add_mod, Nat.mod_eq_of_lt hb]
  have hs : (if r = 0 then 0 else 1) < 2 := by split <;> decide
  generalize hsd : (if r = 0 then 0 else 1) = s at hs
  have hsr : s = 0 ↔ r = 0 := by rw [← hsd]; by_cases h : r = 0 <;> simp [h]
  have hd2 : (2 * W + s) / 2 = W := by omega
  have hm2 : (2 * W + s) % 2 = s := by omega
  have e1 : (W * b + r) % (b * 2 ^ (j + 1)) = r + b * (W % 2 ^ (j + 1)) := by rw [Nat.mod_mul, hd, hm]
  have e2 : (2 * W + s) % (2 * 2 ^ (j + 1)) = s + 2 * (W % 2 ^ (j + 1)) := by rw [Nat.mod_mul, hd2, hm2]
  have e3 : 2 ^ (j + 1) = 2 * 2 ^ j := by rw [Nat.pow_succ]; omega
  have c : ∀ q h : Nat, (q < h → r + b * q < b * h) ∧ (h < q → b * h < r + b * q) := by
    intro q h
    constructor
    · intro hq
      have := Nat.mul_le_mul_left b (show q + 1 ≤ h by omega)
      rw [Nat.mul_succ] at this
      omega
    · intro hq
      have := Nat.mul_le_mul_left b (show h + 1 ≤ q by omega)
      rw [Nat.mul_succ] at this
      omega
  apply roundQ_congr
  · rw [← Nat.div_div_eq_div_mul, hd, ← Nat.div_div_eq_div_mul, hd2]
  · rw [e1, e2]
    generalize W % 2 ^ (j + 1) = q
    have hbq : b * q = 0 ↔ q = 0 := by rw [Nat.mul_eq_zero]; omega
    omega
  · rw [e1, e2, e3]
    generalize W % (2 * 2 ^ j) = q
    generalize 2 ^ j = h
    obtain ⟨c1, c2⟩ := c q h
    have : b * (2 * h) = 2 * (b * h) := by rw [Nat.mul_left_comm]
    rcases Nat.lt_trichotomy q h with hq | hq | hq
    · have := c1 hq; omega
    · subst hq; omega
    · have := c2 hq; omega
  · rw [e1, e2, e3]
    generalize W % (2 * 2 ^ j) = q
    generalize 2 ^ j = h
    obtain ⟨c1, c2⟩ := c q h
    have : b * (2 * h) = 2 * (b * h) := by rw [Nat.mul_left_comm]
    rcases Nat.lt_trichotomy q h with hq | hq | hq
    · have := c1 hq; omega
    · subst hq; omega
    · have := c2 hq; omega
theorem same_range {N1 D1 N2 D2 a b p : Nat} (hp : 1 ≤ p) (h1 : 0 < D1) (h2 : 0 < D2) (l1 : D1 * 2 ^ (p - 1) ≤ N1) (u1 : N1 < D1 * 2 ^ p) (l2 : D2 * 2 ^ (p - 1) ≤ N2) (u2 : N2 < D2 * 2 ^ p)
    (h : N1 * D2 * 2 ^ a = N2 * D1 * 2 ^ b) : a = b ∧ N1 * D2 = N2 * D1 := by
  have key : ∀ (N1 D1 N2 D2 a b : Nat), 0 < D1 → D1 * 2 ^ (p - 1) ≤ N1 → N2 < D2 * 2 ^ p → N1 * D2 * 2 ^ a = N2 * D1 * 2 ^ b → ¬ b < a := by
    intro N1 D1 N2 D2 a b h1 l1 u2 h hlt
    obtain ⟨c, rfl⟩ : ∃ c, a = b + (c + 1) := ⟨a - b - 1, by omega⟩
    have hb : 0 < 2 ^ b := Nat.pow_pos (by decide)
    rw [show N1 * D2 * 2 ^ (b + (c + 1)) = N1 * D2 * 2 ^ (c + 1) * 2 ^ b by rw [Nat.pow_add]; simp only [Nat.mul_assoc, Nat.mul_left_comm, Nat.mul_comm]] at h
    have h' := Nat.eq_of_mul_eq_mul_right hb h
    have e : 2 ^ p = 2 ^ (p - 1) * 2 := by rw [← Nat.pow_succ]; congr 1; omega
    have s1 : D1 * 2 ^ (p - 1) * D2 * 2 ≤ N1 * D2 * 2 ^ (c + 1) := by
      refine Nat.mul_le_mul (Nat.mul_le_mul_right _ l1) ?_
      rw [Nat.pow_succ]
      have : 0 < 2 ^ c := Nat.pow_pos (by decide)
      omega
    have s2 : N2 * D1 < D2 * 2 ^ p * D1 := (Nat.mul_lt_mul_right h1).mpr u2
    rw [e] at s2
    have s3 : D2 * (2 ^ (p - 1) * 2) * D1 = D1 * 2 ^ (p - 1) * D2 * 2 := by simp only [Nat.mul_assoc, Nat.mul_left_comm, Nat.mul_comm]
    omega
  have n1 := key N1 D1 N2 D2 a b h1 l1 u2 h
  have n2 := key N2 D2 N1 D1 b a h2 l2 u1 h.symm
  have e : a = b := by omega
  subst e
  exact ⟨rfl, Nat.eq_of_mul_eq_mul_right (Nat.pow_pos (by decide)) h⟩
theorem cross {N1 D1 N2 D2 B a i1 j1 i2 j2 : Nat} (hB : 0 < B) (h1 : N1 * B * 2 ^ i1 = a * D1 * 2 ^ j1) (h2 : N2 * B * 2 ^ i2 = a * D2 * 2 ^ j2) : N1 * D2 * 2 ^ (i1 + j2) = N2 * D1 * 2 ^ (i2 + j1) := by
  apply Nat.eq_of_mul_eq_mul_right hB
  have e1 : N1 * D2 * 2 ^ (i1 + j2) * B = N1 * B * 2 ^ i1 * (D2 * 2 ^ j2) := by rw [Nat.pow_add]; simp only [Nat.mul_assoc, Nat.mul_left_comm, Nat.mul_comm]
  have e2 : N2 * D1 * 2 ^ (i2 + j1) * B = N2 * B * 2 ^ i2 * (D1 * 2 ^ j1) := by rw [Nat.pow_add]; simp only [Nat.mul_assoc, Nat.mul_left_comm, Nat.mul_comm]
  rw [e1, e2, h1, h2]
  simp only [Nat.mul_assoc, Nat.mul_left_comm, Nat.mul_comm]
theorem roundQ_same {N1 D1 N2 D2 : Nat} {way : Way} {neg : Bool} (h1 : 0 < D1) (h2 : 0 < D2) (h : N1 * D2 = N2 * D1) : roundQ N1 D1 way neg = roundQ N2 D2 way neg := by
  rw [← roundQ_scale (k := D2) h2, ← roundQ_scale (k := D1) (N := N2) h1, Nat.mul_comm D2 N1, h, Nat.mul_comm N2 D1, Nat.mul_comm D2 D1]
theorem isRnd_unique {A : Int} {B : Nat} {P : Int} {prec : Nat} {way : Way} {x y : M4} (hB : 0 < B) (hp : 1 ≤ prec) (hx : IsRnd A B P prec way x) (hy : IsRnd A B P prec way y) : x = y := by
  rcases hx with ⟨h0, rfl⟩ | ⟨h0, N1, D1, i1, j1, e1, d1, l1, u1, q1, f1, rfl⟩
  · rcases hy with ⟨_, rfl⟩ | ⟨h1, _⟩
    · rfl
    · exact absurd h0 h1
  · rcases hy with ⟨h1, _⟩ | ⟨_, N2, D2, i2, j2, e2, d2, l2, u2, q2, f2, rfl⟩
    · exact absurd h1 h0
    · obtain ⟨h3, h4⟩ := same_range hp d1 d2 l1 u1 l2 u2 (cross hB q1 q2)
      rw [roundQ_same d1 d2 h4, show e1 = e2 by omega]
/-- along equal values -/
theorem isRnd_move {A A' : Int} {B B' : Nat} {P P' : Int} {prec : Nat} {way : Way} {x : M4} {i j : Nat} (hB : 0 < B) (hs : A < 0 ↔ A' < 0) (hz : A = 0 ↔ A' = 0) (h : A.natAbs * B' * 2 ^ i = A'.natAbs * B * 2 ^ j) (hP : P - P' = (i : Int) - j)
    (hx : IsRnd A B P prec way x) : IsRnd A' B' P' prec way x := by
  rcases hx with ⟨h0, rfl⟩ | ⟨h0, N, D, k, l, e, d, l1, u1, q, f, rfl⟩
  · exact .inl ⟨hz.mp h0, rfl⟩
  · refine .inr ⟨fun q => h0 (hz.mpr q), N, D, k + i, l + j, e, d, l1, u1, ?_, by omega, ?_⟩
    · apply Nat.eq_of_mul_eq_mul_right hB
      have e1 : N * B' * 2 ^ (k + i) * B = N * B * 2 ^ k * (B' * 2 ^ i) := by rw [Nat.pow_add]; simp only [Nat.mul_assoc, Nat.mul_left_comm, Nat.mul_comm]
      have e2 : A'.natAbs * D * 2 ^ (l + j) * B = A'.natAbs * B * 2 ^ j * (D * 2 ^ l) := by rw [Nat.pow_add]; simp only [Nat.mul_assoc, Nat.mul_left_comm, Nat.mul_comm]
      rw [e1, e2, q, ← h]
      simp only [Nat.mul_assoc, Nat.mul_left_comm, Nat.mul_comm]
    · unfold sgn
      rw [decide_eq_decide.mpr hs]
      by_cases hn : A < 0
      · rw [if_pos hn, if_pos (hs.mp hn)]
      · rw [if_neg hn, if_neg (fun q => hn (hs.mpr q))]
/-! what the code's rounding is -/
theorem shr_ceil (m : Nat) (k : Nat) : -(shr (-(m : Int)) (k : Int)) = ((m / 2 ^ k + (if m % 2 ^ k ≠ 0 then 1 else 0) : Nat) : Int) := by
  rw [shr_nat]
  have hp : (0 : Int) < 2 ^ k := Int.pow_pos (by decide)
  have h1 := Int.mul_ediv_add_emod (-(m : Int)) (2 ^ k)
  have h2 := Int.emod_nonneg (-(m : Int)) (show (2 : Int) ^ k ≠ 0 by omega)
  have h3 := Int.emod_lt_of_pos (-(m : Int)) hp
  have h4 := Nat.div_add_mod m (2 ^ k)
  have hc : ((2 ^ k : Nat) : Int) = 2 ^ k := by simp
  have h5 : (m : Int) = 2 ^ k * ((m / 2 ^ k : Nat) : Int) + ((m % 2 ^ k : Nat) : Int) := by
    rw [← hc, ← Int.natCast_mul, ← Int.natCast_add, h4]
  have h6 : ((m % 2 ^ k : Nat) : Int) < 2 ^ k := by rw [← hc]; exact Int.ofNat_lt.mpr (Nat.mod_lt _ (Nat.pow_pos (by decide)))
  by_cases hz : m % 2 ^ k = 0
  · rw [if_neg (by omega), Nat.add_zero]
    have e : (-(m : Int)) = 2 ^ k * (-((m / 2 ^ k : Nat) : Int)) := by rw [h5, hz, Int.mul_neg]; simp
    rw [e, Int.mul_ediv_cancel_left _ (by omega), Int.neg_neg]
  · rw [if_pos hz]
    have e : (-(m : Int)) = 2 ^ k * (-((m / 2 ^ k : Nat) : Int) - 1) + (2 ^ k - ((m % 2 ^ k : Nat) : Int)) := by
      rw [Int.mul_sub, Int.mul_neg, Int.mul_one, h5]
      have : ((m % 2 ^ k : Nat) : Int) = ((m % 2 ^ k : Nat) : Int) := rfl
      omega
    have h7 := (Int.ediv_emod_unique (a := -(m : Int)) (b := 2 ^ k) (q := -((m / 2 ^ k : Nat) : Int) - 1) (r := 2 ^ k - ((m % 2 ^ k : Nat) : Int)) hp).mpr ⟨by omega, by omega, by omega⟩
    rw [h7.1]
    omega
theorem shr_natN (m k : Nat) : shr (m : Int) (k : Int) = ((m / 2 ^ k : Nat) : Int) := by rw [shr_nat]; simp
theorem roundQ_down {N D : Nat} {way : Way} {neg : Bool} (h : far way neg (N / D) (N % D) D = false) : roundQ N D way neg = N / D := by
  unfold roundQ; rw [if_neg (by rw [h]; simp), Nat.add_zero]
theorem roundQ_up {N D : Nat} {way : Way} {neg : Bool} (h : far way neg (N / D) (N % D) D = true) : roundQ N D way neg = N / D + (if N % D ≠ 0 then 1 else 0) := by
  unfold roundQ; rw [h]
  by_cases q : N % D = 0
  · rw [if_neg (by simp [q]), if_neg (by simp [q])]
  · rw [if_pos ⟨q, rfl⟩, if_pos q]
theorem rmN_round (m k : Nat) (neg : Bool) : rmN (m : Int) ((k + 1 : Nat) : Int) = (roundQ m (2 ^ (k + 1)) .n neg : Nat) := by
  have hk : (((k + 1 : Nat) : Int) - 1) = (k : Int) := by omega
  have ht : shr (m : Int) (k : Int) = ((m / 2 ^ k : Nat) : Int) := shr_natN m k
  have hh : 0 < 2 ^ k := Nat.pow_pos (by decide)
  have hD : 2 ^ (k + 1) = 2 ^ k * 2 := Nat.pow_succ 2 k
  have hmask : band (m : Int) (shl 1 (k : Int) - 1) = ((m % 2 ^ k : Nat) : Int) := by
    unfold band shl
    rw [Int.one_mul, Int.toNat_natCast, kbt_mask]; simp
  have hl : m / 2 ^ k / 2 = m / 2 ^ (k + 1) := by rw [Nat.div_div_eq_div_mul, ← hD]
  have hr : m % 2 ^ (k + 1) = m % 2 ^ k + 2 ^ k * (m / 2 ^ k % 2) := by rw [hD, Nat.mod_mul]
  have hs : shr ((m / 2 ^ k : Nat) : Int) 1 = ((m / 2 ^ (k + 1) : Nat) : Int) := by
    have := shr_natN (m / 2 ^ k) 1
    rw [show ((1 : Nat) : Int) = 1 by rfl] at this
    rw [this, Nat.pow_one, hl]
  have hmod : m % 2 ^ k < 2 ^ k := Nat.mod_lt _ hh
  unfold rmN roundQ
  rw [hk, ht, band_one, band_two, hmask, hs]
  rw [hr, ← hl, hD]
  generalize m / 2 ^ k = t
  generalize m % 2 ^ k = r at hmod
  generalize 2 ^ k = h at hmod hh
  have h2 : t % 2 = 0 ∨ t % 2 = 1 := by omega
  unfold far
  dsimp only
  rcases h2 with e | e
  · rw [e, Nat.mul_zero, Nat.add_zero]
    rw [if_neg (by omega), if_neg (by simp; omega)]
    simp
  · rw [e, Nat.mul_one]
    by_cases c : ((t : Int) / 2 % 2 * 2 ≠ 0 ∨ (r : Int) ≠ 0)
    · rw [if_pos ⟨by omega, c⟩, if_pos ⟨by omega, by simp; omega⟩]
      simp
    · rw [if_neg (fun q => c q.2), if_neg (by simp; omega)]
      simp
theorem rmX_round (m k : Nat) (sign : Int) (way : Way) (hs : sign = 0 ∨ sign = 1) : rmX (m : Int) ((k + 1 : Nat) : Int) sign way = (roundQ m (2 ^ (k + 1)) way (decide (sign = 1)) : Nat) := by
  unfold rmX
  cases way with
  | n => exact rmN_round m k _
  | f =>
    dsimp only
    rcases hs with rfl | rfl
    · rw [if_pos rfl, shr_natN, roundQ_down rfl]
    · rw [if_neg (by decide), shr_ceil, roundQ_up rfl]
  | c =>
    dsimp only
    rcases hs with rfl | rfl
    · rw [if_pos rfl, shr_ceil, roundQ_up rfl]
    · rw [if_neg (by decide), shr_natN, roundQ_down rfl]
  | u => dsimp only; rw [shr_ceil, roundQ_up rfl]
  | d => dsimp only; rw [shr_natN, roundQ_down rfl]
theorem told_shift {x e : Int} {j : Nat} (hx : x ≠ 0) : told (x * 2 ^ j) e = told x (e + j) := by
  obtain ⟨t, o, h1, h2⟩ := make_of hx
  have hp : (0 : Int) < 2 ^ j := Int.pow_pos (by decide)
  have h3 : (x * 2 ^ j).natAbs = 2 ^ (t + j) * o := by
    rw [Int.natAbs_mul, h2, Int.natAbs_pow, Nat.pow_add]
    simp only [Nat.mul_assoc, Nat.mul_left_comm, Nat.mul_comm]
    rfl
  rw [told_char h1 h3, told_char h1 h2]
  congr 1
  · by_cases h : x < 0
    · rw [if_pos h, if_pos (Int.mul_neg_of_neg_of_pos h hp)]
    · rw [if_neg h, if_neg (by have := Int.mul_nonneg (show 0 ≤ x by omega) (Int.le_of_lt hp); omega)]
  · omega
theorem finX_told {sign X e b : Int} (hs : sign = 0 ∨ sign = 1) (hX : 0 < X) (hb : b = bits X ∨ ∃ t : Nat, X = 2 ^ t) : finX sign X e b = told ((if sign = 1 then -1 else 1) * X) e := by
  obtain ⟨t, o, h1, h2⟩ := make_of (show X ≠ 0 by omega)
  have hp : 0 < 2 ^ t := Nat.pow_pos (by decide)
  have hXe : X = ((2 ^ t * o : Nat) : Int) := by omega
  have hA : ((if sign = 1 then -1 else 1) * X).natAbs = 2 ^ t * o := by rw [← h2]; split <;> omega
  have hsg : (if (if sign = 1 then -1 else 1) * X < 0 then (1 : Int) else 0) = sign := by
    rcases hs with rfl | rfl
    · have e0 : (if (0 : Int) = 1 then (-1 : Int) else 1) = 1 := by decide
      rw [e0, if_neg (by omega)]
    · have e0 : (if (1 : Int) = 1 then (-1 : Int) else 1) = -1 := by decide
      rw [e0, if_pos (by omega)]
  have hbo : (o : Int) ≠ 1 → b - t = bits (o : Int) := by
    intro ho
    rcases hb with rfl | ⟨u, hu⟩
    · conv => lhs; rw [hXe, bits_shift o t (by omega)]
      omega
    · exfalso
      have h3 : 2 ^ u * 1 = 2 ^ t * o := by
        have : X.natAbs = 2 ^ u := by rw [hu, Int.natAbs_pow]; rfl
        omega
      have := two_unique u t 1 o h3 (by decide) h1
      omega
  have hb1 : bits (1 : Int) = 1 := by unfold bits; decide
  have hso : shr X (t : Int) = (o : Int) := by
    rw [shr_nat, hXe]; simp
    have hpi : (0 : Int) < 2 ^ t := Int.pow_pos (by decide)
    exact Int.mul_ediv_cancel_left _ (by omega)
  rw [told_char h1 hA, hsg]
  unfold finX
  rw [band_one]
  by_cases he : X % 2 = 0
  · rw [if_pos he, twosI_make h1 h2, hso]
    by_cases ho : (o : Int) = 1
    · rw [if_pos ho, ho, hb1]
    · rw [if_neg ho, hbo ho]
  · rw [if_neg he]
    have ht : t = 0 := by
      cases t with
      | zero => rfl
      | succ t => exfalso; rw [Nat.pow_succ, Nat.mul_comm (2 ^ t) 2, Nat.mul_assoc] at h2; omega
    subst ht
    have hXo : X = (o : Int) := by omega
    by_cases ho : (o : Int) = 1
    · rw [if_pos (by omega), hXo, ho, hb1]; simp
    · rw [if_neg (by omega), hXo, ← hbo ho]; simp
theorem roundQ_one (N : Nat) (way : Way) (neg : Bool) : roundQ N 1 way neg = N := by
  unfold roundQ; rw [if_neg (by simp [Nat.mod_one]), Nat.div_one, Nat.add_zero]
/-- where a rounded number lies -/
theorem roundQ_range {N D p : Nat} {way : Way} {neg : Bool} (hD : 0 < D) (h1 : D * 2 ^ (p - 1) ≤ N) (h2 : N < D * 2 ^ p) : 2 ^ (p - 1) ≤ roundQ N D way neg ∧ roundQ N D way neg ≤ 2 ^ p := by
  have a1 : 2 ^ (p - 1) ≤ N / D := (Nat.le_div_iff_mul_le hD).mpr (by rw [Nat.mul_comm]; exact h1)
  have a2 : N / D < 2 ^ p := (Nat.div_lt_iff_lt_mul hD).mpr (by rw [Nat.mul_comm]; exact h2)
  unfold roundQ
  split <;> omega
theorem bits_or_pow {X p : Nat} (hp : 1 ≤ p) (h1 : 2 ^ (p - 1) ≤ X) (h2 : X ≤ 2 ^ p) : (p : Int) = bits (X : Int) ∨ ∃ t : Nat, (X : Int) = 2 ^ t := by
  by_cases h : X = 2 ^ p
  · right; exact ⟨p, by rw [h]; simp⟩
  · left
    have hpos : 0 < 2 ^ (p - 1) := Nat.pow_pos (by decide)
    have := (bits_iff (X : Int) (by omega) (p - 1)).mpr ⟨by rw [Int.natAbs_natCast]; exact h1, by rw [Int.natAbs_natCast, show p - 1 + 1 = p by omega]; omega⟩
    omega
theorem man_range {m : Nat} (h : 0 < m) : ∃ b : Nat, bits (m : Int) = (b : Int) + 1 ∧ 2 ^ b ≤ m ∧ m < 2 ^ (b + 1) := by
  have h0 := @bits_pos (m : Int) (by omega)
  obtain ⟨b, hb⟩ : ∃ b : Nat, bits (m : Int) = (b : Int) + 1 := ⟨(bits (m : Int) - 1).toNat, by omega⟩
  have h1 := (bits_iff (m : Int) (by omega) b).mp hb
  rw [Int.natAbs_natCast] at h1
  exact ⟨b, hb, h1⟩
theorem rm_ne {man bc prec sign : Int} {way : Way} (h : 0 < man) (hb : bc = bits man) (hp : 1 ≤ prec) (hs : sign = 0 ∨ sign = 1) : (if 0 < bc - prec then rmX man (bc - prec) sign way else man) ≠ 0 := by
  by_cases hn : 0 < bc - prec
  · rw [if_pos hn]
    obtain ⟨m, rfl⟩ := Int.eq_ofNat_of_zero_le (Int.le_of_lt h)
    obtain ⟨b, h1, h2, h3⟩ := man_range (m := m) (by omega)
    obtain ⟨p, rfl⟩ := Int.eq_ofNat_of_zero_le (show 0 ≤ prec by omega)
    obtain ⟨k, hk⟩ : ∃ k : Nat, bc - (p : Int) = ((k + 1 : Nat) : Int) := ⟨(bc - p - 1).toNat, by omega⟩
    rw [hk, rmX_round m k sign way hs]
    have hbk : b + 1 = (k + 1) + p := by omega
    have := roundQ_range (N := m) (D := 2 ^ (k + 1)) (p := p) (way := way) (neg := decide (sign = 1)) (Nat.pow_pos (by decide)) (by rw [← Nat.pow_add, show k + 1 + (p - 1) = b by omega]; exact h2) (by rw [← Nat.pow_add, ← hbk]; exact h3)
    have hpos : 0 < 2 ^ (p - 1) := Nat.pow_pos (by decide)
    omega
  · rw [if_neg hn]; omega
theorem nrm_rnd {man bc prec sign exp : Int} {way : Way} (hm : 0 ≤ man) (hb : bc = bits man) (hp : 1 ≤ prec) (hs : sign = 0 ∨ sign = 1) : IsRnd (if sign = 1 then -man else man) 1 exp prec.toNat way (nrmX sign man exp bc prec way) := by
  obtain ⟨m, rfl⟩ := Int.eq_ofNat_of_zero_le hm
  obtain ⟨p, rfl⟩ := Int.eq_ofNat_of_zero_le (show 0 ≤ prec by omega)
  rw [Int.toNat_natCast]
  by_cases h0 : (m : Int) = 0
  · left
    refine ⟨by rw [h0]; simp, ?_⟩
    unfold nrmX; rw [if_pos h0]
  · right
    have hA0 : (if sign = 1 then -(m : Int) else m) ≠ 0 := by split <;> omega
    have hAn : (if sign = 1 then -(m : Int) else m).natAbs = m := by split <;> omega
    have hAs : decide ((if sign = 1 then -(m : Int) else m) < 0) = decide (sign = 1) := by
      rcases hs with rfl | rfl <;> simp <;> omega
    have hAg : sgn (if sign = 1 then -(m : Int) else m) = if sign = 1 then -1 else 1 := by
      unfold sgn
      rcases hs with rfl | rfl <;> simp <;> omega
    obtain ⟨b, h1, h2, h3⟩ := man_range (m := m) (by omega)
    refine ⟨hA0, ?_⟩
    rw [hAn, hAs, hAg]
    unfold nrmX
    rw [if_neg h0]
    by_cases hn : 0 < bc - (p : Int)
    · rw [if_pos hn, if_pos hn, if_pos hn]
      obtain ⟨k, hk⟩ : ∃ k : Nat, bc - (p : Int) = ((k + 1 : Nat) : Int) := ⟨(bc - p - 1).toNat, by omega⟩
      have hbk : b + 1 = (k + 1) + p := by omega
      have l1 : 2 ^ (k + 1) * 2 ^ (p - 1) ≤ m := by rw [← Nat.pow_add, show k + 1 + (p - 1) = b by omega]; exact h2
      have l2 : m < 2 ^ (k + 1) * 2 ^ p := by rw [← Nat.pow_add, ← hbk]; exact h3
      have hpp : 0 < 2 ^ (k + 1) := Nat.pow_pos (by decide)
      have hr := roundQ_range (way := way) (neg := decide (sign = 1)) hpp l1 l2
      have hpos : 0 < 2 ^ (p - 1) := Nat.pow_pos (by decide)
      refine ⟨m, 2 ^ (k + 1), k + 1, 0, exp + (bc - p), hpp, l1, l2, by rw [Nat.pow_zero, Nat.mul_one, Nat.mul_one], by omega, ?_⟩
      rw [hk, rmX_round m k sign way hs]
      exact finX_told hs (by omega) (bits_or_pow (by omega) hr.1 hr.2)
    · rw [if_neg hn, if_neg hn, if_neg hn]
      obtain ⟨j, hj⟩ : ∃ j : Nat, (p : Int) - bc = (j : Int) := ⟨(p - bc).toNat, by omega⟩
      have hbj : b + 1 + j = p := by omega
      refine ⟨m * 2 ^ j, 1, 0, j, exp - j, by decide, ?_, ?_, by simp, by omega, ?_⟩
      · rw [Nat.one_mul, show p - 1 = b + j by omega, Nat.pow_add]; exact Nat.mul_le_mul_right _ h2
      · rw [Nat.one_mul, ← hbj, Nat.pow_add]; exact Nat.mul_lt_mul_of_pos_right h3 (Nat.pow_pos (by decide))
      · rw [roundQ_one, finX_told hs (by omega) (.inl hb)]
        have e : (if sign = 1 then (-1 : Int) else 1) * ((m * 2 ^ j : Nat) : Int) = (if sign = 1 then (-1 : Int) else 1) * (m : Int) * 2 ^ j := by simp [Int.mul_assoc]
        rw [e, told_shift (by split <;> omega), show exp - (j : Int) + j = exp by omega]
/-! transfers -/
theorem if_neg_iff {N s : Int} (hN : 0 < N) : ((if s = 1 then -N else N) < 0 ↔ s = 1) ∧ (if s = 1 then -N else N) ≠ 0 ∧ (if s = 1 then -N else N).natAbs = N.natAbs := by
  by_cases h : s = 1
  · rw [if_pos h]; exact ⟨⟨fun _ => h, fun _ => by omega⟩, by omega, by omega⟩
  · rw [if_neg h]; exact ⟨⟨fun q => by omega, fun q => absurd q h⟩, by omega, rfl⟩
theorem xor_one {x y : Int} : xorI (if x < 0 then 1 else 0) (if y < 0 then 1 else 0) = 1 ↔ ¬ (x < 0 ↔ y < 0) := by
  unfold xorI
  by_cases hx : x < 0 <;> by_cases hy : y < 0
  · rw [if_pos hx, if_pos hy]; simp [hx, hy]; decide
  · rw [if_pos hx, if_neg hy]; simp [hx, hy]; decide
  · rw [if_neg hx, if_pos hy]; simp [hx, hy]; decide
  · rw [if_neg hx, if_neg hy]; simp [hx, hy]; decide
theorem mul_neg_iff {x y : Int} (hx : x ≠ 0) (hy : y ≠ 0) : x * y < 0 ↔ ¬ (x < 0 ↔ y < 0) := by
  by_cases hx0 : x < 0 <;> by_cases hy0 : y < 0
  · have := Int.mul_pos_of_neg_of_neg hx0 hy0; simp [hx0, hy0]; omega
  · have := Int.mul_neg_of_neg_of_pos hx0 (show 0 < y by omega); simp [hx0, hy0]; omega
  · have := Int.mul_neg_of_pos_of_neg (show 0 < x by omega) hy0; simp [hx0, hy0]; omega
  · have := Int.mul_pos (show 0 < x by omega) (show 0 < y by omega); simp [hx0, hy0]; omega
theorem sgn_mul {x y : Int} (hx : x ≠ 0) (hy : y ≠ 0) : (mulI (sgn y) x < 0 ↔ ¬ (x < 0 ↔ y < 0)) ∧ mulI (sgn y) x ≠ 0 ∧ (mulI (sgn y) x).natAbs = x.natAbs := by
  unfold mulI sgn
  by_cases hy0 : y < 0
  · rw [if_pos hy0]; simp [hy0]; omega
  · rw [if_neg hy0]; simp [hy0]; omega
theorem mul_rnd {x y e f prec : Int} {way : Way} {z : M4} (hx : x ≠ 0) (hy : y ≠ 0) (h : IsRnd (if xorI (told x e).s (told y f).s = 1 then -(mulI (told x e).m (told y f).m) else mulI (told x e).m (told y f).m) 1 ((told x e).e + (told y f).e) prec.toNat way z) : IsRnd (mulI x y) 1 (e + f) prec.toNat way z := by
  obtain ⟨t, o, h1, h2⟩ := make_of hx
  obtain ⟨u, p, h3, h4⟩ := make_of hy
  rw [told_char h1 h2, told_char h3 h4] at h
  dsimp only at h
  unfold mulI at h ⊢
  have hN : (0 : Int) < (o : Int) * (p : Int) := Int.mul_pos (by omega) (by omega)
  obtain ⟨a1, a2, a3⟩ := if_neg_iff (s := xorI (if x < 0 then 1 else 0) (if y < 0 then 1 else 0)) hN
  refine isRnd_move (i := t + u) (j := 0) (by decide) ?_ ?_ ?_ (by omega) h
  · rw [a1, mul_neg_iff hx hy]; exact xor_one
  · have : x * y ≠ 0 := Int.mul_ne_zero hx hy
    exact ⟨fun q => absurd q a2, fun q => absurd q this⟩
  · rw [a3, Int.natAbs_mul, Int.natAbs_mul, h2, h4, Nat.pow_add]
    simp only [Int.natAbs_natCast, Nat.one_mul, Nat.mul_one, Nat.pow_zero, Nat.mul_assoc, Nat.mul_left_comm, Nat.mul_comm]
theorem muli_rnd {x n e prec sg N : Int} {way : Way} {z : M4} (hx : x ≠ 0) (hN : 0 < N) (hs : (n = N ∧ sg = (told x e).s) ∨ (n = -N ∧ sg = xorI (told x e).s 1)) (h : IsRnd (if sg = 1 then -(mulI (told x e).m N) else mulI (told x e).m N) 1 (told x e).e prec.toNat way z) : IsRnd (mulI x n) 1 e prec.toNat way z := by
  obtain ⟨t, o, h1, h2⟩ := make_of hx
  rw [told_char h1 h2] at h hs
  dsimp only at h hs
  unfold mulI at h ⊢
  have hn : n ≠ 0 := by omega
  have hM : (0 : Int) < (o : Int) * N := Int.mul_pos (by omega) hN
  obtain ⟨a1, a2, a3⟩ := if_neg_iff (s := sg) hM
  have hsg : sg = 1 ↔ ¬ (x < 0 ↔ n < 0) := by
    rcases hs with ⟨rfl, rfl⟩ | ⟨rfl, rfl⟩
    · by_cases hx0 : x < 0
      · rw [if_pos hx0]; simp [hx0]; omega
      · rw [if_neg hx0]; simp [hx0]; omega
    · have e1 := @xor_one x (-N)
      rw [if_pos (show -N < 0 by omega)] at e1
      exact e1
  refine isRnd_move (i := t) (j := 0) (by decide) ?_ ?_ ?_ (by omega) h
  · rw [a1, mul_neg_iff hx hn]; exact hsg
  · have : x * n ≠ 0 := Int.mul_ne_zero hx hn
    exact ⟨fun q => absurd q a2, fun q => absurd q this⟩
  · rw [a3, Int.natAbs_mul, Int.natAbs_mul, h2, show n.natAbs = N.natAbs by omega]
    simp only [Int.natAbs_natCast, Nat.one_mul, Nat.mul_one, Nat.pow_zero, Nat.mul_assoc, Nat.mul_left_comm, Nat.mul_comm]
theorem muli_bits {a n : Int} (ha : 0 < a) (hn : 0 < n) : bits a + (bits n - 1) + shr (mulI a n) (bits a + (bits n - 1)) = bits (mulI a n) := by
  obtain ⟨x, rfl⟩ := Int.eq_ofNat_of_zero_le (Int.le_of_lt ha)
  obtain ⟨y, rfl⟩ := Int.eq_ofNat_of_zero_le (Int.le_of_lt hn)
  obtain ⟨b, h1, h2, h3⟩ := man_range (m := x) (by omega)
  obtain ⟨c, h4, h5, h6⟩ := man_range (m := y) (by omega)
  unfold mulI
  rw [h1, h4, show ((b : Int) + 1 + ((c : Int) + 1 - 1)) = ((b + c + 1 : Nat) : Int) by omega, ← Int.natCast_mul, shr_natN]
  have l1 : 2 ^ (b + c) ≤ x * y := by rw [Nat.pow_add]; exact Nat.mul_le_mul h2 h5
  have l2 : x * y < 2 ^ (b + c + 1) * 2 := by
    rw [← Nat.pow_succ, show (b + c + 1).succ = (b + 1) + (c + 1) by omega, Nat.pow_add]
    exact Nat.mul_lt_mul'' h3 h6
  have hp : 0 < 2 ^ (b + c + 1) := Nat.pow_pos (by decide)
  have hp' : 0 < 2 ^ (b + c) := Nat.pow_pos (by decide)
  by_cases hc : x * y < 2 ^ (b + c + 1)
  · rw [Nat.div_eq_of_lt hc]
    have := (bits_iff ((x * y : Nat) : Int) (by omega) (b + c)).mpr ⟨by rw [Int.natAbs_natCast]; exact l1, by rw [Int.natAbs_natCast]; exact hc⟩
    omega
  · have hd : x * y / 2 ^ (b + c + 1) = 1 := by
      apply Nat.div_eq_of_lt_le
      · omega
      · omega
    rw [hd]
    have := (bits_iff ((x * y : Nat) : Int) (by omega) (b + c + 1)).mpr ⟨by rw [Int.natAbs_natCast]; omega, by rw [Int.natAbs_natCast, Nat.pow_succ]; omega⟩
    omega
/-! quotients -/
theorem quot_rnd0 {W N M E : Nat} {s P : Int} {prec : Nat} {way : Way} {z : M4} (hW : 0 < W) (hN : 0 < N) (hq : W * M = N * 2 ^ E) (h : IsRnd (if s = 1 then -(W : Int) else W) 1 P prec way z) : IsRnd (if s = 1 then -(N : Int) else N) M (P + E) prec way z := by
  obtain ⟨a1, a2, a3⟩ := if_neg_iff (N := (W : Int)) (s := s) (by omega)
  obtain ⟨b1, b2, b3⟩ := if_neg_iff (N := (N : Int)) (s := s) (by omega)
  refine isRnd_move (i := 0) (j := E) (by decide) (a1.trans b1.symm) ⟨fun q => absurd q a2, fun q => absurd q b2⟩ ?_ (by omega) h
  rw [a3, b3, Int.natAbs_natCast, Int.natAbs_natCast, Nat.pow_zero, Nat.mul_one, Nat.mul_one, hq]
theorem quot_rnd1 {W N M E r : Nat} {s P : Int} {prec : Nat} {way : Way} {z : M4} (hN : 0 < N) (hp : 1 ≤ prec) (hW : 2 ^ prec ≤ W) (hr : 0 < r) (hrM : r < M) (hq : W * M + r = N * 2 ^ E) (h : IsRnd (if s = 1 then -((2 * W + 1 : Nat) : Int) else ((2 * W + 1 : Nat) : Int)) 1 P prec way z) :
    IsRnd (if s = 1 then -(N : Int) else N) M (P + E + 1) prec way z := by
  obtain ⟨a1, a2, a3⟩ := if_neg_iff (N := ((2 * W + 1 : Nat) : Int)) (s := s) (by omega)
  obtain ⟨b1, b2, b3⟩ := if_neg_iff (N := (N : Int)) (s := s) (by omega)
  have hpp : 0 < 2 ^ prec := Nat.pow_pos (by decide)
  obtain ⟨b, _, l1, l2⟩ := man_range (m := W) (by omega)
  have hbp : prec ≤ b := by
    rcases Nat.lt_or_ge b prec with hlt | hge
    · have := Nat.pow_le_pow_right (show 0 < 2 by decide) (show b + 1 ≤ prec by omega); omega
    · exact hge
  obtain ⟨k, hk⟩ : ∃ k, b + 1 = prec + k := ⟨b + 1 - prec, by omega⟩
  have hk1 : 1 ≤ k := by omega
  have hbk : b = k + (prec - 1) := by omega
  have e1 : 2 ^ b = 2 ^ k * 2 ^ (prec - 1) := by rw [← Nat.pow_add, hbk]
  have e2 : 2 ^ (b + 1) = 2 ^ k * 2 ^ prec := by rw [← Nat.pow_add, show k + prec = b + 1 by omega]
  have own : IsRnd (if s = 1 then -((2 * W + 1 : Nat) : Int) else ((2 * W + 1 : Nat) : Int)) 1 P prec way (told (sgn (if s = 1 then -((2 * W + 1 : Nat) : Int) else ((2 * W + 1 : Nat) : Int)) * (roundQ (2 * W + 1) (2 * 2 ^ k) way (decide ((if s = 1 then -((2 * W + 1 : Nat) : Int) else ((2 * W + 1 : Nat) : Int)) < 0)) : Nat)) (P + (k + 1 : Nat))) := by
    refine .inr ⟨a2, 2 * W + 1, 2 * 2 ^ k, k + 1, 0, P + (k + 1 : Nat), by have := Nat.pow_pos (n := k) (show 0 < 2 by decide); omega, ?_, ?_, ?_, by omega, rfl⟩
    · rw [Nat.mul_assoc, ← e1]; omega
    · rw [Nat.mul_assoc, ← e2]; omega
    · rw [a3, Int.natAbs_natCast, Nat.pow_zero, Nat.mul_one, Nat.mul_one, Nat.pow_succ, Nat.mul_comm (2 ^ k) 2]
  have hz := isRnd_unique (by decide) hp h own
  rw [hz]
  have hs1 : decide ((if s = 1 then -((2 * W + 1 : Nat) : Int) else ((2 * W + 1 : Nat) : Int)) < 0) = decide ((if s = 1 then -(N : Int) else N) < 0) := decide_eq_decide.mpr (a1.trans b1.symm)
  have hs2 : sgn (if s = 1 then -((2 * W + 1 : Nat) : Int) else ((2 * W + 1 : Nat) : Int)) = sgn (if s = 1 then -(N : Int) else N) := by
    unfold sgn
    by_cases q : s = 1
    · rw [if_pos (a1.mpr q), if_pos (b1.mpr q)]
    · rw [if_neg (fun c => q (a1.mp c)), if_neg (fun c => q (b1.mp c))]
  have hst := roundQ_sticky (W := W) (b := M) (r := r) (k := k) (way := way) (neg := decide ((if s = 1 then -(N : Int) else N) < 0)) hrM hk1
  rw [show (if r = 0 then 0 else 1) = 1 from if_neg (by omega)] at hst
  refine .inr ⟨b2, W * M + r, M * 2 ^ k, k, E, P + (k + 1 : Nat), Nat.mul_pos (by omega) (Nat.pow_pos (by decide)), ?_, ?_, ?_, by omega, ?_⟩
  · rw [Nat.mul_assoc, ← e1, Nat.mul_comm M]
    have := Nat.mul_le_mul_right M l1
    omega
  · rw [Nat.mul_assoc, ← e2, Nat.mul_comm M]
    have := Nat.mul_le_mul_right M (show W + 1 ≤ 2 ^ (b + 1) by omega)
    rw [Nat.succ_mul] at this
    omega
  · rw [b3, Int.natAbs_natCast, hq]
    simp only [Nat.mul_assoc, Nat.mul_left_comm, Nat.mul_comm]
  · rw [hs1, hs2, hst]
theorem shl_natN (a k : Nat) : shl (a : Int) (k : Int) = ((a * 2 ^ k : Nat) : Int) := by unfold shl; simp
theorem shl_one (a : Nat) : shl (a : Int) 1 + 1 = ((2 * a + 1 : Nat) : Int) := by
  have h : shl (a : Int) 1 = (a : Int) * 2 := by unfold shl; rfl
  rw [h]; omega
theorem qdiv_natN (a b : Nat) (hb : 0 < b) : qdiv (a : Int) (b : Int) = ((a / b : Nat) : Int) := by rw [qdiv_eq (by omega)]; simp
theorem qmod_natN (a b : Nat) (hb : 0 < b) : qmod (a : Int) (b : Int) = ((a % b : Nat) : Int) := by rw [qmod_eq (by omega)]; simp
/-- the last step of the quotients: from the odd parts to the numbers -/
theorem quot_fin {x y P P' : Int} {o p t u : Nat} {s : Int} {prec : Nat} {way : Way} {z : M4} (ho : 0 < o) (hp : 0 < p) (hx : x ≠ 0) (hy : y ≠ 0) (h2 : x.natAbs = 2 ^ t * o) (h4 : y.natAbs = 2 ^ u * p) (hs : s = 1 ↔ ¬ (x < 0 ↔ y < 0)) (hP : P - P' = (t : Int) - u)
    (h : IsRnd (if s = 1 then -(o : Int) else o) p P prec way z) : IsRnd (mulI (sgn y) x) y.natAbs P' prec way z := by
  obtain ⟨a1, a2, a3⟩ := if_neg_iff (N := (o : Int)) (s := s) (by omega)
  obtain ⟨b1, b2, b3⟩ := sgn_mul hx hy
  refine isRnd_move (i := t) (j := u) hp (a1.trans (hs.trans b1.symm)) ⟨fun q => absurd q a2, fun q => absurd q b2⟩ ?_ hP h
  rw [a3, b3, h2, h4, Int.natAbs_natCast]
  simp only [Nat.mul_assoc, Nat.mul_left_comm, Nat.mul_comm]
theorem div_one_rnd {x e y f prec : Int} {way : Way} {z : M4} (hx : x ≠ 0) (hy : y ≠ 0) (h1 : (told y f).m = 1) (h : IsRnd (if xorI (told x e).s (told y f).s = 1 then -(told x e).m else (told x e).m) 1 ((told x e).e - (told y f).e) prec.toNat way z) : IsRnd (mulI (sgn y) x) y.natAbs (e - f) prec.toNat way z := by
  obtain ⟨t, o, h1', h2⟩ := make_of hx
  obtain ⟨u, p, h3, h4⟩ := make_of hy
  rw [told_char h3 h4] at h1
  rw [told_char h1' h2, told_char h3 h4] at h
  dsimp only at h h1
  have hp1 : p = 1 := by omega
  subst hp1
  exact quot_fin (by omega) (by decide) hx hy h2 h4 xor_one (by omega) h
theorem div_rnd0 {x e y f prec E : Int} {way : Way} {z : M4} (hx : x ≠ 0) (hy : y ≠ 0) (hE : 0 ≤ E) (hr : qmod (shl (told x e).m E) (told y f).m = 0) (h : IsRnd (if xorI (told x e).s (told y f).s = 1 then -(qdiv (shl (told x e).m E) (told y f).m) else qdiv (shl (told x e).m E) (told y f).m) 1 ((told x e).e - (told y f).e - E) prec.toNat way z) : IsRnd (mulI (sgn y) x) y.natAbs (e - f) prec.toNat way z := by
  obtain ⟨t, o, h1, h2⟩ := make_of hx
  obtain ⟨u, p, h3, h4⟩ := make_of hy
  obtain ⟨E, rfl⟩ := Int.eq_ofNat_of_zero_le hE
  rw [told_char h1 h2, told_char h3 h4] at h hr
  dsimp only at h hr
  have hp : 0 < p := by omega
  have ho : 0 < o := by omega
  rw [shl_natN, qmod_natN _ _ hp] at hr
  rw [shl_natN, qdiv_natN _ _ hp] at h
  have hq : o * 2 ^ E / p * p = o * 2 ^ E := by have := Nat.div_add_mod (o * 2 ^ E) p; rw [Nat.mul_comm]; omega
  have hpos : 0 < o * 2 ^ E := Nat.mul_pos ho (Nat.pow_pos (by decide))
  have hW : 0 < o * 2 ^ E / p := by
    rcases Nat.eq_zero_or_pos (o * 2 ^ E / p) with q | q
    · rw [q] at hq; omega
    · exact q
  have h5 := quot_rnd0 hW ho hq h
  exact quot_fin ho hp hx hy h2 h4 xor_one (by omega) h5
theorem big_quot {o p E k : Nat} {b c : Nat} (hp : 0 < p) (h1 : 2 ^ b ≤ o) (h2 : p < 2 ^ (c + 1)) (hE : k + c + 1 ≤ b + E) : 2 ^ k ≤ o * 2 ^ E / p := by
  rw [Nat.le_div_iff_mul_le hp]
  have s1 : 2 ^ k * p ≤ 2 ^ k * 2 ^ (c + 1) := Nat.mul_le_mul_left _ (Nat.le_of_lt h2)
  have s2 : 2 ^ k * 2 ^ (c + 1) ≤ 2 ^ b * 2 ^ E := by rw [← Nat.pow_add, ← Nat.pow_add]; exact Nat.pow_le_pow_right (by decide) (by omega)
  have s3 : 2 ^ b * 2 ^ E ≤ o * 2 ^ E := Nat.mul_le_mul_right _ h1
  omega
theorem div_rnd1 {x e y f prec E : Int} {way : Way} {z : M4} (hx : x ≠ 0) (hy : y ≠ 0) (hE : 5 ≤ E) (hE2 : prec - (told x e).b + (told y f).b + 5 ≤ E) (hp : 1 ≤ prec) (hr : qmod (shl (told x e).m E) (told y f).m ≠ 0) (h : IsRnd (if xorI (told x e).s (told y f).s = 1 then -(shl (qdiv (shl (told x e).m E) (told y f).m) 1 + 1) else shl (qdiv (shl (told x e).m E) (told y f).m) 1 + 1) 1 ((told x e).e - (told y f).e - (E + 1)) prec.toNat way z) : IsRnd (mulI (sgn y) x) y.natAbs (e - f) prec.toNat way z := by
  obtain ⟨t, o, h1, h2⟩ := make_of hx
  obtain ⟨u, p, h3, h4⟩ := make_of hy
  obtain ⟨E, rfl⟩ := Int.eq_ofNat_of_zero_le (show 0 ≤ E by omega)
  obtain ⟨q, rfl⟩ := Int.eq_ofNat_of_zero_le (show 0 ≤ prec by omega)
  rw [told_char h1 h2, told_char h3 h4] at h hr hE2
  dsimp only at h hr hE2
  rw [Int.toNat_natCast] at h ⊢
  have hp0 : 0 < p := by omega
  have ho : 0 < o := by omega
  rw [shl_natN, qmod_natN _ _ hp0] at hr
  rw [shl_natN, qdiv_natN _ _ hp0, shl_one] at h
  obtain ⟨b, b1, b2, b3⟩ := man_range ho
  obtain ⟨c, c1, c2, c3⟩ := man_range hp0
  have hW : 2 ^ q ≤ o * 2 ^ E / p := big_quot hp0 b2 c3 (by omega)
  have hq : o * 2 ^ E / p * p + o * 2 ^ E % p = o * 2 ^ E := by have := Nat.div_add_mod (o * 2 ^ E) p; rw [Nat.mul_comm]; omega
  have h5 := quot_rnd1 ho (by omega) hW (by omega) (Nat.mod_lt _ hp0) hq h
  exact quot_fin ho hp0 hx hy h2 h4 xor_one (by omega) h5
theorem rdiv_sgn {n y f N sg : Int} {u p : Nat} (hN : 0 < N) (h3 : p % 2 = 1) (h4 : y.natAbs = 2 ^ u * p) (hs : (n = N ∧ sg = (told y f).s) ∨ (n = -N ∧ sg = xorI (told y f).s 1)) : sg = 1 ↔ ¬ (n < 0 ↔ y < 0) := by
  rw [told_char h3 h4] at hs
  dsimp only at hs
  rcases hs with ⟨rfl, rfl⟩ | ⟨rfl, rfl⟩
  · by_cases hy0 : y < 0
    · rw [if_pos hy0]; simp [hy0]; omega
    · rw [if_neg hy0]; simp [hy0]; omega
  · have e1 := @xor_one y (-N)
    rw [if_pos (show -N < 0 by omega)] at e1
    rw [e1]
    constructor <;> intro q w <;> exact q w.symm
theorem rdiv_rnd0 {n y f prec E N sg : Int} {way : Way} {z : M4} (hy : y ≠ 0) (hN : 0 < N) (hs : (n = N ∧ sg = (told y f).s) ∨ (n = -N ∧ sg = xorI (told y f).s 1)) (hE : 0 ≤ E) (hr : qmod (shl N E) (told y f).m = 0) (h : IsRnd (if sg = 1 then -(qdiv (shl N E) (told y f).m) else qdiv (shl N E) (told y f).m) 1 (-(told y f).e - E) prec.toNat way z) : IsRnd (mulI (sgn y) n) y.natAbs (-f) prec.toNat way z := by
  obtain ⟨u, p, h3, h4⟩ := make_of hy
  have hsg := rdiv_sgn hN h3 h4 hs
  obtain ⟨E, rfl⟩ := Int.eq_ofNat_of_zero_le hE
  obtain ⟨o, rfl⟩ := Int.eq_ofNat_of_zero_le (Int.le_of_lt hN)
  rw [told_char h3 h4] at h hr
  dsimp only at h hr
  have hp : 0 < p := by omega
  have ho : 0 < o := by omega
  rw [shl_natN, qmod_natN _ _ hp] at hr
  rw [shl_natN, qdiv_natN _ _ hp] at h
  have hq : o * 2 ^ E / p * p = o * 2 ^ E := by have := Nat.div_add_mod (o * 2 ^ E) p; rw [Nat.mul_comm]; omega
  have hpos : 0 < o * 2 ^ E := Nat.mul_pos ho (Nat.pow_pos (by decide))
  have hW : 0 < o * 2 ^ E / p := by
    rcases Nat.eq_zero_or_pos (o * 2 ^ E / p) with q | q
    · rw [q] at hq; omega
    · exact q
  have h5 := quot_rnd0 hW ho hq h
  exact quot_fin (t := 0) ho hp (by omega) hy (by simp; omega) h4 hsg (by omega) h5
theorem rdiv_rnd1 {n y f prec E N sg : Int} {way : Way} {z : M4} (hy : y ≠ 0) (hN : 0 < N) (hs : (n = N ∧ sg = (told y f).s) ∨ (n = -N ∧ sg = xorI (told y f).s 1)) (hE : E = prec + (told y f).b + 5) (hp : 1 ≤ prec) (hr : qmod (shl N E) (told y f).m ≠ 0) (h : IsRnd (if sg = 1 then -(shl (qdiv (shl N E) (told y f).m) 1 + 1) else shl (qdiv (shl N E) (told y f).m) 1 + 1) 1 (-(told y f).e - (E + 1)) prec.toNat way z) : IsRnd (mulI (sgn y) n) y.natAbs (-f) prec.toNat way z := by
  obtain ⟨u, p, h3, h4⟩ := make_of hy
  have hsg := rdiv_sgn hN h3 h4 hs
  have hb0 : 0 ≤ (told y f).b := by rw [told_bits]; exact bits_nonneg
  obtain ⟨E, rfl⟩ := Int.eq_ofNat_of_zero_le (show 0 ≤ E by omega)
  obtain ⟨q, rfl⟩ := Int.eq_ofNat_of_zero_le (show 0 ≤ prec by omega)
  obtain ⟨o, rfl⟩ := Int.eq_ofNat_of_zero_le (Int.le_of_lt hN)
  rw [told_char h3 h4] at h hr hE
  dsimp only at h hr hE
  rw [Int.toNat_natCast] at h ⊢
  have hp0 : 0 < p := by omega
  have ho : 0 < o := by omega
  rw [shl_natN, qmod_natN _ _ hp0] at hr
  rw [shl_natN, qdiv_natN _ _ hp0, shl_one] at h
  obtain ⟨b, b1, b2, b3⟩ := man_range ho
  obtain ⟨c, c1, c2, c3⟩ := man_range hp0
  have hW : 2 ^ q ≤ o * 2 ^ E / p := big_quot hp0 b2 c3 (by omega)
  have hq : o * 2 ^ E / p * p + o * 2 ^ E % p = o * 2 ^ E := by have := Nat.div_add_mod (o * 2 ^ E) p; rw [Nat.mul_comm]; omega
  have h5 := quot_rnd1 ho (by omega) hW (by omega) (Nat.mod_lt _ hp0) hq h
  exact quot_fin (t := 0) ho hp0 (by omega) hy (by simp; omega) h4 hsg (by omega) h5
/-! the law's own rounding -/
theorem pw2_natN (k : Nat) : pw2 (k : Int) = ((2 ^ k : Nat) : Int) := pw2_nat k
theorem absI_nat (A : Int) : absI A = ((A.natAbs : Nat) : Int) := by unfold absI; split <;> omega
theorem loop_nat {A B most up : Int} {u m : Nat} (hB0 : 0 < B) (hu : up = u) (hm : most + 2 = m) : (mulI (absI A) (pw2 up) < mulI B (pw2 (most + 2))) ↔ A.natAbs * 2 ^ u < B.natAbs * 2 ^ m := by
  rw [hu, hm, pw2_natN, pw2_natN, absI_nat]
  unfold mulI
  have hB : B = ((B.natAbs : Nat) : Int) := by omega
  rw [hB]
  rw [← Int.natCast_mul, ← Int.natCast_mul, Int.natAbs_natCast]
  omega
theorem rinv_le' {A B most up : Int} (h0 : 0 ≤ up) (h : up = 0 ∨ mulI (absI A) (pw2 (up - 1)) < mulI B (pw2 (most + 2))) (hA : A ≠ 0) (hB : bits B ≤ 64) (hB0 : 0 < B) (hm : most ≤ 100) (hm0 : 1 ≤ most) : up ≤ 200 := by
  rcases h with h | h
  · omega
  · rcases Int.lt_or_le up 1 with q | q
    · omega
    · obtain ⟨u, hu⟩ := Int.eq_ofNat_of_zero_le (show 0 ≤ up - 1 by omega)
      obtain ⟨m, hme⟩ := Int.eq_ofNat_of_zero_le (show 0 ≤ most + 2 by omega)
      rw [loop_nat hB0 hu hme] at h
      have hb : B.natAbs < 2 ^ 64 := (bits_le_iff B 64).mp hB
      have hpm : 0 < 2 ^ m := Nat.pow_pos (by decide)
      have s1 : 2 ^ u ≤ A.natAbs * 2 ^ u := Nat.le_mul_of_pos_left _ (by omega)
      have s2 : B.natAbs * 2 ^ m ≤ 2 ^ 64 * 2 ^ m := Nat.mul_le_mul_right _ (Nat.le_of_lt hb)
      rw [← Nat.pow_add] at s2
      have s3 : 2 ^ u < 2 ^ (64 + m) := by omega
      have := (Nat.pow_lt_pow_iff_right (show 1 < 2 by decide)).mp s3
      omega
theorem whole_nat {A B up : Int} {u : Nat} (hB0 : 0 < B) (hu : up = u) : qdiv (mulI (absI A) (pw2 up)) B = ((A.natAbs * 2 ^ u / B.natAbs : Nat) : Int) ∧ qmod (mulI (absI A) (pw2 up)) B = ((A.natAbs * 2 ^ u % B.natAbs : Nat) : Int) := by
  rw [hu, pw2_natN, absI_nat]
  unfold mulI
  rw [← Int.natCast_mul]
  have hB : B = ((B.natAbs : Nat) : Int) := by omega
  constructor
  · conv => lhs; rw [hB]
    exact qdiv_natN _ _ (by omega)
  · conv => lhs; rw [hB]
    exact qmod_natN _ _ (by omega)
theorem whole_big {A B most up : Int} {u m : Nat} (hn : ¬ mulI (absI A) (pw2 up) < mulI B (pw2 (most + 2))) (hB0 : 0 < B) (hu : up = u) (hm : most = m) : 2 ^ (m + 2) ≤ A.natAbs * 2 ^ u / B.natAbs := by
  rw [loop_nat hB0 hu (m := m + 2) (by omega)] at hn
  rw [Nat.le_div_iff_mul_le (by omega), Nat.mul_comm]
  omega
theorem whole_pos' {A B most up : Int} (h0 : 0 ≤ up) (hn : ¬ mulI (absI A) (pw2 up) < mulI B (pw2 (most + 2))) (hB0 : 0 < B) (hm : 1 ≤ most) : 0 < bits (qdiv (mulI (absI A) (pw2 up)) B) - most := by
  obtain ⟨u, hu⟩ := Int.eq_ofNat_of_zero_le h0
  obtain ⟨m, hme⟩ := Int.eq_ofNat_of_zero_le (show 0 ≤ most by omega)
  have hb := whole_big hn hB0 hu hme
  rw [(whole_nat hB0 hu).1]
  have := bits_le_iff ((A.natAbs * 2 ^ u / B.natAbs : Nat) : Int) (m + 2)
  rw [Int.natAbs_natCast] at this
  omega
theorem rndL_round {A : Int} {w b r k : Nat} {way : Way} (hb : r < b) (hk : 1 ≤ k) : rndL A ((w / 2 ^ k : Nat) : Int) ((w % 2 ^ k : Nat) : Int) ((2 ^ k : Nat) : Int) (r : Int) way = (roundQ (w * b + r) (b * 2 ^ k) way (decide (A < 0)) : Nat) ∨ A = 0 := by
  by_cases hA : A = 0
  · exact .inr hA
  left
  obtain ⟨j, rfl⟩ : ∃ j, k = j + 1 := ⟨k - 1, by omega⟩
  have hd : (w * b + r) / b = w := by rw [Nat.mul_comm, Nat.mul_add_div (by omega), Nat.div_eq_of_lt hb, Nat.add_zero]
  have hm : (w * b + r) % b = r := by rw [Nat.mul_comm, Nat.mul_add_mod, Nat.mod_eq_of_lt hb]
  have e1 : (w * b + r) % (b * 2 ^ (j + 1)) = r + b * (w % 2 ^ (j + 1)) := by rw [Nat.mod_mul, hd, hm]
  have e2 : (w * b + r) / (b * 2 ^ (j + 1)) = w / 2 ^ (j + 1) := by rw [← Nat.div_div_eq_div_mul, hd]
  have e3 : 2 ^ (j + 1) = 2 * 2 ^ j := by rw [Nat.pow_succ]; omega
  unfold roundQ
  rw [e1, e2]
  generalize w / 2 ^ (j + 1) = l
  rw [e3]
  generalize w % (2 * 2 ^ j) = q
  generalize 2 ^ j = h
  have hz : r + b * q ≠ 0 ↔ (0 < (q : Int) ∨ 0 < (r : Int)) := by
    have hbq : b * q = 0 ↔ q = 0 := by rw [Nat.mul_eq_zero]; omega
    omega
  have c : (q < h → r + b * q < b * h) ∧ (h < q → b * h < r + b * q) := by
    constructor
    · intro hq
      have := Nat.mul_le_mul_left b (show q + 1 ≤ h by omega)
      rw [Nat.mul_succ] at this
      omega
    · intro hq
      have := Nat.mul_le_mul_left b (show h + 1 ≤ q by omega)
      rw [Nat.mul_succ] at this
      omega
  have fin : ∀ (P Q : Prop) [Decidable P] [Decidable Q], (P ↔ Q) → (if P then (l : Int) + 1 else (l : Int)) = ((l + (if Q then 1 else 0) : Nat) : Int) := by
    intro P Q _ _ hpq
    by_cases hP : P
    · rw [if_pos hP, if_pos (hpq.mp hP)]; simp
    · rw [if_neg hP, if_neg (fun x => hP (hpq.mpr x))]; simp
  unfold rndL
  cases way with
  | n =>
    dsimp only
    refine fin _ _ ?_
    unfold far mulI
    dsimp only
    rw [qmod_eq (by decide), ← hz]
    simp only [Bool.or_eq_true, Bool.and_eq_true, decide_eq_true_eq]
    have hb2 : b * (2 * h) = 2 * (b * h) := by rw [Nat.mul_left_comm]
    rw [hb2]
    obtain ⟨c1, c2⟩ := c
    rcases Nat.lt_trichotomy q h with hq | hq | hq
    · have := c1 hq; omega
    · subst hq; omega
    · have := c2 hq; omega
  | f => dsimp only; refine fin _ _ ?_; rw [hz]; unfold far; simp
  | c => dsimp only; refine fin _ _ ?_; rw [hz]; unfold far; simp; omega
  | u => dsimp only; refine fin _ _ ?_; rw [hz]; unfold far; simp
  | d => dsimp only; unfold far; simp
theorem rounded_rnd {A B P most up : Int} {way : Way} (hA : A ≠ 0) (hB0 : 0 < B) (hm : 1 ≤ most) (h0 : 0 ≤ up) (hn : ¬ mulI (absI A) (pw2 up) < mulI B (pw2 (most + 2))) :
    IsRnd A B.natAbs P most.toNat way (told (sgn A * rndL A (qdiv (qdiv (mulI (absI A) (pw2 up)) B) (pw2 (bits (qdiv (mulI (absI A) (pw2 up)) B) - most))) (qmod (qdiv (mulI (absI A) (pw2 up)) B) (pw2 (bits (qdiv (mulI (absI A) (pw2 up)) B) - most))) (pw2 (bits (qdiv (mulI (absI A) (pw2 up)) B) - most)) (qmod (mulI (absI A) (pw2 up)) B) way) (P - up + bits (pw2 (bits (qdiv (mulI (absI A) (pw2 up)) B) - most)) - 1)) := by
  obtain ⟨u, hu⟩ := Int.eq_ofNat_of_zero_le h0
  obtain ⟨m, hme⟩ := Int.eq_ofNat_of_zero_le (show 0 ≤ most by omega)
  have hb := whole_big hn hB0 hu hme
  obtain ⟨w1, w2⟩ := whole_nat (A := A) hB0 hu
  rw [w1, w2]
  have hBn : 0 < B.natAbs := by omega
  have hdm := Nat.div_add_mod (A.natAbs * 2 ^ u) B.natAbs
  have hrl := Nat.mod_lt (A.natAbs * 2 ^ u) hBn
  generalize A.natAbs * 2 ^ u / B.natAbs = w at *
  generalize hrd : A.natAbs * 2 ^ u % B.natAbs = r at *
  have hpm : 0 < 2 ^ (m + 2) := Nat.pow_pos (by decide)
  obtain ⟨b, b1, b2, b3⟩ := man_range (m := w) (by omega)
  have hbm : m + 2 ≤ b := by
    rcases Nat.lt_or_ge b (m + 2) with hlt | hge
    · have := Nat.pow_le_pow_right (show 0 < 2 by decide) (show b + 1 ≤ m + 2 by omega); omega
    · exact hge
  obtain ⟨k, hk⟩ : ∃ k : Nat, bits (w : Int) - most = (k : Int) := ⟨b + 1 - m, by omega⟩
  have hkb : b + 1 = k + m := by omega
  rw [hk, bits_pw2 (by omega), pw2_natN, qdiv_natN _ _ (Nat.pow_pos (by decide)), qmod_natN _ _ (Nat.pow_pos (by decide))]
  rcases rndL_round (A := A) (w := w) (b := B.natAbs) (r := r) (k := k) (way := way) hrl (by omega) with hq | hq
  · rw [hq, hme, Int.toNat_natCast]
    have hN : w * B.natAbs + r = A.natAbs * 2 ^ u := by rw [Nat.mul_comm]; exact hdm
    have e1 : 2 ^ b = 2 ^ k * 2 ^ (m - 1) := by rw [← Nat.pow_add]; congr 1; omega
    have e2 : 2 ^ (b + 1) = 2 ^ k * 2 ^ m := by rw [← Nat.pow_add, hkb]
    refine .inr ⟨hA, w * B.natAbs + r, B.natAbs * 2 ^ k, k, u, P - up + ((k : Int) + 1) - 1, Nat.mul_pos hBn (Nat.pow_pos (by decide)), ?_, ?_, ?_, by omega, rfl⟩
    · rw [Nat.mul_assoc, ← e1, Nat.mul_comm B.natAbs]
      have := Nat.mul_le_mul_right B.natAbs b2
      omega
    · rw [Nat.mul_assoc, ← e2, Nat.mul_comm B.natAbs]
      have := Nat.mul_le_mul_right B.natAbs (show w + 1 ≤ 2 ^ (b + 1) by omega)
      rw [Nat.succ_mul] at this
      omega
    · rw [hN]
      simp only [Nat.mul_assoc, Nat.mul_left_comm, Nat.mul_comm]
  · exact absurd hq hA
theorem pw2_toNat (n : Int) : pw2 n = pw2 ((n.toNat : Nat) : Int) := by unfold pw2; rw [Int.toNat_natCast]
theorem whole_pos {A B most up : Int} (hn : ¬ mulI (absI A) (pw2 up) < mulI B (pw2 (most + 2))) (hB0 : 0 < B) (hm : 1 ≤ most) : 0 < bits (qdiv (mulI (absI A) (pw2 up)) B) - most := by
  rw [pw2_toNat up] at hn ⊢
  exact whole_pos' (by omega) hn hB0 hm

section
variable {x e sg M : Int}
end

/-- what told bears -/
theorem xor_01 {a b : Int} (ha : a = 0 ∨ a = 1) (hb : b = 0 ∨ b = 1) : xorI a b = 0 ∨ xorI a b = 1 := by
  rcases ha with rfl | rfl <;> rcases hb with rfl | rfl <;> unfold xorI <;> decide
theorem mul_pos' {a b : Int} (ha : 0 < a) (hb : 0 < b) : 0 < mulI a b := by unfold mulI; exact Int.mul_pos ha hb


local macro_rules | `(tactic| walk_at "binaryOp BitAnd int int") => `(tactic| (k_here; with_reducible refine r_band ?_))
local macro_rules | `(tactic| walk_at "call builtin:int.bit_length") => `(tactic| (k_here; with_reducible refine r_bits ?_))
local macro_rules | `(tactic| walk_at "binaryOp RShift int int") => `(tactic| (k_here; (with_reducible refine r_rshift ?kb1 ?_); (case kb1 => first | decide | omega)))
local macro_rules | `(tactic| walk_at "inplaceOp RShift int int") => `(tactic| (k_here; (with_reducible refine r_irshift ?kb1 ?_); (case kb1 => first | decide | omega)))
local macro_rules | `(tactic| walk_at "binaryOp LShift int int") => `(tactic| (k_here; (with_reducible refine r_lshift ?kb1 ?kb2 ?_); (case kb1 => first | decide | omega); (case kb2 => first | assumption | omega)))
local macro_rules | `(tactic| walk_at "binaryOp Mult int int") => `(tactic| (k_here; (with_reducible refine r_mul ?kb1 ?_); (case kb1 => first | (left; first | assumption | decide | omega) | (right; first | assumption | decide | omega))))
local macro_rules | `(tactic| walk_at "inplaceOp Mult int int") => `(tactic| (k_here; (with_reducible refine r_imul ?kb1 ?_); (case kb1 => first | (left; first | assumption | decide | omega) | (right; first | assumption | decide | omega))))
local macro_rules | `(tactic| walk_at "binaryOp FloorDiv int int") => `(tactic| (k_here; (with_reducible refine r_floordiv ?kb1 ?kb2 ?_); (case kb1 => first | assumption | decide | omega); (case kb2 => first | assumption | decide | omega)))
local macro_rules | `(tactic| walk_at "binaryOp Mod int int") => `(tactic| (k_here; (with_reducible refine r_mod ?kb1 ?_); (case kb1 => first | assumption | decide | omega)))
local macro_rules | `(tactic| walk_at "binaryOp Pow int int") => `(tactic| (k_here; (with_reducible refine r_pow2 ?kb1 ?kb2 ?_); (case kb1 => first | assumption | decide | omega); (case kb2 => first | assumption | decide | omega)))
local macro_rules | `(tactic| walk_at "binaryOp BitXor int int") => `(tactic| (k_here; with_reducible refine r_xor ?_))
local macro_rules | `(tactic| walk_at "inplaceOp BitXor int int") => `(tactic| (k_here; with_reducible refine r_ixor ?_))
local macro_rules | `(tactic| walk_at "call builtin:abs") => `(tactic| (k_here; (with_reducible refine r_abs ?_); intro _ _))
local macro_rules | `(tactic| walk_at "call builtin:divmod") => `(tactic| (k_here; (refine' r_divmod ?F ?N ?kb1 ?kb2 ?_); (case F => assumption); (case N => assumption); (case kb1 => first | assumption | omega); (case kb2 => first | assumption | omega); intro D9 t91 t92 h9 F9 N9))
local macro_rules | `(tactic| walk_at "execs cons") => `(tactic| (k_here; (with_reducible (refine tok_any ?_; intro tk9; refine wpAny_execs_cons ?_)); (try dsimp only)))
local macro_rules | `(tactic| walk_at "execs nil") => `(tactic| (k_here; (with_reducible (refine tok_any ?_; intro tk9; refine wpAny_execs_nil ?_)); (try dsimp only)))
local macro_rules | `(tactic| walk_at "ite") => `(tactic| (k_here; with_reducible (first | (refine ite_tt0 ?_) | (refine ite_ff0 ?_) | (refine ite_ne0 ?_ ?_; (first | assumption | decide)) | (refine ite_eq0 ?_ ?_; (first | assumption | exact rfl)) | (refine ite_any0 ?_ ?_; (all_goals intro h9)))))
local macro_rules | `(tactic| ktr_enter) => `(tactic| (refine' code_def ?k1 ?k2 ?k3 ?k4 ?k5 ?kA ?kF ?kK ?k6 ?k7 ?k8 ?k9 ?kB ?_ ?c2 ?c3 ?c4 ?c5; (case kA => exact rfl); (case kF => exact rfl); (case kK => assumption); (case k1 => k_asm); (case k2 => k_asm); (case k3 => k_asm); (case k4 => k_asm); (case k5 => k_asm); (case k6 => k_is); (case k7 => k_is); (case k8 => ktr_room); (case k9 => exact binds_K (by k_in) rfl (by k_is) rfl rfl rfl); (case c5 => decide); (case kB => exact locs rfl); (case c2 => exact rfl); (case c3 => exact rfl); (case c4 => exact rfl); k_whole; intro g' L' h' FG' F' N' B' X' T'; (try dsimp only); (try k_fold)))
theorem ctr_trailing (w : World) (news : List (Addr × Obj)) (n : Int) (tn : Tok) (hn : n ≠ 0) :
    Ctr w 21 1 [.int n tn] news (fun v _ => ∃ t, v = .int (twosI n) t) := by
  unfold Ctr
  intro loose mean mg mb dp un gd cn cs a ccd cl outer A₀ base h₀ L m s Q E B F X N T hk hd hu hret
  refine wpAny_call ?_
  k_dflt ktr_enter
  repeat' (first | (k_unfold; (try dsimp only)) | walk1 | (dsimp only; walk1) | fail "no step")
  · exact hret _ _ _ _ (by k_asm) (by k_asm) (fun _ h => h) ⟨_, congrArg (fun x => Value.int x _) (by unfold twosI; omega)⟩

local macro_rules | `(tactic| walk_at "call ref") => `(tactic| (
   k_here; (with_reducible show wpAny _ _ (call (Value.ref 21) [Value.int _ _]) _ _ _);
   k_dflt (refine' ctr_use (ctr_trailing _ _ _ _ ?hn) ?k1 ?k2 ?k3 ?k4 ?k5 ?kK ?kd ?ku ?_; (case k1 => k_asm); (case k2 => k_asm); (case k3 => k_asm); (case k4 => k_asm); (case k5 => k_asm); (case kK => first | exact rfl | assumption); (case kd => ktr_room); (case ku => ktr_units); (case hn => first | assumption | omega));
   intro v9 nx9 h9 tk9 F9 N9 hR9; obtain ⟨t9, e9⟩ := hR9; subst e9; (try k_fold)))
/-- behind the rounding -/
def MidN (g' : Heap) (L' : Addr) (news : List (Addr × Obj)) (s : Shared) (sign : Int) (ts : Tok) (X e b : Int) (fl : Flow) (s' : Shared) : Prop :=
  fl = .next ∧ ∃ h' tk tm te tb, ∃ mm : Str → Option Value, s' = { s with heap := h', toks := tk } ∧ Fr g' L' h' mm ∧ News g' L' h' news ∧ mm (Str.ofString "man") = some (.int X tm) ∧ mm (Str.ofString "exp") = some (.int e te) ∧ mm (Str.ofString "bc") = some (.int b tb) ∧ mm (Str.ofString "sign") = some (.int sign ts)
theorem fr4 {g' h' : Heap} {L' : Addr} {mm : Str → Option Value} {x1 x2 x3 x4 : Str} {v1 v2 v3 v4 : Value} (F : Fr g' L' h' mm) (h1 : mm x1 = some v1) (h2 : mm x2 = some v2) (h3 : mm x3 = some v3) (h4 : mm x4 = some v4) :
    Fr g' L' h' (fun z => if z = x1 then some v1 else if z = x2 then some v2 else if z = x3 then some v3 else if z = x4 then some v4 else mm z) := by
  have e : (fun z => if z = x1 then some v1 else if z = x2 then some v2 else if z = x3 then some v3 else if z = x4 then some v4 else mm z) = mm := by
    funext z
    by_cases q1 : z = x1
    · subst q1; simp [h1]
    by_cases q2 : z = x2
    · subst q2; simp [q1, h2]
    by_cases q3 : z = x3
    · subst q3; simp [q1, q2, h3]
    by_cases q4 : z = x4
    · subst q4; simp [q1, q2, q3, h4]
    simp [q1, q2, q3, q4]
  rw [e]; exact F

structure MidArm (X e b : Int) : Prop where
structure MidFact (sign man exp bc prec : Int) (way : Way) (X e b : Int) : Prop where
  hx : (if 0 < bc - prec then rmX man (bc - prec) sign way else man) = X
  he : (if 0 < bc - prec then exp + (bc - prec) else exp) = e
  hb : (if 0 < bc - prec then prec else bc) = b
theorem bits_one : bits 1 = 1 := by unfold bits; decide
theorem midN_end {s : Shared} {g' : Heap} {L' : Addr} {news : List (Addr × Obj)} {sign : Int} {ts : Tok} {X e b X' e' b' : Int} {h' : Heap} {tk : Nat} {tm te tb : Tok} {mm : Str → Option Value}
    (eX : X' = X) (ee : e' = e) (eb : b' = b) (F : Fr g' L' h' mm) (N : News g' L' h' news) (h1 : mm (Str.ofString "man") = some (.int X' tm)) (h2 : mm (Str.ofString "exp") = some (.int e' te)) (h3 : mm (Str.ofString "bc") = some (.int b' tb)) (h4 : mm (Str.ofString "sign") = some (.int sign ts)) :
    MidN g' L' news s sign ts X e b .next { s with heap := h', toks := tk } := by
  subst eX; subst ee; subst eb
  exact ⟨rfl, h', tk, tm, te, tb, mm, rfl, F, N, h1, h2, h3, h4⟩
theorem midN {M : Model} {A : Around} {t : Sem Flow} {Q : Flow → Shared → Prop} {E : Value → Shared → Prop} {s : Shared} {g' : Heap} {L' : Addr} {m : Str → Option Value} {news : List (Addr × Obj)} {sign : Int} {ts : Tok} (X e b : Int) (_mm : MidArm X e b)
    (_F : Fr g' L' s.heap m) (_N : News g' L' s.heap news) (_hs : m (Str.ofString "sign") = some (.int sign ts))
    (h1 : wpAny M A t (MidN g' L' news s sign ts X e b) E s)
    (h2 : ∀ h' tk tm te tb (mm : Str → Option Value), Fr g' L' h' (fun z => if z = Str.ofString "man" then some (.int X tm) else if z = Str.ofString "exp" then some (.int e te) else if z = Str.ofString "bc" then some (.int b tb) else if z = Str.ofString "sign" then some (.int sign ts) else mm z) → News g' L' h' news → Q .next { s with heap := h', toks := tk }) :
    wpAny M A t Q E s := by
  refine wpAny_mono h1 (fun fl s' h => ?_) (fun _ _ x => x)
  obtain ⟨rfl, h', tk, tm, te, tb, mm, rfl, F, N, a, b, c, d⟩ := h
  exact h2 h' tk tm te tb mm (fr4 F a b c d) N


local macro_rules | `(tactic| walk_at "exec If Compare") => `(tactic| (
   k_here; (with_reducible show wpAny _ _ (exec (Stmt.If (PySem.Expr.Compare (PySem.Expr.Name (Str.ofString "n") _) _ _ _) _ _ _) _) _ _ _);
   (rename Fr _ _ _ _ => lF'); (rename News _ _ _ _ => lN'); (rename MidArm _ _ _ => lM');
   (k_dflt (refine' midN _ _ _ lM' lF' lN' ?ks ?_ ?_; (case ks => exact rfl)); k_whole); (clear lM'); (focus (rename Way => w9; rename ((_ : Int) = 0 ∨ _ = 1) => hs9; cases w9 <;> rcases hs9 with hs9 | hs9 <;> subst hs9 <;> (try dsimp only [Way.str])))))
section
variable {s X e b : Int}
theorem finX_a (h1 : band X 1 = 0) (h2 : shr X (twosI X) = 1) : finX s X e b = ⟨s, shr X (twosI X), e + twosI X, 1⟩ := by unfold finX; rw [if_pos h1, if_pos h2]
theorem finX_b (h1 : band X 1 = 0) (h2 : shr X (twosI X) ≠ 1) : finX s X e b = ⟨s, shr X (twosI X), e + twosI X, b - twosI X⟩ := by unfold finX; rw [if_pos h1, if_neg h2]
theorem finX_c (h1 : band X 1 ≠ 0) (h2 : X = 1) : finX s X e b = ⟨s, X, e, 1⟩ := by unfold finX; rw [if_neg h1, if_pos h2]
theorem finX_d (h1 : band X 1 ≠ 0) (h2 : X ≠ 1) : finX s X e b = ⟨s, X, e, b⟩ := by unfold finX; rw [if_neg h1, if_neg h2]
end
theorem nrm_end {sign man exp bc prec X e b : Int} {way : Way} {v : Value} {nx : List (Addr × Obj)} (hm : man ≠ 0) (hF : MidFact sign man exp bc prec way X e b)
    (h : V4 (finX sign X e b) v nx) : V4 (nrmX sign man exp bc prec way) v nx := by unfold nrmX; rw [if_neg hm, hF.hx, hF.he, hF.hb]; exact h
theorem nrm_zero {sign man exp bc prec : Int} {way : Way} {nx : List (Addr × Obj)} (hm : man = 0) : V4 (nrmX sign man exp bc prec way) (.ref 22) nx := by unfold nrmX; rw [if_pos hm]; exact V4.zero

theorem ctr_norm (w : World) (news : List (Addr × Obj)) (sign man exp bc prec : Int) (ts tm te tb tp tr : Tok) (way : Way)
  (hs : sign = 0 ∨ sign = 1) (hp : 1 ≤ prec) (hp2 : prec ≤ 1000) (hbl : bc ≤ 1000) (hX : man ≠ 0 → (if 0 < bc - prec then rmX man (bc - prec) sign way else man) ≠ 0)
  (ht : man ≠ 0 → 0 ≤ twosI (if 0 < bc - prec then rmX man (bc - prec) sign way else man)) :
    Ctr w 37 2 [.int sign ts, .int man tm, .int exp te, .int bc tb, .int prec tp, .str way.str tr] news (fun v nx => V4 (nrmX sign man exp bc prec way) v nx) := by
  unfold Ctr
  intro loose mean mg mb dp un gd cn cs a ccd cl outer A₀ base h₀ L m s Q E B F X N T hk hd hu hret
  refine wpAny_call ?_
  k_dflt ktr_enter
  generalize hXd : (if 0 < bc - prec then rmX man (bc - prec) sign way else man) = X0 at hX ht
  generalize hEd : (if 0 < bc - prec then exp + (bc - prec) else exp) = E0
  generalize hBd : (if 0 < bc - prec then prec else bc) = B0
  have hM : MidArm X0 E0 B0 := .mk
  have hF : MidFact sign man exp bc prec way X0 E0 B0 := ⟨hXd, hEd, hBd⟩
  have hone := bits_one
  repeat' (first | (k_unfold; (try dsimp only)) | walk1 | (dsimp only; walk1) | fail "no step")
  all_goals first
   | (refine midN_end (Eq.trans ?_ hF.hx) (Eq.trans ?_ hF.he) (Eq.trans ?_ hF.hb) (by assumption) (by assumption) rfl rfl rfl rfl
      · first
        | (refine Eq.symm (if_neg ?_); assumption)
        | (refine Eq.trans ?_ (Eq.symm (if_pos ?_)); rotate_left; assumption; unfold rmX; done)
        | (refine Eq.trans ?_ (Eq.symm (if_pos ?_)); rotate_left; assumption; unfold rmX; dsimp only; done)
        | (refine Eq.trans ?_ (Eq.symm (if_pos ?_)); rotate_left; assumption; unfold rmX; dsimp only
           first
           | exact rfl
           | exact Eq.symm (if_pos rfl)
           | (refine Eq.symm (if_neg ?_); decide)
           | (unfold rmN; refine Eq.symm (if_pos ⟨?_, .inl ?_⟩) <;> assumption)
           | (unfold rmN; refine Eq.symm (if_pos ⟨?_, .inr ?_⟩) <;> assumption)
           | (unfold rmN; refine Eq.symm (if_neg (fun h => h.1 ?_)); assumption)
           | (unfold rmN; refine Eq.symm (if_neg (fun h => h.2.elim (fun h => h ?_) (fun h => h ?_))) <;> assumption))
      · first | (refine Eq.symm (if_pos ?_); assumption) | (refine Eq.symm (if_neg ?_); assumption)
      · first | (refine Eq.symm (if_pos ?_); assumption) | (refine Eq.symm (if_neg ?_); assumption))
   | exact hret _ _ _ _ (by assumption) (by assumption) (by intro p hp; simp [hp]) (nrm_end (by assumption) hF (V4.mk (finX_a (by assumption) (by assumption)) (by k_mem)))
   | exact hret _ _ _ _ (by assumption) (by assumption) (by intro p hp; simp [hp]) (nrm_end (by assumption) hF (V4.mk (finX_b (by assumption) (by assumption)) (by k_mem)))
   | exact hret _ _ _ _ (by assumption) (by assumption) (by intro p hp; simp [hp]) (nrm_end (by assumption) hF (V4.mk (finX_c (by assumption) (by assumption)) (by k_mem)))
   | exact hret _ _ _ _ (by assumption) (by assumption) (by intro p hp; simp [hp]) (nrm_end (by assumption) hF (V4.mk (finX_d (by assumption) (by assumption)) (by k_mem)))
   | exact hret _ _ _ _ (by assumption) (by assumption) (by intro p hp; simp [hp]) (nrm_zero (by assumption))
   | exact absurd (by assumption) (hX (by assumption))
local macro_rules | `(tactic| walk_at "call ref") => `(tactic| (
   k_here; (with_reducible show wpAny _ _ (call (Value.ref 37) _) _ _ _);
   k_dflt (refine' ctr_use (ctr_norm _ _ _ _ _ _ _ _ _ _ _ _ _ _ ?hs ?hp ?hp2 ?hbl ?hX ?ht) ?k1 ?k2 ?k3 ?k4 ?k5 ?kK ?kd ?ku ?_; (case k1 => k_asm); (case k2 => k_asm); (case k3 => k_asm); (case k4 => k_asm); (case k5 => k_asm); (case kK => first | exact rfl | assumption); (case kd => ktr_room); (case ku => ktr_units); (all_goals (try assumption)); k_whole);
   intro v9 nx9 h9 tk9 F9 N9 hR9; (try k_fold)))

theorem ctr_normalize (w : World) (news : List (Addr × Obj)) (sign man exp bc prec : Int) (ts tm te tb tp tr : Tok) (way : Way)
  (hb : bc = bits man) (hm : 0 ≤ man)
  (hs : sign = 0 ∨ sign = 1) (hp : 1 ≤ prec) (hp2 : prec ≤ 1000) (hbl : bc ≤ 1000) (hX : man ≠ 0 → (if 0 < bc - prec then rmX man (bc - prec) sign way else man) ≠ 0)
  (ht : man ≠ 0 → 0 ≤ twosI (if 0 < bc - prec then rmX man (bc - prec) sign way else man)) :
    Ctr w 44 3 [.int sign ts, .int man tm, .int exp te, .int bc tb, .int prec tp, .str way.str tr] news (fun v nx => V4 (nrmX sign man exp bc prec way) v nx) := by
  unfold Ctr
  intro loose mean mg mb dp un gd cn cs a ccd cl outer A₀ base h₀ L m s Q E B F X N T hk hd hu hret
  refine wpAny_call ?_
  k_dflt ktr_enter
  repeat' (first | (k_unfold; (try dsimp only)) | walk1 | (dsimp only; walk1) | fail "no step")
  · exact hret _ _ _ _ (by assumption) (by assumption) (by intro p hp; simp [hp]) (V4.left (by assumption))
  · exact absurd hb (by assumption)

theorem ctr_nz (w : World) (news : List (Addr × Obj)) (sign man exp bc prec : Int) (ts tm te tb tp tr : Tok) (way : Way)
    (hb : bc = bits man) (hm : 0 ≤ man) (hs : sign = 0 ∨ sign = 1) (hp : 1 ≤ prec) (hp2 : prec ≤ 1000) (hbl : bc ≤ 1000) :
    Ctr w 44 3 [.int sign ts, .int man tm, .int exp te, .int bc tb, .int prec tp, .str way.str tr] news (fun v nx => Rnd (if sign = 1 then -man else man) 1 exp prec way v nx) :=
  (ctr_normalize w news sign man exp bc prec ts tm te tb tp tr way hb hm hs hp hp2 hbl (fun h => rm_ne (by omega) hb hp hs) (fun h => twosI_nonneg (rm_ne (by omega) hb hp hs))).mono fun _ _ h => ⟨_, h, nrm_rnd hm hb hp hs⟩
local macro_rules | `(tactic| walk_at "call ref") => `(tactic| (
   k_here; (with_reducible show wpAny _ _ (call (Value.ref 44) _) _ _ _);
   k_dflt (refine' ctr_use (ctr_nz _ _ _ _ _ _ _ _ _ _ _ _ _ _ ?hb ?hm ?hs ?hp ?hp2 ?hbl) ?k1 ?k2 ?k3 ?k4 ?k5 ?kK ?kd ?ku ?_; (case k1 => k_asm); (case k2 => k_asm); (case k3 => k_asm); (case k4 => k_asm); (case k5 => k_asm); (case kK => first | exact rfl | assumption); (case kd => ktr_room); (case ku => ktr_units); (case hb => first | exact rfl | assumption | omega); (case hm => first | assumption | omega); (case hs => first | assumption | omega); (case hp => first | assumption | omega); (case hp2 => first | assumption | omega); (case hbl => first | assumption | omega); k_whole);
   intro v9 nx9 h9 tk9 F9 N9 hR9; (try k_fold)))

theorem ctr_fme (w : World) (news : List (Addr × Obj)) (x e : Int) (tx te : Tok) :
    Ctr w 52 2 [.int x tx, .int e te] news (fun v nx => Mpf x e v nx) := by
  unfold Ctr
  intro loose mean mg mb dp un gd cn cs a ccd cl outer A₀ base h₀ L m s Q E B F X N T hk hd hu hret
  refine wpAny_call ?_
  k_dflt ktr_enter
  have ht1 := @twosI_nonneg x
  have ht2 := @twosI_nonneg (-x)
  repeat' (first | (k_unfold; (try dsimp only)) | walk1 | (dsimp only; walk1) | fail "no step")
  all_goals first
   | exact hret _ _ _ _ (by assumption) (by assumption) (by intro p hp; simp [hp]) (Mpf.mk (by omega) (told_odd (M := -x) (by omega) (.inr ⟨by omega, rfl⟩) (by assumption)) (by k_mem))
   | exact hret _ _ _ _ (by assumption) (by assumption) (by intro p hp; simp [hp]) (Mpf.mk (by omega) (told_two (M := -x) (by omega) (.inr ⟨by omega, rfl⟩) (by assumption) (by assumption)) (by k_mem))
   | exact hret _ _ _ _ (by assumption) (by assumption) (by intro p hp; simp [hp]) (Mpf.mk (by omega) (told_ev (M := -x) (by omega) (.inr ⟨by omega, rfl⟩) (by assumption)) (by k_mem))
   | exact hret _ _ _ _ (by assumption) (by assumption) (by intro p hp; simp [hp]) (Mpf.mk (by omega) (told_odd (M := x) (by omega) (.inl ⟨by omega, rfl⟩) (by assumption)) (by k_mem))
   | exact hret _ _ _ _ (by assumption) (by assumption) (by intro p hp; simp [hp]) (Mpf.mk (by omega) (told_two (M := x) (by omega) (.inl ⟨by omega, rfl⟩) (by assumption) (by assumption)) (by k_mem))
   | exact hret _ _ _ _ (by assumption) (by assumption) (by intro p hp; simp [hp]) (Mpf.mk (by omega) (told_ev (M := x) (by omega) (.inl ⟨by omega, rfl⟩) (by assumption)) (by k_mem))
   | exact hret _ _ _ _ (by assumption) (by assumption) (by intro p hp; simp [hp]) (.inl ⟨by omega, rfl⟩)
theorem ctr_fme4 (w : World) (news : List (Addr × Obj)) (x e : Int) (tx te tp tr : Tok) (r : Str) :
    Ctr w 52 2 [.int x tx, .int e te, .int 0 tp, .str r tr] news (fun v nx => Mpf x e v nx) := by
  unfold Ctr
  intro loose mean mg mb dp un gd cn cs a ccd cl outer A₀ base h₀ L m s Q E B F X N T hk hd hu hret
  refine wpAny_call ?_
  k_dflt ktr_enter
  have ht1 := @twosI_nonneg x
  have ht2 := @twosI_nonneg (-x)
  repeat' (first | (k_unfold; (try dsimp only)) | walk1 | (dsimp only; walk1) | fail "no step")
  all_goals first
   | exact hret _ _ _ _ (by assumption) (by assumption) (by intro p hp; simp [hp]) (Mpf.mk (by omega) (told_odd (M := -x) (by omega) (.inr ⟨by omega, rfl⟩) (by assumption)) (by k_mem))
   | exact hret _ _ _ _ (by assumption) (by assumption) (by intro p hp; simp [hp]) (Mpf.mk (by omega) (told_two (M := -x) (by omega) (.inr ⟨by omega, rfl⟩) (by assumption) (by assumption)) (by k_mem))
   | exact hret _ _ _ _ (by assumption) (by assumption) (by intro p hp; simp [hp]) (Mpf.mk (by omega) (told_ev (M := -x) (by omega) (.inr ⟨by omega, rfl⟩) (by assumption)) (by k_mem))
   | exact hret _ _ _ _ (by assumption) (by assumption) (by intro p hp; simp [hp]) (Mpf.mk (by omega) (told_odd (M := x) (by omega) (.inl ⟨by omega, rfl⟩) (by assumption)) (by k_mem))
   | exact hret _ _ _ _ (by assumption) (by assumption) (by intro p hp; simp [hp]) (Mpf.mk (by omega) (told_two (M := x) (by omega) (.inl ⟨by omega, rfl⟩) (by assumption) (by assumption)) (by k_mem))
   | exact hret _ _ _ _ (by assumption) (by assumption) (by intro p hp; simp [hp]) (Mpf.mk (by omega) (told_ev (M := x) (by omega) (.inl ⟨by omega, rfl⟩) (by assumption)) (by k_mem))
   | exact hret _ _ _ _ (by assumption) (by assumption) (by intro p hp; simp [hp]) (.inl ⟨by omega, rfl⟩)
local macro_rules | `(tactic| walk_at "call ref") => `(tactic| (
   k_here; (with_reducible show wpAny _ _ (call (Value.ref 52) [_, _]) _ _ _);
   k_dflt (refine' ctr_use (ctr_fme _ _ _ _ _ _) ?k1 ?k2 ?k3 ?k4 ?k5 ?kK ?kd ?ku ?_; (case k1 => k_asm); (case k2 => k_asm); (case k3 => k_asm); (case k4 => k_asm); (case k5 => k_asm); (case kK => first | exact rfl | assumption); (case kd => ktr_room); (case ku => ktr_units);  k_whole);
   intro v9 nx9 h9 tk9 F9 N9 hR9; (try k_fold)))
local macro_rules | `(tactic| walk_at "call ref") => `(tactic| (
   k_here; (with_reducible show wpAny _ _ (call (Value.ref 52) [_, _, _, _]) _ _ _);
   k_dflt (refine' ctr_use (ctr_fme4 _ _ _ _ _ _ _ _ _) ?k1 ?k2 ?k3 ?k4 ?k5 ?kK ?kd ?ku ?_; (case k1 => k_asm); (case k2 => k_asm); (case k3 => k_asm); (case k4 => k_asm); (case k5 => k_asm); (case kK => first | exact rfl | assumption); (case kd => ktr_room); (case ku => ktr_units);  k_whole);
   intro v9 nx9 h9 tk9 F9 N9 hR9; (try k_fold)))

theorem ctr_from_int (w : World) (news : List (Addr × Obj)) (x : Int) (tx : Tok) :
    Ctr w 60 3 [.int x tx] news (fun v nx => Mpf x 0 v nx) := by
  unfold Ctr
  intro loose mean mg mb dp un gd cn cs a ccd cl outer A₀ base h₀ L m s Q E B F X N T hk hd hu hret
  refine wpAny_call ?_
  k_dflt ktr_enter
  repeat' (first | (k_unfold; (try dsimp only)) | walk1 | (dsimp only; walk1) | fail "no step")
  all_goals exact hret _ _ _ _ (by assumption) (by assumption) (by intro p hp; simp [hp]) (Mpf.left (by assumption))

theorem mulI_zero_left (a : Int) : mulI 0 a = 0 := by unfold mulI; exact Int.zero_mul a
theorem mulI_zero_right (a : Int) : mulI a 0 = 0 := by unfold mulI; exact Int.mul_zero a
theorem told_zero (e : Int) : told 0 e = ⟨0, 0, 0, 0⟩ := by unfold told; rw [if_pos rfl]
theorem ctr_mul2 (w : World) (news : List (Addr × Obj)) (x e y f : Int) (v1 v2 : Value) (h1 : Mpf x e v1 news) (h2 : Mpf y f v2 news) (hb1 : bits x ≤ 64) (hb2 : bits y ≤ 64) :
    Ctr w 75 4 [v1, v2] news (fun v nx => V4 (told (mulI x y) (e + f)) v nx) := by
  unfold Ctr
  intro loose mean mg mb dp un gd cn cs a ccd cl outer A₀ base h₀ L m s Q E B F X N T hk hd hu hret
  have hs1 := told_sgn x e
  have hs2 := told_sgn y f
  have hs3 := xor_01 hs1 hs2
  have hc1 := told_le (e := e) hb1
  have hc2 := told_le (e := f) hb2
  have hc3 := @bits_mul (told x e).m (told y f).m
  have hz0 : bits 0 = 0 := by unfold bits; decide
  rcases h1 with ⟨rfl, rfl⟩ | ⟨hx, D1, t11, t12, t13, t14, n1, rfl, hm1⟩
  · rcases h2 with ⟨rfl, rfl⟩ | ⟨hy, D2, t21, t22, t23, t24, n2, rfl, hm2⟩
    · have hZ := mulI_zero_left 0
      refine wpAny_call ?_
      k_dflt ktr_enter
      repeat' (first | (k_unfold; (try dsimp only)) | walk1 | (dsimp only; walk1) | fail "no step")
      all_goals first
       | exact hret _ _ _ _ (by assumption) (by assumption) (by intro p hp; simp [hp]) (by rw [mulI_zero_left, told_zero]; exact V4.zero)
    · have hZ := mulI_zero_left (told y f).m
      have hq := told_pos (e := f) hy
      have hq' : (told y f).m ≠ 0 := by omega
      refine wpAny_call ?_
      k_dflt ktr_enter
      repeat' (first | (k_unfold; (try dsimp only)) | walk1 | (dsimp only; walk1) | fail "no step")
      all_goals first
       | exact hret _ _ _ _ (by assumption) (by assumption) (by intro p hp; simp [hp]) (by rw [mulI_zero_left, told_zero]; exact V4.zero)
  rcases h2 with ⟨rfl, rfl⟩ | ⟨hy, D2, t21, t22, t23, t24, n2, rfl, hm2⟩
  · have hZ := mulI_zero_right (told x e).m
    have hq := told_pos (e := e) hx
    have hq' : (told x e).m ≠ 0 := by omega
    refine wpAny_call ?_
    k_dflt ktr_enter
    repeat' (first | (k_unfold; (try dsimp only)) | walk1 | (dsimp only; walk1) | fail "no step")
    all_goals first
       | exact hret _ _ _ _ (by assumption) (by assumption) (by intro p hp; simp [hp]) (by rw [mulI_zero_right, told_zero]; exact V4.zero)
  have hp1 := told_pos (e := e) hx
  have hp2 := told_pos (e := f) hy
  have hp3 := mul_pos' hp1 hp2
  have hp4 : mulI (told x e).m (told y f).m ≠ 0 := by omega
  refine wpAny_call ?_
  k_dflt ktr_enter
  repeat' (first | (k_unfold; (try dsimp only)) | walk1 | (dsimp only; walk1) | fail "no step")
  all_goals first
    | exact hret _ _ _ _ (by assumption) (by assumption) (by intro p hp; simp [hp]) (V4.mk (told_mul hx hy) (by k_mem))
theorem ctr_mul4 (w : World) (news : List (Addr × Obj)) (x e y f prec : Int) (tp tr : Tok) (way : Way) (v1 v2 : Value) (h1 : Mpf x e v1 news) (h2 : Mpf y f v2 news) (hb1 : bits x ≤ 64) (hb2 : bits y ≤ 64) (hpr : 1 ≤ prec) (hpr2 : prec ≤ 1000) :
    Ctr w 75 4 [v1, v2, .int prec tp, .str way.str tr] news (fun v nx => Rnd (mulI x y) 1 (e + f) prec way v nx) := by
  unfold Ctr
  intro loose mean mg mb dp un gd cn cs a ccd cl outer A₀ base h₀ L m s Q E B F X N T hk hd hu hret
  have hs1 := told_sgn x e
  have hs2 := told_sgn y f
  have hs3 := xor_01 hs1 hs2
  have hc1 := told_le (e := e) hb1
  have hc2 := told_le (e := f) hb2
  have hc3 := @bits_mul (told x e).m (told y f).m
  have hz0 : bits 0 = 0 := by unfold bits; decide
  rcases h1 with ⟨rfl, rfl⟩ | ⟨hx, D1, t11, t12, t13, t14, n1, rfl, hm1⟩
  · rcases h2 with ⟨rfl, rfl⟩ | ⟨hy, D2, t21, t22, t23, t24, n2, rfl, hm2⟩
    · have hZ := mulI_zero_left 0
      refine wpAny_call ?_
      k_dflt ktr_enter
      repeat' (first | (k_unfold; (try dsimp only)) | walk1 | (dsimp only; walk1) | fail "no step")
      all_goals first
       | exact hret _ _ _ _ (by assumption) (by assumption) (by intro p hp; simp [hp]) (by rw [mulI_zero_left]; exact Rnd.zero)
    · have hZ := mulI_zero_left (told y f).m
      have hq := told_pos (e := f) hy
      have hq' : (told y f).m ≠ 0 := by omega
      refine wpAny_call ?_
      k_dflt ktr_enter
      repeat' (first | (k_unfold; (try dsimp only)) | walk1 | (dsimp only; walk1) | fail "no step")
      all_goals first
       | exact hret _ _ _ _ (by assumption) (by assumption) (by intro p hp; simp [hp]) (by rw [mulI_zero_left]; exact Rnd.zero)
  rcases h2 with ⟨rfl, rfl⟩ | ⟨hy, D2, t21, t22, t23, t24, n2, rfl, hm2⟩
  · have hZ := mulI_zero_right (told x e).m
    have hq := told_pos (e := e) hx
    have hq' : (told x e).m ≠ 0 := by omega
    refine wpAny_call ?_
    k_dflt ktr_enter
    repeat' (first | (k_unfold; (try dsimp only)) | walk1 | (dsimp only; walk1) | fail "no step")
    all_goals first
       | exact hret _ _ _ _ (by assumption) (by assumption) (by intro p hp; simp [hp]) (by rw [mulI_zero_right]; exact Rnd.zero)
  have hp1 := told_pos (e := e) hx
  have hp2 := told_pos (e := f) hy
  have hp3 := mul_pos' hp1 hp2
  have hp4 : mulI (told x e).m (told y f).m ≠ 0 := by omega
  have hp5 : prec ≠ 0 := by omega
  refine wpAny_call ?_
  k_dflt ktr_enter
  repeat' (first | (k_unfold; (try dsimp only)) | walk1 | (dsimp only; walk1) | fail "no step")
  all_goals first
    | exact hret _ _ _ _ (by assumption) (by assumption) (by intro p hp; simp [hp]) (Rnd.left (by obtain ⟨z, hz, hr⟩ := ‹Rnd _ _ _ _ _ _ _›; exact ⟨z, hz, mul_rnd hx hy hr⟩))

local macro_rules | `(tactic| walk_at "call ref") => `(tactic| (
   k_here; (with_reducible show wpAny _ _ (call (Value.ref 60) _) _ _ _);
   k_dflt (refine' ctr_use (ctr_from_int _ _ _ _) ?k1 ?k2 ?k3 ?k4 ?k5 ?kK ?kd ?ku ?_; (case k1 => k_asm); (case k2 => k_asm); (case k3 => k_asm); (case k4 => k_asm); (case k5 => k_asm); (case kK => first | exact rfl | assumption); (case kd => ktr_room); (case ku => ktr_units);  k_whole);
   intro v9 nx9 h9 tk9 F9 N9 hR9; (try k_fold)))
local macro_rules | `(tactic| walk_at "call ref") => `(tactic| (
   k_here; (with_reducible show wpAny _ _ (call (Value.ref 75) [_, _]) _ _ _);
   k_dflt (refine' ctr_use (ctr_mul2 _ _ _ _ _ _ _ _ ?h1 ?h2 ?b1 ?b2) ?k1 ?k2 ?k3 ?k4 ?k5 ?kK ?kd ?ku ?_; (case k1 => k_asm); (case k2 => k_asm); (case k3 => k_asm); (case k4 => k_asm); (case k5 => k_asm); (case kK => first | exact rfl | assumption); (case kd => ktr_room); (case ku => ktr_units); (case h1 => first | assumption | exact Mpf.left (by assumption) | (refine Mpf.right ?_; assumption) | (refine Mpf.right ?_; first | (exact Mpf.left (by assumption)) | (refine Mpf.right ?_; first | assumption | exact Mpf.left (by assumption) | (refine Mpf.right ?_; assumption)))); (case h2 => first | assumption | exact Mpf.left (by assumption) | (refine Mpf.right ?_; assumption) | (refine Mpf.right ?_; first | (exact Mpf.left (by assumption)) | (refine Mpf.right ?_; first | assumption | exact Mpf.left (by assumption) | (refine Mpf.right ?_; assumption)))); (case b1 => first | assumption | decide | omega); (case b2 => first | assumption | decide | omega);  k_whole);
   intro v9 nx9 h9 tk9 F9 N9 hR9; (try k_fold)))
local macro_rules | `(tactic| walk_at "call ref") => `(tactic| (
   k_here; (with_reducible show wpAny _ _ (call (Value.ref 75) [_, _, _, _]) _ _ _);
   k_dflt (refine' ctr_use (ctr_mul4 _ _ _ _ _ _ _ _ _ _ _ _ ?h1 ?h2 ?b1 ?b2 ?p1 ?p2) ?k1 ?k2 ?k3 ?k4 ?k5 ?kK ?kd ?ku ?_; (case k1 => k_asm); (case k2 => k_asm); (case k3 => k_asm); (case k4 => k_asm); (case k5 => k_asm); (case kK => first | exact rfl | assumption); (case kd => ktr_room); (case ku => ktr_units); (case h1 => first | assumption | exact Mpf.left (by assumption) | (refine Mpf.right ?_; assumption) | (refine Mpf.right ?_; first | (exact Mpf.left (by assumption)) | (refine Mpf.right ?_; first | assumption | exact Mpf.left (by assumption) | (refine Mpf.right ?_; assumption)))); (case h2 => first | assumption | exact Mpf.left (by assumption) | (refine Mpf.right ?_; assumption) | (refine Mpf.right ?_; first | (exact Mpf.left (by assumption)) | (refine Mpf.right ?_; first | assumption | exact Mpf.left (by assumption) | (refine Mpf.right ?_; assumption)))); (case b1 => first | assumption | decide | omega); (case b2 => first | assumption | decide | omega); (case p1 => first | assumption | decide | omega); (case p2 => first | assumption | decide | omega);  k_whole);
   intro v9 nx9 h9 tk9 F9 N9 hR9; (try k_fold)))

theorem bits_negI (a : Int) : bits (-a) = bits a := by unfold bits Builtin.Int.intBits; simp [Int.natAbs_neg]
theorem ctr_muli (w : World) (news : List (Addr × Obj)) (x e n prec : Int) (tn tp tr : Tok) (way : Way) (v1 : Value) (h1 : Mpf x e v1 news) (hb1 : bits x ≤ 64) (hb2 : bits n ≤ 64) (hpr : 1 ≤ prec) (hpr2 : prec ≤ 1000) :
    Ctr w 83 5 [v1, .int n tn, .int prec tp, .str way.str tr] news (fun v nx => Rnd (mulI x n) 1 e prec way v nx) := by
  unfold Ctr
  intro loose mean mg mb dp un gd cn cs a ccd cl outer A₀ base h₀ L m s Q E B F X N T hk hd hu hret
  have hs1 := told_sgn x e
  have hs3 := xor_01 hs1 (.inr rfl)
  have hc1 := told_le (e := e) hb1
  have htb := told_bits x e
  have hz0 : bits 0 = 0 := by unfold bits; decide
  rcases h1 with ⟨rfl, rfl⟩ | ⟨hx, D1, t11, t12, t13, t14, n1, rfl, hm1⟩
  · have hm0 : Mpf 0 e (.ref 22) news := Mpf.zero
    refine wpAny_call ?_
    k_dflt ktr_enter
    repeat' (first | (k_unfold; (try dsimp only)) | walk1 | (dsimp only; walk1) | fail "no step")
    all_goals first
       | exact hret _ _ _ _ (by assumption) (by assumption) (by intro p hp; simp [hp]) (Rnd.left (by have hq := ‹Rnd _ _ _ _ _ _ _›; rw [Int.add_zero] at hq; exact hq))
  have hp1 := told_pos (e := e) hx
  have hp4 : (told x e).m ≠ 0 := by omega
  have hbp := bits_pos hp4
  have hmb := @muli_bits (told x e).m n hp1
  have hmc := @muli_bits (told x e).m (-n) hp1
  have hnn := bits_negI n
  have hnb := @bits_pos n
  have hpr0 : prec ≠ 0 := by omega
  have hc3 := @bits_mul (told x e).m n
  have hc4 := @bits_mul (told x e).m (-n)
  have hp5 := @mul_pos' (told x e).m n hp1
  have hp6 := @mul_pos' (told x e).m (-n) hp1
  rw [← htb] at hbp hmb hmc hc3 hc4
  refine wpAny_call ?_
  k_dflt ktr_enter
  repeat' (first | (k_unfold; (try dsimp only)) | walk1 | (dsimp only; walk1) | fail "no step")
  all_goals first
    | exact hret _ _ _ _ (by assumption) (by assumption) (by intro p hp; simp [hp]) (Rnd.left (by obtain ⟨z, hz, hr⟩ := ‹Rnd _ _ _ _ _ _ _›; exact ⟨z, hz, muli_rnd hx (by omega) (.inr ⟨by omega, rfl⟩) hr⟩))
    | exact hret _ _ _ _ (by assumption) (by assumption) (by intro p hp; simp [hp]) (Rnd.left (by obtain ⟨z, hz, hr⟩ := ‹Rnd _ _ _ _ _ _ _›; exact ⟨z, hz, muli_rnd hx (by omega) (.inl ⟨rfl, rfl⟩) hr⟩))
    | exact hret _ _ _ _ (by assumption) (by assumption) (by intro p hp; simp [hp]) (by rw [‹n = 0›, mulI_zero_right]; exact Rnd.zero)

/-- all that the walk asks of a quotient -/
theorem quot_facts {a b n : Int} (ha : 0 < a) (hb : 0 < b) (hn : 0 ≤ n) (hn2 : n ≤ 600) (h1 : bits a ≤ 100) :
    bits (shl a n) ≤ 700 ∧ 0 ≤ qdiv (shl a n) b ∧ bits (qdiv (shl a n) b) ≤ 700 ∧ 0 ≤ shl (qdiv (shl a n) b) 1 + 1 ∧ bits (shl (qdiv (shl a n) b) 1 + 1) ≤ 701 := by
  have q1 := bits_shl (a := a) hn
  have q2 := shl_nonneg (n := n) (Int.le_of_lt ha)
  have q3 := qdiv_nonneg q2 hb
  have q4 := bits_qdiv q2 hb
  have q5 := bits_sticky q3
  have q6 := shl_nonneg (n := 1) q3
  exact ⟨by omega, q3, by omega, by omega, by omega⟩


def tp4 (x : M4) : PyData := .tuple [.int x.s, .int x.m, .int x.e, .int x.b]
def At4 (h : Heap) (v : Value) (x : M4) : Prop := ∃ as, Reads h v (tp4 x) as
theorem at4_of {h : Heap} {D : Addr} {a b c d : Int} {ta tb tc td : Tok} {n : Nat} (ho : h.get? D = some (t4 a b c d ta tb tc td n)) : At4 h (.ref D) ⟨a, b, c, d⟩ :=
  ⟨_, reads_tuple_at ho rfl rfl (.cons (.int _ _) (.cons (.int _ _) (.cons (.int _ _) (.cons (.int _ _) .nil))))⟩
theorem at4_zero {w : World} {h : Heap} (X : (Mine.hd.heap_39 w.params).In h) : At4 h (.ref 22) ⟨0, 0, 0, 0⟩ := at4_of (X 22 _ rfl)
theorem at4_nan {w : World} {h : Heap} (X : (Mine.hd.heap_39 w.params).In h) : At4 h (.ref 23) ⟨0, 0, -123, -1⟩ := at4_of (X 23 _ rfl)
theorem at4_v4 {w : World} {h₀ h : Heap} {L : Addr} {nx : List (Addr × Obj)} {x : M4} {v : Value} (X : (Mine.hd.heap_39 w.params).In h) (N : News h₀ L h nx) (V : V4 x v nx) : At4 h v x := by
  rcases V with ⟨rfl, rfl⟩ | ⟨D, ta, tb, tc, td, n, rfl, hm⟩
  · exact at4_zero X
  · exact at4_of (N.get hm)
theorem eqv4_same (x : M4) : PyData.eqv (tp4 x) (tp4 x) = true := by
  simp only [tp4, PyData.eqv, PyData.eqvAll, beq_self_eq_true, Bool.and_true]
theorem eqv4_diff (x y : M4) (h : x.m ≠ y.m) : PyData.eqv (tp4 x) (tp4 y) = false := by
  have e : (x.m == y.m) = false := by simpa using h
  simp only [tp4, PyData.eqv, PyData.eqvAll, e, Bool.false_and, Bool.and_false]
section
variable {prog : Program} {w : World} {A : Around} {s : Shared} {a b : Value} {x y : M4} {Q E : Value → Shared → Prop}
theorem r_eq4_same (e : x = y) (ha : At4 s.heap a x) (hb : At4 s.heap b y) (hu : A.units + 64 < cLine) (h : Q (.bool true) s) : wpAny (model prog w) A (compareOp .Eq a b) Q E s := by
  subst e
  obtain ⟨_, ra⟩ := ha
  obtain ⟨_, rb⟩ := hb
  exact eq_dataH ra rb rfl rfl hu (by rw [eqv4_same]; exact h)
theorem r_eq4_diff (e : x.m ≠ y.m) (ha : At4 s.heap a x) (hb : At4 s.heap b y) (hu : A.units + 64 < cLine) (h : Q (.bool false) s) : wpAny (model prog w) A (compareOp .Eq a b) Q E s := by
  obtain ⟨_, ra⟩ := ha
  obtain ⟨_, rb⟩ := hb
  exact eq_dataH ra rb rfl rfl hu (by rw [eqv4_diff x y e]; exact h)
theorem r_ne4_same (e : x = y) (ha : At4 s.heap a x) (hb : At4 s.heap b y) (hu : A.units + 64 < cLine) (h : Q (.bool false) s) : wpAny (model prog w) A (compareOp .NotEq a b) Q E s := by
  subst e
  obtain ⟨_, ra⟩ := ha
  obtain ⟨_, rb⟩ := hb
  exact ne_dataH ra rb rfl rfl hu (by rw [eqv4_same]; exact h)
end

local macro_rules | `(tactic| walk_at "compareOp Eq ref ref") => `(tactic| (
   k_here; (first
     | (refine' r_eq4_same rfl (at4_zero (Frag.In.keeps ?X (Fr.keep ?F))) (at4_zero (Frag.In.keeps ?X (Fr.keep ?F))) ?u ?_; (case F => with_reducible assumption); (case X => with_reducible assumption); (case u => ktr_units); k_whole)
     | (refine' r_eq4_diff ?e (at4_of (News.get ?N ?m)) (at4_zero (Frag.In.keeps ?X (Fr.keep ?F))) ?u ?_; (case F => with_reducible assumption); (case X => with_reducible assumption); (case N => with_reducible assumption); (case m => k_mem); (case e => assumption); (case u => ktr_units); k_whole)
     | (refine' r_eq4_diff ?e (at4_of (News.get ?N ?m)) (at4_nan (Frag.In.keeps ?X (Fr.keep ?F))) ?u ?_; (case F => with_reducible assumption); (case X => with_reducible assumption); (case N => with_reducible assumption); (case m => k_mem); (case e => assumption); (case u => ktr_units); k_whole))))

theorem ctr_div (w : World) (news : List (Addr × Obj)) (x e y f prec : Int) (tp tr : Tok) (way : Way) (v1 v2 : Value) (h1 : Mpf x e v1 news) (h2 : Mpf y f v2 news) (hy0 : y ≠ 0) (hb1 : bits x ≤ 64) (hb2 : bits y ≤ 64) (hpr : 1 ≤ prec) (hpr2 : prec ≤ 100) :
    Ctr w 91 12 [v1, v2, .int prec tp, .str way.str tr] news (fun v nx => Rnd (mulI (sgn y) x) y.natAbs (e - f) prec way v nx) := by
  unfold Ctr
  intro loose mean mg mb dp un gd cn cs a ccd cl outer A₀ base h₀ L m s Q E B F X N T hk hd hu hret
  have hs1 := told_sgn x e
  have hs2 := told_sgn y f
  have hs3 := xor_01 hs1 hs2
  have hc1 := told_le (e := e) hb1
  have hc2 := told_le (e := f) hb2
  have htb := told_bits x e
  have htc := told_bits y f
  have hp2 := told_pos (e := f) hy0
  have hp4 : (told y f).m ≠ 0 := by omega
  have hpr0 : prec ≠ 0 := by omega
  rcases h2 with ⟨rfl, rfl⟩ | ⟨hy, D2, t21, t22, t23, t24, n2, rfl, hm2⟩
  · exact absurd rfl hy0
  rcases h1 with ⟨rfl, rfl⟩ | ⟨hx, D1, t11, t12, t13, t14, n1, rfl, hm1⟩
  · refine wpAny_call ?_
    k_dflt ktr_enter
    repeat' (first | (k_unfold; (try dsimp only)) | walk1 | (dsimp only; walk1) | fail "no step")
    all_goals first
       | exact hret _ _ _ _ (by assumption) (by assumption) (by intro p hp; simp [hp]) (by rw [mulI_zero_right]; exact Rnd.zero)
  have hp1 := told_pos (e := e) hx
  have hp5 : (told x e).m ≠ 0 := by omega
  have hbp := bits_pos hp4
  have hbq := bits_pos hp5
  have hq1 := @quot_facts (told x e).m (told y f).m (prec - (told x e).b + (told y f).b + 5) hp1 hp2
  have hq2 := @quot_facts (told x e).m (told y f).m 5 hp1 hp2
  refine wpAny_call ?_
  k_dflt ktr_enter
  repeat' (first | (k_unfold; (try dsimp only)) | walk1 | (dsimp only; walk1) | fail "no step")
  all_goals first
    | exact hret _ _ _ _ (by assumption) (by assumption) (by intro p hp; simp [hp]) (Rnd.left (by obtain ⟨z, hz, hr⟩ := ‹Rnd _ _ _ _ _ _ _›; exact ⟨z, hz, div_one_rnd hx hy (by assumption) hr⟩))
    | exact hret _ _ _ _ (by assumption) (by assumption) (by intro p hp; simp [hp]) (Rnd.left (by obtain ⟨z, hz, hr⟩ := ‹Rnd _ _ _ _ _ _ _›; exact ⟨z, hz, div_rnd0 hx hy (by omega) (by assumption) hr⟩))
    | exact hret _ _ _ _ (by assumption) (by assumption) (by intro p hp; simp [hp]) (Rnd.left (by obtain ⟨z, hz, hr⟩ := ‹Rnd _ _ _ _ _ _ _›; exact ⟨z, hz, div_rnd1 hx hy (by omega) (by omega) hpr (by assumption) hr⟩))
local macro_rules | `(tactic| walk_at "call ref") => `(tactic| (
   k_here; (with_reducible show wpAny _ _ (call (Value.ref 91) _) _ _ _);
   k_dflt (refine' ctr_use (ctr_div _ _ _ _ _ _ _ _ _ _ _ _ ?h1 ?h2 ?hy ?b1 ?b2 ?p1 ?p2) ?k1 ?k2 ?k3 ?k4 ?k5 ?kK ?kd ?ku ?_; (case k1 => k_asm); (case k2 => k_asm); (case k3 => k_asm); (case k4 => k_asm); (case k5 => k_asm); (case kK => first | exact rfl | assumption); (case kd => ktr_room); (case ku => ktr_units); (case h1 => first | assumption | exact Mpf.left (by assumption) | (refine Mpf.right ?_; assumption) | (refine Mpf.right ?_; first | (exact Mpf.left (by assumption)) | (refine Mpf.right ?_; first | assumption | exact Mpf.left (by assumption) | (refine Mpf.right ?_; assumption)))); (case h2 => first | assumption | exact Mpf.left (by assumption) | (refine Mpf.right ?_; assumption) | (refine Mpf.right ?_; first | (exact Mpf.left (by assumption)) | (refine Mpf.right ?_; first | assumption | exact Mpf.left (by assumption) | (refine Mpf.right ?_; assumption)))); (case hy => assumption); (case b1 => first | assumption | decide | omega); (case b2 => first | assumption | decide | omega); (case p1 => first | assumption | omega); (case p2 => first | assumption | omega); k_whole);
   intro v9 nx9 h9 tk9 F9 N9 hR9; (try k_fold)))
theorem ctr_rdiv (w : World) (news : List (Addr × Obj)) (n y f prec : Int) (tn tp tr : Tok) (way : Way) (v2 : Value) (h2 : Mpf y f v2 news) (hy0 : y ≠ 0) (hb1 : bits n ≤ 64) (hb2 : bits y ≤ 64) (hpr : 1 ≤ prec) (hpr2 : prec ≤ 100) :
    Ctr w 99 14 [.int n tn, v2, .int prec tp, .str way.str tr] news (fun v nx => Rnd (mulI (sgn y) n) y.natAbs (-f) prec way v nx) := by
  unfold Ctr
  intro loose mean mg mb dp un gd cn cs a ccd cl outer A₀ base h₀ L m s Q E B F X N T hk hd hu hret
  have hs2 := told_sgn y f
  have hs3 := xor_01 hs2 (.inr rfl)
  have hc2 := told_le (e := f) hb2
  have htc := told_bits y f
  have hp2 := told_pos (e := f) hy0
  have hp4 : (told y f).m ≠ 0 := by omega
  have hpr0 : prec ≠ 0 := by omega
  have hmY := h2
  rcases h2 with ⟨rfl, rfl⟩ | ⟨hy, D2, t21, t22, t23, t24, n2, rfl, hm2⟩
  · exact absurd rfl hy0
  have hbp := bits_pos hp4
  have hnn := bits_negI n
  have hq1 := @quot_facts n (told y f).m (prec + (told y f).b + 5)
  have hq2 := @quot_facts (-n) (told y f).m (prec + (told y f).b + 5)
  refine wpAny_call ?_
  k_dflt ktr_enter
  repeat' (first | (k_unfold; (try dsimp only)) | walk1 | (dsimp only; walk1) | fail "no step")
  all_goals first
    | exact hret _ _ _ _ (by assumption) (by assumption) (by intro p hp; simp [hp]) (Rnd.left (by obtain ⟨z, hz, hr⟩ := ‹Rnd _ _ _ _ _ _ _›; exact ⟨z, hz, rdiv_rnd0 hy (by omega) (.inl ⟨rfl, rfl⟩) (by omega) (by assumption) hr⟩))
    | exact hret _ _ _ _ (by assumption) (by assumption) (by intro p hp; simp [hp]) (Rnd.left (by obtain ⟨z, hz, hr⟩ := ‹Rnd _ _ _ _ _ _ _›; exact ⟨z, hz, rdiv_rnd0 hy (by omega) (.inr ⟨by omega, rfl⟩) (by omega) (by assumption) hr⟩))
    | exact hret _ _ _ _ (by assumption) (by assumption) (by intro p hp; simp [hp]) (Rnd.left (by obtain ⟨z, hz, hr⟩ := ‹Rnd _ _ _ _ _ _ _›; exact ⟨z, hz, rdiv_rnd1 hy (by omega) (.inl ⟨rfl, rfl⟩) rfl hpr (by assumption) hr⟩))
    | exact hret _ _ _ _ (by assumption) (by assumption) (by intro p hp; simp [hp]) (Rnd.left (by obtain ⟨z, hz, hr⟩ := ‹Rnd _ _ _ _ _ _ _›; exact ⟨z, hz, rdiv_rnd1 hy (by omega) (.inr ⟨by omega, rfl⟩) rfl hpr (by assumption) hr⟩))
    | exact hret _ _ _ _ (by assumption) (by assumption) (by intro p hp; simp [hp]) (Rnd.left (by have hq := ‹Rnd _ _ _ _ _ _ _›; rw [Int.zero_sub] at hq; rw [‹n = 0›] at hq ⊢; exact hq))
theorem r_item {prog : Program} {w : World} {A : Around} {E : Value → Shared → Prop} {s : Shared} {value slice : PySem.Expr} {l : Addr} {ws : List Value} {ns : List Int} {k : Int} {u : Tok} {Q : Value → Shared → Prop}
    (hl : s.heap.IsList l ws.toArray) (hI : IntsAre ws ns) (h0 : 0 ≤ k) (h1 : k < (ns.length : Int)) (hk : k ≤ 1000) (h : ∀ x t, Q (.int x t) s)
    (hs : subscripted slice false (.ref l) (.int k u) = operate [.ref l, .int k u] (getItem (.ref l) (.int k u)) := by with_unfolding_all rfl) :
    wpAny (model prog w) A (subscriptTail value slice (.ref l) (.int k u)) Q E s := by
  have hlt : k.toNat < ns.length := by omega
  obtain ⟨t', e⟩ := hI.get k.toNat ns[k.toNat] (List.getElem?_eq_getElem hlt)
  exact tail_any hl.typeIs slot_list_getitem.lookup (wpAny_getItem_list hl h0 (by omega) (x := .int _ t') (by simpa using e) (h _ t')) hs
local macro_rules | `(tactic| walk_at "call builtin:len") => `(tactic| (k_here; (with_reducible show wpAny _ _ (call (Value.builtin "len") [Value.ref _]) _ _ _); k_dflt (refine' len_ints_fit (News.isList ?N ?m) ?i ?f ?_; (case N => assumption); (case m => assumption); (case i => assumption); (case f => omega))))
local macro_rules | `(tactic| walk_at "subscriptTail Name Name ref int") => `(tactic| (k_here; k_dflt (refine' r_item (News.isList ?N ?m) ?i ?a ?b ?c ?_; (case N => assumption); (case m => assumption); (case i => assumption); (case a => omega); (case b => omega); (case c => omega); intro x9 t9)))
theorem ctr_number (w : World) (news : List (Addr × Obj)) (D : Addr) (ws : List Value) (ns : List Int) (i : Int) (ti : Tok) (hI : IntsAre ws ns) (hm : (D, W.listOf ws.toArray 0) ∈ news) (hl : ns.length ≤ 24) (hi : 0 ≤ i) (hi2 : i ≤ 10) :
    Ctr w 106 3 [.ref D, .int i ti] news (fun v _ => ∃ x t, v = .int x t) := by
  unfold Ctr
  intro loose mean mg mb dp un gd cn cs a ccd cl outer A₀ base h₀ L m s Q E B F X N T hk hd hu hret
  have hb41 : bits 41 ≤ 64 := by unfold bits; decide
  refine wpAny_call ?_
  k_dflt ktr_enter
  repeat' (first | (k_unfold; (try dsimp only)) | walk1 | (dsimp only; walk1) | fail "no step")
  all_goals first
    | exact hret _ _ _ _ (by assumption) (by assumption) (by intro p hp; simp [hp]) ⟨_, _, rfl⟩
local macro_rules | `(tactic| walk_at "call ref") => `(tactic| (
   k_here; (with_reducible show wpAny _ _ (call (Value.ref 106) _) _ _ _);
   k_dflt (refine' ctr_use (ctr_number _ _ _ _ _ _ _ ?i ?m ?l ?a ?b) ?k1 ?k2 ?k3 ?k4 ?k5 ?kK ?kd ?ku ?_; (case k1 => k_asm); (case k2 => k_asm); (case k3 => k_asm); (case k4 => k_asm); (case k5 => k_asm); (case kK => first | exact rfl | assumption); (case kd => ktr_room); (case ku => ktr_units); (case i => assumption); (case m => repeat (first | assumption | exact List.Mem.head _ | refine List.mem_append.mpr (Or.inr ?_) | refine List.Mem.tail _ ?_)); (case l => first | assumption | omega); (case a => omega); (case b => omega); k_whole);
   intro v9 nx9 h9 tk9 F9 N9 hR9; obtain ⟨x9, t9, e9⟩ := hR9; subst e9; (try k_fold)))
abbrev t2 (a b : Int) (ta tb : Tok) (n : Nat) : Obj := { cls := .type "tuple", data := .seq #[.int a ta, .int b tb] n }
theorem qmod_range (a : Int) {b : Int} (h : 0 < b) : 0 ≤ qmod a b ∧ qmod a b < b := by unfold qmod; exact ⟨Int.fmod_nonneg_of_pos a h, Int.fmod_lt_of_pos a h⟩
theorem drawn_a (a : Int) : bits (qmod a 1000003 - 500000) ≤ 20 := by have := qmod_range a (b := 1000003) (by decide); exact bits_le20 (by omega) (by omega)
theorem drawn_b (a : Int) : bits (qmod a 3 - 1) ≤ 20 := by have := qmod_range a (b := 3) (by decide); exact bits_le20 (by omega) (by omega)
theorem ctr_drawn (w : World) (news : List (Addr × Obj)) (D : Addr) (ws : List Value) (ns : List Int) (i : Int) (ti : Tok) (hI : IntsAre ws ns) (hm : (D, W.listOf ws.toArray 0) ∈ news) (hl : ns.length ≤ 24) (hi : 0 ≤ i) (hi2 : i ≤ 5) :
    Ctr w 113 5 [.ref D, .int i ti] news (fun v nx => ∃ D' x p tx tp n, v = .ref D' ∧ (D', t2 x p tx tp n) ∈ nx ∧ bits x ≤ 20) := by
  unfold Ctr
  intro loose mean mg mb dp un gd cn cs a ccd cl outer A₀ base h₀ L m s Q E B F X N T hk hd hu hret
  refine wpAny_call ?_
  k_dflt ktr_enter
  repeat' (first | (k_unfold; (try dsimp only)) | walk1 | (dsimp only; walk1) | fail "no step")
  all_goals first
    | exact hret _ _ _ _ (by assumption) (by assumption) (by intro p hp; simp [hp]) ⟨_, _, _, _, _, _, rfl, by k_mem, drawn_a _⟩
    | exact hret _ _ _ _ (by assumption) (by assumption) (by intro p hp; simp [hp]) ⟨_, _, _, _, _, _, rfl, by k_mem, drawn_b _⟩

theorem absI_pos {x : Int} (h : x ≠ 0) : 0 < absI x := by unfold absI; split <;> omega
def TInv (x e s p : Int) : Prop := 0 < s ∧ told (absI x) e = told s p
theorem tinv_start {x e : Int} (h : x ≠ 0) : TInv x e (absI x) e := ⟨absI_pos h, rfl⟩
theorem tinv_step {x e s p : Int} (h : TInv x e s p) (h2 : qmod s 2 = 0) : TInv x e (qdiv s 2) (p + 1) := by
  obtain ⟨a, b, c⟩ := told_half (p := p) h.1 h2
  exact ⟨b, h.2.trans a⟩
theorem tinv_meas {x e s p : Int} (h : TInv x e s p) (h2 : qmod s 2 = 0) : (qdiv s 2).toNat < s.toNat := by
  obtain ⟨a, b, c⟩ := told_half (p := p) h.1 h2
  omega
theorem told_finN {x e s p : Int} (hx : x ≠ 0) (h : TInv x e s p) (ho : qmod s 2 ≠ 0) (hn : x < 0) : told x e = ⟨1, s, p, bits s⟩ := by
  rw [told_fin hx h.2 h.1 ho, if_pos hn]
theorem told_finP {x e s p : Int} (hx : x ≠ 0) (h : TInv x e s p) (ho : qmod s 2 ≠ 0) (hn : ¬ x < 0) : told x e = ⟨0, s, p, bits s⟩ := by
  rw [told_fin hx h.2 h.1 ho, if_neg hn]
theorem told_z {x e : Int} (hx : x = 0) : told x e = ⟨0, 0, 0, 0⟩ := by rw [hx, told_zero]

theorem ctr_told (w : World) (news : List (Addr × Obj)) (x e : Int) (tx te : Tok) :
    Ctr w 120 3 [.int x tx, .int e te] news (fun v nx => V4 (told x e) v nx) := by
  unfold Ctr
  intro loose mean mg mb dp un gd cn cs a ccd cl outer A₀ base h₀ L m s Q E B F X N T hk hd hu hret
  have hb2 : bits 2 ≤ 9000 := by unfold bits; decide
  k_with "exec While Compare cons nil" => k_while (fun _ s p => TInv x e s p) (fun _ s _ => s.toNat) "size" "power"
  k_with "state" => first | exact tinv_start (by assumption) | exact tinv_step (by assumption) (by assumption)
  k_with "measure" => exact tinv_meas (by assumption) (by assumption)
  refine wpAny_call ?_
  k_dflt ktr_enter
  repeat' (first | (k_unfold; (try dsimp only)) | walk1 | (dsimp only; walk1) | fail "no step")
  all_goals first
    | exact hret _ _ _ _ (by assumption) (by assumption) (by intro p hp; simp [hp]) (V4.mk (told_z (by assumption)) (by k_mem))
    | exact hret _ _ _ _ (by assumption) (by assumption) (by intro p hp; simp [hp]) (V4.mk (told_finN (by assumption) (by assumption) (by assumption) (by assumption)) (by k_mem))
    | exact hret _ _ _ _ (by assumption) (by assumption) (by intro p hp; simp [hp]) (V4.mk (told_finP (by assumption) (by assumption) (by assumption) (by assumption)) (by k_mem))
/-! the law's own rounding -/
/-- the loop's word -/
def RInv (A B most up : Int) : Prop := 0 ≤ up ∧ (up = 0 ∨ mulI (absI A) (pw2 (up - 1)) < mulI B (pw2 (most + 2)))
theorem rinv_start {A B most : Int} : RInv A B most 0 := ⟨Int.le_refl _, .inl rfl⟩
theorem rinv_step {A B most up : Int} (h : RInv A B most up) (h2 : mulI (absI A) (pw2 up) < mulI B (pw2 (most + 2))) : RInv A B most (up + 1) :=
  ⟨by have := h.1; omega, .inr (by rw [show up + 1 - 1 = up by omega]; exact h2)⟩
theorem rinv_le {A B most up : Int} (h : RInv A B most up) (hA : A ≠ 0) (hB : bits B ≤ 64) (hB0 : 0 < B) (hm : most ≤ 100) (hm0 : 1 ≤ most) : up ≤ 200 := rinv_le' h.1 h.2 hA hB hB0 hm hm0
theorem rstep {A B most up : Int} (h : RInv A B most up) (h2 : mulI (absI A) (pw2 up) < mulI B (pw2 (most + 2))) (hA : A ≠ 0) (hB : bits B ≤ 64) (hB0 : 0 < B) (hm : most ≤ 100) (hm0 : 1 ≤ most) : RInv A B most (up + 1) ∧ 0 ≤ up + 1 ∧ up + 1 ≤ 200 :=
  ⟨rinv_step h h2, (rinv_step h h2).1, rinv_le (rinv_step h h2) hA hB hB0 hm hm0⟩
theorem pw2_pos (n : Int) : 0 < pw2 n := by unfold pw2; exact Int.pow_pos (by decide)
theorem pw2_ne (n : Int) : pw2 n ≠ 0 := by have := pw2_pos n; omega
theorem bits_absI {A : Int} : bits (absI A) = bits A := by unfold absI; split; exact bits_negI A; rfl
theorem bits_sh {A up k : Int} (hA : bits A ≤ k) (h0 : 0 ≤ up) : bits (mulI A (pw2 up)) ≤ k + up + 1 := by
  have h1 := @bits_mul A (pw2 up)
  rw [bits_pw2 h0] at h1
  omega
theorem unit_lo {A B most up : Int} (hn : ¬ mulI (absI A) (pw2 up) < mulI B (pw2 (most + 2))) (hB0 : 0 < B) (hm : 1 ≤ most) : 0 ≤ bits (qdiv (mulI (absI A) (pw2 up)) B) - most := Int.le_of_lt (whole_pos hn hB0 hm)
theorem whole_bits {A B up : Int} (hA : bits A ≤ 64) (h0 : 0 ≤ up) (hu : up ≤ 200) (hB0 : 0 < B) : bits (qdiv (mulI (absI A) (pw2 up)) B) ≤ 300 := by
  have h1 : 0 ≤ mulI (absI A) (pw2 up) := by unfold mulI; exact Int.mul_nonneg (by unfold absI; split <;> omega) (Int.le_of_lt (pw2_pos up))
  have h2 := bits_qdiv h1 hB0
  have h3 := bits_sh (A := absI A) (k := 64) (by rw [bits_absI]; exact hA) h0
  omega
theorem unit_hi {A B most up : Int} (hA : bits A ≤ 64) (h0 : 0 ≤ up) (hu : up ≤ 200) (hB0 : 0 < B) (hm : 1 ≤ most) : bits (qdiv (mulI (absI A) (pw2 up)) B) - most ≤ 100000 := by
  have := whole_bits hA h0 hu hB0
  omega
theorem unit_bits {A B most up : Int} (hA : bits A ≤ 64) (h0 : 0 ≤ up) (hu : up ≤ 200) (hB0 : 0 < B) (hm : 1 ≤ most) : bits (pw2 (bits (qdiv (mulI (absI A) (pw2 up)) B) - most)) ≤ 9000 := by
  have := whole_bits hA h0 hu hB0
  by_cases h : 0 ≤ bits (qdiv (mulI (absI A) (pw2 up)) B) - most
  · rw [bits_pw2 h]; omega
  · generalize bits (qdiv (mulI (absI A) (pw2 up)) B) - most = k at h
    unfold pw2
    rw [show k.toNat = 0 by omega]
    unfold bits; decide
theorem r_max0 {prog : Program} {w : World} {A : Around} {E : Value → Shared → Prop} {s : Shared} {h₀ : Heap} {L : Addr} {m : Str → Option Value} {news : List (Addr × Obj)} {b : Int} {t u : Tok} {Q : Value → Shared → Prop} (hh : A.handled = none) (F : Fr h₀ L s.heap m) (N : News h₀ L s.heap news) (hk : 0 < b)
    (h : ∀ h' tk t', Fr h₀ L h' m → News h₀ L h' news → Q (.int b t') { s with heap := h', toks := tk }) : wpAny (model prog w) A (call (.builtin "max") [.int 0 t, .int b u]) Q E s :=
  max_two_N hh F N fun h' tk F' N' => by rw [if_pos hk]; exact h h' tk _ F' N'

/-! execs, cut -/
theorem execs_split_at {M : Model} {env : Env} {Q : Flow → Shared → Prop} {E : Value → Shared → Prop} {A : Around} {Γ : PySem.Ctx} (hΓ : Γ.In A) (post : List Stmt) : ∀ (pre : List Stmt) (p : Pos) (s : Shared),
    Sem.wp M Γ (execs pre env) (fun f _ s' => match f with | .next => wpAny M A (execs post env) Q E s' | f => Q f s') (fun e _ s' => E e s') p s →
    Sem.wp M Γ (execs (pre ++ post) env) (fun f _ s' => Q f s') (fun e _ s' => E e s') p s
  | [], p, s, h => by
    have h' : wpAny M A (execs post env) Q E s := h
    exact h' Γ p hΓ
  | a :: pre, p, s, h => by
    rw [List.cons_append, execs_cons, Sem.wp_bind']
    rw [execs_cons, Sem.wp_bind'] at h
    refine Sem.wp_mono M Γ _ (fun f p' s' h' => ?_) (fun _ _ _ h' => h') _ _ h
    cases f with
    | next => exact execs_split_at hΓ post pre p' s' h'
    | _ => exact h'
theorem execs_split3 {M : Model} {A : Around} {env : Env} {a b c : Stmt} {rest : List Stmt} {Q : Flow → Shared → Prop} {E : Value → Shared → Prop} {s : Shared}
    (h : wpAny M A (execs [a, b, c] env) (fun f s' => match f with | .next => wpAny M A (execs rest env) Q E s' | f => Q f s') E s) : wpAny M A (execs (a :: b :: c :: rest) env) Q E s :=
  fun Γ p hΓ => execs_split_at hΓ rest [a, b, c] p s (h Γ p hΓ)

def MidR (g' : Heap) (L' : Addr) (news : List (Addr × Obj)) (s : Shared) (vA vP vU vN : Value) (low : Int) (fl : Flow) (s' : Shared) : Prop :=
  fl = .next ∧ ∃ h' tk tl, ∃ mm : Str → Option Value, s' = { s with heap := h', toks := tk } ∧ Fr g' L' h' mm ∧ News g' L' h' news ∧ mm (Str.ofString "above") = some vA ∧ mm (Str.ofString "power") = some vP ∧ mm (Str.ofString "up") = some vU ∧ mm (Str.ofString "unit") = some vN ∧ mm (Str.ofString "low") = some (.int low tl)
theorem midR_end {s : Shared} {g' : Heap} {L' : Addr} {news news' : List (Addr × Obj)} {vA vP vU vN : Value} {low low' : Int} {h' : Heap} {tk : Nat} {tl : Tok} {mm : Str → Option Value}
    (eX : low' = low) (F : Fr g' L' h' mm) (N : News g' L' h' news') (hs : ∀ p ∈ news, p ∈ news') (h1 : mm (Str.ofString "above") = some vA) (h2 : mm (Str.ofString "power") = some vP) (h3 : mm (Str.ofString "up") = some vU) (h4 : mm (Str.ofString "unit") = some vN) (h5 : mm (Str.ofString "low") = some (.int low' tl)) :
    MidR g' L' news s vA vP vU vN low .next { s with heap := h', toks := tk } := by
  subst eX
  exact ⟨rfl, h', tk, tl, mm, rfl, F, fun p hp => N p (hs p hp), h1, h2, h3, h4, h5⟩
theorem fr5 {g' h' : Heap} {L' : Addr} {mm : Str → Option Value} {x1 x2 x3 x4 x5 : Str} {v1 v2 v3 v4 v5 : Value} (F : Fr g' L' h' mm) (h1 : mm x1 = some v1) (h2 : mm x2 = some v2) (h3 : mm x3 = some v3) (h4 : mm x4 = some v4) (h5 : mm x5 = some v5) :
    Fr g' L' h' (fun z => if z = x1 then some v1 else if z = x2 then some v2 else if z = x3 then some v3 else if z = x4 then some v4 else if z = x5 then some v5 else mm z) := by
  have e : (fun z => if z = x1 then some v1 else if z = x2 then some v2 else if z = x3 then some v3 else if z = x4 then some v4 else if z = x5 then some v5 else mm z) = mm := by
    funext z
    by_cases q1 : z = x1
    · subst q1; simp [h1]
    by_cases q2 : z = x2
    · subst q2; simp [q1, h2]
    by_cases q3 : z = x3
    · subst q3; simp [q1, q2, h3]
    by_cases q4 : z = x4
    · subst q4; simp [q1, q2, q3, h4]
    by_cases q5 : z = x5
    · subst q5; simp [q1, q2, q3, q4, h5]
    simp [q1, q2, q3, q4, q5]
  rw [e]; exact F
theorem cutR {M : Model} {A : Around} {env : Env} {a b c : Stmt} {rest : List Stmt} {Q : Flow → Shared → Prop} {E : Value → Shared → Prop} {s : Shared} {g' : Heap} {L' : Addr} {m : Str → Option Value} {news : List (Addr × Obj)} {vP vU : Value} {aA low part unit rst : Int} {tA t1 t2 t3 t4 : Tok} {way : Way} {tw : Tok}
    (_F : Fr g' L' s.heap m) (_N : News g' L' s.heap news)
    (_h1 : m (Str.ofString "above") = some (.int aA tA)) (_h2 : (m (Str.ofString "power"), m (Str.ofString "up"), m (Str.ofString "way")) = (some vP, some vU, some (.str way.str tw))) (_h3 : m (Str.ofString "unit") = some (.int unit t3)) (_h4 : (m (Str.ofString "part"), m (Str.ofString "rest")) = (some (.int part t2), some (.int rst t4))) (_h5 : m (Str.ofString "low") = some (.int low t1))
    (h1 : wpAny M A (execs [a, b, c] env) (MidR g' L' news s (.int aA tA) vP vU (.int unit t3) (rndL aA low part unit rst way)) E s)
    (h2 : ∀ h' tk tl (mm : Str → Option Value), Fr g' L' h' (fun z => if z = Str.ofString "above" then some (.int aA tA) else if z = Str.ofString "power" then some vP else if z = Str.ofString "up" then some vU else if z = Str.ofString "unit" then some (.int unit t3) else if z = Str.ofString "low" then some (.int (rndL aA low part unit rst way) tl) else mm z) → News g' L' h' news → wpAny M A (execs rest env) Q E { s with heap := h', toks := tk }) :
    wpAny M A (execs (a :: b :: c :: rest) env) Q E s := by
  refine execs_split3 (wpAny_mono h1 (fun fl s' h => ?_) (fun _ _ x => x))
  obtain ⟨rfl, h', tk, tl, mm, rfl, F, N, e1, e2, e3, e4, e5⟩ := h
  exact h2 h' tk tl mm (fr5 F e1 e2 e3 e4 e5) N
theorem rounded_rndN {A B P most up : Int} {way : Way} {v : Value} {nx : List (Addr × Obj)} (hA : A ≠ 0) (hB0 : 0 < B) (hm : 1 ≤ most) (h0 : 0 ≤ up) (hn : ¬ mulI (absI A) (pw2 up) < mulI B (pw2 (most + 2))) (hs : A < 0)
    (h : V4 (told (-(rndL A (qdiv (qdiv (mulI (absI A) (pw2 up)) B) (pw2 (bits (qdiv (mulI (absI A) (pw2 up)) B) - most))) (qmod (qdiv (mulI (absI A) (pw2 up)) B) (pw2 (bits (qdiv (mulI (absI A) (pw2 up)) B) - most))) (pw2 (bits (qdiv (mulI (absI A) (pw2 up)) B) - most)) (qmod (mulI (absI A) (pw2 up)) B) way)) (P - up + bits (pw2 (bits (qdiv (mulI (absI A) (pw2 up)) B) - most)) - 1)) v nx) : Rnd A B.natAbs P most way v nx := by
  refine ⟨_, h, ?_⟩
  have := rounded_rnd (way := way) (P := P) hA hB0 hm h0 hn
  unfold sgn at this
  rw [if_pos hs, Int.neg_mul, Int.one_mul] at this
  exact this
theorem rounded_rndP {A B P most up : Int} {way : Way} {v : Value} {nx : List (Addr × Obj)} (hA : A ≠ 0) (hB0 : 0 < B) (hm : 1 ≤ most) (h0 : 0 ≤ up) (hn : ¬ mulI (absI A) (pw2 up) < mulI B (pw2 (most + 2))) (hs : ¬ A < 0)
    (h : V4 (told (rndL A (qdiv (qdiv (mulI (absI A) (pw2 up)) B) (pw2 (bits (qdiv (mulI (absI A) (pw2 up)) B) - most))) (qmod (qdiv (mulI (absI A) (pw2 up)) B) (pw2 (bits (qdiv (mulI (absI A) (pw2 up)) B) - most))) (pw2 (bits (qdiv (mulI (absI A) (pw2 up)) B) - most)) (qmod (mulI (absI A) (pw2 up)) B) way) (P - up + bits (pw2 (bits (qdiv (mulI (absI A) (pw2 up)) B) - most)) - 1)) v nx) : Rnd A B.natAbs P most way v nx := by
  refine ⟨_, h, ?_⟩
  have := rounded_rnd (way := way) (P := P) hA hB0 hm h0 hn
  unfold sgn at this
  rw [if_neg hs, Int.one_mul] at this
  exact this
theorem Rnd.mkz {A : Int} {B : Nat} {P prec : Int} {way : Way} {D : Addr} {ta tb tc td : Tok} {n : Nat} {nx : List (Addr × Obj)} (h : A = 0) (hm : (D, t4 0 0 0 0 ta tb tc td n) ∈ nx) : Rnd A B P prec way (.ref D) nx :=
  ⟨⟨0, 0, 0, 0⟩, V4.mk rfl hm, .inl ⟨h, rfl⟩⟩

local macro_rules | `(tactic| walk_at "call builtin:max") => `(tactic| (k_here; (refine' r_max0 ?hh ?F ?N ?hk ?_); (case hh => with_unfolding_all rfl); (case F => assumption); (case N => assumption); (case hk => (refine whole_pos ?_ ?_ ?_ <;> assumption)); intro h9 tk9 t9 F9 N9))
local macro_rules | `(tactic| walk_at "binaryOp FloorDiv int int") => `(tactic| (k_here; (with_reducible refine r_floordiv ?kb1 ?kb2 ?_); (case kb1 => first | assumption | exact pw2_ne _ | omega); (case kb2 => first | assumption | (refine unit_bits ?_ ?_ ?_ ?_ ?_ <;> assumption) | omega)))
local macro_rules | `(tactic| walk_at "binaryOp Mod int int") => `(tactic| (k_here; (with_reducible refine r_mod ?kb1 ?_); (case kb1 => first | assumption | exact pw2_ne _ | decide | omega)))
local macro_rules | `(tactic| walk_at "binaryOp Pow int int") => `(tactic| (k_here; (with_reducible refine r_pow2 ?kb1 ?kb2 ?_); (case kb1 => first | assumption | omega | (refine unit_lo ?_ ?_ ?_ <;> assumption)); (case kb2 => first | assumption | omega | (refine unit_hi ?_ ?_ ?_ ?_ ?_ <;> assumption))))
local macro_rules | `(tactic| walk_at "execs cons Assign") => `(tactic| (
   k_here; (with_reducible show wpAny _ _ (execs (Stmt.Assign [PySem.Expr.Name (Str.ofString "is_far") _] _ _ :: _ :: _ :: _ :: _) _) _ _ _);
   (rename Fr _ _ _ _ => lF'); (rename News _ _ _ _ => lN');
   (k_dflt (refine' cutR lF' lN' ?k1 ?k2 ?k3 ?k4 ?k5 ?_ ?_; (case k1 => exact rfl); (case k2 => exact rfl); (case k3 => exact rfl); (case k4 => exact rfl); (case k5 => exact rfl)); k_whole);
   (focus (rename Way => w9; cases w9 <;> (try dsimp only [Way.str])))))
local macro_rules | `(tactic| walk_at "call ref") => `(tactic| (
   k_here; (with_reducible show wpAny _ _ (call (Value.ref 120) _) _ _ _);
   k_dflt (refine' ctr_use (ctr_told _ _ _ _ _ _) ?k1 ?k2 ?k3 ?k4 ?k5 ?kK ?kd ?ku ?_; (case k1 => k_asm); (case k2 => k_asm); (case k3 => k_asm); (case k4 => k_asm); (case k5 => k_asm); (case kK => first | exact rfl | assumption); (case kd => ktr_room); (case ku => ktr_units); k_whole);
   intro v9 nx9 h9 tk9 F9 N9 hR9; (try k_fold)))
theorem ctr_rounded (w : World) (news : List (Addr × Obj)) (A1 B1 P1 most : Int) (ta tb tp tm tr : Tok) (way : Way) (hA : bits A1 ≤ 64) (hB : bits B1 ≤ 64) (hB0 : 0 < B1) (hm : 1 ≤ most) (hm2 : most ≤ 100) :
    Ctr w 127 6 [.int A1 ta, .int B1 tb, .int P1 tp, .int most tm, .str way.str tr] news (fun v nx => Rnd A1 B1.natAbs P1 most way v nx) := by
  unfold Ctr
  intro loose mean mg mb dp un gd cn cs a ccd cl outer A₀ base h₀ L m s Q E B F X N T hk hd hu hret
  have hb2 : bits 2 ≤ 9000 := by unfold bits; decide
  have hb2' : bits 2 ≤ 64 := by unfold bits; decide
  have hbA : bits (absI A1) ≤ 64 := by rw [bits_absI]; exact hA
  k_with_none
  k_with "exec While Compare cons nil" => k_while (fun _ up => RInv A1 B1 most up ∧ 0 ≤ up ∧ up ≤ 200) (fun _ up => (300 - up).toNat) "up"
  k_with "state" => first | exact ⟨rinv_start, by decide, by decide⟩ | exact rstep (by assumption) (by assumption) (by assumption) hB hB0 hm2 hm
  refine wpAny_call ?_
  k_dflt ktr_enter
  repeat' (first | (k_unfold; (try dsimp only)) | walk1 | (dsimp only; walk1) | fail "no step")
  all_goals first
    | (refine midR_end ?_ (by assumption) (by assumption) (fun _ h => h) rfl rfl rfl rfl rfl
       first | (unfold rndL; dsimp only; split <;> omega) | (unfold rndL; split <;> omega) | exact rfl)
    | exact hret _ _ _ _ (by assumption) (by assumption) (by intro p hp; simp [hp]) (Rnd.mkz (by assumption) (by k_mem))
    | exact hret _ _ _ _ (by assumption) (by assumption) (by intro p hp; simp [hp]) (Rnd.left (rounded_rndN (by assumption) hB0 hm (by assumption) (by assumption) (by assumption) (by assumption)))
    | exact hret _ _ _ _ (by assumption) (by assumption) (by intro p hp; simp [hp]) (Rnd.left (rounded_rndP (by assumption) hB0 hm (by assumption) (by assumption) (by assumption) (by assumption)))
theorem bits_many20 (x : Int) : bits (qmod x 4001 - 2000) ≤ 20 := by have := qmod_range x (b := 4001) (by decide); exact bits_le20 (by omega) (by omega)
theorem bits_many (x : Int) : bits (qmod x 4001 - 2000) ≤ 64 := by have := bits_many20 x; omega
theorem bits_one64 : bits 1 ≤ 64 := by unfold bits; decide
theorem bits_neg1 : bits (-1) ≤ 64 := by unfold bits; decide
theorem bits_one20 : bits 1 ≤ 20 := by unfold bits; decide
theorem bits_neg20 : bits (-1) ≤ 20 := by unfold bits; decide
theorem bits_mul64 {a b : Int} (h1 : bits a ≤ 20) (h2 : bits b ≤ 20) : bits (mulI a b) ≤ 64 := by have := @bits_mul a b; omega
theorem bits_abs64 {a : Int} (h : bits a ≤ 20) : bits (absI a) ≤ 64 := by rw [bits_absI]; omega
theorem most_lo (x : Int) : 1 ≤ 1 + qmod x 70 := by have := qmod_range x (b := 70) (by decide); omega
theorem most_hi100 (x : Int) : 1 + qmod x 70 ≤ 100 := by have := qmod_range x (b := 70) (by decide); omega
theorem most_hi1000 (x : Int) : 1 + qmod x 70 ≤ 1000 := by have := qmod_range x (b := 70) (by decide); omega
theorem mul_sgnN {y x : Int} (h : y < 0) : mulI (sgn y) x = mulI (-1) x := by unfold sgn; rw [if_pos h]
theorem mul_sgnP {y x : Int} (h : ¬ y < 0) : mulI (sgn y) x = mulI 1 x := by unfold sgn; rw [if_neg h]
theorem bits_sgn20 (s : Int) : bits (if s < 0 then (-1 : Int) else 1) ≤ 20 := by split <;> (unfold bits; decide)
theorem natAbs_absI {y : Int} : (absI y).natAbs = y.natAbs := by unfold absI; split <;> omega
theorem div_split {M : Model} {A : Around} {v1 v2 p r : Value} {Q E : Value → Shared → Prop} {s : Shared} {x e y f : Int} {n1 n2 news : List (Addr × Obj)} {h₀ : Heap} {L : Addr} (_N : News h₀ L s.heap news) (h1 : Mpf x e v1 n1) (h2 : Mpf y f v2 n2) (s1 : ∀ q ∈ n1, q ∈ news)
    (h00 : y = 0 → x = 0 → wpAny M A (call (.ref 91) [.ref 22, .ref 22, p, r]) Q E s)
    (h01 : y = 0 → (told x e).m ≠ 0 → ∀ D ta tb tc td n, (D, t4 (told x e).s (told x e).m (told x e).e (told x e).b ta tb tc td n) ∈ news → wpAny M A (call (.ref 91) [.ref D, .ref 22, p, r]) Q E s)
    (hne : y ≠ 0 → wpAny M A (call (.ref 91) [v1, v2, p, r]) Q E s) : wpAny M A (call (.ref 91) [v1, v2, p, r]) Q E s := by
  rcases h2 with ⟨rfl, rfl⟩ | ⟨hy, _⟩
  · rcases h1 with ⟨rfl, rfl⟩ | ⟨hx, D, ta, tb, tc, td, n, rfl, hm⟩
    · exact h00 rfl rfl
    · exact h01 rfl (by have := told_pos (e := e) hx; omega) D ta tb tc td n (s1 _ hm)
  · exact hne hy
section
variable {prog : Program} {w0 w : World} {A : Around} {s : Shared} {a b : Value} {x : M4} {Q E : Value → Shared → Prop} {h₀ : Heap} {L : Addr} {news n1 n2 : List (Addr × Obj)} {A1 A2 P1 P2 pr : Int} {B1 B2 : Nat} {way : Way}
theorem r_neV (X : (Mine.hd.heap_39 w0.params).In s.heap) (N : News h₀ L s.heap news) (V : V4 x a n1) (W : V4 x b n2) (sV : ∀ p ∈ n1, p ∈ news) (sW : ∀ p ∈ n2, p ∈ news) (hu : A.units + 64 < cLine) (h : Q (.bool false) s) : wpAny (model prog w) A (compareOp .NotEq a b) Q E s :=
  r_ne4_same rfl (at4_v4 X N (V.mono sV)) (at4_v4 X N (W.mono sW)) hu h
theorem r_neR (X : (Mine.hd.heap_39 w0.params).In s.heap) (N : News h₀ L s.heap news) (V : Rnd A1 B1 P1 pr way a n1) (W : Rnd A2 B2 P2 pr way b n2) (eA : A1 = A2) (eB : B1 = B2) (eP : P1 = P2) (sV : ∀ p ∈ n1, p ∈ news) (sW : ∀ p ∈ n2, p ∈ news) (hu : A.units + 64 < cLine) (hB : 0 < B1) (hp : 1 ≤ pr) (h : Q (.bool false) s) : wpAny (model prog w) A (compareOp .NotEq a b) Q E s := by
  subst eA; subst eB; subst eP
  obtain ⟨x, V, hx⟩ := V
  obtain ⟨y, W, hy⟩ := W
  exact r_ne4_same (isRnd_unique hB (by omega) hx hy) (at4_v4 X N (V.mono sV)) (at4_v4 X N (W.mono sW)) hu h
theorem r_eqR (X : (Mine.hd.heap_39 w0.params).In s.heap) (N : News h₀ L s.heap news) (V : Rnd A1 B1 P1 pr way a n1) (W : Rnd A2 B2 P2 pr way b n2) (eA : A1 = A2) (eB : B1 = B2) (eP : P1 = P2) (sV : ∀ p ∈ n1, p ∈ news) (sW : ∀ p ∈ n2, p ∈ news) (hu : A.units + 64 < cLine) (hB : 0 < B1) (hp : 1 ≤ pr) (h : Q (.bool true) s) : wpAny (model prog w) A (compareOp .Eq a b) Q E s := by
  subst eA; subst eB; subst eP
  obtain ⟨x, V, hx⟩ := V
  obtain ⟨y, W, hy⟩ := W
  exact r_eq4_same (isRnd_unique hB (by omega) hx hy) (at4_v4 X N (V.mono sV)) (at4_v4 X N (W.mono sW)) hu h
end

theorem way_item (i : Int) (h0 : 0 ≤ i) (h5 : i < 5) : ∃ w : Way, Txt.item (Str.ofString "nfcud") i = w.str := by
  have : i = 0 ∨ i = 1 ∨ i = 2 ∨ i = 3 ∨ i = 4 := by omega
  rcases this with rfl | rfl | rfl | rfl | rfl
  · exact ⟨.n, by decide⟩
  · exact ⟨.f, by decide⟩
  · exact ⟨.c, by decide⟩
  · exact ⟨.u, by decide⟩
  · exact ⟨.d, by decide⟩
theorem r_way {prog : Program} {w : World} {A : Around} {E : Value → Shared → Prop} {s : Shared} {value slice : PySem.Expr} {a : Int} {t u : Tok} {Q : Value → Shared → Prop}
    (h : ∀ (y : Way) (t' : Tok), Q (.str y.str t') { s with toks := s.toks + 1 })
    (hs : subscripted slice false (.str (Str.ofString "nfcud") t) (.int (qmod a 5) u) = operate [.str (Str.ofString "nfcud") t, .int (qmod a 5) u] (getItem (.str (Str.ofString "nfcud") t) (.int (qmod a 5) u)) := by with_unfolding_all rfl)
    (ht : ∀ r, letTemporaryGo value (.str (Str.ofString "nfcud") t) r = pure () := by intro _; with_unfolding_all rfl) :
    wpAny (model prog w) A (subscriptTail value slice (.str (Str.ofString "nfcud") t) (.int (qmod a 5) u)) Q E s := by
  have hq := qmod_range a (b := 5) (by decide)
  have hl : ((Str.ofString "nfcud").length : Int) = 5 := by decide
  refine item_str (fitsSsize_of (N := 9223372036854775808) (by omega) (by omega) (Int.le_refl _)) (by omega) (by omega) (fun _ => ?_) hs ht
  obtain ⟨y, hy⟩ := way_item _ hq.1 hq.2
  rw [hy]
  exact h y _

section
variable {prog : Program} {w : World} {A : Around} {E : Value → Shared → Prop} {s : Shared} {value slice : PySem.Expr} {a b : Int} {ta tb u : Tok} {n : Nat} {D : Addr} {Q : Value → Shared → Prop} {h₀ : Heap} {L : Addr} {n1 news : List (Addr × Obj)}
theorem r_t2a (N : News h₀ L s.heap news) (hm : (D, t2 a b ta tb n) ∈ n1) (sub : ∀ p ∈ n1, p ∈ news) (h : Q (.int a ta) s)
    (hs : subscripted slice false (.ref D) (.int 0 u) = operate [.ref D, .int 0 u] (getItem (.ref D) (.int 0 u)) := by with_unfolding_all rfl) : wpAny (model prog w) A (subscriptTail value slice (.ref D) (.int 0 u)) Q E s :=
  item_tupleT (l := [.int a ta, .int b tb]) (News.isTup N (sub _ hm)) (by decide) (by decide) (j := 0) rfl rfl h hs
theorem r_t2b (N : News h₀ L s.heap news) (hm : (D, t2 a b ta tb n) ∈ n1) (sub : ∀ p ∈ n1, p ∈ news) (h : Q (.int b tb) s)
    (hs : subscripted slice false (.ref D) (.int 1 u) = operate [.ref D, .int 1 u] (getItem (.ref D) (.int 1 u)) := by with_unfolding_all rfl) : wpAny (model prog w) A (subscriptTail value slice (.ref D) (.int 1 u)) Q E s :=
  item_tupleT (l := [.int a ta, .int b tb]) (News.isTup N (sub _ hm)) (by decide) (by decide) (j := 1) rfl rfl h hs
end

theorem r_eqi_yes {prog : Program} {w : World} {A : Around} {E : Value → Shared → Prop} {s : Shared} {a b : Int} {t u : Tok} {Q : Value → Shared → Prop} (e : a = b) (h : Q (.bool true) s) : wpAny (model prog w) A (compareOp .Eq (.int a t) (.int b u)) Q E s := by
  refine eq_int ?_
  rw [show (a == b) = true by simpa using e]; exact h
theorem r_eqi_no {prog : Program} {w : World} {A : Around} {E : Value → Shared → Prop} {s : Shared} {a b : Int} {t u : Tok} {Q : Value → Shared → Prop} (e : a ≠ b) (h : Q (.bool false) s) : wpAny (model prog w) A (compareOp .Eq (.int a t) (.int b u)) Q E s := by
  refine eq_int ?_
  rw [show (a == b) = false by simpa using e]; exact h

theorem law_post (args : List WData) : (WTm.eq .res (.lit (.bool true))).value PySem.Challenge.rw_bw0023_01.row.toRowW.records { args := args, res := some (WData.bool true), after := args } = some (.bool (true == true)) := w_eq_bool (w_res rfl) w_lit
theorem law_good {cl : Str → Option Addr} {mean : ExcName → Option Value} {args : List WData} {s₁ s' : Shared} {L : Addr} {m : Str → Option Value} (F : Fr s₁.heap L s'.heap m) (hg : s'.gens = #[]) (hos : s'.os = s₁.os := by rfl) :
    GoodW PySem.Challenge.rw_bw0023_01.row.claim cl mean args s₁ (.ok (.ret (.bool true))) s' := by
  refine goodW_bool F hg (fun cls => ?_) ?_ hos
  · exact raisesW_false (r := PySem.Challenge.rw_bw0023_01.row.toRowW) allW_false_nil cls
  · exact postW_of (r := PySem.Challenge.rw_bw0023_01.row.toRowW) (X := true == true) rfl (law_post args) rfl
local macro_rules | `(tactic| walk_at "call ref") => `(tactic| (
   k_here; (with_reducible show wpAny _ _ (call (Value.ref 75) [_, _]) _ _ _);
   k_dflt (refine' ctr_use (ctr_mul2 _ _ _ _ _ _ _ _ ?h1 ?h2 ?b1 ?b2) ?k1 ?k2 ?k3 ?k4 ?k5 ?kK ?kd ?ku ?_; (case k1 => k_asm); (case k2 => k_asm); (case k3 => k_asm); (case k4 => k_asm); (case k5 => k_asm); (case kK => first | exact rfl | assumption); (case kd => ktr_room); (case ku => ktr_units); (case h1 => (refine' Mpf.mono ?mA ?mB; (case mA => assumption); (case mB => (intro p9 hp9; first | exact hp9 | (simp [hp9]; done))))); (case h2 => (refine' Mpf.mono ?mA ?mB; (case mA => assumption); (case mB => (intro p9 hp9; first | exact hp9 | (simp [hp9]; done))))); (case b1 => first | assumption | omega | exact bits_many _ | (refine bits_mul64 ?_ ?_ <;> first | assumption | omega | exact bits_many20 _ | exact bits_one20 | exact bits_neg20)); (case b2 => first | assumption | omega | exact bits_many _ | (refine bits_mul64 ?_ ?_ <;> first | assumption | omega | exact bits_many20 _ | exact bits_one20 | exact bits_neg20));  k_whole);
   intro v9 nx9 h9 tk9 F9 N9 hR9; (try k_fold)))
local macro_rules | `(tactic| walk_at "call ref") => `(tactic| (
   k_here; (with_reducible show wpAny _ _ (call (Value.ref 75) [_, _, _, _]) _ _ _);
   k_dflt (refine' ctr_use (ctr_mul4 _ _ _ _ _ _ _ _ _ _ _ _ ?h1 ?h2 ?b1 ?b2 ?p1 ?p2) ?k1 ?k2 ?k3 ?k4 ?k5 ?kK ?kd ?ku ?_; (case k1 => k_asm); (case k2 => k_asm); (case k3 => k_asm); (case k4 => k_asm); (case k5 => k_asm); (case kK => first | exact rfl | assumption); (case kd => ktr_room); (case ku => ktr_units); (case h1 => (refine' Mpf.mono ?mA ?mB; (case mA => assumption); (case mB => (intro p9 hp9; first | exact hp9 | (simp [hp9]; done))))); (case h2 => (refine' Mpf.mono ?mA ?mB; (case mA => assumption); (case mB => (intro p9 hp9; first | exact hp9 | (simp [hp9]; done))))); (case b1 => first | assumption | omega | exact bits_many _ | (refine bits_mul64 ?_ ?_ <;> first | assumption | omega | exact bits_many20 _ | exact bits_one20 | exact bits_neg20)); (case b2 => first | assumption | omega | exact bits_many _ | (refine bits_mul64 ?_ ?_ <;> first | assumption | omega | exact bits_many20 _ | exact bits_one20 | exact bits_neg20)); (case p1 => first | exact (most_lo _)); (case p2 => first | exact (most_hi1000 _));  k_whole);
   intro v9 nx9 h9 tk9 F9 N9 hR9; (try k_fold)))
local macro_rules | `(tactic| walk_at "call ref") => `(tactic| (
   k_here; (with_reducible show wpAny _ _ (call (Value.ref 83) _) _ _ _);
   k_dflt (refine' ctr_use (ctr_muli _ _ _ _ _ _ _ _ _ _ _ ?h1 ?b1 ?b2 ?p1 ?p2) ?k1 ?k2 ?k3 ?k4 ?k5 ?kK ?kd ?ku ?_; (case k1 => k_asm); (case k2 => k_asm); (case k3 => k_asm); (case k4 => k_asm); (case k5 => k_asm); (case kK => first | exact rfl | assumption); (case kd => ktr_room); (case ku => ktr_units); (case h1 => (refine' Mpf.mono ?mA ?mB; (case mA => assumption); (case mB => (intro p9 hp9; first | exact hp9 | (simp [hp9]; done))))); (case b1 => first | assumption | omega | exact bits_many _ | (refine bits_mul64 ?_ ?_ <;> first | assumption | omega | exact bits_many20 _ | exact bits_one20 | exact bits_neg20)); (case b2 => first | assumption | omega | exact bits_many _ | (refine bits_mul64 ?_ ?_ <;> first | assumption | omega | exact bits_many20 _ | exact bits_one20 | exact bits_neg20)); (case p1 => first | exact (most_lo _)); (case p2 => first | exact (most_hi1000 _));  k_whole);
   intro v9 nx9 h9 tk9 F9 N9 hR9; (try k_fold)))
local macro_rules | `(tactic| walk_at "call ref") => `(tactic| (
   k_here; (with_reducible show wpAny _ _ (call (Value.ref 91) _) _ _ _); (with_reducible rename News _ _ _ _ => nN9);
   k_dflt (refine' div_split nN9 ?h1 ?h2 ?s1 ?_ ?_ ?_; (case h1 => assumption); (case h2 => assumption); (case s1 => (intro p9 hp9; simp [hp9]; done)));
   (all_goals intros)))
local macro_rules | `(tactic| walk_at "call ref") => `(tactic| (
   k_here; (with_reducible show wpAny _ _ (call (Value.ref 91) _) _ _ _);
   k_dflt (refine' ctr_use (ctr_div _ _ _ _ _ _ _ _ _ _ _ _ ?h1 ?h2 ?hy ?b1 ?b2 ?p1 ?p2) ?k1 ?k2 ?k3 ?k4 ?k5 ?kK ?kd ?ku ?_; (case k1 => k_asm); (case k2 => k_asm); (case k3 => k_asm); (case k4 => k_asm); (case k5 => k_asm); (case kK => first | exact rfl | assumption); (case kd => ktr_room); (case ku => ktr_units); (case h1 => (refine' Mpf.mono ?mA ?mB; (case mA => assumption); (case mB => (intro p9 hp9; first | exact hp9 | (simp [hp9]; done))))); (case h2 => (refine' Mpf.mono ?mA ?mB; (case mA => assumption); (case mB => (intro p9 hp9; first | exact hp9 | (simp [hp9]; done))))); (case hy => assumption); (case b1 => first | assumption | omega | exact bits_many _ | (refine bits_mul64 ?_ ?_ <;> first | assumption | omega | exact bits_many20 _ | exact bits_one20 | exact bits_neg20)); (case b2 => first | assumption | omega | exact bits_many _ | (refine bits_mul64 ?_ ?_ <;> first | assumption | omega | exact bits_many20 _ | exact bits_one20 | exact bits_neg20)); (case p1 => first | exact (most_lo _)); (case p2 => first | exact (most_hi100 _));  k_whole);
   intro v9 nx9 h9 tk9 F9 N9 hR9; (try k_fold)))
local macro_rules | `(tactic| walk_at "call ref") => `(tactic| (
   k_here; (with_reducible show wpAny _ _ (call (Value.ref 99) _) _ _ _);
   k_dflt (refine' ctr_use (ctr_rdiv _ _ _ _ _ _ _ _ _ _ _ ?h2 ?hy ?b1 ?b2 ?p1 ?p2) ?k1 ?k2 ?k3 ?k4 ?k5 ?kK ?kd ?ku ?_; (case k1 => k_asm); (case k2 => k_asm); (case k3 => k_asm); (case k4 => k_asm); (case k5 => k_asm); (case kK => first | exact rfl | assumption); (case kd => ktr_room); (case ku => ktr_units); (case h2 => (refine' Mpf.mono ?mA ?mB; (case mA => assumption); (case mB => (intro p9 hp9; first | exact hp9 | (simp [hp9]; done))))); (case hy => assumption); (case b1 => first | assumption | omega | exact bits_many _ | (refine bits_mul64 ?_ ?_ <;> first | assumption | omega | exact bits_many20 _ | exact bits_one20 | exact bits_neg20)); (case b2 => first | assumption | omega | exact bits_many _ | (refine bits_mul64 ?_ ?_ <;> first | assumption | omega | exact bits_many20 _ | exact bits_one20 | exact bits_neg20)); (case p1 => first | exact (most_lo _)); (case p2 => first | exact (most_hi100 _));  k_whole);
   intro v9 nx9 h9 tk9 F9 N9 hR9; (try k_fold)))
local macro_rules | `(tactic| walk_at "call ref") => `(tactic| (
   k_here; (with_reducible show wpAny _ _ (call (Value.ref 127) _) _ _ _);
   k_dflt (refine' ctr_use (ctr_rounded _ _ _ _ _ _ _ _ _ _ _ _ ?b1 ?b2 ?b3 ?p1 ?p2) ?k1 ?k2 ?k3 ?k4 ?k5 ?kK ?kd ?ku ?_; (case k1 => k_asm); (case k2 => k_asm); (case k3 => k_asm); (case k4 => k_asm); (case k5 => k_asm); (case kK => first | exact rfl | assumption); (case kd => ktr_room); (case ku => ktr_units); (case b1 => first | assumption | omega | exact bits_many _ | (refine bits_mul64 ?_ ?_ <;> first | assumption | omega | exact bits_many20 _ | exact bits_one20 | exact bits_neg20)); (case b2 => first | exact bits_one64 | (refine bits_abs64 ?_; assumption)); (case b3 => first | decide | (refine absI_pos ?_; assumption)); (case p1 => first | exact (most_lo _)); (case p2 => first | exact (most_hi100 _));  k_whole);
   intro v9 nx9 h9 tk9 F9 N9 hR9; (try k_fold)))
local macro_rules | `(tactic| walk_at "call ref") => `(tactic| (
   k_here; (with_reducible show wpAny _ _ (call (Value.ref 60) _) _ _ _);
   k_dflt (refine' ctr_use (ctr_from_int _ _ _ _) ?k1 ?k2 ?k3 ?k4 ?k5 ?kK ?kd ?ku ?_; (case k1 => k_asm); (case k2 => k_asm); (case k3 => k_asm); (case k4 => k_asm); (case k5 => k_asm); (case kK => first | exact rfl | assumption); (case kd => ktr_room); (case ku => ktr_units);  k_whole);
   intro v9 nx9 h9 tk9 F9 N9 hR9; (try k_fold)))
local macro_rules | `(tactic| walk_at "call ref") => `(tactic| (
   k_here; (with_reducible show wpAny _ _ (call (Value.ref 52) [_, _]) _ _ _);
   k_dflt (refine' ctr_use (ctr_fme _ _ _ _ _ _) ?k1 ?k2 ?k3 ?k4 ?k5 ?kK ?kd ?ku ?_; (case k1 => k_asm); (case k2 => k_asm); (case k3 => k_asm); (case k4 => k_asm); (case k5 => k_asm); (case kK => first | exact rfl | assumption); (case kd => ktr_room); (case ku => ktr_units);  k_whole);
   intro v9 nx9 h9 tk9 F9 N9 hR9; (try k_fold)))
local macro_rules | `(tactic| walk_at "call ref") => `(tactic| (
   k_here; (with_reducible show wpAny _ _ (call (Value.ref 120) _) _ _ _);
   k_dflt (refine' ctr_use (ctr_told _ _ _ _ _ _) ?k1 ?k2 ?k3 ?k4 ?k5 ?kK ?kd ?ku ?_; (case k1 => k_asm); (case k2 => k_asm); (case k3 => k_asm); (case k4 => k_asm); (case k5 => k_asm); (case kK => first | exact rfl | assumption); (case kd => ktr_room); (case ku => ktr_units);  k_whole);
   intro v9 nx9 h9 tk9 F9 N9 hR9; (try k_fold)))
local macro_rules | `(tactic| walk_at "call ref") => `(tactic| (
   k_here; (with_reducible show wpAny _ _ (call (Value.ref 106) _) _ _ _);
   k_dflt (refine' ctr_use (ctr_number _ _ _ _ _ _ _ ?i ?m ?l ?a ?b) ?k1 ?k2 ?k3 ?k4 ?k5 ?kK ?kd ?ku ?_; (case k1 => k_asm); (case k2 => k_asm); (case k3 => k_asm); (case k4 => k_asm); (case k5 => k_asm); (case kK => first | exact rfl | assumption); (case kd => ktr_room); (case ku => ktr_units); (case i => assumption); (case m => repeat (first | assumption | exact List.Mem.head _ | refine List.mem_append.mpr (Or.inr ?_) | refine List.Mem.tail _ ?_)); (case l => first | assumption | omega); (case a => omega); (case b => omega); k_whole);
   intro v9 nx9 h9 tk9 F9 N9 hR9; obtain ⟨x9, t9, e9⟩ := hR9; subst e9; (try k_fold)))
local macro_rules | `(tactic| walk_at "call ref") => `(tactic| (
   k_here; (with_reducible show wpAny _ _ (call (Value.ref 113) _) _ _ _);
   k_dflt (refine' ctr_use (ctr_drawn _ _ _ _ _ _ _ ?i ?m ?l ?a ?b) ?k1 ?k2 ?k3 ?k4 ?k5 ?kK ?kd ?ku ?_; (case k1 => k_asm); (case k2 => k_asm); (case k3 => k_asm); (case k4 => k_asm); (case k5 => k_asm); (case kK => first | exact rfl | assumption); (case kd => ktr_room); (case ku => ktr_units); (case i => assumption); (case m => repeat (first | assumption | exact List.Mem.head _ | refine List.mem_append.mpr (Or.inr ?_) | refine List.Mem.tail _ ?_)); (case l => first | assumption | omega); (case a => decide); (case b => decide); k_whole);
   intro v9 nx9 h9 tk9 F9 N9 hR9; obtain ⟨D9, x9, p9, tx9, tp9, n9, e9, hm9, hx9⟩ := hR9; subst e9; (try k_fold)))

local macro_rules | `(tactic| walk_at "binaryOp Mult int int") => `(tactic| (k_here; (with_reducible refine r_mul ?kb1 ?_); (case kb1 => first | (left; first | assumption | exact bits_one64 | exact bits_neg1 | omega) | (right; first | assumption | omega))))
local macro_rules | `(tactic| walk_at "compareOp NotEq") => `(tactic| (k_here; (with_reducible rename News _ _ _ _ => nN9); (with_reducible rename Fr _ _ _ _ => fF9); (first
  | (refine' r_neV (Frag.In.keeps ?X (Fr.keep fF9)) nN9 ?V ?W ?sV ?sW ?u ?_; (case X => with_reducible assumption); (case V => with_reducible assumption); (case W => with_reducible assumption); (case sV => (intro p9 hp9; simp [hp9]; done)); (case sW => (intro p9 hp9; simp [hp9]; done)); (case u => first | ke_room | ktr_units))
  | (refine' r_neR (Frag.In.keeps ?X (Fr.keep fF9)) nN9 ?V ?W ?a ?b ?c ?sV ?sW ?u ?hB ?hp ?_; (case X => with_reducible assumption); (case V => with_reducible assumption); (case W => with_reducible assumption); (case hB => first | decide | exact Int.natAbs_pos.mpr (by assumption)); (case hp => exact most_lo _); (case a => first | exact rfl | exact mul_sgnN (by assumption) | exact mul_sgnP (by assumption)); (case b => first | exact rfl | exact Eq.symm natAbs_absI | exact natAbs_absI); (case c => first | exact rfl | omega); (case sV => (intro p9 hp9; simp [hp9]; done)); (case sW => (intro p9 hp9; simp [hp9]; done)); (case u => first | ke_room | ktr_units)))))
local macro_rules | `(tactic| walk_at "compareOp Eq") => `(tactic| (k_here; (with_reducible rename News _ _ _ _ => nN9); (with_reducible rename Fr _ _ _ _ => fF9); (refine' r_eqR (Frag.In.keeps ?X (Fr.keep fF9)) nN9 ?V ?W ?a ?b ?c ?sV ?sW ?u ?hB ?hp ?_; (case X => with_reducible assumption); (case V => with_reducible assumption); (case W => with_reducible assumption); (case hB => first | decide | exact Int.natAbs_pos.mpr (by assumption)); (case hp => exact most_lo _); (case a => first | exact rfl | exact mul_sgnN (by assumption) | exact mul_sgnP (by assumption)); (case b => first | exact rfl | exact Eq.symm natAbs_absI | exact natAbs_absI); (case c => first | exact rfl | omega); (case sV => (intro p9 hp9; simp [hp9]; done)); (case sW => (intro p9 hp9; simp [hp9]; done)); (case u => first | ke_room | ktr_units))))
local macro_rules | `(tactic| walk_at "subscriptTail Name BinOp str int") => `(tactic| (k_here; k_dflt (refine' r_way ?_); intro y9 t9))
local macro_rules | `(tactic| walk_at "subscriptTail Name Constant ref int") => `(tactic| (k_here; (with_reducible show wpAny _ _ (subscriptTail _ _ (Value.ref _) (Value.int 0 _)) _ _ _); (with_reducible rename News _ _ _ _ => nN9); k_dflt (refine' r_t2a nN9 ?m ?s ?_; (case m => assumption); (case s => (intro p9 hp9; simp [hp9]; done)))))
local macro_rules | `(tactic| walk_at "subscriptTail Name Constant ref int") => `(tactic| (k_here; (with_reducible show wpAny _ _ (subscriptTail _ _ (Value.ref _) (Value.int 1 _)) _ _ _); (with_reducible rename News _ _ _ _ => nN9); k_dflt (refine' r_t2b nN9 ?m ?s ?_; (case m => assumption); (case s => (intro p9 hp9; simp [hp9]; done)))))
local macro_rules | `(tactic| walk_at "compareOp Eq int int") => `(tactic| (k_here; with_reducible (first | (refine r_eqi_yes ?_ ?_; assumption) | (refine r_eqi_no ?_ ?_; assumption))))
local macro_rules | `(tactic| walk_at "call ref") => `(tactic| (k_here; (with_reducible show wpAny _ _ (call (Value.ref 91) [_, Value.ref 22, _, _]) _ _ _); (with_reducible rename Fr _ _ _ _ => fF9); k_dflt (refine wpAny_call ?_; (refine' code_def ?k1 ?k2 ?k3 ?k4 ?k5 ?kA ?kF ?kK ?k6 ?k7 ?k8 ?k9 ?kB ?_ ?c2 ?c3 ?c4 ?c5; (case kA => exact rfl); (case kF => exact rfl); (case kK => exact rfl); (case k1 => k_asm); (case k2 => k_asm); (case k3 => k_asm); (case k4 => k_asm); (case k5 => k_asm); (case k6 => k_is); (case k7 => k_is); (case k8 => k_room); (case k9 => exact binds_K (Frag.In.keeps (by with_reducible assumption) (Fr.keep fF9)) rfl (by k_is) rfl rfl rfl); (case c5 => decide); (case kB => exact locs rfl); (case c2 => exact rfl); (case c3 => exact rfl); (case c4 => exact rfl); k_whole; intro g' L' h' FG' F' N' B' X' T'; (try dsimp only); (try k_lift B'); (try k_fold)))))
theorem law_holds : PySem.Challenge.rw_bw0023_01.Holds := by
  refine Mine.hd ?_
  w_on
  w_strict k_go0
  rename_i w s0 s1 mg mb G Y fa o pm doc kV ho hg KX X V GL T B TE TW wa wb M wc wd hcd we hs hlay0 hL1 hr1 hl2 wf wg wh wi wj hL2 ra w1 r0 hI hr2 hcond1 hcond2 K0 hD h1 F N0
  clear G Y X V B TE TW M hcd hs hlay0 hr1 hl2 ra w1 r0 hr2 hD ho
  all_goals (try k_fold)
  k_with_none
  repeat' (first | (k_unfold; (try dsimp only)) | walk1 | (dsimp only; walk1) | fail "no step")
  all_goals first
   | exact law_good (by with_reducible assumption) (by with_reducible assumption)
end Mine
theorem PySem.Challenge.cw_bw0023_01_holds : PySem.Challenge.rw_bw0023_01.Holds := by
  exact Mine.law_holds
