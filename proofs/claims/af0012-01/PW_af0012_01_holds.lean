import PyProof.Rows.All
import Wide.All
import OpenK.AllK
import Wide.FinOn
import PySem.Challenge.RW_af0012_01
open PySem PySem.W PySem.Spec PySem.Calls PyProof.Rows
set_option Elab.async false
set_option maxRecDepth 100000
namespace Mine
set_option maxHeartbeats 8000000 in
open_top hd for PySem.Challenge.rw_af0012_01
set_option autoImplicit false
abbrev tupO (vs : List Value) (c : Nat) : Obj := { cls := .type "tuple", data := .seq vs.toArray c }
abbrev lstO (vs : List Value) (c : Nat) : Obj := { cls := .type "list", data := .seq vs.toArray c }

/-- what a call of the def at f does, whatever frames stand above -/
def Says (w : World) (mean : ExcName → Option Value) (mg mb : Str → Option Value) (f : Addr) (sz : Nat) (news : List (Addr × Obj)) (vs : List Value)
    (Ret : Heap → Addr → (Str → Option Value) → Shared → (Value → Shared → Prop) → Prop) : Prop :=
  ∀ (dp un : Nat) (gd : Option (List Code)) (cn : Str) (cs : Scope) (a : Addr) (ccd : Value) (cl : List (Str × Addr)) (outer : List Env) (A₀ : Around) (base h₀ : Heap) (L : Addr) (m : Str → Option Value) (s : Shared) (Q E : Value → Shared → Prop),
    Below A₀ base outer h₀ → Fr h₀ L s.heap m → (hd.heap_39 w.params).In h₀ → News h₀ L s.heap news → Top hd.view_39 (looseW hd.view_39 []) mean mg mb h₀ → cs.kind = .function →
    dp + sz < recursionLimit → un + 8 * sz < cLine → Ret h₀ L m s Q →
    wpAny (model PySem.Challenge.rw_af0012_01.row.prog w) (ktrTop dp un gd cn cs L a ccd cl outer) (call (.ref f) vs) Q E s

/-- an int comes back -/
def RetI (news : List (Addr × Obj)) (P : Int → Prop) (h₀ : Heap) (L : Addr) (m : Str → Option Value) (s : Shared) (Q : Value → Shared → Prop) : Prop :=
  ∀ (y : Int) (t : Tok) (h' : Heap) (tk' : Nat), P y → Fr h₀ L h' m → News h₀ L h' news → Q (.int y t) { s with heap := h', toks := tk' }
/-- a tuple of three ints -/
def RetT3 (news : List (Addr × Obj)) (P : Int × Int × Int → Prop) (h₀ : Heap) (L : Addr) (m : Str → Option Value) (s : Shared) (Q : Value → Shared → Prop) : Prop :=
  ∀ (r : Addr) (x y z : Int) (t1 t2 t3 : Tok) (c : Nat) (h' : Heap) (tk' : Nat), P (x, y, z) → Fr h₀ L h' m → News h₀ L h' ((r, tupO [.int x t1, .int y t2, .int z t3] c) :: news) → Q (.ref r) { s with heap := h', toks := tk' }
def RetT2 (news : List (Addr × Obj)) (P : Int × Int → Prop) (h₀ : Heap) (L : Addr) (m : Str → Option Value) (s : Shared) (Q : Value → Shared → Prop) : Prop :=
  ∀ (r : Addr) (x y : Int) (t1 t2 : Tok) (c : Nat) (h' : Heap) (tk' : Nat), P (x, y) → Fr h₀ L h' m → News h₀ L h' ((r, tupO [.int x t1, .int y t2] c) :: news) → Q (.ref r) { s with heap := h', toks := tk' }

/-- an equation that the arithmetic does not look at -/
def Is (r v : Int) : Prop := r = v
abbrev Pt := Int × Int × Int
def In0 (P x : Int) : Prop := 0 ≤ x ∧ x < P
def dbl (P A : Int) (p : Pt) : Pt :=
  if p.2.1 = 0 then (0, 0, 0) else
  let ysq := p.2.1 ^ 2 % P
  let S := 4 * p.1 * ysq % P
  let M := (3 * p.1 ^ 2 + A * p.2.2 ^ 4) % P
  let nx := (M ^ 2 - 2 * S) % P
  let ny := (M * (S - nx) - 8 * ysq ^ 2) % P
  (nx, ny, 2 * p.2.1 * p.2.2 % P)

section
variable {w : World} {mean : ExcName → Option Value} {mg mb : Str → Option Value} {f : Addr} {sz : Nat} {news : List (Addr × Obj)} {vs : List Value}
  {dp un : Nat} {gd : Option (List Code)} {cn : Str} {cs : Scope} {a : Addr} {ccd : Value} {cl : List (Str × Addr)} {outer : List Env} {A₀ : Around} {base h₀ : Heap} {L : Addr} {m : Str → Option Value} {s : Shared} {Q E : Value → Shared → Prop}
theorem Says.useI {P : Int → Prop} (H : Says w mean mg mb f sz news vs (RetI news P)) (B : Below A₀ base outer h₀) (F : Fr h₀ L s.heap m) (X : (hd.heap_39 w.params).In h₀) (N : News h₀ L s.heap news)
    (T : Top hd.view_39 (looseW hd.view_39 []) mean mg mb h₀) (hk : cs.kind = .function) (hdp : dp + sz < recursionLimit) (hu : un + 8 * sz < cLine)
    (h : ∀ (y : Int) (t : Tok) (h' : Heap) (tk' : Nat), P y → Fr h₀ L h' m → News h₀ L h' news → Q (.int y t) { s with heap := h', toks := tk' }) :
    wpAny (model PySem.Challenge.rw_af0012_01.row.prog w) (ktrTop dp un gd cn cs L a ccd cl outer) (call (.ref f) vs) Q E s :=
  H _ _ _ _ _ _ _ _ _ _ _ _ _ _ _ _ _ B F X N T hk hdp hu h
theorem Says.useT3 {P : Int × Int × Int → Prop} (H : Says w mean mg mb f sz news vs (RetT3 news P)) (B : Below A₀ base outer h₀) (F : Fr h₀ L s.heap m) (X : (hd.heap_39 w.params).In h₀) (N : News h₀ L s.heap news)
    (T : Top hd.view_39 (looseW hd.view_39 []) mean mg mb h₀) (hk : cs.kind = .function) (hdp : dp + sz < recursionLimit) (hu : un + 8 * sz < cLine)
    (h : ∀ (r : Addr) (x y z : Int) (t1 t2 t3 : Tok) (c : Nat) (h' : Heap) (tk' : Nat), P (x, y, z) → Fr h₀ L h' m → News h₀ L h' ((r, tupO [.int x t1, .int y t2, .int z t3] c) :: news) → Q (.ref r) { s with heap := h', toks := tk' }) :
    wpAny (model PySem.Challenge.rw_af0012_01.row.prog w) (ktrTop dp un gd cn cs L a ccd cl outer) (call (.ref f) vs) Q E s :=
  H _ _ _ _ _ _ _ _ _ _ _ _ _ _ _ _ _ B F X N T hk hdp hu h
theorem Says.useT2 {P : Int × Int → Prop} (H : Says w mean mg mb f sz news vs (RetT2 news P)) (B : Below A₀ base outer h₀) (F : Fr h₀ L s.heap m) (X : (hd.heap_39 w.params).In h₀) (N : News h₀ L s.heap news)
    (T : Top hd.view_39 (looseW hd.view_39 []) mean mg mb h₀) (hk : cs.kind = .function) (hdp : dp + sz < recursionLimit) (hu : un + 8 * sz < cLine)
    (h : ∀ (r : Addr) (x y : Int) (t1 t2 : Tok) (c : Nat) (h' : Heap) (tk' : Nat), P (x, y) → Fr h₀ L h' m → News h₀ L h' ((r, tupO [.int x t1, .int y t2] c) :: news) → Q (.ref r) { s with heap := h', toks := tk' }) :
    wpAny (model PySem.Challenge.rw_af0012_01.row.prog w) (ktrTop dp un gd cn cs L a ccd cl outer) (call (.ref f) vs) Q E s :=
  H _ _ _ _ _ _ _ _ _ _ _ _ _ _ _ _ _ B F X N T hk hdp hu h
end
theorem mem_head_of {a : Addr} {o o' : Obj} {l : List (Addr × Obj)} (e : o = o') : (a, o) ∈ (a, o') :: l := e ▸ List.Mem.head _
theorem news_again {h₀ h : Heap} {L : Addr} {news : List (Addr × Obj)} {q : Addr × Obj} (N : News h₀ L h news) (hm : q ∈ news) : News h₀ L h (q :: news) := fun p hp => by
  rcases List.mem_cons.mp hp with rfl | hp
  · exact N _ hm
  · exact N p hp
theorem news_less {h₀ h : Heap} {L : Addr} {news : List (Addr × Obj)} {q q' : Addr × Obj} (N : News h₀ L h (q :: q' :: news)) : News h₀ L h (q :: news) := fun p hp => by
  rcases List.mem_cons.mp hp with rfl | hp
  · exact N _ (.head _)
  · exact N p (.tail _ (.tail _ hp))
theorem news_less2 {h₀ h : Heap} {L : Addr} {news : List (Addr × Obj)} {q q' q'' : Addr × Obj} (N : News h₀ L h (q :: q' :: q'' :: news)) : News h₀ L h (q :: news) := news_less (news_less N)
/-- jacobian_add, as a function -/
def jadd (P A : Int) (p q : Pt) : Pt :=
  if p.2.1 = 0 then q else if q.2.1 = 0 then p else
  let U1 := p.1 * q.2.2 ^ 2 % P
  let U2 := q.1 * p.2.2 ^ 2 % P
  let S1 := p.2.1 * q.2.2 ^ 3 % P
  let S2 := q.2.1 * p.2.2 ^ 3 % P
  if U1 = U2 then if S1 ≠ S2 then (0, 0, 1) else dbl P A p else
  let H := U2 - U1
  let R := S2 - S1
  let H2 := H * H % P
  let H3 := H * H2 % P
  let U1H2 := U1 * H2 % P
  let nx := (R ^ 2 - H3 - 2 * U1H2) % P
  let ny := (R * (U1H2 - nx) - S1 * H3) % P
  (nx, ny, H * p.2.2 * q.2.2 % P)
section
variable {P A x y z x' y' z' q2 u1 p2 u2 q3 s1 p3 s2 : Int}
theorem jadd_inf (hy : y ≠ 0) (hy' : y' ≠ 0) (a1 : Is q2 (z' ^ Int.toNat 2)) (b1 : Is u1 (x * q2 % P)) (a2 : Is p2 (z ^ Int.toNat 2)) (b2 : Is u2 (x' * p2 % P)) (a3 : Is q3 (z' ^ Int.toNat 3)) (b3 : Is s1 (y * q3 % P)) (a4 : Is p3 (z ^ Int.toNat 3)) (b4 : Is s2 (y' * p3 % P)) (he : u1 = u2) (hs : s1 ≠ s2) :
    (0, 0, 1) = jadd P A (x, y, z) (x', y', z') := by
  unfold Is at *
  rw [a1] at b1; rw [a2] at b2; rw [a3] at b3; rw [a4] at b4
  rw [b1, b2] at he; rw [b3, b4] at hs
  unfold jadd
  rw [if_neg hy, if_neg hy']
  exact ((if_pos he).trans (if_pos hs)).symm
theorem jadd_dbl (hy : y ≠ 0) (hy' : y' ≠ 0) (a1 : Is q2 (z' ^ Int.toNat 2)) (b1 : Is u1 (x * q2 % P)) (a2 : Is p2 (z ^ Int.toNat 2)) (b2 : Is u2 (x' * p2 % P)) (a3 : Is q3 (z' ^ Int.toNat 3)) (b3 : Is s1 (y * q3 % P)) (a4 : Is p3 (z ^ Int.toNat 3)) (b4 : Is s2 (y' * p3 % P)) (he : u1 = u2) (hs : s1 = s2) :
    dbl P A (x, y, z) = jadd P A (x, y, z) (x', y', z') := by
  unfold Is at *
  rw [a1] at b1; rw [a2] at b2; rw [a3] at b3; rw [a4] at b4
  rw [b1, b2] at he; rw [b3, b4] at hs
  unfold jadd
  rw [if_neg hy, if_neg hy']
  exact ((if_pos he).trans (if_neg (fun k => k hs))).symm
theorem jadd_gen {h2 h3 uh r2 nx ny nz : Int} (hy : y ≠ 0) (hy' : y' ≠ 0) (a1 : Is q2 (z' ^ Int.toNat 2)) (b1 : Is u1 (x * q2 % P)) (a2 : Is p2 (z ^ Int.toNat 2)) (b2 : Is u2 (x' * p2 % P)) (a3 : Is q3 (z' ^ Int.toNat 3)) (b3 : Is s1 (y * q3 % P)) (a4 : Is p3 (z ^ Int.toNat 3)) (b4 : Is s2 (y' * p3 % P)) (he : u1 ≠ u2)
    (c1 : Is h2 ((u2 - u1) * (u2 - u1) % P)) (c2 : Is h3 ((u2 - u1) * h2 % P)) (c3 : Is uh (u1 * h2 % P)) (c4 : Is r2 ((s2 - s1) ^ Int.toNat 2)) (c5 : Is nx ((r2 - h3 - 2 * uh) % P))
    (c6 : Is ny (((s2 - s1) * (uh - nx) - s1 * h3) % P)) (c7 : Is nz ((u2 - u1) * z * z' % P)) :
    (nx, ny, nz) = jadd P A (x, y, z) (x', y', z') := by
  unfold Is at *
  subst a1 a2 a3 a4
  subst b1 b2 b3 b4
  subst c1
  subst c2 c3 c4
  subst c5
  subst c6 c7
  unfold jadd
  rw [if_neg hy, if_neg hy']
  exact (if_neg he).symm
end
section
variable {prog : Program} {w : World} {A : Around} {E : Value → Shared → Prop} {s : Shared} {a b : Int} {t u : Tok} {Q : Value → Shared → Prop}
theorem mod_pos (hb : 0 < b) (h : ∀ r : Int, Is r (a % b) → 0 ≤ r → r < b → Q (.int r s.toks) { s with toks := s.toks + 1 }) : wpAny (model prog w) A (binaryOp .Mod (.int a t) (.int b u)) Q E s := by
  refine mod_int' (by omega) ?_
  rw [Int.fmod_eq_emod_of_nonneg _ (by omega)]
  exact h _ rfl (Int.emod_nonneg _ (by omega)) (Int.emod_lt_of_pos _ hb)
theorem div_pos (hb : 0 < b) (hb1 : b < 1000000000) (h0 : 0 ≤ a) (h : ∀ r : Int, Is r (a / b) → 0 ≤ r → r ≤ a → Q (.int r s.toks) { s with toks := s.toks + 1 }) : wpAny (model prog w) A (binaryOp .FloorDiv (.int a t) (.int b u)) Q E s := by
  refine floordiv_int (by omega) ?_ (Or.inl (PyProof.noPylong_small (by omega)))
  rw [Int.fdiv_eq_ediv_of_nonneg _ (by omega)]
  exact h _ rfl (Int.ediv_nonneg h0 (by omega)) (Int.ediv_le_self b h0)
theorem mod_lit (hb : 0 < b) (h : ∀ r : Int, r = a % b → Q (.int r s.toks) { s with toks := s.toks + 1 }) : wpAny (model prog w) A (binaryOp .Mod (.int a t) (.int b u)) Q E s := by
  refine mod_int' (by omega) ?_
  rw [Int.fmod_eq_emod_of_nonneg _ (by omega)]
  exact h _ rfl
theorem div_lit (hb : 0 < b) (hb1 : b < 1000000000) (h : ∀ r : Int, r = a / b → Q (.int r s.toks) { s with toks := s.toks + 1 }) : wpAny (model prog w) A (binaryOp .FloorDiv (.int a t) (.int b u)) Q E s := by
  refine floordiv_int (by omega) ?_ (Or.inl (PyProof.noPylong_small (by omega)))
  rw [Int.fdiv_eq_ediv_of_nonneg _ (by omega)]
  exact h _ rfl
theorem shl_8 (h0 : 0 ≤ a) (ha : a < 1000000000) (h : ∀ r : Int, r = a * 256 → Q (.int r s.toks) { s with toks := s.toks + 1 }) : wpAny (model prog w) A (binaryOp .LShift (.int a t) (.int 8 u)) Q E s :=
  lshift_int_small (by decide) (by decide) (by omega) (h _ (by rfl))
theorem pow_small {n : Int} (hn : 0 ≤ n) (hn2 : n ≤ 100) (h0 : -1000000000 < a) (ha : a < 1000000000) (h : ∀ r : Int, Is r (a ^ n.toNat) → Q (.int r s.toks) { s with toks := s.toks + 1 }) : wpAny (model prog w) A (binaryOp .Pow (.int a t) (.int n u)) Q E s :=
  pow_int_small hn (by omega) (by omega) (h _ rfl)
theorem mul_left (h0 : -1000000000 < a) (ha : a < 1000000000) (h : Q (.int (a * b) s.toks) { s with toks := s.toks + 1 }) : wpAny (model prog w) A (binaryOp .Mult (.int a t) (.int b u)) Q E s :=
  mul_int h (IntMulOk.of_left (intBits_le_64 (by omega) (by omega)))
theorem mul_right (h0 : -1000000000 < b) (ha : b < 1000000000) (h : Q (.int (a * b) s.toks) { s with toks := s.toks + 1 }) : wpAny (model prog w) A (binaryOp .Mult (.int a t) (.int b u)) Q E s :=
  mul_int h (IntMulOk.of_right (intBits_le_64 (by omega) (by omega)))
end

section
variable {prog : Program} {w : World} {A : Around} {E : Value → Shared → Prop} {s : Shared} {a b c : Int} {t u : Tok} {Q : Value → Shared → Prop}
theorem mod_pos1 (hb : 1 < b) (h : ∀ r : Int, Is r (a % b) → 0 ≤ r → r < b → Q (.int r s.toks) { s with toks := s.toks + 1 }) : wpAny (model prog w) A (binaryOp .Mod (.int a t) (.int b u)) Q E s := mod_pos (by omega) h
theorem pow_bd {n : Int} (hn : 0 ≤ n) (hn2 : n ≤ 100) (h0 : 0 ≤ a) (h1 : a < c) (hc : c < 128) (h : ∀ r : Int, Is r (a ^ n.toNat) → Q (.int r s.toks) { s with toks := s.toks + 1 }) : wpAny (model prog w) A (binaryOp .Pow (.int a t) (.int n u)) Q E s := pow_small hn hn2 (by omega) (by omega) h
theorem mul_bd (h0 : 0 ≤ a) (h1 : a < c) (hc : c < 128) (h : Q (.int (a * b) s.toks) { s with toks := s.toks + 1 }) : wpAny (model prog w) A (binaryOp .Mult (.int a t) (.int b u)) Q E s := mul_left (by omega) (by omega) h
theorem mul_bdr (h0 : 0 ≤ b) (h1 : b < c) (hc : c < 128) (h : Q (.int (a * b) s.toks) { s with toks := s.toks + 1 }) : wpAny (model prog w) A (binaryOp .Mult (.int a t) (.int b u)) Q E s := mul_right (by omega) (by omega) h
end

/-- the loop of inv, by fuel -/
def invLoop : Nat → Int → Int → Int → Int → Int
  | 0, lm, _, _, _ => lm
  | f + 1, lm, low, hm, high => if 1 < low then invLoop f (hm - lm * (high / low)) (high - low * (high / low)) lm low else lm
def invF (a n : Int) : Int := if a = 0 then 0 else invLoop 128 1 (a % n) 0 n % n
abbrev InvE (a n lm low hm high : Int) : Prop := ∃ f : Nat, low.toNat ≤ f ∧ invLoop f lm low hm high = invLoop 128 1 (a % n) 0 n
abbrev InvP (a n lm low hm high : Int) : Prop := 0 ≤ low ∧ low < high ∧ high < 128 ∧ InvE a n lm low hm high
theorem inv_meas {low high r : Int} (hl : 1 < low) (hr : Is r (high / low)) : (high - low * r).toNat < low.toNat := by
  unfold Is at hr
  subst hr
  have e1 : high - low * (high / low) = high % low := by have := Int.mul_ediv_add_emod high low; omega
  have b0 := Int.emod_nonneg high (show low ≠ 0 by omega)
  have b1 := Int.emod_lt_of_pos high (show 0 < low by omega)
  omega
theorem inv_turn {a n lm low hm high r : Int} (hl : 1 < low) (hr : Is r (high / low)) (h1 : low < high) (h2 : high < 128) (h : InvE a n lm low hm high) : InvP a n (hm - lm * r) (high - low * r) lm low := by
  obtain ⟨f, hf, e⟩ := h
  unfold Is at hr
  subst hr
  have e1 : high - low * (high / low) = high % low := by have := Int.mul_ediv_add_emod high low; omega
  have b0 := Int.emod_nonneg high (show low ≠ 0 by omega)
  have b1 := Int.emod_lt_of_pos high (show 0 < low by omega)
  refine ⟨by omega, by omega, by omega, ?_⟩
  cases f with
  | zero => omega
  | succ f =>
    refine ⟨f, by omega, ?_⟩
    rw [← e]
    simp only [invLoop, if_pos hl]
theorem inv_done {a n lm low hm high r : Int} (hr : Is r (lm % n)) (hl : ¬ 1 < low) (ha : a ≠ 0) (h : InvE a n lm low hm high) : r = invF a n := by
  obtain ⟨f, hf, e⟩ := h
  unfold Is at hr
  subst hr
  unfold invF
  rw [if_neg ha, ← e]
  cases f with
  | zero => rfl
  | succ f => simp only [invLoop, if_neg hl]
theorem inv_start {a n r : Int} (ha0 : 0 ≤ a) (ha : a < n) (hn : n < 128) (hr : Is r (a % n)) : InvP a n 1 r 0 n := by
  unfold Is at hr
  subst hr
  have b0 := Int.emod_nonneg a (show n ≠ 0 by omega)
  have b1 := Int.emod_lt_of_pos a (show 0 < n by omega)
  exact ⟨b0, b1, hn, 128, by omega, rfl⟩
/-- from_jacobian, jacobian_multiply (by fuel), multiply, as functions -/
def frm (P : Int) (p : Pt) : Int × Int := (p.1 * invF p.2.2 P ^ 2 % P, p.2.1 * invF p.2.2 P ^ 3 % P)
def jm (P A : Int) (a : Pt) : Nat → Int → Pt
  | 0, _ => (0, 0, 1)
  | k + 1, n => if a.2.1 = 0 ∨ n = 0 then (0, 0, 1) else if n = 1 then a else if n % 2 = 0 then dbl P A (jm P A a k (n / 2)) else jadd P A (dbl P A (jm P A a k (n / 2))) a
def mulF (P A : Int) (g : Int × Int) (n : Int) : Int × Int := frm P (jm P A (g.1, g.2, 1) 7 n)
theorem frm_eq {P x y z i i2 i3 u v : Int} (e : i = invF z P) (a1 : Is i2 (i ^ Int.toNat 2)) (b1 : Is u (x * i2 % P)) (a2 : Is i3 (i ^ Int.toNat 3)) (b2 : Is v (y * i3 % P)) : (u, v) = frm P (x, y, z) := by
  unfold Is at *
  subst e
  subst a1 a2
  subst b1 b2
  rfl
theorem jm_stop {P A n : Int} {a : Pt} {k : Nat} (h : a.2.1 = 0 ∨ n = 0) : (0, 0, 1) = jm P A a (k + 1) n := by
  unfold jm
  rw [if_pos h]
theorem jm_one {P A n : Int} {a : Pt} {k : Nat} (h : a.2.1 ≠ 0) (h1 : n = 1) : a = jm P A a (k + 1) n := by
  unfold jm
  rw [if_neg (by omega), if_pos h1]
theorem jm_even {P A n q : Int} {a p1 p2 : Pt} {k : Nat} (h : a.2.1 ≠ 0) (hq : q = n / 2) (e1 : p1 = jm P A a k q) (e2 : p2 = dbl P A p1) (h0 : n ≠ 0) (h1 : n ≠ 1) (hm : n % 2 = 0) : p2 = jm P A a (k + 1) n := by
  subst hq e1 e2
  rw [jm, if_neg (by omega), if_neg h1, if_pos hm]
theorem jm_odd {P A n q : Int} {a p1 p2 p3 : Pt} {k : Nat} (h : a.2.1 ≠ 0) (hq : q = n / 2) (e1 : p1 = jm P A a k q) (e2 : p2 = dbl P A p1) (e3 : p3 = jadd P A p2 a) (h0 : n ≠ 0) (h1 : n ≠ 1) (hm : n % 2 ≠ 0) : p3 = jm P A a (k + 1) n := by
  subst hq e1 e2 e3
  rw [jm, if_neg (by omega), if_neg h1, if_neg hm]
theorem mul_eq {P A x y n x' y' z' : Int} {q : Pt} {r : Int × Int} (ef : r = frm P q) (ej : q = jm P A (x', y', z') 7 n) (e1 : x' = x) (e2 : y' = y) (e3 : z' = 1) : r = mulF P A (x, y) n := by
  subst ef ej e1 e2 e3
  rfl
theorem news_tail {h₀ h : Heap} {L : Addr} {news : List (Addr × Obj)} {q : Addr × Obj} (N : News h₀ L h (q :: news)) : News h₀ L h news := fun p hp => N p (.tail _ hp)
theorem off_of {I : Addr} {news : List (Addr × Obj)} (h : ∀ p ∈ news, p.1 < I) : ∀ p ∈ news, p.1 ≠ I := fun p hp => Nat.ne_of_lt (h p hp)
local macro_rules | `(tactic| walk_at "pyIter ref") => `(tactic| k_extra "pyIter ref")
local macro_rules | `(tactic| walk_at "CompSrc") => `(tactic| k_extra "CompSrc")
local macro_rules | `(tactic| walk_at "CompEnd") => `(tactic| k_extra "CompEnd")
local macro_rules | `(tactic| walk_at "InvEndN") => `(tactic| k_extra "InvEndN")
local macro_rules | `(tactic| walk_at "exec Assign cons ListComp") => `(tactic| k_extra "exec Assign cons ListComp")
local macro_rules | `(tactic| walk_at "call ref") => `(tactic| k_extra "call ref")
local macro_rules | `(tactic| walk_at "mine mem") => `(tactic| first | (with_reducible refine mem_head_of ?_; exact rfl) | with_reducible assumption | exact List.mem_append_left _ (by with_reducible assumption) | (with_reducible refine List.mem_cons_of_mem _ ?_; walk_at "mine mem"))
local macro_rules | `(tactic| k_mem) => `(tactic| walk_at "mine mem")
local macro_rules | `(tactic| walk_at "binaryOp Mod int int") => `(tactic| first | ((with_reducible refine mod_lit ?_ ?_); decide; intro _ _) | (with_reducible refine mod_pos1 (by assumption) ?_; intro _ _ _ _) | (with_reducible refine mod_pos ?_ ?_; omega; intro _ _ _ _))
local macro_rules | `(tactic| walk_at "binaryOp FloorDiv int int") => `(tactic| first | ((with_reducible refine div_lit ?_ ?_ ?_); decide; decide; intro _ _) | (with_reducible refine div_pos ?_ ?_ ?_ ?_; omega; omega; omega; intro _ _ _ _))
local macro_rules | `(tactic| walk_at "binaryOp LShift int int") => `(tactic| (with_reducible refine shl_8 ?_ ?_ ?_; omega; omega; intro _ _))
local macro_rules | `(tactic| walk_at "binaryOp Pow int int") => `(tactic| first | (with_reducible refine pow_bd (by decide) (by decide) (by assumption) (by assumption) (by assumption) ?_; intro _ _) | (with_reducible refine pow_small ?_ ?_ ?_ ?_ ?_; omega; omega; omega; omega; intro _ _))
local macro_rules | `(tactic| walk_at "binaryOp Mult int int") => `(tactic| first | with_reducible refine mul_bd (by assumption) (by assumption) (by assumption) ?_ | with_reducible refine mul_bdr (by assumption) (by assumption) (by assumption) ?_ | (with_reducible refine mul_left ?_ ?_ ?_; omega; omega) | (with_reducible refine mul_right ?_ ?_ ?_; omega; omega))
local macro_rules | `(tactic| walk_at "my step") => `(tactic| first | (k_unfold; (try dsimp only)) | (k_end; kc_close) | walk1 | (dsimp only; walk1) | (leave1; try dsimp only))
set_option maxHeartbeats 2000000 in
theorem c_toj (w : World) (mean : ExcName → Option Value) (mg mb : Str → Option Value) (news : List (Addr × Obj)) {pD : Addr} {x y : Int} {t1 t2 : Tok} {c : Nat}
    (hp : (pD, tupO [.int x t1, .int y t2] c) ∈ news) :
    Says w mean mg mb 42 1 news [.ref pD] (RetT3 news (fun p => p.1 = x ∧ p.2.1 = y ∧ p.2.2 = 1)) := by
  w_top off
  unfold Says
  k_with_none
  k_fill
  intro dp un gd cn cs a' ccd cl outer A₀ base h₀ L m s Q E B' F' X' N' T' hk hd' hu hret
  refine wpAny_call ?_
  k_dflt (refine' code_def (binds := [(Str.ofString "p", .ref pD)]) ?k1 ?k2 ?k3 ?k4 ?k5 ?kA ?kF ?kK ?k6 ?k7 ?k8 ?k9 ?kB ?_ ?c2 ?c3 ?c4 ?c5; (case kA => exact rfl); (case kF => exact rfl); (case kK => assumption); (case k1 => k_asm); (case k2 => k_asm); (case k3 => k_asm); (case k4 => k_asm); (case k5 => k_asm); (case k6 => k_is); (case k7 => k_is); (case k8 => ktr_room); (case k9 => exact BindsTo.of_eq (by kernel_rfl)); (case c5 => decide); (case kB => exact locs rfl); (case c2 => exact rfl); (case c3 => exact rfl); (case c4 => exact rfl); k_whole; intro g' L' h' FG' F' N' B' X' T'; (try dsimp only); (try k_fold))
  k_steps
  exact hret _ _ _ _ _ _ _ _ _ _ ⟨rfl, rfl, rfl⟩ (by assumption) (by assumption)
set_option maxHeartbeats 2000000 in
theorem c_dbl (w : World) (mean : ExcName → Option Value) (mg mb : Str → Option Value) (news : List (Addr × Obj)) {pD : Addr} {x y z : Int} {t1 t2 t3 : Tok} {c : Nat} {P N A B Gx Gy : Int} {u1 u2 u3 u4 u5 u6 : Tok} {cD : Addr} {c' : Nat}
    (hp : (pD, tupO [.int x t1, .int y t2, .int z t3] c) ∈ news) (hc : (cD, tupO [.int P u1, .int N u2, .int A u3, .int B u4, .int Gx u5, .int Gy u6] c') ∈ news)
    (hP0 : 1 < P) (hP : P < 128) (hA0 : 0 ≤ A) (hA : A < 128) (hx0 : 0 ≤ x) (hx : x < P) (hy0 : 0 ≤ y) (hy : y < P) (hz0 : 0 ≤ z) (hz : z < P) :
    Says w mean mg mb 49 1 news [.ref pD, .ref cD] (RetT3 news (fun p => p = dbl P A (x, y, z) ∧ In0 P p.1 ∧ In0 P p.2.1 ∧ In0 P p.2.2)) := by
  w_top off
  unfold Says
  k_with_none
  k_fill
  intro dp un gd cn cs a' ccd cl outer A₀ base h₀ L m s Q E B' F' X' N' T' hk hd' hu hret
  refine wpAny_call ?_
  k_dflt (refine' code_def (binds := [(Str.ofString "p", .ref pD), (Str.ofString "curve", .ref cD)]) ?k1 ?k2 ?k3 ?k4 ?k5 ?kA ?kF ?kK ?k6 ?k7 ?k8 ?k9 ?kB ?_ ?c2 ?c3 ?c4 ?c5; (case kA => exact rfl); (case kF => exact rfl); (case kK => assumption); (case k1 => k_asm); (case k2 => k_asm); (case k3 => k_asm); (case k4 => k_asm); (case k5 => k_asm); (case k6 => k_is); (case k7 => k_is); (case k8 => ktr_room); (case k9 => exact BindsTo.of_eq (by kernel_rfl)); (case c5 => decide); (case kB => exact locs rfl); (case c2 => exact rfl); (case c3 => exact rfl); (case c4 => exact rfl); k_whole; intro g' L' h' FG' F' N' B' X' T'; (try dsimp only); (try k_fold))
  k_steps
  · refine hret _ _ _ _ _ _ _ _ _ _ ⟨?_, ⟨?_, ?_⟩, ⟨?_, ?_⟩, ⟨?_, ?_⟩⟩ (by assumption) (by assumption)
    all_goals first | assumption | skip
    simp only [Is] at *
    subst_vars
    unfold dbl
    rw [if_neg (by assumption)]
    rfl
  · refine hret _ _ _ _ _ _ _ _ _ _ ⟨?_, ⟨?_, ?_⟩, ⟨?_, ?_⟩, ⟨?_, ?_⟩⟩ (by assumption) (by assumption)
    all_goals (try dsimp only)
    all_goals first | assumption | omega | skip
    unfold dbl
    rw [if_pos (by assumption)]
set_option maxHeartbeats 2000000 in
theorem c_inv (w : World) (mean : ExcName → Option Value) (mg mb : Str → Option Value) (news : List (Addr × Obj)) {a n : Int} {t1 t2 : Tok}
    (ha0 : 0 ≤ a) (ha : a < n) (hn0 : 1 < n) (hn : n < 128) :
    Says w mean mg mb 35 1 news [.int a t1, .int n t2] (RetI news (fun r => r = invF a n ∧ 0 ≤ r ∧ r < n)) := by
  w_top off
  unfold Says
  k_with_none
  k_fill
  intro dp un gd cn cs a' ccd cl outer A₀ base h₀ L m s Q E B' F' X' N' T' hk hd' hu hret
  (k_with "exec While Compare cons nil" => k_while (fun (_ : List Int) (lm low hm high : Int) => InvP a n lm low hm high) (fun (_ : List Int) (_ low _ _ : Int) => low.toNat) "lm" "low" "hm" "high")
  (k_with "state" => first | exact inv_start (by assumption) (by assumption) (by assumption) (by assumption) | exact inv_turn (by assumption) (by assumption) (by assumption) (by assumption) (by assumption))
  (k_with "measure" => exact inv_meas (by assumption) (by assumption))
  refine wpAny_call ?_
  k_dflt (refine' code_def (binds := [(Str.ofString "a", .int a t1), (Str.ofString "n", .int n t2)]) ?k1 ?k2 ?k3 ?k4 ?k5 ?kA ?kF ?kK ?k6 ?k7 ?k8 ?k9 ?kB ?_ ?c2 ?c3 ?c4 ?c5; (case kA => exact rfl); (case kF => exact rfl); (case kK => assumption); (case k1 => k_asm); (case k2 => k_asm); (case k3 => k_asm); (case k4 => k_asm); (case k5 => k_asm); (case k6 => k_is); (case k7 => k_is); (case k8 => ktr_room); (case k9 => exact BindsTo.of_eq (by kernel_rfl)); (case c5 => decide); (case kB => exact locs rfl); (case c2 => exact rfl); (case c3 => exact rfl); (case c4 => exact rfl); k_whole; intro g' L' h' FG' F' N' B' X' T'; (try dsimp only); (try k_fold))
  k_steps
  · rename a = 0 => hz
    subst hz
    exact hret _ _ _ _ ⟨by simp [invF], by omega, by omega⟩ (by assumption) (by assumption)
  · exact hret _ _ _ _ ⟨inv_done (by assumption) (by assumption) (by assumption) (by assumption), by assumption, by assumption⟩ (by assumption) (fun p hp => (by assumption : News h₀ L _ _) p (.tail _ (.tail _ hp)))
set_option maxHeartbeats 2000000 in
theorem c_add (w : World) (mean : ExcName → Option Value) (mg mb : Str → Option Value) (news : List (Addr × Obj)) {pD qD : Addr} {x y z x' y' z' : Int} {t1 t2 t3 t4 t5 t6 : Tok} {c d : Nat} {P N A B Gx Gy : Int} {u1 u2 u3 u4 u5 u6 : Tok} {cD : Addr} {c' : Nat}
    (hp : (pD, tupO [.int x t1, .int y t2, .int z t3] c) ∈ news) (hq : (qD, tupO [.int x' t4, .int y' t5, .int z' t6] d) ∈ news) (hc : (cD, tupO [.int P u1, .int N u2, .int A u3, .int B u4, .int Gx u5, .int Gy u6] c') ∈ news)
    (hP0 : 1 < P) (hP : P < 128) (hA0 : 0 ≤ A) (hA : A < 128) (hx0 : 0 ≤ x) (hx : x < P) (hy0 : 0 ≤ y) (hy : y < P) (hz0 : 0 ≤ z) (hz : z < P) (hx0' : 0 ≤ x') (hx' : x' < P) (hy0' : 0 ≤ y') (hy' : y' < P) (hz0' : 0 ≤ z') (hz' : z' < P) :
    Says w mean mg mb 56 2 news [.ref pD, .ref qD, .ref cD] (RetT3 news (fun p => p = jadd P A (x, y, z) (x', y', z') ∧ In0 P p.1 ∧ In0 P p.2.1 ∧ In0 P p.2.2)) := by
  w_top off
  unfold Says
  k_with_none
  (k_with "call ref" => (k_here; k_dflt (refine' Says.useT3 (c_dbl _ _ _ _ _ ?zp0 ?zp1 ?zp2 ?zp3 ?zp4 ?zp5 ?zp6 ?zp7 ?zp8 ?zp9 ?zp10 ?zp11) ?zk1 ?zk2 ?zk3 ?zk4 ?zk5 ?zkK ?zkd ?zku ?_; (case zk1 => k_asm); (case zk2 => k_asm); (case zk3 => k_asm); (case zk4 => k_asm); (case zk5 => k_asm); (case zkK => first | exact rfl | assumption); (case zp0 => walk_at "mine mem"); (case zp1 => walk_at "mine mem"); (case zp2 => first | with_reducible assumption | omega); (case zp3 => first | with_reducible assumption | omega); (case zp4 => first | with_reducible assumption | omega); (case zp5 => first | with_reducible assumption | omega); (case zp6 => first | with_reducible assumption | omega); (case zp7 => first | with_reducible assumption | omega); (case zp8 => first | with_reducible assumption | omega); (case zp9 => first | with_reducible assumption | omega); (case zp10 => first | with_reducible assumption | omega); (case zp11 => first | with_reducible assumption | omega); (case zkd => ktr_room); (case zku => ktr_units); intro r9 x9 y9 z9 t9 u9 v9 c9 h9 tk9 P9 F9 N9; (try simp only [In0] at P9); obtain ⟨_, ⟨_, _⟩, ⟨_, _⟩, _, _⟩ := P9; (try k_sweep); (try dsimp only); (try k_fold))))
  k_fill
  intro dp un gd cn cs a' ccd cl outer A₀ base h₀ L m s Q E B' F' X' N' T' hk hd' hu hret
  refine wpAny_call ?_
  k_dflt (refine' code_def (binds := [(Str.ofString "p", .ref pD), (Str.ofString "q", .ref qD), (Str.ofString "curve", .ref cD)]) ?k1 ?k2 ?k3 ?k4 ?k5 ?kA ?kF ?kK ?k6 ?k7 ?k8 ?k9 ?kB ?_ ?c2 ?c3 ?c4 ?c5; (case kA => exact rfl); (case kF => exact rfl); (case kK => assumption); (case k1 => k_asm); (case k2 => k_asm); (case k3 => k_asm); (case k4 => k_asm); (case k5 => k_asm); (case k6 => k_is); (case k7 => k_is); (case k8 => ktr_room); (case k9 => exact BindsTo.of_eq (by kernel_rfl)); (case c5 => decide); (case kB => exact locs rfl); (case c2 => exact rfl); (case c3 => exact rfl); (case c4 => exact rfl); k_whole; intro g' L' h' FG' F' N' B' X' T'; (try dsimp only); (try k_fold))
  k_steps
  · refine hret _ _ _ _ _ _ _ _ _ _ ⟨jadd_inf (by assumption) (by assumption) (by assumption) (by assumption) (by assumption) (by assumption) (by assumption) (by assumption) (by assumption) (by assumption) (by assumption) (by assumption), ⟨?_, ?_⟩, ⟨?_, ?_⟩, ⟨?_, ?_⟩⟩ (by assumption) (by assumption) <;> first | assumption | (dsimp only; omega)
  · rename _ = dbl P A (x, y, z) => e9
    refine hret _ _ _ _ _ _ _ _ _ _ ⟨e9.trans (jadd_dbl (by assumption) (by assumption) (by assumption) (by assumption) (by assumption) (by assumption) (by assumption) (by assumption) (by assumption) (by assumption) (by assumption) (by assumption)), ⟨?_, ?_⟩, ⟨?_, ?_⟩, ⟨?_, ?_⟩⟩ (by assumption) (by assumption) <;> first | assumption | (dsimp only; omega)
  · refine hret _ _ _ _ _ _ _ _ _ _ ⟨jadd_gen (by assumption) (by assumption) (by assumption) (by assumption) (by assumption) (by assumption) (by assumption) (by assumption) (by assumption) (by assumption) (by assumption) (by assumption) (by assumption) (by assumption) (by assumption) (by assumption) (by assumption) (by assumption), ⟨?_, ?_⟩, ⟨?_, ?_⟩, ⟨?_, ?_⟩⟩ (by assumption) (by assumption) <;> first | assumption | (dsimp only; omega)
  · refine hret pD x y z t1 t2 t3 c _ _ ⟨?_, ⟨?_, ?_⟩, ⟨?_, ?_⟩, ⟨?_, ?_⟩⟩ (by assumption) (news_again (by assumption) hp) <;> first | assumption | skip
    unfold jadd
    rw [if_neg (by assumption), if_pos (by assumption)]
  · refine hret qD x' y' z' t4 t5 t6 d _ _ ⟨?_, ⟨?_, ?_⟩, ⟨?_, ?_⟩, ⟨?_, ?_⟩⟩ (by assumption) (news_again (by assumption) hq) <;> first | assumption | skip
    unfold jadd
    rw [if_pos (by assumption)]
set_option maxHeartbeats 2000000 in
theorem c_frm (w : World) (mean : ExcName → Option Value) (mg mb : Str → Option Value) (news : List (Addr × Obj)) {pD : Addr} {x y z : Int} {t1 t2 t3 : Tok} {c : Nat} {P N A B Gx Gy : Int} {u1 u2 u3 u4 u5 u6 : Tok} {cD : Addr} {c' : Nat}
    (hp : (pD, tupO [.int x t1, .int y t2, .int z t3] c) ∈ news) (hc : (cD, tupO [.int P u1, .int N u2, .int A u3, .int B u4, .int Gx u5, .int Gy u6] c') ∈ news)
    (hP0 : 1 < P) (hP : P < 128) (hA0 : 0 ≤ A) (hA : A < 128) (hx0 : 0 ≤ x) (hx : x < P) (hy0 : 0 ≤ y) (hy : y < P) (hz0 : 0 ≤ z) (hz : z < P) :
    Says w mean mg mb 63 2 news [.ref pD, .ref cD] (RetT2 news (fun p => p = frm P (x, y, z) ∧ In0 P p.1 ∧ In0 P p.2)) := by
  w_top off
  unfold Says
  k_with_none
  (k_with "call ref" => (k_here; k_dflt (refine' Says.useI (c_inv _ _ _ _ _ ?zp0 ?zp1 ?zp2 ?zp3) ?zk1 ?zk2 ?zk3 ?zk4 ?zk5 ?zkK ?zkd ?zku ?_; (case zk1 => k_asm); (case zk2 => k_asm); (case zk3 => k_asm); (case zk4 => k_asm); (case zk5 => k_asm); (case zkK => first | exact rfl | assumption); (case zp0 => first | with_reducible assumption | omega); (case zp1 => first | with_reducible assumption | omega); (case zp2 => first | with_reducible assumption | omega); (case zp3 => first | with_reducible assumption | omega); (case zkd => ktr_room); (case zku => ktr_units); intro y9 t9 h9 tk9 P9 F9 N9; (try simp only [In0] at P9); obtain ⟨_, _, _⟩ := P9; (try k_sweep); (try dsimp only); (try k_fold))))
  k_fill
  intro dp un gd cn cs a' ccd cl outer A₀ base h₀ L m s Q E B' F' X' N' T' hk hd' hu hret
  refine wpAny_call ?_
  k_dflt (refine' code_def (binds := [(Str.ofString "p", .ref pD), (Str.ofString "curve", .ref cD)]) ?k1 ?k2 ?k3 ?k4 ?k5 ?kA ?kF ?kK ?k6 ?k7 ?k8 ?k9 ?kB ?_ ?c2 ?c3 ?c4 ?c5; (case kA => exact rfl); (case kF => exact rfl); (case kK => assumption); (case k1 => k_asm); (case k2 => k_asm); (case k3 => k_asm); (case k4 => k_asm); (case k5 => k_asm); (case k6 => k_is); (case k7 => k_is); (case k8 => ktr_room); (case k9 => exact BindsTo.of_eq (by kernel_rfl)); (case c5 => decide); (case kB => exact locs rfl); (case c2 => exact rfl); (case c3 => exact rfl); (case c4 => exact rfl); k_whole; intro g' L' h' FG' F' N' B' X' T'; (try dsimp only); (try k_fold))
  k_steps
  refine hret _ _ _ _ _ _ _ _ ⟨frm_eq (by assumption) (by assumption) (by assumption) (by assumption) (by assumption), ⟨?_, ?_⟩, ⟨?_, ?_⟩⟩ (by assumption) (by assumption) <;> first | assumption | (dsimp only; omega)
set_option maxHeartbeats 2000000 in
theorem c_jmul (w : World) (mean : ExcName → Option Value) (mg mb : Str → Option Value) {aD : Addr} {x y z : Int} {t1 t2 t3 : Tok} {c : Nat} {P N A B Gx Gy : Int} {u1 u2 u3 u4 u5 u6 : Tok} {cD : Addr} {c' : Nat}
    (hP0 : 1 < P) (hP : P < 128) (hA0 : 0 ≤ A) (hA : A < 128) (hx0 : 0 ≤ x) (hx : x < P) (hy0 : 0 ≤ y) (hy : y < P) (hz0 : 0 ≤ z) (hz : z < P) : ∀ (k : Nat) (n : Int) (tn : Tok) (news : List (Addr × Obj)),
    ((aD, tupO [.int x t1, .int y t2, .int z t3] c) ∈ news) → ((cD, tupO [.int P u1, .int N u2, .int A u3, .int B u4, .int Gx u5, .int Gy u6] c') ∈ news) → 0 ≤ n → n < N → n < 2 ^ k →
    Says w mean mg mb 70 (k + 3) news [.ref aD, .int n tn, .ref cD] (RetT3 news (fun p => p = jm P A (x, y, z) k n ∧ In0 P p.1 ∧ In0 P p.2.1 ∧ In0 P p.2.2)) := by
  intro k
  induction k with
  | zero =>
    intro n tn news hp hc hn0 hnN hnK
    have hn : n = 0 := by omega
    subst hn
    w_top off
    unfold Says
    k_with_none
    (k_with "call ref" => (k_here; k_dflt (refine' Says.useT3 (c_dbl _ _ _ _ _ ?zp0 ?zp1 ?zp2 ?zp3 ?zp4 ?zp5 ?zp6 ?zp7 ?zp8 ?zp9 ?zp10 ?zp11) ?zk1 ?zk2 ?zk3 ?zk4 ?zk5 ?zkK ?zkd ?zku ?_; (case zk1 => k_asm); (case zk2 => k_asm); (case zk3 => k_asm); (case zk4 => k_asm); (case zk5 => k_asm); (case zkK => first | exact rfl | assumption); (case zp0 => walk_at "mine mem"); (case zp1 => walk_at "mine mem"); (case zp2 => first | with_reducible assumption | omega); (case zp3 => first | with_reducible assumption | omega); (case zp4 => first | with_reducible assumption | omega); (case zp5 => first | with_reducible assumption | omega); (case zp6 => first | with_reducible assumption | omega); (case zp7 => first | with_reducible assumption | omega); (case zp8 => first | with_reducible assumption | omega); (case zp9 => first | with_reducible assumption | omega); (case zp10 => first | with_reducible assumption | omega); (case zp11 => first | with_reducible assumption | omega); (case zkd => ktr_room); (case zku => ktr_units); intro r9 x9 y9 z9 t9 u9 v9 c9 h9 tk9 P9 F9 N9; (try simp only [In0] at P9); obtain ⟨_, ⟨_, _⟩, ⟨_, _⟩, _, _⟩ := P9; (try k_sweep); (try dsimp only); (try k_fold))))
    (k_with "call ref" => (k_here; k_dflt (refine' Says.useT3 (c_add _ _ _ _ _ ?zp0 ?zp1 ?zp2 ?zp3 ?zp4 ?zp5 ?zp6 ?zp7 ?zp8 ?zp9 ?zp10 ?zp11 ?zp12 ?zp13 ?zp14 ?zp15 ?zp16 ?zp17 ?zp18) ?zk1 ?zk2 ?zk3 ?zk4 ?zk5 ?zkK ?zkd ?zku ?_; (case zk1 => k_asm); (case zk2 => k_asm); (case zk3 => k_asm); (case zk4 => k_asm); (case zk5 => k_asm); (case zkK => first | exact rfl | assumption); (case zp0 => walk_at "mine mem"); (case zp1 => walk_at "mine mem"); (case zp2 => walk_at "mine mem"); (case zp3 => first | with_reducible assumption | omega); (case zp4 => first | with_reducible assumption | omega); (case zp5 => first | with_reducible assumption | omega); (case zp6 => first | with_reducible assumption | omega); (case zp7 => first | with_reducible assumption | omega); (case zp8 => first | with_reducible assumption | omega); (case zp9 => first | with_reducible assumption | omega); (case zp10 => first | with_reducible assumption | omega); (case zp11 => first | with_reducible assumption | omega); (case zp12 => first | with_reducible assumption | omega); (case zp13 => first | with_reducible assumption | omega); (case zp14 => first | with_reducible assumption | omega); (case zp15 => first | with_reducible assumption | omega); (case zp16 => first | with_reducible assumption | omega); (case zp17 => first | with_reducible assumption | omega); (case zp18 => first | with_reducible assumption | omega); (case zkd => ktr_room); (case zku => ktr_units); intro r9 x9 y9 z9 t9 u9 v9 c9 h9 tk9 P9 F9 N9; (try simp only [In0] at P9); obtain ⟨_, ⟨_, _⟩, ⟨_, _⟩, _, _⟩ := P9; (try k_sweep); (try dsimp only); (try k_fold))))
    k_fill
    intro dp un gd cn cs a' ccd cl outer A₀ base h₀ L m s Q E B' F' X' N' T' hk hd' hu hret
    refine wpAny_call ?_
    k_dflt (refine' code_def (binds := [(Str.ofString "a", .ref aD), (Str.ofString "n", .int 0 tn), (Str.ofString "curve", .ref cD)]) ?k1 ?k2 ?k3 ?k4 ?k5 ?kA ?kF ?kK ?k6 ?k7 ?k8 ?k9 ?kB ?_ ?c2 ?c3 ?c4 ?c5; (case kA => exact rfl); (case kF => exact rfl); (case kK => assumption); (case k1 => k_asm); (case k2 => k_asm); (case k3 => k_asm); (case k4 => k_asm); (case k5 => k_asm); (case k6 => k_is); (case k7 => k_is); (case k8 => ktr_room); (case k9 => exact BindsTo.of_eq (by kernel_rfl)); (case c5 => decide); (case kB => exact locs rfl); (case c2 => exact rfl); (case c3 => exact rfl); (case c4 => exact rfl); k_whole; intro g' L' h' FG' F' N' B' X' T'; (try dsimp only); (try k_fold))
    k_steps
    all_goals (refine hret _ _ _ _ _ _ _ _ _ _ ⟨rfl, ⟨?_, ?_⟩, ⟨?_, ?_⟩, ⟨?_, ?_⟩⟩ (by assumption) (by assumption) <;> (dsimp only; omega))
  | succ k IH =>
    intro n tn news hp hc hn0 hnN hnK
    have hnK : n < 2 * 2 ^ k := by rw [Int.pow_succ] at hnK; omega
    w_top off
    unfold Says
    k_with_none
    (k_with "call ref" => (k_here; k_dflt (refine' Says.useT3 (c_dbl _ _ _ _ _ ?zp0 ?zp1 ?zp2 ?zp3 ?zp4 ?zp5 ?zp6 ?zp7 ?zp8 ?zp9 ?zp10 ?zp11) ?zk1 ?zk2 ?zk3 ?zk4 ?zk5 ?zkK ?zkd ?zku ?_; (case zk1 => k_asm); (case zk2 => k_asm); (case zk3 => k_asm); (case zk4 => k_asm); (case zk5 => k_asm); (case zkK => first | exact rfl | assumption); (case zp0 => walk_at "mine mem"); (case zp1 => walk_at "mine mem"); (case zp2 => first | with_reducible assumption | omega); (case zp3 => first | with_reducible assumption | omega); (case zp4 => first | with_reducible assumption | omega); (case zp5 => first | with_reducible assumption | omega); (case zp6 => first | with_reducible assumption | omega); (case zp7 => first | with_reducible assumption | omega); (case zp8 => first | with_reducible assumption | omega); (case zp9 => first | with_reducible assumption | omega); (case zp10 => first | with_reducible assumption | omega); (case zp11 => first | with_reducible assumption | omega); (case zkd => ktr_room); (case zku => ktr_units); intro r9 x9 y9 z9 t9 u9 v9 c9 h9 tk9 P9 F9 N9; (try simp only [In0] at P9); obtain ⟨_, ⟨_, _⟩, ⟨_, _⟩, _, _⟩ := P9; (try k_sweep); (try dsimp only); (try k_fold))))
    (k_with "call ref" => (k_here; k_dflt (refine' Says.useT3 (c_add _ _ _ _ _ ?zp0 ?zp1 ?zp2 ?zp3 ?zp4 ?zp5 ?zp6 ?zp7 ?zp8 ?zp9 ?zp10 ?zp11 ?zp12 ?zp13 ?zp14 ?zp15 ?zp16 ?zp17 ?zp18) ?zk1 ?zk2 ?zk3 ?zk4 ?zk5 ?zkK ?zkd ?zku ?_; (case zk1 => k_asm); (case zk2 => k_asm); (case zk3 => k_asm); (case zk4 => k_asm); (case zk5 => k_asm); (case zkK => first | exact rfl | assumption); (case zp0 => walk_at "mine mem"); (case zp1 => walk_at "mine mem"); (case zp2 => walk_at "mine mem"); (case zp3 => first | with_reducible assumption | omega); (case zp4 => first | with_reducible assumption | omega); (case zp5 => first | with_reducible assumption | omega); (case zp6 => first | with_reducible assumption | omega); (case zp7 => first | with_reducible assumption | omega); (case zp8 => first | with_reducible assumption | omega); (case zp9 => first | with_reducible assumption | omega); (case zp10 => first | with_reducible assumption | omega); (case zp11 => first | with_reducible assumption | omega); (case zp12 => first | with_reducible assumption | omega); (case zp13 => first | with_reducible assumption | omega); (case zp14 => first | with_reducible assumption | omega); (case zp15 => first | with_reducible assumption | omega); (case zp16 => first | with_reducible assumption | omega); (case zp17 => first | with_reducible assumption | omega); (case zp18 => first | with_reducible assumption | omega); (case zkd => ktr_room); (case zku => ktr_units); intro r9 x9 y9 z9 t9 u9 v9 c9 h9 tk9 P9 F9 N9; (try simp only [In0] at P9); obtain ⟨_, ⟨_, _⟩, ⟨_, _⟩, _, _⟩ := P9; (try k_sweep); (try dsimp only); (try k_fold))))
    k_fill
    intro dp un gd cn cs a' ccd cl outer A₀ base h₀ L m s Q E B' F' X' N' T' hk hd' hu hret
    (k_with "call ref" => (k_here; k_dflt (refine' Says.useT3 (IH _ _ _ ?p0 ?p1 ?p2 ?p3 ?p4) ?k1 ?k2 ?k3 ?k4 ?k5 ?kK ?kd ?ku ?_; (case k1 => k_asm); (case k2 => k_asm); (case k3 => k_asm); (case k4 => k_asm); (case k5 => k_asm); (case kK => first | exact rfl | assumption); (case p0 => k_mem); (case p1 => k_mem); (case p2 => omega); (case p3 => omega); (case p4 => omega); (case kd => ktr_room); (case ku => ktr_units); intro r9 x9 y9 z9 t9 u9 v9 c9 h9 tk9 P9 F9 N9; (try simp only [In0] at P9); obtain ⟨_, ⟨_, _⟩, ⟨_, _⟩, _, _⟩ := P9; (try k_sweep); (try dsimp only); (try k_fold))))
    refine wpAny_call ?_
    k_dflt (refine' code_def (binds := [(Str.ofString "a", .ref aD), (Str.ofString "n", .int n tn), (Str.ofString "curve", .ref cD)]) ?k1 ?k2 ?k3 ?k4 ?k5 ?kA ?kF ?kK ?k6 ?k7 ?k8 ?k9 ?kB ?_ ?c2 ?c3 ?c4 ?c5; (case kA => exact rfl); (case kF => exact rfl); (case kK => assumption); (case k1 => k_asm); (case k2 => k_asm); (case k3 => k_asm); (case k4 => k_asm); (case k5 => k_asm); (case k6 => k_is); (case k7 => k_is); (case k8 => ktr_room); (case k9 => exact BindsTo.of_eq (by kernel_rfl)); (case c5 => decide); (case kB => exact locs rfl); (case c2 => exact rfl); (case c3 => exact rfl); (case c4 => exact rfl); k_whole; intro g' L' h' FG' F' N' B' X' T'; (try dsimp only); (try k_fold))
    k_steps
    · refine hret _ _ _ _ _ _ _ _ _ _ ⟨jm_stop (Or.inl (by assumption)), ⟨?_, ?_⟩, ⟨?_, ?_⟩, ⟨?_, ?_⟩⟩ (by assumption) (by assumption) <;> (dsimp only; omega)
    · refine hret _ _ _ _ _ _ _ _ _ _ ⟨jm_stop (Or.inr (by assumption)), ⟨?_, ?_⟩, ⟨?_, ?_⟩, ⟨?_, ?_⟩⟩ (by assumption) (by assumption) <;> (dsimp only; omega)
    · refine hret aD x y z t1 t2 t3 c _ _ ⟨jm_one (by assumption) (by assumption), ⟨?_, ?_⟩, ⟨?_, ?_⟩, ⟨?_, ?_⟩⟩ (by assumption) (news_again (by assumption) hp) <;> (dsimp only; omega)
    · refine hret _ _ _ _ _ _ _ _ _ _ ⟨jm_even (a := (x, y, z)) (by assumption) (by assumption) (by assumption) (by assumption) (by assumption) (by assumption) (by omega), ⟨?_, ?_⟩, ⟨?_, ?_⟩, ⟨?_, ?_⟩⟩ (by assumption) (news_less (by assumption)) <;> (dsimp only; omega)
    · refine hret _ _ _ _ _ _ _ _ _ _ ⟨jm_odd (a := (x, y, z)) (by assumption) (by assumption) (by assumption) (by assumption) (by assumption) (by assumption) (by assumption) (by omega), ⟨?_, ?_⟩, ⟨?_, ?_⟩, ⟨?_, ?_⟩⟩ (by assumption) (news_less2 (by assumption)) <;> (dsimp only; omega)
    · exfalso
      omega
set_option maxHeartbeats 2000000 in
theorem c_mul (w : World) (mean : ExcName → Option Value) (mg mb : Str → Option Value) (news : List (Addr × Obj)) {aD : Addr} {x y n : Int} {t1 t2 tn : Tok} {c : Nat} {P N A B Gx Gy : Int} {u1 u2 u3 u4 u5 u6 : Tok} {cD : Addr} {c' : Nat}
    (hp : (aD, tupO [.int x t1, .int y t2] c) ∈ news) (hc : (cD, tupO [.int P u1, .int N u2, .int A u3, .int B u4, .int Gx u5, .int Gy u6] c') ∈ news)
    (hP0 : 1 < P) (hP : P < 128) (hA0 : 0 ≤ A) (hA : A < 128) (hN : N < 128) (hx0 : 0 ≤ x) (hx : x < P) (hy0 : 0 ≤ y) (hy : y < P) (hn0 : 0 ≤ n) (hn : n < N) :
    Says w mean mg mb 77 12 news [.ref aD, .int n tn, .ref cD] (RetT2 news (fun p => p = mulF P A (x, y) n ∧ In0 P p.1 ∧ In0 P p.2)) := by
  w_top off
  unfold Says
  k_with_none
  (k_with "call ref" => (k_here; k_dflt (refine' Says.useT3 (c_toj _ _ _ _ _ ?zp0) ?zk1 ?zk2 ?zk3 ?zk4 ?zk5 ?zkK ?zkd ?zku ?_; (case zk1 => k_asm); (case zk2 => k_asm); (case zk3 => k_asm); (case zk4 => k_asm); (case zk5 => k_asm); (case zkK => first | exact rfl | assumption); (case zp0 => walk_at "mine mem"); (case zkd => ktr_room); (case zku => ktr_units); intro r9 x9 y9 z9 t9 u9 v9 c9 h9 tk9 P9 F9 N9; (try dsimp only at P9); obtain ⟨_, _, _⟩ := P9; (try k_sweep); (try dsimp only); (try k_fold))))
  (k_with "call ref" => (k_here; k_dflt (refine' Says.useT3 (c_jmul _ _ _ _ ?zb0 ?zb1 ?zb2 ?zb3 ?zb4 ?zb5 ?zb6 ?zb7 ?zb8 ?zb9 7 _ _ _ ?zp0 ?zp1 ?zb10 ?zb11 ?zb12) ?zk1 ?zk2 ?zk3 ?zk4 ?zk5 ?zkK ?zkd ?zku ?_; (case zk1 => k_asm); (case zk2 => k_asm); (case zk3 => k_asm); (case zk4 => k_asm); (case zk5 => k_asm); (case zkK => first | exact rfl | assumption);  (case zp0 => k_mem); (case zp1 => k_mem); (case zb0 => first | with_reducible assumption | omega); (case zb1 => first | with_reducible assumption | omega); (case zb2 => first | with_reducible assumption | omega); (case zb3 => first | with_reducible assumption | omega); (case zb4 => first | with_reducible assumption | omega); (case zb5 => first | with_reducible assumption | omega); (case zb6 => first | with_reducible assumption | omega); (case zb7 => first | with_reducible assumption | omega); (case zb8 => first | with_reducible assumption | omega); (case zb9 => first | with_reducible assumption | omega); (case zb10 => first | with_reducible assumption | omega); (case zb11 => first | with_reducible assumption | omega); (case zb12 => first | with_reducible assumption | omega); (case zkd => ktr_room); (case zku => ktr_units); intro r9 x9 y9 z9 t9 u9 v9 c9 h9 tk9 P9 F9 N9; (try simp only [In0] at P9); obtain ⟨_, ⟨_, _⟩, ⟨_, _⟩, _, _⟩ := P9; (try k_sweep); (try dsimp only); (try k_fold))))
  (k_with "call ref" => (k_here; k_dflt (refine' Says.useT2 (c_frm _ _ _ _ _ ?zp0 ?zp1 ?zp2 ?zp3 ?zp4 ?zp5 ?zp6 ?zp7 ?zp8 ?zp9 ?zp10 ?zp11) ?zk1 ?zk2 ?zk3 ?zk4 ?zk5 ?zkK ?zkd ?zku ?_; (case zk1 => k_asm); (case zk2 => k_asm); (case zk3 => k_asm); (case zk4 => k_asm); (case zk5 => k_asm); (case zkK => first | exact rfl | assumption); (case zp0 => walk_at "mine mem"); (case zp1 => walk_at "mine mem"); (case zp2 => first | with_reducible assumption | omega); (case zp3 => first | with_reducible assumption | omega); (case zp4 => first | with_reducible assumption | omega); (case zp5 => first | with_reducible assumption | omega); (case zp6 => first | with_reducible assumption | omega); (case zp7 => first | with_reducible assumption | omega); (case zp8 => first | with_reducible assumption | omega); (case zp9 => first | with_reducible assumption | omega); (case zp10 => first | with_reducible assumption | omega); (case zp11 => first | with_reducible assumption | omega); (case zkd => ktr_room); (case zku => ktr_units); intro r9 x9 y9 t9 u9 c9 h9 tk9 P9 F9 N9; (try simp only [In0] at P9); obtain ⟨_, ⟨_, _⟩, _, _⟩ := P9; (try k_sweep); (try dsimp only); (try k_fold))))
  k_fill
  intro dp un gd cn cs a' ccd cl outer A₀ base h₀ L m s Q E B' F' X' N' T' hk hd' hu hret
  refine wpAny_call ?_
  k_dflt (refine' code_def (binds := [(Str.ofString "a", .ref aD), (Str.ofString "n", .int n tn), (Str.ofString "curve", .ref cD)]) ?k1 ?k2 ?k3 ?k4 ?k5 ?kA ?kF ?kK ?k6 ?k7 ?k8 ?k9 ?kB ?_ ?c2 ?c3 ?c4 ?c5; (case kA => exact rfl); (case kF => exact rfl); (case kK => assumption); (case k1 => k_asm); (case k2 => k_asm); (case k3 => k_asm); (case k4 => k_asm); (case k5 => k_asm); (case k6 => k_is); (case k7 => k_is); (case k8 => ktr_room); (case k9 => exact BindsTo.of_eq (by kernel_rfl)); (case c5 => decide); (case kB => exact locs rfl); (case c2 => exact rfl); (case c3 => exact rfl); (case c4 => exact rfl); k_whole; intro g' L' h' FG' F' N' B' X' T'; (try dsimp only); (try k_fold))
  k_steps
  refine hret _ _ _ _ _ _ _ _ ⟨mul_eq (by assumption) (by assumption) (by assumption) (by assumption) (by assumption), ⟨?_, ?_⟩, ⟨?_, ?_⟩⟩ (by assumption) (news_less2 (by assumption)) <;> first | assumption | (dsimp only; omega)
set_option maxHeartbeats 2000000 in
theorem c_sord (w : World) (mean : ExcName → Option Value) (mg mb : Str → Option Value) (news : List (Addr × Obj)) {v : Int} {t1 : Tok} :
    Says w mean mg mb 21 1 news [.int v t1] (RetI news (fun r => r = v)) := by
  w_top off
  unfold Says
  k_with_none
  k_fill
  intro dp un gd cn cs a' ccd cl outer A₀ base h₀ L m s Q E B' F' X' N' T' hk hd' hu hret
  refine wpAny_call ?_
  k_dflt (refine' code_def (binds := [(Str.ofString "value", .int v t1)]) ?k1 ?k2 ?k3 ?k4 ?k5 ?kA ?kF ?kK ?k6 ?k7 ?k8 ?k9 ?kB ?_ ?c2 ?c3 ?c4 ?c5; (case kA => exact rfl); (case kF => exact rfl); (case kK => assumption); (case k1 => k_asm); (case k2 => k_asm); (case k3 => k_asm); (case k4 => k_asm); (case k5 => k_asm); (case k6 => k_is); (case k7 => k_is); (case k8 => ktr_room); (case k9 => exact BindsTo.of_eq (by kernel_rfl)); (case c5 => decide); (case kB => exact locs rfl); (case c2 => exact rfl); (case c3 => exact rfl); (case c4 => exact rfl); k_whole; intro g' L' h' FG' F' N' B' X' T'; (try dsimp only); (try k_fold))
  k_steps
  exact hret _ _ _ _ rfl (by assumption) (by assumption)
set_option maxHeartbeats 2000000 in
theorem c_b3 (w : World) (mean : ExcName → Option Value) (mg mb : Str → Option Value) (news : List (Addr × Obj)) {b : Array UInt8} {b0 b1 b2 : Int} {tb : Tok}
    (hb : KBw.bInts b = [b0, b1, b2]) :
    Says w mean mg mb 28 2 news [.bytes b tb] (RetI news (fun r => r = (b0 * 256 + b1) * 256 + b2)) := by
  w_top off
  unfold Says
  k_with_none
  (k_with "call ref" => (k_here; k_dflt (refine' Says.useI (c_sord _ _ _ _ _ ) ?zk1 ?zk2 ?zk3 ?zk4 ?zk5 ?zkK ?zkd ?zku ?_; (case zk1 => k_asm); (case zk2 => k_asm); (case zk3 => k_asm); (case zk4 => k_asm); (case zk5 => k_asm); (case zkK => first | exact rfl | assumption);  (case zkd => ktr_room); (case zku => ktr_units); intro y9 t9 h9 tk9 P9 F9 N9;  (try k_sweep); (try dsimp only); (try k_fold))))
  k_fill
  intro dp un gd cn cs a' ccd cl outer A₀ base h₀ L m s Q E B' F' X' N' T' hk hd' hu hret
  (k_with "pyIter bytes" => k_bytesUnr)
  (k_with "UnrEnd" => (refine UnrEnd.intro (by assumption) (by assumption) news (fun _ h => h) (off_of (by assumption)) ?_))
  refine wpAny_call ?_
  k_dflt (refine' code_def (binds := [(Str.ofString "x", .bytes b tb)]) ?k1 ?k2 ?k3 ?k4 ?k5 ?kA ?kF ?kK ?k6 ?k7 ?k8 ?k9 ?kB ?_ ?c2 ?c3 ?c4 ?c5; (case kA => exact rfl); (case kF => exact rfl); (case kK => assumption); (case k1 => k_asm); (case k2 => k_asm); (case k3 => k_asm); (case k4 => k_asm); (case k5 => k_asm); (case k6 => k_is); (case k7 => k_is); (case k8 => ktr_room); (case k9 => exact BindsTo.of_eq (by kernel_rfl)); (case c5 => decide); (case kB => exact locs rfl); (case c2 => exact rfl); (case c3 => exact rfl); (case c4 => exact rfl); k_whole; intro g' L' h' FG' F' N' B' X' T'; (try dsimp only); (try k_fold))
  k_steps
  exact hret _ _ _ _ (by omega) (by assumption) (by first | assumption | exact news_tail (by assumption))
set_option maxHeartbeats 2000000 in
theorem c_b1 (w : World) (mean : ExcName → Option Value) (mg mb : Str → Option Value) (news : List (Addr × Obj)) {b : Array UInt8} {b0 : Int} {tb : Tok}
    (hb : KBw.bInts b = [b0]) :
    Says w mean mg mb 28 2 news [.bytes b tb] (RetI news (fun r => r = b0)) := by
  w_top off
  unfold Says
  k_with_none
  (k_with "call ref" => (k_here; k_dflt (refine' Says.useI (c_sord _ _ _ _ _ ) ?zk1 ?zk2 ?zk3 ?zk4 ?zk5 ?zkK ?zkd ?zku ?_; (case zk1 => k_asm); (case zk2 => k_asm); (case zk3 => k_asm); (case zk4 => k_asm); (case zk5 => k_asm); (case zkK => first | exact rfl | assumption);  (case zkd => ktr_room); (case zku => ktr_units); intro y9 t9 h9 tk9 P9 F9 N9;  (try k_sweep); (try dsimp only); (try k_fold))))
  k_fill
  intro dp un gd cn cs a' ccd cl outer A₀ base h₀ L m s Q E B' F' X' N' T' hk hd' hu hret
  (k_with "pyIter bytes" => k_bytesUnr)
  (k_with "UnrEnd" => (refine UnrEnd.intro (by assumption) (by assumption) news (fun _ h => h) (off_of (by assumption)) ?_))
  refine wpAny_call ?_
  k_dflt (refine' code_def (binds := [(Str.ofString "x", .bytes b tb)]) ?k1 ?k2 ?k3 ?k4 ?k5 ?kA ?kF ?kK ?k6 ?k7 ?k8 ?k9 ?kB ?_ ?c2 ?c3 ?c4 ?c5; (case kA => exact rfl); (case kF => exact rfl); (case kK => assumption); (case k1 => k_asm); (case k2 => k_asm); (case k3 => k_asm); (case k4 => k_asm); (case k5 => k_asm); (case k6 => k_is); (case k7 => k_is); (case k8 => ktr_room); (case k9 => exact BindsTo.of_eq (by kernel_rfl)); (case c5 => decide); (case kB => exact locs rfl); (case c2 => exact rfl); (case c3 => exact rfl); (case c4 => exact rfl); k_whole; intro g' L' h' FG' F' N' B' X' T'; (try dsimp only); (try k_fold))
  k_steps
  exact hret _ _ _ _ (by omega) (by assumption) (by first | assumption | exact news_tail (by assumption))
def RetT3F (news : List (Addr × Obj)) (P : Int × Int × Int → Prop) (h₀ : Heap) (L : Addr) (m : Str → Option Value) (s : Shared) (Q : Value → Shared → Prop) : Prop :=
  ∀ (r : Addr) (x y z : Int) (t1 t2 t3 : Tok) (c : Nat) (h' : Heap) (tk' : Nat), P (x, y, z) → (∀ p ∈ news, p.1 < r) → Fr h₀ L h' m → News h₀ L h' ((r, tupO [.int x t1, .int y t2, .int z t3] c) :: news) → Q (.ref r) { s with heap := h', toks := tk' }
section
variable {w : World} {mean : ExcName → Option Value} {mg mb : Str → Option Value} {f : Addr} {sz : Nat} {news : List (Addr × Obj)} {vs : List Value}
  {dp un : Nat} {gd : Option (List Code)} {cn : Str} {cs : Scope} {a : Addr} {ccd : Value} {cl : List (Str × Addr)} {outer : List Env} {A₀ : Around} {base h₀ : Heap} {L : Addr} {m : Str → Option Value} {s : Shared} {Q E : Value → Shared → Prop}
theorem Says.use {Ret : Heap → Addr → (Str → Option Value) → Shared → (Value → Shared → Prop) → Prop} (H : Says w mean mg mb f sz news vs Ret) (B : Below A₀ base outer h₀) (F : Fr h₀ L s.heap m) (X : (hd.heap_39 w.params).In h₀) (N : News h₀ L s.heap news)
    (T : Top hd.view_39 (looseW hd.view_39 []) mean mg mb h₀) (hk : cs.kind = .function) (hdp : dp + sz < recursionLimit) (hu : un + 8 * sz < cLine)
    (h : Ret h₀ L m s Q) :
    wpAny (model PySem.Challenge.rw_af0012_01.row.prog w) (ktrTop dp un gd cn cs L a ccd cl outer) (call (.ref f) vs) Q E s :=
  H _ _ _ _ _ _ _ _ _ _ _ _ _ _ _ _ _ B F X N T hk hdp hu h
theorem all_lt {D : Addr} {news : List (Addr × Obj)} (h : AllLt D news) : ∀ p ∈ news, p.1 < D := ktn_ltOf h
end
/-- ecdsa_raw_sign, as a function -/
def signF (P N A : Int) (g : Int × Int) (z d k : Int) : Pt :=
  (27 + Builtin.bitXor ((mulF P A g k).2 % 2) (if invF k N * (z + (mulF P A g k).1 * d) % N * 2 < N then 0 else 1), (mulF P A g k).1,
    if invF k N * (z + (mulF P A g k).1 * d) % N * 2 < N then invF k N * (z + (mulF P A g k).1 * d) % N else N - invF k N * (z + (mulF P A g k).1 * d) % N)
theorem sign_lo {P N A z zz d dd k i s yy x y : Int} {g : Int × Int} (hs : Is s (i * (zz + x * dd) % N)) (e : (x, y) = mulF P A g k) (hi : i = invF k N) (hy : yy = y % 2) (hz : zz = z) (hd : dd = d) (hlt : s * 2 < N) :
    (27 + Builtin.bitXor yy 0, x, s) = signF P N A g z d k := by
  unfold Is at hs
  subst hi hz hd hy
  subst hs
  unfold signF
  rw [← e]
  dsimp only
  rw [if_pos hlt, if_pos hlt]
theorem sign_hi {P N A z zz d dd k i s yy x y : Int} {g : Int × Int} (hs : Is s (i * (zz + x * dd) % N)) (e : (x, y) = mulF P A g k) (hi : i = invF k N) (hy : yy = y % 2) (hz : zz = z) (hd : dd = d) (hlt : ¬ s * 2 < N) :
    (27 + Builtin.bitXor yy 1, x, N - s) = signF P N A g z d k := by
  unfold Is at hs
  subst hi hz hd hy
  subst hs
  unfold signF
  rw [← e]
  dsimp only
  rw [if_neg hlt, if_neg hlt]
theorem mul_at {P A n b : Int} {g p : Int × Int} (e : p = mulF P A g n) (hn : n = b) : p = mulF P A g b := hn ▸ e
set_option maxHeartbeats 2000000 in
theorem c_priv (w : World) (mean : ExcName → Option Value) (mg mb : Str → Option Value) (news : List (Addr × Obj)) {b : Array UInt8} {b0 : Int} {tb : Tok} {P N A B Gx Gy : Int} {u1 u2 u3 u4 u5 u6 : Tok} {cD : Addr} {c' : Nat}
    (hb : KBw.bInts b = [b0]) (hc : (cD, tupO [.int P u1, .int N u2, .int A u3, .int B u4, .int Gx u5, .int Gy u6] c') ∈ news)
    (hP0 : 1 < P) (hP : P < 128) (hA0 : 0 ≤ A) (hA : A < 128) (hN0 : 1 < N) (hN : N < 128) (hG0 : 0 ≤ Gx) (hG : Gx < P) (hGy0 : 0 ≤ Gy) (hGy : Gy < P) (hn0 : 0 ≤ b0) (hn : b0 < N) :
    Says w mean mg mb 84 13 news [.bytes b tb, .ref cD] (RetT2 news (fun p => p = mulF P A (Gx, Gy) b0 ∧ In0 P p.1 ∧ In0 P p.2)) := by
  w_top off
  unfold Says
  k_with_none
  (k_with "call ref" => (k_here; k_dflt (refine' Says.useI (c_b1 _ _ _ _ _ ?zp0) ?zk1 ?zk2 ?zk3 ?zk4 ?zk5 ?zkK ?zkd ?zku ?_; (case zk1 => k_asm); (case zk2 => k_asm); (case zk3 => k_asm); (case zk4 => k_asm); (case zk5 => k_asm); (case zkK => first | exact rfl | assumption); (case zp0 => assumption); (case zkd => ktr_room); (case zku => ktr_units); intro y9 t9 h9 tk9 P9 F9 N9;  (try k_sweep); (try dsimp only); (try k_fold))))
  (k_with "call ref" => (k_here; k_dflt (refine' Says.useT2 (c_mul _ _ _ _ _ ?zp0 ?zp1 ?zp2 ?zp3 ?zp4 ?zp5 ?zp6 ?zp7 ?zp8 ?zp9 ?zp10 ?zp11 ?zp12) ?zk1 ?zk2 ?zk3 ?zk4 ?zk5 ?zkK ?zkd ?zku ?_; (case zk1 => k_asm); (case zk2 => k_asm); (case zk3 => k_asm); (case zk4 => k_asm); (case zk5 => k_asm); (case zkK => first | exact rfl | assumption); (case zp0 => walk_at "mine mem"); (case zp1 => walk_at "mine mem"); (case zp2 => first | with_reducible assumption | omega); (case zp3 => first | with_reducible assumption | omega); (case zp4 => first | with_reducible assumption | omega); (case zp5 => first | with_reducible assumption | omega); (case zp6 => first | with_reducible assumption | omega); (case zp7 => first | with_reducible assumption | omega); (case zp8 => first | with_reducible assumption | omega); (case zp9 => first | with_reducible assumption | omega); (case zp10 => first | with_reducible assumption | omega); (case zp11 => first | with_reducible assumption | omega); (case zp12 => first | with_reducible assumption | omega); (case zkd => ktr_room); (case zku => ktr_units); intro r9 x9 y9 t9 u9 c9 h9 tk9 P9 F9 N9; (try simp only [In0] at P9); obtain ⟨_, ⟨_, _⟩, _, _⟩ := P9; (try k_sweep); (try dsimp only); (try k_fold))))
  k_fill
  intro dp un gd cn cs a' ccd cl outer A₀ base h₀ L m s Q E B' F' X' N' T' hk hd' hu hret
  refine wpAny_call ?_
  k_dflt (refine' code_def (binds := [(Str.ofString "privkey", .bytes b tb), (Str.ofString "curve", .ref cD)]) ?k1 ?k2 ?k3 ?k4 ?k5 ?kA ?kF ?kK ?k6 ?k7 ?k8 ?k9 ?kB ?_ ?c2 ?c3 ?c4 ?c5; (case kA => exact rfl); (case kF => exact rfl); (case kK => assumption); (case k1 => k_asm); (case k2 => k_asm); (case k3 => k_asm); (case k4 => k_asm); (case k5 => k_asm); (case k6 => k_is); (case k7 => k_is); (case k8 => ktr_room); (case k9 => exact BindsTo.of_eq (by kernel_rfl)); (case c5 => decide); (case kB => exact locs rfl); (case c2 => exact rfl); (case c3 => exact rfl); (case c4 => exact rfl); k_whole; intro g' L' h' FG' F' N' B' X' T'; (try dsimp only); (try k_fold))
  k_steps
  refine hret _ _ _ _ _ _ _ _ ⟨mul_at (by assumption) (by assumption), ⟨?_, ?_⟩, ⟨?_, ?_⟩⟩ (by assumption) (by first | assumption | exact news_less (by assumption) | exact news_less2 (by assumption) | exact news_less (news_less2 (by assumption)) | exact news_less2 (news_less2 (by assumption)) | exact news_less (news_less2 (news_less2 (by assumption)))) <;> first | assumption | (dsimp only; omega)
set_option maxHeartbeats 2000000 in
theorem c_sign (w : World) (mean : ExcName → Option Value) (mg mb : Str → Option Value) (news : List (Addr × Obj)) {b d : Array UInt8} {b0 b1 b2 d0 k : Int} {tb td tk : Tok} {P N A B Gx Gy : Int} {u1 u2 u3 u4 u5 u6 : Tok} {cD : Addr} {c' : Nat}
    (hb : KBw.bInts b = [b0, b1, b2]) (hd : KBw.bInts d = [d0]) (hc : (cD, tupO [.int P u1, .int N u2, .int A u3, .int B u4, .int Gx u5, .int Gy u6] c') ∈ news)
    (hP0 : 1 < P) (hP : P < 128) (hA0 : 0 ≤ A) (hA : A < 128) (hN0 : 1 < N) (hN : N < 128) (hG0 : 0 ≤ Gx) (hG : Gx < P) (hGy0 : 0 ≤ Gy) (hGy : Gy < P) (hk0 : 0 ≤ k) (hk : k < N) :
    Says w mean mg mb 91 14 news [.bytes b tb, .bytes d td, .int k tk, .ref cD] (RetT3F news (fun p => p = signF P N A (Gx, Gy) ((b0 * 256 + b1) * 256 + b2) d0 k ∧ In0 P p.2.1 ∧ In0 N p.2.2)) := by
  w_top off
  unfold Says
  k_with_none
  (k_with "call ref" => (k_here; k_dflt (refine' Says.useI (c_inv _ _ _ _ _ ?zp0 ?zp1 ?zp2 ?zp3) ?zk1 ?zk2 ?zk3 ?zk4 ?zk5 ?zkK ?zkd ?zku ?_; (case zk1 => k_asm); (case zk2 => k_asm); (case zk3 => k_asm); (case zk4 => k_asm); (case zk5 => k_asm); (case zkK => first | exact rfl | assumption); (case zp0 => first | with_reducible assumption | omega); (case zp1 => first | with_reducible assumption | omega); (case zp2 => first | with_reducible assumption | omega); (case zp3 => first | with_reducible assumption | omega); (case zkd => ktr_room); (case zku => ktr_units); intro y9 t9 h9 tk9 P9 F9 N9; (try simp only [In0] at P9); obtain ⟨_, _, _⟩ := P9; (try k_sweep); (try dsimp only); (try k_fold))))
  (k_with "call ref" => (k_here; k_dflt (refine' Says.useI (c_b1 _ _ _ _ _ ?zp0) ?zk1 ?zk2 ?zk3 ?zk4 ?zk5 ?zkK ?zkd ?zku ?_; (case zk1 => k_asm); (case zk2 => k_asm); (case zk3 => k_asm); (case zk4 => k_asm); (case zk5 => k_asm); (case zkK => first | exact rfl | assumption); (case zp0 => assumption); (case zkd => ktr_room); (case zku => ktr_units); intro y9 t9 h9 tk9 P9 F9 N9;  (try k_sweep); (try dsimp only); (try k_fold))))
  (k_with "call ref" => (k_here; k_dflt (refine' Says.useI (c_b3 _ _ _ _ _ ?zp0) ?zk1 ?zk2 ?zk3 ?zk4 ?zk5 ?zkK ?zkd ?zku ?_; (case zk1 => k_asm); (case zk2 => k_asm); (case zk3 => k_asm); (case zk4 => k_asm); (case zk5 => k_asm); (case zkK => first | exact rfl | assumption); (case zp0 => assumption); (case zkd => ktr_room); (case zku => ktr_units); intro y9 t9 h9 tk9 P9 F9 N9;  (try k_sweep); (try dsimp only); (try k_fold))))
  (k_with "call ref" => (k_here; k_dflt (refine' Says.useT2 (c_mul _ _ _ _ _ ?zp0 ?zp1 ?zp2 ?zp3 ?zp4 ?zp5 ?zp6 ?zp7 ?zp8 ?zp9 ?zp10 ?zp11 ?zp12) ?zk1 ?zk2 ?zk3 ?zk4 ?zk5 ?zkK ?zkd ?zku ?_; (case zk1 => k_asm); (case zk2 => k_asm); (case zk3 => k_asm); (case zk4 => k_asm); (case zk5 => k_asm); (case zkK => first | exact rfl | assumption); (case zp0 => walk_at "mine mem"); (case zp1 => walk_at "mine mem"); (case zp2 => first | with_reducible assumption | omega); (case zp3 => first | with_reducible assumption | omega); (case zp4 => first | with_reducible assumption | omega); (case zp5 => first | with_reducible assumption | omega); (case zp6 => first | with_reducible assumption | omega); (case zp7 => first | with_reducible assumption | omega); (case zp8 => first | with_reducible assumption | omega); (case zp9 => first | with_reducible assumption | omega); (case zp10 => first | with_reducible assumption | omega); (case zp11 => first | with_reducible assumption | omega); (case zp12 => first | with_reducible assumption | omega); (case zkd => ktr_room); (case zku => ktr_units); intro r9 x9 y9 t9 u9 c9 h9 tk9 P9 F9 N9; (try simp only [In0] at P9); obtain ⟨_, ⟨_, _⟩, _, _⟩ := P9; (try k_sweep); (try dsimp only); (try k_fold))))
  k_fill
  intro dp un gd cn cs a' ccd cl outer A₀ base h₀ L m s Q E B' F' X' N' T' hkk hd' hu hret
  refine wpAny_call ?_
  k_dflt (refine' code_def (binds := [(Str.ofString "msghash", .bytes b tb), (Str.ofString "priv", .bytes d td), (Str.ofString "k", .int k tk), (Str.ofString "curve", .ref cD)]) ?k1 ?k2 ?k3 ?k4 ?k5 ?kA ?kF ?kK ?k6 ?k7 ?k8 ?k9 ?kB ?_ ?c2 ?c3 ?c4 ?c5; (case kA => exact rfl); (case kF => exact rfl); (case kK => assumption); (case k1 => k_asm); (case k2 => k_asm); (case k3 => k_asm); (case k4 => k_asm); (case k5 => k_asm); (case k6 => k_is); (case k7 => k_is); (case k8 => ktr_room); (case k9 => exact BindsTo.of_eq (by kernel_rfl)); (case c5 => decide); (case kB => exact locs rfl); (case c2 => exact rfl); (case c3 => exact rfl); (case c4 => exact rfl); k_whole; intro g' L' h' FG' F' N' B' X' T'; (try dsimp only); (try k_fold))
  k_steps
  · refine hret _ _ _ _ _ _ _ _ _ _ ⟨sign_lo (by assumption) (by assumption) (by assumption) (by assumption) (by assumption) (by assumption) (by assumption), ⟨?_, ?_⟩, ⟨?_, ?_⟩⟩ (all_lt (by first | assumption | exact (by assumption : _ ∧ AllLt _ news).2 | exact (by assumption : _ ∧ _ ∧ AllLt _ news).2.2 | exact (by assumption : _ ∧ _ ∧ _ ∧ AllLt _ news).2.2.2 | exact (by assumption : _ ∧ _ ∧ _ ∧ _ ∧ AllLt _ news).2.2.2.2)) (by assumption) (by first | assumption | exact news_less (by assumption) | exact news_less2 (by assumption) | exact news_less (news_less2 (by assumption)) | exact news_less2 (news_less2 (by assumption)) | exact news_less (news_less2 (news_less2 (by assumption)))) <;> first | assumption | (dsimp only; omega)
  · refine hret _ _ _ _ _ _ _ _ _ _ ⟨sign_hi (by assumption) (by assumption) (by assumption) (by assumption) (by assumption) (by assumption) (by assumption), ⟨?_, ?_⟩, ⟨?_, ?_⟩⟩ (all_lt (by first | assumption | exact (by assumption : _ ∧ AllLt _ news).2 | exact (by assumption : _ ∧ _ ∧ AllLt _ news).2.2 | exact (by assumption : _ ∧ _ ∧ _ ∧ AllLt _ news).2.2.2 | exact (by assumption : _ ∧ _ ∧ _ ∧ _ ∧ AllLt _ news).2.2.2.2)) (by assumption) (by first | assumption | exact news_less (by assumption) | exact news_less2 (by assumption) | exact news_less (news_less2 (by assumption)) | exact news_less2 (news_less2 (by assumption)) | exact news_less (news_less2 (news_less2 (by assumption)))) <;> first | assumption | (dsimp only; omega)
/-- the table of curves -/
def curvesL : List (Int × Int × Int × Int × Int × Int) :=
  [(11, 13, 1, 6, 2, 4), (11, 17, 6, 5, 1, 1), (19, 13, 0, 2, 4, 16), (19, 13, 0, 3, 1, 17), (31, 43, 0, 3, 1, 2), (43, 31, 0, 7, 2, 31), (43, 37, 6, 5, 2, 38), (67, 79, 0, 7, 2, 22), (67, 73, 0, 2, 2, 55), (79, 67, 0, 7, 1, 18), (79, 97, 0, 3, 1, 2), (127, 127, 0, 7, 1, 32), (127, 127, 0, 3, 1, 2)]
def CurvesAt (tups : List (Addr × Obj)) (vs : List Value) : Prop := vs.length = 13 ∧ ∀ v ∈ vs, ∃ (D : Addr) (P N A B Gx Gy : Int) (t1 t2 t3 t4 t5 t6 : Tok) (c : Nat),
  v = .ref D ∧ (D, tupO [.int P t1, .int N t2, .int A t3, .int B t4, .int Gx t5, .int Gy t6] c) ∈ tups ∧ (P, N, A, B, Gx, Gy) ∈ curvesL
theorem cur_cons {tups : List (Addr × Obj)} {vs : List Value} {D : Addr} {P N A B Gx Gy : Int} {t1 t2 t3 t4 t5 t6 : Tok} {c : Nat} (hm : (D, tupO [.int P t1, .int N t2, .int A t3, .int B t4, .int Gx t5, .int Gy t6] c) ∈ tups) (hin : (P, N, A, B, Gx, Gy) ∈ curvesL)
    (h : ∀ v ∈ vs, ∃ (D : Addr) (P N A B Gx Gy : Int) (t1 t2 t3 t4 t5 t6 : Tok) (c : Nat), v = .ref D ∧ (D, tupO [.int P t1, .int N t2, .int A t3, .int B t4, .int Gx t5, .int Gy t6] c) ∈ tups ∧ (P, N, A, B, Gx, Gy) ∈ curvesL) :
    ∀ v ∈ Value.ref D :: vs, ∃ (D : Addr) (P N A B Gx Gy : Int) (t1 t2 t3 t4 t5 t6 : Tok) (c : Nat), v = .ref D ∧ (D, tupO [.int P t1, .int N t2, .int A t3, .int B t4, .int Gx t5, .int Gy t6] c) ∈ tups ∧ (P, N, A, B, Gx, Gy) ∈ curvesL :=
  List.forall_mem_cons.mpr ⟨⟨D, P, N, A, B, Gx, Gy, t1, t2, t3, t4, t5, t6, c, rfl, hm, hin⟩, h⟩
def RetCur (news : List (Addr × Obj)) (h₀ : Heap) (L : Addr) (m : Str → Option Value) (s : Shared) (Q : Value → Shared → Prop) : Prop :=
  ∀ (l : Addr) (vs : List Value) (c : Nat) (tups : List (Addr × Obj)) (h' : Heap) (tk' : Nat), CurvesAt tups vs → Fr h₀ L h' m → News h₀ L h' ((l, lstO vs c) :: (tups ++ news)) → Q (.ref l) { s with heap := h', toks := tk' }
def RetAt (news : List (Addr × Obj)) (l : Addr) (vs : List Value) (h₀ : Heap) (L : Addr) (m : Str → Option Value) (s : Shared) (Q : Value → Shared → Prop) : Prop :=
  h₀.IsList l vs.toArray ∧ ∀ (y : Int) (t : Tok) (h' : Heap) (tk' : Nat), Fr h₀ L h' m → News h₀ L h' news → Q (.int y t) { s with heap := h', toks := tk' }
def RetB (news : List (Addr × Obj)) (P : Bool → Prop) (h₀ : Heap) (L : Addr) (m : Str → Option Value) (s : Shared) (Q : Value → Shared → Prop) : Prop :=
  ∀ (y : Bool) (h' : Heap) (tk' : Nat), P y → Fr h₀ L h' m → News h₀ L h' news → Q (.bool y) { s with heap := h', toks := tk' }
set_option maxHeartbeats 2000000 in
theorem c_cur (w : World) (mean : ExcName → Option Value) (mg mb : Str → Option Value) (news : List (Addr × Obj)) :
    Says w mean mg mb 98 1 news [] (RetCur news) := by
  w_top off
  unfold Says
  k_with_none
  k_fill
  intro dp un gd cn cs a' ccd cl outer A₀ base h₀ L m s Q E B' F' X' N' T' hk hd' hu hret
  refine wpAny_call ?_
  k_dflt (refine' code_def (binds := []) ?k1 ?k2 ?k3 ?k4 ?k5 ?kA ?kF ?kK ?k6 ?k7 ?k8 ?k9 ?kB ?_ ?c2 ?c3 ?c4 ?c5; (case kA => exact rfl); (case kF => exact rfl); (case kK => assumption); (case k1 => k_asm); (case k2 => k_asm); (case k3 => k_asm); (case k4 => k_asm); (case k5 => k_asm); (case k6 => k_is); (case k7 => k_is); (case k8 => ktr_room); (case k9 => exact BindsTo.of_eq (by kernel_rfl)); (case c5 => decide); (case kB => exact locs rfl); (case c2 => exact rfl); (case c3 => exact rfl); (case c4 => exact rfl); k_whole; intro g' L' h' FG' F' N' B' X' T'; (try dsimp only); (try k_fold))
  k_steps
  refine hret _ _ _ [_, _, _, _, _, _, _, _, _, _, _, _, _] _ _ ⟨rfl, ?_⟩ (by assumption) (by assumption)
  repeat (refine cur_cons (by repeat' (first | exact List.Mem.head _ | refine List.Mem.tail _ ?_)) (by decide) ?_)
  exact List.forall_mem_nil _
set_option maxHeartbeats 2000000 in
theorem c_at (w : World) (mean : ExcName → Option Value) (mg mb : Str → Option Value) (news : List (Addr × Obj)) {l : Addr} {vs : List Value} {ns : List Int} {k : Int} {t : Tok} (hI : IntsAre vs ns) (hlen : ns.length < 64) (hk0 : 0 ≤ k) (hk : k < 100) :
    Says w mean mg mb 105 1 news [.ref l, .int k t] (RetAt news l vs) := by
  w_top off
  unfold Says
  k_with_none
  k_fill
  intro dp un gd cn cs a' ccd cl outer A₀ base h₀ L m s Q E B' F' X' N' T' hkk hd' hu hret
  obtain ⟨hL, hret⟩ := hret
  refine wpAny_call ?_
  k_dflt (refine' code_def (binds := [(Str.ofString "script", .ref l), (Str.ofString "k", .int k t)]) ?k1 ?k2 ?k3 ?k4 ?k5 ?kA ?kF ?kK ?k6 ?k7 ?k8 ?k9 ?kB ?_ ?c2 ?c3 ?c4 ?c5; (case kA => exact rfl); (case kF => exact rfl); (case kK => assumption); (case k1 => k_asm); (case k2 => k_asm); (case k3 => k_asm); (case k4 => k_asm); (case k5 => k_asm); (case k6 => k_is); (case k7 => k_is); (case k8 => ktr_room); (case k9 => exact BindsTo.of_eq (by kernel_rfl)); (case c5 => decide); (case kB => exact locs rfl); (case c2 => exact rfl); (case c3 => exact rfl); (case c4 => exact rfl); k_whole; intro g' L' h' FG' F' N' B' X' T'; (try dsimp only); (try k_fold))
  have hL' := stays_list (FG'.keep) hL
  k_steps
  all_goals exact hret _ _ _ _ (by assumption) (by assumption)
theorem stand_in {r r1 N a b : Int} (h : Is r (a % N)) (h1 : Is r1 (b % N)) (he : a % N = b % N ∨ a % N = N - b % N) : ([r1, N - r1].any fun x => x == r) = true := by
  unfold Is at h h1
  subst h h1
  rcases he with e | e
  · simp [e]
  · simp [e]
set_option maxHeartbeats 2000000 in
theorem c_turn (w : World) (mean : ExcName → Option Value) (mg mb : Str → Option Value) (news : List (Addr × Obj)) {aD bD : Addr} {x y z x' y' z' N : Int} {t1 t2 t3 t4 t5 t6 tn : Tok} {c d : Nat}
    (hp : (aD, tupO [.int x t1, .int y t2, .int z t3] c) ∈ news) (hq : (bD, tupO [.int x' t4, .int y' t5, .int z' t6] d) ∈ news) :
    Says w mean mg mb 112 1 news [.ref aD, .ref bD, .int N tn] (RetI news (fun r => r = if x = x' then z' else N - z')) := by
  w_top off
  unfold Says
  k_with_none
  k_fill
  intro dp un gd cn cs a' ccd cl outer A₀ base h₀ L m s Q E B' F' X' N' T' hk hd' hu hret
  refine wpAny_call ?_
  k_dflt (refine' code_def (binds := [(Str.ofString "one", .ref aD), (Str.ofString "other", .ref bD), (Str.ofString "order", .int N tn)]) ?k1 ?k2 ?k3 ?k4 ?k5 ?kA ?kF ?kK ?k6 ?k7 ?k8 ?k9 ?kB ?_ ?c2 ?c3 ?c4 ?c5; (case kA => exact rfl); (case kF => exact rfl); (case kK => assumption); (case k1 => k_asm); (case k2 => k_asm); (case k3 => k_asm); (case k4 => k_asm); (case k5 => k_asm); (case k6 => k_is); (case k7 => k_is); (case k8 => ktr_room); (case k9 => exact BindsTo.of_eq (by kernel_rfl)); (case c5 => decide); (case kB => exact locs rfl); (case c2 => exact rfl); (case c3 => exact rfl); (case c4 => exact rfl); k_whole; intro g' L' h' FG' F' N' B' X' T'; (try dsimp only); (try k_fold))
  k_steps
  · exact hret _ _ _ _ (if_pos (by assumption)).symm (by assumption) (by assumption)
  · exact hret _ _ _ _ (if_neg (by assumption)).symm (by assumption) (by assumption)
set_option maxHeartbeats 2000000 in
theorem c_stand (w : World) (mean : ExcName → Option Value) (mg mb : Str → Option Value) (news : List (Addr × Obj)) {aD : Addr} {number secret x y z k N : Int} {t1 t2 t3 t4 t5 tk tn : Tok} {c : Nat}
    (hp : (aD, tupO [.int x t1, .int y t2, .int z t3] c) ∈ news) (hN0 : 1 < N) (hN : N < 128) (hs0 : 0 < secret) (hs : secret < 128) (hk0 : 0 < k) (hk : k < N)
    (hz0 : 0 < z) (hz : 2 * z < N) (he : z * k % N = (number + y * secret) % N ∨ z * k % N = N - (number + y * secret) % N) :
    Says w mean mg mb 119 1 news [.int number t4, .int secret t5, .ref aD, .int k tk, .int N tn] (RetB news (fun r => r = true)) := by
  w_top off
  unfold Says
  k_with_none
  k_fill
  intro dp un gd cn cs a' ccd cl outer A₀ base h₀ L m s Q E B' F' X' N' T' hkk hd' hu hret
  refine wpAny_call ?_
  k_dflt (refine' code_def (binds := [(Str.ofString "number", .int number t4), (Str.ofString "secret", .int secret t5), (Str.ofString "three", .ref aD), (Str.ofString "nonce", .int k tk), (Str.ofString "order", .int N tn)]) ?k1 ?k2 ?k3 ?k4 ?k5 ?kA ?kF ?kK ?k6 ?k7 ?k8 ?k9 ?kB ?_ ?c2 ?c3 ?c4 ?c5; (case kA => exact rfl); (case kF => exact rfl); (case kK => assumption); (case k1 => k_asm); (case k2 => k_asm); (case k3 => k_asm); (case k4 => k_asm); (case k5 => k_asm); (case k6 => k_is); (case k7 => k_is); (case k8 => ktr_room); (case k9 => exact BindsTo.of_eq (by kernel_rfl)); (case c5 => decide); (case kB => exact locs rfl); (case c2 => exact rfl); (case c3 => exact rfl); (case c4 => exact rfl); k_whole; intro g' L' h' FG' F' N' B' X' T'; (try dsimp only); (try k_fold))
  k_steps
  · exact hret _ _ _ (decide_eq_true hz) (by assumption) (by first | assumption | exact news_tail (by assumption))
  · exact hret _ _ _ (stand_in (by assumption) (by assumption) he) (by assumption) (by first | assumption | exact news_tail (by assumption))
/-- what _law_both hands back -/
def RetBoth (news : List (Addr × Obj)) (P N A Gx Gy n0 n1 s0 s1 : Int) (h₀ : Heap) (L : Addr) (m : Str → Option Value) (s : Shared) (Q : Value → Shared → Prop) : Prop :=
  (∀ (h' : Heap) (tk' : Nat), Fr h₀ L h' m → News h₀ L h' news → Q .none { s with heap := h', toks := tk' }) ∧
  ∀ (r lD a b : Addr) (x0 y0 z0 x1 y1 z1 k : Int) (t0 t1 t2 t3 t4 t5 t6 : Tok) (c0 c1 c2 c3 : Nat) (h' : Heap) (tk' : Nat),
    (x0, y0, z0) = signF P N A (Gx, Gy) n0 s0 k → (x1, y1, z1) = signF P N A (Gx, Gy) n1 s1 k → 0 < k → k < N → In0 P y0 → In0 N z0 → In0 P y1 → In0 N z1 → y0 % N ≠ 0 → z0 ≠ 0 → z1 ≠ 0 →
    Fr h₀ L h' m → News h₀ L h' ((r, tupO [.ref lD, .int k t6] c0) :: (lD, lstO [.ref a, .ref b] c1) :: (a, tupO [.int x0 t0, .int y0 t1, .int z0 t2] c2) :: (b, tupO [.int x1 t3, .int y1 t4, .int z1 t5] c3) :: news) →
    Q (.ref r) { s with heap := h', toks := tk' }
section
variable {prog : Program} {w : World} {A : Around} {E : Value → Shared → Prop} {s : Shared} {h₀ : Heap} {L : Addr} {news : List (Addr × Obj)}
theorem isl_of {ax : Addr} {vs : List Value} {c : Nat} (N : News h₀ L s.heap news) (hm : (ax, lstO vs c) ∈ news) : s.heap.IsList ax vs.toArray := ⟨_, (N _ hm).1, rfl, _, rfl⟩
theorem ist_of {ax : Addr} {vs : List Value} {c : Nat} (N : News h₀ L s.heap news) (hm : (ax, tupO vs c) ∈ news) : IsTup s.heap ax vs.toArray := ⟨_, (N _ hm).1, rfl, _, rfl⟩
theorem item_lst {value slice : PySem.Expr} {ax : Addr} {vs : List Value} {c : Nat} {k : Int} {u : Tok} {v : Value} {Q : Value → Shared → Prop} (N : News h₀ L s.heap news) (hm : (ax, lstO vs c) ∈ news) (h0 : 0 ≤ k) (hhi : k < 2 ^ 63) (hx : vs[k.toNat]? = some v) (h : Q v s)
    (hs : subscripted slice false (.ref ax) (.int k u) = operate [.ref ax, .int k u] (getItem (.ref ax) (.int k u))) :
    wpAny (model prog w) A (subscriptTail value slice (.ref ax) (.int k u)) Q E s := item_litK (isl_of N hm) h0 hhi hx h hs
theorem item_tup {value slice : PySem.Expr} {ax : Addr} {vs : List Value} {c : Nat} {k : Int} {u : Tok} {j : Nat} {v : Value} {Q : Value → Shared → Prop} (N : News h₀ L s.heap news) (hm : (ax, tupO vs c) ∈ news) (hlo : -(2 ^ 63) ≤ k) (hhi : k < 2 ^ 63) (hj : seqIndex? k vs.length = some j) (hx : vs[j]? = some v) (h : Q v s)
    (hs : subscripted slice false (.ref ax) (.int k u) = operate [.ref ax, .int k u] (getItem (.ref ax) (.int k u))) :
    wpAny (model prog w) A (subscriptTail value slice (.ref ax) (.int k u)) Q E s := item_tupleT (ist_of N hm) hlo hhi hj hx h hs
end
theorem b1_ints {x : Int} (h0 : 0 ≤ x) (h1 : x < 256) : KBw.bInts #[x.toNat.toUInt8] = [x] := by
  show [(((x.toNat.toUInt8).toNat : Nat) : Int)] = [x]
  have e : (x.toNat.toUInt8).toNat = x.toNat := by
    show (UInt8.ofNat x.toNat).toNat = x.toNat
    rw [UInt8.toNat_ofNat']
    omega
  rw [e, Int.toNat_of_nonneg h0]
theorem big3 {x : Int} (h0 : 0 ≤ x) (h1 : x < 16777216) : (x / 256 / 256 % 256 * 256 + x / 256 % 256) * 256 + x % 256 = x := by omega
theorem led_in {x y z c1 c2 c3 c4 : Addr × Obj} {news own : List (Addr × Obj)} : ∀ p ∈ c1 :: c2 :: c3 :: c4 :: news, p ∈ x :: y :: z :: c1 :: c2 :: c3 :: c4 :: (news ++ own) := by
  intro p hp
  simp only [List.mem_cons, List.mem_append] at hp ⊢
  rcases hp with h | h | h | h | h <;> simp [h]
theorem led_own {x y z c1 c2 c3 c4 : Addr × Obj} {news own : List (Addr × Obj)} : ∀ p ∈ own, p ∈ x :: y :: z :: c1 :: c2 :: c3 :: c4 :: (news ++ own) := by
  intro p hp
  simp [hp]
theorem comp_end {h₀ : Heap} {L I C D r : Addr} {m : Str → Option Value} {s₁ : Shared} {oI oC oD o : Obj} {g : Addr × Obj} {S : List (Addr × Obj) → Prop} {R : Value → List (Addr × Obj) → Prop} {y : Value} {h' : Heap} {tk : Nat} {rest : List (Addr × Obj)}
    (F : Fr h₀ L h' m) (N : News h₀ L h' ((r, o) :: g :: (I, oI) :: (C, oC) :: (D, oD) :: rest)) (lt : ∀ p ∈ g :: (I, oI) :: (C, oC) :: (D, oD) :: rest, p.1 < r) (off : LCg.Off3 I C D rest) (hS : S ((r, o) :: rest)) (k : R y ((r, o) :: rest)) :
    LCg.CompEnd h₀ L m s₁ I oI C oC D oD S R y { s₁ with heap := h', toks := tk } :=
  LCg.CompEnd.intro F N ((r, o) :: rest) (by
    intro p hp
    simp only [List.mem_cons] at hp ⊢
    rcases hp with h | h | h | h | h <;> simp [h])
    ⟨⟨Nat.ne_of_gt (lt (I, oI) (by simp)), Nat.ne_of_gt (lt (C, oC) (by simp)), Nat.ne_of_gt (lt (D, oD) (by simp))⟩, off⟩ hS k
theorem both_end {h₀ : Heap} {L a1 a2 a3 a4 : Addr} {m₀ m' : Str → Option Value} {x : Str} {x1 x2 x3 : Addr × Obj} {o oN oS oU oC : Obj} {v : Option Value} {news own : List (Addr × Obj)} {pre : List Int} {s₁ : Shared} {h' : Heap} {tk : Nat}
    (F : Fr h₀ L h' m') (N : News h₀ L h' (x1 :: x2 :: x3 :: (a1, o) :: (a2, oS) :: (a3, oU) :: (a4, oC) :: (news ++ own))) (hd : o.data = .cell v) (hm : ∀ z, z ≠ x → z ≠ Str.ofString "told" → m' z = m₀ z) :
    InvEndN h₀ L (KstS (fun o => (a1, o) :: (a2, oS) :: (a3, oU) :: (a4, oC) :: news) (fun _ => []) (fun o => ∃ v, o.data = .cell v) x [Str.ofString "told"] m₀ (fun _ _ => True) pre) own
      (List.map (fun p => p.1) ((a1, oN) :: (a2, oS) :: (a3, oU) :: (a4, oC) :: news)) s₁ { s₁ with heap := h', toks := tk } := by
  refine kst_end o F N led_in led_own rfl ⟨_, hd⟩ (List.forall_mem_nil _) (fun z h1 _ h3 => hm z h1 ?_) True.intro
  intro e
  rw [e] at h3
  revert h3
  decide
theorem both_map {u m₀ : Str → Option Value} {x : Str} {v w : Value} : ∀ z, z ≠ x → z ≠ Str.ofString "told" →
    (fun z => if z = Str.ofString "told" then some v else (fun y => if y = x then some w else kstB (fun z => if [Str.ofString "told"].contains z = true then u z else m₀ z) [] y) z) z = m₀ z := by
  intro z h1 h2
  show (if z = Str.ofString "told" then some v else if z = x then some w else if [Str.ofString "told"].contains z = true then u z else m₀ z) = m₀ z
  rw [if_neg h2, if_neg h1, if_neg]
  simp [h2]
theorem sign_big {P N A n sc k : Int} {g : Int × Int} {p : Pt} (h : p = signF P N A g ((n / 256 / 256 % 256 * 256 + n / 256 % 256) * 256 + n % 256) sc k) (h0 : 0 ≤ n) (h1 : n < 16777216) : p = signF P N A g n sc k := by
  rwa [big3 h0 h1] at h
theorem nz_of {r z N : Int} (h : Is r (z % N)) (hr : r ≠ 0) : z ≠ 0 := by
  rintro rfl
  unfold Is at h
  exact hr (h.trans (Int.zero_emod N))
theorem nm_of {r z N : Int} (h : Is r (z % N)) (hr : r ≠ 0) : z % N ≠ 0 := by
  unfold Is at h
  rwa [h] at hr
theorem news_both {h₀ h' : Heap} {L : Addr} {x1 x2 a b c1 c2 c3 c4 : Addr × Obj} {news own : List (Addr × Obj)} (N : News h₀ L h' (x1 :: x2 :: b :: a :: c1 :: c2 :: c3 :: c4 :: (news ++ own))) : News h₀ L h' (x1 :: x2 :: a :: b :: news) := by
  intro p hp
  refine N p ?_
  simp only [List.mem_cons, List.mem_append] at hp ⊢
  rcases hp with h | h | h | h | h <;> simp [h]
theorem inv_ret {h₀ : Heap} {L : Addr} {J : (Str → Option Value) → List (Addr × Obj) → Prop} {own : List (Addr × Obj)} {adr : List Addr} {s₁ s : Shared} {Q : Flow → Shared → Prop} {v : Value} (h : Q (.ret v) s) : InvPostN h₀ L J own adr s₁ Q (.ret v) s := h
theorem off_lt {I d : Addr} {news : List (Addr × Obj)} (h : ∀ p ∈ news, p.1 < I) (hd : @LE.le Nat _ I d) : ∀ p ∈ news, p.1 ≠ d := fun p hp => Nat.ne_of_lt (Nat.lt_of_lt_of_le (h p hp) hd)
theorem off_own {own : List (Addr × Obj)} {adr : List Addr} {d : Addr} (h : OwnOff own adr) (hd : d ∈ adr) : ∀ p ∈ own, p.1 ≠ d := fun p hp => h p hp d hd
theorem fr_as {h₀ h : Heap} {L : Addr} {m m' : Str → Option Value} (F : Fr h₀ L h m) (e : m = m') : Fr h₀ L h m' := e ▸ F
theorem cell_as {o : Obj} {v v' : Option Value} (h : o.data = .cell v) (e : v = v') : o.data = .cell v' := e ▸ h
local macro_rules | `(tactic| walk_at "compareOp NotEq int int") => `(tactic| (dsimp only; with_reducible refine ne_int ?_))
local macro_rules | `(tactic| walk_at "mine item") => `(tactic| (k_here; (with_reducible show wpAny _ _ (subscriptTail _ _ (Value.ref _) (Value.int _ _)) _ _ _); k_dflt (first
  | (refine' item_tup ?N ?m ?a ?b ?c ?d ?_ ?e; (case N => k_asm); (case m => walk_at "mine mem"); (case a => decide); (case b => decide); (case c => rfl); (case d => rfl); (case e => with_unfolding_all rfl); k_whole)
  | (refine' item_lst ?N ?m ?a ?b ?d ?_ ?e; (case N => k_asm); (case m => walk_at "mine mem"); (case a => decide); (case b => decide); (case d => rfl); (case e => with_unfolding_all rfl); k_whole))))
local macro_rules | `(tactic| walk_at "subscriptTail Name Name ref int") => `(tactic| walk_at "mine item")
local macro_rules | `(tactic| walk_at "subscriptTail Name Constant ref int") => `(tactic| walk_at "mine item")
local macro_rules | `(tactic| walk_at "subscriptTail Subscript Name Constant Constant ref int") => `(tactic| walk_at "mine item")
local macro_rules | `(tactic| walk_at "subscriptTail Call Name cons nil Constant ref int") => `(tactic| walk_at "mine item")
local macro_rules | `(tactic| k_all) => `(tactic| first | exact List.forall_mem_nil _ | (refine' List.forall_mem_append.mpr ⟨?a, ?b⟩; (case a => k_all); (case b => k_all)) | (refine' List.forall_mem_cons.mpr ⟨?a, ?b⟩; (case a => k_ne); (case b => k_all)) | exact off_lt (by assumption) (by omega) | exact off_own (by assumption) (by simp))
set_option maxHeartbeats 40000000 in
theorem c_both (w : World) (mean : ExcName → Option Value) (mg mb : Str → Option Value) (news : List (Addr × Obj)) {nD sD : Addr} {n0 n1 s0 s1 first : Int} {t1 t2 t3 t4 t5 : Tok} {c d : Nat} {P N A B Gx Gy : Int} {u1 u2 u3 u4 u5 u6 : Tok} {cD : Addr} {c' : Nat}
    (hn : (nD, lstO [.int n0 t1, .int n1 t2] c) ∈ news) (hs : (sD, lstO [.int s0 t3, .int s1 t4] d) ∈ news) (hc : (cD, tupO [.int P u1, .int N u2, .int A u3, .int B u4, .int Gx u5, .int Gy u6] c') ∈ news)
    (hP0 : 1 < P) (hP : P < 128) (hA0 : 0 ≤ A) (hA : A < 128) (hN0 : 1 < N) (hN : N < 128) (hG0 : 0 ≤ Gx) (hG : Gx < P) (hGy0 : 0 ≤ Gy) (hGy : Gy < P) (hN2 : 2 < N) (hn00 : 0 ≤ n0) (hn0 : n0 < 16777216) (hn10 : 0 ≤ n1) (hn1 : n1 < 16777216) (hs00 : 0 ≤ s0) (hs0 : s0 < 256) (hs10 : 0 ≤ s1) (hs1 : s1 < 256) :
    Says w mean mg mb 124 16 news [.ref cD, .ref nD, .ref sD, .int first t5] (RetBoth news P N A Gx Gy n0 n1 s0 s1) := by
  w_top off
  unfold Says
  k_with_none
  (k_with "call ref" => (k_here; k_dflt (refine' Says.use (c_sign _ _ _ _ _ ?zp0 ?zp1 ?zp2 ?zp3 ?zp4 ?zp5 ?zp6 ?zp7 ?zp8 ?zp9 ?zp10 ?zp11 ?zp12 ?zp13 ?zp14) ?zk1 ?zk2 ?zk3 ?zk4 ?zk5 ?zkK ?zkd ?zku ?_; (case zk1 => k_asm); (case zk2 => k_asm); (case zk3 => k_asm); (case zk4 => k_asm); (case zk5 => k_asm); (case zkK => first | exact rfl | assumption); (case zp0 => assumption); (case zp1 => first | assumption | exact b1_ints (by omega) (by omega)); (case zp2 => walk_at "mine mem"); (case zp3 => first | with_reducible assumption | omega); (case zp4 => first | with_reducible assumption | omega); (case zp5 => first | with_reducible assumption | omega); (case zp6 => first | with_reducible assumption | omega); (case zp7 => first | with_reducible assumption | omega); (case zp8 => first | with_reducible assumption | omega); (case zp9 => first | with_reducible assumption | omega); (case zp10 => first | with_reducible assumption | omega); (case zp11 => first | with_reducible assumption | omega); (case zp12 => first | with_reducible assumption | omega); (case zp13 => first | with_reducible assumption | omega); (case zp14 => first | with_reducible assumption | omega); (case zkd => ktr_room); (case zku => ktr_units); unfold RetT3F; intro r9 x9 y9 z9 t9 u9 v9 c9 h9 tk9 P9 lt9 F9 N9; (try simp only [In0] at P9); obtain ⟨_, ⟨_, _⟩, _, _⟩ := P9; (try k_sweep); (try dsimp only); (try k_fold))))
  k_fill
  intro dp un gd cn cs a' ccd cl outer A₀ base h₀ L m s Q E B' F' X' N' T' hk hd' hu hret
  obtain ⟨hret0, hret⟩ := hret
  refine wpAny_call ?_
  k_dflt (refine' code_defC (binds := [(Str.ofString "curve", .ref cD), (Str.ofString "numbers", .ref nD), (Str.ofString "secrets", .ref sD), (Str.ofString "first", .int first t5)]) ?k1 ?k2 ?k3 ?k4 ?k5 ?kA ?kF ?kK ?k6 ?k7 ?k8 ?k9 ?kB ?kD ?_ ?c2 ?c3 ?c4; (case kA => exact rfl); (case kF => exact rfl); (case kK => assumption); (case k1 => k_asm); (case k2 => k_asm); (case k3 => k_asm); (case k4 => k_asm); (case k5 => k_asm); (case k6 => k_is); (case k7 => k_is); (case k8 => ktr_room); (case k9 => exact BindsTo.of_eq (by kernel_rfl)); (case kB => exact rfl); (case kD => decide +kernel); (case c2 => exact rfl); (case c3 => exact rfl); (case c4 => exact rfl); k_whole; intro g' L' h' tk' cells' FG' F' N' Y' B' X' T' l1; (try dsimp only); (try k_fold))
  obtain ⟨oN, oS, oU, oC, hE, dN, dS, dU, dC⟩ := CellsAre.four Y'
  subst hE
  clear Y'
  simp only [List.cons_append, List.nil_append] at N'
  replace F' := fr_as F' (m' := fun y => if y = Str.ofString "first" then some (.int first t5) else none) (by kernel_rfl)
  replace dN := cell_as dN (v' := none) (by kernel_rfl)
  replace dS := cell_as dS (v' := some (.ref sD)) (by kernel_rfl)
  replace dU := cell_as dU (v' := some (.ref nD)) (by kernel_rfl)
  replace dC := cell_as dC (v' := some (.ref cD)) (by kernel_rfl)
  (k_with "pyIter ref" => ((rename IsRange _ _ _ _ _ _ _ _ => rgX); (rename Fr g' L' _ _ => rF); (rename News g' L' _ _ => rN); (with_unfolding_all refine' kst_range (σ := Obj) (n := 12) (fun o => (L' + 1 + 1 + 1 + 1, o) :: (L' + 1 + 1 + 1, oS) :: (L' + 1 + 1, oU) :: (L' + 1, oC) :: news) (fun _ => []) (fun o => ∃ v, o.data = .cell v) [Str.ofString "told"] (fun _ _ => True) oN (by rfl) rgX (by decide) (by rfl) rF rN ⟨_, dN⟩ (List.forall_mem_nil _) True.intro ?kturn ?kdone); (case kturn => (intro o pre k t u h9 tk9 own kEq kLt kOff kFacts kInv kFr kNews; obtain ⟨v9, hd9⟩ := kFacts; simp only [List.cons_append] at kNews; simp only [List.map_cons] at kOff; clear rF rN kInv; (try dsimp only); (try k_fold))); (case kdone => (intro o u h9 tk9 kFacts kInv kFr kNews; clear rF rN; (try dsimp only); (try k_fold)))))
  iterate 9 (walk_at "my step")
  rename IsRange _ _ _ _ _ _ _ _ => rgX
  rename Fr g' L' _ _ => rF
  rename News g' L' _ _ => rN
  with_unfolding_all refine' kst_range (σ := Obj) (n := 12) (fun o => (L' + 1 + 1 + 1 + 1, o) :: (L' + 1 + 1 + 1, oS) :: (L' + 1 + 1, oU) :: (L' + 1, oC) :: news) (fun _ => []) (fun o => ∃ v, o.data = .cell v) [Str.ofString "told"] (fun _ _ => True) oN (by rfl) rgX (by decide) (by rfl) rF rN ⟨_, dN⟩ (List.forall_mem_nil _) True.intro ?kturn ?kdone
  case kturn =>
    intro o pre k t u h9 tk9 own kEq kLt kOff kFacts kInv kFr kNews
    obtain ⟨v9, hd9⟩ := kFacts
    simp only [List.cons_append] at kNews
    simp only [List.map_cons] at kOff
    clear rF rN kInv
    (try dsimp only)
    (try k_fold)
    (k_with "CompSrc" => (k_here; k_dflt (refine LCg.CompSrc.range (by rfl) (by k_asm) (by k_asm) (by assumption) (by decide) (by rfl) (by exact Nat.le_of_ble_eq_true rfl) ?_; intro g'; lcg_lit)))
    (k_with "exec Assign cons ListComp" => (k_here; lcf_look; k_dflt (refine LCg.Assign_ListComp_U (F₀ := by k_asm) (by rfl) (by with_unfolding_all rfl) (by with_unfolding_all rfl) (by decide) (by rfl) (by decide) (by rfl) (by rfl) (by rfl) ?_); k_dflt lcg_toSrc))
    (k_with "CompEnd" => (refine comp_end (by assumption) (by assumption) (by assumption) (by assumption) True.intro ?_))
    (k_with "InvEndN" => (exact both_end (by assumption) (by assumption) (by assumption) both_map))
    k_steps
    refine inv_ret ?_
    (try dsimp only)
    k_steps
    exact hret _ _ _ _ _ _ _ _ _ _ _ _ _ _ _ _ _ _ _ _ _ _ _ _ (sign_big (by assumption) hn00 hn0) (sign_big (by assumption) hn10 hn1) (by omega) (by omega) ⟨by assumption, by assumption⟩ ⟨by assumption, by assumption⟩ ⟨by assumption, by assumption⟩ ⟨by assumption, by assumption⟩ (nm_of (by assumption) (by assumption)) (nz_of (by assumption) (by assumption)) (nz_of (by assumption) (by assumption)) (by assumption) (news_both (by assumption))
  case kdone =>
    intro o u h9 tk9 kFacts kInv kFr kNews
    clear rF rN
    (try dsimp only)
    (try k_fold)
    k_steps
    exact hret0 _ _ (by assumption) (fun p hp => (by assumption : News h₀ L _ _) p (.tail _ (.tail _ (.tail _ (.tail _ hp)))))
section
variable {prog : Program} {w : World} {A : Around} {E : Value → Shared → Prop} {s : Shared} {a e m : Int} {t u v : Tok} {Q : Value → Shared → Prop}
theorem kind_pow : builtinKind "pow" = none := by decide +kernel
theorem plain_pow : plainId "pow" = true := by decide +kernel
theorem entry_pow3 : entryFor table "pow" = some Builtin.«pow» := entryFor_of_fast (by kernel_rfl)
theorem args_pow3 (a b c : Value) : argsOk "pow" ⟨[a, b, c], []⟩ := by unfold argsOk; kernel_rfl
theorem args_ipow3 (a b c : Value) : argsOk "int.__pow__" ⟨[a, b, c], []⟩ := by unfold argsOk; kernel_rfl
theorem powMod_lt {b e n : Nat} (hn : 0 < n) : Builtin.powMod b e n < n := by
  unfold Builtin.powMod
  have key : ∀ (l : List Nat) (p : Nat), p < n → l.foldl (fun p i => if e.testBit i then p * p % n * b % n else p * p % n) p < n := by
    intro l
    induction l with
    | nil => intro p hp; exact hp
    | cons i l IH =>
      intro p hp
      refine IH _ ?_
      dsimp only; split
      · exact Nat.mod_lt _ hn
      · exact Nat.mod_lt _ hn
  exact key _ _ (Nat.mod_lt _ hn)
theorem pow3 (he : 0 ≤ e) (hm : 1 < m) (h : ∀ r : Int, Is r ((Builtin.powMod (a % m).toNat e.natAbs m.natAbs : Nat) : Int) → 0 ≤ r → r < m → Q (.int r s.toks) { s with toks := s.toks + 1 }) :
    wpAny (model prog w) A (call (.builtin "pow") [.int a t, .int e u, .int m v]) Q E s := by
  refine Calls.call_function_entry kind_pow plain_pow entry_pow3 (args_pow3 _ _ _) ?_
  unfold Builtin.«pow»
  refine wpAny_bind (wpAny_of_eq (a := [some (.int a t), some (.int e u), some (.int m v)]) (by kernel_rfl) ?_)
  show wpAny _ _ (rule "pow.mod" >>= fun _ => _) _ _ s
  refine wpAny_bind (wpAny_rule ?_)
  refine wpAny_bind (wpAny_of_eq (a := .type "int") rfl ?_)
  show wpAny _ _ (typeLookup (.type "int") (Str.ofString "__pow__") >>= fun _ => _) _ _ s
  refine wpAny_bind (wpAny_of_eq slot_int_pow.lookup ?_)
  refine wpAny_bind (m := callSpecial? (.int a t) (Str.ofString "__pow__") [.int e u, .int m v]) (wpAny_callSpecial?_slot (name := Str.ofString "__pow__") (typeIs_int s a t) slot_int_pow
    (wpAny_call_entry slot_int_pow (typeIs_int s a t) entry_int_pow ?_ (args_ipow3 _ _ _)))
  have hk : ∀ r : Int, Is r ((Builtin.powMod (a % m).toNat e.natAbs m.natAbs : Nat) : Int) → ∃ v_1, Fin.done (Flow.ret (Value.int r s.toks)) = Fin.done (Flow.ret v_1) ∧ v_1 ≠ .notImplemented ∧ Q v_1 { s with toks := s.toks + 1 } := fun r hr => ⟨_, rfl, by simp, h r hr (by unfold Is at hr; omega) (by unfold Is at hr; have := powMod_lt (b := (a % m).toNat) (e := e.natAbs) (show 0 < m.natAbs by omega); omega)⟩
  refine wpAny_mono (Q := fun fin s' => ∃ v_1, fin = Fin.done (Flow.ret v_1) ∧ v_1 ≠ .notImplemented ∧ Q v_1 s') ?_ (fun fin s' hq => ?_) fun _ _ x => x
  · have hm0 : (m == 0) = false := by simp; omega
    have hm1 : (m.natAbs == 1) = false := by simp; omega
    have hlt : ¬ e < 0 := by omega
    have hlm : ¬ m < 0 := by omega
    show wpAny _ _ (if (m == 0) = true then _ else _) _ _ s
    rw [hm0, if_neg Bool.false_ne_true]
    show wpAny _ _ (if (m.natAbs == 1) = true then _ else _) _ _ s
    rw [hm1, if_neg Bool.false_ne_true]
    show wpAny _ _ (if e < 0 then _ else _) _ _ s
    rw [if_neg hlt]
    have em : ((m.natAbs : Nat) : Int) = m := by omega
    show wpAny _ _ (retInt (if (decide (m < 0) && ((Builtin.powMod (a % (m.natAbs : Int)).toNat e.natAbs m.natAbs : Nat) : Int) != 0) = true then ((Builtin.powMod (a % (m.natAbs : Int)).toNat e.natAbs m.natAbs : Nat) : Int) - (m.natAbs : Int) else ((Builtin.powMod (a % (m.natAbs : Int)).toNat e.natAbs m.natAbs : Nat) : Int))) _ _ s
    rw [decide_eq_false hlm, Bool.false_and, if_neg Bool.false_ne_true, em]
    exact wpAny_bind (m := mkInt _) (wpAny_mkInt (wpAny_pure (hk _ rfl)))
  · obtain ⟨v_1, rfl, hne, hQ⟩ := hq
    refine ⟨v_1, rfl, ?_⟩
    show wpAny _ _ (if (v_1 != Value.notImplemented) = true then ret v_1 else _) _ _ s'
    rw [if_pos (by simp [hne])]
    exact wpAny_pure ⟨_, rfl, hQ⟩
end
theorem curve_facts {P N A B Gx Gy : Int} (h : (P, N, A, B, Gx, Gy) ∈ curvesL) : 1 < P ∧ P < 128 ∧ 0 ≤ A ∧ A < 128 ∧ 2 < N ∧ N < 128 ∧ 0 ≤ Gx ∧ Gx < P ∧ 0 ≤ Gy ∧ Gy < P := by
  have key : ∀ c ∈ curvesL, 1 < c.1 ∧ c.1 < 128 ∧ 0 ≤ c.2.2.1 ∧ c.2.2.1 < 128 ∧ 2 < c.2.1 ∧ c.2.1 < 128 ∧ 0 ≤ c.2.2.2.2.1 ∧ c.2.2.2.2.1 < c.1 ∧ 0 ≤ c.2.2.2.2.2 ∧ c.2.2.2.2.2 < c.1 := by decide +kernel
  exact key _ h
section
variable {prog : Program} {w : World} {A₁ : Around} {E : Value → Shared → Prop} {s : Shared} {h₀ : Heap} {L : Addr} {news tups : List (Addr × Obj)}
theorem item_cur {value slice : PySem.Expr} {ax : Addr} {vs : List Value} {c : Nat} {k : Int} {u : Tok} {Q : Value → Shared → Prop} (N₁ : News h₀ L s.heap ((ax, lstO vs c) :: (tups ++ news))) (hcv : CurvesAt tups vs) (h0 : 0 ≤ k) (hk : k < 13)
    (h : ∀ (D : Addr) (P N A B Gx Gy : Int) (t1 t2 t3 t4 t5 t6 : Tok) (c' : Nat), (P, N, A, B, Gx, Gy) ∈ curvesL → 1 < P → P < 128 → 0 ≤ A → A < 128 → 2 < N → N < 128 → 0 ≤ Gx → Gx < P → 0 ≤ Gy → Gy < P →
      News h₀ L s.heap ((D, tupO [.int P t1, .int N t2, .int A t3, .int B t4, .int Gx t5, .int Gy t6] c') :: news) → Q (.ref D) s)
    (hs : ∀ ax : Addr, subscripted slice false (.ref ax) (.int k u) = operate [.ref ax, .int k u] (getItem (.ref ax) (.int k u))) :
    wpAny (model prog w) A₁ (subscriptTail value slice (.ref ax) (.int k u)) Q E s := by
  obtain ⟨hl, hv⟩ := hcv
  have hlt : k.toNat < vs.length := by omega
  obtain ⟨D, P, N, A, B, Gx, Gy, t1, t2, t3, t4, t5, t6, c', e, hm, hin⟩ := hv _ (List.getElem_mem hlt)
  obtain ⟨f1, f2, f3, f4, f5, f6, f7, f8, f9, f10⟩ := curve_facts hin
  refine item_lst N₁ (.head _) h0 (by omega) ((List.getElem?_eq_getElem hlt).trans (congrArg some e)) (h D P N A B Gx Gy t1 t2 t3 t4 t5 t6 c' hin f1 f2 f3 f4 f5 f6 f7 f8 f9 f10 fun p hp => ?_) (hs ax)
  rcases List.mem_cons.mp hp with rfl | hp
  · exact N₁ _ (.tail _ (List.mem_append_left _ hm))
  · exact N₁ p (.tail _ (List.mem_append_right _ hp))
end
section
variable {prog : Program} {w : World} {A : Around} {E : Value → Shared → Prop} {s : Shared} {a b : Int} {t u : Tok} {Q : Value → Shared → Prop}
theorem ne_no (e : a = b) (h : a = b → Q (.bool false) s) : wpAny (model prog w) A (compareOp .NotEq (.int a t) (.int b u)) Q E s := ne_int (by rw [bne_eq_false_iff_eq.mpr e]; exact h e)
theorem ne_yes (e : a ≠ b) (h : a ≠ b → Q (.bool true) s) : wpAny (model prog w) A (compareOp .NotEq (.int a t) (.int b u)) Q E s := ne_int (by rw [bne_iff_ne.mpr e]; exact h e)
theorem eq_yes (e : a = b) (h : a = b → Q (.bool true) s) : wpAny (model prog w) A (compareOp .Eq (.int a t) (.int b u)) Q E s := eq_int (by rw [beq_iff_eq.mpr e]; exact h e)
theorem eq_no (e : a ≠ b) (h : a ≠ b → Q (.bool false) s) : wpAny (model prog w) A (compareOp .Eq (.int a t) (.int b u)) Q E s := eq_int (by rw [beq_eq_false_iff_ne.mpr e]; exact h e)
end
section
variable {prog : Program} {w : World} {A : Around} {E : Value → Shared → Prop} {s : Shared} {h₀ : Heap} {L : Addr} {news : List (Addr × Obj)} {ax : Addr} {a b x : Int} {t u v : Tok} {c : Nat} {Q : Value → Shared → Prop}
theorem in_two (N : News h₀ L s.heap news) (hm : (ax, tupO [.int a t, .int b u] c) ∈ news) (e : x = a ∨ x = b) (h : Q (.bool true) s) : wpAny (model prog w) A (compareOp .In (.int x v) (.ref ax)) Q E s := by
  refine in_tuple_ints (ist_of N hm) (.cons a t (.cons b u .nil)) ?_
  have : ([a, b].any fun y => y == x) = true := by rcases e with e | e <;> simp [e]
  rw [this]
  exact h
theorem notin_two (N : News h₀ L s.heap news) (hm : (ax, tupO [.int a t, .int b u] c) ∈ news) (e : x = a ∨ x = b) (h : Q (.bool false) s) : wpAny (model prog w) A (compareOp .NotIn (.int x v) (.ref ax)) Q E s := by
  refine notin_tuple_ints (ist_of N hm) (.cons a t (.cons b u .nil)) ?_
  have : ([a, b].any fun y => y == x) = true := by rcases e with e | e <;> simp [e]
  rw [this]
  exact h
end
section
variable {prog : Program} {w : World} {A : Around} {E : Value → Shared → Prop} {s : Shared} {h₀ : Heap} {L : Addr} {news : List (Addr × Obj)} {ax bx : Addr} {a b a' b' : Int} {t u t' u' : Tok} {c c' : Nat} {Q : Value → Shared → Prop}
theorem eq_two (N : News h₀ L s.heap news) (hm : (ax, tupO [.int a t, .int b u] c) ∈ news) (hm' : (bx, tupO [.int a' t', .int b' u'] c') ∈ news) (hu : A.units < cLine) (e : a = a' ∧ b = b') (h : Q (.bool true) s) : wpAny (model prog w) A (compareOp .Eq (.ref ax) (.ref bx)) Q E s := by
  refine SeqAt.eq_tupleAt (e := fun _ => true) (ist_of N hm) (ist_of N hm') hu (fun j h1 h2 => ?_) h
  obtain ⟨e1, e2⟩ := e
  match j, h1, h2 with
  | 0, _, _ =>
    have := SeqAt.EqAt.int_int (A := A.in1) (s := s) a t a' t'
    rwa [beq_iff_eq.mpr e1] at this
  | 1, _, _ =>
    have := SeqAt.EqAt.int_int (A := A.in1) (s := s) b u b' u'
    rwa [beq_iff_eq.mpr e2] at this
end
theorem any_two {v a b : Int} (h : v = a ∨ v = b) : ([a, b].any fun x => x == v) = true := by
  rcases h with e | e <;> simp [e]
def ordersL : List Nat := [13, 17, 31, 37, 43, 67, 73, 79, 97, 127]
theorem inv_all : ∀ n ∈ ordersL, ∀ k, k < n → 0 < k → (k : Int) * invF k n % n = 1 := by decide +kernel
theorem pow_all : ∀ n ∈ ordersL, ∀ a, a < n → 0 < a → a * Builtin.powMod a (n - 2) n % n = 1 := by decide +kernel
def Ord (N : Int) : Prop := 2 < N ∧ N < 128 ∧ N % 2 = 1 ∧ N.toNat ∈ ordersL
theorem ord_of {P N A B Gx Gy : Int} (h : (P, N, A, B, Gx, Gy) ∈ curvesL) : Ord N := by
  have key : ∀ c ∈ curvesL, 2 < c.2.1 ∧ c.2.1 < 128 ∧ c.2.1 % 2 = 1 ∧ c.2.1.toNat ∈ ordersL := by decide +kernel
  exact key _ h
theorem mod_one {a N : Int} (h : a % N = 1) : ∃ q, a = 1 + N * q := ⟨a / N, by have := Int.mul_ediv_add_emod a N; omega⟩
theorem inv_ok {N k : Int} (h : Ord N) (h0 : 0 < k) (h1 : k < N) : ∃ q, k * invF k N = 1 + N * q := by
  obtain ⟨a, b, _, hm⟩ := h
  have := inv_all N.toNat hm k.toNat (by omega) (by omega)
  rw [Int.toNat_of_nonneg (by omega), Int.toNat_of_nonneg (by omega)] at this
  exact mod_one this
theorem pow_ok {N a p : Int} (h : Ord N) (ha : a % N ≠ 0) (hp : Is p ((Builtin.powMod (a % N).toNat (N - 2).natAbs N.natAbs : Nat) : Int)) : ∃ q, a * p = 1 + N * q := by
  obtain ⟨h0, h1, _, hm⟩ := h
  have b0 := Int.emod_nonneg a (show N ≠ 0 by omega)
  have b1 := Int.emod_lt_of_pos a (show 0 < N by omega)
  have := pow_all N.toNat hm (a % N).toNat (by omega) (by omega)
  have e1 : N.toNat - 2 = (N - 2).natAbs := by omega
  have e2 : N.toNat = N.natAbs := by omega
  rw [e1, e2] at this
  have this := congrArg (fun x : Nat => (x : Int)) this
  simp only [Int.natCast_emod, Int.natCast_mul] at this
  unfold Is at hp
  rw [← hp, Int.toNat_of_nonneg b0, show ((N.natAbs : Nat) : Int) = N by omega] at this
  obtain ⟨q, hq⟩ := mod_one this
  have e3 := Int.mul_ediv_add_emod a N
  exact ⟨q + a / N * p, by grind⟩
theorem nz_mod {a N : Int} (h0 : 0 < a) (h1 : a < N) : a % N ≠ 0 := by rw [Int.emod_eq_of_lt (by omega) h1]; omega
theorem mod_ex {a r N : Int} (h : Is r (a % N)) : ∃ q, r = a + N * q := ⟨-(a / N), by unfold Is at h; have := Int.mul_ediv_add_emod a N; rw [Int.mul_neg]; omega⟩
/-- what one signature tells -/
theorem sign_facts {P N A n d k x y z : Int} {g : Int × Int} (h : Ord N) (h0 : 0 < k) (h1 : k < N) (e : (x, y, z) = signF P N A g n d k) (hz : z ≠ 0) :
    y = (mulF P A g k).1 ∧ 0 < z ∧ 2 * z < N ∧ ∃ s q : Int, z * k = s * (n + y * d) + N * q ∧ ((s = 1 ∧ x = 27 + Builtin.bitXor ((mulF P A g k).2 % 2) 0) ∨ (s = -1 ∧ x = 27 + Builtin.bitXor ((mulF P A g k).2 % 2) 1)) := by
  obtain ⟨qi, hi⟩ := inv_ok h h0 h1
  obtain ⟨a, b, c, hm⟩ := h
  unfold signF at e
  generalize hs : invF k N * (n + (mulF P A g k).1 * d) % N = s at e
  have s0 := Int.emod_nonneg (invF k N * (n + (mulF P A g k).1 * d)) (show N ≠ 0 by omega)
  have s1 := Int.emod_lt_of_pos (invF k N * (n + (mulF P A g k).1 * d)) (show 0 < N by omega)
  rw [hs] at s0 s1
  obtain ⟨q, hq⟩ := mod_ex (show Is s _ from hs.symm)
  generalize (mulF P A g k).2 % 2 = par at e ⊢
  generalize (mulF P A g k).1 = r at e hq ⊢
  generalize invF k N = i at hi hq
  by_cases hl : s * 2 < N
  · rw [if_pos hl, if_pos hl] at e
    obtain ⟨rfl, rfl, rfl⟩ : x = _ ∧ y = _ ∧ z = _ := by simpa using e
    refine ⟨rfl, by omega, by omega, 1, (n + y * d) * qi + q * k, ?_, Or.inl ⟨rfl, rfl⟩⟩
    grind
  · rw [if_neg hl, if_neg hl] at e
    obtain ⟨rfl, rfl, rfl⟩ : x = _ ∧ y = _ ∧ z = _ := by simpa using e
    refine ⟨rfl, by omega, by omega, -1, k - ((n + y * d) * qi + q * k), ?_, Or.inr ⟨rfl, rfl⟩⟩
    grind
/-- the law of _law_stands -/
theorem stands_of {N z k due q s : Int} (hN : 0 < N) (e : z * k = s * due + N * q) (hs : s = 1 ∨ s = -1) (hz : due % N ≠ 0) : z * k % N = due % N ∨ z * k % N = N - due % N := by
  rw [e, Int.add_mul_emod_self_left]
  rcases hs with rfl | rfl
  · left; rw [Int.one_mul]
  · right
    have e1 := Int.mul_ediv_add_emod due N
    have b0 := Int.emod_nonneg due (show N ≠ 0 by omega)
    have b1 := Int.emod_lt_of_pos due hN
    have e2 : -1 * due = (N - due % N) + N * (-(due / N) - 1) := by grind
    rw [e2, Int.add_mul_emod_self_left, Int.emod_eq_of_lt (by omega) (by omega)]
theorem mul_nz {N a b : Int} (h : Ord N) (ha : a % N ≠ 0) (hb : b % N ≠ 0) : (a * b) % N ≠ 0 := by
  intro e
  obtain ⟨q, hq⟩ := pow_ok h hb rfl
  generalize ((Builtin.powMod (b % N).toNat (N - 2).natAbs N.natAbs : Nat) : Int) = p at hq
  have e1 := Int.mul_ediv_add_emod (a * b) N
  rw [e] at e1
  apply ha
  have : a = N * (a * b / N * p - q * a) := by grind
  rw [this, Int.mul_emod_right]
/-- due is not 0 -/
theorem due_nz {N z k due q s : Int} (h : Ord N) (h0 : 0 < k) (h1 : k < N) (hz0 : 0 < z) (hz1 : z < N) (e : z * k = s * due + N * q) : due % N ≠ 0 := by
  intro e0
  refine mul_nz h (nz_mod hz0 hz1) (nz_mod h0 h1) ?_
  have e1 := Int.mul_ediv_add_emod due N
  rw [e0] at e1
  have : z * k = N * (s * (due / N) + q) := by grind
  rw [this, Int.mul_emod_right]
theorem mark_ne (par : Int) (h : par = 0 ∨ par = 1) : 27 + Builtin.bitXor par 0 ≠ 27 + Builtin.bitXor par 1 := by
  rcases h with rfl | rfl <;> decide +kernel
/-- all that the two signatures tell -/
theorem both_facts {P N A n0 n1 d0 d1 k x0 y0 z0 x1 y1 z1 : Int} {g : Int × Int} (h : Ord N) (h0 : 0 < k) (h1 : k < N) (e0 : (x0, y0, z0) = signF P N A g n0 d0 k) (e1 : (x1, y1, z1) = signF P N A g n1 d1 k) (hz0 : z0 ≠ 0) (hz1 : z1 ≠ 0) :
    y0 = (mulF P A g k).1 ∧ y1 = y0 ∧ 0 < z0 ∧ 2 * z0 < N ∧ 0 < z1 ∧ 2 * z1 < N ∧ (z0 * k % N = (n0 + y0 * d0) % N ∨ z0 * k % N = N - (n0 + y0 * d0) % N) ∧ (z1 * k % N = (n1 + y1 * d1) % N ∨ z1 * k % N = N - (n1 + y1 * d1) % N) ∧
    ∃ s : Int, (s = 1 ∨ s = -1) ∧ (∃ q, z0 * k = s * (n0 + y0 * d0) + N * q) ∧ ∀ t : Int, (t = if x0 = x1 then z1 else N - z1) → ∃ q, t * k = s * (n1 + y0 * d1) + N * q := by
  obtain ⟨ry0, a0, b0, s0, q0, w0, m0⟩ := sign_facts h h0 h1 e0 hz0
  obtain ⟨ry1, a1, b1, s1, q1, w1, m1⟩ := sign_facts h h0 h1 e1 hz1
  have hN : 2 < N := h.1
  have ss0 : s0 = 1 ∨ s0 = -1 := by omega
  have ss1 : s1 = 1 ∨ s1 = -1 := by omega
  have ey : y1 = y0 := by rw [ry0, ry1]
  refine ⟨ry0, ey, a0, b0, a1, b1, stands_of (by omega) w0 ss0 (due_nz h h0 h1 a0 (by omega) w0), stands_of (by omega) w1 ss1 (due_nz h h0 h1 a1 (by omega) w1), s0, ss0, ⟨q0, w0⟩, ?_⟩
  intro t ht
  have mk := mark_ne ((mulF P A g k).2 % 2) (by omega)
  generalize 27 + Builtin.bitXor ((mulF P A g k).2 % 2) 0 = a at mk m0 m1
  generalize 27 + Builtin.bitXor ((mulF P A g k).2 % 2) 1 = b at mk m0 m1
  rw [ey] at w1
  by_cases hx : x0 = x1
  · rw [if_pos hx] at ht
    have : s1 = s0 := by omega
    rw [ht, ← this]
    exact ⟨q1, w1⟩
  · rw [if_neg hx] at ht
    have : s1 = -s0 := by omega
    subst this
    rw [ht]
    exact ⟨k - q1, by grind⟩
/-- what a number is that is the nonce or its opposite -/
theorem nonce_or {N k v s q : Int} (hN : 2 < N) (h0 : 0 < k) (h1 : k < N) (hv0 : 0 ≤ v) (hv : v < N) (hs : s = 1 ∨ s = -1) (e : v = s * k + N * q) : v = k ∨ v = N - k := by
  rcases hs with rfl | rfl
  · left
    have : v % N = k % N := by rw [e, Int.add_mul_emod_self_left, Int.one_mul]
    rwa [Int.emod_eq_of_lt hv0 hv, Int.emod_eq_of_lt (by omega) h1] at this
  · right
    have : v % N = (N - k) % N := by
      rw [show v = (N - k) + N * (q - 1) by grind, Int.add_mul_emod_self_left]
    rwa [Int.emod_eq_of_lt hv0 hv, Int.emod_eq_of_lt (by omega) (by omega)] at this
theorem apart_ex {N k t z0 due0 due1 a s : Int} (ha : Is a ((t - z0) % N)) (e0 : ∃ q, z0 * k = s * due0 + N * q) (e1 : ∃ q, t * k = s * due1 + N * q) : ∃ q, a * k = s * (due1 - due0) + N * q := by
  obtain ⟨q0, e0⟩ := e0
  obtain ⟨q1, e1⟩ := e1
  obtain ⟨q, e⟩ := mod_ex ha
  exact ⟨q1 - q0 + q * k, by grind⟩
/-- apart * k is s * m, m not 0: apart is not 0, and m by apart is the nonce or its opposite -/
theorem apart_nz {N k m a s q : Int} (hm : m % N ≠ 0) (hs : s = 1 ∨ s = -1) (e : a * k = s * m + N * q) (h0 : a = 0) : False := by
  apply hm
  subst h0
  have : m = N * (-s * q) := by
    rcases hs with rfl | rfl <;> grind
  rw [this, Int.mul_emod_right]
theorem known_ex {N k m a s q p v : Int} (h : Ord N) (h0 : 0 < k) (h1 : k < N) (ha0 : 0 ≤ a) (ha : a < N) (hm : m % N ≠ 0) (hs : s = 1 ∨ s = -1) (e : a * k = s * m + N * q)
    (hp : Is p ((Builtin.powMod (a % N).toNat (N - 2).natAbs N.natAbs : Nat) : Int)) (hv : Is v (m * p % N)) : ∃ q, v = s * k + N * q := by
  have hne : a ≠ 0 := fun he => apart_nz hm hs e he
  obtain ⟨qp, ep⟩ := pow_ok h (nz_mod (show 0 < a by omega) ha) hp
  obtain ⟨qv, ev⟩ := mod_ex hv
  -- v = m p + N qv; s m = a k - N q; a p = 1 + N qp
  refine ⟨s * (k * qp - q * p) + qv, ?_⟩
  rcases hs with rfl | rfl <;> grind
theorem in_nonce {N k v s : Int} (h : Ord N) (h0 : 0 < k) (h1 : k < N) (hv0 : 0 ≤ v) (hv : v < N) (hs : s = 1 ∨ s = -1) (e : ∃ q, v = s * k + N * q) : v = k ∨ v = N - k := by
  obtain ⟨q, e⟩ := e
  exact nonce_or h.1 h0 h1 hv0 hv hs e
theorem own_is {N k z0 number r secret s v p own : Int} (h : Ord N) (hs : s = 1 ∨ s = -1) (hr : r % N ≠ 0) (e0 : ∃ q, z0 * k = s * (number + r * secret) + N * q) (ev : ∃ q, v = s * k + N * q) (hd0 : 0 < secret) (hd : secret < N)
    (hp : Is p ((Builtin.powMod (r % N).toNat (N - 2).natAbs N.natAbs : Nat) : Int)) (ho : Is own ((z0 * v - number) * p % N)) : own = secret := by
  obtain ⟨q0, e0⟩ := e0
  obtain ⟨qv, ev⟩ := ev
  obtain ⟨qp, ep⟩ := pow_ok h hr hp
  obtain ⟨qo, eo⟩ := mod_ex ho
  have hN := h.1
  have b0 := Int.emod_nonneg ((z0 * v - number) * p) (show N ≠ 0 by omega)
  have b1 := Int.emod_lt_of_pos ((z0 * v - number) * p) (show 0 < N by omega)
  have b2 : own = (z0 * v - number) * p % N := ho
  rw [← b2] at b0 b1
  have : own = secret + N * (secret * qp + s * q0 * p + z0 * qv * p + qo) := by
    rcases hs with rfl | rfl <;> grind
  have e2 : own % N = secret % N := by rw [this, Int.add_mul_emod_self_left]
  rwa [Int.emod_eq_of_lt b0 b1, Int.emod_eq_of_lt (by omega) hd] at e2
/-- what _law_stands is asked -/
def StE (N k number secret y z : Int) : Prop := z * k % N = (number + y * secret) % N ∨ z * k % N = N - (number + y * secret) % N
/-- what the two signatures tell of the nonce -/
def Told (N k n0 n1 d0 d1 y0 x0 z0 x1 z1 : Int) : Prop := ∃ s : Int, (s = 1 ∨ s = -1) ∧ (∃ q, z0 * k = s * (n0 + y0 * d0) + N * q) ∧ ∀ t : Int, (t = if x0 = x1 then z1 else N - z1) → ∃ q, t * k = s * (n1 + y0 * d1) + N * q
theorem told_facts {P N A n0 n1 d0 d1 k x0 y0 z0 x1 y1 z1 : Int} {g : Int × Int} (h : Ord N) (h0 : 0 < k) (h1 : k < N) (e0 : (x0, y0, z0) = signF P N A g n0 d0 k) (e1 : (x1, y1, z1) = signF P N A g n1 d1 k) (hz0 : z0 ≠ 0) (hz1 : z1 ≠ 0) :
    Is y0 (mulF P A g k).1 ∧ y1 = y0 ∧ 0 < z0 ∧ 2 * z0 < N ∧ 0 < z1 ∧ 2 * z1 < N ∧ StE N k n0 d0 y0 z0 ∧ StE N k n1 d1 y1 z1 ∧ Told N k n0 n1 d0 d1 y0 x0 z0 x1 z1 := both_facts h h0 h1 e0 e1 hz0 hz1
theorem fst_is {P A k x y r : Int} {g : Int × Int} (h : Is r (mulF P A g k).1) (e : (x, y) = mulF P A g k) : x = r := by
  unfold Is at h
  rw [h, ← e]
theorem same_pt {P A k k' x y x' y' : Int} {g : Int × Int} (e : (x, y) = mulF P A g k) (e' : (x', y') = mulF P A g k') (h : k = k') : x = x' ∧ y = y' := by
  subst h
  simpa using e.trans e'.symm
/-- way 0: unlike numbers, one secret -/
theorem way0_ex {N k number more secret y0 x0 z0 x1 z1 t a : Int} (T : Told N k number (number + more) secret secret y0 x0 z0 x1 z1) (ht : t = if x0 = x1 then z1 else N - z1) (ha : Is a ((t - z0) % N)) :
    ∃ s, (s = 1 ∨ s = -1) ∧ (∃ q, z0 * k = s * (number + y0 * secret) + N * q) ∧ ∃ q, a * k = s * more + N * q := by
  obtain ⟨s, hs, e0, e1⟩ := T
  obtain ⟨q, e⟩ := apart_ex ha e0 (e1 t ht)
  exact ⟨s, hs, e0, q, by grind⟩
theorem way0_nz {N k number more secret y0 x0 z0 x1 z1 t a : Int} (T : Told N k number (number + more) secret secret y0 x0 z0 x1 z1) (ht : t = if x0 = x1 then z1 else N - z1) (ha : Is a ((t - z0) % N)) (hm0 : 0 < more) (hm : more < N) : a ≠ 0 := by
  obtain ⟨s, hs, _, q, e⟩ := way0_ex T ht ha
  exact fun h0 => apart_nz (nz_mod hm0 hm) hs e h0
theorem way0_known {N k number more secret y0 x0 z0 x1 z1 t a p v : Int} (T : Told N k number (number + more) secret secret y0 x0 z0 x1 z1) (h : Ord N) (h0 : 0 < k) (h1 : k < N) (ht : t = if x0 = x1 then z1 else N - z1) (ha : Is a ((t - z0) % N)) (ha0 : 0 ≤ a) (ha1 : a < N) (hm0 : 0 < more) (hm : more < N)
    (hp : Is p ((Builtin.powMod (a % N).toNat (N - 2).natAbs N.natAbs : Nat) : Int)) (hv : Is v (more * p % N)) (hv0 : 0 ≤ v) (hv1 : v < N) : v = k ∨ v = N - k := by
  obtain ⟨s, hs, _, q, e⟩ := way0_ex T ht ha
  exact in_nonce h h0 h1 hv0 hv1 hs (known_ex h h0 h1 ha0 ha1 (nz_mod hm0 hm) hs e hp hv)
theorem way0_own {N k number more secret y0 x0 z0 x1 z1 t a p v p' own : Int} (T : Told N k number (number + more) secret secret y0 x0 z0 x1 z1) (h : Ord N) (h0 : 0 < k) (h1 : k < N) (ht : t = if x0 = x1 then z1 else N - z1) (ha : Is a ((t - z0) % N)) (ha0 : 0 ≤ a) (ha1 : a < N) (hm0 : 0 < more) (hm : more < N)
    (hp : Is p ((Builtin.powMod (a % N).toNat (N - 2).natAbs N.natAbs : Nat) : Int)) (hv : Is v (more * p % N)) (hr : y0 % N ≠ 0) (hd0 : 0 < secret) (hd : secret < N)
    (hp' : Is p' ((Builtin.powMod (y0 % N).toNat (N - 2).natAbs N.natAbs : Nat) : Int)) (ho : Is own ((z0 * v - number) * p' % N)) : own = secret := by
  obtain ⟨s, hs, e0, q, e⟩ := way0_ex T ht ha
  exact own_is h hs hr e0 (known_ex h h0 h1 ha0 ha1 (nz_mod hm0 hm) hs e hp hv) hd0 hd hp' ho
/-- way 1: one number, two secrets -/
theorem way1_ex {N k number more d0 d1 y0 x0 z0 x1 z1 t a : Int} (T : Told N k number number d0 d1 y0 x0 z0 x1 z1) (hd : ∃ q, d1 = d0 + more + N * q) (ht : t = if x0 = x1 then z1 else N - z1) (ha : Is a ((t - z0) % N)) :
    ∃ s, (s = 1 ∨ s = -1) ∧ ∃ q, a * k = s * (y0 * more) + N * q := by
  obtain ⟨s, hs, e0, e1⟩ := T
  obtain ⟨q, e⟩ := apart_ex ha e0 (e1 t ht)
  obtain ⟨qd, hd⟩ := hd
  subst hd
  exact ⟨s, hs, q + s * y0 * qd, by grind⟩
theorem way1_nz {N k number more d0 d1 y0 x0 z0 x1 z1 t a : Int} (T : Told N k number number d0 d1 y0 x0 z0 x1 z1) (h : Ord N) (hd : ∃ q, d1 = d0 + more + N * q) (ht : t = if x0 = x1 then z1 else N - z1) (ha : Is a ((t - z0) % N)) (hr : y0 % N ≠ 0) (hm0 : 0 < more) (hm : more < N) : a ≠ 0 := by
  obtain ⟨s, hs, q, e⟩ := way1_ex T hd ht ha
  exact fun h0 => apart_nz (mul_nz h hr (nz_mod hm0 hm)) hs e h0
theorem way1_known {N k number more d0 d1 y0 x0 z0 x1 z1 t a p v : Int} (T : Told N k number number d0 d1 y0 x0 z0 x1 z1) (h : Ord N) (h0 : 0 < k) (h1 : k < N) (hd : ∃ q, d1 = d0 + more + N * q) (ht : t = if x0 = x1 then z1 else N - z1) (ha : Is a ((t - z0) % N)) (hr : y0 % N ≠ 0) (ha0 : 0 ≤ a) (ha1 : a < N) (hm0 : 0 < more) (hm : more < N)
    (hp : Is p ((Builtin.powMod (a % N).toNat (N - 2).natAbs N.natAbs : Nat) : Int)) (hv : Is v (y0 * more * p % N)) (hv0 : 0 ≤ v) (hv1 : v < N) : v = k ∨ v = N - k := by
  obtain ⟨s, hs, q, e⟩ := way1_ex T hd ht ha
  exact in_nonce h h0 h1 hv0 hv1 hs (known_ex h h0 h1 ha0 ha1 (mul_nz h hr (nz_mod hm0 hm)) hs e hp hv)
theorem two_secrets {N d0 d1 more : Int} (h : Is d1 ((d0 + more) % N)) : ∃ q, d1 = d0 + more + N * q := mod_ex h
theorem two_secrets0 {N d0 : Int} : ∃ q, N = d0 + (N - d0) + N * q := ⟨0, by omega⟩
local macro_rules | `(tactic| walk_at "eval Call Name cons nil") => `(tactic| refine Call_ ?_)
local macro_rules | `(tactic| walk_at "eval Call Name nil nil") => `(tactic| refine Call_ ?_)
local macro_rules | `(tactic| walk_at "law fact") => `(tactic| first | omega | exact way1_nz (by assumption) (by assumption) (two_secrets (by assumption)) (by assumption) (by assumption) (by assumption) (by omega) (by omega) | exact way1_nz (by assumption) (by assumption) two_secrets0 (by assumption) (by assumption) (by assumption) (by omega) (by omega) | exact way0_nz (by assumption) (by assumption) (by assumption) (by omega) (by omega) | exact way0_own (by assumption) (by assumption) (by assumption) (by assumption) (by assumption) (by assumption) (by assumption) (by assumption) (by omega) (by omega) (by assumption) (by assumption) (by assumption) (by omega) (by omega) (by assumption) (by assumption))
local macro_rules | `(tactic| walk_at "law known") => `(tactic| first | exact way1_known (by assumption) (by assumption) (by assumption) (by assumption) (two_secrets (by assumption)) (by assumption) (by assumption) (by assumption) (by assumption) (by assumption) (by omega) (by omega) (by assumption) (by assumption) (by assumption) (by assumption) | exact way1_known (by assumption) (by assumption) (by assumption) (by assumption) two_secrets0 (by assumption) (by assumption) (by assumption) (by assumption) (by assumption) (by omega) (by omega) (by assumption) (by assumption) (by assumption) (by assumption) | exact way0_known (by assumption) (by assumption) (by assumption) (by assumption) (by assumption) (by assumption) (by assumption) (by assumption) (by omega) (by omega) (by assumption) (by assumption) (by assumption) (by assumption))
local macro_rules | `(tactic| walk_at "compareOp In int ref") => `(tactic| (k_here; k_dflt (refine' in_two ?zN ?zm ?ze ?_; (case zN => k_asm); (case zm => walk_at "mine mem"); (case ze => walk_at "law known"))))
local macro_rules | `(tactic| walk_at "compareOp Eq ref ref") => `(tactic| (k_here; k_dflt (refine' eq_two ?zN ?zm ?zp ?zu ?ze ?_; (case zN => k_asm); (case zm => walk_at "mine mem"); (case zp => walk_at "mine mem"); (case zu => units_room); (case ze => exact same_pt (by assumption) (by assumption) (by omega)))))
local macro_rules | `(tactic| walk_at "compareOp NotIn int ref") => `(tactic| (k_here; k_dflt (refine' notin_two ?zN ?zm ?ze ?_; (case zN => k_asm); (case zm => walk_at "mine mem"); (case ze => walk_at "law known"))))
local macro_rules | `(tactic| walk_at "compareOp NotEq int int") => `(tactic| (dsimp only; first | (with_reducible refine ne_no ?_ ?_; walk_at "law fact"; intro _) | (with_reducible refine ne_yes ?_ ?_; walk_at "law fact"; intro _) | with_reducible refine ne_int ?_))
local macro_rules | `(tactic| walk_at "compareOp Eq int int") => `(tactic| (dsimp only; first | (with_reducible refine eq_no ?_ ?_; walk_at "law fact"; intro _) | (with_reducible refine eq_yes ?_ ?_; walk_at "law fact"; intro _) | with_reducible refine eq_int ?_))
local macro_rules | `(tactic| walk_at "mine curve") => `(tactic| (k_here; (with_reducible show wpAny _ _ (subscriptTail _ _ (Value.ref _) (Value.int _ _)) _ _ _); k_dflt (refine' item_cur ?N ?c ?a ?b ?_ ?e; (case N => k_asm); (case c => assumption); (case a => omega); (case b => omega); (case e => (intro _; with_unfolding_all rfl)); (intro D9 P9 N9 A9 B9 Gx9 Gy9 t1 t2 t3 t4 t5 t6 c9 hin9 f1 f2 f3 f4 f5 f6 f7 f8 f9 f10 NN9); (try k_fold))))
local macro_rules | `(tactic| walk_at "subscriptTail Name BinOp ref int") => `(tactic| walk_at "mine curve")
local macro_rules | `(tactic| walk_at "subscriptTail Call Name nil nil BinOp ref int") => `(tactic| walk_at "mine curve")
local macro_rules | `(tactic| walk_at "call builtin:pow") => `(tactic| (k_here; k_dflt (refine pow3 ?_ ?_ ?_; omega; omega; intro _ _ _ _)))
set_option maxHeartbeats 40000000 in
theorem law_walk : PySem.Challenge.rw_af0012_01.Holds := hd (by
  w_top off
  k_with_none
  (k_with "call ref" => (k_here; k_dflt (refine' Says.useT2 (c_priv _ _ _ _ _ ?zp0 ?zp1 ?zp2 ?zp3 ?zp4 ?zp5 ?zp6 ?zp7 ?zp8 ?zp9 ?zp10 ?zp11 ?zp12 ?zp13) ?zk1 ?zk2 ?zk3 ?zk4 ?zk5 ?zkK ?zkd ?zku ?_; (case zk1 => k_asm); (case zk2 => k_asm); (case zk3 => k_asm); (case zk4 => k_asm); (case zk5 => k_asm); (case zkK => first | exact rfl | assumption); (case zp0 => first | assumption | exact b1_ints (by omega) (by omega)); (case zp1 => walk_at "mine mem"); (case zp2 => first | with_reducible assumption | omega); (case zp3 => first | with_reducible assumption | omega); (case zp4 => first | with_reducible assumption | omega); (case zp5 => first | with_reducible assumption | omega); (case zp6 => first | with_reducible assumption | omega); (case zp7 => first | with_reducible assumption | omega); (case zp8 => first | with_reducible assumption | omega); (case zp9 => first | with_reducible assumption | omega); (case zp10 => first | with_reducible assumption | omega); (case zp11 => first | with_reducible assumption | omega); (case zp12 => first | with_reducible assumption | omega); (case zp13 => first | with_reducible assumption | omega); (case zkd => ktr_room); (case zku => ktr_units); intro r9 x9 y9 t9 u9 c9 h9 tk9 P9 F9 N9; (try simp only [In0] at P9); obtain ⟨_, ⟨_, _⟩, _, _⟩ := P9; (try k_sweep); (try dsimp only); (try k_fold))))
  (k_with "call ref" => (k_here; k_dflt (refine' Says.useT2 (c_mul _ _ _ _ _ ?zp0 ?zp1 ?zp2 ?zp3 ?zp4 ?zp5 ?zp6 ?zp7 ?zp8 ?zp9 ?zp10 ?zp11 ?zp12) ?zk1 ?zk2 ?zk3 ?zk4 ?zk5 ?zkK ?zkd ?zku ?_; (case zk1 => k_asm); (case zk2 => k_asm); (case zk3 => k_asm); (case zk4 => k_asm); (case zk5 => k_asm); (case zkK => first | exact rfl | assumption); (case zp0 => walk_at "mine mem"); (case zp1 => walk_at "mine mem"); (case zp2 => first | with_reducible assumption | omega); (case zp3 => first | with_reducible assumption | omega); (case zp4 => first | with_reducible assumption | omega); (case zp5 => first | with_reducible assumption | omega); (case zp6 => first | with_reducible assumption | omega); (case zp7 => first | with_reducible assumption | omega); (case zp8 => first | with_reducible assumption | omega); (case zp9 => first | with_reducible assumption | omega); (case zp10 => first | with_reducible assumption | omega); (case zp11 => first | with_reducible assumption | omega); (case zp12 => first | with_reducible assumption | omega); (case zkd => ktr_room); (case zku => ktr_units); intro r9 x9 y9 t9 u9 c9 h9 tk9 P9 F9 N9; (try simp only [In0] at P9); obtain ⟨_, ⟨_, _⟩, _, _⟩ := P9; (try have w9 := fst_is (by assumption) (by assumption)); (try k_sweep); (try dsimp only); (try k_fold))))
  (k_with "call ref" => (k_here; k_dflt (refine' Says.use (c_turn _ _ _ _ _ ?zp0 ?zp1) ?zk1 ?zk2 ?zk3 ?zk4 ?zk5 ?zkK ?zkd ?zku ?_; (case zk1 => k_asm); (case zk2 => k_asm); (case zk3 => k_asm); (case zk4 => k_asm); (case zk5 => k_asm); (case zkK => first | exact rfl | assumption); (case zp0 => walk_at "mine mem"); (case zp1 => walk_at "mine mem"); (case zkd => ktr_room); (case zku => ktr_units); intro y9 t9 h9 tk9 P9 F9 N9; (try k_sweep); (try dsimp only); (try k_fold))))
  (k_with "call ref" => (k_here; k_dflt (refine' Says.use (c_stand _ _ _ _ _ ?zp0 ?zp1 ?zp2 ?zp3 ?zp4 ?zp5 ?zp6 ?zp7 ?zp8 ?zp9) ?zk1 ?zk2 ?zk3 ?zk4 ?zk5 ?zkK ?zkd ?zku ?_; (case zk1 => k_asm); (case zk2 => k_asm); (case zk3 => k_asm); (case zk4 => k_asm); (case zk5 => k_asm); (case zkK => first | exact rfl | assumption); (case zp0 => walk_at "mine mem"); (case zp1 => first | with_reducible assumption | omega); (case zp2 => first | with_reducible assumption | omega); (case zp3 => first | with_reducible assumption | omega); (case zp4 => first | with_reducible assumption | omega); (case zp5 => first | with_reducible assumption | omega); (case zp6 => first | with_reducible assumption | omega); (case zp7 => first | with_reducible assumption | omega); (case zp8 => first | with_reducible assumption | omega); (case zp9 => show StE _ _ _ _ _ _; assumption); (case zkd => ktr_room); (case zku => ktr_units); intro y9 h9 tk9 P9 F9 N9; subst P9; (try k_sweep); (try dsimp only); (try k_fold))))
  (k_with "call ref" => (k_here; k_dflt (refine' Says.use (c_both _ _ _ _ _ ?zp0 ?zp1 ?zp2 ?zp3 ?zp4 ?zp5 ?zp6 ?zp7 ?zp8 ?zp9 ?zp10 ?zp11 ?zp12 ?zp13 ?zp14 ?zp15 ?zp16 ?zp17 ?zp18 ?zp19 ?zp20 ?zp21) ?zk1 ?zk2 ?zk3 ?zk4 ?zk5 ?zkK ?zkd ?zku ?_; (case zk1 => k_asm); (case zk2 => k_asm); (case zk3 => k_asm); (case zk4 => k_asm); (case zk5 => k_asm); (case zkK => first | exact rfl | assumption); (case zp0 => walk_at "mine mem"); (case zp1 => walk_at "mine mem"); (case zp2 => walk_at "mine mem"); (case zp3 => first | with_reducible assumption | omega); (case zp4 => first | with_reducible assumption | omega); (case zp5 => first | with_reducible assumption | omega); (case zp6 => first | with_reducible assumption | omega); (case zp7 => first | with_reducible assumption | omega); (case zp8 => first | with_reducible assumption | omega); (case zp9 => first | with_reducible assumption | omega); (case zp10 => first | with_reducible assumption | omega); (case zp11 => first | with_reducible assumption | omega); (case zp12 => first | with_reducible assumption | omega); (case zp13 => first | with_reducible assumption | omega); (case zp14 => first | with_reducible assumption | omega); (case zp15 => first | with_reducible assumption | omega); (case zp16 => first | with_reducible assumption | omega); (case zp17 => first | with_reducible assumption | omega); (case zp18 => first | with_reducible assumption | omega); (case zp19 => first | with_reducible assumption | omega); (case zp20 => first | with_reducible assumption | omega); (case zp21 => first | with_reducible assumption | omega); (case zkd => ktr_room); (case zku => ktr_units); ((refine And.intro ?_ ?_) <;> (first | (intro r9 l9 a9 b9 x0 y0 z0 x1 y1 z1 k9 u0 u1 u2 u3 u4 u5 u6 v0 v1 v2 v3 h9 tk9 e0 e1 k0 k1 P0 P1 P2 P3 q0 q1 q2 F9 N9; simp only [In0] at P0 P1 P2 P3; obtain ⟨_, _⟩ := P0; obtain ⟨_, _⟩ := P1; obtain ⟨_, _⟩ := P2; obtain ⟨_, _⟩ := P3; have o9 := ord_of (by assumption : (_, _, _, _, _, _) ∈ curvesL); obtain ⟨G1, G2, G3, G4, G5, G6, G7, G8, G9⟩ := told_facts o9 k0 k1 e0 e1 q1 q2; (try k_sweep); (try dsimp only); (try k_fold)) | (intro h9 tk9 F9 N9; (try k_sweep); (try dsimp only); (try k_fold)))))))
  (k_with "call ref" => (k_here; k_dflt (refine' Says.use (c_at _ _ _ _ _ ?zp0 ?zp1 ?zp2 ?zp3) ?zk1 ?zk2 ?zk3 ?zk4 ?zk5 ?zkK ?zkd ?zku ?_; (case zk1 => k_asm); (case zk2 => k_asm); (case zk3 => k_asm); (case zk4 => k_asm); (case zk5 => k_asm); (case zkK => first | exact rfl | assumption); (case zp0 => assumption); (case zp1 => first | with_reducible assumption | omega); (case zp2 => first | with_reducible assumption | omega); (case zp3 => first | with_reducible assumption | omega); (case zkd => ktr_room); (case zku => ktr_units); refine ⟨by assumption, ?_⟩; intro y9 t9 h9 tk9 F9 N9; (try k_sweep); (try dsimp only); (try k_fold))))
  (k_with "call ref" => (k_here; k_dflt (refine' Says.use (c_cur _ _ _ _ _ ) ?zk1 ?zk2 ?zk3 ?zk4 ?zk5 ?zkK ?zkd ?zku ?_; (case zk1 => k_asm); (case zk2 => k_asm); (case zk3 => k_asm); (case zk4 => k_asm); (case zk5 => k_asm); (case zkK => first | exact rfl | assumption);  (case zkd => ktr_room); (case zku => ktr_units); unfold RetCur; intro l9 vs9 c9 tups9 h9 tk9 hcv9 F9 N9; (try k_sweep); (try dsimp only); (try k_fold))))
  k_go0
  (all_goals try k_fold)
  k_steps)
end Mine
theorem PySem.Challenge.cw_af0012_01_holds : PySem.Challenge.rw_af0012_01.Holds :=
  Mine.law_walk
