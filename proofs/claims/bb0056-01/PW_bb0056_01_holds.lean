import PyProof.Rows.All
import Wide.All
import OpenK.AllK
import Wide.FinOn
import PySem.Challenge.RW_bb0056_01
open PySem PySem.W PyProof.Rows PySem.Calls PySem.Spec
set_option Elab.async false
set_option maxRecDepth 100000
namespace Mine
set_option maxHeartbeats 8000000
open_top hd for PySem.Challenge.rw_bb0056_01
end Mine
namespace Mine
/-- a proposition that no search takes -/
structure Hid (P : Prop) : Prop where
  out : P
end Mine
-- part Base
namespace Mine
/-- an int of at most k bits, with a sign -/
def Bd (k : Nat) (x : Int) : Prop := x.natAbs ≤ 2 ^ k
theorem Bd.mul {j k : Nat} {a b : Int} (h : Bd j a) (g : Bd k b) : Bd (j + k) (a * b) := by
  unfold Bd at *
  rw [Int.natAbs_mul, Nat.pow_add]
  exact Nat.mul_le_mul h g
theorem Bd.mono {j k : Nat} {a : Int} (h : Bd j a) (g : j ≤ k) : Bd k a :=
  Nat.le_trans h (Nat.pow_le_pow_right (by decide) g)
theorem Bd.add {j k : Nat} {a b : Int} (h : Bd j a) (g : Bd k b) : Bd (j + k + 1) (a + b) := by
  have h1 := h.mono (show j ≤ j + k by omega)
  have h2 := g.mono (show k ≤ j + k by omega)
  unfold Bd at *
  rw [Nat.pow_succ]
  omega
theorem Bd.sub {j k : Nat} {a b : Int} (h : Bd j a) (g : Bd k b) : Bd (j + k + 1) (a - b) := by
  have h1 := h.mono (show j ≤ j + k by omega)
  have h2 := g.mono (show k ≤ j + k by omega)
  unfold Bd at *
  rw [Nat.pow_succ]
  omega
theorem Bd.pow {j n : Nat} {a : Int} (h : Bd j a) : Bd (j * n) (a ^ n) := by
  unfold Bd at *
  rw [Int.natAbs_pow, Nat.pow_mul]
  exact Nat.pow_le_pow_left h n
theorem Bd.var {a : Int} (h0 : 0 ≤ a) (h1 : a < 32) : Bd 5 a := by
  unfold Bd; omega
theorem Bd.small {a : Int} (h0 : -1024 ≤ a) (h1 : a ≤ 1024) : Bd 10 a := by
  unfold Bd; omega
theorem Bd.fits {k : Nat} {a : Int} (h : Bd k a) (hk : k ≤ 63) : a.natAbs < 2 ^ 64 := by
  unfold Bd at h
  exact Nat.lt_of_le_of_lt h (Nat.pow_lt_pow_right (by decide) (by omega))
theorem mul_ok {a b : Int} {k : Nat} (h : Bd k b) (hk : k ≤ 62) : IntMulOk a b := by
  refine IntMulOk.of_right (PySem.intBits_le_64 ?_ ?_)
  all_goals
    have h1 : b.natAbs ≤ 2 ^ 62 := h.mono hk
    have e : (2 : Nat) ^ 62 = 4611686018427387904 := by decide
    rw [e] at h1
    omega
section
variable {prog : Program} {w : World} {A : Around} {E : Value → Shared → Prop} {s : Shared} {Q : Value → Shared → Prop} {a b : Int} {t u : Tok}
theorem mul_b {k : Nat} (hk : Bd k b) (hk2 : k ≤ 62) (h : Q (.int (a * b) s.toks) { s with toks := s.toks + 1 }) : wpAny (model prog w) A (binaryOp .Mult (.int a t) (.int b u)) Q E s :=
  mul_int h (mul_ok hk hk2)
theorem pow_b {k j : Nat} {n : Int} (hj : n.toNat = j) (hk : Bd k a) (hk2 : k ≤ 63) (hn : 0 ≤ n) (hn2 : n ≤ 1000000) (h : Q (.int (a ^ j) s.toks) { s with toks := s.toks + 1 }) : wpAny (model prog w) A (binaryOp .Pow (.int a t) (.int n u)) Q E s := by
  subst hj
  exact pow_int_small hn hn2 (hk.fits hk2) h
theorem to2 : Int.toNat 2 = 2 := rfl
theorem to3 : Int.toNat 3 = 3 := rfl
theorem to4 : Int.toNat 4 = 4 := rfl
theorem mod_b (hb : 0 < b) (h : ∀ r, r = a.fmod b → 0 ≤ r → r < b → Q (.int r s.toks) { s with toks := s.toks + 1 }) : wpAny (model prog w) A (binaryOp .Mod (.int a t) (.int b u)) Q E s :=
  mod_int' (by omega) (h _ rfl (Int.fmod_nonneg_of_pos a hb) (Int.fmod_lt_of_pos a hb))
end
end Mine
-- part Base2
namespace Mine
abbrev tupo (vs : List Value) (c : Nat) : Obj := { cls := .type "tuple", data := .seq vs.toArray c }
abbrev tup2 (x y : Int) (t1 t2 : Tok) (c : Nat) : Obj := tupo [.int x t1, .int y t2] c
abbrev tup3 (x y z : Int) (t1 t2 t3 : Tok) (c : Nat) : Obj := tupo [.int x t1, .int y t2, .int z t3] c
abbrev tup6 (x1 x2 x3 x4 x5 x6 : Int) (t1 t2 t3 t4 t5 t6 : Tok) (c : Nat) : Obj := tupo [.int x1 t1, .int x2 t2, .int x3 t3, .int x4 t4, .int x5 t5, .int x6 t6] c
abbrev Led := List (Addr × Obj)

/-- a call from any frame: `K` says what comes back -/
def Calls1 (w : World) (need : Nat) (f : Addr) (vs : List Value) (news : Led)
    (K : (Heap → Led → Prop) → (Value → Heap → Nat → Prop) → Prop) : Prop :=
  ∀ {mean : ExcName → Option Value} {mg mb : Str → Option Value} {dp un : Nat} {gd : Option (List Code)} {cn : Str} {cs : Scope} {a : Addr} {ccd : Value} {cl : List (Str × Addr)} {outer : List Env} {A₀ : Around} {base h₀ : Heap} {L : Addr} {m : Str → Option Value} {s : Shared} {Q E : Value → Shared → Prop},
    Below A₀ base outer h₀ → Fr h₀ L s.heap m → Frag.In (hd.heap_39 w.params) h₀ → News h₀ L s.heap news → Top hd.view_39 (looseW hd.view_39 []) mean mg mb h₀ → cs.kind = .function →
    dp + need < recursionLimit → un + 8 * need < cLine →
    K (fun h' nx => Fr h₀ L h' m ∧ News h₀ L h' nx) (fun v h' tk' => Q v { s with heap := h', toks := tk' }) →
    wpAny (model Challenge.rw_bb0056_01.row.prog w) (ktrTop dp un gd cn cs L a ccd cl outer) (call (.ref f) vs) Q E s

def Pure3 (w : World) (need : Nat) (f : Addr) (vs : List Value) (news : Led) (r : Int × Int × Int) : Prop :=
  Calls1 w need f vs news fun G Q => ∀ (D : Addr) (t1 t2 t3 : Tok) (c : Nat) (h' : Heap) (tk' : Nat), G h' ((D, tup3 r.1 r.2.1 r.2.2 t1 t2 t3 c) :: news) → Q (.ref D) h' tk'
def Pure2 (w : World) (need : Nat) (f : Addr) (vs : List Value) (news : Led) (r : Int × Int) : Prop :=
  Calls1 w need f vs news fun G Q => ∀ (D : Addr) (t1 t2 : Tok) (c : Nat) (h' : Heap) (tk' : Nat), G h' ((D, tup2 r.1 r.2 t1 t2 c) :: news) → Q (.ref D) h' tk'
def PureI (w : World) (need : Nat) (f : Addr) (vs : List Value) (news : Led) (r : Int) : Prop :=
  Calls1 w need f vs news fun G Q => ∀ (t : Tok) (h' : Heap) (tk' : Nat), G h' news → Q (.int r t) h' tk'

theorem news_in1 {h₀ h : Heap} {L : Addr} {news : Led} {a : Addr × Obj} (N : News h₀ L h news) (ha : a ∈ news) : News h₀ L h (a :: news) :=
  fun p hp => (List.mem_cons.mp hp).elim (fun e => e ▸ N _ ha) (N p)
theorem news_out1 {h₀ h : Heap} {L : Addr} {news : Led} {a d : Addr × Obj} (N : News h₀ L h (d :: a :: news)) : News h₀ L h (d :: news) :=
  fun p hp => (List.mem_cons.mp hp).elim (fun e => e ▸ N _ (.head _)) (fun h => N p (.tail _ (.tail _ h)))
theorem news_sub {h₀ h : Heap} {L : Addr} {news news' : Led} (N : News h₀ L h news) (hs : ∀ p ∈ news', p ∈ news) : News h₀ L h news' := fun p hp => N p (hs p hp)

/-- the value of jacobian_double -/
def jdblF (P A : Int) (p : Int × Int × Int) : Int × Int × Int :=
  if p.2.1 = 0 then (0, 0, 0) else
  let ysq := (p.2.1 ^ 2).fmod P
  let S := (4 * p.1 * ysq).fmod P
  let M := (3 * p.1 ^ 2 + A * p.2.2 ^ 4).fmod P
  let nx := (M ^ 2 - 2 * S).fmod P
  let ny := (M * (S - nx) - 8 * ysq ^ 2).fmod P
  let nz := (2 * p.2.1 * p.2.2).fmod P
  (nx, ny, nz)
/-- the value of jacobian_add -/
def jaddF (P A : Int) (p q : Int × Int × Int) : Int × Int × Int :=
  if p.2.1 = 0 then q else if q.2.1 = 0 then p else
  let U1 := (p.1 * q.2.2 ^ 2).fmod P
  let U2 := (q.1 * p.2.2 ^ 2).fmod P
  let S1 := (p.2.1 * q.2.2 ^ 3).fmod P
  let S2 := (q.2.1 * p.2.2 ^ 3).fmod P
  if U1 = U2 then (if S1 ≠ S2 then (0, 0, 1) else jdblF P A p) else
  let H := U2 - U1
  let R := S2 - S1
  let H2 := (H * H).fmod P
  let H3 := (H * H2).fmod P
  let U1H2 := (U1 * H2).fmod P
  let nx := (R ^ 2 - H3 - 2 * U1H2).fmod P
  let ny := (R * (U1H2 - nx) - S1 * H3).fmod P
  let nz := (H * p.2.2 * q.2.2).fmod P
  (nx, ny, nz)
/-- the value of inv, for a prime n of the law's and 0 ≤ a < n -/
def invF (n a : Int) : Int := (a ^ (n - 2).toNat).fmod n
/-- the value of from_jacobian -/
def fromF (P : Int) (p : Int × Int × Int) : Int × Int :=
  let z := invF P p.2.2
  ((p.1 * z ^ 2).fmod P, (p.2.1 * z ^ 3).fmod P)
/-- the value of add -/
def addF (P A : Int) (a b : Int × Int) : Int × Int := fromF P (jaddF P A (a.1, a.2, 1) (b.1, b.2, 1))
/-- the value of jacobian_multiply, with some fuel -/
def jmulF (P N A : Int) : Nat → Int × Int × Int → Int → Int × Int × Int
  | 0, _, _ => (0, 0, 1)
  | k + 1, a, n =>
    if a.2.1 = 0 ∨ n = 0 then (0, 0, 1) else
    if n = 1 then a else
    if n < 0 ∨ n ≥ N then jmulF P N A k a (n.fmod N) else
    if n.fmod 2 = 0 then jdblF P A (jmulF P N A k a (n.fdiv 2)) else
    jaddF P A (jdblF P A (jmulF P N A k a (n.fdiv 2))) a
/-- a coordinate -/
abbrev Co (x : Int) : Prop := 0 ≤ x ∧ x < 32
abbrev Co3 (p : Int × Int × Int) : Prop := Co p.1 ∧ Co p.2.1 ∧ Co p.2.2
abbrev PrimeL (P : Int) : Prop := P = 7 ∨ P = 11 ∨ P = 19 ∨ P = 23 ∨ P = 31
section
variable {w : World} {need : Nat} {f : Addr} {vs : List Value} {news : Led} {mean : ExcName → Option Value} {mg mb : Str → Option Value} {dp un : Nat} {gd : Option (List Code)} {cn : Str} {cs : Scope} {a : Addr} {ccd : Value} {cl : List (Str × Addr)} {outer : List Env} {A₀ : Around} {base h₀ : Heap} {L : Addr} {m : Str → Option Value} {s : Shared} {Q E : Value → Shared → Prop}
theorem Pure3.use {r : Int × Int × Int} (C : Pure3 w need f vs news r) (B : Below A₀ base outer h₀) (F : Fr h₀ L s.heap m) (X : Frag.In (hd.heap_39 w.params) h₀) (N : News h₀ L s.heap news) (T : Top hd.view_39 (looseW hd.view_39 []) mean mg mb h₀) (hk : cs.kind = .function)
    (hd' : dp + need < recursionLimit) (hu : un + 8 * need < cLine)
    (h : ∀ (D : Addr) (t1 t2 t3 : Tok) (c : Nat) (h' : Heap) (tk' : Nat), Fr h₀ L h' m → News h₀ L h' ((D, tup3 r.1 r.2.1 r.2.2 t1 t2 t3 c) :: news) → Q (.ref D) { s with heap := h', toks := tk' }) :
    wpAny (model Challenge.rw_bb0056_01.row.prog w) (ktrTop dp un gd cn cs L a ccd cl outer) (call (.ref f) vs) Q E s :=
  C B F X N T hk hd' hu fun D t1 t2 t3 c h' tk' g => h D t1 t2 t3 c h' tk' g.1 g.2
theorem Pure2.use {r : Int × Int} (C : Pure2 w need f vs news r) (B : Below A₀ base outer h₀) (F : Fr h₀ L s.heap m) (X : Frag.In (hd.heap_39 w.params) h₀) (N : News h₀ L s.heap news) (T : Top hd.view_39 (looseW hd.view_39 []) mean mg mb h₀) (hk : cs.kind = .function)
    (hd' : dp + need < recursionLimit) (hu : un + 8 * need < cLine)
    (h : ∀ (D : Addr) (t1 t2 : Tok) (c : Nat) (h' : Heap) (tk' : Nat), Fr h₀ L h' m → News h₀ L h' ((D, tup2 r.1 r.2 t1 t2 c) :: news) → Q (.ref D) { s with heap := h', toks := tk' }) :
    wpAny (model Challenge.rw_bb0056_01.row.prog w) (ktrTop dp un gd cn cs L a ccd cl outer) (call (.ref f) vs) Q E s :=
  C B F X N T hk hd' hu fun D t1 t2 c h' tk' g => h D t1 t2 c h' tk' g.1 g.2
theorem PureI.use {r : Int} (C : PureI w need f vs news r) (B : Below A₀ base outer h₀) (F : Fr h₀ L s.heap m) (X : Frag.In (hd.heap_39 w.params) h₀) (N : News h₀ L s.heap news) (T : Top hd.view_39 (looseW hd.view_39 []) mean mg mb h₀) (hk : cs.kind = .function)
    (hd' : dp + need < recursionLimit) (hu : un + 8 * need < cLine)
    (h : ∀ (t : Tok) (h' : Heap) (tk' : Nat), Fr h₀ L h' m → News h₀ L h' news → Q (.int r t) { s with heap := h', toks := tk' }) :
    wpAny (model Challenge.rw_bb0056_01.row.prog w) (ktrTop dp un gd cn cs L a ccd cl outer) (call (.ref f) vs) Q E s :=
  C B F X N T hk hd' hu fun t h' tk' g => h t h' tk' g.1 g.2
end
end Mine
-- part C2
namespace Mine
theorem calm_C2 : True := by w_top off; trivial
local macro_rules | `(tactic| mul_fits) => `(tactic| first
  | (with_reducible show Bd _ _); first
    | (refine Bd.var (by with_reducible assumption) (by with_reducible assumption))
    | (refine Bd.var ?_ ?_ <;> omega)
    | (refine Bd.mul ?_ ?_ <;> mul_fits) | (refine Bd.pow ?_ <;> mul_fits) | (refine Bd.add ?_ ?_ <;> mul_fits) | (refine Bd.sub ?_ ?_ <;> mul_fits)
    | (refine Bd.small ?_ ?_ <;> omega))
local macro_rules | `(tactic| walk_at "binaryOp Mult int int") => `(tactic| (with_reducible refine' mul_b ?kb1 ?kb2 ?_; (case kb1 => mul_fits); (case kb2 => decide)))
local macro_rules | `(tactic| walk_at "binaryOp Pow int int") => `(tactic| (with_reducible refine' pow_b ?kb0 ?kb1 ?kb2 ?kb3 ?kb4 ?_; (case kb0 => with_unfolding_all first | exact to2 | exact to3 | exact to4); (case kb1 => mul_fits); (case kb2 => decide); (case kb3 => decide); (case kb4 => decide)))
local macro_rules | `(tactic| walk_at "binaryOp Mod int int") => `(tactic| (with_reducible refine mod_b ?kb1 ?_; (case kb1 => omega); intro r' hr' h0' h1'))
local macro_rules | `(tactic| k_steps) => `(tactic| repeat' (first | (k_unfold; (try dsimp only)) | (walk1; try dsimp only) | (dsimp only; walk1)))

set_option maxHeartbeats 4000000 in
theorem toj_c (w : World) {news : Led} {pa : Addr} {x y : Int} {t1 t2 : Tok} {c1 : Nat} (h1 : (pa, tup2 x y t1 t2 c1) ∈ news) :
   Pure3 w 1 28 [.ref pa] news (x, y, 1) := by
  unfold Pure3 Calls1
  intro mean mg mb dp un gd cn cs a ccd cl outer A₀ base h₀ L m s Q E B F X N T hk hd' hu hret
  replace N := news_in1 N h1
  clear h1
  revert X; k_fill; intro X
  refine wpAny_call ?_
  k_dflt cell_enter
  k_steps
  rename_i kF kN _ _
  exact hret _ _ _ _ _ _ _ ⟨kF, news_out1 kN⟩

/-- what comes back, told by the value -/
theorem ret3 {h₀ h' : Heap} {L : Addr} {m : Str → Option Value} {news nx : Led} {s : Shared} {Q : Value → Shared → Prop} {r : Int × Int × Int} {D : Addr} {x y z : Int} {t1 t2 t3 : Tok} {c tk' : Nat}
   (hret : ∀ (D : Addr) (t1 t2 t3 : Tok) (c : Nat) (h' : Heap) (tk' : Nat), Fr h₀ L h' m ∧ News h₀ L h' ((D, tup3 r.1 r.2.1 r.2.2 t1 t2 t3 c) :: news) → Q (.ref D) { s with heap := h', toks := tk' })
   (F : Fr h₀ L h' m) (N : News h₀ L h' nx) (hD : (D, tup3 x y z t1 t2 t3 c) ∈ nx) (hs : ∀ p ∈ news, p ∈ nx) (e : r = (x, y, z)) : Q (.ref D) { s with heap := h', toks := tk' } := by
  subst e
  exact hret _ _ _ _ _ _ _ ⟨F, fun p hp => (List.mem_cons.mp hp).elim (fun e => e ▸ N _ hD) fun h => N p (hs p h)⟩
theorem ret2 {h₀ h' : Heap} {L : Addr} {m : Str → Option Value} {news nx : Led} {s : Shared} {Q : Value → Shared → Prop} {r : Int × Int} {D : Addr} {x y : Int} {t1 t2 : Tok} {c tk' : Nat}
   (hret : ∀ (D : Addr) (t1 t2 : Tok) (c : Nat) (h' : Heap) (tk' : Nat), Fr h₀ L h' m ∧ News h₀ L h' ((D, tup2 r.1 r.2 t1 t2 c) :: news) → Q (.ref D) { s with heap := h', toks := tk' })
   (F : Fr h₀ L h' m) (N : News h₀ L h' nx) (hD : (D, tup2 x y t1 t2 c) ∈ nx) (hs : ∀ p ∈ news, p ∈ nx) (e : r = (x, y)) : Q (.ref D) { s with heap := h', toks := tk' } := by
  subst e
  exact hret _ _ _ _ _ _ ⟨F, fun p hp => (List.mem_cons.mp hp).elim (fun e => e ▸ N _ hD) fun h => N p (hs p h)⟩

set_option maxHeartbeats 4000000 in
theorem jdbl_c (w : World) {news : Led} {pa ca : Addr} {x y z P NN Ac Bc gx gy : Int} {t1 t2 t3 t4 t5 t6 t7 t8 t9 : Tok} {c1 c2 : Nat}
   (h1 : (pa, tup3 x y z t1 t2 t3 c1) ∈ news) (h2 : (ca, tup6 P NN Ac Bc gx gy t4 t5 t6 t7 t8 t9 c2) ∈ news)
   (hP : 7 ≤ P ∧ P ≤ 31) (hx : Co x) (hy : Co y) (hz : Co z) (hA : Co Ac) :
   Pure3 w 1 35 [.ref pa, .ref ca] news (jdblF P Ac (x, y, z)) := by
  unfold Pure3 Calls1
  intro mean mg mb dp un gd cn cs a ccd cl outer A₀ base h₀ L m s Q E B F X N T hk hd' hu hret
  replace N := news_in1 (news_in1 N h1) (List.mem_cons_of_mem _ h2)
  clear h1 h2
  revert X; k_fill; intro X
  refine wpAny_call ?_
  k_dflt cell_enter
  k_steps
  all_goals refine ret3 hret (by assumption) (by assumption) (.head _) (fun p hp => ?_) ?_
  all_goals try (first | exact hp | exact .tail _ hp | exact .tail _ (.tail _ hp) | exact .tail _ (.tail _ (.tail _ hp)))
  · subst_vars
    simp only [jdblF]
    rw [if_neg (by assumption)]
  · simp only [jdblF]
    rw [if_pos (by assumption)]
end Mine
-- part C4
namespace Mine
local macro_rules | `(tactic| walk_at "no key of this name") => `(tactic| fail)
theorem calm_C4 : True := by w_top off; trivial
local macro_rules | `(tactic| mul_fits) => `(tactic| first
  | (with_reducible show Bd _ _); first
    | (refine Bd.var (by with_reducible assumption) (by with_reducible assumption))
    | (refine Bd.var ?_ ?_ <;> omega)
    | (refine Bd.mul ?_ ?_ <;> mul_fits) | (refine Bd.pow ?_ <;> mul_fits) | (refine Bd.add ?_ ?_ <;> mul_fits) | (refine Bd.sub ?_ ?_ <;> mul_fits)
    | (refine Bd.small ?_ ?_ <;> omega))
local macro_rules | `(tactic| walk_at "binaryOp Mult int int") => `(tactic| (with_reducible refine' mul_b ?kb1 ?kb2 ?_; (case kb1 => mul_fits); (case kb2 => decide)))
local macro_rules | `(tactic| walk_at "binaryOp Pow int int") => `(tactic| (with_reducible refine' pow_b ?kb0 ?kb1 ?kb2 ?kb3 ?kb4 ?_; (case kb0 => with_unfolding_all first | exact to2 | exact to3 | exact to4); (case kb1 => mul_fits); (case kb2 => decide); (case kb3 => decide); (case kb4 => decide)))
local macro_rules | `(tactic| walk_at "binaryOp Mod int int") => `(tactic| (with_reducible refine mod_b ?kb1 ?_; (case kb1 => omega); intro r' hr' h0' h1'))
local macro_rules | `(tactic| k_steps) => `(tactic| repeat' ((fail_if_success (with_reducible show wpAny _ _ (exec (Stmt.While _ _ _ _) _) _ _ _)); (fail_if_success (with_reducible show KswEnd _ _ _ _ _ _ _ _ _ _ _ _)); first | (k_unfold; (try dsimp only)) | (walk1; try dsimp only) | (dsimp only; walk1)))
/-- one turn of inv's loop -/
def invStep (o : Int × Int × Int × Int) : Int × Int × Int × Int :=
  if o.2.1 > 1 then (o.2.2.1 - o.1 * o.2.2.2.fdiv o.2.1, o.2.2.2 - o.2.1 * o.2.2.2.fdiv o.2.1, o.1, o.2.1) else o
/-- lm, low, hm, high behind k turns -/
def invOrb (n a : Int) : Nat → Int × Int × Int × Int
  | 0 => (1, a, 0, n)
  | k + 1 => invStep (invOrb n a k)
def invOk (n a : Int) (k : Nat) : Bool :=
  let o := invOrb n a k
  decide (-32 ≤ o.1 ∧ o.1 ≤ 32) && decide (-32 ≤ o.2.2.1 ∧ o.2.2.1 ≤ 32) && decide (1 ≤ o.2.1 ∧ o.2.1 ≤ 32) && decide (1 ≤ o.2.2.2 ∧ o.2.2.2 ≤ 32) &&
  decide (o.2.1 ≤ 1 → o.1.fmod n = invF n a) && decide (9 ≤ k → o.2.1 ≤ 1) && decide (1 < o.2.1 → (invStep o).2.1 < o.2.1)
theorem invOk_all : ([7, 11, 19, 23, 31] : List Nat).all (fun n => (List.range n).all fun a => a == 0 || (List.range 10).all fun k => invOk n a k) = true := by decide +kernel
theorem inv_facts {n a : Int} (hn : PrimeL n) (h0 : 0 < a) (h1 : a < n) {k : Nat} (hk : k ≤ 9) : invOk n a k = true := by
  have := invOk_all
  rw [List.all_eq_true] at this
  have hm : n.toNat ∈ ([7, 11, 19, 23, 31] : List Nat) := by rcases hn with rfl | rfl | rfl | rfl | rfl <;> decide
  have := List.all_eq_true.mp (this _ hm) a.toNat (List.mem_range.mpr (by omega))
  have hz : (a.toNat == 0) = false := by simp; omega
  rw [hz, Bool.false_or] at this
  have := List.all_eq_true.mp this k (List.mem_range.mpr (by omega))
  have e1 : ((n.toNat : Nat) : Int) = n := by rcases hn with rfl | rfl | rfl | rfl | rfl <;> rfl
  have e2 : ((a.toNat : Nat) : Int) = a := by omega
  rw [e1, e2] at this
  exact this
abbrev InvSt := Int × Int × Int × Int × Tok × Tok × Tok × Tok
def invPs (c : InvSt) : List (Str × Value) := [("lm", .int c.1 c.2.2.2.2.1), ("low", .int c.2.1 c.2.2.2.2.2.1), ("hm", .int c.2.2.1 c.2.2.2.2.2.2.1), ("high", .int c.2.2.2.1 c.2.2.2.2.2.2.2)]
def invP (n a : Int) (c : InvSt) : Prop := ∃ k, k ≤ 9 ∧ (c.1, c.2.1, c.2.2.1, c.2.2.2.1) = invOrb n a k
set_option maxHeartbeats 4000000 in
theorem inv_c (w : World) {news : Led} {n x : Int} {t1 t2 : Tok} (hn : PrimeL n) (h0 : 0 ≤ x) (h1 : x < n) :
   PureI w 1 21 [.int x t1, .int n t2] news (invF n x) := by
  unfold PureI Calls1
  intro mean mg mb dp un gd cn cs a ccd cl outer A₀ base h₀ L m s Q E B F X N T hk hd' hu hret
  revert X; k_fill; intro X
  have hnb : 7 ≤ n ∧ n ≤ 31 := by rcases hn with rfl | rfl | rfl | rfl | rfl <;> decide
  refine wpAny_call ?_
  k_dflt cell_enter
  k_steps
  · have hx0 : x = 0 := by assumption
    rename Fr h₀ L _ m => kF
    rename News h₀ L _ _ => kN
    have e : invF n x = 0 := by
      subst hx0
      rcases hn with rfl | rfl | rfl | rfl | rfl <;> decide
    rw [e] at hret
    exact hret _ _ _ ⟨kF, kN⟩
  · have hx0 : ¬ x = 0 := by assumption
    have hxn : x.fmod n = x := Int.fmod_eq_of_lt h0 h1
    have hpos : 0 < x := by omega
    rename Fr _ _ _ _ => lF
    rename News _ _ _ _ => lN
    refine' ksw_while (fun _ => news) invPs (fun _ => True) ["r", "nm", "new", "lm", "low", "hm", "high"] (invP n x) (fun c => c.2.1.toNat) (_, _, _, _, _, _, _, _) lF (news_sub lN ?_) trivial (List.forall_mem_cons.mpr ⟨rfl, List.forall_mem_cons.mpr ⟨rfl, List.forall_mem_cons.mpr ⟨rfl, List.forall_mem_cons.mpr ⟨rfl, List.forall_mem_nil _⟩⟩⟩⟩) ?_ ?_
    · exact fun p hp => .tail _ (.tail _ hp)
    · refine ⟨0, by decide, ?_⟩
      subst_vars
      rw [hxn]
      rfl
    · intro c u h tk _ hP lF' lN'
      obtain ⟨lm, low, hm, high, s1, s2, s3, s4⟩ := c
      obtain ⟨k, hk9, hO⟩ := hP
      have hf := inv_facts hn hpos h1 hk9
      simp only [invOk, ← hO, Bool.and_eq_true, decide_eq_true_eq] at hf
      obtain ⟨⟨⟨⟨⟨⟨f1, f2⟩, f3⟩, f4⟩, f5⟩, f6⟩, f7⟩ := hf
      clear lF lN
      k_steps
      · have hlow : 1 < low := by assumption
        have hf7 := f7 hlow
        have hk8 : k < 9 := Nat.lt_of_not_le fun h => absurd (f6 h) (by omega)
        have hst : invOrb n x (k + 1) = (hm - lm * high.fdiv low, high - low * high.fdiv low, lm, low) := by
          show invStep (invOrb n x k) = _
          rw [← hO]
          exact if_pos hlow
        have hst2 : invStep (lm, low, hm, high) = (hm - lm * high.fdiv low, high - low * high.fdiv low, lm, low) := if_pos hlow
        rw [hst2] at hf7
        rename Fr _ _ _ _ => lF2
        rename News _ _ _ _ => lN2
        refine' ksw_end (_, _, _, _, _, _, _, _) lF2 lN2 (fun p hp => .tail _ (.tail _ hp)) trivial (List.forall_mem_cons.mpr ⟨rfl, List.forall_mem_cons.mpr ⟨rfl, List.forall_mem_cons.mpr ⟨rfl, List.forall_mem_cons.mpr ⟨rfl, List.forall_mem_nil _⟩⟩⟩⟩) ?_ ⟨k + 1, by omega, hst.symm⟩ ?_
        · intro z _ h3
          simp only [List.contains_cons, List.contains_nil, Bool.or_false, Bool.or_eq_false_iff, beq_eq_false_iff_ne, ne_eq] at h3
          obtain ⟨g1, g2, g3, g4, g5, g6, g7⟩ := h3
          simp only [g1, g2, g3, g4, g5, g6, g7, if_false, kstB, invPs, List.contains_cons, List.contains_nil, beq_iff_eq, Bool.or_false, decide_false, Bool.false_eq_true, beq_eq_false_iff_ne]
          simp [g1, g2, g3, g4, g5, g6, g7]
        · dsimp only at hf7 ⊢
          omega
      · have hlow : ¬ 1 < low := by assumption
        have e := f5 (by omega)
        subst_vars
        rename Fr h₀ L _ m => kF
        rename News h₀ L _ _ => kN
        try dsimp only at e
        rw [← e] at hret
        exact hret _ _ _ ⟨kF, kN⟩
end Mine
-- part C3
namespace Mine
local macro_rules | `(tactic| walk_at "no key of this name") => `(tactic| fail)
theorem calm_C3 : True := by w_top off; trivial
local macro_rules | `(tactic| mul_fits) => `(tactic| first
  | (with_reducible show Bd _ _); first
    | (refine Bd.var (by with_reducible assumption) (by with_reducible assumption))
    | (refine Bd.var ?_ ?_ <;> omega)
    | (refine Bd.mul ?_ ?_ <;> mul_fits) | (refine Bd.pow ?_ <;> mul_fits) | (refine Bd.add ?_ ?_ <;> mul_fits) | (refine Bd.sub ?_ ?_ <;> mul_fits)
    | (refine Bd.small ?_ ?_ <;> omega))
local macro_rules | `(tactic| walk_at "binaryOp Mult int int") => `(tactic| (with_reducible refine' mul_b ?kb1 ?kb2 ?_; (case kb1 => mul_fits); (case kb2 => decide)))
local macro_rules | `(tactic| walk_at "binaryOp Pow int int") => `(tactic| (with_reducible refine' pow_b ?kb0 ?kb1 ?kb2 ?kb3 ?kb4 ?_; (case kb0 => with_unfolding_all first | exact to2 | exact to3 | exact to4); (case kb1 => mul_fits); (case kb2 => decide); (case kb3 => decide); (case kb4 => decide)))
local macro_rules | `(tactic| walk_at "binaryOp Mod int int") => `(tactic| (with_reducible refine mod_b ?kb1 ?_; (case kb1 => omega); intro r' hr' h0' h1'))
local macro_rules | `(tactic| k_steps) => `(tactic| repeat' (first | (k_unfold; (try dsimp only)) | (walk1; try dsimp only) | (dsimp only; walk1)))
local macro_rules | `(tactic| walk_at "call ref") => `(tactic| (k_here; k_dflt (refine' Pure3.use (jdbl_c _ ?m1 ?m2 ?bP ?b1 ?b2 ?b3 ?b4) ?k1 ?k2 ?k3 ?k4 ?k5 ?kK ?kd ?ku ?_; (case k1 => k_asm); (case k2 => k_asm); (case k3 => k_asm); (case k4 => k_asm); (case k5 => k_asm); (case kK => first | exact rfl | assumption); (case m1 => k_mem); (case m2 => k_mem); (case bP => first | assumption | omega); (case b1 => first | assumption | (constructor <;> omega)); (case b2 => first | assumption | (constructor <;> omega)); (case b3 => first | assumption | (constructor <;> omega)); (case b4 => first | assumption | (constructor <;> omega)); (case kd => ktr_room); (case ku => ktr_units); k_whole); intro D' u1' u2' u3' c' h' tk' F' N'))
set_option maxHeartbeats 4000000 in
theorem jadd_c (w : World) {news : Led} {pa qa ca : Addr} {x y z x' y' z' P NN Ac Bc gx gy : Int} {t1 t2 t3 t1' t2' t3' t4 t5 t6 t7 t8 t9 : Tok} {c1 c1' c2 : Nat}
   (h1 : (pa, tup3 x y z t1 t2 t3 c1) ∈ news) (h1' : (qa, tup3 x' y' z' t1' t2' t3' c1') ∈ news) (h2 : (ca, tup6 P NN Ac Bc gx gy t4 t5 t6 t7 t8 t9 c2) ∈ news)
   (hP : 7 ≤ P ∧ P ≤ 31) (hx : Co x) (hy : Co y) (hz : Co z) (hx' : Co x') (hy' : Co y') (hz' : Co z') (hA : Co Ac) :
   Pure3 w 2 42 [.ref pa, .ref qa, .ref ca] news (jaddF P Ac (x, y, z) (x', y', z')) := by
  unfold Pure3 Calls1
  intro mean mg mb dp un gd cn cs a ccd cl outer A₀ base h₀ L m s Q E B F X N T hk hd' hu hret
  replace N := news_in1 (news_in1 (news_in1 N h1) (List.mem_cons_of_mem _ h1')) (List.mem_cons_of_mem _ (List.mem_cons_of_mem _ h2))
  clear h1 h1' h2
  revert X; k_fill; intro X
  refine wpAny_call ?_
  k_dflt cell_enter
  k_steps
  all_goals refine ret3 hret (by assumption) (by assumption) (by k_mem) (fun p hp => ?_) ?_
  all_goals try (first | exact hp | exact .tail _ hp | exact .tail _ (.tail _ hp) | exact .tail _ (.tail _ (.tail _ hp)) | exact .tail _ (.tail _ (.tail _ (.tail _ hp))))
  all_goals subst_vars
  all_goals simp only [jaddF]
  all_goals repeat' (first | rw [if_pos trivial] | rw [if_pos rfl] | rw [if_pos (by assumption)] | rw [if_neg (by assumption)] | rw [if_neg (by simp [*]; done)])
end Mine
-- part C5
namespace Mine
theorem calm_C5 : True := by w_top off; trivial
local macro_rules | `(tactic| mul_fits) => `(tactic| first
  | (with_reducible show Bd _ _); first
    | (refine Bd.var (by with_reducible assumption) (by with_reducible assumption))
    | (refine Bd.var ?_ ?_ <;> omega)
    | (refine Bd.mul ?_ ?_ <;> mul_fits) | (refine Bd.pow ?_ <;> mul_fits) | (refine Bd.add ?_ ?_ <;> mul_fits) | (refine Bd.sub ?_ ?_ <;> mul_fits)
    | (refine Bd.small ?_ ?_ <;> omega))
local macro_rules | `(tactic| walk_at "binaryOp Mult int int") => `(tactic| (with_reducible refine' mul_b ?kb1 ?kb2 ?_; (case kb1 => mul_fits); (case kb2 => decide)))
local macro_rules | `(tactic| walk_at "binaryOp Pow int int") => `(tactic| (with_reducible refine' pow_b ?kb0 ?kb1 ?kb2 ?kb3 ?kb4 ?_; (case kb0 => with_unfolding_all first | exact to2 | exact to3 | exact to4); (case kb1 => mul_fits); (case kb2 => decide); (case kb3 => decide); (case kb4 => decide)))
local macro_rules | `(tactic| walk_at "binaryOp Mod int int") => `(tactic| (with_reducible refine mod_b ?kb1 ?_; (case kb1 => omega); intro r' hr' h0' h1'))
local macro_rules | `(tactic| k_steps) => `(tactic| repeat' ((fail_if_success (with_reducible show wpAny _ _ (exec (Stmt.While _ _ _ _) _) _ _ _)); (fail_if_success (with_reducible show KswEnd _ _ _ _ _ _ _ _ _ _ _ _)); first | (k_unfold; (try dsimp only)) | (walk1; try dsimp only) | (dsimp only; walk1)))
theorem invF_bd {n x : Int} (hn : PrimeL n) : 0 ≤ invF n x ∧ invF n x < n := by
  have h : 0 < n := by rcases hn with rfl | rfl | rfl | rfl | rfl <;> decide
  exact ⟨Int.fmod_nonneg_of_pos _ h, Int.fmod_lt_of_pos _ h⟩
section
variable {w : World} {news : Led} {mean : ExcName → Option Value} {mg mb : Str → Option Value} {dp un : Nat} {gd : Option (List Code)} {cn : Str} {cs : Scope} {a : Addr} {ccd : Value} {cl : List (Str × Addr)} {outer : List Env} {A₀ : Around} {base h₀ : Heap} {L : Addr} {m : Str → Option Value} {s : Shared} {Q E : Value → Shared → Prop}
theorem inv_use {n x : Int} {t1 t2 : Tok} (hn : PrimeL n) (h0 : 0 ≤ x) (h1 : x < n) (B : Below A₀ base outer h₀) (F : Fr h₀ L s.heap m) (X : Frag.In (hd.heap_39 w.params) h₀) (N : News h₀ L s.heap news) (T : Top hd.view_39 (looseW hd.view_39 []) mean mg mb h₀) (hk : cs.kind = .function)
    (hd' : dp + 1 < recursionLimit) (hu : un + 8 * 1 < cLine)
    (h : ∀ (r : Int) (t : Tok) (h' : Heap) (tk' : Nat), r = invF n x → 0 ≤ r → r < n → Fr h₀ L h' m → News h₀ L h' news → Q (.int r t) { s with heap := h', toks := tk' }) :
    wpAny (model Challenge.rw_bb0056_01.row.prog w) (ktrTop dp un gd cn cs L a ccd cl outer) (call (.ref 21) [.int x t1, .int n t2]) Q E s :=
  PureI.use (inv_c w hn h0 h1) B F X N T hk hd' hu fun t h' tk' F' N' => h _ t h' tk' rfl (invF_bd hn).1 (invF_bd hn).2 F' N'
end
local macro_rules | `(tactic| walk_at "call ref") => `(tactic| (k_here; k_dflt (refine' inv_use ?b1 ?b2 ?b3 ?k1 ?k2 ?k3 ?k4 ?k5 ?kK ?kd ?ku ?_; (case b1 => assumption); (case b2 => first | assumption | omega); (case b3 => first | assumption | omega); (case k1 => k_asm); (case k2 => k_asm); (case k3 => k_asm); (case k4 => k_asm); (case k5 => k_asm); (case kK => first | exact rfl | assumption); (case kd => ktr_room); (case ku => ktr_units); k_whole); intro r' u1' h' tk' hr' h0' h1' F' N'))
set_option maxHeartbeats 4000000 in
theorem from_c (w : World) {news : Led} {pa ca : Addr} {x y z P NN Ac Bc gx gy : Int} {t1 t2 t3 t4 t5 t6 t7 t8 t9 : Tok} {c1 c2 : Nat}
   (h1 : (pa, tup3 x y z t1 t2 t3 c1) ∈ news) (h2 : (ca, tup6 P NN Ac Bc gx gy t4 t5 t6 t7 t8 t9 c2) ∈ news)
   (hP : PrimeL P) (hx : Co x) (hy : Co y) (hz0 : 0 ≤ z) (hz1 : z < P) :
   Pure2 w 2 49 [.ref pa, .ref ca] news (fromF P (x, y, z)) := by
  unfold Pure2 Calls1
  intro mean mg mb dp un gd cn cs a ccd cl outer A₀ base h₀ L m s Q E B F X N T hk hd' hu hret
  have hPb : 7 ≤ P ∧ P ≤ 31 := by rcases hP with rfl | rfl | rfl | rfl | rfl <;> decide
  replace N := news_in1 (news_in1 N h1) (List.mem_cons_of_mem _ h2)
  clear h1 h2
  revert X; k_fill; intro X
  refine wpAny_call ?_
  k_dflt cell_enter
  k_steps
  refine ret2 hret (by assumption) (by assumption) (.head _) (fun p hp => ?_) ?_
  · first | exact hp | exact .tail _ hp | exact .tail _ (.tail _ hp) | exact .tail _ (.tail _ (.tail _ hp))
  · subst_vars
    simp only [fromF]
end Mine
-- part C6
namespace Mine
local macro_rules | `(tactic| mul_fits) => `(tactic| first
  | (with_reducible show Bd _ _); first
    | (refine Bd.var (by with_reducible assumption) (by with_reducible assumption))
    | (refine Bd.var ?_ ?_ <;> omega)
    | (refine Bd.mul ?_ ?_ <;> mul_fits) | (refine Bd.pow ?_ <;> mul_fits) | (refine Bd.add ?_ ?_ <;> mul_fits) | (refine Bd.sub ?_ ?_ <;> mul_fits)
    | (refine Bd.small ?_ ?_ <;> omega))
local macro_rules | `(tactic| walk_at "binaryOp Mult int int") => `(tactic| (with_reducible refine' mul_b ?kb1 ?kb2 ?_; (case kb1 => mul_fits); (case kb2 => decide)))
local macro_rules | `(tactic| walk_at "binaryOp Pow int int") => `(tactic| (with_reducible refine' pow_b ?kb0 ?kb1 ?kb2 ?kb3 ?kb4 ?_; (case kb0 => with_unfolding_all first | exact to2 | exact to3 | exact to4); (case kb1 => mul_fits); (case kb2 => decide); (case kb3 => decide); (case kb4 => decide)))
local macro_rules | `(tactic| walk_at "binaryOp Mod int int") => `(tactic| (with_reducible refine mod_b ?kb1 ?_; (case kb1 => omega); intro r' hr' h0' h1'))
local macro_rules | `(tactic| k_steps) => `(tactic| repeat' ((fail_if_success (with_reducible show wpAny _ _ (exec (Stmt.While _ _ _ _) _) _ _ _)); (fail_if_success (with_reducible show KswEnd _ _ _ _ _ _ _ _ _ _ _ _)); first | (k_unfold; (try dsimp only)) | (walk1; try dsimp only) | (dsimp only; walk1)))
/-- a residue -/
abbrev Rs (P x : Int) : Prop := 0 ≤ x ∧ x < P
abbrev Rs3 (P : Int) (r : Int × Int × Int) : Prop := Rs P r.1 ∧ Rs P r.2.1 ∧ Rs P r.2.2
theorem rs_fmod {P : Int} (x : Int) (h : 0 < P) : Rs P (x.fmod P) := ⟨Int.fmod_nonneg_of_pos _ h, Int.fmod_lt_of_pos _ h⟩
theorem jdblF_rs {P A : Int} {p : Int × Int × Int} (h : 1 < P) : Rs3 P (jdblF P A p) := by
  have h0 : 0 < P := by omega
  unfold jdblF
  split
  · exact ⟨⟨by decide, h0⟩, ⟨by decide, h0⟩, ⟨by decide, h0⟩⟩
  · exact ⟨rs_fmod _ h0, rs_fmod _ h0, rs_fmod _ h0⟩
theorem jaddF_rs {P A : Int} {p q : Int × Int × Int} (h : 1 < P) (hp : Rs3 P p) (hq : Rs3 P q) : Rs3 P (jaddF P A p q) := by
  have h0 : 0 < P := by omega
  unfold jaddF
  split
  · exact hq
  split
  · exact hp
  simp only
  split
  · split
    · exact ⟨⟨by decide, h0⟩, ⟨by decide, h0⟩, ⟨by decide, h⟩⟩
    · exact jdblF_rs h
  · exact ⟨rs_fmod _ h0, rs_fmod _ h0, rs_fmod _ h0⟩
theorem jmulF_rs {P N A : Int} (h : 1 < P) : ∀ (k : Nat) {a : Int × Int × Int} {n : Int}, Rs3 P a → Rs3 P (jmulF P N A k a n)
  | 0, _, _, _ => ⟨⟨by simp [jmulF], by simp [jmulF]; omega⟩, ⟨by simp [jmulF], by simp [jmulF]; omega⟩, ⟨by simp [jmulF], by simp [jmulF]; omega⟩⟩
  | k + 1, a, n, ha => by
    unfold jmulF
    split
    · exact ⟨⟨by decide, by simp; omega⟩, ⟨by decide, by simp; omega⟩, ⟨by decide, h⟩⟩
    split
    · exact ha
    split
    · exact jmulF_rs h k ha
    split
    · exact jdblF_rs h
    · exact jaddF_rs h (jdblF_rs h) ha
theorem fromF_rs {P : Int} {p : Int × Int × Int} (h : 0 < P) : Rs P (fromF P p).1 ∧ Rs P (fromF P p).2 := ⟨rs_fmod _ h, rs_fmod _ h⟩
section
variable {w : World} {news : Led} {mean : ExcName → Option Value} {mg mb : Str → Option Value} {dp un : Nat} {gd : Option (List Code)} {cn : Str} {cs : Scope} {a : Addr} {ccd : Value} {cl : List (Str × Addr)} {outer : List Env} {A₀ : Around} {base h₀ : Heap} {L : Addr} {m : Str → Option Value} {s : Shared} {Q E : Value → Shared → Prop}
/-- the call of a def that answers a triple: its parts as letters -/
theorem use3 {need : Nat} {f : Addr} {vs : List Value} {r : Int × Int × Int} {P : Int} (C : Pure3 w need f vs news r) (hb : Rs3 P r) (B : Below A₀ base outer h₀) (F : Fr h₀ L s.heap m) (X : Frag.In (hd.heap_39 w.params) h₀) (N : News h₀ L s.heap news) (T : Top hd.view_39 (looseW hd.view_39 []) mean mg mb h₀) (hk : cs.kind = .function)
    (hd' : dp + need < recursionLimit) (hu : un + 8 * need < cLine)
    (h : ∀ (x y z : Int) (D : Addr) (t1 t2 t3 : Tok) (c : Nat) (h' : Heap) (tk' : Nat), (x, y, z) = r → 0 ≤ x → x < P → 0 ≤ y → y < P → 0 ≤ z → z < P → Fr h₀ L h' m → News h₀ L h' ((D, tup3 x y z t1 t2 t3 c) :: news) → Q (.ref D) { s with heap := h', toks := tk' }) :
    wpAny (model Challenge.rw_bb0056_01.row.prog w) (ktrTop dp un gd cn cs L a ccd cl outer) (call (.ref f) vs) Q E s :=
  C B F X N T hk hd' hu fun D t1 t2 t3 c h' tk' g => h _ _ _ D t1 t2 t3 c h' tk' rfl hb.1.1 hb.1.2 hb.2.1.1 hb.2.1.2 hb.2.2.1 hb.2.2.2 g.1 g.2
theorem use2 {need : Nat} {f : Addr} {vs : List Value} {r : Int × Int} {P : Int} (C : Pure2 w need f vs news r) (hb : Rs P r.1 ∧ Rs P r.2) (B : Below A₀ base outer h₀) (F : Fr h₀ L s.heap m) (X : Frag.In (hd.heap_39 w.params) h₀) (N : News h₀ L s.heap news) (T : Top hd.view_39 (looseW hd.view_39 []) mean mg mb h₀) (hk : cs.kind = .function)
    (hd' : dp + need < recursionLimit) (hu : un + 8 * need < cLine)
    (h : ∀ (x y : Int) (D : Addr) (t1 t2 : Tok) (c : Nat) (h' : Heap) (tk' : Nat), (x, y) = r → 0 ≤ x → x < P → 0 ≤ y → y < P → Fr h₀ L h' m → News h₀ L h' ((D, tup2 x y t1 t2 c) :: news) → Q (.ref D) { s with heap := h', toks := tk' }) :
    wpAny (model Challenge.rw_bb0056_01.row.prog w) (ktrTop dp un gd cn cs L a ccd cl outer) (call (.ref f) vs) Q E s :=
  C B F X N T hk hd' hu fun D t1 t2 c h' tk' g => h _ _ D t1 t2 c h' tk' rfl hb.1.1 hb.1.2 hb.2.1 hb.2.2 g.1 g.2
end
theorem prime_bd {P : Int} (h : PrimeL P) : 7 ≤ P ∧ P ≤ 31 := by rcases h with rfl | rfl | rfl | rfl | rfl <;> decide
end Mine
-- part C7
namespace Mine
theorem calm_C7 : True := by w_top off; trivial
local macro_rules | `(tactic| mul_fits) => `(tactic| first
  | (with_reducible show Bd _ _); first
    | (refine Bd.var (by with_reducible assumption) (by with_reducible assumption))
    | (refine Bd.var ?_ ?_ <;> omega)
    | (refine Bd.mul ?_ ?_ <;> mul_fits) | (refine Bd.pow ?_ <;> mul_fits) | (refine Bd.add ?_ ?_ <;> mul_fits) | (refine Bd.sub ?_ ?_ <;> mul_fits)
    | (refine Bd.small ?_ ?_ <;> omega))
local macro_rules | `(tactic| walk_at "binaryOp Mult int int") => `(tactic| (with_reducible refine' mul_b ?kb1 ?kb2 ?_; (case kb1 => mul_fits); (case kb2 => decide)))
local macro_rules | `(tactic| walk_at "binaryOp Pow int int") => `(tactic| (with_reducible refine' pow_b ?kb0 ?kb1 ?kb2 ?kb3 ?kb4 ?_; (case kb0 => with_unfolding_all first | exact to2 | exact to3 | exact to4); (case kb1 => mul_fits); (case kb2 => decide); (case kb3 => decide); (case kb4 => decide)))
local macro_rules | `(tactic| walk_at "binaryOp Mod int int") => `(tactic| (with_reducible refine mod_b ?kb1 ?_; (case kb1 => omega); intro r' hr' h0' h1'))
local macro_rules | `(tactic| k_steps) => `(tactic| repeat' ((fail_if_success (with_reducible show wpAny _ _ (exec (Stmt.While _ _ _ _) _) _ _ _)); (fail_if_success (with_reducible show KswEnd _ _ _ _ _ _ _ _ _ _ _ _)); first | (k_unfold; (try dsimp only)) | (walk1; try dsimp only) | (dsimp only; walk1)))
section
variable {w : World} {news : Led} {mean : ExcName → Option Value} {mg mb : Str → Option Value} {dp un : Nat} {gd : Option (List Code)} {cn : Str} {cs : Scope} {a : Addr} {ccd : Value} {cl : List (Str × Addr)} {outer : List Env} {A₀ : Around} {base h₀ : Heap} {L : Addr} {m : Str → Option Value} {s : Shared} {Q E : Value → Shared → Prop}
theorem toj_use {pa : Addr} {x y : Int} {t1 t2 : Tok} {c1 : Nat} (h1 : (pa, tup2 x y t1 t2 c1) ∈ news) (B : Below A₀ base outer h₀) (F : Fr h₀ L s.heap m) (X : Frag.In (hd.heap_39 w.params) h₀) (N : News h₀ L s.heap news) (T : Top hd.view_39 (looseW hd.view_39 []) mean mg mb h₀) (hk : cs.kind = .function)
    (hd' : dp + 1 < recursionLimit) (hu : un + 8 * 1 < cLine)
    (h : ∀ (D : Addr) (t1 t2 t3 : Tok) (c : Nat) (h' : Heap) (tk' : Nat), Fr h₀ L h' m → News h₀ L h' ((D, tup3 x y 1 t1 t2 t3 c) :: news) → Q (.ref D) { s with heap := h', toks := tk' }) :
    wpAny (model Challenge.rw_bb0056_01.row.prog w) (ktrTop dp un gd cn cs L a ccd cl outer) (call (.ref 28) [.ref pa]) Q E s :=
  Pure3.use (toj_c w h1) B F X N T hk hd' hu h
end

local macro_rules | `(tactic| walk_at "call ref") => `(tactic| (k_here; k_dflt (refine' toj_use ?m1 ?k1 ?k2 ?k3 ?k4 ?k5 ?kK ?kd ?ku ?_; (case k1 => k_asm); (case k2 => k_asm); (case k3 => k_asm); (case k4 => k_asm); (case k5 => k_asm); (case kK => first | exact rfl | assumption); (case m1 => k_mem); (case kd => ktr_room); (case ku => ktr_units); k_whole); intro D' u1' u2' u3' c' h' tk' F' N'))
local macro_rules | `(tactic| walk_at "call ref") => `(tactic| (k_here; k_dflt (refine' use3 (jadd_c _ ?m1 ?m2 ?m3 ?bP ?b1 ?b2 ?b3 ?b4 ?b5 ?b6 ?b7) (jaddF_rs ?g1 ?g2 ?g3) ?k1 ?k2 ?k3 ?k4 ?k5 ?kK ?kd ?ku ?_; (case k1 => k_asm); (case k2 => k_asm); (case k3 => k_asm); (case k4 => k_asm); (case k5 => k_asm); (case kK => first | exact rfl | assumption); (case m1 => k_mem); (case m2 => k_mem); (case m3 => k_mem); (case bP => (first | assumption | omega | (constructor <;> omega))); (case b1 => (first | assumption | omega | (constructor <;> omega))); (case b2 => (first | assumption | omega | (constructor <;> omega))); (case b3 => (first | assumption | omega | (constructor <;> omega))); (case b4 => (first | assumption | omega | (constructor <;> omega))); (case b5 => (first | assumption | omega | (constructor <;> omega))); (case b6 => (first | assumption | omega | (constructor <;> omega))); (case b7 => (first | assumption | omega | (constructor <;> omega))); (case g1 => omega); (case g2 => (refine ⟨⟨?_, ?_⟩, ⟨?_, ?_⟩, ⟨?_, ?_⟩⟩ <;> (try dsimp only) <;> omega)); (case g3 => (refine ⟨⟨?_, ?_⟩, ⟨?_, ?_⟩, ⟨?_, ?_⟩⟩ <;> (try dsimp only) <;> omega)); (case kd => ktr_room); (case ku => ktr_units); k_whole); intro x' y' z' D' u1' u2' u3' c' h' tk' e' a1' a2' a3' a4' a5' a6' F' N'))

local macro_rules | `(tactic| walk_at "call ref") => `(tactic| (k_here; k_dflt (refine' use2 (from_c _ ?m1 ?m2 ?bP ?b1 ?b2 ?b3 ?b4) (fromF_rs ?g1) ?k1 ?k2 ?k3 ?k4 ?k5 ?kK ?kd ?ku ?_; (case k1 => k_asm); (case k2 => k_asm); (case k3 => k_asm); (case k4 => k_asm); (case k5 => k_asm); (case kK => first | exact rfl | assumption); (case m1 => k_mem); (case m2 => k_mem); (case bP => assumption); (case b1 => (first | assumption | omega | (constructor <;> omega))); (case b2 => (first | assumption | omega | (constructor <;> omega))); (case b3 => omega); (case b4 => omega); (case g1 => omega); (case kd => ktr_room); (case ku => ktr_units); k_whole); intro x' y' D' u1' u2' c' h' tk' e' a1' a2' a3' a4' F' N'))

set_option maxHeartbeats 4000000 in
theorem add_c (w : World) {news : Led} {pa qa ca : Addr} {x y x' y' P NN Ac Bc gx gy : Int} {t1 t2 t1' t2' t4 t5 t6 t7 t8 t9 : Tok} {c1 c1' c2 : Nat}
   (h1 : (pa, tup2 x y t1 t2 c1) ∈ news) (h1' : (qa, tup2 x' y' t1' t2' c1') ∈ news) (h2 : (ca, tup6 P NN Ac Bc gx gy t4 t5 t6 t7 t8 t9 c2) ∈ news)
   (hP : PrimeL P) (hx : Rs P x) (hy : Rs P y) (hx' : Rs P x') (hy' : Rs P y') (hA : Co Ac) :
   Pure2 w 3 63 [.ref pa, .ref qa, .ref ca] news (addF P Ac (x, y) (x', y')) := by
  unfold Pure2 Calls1
  intro mean mg mb dp un gd cn cs a ccd cl outer A₀ base h₀ L m s Q E B F X N T hk hd' hu hret
  have hPb := prime_bd hP
  obtain ⟨_, _⟩ := hx
  obtain ⟨_, _⟩ := hy
  obtain ⟨_, _⟩ := hx'
  obtain ⟨_, _⟩ := hy'
  replace N := news_in1 (news_in1 (news_in1 N h1) (List.mem_cons_of_mem _ h1')) (List.mem_cons_of_mem _ (List.mem_cons_of_mem _ h2))
  clear h1 h1' h2
  revert X; k_fill; intro X
  refine wpAny_call ?_
  k_dflt cell_enter
  k_steps
  refine ret2 hret (by assumption) (by assumption) (by k_mem) (fun p hp => ?_) ?_
  · repeat' (first | exact hp | apply List.Mem.tail)
  · unfold addF
    rename (_, _, _) = _ => e1
    rename (_, _) = _ => e2
    rw [← e1]
    exact e2.symm
end Mine
-- part C8
namespace Mine
theorem calm_C8 : True := by w_top off; trivial
local macro_rules | `(tactic| mul_fits) => `(tactic| first
  | (with_reducible show Bd _ _); first
    | (refine Bd.var (by with_reducible assumption) (by with_reducible assumption))
    | (refine Bd.var ?_ ?_ <;> omega)
    | (refine Bd.mul ?_ ?_ <;> mul_fits) | (refine Bd.pow ?_ <;> mul_fits) | (refine Bd.add ?_ ?_ <;> mul_fits) | (refine Bd.sub ?_ ?_ <;> mul_fits)
    | (refine Bd.small ?_ ?_ <;> omega))
local macro_rules | `(tactic| walk_at "binaryOp Mult int int") => `(tactic| (with_reducible refine' mul_b ?kb1 ?kb2 ?_; (case kb1 => mul_fits); (case kb2 => decide)))
local macro_rules | `(tactic| walk_at "binaryOp Pow int int") => `(tactic| (with_reducible refine' pow_b ?kb0 ?kb1 ?kb2 ?kb3 ?kb4 ?_; (case kb0 => with_unfolding_all first | exact to2 | exact to3 | exact to4); (case kb1 => mul_fits); (case kb2 => decide); (case kb3 => decide); (case kb4 => decide)))
local macro_rules | `(tactic| walk_at "binaryOp Mod int int") => `(tactic| (with_reducible refine mod_b ?kb1 ?_; (case kb1 => omega); intro r' hr' h0' h1'))
local macro_rules | `(tactic| k_steps) => `(tactic| repeat' ((fail_if_success (with_reducible show wpAny _ _ (exec (Stmt.While _ _ _ _) _) _ _ _)); (fail_if_success (with_reducible show KswEnd _ _ _ _ _ _ _ _ _ _ _ _)); first | (k_unfold; (try dsimp only)) | (walk1; try dsimp only) | (dsimp only; walk1)))
/-- 2 ^ k -/
def pw : Nat → Int
  | 0 => 1
  | k + 1 => 2 * pw k
theorem pw_pos : ∀ k, 0 < pw k
  | 0 => by decide
  | k + 1 => by have := pw_pos k; unfold pw; omega
theorem fmod_bd {r n N B : Int} (e : r = n.fmod N) (h0 : 0 < N) (h1 : N ≤ n) (h2 : n < 2 * B) : r < B := by
  have h3 := Int.mul_fdiv_add_fmod n N
  have h4 := Int.fmod_lt_of_pos n h0
  have h5 : 1 ≤ n.fdiv N := by
    rw [Int.fdiv_eq_ediv_of_nonneg _ (by omega)]
    exact (Int.le_ediv_iff_mul_le h0).mpr (by omega)
  have h6 : N * 1 ≤ N * n.fdiv N := Int.mul_le_mul_of_nonneg_left h5 (by omega)
  omega
theorem div2_b {prog : Program} {w : World} {A : Around} {E : Value → Shared → Prop} {s : Shared} {Q : Value → Shared → Prop} {a : Int} {t u : Tok}
    (h : ∀ r, r = a.fdiv 2 → 2 * r ≤ a → a < 2 * r + 2 → Q (.int r s.toks) { s with toks := s.toks + 1 }) : wpAny (model prog w) A (binaryOp .FloorDiv (.int a t) (.int 2 u)) Q E s := by
  have e : a.fdiv 2 = a / 2 := Int.fdiv_eq_ediv_of_nonneg _ (by decide)
  exact floordiv_int (by decide) (h _ rfl (by rw [e]; omega) (by rw [e]; omega)) (Or.inl (PyProof.noPylong_of_log2 (by decide +kernel)))
local macro_rules | `(tactic| walk_at "binaryOp FloorDiv int int") => `(tactic| (with_reducible refine div2_b ?_; intro r' hr' h0' h1'))
section
variable {P N A x y z n : Int} {k : Nat}
theorem jmul_1 (h : y = 0 ∨ n = 0) : jmulF P N A (k + 1) (x, y, z) n = (0, 0, 1) := if_pos h
theorem jmul_2 (h : ¬ (y = 0 ∨ n = 0)) (h1 : n = 1) : jmulF P N A (k + 1) (x, y, z) n = (x, y, z) := (if_neg h).trans (if_pos h1)
theorem jmul_3 (h : ¬ (y = 0 ∨ n = 0)) (h1 : ¬ n = 1) (h2 : n < 0 ∨ n ≥ N) : jmulF P N A (k + 1) (x, y, z) n = jmulF P N A k (x, y, z) (n.fmod N) := (if_neg h).trans ((if_neg h1).trans (if_pos h2))
theorem jmul_4 (h : ¬ (y = 0 ∨ n = 0)) (h1 : ¬ n = 1) (h2 : ¬ (n < 0 ∨ n ≥ N)) (h3 : n.fmod 2 = 0) : jmulF P N A (k + 1) (x, y, z) n = jdblF P A (jmulF P N A k (x, y, z) (n.fdiv 2)) := (if_neg h).trans ((if_neg h1).trans ((if_neg h2).trans (if_pos h3)))
theorem jmul_5 (h : ¬ (y = 0 ∨ n = 0)) (h1 : ¬ n = 1) (h2 : ¬ (n < 0 ∨ n ≥ N)) (h3 : ¬ n.fmod 2 = 0) : jmulF P N A (k + 1) (x, y, z) n = jaddF P A (jdblF P A (jmulF P N A k (x, y, z) (n.fdiv 2))) (x, y, z) := (if_neg h).trans ((if_neg h1).trans ((if_neg h2).trans (if_neg h3)))
end
def MulC (w : World) (k : Nat) : Prop :=
  ∀ {news : Led} {pa ca : Addr} {x y z P NN Ac Bc gx gy n : Int} {t1 t2 t3 t4 t5 t6 t7 t8 t9 tn : Tok} {c1 c2 : Nat},
   (pa, tup3 x y z t1 t2 t3 c1) ∈ news → (ca, tup6 P NN Ac Bc gx gy t4 t5 t6 t7 t8 t9 c2) ∈ news →
   PrimeL P → Rs3 P (x, y, z) → Co Ac → 0 < NN → 0 ≤ n → n < pw k →
   Pure3 w (k + 3) 56 [.ref pa, .int n tn, .ref ca] news (jmulF P NN Ac k (x, y, z) n)
section
variable {w : World} {news : Led} {mean : ExcName → Option Value} {mg mb : Str → Option Value} {dp un : Nat} {gd : Option (List Code)} {cn : Str} {cs : Scope} {a : Addr} {ccd : Value} {cl : List (Str × Addr)} {outer : List Env} {A₀ : Around} {base h₀ : Heap} {L : Addr} {m : Str → Option Value} {s : Shared} {Q E : Value → Shared → Prop}
theorem mul_use {pa ca : Addr} {x y z P NN Ac Bc gx gy n : Int} {t1 t2 t3 t4 t5 t6 t7 t8 t9 tn : Tok} {c1 c2 : Nat} {k : Nat} (C : MulC w k)
    (h1 : (pa, tup3 x y z t1 t2 t3 c1) ∈ news) (h2 : (ca, tup6 P NN Ac Bc gx gy t4 t5 t6 t7 t8 t9 c2) ∈ news)
    (hP : PrimeL P) (hr : Rs3 P (x, y, z)) (hA : Co Ac) (hN : 0 < NN) (hn : 0 ≤ n) (hnk : n < pw k)
    (B : Below A₀ base outer h₀) (F : Fr h₀ L s.heap m) (X : Frag.In (hd.heap_39 w.params) h₀) (N : News h₀ L s.heap news) (T : Top hd.view_39 (looseW hd.view_39 []) mean mg mb h₀) (hk : cs.kind = .function)
    (hd' : dp + (k + 3) < recursionLimit) (hu : un + 8 * (k + 3) < cLine)
    (h : ∀ (x' y' z' : Int) (D : Addr) (t1 t2 t3 : Tok) (c : Nat) (h' : Heap) (tk' : Nat), (x', y', z') = jmulF P NN Ac k (x, y, z) n → 0 ≤ x' → x' < P → 0 ≤ y' → y' < P → 0 ≤ z' → z' < P → Fr h₀ L h' m → News h₀ L h' ((D, tup3 x' y' z' t1 t2 t3 c) :: news) → Q (.ref D) { s with heap := h', toks := tk' }) :
    wpAny (model Challenge.rw_bb0056_01.row.prog w) (ktrTop dp un gd cn cs L a ccd cl outer) (call (.ref 56) [.ref pa, .int n tn, .ref ca]) Q E s :=
  use3 (C h1 h2 hP hr hA hN hn hnk) (jmulF_rs (by have := prime_bd hP; omega) k hr) B F X N T hk hd' hu h
end
local macro_rules | `(tactic| walk_at "call ref") => `(tactic| (k_here; k_dflt (refine' use3 (jdbl_c _ ?m1 ?m2 ?bP ?b1 ?b2 ?b3 ?b4) (jdblF_rs ?g1) ?k1 ?k2 ?k3 ?k4 ?k5 ?kK ?kd ?ku ?_; (case k1 => k_asm); (case k2 => k_asm); (case k3 => k_asm); (case k4 => k_asm); (case k5 => k_asm); (case kK => first | exact rfl | assumption); (case m1 => k_mem); (case m2 => k_mem); (case bP => (first | assumption | omega | (constructor <;> omega))); (case b1 => (first | assumption | omega | (constructor <;> omega))); (case b2 => (first | assumption | omega | (constructor <;> omega))); (case b3 => (first | assumption | omega | (constructor <;> omega))); (case b4 => (first | assumption | omega | (constructor <;> omega))); (case g1 => omega); (case kd => first | ktr_room | (dsimp only [Around.deeper]; omega)); (case ku => first | ktr_units | (dsimp only [Around.deeper]; omega)); k_whole); intro x' y' z' D' u1' u2' u3' c' h' tk' e' a1' a2' a3' a4' a5' a6' F' N'))
local macro_rules | `(tactic| walk_at "call ref") => `(tactic| (k_here; k_dflt (refine' use3 (jadd_c _ ?m1 ?m2 ?m3 ?bP ?b1 ?b2 ?b3 ?b4 ?b5 ?b6 ?b7) (jaddF_rs ?g1 ?g2 ?g3) ?k1 ?k2 ?k3 ?k4 ?k5 ?kK ?kd ?ku ?_; (case k1 => k_asm); (case k2 => k_asm); (case k3 => k_asm); (case k4 => k_asm); (case k5 => k_asm); (case kK => first | exact rfl | assumption); (case m1 => k_mem); (case m2 => k_mem); (case m3 => k_mem); (case bP => (first | assumption | omega | (constructor <;> omega))); (case b1 => (first | assumption | omega | (constructor <;> omega))); (case b2 => (first | assumption | omega | (constructor <;> omega))); (case b3 => (first | assumption | omega | (constructor <;> omega))); (case b4 => (first | assumption | omega | (constructor <;> omega))); (case b5 => (first | assumption | omega | (constructor <;> omega))); (case b6 => (first | assumption | omega | (constructor <;> omega))); (case b7 => (first | assumption | omega | (constructor <;> omega))); (case g1 => omega); (case g2 => (first | assumption | (refine ⟨⟨?_, ?_⟩, ⟨?_, ?_⟩, ⟨?_, ?_⟩⟩ <;> (try dsimp only) <;> omega))); (case g3 => (first | assumption | (refine ⟨⟨?_, ?_⟩, ⟨?_, ?_⟩, ⟨?_, ?_⟩⟩ <;> (try dsimp only) <;> omega))); (case kd => first | ktr_room | (dsimp only [Around.deeper]; omega)); (case ku => first | ktr_units | (dsimp only [Around.deeper]; omega)); k_whole); intro x' y' z' D' u1' u2' u3' c' h' tk' e' a1' a2' a3' a4' a5' a6' F' N'))
local macro_rules | `(tactic| walk_at "call ref") => `(tactic| (k_here; k_dflt (refine' mul_use ?C ?m1 ?m2 ?bP ?b1 ?b2 ?b3 ?b4 ?b5 ?k1 ?k2 ?k3 ?k4 ?k5 ?kK ?kd ?ku ?_; (case k1 => k_asm); (case k2 => k_asm); (case k3 => k_asm); (case k4 => k_asm); (case k5 => k_asm); (case kK => first | exact rfl | assumption); (case C => (rename (_ ≠ 0 → MulC _ _) => ih9; exact ih9 (by omega))); (case m1 => k_mem); (case m2 => k_mem); (case bP => assumption); (case b1 => (first | assumption | (refine ⟨⟨?_, ?_⟩, ⟨?_, ?_⟩, ⟨?_, ?_⟩⟩ <;> (try dsimp only) <;> omega))); (case b2 => (first | assumption | omega | (constructor <;> omega))); (case b3 => omega); (case b4 => omega); (case b5 => first | omega | exact fmod_bd (by assumption) (by omega) (by omega) (by omega)); (case kd => first | ktr_room | (dsimp only [Around.deeper]; omega)); (case ku => first | ktr_units | (dsimp only [Around.deeper]; omega)); k_whole); intro x' y' z' D' u1' u2' u3' c' h' tk' e' a1' a2' a3' a4' a5' a6' F' N'))
set_option maxHeartbeats 8000000 in
theorem mul_step (w : World) (k : Nat) (hk20 : k ≤ 20) (IH : k ≠ 0 → MulC w k) : MulC w (k + 1) := by
  intro news pa ca x y z P NN Ac Bc gx gy n t1 t2 t3 t4 t5 t6 t7 t8 t9 tn c1 c2 h1 h2 hP hr hA hN hn hnk
  unfold Pure3 Calls1
  intro mean mg mb dp un gd cn cs a ccd cl outer A₀ base h₀ L m s Q E B F X N T hk hd' hu hret
  have hPb := prime_bd hP
  have hpw := pw_pos k
  have hpw0 : k = 0 → pw k = 1 := fun h => by subst h; rfl
  have hnk : n < 2 * pw k := hnk
  have hr' := hr
  obtain ⟨⟨hr1, hr2⟩, ⟨hr3, hr4⟩, ⟨hr5, hr6⟩⟩ := hr'
  dsimp only at hr1 hr2 hr3 hr4 hr5 hr6
  replace N := news_in1 (news_in1 N h1) (List.mem_cons_of_mem _ h2)
  clear h1 h2
  revert X; k_fill; intro X
  refine wpAny_call ?_
  k_dflt cell_enter
  k_steps
  all_goals try (exfalso; omega)
  all_goals refine ret3 hret (by assumption) (by assumption) (by k_mem) (fun p hp => ?_) ?_
  all_goals try (first | exact hp | exact .tail _ hp | exact .tail _ (.tail _ hp) | exact .tail _ (.tail _ (.tail _ hp)) | exact .tail _ (.tail _ (.tail _ (.tail _ hp))) | exact .tail _ (.tail _ (.tail _ (.tail _ (.tail _ hp)))) | exact .tail _ (.tail _ (.tail _ (.tail _ (.tail _ (.tail _ hp))))))
  all_goals first
    | exact jmul_1 (by omega)
    | exact jmul_2 (by omega) (by omega)
    | (rename (_, _, _) = jaddF _ _ _ _ => e3
       rename (_, _, _) = jdblF _ _ _ => e2
       rename (_, _, _) = jmulF _ _ _ _ _ _ => e1
       rename _ = Int.fdiv _ _ => e0
       rw [e0] at e1
       rw [jmul_5 (by omega) (by omega) (by omega) (by omega), ← e1, ← e2]
       exact e3.symm)
    | (rename (_, _, _) = jdblF _ _ _ => e2
       rename (_, _, _) = jmulF _ _ _ _ _ _ => e1
       rename _ = Int.fdiv _ _ => e0
       rw [e0] at e1
       rw [jmul_4 (by omega) (by omega) (by omega) (by omega), ← e1]
       exact e2.symm)
    | (rename (_, _, _) = jmulF _ _ _ _ _ _ => e1
       rename _ = Int.fmod _ _ => e0
       rw [e0] at e1
       rw [jmul_3 (by omega) (by omega) (by omega)]
       exact e1.symm)
theorem mul_c (w : World) : ∀ k : Nat, k ≤ 20 → MulC w (k + 1)
  | 0, _ => mul_step w 0 (by decide) (fun h => absurd rfl h)
  | k + 1, h => mul_step w (k + 1) h (fun _ => mul_c w k (by omega))
end Mine
-- part P3
namespace Mine
theorem p3_kind : builtinKind "pow" = none := by decide +kernel
theorem p3_plain : plainId "pow" = true := by decide +kernel
theorem p3_entry : entryFor table "pow" = some Builtin.«pow» := entryFor_of_fast (by kernel_rfl)
theorem p3_args (a b c : Value) : argsOk "pow" ⟨[a, b, c], []⟩ := by unfold argsOk; kernel_rfl
theorem p3_args_int (a b c : Value) : argsOk "int.__pow__" ⟨[a, b, c], []⟩ := by unfold argsOk; kernel_rfl
set_option maxHeartbeats 2000000 in
theorem p3_gives (a b m : Int) (t u v : Tok) (hb : 0 ≤ b) (hm : 1 < m) :
    Gives (Builtin.«int.__pow__» ⟨[.int a t, .int b u, .int m v], []⟩) (.int ((Builtin.powMod (a % (m.natAbs : Int)).toNat b.natAbs m.natAbs : Nat) : Int)) :=
  .of_wp fun M A E s Q h => by
    obtain ⟨hp, g, d, tk, os⟩ := s
    have h1 : ¬ (m == 0) = true := by simp; omega
    have h2 : ¬ (m.natAbs == 1) = true := by simp; omega
    have h3 : ¬ b < 0 := by omega
    have h4 : ¬ m < 0 := by omega
    wp_walk
    rw [if_neg (by simp [h4])]
    exact ⟨_, rfl, h⟩
set_option maxHeartbeats 4000000 in
theorem call_pow3 {prog : Program} {w : World} {A : Around} {E : Value → Shared → Prop} {s : Shared} {a b m : Int} {t u v : Tok} {Q : Value → Shared → Prop} (hb : 0 ≤ b) (hm : 1 < m)
    (h : Q (.int ((Builtin.powMod (a % (m.natAbs : Int)).toNat b.natAbs m.natAbs : Nat) : Int) s.toks) { s with toks := s.toks + 1 }) :
    wpAny (model prog w) A (call (.builtin "pow") [.int a t, .int b u, .int m v]) Q E s := by
  refine call_function_entry p3_kind p3_plain p3_entry (p3_args _ _ _) ?_
  obtain ⟨hp, g, d, tk, os⟩ := s
  have hT : (⟨hp, g, d, tk, os⟩ : Shared).TypeIs (.int a t) "int" := rfl
  have es : PySem.dunder "pow" = Str.ofString "__pow__" := by decide +kernel
  have S := F.slot_int_pow
  rw [es] at S
  have f3 := S.lookup
  have f4 := S.bind (.int a t)
  repeat (any_goals (first | assumption | ((with_reducible show wpAny _ _ (call (Value.builtin "int.__pow__") _ _) _ _ _); refine call_gives S hT F.entry_int_pow (p3_args_int _ _ _) (p3_gives a b m t u v hb hm) ?_; dsimp only [Made.post]) | wp_step))
  all_goals first | exact ⟨_, rfl, h⟩ | exact h | skip
  all_goals trace_state
end Mine
-- part Loop
namespace Mine
/-- no iterator over a range among these, but what stood before -/
def NoRi (cst nx : List (Addr × Obj)) : Prop := ∀ q ∈ nx, q.2.cls ≠ .type "range_iterator" ∨ q ∈ cst
theorem NoRi.app {c a b : List (Addr × Obj)} (h : NoRi c a) (g : NoRi c b) : NoRi c (a ++ b) := fun q hq => (List.mem_append.mp hq).elim (h q) (g q)
theorem NoRi.cons {c : List (Addr × Obj)} {q : Addr × Obj} {b : List (Addr × Obj)} (h : q.2.cls ≠ .type "range_iterator") (g : NoRi c b) : NoRi c (q :: b) := fun p hp => (List.mem_cons.mp hp).elim (fun e => e ▸ .inl h) (g p)
theorem NoRi.nil {c : List (Addr × Obj)} : NoRi c [] := fun _ h => nomatch h
theorem NoRi.self {c : List (Addr × Obj)} : NoRi c c := fun _ h => .inr h
/-- a turn's end -/
def REnd (h₀ : Heap) (L : Addr) (cst : List (Addr × Obj)) (J : (Str → Option Value) → List (Addr × Obj) → Prop) (own : List (Addr × Obj)) (s₁ s₂ : Shared) : Prop :=
  ∃ h' tk m' nx, s₂ = { s₁ with heap := h', toks := tk } ∧ Fr h₀ L h' m' ∧ News h₀ L h' (nx ++ own) ∧ NoRi cst nx ∧ J m' nx
theorem REnd.intro {h₀ : Heap} {L : Addr} {cst : List (Addr × Obj)} {J : (Str → Option Value) → List (Addr × Obj) → Prop} {own nx : List (Addr × Obj)} {s₁ : Shared} {h' : Heap} {tk : Nat} {m' : Str → Option Value}
    (F : Fr h₀ L h' m') (N : News h₀ L h' (nx ++ own)) (hn : NoRi cst nx) (hj : J m' nx) : REnd h₀ L cst J own s₁ { s₁ with heap := h', toks := tk } := ⟨h', tk, m', nx, rfl, F, N, hn, hj⟩
def RPost (h₀ : Heap) (L : Addr) (cst : List (Addr × Obj)) (J : (Str → Option Value) → List (Addr × Obj) → Prop) (own : List (Addr × Obj)) (s₁ : Shared) (Q : Flow → Shared → Prop) (f : Flow) (s₂ : Shared) : Prop :=
  match f with
  | .ret v => Q (.ret v) s₂
  | .brk => Q .next s₂
  | _ => REnd h₀ L cst J own s₁ s₂
section
variable {prog : Program} {w : World} {A : Around} {E : Value → Shared → Prop} {s : Shared} {env : Env} {h₀ : Heap} {x : Str} {body : List Stmt} {Q : Flow → Shared → Prop}
theorem rng_loop (cst : List (Addr × Obj)) {r : Addr} {a₀ b₀ : Int} {t₀ u₀ v₀ : Tok} {n : Nat} {m₀ : Str → Option Value} {news : List (Addr × Obj)} (J : Nat → (Str → Option Value) → List (Addr × Obj) → Prop)
    (hh : A.handled = none) (hr : IsRange s.heap r a₀ b₀ 1 t₀ u₀ v₀) (hsmall : Builtin.Range.small a₀ b₀ 1 = true) (hsz : Builtin.Range.rangeSize a₀ b₀ 1 = (n : Int))
    (F : Fr h₀ env.locals s.heap m₀) (N : News h₀ env.locals s.heap news) (hj : J 0 m₀ news) (hcst : ∀ p ∈ cst, p ∈ news)
    (turn : ∀ (i : Nat) t m₁ nx h tk own, i < n → (∀ p ∈ own, p.2.cls = .type "range_iterator") → J i m₁ nx → Fr h₀ env.locals h (fun y => if y = x then some (.int (a₀ + i) t) else m₁ y) → News h₀ env.locals h (nx ++ own) →
      wpAny (model prog w) A (execs body env) (RPost h₀ env.locals cst (J (i + 1)) own { s with heap := h, toks := tk } Q) E { s with heap := h, toks := tk })
    (done : ∀ m₁ nx h tk, J n m₁ nx → Fr h₀ env.locals h m₁ → News h₀ env.locals h nx → Q .next { s with heap := h, toks := tk }) :
    wpAny (model prog w) A (pyIter (.ref r)) (fun it s₂ => LoopAtV prog w A h₀ env x body Q E it s₂) E s := by
  refine wpAny_pyIter_range hr hsmall ?_
  have W : Walks prog w A s.heap.objs.size [s.heap.objs.size] [s.heap.objs.size] n (fun i v => i < n ∧ ∃ t, v = .int (a₀ + i * 1) t)
      (fun i h => IsRangeIter h s.heap.objs.size (a₀ + (i : Nat) * 1) ((n : Int) - (i : Nat)) 1) := (Walks.range hh _ a₀ 1 n).bound
  refine ⟨_, _, _, n, _, _, m₀, news, J, rfl, W, ?_, ?_, ?_, ?_, F.push _, (fun p hp => ⟨Heap.get?_push_of_some _ (N p hp).1, (N p hp).2⟩), hj, ?_, ?_⟩
  · intro hm
    exact absurd F.ns.lt ((List.mem_singleton.mp hm) ▸ Nat.lt_irrefl _)
  · intro b hb
    rw [List.mem_singleton.mp hb]
    exact next_is_new F
  · intro p hp hI
    exact absurd (Heap.lt_size (N p hp).1) ((List.mem_singleton.mp hI) ▸ Nat.lt_irrefl _)
  · show IsRangeIter _ _ _ _ _
    rw [hsz]
    simpa using Heap.get?_push_size _ rfl
  · rintro i v m₁ news₁ s₁ own ⟨hh', tk', rfl⟩ hin ⟨_, t, rfl⟩ hJ hoff hown hget hfp hst F₁ N₁
    have hst' : IsRangeIter hh' s.heap.objs.size (a₀ + ((i + 1 : Nat) : Int) * 1) ((n : Int) - ((i + 1 : Nat) : Int)) 1 := hst
    have hcls : ∀ p ∈ own, p.2.cls = .type "range_iterator" := by
      intro p hp
      have h1 := List.mem_singleton.mp (hown p hp)
      have h2 := hget p hp
      rw [h1] at h2
      have h3 := hst'.symm.trans h2
      injection h3 with h3
      rw [← h3]
    have hIown : ∃ o, (s.heap.objs.size, o) ∈ own := ⟨_, hfp _ (List.mem_singleton.mpr rfl) (next_is_new F) _ hst'⟩
    have N₂ : News h₀ env.locals hh' (news₁ ++ own) := fun p hp => N₁ p ((List.mem_append.mp hp).elim (fun h => List.mem_append.mpr (.inr h)) fun h => List.mem_append.mpr (.inl h))
    have e1 : a₀ + (i : Int) * 1 = a₀ + (i : Int) := by omega
    rw [e1] at F₁
    refine wpAny_mono (turn i t m₁ news₁ hh' tk' own hin hcls hJ F₁ N₂) (fun f s₂ p => ?_) fun _ _ e => e
    have fin : (∃ h' tk m' nx, s₂ = { ({ s with heap := hh', toks := tk' } : Shared) with heap := h', toks := tk } ∧ Fr h₀ env.locals h' m' ∧ News h₀ env.locals h' (nx ++ own) ∧ NoRi cst nx ∧ J (i + 1) m' nx) → LoopStepU h₀ env.locals [s.heap.objs.size] own (J (i + 1)) { s with heap := hh', toks := tk' } .next s₂ := by
      rintro ⟨h', tk, m', nx, e, F', N', hno, hm⟩
      refine ⟨rfl, h', tk, m', nx, e, F', fun p hp => N' p ((List.mem_append.mp hp).elim (fun h => List.mem_append.mpr (.inr h)) fun h => List.mem_append.mpr (.inl h)), fun p hp hq => ?_, hm⟩
      obtain ⟨o, ho⟩ := hIown
      have h1 := (N' _ (List.mem_append.mpr (.inr ho))).1
      have h2 := (N' _ (List.mem_append.mpr (.inl hp))).1
      rw [List.mem_singleton.mp hq] at h2
      have h3 := h1.symm.trans h2
      injection h3 with h3
      rcases hno p hp with hc | hc
      · exact hc (h3 ▸ hcls _ ho)
      · exact absurd (Heap.lt_size (N p (hcst p hc)).1) ((List.mem_singleton.mp hq) ▸ Nat.lt_irrefl _)
    cases f with
    | ret v => exact .ret p
    | brk => exact .brk p
    | next => exact .next (fin p)
    | cont => exact .cont (fin p)
  · rintro h' tk m' news' F' N' _ hJ
    exact done m' news' h' tk hJ F' N'
end
end Mine
-- part C9
namespace Mine
local macro_rules | `(tactic| walk_at "no key of this name") => `(tactic| fail)
theorem calm_C9 : True := by w_top off; trivial
local macro_rules | `(tactic| mul_fits) => `(tactic| first
  | (with_reducible show Bd _ _); first
    | (refine Bd.var (by with_reducible assumption) (by with_reducible assumption))
    | (refine Bd.var ?_ ?_ <;> omega)
    | (refine Bd.mul ?_ ?_ <;> mul_fits) | (refine Bd.pow ?_ <;> mul_fits) | (refine Bd.add ?_ ?_ <;> mul_fits) | (refine Bd.sub ?_ ?_ <;> mul_fits)
    | (refine Bd.small ?_ ?_ <;> omega))
local macro_rules | `(tactic| walk_at "binaryOp Mult int int") => `(tactic| (with_reducible refine' mul_b ?kb1 ?kb2 ?_; (case kb1 => mul_fits); (case kb2 => decide)))
local macro_rules | `(tactic| walk_at "binaryOp Pow int int") => `(tactic| (with_reducible refine' pow_b ?kb0 ?kb1 ?kb2 ?kb3 ?kb4 ?_; (case kb0 => with_unfolding_all first | exact to2 | exact to3 | exact to4); (case kb1 => mul_fits); (case kb2 => decide); (case kb3 => decide); (case kb4 => decide)))
local macro_rules | `(tactic| walk_at "binaryOp Mod int int") => `(tactic| (with_reducible refine mod_b ?kb1 ?_; (case kb1 => omega); intro r' hr' h0' h1'))
local macro_rules | `(tactic| k_steps) => `(tactic| repeat' ((fail_if_success (with_reducible show wpAny _ _ (exec (Stmt.While _ _ _ _) _) _ _ _)); (fail_if_success (with_reducible show wpAny _ _ (pyIter _) _ _ _)); (fail_if_success (with_reducible show KswEnd _ _ _ _ _ _ _ _ _ _ _ _)); first | (k_unfold; (try dsimp only)) | (walk1; try dsimp only) | (dsimp only; walk1)))
local macro_rules | `(tactic| walk_at "RPost") => `(tactic| (dsimp only [RPost]))
/-- the square root that the law tries -/
def sqF (p v : Int) : Int := (v ^ ((p + 1) / 4).toNat) % p
theorem sqF_all : ([7, 11, 19, 23, 31] : List Nat).all (fun p => (List.range p).all fun v => decide (((Builtin.powMod (((v : Nat) : Int) % ((((p : Nat) : Int)).natAbs : Int)).toNat ((((p : Nat) : Int) + 1).fdiv 4).natAbs (((p : Nat) : Int)).natAbs : Nat) : Int) = sqF p v)) = true := by decide +kernel
theorem sqF_is {p v : Int} (hp : PrimeL p) (h0 : 0 ≤ v) (h1 : v < p) : ((Builtin.powMod (v % ((p.natAbs : Int))).toNat ((p + 1).fdiv 4).natAbs p.natAbs : Nat) : Int) = sqF p v := by
  have := List.all_eq_true.mp sqF_all p.toNat (by rcases hp with rfl | rfl | rfl | rfl | rfl <;> decide)
  have := List.all_eq_true.mp this v.toNat (List.mem_range.mpr (by omega))
  have e1 : ((p.toNat : Nat) : Int) = p := by rcases hp with rfl | rfl | rfl | rfl | rfl <;> rfl
  have e2 : ((v.toNat : Nat) : Int) = v := by omega
  rw [e1, e2] at this
  exact of_decide_eq_true this
theorem sqF_bd {p v : Int} (hp : 0 < p) : 0 ≤ sqF p v ∧ sqF p v < p := ⟨Int.emod_nonneg _ (by omega), Int.emod_lt_of_pos _ hp⟩
theorem div4_b {prog : Program} {w : World} {A : Around} {E : Value → Shared → Prop} {s : Shared} {Q : Value → Shared → Prop} {a : Int} {t u : Tok}
    (h : ∀ r, r = a.fdiv 4 → 4 * r ≤ a → a < 4 * r + 4 → Q (.int r s.toks) { s with toks := s.toks + 1 }) : wpAny (model prog w) A (binaryOp .FloorDiv (.int a t) (.int 4 u)) Q E s := by
  have e : a.fdiv 4 = a / 4 := Int.fdiv_eq_ediv_of_nonneg _ (by decide)
  exact floordiv_int (by decide) (h _ rfl (by rw [e]; omega) (by rw [e]; omega)) (Or.inl (PyProof.noPylong_of_log2 (by decide +kernel)))
theorem call_pow_b {prog : Program} {w : World} {A : Around} {E : Value → Shared → Prop} {s : Shared} {v r p : Int} {t u t' : Tok} {Q : Value → Shared → Prop} (hp : PrimeL p) (hr : r = (p + 1).fdiv 4) (h0 : 0 ≤ v) (h1 : v < p)
    (h : ∀ y, y = sqF p v → 0 ≤ y → y < p → Q (.int y s.toks) { s with toks := s.toks + 1 }) : wpAny (model prog w) A (call (.builtin "pow") [.int v t, .int r u, .int p t']) Q E s := by
  subst hr
  have hb := prime_bd hp
  have h4 : (p + 1).fdiv 4 = (p + 1) / 4 := Int.fdiv_eq_ediv_of_nonneg _ (by decide)
  refine call_pow3 (by rw [h4]; omega) (by omega) ?_
  rw [sqF_is hp h0 h1]
  exact h _ rfl (sqF_bd (by omega)).1 (sqF_bd (by omega)).2
/-- the points that the law's helper has listed behind k turns; none: it has met a 0 -/
def ptsF (p a b : Int) : Nat → Option (List (Int × Int))
  | 0 => some [(0, 0)]
  | k + 1 => match ptsF p a b k with
    | none => none
    | some l =>
      let v := ((k : Int) ^ 3 + a * k + b).fmod p
      if v = 0 then none else
      if (sqF p v * sqF p v).fmod p = v then some (l ++ [((k : Int), sqF p v), ((k : Int), p - sqF p v)]) else some l
def lawPts (p a b : Int) : List (Int × Int) := (ptsF p a b p.toNat).getD []
/-- values that are the tuples of these points -/
inductive PtAll (nx : Led) : List Value → List (Int × Int) → Prop
  | nil : PtAll nx [] []
  | cons {d : Addr} {x y : Int} {t1 t2 : Tok} {c : Nat} {vs : List Value} {ps : List (Int × Int)} : (d, tup2 x y t1 t2 c) ∈ nx → PtAll nx vs ps → PtAll nx (.ref d :: vs) ((x, y) :: ps)
theorem PtAll.mono {nx nx' : Led} (hs : ∀ q ∈ nx, q ∈ nx') : ∀ {vs : List Value} {ps : List (Int × Int)}, PtAll nx vs ps → PtAll nx' vs ps
  | _, _, .nil => .nil
  | _, _, .cons h r => .cons (hs _ h) (r.mono hs)
theorem PtAll.app {nx : Led} : ∀ {vs ws : List Value} {ps qs : List (Int × Int)}, PtAll nx vs ps → PtAll nx ws qs → PtAll nx (vs ++ ws) (ps ++ qs)
  | _, _, _, _, .nil, g => g
  | _, _, _, _, .cons h r, g => .cons h (r.app g)
theorem PtAll.length {nx : Led} : ∀ {vs : List Value} {ps : List (Int × Int)}, PtAll nx vs ps → vs.length = ps.length
  | _, _, .nil => rfl
  | _, _, .cons _ r => by rw [List.length_cons, List.length_cons, r.length]
def TupLed (tl : Led) : Prop := ∀ q ∈ tl, q.2.cls = .type "tuple" ∧ ∃ xs n, q.2.data = .seq xs n
theorem fr_known {h₀ h : Heap} {L : Addr} {m₁ : Str → Option Value} {x : Str} {v : Option Value} {ps : List (Str × Value)} (hp : ∀ p ∈ ps, m₁ p.1 = some p.2) (F : Fr h₀ L h (fun y => if y = x then v else m₁ y)) : Fr h₀ L h (fun y => if y = x then v else kstB m₁ ps y) := by
  have e : m₁ = kstB m₁ ps := funext fun z => (kstB_eq hp fun _ => rfl).symm
  rw [← e]
  exact F
theorem fr_known0 {h₀ h : Heap} {L : Addr} {m₁ : Str → Option Value} {ps : List (Str × Value)} (hp : ∀ p ∈ ps, m₁ p.1 = some p.2) (F : Fr h₀ L h m₁) : Fr h₀ L h (kstB m₁ ps) := by
  have e : m₁ = kstB m₁ ps := funext fun z => (kstB_eq hp fun _ => rfl).symm
  rw [← e]
  exact F
def PureL (w : World) (need : Nat) (f : Addr) (vs : List Value) (news : Led) (ps : List (Int × Int)) : Prop :=
  Calls1 w need f vs news fun G Q => ∀ (D : Addr) (us : List Value) (c : Nat) (tl : Led) (h' : Heap) (tk' : Nat), G h' ((D, listOf us.toArray c) :: (news ++ tl)) → TupLed tl → PtAll tl us ps → (∀ q ∈ news, q.1 < D) → Q (.ref D) h' tk'
local macro_rules | `(tactic| walk_at "binaryOp FloorDiv int int") => `(tactic| (with_reducible refine div4_b ?_; intro r' hr' h0' h1'))
local macro_rules | `(tactic| walk_at "call builtin:pow") => `(tactic| (with_reducible refine call_pow_b ?b1 ?b2 ?b3 ?b4 ?_; (case b1 => assumption); (case b2 => assumption); (case b3 => assumption); (case b4 => assumption); intro r' hr' h0' h1'))
def ptsJ (news : Led) (p a b : Int) (t1 t2 t3 : Tok) (l : Addr) (i : Nat) (m : Str → Option Value) (nx : Led) : Prop :=
  ∃ us c tl ps, nx = (l, listOf us.toArray c) :: (tl ++ news) ∧ TupLed tl ∧ PtAll tl us ps ∧ ptsF p a b i = some ps ∧ ps.length ≤ 2 * i + 1 ∧
    (∀ q ∈ ([("p", .int p t1), ("a", .int a t2), ("b", .int b t3), ("points", .ref l)] : List (Str × Value)), m q.1 = some q.2)
local macro_rules | `(tactic| k_all) => `(tactic| first | exact List.forall_mem_nil _ | assumption | (refine' List.forall_mem_cons.mpr ⟨?a, ?b⟩; (case a => k_ne); (case b => k_all)))
theorem allLt_mem {d : Addr} : ∀ {l : Led}, AllLt d l → ∀ q ∈ l, q.1 < d
  | [], _, _, h => nomatch h
  | _ :: _, h, _, hq => (List.mem_cons.mp hq).elim (fun e => e ▸ h.1) (allLt_mem h.2 _)
theorem off_of {h₀ h : Heap} {L l : Addr} {nx T : Led} {o : Obj} (N : News h₀ L h nx) (hl : (l, o) ∈ nx) (hT : ∀ q ∈ T, q ∈ nx) (hd : ∀ q ∈ T, q.2.cls ≠ o.cls ∨ q.1 ≠ l) : ∀ q ∈ T, q.1 ≠ l := by
  intro q hq e
  rcases hd q hq with h1 | h1
  · have h2 := (N _ (hT q hq)).1
    rw [e, (N _ hl).1] at h2
    exact h1 (congrArg Obj.cls (Option.some.inj h2)).symm
  · exact h1 e
local macro_rules | `(tactic| walk_at "call builtin:list.append") => `(tactic| (k_here; (with_reducible show wpAny _ _ (call (Value.builtin _) [Value.ref _, _]) _ _ _); k_dflt (refine' append_K ?k1 ?k2 ?k3 ?_ ?z; (case k1 => k_asm); (case k2 => k_asm); (case k3 => k_upd); (case z => (simp only [Array.size_push, List.size_toArray, sizeLine_eq]; omega)); k_whole); intro h' F' N'))
theorem ptsF_none {p a b : Int} {k : Nat} (h : ptsF p a b k = none) : ∀ n, k ≤ n → ptsF p a b n = none
  | 0, hn => by have : k = 0 := by omega
                subst this; exact h
  | n + 1, hn => by
    by_cases e : k = n + 1
    · subst e; exact h
    · have := ptsF_none h n (by omega)
      simp only [ptsF, this]
theorem ptsF_0 {p a b v : Int} {k : Nat} {ps : List (Int × Int)} (h : ptsF p a b k = some ps) (hv : v = ((k : Int) ^ 3 + a * k + b).fmod p) (h0 : v = 0) : ptsF p a b (k + 1) = none := by
  simp only [ptsF, h, ← hv, h0, if_true]
theorem ptsF_1 {p a b v y : Int} {k : Nat} {ps : List (Int × Int)} (h : ptsF p a b k = some ps) (hv : v = ((k : Int) ^ 3 + a * k + b).fmod p) (h0 : v ≠ 0) (hy : y = sqF p v) (h1 : (y * y).fmod p = v) : ptsF p a b (k + 1) = some (ps ++ [((k : Int), y), ((k : Int), p - y)]) := by
  simp only [ptsF, h, ← hv, if_neg h0, ← hy, if_pos h1]
theorem ptsF_2 {p a b v y : Int} {k : Nat} {ps : List (Int × Int)} (h : ptsF p a b k = some ps) (hv : v = ((k : Int) ^ 3 + a * k + b).fmod p) (h0 : v ≠ 0) (hy : y = sqF p v) (h1 : ¬ (y * y).fmod p = v) : ptsF p a b (k + 1) = some ps := by
  simp only [ptsF, h, ← hv, if_neg h0, ← hy, if_neg h1]
theorem pts_end2 {h₀ h' : Heap} {L l D1 D2 : Addr} {m' : Str → Option Value} {news tl own T : Led} {s₁ : Shared} {p a b : Int} {t1 t2 t3 : Tok} {i c tk : Nat} {us : List Value} {ps : List (Int × Int)} {x1 y1 x2 y2 : Int} {u1 u2 u3 u4 : Tok} {e1 e2 : Nat}
    (F : Fr h₀ L h' m') (N : News h₀ L h' ((D2, tup2 x2 y2 u3 u4 e2) :: (D1, tup2 x1 y1 u1 u2 e1) :: (l, listOf ((us.toArray.push (.ref D1)).push (.ref D2)) c) :: T))
    (hT : tl ++ news ++ own = T) (htl : TupLed tl) (hpa : PtAll tl us ps) (hlen : ps.length ≤ 2 * i + 1) (hpf : ptsF p a b (i + 1) = some (ps ++ [(x1, y1), (x2, y2)]))
    (hm : ∀ q ∈ ([("p", .int p t1), ("a", .int a t2), ("b", .int b t3), ("points", .ref l)] : List (Str × Value)), m' q.1 = some q.2) :
    REnd h₀ L news (ptsJ news p a b t1 t2 t3 l (i + 1)) own s₁ { s₁ with heap := h', toks := tk } := by
  have hnx : TupLed ((D2, tup2 x2 y2 u3 u4 e2) :: (D1, tup2 x1 y1 u1 u2 e1) :: tl) := by
    intro q hq
    rcases List.mem_cons.mp hq with rfl | hq
    · exact ⟨rfl, _, _, rfl⟩
    rcases List.mem_cons.mp hq with rfl | hq
    · exact ⟨rfl, _, _, rfl⟩
    · exact htl q hq
  refine REnd.intro (nx := (l, listOf ((us ++ [Value.ref D1, Value.ref D2]).toArray) c) :: (((D2, tup2 x2 y2 u3 u4 e2) :: (D1, tup2 x1 y1 u1 u2 e1) :: tl) ++ news)) F (news_sub N ?_) ?_ ⟨us ++ [Value.ref D1, Value.ref D2], c, _, ps ++ [(x1, y1), (x2, y2)], rfl, hnx, ?_, hpf, ?_, hm⟩
  · subst hT
    have e : (us.toArray.push (Value.ref D1)).push (Value.ref D2) = (us ++ [Value.ref D1, Value.ref D2]).toArray := by simp
    rw [e]
    intro q hq
    simp only [List.cons_append, List.append_assoc, List.mem_cons, List.mem_append] at hq ⊢
    rcases hq with h | h | h | h | h | h <;> simp [h]
  · refine NoRi.cons (by simp) (NoRi.app (fun q hq => .inl ?_) NoRi.self)
    rw [(hnx q hq).1]; simp
  · exact (hpa.mono fun q hq => .tail _ (.tail _ hq)).app (.cons (.tail _ (.head _)) (.cons (.head _) .nil))
  · simp only [List.length_append, List.length_cons, List.length_nil]; omega
theorem pts_end0 {h₀ h' : Heap} {L l : Addr} {m' : Str → Option Value} {news tl own T : Led} {s₁ : Shared} {p a b : Int} {t1 t2 t3 : Tok} {i c tk : Nat} {us : List Value} {ps : List (Int × Int)}
    (F : Fr h₀ L h' m') (N : News h₀ L h' ((l, listOf us.toArray c) :: T))
    (hT : tl ++ news ++ own = T) (htl : TupLed tl) (hpa : PtAll tl us ps) (hlen : ps.length ≤ 2 * i + 1) (hpf : ptsF p a b (i + 1) = some ps)
    (hm : ∀ q ∈ ([("p", .int p t1), ("a", .int a t2), ("b", .int b t3), ("points", .ref l)] : List (Str × Value)), m' q.1 = some q.2) :
    REnd h₀ L news (ptsJ news p a b t1 t2 t3 l (i + 1)) own s₁ { s₁ with heap := h', toks := tk } := by
  refine REnd.intro (nx := (l, listOf us.toArray c) :: (tl ++ news)) F (news_sub N ?_) ?_ ⟨us, c, _, ps, rfl, htl, hpa, hpf, by omega, hm⟩
  · subst hT
    exact fun q hq => hq
  · refine NoRi.cons (by simp) (NoRi.app (fun q hq => .inl ?_) NoRi.self)
    rw [(htl q hq).1]; simp
set_option maxHeartbeats 8000000 in
theorem pts_c (w : World) {news : Led} {p x y : Int} {t1 t2 t3 : Tok} (hp : PrimeL p) (hx : Rs p x) (hy : Rs p y) :
   PureL w 1 71 [.int p t1, .int x t2, .int y t3] news (lawPts p x y) := by
  unfold PureL Calls1
  intro mean mg mb dp un gd cn cs a ccd cl outer A₀ base h₀ L m s Q E B F X N T hk hd' hu hret
  have hPb := prime_bd hp
  obtain ⟨hx0, hx1⟩ := hx
  obtain ⟨hy0, hy1⟩ := hy
  revert X; k_fill; intro X
  refine wpAny_call ?_
  k_dflt cell_enter
  k_steps
  rename IsRange _ _ _ _ _ _ _ _ => rgX
  rename Fr _ _ _ _ => lF
  rename News _ _ _ _ => lN
  rename _ ∧ AllLt _ _ => hl1
  have hnl := allLt_mem hl1.2
  refine rng_loop news (ptsJ news p x y t1 t2 t3 _) (by rfl) rgX (small_one (by omega) (by omega) (by omega) (by omega)) (rangeSize_nat _ _) lF lN ⟨[.ref _], 0, [(_, _)], [(0, 0)], rfl, ?_, ?_, rfl, by decide, ?_⟩ (fun q hq => .tail _ (.tail _ hq)) ?_ ?_
  · intro q hq
    rw [List.mem_singleton.mp hq]
    exact ⟨rfl, _, _, rfl⟩
  · exact .cons (.head _) .nil
  · exact (List.forall_mem_cons.mpr ⟨rfl, List.forall_mem_cons.mpr ⟨rfl, List.forall_mem_cons.mpr ⟨rfl, List.forall_mem_cons.mpr ⟨rfl, List.forall_mem_nil _⟩⟩⟩⟩)
  · intro i t m₁ nx h tk own hi hown hJ F₁ N₁
    obtain ⟨us, c, tl, ps, rfl, htl, hpa, hpf, hlen, hm⟩ := hJ
    have F₂ := fr_known hm F₁
    simp only [Int.zero_add] at F₂
    have hoff := off_of (T := (tl ++ news) ++ own) N₁ (.head _) (fun q hq => .tail _ hq) (by
      intro q hq
      rcases List.mem_append.mp hq with hq | hq
      · rcases List.mem_append.mp hq with hq | hq
        · left; rw [(htl q hq).1]; simp
        · right; exact Nat.ne_of_lt (hnl q hq)
      · left; rw [hown q hq]; simp)
    rw [List.cons_append] at N₁
    generalize hT : (tl ++ news) ++ own = T at N₁ hoff
    have hi0 : (0 : Int) ≤ (i : Int) := by omega
    have hi1 : (i : Int) < 32 := by omega
    have hus : us.length ≤ 100 := by rw [hpa.length]; omega
    clear F₁ lF lN rgX
    k_steps
    · -- a root: the empty list
      rename _ = Int.fmod _ _ => e1
      rename _ = (0 : Int) => h0
      have hno := ptsF_none (ptsF_0 hpf e1 h0) p.toNat (by omega)
      have hl : lawPts p x y = [] := by rw [lawPts, hno]; rfl
      rename Fr h₀ _ _ m => kF
      rename News h₀ _ _ _ => kN
      rw [hl] at hret
      refine hret _ [] 0 [] _ _ ⟨kF, news_sub kN ?_⟩ (fun q hq => nomatch hq) .nil ?_
      · intro q hq
        rw [List.append_nil] at hq
        rcases List.mem_cons.mp hq with rfl | hq
        · exact .head _
        · refine .tail _ (.tail _ ?_)
          rw [← hT]
          exact List.mem_append.mpr (.inl (List.mem_append.mpr (.inr hq)))
      · rename _ ∧ AllLt _ _ => hl2
        intro q hq
        exact Nat.lt_trans (hnl q hq) hl2.1
    · -- two points
      rename Fr _ _ _ _ => lF
      rename News _ _ _ _ => lN
      rename _ = Int.fmod _ _ => e3
      rename _ = sqF _ _ => e2
      rename _ = Int.fmod (_ + _ + _) _ => e1
      rename _ = _ => h1
      rename _ ≠ (0 : Int) => h0
      rw [e3] at h1
      refine' pts_end2 lF lN hT htl hpa hlen (ptsF_1 hpf e1 h0 e2 h1) (List.forall_mem_cons.mpr ⟨rfl, List.forall_mem_cons.mpr ⟨rfl, List.forall_mem_cons.mpr ⟨rfl, List.forall_mem_cons.mpr ⟨rfl, List.forall_mem_nil _⟩⟩⟩⟩)
    · -- none
      rename Fr _ _ _ _ => lF
      rename News _ _ _ _ => lN
      rename _ = Int.fmod _ _ => e3
      rename _ = sqF _ _ => e2
      rename _ = Int.fmod (_ + _ + _) _ => e1
      rename _ ≠ _ => h1
      rename _ ≠ (0 : Int) => h0
      rw [e3] at h1
      refine' pts_end0 lF lN hT htl hpa hlen (ptsF_2 hpf e1 h0 e2 h1) (List.forall_mem_cons.mpr ⟨rfl, List.forall_mem_cons.mpr ⟨rfl, List.forall_mem_cons.mpr ⟨rfl, List.forall_mem_cons.mpr ⟨rfl, List.forall_mem_nil _⟩⟩⟩⟩)
  · intro m₁ nx h tk hJ F₁ N₁
    obtain ⟨us, c, tl, ps, rfl, htl, hpa, hpf, hlen, hm⟩ := hJ
    have F₂ := fr_known0 hm F₁
    clear F₁ lF lN rgX
    k_steps
    rename Fr h₀ _ _ m => kF
    rename News h₀ _ _ _ => kN
    have hl : lawPts p x y = ps := by
      have e : (p - 0).toNat = p.toNat := by omega
      rw [e] at hpf
      rw [lawPts, hpf]; rfl
    rw [hl] at hret
    refine hret _ us c tl _ _ ⟨kF, news_sub kN ?_⟩ htl hpa hnl
    intro q hq
    simp only [List.mem_cons, List.mem_append] at hq ⊢
    rcases hq with h | h | h <;> simp [h]
end Mine
-- part GB
namespace Mine
def okB (p a b : Nat) : Bool := (ptsF p a b p).isSome
theorem good_all : ([7, 11, 19, 23, 31] : List Nat).all (fun p => (List.range p).all fun a => (a == 0 && p % 3 == 2) || (List.range p).any fun b => okB p a b) = true := by decide +kernel
theorem ptsF_ne {p a b : Int} : ∀ {k : Nat} {ps : List (Int × Int)}, ptsF p a b k = some ps → ps ≠ []
  | 0, ps, h => by
    cases h
    simp
  | k + 1, ps, h => by
    unfold ptsF at h
    cases hk : ptsF p a b k with
    | none => rw [hk] at h; cases h
    | some l =>
      rw [hk] at h
      have := ptsF_ne hk
      simp only at h
      split at h
      · cases h
      split at h
      · cases h; simp
      · cases h; exact this
theorem lawPts_ne {p a b : Int} : lawPts p a b ≠ [] ↔ (ptsF p a b p.toNat).isSome = true := by
  unfold lawPts
  cases h : ptsF p a b p.toNat with
  | none => simp
  | some l => simpa using ptsF_ne h
theorem nat_of_prime {p : Int} (hp : PrimeL p) : p.toNat ∈ ([7, 11, 19, 23, 31] : List Nat) ∧ ((p.toNat : Nat) : Int) = p := by
  rcases hp with rfl | rfl | rfl | rfl | rfl <;> exact ⟨by decide, rfl⟩
theorem good_ex {p a : Int} (hp : PrimeL p) (h0 : 0 ≤ a) (h1 : a < p) (ha : a = 0 → p.fmod 3 ≠ 2) : ∃ g : Int, 0 ≤ g ∧ g < p ∧ lawPts p a g ≠ [] := by
  obtain ⟨hm, ep⟩ := nat_of_prime hp
  have h := List.all_eq_true.mp good_all _ hm
  have h := List.all_eq_true.mp h a.toNat (List.mem_range.mpr (by omega))
  have hz : (a.toNat == 0 && p.toNat % 3 == 2) = false := by
    by_cases h0' : a = 0
    · have h3 := ha h0'
      have : ¬ p.toNat % 3 = 2 := by
        intro h4
        apply h3
        rcases hp with rfl | rfl | rfl | rfl | rfl <;> first | rfl | (exact absurd h4 (by decide))
      simp [this]
    · have : ¬ a.toNat = 0 := by omega
      simp [this]
  rw [hz, Bool.false_or] at h
  obtain ⟨b, hb, hok⟩ := List.any_eq_true.mp h
  have hb := List.mem_range.mp hb
  refine ⟨(b : Int), by omega, by omega, lawPts_ne.mpr ?_⟩
  have ea : ((a.toNat : Nat) : Int) = a := by omega
  unfold okB at hok
  rw [ep, ea] at hok
  exact hok
end Mine
-- part LawR
namespace Mine
def ptD (q : Int × Int) : Dat := .tuple [.int q.1, .int q.2]
theorem ptD_inj {a b : Int × Int} (h : ptD a = ptD b) : a = b := by
  obtain ⟨x, y⟩ := a
  obtain ⟨x', y'⟩ := b
  simp only [ptD, Dat.tuple.injEq, List.cons.injEq, Dat.int.injEq, and_true] at h
  rw [h.1, h.2]
theorem ptIn {nx : Led} {d : Addr} {x y : Int} {t1 t2 : Tok} {c : Nat} (h : (d, tup2 x y t1 t2 c) ∈ nx) : DatIn nx (.ref d) (ptD (x, y)) :=
  .tuple (n := c) h (.cons (.int x t1) (.cons (.int y t2) .nil))
theorem PtAll.dat {nx : Led} : ∀ {vs : List Value} {ps : List (Int × Int)}, PtAll nx vs ps → DatAll nx vs (ps.map ptD)
  | _, _, .nil => .nil
  | _, _, .cons h r => .cons (ptIn h) r.dat
theorem PtAll.up {nx nx' : Led} {vs : List Value} {ps : List (Int × Int)} (h : PtAll nx vs ps) (hs : ∀ q ∈ nx, q ∈ nx') : PtAll nx' vs ps := h.mono hs
theorem pt_ok (q : Int × Int) : kqdOk 8 (ptD q) = true := by
  obtain ⟨x, y⟩ := q
  simp [ptD, kqdOk]
theorem pts_ok (ps : List (Int × Int)) : ∀ d ∈ ps.map ptD, kqdOk 8 d = true := by
  intro d hd
  obtain ⟨q, _, rfl⟩ := List.mem_map.mp hd
  exact pt_ok q
section
variable {prog : Program} {w : World} {A : Around} {E : Value → Shared → Prop} {s : Shared} {h₀ : Heap} {L a b d : Addr} {news : Led} {us ws : List Value} {c c' : Nat} {ps qs : List (Int × Int)} {x y : Int} {t1 t2 : Tok} {Q : Value → Shared → Prop}
/-- points == [] -/
theorem eq_nil (N : News h₀ L s.heap news) (ma : (a, listOf us.toArray c) ∈ news) (Da : PtAll news us ps) (mb : (b, listOf #[] c') ∈ news) (hu : A.units + 64 < cLine) (h : Q (.bool (decide (ps = []))) s) : wpAny (model prog w) A (compareOp .Eq (.ref a) (.ref b)) Q E s := by
  refine kqd_eq (ds := ps.map ptD) (es := []) (xs := us) (ys := []) N ma rfl rfl Da.dat (fun _ h => h) mb rfl rfl .nil (fun _ h => h) (pts_ok ps) (fun _ h => nomatch h) hu ?_
  have e : ∀ (i : Decidable (ps.map ptD = [])), @decide _ i = decide (ps = []) := by
    intro i
    cases ps with
    | nil => exact (@decide_eq_true _ i rfl).trans (decide_eq_true rfl).symm
    | cons q r => exact (@decide_eq_false _ i (by simp)).trans (decide_eq_false (by simp)).symm
  rw [e]
  exact h
theorem mem_pt {i : Decidable (ptD (x, y) ∈ ps.map ptD)} : @decide _ i = decide ((x, y) ∈ ps) := by
  have e : ptD (x, y) ∈ ps.map ptD ↔ (x, y) ∈ ps := by
    constructor
    · intro h
      obtain ⟨q, hq, e⟩ := List.mem_map.mp h
      rw [← ptD_inj e]
      exact hq
    · exact fun h => List.mem_map.mpr ⟨_, h, rfl⟩
  by_cases h : (x, y) ∈ ps
  · exact (@decide_eq_true _ i (e.mpr h)).trans (decide_eq_true h).symm
  · exact (@decide_eq_false _ i (fun g => h (e.mp g))).trans (decide_eq_false h).symm
/-- total in points -/
theorem in_pts (N : News h₀ L s.heap news) (ma : (a, listOf us.toArray c) ∈ news) (Da : PtAll news us ps) (md : (d, tup2 x y t1 t2 c') ∈ news) (hu : A.units + 64 < cLine) (h : Q (.bool (decide ((x, y) ∈ ps))) s) : wpAny (model prog w) A (compareOp .In (.ref d) (.ref a)) Q E s := by
  refine kqd_isIn (ds := ps.map ptD) (xs := us) N ma rfl rfl Da.dat (fun _ h => h) (ptIn md) (fun _ h => h) (pts_ok ps) (pt_ok _) hu ?_
  rw [mem_pt]
  exact h
/-- image not in points -/
theorem notin_pts (N : News h₀ L s.heap news) (ma : (a, listOf us.toArray c) ∈ news) (Da : PtAll news us ps) (md : (d, tup2 x y t1 t2 c') ∈ news) (hu : A.units + 64 < cLine) (h : Q (.bool (!decide ((x, y) ∈ ps))) s) : wpAny (model prog w) A (compareOp .NotIn (.ref d) (.ref a)) Q E s := by
  refine kqd_notIn (ds := ps.map ptD) (xs := us) N ma rfl rfl Da.dat (fun _ h => h) (ptIn md) (fun _ h => h) (pts_ok ps) (pt_ok _) hu ?_
  rw [mem_pt]
  exact h
end
section
variable {w : World} {news : Led} {mean : ExcName → Option Value} {mg mb : Str → Option Value} {dp un : Nat} {gd : Option (List Code)} {cn : Str} {cs : Scope} {a : Addr} {ccd : Value} {cl : List (Str × Addr)} {outer : List Env} {A₀ : Around} {base h₀ : Heap} {L : Addr} {m : Str → Option Value} {s : Shared} {Q E : Value → Shared → Prop}
theorem pts_use {p x y : Int} {t1 t2 t3 : Tok} (hp : PrimeL p) (hx : Rs p x) (hy : Rs p y) (B : Below A₀ base outer h₀) (F : Fr h₀ L s.heap m) (X : Frag.In (hd.heap_39 w.params) h₀) (N : News h₀ L s.heap news) (T : Top hd.view_39 (looseW hd.view_39 []) mean mg mb h₀) (hk : cs.kind = .function)
    (hd' : dp + 1 < recursionLimit) (hu : un + 8 * 1 < cLine)
    (h : ∀ (D : Addr) (us : List Value) (c : Nat) (tl : Led) (h' : Heap) (tk' : Nat), TupLed tl → PtAll tl us (lawPts p x y) → AllLt D news → Fr h₀ L h' m → News h₀ L h' ((D, listOf us.toArray c) :: (news ++ tl)) → Q (.ref D) { s with heap := h', toks := tk' }) :
    wpAny (model Challenge.rw_bb0056_01.row.prog w) (ktrTop dp un gd cn cs L a ccd cl outer) (call (.ref 71) [.int p t1, .int x t2, .int y t3]) Q E s :=
  pts_c w hp hx hy B F X N T hk hd' hu fun D us c tl h' tk' g ht hpt hl => h D us c tl h' tk' ht hpt (allLt_of hl) g.1 g.2
end
theorem tups_off {h₀ h : Heap} {L b : Addr} {nx tl : Led} {o : Obj} {v : Option Value} (N : News h₀ L h nx) (hb : (b, o) ∈ nx) (hT : ∀ q ∈ tl, q ∈ nx) (ht : TupLed tl) (ho : o.data = .cell v) : ∀ q ∈ tl, q.1 ≠ b := by
  intro q hq e
  obtain ⟨_, xs, n, hx⟩ := ht q hq
  have h2 := (N _ (hT q hq)).1
  rw [e, (N _ hb).1] at h2
  have h3 := Option.some.inj h2
  rw [← h3, ho] at hx
  cases hx
/-- a number b for which the law's helper lists points -/
def goodB (p a : Nat) : Nat := ((List.range p).find? fun b => (List.range p).all fun x => (x ^ 3 + a * x + b) % p != 0).getD 0
end Mine
namespace Mine
theorem PtAll.at {nx : Led} : ∀ {vs : List Value} {ps : List (Int × Int)}, PtAll nx vs ps → ∀ {k : Nat} {q : Int × Int}, ps[k]? = some q → ∃ d t1 t2 c, vs[k]? = some (.ref d) ∧ (d, tup2 q.1 q.2 t1 t2 c) ∈ nx
  | _, _, .nil, _, _, h => by cases h
  | _, _, .cons (d := d) (x := x) (y := y) (t1 := t1) (t2 := t2) (c := c) hm r, k, q, h => by
    cases k with
    | zero => cases h; exact ⟨d, t1, t2, c, rfl, hm⟩
    | succ k => exact r.at h
section
variable {prog : Program} {w : World} {A : Around} {E : Value → Shared → Prop} {s : Shared} {h₀ : Heap} {L l : Addr} {news : Led} {us : List Value} {c : Nat} {ps : List (Int × Int)} {k : Int} {u : Tok} {Q : Value → Shared → Prop}
/-- points[k] -/
theorem pts_item {value slice : PySem.Expr} (N : News h₀ L s.heap news) (ml : (l, listOf us.toArray c) ∈ news) (Da : PtAll news us ps) (h0 : 0 ≤ k) (h1 : k < ps.length) (hs9 : ps.length < 1000)
    (h : ∀ d x y t1 t2 c', ps[k.toNat]? = some (x, y) → News h₀ L s.heap ((d, tup2 x y t1 t2 c') :: news) → Q (.ref d) s)
    (hs : subscripted slice false (.ref l) (.int k u) = operate [.ref l, .int k u] (getItem (.ref l) (.int k u)) := by with_unfolding_all rfl) :
    wpAny (model prog w) A (subscriptTail value slice (.ref l) (.int k u)) Q E s := by
  have hk : k.toNat < ps.length := by omega
  have hq : ps[k.toNat]? = some (ps[k.toNat]'hk) := List.getElem?_eq_getElem hk
  obtain ⟨d, t1, t2, c', hv, hm⟩ := Da.at hq
  have hl : s.heap.IsList l us.toArray := ⟨_, (N _ ml).1, rfl, _, rfl⟩
  have h63 : k < 2 ^ 63 := by
    have : (2 : Int) ^ 63 = 9223372036854775808 := by decide
    omega
  exact tail_any hl.typeIs slot_list_getitem.lookup (wpAny_getItem_list hl h0 h63 (by simpa using hv) (h d _ _ t1 t2 c' hq (news_in1 N hm))) hs
end
theorem ptsF_rs {p a b : Int} (hp : PrimeL p) : ∀ {k : Nat} {ps : List (Int × Int)}, (k : Int) ≤ p → ptsF p a b k = some ps → ∀ q ∈ ps, Rs p q.1 ∧ Rs p q.2
  | 0, ps, _, h => by
    have := prime_bd hp
    cases h
    intro q hq
    rw [List.mem_singleton.mp hq]
    exact ⟨⟨by decide, by simp; omega⟩, ⟨by decide, by simp; omega⟩⟩
  | k + 1, ps, hk, h => by
    have hb := prime_bd hp
    unfold ptsF at h
    cases hl : ptsF p a b k with
    | none => rw [hl] at h; cases h
    | some l =>
      rw [hl] at h
      have ih := ptsF_rs hp (by omega) hl
      simp only at h
      split at h
      · cases h
      rename_i hv
      split at h
      · rename_i hy
        cases h
        have hq0 := sqF_bd (p := p) (v := ((k : Int) ^ 3 + a * k + b).fmod p) (by omega)
        have hne : sqF p (((k : Int) ^ 3 + a * k + b).fmod p) ≠ 0 := by
          intro e
          rw [e] at hy
          exact hv (by rw [← hy]; simp)
        intro q hq
        rcases List.mem_append.mp hq with hq | hq
        · exact ih q hq
        · simp only [List.mem_cons, List.not_mem_nil, or_false] at hq
          rcases hq with rfl | rfl
          · exact ⟨⟨by omega, by simp; omega⟩, hq0⟩
          · exact ⟨⟨by omega, by simp; omega⟩, ⟨by simp; omega, by simp; omega⟩⟩
      · cases h; exact ih
theorem lawPts_rs {p a b : Int} (hp : PrimeL p) : ∀ q ∈ lawPts p a b, Rs p q.1 ∧ Rs p q.2 := by
  have hb := prime_bd hp
  unfold lawPts
  cases h : ptsF p a b p.toNat with
  | none => intro q hq; cases hq
  | some l => exact ptsF_rs hp (by omega) h
theorem ptsF_len {p a b : Int} : ∀ {k : Nat} {ps : List (Int × Int)}, ptsF p a b k = some ps → ps.length ≤ 2 * k + 1
  | 0, ps, h => by cases h; decide
  | k + 1, ps, h => by
    unfold ptsF at h
    cases hl : ptsF p a b k with
    | none => rw [hl] at h; cases h
    | some l =>
      rw [hl] at h
      have ih := ptsF_len hl
      simp only at h
      split at h
      · cases h
      split at h
      · cases h; simp only [List.length_append, List.length_cons, List.length_nil]; omega
      · cases h; omega
theorem lawPts_len {p a b : Int} (hp : PrimeL p) : (lawPts p a b).length ≤ 63 := by
  have hb := prime_bd hp
  unfold lawPts
  cases h : ptsF p a b p.toNat with
  | none => decide
  | some l => have := ptsF_len h; simp only [Option.getD_some]; omega
end Mine
namespace Mine
/-- len(points) -/
theorem pts_lenR {prog : Program} {w : World} {A : Around} {E : Value → Shared → Prop} {s : Shared} {h₀ : Heap} {L l : Addr} {news : Led} {us : List Value} {c : Nat} {ps : List (Int × Int)} {Q : Value → Shared → Prop}
    (N : News h₀ L s.heap news) (ml : (l, listOf us.toArray c) ∈ news) (Da : PtAll news us ps) (hs9 : ps.length < 1000) (h : Q (.int (ps.length : Int) (s.toks + 1)) { s with toks := s.toks + 1 + 1 }) :
    wpAny (model prog w) A (call (.builtin "len") [.ref l]) Q E s := by
  have hl : s.heap.IsList l us.toArray := ⟨_, (N _ ml).1, rfl, _, rfl⟩
  have e : us.toArray.size = ps.length := by rw [List.size_toArray, Da.length]
  refine len_list hl ?_ ?_
  · rw [e]
    have : (2 : Int) ^ 63 = 9223372036854775808 := by decide
    omega
  · rw [e]; exact h
end Mine
-- part Met
namespace Mine
def ptK (q : Int × Int) : List Int := [q.1, q.2]
theorem ptK_inj {a b : Int × Int} (h : ptK a = ptK b) : a = b := by
  obtain ⟨x, y⟩ := a
  obtain ⟨x', y'⟩ := b
  simp only [ptK, List.cons.injEq, and_true] at h
  rw [h.1, h.2]
abbrev Ent := List Int × Addr × Value
/-- what the dict of the images holds -/
def MX (xs : List Ent) (ims : List (Int × Int)) : Prop :=
  (∀ x ∈ xs, ∃ q t, q ∈ ims ∧ x.1 = ptK q ∧ x.2.2 = .int (ims.count q : Int) t) ∧ (∀ q ∈ ims, ∃ x ∈ xs, x.1 = ptK q)
theorem MX.nil : MX [] [] := ⟨fun _ h => (nomatch h), fun _ h => (nomatch h)⟩
theorem storedH_len {xs : List Ent} {k : List Int} {a : Addr} {v : Value} : (storedH xs k a v).length ≤ xs.length + 1 := by
  unfold storedH
  split
  · rw [List.length_map]; omega
  · rw [List.length_append]; simp
theorem atKey_some {xs : List Ent} {k : List Int} {p : Addr × Value} (h : atKey xs k = some p) : (k, p) ∈ xs := by
  unfold atKey at h
  obtain ⟨x, hx, rfl⟩ := Option.map_eq_some_iff.mp h
  have h1 := List.find?_some hx
  have h2 := List.mem_of_find?_eq_some hx
  have h3 : x.1 = k := of_decide_eq_true h1
  rw [← h3]
  exact h2
theorem atKey_none {xs : List Ent} {k : List Int} (h : atKey xs k = none) : ∀ x ∈ xs, x.1 ≠ k := by
  unfold atKey at h
  intro x hx e
  have := List.find?_eq_none.mp (Option.map_eq_none_iff.mp h) x hx
  exact this (decide_eq_true e)
theorem MX.get {xs : List Ent} {ims : List (Int × Int)} (M : MX xs ims) (q : Int × Int) (u : Tok) : ∃ t, ((atKey xs (ptK q)).map (·.2)).getD (.int 0 u) = .int (ims.count q : Int) t := by
  cases h : atKey xs (ptK q) with
  | none =>
    have hq : q ∉ ims := fun hq => by
      obtain ⟨x, hx, e⟩ := M.2 q hq
      exact atKey_none h x hx e
    exact ⟨u, by rw [List.count_eq_zero_of_not_mem hq]; rfl⟩
  | some p =>
    obtain ⟨q', t, _, e, hv⟩ := M.1 _ (atKey_some h)
    obtain rfl := ptK_inj e
    exact ⟨t, hv⟩
theorem MX.put {xs : List Ent} {ims : List (Int × Int)} (M : MX xs ims) (q : Int × Int) (a : Addr) (t : Tok) : MX (storedH xs (ptK q) a (.int ((ims.count q : Int) + 1) t)) (ims ++ [q]) := by
  have hc : ∀ q', ((ims ++ [q]).count q' : Int) = (ims.count q' : Int) + (if q' = q then 1 else 0) := by
    intro q'
    rw [List.count_append, List.count_singleton]
    by_cases e : q' = q
    · subst e; simp
    · have : ¬ q = q' := fun h => e h.symm
      simp [e, this]
  have hold : ∀ x ∈ xs, x.1 ≠ ptK q → ∃ q' t', q' ∈ ims ++ [q] ∧ x.1 = ptK q' ∧ x.2.2 = .int ((ims ++ [q]).count q' : Int) t' := by
    intro x hx hne
    obtain ⟨q', t', h1, h2, h3⟩ := M.1 x hx
    have hq : q' ≠ q := fun e => hne (by rw [h2, e])
    exact ⟨q', t', List.mem_append.mpr (.inl h1), h2, by rw [h3, hc, if_neg hq]; simp⟩
  cases h : atKey xs (ptK q) with
  | none =>
    rw [storedH_new h]
    have hq : q ∉ ims := fun hq => by
      obtain ⟨x, hx, e⟩ := M.2 q hq
      exact atKey_none h x hx e
    refine ⟨fun x hx => ?_, fun q' hq' => ?_⟩
    · rcases List.mem_append.mp hx with hx | hx
      · exact hold x hx (atKey_none h x hx)
      · rw [List.mem_singleton.mp hx]
        exact ⟨q, t, List.mem_append.mpr (.inr (List.mem_singleton.mpr rfl)), rfl, by rw [hc, if_pos rfl]⟩
    · rcases List.mem_append.mp hq' with hq' | hq'
      · obtain ⟨x, hx, e⟩ := M.2 q' hq'
        exact ⟨x, List.mem_append.mpr (.inl hx), e⟩
      · rw [List.mem_singleton.mp hq']
        exact ⟨_, List.mem_append.mpr (.inr (List.mem_singleton.mpr rfl)), rfl⟩
  | some p =>
    rw [storedH_old h]
    refine ⟨fun x hx => ?_, fun q' hq' => ?_⟩
    · obtain ⟨y, hy, rfl⟩ := List.mem_map.mp hx
      unfold putAt
      by_cases e : y.1 = ptK q
      · rw [if_pos e]
        exact ⟨q, t, List.mem_append.mpr (.inr (List.mem_singleton.mpr rfl)), e, by rw [hc, if_pos rfl]⟩
      · rw [if_neg e]
        exact hold y hy e
    · have key : ∃ y ∈ xs, y.1 = ptK q' := by
        rcases List.mem_append.mp hq' with hq' | hq'
        · exact M.2 q' hq'
        · rw [List.mem_singleton.mp hq']
          exact ⟨_, atKey_some h, rfl⟩
      obtain ⟨y, hy, e⟩ := key
      refine ⟨putAt (ptK q) (.int ((ims.count q : Int) + 1) t) y, List.mem_map.mpr ⟨y, hy, rfl⟩, ?_⟩
      unfold putAt
      split <;> exact e
/-- a tuple of two ints -/
def IsT2 (o : Obj) : Prop := ∃ x y t1 t2 c, o = tup2 x y t1 t2 c
section
variable (prog : Program) (w : World)
/-- the dict at d, told by the ledger -/
def MetTab (news : Led) (d : Addr) (xs : List Ent) : Prop :=
  (d == sysModules) = false ∧ ∃ o es ep, (d, o) ∈ news ∧ o.ExactDict ∧ o.data = .dict es ep ∧ es.toList = xs.map (entryOfKey (tupleKind (intKind prog w))) ∧ (xs.map (·.1)).Nodup ∧
    (∀ x ∈ xs, ∃ ok, (x.2.1, ok) ∈ news ∧ TupKeyObj (intKind prog w) x.1 ok ∧ IsT2 ok)
end
section
variable {prog : Program} {w : World} {A : Around} {E : Value → Shared → Prop} {s : Shared} {h₀ h : Heap} {L a d : Addr} {m : Str → Option Value} {news news' : Led} {xs : List Ent} {x y : Int} {t1 t2 : Tok} {c : Nat} {ims : List (Int × Int)}
theorem MetTab.up (T : MetTab prog w news d xs) (hs : ∀ q ∈ news, q ∈ news') : MetTab prog w news' d xs :=
  let ⟨lo, o, es, ep, hm, hc, hd, he, hn, hk⟩ := T
  ⟨lo, o, es, ep, hs _ hm, hc, hd, he, hn, fun x hx => let ⟨ok, h1, h2⟩ := hk x hx; ⟨ok, hs _ h1, h2⟩⟩
theorem MetTab.at (T : MetTab prog w news d xs) (N : News h₀ L h news) : h.DictOfH (tupleKind (intKind prog w)) d xs :=
  let ⟨_, o, es, ep, hm, hc, hd, he, hn, hk⟩ := T
  ⟨o, es, ep, N.get hm, hc, hd, he, fun x hx => let ⟨_, hmk, t, _⟩ := hk x hx; t.key (N.get hmk), hn⟩
theorem MetTab.ofEmpty {o : Obj} (hm : (d, o) ∈ news) (lo : (d == sysModules) = false) (hd : o.IsDictOf (intKind prog w) []) : MetTab prog w news d [] := by
  obtain ⟨es, ep, hc, hdat, _, hp, _⟩ := hd
  have he : es.toList = [] := List.length_eq_zero_iff.mp hp.length
  exact ⟨lo, o, es, ep, hm, hc, hdat, he, List.nodup_nil, fun _ hx => by simp at hx⟩
theorem tup2_key : TupKeyObj (intKind prog w) (ptK (x, y)) (tup2 x y t1 t2 c) :=
  ⟨rfl, _, _, rfl, ItemsAre.cons (intKind_is _ _ _ _) (ItemsAre.cons (intKind_is _ _ _ _) ItemsAre.nil)⟩
/-- met.get(image, 0) -/
theorem met_get {u : Tok} {Q : Value → Shared → Prop} (N : News h₀ L s.heap news) (T : MetTab prog w news d xs) (M : MX xs ims) (ha : (a, tup2 x y t1 t2 c) ∈ news) (hu : A.units + 1 < cLine)
    (h : ∀ t tk, Q (.int (ims.count (x, y) : Int) t) { s with toks := tk }) : wpAny (model prog w) A (call (.builtin "dict.get") [.ref d, .ref a, .int 0 u]) Q E s := by
  have hD := T.at N
  obtain ⟨t, e⟩ := M.get (x, y) u
  refine call_meetsIn PySem.F.slot_dict_get hD.typeIs PySem.F.entry_dict_get (PySem.F.args_dict_get_3 _ _ _) (meetsH_dict_get_default (tupleKind (intKind prog w)) d a T.1 (.int 0 u)) ⟨tupleKind_room_in1 (knd := intKind prog w) hu, _, xs, tup2_key.key (N.get ha), hD, ?_⟩
  rw [e]
  exact h t _
/-- met[image] -/
theorem met_item {value slice : PySem.Expr} {Q : Value → Shared → Prop} (N : News h₀ L s.heap news) (T : MetTab prog w news d xs) (M : MX xs ims) (ha : (a, tup2 x y t1 t2 c) ∈ news) (hq : (x, y) ∈ ims) (hu : A.units + 1 < cLine)
    (h : ∀ t tk, Q (.int (ims.count (x, y) : Int) t) { s with toks := tk })
    (hs : subscripted slice false (.ref d) (.ref a) = operate [.ref d, .ref a] (getItem (.ref d) (.ref a)) := by with_unfolding_all rfl) (hg : ∀ r, letTemporaryGo value (.ref d) r = pure () := by intro _; with_unfolding_all rfl) :
    wpAny (model prog w) A (subscriptTail value slice (.ref d) (.ref a)) Q E s := by
  have hD := T.at N
  cases hk : atKey xs (ptK (x, y)) with
  | none =>
    obtain ⟨z, hz, e⟩ := M.2 _ hq
    exact absurd e (atKey_none hk z hz)
  | some p =>
    obtain ⟨q', t, _, e, hv⟩ := M.1 _ (atKey_some hk)
    obtain rfl := ptK_inj e
    refine subscriptTail_builtin hD.typeIs slot_dict_getitem.lookup (wpAny_getItem_heap (tupleKind_room_in1 (knd := intKind prog w) hu) (tup2_key.key (N.get ha)) hD hk ?_) hs hg
    have hv' : p.2 = .int (ims.count (x, y) : Int) t := hv
    rw [hv']
    exact h t _
/-- met[image] = .. -/
theorem met_set {t : Tok} {n : Int} {o : Obj} {rest T₀ : Led} {Q : Unit → Shared → Prop} (F : Fr h₀ L s.heap m) (N : News h₀ L s.heap rest) (hdm : (d, o) ∈ rest) (hkeep : ∀ q ∈ news, q ∈ rest) (hoff : ∀ q ∈ news, q.1 ≠ d)
    (T : MetTab prog w ((d, o) :: T₀) d xs) (hT : ∀ q ∈ T₀, q ∈ news) (M : MX xs ims) (ha : (a, tup2 x y t1 t2 c) ∈ news) (hn : n = (ims.count (x, y) : Int) + 1) (hu : A.units + 1 < cLine) (hlen : ims.length < 1000)
    (h : ∀ h' o' xs' tk, Fr h₀ L h' m → News h₀ L h' ((d, o') :: news) → o'.cls = .type "dict" → MetTab prog w ((d, o') :: (a, tup2 x y t1 t2 c) :: T₀) d xs' → MX xs' (ims ++ [(x, y)]) → xs'.length ≤ xs.length + 1 → Q () { s with heap := h', toks := tk })
    (hxs : xs.length ≤ sizeLine) :
    wpAny (model prog w) A (setItem (.ref d) (.ref a) (.int n t)) Q E s := by
  subst hn
  have T' : MetTab prog w rest d xs := T.up fun q hq => (List.mem_cons.mp hq).elim (fun e => e ▸ hdm) fun hq => hkeep q (hT q hq)
  have hD := T'.at N
  refine wpAny_setItem_heap (hsz := hxs) (knd := tupleKind (intKind prog w)) (tupleKind_room_in1 hu) (tup2_key.key (N.get (hkeep _ ha))) hD fun h' hm' hs => ?_
  obtain ⟨o', es', ep', ho', hc', hd', he', _, hn'⟩ := hm'
  have N' : News h₀ L h' ((d, o') :: news) := by
    intro q hq
    rcases List.mem_cons.mp hq with rfl | hq
    · exact ⟨ho', (N _ hdm).2.1, (N _ hdm).2.2⟩
    · have h1 := N q (hkeep q hq)
      exact ⟨(hs.2 q.1 (hoff q hq)).trans h1.1, h1.2⟩
  refine h h' o' _ _ (F.change hs (N _ hdm).2.1 (N.fresh hdm)) N' hc'.1 ⟨T.1, o', es', ep', .head _, hc', hd', he', hn', fun z hz => ?_⟩ (M.put (x, y) a t) storedH_len
  obtain ⟨_, _, _, _, _, _, _, _, _, hk⟩ := T
  rcases mem_storedH hz with ⟨y', hy, e1, e2⟩ | ⟨e1, e2⟩
  · obtain ⟨oky, hmk, tk⟩ := hk y' hy
    rcases List.mem_cons.mp hmk with e | hmk
    · exfalso
      have h1 := tk.1.1
      have h2 : oky = o := (Prod.mk.inj e).2
      obtain ⟨o9, _, _, ho9, hc9, _⟩ := hD
      have h4 := (N _ hdm).1
      rw [ho9] at h4
      have h5 : o9 = o := Option.some.inj h4
      rw [h2, ← h5, hc9.1] at h1
      injection h1 with h6
      exact absurd h6 (by decide)
    · exact ⟨oky, by rw [e2]; exact .tail _ (.tail _ hmk), by rw [e1]; exact tk⟩
  · exact ⟨_, by rw [e2]; exact .tail _ (.head _), by rw [e1]; exact ⟨tup2_key, _, _, _, _, _, rfl⟩⟩
end
end Mine
namespace Mine
theorem met_getm {prog : Program} {w : World} {A : Around} {E : Value → Shared → Prop} {s : Shared} {h₀ : Heap} {L d : Addr} {news : Led} {xs : List Ent} {pl : Sem Bool} {Q : Value × List Value → Shared → Prop}
    (N : News h₀ L s.heap news) (T : MetTab prog w news d xs) (h : Q (.builtin "dict.get", [.ref d]) s) : wpAny (model prog w) A (getMethod (.ref d) "get" pl) Q E s :=
  getMethod_builtin (T.at N).typeIs PySem.F.plainAttrs_dict PySem.F.slot_dict_get PySem.F.type_dict_get (dictOfH_noDict (T.at N)) h
/-- the third number of the k-th form -/
def zF (p c4 : Int) (k : Nat) : Int := 1 + (c4 + (k : Int)).fmod (p - 1)
def formF (p c4 : Int) (k : Nat) (q : Int × Int) : Int × Int × Int := if (k : Int) = 0 then (0, 0, 1) else ((q.1 * zF p c4 k ^ 2).fmod p, (q.2 * zF p c4 k ^ 3).fmod p, zF p c4 k)
/-- the k-th image -/
def imgF (p N a n c4 : Int) (ps : List (Int × Int)) (k : Nat) : Int × Int := fromF p (jmulF p N a 4 (formF p c4 k (ps.getD k (0, 0))) n)
def imgsF (p N a n c4 : Int) (ps : List (Int × Int)) (i : Nat) : List (Int × Int) := (List.range i).map (imgF p N a n c4 ps)
theorem imgsF_succ (p N a n c4 : Int) (ps : List (Int × Int)) (i : Nat) : imgsF p N a n c4 ps (i + 1) = imgsF p N a n c4 ps i ++ [imgF p N a n c4 ps i] := by
  unfold imgsF
  rw [List.range_succ, List.map_append]
  rfl
theorem imgsF_len (p N a n c4 : Int) (ps : List (Int × Int)) (i : Nat) : (imgsF p N a n c4 ps i).length = i := by
  unfold imgsF
  rw [List.length_map, List.length_range]
def mainJ (prog : Program) (w : World) (cst tl : Led) (Li dm : Addr) (ims : Nat → List (Int × Int)) (names : List (Str × Value)) (i : Nat) (m : Str → Option Value) (nx : Led) : Prop :=
  ∃ iv ic om tl2 xs, nx = (Li, listOf iv.toArray ic) :: (dm, om) :: (cst ++ (tl2 ++ tl)) ∧ TupLed tl2 ∧ om.cls = .type "dict" ∧ PtAll tl2 iv (ims i) ∧ MetTab prog w ((dm, om) :: tl2) dm xs ∧ MX xs (ims i) ∧ xs.length ≤ i ∧
    (∀ q ∈ names, m q.1 = some q.2)
end Mine
namespace Mine
theorem cut_img {h₀ h : Heap} {L D2 Li dm : Addr} {x y : Int} {t1 t2 : Tok} {c' ic : Nat} {its : Array Value} {om : Obj} {r1 r2 r3 : Addr × Obj} {rest : Led}
    (N : News h₀ L h ((D2, tup2 x y t1 t2 c') :: r1 :: r2 :: r3 :: (Li, listOf its ic) :: (dm, om) :: rest)) (hom : om.cls = .type "dict") :
    News h₀ L h ((D2, tup2 x y t1 t2 c') :: (Li, listOf its ic) :: (dm, om) :: rest) ∧ @Ne Nat D2 Li ∧ @Ne Nat D2 dm := by
  have h2 := (N _ (.head _)).1
  have hL := (N _ (.tail _ (.tail _ (.tail _ (.tail _ (.head _)))))).1
  have hM := (N _ (.tail _ (.tail _ (.tail _ (.tail _ (.tail _ (.head _))))))).1
  refine ⟨fun q hq => ?_, fun e => ?_, fun e => ?_⟩
  · rcases List.mem_cons.mp hq with rfl | hq
    · exact N _ (.head _)
    · exact N _ (.tail _ (.tail _ (.tail _ (.tail _ hq))))
  · have e' : D2 = Li := e
    subst e'
    have h3 := congrArg Obj.cls (Option.some.inj (h2.symm.trans hL))
    simp at h3
  · have e' : dm = D2 := e.symm
    rw [e'] at hM
    have h3 : tup2 x y t1 t2 c' = om := Option.some.inj (h2.symm.trans hM)
    rw [← h3] at hom
    simp at hom
end Mine
namespace Mine
theorem main_end {prog : Program} {w : World} {h₀ h' : Heap} {L Li dm D2 : Addr} {m' : Str → Option Value} {cst tl tl2 own T₉ : Led} {s₁ : Shared} {x y : Int} {t1 t2 : Tok} {c' ic tk i : Nat} {iv : List Value} {o2 : Obj} {ims : Nat → List (Int × Int)} {names : List (Str × Value)} {xs' : List Ent}
    (F : Fr h₀ L h' m') (N : News h₀ L h' ((dm, o2) :: (D2, tup2 x y t1 t2 c') :: (Li, listOf (iv.toArray.push (.ref D2)) ic) :: (cst ++ T₉)))
    (hT : tl2 ++ tl ++ own = T₉) (htl : TupLed tl) (htl2 : TupLed tl2) (hcls : o2.cls = .type "dict") (hpi : PtAll tl2 iv (ims i)) (hMT : MetTab prog w ((dm, o2) :: (D2, tup2 x y t1 t2 c') :: tl2) dm xs')
    (hMX : MX xs' (ims i ++ [(x, y)])) (himg : ims (i + 1) = ims i ++ [(x, y)]) (hlx : xs'.length ≤ i + 1) (hm : ∀ q ∈ names, m' q.1 = some q.2) :
    REnd h₀ L cst (mainJ prog w cst tl Li dm ims names (i + 1)) own s₁ { s₁ with heap := h', toks := tk } := by
  have e : iv.toArray.push (Value.ref D2) = (iv ++ [Value.ref D2]).toArray := by simp
  rw [e] at N
  have htl3 : TupLed ((D2, tup2 x y t1 t2 c') :: tl2) := by
    intro q hq
    rcases List.mem_cons.mp hq with rfl | hq
    · exact ⟨rfl, _, _, rfl⟩
    · exact htl2 q hq
  refine REnd.intro (nx := (Li, listOf (iv ++ [Value.ref D2]).toArray ic) :: (dm, o2) :: (cst ++ (((D2, tup2 x y t1 t2 c') :: tl2) ++ tl))) F (news_sub N ?_) ?_ ⟨iv ++ [Value.ref D2], ic, o2, _, xs', rfl, htl3, hcls, ?_, hMT, ?_, hlx, hm⟩
  · subst hT
    intro q hq
    simp only [List.cons_append, List.append_assoc, List.mem_cons, List.mem_append] at hq ⊢
    rcases hq with h | h | h | h | h | h | h <;> simp [h]
  · refine NoRi.cons (by simp) (NoRi.cons ?_ (NoRi.app NoRi.self (NoRi.app (fun q hq => .inl ?_) (fun q hq => .inl ?_))))
    · show o2.cls ≠ _
      rw [hcls]; simp
    · rw [(htl3 q hq).1]; simp
    · rw [(htl q hq).1]; simp
  · rw [himg]
    exact (hpi.mono fun q hq => .tail _ hq).app (.cons (.head _) .nil)
  · rw [himg]; exact hMX
end Mine
namespace Mine
theorem getD_some {α : Type} {l : List α} {i : Nat} {d v : α} (h : l[i]? = some v) : l.getD i d = v := by
  rw [List.getD_eq_getElem?_getD, h]; rfl
theorem img_zero {p N a n c4 x1 y1 z1 x y : Int} {ps : List (Int × Int)} {i : Nat} (h0 : (i : Int) = 0) (e1 : (x1, y1, z1) = jmulF p N a 4 (0, 0, 1) n) (e2 : (x, y) = fromF p (x1, y1, z1)) : imgF p N a n c4 ps i = (x, y) := by
  unfold imgF formF
  rw [if_pos h0, ← e1, ← e2]
theorem img_pos {p N a n c4 x1 y1 z1 x y r fx fy gx gy : Int} {ps : List (Int × Int)} {i : Nat} (h0 : (i : Int) ≠ 0) (eg : ps[i]? = some (gx, gy)) (ez : r = (c4 + (i : Int)).fmod (p - 1)) (ex : fx = (gx * (1 + r) ^ 2).fmod p) (ey : fy = (gy * (1 + r) ^ 3).fmod p)
    (e1 : (x1, y1, z1) = jmulF p N a 4 (fx, fy, 1 + r) n) (e2 : (x, y) = fromF p (x1, y1, z1)) : imgF p N a n c4 ps i = (x, y) := by
  unfold imgF formF zF
  rw [if_neg h0, getD_some eg, ← ez, ← ex, ← ey, ← e1, ← e2]
end Mine
namespace Mine
theorem met_set2 {prog : Program} {w : World} {A : Around} {E : Value → Shared → Prop} {s : Shared} {h₀ : Heap} {L a d : Addr} {m : Str → Option Value} {xs : List Ent} {x y : Int} {t1 t2 : Tok} {c : Nat} {ims : List (Int × Int)} {t : Tok} {n : Int} {o : Obj} {q2 : Addr × Obj} {R T₀ : Led} {Q : Unit → Shared → Prop}
    (F : Fr h₀ L s.heap m) (N : News h₀ L s.heap ((a, tup2 x y t1 t2 c) :: q2 :: (d, o) :: R)) (h1 : @Ne Nat a d) (h2 : @Ne Nat q2.1 d) (hR : ∀ q ∈ R, q.1 ≠ d)
    (T : MetTab prog w ((d, o) :: T₀) d xs) (hT : ∀ q ∈ T₀, q ∈ R) (M : MX xs ims) (hn : n = (ims.count (x, y) : Int) + 1) (hu : A.units + 1 < cLine) (hlen : ims.length < 1000)
    (hxs : xs.length ≤ sizeLine)
    (h : ∀ h' o' xs' tk, o'.cls = .type "dict" → MetTab prog w ((d, o') :: (a, tup2 x y t1 t2 c) :: T₀) d xs' → MX xs' (ims ++ [(x, y)]) → xs'.length ≤ xs.length + 1 → Fr h₀ L h' m → News h₀ L h' ((d, o') :: (a, tup2 x y t1 t2 c) :: q2 :: R) → Q () { s with heap := h', toks := tk }) :
    wpAny (model prog w) A (setItem (.ref d) (.ref a) (.int n t)) Q E s := by
  refine met_set (news := (a, tup2 x y t1 t2 c) :: q2 :: R) F N (.tail _ (.tail _ (.head _))) ?_ ?_ T ?_ M (.head _) hn hu hlen (fun h' o' xs' tk F' N' hc T' M' hl => h h' o' xs' tk hc T' M' hl F' N') hxs
  · intro q hq
    rcases List.mem_cons.mp hq with rfl | hq
    · exact .head _
    rcases List.mem_cons.mp hq with rfl | hq
    · exact .tail _ (.head _)
    · exact .tail _ (.tail _ (.tail _ hq))
  · intro q hq
    rcases List.mem_cons.mp hq with rfl | hq
    · exact h1
    rcases List.mem_cons.mp hq with rfl | hq
    · exact h2
    · exact hR q hq
  · exact fun q hq => .tail _ (.tail _ (hT q hq))
end Mine
namespace Mine
theorem t2_key {prog : Program} {w : World} {q : Int × Int} {o : Obj} (h : IsT2 o) (k : TupKeyObj (intKind prog w) (ptK q) o) : ∃ t1 t2 c, o = tup2 q.1 q.2 t1 t2 c := by
  obtain ⟨x, y, t1, t2, c, rfl⟩ := h
  obtain ⟨_, items, n, hd, hi⟩ := k
  cases hd
  cases hi with
  | cons h1 hr =>
    cases hr with
    | cons h2 _ =>
      have e1 := (intKind prog w).inj _ _ _ h1 (intKind_is prog w x t1)
      have e2 := (intKind prog w).inj _ _ _ h2 (intKind_is prog w y t2)
      exact ⟨t1, t2, c, by rw [e1, e2]⟩
end Mine
-- part S1
namespace Mine
theorem calm_S1 : True := by w_top off; trivial
local macro_rules | `(tactic| mul_fits) => `(tactic| first
  | (with_reducible show Bd _ _); first
    | (refine Bd.var (by with_reducible assumption) (by with_reducible assumption))
    | (refine Bd.var ?_ ?_ <;> omega)
    | (refine Bd.mul ?_ ?_ <;> mul_fits) | (refine Bd.pow ?_ <;> mul_fits) | (refine Bd.add ?_ ?_ <;> mul_fits) | (refine Bd.sub ?_ ?_ <;> mul_fits)
    | (refine Bd.small ?_ ?_ <;> omega))
local macro_rules | `(tactic| walk_at "binaryOp Mult int int") => `(tactic| (with_reducible refine' mul_b ?kb1 ?kb2 ?_; (case kb1 => mul_fits); (case kb2 => decide)))
local macro_rules | `(tactic| walk_at "binaryOp Pow int int") => `(tactic| (with_reducible refine' pow_b ?kb0 ?kb1 ?kb2 ?kb3 ?kb4 ?_; (case kb0 => with_unfolding_all first | exact to2 | exact to3 | exact to4); (case kb1 => mul_fits); (case kb2 => decide); (case kb3 => decide); (case kb4 => decide)))
local macro_rules | `(tactic| walk_at "binaryOp Mod int int") => `(tactic| (with_reducible refine mod_b ?kb1 ?_; (case kb1 => omega); intro r' hr' h0' h1'))
local macro_rules | `(tactic| cell_step) => `(tactic| repeat' ((fail_if_success (with_reducible show wpAny _ _ (exec (Stmt.While _ _ _ _) _) _ _ _)); (fail_if_success (with_reducible show wpAny _ _ (pyIter _) _ _ _)); (fail_if_success (with_reducible show KswEnd _ _ _ _ _ _ _ _ _ _ _ _)); (fail_if_success (with_reducible show wpAny _ _ (call (Value.ref 71) _) _ _ _)); first | (k_unfold; (try dsimp only)) | (walk1; try dsimp only) | (dsimp only; walk1)))
local macro_rules | `(tactic| walk_at "RPost") => `(tactic| (dsimp only [RPost]))
local macro_rules | `(tactic| walk_at "subscriptTail Name Slice ref ref") => `(tactic| (k_here; k_dflt (refine' kmk_slice_ints ?F ?N ?l ?p ?q ?i ?m ?c ?_ ?s ?t ?z; (case F => k_asm); (case N => k_asm); (case l => kmk_list); (case p => kmk_part); (case q => kmk_part); (case i => (first | with_reducible assumption | with_reducible exact .cons _ _ (.cons _ _ (.cons _ _ (.cons _ _ (.cons _ _ (.cons _ _ (.cons _ _ .nil)))))))); (case m => first | exact kmk_upto (by (first | with_reducible assumption | with_reducible exact .cons _ _ (.cons _ _ (.cons _ _ (.cons _ _ (.cons _ _ (.cons _ _ (.cons _ _ .nil)))))))) (by decide) | exact kmk_from (by (first | with_reducible assumption | with_reducible exact .cons _ _ (.cons _ _ (.cons _ _ (.cons _ _ (.cons _ _ (.cons _ _ (.cons _ _ .nil)))))))) (Int.natCast_nonneg _)); (case c => exact rfl); (case s => with_unfolding_all rfl); (case t => kmk_pure); (case z => kmk_size)); intro D' ws' h' F' N' l1 hI' hC' hL'; (try k_lt l1); (try k_sweep)))
/-- what an if leaves: the joined end of its ways -/
def Joined (P : Flow → Shared → Prop) (f : Flow) (s : Shared) : Prop := P f s
theorem join_use {M : Model} {A : Around} {t : Sem Flow} {Q : Flow → Shared → Prop} {E : Value → Shared → Prop} {s : Shared} (P : Flow → Shared → Prop) (h : wpAny M A t (Joined P) E s) (k : ∀ f s', P f s' → Q f s') : wpAny M A t Q E s :=
  wpAny_mono h (fun f s' x => k f s' x) fun _ _ x => x
def IfEnd (h₀ : Heap) (L : Addr) (s₀ : Shared) (J : (Str → Option Value) → Led → Prop) (f : Flow) (s : Shared) : Prop :=
  f = .next ∧ ∃ h' tk m' nx, s = { s₀ with heap := h', toks := tk } ∧ Fr h₀ L h' m' ∧ News h₀ L h' nx ∧ J m' nx
theorem IfEnd.intro {h₀ : Heap} {L : Addr} {s₀ : Shared} {J : (Str → Option Value) → Led → Prop} {h' : Heap} {tk : Nat} {m' : Str → Option Value} {nx : Led} (F : Fr h₀ L h' m') (N : News h₀ L h' nx) (j : J m' nx) : Joined (IfEnd h₀ L s₀ J) .next { s₀ with heap := h', toks := tk } :=
  ⟨rfl, h', tk, m', nx, rfl, F, N, j⟩
/-- the number that the law takes for a -/
def aF (p a : Int) : Int := if a = 0 ∧ p.fmod 3 = 2 then 1 else a
theorem aF_rs {p a : Int} (hp : 1 < p) (h : Rs p a) : Rs p (aF p a) := by
  unfold aF; split
  · exact ⟨by decide, hp⟩
  · exact h
theorem primes_get {r : Int} (h0 : 0 ≤ r) (h1 : r < 5) : PrimeL (([7, 11, 19, 23, 31] : List Int).getD r.toNat 0) := by
  have : r = 0 ∨ r = 1 ∨ r = 2 ∨ r = 3 ∨ r = 4 := by omega
  rcases this with rfl | rfl | rfl | rfl | rfl <;> simp [PrimeL]
theorem fr_pick {h₀ h : Heap} {L : Addr} {m₁ : Str → Option Value} (ps : List (Str × Value)) (F : Fr h₀ L h m₁) (hp : ∀ p ∈ ps, m₁ p.1 = some p.2) : ∃ m', Fr h₀ L h (kstB m' ps) := ⟨m₁, fr_known0 hp F⟩
theorem law_start {prog : Program} {w : World} {A : Around} {t : Sem Flow} {Q : Flow → Shared → Prop} {E : Value → Shared → Prop} {s : Shared} {H : Heap} {L : Addr}
    (hq : ∀ h' tk m', Fr H L h' m' → Q (.ret (.bool true)) { s with heap := h', toks := tk })
    (h : ∀ Q' : Flow → Shared → Prop, (∀ h' tk m', Fr H L h' m' → Q' (.ret (.bool true)) { s with heap := h', toks := tk }) → wpAny (model prog w) A t Q' (fun _ _ => False) s) : wpAny (model prog w) A t Q E s :=
  wpAny_noRaise (h Q hq)
theorem cell_some {o : Obj} {v : Option Value} (h : o.data = .cell v) : ∃ v', o.data = .cell v' := ⟨v, h⟩
theorem fr_some {h₀ h : Heap} {L : Addr} {m : Str → Option Value} (F : Fr h₀ L h m) {x : Str} {v : Value} (hv : m x = some v) : ∃ m', m' x = some v ∧ Fr h₀ L h m' := ⟨m, hv, F⟩
set_option maxHeartbeats 8000000
noncomputable def S1p : { P : Prop // Hid P → PySem.Challenge.rw_bb0056_01.Holds } := ⟨_, fun hP => by
  refine hd ?_
  k_go0
  rename_i w s₀ s₁ mg mb G Y fa o pm doc ho hg KX X V GL T B TE TW wb1 wb2 M wc1 wc2 hcd ns hs hlay0 hLay hr1 hl2 wl1 wl2 l vs wl3 hL ra w1 r0 hI hr2 hc1 hc2 K0 hD h₁ tk₁ F co1 co2 co3 cl1 cl2 cl3 N0 X0
  refine law_start (H := s₁.heap) (L := s₁.heap.objs.size) (fun h' tk m' F' => ?_) (fun Q HQ => ?_)
  · dsimp only
    wrow_close
  obtain ⟨v1, cd1⟩ := cell_some cl1
  obtain ⟨v2, cd2⟩ := cell_some cl2
  obtain ⟨v3, cd3⟩ := cell_some cl3
  obtain ⟨m, hm, F2⟩ := fr_some (x := "script") (v := .ref l) F rfl
  replace F2 := fr_known0 (ps := [("script", .ref l)]) (List.forall_mem_cons.mpr ⟨hm, List.forall_mem_nil _⟩) F2
  have K1 : Below callerA s₁.heap [] s₁.heap := K0
  have hlen : ns.length ≤ 63 := by omega
  clear X0 hD K0 hc1 hc2 hr2 r0 w1 ra hl2 hr1 hLay hlay0 hs hcd M TW TE B GL V X ho Y G wb1 wb2 wl1 wl2 wl3 F cl1 cl2 cl3 hm
  try dsimp only
  repeat' ((fail_if_success (with_reducible show wpAny _ _ (execs (Stmt.Assign [Expr.Name (Str.ofString "a") _] _ _ :: _) _) _ _ _)); first | (k_unfold; (try dsimp only)) | walk1 | (dsimp only; walk1))
  rename Fr _ _ _ _ => lF
  rename News _ _ _ _ => lN
  rename IntsAre _ _ => cI
  rename _ = Int.fmod (List.getD _ _ _) _ => e1
  rename 0 ≤ _ => e2
  rename _ < 5 => e3
  have hp := primes_get e2 e3
  simp only [show Int.toNat 7 = 7 from rfl, show Int.toNat 0 = 0 from rfl] at cI e1
  have hcl : (List.take 7 ns ++ List.drop (((List.take 7 ns).length : Int)).toNat [0, 0, 2, 1, 1, 5, 8]).length = 7 := by
    simp only [List.length_append, List.length_take, List.length_drop, List.length_cons, List.length_nil]
    omega
  replace lN : News s₁.heap _ _ [_, _, _, _] := List.forall_mem_cons.mpr ⟨lN _ (.head _), List.forall_mem_cons.mpr ⟨lN _ (.tail _ (.tail _ (.tail _ (.tail _ (.tail _ (.head _)))))), List.forall_mem_cons.mpr ⟨lN _ (.tail _ (.tail _ (.tail _ (.tail _ (.tail _ (.tail _ (.head _))))))), List.forall_mem_cons.mpr ⟨lN _ (.tail _ (.tail _ (.tail _ (.tail _ (.tail _ (.tail _ (.tail _ (.head _)))))))), List.forall_mem_nil _⟩⟩⟩⟩
  generalize ([7, 11, 19, 23, 31] : List Int).getD _ 0 = p at lF hp
  generalize (List.take 7 ns ++ List.drop (((List.take 7 ns).length : Int)).toNat [0, 0, 2, 1, 1, 5, 8]) = cs at cI hcl e1
  dsimp only
  rename_i l9 h90 l91 h91 tk90 D9 ws9 h92 hI9 hC9 hL9 l92 D8 ws8 h93 hI8 hC8 hL8 l93 D7 ws7 h94 hI7 hC7 hL7 l94 D ws h95 l95 h96 t96 r t97 h
  have hD : s₁.heap.objs.size + 1 + 1 + 1 < D := l95.2.2.2.2.1
  obtain ⟨m2, pF⟩ := fr_pick [("p", .int p t97), ("cells", .ref D)] lF (List.forall_mem_cons.mpr ⟨rfl, List.forall_mem_cons.mpr ⟨rfl, List.forall_mem_nil _⟩⟩)
  clear lF
  clear l95 h95 h96 l94 hL7 hC7 hI7 h94 D7 ws7 l93 hL8 hC8 hI8 h93 D8 ws8 l92 hL9 hC9 hI9 h92 D9 ws9 tk90 h91 l91 h90 l9 t96 hL hI hlen vs ns e1 e2 e3 r
  clear m
  revert w s₀ s₁ mg mb fa o pm doc hg KX T wc1 wc2 l h₁ tk₁ co1 co2 co3 Q HQ v1 cd1 v2 cd2 v3 cd3 K1 D ws tk t97 h lN p hp cs cI hcl hD m2 pF
  exact hP.out⟩
/-- what is left behind the part 1 of the walk -/
def S1 : Prop := S1p.1
theorem S1_to (h : S1) : PySem.Challenge.rw_bb0056_01.Holds := S1p.2 ⟨h⟩
end Mine
-- part S2
namespace Mine
local macro_rules | `(tactic| walk_at "no key of this name") => `(tactic| fail)
theorem calm_S2 : True := by w_top off; trivial
local macro_rules | `(tactic| mul_fits) => `(tactic| first
  | (with_reducible show Bd _ _); first
    | (refine Bd.var (by with_reducible assumption) (by with_reducible assumption))
    | (refine Bd.var ?_ ?_ <;> omega)
    | (refine Bd.mul ?_ ?_ <;> mul_fits) | (refine Bd.pow ?_ <;> mul_fits) | (refine Bd.add ?_ ?_ <;> mul_fits) | (refine Bd.sub ?_ ?_ <;> mul_fits)
    | (refine Bd.small ?_ ?_ <;> omega))
local macro_rules | `(tactic| walk_at "binaryOp Mult int int") => `(tactic| (with_reducible refine' mul_b ?kb1 ?kb2 ?_; (case kb1 => mul_fits); (case kb2 => decide)))
local macro_rules | `(tactic| walk_at "binaryOp Pow int int") => `(tactic| (with_reducible refine' pow_b ?kb0 ?kb1 ?kb2 ?kb3 ?kb4 ?_; (case kb0 => with_unfolding_all first | exact to2 | exact to3 | exact to4); (case kb1 => mul_fits); (case kb2 => decide); (case kb3 => decide); (case kb4 => decide)))
local macro_rules | `(tactic| walk_at "binaryOp Mod int int") => `(tactic| (with_reducible refine mod_b ?kb1 ?_; (case kb1 => omega); intro r' hr' h0' h1'))
local macro_rules | `(tactic| cell_step) => `(tactic| repeat' ((fail_if_success (with_reducible show wpAny _ _ (exec (Stmt.While _ _ _ _) _) _ _ _)); (fail_if_success (with_reducible show wpAny _ _ (pyIter _) _ _ _)); (fail_if_success (with_reducible show KswEnd _ _ _ _ _ _ _ _ _ _ _ _)); (fail_if_success (with_reducible show wpAny _ _ (call (Value.ref 71) _) _ _ _)); first | (k_unfold; (try dsimp only)) | (walk1; try dsimp only) | (dsimp only; walk1)))
local macro_rules | `(tactic| walk_at "RPost") => `(tactic| (dsimp only [RPost]))
local macro_rules | `(tactic| walk_at "subscriptTail Name Slice ref ref") => `(tactic| (k_here; k_dflt (refine' kmk_slice_ints ?F ?N ?l ?p ?q ?i ?m ?c ?_ ?s ?t ?z; (case F => k_asm); (case N => k_asm); (case l => kmk_list); (case p => kmk_part); (case q => kmk_part); (case i => (first | with_reducible assumption | with_reducible exact .cons _ _ (.cons _ _ (.cons _ _ (.cons _ _ (.cons _ _ (.cons _ _ (.cons _ _ .nil)))))))); (case m => first | exact kmk_upto (by (first | with_reducible assumption | with_reducible exact .cons _ _ (.cons _ _ (.cons _ _ (.cons _ _ (.cons _ _ (.cons _ _ (.cons _ _ .nil)))))))) (by decide) | exact kmk_from (by (first | with_reducible assumption | with_reducible exact .cons _ _ (.cons _ _ (.cons _ _ (.cons _ _ (.cons _ _ (.cons _ _ (.cons _ _ .nil)))))))) (Int.natCast_nonneg _)); (case c => exact rfl); (case s => with_unfolding_all rfl); (case t => kmk_pure); (case z => kmk_size)); intro D' ws' h' F' N' l1 hI' hC' hL'; (try k_lt l1); (try k_sweep)))

set_option maxHeartbeats 8000000
def ValA (p a : Int) : Prop := Rs p a ∧ (a = 0 → p.fmod 3 ≠ 2)
theorem aF_val {p a : Int} (hp : 1 < p) (h : Rs p a) : ValA p (aF p a) := by
  refine ⟨aF_rs hp h, fun h0 h3 => ?_⟩
  unfold aF at h0
  split at h0
  · cases h0
  · rename_i hn; exact hn ⟨h0, h3⟩
theorem all1 {P : Str × Value → Prop} {a : Str × Value} (h : P a) : ∀ q ∈ [a], P q := List.forall_mem_cons.mpr ⟨h, List.forall_mem_nil _⟩
theorem all2 {P : Str × Value → Prop} {a : Str × Value} {l : List (Str × Value)} (h : P a) (g : ∀ q ∈ l, P q) : ∀ q ∈ a :: l, P q := List.forall_mem_cons.mpr ⟨h, g⟩
noncomputable def S2p : { P : Prop // Hid P → S1 } := ⟨_, fun hP => by
  unfold S1
  intro w s₀ s₁ mg mb fa o pm doc hg KX T wc1 wc2 l h₁ tk₁ co1 co2 co3 Q HQ v1 cd1 v2 cd2 v3 cd3 K1 D ws tk t97 h lN p hp cs cI hcl hD m2 pF
  dsimp only at HQ
  have hPb := prime_bd hp
  revert KX; k_fill; intro KX
  repeat' ((fail_if_success (with_reducible show wpAny _ _ (exec (Stmt.If _ _ _ _) _) _ _ _)); first | (walk1; try dsimp only) | (dsimp only; walk1))
  rename Int => ar
  rename 0 ≤ ar => a0
  rename ar < p => a1
  rename ar = Int.fmod _ _ => ea
  rename Fr _ _ _ _ => lF
  generalize hra : List.getD cs _ 0 = c1 at ea
  refine join_use (IfEnd s₁.heap s₁.heap.objs.size s₁ (fun m' nx => nx = [(D, listOf ws.toArray 0), (s₁.heap.objs.size + 1 + 1 + 1, co1), (s₁.heap.objs.size + 1 + 1, co2), (s₁.heap.objs.size + 1, co3)] ∧ ∃ t, ∀ q ∈ ([("p", .int p t97), ("cells", .ref D), ("a", .int (aF p ar) t)] : List (Str × Value)), m' q.1 = some q.2)) ?_ ?_
  · repeat' (first | (walk1; try dsimp only) | (dsimp only; walk1))
    all_goals rename Fr _ _ _ _ => lF2
    all_goals rename News _ _ _ _ => lN2
    · have e : aF p ar = 1 := if_pos ⟨by assumption, by omega⟩
      rw [e]
      exact IfEnd.intro lF2 lN2 ⟨rfl, _, all2 rfl (all2 rfl (all1 rfl))⟩
    all_goals
      have e : aF p ar = ar := if_neg (fun h => by omega)
      rw [e]
      exact IfEnd.intro lF2 lN2 ⟨rfl, _, all2 rfl (all2 rfl (all1 rfl))⟩
  clear lF
  rintro f s' ⟨rfl, h2, tk2, m3, nx, rfl, F3, N3, rfl, ta, hm3⟩
  replace F3 := fr_known0 hm3 F3
  have hav := aF_val (p := p) (by omega) ⟨a0, a1⟩
  clear hm3
  generalize aF p ar = av at F3 hav
  dsimp only
  rename_i zz1 zz2 zz3 zz4
  revert w s₀ s₁ mg mb fa o pm doc hg T wc1 wc2 l h₁ tk₁ co1 co2 co3 Q HQ v1 cd1 v2 cd2 v3 cd3 K1 D ws zz1 t97 h p hp cs cI hcl hD m2 hPb KX zz2 ar a0 a1 zz3 zz4 tk c1 hra ea h2 tk2 m3 N3 ta av F3 hav
  exact hP.out⟩
/-- what is left behind the part 2 of the walk -/
def S2 : Prop := S2p.1
theorem S2_to (h : S2) : S1 := S2p.2 ⟨h⟩
end Mine
-- part Plain0
namespace Mine
/-- (0, 0) with q added n times -/
def foldF (p a : Int) (q : Int × Int) : Nat → Int × Int
  | 0 => (0, 0)
  | k + 1 => addF p a (foldF p a q k) q
/-- what the plain law must show -/
structure PlainF (p NN a n c4 : Int) (ps : List (Int × Int)) : Prop where
  inp : ∀ q ∈ imgsF p NN a n c4 ps ps.length, q ∈ ps
  cnt : ∀ q ∈ imgsF p NN a n c4 ps ps.length, (imgsF p NN a n c4 ps ps.length).count q = (imgsF p NN a n c4 ps ps.length).count (0, 0)
  pos : 0 < (imgsF p NN a n c4 ps ps.length).count (0, 0)
  div : (n * (Int.gcd n (p - 1) : Int)).fmod ((imgsF p NN a n c4 ps ps.length).count (0, 0) : Int) = 0
  fold : ∀ k < ps.length, foldF p a (ps.getD k (0, 0)) n.toNat = (imgsF p NN a n c4 ps ps.length).getD k (0, 0)
  hom : ∀ i < ps.length, ∀ j < ps.length, addF p a (ps.getD i (0, 0)) (ps.getD j (0, 0)) ∈ ps ∧
    (imgsF p NN a n c4 ps ps.length).getD (ps.idxOf (addF p a (ps.getD i (0, 0)) (ps.getD j (0, 0)))) (0, 0) = addF p a ((imgsF p NN a n c4 ps ps.length).getD i (0, 0)) ((imgsF p NN a n c4 ps ps.length).getD j (0, 0))
end Mine
-- part P1
namespace Mine
/-- a and b are the same by p -/
def Cg (p a b : Int) : Prop := ∃ k, a = b + p * k
section
variable {p a b c d e k l : Int}
theorem Cg.refl (a : Int) : Cg p a a := ⟨0, by grind⟩
theorem Cg.symm (h : Cg p a b) : Cg p b a := by
  obtain ⟨k, e⟩ := h
  exact ⟨-k, by grind⟩
theorem Cg.trans (h : Cg p a b) (g : Cg p b c) : Cg p a c := by
  obtain ⟨k, e⟩ := h
  obtain ⟨m, f⟩ := g
  exact ⟨k + m, by grind⟩
theorem Cg.add (h : Cg p a b) (g : Cg p c d) : Cg p (a + c) (b + d) := by
  obtain ⟨k, e⟩ := h
  obtain ⟨m, f⟩ := g
  exact ⟨k + m, by grind⟩
theorem Cg.sub (h : Cg p a b) (g : Cg p c d) : Cg p (a - c) (b - d) := by
  obtain ⟨k, e⟩ := h
  obtain ⟨m, f⟩ := g
  exact ⟨k - m, by grind⟩
theorem Cg.mul (h : Cg p a b) (g : Cg p c d) : Cg p (a * c) (b * d) := by
  obtain ⟨k, e⟩ := h
  obtain ⟨m, f⟩ := g
  exact ⟨b * m + d * k + p * k * m, by grind⟩
theorem Cg.pow (h : Cg p a b) : ∀ n : Nat, Cg p (a ^ n) (b ^ n)
  | 0 => by rw [Int.pow_zero, Int.pow_zero]; exact .refl 1
  | n + 1 => by rw [Int.pow_succ, Int.pow_succ]; exact (h.pow n).mul h
theorem Cg.to (h : Cg p a b) (e : b = c) : Cg p a c := e ▸ h
theorem Cg.fm : Cg p (a.fmod p) a := ⟨-(a.fdiv p), by have := Int.mul_fdiv_add_fmod a p; grind⟩
theorem Cg.fmod_eq (h : Cg p a b) : a.fmod p = b.fmod p := by
  obtain ⟨k, rfl⟩ := h
  exact Int.add_mul_fmod_self_left b p k
theorem rs_self (h : Rs p a) : a.fmod p = a := by
  rw [Int.fmod_eq_emod_of_nonneg _ (by have := h.1; have := h.2; omega)]
  exact Int.emod_eq_of_lt h.1 h.2
theorem Cg.eq (h : Cg p a b) (ha : Rs p a) (hb : Rs p b) : a = b := by
  rw [← rs_self ha, ← rs_self hb]
  exact h.fmod_eq
theorem Cg.st {r r' : Int} (h : Cg p r' (k * r)) : Cg p (r'.fmod p) (k * r.fmod p) := Cg.fm.trans (h.trans ((Cg.refl k).mul Cg.fm.symm))
/-- l has an inverse by p -/
def Un (p l : Int) : Prop := ∃ i, Cg p (l * i) 1
theorem Un.one : Un p 1 := ⟨1, .refl 1⟩
theorem Un.mul (h : Un p a) (g : Un p b) : Un p (a * b) := by
  obtain ⟨i, hi⟩ := h
  obtain ⟨j, hj⟩ := g
  exact ⟨i * j, ((hi.mul hj).to (by grind) : Cg p (a * i * (b * j)) 1) |> fun h => (Cg.refl _).to (by grind) |>.trans h⟩
theorem Un.pow (h : Un p a) : ∀ n : Nat, Un p (a ^ n)
  | 0 => by rw [Int.pow_zero]; exact .one
  | n + 1 => by rw [Int.pow_succ]; exact (h.pow n).mul h
theorem Un.cancel (h : Un p l) (g : Cg p (l * a) (l * b)) : Cg p a b := by
  obtain ⟨i, k, hi⟩ := h
  obtain ⟨m, hm⟩ := g
  exact ⟨i * m - a * k + b * k, by grind⟩
theorem Un.cg (h : Un p a) (g : Cg p b a) : Un p b := by
  obtain ⟨i, hi⟩ := h
  exact ⟨i, (g.mul (.refl i)).trans hi⟩
end
/-- J' is J moved by t and scaled by l -/
structure Sc (p t l : Int) (J J' : Int × Int × Int) : Prop where
  x : Cg p J'.1 ((t * l) ^ 2 * J.1)
  y : Cg p J'.2.1 ((t * l) ^ 3 * J.2.1)
  z : Cg p J'.2.2 (l * J.2.2)
theorem dbl_sc {p t l A A' : Int} {J J' : Int × Int × Int} (hA : Cg p A' (t ^ 4 * A)) (h : Sc p t l J J') (h0 : J.2.1 ≠ 0) (h0' : J'.2.1 ≠ 0) : Sc p t ((t * l) ^ 3 * l) (jdblF p A J) (jdblF p A' J') := by
  obtain ⟨x, y, z⟩ := J
  obtain ⟨x', y', z'⟩ := J'
  obtain ⟨hx, hy, hz⟩ := h
  simp only at h0 h0' hx hy hz
  unfold jdblF
  rw [if_neg h0, if_neg h0']
  dsimp only
  have e1 : Cg p ((y' ^ 2).fmod p) ((t * l) ^ 6 * (y ^ 2).fmod p) := Cg.st ((hy.pow 2).to (by grind))
  generalize (y' ^ 2).fmod p = s' at e1 ⊢
  generalize (y ^ 2).fmod p = s at e1 ⊢
  have e2 : Cg p ((4 * x' * s').fmod p) ((t * l) ^ 8 * (4 * x * s).fmod p) := Cg.st ((((Cg.refl 4).mul hx).mul e1).to (by grind))
  generalize (4 * x' * s').fmod p = S' at e2 ⊢
  generalize (4 * x * s).fmod p = S at e2 ⊢
  have e3 : Cg p ((3 * x' ^ 2 + A' * z' ^ 4).fmod p) ((t * l) ^ 4 * (3 * x ^ 2 + A * z ^ 4).fmod p) := Cg.st ((((Cg.refl 3).mul (hx.pow 2)).add (hA.mul (hz.pow 4))).to (by grind))
  generalize (3 * x' ^ 2 + A' * z' ^ 4).fmod p = M' at e3 ⊢
  generalize (3 * x ^ 2 + A * z ^ 4).fmod p = M at e3 ⊢
  have e4 : Cg p ((M' ^ 2 - 2 * S').fmod p) ((t * l) ^ 8 * (M ^ 2 - 2 * S).fmod p) := Cg.st (((e3.pow 2).sub ((Cg.refl 2).mul e2)).to (by grind))
  generalize (M' ^ 2 - 2 * S').fmod p = X' at e4 ⊢
  generalize (M ^ 2 - 2 * S).fmod p = X at e4 ⊢
  have e5 : Cg p ((M' * (S' - X') - 8 * s' ^ 2).fmod p) ((t * l) ^ 12 * (M * (S - X) - 8 * s ^ 2).fmod p) := Cg.st (((e3.mul (e2.sub e4)).sub ((Cg.refl 8).mul (e1.pow 2))).to (by grind))
  have e6 : Cg p ((2 * y' * z').fmod p) ((t * l) ^ 3 * l * (2 * y * z).fmod p) := Cg.st ((((Cg.refl 2).mul hy).mul hz).to (by grind))
  exact ⟨e4.to (by grind), e5.to (by grind), e6⟩
/-- the numbers of the general case of the sum -/
theorem add_sc {p t l m : Int} {J J' K K' : Int × Int × Int} (h : Sc p t l J J') (g : Sc p t m K K') :
    Cg p ((J'.1 * K'.2.2 ^ 2).fmod p) ((t * l * m) ^ 2 * (J.1 * K.2.2 ^ 2).fmod p) ∧ Cg p ((K'.1 * J'.2.2 ^ 2).fmod p) ((t * l * m) ^ 2 * (K.1 * J.2.2 ^ 2).fmod p) ∧
    Cg p ((J'.2.1 * K'.2.2 ^ 3).fmod p) ((t * l * m) ^ 3 * (J.2.1 * K.2.2 ^ 3).fmod p) ∧ Cg p ((K'.2.1 * J'.2.2 ^ 3).fmod p) ((t * l * m) ^ 3 * (K.2.1 * J.2.2 ^ 3).fmod p) :=
  ⟨Cg.st ((h.x.mul (g.z.pow 2)).to (by grind)), Cg.st ((g.x.mul (h.z.pow 2)).to (by grind)), Cg.st ((h.y.mul (g.z.pow 3)).to (by grind)), Cg.st ((g.y.mul (h.z.pow 3)).to (by grind))⟩
theorem add_gen {p t l m A A' : Int} {J J' K K' : Int × Int × Int} (h : Sc p t l J J') (g : Sc p t m K K') (a0 : J.2.1 ≠ 0) (a1 : J'.2.1 ≠ 0) (a2 : K.2.1 ≠ 0) (a3 : K'.2.1 ≠ 0)
    (u : (J.1 * K.2.2 ^ 2).fmod p ≠ (K.1 * J.2.2 ^ 2).fmod p) (u' : (J'.1 * K'.2.2 ^ 2).fmod p ≠ (K'.1 * J'.2.2 ^ 2).fmod p) : Sc p t (t ^ 2 * (l * m) ^ 3) (jaddF p A J K) (jaddF p A' J' K') := by
  obtain ⟨f1, f2, f3, f4⟩ := add_sc h g
  have hz := h.z
  have gz := g.z
  unfold jaddF
  rw [if_neg a0, if_neg a1, if_neg a2, if_neg a3]
  dsimp only
  rw [if_neg u, if_neg u']
  generalize (J'.1 * K'.2.2 ^ 2).fmod p = U1' at f1 ⊢
  generalize (K'.1 * J'.2.2 ^ 2).fmod p = U2' at f2 ⊢
  generalize (J'.2.1 * K'.2.2 ^ 3).fmod p = S1' at f3 ⊢
  generalize (K'.2.1 * J'.2.2 ^ 3).fmod p = S2' at f4 ⊢
  generalize (J.1 * K.2.2 ^ 2).fmod p = U1 at f1 ⊢
  generalize (K.1 * J.2.2 ^ 2).fmod p = U2 at f2 ⊢
  generalize (J.2.1 * K.2.2 ^ 3).fmod p = S1 at f3 ⊢
  generalize (K.2.1 * J.2.2 ^ 3).fmod p = S2 at f4 ⊢
  have e1 : Cg p (U2' - U1') ((t * l * m) ^ 2 * (U2 - U1)) := (f2.sub f1).to (by grind)
  have e2 : Cg p (S2' - S1') ((t * l * m) ^ 3 * (S2 - S1)) := (f4.sub f3).to (by grind)
  generalize U2' - U1' = H' at e1 ⊢
  generalize U2 - U1 = H at e1 ⊢
  generalize S2' - S1' = R' at e2 ⊢
  generalize S2 - S1 = R at e2 ⊢
  have e3 : Cg p ((H' * H').fmod p) ((t * l * m) ^ 4 * (H * H).fmod p) := Cg.st ((e1.mul e1).to (by grind))
  generalize (H' * H').fmod p = H2' at e3 ⊢
  generalize (H * H).fmod p = H2 at e3 ⊢
  have e4 : Cg p ((H' * H2').fmod p) ((t * l * m) ^ 6 * (H * H2).fmod p) := Cg.st ((e1.mul e3).to (by grind))
  generalize (H' * H2').fmod p = H3' at e4 ⊢
  generalize (H * H2).fmod p = H3 at e4 ⊢
  have e5 : Cg p ((U1' * H2').fmod p) ((t * l * m) ^ 6 * (U1 * H2).fmod p) := Cg.st ((f1.mul e3).to (by grind))
  generalize (U1' * H2').fmod p = V' at e5 ⊢
  generalize (U1 * H2).fmod p = V at e5 ⊢
  have e6 : Cg p ((R' ^ 2 - H3' - 2 * V').fmod p) ((t * l * m) ^ 6 * (R ^ 2 - H3 - 2 * V).fmod p) := Cg.st ((((e2.pow 2).sub e4).sub ((Cg.refl 2).mul e5)).to (by grind))
  generalize (R' ^ 2 - H3' - 2 * V').fmod p = X' at e6 ⊢
  generalize (R ^ 2 - H3 - 2 * V).fmod p = X at e6 ⊢
  have e7 : Cg p ((R' * (V' - X') - S1' * H3').fmod p) ((t * l * m) ^ 9 * (R * (V - X) - S1 * H3).fmod p) := Cg.st (((e2.mul (e5.sub e6)).sub (f3.mul e4)).to (by grind))
  have e8 : Cg p ((H' * J'.2.2 * K'.2.2).fmod p) (t ^ 2 * (l * m) ^ 3 * (H * J.2.2 * K.2.2).fmod p) := Cg.st (((e1.mul hz).mul gz).to (by grind))
  exact ⟨e6.to (by grind), e7.to (by grind), e8⟩
end Mine
-- part P2
namespace Mine
theorem inv_all : ([7, 11, 19, 23, 31] : List Nat).all (fun p => (List.range p).all fun c => c == 0 || decide ((((c : Nat) : Int) * invF ((p : Nat) : Int) ((c : Nat) : Int)).fmod ((p : Nat) : Int) = 1)) = true := by decide +kernel
theorem inv_ok {p c : Int} (hp : PrimeL p) (h0 : 0 < c) (h1 : c < p) : Cg p (c * invF p c) 1 := by
  obtain ⟨hm, ep⟩ := nat_of_prime hp
  have h := List.all_eq_true.mp (List.all_eq_true.mp inv_all _ hm) c.toNat (List.mem_range.mpr (by omega))
  have ec : ((c.toNat : Nat) : Int) = c := by omega
  rw [ep, ec, Bool.or_eq_true] at h
  rcases h with h | h
  · have := eq_of_beq h
    omega
  · exact (Cg.fm.symm).to (of_decide_eq_true h)
theorem Un.of {p c : Int} (hp : PrimeL p) (h0 : 0 < c) (h1 : c < p) : Un p c := ⟨_, inv_ok hp h0 h1⟩
theorem Un.ne {p c : Int} (hp : PrimeL p) (h : Rs p c) (h0 : c ≠ 0) : Un p c := Un.of hp (by have := h.1; omega) h.2
theorem Un.not0 {p c : Int} (hp : PrimeL p) (h : Un p c) : ¬ Cg p c 0 := by
  intro g
  obtain ⟨i, hi⟩ := h
  have hb := prime_bd hp
  have h1 : Cg p 1 0 := (hi.symm.trans (g.mul (.refl i))).to (by grind)
  have := h1.eq ⟨by omega, by omega⟩ ⟨by omega, by omega⟩
  omega
/-- J stands for q, moved by t -/
structure Rep (p t : Int) (J : Int × Int × Int) (q : Int × Int) : Prop where
  rs : Rs3 p J
  q1 : Rs p q.1
  q2 : Rs p q.2
  z : q.2 = 0 → q.1 = 0
  ex : ∃ l, Un p l ∧ Cg p J.1 ((t * l) ^ 2 * q.1) ∧ Cg p J.2.1 ((t * l) ^ 3 * q.2) ∧ (q.2 ≠ 0 → Cg p J.2.2 l)
section
variable {p t A A' : Int} {J K : Int × Int × Int} {q r : Int × Int}
theorem rs0 (hp : PrimeL p) : Rs p 0 := by have := prime_bd hp; exact ⟨by omega, by omega⟩
theorem rs1 (hp : PrimeL p) : Rs p 1 := by have := prime_bd hp; exact ⟨by omega, by omega⟩
theorem Rep.y0 (hp : PrimeL p) (R : Rep p t J q) (h : q.2 = 0) : J.1 = 0 ∧ J.2.1 = 0 := by
  obtain ⟨l, _, hx, hy, _⟩ := R.ex
  exact ⟨Cg.eq (hx.to (by rw [R.z h]; grind)) R.rs.1 (rs0 hp), Cg.eq (hy.to (by rw [h]; grind)) R.rs.2.1 (rs0 hp)⟩
theorem Rep.y1 (hp : PrimeL p) (ht : Un p t) (R : Rep p t J q) (h : q.2 ≠ 0) : J.2.1 ≠ 0 := by
  obtain ⟨l, hl, hx, hy, _⟩ := R.ex
  intro e
  rw [e] at hy
  exact (((ht.mul hl).pow 3).mul (Un.ne hp R.q2 h)).not0 hp hy.symm
theorem Rep.sc (R : Rep p t J q) (h : q.2 ≠ 0) : ∃ l, Un p l ∧ Sc p t l (q.1, q.2, 1) J := by
  obtain ⟨l, hl, hx, hy, hz⟩ := R.ex
  exact ⟨l, hl, hx, hy, (hz h).to (by grind)⟩
/-- what from_jacobian gives, put back -/
theorem from_back (hp : PrimeL p) (h : Rs p J.2.2) (h0 : J.2.2 ≠ 0) : Cg p J.1 (J.2.2 ^ 2 * (fromF p J).1) ∧ Cg p J.2.1 (J.2.2 ^ 3 * (fromF p J).2) := by
  obtain ⟨x, y, z⟩ := J
  dsimp only at h h0 ⊢
  unfold fromF
  dsimp only
  have hi := inv_ok hp (by have := h.1; omega : 0 < z) h.2
  generalize invF p z = i at hi ⊢
  refine ⟨Cg.symm (((Cg.refl (z ^ 2)).mul Cg.fm).trans ?_), Cg.symm (((Cg.refl (z ^ 3)).mul Cg.fm).trans ?_)⟩
  · exact ((Cg.refl x).mul (hi.pow 2)).to (by grind) |> fun h => (Cg.refl _).to (by grind) |>.trans h
  · exact ((Cg.refl y).mul (hi.pow 3)).to (by grind) |> fun h => (Cg.refl _).to (by grind) |>.trans h
theorem from_1 (hp : PrimeL p) (h1 : Rs p q.1) (h2 : Rs p q.2) : fromF p (q.1, q.2, 1) = q := by
  have hb := prime_bd hp
  have e : invF p 1 = 1 := by
    unfold invF
    rw [Int.one_pow]
    exact rs_self (rs1 hp)
  unfold fromF
  dsimp only
  rw [e, Int.one_pow, Int.one_pow, Int.mul_one, Int.mul_one, rs_self h1, rs_self h2]
/-- a triple that is a scaled one of r, and r with a third number that is not 0 -/
theorem Rep.of {l : Int} {N : Int × Int × Int} (hp : PrimeL p) (hl : Un p l) (hN : Rs p N.2.2) (hN0 : N.2.2 ≠ 0) (S : Sc p t l N J) (rs : Rs3 p J) (hz : (fromF p N).2 = 0 → (fromF p N).1 = 0) : Rep p t J (fromF p N) := by
  obtain ⟨b1, b2⟩ := from_back hp hN hN0
  have hb := prime_bd hp
  obtain ⟨h1, h2⟩ := fromF_rs (P := p) (p := N) (by omega)
  refine ⟨rs, h1, h2, hz, l * N.2.2, hl.mul (Un.ne hp hN hN0), ?_, ?_, fun _ => S.z⟩
  · exact (S.x.trans ((Cg.refl _).mul b1)).to (by grind)
  · exact (S.y.trans ((Cg.refl _).mul b2)).to (by grind)
theorem add_0l (hp : PrimeL p) (h : q.2 = 0) (h1 : Rs p r.1) (h2 : Rs p r.2) : addF p A q r = r := by
  unfold addF jaddF
  rw [if_pos h]
  exact from_1 hp h1 h2
theorem add_0r (hp : PrimeL p) (h0 : q.2 ≠ 0) (h : r.2 = 0) (h1 : Rs p q.1) (h2 : Rs p q.2) : addF p A q r = q := by
  unfold addF jaddF
  rw [if_neg h0, if_pos h]
  exact from_1 hp h1 h2
theorem jdbl_z (h0 : J.2.1 ≠ 0) : (jdblF p A J).2.2 = (2 * J.2.1 * J.2.2).fmod p := by
  unfold jdblF
  rw [if_neg h0]
theorem un2 (hp : PrimeL p) : Un p 2 := by have := prime_bd hp; exact Un.of hp (by omega) (by omega)
theorem un_fm {a : Int} (hp : PrimeL p) (h : Un p a) : a.fmod p ≠ 0 := fun e => h.not0 hp (Cg.fm.symm.to e)
theorem jdbl_rep (hp : PrimeL p) (ht : Un p t) (hA : Cg p A' (t ^ 4 * A)) (R : Rep p t J q) (h0 : q.2 ≠ 0) (hz : (fromF p (jdblF p A (q.1, q.2, 1))).2 = 0 → (fromF p (jdblF p A (q.1, q.2, 1))).1 = 0) : Rep p t (jdblF p A' J) (fromF p (jdblF p A (q.1, q.2, 1))) := by
  have hb := prime_bd hp
  obtain ⟨l, hl, S⟩ := R.sc h0
  have hj := R.y1 hp ht h0
  refine Rep.of hp (((ht.mul hl).pow 3).mul hl) (jdblF_rs (by omega)).2.2 ?_ (dbl_sc hA S h0 hj) (jdblF_rs (by omega)) hz
  rw [jdbl_z (J := (q.1, q.2, 1)) h0]
  exact un_fm hp (((un2 hp).mul (Un.ne hp R.q2 h0)).mul .one)
theorem add_dbl (h0 : q.2 ≠ 0) : addF p A q q = fromF p (jdblF p A (q.1, q.2, 1)) := by
  unfold addF jaddF
  dsimp only
  rw [if_neg h0, if_neg h0, if_pos rfl, if_neg (by simp)]
/-- jacobian_double -/
theorem dbl_rep (hp : PrimeL p) (ht : Un p t) (hA : Cg p A' (t ^ 4 * A)) (R : Rep p t J q) (hz : (addF p A q q).2 = 0 → (addF p A q q).1 = 0) : Rep p t (jdblF p A' J) (addF p A q q) := by
  by_cases h0 : q.2 = 0
  · rw [add_0l hp h0 R.q1 R.q2]
    have hj := (R.y0 hp h0).2
    have e : jdblF p A' J = (0, 0, 0) := by unfold jdblF; rw [if_pos hj]
    rw [e]
    refine ⟨⟨rs0 hp, rs0 hp, rs0 hp⟩, R.q1, R.q2, R.z, 1, .one, ?_, ?_, fun h => absurd h0 h⟩
    · rw [R.z h0]; exact (Cg.refl 0).to (by grind)
    · rw [h0]; exact (Cg.refl 0).to (by grind)
  · rw [add_dbl h0] at hz ⊢
    exact jdbl_rep hp ht hA R h0 hz
/-- jacobian_add -/
theorem add_rep (hp : PrimeL p) (ht : Un p t) (hA : Cg p A' (t ^ 4 * A)) (R : Rep p t J q) (S : Rep p t K r) (hz : (addF p A q r).2 = 0 → (addF p A q r).1 = 0) : Rep p t (jaddF p A' J K) (addF p A q r) := by
  have hb := prime_bd hp
  by_cases h0 : q.2 = 0
  · rw [add_0l hp h0 S.q1 S.q2]
    have e : jaddF p A' J K = K := by unfold jaddF; rw [if_pos (R.y0 hp h0).2]
    rw [e]
    exact S
  have hj := R.y1 hp ht h0
  by_cases g0 : r.2 = 0
  · rw [add_0r hp h0 g0 R.q1 R.q2]
    have e : jaddF p A' J K = J := by unfold jaddF; rw [if_neg hj, if_pos (S.y0 hp g0).2]
    rw [e]
    exact R
  have hk := S.y1 hp ht g0
  obtain ⟨l, hl, SJ⟩ := R.sc h0
  obtain ⟨m, hm, SK⟩ := S.sc g0
  have hw : Un p (t * l * m) := (ht.mul hl).mul hm
  obtain ⟨f1, f2, f3, f4⟩ := add_sc SJ SK
  have hp0 : 0 < p := by omega
  have eU1 : ((q.1, q.2, (1 : Int)).1 * (r.1, r.2, (1 : Int)).2.2 ^ 2).fmod p = q.1 := by dsimp only; rw [Int.one_pow, Int.mul_one, rs_self R.q1]
  have eU2 : ((r.1, r.2, (1 : Int)).1 * (q.1, q.2, (1 : Int)).2.2 ^ 2).fmod p = r.1 := by dsimp only; rw [Int.one_pow, Int.mul_one, rs_self S.q1]
  have eS1 : ((q.1, q.2, (1 : Int)).2.1 * (r.1, r.2, (1 : Int)).2.2 ^ 3).fmod p = q.2 := by dsimp only; rw [Int.one_pow, Int.mul_one, rs_self R.q2]
  have eS2 : ((r.1, r.2, (1 : Int)).2.1 * (q.1, q.2, (1 : Int)).2.2 ^ 3).fmod p = r.2 := by dsimp only; rw [Int.one_pow, Int.mul_one, rs_self S.q2]
  rw [eU1] at f1
  rw [eU2] at f2
  rw [eS1] at f3
  rw [eS2] at f4
  by_cases hU : q.1 = r.1
  · have hU' : (J.1 * K.2.2 ^ 2).fmod p = (K.1 * J.2.2 ^ 2).fmod p := Cg.eq (f1.trans ((Cg.refl _).to (by rw [hU]) |>.trans f2.symm)) (rs_fmod _ hp0) (rs_fmod _ hp0)
    by_cases hS : q.2 = r.2
    · have hS' : (J.2.1 * K.2.2 ^ 3).fmod p = (K.2.1 * J.2.2 ^ 3).fmod p := Cg.eq (f3.trans ((Cg.refl _).to (by rw [hS]) |>.trans f4.symm)) (rs_fmod _ hp0) (rs_fmod _ hp0)
      have e : jaddF p A' J K = jdblF p A' J := by
        unfold jaddF
        rw [if_neg hj, if_neg hk]
        dsimp only
        rw [if_pos hU', if_neg (by simp [hS'])]
      have er : r = q := by
        obtain ⟨a, b⟩ := q
        obtain ⟨c, d⟩ := r
        simp only at hU hS
        rw [hU, hS]
      rw [e]
      rw [er] at hz ⊢
      exact dbl_rep hp ht hA R hz
    · have hS' : (J.2.1 * K.2.2 ^ 3).fmod p ≠ (K.2.1 * J.2.2 ^ 3).fmod p := by
        intro e
        exact hS (((hw.pow 3).cancel (f3.symm.trans ((Cg.refl _).to e |>.trans f4))).eq R.q2 S.q2)
      have e : jaddF p A' J K = (0, 0, 1) := by
        unfold jaddF
        rw [if_neg hj, if_neg hk]
        dsimp only
        rw [if_pos hU', if_pos hS']
      have e2 : addF p A q r = (0, 0) := by
        unfold addF jaddF
        rw [if_neg h0, if_neg g0]
        dsimp only
        dsimp only at eU1 eU2 eS1 eS2
        rw [eU1, eU2, eS1, eS2, if_pos hU, if_pos hS]
        exact from_1 (q := (0, 0)) hp (rs0 hp) (rs0 hp)
      rw [e, e2]
      exact ⟨⟨rs0 hp, rs0 hp, rs1 hp⟩, rs0 hp, rs0 hp, fun _ => rfl, 1, .one, (Cg.refl 0).to (by grind), (Cg.refl 0).to (by grind), fun h => absurd rfl h⟩
  · have hU' : (J.1 * K.2.2 ^ 2).fmod p ≠ (K.1 * J.2.2 ^ 2).fmod p := by
      intro e
      exact hU (((hw.pow 2).cancel (f1.symm.trans ((Cg.refl _).to e |>.trans f2))).eq R.q1 S.q1)
    have hG := add_gen (A := A) (A' := A') SJ SK h0 hj g0 hk (by rw [eU1, eU2]; exact hU) hU'
    have rsN : Rs3 p (jaddF p A (q.1, q.2, 1) (r.1, r.2, 1)) := jaddF_rs (by omega) ⟨R.q1, R.q2, rs1 hp⟩ ⟨S.q1, S.q2, rs1 hp⟩
    refine Rep.of hp ((ht.pow 2).mul ((hl.mul hm).pow 3)) rsN.2.2 ?_ hG (jaddF_rs (by omega) R.rs S.rs) hz
    have e : (jaddF p A (q.1, q.2, 1) (r.1, r.2, 1)).2.2 = ((r.1 - q.1) * 1 * 1).fmod p := by
      unfold jaddF
      rw [if_neg h0, if_neg g0]
      dsimp only
      dsimp only at eU1 eU2
      rw [eU1, eU2, if_neg hU]
    rw [e]
    intro e9
    have h9 : Cg p (r.1 - q.1) 0 := ((Cg.fm.symm.to e9) |> fun h => (Cg.refl _).to (by grind) |>.trans h)
    have h8 : Cg p r.1 q.1 := ((h9.add (.refl q.1)).to (by grind)) |> fun h => (Cg.refl _).to (by grind) |>.trans h
    exact hU (h8.eq S.q1 R.q1).symm
end
end Mine
-- part Q3
namespace Mine
/-- q moved by t -/
def phi (p t : Int) (q : Int × Int) : Int × Int := ((t ^ 2 * q.1).fmod p, (t ^ 3 * q.2).fmod p)
section
variable {p t A A' : Int} {J K : Int × Int × Int} {q r : Int × Int}
theorem phi_rs (hp : PrimeL p) : Rs p (phi p t q).1 ∧ Rs p (phi p t q).2 := by
  have hb := prime_bd hp
  exact ⟨rs_fmod _ (by omega), rs_fmod _ (by omega)⟩
theorem phi_inj (ht : Un p t) (q1 : Rs p q.1) (q2 : Rs p q.2) (r1 : Rs p r.1) (r2 : Rs p r.2) (h : phi p t q = phi p t r) : q = r := by
  have h1 : Cg p (t ^ 2 * q.1) (t ^ 2 * r.1) := (Cg.fm.symm.to (congrArg Prod.fst h)).trans Cg.fm
  have h2 : Cg p (t ^ 3 * q.2) (t ^ 3 * r.2) := (Cg.fm.symm.to (congrArg Prod.snd h)).trans Cg.fm
  exact Prod.ext (((ht.pow 2).cancel h1).eq q1 r1) (((ht.pow 3).cancel h2).eq q2 r2)
theorem phi_0 (hp : PrimeL p) : phi p t (0, 0) = (0, 0) := by
  have e : (0 : Int).fmod p = 0 := rs_self (rs0 hp)
  unfold phi
  dsimp only
  rw [Int.mul_zero, Int.mul_zero, e]
theorem rep_at (hp : PrimeL p) {z x y : Int} (hz0 : 0 < z) (hz1 : z < p) (q1 : Rs p q.1) (q2 : Rs p q.2) (hq : q.2 = 0 → q.1 = 0) (hx : Cg p x (z ^ 2 * (t ^ 2 * q.1))) (hy : Cg p y (z ^ 3 * (t ^ 3 * q.2))) (rx : Rs p x) (ry : Rs p y) : Rep p t (x, y, z) q :=
  ⟨⟨rx, ry, by constructor <;> (dsimp only; omega)⟩, q1, q2, hq, z, Un.of hp hz0 hz1, hx.to (by grind), hy.to (by grind), fun _ => .refl z⟩
theorem rep_self (hp : PrimeL p) (q1 : Rs p q.1) (q2 : Rs p q.2) (hq : q.2 = 0 → q.1 = 0) : Rep p t ((phi p t q).1, (phi p t q).2, 1) q := by
  have hb := prime_bd hp
  exact rep_at hp (by omega) (by omega) q1 q2 hq (Cg.fm.to (by grind)) (Cg.fm.to (by grind)) (phi_rs hp).1 (phi_rs hp).2
theorem from_rep (hp : PrimeL p) (ht : Un p t) (R : Rep p t J q) : fromF p J = phi p t q := by
  have hb := prime_bd hp
  by_cases h0 : q.2 = 0
  · obtain ⟨h1, h2⟩ := R.y0 hp h0
    have e : q = (0, 0) := Prod.ext (R.z h0) h0
    have e9 : (0 : Int).fmod p = 0 := rs_self (rs0 hp)
    rw [e, phi_0 hp]
    unfold fromF
    dsimp only
    rw [h1, h2, Int.zero_mul, Int.zero_mul, e9]
  · obtain ⟨l, hl, hx, hy, hz⟩ := R.ex
    have hz := hz h0
    have uz : Un p J.2.2 := hl.cg hz
    have nz : J.2.2 ≠ 0 := fun e => uz.not0 hp ((Cg.refl _).to e)
    obtain ⟨b1, b2⟩ := from_back hp R.rs.2.2 nz
    have g1 : Cg p (J.2.2 ^ 2 * (fromF p J).1) (J.2.2 ^ 2 * (t ^ 2 * q.1)) :=
      b1.symm.trans (hx.trans ((Cg.refl _).to (by grind : (t * l) ^ 2 * q.1 = l ^ 2 * (t ^ 2 * q.1)) |>.trans ((hz.symm.pow 2).mul (.refl _))))
    have g2 : Cg p (J.2.2 ^ 3 * (fromF p J).2) (J.2.2 ^ 3 * (t ^ 3 * q.2)) :=
      b2.symm.trans (hy.trans ((Cg.refl _).to (by grind : (t * l) ^ 3 * q.2 = l ^ 3 * (t ^ 3 * q.2)) |>.trans ((hz.symm.pow 3).mul (.refl _))))
    obtain ⟨h1, h2⟩ := fromF_rs (P := p) (p := J) (by omega)
    exact Prod.ext ((((uz.pow 2).cancel g1).trans Cg.fm.symm).eq h1 (phi_rs hp).1) ((((uz.pow 3).cancel g2).trans Cg.fm.symm).eq h2 (phi_rs hp).2)
theorem phi_add (hp : PrimeL p) (ht : Un p t) (hA : Cg p A' (t ^ 4 * A)) (q1 : Rs p q.1) (q2 : Rs p q.2) (hq : q.2 = 0 → q.1 = 0) (r1 : Rs p r.1) (r2 : Rs p r.2) (hr : r.2 = 0 → r.1 = 0)
    (hz : (addF p A q r).2 = 0 → (addF p A q r).1 = 0) : addF p A' (phi p t q) (phi p t r) = phi p t (addF p A q r) :=
  from_rep hp ht (add_rep hp ht hA (rep_self hp q1 q2 hq) (rep_self hp r1 r2 hr) hz)
end
/-- the group of a curve, told by its points -/
structure Gp (p A B : Int) (d1 d2 : Nat) (G : Nat → Nat → Int × Int) : Prop where
  pos1 : 0 < d1
  pos2 : 0 < d2
  three : 3 ≤ d1 * d2
  per : ∀ u v, G (u % d1) (v % d2) = G u v
  zero : G 0 0 = (0, 0)
  rs : ∀ u v, Rs p (G u v).1 ∧ Rs p (G u v).2
  z : ∀ u v, (G u v).2 = 0 → (G u v).1 = 0
  add : ∀ u1 u2 v1 v2, addF p A (G u1 u2) (G v1 v2) = G (u1 + v1) (u2 + v2)
  inj : ∀ u1 u2 v1 v2, u1 < d1 → u2 < d2 → v1 < d1 → v2 < d2 → G u1 u2 = G v1 v2 → u1 = v1 ∧ u2 = v2
  on : ∀ u v, (G u v).2 ≠ 0 → Cg p ((G u v).2 ^ 2) ((G u v).1 ^ 3 + A * (G u v).1 + B)
  mem : ∀ x y : Int, 0 ≤ x → x < p → 0 < y → y < p → Cg p (y ^ 2) (x ^ 3 + A * x + B) → ∃ u v, G u v = (x, y)
section
variable {p t A B A' : Int} {J : Int × Int × Int} {d1 d2 : Nat} {G : Nat → Nat → Int × Int}
theorem Gp.hz (g : Gp p A B d1 d2 G) (u1 u2 v1 v2 : Nat) : (addF p A (G u1 u2) (G v1 v2)).2 = 0 → (addF p A (G u1 u2) (G v1 v2)).1 = 0 := by
  rw [g.add]
  exact g.z _ _
theorem Gp.addP (g : Gp p A B d1 d2 G) (hp : PrimeL p) (ht : Un p t) (hA : Cg p A' (t ^ 4 * A)) (u1 u2 v1 v2 : Nat) : addF p A' (phi p t (G u1 u2)) (phi p t (G v1 v2)) = phi p t (G (u1 + v1) (u2 + v2)) := by
  rw [phi_add hp ht hA (g.rs _ _).1 (g.rs _ _).2 (g.z _ _) (g.rs _ _).1 (g.rs _ _).2 (g.z _ _) (g.hz _ _ _ _), g.add]
theorem Gp.foldP (g : Gp p A B d1 d2 G) (hp : PrimeL p) (ht : Un p t) (hA : Cg p A' (t ^ 4 * A)) (u v : Nat) : ∀ n : Nat, foldF p A' (phi p t (G u v)) n = phi p t (G (n * u) (n * v))
  | 0 => by rw [Nat.zero_mul, Nat.zero_mul, g.zero, phi_0 hp, foldF]
  | n + 1 => by rw [foldF, g.foldP hp ht hA u v n, g.addP hp ht hA, Nat.succ_mul, Nat.succ_mul]
theorem Gp.mul0 (g : Gp p A B d1 d2 G) (hp : PrimeL p) {u v : Nat} (h : G u v = (0, 0)) : ∀ n : Nat, G (n * u) (n * v) = (0, 0)
  | 0 => by rw [Nat.zero_mul, Nat.zero_mul, g.zero]
  | n + 1 => by rw [Nat.succ_mul, Nat.succ_mul, ← g.add, h, g.mul0 hp h n, add_0l hp rfl (rs0 hp) (rs0 hp)]
theorem rep_O (hp : PrimeL p) (h : J = (0, 0, 1)) : Rep p t J (0, 0) := by
  subst h
  exact ⟨⟨rs0 hp, rs0 hp, rs1 hp⟩, rs0 hp, rs0 hp, fun _ => rfl, 1, .one, (Cg.refl 0).to (by grind), (Cg.refl 0).to (by grind), fun h => absurd rfl h⟩
theorem Gp.perN (g : Gp p A B d1 d2 G) (n u v : Nat) : G (n % (d1 * d2) * u) (n % (d1 * d2) * v) = G (n * u) (n * v) := by
  have h := Nat.div_add_mod n (d1 * d2)
  have e1 : (n % (d1 * d2) * u) % d1 = (n * u) % d1 := by
    have : n * u = n % (d1 * d2) * u + d1 * (d2 * (n / (d1 * d2)) * u) := by
      conv => lhs; rw [← h]
      grind
    rw [this, Nat.add_mul_mod_self_left]
  have e2 : (n % (d1 * d2) * v) % d2 = (n * v) % d2 := by
    have : n * v = n % (d1 * d2) * v + d2 * (d1 * (n / (d1 * d2)) * v) := by
      conv => lhs; rw [← h]
      grind
    rw [this, Nat.add_mul_mod_self_left]
  rw [← g.per (n % (d1 * d2) * u), e1, e2, g.per]
theorem Gp.mulR (g : Gp p A B d1 d2 G) (hp : PrimeL p) (ht : Un p t) (hA : Cg p A' (t ^ 4 * A)) {u v : Nat} (R : Rep p t J (G u v)) {NN : Int} (hN : NN = ((d1 * d2 : Nat) : Int)) :
    ∀ (k n : Nat), n < 2 ^ k → Rep p t (jmulF p NN A' k J (n : Int)) (G (n * u) (n * v))
  | 0, n, hn => by
    have : n = 0 := by simpa using hn
    subst this
    rw [Nat.zero_mul, Nat.zero_mul, g.zero]
    exact rep_O hp rfl
  | k + 1, n, hn => by
    have hn2 : n < 2 * 2 ^ k := by rw [Nat.pow_succ] at hn; omega
    have h3 := g.three
    have hz : ∀ m : Nat, (addF p A (G (m * u) (m * v)) (G (m * u) (m * v))).2 = 0 → (addF p A (G (m * u) (m * v)) (G (m * u) (m * v))).1 = 0 := fun m => g.hz _ _ _ _
    by_cases c1 : J.2.1 = 0 ∨ (n : Int) = 0
    · unfold jmulF
      rw [if_pos c1]
      rcases c1 with c | c
      · have e : G u v = (0, 0) := by
          by_cases h0 : (G u v).2 = 0
          · exact Prod.ext (g.z _ _ h0) h0
          · exact absurd c (R.y1 hp ht h0)
        rw [g.mul0 hp e n]
        exact rep_O hp rfl
      · have : n = 0 := by omega
        subst this
        rw [Nat.zero_mul, Nat.zero_mul, g.zero]
        exact rep_O hp rfl
    by_cases c2 : (n : Int) = 1
    · unfold jmulF
      rw [if_neg c1, if_pos c2]
      have : n = 1 := by omega
      subst this
      rw [Nat.one_mul, Nat.one_mul]
      exact R
    by_cases c3 : (n : Int) < 0 ∨ (n : Int) ≥ NN
    · unfold jmulF
      rw [if_neg c1, if_neg c2, if_pos c3]
      have hge : d1 * d2 ≤ n := by omega
      have e : (n : Int).fmod NN = ((n % (d1 * d2) : Nat) : Int) := by
        rw [hN, Int.fmod_eq_emod_of_nonneg _ (by omega)]
        omega
      rw [e, ← g.perN]
      refine g.mulR hp ht hA R hN k _ ?_
      have h1 := Nat.mod_lt n (show 0 < d1 * d2 by omega)
      have h2 := Nat.div_add_mod n (d1 * d2)
      have h4 : 1 ≤ n / (d1 * d2) := (Nat.le_div_iff_mul_le (by omega)).mpr (by omega)
      have h5 : d1 * d2 * 1 ≤ d1 * d2 * (n / (d1 * d2)) := Nat.mul_le_mul_left _ h4
      omega
    have ef : (n : Int).fdiv 2 = ((n / 2 : Nat) : Int) := by
      rw [Int.fdiv_eq_ediv_of_nonneg _ (by decide)]
      omega
    have em : (n : Int).fmod 2 = ((n % 2 : Nat) : Int) := by
      rw [Int.fmod_eq_emod_of_nonneg _ (by decide)]
      omega
    have D := dbl_rep hp ht hA (g.mulR hp ht hA R hN k (n / 2) (by omega)) (hz _)
    rw [g.add] at D
    unfold jmulF
    rw [if_neg c1, if_neg c2, if_neg c3, ef, em]
    by_cases c4 : ((n % 2 : Nat) : Int) = 0
    · rw [if_pos c4]
      have e1 : n / 2 * u + n / 2 * u = n * u := by
        have : n = n / 2 + n / 2 := by omega
        conv => rhs; rw [this]
        grind
      have e2 : n / 2 * v + n / 2 * v = n * v := by
        have : n = n / 2 + n / 2 := by omega
        conv => rhs; rw [this]
        grind
      rw [e1, e2] at D
      exact D
    · rw [if_neg c4]
      have S := add_rep hp ht hA D R (g.hz _ _ _ _)
      rw [g.add] at S
      have e1 : n / 2 * u + n / 2 * u + u = n * u := by
        have : n = n / 2 + n / 2 + 1 := by omega
        conv => rhs; rw [this]
        grind
      have e2 : n / 2 * v + n / 2 * v + v = n * v := by
        have : n = n / 2 + n / 2 + 1 := by omega
        conv => rhs; rw [this]
        grind
      rw [e1, e2] at S
      exact S
/-- the k-th image is n times the k-th point -/
theorem Gp.imgP (g : Gp p A B d1 d2 G) (hp : PrimeL p) (ht : Un p t) (hA : Cg p A' (t ^ 4 * A)) {NN : Int} (hN : NN = ((d1 * d2 : Nat) : Int)) {ps : List (Int × Int)} {k : Nat} {u v : Nat} (hk : ps.getD k (0, 0) = phi p t (G u v)) (h0 : ps.getD 0 (0, 0) = (0, 0))
    {n c4 : Int} (n0 : 0 ≤ n) (n1 : n < 16) : imgF p NN A' n c4 ps k = phi p t (G (n.toNat * u) (n.toNat * v)) := by
  have hb := prime_bd hp
  obtain ⟨g1, g2⟩ := g.rs u v
  have R : Rep p t (formF p c4 k (ps.getD k (0, 0))) (G u v) := by
    rw [hk]
    unfold formF
    by_cases hk0 : (k : Int) = 0
    · rw [if_pos hk0]
      have : k = 0 := by omega
      subst this
      have e : G u v = (0, 0) := phi_inj ht g1 g2 (rs0 hp) (rs0 hp) (by rw [← hk, h0, phi_0 hp])
      rw [e]
      exact rep_O hp rfl
    · rw [if_neg hk0]
      have hz := rs_fmod (c4 + (k : Int)) (show 0 < p - 1 by omega)
      have z0 : 0 < zF p c4 k := by unfold zF; have := hz.1; omega
      have z1 : zF p c4 k < p := by unfold zF; have := hz.2; omega
      refine rep_at hp z0 z1 g1 g2 (g.z _ _) ?_ ?_ (rs_fmod _ (by omega)) (rs_fmod _ (by omega))
      · exact (Cg.fm.trans (Cg.fm.mul (.refl _))).to (by grind)
      · exact (Cg.fm.trans (Cg.fm.mul (.refl _))).to (by grind)
  have M := g.mulR hp ht hA R hN 4 n.toNat (by omega)
  have e : ((n.toNat : Nat) : Int) = n := by omega
  rw [e] at M
  exact from_rep hp ht M
end
end Mine
-- part Q4
namespace Mine
theorem sq_all : ([7, 11, 19, 23, 31] : List Nat).all (fun p => (List.range p).all fun y => y == 0 || (decide (sqF ((p : Nat) : Int) ((((y : Nat) : Int) * ((y : Nat) : Int)).fmod ((p : Nat) : Int)) = ((y : Nat) : Int)) || decide (sqF ((p : Nat) : Int) ((((y : Nat) : Int) * ((y : Nat) : Int)).fmod ((p : Nat) : Int)) = ((p : Nat) : Int) - ((y : Nat) : Int)))) = true := by decide +kernel
theorem sq_root {p y : Int} (hp : PrimeL p) (h0 : 0 < y) (h1 : y < p) : sqF p ((y * y).fmod p) = y ∨ sqF p ((y * y).fmod p) = p - y := by
  obtain ⟨hm, ep⟩ := nat_of_prime hp
  have h := List.all_eq_true.mp (List.all_eq_true.mp sq_all _ hm) y.toNat (List.mem_range.mpr (by omega))
  have ec : ((y.toNat : Nat) : Int) = y := by omega
  rw [ep, ec, Bool.or_eq_true, Bool.or_eq_true] at h
  rcases h with h | h | h
  · have := eq_of_beq h
    omega
  · exact .inl (of_decide_eq_true h)
  · exact .inr (of_decide_eq_true h)
/-- q is a point of the curve whose first number is below k -/
def OnC (p a b : Int) (k : Nat) (q : Int × Int) : Prop := q = (0, 0) ∨ (0 ≤ q.1 ∧ q.1 < k ∧ 0 < q.2 ∧ q.2 < p ∧ Cg p (q.2 ^ 2) (q.1 ^ 3 + a * q.1 + b))
theorem OnC.mono {p a b : Int} {k m : Nat} {q : Int × Int} (h : OnC p a b k q) (hk : k ≤ m) : OnC p a b m q := by
  rcases h with h | ⟨h1, h2, h3⟩
  · exact .inl h
  · exact .inr ⟨h1, by omega, h3⟩
theorem ptsF_head {p a b : Int} : ∀ {k : Nat} {ps : List (Int × Int)}, ptsF p a b k = some ps → ps.getD 0 (0, 0) = (0, 0)
  | 0, ps, h => by cases h; rfl
  | k + 1, ps, h => by
    unfold ptsF at h
    cases hl : ptsF p a b k with
    | none => rw [hl] at h; cases h
    | some l =>
      rw [hl] at h
      have ih := ptsF_head hl
      have hne := ptsF_ne hl
      simp only at h
      split at h
      · cases h
      split at h
      · cases h
        cases l with
        | nil => exact absurd rfl hne
        | cons x r => exact ih
      · cases h; exact ih
/-- no root -/
theorem ptsF_noroot {p a b : Int} : ∀ {k : Nat} {ps : List (Int × Int)}, ptsF p a b k = some ps → ∀ x < k, ((x : Int) ^ 3 + a * x + b).fmod p ≠ 0
  | 0, ps, h, x, hx => by omega
  | k + 1, ps, h, x, hx => by
    unfold ptsF at h
    cases hl : ptsF p a b k with
    | none => rw [hl] at h; cases h
    | some l =>
      rw [hl] at h
      simp only at h
      split at h
      · cases h
      rename_i hv
      by_cases e : x = k
      · subst e; exact hv
      · exact ptsF_noroot hl x (by omega)
theorem ptsF_mem {p a b : Int} (hp : PrimeL p) : ∀ {k : Nat} {ps : List (Int × Int)}, (k : Int) ≤ p → ptsF p a b k = some ps → (∀ q, q ∈ ps ↔ OnC p a b k q) ∧ ps.Nodup
  | 0, ps, _, h => by
    cases h
    refine ⟨fun q => ⟨fun h => .inl (List.mem_singleton.mp h), ?_⟩, List.nodup_cons.mpr ⟨List.not_mem_nil, List.nodup_nil⟩⟩
    rintro (h | ⟨h1, h2, _⟩)
    · rw [h]; exact .head _
    · omega
  | k + 1, ps, hk, h => by
    have hb := prime_bd hp
    unfold ptsF at h
    cases hl : ptsF p a b k with
    | none => rw [hl] at h; cases h
    | some l =>
      rw [hl] at h
      obtain ⟨ih, nd⟩ := ptsF_mem hp (by omega) hl
      simp only at h
      split at h
      · cases h
      rename_i hv
      have hvr := rs_fmod ((k : Int) ^ 3 + a * k + b) (show 0 < p by omega)
      have hvc : Cg p (((k : Int) ^ 3 + a * k + b).fmod p) ((k : Int) ^ 3 + a * k + b) := Cg.fm
      generalize ((k : Int) ^ 3 + a * k + b).fmod p = v at h hv hvr hvc
      have key : ∀ y : Int, 0 < y → y < p → Cg p (y ^ 2) ((k : Int) ^ 3 + a * k + b) → (y * y).fmod p = v := by
        intro y y0 y1 hy
        exact Cg.eq (Cg.fm.trans ((Cg.refl _).to (by grind : y * y = y ^ 2) |>.trans (hy.trans hvc.symm))) (rs_fmod _ (by omega)) hvr
      split at h
      · rename_i hy
        cases h
        have hs := sqF_bd (p := p) (v := v) (by omega)
        have hs0 : sqF p v ≠ 0 := by
          intro e
          rw [e] at hy
          exact hv (by rw [← hy]; simp)
        have hsc : Cg p (sqF p v ^ 2) ((k : Int) ^ 3 + a * k + b) := ((Cg.refl _).to (by grind : sqF p v ^ 2 = sqF p v * sqF p v)).trans ((Cg.fm.symm.to hy).trans hvc)
        have hsc2 : Cg p ((p - sqF p v) ^ 2) ((k : Int) ^ 3 + a * k + b) := Cg.trans ⟨p - 2 * sqF p v, by grind⟩ hsc
        refine ⟨fun q => ⟨fun hq => ?_, fun hq => ?_⟩, ?_⟩
        · rcases List.mem_append.mp hq with hq | hq
          · exact ((ih q).mp hq).mono (by omega)
          · simp only [List.mem_cons, List.not_mem_nil, or_false] at hq
            rcases hq with rfl | rfl
            · exact .inr ⟨by dsimp only; omega, by dsimp only; omega, by dsimp only; omega, by dsimp only; omega, hsc⟩
            · exact .inr ⟨by dsimp only; omega, by dsimp only; omega, by dsimp only; omega, by dsimp only; omega, hsc2⟩
        · rcases hq with h | ⟨h1, h2, h3, h4, h5⟩
          · exact List.mem_append.mpr (.inl ((ih q).mpr (.inl h)))
          · by_cases e : q.1 < (k : Int)
            · exact List.mem_append.mpr (.inl ((ih q).mpr (.inr ⟨h1, e, h3, h4, h5⟩)))
            · have e1 : q.1 = (k : Int) := by omega
              rw [e1] at h5
              have h6 := key _ h3 h4 h5
              have h7 := sq_root hp h3 h4
              rw [h6] at h7
              refine List.mem_append.mpr (.inr ?_)
              rcases h7 with h7 | h7
              · have : q = ((k : Int), sqF p v) := Prod.ext e1 h7.symm
                rw [this]; exact .head _
              · have : q = ((k : Int), p - sqF p v) := Prod.ext e1 (by simp; omega)
                rw [this]; exact .tail _ (.head _)
        · refine List.nodup_append.mpr ⟨nd, ?_, ?_⟩
          · refine List.nodup_cons.mpr ⟨fun hm => ?_, List.nodup_cons.mpr ⟨List.not_mem_nil, List.nodup_nil⟩⟩
            have h1 := (Prod.mk.inj (List.mem_singleton.mp hm)).2
            rcases hp with rfl | rfl | rfl | rfl | rfl <;> omega
          · intro x hx y hy e
            subst e
            have hx2 := (ih x).mp hx
            simp only [List.mem_cons, List.not_mem_nil, or_false] at hy
            rcases hx2 with hx2 | ⟨h1, h2, h3, _⟩
            · rcases hy with hy | hy
              · rw [hx2] at hy
                exact hs0 (Prod.mk.inj hy).2.symm
              · rw [hx2] at hy
                have := (Prod.mk.inj hy).2
                omega
            · rcases hy with hy | hy <;> (rw [hy] at h2; simp at h2)
      · rename_i hy
        cases h
        refine ⟨fun q => ⟨fun hq => ((ih q).mp hq).mono (by omega), fun hq => ?_⟩, nd⟩
        rcases hq with h | ⟨h1, h2, h3, h4, h5⟩
        · exact (ih q).mpr (.inl h)
        · by_cases e : q.1 < (k : Int)
          · exact (ih q).mpr (.inr ⟨h1, e, h3, h4, h5⟩)
          · exfalso
            have e1 : q.1 = (k : Int) := by omega
            rw [e1] at h5
            have h6 := key _ h3 h4 h5
            have h7 := sq_root hp h3 h4
            rw [h6] at h7
            apply hy
            rcases h7 with h7 | h7
            · rw [h7]; exact h6
            · rw [h7, ← h6]
              exact Cg.fmod_eq ⟨p - 2 * q.2, by grind⟩
theorem lawPts_all {p a b : Int} (hp : PrimeL p) (hne : lawPts p a b ≠ []) : (∀ q, q ∈ lawPts p a b ↔ OnC p a b p.toNat q) ∧ (lawPts p a b).Nodup ∧ (lawPts p a b).getD 0 (0, 0) = (0, 0) ∧ ∀ x < p.toNat, ((x : Int) ^ 3 + a * x + b).fmod p ≠ 0 := by
  have hb := prime_bd hp
  unfold lawPts at hne ⊢
  cases h : ptsF p a b p.toNat with
  | none => rw [h] at hne; exact absurd rfl hne
  | some l =>
    rw [Option.getD_some]
    obtain ⟨h1, h2⟩ := ptsF_mem hp (by omega) h
    exact ⟨h1, h2, ptsF_head h, ptsF_noroot h⟩
end Mine
-- part Q5
namespace Mine
def pairs (d1 d2 : Nat) : List (Nat × Nat) := (List.range d1).flatMap fun u => (List.range d2).map fun v => (u, v)
theorem pairs_mem {d1 d2 : Nat} {w : Nat × Nat} : w ∈ pairs d1 d2 ↔ w.1 < d1 ∧ w.2 < d2 := by
  unfold pairs
  rw [List.mem_flatMap]
  constructor
  · rintro ⟨u, hu, h⟩
    obtain ⟨v, hv, rfl⟩ := List.mem_map.mp h
    exact ⟨List.mem_range.mp hu, List.mem_range.mp hv⟩
  · rintro ⟨h1, h2⟩
    exact ⟨w.1, List.mem_range.mpr h1, List.mem_map.mpr ⟨w.2, List.mem_range.mpr h2, rfl⟩⟩
theorem pairs_len {d1 d2 : Nat} : (pairs d1 d2).length = d1 * d2 := by
  unfold pairs
  induction d1 with
  | zero => simp
  | succ d ih => rw [List.range_succ, List.flatMap_append, List.length_append, ih, Nat.succ_mul]; simp
theorem pairs_nodup {d1 d2 : Nat} : (pairs d1 d2).Nodup := by
  unfold pairs
  induction d1 with
  | zero => exact List.nodup_nil
  | succ d ih =>
    rw [List.range_succ, List.flatMap_append]
    refine List.nodup_append.mpr ⟨ih, ?_, ?_⟩
    · simp only [List.flatMap_cons, List.flatMap_nil, List.append_nil]
      refine List.Pairwise.map _ ?_ List.nodup_range
      intro x y h e
      exact h (Prod.mk.inj e).2
    · intro x hx y hy e
      subst e
      have h1 := (pairs_mem (d1 := d) (d2 := d2)).mp hx
      simp only [List.flatMap_cons, List.flatMap_nil, List.append_nil] at hy
      obtain ⟨v, _, e⟩ := List.mem_map.mp hy
      rw [← e] at h1
      exact Nat.lt_irrefl _ h1.1
/-- how often n times a pair comes to a place -/
def cntF (d1 d2 n v1 v2 : Nat) : Nat := (pairs d1 d2).countP fun w => decide ((n * w.1) % d1 = (n * v1) % d1) && decide ((n * w.2) % d2 = (n * v2) % d2)
def CntOk (p : Int) (d1 d2 : Nat) : Prop := ∀ n : Nat, 2 ≤ n → n < 10 → ∃ c : Nat, 0 < c ∧ (((n : Int) * (Int.gcd (n : Int) (p - 1) : Int)).fmod (c : Int) = 0) ∧ ∀ v1 v2, v1 < d1 → v2 < d2 → cntF d1 d2 n v1 v2 = c
section
variable {p t A B a b : Int} {d1 d2 : Nat} {G : Nat → Nat → Int × Int}
theorem Gp.at (g : Gp p A B d1 d2 G) (u v : Nat) : ∃ w ∈ pairs d1 d2, G w.1 w.2 = G u v :=
  ⟨(u % d1, v % d2), pairs_mem.mpr ⟨Nat.mod_lt _ g.pos1, Nat.mod_lt _ g.pos2⟩, g.per u v⟩
theorem Gp.toC (g : Gp p A B d1 d2 G) (hp : PrimeL p) (ht : Un p t) (hA : Cg p a (t ^ 4 * A)) (hB : Cg p b (t ^ 6 * B)) (u v : Nat) : OnC p a b p.toNat (phi p t (G u v)) := by
  have hb := prime_bd hp
  by_cases h0 : (G u v).2 = 0
  · have e : G u v = (0, 0) := Prod.ext (g.z _ _ h0) h0
    rw [e, phi_0 hp]
    exact .inl rfl
  · obtain ⟨r1, r2⟩ := g.rs u v
    have ho := g.on u v h0
    obtain ⟨s1, s2⟩ := phi_rs (p := p) (t := t) (q := G u v) hp
    have hy : (phi p t (G u v)).2 ≠ 0 := un_fm hp ((ht.pow 3).mul (Un.ne hp r2 h0))
    refine .inr ⟨s1.1, by have := s1.2; omega, by have := s2.1; omega, s2.2, ?_⟩
    have c1 : Cg p (phi p t (G u v)).1 (t ^ 2 * (G u v).1) := Cg.fm
    have c2 : Cg p (phi p t (G u v)).2 (t ^ 3 * (G u v).2) := Cg.fm
    generalize (phi p t (G u v)).1 = x' at c1 ⊢
    generalize (phi p t (G u v)).2 = y' at c2 ⊢
    generalize (G u v).1 = x at c1 ho
    generalize (G u v).2 = y at c2 ho
    have e1 : Cg p (y' ^ 2) (t ^ 6 * y ^ 2) := (c2.pow 2).to (by grind)
    have e2 : Cg p (x' ^ 3 + a * x' + b) (t ^ 6 * (x ^ 3 + A * x + B)) := (((c1.pow 3).add (hA.mul c1)).add hB).to (by grind)
    exact e1.trans (((Cg.refl _).mul ho).trans e2.symm)
theorem Gp.ofC (g : Gp p A B d1 d2 G) (hp : PrimeL p) (ht : Un p t) (hA : Cg p a (t ^ 4 * A)) (hB : Cg p b (t ^ 6 * B)) {q : Int × Int} (h : OnC p a b p.toNat q) : ∃ u v, phi p t (G u v) = q := by
  have hb := prime_bd hp
  rcases h with rfl | ⟨h1, h2, h3, h4, h5⟩
  · exact ⟨0, 0, by rw [g.zero, phi_0 hp]⟩
  · obtain ⟨x', y'⟩ := q
    dsimp only at h1 h2 h3 h4 h5
    obtain ⟨i, hi⟩ := ht
    have ui : Un p i := ⟨t, ((Cg.refl _).to (by grind : i * t = t * i)).trans hi⟩
    have hA2 : Cg p (i ^ 4 * a) A := (((Cg.refl _).mul hA).to (by grind : i ^ 4 * (t ^ 4 * A) = (t * i) ^ 4 * A)).trans (((hi.pow 4).mul (.refl A)).to (by grind))
    have hB2 : Cg p (i ^ 6 * b) B := (((Cg.refl _).mul hB).to (by grind : i ^ 6 * (t ^ 6 * B) = (t * i) ^ 6 * B)).trans (((hi.pow 6).mul (.refl B)).to (by grind))
    have c1 : Cg p ((i ^ 2 * x').fmod p) (i ^ 2 * x') := Cg.fm
    have c2 : Cg p ((i ^ 3 * y').fmod p) (i ^ 3 * y') := Cg.fm
    have s1 := rs_fmod (i ^ 2 * x') (show 0 < p by omega)
    have s2 := rs_fmod (i ^ 3 * y') (show 0 < p by omega)
    have hy : (i ^ 3 * y').fmod p ≠ 0 := un_fm hp ((ui.pow 3).mul (Un.of hp h3 h4))
    generalize (i ^ 2 * x').fmod p = x at c1 s1
    generalize (i ^ 3 * y').fmod p = y at c2 s2 hy
    have e1 : Cg p (y ^ 2) (i ^ 6 * y' ^ 2) := (c2.pow 2).to (by grind)
    have e2 : Cg p (x ^ 3 + A * x + B) (i ^ 6 * (x' ^ 3 + a * x' + b)) := (((c1.pow 3).add (hA2.symm.mul c1)).add hB2.symm).to (by grind)
    obtain ⟨u, v, e⟩ := g.mem x y s1.1 s1.2 (by have := s2.1; omega) s2.2 (e1.trans (((Cg.refl _).mul h5).trans e2.symm))
    refine ⟨u, v, ?_⟩
    rw [e]
    have f1 : Cg p (t ^ 2 * x) x' := (((Cg.refl _).mul c1).to (by grind : t ^ 2 * (i ^ 2 * x') = (t * i) ^ 2 * x')).trans (((hi.pow 2).mul (.refl x')).to (by grind))
    have f2 : Cg p (t ^ 3 * y) y' := (((Cg.refl _).mul c2).to (by grind : t ^ 3 * (i ^ 3 * y') = (t * i) ^ 3 * y')).trans (((hi.pow 3).mul (.refl y')).to (by grind))
    refine Prod.ext ?_ ?_
    · exact (Cg.fm.trans f1).eq (rs_fmod _ (by omega)) ⟨h1, by omega⟩
    · exact (Cg.fm.trans f2).eq (rs_fmod _ (by omega)) ⟨by omega, h4⟩
theorem Gp.eq_iff (g : Gp p A B d1 d2 G) (ht : Un p t) (u1 u2 v1 v2 : Nat) : phi p t (G u1 u2) = phi p t (G v1 v2) ↔ u1 % d1 = v1 % d1 ∧ u2 % d2 = v2 % d2 := by
  constructor
  · intro h
    have h1 := phi_inj ht (g.rs _ _).1 (g.rs _ _).2 (g.rs _ _).1 (g.rs _ _).2 h
    rw [← g.per u1 u2, ← g.per v1 v2] at h1
    exact g.inj _ _ _ _ (Nat.mod_lt _ g.pos1) (Nat.mod_lt _ g.pos2) (Nat.mod_lt _ g.pos1) (Nat.mod_lt _ g.pos2) h1
  · rintro ⟨h1, h2⟩
    rw [← g.per u1 u2, h1, h2, g.per v1 v2]
theorem Gp.perm (g : Gp p A B d1 d2 G) (hp : PrimeL p) (ht : Un p t) (hA : Cg p a (t ^ 4 * A)) (hB : Cg p b (t ^ 6 * B)) {ps : List (Int × Int)} (hm : ∀ q, q ∈ ps ↔ OnC p a b p.toNat q) (hn : ps.Nodup) : ps.Perm ((pairs d1 d2).map fun w => phi p t (G w.1 w.2)) := by
  refine (List.perm_ext_iff_of_nodup hn ?_).mpr fun q => ?_
  · refine List.pairwise_map.mpr (pairs_nodup.imp_of_mem ?_)
    intro x y hx hy hne e
    have h1 := pairs_mem.mp hx
    have h2 := pairs_mem.mp hy
    have h3 := (g.eq_iff ht _ _ _ _).mp e
    rw [Nat.mod_eq_of_lt h1.1, Nat.mod_eq_of_lt h1.2, Nat.mod_eq_of_lt h2.1, Nat.mod_eq_of_lt h2.2] at h3
    exact hne (Prod.ext h3.1 h3.2)
  · rw [hm, List.mem_map]
    constructor
    · intro h
      obtain ⟨u, v, e⟩ := g.ofC hp ht hA hB h
      obtain ⟨w, hw, e2⟩ := g.at u v
      exact ⟨w, hw, by rw [e2, e]⟩
    · rintro ⟨w, _, rfl⟩
      exact g.toC hp ht hA hB _ _
theorem range_map_getD {α β : Type} (f : α → β) (d : α) : ∀ (l : List α), (List.range l.length).map (fun k => f (l.getD k d)) = l.map f := by
  intro l
  refine List.ext_getElem (by simp) fun i h1 h2 => ?_
  have h3 : i < l.length := by simpa using h2
  simp [h3]
theorem plain_of (g : Gp p A B d1 d2 G) (hp : PrimeL p) (ht : Un p t) (hA : Cg p a (t ^ 4 * A)) (hB : Cg p b (t ^ 6 * B)) (hC : CntOk p d1 d2) (hne : lawPts p a b ≠ []) {n c4 NN : Int} (n0 : 2 ≤ n) (n1 : n < 10) (hN : NN = ((lawPts p a b).length : Int)) :
    3 ≤ (lawPts p a b).length ∧ PlainF p NN a n c4 (lawPts p a b) := by
  obtain ⟨hm, hnd, hh, _⟩ := lawPts_all hp hne
  have hP := g.perm hp ht hA hB hm hnd
  generalize lawPts p a b = ps at hm hnd hh hP hN
  have hlen : ps.length = d1 * d2 := by rw [hP.length_eq, List.length_map, pairs_len]
  have h3 := g.three
  rw [hlen] at hN
  have at_ : ∀ k < ps.length, ∃ u v, ps.getD k (0, 0) = phi p t (G u v) := by
    intro k hk
    have : ps.getD k (0, 0) ∈ ps := by
      rw [List.getD_eq_getElem?_getD, List.getElem?_eq_getElem hk, Option.getD_some]
      exact List.getElem_mem hk
    obtain ⟨u, v, e⟩ := g.ofC hp ht hA hB ((hm _).mp this)
    exact ⟨u, v, e.symm⟩
  have hin : ∀ u v, phi p t (G u v) ∈ ps := fun u v => (hm _).mpr (g.toC hp ht hA hB u v)
  have himg : ∀ k < ps.length, imgF p NN a n c4 ps k = foldF p a (ps.getD k (0, 0)) n.toNat := by
    intro k hk
    obtain ⟨u, v, e⟩ := at_ k hk
    rw [g.imgP hp ht hA hN e hh (by omega) (by omega), e, g.foldP hp ht hA]
  have himgs : imgsF p NN a n c4 ps ps.length = ps.map fun q => foldF p a q n.toNat := by
    unfold imgsF
    rw [← range_map_getD (fun q => foldF p a q n.toNat) (0, 0)]
    exact List.map_congr_left fun k hk => himg k (List.mem_range.mp hk)
  have hims : ∀ k < ps.length, (ps.map fun q => foldF p a q n.toNat).getD k (0, 0) = foldF p a (ps.getD k (0, 0)) n.toNat := by
    intro k hk
    simp [hk]
  have hcount : ∀ v1 v2, (ps.map fun q => foldF p a q n.toNat).count (phi p t (G (n.toNat * v1) (n.toNat * v2))) = cntF d1 d2 n.toNat v1 v2 := by
    intro v1 v2
    rw [(hP.map _).count_eq, List.map_map, List.count_eq_countP, List.countP_map]
    unfold cntF
    refine List.countP_congr fun w hw => ?_
    simp only [Function.comp_apply, g.foldP hp ht hA, beq_iff_eq, g.eq_iff ht, Bool.and_eq_true, decide_eq_true_eq]
  obtain ⟨c, c0, c1, c2⟩ := hC n.toNat (by omega) (by omega)
  have en : ((n.toNat : Nat) : Int) = n := by omega
  rw [en] at c1
  have hcall : ∀ v1 v2, (ps.map fun q => foldF p a q n.toNat).count (phi p t (G (n.toNat * v1) (n.toNat * v2))) = c := by
    intro v1 v2
    rw [hcount, ← c2 (v1 % d1) (v2 % d2) (Nat.mod_lt _ g.pos1) (Nat.mod_lt _ g.pos2)]
    unfold cntF
    rw [Nat.mul_mod_mod, Nat.mul_mod_mod]
  have hc0 : (ps.map fun q => foldF p a q n.toNat).count (0, 0) = c := by
    have := hcall 0 0
    rw [Nat.mul_zero, g.zero, phi_0 hp] at this
    exact this
  refine ⟨by omega, ?_, ?_, ?_, ?_, ?_, ?_⟩
  · rw [himgs]
    intro q hq
    obtain ⟨r, hr, rfl⟩ := List.mem_map.mp hq
    obtain ⟨u, v, rfl⟩ := g.ofC hp ht hA hB ((hm _).mp hr)
    rw [g.foldP hp ht hA]
    exact hin _ _
  · rw [himgs]
    intro q hq
    obtain ⟨r, hr, rfl⟩ := List.mem_map.mp hq
    obtain ⟨u, v, rfl⟩ := g.ofC hp ht hA hB ((hm _).mp hr)
    rw [g.foldP hp ht hA, hcall, hc0]
  · rw [himgs, hc0]; exact c0
  · rw [himgs, hc0]; exact c1
  · intro k hk
    rw [himgs, hims k hk]
  · intro i hi j hj
    obtain ⟨u1, u2, e1⟩ := at_ i hi
    obtain ⟨v1, v2, e2⟩ := at_ j hj
    rw [himgs, hims i hi, hims j hj, e1, e2, g.addP hp ht hA]
    have h9 := hin (u1 + v1) (u2 + v2)
    refine ⟨h9, ?_⟩
    have hix : ps.idxOf (phi p t (G (u1 + v1) (u2 + v2))) < ps.length := List.idxOf_lt_length_iff.mpr h9
    rw [hims _ hix]
    have e9 : ps.getD (ps.idxOf (phi p t (G (u1 + v1) (u2 + v2)))) (0, 0) = phi p t (G (u1 + v1) (u2 + v2)) := by
      rw [List.getD_eq_getElem?_getD, List.getElem?_eq_getElem hix, Option.getD_some]
      exact List.getElem_idxOf hix
    rw [e9, g.foldP hp ht hA, g.foldP hp ht hA, g.foldP hp ht hA, g.addP hp ht hA, Nat.mul_add, Nat.mul_add]
end
end Mine
-- part Q6
namespace Mine
section
variable {p A x1 y1 x2 y2 x3 y3 : Int}
theorem uniq (hp : PrimeL p) {N : Int × Int × Int} {H : Int} (hN : Rs p N.2.2) (hH : Un p H) (c3 : Cg p N.2.2 H) (c1 : Cg p N.1 (H ^ 2 * x3)) (c2 : Cg p N.2.1 (H ^ 3 * y3)) (r1 : Rs p x3) (r2 : Rs p y3) : fromF p N = (x3, y3) := by
  have hb := prime_bd hp
  have uz : Un p N.2.2 := hH.cg c3
  have nz : N.2.2 ≠ 0 := fun e => uz.not0 hp ((Cg.refl _).to e)
  obtain ⟨b1, b2⟩ := from_back hp hN nz
  have g1 : Cg p (N.2.2 ^ 2 * (fromF p N).1) (N.2.2 ^ 2 * x3) := b1.symm.trans (c1.trans ((c3.symm.pow 2).mul (.refl _)))
  have g2 : Cg p (N.2.2 ^ 3 * (fromF p N).2) (N.2.2 ^ 3 * y3) := b2.symm.trans (c2.trans ((c3.symm.pow 3).mul (.refl _)))
  obtain ⟨h1, h2⟩ := fromF_rs (P := p) (p := N) (by omega)
  exact Prod.ext (((uz.pow 2).cancel g1).eq h1 r1) (((uz.pow 3).cancel g2).eq h2 r2)
theorem un_sub (hp : PrimeL p) (h1 : Rs p x1) (h2 : Rs p x2) (h : x1 ≠ x2) : Un p (x2 - x1) := by
  have hb := prime_bd hp
  have u := Un.ne hp (rs_fmod (x2 - x1) (show 0 < p by omega)) (fun e => h (by
    have h9 : Cg p (x2 - x1) 0 := Cg.fm.symm.to e
    have h8 : Cg p x2 x1 := ((Cg.refl x2).to (by grind : x2 = (x2 - x1) + x1)).trans ((h9.add (.refl x1)).to (by grind))
    exact (h8.eq h2 h1).symm))
  exact u.cg Cg.fm.symm
theorem add_gen_is (hp : PrimeL p) (a1 : Rs p x1) (b1 : Rs p y1) (a2 : Rs p x2) (b2 : Rs p y2) (a3 : Rs p x3) (b3 : Rs p y3) (h0 : y1 ≠ 0) (g0 : y2 ≠ 0) (hU : x1 ≠ x2)
    (e1 : Cg p ((x3 + x1 + x2) * (x2 - x1) * (x2 - x1)) ((y2 - y1) * (y2 - y1))) (e2 : Cg p ((y3 + y1) * (x2 - x1)) ((y2 - y1) * (x1 - x3))) : addF p A (x1, y1) (x2, y2) = (x3, y3) := by
  have hb := prime_bd hp
  have hp0 : 0 < p := by omega
  have eU1 : (x1 * 1 ^ 2).fmod p = x1 := by rw [Int.one_pow, Int.mul_one, rs_self a1]
  have eU2 : (x2 * 1 ^ 2).fmod p = x2 := by rw [Int.one_pow, Int.mul_one, rs_self a2]
  have eS1 : (y1 * 1 ^ 3).fmod p = y1 := by rw [Int.one_pow, Int.mul_one, rs_self b1]
  have eS2 : (y2 * 1 ^ 3).fmod p = y2 := by rw [Int.one_pow, Int.mul_one, rs_self b2]
  unfold addF jaddF
  dsimp only
  rw [if_neg h0, if_neg g0, eU1, eU2, eS1, eS2, if_neg hU]
  have uH := un_sub hp a1 a2 hU
  generalize hH : x2 - x1 = H at e1 e2 uH ⊢
  generalize y2 - y1 = R at e1 e2 ⊢
  have f1 : Cg p ((H * H).fmod p) (H ^ 2) := Cg.fm.to (by grind)
  generalize (H * H).fmod p = H2 at f1 ⊢
  have f2 : Cg p ((H * H2).fmod p) (H ^ 3) := (Cg.fm.trans ((Cg.refl H).mul f1)).to (by grind)
  generalize (H * H2).fmod p = H3 at f2 ⊢
  have f3 : Cg p ((x1 * H2).fmod p) (x1 * H ^ 2) := Cg.fm.trans ((Cg.refl x1).mul f1)
  generalize (x1 * H2).fmod p = V at f3 ⊢
  have f4 : Cg p ((R ^ 2 - H3 - 2 * V).fmod p) (H ^ 2 * x3) := by
    refine (Cg.fm.trans ((((Cg.refl _).to (by grind : R ^ 2 = R * R)).trans e1.symm |>.sub f2).sub ((Cg.refl 2).mul f3))).to ?_
    have : x2 = H + x1 := by omega
    rw [this]
    grind
  have r4 := rs_fmod (R ^ 2 - H3 - 2 * V) hp0
  generalize (R ^ 2 - H3 - 2 * V).fmod p = X at f4 r4 ⊢
  have f5 : Cg p ((R * (V - X) - y1 * H3).fmod p) (H ^ 3 * y3) := by
    have e3 : Cg p (R * (V - X)) (H ^ 2 * ((y3 + y1) * H)) := (((Cg.refl R).mul (f3.sub f4)).to (by grind : R * (x1 * H ^ 2 - H ^ 2 * x3) = H ^ 2 * (R * (x1 - x3)))).trans ((Cg.refl _).mul e2.symm)
    exact (Cg.fm.trans (e3.sub ((Cg.refl y1).mul f2))).to (by grind)
  exact uniq hp (rs_fmod _ hp0) uH (Cg.fm.to (by grind)) f4 f5 a3 b3
theorem add_dbl_is (hp : PrimeL p) (a1 : Rs p x1) (b1 : Rs p y1) (a3 : Rs p x3) (b3 : Rs p y3) (h0 : y1 ≠ 0)
    (e1 : Cg p ((x3 + x1 + x1) * (2 * y1) * (2 * y1)) ((3 * x1 * x1 + A) * (3 * x1 * x1 + A))) (e2 : Cg p ((y3 + y1) * (2 * y1)) ((3 * x1 * x1 + A) * (x1 - x3))) : addF p A (x1, y1) (x1, y1) = (x3, y3) := by
  have hb := prime_bd hp
  have hp0 : 0 < p := by omega
  rw [add_dbl (q := (x1, y1)) h0]
  unfold jdblF
  dsimp only
  rw [if_neg h0]
  have uH : Un p (2 * y1) := (un2 hp).mul (Un.ne hp b1 h0)
  have f1 : Cg p ((y1 ^ 2).fmod p) (y1 ^ 2) := Cg.fm
  generalize (y1 ^ 2).fmod p = s at f1 ⊢
  have f2 : Cg p ((4 * x1 * s).fmod p) (x1 * (2 * y1) ^ 2) := (Cg.fm.trans ((Cg.refl (4 * x1)).mul f1)).to (by grind)
  generalize (4 * x1 * s).fmod p = S at f2 ⊢
  have f3 : Cg p ((3 * x1 ^ 2 + A * 1 ^ 4).fmod p) (3 * x1 * x1 + A) := Cg.fm.to (by grind)
  generalize (3 * x1 ^ 2 + A * 1 ^ 4).fmod p = M at f3 ⊢
  generalize 3 * x1 * x1 + A = R at e1 e2 f3
  have f4 : Cg p ((M ^ 2 - 2 * S).fmod p) ((2 * y1) ^ 2 * x3) := by
    refine (Cg.fm.trans ((((f3.pow 2).to (by grind : R ^ 2 = R * R)).trans e1.symm).sub ((Cg.refl 2).mul f2))).to ?_
    grind
  generalize (M ^ 2 - 2 * S).fmod p = X at f4 ⊢
  have f5 : Cg p ((M * (S - X) - 8 * s ^ 2).fmod p) ((2 * y1) ^ 3 * y3) := by
    have e3 : Cg p (M * (S - X)) ((2 * y1) ^ 2 * ((y3 + y1) * (2 * y1))) := ((f3.mul (f2.sub f4)).to (by grind : R * (x1 * (2 * y1) ^ 2 - (2 * y1) ^ 2 * x3) = (2 * y1) ^ 2 * (R * (x1 - x3)))).trans ((Cg.refl _).mul e2.symm)
    exact (Cg.fm.trans (e3.sub ((Cg.refl 8).mul (f1.pow 2)))).to (by grind)
  exact uniq hp (rs_fmod _ hp0) uH (Cg.fm.to (by grind)) f4 f5 a3 b3
end
def chkL (p x1 y1 x2 x3 y3 H R : Nat) : Bool := Nat.beq (((x3 + x1 + x2) * H * H) % p) ((R * R) % p) && Nat.beq (((y3 + y1) * H) % p) ((R * (x1 + p - x3)) % p)
def chkP (p a x1 y1 x2 y2 x3 y3 : Nat) : Bool :=
  bif Nat.beq y1 0 then Nat.beq x3 x2 && Nat.beq y3 y2 else
  bif Nat.beq y2 0 then Nat.beq x3 x1 && Nat.beq y3 y1 else
  bif Nat.beq x1 x2 then
    bif Nat.beq y1 y2 then chkL p x1 y1 x2 x3 y3 (2 * y1) (3 * x1 * x1 + a) else Nat.beq x3 0 && Nat.beq y3 0
  else chkL p x1 y1 x2 x3 y3 (x2 + p - x1) (y2 + p - y1)
theorem cg_mod {p m n : Nat} (h : m % p = n % p) : Cg (p : Int) (m : Int) (n : Int) := by
  refine ⟨((m / p : Nat) : Int) - ((n / p : Nat) : Int), ?_⟩
  have h1 := Nat.div_add_mod m p
  have h2 := Nat.div_add_mod n p
  have h3 : (m : Int) = (p : Int) * ((m / p : Nat) : Int) + ((m % p : Nat) : Int) := by
    rw [← Int.natCast_mul, ← Int.natCast_add, h1]
  have h4 : (n : Int) = (p : Int) * ((n / p : Nat) : Int) + ((n % p : Nat) : Int) := by
    rw [← Int.natCast_mul, ← Int.natCast_add, h2]
  rw [h] at h3
  generalize ((m / p : Nat) : Int) = a at h3 ⊢
  generalize ((n / p : Nat) : Int) = b at h4 ⊢
  generalize ((n % p : Nat) : Int) = c at h3 h4
  generalize (m : Int) = M at h3 ⊢
  generalize (n : Int) = N at h4 ⊢
  grind
theorem chkL_ok {p x1 y1 x2 x3 y3 H R : Nat} (hx : x3 < p) (h : chkL p x1 y1 x2 x3 y3 H R = true) :
    Cg (p : Int) (((x3 : Int) + x1 + x2) * H * H) ((R : Int) * R) ∧ Cg (p : Int) (((y3 : Int) + y1) * H) ((R : Int) * ((x1 : Int) - x3)) := by
  unfold chkL at h
  rw [Bool.and_eq_true] at h
  have h1 := cg_mod (Nat.eq_of_beq_eq_true h.1)
  have h2 := cg_mod (Nat.eq_of_beq_eq_true h.2)
  have e : ((x1 + p - x3 : Nat) : Int) = (x1 : Int) + p - x3 := by omega
  simp only [Int.natCast_mul, Int.natCast_add] at h1 h2
  rw [e] at h2
  exact ⟨h1, h2.trans ⟨R, by grind⟩⟩
theorem cast_rs {p x : Nat} (h : x < p) : Rs (p : Int) (x : Int) := ⟨by omega, by omega⟩
theorem chkP_ok {p a x1 y1 x2 y2 x3 y3 : Nat} (hp : PrimeL (p : Int)) (a1 : x1 < p) (b1 : y1 < p) (a2 : x2 < p) (b2 : y2 < p) (a3 : x3 < p) (b3 : y3 < p) (h : chkP p a x1 y1 x2 y2 x3 y3 = true) :
    addF (p : Int) (a : Int) ((x1 : Int), (y1 : Int)) ((x2 : Int), (y2 : Int)) = ((x3 : Int), (y3 : Int)) := by
  unfold chkP at h
  cases c1 : Nat.beq y1 0 with
  | true =>
    rw [c1, cond_true, Bool.and_eq_true] at h
    rw [add_0l hp (by have := Nat.eq_of_beq_eq_true c1; subst this; rfl) (cast_rs a2) (cast_rs b2), Nat.eq_of_beq_eq_true h.1, Nat.eq_of_beq_eq_true h.2]
  | false =>
    have n1 : (y1 : Int) ≠ 0 := fun e => Nat.ne_of_beq_eq_false c1 (by omega)
    rw [c1, cond_false] at h
    cases c2 : Nat.beq y2 0 with
    | true =>
      rw [c2, cond_true, Bool.and_eq_true] at h
      rw [add_0r hp n1 (by have := Nat.eq_of_beq_eq_true c2; subst this; rfl) (cast_rs a1) (cast_rs b1), Nat.eq_of_beq_eq_true h.1, Nat.eq_of_beq_eq_true h.2]
    | false =>
      have n2 : (y2 : Int) ≠ 0 := fun e => Nat.ne_of_beq_eq_false c2 (by omega)
      rw [c2, cond_false] at h
      cases c3 : Nat.beq x1 x2 with
      | true =>
        have e3 := Nat.eq_of_beq_eq_true c3
        subst e3
        rw [c3, cond_true] at h
        cases c4 : Nat.beq y1 y2 with
        | true =>
          have e4 := Nat.eq_of_beq_eq_true c4
          subst e4
          rw [c4, cond_true] at h
          obtain ⟨h1, h2⟩ := chkL_ok a3 h
          simp only [Int.natCast_mul, Int.natCast_add] at h1 h2
          exact add_dbl_is hp (cast_rs a1) (cast_rs b1) (cast_rs a3) (cast_rs b3) n1 h1 h2
        | false =>
          have n4 : (y1 : Int) ≠ (y2 : Int) := fun e => Nat.ne_of_beq_eq_false c4 (by omega)
          rw [c4, cond_false, Bool.and_eq_true] at h
          rw [Nat.eq_of_beq_eq_true h.1, Nat.eq_of_beq_eq_true h.2]
          unfold addF jaddF
          dsimp only
          have eS1 : ((y1 : Int) * 1 ^ 3).fmod (p : Int) = (y1 : Int) := by rw [Int.one_pow, Int.mul_one, rs_self (cast_rs b1)]
          have eS2 : ((y2 : Int) * 1 ^ 3).fmod (p : Int) = (y2 : Int) := by rw [Int.one_pow, Int.mul_one, rs_self (cast_rs b2)]
          rw [if_neg n1, if_neg n2, eS1, eS2, if_pos rfl, if_pos n4]
          exact from_1 (q := (0, 0)) hp (rs0 hp) (rs0 hp)
      | false =>
        have n3 : (x1 : Int) ≠ (x2 : Int) := fun e => Nat.ne_of_beq_eq_false c3 (by omega)
        rw [c3, cond_false] at h
        obtain ⟨h1, h2⟩ := chkL_ok a3 h
        have eH : ((x2 + p - x1 : Nat) : Int) = (x2 : Int) + p - x1 := by omega
        have eR : ((y2 + p - y1 : Nat) : Int) = (y2 : Int) + p - y1 := by omega
        rw [eH, eR] at h1 h2
        have cH : Cg (p : Int) ((x2 : Int) + p - x1) (x2 - x1) := ⟨1, by grind⟩
        have cR : Cg (p : Int) ((y2 : Int) + p - y1) (y2 - y1) := ⟨1, by grind⟩
        refine add_gen_is hp (cast_rs a1) (cast_rs b1) (cast_rs a2) (cast_rs b2) (cast_rs a3) (cast_rs b3) n1 n2 n3 ?_ ?_
        · exact (((Cg.refl _).mul cH.symm).mul cH.symm).trans (h1.trans (cR.mul cR))
        · exact ((Cg.refl _).mul cH.symm).trans (h2.trans (cR.mul (.refl _)))
/-- the code of a point: the table t holds ten bits for each -/
def cod (t d1 d2 u v : Nat) : Nat := (t >>> (10 * (u % d1 + d1 * (v % d2)))) % 1024
def gP (t d1 d2 u v : Nat) : Int × Int := (((cod t d1 d2 u v / 32 : Nat) : Int), ((cod t d1 d2 u v % 32 : Nat) : Int))
theorem cod_per (t d1 d2 u v : Nat) : cod t d1 d2 (u % d1) (v % d2) = cod t d1 d2 u v := by
  unfold cod
  rw [Nat.mod_mod, Nat.mod_mod]
def chkC (p a c1 c2 c3 : Nat) : Bool := chkP p a (c1 / 32) (c1 % 32) (c2 / 32) (c2 % 32) (c3 / 32) (c3 % 32)
def chkTab (p a t d1 d2 : Nat) : Bool := (pairs d1 d2).all fun w => (pairs d1 d2).all fun z => chkC p a (cod t d1 d2 w.1 w.2) (cod t d1 d2 z.1 z.2) (cod t d1 d2 (w.1 + z.1) (w.2 + z.2))
def cub (p a b x : Nat) : Nat := (x * x * x + a * x + b) % p
def chkPt (p a b x y : Nat) : Bool := Nat.ble (x + 1) p && Nat.ble (y + 1) p && (bif Nat.beq y 0 then Nat.beq x 0 else Nat.beq ((y * y) % p) (cub p a b x))
def chkE (p a b t d1 d2 : Nat) : Bool := (pairs d1 d2).all fun w => chkPt p a b (cod t d1 d2 w.1 w.2 / 32) (cod t d1 d2 w.1 w.2 % 32)
def chkI (t d1 d2 : Nat) : Bool := (pairs d1 d2).all fun w => (pairs d1 d2).all fun z => !(Nat.beq (cod t d1 d2 w.1 w.2) (cod t d1 d2 z.1 z.2)) || (Nat.beq w.1 z.1 && Nat.beq w.2 z.2)
def chkM (p a b t d1 d2 : Nat) : Bool := (List.range p).all fun x => (List.range p).all fun y => Nat.beq y 0 || !(Nat.beq ((y * y) % p) (cub p a b x)) || (pairs d1 d2).any fun w => Nat.beq (cod t d1 d2 w.1 w.2) (32 * x + y)
def chkRep (p a b d1 d2 t : Nat) : Bool := Nat.ble 1 d1 && Nat.ble 1 d2 && Nat.ble 3 (d1 * d2) && Nat.beq (cod t d1 d2 0 0) 0 && chkE p a b t d1 d2 && chkI t d1 d2 && chkM p a b t d1 d2 && chkTab p a t d1 d2
theorem gp_of {p a b d1 d2 t : Nat} (hp : PrimeL (p : Int)) (h : chkRep p a b d1 d2 t = true) : Gp (p : Int) (a : Int) (b : Int) d1 d2 (gP t d1 d2) := by
  unfold chkRep at h
  simp only [Bool.and_eq_true] at h
  obtain ⟨⟨⟨⟨⟨⟨⟨h1, h2⟩, h3⟩, h4⟩, h5⟩, h6⟩, h7⟩, h8⟩ := h
  have h1 := Nat.le_of_ble_eq_true h1
  have h2 := Nat.le_of_ble_eq_true h2
  have h3 := Nat.le_of_ble_eq_true h3
  have h4 := Nat.eq_of_beq_eq_true h4
  have at_ : ∀ u v, ∃ w ∈ pairs d1 d2, cod t d1 d2 w.1 w.2 = cod t d1 d2 u v ∧ w.1 = u % d1 ∧ w.2 = v % d2 := fun u v =>
    ⟨(u % d1, v % d2), pairs_mem.mpr ⟨Nat.mod_lt _ h1, Nat.mod_lt _ h2⟩, cod_per t d1 d2 u v, rfl, rfl⟩
  have hE : ∀ u v, chkPt p a b (cod t d1 d2 u v / 32) (cod t d1 d2 u v % 32) = true := by
    intro u v
    obtain ⟨w, hw, e, _⟩ := at_ u v
    have := List.all_eq_true.mp h5 w hw
    rw [e] at this
    exact this
  have hX : ∀ u v, cod t d1 d2 u v / 32 < p ∧ cod t d1 d2 u v % 32 < p := by
    intro u v
    have h := hE u v
    unfold chkPt at h
    simp only [Bool.and_eq_true] at h
    exact ⟨Nat.le_of_ble_eq_true h.1.1, Nat.le_of_ble_eq_true h.1.2⟩
  refine ⟨h1, h2, h3, ?_, ?_, ?_, ?_, ?_, ?_, ?_, ?_⟩
  · intro u v
    unfold gP
    rw [cod_per]
  · unfold gP
    rw [h4]
    rfl
  · intro u v
    exact ⟨cast_rs (hX u v).1, cast_rs (hX u v).2⟩
  · intro u v hz
    have hz' : cod t d1 d2 u v % 32 = 0 := by
      have : ((cod t d1 d2 u v % 32 : Nat) : Int) = 0 := hz
      omega
    have h := hE u v
    unfold chkPt at h
    simp only [Bool.and_eq_true] at h
    have h := h.2
    rw [hz', show Nat.beq 0 0 = true from rfl, cond_true] at h
    have := Nat.eq_of_beq_eq_true h
    show ((cod t d1 d2 u v / 32 : Nat) : Int) = 0
    rw [this]; rfl
  · intro u1 u2 v1 v2
    obtain ⟨w, hw, e, f1, f2⟩ := at_ u1 u2
    obtain ⟨z, hz, g, g1, g2⟩ := at_ v1 v2
    have h := List.all_eq_true.mp (List.all_eq_true.mp h8 w hw) z hz
    have es : cod t d1 d2 (w.1 + z.1) (w.2 + z.2) = cod t d1 d2 (u1 + v1) (u2 + v2) := by
      unfold cod
      rw [f1, f2, g1, g2, ← Nat.add_mod, ← Nat.add_mod]
    rw [e, g, es] at h
    exact chkP_ok hp (hX _ _).1 (hX _ _).2 (hX _ _).1 (hX _ _).2 (hX _ _).1 (hX _ _).2 h
  · intro u1 u2 v1 v2 l1 l2 l3 l4 he
    have h := List.all_eq_true.mp (List.all_eq_true.mp h6 (u1, u2) (pairs_mem.mpr ⟨l1, l2⟩)) (v1, v2) (pairs_mem.mpr ⟨l3, l4⟩)
    have ec : cod t d1 d2 u1 u2 = cod t d1 d2 v1 v2 := by
      have i1 : ((cod t d1 d2 u1 u2 / 32 : Nat) : Int) = ((cod t d1 d2 v1 v2 / 32 : Nat) : Int) := congrArg Prod.fst he
      have i2 : ((cod t d1 d2 u1 u2 % 32 : Nat) : Int) = ((cod t d1 d2 v1 v2 % 32 : Nat) : Int) := congrArg Prod.snd he
      omega
    dsimp only at h
    rw [ec, Nat.beq_refl, Bool.not_true, Bool.false_or, Bool.and_eq_true] at h
    exact ⟨Nat.eq_of_beq_eq_true h.1, Nat.eq_of_beq_eq_true h.2⟩
  · intro u v hz
    have h := hE u v
    unfold chkPt at h
    simp only [Bool.and_eq_true] at h
    have h := h.2
    have hn : Nat.beq (cod t d1 d2 u v % 32) 0 = false := by
      cases hc : Nat.beq (cod t d1 d2 u v % 32) 0 with
      | false => rfl
      | true =>
        exfalso
        apply hz
        show ((cod t d1 d2 u v % 32 : Nat) : Int) = 0
        rw [Nat.eq_of_beq_eq_true hc]; rfl
    rw [hn, cond_false] at h
    unfold cub at h
    have := cg_mod (Nat.eq_of_beq_eq_true h)
    simp only [Int.natCast_mul, Int.natCast_add] at this
    unfold gP
    dsimp only
    generalize ((cod t d1 d2 u v / 32 : Nat) : Int) = x at this ⊢
    generalize ((cod t d1 d2 u v % 32 : Nat) : Int) = y at this ⊢
    exact ((Cg.refl _).to (by grind : y ^ 2 = y * y)).trans (this.to (by grind))
  · intro x y x0 x1 y0 y1 hc
    have h := List.all_eq_true.mp (List.all_eq_true.mp h7 x.toNat (List.mem_range.mpr (by omega))) y.toNat (List.mem_range.mpr (by omega))
    have hb := prime_bd hp
    rw [Bool.or_eq_true, Bool.or_eq_true] at h
    rcases h with (h | h) | h
    · have := Nat.eq_of_beq_eq_true h
      omega
    · exfalso
      have ex : ((x.toNat : Nat) : Int) = x := by omega
      have ey : ((y.toNat : Nat) : Int) = y := by omega
      have hcc : Cg (p : Int) ((y.toNat * y.toNat : Nat) : Int) ((x.toNat * x.toNat * x.toNat + a * x.toNat + b : Nat) : Int) := by
        simp only [Int.natCast_mul, Int.natCast_add]
        rw [ex, ey]
        exact ((Cg.refl _).to (by grind : y * y = y ^ 2)).trans (hc.to (by grind))
      have hf := hcc.fmod_eq
      rw [Int.fmod_eq_emod_of_nonneg _ (by omega), Int.fmod_eq_emod_of_nonneg _ (by omega)] at hf
      have hf2 : (y.toNat * y.toNat) % p = (x.toNat * x.toNat * x.toNat + a * x.toNat + b) % p := by
        have h1 : (((y.toNat * y.toNat) % p : Nat) : Int) = (((x.toNat * x.toNat * x.toNat + a * x.toNat + b) % p : Nat) : Int) := by
          rw [Int.natCast_emod, Int.natCast_emod]
          exact hf
        omega
      unfold cub at h
      rw [hf2, Nat.beq_refl] at h
      cases h
    · obtain ⟨w, hw, e⟩ := List.any_eq_true.mp h
      have e := Nat.eq_of_beq_eq_true e
      refine ⟨w.1, w.2, ?_⟩
      unfold gP
      rw [e]
      refine Prod.ext ?_ ?_
      · dsimp only; omega
      · dsimp only; omega
end Mine
-- part Q7
namespace Mine
theorem countP_prod (P Q : Nat → Bool) (d1 d2 : Nat) : (pairs d1 d2).countP (fun w => P w.1 && Q w.2) = (List.range d1).countP P * (List.range d2).countP Q := by
  unfold pairs
  induction d1 with
  | zero => simp
  | succ d ih =>
    rw [List.range_succ, List.flatMap_append, List.countP_append, List.countP_append, ih, Nat.add_mul]
    congr 1
    simp only [List.flatMap_cons, List.flatMap_nil, List.append_nil, List.countP_map]
    cases h : P d with
    | true =>
      have e : ((fun w : Nat × Nat => P w.1 && Q w.2) ∘ fun v => (d, v)) = Q := by
        funext v
        simp [h]
      rw [e]
      simp [h]
    | false =>
      have e : ((fun w : Nat × Nat => P w.1 && Q w.2) ∘ fun v => (d, v)) = fun _ => false := by
        funext v
        simp [h]
      rw [e]
      simp [h]
def cnt1 (d n v : Nat) : Nat := (List.range d).countP fun u => Nat.beq ((n * u) % d) ((n * v) % d)
theorem cntF_is (d1 d2 n v1 v2 : Nat) : cntF d1 d2 n v1 v2 = cnt1 d1 n v1 * cnt1 d2 n v2 := by
  unfold cntF cnt1
  rw [← countP_prod]
  refine List.countP_congr fun w _ => ?_
  simp only [Bool.and_eq_true, decide_eq_true_eq, Nat.beq_eq]
theorem add_mod_iff {x y d : Nat} : (x + y) % d = y % d ↔ x % d = 0 := by
  constructor
  · intro h
    have := Nat.sub_mod_eq_zero_of_mod_eq h
    rwa [Nat.add_sub_cancel] at this
  · intro h
    have h1 := Nat.div_add_mod x d
    rw [h, Nat.add_zero] at h1
    rw [← h1, Nat.add_comm, Nat.add_mul_mod_self_left]
theorem shift_perm {d v : Nat} (hd : 0 < d) : ((List.range d).map fun u => (u + v) % d).Perm (List.range d) := by
  have inj : ∀ x y : Nat, x < d → y < d → x < y → (x + v) % d ≠ (y + v) % d := by
    intro x y hx hy hlt e
    have h1 := Nat.sub_mod_eq_zero_of_mod_eq e.symm
    rw [Nat.mod_eq_of_lt (by omega)] at h1
    omega
  refine (List.perm_ext_iff_of_nodup ?_ List.nodup_range).mpr fun a => ?_
  · refine List.pairwise_map.mpr (List.nodup_range.imp_of_mem ?_)
    intro x y hx hy hne
    have hx := List.mem_range.mp hx
    have hy := List.mem_range.mp hy
    rcases Nat.lt_or_gt_of_ne hne with h | h
    · exact inj x y hx hy h
    · exact (inj y x hy hx h).symm
  · rw [List.mem_map, List.mem_range]
    constructor
    · rintro ⟨u, _, rfl⟩
      exact Nat.mod_lt _ hd
    · intro ha
      refine ⟨(a + (d - v % d)) % d, List.mem_range.mpr (Nat.mod_lt _ hd), ?_⟩
      have h1 := Nat.div_add_mod v d
      have h2 := Nat.mod_lt v hd
      have h3 : a + (d - v % d) + v = a + d * (1 + v / d) := by
        rw [Nat.mul_add, Nat.mul_one]
        omega
      rw [Nat.mod_add_mod, h3, Nat.add_mul_mod_self_left, Nat.mod_eq_of_lt ha]
theorem cnt1_0 {d n v : Nat} (hd : 0 < d) : cnt1 d n v = cnt1 d n 0 := by
  unfold cnt1
  rw [← (shift_perm (v := v) hd).countP_eq, List.countP_map]
  refine List.countP_congr fun u _ => ?_
  simp only [Function.comp_apply, Nat.beq_eq, Nat.mul_mod_mod, Nat.mul_add, Nat.mul_zero, Nat.zero_mod]
  exact add_mod_iff
def chkOne (d : Nat) : Bool := [2, 3, 4, 5, 6, 7, 8, 9].all fun n => Nat.beq (cnt1 d n 0) (Nat.gcd n d)
theorem one_all : ([1, 3, 5, 7, 9, 11, 13, 15, 17, 19, 21, 23, 25, 27, 29, 31, 33, 35, 37, 39, 41, 43] : List Nat).all chkOne = true := by decide +kernel
def chkCnt (p d1 d2 : Nat) : Bool := Nat.beq (d1 % 2) 1 && Nat.ble d1 43 && Nat.beq (d2 % 2) 1 && Nat.ble d2 43 && [2, 3, 4, 5, 6, 7, 8, 9].all fun n => Nat.beq ((n * Nat.gcd n (p - 1)) % (Nat.gcd n d1 * Nat.gcd n d2)) 0
theorem one_at {d n v : Nat} (h1 : d % 2 = 1) (h2 : d ≤ 43) (n0 : 2 ≤ n) (n1 : n < 10) (hv : v < d) : cnt1 d n v = Nat.gcd n d := by
  have hd : d ∈ ([1, 3, 5, 7, 9, 11, 13, 15, 17, 19, 21, 23, 25, 27, 29, 31, 33, 35, 37, 39, 41, 43] : List Nat) := by
    simp only [List.mem_cons, List.not_mem_nil, or_false]
    omega
  have hn : n ∈ ([2, 3, 4, 5, 6, 7, 8, 9] : List Nat) := by
    simp only [List.mem_cons, List.not_mem_nil, or_false]
    omega
  have h := List.all_eq_true.mp one_all d hd
  unfold chkOne at h
  rw [cnt1_0 (by omega)]
  exact Nat.eq_of_beq_eq_true (List.all_eq_true.mp h n hn)
theorem cnt_of {p d1 d2 : Nat} (hp : PrimeL (p : Int)) (h : chkCnt p d1 d2 = true) : CntOk (p : Int) d1 d2 := by
  have hb := prime_bd hp
  unfold chkCnt at h
  simp only [Bool.and_eq_true] at h
  obtain ⟨⟨⟨⟨h1, h2⟩, h3⟩, h4⟩, h5⟩ := h
  have h1 := Nat.eq_of_beq_eq_true h1
  have h2 := Nat.le_of_ble_eq_true h2
  have h3 := Nat.eq_of_beq_eq_true h3
  have h4 := Nat.le_of_ble_eq_true h4
  intro n n0 n1
  have hn : n ∈ ([2, 3, 4, 5, 6, 7, 8, 9] : List Nat) := by
    simp only [List.mem_cons, List.not_mem_nil, or_false]
    omega
  have h6 := Nat.eq_of_beq_eq_true (List.all_eq_true.mp h5 n hn)
  refine ⟨Nat.gcd n d1 * Nat.gcd n d2, Nat.mul_pos (Nat.gcd_pos_of_pos_left _ (by omega)) (Nat.gcd_pos_of_pos_left _ (by omega)), ?_, fun v1 v2 l1 l2 => ?_⟩
  · have e : Int.gcd (n : Int) ((p : Int) - 1) = Nat.gcd n (p - 1) := by
      have : (p : Int) - 1 = ((p - 1 : Nat) : Int) := by omega
      rw [this]
      rfl
    rw [e, ← Int.natCast_mul, Int.fmod_eq_emod_of_nonneg _ (Int.natCast_nonneg _), ← Int.natCast_emod, h6]
    rfl
  · rw [cntF_is, one_at h1 h2 n0 n1 l1, one_at h3 h4 n0 n1 l2]
abbrev Rp := Nat × Nat × Nat × Nat × Nat
def chkR (p : Nat) (r : Rp) : Bool := chkCnt p r.2.2.1 r.2.2.2.1 && chkRep p r.1 r.2.1 r.2.2.1 r.2.2.2.1 r.2.2.2.2
def root (p a b : Nat) : Bool := (List.range p).any fun x => Nat.beq (cub p a b x) 0
def chkF (p a b : Nat) (rs : List Rp) : Bool := (List.range p).any fun t => Nat.ble 1 t && rs.any fun r => Nat.beq (32 * r.1 + r.2.1) (32 * ((t ^ 4 * a) % p) + (t ^ 6 * b) % p) && Nat.ble (r.2.1 + 1) 32
def chkAll (p : Nat) (rs : List Rp) : Bool := (List.range p).all fun a => (List.range p).all fun b => root p a b || chkF p a b rs
theorem plain_data {p : Nat} {rs : List Rp} (hp : PrimeL (p : Int)) (h1 : rs.all (chkR p) = true) (h2 : chkAll p rs = true) {a b n c4 NN : Int} (a0 : 0 ≤ a) (a1 : a < p) (b0 : 0 ≤ b) (b1 : b < p) (n0 : 2 ≤ n) (n1 : n < 10) (hne : lawPts (p : Int) a b ≠ []) (hN : NN = ((lawPts (p : Int) a b).length : Int)) :
    3 ≤ (lawPts (p : Int) a b).length ∧ PlainF (p : Int) NN a n c4 (lawPts (p : Int) a b) := by
  have hb := prime_bd hp
  obtain ⟨_, _, _, hr⟩ := lawPts_all hp hne
  have ea : ((a.toNat : Nat) : Int) = a := by omega
  have eb : ((b.toNat : Nat) : Int) = b := by omega
  have h := List.all_eq_true.mp (List.all_eq_true.mp h2 a.toNat (List.mem_range.mpr (by omega))) b.toNat (List.mem_range.mpr (by omega))
  rw [Bool.or_eq_true] at h
  rcases h with h | h
  · exfalso
    obtain ⟨x, hx, e⟩ := List.any_eq_true.mp h
    have e := Nat.eq_of_beq_eq_true e
    have hx := List.mem_range.mp hx
    apply hr x (by omega)
    have hc : ((x : Int) ^ 3 + a * x + b) = ((x * x * x + a.toNat * x + b.toNat : Nat) : Int) := by
      simp only [Int.natCast_mul, Int.natCast_add]
      rw [ea, eb]
      generalize (x : Int) = X
      grind
    rw [hc, Int.fmod_eq_emod_of_nonneg _ (by omega), ← Int.natCast_emod]
    unfold cub at e
    rw [e]
    rfl
  · obtain ⟨t, ht, h⟩ := List.any_eq_true.mp h
    have ht := List.mem_range.mp ht
    rw [Bool.and_eq_true] at h
    have t1 := Nat.le_of_ble_eq_true h.1
    obtain ⟨r, hr, h⟩ := List.any_eq_true.mp h.2
    rw [Bool.and_eq_true] at h
    have e0 := Nat.eq_of_beq_eq_true h.1
    have e9 := Nat.le_of_ble_eq_true h.2
    have l2 : (t ^ 6 * b.toNat) % p < 32 := by have := Nat.mod_lt (t ^ 6 * b.toNat) (show 0 < p by omega); omega
    have e1 : r.1 = (t ^ 4 * a.toNat) % p := by omega
    have e2 : r.2.1 = (t ^ 6 * b.toNat) % p := by omega
    have hR := List.all_eq_true.mp h1 r hr
    unfold chkR at hR
    rw [Bool.and_eq_true] at hR
    have hA : Cg (p : Int) ((r.1 : Nat) : Int) ((t : Int) ^ 4 * a) := by
      have := cg_mod (p := p) (m := r.1) (n := t ^ 4 * a.toNat) (by rw [e1, Nat.mod_mod])
      rw [Int.natCast_mul, Int.natCast_pow, ea] at this
      exact this
    have hB : Cg (p : Int) ((r.2.1 : Nat) : Int) ((t : Int) ^ 6 * b) := by
      have := cg_mod (p := p) (m := r.2.1) (n := t ^ 6 * b.toNat) (by rw [e2, Nat.mod_mod])
      rw [Int.natCast_mul, Int.natCast_pow, eb] at this
      exact this
    have hi := inv_ok hp (c := (t : Int)) (by omega) (by omega)
    generalize invF (p : Int) (t : Int) = i at hi
    have ui : Un (p : Int) i := ⟨t, ((Cg.refl _).to (by grind : i * (t : Int) = (t : Int) * i)).trans hi⟩
    have hA2 : Cg (p : Int) a (i ^ 4 * ((r.1 : Nat) : Int)) := (((Cg.refl _).mul hA).trans ((((hi.pow 4).mul (.refl a)).to (by grind)) |> fun h => ((Cg.refl _).to (by grind : i ^ 4 * ((t : Int) ^ 4 * a) = ((t : Int) * i) ^ 4 * a)).trans h)).symm
    have hB2 : Cg (p : Int) b (i ^ 6 * ((r.2.1 : Nat) : Int)) := (((Cg.refl _).mul hB).trans ((((hi.pow 6).mul (.refl b)).to (by grind)) |> fun h => ((Cg.refl _).to (by grind : i ^ 6 * ((t : Int) ^ 6 * b) = ((t : Int) * i) ^ 6 * b)).trans h)).symm
    exact plain_of (gp_of hp hR.2) hp ui hA2 hB2 (cnt_of hp hR.1) hne n0 n1 hN
end Mine
-- part Q8
namespace Mine
def rp7_0 : List Rp := [
  (0, 2, 3, 3, 239563408272211331669560320),
  (0, 3, 13, 1, 49435946019054801093192070780647671808),
  (0, 4, 3, 1, 5244928),
  (0, 5, 7, 1, 116631058966873475072),
  (1, 1, 5, 1, 6668009079808),
  (1, 6, 11, 1, 48253899476508461018823832667136)]
theorem rc7_0 : rp7_0.all (chkR 7) = true := by decide +kernel
def rp7_1 : List Rp := [
  (3, 2, 9, 1, 4916171580261150288251904),
  (3, 5, 7, 1, 41722615927394044928)]
theorem rc7_1 : rp7_1.all (chkR 7) = true := by decide +kernel
def rp7 : List Rp := rp7_0 ++ rp7_1
theorem rc7 : rp7.all (chkR 7) = true := by
  unfold rp7
  simp only [List.all_append, Bool.and_true, rc7_0, rc7_1]
theorem ra7 : chkAll 7 rp7 = true := by decide +kernel
def rp11_0 : List Rp := [
  (1, 4, 9, 1, 11228729192086951077873664),
  (1, 5, 11, 1, 9079446436119498334717306998784),
  (1, 6, 13, 1, 94585804443745425028555879832248979456),
  (1, 7, 15, 1, 146793776441214392907358625020636187917912064),
  (2, 2, 9, 1, 47231081760941512380682240),
  (2, 4, 17, 1, 13303735618567825104140249944616388364060111931392)]
theorem rc11_0 : rp11_0.all (chkR 11) = true := by decide +kernel
def rp11_1 : List Rp := [
  (2, 7, 7, 1, 232100009837696583680),
  (2, 9, 15, 1, 11369687297853121562134949224531878909840384)]
theorem rc11_1 : rp11_1.all (chkR 11) = true := by decide +kernel
def rp11 : List Rp := rp11_0 ++ rp11_1
theorem rc11 : rp11.all (chkR 11) = true := by
  unfold rp11
  simp only [List.all_append, Bool.and_true, rc11_0, rc11_1]
theorem ra11 : chkAll 11 rp11 = true := by decide +kernel
def rp19_0 : List Rp := [
  (0, 2, 13, 1, 192158084246902673656276507179102637056),
  (0, 4, 21, 1, 225730920176786466330746576491543705195351256680662905709009920),
  (0, 5, 9, 3, 956756366660559587238895759804741848249768596730768752484284571128724324786148352),
  (0, 10, 19, 1, 67870087857479297930404367000855561092775799082999389184),
  (1, 1, 21, 1, 29197130005271741952883059832649307945811392970977354490840064),
  (1, 4, 19, 1, 26359483290155926817343764765837614564262064515780184064)]
theorem rc19_0 : rp19_0.all (chkR 19) = true := by decide +kernel
def rp19_1 : List Rp := [
  (1, 5, 15, 1, 13992558658257802957441511395848106609222656),
  (1, 14, 25, 1, 83216204892235415661043256781472455198511895523172363139925704205815287808),
  (1, 15, 21, 1, 125696562675163141330555325925189770484784550019368101069526016),
  (1, 18, 19, 1, 76725671094284634448977891142933344558823180875348345856),
  (2, 1, 27, 1, 265985371425201106678737807661887960909872241902224578743708654211444200185139200),
  (2, 8, 15, 1, 62123630733461189604194510213876349304609792)]
theorem rc19_1 : rp19_1.all (chkR 19) = true := by decide +kernel
def rp19_2 : List Rp := [
  (2, 9, 23, 1, 27880158809484012952039683747541430434920432540232663257211230751744),
  (2, 10, 17, 1, 155757166269617164316389819498184997301784489862144),
  (2, 11, 25, 1, 21603022450717312148529581964934050879302252177029967047801349981565099008),
  (2, 18, 13, 1, 101688742597710635133539814907621481472)]
theorem rc19_2 : rp19_2.all (chkR 19) = true := by decide +kernel
def rp19 : List Rp := rp19_0 ++ rp19_1 ++ rp19_2
theorem rc19 : rp19.all (chkR 19) = true := by
  unfold rp19
  simp only [List.all_append, Bool.and_true, rc19_0, rc19_1, rc19_2]
theorem ra19 : chkAll 19 rp19 = true := by decide +kernel
def rp23_0 : List Rp := [
  (1, 3, 27, 1, 29789559500705291670632456048583551324453169326726582820461534823320177287896064),
  (1, 4, 29, 1, 41606802644371695431227051871835076072497339288702417943102900148568707087819132110848),
  (1, 6, 21, 1, 19349339753881368087590397468547617018593194576057767306472448),
  (1, 11, 33, 1, 105754863005826963540938372062158936420947446840375386824938472609537310691939004806755483176179712),
  (1, 12, 15, 1, 252567614528641883907067202452998593349584896),
  (1, 17, 27, 1, 157959496109896388566423692405436845928960521367675280969885671883530135076407296)]
theorem rc23_0 : rp23_0.all (chkR 23) = true := by decide +kernel
def rp23_1 : List Rp := [
  (1, 19, 19, 1, 116674183035815249141127473543284880193117263093822467072),
  (1, 20, 21, 1, 189026113724950882280755892374602006457935793139023179823548416),
  (5, 1, 31, 1, 45595442682001756626821390015190772071183615778595585067147890906270065213906855972077306880),
  (5, 2, 21, 1, 29239097929694022960780491565606472613795687719157635738506240),
  (5, 3, 23, 1, 27195741554863917852732656281321148750050700553515826101746403384320),
  (5, 9, 25, 1, 35873040737224747860494717503456965998178364384168487232424454656854330368)]
theorem rc23_1 : rp23_1.all (chkR 23) = true := by decide +kernel
def rp23_2 : List Rp := [
  (5, 14, 23, 1, 142606232448619911412155233742149910833128910286409267185522628955136),
  (5, 20, 25, 1, 203755385521913619656595295653656902958114321014474482222310274972136869888),
  (5, 21, 27, 1, 98315317383393900484292421410605742377314000369479471943484000653670786538702848),
  (5, 22, 17, 1, 163216538480865418251393501174536385423125489229824)]
theorem rc23_2 : rp23_2.all (chkR 23) = true := by decide +kernel
def rp23 : List Rp := rp23_0 ++ rp23_1 ++ rp23_2
theorem rc23 : rp23.all (chkR 23) = true := by
  unfold rp23
  simp only [List.all_append, Bool.and_true, rc23_0, rc23_1, rc23_2]
theorem ra23 : chkAll 23 rp23 = true := by decide +kernel
def rp31_0 : List Rp := [
  (0, 3, 43, 1, 166580009384495621825896624674059863062942602268496938336991573510591957502450220766372780918639750993371644651890500899851765760),
  (0, 5, 39, 1, 312549464371804639610994876021118239232003510576734260988216550460418196891879749985101393405580494817131310493041664),
  (0, 7, 21, 1, 77529846186886650631651343616579375717800610625723110094060544),
  (0, 11, 5, 5, 1532217662532799149652395626250683283949259309094595713748431512560335922176),
  (1, 3, 41, 1, 147663327157630443100279284544961494839347731593307078989767676909991506198613914392909238449779020293621740364129838864384),
  (1, 8, 35, 1, 35936780512883904282229434527456405661386394208143974194991651362804832354103174237110136222928876878848)]
theorem rc31_0 : rp31_0.all (chkR 31) = true := by decide +kernel
def rp31_1 : List Rp := [
  (1, 12, 27, 1, 93563134109914873744723690057189750903739836326849969609939217159555066154234880),
  (1, 14, 39, 1, 145811494489223936448199448335330104855762902148926245371934939884384668114095859260451069492054454588139001508564992),
  (1, 15, 33, 1, 194188746108308205733631957414736577640932235761943338271221479507945109700107455753241480175621120),
  (1, 16, 31, 1, 56031194838979543872972980330834726759342166500481994522429136044462116744413019968447188992),
  (1, 17, 25, 1, 95877190810751815567714748301081017461254904163814212638768375602672083968),
  (1, 19, 37, 1, 53175742302307279808899198920312442891603490819889865864307360535022519733812321736245811885768693011475080192)]
theorem rc31_1 : rp31_1.all (chkR 31) = true := by decide +kernel
def rp31_2 : List Rp := [
  (1, 23, 29, 1, 113802071701237781750820364042225139037139642264718957710689844593228410722090390426624),
  (1, 28, 23, 1, 34663350134929383174876647433723989673021212264909639029116838620160),
  (3, 1, 39, 1, 140891343551018598286209975275241909973177180093744075797357100612335795405273643149079010826535025468964747070183424),
  (3, 2, 35, 1, 51879732912342502561823691340120331083084889107034611703179818396629677638621484255715928013871842861056),
  (3, 6, 33, 1, 104823383638763778271861380013945688390399644741971513563423509468058920222921315937298643688667136),
  (3, 11, 37, 1, 211835014582169782775349582058963556993835485449714045468387439292244045581718781450294373791834644109592695808)]
theorem rc31_2 : rp31_2.all (chkR 31) = true := by decide +kernel
def rp31_3 : List Rp := [
  (3, 13, 27, 1, 223649643935793170525401173988472847070985646837320675781180566380009010049948672),
  (3, 18, 37, 1, 56727891881726647745567933175856091641819381439069239705959446641401610891050165828351423116085157624217082880),
  (3, 20, 9, 3, 1786501532944695365314967698183728999786888111567635865451385802508377603429117952),
  (3, 25, 31, 1, 54213505851013875415392956579098658276085096581307435689163106447466751635080067211712271360),
  (3, 29, 29, 1, 107989832498684781656353927383726169952156952111559234206359033222800932299432258478080),
  (3, 30, 25, 1, 222394062120641091547664220381844166457165761963405333228735414626615920640)]
theorem rc31_3 : rp31_3.all (chkR 31) = true := by decide +kernel
def rp31 : List Rp := rp31_0 ++ rp31_1 ++ rp31_2 ++ rp31_3
theorem rc31 : rp31.all (chkR 31) = true := by
  unfold rp31
  simp only [List.all_append, Bool.and_true, rc31_0, rc31_1, rc31_2, rc31_3]
theorem ra31 : chkAll 31 rp31 = true := by decide +kernel
theorem plain_both {p NN a b n c4 : Int} (hp : PrimeL p) (ha : ValA p a) (b0 : 0 ≤ b) (b1 : b < p) (n0 : 2 ≤ n) (n1 : n < 10) (hne : lawPts p a b ≠ []) (hN : NN = ((lawPts p a b).length : Int)) : 3 ≤ (lawPts p a b).length ∧ PlainF p NN a n c4 (lawPts p a b) := by
  obtain ⟨⟨a0, a1⟩, _⟩ := ha
  rcases id hp with rfl | rfl | rfl | rfl | rfl
  · exact plain_data (p := 7) hp rc7 ra7 a0 a1 b0 b1 n0 n1 hne hN
  · exact plain_data (p := 11) hp rc11 ra11 a0 a1 b0 b1 n0 n1 hne hN
  · exact plain_data (p := 19) hp rc19 ra19 a0 a1 b0 b1 n0 n1 hne hN
  · exact plain_data (p := 23) hp rc23 ra23 a0 a1 b0 b1 n0 n1 hne hN
  · exact plain_data (p := 31) hp rc31 ra31 a0 a1 b0 b1 n0 n1 hne hN
theorem plain_all {p NN a b n c4 : Int} (hp : PrimeL p) (ha : ValA p a) (b0 : 0 ≤ b) (b1 : b < p) (n0 : 2 ≤ n) (n1 : n < 10) (hne : lawPts p a b ≠ []) (hN : NN = (lawPts p a b).length) : PlainF p NN a n c4 (lawPts p a b) := (plain_both hp ha b0 b1 n0 n1 hne hN).2
theorem plain_three {p a b : Int} (hp : PrimeL p) (ha : ValA p a) (b0 : 0 ≤ b) (b1 : b < p) (hne : lawPts p a b ≠ []) : 3 ≤ (lawPts p a b).length := (plain_both (n := 2) (c4 := 0) hp ha b0 b1 (by decide) (by decide) hne rfl).1
end Mine
-- part LoopT
namespace Mine
def NoTi (cst nx : List (Addr × Obj)) : Prop := ∀ q ∈ nx, q.2.cls ≠ .type "tuple_iterator" ∨ q ∈ cst
/-- a turn's end, in a loop over a tuple -/
def TEnd (h₀ : Heap) (L : Addr) (cst : List (Addr × Obj)) (J : (Str → Option Value) → List (Addr × Obj) → Prop) (own : List (Addr × Obj)) (s₁ s₂ : Shared) : Prop :=
  ∃ h' tk m' nx, s₂ = { s₁ with heap := h', toks := tk } ∧ Fr h₀ L h' m' ∧ News h₀ L h' (nx ++ own) ∧ NoTi cst nx ∧ J m' nx
theorem TEnd.intro {h₀ : Heap} {L : Addr} {cst : List (Addr × Obj)} {J : (Str → Option Value) → List (Addr × Obj) → Prop} {own nx : List (Addr × Obj)} {s₁ : Shared} {h' : Heap} {tk : Nat} {m' : Str → Option Value}
    (F : Fr h₀ L h' m') (N : News h₀ L h' (nx ++ own)) (hn : NoTi cst nx) (hj : J m' nx) : TEnd h₀ L cst J own s₁ { s₁ with heap := h', toks := tk } := ⟨h', tk, m', nx, rfl, F, N, hn, hj⟩
def TPost (h₀ : Heap) (L : Addr) (cst : List (Addr × Obj)) (J : (Str → Option Value) → List (Addr × Obj) → Prop) (own : List (Addr × Obj)) (s₁ : Shared) (Q : Flow → Shared → Prop) (f : Flow) (s₂ : Shared) : Prop :=
  match f with
  | .ret v => Q (.ret v) s₂
  | .brk => Q .next s₂
  | _ => TEnd h₀ L cst J own s₁ s₂
section
variable {prog : Program} {w : World} {A : Around} {E : Value → Shared → Prop} {s : Shared} {env : Env} {h₀ : Heap} {x : Str} {body : List Stmt} {Q : Flow → Shared → Prop}
theorem tup_loop (cst : List (Addr × Obj)) {r : Addr} {c : Nat} {items : Array Value} {n : Nat} {m₀ : Str → Option Value} {news : List (Addr × Obj)} (J : Nat → (Str → Option Value) → List (Addr × Obj) → Prop)
    (hh : A.handled = none) (hm : (r, ({ cls := .type "tuple", data := .seq items c } : Obj)) ∈ news) (hsz : items.size = n)
    (F : Fr h₀ env.locals s.heap m₀) (N : News h₀ env.locals s.heap news) (hj : J 0 m₀ news) (hcst : ∀ p ∈ cst, p ∈ news)
    (turn : ∀ (i : Nat) v m₁ nx h tk own, i < n → items[i]? = some v → (∀ p ∈ own, p.2.cls = .type "tuple_iterator" ∨ p.2.cls = .type "tuple") → J i m₁ nx → Fr h₀ env.locals h (fun y => if y = x then some v else m₁ y) → News h₀ env.locals h (nx ++ own) →
      wpAny (model prog w) A (execs body env) (TPost h₀ env.locals cst (J (i + 1)) own { s with heap := h, toks := tk } Q) E { s with heap := h, toks := tk })
    (done : ∀ m₁ nx h tk, J n m₁ nx → Fr h₀ env.locals h m₁ → News h₀ env.locals h nx → Q .next { s with heap := h, toks := tk }) :
    wpAny (model prog w) A (pyIter (.ref r)) (fun it s₂ => LoopAtV prog w A h₀ env x body Q E it s₂) E s := by
  have ht : s.heap.IsTuple r items := ⟨_, (N _ hm).1, rfl, _, rfl⟩
  have hlt : r < s.heap.objs.size := Heap.lt_size (N _ hm).1
  have hne : r ≠ s.heap.objs.size := Nat.ne_of_lt hlt
  refine wpAny_pyIter_tuple ht ?_
  refine ⟨_, _, _, items.size, _, _, m₀, news, J, rfl, Walks.tuple hh s.heap.objs.size r hne items, ?_, ?_, ?_, ⟨⟨_, Heap.get?_push_size _ rfl, rfl, rfl⟩, ht.push _⟩, F.push _, (fun p hp => ⟨Heap.get?_push_of_some _ (N p hp).1, (N p hp).2⟩), hj, ?_, ?_⟩
  · intro h
    rcases List.mem_cons.mp h with e | h
    · exact absurd F.ns.lt (e ▸ Nat.lt_irrefl _)
    · exact (N _ hm).2.1 (List.mem_singleton.mp h).symm
  · intro b hb
    rw [List.mem_singleton.mp hb]
    exact next_is_new F
  · intro p hp hI
    exact absurd (Heap.lt_size (N p hp).1) ((List.mem_singleton.mp hI) ▸ Nat.lt_irrefl _)
  · rintro i v m₁ news₁ s₁ own ⟨hh', tk', rfl⟩ hin hv hJ hoff hown hget hfp hst F₁ N₁
    obtain ⟨⟨oI, eI, cI, dI⟩, hT⟩ := hst
    obtain ⟨oT, eT, cT, _⟩ := hT
    have hcls : ∀ p ∈ own, p.2.cls = .type "tuple_iterator" ∨ p.2.cls = .type "tuple" := by
      intro p hp
      have h2 := hget p hp
      rcases List.mem_cons.mp (hown p hp) with e | e
      · left
        rw [e] at h2
        have h3 := eI.symm.trans h2
        injection h3 with h3
        rw [← h3]
        exact cI
      · right
        rw [List.mem_singleton.mp e] at h2
        have h3 := eT.symm.trans h2
        injection h3 with h3
        rw [← h3]
        exact cT
    have hIown : (s.heap.objs.size, oI) ∈ own := hfp _ (.head _) (next_is_new F) _ eI
    have N₂ : News h₀ env.locals hh' (news₁ ++ own) := fun p hp => N₁ p ((List.mem_append.mp hp).elim (fun h => List.mem_append.mpr (.inr h)) fun h => List.mem_append.mpr (.inl h))
    refine wpAny_mono (turn i v m₁ news₁ hh' tk' own (hsz ▸ hin) hv hcls hJ F₁ N₂) (fun f s₂ p => ?_) fun _ _ e => e
    have fin : TEnd h₀ env.locals cst (J (i + 1)) own { s with heap := hh', toks := tk' } s₂ → LoopStepU h₀ env.locals [s.heap.objs.size] own (J (i + 1)) { s with heap := hh', toks := tk' } .next s₂ := by
      rintro ⟨h', tk, m', nx, e, F', N', hno, hm⟩
      refine ⟨rfl, h', tk, m', nx, e, F', fun p hp => N' p ((List.mem_append.mp hp).elim (fun h => List.mem_append.mpr (.inr h)) fun h => List.mem_append.mpr (.inl h)), fun p hp hq => ?_, hm⟩
      have h1 := (N' _ (List.mem_append.mpr (.inr hIown))).1
      have h2 := (N' _ (List.mem_append.mpr (.inl hp))).1
      rw [List.mem_singleton.mp hq] at h2
      have h3 := h1.symm.trans h2
      injection h3 with h3
      rcases hno p hp with hc | hc
      · exact hc (h3 ▸ cI)
      · exact absurd (Heap.lt_size (N p (hcst p hc)).1) ((List.mem_singleton.mp hq) ▸ Nat.lt_irrefl _)
    cases f with
    | ret v => exact .ret p
    | brk => exact .brk p
    | next => exact .next (fin p)
    | cont => exact .cont (fin p)
  · rintro h' tk m' news' F' N' _ hJ
    exact done m' news' h' tk (hsz ▸ hJ) F' N'
end
end Mine
-- part LawR2
namespace Mine
section
variable {prog : Program} {w : World} {A : Around} {E : Value → Shared → Prop} {s : Shared} {h₀ : Heap} {L l a b d : Addr} {news : Led} {us : List Value} {c c' : Nat} {ps : List (Int × Int)} {x y x' y' : Int} {t1 t2 t3 t4 : Tok} {Q : Value → Shared → Prop}
theorem pt_read (N : News h₀ L s.heap news) (ma : (a, tup2 x y t1 t2 c) ∈ news) : ∃ as, Reads s.heap (.ref a) (kqdP (ptD (x, y))) as := kqd_in N 8 (ptIn ma) (pt_ok _)
theorem pt_shaped (q : Int × Int) : SeqAt.shaped (kqdP (ptD q)) = true := by
  have l := kqd_lay 8 (ptD q) (pt_ok q)
  unfold SeqAt.shaped
  rw [l.1, Bool.true_and]
  exact decide_eq_true (Nat.le_trans l.2 (by decide))
theorem pt_eqv (q r : Int × Int) : PyData.eqv (kqdP (ptD q)) (kqdP (ptD r)) = decide (q = r) := by
  have h := kqd_eqv 8 (ptD q) (ptD r) 8 (pt_ok q) (pt_ok r)
  by_cases e : q = r
  · rw [decide_eq_true e]; exact h.mpr (by rw [e])
  · rw [decide_eq_false e]; exact Bool.eq_false_iff.mpr fun g => e (ptD_inj (h.mp g))
/-- total != images[k] -/
theorem pt_ne (N : News h₀ L s.heap news) (ma : (a, tup2 x y t1 t2 c) ∈ news) (mb : (b, tup2 x' y' t3 t4 c') ∈ news) (hu : A.units + 64 < cLine) (h : Q (.bool (!decide ((x, y) = (x', y')))) s) : wpAny (model prog w) A (compareOp .NotEq (.ref a) (.ref b)) Q E s := by
  obtain ⟨as, ra⟩ := pt_read N ma
  obtain ⟨bs, rb⟩ := pt_read N mb
  exact ne_dataH ra rb (pt_shaped _) (pt_shaped _) hu (by rw [pt_eqv]; exact h)
theorem pt_eq (N : News h₀ L s.heap news) (ma : (a, tup2 x y t1 t2 c) ∈ news) (mb : (b, tup2 x' y' t3 t4 c') ∈ news) (hu : A.units + 64 < cLine) (h : Q (.bool (decide ((x, y) = (x', y')))) s) : wpAny (model prog w) A (compareOp .Eq (.ref a) (.ref b)) Q E s := by
  obtain ⟨as, ra⟩ := pt_read N ma
  obtain ⟨bs, rb⟩ := pt_read N mb
  exact eq_dataH ra rb (pt_shaped _) (pt_shaped _) hu (by rw [pt_eqv]; exact h)
/-- points.index(total) -/
theorem pts_index (N : News h₀ L s.heap news) (ml : (l, listOf us.toArray c) ∈ news) (Da : PtAll news us ps) (md : (d, tup2 x y t1 t2 c') ∈ news) (hin : (x, y) ∈ ps) (hs9 : ps.length < 1000) (hu : A.units + 64 < cLine)
    (h : Q (.int (ps.idxOf (x, y) : Nat) s.toks) { s with toks := s.toks + 1 }) : wpAny (model prog w) A (call (.builtin "list.index") [.ref l, .ref d]) Q E s := by
  obtain ⟨bs, rx⟩ := pt_read N md
  obtain ⟨as, ra⟩ := kqd_all N 8 Da.dat (pts_ok ps)
  have ll := kqd_layL (pts_ok ps)
  have ld := kqd_lay 8 _ (pt_ok (x, y))
  have hlen := Da.length
  have hj : ps.idxOf (x, y) < ps.length := List.idxOf_lt_length_iff.mpr hin
  have l2 := ld.2
  have at_ : ∀ (j : Nat) (h1 : j < us.length) (h2 : j < ps.length), SeqAt.readOf s.heap us[j] = kqdP (ptD ps[j]) := by
    intro j h1 h2
    obtain ⟨d', u1, u2, c2, hv, hm⟩ := Da.at (List.getElem?_eq_getElem h2)
    rw [List.getElem?_eq_getElem h1] at hv
    rw [Option.some.inj hv]
    obtain ⟨cs, rc⟩ := pt_read N hm
    exact SeqAt.readOf_eq (kqd_lay 8 _ (pt_ok _)).1 rc
  refine call_meets PySem.F.slot_list_index ⟨_, (N _ ml).1, rfl⟩ PySem.F.entry_list_index (PySem.F.args_list_index_2 _ _)
    (SeqAt.list_indexAt l us.toArray c none #[] (.ref d) (fun y' => PyData.eqv (SeqAt.readOf s.heap y') (kqdP (ptD (x, y)))) (ps.idxOf (x, y)) (by simpa [hlen] using hj) (by omega) ?_ ?_) ⟨(N _ ml).1, ?_, h⟩
  · show PyData.eqv (SeqAt.readOf s.heap us[ps.idxOf (x, y)]) _ = true
    rw [at_ _ (by omega) hj, pt_eqv]
    exact decide_eq_true (List.getElem_idxOf hj)
  · intro j hjs hlt
    have hjs : j < us.length := by simpa using hjs
    show PyData.eqv (SeqAt.readOf s.heap us[j]) _ = false
    rw [at_ _ hjs (by omega), pt_eqv]
    refine decide_eq_false fun e => ?_
    have := List.not_of_lt_findIdx (p := (· == (x, y))) (xs := ps) (i := j) hlt
    simp [e] at this
  · refine fun y' hy' => SeqAt.items_eqAt (xs := kqdPs (ps.map ptD)) (by simpa using ra) rx ll.1 ld.1 ?_ y' hy'
    have := Nat.min_le_right (PyData.depthAll (kqdPs (ps.map ptD))) (kqdP (ptD (x, y))).depth
    omega
end
theorem addF_rs {P A : Int} {a b : Int × Int} (h : 0 < P) : Rs P (addF P A a b).1 ∧ Rs P (addF P A a b).2 := fromF_rs h
def fixJ (led : Led) (names : List (Str × Value)) (_ : Nat) (m : Str → Option Value) (nx : Led) : Prop := nx = led ∧ ∀ q ∈ names, m q.1 = some q.2
theorem fr_names {h₀ h : Heap} {L : Addr} {m : Str → Option Value} {ps : List (Str × Value)} (hm : ∀ q ∈ ps, m q.1 = some q.2) (F : Fr h₀ L h m) : ∃ m', Fr h₀ L h (kstB m' ps) := ⟨m, fr_known0 hm F⟩
def foldJ (p a : Int) (q : Int × Int) (led : Led) (names : List (Str × Value)) (k : Nat) (m : Str → Option Value) (nx : Led) : Prop :=
  ∃ d t1 t2 c, nx = (d, tup2 (foldF p a q k).1 (foldF p a q k).2 t1 t2 c) :: led ∧ m "total" = some (.ref d) ∧ ∀ q ∈ names, m q.1 = some q.2
theorem foldF_rs {p a : Int} (hp : PrimeL p) (q : Int × Int) : ∀ k, Rs p (foldF p a q k).1 ∧ Rs p (foldF p a q k).2
  | 0 => by
    have := prime_bd hp
    exact ⟨⟨by simp [foldF], by show (0 : Int) < p; omega⟩, ⟨by simp [foldF], by show (0 : Int) < p; omega⟩⟩
  | k + 1 => fromF_rs (by have := prime_bd hp; omega)
theorem two_at {a b N : Int} {t u : Tok} {i : Nat} {v : Value} (a0 : 0 ≤ a) (a1 : a < N) (b0 : 0 ≤ b) (b1 : b < N) (h : (#[Value.int a t, Value.int b u] : Array Value)[i]? = some v) : ∃ k tk, v = .int k tk ∧ 0 ≤ k ∧ k < N := by
  match i, h with
  | 0, h => exact ⟨a, t, by simpa using h.symm, a0, a1⟩
  | 1, h => exact ⟨b, u, by simpa using h.symm, b0, b1⟩
  | n + 2, h => simp at h
theorem fold_succ {p a x y x1 y1 : Int} {ps : List (Int × Int)} {i k : Nat} (e0 : ps[i]? = some (x, y)) (ea : (x1, y1) = addF p a ((foldF p a (ps.getD i (0, 0)) k).1, (foldF p a (ps.getD i (0, 0)) k).2) (x, y)) : foldF p a (ps.getD i (0, 0)) (k + 1) = (x1, y1) := by
  rw [ea, foldF, getD_some e0]
theorem fold_end {h₀ h' : Heap} {L D : Addr} {m' : Str → Option Value} {led own R : Led} {s₁ : Shared} {p a x y : Int} {q : Int × Int} {t1 t2 : Tok} {c k tk : Nat} {names : List (Str × Value)}
    (F : Fr h₀ L h' m') (N : News h₀ L h' ((D, tup2 x y t1 t2 c) :: R)) (hR : ∀ q ∈ led ++ own, q ∈ R) (e : foldF p a q (k + 1) = (x, y)) (ht : m' "total" = some (.ref D)) (hm : ∀ q ∈ names, m' q.1 = some q.2) :
    REnd h₀ L led (foldJ p a q led names (k + 1)) own s₁ { s₁ with heap := h', toks := tk } := by
  refine REnd.intro (nx := (D, tup2 x y t1 t2 c) :: led) F (news_sub N ?_) ?_ ⟨D, t1, t2, c, by rw [e], ht, hm⟩
  · intro q hq
    rcases List.mem_cons.mp hq with rfl | hq
    · exact .head _
    · exact .tail _ (hR q hq)
  · exact NoRi.cons (by simp) NoRi.self
theorem tup_end {h₀ h' : Heap} {L : Addr} {m' : Str → Option Value} {led cst own T T₉ R : Led} {s₁ : Shared} {i tk : Nat} {names : List (Str × Value)}
    (F : Fr h₀ L h' m') (N : News h₀ L h' R) (hT : T₉ ++ own = T) (hR : ∀ q ∈ cst ++ T, q ∈ R) (hled : led = cst ++ T₉) (hno : ∀ q ∈ T₉, q.2.cls ≠ .type "tuple_iterator") (hm : ∀ q ∈ names, m' q.1 = some q.2) :
    TEnd h₀ L cst (fixJ led names (i + 1)) own s₁ { s₁ with heap := h', toks := tk } := by
  subst hled hT
  refine TEnd.intro (nx := cst ++ T₉) F (news_sub N ?_) ?_ ⟨rfl, hm⟩
  · rw [List.append_assoc]; exact hR
  · intro q hq
    rcases List.mem_append.mp hq with hq | hq
    · exact .inr hq
    · exact .inl (hno q hq)
end Mine
namespace Mine
/-- points[k], with the bounds of what it gives -/
theorem pts_itemR {prog : Program} {w : World} {A : Around} {E : Value → Shared → Prop} {s : Shared} {h₀ : Heap} {L l : Addr} {news : Led} {us : List Value} {c : Nat} {ps : List (Int × Int)} {k p : Int} {u : Tok} {Q : Value → Shared → Prop} {value slice : PySem.Expr} (N : News h₀ L s.heap news) (ml : (l, listOf us.toArray c) ∈ news) (Da : PtAll news us ps) (h0 : 0 ≤ k) (h1 : k < ps.length) (hs9 : ps.length < 1000)
    (hR : ∀ q ∈ ps, Rs p q.1 ∧ Rs p q.2)
    (h : ∀ d x y t1 t2 c', ps[k.toNat]? = some (x, y) → Rs p x → Rs p y → News h₀ L s.heap ((d, tup2 x y t1 t2 c') :: news) → Q (.ref d) s)
    (hs : subscripted slice false (.ref l) (.int k u) = operate [.ref l, .int k u] (getItem (.ref l) (.int k u)) := by with_unfolding_all rfl) :
    wpAny (model prog w) A (subscriptTail value slice (.ref l) (.int k u)) Q E s :=
  pts_item N ml Da h0 h1 hs9 (fun d x y t1 t2 c' e N' => h d x y t1 t2 c' e (hR _ (List.mem_of_getElem? e)).1 (hR _ (List.mem_of_getElem? e)).2 N') hs
end Mine
-- part DIt
namespace Mine
/-- a dict, told by its bare entries -/
def RawD (h : Heap) (d : Addr) (es : Array DictEntry) (ep : Nat) : Prop := ∃ o, h.get? d = some o ∧ o.ExactDict ∧ o.data = .dict es ep
theorem RawD.lt {h : Heap} {d : Addr} {es : Array DictEntry} {ep : Nat} (x : RawD h d es ep) : d < h.objs.size := let ⟨_, e, _⟩ := x; Heap.lt_size e
theorem RawD.at {h h' : Heap} {d : Addr} {es : Array DictEntry} {ep : Nat} (x : RawD h d es ep) (k : ∀ o, h.get? d = some o → h'.get? d = some o) : RawD h' d es ep := let ⟨o, e, r⟩ := x; ⟨o, k _ e, r⟩
theorem RawD.typeIs {s : Shared} {d : Addr} {es : Array DictEntry} {ep : Nat} (x : RawD s.heap d es ep) : s.TypeIs (.ref d) "dict" := let ⟨o, e, c, _⟩ := x; ⟨o, e, c.1⟩
section
variable {prog : Program} {w : World} {A : Around} {E : Value → Shared → Prop} {s : Shared} {d it : Addr} {es : Array DictEntry} {ep i : Nat}
theorem iter_raw {Q : Value → Shared → Prop} (lo : (d == sysModules) = false) (m : RawD s.heap d es ep)
    (hQ : Q (.ref s.heap.objs.size) { s with heap := s.heap.push { cls := .type "dict_keyiterator", data := .fields #[.ref d, .int 0 0, .int es.size 0, .int ep 0] } }) :
    wpAny (model prog w) A (pyIter (.ref d)) Q E s := by
  obtain ⟨o, ho, hc, hdat⟩ := id m
  have hT := m.typeIs
  refine wpAny_pyIter_slot hT F.slot_dict_iter (wpAny_call_entry F.slot_dict_iter hT F.entry_dict_iter ?_ (F.args_dict_iter_1 _))
  unfold Builtin.«dict.__iter__»
  refine wpAny_bind ?_
  unfold Builtin.Dict.dictSlotNone
  refine wpAny_bind (wpAny_notOrdered_dict hT ?_)
  show wpAny _ _ (pure (Value.ref d)) _ _ s
  refine wpAny_pure ?_
  show wpAny _ _ (Builtin.Dict.showsAll d >>= _) _ _ s
  unfold Builtin.Dict.showsAll
  rw [if_neg (by rw [lo]; exact Bool.false_ne_true)]
  refine wpAny_bind (wpAny_pure ?_)
  refine wpAny_bind (wpAny_dictEntries ho hdat ?_)
  refine wpAny_bind (wpAny_dictEpoch ho hdat ?_)
  refine wpAny_bind (wpAny_newObj_type (wpAny_pure ⟨_, rfl, "dict_keyiterator", _, ⟨_, Heap.get?_push_size _ rfl, rfl⟩, F.slot_dict_keyiterator_next.lookup, ?_⟩))
  simpa [rawInt] using hQ
theorem next_raw {Q : Option Value → Shared → Prop} (hit : s.heap.IsKeyIter it d i es.size ep) (m : RawD s.heap d es ep) (hi : i < es.size)
    (hQ : ∀ h', h'.IsKeyIter it d (i + 1) es.size ep → Heap.SameBut it s.heap h' → Q (some es[i].key) { s with heap := h' }) :
    wpAny (model prog w) A (pyNext (.ref it)) Q E s := by
  obtain ⟨o, ho, hc, hd⟩ := id hit
  obtain ⟨od, hod, hcd, hdd⟩ := id m
  have hT := hit.typeIs
  unfold pyNext
  refine wpAny_bind (wpAny_attempt (wpAny_callSpecial?_slot (name := Str.ofString "__next__") hT F.slot_dict_keyiterator_next
    (wpAny_call_entry F.slot_dict_keyiterator_next hT F.entry_dict_keyiterator_next ?_ (F.args_dict_keyiterator_next_1 _))))
  refine wpAny_bind (wpAny_pure (wpAny_bind (wpAny_bind ?_)))
  first | refine wpAny_bind (wpAny_typeNameOfWhole_keyiter hT (wpAny_pure ?_)) | refine wpAny_bind (wpAny_typeNameOf_keyiter hT (wpAny_pure ?_))
  refine wpAny_bind (wpAny_fieldsOf ho hd ?_)
  simp only [show Builtin.Dict_items.ownsTuple "dict_keyiterator" = false by decide, Bool.false_eq_true, if_false]
  show wpAny _ _ (if (Value.ref d == Value.none) = true then _ else _) _ _ s
  rw [if_neg (show ¬ ((Value.ref d == Value.none) = true) from Bool.false_ne_true)]
  refine wpAny_bind (wpAny_pure (wpAny_bind (wpAny_dictEntries hod hdd ?_)))
  rw [if_neg (by simp)]
  refine wpAny_bind (wpAny_pure (wpAny_bind (wpAny_dictEpoch hod hdd ?_)))
  rw [if_neg (by simp)]
  refine wpAny_pure ?_
  simp only [show ¬ ((i : Int) < 0) from by omega, if_false, Int.toNat_natCast, Array.getElem?_eq_getElem hi]
  refine wpAny_bind ?_
  first | refine wpAny_bind (wpAny_typeNameOfWhole_keyiter hT (wpAny_pure ?_)) | refine wpAny_bind (wpAny_typeNameOf_keyiter hT (wpAny_pure ?_))
  refine wpAny_bind (wpAny_isOneOf_keyiter hT ?_)
  show wpAny _ _ (setField (.ref it) 1 (rawInt ((i : Int) + 1)) >>= _) _ _ s
  refine wpAny_bind (wpAny_setField ho hd (by simp) ?_)
  have hit' : (s.heap.update it (Obj.mapFields (·.setIfInBounds 1 (rawInt ((i : Int) + 1))))).IsKeyIter it d (i + 1) es.size ep :=
    ⟨_, Heap.get?_update_self _ ho (Obj.isFreed_of_fields (Obj.data_mapFields hd _)), (Obj.cls_mapFields ..).trans hc, by rw [Obj.data_mapFields hd]; simp [rawInt]⟩
  refine wpAny_bind (wpAny_holding ?_)
  refine wpAny_bind (wpAny_isOneOf_keyiter (s := { s with heap := s.heap.update it (Obj.mapFields (·.setIfInBounds 1 (rawInt ((i : Int) + 1)))) }) hit'.typeIs ?_)
  show wpAny _ _ (pure es[i].key) _ _ _
  exact wpAny_pure (wpAny_pure ⟨_, rfl, wpAny_pure (hQ _ hit' (Heap.SameBut.update ..))⟩)
theorem end_raw {Q : Option Value → Shared → Prop} (hh : A.handled = none) (hit : s.heap.IsKeyIter it d es.size es.size ep) (m : RawD s.heap d es ep)
    (hQ : ∀ h', Heap.ExtBut it s.heap h' → Q none { s with heap := h' }) : wpAny (model prog w) A (pyNext (.ref it)) Q E s := by
  obtain ⟨o, ho, hc, hd⟩ := id hit
  obtain ⟨od, hod, hcd, hdd⟩ := id m
  have hT := hit.typeIs
  unfold pyNext
  refine wpAny_bind (wpAny_attempt (wpAny_callSpecial?_slot (name := Str.ofString "__next__") hT F.slot_dict_keyiterator_next
    (wpAny_call_entry F.slot_dict_keyiterator_next hT F.entry_dict_keyiterator_next ?_ (F.args_dict_keyiterator_next_1 _))))
  refine wpAny_bind (wpAny_pure (wpAny_bind (wpAny_bind ?_)))
  first | refine wpAny_bind (wpAny_typeNameOfWhole_keyiter hT (wpAny_pure ?_)) | refine wpAny_bind (wpAny_typeNameOf_keyiter hT (wpAny_pure ?_))
  refine wpAny_bind (wpAny_fieldsOf ho hd ?_)
  simp only [show Builtin.Dict_items.ownsTuple "dict_keyiterator" = false by decide, Bool.false_eq_true, if_false]
  show wpAny _ _ (if (Value.ref d == Value.none) = true then _ else _) _ _ s
  rw [if_neg (show ¬ ((Value.ref d == Value.none) = true) from Bool.false_ne_true)]
  refine wpAny_bind (wpAny_pure (wpAny_bind (wpAny_dictEntries hod hdd ?_)))
  rw [if_neg (by simp)]
  refine wpAny_bind (wpAny_pure (wpAny_bind (wpAny_dictEpoch hod hdd ?_)))
  rw [if_neg (by simp)]
  refine wpAny_pure ?_
  simp only [show ¬ ((es.size : Int) < 0) from by omega, if_false, Int.toNat_natCast, Array.getElem?_eq_none (Nat.le_refl es.size)]
  refine wpAny_bind ?_
  first | refine wpAny_bind (wpAny_typeNameOfWhole_keyiter hT (wpAny_pure ?_)) | refine wpAny_bind (wpAny_typeNameOf_keyiter hT (wpAny_pure ?_))
  show wpAny _ _ (setField (.ref it) 0 .none >>= _) _ _ s
  refine wpAny_bind (wpAny_setField ho hd (by simp) ?_)
  show wpAny _ _ (newExc (.type "StopIteration") [] >>= _) _ _ _
  refine wpAny_bind ?_
  simp only [newExc, newTuple]
  refine wpAny_bind (wpAny_newObj_type ?_ (by size_fits))
  refine wpAny_bind (m := firstArgMember _ _) (wpAny_of_eq (a := Value.none) (by first | rfl | (simp only [firstArgMember]; rfl)) ?_)
  refine wpAny_newObj_type ?_ (by size_fits)
  simp only [raiseNew]
  refine wpAny_bind (wpAny_handled ?_)
  rw [show A.in1.handled = none from hh]
  refine wpAny_bind (wpAny_pure (wpAny_throw ?_))
  refine wpAny_bind (wpAny_isInstance (T := "StopIteration") (b := true) ⟨_, Heap.get?_push_size _ rfl, rfl⟩ isSubtype_stop ?_)
  exact wpAny_pure (hQ _ (((Heap.SameBut.update ..).extBut.push _).push _))
theorem walks_raw (hh : A.handled = none) (I d : Addr) (hne : d ≠ I) (es : Array DictEntry) (ep : Nat) :
    Walks prog w A I [I, d] [I] es.size (fun i v => ∃ h : i < es.size, v = es[i].key) (fun i h => h.IsKeyIter I d i es.size ep ∧ RawD h d es ep) where
  sub := fun b hb => by simp at hb; simp [hb]
  frame := fun _ _ _ st hk => ⟨st.1.at fun o e => hk I (by simp) o e, st.2.at fun o e => hk d (by simp) o e⟩
  item := fun i s Q E hi st hQ => next_raw st.1 st.2 hi fun h' hit' hs' =>
    hQ _ h' s.toks ⟨hi, rfl⟩ ⟨hit', st.2.at fun o e => hs'.extBut _ o hne e⟩ fun b o hb e => hs'.extBut b o (fun h => hb (by simp [h])) e
  done := fun s Q E st hQ => end_raw hh st.1 st.2 fun h' he' => hQ h' s.toks fun b o hb e => he' b o (fun h => hb (by simp [h])) e
  self := fun _ _ _ _ st hQ => wpAny_pyIter_keyiter st.1 hQ
section
open LCg LCt
variable {prog : Program} {w : World} {A : Around} {E : Value → Shared → Prop} {s : Shared} {h₀ : Heap} {L : Addr} {m : Str → Option Value} {env : Env}
def CompSrcD (prog : Program) (w : World) (A : Around) (h₀ : Heap) (L : Addr) (m : Str → Option Value) (env : Env) (ct elt : Expr) (x : Str) (scope : Scope) (cl : List (Str × Addr)) (Fin : Shared → List Value → Led → Prop) (xv : Value) (s₁ : Shared) : Prop :=
  ∃ d o es ep news, xv = .ref d ∧ (d == sysModules) = false ∧ A.handled = none ∧ Fr h₀ L s₁.heap m ∧ News h₀ L s₁.heap news ∧ (d, o) ∈ news ∧ o.ExactDict ∧ o.data = .dict es ep ∧ es.size ≤ sizeLine ∧
    ∀ s₂ : Shared, (∃ h, s₂ = { s₁ with heap := h }) → CompRestT prog w A h₀ L m env ct elt x scope cl s₂ (fun nw => (d, o) ∈ nw) (fun i v => ∃ h : i < es.size, v = es[i].key) (Fin s₂) es.size 0 [] news
theorem listcomp_dict {ct elt iter : Expr} {x : Str} {px : Pos} {scope : Scope} {cl : List (Str × Addr)} {pos : Pos} {Q : Value → Shared → Prop} (F₀ : Fr h₀ L s.heap m)
    (hclos : closureFor scope env = pure cl) (hcell : ∀ y ∈ scope.names, y.2 ≠ .cell) (hkind : scope.kind = .function)
    (hnames : ∀ y ∈ scope.names, y.2 = .local → scope.names.lookup y.1 = some .local) (hx : scope.names.lookup x = some .local)
    (h : wpAny (model prog w) A (eval iter env) (CompSrcD prog w A h₀ L m env ct elt x scope cl (fun s₂ => FinE h₀ L m s₂ Q)) E s)
    (hs : ∀ x, foldedSetIterable iter env x = pure x := by intro _; rfl) :
    wpAny (model prog w) A (eval (.ListComp elt [⟨.Name x px, iter, [ct], 0⟩] scope pos) env) Q E s := by
  rw [eval_ListComp]
  refine wpAny_comprehension_free (use := none) rfl hs hclos hkind hnames (wpAny_mono h (fun xv s₁ h₁ => ?_) fun _ _ e => e)
  obtain ⟨d, o, es, ep, news, rfl, lo, hh, F, N, hm, hc, hd, hsz, R⟩ := h₁
  have hR : RawD s₁.heap d es ep := ⟨o, (N _ hm).1, hc, hd⟩
  refine iter_raw lo hR ?_
  have hlt := hR.lt
  have up : ∀ b o, s₁.heap.get? b = some o → (s₁.heap.push { cls := .type "dict_keyiterator", data := .fields #[.ref d, .int 0 0, .int es.size 0, .int ep 0] }).get? b = some o := fun b o e => Heap.get?_push_of_some _ e
  refine block_T (walks_raw hh s₁.heap.objs.size d (Nat.ne_of_lt hlt) es ep) hsz (fun i h st => by obtain ⟨o, e, _⟩ := st.1; exact ⟨o, e⟩) (fun i h h' o' nw st e e' k N' S => ⟨by obtain ⟨o₂, q, r⟩ := st.1; rw [e] at q; cases q; exact ⟨o', e', r⟩, ⟨o, (N' _ S).1, hc, hd⟩⟩) hcell hkind hx ⟨⟨_, Heap.get?_push_size _ rfl, rfl, rfl⟩, hR.at fun o e => up _ o e⟩ (fun b hb => ?_)
    (F.keeps up) (N.grown up) (Nat.ne_of_lt F.ns.lt) (next_is_new F) (fun p hp => Nat.ne_of_lt (Heap.lt_size (N p hp).1)) hm (R _ ⟨_, rfl⟩) ?_
  · show b < (s₁.heap.push _).objs.size
    rw [Heap.size_push]
    rcases List.mem_cons.mp hb with rfl | hb
    · exact Nat.lt_succ_self _
    · rw [List.mem_singleton.mp hb]; exact Nat.lt_succ_of_lt hlt
  · intro D C h tk m' ys news' F' N' o1 hn hC₀ hD₀ hCL hDL hCD offC fin
    refine ⟨m', hn, fun h'' hs'' => fin D h'' tk (F'.change hs'' hCL hC₀) (fun p hp => ?_) o1⟩
    refine ⟨hs''.extBut _ _ ?_ (N' p hp).1, (N' p hp).2⟩
    rcases List.mem_cons.mp hp with rfl | hp
    · exact Ne.symm hCD
    · exact offC p hp
/-- every test says no: the list stays empty -/
def TurnNo (h₀ : Heap) (L : Addr) (m : Str → Option Value) (s : Shared) (led : Led) (ok : Bool) (s' : Shared) : Prop := ok = false ∧ ∃ h' tk, s' = { s with heap := h', toks := tk } ∧ Fr h₀ L h' m ∧ News h₀ L h' led
theorem rest_none {ct elt : Expr} {x : Str} {scope : Scope} {cl : List (Str × Addr)} {S : Led → Prop} {P : Nat → Value → Prop} {Fin : List Value → Led → Prop} {news : Led} (hS : S news) (hF : Fin [] news)
    (ht : ∀ i v I oI C oC D m₂ h tk (E' : Value → Shared → Prop), P i v → NsObj oC m₂ → m₂ x = some v → Fr h₀ L h m → News h₀ L h ((I, oI) :: (C, oC) :: (D, lst []) :: news) → Off3 I C D news → ((@Ne Nat I C) ∧ (@Ne Nat I D) ∧ (@Ne Nat C D)) →
      wpAny (model prog w) A (isTrue ct (compEnvC scope cl C env) (eval ct (compEnvC scope cl C env))) (TurnNo h₀ L m s ((I, oI) :: (C, oC) :: (D, lst []) :: news)) E' { s with heap := h, toks := tk }) :
    ∀ k i, CompRestT prog w A h₀ L m env ct elt x scope cl s S P Fin k i [] news
  | 0, _ => hF
  | k + 1, i => by
    refine CompRestT.succ ?_
    intro v I oI C oC D m₂ h tk E' hP hC hx F N off ne
    refine wpAny_mono (ht i v I oI C oC D m₂ h tk E' hP hC hx F N off ne) (fun ok s' q => ?_) fun _ _ e => e
    obtain ⟨rfl, h', tk', rfl, F', N'⟩ := q
    simp only [Bool.false_eq_true, if_false]
    exact CompEnd.intro (s₁ := { s with heap := h, toks := tk }) F' N' news (fun _ hp => hp) off hS (rest_none hS hF ht k (i + 1))
end
end
end Mine
namespace Mine
open LCg LCt
/-- the list comprehension over the dict of the images: each turn meets the tuple of an image -/
theorem met_src {prog : Program} {w : World} {A : Around} {s₁ : Shared} {h₀ : Heap} {L d : Addr} {m : Str → Option Value} {env : Env} {ct elt : Expr} {x : Str} {scope : Scope} {cl : List (Str × Addr)} {Fin : Shared → List Value → Led → Prop} {news : Led} {xs : List Ent} {ims : List (Int × Int)}
    (hh : A.handled = none) (F : Fr h₀ L s₁.heap m) (N : News h₀ L s₁.heap news) (T : MetTab prog w news d xs) (M : MX xs ims) (hsz : xs.length ≤ sizeLine) (hF : ∀ g, Fin { s₁ with heap := g } [] news)
    (ht : ∀ g a x' y' t1 t2 c I oI C oC D m₂ h tk (E' : Value → Shared → Prop), (a, tup2 x' y' t1 t2 c) ∈ news → (x', y') ∈ ims → NsObj oC m₂ → m₂ x = some (.ref a) → Fr h₀ L h m → News h₀ L h ((I, oI) :: (C, oC) :: (D, lst []) :: news) → Off3 I C D news → ((@Ne Nat I C) ∧ (@Ne Nat I D) ∧ (@Ne Nat C D)) →
      wpAny (model prog w) A (isTrue ct (compEnvC scope cl C env) (eval ct (compEnvC scope cl C env))) (TurnNo h₀ L m { s₁ with heap := g } ((I, oI) :: (C, oC) :: (D, lst []) :: news)) E' { s₁ with heap := h, toks := tk }) :
    CompSrcD prog w A h₀ L m env ct elt x scope cl Fin (.ref d) s₁ := by
  obtain ⟨lo, o, es, ep, hm, hc, hd, he, _, hk⟩ := T
  have hlen : es.size = xs.length := by rw [← Array.length_toList, he, List.length_map]
  refine ⟨d, o, es, ep, news, rfl, lo, hh, F, N, hm, hc, hd, by rw [hlen]; exact hsz, ?_⟩
  rintro _ ⟨g, rfl⟩
  refine rest_none (s := { s₁ with heap := g }) hm (hF g) (fun i v I oI C oC D m₂ h tk E' hP hC hx F' N' off ne => ?_) _ _
  obtain ⟨hi, rfl⟩ := hP
  have hi' : i < xs.length := hlen ▸ hi
  have e1 : es[i].key = .ref (xs[i]).2.1 := by
    have h1 : es.toList[i]? = (xs.map (entryOfKey (tupleKind (intKind prog w))))[i]? := by rw [he]
    rw [List.getElem?_map, List.getElem?_eq_getElem hi', List.getElem?_eq_getElem (by simpa using hi)] at h1
    have h2 := Option.some.inj h1
    rw [← Array.getElem_toList hi, h2]
    rfl
  have hx' : xs[i] ∈ xs := List.getElem_mem _
  obtain ⟨q, t, hq, e2, _⟩ := M.1 _ hx'
  obtain ⟨ok, hok, hT, h2⟩ := hk _ hx'
  rw [e2] at hT
  obtain ⟨t1, t2, c, rfl⟩ := t2_key h2 hT
  rw [e1] at hx
  exact ht g _ q.1 q.2 t1 t2 c I oI C oC D m₂ h tk E' hok hq hC hx F' N' off ne
end Mine
-- part S3
namespace Mine
local macro_rules | `(tactic| walk_at "no key of this name") => `(tactic| fail)
theorem calm_S3 : True := by w_top off; trivial
local macro_rules | `(tactic| mul_fits) => `(tactic| first
  | (with_reducible show Bd _ _); first
    | (refine Bd.var (by with_reducible assumption) (by with_reducible assumption))
    | (refine Bd.var ?_ ?_ <;> omega)
    | (refine Bd.mul ?_ ?_ <;> mul_fits) | (refine Bd.pow ?_ <;> mul_fits) | (refine Bd.add ?_ ?_ <;> mul_fits) | (refine Bd.sub ?_ ?_ <;> mul_fits)
    | (refine Bd.small ?_ ?_ <;> omega))
local macro_rules | `(tactic| walk_at "binaryOp Mult int int") => `(tactic| (with_reducible refine' mul_b ?kb1 ?kb2 ?_; (case kb1 => mul_fits); (case kb2 => decide)))
local macro_rules | `(tactic| walk_at "binaryOp Pow int int") => `(tactic| (with_reducible refine' pow_b ?kb0 ?kb1 ?kb2 ?kb3 ?kb4 ?_; (case kb0 => with_unfolding_all first | exact to2 | exact to3 | exact to4); (case kb1 => mul_fits); (case kb2 => decide); (case kb3 => decide); (case kb4 => decide)))
local macro_rules | `(tactic| walk_at "binaryOp Mod int int") => `(tactic| (with_reducible refine mod_b ?kb1 ?_; (case kb1 => omega); intro r' hr' h0' h1'))
local macro_rules | `(tactic| cell_step) => `(tactic| repeat' ((fail_if_success (with_reducible show wpAny _ _ (exec (Stmt.While _ _ _ _) _) _ _ _)); (fail_if_success (with_reducible show wpAny _ _ (pyIter _) _ _ _)); (fail_if_success (with_reducible show KswEnd _ _ _ _ _ _ _ _ _ _ _ _)); (fail_if_success (with_reducible show wpAny _ _ (call (Value.ref 71) _) _ _ _)); first | (k_unfold; (try dsimp only)) | (walk1; try dsimp only) | (dsimp only; walk1)))
local macro_rules | `(tactic| walk_at "RPost") => `(tactic| (dsimp only [RPost]))
local macro_rules | `(tactic| walk_at "subscriptTail Name Slice ref ref") => `(tactic| (k_here; k_dflt (refine' kmk_slice_ints ?F ?N ?l ?p ?q ?i ?m ?c ?_ ?s ?t ?z; (case F => k_asm); (case N => k_asm); (case l => kmk_list); (case p => kmk_part); (case q => kmk_part); (case i => (first | with_reducible assumption | with_reducible exact .cons _ _ (.cons _ _ (.cons _ _ (.cons _ _ (.cons _ _ (.cons _ _ (.cons _ _ .nil)))))))); (case m => first | exact kmk_upto (by (first | with_reducible assumption | with_reducible exact .cons _ _ (.cons _ _ (.cons _ _ (.cons _ _ (.cons _ _ (.cons _ _ (.cons _ _ .nil)))))))) (by decide) | exact kmk_from (by (first | with_reducible assumption | with_reducible exact .cons _ _ (.cons _ _ (.cons _ _ (.cons _ _ (.cons _ _ (.cons _ _ (.cons _ _ .nil)))))))) (Int.natCast_nonneg _)); (case c => exact rfl); (case s => with_unfolding_all rfl); (case t => kmk_pure); (case z => kmk_size)); intro D' ws' h' F' N' l1 hI' hC' hL'; (try k_lt l1); (try k_sweep)))
local macro_rules | `(tactic| k_all) => `(tactic| first | exact List.forall_mem_nil _ | assumption | (refine' List.forall_mem_cons.mpr ⟨?a, ?b⟩; (case a => k_ne); (case b => k_all)))
local macro_rules | `(tactic| walk_at "call ref") => `(tactic| (k_here; k_dflt (refine' pts_use ?b1 ?b2 ?b3 ?k1 ?k2 ?k3 ?k4 ?k5 ?kK ?kd ?ku ?_; (case k1 => k_asm); (case k2 => k_asm); (case k3 => k_asm); (case k4 => k_asm); (case k5 => k_asm); (case kK => first | exact rfl | assumption); (case b1 => assumption); (case b2 => first | assumption | (constructor <;> omega)); (case b3 => first | assumption | (constructor <;> omega)); (case kd => ktr_room); (case ku => ktr_units); k_whole); intro D' us' c' tl' h' tk' ht' hp' l1' F' N'; simp only [AllLt, and_true] at l1'))
set_option maxHeartbeats 8000000
noncomputable def S3p : { P : Prop // Hid P → S2 } := ⟨_, fun hP => by
  unfold S2
  intro w s₀ s₁ mg mb fa o pm doc hg T wc1 wc2 l h₁ tk₁ co1 co2 co3 Q HQ v1 cd1 v2 cd2 v3 cd3 K1 D ws tk t97 h p hp cs cI hcl hD m2 hPb KX t98 ar a0 a1 h98 n98 tk98 c1 hra ea h2 tk2 m3 N3 ta av F3 hav
  clear n98 h98 t98 ea hra a0 a1 ar c1 tk98 m2 h tk
  have hav0 := hav.1
  revert KX; k_fill; intro KX
  repeat' ((fail_if_success (with_reducible show wpAny _ _ (storeName _ (Str.ofString "points") _) _ _ _)); first | (walk1; try dsimp only) | (dsimp only; walk1))
  rename_i t9 b hb b0 b1 h9 F9 N9 Dp us c tl h3 tk3 htl hpa lF lN hDp
  clear F9 N9 h9 hb
  simp only [List.cons_append, List.nil_append] at lN
  have hoff := tups_off (b := s₁.heap.objs.size + 1) (o := co3) lN (by k_mem) (fun q hq => .tail _ (.tail _ (.tail _ (.tail _ (.tail _ hq))))) htl cd3
  walk1
  repeat' ((fail_if_success (with_reducible show wpAny _ _ (exec (Stmt.While _ _ _ _) _) _ _ _)); first | (walk1; try dsimp only) | (dsimp only; walk1))
  rename_i zz1 zz2 zz3 zz4 zz5 zz6
  revert w s₀ s₁ mg mb fa o pm doc hg T wc1 wc2 l h₁ tk₁ co1 co2 co3 Q HQ v1 cd1 v2 cd2 v3 cd3 K1 D ws t97 p hp cs cI hcl hD hPb h2 tk2 m3 ta av hav hav0 KX t9 b b0 b1 zz1 Dp us c tl h3 tk3 htl hpa hDp hoff zz2 zz3 zz4 zz5 zz6 tk
  exact hP.out⟩
/-- what is left behind the part 3 of the walk -/
def S3 : Prop := S3p.1
theorem S3_to (h : S3) : S2 := S3p.2 ⟨h⟩
end Mine
-- part S4
namespace Mine
local macro_rules | `(tactic| walk_at "no key of this name") => `(tactic| fail)
theorem calm_S4 : True := by w_top off; trivial
local macro_rules | `(tactic| mul_fits) => `(tactic| first
  | (with_reducible show Bd _ _); first
    | (refine Bd.var (by with_reducible assumption) (by with_reducible assumption))
    | (refine Bd.var ?_ ?_ <;> omega)
    | (refine Bd.mul ?_ ?_ <;> mul_fits) | (refine Bd.pow ?_ <;> mul_fits) | (refine Bd.add ?_ ?_ <;> mul_fits) | (refine Bd.sub ?_ ?_ <;> mul_fits)
    | (refine Bd.small ?_ ?_ <;> omega))
local macro_rules | `(tactic| walk_at "binaryOp Mult int int") => `(tactic| (with_reducible refine' mul_b ?kb1 ?kb2 ?_; (case kb1 => mul_fits); (case kb2 => decide)))
local macro_rules | `(tactic| walk_at "binaryOp Pow int int") => `(tactic| (with_reducible refine' pow_b ?kb0 ?kb1 ?kb2 ?kb3 ?kb4 ?_; (case kb0 => with_unfolding_all first | exact to2 | exact to3 | exact to4); (case kb1 => mul_fits); (case kb2 => decide); (case kb3 => decide); (case kb4 => decide)))
local macro_rules | `(tactic| walk_at "binaryOp Mod int int") => `(tactic| (with_reducible refine mod_b ?kb1 ?_; (case kb1 => omega); intro r' hr' h0' h1'))
local macro_rules | `(tactic| cell_step) => `(tactic| repeat' ((fail_if_success (with_reducible show wpAny _ _ (exec (Stmt.While _ _ _ _) _) _ _ _)); (fail_if_success (with_reducible show wpAny _ _ (pyIter _) _ _ _)); (fail_if_success (with_reducible show KswEnd _ _ _ _ _ _ _ _ _ _ _ _)); (fail_if_success (with_reducible show wpAny _ _ (call (Value.ref 71) _) _ _ _)); first | (k_unfold; (try dsimp only)) | (walk1; try dsimp only) | (dsimp only; walk1)))
local macro_rules | `(tactic| walk_at "RPost") => `(tactic| (dsimp only [RPost]))
local macro_rules | `(tactic| walk_at "subscriptTail Name Slice ref ref") => `(tactic| (k_here; k_dflt (refine' kmk_slice_ints ?F ?N ?l ?p ?q ?i ?m ?c ?_ ?s ?t ?z; (case F => k_asm); (case N => k_asm); (case l => kmk_list); (case p => kmk_part); (case q => kmk_part); (case i => (first | with_reducible assumption | with_reducible exact .cons _ _ (.cons _ _ (.cons _ _ (.cons _ _ (.cons _ _ (.cons _ _ (.cons _ _ .nil)))))))); (case m => first | exact kmk_upto (by (first | with_reducible assumption | with_reducible exact .cons _ _ (.cons _ _ (.cons _ _ (.cons _ _ (.cons _ _ (.cons _ _ (.cons _ _ .nil)))))))) (by decide) | exact kmk_from (by (first | with_reducible assumption | with_reducible exact .cons _ _ (.cons _ _ (.cons _ _ (.cons _ _ (.cons _ _ (.cons _ _ (.cons _ _ .nil)))))))) (Int.natCast_nonneg _)); (case c => exact rfl); (case s => with_unfolding_all rfl); (case t => kmk_pure); (case z => kmk_size)); intro D' ws' h' F' N' l1 hI' hC' hL'; (try k_lt l1); (try k_sweep)))
local macro_rules | `(tactic| k_all) => `(tactic| first | exact List.forall_mem_nil _ | assumption | (refine' List.forall_mem_cons.mpr ⟨?a, ?b⟩; (case a => k_ne); (case b => k_all)))
local macro_rules | `(tactic| walk_at "call ref") => `(tactic| (k_here; k_dflt (refine' pts_use ?b1 ?b2 ?b3 ?k1 ?k2 ?k3 ?k4 ?k5 ?kK ?kd ?ku ?_; (case k1 => k_asm); (case k2 => k_asm); (case k3 => k_asm); (case k4 => k_asm); (case k5 => k_asm); (case kK => first | exact rfl | assumption); (case b1 => assumption); (case b2 => first | assumption | (constructor <;> omega)); (case b3 => first | assumption | (constructor <;> omega)); (case kd => ktr_room); (case ku => ktr_units); k_whole); intro D' us' c' tl' h' tk' ht' hp' l1' F' N'; simp only [AllLt, and_true] at l1'))

local macro_rules | `(tactic| walk_at "compareOp Eq ref ref") => `(tactic| (k_here; k_dflt (refine' eq_nil ?N ?ma ?Da ?mb ?hu ?_; (case N => k_asm); (case ma => k_mem); (case Da => exact PtAll.up (by assumption) (fun q hq => by repeat' (first | exact hq | apply List.Mem.tail))); (case mb => k_mem); (case hu => k_units); k_whole)))
theorem em1 {x p : Int} (h0 : 0 ≤ x) (h1 : x < p) : x % p = x := Int.emod_eq_of_lt h0 h1
theorem em2 {x p : Int} (h0 : -p ≤ x) (h1 : x < 0) : x % p = x + p := by
  rw [← Int.add_emod_right, em1 (by omega) (by omega)]
theorem fm1 {x p : Int} (h0 : 0 ≤ x) (h1 : x < p) : x.fmod p = x := Int.fmod_eq_of_lt h0 h1
theorem mu_lt {g b p b' : Int} (g0 : 0 ≤ g) (g1 : g < p) (b0 : 0 ≤ b) (b1 : b < p) (hne : b ≠ g) (hb : b' = (b + 1).fmod p) : ((g - b') % p).toNat < ((g - b) % p).toNat := by
  by_cases h : b + 1 < p
  · rw [fm1 (by omega) h] at hb
    subst hb
    by_cases h2 : b < g
    · rw [em1 (by omega) (by omega), em1 (x := g - b) (by omega) (by omega)]; omega
    · rw [em2 (by omega) (by omega), em2 (x := g - b) (by omega) (by omega)]; omega
  · have e : b + 1 = p := by omega
    rw [e, Int.fmod_self] at hb
    subst hb
    rw [em1 (by omega) (by omega), em2 (x := g - b) (by omega) (by omega)]; omega
structure WSt where
  b : Int
  tb : Tok
  Dp : Addr
  us : List Value
  c : Nat
  tl : Led
  o3 : Obj
def wLed (H D : Nat) (ws : List Value) (co1 co2 : Obj) (c : WSt) : Led := (c.Dp, listOf c.us.toArray c.c) :: (D, listOf ws.toArray 0) :: (H + 1 + 1 + 1, co1) :: (H + 1 + 1, co2) :: (H + 1, c.o3) :: c.tl
def wFacts (p av : Int) (H D : Nat) (c : WSt) : Prop := TupLed c.tl ∧ PtAll c.tl c.us (lawPts p av c.b) ∧ c.o3.data = .cell (some (.ref c.Dp)) ∧ @LT.lt Nat _ D c.Dp ∧ @LT.lt Nat _ (H + 1 + 1 + 1) c.Dp
set_option maxHeartbeats 8000000
noncomputable def S4p : { P : Prop // Hid P → S3 } := ⟨_, fun hP => by
  unfold S3
  intro w s₀ s₁ mg mb fa o pm doc hg T wc1 wc2 l h₁ tk₁ co1 co2 co3 Q HQ v1 cd1 v2 cd2 v3 cd3 K1 D ws t97 p hp cs cI hcl hD hPb h2 tk2 m3 ta av hav hav0 KX t9 b b0 b1 tk Dp us c tl h3 tk3 htl hpa hDp hoff h' o' F' N' d' tk'
  revert KX; k_fill; intro KX
  obtain ⟨g, g0, g1, hg9⟩ := good_ex hp hav.1.1 hav.1.2 hav.2
  refine' ksw_while (wLed s₁.heap.objs.size D ws co1 co2) (fun c => [("b", .int c.b c.tb)]) (wFacts p av s₁.heap.objs.size D) ["b"] (fun c => 0 ≤ c.b ∧ c.b < p) (fun c => ((g - c.b) % p).toNat) ⟨b, _, Dp, us, c, tl, o'⟩ F' N' ⟨htl, hpa, d', hDp.1, hDp.2.1⟩ (all1 rfl) ⟨b0, b1⟩ ?_ PassesOwn.never
  clear F' N' d' hoff hDp hpa htl b0 b1
  rintro ⟨b, tb, Dp, us, c, tl, o3⟩ u h tk ⟨htl, hpa, d3, hD1, hD2⟩ ⟨b0, b1⟩ lF lN
  dsimp only at b0 b1 hpa d3 hD1 hD2 htl
  unfold wLed at lN
  dsimp only at lN lF
  repeat' ((fail_if_success (with_reducible show wpAny _ _ (execs (Stmt.Assign [Expr.Name (Str.ofString "n") _] _ _ :: _) _) _ _ _)); (fail_if_success (with_reducible show wpAny _ _ (storeName _ (Str.ofString "points") _) _ _ _)); first | (walk1; try dsimp only) | (dsimp only; walk1))
  · rename Fr _ _ _ _ => lF2
    rename News _ _ _ _ => lN2
    rename TupLed _ => htl2
    rename PtAll _ _ _ => hpa2
    rename lawPts _ _ _ = [] => hno
    rename _ = Int.fmod _ _ => hb2
    rename 0 ≤ _ => b20
    rename _ < p => b21
    rename _ < _ ∧ _ => hD3
    obtain ⟨_, _, hD5, hD6, _⟩ := hD3
    simp only [List.cons_append, List.nil_append] at lN2
    replace lN2 := news_sub lN2 (news' := _ :: _ :: _ :: _ :: _ :: _) (List.forall_mem_cons.mpr ⟨.head _, List.forall_mem_cons.mpr ⟨.tail _ (.tail _ (.tail _ (.head _))), List.forall_mem_cons.mpr ⟨.tail _ (.tail _ (.tail _ (.tail _ (.head _)))), List.forall_mem_cons.mpr ⟨.tail _ (.tail _ (.tail _ (.tail _ (.tail _ (.head _))))), List.forall_mem_cons.mpr ⟨.tail _ (.tail _ (.tail _ (.tail _ (.tail _ (.tail _ (.head _)))))), fun q hq => .tail _ (.tail _ (.tail _ (.tail _ (.tail _ (.tail _ (.tail _ (List.mem_append.mpr (.inr hq))))))))⟩⟩⟩⟩⟩)
    have hoff := tups_off (b := s₁.heap.objs.size + 1) (o := o3) lN2 (by k_mem) (fun q hq => .tail _ (.tail _ (.tail _ (.tail _ (.tail _ hq))))) htl2 d3
    have hm9 := mu_lt g0 g1 b0 b1 (fun e => hg9 (e ▸ hno)) hb2
    walk1
    repeat' ((fail_if_success (with_reducible show KswEnd _ _ _ _ _ _ _ _ _ _ _ _)); first | (walk1; try dsimp only) | (dsimp only; walk1))
    rename Fr _ _ _ _ => lF3
    rename News _ _ _ _ => lN3
    rename Obj.data _ = _ => d9
    refine' ksw_end ⟨_, _, _, _, _, _, _⟩ lF3 lN3 (fun p hp => hp) ⟨htl2, hpa2, d9, hD5, hD6⟩ (all1 rfl) ?_ ⟨b20, b21⟩ hm9
    intro z _ h3
    have hz : ¬ z = Str.ofString "b" := by simpa using h3
    simp only [kstB, hz, if_false, h3, Bool.false_eq_true]
  rename Fr _ _ _ _ => lF2
  rename News _ _ _ _ => lN2
  rename ¬ lawPts _ _ _ = [] => hne
  replace lN2 := news_sub lN2 (fun q hq => .tail _ hq)
  obtain ⟨m4, pF⟩ := fr_pick [("p", .int p t97), ("cells", .ref D), ("a", .int av ta), ("b", .int b tb)] lF2 (all2 rfl (all2 rfl (all2 rfl (all1 rfl))))
  clear lF2
  rename_i zz1 zz2 zz3 zz4 zz5 zz6 zz7 zz8 zz9
  revert w s₀ s₁ mg mb fa o pm doc hg T wc1 wc2 l h₁ tk₁ co1 co2 co3 Q HQ v1 cd1 v2 cd2 v3 cd3 K1 D ws t97 p hp cs cI hcl hD hPb h2 tk2 m3 ta av hav hav0 t9 zz1 zz2 zz3 zz4 zz5 zz6 h3 tk3 h' o' tk' KX g g0 g1 hg9 b tb Dp us c tl o3 u h tk htl hpa d3 hD1 hD2 b0 b1 zz7 zz8 zz9 hne lN2 m4 pF
  exact hP.out⟩
/-- what is left behind the part 4 of the walk -/
def S4 : Prop := S4p.1
theorem S4_to (h : S4) : S3 := S4p.2 ⟨h⟩
end Mine
-- part S5
namespace Mine
theorem calm_S5 : True := by w_top off; trivial
local macro_rules | `(tactic| mul_fits) => `(tactic| first
  | (with_reducible show Bd _ _); first
    | (refine Bd.var (by with_reducible assumption) (by with_reducible assumption))
    | (refine Bd.var ?_ ?_ <;> omega)
    | (refine Bd.mul ?_ ?_ <;> mul_fits) | (refine Bd.pow ?_ <;> mul_fits) | (refine Bd.add ?_ ?_ <;> mul_fits) | (refine Bd.sub ?_ ?_ <;> mul_fits)
    | (refine Bd.small ?_ ?_ <;> omega))
local macro_rules | `(tactic| walk_at "binaryOp Mult int int") => `(tactic| (with_reducible refine' mul_b ?kb1 ?kb2 ?_; (case kb1 => mul_fits); (case kb2 => decide)))
local macro_rules | `(tactic| walk_at "binaryOp Pow int int") => `(tactic| (with_reducible refine' pow_b ?kb0 ?kb1 ?kb2 ?kb3 ?kb4 ?_; (case kb0 => with_unfolding_all first | exact to2 | exact to3 | exact to4); (case kb1 => mul_fits); (case kb2 => decide); (case kb3 => decide); (case kb4 => decide)))
local macro_rules | `(tactic| walk_at "binaryOp Mod int int") => `(tactic| (with_reducible refine mod_b ?kb1 ?_; (case kb1 => omega); intro r' hr' h0' h1'))
local macro_rules | `(tactic| cell_step) => `(tactic| repeat' ((fail_if_success (with_reducible show wpAny _ _ (exec (Stmt.While _ _ _ _) _) _ _ _)); (fail_if_success (with_reducible show wpAny _ _ (pyIter _) _ _ _)); (fail_if_success (with_reducible show KswEnd _ _ _ _ _ _ _ _ _ _ _ _)); (fail_if_success (with_reducible show wpAny _ _ (call (Value.ref 71) _) _ _ _)); first | (k_unfold; (try dsimp only)) | (walk1; try dsimp only) | (dsimp only; walk1)))
local macro_rules | `(tactic| walk_at "RPost") => `(tactic| (dsimp only [RPost]))
local macro_rules | `(tactic| walk_at "subscriptTail Name Slice ref ref") => `(tactic| (k_here; k_dflt (refine' kmk_slice_ints ?F ?N ?l ?p ?q ?i ?m ?c ?_ ?s ?t ?z; (case F => k_asm); (case N => k_asm); (case l => kmk_list); (case p => kmk_part); (case q => kmk_part); (case i => (first | with_reducible assumption | with_reducible exact .cons _ _ (.cons _ _ (.cons _ _ (.cons _ _ (.cons _ _ (.cons _ _ (.cons _ _ .nil)))))))); (case m => first | exact kmk_upto (by (first | with_reducible assumption | with_reducible exact .cons _ _ (.cons _ _ (.cons _ _ (.cons _ _ (.cons _ _ (.cons _ _ (.cons _ _ .nil)))))))) (by decide) | exact kmk_from (by (first | with_reducible assumption | with_reducible exact .cons _ _ (.cons _ _ (.cons _ _ (.cons _ _ (.cons _ _ (.cons _ _ (.cons _ _ .nil)))))))) (Int.natCast_nonneg _)); (case c => exact rfl); (case s => with_unfolding_all rfl); (case t => kmk_pure); (case z => kmk_size)); intro D' ws' h' F' N' l1 hI' hC' hL'; (try k_lt l1); (try k_sweep)))
local macro_rules | `(tactic| k_all) => `(tactic| first | exact List.forall_mem_nil _ | assumption | (refine' List.forall_mem_cons.mpr ⟨?a, ?b⟩; (case a => k_ne); (case b => k_all)))
local macro_rules | `(tactic| walk_at "call ref") => `(tactic| (k_here; k_dflt (refine' pts_use ?b1 ?b2 ?b3 ?k1 ?k2 ?k3 ?k4 ?k5 ?kK ?kd ?ku ?_; (case k1 => k_asm); (case k2 => k_asm); (case k3 => k_asm); (case k4 => k_asm); (case k5 => k_asm); (case kK => first | exact rfl | assumption); (case b1 => assumption); (case b2 => first | assumption | (constructor <;> omega)); (case b3 => first | assumption | (constructor <;> omega)); (case kd => ktr_room); (case ku => ktr_units); k_whole); intro D' us' c' tl' h' tk' ht' hp' l1' F' N'; simp only [AllLt, and_true] at l1'))

local macro_rules | `(tactic| walk_at "compareOp Eq ref ref") => `(tactic| (k_here; k_dflt (refine' eq_nil ?N ?ma ?Da ?mb ?hu ?_; (case N => k_asm); (case ma => k_mem); (case Da => exact PtAll.up (by assumption) (fun q hq => by repeat' (first | exact hq | apply List.Mem.tail))); (case mb => k_mem); (case hu => k_units); k_whole)))

local macro_rules | `(tactic| walk_at "subscriptTail Name Constant ref int") => `(tactic| (k_here; k_dflt (refine' pts_item ?N ?ml ?Da ?h0 ?h1 ?h9 ?_ ?hs; (case N => k_asm); (case ml => k_mem); (case Da => exact PtAll.up (by assumption) (fun q hq => by repeat' (first | exact hq | apply List.Mem.tail))); (case h0 => decide); (case h1 => omega); (case h9 => omega); (case hs => with_unfolding_all rfl)); intro d' x' y' t1' t2' c' hq' N'))
local macro_rules | `(tactic| walk_at "call builtin:len") => `(tactic| (k_here; k_dflt (refine' pts_lenR ?N ?ml ?Da ?h9 ?_; (case N => k_asm); (case ml => k_mem); (case Da => exact PtAll.up (by assumption) (fun q hq => by repeat' (first | exact hq | apply List.Mem.tail))); (case h9 => omega))))
set_option maxHeartbeats 8000000
noncomputable def S5p : { P : Prop // Hid P → S4 } := ⟨_, fun hP => by
  unfold S4
  intro w s₀ s₁ mg mb fa o pm doc hg T wc1 wc2 l h₁ tk₁ co1 co2 co3 Q HQ v1 cd1 v2 cd2 v3 cd3 K1 D ws t97 p hp cs cI hcl hD hPb h2 tk2 m3 ta av hav hav0 t9 b9 tk9 Dp9 us9 c9 tl9 h39 tk39 h9 o9 tk9' KX g g0 g1 hg9 b tb Dp us c tl o3 u h tk htl hpa d3 hD1 hD2 b0 b1 l9 h99 l1 hne lN m4 lF
  clear l1 l9 h h39 tk39 u hg9 g1 g0 g tk9' o9 h9 tl9 c9 us9 Dp9 tk9 b9 t9 tk2 h2 m3
  revert KX; k_fill; intro KX
  have hlen : 3 ≤ (lawPts p av b).length := plain_three hp hav b0 b1 hne
  have hlen2 := lawPts_len (p := p) (a := av) (b := b) hp
  repeat' ((fail_if_success (with_reducible show wpAny _ _ (storeName _ (Str.ofString "met") _) _ _ _)); first | (walk1; try dsimp only) | (dsimp only; walk1))
  rename_i t8 r hr r0 r1 h9 tk9 d91 gx y91 t91 t92 c91 hq91 d92 x92 gy t93 t94 c92 hq92 Dc h92 l91 h93 dm h94 om lF2 lN2 lo hs9 fs9 hi9 fi9 l92
  clear fs9 hs9 fi9 h93 h92 h9 hq91 hq92
  obtain ⟨hc1, hc2, hc3, hc4, hc5, hc6, hc7, hc8⟩ := l91
  obtain ⟨hm1, hm2, hm3, hm4, hm5, hm6, hm7, hm8, hm9⟩ := l92
  replace lN2 := news_sub lN2 (news' := _ :: _ :: _ :: _ :: _ :: _ :: _ :: _) (List.forall_mem_cons.mpr ⟨.head _, List.forall_mem_cons.mpr ⟨.tail _ (.head _), List.forall_mem_cons.mpr ⟨.tail _ (.tail _ (.tail _ (.tail _ (.head _)))), List.forall_mem_cons.mpr ⟨.tail _ (.tail _ (.tail _ (.tail _ (.tail _ (.head _))))), List.forall_mem_cons.mpr ⟨.tail _ (.tail _ (.tail _ (.tail _ (.tail _ (.tail _ (.head _)))))), List.forall_mem_cons.mpr ⟨.tail _ (.tail _ (.tail _ (.tail _ (.tail _ (.tail _ (.tail _ (.head _))))))), List.forall_mem_cons.mpr ⟨.tail _ (.tail _ (.tail _ (.tail _ (.tail _ (.tail _ (.tail _ (.tail _ (.head _)))))))), fun q hq => .tail _ (.tail _ (.tail _ (.tail _ (.tail _ (.tail _ (.tail _ (.tail _ (.tail _ hq))))))))⟩⟩⟩⟩⟩⟩⟩)
  have hoff := tups_off (b := s₁.heap.objs.size + 1 + 1) (o := co2) lN2 (by k_mem) (fun q hq => .tail _ (.tail _ (.tail _ (.tail _ (.tail _ (.tail _ (.tail _ hq))))))) htl cd2
  walk1
  repeat' ((fail_if_success (with_reducible show wpAny _ _ (pyIter _) _ _ _)); first | (walk1; try dsimp only) | (dsimp only; walk1))
  rename_i zz1 zz2 zz3 zz4 zz5 zz6 zz7 zz8 zz9 zz10 zz11 zz12 zz13 zz14 zz15 zz16 zz17 zz18 zz19 zz20 zz21
  revert w s₀ s₁ mg mb fa o pm doc hg T wc1 wc2 l h₁ tk₁ co1 co2 co3 Q HQ v1 cd1 v2 cd2 v3 cd3 K1 D ws t97 p hp cs cI hcl hD hPb ta av hav hav0 b tb Dp us c tl o3 zz1 htl hpa d3 hD1 hD2 b0 b1 h99 hne m4 KX hlen hlen2 t8 r hr r0 r1 tk9 d91 gx y91 t91 t92 c91 d92 x92 gy t93 t94 c92 Dc zz2 dm h94 om lo hi9 hc1 hc2 hc3 hc4 hc5 hc6 hc7 hc8 hm1 hm2 hm3 hm4 hm5 hm6 hm7 hm8 hm9 hoff zz3 zz4 zz5 zz6 zz7 zz8 zz9 zz10 zz11 zz12 tk zz13 zz14 zz15 zz16 zz17 zz18 zz19 zz20 zz21
  exact hP.out⟩
/-- what is left behind the part 5 of the walk -/
def S5 : Prop := S5p.1
theorem S5_to (h : S5) : S4 := S5p.2 ⟨h⟩
end Mine
-- part S6
namespace Mine
theorem calm_S6 : True := by w_top off; trivial
local macro_rules | `(tactic| mul_fits) => `(tactic| first
  | (with_reducible show Bd _ _); first
    | (refine Bd.var (by with_reducible assumption) (by with_reducible assumption))
    | (refine Bd.var ?_ ?_ <;> omega)
    | (refine Bd.mul ?_ ?_ <;> mul_fits) | (refine Bd.pow ?_ <;> mul_fits) | (refine Bd.add ?_ ?_ <;> mul_fits) | (refine Bd.sub ?_ ?_ <;> mul_fits)
    | (refine Bd.small ?_ ?_ <;> omega))
local macro_rules | `(tactic| walk_at "binaryOp Mult int int") => `(tactic| (with_reducible refine' mul_b ?kb1 ?kb2 ?_; (case kb1 => mul_fits); (case kb2 => decide)))
local macro_rules | `(tactic| walk_at "binaryOp Pow int int") => `(tactic| (with_reducible refine' pow_b ?kb0 ?kb1 ?kb2 ?kb3 ?kb4 ?_; (case kb0 => with_unfolding_all first | exact to2 | exact to3 | exact to4); (case kb1 => mul_fits); (case kb2 => decide); (case kb3 => decide); (case kb4 => decide)))
local macro_rules | `(tactic| walk_at "binaryOp Mod int int") => `(tactic| (with_reducible refine mod_b ?kb1 ?_; (case kb1 => omega); intro r' hr' h0' h1'))
local macro_rules | `(tactic| cell_step) => `(tactic| repeat' ((fail_if_success (with_reducible show wpAny _ _ (exec (Stmt.While _ _ _ _) _) _ _ _)); (fail_if_success (with_reducible show wpAny _ _ (pyIter _) _ _ _)); (fail_if_success (with_reducible show KswEnd _ _ _ _ _ _ _ _ _ _ _ _)); (fail_if_success (with_reducible show wpAny _ _ (call (Value.ref 71) _) _ _ _)); first | (k_unfold; (try dsimp only)) | (walk1; try dsimp only) | (dsimp only; walk1)))
local macro_rules | `(tactic| walk_at "RPost") => `(tactic| (dsimp only [RPost]))
local macro_rules | `(tactic| walk_at "subscriptTail Name Slice ref ref") => `(tactic| (k_here; k_dflt (refine' kmk_slice_ints ?F ?N ?l ?p ?q ?i ?m ?c ?_ ?s ?t ?z; (case F => k_asm); (case N => k_asm); (case l => kmk_list); (case p => kmk_part); (case q => kmk_part); (case i => (first | with_reducible assumption | with_reducible exact .cons _ _ (.cons _ _ (.cons _ _ (.cons _ _ (.cons _ _ (.cons _ _ (.cons _ _ .nil)))))))); (case m => first | exact kmk_upto (by (first | with_reducible assumption | with_reducible exact .cons _ _ (.cons _ _ (.cons _ _ (.cons _ _ (.cons _ _ (.cons _ _ (.cons _ _ .nil)))))))) (by decide) | exact kmk_from (by (first | with_reducible assumption | with_reducible exact .cons _ _ (.cons _ _ (.cons _ _ (.cons _ _ (.cons _ _ (.cons _ _ (.cons _ _ .nil)))))))) (Int.natCast_nonneg _)); (case c => exact rfl); (case s => with_unfolding_all rfl); (case t => kmk_pure); (case z => kmk_size)); intro D' ws' h' F' N' l1 hI' hC' hL'; (try k_lt l1); (try k_sweep)))
local macro_rules | `(tactic| k_all) => `(tactic| first | exact List.forall_mem_nil _ | assumption | (refine' List.forall_mem_cons.mpr ⟨?a, ?b⟩; (case a => k_ne); (case b => k_all)))
local macro_rules | `(tactic| walk_at "call ref") => `(tactic| (k_here; k_dflt (refine' pts_use ?b1 ?b2 ?b3 ?k1 ?k2 ?k3 ?k4 ?k5 ?kK ?kd ?ku ?_; (case k1 => k_asm); (case k2 => k_asm); (case k3 => k_asm); (case k4 => k_asm); (case k5 => k_asm); (case kK => first | exact rfl | assumption); (case b1 => assumption); (case b2 => first | assumption | (constructor <;> omega)); (case b3 => first | assumption | (constructor <;> omega)); (case kd => ktr_room); (case ku => ktr_units); k_whole); intro D' us' c' tl' h' tk' ht' hp' l1' F' N'; simp only [AllLt, and_true] at l1'))

local macro_rules | `(tactic| walk_at "compareOp Eq ref ref") => `(tactic| (k_here; k_dflt (refine' eq_nil ?N ?ma ?Da ?mb ?hu ?_; (case N => k_asm); (case ma => k_mem); (case Da => exact PtAll.up (by assumption) (fun q hq => by repeat' (first | exact hq | apply List.Mem.tail))); (case mb => k_mem); (case hu => k_units); k_whole)))
local macro_rules | `(tactic| walk_at "subscriptTail Name Name ref int") => `(tactic| (k_here; k_dflt (refine' pts_item ?N ?ml ?Da ?h0 ?h1 ?h9 ?_ ?hs; (case N => k_asm); (case ml => k_mem); (case Da => exact PtAll.up (by assumption) (fun q hq => by repeat' (first | exact hq | apply List.Mem.tail))); (case h0 => omega); (case h1 => omega); (case h9 => omega); (case hs => with_unfolding_all rfl)); intro d' x' y' t1' t2' c' hq' N'))
local macro_rules | `(tactic| walk_at "call ref") => `(tactic| (k_here; k_dflt (refine' mul_use ?C ?m1 ?m2 ?bP ?b1 ?b2 ?b3 ?b4 ?b5 ?k1 ?k2 ?k3 ?k4 ?k5 ?kK ?kd ?ku ?_; (case C => assumption); (case k1 => k_asm); (case k2 => k_asm); (case k3 => k_asm); (case k4 => k_asm); (case k5 => k_asm); (case kK => first | exact rfl | assumption); (case m1 => k_mem); (case m2 => k_mem); (case bP => assumption); (case b1 => (first | assumption | (refine ⟨⟨?_, ?_⟩, ⟨?_, ?_⟩, ⟨?_, ?_⟩⟩ <;> (try dsimp only) <;> omega))); (case b2 => (first | assumption | omega | (constructor <;> omega))); (case b3 => omega); (case b4 => omega); (case b5 => first | assumption | omega); (case kd => ktr_room); (case ku => ktr_units); k_whole); intro x' y' z' D' u1' u2' u3' c' h' tk' e' a1' a2' a3' a4' a5' a6' F' N'))
local macro_rules | `(tactic| walk_at "call ref") => `(tactic| (k_here; k_dflt (refine' use2 (from_c _ ?m1 ?m2 ?bP ?b1 ?b2 ?b3 ?b4) (fromF_rs ?g1) ?k1 ?k2 ?k3 ?k4 ?k5 ?kK ?kd ?ku ?_; (case k1 => k_asm); (case k2 => k_asm); (case k3 => k_asm); (case k4 => k_asm); (case k5 => k_asm); (case kK => first | exact rfl | assumption); (case m1 => k_mem); (case m2 => k_mem); (case bP => assumption); (case b1 => (first | assumption | omega | (constructor <;> omega))); (case b2 => (first | assumption | omega | (constructor <;> omega))); (case b3 => omega); (case b4 => omega); (case g1 => omega); (case kd => ktr_room); (case ku => ktr_units); k_whole); intro x' y' D' u1' u2' c' h' tk' e' a1' a2' a3' a4' F' N'))
local macro_rules | `(tactic| walk_at "call builtin:list.append") => `(tactic| (k_here; (with_reducible show wpAny _ _ (call (Value.builtin _) [Value.ref _, _]) _ _ _); k_dflt (refine' append_K ?k1 ?k2 ?k3 ?_ ?z; (case k1 => k_asm); (case k2 => k_asm); (case k3 => k_upd); (case z => (simp only [Array.size_push, List.size_toArray, sizeLine_eq]; omega)); k_whole); intro h' F' N'))
local macro_rules | `(tactic| walk_at "getMethod ref") => `(tactic| (k_here; k_dflt (refine' met_getm ?N ?T ?_; (case N => k_asm); (case T => exact MetTab.up (by assumption) (fun q hq => by (rcases List.mem_cons.mp hq with e | hq); (· rw [e]; k_mem); (· repeat' (first | exact hq | apply List.Mem.tail)))))))
local macro_rules | `(tactic| walk_at "call builtin:dict.get") => `(tactic| (k_here; k_dflt (refine' met_get ?N ?T ?M ?ha ?hu ?_; (case N => k_asm); (case T => exact MetTab.up (by assumption) (fun q hq => by (rcases List.mem_cons.mp hq with e | hq); (· rw [e]; k_mem); (· repeat' (first | exact hq | apply List.Mem.tail)))); (case M => assumption); (case ha => k_mem); (case hu => k_units)); intro t' tk'))
local macro_rules | `(tactic| walk_at "RPost") => `(tactic| (dsimp only [RPost]))

theorem mul_pow {prog : Program} {w : World} {A : Around} {E : Value → Shared → Prop} {s : Shared} {Q : Value → Shared → Prop} {a e : Int} {n : Nat} {t u : Tok} (h0 : 0 ≤ e) (h1 : e < 32) (hn : n ≤ 4)
    (h : Q (.int (a * e ^ n) s.toks) { s with toks := s.toks + 1 }) : wpAny (model prog w) A (binaryOp .Mult (.int a t) (.int (e ^ n) u)) Q E s :=
  mul_b (k := 5 * n) (Bd.pow (Bd.var h0 h1)) (by omega) h
local macro_rules | `(tactic| walk_at "binaryOp Mult int int") => `(tactic| (with_reducible refine mul_pow ?kb1 ?kb2 ?kb3 ?_; (case kb1 => omega); (case kb2 => omega); (case kb3 => decide)))
set_option maxHeartbeats 8000000
noncomputable def S6p : { P : Prop // Hid P → S5 } := ⟨_, fun hP => by
  unfold S5
  intro w s₀ s₁ mg mb fa o pm doc hg T wc1 wc2 l h₁ tk₁ co1 co2 co3 Q HQ v1 cd1 v2 cd2 v3 cd3 K1 D ws t97 p hp cs cI hcl hD hPb ta av hav hav0 b tb Dp us c tl o3 tk9' htl hpa d3 hD1 hD2 b0 b1 h99 hne m4 KX hlen hlen2 t8 r hr r0 r1 tk9 d91 gx y91 t91 t92 c91 d92 x92 gy t93 t94 c92 Dc tkc dm h94 om lo hi9 hc1 hc2 hc3 hc4 hc5 hc6 hc7 hc8 hm1 hm2 hm3 hm4 hm5 hm6 hm7 hm8 hm9 hoff h' o' d' tk' Li h2' l1 h3' F' N' tk4 h4' tk5 t₁ u₁ v₁ hrg lF lN hst
  have hMul : MulC w 4 := mul_c w 3 (by decide)
  have hn16 : 2 + r < pw 4 := by have : pw 4 = 16 := rfl; omega
  have homc : om.cls = .type "dict" := by obtain ⟨_, _, hc, _⟩ := hi9; exact hc.1
  generalize hps : lawPts p av b = ps at *
  generalize hNN : (ps.length : Int) = NN at lN hrg
  obtain ⟨l11, l12, l13, l14, l15, l16, l17, l18⟩ := l1
  clear hst F' N' h2' tk' hoff h' hc8 hm9 h94 h99
  obtain ⟨tn, m5, pF⟩ : ∃ tn m', Fr s₁.heap _ h4' (kstB m' [("p", .int p t97), ("cells", .ref D), ("a", .int av ta), ("b", .int b tb), ("n", .int (2 + r) tn), ("curve", .ref Dc), ("images", .ref Li)]) := ⟨_, fr_pick _ lF (all2 rfl (all2 rfl (all2 rfl (all2 rfl (all2 rfl (all2 rfl (all1 rfl)))))))⟩
  refine rng_loop [(Dc, tup6 p NN av b gx gy t97 (tk9 + 1) ta tb t91 t94 0), (Dp, listOf us.toArray c), (D, listOf ws.toArray 0), (s₁.heap.objs.size + 1 + 1 + 1, co1), (s₁.heap.objs.size + 1 + 1, o'), (s₁.heap.objs.size + 1, o3)] (mainJ Challenge.rw_bb0056_01.row.prog w [(Dc, tup6 p NN av b gx gy t97 (tk9 + 1) ta tb t91 t94 0), (Dp, listOf us.toArray c), (D, listOf ws.toArray 0), (s₁.heap.objs.size + 1 + 1 + 1, co1), (s₁.heap.objs.size + 1 + 1, o'), (s₁.heap.objs.size + 1, o3)] tl Li dm (imgsF p NN av (2 + r) (cs.getD 4 0) ps)
     [("p", .int p t97), ("cells", .ref D), ("a", .int av ta), ("b", .int b tb), ("n", .int (2 + r) tn), ("curve", .ref Dc), ("images", .ref Li)]) (n := ps.length) (by rfl) hrg (small_one (by omega) (by omega) (by omega) (by omega)) (by rw [rangeSize_nat]; omega) pF lN ⟨[], 0, om, [], [], rfl, (fun q hq => nomatch hq), homc, .nil, MetTab.ofEmpty (.head _) lo hi9, MX.nil, Nat.le_refl _, (all2 rfl (all2 rfl (all2 rfl (all2 rfl (all2 rfl (all2 rfl (all1 rfl))))))) ⟩ (fun q hq => ?_) ?_ ?_
  · simp only [List.mem_cons, List.not_mem_nil, or_false] at hq ⊢
    rcases hq with h | h | h | h | h | h <;> simp [h]
  · intro i t m₁ nx h tk own hi hown hJ F₁ N₁
    obtain ⟨iv, ic, om, tl2, xs, rfl, htl2, homc, hpi, hMT, hMX, hxl, hm⟩ := hJ
    have F₂ := fr_known hm F₁
    simp only [Int.zero_add] at F₂
    have hivl := hpi.length
    rw [imgsF_len] at hivl
    clear F₁ hm pF lF lN hrg
    simp only [List.cons_append, List.nil_append] at N₁
    have hoL := off_of (T := tl2 ++ tl ++ own) N₁ (.head _) (fun q hq => .tail _ (.tail _ (.tail _ (.tail _ (.tail _ (.tail _ (.tail _ (.tail _ hq)))))))) (by
      intro q hq
      rcases List.mem_append.mp hq with hq | hq
      · rcases List.mem_append.mp hq with hq | hq
        · left; rw [(htl2 q hq).1]; simp
        · right; exact Nat.ne_of_lt (allLt_mem l18 q hq)
      · left; rw [hown q hq]; simp)
    have hoM := off_of (T := tl2 ++ tl ++ own) N₁ (.tail _ (.head _)) (fun q hq => .tail _ (.tail _ (.tail _ (.tail _ (.tail _ (.tail _ (.tail _ (.tail _ hq)))))))) (by
      intro q hq
      left
      rw [homc]
      rcases List.mem_append.mp hq with hq | hq
      · rcases List.mem_append.mp hq with hq | hq
        · rw [(htl2 q hq).1]; simp
        · rw [(htl q hq).1]; simp
      · rw [hown q hq]; simp)
    have hpaT : PtAll (tl2 ++ tl ++ own) us ps := hpa.up fun q hq => List.mem_append.mpr (.inl (List.mem_append.mpr (.inr hq)))
    have hpiT : PtAll (tl2 ++ tl ++ own) iv _ := hpi.up fun q hq => List.mem_append.mpr (.inl (List.mem_append.mpr (.inl hq)))
    have hMTT : MetTab Challenge.rw_bb0056_01.row.prog w ((dm, om) :: (tl2 ++ tl ++ own)) dm xs := hMT.up fun q hq => (List.mem_cons.mp hq).elim (fun e => e ▸ .head _) fun hq => .tail _ (List.mem_append.mpr (.inl (List.mem_append.mpr (.inl hq))))
    generalize hT : tl2 ++ tl ++ own = T₉ at N₁ hoL hoM hpaT hpiT hMTT
    have hi0 : (0 : Int) ≤ (i : Int) := by omega
    revert KX; k_fill; intro KX
    clear hpa
    repeat' ((fail_if_success (with_reducible show wpAny _ _ (call (Value.builtin "list.append") _) _ _ _)); first | (walk1; try dsimp only) | (dsimp only; walk1))
    all_goals rename News _ _ _ _ => lN2
    all_goals obtain ⟨lN3, hn1, hn2⟩ := cut_img lN2 homc
    all_goals clear lN2
    all_goals repeat' ((fail_if_success (with_reducible show wpAny _ _ (setItem _ _ _) _ _ _)); first | (walk1; try dsimp only) | (dsimp only; walk1))
    all_goals rename Fr _ _ _ _ => lF4
    all_goals rename News _ _ _ _ => lN4
    all_goals rename (_, _) = fromF _ _ => e2
    all_goals rename (_, _, _) = jmulF _ _ _ _ _ _ => e1
    all_goals rename _[_]? = some _ => e0
    all_goals rename _ = Int.fmod (_ + (i : Int)) _ => ez
    all_goals rw [Int.toNat_natCast] at e0
    · rename (i : Int) = 0 => hi00
      have himg : imgF p NN av (2 + r) (cs.getD 4 0) ps i = _ := img_zero hi00 e1 e2
      have hims := imgsF_succ p NN av (2 + r) (cs.getD 4 0) ps i
      rw [himg] at hims
      have hT2 : ∀ q ∈ tl2, q ∈ T₉ := fun q hq => by rw [← hT]; exact List.mem_append.mpr (.inl (List.mem_append.mpr (.inl hq)))
      k_dflt (refine' met_set2 lF4 lN4 hn2 ?h2 ?hR hMT ?hTT hMX rfl ?hu ?hl ?hx ?_)
      (case h2 => (dsimp only; omega))
      (case hR => k_all)
      (case hTT => exact fun q hq => .tail _ (.tail _ (.tail _ (.tail _ (.tail _ (.tail _ (hT2 q hq)))))))
      (case hu => k_units)
      (case hl => rw [imgsF_len]; omega)
      (case hx => rw [sizeLine_eq]; omega)
      intro h9 o9 xs9 tk9' hcls hMT9 hMX9 hlx9 F9 N9
      dsimp only
      repeat' (first | (walk1; try dsimp only) | (dsimp only; walk1))
      exact main_end F9 N9 hT htl htl2 hcls hpi hMT9 hMX9 hims (by omega) (all2 rfl (all2 rfl (all2 rfl (all2 rfl (all2 rfl (all2 rfl (all1 rfl)))))))
    · rename _ = Int.fmod (_ * _ ^ 2) _ => ex
      rename _ = Int.fmod (_ * _ ^ 3) _ => ey
      rename (i : Int) ≠ 0 => hi00
      have himg : imgF p NN av (2 + r) (cs.getD 4 0) ps i = _ := img_pos hi00 e0 ez ex ey e1 e2
      have hims := imgsF_succ p NN av (2 + r) (cs.getD 4 0) ps i
      rw [himg] at hims
      have hT2 : ∀ q ∈ tl2, q ∈ T₉ := fun q hq => by rw [← hT]; exact List.mem_append.mpr (.inl (List.mem_append.mpr (.inl hq)))
      k_dflt (refine' met_set2 lF4 lN4 hn2 ?h2 ?hR hMT ?hTT hMX rfl ?hu ?hl ?hx ?_)
      (case h2 => (dsimp only; omega))
      (case hR => k_all)
      (case hTT => exact fun q hq => .tail _ (.tail _ (.tail _ (.tail _ (.tail _ (.tail _ (hT2 q hq)))))))
      (case hu => k_units)
      (case hl => rw [imgsF_len]; omega)
      (case hx => rw [sizeLine_eq]; omega)
      intro h9 o9 xs9 tk9' hcls hMT9 hMX9 hlx9 F9 N9
      dsimp only
      repeat' (first | (walk1; try dsimp only) | (dsimp only; walk1))
      exact main_end F9 N9 hT htl htl2 hcls hpi hMT9 hMX9 hims (by omega) (all2 rfl (all2 rfl (all2 rfl (all2 rfl (all2 rfl (all2 rfl (all1 rfl)))))))
  intro m₁ nx h tk hJ F₁ N₁
  obtain ⟨iv, ic, om2, tl2, xs, rfl, htl2, homc2, hpi, hMT, hMX, hxl, hm⟩ := hJ
  have F₂ := fr_known0 hm F₁
  clear F₁ hm pF lF lN hrg homc hi9 m5
  simp only [List.cons_append, List.nil_append] at N₁
  dsimp only
  clear h4'
  revert w s₀ s₁ mg mb fa o pm doc hg T wc1 wc2 l h₁ tk₁ co1 co2 co3 Q HQ v1 cd1 v2 cd2 v3 cd3 K1 D ws t97 p hp cs cI hcl hD hPb ta av hav hav0 b tb Dp us c tl o3 tk9' htl d3 hD1 hD2 b0 b1 m4 KX t8 r hr r0 r1 tk9 d91 gx y91 t91 t92 c91 d92 x92 gy t93 t94 c92 Dc tkc dm om lo hc1 hc2 hc3 hc4 hc5 hc6 hc7 hm1 hm2 hm3 hm4 hm5 hm6 hm7 hm8 o' d' Li h3' tk4 tk5 t₁ u₁ v₁ hMul hn16 ps hps hpa hne hlen hlen2 NN hNN l11 l12 l13 l14 l15 l16 l17 l18 tn m₁ h tk iv ic om2 tl2 xs N₁ htl2 homc2 hpi hMT hMX hxl F₂
  exact hP.out⟩
/-- what is left behind the part 6 of the walk -/
def S6 : Prop := S6p.1
theorem S6_to (h : S6) : S5 := S6p.2 ⟨h⟩
end Mine
-- part S7
namespace Mine
theorem calm_S7 : True := by w_top off; trivial
local macro_rules | `(tactic| mul_fits) => `(tactic| first
  | (with_reducible show Bd _ _); first
    | (refine Bd.var (by with_reducible assumption) (by with_reducible assumption))
    | (refine Bd.var ?_ ?_ <;> omega)
    | (refine Bd.mul ?_ ?_ <;> mul_fits) | (refine Bd.pow ?_ <;> mul_fits) | (refine Bd.add ?_ ?_ <;> mul_fits) | (refine Bd.sub ?_ ?_ <;> mul_fits)
    | (refine Bd.small ?_ ?_ <;> omega))
local macro_rules | `(tactic| walk_at "binaryOp Mult int int") => `(tactic| (with_reducible refine' mul_b ?kb1 ?kb2 ?_; (case kb1 => mul_fits); (case kb2 => decide)))
local macro_rules | `(tactic| walk_at "binaryOp Pow int int") => `(tactic| (with_reducible refine' pow_b ?kb0 ?kb1 ?kb2 ?kb3 ?kb4 ?_; (case kb0 => with_unfolding_all first | exact to2 | exact to3 | exact to4); (case kb1 => mul_fits); (case kb2 => decide); (case kb3 => decide); (case kb4 => decide)))
local macro_rules | `(tactic| walk_at "binaryOp Mod int int") => `(tactic| (with_reducible refine mod_b ?kb1 ?_; (case kb1 => omega); intro r' hr' h0' h1'))
local macro_rules | `(tactic| cell_step) => `(tactic| repeat' ((fail_if_success (with_reducible show wpAny _ _ (exec (Stmt.While _ _ _ _) _) _ _ _)); (fail_if_success (with_reducible show wpAny _ _ (pyIter _) _ _ _)); (fail_if_success (with_reducible show KswEnd _ _ _ _ _ _ _ _ _ _ _ _)); (fail_if_success (with_reducible show wpAny _ _ (call (Value.ref 71) _) _ _ _)); first | (k_unfold; (try dsimp only)) | (walk1; try dsimp only) | (dsimp only; walk1)))
local macro_rules | `(tactic| walk_at "RPost") => `(tactic| (dsimp only [RPost]))
local macro_rules | `(tactic| walk_at "subscriptTail Name Slice ref ref") => `(tactic| (k_here; k_dflt (refine' kmk_slice_ints ?F ?N ?l ?p ?q ?i ?m ?c ?_ ?s ?t ?z; (case F => k_asm); (case N => k_asm); (case l => kmk_list); (case p => kmk_part); (case q => kmk_part); (case i => (first | with_reducible assumption | with_reducible exact .cons _ _ (.cons _ _ (.cons _ _ (.cons _ _ (.cons _ _ (.cons _ _ (.cons _ _ .nil)))))))); (case m => first | exact kmk_upto (by (first | with_reducible assumption | with_reducible exact .cons _ _ (.cons _ _ (.cons _ _ (.cons _ _ (.cons _ _ (.cons _ _ (.cons _ _ .nil)))))))) (by decide) | exact kmk_from (by (first | with_reducible assumption | with_reducible exact .cons _ _ (.cons _ _ (.cons _ _ (.cons _ _ (.cons _ _ (.cons _ _ (.cons _ _ .nil)))))))) (Int.natCast_nonneg _)); (case c => exact rfl); (case s => with_unfolding_all rfl); (case t => kmk_pure); (case z => kmk_size)); intro D' ws' h' F' N' l1 hI' hC' hL'; (try k_lt l1); (try k_sweep)))
local macro_rules | `(tactic| k_all) => `(tactic| first | exact List.forall_mem_nil _ | assumption | (refine' List.forall_mem_cons.mpr ⟨?a, ?b⟩; (case a => k_ne); (case b => k_all)))
local macro_rules | `(tactic| walk_at "call ref") => `(tactic| (k_here; k_dflt (refine' pts_use ?b1 ?b2 ?b3 ?k1 ?k2 ?k3 ?k4 ?k5 ?kK ?kd ?ku ?_; (case k1 => k_asm); (case k2 => k_asm); (case k3 => k_asm); (case k4 => k_asm); (case k5 => k_asm); (case kK => first | exact rfl | assumption); (case b1 => assumption); (case b2 => first | assumption | (constructor <;> omega)); (case b3 => first | assumption | (constructor <;> omega)); (case kd => ktr_room); (case ku => ktr_units); k_whole); intro D' us' c' tl' h' tk' ht' hp' l1' F' N'; simp only [AllLt, and_true] at l1'))

local macro_rules | `(tactic| walk_at "compareOp Eq ref ref") => `(tactic| (k_here; k_dflt (refine' eq_nil ?N ?ma ?Da ?mb ?hu ?_; (case N => k_asm); (case ma => k_mem); (case Da => exact PtAll.up (by assumption) (fun q hq => by repeat' (first | exact hq | apply List.Mem.tail))); (case mb => k_mem); (case hu => k_units); k_whole)))
local macro_rules | `(tactic| walk_at "subscriptTail Name Name ref int") => `(tactic| (k_here; k_dflt (refine' pts_item ?N ?ml ?Da ?h0 ?h1 ?h9 ?_ ?hs; (case N => k_asm); (case ml => k_mem); (case Da => exact PtAll.up (by assumption) (fun q hq => by repeat' (first | exact hq | apply List.Mem.tail))); (case h0 => omega); (case h1 => omega); (case h9 => omega); (case hs => with_unfolding_all rfl)); intro d' x' y' t1' t2' c' hq' N'))
local macro_rules | `(tactic| walk_at "call ref") => `(tactic| (k_here; k_dflt (refine' mul_use ?C ?m1 ?m2 ?bP ?b1 ?b2 ?b3 ?b4 ?b5 ?k1 ?k2 ?k3 ?k4 ?k5 ?kK ?kd ?ku ?_; (case C => assumption); (case k1 => k_asm); (case k2 => k_asm); (case k3 => k_asm); (case k4 => k_asm); (case k5 => k_asm); (case kK => first | exact rfl | assumption); (case m1 => k_mem); (case m2 => k_mem); (case bP => assumption); (case b1 => (first | assumption | (refine ⟨⟨?_, ?_⟩, ⟨?_, ?_⟩, ⟨?_, ?_⟩⟩ <;> (try dsimp only) <;> omega))); (case b2 => (first | assumption | omega | (constructor <;> omega))); (case b3 => omega); (case b4 => omega); (case b5 => first | assumption | omega); (case kd => ktr_room); (case ku => ktr_units); k_whole); intro x' y' z' D' u1' u2' u3' c' h' tk' e' a1' a2' a3' a4' a5' a6' F' N'))
local macro_rules | `(tactic| walk_at "call ref") => `(tactic| (k_here; k_dflt (refine' use2 (from_c _ ?m1 ?m2 ?bP ?b1 ?b2 ?b3 ?b4) (fromF_rs ?g1) ?k1 ?k2 ?k3 ?k4 ?k5 ?kK ?kd ?ku ?_; (case k1 => k_asm); (case k2 => k_asm); (case k3 => k_asm); (case k4 => k_asm); (case k5 => k_asm); (case kK => first | exact rfl | assumption); (case m1 => k_mem); (case m2 => k_mem); (case bP => assumption); (case b1 => (first | assumption | omega | (constructor <;> omega))); (case b2 => (first | assumption | omega | (constructor <;> omega))); (case b3 => omega); (case b4 => omega); (case g1 => omega); (case kd => ktr_room); (case ku => ktr_units); k_whole); intro x' y' D' u1' u2' c' h' tk' e' a1' a2' a3' a4' F' N'))
local macro_rules | `(tactic| walk_at "call builtin:list.append") => `(tactic| (k_here; (with_reducible show wpAny _ _ (call (Value.builtin _) [Value.ref _, _]) _ _ _); k_dflt (refine' append_K ?k1 ?k2 ?k3 ?_ ?z; (case k1 => k_asm); (case k2 => k_asm); (case k3 => k_upd); (case z => (simp only [Array.size_push, List.size_toArray, sizeLine_eq]; omega)); k_whole); intro h' F' N'))
local macro_rules | `(tactic| walk_at "getMethod ref") => `(tactic| (k_here; k_dflt (refine' met_getm ?N ?T ?_; (case N => k_asm); (case T => exact MetTab.up (by assumption) (fun q hq => by (rcases List.mem_cons.mp hq with e | hq); (· rw [e]; k_mem); (· repeat' (first | exact hq | apply List.Mem.tail)))))))
local macro_rules | `(tactic| walk_at "call builtin:dict.get") => `(tactic| (k_here; k_dflt (refine' met_get ?N ?T ?M ?ha ?hu ?_; (case N => k_asm); (case T => exact MetTab.up (by assumption) (fun q hq => by (rcases List.mem_cons.mp hq with e | hq); (· rw [e]; k_mem); (· repeat' (first | exact hq | apply List.Mem.tail)))); (case M => assumption); (case ha => k_mem); (case hu => k_units)); intro t' tk'))
local macro_rules | `(tactic| walk_at "RPost") => `(tactic| (dsimp only [RPost]))
set_option maxHeartbeats 8000000
noncomputable def S7p : { P : Prop // Hid P → S6 } := ⟨_, fun hP => by
  unfold S6
  intro w s₀ s₁ mg mb fa o pm doc hg T wc1 wc2 l h₁ tk₁ co1 co2 co3 Q HQ v1 cd1 v2 cd2 v3 cd3 K1 D ws t97 p hp cs cI hcl hD hPb ta av hav hav0 b tb Dp us c tl o3 tk9' htl d3 hD1 hD2 b0 b1 m4 KX t8 r hr r0 r1 tk9 d91 gx y91 t91 t92 c91 d92 x92 gy t93 t94 c92 Dc tkc dm om lo hc1 hc2 hc3 hc4 hc5 hc6 hc7 hm1 hm2 hm3 hm4 hm5 hm6 hm7 hm8 o' d' Li h3' tk4 tk5 t₁ u₁ v₁ hMul hn16 ps hps hpa hne hlen hlen2 NN hNN l11 l12 l13 l14 l15 l16 l17 l18 tn m₁ h tk iv ic om2 tl2 xs N₁ htl2 homc2 hpi hMT hMX hxl F₂
  revert KX; k_fill; intro KX
  have htt : TupLed (tl2 ++ tl) := fun q hq => (List.mem_append.mp hq).elim (htl2 q) (htl q)
  have hoff := tups_off (b := s₁.heap.objs.size + 1 + 1 + 1) (o := co1) N₁ (by k_mem) (fun q hq => .tail _ (.tail _ (.tail _ (.tail _ (.tail _ (.tail _ (.tail _ (.tail _ hq)))))))) htt cd1
  have hMTT : MetTab Challenge.rw_bb0056_01.row.prog w ((dm, om2) :: (tl2 ++ tl)) dm xs := hMT.up fun q hq => (List.mem_cons.mp hq).elim (fun e => e ▸ .head _) fun hq => .tail _ (List.mem_append.mpr (.inl hq))
  have hpaT : PtAll (tl2 ++ tl) us ps := hpa.up fun q hq => List.mem_append.mpr (.inr hq)
  have hpiT : PtAll (tl2 ++ tl) iv _ := hpi.up fun q hq => List.mem_append.mpr (.inl hq)
  clear hMT hpi hpa htl htl2
  generalize tl2 ++ tl = T₉ at *
  repeat' ((fail_if_success (with_reducible show wpAny _ _ (exec (Stmt.If _ _ _ _) _) _ _ _)); first | (walk1; try dsimp only) | (dsimp only; walk1))
  rename_i zz1 zz2 zz3 zz4 zz5 zz6 zz7 zz8 zz9 zz10 zz11 zz12
  revert w s₀ s₁ mg mb fa o pm doc hg T wc1 wc2 l h₁ tk₁ co1 co2 co3 Q HQ v1 cd1 v2 cd2 v3 cd3 K1 D ws t97 p hp cs cI hcl hD hPb ta av hav hav0 b tb Dp us c tl o3 tk9' d3 hD1 hD2 b0 b1 m4 t8 r hr r0 r1 tk9 d91 gx y91 t91 t92 c91 d92 x92 gy t93 t94 c92 Dc tkc dm om lo hc1 hc2 hc3 hc4 hc5 hc6 hc7 hm1 hm2 hm3 hm4 hm5 hm6 hm7 hm8 o' d' Li h3' tk4 tk5 t₁ u₁ v₁ hMul hn16 ps hps hne hlen hlen2 NN hNN l11 l12 l13 l14 l15 l16 l17 l18 tn m₁ h tk iv ic om2 tl2 xs homc2 hMX hxl KX T₉ htt hoff hMTT hpaT hpiT zz1 zz2 zz3 zz4 zz5 zz6 zz7 zz8 zz9 zz10 zz11 zz12
  exact hP.out⟩
/-- what is left behind the part 7 of the walk -/
def S7 : Prop := S7p.1
theorem S7_to (h : S7) : S6 := S7p.2 ⟨h⟩
end Mine
-- part S8
namespace Mine
theorem calm_S8 : True := by w_top off; trivial
local macro_rules | `(tactic| mul_fits) => `(tactic| first
  | (with_reducible show Bd _ _); first
    | (refine Bd.var (by with_reducible assumption) (by with_reducible assumption))
    | (refine Bd.var ?_ ?_ <;> omega)
    | (refine Bd.mul ?_ ?_ <;> mul_fits) | (refine Bd.pow ?_ <;> mul_fits) | (refine Bd.add ?_ ?_ <;> mul_fits) | (refine Bd.sub ?_ ?_ <;> mul_fits)
    | (refine Bd.small ?_ ?_ <;> omega))
local macro_rules | `(tactic| walk_at "binaryOp Mult int int") => `(tactic| (with_reducible refine' mul_b ?kb1 ?kb2 ?_; (case kb1 => mul_fits); (case kb2 => decide)))
local macro_rules | `(tactic| walk_at "binaryOp Pow int int") => `(tactic| (with_reducible refine' pow_b ?kb0 ?kb1 ?kb2 ?kb3 ?kb4 ?_; (case kb0 => with_unfolding_all first | exact to2 | exact to3 | exact to4); (case kb1 => mul_fits); (case kb2 => decide); (case kb3 => decide); (case kb4 => decide)))
local macro_rules | `(tactic| walk_at "binaryOp Mod int int") => `(tactic| (with_reducible refine mod_b ?kb1 ?_; (case kb1 => omega); intro r' hr' h0' h1'))
local macro_rules | `(tactic| cell_step) => `(tactic| repeat' ((fail_if_success (with_reducible show wpAny _ _ (exec (Stmt.While _ _ _ _) _) _ _ _)); (fail_if_success (with_reducible show wpAny _ _ (pyIter _) _ _ _)); (fail_if_success (with_reducible show KswEnd _ _ _ _ _ _ _ _ _ _ _ _)); (fail_if_success (with_reducible show wpAny _ _ (call (Value.ref 71) _) _ _ _)); first | (k_unfold; (try dsimp only)) | (walk1; try dsimp only) | (dsimp only; walk1)))
local macro_rules | `(tactic| walk_at "RPost") => `(tactic| (dsimp only [RPost]))
local macro_rules | `(tactic| walk_at "subscriptTail Name Slice ref ref") => `(tactic| (k_here; k_dflt (refine' kmk_slice_ints ?F ?N ?l ?p ?q ?i ?m ?c ?_ ?s ?t ?z; (case F => k_asm); (case N => k_asm); (case l => kmk_list); (case p => kmk_part); (case q => kmk_part); (case i => (first | with_reducible assumption | with_reducible exact .cons _ _ (.cons _ _ (.cons _ _ (.cons _ _ (.cons _ _ (.cons _ _ (.cons _ _ .nil)))))))); (case m => first | exact kmk_upto (by (first | with_reducible assumption | with_reducible exact .cons _ _ (.cons _ _ (.cons _ _ (.cons _ _ (.cons _ _ (.cons _ _ (.cons _ _ .nil)))))))) (by decide) | exact kmk_from (by (first | with_reducible assumption | with_reducible exact .cons _ _ (.cons _ _ (.cons _ _ (.cons _ _ (.cons _ _ (.cons _ _ (.cons _ _ .nil)))))))) (Int.natCast_nonneg _)); (case c => exact rfl); (case s => with_unfolding_all rfl); (case t => kmk_pure); (case z => kmk_size)); intro D' ws' h' F' N' l1 hI' hC' hL'; (try k_lt l1); (try k_sweep)))
local macro_rules | `(tactic| k_all) => `(tactic| first | exact List.forall_mem_nil _ | assumption | (refine' List.forall_mem_cons.mpr ⟨?a, ?b⟩; (case a => k_ne); (case b => k_all)))
local macro_rules | `(tactic| walk_at "call ref") => `(tactic| (k_here; k_dflt (refine' pts_use ?b1 ?b2 ?b3 ?k1 ?k2 ?k3 ?k4 ?k5 ?kK ?kd ?ku ?_; (case k1 => k_asm); (case k2 => k_asm); (case k3 => k_asm); (case k4 => k_asm); (case k5 => k_asm); (case kK => first | exact rfl | assumption); (case b1 => assumption); (case b2 => first | assumption | (constructor <;> omega)); (case b3 => first | assumption | (constructor <;> omega)); (case kd => ktr_room); (case ku => ktr_units); k_whole); intro D' us' c' tl' h' tk' ht' hp' l1' F' N'; simp only [AllLt, and_true] at l1'))

local macro_rules | `(tactic| walk_at "compareOp Eq ref ref") => `(tactic| (k_here; k_dflt (refine' eq_nil ?N ?ma ?Da ?mb ?hu ?_; (case N => k_asm); (case ma => k_mem); (case Da => exact PtAll.up (by assumption) (fun q hq => by repeat' (first | exact hq | apply List.Mem.tail))); (case mb => k_mem); (case hu => k_units); k_whole)))
local macro_rules | `(tactic| walk_at "subscriptTail Name Name ref int") => `(tactic| (k_here; k_dflt (refine' pts_item ?N ?ml ?Da ?h0 ?h1 ?h9 ?_ ?hs; (case N => k_asm); (case ml => k_mem); (case Da => exact PtAll.up (by assumption) (fun q hq => by repeat' (first | exact hq | apply List.Mem.tail))); (case h0 => omega); (case h1 => omega); (case h9 => omega); (case hs => with_unfolding_all rfl)); intro d' x' y' t1' t2' c' hq' N'))
local macro_rules | `(tactic| walk_at "call ref") => `(tactic| (k_here; k_dflt (refine' mul_use ?C ?m1 ?m2 ?bP ?b1 ?b2 ?b3 ?b4 ?b5 ?k1 ?k2 ?k3 ?k4 ?k5 ?kK ?kd ?ku ?_; (case C => assumption); (case k1 => k_asm); (case k2 => k_asm); (case k3 => k_asm); (case k4 => k_asm); (case k5 => k_asm); (case kK => first | exact rfl | assumption); (case m1 => k_mem); (case m2 => k_mem); (case bP => assumption); (case b1 => (first | assumption | (refine ⟨⟨?_, ?_⟩, ⟨?_, ?_⟩, ⟨?_, ?_⟩⟩ <;> (try dsimp only) <;> omega))); (case b2 => (first | assumption | omega | (constructor <;> omega))); (case b3 => omega); (case b4 => omega); (case b5 => first | assumption | omega); (case kd => ktr_room); (case ku => ktr_units); k_whole); intro x' y' z' D' u1' u2' u3' c' h' tk' e' a1' a2' a3' a4' a5' a6' F' N'))
local macro_rules | `(tactic| walk_at "call ref") => `(tactic| (k_here; k_dflt (refine' use2 (from_c _ ?m1 ?m2 ?bP ?b1 ?b2 ?b3 ?b4) (fromF_rs ?g1) ?k1 ?k2 ?k3 ?k4 ?k5 ?kK ?kd ?ku ?_; (case k1 => k_asm); (case k2 => k_asm); (case k3 => k_asm); (case k4 => k_asm); (case k5 => k_asm); (case kK => first | exact rfl | assumption); (case m1 => k_mem); (case m2 => k_mem); (case bP => assumption); (case b1 => (first | assumption | omega | (constructor <;> omega))); (case b2 => (first | assumption | omega | (constructor <;> omega))); (case b3 => omega); (case b4 => omega); (case g1 => omega); (case kd => ktr_room); (case ku => ktr_units); k_whole); intro x' y' D' u1' u2' c' h' tk' e' a1' a2' a3' a4' F' N'))
local macro_rules | `(tactic| walk_at "call builtin:list.append") => `(tactic| (k_here; (with_reducible show wpAny _ _ (call (Value.builtin _) [Value.ref _, _]) _ _ _); k_dflt (refine' append_K ?k1 ?k2 ?k3 ?_ ?z; (case k1 => k_asm); (case k2 => k_asm); (case k3 => k_upd); (case z => (simp only [Array.size_push, List.size_toArray, sizeLine_eq]; omega)); k_whole); intro h' F' N'))
local macro_rules | `(tactic| walk_at "getMethod ref") => `(tactic| (k_here; k_dflt (refine' met_getm ?N ?T ?_; (case N => k_asm); (case T => exact MetTab.up (by assumption) (fun q hq => by (rcases List.mem_cons.mp hq with e | hq); (· rw [e]; k_mem); (· repeat' (first | exact hq | apply List.Mem.tail)))))))
local macro_rules | `(tactic| walk_at "call builtin:dict.get") => `(tactic| (k_here; k_dflt (refine' met_get ?N ?T ?M ?ha ?hu ?_; (case N => k_asm); (case T => exact MetTab.up (by assumption) (fun q hq => by (rcases List.mem_cons.mp hq with e | hq); (· rw [e]; k_mem); (· repeat' (first | exact hq | apply List.Mem.tail)))); (case M => assumption); (case ha => k_mem); (case hu => k_units)); intro t' tk'))
local macro_rules | `(tactic| walk_at "RPost") => `(tactic| (dsimp only [RPost]))
local macro_rules | `(tactic| walk_at "eval ListComp") => `(tactic| (k_here; k_dflt (refine listcomp_dict (F₀ := by k_asm) (by with_unfolding_all rfl) (by decide) (by rfl) (by decide) (by rfl) ?_)))
theorem notin_no {prog : Program} {w : World} {A : Around} {E : Value → Shared → Prop} {s : Shared} {h₀ : Heap} {L a d : Addr} {news : Led} {us : List Value} {c c' : Nat} {ps : List (Int × Int)} {x y : Int} {t1 t2 : Tok} {Q : Value → Shared → Prop}
    (hin : (x, y) ∈ ps) (N : News h₀ L s.heap news) (ma : (a, listOf us.toArray c) ∈ news) (Da : PtAll news us ps) (md : (d, tup2 x y t1 t2 c') ∈ news) (hu : A.units + 64 < cLine) (h : Q (.bool false) s) : wpAny (model prog w) A (compareOp .NotIn (.ref d) (.ref a)) Q E s := by
  refine notin_pts N ma Da md hu ?_
  rw [decide_eq_true hin]
  exact h
theorem met_item2 {prog : Program} {w : World} {A : Around} {E : Value → Shared → Prop} {s : Shared} {h₀ : Heap} {L a d : Addr} {news : Led} {xs : List Ent} {x y : Int} {t1 t2 : Tok} {c : Nat} {ims : List (Int × Int)} {value slice : PySem.Expr} {Q : Value → Shared → Prop}
    (hc : ims.count (x, y) = ims.count (0, 0)) (hq : (x, y) ∈ ims) (N : News h₀ L s.heap news) (T : MetTab prog w news d xs) (M : MX xs ims) (ha : (a, tup2 x y t1 t2 c) ∈ news) (hu : A.units + 1 < cLine)
    (h : ∀ t tk, Q (.int (ims.count (0, 0) : Int) t) { s with toks := tk })
    (hs : subscripted slice false (.ref d) (.ref a) = operate [.ref d, .ref a] (getItem (.ref d) (.ref a)) := by with_unfolding_all rfl) (hg : ∀ r, letTemporaryGo value (.ref d) r = pure () := by intro _; with_unfolding_all rfl) :
    wpAny (model prog w) A (subscriptTail value slice (.ref d) (.ref a)) Q E s :=
  met_item N T M ha hq hu (by rw [hc]; exact h) hs hg
local macro_rules | `(tactic| walk_at "compareOp NotIn ref ref") => `(tactic| (k_here; k_dflt (refine' notin_no ?hin ?N ?ma ?Da ?mb ?hu ?_; (case hin => assumption); (case N => k_asm); (case ma => k_mem); (case Da => exact PtAll.up (by assumption) (fun q hq => by repeat' (first | exact hq | apply List.Mem.tail))); (case mb => k_mem); (case hu => k_units); k_whole)))
local macro_rules | `(tactic| walk_at "subscriptTail Name Name ref ref") => `(tactic| (k_here; k_dflt (refine' met_item2 ?hc ?hq ?N ?T ?M ?ha ?hu ?_ ?hs ?hg; (case hc => assumption); (case hq => assumption); (case N => k_asm); (case T => exact MetTab.up (by assumption) (fun q hq => by (rcases List.mem_cons.mp hq with e | hq); (· rw [e]; k_mem); (· repeat' (first | exact hq | apply List.Mem.tail)))); (case M => assumption); (case ha => k_mem); (case hu => k_units); (case hs => with_unfolding_all rfl); (case hg => intro _; with_unfolding_all rfl)); intro t' tk'))
theorem ne_nils {prog : Program} {w : World} {A : Around} {E : Value → Shared → Prop} {s : Shared} {h₀ : Heap} {L a b : Addr} {news : Led} {c' : Nat} {Q : Value → Shared → Prop}
    (N : News h₀ L s.heap news) (ma : (a, LCg.lst []) ∈ news) (mb : (b, listOf #[] c') ∈ news) (hu : A.units + 64 < cLine) (h : Q (.bool false) s) : wpAny (model prog w) A (compareOp .NotEq (.ref a) (.ref b)) Q E s := by
  refine kqd_ne (ds := []) (es := []) (xs := []) (ys := []) N ma rfl rfl .nil (fun _ h => h) mb rfl rfl .nil (fun _ h => h) (fun _ h => nomatch h) (fun _ h => nomatch h) hu ?_
  have e : ∀ (i : Decidable (([] : List Dat) = [])), (!@decide _ i) = false := by
    intro i
    rw [@decide_eq_true _ i rfl]
    rfl
  rw [e]
  exact h
local macro_rules | `(tactic| walk_at "compareOp NotEq ref ref") => `(tactic| (k_here; k_dflt (refine' ne_nils ?N ?ma ?mb ?hu ?_; (case N => k_asm); (case ma => k_mem); (case mb => k_mem); (case hu => k_units); k_whole)))
set_option maxHeartbeats 8000000
noncomputable def S8p : { P : Prop // Hid P → S7 } := ⟨_, fun hP => by
  unfold S7
  intro w s₀ s₁ mg mb fa o pm doc hg T wc1 wc2 l h₁ tk₁ co1 co2 co3 Q HQ v1 cd1 v2 cd2 v3 cd3 K1 D ws t97 p hp cs cI hcl hD hPb ta av hav hav0 b tb Dp us c tl o3 tk9' d3 hD1 hD2 b0 b1 m4 t8 r hr r0 r1 tk9 d91 gx y91 t91 t92 c91 d92 x92 gy t93 t94 c92 Dc tkc dm om lo hc1 hc2 hc3 hc4 hc5 hc6 hc7 hm1 hm2 hm3 hm4 hm5 hm6 hm7 hm8 o' d' Li h3' tk4 tk5 t₁ u₁ v₁ hMul hn16 ps hps hne hlen hlen2 NN hNN l11 l12 l13 l14 l15 l16 l17 l18 tn m₁ h tk iv ic om2 tl2 xs homc2 hMX hxl KX T₉ htt hoff hMTT hpaT hpiT D7 h6 F6 N6 l7 t7 tk7 h7 o7 F7 N7 d7
  clear F6 N6
  revert KX; k_fill; intro KX
  have hpl : PlainF p NN av (2 + r) (cs.getD 4 0) ps := by
    subst hps
    exact plain_all hp hav b0 b1 (by omega) (by omega) hne hNN.symm
  repeat' ((fail_if_success (with_reducible show CompSrcD _ _ _ _ _ _ _ _ _ _ _ _ _ _ _)); first | (walk1; try dsimp only) | (dsimp only; walk1))
  k_dflt (refine' met_src rfl ?F ?N ?T hMX ?sz ?hF ?ht)
  (case F => assumption)
  (case N => assumption)
  (case T => exact MetTab.up hMTT (fun q hq => by (rcases List.mem_cons.mp hq with e | hq); (· rw [e]; k_mem); (· repeat' (first | exact hq | apply List.Mem.tail))))
  (case sz => rw [sizeLine_eq]; omega)
  (case ht =>
    intro g a x y t1 t2 c9 I oI C oC Dx m₂ h9 tk9 E9 hat hq hC hx9 F9 N9 off9 ne9
    have hin := hpl.inp _ hq
    have hct := hpl.cnt _ hq
    have N10 := news_in1 N9 (.tail _ (.tail _ (.tail _ hat)))
    clear F7 N7 N9
    repeat' ((fail_if_success (with_reducible show TurnNo _ _ _ _ _ _ _)); first | (walk1; try dsimp only) | (dsimp only; walk1))
    · exfalso
      omega
    · exact ⟨rfl, _, _, rfl, by assumption, news_sub (by assumption) fun q hq => .tail _ hq⟩)
  intro g8
  clear F7 N7
  unfold LCg.FinE
  intro D8 h8 tk8 F8 N8 o8
  simp only [LCg.Off1] at o8
  dsimp only
  repeat' ((fail_if_success (with_reducible show wpAny _ _ (exec (Stmt.While _ _ _ _) _) _ _ _)); first | (walk1; try dsimp only) | (dsimp only; walk1))
  rename_i zz1 zz2 zz3 zz4 zz5 zz6 zz7 zz8 zz9 zz10 zz11 zz12
  revert w s₀ s₁ mg mb fa o pm doc hg T wc1 wc2 l h₁ tk₁ co1 co2 co3 Q HQ v1 cd1 v2 cd2 v3 cd3 K1 D ws t97 p hp cs cI hcl hD hPb ta av hav hav0 b tb Dp us c tl o3 tk9' d3 hD1 hD2 b0 b1 m4 t8 r hr r0 r1 tk9 d91 gx y91 t91 t92 c91 d92 x92 gy t93 t94 c92 Dc tkc dm om lo hc1 hc2 hc3 hc4 hc5 hc6 hc7 hm1 hm2 hm3 hm4 hm5 hm6 hm7 hm8 o' d' Li h3' tk4 tk5 t₁ u₁ v₁ hMul hn16 ps hps hne hlen hlen2 NN hNN l11 l12 l13 l14 l15 l16 l17 l18 tn m₁ h zz1 iv ic om2 tl2 xs homc2 hMX hxl T₉ htt hoff hMTT hpaT hpiT D7 h6 l7 t7 tk7 h7 o7 d7 KX hpl g8 D8 h8 tk8 o8 zz2 zz3 zz4 zz5 zz6 zz7 zz8 zz9 zz10 zz11 zz12 tk
  exact hP.out⟩
/-- what is left behind the part 8 of the walk -/
def S8 : Prop := S8p.1
theorem S8_to (h : S8) : S7 := S8p.2 ⟨h⟩
end Mine
-- part S9
namespace Mine
theorem calm_S9 : True := by w_top off; trivial
local macro_rules | `(tactic| mul_fits) => `(tactic| first
  | (with_reducible show Bd _ _); first
    | (refine Bd.var (by with_reducible assumption) (by with_reducible assumption))
    | (refine Bd.var ?_ ?_ <;> omega)
    | (refine Bd.mul ?_ ?_ <;> mul_fits) | (refine Bd.pow ?_ <;> mul_fits) | (refine Bd.add ?_ ?_ <;> mul_fits) | (refine Bd.sub ?_ ?_ <;> mul_fits)
    | (refine Bd.small ?_ ?_ <;> omega))
local macro_rules | `(tactic| walk_at "binaryOp Mult int int") => `(tactic| (with_reducible refine' mul_b ?kb1 ?kb2 ?_; (case kb1 => mul_fits); (case kb2 => decide)))
local macro_rules | `(tactic| walk_at "binaryOp Pow int int") => `(tactic| (with_reducible refine' pow_b ?kb0 ?kb1 ?kb2 ?kb3 ?kb4 ?_; (case kb0 => with_unfolding_all first | exact to2 | exact to3 | exact to4); (case kb1 => mul_fits); (case kb2 => decide); (case kb3 => decide); (case kb4 => decide)))
local macro_rules | `(tactic| walk_at "binaryOp Mod int int") => `(tactic| (with_reducible refine mod_b ?kb1 ?_; (case kb1 => omega); intro r' hr' h0' h1'))
local macro_rules | `(tactic| cell_step) => `(tactic| repeat' ((fail_if_success (with_reducible show wpAny _ _ (exec (Stmt.While _ _ _ _) _) _ _ _)); (fail_if_success (with_reducible show wpAny _ _ (pyIter _) _ _ _)); (fail_if_success (with_reducible show KswEnd _ _ _ _ _ _ _ _ _ _ _ _)); (fail_if_success (with_reducible show wpAny _ _ (call (Value.ref 71) _) _ _ _)); first | (k_unfold; (try dsimp only)) | (walk1; try dsimp only) | (dsimp only; walk1)))
local macro_rules | `(tactic| walk_at "RPost") => `(tactic| (dsimp only [RPost]))
local macro_rules | `(tactic| walk_at "subscriptTail Name Slice ref ref") => `(tactic| (k_here; k_dflt (refine' kmk_slice_ints ?F ?N ?l ?p ?q ?i ?m ?c ?_ ?s ?t ?z; (case F => k_asm); (case N => k_asm); (case l => kmk_list); (case p => kmk_part); (case q => kmk_part); (case i => (first | with_reducible assumption | with_reducible exact .cons _ _ (.cons _ _ (.cons _ _ (.cons _ _ (.cons _ _ (.cons _ _ (.cons _ _ .nil)))))))); (case m => first | exact kmk_upto (by (first | with_reducible assumption | with_reducible exact .cons _ _ (.cons _ _ (.cons _ _ (.cons _ _ (.cons _ _ (.cons _ _ (.cons _ _ .nil)))))))) (by decide) | exact kmk_from (by (first | with_reducible assumption | with_reducible exact .cons _ _ (.cons _ _ (.cons _ _ (.cons _ _ (.cons _ _ (.cons _ _ (.cons _ _ .nil)))))))) (Int.natCast_nonneg _)); (case c => exact rfl); (case s => with_unfolding_all rfl); (case t => kmk_pure); (case z => kmk_size)); intro D' ws' h' F' N' l1 hI' hC' hL'; (try k_lt l1); (try k_sweep)))
local macro_rules | `(tactic| k_all) => `(tactic| first | exact List.forall_mem_nil _ | assumption | (refine' List.forall_mem_cons.mpr ⟨?a, ?b⟩; (case a => k_ne); (case b => k_all)))
local macro_rules | `(tactic| walk_at "call ref") => `(tactic| (k_here; k_dflt (refine' pts_use ?b1 ?b2 ?b3 ?k1 ?k2 ?k3 ?k4 ?k5 ?kK ?kd ?ku ?_; (case k1 => k_asm); (case k2 => k_asm); (case k3 => k_asm); (case k4 => k_asm); (case k5 => k_asm); (case kK => first | exact rfl | assumption); (case b1 => assumption); (case b2 => first | assumption | (constructor <;> omega)); (case b3 => first | assumption | (constructor <;> omega)); (case kd => ktr_room); (case ku => ktr_units); k_whole); intro D' us' c' tl' h' tk' ht' hp' l1' F' N'; simp only [AllLt, and_true] at l1'))

local macro_rules | `(tactic| walk_at "compareOp Eq ref ref") => `(tactic| (k_here; k_dflt (refine' eq_nil ?N ?ma ?Da ?mb ?hu ?_; (case N => k_asm); (case ma => k_mem); (case Da => exact PtAll.up (by assumption) (fun q hq => by repeat' (first | exact hq | apply List.Mem.tail))); (case mb => k_mem); (case hu => k_units); k_whole)))
local macro_rules | `(tactic| walk_at "subscriptTail Name Name ref int") => `(tactic| (k_here; k_dflt (refine' pts_item ?N ?ml ?Da ?h0 ?h1 ?h9 ?_ ?hs; (case N => k_asm); (case ml => k_mem); (case Da => exact PtAll.up (by assumption) (fun q hq => by repeat' (first | exact hq | apply List.Mem.tail))); (case h0 => omega); (case h1 => omega); (case h9 => omega); (case hs => with_unfolding_all rfl)); intro d' x' y' t1' t2' c' hq' N'))
local macro_rules | `(tactic| walk_at "call ref") => `(tactic| (k_here; k_dflt (refine' mul_use ?C ?m1 ?m2 ?bP ?b1 ?b2 ?b3 ?b4 ?b5 ?k1 ?k2 ?k3 ?k4 ?k5 ?kK ?kd ?ku ?_; (case C => assumption); (case k1 => k_asm); (case k2 => k_asm); (case k3 => k_asm); (case k4 => k_asm); (case k5 => k_asm); (case kK => first | exact rfl | assumption); (case m1 => k_mem); (case m2 => k_mem); (case bP => assumption); (case b1 => (first | assumption | (refine ⟨⟨?_, ?_⟩, ⟨?_, ?_⟩, ⟨?_, ?_⟩⟩ <;> (try dsimp only) <;> omega))); (case b2 => (first | assumption | omega | (constructor <;> omega))); (case b3 => omega); (case b4 => omega); (case b5 => first | assumption | omega); (case kd => ktr_room); (case ku => ktr_units); k_whole); intro x' y' z' D' u1' u2' u3' c' h' tk' e' a1' a2' a3' a4' a5' a6' F' N'))
local macro_rules | `(tactic| walk_at "call ref") => `(tactic| (k_here; k_dflt (refine' use2 (from_c _ ?m1 ?m2 ?bP ?b1 ?b2 ?b3 ?b4) (fromF_rs ?g1) ?k1 ?k2 ?k3 ?k4 ?k5 ?kK ?kd ?ku ?_; (case k1 => k_asm); (case k2 => k_asm); (case k3 => k_asm); (case k4 => k_asm); (case k5 => k_asm); (case kK => first | exact rfl | assumption); (case m1 => k_mem); (case m2 => k_mem); (case bP => assumption); (case b1 => (first | assumption | omega | (constructor <;> omega))); (case b2 => (first | assumption | omega | (constructor <;> omega))); (case b3 => omega); (case b4 => omega); (case g1 => omega); (case kd => ktr_room); (case ku => ktr_units); k_whole); intro x' y' D' u1' u2' c' h' tk' e' a1' a2' a3' a4' F' N'))
local macro_rules | `(tactic| walk_at "call builtin:list.append") => `(tactic| (k_here; (with_reducible show wpAny _ _ (call (Value.builtin _) [Value.ref _, _]) _ _ _); k_dflt (refine' append_K ?k1 ?k2 ?k3 ?_ ?z; (case k1 => k_asm); (case k2 => k_asm); (case k3 => k_upd); (case z => (simp only [Array.size_push, List.size_toArray, sizeLine_eq]; omega)); k_whole); intro h' F' N'))
local macro_rules | `(tactic| walk_at "getMethod ref") => `(tactic| (k_here; k_dflt (refine' met_getm ?N ?T ?_; (case N => k_asm); (case T => exact MetTab.up (by assumption) (fun q hq => by (rcases List.mem_cons.mp hq with e | hq); (· rw [e]; k_mem); (· repeat' (first | exact hq | apply List.Mem.tail)))))))
local macro_rules | `(tactic| walk_at "call builtin:dict.get") => `(tactic| (k_here; k_dflt (refine' met_get ?N ?T ?M ?ha ?hu ?_; (case N => k_asm); (case T => exact MetTab.up (by assumption) (fun q hq => by (rcases List.mem_cons.mp hq with e | hq); (· rw [e]; k_mem); (· repeat' (first | exact hq | apply List.Mem.tail)))); (case M => assumption); (case ha => k_mem); (case hu => k_units)); intro t' tk'))
local macro_rules | `(tactic| walk_at "RPost") => `(tactic| (dsimp only [RPost]))
theorem gcd_step {a b : Int} (ha : 0 ≤ a) (hb : 0 < b) : Int.gcd b (a.fmod b) = Int.gcd a b := by
  rw [Int.fmod_eq_emod_of_nonneg _ (Int.le_of_lt hb), Int.gcd_comm b, Int.gcd_comm a]
  obtain ⟨x, rfl⟩ := Int.eq_ofNat_of_zero_le ha
  obtain ⟨y, rfl⟩ := Int.eq_ofNat_of_zero_le (Int.le_of_lt hb)
  show Nat.gcd (x % y) y = Nat.gcd y x
  exact (Nat.gcd_rec y x).symm
abbrev GcdSt := Int × Int × Tok × Tok
def gcdPs (c : GcdSt) : List (Str × Value) := [("one", .int c.1 c.2.2.1), ("two", .int c.2.1 c.2.2.2)]
def gcdP (n m : Int) (c : GcdSt) : Prop := 0 ≤ c.1 ∧ c.1 ≤ 31 ∧ 0 ≤ c.2.1 ∧ c.2.1 ≤ 31 ∧ Int.gcd c.1 c.2.1 = Int.gcd n m
local macro_rules | `(tactic| walk_at "call builtin:len") => `(tactic| (k_here; k_dflt (refine' pts_lenR ?N ?ml ?Da ?h9 ?_; (case N => k_asm); (case ml => k_mem); (case Da => exact PtAll.up (by assumption) (fun q hq => by repeat' (first | exact hq | apply List.Mem.tail))); (case h9 => omega))))
set_option maxHeartbeats 8000000
noncomputable def S9p : { P : Prop // Hid P → S8 } := ⟨_, fun hP => by
  unfold S8
  intro w s₀ s₁ mg mb fa o pm doc hg T wc1 wc2 l h₁ tk₁ co1 co2 co3 Q HQ v1 cd1 v2 cd2 v3 cd3 K1 D ws t97 p hp cs cI hcl hD hPb ta av hav hav0 b tb Dp us c tl o3 tk9' d3 hD1 hD2 b0 b1 m4 t8 r hr r0 r1 tk9 d91 gx y91 t91 t92 c91 d92 x92 gy t93 t94 c92 Dc tkc dm om lo hc1 hc2 hc3 hc4 hc5 hc6 hc7 hm1 hm2 hm3 hm4 hm5 hm6 hm7 hm8 o' d' Li h3' tk4 tk5 t₁ u₁ v₁ hMul hn16 ps hps hne hlen hlen2 NN hNN l11 l12 l13 l14 l15 l16 l17 l18 tn m₁ h tk iv ic om2 tl2 xs homc2 hMX hxl T₉ htt hoff hMTT hpaT hpiT D7 h6 l7 t7 tk7 h7 o7 d7 KX hpl g8 D8 h8 tk8 o8 l9 h9 l91 D9 h91 l92 h92 h93 h94 F9 N9 tk94
  revert KX; k_fill; intro KX
  have N10 := news_sub N9 fun q hq => .tail _ (.tail _ (.tail _ (.tail _ hq)))
  clear N9 l91 l92 o8
  have hct0 := hpl.pos
  have hdv := hpl.div
  generalize hCT : List.count (0, 0) (imgsF p NN av (2 + r) (cs.getD 4 0) ps ps.length) = CT at hct0 hdv d7
  refine' ksw_while (fun _ => _) gcdPs (fun _ => True) ["one", "two"] (gcdP (2 + r) (p - 1)) (fun c => c.2.1.toNat) (_, _, _, _) F9 N10 trivial (List.forall_mem_cons.mpr ⟨rfl, List.forall_mem_cons.mpr ⟨rfl, List.forall_mem_nil _⟩⟩) ?_ ?_
  · refine ⟨?_, ?_, ?_, ?_, rfl⟩ <;> dsimp only <;> omega
  intro c u9 hh9 tkk9 _ hP lF' lN'
  obtain ⟨one, two, s1, s2⟩ := c
  obtain ⟨f1, f2, f3, f4, f5⟩ := hP
  dsimp only at f1 f2 f3 f4 f5
  clear F9 N10
  repeat' ((fail_if_success (with_reducible show KswEnd _ _ _ _ _ _ _ _ _ _ _ _)); (fail_if_success (with_reducible show wpAny _ _ (exec (Stmt.If _ _ _ _) _) _ _ _)); first | (walk1; try dsimp only) | (dsimp only; walk1))
  · have hnz : two ≠ 0 := by assumption
    rename Fr _ _ _ _ => lF2
    rename News _ _ _ _ => lN2
    refine' ksw_end (_, _, _, _) lF2 lN2 (fun p hp => .tail _ hp) trivial (List.forall_mem_cons.mpr ⟨rfl, List.forall_mem_cons.mpr ⟨rfl, List.forall_mem_nil _⟩⟩) ?_ ⟨?_, ?_, ?_, ?_, ?_⟩ ?_
    · intro z _ h3
      simp only [List.contains_cons, List.contains_nil, Bool.or_false, Bool.or_eq_false_iff, beq_eq_false_iff_ne, ne_eq] at h3
      obtain ⟨g1, g2⟩ := h3
      simp only [g1, g2, if_false, kstB, gcdPs, List.contains_cons, List.contains_nil, beq_iff_eq, Bool.or_false, decide_false, Bool.false_eq_true, beq_eq_false_iff_ne]
      simp [g1, g2]
    · dsimp only; omega
    · dsimp only; omega
    · dsimp only; omega
    · dsimp only; omega
    · dsimp only
      rename _ = Int.fmod one two => er
      rw [er, gcd_step f1 (by omega), f5]
    · dsimp only
      omega
  have hz : two = 0 := by omega
  have hg : one = ((Int.gcd (2 + r) (p - 1) : Nat) : Int) := by
    rw [← f5, hz, Int.gcd_zero_right]
    omega
  rename Fr _ _ _ _ => lF2
  rename News _ _ _ _ => lN2
  have hpb9 := prime_bd hp
  have hCT0 : (0 : Int) < (CT : Int) := by omega
  have hlc : (cs.length : Int) = 7 := by omega
  repeat' ((fail_if_success (with_reducible show Q (Flow.ret (Value.bool false)) _)); (fail_if_success (with_reducible show wpAny _ _ (exec (Stmt.For _ _ _ _ _) _) _ _ _)); first | (walk1; try dsimp only) | (dsimp only; walk1))
  · exfalso
    rename _ = Int.fmod _ (CT : Int) => er
    rename _ ≠ (0 : Int) => en
    rw [hg, hdv] at er
    exact en er
  rename_i zz1 zz2 zz3 zz4 zz5 zz6 zz7 zz8 zz9 zz10 zz11 zz12 zz13 zz14 zz15 zz16 zz17 zz18 zz19 zz20 zz21 zz22 zz23 zz24 zz25 zz26 zz27 zz28 zz29
  revert w s₀ s₁ mg mb fa o pm doc zz1 T wc1 wc2 l h₁ tk₁ co1 co2 co3 Q HQ v1 cd1 v2 cd2 v3 cd3 K1 D ws t97 p hp cs cI hcl hD hPb ta av hav hav0 b tb Dp us c tl o3 tk9' d3 hD1 hD2 b0 b1 m4 t8 r hr r0 r1 tk9 d91 gx y91 t91 t92 c91 d92 x92 gy t93 t94 c92 Dc tkc dm om lo hc1 hc2 hc3 hc4 hc5 hc6 hc7 hm1 hm2 hm3 hm4 hm5 hm6 hm7 hm8 o' d' Li h3' tk4 tk5 t₁ u₁ v₁ hMul hn16 ps hps hne hlen hlen2 NN hNN l11 l12 l13 l14 l15 l16 l17 l18 tn m₁ h zz2 iv ic om2 tl2 xs homc2 hMX hxl T₉ htt hoff hMTT hpaT hpiT D7 h6 l7 t7 tk7 h7 o7 hpl g8 D8 h8 tk8 l9 h9 D9 h91 h92 h93 h94 tk94 KX CT hCT hct0 hdv d7 u9 hh9 tkk9 zz3 one two s1 s2 f1 f2 f3 f4 f5 zz4 zz5 hz hg hpb9 hCT0 hlc zz6 zz7 zz8 zz9 zz10 zz11 zz12 zz13 zz14 zz15 zz16 zz17 zz18 zz19 zz20 zz21 zz22 zz23 zz24 zz25 zz26 zz27 zz28 zz29 tk
  exact hP.out⟩
/-- what is left behind the part 9 of the walk -/
def S9 : Prop := S9p.1
theorem S9_to (h : S9) : S8 := S9p.2 ⟨h⟩
end Mine
-- part S10
namespace Mine
theorem calm_S10 : True := by w_top off; trivial
local macro_rules | `(tactic| mul_fits) => `(tactic| first
  | (with_reducible show Bd _ _); first
    | (refine Bd.var (by with_reducible assumption) (by with_reducible assumption))
    | (refine Bd.var ?_ ?_ <;> omega)
    | (refine Bd.mul ?_ ?_ <;> mul_fits) | (refine Bd.pow ?_ <;> mul_fits) | (refine Bd.add ?_ ?_ <;> mul_fits) | (refine Bd.sub ?_ ?_ <;> mul_fits)
    | (refine Bd.small ?_ ?_ <;> omega))
local macro_rules | `(tactic| walk_at "binaryOp Mult int int") => `(tactic| (with_reducible refine' mul_b ?kb1 ?kb2 ?_; (case kb1 => mul_fits); (case kb2 => decide)))
local macro_rules | `(tactic| walk_at "binaryOp Pow int int") => `(tactic| (with_reducible refine' pow_b ?kb0 ?kb1 ?kb2 ?kb3 ?kb4 ?_; (case kb0 => with_unfolding_all first | exact to2 | exact to3 | exact to4); (case kb1 => mul_fits); (case kb2 => decide); (case kb3 => decide); (case kb4 => decide)))
local macro_rules | `(tactic| walk_at "binaryOp Mod int int") => `(tactic| (with_reducible refine mod_b ?kb1 ?_; (case kb1 => omega); intro r' hr' h0' h1'))
local macro_rules | `(tactic| cell_step) => `(tactic| repeat' ((fail_if_success (with_reducible show wpAny _ _ (exec (Stmt.While _ _ _ _) _) _ _ _)); (fail_if_success (with_reducible show wpAny _ _ (pyIter _) _ _ _)); (fail_if_success (with_reducible show KswEnd _ _ _ _ _ _ _ _ _ _ _ _)); (fail_if_success (with_reducible show wpAny _ _ (call (Value.ref 71) _) _ _ _)); first | (k_unfold; (try dsimp only)) | (walk1; try dsimp only) | (dsimp only; walk1)))
local macro_rules | `(tactic| walk_at "RPost") => `(tactic| (dsimp only [RPost]))
local macro_rules | `(tactic| walk_at "subscriptTail Name Slice ref ref") => `(tactic| (k_here; k_dflt (refine' kmk_slice_ints ?F ?N ?l ?p ?q ?i ?m ?c ?_ ?s ?t ?z; (case F => k_asm); (case N => k_asm); (case l => kmk_list); (case p => kmk_part); (case q => kmk_part); (case i => (first | with_reducible assumption | with_reducible exact .cons _ _ (.cons _ _ (.cons _ _ (.cons _ _ (.cons _ _ (.cons _ _ (.cons _ _ .nil)))))))); (case m => first | exact kmk_upto (by (first | with_reducible assumption | with_reducible exact .cons _ _ (.cons _ _ (.cons _ _ (.cons _ _ (.cons _ _ (.cons _ _ (.cons _ _ .nil)))))))) (by decide) | exact kmk_from (by (first | with_reducible assumption | with_reducible exact .cons _ _ (.cons _ _ (.cons _ _ (.cons _ _ (.cons _ _ (.cons _ _ (.cons _ _ .nil)))))))) (Int.natCast_nonneg _)); (case c => exact rfl); (case s => with_unfolding_all rfl); (case t => kmk_pure); (case z => kmk_size)); intro D' ws' h' F' N' l1 hI' hC' hL'; (try k_lt l1); (try k_sweep)))
local macro_rules | `(tactic| k_all) => `(tactic| first | exact List.forall_mem_nil _ | assumption | (refine' List.forall_mem_cons.mpr ⟨?a, ?b⟩; (case a => k_ne); (case b => k_all)))
local macro_rules | `(tactic| walk_at "call ref") => `(tactic| (k_here; k_dflt (refine' pts_use ?b1 ?b2 ?b3 ?k1 ?k2 ?k3 ?k4 ?k5 ?kK ?kd ?ku ?_; (case k1 => k_asm); (case k2 => k_asm); (case k3 => k_asm); (case k4 => k_asm); (case k5 => k_asm); (case kK => first | exact rfl | assumption); (case b1 => assumption); (case b2 => first | assumption | (constructor <;> omega)); (case b3 => first | assumption | (constructor <;> omega)); (case kd => ktr_room); (case ku => ktr_units); k_whole); intro D' us' c' tl' h' tk' ht' hp' l1' F' N'; simp only [AllLt, and_true] at l1'))

local macro_rules | `(tactic| walk_at "compareOp Eq ref ref") => `(tactic| (k_here; k_dflt (refine' eq_nil ?N ?ma ?Da ?mb ?hu ?_; (case N => k_asm); (case ma => k_mem); (case Da => exact PtAll.up (by assumption) (fun q hq => by repeat' (first | exact hq | apply List.Mem.tail))); (case mb => k_mem); (case hu => k_units); k_whole)))
local macro_rules | `(tactic| walk_at "subscriptTail Name Name ref int") => `(tactic| (k_here; k_dflt (refine' pts_item ?N ?ml ?Da ?h0 ?h1 ?h9 ?_ ?hs; (case N => k_asm); (case ml => k_mem); (case Da => exact PtAll.up (by assumption) (fun q hq => by repeat' (first | exact hq | apply List.Mem.tail))); (case h0 => omega); (case h1 => omega); (case h9 => omega); (case hs => with_unfolding_all rfl)); intro d' x' y' t1' t2' c' hq' N'))
local macro_rules | `(tactic| walk_at "call ref") => `(tactic| (k_here; k_dflt (refine' mul_use ?C ?m1 ?m2 ?bP ?b1 ?b2 ?b3 ?b4 ?b5 ?k1 ?k2 ?k3 ?k4 ?k5 ?kK ?kd ?ku ?_; (case C => assumption); (case k1 => k_asm); (case k2 => k_asm); (case k3 => k_asm); (case k4 => k_asm); (case k5 => k_asm); (case kK => first | exact rfl | assumption); (case m1 => k_mem); (case m2 => k_mem); (case bP => assumption); (case b1 => (first | assumption | (refine ⟨⟨?_, ?_⟩, ⟨?_, ?_⟩, ⟨?_, ?_⟩⟩ <;> (try dsimp only) <;> omega))); (case b2 => (first | assumption | omega | (constructor <;> omega))); (case b3 => omega); (case b4 => omega); (case b5 => first | assumption | omega); (case kd => ktr_room); (case ku => ktr_units); k_whole); intro x' y' z' D' u1' u2' u3' c' h' tk' e' a1' a2' a3' a4' a5' a6' F' N'))
local macro_rules | `(tactic| walk_at "call ref") => `(tactic| (k_here; k_dflt (refine' use2 (from_c _ ?m1 ?m2 ?bP ?b1 ?b2 ?b3 ?b4) (fromF_rs ?g1) ?k1 ?k2 ?k3 ?k4 ?k5 ?kK ?kd ?ku ?_; (case k1 => k_asm); (case k2 => k_asm); (case k3 => k_asm); (case k4 => k_asm); (case k5 => k_asm); (case kK => first | exact rfl | assumption); (case m1 => k_mem); (case m2 => k_mem); (case bP => assumption); (case b1 => (first | assumption | omega | (constructor <;> omega))); (case b2 => (first | assumption | omega | (constructor <;> omega))); (case b3 => omega); (case b4 => omega); (case g1 => omega); (case kd => ktr_room); (case ku => ktr_units); k_whole); intro x' y' D' u1' u2' c' h' tk' e' a1' a2' a3' a4' F' N'))
local macro_rules | `(tactic| walk_at "call builtin:list.append") => `(tactic| (k_here; (with_reducible show wpAny _ _ (call (Value.builtin _) [Value.ref _, _]) _ _ _); k_dflt (refine' append_K ?k1 ?k2 ?k3 ?_ ?z; (case k1 => k_asm); (case k2 => k_asm); (case k3 => k_upd); (case z => (simp only [Array.size_push, List.size_toArray, sizeLine_eq]; omega)); k_whole); intro h' F' N'))
local macro_rules | `(tactic| walk_at "getMethod ref") => `(tactic| (k_here; k_dflt (refine' met_getm ?N ?T ?_; (case N => k_asm); (case T => exact MetTab.up (by assumption) (fun q hq => by (rcases List.mem_cons.mp hq with e | hq); (· rw [e]; k_mem); (· repeat' (first | exact hq | apply List.Mem.tail)))))))
local macro_rules | `(tactic| walk_at "call builtin:dict.get") => `(tactic| (k_here; k_dflt (refine' met_get ?N ?T ?M ?ha ?hu ?_; (case N => k_asm); (case T => exact MetTab.up (by assumption) (fun q hq => by (rcases List.mem_cons.mp hq with e | hq); (· rw [e]; k_mem); (· repeat' (first | exact hq | apply List.Mem.tail)))); (case M => assumption); (case ha => k_mem); (case hu => k_units)); intro t' tk'))
local macro_rules | `(tactic| walk_at "RPost") => `(tactic| (dsimp only [RPost]))
local macro_rules | `(tactic| walk_at "exec For Name Tuple cons nil") => `(tactic| (k_here; (rename Fr _ _ _ _ => lF'); (with_unfolding_all refine' For_invVF lF' ?k1 ?k2 ?_; (case k1 => exact rfl); (case k2 => exact rfl); k_whole)))
local macro_rules | `(tactic| walk_at "subscriptTail Name Name ref int") => `(tactic| (k_here; k_dflt (refine' pts_itemR ?N ?ml ?Da ?h0 ?h1 ?h9 ?hR ?_ ?hs; (case N => k_asm); (case ml => k_mem); (case Da => exact PtAll.up (by assumption) (fun q hq => by repeat' (first | exact hq | apply List.Mem.tail))); (case h0 => omega); (case h1 => omega); (case h9 => omega); (case hR => assumption); (case hs => with_unfolding_all rfl)); intro d' x' y' t1' t2' c' hq' hx' hy' N'))
local macro_rules | `(tactic| walk_at "call ref") => `(tactic| (k_here; k_dflt (refine' use2 (add_c _ ?m1 ?m2 ?m3 ?bP ?b1 ?b2 ?b3 ?b4 ?b5) (addF_rs ?g1) ?k1 ?k2 ?k3 ?k4 ?k5 ?kK ?kd ?ku ?_; (case k1 => k_asm); (case k2 => k_asm); (case k3 => k_asm); (case k4 => k_asm); (case k5 => k_asm); (case kK => first | exact rfl | assumption); (case m1 => k_mem); (case m2 => k_mem); (case m3 => k_mem); (case bP => assumption); (case b1 => (first | assumption | omega | (constructor <;> omega))); (case b2 => (first | assumption | omega | (constructor <;> omega))); (case b3 => (first | assumption | omega | (constructor <;> omega))); (case b4 => (first | assumption | omega | (constructor <;> omega))); (case b5 => (first | assumption | omega | (constructor <;> omega))); (case g1 => omega); (case kd => ktr_room); (case ku => ktr_units); k_whole); intro x' y' D' u1' u2' c' h' tk' e' a1' a2' a3' a4' F' N'))
local macro_rules | `(tactic| walk_at "compareOp NotEq ref ref") => `(tactic| (k_here; k_dflt (refine' pt_ne ?N ?ma ?mb ?hu ?_; (case N => k_asm); (case ma => k_mem); (case mb => k_mem); (case hu => k_units); k_whole)))
set_option maxHeartbeats 8000000
theorem fold_same {f : Int × Int} {ims : List (Int × Int)} {i : Nat} {x y : Int} (e0 : ims[i]? = some (x, y)) (hf : f = ims.getD i (0, 0)) : (f.1, f.2) = (x, y) := by
  rw [hf, getD_some e0]
noncomputable def S10p : { P : Prop // Hid P → S9 } := ⟨_, fun hP => by
  unfold S9
  intro w s₀ s₁ mg mb fa o pm doc hg T wc1 wc2 l h₁ tk₁ co1 co2 co3 Q HQ v1 cd1 v2 cd2 v3 cd3 K1 D ws t97 p hp cs cI hcl hD hPb ta av hav hav0 b tb Dp us c tl o3 tk9' d3 hD1 hD2 b0 b1 m4 t8 r hr r0 r1 tk9 d91 gx y91 t91 t92 c91 d92 x92 gy t93 t94 c92 Dc tkc dm om lo hc1 hc2 hc3 hc4 hc5 hc6 hc7 hm1 hm2 hm3 hm4 hm5 hm6 hm7 hm8 o' d' Li h3' tk4 tk5 t₁ u₁ v₁ hMul hn16 ps hps hne hlen hlen2 NN hNN l11 l12 l13 l14 l15 l16 l17 l18 tn m₁ h tk iv ic om2 tl2 xs homc2 hMX hxl T₉ htt hoff hMTT hpaT hpiT D7 h6 l7 t7 tk7 h7 o7 hpl g8 D8 h8 tk8 l9 h9 D9 h91 h92 h93 h94 tk94 KX CT hCT hct0 hdv d7 u9 hh9 tkk9 a one two s1 s2 f1 f2 f3 f4 f5 a tk hz hg hpb9 hCT0 hlc r8 hr8 h08 h18 a8 tk80 ti iv8 hi8 i80 i81 tj jv8 hj8 j80 j81 D9 h9 l9 h91 h92 h93 F9 N9 tk9z
  revert KX; k_fill; intro KX
  have N10 := news_sub N9 fun q hq => .tail _ hq
  clear N9 l9 r8 hr8 h08 h18 a8
  have hrs : ∀ q ∈ ps, Rs p q.1 ∧ Rs p q.2 := hps ▸ lawPts_rs hp
  have hfold := hpl.fold
  have hhom := hpl.hom
  have hirs : ∀ q ∈ imgsF p NN av (2 + r) (cs.getD 4 0) ps ps.length, Rs p q.1 ∧ Rs p q.2 := fun q hq => hrs q (hpl.inp q hq)
  have himl := imgsF_len p NN av (2 + r) (cs.getD 4 0) ps ps.length
  clear hCT hMX hpl
  generalize hims : imgsF p NN av (2 + r) (cs.getD 4 0) ps ps.length = ims at hpiT hfold hhom hirs himl
  obtain ⟨m9, F10⟩ := fr_names (ps := [("p", Value.int p t97), ("cells", Value.ref D), ("a", Value.int av ta), ("b", Value.int b tb), ("n", Value.int (2 + r) tn), ("curve", Value.ref Dc), ("images", Value.ref Li), ("i", Value.int iv8 (tk80 + 1 + 1 + 1)), ("j", Value.int jv8 (tk80 + 1 + 1 + 1 + 1 + 1 + 1 + 1))]) (all2 rfl (all2 rfl (all2 rfl (all2 rfl (all2 rfl (all2 rfl (all2 rfl (all2 rfl (all1 rfl))))))))) F9
  clear F9
  have hnoT : ∀ q ∈ T₉, q.2.cls ≠ .type "tuple_iterator" := fun q hq => by rw [(htt q hq).1]; simp
  repeat' ((fail_if_success (with_reducible show wpAny _ _ (pyIter _) _ _ _)); first | (walk1; try dsimp only) | (dsimp only; walk1))
  rename Fr _ _ _ _ => lF
  rename News _ _ _ _ => lN
  rename Addr => Dt
  refine tup_loop [(Dt, tupo [.int iv8 (tk80 + 1 + 1 + 1), .int jv8 (tk80 + 1 + 1 + 1 + 1 + 1 + 1 + 1)] 0), (Li, listOf iv.toArray ic), (dm, om2), (Dc, tup6 p NN av b gx gy t97 (tk9 + 1) ta tb t91 t94 0), (Dp, listOf us.toArray c), (D, listOf ws.toArray 0), (s₁.heap.objs.size + 1 + 1 + 1, o7), (s₁.heap.objs.size + 1 + 1, o'), (s₁.heap.objs.size + 1, o3)] (fixJ ((Dt, tupo [.int iv8 (tk80 + 1 + 1 + 1), .int jv8 (tk80 + 1 + 1 + 1 + 1 + 1 + 1 + 1)] 0) :: (Li, listOf iv.toArray ic) :: (dm, om2) :: (Dc, tup6 p NN av b gx gy t97 (tk9 + 1) ta tb t91 t94 0) :: (Dp, listOf us.toArray c) :: (D, listOf ws.toArray 0) :: (s₁.heap.objs.size + 1 + 1 + 1, o7) :: (s₁.heap.objs.size + 1 + 1, o') :: (s₁.heap.objs.size + 1, o3) :: T₉) [("p", Value.int p t97), ("cells", Value.ref D), ("a", Value.int av ta), ("b", Value.int b tb), ("n", Value.int (2 + r) tn), ("curve", Value.ref Dc), ("images", Value.ref Li), ("i", Value.int iv8 (tk80 + 1 + 1 + 1)), ("j", Value.int jv8 (tk80 + 1 + 1 + 1 + 1 + 1 + 1 + 1))]) (by rfl) (.head _) rfl lF lN ⟨rfl, (by repeat (first | (refine all1 ?_; exact rfl) | (refine all2 rfl ?_)))⟩ ?_ ?_ ?_
  · intro q hq
    exact List.mem_append.mpr (.inl hq)
  · clear lF lN
    intro i v m₁ nx h tk own hi hv hown hJ lF lN
    obtain ⟨rfl, hnm⟩ := hJ
    obtain ⟨kv, tkv, rfl, kv0, kv1⟩ := two_at i80 i81 j80 j81 hv
    have lF2 := fr_known hnm lF
    clear lF hnm
    simp only [List.cons_append, List.nil_append] at lN
    have hpaT9 : PtAll (T₉ ++ own) us ps := hpaT.up fun q hq => List.mem_append.mpr (.inl hq)
    have hpiT9 : PtAll (T₉ ++ own) iv ims := hpiT.up fun q hq => List.mem_append.mpr (.inl hq)
    clear hpaT hpiT
    generalize hTT : T₉ ++ own = TT at lN hpaT9 hpiT9
    repeat' ((fail_if_success (with_reducible show wpAny _ _ (pyIter _) _ _ _)); first | (walk1; try dsimp only) | (dsimp only; walk1))
    rename IsRange _ _ _ _ _ _ _ _ => hrg
    rename Fr _ _ _ _ => lF3
    rename News _ _ _ _ => lN3
    refine rng_loop ((Dt, tupo [.int iv8 (tk80 + 1 + 1 + 1), .int jv8 (tk80 + 1 + 1 + 1 + 1 + 1 + 1 + 1)] 0) :: (Li, listOf iv.toArray ic) :: (dm, om2) :: (Dc, tup6 p NN av b gx gy t97 (tk9 + 1) ta tb t91 t94 0) :: (Dp, listOf us.toArray c) :: (D, listOf ws.toArray 0) :: (s₁.heap.objs.size + 1 + 1 + 1, o7) :: (s₁.heap.objs.size + 1 + 1, o') :: (s₁.heap.objs.size + 1, o3) :: TT) (foldJ p av (ps.getD kv.toNat (0, 0)) ((Dt, tupo [.int iv8 (tk80 + 1 + 1 + 1), .int jv8 (tk80 + 1 + 1 + 1 + 1 + 1 + 1 + 1)] 0) :: (Li, listOf iv.toArray ic) :: (dm, om2) :: (Dc, tup6 p NN av b gx gy t97 (tk9 + 1) ta tb t91 t94 0) :: (Dp, listOf us.toArray c) :: (D, listOf ws.toArray 0) :: (s₁.heap.objs.size + 1 + 1 + 1, o7) :: (s₁.heap.objs.size + 1 + 1, o') :: (s₁.heap.objs.size + 1, o3) :: TT) (("k", Value.int kv tkv) :: [("p", Value.int p t97), ("cells", Value.ref D), ("a", Value.int av ta), ("b", Value.int b tb), ("n", Value.int (2 + r) tn), ("curve", Value.ref Dc), ("images", Value.ref Li), ("i", Value.int iv8 (tk80 + 1 + 1 + 1)), ("j", Value.int jv8 (tk80 + 1 + 1 + 1 + 1 + 1 + 1 + 1))])) (n := (2 + r).toNat) (by rfl) hrg (small_one (by omega) (by omega) (by omega) (by omega)) (by rw [rangeSize_nat]; omega) lF3 lN3 ⟨_, _, _, _, rfl, rfl, (by repeat (first | (refine all1 ?_; exact rfl) | (refine all2 rfl ?_)))⟩ (fun q hq => .tail _ hq) ?_ ?_
    · clear lF3 lN3
      intro i2 tt2 m₂ nx h2 tk2 own2 hi2 hown2 hJ F₁ N₁
      obtain ⟨dt, u1, u2, uc, rfl, hmt, hnm2⟩ := hJ
      have F₂ := fr_known (ps := ("total", Value.ref dt) :: ("k", Value.int kv tkv) :: [("p", Value.int p t97), ("cells", Value.ref D), ("a", Value.int av ta), ("b", Value.int b tb), ("n", Value.int (2 + r) tn), ("curve", Value.ref Dc), ("images", Value.ref Li), ("i", Value.int iv8 (tk80 + 1 + 1 + 1)), ("j", Value.int jv8 (tk80 + 1 + 1 + 1 + 1 + 1 + 1 + 1))]) (all2 hmt hnm2) F₁
      clear F₁ hmt hnm2
      simp only [List.cons_append, List.nil_append] at N₁
      have hpaT8 : PtAll (TT ++ own2) us ps := hpaT9.up fun q hq => List.mem_append.mpr (.inl hq)
      clear hpaT9 hpiT9
      generalize hT3 : TT ++ own2 = T3 at N₁ hpaT8
      obtain ⟨hf1, hf2⟩ := foldF_rs (a := av) hp (ps.getD kv.toNat (0, 0)) i2
      repeat' (first | (walk1; try dsimp only) | (dsimp only; walk1))
      rename Fr _ _ _ _ => lF5
      rename News _ _ _ _ => lN5
      rename (_, _) = addF _ _ _ _ => ea
      rename _[_]? = some _ => e0
      refine fold_end lF5 lN5 ?_ (fold_succ e0 ea) rfl (by repeat (first | (refine all1 ?_; exact rfl) | (refine all2 rfl ?_)))
      rw [← hT3]
      intro q hq
      simp only [List.cons_append, List.append_assoc] at hq
      exact .tail _ (.tail _ hq)
    · intro m₂ nx h2 tk2 hJ F₁ N₁
      obtain ⟨dt, u1, u2, uc, rfl, hmt, hnm2⟩ := hJ
      have F₂ := fr_known0 (ps := ("total", Value.ref dt) :: ("k", Value.int kv tkv) :: [("p", Value.int p t97), ("cells", Value.ref D), ("a", Value.int av ta), ("b", Value.int b tb), ("n", Value.int (2 + r) tn), ("curve", Value.ref Dc), ("images", Value.ref Li), ("i", Value.int iv8 (tk80 + 1 + 1 + 1)), ("j", Value.int jv8 (tk80 + 1 + 1 + 1 + 1 + 1 + 1 + 1))]) (all2 hmt hnm2) F₁
      clear F₁ hmt hnm2 lF3 lN3
      have hfk := hfold kv.toNat (by omega)
      repeat' ((fail_if_success (with_reducible show TEnd _ _ _ _ _ _ _)); (fail_if_success (with_reducible show TPost _ _ _ _ _ _ _ _ _)); (fail_if_success (with_reducible show Q (Flow.ret (Value.bool false)) _)); first | (walk1; try dsimp only) | (dsimp only; walk1))
      · rename Fr _ _ _ _ => lF5
        rename News _ _ _ _ => lN5
        dsimp only [TPost]
        refine tup_end (T₉ := T₉) lF5 lN5 hTT ?_ rfl hnoT (by repeat (first | (refine all1 ?_; exact rfl) | (refine all2 rfl ?_)))
        intro q hq
        exact .tail _ (.tail _ hq)
      · exfalso
        rename _[_]? = some _ => e0
        have hfk2 := fold_same e0 hfk
        first | (rename ¬ (_ = _) => hno; exact hno hfk2) | (simp at *; done)
  clear lF lN
  intro m₁ nx h tk hJ F₁ N₁
  obtain ⟨rfl, hnm⟩ := hJ
  have F₂ := fr_known0 hnm F₁
  clear F₁ hnm
  dsimp only
  rename_i zz1 zz2 zz3 zz4 zz5 zz6 zz7 zz8 zz9 zz10 zz11 zz12 zz13
  revert w s₀ s₁ mg mb fa o pm doc zz1 T wc1 wc2 l h₁ tk₁ co1 co2 co3 Q HQ v1 cd1 v2 cd2 v3 cd3 K1 D ws t97 p hp cs cI hcl hD hPb ta av hav hav0 b tb Dp us c tl o3 tk9' d3 hD1 hD2 b0 b1 m4 t8 r hr r0 r1 tk9 d91 gx y91 t91 t92 c91 d92 x92 gy t93 t94 c92 Dc tkc dm om lo hc1 hc2 hc3 hc4 hc5 hc6 hc7 hm1 hm2 hm3 hm4 hm5 hm6 hm7 hm8 o' d' Li h3' tk4 tk5 t₁ u₁ v₁ hMul hn16 ps hps hne hlen hlen2 NN hNN l11 l12 l13 l14 l15 l16 l17 l18 tn zz2 zz3 zz4 iv ic om2 tl2 xs homc2 hxl T₉ htt hoff hMTT hpaT D7 h6 l7 t7 tk7 h7 o7 g8 D8 h8 tk8 l9 zz5 zz6 zz7 zz8 zz9 h94 tk94 CT hct0 hdv d7 u9 hh9 tkk9 zz10 one two s1 s2 f1 f2 f3 f4 f5 a zz11 hz hg hpb9 hCT0 hlc tk80 ti iv8 hi8 i80 i81 tj jv8 hj8 j80 j81 D9 h9 h91 h92 h93 tk9z KX hrs ims hims hpiT hfold hhom hirs himl m9 hnoT Dt zz12 zz13 m₁ h tk N₁ F₂
  exact hP.out⟩
/-- what is left behind the part 10 of the walk -/
def S10 : Prop := S10p.1
theorem S10_to (h : S10) : S9 := S10p.2 ⟨h⟩
end Mine
-- part S11
namespace Mine
theorem calm_S11 : True := by w_top off; trivial
local macro_rules | `(tactic| mul_fits) => `(tactic| first
  | (with_reducible show Bd _ _); first
    | (refine Bd.var (by with_reducible assumption) (by with_reducible assumption))
    | (refine Bd.var ?_ ?_ <;> omega)
    | (refine Bd.mul ?_ ?_ <;> mul_fits) | (refine Bd.pow ?_ <;> mul_fits) | (refine Bd.add ?_ ?_ <;> mul_fits) | (refine Bd.sub ?_ ?_ <;> mul_fits)
    | (refine Bd.small ?_ ?_ <;> omega))
local macro_rules | `(tactic| walk_at "binaryOp Mult int int") => `(tactic| (with_reducible refine' mul_b ?kb1 ?kb2 ?_; (case kb1 => mul_fits); (case kb2 => decide)))
local macro_rules | `(tactic| walk_at "binaryOp Pow int int") => `(tactic| (with_reducible refine' pow_b ?kb0 ?kb1 ?kb2 ?kb3 ?kb4 ?_; (case kb0 => with_unfolding_all first | exact to2 | exact to3 | exact to4); (case kb1 => mul_fits); (case kb2 => decide); (case kb3 => decide); (case kb4 => decide)))
local macro_rules | `(tactic| walk_at "binaryOp Mod int int") => `(tactic| (with_reducible refine mod_b ?kb1 ?_; (case kb1 => omega); intro r' hr' h0' h1'))
local macro_rules | `(tactic| cell_step) => `(tactic| repeat' ((fail_if_success (with_reducible show wpAny _ _ (exec (Stmt.While _ _ _ _) _) _ _ _)); (fail_if_success (with_reducible show wpAny _ _ (pyIter _) _ _ _)); (fail_if_success (with_reducible show KswEnd _ _ _ _ _ _ _ _ _ _ _ _)); (fail_if_success (with_reducible show wpAny _ _ (call (Value.ref 71) _) _ _ _)); first | (k_unfold; (try dsimp only)) | (walk1; try dsimp only) | (dsimp only; walk1)))
local macro_rules | `(tactic| walk_at "RPost") => `(tactic| (dsimp only [RPost]))
local macro_rules | `(tactic| walk_at "subscriptTail Name Slice ref ref") => `(tactic| (k_here; k_dflt (refine' kmk_slice_ints ?F ?N ?l ?p ?q ?i ?m ?c ?_ ?s ?t ?z; (case F => k_asm); (case N => k_asm); (case l => kmk_list); (case p => kmk_part); (case q => kmk_part); (case i => (first | with_reducible assumption | with_reducible exact .cons _ _ (.cons _ _ (.cons _ _ (.cons _ _ (.cons _ _ (.cons _ _ (.cons _ _ .nil)))))))); (case m => first | exact kmk_upto (by (first | with_reducible assumption | with_reducible exact .cons _ _ (.cons _ _ (.cons _ _ (.cons _ _ (.cons _ _ (.cons _ _ (.cons _ _ .nil)))))))) (by decide) | exact kmk_from (by (first | with_reducible assumption | with_reducible exact .cons _ _ (.cons _ _ (.cons _ _ (.cons _ _ (.cons _ _ (.cons _ _ (.cons _ _ .nil)))))))) (Int.natCast_nonneg _)); (case c => exact rfl); (case s => with_unfolding_all rfl); (case t => kmk_pure); (case z => kmk_size)); intro D' ws' h' F' N' l1 hI' hC' hL'; (try k_lt l1); (try k_sweep)))
local macro_rules | `(tactic| k_all) => `(tactic| first | exact List.forall_mem_nil _ | assumption | (refine' List.forall_mem_cons.mpr ⟨?a, ?b⟩; (case a => k_ne); (case b => k_all)))
local macro_rules | `(tactic| walk_at "call ref") => `(tactic| (k_here; k_dflt (refine' pts_use ?b1 ?b2 ?b3 ?k1 ?k2 ?k3 ?k4 ?k5 ?kK ?kd ?ku ?_; (case k1 => k_asm); (case k2 => k_asm); (case k3 => k_asm); (case k4 => k_asm); (case k5 => k_asm); (case kK => first | exact rfl | assumption); (case b1 => assumption); (case b2 => first | assumption | (constructor <;> omega)); (case b3 => first | assumption | (constructor <;> omega)); (case kd => ktr_room); (case ku => ktr_units); k_whole); intro D' us' c' tl' h' tk' ht' hp' l1' F' N'; simp only [AllLt, and_true] at l1'))

local macro_rules | `(tactic| walk_at "compareOp Eq ref ref") => `(tactic| (k_here; k_dflt (refine' eq_nil ?N ?ma ?Da ?mb ?hu ?_; (case N => k_asm); (case ma => k_mem); (case Da => exact PtAll.up (by assumption) (fun q hq => by repeat' (first | exact hq | apply List.Mem.tail))); (case mb => k_mem); (case hu => k_units); k_whole)))
local macro_rules | `(tactic| walk_at "subscriptTail Name Name ref int") => `(tactic| (k_here; k_dflt (refine' pts_item ?N ?ml ?Da ?h0 ?h1 ?h9 ?_ ?hs; (case N => k_asm); (case ml => k_mem); (case Da => exact PtAll.up (by assumption) (fun q hq => by repeat' (first | exact hq | apply List.Mem.tail))); (case h0 => omega); (case h1 => omega); (case h9 => omega); (case hs => with_unfolding_all rfl)); intro d' x' y' t1' t2' c' hq' N'))
local macro_rules | `(tactic| walk_at "call ref") => `(tactic| (k_here; k_dflt (refine' mul_use ?C ?m1 ?m2 ?bP ?b1 ?b2 ?b3 ?b4 ?b5 ?k1 ?k2 ?k3 ?k4 ?k5 ?kK ?kd ?ku ?_; (case C => assumption); (case k1 => k_asm); (case k2 => k_asm); (case k3 => k_asm); (case k4 => k_asm); (case k5 => k_asm); (case kK => first | exact rfl | assumption); (case m1 => k_mem); (case m2 => k_mem); (case bP => assumption); (case b1 => (first | assumption | (refine ⟨⟨?_, ?_⟩, ⟨?_, ?_⟩, ⟨?_, ?_⟩⟩ <;> (try dsimp only) <;> omega))); (case b2 => (first | assumption | omega | (constructor <;> omega))); (case b3 => omega); (case b4 => omega); (case b5 => first | assumption | omega); (case kd => ktr_room); (case ku => ktr_units); k_whole); intro x' y' z' D' u1' u2' u3' c' h' tk' e' a1' a2' a3' a4' a5' a6' F' N'))
local macro_rules | `(tactic| walk_at "call ref") => `(tactic| (k_here; k_dflt (refine' use2 (from_c _ ?m1 ?m2 ?bP ?b1 ?b2 ?b3 ?b4) (fromF_rs ?g1) ?k1 ?k2 ?k3 ?k4 ?k5 ?kK ?kd ?ku ?_; (case k1 => k_asm); (case k2 => k_asm); (case k3 => k_asm); (case k4 => k_asm); (case k5 => k_asm); (case kK => first | exact rfl | assumption); (case m1 => k_mem); (case m2 => k_mem); (case bP => assumption); (case b1 => (first | assumption | omega | (constructor <;> omega))); (case b2 => (first | assumption | omega | (constructor <;> omega))); (case b3 => omega); (case b4 => omega); (case g1 => omega); (case kd => ktr_room); (case ku => ktr_units); k_whole); intro x' y' D' u1' u2' c' h' tk' e' a1' a2' a3' a4' F' N'))
local macro_rules | `(tactic| walk_at "call builtin:list.append") => `(tactic| (k_here; (with_reducible show wpAny _ _ (call (Value.builtin _) [Value.ref _, _]) _ _ _); k_dflt (refine' append_K ?k1 ?k2 ?k3 ?_ ?z; (case k1 => k_asm); (case k2 => k_asm); (case k3 => k_upd); (case z => (simp only [Array.size_push, List.size_toArray, sizeLine_eq]; omega)); k_whole); intro h' F' N'))
local macro_rules | `(tactic| walk_at "getMethod ref") => `(tactic| (k_here; k_dflt (refine' met_getm ?N ?T ?_; (case N => k_asm); (case T => exact MetTab.up (by assumption) (fun q hq => by (rcases List.mem_cons.mp hq with e | hq); (· rw [e]; k_mem); (· repeat' (first | exact hq | apply List.Mem.tail)))))))
local macro_rules | `(tactic| walk_at "call builtin:dict.get") => `(tactic| (k_here; k_dflt (refine' met_get ?N ?T ?M ?ha ?hu ?_; (case N => k_asm); (case T => exact MetTab.up (by assumption) (fun q hq => by (rcases List.mem_cons.mp hq with e | hq); (· rw [e]; k_mem); (· repeat' (first | exact hq | apply List.Mem.tail)))); (case M => assumption); (case ha => k_mem); (case hu => k_units)); intro t' tk'))
local macro_rules | `(tactic| walk_at "RPost") => `(tactic| (dsimp only [RPost]))
local macro_rules | `(tactic| walk_at "exec For Name Tuple cons nil") => `(tactic| (k_here; (rename Fr _ _ _ _ => lF'); (with_unfolding_all refine' For_invVF lF' ?k1 ?k2 ?_; (case k1 => exact rfl); (case k2 => exact rfl); k_whole)))
local macro_rules | `(tactic| walk_at "subscriptTail Name Name ref int") => `(tactic| (k_here; k_dflt (refine' pts_itemR ?N ?ml ?Da ?h0 ?h1 ?h9 ?hR ?_ ?hs; (case N => k_asm); (case ml => k_mem); (case Da => exact PtAll.up (by assumption) (fun q hq => by repeat' (first | exact hq | apply List.Mem.tail))); (case h0 => omega); (case h1 => omega); (case h9 => omega); (case hR => assumption); (case hs => with_unfolding_all rfl)); intro d' x' y' t1' t2' c' hq' hx' hy' N'))
local macro_rules | `(tactic| walk_at "call ref") => `(tactic| (k_here; k_dflt (refine' use2 (add_c _ ?m1 ?m2 ?m3 ?bP ?b1 ?b2 ?b3 ?b4 ?b5) (addF_rs ?g1) ?k1 ?k2 ?k3 ?k4 ?k5 ?kK ?kd ?ku ?_; (case k1 => k_asm); (case k2 => k_asm); (case k3 => k_asm); (case k4 => k_asm); (case k5 => k_asm); (case kK => first | exact rfl | assumption); (case m1 => k_mem); (case m2 => k_mem); (case m3 => k_mem); (case bP => assumption); (case b1 => (first | assumption | omega | (constructor <;> omega))); (case b2 => (first | assumption | omega | (constructor <;> omega))); (case b3 => (first | assumption | omega | (constructor <;> omega))); (case b4 => (first | assumption | omega | (constructor <;> omega))); (case b5 => (first | assumption | omega | (constructor <;> omega))); (case g1 => omega); (case kd => ktr_room); (case ku => ktr_units); k_whole); intro x' y' D' u1' u2' c' h' tk' e' a1' a2' a3' a4' F' N'))
local macro_rules | `(tactic| walk_at "compareOp NotEq ref ref") => `(tactic| (k_here; k_dflt (refine' pt_ne ?N ?ma ?mb ?hu ?_; (case N => k_asm); (case ma => k_mem); (case mb => k_mem); (case hu => k_units); k_whole)))
set_option maxHeartbeats 8000000
theorem in_ptsT {prog : Program} {w : World} {A : Around} {E : Value → Shared → Prop} {s : Shared} {h₀ : Heap} {L a d : Addr} {news : Led} {us : List Value} {c c' : Nat} {ps : List (Int × Int)} {x y : Int} {t1 t2 : Tok} {Q : Value → Shared → Prop} (N : News h₀ L s.heap news) (ma : (a, listOf us.toArray c) ∈ news) (Da : PtAll news us ps) (md : (d, tup2 x y t1 t2 c') ∈ news) (hu : A.units + 64 < cLine) (hin : (x, y) ∈ ps) (h : Q (.bool true) s) : wpAny (model prog w) A (compareOp .In (.ref d) (.ref a)) Q E s :=
  in_pts N ma Da md hu (by rw [decide_eq_true hin]; exact h)
theorem fin_same {p a x y x1 y1 x2 y2 x3 y3 x4 y4 x5 y5 x6 y6 : Int} {ps ims : List (Int × Int)} {i j k : Nat} (hh : ∀ i < ps.length, ∀ j < ps.length, addF p a (ps.getD i (0, 0)) (ps.getD j (0, 0)) ∈ ps ∧ ims.getD (ps.idxOf (addF p a (ps.getD i (0, 0)) (ps.getD j (0, 0)))) (0, 0) = addF p a (ims.getD i (0, 0)) (ims.getD j (0, 0)))
    (hi : i < ps.length) (hj : j < ps.length) (e1 : ps[i]? = some (x1, y1)) (e2 : ps[j]? = some (x2, y2)) (e3 : (x3, y3) = addF p a (x1, y1) (x2, y2)) (hk : k = ps.idxOf (x3, y3)) (e4 : ims[k]? = some (x4, y4)) (e5 : ims[i]? = some (x5, y5)) (e6 : ims[j]? = some (x6, y6)) (e : (x, y) = addF p a (x5, y5) (x6, y6)) : (x4, y4) = (x, y) := by
  have h := (hh i hi j hj).2
  rw [getD_some e1, getD_some e2, ← e3, getD_some e5, getD_some e6, ← e, ← hk, getD_some e4] at h
  exact h
theorem fin_in {p a x1 y1 x2 y2 x3 y3 : Int} {ps ims : List (Int × Int)} {i j : Nat} (hh : ∀ i < ps.length, ∀ j < ps.length, addF p a (ps.getD i (0, 0)) (ps.getD j (0, 0)) ∈ ps ∧ ims.getD (ps.idxOf (addF p a (ps.getD i (0, 0)) (ps.getD j (0, 0)))) (0, 0) = addF p a (ims.getD i (0, 0)) (ims.getD j (0, 0)))
    (hi : i < ps.length) (hj : j < ps.length) (e1 : ps[i]? = some (x1, y1)) (e2 : ps[j]? = some (x2, y2)) (e3 : (x3, y3) = addF p a (x1, y1) (x2, y2)) : (x3, y3) ∈ ps ∧ List.idxOf (x3, y3) ps < ps.length := by
  have h := (hh i hi j hj).1
  rw [getD_some e1, getD_some e2, ← e3] at h
  exact ⟨h, List.idxOf_lt_length_iff.mpr h⟩
local macro_rules | `(tactic| walk_at "compareOp In ref ref") => `(tactic| (k_here; k_dflt (refine' in_ptsT ?N ?ma ?Da ?md ?hu ?hin ?_; (case N => k_asm); (case ma => k_mem); (case Da => exact PtAll.up (by assumption) (fun q hq => by repeat' (first | exact hq | apply List.Mem.tail))); (case md => k_mem); (case hu => k_units); (case hin => assumption); k_whole)))
local macro_rules | `(tactic| walk_at "compareOp Eq ref ref") => `(tactic| (k_here; k_dflt (refine' pt_eq ?N ?ma ?mb ?hu ?_; (case N => k_asm); (case ma => k_mem); (case mb => k_mem); (case hu => k_units); k_whole)))
local macro_rules | `(tactic| walk_at "call builtin:list.index") => `(tactic| (k_here; k_dflt (refine' pts_index ?N ?ml ?Da ?md ?hin ?h9 ?hu ?_; (case N => k_asm); (case ml => k_mem); (case Da => exact PtAll.up (by assumption) (fun q hq => by repeat' (first | exact hq | apply List.Mem.tail))); (case md => k_mem); (case hin => assumption); (case h9 => omega); (case hu => k_units); k_whole)))
local macro_rules | `(tactic| walk_at "subscriptTail Name Call ref int") => `(tactic| (k_here; k_dflt (refine' pts_itemR ?N ?ml ?Da ?h0 ?h1 ?h9 ?hR ?_ ?hs; (case N => k_asm); (case ml => k_mem); (case Da => exact PtAll.up (by assumption) (fun q hq => by repeat' (first | exact hq | apply List.Mem.tail))); (case h0 => omega); (case h1 => omega); (case h9 => omega); (case hR => assumption); (case hs => with_unfolding_all rfl)); intro d' x' y' t1' t2' c' hq' hx' hy' N'))
set_option maxHeartbeats 8000000
theorem x11 : S10 := by
  unfold S10
  intro w s₀ s₁ mg mb fa o pm doc hg T wc1 wc2 l h₁ tk₁ co1 co2 co3 Q HQ v1 cd1 v2 cd2 v3 cd3 K1 D ws t97 p hp cs cI hcl hD hPb ta av hav hav0 b tb Dp us c tl o3 tk9' d3 hD1 hD2 b0 b1 m4 t8 r hr r0 r1 tk9 d91 gx y91 t91 t92 c91 d92 x92 gy t93 t94 c92 Dc tkc dm om lo hc1 hc2 hc3 hc4 hc5 hc6 hc7 hm1 hm2 hm3 hm4 hm5 hm6 hm7 hm8 o' d' Li h3' tk4 tk5 t₁ u₁ v₁ hMul hn16 ps hps hne hlen hlen2 NN hNN l11 l12 l13 l14 l15 l16 l17 l18 tn m₁ h tk iv ic om2 tl2 xs homc2 hxl T₉ htt hoff hMTT hpaT D7 h6 l7 t7 tk7 h7 o7 g8 D8 h8 tk8 l9 h9 D9 h91 h92 h93 h94 tk94 CT hct0 hdv d7 u9 hh9 tkk9 a one two s1 s2 f1 f2 f3 f4 f5 a tk hz hg hpb9 hCT0 hlc tk80 ti iv8 hi8 i80 i81 tj jv8 hj8 j80 j81 D9 h9 h91 h92 h93 tk9z KX hrs ims hims hpiT hfold hhom hirs himl m9 hnoT Dt h' l1 m₁ h tk N₁ F₂
  revert KX; k_fill; intro KX
  repeat' ((fail_if_success (with_reducible show wpAny _ _ (compareOp .In _ _) _ _ _)); first | (walk1; try dsimp only) | (dsimp only; walk1))
  rename (_, _) = addF _ _ _ _ => e3
  rename ps[jv8.toNat]? = some _ => e2
  rename ps[iv8.toNat]? = some _ => e1
  have hi0 : iv8.toNat < ps.length := by omega
  have hj0 : jv8.toNat < ps.length := by omega
  obtain ⟨hin, hix⟩ := fin_in hhom hi0 hj0 e1 e2 e3
  repeat' ((fail_if_success (with_reducible show wpAny _ _ (compareOp .Eq _ _) _ _ _)); first | (walk1; try dsimp only) | (dsimp only; walk1))
  rename (_, _) = addF _ _ _ _ => e6
  rename ims[jv8.toNat]? = some _ => e5
  rename ims[iv8.toNat]? = some _ => e4
  rename ims[Int.toNat ((List.idxOf _ _ : Nat) : Int)]? = some _ => e7
  rw [Int.toNat_natCast] at e7
  have hfin := fin_same hhom hi0 hj0 e1 e2 e3 rfl e7 e4 e5 e6
  repeat' ((fail_if_success (with_reducible show Q _ _)); first | (walk1; try dsimp only) | (dsimp only; walk1))
  rename Fr _ _ _ _ => lF
  rw [decide_eq_true hfin]
  exact HQ _ _ _ lF
end Mine
set_option maxRecDepth 100000 in
set_option maxHeartbeats 8000000 in
theorem PySem.Challenge.cw_bb0056_01_holds : PySem.Challenge.rw_bb0056_01.Holds := by
  exact Mine.S1_to (Mine.S2_to (Mine.S3_to (Mine.S4_to (Mine.S5_to (Mine.S6_to (Mine.S7_to (Mine.S8_to (Mine.S9_to (Mine.S10_to Mine.x11)))))))))
