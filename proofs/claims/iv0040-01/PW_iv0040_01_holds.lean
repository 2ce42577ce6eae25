import PyProof.Rows.All
import Wide.All
import OpenK.AllK
import Wide.FinOn
import PyProof.Rows.WhileGen
import PySem.Challenge.RW_iv0040_01
open PySem PySem.W PyProof.Rows PySem.Spec PySem.Calls
set_option Elab.async false
namespace Mine
/-- a text without the first and the tenth of its nineteen statements -/
noncomputable def cut2 (t : Program) (a b c d e f g h i j k l m n o p q r s : Stmt) (_ : t.main.body = [a, b, c, d, e, f, g, h, i, j, k, l, m, n, o, p, q, r, s]) : Program :=
  { t with main := { t.main with body := [b, c, d, e, f, g, h, i, k, l, m, n, o, p, q, r, s] } }
/-- the text's 17 defs -/
noncomputable def view : Program := cut2 PySem.Challenge.pw_iv0040_01 _ _ _ _ _ _ _ _ _ _ _ _ _ _ _ _ _ _ _ rfl
local macro_rules | `(tactic| o_head $H) => `(tactic| (
  refine holds_open (q := view) (loose := []) (Xt := fun s => xlAt view [] s && recOk (RowW.records (PySem.Challenge.rw_iv0040_01.row.toRowW)) s) (XP := XL view []) (Yf := Hook.obs $H) (Ya := Hook.val $H) (YP := Hook.says $H) (N := 1336) ?hl (Hook.of $H) (Hook.keeps $H) (fun s e => xl_of s (Bool.and_eq_true_iff.mp e).1) XL.keeps (by rfl) (by rfl) (by rfl) (fun s e => recFacts_of (Bool.and_eq_true_iff.mp e).2) (by rfl) (by first | assumption | decide +kernel) (by decide +kernel) ⟨rfl, rfl, rfl, rfl, rfl, by decide +kernel⟩ ?hw ?hc
  (case hl => intro w; kernel_rfl)))
set_option maxRecDepth 100000 in
set_option maxHeartbeats 8000000 in
open_top hd for PySem.Challenge.rw_iv0040_01
end Mine

namespace Mine

/-- a made tuple -/
abbrev tup (vs : List Value) (n : Nat) : Obj := { cls := .type "tuple", data := .seq vs.toArray n }

/-- what a call's caller waits for: a value, what was made behind the ledger, what is said of them -/
def Ret (h₀ : Heap) (L : Addr) (m : Str → Option Value) (news : List (Addr × Obj)) (s : Shared) (Out : List (Addr × Obj) → Value → Prop) (Q : Value → Shared → Prop) : Prop :=
  ∀ r tl h' tk', Fr h₀ L h' m → News h₀ L h' (news ++ tl) → (∀ q ∈ news, ∀ p ∈ tl, q.1 < p.1) → Out (news ++ tl) r → Q r { s with heap := h', toks := tk' }

/-- what a call of the def at f, with the arguments vs, gives back, in whatever frame; ct: the frames' room that it takes -/
def Con (w : World) (f : Addr) (news : List (Addr × Obj)) (vs : List Value) (ct : Nat) (Out : List (Addr × Obj) → Value → Prop) : Prop :=
  ∀ (mean : ExcName → Option Value) (mg mb : Str → Option Value) (dp un : Nat) (gd : Option (List Code)) (cn : Str) (cs : Scope) (a : Addr) (ccd : Value) (cl : List (Str × Addr)) (outer : List Env) (A₀ : Around) (base h₀ : Heap) (L : Addr) (m : Str → Option Value) (s : Shared)
    (Q E : Value → Shared → Prop),
    Below A₀ base outer h₀ → Fr h₀ L s.heap m → (Mine.hd.heap_39 w.params).In h₀ → News h₀ L s.heap news → Top Mine.view (looseW Mine.view []) mean mg mb h₀ → cs.kind = .function → dp + ct < recursionLimit → un + 8 * ct < cLine →
    Ret h₀ L m news s Out Q →
    wpAny (model PySem.Challenge.rw_iv0040_01.row.prog w) (ktrTop dp un gd cn cs L a ccd cl outer) (call (.ref f) vs) Q E s

theorem con_use {w : World} {f : Addr} {news : List (Addr × Obj)} {vs : List Value} {ct : Nat} {Out : List (Addr × Obj) → Value → Prop} {mean : ExcName → Option Value} {mg mb : Str → Option Value} {dp un : Nat} {gd : Option (List Code)} {cn : Str} {cs : Scope} {a : Addr} {ccd : Value} {cl : List (Str × Addr)} {outer : List Env} {A₀ : Around} {base h₀ : Heap} {L : Addr} {m : Str → Option Value} {s : Shared}
    {Q E : Value → Shared → Prop} (F : Fr h₀ L s.heap m) (N : News h₀ L s.heap news) (B : Below A₀ base outer h₀) (X : (Mine.hd.heap_39 w.params).In h₀) (T : Top Mine.view (looseW Mine.view []) mean mg mb h₀) (C : Con w f news vs ct Out) (hk : cs.kind = .function) (hd : dp + ct < recursionLimit) (hu : un + 8 * ct < cLine)
    (ret : Ret h₀ L m news s Out Q) :
    wpAny (model PySem.Challenge.rw_iv0040_01.row.prog w) (ktrTop dp un gd cn cs L a ccd cl outer) (call (.ref f) vs) Q E s := C _ _ _ _ _ _ _ _ _ _ _ _ _ _ _ _ _ _ Q E B F X N T hk hd hu ret

theorem Con.mono {w : World} {f : Addr} {news : List (Addr × Obj)} {vs : List Value} {ct : Nat} {Out Out' : List (Addr × Obj) → Value → Prop} (C : Con w f news vs ct Out) (h : ∀ nx r, Out nx r → Out' nx r) : Con w f news vs ct Out' :=
  fun mean mg mb dp un gd cn cs a ccd cl outer A₀ base h₀ L m s Q E B F X N T hk hd hu ret =>
    C mean mg mb dp un gd cn cs a ccd cl outer A₀ base h₀ L m s Q E B F X N T hk hd hu (fun r tl h' tk' F' N' l o => ret r tl h' tk' F' N' l (h _ _ o))

/-- a triple, a curve on the ledger -/
def IsT3 (news : List (Addr × Obj)) (v : Value) (x y z : Int) : Prop := ∃ a t1 t2 t3 n, v = .ref a ∧ (a, tup [.int x t1, .int y t2, .int z t3] n) ∈ news
def IsCv (news : List (Addr × Obj)) (v : Value) (p n a b gx gy : Int) : Prop := ∃ c t1 t2 t3 t4 t5 t6 k, v = .ref c ∧ (c, tup [.int p t1, .int n t2, .int a t3, .int b t4, .int gx t5, .int gy t6] k) ∈ news
theorem IsT3.mono {news news' : List (Addr × Obj)} {v : Value} {x y z : Int} (h : IsT3 news v x y z) (hs : ∀ p ∈ news, p ∈ news') : IsT3 news' v x y z := by
  obtain ⟨a, t1, t2, t3, n, e, hm⟩ := h
  exact ⟨a, t1, t2, t3, n, e, hs _ hm⟩
theorem IsCv.mono {news news' : List (Addr × Obj)} {v : Value} {p n a b gx gy : Int} (h : IsCv news v p n a b gx gy) (hs : ∀ q ∈ news, q ∈ news') : IsCv news' v p n a b gx gy := by
  obtain ⟨c, t1, t2, t3, t4, t5, t6, k, e, hm⟩ := h
  exact ⟨c, t1, t2, t3, t4, t5, t6, k, e, hs _ hm⟩
/-- the sizes under which the reckoning fits -/
structure OkT (x y z : Int) : Prop where
  hX : Builtin.Int.intBits x ≤ 2 ^ 20
  hY0 : 0 ≤ y
  hY : y ≤ 64
  hZ0 : 0 ≤ z
  hZ : z ≤ 64
structure OkC (P A : Int) : Prop where
  hP0 : 0 < P
  hP : P < 64
  hA0 : 0 ≤ A
  hA : A < 64

/-- the walk stops before it -/
def Hold (P : Prop) : Prop := P
theorem Hold.out {P : Prop} (h : Hold P) : P := h
theorem Hold.mk {P : Prop} (h : P) : Hold P := h

section
variable {prog : Program} {w : World} {A : Around} {E : Value → Shared → Prop} {s : Shared} {a b : Int} {t u : Tok} {Q : Value → Shared → Prop}
theorem mod_letter (h0 : 0 < b) (h1 : b < 64) (h : ∀ r tk, r = a.fmod b → 0 ≤ r → r < b → Q (.int r s.toks) { s with toks := tk }) : wpAny (model prog w) A (binaryOp .Mod (.int a t) (.int b u)) Q E s :=
  mod_int' (by omega) (h _ _ rfl (Int.fmod_nonneg_of_pos _ h0) (Int.fmod_lt_of_pos _ h0))
theorem natAbs_pow_le {a : Int} {k : Nat} (h : a.natAbs ≤ 128) (hk : k ≤ 4) : a.natAbs ^ k ≤ 128 ^ 4 :=
  Nat.le_trans (Nat.pow_le_pow_left h k) (Nat.pow_le_pow_right (by decide) hk)
theorem pow_letter {k : Int} (hk0 : 0 ≤ k) (hk : k ≤ 4) (h0 : -128 ≤ a) (h1 : a ≤ 128) (h : ∀ r tk, r = a ^ k.toNat → -268435456 ≤ r → r ≤ 268435456 → Q (.int r s.toks) { s with toks := tk }) : wpAny (model prog w) A (binaryOp .Pow (.int a t) (.int k u)) Q E s := by
  have hb : (a ^ k.toNat).natAbs ≤ 128 ^ 4 := by rw [Int.natAbs_pow]; exact natAbs_pow_le (by omega) (by omega)
  have : (128 : Nat) ^ 4 = 268435456 := by decide
  exact pow_int_small hk0 (by omega) (by omega) (h _ _ rfl (by omega) (by omega))
theorem pow_big {k : Int} {m : Nat} (hk0 : 0 ≤ k) (hb : Builtin.Int.intBits a ≤ m) (hm : (m : Int) * k ≤ 2 ^ 27) (h : ∀ r tk, r = a ^ k.toNat → Q (.int r s.toks) { s with toks := tk }) : wpAny (model prog w) A (binaryOp .Pow (.int a t) (.int k u)) Q E s :=
  pow_int hk0 (Int.le_trans (Int.mul_le_mul_of_nonneg_right (by omega) hk0) hm) (h _ _ rfl)
end

theorem mod_any {prog : Program} {w : World} {A : Around} {E : Value → Shared → Prop} {s : Shared} {a b : Int} {t u : Tok} {Q : Value → Shared → Prop} (h0 : 0 < b) (h : ∀ r tk, r = a.fmod b → 0 ≤ r → r < b → Q (.int r s.toks) { s with toks := tk }) : wpAny (model prog w) A (binaryOp .Mod (.int a t) (.int b u)) Q E s :=
  mod_int' (by omega) (h _ _ rfl (Int.fmod_nonneg_of_pos _ h0) (Int.fmod_lt_of_pos _ h0))
section
variable {h₀ h' : Heap} {L : Addr} {m : Str → Option Value} {news : List (Addr × Obj)} {s : Shared} {tk' : Nat} {Q : Value → Shared → Prop} {Out : List (Addr × Obj) → Value → Prop}
/-- the end of a call that makes one object, and hands it back -/
theorem end1 {d : Addr} {o : Obj} (hret : Ret h₀ L m news s Out Q)
    (F : Fr h₀ L h' m) (N : News h₀ L h' ((d, o) :: news)) (l : ∀ p ∈ news, p.1 < d) (ho : Out (news ++ [(d, o)]) (.ref d)) : Q (.ref d) { s with heap := h', toks := tk' } :=
  hret _ [(d, o)] _ _ F (ktn_tl1 N) (fun q hq p hp => by rw [List.mem_singleton.mp hp]; exact l q hq) ho
/-- the end of a call that makes nothing -/
theorem end0 {r : Value} (hret : Ret h₀ L m news s Out Q)
    (F : Fr h₀ L h' m) (N : News h₀ L h' news) (ho : Out (news ++ []) r) : Q r { s with heap := h', toks := tk' } :=
  hret _ [] _ _ F (ktn_tl0 N) (fun _ _ _ hp => nomatch hp) ho
/-- the end of a call that hands on what another call made -/
theorem endA {r : Value} {tl : List (Addr × Obj)} (hret : Ret h₀ L m news s Out Q)
    (F : Fr h₀ L h' m) (N : News h₀ L h' (news ++ tl)) (l : ∀ q ∈ news, ∀ p ∈ tl, q.1 < p.1) (ho : Out (news ++ tl) r) : Q r { s with heap := h', toks := tk' } :=
  hret _ tl _ _ F N l ho
end

section
variable {h₀ h' : Heap} {L : Addr} {m : Str → Option Value} {news : List (Addr × Obj)} {s : Shared} {tk' : Nat} {Q : Value → Shared → Prop} {Out : List (Addr × Obj) → Value → Prop} {r : Value} {t1 t2 t3 : List (Addr × Obj)}
/-- the end of a call that makes one object behind what other calls made, and hands it back -/
theorem end1A {d : Addr} {o : Obj} (hret : Ret h₀ L m news s Out Q)
    (F : Fr h₀ L h' m) (N : News h₀ L h' ((d, o) :: (news ++ t1))) (l : ∀ p ∈ news ++ t1, p.1 < d) (ho : Out (news ++ [(d, o)]) (.ref d)) : Q (.ref d) { s with heap := h', toks := tk' } :=
  end1 hret F (fun p hp => N p ((List.mem_cons.mp hp).elim (fun h => List.mem_cons.mpr (.inl h)) fun h => .tail _ (List.mem_append.mpr (.inl h)))) (fun p hp => l p (List.mem_append.mpr (.inl hp))) ho
/-- the end of a call that makes one object behind whatever else, and hands it back -/
theorem endS {d : Addr} {o : Obj} {nx : List (Addr × Obj)} (hret : Ret h₀ L m news s Out Q)
    (F : Fr h₀ L h' m) (N : News h₀ L h' ((d, o) :: nx)) (hs : ∀ p ∈ news, p ∈ nx) (l : ∀ p ∈ nx, p.1 < d) (ho : Out (news ++ [(d, o)]) (.ref d)) : Q (.ref d) { s with heap := h', toks := tk' } :=
  end1 hret F (fun p hp => N p ((List.mem_cons.mp hp).elim (fun h => List.mem_cons.mpr (.inl h)) fun h => .tail _ (hs p h))) (fun p hp => l p (hs p hp)) ho
theorem endAA (hret : Ret h₀ L m news s Out Q) (F : Fr h₀ L h' m) (N : News h₀ L h' ((news ++ t1) ++ t2)) (l1 : ∀ q ∈ news, ∀ p ∈ t1, q.1 < p.1) (l2 : ∀ q ∈ news ++ t1, ∀ p ∈ t2, q.1 < p.1)
    (ho : Out ((news ++ t1) ++ t2) r) : Q r { s with heap := h', toks := tk' } :=
  endA (tl := t1 ++ t2) hret F (by rw [← List.append_assoc]; exact N) (ktn_ordA l1 l2) (by rw [← List.append_assoc]; exact ho)
theorem endAAA (hret : Ret h₀ L m news s Out Q) (F : Fr h₀ L h' m) (N : News h₀ L h' (((news ++ t1) ++ t2) ++ t3)) (l1 : ∀ q ∈ news, ∀ p ∈ t1, q.1 < p.1) (l2 : ∀ q ∈ news ++ t1, ∀ p ∈ t2, q.1 < p.1) (l3 : ∀ q ∈ (news ++ t1) ++ t2, ∀ p ∈ t3, q.1 < p.1)
    (ho : Out (((news ++ t1) ++ t2) ++ t3) r) : Q r { s with heap := h', toks := tk' } :=
  endAA (t1 := t1) (t2 := t2 ++ t3) hret F (by rw [← List.append_assoc]; exact N) l1 (ktn_ordA l2 l3) (by rw [← List.append_assoc]; exact ho)
end

section
variable {prog : Program} {w : World} {A : Around} {E : Value → Shared → Prop} {s : Shared} {α : Type} {t : Sem α} {Q : α → Shared → Prop}
/-- what comes behind is put away under a name -/
theorem cut_K (h : ∀ K : α → Shared → Prop, (∀ v s', Q v s' → K v s') → wpAny (model prog w) A t K E s) : wpAny (model prog w) A t Q E s := h Q fun _ _ h => h
theorem cut_has {P : α → Shared → Prop} (_ : ∀ v s', P v s' → Q v s') (g : wpAny (model prog w) A t Q E s) : wpAny (model prog w) A t Q E s := g
end
section
variable {α : Type} {a b c : List α} {x : α}
theorem sub_r : ∀ p ∈ a, p ∈ a := fun _ h => h
theorem sub_a (h : ∀ p ∈ a, p ∈ b) : ∀ p ∈ a, p ∈ b ++ c := fun p hp => List.mem_append.mpr (.inl (h p hp))
theorem sub_c (h : ∀ p ∈ a, p ∈ b) : ∀ p ∈ a, p ∈ x :: b := fun p hp => .tail _ (h p hp)
theorem sub_cc (h : ∀ p ∈ a, p ∈ b) : ∀ p ∈ x :: a, p ∈ x :: b := fun p hp => (List.mem_cons.mp hp).elim (fun e => List.mem_cons.mpr (.inl e)) fun e => .tail _ (h p e)
end
/-- the doubling, as the text reckons it -/
noncomputable def jdbl (P A : Int) (p : Int × Int × Int) : Int × Int × Int :=
  if p.2.1 = 0 then (0, 0, 0) else
  let ysq := (p.2.1 ^ 2).fmod P
  let S := (4 * p.1 * ysq).fmod P
  let M := (3 * p.1 ^ 2 + A * p.2.2 ^ 4).fmod P
  let nx := (M ^ 2 - 2 * S).fmod P
  let ny := (M * (S - nx) - 8 * ysq ^ 2).fmod P
  let nz := (2 * p.2.1 * p.2.2).fmod P
  (nx, ny, nz)
/-- the sum -/
noncomputable def jadd (P A : Int) (p q : Int × Int × Int) : Int × Int × Int :=
  if p.2.1 = 0 then q else if q.2.1 = 0 then p else
  let U1 := (p.1 * q.2.2 ^ 2).fmod P
  let U2 := (q.1 * p.2.2 ^ 2).fmod P
  let S1 := (p.2.1 * q.2.2 ^ 3).fmod P
  let S2 := (q.2.1 * p.2.2 ^ 3).fmod P
  if U1 = U2 then (if S1 = S2 then jdbl P A p else (0, 0, 1)) else
  let H := U2 - U1
  let R := S2 - S1
  let H2 := (H * H).fmod P
  let H3 := (H * H2).fmod P
  let U1H2 := (U1 * H2).fmod P
  let nx := (R ^ 2 - H3 - 2 * U1H2).fmod P
  let ny := (R * (U1H2 - nx) - S1 * H3).fmod P
  let nz := (H * p.2.2 * q.2.2).fmod P
  (nx, ny, nz)
end Mine

namespace Mine
/-- what an expression of ints gives, by the frame and the ledger; w: its size, in 2 ^ 20 bits -/
inductive AX (nx : List (Addr × Obj)) (m : Str → Option Value) (env : Env) : PySem.Expr → Int → Nat → Prop
  | cst {k : Int} {b p} (h : Builtin.Int.intBits k ≤ 2 ^ 20) : AX nx m env (.Constant (.int k) b p) k 1
  | name {x p a t} (hv : m x = some (.int a t)) (hb : Builtin.Int.intBits a ≤ 2 ^ 20) (hx : env.kindOf x = some .local) (hd : (x == ("__debug__" : Str)) = false) : AX nx m env (.Name x p) a 1
  | item {x p b p' p'' d vs n} {k : Int} {j : Nat} {a t} (hv : m x = some (.ref d)) (hm : (d, tup vs n) ∈ nx) (hj : seqIndex? k vs.length = some j) (hj' : vs[j]? = some (.int a t)) (hb : Builtin.Int.intBits a ≤ 2 ^ 20)
      (h0 : -(2 ^ 63) ≤ k) (h1 : k < 2 ^ 63) (hx : env.kindOf x = some .local) (hd : (x == ("__debug__" : Str)) = false) : AX nx m env (.Subscript (.Name x p) (.Constant (.int k) b p') p'') a 1
  | add {l r p a b u v} (hl : AX nx m env l a u) (hr : AX nx m env r b v) : AX nx m env (.BinOp l .Add r p) (a + b) (u + v)
  | sub {l r p a b u v} (hl : AX nx m env l a u) (hr : AX nx m env r b v) : AX nx m env (.BinOp l .Sub r p) (a - b) (u + v)
  | mul {l r p a b u v} (hl : AX nx m env l a u) (hr : AX nx m env r b v) (h : u + v ≤ 127) : AX nx m env (.BinOp l .Mult r p) (a * b) (u + v)
  | pow {l p a u b p'} {k : Int} {n : Nat} (hl : AX nx m env l a u) (hk : k = (n : Int)) (h : u * n ≤ 127) : AX nx m env (.BinOp l .Pow (.Constant (.int k) b p') p) (a ^ n) (u * n + 1)
  | mod {l r p a b u v} (hl : AX nx m env l a u) (hr : AX nx m env r b v) (h : b ≠ 0) : AX nx m env (.BinOp l .Mod r p) (a.fmod b) v
section
variable {prog : Program} {w : World} {A : Around} {E : Value → Shared → Prop} {s : Shared} {h₀ : Heap} {L : Addr} {m : Str → Option Value} {nx : List (Addr × Obj)} {env : Env} {e : PySem.Expr} {a : Int} {z : Nat}
theorem AX.wpos (D : AX nx m env e a z) : 1 ≤ z := by
  induction D with
  | cst => exact Nat.le_refl _
  | name => exact Nat.le_refl _
  | item => exact Nat.le_refl _
  | add _ _ h1 h2 => exact Nat.le_trans h1 (Nat.le_add_right _ _)
  | sub _ _ h1 h2 => exact Nat.le_trans h1 (Nat.le_add_right _ _)
  | mul _ _ _ h1 h2 => exact Nat.le_trans h1 (Nat.le_add_right _ _)
  | pow => exact Nat.le_add_left _ _
  | mod _ _ _ h1 h2 => exact h2
theorem AX.bits (D : AX nx m env e a z) : Builtin.Int.intBits a ≤ 2 ^ 20 * z := by
  induction D with
  | cst h => exact h
  | name _ h => exact h
  | item _ _ _ _ h => exact h
  | add d1 d2 h1 h2 =>
    have := d1.wpos
    have := d2.wpos
    refine Nat.le_trans (bits_add h1 h2) ?_
    rw [Nat.mul_add]; omega
  | sub d1 d2 h1 h2 =>
    have := d1.wpos
    have := d2.wpos
    refine Nat.le_trans (bits_sub h1 h2) ?_
    rw [Nat.mul_add]; omega
  | mul d1 d2 h h1 h2 =>
    rw [Nat.mul_add]
    exact bits_mul h1 h2
  | pow d1 hk h h1 =>
    refine Nat.le_trans (intBits_pow_le h1 _) ?_
    rw [Nat.mul_add, Nat.mul_assoc]; omega
  | mod d1 d2 h h1 h2 => exact bits_fmod_by h h2
theorem ax_eval {Q : Value → Shared → Prop} (hk : env.scope.kind = .function) (F : Fr h₀ env.locals s.heap m) (N : News h₀ env.locals s.heap nx) (D : AX nx m env e a z) (h : ∀ t tk, Q (.int a t) { s with toks := tk }) :
    wpAny (model prog w) A (eval e env) Q E s := by
  induction D generalizing s Q with
  | cst => exact wpAny_Constant_int (h _ _)
  | name hv _ hx hd => exact wpAny_Name (wpAny_loadName_local hk hx F.ns hv (h _ s.toks)) hd
  | item hv hm hj hj' _ h0 h1 hx hd =>
    refine Subscript_ (wpAny_Name (wpAny_loadName_local hk hx F.ns hv ?_) hd)
    refine wpAny_Constant_int ?_
    exact item_tupleT (News.isTup N hm) h0 h1 hj hj' (h _ _)
  | add d1 d2 i1 i2 => exact wpAny_BinOp (i1 F N fun t tk => i2 F N fun t' tk' => add_int (h _ _))
  | sub d1 d2 i1 i2 => exact wpAny_BinOp (i1 F N fun t tk => i2 F N fun t' tk' => sub_int (h _ _))
  | mul d1 d2 hw i1 i2 =>
    refine wpAny_BinOp (i1 F N fun t tk => i2 F N fun t' tk' => mul_int (h _ _) (mulOk_of_bits d1.bits d2.bits ?_))
    rw [← Nat.mul_add]
    exact Nat.le_trans (Nat.mul_le_mul_left _ hw) (by decide)
  | pow d1 hk' hw i1 =>
    subst hk'
    refine wpAny_BinOp (i1 F N fun t tk => wpAny_Constant_int ?_)
    refine pow_big (Int.natCast_nonneg _) d1.bits ?_ (fun r tk er => ?_)
    · rw [← Int.natCast_mul, Nat.mul_assoc]
      have : 2 ^ 20 * (_ * _) ≤ 2 ^ 27 := Nat.le_trans (Nat.mul_le_mul_left _ hw) (by decide)
      omega
    · subst er
      rw [Int.toNat_natCast]
      exact h _ _
  | mod d1 d2 hb i1 i2 => exact wpAny_BinOp (i1 F N fun t tk => i2 F N fun t' tk' => mod_int' hb (h _ _))
theorem ax_mod {Q : Value → Shared → Prop} {l r : PySem.Expr} {p : Pos} {b : Int} {z' : Nat} (hk : env.scope.kind = .function) (F : Fr h₀ env.locals s.heap m) (N : News h₀ env.locals s.heap nx) (D : AX nx m env l a z) (D' : AX nx m env r b z') (hb : 0 < b)
    (h : ∀ r t tk, r = a.fmod b → 0 ≤ r → r < b → Q (.int r t) { s with toks := tk }) : wpAny (model prog w) A (eval (.BinOp l .Mod r p) env) Q E s :=
  ax_eval hk F N (.mod D D' (by omega)) fun t tk => h _ t tk rfl (Int.fmod_nonneg_of_pos _ hb) (Int.fmod_lt_of_pos _ hb)
end
section
variable {prog : Program} {w : World} {A : Around} {E : Value → Shared → Prop} {s : Shared} {h₀ : Heap} {m : Str → Option Value} {nx : List (Addr × Obj)} {env : Env} {e : PySem.Expr} {a : Int} {z : Nat} {x : Str} {px pos : Pos}
/-- an assignment of such an expression, in one step -/
theorem as_ax {Q : Flow → Shared → Prop} (hk : env.scope.kind = .function) (F : Fr h₀ env.locals s.heap m) (N : News h₀ env.locals s.heap nx) (hx : env.kindOf x = some .local) (D : AX nx m env e a z)
    (h : ∀ h' t tk, let m' : Str → Option Value := (fun y => if y = x then some (.int a t) else m y); Fr h₀ env.locals h' m' → News h₀ env.locals h' nx → Q .next { s with heap := h', toks := tk }) (hs : swapsWith e (some (.Name x px)) pos.line env = pure false := by rfl) :
    wpAny (model prog w) A (exec (.Assign [.Name x px] e pos) env) Q E s :=
  wpAny_Assign_Name (ax_eval hk F N D fun t tk => wpAny_storeName_local hx F.ns (fun h' hn hs => h h' t _ (F.set hn hs) (N.set hs)) (by rw [hk]; rfl)) hs
theorem as_mod {Q : Flow → Shared → Prop} {r : PySem.Expr} {p : Pos} {b : Int} {z' : Nat} (hk : env.scope.kind = .function) (F : Fr h₀ env.locals s.heap m) (N : News h₀ env.locals s.heap nx) (hx : env.kindOf x = some .local) (D : AX nx m env e a z) (D' : AX nx m env r b z') (hb : 0 < b)
    (h : ∀ v h' t tk, v = a.fmod b → 0 ≤ v → v < b → Fr h₀ env.locals h' (fun y => if y = x then some (.int v t) else m y) → News h₀ env.locals h' nx → Q .next { s with heap := h', toks := tk }) (hs : swapsWith (.BinOp e .Mod r p) (some (.Name x px)) pos.line env = pure false := by rfl) :
    wpAny (model prog w) A (exec (.Assign [.Name x px] (.BinOp e .Mod r p) pos) env) Q E s :=
  as_ax hk F N hx (.mod D D' (by omega)) (fun h' t tk F' N' => h _ h' t tk rfl (Int.fmod_nonneg_of_pos _ hb) (Int.fmod_lt_of_pos _ hb) F' N') hs
end
theorem bits_r {x P : Int} (h0 : 0 ≤ x) (h : x < P) (hP : P < 64) : Builtin.Int.intBits x ≤ 2 ^ 20 := Nat.le_trans (PySem.intBits_le_64 (by omega) (by omega)) (by decide)
theorem bits_p {x : Int} (h0 : 0 < x) (h : x < 64) : Builtin.Int.intBits x ≤ 2 ^ 20 := Nat.le_trans (PySem.intBits_le_64 (by omega) (by omega)) (by decide)
theorem bits_q {x : Int} (h0 : 0 ≤ x) (h : x < 64) : Builtin.Int.intBits x ≤ 2 ^ 20 := Nat.le_trans (PySem.intBits_le_64 (by omega) (by omega)) (by decide)
theorem ax_ne {b : Int} (h : 0 < b) : b ≠ 0 := by omega
theorem bits_m {x P : Int} (h : 0 < P) (h' : P < 64) : Builtin.Int.intBits (x.fmod P) ≤ 2 ^ 20 := bits_fmod_by (ax_ne h) (bits_p h h')
theorem bits_n {x y P : Int} (h : 0 < P) (h' : P < 64) : Builtin.Int.intBits (x.fmod P - y.fmod P) ≤ 2 ^ 20 := by
  have h0 := Int.fmod_nonneg_of_pos x h
  have h1 := Int.fmod_lt_of_pos x h
  have h2 := Int.fmod_nonneg_of_pos y h
  have h3 := Int.fmod_lt_of_pos y h
  exact Nat.le_trans (PySem.intBits_le_64 (by omega) (by omega)) (by decide)
theorem bits_s {x : Int} (h0 : 0 ≤ x) (h : x ≤ 64) : Builtin.Int.intBits x ≤ 2 ^ 20 := Nat.le_trans (PySem.intBits_le_64 (by omega) (by omega)) (by decide)
theorem bits_d {x y P : Int} (h0 : 0 ≤ x) (h : x < P) (h0' : 0 ≤ y) (h' : y < P) (hP : P < 64) : Builtin.Int.intBits (x - y) ≤ 2 ^ 20 := Nat.le_trans (PySem.intBits_le_64 (by omega) (by omega)) (by decide)
end Mine

namespace Mine
noncomputable def updN (m : Str → Option Value) : List (Str × Pos) → List Value → Str → Option Value
  | [], _ => m
  | _ :: _, [] => m
  | x :: xs, v :: vs => updN (fun y => if y = x.1 then some v else m y) xs vs
section
variable {prog : Program} {w : World} {A : Around} {E : Value → Shared → Prop} {h₀ : Heap} {nx : List (Addr × Obj)} {env : Env}
theorem ord_names (hk : env.scope.kind = .function) : ∀ {xs : List (Str × Pos)} {vs : List Value} {m : Str → Option Value} {s : Shared} {Q : Unit → Shared → Prop}, xs.length = vs.length → (∀ x ∈ xs, env.kindOf x.1 = some .local) → Fr h₀ env.locals s.heap m → News h₀ env.locals s.heap nx →
    (∀ h' tk, Fr h₀ env.locals h' (updN m xs vs) → News h₀ env.locals h' nx → Q () { s with heap := h', toks := tk }) →
    wpAny (model prog w) A (assignInOrder (xs.map fun x v => assign (.Name x.1 x.2) env v) vs) Q E s := by
  intro xs
  induction xs with
  | nil =>
    intro vs m s Q hl _ F N h
    cases vs with
    | nil => exact assignInOrder_nil (h s.heap s.toks F N)
    | cons v vs => cases hl
  | cons x xs ih =>
    intro vs m s Q hl hx F N h
    cases vs with
    | nil => cases hl
    | cons v vs =>
      refine assignInOrder_cons (assign_Name (wpAny_storeName_local (hx x (.head _)) F.ns (fun h' hn hs => ?_) (by rw [hk]; rfl)))
      exact ih (Nat.succ.inj hl) (fun y hy => hx y (.tail _ hy)) (F.set hn hs) (N.set hs) fun h'' tk F' N' => h h'' tk F' N'
theorem un_gen {x1} {tp pos cp : Pos} {c : Str} {m : Str → Option Value} {s : Shared} {Q : Flow → Shared → Prop} {d : Addr} {vs : List Value} {k : Nat} (xs : List (Str × Pos)) {elts : List PySem.Expr} (hh : A.handled = none) (hk : env.scope.kind = .function) (F : Fr h₀ env.locals s.heap m) (N : News h₀ env.locals s.heap nx)
    (hv : m c = some (.ref d)) (hm : (d, tup vs k) ∈ nx) (hc : env.kindOf c = some .local) (hd : (c == ("__debug__" : Str)) = false) (hl : xs.length = vs.length) (hx : ∀ x ∈ xs, env.kindOf x.1 = some .local)
    (e1 : (assignEach elts env).map (·.2) = xs.map fun x v => assign (.Name x.1 x.2) env v) (e2 : (assignEach elts env).length = xs.length) (e3 : (assignEach elts env).findIdx? (·.1) = none)
    (h : ∀ h' tk, Fr h₀ env.locals h' (updN m xs vs) → News h₀ env.locals h' nx → Q .next { s with heap := h', toks := tk })
    (hs : swapsWithSole [.Tuple elts x1 tp] (.Name c cp) pos.line env = pure false) (hw : swappedStores [.Tuple elts x1 tp] (.Name c cp) env = pure none) :
    wpAny (model prog w) A (exec (.Assign [.Tuple elts x1 tp] (.Name c cp) pos) env) Q E s := by
  refine Assign_Tuple (wpAny_Name (wpAny_loadName_local hk hc F.ns hv ?_) hd) hs hw
  refine unpackN_ F N (News.isTup N hm) hh (by rw [e2, hl]; rfl) e3 fun h' F' N' => ?_
  rw [e1]
  exact ord_names hk hl hx F' N' fun h'' tk F'' N'' => h h'' tk F'' N''
theorem un6 {x1} {tp pos cp p1 p2 p3 p4 p5 p6 : Pos} {c y1 y2 y3 y4 y5 y6 : Str} {m : Str → Option Value} {s : Shared} {Q : Flow → Shared → Prop} {d : Addr} {v1 v2 v3 v4 v5 v6 : Value} {k : Nat} (hh : A.handled = none) (hk : env.scope.kind = .function) (F : Fr h₀ env.locals s.heap m) (N : News h₀ env.locals s.heap nx)
    (hv : m c = some (.ref d)) (hm : (d, tup [v1, v2, v3, v4, v5, v6] k) ∈ nx) (hc : env.kindOf c = some .local) (hd : (c == ("__debug__" : Str)) = false)
    (k1 : env.kindOf y1 = some .local) (k2 : env.kindOf y2 = some .local) (k3 : env.kindOf y3 = some .local) (k4 : env.kindOf y4 = some .local) (k5 : env.kindOf y5 = some .local) (k6 : env.kindOf y6 = some .local)
    (h : ∀ h' tk, let m' : Str → Option Value := (fun y => if y = y6 then some v6 else if y = y5 then some v5 else if y = y4 then some v4 else if y = y3 then some v3 else if y = y2 then some v2 else if y = y1 then some v1 else m y); Fr h₀ env.locals h' m' → News h₀ env.locals h' nx → Q .next { s with heap := h', toks := tk })
    (hs : swapsWithSole [.Tuple [.Name y1 p1, .Name y2 p2, .Name y3 p3, .Name y4 p4, .Name y5 p5, .Name y6 p6] x1 tp] (.Name c cp) pos.line env = pure false) (hw : swappedStores [.Tuple [.Name y1 p1, .Name y2 p2, .Name y3 p3, .Name y4 p4, .Name y5 p5, .Name y6 p6] x1 tp] (.Name c cp) env = pure none) :
    wpAny (model prog w) A (exec (.Assign [.Tuple [.Name y1 p1, .Name y2 p2, .Name y3 p3, .Name y4 p4, .Name y5 p5, .Name y6 p6] x1 tp] (.Name c cp) pos) env) Q E s :=
  un_gen [(y1, p1), (y2, p2), (y3, p3), (y4, p4), (y5, p5), (y6, p6)] hh hk F N hv hm hc hd rfl (List.forall_mem_cons.mpr ⟨k1, List.forall_mem_cons.mpr ⟨k2, List.forall_mem_cons.mpr ⟨k3, List.forall_mem_cons.mpr ⟨k4, List.forall_mem_cons.mpr ⟨k5, List.forall_mem_cons.mpr ⟨k6, fun _ h => nomatch h⟩⟩⟩⟩⟩⟩) rfl rfl rfl (fun h' tk F' N' => h h' tk F' N') hs hw
end
/-- the values of a list of local names -/
inductive AN (m : Str → Option Value) (env : Env) : List PySem.Expr → List Value → Prop
  | nil : AN m env [] []
  | cons {x p v es vs} (hv : m x = some v) (hx : env.kindOf x = some .local) (hd : (x == ("__debug__" : Str)) = false) (h : AN m env es vs) : AN m env (.Name x p :: es) (v :: vs)
theorem sp_names {prog : Program} {w : World} {A : Around} {E : Value → Shared → Prop} {h₀ : Heap} {env : Env} {s : Shared} {m : Str → Option Value} {pos : Pos} {es : List PySem.Expr} {vs : List Value} {Q : List Value → Shared → Prop} (hk : env.scope.kind = .function) (F : Fr h₀ env.locals s.heap m) (D : AN m env es vs) (h : Q vs s) :
    wpAny (model prog w) A (spliced (backTo pos (starEach es env))) Q E s := by
  induction D generalizing Q with
  | nil => exact spliced_none h
  | cons hv hx hd _ ih => exact spliced_more (wpAny_Name (wpAny_loadName_local hk hx F.ns hv (ih h)) hd)
/-- the around, and the frame, under a letter -/
theorem with_A {M : Model} {α : Type} {A : Around} {t : Sem α} {Q : α → Shared → Prop} {E : Value → Shared → Prop} {s : Shared} (h : let A' := A; wpAny M A' t Q E s) : wpAny M A t Q E s := h
theorem with_env {M : Model} {A : Around} {B : List Stmt} {env : Env} {Q : Flow → Shared → Prop} {E : Value → Shared → Prop} {s : Shared} (h : let e' := env; wpAny M A (execs B e') Q E s) : wpAny M A (execs B env) Q E s := h
end Mine

namespace Mine
theorem fr_let {h₀ h : Heap} {L : Addr} {m : Str → Option Value} {G : Prop} (g : let m' := m; Fr h₀ L h m' → G) : Fr h₀ L h m → G := g
theorem storeX_let {h₀ : Heap} {L a : Addr} {m : Str → Option Value} {news : List (Addr × Obj)} {s : Shared} {prog : Program} {w : World} {A : Around} {E : Value → Shared → Prop} {Q : Unit → Shared → Prop} {cn : Str} {cs : Scope} {ccd v : Value} {cl : List (Str × Addr)} {x : Str} (F : Fr h₀ L s.heap m) (N : News h₀ L s.heap news)
    (h : ∀ h', let m' : Str → Option Value := (fun y => if y = x then some v else m y); Fr h₀ L h' m' → News h₀ L h' news → Q () { s with heap := h', toks := s.toks + 1 })
    (hk : cs.kind = .function := by rfl) (hx : (envX cn cs L a ccd cl).kindOf x = some .local := by rfl) : wpAny (model prog w) A (storeName (envX cn cs L a ccd cl) x v) Q E s := storeX_L F N h hk hx
end Mine

section
open Mine
local macro_rules | `(tactic| bits_by_make) => `(tactic| with_reducible assumption)
local macro_rules | `(tactic| ktr_call $x $c) => `(tactic| (k_dflt (refine' con_use (by k_asm) (by k_asm) (by k_asm) (by k_asm) (by k_asm) $c ?kK ?kd ?ku ?_); (case kK => first | exact rfl | assumption); (case kd => ktr_room); (case ku => ktr_units)))
namespace Mine
-- a call by what is known of it
set_option maxRecDepth 100000 in
set_option maxHeartbeats 8000000 in
theorem jd_con (w : World) {news : List (Addr × Obj)} {v c : Value} {P N A B Gx Gy X Y Z : Int} (hv : IsT3 news v X Y Z) (hc : IsCv news c P N A B Gx Gy) (ok : OkC P A) (okt : OkT X Y Z) :
    Con w 42 news [v, c] 1 (fun nx r => ∃ x y z, IsT3 nx r x y z ∧ jdbl P A (X, Y, Z) = (x, y, z)) := by
  obtain ⟨hP, hP', hA0, hA⟩ := ok
  obtain ⟨hX, hY0, hY, hZ0, hZ⟩ := okt
  unfold Con
  w_on
  k_with_none
  k_fill
  k_with "exec Assign" => k_dflt (refine' un6 (by rfl) (by rfl) (by k_asm) (by k_asm) (by with_unfolding_all exact (rfl : some _ = some _)) (by k_mem) (by rfl) (by decide) (by rfl) (by rfl) (by rfl) (by rfl) (by rfl) (by rfl) ?_ (by rfl) (by rfl); intro h9 tk9 m9 F9 N9; (try dsimp only))
  k_with "eval Name" => k_dflt (refine nameX_L (by assumption) (by with_unfolding_all exact (rfl : some _ = some _)) ?_)
  k_with "exec Assign" => k_dflt ((with_reducible show wpAny _ _ (exec (Stmt.Assign _ (PySem.Expr.BinOp _ _ _ _) _) _) _ _ _); (refine' as_ax (by rfl) (by k_asm) (by k_asm) (by rfl) (by repeat' (first | exact AX.cst (bits_q (by decide) (by decide)) | (apply AX.name (by with_unfolding_all rfl) _ (by rfl) (by decide)) | (apply AX.item (by with_unfolding_all rfl) (by k_mem) (by with_unfolding_all rfl) (by rfl) _ (by decide) (by decide) (by rfl) (by decide)) | apply AX.add | apply AX.sub | apply AX.mul | apply AX.mod | (apply AX.pow (n := 2) (hk := rfl)) | (apply AX.pow (n := 3) (hk := rfl)) | (apply AX.pow (n := 4) (hk := rfl)) | ((with_reducible show Builtin.Int.intBits _ ≤ _); first | assumption | exact bits_m (by assumption) (by assumption) | exact bits_n (by assumption) (by assumption) | exact bits_p (by assumption) (by assumption) | exact bits_q (by assumption) (by assumption) | exact bits_r (by assumption) (by assumption) (by assumption) | exact bits_s (by assumption) (by assumption) | exact bits_d (by assumption) (by assumption) (by assumption) (by assumption) (by assumption)) | exact ax_ne (by assumption) | decide)) ?_); intro h9 t9 tk9 m9 F9 N9; (try dsimp only))
  obtain ⟨pa, t1, t2, t3, n1, rfl, hp⟩ := hv
  obtain ⟨ca, u1, u2, u3, u4, u5, u6, n2, rfl, hcm⟩ := hc
  intro mean mg mb dp un gd cn cs a ccd cl outer A₀ base h₀ L m s Q E Bl F X N T hk hd hu hret
  refine wpAny_call ?_
  k_dflt ktr_enter
  refine with_A ?_
  intro aw
  refine with_env ?_
  intro ew
  k_steps
  all_goals (refine end1 hret (by k_asm) (by k_asm) (by first | assumption | exact ktn_ltOf (by ktn_lt)) ⟨_, _, _, ⟨_, _, _, _, _, rfl, by k_mem⟩, ?_⟩)
  · rw [jdbl, if_neg (by assumption)]
  · rw [jdbl, if_pos (by assumption)]
set_option maxRecDepth 100000 in
set_option maxHeartbeats 8000000 in
theorem ja_con (w : World) {news : List (Addr × Obj)} {v v' c : Value} {P N A B Gx Gy X Y Z X' Y' Z' : Int} (hv : IsT3 news v X Y Z) (hv' : IsT3 news v' X' Y' Z') (hc : IsCv news c P N A B Gx Gy) (ok : OkC P A) (okt : OkT X Y Z) (okt' : OkT X' Y' Z') :
    Con w 49 news [v, v', c] 2 (fun nx r => ∃ x y z, IsT3 nx r x y z ∧ jadd P A (X, Y, Z) (X', Y', Z') = (x, y, z)) := by
  have jd := @jd_con w
  have ok' := ok
  have okt1 := okt
  obtain ⟨hP, hP', hA0, hA⟩ := ok
  obtain ⟨hX, hY0, hY, hZ0, hZ⟩ := okt
  obtain ⟨hX', hY0', hY', hZ0', hZ'⟩ := okt'
  unfold Con
  w_on
  k_with_none
  k_fill
  k_with "exec Assign" => k_dflt (refine' un6 (by rfl) (by rfl) (by k_asm) (by k_asm) (by with_unfolding_all exact (rfl : some _ = some _)) (by k_mem) (by rfl) (by decide) (by rfl) (by rfl) (by rfl) (by rfl) (by rfl) (by rfl) ?_ (by rfl) (by rfl); intro h9 tk9 m9 F9 N9; (try dsimp only))
  k_with "eval Name" => k_dflt (refine nameX_L (by assumption) (by with_unfolding_all exact (rfl : some _ = some _)) ?_)
  k_with "exec Assign" => k_dflt ((with_reducible show wpAny _ _ (exec (Stmt.Assign _ (PySem.Expr.BinOp _ _ _ _) _) _) _ _ _); (refine' as_ax (by rfl) (by k_asm) (by k_asm) (by rfl) (by repeat' (first | exact AX.cst (bits_q (by decide) (by decide)) | (apply AX.name (by with_unfolding_all rfl) _ (by rfl) (by decide)) | (apply AX.item (by with_unfolding_all rfl) (by k_mem) (by with_unfolding_all rfl) (by rfl) _ (by decide) (by decide) (by rfl) (by decide)) | apply AX.add | apply AX.sub | apply AX.mul | apply AX.mod | (apply AX.pow (n := 2) (hk := rfl)) | (apply AX.pow (n := 3) (hk := rfl)) | (apply AX.pow (n := 4) (hk := rfl)) | ((with_reducible show Builtin.Int.intBits _ ≤ _); first | assumption | exact bits_m (by assumption) (by assumption) | exact bits_n (by assumption) (by assumption) | exact bits_p (by assumption) (by assumption) | exact bits_q (by assumption) (by assumption) | exact bits_r (by assumption) (by assumption) (by assumption) | exact bits_s (by assumption) (by assumption) | exact bits_d (by assumption) (by assumption) (by assumption) (by assumption) (by assumption)) | exact ax_ne (by assumption) | decide)) ?_); intro h9 t9 tk9 m9 F9 N9; (try dsimp only))
  obtain ⟨pa, t1, t2, t3, n1, rfl, hp⟩ := hv
  obtain ⟨qa, t1', t2', t3', n1', rfl, hq⟩ := hv'
  obtain ⟨ca, u1, u2, u3, u4, u5, u6, n2, rfl, hcm⟩ := hc
  intro mean mg mb dp un gd cn cs a ccd cl outer A₀ base h₀ L m s Q E Bl F X N T hk hd hu hret
  refine wpAny_call ?_
  k_dflt ktr_enter
  refine with_A ?_
  intro aw
  refine with_env ?_
  intro ew
  k_with "call ref" => (ktr_call 42 (jd ⟨_, _, _, _, _, rfl, by k_mem⟩ ⟨_, _, _, _, _, _, _, _, rfl, by k_mem⟩ ok' okt1); (rintro r9 tl9 h9 tk9 F9 N9 l9 ⟨x9, y9, z9, o9, e9⟩); (try dsimp only); (try k_fold))
  k_steps
  · refine end1 hret (by k_asm) (by k_asm) (by first | assumption | exact ktn_ltOf (by ktn_lt)) ⟨_, _, _, ⟨_, _, _, _, _, rfl, by k_mem⟩, ?_⟩
    subst_vars
    simp only [jadd]
    (repeat' split) <;> first | rfl | contradiction
  · refine endA hret (by k_asm) (by k_asm) (by assumption) ⟨_, _, _, o9, ?_⟩
    rw [← e9]
    subst_vars
    simp only [jadd]
    (repeat' split) <;> first | rfl | contradiction
  · refine end1 hret (by k_asm) (by k_asm) (by first | assumption | exact ktn_ltOf (by ktn_lt)) ⟨_, _, _, ⟨_, _, _, _, _, rfl, by k_mem⟩, ?_⟩
    subst_vars
    simp only [jadd]
    (repeat' split) <;> first | rfl | contradiction
  · refine end0 hret (by k_asm) (by k_asm) ⟨_, _, _, ⟨_, _, _, _, _, rfl, by k_mem⟩, ?_⟩
    simp only [jadd]
    (repeat' split) <;> first | rfl | contradiction
  · refine end0 hret (by k_asm) (by k_asm) ⟨_, _, _, ⟨_, _, _, _, _, rfl, by k_mem⟩, ?_⟩
    simp only [jadd]
    (repeat' split) <;> first | rfl | contradiction
end Mine

namespace Mine
theorem fdiv_letter {prog : Program} {w : World} {A : Around} {E : Value → Shared → Prop} {s : Shared} {a b : Int} {t u : Tok} {Q : Value → Shared → Prop}
    (h0 : 0 < b) (h1 : b < 1073741824) (h2 : 0 ≤ a) (h3 : a < 1073741824) (h : ∀ r tk, r = a.fdiv b → 0 ≤ r → r ≤ a → Q (.int r s.toks) { s with toks := tk }) : wpAny (model prog w) A (binaryOp .FloorDiv (.int a t) (.int b u)) Q E s := by
  have e : a.fdiv b = a / b := Int.fdiv_eq_ediv_of_nonneg a (by omega)
  have e0 : 0 ≤ a / b := Int.ediv_nonneg h2 (by omega)
  have e1 : a / b ≤ a := Int.ediv_le_self b h2
  exact floordiv_int (by omega) (h _ _ rfl (by omega) (by omega)) (Or.inl (PyProof.noPylong_small (by omega)))

theorem gcd_emod (a n : Int) : Int.gcd (a % n) n = Int.gcd a n := by
  have h := Int.gcd_add_mul_left_left n (a % n) (a / n)
  rw [Int.emod_add_mul_ediv] at h
  exact h.symm
/-- one turn of the euclidean loop, as said of its four ints -/
def EuI (a n lm hm low high : Int) : Prop := 1 ≤ low ∧ low < high ∧ high ≤ n ∧ Int.gcd low high = 1 ∧ n ∣ lm * a - low ∧ n ∣ hm * a - high
theorem eu_start {a n : Int} (hn : 1 < n) (hg : Int.gcd a n = 1) : EuI a n 1 0 (a.fmod n) n := by
  have e : a.fmod n = a % n := Int.fmod_eq_emod_of_nonneg a (by omega)
  have hd := Int.emod_add_mul_ediv a n
  have hg' : Int.gcd (a % n) n = 1 := by
    rw [← hg]; exact gcd_emod ..
  have h0 := Int.emod_nonneg a (show n ≠ 0 by omega)
  have h1 := Int.emod_lt_of_pos a (show 0 < n by omega)
  rw [e]
  refine ⟨?_, h1, Int.le_refl _, hg', ⟨a / n, ?_⟩, ⟨-1, ?_⟩⟩
  · rcases (show a % n = 0 ∨ 1 ≤ a % n by omega) with h | h
    · rw [h, Int.gcd_zero_left] at hg'; omega
    · exact h
  · rw [Int.one_mul]; omega
  · rw [Int.zero_mul, Int.mul_neg, Int.mul_one]; omega
theorem eu_step {a n lm hm low high : Int} (h : EuI a n lm hm low high) (hl : 1 < low) : EuI a n (hm - lm * high.fdiv low) lm (high - low * high.fdiv low) low := by
  obtain ⟨h1, h2, h3, hg, ⟨k, hk⟩, ⟨l, hl'⟩⟩ := h
  have e : high.fdiv low = high / low := Int.fdiv_eq_ediv_of_nonneg high (by omega)
  have hd := Int.emod_add_mul_ediv high low
  have h0' := Int.emod_nonneg high (show low ≠ 0 by omega)
  have h1' := Int.emod_lt_of_pos high (show 0 < low by omega)
  have em : high - low * (high / low) = high % low := by omega
  rw [e, em]
  have hg' : Int.gcd (high % low) low = 1 := by
    rw [← hg, Int.gcd_comm low high]; exact gcd_emod ..
  refine ⟨?_, h1', by omega, hg', ⟨l - k * (high / low), ?_⟩, ⟨k, hk⟩⟩
  · rcases (show high % low = 0 ∨ 1 ≤ high % low by omega) with h | h
    · rw [h, Int.gcd_zero_left] at hg'; omega
    · exact h
  · rw [← em]
    generalize high / low = q at *
    grind
theorem eu_end {a n lm hm low high : Int} (h : EuI a n lm hm low high) (hl : ¬ 1 < low) (hn : 1 < n) : 0 ≤ lm.fmod n ∧ lm.fmod n < n ∧ n ∣ lm.fmod n * a - 1 := by
  obtain ⟨h1, h2, h3, hg, ⟨k, hk⟩, -⟩ := h
  have e1 : low = 1 := by omega
  subst e1
  have e : lm.fmod n = lm % n := Int.fmod_eq_emod_of_nonneg lm (by omega)
  rw [e]
  have hd := Int.emod_add_mul_ediv lm n
  refine ⟨Int.emod_nonneg _ (by omega), Int.emod_lt_of_pos _ (by omega), ⟨k - a * (lm / n), ?_⟩⟩
  generalize lm / n = q at *
  grind

theorem eu_start' {a n r : Int} (hn : 1 < n) (hg : a ≠ 0 → Int.gcd a n = 1) (ha : a ≠ 0) (e : r = a.fmod n) : EuI a n 1 0 r n := e ▸ eu_start hn (hg ha)
theorem eu_step' {a n lm hm low high r : Int} (h : EuI a n lm hm low high) (hl : 1 < low) (e : r = high.fdiv low) : EuI a n (hm - lm * r) lm (high - low * r) low := e ▸ eu_step h hl
theorem eu_bounds {a n lm hm low high : Int} (h : EuI a n lm hm low high) : 1 ≤ low ∧ low < high ∧ high ≤ n := ⟨h.1, h.2.1, h.2.2.1⟩
theorem eu_less {a n lm hm low high r : Int} (h : EuI a n lm hm low high) (hl : 1 < low) (e : r = high.fdiv low) : (high - low * r).toNat < low.toNat := by
  have h' := eu_bounds (eu_step' h hl e)
  omega
/-- what inv gives back -/
def InvOf (a n y : Int) : Prop := (a = 0 → y = 0) ∧ (a ≠ 0 → 0 ≤ y ∧ y < n ∧ n ∣ y * a - 1)
set_option maxRecDepth 100000 in
set_option maxHeartbeats 8000000 in
theorem inv_con (w : World) {news : List (Addr × Obj)} {a n : Int} {t u : Tok} (hn : 1 < n) (hn' : n < 64) (hg : a ≠ 0 → Int.gcd a n = 1) :
    Con w 35 news [.int a t, .int n u] 1 (fun _ r => ∃ y t', r = .int y t' ∧ InvOf a n y) := by
  have hn0 : 0 < n := by omega
  unfold Con
  w_on
  k_with_none
  k_fill
  k_with "eval Name" => k_dflt (refine nameX_L (by assumption) (by with_unfolding_all exact (rfl : some _ = some _)) ?_)
  k_with "binaryOp Mod int int" => ((with_reducible refine mod_letter (by assumption) (by assumption) ?_); intro r9 tk9 e9 l9 g9; (try dsimp only))
  k_with "binaryOp FloorDiv int int" => ((try have hB9 := eu_bounds (by assumption)); (with_reducible refine fdiv_letter (by omega) (by omega) (by omega) (by omega) ?_); intro r9 tk9 e9 l9 g9; (try dsimp only))
  intro mean mg mb dp un gd cn cs a' ccd cl outer A₀ base h₀ L m s Q E Bl F X N T hk hd hu hret
  refine wpAny_call ?_
  k_dflt ktr_enter
  k_with "state" => (first | exact eu_start' hn hg (by assumption) (by assumption) | exact eu_step' (by assumption) (by assumption) (by assumption))
  k_with "measure" => exact eu_less (by assumption) (by assumption) (by assumption)
  k_with "exec While Compare cons nil" => k_while (fun _ lm hm low high => EuI a n lm hm low high) (fun _ _ _ low _ => low.toNat) "lm" "hm" "low" "high"
  k_steps
  · refine end0 hret (by k_asm) (by k_asm) ⟨_, _, rfl, fun _ => rfl, fun h => absurd (by assumption) h⟩
  · refine end0 hret (by k_asm) (cb_drop (by k_asm) (by ktd_sub)) ⟨_, _, rfl, fun h => absurd h (by assumption), fun _ => ?_⟩
    subst_vars
    exact eu_end kInv (by assumption) hn
end Mine

namespace Mine
def IsT2 (news : List (Addr × Obj)) (v : Value) (x y : Int) : Prop := ∃ a t1 t2 n, v = .ref a ∧ (a, tup [.int x t1, .int y t2] n) ∈ news
theorem bits_small {x : Int} (h0 : 0 ≤ x) (h : x < 64) : Builtin.Int.intBits x ≤ 2 ^ 20 := Nat.le_trans (PySem.intBits_le_64 (by omega) (by omega)) (by decide)
theorem okT_small {P x y z : Int} (hP : P < 64) (hx0 : 0 ≤ x) (hx : x < P) (hy0 : 0 ≤ y) (hy : y < P) (hz0 : 0 ≤ z) (hz : z < P) : OkT x y z := ⟨bits_small hx0 (by omega), hy0, by omega, hz0, by omega⟩
theorem jdbl_ok {P A : Int} (ok : OkC P A) (p : Int × Int × Int) : OkT (jdbl P A p).1 (jdbl P A p).2.1 (jdbl P A p).2.2 := by
  obtain ⟨h0, h1, -, -⟩ := ok
  unfold jdbl
  split
  · exact ⟨by decide, by decide, by decide, by decide, by decide⟩
  · exact okT_small h1 (Int.fmod_nonneg_of_pos _ h0) (Int.fmod_lt_of_pos _ h0) (Int.fmod_nonneg_of_pos _ h0) (Int.fmod_lt_of_pos _ h0) (Int.fmod_nonneg_of_pos _ h0) (Int.fmod_lt_of_pos _ h0)
theorem okT_ite {c : Prop} [Decidable c] {p q : Int × Int × Int} (hp : OkT p.1 p.2.1 p.2.2) (hq : OkT q.1 q.2.1 q.2.2) : OkT (if c then p else q).1 (if c then p else q).2.1 (if c then p else q).2.2 := by
  split
  · exact hp
  · exact hq
theorem jadd_ok {P A : Int} (ok : OkC P A) {p q : Int × Int × Int} (hp : OkT p.1 p.2.1 p.2.2) (hq : OkT q.1 q.2.1 q.2.2) : OkT (jadd P A p q).1 (jadd P A p q).2.1 (jadd P A p q).2.2 := by
  have hd := jdbl_ok ok p
  obtain ⟨h0, h1, -, -⟩ := ok
  unfold jadd
  refine okT_ite hq (okT_ite hp (okT_ite (okT_ite hd ⟨by decide, by decide, by decide, by decide, by decide⟩) ?_))
  · exact okT_small h1 (Int.fmod_nonneg_of_pos _ h0) (Int.fmod_lt_of_pos _ h0) (Int.fmod_nonneg_of_pos _ h0) (Int.fmod_lt_of_pos _ h0) (Int.fmod_nonneg_of_pos _ h0) (Int.fmod_lt_of_pos _ h0)
theorem jd_con' (w : World) {news : List (Addr × Obj)} {v c : Value} {P N A B Gx Gy X Y Z : Int} (hv : IsT3 news v X Y Z) (hc : IsCv news c P N A B Gx Gy) (ok : OkC P A) (okt : OkT X Y Z) :
    Con w 42 news [v, c] 1 (fun nx r => ∃ x y z, IsT3 nx r x y z ∧ OkT x y z ∧ jdbl P A (X, Y, Z) = (x, y, z)) :=
  (jd_con w hv hc ok okt).mono (fun nx r ⟨x, y, z, i, e⟩ => ⟨x, y, z, i, by have h := jdbl_ok ok (X, Y, Z); rw [e] at h; exact h, e⟩)
theorem ja_con' (w : World) {news : List (Addr × Obj)} {v v' c : Value} {P N A B Gx Gy X Y Z X' Y' Z' : Int} (hv : IsT3 news v X Y Z) (hv' : IsT3 news v' X' Y' Z') (hc : IsCv news c P N A B Gx Gy) (ok : OkC P A) (okt : OkT X Y Z) (okt' : OkT X' Y' Z') :
    Con w 49 news [v, v', c] 2 (fun nx r => ∃ x y z, IsT3 nx r x y z ∧ OkT x y z ∧ jadd P A (X, Y, Z) (X', Y', Z') = (x, y, z)) :=
  (ja_con w hv hv' hc ok okt okt').mono (fun nx r ⟨x, y, z, i, e⟩ => ⟨x, y, z, i, by have h := jadd_ok ok (p := (X, Y, Z)) (q := (X', Y', Z')) okt okt'; rw [e] at h; exact h, e⟩)
/-- the multiple, as the text reckons it (k: turns at the most) -/
noncomputable def jmul (P A N : Int) (a : Int × Int × Int) : Nat → Int → Int × Int × Int
  | 0, _ => a
  | k + 1, n => if a.2.1 = 0 ∨ n = 0 then (0, 0, 1) else if n = 1 then a else if n < 0 ∨ N ≤ n then jmul P A N a k (n.fmod N) else
    if n.fmod 2 = 0 then jdbl P A (jmul P A N a k (n.fdiv 2)) else jadd P A (jdbl P A (jmul P A N a k (n.fdiv 2))) a
def Fit (N : Int) (k : Nat) (n : Int) : Prop := (0 ≤ n ∧ n < N ∧ n < 2 ^ k ∧ 1 ≤ k) ∨ (N ≤ 2 ^ (k - 1) ∧ 2 ≤ k)
theorem Fit.pos {N n : Int} {k : Nat} (h : Fit N k n) : ∃ k', k = k' + 1 := by
  cases k with
  | zero => rcases h with ⟨_, _, _, h⟩ | ⟨_, h⟩ <;> omega
  | succ k => exact ⟨k, rfl⟩
theorem Fit.mod {N n : Int} {k : Nat} (hN : 0 < N) (h : Fit N (k + 1) n) (hn : n < 0 ∨ N ≤ n) : Fit N k (n.fmod N) := by
  have h0 := Int.fmod_nonneg_of_pos n hN
  have h1 := Int.fmod_lt_of_pos n hN
  rcases h with ⟨h2, h3, _⟩ | ⟨h2, h3⟩
  · omega
  · rw [Nat.add_sub_cancel] at h2
    exact Or.inl ⟨h0, h1, by omega, by omega⟩
theorem Fit.half {N n : Int} {k : Nat} (h : Fit N (k + 1) n) (h0 : 2 ≤ n) (h1 : n < N) : Fit N k (n.fdiv 2) := by
  have e : n.fdiv 2 = n / 2 := Int.fdiv_eq_ediv_of_nonneg n (by omega)
  rw [e]
  rcases h with ⟨h2, h3, h4, h5⟩ | ⟨h2, h3⟩
  · rw [Int.pow_succ] at h4
    refine Or.inl ⟨by omega, by omega, by omega, ?_⟩
    rcases Nat.eq_zero_or_pos k with h | h
    · subst h; simp at h4; omega
    · exact h
  · rw [Nat.add_sub_cancel] at h2
    exact Or.inl ⟨by omega, by omega, by omega, by omega⟩
theorem k_open {P A N : Int} {a : Int × Int × Int} {k : Nat} {n : Int} : jmul P A N a (k + 1) n = if a.2.1 = 0 ∨ n = 0 then (0, 0, 1) else if n = 1 then a else if n < 0 ∨ N ≤ n then jmul P A N a k (n.fmod N) else
    if n.fmod 2 = 0 then jdbl P A (jmul P A N a k (n.fdiv 2)) else jadd P A (jdbl P A (jmul P A N a k (n.fdiv 2))) a := rfl
set_option maxRecDepth 100000 in
set_option maxHeartbeats 8000000 in
theorem jm_con (w : World) {P N A B Gx Gy X Y Z : Int} (ok : OkC P A) (okt : OkT X Y Z) (hN : 0 < N) (hN' : N < 64) : ∀ (k : Nat) {news : List (Addr × Obj)} {v c : Value} {n : Int} {t : Tok} (_ : IsT3 news v X Y Z) (_ : IsCv news c P N A B Gx Gy) (_ : Fit N k n),
    Con w 63 news [v, .int n t, c] (k + 2) (fun nx r => ∃ x y z, IsT3 nx r x y z ∧ OkT x y z ∧ jmul P A N (X, Y, Z) k n = (x, y, z)) := by
  have jd := @jd_con' w
  have ja := @ja_con' w
  have ok' := ok
  have okt1 := okt
  obtain ⟨hP, hP', hA0, hA⟩ := ok
  obtain ⟨hX, hY0, hY, hZ0, hZ⟩ := okt
  intro k
  induction k with
  | zero => intro news v c n t _ _ hf; obtain ⟨_, h⟩ := hf.pos; cases h
  | succ k IH =>
    intro news v c n t hv hc hf
    have hfm := fun h => Fit.mod hN hf h
    have hfh := fun h h' => Fit.half hf h h'
    unfold Con
    w_on
    k_with_none
    k_fill
    k_with "eval Name" => k_dflt (refine nameX_L (by assumption) (by with_unfolding_all exact (rfl : some _ = some _)) ?_)
    k_with "binaryOp Mod int int" => ((with_reducible refine mod_letter (by first | assumption | decide) (by first | assumption | decide) ?_); intro r9 tk9 e9 l9 g9; (try dsimp only))
    k_with "binaryOp FloorDiv int int" => ((with_reducible refine fdiv_letter (by omega) (by omega) (by omega) (by omega) ?_); intro r9 tk9 e9 l9 g9; (try dsimp only))
    obtain ⟨pa, t1, t2, t3, n1, rfl, hp⟩ := hv
    obtain ⟨ca, u1, u2, u3, u4, u5, u6, n2, rfl, hcm⟩ := hc
    intro mean mg mb dp un gd cn cs a ccd cl outer A₀ base h₀ L m s Q E Bl F Xk Nw T hk hd hu hret
    refine wpAny_call ?_
    k_dflt ktr_enter
    refine with_A ?_
    intro aw
    refine with_env ?_
    intro ew
    rename Fr _ _ _ _ => F8
    revert F8
    refine fr_let ?_
    intro m8 F8
    k_with "call ref" => ((first | ktr_call 42 (jd ⟨_, _, _, _, _, rfl, by k_mem⟩ ⟨_, _, _, _, _, _, _, _, rfl, by k_mem⟩ ok' (by assumption)) | ktr_call 49 (ja ⟨_, _, _, _, _, rfl, by k_mem⟩ ⟨_, _, _, _, _, rfl, by k_mem⟩ ⟨_, _, _, _, _, _, _, _, rfl, by k_mem⟩ ok' (by assumption) okt1) | ktr_call 63 (IH ⟨_, _, _, _, _, rfl, by k_mem⟩ ⟨_, _, _, _, _, _, _, _, rfl, by k_mem⟩ (by subst_vars; first | (refine hfm ?_; omega) | (refine hfh ?_ ?_ <;> omega)))); (rintro r9 tl9 h9 tk9 F9 N9 l9 ⟨x9, y9, z9, ⟨a9, v9, v9', v9'', n9, rfl, m9⟩, o9, e9⟩); (try dsimp only); (try k_fold))
    k_steps
    · refine end1 hret (by k_asm) (by k_asm) (by first | assumption | exact ktn_ltOf (by ktn_lt)) ⟨_, _, _, ⟨_, _, _, _, _, rfl, by k_mem⟩, ⟨by decide, by decide, by decide, by decide, by decide⟩, ?_⟩
      rw [k_open, if_pos (Or.inl (by assumption))]
    · refine end1 hret (by k_asm) (by k_asm) (by first | assumption | exact ktn_ltOf (by ktn_lt)) ⟨_, _, _, ⟨_, _, _, _, _, rfl, by k_mem⟩, ⟨by decide, by decide, by decide, by decide, by decide⟩, ?_⟩
      rw [k_open, if_pos (Or.inr (by assumption))]
    · refine end0 hret (by k_asm) (by k_asm) ⟨_, _, _, ⟨_, _, _, _, _, rfl, by k_mem⟩, okt1, ?_⟩
      have q1 : ¬ (Y = 0 ∨ n = 0) := by rintro (h | h) <;> contradiction
      have q4 : n = 1 := by assumption
      rw [k_open, if_neg q1, if_pos q4]
    · refine endA hret (by k_asm) (by k_asm) (by assumption) ⟨_, _, _, ⟨_, _, _, _, _, rfl, m9⟩, o9, ?_⟩
      rw [← e9]
      subst_vars
      have q1 : ¬ (Y = 0 ∨ n = 0) := by rintro (h | h) <;> contradiction
      have q2 : n < 0 ∨ N ≤ n := by omega
      have q4 : n ≠ 1 := by assumption
      rw [k_open, if_neg q1, if_neg q4, if_pos q2]
    · refine endA hret (by k_asm) (by k_asm) (by assumption) ⟨_, _, _, ⟨_, _, _, _, _, rfl, m9⟩, o9, ?_⟩
      rw [← e9]
      subst_vars
      have q1 : ¬ (Y = 0 ∨ n = 0) := by rintro (h | h) <;> contradiction
      have q2 : n < 0 ∨ N ≤ n := by omega
      have q4 : n ≠ 1 := by assumption
      rw [k_open, if_neg q1, if_neg q4, if_pos q2]
    · refine endAA hret (by k_asm) (by k_asm) (by assumption) (by assumption) ⟨_, _, _, ⟨_, _, _, _, _, rfl, m9⟩, o9, ?_⟩
      rename jmul P A N (X, Y, Z) k _ = _ => eM
      rw [← e9, ← eM]
      have q1 : ¬ (Y = 0 ∨ n = 0) := by rintro (h | h) <;> contradiction
      have q2 : ¬ (n < 0 ∨ N ≤ n) := by omega
      have q3 : n.fmod 2 = 0 := by subst_vars; assumption
      have q4 : n ≠ 1 := by assumption
      subst_vars
      rw [k_open, if_neg q1, if_neg q4, if_neg q2, if_pos q3]
    · refine endAAA hret (by k_asm) (by k_asm) (by assumption) (by assumption) (by assumption) ⟨_, _, _, ⟨_, _, _, _, _, rfl, m9⟩, o9, ?_⟩
      rename jmul P A N (X, Y, Z) k _ = _ => eM
      rename jdbl P A _ = _ => eD
      rw [← e9, ← eD, ← eM]
      have q1 : ¬ (Y = 0 ∨ n = 0) := by rintro (h | h) <;> contradiction
      have q2 : ¬ (n < 0 ∨ N ≤ n) := by omega
      have q3 : ¬ (n.fmod 2 = 0) := by subst_vars; assumption
      have q4 : n ≠ 1 := by assumption
      subst_vars
      rw [k_open, if_neg q1, if_neg q4, if_neg q2, if_neg q3]
    · exfalso
      have q5 := Int.fmod_nonneg_of_pos n (b := 2) (by decide)
      have q6 := Int.fmod_lt_of_pos n (b := 2) (by decide)
      subst_vars
      omega
end Mine

namespace Mine
theorem InvOf.bounds {a n y : Int} (h : InvOf a n y) (hn : 0 < n) : 0 ≤ y ∧ y < n := by
  by_cases ha : a = 0
  · rw [h.1 ha]; omega
  · exact ⟨(h.2 ha).1, (h.2 ha).2.1⟩
set_option maxRecDepth 100000 in
set_option maxHeartbeats 8000000 in
theorem fj_con (w : World) {news : List (Addr × Obj)} {v c : Value} {P N A B Gx Gy X Y Z : Int} (hv : IsT3 news v X Y Z) (hc : IsCv news c P N A B Gx Gy) (ok : OkC P A) (okt : OkT X Y Z) (hP1 : 1 < P) (hg : Z ≠ 0 → Int.gcd Z P = 1) :
    Con w 56 news [v, c] 2 (fun nx r => ∃ z, InvOf Z P z ∧ IsT2 nx r ((X * z ^ 2).fmod P) ((Y * z ^ 3).fmod P)) := by
  have iv := @inv_con w
  obtain ⟨hP, hP', hA0, hA⟩ := ok
  obtain ⟨hX, hY0, hY, hZ0, hZ⟩ := okt
  unfold Con
  w_on
  k_with_none
  k_fill
  k_with "binaryOp Mod int int" => ((with_reducible refine mod_letter (by first | assumption | decide) (by first | assumption | decide) ?_); intro r9 tk9 e9 l9 g9; (try dsimp only))
  k_with "binaryOp Pow int int" => (first | ((with_reducible refine pow_letter (by decide) (by decide) (by omega) (by omega) ?_); intro r9 tk9 e9 l9 g9; (try simp only [show Int.toNat 2 = 2 from rfl, show Int.toNat 3 = 3 from rfl, show Int.toNat 4 = 4 from rfl] at e9); (try dsimp only)) | ((with_reducible refine pow_big (by decide) (by bits_by_make) (by decide) ?_); intro r9 tk9 e9; (try simp only [show Int.toNat 2 = 2 from rfl, show Int.toNat 3 = 3 from rfl, show Int.toNat 4 = 4 from rfl] at e9); (try dsimp only)))
  k_with "exec Assign" => k_dflt (refine' un6 (by rfl) (by rfl) (by k_asm) (by k_asm) (by with_unfolding_all exact (rfl : some _ = some _)) (by k_mem) (by rfl) (by decide) (by rfl) (by rfl) (by rfl) (by rfl) (by rfl) (by rfl) ?_ (by rfl) (by rfl); intro h9 tk9 F9 N9; (try dsimp only))
  k_with "eval Name" => k_dflt (refine nameX_L (by assumption) (by with_unfolding_all exact (rfl : some _ = some _)) ?_)
  obtain ⟨pa, t1, t2, t3, n1, rfl, hp⟩ := hv
  obtain ⟨ca, u1, u2, u3, u4, u5, u6, n2, rfl, hcm⟩ := hc
  intro mean mg mb dp un gd cn cs a ccd cl outer A₀ base h₀ L m s Q E Bl F Xk Nw T hk hd hu hret
  refine wpAny_call ?_
  k_dflt ktr_enter
  k_with "call ref" => (ktr_call 35 (iv hP1 hP' hg); (rintro r9 tl9 h9 tk9 F9 N9 l9 ⟨y9, t9, rfl, i9⟩); (have b9 := i9.bounds hP); (try dsimp only); (try k_fold))
  k_steps
  · subst_vars
    refine end1A hret (by k_asm) (by k_asm) (by first | assumption | exact ktn_ltOf (by ktn_lt)) ⟨y9, i9, _, _, _, _, rfl, by k_mem⟩
end Mine

set_option maxRecDepth 100000
namespace Mine
theorem entry_pow3 : entryFor table "pow" = some Builtin.«pow» := entryFor_of_tree (by kernel_rfl)
theorem kind_pow3 : builtinKind "pow" = none := by kernel_rfl
theorem plain_pow3 : plainId "pow" = true := by decide +kernel
theorem args_pow3 (a b c : Value) : argsOk "pow" ⟨[a, b, c], []⟩ := by unfold argsOk; kernel_rfl
theorem args_ipow3 (a b c : Value) : argsOk "int.__pow__" ⟨[a, b, c], []⟩ := by unfold argsOk; kernel_rfl
theorem slot_pow3 : Slot "int" (Str.ofString "__pow__") "int.__pow__" :=
  .of (owner := "int") (n := "__pow__") (by rw [typeLookup_type, builtinLookup_eq_fast]; kernel_rfl) (by decide +kernel) (by decide +kernel) (by decide +kernel)
    (by first | exact .inl (by decide +kernel) | exact .inr (by decide +kernel)) (by rw [isSubtype_type]; kernel_rfl)
section
variable {prog : Program} {w : World} {A : Around} {E : Value → Shared → Prop} {s : Shared} {b e m : Int} {t u v : Tok} {Q : Value → Shared → Prop}
theorem call_int_pow3 (he : 0 ≤ e) (hm : 1 < m) (h : Q (.int (Builtin.powMod (b % m).toNat e.natAbs m.natAbs : Nat) s.toks) { s with toks := s.toks + 1 }) :
    wpAny (model prog w) A (call (.builtin "int.__pow__") [.int b t, .int e u, .int m v]) (fun v s' => v ≠ .notImplemented ∧ Q v s') E s := by
  refine wpAny_call_entry slot_int_pow (typeIs_int s b t) entry_int_pow ?_ (args_ipow3 _ _ _)
  have h0 : (m == 0) = false := by simp; omega
  have h1 : (m.natAbs == 1) = false := by simp; omega
  have h2 : ¬ e < 0 := by omega
  have h3 : (decide (m < 0) && (Builtin.powMod (b % m).toNat e.natAbs m.natAbs : Int) != 0) = false := by
    have : decide (m < 0) = false := decide_eq_false (by omega)
    rw [this]; rfl
  have h4 : ((m.natAbs : Nat) : Int) = m := by omega
  show wpAny _ _ (if (m == 0) = true then _ else _) _ _ s
  rw [if_neg (by rw [h0]; exact Bool.false_ne_true)]
  show wpAny _ _ (if (m.natAbs == 1) = true then _ else _) _ _ s
  rw [if_neg (by rw [h1]; exact Bool.false_ne_true)]
  show wpAny _ _ (if e < 0 then _ else _) _ _ s
  rw [if_neg h2]
  show wpAny _ _ (retInt (if (decide (m < 0) && ((Builtin.powMod (b % (m.natAbs : Int)).toNat e.natAbs m.natAbs : Nat) : Int) != 0) = true then _ else ((Builtin.powMod (b % (m.natAbs : Int)).toNat e.natAbs m.natAbs : Nat) : Int))) _ _ s
  rw [h4, if_neg (by rw [h3]; exact Bool.false_ne_true)]
  exact wpAny_bind (wpAny_mkInt (wpAny_pure ⟨_, rfl, by simp, h⟩))
theorem call_pow3 (he : 0 ≤ e) (hm : 1 < m) (h : Q (.int (Builtin.powMod (b % m).toNat e.natAbs m.natAbs : Nat) s.toks) { s with toks := s.toks + 1 }) :
    wpAny (model prog w) A (call (.builtin "pow") [.int b t, .int e u, .int m v]) Q E s := by
  refine Calls.call_function_entry kind_pow3 plain_pow3 entry_pow3 (args_pow3 _ _ _) ?_
  unfold Builtin.«pow»
  refine wpAny_bind (m := Builtin.Builtins.bindParams "pow" ["base", "exp", "mod"] 2 _) (wpAny_pure (a := [some (Value.int b t), some (Value.int e u), some (Value.int m v)]) ?_)
  refine wpAny_bind (wpAny_rule ?_)
  refine wpAny_bind (wpAny_typeOf (typeIs_int s b t) ?_)
  dsimp only
  refine wpAny_bind ?_
  rw [slot_pow3.lookup]
  refine wpAny_pure ?_
  dsimp only [Option.getD]
  refine wpAny_bind ?_
  have hT := typeIs_int s b t
  have hS := slot_pow3
  generalize (Str.ofString "__pow__") = nm at hS ⊢
  refine wpAny_callSpecial?_slot hT hS ?_
  refine wpAny_mono (call_int_pow3 (prog := prog) (w := w) (t := t) (u := u) (v := v) (Q := Q) he hm h) ?_ (fun _ _ x => x)
  intro r s' h'
  obtain ⟨h1, h2⟩ := h'
  dsimp only

  rw [if_pos (by simpa using h1)]
  exact wpAny_pure ⟨_, rfl, h2⟩
theorem powMod_lt {b e m : Nat} (hm : 0 < m) : Builtin.powMod b e m < m := by
  unfold Builtin.powMod
  have key : ∀ (l : List Nat) (p : Nat), p < m → l.foldl (fun p i => if e.testBit i then p * p % m * b % m else p * p % m) p < m := by
    intro l
    induction l with
    | nil => exact fun p h => h
    | cons i r ih =>
      intro p h
      rw [List.foldl_cons]
      refine ih _ ?_
      split
      · exact Nat.mod_lt _ hm
      · exact Nat.mod_lt _ hm
  exact key _ _ (Nat.mod_lt _ hm)
/-- pow of three ints -/
noncomputable def powI (b e m : Int) : Int := ((Builtin.powMod (b % m).toNat e.natAbs m.natAbs : Nat) : Int)
theorem pow_call (he : 0 ≤ e) (hm : 1 < m) (h : ∀ r tk, r = powI b e m → 0 ≤ r → r < m → Q (.int r s.toks) { s with toks := tk }) :
    wpAny (model prog w) A (call (.builtin "pow") [.int b t, .int e u, .int m v]) Q E s := by
  have hl := powMod_lt (b := (b % m).toNat) (e := e.natAbs) (m := m.natAbs) (by omega)
  have hl' : powI b e m < m := by unfold powI; omega
  have h0 : 0 ≤ powI b e m := by unfold powI; omega
  exact call_pow3 he hm (h _ _ rfl h0 hl')
end
end Mine

namespace Mine
/-- the sum of two points of the law's own reckoning -/
noncomputable def lsum (p a x1 y1 x2 y2 : Int) : Option (Int × Int) :=
  if x1 = x2 ∧ y1 ≠ y2 then none else
  let run := if x1 = x2 then 2 * y1 else x2 - x1
  let climb := if x1 = x2 then 3 * x1 * x1 + a else y2 - y1
  let slope := (climb * powI (run.fmod p) (p - 2) p).fmod p
  let x3 := (slope * slope - x1 - x2).fmod p
  some (x3, (slope * (x1 - x3) - y1).fmod p)
/-- a point (or none) at a value -/
noncomputable def IsPt (news : List (Addr × Obj)) (v : Value) : Option (Int × Int) → Prop
  | none => v = .none
  | some q => IsT2 news v q.1 q.2
local macro_rules | `(tactic| walk_at "storeName") => `(tactic| k_dflt (refine storeX_let (by k_asm) (by k_asm) ?_; intro h9 m9 F9 N9; (try dsimp only)))
set_option maxRecDepth 100000 in
set_option maxHeartbeats 8000000 in
theorem ls_con (w : World) {news : List (Addr × Obj)} {v v' : Value} {p a x1 y1 x2 y2 : Int} {t u : Tok} (hv : IsT2 news v x1 y1) (hv' : IsT2 news v' x2 y2) (hp : 2 ≤ p) (hp' : p < 64) (ha0 : 0 ≤ a) (ha : a < 64) (hx0 : 0 ≤ x1) (hx : x1 < 64) :
    Con w 96 news [v, v', .int a t, .int p u] 1 (fun nx r => IsPt nx r (lsum p a x1 y1 x2 y2)) := by
  unfold Con
  w_on
  k_with_none
  k_fill
  k_with "eval Name" => k_dflt (refine nameX_L (by assumption) (by with_unfolding_all exact (rfl : some _ = some _)) ?_)
  k_with "binaryOp Mod int int" => ((with_reducible refine mod_letter (by first | assumption | omega) (by first | assumption | omega) ?_); intro r9 tk9 e9 l9 g9; (try dsimp only))
  k_with "call builtin:pow" => ((with_reducible refine pow_call (by omega) (by omega) ?_); intro r9 tk9 e9 l9 g9; (try dsimp only))
  obtain ⟨pa, t1, t2, n1, rfl, hpm⟩ := hv
  obtain ⟨qa, t1', t2', n1', rfl, hqm⟩ := hv'
  intro mean mg mb dp un gd cn cs a' ccd cl outer A₀ base h₀ L m s Q E Bl F Xk Nw T hk hd hu hret
  refine wpAny_call ?_
  k_dflt ktr_enter
  refine with_A ?_
  intro aw
  refine with_env ?_
  intro ew
  rename Fr _ _ _ _ => F8
  revert F8
  refine fr_let ?_
  intro m8 F8
  k_steps
  · refine end0 hret (by k_asm) (by k_asm) ?_
    rw [lsum, if_pos ⟨by assumption, by assumption⟩]
    rfl
  all_goals first | (exfalso; omega) | skip
  · subst_vars
    refine endS hret (by k_asm) (by k_asm) (by ktd_sub) (by first | assumption | exact ktn_ltOf (by ktn_lt)) ?_
    rw [lsum, if_neg (by simp)]
    simp only [if_true]
    exact ⟨_, _, _, _, rfl, by k_mem⟩
  · have q : x1 ≠ x2 := by assumption
    subst_vars
    refine endS hret (by k_asm) (by k_asm) (by ktd_sub) (by first | assumption | exact ktn_ltOf (by ktn_lt)) ?_
    rw [lsum, if_neg (fun h => q h.1)]
    simp only [if_neg q]
    exact ⟨_, _, _, _, rfl, by k_mem⟩
end Mine

namespace Mine

def NowEnd (h₀ : Heap) (L : Addr) (s : Shared) (y : Str) (m₀ : Str → Option Value) (J : Nat → Value → List (Addr × Obj) → Prop) (n : Nat) (s' : Shared) : Prop :=
  ∃ h' tk m' v' nx' n', s' = { s with heap := h', toks := tk } ∧ Fr h₀ L h' m' ∧ News h₀ L h' nx' ∧ (∀ z, m' z = if z = y then some v' else m₀ z) ∧ J n' v' nx' ∧ n' < n
def NowPost (h₀ : Heap) (L : Addr) (s : Shared) (y : Str) (m₀ : Str → Option Value) (J : Nat → Value → List (Addr × Obj) → Prop) (n : Nat) (Q : Flow → Shared → Prop) (f : Flow) (s' : Shared) : Prop :=
  match f with
  | .ret v => Q (.ret v) s'
  | .brk => Q .next s'
  | _ => NowEnd h₀ L s y m₀ J n s'
section
variable {prog : Program} {w : World} {A : Around} {E : Value → Shared → Prop} {Q : Flow → Shared → Prop} {s : Shared} {env : Env} {h₀ : Heap} {L : Addr}
/-- a while whose turns store one name; what they make and change stands in J -/
theorem while_now {test : Expr} {body : List Stmt} {pos : Pos} {m₀ : Str → Option Value} {nx₀ : List (Addr × Obj)} {v₀ : Value} {n₀ : Nat} (y : Str) (J : Nat → Value → List (Addr × Obj) → Prop)
    (F : Fr h₀ L s.heap m₀) (N : News h₀ L s.heap nx₀) (hy : m₀ y = some v₀) (hj : J n₀ v₀ nx₀)
    (turn : ∀ n v nx h tk, J n v nx → Fr h₀ L h (fun z => if z = y then some v else m₀ z) → News h₀ L h nx →
      wpAny (model prog w) A (isTrue test env (eval test env)) (fun b s₂ =>
        if b = true then wpAny (model prog w) A (execs body env) (NowPost h₀ L s y m₀ J n Q) E s₂ else Q .next s₂) E { s with heap := h, toks := tk })
    (hE : PassesOwn (model prog w) A env E := by passes_own) :
    wpAny (model prog w) A (exec (.While test body [] pos) env) Q E s := by
  refine While_inv2 (fun n m nx => ∃ v, (∀ z, m z = if z = y then some v else m₀ z) ∧ J n v nx) F N ⟨v₀, fun z => ?_, hj⟩ ?_ hE
  · by_cases h : z = y
    · rw [if_pos h, h, hy]
    · rw [if_neg h]
  · rintro n m₁ nx h tk F₁ N₁ ⟨v, hm, hj'⟩
    have e : m₁ = fun z => if z = y then some v else m₀ z := funext hm
    subst e
    refine wpAny_mono (turn n v nx h tk hj' F₁ N₁) (fun b s₂ p => ?_) fun _ _ x => x
    cases b with
    | false => simpa using p
    | true =>
      simp only [if_true] at p ⊢
      refine wpAny_mono p (fun f s₃ q => ?_) fun _ _ x => x
      cases f with
      | ret v => exact q
      | brk => exact q
      | next =>
        obtain ⟨h', tk', m', v', nx', n', rfl, F', N', hm', hj', hn⟩ := q
        exact ⟨h', tk', m', nx', n', rfl, F', N', hn, v', hm', hj'⟩
      | cont =>
        obtain ⟨h', tk', m', v', nx', n', rfl, F', N', hm', hj', hn⟩ := q
        exact ⟨h', tk', m', nx', n', rfl, F', N', hn, v', hm', hj'⟩
end

/-- points (or none) at the values of a list -/
inductive PtsIn (news : List (Addr × Obj)) : List Value → List (Option (Int × Int)) → Prop
  | nil : PtsIn news [] []
  | cons {v : Value} {o : Option (Int × Int)} {vs : List Value} {os : List (Option (Int × Int))} : IsPt news v o → PtsIn news vs os → PtsIn news (v :: vs) (o :: os)
theorem IsPt.mono {news news' : List (Addr × Obj)} {v : Value} {o : Option (Int × Int)} (h : IsPt news v o) (hs : ∀ p ∈ news, p ∈ news') : IsPt news' v o := by
  cases o with
  | none => exact h
  | some q =>
    obtain ⟨a, t1, t2, n, e, hm⟩ := h
    exact ⟨a, t1, t2, n, e, hs _ hm⟩
theorem PtsIn.mono {news news' : List (Addr × Obj)} {vs : List Value} {os : List (Option (Int × Int))} (h : PtsIn news vs os) (hs : ∀ p ∈ news, p ∈ news') : PtsIn news' vs os := by
  induction h with
  | nil => exact .nil
  | cons h _ ih => exact .cons (h.mono hs) ih
theorem PtsIn.snoc {news : List (Addr × Obj)} {v : Value} {o : Option (Int × Int)} {vs : List Value} {os : List (Option (Int × Int))} (h : PtsIn news vs os) (hv : IsPt news v o) : PtsIn news (vs ++ [v]) (os ++ [o]) := by
  induction h with
  | nil => exact .cons hv .nil
  | cons h _ ih => exact .cons h ih
theorem PtsIn.length {news : List (Addr × Obj)} {vs : List Value} {os : List (Option (Int × Int))} (h : PtsIn news vs os) : vs.length = os.length := by
  induction h with
  | nil => rfl
  | cons _ _ ih => simp [ih]

/-- each point's sum with (x, y) is the next one's, the last one's is none -/
noncomputable def Chain (p a x y : Int) : List (Int × Int) → Prop
  | [] => True
  | q :: t => lsum p a q.1 q.2 x y = t.head? ∧ Chain p a x y t
end Mine

namespace Mine
local macro_rules | `(tactic| k_all) => `(tactic| assumption)
local macro_rules | `(tactic| k_mem) => `(tactic| (with_reducible refine List.mem_cons_of_mem _ ?_; k_mem))
theorem isPt_drop {nx : List (Addr × Obj)} {l : Addr} {vs : Array Value} {k : Nat} {v : Value} {o : Option (Int × Int)} (h : IsPt ((l, W.listOf vs k) :: nx) v o) : IsPt nx v o := by
  cases o with
  | none => exact h
  | some q =>
    obtain ⟨a, t1, t2, n, e, hm⟩ := h
    refine ⟨a, t1, t2, n, e, ?_⟩
    rcases List.mem_cons.mp hm with h | h
    · exact absurd (congrArg (fun p => p.2.cls) h) (by intro h; injection h with h; exact absurd h (by decide))
    · exact h
/-- the state of the round's loop -/
def RdJ (news : List (Addr × Obj)) (l : Addr) (p a x y : Int) (ms : List (Int × Int)) (n : Nat) (v : Value) (nx : List (Addr × Obj)) : Prop :=
  ∃ vs k tl done todo, nx = (l, W.listOf vs.toArray k) :: (news ++ tl) ∧ (∀ q ∈ news, ∀ p ∈ tl, q.1 < p.1) ∧ (∀ p ∈ tl, l < p.1) ∧ PtsIn (news ++ tl) vs (none :: done.map some) ∧ IsPt (news ++ tl) v todo.head? ∧
    ms = done ++ todo ∧ Chain p a x y todo ∧ n = todo.length ∧ vs.length ≤ 64 + done.length
/-- a list of points (or none) at a value -/
def IsPts (news : List (Addr × Obj)) (r : Value) (os : List (Option (Int × Int))) : Prop := ∃ l vs k, r = .ref l ∧ (l, W.listOf vs.toArray k) ∈ news ∧ PtsIn news vs os
set_option maxRecDepth 100000 in
set_option maxHeartbeats 8000000 in
theorem lr_con (w : World) {news : List (Addr × Obj)} {v : Value} {p a x y : Int} {t u : Tok} (hv : IsT2 news v x y) (hp : 2 ≤ p) (hp' : p < 64) (ha0 : 0 ≤ a) (ha : a < 64)
    (ms : List (Int × Int)) (hms : ∀ q ∈ (x, y) :: ms, 0 ≤ q.1 ∧ q.1 < 64) (hl : ms.length < 64) (hch : Chain p a x y ((x, y) :: ms)) :
    Con w 103 news [v, .int a t, .int p u] 2 (fun nx r => IsPts nx r (none :: some (x, y) :: ms.map some)) := by
  have ls := @ls_con w
  unfold Con
  w_on
  k_with_none
  k_fill
  k_with "eval Name" => k_dflt (refine nameX_L (by assumption) (by with_unfolding_all exact (rfl : some _ = some _)) ?_)
  obtain ⟨pa, t1, t2, n1, rfl, hpm⟩ := hv
  intro mean mg mb dp un gd cn cs a' ccd cl outer A₀ base h₀ L m s Q E Bl F Xk Nw T hk hd hu hret
  refine wpAny_call ?_
  k_dflt ktr_enter
  k_with "exec While Compare cons nil" => refine Hold.out ?_
  k_steps
  rename_i l' h2 l1 h1 h0 F0 N0
  refine Hold.mk ?_
  refine while_now (Str.ofString "now") (RdJ news l' p a x y ((x, y) :: ms)) F0 N0 rfl ⟨[Value.none], 0, [], [], (x, y) :: ms, by simp, fun _ _ _ h => (nomatch h), fun _ h => (nomatch h), .cons rfl .nil, ⟨_, _, _, _, rfl, by simpa using hpm⟩, rfl, hch, rfl, by simp⟩ ?_
  rintro n v nx h tk ⟨vs, k, tl, done, todo, rfl, ho, hlt, hpts, hv, hms', hch', rfl, hvs⟩ F1 N1
  cases todo with
  | nil =>
    have hv' : v = .none := hv
    subst hv'
    k_steps
    refine endA (tl := (l', W.listOf vs.toArray k) :: tl) hret (by k_asm) ?_ ?_ ?_
    · exact fun p hp => (by k_asm : News h₀ L _ _) p ((List.mem_append.mp hp).elim (fun h => .tail _ (List.mem_append.mpr (.inl h))) fun h => (List.mem_cons.mp h).elim (fun h => List.mem_cons.mpr (.inl h)) fun h => .tail _ (List.mem_append.mpr (.inr h)))
    · intro q hq p hp
      rcases List.mem_cons.mp hp with rfl | hp
      · exact l1 q hq
      · exact ho q hq p hp
    · refine ⟨l', vs, k, rfl, List.mem_append.mpr (.inr (.head _)), ?_⟩
      rw [List.append_nil] at hms'
      have hd : done = (x, y) :: ms := hms'.symm
      subst hd
      exact hpts.mono (fun p hp => (List.mem_append.mp hp).elim (fun h => List.mem_append.mpr (.inl h)) fun h => List.mem_append.mpr (.inr (.tail _ h)))
  | cons q todo =>
    obtain ⟨qa, s1, s2, nq, rfl, hqm⟩ := hv
    have hlen : done.length + (todo.length + 1) = ms.length + 1 := by have := congrArg List.length hms'; simpa using this.symm
    have hsz : vs.toArray.size ≤ sizeLine := by rw [sizeLine_eq]; simp; omega
    have hne : ∀ p ∈ news ++ tl, p.1 ≠ l' := by
      intro p hp
      rcases List.mem_append.mp hp with h | h
      · exact Nat.ne_of_lt (l1 p h)
      · exact Nat.ne_of_gt (hlt p h)
    have hqx := hms q (by rw [hms']; simp)
    k_with "call ref" => (ktr_call 96 (ls ⟨_, _, _, _, rfl, by k_mem⟩ ⟨_, _, _, _, rfl, by k_mem⟩ hp hp' ha0 ha hqx.1 hqx.2); (rintro r9 tl9 h9 tk9 F9 N9 l9 o9); (try dsimp only); (try k_fold))
    k_steps
    refine append_K F1 N1 (Upd.head hne) ?_ hsz
    intro h' F' N'
    k_steps
    k_steps
    rename_i F2 N2
    have e1 : vs.toArray.push (Value.ref qa) = (vs ++ [Value.ref qa]).toArray := by simp
    have sub : ∀ p ∈ news ++ tl, p ∈ news ++ (tl ++ tl9) := fun p hp => by rw [← List.append_assoc]; exact List.mem_append.mpr (.inl hp)
    rw [e1] at o9 N2 l9
    refine ⟨_, _, _, r9, (l', W.listOf (vs ++ [Value.ref qa]).toArray (k + 1)) :: (news ++ (tl ++ tl9)), todo.length, rfl, F2, ?_, ?_, ⟨vs ++ [Value.ref qa], k + 1, tl ++ tl9, done ++ [q], todo, rfl, ?_, ?_, ?_, ?_, ?_, hch'.2, rfl, ?_⟩, by simp⟩
    · rw [← List.append_assoc]; exact N2
    · intro z
      by_cases hz : z = Str.ofString "now"
      · simp [hz]
      · simp [hz]
    · intro q hq p hp
      rcases List.mem_append.mp hp with h | h
      · exact ho q hq p h
      · exact l9 q (.tail _ (List.mem_append.mpr (.inl hq))) p h
    · intro p hp
      rcases List.mem_append.mp hp with h | h
      · exact hlt p h
      · exact l9 _ (.head _) p h
    · rw [List.map_append, ← List.cons_append]
      exact (hpts.mono sub).snoc ⟨qa, s1, s2, nq, rfl, sub _ hqm⟩
    · rw [← hch'.1, ← List.append_assoc]
      exact isPt_drop o9
    · rw [hms']; simp
    · simp; omega
end Mine

namespace Mine
/-- the end of a turn that stores the names of S at the most -/
def RgEnd (h₀ : Heap) (L : Addr) (s : Shared) (x : Str) (S : List Str) (m₀ : Str → Option Value) (J : List (Addr × Obj) → Prop) (own : List (Addr × Obj)) (s' : Shared) : Prop :=
  ∃ h' tk m' news' nx, s' = { s with heap := h', toks := tk } ∧ Fr h₀ L h' m' ∧ News h₀ L h' news' ∧ (∀ p ∈ nx, p ∈ news') ∧ (∀ p ∈ own, p ∈ news') ∧ TbOff own nx ∧ (∀ z, z ≠ x → S.contains z = false → m' z = m₀ z) ∧ J nx
def RgPost (h₀ : Heap) (L : Addr) (s : Shared) (x : Str) (S : List Str) (m₀ : Str → Option Value) (J : List (Addr × Obj) → Prop) (own : List (Addr × Obj)) (Q : Flow → Shared → Prop) (f : Flow) (s' : Shared) : Prop :=
  match f with
  | .ret v => Q (.ret v) s'
  | .brk => Q .next s'
  | _ => RgEnd h₀ L s x S m₀ J own s'
section
variable {prog : Program} {w : World} {A : Around} {E : Value → Shared → Prop} {s : Shared} {env : Env} {h₀ : Heap} {x : Str} {body : List Stmt} {Q : Flow → Shared → Prop}
/-- a for over a range: J says what stands on the ledger between the turns -/
theorem rng_loop {r : Addr} {a₀ b₀ : Int} {t₀ u₀ v₀ : Tok} {n : Nat} {m₀ : Str → Option Value} {news : List (Addr × Obj)} (S : List Str) (J : Nat → List (Addr × Obj) → Prop)
    (hh : A.handled = none) (hr : IsRange s.heap r a₀ b₀ 1 t₀ u₀ v₀) (hsmall : Builtin.Range.small a₀ b₀ 1 = true) (hn : Builtin.Range.rangeSize a₀ b₀ 1 = (n : Int)) (F : Fr h₀ env.locals s.heap m₀) (N : News h₀ env.locals s.heap news) (hj : J 0 news)
    (turn : ∀ (i : Nat) t (u : Str → Option Value) nx h tk own, i < n → TbOff own nx → J i nx → Fr h₀ env.locals h (fun y => if y = x then some (.int (a₀ + (i : Int)) t) else if S.contains y then u y else m₀ y) → News h₀ env.locals h (nx ++ own) →
      ∀ K : Flow → Shared → Prop, (∀ s', RgEnd h₀ env.locals s x S m₀ (J (i + 1)) own s' → K .next s') → (∀ v s', Q (.ret v) s' → K (.ret v) s') → wpAny (model prog w) A (execs body env) K E { s with heap := h, toks := tk })
    (done : ∀ (u : Str → Option Value) nx h tk, J n nx → Fr h₀ env.locals h (fun y => if y = x then u y else if S.contains y then u y else m₀ y) → News h₀ env.locals h nx → Q .next { s with heap := h, toks := tk }) :
    wpAny (model prog w) A (pyIter (.ref r)) (fun it s₂ => LoopAtV prog w A h₀ env x body Q E it s₂) E s := by
  have fr : ∀ m₁ : Str → Option Value, (∀ z, z ≠ x → S.contains z = false → m₁ z = m₀ z) → ∀ f : Option Value, (fun y => if y = x then f else m₁ y) = fun y => if y = x then f else if S.contains y then m₁ y else m₀ y := by
    intro m₁ hm f
    funext y
    by_cases h1 : y = x
    · rw [if_pos h1, if_pos h1]
    · rw [if_neg h1, if_neg h1]
      cases h2 : S.contains y with
      | true => simp
      | false => simp only [Bool.false_eq_true, if_false]; exact hm y h1 h2
  refine tbr_invG (fun i m nx => J i nx ∧ ∀ z, z ≠ x → S.contains z = false → m z = m₀ z) hh hr hsmall hn F N ⟨hj, fun _ _ _ => rfl⟩ ?_ ?_
  · rintro i k t m₁ nx h tk own hk hoff ⟨hJ, hm⟩ F₁ N₁
    have hi : i < n := by
      have := List.getElem?_eq_some_iff.mp hk
      obtain ⟨h', _⟩ := this
      simpa [rangeKs] using h'
    have hk' : k = a₀ + (i : Int) := by
      have : (rangeKs a₀ n)[i]? = some (a₀ + (i : Int)) := by simp [rangeKs, hi]
      rw [this] at hk; exact (Option.some.inj hk).symm
    subst hk'
    rw [fr m₁ hm] at F₁
    refine wpAny_mono (turn i t m₁ nx h tk own hi hoff hJ F₁ N₁ (RgPost h₀ env.locals s x S m₀ (J (i + 1)) own Q) (fun _ h => h) (fun _ _ h => h)) (fun f s₂ p => ?_) fun _ _ e => e
    have up : RgEnd h₀ env.locals s x S m₀ (J (i + 1)) own s₂ → TbEnd h₀ env.locals (fun m nx => J (i + 1) nx ∧ ∀ z, z ≠ x → S.contains z = false → m z = m₀ z) own { s with heap := h, toks := tk } s₂ := by
      rintro ⟨h', tk', m', news', nx', rfl, F', N', h1, h2, h3, h4, h5⟩
      exact ⟨h', tk', m', news', nx', rfl, F', N', h1, h2, h3, h5, h4⟩
    cases f with
    | ret v => exact p
    | brk => exact p
    | next => exact up p
    | cont => exact up p
  · rintro m₁ nx h tk ⟨hJ, hm⟩ F₁ N₁
    refine done m₁ nx h tk hJ ?_ N₁
    have e : m₁ = fun y => if y = x then m₁ y else if S.contains y then m₁ y else m₀ y := by
      funext y
      by_cases h1 : y = x
      · rw [if_pos h1]
      · rw [if_neg h1]
        cases h2 : S.contains y with
        | true => simp
        | false => simp only [Bool.false_eq_true, if_false]; exact hm y h1 h2
    rw [← e]; exact F₁
end
end Mine

namespace Mine
/-- the number of a row of octets -/
noncomputable def bval (ks : List Int) : Int := ks.foldl (fun o k => o * 256 + k) 0
theorem bval_snoc (ks : List Int) (k : Int) : bval (ks ++ [k]) = bval ks * 256 + k := by simp [bval, List.foldl_append]
def BtI (pre : List Int) (o : Int) : Prop := o = bval pre ∧ 0 ≤ o ∧ o < 256 ^ pre.length
theorem BtI.start : BtI [] 0 := ⟨rfl, by decide, by decide⟩
theorem BtI.step {pre : List Int} {o n : Int} (h : BtI pre o) (h0 : 0 ≤ n) (h1 : n < 256) : BtI (pre ++ [n]) (o * 2 ^ (8 : Int).toNat + n) := by
  obtain ⟨rfl, h2, h3⟩ := h
  have e : (2 : Int) ^ (8 : Int).toNat = 256 := rfl
  rw [e]
  refine ⟨(bval_snoc _ _).symm, by omega, ?_⟩
  rw [List.length_append, List.length_singleton, Int.pow_succ]
  omega
theorem BtI.bound {pre : List Int} {o : Int} (h : BtI pre o) (hl : pre.length ≤ 4) : 0 ≤ o ∧ o < 4294967296 := by
  obtain ⟨_, h2, h3⟩ := h
  refine ⟨h2, Int.lt_of_lt_of_le h3 ?_⟩
  have h := Nat.pow_le_pow_right (show 0 < 256 by decide) hl
  have e : ((256 ^ pre.length : Nat) : Int) = (256 : Int) ^ pre.length := by rw [Int.natCast_pow]; rfl
  have e' : (256 : Nat) ^ 4 = 4294967296 := by decide
  rw [← e]
  omega
set_option maxRecDepth 100000 in
set_option maxHeartbeats 8000000 in
theorem so_con (w : World) {news : List (Addr × Obj)} {n : Int} {t : Tok} : Con w 21 news [.int n t] 1 (fun nx r => nx = news ∧ r = .int n t) := by
  unfold Con
  w_on
  k_with_none
  k_fill
  k_with "eval Name" => k_dflt (refine nameX_L (by assumption) (by with_unfolding_all exact (rfl : some _ = some _)) ?_)
  k_with "binaryOp LShift int int" => ((have hB9 := BtI.bound (by assumption) (by omega)); (with_reducible refine lshift_int_small (by decide) (by decide) (by omega) ?_); (try dsimp only))
  intro mean mg mb dp un gd cn cs a' ccd cl outer A₀ base h₀ L m s Q E Bl F Xk Nw T hk hd hu hret
  refine wpAny_call ?_
  k_dflt ktr_enter
  k_steps
  · exact end0 hret (by k_asm) (by k_asm) ⟨List.append_nil _, rfl⟩
set_option maxRecDepth 100000 in
set_option maxHeartbeats 8000000 in
theorem bti_con (w : World) {news : List (Addr × Obj)} {b : Array UInt8} {ks : List Int} {t : Tok} (hb : KBw.bInts b = ks) (hl : ks.length ≤ 5) :
    Con w 28 news [.bytes b t] 2 (fun _ r => ∃ t', r = .int (bval ks) t') := by
  have so := @so_con w
  unfold Con
  w_on
  k_with_none
  k_fill
  k_with "eval Name" => k_dflt (refine nameX_L (by assumption) (by with_unfolding_all exact (rfl : some _ = some _)) ?_)
  k_with "binaryOp LShift int int" => ((have hB9 := BtI.bound (by assumption) (by omega)); (with_reducible refine lshift_int_small (by decide) (by decide) (by omega) ?_); (try dsimp only))
  intro mean mg mb dp un gd cn cs a' ccd cl outer A₀ base h₀ L m s Q E Bl F Xk Nw T hk hd hu hret
  refine wpAny_call ?_
  k_dflt ktr_enter
  k_with "call ref" => (ktr_call 21 so; (rintro r9 tl9 h9 tk9 F9 N9 l9 ⟨e9, rfl⟩); (rw [e9] at N9); (clear l9 e9); (try dsimp only); (try k_fold))
  k_with "state" => (first | exact BtI.start | exact BtI.step (by assumption) (by omega) (by omega))
  k_with "pyIter bytes" => k_state (fun pre o => BtI pre o) "o"
  k_steps
  · exact end0 hret (by k_asm) (by k_asm) ⟨_, by rw [kInv.1]⟩
end Mine

namespace Mine
theorem vfold_bval {ks : List Int} (hl : ks.length ≤ 5) : (List.foldl (fun (σ : Int × Unit) k => (σ.fst + ks.getD k.toNat 0 * 256 ^ ((ks.length : Int) - 1 - k).toNat, ())) (0, ()) (rangeInts 0 1 ((ks.length : Int) - 0).toNat)).fst = bval ks := by
  match ks, hl with
  | [], _ => rfl
  | [a], _ => simp [bval, rangeInts, List.range_succ]
  | [a, b], _ => simp [bval, rangeInts, List.range_succ]
  | [a, b, c], _ => simp [bval, rangeInts, List.range_succ]; omega
  | [a, b, c, d], _ => simp [bval, rangeInts, List.range_succ]; omega
  | [a, b, c, d, e], _ => simp [bval, rangeInts, List.range_succ]; omega
set_option maxRecDepth 100000 in
set_option maxHeartbeats 8000000 in
theorem val_con (w : World) {news : List (Addr × Obj)} {b : Array UInt8} {ks : List Int} {t : Tok} (hb : KBw.bInts b = ks) (hl : ks.length ≤ 5) :
    Con w 115 news [.bytes b t] 2 (fun _ r => ∃ t', r = .int (bval ks) t') := by
  unfold Con
  w_on
  k_with_none
  k_fill
  k_with "eval Name" => k_dflt (refine nameX_L (by assumption) (by with_unfolding_all exact (rfl : some _ = some _)) ?_)
  k_with "binaryOp FloorDiv int int" => ((with_reducible refine fdiv_256 (by omega) (by omega) ?_); (try dsimp only))
  intro mean mg mb dp un gd cn cs a' ccd cl outer A₀ base h₀ L m s Q E Bl F Xk Nw T hk hd hu hret
  refine wpAny_call ?_
  k_dflt ktr_enter
  k_steps
  · exact end0 hret (by k_asm) (by k_asm) ⟨_, congrArg (fun z => Value.int z _) (vfold_bval hl)⟩
theorem fdiv_256 {prog : Program} {w : World} {A : Around} {E : Value → Shared → Prop} {s : Shared} {a k : Int} {t u : Tok} {Q : Value → Shared → Prop} (h0 : 0 ≤ k) (h1 : k ≤ 4)
    (h : Q (.int (a.fdiv (256 ^ k.toNat)) s.toks) { s with toks := s.toks + 1 }) : wpAny (model prog w) A (binaryOp .FloorDiv (.int a t) (.int (256 ^ k.toNat) u)) Q E s := by
  have hk : k = 0 ∨ k = 1 ∨ k = 2 ∨ k = 3 ∨ k = 4 := by omega
  refine floordiv_int ?_ h (Or.inl (PyProof.noPylong_of_log2 ?_))
  · rcases hk with rfl | rfl | rfl | rfl | rfl <;> decide
  · rcases hk with rfl | rfl | rfl | rfl | rfl <;> decide +kernel
set_option maxRecDepth 100000 in
set_option maxHeartbeats 8000000 in
theorem oct_con (w : World) {news : List (Addr × Obj)} {n c : Int} {t u : Tok} (hn : Builtin.Int.intBits n ≤ 2 ^ 20) (hc0 : 0 ≤ c) (hc : c ≤ 5) :
    Con w 108 news [.int n t, .int c u] 2 (fun _ r => ∃ b t' ks, r = .bytes b t' ∧ KBw.bInts b = ks ∧ ks.length ≤ 5) := by
  unfold Con
  w_on
  k_with_none
  k_fill
  k_with "eval Name" => k_dflt (refine nameX_L (by assumption) (by with_unfolding_all exact (rfl : some _ = some _)) ?_)
  k_with "binaryOp FloorDiv int int" => ((with_reducible refine fdiv_256 (by omega) (by omega) ?_); (try dsimp only))
  intro mean mg mb dp un gd cn cs a' ccd cl outer A₀ base h₀ L m s Q E Bl F Xk Nw T hk hd hu hret
  refine wpAny_call ?_
  k_dflt (refine' code_defC ?k1 ?k2 ?k3 ?k4 ?k5 ?kA ?kF ?kK ?k6 ?k7 ?k8 ?k9 ?kB ?kD ?_ ?c2 ?c3 ?c4; (case kA => exact rfl); (case kF => exact rfl); (case kK => assumption); (case k1 => k_asm); (case k2 => k_asm); (case k3 => k_asm); (case k4 => k_asm); (case k5 => k_asm); (case k6 => k_is); (case k7 => k_is); (case k8 => ktr_room); (case k9 => exact BindsTo.of_eq rfl); (case kB => exact rfl); (case kD => decide +kernel); (case c2 => exact rfl); (case c3 => exact rfl); (case c4 => exact rfl); k_whole; intro g' L' h' tk' cells' FG' F' N' Y' B' X' T' l1; (try k_lt l1); k_cells Y'; (try simp only [List.cons_append, List.nil_append] at N'); (try dsimp only); (try k_lift B'); (try k_fold))
  k_steps
  · refine end0 hret (by k_asm) (cb_drop (by k_asm) (by ktd_sub)) ⟨_, _, _, rfl, KBa.ints_make (by assumption), ?_⟩
    rw [List.length_map, rangeKs_length]
    omega
/-- None as (0, 0) -/
noncomputable def plainPt : Option (Int × Int) → Int × Int
  | none => (0, 0)
  | some q => q
set_option maxRecDepth 100000 in
set_option maxHeartbeats 8000000 in
theorem pl_none (w : World) {news : List (Addr × Obj)} : Con w 122 news [.none] 1 (fun nx r => ∃ a t1 t2 n, r = .ref a ∧ (a, tup [.int 0 t1, .int 0 t2] n) ∈ nx) := by
  unfold Con
  w_on
  k_with_none
  k_fill
  k_with "eval Name" => k_dflt (refine nameX_L (by assumption) (by with_unfolding_all exact (rfl : some _ = some _)) ?_)
  k_with "binaryOp FloorDiv int int" => ((with_reducible refine fdiv_256 (by omega) (by omega) ?_); (try dsimp only))
  intro mean mg mb dp un gd cn cs a' ccd cl outer A₀ base h₀ L m s Q E Bl F Xk Nw T hk hd hu hret
  refine wpAny_call ?_
  k_dflt ktr_enter
  k_steps
  · exact end1 hret (by k_asm) (by k_asm) (by first | assumption | exact ktn_ltOf (by ktn_lt)) ⟨_, _, _, _, rfl, by k_mem⟩
set_option maxRecDepth 100000 in
set_option maxHeartbeats 8000000 in
theorem pl_some (w : World) {news : List (Addr × Obj)} {a : Addr} : Con w 122 news [.ref a] 1 (fun nx r => nx = news ∧ r = .ref a) := by
  unfold Con
  w_on
  k_with_none
  k_fill
  k_with "eval Name" => k_dflt (refine nameX_L (by assumption) (by with_unfolding_all exact (rfl : some _ = some _)) ?_)
  k_with "binaryOp FloorDiv int int" => ((with_reducible refine fdiv_256 (by omega) (by omega) ?_); (try dsimp only))
  intro mean mg mb dp un gd cn cs a' ccd cl outer A₀ base h₀ L m s Q E Bl F Xk Nw T hk hd hu hret
  refine wpAny_call ?_
  k_dflt ktr_enter
  k_steps
  · exact end0 hret (by k_asm) (by k_asm) ⟨List.append_nil _, rfl⟩
end Mine

section
open Mine
local macro_rules | `(tactic| k_all) => `(tactic| assumption)
local macro_rules | `(tactic| k_mem) => `(tactic| (with_reducible refine List.mem_cons_of_mem _ ?_; k_mem))
local macro_rules | `(tactic| walk_at "binaryOp Pow int int") => `(tactic| ((with_reducible refine pow_letter (by decide) (by decide) (by omega) (by omega) ?_); intro r9 tk9 e9 l9 g9; (try simp only [show Int.toNat 2 = 2 from rfl, show Int.toNat 3 = 3 from rfl, show Int.toNat 4 = 4 from rfl] at e9); (try dsimp only)))
namespace Mine
/-- the squares and their roots, by the first i heights -/
noncomputable def rootsC (p : Int) (i : Nat) : List (Int × Int) := (List.range i).foldl (fun c (j : Nat) => kdfPut c (((1 + (j : Int)) * (1 + (j : Int))).fmod p) (1 + (j : Int))) []
theorem rootsC_succ (p : Int) (i : Nat) : rootsC p (i + 1) = kdfPut (rootsC p i) (((1 + (i : Int)) * (1 + (i : Int))).fmod p) (1 + (i : Int)) := by
  simp [rootsC, List.range_succ, List.foldl_append]
theorem rootsC_len (p : Int) (i : Nat) : (rootsC p i).length ≤ i := by
  induction i with
  | zero => exact Nat.le_refl _
  | succ i ih => rw [rootsC_succ]; have := kdfPut_len (rootsC p i) (((1 + (i : Int)) * (1 + (i : Int))).fmod p) (1 + (i : Int)); omega
/-- what a place's turn brings -/
noncomputable def ptsAt (p a c : Int) (R : List (Int × Int)) (x : Int) : List (Option (Int × Int)) :=
  let sq := (x ^ 3 + a * x + c).fmod p
  (if sq = 0 then [some (x, 0)] else []) ++ (if kdfHas R sq = true then [some (x, kdfLook R sq 0), some (x, p - kdfLook R sq 0)] else [])
noncomputable def ptsC (p a c : Int) (R : List (Int × Int)) (i : Nat) : List (Option (Int × Int)) := none :: (List.range i).flatMap fun (j : Nat) => ptsAt p a c R (0 + (j : Int))
theorem ptsC_succ (p a c : Int) (R : List (Int × Int)) (i : Nat) : ptsC p a c R (i + 1) = ptsC p a c R i ++ ptsAt p a c R (0 + (i : Int)) := by
  simp [ptsC, List.range_succ, List.flatMap_append]
theorem ptsAt_len (p a c : Int) (R : List (Int × Int)) (x : Int) : (ptsAt p a c R x).length ≤ 3 := by
  unfold ptsAt
  simp only [List.length_append]
  split <;> split <;> simp
theorem ptsC_len (p a c : Int) (R : List (Int × Int)) (i : Nat) : (ptsC p a c R i).length ≤ 1 + 3 * i := by
  induction i with
  | zero => simp [ptsC]
  | succ i ih => rw [ptsC_succ, List.length_append]; have := ptsAt_len p a c R (0 + (i : Int)); omega
/-- the law's list of a curve's points -/
noncomputable def lawPts (p a c : Int) : List (Option (Int × Int)) := ptsC p a c (rootsC p (((p + 1).fdiv 2) - 1).toNat) (p - 0).toNat
/-- as Con; what is said is said of what the call made -/
def RetT (h₀ : Heap) (L : Addr) (m : Str → Option Value) (news : List (Addr × Obj)) (s : Shared) (Out : List (Addr × Obj) → Value → Prop) (Q : Value → Shared → Prop) : Prop :=
  ∀ r tl h' tk', Fr h₀ L h' m → News h₀ L h' (news ++ tl) → (∀ q ∈ news, ∀ p ∈ tl, q.1 < p.1) → Out tl r → Q r { s with heap := h', toks := tk' }
def ConT (w : World) (f : Addr) (news : List (Addr × Obj)) (vs : List Value) (ct : Nat) (Out : List (Addr × Obj) → Value → Prop) : Prop :=
  ∀ (mean : ExcName → Option Value) (mg mb : Str → Option Value) (dp un : Nat) (gd : Option (List Code)) (cn : Str) (cs : Scope) (a : Addr) (ccd : Value) (cl : List (Str × Addr)) (outer : List Env) (A₀ : Around) (base h₀ : Heap) (L : Addr) (m : Str → Option Value) (s : Shared)
    (Q E : Value → Shared → Prop),
    Below A₀ base outer h₀ → Fr h₀ L s.heap m → (Mine.hd.heap_39 w.params).In h₀ → News h₀ L s.heap news → Top Mine.view (looseW Mine.view []) mean mg mb h₀ → cs.kind = .function → dp + ct < recursionLimit → un + 8 * ct < cLine →
    RetT h₀ L m news s Out Q →
    wpAny (model PySem.Challenge.rw_iv0040_01.row.prog w) (ktrTop dp un gd cn cs L a ccd cl outer) (call (.ref f) vs) Q E s
theorem con_useT {w : World} {f : Addr} {news : List (Addr × Obj)} {vs : List Value} {ct : Nat} {Out : List (Addr × Obj) → Value → Prop} {mean : ExcName → Option Value} {mg mb : Str → Option Value} {dp un : Nat} {gd : Option (List Code)} {cn : Str} {cs : Scope} {a : Addr} {ccd : Value} {cl : List (Str × Addr)} {outer : List Env} {A₀ : Around} {base h₀ : Heap} {L : Addr} {m : Str → Option Value} {s : Shared}
    {Q E : Value → Shared → Prop} (F : Fr h₀ L s.heap m) (N : News h₀ L s.heap news) (B : Below A₀ base outer h₀) (X : (Mine.hd.heap_39 w.params).In h₀) (T : Top Mine.view (looseW Mine.view []) mean mg mb h₀) (C : ConT w f news vs ct Out) (hk : cs.kind = .function) (hd : dp + ct < recursionLimit) (hu : un + 8 * ct < cLine)
    (ret : RetT h₀ L m news s Out Q) :
    wpAny (model PySem.Challenge.rw_iv0040_01.row.prog w) (ktrTop dp un gd cn cs L a ccd cl outer) (call (.ref f) vs) Q E s := C _ _ _ _ _ _ _ _ _ _ _ _ _ _ _ _ _ _ Q E B F X N T hk hd hu ret
theorem endT {h₀ h' : Heap} {L : Addr} {m : Str → Option Value} {news tl : List (Addr × Obj)} {s : Shared} {tk' : Nat} {Q : Value → Shared → Prop} {Out : List (Addr × Obj) → Value → Prop} {r : Value} (hret : RetT h₀ L m news s Out Q)
    (F : Fr h₀ L h' m) (N : News h₀ L h' (news ++ tl)) (l : ∀ q ∈ news, ∀ p ∈ tl, q.1 < p.1) (ho : Out tl r) : Q r { s with heap := h', toks := tk' } :=
  hret _ tl _ _ F N l ho
def RtJ (prog : Program) (w : World) (news : List (Addr × Obj)) (d : Addr) (p : Int) (i : Nat) (nx : List (Addr × Obj)) : Prop :=
  ∃ o kvs, nx = (d, o) :: news ∧ o.IsDictOf (PySem.intKind prog w) kvs ∧ PyProof.V.FlatPairs PyData.int kvs (kdfD (rootsC p i))
def PtJ (news : List (Addr × Obj)) (l d : Addr) (o : Obj) (p a c : Int) (R : List (Int × Int)) (i : Nat) (nx : List (Addr × Obj)) : Prop :=
  ∃ vs k tl, nx = (l, W.listOf vs.toArray k) :: (d, o) :: (news ++ tl) ∧ (∀ q ∈ news, ∀ p ∈ tl, q.1 < p.1) ∧ (∀ p ∈ tl, l < p.1) ∧ PtsIn tl vs (ptsC p a c R i)
theorem PtsIn.app {news : List (Addr × Obj)} {vs vs' : List Value} {os os' : List (Option (Int × Int))} (h : PtsIn news vs os) (h' : PtsIn news vs' os') : PtsIn news (vs ++ vs') (os ++ os') := by
  induction h with
  | nil => exact h'
  | cons h _ ih => exact .cons h ih
/-- a place's turn ends -/
theorem pt_end {h₀ h' : Heap} {L : Addr} {s : Shared} {x : Str} {S : List Str} {m₀ m' : Str → Option Value} {own news tl nw : List (Addr × Obj)} {l d : Addr} {o : Obj} {p a c : Int} {R : List (Int × Int)} {i k k' tk : Nat} {vs : List Value} {arr : Array Value} (xs : List Value) (add : List (Addr × Obj))
    (ho : ∀ q ∈ news, ∀ p ∈ tl, q.1 < p.1) (hlt : ∀ p ∈ tl, l < p.1) (hpts : PtsIn tl vs (ptsC p a c R i)) (hoff : TbOff own ((l, W.listOf vs.toArray k) :: (d, o) :: (news ++ tl)))
    (F : Fr h₀ L h' m') (N : News h₀ L h' nw) (hl : (l, W.listOf arr k') ∈ nw) (ea : arr = (vs ++ xs).toArray) (hd : (d, o) ∈ nw) (hn : ∀ p ∈ news ++ tl ++ own, p ∈ nw) (hadd : ∀ p ∈ add, p ∈ nw) (hgt : ∀ p ∈ add, l < p.1 ∧ AllLt p.1 (news ++ tl ++ own))
    (hx : PtsIn (tl ++ add) xs (ptsAt p a c R (0 + (i : Int)))) (hm : ∀ z, z ≠ x → S.contains z = false → m' z = m₀ z) : RgEnd h₀ L s x S m₀ (PtJ news l d o p a c R (i + 1)) own { s with heap := h', toks := tk } := by
  subst ea
  refine ⟨h', tk, m', nw, (l, W.listOf (vs ++ xs).toArray k') :: (d, o) :: (news ++ (tl ++ add)), rfl, F, N, ?_, fun p hp => hn p (List.mem_append.mpr (.inr hp)), ?_, hm, vs ++ xs, k', tl ++ add, rfl, ?_, ?_, ?_⟩
  · intro q hq
    rcases List.mem_cons.mp hq with rfl | hq
    · exact hl
    · rcases List.mem_cons.mp hq with rfl | hq
      · exact hd
      · rw [← List.append_assoc] at hq
        rcases List.mem_append.mp hq with hq | hq
        · exact hn q (List.mem_append.mpr (.inl hq))
        · exact hadd q hq
  · intro q hq b hb
    rcases List.mem_cons.mp hb with rfl | hb
    · exact (hoff q hq (l, W.listOf vs.toArray k) (.head _) : q.1 ≠ l)
    · rcases List.mem_cons.mp hb with rfl | hb
      · exact hoff q hq _ (.tail _ (.head _))
      · rw [← List.append_assoc] at hb
        rcases List.mem_append.mp hb with hb | hb
        · exact hoff q hq b (.tail _ (.tail _ hb))
        · exact Nat.ne_of_lt (ktn_ltOf (hgt b hb).2 q (List.mem_append.mpr (.inr hq)))
  · intro q hq b hb
    rcases List.mem_append.mp hb with hb | hb
    · exact ho q hq b hb
    · exact ktn_ltOf (hgt b hb).2 q (List.mem_append.mpr (.inl (List.mem_append.mpr (.inl hq))))
  · intro b hb
    rcases List.mem_append.mp hb with hb | hb
    · exact hlt b hb
    · exact (hgt b hb).1
  · rw [ptsC_succ]
    exact (hpts.mono (fun q hq => List.mem_append.mpr (.inl hq))).app hx
theorem pt_end3 {h₀ h' : Heap} {L : Addr} {s : Shared} {x : Str} {S : List Str} {m₀ m' : Str → Option Value} {own news tl : List (Addr × Obj)} {l d : Addr} {o : Obj} {p a c : Int} {R : List (Int × Int)} {i k k' tk : Nat} {vs : List Value} {arr : Array Value} {D0 D1 D2 : Addr} {o0 o1 o2 : Obj}
    (ho : ∀ q ∈ news, ∀ p ∈ tl, q.1 < p.1) (hlt : ∀ p ∈ tl, l < p.1) (hpts : PtsIn tl vs (ptsC p a c R i)) (hoff : TbOff own ((l, W.listOf vs.toArray k) :: (d, o) :: (news ++ tl)))
    (F : Fr h₀ L h' m') (N : News h₀ L h' ((D0, o0) :: (D1, o1) :: (D2, o2) :: (l, W.listOf arr k') :: (d, o) :: (news ++ tl ++ own))) (ea : arr = (vs ++ [Value.ref D2, Value.ref D1, Value.ref D0]).toArray)
    (l2 : l < D2 ∧ d < D2 ∧ AllLt D2 (news ++ tl ++ own)) (l1 : D2 < D1 ∧ l < D1 ∧ d < D1 ∧ AllLt D1 (news ++ tl ++ own)) (l0 : D1 < D0 ∧ D2 < D0 ∧ l < D0 ∧ d < D0 ∧ AllLt D0 (news ++ tl ++ own))
    (hx : PtsIn (tl ++ [(D2, o2), (D1, o1), (D0, o0)]) [Value.ref D2, Value.ref D1, Value.ref D0] (ptsAt p a c R (0 + (i : Int)))) (hm : ∀ z, z ≠ x → S.contains z = false → m' z = m₀ z) : RgEnd h₀ L s x S m₀ (PtJ news l d o p a c R (i + 1)) own { s with heap := h', toks := tk } := by
  refine pt_end [Value.ref D2, Value.ref D1, Value.ref D0] [(D2, o2), (D1, o1), (D0, o0)] ho hlt hpts hoff F N (.tail _ (.tail _ (.tail _ (.head _)))) ea (.tail _ (.tail _ (.tail _ (.tail _ (.head _))))) (fun q hq => .tail _ (.tail _ (.tail _ (.tail _ (.tail _ hq))))) (by intro q hq; simp only [List.mem_cons, List.not_mem_nil, or_false] at hq ⊢; rcases hq with rfl | rfl | rfl <;> simp) ?_ hx hm
  intro q hq
  simp only [List.mem_cons, List.not_mem_nil, or_false] at hq
  rcases hq with rfl | rfl | rfl
  · exact ⟨l2.1, l2.2.2⟩
  · exact ⟨l1.2.1, l1.2.2.2⟩
  · exact ⟨l0.2.2.1, l0.2.2.2.2⟩
theorem pt_end2 {h₀ h' : Heap} {L : Addr} {s : Shared} {x : Str} {S : List Str} {m₀ m' : Str → Option Value} {own news tl : List (Addr × Obj)} {l d : Addr} {o : Obj} {p a c : Int} {R : List (Int × Int)} {i k k' tk : Nat} {vs : List Value} {arr : Array Value} {D0 D1 : Addr} {o0 o1 : Obj}
    (ho : ∀ q ∈ news, ∀ p ∈ tl, q.1 < p.1) (hlt : ∀ p ∈ tl, l < p.1) (hpts : PtsIn tl vs (ptsC p a c R i)) (hoff : TbOff own ((l, W.listOf vs.toArray k) :: (d, o) :: (news ++ tl)))
    (F : Fr h₀ L h' m') (N : News h₀ L h' ((D0, o0) :: (D1, o1) :: (l, W.listOf arr k') :: (d, o) :: (news ++ tl ++ own))) (ea : arr = (vs ++ [Value.ref D1, Value.ref D0]).toArray)
    (l1 : l < D1 ∧ d < D1 ∧ AllLt D1 (news ++ tl ++ own)) (l0 : D1 < D0 ∧ l < D0 ∧ d < D0 ∧ AllLt D0 (news ++ tl ++ own))
    (hx : PtsIn (tl ++ [(D1, o1), (D0, o0)]) [Value.ref D1, Value.ref D0] (ptsAt p a c R (0 + (i : Int)))) (hm : ∀ z, z ≠ x → S.contains z = false → m' z = m₀ z) : RgEnd h₀ L s x S m₀ (PtJ news l d o p a c R (i + 1)) own { s with heap := h', toks := tk } := by
  refine pt_end [Value.ref D1, Value.ref D0] [(D1, o1), (D0, o0)] ho hlt hpts hoff F N (.tail _ (.tail _ (.head _))) ea (.tail _ (.tail _ (.tail _ (.head _)))) (fun q hq => .tail _ (.tail _ (.tail _ (.tail _ hq)))) (by intro q hq; simp only [List.mem_cons, List.not_mem_nil, or_false] at hq ⊢; rcases hq with rfl | rfl <;> simp) ?_ hx hm
  intro q hq
  simp only [List.mem_cons, List.not_mem_nil, or_false] at hq
  rcases hq with rfl | rfl
  · exact ⟨l1.1, l1.2.2⟩
  · exact ⟨l0.2.1, l0.2.2.2⟩
theorem pt_end1 {h₀ h' : Heap} {L : Addr} {s : Shared} {x : Str} {S : List Str} {m₀ m' : Str → Option Value} {own news tl : List (Addr × Obj)} {l d : Addr} {o : Obj} {p a c : Int} {R : List (Int × Int)} {i k k' tk : Nat} {vs : List Value} {arr : Array Value} {D0 : Addr} {o0 : Obj}
    (ho : ∀ q ∈ news, ∀ p ∈ tl, q.1 < p.1) (hlt : ∀ p ∈ tl, l < p.1) (hpts : PtsIn tl vs (ptsC p a c R i)) (hoff : TbOff own ((l, W.listOf vs.toArray k) :: (d, o) :: (news ++ tl)))
    (F : Fr h₀ L h' m') (N : News h₀ L h' ((D0, o0) :: (l, W.listOf arr k') :: (d, o) :: (news ++ tl ++ own))) (ea : arr = (vs ++ [Value.ref D0]).toArray)
    (l0 : l < D0 ∧ d < D0 ∧ AllLt D0 (news ++ tl ++ own))
    (hx : PtsIn (tl ++ [(D0, o0)]) [Value.ref D0] (ptsAt p a c R (0 + (i : Int)))) (hm : ∀ z, z ≠ x → S.contains z = false → m' z = m₀ z) : RgEnd h₀ L s x S m₀ (PtJ news l d o p a c R (i + 1)) own { s with heap := h', toks := tk } := by
  refine pt_end [Value.ref D0] [(D0, o0)] ho hlt hpts hoff F N (.tail _ (.head _)) ea (.tail _ (.tail _ (.head _))) (fun q hq => .tail _ (.tail _ (.tail _ hq))) (by intro q hq; simp only [List.mem_cons, List.not_mem_nil, or_false] at hq ⊢; subst hq; simp) ?_ hx hm
  intro q hq
  simp only [List.mem_cons, List.not_mem_nil, or_false] at hq
  subst hq
  exact ⟨l0.1, l0.2.2⟩
local macro_rules | `(tactic| walk_at "call builtin:list.append") => `(tactic| (k_here; (k_dflt (show wpAny _ _ (call (Value.builtin "list.append") [Value.ref _, _]) _ _ _)); k_dflt (refine' append_K ?k1 ?k2 ?k3 ?_ ?z; (case k1 => k_asm); (case k2 => k_asm); (case k3 => k_upd); (case z => size_fits); k_whole); intro h' F' N'))
set_option maxRecDepth 100000 in
set_option maxHeartbeats 8000000 in
theorem lp_con (w : World) {news : List (Addr × Obj)} {p a c : Int} {t u v : Tok} (hp : 2 ≤ p) (hp' : p < 64) (ha0 : 0 ≤ a) (ha : a < 64) (hc0 : 0 ≤ c) (hc : c < 64) :
    ConT w 84 news [.int p t, .int a u, .int c v] 2 (fun tl r => IsPts tl r (lawPts p a c)) := by
  unfold ConT
  w_on
  k_with_none
  k_fill
  k_with "binaryOp FloorDiv int int" => ((with_reducible refine fdiv_letter (by omega) (by omega) (by omega) (by omega) ?_); intro _ _ _ _ _; (try dsimp only))
  k_with "binaryOp Mod int int" => ((with_reducible refine mod_letter (by first | assumption | omega) (by first | assumption | omega) ?_); intro _ _ _ _ _; (try dsimp only))
  k_with "eval Name" => k_dflt (refine nameX_L (by assumption) (by with_unfolding_all exact (rfl : some _ = some _)) ?_)
  intro mean mg mb dp un gd cn cs a' ccd cl outer A₀ base h₀ L m s Q E Bl F Xk Nw T hk hd hu hret
  refine wpAny_call ?_
  k_dflt ktr_enter
  k_with "exec For Name Call cons nil" => kpr_for
  k_with "pyIter ref" => refine Hold.out ?_
  k_steps

  rename_i d h3 o ld lo hs fs hi fi h2 F2 N2 r tk9 er lr gr h1 tk1 t1 u1 v1 R1 F1 N1 k1
  refine Hold.mk ?_
  refine rng_loop (n := (r - 1).toNat) [] (RtJ PySem.Challenge.rw_iv0040_01.row.prog w news d p) (by rfl) R1 (small_one (by omega) (by omega) (by omega) (by omega)) (rangeSize_nat _ _) F1 N1 ⟨o, [], rfl, hi, fi⟩ ?_ ?_
  · rintro i t' u' nx h tk own hin hoff ⟨o', kvs, rfl, hd', hf'⟩ F3 N3 K hKn hKr
    have hne : ∀ p ∈ news ++ own, p.1 ≠ d := by
      intro q hq
      rcases List.mem_append.mp hq with h | h
      · exact Nat.ne_of_lt (ld q h)
      · exact hoff q h _ (.head _)
    k_steps
    refine kdf_setItem F3 N3 (UpdF.head hne) hd' hf' (by have := rootsC_len p i; omega) ?_
    intro h' o2 kvs2 F4 N4 hd4 hf4
    k_steps
    refine hKn _ ?_
    refine ⟨_, _, _, _, (d, o2) :: news, rfl, F4, N4, ?_, fun q hq => .tail _ (List.mem_append.mpr (.inr hq)), ?_, ?_, o2, kvs2, rfl, hd4, ?_⟩
    · intro q hq
      rcases List.mem_cons.mp hq with rfl | hq
      · exact .head _
      · exact .tail _ (List.mem_append.mpr (.inl hq))
    · intro q hq b hb
      rcases List.mem_cons.mp hb with rfl | hb
      · exact (hoff q hq (d, o') (.head _) : q.1 ≠ d)
      · exact hoff q hq b (.tail _ hb)
    · intro z z1 z2
      simp [z1]
    · rw [rootsC_succ]
      subst_vars
      exact hf4
  · rintro u' nx h tk ⟨o', kvs, rfl, hd', hf'⟩ F3 N3
    k_steps
    rename_i l h4 Fx Nx l1 h5 F4 N4 h6 tk6 t2 u2 v2 R2 F5 N5 k2
    refine Hold.mk ?_
    refine rng_loop (n := (p - 0).toNat) [Str.ofString "square"] (PtJ news l d o' p a c (rootsC p (r - 1).toNat)) (by rfl) R2 (small_one (by omega) (by omega) (by omega) (by omega)) (rangeSize_nat _ _) F5 N5 ⟨[.none], 0, [], by simp, fun _ _ _ h => (nomatch h), fun _ h => (nomatch h), .cons rfl .nil⟩ ?_ ?_
    · rintro i t' u3 nx h tk own hin hoff ⟨vs, k, tl, rfl, ho, hlt, hpts⟩ F6 N6 K hKn hKr
      have hne : ∀ q ∈ (d, o') :: (news ++ tl ++ own), q.1 ≠ l := by
        intro q hq
        rcases List.mem_cons.mp hq with rfl | h
        · exact Nat.ne_of_lt l1.1
        · rcases List.mem_append.mp h with h | h
          · rcases List.mem_append.mp h with h | h
            · exact Nat.ne_of_lt (ktn_ltOf l1.2 q h)
            · exact Nat.ne_of_gt (hlt q h)
          · exact hoff q h _ (.head _)
      have hvl : vs.length ≤ 200 := by have := ptsC_len p a c (rootsC p (r - 1).toNat) i; have := hpts.length; omega
      have hsz : vs.toArray.size ≤ 200 := by simpa using hvl
      simp only [List.cons_append] at N6
      have mn : ∀ {v1 v2 : Value} {m₂ : Str → Option Value}, ∀ z, z ≠ Str.ofString "place" → [Str.ofString "square"].contains z = false → (if z = Str.ofString "square" then some v1 else if z = Str.ofString "place" then some v2 else if [Str.ofString "square"].contains z = true then u3 z else m₂ z) = m₂ z := by
        intro v1 v2 m₂ z z1 z2
        have z3 : z ≠ Str.ofString "square" := by intro z3; subst z3; simp at z2
        rw [if_neg z3, if_neg z1, if_neg (by rw [z2]; exact Bool.false_ne_true)]
      k_steps
      · rename_i hr tk5 D2 g5 l2 g4 hk tv1 D1 g3 l1b g2 tv0 D0 g1 Fa Na l1a g0 F7 N7
        rename _ = Int.fmod _ p => es
        rename _ = HPow.hPow _ _ => e3
        subst e3
        refine hKn _ ?_
        refine pt_end3 ho hlt hpts hoff F7 N7 (by simp only [List.push_toArray, List.append_assoc, List.cons_append, List.nil_append]) l2 l1b l1a ?_ mn
        simp only [ptsAt]
        rw [← es, if_pos hr, if_pos hk]
        exact .cons ⟨_, _, _, _, rfl, List.mem_append.mpr (.inr (.head _))⟩ (.cons ⟨_, _, _, _, rfl, List.mem_append.mpr (.inr (.tail _ (.head _)))⟩ (.cons ⟨_, _, _, _, rfl, List.mem_append.mpr (.inr (.tail _ (.tail _ (.head _))))⟩ .nil))
      · rename_i hr tk5 D0 g1 Fa Na l1a g0 F7 N7 hk
        rename _ = Int.fmod _ p => es
        rename _ = HPow.hPow _ _ => e3
        subst e3
        refine hKn _ ?_
        refine pt_end1 ho hlt hpts hoff F7 N7 (by simp only [List.push_toArray, List.append_assoc, List.cons_append, List.nil_append]) l1a ?_ mn
        simp only [ptsAt]
        rw [← es, if_pos hr, if_neg (by rw [hk]; exact Bool.false_ne_true)]
        exact .cons ⟨_, _, _, _, rfl, List.mem_append.mpr (.inr (.head _))⟩ .nil
      · rename_i hr tk5 hk tv1 D1 g3 l1b g2 tv0 D0 g1 Fa Na l1a g0 F7 N7
        rename _ = Int.fmod _ p => es
        rename _ = HPow.hPow _ _ => e3
        subst e3
        refine hKn _ ?_
        refine pt_end2 ho hlt hpts hoff F7 N7 (by simp only [List.push_toArray, List.append_assoc, List.cons_append, List.nil_append]) l1b l1a ?_ mn
        simp only [ptsAt]
        rw [← es, if_neg hr, if_pos hk]
        exact .cons ⟨_, _, _, _, rfl, List.mem_append.mpr (.inr (.head _))⟩ (.cons ⟨_, _, _, _, rfl, List.mem_append.mpr (.inr (.tail _ (.head _)))⟩ .nil)
      · rename_i r3 tk3 lo3 hi3 e3 sq tks es los his g2 F7 N7 tk4 hr tk5 hk
        refine hKn _ ?_
        refine pt_end [] [] ho hlt hpts hoff (by k_asm) (by k_asm) (by k_mem) (by simp) (by k_mem) (fun q hq => .tail _ (.tail _ hq)) (fun q hq => (nomatch hq)) (fun q hq => (nomatch hq)) ?_ mn
        subst e3
        subst es
        simp only [ptsAt]
        rw [if_neg hr, if_neg (by rw [hk]; exact Bool.false_ne_true)]
        exact .nil
    · rintro u3 nx h tk ⟨vs, k, tl, rfl, ho, hlt, hpts⟩ F6 N6
      k_steps
      refine endT (tl := (l, W.listOf vs.toArray k) :: tl) hret (by k_asm) (cb_drop (by k_asm) ?_) ?_ ?_
      · intro q hq
        rcases List.mem_append.mp hq with hq | hq
        · exact .tail _ (.tail _ (List.mem_append.mpr (.inl hq)))
        · rcases List.mem_cons.mp hq with rfl | hq
          · exact .head _
          · exact .tail _ (.tail _ (List.mem_append.mpr (.inr hq)))
      · intro q hq b hb
        rcases List.mem_cons.mp hb with rfl | hb
        · exact ktn_ltOf l1.2 q hq
        · exact ho q hq b hb
      · refine ⟨l, vs, k, rfl, .head _, ?_⟩
        have hq := hpts.mono (news' := (l, W.listOf vs.toArray k) :: tl) (fun q hq => .tail _ hq)
        subst_vars
        exact hq
end Mine

namespace Mine
section
variable {prog : Program} {w : World} {A : Around} {E : Value → Shared → Prop} {s : Shared} {h₀ : Heap} {L : Addr} {m : Str → Option Value} {env : Env}
/-- a comprehension with a test over a made tuple: what its source hands on -/
def TupSrc (prog : Program) (w : World) (A : Around) (h₀ : Heap) (L : Addr) (m : Str → Option Value) (env : Env) (ct elt : Expr) (x : Str) (scope : Scope) (cl : List (Str × Addr)) (Q : Value → Shared → Prop) (xv : Value) (s₁ : Shared) : Prop :=
  ∃ ax its k news, xv = .ref ax ∧ A.handled = none ∧ Fr h₀ L s₁.heap m ∧ News h₀ L s₁.heap news ∧ (ax, ({ cls := .type "tuple", data := .seq its k } : Obj)) ∈ news ∧ its.size ≤ sizeLine ∧
    ∀ g, LCt.CompRestT prog w A h₀ L m env ct elt x scope cl { s₁ with heap := g } (fun nx => (ax, ({ cls := .type "tuple", data := .seq its k } : Obj)) ∈ nx) (fun i v => its[i]? = some v) (LCg.FinE h₀ L m { s₁ with heap := g } Q) its.size 0 [] news
theorem comp_tup {ct elt iter : Expr} {x : Str} {px : Pos} {scope : Scope} {cl : List (Str × Addr)} {pos : Pos} {Q : Value → Shared → Prop} (F₀ : Fr h₀ L s.heap m)
    (hclos : closureFor scope env = pure cl) (hcell : ∀ y ∈ scope.names, y.2 ≠ .cell) (hkind : scope.kind = .function)
    (hnames : ∀ y ∈ scope.names, y.2 = .local → scope.names.lookup y.1 = some .local) (hx : scope.names.lookup x = some .local)
    (h : wpAny (model prog w) A (eval iter env) (TupSrc prog w A h₀ L m env ct elt x scope cl Q) E s)
    (hs : ∀ x, foldedSetIterable iter env x = pure x := by intro _; rfl) :
    wpAny (model prog w) A (eval (.ListComp elt [⟨.Name x px, iter, [ct], 0⟩] scope pos) env) Q E s := by
  rw [eval_ListComp]
  refine wpAny_comprehension_free (use := none) rfl hs hclos hkind hnames (wpAny_mono h (fun xv s₁ h₁ => ?_) fun _ _ e => e)
  obtain ⟨ax, its, k, news, rfl, hh, F, N, hm, hsz, R⟩ := h₁
  have ht : s₁.heap.IsTuple ax its := ⟨_, (N _ hm).1, rfl, k, rfl⟩
  have hlt : ax < s₁.heap.objs.size := Heap.lt_size (N _ hm).1
  refine wpAny_pyIter_tuple ht ?_
  have up : ∀ b o, s₁.heap.get? b = some o → (s₁.heap.push { cls := .type "tuple_iterator", data := .fields #[.ref ax, .int 0 0] }).get? b = some o := fun b o e => Heap.get?_push_of_some _ e
  refine LCt.block_T (Walks.tuple hh s₁.heap.objs.size ax (Nat.ne_of_lt hlt) its) hsz (fun i h st => by obtain ⟨o, e, _⟩ := st.1; exact ⟨o, e⟩) ?_ hcell hkind hx ⟨⟨_, Heap.get?_push_size _ rfl, rfl, rfl⟩, ht.at fun o e => up _ o e⟩ (fun b hb => ?_)
    (F.keeps up) (N.grown up) (Nat.ne_of_lt F.ns.lt) (next_is_new F) (fun p hp => Nat.ne_of_lt (Heap.lt_size (N p hp).1)) hm (R _) ?_
  · intro i h h' o nw st e1 e2 _ N' hS
    exact ⟨st.1.at fun o' e => by rw [e1] at e; cases e; exact e2, ⟨_, (N' _ hS).1, rfl, k, rfl⟩⟩
  · show b < (s₁.heap.push _).objs.size
    rw [Heap.size_push]
    rcases List.mem_cons.mp hb with rfl | hb
    · exact Nat.lt_succ_self _
    · rw [List.mem_singleton.mp hb]; exact Nat.lt_succ_of_lt hlt
  · intro D C h' tk m' ys news' F' N' o1 hn hC₀ hD₀ hCL hDL hCD offC fin
    refine ⟨m', hn, fun h'' hs'' => fin D h'' tk (F'.change hs'' hCL hC₀) (fun p hp => ⟨hs''.extBut _ _ ?_ (N' p hp).1, (N' p hp).2⟩) o1⟩
    rcases List.mem_cons.mp hp with rfl | hp
    · exact Ne.symm hCD
    · exact offC p hp
def GoodN (n : Int) : Prop := ¬ (n.fmod 2 = 0 ∧ n ≠ 2) ∧ ¬ (n.fmod 3 = 0 ∧ n ≠ 3) ∧ ¬ (n.fmod 5 = 0 ∧ n ≠ 5)
def CutQ (h₀ : Heap) (L : Addr) (m : Str → Option Value) (nx : List (Addr × Obj)) (s : Shared) (G : Prop) (v : Value) (s' : Shared) : Prop :=
  ∃ D h' tk' ys, v = .ref D ∧ s' = { s with heap := h', toks := tk' } ∧ Fr h₀ L h' m ∧ News h₀ L h' ((D, LCg.lst ys) :: nx) ∧ ys.length ≤ 3 ∧ (ys = [] ↔ G)
theorem comp_cut {t : Sem Value} {nx : List (Addr × Obj)} {Q : Value → Shared → Prop} (G : Prop) (F : Fr h₀ L s.heap m) (N : News h₀ L s.heap nx) (c : wpAny (model prog w) A t (CutQ h₀ L m nx s G) E s)
    (k : ∀ D h' tk' ys, Fr h₀ L h' m → News h₀ L h' ((D, LCg.lst ys) :: nx) → ys.length ≤ 3 → (ys = [] ↔ G) → Q (.ref D) { s with heap := h', toks := tk' }) : wpAny (model prog w) A t Q E s :=
  wpAny_mono c (fun v s' ⟨D, h', tk', ys, e1, e2, F', N', o, g⟩ => by subst e1; subst e2; exact k D h' tk' ys F' N' o g) fun _ _ e => e
end
/-- a turn's end that leaves the cell and what stood -/
theorem cv_end {h₀ h' : Heap} {L c : Addr} {s : Shared} {x : Str} {S : List Str} {m₀ m' : Str → Option Value} {own news nw : List (Addr × Obj)} {co co2 : Obj} {cv : Option Value} {tk : Nat}
    (F : Fr h₀ L h' m') (N : News h₀ L h' nw) (hc : (c, co2) ∈ nw) (hn : ∀ p ∈ news ++ own, p ∈ nw) (dc : co2.data = Data.cell cv) (hoff : TbOff own ((c, co) :: news)) (hm : ∀ z, z ≠ x → S.contains z = false → m' z = m₀ z) :
    RgEnd h₀ L s x S m₀ (fun nx => ∃ co cv, nx = (c, co) :: news ∧ co.data = Data.cell cv) own { s with heap := h', toks := tk } := by
  refine ⟨h', tk, m', nw, (c, co2) :: news, rfl, F, N, ?_, fun p hp => hn p (List.mem_append.mpr (.inr hp)), ?_, hm, co2, cv, rfl, dc⟩
  · intro q hq
    rcases List.mem_cons.mp hq with rfl | hq
    · exact hc
    · exact hn q (List.mem_append.mpr (.inl hq))
  · intro q hq b hb
    rcases List.mem_cons.mp hb with rfl | hb
    · exact (hoff q hq (c, co) (.head _) : q.1 ≠ c)
    · exact hoff q hq b (.tail _ hb)
end Mine

namespace Mine
theorem fdiv_sq {prog : Program} {w : World} {A : Around} {E : Value → Shared → Prop} {s : Shared} {a b : Int} {t u : Tok} {Q : Value → Shared → Prop}
    (h0 : 0 < b) (h1 : b < 64) (h2 : 0 ≤ a) (h3 : a < b * b) (h : ∀ r tk, r = a.fdiv b → 0 ≤ r → r < b → Q (.int r s.toks) { s with toks := tk }) : wpAny (model prog w) A (binaryOp .FloorDiv (.int a t) (.int b u)) Q E s := by
  have e : a.fdiv b = a / b := Int.fdiv_eq_ediv_of_nonneg a (by omega)
  have e0 : 0 ≤ a / b := Int.ediv_nonneg h2 (by omega)
  have e1 : a / b < b := Int.ediv_lt_of_lt_mul h0 h3
  exact floordiv_int (by omega) (h _ _ rfl (by omega) (by omega)) (Or.inl (PyProof.noPylong_small (by omega)))
theorem fm0 {r n k : Int} (e : r = n.fmod k) (a : r = 0) : n.fmod k = 0 := e ▸ a
theorem fm1 {r n k : Int} (e : r = n.fmod k) (a : r ≠ 0) : n.fmod k ≠ 0 := e ▸ a
theorem fm2 {n : Int} (a : 2 < n) (b : n = 2) : False := by omega
theorem fm3 {n r : Int} (e : r = n.fmod 5) (a : r = 0) (b : n = 3) : False := by subst b; rw [a] at e; exact absurd e (by decide)
/-- a curve of the law's -/
structure GoodC (P a c : Int) : Prop where
  a0 : 0 ≤ a
  a1 : a < P
  c0 : 0 ≤ c
  c1 : c < P
  disc : (4 * a ^ 3 + 27 * c ^ 2).fmod P ≠ 0
  two : 2 < ((lawPts P a c).length : Int)
  prime : GoodN ((lawPts P a c).length : Int)
theorem good711 : GoodC 7 1 1 := ⟨by decide, by decide, by decide, by decide, by decide, by decide +kernel, by unfold GoodN; decide +kernel⟩
/-- a curve (its prime, its numbers, its points) at a value -/
def IsCurve (nx : List (Addr × Obj)) (r : Value) (P a c : Int) : Prop := ∃ rp pr t1 t2 t3 n, r = .ref rp ∧ (rp, tup [.int P t1, .int a t2, .int c t3, pr] n) ∈ nx ∧ IsPts nx pr (lawPts P a c) ∧ GoodC P a c
theorem curve_end {h₀ h' : Heap} {L d la : Addr} {m : Str → Option Value} {news nw tl : List (Addr × Obj)} {s : Shared} {tk n k : Nat} {Q : Value → Shared → Prop} {p P a c : Int} {t1 t2 t3 : Tok} {vs : List Value}
    (hret : RetT h₀ L m news s (fun tl r => ∃ P a c, (P = p ∨ P = 7) ∧ IsCurve tl r P a c) Q) (F : Fr h₀ L h' m) (N : News h₀ L h' ((d, tup [.int P t1, .int a t2, .int c t3, .ref la] n) :: nw)) (hn : ∀ q ∈ news ++ tl, q ∈ nw)
    (l : ∀ q ∈ news, q.1 < d) (ho : ∀ q ∈ news, ∀ b ∈ tl, q.1 < b.1) (m9 : (la, W.listOf vs.toArray k) ∈ tl) (o9 : PtsIn tl vs (lawPts P a c)) (G : GoodC P a c) (hP : P = p ∨ P = 7) : Q (.ref d) { s with heap := h', toks := tk } := by
  refine endT (tl := (d, tup [.int P t1, .int a t2, .int c t3, .ref la] n) :: tl) hret F (cb_drop N ?_) ?_ ⟨P, a, c, hP, d, _, t1, t2, t3, n, rfl, .head _, ⟨la, vs, k, rfl, .tail _ m9, o9.mono fun q hq => .tail _ hq⟩, G⟩
  · intro q hq
    rcases List.mem_append.mp hq with hq | hq
    · exact .tail _ (hn q (List.mem_append.mpr (.inl hq)))
    · rcases List.mem_cons.mp hq with rfl | hq
      · exact .head _
      · exact .tail _ (hn q (List.mem_append.mpr (.inr hq)))
  · intro q hq b hb
    rcases List.mem_cons.mp hb with rfl | hb
    · exact l q hq
    · exact ho q hq b hb
theorem mem3 {news own tl : List (Addr × Obj)} : ∀ q ∈ news ++ tl, q ∈ news ++ own ++ tl := fun q hq => (List.mem_append.mp hq).elim (fun h => List.mem_append.mpr (.inl (List.mem_append.mpr (.inl h)))) fun h => List.mem_append.mpr (.inr h)
theorem mem2 {news own tl : List (Addr × Obj)} : ∀ q ∈ news ++ own, q ∈ news ++ own ++ tl := fun q hq => List.mem_append.mpr (.inl hq)
theorem cell_off {news own tl : List (Addr × Obj)} {co : Obj} {L' : Addr} (l1 : ∀ p ∈ news, p.1 < L') (hoff : TbOff own ((L' + 1, co) :: news)) (l9 : ∀ p ∈ tl, L' + 1 < p.1) : ∀ q ∈ news ++ own ++ tl, q.1 ≠ L' + 1 := by
  intro q hq
  rcases List.mem_append.mp hq with h | h
  · rcases List.mem_append.mp h with h | h
    · have := l1 q h
      exact Nat.ne_of_lt (Nat.lt_succ_of_lt this)
    · exact (hoff q h (L' + 1, co) (.head _) : q.1 ≠ L' + 1)
  · exact Nat.ne_of_gt (l9 q h)
theorem lawPts_len {p : Int} (hp' : p < 64) (a c : Int) : (lawPts p a c).length ≤ 200 := by
  unfold lawPts
  have := ptsC_len p a c (rootsC p (((p + 1).fdiv 2) - 1).toNat) (p - 0).toNat
  omega
local macro_rules | `(tactic| walk_at "storeName") => `(tactic| k_dflt (refine storeX_let (by k_asm) (by k_asm) ?_; intro h9 m9 F9 N9; (try dsimp only)))
local macro_rules | `(tactic| ktd_call $x $c) => `(tactic| (k_dflt (refine' con_useT (by k_asm) (by k_asm) (by k_asm) (by k_asm) (by k_asm) $c ?kK ?kd ?ku ?_); (case kK => first | exact rfl | assumption); (case kd => ktr_room); (case ku => ktr_units)))
set_option maxRecDepth 100000 in
set_option maxHeartbeats 8000000 in
theorem lc_con (w : World) {news : List (Addr × Obj)} {p n : Int} {t u : Tok} (hp : 2 ≤ p) (hp' : p < 64) (hn : Builtin.Int.intBits n ≤ 2 ^ 20) :
    ConT w 89 news [.int p t, .int n u] 4 (fun tl r => ∃ P a c, (P = p ∨ P = 7) ∧ IsCurve tl r P a c) := by
  have lp := @lp_con w
  have hp0 : 0 < p := by omega
  have hpp : 0 < p * p := Int.mul_pos hp0 hp0
  unfold ConT
  w_on
  k_with_none
  k_fill
  k_with "call builtin:len" => (k_here; (with_reducible show wpAny _ _ (call (Value.builtin "len") [Value.ref _]) _ _ _); (refine kst_len (by k_asm) (by k_mem) (by assumption) (by omega) ?_))
  k_with "binaryOp FloorDiv int int" => ((with_reducible refine fdiv_sq (by assumption) (by assumption) (by assumption) (by assumption) ?_); intro r9 tk9 e9 l9 g9; (try dsimp only))
  k_with "binaryOp Mod int int" => ((with_reducible refine mod_any (by first | assumption | omega) ?_); intro r9 tk9 e9 l9 g9; (try dsimp only))
  k_with "CompEnd" => refine LCg.CompEnd.intro (by assumption) (by assumption) _ (fun _ h => h) (by (try simp only [LCg.Off3, and_true]); assumption) (by k_mem) ?_
  k_with "eval Name" => k_dflt (refine nameX_L (by assumption) (by with_unfolding_all exact (rfl : some _ = some _)) ?_)
  intro mean mg mb dp un gd cn cs a' ccd cl outer A₀ base h₀ L m s Q E Bl F Xk Nw T hk hd hu hret
  refine wpAny_call ?_
  k_dflt (refine' code_defC ?k1 ?k2 ?k3 ?k4 ?k5 ?kA ?kF ?kK ?k6 ?k7 ?k8 ?k9 ?kB ?kD ?_ ?c2 ?c3 ?c4; (case kA => exact rfl); (case kF => exact rfl); (case kK => assumption); (case k1 => k_asm); (case k2 => k_asm); (case k3 => k_asm); (case k4 => k_asm); (case k5 => k_asm); (case k6 => k_is); (case k7 => k_is); (case k8 => ktr_room); (case k9 => exact BindsTo.of_eq rfl); (case kB => exact rfl); (case kD => decide +kernel); (case c2 => exact rfl); (case c3 => exact rfl); (case c4 => exact rfl); k_whole; intro g' L' h' tk' cells' FG' F' N' Y' B' X' T' l1; (try k_lt l1); k_cells Y'; (try simp only [List.cons_append, List.nil_append] at N'); (try dsimp only); (try k_lift B'); (try k_fold))
  k_with "call ref" => (ktd_call 84 (lp (by omega) (by omega) (by omega) (by omega) (by omega) (by omega)); (rintro r9 tl9 h9 tk9 F9 N9 l9 ⟨la9, vs9, k9, rfl, m9, o9⟩); (try (have hne9 := cell_off l1 hoff (fun p9 hp9 => l9 (L' + 1, co) (by k_mem) p9 hp9))); (try simp only [List.cons_append] at N9); (have ho9 : ∀ q ∈ news, ∀ p ∈ tl9, q.1 < p.1 := fun q9 hq9 => l9 q9 (by first | exact .tail _ (.tail _ (List.mem_append.mpr (.inl hq9))) | exact .tail _ hq9)); (have hl9 := o9.length); (have hb9 : vs9.length ≤ 200 := by rw [hl9]; exact lawPts_len (by omega) _ _); (try dsimp only); (try k_fold))
  k_with "exec For Name Call cons nil" => kpr_for
  k_with "pyIter ref" => refine Hold.out ?_
  k_with "eval ListComp" => refine Hold.out ?_
  k_steps
  rename_i F0 co dc N0 h1 tk1 t1 u1 v1 R1 F1 N1 k1
  refine Hold.mk ?_
  refine rng_loop (n := 20) [Str.ofString "code", Str.ofString "linear", Str.ofString "constant", Str.ofString "points"] (fun _ nx => ∃ co cv, nx = (L' + 1, co) :: news ∧ co.data = Data.cell cv) (by rfl) R1 (by decide) (by rfl) F1 N1 ⟨_, _, rfl, dc⟩ ?_ ?_
  · rintro i t' u3 nx h tk own hin hoff ⟨co, cv, rfl, dc⟩ F6 N6 K hKn hKr
    simp only [List.cons_append] at N6
    k_steps
    · rename Fr _ _ _ _ => Fc
      rename News _ _ _ _ => Nc
      refine Hold.mk ?_
      refine comp_cut (GoodN (vs9.length : Int)) Fc Nc ?_ ?_
      · k_dflt (refine comp_tup (F₀ := by k_asm) (by with_unfolding_all rfl) (by decide) (by rfl) (by decide) (by rfl) ?_)
        k_steps
        rename Fr _ _ _ _ => Ft
        rename News _ _ _ _ => Nt
        refine ⟨_, _, _, _, rfl, rfl, Ft, Nt, .head _, Nat.le_of_ble_eq_true rfl, fun g => ?_⟩
        k_with "isTrue BoolOp" => ((fail_if_success (refine cut_has (by assumption) ?_)); refine cut_K ?_; intro KB hvb)
        lct_lit
        k_steps
        repeat' (refine hvb _ _ ?_; clear hvb KB; k_steps)
        all_goals (refine ⟨_, _, _, _, rfl, rfl, by assumption, cb_drop (by assumption) (fun p9 hp9 => (List.mem_cons.mp hp9).elim (fun h9 => List.mem_cons.mpr (.inl h9)) fun h9 => .tail _ (.tail _ h9)), by simp, ?_⟩; rw [hl9]; first
          | exact (fm2 (by assumption) (by assumption)).elim
          | exact (fm3 (by assumption) (by assumption) (by assumption)).elim
          | (refine iff_of_true rfl ⟨?_, ?_, ?_⟩ <;> first | exact fun h => absurd h.1 (fm1 (by assumption) (by assumption)) | exact fun h => h.2 (by assumption))
          | (refine iff_of_false (fun h => by simp at h) ?_; first | exact fun g => g.1 ⟨fm0 (by assumption) (by assumption), by assumption⟩ | exact fun g => g.2.1 ⟨fm0 (by assumption) (by assumption), by assumption⟩ | exact fun g => g.2.2 ⟨fm0 (by assumption) (by assumption), by assumption⟩))
      · intro D h' tk' ys Fd Nd hys hy
        clear hne9 l9
        cases ys with
        | nil =>
          k_steps
          repeat' (refine hvb _ _ ?_; clear hvb KB; k_steps)
          all_goals refine hKr _ _ ?_
          k_steps
          rename _ = Int.fmod (4 * _ + 27 * _) p => ed
          rename _ = HPow.hPow _ 3 => e3
          rename _ = HPow.hPow _ 2 => e2
          rename _ ∧ _ ∧ _ ∧ AllLt _ _ => lx
          refine curve_end hret (by k_asm) (by k_asm) (fun q hq => .tail _ (.tail _ (.tail _ (mem3 q hq)))) (fun q hq => ktn_ltOf lx.2.2.2 q (List.mem_append.mpr (.inl (List.mem_append.mpr (.inl hq))))) ho9 m9 o9 ⟨by assumption, by assumption, by assumption, by assumption, ?_, by assumption, hl9 ▸ hy.mp rfl⟩ (.inl rfl)
          rw [← e3, ← e2, ← ed]
          assumption
        | cons y ys =>
          have hsz9 : (((y :: ys).toArray.size : Nat) : Int) < 2 ^ 63 := by
            have : (y :: ys).length ≤ 3 := hys
            simp only [List.size_toArray]
            omega
          k_with "truthy ref" => (refine wpAny_truthy_list (News.isList (by k_asm) (by k_mem)) (by assumption) ?_; (try simp only [List.isEmpty_toArray, List.isEmpty_cons, List.isEmpty_nil, Bool.not_false, Bool.not_true]))
          k_steps
          repeat' (refine hvb _ _ ?_; clear hvb KB; k_steps)
          refine hKn _ (cv_end (by k_asm) (by k_asm) (.tail _ (.tail _ (.head _))) (fun q hq => .tail _ (.tail _ (.tail _ (mem2 q hq)))) (by assumption) hoff ?_)
          intro z z1 z2
          simp only [List.contains_cons, List.contains_nil, Bool.or_false, Bool.or_eq_false_iff, beq_eq_false_iff_ne, ne_eq] at z2
          simp +zetaDelta [z1, z2]
    · refine hKn _ (cv_end (by k_asm) (by k_asm) (.tail _ (.head _)) (fun q hq => .tail _ (.tail _ (mem2 q hq))) (by assumption) hoff ?_)
      intro z z1 z2
      simp only [List.contains_cons, List.contains_nil, Bool.or_false, Bool.or_eq_false_iff, beq_eq_false_iff_ne, ne_eq] at z2
      simp +zetaDelta [z1, z2]
    · refine hKn _ (cv_end (by k_asm) (by k_asm) (.tail _ (.head _)) (fun q hq => .tail _ (.tail _ hq)) (by assumption) hoff ?_)
      intro z z1 z2
      simp only [List.contains_cons, List.contains_nil, Bool.or_false, Bool.or_eq_false_iff, beq_eq_false_iff_ne, ne_eq] at z2
      simp +zetaDelta [z1, z2]
  · rintro u3 nx h tk ⟨co, cv, rfl, dc⟩ F6 N6
    k_steps
    rename _ ∧ AllLt _ _ => lx
    exact curve_end hret (by k_asm) (by k_asm) (fun q hq => .tail _ hq) (fun q hq => ktn_ltOf lx.2 q (List.mem_append.mpr (.inl hq))) ho9 m9 o9 good711 (.inr rfl)
end Mine

end
namespace Mine
section
variable {R : Type} [Lean.Grind.CommRing R]
/-- the third point is the sum of two with different places; of a point with itself -/
def AddR (x1 y1 x2 y2 x3 y3 : R) : Prop := (y2 - y1) ^ 2 = (x1 + x2 + x3) * (x2 - x1) ^ 2 ∧ (y3 + y1) * (x2 - x1) = (y2 - y1) * (x1 - x3)
def DblR (a x y x3 y3 : R) : Prop := (3 * x ^ 2 + a) ^ 2 = (2 * x + x3) * (2 * y) ^ 2 ∧ (y3 + y) * (2 * y) = (3 * x ^ 2 + a) * (x - x3)
theorem dbl_ring {u a a0 x y x3 y3 X Y Z q S M nx ny nz : R} (ha : a = a0 * u ^ 4) (hX : X = x * (u * Z) ^ 2) (hY : Y = y * (u * Z) ^ 3) (h : DblR a0 x y x3 y3)
    (eq : q = Y ^ 2) (eS : S = 4 * X * q) (eM : M = 3 * X ^ 2 + a * Z ^ 4) (ex : nx = M ^ 2 - 2 * S) (ey : ny = M * (S - nx) - 8 * q ^ 2) (ez : nz = 2 * Y * Z) :
    nx = x3 * (u * nz) ^ 2 ∧ ny = y3 * (u * nz) ^ 3 := by
  obtain ⟨h1, h2⟩ := h
  have e1 : nx = x3 * (u * nz) ^ 2 := by
    subst ez ex eM eS eq ha hX hY
    clear h2
    grind
  refine ⟨e1, ?_⟩
  have e2 : nx = 4 * x3 * y ^ 2 * (u * Z) ^ 8 := by
    rw [e1, ez, hY]; clear h1 h2 e1; grind
  rw [ey, e2]
  subst ez eM eS eq ha hX hY
  clear h1 e1 e2 ex
  grind
theorem ar_1 (u x1 x2 Z1 Z2 : R) : x2 * (u * Z2) ^ 2 * Z1 ^ 2 - x1 * (u * Z1) ^ 2 * Z2 ^ 2 = (x2 - x1) * (u * Z1 * Z2) ^ 2 := by grind
theorem ar_2 (u y1 y2 Z1 Z2 : R) : y2 * (u * Z2) ^ 3 * Z1 ^ 3 - y1 * (u * Z1) ^ 3 * Z2 ^ 3 = (y2 - y1) * (u * Z1 * Z2) ^ 3 := by grind
theorem ar_3 (u x1 Z1 Z2 : R) : x1 * (u * Z1) ^ 2 * Z2 ^ 2 = x1 * (u * Z1 * Z2) ^ 2 := by grind
theorem ar_3' (u x1 Z1 Z2 : R) : x1 * (u * Z1) ^ 3 * Z2 ^ 3 = x1 * (u * Z1 * Z2) ^ 3 := by grind
theorem ar_4 (u d Z1 Z2 : R) : u * (d * (u * Z1 * Z2) ^ 2 * Z1 * Z2) = d * (u * Z1 * Z2) ^ 3 := by grind
theorem ar_5 {w x1 y1 x2 y2 x3 : R} (h1 : (y2 - y1) ^ 2 = (x1 + x2 + x3) * (x2 - x1) ^ 2) :
    ((y2 - y1) * w ^ 3) ^ 2 - (x2 - x1) * w ^ 2 * ((x2 - x1) * w ^ 2 * ((x2 - x1) * w ^ 2)) - 2 * (x1 * w ^ 2 * ((x2 - x1) * w ^ 2 * ((x2 - x1) * w ^ 2))) = x3 * ((x2 - x1) * w ^ 3) ^ 2 := by grind
theorem ar_6 {w x1 y1 x2 y2 x3 y3 : R} (h2 : (y3 + y1) * (x2 - x1) = (y2 - y1) * (x1 - x3)) :
    (y2 - y1) * w ^ 3 * (x1 * w ^ 2 * ((x2 - x1) * w ^ 2 * ((x2 - x1) * w ^ 2)) - x3 * ((x2 - x1) * w ^ 3) ^ 2) - y1 * w ^ 3 * ((x2 - x1) * w ^ 2 * ((x2 - x1) * w ^ 2 * ((x2 - x1) * w ^ 2))) = y3 * ((x2 - x1) * w ^ 3) ^ 3 := by grind
theorem add_ring {u x1 y1 x2 y2 x3 y3 X1 Y1 Z1 X2 Y2 Z2 U1 U2 S1 S2 H R' H2 H3 V nx ny nz : R} (hX1 : X1 = x1 * (u * Z1) ^ 2) (hY1 : Y1 = y1 * (u * Z1) ^ 3) (hX2 : X2 = x2 * (u * Z2) ^ 2) (hY2 : Y2 = y2 * (u * Z2) ^ 3) (h : AddR x1 y1 x2 y2 x3 y3)
    (eU1 : U1 = X1 * Z2 ^ 2) (eU2 : U2 = X2 * Z1 ^ 2) (eS1 : S1 = Y1 * Z2 ^ 3) (eS2 : S2 = Y2 * Z1 ^ 3) (eH : H = U2 - U1) (eR : R' = S2 - S1) (eH2 : H2 = H * H) (eH3 : H3 = H * H2) (eV : V = U1 * H2)
    (ex : nx = R' ^ 2 - H3 - 2 * V) (ey : ny = R' * (V - nx) - S1 * H3) (ez : nz = H * Z1 * Z2) :
    nx = x3 * (u * nz) ^ 2 ∧ ny = y3 * (u * nz) ^ 3 := by
  obtain ⟨h1, h2⟩ := h
  have fH : H = (x2 - x1) * (u * Z1 * Z2) ^ 2 := by rw [eH, eU1, eU2, hX1, hX2, ar_1]
  have fR : R' = (y2 - y1) * (u * Z1 * Z2) ^ 3 := by rw [eR, eS1, eS2, hY1, hY2, ar_2]
  have fU : U1 = x1 * (u * Z1 * Z2) ^ 2 := by rw [eU1, hX1, ar_3]
  have fS : S1 = y1 * (u * Z1 * Z2) ^ 3 := by rw [eS1, hY1, ar_3']
  have fz : u * nz = (x2 - x1) * (u * Z1 * Z2) ^ 3 := by rw [ez, fH, ar_4]
  have fx : nx = x3 * (u * nz) ^ 2 := by rw [fz, ex, fR, eH3, eV, eH2, fH, fU, ar_5 h1]
  refine ⟨fx, ?_⟩
  rw [ey, fx, fz, fR, eH3, eV, eH2, fH, fU, fS, ar_6 h2]
end
end Mine

namespace Mine
section
variable {R : Type} [Lean.Grind.CommRing R]
/-- a whole number in the ring -/
noncomputable def cs (R : Type) [Lean.Grind.CommRing R] (a : Int) : R := @Int.cast R Lean.Grind.Ring.intCast a
theorem cs_add (a b : Int) : cs R (a + b) = cs R a + cs R b := Lean.Grind.Ring.intCast_add a b
theorem cs_sub (a b : Int) : cs R (a - b) = cs R a - cs R b := Lean.Grind.Ring.intCast_sub a b
theorem cs_mul (a b : Int) : cs R (a * b) = cs R a * cs R b := Lean.Grind.Ring.intCast_mul a b
theorem cs_pow (a : Int) (k : Nat) : cs R (a ^ k) = cs R a ^ k := Lean.Grind.Ring.intCast_pow a k
theorem cs_0 : cs R 0 = 0 := Lean.Grind.Ring.intCast_ofNat 0
theorem cs_1 : cs R 1 = 1 := Lean.Grind.Ring.intCast_ofNat 1
theorem cs_2 : cs R 2 = 2 := Lean.Grind.Ring.intCast_ofNat 2
theorem cs_3 : cs R 3 = 3 := Lean.Grind.Ring.intCast_ofNat 3
theorem cs_4 : cs R 4 = 4 := Lean.Grind.Ring.intCast_ofNat 4
theorem cs_8 : cs R 8 = 8 := Lean.Grind.Ring.intCast_ofNat 8
variable {P : Nat} [Lean.Grind.IsCharP R P]
theorem cs_ext {a b : Int} : cs R a = cs R b ↔ a % (P : Int) = b % (P : Int) := Lean.Grind.IsCharP.intCast_ext_iff P
theorem cs_fmod (a : Int) : cs R (a.fmod (P : Int)) = cs R a := by
  rw [cs_ext (P := P), Int.fmod_eq_emod_of_nonneg _ (Int.natCast_nonneg P), Int.emod_emod]
theorem cs_P : cs R (P : Int) = 0 := by
  rw [← cs_0, cs_ext (P := P)]; simp
theorem cs_inj {a b : Int} (h : cs R a = cs R b) (a0 : 0 ≤ a) (a1 : a < P) (b0 : 0 ≤ b) (b1 : b < P) : a = b := by
  rw [cs_ext (P := P), Int.emod_eq_of_lt a0 a1, Int.emod_eq_of_lt b0 b1] at h
  exact h
theorem cs_nat {m n : Nat} (h : m % P = n % P) : cs R (m : Int) = cs R (n : Int) := by
  rw [cs_ext (P := P), ← Int.natCast_emod, ← Int.natCast_emod, h]
theorem cs_mod (m : Nat) : cs R ((m % P : Nat) : Int) = cs R (m : Int) := cs_nat (by rw [Nat.mod_mod])
end
/-- the checks, in small numbers -/
noncomputable def addB (P x1 y1 x2 y2 x3 y3 : Nat) : Bool :=
  Nat.beq ((y2 + P - y1) ^ 2 % P) ((x1 + x2 + x3) * (x2 + P - x1) ^ 2 % P) && Nat.beq ((y3 + y1) * (x2 + P - x1) % P) ((y2 + P - y1) * (x1 + P - x3) % P)
noncomputable def dblB (P a x y x3 y3 : Nat) : Bool :=
  Nat.beq ((3 * x ^ 2 + a) ^ 2 % P) ((2 * x + x3) * (2 * y) ^ 2 % P) && Nat.beq ((y3 + y) * (2 * y) % P) ((3 * x ^ 2 + a) * (x + P - x3) % P)
noncomputable def ptB (P a : Nat) (p q r : Nat × Nat) : Bool :=
  bif Nat.beq r.2 0 then Nat.beq p.1 q.1 && Nat.beq (p.2 + q.2) P
  else bif Nat.beq p.1 q.1 then Nat.beq p.2 q.2 && dblB P a p.1 p.2 r.1 r.2 else addB P p.1 p.2 q.1 q.2 r.1 r.2
noncomputable def rowB (P a : Nat) (p : Nat × Nat) : List (Nat × Nat) → List (Nat × Nat) → Bool
  | [], _ => true
  | _ :: _, [] => false
  | q :: t, r :: t' => ptB P a p q r && rowB P a p t t'
noncomputable def tabB (P a : Nat) (T : List (Nat × Nat)) : List (Nat × Nat) → List (Nat × Nat) → Bool
  | [], _ => true
  | p :: t, D => rowB P a p T D && tabB P a T t D.tail
noncomputable def onB (P a c x y : Nat) : Bool := Nat.beq (y ^ 2 % P) ((x ^ 3 + a * x + c) % P)
noncomputable def rngB (P a c : Nat) : List (Nat × Nat) → Bool
  | [] => true
  | p :: t => Nat.blt p.1 P && Nat.blt 0 p.2 && Nat.blt p.2 P && onB P a c p.1 p.2 && rngB P a c t
noncomputable def hasB (x y : Nat) : List (Nat × Nat) → Bool
  | [] => false
  | p :: t => Nat.beq p.1 x && Nat.beq p.2 y || hasB x y t
noncomputable def allY (P a c x : Nat) (T : List (Nat × Nat)) : Nat → Bool
  | 0 => true
  | y + 1 => (!onB P a c x y || hasB x y T) && allY P a c x T y
noncomputable def allX (P a c : Nat) (T : List (Nat × Nat)) : Nat → Bool
  | 0 => true
  | x + 1 => allY P a c x T P && allX P a c T x
noncomputable def inB (n : Nat) : List Nat → Bool
  | [] => false
  | m :: t => Nat.beq n m || inB n t
noncomputable def goodNs : List Nat := [3, 5, 7, 11, 13, 17, 19, 23, 29, 31, 37, 41, 43]
noncomputable def repB (P a c : Nat) (T : List (Nat × Nat)) : Bool :=
  rngB P a c T && tabB P a T T (T.tail ++ ((0, 0) :: T)) && allX P a c T P && inB (T.length + 1) goodNs
section
variable {P a c : Nat} {T : List (Nat × Nat)}
theorem rowB_spec {p : Nat × Nat} : ∀ {T D : List (Nat × Nat)}, rowB P a p T D = true → ∀ {j : Nat} {q : Nat × Nat}, T[j]? = some q → ∃ r, D[j]? = some r ∧ ptB P a p q r = true := by
  intro T
  induction T with
  | nil => intro D _ j q h; simp at h
  | cons q t ih =>
    intro D h j q' hj
    cases D with
    | nil => simp [rowB] at h
    | cons r t' =>
      simp only [rowB, Bool.and_eq_true] at h
      cases j with
      | zero =>
        simp only [List.getElem?_cons_zero, Option.some.injEq] at hj
        subst hj
        exact ⟨r, rfl, h.1⟩
      | succ j => exact ih h.2 hj
theorem tabB_spec : ∀ {T' D : List (Nat × Nat)}, tabB P a T T' D = true → ∀ {i j : Nat} {p q : Nat × Nat}, T'[i]? = some p → T[j]? = some q → ∃ r, D[i + j]? = some r ∧ ptB P a p q r = true := by
  intro T'
  induction T' with
  | nil => intro D _ i j p q h; simp at h
  | cons p t ih =>
    intro D h i j p' q hi hj
    simp only [tabB, Bool.and_eq_true] at h
    cases i with
    | zero =>
      simp only [List.getElem?_cons_zero, Option.some.injEq] at hi
      subst hi
      rw [Nat.zero_add]
      exact rowB_spec h.1 hj
    | succ i =>
      obtain ⟨r, h1, h2⟩ := ih h.2 (i := i) hi hj
      refine ⟨r, ?_, h2⟩
      rw [List.getElem?_tail] at h1
      rw [← h1]; congr 1; omega
theorem rngB_spec : ∀ {T : List (Nat × Nat)}, rngB P a c T = true → ∀ p ∈ T, p.1 < P ∧ 0 < p.2 ∧ p.2 < P ∧ p.2 ^ 2 % P = (p.1 ^ 3 + a * p.1 + c) % P := by
  intro T
  induction T with
  | nil => intro _ p h; cases h
  | cons q t ih =>
    intro h p hp
    simp only [rngB, Bool.and_eq_true, Nat.blt_eq, onB, Nat.beq_eq] at h
    rcases List.mem_cons.mp hp with rfl | hp
    · exact ⟨h.1.1.1.1, h.1.1.1.2, h.1.1.2, h.1.2⟩
    · exact ih h.2 p hp
theorem hasB_spec {x y : Nat} : ∀ {T : List (Nat × Nat)}, hasB x y T = true → (x, y) ∈ T := by
  intro T
  induction T with
  | nil => intro h; simp [hasB] at h
  | cons q t ih =>
    intro h
    simp only [hasB, Bool.or_eq_true, Bool.and_eq_true, Nat.beq_eq] at h
    rcases h with ⟨rfl, rfl⟩ | h
    · exact .head _
    · exact .tail _ (ih h)
theorem allY_spec {x : Nat} : ∀ {n : Nat}, allY P a c x T n = true → ∀ y, y < n → y ^ 2 % P = (x ^ 3 + a * x + c) % P → (x, y) ∈ T := by
  intro n
  induction n with
  | zero => intro _ y h; omega
  | succ n ih =>
    intro h y hy e
    simp only [allY, Bool.and_eq_true, Bool.or_eq_true, Bool.not_eq_true', onB] at h
    rcases Nat.lt_succ_iff_lt_or_eq.mp hy with h1 | rfl
    · exact ih h.2 y h1 e
    · rcases h.1 with h1 | h1
      · have := Nat.beq_eq.mpr e
        rw [this] at h1; cases h1
      · exact hasB_spec h1
theorem allX_spec : ∀ {n : Nat}, allX P a c T n = true → ∀ x y, x < n → y < P → y ^ 2 % P = (x ^ 3 + a * x + c) % P → (x, y) ∈ T := by
  intro n
  induction n with
  | zero => intro _ x y h; omega
  | succ n ih =>
    intro h x y hx hy e
    simp only [allX, Bool.and_eq_true] at h
    rcases Nat.lt_succ_iff_lt_or_eq.mp hx with h1 | rfl
    · exact ih h.2 x y h1 hy e
    · exact allY_spec h.1 y hy e
theorem inB_spec {n : Nat} : ∀ {l : List Nat}, inB n l = true → n ∈ l := by
  intro l
  induction l with
  | nil => intro h; simp [inB] at h
  | cons m t ih =>
    intro h
    simp only [inB, Bool.or_eq_true, Nat.beq_eq] at h
    rcases h with rfl | h
    · exact .head _
    · exact .tail _ (ih h)
end
/-- the k-th multiple in a table; (0, 0) for none -/
noncomputable def pt (T : List (Nat × Nat)) (k : Nat) : Nat × Nat := ((0, 0) :: T).getD (k % (T.length + 1)) (0, 0)
structure Tb (P a c : Nat) (T : List (Nat × Nat)) : Prop where
  rng : ∀ k, k % (T.length + 1) ≠ 0 → (pt T k).1 < P ∧ 0 < (pt T k).2 ∧ (pt T k).2 < P
  on : ∀ k, k % (T.length + 1) ≠ 0 → (pt T k).2 ^ 2 % P = ((pt T k).1 ^ 3 + a * (pt T k).1 + c) % P
  all : ∀ x y, x < P → y < P → y ^ 2 % P = (x ^ 3 + a * x + c) % P → ∃ k, k % (T.length + 1) ≠ 0 ∧ pt T k = (x, y)
  sum : ∀ i j, i % (T.length + 1) ≠ 0 → j % (T.length + 1) ≠ 0 → ptB P a (pt T i) (pt T j) (pt T (i + j)) = true
  zero : ∀ k, k % (T.length + 1) = 0 → pt T k = (0, 0)
  num : T.length + 1 ∈ goodNs
theorem pt_get {T : List (Nat × Nat)} {k : Nat} (h : k % (T.length + 1) ≠ 0) : T[k % (T.length + 1) - 1]? = some (pt T k) := by
  have h1 : k % (T.length + 1) < T.length + 1 := Nat.mod_lt _ (by omega)
  obtain ⟨m, hm⟩ : ∃ m, k % (T.length + 1) = m + 1 := ⟨k % (T.length + 1) - 1, by omega⟩
  unfold pt
  rw [hm, Nat.add_sub_cancel, List.getD_cons_succ]
  have : m < T.length := by omega
  rw [List.getD_eq_getElem?_getD, List.getElem?_eq_getElem this, Option.getD_some]
theorem dd_get {T : List (Nat × Nat)} {i j : Nat} (hi : i % (T.length + 1) ≠ 0) (hj : j % (T.length + 1) ≠ 0) {r : Nat × Nat} (h : (T.tail ++ ((0, 0) :: T))[i % (T.length + 1) - 1 + (j % (T.length + 1) - 1)]? = some r) : r = pt T (i + j) := by
  have hN : 0 < T.length + 1 := by omega
  have h1 := Nat.mod_lt i hN
  have h2 := Nat.mod_lt j hN
  unfold pt
  rw [Nat.add_mod]
  generalize i % (T.length + 1) = m at *
  generalize j % (T.length + 1) = n at *
  have e : (T.tail ++ ((0, 0) :: T))[m - 1 + (n - 1)]? = (T ++ ((0, 0) :: T))[m + n - 1]? := by
    cases T with
    | nil => simp at h1 h2; omega
    | cons t T =>
      rw [List.tail_cons, List.cons_append]
      obtain ⟨k, hk⟩ : ∃ k, m + n - 1 = k + 1 := ⟨m + n - 2, by omega⟩
      rw [hk, List.getElem?_cons_succ]
      congr 1; omega
  rw [e] at h
  rcases Nat.lt_or_ge (m + n) (T.length + 1) with h3 | h3
  · rw [Nat.mod_eq_of_lt h3]
    obtain ⟨k, hk⟩ : ∃ k, m + n = k + 1 := ⟨m + n - 1, by omega⟩
    have hkl : k < T.length := by omega
    rw [hk, Nat.add_sub_cancel, List.getElem?_append_left hkl] at h
    rw [hk, List.getD_cons_succ, List.getD_eq_getElem?_getD, h, Option.getD_some]
  · have h4 : (m + n) % (T.length + 1) = m + n - (T.length + 1) := by
      rw [Nat.mod_eq_sub_mod h3, Nat.mod_eq_of_lt (by omega)]
    rw [List.getElem?_append_right (by omega)] at h
    rw [h4, List.getD_eq_getElem?_getD]
    have : m + n - 1 - T.length = m + n - (T.length + 1) := by omega
    rw [this] at h
    rw [h, Option.getD_some]
theorem Tb.mk' {P a c : Nat} {T : List (Nat × Nat)} (h : repB P a c T = true) : Tb P a c T := by
  simp only [repB, Bool.and_eq_true] at h
  obtain ⟨⟨⟨h1, h2⟩, h3⟩, h4⟩ := h
  have hr : ∀ k, k % (T.length + 1) ≠ 0 → pt T k ∈ T := fun k hk => List.mem_of_getElem? (pt_get hk)
  refine ⟨fun k hk => ?_, fun k hk => (rngB_spec h1 _ (hr k hk)).2.2.2, fun x y hx hy e => ?_, fun i j hi hj => ?_, fun k hk => ?_, inB_spec h4⟩
  · have := rngB_spec h1 _ (hr k hk); exact ⟨this.1, this.2.1, this.2.2.1⟩
  · have hm := allX_spec h3 x y hx hy e
    obtain ⟨i, hi, e⟩ := List.getElem_of_mem hm
    have h5 : (i + 1) % (T.length + 1) = i + 1 := Nat.mod_eq_of_lt (by omega)
    have h6 : (i + 1) % (T.length + 1) ≠ 0 := by omega
    refine ⟨i + 1, h6, ?_⟩
    have := pt_get h6
    rw [h5, Nat.add_sub_cancel, List.getElem?_eq_getElem hi, e] at this
    exact (Option.some.inj this).symm
  · obtain ⟨r, h5, h6⟩ := tabB_spec h2 (pt_get hi) (pt_get hj)
    rw [dd_get hi hj h5] at h6
    exact h6
  · unfold pt; rw [hk]; rfl
end Mine

namespace Mine
/-- the number of a curve's points, none with them -/
noncomputable def cntN (P a c M : Nat) : Nat → Nat
  | 0 => 1
  | x + 1 => Nat.add (cntN P a c M x) (Nat.land (Nat.shiftRight M (2 * ((x ^ 3 + a * x + c) % P))) 3)
noncomputable def findU (P a c a0 c0 : Nat) : Nat → Bool
  | 0 => false
  | u + 1 => Nat.beq (a0 * (u + 1) ^ 4 % P) a && Nat.beq (c0 * (u + 1) ^ 6 % P) c || findU P a c a0 c0 u
noncomputable def findR (P a c M : Nat) : List (Nat × Nat × List (Nat × Nat)) → Bool
  | [] => false
  | r :: t => findU P a c r.1 r.2.1 (P / 2) && Nat.beq (r.2.2.length + 1) (cntN P a c M P) || findR P a c M t
/-- the odd numbers from 3 to 94 that are 3, 5 or no multiple of them -/
noncomputable def goodM : Nat := 3105289039789812411131373736
noncomputable def curB (P a c M : Nat) (rs : List (Nat × Nat × List (Nat × Nat))) : Bool :=
  Nat.beq ((4 * a ^ 3 + 27 * c ^ 2) % P) 0 || Nat.beq (Nat.land (Nat.shiftRight goodM (cntN P a c M P)) 1) 0 || findR P a c M rs
noncomputable def swC (P a M : Nat) (rs : List (Nat × Nat × List (Nat × Nat))) : Nat → Bool
  | 0 => true
  | c + 1 => curB P a c M rs && swC P a M rs c
noncomputable def swA (P M : Nat) (rs : List (Nat × Nat × List (Nat × Nat))) : Nat → Bool
  | 0 => true
  | a + 1 => swC P a M rs P && swA P M rs a
noncomputable def repsB (P : Nat) : List (Nat × Nat × List (Nat × Nat)) → Bool
  | [] => true
  | r :: t => repB P r.1 r.2.1 r.2.2 && repsB P t
noncomputable def reps7 : List (Nat × Nat × List (Nat × Nat)) := [(0, 3, [(1, 2), (6, 3), (2, 2), (4, 5), (3, 3), (5, 3), (5, 4), (3, 4), (4, 2), (2, 5), (6, 4), (1, 5)]), (0, 4, [(0, 2), (0, 5)]), (0, 5, [(3, 2), (5, 2), (6, 5), (6, 2), (5, 5), (3, 5)]), (1, 1, [(0, 1), (2, 5), (2, 2), (0, 6)]), (1, 6, [(1, 1), (2, 4), (6, 5), (4, 5), (3, 1), (3, 6), (4, 2), (6, 2), (2, 3), (1, 6)]), (3, 5, [(1, 3), (6, 6), (4, 5), (4, 2), (6, 1), (1, 4)])]
noncomputable def reps11 : List (Nat × Nat × List (Nat × Nat)) := [(1, 5, [(0, 4), (5, 5), (10, 5), (2, 9), (7, 6), (7, 5), (2, 2), (10, 6), (5, 6), (0, 7)]), (1, 6, [(2, 4), (5, 9), (8, 8), (10, 9), (3, 5), (7, 2), (7, 9), (3, 6), (10, 2), (8, 3), (5, 2), (2, 7)]), (2, 4, [(0, 2), (3, 2), (8, 9), (6, 1), (9, 5), (7, 3), (2, 4), (10, 10), (10, 1), (2, 7), (7, 8), (9, 6), (6, 10), (8, 2), (3, 9), (0, 9)]), (2, 7, [(6, 2), (10, 9), (7, 10), (7, 1), (10, 2), (6, 9)])]
noncomputable def reps19 : List (Nat × Nat × List (Nat × Nat)) := [(0, 2, [(4, 3), (18, 18), (6, 3), (9, 16), (12, 18), (8, 18), (8, 1), (12, 1), (9, 3), (6, 16), (18, 1), (4, 16)]), (0, 10, [(1, 7), (9, 13), (6, 13), (18, 3), (4, 6), (12, 3), (11, 7), (7, 12), (8, 3), (8, 16), (7, 7), (11, 12), (12, 16), (4, 13), (18, 16), (6, 6), (9, 6), (1, 12)]), (1, 4, [(0, 2), (6, 6), (5, 1), (11, 4), (14, 11), (9, 18), (8, 7), (1, 14), (10, 11), (10, 8), (1, 5), (8, 12), (9, 1), (14, 8), (11, 15), (5, 18), (6, 13), (0, 17)]), (1, 18, [(1, 1), (2, 16), (13, 9), (16, 8), (11, 7), (18, 4), (7, 8), (15, 8), (8, 5), (8, 14), (15, 11), (7, 11), (18, 15), (11, 12), (16, 11), (13, 10), (2, 3), (1, 18)]), (2, 9, [(0, 3), (17, 4), (7, 10), (13, 3), (6, 16), (14, 11), (3, 17), (4, 10), (5, 12), (18, 14), (8, 9), (8, 10), (18, 5), (5, 7), (4, 9), (3, 2), (14, 8), (6, 3), (13, 16), (7, 9), (17, 15), (0, 16)]), (2, 10, [(3, 9), (18, 8), (4, 5), (9, 15), (8, 5), (17, 6), (10, 2), (7, 14), (7, 5), (10, 17), (17, 13), (8, 14), (9, 4), (4, 14), (18, 11), (3, 10)]), (2, 18, [(2, 7), (16, 17), (5, 18), (17, 14), (9, 10), (14, 15), (14, 4), (9, 9), (17, 5), (5, 1), (16, 2), (2, 12)])]
noncomputable def reps23 : List (Nat × Nat × List (Nat × Nat)) := [(1, 4, [(0, 2), (13, 12), (11, 9), (1, 12), (7, 20), (9, 11), (15, 6), (14, 5), (4, 7), (22, 5), (10, 5), (17, 9), (8, 15), (18, 9), (18, 14), (8, 8), (17, 14), (10, 18), (22, 18), (4, 16), (14, 18), (15, 17), (9, 12), (7, 3), (1, 11), (11, 14), (13, 11), (0, 21)]), (1, 19, [(2, 11), (4, 15), (21, 20), (18, 2), (7, 22), (17, 2), (20, 9), (3, 7), (11, 2), (11, 21), (3, 16), (20, 14), (17, 21), (7, 1), (18, 21), (21, 3), (4, 8), (2, 12)]), (5, 1, [(0, 1), (12, 15), (13, 3), (22, 8), (4, 4), (21, 12), (15, 1), (8, 22), (5, 6), (19, 3), (10, 4), (17, 10), (14, 20), (18, 14), (9, 4), (9, 19), (18, 9), (14, 3), (17, 13), (10, 19), (19, 20), (5, 17), (8, 1), (15, 22), (21, 11), (4, 19), (22, 15), (13, 20), (12, 8), (0, 22)]), (5, 3, [(0, 7), (4, 8), (9, 8), (16, 4), (10, 15), (21, 13), (11, 3), (7, 6), (1, 3), (15, 7), (8, 16), (8, 7), (15, 16), (1, 20), (7, 17), (11, 20), (21, 10), (10, 8), (16, 19), (9, 15), (4, 15), (0, 16)]), (5, 14, [(2, 3), (20, 15), (4, 11), (10, 11), (12, 10), (18, 18), (9, 12), (16, 2), (7, 22), (22, 13), (5, 7), (5, 16), (22, 10), (7, 1), (16, 21), (9, 11), (18, 5), (12, 13), (10, 12), (4, 12), (20, 8), (2, 20)]), (5, 22, [(3, 8), (21, 2), (17, 12), (12, 19), (20, 7), (16, 9), (7, 20), (22, 4), (22, 19), (7, 3), (16, 14), (20, 16), (12, 4), (17, 11), (21, 21), (3, 15)])]
noncomputable def reps31 : List (Nat × Nat × List (Nat × Nat)) := [(0, 3, [(1, 2), (16, 10), (22, 24), (24, 30), (26, 8), (5, 2), (25, 29), (30, 8), (9, 22), (4, 6), (14, 22), (18, 10), (6, 23), (28, 21), (11, 30), (7, 6), (20, 6), (17, 24), (27, 1), (8, 9), (23, 7), (23, 24), (8, 22), (27, 30), (17, 7), (20, 25), (7, 25), (11, 1), (28, 10), (6, 8), (18, 21), (14, 9), (4, 25), (9, 9), (30, 23), (25, 2), (5, 29), (26, 23), (24, 1), (22, 7), (16, 21), (1, 29)]), (1, 3, [(1, 6), (5, 3), (12, 10), (23, 17), (15, 18), (17, 29), (21, 4), (18, 5), (9, 20), (26, 20), (6, 16), (28, 2), (3, 23), (14, 23), (30, 30), (20, 5), (24, 5), (22, 3), (27, 11), (4, 28), (4, 3), (27, 20), (22, 28), (24, 26), (20, 26), (30, 1), (14, 8), (3, 8), (28, 29), (6, 15), (26, 11), (9, 11), (18, 26), (21, 27), (17, 2), (15, 13), (23, 14), (12, 21), (5, 28), (1, 25)]), (1, 16, [(0, 4), (16, 25), (12, 19), (7, 26), (13, 26), (26, 14), (9, 14), (24, 21), (11, 5), (30, 13), (20, 21), (18, 21), (27, 17), (1, 7), (8, 3), (8, 28), (1, 24), (27, 14), (18, 10), (20, 10), (30, 18), (11, 26), (24, 10), (9, 17), (26, 17), (13, 5), (7, 5), (12, 12), (16, 6), (0, 27)]), (1, 19, [(0, 9), (20, 14), (13, 11), (5, 26), (14, 24), (24, 14), (17, 12), (18, 17), (22, 26), (3, 7), (25, 18), (16, 15), (4, 5), (28, 19), (21, 30), (11, 11), (29, 28), (7, 11), (7, 20), (29, 3), (11, 20), (21, 1), (28, 12), (4, 26), (16, 16), (25, 13), (3, 24), (22, 5), (18, 14), (17, 19), (24, 17), (14, 7), (5, 5), (13, 20), (20, 17), (0, 22)]), (1, 23, [(1, 5), (18, 13), (6, 20), (2, 23), (11, 1), (8, 4), (10, 14), (21, 6), (19, 22), (25, 24), (13, 1), (24, 13), (7, 1), (20, 18), (20, 13), (7, 30), (24, 18), (13, 30), (25, 7), (19, 9), (21, 25), (10, 17), (8, 27), (11, 30), (2, 8), (6, 11), (18, 18), (1, 26)]), (1, 28, [(0, 11), (18, 22), (15, 16), (23, 2), (2, 10), (6, 23), (29, 24), (21, 17), (24, 22), (12, 30), (20, 9), (20, 22), (12, 1), (24, 9), (21, 14), (29, 7), (6, 8), (2, 21), (23, 29), (15, 15), (18, 9), (0, 20)]), (3, 11, [(2, 5), (6, 20), (8, 19), (23, 8), (25, 5), (4, 26), (19, 18), (30, 21), (24, 9), (14, 21), (3, 4), (27, 20), (16, 30), (29, 11), (10, 7), (21, 29), (12, 15), (18, 10), (18, 21), (12, 16), (21, 2), (10, 24), (29, 20), (16, 1), (27, 11), (3, 27), (14, 10), (24, 22), (30, 10), (19, 13), (4, 5), (25, 26), (23, 23), (8, 12), (6, 11), (2, 26)]), (3, 18, [(0, 7), (4, 1), (6, 2), (30, 18), (29, 2), (16, 15), (23, 28), (27, 29), (11, 7), (20, 24), (18, 18), (15, 20), (10, 5), (26, 23), (14, 13), (2, 1), (7, 14), (25, 30), (25, 1), (7, 17), (2, 30), (14, 18), (26, 8), (10, 26), (15, 11), (18, 13), (20, 7), (11, 24), (27, 2), (23, 3), (16, 16), (29, 29), (30, 13), (6, 29), (4, 30), (0, 24)]), (3, 25, [(0, 5), (19, 11), (20, 5), (11, 26), (28, 12), (5, 17), (2, 15), (23, 4), (24, 23), (25, 15), (26, 28), (15, 2), (21, 24), (4, 15), (10, 1), (10, 30), (4, 16), (21, 7), (15, 29), (26, 3), (25, 16), (24, 8), (23, 27), (2, 16), (5, 14), (28, 19), (11, 5), (20, 26), (19, 20), (0, 26)]), (3, 29, [(1, 8), (18, 5), (16, 22), (23, 19), (15, 16), (9, 14), (8, 10), (5, 13), (13, 8), (17, 23), (14, 5), (10, 6), (30, 26), (19, 30), (19, 1), (30, 5), (10, 25), (14, 26), (17, 8), (13, 23), (5, 18), (8, 21), (9, 17), (15, 15), (23, 12), (16, 9), (18, 26), (1, 23)])]
theorem t7_0 : repB 7 0 3 [(1, 2), (6, 3), (2, 2), (4, 5), (3, 3), (5, 3), (5, 4), (3, 4), (4, 2), (2, 5), (6, 4), (1, 5)] = true := by decide +kernel
theorem t7_1 : repB 7 0 4 [(0, 2), (0, 5)] = true := by decide +kernel
theorem t7_2 : repB 7 0 5 [(3, 2), (5, 2), (6, 5), (6, 2), (5, 5), (3, 5)] = true := by decide +kernel
theorem t7_3 : repB 7 1 1 [(0, 1), (2, 5), (2, 2), (0, 6)] = true := by decide +kernel
theorem t7_4 : repB 7 1 6 [(1, 1), (2, 4), (6, 5), (4, 5), (3, 1), (3, 6), (4, 2), (6, 2), (2, 3), (1, 6)] = true := by decide +kernel
theorem t7_5 : repB 7 3 5 [(1, 3), (6, 6), (4, 5), (4, 2), (6, 1), (1, 4)] = true := by decide +kernel
theorem tb7 : repsB 7 reps7 = true := by simp only [repsB, reps7, t7_0, t7_1, t7_2, t7_3, t7_4, t7_5, Bool.and_self]
theorem sw7 : swA 7 553 reps7 7 = true := by decide +kernel
theorem t11_0 : repB 11 1 5 [(0, 4), (5, 5), (10, 5), (2, 9), (7, 6), (7, 5), (2, 2), (10, 6), (5, 6), (0, 7)] = true := by decide +kernel
theorem t11_1 : repB 11 1 6 [(2, 4), (5, 9), (8, 8), (10, 9), (3, 5), (7, 2), (7, 9), (3, 6), (10, 2), (8, 3), (5, 2), (2, 7)] = true := by decide +kernel
theorem t11_2 : repB 11 2 4 [(0, 2), (3, 2), (8, 9), (6, 1), (9, 5), (7, 3), (2, 4), (10, 10), (10, 1), (2, 7), (7, 8), (9, 6), (6, 10), (8, 2), (3, 9), (0, 9)] = true := by decide +kernel
theorem t11_3 : repB 11 2 7 [(6, 2), (10, 9), (7, 10), (7, 1), (10, 2), (6, 9)] = true := by decide +kernel
theorem tb11 : repsB 11 reps11 = true := by simp only [repsB, reps11, t11_0, t11_1, t11_2, t11_3, Bool.and_self]
theorem sw11 : swA 11 526985 reps11 11 = true := by decide +kernel
theorem t19_0 : repB 19 0 2 [(4, 3), (18, 18), (6, 3), (9, 16), (12, 18), (8, 18), (8, 1), (12, 1), (9, 3), (6, 16), (18, 1), (4, 16)] = true := by decide +kernel
theorem t19_1 : repB 19 0 10 [(1, 7), (9, 13), (6, 13), (18, 3), (4, 6), (12, 3), (11, 7), (7, 12), (8, 3), (8, 16), (7, 7), (11, 12), (12, 16), (4, 13), (18, 16), (6, 6), (9, 6), (1, 12)] = true := by decide +kernel
theorem t19_2 : repB 19 1 4 [(0, 2), (6, 6), (5, 1), (11, 4), (14, 11), (9, 18), (8, 7), (1, 14), (10, 11), (10, 8), (1, 5), (8, 12), (9, 1), (14, 8), (11, 15), (5, 18), (6, 13), (0, 17)] = true := by decide +kernel
theorem t19_3 : repB 19 1 18 [(1, 1), (2, 16), (13, 9), (16, 8), (11, 7), (18, 4), (7, 8), (15, 8), (8, 5), (8, 14), (15, 11), (7, 11), (18, 15), (11, 12), (16, 11), (13, 10), (2, 3), (1, 18)] = true := by decide +kernel
theorem t19_4 : repB 19 2 9 [(0, 3), (17, 4), (7, 10), (13, 3), (6, 16), (14, 11), (3, 17), (4, 10), (5, 12), (18, 14), (8, 9), (8, 10), (18, 5), (5, 7), (4, 9), (3, 2), (14, 8), (6, 3), (13, 16), (7, 9), (17, 15), (0, 16)] = true := by decide +kernel
theorem t19_5 : repB 19 2 10 [(3, 9), (18, 8), (4, 5), (9, 15), (8, 5), (17, 6), (10, 2), (7, 14), (7, 5), (10, 17), (17, 13), (8, 14), (9, 4), (4, 14), (18, 11), (3, 10)] = true := by decide +kernel
theorem t19_6 : repB 19 2 18 [(2, 7), (16, 17), (5, 18), (17, 14), (9, 10), (14, 15), (14, 4), (9, 9), (17, 5), (5, 1), (16, 2), (2, 12)] = true := by decide +kernel
theorem tb19 : repsB 19 reps19 = true := by simp only [repsB, reps19, t19_0, t19_1, t19_2, t19_3, t19_4, t19_5, t19_6, Bool.and_self]
theorem sw19 : swA 19 42958629385 reps19 19 = true := by decide +kernel
theorem t23_0 : repB 23 1 4 [(0, 2), (13, 12), (11, 9), (1, 12), (7, 20), (9, 11), (15, 6), (14, 5), (4, 7), (22, 5), (10, 5), (17, 9), (8, 15), (18, 9), (18, 14), (8, 8), (17, 14), (10, 18), (22, 18), (4, 16), (14, 18), (15, 17), (9, 12), (7, 3), (1, 11), (11, 14), (13, 11), (0, 21)] = true := by decide +kernel
theorem t23_1 : repB 23 1 19 [(2, 11), (4, 15), (21, 20), (18, 2), (7, 22), (17, 2), (20, 9), (3, 7), (11, 2), (11, 21), (3, 16), (20, 14), (17, 21), (7, 1), (18, 21), (21, 3), (4, 8), (2, 12)] = true := by decide +kernel
theorem t23_2 : repB 23 5 1 [(0, 1), (12, 15), (13, 3), (22, 8), (4, 4), (21, 12), (15, 1), (8, 22), (5, 6), (19, 3), (10, 4), (17, 10), (14, 20), (18, 14), (9, 4), (9, 19), (18, 9), (14, 3), (17, 13), (10, 19), (19, 20), (5, 17), (8, 1), (15, 22), (21, 11), (4, 19), (22, 15), (13, 20), (12, 8), (0, 22)] = true := by decide +kernel
theorem t23_3 : repB 23 5 3 [(0, 7), (4, 8), (9, 8), (16, 4), (10, 15), (21, 13), (11, 3), (7, 6), (1, 3), (15, 7), (8, 16), (8, 7), (15, 16), (1, 20), (7, 17), (11, 20), (21, 10), (10, 8), (16, 19), (9, 15), (4, 15), (0, 16)] = true := by decide +kernel
theorem t23_4 : repB 23 5 14 [(2, 3), (20, 15), (4, 11), (10, 11), (12, 10), (18, 18), (9, 12), (16, 2), (7, 22), (22, 13), (5, 7), (5, 16), (22, 10), (7, 1), (16, 21), (9, 11), (18, 5), (12, 13), (10, 12), (4, 12), (20, 8), (2, 20)] = true := by decide +kernel
theorem t23_5 : repB 23 5 22 [(3, 8), (21, 2), (17, 12), (12, 19), (20, 7), (16, 9), (7, 20), (22, 4), (22, 19), (7, 3), (16, 14), (20, 16), (12, 4), (17, 11), (21, 21), (3, 15)] = true := by decide +kernel
theorem tb23 : repsB 23 reps23 = true := by simp only [repsB, reps23, t23_0, t23_1, t23_2, t23_3, t23_4, t23_5, Bool.and_self]
theorem sw23 : swA 23 146197324457 reps23 23 = true := by decide +kernel
theorem t31_0 : repB 31 0 3 [(1, 2), (16, 10), (22, 24), (24, 30), (26, 8), (5, 2), (25, 29), (30, 8), (9, 22), (4, 6), (14, 22), (18, 10), (6, 23), (28, 21), (11, 30), (7, 6), (20, 6), (17, 24), (27, 1), (8, 9), (23, 7), (23, 24), (8, 22), (27, 30), (17, 7), (20, 25), (7, 25), (11, 1), (28, 10), (6, 8), (18, 21), (14, 9), (4, 25), (9, 9), (30, 23), (25, 2), (5, 29), (26, 23), (24, 1), (22, 7), (16, 21), (1, 29)] = true := by decide +kernel
theorem t31_1 : repB 31 1 3 [(1, 6), (5, 3), (12, 10), (23, 17), (15, 18), (17, 29), (21, 4), (18, 5), (9, 20), (26, 20), (6, 16), (28, 2), (3, 23), (14, 23), (30, 30), (20, 5), (24, 5), (22, 3), (27, 11), (4, 28), (4, 3), (27, 20), (22, 28), (24, 26), (20, 26), (30, 1), (14, 8), (3, 8), (28, 29), (6, 15), (26, 11), (9, 11), (18, 26), (21, 27), (17, 2), (15, 13), (23, 14), (12, 21), (5, 28), (1, 25)] = true := by decide +kernel
theorem t31_2 : repB 31 1 16 [(0, 4), (16, 25), (12, 19), (7, 26), (13, 26), (26, 14), (9, 14), (24, 21), (11, 5), (30, 13), (20, 21), (18, 21), (27, 17), (1, 7), (8, 3), (8, 28), (1, 24), (27, 14), (18, 10), (20, 10), (30, 18), (11, 26), (24, 10), (9, 17), (26, 17), (13, 5), (7, 5), (12, 12), (16, 6), (0, 27)] = true := by decide +kernel
theorem t31_3 : repB 31 1 19 [(0, 9), (20, 14), (13, 11), (5, 26), (14, 24), (24, 14), (17, 12), (18, 17), (22, 26), (3, 7), (25, 18), (16, 15), (4, 5), (28, 19), (21, 30), (11, 11), (29, 28), (7, 11), (7, 20), (29, 3), (11, 20), (21, 1), (28, 12), (4, 26), (16, 16), (25, 13), (3, 24), (22, 5), (18, 14), (17, 19), (24, 17), (14, 7), (5, 5), (13, 20), (20, 17), (0, 22)] = true := by decide +kernel
theorem t31_4 : repB 31 1 23 [(1, 5), (18, 13), (6, 20), (2, 23), (11, 1), (8, 4), (10, 14), (21, 6), (19, 22), (25, 24), (13, 1), (24, 13), (7, 1), (20, 18), (20, 13), (7, 30), (24, 18), (13, 30), (25, 7), (19, 9), (21, 25), (10, 17), (8, 27), (11, 30), (2, 8), (6, 11), (18, 18), (1, 26)] = true := by decide +kernel
theorem t31_5 : repB 31 1 28 [(0, 11), (18, 22), (15, 16), (23, 2), (2, 10), (6, 23), (29, 24), (21, 17), (24, 22), (12, 30), (20, 9), (20, 22), (12, 1), (24, 9), (21, 14), (29, 7), (6, 8), (2, 21), (23, 29), (15, 15), (18, 9), (0, 20)] = true := by decide +kernel
theorem t31_6 : repB 31 3 11 [(2, 5), (6, 20), (8, 19), (23, 8), (25, 5), (4, 26), (19, 18), (30, 21), (24, 9), (14, 21), (3, 4), (27, 20), (16, 30), (29, 11), (10, 7), (21, 29), (12, 15), (18, 10), (18, 21), (12, 16), (21, 2), (10, 24), (29, 20), (16, 1), (27, 11), (3, 27), (14, 10), (24, 22), (30, 10), (19, 13), (4, 5), (25, 26), (23, 23), (8, 12), (6, 11), (2, 26)] = true := by decide +kernel
theorem t31_7 : repB 31 3 18 [(0, 7), (4, 1), (6, 2), (30, 18), (29, 2), (16, 15), (23, 28), (27, 29), (11, 7), (20, 24), (18, 18), (15, 20), (10, 5), (26, 23), (14, 13), (2, 1), (7, 14), (25, 30), (25, 1), (7, 17), (2, 30), (14, 18), (26, 8), (10, 26), (15, 11), (18, 13), (20, 7), (11, 24), (27, 2), (23, 3), (16, 16), (29, 29), (30, 13), (6, 29), (4, 30), (0, 24)] = true := by decide +kernel
theorem t31_8 : repB 31 3 25 [(0, 5), (19, 11), (20, 5), (11, 26), (28, 12), (5, 17), (2, 15), (23, 4), (24, 23), (25, 15), (26, 28), (15, 2), (21, 24), (4, 15), (10, 1), (10, 30), (4, 16), (21, 7), (15, 29), (26, 3), (25, 16), (24, 8), (23, 27), (2, 16), (5, 14), (28, 19), (11, 5), (20, 26), (19, 20), (0, 26)] = true := by decide +kernel
theorem t31_9 : repB 31 3 29 [(1, 8), (18, 5), (16, 22), (23, 19), (15, 16), (9, 14), (8, 10), (5, 13), (13, 8), (17, 23), (14, 5), (10, 6), (30, 26), (19, 30), (19, 1), (30, 5), (10, 25), (14, 26), (17, 8), (13, 23), (5, 18), (8, 21), (9, 17), (15, 15), (23, 12), (16, 9), (18, 26), (1, 23)] = true := by decide +kernel
theorem tb31 : repsB 31 reps31 = true := by simp only [repsB, reps31, t31_0, t31_1, t31_2, t31_3, t31_4, t31_5, t31_6, t31_7, t31_8, t31_9, Bool.and_self]
theorem sw31 : swA 31 146369883237157417 reps31 31 = true := by decide +kernel
end Mine

namespace Mine
noncomputable def rt (P : Nat) : List (Int × Int) := rootsC (P : Int) ((((P : Int) + 1).fdiv 2) - 1).toNat
/-- what the reckoning modulo P wants -/
structure Pr (P M : Nat) : Prop where
  p1 : 2 < P
  p2 : P < 64
  odd : P % 2 = 1
  wt : ∀ s, s < P → (if (s : Int) = 0 then 1 else 0) + (if kdfHas (rt P) (s : Int) = true then 2 else 0) = Nat.land (Nat.shiftRight M (2 * s)) 3
  rts : ∀ s, s < P → kdfHas (rt P) (s : Int) = true → 0 < kdfLook (rt P) (s : Int) 0 ∧ kdfLook (rt P) (s : Int) 0 < P ∧ ((kdfLook (rt P) (s : Int) 0).toNat) ^ 2 % P = s
  inv : ∀ r : Nat, r < P → r ≠ 0 → (r : Int) * powI (r : Int) ((P : Int) - 2) P % P = 1
  root : ∀ y : Nat, y < P → (powI ((y ^ 2 % P : Nat) : Int) (((P : Int) + 1).fdiv 4) P) ^ 2 % (P : Int) = ((y ^ 2 % P : Nat) : Int)
  par : ∀ y : Nat, y < P + 1 → ∀ z : Nat, z < P → z ≠ 0 → y ^ 2 % P = z ^ 2 % P → y % 2 = z % 2 → y = z
theorem pr7 : Pr 7 553 := ⟨by decide, by decide, by decide, by decide +kernel, by decide +kernel, by decide +kernel, by decide +kernel, by decide +kernel⟩
theorem pr11 : Pr 11 526985 := ⟨by decide, by decide, by decide, by decide +kernel, by decide +kernel, by decide +kernel, by decide +kernel, by decide +kernel⟩
theorem pr19 : Pr 19 42958629385 := ⟨by decide, by decide, by decide, by decide +kernel, by decide +kernel, by decide +kernel, by decide +kernel, by decide +kernel⟩
theorem pr23 : Pr 23 146197324457 := ⟨by decide, by decide, by decide, by decide +kernel, by decide +kernel, by decide +kernel, by decide +kernel, by decide +kernel⟩
theorem pr31 : Pr 31 146369883237157417 := ⟨by decide, by decide, by decide, by decide +kernel, by decide +kernel, by decide +kernel, by decide +kernel, by decide +kernel⟩
theorem findU_spec {P a c a0 c0 : Nat} : ∀ {n : Nat}, findU P a c a0 c0 n = true → ∃ u, 0 < u ∧ u ≤ n ∧ a0 * u ^ 4 % P = a ∧ c0 * u ^ 6 % P = c := by
  intro n
  induction n with
  | zero => intro h; simp [findU] at h
  | succ n ih =>
    intro h
    simp only [findU, Bool.or_eq_true, Bool.and_eq_true, Nat.beq_eq] at h
    rcases h with h | h
    · exact ⟨n + 1, by omega, by omega, h.1, h.2⟩
    · obtain ⟨u, h1, h2, h3⟩ := ih h
      exact ⟨u, h1, by omega, h3⟩
theorem findR_spec {P a c M : Nat} : ∀ {rs : List (Nat × Nat × List (Nat × Nat))}, findR P a c M rs = true → repsB P rs = true → ∃ a0 c0 T u, 0 < u ∧ u ≤ P / 2 ∧ a0 * u ^ 4 % P = a ∧ c0 * u ^ 6 % P = c ∧ T.length + 1 = cntN P a c M P ∧ Tb P a0 c0 T := by
  intro rs
  induction rs with
  | nil => intro h; simp [findR] at h
  | cons r t ih =>
    intro h hr
    simp only [repsB, Bool.and_eq_true] at hr
    simp only [findR, Bool.or_eq_true, Bool.and_eq_true, Nat.beq_eq] at h
    rcases h with ⟨h1, h2⟩ | h
    · obtain ⟨u, h3, h4, h5, h6⟩ := findU_spec h1
      exact ⟨r.1, r.2.1, r.2.2, u, h3, h4, h5, h6, h2, Tb.mk' hr.1⟩
    · exact ih h hr.2
theorem swC_spec {P a M : Nat} {rs : List (Nat × Nat × List (Nat × Nat))} : ∀ {n : Nat}, swC P a M rs n = true → ∀ c, c < n → curB P a c M rs = true := by
  intro n
  induction n with
  | zero => intro _ c h; omega
  | succ n ih =>
    intro h c hc
    simp only [swC, Bool.and_eq_true] at h
    rcases Nat.lt_succ_iff_lt_or_eq.mp hc with h1 | rfl
    · exact ih h.2 c h1
    · exact h.1
theorem swA_spec {P M : Nat} {rs : List (Nat × Nat × List (Nat × Nat))} : ∀ {n : Nat}, swA P M rs n = true → ∀ a, a < n → ∀ c, c < P → curB P a c M rs = true := by
  intro n
  induction n with
  | zero => intro _ a h; omega
  | succ n ih =>
    intro h a ha
    simp only [swA, Bool.and_eq_true] at h
    rcases Nat.lt_succ_iff_lt_or_eq.mp ha with h1 | rfl
    · exact ih h.2 a h1
    · exact swC_spec h.1
theorem good_bit : ∀ n : Nat, n < 95 → 2 < (n : Int) → GoodN (n : Int) → Nat.beq (Nat.land (Nat.shiftRight goodM n) 1) 0 = false := by unfold GoodN; decide +kernel
theorem fmod_nat (m P : Nat) : ((m : Int)).fmod (P : Int) = ((m % P : Nat) : Int) := by
  rw [Int.fmod_eq_emod_of_nonneg _ (Int.natCast_nonneg P), Int.natCast_emod]
theorem sq_nat (P a c x : Nat) : ((x : Int) ^ 3 + (a : Int) * (x : Int) + (c : Int)).fmod (P : Int) = (((x ^ 3 + a * x + c) % P : Nat) : Int) := by
  rw [← fmod_nat]; congr 1
section
variable {P M : Nat} (H : Pr P M) {a c : Nat}
include H
theorem ptsAt_cnt (x : Nat) : (ptsAt (P : Int) a c (rt P) (x : Int)).length = Nat.land (Nat.shiftRight M (2 * ((x ^ 3 + a * x + c) % P))) 3 := by
  have hs : (x ^ 3 + a * x + c) % P < P := Nat.mod_lt _ (by have := H.p1; omega)
  rw [← H.wt _ hs]
  unfold ptsAt
  rw [sq_nat]
  simp only [List.length_append]
  congr 1
  · split <;> rfl
  · split <;> rfl
theorem ptsC_cnt (n : Nat) : (ptsC (P : Int) a c (rt P) n).length = cntN P a c M n := by
  induction n with
  | zero => simp [ptsC, cntN]
  | succ n ih =>
    rw [ptsC_succ, List.length_append, ih, Int.zero_add, ptsAt_cnt H]
    rfl
theorem lawPts_cnt : (lawPts (P : Int) a c).length = cntN P a c M P := by
  have := ptsC_cnt H (a := a) (c := c) P
  rw [← this]
  unfold lawPts rt
  simp
theorem lawPts_on {q : Int × Int} (h : some q ∈ lawPts (P : Int) a c) : ∃ x y : Nat, q = ((x : Int), (y : Int)) ∧ x < P ∧ y < P ∧ y ^ 2 % P = (x ^ 3 + a * x + c) % P := by
  have hp := H.p1
  unfold lawPts ptsC at h
  rcases List.mem_cons.mp h with h | h
  · cases h
  rw [List.mem_flatMap] at h
  obtain ⟨j, hj, h⟩ := h
  have hj' : j < P := by have := List.mem_range.mp hj; omega
  have hs : (j ^ 3 + a * j + c) % P < P := Nat.mod_lt _ (by omega)
  have hR := H.rts _ hs
  change some q ∈ ptsAt (P : Int) a c (rt P) _ at h
  unfold ptsAt at h
  rw [Int.zero_add, sq_nat] at h
  generalize hss : (j ^ 3 + a * j + c) % P = s at *
  rcases List.mem_append.mp h with h | h
  · split at h
    · rename_i h0
      obtain rfl := Option.some.inj (List.mem_singleton.mp h)
      refine ⟨j, 0, rfl, hj', by omega, ?_⟩
      have : s = 0 := by omega
      rw [hss, this]; simp
    · cases h
  · split at h
    · rename_i h0
      obtain ⟨h1, h2, h3⟩ := hR h0
      generalize kdfLook (rt P) (s : Int) 0 = y at *
      obtain ⟨m, rfl⟩ : ∃ m : Nat, y = (m : Int) := ⟨y.toNat, by omega⟩
      rw [Int.toNat_natCast] at h3
      rcases List.mem_cons.mp h with h | h
      · obtain rfl := Option.some.inj h
        exact ⟨j, m, rfl, hj', by omega, by rw [hss]; exact h3⟩
      · obtain rfl := Option.some.inj (List.mem_singleton.mp h)
        refine ⟨j, P - m, by rw [Int.ofNat_sub (by omega)], hj', by omega, ?_⟩
        rw [hss, ← h3]
        obtain ⟨k, rfl⟩ : ∃ k, P = m + k := ⟨P - m, by omega⟩
        rw [Nat.add_sub_cancel_left]
        have e : k ^ 2 + (m + k) * m = m ^ 2 + (m + k) * k := by
          rw [Nat.pow_two, Nat.pow_two, Nat.add_mul, Nat.add_mul, Nat.mul_comm k m]; omega
        have := congrArg (· % (m + k)) e
        simpa only [Nat.add_mul_mod_self_left] using this
    · cases h
end
/-- the curve as a twist of one with a table -/
structure Tw (P : Nat) (a c : Int) (a0 c0 u : Nat) (T : List (Nat × Nat)) : Prop where
  tb : Tb P a0 c0 T
  ha : a = ((a0 * u ^ 4 % P : Nat) : Int)
  hc : c = ((c0 * u ^ 6 % P : Nat) : Int)
  u0 : 0 < u
  u1 : u < P
  num : (lawPts (P : Int) a c).length = T.length + 1
theorem tw_ex {P M : Nat} (H : Pr P M) {rs : List (Nat × Nat × List (Nat × Nat))} (hs : swA P M rs P = true) (hr : repsB P rs = true) (hP : P ≤ 31) {a c : Int} (G : GoodC (P : Int) a c) : ∃ a0 c0 u T, Tw P a c a0 c0 u T := by
  obtain ⟨a0, a1, c0, c1, hd, h2, hg⟩ := G
  obtain ⟨a, rfl⟩ : ∃ m : Nat, a = (m : Int) := ⟨a.toNat, by omega⟩
  obtain ⟨c, rfl⟩ : ∃ m : Nat, c = (m : Int) := ⟨c.toNat, by omega⟩
  have hl := lawPts_cnt H (a := a) (c := c)
  have hlen : (lawPts (P : Int) a c).length < 95 := by
    have := ptsC_len (P : Int) a c (rootsC (P : Int) ((((P : Int) + 1).fdiv 2) - 1).toNat) ((P : Int) - 0).toNat
    unfold lawPts
    omega
  have hb := good_bit _ hlen h2 hg
  have hc := swA_spec hs a (by omega) c (by omega)
  have hd' : (4 * (a : Int) ^ 3 + 27 * (c : Int) ^ 2).fmod (P : Int) = (((4 * a ^ 3 + 27 * c ^ 2) % P : Nat) : Int) := by
    rw [← fmod_nat]; congr 1
  rw [hd'] at hd
  simp only [curB, Bool.or_eq_true, Nat.beq_eq] at hc
  rcases hc with (hc | hc) | hc
  · omega
  · rw [hl] at hb
    have := Nat.beq_eq.mpr hc
    rw [this] at hb; cases hb
  · obtain ⟨a0, c0, T, u, h3, h4, h5, h6, h7, h8⟩ := findR_spec hc hr
    refine ⟨a0, c0, u, T, h8, by rw [h5], by rw [h6], h3, by omega, by rw [hl, h7]⟩
end Mine

namespace Mine
def IsU {R : Type} [Lean.Grind.CommRing R] (r : R) : Prop := ∃ w : R, r * w = 1
section
variable {R : Type} [Lean.Grind.CommRing R]
theorem beq_nn (n : Nat) : Nat.beq n n = true := Nat.beq_eq.mpr rfl
theorem IsU.mul {a b : R} (ha : IsU a) (hb : IsU b) : IsU (a * b) := by
  obtain ⟨v, hv⟩ := ha
  obtain ⟨w, hw⟩ := hb
  exact ⟨v * w, by grind⟩
theorem IsU.pow2 {a : R} (ha : IsU a) : IsU (a ^ 2) := by
  have h := ha.mul ha
  have e : a ^ 2 = a * a := by grind
  rw [e]; exact h
theorem IsU.pow3 {a : R} (ha : IsU a) : IsU (a ^ 3) := by
  have h := (ha.mul ha).mul ha
  have e : a ^ 3 = a * a * a := by grind
  rw [e]; exact h
theorem IsU.can {a b d : R} (ha : IsU a) (h : b * a = d * a) : b = d := by
  obtain ⟨v, hv⟩ := ha
  have : b * a * v = d * a * v := by rw [h]
  grind
variable {P M : Nat} [Lean.Grind.IsCharP R P] (H : Pr P M)
include H
theorem one_ne : (0 : R) ≠ 1 := by
  intro h
  have hp := H.p1
  rw [← cs_0, ← cs_1, cs_ext (P := P), Int.emod_eq_of_lt (by decide) (by omega), Int.emod_eq_of_lt (by decide) (by omega)] at h
  exact absurd h (by decide)
theorem IsU.ne {a : R} (ha : IsU a) : a ≠ 0 := by
  rintro rfl
  obtain ⟨v, hv⟩ := ha
  exact one_ne H (R := R) (by grind)
theorem un_n {m : Nat} (h0 : 0 < m) (h1 : m < P) : IsU (cs R (m : Int)) := by
  refine ⟨cs R (powI (m : Int) ((P : Int) - 2) P), ?_⟩
  rw [← cs_mul, ← cs_1, cs_ext (P := P), H.inv m h1 (by omega)]
  exact (Int.emod_eq_of_lt (by decide) (by have := H.p1; omega)).symm
theorem un {r : Int} (h : r.fmod P ≠ 0) : IsU (cs R r) := by
  have hp := H.p1
  have h0 := Int.fmod_nonneg_of_pos r (b := (P : Int)) (by omega)
  have h1 := Int.fmod_lt_of_pos r (b := (P : Int)) (by omega)
  rw [← cs_fmod (P := P)]
  obtain ⟨m, hm⟩ : ∃ m : Nat, r.fmod P = (m : Int) := ⟨(r.fmod P).toNat, by omega⟩
  rw [hm] at h h0 h1 ⊢
  exact un_n H (by omega) (by omega)
omit H in
theorem cs_num {n : Nat} : cs R ((n : Nat) : Int) = cs R (n : Int) := rfl
omit H in
theorem dblB_R {a x y x3 y3 : Nat} (h3 : x3 < P) (h : dblB P a x y x3 y3 = true) : DblR (cs R a) (cs R x) (cs R y) (cs R x3) (cs R y3) := by
  simp only [dblB, Bool.and_eq_true, Nat.beq_eq] at h
  obtain ⟨h1, h2⟩ := h
  have g1 := cs_nat (R := R) (P := P) h1
  have g2 := cs_nat (R := R) (P := P) h2
  rw [show ((((3 * x ^ 2 + a) * (x + P - x3) : Nat)) : Int) = (3 * (x : Int) ^ 2 + a) * ((x : Int) + P - x3) by rw [Int.natCast_mul, Int.ofNat_sub (by omega)]; rfl] at g2
  rw [show ((((y3 + y) * (2 * y) : Nat)) : Int) = ((y3 : Int) + y) * (2 * (y : Int)) by rfl] at g2
  rw [show ((((3 * x ^ 2 + a) ^ 2 : Nat)) : Int) = (3 * (x : Int) ^ 2 + a) ^ 2 by rfl, show (((2 * x + x3) * (2 * y) ^ 2 : Nat) : Int) = (2 * (x : Int) + x3) * (2 * (y : Int)) ^ 2 by rfl] at g1
  simp only [cs_mul, cs_add, cs_sub, cs_pow, cs_2, cs_3, cs_P (P := P)] at g1 g2
  refine ⟨g1, ?_⟩
  rw [g2]
  grind
omit H in
theorem addB_R {x1 y1 x2 y2 x3 y3 : Nat} (h1 : x1 < P) (h1' : y1 < P) (h3 : x3 < P) (h : addB P x1 y1 x2 y2 x3 y3 = true) : AddR (cs R x1) (cs R y1) (cs R x2) (cs R y2) (cs R x3) (cs R y3) := by
  simp only [addB, Bool.and_eq_true, Nat.beq_eq] at h
  obtain ⟨e1, e2⟩ := h
  have g1 := cs_nat (R := R) (P := P) e1
  have g2 := cs_nat (R := R) (P := P) e2
  rw [show ((((y2 + P - y1) ^ 2 : Nat)) : Int) = ((y2 : Int) + P - y1) ^ 2 by rw [Int.natCast_pow, Int.ofNat_sub (by omega)]; rfl] at g1
  rw [show (((x1 + x2 + x3) * (x2 + P - x1) ^ 2 : Nat) : Int) = ((x1 : Int) + x2 + x3) * ((x2 : Int) + P - x1) ^ 2 by rw [Int.natCast_mul, Int.natCast_pow, Int.ofNat_sub (by omega)]; rfl] at g1
  rw [show ((((y3 + y1) * (x2 + P - x1) : Nat)) : Int) = ((y3 : Int) + y1) * ((x2 : Int) + P - x1) by rw [Int.natCast_mul, Int.ofNat_sub (by omega)]; rfl] at g2
  rw [show ((((y2 + P - y1) * (x1 + P - x3) : Nat)) : Int) = ((y2 : Int) + P - y1) * ((x1 : Int) + P - x3) by rw [Int.natCast_mul, Int.ofNat_sub (by omega), Int.ofNat_sub (by omega)]; rfl] at g2
  simp only [cs_mul, cs_add, cs_sub, cs_pow, cs_P (P := P)] at g1 g2
  refine ⟨?_, ?_⟩
  · grind
  · grind
end
section
variable {P M : Nat} (H : Pr P M) {a c : Int} {a0 c0 u : Nat} {T : List (Nat × Nat)} (W : Tw P a c a0 c0 u T)
include H W
omit H in
theorem sum_inf {i j : Nat} (hi : i % (T.length + 1) ≠ 0) (hj : j % (T.length + 1) ≠ 0) (h : (i + j) % (T.length + 1) = 0) : (pt T i).1 = (pt T j).1 ∧ (pt T i).2 + (pt T j).2 = P := by
  have hs := W.tb.sum i j hi hj
  rw [W.tb.zero _ h] at hs
  simp only [ptB, beq_nn, cond_true, Bool.and_eq_true, Nat.beq_eq] at hs
  exact hs
omit H in
theorem sum_fin (R : Type) [Lean.Grind.CommRing R] [Lean.Grind.IsCharP R P] {i j : Nat} (hi : i % (T.length + 1) ≠ 0) (hj : j % (T.length + 1) ≠ 0) (h : (i + j) % (T.length + 1) ≠ 0) :
    ((pt T i).1 = (pt T j).1 ∧ (pt T i).2 = (pt T j).2 ∧ DblR (cs R a0) (cs R (pt T i).1) (cs R (pt T i).2) (cs R (pt T (i + j)).1) (cs R (pt T (i + j)).2)) ∨
    ((pt T i).1 ≠ (pt T j).1 ∧ AddR (cs R (pt T i).1) (cs R (pt T i).2) (cs R (pt T j).1) (cs R (pt T j).2) (cs R (pt T (i + j)).1) (cs R (pt T (i + j)).2)) := by
  have hs := W.tb.sum i j hi hj
  have hr := W.tb.rng _ h
  have hri := W.tb.rng _ hi
  have h0 : Nat.beq (pt T (i + j)).2 0 = false := by
    rw [Bool.eq_false_iff]; intro h'; rw [Nat.beq_eq] at h'; omega
  simp only [ptB, h0, cond_false] at hs
  cases hx : Nat.beq (pt T i).1 (pt T j).1 with
  | true =>
    simp only [hx, cond_true, Bool.and_eq_true, Nat.beq_eq] at hs
    exact .inl ⟨Nat.beq_eq.mp hx, hs.1, dblB_R hr.1 hs.2⟩
  | false =>
    simp only [hx, cond_false] at hs
    refine .inr ⟨fun e => ?_, addB_R hri.1 hri.2.2 hr.1 hs⟩
    rw [e, beq_nn] at hx; cases hx
theorem dbl_fin (R : Type) [Lean.Grind.CommRing R] [Lean.Grind.IsCharP R P] {i : Nat} (hi : i % (T.length + 1) ≠ 0) : (i + i) % (T.length + 1) ≠ 0 ∧ DblR (cs R a0) (cs R (pt T i).1) (cs R (pt T i).2) (cs R (pt T (i + i)).1) (cs R (pt T (i + i)).2) := by
  have h : (i + i) % (T.length + 1) ≠ 0 := by
    intro h
    have := (sum_inf W hi hi h).2
    have := H.odd
    omega
  refine ⟨h, ?_⟩
  rcases sum_fin W R hi hi h with h | h
  · exact h.2.2
  · exact absurd rfl h.1
end
end Mine

namespace Mine
/-- a triple that stands for the k-th multiple on the twist -/
def Fin3 (R : Type) [Lean.Grind.CommRing R] (u : Nat) (t : Int × Int × Int) (q : Nat × Nat) : Prop :=
  t.2.1 ≠ 0 ∧ IsU (cs R t.2.2) ∧ cs R t.1 = cs R q.1 * (cs R u * cs R t.2.2) ^ 2 ∧ cs R t.2.1 = cs R q.2 * (cs R u * cs R t.2.2) ^ 3
def Rep (R : Type) [Lean.Grind.CommRing R] (T : List (Nat × Nat)) (u : Nat) (t : Int × Int × Int) (k : Nat) : Prop :=
  (k % (T.length + 1) = 0 ∧ t.1 = 0 ∧ t.2.1 = 0) ∨ (k % (T.length + 1) ≠ 0 ∧ Fin3 R u t (pt T k))
theorem pt_congr {T : List (Nat × Nat)} {k k' : Nat} (h : k % (T.length + 1) = k' % (T.length + 1)) : pt T k = pt T k' := by unfold pt; rw [h]
theorem Rep.congr {R : Type} [Lean.Grind.CommRing R] {T : List (Nat × Nat)} {u : Nat} {t : Int × Int × Int} {k k' : Nat} (h : Rep R T u t k) (e : k % (T.length + 1) = k' % (T.length + 1)) : Rep R T u t k' := by
  unfold Rep at h ⊢
  rw [← e, ← pt_congr e]; exact h
section
variable {R : Type} [Lean.Grind.CommRing R]
theorem ar_0 {a b : R} (h : a - b = 0) : b = a := by grind
theorem ar_7 (u x1 Z1 Z2 : R) : x1 * (u * Z2) ^ 2 * Z1 ^ 2 = x1 * (u * Z1 * Z2) ^ 2 := by grind
theorem ar_7' (u x1 Z1 Z2 : R) : x1 * (u * Z2) ^ 3 * Z1 ^ 3 = x1 * (u * Z1 * Z2) ^ 3 := by grind
end
section
variable {P M : Nat} (H : Pr P M) {a c : Int} {a0 c0 u : Nat} {T : List (Nat × Nat)} (W : Tw P a c a0 c0 u T) {R : Type} [Lean.Grind.CommRing R] [Lean.Grind.IsCharP R P]
include H W
omit H in
theorem a_R : cs R a = cs R a0 * cs R u ^ 4 := by
  rw [W.ha, cs_mod, Int.natCast_mul, Int.natCast_pow, cs_mul, cs_pow]
theorem u_U : IsU (cs R u) := un_n H W.u0 W.u1
theorem y_U {k : Nat} (hk : k % (T.length + 1) ≠ 0) : IsU (cs R (pt T k).2) := un_n H (W.tb.rng k hk).2.1 (W.tb.rng k hk).2.2
omit W in
theorem two_U : IsU (2 : R) := by
  have := un_n H (R := R) (m := 2) (by decide) H.p1
  rw [← cs_2]; exact this
theorem fin_of {t : Int × Int × Int} {k : Nat} (hk : k % (T.length + 1) ≠ 0) (hz : IsU (cs R t.2.2)) (hx : cs R t.1 = cs R (pt T k).1 * (cs R u * cs R t.2.2) ^ 2) (hy : cs R t.2.1 = cs R (pt T k).2 * (cs R u * cs R t.2.2) ^ 3) : Fin3 R u t (pt T k) := by
  refine ⟨fun h => ?_, hz, hx, hy⟩
  have hU : IsU (cs R t.2.1) := by rw [hy]; exact (y_U H W hk).mul ((u_U H W).mul hz).pow3
  rw [h, cs_0] at hU
  exact hU.ne H rfl
theorem dbl_fin3 {t : Int × Int × Int} {q : Nat × Nat} {k : Nat} (h : Fin3 R u t q) (hq : IsU (cs R q.2)) (hk : k % (T.length + 1) ≠ 0) (hd : DblR (cs R a0) (cs R q.1) (cs R q.2) (cs R (pt T k).1) (cs R (pt T k).2)) : Fin3 R u (jdbl P a t) (pt T k) := by
  obtain ⟨X, Y, Z⟩ := t
  obtain ⟨h0, hz, hx, hy⟩ := h
  simp only at h0 hz hx hy
  have hr := dbl_ring (a := cs R a) (u := cs R u) (Z := cs R Z) (a_R W) hx hy hd rfl rfl rfl rfl rfl rfl
  have hn : IsU (2 * cs R Y * cs R Z) := by
    rw [hy]; exact ((two_U H).mul (hq.mul ((u_U H W).mul hz).pow3)).mul hz
  unfold jdbl
  rw [if_neg h0]
  refine fin_of H W hk ?_ ?_ ?_
  · simp only [cs_fmod, cs_mul, cs_2]; exact hn
  · simp only [cs_fmod, cs_mul, cs_sub, cs_add, cs_pow, cs_2, cs_3, cs_4, cs_8]; exact hr.1
  · simp only [cs_fmod, cs_mul, cs_sub, cs_add, cs_pow, cs_2, cs_3, cs_4, cs_8]; exact hr.2
theorem dbl_rep {t : Int × Int × Int} {k : Nat} (h : Rep R T u t k) : Rep R T u (jdbl P a t) (k + k) := by
  rcases h with ⟨hk, h1, h2⟩ | ⟨hk, h⟩
  · refine .inl ⟨by rw [Nat.add_mod, hk]; exact Nat.zero_mod _, ?_, ?_⟩ <;> (unfold jdbl; rw [if_pos h2])
  · have hd := dbl_fin H W R hk
    exact .inr ⟨hd.1, dbl_fin3 H W h (y_U H W hk) hd.1 hd.2⟩
theorem add_rep {t t' : Int × Int × Int} {i j : Nat} (h : Rep R T u t i) (h' : Rep R T u t' j) : Rep R T u (jadd P a t t') (i + j) := by
  rcases h with ⟨hi, h1, h2⟩ | ⟨hi, h⟩
  · unfold jadd
    rw [if_pos h2]
    exact h'.congr (by rw [Nat.add_mod, hi, Nat.zero_add, Nat.mod_mod])
  rcases h' with ⟨hj, h1, h2⟩ | ⟨hj, h'⟩
  · unfold jadd
    rw [if_neg h.1, if_pos h2]
    exact Rep.congr (k := i) (.inr ⟨hi, h⟩) (by rw [Nat.add_mod i j, hj]; simp)
  have hp := H.p1
  have hP0 : (0 : Int) < (P : Int) := by omega
  have hri := W.tb.rng i hi
  have hrj := W.tb.rng j hj
  have hd := fun hq => dbl_fin3 H W (k := i + j) h (y_U H W hi) hq
  obtain ⟨X1, Y1, Z1⟩ := t
  obtain ⟨X2, Y2, Z2⟩ := t'
  obtain ⟨h0, hz, hx, hy⟩ := h
  obtain ⟨h0', hz', hx', hy'⟩ := h'
  simp only at h0 hz hx hy h0' hz' hx' hy'
  have w2 : IsU ((cs R u * cs R Z1 * cs R Z2) ^ 2) := (((u_U H W).mul hz).mul hz').pow2
  have w3 : IsU ((cs R u * cs R Z1 * cs R Z2) ^ 3) := (((u_U H W).mul hz).mul hz').pow3
  have cU1 : cs R ((X1 * Z2 ^ 2).fmod P) = cs R (pt T i).1 * (cs R u * cs R Z1 * cs R Z2) ^ 2 := by
    rw [cs_fmod, cs_mul, cs_pow, hx, ar_3]
  have cU2 : cs R ((X2 * Z1 ^ 2).fmod P) = cs R (pt T j).1 * (cs R u * cs R Z1 * cs R Z2) ^ 2 := by
    rw [cs_fmod, cs_mul, cs_pow, hx', ar_7]
  have cS1 : cs R ((Y1 * Z2 ^ 3).fmod P) = cs R (pt T i).2 * (cs R u * cs R Z1 * cs R Z2) ^ 3 := by
    rw [cs_fmod, cs_mul, cs_pow, hy, ar_3']
  have cS2 : cs R ((Y2 * Z1 ^ 3).fmod P) = cs R (pt T j).2 * (cs R u * cs R Z1 * cs R Z2) ^ 3 := by
    rw [cs_fmod, cs_mul, cs_pow, hy', ar_7']
  have inj : ∀ {s t : Int}, cs R (s.fmod P) = cs R (t.fmod P) → s.fmod P = t.fmod P := fun e => cs_inj (R := R) (P := P) e (Int.fmod_nonneg_of_pos _ hP0) (Int.fmod_lt_of_pos _ hP0) (Int.fmod_nonneg_of_pos _ hP0) (Int.fmod_lt_of_pos _ hP0)
  have injn : ∀ {s t : Nat}, s < P → t < P → cs R s = cs R t → s = t := fun hs ht e => by
    have := cs_inj (R := R) (P := P) e (by omega) (by omega) (by omega) (by omega)
    omega
  have eU : (X1 * Z2 ^ 2).fmod P = (X2 * Z1 ^ 2).fmod P ↔ (pt T i).1 = (pt T j).1 := by
    constructor
    · intro e
      have := congrArg (cs R) e
      rw [cU1, cU2] at this
      exact injn hri.1 hrj.1 (w2.can this)
    · intro e
      refine inj ?_
      rw [cU1, cU2, e]
  have eS : (Y1 * Z2 ^ 3).fmod P = (Y2 * Z1 ^ 3).fmod P ↔ (pt T i).2 = (pt T j).2 := by
    constructor
    · intro e
      have := congrArg (cs R) e
      rw [cS1, cS2] at this
      exact injn hri.2.2 hrj.2.2 (w3.can this)
    · intro e
      refine inj ?_
      rw [cS1, cS2, e]
  unfold jadd
  rw [if_neg h0, if_neg h0']
  dsimp only
  by_cases hs : (i + j) % (T.length + 1) = 0
  · have := sum_inf W hi hj hs
    have hodd := H.odd
    rw [if_pos (eU.mpr this.1), if_neg (fun e => by have := eS.mp e; omega)]
    exact .inl ⟨hs, rfl, rfl⟩
  · rcases sum_fin W R hi hj hs with ⟨e1, e2, e3⟩ | ⟨e1, e2⟩
    · rw [if_pos (eU.mpr e1), if_pos (eS.mpr e2)]
      exact .inr ⟨hs, hd hs e3⟩
    · rw [if_neg (fun e => e1 (eU.mp e))]
      refine .inr ⟨hs, ?_⟩
      have hr := add_ring (u := cs R u) (Z1 := cs R Z1) (Z2 := cs R Z2) hx hy hx' hy' e2 rfl rfl rfl rfl rfl rfl rfl rfl rfl rfl rfl rfl
      have hH : IsU (cs R ((X2 * Z1 ^ 2).fmod P - (X1 * Z2 ^ 2).fmod P)) := by
        refine un H (fun e => ?_)
        have e' : cs R ((X2 * Z1 ^ 2).fmod P - (X1 * Z2 ^ 2).fmod P) = 0 := by rw [← cs_fmod (P := P), e, cs_0]
        rw [cs_sub] at e'
        exact e1 (eU.mp (inj (ar_0 e')))
      refine fin_of H W hs ?_ ?_ ?_
      · simp only [cs_fmod, cs_mul] at hH ⊢
        exact (hH.mul hz).mul hz'
      · simp only [cs_fmod, cs_mul, cs_sub, cs_add, cs_pow, cs_2, cs_3, cs_4, cs_8] at hr ⊢; exact hr.1
      · simp only [cs_fmod, cs_mul, cs_sub, cs_add, cs_pow, cs_2, cs_3, cs_4, cs_8] at hr ⊢; exact hr.2
end
end Mine

namespace Mine
theorem good_3 : ∀ n ∈ goodNs, 3 ≤ n ∧ n ≤ 43 := by decide
theorem good_mul : ∀ n ∈ goodNs, ∀ i, i < n → ∀ k, k < n → i ≠ 0 → k ≠ 0 → i * k % n ≠ 0 := by decide +kernel
theorem good_inv : ∀ n ∈ goodNs, ∀ r : Nat, r < n → r ≠ 0 → (r : Int) * powI (r : Int) ((n : Int) - 2) n % (n : Int) = 1 := by decide +kernel
theorem good_mul' {n i k : Nat} (hn : n ∈ goodNs) (hi : i % n ≠ 0) (hk : k % n ≠ 0) : i * k % n ≠ 0 := by
  have := good_3 n hn
  rw [Nat.mul_mod]
  exact good_mul n hn _ (Nat.mod_lt _ (by omega)) _ (Nat.mod_lt _ (by omega)) hi hk
theorem half_e {n : Int} (h0 : 0 ≤ n) (h : n.fmod 2 = 0) : n.toNat = (n.fdiv 2).toNat + (n.fdiv 2).toNat := by
  rw [Int.fdiv_eq_ediv_of_nonneg n (by decide)]
  rw [Int.fmod_eq_emod_of_nonneg n (by decide)] at h
  omega
theorem half_o {n : Int} (h0 : 0 ≤ n) (h : ¬ n.fmod 2 = 0) : n.toNat = ((n.fdiv 2).toNat + (n.fdiv 2).toNat).succ := by
  rw [Int.fdiv_eq_ediv_of_nonneg n (by decide)]
  rw [Int.fmod_eq_emod_of_nonneg n (by decide)] at h
  omega
theorem half_b {n N : Int} (h0 : 2 ≤ n) (h1 : n < N) : 0 ≤ n.fdiv 2 ∧ n.fdiv 2 < N := by
  rw [Int.fdiv_eq_ediv_of_nonneg n (by decide)]
  omega
theorem nb_of {n N : Int} (h0 : n ≠ 0) (h1 : ¬ n = 1) (h2 : ¬ (n < 0 ∨ N ≤ n)) : 2 ≤ n ∧ n < N := by omega
theorem fmod_small {n N : Int} (h0 : 0 ≤ n) (h1 : n < N) : n.fmod N = n := by
  rw [Int.fmod_eq_emod_of_nonneg _ (by omega), Int.emod_eq_of_lt h0 h1]
theorem fmod_fmod' {n N : Int} (h : 0 < N) : (n.fmod N).fmod N = n.fmod N := fmod_small (Int.fmod_nonneg_of_pos _ h) (Int.fmod_lt_of_pos _ h)
section
variable {R : Type} [Lean.Grind.CommRing R]
theorem sl_gen {run climb iv s v w : R} (hi : run * iv = 1) (h1 : climb ^ 2 = s * run ^ 2) (h2 : climb * w = v * run) : climb * iv * (climb * iv) = s ∧ climb * iv * w = v := by
  constructor
  · have : climb * iv * (climb * iv) = climb ^ 2 * iv ^ 2 := by grind
    rw [this, h1]
    have : s * run ^ 2 * iv ^ 2 = s * (run * iv) ^ 2 := by grind
    rw [this, hi]; grind
  · have : climb * iv * w = climb * w * iv := by grind
    rw [this, h2]
    have : v * run * iv = v * (run * iv) := by grind
    rw [this, hi]; grind
theorem sl_add {u x1 y1 x2 y2 x3 y3 iv : R} (h : AddR x1 y1 x2 y2 x3 y3) (hi : (x2 * u ^ 2 - x1 * u ^ 2) * iv = 1) :
    (y2 * u ^ 3 - y1 * u ^ 3) * iv * ((y2 * u ^ 3 - y1 * u ^ 3) * iv) - x1 * u ^ 2 - x2 * u ^ 2 = x3 * u ^ 2 ∧ (y2 * u ^ 3 - y1 * u ^ 3) * iv * (x1 * u ^ 2 - x3 * u ^ 2) - y1 * u ^ 3 = y3 * u ^ 3 := by
  obtain ⟨h1, h2⟩ := h
  have := sl_gen (climb := y2 * u ^ 3 - y1 * u ^ 3) (s := (x1 + x2 + x3) * u ^ 2) (v := (y3 + y1) * u ^ 3) (w := x1 * u ^ 2 - x3 * u ^ 2) hi (by grind) (by grind)
  rw [this.1, this.2]
  constructor <;> grind
theorem sl_dbl {u a x y x3 y3 iv : R} (h : DblR a x y x3 y3) (hi : 2 * (y * u ^ 3) * iv = 1) :
    (3 * (x * u ^ 2) * (x * u ^ 2) + a * u ^ 4) * iv * ((3 * (x * u ^ 2) * (x * u ^ 2) + a * u ^ 4) * iv) - x * u ^ 2 - x * u ^ 2 = x3 * u ^ 2 ∧ (3 * (x * u ^ 2) * (x * u ^ 2) + a * u ^ 4) * iv * (x * u ^ 2 - x3 * u ^ 2) - y * u ^ 3 = y3 * u ^ 3 := by
  obtain ⟨h1, h2⟩ := h
  have := sl_gen (climb := 3 * (x * u ^ 2) * (x * u ^ 2) + a * u ^ 4) (s := (2 * x + x3) * u ^ 2) (v := (y3 + y) * u ^ 3) (w := x * u ^ 2 - x3 * u ^ 2) hi (by grind) (by grind)
  rw [this.1, this.2]
  constructor <;> grind
end
/-- a table's point on the twist -/
noncomputable def aff (P u : Nat) (q : Nat × Nat) : Int × Int := (((q.1 * u ^ 2 % P : Nat) : Int), ((q.2 * u ^ 3 % P : Nat) : Int))
noncomputable def affO (T : List (Nat × Nat)) (P u k : Nat) : Option (Int × Int) := if k % (T.length + 1) = 0 then none else some (aff P u (pt T k))
section
variable {P M : Nat} (H : Pr P M) {a c : Int} {a0 c0 u : Nat} {T : List (Nat × Nat)} (W : Tw P a c a0 c0 u T)
include H W
theorem mul_rep {R : Type} [Lean.Grind.CommRing R] [Lean.Grind.IsCharP R P] {t : Int × Int × Int} {k0 : Nat} (h : Rep R T u t k0) : ∀ (f : Nat) (n : Int), Fit ((T.length + 1 : Nat) : Int) f n →
    Rep R T u (jmul P a ((T.length + 1 : Nat) : Int) t f n) ((n.fmod ((T.length + 1 : Nat) : Int)).toNat * k0) := by
  have hN := good_3 _ W.tb.num
  intro f
  induction f with
  | zero => intro n hf; obtain ⟨_, h⟩ := hf.pos; cases h
  | succ f ih =>
    intro n hf
    have hNp : (0 : Int) < ((T.length + 1 : Nat) : Int) := by omega
    rw [k_open]
    split
    · rename_i h0
      refine .inl ⟨?_, rfl, rfl⟩
      rcases h0 with h0 | h0
      · have hk : k0 % (T.length + 1) = 0 := by
          rcases h with h | h
          · exact h.1
          · exact absurd h0 h.2.1
        rw [Nat.mul_mod, hk, Nat.mul_zero, Nat.zero_mod]
      · subst h0
        rw [fmod_small (by decide) hNp]
        simp
    split
    · rename_i h1
      subst h1
      rw [fmod_small (by decide) (by omega)]
      simpa using h
    split
    · rename_i h0 h1 h2
      have := ih _ (Fit.mod hNp hf h2)
      rw [fmod_fmod' hNp] at this
      exact this
    · rename_i h0 h1 h2
      have n0 : n ≠ 0 := fun e => h0 (.inr e)
      have nb := nb_of n0 h1 h2
      have n2 : 0 ≤ n := Int.le_trans (by decide) nb.1
      have hh := ih _ (Fit.half hf nb.1 nb.2)
      rw [fmod_small (half_b nb.1 nb.2).1 (half_b nb.1 nb.2).2] at hh
      rw [fmod_small n2 nb.2]
      split
      · have := dbl_rep H W hh
        rw [← Nat.add_mul] at this
        rw [half_e n2 (by assumption)]
        exact this
      · have := add_rep H W (dbl_rep H W hh) h
        rw [← Nat.add_mul, ← Nat.succ_mul] at this
        rw [half_o n2 (by assumption)]
        exact this
theorem inv_R (R : Type) [Lean.Grind.CommRing R] [Lean.Grind.IsCharP R P] {r : Int} (h : r.fmod P ≠ 0) : cs R r * cs R (powI (r.fmod P) ((P : Int) - 2) P) = 1 := by
  have hp := H.p1
  have h0 := Int.fmod_nonneg_of_pos r (b := (P : Int)) (by omega)
  have h1 := Int.fmod_lt_of_pos r (b := (P : Int)) (by omega)
  rw [← cs_fmod (P := P) r]
  obtain ⟨m, hm⟩ : ∃ m : Nat, r.fmod P = (m : Int) := ⟨(r.fmod P).toNat, by omega⟩
  rw [hm] at h h0 h1 ⊢
  rw [← cs_mul, ← cs_1, cs_ext (P := P), H.inv m (by omega) (by omega)]
  exact (Int.emod_eq_of_lt (by decide) (by omega)).symm
omit H W in
theorem aff_R (R : Type) [Lean.Grind.CommRing R] [Lean.Grind.IsCharP R P] (q : Nat × Nat) : cs R (aff P u q).1 = cs R q.1 * cs R u ^ 2 ∧ cs R (aff P u q).2 = cs R q.2 * cs R u ^ 3 := by
  simp only [aff]
  rw [cs_mod, cs_mod, Int.natCast_mul, Int.natCast_pow, cs_mul, cs_pow, Int.natCast_mul, Int.natCast_pow, cs_mul, cs_pow]
  exact ⟨rfl, rfl⟩
omit W in
theorem aff_bd (q : Nat × Nat) : 0 ≤ (aff P u q).1 ∧ (aff P u q).1 < P ∧ 0 ≤ (aff P u q).2 ∧ (aff P u q).2 < P := by
  have hp := H.p1
  have h1 := Nat.mod_lt (q.1 * u ^ 2) (y := P) (by omega)
  have h2 := Nat.mod_lt (q.2 * u ^ 3) (y := P) (by omega)
  simp only [aff]
  omega
omit W in
/-- two whole numbers that the ring cannot tell apart -/
theorem fm_eq (R : Type) [Lean.Grind.CommRing R] [Lean.Grind.IsCharP R P] {e b : Int} (h : cs R e = cs R b) (h0 : 0 ≤ b) (h1 : b < P) : e.fmod P = b := by
  have hp := H.p1
  refine cs_inj (R := R) (P := P) (by rw [cs_fmod, h]) (Int.fmod_nonneg_of_pos _ (by omega)) (Int.fmod_lt_of_pos _ (by omega)) h0 h1
theorem lsum_aff (R : Type) [Lean.Grind.CommRing R] [Lean.Grind.IsCharP R P] {i j : Nat} (hi : i % (T.length + 1) ≠ 0) (hj : j % (T.length + 1) ≠ 0) :
    lsum P a (aff P u (pt T i)).1 (aff P u (pt T i)).2 (aff P u (pt T j)).1 (aff P u (pt T j)).2 = affO T P u (i + j) := by
  have hp := H.p1
  have hri := W.tb.rng i hi
  have hrj := W.tb.rng j hj
  have u2 : IsU (cs R u ^ 2) := (u_U H W).pow2
  have u3 : IsU (cs R u ^ 3) := (u_U H W).pow3
  obtain ⟨cx1, cy1⟩ := aff_R (P := P) (u := u) R (pt T i)
  obtain ⟨cx2, cy2⟩ := aff_R (P := P) (u := u) R (pt T j)
  have injn : ∀ {s t : Nat}, s < P → t < P → cs R s = cs R t → s = t := fun hs ht e => by
    have := cs_inj (R := R) (P := P) e (by omega) (by omega) (by omega) (by omega)
    omega
  have eX : (aff P u (pt T i)).1 = (aff P u (pt T j)).1 ↔ (pt T i).1 = (pt T j).1 := by
    constructor
    · intro e
      have := congrArg (cs R) e
      rw [cx1, cx2] at this
      exact injn hri.1 hrj.1 (u2.can this)
    · intro e; simp only [aff]; rw [e]
  have eY : (aff P u (pt T i)).2 = (aff P u (pt T j)).2 ↔ (pt T i).2 = (pt T j).2 := by
    constructor
    · intro e
      have := congrArg (cs R) e
      rw [cy1, cy2] at this
      exact injn hri.2.2 hrj.2.2 (u3.can this)
    · intro e; simp only [aff]; rw [e]
  unfold lsum affO
  by_cases hs : (i + j) % (T.length + 1) = 0
  · have := sum_inf W hi hj hs
    have hodd := H.odd
    rw [if_pos hs, if_pos ⟨eX.mpr this.1, fun e => by have := eY.mp e; omega⟩]
  · obtain ⟨b1, b2, b3, b4⟩ := aff_bd H (u := u) (pt T (i + j))
    obtain ⟨cx3, cy3⟩ := aff_R (P := P) (u := u) R (pt T (i + j))
    rw [if_neg hs]
    rcases sum_fin W R hi hj hs with ⟨e1, e2, e3⟩ | ⟨e1, e2⟩
    · rw [if_neg (fun h => h.2 (eY.mpr e2))]
      dsimp only
      rw [if_pos (eX.mpr e1), if_pos (eX.mpr e1)]
      rw [← eX.mpr e1]
      have hrun : (2 * (aff P u (pt T i)).2).fmod P ≠ 0 := by
        intro e
        have hU : IsU (cs R (2 * (aff P u (pt T i)).2)) := by
          rw [cs_mul, cs_2, cy1]; exact (two_U H).mul ((y_U H W hi).mul u3)
        rw [← cs_fmod (P := P), e, cs_0] at hU
        exact hU.ne H rfl
      have hiv := inv_R H W R hrun
      rw [cs_mul, cs_2, cy1] at hiv
      have hr := sl_dbl e3 hiv
      have q1 : (((3 * (aff P u (pt T i)).1 * (aff P u (pt T i)).1 + a) * powI ((2 * (aff P u (pt T i)).2).fmod P) ((P : Int) - 2) P).fmod P * ((3 * (aff P u (pt T i)).1 * (aff P u (pt T i)).1 + a) * powI ((2 * (aff P u (pt T i)).2).fmod P) ((P : Int) - 2) P).fmod P - (aff P u (pt T i)).1 - (aff P u (pt T i)).1).fmod P = (aff P u (pt T (i + j))).1 := by
        refine fm_eq H R ?_ b1 b2
        simp only [cs_fmod, cs_mul, cs_sub, cs_add, cs_3, cx1, cx3, a_R W (R := R)]
        exact hr.1
      rw [q1]
      congr 1
      refine Prod.ext rfl ?_
      refine fm_eq H R ?_ b3 b4
      simp only [cs_fmod, cs_mul, cs_sub, cs_add, cs_3, cx1, cx3, cy1, cy3, a_R W (R := R)]
      exact hr.2
    · have hne : ¬ (aff P u (pt T i)).1 = (aff P u (pt T j)).1 := fun e => e1 (eX.mp e)
      rw [if_neg (fun h => hne h.1)]
      dsimp only
      rw [if_neg hne, if_neg hne]
      have hrun : ((aff P u (pt T j)).1 - (aff P u (pt T i)).1).fmod P ≠ 0 := by
        intro e
        have e' : cs R ((aff P u (pt T j)).1 - (aff P u (pt T i)).1) = 0 := by rw [← cs_fmod (P := P), e, cs_0]
        rw [cs_sub, cx1, cx2] at e'
        exact e1 (injn hri.1 hrj.1 (u2.can (ar_0 e')))
      have hiv := inv_R H W R hrun
      rw [cs_sub, cx1, cx2] at hiv
      have hr := sl_add e2 hiv
      have q1 : ((((aff P u (pt T j)).2 - (aff P u (pt T i)).2) * powI (((aff P u (pt T j)).1 - (aff P u (pt T i)).1).fmod P) ((P : Int) - 2) P).fmod P * (((aff P u (pt T j)).2 - (aff P u (pt T i)).2) * powI (((aff P u (pt T j)).1 - (aff P u (pt T i)).1).fmod P) ((P : Int) - 2) P).fmod P - (aff P u (pt T i)).1 - (aff P u (pt T j)).1).fmod P = (aff P u (pt T (i + j))).1 := by
        refine fm_eq H R ?_ b1 b2
        simp only [cs_fmod, cs_mul, cs_sub, cx1, cx2, cx3, cy1, cy2]
        exact hr.1
      rw [q1]
      congr 1
      refine Prod.ext rfl ?_
      refine fm_eq H R ?_ b3 b4
      simp only [cs_fmod, cs_mul, cs_sub, cx1, cx2, cx3, cy1, cy2, cy3]
      exact hr.2
end
end Mine

namespace Mine
section
variable {R : Type} [Lean.Grind.CommRing R]
theorem cv_up {u v a0 c0 X Y : R} (hv : u * v = 1) (h : Y ^ 2 = X ^ 3 + a0 * u ^ 4 * X + c0 * u ^ 6) : (Y * v ^ 3) ^ 2 = (X * v ^ 2) ^ 3 + a0 * (X * v ^ 2) + c0 := by
  have e4 : u ^ 4 * v ^ 4 = 1 := by
    have : u ^ 4 * v ^ 4 = (u * v) ^ 4 := by grind
    rw [this, hv]; grind
  have e6 : u ^ 6 * v ^ 6 = 1 := by
    have : u ^ 6 * v ^ 6 = (u * v) ^ 6 := by grind
    rw [this, hv]; grind
  have : (Y * v ^ 3) ^ 2 = Y ^ 2 * v ^ 6 := by grind
  rw [this, h]
  have : (X ^ 3 + a0 * u ^ 4 * X + c0 * u ^ 6) * v ^ 6 = (X * v ^ 2) ^ 3 + a0 * (X * v ^ 2) * (u ^ 4 * v ^ 4) + c0 * (u ^ 6 * v ^ 6) := by grind
  rw [this, e4, e6]; grind
theorem cv_dn {u a0 c0 x y : R} (h : y ^ 2 = x ^ 3 + a0 * x + c0) : (y * u ^ 3) ^ 2 = (x * u ^ 2) ^ 3 + a0 * u ^ 4 * (x * u ^ 2) + c0 * u ^ 6 := by
  grind
theorem un_2 {u v X : R} (hv : u * v = 1) : X * v ^ 2 * u ^ 2 = X := by
  have : X * v ^ 2 * u ^ 2 = X * (u * v) ^ 2 := by grind
  rw [this, hv]; grind
theorem un_3 {u v X : R} (hv : u * v = 1) : X * v ^ 3 * u ^ 3 = X := by
  have : X * v ^ 3 * u ^ 3 = X * (u * v) ^ 3 := by grind
  rw [this, hv]; grind
end
section
variable {P M : Nat} (H : Pr P M) {a c : Int} {a0 c0 u : Nat} {T : List (Nat × Nat)} (W : Tw P a c a0 c0 u T)
include H W
omit H in
theorem c_R (R : Type) [Lean.Grind.CommRing R] [Lean.Grind.IsCharP R P] : cs R c = cs R c0 * cs R u ^ 6 := by
  rw [W.hc, cs_mod, Int.natCast_mul, Int.natCast_pow, cs_mul, cs_pow]
theorem on_ex (R : Type) [Lean.Grind.CommRing R] [Lean.Grind.IsCharP R P] {X Y : Nat} (hX : X < P) (hY : Y < P) (h : cs R (Y : Int) ^ 2 = cs R (X : Int) ^ 3 + cs R a * cs R (X : Int) + cs R c) : ∃ k, k % (T.length + 1) ≠ 0 ∧ aff P u (pt T k) = ((X : Int), (Y : Int)) := by
  have hp := H.p1
  have hu : ((u : Int)).fmod P ≠ 0 := by rw [fmod_small (by omega) (by have := W.u1; omega)]; have := W.u0; omega
  have hv := inv_R H W R hu
  rw [fmod_small (by omega) (by have := W.u1; omega)] at hv
  obtain ⟨v, hv'⟩ : ∃ v : Nat, powI (u : Int) ((P : Int) - 2) P = (v : Int) := ⟨_, rfl⟩
  rw [hv'] at hv
  rw [a_R W, c_R W R] at h
  have h2 := cv_up hv h
  have e1 : cs R ((Y * v ^ 3 : Nat) : Int) = cs R (Y : Int) * cs R (v : Int) ^ 3 := by rw [Int.natCast_mul, Int.natCast_pow, cs_mul, cs_pow]
  have e2 : cs R ((X * v ^ 2 : Nat) : Int) = cs R (X : Int) * cs R (v : Int) ^ 2 := by rw [Int.natCast_mul, Int.natCast_pow, cs_mul, cs_pow]
  have h3 : (Y * v ^ 3 % P) ^ 2 % P = ((X * v ^ 2 % P) ^ 3 + a0 * (X * v ^ 2 % P) + c0) % P := by
    have e : cs R (((Y * v ^ 3 % P) ^ 2 : Nat) : Int) = cs R ((((X * v ^ 2 % P) ^ 3 + a0 * (X * v ^ 2 % P) + c0) : Nat) : Int) := by
      rw [Int.natCast_pow, cs_pow, cs_mod, e1, Int.natCast_add, Int.natCast_add, Int.natCast_pow, Int.natCast_mul, cs_add, cs_add, cs_pow, cs_mul, cs_mod, e2]
      exact h2
    rw [cs_ext (P := P), ← Int.natCast_emod, ← Int.natCast_emod] at e
    exact Int.ofNat_inj.mp e
  obtain ⟨k, hk, e⟩ := W.tb.all _ _ (Nat.mod_lt _ (by omega)) (Nat.mod_lt _ (by omega)) h3
  refine ⟨k, hk, ?_⟩
  obtain ⟨cx, cy⟩ := aff_R (P := P) (u := u) R (pt T k)
  obtain ⟨b1, b2, b3, b4⟩ := aff_bd H (u := u) (pt T k)
  rw [e] at cx cy b1 b2 b3 b4 ⊢
  rw [cs_mod, e2, un_2 hv] at cx
  rw [cs_mod, e1, un_3 hv] at cy
  exact Prod.ext (cs_inj (R := R) (P := P) cx b1 b2 (by omega) (by omega)) (cs_inj (R := R) (P := P) cy b3 b4 (by omega) (by omega))
omit H in
theorem on_aff (R : Type) [Lean.Grind.CommRing R] [Lean.Grind.IsCharP R P] {k : Nat} (hk : k % (T.length + 1) ≠ 0) : cs R (aff P u (pt T k)).2 ^ 2 = cs R (aff P u (pt T k)).1 ^ 3 + cs R a * cs R (aff P u (pt T k)).1 + cs R c := by
  obtain ⟨cx, cy⟩ := aff_R (P := P) (u := u) R (pt T k)
  rw [cx, cy, a_R W, c_R W R]
  refine cv_dn ?_
  have h := cs_nat (R := R) (P := P) (W.tb.on k hk)
  rw [Int.natCast_pow, cs_pow, Int.natCast_add, Int.natCast_add, Int.natCast_pow, Int.natCast_mul, cs_add, cs_add, cs_pow, cs_mul] at h
  exact h
end
/-- the row of a base, in a table -/
noncomputable def rowL (x y : Int) (ms : List (Int × Int)) : List (Option (Int × Int)) := none :: some (x, y) :: ms.map some
def TabRow (P a c x y : Int) (ms : List (Int × Int)) : Prop :=
  ∃ (Pn M a0 c0 u : Nat) (T : List (Nat × Nat)) (kb : Nat), P = (Pn : Int) ∧ Pr Pn M ∧ Tw Pn a c a0 c0 u T ∧ kb % (T.length + 1) ≠ 0 ∧ (x, y) = aff Pn u (pt T kb) ∧ ∀ i, i < T.length + 1 → (rowL x y ms)[i]? = some (affO T Pn u (i * kb))
/-- the points that the base reaches, in their order -/
structure Orb (P a c x y : Int) (ms : List (Int × Int)) : Prop where
  bd : ∀ q ∈ (x, y) :: ms, 0 ≤ q.1 ∧ q.1 < P ∧ 0 ≤ q.2 ∧ q.2 < P
  len : ms.length + 2 = (lawPts P a c).length
  chain : Chain P a x y ((x, y) :: ms)
  short : ms.length ≤ 60
  tab : TabRow P a c x y ms
noncomputable def msOf (T : List (Nat × Nat)) (P u kb s : Nat) : Nat → List (Int × Int)
  | 0 => []
  | n + 1 => aff P u (pt T (s * kb)) :: msOf T P u kb (s + 1) n
theorem msOf_len {T : List (Nat × Nat)} {P u kb : Nat} : ∀ {n s : Nat}, (msOf T P u kb s n).length = n := by
  intro n
  induction n with
  | zero => intro s; rfl
  | succ n ih => intro s; simp [msOf, ih]
theorem msOf_get {T : List (Nat × Nat)} {P u kb : Nat} : ∀ {n s i : Nat}, i < n → (msOf T P u kb s n)[i]? = some (aff P u (pt T ((s + i) * kb))) := by
  intro n
  induction n with
  | zero => intro s i h; omega
  | succ n ih =>
    intro s i h
    cases i with
    | zero => rfl
    | succ i =>
      rw [msOf, List.getElem?_cons_succ, ih (by omega)]
      congr 4; omega
theorem msOf_bd {P M : Nat} (H : Pr P M) {T : List (Nat × Nat)} {u kb : Nat} : ∀ {n s : Nat}, ∀ q ∈ msOf T P u kb s n, 0 ≤ q.1 ∧ q.1 < (P : Int) ∧ 0 ≤ q.2 ∧ q.2 < (P : Int) := by
  intro n
  induction n with
  | zero => intro s q h; cases h
  | succ n ih =>
    intro s q h
    rcases List.mem_cons.mp h with rfl | h
    · exact aff_bd H _
    · exact ih q h
theorem msOf_chain {P M : Nat} (H : Pr P M) {a c : Int} {a0 c0 u : Nat} {T : List (Nat × Nat)} (W : Tw P a c a0 c0 u T) (R : Type) [Lean.Grind.CommRing R] [Lean.Grind.IsCharP R P] {kb : Nat} (hk : kb % (T.length + 1) ≠ 0) : ∀ {n s : Nat}, s + n = T.length + 1 → 0 < s →
    Chain P a (aff P u (pt T kb)).1 (aff P u (pt T kb)).2 (msOf T P u kb s n) := by
  intro n
  induction n with
  | zero => intro s _ _; trivial
  | succ n ih =>
    intro s hs h0
    refine ⟨?_, ih (by omega) (by omega)⟩
    have hsk : s * kb % (T.length + 1) ≠ 0 := good_mul' W.tb.num (by rw [Nat.mod_eq_of_lt (by omega)]; omega) hk
    rw [lsum_aff H W R hsk hk, ← Nat.succ_mul]
    cases n with
    | zero =>
      have : s.succ = T.length + 1 := by omega
      rw [this]
      simp [affO, msOf]
    | succ n =>
      have : s.succ * kb % (T.length + 1) ≠ 0 := good_mul' W.tb.num (by rw [Nat.mod_eq_of_lt (by omega)]; omega) hk
      simp only [affO, if_neg this, msOf, List.head?_cons]
theorem orb_ex' {P M : Nat} (H : Pr P M) {rs : List (Nat × Nat × List (Nat × Nat))} (hs : swA P M rs P = true) (hr : repsB P rs = true) (hP : P ≤ 31) {a c : Int} (G : GoodC (P : Int) a c) {q : Int × Int} {i : Nat} (h : (lawPts (P : Int) a c)[i]? = some (some q)) : ∃ ms, Orb P a c q.1 q.2 ms := by
  obtain ⟨a0, c0, u, T, W⟩ := tw_ex H hs hr hP G
  have hp := H.p1
  haveI : NeZero P := ⟨by omega⟩
  have hm := List.mem_of_getElem? h
  have hN := good_3 _ W.tb.num
  have ⟨a, ha⟩ : ∃ m : Nat, a = (m : Int) := ⟨_, W.ha⟩
  have ⟨c, hc⟩ : ∃ m : Nat, c = (m : Int) := ⟨_, W.hc⟩
  subst ha hc
  obtain ⟨X, Y, rfl, hX, hY, e⟩ := lawPts_on H hm
  have h1 : cs (Fin P) (Y : Int) ^ 2 = cs (Fin P) (X : Int) ^ 3 + cs (Fin P) (a : Int) * cs (Fin P) (X : Int) + cs (Fin P) (c : Int) := by
    have h := cs_nat (R := Fin P) (P := P) e
    rw [Int.natCast_pow, cs_pow, Int.natCast_add, Int.natCast_add, Int.natCast_pow, Int.natCast_mul, cs_add, cs_add, cs_pow, cs_mul] at h
    exact h
  obtain ⟨kb, hk, e⟩ := on_ex H W (Fin P) hX hY h1
  have ems : ((X : Int), (Y : Int)) :: msOf T P u kb 2 (T.length - 1) = msOf T P u kb 1 T.length := by
    rw [← e]
    obtain ⟨n, hn⟩ : ∃ n, T.length = n + 1 := ⟨T.length - 1, by omega⟩
    rw [hn, Nat.add_sub_cancel]
    simp [msOf]
  refine ⟨msOf T P u kb 2 (T.length - 1), ?_, ?_, ?_, ?_, ?_⟩
  · intro q hq
    rw [ems] at hq
    exact msOf_bd H q hq
  · rw [msOf_len, W.num]; omega
  · rw [ems]
    have := msOf_chain H W (Fin P) hk (n := T.length) (s := 1) (by omega) (by decide)
    rw [e] at this
    exact this
  · rw [msOf_len]; omega
  · refine ⟨P, M, a0, c0, u, T, kb, rfl, H, W, hk, e.symm, fun i hi => ?_⟩
    simp only
    cases i with
    | zero => simp [rowL, affO]
    | succ i =>
      have : rowL (X : Int) (Y : Int) (msOf T P u kb 2 (T.length - 1)) = none :: (msOf T P u kb 1 T.length).map some := by rw [← ems]; rfl
      rw [this, List.getElem?_cons_succ, List.getElem?_map, msOf_get (by omega)]
      have : (i + 1) * kb % (T.length + 1) ≠ 0 := good_mul' W.tb.num (by rw [Nat.mod_eq_of_lt (by omega)]; omega) hk
      simp only [affO, if_neg this, Option.map_some]
      rw [Nat.add_comm 1 i]
theorem orb_ex {P a c : Int} (hP : P = 7 ∨ P = 11 ∨ P = 19 ∨ P = 23 ∨ P = 31) (G : GoodC P a c) {q : Int × Int} {i : Nat} (h : (lawPts P a c)[i]? = some (some q)) : ∃ ms, Orb P a c q.1 q.2 ms := by
  rcases hP with rfl | rfl | rfl | rfl | rfl
  · exact orb_ex' pr7 sw7 tb7 (by decide) G h
  · exact orb_ex' pr11 sw11 tb11 (by decide) G h
  · exact orb_ex' pr19 sw19 tb19 (by decide) G h
  · exact orb_ex' pr23 sw23 tb23 (by decide) G h
  · exact orb_ex' pr31 sw31 tb31 (by decide) G h
end Mine

namespace Mine
section
variable {prog : Program} {w : World} {A : Around} {E : Value → Shared → Prop} {s : Shared} {h₀ : Heap} {L : Addr} {m : Str → Option Value} {env : Env}
def IntCutQ (h₀ : Heap) (L : Addr) (m : Str → Option Value) (nx : List (Addr × Obj)) (s : Shared) (P : Int → Prop) (v : Value) (s' : Shared) : Prop :=
  ∃ x t h' tk', v = .int x t ∧ s' = { s with heap := h', toks := tk' } ∧ Fr h₀ L h' m ∧ News h₀ L h' nx ∧ P x
theorem int_cut {t : Sem Value} {nx : List (Addr × Obj)} {Q : Value → Shared → Prop} (P : Int → Prop) (F : Fr h₀ L s.heap m) (N : News h₀ L s.heap nx) (c : wpAny (model prog w) A t (IntCutQ h₀ L m nx s P) E s)
    (k : ∀ x u h' tk', P x → Fr h₀ L h' m → News h₀ L h' nx → Q (.int x u) { s with heap := h', toks := tk' }) : wpAny (model prog w) A t Q E s :=
  wpAny_mono c (fun v s' ⟨x, u, h', tk', e1, e2, F', N', o⟩ => by subst e1; subst e2; exact k x u h' tk' o F' N') fun _ _ e => e
end
theorem abs_bits {x : Int} (h : Builtin.Int.intBits x ≤ 2 ^ 20) : Builtin.Int.intBits (if x < 0 then -x else x) ≤ 2 ^ 20 := by
  split
  · unfold Builtin.Int.intBits at h ⊢
    rw [Int.natAbs_neg]
    have e : ((-x == 0) : Bool) = (x == 0) := by
      rw [Bool.eq_iff_iff, beq_iff_eq, beq_iff_eq]; omega
    rw [e]; exact h
  · exact h
theorem six_bits {l : List Int} (h : PyData.layable0 (.list (l.map .int)) = true) {k : Int} (h0 : 0 ≤ k) (h1 : k < 6) :
    Builtin.Int.intBits (if k < (l.length : Int) then (if l.getD k.toNat 0 < 0 then -l.getD k.toNat 0 else l.getD k.toNat 0) else 4 * k + 3) ≤ 2 ^ 20 := by
  split
  · exact abs_bits (kbm_getD h (by decide))
  · exact bits_small (by omega) (by omega)
theorem bits_27 {r : Int} (h0 : 0 ≤ r) (h1 : r < 2) : Builtin.Int.intBits (27 + r) ≤ 2 ^ 20 := bits_small (by omega) (by omega)
theorem abs_nn (x : Int) : 0 ≤ (if x < 0 then -x else x) := by split <;> omega
theorem six_nn {l : List Int} {k : Int} (h0 : 0 ≤ k) :
    0 ≤ (if k < (l.length : Int) then (if l.getD k.toNat 0 < 0 then -l.getD k.toNat 0 else l.getD k.toNat 0) else 4 * k + 3) := by
  split
  · exact abs_nn _
  · omega
theorem ints_inv {ys : List Value} {k : Int} {ks : List Int} (h : IntsAre ys (k :: ks)) : ∃ t ys', ys = .int k t :: ys' ∧ IntsAre ys' ks := by
  cases h with | cons _ t h => exact ⟨_, _, rfl, h⟩
theorem ints_nil {ys : List Value} (h : IntsAre ys []) : ys = [] := by cases h; rfl
theorem six {ys : List Value} {l : List Int} (h : PyData.layable0 (.list (l.map .int)) = true)
    (hi : IntsAre ys ((rangeKs 0 (6 - 0 : Int).toNat).map fun k => if k < (l.length : Int) then (if l.getD k.toNat 0 < 0 then -l.getD k.toNat 0 else l.getD k.toNat 0) else 4 * k + 3)) :
    ∃ g0 g1 g2 g3 g4 g5 t0 t1 t2 t3 t4 t5, ys = [.int g0 t0, .int g1 t1, .int g2 t2, .int g3 t3, .int g4 t4, .int g5 t5] ∧
      Builtin.Int.intBits g1 ≤ 2 ^ 20 ∧ Builtin.Int.intBits g3 ≤ 2 ^ 20 ∧ Builtin.Int.intBits g5 ≤ 2 ^ 20 ∧ 0 ≤ g1 ∧ 0 ≤ g3 ∧ 0 ≤ g5 := by
  have e : rangeKs 0 (6 - 0 : Int).toNat = [0, 1, 2, 3, 4, 5] := by decide
  rw [e] at hi
  have b1 := six_bits h (k := 1) (by decide) (by decide)
  have b3 := six_bits h (k := 3) (by decide) (by decide)
  have b5 := six_bits h (k := 5) (by decide) (by decide)
  have n1 := six_nn (l := l) (k := 1) (by decide)
  have n3 := six_nn (l := l) (k := 3) (by decide)
  have n5 := six_nn (l := l) (k := 5) (by decide)
  obtain ⟨t0, y0, e0, hi0⟩ := ints_inv hi
  obtain ⟨t1, y1, e1, hi1⟩ := ints_inv hi0
  obtain ⟨t2, y2, e2, hi2⟩ := ints_inv hi1
  obtain ⟨t3, y3, e3, hi3⟩ := ints_inv hi2
  obtain ⟨t4, y4, e4, hi4⟩ := ints_inv hi3
  obtain ⟨t5, y5, e5, hi5⟩ := ints_inv hi4
  have e6 := ints_nil hi5
  exact ⟨_, _, _, _, _, _, t0, t1, t2, t3, t4, t5, by rw [e0, e1, e2, e3, e4, e5, e6], b1, b3, b5, n1, n3, n5⟩
end Mine
namespace Mine
theorem PtsIn.get {nx : List (Addr × Obj)} {vs : List Value} {os : List (Option (Int × Int))} (h : PtsIn nx vs os) : ∀ {i : Nat} {o : Option (Int × Int)}, os[i]? = some o → ∃ v, vs[i]? = some v ∧ IsPt nx v o := by
  induction h with
  | nil => intro i o e; simp at e
  | cons h _ ih =>
    intro i o e
    cases i with
    | zero => simp only [List.getElem?_cons_zero, Option.some.injEq] at e; subst e; exact ⟨_, rfl, h⟩
    | succ i => simp only [List.getElem?_cons_succ] at e ⊢; exact ih e
section
variable {prog : Program} {w : World} {A : Around} {E : Value → Shared → Prop} {s : Shared}
/-- a point out of a list of points -/
theorem item_pts {value slice : PySem.Expr} {l : Addr} {vs : List Value} {os : List (Option (Int × Int))} {o : Option (Int × Int)} {nx : List (Addr × Obj)} {k : Int} {u : Tok} {Q : Value → Shared → Prop} (hl : s.heap.IsList l vs.toArray) (hi : PtsIn nx vs os)
    (h0 : 0 ≤ k) (hfit : k < 2 ^ 63) (ho : os[k.toNat]? = some o) (h : ∀ v, IsPt nx v o → Q v s)
    (hs : subscripted slice false (.ref l) (.int k u) = operate [.ref l, .int k u] (getItem (.ref l) (.int k u)) := by with_unfolding_all rfl) :
    wpAny (model prog w) A (subscriptTail value slice (.ref l) (.int k u)) Q E s := by
  obtain ⟨v, hx, hv⟩ := hi.get ho
  exact tail_any hl.typeIs slot_list_getitem.lookup (wpAny_getItem_list hl h0 hfit (by simpa using hx) (h v hv)) hs
end
/-- a place of the law's points that is not the first holds a point -/
theorem lawPts_some {p a c : Int} {i : Nat} (h0 : 0 < i) (h1 : i < (lawPts p a c).length) : ∃ q, (lawPts p a c)[i]? = some (some q) := by
  unfold lawPts ptsC at h1 ⊢
  obtain ⟨j, rfl⟩ : ∃ j, i = j + 1 := ⟨i - 1, by omega⟩
  simp only [List.length_cons, List.getElem?_cons_succ] at h1 ⊢
  generalize hX : (List.flatMap _ _) = X at h1 ⊢
  have hall : ∀ o ∈ X, ∃ q, o = some q := by
    intro o ho
    rw [← hX, List.mem_flatMap] at ho
    obtain ⟨k, _, hm⟩ := ho
    unfold ptsAt at hm
    rcases List.mem_append.mp hm with hm | hm
    · split at hm
      · exact ⟨_, List.mem_singleton.mp hm⟩
      · cases hm
    · split at hm
      · rcases List.mem_cons.mp hm with h | h
        · exact ⟨_, h⟩
        · exact ⟨_, List.mem_singleton.mp h⟩
      · cases hm
  have hj : j < X.length := by omega
  obtain ⟨q, hq⟩ := hall _ (List.getElem_mem hj)
  exact ⟨q, by rw [List.getElem?_eq_getElem hj, hq]⟩
end Mine

namespace Mine
theorem primes_get {r : Int} (h0 : 0 ≤ r) (h1 : r < 5) : ([7, 11, 19, 23, 31] : List Int).getD r.toNat 0 = 7 ∨ ([7, 11, 19, 23, 31] : List Int).getD r.toNat 0 = 11 ∨ ([7, 11, 19, 23, 31] : List Int).getD r.toNat 0 = 19 ∨ ([7, 11, 19, 23, 31] : List Int).getD r.toNat 0 = 23 ∨ ([7, 11, 19, 23, 31] : List Int).getD r.toNat 0 = 31 := by
  have : r = 0 ∨ r = 1 ∨ r = 2 ∨ r = 3 ∨ r = 4 := by omega
  rcases this with rfl | rfl | rfl | rfl | rfl <;> decide
theorem pick {P a c r : Int} (h0 : 0 ≤ r) (h1 : r < ((lawPts P a c).length : Int) - 1) (hs : (lawPts P a c).length ≤ 200) : ∃ q, (lawPts P a c)[(1 + r).toNat]? = some (some q) := lawPts_some (by omega) (by omega)
theorem pick_fit {P a c r : Int} (h0 : 0 ≤ r) (h1 : r < ((lawPts P a c).length : Int) - 1) (hs : (lawPts P a c).length ≤ 200) : 0 ≤ 1 + r ∧ 1 + r < 2 ^ 63 := by omega
end Mine

namespace Mine
def DuEnd (h₀ : Heap) (L : Addr) (s : Shared) (x y : Str) (S : List Str) (m₀ : Str → Option Value) (J : Value → List (Addr × Obj) → Prop) (own : List (Addr × Obj)) (s' : Shared) : Prop :=
  ∃ h' tk m' news' nx v, s' = { s with heap := h', toks := tk } ∧ Fr h₀ L h' m' ∧ News h₀ L h' news' ∧ (∀ p ∈ nx, p ∈ news') ∧ (∀ p ∈ own, p ∈ news') ∧ TbOff own nx ∧ m' y = some v ∧ (∀ z, z ≠ x → z ≠ y → S.contains z = false → m' z = m₀ z) ∧ J v nx
def DuPost (h₀ : Heap) (L : Addr) (s : Shared) (x y : Str) (S : List Str) (m₀ : Str → Option Value) (J : Value → List (Addr × Obj) → Prop) (own : List (Addr × Obj)) (Q : Flow → Shared → Prop) (f : Flow) (s' : Shared) : Prop :=
  match f with
  | .ret v => Q (.ret v) s'
  | .brk => Q .next s'
  | _ => DuEnd h₀ L s x y S m₀ J own s'
section
variable {prog : Program} {w : World} {A : Around} {E : Value → Shared → Prop} {s : Shared} {env : Env} {h₀ : Heap} {x : Str} {body : List Stmt} {Q : Flow → Shared → Prop}
/-- a for over a range that keeps a say on the value of one name -/
theorem rng_due {r : Addr} {a₀ b₀ : Int} {t₀ u₀ v₀ : Tok} {n : Nat} {m₀ : Str → Option Value} {news : List (Addr × Obj)} {d₀ : Value} (y : Str) (S : List Str) (J : Nat → Value → List (Addr × Obj) → Prop)
    (hh : A.handled = none) (hr : IsRange s.heap r a₀ b₀ 1 t₀ u₀ v₀) (hsmall : Builtin.Range.small a₀ b₀ 1 = true) (hn : Builtin.Range.rangeSize a₀ b₀ 1 = (n : Int)) (F : Fr h₀ env.locals s.heap m₀) (N : News h₀ env.locals s.heap news) (hxy : x ≠ y) (hd : m₀ y = some d₀) (hj : J 0 d₀ news)
    (turn : ∀ (i : Nat) t (u : Str → Option Value) v nx h tk own, i < n → TbOff own nx → J i v nx → Fr h₀ env.locals h (fun z => if z = x then some (.int (a₀ + (i : Int)) t) else if z = y then some v else if S.contains z then u z else m₀ z) → News h₀ env.locals h (nx ++ own) →
      ∀ K : Flow → Shared → Prop, (∀ s', DuEnd h₀ env.locals s x y S m₀ (J (i + 1)) own s' → K .next s') → wpAny (model prog w) A (execs body env) K E { s with heap := h, toks := tk })
    (done : ∀ (u : Str → Option Value) v nx h tk, J n v nx → Fr h₀ env.locals h (fun z => if z = x then u z else if z = y then some v else if S.contains z then u z else m₀ z) → News h₀ env.locals h nx → Q .next { s with heap := h, toks := tk }) :
    wpAny (model prog w) A (pyIter (.ref r)) (fun it s₂ => LoopAtV prog w A h₀ env x body Q E it s₂) E s := by
  have fr : ∀ (m₁ : Str → Option Value) v, m₁ y = some v → (∀ z, z ≠ x → z ≠ y → S.contains z = false → m₁ z = m₀ z) → ∀ f : Str → Option Value, (fun z => if z = x then f z else m₁ z) = fun z => if z = x then f z else if z = y then some v else if S.contains z then m₁ z else m₀ z := by
    intro m₁ v hv hm f
    funext z
    by_cases h1 : z = x
    · rw [if_pos h1, if_pos h1]
    · rw [if_neg h1, if_neg h1]
      by_cases h3 : z = y
      · rw [if_pos h3, h3, hv]
      rw [if_neg h3]
      cases h2 : S.contains z with
      | true => simp
      | false => simp only [Bool.false_eq_true, if_false]; exact hm z h1 h3 h2
  refine tbr_invG (fun i m nx => ∃ v, m y = some v ∧ J i v nx ∧ ∀ z, z ≠ x → z ≠ y → S.contains z = false → m z = m₀ z) hh hr hsmall hn F N ⟨d₀, hd, hj, fun _ _ _ _ => rfl⟩ ?_ ?_
  · rintro i k t m₁ nx h tk own hk hoff ⟨v, hv, hJ, hm⟩ F₁ N₁
    have hi : i < n := by
      have := List.getElem?_eq_some_iff.mp hk
      obtain ⟨h', _⟩ := this
      simpa [rangeKs] using h'
    have hk' : k = a₀ + (i : Int) := by
      have : (rangeKs a₀ n)[i]? = some (a₀ + (i : Int)) := by simp [rangeKs, hi]
      rw [this] at hk; exact (Option.some.inj hk).symm
    subst hk'
    rw [fr m₁ v hv hm fun _ => some (.int (a₀ + (i : Int)) t)] at F₁
    refine wpAny_mono (turn i t m₁ v nx h tk own hi hoff hJ F₁ N₁ (DuPost h₀ env.locals s x y S m₀ (J (i + 1)) own Q) (fun _ h => h)) (fun f s₂ p => ?_) fun _ _ e => e
    have up : DuEnd h₀ env.locals s x y S m₀ (J (i + 1)) own s₂ → TbEnd h₀ env.locals (fun m nx => ∃ v, m y = some v ∧ J (i + 1) v nx ∧ ∀ z, z ≠ x → z ≠ y → S.contains z = false → m z = m₀ z) own { s with heap := h, toks := tk } s₂ := by
      rintro ⟨h', tk', m', news', nx', v', rfl, F', N', h1, h2, h3, hv', h4, h5⟩
      exact ⟨h', tk', m', news', nx', rfl, F', N', h1, h2, h3, v', hv', h5, h4⟩
    cases f with
    | ret v => exact p
    | brk => exact p
    | next => exact up p
    | cont => exact up p
  · rintro m₁ nx h tk ⟨v, hv, hJ, hm⟩ F₁ N₁
    refine done m₁ v nx h tk hJ ?_ N₁
    have e : m₁ = fun z => if z = x then m₁ z else if z = y then some v else if S.contains z then m₁ z else m₀ z := by
      rw [← fr m₁ v hv hm m₁]
      funext z
      split <;> rfl
    rw [← e]; exact F₁
end
/-- the place in the row is a match for the signature -/
def Hit (P N place second mark : Int) (row : List (Option (Int × Int))) (j : Nat) : Prop :=
  (mark = 27 ∨ mark = 28) ∧ (∃ q : Int × Int, row[j]? = some (some q) ∧ q.1 = place.fmod P ∧ q.2.fmod 2 = mark - 27) ∧ place.fmod N ≠ 0 ∧ second.fmod N ≠ 0
noncomputable def numJ (N place second zz : Int) (j : Int) : Int := ((second * j - zz) * powI (place.fmod N) (N - 2) N).fmod N
/-- what the law waits for, after the places below k -/
def Due (P N place second mark zz : Int) (row : List (Option (Int × Int))) (k : Nat) (v : Value) (nx : List (Addr × Obj)) : Prop :=
  (v = .none ∧ ∀ j, 1 ≤ j → j < k → ¬ Hit P N place second mark row j) ∨
  (∃ (j : Nat) (z : Option (Int × Int)), 1 ≤ j ∧ (j : Int) < N ∧ Hit P N place second mark row j ∧ row[(numJ N place second zz j).toNat]? = some z ∧ IsT2 nx v (plainPt z).1 (plainPt z).2)
theorem Due.mono {P N place second mark zz : Int} {row : List (Option (Int × Int))} {k : Nat} {v : Value} {nx nx' : List (Addr × Obj)} (h : Due P N place second mark zz row k v nx) (hs : ∀ p ∈ nx, p ∈ nx') : Due P N place second mark zz row k v nx' := by
  rcases h with h | ⟨j, z, h1, h2, h3, h4, a, t1, t2, n, e, hm⟩
  · exact .inl h
  · exact .inr ⟨j, z, h1, h2, h3, h4, a, t1, t2, n, e, hs _ hm⟩
theorem Due.start {P N place second mark zz : Int} {row : List (Option (Int × Int))} {nx : List (Addr × Obj)} : Due P N place second mark zz row 1 .none nx := .inl ⟨rfl, fun j h1 h2 => by omega⟩
theorem Due.miss {P N place second mark zz : Int} {row : List (Option (Int × Int))} {k : Nat} {v : Value} {nx : List (Addr × Obj)} (h : Due P N place second mark zz row k v nx) (hn : ¬ Hit P N place second mark row k) : Due P N place second mark zz row (k + 1) v nx := by
  rcases h with ⟨e, h⟩ | h
  · refine .inl ⟨e, fun j h1 h2 => ?_⟩
    rcases Nat.lt_succ_iff_lt_or_eq.mp h2 with h3 | rfl
    · exact h j h1 h3
    · exact hn
  · exact .inr h
end Mine
namespace Mine
theorem du_small {N : Nat} (h : N ≤ 200) : Builtin.Range.small 1 (N : Int) 1 = true := small_one (by omega) (by omega) (by omega) (by omega)
theorem row_get {x y : Int} {ms : List (Int × Int)} {N i : Nat} (hl : ms.length + 2 = N) (hi : i < ((N : Int) - 1).toNat) : ∃ q, (rowL x y ms)[i + 1]? = some (some q) := by
  unfold rowL
  rw [List.getElem?_cons_succ]
  cases i with
  | zero => exact ⟨_, rfl⟩
  | succ i =>
    rw [List.getElem?_cons_succ, List.getElem?_map]
    have : i < ms.length := by omega
    rw [List.getElem?_eq_getElem this]
    exact ⟨_, rfl⟩
theorem idx_get {x y : Int} {ms : List (Int × Int)} {i : Nat} {q : Int × Int} (h : (rowL x y ms)[i + 1]? = some (some q)) : (rowL x y ms)[(1 + (i : Int)).toNat]? = some (some q) := by
  have : (1 + (i : Int)).toNat = i + 1 := by omega
  rw [this]; exact h
theorem idx_fit {N i : Nat} (hN : N ≤ 200) (hi : i < ((N : Int) - 1).toNat) : 0 ≤ 1 + (i : Int) ∧ 1 + (i : Int) < 2 ^ 63 ∧ 1 + (i : Int) < 256 := by omega
end Mine
namespace Mine
theorem mem_up {A B p : Addr × Obj} {t1 t2 t3 : List (Addr × Obj)} (h : p ∈ A :: B :: (t1 ++ t2)) : p ∈ A :: B :: (t1 ++ t2 ++ t3) := by
  rcases List.mem_cons.mp h with h | h
  · exact List.mem_cons.mpr (.inl h)
  rcases List.mem_cons.mp h with h | h
  · exact .tail _ (List.mem_cons.mpr (.inl h))
  · exact .tail _ (.tail _ (List.mem_append.mpr (.inl h)))
end Mine
namespace Mine
section
variable {P N place second mark zz X Y r : Int} {row : List (Option (Int × Int))} {i : Nat}
theorem no_hit_a (h : ([27, 28].any fun x => x == mark) = false) : ¬ Hit P N place second mark row (1 + i) := by
  rintro ⟨h1, _⟩
  simp only [List.any_cons, List.any_nil, Bool.or_false, Bool.or_eq_false_iff, beq_eq_false_iff_ne, ne_eq] at h
  rcases h1 with rfl | rfl
  · exact h.1 rfl
  · exact h.2 rfl
theorem no_hit_b (hXY : row[i + 1]? = some (some (X, Y))) (e : r = place.fmod P) (h : X ≠ r) : ¬ Hit P N place second mark row (1 + i) := by
  rintro ⟨_, ⟨q, h2, h3, _⟩, _⟩
  rw [Nat.add_comm, hXY] at h2
  obtain rfl : (X, Y) = q := Option.some.inj (Option.some.inj h2)
  exact h (by rw [e]; exact h3)
theorem no_hit_c (hXY : row[i + 1]? = some (some (X, Y))) (e : r = Y.fmod 2) (h : r ≠ mark - 27) : ¬ Hit P N place second mark row (1 + i) := by
  rintro ⟨_, ⟨q, h2, _, h3⟩, _⟩
  rw [Nat.add_comm, hXY] at h2
  obtain rfl : (X, Y) = q := Option.some.inj (Option.some.inj h2)
  exact h (by rw [e]; exact h3)
theorem no_hit_d (e : r = place.fmod N) (h : r = 0) : ¬ Hit P N place second mark row (1 + i) := fun h' => h'.2.2.1 (e ▸ h)
theorem no_hit_e (e : r = second.fmod N) (h : r = 0) : ¬ Hit P N place second mark row (1 + i) := fun h' => h'.2.2.2 (e ▸ h)
theorem is_hit {r1 r2 r3 r4 : Int} (hXY : row[i + 1]? = some (some (X, Y))) (h : ([27, 28].any fun x => x == mark) = true) (e1 : r1 = place.fmod P) (h1 : X = r1) (e2 : r2 = Y.fmod 2) (h2 : r2 = mark - 27) (e3 : r3 = place.fmod N) (h3 : r3 ≠ 0) (e4 : r4 = second.fmod N) (h4 : r4 ≠ 0) :
    Hit P N place second mark row (1 + i) := by
  refine ⟨?_, ⟨(X, Y), by rw [Nat.add_comm]; exact hXY, h1.trans e1, by rw [← h2, e2]⟩, e3 ▸ h3, e4 ▸ h4⟩
  simp only [List.any_cons, List.any_nil, Bool.or_false, Bool.or_eq_true, beq_iff_eq] at h
  rcases h with h | h
  · exact .inl h.symm
  · exact .inr h.symm
variable {h₀ h' : Heap} {L : Addr} {s : Shared} {x y : Str} {S : List Str} {m₀ m' : Str → Option Value} {news0 own nx nw : List (Addr × Obj)} {v : Value} {tk : Nat}
theorem du_miss (F : Fr h₀ L h' m') (N' : News h₀ L h' nw) (hnw : ∀ p ∈ nx ++ own, p ∈ nw) (hnx : ∀ p ∈ news0, p ∈ nx) (hoff : TbOff own nx) (hv : m' y = some v) (hm : ∀ z, z ≠ x → z ≠ y → S.contains z = false → m' z = m₀ z)
    (hd : Due P N place second mark zz row (1 + i) v nx) (nh : ¬ Hit P N place second mark row (1 + i)) :
    DuEnd h₀ L s x y S m₀ (fun v nx => (∀ p ∈ news0, p ∈ nx) ∧ Due P N place second mark zz row (1 + (i + 1)) v nx) own { s with heap := h', toks := tk } :=
  ⟨h', tk, m', nw, nx, v, rfl, F, N', fun p hp => hnw p (List.mem_append.mpr (.inl hp)), fun p hp => hnw p (List.mem_append.mpr (.inr hp)), hoff, hv, hm, hnx, hd.miss nh⟩
theorem du_some {a : Addr} {q : Int × Int} {t1 t2 : Tok} {n : Nat} (F : Fr h₀ L h' m') (N' : News h₀ L h' nw) (hnw : ∀ p ∈ nx ++ own, p ∈ nw) (hnx : ∀ p ∈ news0, p ∈ nx) (hoff : TbOff own nx) (hv : m' y = some (.ref a)) (hm : ∀ z, z ≠ x → z ≠ y → S.contains z = false → m' z = m₀ z)
    (hh : Hit P N place second mark row (1 + i)) (hi : ((1 + i : Nat) : Int) < N) (hz : row[(numJ N place second zz ((1 + i : Nat) : Int)).toNat]? = some (some q)) (hmem : (a, tup [.int q.1 t1, .int q.2 t2] n) ∈ nx) :
    DuEnd h₀ L s x y S m₀ (fun v nx => (∀ p ∈ news0, p ∈ nx) ∧ Due P N place second mark zz row (1 + (i + 1)) v nx) own { s with heap := h', toks := tk } :=
  ⟨h', tk, m', nw, nx, .ref a, rfl, F, N', fun p hp => hnw p (List.mem_append.mpr (.inl hp)), fun p hp => hnw p (List.mem_append.mpr (.inr hp)), hoff, hv, hm, hnx, .inr ⟨1 + i, some q, by omega, hi, hh, hz, a, t1, t2, n, rfl, hmem⟩⟩
theorem du_none {a : Addr} {t1 t2 : Tok} {n : Nat} (F : Fr h₀ L h' m') (N' : News h₀ L h' nw) (hnw : ∀ p ∈ nx ++ own, p ∈ nw) (hnx : ∀ p ∈ news0, p ∈ nx) (hoff : TbOff own nx) (hv : m' y = some (.ref a)) (hm : ∀ z, z ≠ x → z ≠ y → S.contains z = false → m' z = m₀ z)
    (hh : Hit P N place second mark row (1 + i)) (hi : ((1 + i : Nat) : Int) < N) (hz : row[(numJ N place second zz ((1 + i : Nat) : Int)).toNat]? = some none) (hmem : (a, tup [.int 0 t1, .int 0 t2] n) ∈ nw) (hlt : ∀ q ∈ own, q.1 ≠ a) :
    DuEnd h₀ L s x y S m₀ (fun v nx => (∀ p ∈ news0, p ∈ nx) ∧ Due P N place second mark zz row (1 + (i + 1)) v nx) own { s with heap := h', toks := tk } := by
  refine ⟨h', tk, m', nw, (a, tup [.int 0 t1, .int 0 t2] n) :: nx, .ref a, rfl, F, N', ?_, fun p hp => hnw p (List.mem_append.mpr (.inr hp)), ?_, hv, hm, fun p hp => .tail _ (hnx p hp), .inr ⟨1 + i, none, by omega, hi, hh, hz, a, t1, t2, n, rfl, .head _⟩⟩
  · intro p hp
    rcases List.mem_cons.mp hp with rfl | hp
    · exact hmem
    · exact hnw p (List.mem_append.mpr (.inl hp))
  · intro q hq b hb
    rcases List.mem_cons.mp hb with rfl | hb
    · exact hlt q hq
    · exact hoff q hq b hb
end
theorem row_any {x y r : Int} {ms : List (Int × Int)} {N : Nat} (hl : ms.length + 2 = N) (h0 : 0 ≤ r) (h1 : r < (N : Int)) : ∃ z, (rowL x y ms)[r.toNat]? = some z := by
  have : r.toNat < (rowL x y ms).length := by simp only [rowL, List.length_cons, List.length_map]; omega
  exact ⟨_, List.getElem?_eq_getElem this⟩
theorem small_fit {r : Int} {N : Nat} (hN : N ≤ 200) (h1 : r < (N : Int)) : r < 2 ^ 63 := by omega
theorem idx_lt {N i : Nat} (hi : i < ((N : Int) - 1).toNat) : ((1 + i : Nat) : Int) < (N : Int) := by omega
end Mine

namespace Mine
theorem endT1 {h₀ h' : Heap} {L : Addr} {m : Str → Option Value} {news : List (Addr × Obj)} {s : Shared} {tk' : Nat} {Q : Value → Shared → Prop} {Out : List (Addr × Obj) → Value → Prop} {d : Addr} {o : Obj} (hret : RetT h₀ L m news s Out Q)
    (F : Fr h₀ L h' m) (N : News h₀ L h' ((d, o) :: news)) (l : ∀ p ∈ news, p.1 < d) (ho : Out [(d, o)] (.ref d)) : Q (.ref d) { s with heap := h', toks := tk' } :=
  endT (tl := [(d, o)]) hret F (ktn_tl1 N) (fun q hq p hp => by rw [List.mem_singleton.mp hp]; exact l q hq) ho
set_option maxRecDepth 100000 in
set_option maxHeartbeats 8000000 in
theorem plT_none (w : World) {news : List (Addr × Obj)} : ConT w 122 news [.none] 1 (fun tl r => ∃ a t1 t2 n, r = .ref a ∧ (a, tup [.int 0 t1, .int 0 t2] n) ∈ tl) := by
  unfold ConT
  w_on
  k_with_none
  k_fill
  k_with "eval Name" => k_dflt (refine nameX_L (by assumption) (by with_unfolding_all exact (rfl : some _ = some _)) ?_)
  intro mean mg mb dp un gd cn cs a' ccd cl outer A₀ base h₀ L m s Q E Bl F Xk Nw T hk hd hu hret
  refine wpAny_call ?_
  k_dflt ktr_enter
  k_steps
  · exact endT1 hret (by k_asm) (by k_asm) (by first | assumption | exact ktn_ltOf (by ktn_lt)) ⟨_, _, _, _, rfl, .head _⟩
end Mine
namespace Mine
theorem num_eq {N place second zz rA rB rC : Int} {i : Nat} (eA : rA = place.fmod N) (eB : rB = powI rA (N - 2) N) (eC : rC = ((second * (1 + (i : Int)) - zz) * rB).fmod N) : numJ N place second zz ((1 + i : Nat) : Int) = rC := by
  subst eA eB eC
  unfold numJ
  rw [Int.natCast_add]
  rfl
theorem frame_keep {x y w : Str} {u m₀ : Str → Option Value} {a b c d : Option Value} : ∀ z, z ≠ x → z ≠ y → [w].contains z = false → (if z = y then a else if z = w then b else if z = x then c else if z = y then d else if [w].contains z then u z else m₀ z) = m₀ z := by
  intro z z1 z2 z3
  have z4 : z ≠ w := by simpa [List.contains_cons] using z3
  rw [if_neg z2, if_neg z4, if_neg z1, if_neg z2, z3]
  rfl
theorem frame_keep0 {x y w : Str} {u m₀ : Str → Option Value} {c d : Option Value} : ∀ z, z ≠ x → z ≠ y → [w].contains z = false → (if z = x then c else if z = y then d else if [w].contains z then u z else m₀ z) = m₀ z := by
  intro z z1 z2 z3
  rw [if_neg z1, if_neg z2, z3]
  rfl
end Mine

section
open Mine
local macro_rules | `(tactic| walk_at "storeName") => `(tactic| k_dflt (refine storeX_let (by k_asm) (by k_asm) ?_; intro h9 m9 F9 N9; (try dsimp only)))
local macro_rules | `(tactic| walk_at "binaryOp Mod int int") => `(tactic| ((with_reducible refine mod_any (by first | assumption | omega) ?_); intro r9 tk9 e9 l9 g9; (try dsimp only)))
local macro_rules | `(tactic| walk_at "call builtin:pow") => `(tactic| ((with_reducible refine pow_call (by assumption) (by assumption) ?_); intro r9 tk9 e9 l9 g9; (try dsimp only)))
local macro_rules | `(tactic| walk_at "compareOp NotIn int ref") => `(tactic| (refine notin_tuple_ints (News.isTup (by assumption) (.head _)) (by repeat constructor) ?_))
namespace Mine
theorem int_text_len {a : Int} (h : a.natAbs < 10 ^ 4300) : (Str.ofString (toString a)).length ≤ 20000 := by
  rw [PyProof.Rows.ofString_len]
  have hl : a.natAbs.log2 < 14285 := by
    rcases Nat.lt_or_ge a.natAbs.log2 14285 with h1 | h1
    · exact h1
    · have h2 : 2 ^ 14285 ≤ a.natAbs := le_of_log2 (by decide) h1
      have h3 : (10 : Nat) ^ 4300 ≤ 2 ^ 14285 := by decide +kernel
      omega
  have := PySem.int_text_length_le (a := a) (k := 14285) (by decide) hl
  omega
section
variable {prog : Program} {w : World} {A : Around} {E : Value → Shared → Prop} {s : Shared} {env : Env}
/-- where the int of an f-string stands -/
def FsQ (Q E : Value → Shared → Prop) (v : Value) (s₁ : Shared) : Prop :=
  ∃ a t, v = .int a t ∧ s₁.heap.NoDigits ∧ (∀ x t' tk, Q (.str x t') { s₁ with toks := tk }) ∧ ∀ h' tk e, Heap.NewExc s₁.heap h' e "ValueError" → E (.ref e) { s₁ with heap := h', toks := tk }
/-- an f-string of one int between two texts: a text, or a ValueError where the int has too many figures -/
theorem fstr3 {c1 c2 : Str} {e : Expr} {p1 p2 p3 pj : Pos} {k1 k3 : Nat} {Q : Value → Shared → Prop} (hh : A.handled = none) (l1 : (Str.empty ++ c1).length ≤ 1000) (l2 : c2.length ≤ 1000)
    (h : wpAny (model prog w) A (eval e env) (FsQ Q E) E { s with toks := s.toks + 1 }) :
    wpAny (model prog w) A (eval (.JoinedStr [.Constant (.str c1) k1 p1, .FormattedValue e (-1) none p2, .Constant (.str c2) k3 p3] pj) env) Q E s := by
  have hsz : (1000000 : Nat) ≤ sizeLine := by rw [sizeLine_eq]; decide
  refine JoinedStr_many (joinParts_cons (Calls.Constant_str ⟨by omega, ?_⟩))
  refine joinParts_cons (FormattedValue_plain (wpAny_mono h (fun v s₁ h₁ => ?_) fun _ _ x => x))
  obtain ⟨a, t, rfl, hn, hQ, hE⟩ := h₁
  refine formatField_int hh hn (fun hlt => ?_) (fun _ h' tk e hx => hE h' tk e hx)
  have hl := int_text_len hlt
  have hl2 : (Str.empty ++ c1 ++ Str.ofString (toString a)).length ≤ 21000 := by
    rw [PySem.Str.length_append]; omega
  refine ⟨by exact Nat.le_trans hl2 (by omega), ?_⟩
  refine joinParts_cons (Calls.Constant_str ⟨?_, ?_⟩)
  · have : (Str.empty ++ c1 ++ Str.ofString (toString a) ++ c2).length ≤ 22000 := by rw [PySem.Str.length_append]; omega
    exact Nat.le_trans this (by omega)
  · exact joinParts_nil (hQ _ _ _) (by
      have : (Str.empty ++ c1 ++ Str.ofString (toString a) ++ c2).length ≤ 22000 := by rw [PySem.Str.length_append]; omega
      exact Nat.le_trans this (by omega))
end
end Mine

namespace Mine
/-- what a call's caller waits for where the call raises a ValueError -/
def ErrT (h₀ : Heap) (L : Addr) (m : Str → Option Value) (base : Heap) (l : List Env) (news : List (Addr × Obj)) (s : Shared) (Err : Prop) (E : Value → Shared → Prop) : Prop :=
  ∀ e g h' tk', Fr h₀ L g m → g.UpToSlots h' → RaisedN base l e (.type "ValueError") news h' → Err → E (.ref e) { s with heap := h', toks := tk' }
theorem RaisedN.drop {base : Heap} {l : List Env} {e : Addr} {cls : Value} {news nx : List (Addr × Obj)} {h : Heap} (R : RaisedN base l e cls nx h) (hs : ∀ p ∈ news, p ∈ nx) : RaisedN base l e cls news h := by
  obtain ⟨B, a0, h1, h2, h3⟩ := R
  exact ⟨B, a0, h1, fun q hq => h2 q (hs q hq), h3⟩
theorem RaisedK.toN {base : Heap} {l : List Env} {e t : Addr} {cls : Value} {vs : List Value} {nx : List (Addr × Obj)} {h : Heap} (R : RaisedK base l e cls t vs nx h) : RaisedN base l e cls nx h := by
  obtain ⟨⟨B, h1, h2, h3, _⟩, _⟩ := R
  exact ⟨B, _, h1, h2, h3⟩
theorem err_N {h₀ g h' : Heap} {L e : Addr} {m : Str → Option Value} {base : Heap} {l : List Env} {news nx : List (Addr × Obj)} {s : Shared} {Err : Prop} {E : Value → Shared → Prop} {tk : Nat} (herr : ErrT h₀ L m base l news s Err E) (F : Fr h₀ L g m) (U : g.UpToSlots h') (R : RaisedN base l e (.type "ValueError") nx h') (hs : ∀ p ∈ news, p ∈ nx) (he : Err) :
    E (.ref e) { s with heap := h', toks := tk } := herr e g h' tk F U (RaisedN.drop R hs) he
theorem err_K {h₀ g h' : Heap} {L e t : Addr} {m : Str → Option Value} {base : Heap} {l : List Env} {vs : List Value} {news nx : List (Addr × Obj)} {s : Shared} {Err : Prop} {E : Value → Shared → Prop} {tk : Nat} (herr : ErrT h₀ L m base l news s Err E) (F : Fr h₀ L g m) (U : g.UpToSlots h') (R : RaisedK base l e (.type "ValueError") t vs nx h') (hs : ∀ p ∈ news, p ∈ nx) (he : Err) :
    E (.ref e) { s with heap := h', toks := tk } := herr e g h' tk F U (RaisedN.drop (RaisedK.toN R) hs) he
/-- what a call's caller waits for, the order of what was made left out -/
def RetW (h₀ : Heap) (L : Addr) (m : Str → Option Value) (news : List (Addr × Obj)) (s : Shared) (Out : List (Addr × Obj) → Value → Prop) (Q : Value → Shared → Prop) : Prop :=
  ∀ r nx h' tk', Fr h₀ L h' m → News h₀ L h' nx → (∀ p ∈ news, p ∈ nx) → Out nx r → Q r { s with heap := h', toks := tk' }
theorem endW {h₀ h' : Heap} {L : Addr} {m : Str → Option Value} {news nx : List (Addr × Obj)} {s : Shared} {tk' : Nat} {Q : Value → Shared → Prop} {Out : List (Addr × Obj) → Value → Prop} {r : Value} (hret : RetW h₀ L m news s Out Q)
    (F : Fr h₀ L h' m) (N : News h₀ L h' nx) (hs : ∀ p ∈ news, p ∈ nx) (ho : Out nx r) : Q r { s with heap := h', toks := tk' } := hret r nx h' tk' F N hs ho
/-- what a call gives back, or raises -/
def ConE (w : World) (f : Addr) (news : List (Addr × Obj)) (vs : List Value) (ct : Nat) (Out : List (Addr × Obj) → Value → Prop) (Err : Prop) : Prop :=
  ∀ (mean : ExcName → Option Value) (mg mb : Str → Option Value) (dp un : Nat) (gd : Option (List Code)) (cn : Str) (cs : Scope) (a : Addr) (ccd : Value) (cl : List (Str × Addr)) (outer : List Env) (A₀ : Around) (base h₀ : Heap) (L : Addr) (m : Str → Option Value) (s : Shared)
    (Q E : Value → Shared → Prop),
    Below A₀ base outer h₀ → Fr h₀ L s.heap m → (Mine.hd.heap_39 w.params).In h₀ → News h₀ L s.heap news → Top Mine.view (looseW Mine.view []) mean mg mb h₀ → cs.kind = .function → dp + ct < recursionLimit → un + 8 * ct < cLine →
    RetW h₀ L m news s Out Q → ErrT h₀ L m base (envX cn cs L a ccd cl :: outer) news s Err E →
    wpAny (model PySem.Challenge.rw_iv0040_01.row.prog w) (ktrTop dp un gd cn cs L a ccd cl outer) (call (.ref f) vs) Q E s
/-- the law's own except, where the law keeps cells -/
theorem caught_C {prog : Program} {w : World} {A₀ : Around} {E : Value → Shared → Prop} {s' : Shared} {h₀ h : Heap} {outer : List Env} {L a e : Addr} {m : Str → Option Value} {name : Str} {scope : Scope} {cd : Value}
    {b₀ : Stmt} {suite : List Stmt} {pos np : Pos} {rest : List ExceptHandler} {Q : Flow → Shared → Prop} {news : List (Addr × Obj)} {p : Program} {loose : List Str} {mg mb : Str → Option Value} {x : Str} {X T' : String}
    (K : Below A₀ h₀ outer h₀) (F : Fr h₀ L h m) (hsm : h.UpToSlots s'.heap) (R : RaisedN h₀ (envOfC name scope L a cd :: outer) e (.type X) news s'.heap)
    (T : TopRead p loose mg mb h₀) (hv : bootBuiltins x = some (.type T'))
    (hexc : isSubtype (.type T') (.type "BaseException") = pure true) (hnt : isSubtype (.type ((Manifest.find? T').elim "type" fun y => y.metatype)) (.type "tuple") = pure false) (hsub : isSubtype (.type X) (.type T') = pure true)
    (k : ∀ h', Fr h₀ L h' m → News h₀ L h' news →
      wpAny (model prog w) ((A₀.deeper (envOfC name scope L a cd)).mark (some (.ref e))) (execs (b₀ :: suite) (envOfC name scope L a cd)) Q (fun _ _ => False) { s' with heap := h' })
    (h1 : x ∉ startupNames := by decide +kernel) (h2 : x ∉ loose := by decide +kernel) (h3 : x ∉ (recsOf p).map (·.name) := by decide +kernel) (h4 : x ∉ (litsOf p).map (·.1) := by decide +kernel) (h4c : x ∉ (clssOf p loose).map (·.name) := by decide +kernel) (hn : x ≠ "__name__" := by decide +kernel)
    (hk : scope.kind = .function := by rfl) (hx : (envOfC name scope L a cd).kindOf x = some .globalImplicit := by rfl) (hd : (x == ("__debug__" : Str)) = false := by decide) :
    wpAny (model prog w) (A₀.deeper (envOfC name scope L a cd)) (noteFrame (.ref e) (envOfC name scope L a cd))
      (fun _ s₂ => wpAny (model prog w) (A₀.deeper (envOfC name scope L a cd)) (setFlight (.ref e) none) (fun _ s₃ =>
        wpAny (model prog w) (A₀.deeper (envOfC name scope L a cd)) (handleBy (.ref e) (envOfC name scope L a cd) (.ExceptHandler (some (.Name x np)) none (b₀ :: suite) pos :: rest)) Q E s₃) E s₂) E s' := by
  obtain ⟨B, a0, hB, hl, hfl⟩ := R
  have hL : B.get? L = none := by
    obtain ⟨_, ⟨L', _, hf, hn', _⟩, _⟩ := hfl.2.2.1
    obtain rfl : L = L' := Option.some.inj hf
    exact hn'
  refine wpAny_looks_onW (Around.frames_deeper K.stack) rfl hfl fun h₄ hheld₄ hsm₄ => ?_
  refine wpAny_landsW hheld₄ fun h₅ hheld hsm₅' => ?_
  have hsm₅ := hsm₄.trans hsm₅'
  have hheld' := flyingW_base hB hheld
  have F₅ := F.of_stays hheld'.1 (hsm.trans hsm₅)
  obtain ⟨ob, hob, hobc⟩ := hheld'.there
  refine wpAny_handleBy_builtin (X := X) (T := T') (b := true) hexc hnt hsub (Calls.Name_function_global hk hx (Calls.loadGlobal_builtin (env := envOfC name scope L a cd) (T.g.keeps F₅.keep) (T.free x h1 h2 h3 h4 h4c) (T.b.keeps F₅.keep) ((T.builtins x hn).trans hv) ⟨rfl, ⟨ob, hob, hobc⟩, ?_⟩) hd)
  refine lands_againW hheld fun h₆ hfl₆ hsm₆ => ?_
  have F₆ := F.of_stays (flyingW_base hB hfl₆).1 ((hsm.trans hsm₅).trans hsm₆)
  exact wpAny_mono (k h₆ F₆ fun q hq => ⟨hfl₆.1 _ _ (hl q hq).1, (fun z => by have := (hl q hq).1; rw [z, hL] at this; cases this), (hl q hq).2⟩) (fun _ _ x => x) fun _ _ x => x.elim
/-- the height that the recovery takes -/
noncomputable def yOf (v beta P : Int) : Int := if v.fmod 2 = beta.fmod 2 then P - beta else beta
/-- the curve's right side at r, and the root that the text takes of it -/
noncomputable def xcOf (P A B r : Int) : Int := (r * r * r + A * r + B).fmod P
noncomputable def btOf (P A B r : Int) : Int := powI (xcOf P A B r) ((P + 1).fdiv 4) P
theorem xor_ne {v be a b r P : Int} (ha : a = v.fmod 2) (hb : b = r.fmod 2) (hr : r = be) (a0 : 0 ≤ a) (a1 : a < 2) (b0 : 0 ≤ b) (b1 : b < 2) (h : Builtin.bitXor a b ≠ 0) : r = yOf v be P := by
  subst hr
  unfold yOf
  rw [← ha, ← hb, if_neg]
  · rintro rfl
    have : a = 0 ∨ a = 1 := by omega
    rcases this with rfl | rfl
    · exact h (by decide +kernel)
    · exact h (by decide +kernel)
theorem xor_eq {v be a b r P : Int} (ha : a = v.fmod 2) (hb : b = r.fmod 2) (hr : r = be) (a0 : 0 ≤ a) (a1 : a < 2) (b0 : 0 ≤ b) (b1 : b < 2) (h : Builtin.bitXor a b = 0) : P - r = yOf v be P := by
  subst hr
  unfold yOf
  rw [← ha, ← hb, if_pos]
  have : a = 0 ∨ a = 1 := by omega
  have : b = 0 ∨ b = 1 := by omega
  rcases ‹a = 0 ∨ a = 1› with rfl | rfl <;> rcases ‹b = 0 ∨ b = 1› with rfl | rfl
  · rfl
  · exact absurd h (by decide +kernel)
  · exact absurd h (by decide +kernel)
  · rfl
theorem yOf_bd {v be P : Int} (h0 : 0 ≤ be) (h1 : be < P) : 0 ≤ yOf v be P ∧ yOf v be P ≤ P := by
  unfold yOf; split <;> omega
/-- the signatures that the recovery turns away -/
def BadSig (P N A B v r s : Int) : Prop := ¬ (v = 27 ∨ v = 28) ∨ (xcOf P A B r - yOf v (btOf P A B r) P * yOf v (btOf P A B r) P).fmod P ≠ 0 ∨ r.fmod N = 0 ∨ s.fmod N = 0
theorem bad_v {P N A B v r s : Int} (h : ([27, 28].any fun x => x == v) = false) : BadSig P N A B v r s := by
  refine .inl fun h1 => ?_
  simp only [List.any_cons, List.any_nil, Bool.or_false, Bool.or_eq_false_iff, beq_eq_false_iff_ne, ne_eq] at h
  rcases h1 with rfl | rfl
  · exact h.1 rfl
  · exact h.2 rfl
theorem bad_y {P N A B v r s y q : Int} (ey : y = yOf v (btOf P A B r) P) (e : q = (xcOf P A B r - y * y).fmod P) (h : q ≠ 0) : BadSig P N A B v r s := .inr (.inl (by subst ey e; exact h))
theorem bad_r {P N A B v r s q : Int} (e : q = r.fmod N) (h : q = 0) : BadSig P N A B v r s := .inr (.inr (.inl (e ▸ h)))
theorem bad_s {P N A B v r s q : Int} (e : q = s.fmod N) (h : q = 0) : BadSig P N A B v r s := .inr (.inr (.inr (e ▸ h)))
/-- what the recovery gives back -/
def RecOut (P N A B Gx Gy v r s z : Int) (nx : List (Addr × Obj)) (w : Value) : Prop :=
  ∃ iv zi X Y Z, ¬ BadSig P N A B v r s ∧ InvOf r N iv ∧ jmul P A N (jadd P A (jmul P A N (Gx, Gy, 1) 7 ((N - z).fmod N)) (jmul P A N (r, yOf v (btOf P A B r) P, 1) 7 s)) 7 iv = (X, Y, Z) ∧ InvOf Z P zi ∧ IsT2 nx w ((X * zi ^ 2).fmod P) ((Y * zi ^ 3).fmod P)
theorem not_bad {P N A B v r s y q qs : Int} (hv : v = 27 ∨ v = 28) (ey : y = yOf v (btOf P A B r) P) (e : q = (xcOf P A B r - y * y).fmod P) (h : q = 0) (hr : r.fmod N ≠ 0) (es : qs = s.fmod N) (hs : qs ≠ 0) : ¬ BadSig P N A B v r s := by
  subst ey e es
  rintro (h1 | h1 | h1 | h1)
  · exact h1 hv
  · exact h1 h
  · exact hr h1
  · exact hs h1
theorem not_out {v : Int} (h : ([27, 28].any fun x => x == v) = true) : v = 27 ∨ v = 28 := by
  simp only [List.any_cons, List.any_nil, Bool.or_false, Bool.or_eq_true, beq_iff_eq] at h
  rcases h with h | h
  · exact .inl h.symm
  · exact .inr h.symm
set_option maxRecDepth 100000 in
set_option maxHeartbeats 8000000 in
theorem er_con (w : World) {news : List (Addr × Obj)} {b : Array UInt8} {bt : Tok} {ks : List Int} {vv cc : Value} {P N A B Gx Gy v r s₀ : Int} (hr : Builtin.Int.intBits r ≤ 2 ^ 20) (hks : KBw.bInts b = ks) (hkl : ks.length ≤ 5) (hv : IsT3 news vv v r s₀) (hc : IsCv news cc P N A B Gx Gy) (ok : OkC P A) (hN : 1 < N) (hN' : N < 64)
    (hP4 : 0 ≤ (P + 1).fdiv 4) (hP1 : 1 < P) (okG : OkT Gx Gy 1) (hcop : r.fmod N ≠ 0 → Int.gcd r N = 1)
    (hcz : ∀ y m k n x' y' z', jmul P A N (jadd P A (jmul P A N (Gx, Gy, 1) 7 m) (jmul P A N (r, y, 1) 7 k)) 7 n = (x', y', z') → z' ≠ 0 → Int.gcd z' P = 1) :
    ConE w 70 news [.bytes b bt, vv, cc] 12 (RecOut P N A B Gx Gy v r s₀ (bval ks)) (BadSig P N A B v r s₀) := by
  obtain ⟨va, vt1, vt2, vt3, vn, rfl, vm⟩ := hv
  obtain ⟨ca, ct1, ct2, ct3, ct4, ct5, ct6, cn6, rfl, cm⟩ := hc
  have hP0 := ok.hP0
  have hN0 : 0 < N := by omega
  unfold ConE
  w_on
  k_with_none
  k_fill
  k_with "eval Name" => k_dflt (refine nameX_L (by assumption) (by with_unfolding_all exact (rfl : some _ = some _)) ?_)
  intro mean mg mb dp un gd cn cs a' ccd cl outer A₀ base h₀ L m s Q E Bl F Xk Nw T hk hd hu hret herr
  refine wpAny_call ?_
  k_dflt ktr_enter
  refine with_A ?_
  intro aw
  refine with_env ?_
  intro ew
  rename Fr _ _ _ _ => F8
  revert F8
  refine fr_let ?_
  intro m8 F8
  have hAb : Builtin.Int.intBits A ≤ 2 ^ 20 := bits_small ok.hA0 ok.hA
  k_with "eval IfExp" => refine Hold.out ?_
  k_with "eval JoinedStr" => refine Hold.out ?_
  k_with "call ref" => refine Hold.out ?_
  k_with "call builtin:pow" => refine Hold.out ?_
  k_steps
  · refine Hold.mk ?_
    rename Fr _ _ _ (fun z => ite (z = Str.ofString "beta") _ _) => F9
    rename News _ _ _ (_ :: news) => N9
    rename _ = powI _ _ _ => eB
    rename _ = Int.fmod _ P => eX
    subst eX
    have eB' : _ = btOf P A B r := eB
    have lB : 0 ≤ btOf P A B r := by rw [← eB']; assumption
    have gB : btOf P A B r < P := by rw [← eB']; assumption
    have hv' : v = 27 ∨ v = 28 := not_out (by assumption)
    refine int_cut (fun y => y = yOf v (btOf P A B r) P) F9 N9 ?_ ?_
    · k_with_none
      k_with "eval Name" => k_dflt (refine nameX_L (by assumption) (by with_unfolding_all exact (rfl : some _ = some _)) ?_)
      k_steps
      · exact ⟨_, _, _, _, rfl, rfl, by assumption, by assumption, xor_ne (by assumption) (by assumption) eB' (by assumption) (by assumption) (by assumption) (by assumption) (by assumption)⟩
      · exact ⟨_, _, _, _, rfl, rfl, by assumption, by assumption, xor_eq (by assumption) (by assumption) eB' (by assumption) (by assumption) (by assumption) (by assumption) (by assumption)⟩
    intro y yt hy tky ey Fy Ny
    have hyb : 0 ≤ y ∧ y ≤ P := by rw [ey]; exact yOf_bd lB gB
    have hy0 := hyb.1
    have hy1 : y < 65 := Int.lt_of_le_of_lt hyb.2 (Int.lt_trans ok.hP (by decide))
    have hyB : Builtin.Int.intBits y ≤ 2 ^ 20 := Nat.le_trans (PySem.intBits_le_64 (Int.lt_of_lt_of_le (by decide) hy0) (Int.lt_trans hy1 (by decide))) (by decide)
    k_with_none
    k_with "eval Name" => k_dflt (refine nameX_L (by assumption) (by with_unfolding_all exact (rfl : some _ = some _)) ?_)
    k_with "eval JoinedStr" => refine Hold.out ?_
    k_with "call ref" => refine Hold.out ?_
    k_steps
    all_goals refine Hold.mk ?_
    all_goals first
      | (refine fstr3 (by rfl) (by decide +kernel) (by decide +kernel) ?_
         have hbad : BadSig P N A B v r s₀ := by first | exact bad_y ey (by assumption) (by assumption) | exact bad_r (by assumption) (by assumption) | exact bad_s (by assumption) (by assumption)
         k_steps
         refine ⟨_, _, rfl, by first | exact Heap.NoDigits.keeps (Top.nodigits (by assumption)) (Fr.keep (by assumption)) | exact noDigits_of (by assumption) (by assumption), ?_, ?_⟩
         · intro xs ts tks
           k_steps
           exact err_K herr (by assumption) (by assumption) (by assumption) (fun p hp => .tail _ hp) hbad
         · intro hE tkE eE nE
           k_steps
           exact err_N herr (by assumption) (by assumption) (by assumption) (fun p hp => .tail _ hp) hbad)
      | skip
    have hc0 : IsCv news (.ref ca) P N A B Gx Gy := ⟨ca, ct1, ct2, ct3, ct4, ct5, ct6, cn6, rfl, cm⟩
    rename _ = r.fmod N => erN
    have hcr : r.fmod N ≠ 0 := by rw [← erN]; assumption
    have hfit : ∀ n, Fit N 7 n := fun n => .inr ⟨Int.le_of_lt hN', by decide⟩
    ktr_call 28 (bti_con _ hks hkl)
    rintro r1 tl1 h1 tk1 F1 N1 l1 ⟨zt, rfl⟩
    simp only [List.cons_append] at N1
    k_steps
    refine Hold.mk ?_
    refine cut_K ?_
    intro KB hvb
    ktr_call 63 (jm_con _ ok okG hN0 hN' 7 ⟨_, _, _, _, _, rfl, .head _⟩ (hc0.mono (by repeat' first | exact sub_r | apply sub_cc | apply sub_a | apply sub_c)) (hfit _))
    rintro r2 tl2 h2 tk2 F2 N2 l2 ⟨x2, y2, z2, i2, ok2, e2⟩
    refine hvb _ _ ?_
    clear hvb KB
    simp only [List.cons_append] at N2 i2
    k_steps
    refine Hold.mk ?_
    refine cut_K ?_
    intro KB hvb
    have okR : OkT r y 1 := ⟨hr, hy0, Int.le_of_lt_add_one hy1, by decide, by decide⟩
    ktr_call 63 (jm_con _ ok okR hN0 hN' 7 ⟨_, _, _, _, _, rfl, .head _⟩ (hc0.mono (by repeat' first | exact sub_r | apply sub_cc | apply sub_a | apply sub_c)) (hfit _))
    rintro r3 tl3 h3 tk3 F3 N3 l3 ⟨x3, y3, z3, i3, ok3, e3⟩
    refine hvb _ _ ?_
    clear hvb KB
    simp only [List.cons_append] at N3 i3
    k_steps
    refine Hold.mk ?_
    refine cut_K ?_
    intro KB hvb
    ktr_call 49 (ja_con' _ (i2.mono (by repeat' first | exact sub_r | apply sub_cc | apply sub_a | apply sub_c)) i3 (hc0.mono (by repeat' first | exact sub_r | apply sub_cc | apply sub_a | apply sub_c)) ok ok2 ok3)
    rintro r4 tl4 h4 tk4 F4 N4 l4 ⟨x4, y4, z4, i4, ok4, e4⟩
    refine hvb _ _ ?_
    clear hvb KB
    simp only [List.cons_append] at N4 i4
    k_steps
    refine Hold.mk ?_
    refine cut_K ?_
    intro KB hvb
    ktr_call 35 (inv_con _ hN hN' (fun _ => hcop hcr))
    rintro r5 tl5 h5 tk5 F5 N5 l5 ⟨iv, ivt, rfl, hiv⟩
    refine hvb _ _ ?_
    clear hvb KB
    simp only [List.cons_append] at N5
    k_steps
    refine Hold.mk ?_
    refine cut_K ?_
    intro KB hvb
    ktr_call 63 (jm_con _ ok ok4 hN0 hN' 7 (i4.mono (by repeat' first | exact sub_r | apply sub_cc | apply sub_a | apply sub_c)) (hc0.mono (by repeat' first | exact sub_r | apply sub_cc | apply sub_a | apply sub_c)) (hfit _))
    rintro r6 tl6 h6 tk6 F6 N6 l6 ⟨x6, y6, z6, i6, ok6, e6⟩
    refine hvb _ _ ?_
    clear hvb KB
    simp only [List.cons_append] at N6 i6
    k_steps
    refine Hold.mk ?_
    refine cut_K ?_
    intro KB hvb
    ktr_call 56 (fj_con _ i6 (hc0.mono (by repeat' first | exact sub_r | apply sub_cc | apply sub_a | apply sub_c)) ok ok6 hP1 (hcz _ _ _ _ _ _ _ (by rw [e2, e3, e4]; exact e6)))
    rintro r7 tl7 h7 tk7 F7 N7 l7 ⟨zi, hzi, i7⟩
    refine hvb _ _ ?_
    clear hvb KB
    simp only [List.cons_append] at N7 i7
    k_steps
    refine endW hret (by k_asm) (by k_asm) (by repeat' first | exact sub_r | apply sub_cc | apply sub_a | apply sub_c) ⟨iv, zi, x6, y6, z6, not_bad hv' ey (by assumption) (by assumption) hcr (by assumption) (by assumption), hiv, ?_, hzi, i7⟩
    rename _ = Int.fmod (N - _) N => ez
    rw [← ey, ← ez, e2, e3, e4, e6]
  · refine Hold.mk ?_
    refine fstr3 (by rfl) (by decide +kernel) (by decide +kernel) ?_
    k_steps
    refine ⟨_, _, rfl, by first | exact Heap.NoDigits.keeps (Top.nodigits (by assumption)) (Fr.keep (by assumption)) | exact noDigits_of (by assumption) (by assumption), ?_, ?_⟩
    · intro xs ts tks
      k_steps
      exact err_K herr (by assumption) (by assumption) (by assumption) (fun p hp => .tail _ hp) (bad_v (by assumption))
    · intro hE tkE eE nE
      k_steps
      exact err_N herr (by assumption) (by assumption) (by assumption) (fun p hp => .tail _ hp) (bad_v (by assumption))
end Mine

namespace Mine
theorem con_useE {w : World} {f : Addr} {news : List (Addr × Obj)} {vs : List Value} {ct : Nat} {Out : List (Addr × Obj) → Value → Prop} {Err : Prop} {mean : ExcName → Option Value} {mg mb : Str → Option Value} {dp un : Nat} {gd : Option (List Code)} {cn : Str} {cs : Scope} {a : Addr} {ccd : Value} {cl : List (Str × Addr)} {outer : List Env} {A₀ : Around} {base h₀ : Heap} {L : Addr} {m : Str → Option Value} {s : Shared}
    {Q E : Value → Shared → Prop} (F : Fr h₀ L s.heap m) (N : News h₀ L s.heap news) (B : Below A₀ base outer h₀) (X : (Mine.hd.heap_39 w.params).In h₀) (T : Top Mine.view (looseW Mine.view []) mean mg mb h₀) (C : ConE w f news vs ct Out Err) (hk : cs.kind = .function) (hd : dp + ct < recursionLimit) (hu : un + 8 * ct < cLine)
    (ret : RetW h₀ L m news s Out Q) (err : ErrT h₀ L m base (envX cn cs L a ccd cl :: outer) news s Err E) :
    wpAny (model PySem.Challenge.rw_iv0040_01.row.prog w) (ktrTop dp un gd cn cs L a ccd cl outer) (call (.ref f) vs) Q E s := C _ _ _ _ _ _ _ _ _ _ _ _ _ _ _ _ _ _ Q E B F X N T hk hd hu ret err
end Mine

namespace Mine
theorem gcd_1 {z n w : Int} (h : z * w % n = 1) : Int.gcd z n = 1 := by
  have h1 : ((Int.gcd z n : Nat) : Int) ∣ z := Int.gcd_dvd_left ..
  have h2 : ((Int.gcd z n : Nat) : Int) ∣ n := Int.gcd_dvd_right ..
  have h3 : ((Int.gcd z n : Nat) : Int) ∣ 1 := by
    have e : z * w - n * (z * w / n) = 1 := by rw [← h, Int.emod_def]
    rw [← e]
    exact Int.dvd_sub (Int.dvd_mul_of_dvd_left h1) (Int.dvd_mul_of_dvd_left h2)
  have h4 : (Int.gcd z n : Nat) ∣ 1 := Int.ofNat_dvd.mp h3
  exact Nat.dvd_one.mp h4
theorem pow_bd {b e m : Int} (hm : 1 < m) : 0 ≤ powI b e m ∧ powI b e m < m := by
  have hl := powMod_lt (b := (b % m).toNat) (e := e.natAbs) (m := m.natAbs) (by omega)
  unfold powI
  omega
theorem bt_bd {P A B r : Int} (h : 1 < P) : 0 ≤ btOf P A B r ∧ btOf P A B r < P := pow_bd h
theorem y_par {v be P : Int} (hv : v = 27 ∨ v = 28) (hP : P % 2 = 1) : (yOf v be P).fmod 2 = v - 27 := by
  unfold yOf
  rw [Int.fmod_eq_emod_of_nonneg _ (by decide), Int.fmod_eq_emod_of_nonneg _ (by decide), Int.fmod_eq_emod_of_nonneg _ (by decide)]
  rcases hv with rfl | rfl
  · split <;> omega
  · split <;> omega
/-- the third of a triple is small -/
def Zs (P : Int) (t : Int × Int × Int) : Prop := 0 ≤ t.2.2 ∧ t.2.2 < P
theorem dbl_z {P A : Int} (hP : 1 < P) (t : Int × Int × Int) : Zs P (jdbl P A t) := by
  unfold jdbl Zs
  split
  · simp only; omega
  · exact ⟨Int.fmod_nonneg_of_pos _ (by omega), Int.fmod_lt_of_pos _ (by omega)⟩
theorem add_z {P A : Int} (hP : 1 < P) {t t' : Int × Int × Int} (h : Zs P t) (h' : Zs P t') : Zs P (jadd P A t t') := by
  have hd := dbl_z (A := A) hP t
  unfold jadd
  split
  · exact h'
  split
  · exact h
  dsimp only
  split
  · split
    · exact hd
    · exact ⟨by simp, by simp only; omega⟩
  · exact ⟨Int.fmod_nonneg_of_pos _ (by omega), Int.fmod_lt_of_pos _ (by omega)⟩
theorem mul_z {P A N : Int} (hP : 1 < P) {t : Int × Int × Int} (h : Zs P t) : ∀ (k : Nat) (n : Int), Zs P (jmul P A N t k n) := by
  intro k
  induction k with
  | zero => intro n; exact h
  | succ k ih =>
    intro n
    rw [k_open]
    split
    · exact ⟨by simp, by simp only; omega⟩
    split
    · exact h
    split
    · exact ih _
    split
    · exact dbl_z hP _
    · exact add_z hP (dbl_z hP _) h
section
variable {P M : Nat} (H : Pr P M)
include H
theorem gcd_P {z : Int} (h0 : 0 ≤ z) (h1 : z < P) (hz : z ≠ 0) : Int.gcd z P = 1 := by
  obtain ⟨m, rfl⟩ : ∃ m : Nat, z = (m : Int) := ⟨z.toNat, by omega⟩
  exact gcd_1 (H.inv m (by omega) (by omega))
theorem hcz_P {A N r Gx Gy : Int} : ∀ y m k n x' y' z', jmul P A N (jadd P A (jmul P A N (Gx, Gy, 1) 7 m) (jmul P A N (r, y, 1) 7 k)) 7 n = (x', y', z') → z' ≠ 0 → Int.gcd z' P = 1 := by
  intro y m k n x' y' z' e hz
  have hp := H.p1
  have hP : (1 : Int) < P := by omega
  have h1 : ∀ x y : Int, Zs P (x, y, 1) := fun x y => ⟨by simp, by simp only; omega⟩
  have := mul_z (A := A) (N := N) hP (add_z (A := A) hP (mul_z (A := A) (N := N) hP (h1 Gx Gy) 7 m) (mul_z (A := A) (N := N) hP (h1 r y) 7 k)) 7 n
  rw [e] at this
  exact gcd_P H this.1 this.2 hz
end
theorem good_r {n : Nat} (hn : n ∈ goodNs) {r : Int} (h : r.fmod n ≠ 0) : (r.fmod n) * powI (r.fmod n) ((n : Int) - 2) n % (n : Int) = 1 := by
  have := good_3 n hn
  have h0 := Int.fmod_nonneg_of_pos r (b := (n : Int)) (by omega)
  have h1 := Int.fmod_lt_of_pos r (b := (n : Int)) (by omega)
  obtain ⟨m, hm⟩ : ∃ m : Nat, r.fmod n = (m : Int) := ⟨(r.fmod n).toNat, by omega⟩
  rw [hm] at h h0 h1 ⊢
  exact good_inv n hn m (by omega) (by omega)
theorem gcd_N {n : Nat} (hn : n ∈ goodNs) {r : Int} (h : r.fmod n ≠ 0) : Int.gcd r n = 1 := by
  have h1 := good_r hn h
  refine gcd_1 (w := powI (r.fmod n) ((n : Int) - 2) n) ?_
  rw [Int.fmod_eq_emod_of_nonneg r (by omega)] at h1 ⊢
  rw [Int.mul_emod, Int.emod_emod, ← Int.mul_emod] at h1
  exact h1
/-- each index is reached from each -/
theorem reach {n : Nat} (hn : n ∈ goodNs) {k kb : Nat} (hk : k % n ≠ 0) (hb : kb % n ≠ 0) : ∃ j, 1 ≤ j ∧ j < n ∧ j * kb % n = k % n := by
  have h3 := good_3 n hn
  have hn0 : 0 < n := by omega
  have h1 := good_inv n hn (kb % n) (Nat.mod_lt _ hn0) hb
  obtain ⟨w, hw⟩ : ∃ w : Nat, powI ((kb % n : Nat) : Int) ((n : Int) - 2) n = (w : Int) := ⟨_, rfl⟩
  rw [hw] at h1
  have h2 : kb % n * w % n = 1 := by
    have : (((kb % n * w % n : Nat)) : Int) = 1 := by rw [Int.natCast_emod, Int.natCast_mul]; exact h1
    omega
  have e : k * w % n * kb % n = k % n := by
    rw [Nat.mod_mul_mod]
    have : k * w * kb = k * (kb * w) := by rw [Nat.mul_assoc, Nat.mul_comm w kb]
    rw [this, Nat.mul_mod, ← Nat.mod_mul_mod kb, h2, Nat.mul_one, Nat.mod_mod]
  refine ⟨k * w % n, ?_, Nat.mod_lt _ hn0, e⟩
  rcases Nat.eq_zero_or_pos (k * w % n) with h | h
  · rw [h, Nat.zero_mul, Nat.zero_mod] at e; omega
  · exact h
section
variable {P M : Nat} (H : Pr P M) {a c : Int} {a0 c0 u : Nat} {T : List (Nat × Nat)} (W : Tw P a c a0 c0 u T) (R : Type) [Lean.Grind.CommRing R] [Lean.Grind.IsCharP R P]
include H W
omit H W in
theorem xc_R {r : Int} : cs R (xcOf P a c r) = cs R r ^ 3 + cs R a * cs R r + cs R c := by
  unfold xcOf
  rw [cs_fmod, cs_add, cs_add, cs_mul, cs_mul, cs_mul]
  have : cs R r * cs R r * cs R r = cs R r ^ 3 := by grind
  rw [this]
omit W in
theorem xc_bd {r : Int} : 0 ≤ xcOf P a c r ∧ xcOf P a c r < P := by
  have hp := H.p1
  exact ⟨Int.fmod_nonneg_of_pos _ (by omega), Int.fmod_lt_of_pos _ (by omega)⟩
omit H W in
theorem y_sq {v r : Int} : cs R (yOf v (btOf P a c r) P) ^ 2 = cs R (btOf P a c r) ^ 2 := by
  unfold yOf
  split
  · rw [cs_sub, cs_P (P := P)]
    have : ∀ b : R, (0 - b) ^ 2 = b ^ 2 := fun b => by grind
    exact this _
  · rfl
/-- a point of the curve above r: the root is a root -/
theorem root_ok {k : Nat} {v r : Int} (hk : k % (T.length + 1) ≠ 0) (hx : (aff P u (pt T k)).1 = r.fmod P) : cs R (yOf v (btOf P a c r) P) ^ 2 = cs R (xcOf P a c r) := by
  have hp := H.p1
  have ho := on_aff W R hk
  have e1 : cs R (aff P u (pt T k)).2 ^ 2 = cs R (xcOf P a c r) := by
    rw [ho, hx, cs_fmod, xc_R]
  obtain ⟨b1, b2, b3, b4⟩ := aff_bd H (u := u) (pt T k)
  obtain ⟨Y, hY⟩ : ∃ Y : Nat, (aff P u (pt T k)).2 = (Y : Int) := ⟨(aff P u (pt T k)).2.toNat, by omega⟩
  rw [hY] at e1 b3 b4
  obtain ⟨x0, x1⟩ := xc_bd H (a := a) (c := c) (r := r)
  have e2 : xcOf P a c r = ((Y ^ 2 % P : Nat) : Int) := by
    have hm := Nat.mod_lt (Y ^ 2) (y := P) (by omega)
    refine cs_inj (R := R) (P := P) ?_ x0 x1 (by omega) (by omega)
    rw [cs_mod, Int.natCast_pow, cs_pow, e1]
  rw [y_sq R, ← cs_pow, cs_ext (P := P)]
  have hr := H.root Y (by omega)
  unfold btOf
  rw [e2, hr, Int.emod_eq_of_lt (by omega) (by have hm := Nat.mod_lt (Y ^ 2) (y := P) (by omega); omega)]
end
/-- the signatures that are turned away match no place of the row -/
theorem bad_no {P a c x y : Int} {ms : List (Int × Int)} (TR : TabRow P a c x y ms) {v r s : Int} (hb : BadSig P ((lawPts P a c).length : Int) a c v r s) : ∀ j : Nat, (j : Int) < ((lawPts P a c).length : Int) → ¬ Hit P ((lawPts P a c).length : Int) r s v (rowL x y ms) j := by
  obtain ⟨Pn, M, a0, c0, u, T, kb, rfl, H, W, hk, exy, hrow⟩ := TR
  have hp := H.p1
  haveI : NeZero Pn := ⟨by omega⟩
  intro j hj
  rw [W.num] at hj hb ⊢
  rintro ⟨h1, ⟨q, h2, h3, h4⟩, h5, h6⟩
  rw [hrow j (by omega)] at h2
  have h7 := Option.some.inj h2
  unfold affO at h7
  split at h7
  · cases h7
  rename_i h8
  have h9 := Option.some.inj h7
  rcases hb with hb | hb | hb | hb
  · exact hb h1
  · apply hb
    rw [← h9] at h3
    have := root_ok H W (Fin Pn) (v := v) h8 h3
    refine fm_eq H (Fin Pn) ?_ (by decide) (by omega)
    rw [cs_sub, cs_mul, cs_0, ← this]
    have : ∀ b : Fin Pn, b ^ 2 - b * b = 0 := fun b => by grind
    exact this _
  · exact h5 hb
  · exact h6 hb
theorem not_bad_all {P N A B v r s : Int} (h : ¬ BadSig P N A B v r s) : (v = 27 ∨ v = 28) ∧ (xcOf P A B r - yOf v (btOf P A B r) P * yOf v (btOf P A B r) P).fmod P = 0 ∧ r.fmod N ≠ 0 ∧ s.fmod N ≠ 0 := by
  unfold BadSig at h
  refine ⟨?_, ?_, ?_, ?_⟩
  · exact Classical.byContradiction fun h' => h (.inl h')
  · exact Classical.byContradiction fun h' => h (.inr (.inl h'))
  · exact fun h' => h (.inr (.inr (.inl h')))
  · exact fun h' => h (.inr (.inr (.inr h')))
theorem y_R {P : Nat} (R : Type) [Lean.Grind.CommRing R] [Lean.Grind.IsCharP R P] {a c v r : Int} (h : (xcOf P a c r - yOf v (btOf P a c r) P * yOf v (btOf P a c r) P).fmod P = 0) : cs R (yOf v (btOf P a c r) P) ^ 2 = cs R (xcOf P a c r) := by
  have e : cs R (xcOf P a c r - yOf v (btOf P a c r) P * yOf v (btOf P a c r) P) = 0 := by rw [← cs_fmod (P := P), h, cs_0]
  rw [cs_sub, cs_mul] at e
  have : ∀ x b : R, x - b * b = 0 → b ^ 2 = x := fun x b h => by grind
  exact this _ _ e
/-- the signatures that pass match a place of the row -/
theorem good_hit {P a c x y : Int} {ms : List (Int × Int)} (TR : TabRow P a c x y ms) {v r s : Int} (hb : ¬ BadSig P ((lawPts P a c).length : Int) a c v r s) : ∃ j : Nat, 1 ≤ j ∧ (j : Int) < ((lawPts P a c).length : Int) ∧ Hit P ((lawPts P a c).length : Int) r s v (rowL x y ms) j := by
  obtain ⟨Pn, M, a0, c0, u, T, kb, rfl, H, W, hk, exy, hrow⟩ := TR
  have hp := H.p1
  haveI : NeZero Pn := ⟨by omega⟩
  rw [W.num] at hb ⊢
  obtain ⟨h1, h2, h3, h4⟩ := not_bad_all hb
  have e1 := y_R (Fin Pn) h2
  have hbt := bt_bd (P := (Pn : Int)) (A := a) (B := c) (r := r) (by omega)
  have hy := yOf_bd (v := v) hbt.1 hbt.2
  have hpar := y_par (v := v) (be := btOf Pn a c r) (P := (Pn : Int)) h1 (by have := H.odd; omega)
  generalize yOf v (btOf Pn a c r) Pn = Y at *
  rw [xc_R] at e1
  have f0 := Int.fmod_nonneg_of_pos r (b := (Pn : Int)) (by omega)
  have f1 := Int.fmod_lt_of_pos r (b := (Pn : Int)) (by omega)
  have g0 := Int.fmod_nonneg_of_pos Y (b := (Pn : Int)) (by omega)
  have g1 := Int.fmod_lt_of_pos Y (b := (Pn : Int)) (by omega)
  obtain ⟨X0, hX0⟩ : ∃ X0 : Nat, r.fmod Pn = (X0 : Int) := ⟨(r.fmod Pn).toNat, by omega⟩
  obtain ⟨Y0, hY0⟩ : ∃ Y0 : Nat, Y.fmod Pn = (Y0 : Int) := ⟨(Y.fmod Pn).toNat, by omega⟩
  rw [← cs_fmod (P := Pn) Y, hY0, ← cs_fmod (P := Pn) r, hX0] at e1
  obtain ⟨k, hk', ek⟩ := on_ex H W (Fin Pn) (X := X0) (Y := Y0) (by omega) (by omega) e1
  have hU : IsU (cs (Fin Pn) (aff Pn u (pt T k)).2) := by
    rw [(aff_R (Fin Pn) (pt T k)).2]
    exact (y_U H W hk').mul (u_U H W).pow3
  rw [ek] at hU
  have hY1 : Y0 ≠ 0 := by
    rintro rfl
    exact hU.ne H cs_0
  have eY : Y = (Y0 : Int) := by
    rcases Int.lt_or_eq_of_le hy.2 with h | h
    · rw [← hY0, fmod_small hy.1 h]
    · rw [h, Int.fmod_self] at hY0; omega
  obtain ⟨j, j1, j2, j3⟩ := reach W.tb.num hk' hk
  have hj0 : j * kb % (T.length + 1) ≠ 0 := by rw [j3]; exact hk'
  refine ⟨j, j1, by omega, h1, ⟨((X0 : Int), (Y0 : Int)), ?_, hX0.symm, ?_⟩, h3, h4⟩
  · rw [hrow j j2, affO, if_neg hj0, pt_congr j3, ek]
  · simp only; rw [← eY]; exact hpar
theorem rep_1 {P M : Nat} (H : Pr P M) {a c : Int} {a0 c0 u : Nat} {T : List (Nat × Nat)} (W : Tw P a c a0 c0 u T) (R : Type) [Lean.Grind.CommRing R] [Lean.Grind.IsCharP R P] {k : Nat} (hk : k % (T.length + 1) ≠ 0) {X Y : Int} (hX : cs R X = cs R (pt T k).1 * cs R u ^ 2) (hY : cs R Y = cs R (pt T k).2 * cs R u ^ 3) : Rep R T u (X, Y, 1) k := by
  refine .inr ⟨hk, fin_of H W hk ?_ ?_ ?_⟩
  · exact ⟨1, by simp only; rw [cs_1]; grind⟩
  · simp only; rw [cs_1, hX]; grind
  · simp only; rw [cs_1, hY]; grind
section
variable {R : Type} [Lean.Grind.CommRing R]
theorem idx_R {iv z s j kb r pw N : R} (hN : N = 0) (h1 : iv * r = 1) (h2 : r * pw = 1) : iv * ((N - z) * kb + s * (j * kb)) = (s * j - z) * pw * kb := by
  have e : iv = pw := by
    have : iv * r * pw = iv * (r * pw) := by grind
    rw [h1, h2] at this; grind
  subst hN e
  grind
theorem ar_8 (i n k m : R) : i * n * k + i * m = i * (n * k + m) := by grind
theorem un_x {x u Z zi : R} (h : zi * Z = 1) : x * (u * Z) ^ 2 * zi ^ 2 = x * u ^ 2 := by
  have : x * (u * Z) ^ 2 * zi ^ 2 = x * u ^ 2 * (zi * Z) ^ 2 := by grind
  rw [this, h]; grind
theorem un_y {x u Z zi : R} (h : zi * Z = 1) : x * (u * Z) ^ 3 * zi ^ 3 = x * u ^ 3 := by
  have : x * (u * Z) ^ 3 * zi ^ 3 = x * u ^ 3 * (zi * Z) ^ 3 := by grind
  rw [this, h]; grind
theorem cs_dvd {P : Nat} [Lean.Grind.IsCharP R P] {y b : Int} (h : (P : Int) ∣ y * b - 1) : cs R y * cs R b = 1 := by
  rw [← cs_mul, ← cs_1, cs_ext (P := P)]
  exact Int.emod_eq_emod_iff_emod_sub_eq_zero.mpr (Int.emod_eq_zero_of_dvd h)
theorem cs_toNat {P : Nat} [Lean.Grind.IsCharP R P] (hP : 0 < P) (m : Int) : cs R (((m.fmod P).toNat : Nat) : Int) = cs R m := by
  have h0 := Int.fmod_nonneg_of_pos m (b := (P : Int)) (by omega)
  rw [Int.toNat_of_nonneg h0, cs_fmod]
end
theorem idx_eq {n : Nat} (hn : n ∈ goodNs) {iv r s z : Int} {j kb : Nat} (hr : r.fmod n ≠ 0) (hiv : InvOf r n iv) :
    ((iv.fmod n).toNat * ((((n : Int) - z).fmod n).fmod n).toNat * kb + (iv.fmod n).toNat * ((s.fmod n).toNat * (j * kb))) % n = (numJ n r s z j).toNat * kb % n := by
  have hN3 := good_3 n hn
  haveI : NeZero n := ⟨by omega⟩
  have hN0 : 0 < n := by omega
  have hr0 : r ≠ 0 := by rintro rfl; exact hr (by rw [Int.zero_fmod])
  have i1 : cs (Fin n) iv * cs (Fin n) r = 1 := cs_dvd (hiv.2 hr0).2.2
  have i2 : cs (Fin n) r * cs (Fin n) (powI (r.fmod n) ((n : Int) - 2) n) = 1 := by
    rw [← cs_fmod (P := n) r, ← cs_mul, ← cs_1, cs_ext (P := n), good_r hn hr]
    exact (Int.emod_eq_of_lt (by decide) (by omega)).symm
  have e : cs (Fin n) (((iv.fmod n).toNat * ((((n : Int) - z).fmod n).fmod n).toNat * kb + (iv.fmod n).toNat * ((s.fmod n).toNat * (j * kb)) : Nat) : Int) = cs (Fin n) (((numJ n r s z j).toNat * kb : Nat) : Int) := by
    unfold numJ
    simp only [Int.natCast_add, Int.natCast_mul, cs_add, cs_mul, cs_toNat hN0, cs_fmod, cs_sub]
    rw [← idx_R (z := cs (Fin n) z) (s := cs (Fin n) s) (j := cs (Fin n) (j : Int)) (kb := cs (Fin n) (kb : Int)) (cs_P (R := Fin n) (P := n)) i1 i2]
    exact ar_8 _ _ _ _
  rw [cs_ext (P := n), ← Int.natCast_emod, ← Int.natCast_emod] at e
  exact Int.ofNat_inj.mp e
/-- what the recovery gives is what the law's row holds -/
theorem out_eq {P a c x y : Int} {ms : List (Int × Int)} (TR : TabRow P a c x y ms) {v r s z iv zi X Y Z : Int} (hb : ¬ BadSig P ((lawPts P a c).length : Int) a c v r s) (hiv : InvOf r ((lawPts P a c).length : Int) iv)
    (e : jmul P a ((lawPts P a c).length : Int) (jadd P a (jmul P a ((lawPts P a c).length : Int) (x, y, 1) 7 ((((lawPts P a c).length : Int) - z).fmod ((lawPts P a c).length : Int))) (jmul P a ((lawPts P a c).length : Int) (r, yOf v (btOf P a c r) P, 1) 7 s)) 7 iv = (X, Y, Z)) (hzi : InvOf Z P zi)
    {j : Nat} {o : Option (Int × Int)} (hj : (j : Int) < ((lawPts P a c).length : Int)) (hh : Hit P ((lawPts P a c).length : Int) r s v (rowL x y ms) j) (ho : (rowL x y ms)[(numJ ((lawPts P a c).length : Int) r s z j).toNat]? = some o) :
    plainPt o = ((X * zi ^ 2).fmod P, (Y * zi ^ 3).fmod P) := by
  obtain ⟨Pn, M, a0, c0, u, T, kb, rfl, H, W, hk, exy, hrow⟩ := TR
  have hp := H.p1
  haveI : NeZero Pn := ⟨by omega⟩
  have hg := W.tb.num
  have hN3 := good_3 _ hg
  rw [W.num] at hb hiv e hj hh ho
  obtain ⟨h1, h2, h3, h4⟩ := not_bad_all hb
  obtain ⟨-, ⟨q, g2, g3, g4⟩, -, -⟩ := hh
  rw [hrow j (by omega)] at g2
  have h7 := Option.some.inj g2
  unfold affO at h7
  split at h7
  · cases h7
  rename_i h8
  have h9 := Option.some.inj h7
  subst h9
  -- the height
  have e1 := y_R (Fin Pn) h2
  have hbt := bt_bd (P := (Pn : Int)) (A := a) (B := c) (r := r) (by omega)
  have hy := yOf_bd (v := v) hbt.1 hbt.2
  have hpar := y_par (v := v) (be := btOf Pn a c r) (P := (Pn : Int)) h1 (by have := H.odd; omega)
  generalize yOf v (btOf Pn a c r) Pn = yv at *
  have e2 := on_aff W (Fin Pn) h8
  rw [g3, cs_fmod] at e2
  rw [xc_R, ← e2] at e1
  obtain ⟨b1, b2, b3, b4⟩ := aff_bd H (u := u) (pt T (j * kb))
  have hU : IsU (cs (Fin Pn) (aff Pn u (pt T (j * kb))).2) := by
    rw [(aff_R (Fin Pn) (pt T (j * kb))).2]
    exact (y_U H W h8).mul (u_U H W).pow3
  have eyv : yv = (aff Pn u (pt T (j * kb))).2 := by
    obtain ⟨m, hm⟩ : ∃ m : Nat, yv = (m : Int) := ⟨yv.toNat, by omega⟩
    obtain ⟨Y0, hY0⟩ : ∃ Y0 : Nat, (aff Pn u (pt T (j * kb))).2 = (Y0 : Int) := ⟨(aff Pn u (pt T (j * kb))).2.toNat, by omega⟩
    rw [hY0] at e1 g4 b4 hU ⊢
    rw [hm] at e1 hpar hy ⊢
    rw [← cs_pow, ← cs_pow, cs_ext (P := Pn), ← Int.natCast_pow, ← Int.natCast_pow, ← Int.natCast_emod, ← Int.natCast_emod] at e1
    rw [Int.fmod_eq_emod_of_nonneg _ (by decide)] at g4 hpar
    have : Y0 ≠ 0 := by rintro rfl; exact hU.ne H cs_0
    rw [H.par m (by omega) Y0 (by omega) this (Int.ofNat_inj.mp e1) (by omega)]
  -- the sums
  have hR1 : Rep (Fin Pn) T u (x, y, 1) kb := by
    have ex : x = (aff Pn u (pt T kb)).1 := by rw [← exy]
    have ey : y = (aff Pn u (pt T kb)).2 := by rw [← exy]
    obtain ⟨cx, cy⟩ := aff_R (P := Pn) (u := u) (Fin Pn) (pt T kb)
    exact rep_1 H W (Fin Pn) hk (by rw [ex, cx]) (by rw [ey, cy])
  have hR2 : Rep (Fin Pn) T u (r, yv, 1) (j * kb) := by
    obtain ⟨cx, cy⟩ := aff_R (P := Pn) (u := u) (Fin Pn) (pt T (j * kb))
    refine rep_1 H W (Fin Pn) h8 ?_ (by rw [eyv, cy])
    rw [← cs_fmod (P := Pn), ← g3, cx]
  have hfit : ∀ n, Fit ((T.length + 1 : Nat) : Int) 7 n := fun n => .inr ⟨by omega, by decide⟩
  have hR := mul_rep H W (add_rep H W (mul_rep H W hR1 7 ((((T.length + 1 : Nat) : Int) - z).fmod ((T.length + 1 : Nat) : Int)) (hfit _)) (mul_rep H W hR2 7 s (hfit _))) 7 iv (hfit _)
  rw [e] at hR
  have hidx := idx_eq (s := s) (z := z) (j := j) (kb := kb) hg h3 hiv
  rw [Nat.mul_add, ← Nat.mul_assoc] at hR
  have hR' := hR.congr hidx
  have hN0 : 0 < T.length + 1 := by omega
  have hnum : (numJ ((T.length + 1 : Nat) : Int) r s z j).toNat < T.length + 1 := by
    have := Int.fmod_lt_of_pos ((s * j - z) * powI (r.fmod ((T.length + 1 : Nat) : Int)) (((T.length + 1 : Nat) : Int) - 2) ((T.length + 1 : Nat) : Int)) (b := ((T.length + 1 : Nat) : Int)) (by omega)
    unfold numJ
    omega
  rw [hrow _ hnum] at ho
  obtain rfl := Option.some.inj ho
  unfold affO
  rcases hR' with ⟨k0, k1, k2⟩ | ⟨k0, k1⟩
  · rw [if_pos k0]
    simp only at k1 k2
    subst k1 k2
    simp only [Int.zero_mul, Int.zero_fmod, plainPt]
  · rw [if_neg k0]
    obtain ⟨l0, l1, l2, l3⟩ := k1
    simp only at l0 l1 l2 l3
    have hZ : Z ≠ 0 := by rintro rfl; exact l1.ne H cs_0
    have hz1 := cs_dvd (R := Fin Pn) (hzi.2 hZ).2.2
    obtain ⟨cx, cy⟩ := aff_R (P := Pn) (u := u) (Fin Pn) (pt T ((numJ ((T.length + 1 : Nat) : Int) r s z j).toNat * kb))
    obtain ⟨b1, b2, b3, b4⟩ := aff_bd H (u := u) (pt T ((numJ ((T.length + 1 : Nat) : Int) r s z j).toNat * kb))
    refine Prod.ext ?_ ?_
    · refine (fm_eq H (Fin Pn) ?_ b1 b2).symm
      rw [cs_mul, cs_pow, l2, un_x hz1, cx]
    · refine (fm_eq H (Fin Pn) ?_ b3 b4).symm
      rw [cs_mul, cs_pow, l3, un_y hz1, cy]
end Mine

namespace Mine
section
variable {P a c x y : Int} {ms : List (Int × Int)} (TR : TabRow P a c x y ms)
include TR
theorem tr_cop {r : Int} (h : r.fmod ((lawPts P a c).length : Int) ≠ 0) : Int.gcd r ((lawPts P a c).length : Int) = 1 := by
  obtain ⟨Pn, M, a0, c0, u, T, kb, rfl, H, W, -, -, -⟩ := TR
  rw [W.num] at h ⊢
  exact gcd_N W.tb.num h
theorem tr_cz {A N r Gx Gy : Int} : ∀ y m k n x' y' z', jmul P A N (jadd P A (jmul P A N (Gx, Gy, 1) 7 m) (jmul P A N (r, y, 1) 7 k)) 7 n = (x', y', z') → z' ≠ 0 → Int.gcd z' P = 1 := by
  obtain ⟨Pn, M, a0, c0, u, T, kb, rfl, H, W, -, -, -⟩ := TR
  exact hcz_P H
theorem tr_N : 1 < ((lawPts P a c).length : Int) ∧ ((lawPts P a c).length : Int) < 64 := by
  obtain ⟨Pn, M, a0, c0, u, T, kb, rfl, H, W, -, -, -⟩ := TR
  have := good_3 _ W.tb.num
  rw [W.num]; omega
theorem law_none {place second mark zz : Int} {v : Value} {nx : List (Addr × Obj)} {k : Nat} (hdue : Due P ((lawPts P a c).length : Int) place second mark zz (rowL x y ms) k v nx) (hb : BadSig P ((lawPts P a c).length : Int) a c mark place second) : v = .none := by
  rcases hdue with h | ⟨j, z, h1, h2, h3, _⟩
  · exact h.1
  · exact absurd h3 (bad_no TR hb j h2)
theorem law_some {place second mark zz : Int} {v w : Value} {nx nx' : List (Addr × Obj)} (hdue : Due P ((lawPts P a c).length : Int) place second mark zz (rowL x y ms) (1 + (((lawPts P a c).length : Int) - 1).toNat) v nx)
    (ho : RecOut P ((lawPts P a c).length : Int) a c x y mark place second zz nx' w) : ∃ px py, IsT2 nx v px py ∧ IsT2 nx' w px py := by
  obtain ⟨iv, zi, X, Y, Z, nb, hiv, e, hzi, i⟩ := ho
  rcases hdue with ⟨-, h⟩ | ⟨j, z, h1, h2, h3, h4, h5⟩
  · obtain ⟨j, h1, h2, h3⟩ := good_hit TR nb
    exact absurd h3 (h j h1 (by omega))
  · have := out_eq TR nb hiv e hzi h2 h3 h4
    rw [this] at h5
    exact ⟨_, _, h5, i⟩
end
theorem fdiv4 {P : Int} (h : 2 ≤ P) : 0 ≤ (P + 1).fdiv 4 := by
  rw [Int.fdiv_eq_ediv_of_nonneg _ (by decide)]; omega
theorem okG_of {P x y : Int} (hP : P < 64) (h : 0 ≤ x ∧ x < P ∧ 0 ≤ y ∧ y < P) : OkT x y 1 := ⟨bits_small h.1 (Int.lt_trans h.2.1 hP), h.2.2.1, Int.le_of_lt (Int.lt_trans h.2.2.2 hP), by decide, by decide⟩
end Mine

namespace Mine
local macro_rules | `(tactic| ktd_call $x $c) => `(tactic| (k_dflt (refine' con_useT (by k_asm) (by k_asm) (by k_asm) (by k_asm) (by k_asm) $c ?kK ?kd ?ku ?_); (case kK => first | exact rfl | assumption); (case kd => ktr_room); (case ku => ktr_units)))
local macro_rules | `(tactic| walk_at "call builtin:len") => `(tactic| (k_here; (with_reducible show wpAny _ _ (call (Value.builtin "len") [Value.ref _]) _ _ _); (refine kst_len (by k_asm) (by k_mem) (by assumption) (by omega) ?_)))
local macro_rules | `(tactic| k_mem) => `(tactic| ((fail_if_success (with_reducible refine List.mem_cons_self)); with_reducible refine List.mem_cons_of_mem _ ?_; k_mem))
local macro_rules | `(tactic| walk_at "compareOp In int ref") => `(tactic| (refine in_tuple_ints (News.isTup (by assumption) (.head _)) (by repeat constructor) ?_))
set_option maxRecDepth 100000 in
set_option maxHeartbeats 16000000 in
theorem main : PySem.Challenge.rw_iv0040_01.Holds := Mine.hd (by
  w_on
  k_with_none
  k_go0
  k_with "eval Name" => k_dflt (refine nameX_L (by assumption) (by with_unfolding_all exact (rfl : some _ = some _)) ?_)
  (all_goals try k_fold)
  k_with "eval IfExp" => (k_here; (fail_if_success (with_reducible show wpAny _ _ (eval _ (compEnvC _ _ _ _)) _ _ _)); refine Hold.out ?_)
  k_steps
  rename PyData.layable0 (PyData.list _) = true => lay
  rename IntsAre _ (List.map (fun _ => ite _ _ _) _) => hi8
  rename News _ _ _ [(_, LCg.lst _), _] => N0
  obtain ⟨g0, g1, g2, g3, g4, g5, t0, t1, t2, t3, t4, t5, rfl, b1, b3, b5, n1, n3, n5⟩ := six lay hi8
  clear hi8
  rename Fr _ _ _ (fun z => ite (z = Str.ofString "given") _ _) => F0
  refine Hold.mk ?_
  refine int_cut (fun x => Builtin.Int.intBits x ≤ 2 ^ 20) F0 N0 ?_ ?_
  · k_with_none
    k_with "eval Name" => k_dflt (refine nameX_L (by assumption) (by with_unfolding_all exact (rfl : some _ = some _)) ?_)
    k_steps
    · exact ⟨_, _, _, _, rfl, rfl, by assumption, by assumption, kbm_getD lay (by decide)⟩
    · exact ⟨_, _, _, _, rfl, rfl, by assumption, by assumption, by decide⟩
  intro place t6 h6 tk6 b6 F6 N6
  k_with "eval IfExp" => refine Hold.out ?_
  k_steps

  rename Fr _ _ _ (fun z => ite (z = Str.ofString "place") _ _) => F7
  rename News _ _ _ [(_, LCg.lst _), _] => N7
  refine Hold.mk ?_
  refine int_cut (fun x => Builtin.Int.intBits x ≤ 2 ^ 20) F7 N7 ?_ ?_
  · k_with_none
    k_with "eval Name" => k_dflt (refine nameX_L (by assumption) (by with_unfolding_all exact (rfl : some _ = some _)) ?_)
    k_steps
    · exact ⟨_, _, _, _, rfl, rfl, by assumption, by assumption, kbm_getD lay (by decide)⟩
    · exact ⟨_, _, _, _, rfl, rfl, by assumption, by assumption, by decide⟩
  intro second t8 h8 tk8 b8 F8 N8
  k_with_none
  k_with "eval Name" => k_dflt (refine nameX_L (by assumption) (by with_unfolding_all exact (rfl : some _ = some _)) ?_)
  k_with "eval Subscript" => refine Hold.out ?_
  k_steps
  rename Fr _ _ _ (fun z => ite (z = Str.ofString "second") _ _) => F9
  rename News _ _ _ [(_, LCg.lst _), _] => N9
  refine Hold.mk ?_
  refine int_cut (fun x => x = 7 ∨ x = 11 ∨ x = 19 ∨ x = 23 ∨ x = 31) F9 N9 ?_ ?_
  · k_with_none
    k_with "eval Name" => k_dflt (refine nameX_L (by assumption) (by with_unfolding_all exact (rfl : some _ = some _)) ?_)
    k_steps
    exact ⟨_, _, _, _, rfl, rfl, by assumption, cb_drop (by assumption) (fun p h => .tail _ h), primes_get (by assumption) (by assumption)⟩
  intro prime t10 h10 tk10 b10 F10 N10
  k_with "call ref" => refine Hold.out ?_
  k_steps
  refine Hold.mk ?_
  refine cut_K ?_
  intro KB hvb
  ktd_call 89 (lc_con _ (by omega) (by omega) b1)
  rintro r11 tl11 h11 tk11 F11 N11 l11 ⟨P, a, c, hP, rp, pr, t1', t2', t3', n', rfl, m11, ⟨la, vs, k11, rfl, m11', o11⟩, G⟩
  refine hvb _ _ ?_
  clear hvb KB
  have hP' : P = 7 ∨ P = 11 ∨ P = 19 ∨ P = 23 ∨ P = 31 := by rcases hP with h | h <;> subst h <;> first | assumption | exact .inl rfl
  have hP2 : 2 ≤ P := by clear hP; omega
  have hP3 : P < 64 := by clear hP hP2; omega
  have hl11 := o11.length
  have hb11 : vs.length ≤ 200 := by rw [hl11]; exact lawPts_len hP3 _ _
  simp only [List.cons_append, List.nil_append] at N11
  have ho1 : 0 < ((lawPts P a c).length : Int) - 1 := by have := G.two; clear hP hP2 hP3; omega
  have hlen : (lawPts P a c).length ≤ 200 := by rw [← hl11]; exact hb11
  k_with_none
  k_with "eval Name" => k_dflt (refine nameX_L (by assumption) (by with_unfolding_all exact (rfl : some _ = some _)) ?_)
  k_with "call ref" => refine Hold.out ?_
  k_with "subscriptTail Name BinOp ref int" => refine Hold.out ?_
  k_with "eval IfExp" => refine Hold.out ?_
  k_steps
  rename 0 ≤ _ => r0
  rename _ < _ => r1
  obtain ⟨⟨x, y⟩, hq⟩ := pick r0 r1 hlen
  obtain ⟨ms, O⟩ := orb_ex hP' G hq
  refine Hold.mk ?_
  refine cut_K ?_
  intro KB hvb
  refine item_pts (News.isList (by k_asm) (by k_mem)) o11 (pick_fit r0 r1 hlen).1 (pick_fit r0 r1 hlen).2 hq ?_
  rintro _ ⟨ba, tx, ty, bn, rfl, bm⟩
  refine hvb _ _ ?_
  clear hvb KB
  k_steps
  refine Hold.mk ?_
  refine cut_K ?_
  intro KB hvb
  have Ga0 := G.a0
  have Ga1 : a < 64 := Int.lt_trans G.a1 hP3
  ktr_call 103 (lr_con _ (v := .ref ba) (x := x) (y := y) ⟨ba, tx, ty, bn, rfl, by k_mem⟩ hP2 hP3 Ga0 Ga1 ms (fun q hq => ⟨(O.bd q hq).1, Int.lt_trans (O.bd q hq).2.1 hP3⟩) (Nat.lt_of_le_of_lt O.short (by decide)) O.chain)
  rintro r12 tl12 h12 tk12 F12 N12 l12 ⟨lr, rs, k12, rfl, m12, o12⟩
  refine hvb _ _ ?_
  clear hvb KB
  simp only [List.cons_append, List.nil_append] at N12
  k_steps
  rename _ < (6 : Int) => c1
  refine Hold.mk ?_
  refine cut_K ?_
  intro KB hvb
  ktr_call 108 (oct_con _ b3 (by assumption) (Int.le_of_lt_add_one c1))
  rintro r13 tl13 h13 tk13 F13 N13 l13 ⟨mb13, mt, ks, rfl, hks, hkl⟩
  refine hvb _ _ ?_
  clear hvb KB
  simp only [List.cons_append, List.nil_append] at N13
  k_steps
  rename Fr _ _ _ (fun z => ite (z = Str.ofString "message") _ _) => F14
  rename News _ _ _ ((_, LCg.lst _) :: _ :: _) => N14
  refine Hold.mk ?_
  refine int_cut (fun x => Builtin.Int.intBits x ≤ 2 ^ 20) F14 N14 ?_ ?_
  · k_with_none
    k_with "eval Name" => k_dflt (refine nameX_L (by assumption) (by with_unfolding_all exact (rfl : some _ = some _)) ?_)
    k_steps
    · exact ⟨_, _, _, _, rfl, rfl, by assumption, by assumption, bits_fdiv b5⟩
    · rename _ < (2 : Int) => d1
      exact ⟨_, _, _, _, rfl, rfl, by assumption, by assumption, bits_27 (by assumption) d1⟩
  intro mark t15 h15 tk15 b15 F15 N15
  k_with "exec For Name Call cons nil" => kpr_for
  k_with "pyIter ref" => refine Hold.out ?_
  k_steps
  clear b1 b3 b5 n1 n3 n5 lay
  rename IsRange _ _ _ _ _ _ _ _ => R16
  rename Fr _ _ _ _ => F16
  rename News _ _ _ ((_, LCg.lst _) :: _ :: _) => N16
  refine Hold.mk ?_
  refine rng_due (n := (((lawPts P a c).length : Int) - 1).toNat) (Str.ofString "due") [Str.ofString "number"] (fun i v nx => (∀ p ∈ _, p ∈ nx) ∧ Due P ((lawPts P a c).length : Int) place second mark (bval ks) (rowL x y ms) (1 + i) v nx) (by rfl) R16 (du_small hlen) (rangeSize_nat _ _) F16 N16 (by decide) (by rfl) ⟨fun _ h => h, Due.start⟩ ?_ ?_
  · rintro i ti u16 v nx h17 tk17 own hi hoff ⟨hnx, hdue⟩ F17 N17 K hKn
    have mr : (lr, W.listOf rs.toArray k12) ∈ nx := hnx _ (mem_up m12)
    have pr0 := o12.mono (news' := nx) (fun p hp => hnx p (mem_up hp))
    have pr := pr0.mono (news' := nx ++ own) (fun p hp => List.mem_append.mpr (.inl hp))
    obtain ⟨⟨X, Y⟩, hXY⟩ := row_get (x := x) (y := y) O.len hi
    have hif := idx_fit hlen hi
    have hN1 : 1 < ((lawPts P a c).length : Int) := Int.lt_of_sub_pos ho1
    have hN2 : 0 ≤ ((lawPts P a c).length : Int) - 2 := Int.sub_nonneg_of_le (Int.add_one_le_of_lt hN1)
    k_with_none
    k_with "eval Name" => k_dflt (refine nameX_L (by assumption) (by with_unfolding_all exact (rfl : some _ = some _)) ?_)
    k_with "subscriptTail Name Name ref int" => refine Hold.out ?_
    k_with "call ref" => refine Hold.out ?_
    k_steps
    · refine Hold.mk ?_
      refine cut_K ?_
      intro KB hvb
      refine item_pts (News.isList (by k_asm) (by k_mem)) pr hif.1 hif.2.1 (idx_get hXY) ?_
      rintro _ ⟨pa, tX, tY, pn, rfl, pm⟩
      refine hvb _ _ ?_
      clear hvb KB
      dsimp only at pm
      k_steps
      · refine Hold.mk ?_
        refine cut_K ?_
        intro KB hvb
        refine item_pts (News.isList (by k_asm) (by k_mem)) pr hif.1 hif.2.1 (idx_get hXY) ?_
        rintro _ ⟨pa', tX', tY', pn', rfl, pm'⟩
        refine hvb _ _ ?_
        clear hvb KB
        dsimp only at pm'
        k_steps
        · refine Hold.mk ?_
          refine cut_K ?_
          intro KB hvb
          have hh : Hit P ((lawPts P a c).length : Int) place second mark (rowL x y ms) (1 + i) := is_hit hXY (by assumption) (by assumption) (by assumption) (by assumption) (by assumption) (by assumption) (by assumption) (by assumption) (by assumption)
          ktr_call 115 (val_con _ hks hkl)
          rintro r18 tl18 h18 tk18 F18 N18 l18 ⟨tv, rfl⟩
          refine hvb _ _ ?_
          clear hvb KB
          simp only [List.cons_append, List.nil_append] at N18
          k_steps
          rename _ = Int.fmod ((_ * _ - _) * _) _ => eC
          rename _ = powI _ _ _ => eB
          rename _ = Int.fmod place _ => eA
          rename 0 ≤ _ => lC
          rename _ < ((lawPts P a c).length : Int) => gC
          obtain ⟨z, hz⟩ := row_any (x := x) (y := y) O.len lC gC
          refine Hold.mk ?_
          refine cut_K ?_
          intro KB hvb
          refine item_pts (News.isList (by k_asm) (by k_mem)) pr0 lC (small_fit hlen gC) hz ?_
          intro v' hv'
          refine hvb _ _ ?_
          clear hvb KB
          cases z with
          | none =>
            obtain rfl : v' = .none := hv'
            k_steps
            refine Hold.mk ?_
            refine cut_K ?_
            intro KB hvb
            ktd_call 122 (plT_none _)
            rintro r19 tl19 h19 tk19 F19 N19 l19 ⟨da, u1, u2, un, rfl, dm⟩
            refine hvb _ _ ?_
            clear hvb KB
            simp only [List.cons_append, List.nil_append] at N19
            k_steps
            refine hKn _ ?_
            exact du_none (by k_asm) (by k_asm) (fun p hp => .tail _ (List.mem_append.mpr (.inl (List.mem_append.mpr (.inl hp))))) hnx hoff (by rfl) frame_keep hh (idx_lt hi) (by rw [num_eq eA eB eC]; exact hz) (.tail _ (List.mem_append.mpr (.inr dm)))
              (fun q hq => Nat.ne_of_lt (l19 q (.tail _ (List.mem_append.mpr (.inl (List.mem_append.mpr (.inr hq))))) _ dm))
          | some q =>
            obtain ⟨da, u1, u2, un, rfl, dm⟩ := hv'
            k_steps
            refine Hold.mk ?_
            refine cut_K ?_
            intro KB hvb
            ktr_call 122 (pl_some _)
            rintro r19 tl19 h19 tk19 F19 N19 l19 ⟨htl, rfl⟩
            refine hvb _ _ ?_
            clear hvb KB
            rw [htl] at N19
            k_steps
            refine hKn _ ?_
            exact du_some (by k_asm) (by k_asm) (fun p hp => .tail _ (List.mem_append.mpr (.inl hp))) hnx hoff (by rfl) frame_keep hh (idx_lt hi) (by rw [num_eq eA eB eC]; exact hz) dm
        all_goals (refine hKn _ ?_; refine du_miss (by k_asm) (by k_asm) (fun p hp => .tail _ hp) hnx hoff (by rfl) frame_keep0 hdue ?_)
        · exact no_hit_e (by assumption) (by assumption)
        · exact no_hit_d (by assumption) (by assumption)
        · exact no_hit_c hXY (by assumption) (by assumption)
      · refine hKn _ ?_
        exact du_miss (by k_asm) (by k_asm) (fun p hp => .tail _ hp) hnx hoff (by rfl) frame_keep0 hdue (no_hit_b hXY (by assumption) (by assumption))
    · refine hKn _ ?_
      exact du_miss (by k_asm) (by k_asm) (fun p hp => .tail _ hp) hnx hoff (by rfl) frame_keep0 hdue (no_hit_a (by assumption))
  · rintro u16 v nx h17 tk17 ⟨hnx, hdue⟩ F17 N17
    have bm' : (ba, tup [.int x tx, .int y ty] bn) ∈ nx := hnx _ (.tail _ (.tail _ (List.mem_append.mpr (.inl (List.mem_append.mpr (.inl bm))))))
    have hN1 : 1 < ((lawPts P a c).length : Int) := Int.lt_of_sub_pos ho1
    k_with_none
    k_with "eval Name" => k_dflt (refine nameX_L (by assumption) (by with_unfolding_all exact (rfl : some _ = some _)) ?_)
    k_with "exec Try" => refine Hold.out ?_
    k_with "call ref" => refine Hold.out ?_
    k_steps
    refine wpAny_Try_except ?_
    k_steps
    refine Hold.mk ?_
    have TR := O.tab
    have hNN := tr_N TR
    k_dflt (refine' con_useE (by k_asm) (by k_asm) (by k_asm) (by k_asm) (by k_asm) (er_con _ b6 hks hkl ⟨_, _, _, _, _, rfl, .tail _ (.head _)⟩ ⟨_, _, _, _, _, _, _, _, rfl, .head _⟩ ⟨Int.lt_of_lt_of_le (by decide) hP2, hP3, Ga0, Ga1⟩ hNN.1 hNN.2 (fdiv4 hP2) (Int.lt_of_lt_of_le (by decide) hP2) (okG_of hP3 (O.bd _ (.head _))) (tr_cop TR) (tr_cz TR)) ?kK ?kd ?ku ?kR ?kE)
    case kK => first | exact rfl | assumption
    case kd => ktr_room
    case ku => ktr_units
    case kR =>
      rintro r18 nx18 h18 tk18 F18 N18 hs18 ho18
      obtain ⟨px, py, ⟨a1, u1, u2, n1, rfl, m1⟩, ⟨a2, u3, u4, n2, rfl, m2⟩⟩ := law_some TR hdue ho18
      have m1' := hs18 _ (.tail _ (.tail _ m1))
      k_steps
    case kE =>
      intro e18 g18 h18 tk18 F18 U18 R18 hb18
      obtain rfl := law_none TR hdue hb18
      refine caught_C (T' := "ValueError") (X := "ValueError") (by assumption) F18 U18 R18 (by k_asm) PyProof.Rows.Boot.«ValueError» PySem.F.isExc_ValueError PySem.F.notTuple_ValueError (by rw [isSubtype_type]; kernel_rfl) ?_
      intro h19 F19 N19
      k_steps)
end Mine

end
end
set_option maxRecDepth 100000 in
theorem PySem.Challenge.cw_iv0040_01_holds : PySem.Challenge.rw_iv0040_01.Holds :=
  Mine.main
