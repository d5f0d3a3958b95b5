import PyProof.Rows.All
import Wide.All
import OpenK.AllK
import Wide.FinOn
import Lean
import PySem.Challenge.RW_mq0261_01
open PySem PySem.W PyProof.Rows
set_option Elab.async false
namespace Mine
set_option maxRecDepth 100000
set_option maxHeartbeats 8000000
open_top hd for PySem.Challenge.rw_mq0261_01
end Mine

namespace Mine
set_option maxRecDepth 100000
set_option maxHeartbeats 8000000

/-- a tuple of ints -/
noncomputable abbrev tup2 (x y : Int) (t u : Tok) (c : Nat) : Obj := { cls := .type "tuple", data := .seq #[.int x t, .int y u] c }

/-- a contract: what stands around a call, what it wants, what it leaves -/
noncomputable def Call (w : World) (loose : List Str) (mean : ExcName → Option Value) (mg mb : Str → Option Value) (f : Addr) (vs : List Value) (d u : Nat) (Pre : List (Addr × Obj) → Prop) (Post : List (Addr × Obj) → Value → List (Addr × Obj) → Prop) : Prop :=
  ∀ (dp un : Nat) (gd : Option (List Code)) (cn : Str) (cs : Scope) (a : Addr) (ccd : Value) (cl : List (Str × Addr)) (outer : List Env) (A₀ : Around) (base h₀ : Heap) (L : Addr) (m : Str → Option Value) (news : List (Addr × Obj)) (s : Shared) (Q E : Value → Shared → Prop),
    Below A₀ base outer h₀ → Fr h₀ L s.heap m → (hd.heap_39 w.params).In h₀ → News h₀ L s.heap news → Top topProg loose mean mg mb h₀ → cs.kind = .function →
    dp + d < recursionLimit → un + u < cLine → Pre news →
    (∀ r news' h' tk', Fr h₀ L h' m → News h₀ L h' news' → Post news r news' → Q r { s with heap := h', toks := tk' }) →
    wpAny (model PySem.Challenge.rw_mq0261_01.row.prog w) (ktrTop dp un gd cn cs L a ccd cl outer) (call (.ref f) vs) Q E s

theorem Call.use {w : World} {loose : List Str} {mean : ExcName → Option Value} {mg mb : Str → Option Value} {f : Addr} {vs : List Value} {d u : Nat} {Pre : List (Addr × Obj) → Prop} {Post : List (Addr × Obj) → Value → List (Addr × Obj) → Prop}
    (C : Call w loose mean mg mb f vs d u Pre Post)
    {dp un : Nat} {gd : Option (List Code)} {cn : Str} {cs : Scope} {a : Addr} {ccd : Value} {cl : List (Str × Addr)} {outer : List Env} {A₀ : Around} {base h₀ : Heap} {L : Addr} {m : Str → Option Value} {news : List (Addr × Obj)} {s : Shared} {Q E : Value → Shared → Prop}
    (B : Below A₀ base outer h₀) (F : Fr h₀ L s.heap m) (X : (hd.heap_39 w.params).In h₀) (N : News h₀ L s.heap news) (T : Top topProg loose mean mg mb h₀) (hk : cs.kind = .function)
    (hd : dp + d < recursionLimit) (hu : un + u < cLine) (hp : Pre news)
    (ret : ∀ r news' h' tk', Fr h₀ L h' m → News h₀ L h' news' → Post news r news' → Q r { s with heap := h', toks := tk' }) :
    wpAny (model PySem.Challenge.rw_mq0261_01.row.prog w) (ktrTop dp un gd cn cs L a ccd cl outer) (call (.ref f) vs) Q E s :=
  C _ _ _ _ _ _ _ _ _ _ _ _ _ _ _ _ _ _ B F X N T hk hd hu hp ret

/-- a quotient and a rest, new, as a tuple -/
noncomputable def PostQ (A b : Int) (news : List (Addr × Obj)) (r : Value) (news' : List (Addr × Obj)) : Prop := ∃ t u v c, r = .ref t ∧ AllLt t news ∧ news' = (t, tup2 (A / b) (A % b) u v c) :: news

theorem postQ_end {h₀ h' : Heap} {L D : Addr} {m : Str → Option Value} {news newsX : List (Addr × Obj)} {Q : Value → Shared → Prop} {s : Shared} {A b q r : Int} {u v : Tok} {c tk : Nat}
    (hret : ∀ r news' h' tk', Fr h₀ L h' m → News h₀ L h' news' → PostQ A b news r news' → Q r { s with heap := h', toks := tk' })
    (F : Fr h₀ L h' m) (N : News h₀ L h' newsX) (hm : (D, tup2 q r u v c) ∈ newsX) (hs : ∀ p ∈ news, p ∈ newsX) (hl : AllLt D news) (e : A / b = q ∧ A % b = r) : Q (.ref D) { s with heap := h', toks := tk } := by
  obtain ⟨rfl, rfl⟩ := e
  refine hret _ ((D, tup2 (A / b) (A % b) u v c) :: news) _ _ F (fun p hp => ?_) ⟨D, u, v, c, rfl, hl, rfl⟩
  rcases List.mem_cons.mp hp with rfl | hp
  · exact N _ hm
  · exact N p (hs p hp)
theorem divmod_K {prog : Program} {w : World} {A : Around} {E : Value → Shared → Prop} {s : Shared} {a b : Int} {t u : Tok} {Q : Value → Shared → Prop} {h₀ : Heap} {L : Addr} {m : Str → Option Value} {news : List (Addr × Obj)} (F : Fr h₀ L s.heap m) (N : News h₀ L s.heap news) (hb : b ≠ 0)
    (hp : Builtin.divisionGoesByPylong a b = false ∨ PySem.PylongRoom (model prog w) A s)
    (h : ∀ D h' t' u' tk', Fr h₀ L h' m → News h₀ L h' ((D, tup2 (a.fdiv b) (a.fmod b) t' u' 0) :: news) → AllLt D news → Q (.ref D) { s with heap := h', toks := tk' }) :
    wpAny (model prog w) A (call (.builtin "divmod") [.int a t, .int b u]) Q E s :=
  divmod_N F N hb (fun h' F' N' => h _ h' _ _ _ F' N' (allLt_of fun p hp => Heap.lt_size (N p hp).1)) hp
theorem AllLt.tail {d : Nat} {q : Addr × Obj} {l : List (Addr × Obj)} (h : q.1 < d ∧ AllLt d l) : AllLt d l := h.2
end Mine

namespace Mine
section
local macro_rules | `(tactic| omega) => `(tactic| first | with_reducible assumption | lia | fail "no cheap end")

section

set_option maxRecDepth 100000
theorem Fr.as {h₀ h : Heap} {L : Addr} {m m' : Str → Option Value} (F : Fr h₀ L h m) (e : m' = m) : Fr h₀ L h m' := by rw [e]; exact F
theorem put_eq {m m' : Str → Option Value} {x : Str} {v : Value} (h : m x = some v) (e : m' = m) : (fun y => if y = x then some v else m' y) = m := by
  subst e
  funext y
  split
  · rename_i hy; rw [hy, h]
  · rfl
noncomputable def ExitQ (h₀ : Heap) (L : Addr) (s : Shared) (JE : (Str → Option Value) → List (Addr × Obj) → Prop) : Flow → Shared → Prop
  | .next, s₂ => ∃ h tk m nx, s₂ = { s with heap := h, toks := tk } ∧ Fr h₀ L h m ∧ News h₀ L h nx ∧ JE m nx
  | _, _ => False
theorem ExitQ.mk {h₀ : Heap} {L : Addr} {s : Shared} {JE : (Str → Option Value) → List (Addr × Obj) → Prop} {h' : Heap} {m : Str → Option Value} {nx : List (Addr × Obj)} {tk : Nat} (F : Fr h₀ L h' m) (N : News h₀ L h' nx) (j : JE m nx) : ExitQ h₀ L s JE .next { s with heap := h', toks := tk } := ⟨h', tk, m, nx, rfl, F, N, j⟩
/-- what is to hold behind a tree, by a letter alone: the terms of a walk stay small -/
theorem hide {M : Model} {α : Type} {A : Around} {T : Sem α} {Q : α → Shared → Prop} {E : Value → Shared → Prop} {s : Shared} (h : ∀ Qx : α → Shared → Prop, (∀ f s', Q f s' → Qx f s') → wpAny M A T Qx E s) : wpAny M A T Q E s := h Q fun _ _ q => q
theorem hide_around {M : Model} {α : Type} {A : Around} {T : Sem α} {Q : α → Shared → Prop} {E : Value → Shared → Prop} {s : Shared} (h : let A1 := A; wpAny M A1 T Q E s) : wpAny M A T Q E s := h
theorem hide_while {M : Model} {A : Around} {T : Sem Bool} {B : Sem Flow} {W : Flow → Shared → Prop} {Qe : Shared → Prop} {E : Value → Shared → Prop} {s : Shared}
    (h : ∀ (Wx : Flow → Shared → Prop) (Qx : Shared → Prop), (∀ f s', W f s' → Wx f s') → (∀ s', Qe s' → Qx s') → wpAny M A T (fun b s₂ => if b = true then wpAny M A B Wx E s₂ else Qx s₂) E s) :
    wpAny M A T (fun b s₂ => if b = true then wpAny M A B W E s₂ else Qe s₂) E s := h W Qe (fun _ _ q => q) fun _ q => q
theorem turn_end {h₀ h' : Heap} {L : Addr} {J : (Str → Option Value) → List (Addr × Obj) → Prop} {own news' : List (Addr × Obj)} {s : Shared} {Q : Flow → Shared → Prop} {m' : Str → Option Value} {tk : Nat} (nx : List (Addr × Obj))
    (F : Fr h₀ L h' m') (N : News h₀ L h' news') (hn : ∀ p ∈ nx, p ∈ news') (ho : ∀ p ∈ own, p ∈ news') (ha : OwnOff own (nx.map (·.1))) (hj : J m' nx) : InvPostG h₀ L J own s Q .next { s with heap := h', toks := tk } := InvEndG.intro F N hj ha hn ho
theorem while_next {h₀ h' : Heap} {L : Addr} {J : Nat → (Str → Option Value) → List (Addr × Obj) → Prop} {n n' : Nat} {news₂ : List (Addr × Obj)} {s : Shared} {Q : Flow → Shared → Prop} {m₂ : Str → Option Value} {tk : Nat}
    (F : Fr h₀ L h' m₂) (N : News h₀ L h' news₂) (hn : n' < n) (hj : J n' m₂ news₂) : WhileStep2 h₀ L s J Q n .next { s with heap := h', toks := tk } := ⟨h', tk, m₂, news₂, n', rfl, F, N, hn, hj⟩
theorem while_cont {h₀ h' : Heap} {L : Addr} {J : Nat → (Str → Option Value) → List (Addr × Obj) → Prop} {n n' : Nat} {news₂ : List (Addr × Obj)} {s : Shared} {Q : Flow → Shared → Prop} {m₂ : Str → Option Value} {tk : Nat}
    (F : Fr h₀ L h' m₂) (N : News h₀ L h' news₂) (hn : n' < n) (hj : J n' m₂ news₂) : WhileStep2 h₀ L s J Q n .cont { s with heap := h', toks := tk } := ⟨h', tk, m₂, news₂, n', rfl, F, N, hn, hj⟩
theorem while_break {h₀ : Heap} {L : Addr} {J : Nat → (Str → Option Value) → List (Addr × Obj) → Prop} {n : Nat} {s s' : Shared} {Q : Flow → Shared → Prop} (h : Q .next s') : WhileStep2 h₀ L s J Q n .brk s' := h
/-- a statement that neither breaks nor returns: what follows it is walked once -/
theorem exec_then {prog : Program} {w : World} {A : Around} {E : Value → Shared → Prop} {Q : Flow → Shared → Prop} {s : Shared} {env : Env} {h₀ : Heap} {L : Addr} {st : Stmt} {m₀ : Str → Option Value} (JE : (Str → Option Value) → List (Addr × Obj) → Prop) (_ : Fr h₀ L s.heap m₀)
    (h : wpAny (model prog w) A (exec st env) (ExitQ h₀ L s JE) E s) (next : ∀ h tk m nx, Fr h₀ L h m → News h₀ L h nx → JE m nx → Q .next { s with heap := h, toks := tk }) : wpAny (model prog w) A (exec st env) Q E s :=
  wpAny_mono h (fun f s₂ h => by
    cases f with
    | next => obtain ⟨h', tk, m', nx, rfl, F', N', j⟩ := h; exact next h' tk m' nx F' N' j
    | _ => exact h.elim) fun _ _ e => e
/-- what a call costs, within what is left -/
theorem dlt {a b c k l : Nat} (h : a + c < l) (e : k + b ≤ c) : a + k + b < l := Nat.lt_of_le_of_lt (by rw [Nat.add_assoc]; exact Nat.add_le_add_left e a) h
end

section


noncomputable def Pre2 (k : Nat) (a b n : Int) : Prop := 0 ≤ a ∧ 0 < n ∧ n ≤ 2000 * 2 ^ k ∧ k ≤ 12 ∧ 2 ^ n.toNat ≤ 2 * b ∧ b < 2 ^ n.toNat ∧ a < b * 2 ^ n.toNat
noncomputable def Pre3 (k : Nat) (a12 a3 b b1 b2 n : Int) : Prop := 0 < n ∧ n ≤ 2000 * 2 ^ k ∧ k ≤ 12 ∧ 0 ≤ a12 ∧ a12 < b ∧ 0 ≤ a3 ∧ a3 < 2 ^ n.toNat ∧ b = b1 * 2 ^ n.toNat + b2 ∧ 0 ≤ b2 ∧ b2 < 2 ^ n.toNat ∧ 2 ^ n.toNat ≤ 2 * b1 ∧ b1 < 2 ^ n.toNat

theorem two_pow_le {k : Nat} (h : k ≤ 12) : (2 : Int) ^ k ≤ 4096 := by
  have : 2 ^ k ≤ 2 ^ 12 := Nat.pow_le_pow_right (by decide) h
  have h2 : ((2 ^ k : Nat) : Int) = (2 : Int) ^ k := by simp
  omega
theorem n_small {k : Nat} {n : Int} (h : n ≤ 2000 * 2 ^ k) (hk : k ≤ 12) : n ≤ 8192000 := by
  have := two_pow_le hk
  omega
theorem pow_pos (n : Nat) : (0 : Int) < 2 ^ n := kbt_pos n
theorem bits_le {x : Int} {m : Nat} (h0 : 0 ≤ x) (h : x < 2 ^ m) : Builtin.Int.intBits x ≤ m := by
  refine intBits_le_iff.mpr ?_
  have : ((2 ^ m : Nat) : Int) = (2 : Int) ^ m := by simp
  omega
theorem lt_of_bits {x : Int} {m : Nat} (h0 : 0 ≤ x) (h : Builtin.Int.intBits x ≤ m) : x < 2 ^ m := by
  have h1 := intBits_le_iff.mp h
  have : ((2 ^ m : Nat) : Int) = (2 : Int) ^ m := by simp
  omega
theorem sh_ok {x n : Int} {k : Nat} (h0 : 0 ≤ x) (h : x < 2 ^ (n.toNat + 1)) (hn : 0 < n) (h2 : n ≤ 2000 * 2 ^ k) (hk : k ≤ 12) : (Builtin.Int.intBits x : Int) + n ≤ 2 ^ 27 := by
  have h1 := bits_le h0 h
  have := n_small h2 hk
  omega
theorem pow_succ' (n : Nat) : (2 : Int) ^ (n + 1) = 2 * 2 ^ n := by rw [Int.pow_succ]; omega

theorem fdiv_pow {x : Int} {n : Nat} : x.fdiv (2 ^ n) = x / 2 ^ n := Int.fdiv_eq_ediv_of_nonneg _ (Int.le_of_lt (pow_pos n))
end

section

theorem and_low {r a : Int} {n : Nat} (hr : 0 ≤ r) (h0 : 0 ≤ a) (h : a < 2 ^ n) : Builtin.bitAnd (r * 2 ^ n) a = 0 := by
  obtain ⟨R, rfl⟩ := Int.eq_ofNat_of_zero_le hr
  obtain ⟨X, rfl⟩ := Int.eq_ofNat_of_zero_le h0
  have e : ((2 ^ n : Nat) : Int) = (2 : Int) ^ n := by simp
  rw [← e] at h ⊢
  have hX : X < 2 ^ n := by omega
  rw [bitAnd_pp (by exact Int.mul_nonneg (by omega) (by omega)) (by omega)]
  have e1 : ((R : Int) * ((2 ^ n : Nat) : Int)).toNat = 2 ^ n * R := by
    rw [← Int.natCast_mul, Int.toNat_natCast, Nat.mul_comm]
  rw [e1, Int.toNat_natCast]
  have h1 := Nat.two_pow_add_eq_or_of_lt hX R
  have h2 := nat_or_add_and (2 ^ n * R) X
  omega
theorem or_low' {r a : Int} {n : Nat} (hr : 0 ≤ r) (h0 : 0 ≤ a) (h : a < 2 ^ n) : Builtin.bitOr (r * 2 ^ n) a = r * 2 ^ n + a := by
  rw [bitOr_and, and_low hr h0 h]; omega

/-- the first branch of _div3n2n: a12 >> n == b1 -/
theorem low_of {k : Nat} {a12 a3 b b1 b2 n : Int} (h : Pre3 k a12 a3 b b1 b2 n) (e : a12.fdiv (2 ^ n.toNat) = b1) : 0 ≤ a12 - b1 * 2 ^ n.toNat ∧ a12 - b1 * 2 ^ n.toNat < b2 := by
  obtain ⟨_, _, _, h0, h1, _, _, hb, _, _, _, _⟩ := h
  rw [fdiv_pow] at e
  have h2 := Int.mul_ediv_add_emod a12 (2 ^ n.toNat)
  have h3 := Int.emod_nonneg a12 (Int.ne_of_gt (pow_pos n.toNat))
  rw [e] at h2
  have : b1 * 2 ^ n.toNat = 2 ^ n.toNat * b1 := Int.mul_comm _ _
  omega
theorem d3_r1 {k : Nat} {a12 a3 b b1 b2 n : Int} (h : Pre3 k a12 a3 b b1 b2 n) (e : a12.fdiv (2 ^ n.toNat) = b1) : (Builtin.Int.intBits (a12 - b1 * 2 ^ n.toNat + b1) : Int) + n ≤ 2 ^ 27 := by
  have hl := low_of h e
  obtain ⟨h1, h2, h3, h4, h5, h6, h7, hb, h8, h9, h10, h11⟩ := h
  have hp := pow_pos n.toNat
  refine sh_ok (k := k) (by omega) ?_ h1 h2 h3
  rw [pow_succ']; omega
theorem d3_one {k : Nat} {a12 a3 b b1 b2 n : Int} (h : Pre3 k a12 a3 b b1 b2 n) : (Builtin.Int.intBits 1 : Int) + n ≤ 2 ^ 27 := by
  obtain ⟨h1, h2, h3, h4, h5, h6, h7, hb, h8, h9, h10, h11⟩ := h
  have hp := pow_pos n.toNat
  refine sh_ok (k := k) (by omega) ?_ h1 h2 h3
  rw [pow_succ']; omega
theorem d3_b1 {k : Nat} {a12 a3 b b1 b2 n : Int} (h : Pre3 k a12 a3 b b1 b2 n) : (Builtin.Int.intBits b1 : Int) + n ≤ 2 ^ 27 := by
  obtain ⟨h1, h2, h3, h4, h5, h6, h7, hb, h8, h9, h10, h11⟩ := h
  have hp := pow_pos n.toNat
  refine sh_ok (k := k) (by omega) ?_ h1 h2 h3
  rw [pow_succ']; omega
theorem d3_r2 {k : Nat} {a12 a3 b b1 b2 n : Int} (h : Pre3 k a12 a3 b b1 b2 n) : (Builtin.Int.intBits (a12 % b1) : Int) + n ≤ 2 ^ 27 := by
  obtain ⟨h1, h2, h3, h4, h5, h6, h7, hb, h8, h9, h10, h11⟩ := h
  have hp := pow_pos n.toNat
  have e1 := Int.emod_nonneg a12 (b := b1) (by omega)
  have e2 := Int.emod_lt_of_pos a12 (b := b1) (by omega)
  refine sh_ok (k := k) (by omega) ?_ h1 h2 h3
  rw [pow_succ']; omega
/-- a12 < b1 * 2^n on the other branch -/
theorem d3_lt {k : Nat} {a12 a3 b b1 b2 n : Int} (h : Pre3 k a12 a3 b b1 b2 n) (e : a12.fdiv (2 ^ n.toNat) ≠ b1) : a12 < b1 * 2 ^ n.toNat := by
  obtain ⟨h1, h2, h3, h4, h5, h6, h7, hb, h8, h9, h10, h11⟩ := h
  have hp := pow_pos n.toNat
  rw [fdiv_pow] at e
  have l : a12 / 2 ^ n.toNat < b1 + 1 := by
    refine Int.ediv_lt_of_lt_mul hp ?_
    rw [Int.add_mul, Int.one_mul]; omega
  have l2 : a12 / 2 ^ n.toNat < b1 := by omega
  exact Int.lt_mul_of_ediv_lt hp l2
theorem d3_pre2 {k : Nat} {a12 a3 b b1 b2 n : Int} (h : Pre3 k a12 a3 b b1 b2 n) (e : a12.fdiv (2 ^ n.toNat) ≠ b1) : Pre2 k a12 b1 n := by
  have hl := d3_lt h e
  obtain ⟨h1, h2, h3, h4, h5, h6, h7, hb, h8, h9, h10, h11⟩ := h
  exact ⟨h4, h1, h2, h3, h10, h11, hl⟩
theorem d3_m1 {k : Nat} {a12 a3 b b1 b2 n : Int} (h : Pre3 k a12 a3 b b1 b2 n) : IntMulOk (1 * 2 ^ n.toNat - 1) b2 := by
  obtain ⟨h1, h2, h3, h4, h5, h6, h7, hb, h8, h9, h10, h11⟩ := h
  have hp := pow_pos n.toNat
  have := n_small h2 h3
  exact IntMulOk.of_le (m := n.toNat) (n := n.toNat) (bits_le (by omega) (by omega)) (bits_le h8 h9) (by omega)
theorem d3_m2 {k : Nat} {a12 a3 b b1 b2 n : Int} (h : Pre3 k a12 a3 b b1 b2 n) (e : a12.fdiv (2 ^ n.toNat) ≠ b1) : IntMulOk (a12 / b1) b2 := by
  have hl := d3_lt h e
  obtain ⟨h1, h2, h3, h4, h5, h6, h7, hb, h8, h9, h10, h11⟩ := h
  have hp := pow_pos n.toNat
  have := n_small h2 h3
  have q0 : 0 ≤ a12 / b1 := Int.ediv_nonneg h4 (by omega)
  have q1 : a12 / b1 < 2 ^ n.toNat := Int.ediv_lt_of_lt_mul (by omega) (by rw [Int.mul_comm]; exact hl)
  exact IntMulOk.of_le (m := n.toNat) (n := n.toNat) (bits_le q0 q1) (bits_le h8 h9) (by omega)
/-- the word of the while -/
noncomputable def W3 (A b q r : Int) : Prop := q * b + r = A ∧ r < b ∧ 0 < b
theorem w3_one {k : Nat} {a12 a3 b b1 b2 n : Int} (h : Pre3 k a12 a3 b b1 b2 n) (e : a12.fdiv (2 ^ n.toNat) = b1) :
    W3 (a12 * 2 ^ n.toNat + a3) b (1 * 2 ^ n.toNat - 1) (Builtin.bitOr ((a12 - b1 * 2 ^ n.toNat + b1) * 2 ^ n.toNat) a3 - (1 * 2 ^ n.toNat - 1) * b2) := by
  have hl := low_of h e
  obtain ⟨h1, h2, h3, h4, h5, h6, h7, hb, h8, h9, h10, h11⟩ := h
  have hp := pow_pos n.toNat
  rw [or_low' (by omega) h6 h7]
  generalize (2 : Int) ^ n.toNat = P at *
  refine ⟨by subst hb; grind, ?_, by omega⟩
  have m1 : (a12 - b1 * P) * P ≤ (b2 - 1) * P := Int.mul_le_mul_of_nonneg_right (by omega) (by omega)
  have e1 : (a12 - b1 * P + b1) * P + a3 - (1 * P - 1) * b2 = (a12 - b1 * P) * P + b1 * P + a3 - P * b2 + b2 := by grind
  have e2 : (b2 - 1) * P = P * b2 - P := by grind
  omega
theorem w3_two {k : Nat} {a12 a3 b b1 b2 n : Int} (h : Pre3 k a12 a3 b b1 b2 n) :
    W3 (a12 * 2 ^ n.toNat + a3) b (a12 / b1) (Builtin.bitOr (a12 % b1 * 2 ^ n.toNat) a3 - (a12 / b1) * b2) := by
  obtain ⟨h1, h2, h3, h4, h5, h6, h7, hb, h8, h9, h10, h11⟩ := h
  have hp := pow_pos n.toNat
  have e0 := Int.emod_nonneg a12 (b := b1) (by omega)
  have e1 := Int.emod_lt_of_pos a12 (b := b1) (by omega)
  have e2 := Int.mul_ediv_add_emod a12 b1
  have q0 : 0 ≤ a12 / b1 := Int.ediv_nonneg h4 (by omega)
  rw [or_low' e0 h6 h7]
  generalize (2 : Int) ^ n.toNat = P at *
  generalize a12 / b1 = q at *
  generalize a12 % b1 = r at *
  refine ⟨by subst hb; rw [← e2]; grind, ?_, by omega⟩
  have m1 : r * P ≤ (b1 - 1) * P := Int.mul_le_mul_of_nonneg_right (by omega) (by omega)
  have m2 : 0 ≤ q * b2 := Int.mul_nonneg q0 h8
  have e3 : (b1 - 1) * P = b1 * P - P := by grind
  omega
theorem w3_turn {A b q r : Int} (h : W3 A b q r) : W3 A b (q - 1) (r + b) ∨ 0 ≤ r := by
  obtain ⟨h1, h2, h3⟩ := h
  by_cases hr : 0 ≤ r
  · exact .inr hr
  · exact .inl ⟨by grind, by omega, h3⟩
theorem w3_end {A b q r : Int} (h : W3 A b q r) (hr : ¬ r < 0) : A / b = q ∧ A % b = r := by
  obtain ⟨h1, h2, h3⟩ := h
  exact (Int.ediv_emod_unique h3).mpr ⟨by grind, by omega, h2⟩
end

section


/-- an even, normalised call of _div2n1n that must recurse: k + 1 levels are left -/
noncomputable def E2 (k : Nat) (a b n : Int) : Prop := 0 ≤ a ∧ 0 < n ∧ n % 2 = 0 ∧ n ≤ 2000 * 2 ^ (k + 1) ∧ k + 1 ≤ 12 ∧ 2 ^ n.toNat ≤ 2 * b ∧ b < 2 ^ n.toNat ∧ a < b * 2 ^ n.toNat
noncomputable def HN (n : Int) : Int := n.fdiv (2 ^ Int.toNat 1)

theorem toNat_one : Int.toNat 1 = 1 := rfl
theorem HN_eq (n : Int) : HN n = n / 2 := by
  show n.fdiv (2 ^ 1) = _
  rw [fdiv_pow]; rfl
theorem one_pow (x : Int) : x * 2 ^ Int.toNat 1 = 2 * x := by
  show x * 2 ^ 1 = _
  omega
theorem kpow_le {k : Nat} (h : k ≤ 12) : (2 : Int) ^ k ≤ 2 ^ 12 := by
  have := two_pow_le h
  omega
theorem pow_even {n : Int} (h0 : 0 ≤ n) (h : n % 2 = 0) : (2 : Int) ^ n.toNat = 2 ^ (HN n).toNat * 2 ^ (HN n).toNat := by
  rw [← Int.pow_add, HN_eq]
  congr 1
  omega
theorem div_even {n a : Int} (h0 : 0 ≤ n) (h : n % 2 = 0) : a / 2 ^ n.toNat = a / 2 ^ (HN n).toNat / 2 ^ (HN n).toNat := by
  rw [pow_even h0 h, Int.ediv_ediv_of_nonneg (Int.le_of_lt (pow_pos _))]

theorem E2.half {k : Nat} {a b n : Int} (h : E2 k a b n) : 0 < HN n ∧ HN n ≤ 2000 * 2 ^ k := by
  obtain ⟨h1, h2, h3, h4, h5, h6, h7, h8⟩ := h
  rw [HN_eq]
  rw [pow_succ'] at h4
  omega

theorem half_pow {h : Int} (h0 : 0 < h) : ∃ P : Int, 0 < P ∧ (2 : Int) ^ h.toNat = 2 * P := by
  refine ⟨2 ^ (h.toNat - 1), pow_pos _, ?_⟩
  rw [← pow_succ']
  congr 1
  omega

theorem E2.b1 {k : Nat} {a b n : Int} (h : E2 k a b n) : 2 ^ (HN n).toNat ≤ 2 * (b / 2 ^ (HN n).toNat) ∧ b / 2 ^ (HN n).toNat < 2 ^ (HN n).toNat := by
  have hh := h.half
  obtain ⟨h1, h2, h3, h4, h5, h6, h7, h8⟩ := h
  obtain ⟨P, hP, e⟩ := half_pow hh.1
  rw [pow_even (by omega) h3] at h6 h7 h8
  have hp := pow_pos (HN n).toNat
  refine ⟨?_, Int.ediv_lt_of_lt_mul hp h7⟩
  have : P ≤ b / 2 ^ (HN n).toNat := by
    refine Int.le_ediv_of_mul_le hp ?_
    rw [e] at h6 ⊢
    have e1 : 2 * P * (2 * P) = 2 * (P * (2 * P)) := by grind
    omega
  omega

theorem e2_pre1 {k : Nat} {a b n : Int} (h : E2 k a b n) :
    Pre3 k (a.fdiv (2 ^ n.toNat)) (Builtin.bitAnd (a.fdiv (2 ^ (HN n).toNat)) (1 * 2 ^ (HN n).toNat - 1)) b (b.fdiv (2 ^ (HN n).toNat)) (Builtin.bitAnd b (1 * 2 ^ (HN n).toNat - 1)) (HN n) := by
  have hh := h.half
  have hb1 := h.b1
  obtain ⟨h1, h2, h3, h4, h5, h6, h7, h8⟩ := h
  simp only [Int.one_mul, kbt_mask, fdiv_pow]
  have hp := pow_pos (HN n).toNat
  have hpn := pow_pos n.toNat
  refine ⟨hh.1, hh.2, by omega, Int.ediv_nonneg h1 (by omega), Int.ediv_lt_of_lt_mul hpn h8, Int.emod_nonneg _ (by omega), Int.emod_lt_of_pos _ hp, ?_, Int.emod_nonneg _ (by omega), Int.emod_lt_of_pos _ hp, hb1.1, hb1.2⟩
  have := Int.mul_ediv_add_emod b (2 ^ (HN n).toNat)
  rw [Int.mul_comm] at this
  omega
/-- what the first call of _div3n2n divides -/
noncomputable def U1 (a n : Int) : Int := a.fdiv (2 ^ n.toNat) * 2 ^ (HN n).toNat + Builtin.bitAnd (a.fdiv (2 ^ (HN n).toNat)) (1 * 2 ^ (HN n).toNat - 1)
theorem U1_eq {a n : Int} (h0 : 0 ≤ n) (h : n % 2 = 0) : U1 a n = a / 2 ^ (HN n).toNat := by
  unfold U1
  simp only [Int.one_mul, kbt_mask, fdiv_pow, div_even h0 h]
  have := Int.mul_ediv_add_emod (a / 2 ^ (HN n).toNat) (2 ^ (HN n).toNat)
  rw [Int.mul_comm] at this
  omega
theorem e2_pre2 {k : Nat} {a b n : Int} (h : E2 k a b n) :
    Pre3 k (U1 a n % b) (Builtin.bitAnd a (1 * 2 ^ (HN n).toNat - 1)) b (b.fdiv (2 ^ (HN n).toNat)) (Builtin.bitAnd b (1 * 2 ^ (HN n).toNat - 1)) (HN n) := by
  have hp1 := e2_pre1 h
  obtain ⟨g1, g2, g3, g4, g5, g6, g7, g8, g9, g10, g11, g12⟩ := hp1
  have hb : 0 < b := by omega
  have hp := pow_pos (HN n).toNat
  refine ⟨g1, g2, g3, Int.emod_nonneg _ (by omega), Int.emod_lt_of_pos _ hb, ?_, ?_, g8, g9, g10, g11, g12⟩
  · rw [Int.one_mul, kbt_mask]; exact Int.emod_nonneg _ (by omega)
  · rw [Int.one_mul, kbt_mask]; exact Int.emod_lt_of_pos _ hp
noncomputable def U2 (a b n : Int) : Int := U1 a n % b * 2 ^ (HN n).toNat + Builtin.bitAnd a (1 * 2 ^ (HN n).toNat - 1)
theorem e2_q2 {k : Nat} {a b n : Int} (h : E2 k a b n) : 0 ≤ U2 a b n / b ∧ U2 a b n / b < 2 ^ (HN n).toNat := by
  obtain ⟨g1, g2, g3, g4, g5, g6, g7, g8, g9, g10, g11, g12⟩ := e2_pre2 h
  have hb : 0 < b := by omega
  have hp := pow_pos (HN n).toNat
  have m0 : 0 ≤ U1 a n % b * 2 ^ (HN n).toNat := Int.mul_nonneg g4 (by omega)
  have m1 : U1 a n % b * 2 ^ (HN n).toNat ≤ (b - 1) * 2 ^ (HN n).toNat := Int.mul_le_mul_of_nonneg_right (by omega) (by omega)
  have e1 : (b - 1) * 2 ^ (HN n).toNat = b * 2 ^ (HN n).toNat - 2 ^ (HN n).toNat := by grind
  refine ⟨Int.ediv_nonneg (by unfold U2; omega) (by omega), Int.ediv_lt_of_lt_mul hb ?_⟩
  unfold U2
  rw [Int.mul_comm _ b]
  omega
theorem e2_q1 {k : Nat} {a b n : Int} (h : E2 k a b n) : 0 ≤ U1 a n / b ∧ U1 a n / b < 2 ^ (HN n).toNat := by
  obtain ⟨g1, g2, g3, g4, g5, g6, g7, g8, g9, g10, g11, g12⟩ := e2_pre1 h
  have hb : 0 < b := by omega
  have hp := pow_pos (HN n).toNat
  obtain ⟨h1, h2, h3, h4, h5, h6, h7, h8⟩ := h
  rw [U1_eq (by omega) h3]
  refine ⟨Int.ediv_nonneg (Int.ediv_nonneg h1 (by omega)) (by omega), Int.ediv_lt_of_lt_mul hb (Int.ediv_lt_of_lt_mul hp ?_)⟩
  rw [pow_even (by omega) h3] at h8
  have : b * (2 ^ (HN n).toNat * 2 ^ (HN n).toNat) = 2 ^ (HN n).toNat * b * 2 ^ (HN n).toNat := by grind
  omega
theorem e2_all {k : Nat} {a b n : Int} (h : E2 k a b n) :
    a / b = Builtin.bitOr (U1 a n / b * 2 ^ (HN n).toNat) (U2 a b n / b) ∧ a % b = U2 a b n % b := by
  have q1 := e2_q1 h
  have q2 := e2_q2 h
  rw [or_low' q1.1 q2.1 q2.2]
  obtain ⟨g1, g2, g3, g4, g5, g6, g7, g8, g9, g10, g11, g12⟩ := e2_pre2 h
  have hb : 0 < b := by omega
  obtain ⟨h1, h2, h3, h4, h5, h6, h7, h8⟩ := h
  have eU1 := Int.mul_ediv_add_emod (U1 a n) b
  have eU2 := Int.mul_ediv_add_emod (U2 a b n) b
  refine (Int.ediv_emod_unique hb).mpr ⟨?_, Int.emod_nonneg _ (by omega), Int.emod_lt_of_pos _ hb⟩
  have ea : U1 a n * 2 ^ (HN n).toNat + Builtin.bitAnd a (1 * 2 ^ (HN n).toNat - 1) = a := by
    rw [U1_eq (by omega) h3, Int.one_mul, kbt_mask]
    have := Int.mul_ediv_add_emod a (2 ^ (HN n).toNat)
    rw [Int.mul_comm] at this
    omega
  have e2 : U2 a b n = U1 a n % b * 2 ^ (HN n).toNat + Builtin.bitAnd a (1 * 2 ^ (HN n).toNat - 1) := rfl
  generalize (2 : Int) ^ (HN n).toNat = P at *
  generalize U2 a b n / b = x2 at *
  generalize U2 a b n % b = y2 at *
  generalize U1 a n / b = x1 at *
  generalize U1 a n % b = y1 at *
  generalize Builtin.bitAnd a (1 * P - 1) = z at *
  generalize U2 a b n = u2 at *
  generalize U1 a n = u1 at *
  rw [← ea, ← eU1]
  have : b * x2 + y2 = y1 * P + z := by omega
  grind

theorem p2_big {k : Nat} {a b n : Int} (h : Pre2 k a b n) (hb : ¬ (Builtin.Int.intBits a : Int) - n ≤ 4000) : 4000 < n := by
  obtain ⟨h1, h2, h3, h4, h5, h6, h7⟩ := h
  have hp := pow_pos n.toNat
  have : a < 2 ^ (n.toNat + n.toNat) := by
    rw [Int.pow_add]
    have : b * 2 ^ n.toNat ≤ 2 ^ n.toNat * 2 ^ n.toNat := Int.mul_le_mul_of_nonneg_right (by omega) (by omega)
    omega
  have := bits_le h1 this
  omega
theorem p2_even {k : Nat} {a b n : Int} (h : Pre2 (k + 1) a b n) (e : Builtin.bitAnd n 1 = 0) : E2 k a b n := by
  obtain ⟨h1, h2, h3, h4, h5, h6, h7⟩ := h
  rw [bitAnd_m1] at e
  exact ⟨h1, h2, e, h3, h4, h5, h6, h7⟩
theorem p2_odd {k : Nat} {a b n : Int} (h : Pre2 (k + 1) a b n) (e : Builtin.bitAnd n 1 ≠ 0) : E2 k (a * 2 ^ Int.toNat 1) (b * 2 ^ Int.toNat 1) (n + 1) := by
  obtain ⟨h1, h2, h3, h4, h5, h6, h7⟩ := h
  rw [bitAnd_m1] at e
  rw [one_pow, one_pow]
  have ep : (2 : Int) ^ (n + 1).toNat = 2 * 2 ^ n.toNat := by
    rw [← pow_succ']; congr 1; omega
  have hp := pow_pos n.toNat
  rw [pow_succ'] at h3
  have e2 : 2 * b * (2 * 2 ^ n.toNat) = 4 * (b * 2 ^ n.toNat) := by grind
  refine ⟨by omega, by omega, by omega, ?_, h4, ?_, ?_, ?_⟩
  · rw [pow_succ']; omega
  · omega
  · omega
  · rw [ep, e2]; have := Int.mul_nonneg (show 0 ≤ b by omega) (show 0 ≤ (2 : Int) ^ n.toNat by omega); omega
theorem p2_k {k : Nat} {a b n : Int} (h : Pre2 k a b n) (hb : ¬ (Builtin.Int.intBits a : Int) - n ≤ 4000) : ∃ k', k = k' + 1 := by
  have := p2_big h hb
  obtain ⟨h1, h2, h3, h4, h5, h6, h7⟩ := h
  cases k with
  | zero => simp at h3; omega
  | succ k => exact ⟨k, rfl⟩
theorem odd_all {k : Nat} {a b n : Int} (h : Pre2 (k + 1) a b n) (e : Builtin.bitAnd n 1 ≠ 0) :
    a / b = Builtin.bitOr (U1 (a * 2 ^ Int.toNat 1) (n + 1) / (b * 2 ^ Int.toNat 1) * 2 ^ (HN (n + 1)).toNat) (U2 (a * 2 ^ Int.toNat 1) (b * 2 ^ Int.toNat 1) (n + 1) / (b * 2 ^ Int.toNat 1)) ∧
    a % b = (U2 (a * 2 ^ Int.toNat 1) (b * 2 ^ Int.toNat 1) (n + 1) % (b * 2 ^ Int.toNat 1)).fdiv (2 ^ Int.toNat 1) := by
  have q := e2_all (p2_odd h e)
  rw [← q.1, ← q.2]
  show _ ∧ a % b = ((a * 2 ^ Int.toNat 1) % (b * 2 ^ Int.toNat 1)).fdiv (2 ^ 1)
  rw [fdiv_pow, one_pow, one_pow, Int.mul_ediv_mul_of_pos _ _ (by decide), Int.mul_emod_mul_of_pos _ _ (by decide)]
  exact ⟨rfl, by omega⟩

theorem p2_sa {k : Nat} {a b n : Int} (h : Pre2 k a b n) : (Builtin.Int.intBits a : Int) + 1 ≤ 2 ^ 27 := by
  obtain ⟨h1, h2, h3, h4, h5, h6, h7⟩ := h
  have hp := pow_pos n.toNat
  have hs := n_small h3 h4
  have : a < 2 ^ (n.toNat + n.toNat) := by
    rw [Int.pow_add]
    have : b * 2 ^ n.toNat ≤ 2 ^ n.toNat * 2 ^ n.toNat := Int.mul_le_mul_of_nonneg_right (by omega) (by omega)
    omega
  have := bits_le h1 this
  omega
theorem p2_sb {k : Nat} {a b n : Int} (h : Pre2 k a b n) : (Builtin.Int.intBits b : Int) + 1 ≤ 2 ^ 27 := by
  obtain ⟨h1, h2, h3, h4, h5, h6, h7⟩ := h
  have hp := pow_pos n.toNat
  have hs := n_small h3 h4
  have := bits_le (show 0 ≤ b by omega) h6
  omega
theorem e2_s1 {k : Nat} {a b n : Int} (h : E2 k a b n) : (Builtin.Int.intBits 1 : Int) + HN n ≤ 2 ^ 27 := d3_one (e2_pre1 h)
theorem e2_s2 {k : Nat} {a b n : Int} (h : E2 k a b n) : (Builtin.Int.intBits (U1 a n / b) : Int) + HN n ≤ 2 ^ 27 := by
  have q := e2_q1 h
  obtain ⟨g1, g2, g3, g4, g5, g6, g7, g8, g9, g10, g11, g12⟩ := e2_pre1 h
  refine sh_ok (k := k) q.1 ?_ g1 g2 g3
  rw [pow_succ']; omega
theorem e2_h0 {k : Nat} {a b n : Int} (h : E2 k a b n) : 0 ≤ HN n := Int.le_of_lt h.half.1
theorem e2_n0 {k : Nat} {a b n : Int} (h : E2 k a b n) : 0 ≤ n := Int.le_of_lt h.2.1

theorem p2_np {k : Nat} {a b n : Int} (h : Pre2 k a b n) (hb : (Builtin.Int.intBits a : Int) - n ≤ 4000) : Builtin.divisionGoesByPylong a b = false := by
  obtain ⟨h1, h2, h3, h4, h5, h6, h7⟩ := h
  have hp := pow_pos n.toNat
  have hb0 : b ≠ 0 := by omega
  unfold Builtin.divisionGoesByPylong
  have e1 : (b == 0) = false := by simpa using hb0
  simp only [e1, Bool.false_eq_true, if_false]
  have lb : n.toNat - 1 ≤ b.natAbs.log2 := by
    refine (Nat.le_log2 (by omega)).mpr ?_
    have ep : (2 : Int) ^ n.toNat = 2 * 2 ^ (n.toNat - 1) := by rw [← pow_succ']; congr 1; omega
    have ec : ((2 ^ (n.toNat - 1) : Nat) : Int) = (2 : Int) ^ (n.toNat - 1) := by simp
    omega
  by_cases ha : a = 0
  · subst ha; simp
  · have e2 : (a == 0) = false := by simpa using ha
    simp only [e2, Bool.false_eq_true, if_false]
    have la : (Builtin.Int.intBits a : Int) = a.natAbs.log2 + 1 := by
      unfold Builtin.Int.intBits
      simp only [e2, Bool.false_eq_true, if_false]; omega
    rw [Bool.and_eq_false_iff]
    right
    refine decide_eq_false ?_
    omega
theorem p2_b0 {k : Nat} {a b n : Int} (h : Pre2 k a b n) : b ≠ 0 := by
  obtain ⟨h1, h2, h3, h4, h5, h6, h7⟩ := h
  have hp := pow_pos n.toNat
  omega
theorem p2_dm {k : Nat} {a b n : Int} (h : Pre2 k a b n) : a / b = a.fdiv b ∧ a % b = a.fmod b := by
  obtain ⟨h1, h2, h3, h4, h5, h6, h7⟩ := h
  have hp := pow_pos n.toNat
  exact ⟨(Int.fdiv_eq_ediv_of_nonneg _ (by omega)).symm, (Int.fmod_eq_emod_of_nonneg _ (by omega)).symm⟩
end

section

set_option maxRecDepth 100000
set_option maxHeartbeats 8000000

theorem w3_turn' {A b q r : Int} (h : W3 A b q r) (hr : r < 0) : W3 A b (q - 1) (r + b) := (w3_turn h).resolve_right (by omega)
theorem w3_less {A b q r : Int} (h : W3 A b q r) (hr : r < 0) : (-(r + b)).toNat < (-r).toNat := by
  have := h.2.2
  omega
end

section

set_option maxRecDepth 100000
set_option maxHeartbeats 8000000
/-- before the halves: the call made even -/
inductive JD (k : Nat) (a b : Int) (news : List (Addr × Obj)) (m : Str → Option Value) (nx : List (Addr × Obj)) : Prop
  | mk (a' b' n' pd : Int) (ta tb tn tp : Tok) (e : nx = news) (e1 : m (Str.ofString "a") = some (.int a' ta)) (e2 : m (Str.ofString "b") = some (.int b' tb)) (e3 : m (Str.ofString "n") = some (.int n' tn)) (e4 : m (Str.ofString "pad") = some (.int pd tp))
      (hE : E2 k a' b' n') (even : pd = 0 → ∀ q r, a' / b' = q ∧ a' % b' = r → a / b = q ∧ a % b = r) (odd : pd ≠ 0 → ∀ q r, a' / b' = q ∧ a' % b' = r → a / b = q ∧ a % b = r.fdiv (2 ^ Int.toNat 1))
theorem odd_fin {k : Nat} {a b n : Int} (h : Pre2 (k + 1) a b n) (e : Builtin.bitAnd n 1 ≠ 0) : ∀ q r, a * 2 ^ Int.toNat 1 / (b * 2 ^ Int.toNat 1) = q ∧ a * 2 ^ Int.toNat 1 % (b * 2 ^ Int.toNat 1) = r → a / b = q ∧ a % b = r.fdiv (2 ^ Int.toNat 1) := by
  rintro q r ⟨rfl, rfl⟩
  have o := odd_all h e
  have q := e2_all (p2_odd h e)
  rw [← q.1, ← q.2] at o
  exact o
end

section

end

section

set_option maxRecDepth 100000

/-- tuples of ints, one less than another -/
noncomputable def lexLt : List Int → List Int → Bool
  | [], [] => false
  | [], _ :: _ => true
  | _ :: _, [] => false
  | x :: xs, y :: ys => if x = y then lexLt xs ys else decide (x < y)

theorem slot_tuple_lt : Slot "tuple" (cmpInfo .Lt).2.1 "tuple.__lt__" :=
  .of (owner := "tuple") (n := "__lt__") (by rw [typeLookup_type, builtinLookup_eq_fast]; kernel_rfl) (by decide +kernel) (by decide +kernel) (by decide +kernel)
    (by first | exact .inl (by decide +kernel) | exact .inr (by decide +kernel)) (by rw [isSubtype_type]; kernel_rfl)
theorem entry_tuple_lt : entryFor table "tuple.__lt__" = some Builtin.«tuple.__lt__» := entryFor_of_fast (by kernel_rfl)
theorem args_tuple_lt (a b : Value) : argsOk "tuple.__lt__" ⟨[a, b], []⟩ := by unfold argsOk; kernel_rfl

/-- a tuple of ints stands at a -/
noncomputable def TupI (h : Heap) (a : Addr) (ks : List Int) : Prop := ∃ o vs n, h.get? a = some o ∧ o.cls = .type "tuple" ∧ o.data = .seq (List.toArray vs) n ∧ IntsAre vs ks

section
variable {prog : Program} {w : World} {A : Around} {E : Value → Shared → Prop} {s : Shared}
theorem TupI.typeIs {a : Addr} {ks : List Int} (h : TupI s.heap a ks) : s.TypeIs (.ref a) "tuple" := by
  obtain ⟨o, vs, n, ho, hc, _⟩ := h
  exact ⟨o, ho, hc⟩
theorem lt_tuple_tree {a b : Addr} {x y : List Int} {P : Fin → Shared → Prop} (hx : TupI s.heap a x) (hy : TupI s.heap b y) (h : P (.done (.ret (.bool (lexLt x y)))) s) :
    wpAny (model prog w) A (Builtin.«tuple.__lt__» ⟨[.ref a, .ref b], []⟩) P E s := by
  have hTb := hy.typeIs
  obtain ⟨oa, xs, na, hoa, _, hda, hia⟩ := hx
  obtain ⟨ob, ys, nb, hob, _, hdb, hib⟩ := hy
  show wpAny _ _ (isInstance (.ref b) (.type "tuple") >>= _) _ _ s
  refine wpAny_bind (wpAny_isInstance hTb isSubtype_tuple_tuple ?_)
  simp only [Bool.not_true, Bool.false_eq_true, if_false]
  refine wpAny_bind (wpAny_tupleItemsOf hoa hda ?_)
  refine wpAny_bind (wpAny_tupleItemsOf hob hdb ?_)
  refine wpAny_bind ?_
  simp only [List.size_toArray]
  refine wpAny_forIn_list _
    (fun rest r s' => (r.1 = none ∧ s' = s ∧ ∃ x' y' xs' ys', rest = List.zip xs' ys' ∧ IntsAre xs' x' ∧ IntsAre ys' y' ∧ lexLt x' y' = lexLt x y ∧ (decide (xs'.length < ys'.length)) = (decide (xs.length < ys.length))))
    _ ?_ ?_ _ _ ⟨rfl, rfl, x, y, xs, ys, rfl, hia, hib, rfl, rfl⟩
  · rintro ⟨u, v⟩ rest r s' ⟨hr, rfl, x', y', xs', ys', hz, hx', hy', hdec, hlen⟩
    cases hx' with
    | nil => simp at hz
    | @cons k1 t1 xs'' x'' hx'' =>
      cases hy' with
      | nil => simp at hz
      | @cons k2 t2 ys'' y'' hy'' =>
        simp only [List.zip_cons_cons, List.cons.injEq, Prod.mk.injEq] at hz
        obtain ⟨⟨rfl, rfl⟩, rfl⟩ := hz
        refine wpAny_bind (wpAny_eqBool_int ?_)
        by_cases hk : k1 = k2
        · subst hk
          simp only [beq_self_eq_true, Bool.not_true, Bool.false_eq_true, if_false]
          refine wpAny_pure ⟨rfl, rfl, x'', y'', xs'', ys'', rfl, hx'', hy'', ?_, by simpa using hlen⟩
          rw [← hdec]; simp [lexLt]
        · have hb : (k1 == k2) = false := by simpa using hk
          simp only [hb, Bool.not_false, if_true]
          have hf : lexLt x y = decide (k1 < k2) := by rw [← hdec]; simp [lexLt, hk]
          rw [hf] at h
          refine wpAny_bind (wpAny_rule ?_)
          refine wpAny_bind (lt_int ?_)
          exact wpAny_bind (wpAny_pure (wpAny_pure (wpAny_pure h)))
  · rintro ⟨r1, r2⟩ s' ⟨hr, rfl, x', y', xs', ys', hz, hx', hy', hdec, hlen⟩
    simp only at hr
    subst hr
    refine wpAny_pure ?_
    have hfin : (decide (xs.length < ys.length)) = lexLt x y := by
      rw [← hdec, ← hlen]
      cases hx' with
      | nil =>
        cases hy' with
        | nil => simp [lexLt]
        | cons _ _ => simp [lexLt]
      | cons _ _ =>
        cases hy' with
        | nil => simp [lexLt]
        | cons _ _ => simp at hz
    show P (.done (.ret (.bool (decide (xs.length < ys.length))))) s'
    rw [hfin]; exact h
theorem lt_tuple {a b : Addr} {x y : List Int} {Q : Value → Shared → Prop} (hx : TupI s.heap a x) (hy : TupI s.heap b y) (hu : A.units < cLine) (h : Q (.bool (lexLt x y)) s) :
    wpAny (model prog w) A (compareOp .Lt (.ref a) (.ref b)) Q E s := by
  show wpAny _ _ (richCompare .Lt (.ref a) (.ref b)) _ _ _
  refine wpAny_richCompare_same_room hx.typeIs hy.typeIs slot_tuple_lt ?_ hu
  refine wpAny_call_entry slot_tuple_lt hx.typeIs entry_tuple_lt ?_ (args_tuple_lt _ _)
  exact lt_tuple_tree hx hy ⟨_, rfl, by simp, h⟩
end
end

section

set_option maxRecDepth 100000

/-- an item of a heap: where its tuple stands, and the tuple's ints -/
noncomputable abbrev It := Addr × List Int
noncomputable def rf (it : It) : Value := .ref it.1
noncomputable abbrev refs (xs : List It) : Array Value := (xs.map rf).toArray
/-- the ledger bears the item's tuple -/
noncomputable def Held (news : List (Addr × Obj)) (it : It) : Prop := ∃ vs c, (it.1, ({ cls := .type "tuple", data := .seq (List.toArray vs) c } : Obj)) ∈ news ∧ IntsAre vs it.2
theorem Held.mono {news news' : List (Addr × Obj)} {it : It} (h : Held news it) (hs : ∀ p ∈ news, p ∈ news') : Held news' it :=
  let ⟨vs, c, hm, hi⟩ := h; ⟨vs, c, hs _ hm, hi⟩
theorem Held.tupI {h₀ h : Heap} {L : Addr} {news : List (Addr × Obj)} {it : It} (x : Held news it) (N : News h₀ L h news) : TupI h it.1 it.2 :=
  let ⟨vs, c, hm, hi⟩ := x; ⟨_, vs, c, (N _ hm).1, rfl, rfl, hi⟩
theorem Held.tupI' {h₀ h : Heap} {L : Addr} {news : List (Addr × Obj)} {q : Addr × Obj} {it : It} (x : Held news it) (N : News h₀ L h (q :: news)) : TupI h it.1 it.2 :=
  x.tupI fun p hp => N p (.tail _ hp)
theorem put_in {m m' : Str → Option Value} {x : Str} {v : Option Value} (e : m' = m) : (fun y => if y = x then v else m' y) = fun y => if y = x then v else m y := by rw [e]
theorem ne_own {rest own : List (Addr × Obj)} {d : Addr} {o : Obj} (hne : ∀ p ∈ rest, p.1 ≠ d) (ho : OwnOff own (List.map (fun x => x.1) ((d, o) :: rest))) : ∀ p ∈ rest ++ own, p.1 ≠ d := fun p hp =>
  (List.mem_append.mp hp).elim (hne p) fun h => ho p h d (List.mem_cons_self ..)
theorem held_more {rest own : List (Addr × Obj)} {xs : List It} (h : ∀ it ∈ xs, Held rest it) : ∀ it ∈ xs, Held (rest ++ own) it := fun it hit => (h it hit).mono fun _ hp => List.mem_append_left _ hp

section
variable {prog : Program} {w : World} {A : Around} {E : Value → Shared → Prop} {s : Shared} {h₀ : Heap} {L d : Addr} {m : Str → Option Value} {rest : List (Addr × Obj)} {xs : List It} {n : Nat} {k : Int} {u : Tok}
theorem it_get {value slice : PySem.Expr} {Q : Value → Shared → Prop} (N : News h₀ L s.heap ((d, listOf (refs xs) n) :: rest)) (h0 : 0 ≤ k) (hfit : k < 2 ^ 63) (hk : k.toNat < xs.length) (h : ∀ it, xs[k.toNat]? = some it → Q (.ref it.1) s)
    (hs : subscripted slice false (.ref d) (.int k u) = operate [.ref d, .int k u] (getItem (.ref d) (.int k u)) := by with_unfolding_all rfl) (hg : ∀ r, letTemporaryGo value (.ref d) r = pure () := by intro _; with_unfolding_all rfl) :
    wpAny (model prog w) A (subscriptTail value slice (.ref d) (.int k u)) Q E s := by
  have e : xs[k.toNat]? = some xs[k.toNat] := List.getElem?_eq_getElem hk
  exact kim_list N (.head _) rfl rfl h0 hfit (x := .ref (xs[k.toNat]).1) (by rw [List.getElem?_map, e]; rfl) (h _ e) hs hg
theorem it_set {it : It} {Q : Unit → Shared → Prop} (F : Fr h₀ L s.heap m) (N : News h₀ L s.heap ((d, listOf (refs xs) n) :: rest)) (hne : ∀ p ∈ rest, p.1 ≠ d) (h0 : 0 ≤ k) (hfit : k < 2 ^ 63) (hk : k.toNat < xs.length)
    (h : ∀ h', Fr h₀ L h' m → News h₀ L h' ((d, listOf (refs (xs.set k.toNat it)) n) :: rest) → Q () { s with heap := h' }) : wpAny (model prog w) A (setItem (.ref d) (.int k u) (.ref it.1)) Q E s := by
  have z := N (d, listOf (refs xs) n) (.head _)
  have hsz : (refs xs).size = xs.length := by simp [refs]
  refine ki_setAt z.1 h0 hfit (by rw [hsz]; omega) (h _ (F.change (Heap.SameBut.update ..) z.2.1 z.2.2) (ki_turn (pre := []) _ N (fun _ h => nomatch h) hne ?_ ?_))
  · apply Array.toList_inj.mp
    simp [refs, List.map_set, rf]
  · simp [refs]
theorem it_len {Q : Value → Shared → Prop} (N : News h₀ L s.heap ((d, listOf (refs xs) n) :: rest)) (hf : xs.length < 2 ^ 62) (h : ∀ t tk, Q (.int xs.length t) { s with toks := tk }) : wpAny (model prog w) A (call (.builtin "len") [.ref d]) Q E s := by
  have hsz : (refs xs).size = xs.length := by simp [refs]
  refine len_list (items := refs xs) (PySem.IsL.isList (n := n) (N _ (.head _)).1) (by rw [hsz]; omega) ?_
  rw [hsz]; exact h _ _
theorem it_append {it : It} {Q : Value → Shared → Prop} (F : Fr h₀ L s.heap m) (N : News h₀ L s.heap ((d, listOf (refs xs) n) :: rest)) (hne : ∀ p ∈ rest, p.1 ≠ d) (hsz : xs.length ≤ 1000)
    (h : ∀ h', Fr h₀ L h' m → News h₀ L h' ((d, listOf (refs (xs ++ [it])) (n + 1)) :: rest) → Q .none { s with heap := h' }) : wpAny (model prog w) A (call (.builtin "list.append") [.ref d, .ref it.1]) Q E s := by
  have e : (refs xs).push (Value.ref it.1) = refs (xs ++ [it]) := by simp [refs, rf]
  exact append_K F N (.head hne) (by rw [e]; exact h) (by rw [sizeLine_eq]; simp [refs]; omega)
theorem it_truthy {Q : Bool → Shared → Prop} (N : News h₀ L s.heap ((d, listOf (refs xs) n) :: rest)) (hf : xs.length < 2 ^ 62) (h : ∀ tk, Q (!xs.isEmpty) { s with toks := tk }) : wpAny (model prog w) A (truthy (.ref d)) Q E s := by
  refine kgr_truthy (vs := xs.map rf) N (.head _) rfl rfl (by simpa using hf) ?_
  rw [List.isEmpty_map]; exact h _
theorem last_snoc (p : List Value) (y : Value) : kl_last (p ++ [y]) = some (p, y) := by
  induction p with
  | nil => rfl
  | cons a p ih =>
    cases p with
    | nil => rfl
    | cons b p => simp only [List.cons_append] at ih ⊢; rw [kl_last, ih]
theorem it_pop {it : It} {ys : List It} {Q : Value → Shared → Prop} (F : Fr h₀ L s.heap m) (N : News h₀ L s.heap ((d, listOf (refs (ys ++ [it])) n) :: rest)) (hne : ∀ p ∈ rest, p.1 ≠ d) (hsz : ys.length ≤ 1000)
    (h : ∀ h', Fr h₀ L h' m → News h₀ L h' ((d, listOf (refs ys) (n + 1)) :: rest) → Q (.ref it.1) { s with heap := h' }) : wpAny (model prog w) A (call (.builtin "list.pop") [.ref d]) Q E s := by
  refine kl_pop (its := refs (ys ++ [it])) (p := ys.map rf) (y := .ref it.1) F N ?_ (.head hne) ?_ h
  · have e : (refs (ys ++ [it])).toList = ys.map rf ++ [Value.ref it.1] := by simp [refs, rf]
    rw [e]; exact last_snoc _ _
  · rw [sizeLine_eq]; simp [refs]; omega
theorem it_lt {a b : It} {Q : Value → Shared → Prop} (N : News h₀ L s.heap ((d, listOf (refs xs) n) :: rest)) (ha : Held rest a) (hb : Held rest b) (hu : A.units < cLine) (h : Q (.bool (lexLt a.2 b.2)) s) :
    wpAny (model prog w) A (compareOp .Lt (.ref a.1) (.ref b.1)) Q E s := lt_tuple (ha.tupI' N) (hb.tupI' N) hu h
end

section
variable {prog : Program} {w : World} {A : Around} {E : Value → Shared → Prop} {s : Shared} {a n v : Int} {t u : Tok} {Q : Value → Shared → Prop}
theorem rshift_as (v : Int) (hn : 0 ≤ n) (e : a.fdiv (2 ^ n.toNat) = v) (h : Q (.int v s.toks) { s with toks := s.toks + 1 }) : wpAny (model prog w) A (binaryOp .RShift (.int a t) (.int n u)) Q E s := rshift_int hn (by rw [e]; exact h)
theorem floordiv_as {b : Int} (v : Int) (hb : b ≠ 0) (hp : Builtin.divisionGoesByPylong a b = false ∨ PySem.PylongRoom (model prog w) A s) (e : a.fdiv b = v) (h : Q (.int v s.toks) { s with toks := s.toks + 1 }) : wpAny (model prog w) A (binaryOp .FloorDiv (.int a t) (.int b u)) Q E s := floordiv_int hb (by rw [e]; exact h) hp
theorem half_idx {j : Nat} (h : 0 < j) : ((j : Int) - 1).fdiv (2 ^ Int.toNat 1) = (((j - 1) / 2 : Nat) : Int) := by
  show ((j : Int) - 1).fdiv (2 ^ 1) = _
  rw [Int.fdiv_eq_ediv_of_nonneg _ (by decide)]
  omega
end
theorem held_set {rest : List (Addr × Obj)} {xs : List It} {it : It} (h : ∀ it ∈ xs, Held rest it) (hi : Held rest it) (k : Nat) : ∀ x ∈ xs.set k it, Held rest x := fun x hx =>
  (List.mem_or_eq_of_mem_set hx).elim (h x) fun e => e ▸ hi
/-! the plain functions -/
section
variable {α : Type} (lt : α → α → Bool)
/-- _siftdown's loop and the store behind it: x wanders up from p, not above start -/
noncomputable def sdLoop (x : α) (start : Nat) : Nat → List α → Nat → List α
  | 0, xs, p => xs.set p x
  | f + 1, xs, p => if start < p then (match xs[(p - 1) / 2]? with
      | some y => if lt x y then sdLoop x start f (xs.set p y) ((p - 1) / 2) else xs.set p x
      | none => xs.set p x) else xs.set p x
noncomputable def siftdown (xs : List α) (start p : Nat) : List α := match xs[p]? with
  | some x => sdLoop lt x start p xs p
  | none => xs
theorem sdLoop_length (x : α) (start : Nat) : ∀ f xs p, (sdLoop lt x start f xs p).length = xs.length
  | 0, xs, p => by simp [sdLoop]
  | f + 1, xs, p => by
    unfold sdLoop
    split
    · split
      · split
        · rw [sdLoop_length]; simp
        · simp
      · simp
    · simp
theorem siftdown_length (xs : List α) (start p : Nat) : (siftdown lt xs start p).length = xs.length := by
  unfold siftdown
  split
  · exact sdLoop_length lt _ _ _ _ _
  · rfl
theorem sdLoop_fuel (x : α) (start : Nat) : ∀ f g xs p, p ≤ f → p ≤ g → sdLoop lt x start f xs p = sdLoop lt x start g xs p
  | 0, g, xs, p, hf, _ => by
    have : p = 0 := by omega
    subst this
    cases g with
    | zero => rfl
    | succ g => simp [sdLoop]
  | f + 1, g, xs, p, hf, hg => by
    by_cases hp : p = 0
    · subst hp
      cases g with
      | zero => simp [sdLoop]
      | succ g => simp [sdLoop]
    · cases g with
      | zero => omega
      | succ g =>
        unfold sdLoop
        by_cases hs : start < p
        · simp only [hs, if_true]
          cases xs[(p - 1) / 2]? with
          | none => rfl
          | some y => simp only [sdLoop_fuel x start f g (xs.set p y) ((p - 1) / 2) (by omega) (by omega)]
        · simp only [hs, if_false]
theorem sd_step {x y : α} {start j : Nat} {ys : List α} (hs : start < j) (hy : ys[(j - 1) / 2]? = some y) (hlt : lt x y = true) : sdLoop lt x start j ys j = sdLoop lt x start ((j - 1) / 2) (ys.set j y) ((j - 1) / 2) := by
  cases j with
  | zero => omega
  | succ j =>
    rw [sdLoop]
    simp only [hs, if_true, hy, hlt]
    exact sdLoop_fuel lt x start _ _ _ _ (by omega) (by omega)
theorem sd_stop {x : α} {start j : Nat} {ys : List α} (hs : ¬ start < j) : sdLoop lt x start j ys j = ys.set j x := by
  cases j with
  | zero => rfl
  | succ j => rw [sdLoop]; simp only [hs, if_false]
theorem sd_stop2 {x y : α} {start j : Nat} {ys : List α} (hy : ys[(j - 1) / 2]? = some y) (hlt : lt x y = false) : sdLoop lt x start j ys j = ys.set j x := by
  cases j with
  | zero => rfl
  | succ j =>
    rw [sdLoop]
    by_cases hs : start < j + 1
    · simp only [hs, if_true, hy, hlt]; rfl
    · simp only [hs, if_false]
/-- the child that _siftup follows -/
noncomputable def suC (xs : List α) (p : Nat) : Nat := match xs[2 * p + 1]?, xs[2 * p + 2]? with
  | some a, some b => if lt a b then 2 * p + 1 else 2 * p + 2
  | _, _ => 2 * p + 1
noncomputable def suLoop : Nat → List α → Nat → List α × Nat
  | 0, xs, p => (xs, p)
  | f + 1, xs, p => if 2 * p + 1 < xs.length then (match xs[suC lt xs p]? with
      | some y => suLoop f (xs.set p y) (suC lt xs p)
      | none => (xs, p)) else (xs, p)
noncomputable def siftup (xs : List α) (p : Nat) : List α := match xs[p]? with
  | some x => siftdown lt ((suLoop lt xs.length xs p).1.set (suLoop lt xs.length xs p).2 x) p (suLoop lt xs.length xs p).2
  | none => xs
theorem suC_one {xs : List α} {p : Nat} (h : xs.length ≤ 2 * p + 2) : suC lt xs p = 2 * p + 1 := by
  unfold suC
  rw [List.getElem?_eq_none (i := 2 * p + 2) h]
  split <;> simp_all
theorem suC_left {xs : List α} {p : Nat} {a b : α} (ha : xs[2 * p + 1]? = some a) (hb : xs[2 * p + 2]? = some b) (h : lt a b = true) : suC lt xs p = 2 * p + 1 := by
  unfold suC; simp only [ha, hb, h, if_true]
theorem suC_right {xs : List α} {p : Nat} {a b : α} (ha : xs[2 * p + 1]? = some a) (hb : xs[2 * p + 2]? = some b) (h : lt a b = false) : suC lt xs p = 2 * p + 2 := by
  unfold suC; simp [ha, hb, h]
theorem suC_left' {xs : List α} {p : Nat} {a b : α} (h : lt a b = true) (ha : xs[2 * p + 1]? = some a) (hb : xs[2 * p + 2]? = some b) : suC lt xs p = 2 * p + 1 := suC_left lt ha hb h
theorem suC_right' {xs : List α} {p : Nat} {a b : α} (h : lt a b = false) (ha : xs[2 * p + 1]? = some a) (hb : xs[2 * p + 2]? = some b) : suC lt xs p = 2 * p + 2 := suC_right lt ha hb h
theorem su_step {f : Nat} {xs : List α} {p c : Nat} {y : α} {R : List α × Nat} (hR : suLoop lt f xs p = R) (hf : xs.length ≤ f + p) (h : 2 * p + 1 < xs.length) (hc : suC lt xs p = c) (hcp : p < c) (hy : xs[c]? = some y) :
    ∃ f', suLoop lt f' (xs.set p y) c = R ∧ (xs.set p y).length ≤ f' + c := by
  cases f with
  | zero => omega
  | succ f =>
    refine ⟨f, ?_, by simp; omega⟩
    rw [← hR, suLoop]
    simp only [h, if_true, hc, hy]
theorem su_stop {f : Nat} {xs : List α} {p : Nat} (h : ¬ 2 * p + 1 < xs.length) : suLoop lt f xs p = (xs, p) := by
  cases f with
  | zero => rfl
  | succ f => rw [suLoop]; simp only [h, if_false]
/-- heapify: _siftup at the places below k, from the last one down -/
noncomputable def hpfy (xs : List α) : Nat → List α
  | 0 => xs
  | k + 1 => hpfy (siftup lt xs k) k
theorem suLoop_length : ∀ f xs p, (suLoop lt f xs p).1.length = xs.length
  | 0, xs, p => rfl
  | f + 1, xs, p => by
    unfold suLoop
    split
    · split
      · rw [suLoop_length]; simp
      · rfl
    · rfl
theorem siftup_length (xs : List α) (p : Nat) : (siftup lt xs p).length = xs.length := by
  unfold siftup
  split
  · rw [siftdown_length, List.length_set, suLoop_length]
  · rfl
theorem mem_sdLoop (x : α) (start : Nat) : ∀ f xs p y, y ∈ sdLoop lt x start f xs p → y ∈ xs ∨ y = x
  | 0, xs, p, y, h => List.mem_or_eq_of_mem_set h
  | f + 1, xs, p, y, h => by
    unfold sdLoop at h
    split at h
    · split at h
      · rename_i z hz
        split at h
        · rcases mem_sdLoop x start f _ _ y h with h | h
          · rcases List.mem_or_eq_of_mem_set h with h | h
            · exact .inl h
            · rw [h]; exact .inl (List.mem_of_getElem? hz)
          · exact .inr h
        · exact List.mem_or_eq_of_mem_set h
      · exact List.mem_or_eq_of_mem_set h
    · exact List.mem_or_eq_of_mem_set h
theorem mem_siftdown {xs : List α} {start p : Nat} {y : α} (h : y ∈ siftdown lt xs start p) : y ∈ xs := by
  unfold siftdown at h
  split at h
  · rename_i x hx
    rcases mem_sdLoop lt x start _ _ _ y h with h | h
    · exact h
    · rw [h]; exact List.mem_of_getElem? hx
  · exact h
theorem mem_suLoop : ∀ f xs p y, y ∈ (suLoop lt f xs p).1 → y ∈ xs
  | 0, xs, p, y, h => h
  | f + 1, xs, p, y, h => by
    unfold suLoop at h
    split at h
    · split at h
      · rename_i z hz
        rcases List.mem_or_eq_of_mem_set (mem_suLoop f _ _ y h) with h | h
        · exact h
        · rw [h]; exact List.mem_of_getElem? hz
      · exact h
    · exact h
theorem mem_siftup {xs : List α} {p : Nat} {y : α} (h : y ∈ siftup lt xs p) : y ∈ xs := by
  unfold siftup at h
  split at h
  · rename_i x hx
    rcases List.mem_or_eq_of_mem_set (mem_siftdown lt h) with h | h
    · exact mem_suLoop lt _ _ _ _ h
    · rw [h]; exact List.mem_of_getElem? hx
  · exact h
end
noncomputable abbrev ltI (a b : It) : Bool := lexLt a.2 b.2
end

section

set_option maxRecDepth 100000
set_option maxHeartbeats 8000000

end

section

set_option maxRecDepth 100000
set_option maxHeartbeats 8000000


theorem suC_left_i {α : Type} {lt : α → α → Bool} {xs : List α} {p : Nat} {a b : α} {i j : Int} (h : lt a b = true) (ha : xs[i.toNat]? = some a) (hb : xs[j.toNat]? = some b) (hi : i.toNat = 2 * p + 1) (hj : j.toNat = 2 * p + 2) : suC lt xs p = 2 * p + 1 := suC_left lt (hi ▸ ha) (hj ▸ hb) h
theorem suC_right_i {α : Type} {lt : α → α → Bool} {xs : List α} {p : Nat} {a b : α} {i j : Int} (h : lt a b = false) (ha : xs[i.toNat]? = some a) (hb : xs[j.toNat]? = some b) (hi : i.toNat = 2 * p + 1) (hj : j.toNat = 2 * p + 2) : suC lt xs p = 2 * p + 2 := suC_right lt (hi ▸ ha) (hj ▸ hb) h
/-- the lesser child is chosen -/
inductive JU (ys : List It) (p : Nat) (nx₀ : List (Addr × Obj)) (hv sv lv pv nv : Value) (m : Str → Option Value) (nx : List (Addr × Obj)) : Prop
  | mk (c : Nat) (ci : Int) (tc : Tok) (e : nx = nx₀) (ec : ci = c) (hc : suC ltI ys p = c) (hlt : c < ys.length) (hgt : p < c)
      (e1 : m (Str.ofString "heap") = some hv) (e2 : m (Str.ofString "startpos") = some sv) (e3 : m (Str.ofString "endpos") = some lv) (e4 : m (Str.ofString "pos") = some pv) (e5 : m (Str.ofString "childpos") = some (.int ci tc)) (e6 : m (Str.ofString "newitem") = some nv)
end

section

set_option maxRecDepth 100000
set_option maxHeartbeats 8000000


theorem pos_of_nonempty {α : Type} {ys : List α} (h : ys.isEmpty = false) : 0 < ys.length := by
  cases ys with
  | nil => cases h
  | cons a r => simp
end

section

set_option maxRecDepth 100000
set_option maxHeartbeats 4000000

/-- the iterator that reversed(range(k)) hands out -/
noncomputable abbrev rangeIt (x left step : Int) : Obj := { cls := .type "range_iterator", data := .fields #[rawInt x, rawInt left, rawInt step] }
theorem rev_meets (r : Addr) (k : Int) (t u v : Tok) (h0 : 0 ≤ k) (h1 : k < 1000000) :
    Meets (Builtin.«range.__reversed__» ⟨[.ref r], []⟩) (fun _ R s => s.heap.get? r = some { cls := .type "range", dict := none, data := .fields #[.int 0 t, .int k u, .int 1 v], slots := #[] } ∧ R (.ok (.ret (Value.ref s.heap.objs.size))) { s with heap := s.heap.push (rangeIt (k - 1) k (-1)) }) :=
  .of_wp fun prog w A R s h => by
    obtain ⟨hp, g, d, tk, os⟩ := s
    obtain ⟨hl, h⟩ := h
    have e : Builtin.Range.rangeSize 0 k 1 = k := by
      unfold Builtin.Range.rangeSize
      simp only [show (1 : Int) > 0 from by decide, if_true]
      split <;> omega
    have hs : (Builtin.Range.rangeFitsLong 0 && Builtin.Range.rangeFitsLong k && Builtin.Range.rangeFitsLong 1 && Builtin.Range.rangeFitsLong (-1) && Builtin.Range.rangeFitsLong (0 - 1) && Builtin.Range.rangeFitsLong (Builtin.Range.rangeSize 0 k 1)) = true := by
      rw [e]
      unfold Builtin.Range.rangeFitsLong
      simp only [Bool.and_eq_true, decide_eq_true_eq]
      omega
    wp_walk
    rw [e] at hs
    simp only [e]
    rw [hs]
    simp only [Bool.not_true, Bool.false_eq_true, if_false, if_true]
    have e2 : (0 : Int) + (k - 1) * 1 = k - 1 := by omega
    rw [e2]
    unfold newFields
    exact wpAny_bind (wpAny_newObj_type (wpAny_pure ⟨_, rfl, h⟩))
theorem sub_ri_reversed : isSubtype (.type "range_iterator") (.type "reversed") = pure false := by rw [isSubtype_type]; kernel_rfl
section
variable {prog : Program} {w : World} {A : Around} {E : Value → Shared → Prop} {s : Shared}
theorem code_reversed_range {r : Addr} {k : Int} {t u v : Tok} {Q₁ : Value → Shared → Prop} (hr : IsRange s.heap r 0 k 1 t u v) (h0 : 0 ≤ k) (h1 : k < 1000000)
    (h : Q₁ (.ref s.heap.objs.size) { s with heap := s.heap.push (rangeIt (k - 1) k (-1)) }) :
    codeAny (model prog w) A (.call (.builtin "reversed.__new__") ⟨[.type "reversed", .ref r], []⟩) (wants Q₁ E) s := by
  have hT : s.TypeIs (.ref r) "range" := ⟨_, hr, rfl⟩
  refine codeAny_of_tree ?_
  show wpAny _ A.in1 (do checkBuiltinCall "reversed.__new__" ⟨[.type "reversed", .ref r], []⟩; again (.builtin "reversed.__new__" ⟨[.type "reversed", .ref r], []⟩)) _ _ s
  refine wpAny_bind (wpAny_of_eq (PySem.F.newCall_reversed_1 _) (wpAny_pure ⟨plainId_quiet PySem.F.plain_reversed_new _, codeAny_builtin PySem.F.entry_reversed_new ?_⟩))
  rw [Around.under_plainId PySem.F.plain_reversed_new _]
  unfold Builtin.«reversed.__new__»
  refine wpAny_bind (wpAny_of_eq (newClass_reversed _) ?_)
  try dsimp only
  refine wpAny_bind (wpAny_of_eq (a := ()) (by first | rfl | kernel_rfl) ?_)
  refine wpAny_bind (wpAny_of_eq (a := ()) (by first | rfl | kernel_rfl) ?_)
  try dsimp only
  refine wpAny_bind (wpAny_specialOf hT PySem.F.slot_range_reversed.lookup ?_)
  try dsimp only
  refine wpAny_bind (wpAny_of_eq (PySem.F.slot_range_reversed.bind _) ?_)
  try dsimp only
  first
  | rw [if_neg (show ¬ ((Value.builtin "range.__reversed__" == Value.none) = true) from Bool.false_ne_true)]
  | (show wpAny _ _ (if (Value.builtin "range.__reversed__" == Value.none) = true then _ else _) _ _ _; rw [if_neg (show ¬ ((Value.builtin "range.__reversed__" == Value.none) = true) from Bool.false_ne_true)])
  refine wpAny_bind (wpAny_rule ?_)
  refine wpAny_bind (m := runValue (.call (.builtin "range.__reversed__") ⟨[.ref r], []⟩)) (show wpAny _ _ (call (.builtin "range.__reversed__") [.ref r]) _ _ _ from
    call_meets PySem.F.slot_range_reversed hT PySem.F.entry_range_reversed (PySem.F.args_range_reversed_1 _) (rev_meets r k t u v h0 h1) ⟨hr, ?_⟩)
  first
  | exact wpAny_pure h
  | exact wpAny_bind (wpAny_pure (wpAny_pure h))
theorem call_reversed_range {r : Addr} {k : Int} {t u v : Tok} {Q : Value → Shared → Prop} (hr : IsRange s.heap r 0 k 1 t u v) (h0 : 0 ≤ k) (h1 : k < 1000000)
    (h : Q (.ref s.heap.objs.size) { s with heap := s.heap.push (rangeIt (k - 1) k (-1)) }) : wpAny (model prog w) A (call (.type "reversed") [.ref r]) Q E s := by
  refine callType_other (U := "range_iterator") (Q₁ := fun obj s₁ => obj = .ref s.heap.objs.size ∧ s₁ = { s with heap := s.heap.push (rangeIt (k - 1) k (-1)) }) (by decide +kernel) PySem.F.create_reversed ⟨_, _, PySem.F.mro_reversed⟩ PySem.F.made_reversed sub_ri_reversed (PySem.F.typeCall_reversed_1 _) (code_reversed_range hr h0 h1 ⟨rfl, rfl⟩) ?_
  rintro obj s₁ ⟨rfl, rfl⟩
  exact ⟨⟨_, Heap.get?_push_size _ rfl, rfl⟩, h⟩
theorem reversed_range_K {h₀ : Heap} {L : Addr} {m : Str → Option Value} {news : List (Addr × Obj)} {r : Addr} {k : Int} {t u v : Tok} {Q : Value → Shared → Prop} (F : Fr h₀ L s.heap m) (N : News h₀ L s.heap news) (hr : IsRange s.heap r 0 k 1 t u v) (h0 : 0 ≤ k) (h1 : k < 1000000)
    (h : ∀ D h', Fr h₀ L h' m → News h₀ L h' ((D, rangeIt (k - 1) k (-1)) :: news) → (∀ p ∈ news, p.1 < D) → Q (.ref D) { s with heap := h' }) : wpAny (model prog w) A (call (.type "reversed") [.ref r]) Q E s :=
  call_reversed_range hr h0 h1 (h _ _ (F.push _) (N.push F _) fun p hp => Heap.lt_size (N p hp).1)
end

section
variable {prog : Program} {w : World} {A : Around} {E : Value → Shared → Prop} {s : Shared} {env : Env} {h₀ : Heap} {x : Str} {body : List Stmt} {Q : Flow → Shared → Prop} {m₀ : Str → Option Value} {news : List (Addr × Obj)}
/-- a loop over an iterator of a range that stands at the ledger's head -/
theorem for_rangeIt {I : Addr} {a c : Int} {n : Nat} (J : Nat → (Str → Option Value) → List (Addr × Obj) → Prop) (hh : A.handled = none) (F : Fr h₀ env.locals s.heap m₀) (N : News h₀ env.locals s.heap ((I, rangeIt a n c) :: news)) (hlt : ∀ p ∈ news, p.1 < I) (hj : J 0 m₀ news)
    (turn : ∀ i t m₁ nx h tk own, i < n → OwnOff own (nx.map (·.1)) → J i m₁ nx → Fr h₀ env.locals h (fun y => if y = x then some (.int (a + (i : Nat) * c) t) else m₁ y) → News h₀ env.locals h (nx ++ own) →
      wpAny (model prog w) A (execs body env) (InvPostG h₀ env.locals (J (i + 1)) own { s with heap := h, toks := tk } Q) E { s with heap := h, toks := tk })
    (done : ∀ m₁ nx h tk, J n m₁ nx → Fr h₀ env.locals h m₁ → News h₀ env.locals h nx → Q .next { s with heap := h, toks := tk }) :
    wpAny (model prog w) A (pyIter (.ref I)) (fun it s₂ => LoopAtV prog w A h₀ env x body Q E it s₂) E s := by
  have hI := N _ (List.mem_cons_self ..)
  have hit : IsRangeIter s.heap I a n c := hI.1
  refine wpAny_pyIter_rangeiter hit ?_
  have W : Walks prog w A I [I] [I] n (fun i v => i < n ∧ ∃ t, v = .int (a + i * c) t) (fun i h => IsRangeIter h I (a + (i : Nat) * c) ((n : Int) - (i : Nat)) c) := (Walks.range hh _ a c n).bound
  refine kdr_loop J W (fun _ h => h) (fun _ h => h) ?_ ?_ ?_ ?_ (by show IsRangeIter _ _ _ _ _; simpa using hit) F (fun p hp => N p (.tail _ hp)) hj ?_ ?_
  · intro i h hi b hb
    rw [List.mem_singleton.mp hb]
    exact ⟨_, hi⟩
  · intro hm
    exact hI.2.1 (List.mem_singleton.mp hm).symm
  · intro b hb
    rw [List.mem_singleton.mp hb]
    exact hI.2.2
  · intro p hp hq
    exact Nat.ne_of_lt (hlt p hp) (List.mem_singleton.mp hq)
  · rintro i v m₁ nx h tk own hi ⟨_, t, rfl⟩ hoff hJ F₁ N₁
    exact turn i t m₁ nx h tk own hi hoff hJ F₁ N₁
  · exact done
/-- a loop over a range -/
theorem for_range {r : Addr} {a₀ b₀ : Int} {t₀ u₀ v₀ : Tok} {n : Nat} (J : Nat → (Str → Option Value) → List (Addr × Obj) → Prop) (hh : A.handled = none) (hr : IsRange s.heap r a₀ b₀ 1 t₀ u₀ v₀) (hsmall : Builtin.Range.small a₀ b₀ 1 = true) (hsz : Builtin.Range.rangeSize a₀ b₀ 1 = (n : Int))
    (F : Fr h₀ env.locals s.heap m₀) (N : News h₀ env.locals s.heap news) (hj : J 0 m₀ news)
    (turn : ∀ i t m₁ nx h tk own, i < n → OwnOff own (nx.map (·.1)) → J i m₁ nx → Fr h₀ env.locals h (fun y => if y = x then some (.int (a₀ + (i : Nat)) t) else m₁ y) → News h₀ env.locals h (nx ++ own) →
      wpAny (model prog w) A (execs body env) (InvPostG h₀ env.locals (J (i + 1)) own { s with heap := h, toks := tk } Q) E { s with heap := h, toks := tk })
    (done : ∀ m₁ nx h tk, J n m₁ nx → Fr h₀ env.locals h m₁ → News h₀ env.locals h nx → Q .next { s with heap := h, toks := tk }) :
    wpAny (model prog w) A (pyIter (.ref r)) (fun it s₂ => LoopAtV prog w A h₀ env x body Q E it s₂) E s := by
  refine wpAny_pyIter_range hr hsmall ?_
  have W : Walks prog w A s.heap.objs.size [s.heap.objs.size] [s.heap.objs.size] n (fun i v => i < n ∧ ∃ t, v = .int (a₀ + i * 1) t)
      (fun i h => IsRangeIter h s.heap.objs.size (a₀ + (i : Nat) * 1) ((n : Int) - (i : Nat)) 1) := (Walks.range hh _ a₀ 1 n).bound
  refine kdr_loop J W (fun _ h => h) (fun _ h => h) ?_ ?_ ?_ ?_ (by show IsRangeIter _ _ _ _ _; rw [hsz]; simpa using Heap.get?_push_size _ rfl) (F.push _) (fun p hp => ⟨Heap.get?_push_of_some _ (N p hp).1, (N p hp).2⟩) hj ?_ ?_
  · intro i h hi b hb
    rw [List.mem_singleton.mp hb]
    exact ⟨_, hi⟩
  · intro hm
    exact absurd F.ns.lt ((List.mem_singleton.mp hm) ▸ Nat.lt_irrefl _)
  · intro b hb
    rw [List.mem_singleton.mp hb]
    exact next_is_new F
  · intro p hp hI
    exact absurd (Heap.lt_size (N p hp).1) ((List.mem_singleton.mp hI) ▸ Nat.lt_irrefl _)
  · rintro i v m₁ nx h tk own hi ⟨_, t, rfl⟩ hoff hJ F₁ N₁
    have e1 : a₀ + (i : Int) * 1 = a₀ + (i : Int) := by omega
    rw [e1] at F₁
    exact turn i t m₁ nx h tk own hi hoff hJ F₁ N₁
  · exact done
end
theorem range0_small {k : Int} (h0 : 0 ≤ k) (h1 : k < 1000000) : Builtin.Range.small 0 k 1 = true := by
  have e : Builtin.Range.rangeSize 0 k 1 = k := by
    unfold Builtin.Range.rangeSize
    simp only [show (1 : Int) > 0 from by decide, if_true]
    split <;> omega
  unfold Builtin.Range.small
  rw [e]
  unfold Builtin.Range.rangeFitsLong
  simp only [Bool.and_eq_true, Bool.or_eq_true, decide_eq_true_eq, beq_iff_eq, show (1 : Int) > 0 from by decide, if_true]
  omega
theorem range0_size {k : Nat} : Builtin.Range.rangeSize 0 (k : Int) 1 = (k : Int) := by
  unfold Builtin.Range.rangeSize
  simp only [show (1 : Int) > 0 from by decide, if_true]
  split <;> omega
end

section

set_option maxRecDepth 100000
set_option maxHeartbeats 8000000


theorem half_len (n : Nat) : (n : Int).fdiv 2 = ((n / 2 : Nat) : Int) := by
  rw [Int.fdiv_eq_ediv_of_nonneg _ (by decide)]; omega
end

section

set_option maxRecDepth 100000
set_option maxHeartbeats 4000000
section
variable {prog : Program} {w : World} {A : Around} {E : Value → Shared → Prop} {s : Shared} {env : Env} {h₀ : Heap} {x : Str} {body : List Stmt} {Q : Flow → Shared → Prop} {m₀ : Str → Option Value} {news : List (Addr × Obj)}
/-- a loop over reversed(a list of the ledger): the iterator stands at the ledger's head -/
theorem for_revlist {I l : Addr} {vs : List Value} {nn : Nat} (J : Nat → (Str → Option Value) → List (Addr × Obj) → Prop) (hh : A.handled = none) (hl : (l, listOf vs.toArray nn) ∈ news)
    (F : Fr h₀ env.locals s.heap m₀) (N : News h₀ env.locals s.heap ((I, revObj l ((vs.length : Int) - 1)) :: news)) (hlt : ∀ p ∈ news, p.1 < I) (hj : J 0 m₀ news)
    (turn : ∀ i v m₁ nx h tk own, i < vs.length → vs[vs.length - 1 - i]? = some v → OwnOff own (nx.map (·.1)) → (l, listOf vs.toArray nn) ∈ nx → J i m₁ nx → Fr h₀ env.locals h (fun y => if y = x then some v else m₁ y) → News h₀ env.locals h (nx ++ own) →
      wpAny (model prog w) A (execs body env) (InvPostG h₀ env.locals (fun m' nx' => (l, listOf vs.toArray nn) ∈ nx' ∧ J (i + 1) m' nx') own { s with heap := h, toks := tk } Q) E { s with heap := h, toks := tk })
    (done : ∀ m₁ nx h tk, J vs.length m₁ nx → Fr h₀ env.locals h m₁ → News h₀ env.locals h nx → Q .next { s with heap := h, toks := tk }) :
    wpAny (model prog w) A (pyIter (.ref I)) (fun it s₂ => LoopAtV prog w A h₀ env x body Q E it s₂) E s := by
  have hI := N _ (List.mem_cons_self ..)
  have hL := N _ (List.mem_cons_of_mem _ hl)
  have hls : s.heap.IsList l vs.toArray := ⟨_, hL.1, rfl, nn, rfl⟩
  have hne : l ≠ I := Nat.ne_of_lt (hlt _ hl)
  have hit : s.heap.IsRevIter I l ((vs.length : Int) - 1) := ⟨_, hI.1, rfl, rfl⟩
  refine wpAny_pyIter_revIter hit ?_
  have W := Walks.listRev (prog := prog) (w := w) hh I l hne vs.toArray
  have hlen : vs.toArray.size = vs.length := by simp
  rw [hlen] at W
  refine ⟨I, _, _, vs.length, _, _, m₀, news, (fun i m nx => (l, listOf vs.toArray nn) ∈ nx ∧ J i m nx), rfl, W, ?_, ?_, ?_, ⟨Nat.zero_le _, ?_, hls⟩, F, (fun p hp => N p (List.mem_cons_of_mem _ hp)), ⟨hl, hj⟩, ?_, ?_⟩
  · intro hm
    rcases List.mem_cons.mp hm with e | hm
    · exact hI.2.1 e.symm
    · exact hL.2.1 (List.mem_singleton.mp hm).symm
  · intro b hb
    rw [List.mem_singleton.mp hb]
    exact hI.2.2
  · intro p hp hq
    exact Nat.ne_of_lt (hlt p hp) (List.mem_singleton.mp hq)
  · have e : (vs.length : Int) - 1 - ((0 : Nat) : Int) = (vs.length : Int) - 1 := by omega
    rw [e]
    exact hit
  · rintro i v m₁ nx s₁ own ⟨hh', tk', rfl⟩ hin hP ⟨hl₁, hJ⟩ hoff hown hget hfp hst F₁ N₁
    have hP' : vs[vs.length - 1 - i]? = some v := by simpa using hP
    obtain ⟨oI, hoI, _, _⟩ := id hst.2.1
    have hIown : (I, oI) ∈ own.filter fun p => decide (p.1 = I) := List.mem_filter.mpr ⟨hfp I (List.mem_cons_self ..) hI.2.2 _ hoI, by simp⟩
    have hsep : OwnOff (own.filter fun p => decide (p.1 = I)) (nx.map (·.1)) := by
      intro p hp b hb e
      obtain ⟨q, hq, rfl⟩ := List.mem_map.mp hb
      have h1 : p.1 = I := by simpa using (List.mem_filter.mp hp).2
      exact hoff q hq (List.mem_singleton.mpr (e ▸ h1))
    have N₂ : News h₀ env.locals hh' (nx ++ own.filter fun p => decide (p.1 = I)) := fun p hp => N₁ p ((List.mem_append.mp hp).elim (fun h => List.mem_append.mpr (.inr h)) fun h => List.mem_append.mpr (.inl ((List.mem_filter.mp h).1)))
    have hlo : hh'.get? l = some (listOf vs.toArray nn) := (N₁ _ (List.mem_append.mpr (.inr hl₁))).1
    refine wpAny_mono (turn i v m₁ nx hh' tk' _ hin hP' hsep hl₁ hJ F₁ N₂) (fun f s₂ p => ?_) fun _ _ e => e
    have fin : InvEndG h₀ env.locals (fun m' nx' => (l, listOf vs.toArray nn) ∈ nx' ∧ J (i + 1) m' nx') (own.filter fun p => decide (p.1 = I)) { s with heap := hh', toks := tk' } s₂ →
        LoopStepU h₀ env.locals [I] own (fun m nx' => (l, listOf vs.toArray nn) ∈ nx' ∧ J (i + 1) m nx') { s with heap := hh', toks := tk' } .next s₂ := by
      rintro ⟨h', tk, m', news', nx', e, F', N', hn, ho, ha, hm⟩
      refine ⟨rfl, h', tk, m', nx', e, F', fun p hp => ?_, fun p hp hq => ?_, hm⟩
      · rcases List.mem_append.mp hp with h | h
        · by_cases hpI : p.1 = I
          · exact N' p (ho p (List.mem_filter.mpr ⟨h, by simpa using hpI⟩))
          · have h1 : p.1 = l := by
              rcases List.mem_cons.mp (hown p h) with h2 | h2
              · exact absurd h2 hpI
              · exact List.mem_singleton.mp h2
            have h2 : hh'.get? p.1 = some p.2 := hget p h
            rw [h1, hlo] at h2
            have h3 : p = (l, listOf vs.toArray nn) := Prod.ext h1 (Option.some.inj h2).symm
            rw [h3]
            exact N' _ (hn _ hm.1)
        · exact N' p (hn p h)
      · exact ha _ hIown p.1 (List.mem_map.mpr ⟨p, hp, rfl⟩) (List.mem_singleton.mp hq).symm
    cases f with
    | ret v => exact .ret p
    | brk => exact .brk p
    | next => exact .next (fin p)
    | cont => exact .cont (fin p)
  · rintro h' tk m' news' F' N' _ ⟨_, hJ⟩
    exact done m' news' h' tk hJ F' N'
end
end

section

/-- the j-th digit of x, n bits each -/
noncomputable def dig (n : Nat) (x : Int) (j : Nat) : Int := x / 2 ^ (n * j) % 2 ^ n
/-- the places from lo up to hi laid out with x's digits -/
noncomputable def putDig (n : Nat) (ds : List Int) (lo hi : Nat) (x : Int) : List Int := (List.range ds.length).map fun i => if lo ≤ i ∧ i < hi then dig n x (i - lo) else ds.getD i 0
theorem putDig_length (n : Nat) (ds : List Int) (lo hi : Nat) (x : Int) : (putDig n ds lo hi x).length = ds.length := by simp [putDig]
theorem putDig_get {n : Nat} {ds : List Int} {lo hi : Nat} {x : Int} {i : Nat} (h : i < ds.length) : (putDig n ds lo hi x)[i]? = some (if lo ≤ i ∧ i < hi then dig n x (i - lo) else ds.getD i 0) := by
  simp [putDig, h]
theorem putDig_getD {n : Nat} {ds : List Int} {lo hi : Nat} {x : Int} {i : Nat} (h : i < ds.length) : (putDig n ds lo hi x).getD i 0 = if lo ≤ i ∧ i < hi then dig n x (i - lo) else ds.getD i 0 := by
  rw [List.getD_eq_getElem?_getD, putDig_get h]; rfl
theorem dig_zero {n : Nat} {x : Int} (h0 : 0 ≤ x) (h : x < 2 ^ n) : dig n x 0 = x := by
  unfold dig
  rw [Nat.mul_zero, Int.pow_zero, Int.ediv_one]
  exact Int.emod_eq_of_lt h0 h
theorem put_one {n : Nat} {ds : List Int} {lo : Nat} {x : Int} (hl : lo < ds.length) (h0 : 0 ≤ x) (h : x < 2 ^ n) : ds.set lo x = putDig n ds lo (lo + 1) x := by
  apply List.ext_getElem?
  intro i
  by_cases hi : i < ds.length
  · rw [putDig_get hi, List.getElem?_set]
    by_cases e : lo = i
    · subst e
      simp only [if_true, hl, Nat.le_refl, Nat.lt_succ_self, and_self, Nat.sub_self]
      rw [dig_zero h0 h]
    · have : ¬ (lo ≤ i ∧ i < lo + 1) := by omega
      simp only [e, if_false, this]
      rw [List.getD_eq_getElem?_getD, List.getElem?_eq_getElem hi]; rfl
  · rw [List.getElem?_eq_none (by simpa using hi), List.getElem?_eq_none (by rw [putDig_length]; omega)]
theorem mod_mul_div {x a b : Int} (ha : 0 < a) (hb : 0 < b) : x % (a * b) / a = x / a % b := by
  have hab : 0 < a * b := Int.mul_pos ha hb
  have e := Int.mul_ediv_add_emod x (a * b)
  have r0 := Int.emod_nonneg x (Int.ne_of_gt hab)
  have r1 := Int.emod_lt_of_pos x hab
  generalize x % (a * b) = r at *
  generalize x / (a * b) = q at *
  have e2 : x / a = b * q + r / a := by
    rw [← e, show a * b * q + r = r + b * q * a from by grind, Int.add_mul_ediv_right _ _ (Int.ne_of_gt ha)]
    omega
  rw [e2]
  have d0 : 0 ≤ r / a := Int.ediv_nonneg r0 (Int.le_of_lt ha)
  have d1 : r / a < b := Int.ediv_lt_of_lt_mul ha (by rw [Int.mul_comm]; exact r1)
  rw [Int.mul_add_emod_self_left, Int.emod_eq_of_lt d0 d1]
theorem dig_low {n s j : Nat} {x : Int} (h : j < s) : dig n (x % 2 ^ (n * s)) j = dig n x j := by
  unfold dig
  have e : (2 : Int) ^ (n * s) = 2 ^ (n * j) * 2 ^ (n * (s - j)) := by
    rw [← Int.pow_add, ← Nat.mul_add]; congr 2; omega
  rw [e, mod_mul_div (pow_pos _) (pow_pos _)]
  have e2 : (2 : Int) ^ (n * (s - j)) = 2 ^ n * 2 ^ (n * (s - j - 1)) := by
    rw [← Int.pow_add]; congr 1
    rw [show s - j = (s - j - 1) + 1 from by omega, Nat.mul_add]
    have : s - j - 1 + 1 - 1 = s - j - 1 := by omega
    rw [this]; omega
  exact Int.emod_emod_of_dvd _ ⟨_, e2⟩
theorem dig_high {n s j : Nat} {x : Int} : dig n (x / 2 ^ (n * s)) j = dig n x (s + j) := by
  unfold dig
  rw [Int.ediv_ediv_of_nonneg (Int.le_of_lt (pow_pos _)), ← Int.pow_add, ← Nat.mul_add]
theorem put_two {n : Nat} {ds : List Int} {lo mid hi : Nat} {x : Int} (h1 : lo ≤ mid) (h2 : mid ≤ hi) :
    putDig n (putDig n ds lo mid (x % 2 ^ (n * (mid - lo)))) mid hi (x / 2 ^ (n * (mid - lo))) = putDig n ds lo hi x := by
  apply List.ext_getElem?
  intro i
  by_cases hi' : i < ds.length
  · rw [putDig_get (by rw [putDig_length]; exact hi'), putDig_get hi', putDig_getD hi']
    congr 1
    by_cases c1 : mid ≤ i ∧ i < hi
    · rw [if_pos c1, if_pos (by omega), dig_high]
      congr 1; omega
    · rw [if_neg c1]
      by_cases c2 : lo ≤ i ∧ i < mid
      · rw [if_pos c2, if_pos (by omega), dig_low (by omega)]
      · rw [if_neg c2, if_neg (by omega)]
  · rw [List.getElem?_eq_none (by rw [putDig_length, putDig_length]; omega), List.getElem?_eq_none (by rw [putDig_length]; omega)]
/-- digits put together -/
noncomputable def undig (n : Nat) : List Int → Int
  | [] => 0
  | q :: r => q + undig n r * 2 ^ n
theorem undig_append (n : Nat) : ∀ a b : List Int, undig n (a ++ b) = undig n a + undig n b * 2 ^ (n * a.length)
  | [], b => by simp [undig]
  | q :: a, b => by
    rw [List.cons_append, undig, undig, undig_append n a b, List.length_cons, Nat.mul_add, Nat.mul_one, Int.pow_add]
    grind
theorem undig_bounds {n : Nat} : ∀ {qs : List Int}, (∀ q ∈ qs, 0 ≤ q ∧ q < 2 ^ n) → 0 ≤ undig n qs ∧ undig n qs < 2 ^ (n * qs.length)
  | [], _ => by simp [undig]
  | q :: r, h => by
    have h1 := h q (List.mem_cons_self ..)
    have h2 := undig_bounds (qs := r) fun x hx => h x (List.mem_cons_of_mem _ hx)
    rw [undig, List.length_cons, Nat.mul_add, Nat.mul_one, Int.pow_add]
    have hp := pow_pos n
    have m0 : 0 ≤ undig n r * 2 ^ n := Int.mul_nonneg h2.1 (Int.le_of_lt hp)
    have m1 : undig n r * 2 ^ n ≤ (2 ^ (n * r.length) - 1) * 2 ^ n := Int.mul_le_mul_of_nonneg_right (by omega) (Int.le_of_lt hp)
    have e : (2 ^ (n * r.length) - 1) * 2 ^ n = (2 : Int) ^ (n * r.length) * 2 ^ n - 2 ^ n := by grind
    omega
/-- the digits from lo up to hi -/
noncomputable def cut (qs : List Int) (lo hi : Nat) : List Int := (qs.drop lo).take (hi - lo)
theorem cut_length {qs : List Int} {lo hi : Nat} (h : hi ≤ qs.length) : (cut qs lo hi).length = hi - lo := by
  unfold cut
  rw [List.length_take, List.length_drop]; omega
theorem cut_split {qs : List Int} {lo mid hi : Nat} (h1 : lo ≤ mid) (h2 : mid ≤ hi) : cut qs lo hi = cut qs lo mid ++ cut qs mid hi := by
  unfold cut
  rw [show hi - lo = (mid - lo) + (hi - mid) from by omega, List.take_add, List.drop_drop]
  congr 3
  omega
theorem cut_mem {qs : List Int} {lo hi : Nat} {q : Int} (h : q ∈ cut qs lo hi) : q ∈ qs := List.mem_of_mem_drop (List.mem_of_mem_take h)
theorem cut_one {qs : List Int} {lo : Nat} {q : Int} (h : qs[lo]? = some q) : cut qs lo (lo + 1) = [q] := by
  unfold cut
  obtain ⟨hl, e⟩ := List.getElem?_eq_some_iff.mp h
  rw [show lo + 1 - lo = 1 from by omega, List.drop_eq_getElem_cons hl, e]
  rfl
theorem cut_all (qs : List Int) : cut qs 0 qs.length = qs := by simp [cut]
theorem undig_split {n : Nat} {qs : List Int} {lo mid hi : Nat} (h1 : lo ≤ mid) (h2 : mid ≤ hi) (h3 : hi ≤ qs.length) : undig n (cut qs lo hi) = undig n (cut qs mid hi) * 2 ^ (n * (mid - lo)) + undig n (cut qs lo mid) := by
  rw [cut_split h1 h2, undig_append, cut_length (by omega)]
  omega
/-- how many digits of n bits b bits want -/
noncomputable def cnt (b n : Nat) : Nat := (b + n - 1) / n
noncomputable def digitsOf (n : Nat) (a : Int) : List Int := (List.range (cnt (Builtin.Int.intBits a) n)).map (dig n a)
theorem digitsOf_length (n : Nat) (a : Int) : (digitsOf n a).length = cnt (Builtin.Int.intBits a) n := by simp [digitsOf]
theorem put_all (n : Nat) (a : Int) : putDig n (List.replicate (cnt (Builtin.Int.intBits a) n) 0) 0 (cnt (Builtin.Int.intBits a) n) a = digitsOf n a := by
  apply List.ext_getElem?
  intro i
  by_cases hi : i < cnt (Builtin.Int.intBits a) n
  · rw [putDig_get (by simpa using hi), if_pos ⟨Nat.zero_le _, hi⟩]
    simp [digitsOf, hi]
  · rw [List.getElem?_eq_none (by rw [putDig_length]; simpa using hi), List.getElem?_eq_none (by rw [digitsOf_length]; omega)]
theorem digitsOf_zero {n : Nat} (hn : 0 < n) : digitsOf n 0 = [] := by
  have : cnt (Builtin.Int.intBits 0) n = 0 := by
    show (0 + n - 1) / n = 0
    exact Nat.div_eq_of_lt (by omega)
  simp [digitsOf, this]
theorem cnt_mul_ge {b n : Nat} (hn : 0 < n) : b ≤ n * cnt b n := by
  have h1 := Nat.div_add_mod (b + n - 1) n
  have h2 := Nat.mod_lt (b + n - 1) hn
  unfold cnt
  generalize (b + n - 1) / n = q at *
  omega
theorem cnt_mul_le {b n : Nat} : n * cnt b n ≤ b + n - 1 := Nat.mul_div_le _ _
theorem cnt_pos {b n : Nat} (hn : 0 < n) (hb : 0 < b) : 0 < cnt b n := by
  have := cnt_mul_ge (b := b) hn
  cases h : cnt b n with
  | zero => rw [h] at this; omega
  | succ k => omega
theorem lt_cnt {n : Nat} {a : Int} (hn : 0 < n) (h0 : 0 ≤ a) : a < 2 ^ (n * cnt (Builtin.Int.intBits a) n) := by
  refine lt_of_bits h0 ?_
  exact cnt_mul_ge hn
theorem xor_top {x : Int} {s : Nat} (h0 : 0 ≤ x) : Builtin.bitXor x (x / 2 ^ s * 2 ^ s) = x % 2 ^ s := by
  rw [bitXor_and]
  have hp := pow_pos s
  have u0 : 0 ≤ x / 2 ^ s := Int.ediv_nonneg h0 (Int.le_of_lt hp)
  have l0 := Int.emod_nonneg x (Int.ne_of_gt hp)
  have l1 := Int.emod_lt_of_pos x hp
  have e := Int.mul_ediv_add_emod x (2 ^ s)
  have ha : Builtin.bitAnd x (x / 2 ^ s * 2 ^ s) = x / 2 ^ s * 2 ^ s := by
    have hand := and_low u0 l0 l1
    have hor := or_low' u0 l0 l1
    have m0 : 0 ≤ x / 2 ^ s * 2 ^ s := Int.mul_nonneg u0 (Int.le_of_lt hp)
    have ex : x = x / 2 ^ s * 2 ^ s + x % 2 ^ s := by rw [Int.mul_comm]; exact e.symm
    rw [bitAnd_pp h0 m0]
    rw [bitAnd_pp m0 l0] at hand
    have ex2 : x.toNat = (x / 2 ^ s * 2 ^ s).toNat + (x % 2 ^ s).toNat := by omega
    have hn0 : (x / 2 ^ s * 2 ^ s).toNat &&& (x % 2 ^ s).toNat = 0 := by omega
    have hadd := nat_or_add_and (x / 2 ^ s * 2 ^ s).toNat (x % 2 ^ s).toNat
    rw [hn0] at hadd
    have ex3 : x.toNat = (x / 2 ^ s * 2 ^ s).toNat ||| (x % 2 ^ s).toNat := by omega
    rw [ex3]
    have : ((x / 2 ^ s * 2 ^ s).toNat ||| (x % 2 ^ s).toNat) &&& (x / 2 ^ s * 2 ^ s).toNat = (x / 2 ^ s * 2 ^ s).toNat := by
      apply Nat.eq_of_testBit_eq
      intro i
      rw [Nat.testBit_and, Nat.testBit_or]
      cases ((x / 2 ^ s * 2 ^ s).toNat.testBit i) <;> cases ((x % 2 ^ s).toNat.testBit i) <;> rfl
    rw [this]
    omega
  rw [ha]
  rw [Int.mul_comm] at e
  omega
end

section

/-- behind i digits (from the top) of a: the rest, the quotient's digits so far -/
noncomputable def DInv (n : Nat) (b a : Int) (i : Nat) (qs : List Int) (r : Int) : Prop :=
  r = a / 2 ^ (n * (cnt (Builtin.Int.intBits a) n - i)) % b ∧ undig n qs.reverse = a / 2 ^ (n * (cnt (Builtin.Int.intBits a) n - i)) / b ∧ (∀ q ∈ qs, 0 ≤ q ∧ q < 2 ^ n) ∧ qs.length = i
theorem dinv0 {n : Nat} {a b : Int} (hn : 0 < n) (ha : 0 ≤ a) : DInv n b a 0 [] 0 := by
  have h := lt_cnt hn ha
  have e : a / 2 ^ (n * (cnt (Builtin.Int.intBits a) n - 0)) = 0 := Int.ediv_eq_zero_of_lt ha (by simpa using h)
  refine ⟨by rw [e]; simp, by rw [e]; simp [undig], fun _ h => (nomatch h), rfl⟩
theorem dinv_r {n : Nat} {a b : Int} {i : Nat} {qs : List Int} {r : Int} (hb : 0 < b) (h : DInv n b a i qs r) : 0 ≤ r ∧ r < b := by
  rw [h.1]
  exact ⟨Int.emod_nonneg _ (by omega), Int.emod_lt_of_pos _ hb⟩
theorem dig_bounds (n : Nat) (x : Int) (j : Nat) : 0 ≤ dig n x j ∧ dig n x j < 2 ^ n :=
  ⟨Int.emod_nonneg _ (Int.ne_of_gt (pow_pos n)), Int.emod_lt_of_pos _ (pow_pos n)⟩
theorem big_bounds {n : Nat} {b r d : Int} (hb : 0 < b) (h0 : 0 ≤ r) (h1 : r < b) (d0 : 0 ≤ d) (d1 : d < 2 ^ n) : 0 ≤ r * 2 ^ n + d ∧ r * 2 ^ n + d < b * 2 ^ n := by
  have hp := pow_pos n
  have m0 : 0 ≤ r * 2 ^ n := Int.mul_nonneg h0 (by omega)
  have m1 : r * 2 ^ n ≤ (b - 1) * 2 ^ n := Int.mul_le_mul_of_nonneg_right (by omega) (by omega)
  have e : (b - 1) * 2 ^ n = b * 2 ^ n - 2 ^ n := by grind
  omega
theorem dinv_step {n : Nat} {a b : Int} {i : Nat} {qs : List Int} {r : Int} (hb : 0 < b) (hi : i < cnt (Builtin.Int.intBits a) n) (h : DInv n b a i qs r) :
    DInv n b a (i + 1) (qs ++ [(r * 2 ^ n + dig n a (cnt (Builtin.Int.intBits a) n - 1 - i)) / b]) ((r * 2 ^ n + dig n a (cnt (Builtin.Int.intBits a) n - 1 - i)) % b) := by
  have hr := dinv_r hb h
  obtain ⟨h1, h2, h3, h4⟩ := h
  have hd := dig_bounds n a (cnt (Builtin.Int.intBits a) n - 1 - i)
  have hbig := big_bounds hb hr.1 hr.2 hd.1 hd.2
  generalize hk : cnt (Builtin.Int.intBits a) n = k at *
  have hp := pow_pos n
  have e1 : k - (i + 1) = k - 1 - i := by omega
  have e2 : n * (k - i) = n * (k - 1 - i) + n := by
    rw [show k - i = (k - 1 - i) + 1 from by omega, Nat.mul_add, Nat.mul_one]
  have eH : a / 2 ^ (n * (k - i)) = a / 2 ^ (n * (k - 1 - i)) / 2 ^ n := by
    rw [e2, Int.pow_add, Int.ediv_ediv_of_nonneg (Int.le_of_lt (pow_pos _))]
  have eD : dig n a (k - 1 - i) = a / 2 ^ (n * (k - 1 - i)) % 2 ^ n := rfl
  have eS := Int.mul_ediv_add_emod (a / 2 ^ (n * (k - 1 - i))) (2 ^ n)
  rw [← eD, ← eH] at eS
  have eQ := Int.mul_ediv_add_emod (a / 2 ^ (n * (k - i))) b
  rw [← h1, ← h2] at eQ
  have eA := Int.mul_ediv_add_emod (r * 2 ^ n + dig n a (k - 1 - i)) b
  have r0 := Int.emod_nonneg (r * 2 ^ n + dig n a (k - 1 - i)) (Int.ne_of_gt hb)
  have r1 := Int.emod_lt_of_pos (r * 2 ^ n + dig n a (k - 1 - i)) hb
  have q0 : 0 ≤ (r * 2 ^ n + dig n a (k - 1 - i)) / b := Int.ediv_nonneg hbig.1 (by omega)
  have q1 : (r * 2 ^ n + dig n a (k - 1 - i)) / b < 2 ^ n := Int.ediv_lt_of_lt_mul hb (by rw [Int.mul_comm (2 ^ n) b]; exact hbig.2)
  have key : a / 2 ^ (n * (k - 1 - i)) / b = (r * 2 ^ n + dig n a (k - 1 - i)) / b + undig n qs.reverse * 2 ^ n ∧ a / 2 ^ (n * (k - 1 - i)) % b = (r * 2 ^ n + dig n a (k - 1 - i)) % b := by
    refine (Int.ediv_emod_unique hb).mpr ⟨?_, r0, r1⟩
    generalize (r * 2 ^ n + dig n a (k - 1 - i)) % b = y at *
    generalize (r * 2 ^ n + dig n a (k - 1 - i)) / b = z at *
    generalize undig n qs.reverse = u at *
    generalize dig n a (k - 1 - i) = d at *
    generalize a / 2 ^ (n * (k - i)) = H at *
    generalize a / 2 ^ (n * (k - 1 - i)) = H' at *
    generalize (2 : Int) ^ n = P at *
    rw [← eS, ← eQ]
    have : b * z + y = r * P + d := eA
    grind
  rw [DInv, hk, e1]
  refine ⟨key.2.symm, ?_, ?_, by simp [h4]⟩
  · rw [List.reverse_append, List.reverse_singleton, List.singleton_append, undig, key.1]
  · intro q hq
    rcases List.mem_append.mp hq with hq | hq
    · exact h3 q hq
    · rw [List.mem_singleton.mp hq]; exact ⟨q0, q1⟩
theorem dinv_end {n : Nat} {a b : Int} {qs : List Int} {r : Int} (h : DInv n b a (cnt (Builtin.Int.intBits a) n) qs r) : a / b = undig n qs.reverse ∧ a % b = r := by
  obtain ⟨h1, h2, h3, h4⟩ := h
  rw [Nat.sub_self, Nat.mul_zero, Int.pow_zero, Int.ediv_one] at h1 h2
  exact ⟨h2.symm, h1.symm⟩
theorem bits_norm {b : Int} (hb : 0 < b) : (2 : Int) ^ Builtin.Int.intBits b ≤ 2 * b ∧ b < 2 ^ Builtin.Int.intBits b := by
  refine ⟨?_, lt_of_bits (by omega) (Nat.le_refl _)⟩
  have hp : 0 < Builtin.Int.intBits b := by
    unfold Builtin.Int.intBits
    have : (b == 0) = false := by simp; omega
    rw [this]; simp
  cases hk : Builtin.Int.intBits b with
  | zero => omega
  | succ k =>
    have : ¬ b < 2 ^ k := fun h => by
      have := bits_le (by omega) h
      omega
    rw [pow_succ']; omega
theorem pre2_of {b r d : Int} (hb : 0 < b) (hs : Builtin.Int.intBits b ≤ 1100000) (h0 : 0 ≤ r) (h1 : r < b) (d0 : 0 ≤ d) (d1 : d < 2 ^ Builtin.Int.intBits b) : Pre2 11 (r * 2 ^ Builtin.Int.intBits b + d) b (Builtin.Int.intBits b : Int) := by
  have hn := bits_norm hb
  have hp : 0 < Builtin.Int.intBits b := by
    unfold Builtin.Int.intBits
    have : (b == 0) = false := by simp; omega
    rw [this]; simp
  have hbig := big_bounds hb h0 h1 d0 d1
  refine ⟨hbig.1, by omega, by omega, by decide, ?_, ?_, ?_⟩
  · rw [Int.toNat_natCast]; exact hn.1
  · rw [Int.toNat_natCast]; exact hn.2
  · rw [Int.toNat_natCast]; exact hbig.2
theorem r_ok {b r : Int} (hs : Builtin.Int.intBits b ≤ 1100000) (h0 : 0 ≤ r) (h1 : r < b) : (Builtin.Int.intBits r : Int) + (Builtin.Int.intBits b : Int) ≤ 2 ^ 27 := by
  have : Builtin.Int.intBits r ≤ Builtin.Int.intBits b := intBits_le_of_natAbs (by omega) (Nat.le_refl _)
  omega
end

section

set_option maxRecDepth 100000
/-- the table of the defs that a def has made: one def, already made, its code object at c' -/
noncomputable def TabHit (P : Addr) (pos : Pos) (qual : Str) (c' : Addr) (l : List (Addr × Obj)) : Prop :=
  ∃ oc vs t, l = [(P, tabObj #[rawInt pos.line, rawInt pos.col, .ref c']), (c', oc)] ∧ oc.data = .fields vs ∧ (vs[1]? : Option Value) = some (.str qual t)
noncomputable def TabSeg (P : Addr) (pos : Pos) (qual : Str) (l : List (Addr × Obj)) : Prop := l = [(P, tabObj #[])] ∨ ∃ c', TabHit P pos qual c' l
theorem updF_app {d : Addr} {o : Obj} : ∀ {front r : List (Addr × Obj)} {g : Obj → List (Addr × Obj)}, (∀ p ∈ front, p.1 ≠ d) → UpdF d o r g → UpdF d o (front ++ r) (fun o' => front ++ g o')
  | [], _, _, _, U => U
  | p :: front, _, _, h, U => UpdF.tail (p := p) (h p (List.mem_cons_self ..)) (updF_app (fun q hq => h q (List.mem_cons_of_mem _ hq)) U)
section
variable {M : Model} {A : Around} {E : Value → Shared → Prop} {s : Shared} {h₀ : Heap} {L a c P : Addr} {m mg mb : Str → Option Value} {cn : Str} {cs : Scope} {ccd : Value} {cl : List (Str × Addr)} {front l rest : List (Addr × Obj)}
  {p : Program} {loose : List Str} {mean : ExcName → Option Value} {name qual : Str} {params : Arguments} {body : List Stmt} {scope : Scope} {pos : Pos} {firstLine : Nat} {clos : List (Str × Addr)}
theorem mkfun {Q : Value → Shared → Prop} (F : Fr h₀ L s.heap m) (N : News h₀ L s.heap (front ++ (l ++ rest))) (T : Top p loose mean mg mb h₀) (C : CodeHd h₀ c P) (hcd : ccd = .ref c) (hseg : TabSeg P pos qual l) (h1 : ∀ q ∈ front, q.1 ≠ P) (h2 : ∀ q ∈ rest, q.1 ≠ P)
    (hcl : closureFor scope (envX cn cs L a ccd cl) = pure clos)
    (h : ∀ f fo c' ctv doc l' h' tk, fo = fnMade name qual params body scope clos doc ((mg "__name__").getD .none) c' ctv → Fr h₀ L h' m → News h₀ L h' ((f, fo) :: (front ++ (l' ++ rest))) → TabHit P pos qual c' l' → (∀ q ∈ front ++ rest, q.1 < f) → Q (.ref f) { s with heap := h', toks := tk }) :
    wpAny M A (makeFunction name qual params (.stmts body) scope (envX cn cs L a ccd cl) [] [] [] pos firstLine) Q E s := by
  rcases hseg with rfl | ⟨c', hit⟩
  · refine nest_K (ps := #[]) F N T C hcd (updF_app h1 (.head h2)) (by first | trivial | decide | exact .nil | simp [TriplesOk]) rfl hcl ?_
    intro f c' oc vs t ctv doc h' tk F' N' hd hv hlt hcf
    refine h f _ c' ctv doc _ h' tk rfl F' ?_ ⟨oc, vs, t, rfl, hd, hv⟩ ?_
    · intro q hq
      refine N' q ?_
      simp only [List.mem_cons, List.mem_append, List.not_mem_nil, or_false, Array.empty_append] at hq ⊢
      rcases hq with h | h | (h | h) | h
      · exact .inl h
      · exact .inr (.inr (.inl h))
      · exact .inr (.inr (.inr (.inl h)))
      · exact .inr (.inl h)
      · exact .inr (.inr (.inr (.inr h)))
    · intro q hq
      refine Nat.lt_trans (hlt q ?_) hcf
      rcases List.mem_append.mp hq with hq | hq
      · exact List.mem_append_left _ hq
      · exact List.mem_append_right _ (List.mem_append_right _ hq)
  · obtain ⟨oc, vs, t, rfl, hd, hv⟩ := hit
    refine nestHit_K (c' := c') F N T C hcd (List.mem_append_right _ (.head _)) ?_ ?_ hcl ?_
    · simp [TriplesOk, rawInt]
    · simp [codeAmong, rawInt]
    · intro f ctv doc h' tk F' N' hlt
      refine h f _ c' ctv doc _ h' tk rfl F' N' ⟨oc, vs, t, rfl, hd, hv⟩ ?_
      intro q hq
      refine hlt q ?_
      rcases List.mem_append.mp hq with hq | hq
      · exact List.mem_append_left _ hq
      · exact List.mem_append_right _ (List.mem_append_right _ hq)
end
theorem ne_of_allLt {d x : Nat} : ∀ {l : List (Addr × Obj)}, AllLt d l → d ≤ x → ∀ p ∈ l, p.1 ≠ x
  | [], _, _, _, h => nomatch h
  | q :: r, h, hd, p, hp => by
    rcases List.mem_cons.mp hp with rfl | hp
    · exact Nat.ne_of_lt (Nat.lt_of_lt_of_le h.1 hd)
    · exact ne_of_allLt h.2 hd p hp
theorem seg_lt {P d : Nat} {pos : Pos} {qual : Str} {l rest : List (Addr × Obj)} (h : TabSeg P pos qual l) (k : AllLt d (l ++ rest)) : P < d := by
  rcases h with rfl | ⟨c', oc, vs, t, rfl, _⟩ <;> exact k.1
theorem allLt_right {d : Nat} : ∀ {l rest : List (Addr × Obj)}, AllLt d (l ++ rest) → AllLt d rest
  | [], _, h => h
  | _ :: l, _, h => allLt_right (l := l) h.2
theorem hit_ne {h₀ h : Heap} {L x P c' : Addr} {ox : Obj} {pos : Pos} {qual : Str} {l rest news : List (Addr × Obj)} (N : News h₀ L h news) (hit : TabHit P pos qual c' l) (hsub : ∀ p ∈ l, p ∈ news) (hx : (x, ox) ∈ news) (hd : ∀ vs, ox.data ≠ .fields vs) (hrest : ∀ p ∈ rest, p.1 ≠ x) :
    ∀ p ∈ l ++ rest, p.1 ≠ x := by
  intro p hp e
  rcases List.mem_append.mp hp with hp | hp
  · have h1 := (N p (hsub p hp)).1
    have h2 := (N _ hx).1
    rw [e] at h1
    have h3 : p.2 = ox := Option.some.inj (h1.symm.trans h2)
    obtain ⟨oc, vs, t, rfl, hoc, _⟩ := hit
    rcases List.mem_cons.mp hp with rfl | hp
    · exact hd _ (by rw [← h3])
    · rw [List.mem_singleton.mp hp] at h3
      exact hd vs (by rw [← h3]; exact hoc)
  · exact hrest p hp e
theorem len_K {prog : Program} {w : World} {A : Around} {E : Value → Shared → Prop} {s : Shared} {h₀ : Heap} {L d : Addr} {news : List (Addr × Obj)} {vs : List Value} {c : Nat} {Q : Value → Shared → Prop} (N : News h₀ L s.heap news) (hm : (d, listOf vs.toArray c) ∈ news) (hf : vs.length < 2 ^ 62) (h : ∀ t tk, Q (.int vs.length t) { s with toks := tk }) :
    wpAny (model prog w) A (call (.builtin "len") [.ref d]) Q E s := by
  have hsz : vs.toArray.size = vs.length := by simp
  refine len_list (items := vs.toArray) (PySem.IsL.isList (n := c) (N _ hm).1) (by rw [hsz]; omega) ?_
  rw [hsz]; exact h _ _
/-- [x] * k -/
theorem mul_rep {prog : Program} {w : World} {A : Around} {E : Value → Shared → Prop} {s : Shared} {h₀ : Heap} {L : Addr} {m : Str → Option Value} {news : List (Addr × Obj)} {lo : Addr} {c k : Nat} {x : Value} {u : Tok} {Q : Value → Shared → Prop}
    (F : Fr h₀ L s.heap m) (N : News h₀ L s.heap news) (hm : (lo, listOf #[x] c) ∈ news) (hk : k ≤ 2 ^ 24)
    (h : ∀ D h', Fr h₀ L h' m → News h₀ L h' ((D, listOf (List.replicate k x).toArray 0) :: news) → AllLt D news → Q (.ref D) { s with heap := h' }) :
    wpAny (model prog w) A (binaryOp .Mult (.ref lo) (.int (k : Int) u)) Q E s := by
  refine mul_list (items := #[x]) (k := c) F N (N _ hm).1 (by omega) (by omega) (by simpa using hk) ?_
  intro h' F' N'
  have e : List.foldl (fun x1 x2 => x1 ++ x2) #[] (List.replicate (if (#[x] : Array Value).isEmpty = true then 0 else (k : Int).toNat) #[x]) = (List.replicate k x).toArray := by
    rw [listMul_foldl_if, Int.toNat_natCast]
    congr 1
    exact lm_rep_flat_one x k
  rw [e] at N'
  exact h _ h' F' N' (allLt_of fun p hp => Heap.lt_size (N p hp).1)
theorem ints_rep (x : Int) (t : Tok) : ∀ k, IntsAre (List.replicate k (.int x t)) (List.replicate k x)
  | 0 => .nil
  | k + 1 => .cons x t (ints_rep x t k)
section
variable {prog : Program} {w : World} {A : Around} {E : Value → Shared → Prop} {s : Shared} {a b : Int} {t u : Tok} {Q : Value → Shared → Prop}
theorem mul_as (v : Int) (hm : IntMulOk a b) (e : a * b = v) (h : Q (.int v s.toks) { s with toks := s.toks + 1 }) : wpAny (model prog w) A (binaryOp .Mult (.int a t) (.int b u)) Q E s := PyProof.Rows.mul_int (by rw [e]; exact h) (hm := hm)
theorem xor_as (v : Int) (e : Builtin.bitXor a b = v) (h : Q (.int v s.toks) { s with toks := s.toks + 1 }) : wpAny (model prog w) A (binaryOp .BitXor (.int a t) (.int b u)) Q E s := xor_int (by rw [e]; exact h)
theorem lshift_as (v : Int) (hn : 0 ≤ b) (hsz : (Builtin.Int.intBits a : Int) + b ≤ 2 ^ 27) (e : a * 2 ^ b.toNat = v) (h : Q (.int v s.toks) { s with toks := s.toks + 1 }) : wpAny (model prog w) A (binaryOp .LShift (.int a t) (.int b u)) Q E s := lshift_int hn hsz (by rw [e]; exact h)
end
theorem codeHd34 {P : Params} {h : Heap} (X : (hd.heap_39 P).In h) : CodeHd h 34 30 := codeHd_of_K X (by kernel_rfl)
theorem codeHd41 {P : Params} {h : Heap} (X : (hd.heap_39 P).In h) : CodeHd h 41 37 := codeHd_of_K X (by kernel_rfl)
theorem dig_count {b n : Nat} (h : 0 < n) : ((b : Int) + (n : Int) - 1).fdiv (n : Int) = ((cnt b n : Nat) : Int) := by
  unfold cnt
  rw [Int.fdiv_eq_ediv_of_nonneg _ (by omega)]
  rw [Int.natCast_ediv]
  congr 1
  omega
theorem idx_fit {n hi lo : Nat} {len : Nat} (hle : hi ≤ len) (hlt : lo < hi) (hsz : n * len ≤ 4000000) (hn : 0 < n) : ((lo : Nat) : Int) < 2 ^ 63 := by
  have : 1 * len ≤ n * len := Nat.mul_le_mul_right _ hn
  omega
theorem mid_idx (lo hi : Nat) : ((lo : Int) + (hi : Int)).fdiv (2 ^ Int.toNat 1) = (((lo + hi) / 2 : Nat) : Int) := by
  show ((lo : Int) + (hi : Int)).fdiv (2 ^ 1) = _
  rw [Int.fdiv_eq_ediv_of_nonneg _ (by decide)]
  omega
theorem up_idx {x : Int} {s : Nat} : x.fdiv (2 ^ ((s : Nat) : Int).toNat) = x / 2 ^ s := by
  rw [Int.toNat_natCast, fdiv_pow]
theorem shift_idx {n lo hi : Nat} (h : lo < hi) : ((((lo + hi) / 2 : Nat) : Int) - (lo : Int)) * (n : Int) = ((n * ((lo + hi) / 2 - lo) : Nat) : Int) := by
  have e : (((lo + hi) / 2 : Nat) : Int) - (lo : Int) = (((lo + hi) / 2 - lo : Nat) : Int) := by omega
  rw [e, Nat.mul_comm, Int.natCast_mul]
theorem shift_ok {n lo hi len : Nat} (h : lo < hi) (hle : hi ≤ len) (hsz : n * len ≤ 4000000) (hn2 : n ≤ 1100000) : IntMulOk ((((lo + hi) / 2 : Nat) : Int) - (lo : Int)) (n : Int) := by
  exact IntMulOk.of_right (intBits_le_64 (by omega) (by omega))
theorem up_ok {n lo hi len : Nat} {x : Int} (h : lo < hi) (hle : hi ≤ len) (hsz : n * len ≤ 4000000) (h0 : 0 ≤ x) (h1 : x < 2 ^ (n * (hi - lo))) :
    (Builtin.Int.intBits (x / 2 ^ (n * ((lo + hi) / 2 - lo))) : Int) + ((n * ((lo + hi) / 2 - lo) : Nat) : Int) ≤ 2 ^ 27 := by
  have b1 := bits_le h0 h1
  have b2 : Builtin.Int.intBits (x / 2 ^ (n * ((lo + hi) / 2 - lo))) ≤ n * (hi - lo) := by
    refine bits_le (Int.ediv_nonneg h0 (Int.le_of_lt (pow_pos _))) (Int.lt_of_le_of_lt (Int.ediv_le_self _ h0) h1)
  have m1 : n * (hi - lo) ≤ n * len := Nat.mul_le_mul_left _ (by omega)
  have m2 : n * ((lo + hi) / 2 - lo) ≤ n * len := Nat.mul_le_mul_left _ (by omega)
  omega
theorem up_lt {n lo hi : Nat} {x : Int} (h : lo < hi) (h0 : 0 ≤ x) (h1 : x < 2 ^ (n * (hi - lo))) : x / 2 ^ (n * ((lo + hi) / 2 - lo)) < 2 ^ (n * (hi - (lo + hi) / 2)) := by
  refine Int.ediv_lt_of_lt_mul (pow_pos _) ?_
  rw [← Int.pow_add, ← Nat.mul_add]
  have e : hi - (lo + hi) / 2 + ((lo + hi) / 2 - lo) = hi - lo := by omega
  rw [e]; exact h1
theorem bits_pos {a : Int} (h : a ≠ 0) : 0 < Builtin.Int.intBits a := by
  unfold Builtin.Int.intBits
  have : (a == 0) = false := by simpa using h
  rw [this]; simp
theorem cnt_small {b n : Nat} (h1 : n ≤ 1100000) (h2 : b ≤ 1100000) : cnt b n - 0 ≤ 2 ^ 22 := by
  have : cnt b n ≤ b + n - 1 := Nat.div_le_self _ _
  omega
theorem cnt_small2 {b n : Nat} (h1 : n ≤ 1100000) (h2 : b ≤ 1100000) : n * cnt b n ≤ 4000000 := by
  have := cnt_mul_le (b := b) (n := n)
  omega
theorem i2d_mem {x a b c d e p : Addr × Obj} {r : List (Addr × Obj)} (h : p ∈ x :: r) : p ∈ x :: a :: b :: c :: d :: e :: r := by
  rcases List.mem_cons.mp h with rfl | h
  · exact .head _
  · exact .tail _ (.tail _ (.tail _ (.tail _ (.tail _ (.tail _ h)))))
theorem zero_rep {n : Nat} {t : Tok} (hn : 0 < n) : IntsAre (List.replicate (cnt (Builtin.Int.intBits 0) n) (Value.int 0 t)) [] := by
  have : cnt (Builtin.Int.intBits 0) n = 0 := by
    show (0 + n - 1) / n = 0
    exact Nat.div_eq_of_lt (by omega)
  rw [this]; exact .nil
theorem fnAt_eq {h₀ h : Heap} {L q : Addr} {o : Obj} {news : List (Addr × Obj)} {name qual : Str} {params : Arguments} {body : List Stmt} {scope : Scope} {clos : List (Str × Addr)} {doc pm : Value} {c' : Addr} {ctv : Value} (N : News h₀ L h news) (hm : (q, o) ∈ news) (ho : o = fnMade name qual params body scope clos doc pm c' ctv) : FnAt q h := by
  subst ho; exact FnAt.of N hm
/-- what the middle of a stretch is good for -/
theorem mid_facts {lo hi k mid len : Nat} (hmid : mid = (lo + hi) / 2) (h1 : lo + 1 < hi) (hle : hi ≤ len) (hpow : hi - lo ≤ 2 ^ (k + 1)) : lo < mid ∧ mid < hi ∧ mid ≤ len ∧ mid - lo ≤ 2 ^ k ∧ hi - mid ≤ 2 ^ k := by
  rw [Nat.pow_succ] at hpow
  generalize 2 ^ k = q at *
  omega
theorem dlk {a k l : Nat} (h : a + (k + 1 + 1) < l) : a + 1 + (k + 1) < l := by omega
theorem dlu {a b k l : Nat} (h : a + 8 * (k + 1 + 1) < l) (e : b ≤ 8) : a + b + 8 * (k + 1) < l := by omega
/-- a stretch cut in the middle -/
inductive MidG (n lo hi len : Nat) (x : Int) (ds : List Int) (mid : Nat) (up low : Int) : Nat → Prop
  | mk (k' : Nat) (m1 : lo < mid) (m2 : mid < hi) (m3 : mid ≤ len) (m4 : mid - lo ≤ 2 ^ k') (m5 : hi - mid ≤ 2 ^ k') (l0 : 0 ≤ low) (l1 : low < 2 ^ (n * (mid - lo))) (u0 : 0 ≤ up) (u1 : up < 2 ^ (n * (hi - mid)))
      (e7 : putDig n (putDig n ds lo mid low) mid hi up = putDig n ds lo hi x) : MidG n lo hi len x ds mid up low (k' + 1)
inductive MidF (n lo hi len : Nat) (x : Int) (ds : List Int) (k : Nat) : Prop
  | mk (mid sh : Nat) (up low : Int) (f1 : ((lo : Int) + (hi : Int)).fdiv (2 ^ Int.toNat 1) = (mid : Int)) (f2 : x.fdiv (2 ^ ((sh : Nat) : Int).toNat) = up) (f3 : IntMulOk ((mid : Int) - (lo : Int)) (n : Int))
      (f4 : ((mid : Int) - (lo : Int)) * (n : Int) = ((sh : Nat) : Int)) (f5 : (Builtin.Int.intBits up : Int) + ((sh : Nat) : Int) ≤ 2 ^ 27) (f6 : Builtin.bitXor x (up * 2 ^ sh) = low)
      (one : ¬ lo + 1 = hi → MidG n lo hi len x ds mid up low k)
theorem midF {n lo hi len k : Nat} {x : Int} {ds : List Int} (hlt : lo < hi) (hle : hi ≤ len) (hpow : hi - lo ≤ 2 ^ k) (hsz : n * len ≤ 4000000) (hn2 : n ≤ 1100000) (hx0 : 0 ≤ x) (hx1 : x < 2 ^ (n * (hi - lo))) : MidF n lo hi len x ds k := by
  refine ⟨(lo + hi) / 2, n * ((lo + hi) / 2 - lo), _, _, mid_idx lo hi, up_idx, shift_ok hlt hle hsz hn2, shift_idx hlt, up_ok hlt hle hsz hx0 hx1, xor_top hx0, fun h => ?_⟩
  have h1 : lo + 1 < hi := by omega
  cases k with
  | zero => rw [Nat.pow_zero] at hpow; omega
  | succ k =>
    obtain ⟨m1, m2, m3, m4, m5⟩ := mid_facts rfl h1 hle hpow
    exact ⟨k, m1, m2, m3, m4, m5, Int.emod_nonneg _ (Int.ne_of_gt (pow_pos _)), Int.emod_lt_of_pos _ (pow_pos _), Int.ediv_nonneg hx0 (Int.le_of_lt (pow_pos _)), up_lt hlt hx0 hx1, put_two (Nat.le_of_lt m1) (Nat.le_of_lt m2)⟩
end

section

set_option maxRecDepth 100000
set_option maxHeartbeats 2000000
end

section

set_option maxRecDepth 100000
set_option maxHeartbeats 2000000
theorem undig_ok {n lo hi : Nat} {qs : List Int} (h : lo < hi) (hle : hi ≤ qs.length) (hsz : n * qs.length ≤ 4000000) (hqs : ∀ q ∈ qs, 0 ≤ q ∧ q < 2 ^ n) :
    (Builtin.Int.intBits (undig n (cut qs ((lo + hi) / 2) hi)) : Int) + ((n * ((lo + hi) / 2 - lo) : Nat) : Int) ≤ 2 ^ 27 := by
  have b := undig_bounds (n := n) (qs := cut qs ((lo + hi) / 2) hi) fun q hq => hqs q (cut_mem hq)
  rw [cut_length hle] at b
  have b2 := bits_le b.1 b.2
  have m1 : n * (hi - (lo + hi) / 2) ≤ n * qs.length := Nat.mul_le_mul_left _ (by omega)
  have m2 : n * ((lo + hi) / 2 - lo) ≤ n * qs.length := Nat.mul_le_mul_left _ (by omega)
  omega
inductive MidK (n lo hi : Nat) (qs : List Int) (mid sh : Nat) (up : Int) : Nat → Prop
  | mk (k' : Nat) (m1 : lo < mid) (m2 : mid < hi) (m3 : mid ≤ qs.length) (m4 : mid - lo ≤ 2 ^ k') (m5 : hi - mid ≤ 2 ^ k') (e6 : undig n (cut qs mid hi) = up) (e7 : up * 2 ^ sh + undig n (cut qs lo mid) = undig n (cut qs lo hi)) : MidK n lo hi qs mid sh up (k' + 1)
inductive MidJ (n lo hi : Nat) (qs : List Int) (k : Nat) : Prop
  | mk (mid sh : Nat) (up : Int) (f1 : ((lo : Int) + (hi : Int)).fdiv (2 ^ Int.toNat 1) = (mid : Int)) (f3 : IntMulOk ((mid : Int) - (lo : Int)) (n : Int))
      (f4 : ((mid : Int) - (lo : Int)) * (n : Int) = ((sh : Nat) : Int)) (f5 : (Builtin.Int.intBits up : Int) + ((sh : Nat) : Int) ≤ 2 ^ 27)
      (one : ¬ lo + 1 = hi → MidK n lo hi qs mid sh up k)
theorem midJ {n lo hi k : Nat} {qs : List Int} (hlt : lo < hi) (hle : hi ≤ qs.length) (hpow : hi - lo ≤ 2 ^ k) (hsz : n * qs.length ≤ 4000000) (hn2 : n ≤ 1100000) (hqs : ∀ q ∈ qs, 0 ≤ q ∧ q < 2 ^ n) : MidJ n lo hi qs k := by
  refine ⟨(lo + hi) / 2, n * ((lo + hi) / 2 - lo), _, mid_idx lo hi, shift_ok hlt hle hsz hn2, shift_idx hlt, undig_ok hlt hle hsz hqs, fun h => ?_⟩
  have h1 : lo + 1 < hi := by omega
  cases k with
  | zero => rw [Nat.pow_zero] at hpow; omega
  | succ k =>
    obtain ⟨m1, m2, m3, m4, m5⟩ := mid_facts rfl h1 hle hpow
    exact ⟨k, m1, m2, m3, m4, m5, rfl, (undig_split (Nat.le_of_lt m1) (Nat.le_of_lt m2) hle).symm⟩
end

section

set_option maxRecDepth 100000
noncomputable abbrev Seg30 := TabSeg 30 ⟨32, 4, 41, 28⟩ (Str.ofString "_int2digits.<locals>.inner")
noncomputable abbrev Seg37 := TabSeg 37 ⟨47, 4, 52, 55⟩ (Str.ofString "_digits2int.<locals>.inner")
/-- the two tables of made defs, as they may stand -/
noncomputable def Tabs (l : List (Addr × Obj)) : Prop := ∃ l30 l37, l = l30 ++ l37 ∧ Seg30 l30 ∧ Seg37 l37
theorem seg_mem {P : Addr} {pos : Pos} {qual : Str} {l : List (Addr × Obj)} (h : TabSeg P pos qual l) : ∃ ps, (P, tabObj ps) ∈ l ∧ ∀ x t, (ps[1]? : Option Value) ≠ some (.str x t) := by
  rcases h with rfl | ⟨c', oc, vs, t, rfl, _⟩
  · exact ⟨#[], .head _, fun x t h => by simp at h⟩
  · exact ⟨_, .head _, fun x t h => by simp [rawInt] at h⟩
/-- one table's rows do not lie at another table's place -/
theorem seg_off {h₀ h : Heap} {L P P' : Addr} {pos pos' : Pos} {qual qual' : Str} {l l' news : List (Addr × Obj)} (N : News h₀ L h news) (h1 : TabSeg P pos qual l) (h2 : TabSeg P' pos' qual' l') (s1 : ∀ p ∈ l, p ∈ news) (s2 : ∀ p ∈ l', p ∈ news) (hPP : P ≠ P') :
    ∀ p ∈ l, p.1 ≠ P' := by
  obtain ⟨ps, hm, hps⟩ := seg_mem h2
  have e2 := (N _ (s2 _ hm)).1
  rcases h1 with rfl | ⟨c', oc, vs, t, rfl, hd, hv⟩
  · intro p hp
    rw [List.mem_singleton.mp hp]
    exact hPP
  · intro p hp
    rcases List.mem_cons.mp hp with rfl | hp'
    · exact hPP
    · rw [List.mem_singleton.mp hp']
      intro e
      have e1 := (N _ (s1 (c', oc) (.tail _ (.head _)))).1
      simp only at e
      rw [e, e2] at e1
      have e3 : tabObj ps = oc := Option.some.inj e1
      rw [← e3] at hd
      cases hd
      exact hps _ _ hv
/-- a table's rows do not lie at a list's or a tuple's place -/
theorem seg_ne {h₀ h : Heap} {L x P : Addr} {ox : Obj} {pos : Pos} {qual : Str} {l news : List (Addr × Obj)} (N : News h₀ L h news) (h1 : TabSeg P pos qual l) (hsub : ∀ p ∈ l, p ∈ news) (hx : (x, ox) ∈ news) (hd : ∀ vs, ox.data ≠ .fields vs) : ∀ p ∈ l, p.1 ≠ x := by
  intro p hp e
  have e1 := (N p (hsub p hp)).1
  have e2 := (N _ hx).1
  rw [e] at e1
  have e3 : p.2 = ox := Option.some.inj (e1.symm.trans e2)
  rcases h1 with rfl | ⟨c', oc, vs, t, rfl, hoc, _⟩
  · rw [List.mem_singleton.mp hp] at e3
    exact hd _ (by rw [← e3])
  · rcases List.mem_cons.mp hp with rfl | hp'
    · exact hd _ (by rw [← e3])
    · rw [List.mem_singleton.mp hp'] at e3
      exact hd vs (by rw [← e3]; exact hoc)
end

section

set_option maxRecDepth 100000
set_option maxHeartbeats 2000000
theorem ints_rev : ∀ {vs : List Value} {xs : List Int}, IntsAre vs xs → IntsAre vs.reverse xs.reverse
  | _, _, .nil => .nil
  | _, _, .cons n t r => by
    rw [List.reverse_cons, List.reverse_cons]
    exact IntsAre.append (ints_rev r) (.cons n t .nil)
end

section

set_option maxRecDepth 100000
set_option maxHeartbeats 2000000
theorem Call.more {w : World} {loose : List Str} {mean : ExcName → Option Value} {mg mb : Str → Option Value} {f : Addr} {vs : List Value} {d u d' u' : Nat} {Pre : List (Addr × Obj) → Prop} {Post : List (Addr × Obj) → Value → List (Addr × Obj) → Prop}
    (C : Call w loose mean mg mb f vs d u Pre Post) (h1 : d ≤ d') (h2 : u ≤ u') : Call w loose mean mg mb f vs d' u' Pre Post := by
  unfold Call
  intro dp un gd cn cs adr ccd cl outer A₀ base h₀ L m news s Q E B F X N T hk hd hu hp ret
  exact Call.use C B F X N T hk (by omega) (by omega) hp ret
noncomputable def PreD (tabs rest : List (Addr × Obj)) (a b : Int) (news : List (Addr × Obj)) : Prop :=
  news = tabs ++ rest ∧ Tabs tabs ∧ (∀ p ∈ rest, p.1 ≠ 30) ∧ (∀ p ∈ rest, p.1 ≠ 37) ∧ 0 < b ∧ Builtin.Int.intBits a ≤ 1100000 ∧ Builtin.Int.intBits b ≤ 1100000
noncomputable def PostD (rest : List (Addr × Obj)) (a b : Int) (_ : List (Addr × Obj)) (r : Value) (news' : List (Addr × Obj)) : Prop :=
  ∃ t u v c tabs', r = .ref t ∧ news' = (t, tup2 (a / b) (a % b) u v c) :: (tabs' ++ rest) ∧ Tabs tabs' ∧ AllLt t rest
theorem bits_not {a : Int} (h : a < 0) : Builtin.Int.intBits (-a - 1) ≤ Builtin.Int.intBits a := by
  have h1 : Builtin.Int.intBits a = Builtin.Int.intBits (-a) := by
    unfold Builtin.Int.intBits
    simp only [Int.natAbs_neg]
    have e1 : (a == 0) = false := by simp; omega
    have e2 : (-a == 0) = false := by simp; omega
    rw [e1, e2]
  rw [h1]
  exact bits_le (by omega) (by have := lt_of_bits (x := -a) (by omega) (Nat.le_refl _); omega)
theorem not_div {a b : Int} (hb : 0 < b) : a / b = - ((-a - 1) / b) - 1 ∧ a % b = b + (- ((-a - 1) % b) - 1) := by
  have h1 := Int.mul_ediv_add_emod (-a - 1) b
  have h2 := Int.emod_nonneg (-a - 1) (show b ≠ 0 by omega)
  have h3 := Int.emod_lt_of_pos (-a - 1) hb
  refine (Int.ediv_emod_unique hb).mpr ⟨?_, by omega, by omega⟩
  rw [Int.mul_sub, Int.mul_neg, Int.mul_one]
  omega
theorem postD_end {h₀ h' : Heap} {L D : Addr} {m : Str → Option Value} {news rest tabs' : List (Addr × Obj)} {x : Addr × Obj} {Q : Value → Shared → Prop} {s : Shared} {a b q r : Int} {u v : Tok} {c tk : Nat}
    (hret : ∀ r news' h' tk', Fr h₀ L h' m → News h₀ L h' news' → PostD rest a b news r news' → Q r { s with heap := h', toks := tk' })
    (F : Fr h₀ L h' m) (N : News h₀ L h' ((D, tup2 q r u v c) :: x :: (tabs' ++ rest))) (e : a / b = q ∧ a % b = r) (ht : Tabs tabs') (hl : AllLt D rest) : Q (.ref D) { s with heap := h', toks := tk } := by
  obtain ⟨rfl, rfl⟩ := e
  refine hret _ ((D, tup2 (a / b) (a % b) u v c) :: (tabs' ++ rest)) _ _ F (fun p hp => ?_) ⟨D, u, v, c, tabs', rfl, rfl, ht, hl⟩
  rcases List.mem_cons.mp hp with rfl | hp
  · exact N _ (.head _)
  · exact N _ (.tail _ (.tail _ hp))
end

section

set_option maxRecDepth 100000
set_option maxHeartbeats 2000000
noncomputable abbrev tup (vs : List Value) (c : Nat) : Obj := { cls := .type "tuple", data := .seq vs.toArray c }
noncomputable def wishOf (had whole share g : Int) : List Int := [had * whole / share, - (-(had + 1) * whole / share), g, had * whole % share, -(had + 1) * whole % share]
theorem bits_neg (x : Int) : Builtin.Int.intBits (-x) = Builtin.Int.intBits x := by
  unfold Builtin.Int.intBits
  simp only [Int.natAbs_neg]
  by_cases h : x = 0
  · subst h; rfl
  · have e1 : (x == 0) = false := by simp; exact h
    have e2 : (-x == 0) = false := by simp; exact h
    rw [e1, e2]
theorem bits_mul {h w : Int} {n : Nat} (h0 : 0 ≤ h) (h1 : h ≤ 101) (w0 : 0 ≤ w) (hw : Builtin.Int.intBits w ≤ n) : Builtin.Int.intBits (h * w) ≤ n + 7 := by
  have e1 := lt_of_bits w0 hw
  have e2 : h * w ≤ 101 * w := Int.mul_le_mul_of_nonneg_right h1 w0
  have e3 : (2 : Int) ^ (n + 7) = 2 ^ n * 128 := by rw [Int.pow_add]; rfl
  refine bits_le (Int.mul_nonneg h0 w0) ?_
  rw [e3]
  omega
theorem small_l {h w : Int} (h0 : 0 ≤ h) (h1 : h ≤ 101) : IntMulOk h w := IntMulOk.of_left (Nat.le_trans (bits_le (m := 7) h0 (by omega)) (by decide))
theorem small_ln {h w : Int} (h0 : 0 ≤ h) (h1 : h ≤ 101) : IntMulOk (-h) w := IntMulOk.of_left (by rw [bits_neg]; exact Nat.le_trans (bits_le (m := 7) h0 (by omega)) (by decide))
section
variable {prog : Program} {w : World} {A : Around} {E : Value → Shared → Prop} {s : Shared} {h₀ : Heap} {L D : Addr} {news : List (Addr × Obj)} {vs : List Value} {ns : List Int} {n g : Nat} {u : Tok} {x : Int}
theorem at_get {value slice : PySem.Expr} {Q : Value → Shared → Prop} (N : News h₀ L s.heap news) (hm : (D, listOf vs.toArray n) ∈ news) (hi : IntsAre vs ns) (e : ns[g]? = some x) (hl : ns.length ≤ 100) (h : ∀ t, Q (.int x t) s)
    (hs : subscripted slice false (.ref D) (.int g u) = operate [.ref D, .int g u] (getItem (.ref D) (.int g u)) := by with_unfolding_all rfl) :
    wpAny (model prog w) A (subscriptTail value slice (.ref D) (.int g u)) Q E s := by
  have hg : g < ns.length := (List.getElem?_eq_some_iff.mp e).1
  refine ksa_sub N hm hi (by omega) (by omega) (by omega) (fun t => ?_) hs
  have : ns.getD (g : Int).toNat 0 = x := by rw [Int.toNat_natCast, List.getD_eq_getElem?_getD, e]; rfl
  rw [this]
  exact h t
end
theorem News.of_mem {h₀ h : Heap} {L : Addr} {news l : List (Addr × Obj)} (N : News h₀ L h news) (hs : ∀ p ∈ l, p ∈ news) : News h₀ L h l := fun p hp => N p (hs p hp)
noncomputable def PostT (rest : List (Addr × Obj)) (ks : List Int) (_ : List (Addr × Obj)) (r : Value) (news' : List (Addr × Obj)) : Prop :=
  ∃ t vs c tabs', r = .ref t ∧ news' = (t, tup vs c) :: (tabs' ++ rest) ∧ Tabs tabs' ∧ AllLt t rest ∧ IntsAre vs ks
theorem postT_end {h₀ h' : Heap} {L D : Addr} {m : Str → Option Value} {news rest tabs' : List (Addr × Obj)} {x : Addr × Obj} {Q : Value → Shared → Prop} {s : Shared} {vs : List Value} {ks : List Int} {c tk : Nat}
    (hret : ∀ r news' h' tk', Fr h₀ L h' m → News h₀ L h' news' → PostT rest ks news r news' → Q r { s with heap := h', toks := tk' })
    (F : Fr h₀ L h' m) (N : News h₀ L h' ((D, tup vs c) :: x :: (tabs' ++ rest))) (hi : IntsAre vs ks) (ht : Tabs tabs') (hl : AllLt D rest) : Q (.ref D) { s with heap := h', toks := tk } := by
  refine hret _ ((D, tup vs c) :: (tabs' ++ rest)) _ _ F (fun p hp => ?_) ⟨D, vs, c, tabs', rfl, rfl, ht, hl, hi⟩
  rcases List.mem_cons.mp hp with rfl | hp
  · exact N _ (.head _)
  · exact N _ (.tail _ (.tail _ hp))
end

section

variable {α : Type} (lt : α → α → Bool)
theorem move_perm {xs : List α} {i j : Nat} {x y : α} (hi : i < xs.length) (hj : xs[j]? = some y) (hne : i ≠ j) : ((xs.set i y).set j x).Perm (xs.set i x) := by
  obtain ⟨hl, rfl⟩ := List.getElem?_eq_some_iff.mp hj
  have h := List.set_set_perm (as := xs.set i x) (i := i) (j := j) (by simpa using hi) (by simpa using hl)
  simpa [List.getElem_set, hne] using h
theorem sdLoop_perm (x : α) (start : Nat) : ∀ f (xs : List α) p, p < xs.length → (sdLoop lt x start f xs p).Perm (xs.set p x)
  | 0, _, _, _ => .refl _
  | f + 1, xs, p, hp => by
    unfold sdLoop
    split
    · split
      · rename_i hs _ y hy
        split
        · exact (sdLoop_perm x start f _ _ (by simp; omega)).trans (move_perm hp hy (by omega))
        · exact .refl _
      · exact .refl _
    · exact .refl _
theorem siftdown_perm (xs : List α) (start p : Nat) : (siftdown lt xs start p).Perm xs := by
  unfold siftdown
  split
  · rename_i x hx
    obtain ⟨hl, rfl⟩ := List.getElem?_eq_some_iff.mp hx
    have := sdLoop_perm lt xs[p] start p xs p hl
    rwa [List.set_getElem_self] at this
  · exact .refl _
end

section

section
variable {α : Type} (lt : α → α → Bool)
theorem suLoop_bound : ∀ f (xs : List α) p, p < xs.length → (suLoop lt f xs p).2 < xs.length
  | 0, _, _, h => h
  | f + 1, xs, p, h => by
    unfold suLoop
    split
    · split
      · rename_i y hy
        have hc := (List.getElem?_eq_some_iff.mp hy).1
        have := suLoop_bound f (xs.set p y) (suC lt xs p) (by simpa using hc)
        simpa using this
      · exact h
    · exact h
theorem suC_gt (xs : List α) (p : Nat) : p < suC lt xs p := by
  unfold suC
  split
  · split <;> omega
  · omega
theorem suLoop_perm (x : α) : ∀ f (xs : List α) p, p < xs.length → ((suLoop lt f xs p).1.set (suLoop lt f xs p).2 x).Perm (xs.set p x)
  | 0, _, _, _ => .refl _
  | f + 1, xs, p, hp => by
    unfold suLoop
    split
    · split
      · rename_i y hy
        have hc := (List.getElem?_eq_some_iff.mp hy).1
        have hgt := suC_gt lt xs p
        exact (suLoop_perm x f _ _ (by simpa using hc)).trans (move_perm hp hy (by omega))
      · exact .refl _
    · exact .refl _
theorem siftup_perm (xs : List α) (p : Nat) : (siftup lt xs p).Perm xs := by
  unfold siftup
  split
  · rename_i x hx
    obtain ⟨hl, rfl⟩ := List.getElem?_eq_some_iff.mp hx
    refine (siftdown_perm lt _ _ _).trans ?_
    have := suLoop_perm lt xs[p] xs.length xs p hl
    rwa [List.set_getElem_self] at this
  · exact .refl _
theorem hpfy_perm : ∀ (k : Nat) (xs : List α), (hpfy lt xs k).Perm xs
  | 0, _ => .refl _
  | k + 1, xs => (hpfy_perm k _).trans (siftup_perm lt xs k)

/-- pairs of parent and child in order, the parent not before start, the place p left out -/
noncomputable def Hole (start p : Nat) (xs : List α) : Prop :=
  (∀ i a b, 0 < i → start ≤ (i - 1) / 2 → i ≠ p → (i - 1) / 2 ≠ p → xs[(i - 1) / 2]? = some a → xs[i]? = some b → lt b a = false) ∧
  (∀ i a b, 0 < p → start ≤ (p - 1) / 2 → 0 < i → (i - 1) / 2 = p → xs[(p - 1) / 2]? = some a → xs[i]? = some b → lt b a = false)
/-- a heap from start on -/
noncomputable def HeapFrom (start : Nat) (xs : List α) : Prop := ∀ i a b, 0 < i → start ≤ (i - 1) / 2 → xs[(i - 1) / 2]? = some a → xs[i]? = some b → lt b a = false
inductive Desc (start : Nat) : Nat → Prop
  | here : Desc start start
  | down {p : Nat} : 0 < p → Desc start ((p - 1) / 2) → Desc start p
theorem Desc.le {start p : Nat} (h : Desc start p) : start ≤ p := by
  induction h with
  | here => omega
  | down h _ ih => omega
theorem Desc.up {start p : Nat} (h : Desc start p) (hs : start < p) : Desc start ((p - 1) / 2) := by
  cases h with
  | here => omega
  | down _ h => exact h

variable (tr : ∀ a b c, lt b a = false → lt c b = false → lt c a = false) (asy : ∀ a b, lt a b = true → lt b a = false)
include tr asy

theorem sd_heap (x : α) (start : Nat) : ∀ f (xs : List α) p, p ≤ f → p < xs.length → Desc start p → Hole lt start p xs → (∀ i b, 0 < i → (i - 1) / 2 = p → xs[i]? = some b → lt b x = false) → HeapFrom lt start (sdLoop lt x start f xs p)
  | f, xs, p, hf, hp, hd, hh, hc => by
    have stop : (∀ a, 0 < p → start ≤ (p - 1) / 2 → xs[(p - 1) / 2]? = some a → lt x a = false) → HeapFrom lt start (xs.set p x) := by
      intro hs i a b hi hsi ha hb
      rw [List.getElem?_set] at ha hb
      by_cases h1 : p = i
      · subst h1
        have h2 : ¬ p = (p - 1) / 2 := by omega
        simp only [h2, if_false] at ha
        simp only [hp, if_true, Option.some.injEq] at hb
        subst hb
        exact hs a hi hsi ha
      · simp only [h1, if_false] at hb
        by_cases h2 : p = (i - 1) / 2
        · simp only [h2, if_true] at ha
          rw [if_pos (by omega)] at ha
          cases ha
          exact hc i b hi h2.symm hb
        · simp only [h2, if_false] at ha
          exact hh.1 i a b hi hsi (Ne.symm h1) (Ne.symm h2) ha hb
    match f, hf with
    | 0, hf => exact stop (fun a h => by omega)
    | f + 1, hf =>
      unfold sdLoop
      split
      · rename_i hs
        split
        · rename_i y hy
          split
          · rename_i hlt
            have hq := hd.up hs
            have hql := hq.le
            have hne : (p - 1) / 2 ≠ p := by omega
            refine sd_heap x start f (xs.set p y) ((p - 1) / 2) (by omega) (by simp; omega) hq ⟨?_, ?_⟩ ?_
            · intro i a b hi hsi hi1 hi2 ha hb
              rw [List.getElem?_set] at ha hb
              have h1 : ¬ p = i := fun e => hi2 (by rw [e])
              simp only [h1, if_false] at hb
              by_cases h2 : p = (i - 1) / 2
              · rw [if_pos h2, if_pos hp] at ha
                cases ha
                exact hh.2 i y b (by omega) hql hi h2.symm hy hb
              · rw [if_neg h2] at ha
                exact hh.1 i a b hi hsi (Ne.symm h1) (Ne.symm h2) ha hb
            · intro i a b hq0 hsq hi hiq ha hb
              rw [List.getElem?_set] at ha hb
              rw [if_neg (by omega)] at ha
              have hay : lt y a = false := hh.1 ((p - 1) / 2) a y hq0 hsq hne (by omega) ha hy
              by_cases h1 : p = i
              · rw [if_pos h1, if_pos hp] at hb
                cases hb
                exact hay
              · rw [if_neg h1] at hb
                exact tr _ _ _ hay (hh.1 i y b hi (by omega) (Ne.symm h1) (by omega) (by rw [hiq]; exact hy) hb)
            · intro i b hi hiq hb
              rw [List.getElem?_set] at hb
              by_cases h1 : p = i
              · rw [if_pos h1, if_pos hp] at hb
                cases hb
                exact asy _ _ hlt
              · rw [if_neg h1] at hb
                exact tr _ _ _ (asy _ _ hlt) (hh.1 i y b hi (by omega) (Ne.symm h1) (by omega) (by rw [hiq]; exact hy) hb)
          · rename_i hlt
            exact stop (fun a _ _ ha => by rw [hy] at ha; cases ha; simpa using hlt)
        · rename_i hy
          exact stop (fun a _ _ ha => by rw [hy] at ha; cases ha)
      · rename_i hs
        have := hd.le
        exact stop (fun a h1 h2 _ => by omega)

theorem su_heap (start : Nat) : ∀ f (xs : List α) p, xs.length ≤ f + p → p < xs.length → Desc start p → Hole lt start p xs →
    Hole lt start (suLoop lt f xs p).2 (suLoop lt f xs p).1 ∧ Desc start (suLoop lt f xs p).2 ∧ xs.length ≤ 2 * (suLoop lt f xs p).2 + 1
  | 0, xs, p, hf, hp, hd, hh => by omega
  | f + 1, xs, p, hf, hp, hd, hh => by
    unfold suLoop
    split
    · rename_i hlen
      have hcc : suC lt xs p = 2 * p + 1 ∨ suC lt xs p = 2 * p + 2 := by
        unfold suC
        split
        · split
          · exact .inl rfl
          · exact .inr rfl
        · exact .inl rfl
      have hmin : ∀ i y b, 0 < i → (i - 1) / 2 = p → i ≠ suC lt xs p → xs[suC lt xs p]? = some y → xs[i]? = some b → lt b y = false := by
        intro i y b hi hip hne hy hb
        have hi2 : i = 2 * p + 1 ∨ i = 2 * p + 2 := by omega
        by_cases h2 : xs.length ≤ 2 * p + 2
        · have := (List.getElem?_eq_some_iff.mp hb).1
          rw [suC_one lt h2] at hne
          omega
        · have ha : xs[2 * p + 1]? = some xs[2 * p + 1] := List.getElem?_eq_getElem hlen
          have hb' : xs[2 * p + 2]? = some xs[2 * p + 2] := List.getElem?_eq_getElem (by omega)
          cases hl : lt xs[2 * p + 1] xs[2 * p + 2] with
          | true =>
            have hcl := suC_left lt ha hb' hl
            rw [hcl] at hy hne
            have : i = 2 * p + 2 := by omega
            subst this
            rw [ha] at hy; rw [hb'] at hb; cases hy; cases hb
            exact asy _ _ hl
          | false =>
            have hcl := suC_right lt ha hb' hl
            rw [hcl] at hy hne
            have : i = 2 * p + 1 := by omega
            subst this
            rw [hb'] at hy; rw [ha] at hb; cases hy; cases hb
            exact hl
      split
      · rename_i y hy
        generalize suC lt xs p = c at *
        have hcl := (List.getElem?_eq_some_iff.mp hy).1
        have hcp : (c - 1) / 2 = p := by omega
        have hdl := hd.le
        have := su_heap start f (xs.set p y) c (by simp; omega) (by simpa using hcl) (.down (by omega) (by rw [hcp]; exact hd)) ⟨?_, ?_⟩
        · simpa using this
        · intro i a b hi hsi hi1 hi2 ha hb
          rw [List.getElem?_set] at ha hb
          by_cases h1 : p = i
          · subst h1
            rw [if_neg (by omega)] at ha
            rw [if_pos rfl, if_pos hp] at hb
            cases hb
            exact hh.2 c a y hi hsi (by omega) hcp ha hy
          · rw [if_neg h1] at hb
            by_cases h2 : p = (i - 1) / 2
            · rw [if_pos h2, if_pos hp] at ha
              cases ha
              exact hmin i y b hi h2.symm hi1 hy hb
            · rw [if_neg h2] at ha
              exact hh.1 i a b hi hsi (Ne.symm h1) (Ne.symm h2) ha hb
        · intro i a b hc0 hsc hi hic ha hb
          rw [List.getElem?_set] at ha hb
          rw [hcp, if_pos rfl, if_pos hp] at ha
          cases ha
          rw [if_neg (by omega)] at hb
          exact hh.1 i y b hi (by omega) (by omega) (by omega) (by rw [hic]; exact hy) hb
      · rename_i hy
        have := List.getElem?_eq_none_iff.mp hy
        by_cases h2 : xs.length ≤ 2 * p + 2
        · rw [suC_one lt h2] at this; omega
        · omega
    · exact ⟨hh, hd, by omega⟩

theorem siftup_heap {xs : List α} {p : Nat} (hp : p < xs.length) (h : HeapFrom lt (p + 1) xs) : HeapFrom lt p (siftup lt xs p) := by
  unfold siftup
  rw [List.getElem?_eq_getElem hp]
  simp only
  have hb := suLoop_bound lt xs.length xs p hp
  have hl := suLoop_length lt xs.length xs p
  obtain ⟨h1, h2, h3⟩ := su_heap lt tr asy p xs.length xs p (by omega) hp .here ⟨fun i a b hi hsi hi1 hi2 ha hb => h i a b hi (by omega) ha hb, fun i a b h0 h1 => by omega⟩
  generalize suLoop lt xs.length xs p = R at *
  have hx : (R.1.set R.2 xs[p])[R.2]? = some xs[p] := by rw [List.getElem?_set]; simp; omega
  unfold siftdown
  rw [hx]
  simp only
  refine sd_heap lt tr asy xs[p] p R.2 _ R.2 (Nat.le_refl _) (by simp; omega) h2 ⟨?_, ?_⟩ ?_
  · intro i a b hi hsi hi1 hi2 ha hb
    rw [List.getElem?_set, if_neg (by omega)] at ha hb
    exact h1.1 i a b hi hsi hi1 hi2 ha hb
  · intro i a b h0 hs hi hir ha hb
    have := (List.getElem?_eq_some_iff.mp hb).1
    simp at this
    omega
  · intro i b hi hir hb
    have := (List.getElem?_eq_some_iff.mp hb).1
    simp at this
    omega
theorem hpfy_heap : ∀ (k : Nat) (xs : List α), k ≤ xs.length → HeapFrom lt k xs → HeapFrom lt 0 (hpfy lt xs k)
  | 0, _, _, h => h
  | k + 1, xs, hk, h => hpfy_heap k _ (by rw [siftup_length]; omega) (siftup_heap lt tr asy hk h)
theorem heapify_heap (xs : List α) : HeapFrom lt 0 (hpfy lt xs (xs.length / 2)) :=
  hpfy_heap lt tr asy _ _ (by omega) fun i a b hi hs ha hb => by
    have := (List.getElem?_eq_some_iff.mp hb).1
    omega
theorem desc0 (p : Nat) : Desc 0 p := by
  induction p using Nat.strongRecOn with
  | _ p ih =>
    by_cases h : p = 0
    · subst h; exact .here
    · exact .down (by omega) (ih _ (by omega))
theorem push_heap {xs : List α} {x : α} (h : HeapFrom lt 0 xs) : HeapFrom lt 0 (siftdown lt (xs ++ [x]) 0 xs.length) := by
  unfold siftdown
  have hx : (xs ++ [x])[xs.length]? = some x := by simp
  rw [hx]
  refine sd_heap lt tr asy x 0 _ _ _ (Nat.le_refl _) (by simp) (desc0 lt tr asy _) ⟨?_, ?_⟩ ?_
  · intro i a b hi _ hi1 hi2 ha hb
    have := (List.getElem?_eq_some_iff.mp hb).1
    simp at this
    rw [List.getElem?_append_left (by omega)] at ha hb
    exact h i a b hi (by omega) ha hb
  · intro i a b h0 _ hi hip ha hb
    have := (List.getElem?_eq_some_iff.mp hb).1
    simp at this
    omega
  · intro i b hi hip hb
    have := (List.getElem?_eq_some_iff.mp hb).1
    simp at this
    omega
theorem pop_heap {ys : List α} {x : α} (h : HeapFrom lt 0 (ys ++ [x])) (hl : 0 < ys.length) : HeapFrom lt 0 (siftup lt (ys.set 0 x) 0) := by
  refine siftup_heap lt tr asy (by simpa using hl) fun i a b hi hs ha hb => ?_
  rw [List.getElem?_set, if_neg (by omega)] at ha hb
  have h1 := (List.getElem?_eq_some_iff.mp ha).1
  have h2 := (List.getElem?_eq_some_iff.mp hb).1
  exact h i a b hi (by omega) (by rw [List.getElem?_append_left h1]; exact ha) (by rw [List.getElem?_append_left h2]; exact hb)
theorem root_least {xs : List α} {r : α} (h : HeapFrom lt 0 xs) (hr : xs[0]? = some r) : ∀ x ∈ xs, lt x r = false := by
  have rr : lt r r = false := by
    cases hc : lt r r with
    | false => rfl
    | true => have := asy _ _ hc; rw [hc] at this; cases this
  have : ∀ (i : Nat) (x : α), xs[i]? = some x → lt x r = false := by
    intro i
    induction i using Nat.strongRecOn with
    | _ i ih =>
      intro x hx
      by_cases h0 : i = 0
      · subst h0; rw [hr] at hx; cases hx; exact rr
      · have hl := (List.getElem?_eq_some_iff.mp hx).1
        have hp : xs[(i - 1) / 2]? = some (xs[(i - 1) / 2]'(by omega)) := List.getElem?_eq_getElem (by omega)
        exact tr _ _ _ (ih _ (by omega) _ hp) (h i _ x (by omega) (by omega) hp hx)
  intro x hx
  obtain ⟨i, hi⟩ := List.getElem?_of_mem hx
  exact this i x hi
omit tr asy in
theorem pop_perm {ys : List α} {x x0 : α} (h0 : ys[0]? = some x0) : (x0 :: siftup lt (ys.set 0 x) 0).Perm (ys ++ [x]) := by
  cases ys with
  | nil => cases h0
  | cons y ys =>
    cases h0
    refine (List.Perm.cons x0 (siftup_perm lt _ _)).trans ?_
    exact List.Perm.cons x0 (List.perm_append_singleton x ys).symm
omit tr asy in
theorem push_perm {xs : List α} {x : α} : (siftdown lt (xs ++ [x]) 0 xs.length).Perm (x :: xs) := (siftdown_perm lt _ _ _).trans (List.perm_append_singleton x xs)
end
theorem lex_asy : ∀ a b, lexLt a b = true → lexLt b a = false
  | [], [], h => by cases h
  | [], _ :: _, _ => rfl
  | _ :: _, [], h => by cases h
  | x :: xs, y :: ys, h => by
    unfold lexLt at h ⊢
    by_cases e : x = y
    · subst e; simp only [if_true] at h ⊢; exact lex_asy _ _ h
    · simp only [e, Ne.symm e, if_false, decide_eq_true_eq, decide_eq_false_iff_not] at h ⊢; omega
theorem lex_tr : ∀ a b c, lexLt b a = false → lexLt c b = false → lexLt c a = false
  | [], [], c, _, h => h
  | [], _ :: _, [], _, h => by cases h
  | [], _ :: _, _ :: _, _, _ => rfl
  | _ :: _, [], _, h, _ => by cases h
  | x :: xs, y :: ys, [], _, h => by cases h
  | x :: xs, y :: ys, z :: zs, h1, h2 => by
    unfold lexLt at h1 h2 ⊢
    by_cases e1 : y = x
    · subst e1
      by_cases e2 : z = y
      · subst e2; simp only [if_true] at h1 h2 ⊢; exact lex_tr _ _ _ h1 h2
      · simp only [e2, if_false] at h2 ⊢; exact h2
    · by_cases e2 : z = y
      · subst e2; simp only [e1, if_false] at h1 ⊢; exact h1
      · simp only [e1, e2, if_false, decide_eq_false_iff_not] at h1 h2
        have : ¬ z = x := by omega
        simp only [this, if_false, decide_eq_false_iff_not]; omega
theorem ltI_tr : ∀ a b c : It, ltI b a = false → ltI c b = false → ltI c a = false := fun a b c => lex_tr a.2 b.2 c.2
theorem ltI_asy : ∀ a b : It, ltI a b = true → ltI b a = false := fun a b => lex_asy a.2 b.2
end

section

/-- a sum over the places below n -/
noncomputable def Sg : Nat → (Nat → Int) → Int
  | 0, _ => 0
  | n + 1, f => Sg n f + f n
theorem Sg_le {f g : Nat → Int} : ∀ {n : Nat}, (∀ i, i < n → f i ≤ g i) → Sg n f ≤ Sg n g
  | 0, _ => Int.le_refl _
  | n + 1, h => by
    have h1 := Sg_le (n := n) fun i hi => h i (by omega)
    have h2 := h n (by omega)
    simp only [Sg]; omega
theorem Sg_mul (c : Int) (f : Nat → Int) : ∀ n : Nat, Sg n (fun i => c * f i) = c * Sg n f
  | 0 => by simp [Sg]
  | n + 1 => by simp only [Sg, Sg_mul c f n, Int.mul_add]
theorem Sg_upd {f g : Nat → Int} {c : Nat} : ∀ {n : Nat}, c < n → (∀ i, i < n → i ≠ c → g i = f i) → Sg n g = Sg n f + (g c - f c)
  | 0, h, _ => by omega
  | n + 1, h, e => by
    simp only [Sg]
    by_cases hc : c = n
    · subst hc
      have : Sg c g = Sg c f := by
        have h1 : Sg c g ≤ Sg c f := Sg_le fun i hi => by rw [e i (by omega) (by omega)]; exact Int.le_refl _
        have h2 : Sg c f ≤ Sg c g := Sg_le fun i hi => by rw [e i (by omega) (by omega)]; exact Int.le_refl _
        omega
      omega
    · have h1 := Sg_upd (n := n) (f := f) (g := g) (c := c) (by omega) fun i hi hn => e i (by omega) hn
      have h2 := e n (by omega) (Ne.symm hc)
      omega
theorem Sg_const (f : Nat → Int) (h : ∀ i, f i = 0) : ∀ n, Sg n f = 0
  | 0 => rfl
  | n + 1 => by simp only [Sg, Sg_const f h n, h n]; rfl
theorem Sg_zero {f : Nat → Int} : ∀ {n : Nat}, (∀ i, i < n → 0 ≤ f i) → Sg n f ≤ 0 → ∀ i, i < n → f i ≤ 0
  | 0, _, _, i, hi => by omega
  | n + 1, h, hs, i, hi => by
    simp only [Sg] at hs
    have h0 : Sg n (fun _ => 0) ≤ Sg n f := Sg_le fun j hj => h j (by omega)
    rw [Sg_const (fun _ => 0) (fun _ => rfl)] at h0
    have h1 := h n (by omega)
    by_cases e : i = n
    · subst e; omega
    · exact Sg_zero (n := n) (fun j hj => h j (by omega)) (by omega) i (by omega)
theorem Sg_cons (f : Nat → Int) : ∀ n, Sg (n + 1) f = f 0 + Sg n (fun i => f (i + 1))
  | 0 => by simp [Sg]
  | n + 1 => by
    have h := Sg_cons f n
    simp only [Sg] at h ⊢
    omega
theorem Sg_ext {f g : Nat → Int} {n : Nat} (h : ∀ i, i < n → f i = g i) : Sg n f = Sg n g := by
  have h1 : Sg n f ≤ Sg n g := Sg_le fun i hi => by rw [h i hi]; exact Int.le_refl _
  have h2 : Sg n g ≤ Sg n f := Sg_le fun i hi => by rw [h i hi]; exact Int.le_refl _
  omega
noncomputable abbrev at0 (xs : List Int) (i : Nat) : Int := xs.getD i 0
theorem sum_Sg : ∀ xs : List Int, xs.sum = Sg xs.length (at0 xs)
  | [] => rfl
  | x :: xs => by
    rw [List.length_cons, Sg_cons, List.sum_cons, sum_Sg xs]
    congr 1

section
variable {n : Nat} {s h : Nat → Int} {W t : Int} (hW : Sg n s = W) (W0 : 0 < W) (s0 : ∀ i, i < n → 0 < s i)
include hW W0

theorem some_ready (ht : Sg n h = t) : ∃ i, i < n ∧ h i * W < (t + 1) * s i := by
  by_cases hc : ∃ i, i < n ∧ h i * W < (t + 1) * s i
  · exact hc
  · exfalso
    have h1 : Sg n (fun i => (t + 1) * s i) ≤ Sg n (fun i => W * h i) := Sg_le fun i hi => by
      by_cases h2 : h i * W < (t + 1) * s i
      · exact absurd ⟨i, hi, h2⟩ hc
      · rw [Int.mul_comm W]; omega
    rw [Sg_mul, Sg_mul, hW, ht, Int.add_mul, Int.mul_comm W] at h1
    omega
include s0
theorem lag_start : ∀ d : Int, 0 ≤ d → Sg n (fun i => max 0 (d * s i / W - 0)) ≤ d - 0 := by
  intro d hd
  refine Int.le_of_mul_le_mul_left (a := W) ?_ W0
  rw [← Sg_mul]
  have e : W * (d - 0) = Sg n (fun i => d * s i) := by rw [Sg_mul, hW, Int.sub_zero, Int.mul_comm]
  rw [e]
  refine Sg_le fun i hi => ?_
  have h1 := Int.mul_ediv_self_le (x := d * s i) (k := W) (by omega)
  have h2 := Int.mul_nonneg hd (Int.le_of_lt (s0 i hi))
  rcases (by omega : max 0 (d * s i / W - 0) = 0 ∨ max 0 (d * s i / W - 0) = d * s i / W) with e | e
  · rw [e]; omega
  · rw [e]; exact h1
theorem lag_step {c : Nat} (hc : c < n) (P : ∀ d, t ≤ d → Sg n (fun i => max 0 (d * s i / W - h i)) ≤ d - t)
    (first : ∀ i, i < n → h i * W < (t + 1) * s i → ∀ d, (h i + 1) * W ≤ d * s i → (h c + 1) * W ≤ d * s c) :
    ∀ d, t + 1 ≤ d → Sg n (fun i => max 0 (d * s i / W - (if i = c then h c + 1 else h i))) ≤ d - (t + 1) := by
  intro d hd
  by_cases hA : (h c + 1) * W ≤ d * s c
  · have h1 : h c + 1 ≤ d * s c / W := (Int.le_ediv_iff_mul_le W0).mpr hA
    have h2 := Sg_upd (f := fun i => max 0 (d * s i / W - h i)) (g := fun i => max 0 (d * s i / W - (if i = c then h c + 1 else h i))) hc (fun i _ hi => by simp only [hi, if_false])
    have h3 := P d (by omega)
    rw [h2]
    simp only [if_true]
    omega
  · refine Int.le_of_mul_le_mul_left (a := W) ?_ W0
    rw [← Sg_mul]
    have e : W * (d - (t + 1)) = Sg n (fun i => (d - (t + 1)) * s i) := by rw [Sg_mul, hW, Int.mul_comm]
    rw [e]
    refine Sg_le fun i hi => ?_
    have hnn : 0 ≤ (d - (t + 1)) * s i := Int.mul_nonneg (by omega) (Int.le_of_lt (s0 i hi))
    have hh : h i ≤ (if i = c then h c + 1 else h i) := by
      split
      · rename_i e; subst e; omega
      · omega
    generalize (if i = c then h c + 1 else h i) = h' at hh ⊢
    by_cases hel : h i * W < (t + 1) * s i
    · have h4 : ¬ (h i + 1) * W ≤ d * s i := fun h => hA (first i hi hel d h)
      have h5 : d * s i / W < h i + 1 := by
        rcases (by omega : d * s i / W < h i + 1 ∨ h i + 1 ≤ d * s i / W) with h6 | h6
        · exact h6
        · exact absurd ((Int.le_ediv_iff_mul_le W0).mp h6) h4
      have e0 : max 0 (d * s i / W - h') = 0 := by omega
      rw [e0]; omega
    · rcases (by omega : max 0 (d * s i / W - h') = 0 ∨ max 0 (d * s i / W - h') = d * s i / W - h') with e | e
      · rw [e]; omega
      · rw [e]
        have h1 := Int.mul_ediv_self_le (x := d * s i) (k := W) (by omega)
        have h2 : W * h i ≤ W * h' := Int.mul_le_mul_of_nonneg_left hh (by omega)
        rw [Int.mul_comm W (h i)] at h2
        rw [Int.mul_sub, Int.sub_mul]
        omega
theorem lag_low (P : ∀ d, t ≤ d → Sg n (fun i => max 0 (d * s i / W - h i)) ≤ d - t) : ∀ i, i < n → s i * t - W * h i < W := by
  intro i hi
  have h1 := Sg_zero (f := fun i => max 0 (t * s i / W - h i)) (n := n) (fun i _ => by omega) (by have := P t (Int.le_refl _); omega) i hi
  have h2 : t * s i / W < h i + 1 := by omega
  have h3 := (Int.ediv_lt_iff_lt_mul W0).mp h2
  rw [Int.add_mul, Int.mul_comm (h i)] at h3
  rw [Int.mul_comm (s i)]
  omega
end
/-- a quotient rounded up -/
theorem clo_le {a b d : Int} (hb : 0 < b) : -(-a / b) ≤ d ↔ a ≤ d * b := by
  have h : -d ≤ -a / b ↔ -d * b ≤ -a := Int.le_ediv_iff_mul_le hb
  rw [Int.neg_mul] at h
  omega
theorem ope_le {a b t : Int} (hb : 0 < b) : a / b ≤ t ↔ a < (t + 1) * b := by
  have h : a / b < t + 1 ↔ a < (t + 1) * b := Int.ediv_lt_iff_lt_mul hb
  omega
end

section

set_option linter.unusedSectionVars false
/-- the first one last -/
noncomputable def rot (ks : List Int) : List Int := ks.drop 1 ++ ks.take 1
noncomputable def clo (ss hs : List Int) (i : Nat) : Int := -(-(at0 hs i + 1) * ss.sum / at0 ss i)
noncomputable def Elig (ss hs : List Int) (t : Nat) (i : Nat) : Prop := at0 hs i * ss.sum < ((t : Int) + 1) * at0 ss i
noncomputable def wishAt (ss hs : List Int) (g : Nat) : List Int := wishOf (at0 hs g) ss.sum (at0 ss g) g
noncomputable def bump (hs : List Int) (g : Nat) : List Int := hs.set g (at0 hs g + 1)
noncomputable def guestOf (x : List Int) : Nat := (x.getD 1 0).toNat
noncomputable def hadA (n : Nat) (T : List (List Int)) : List Int := T.foldl (fun hs x => bump hs (guestOf x)) (List.replicate n 0)
noncomputable def StepOk (ss hs : List Int) (t : Nat) (x : List Int) : Prop := ∃ g : Nat, g < ss.length ∧ x = rot (wishAt ss hs g) ∧ Elig ss hs t g ∧
  (∀ i, i < ss.length → Elig ss hs t i → clo ss hs g < clo ss hs i ∨ clo ss hs g = clo ss hs i ∧ g ≤ i) ∧
  ∀ i, i < ss.length → ss.sum * at0 (bump hs g) i - at0 ss i * ((t : Int) + 1) < ss.sum ∧ -(ss.sum * at0 (bump hs g) i - at0 ss i * ((t : Int) + 1)) < ss.sum
noncomputable def Good (ss : List Int) (T : List (List Int)) : Prop := ∀ t x, T[t]? = some x → StepOk ss (hadA ss.length (T.take t)) t x
noncomputable abbrev vals (xs : List It) : List (List Int) := xs.map Prod.snd

theorem bump_length (hs : List Int) (g : Nat) : (bump hs g).length = hs.length := by simp [bump]
theorem at0_bump {hs : List Int} {g : Nat} (hg : g < hs.length) (i : Nat) : at0 (bump hs g) i = if i = g then at0 hs g + 1 else at0 hs i := by
  unfold at0 bump
  simp only [List.getD_eq_getElem?_getD, List.getElem?_set]
  by_cases e : i = g
  · subst e; simp [hg]
  · simp [e, Ne.symm e]
theorem hadA_snoc (n : Nat) (T : List (List Int)) (x : List Int) : hadA n (T ++ [x]) = bump (hadA n T) (guestOf x) := by simp [hadA]
theorem hadA_length (n : Nat) (T : List (List Int)) : (hadA n T).length = n := by
  have : ∀ (T : List (List Int)) (hs : List Int), (T.foldl (fun hs x => bump hs (guestOf x)) hs).length = hs.length := by
    intro T
    induction T with
    | nil => intro hs; rfl
    | cons x T ih => intro hs; rw [List.foldl_cons, ih, bump_length]
  rw [hadA, this]; simp
theorem at0_replicate (n i : Nat) : at0 (List.replicate n 0) i = 0 := by
  unfold at0
  rw [List.getD_eq_getElem?_getD, List.getElem?_replicate]
  split <;> rfl
theorem hadA_bounds (n : Nat) (T : List (List Int)) (i : Nat) : 0 ≤ at0 (hadA n T) i ∧ at0 (hadA n T) i ≤ T.length := by
  have : ∀ (T : List (List Int)) (hs : List Int) (k : Int), (∀ i, 0 ≤ at0 hs i ∧ at0 hs i ≤ k) → ∀ i, 0 ≤ at0 (T.foldl (fun hs x => bump hs (guestOf x)) hs) i ∧ at0 (T.foldl (fun hs x => bump hs (guestOf x)) hs) i ≤ k + T.length := by
    intro T
    induction T with
    | nil => intro hs k h i; simpa using h i
    | cons x T ih =>
      intro hs k h i
      rw [List.foldl_cons]
      have := ih (bump hs (guestOf x)) (k + 1) (fun j => by
        by_cases hg : guestOf x < hs.length
        · rw [at0_bump hg]
          have h1 := h j
          have h2 := h (guestOf x)
          split <;> omega
        · have e : bump hs (guestOf x) = hs := by unfold bump; rw [List.set_eq_of_length_le (by omega)]
          rw [e]
          have h1 := h j
          omega) i
      simp only [List.length_cons]
      omega
  have h := this T (List.replicate n 0) 0 (fun i => by rw [at0_replicate]; omega) i
  unfold hadA
  omega
theorem mem_at0 {ss : List Int} (h : ∀ x ∈ ss, 0 < x) {i : Nat} (hi : i < ss.length) : 0 < at0 ss i := by
  unfold at0
  rw [List.getD_eq_getElem?_getD, List.getElem?_eq_getElem hi]
  exact h _ (List.getElem_mem hi)
theorem sum_pos {ss : List Int} (h : ∀ x ∈ ss, 0 < x) (hn : 0 < ss.length) : 0 < ss.sum := by
  cases ss with
  | nil => simp at hn
  | cons x ss =>
    have : ∀ l : List Int, (∀ x ∈ l, 0 < x) → 0 ≤ l.sum := by
      intro l
      induction l with
      | nil => intro _; simp
      | cons y l ih => intro hl; have h1 := hl y (by simp); have h2 := ih (fun z hz => hl z (by simp [hz])); rw [List.sum_cons]; omega
    have h1 := h x (by simp)
    have h2 := this ss (fun z hz => h z (by simp [hz]))
    rw [List.sum_cons]; omega
theorem le_sum {ss : List Int} (h : ∀ x ∈ ss, 0 < x) {i : Nat} (hi : i < ss.length) : at0 ss i ≤ ss.sum := by
  have h1 := Sg_upd (f := fun _ => 0) (g := fun j => if j = i then at0 ss i else 0) (c := i) (n := ss.length) hi (fun j _ hj => by simp [hj])
  rw [Sg_const _ (fun _ => rfl)] at h1
  simp only [if_true] at h1
  have h2 : Sg ss.length (fun j => if j = i then at0 ss i else 0) ≤ Sg ss.length (at0 ss) := Sg_le fun j hj => by
    by_cases e : j = i
    · subst e; simp
    · simp only [e, if_false]; exact Int.le_of_lt (mem_at0 h hj)
  rw [sum_Sg ss]
  omega
theorem elig_ope {ss hs : List Int} {t g : Nat} (hs0 : 0 < at0 ss g) : at0 (wishAt ss hs g) 0 ≤ t ↔ Elig ss hs t g := ope_le hs0
theorem rot_ope (ss hs : List Int) (g : Nat) : at0 (rot (wishAt ss hs g)) 4 = at0 (wishAt ss hs g) 0 := rfl
theorem guest_rot (ss hs : List Int) (g : Nat) : guestOf (rot (wishAt ss hs g)) = g := by
  show ((g : Int)).toNat = g
  exact Int.toNat_natCast g
theorem clo_lt {ss hs : List Int} {i g : Nat} (h : lexLt (rot (wishAt ss hs i)) (rot (wishAt ss hs g)) = false) : clo ss hs g < clo ss hs i ∨ clo ss hs g = clo ss hs i ∧ g ≤ i := by
  have e : ∀ j, rot (wishAt ss hs j) = clo ss hs j :: (j : Int) :: [at0 hs j * ss.sum % at0 ss j, -(at0 hs j + 1) * ss.sum % at0 ss j, at0 hs j * ss.sum / at0 ss j] := fun j => rfl
  rw [e, e] at h
  unfold lexLt at h
  split at h
  · rename_i h1
    unfold lexLt at h
    split at h
    · omega
    · simp only [decide_eq_false_iff_not] at h; omega
  · simp only [decide_eq_false_iff_not] at h; omega
/-- one guest's entry turned -/
theorem perm_turn {β : Type} {F F' : Nat → β} {L : List β} {n c : Nat} (hc : c < n) (h : (F c :: L).Perm ((List.range n).map F)) (e : ∀ i, i ≠ c → F' i = F i) : (F' c :: L).Perm ((List.range n).map F') := by
  have h1 : (List.range n).Perm (c :: (List.range n).erase c) := List.perm_cons_erase (List.mem_range.mpr hc)
  have h2 := h.trans (h1.map F)
  have h3 : L.Perm (((List.range n).erase c).map F) := List.Perm.cons_inv h2
  have h4 : ((List.range n).erase c).map F = ((List.range n).erase c).map F' := List.map_congr_left fun i hi => (e i fun h => by
    subst h
    exact (List.Nodup.mem_erase_iff List.nodup_range).mp hi |>.1 rfl).symm
  rw [h4] at h3
  exact (List.Perm.cons _ h3).trans (h1.map F').symm

structure Inv (ss : List Int) (t : Nat) (hs : List Int) (R Wt T : List It) : Prop where
  len : T.length = t
  had : hs = hadA ss.length (vals T)
  good : Good ss (vals T)
  perm : (vals R ++ (vals Wt).map rot).Perm ((List.range ss.length).map fun g => rot (wishAt ss hs g))
  rdy : ∀ x ∈ R, at0 x.2 4 ≤ t
  wt : ∀ x ∈ Wt, ∃ g, g < ss.length ∧ x.2 = wishAt ss hs g
  hR : HeapFrom ltI 0 R
  hW : HeapFrom ltI 0 Wt
  sum : Sg ss.length (at0 hs) = t
  lag : ∀ d : Int, (t : Int) ≤ d → Sg ss.length (fun i => max 0 (d * at0 ss i / ss.sum - at0 hs i)) ≤ d - t
  up : ∀ i, i < ss.length → ss.sum * (at0 hs i - 1) < at0 ss i * t

section
variable {ss hs : List Int} {t : Nat} {R Wt T : List It} (pos : ∀ x ∈ ss, 0 < x) (hn : 0 < ss.length)
theorem Inv.hlen (I : Inv ss t hs R Wt T) : hs.length = ss.length := by rw [I.had, hadA_length]
theorem Inv.bounds (I : Inv ss t hs R Wt T) (i : Nat) : 0 ≤ at0 hs i ∧ at0 hs i ≤ t := by
  have := hadA_bounds ss.length (vals T) i
  rw [← I.had] at this
  have := I.len
  simp only [List.length_map] at *
  omega
theorem Inv.size (I : Inv ss t hs R Wt T) : R.length + Wt.length = ss.length := by
  have := I.perm.length_eq
  simpa using this
theorem Inv.guest (I : Inv ss t hs R Wt T) {x : It} (hx : x ∈ R) : ∃ g, g < ss.length ∧ x.2 = rot (wishAt ss hs g) := by
  have h1 : x.2 ∈ (List.range ss.length).map fun g => rot (wishAt ss hs g) := I.perm.mem_iff.mp (List.mem_append_left _ (List.mem_map_of_mem hx))
  obtain ⟨g, hg, e⟩ := List.mem_map.mp h1
  exact ⟨g, List.mem_range.mp hg, e.symm⟩
include pos in
theorem Inv.inR (I : Inv ss t hs R Wt T) (hw : ∀ x ∈ Wt, (t : Int) < at0 x.2 0) {i : Nat} (hi : i < ss.length) (he : Elig ss hs t i) : ∃ x ∈ R, x.2 = rot (wishAt ss hs i) := by
  have h1 : rot (wishAt ss hs i) ∈ vals R ++ (vals Wt).map rot := I.perm.mem_iff.mpr (List.mem_map.mpr ⟨i, List.mem_range.mpr hi, rfl⟩)
  rcases List.mem_append.mp h1 with h | h
  · obtain ⟨x, hx, e⟩ := List.mem_map.mp h
    exact ⟨x, hx, e⟩
  · exfalso
    obtain ⟨y, hy, e⟩ := List.mem_map.mp h
    obtain ⟨x, hx, rfl⟩ := List.mem_map.mp hy
    obtain ⟨g, hg, eg⟩ := I.wt x hx
    have h2 := hw x hx
    rw [eg] at h2 e
    have h3 : at0 (rot (wishAt ss hs g)) 4 = at0 (rot (wishAt ss hs i)) 4 := by rw [e]
    rw [rot_ope, rot_ope] at h3
    have h4 := (elig_ope (mem_at0 pos hi)).mpr he
    omega
include pos hn in
theorem Inv.nonempty (I : Inv ss t hs R Wt T) (hw : ∀ x ∈ Wt, (t : Int) < at0 x.2 0) : R ≠ [] := by
  obtain ⟨i, hi, he⟩ := some_ready (h := at0 hs) (sum_Sg ss).symm (sum_pos pos hn) I.sum
  obtain ⟨x, hx, _⟩ := I.inR pos hw hi he
  exact fun e => by rw [e] at hx; cases hx
theorem Inv.move (I : Inv ss t hs R Wt T) {x0 y : It} {R' Wt' : List It} (p1 : (x0 :: Wt').Perm Wt) (h1 : HeapFrom ltI 0 Wt') (ht : at0 x0.2 0 ≤ t) (ey : y.2 = rot x0.2) (p2 : R'.Perm (y :: R)) (h2 : HeapFrom ltI 0 R') : Inv ss t hs R' Wt' T where
  len := I.len
  had := I.had
  good := I.good
  perm := by
    have q1 : (vals R' ++ (vals Wt').map rot).Perm ((y.2 :: vals R) ++ (vals Wt').map rot) := List.Perm.append_right _ (p2.map Prod.snd)
    have q2 : (vals R ++ (vals Wt).map rot).Perm (vals R ++ rot x0.2 :: (vals Wt').map rot) := List.Perm.append_left _ ((p1.map Prod.snd).symm.map rot)
    refine q1.trans (List.Perm.trans ?_ (q2.symm.trans I.perm))
    rw [ey, List.cons_append]
    exact List.perm_middle.symm
  rdy := fun x hx => by
    rcases List.mem_cons.mp (p2.mem_iff.mp hx) with rfl | h
    · obtain ⟨g, _, e⟩ := I.wt x0 (p1.mem_iff.mp (.head _))
      rw [ey, e, rot_ope, ← e]
      exact ht
    · exact I.rdy x h
  wt := fun x hx => I.wt x (p1.mem_iff.mp (.tail _ hx))
  hR := h2
  hW := h1
  sum := I.sum
  lag := I.lag
  up := I.up
include pos hn in
theorem Inv.turn (I : Inv ss t hs R Wt T) (hw : ∀ x ∈ Wt, (t : Int) < at0 x.2 0) {x0 z : It} {R' Wt' : List It} {g : Nat} (p1 : (x0 :: R').Perm R) (least : ∀ x ∈ R, ltI x x0 = false) (h1 : HeapFrom ltI 0 R') (hg : g < ss.length) (eg : x0.2 = rot (wishAt ss hs g))
    (ez : z.2 = wishAt ss (bump hs g) g) (p2 : Wt'.Perm (z :: Wt)) (h2 : HeapFrom ltI 0 Wt') : Inv ss (t + 1) (bump hs g) R' Wt' (T ++ [x0]) := by
  have W0 := sum_pos pos hn
  have hgl : g < hs.length := by rw [I.hlen]; exact hg
  have hel : Elig ss hs t g := by
    have := I.rdy x0 (p1.mem_iff.mp (.head _))
    rw [eg, rot_ope] at this
    exact (elig_ope (mem_at0 pos hg)).mp this
  have hfirst : ∀ i, i < ss.length → Elig ss hs t i → clo ss hs g < clo ss hs i ∨ clo ss hs g = clo ss hs i ∧ g ≤ i := fun i hi he => by
    obtain ⟨x, hx, e⟩ := I.inR pos hw hi he
    have := least x hx
    simp only [ltI, e, eg] at this
    exact clo_lt this
  have ebump : ∀ i, at0 (bump hs g) i = if i = g then at0 hs g + 1 else at0 hs i := at0_bump hgl
  have hlag : ∀ d : Int, (t : Int) + 1 ≤ d → Sg ss.length (fun i => max 0 (d * at0 ss i / ss.sum - at0 (bump hs g) i)) ≤ d - (t + 1) := by
    intro d hd
    have := lag_step (h := at0 hs) (sum_Sg ss).symm W0 (fun i hi => mem_at0 pos hi) hg I.lag (fun i hi he d hd => by
      have hle : clo ss hs g ≤ clo ss hs i := by have := hfirst i hi he; omega
      have h3 : clo ss hs i ≤ d := by
        unfold clo
        rw [Int.neg_mul]
        exact (clo_le (mem_at0 pos hi)).mpr hd
      have h4 : clo ss hs g ≤ d := by omega
      unfold clo at h4
      rw [Int.neg_mul] at h4
      exact (clo_le (mem_at0 pos hg)).mp h4) d hd
    simp only [ebump]
    exact this
  have hup : ∀ i, i < ss.length → ss.sum * (at0 (bump hs g) i - 1) < at0 ss i * ((t : Int) + 1) := by
    intro i hi
    rw [ebump]
    split
    · rename_i e
      subst e
      have := hel
      unfold Elig at this
      rw [Int.mul_comm _ (at0 ss i), Int.mul_comm _ ss.sum] at this
      have e1 : at0 hs i + 1 - 1 = at0 hs i := by omega
      rw [e1]; exact this
    · have h3 := I.up i hi
      have h4 := mem_at0 pos hi
      rw [Int.mul_add]
      omega
  have hhad : bump hs g = hadA ss.length (vals (T ++ [x0])) := by
    simp only [vals, List.map_append, List.map_cons, List.map_nil]
    rw [hadA_snoc, eg, guest_rot, ← I.had]
  have hfair : ∀ i, i < ss.length → ss.sum * at0 (bump hs g) i - at0 ss i * ((t : Int) + 1) < ss.sum ∧ -(ss.sum * at0 (bump hs g) i - at0 ss i * ((t : Int) + 1)) < ss.sum := fun i hi => by
    have h3 := hup i hi
    have h4 := lag_low (h := at0 (bump hs g)) (s := at0 ss) (t := (t : Int) + 1) (sum_Sg ss).symm W0 (fun i hi => mem_at0 pos hi) hlag i hi
    rw [Int.mul_sub] at h3
    omega
  refine ⟨by simp [I.len], hhad, ?_, ?_, ?_, ?_, h1, h2, ?_, ?_, ?_⟩
  · intro t' x hx
    simp only [vals, List.map_append, List.map_cons, List.map_nil] at hx ⊢
    have hlen : (T.map Prod.snd).length = t := by simp [I.len]
    by_cases ht : t' < t
    · rw [List.getElem?_append_left (by omega)] at hx
      rw [List.take_append_of_le_length (by omega)]
      exact I.good t' x hx
    · have h5 := (List.getElem?_eq_some_iff.mp hx).1
      simp only [List.length_append, List.length_map, List.length_singleton, I.len] at h5
      have h6 : t' = t := by omega
      subst h6
      rw [List.getElem?_append_right (by omega), hlen] at hx
      simp only [Nat.sub_self, List.getElem?_cons_zero, Option.some.injEq] at hx
      subst hx
      rw [List.take_append_of_le_length (by omega), List.take_of_length_le (by omega), ← I.had]
      exact ⟨g, hg, eg, hel, hfirst, hfair⟩
  · have q1 : (vals R' ++ (vals Wt').map rot).Perm (vals R' ++ (rot (wishAt ss (bump hs g) g) :: (vals Wt).map rot)) := by
      refine List.Perm.append_left _ ?_
      have := (p2.map Prod.snd).map rot
      simp only [List.map_cons, ez] at this
      exact this
    refine q1.trans (List.perm_middle.trans (perm_turn (F := fun g => rot (wishAt ss hs g)) (F' := fun i => rot (wishAt ss (bump hs g) i)) hg ?_ ?_))
    · have q2 : (rot (wishAt ss hs g) :: (vals R' ++ (vals Wt).map rot)).Perm (vals R ++ (vals Wt).map rot) := by
        rw [← eg, ← List.cons_append]
        exact List.Perm.append_right _ (p1.map Prod.snd)
      exact q2.trans I.perm
    · intro i hi
      simp only [wishAt, ebump, hi, if_false]
  · intro x hx
    have := I.rdy x (p1.mem_iff.mp (.tail _ hx))
    omega
  · intro x hx
    rcases List.mem_cons.mp (p2.mem_iff.mp hx) with rfl | h
    · exact ⟨g, hg, ez⟩
    · obtain ⟨i, hi, e⟩ := I.wt x h
      refine ⟨i, hi, ?_⟩
      rw [e]
      have : i ≠ g := by
        intro eig
        subst eig
        -- the guest would stand twice
        have hnd : (vals R ++ (vals Wt).map rot).map guestOf = (vals R ++ (vals Wt).map rot).map guestOf := rfl
        have q := I.perm.map guestOf
        have eq1 : ((List.range ss.length).map fun g => rot (wishAt ss hs g)).map guestOf = List.range ss.length := by
          rw [List.map_map]
          have eq2 : (guestOf ∘ fun g => rot (wishAt ss hs g)) = id := by funext j; exact guest_rot ss hs j
          rw [eq2, List.map_id]
        rw [eq1, List.map_append] at q
        have nd := q.nodup_iff.mpr List.nodup_range
        have a1 : i ∈ (vals R).map guestOf := List.mem_map.mpr ⟨x0.2, List.mem_map_of_mem (p1.mem_iff.mp (.head _)), by rw [eg, guest_rot]⟩
        have a2 : i ∈ ((vals Wt).map rot).map guestOf := List.mem_map.mpr ⟨rot x.2, List.mem_map_of_mem (List.mem_map_of_mem h), by rw [e, guest_rot]⟩
        exact (List.nodup_append.mp nd).2.2 i a1 i a2 rfl
      simp only [wishAt, ebump, this, if_false]
  · have h3 := Sg_upd (f := at0 hs) (g := at0 (bump hs g)) hg (fun i _ hi => by rw [ebump, if_neg hi])
    rw [h3, ebump, if_pos rfl, I.sum]
    simp only [Int.natCast_add, Int.natCast_one]
    omega
  · intro d hd
    have := hlag d (by simpa using hd)
    simpa using this
  · intro i hi
    have := hup i hi
    simpa using this
include pos hn in
theorem Inv.start {R : List It} (p : (vals R).Perm ((List.range ss.length).map fun g => rot (wishAt ss (List.replicate ss.length 0) g))) (h : HeapFrom ltI 0 R) : Inv ss 0 (List.replicate ss.length 0) R [] [] := by
  have W0 := sum_pos pos hn
  refine ⟨rfl, rfl, ?_, by simpa using p, ?_, by simp, h, ?_, ?_, ?_, ?_⟩
  · intro t x hx; simp at hx
  · intro x hx
    have h1 : x.2 ∈ (List.range ss.length).map fun g => rot (wishAt ss (List.replicate ss.length 0) g) := p.mem_iff.mp (List.mem_map_of_mem hx)
    obtain ⟨g, hg, e⟩ := List.mem_map.mp h1
    rw [← e, rot_ope]
    show at0 (List.replicate ss.length 0) g * ss.sum / at0 ss g ≤ 0
    rw [at0_replicate]
    simp
  · intro i a b _ _ ha; simp at ha
  · rw [Sg_const _ (at0_replicate _)]; rfl
  · intro d hd
    simp only [at0_replicate]
    exact lag_start (sum_Sg ss).symm W0 (fun i hi => mem_at0 pos hi) d hd
  · intro i hi
    rw [at0_replicate]
    simp only [Int.natCast_zero, Int.mul_zero, Int.zero_sub, Int.mul_neg, Int.mul_one]
    omega
end
/-- what _law_first_to_close holds before guest i -/
noncomputable def fcl (ss hs : List Int) (W : Int) (t : Nat) : Nat → Int × Int
  | 0 => (0, -1)
  | i + 1 => if at0 hs i * W < ((t : Int) + 1) * at0 ss i then (if (fcl ss hs W t i).2 < 0 then (-(-(at0 hs i + 1) * W / at0 ss i), i) else if -(-(at0 hs i + 1) * W / at0 ss i) < (fcl ss hs W t i).1 then (-(-(at0 hs i + 1) * W / at0 ss i), i) else fcl ss hs W t i) else fcl ss hs W t i
section
variable {ss hs : List Int} {W : Int} {t i : Nat}
theorem fcl_no (h : ¬ at0 hs i * W < ((t : Int) + 1) * at0 ss i) : fcl ss hs W t (i + 1) = fcl ss hs W t i := by rw [fcl, if_neg h]
theorem fcl_first (h : at0 hs i * W < ((t : Int) + 1) * at0 ss i) (h2 : (fcl ss hs W t i).2 < 0) : fcl ss hs W t (i + 1) = (-(-(at0 hs i + 1) * W / at0 ss i), (i : Int)) := by rw [fcl, if_pos h, if_pos h2]
theorem fcl_less (h : at0 hs i * W < ((t : Int) + 1) * at0 ss i) (h2 : -(-(at0 hs i + 1) * W / at0 ss i) < (fcl ss hs W t i).1) : fcl ss hs W t (i + 1) = (-(-(at0 hs i + 1) * W / at0 ss i), (i : Int)) := by
  rw [fcl, if_pos h, if_pos h2]
  split <;> rfl
theorem fcl_keep (h : at0 hs i * W < ((t : Int) + 1) * at0 ss i) (h2 : ¬ (fcl ss hs W t i).2 < 0) (h3 : ¬ -(-(at0 hs i + 1) * W / at0 ss i) < (fcl ss hs W t i).1) : fcl ss hs W t (i + 1) = fcl ss hs W t i := by rw [fcl, if_pos h, if_neg h2, if_neg h3]
end
theorem fcl_inv (ss hs : List Int) (t : Nat) : ∀ i, ((fcl ss hs ss.sum t i).2 = -1 ∧ ∀ k, k < i → ¬ Elig ss hs t k) ∨ ∃ j : Nat, j < i ∧ fcl ss hs ss.sum t i = (clo ss hs j, (j : Int)) ∧ Elig ss hs t j ∧ ∀ k, k < i → Elig ss hs t k → clo ss hs j < clo ss hs k ∨ clo ss hs j = clo ss hs k ∧ j ≤ k
  | 0 => .inl ⟨rfl, fun k hk => by omega⟩
  | i + 1 => by
    have ih := fcl_inv ss hs t i
    by_cases he : Elig ss hs t i
    · rcases ih with ⟨h1, h2⟩ | ⟨j, hj, e, hej, hmin⟩
      · rw [fcl_first he (by omega)]
        refine .inr ⟨i, by omega, rfl, he, fun k hk hek => ?_⟩
        rcases (by omega : k = i ∨ k < i) with rfl | h
        · exact .inr ⟨rfl, Nat.le_refl _⟩
        · exact absurd hek (h2 k h)
      · by_cases hlt : clo ss hs i < clo ss hs j
        · rw [fcl_less he (by rw [e]; exact hlt)]
          refine .inr ⟨i, by omega, rfl, he, fun k hk hek => ?_⟩
          rcases (by omega : k = i ∨ k < i) with rfl | h
          · exact .inr ⟨rfl, Nat.le_refl _⟩
          · have := hmin k h hek; omega
        · rw [fcl_keep he (by rw [e]; simp only []; omega) (by rw [e]; exact hlt)]
          refine .inr ⟨j, by omega, e, hej, fun k hk hek => ?_⟩
          rcases (by omega : k = i ∨ k < i) with rfl | h
          · omega
          · exact hmin k h hek
    · rw [fcl_no he]
      rcases ih with ⟨h1, h2⟩ | ⟨j, hj, e, hej, hmin⟩
      · refine .inl ⟨h1, fun k hk => ?_⟩
        rcases (by omega : k = i ∨ k < i) with rfl | h
        · exact he
        · exact h2 k h
      · refine .inr ⟨j, by omega, e, hej, fun k hk hek => ?_⟩
        rcases (by omega : k = i ∨ k < i) with rfl | h
        · exact absurd hek he
        · exact hmin k h hek
theorem fcl_is {ss hs : List Int} {t g : Nat} (hg : g < ss.length) (he : Elig ss hs t g) (hmin : ∀ i, i < ss.length → Elig ss hs t i → clo ss hs g < clo ss hs i ∨ clo ss hs g = clo ss hs i ∧ g ≤ i) : (fcl ss hs ss.sum t ss.length).2 = (g : Int) := by
  rcases fcl_inv ss hs t ss.length with ⟨_, h2⟩ | ⟨j, hj, e, hej, hm⟩
  · exact absurd he (h2 g hg)
  · rw [e]
    have h1 := hmin j hj hej
    have h2 := hm g hg he
    have : j = g := by omega
    rw [this]
end

section

set_option maxRecDepth 100000
section
variable {prog : Program} {w : World} {A : Around} {E : Value → Shared → Prop} {s : Shared}
/-- where a cut [:b] of n things begins, its step, how many it takes -/
theorem cut_to {sl : Addr} {b n : Nat} {u : Tok} {Q : Int × Int × Nat → Shared → Prop} (hs : s.heap.IsSliceOf sl .none (.int b u) .none) (hb : b ≤ n) (h : Q ((0 : Int), 1, b) s) :
    wpAny (model prog w) A (Builtin.Slice.sliceApplied (.ref sl) (pure (n : Int))) Q E s := by
  obtain ⟨os, hos, hcs, hds⟩ := id hs
  have eA : Builtin.Slice.sliceAdjust none (some (b : Int)) 1 (n : Int) = ((0 : Int), (b : Int)) := by
    simp only [Builtin.Slice.sliceAdjust, show ¬ ((1 : Int) < 0) by omega, show ¬ ((b : Int) < 0) by omega, if_false, Prod.mk.injEq, true_and]
    omega
  have eP : Builtin.Slice.slicePlaces (0 : Int) (b : Int) 1 = b := by
    simp only [Builtin.Slice.slicePlaces, show (1 : Int) > 0 by omega, if_true, Int.ediv_one]
    split <;> omega
  unfold Builtin.Slice.sliceApplied Builtin.Slice.sliceFields
  refine wpAny_bind (wpAny_bind (wpAny_field hos hds (x := .none) rfl (wpAny_bind (wpAny_field hos hds (x := .int b u) rfl (wpAny_bind (wpAny_field hos hds (x := .none) rfl (wpAny_pure ?_)))))))
  refine wpAny_bind (slicePart_none ?_)
  show wpAny _ _ (if ((1 : Int) == 0) = true then _ else _) _ _ s
  rw [if_neg (by decide)]
  refine wpAny_bind (slicePart_none (wpAny_bind (slicePart_int (wpAny_bind (wpAny_pure ?_)))))
  show wpAny _ _ (match Builtin.Slice.sliceAdjust none (some (b : Int)) 1 (n : Int) with | (lo, hi) => pure (lo, (1 : Int), Builtin.Slice.slicePlaces lo hi 1)) _ _ s
  rw [eA]
  show wpAny _ _ (pure ((0 : Int), (1 : Int), Builtin.Slice.slicePlaces (0 : Int) (b : Int) 1)) _ _ s
  rw [eP]
  exact wpAny_pure h
theorem get_cut {t sl : Addr} {x y : Value} {l : List Value} {u : Tok} {Q : Value → Shared → Prop} (ht : IsTup s.heap t (x :: y :: l).toArray) (hs : s.heap.IsSliceOf sl .none (.int (1 : Nat) u) .none)
    (h : Q (.ref s.heap.objs.size) { s with heap := s.heap.push { cls := .type "tuple", data := .seq #[x] } }) : wpAny (model prog w) A (getItem (.ref t) (.ref sl)) Q E s := by
  have hok : sizeOk (.seq (#[x] : Array Value)) := by show (1 : Nat) ≤ sizeLine; rw [sizeLine_eq]; decide
  obtain ⟨os, hos, hcs, hds⟩ := id hs
  have hTs : s.TypeIs (.ref sl) "slice" := ⟨os, hos, hcs⟩
  unfold getItem
  try with_reducible refine wpAny_holding ?_
  first | refine wpAny_bind (wpAny_pure ?_) | skip
  refine wpAny_bind (wpAny_sequenceKey ht.typeIs (by decide) ?_)
  refine wpAny_bind (wpAny_callSpecial?_slot (name := Str.ofString "__getitem__") ht.typeIs slot_tuple_getitem
    (wpAny_call_entry slot_tuple_getitem ht.typeIs entry_tuple_getitem ?_ (args_tuple_getitem _ _)))
  show wpAny _ _ (Builtin.Tuple.tupleItemsOf (.ref t) >>= _) _ _ s
  refine wpAny_bind (tupleItemsOf_ ht ?_)
  refine wpAny_bind (wpAny_typeOf hTs ?_)
  rw [if_pos (by decide)]
  refine wpAny_bind (cut_to hs (by simp) ?_)
  have hno : ¬ (((0 : Int) == 0 && (1 : Int) == 1 && 1 == (x :: y :: l).toArray.size) = true) := by simp
  show wpAny _ _ (if ((0 : Int) == 0 && (1 : Int) == 1 && 1 == (x :: y :: l).toArray.size) = true then _ else _) _ _ s
  rw [if_neg hno]
  have ep : ((List.range 1).filterMap fun (k : Nat) => (x :: y :: l).toArray[((0 : Int) + (k : Int) * 1).toNat]?).toArray = #[x] := rfl
  rw [ep]
  first
    | exact wpAny_bind (m := Builtin.Tuple.tupleExact _) (wpAny_newObj_type (wpAny_pure ⟨_, rfl, wpAny_pure h⟩) hok)
    | exact wpAny_bind (m := Builtin.Tuple.tupleExact _) (wpAny_newObj_type (wpAny_bind (wpAny_pure (wpAny_pure ⟨_, rfl, wpAny_pure h⟩))) hok)
    | exact wpAny_bind (wpAny_bind (m := Builtin.Tuple.tupleExact _) (wpAny_newObj_type (wpAny_pure (wpAny_pure ⟨_, rfl, wpAny_pure h⟩)) hok))
    | exact wpAny_bind (wpAny_bind (m := Builtin.Tuple.tupleExact _) (wpAny_newObj_type (wpAny_pure ⟨_, rfl, wpAny_pure h⟩) hok))
end
section
variable {prog : Program} {w : World} {A : Around} {E : Value → Shared → Prop} {s : Shared} {h₀ : Heap} {L : Addr} {m : Str → Option Value} {news : List (Addr × Obj)}
/-- t[:1] of a tuple of the ledger -/
theorem cut_first {value slice : PySem.Expr} {t : Addr} {x y : Value} {l : List Value} {c : Nat} {u : Tok} {Q : Value → Shared → Prop}
    (F : Fr h₀ L s.heap m) (N : News h₀ L s.heap news) (hm : (t, ({ cls := .type "tuple", data := .seq (x :: y :: l).toArray c } : Obj)) ∈ news)
    (h : ∀ D h', Fr h₀ L h' m → News h₀ L h' ((D, { cls := .type "tuple", data := .seq #[x] }) :: news) → AllLt D news → Q (.ref D) { s with heap := h' })
    (hs : subscripted slice false (.ref t) (.ref s.heap.objs.size) = operate [.ref s.heap.objs.size, .ref t] (getItem (.ref t) (.ref s.heap.objs.size)) := by with_unfolding_all rfl)
    (hg : ∀ r, letTemporaryGo value (.ref t) r = pure () := by intro _; with_unfolding_all rfl) :
    wpAny (model prog w) A (subscriptTail value slice (.ref t) (.ref s.heap.objs.size)) Q E { s with heap := s.heap.push { cls := .type "slice", data := .fields #[.none, .int 1 u, .none] } } := by
  have ht : IsTup s.heap t (x :: y :: l).toArray := ⟨_, (N _ hm).1, rfl, c, rfl⟩
  have ht' : IsTup (s.heap.push { cls := .type "slice", data := .fields #[.none, .int 1 u, .none] }) t (x :: y :: l).toArray := ht.keeps fun _ _ e => Heap.get?_push_of_some _ e
  refine subscriptTail_ops (s := { s with heap := s.heap.push { cls := .type "slice", data := .fields #[.none, .int 1 u, .none] } }) ht'.typeIs slot_tuple_getitem.lookup
    (get_cut ht' (Heap.IsSliceOf.new ..) ?_) hs hg
  have N1 := News.push (F.push { cls := .type "slice", data := .fields #[.none, .int 1 u, .none] }) (N.grown fun _ _ e => Heap.get?_push_of_some _ e) { cls := .type "tuple", data := .seq #[x] }
  rw [Heap.size_push] at N1
  show Q (.ref (s.heap.push _).objs.size) _
  rw [Heap.size_push]
  exact h _ _ ((F.push _).push _) N1 (allLt_of fun p hp => Nat.lt_succ_of_lt (Heap.lt_size (N p hp).1))
/-- t[1:] of a tuple of the ledger -/
theorem cut_rest {value slice : PySem.Expr} {t : Addr} {x : Value} {l : List Value} {c : Nat} {u : Tok} {Q : Value → Shared → Prop}
    (F : Fr h₀ L s.heap m) (N : News h₀ L s.heap news) (hm : (t, ({ cls := .type "tuple", data := .seq (x :: l).toArray c } : Obj)) ∈ news) (hl : l.length ≤ 100)
    (h : ∀ D h', Fr h₀ L h' m → News h₀ L h' ((D, { cls := .type "tuple", data := .seq l.toArray }) :: news) → AllLt D news → Q (.ref D) { s with heap := h' })
    (hs : subscripted slice false (.ref t) (.ref s.heap.objs.size) = operate [.ref s.heap.objs.size, .ref t] (getItem (.ref t) (.ref s.heap.objs.size)) := by with_unfolding_all rfl)
    (hg : ∀ r, letTemporaryGo value (.ref t) r = pure () := by intro _; with_unfolding_all rfl) :
    wpAny (model prog w) A (subscriptTail value slice (.ref t) (.ref s.heap.objs.size)) Q E { s with heap := s.heap.push { cls := .type "slice", data := .fields #[.int 1 u, .none, .none] } } := by
  have ht : IsTup s.heap t (x :: l).toArray := ⟨_, (N _ hm).1, rfl, c, rfl⟩
  refine slice_tuple_from (a := 1) F N ht (by decide) (by simp) (fun h' F' N' => ?_) hs hg (by rw [sizeLine_eq]; simp; omega)
  exact h _ _ F' N' (allLt_of fun p hp => Nat.lt_succ_of_lt (Heap.lt_size (N p hp).1))
/-- the sum of two tuples of the ledger -/
theorem tup_cat {t b : Addr} {vs ws : List Value} {c1 c2 : Nat} {Q : Value → Shared → Prop}
    (F : Fr h₀ L s.heap m) (N : News h₀ L s.heap news) (hm : (t, ({ cls := .type "tuple", data := .seq vs.toArray c1 } : Obj)) ∈ news) (hn : (b, ({ cls := .type "tuple", data := .seq ws.toArray c2 } : Obj)) ∈ news)
    (hv : vs ≠ []) (hw : ws ≠ []) (hl : vs.length + ws.length ≤ 100)
    (h : ∀ D h', Fr h₀ L h' m → News h₀ L h' ((D, { cls := .type "tuple", data := .seq (vs ++ ws).toArray }) :: news) → AllLt D news → Q (.ref D) { s with heap := h' }) :
    wpAny (model prog w) A (binaryOp .Add (.ref t) (.ref b)) Q E s :=
  add_tuples F N ⟨_, (N _ hm).1, rfl, c1, rfl⟩ ⟨_, (N _ hn).1, rfl, c2, rfl⟩ (fun e => absurd e hv) (fun _ e => absurd e hw)
    (fun _ _ h' F' N' => h _ h' F' N' (allLt_of fun p hp => Heap.lt_size (N p hp).1)) (by rw [sizeLine_eq]; omega)
end
end

section

set_option maxRecDepth 100000
set_option maxHeartbeats 2000000
section
variable {prog : Program} {w : World} {A : Around} {E : Value → Shared → Prop} {s : Shared} {h₀ : Heap} {L D : Addr} {news : List (Addr × Obj)} {vs : List Value} {ns : List Int} {n : Nat}
theorem at_len {Q : Value → Shared → Prop} (N : News h₀ L s.heap news) (hm : (D, listOf vs.toArray n) ∈ news) (hi : IntsAre vs ns) (hl : ns.length ≤ 100) (h : ∀ t tk, Q (.int ns.length t) { s with toks := tk }) : wpAny (model prog w) A (call (.builtin "len") [.ref D]) Q E s := by
  have hsz : vs.toArray.size = ns.length := by simp [hi.length]
  refine len_list (items := vs.toArray) (PySem.IsL.isList (n := n) (N _ hm).1) (by rw [hsz]; omega) ?_
  rw [hsz]; exact h _ _
end
/-- a contract as `Call`, where nobody watches a division of big ints -/
noncomputable def CallS (w : World) (loose : List Str) (mean : ExcName → Option Value) (mg mb : Str → Option Value) (f : Addr) (vs : List Value) (d u : Nat) (Pre : List (Addr × Obj) → Prop) (Post : List (Addr × Obj) → Value → List (Addr × Obj) → Prop) : Prop :=
  ∀ (dp un : Nat) (gd : Option (List Code)) (cn : Str) (cs : Scope) (a : Addr) (ccd : Value) (cl : List (Str × Addr)) (outer : List Env) (A₀ : Around) (base h₀ : Heap) (L : Addr) (m : Str → Option Value) (news : List (Addr × Obj)) (s : Shared) (Q E : Value → Shared → Prop),
    Below A₀ base outer h₀ → Fr h₀ L s.heap m → (hd.heap_39 w.params).In h₀ → News h₀ L s.heap news → Top topProg loose mean mg mb h₀ → cs.kind = .function → h₀.NoSeer →
    dp + d < recursionLimit → un + u < cLine → Pre news →
    (∀ r news' h' tk', Fr h₀ L h' m → News h₀ L h' news' → Post news r news' → Q r { s with heap := h', toks := tk' }) →
    wpAny (model PySem.Challenge.rw_mq0261_01.row.prog w) (ktrTop dp un gd cn cs L a ccd cl outer) (call (.ref f) vs) Q E s
theorem CallS.use {w : World} {loose : List Str} {mean : ExcName → Option Value} {mg mb : Str → Option Value} {f : Addr} {vs : List Value} {d u : Nat} {Pre : List (Addr × Obj) → Prop} {Post : List (Addr × Obj) → Value → List (Addr × Obj) → Prop}
    (C : CallS w loose mean mg mb f vs d u Pre Post)
    {dp un : Nat} {gd : Option (List Code)} {cn : Str} {cs : Scope} {a : Addr} {ccd : Value} {cl : List (Str × Addr)} {outer : List Env} {A₀ : Around} {base h₀ : Heap} {L : Addr} {m : Str → Option Value} {news : List (Addr × Obj)} {s : Shared} {Q E : Value → Shared → Prop}
    (hz : h₀.NoSeer) (B : Below A₀ base outer h₀) (F : Fr h₀ L s.heap m) (X : (hd.heap_39 w.params).In h₀) (N : News h₀ L s.heap news) (T : Top topProg loose mean mg mb h₀) (hk : cs.kind = .function)
    (hd : dp + d < recursionLimit) (hu : un + u < cLine) (hp : Pre news)
    (ret : ∀ r news' h' tk', Fr h₀ L h' m → News h₀ L h' news' → Post news r news' → Q r { s with heap := h', toks := tk' }) :
    wpAny (model PySem.Challenge.rw_mq0261_01.row.prog w) (ktrTop dp un gd cn cs L a ccd cl outer) (call (.ref f) vs) Q E s :=
  C _ _ _ _ _ _ _ _ _ _ _ _ _ _ _ _ _ _ B F X N T hk hz hd hu hp ret
theorem own_cons {own : List (Addr × Obj)} {l : List Addr} {D : Addr} (ho : OwnOff own l) (hl : ∀ p ∈ own, p.1 < D) : OwnOff own (D :: l) := fun p hp b hb => by
  rcases List.mem_cons.mp hb with rfl | h
  · exact Nat.ne_of_lt (hl p hp)
  · exact ho p hp b h
theorem own_tail {own : List (Addr × Obj)} {l : List Addr} {D : Addr} (ho : OwnOff own (D :: l)) : OwnOff own l := fun p hp b hb => ho p hp b (.tail _ hb)
theorem get_at0 {xs : List Int} {i : Nat} (h : i < xs.length) : xs[i]? = some (at0 xs i) := by
  unfold at0
  rw [List.getD_eq_getElem?_getD, List.getElem?_eq_getElem h]; rfl
end

section

set_option maxRecDepth 100000
set_option maxHeartbeats 2000000
section
variable {prog : Program} {w : World} {A : Around} {E : Value → Shared → Prop} {s : Shared} {h₀ : Heap} {L D : Addr} {m : Str → Option Value} {news : List (Addr × Obj)} {vs : List Value} {ns : List Int} {n : Nat}
theorem at_sum {Q : Value → Shared → Prop} (hh : A.handled = none) (F : Fr h₀ L s.heap m) (N : News h₀ L s.heap news) (hm : (D, listOf vs.toArray n) ∈ news) (hi : IntsAre vs ns) (h : ∀ h' tk t, Fr h₀ L h' m → News h₀ L h' news → Q (.int ns.sum t) { s with heap := h', toks := tk }) : wpAny (model prog w) A (call (.builtin "sum") [.ref D]) Q E s :=
  sumK hh F N (PySem.IsL.isList (n := n) (N _ hm).1) hi h
theorem at_set {rest : List (Addr × Obj)} {g : Nat} {x : Int} {t u : Tok} {Q : Unit → Shared → Prop} (F : Fr h₀ L s.heap m) (N : News h₀ L s.heap ((D, listOf vs.toArray n) :: rest)) (hne : ∀ p ∈ rest, p.1 ≠ D) (hi : IntsAre vs ns) (hg : g < ns.length) (hl : ns.length ≤ 100)
    (h : ∀ h' vs', Fr h₀ L h' m → News h₀ L h' ((D, listOf vs'.toArray n) :: rest) → IntsAre vs' (ns.set g x) → Q () { s with heap := h' }) : wpAny (model prog w) A (setItem (.ref D) (.int g t) (.int x u)) Q E s :=
  ksa_set F N (Upd.head hne) hi (by omega) (by omega) (by omega) fun h' F' N' i' _ _ => h h' _ F' N' i'
theorem told_get {T : List It} {it : It} {i : Nat} {u : Tok} {value slice : PySem.Expr} {Q : Value → Shared → Prop} (N : News h₀ L s.heap news) (hm : (D, listOf (refs T) n) ∈ news) (hl : T.length ≤ 100) (e : T[i]? = some it) (h : Q (.ref it.1) s)
    (hs : subscripted slice false (.ref D) (.int i u) = operate [.ref D, .int i u] (getItem (.ref D) (.int i u)) := by with_unfolding_all rfl) (hg : ∀ r, letTemporaryGo value (.ref D) r = pure () := by intro _; with_unfolding_all rfl) :
    wpAny (model prog w) A (subscriptTail value slice (.ref D) (.int i u)) Q E s :=
  kim_list N hm rfl rfl (by omega) (by have := (List.getElem?_eq_some_iff.mp e).1; omega) (x := .ref it.1) (by rw [Int.toNat_natCast, List.getElem?_map, e]; rfl) h hs hg
theorem told_len {T : List It} {Q : Value → Shared → Prop} (N : News h₀ L s.heap news) (hm : (D, listOf (refs T) n) ∈ news) (hl : T.length ≤ 100) (h : ∀ t tk, Q (.int T.length t) { s with toks := tk }) : wpAny (model prog w) A (call (.builtin "len") [.ref D]) Q E s := by
  have hsz : (refs T).size = T.length := by simp [refs]
  refine len_list (items := refs T) (PySem.IsL.isList (n := n) (N _ hm).1) (by rw [hsz]; omega) ?_
  rw [hsz]; exact h _ _
end
theorem News.drop2 {h₀ h : Heap} {L : Addr} {a b : Addr × Obj} {l : List (Addr × Obj)} (N : News h₀ L h (a :: b :: l)) : News h₀ L h (a :: l) := fun p hp => N p ((List.mem_cons.mp hp).elim (fun e => by rw [e]; exact .head _) fun h => .tail _ (.tail _ h))
theorem small_r {h w : Int} (h0 : 0 ≤ h) (h1 : h ≤ 101) : IntMulOk w h := IntMulOk.of_right (Nat.le_trans (bits_le (m := 7) h0 (by omega)) (by decide))
theorem ints1 {vs : List Value} {a : Int} {ns : List Int} (h : IntsAre vs (a :: ns)) : ∃ t vs', vs = .int a t :: vs' ∧ IntsAre vs' ns := by
  cases h with
  | cons _ t h => exact ⟨t, _, rfl, h⟩
theorem ints0 {vs : List Value} (h : IntsAre vs []) : vs = [] := by cases h; rfl
theorem ints5 {vs : List Value} {a b c d e : Int} (h : IntsAre vs [a, b, c, d, e]) : ∃ t1 t2 t3 t4 t5, vs = [.int a t1, .int b t2, .int c t3, .int d t4, .int e t5] := by
  obtain ⟨t1, v1, e1, h1⟩ := ints1 h
  obtain ⟨t2, v2, e2, h2⟩ := ints1 h1
  obtain ⟨t3, v3, e3, h3⟩ := ints1 h2
  obtain ⟨t4, v4, e4, h4⟩ := ints1 h3
  obtain ⟨t5, v5, e5, h5⟩ := ints1 h4
  exact ⟨t1, t2, t3, t4, t5, by rw [e1, e2, e3, e4, e5, ints0 h5]⟩
end

section

set_option maxRecDepth 100000
set_option maxHeartbeats 2000000
theorem div_le_self' {a b : Int} (ha : 0 ≤ a) (hb : 0 < b) : 0 ≤ a / b ∧ a / b ≤ a := ⟨Int.ediv_nonneg ha (by omega), Int.ediv_le_self b ha⟩
theorem bits_mono {x y : Int} {n : Nat} (h0 : 0 ≤ x) (h : x ≤ y) (hy : Builtin.Int.intBits y ≤ n) : Builtin.Int.intBits x ≤ n :=
  bits_le h0 (Int.lt_of_le_of_lt h (lt_of_bits (by omega) hy))
theorem ope_facts {h W s : Int} (h0 : 0 ≤ h) (h1 : h ≤ 100) (W0 : 0 < W) (s0 : 0 < s) (hw : Builtin.Int.intBits W ≤ 1099000) (hsW : s ≤ W) :
    h * W / s * s + h * W % s = h * W ∧ 0 ≤ h * W % s ∧ h * W % s < s ∧ IntMulOk (h * W / s) s := by
  have hb : Builtin.Int.intBits (h * W) ≤ 1100000 := Nat.le_trans (bits_mul h0 (by omega) (by omega) hw) (by decide)
  have hd := div_le_self' (b := s) (Int.mul_nonneg h0 (Int.le_of_lt W0)) s0
  refine ⟨by rw [Int.mul_comm]; exact Int.mul_ediv_add_emod _ _, Int.emod_nonneg _ (by omega), Int.emod_lt_of_pos _ s0, ?_⟩
  exact IntMulOk.of_le (bits_mono hd.1 hd.2 hb) (bits_mono (by omega) hsW hw) (by decide)
theorem clo_facts {h W s : Int} (h0 : 0 ≤ h) (h1 : h ≤ 100) (W0 : 0 < W) (s0 : 0 < s) (hw : Builtin.Int.intBits W ≤ 1099000) (hsW : s ≤ W) :
    -(-(h + 1) * W / s) * s - -(h + 1) * W % s = (h + 1) * W ∧ 0 ≤ -(h + 1) * W % s ∧ -(h + 1) * W % s < s ∧ IntMulOk (-(-(h + 1) * W / s)) s := by
  have hb : Builtin.Int.intBits ((h + 1) * W) ≤ 1100000 := Nat.le_trans (bits_mul (by omega) (by omega) (by omega) hw) (by decide)
  have hp : 0 ≤ (h + 1) * W := Int.mul_nonneg (by omega) (Int.le_of_lt W0)
  have e1 := Int.mul_ediv_add_emod (-(h + 1) * W) s
  have hc : 0 ≤ -(-(h + 1) * W / s) ∧ -(-(h + 1) * W / s) ≤ (h + 1) * W := by
    rw [Int.neg_mul]
    refine ⟨?_, (clo_le s0).mpr ?_⟩
    · have : -((h + 1) * W) / s ≤ 0 := by
        rcases (by omega : -((h + 1) * W) / s ≤ 0 ∨ 1 ≤ -((h + 1) * W) / s) with h2 | h2
        · exact h2
        · have := (Int.le_ediv_iff_mul_le s0).mp h2
          omega
      omega
    · have := Int.mul_le_mul_of_nonneg_left (show (1 : Int) ≤ s by omega) hp
      rw [Int.mul_one] at this
      exact this
  refine ⟨?_, Int.emod_nonneg _ (by omega), Int.emod_lt_of_pos _ s0, ?_⟩
  · rw [Int.mul_comm s] at e1
    rw [Int.neg_mul]
    rw [Int.neg_mul] at e1 ⊢
    omega
  · exact IntMulOk.of_le (bits_mono hc.1 hc.2 hb) (bits_mono (by omega) hsW hw) (by decide)
end

section

set_option maxRecDepth 100000
theorem Call.conv {w : World} {loose : List Str} {mean : ExcName → Option Value} {mg mb : Str → Option Value} {f : Addr} {vs : List Value} {d u : Nat} {Pre Pre' : List (Addr × Obj) → Prop} {Post Post' : List (Addr × Obj) → Value → List (Addr × Obj) → Prop}
    (C : Call w loose mean mg mb f vs d u Pre Post) (hp : ∀ n, Pre' n → Pre n) (hq : ∀ n r n', Pre' n → Post n r n' → Post' n r n') : Call w loose mean mg mb f vs d u Pre' Post' := by
  unfold Call
  intro dp un gd cn cs adr ccd cl outer A₀ base h₀ L m news s Q E B F X N T hk hd hu hpre ret
  exact Call.use C B F X N T hk hd hu (hp _ hpre) fun r n' h' tk' F' N' hpo => ret r n' h' tk' F' N' (hq _ _ _ hpre hpo)
noncomputable def PopPost (xs : List It) (d : Addr) (rest : List (Addr × Obj)) (_ : List (Addr × Obj)) (r : Value) (news' : List (Addr × Obj)) : Prop :=
  ∃ x0 xs' n', r = .ref x0.1 ∧ news' = (d, listOf (refs xs') n') :: rest ∧ (x0 :: xs').Perm xs ∧ HeapFrom ltI 0 xs' ∧ xs[0]? = some x0
noncomputable def PushPost (xs : List It) (it : It) (d : Addr) (rest : List (Addr × Obj)) (_ : List (Addr × Obj)) (r : Value) (news' : List (Addr × Obj)) : Prop :=
  r = .none ∧ ∃ xs' n', news' = (d, listOf (refs xs') n') :: rest ∧ xs'.Perm (it :: xs) ∧ HeapFrom ltI 0 xs'
noncomputable def FyPost (xs : List It) (d : Addr) (rest : List (Addr × Obj)) (_ : List (Addr × Obj)) (r : Value) (news' : List (Addr × Obj)) : Prop :=
  r = .none ∧ ∃ xs' n', news' = (d, listOf (refs xs') n') :: rest ∧ xs'.Perm xs ∧ HeapFrom ltI 0 xs'
theorem root_open {ss hs : List Int} {Wt : List It} {r : It} {t : Int} (h : HeapFrom ltI 0 Wt) (hw : ∀ x ∈ Wt, ∃ g, g < ss.length ∧ x.2 = wishAt ss hs g) (hr : Wt[0]? = some r) (ht : ¬ at0 r.2 0 ≤ t) : ∀ x ∈ Wt, t < at0 x.2 0 := by
  intro x hx
  have h1 := root_least ltI ltI_tr ltI_asy h hr x hx
  obtain ⟨g, _, e⟩ := hw x hx
  obtain ⟨g', _, e'⟩ := hw r (List.mem_of_getElem? hr)
  simp only [ltI, e, e'] at h1
  rw [e'] at ht
  rw [e]
  have q : ∀ j, wishAt ss hs j = at0 (wishAt ss hs j) 0 :: (wishAt ss hs j).tail := fun j => rfl
  rw [q g, q g'] at h1
  unfold lexLt at h1
  split at h1
  · omega
  · simp only [decide_eq_false_iff_not] at h1; omega
end

section

set_option maxRecDepth 100000
set_option maxHeartbeats 4000000
section
variable {prog : Program} {w : World} {A : Around} {E : Value → Shared → Prop} {s : Shared} {env : Env} {h₀ : Heap} {x : Str} {body : List Stmt} {Q : Flow → Shared → Prop} {m₀ : Str → Option Value} {news : List (Addr × Obj)}
/-- a loop over a range; what the loop itself holds is an iterator of a range -/
theorem for_rangeO {r : Addr} {a₀ b₀ : Int} {t₀ u₀ v₀ : Tok} {n : Nat} (J : Nat → (Str → Option Value) → List (Addr × Obj) → Prop) (hh : A.handled = none) (hr : IsRange s.heap r a₀ b₀ 1 t₀ u₀ v₀) (hsmall : Builtin.Range.small a₀ b₀ 1 = true) (hsz : Builtin.Range.rangeSize a₀ b₀ 1 = (n : Int))
    (F : Fr h₀ env.locals s.heap m₀) (N : News h₀ env.locals s.heap news) (hj : J 0 m₀ news)
    (turn : ∀ i t m₁ nx h tk own, i < n → OwnOff own (nx.map (·.1)) → (∀ p ∈ own, ∃ a b c, p.2 = rangeIt a b c) → J i m₁ nx → Fr h₀ env.locals h (fun y => if y = x then some (.int (a₀ + (i : Nat)) t) else m₁ y) → News h₀ env.locals h (nx ++ own) →
      wpAny (model prog w) A (execs body env) (InvPostG h₀ env.locals (J (i + 1)) own { s with heap := h, toks := tk } Q) E { s with heap := h, toks := tk })
    (done : ∀ m₁ nx h tk, J n m₁ nx → Fr h₀ env.locals h m₁ → News h₀ env.locals h nx → Q .next { s with heap := h, toks := tk }) :
    wpAny (model prog w) A (pyIter (.ref r)) (fun it s₂ => LoopAtV prog w A h₀ env x body Q E it s₂) E s := by
  refine wpAny_pyIter_range hr hsmall ?_
  have hI := next_is_new F
  refine ⟨s.heap.objs.size, [s.heap.objs.size], [s.heap.objs.size], n, _, _, m₀, news, J, rfl, (Walks.range hh _ a₀ 1 n).bound, ?_, ?_, ?_, ?_, F.push _, fun p hp => ⟨Heap.get?_push_of_some _ (N p hp).1, (N p hp).2⟩, hj, ?_, ?_⟩
  · intro hm
    exact absurd F.ns.lt ((List.mem_singleton.mp hm) ▸ Nat.lt_irrefl _)
  · intro b hb
    rw [List.mem_singleton.mp hb]
    exact hI
  · intro p hp hq
    exact absurd (Heap.lt_size (N p hp).1) ((List.mem_singleton.mp hq) ▸ Nat.lt_irrefl _)
  · show IsRangeIter _ _ _ _ _
    rw [hsz]
    simpa using Heap.get?_push_size _ rfl
  · rintro i v m₁ nx s₁ own ⟨h, tk, rfl⟩ hi ⟨_, t, rfl⟩ hJ hnx hown hat hall hst F₁ N₁
    have hst' : h.get? s.heap.objs.size = some _ := hst
    have e1 : a₀ + (i : Int) * 1 = a₀ + (i : Int) := by omega
    rw [e1] at F₁
    have hmem := hall _ (.head _) hI _ hst'
    refine wpAny_mono (turn i t m₁ nx h tk own hi ?_ ?_ hJ F₁ fun p hp => N₁ p (List.mem_append.mpr (List.mem_append.mp hp).symm)) ?_ fun _ _ e => e
    · intro p hp b hb e
      obtain ⟨q, hq, rfl⟩ := List.mem_map.mp hb
      exact hnx q hq (e ▸ hown p hp)
    · intro p hp
      have h1 := hat p hp
      rw [List.mem_singleton.mp (hown p hp)] at h1
      have h2 := h1.symm.trans hst'
      exact ⟨_, _, _, Option.some.inj h2⟩
    · intro f s₂ hp
      have fin : InvEndG h₀ env.locals (J (i + 1)) own { s with heap := h, toks := tk } s₂ → LoopStepU h₀ env.locals [s.heap.objs.size] own (J (i + 1)) { s with heap := h, toks := tk } .next s₂ := by
        rintro ⟨h', tk', m', l, nx', rfl, F', N', hn, ho, hoff, hj'⟩
        refine .intro F' (fun p hp => N' p ((List.mem_append.mp hp).elim (ho p) (hn p))) (fun p hp hq => ?_) hj'
        exact hoff _ hmem p.1 (List.mem_map.mpr ⟨p, hp, rfl⟩) (List.mem_singleton.mp hq).symm
      cases f with
      | ret v => exact .ret hp
      | brk => exact .brk hp
      | next => exact .next (fin hp)
      | cont => exact .cont (fin hp)
  · exact fun h' tk m' nx F' N' _ hJ => done m' nx h' tk hJ F' N'
end

end

section

set_option maxRecDepth 100000
noncomputable def LenOk (n turns : Nat) : Prop := 0 < n ∧ n ≤ 8 ∧ turns ≤ 36
theorem LenOk.le {n turns k : Nat} (h : LenOk n turns) (hk : 8 ≤ k) : n ≤ k := Nat.le_trans h.2.1 hk
noncomputable def AllTup (tu : List (Addr × Obj)) : Prop := ∀ p ∈ tu, ∃ vs c, p.2 = tup vs c
theorem AllTup.cons {a : Addr} {vs : List Value} {c : Nat} {tu : List (Addr × Obj)} (h : AllTup tu) : AllTup ((a, tup vs c) :: tu) := fun p hp => (List.mem_cons.mp hp).elim (fun e => ⟨vs, c, by rw [e]⟩) (h p)
noncomputable def Ap (x : Addr) (l : List (Addr × Obj)) : Prop := ∀ p ∈ l, p.1 ≠ x
theorem Ap.nil {x : Addr} : Ap x [] := fun _ h => nomatch h
theorem Ap.cons {x : Addr} {q : Addr × Obj} {l : List (Addr × Obj)} (h1 : q.1 ≠ x) (h2 : Ap x l) : Ap x (q :: l) := fun p hp => (List.mem_cons.mp hp).elim (fun e => by rw [e]; exact h1) (h2 p)
theorem Ap.app {x : Addr} {l k : List (Addr × Obj)} (h1 : Ap x l) (h2 : Ap x k) : Ap x (l ++ k) := fun p hp => (List.mem_append.mp hp).elim (h1 p) (h2 p)
noncomputable def Off (own nx : List (Addr × Obj)) : Prop := ∀ p ∈ own, ∀ q ∈ nx, p.1 ≠ q.1
theorem Off.own {own nx : List (Addr × Obj)} (h : Off own nx) : OwnOff own (nx.map (·.1)) := fun p hp b hb e => by
  obtain ⟨q, hq, rfl⟩ := List.mem_map.mp hb
  exact h p hp q hq e
theorem Off.of {own nx : List (Addr × Obj)} (h : OwnOff own (nx.map (·.1))) : Off own nx := fun p hp q hq => h p hp q.1 (List.mem_map.mpr ⟨q, hq, rfl⟩)
theorem Off.app {own l k : List (Addr × Obj)} (h1 : Off own l) (h2 : Off own k) : Off own (l ++ k) := fun p hp q hq => (List.mem_append.mp hq).elim (h1 p hp q) (h2 p hp q)
theorem Off.cons {own k : List (Addr × Obj)} {q : Addr × Obj} (h1 : Ap q.1 own) (h2 : Off own k) : Off own (q :: k) := fun p hp x hx => (List.mem_cons.mp hx).elim (fun e => by rw [e]; exact h1 p hp) (h2 p hp x)
theorem Off.head {own k : List (Addr × Obj)} {q : Addr × Obj} (h : Off own (q :: k)) : Ap q.1 own := fun p hp => h p hp q (.head _)
theorem Off.tail {own k : List (Addr × Obj)} {q : Addr × Obj} (h : Off own (q :: k)) : Off own k := fun p hp x hx => h p hp x (.tail _ hx)
theorem Off.left {own l k : List (Addr × Obj)} (h : Off own (l ++ k)) : Off own l := fun p hp x hx => h p hp x (List.mem_append_left _ hx)
theorem Off.right {own l k : List (Addr × Obj)} (h : Off own (l ++ k)) : Off own k := fun p hp x hx => h p hp x (List.mem_append_right _ hx)
theorem Ap.lt {x : Addr} {l : List (Addr × Obj)} (h : AllLt x l) : Ap x l := fun p hp => Nat.ne_of_lt (ktn_ltOf h p hp)
theorem lt_mem {x : Addr} {q : Addr × Obj} {l : List (Addr × Obj)} (h : AllLt x l) (hq : q ∈ l) : q.1 < x := ktn_ltOf h q hq
section
variable {h₀ h : Heap} {L : Addr} {news l : List (Addr × Obj)} {a b c d : Addr × Obj}
theorem ne_obj {x y : Addr} {ox oy : Obj} (N : News h₀ L h news) (h1 : (x, ox) ∈ news) (h2 : (y, oy) ∈ news) (hne : ox ≠ oy) : x ≠ y := fun e => by
  have e1 := (N _ h1).1
  have e2 := (N _ h2).1
  simp only at e1 e2
  rw [e, e2] at e1
  exact hne (Option.some.inj e1).symm
theorem tabs_ne {tabs : List (Addr × Obj)} {x : Addr} {ox : Obj} (N : News h₀ L h news) (ht : Tabs tabs) (hs : ∀ p ∈ tabs, p ∈ news) (hx : (x, ox) ∈ news) (hd : ∀ vs, ox.data ≠ .fields vs) : (∀ p ∈ tabs, p.1 ≠ x) ∧ x ≠ 30 ∧ x ≠ 37 := by
  obtain ⟨l30, l37, rfl, s30, s37⟩ := ht
  have q30 := seg_ne N s30 (fun p hp => hs p (List.mem_append_left _ hp)) hx hd
  have q37 := seg_ne N s37 (fun p hp => hs p (List.mem_append_right _ hp)) hx hd
  obtain ⟨ps, hm, _⟩ := seg_mem s30
  obtain ⟨ps', hm', _⟩ := seg_mem s37
  exact ⟨fun p hp => (List.mem_append.mp hp).elim (q30 p) (q37 p), (q30 _ hm).symm, (q37 _ hm').symm⟩
theorem tup_ne {tu : List (Addr × Obj)} {x : Addr} {its : Array Value} {c : Nat} (N : News h₀ L h news) (htu : AllTup tu) (hs : ∀ p ∈ tu, p ∈ news) (hx : (x, listOf its c) ∈ news) : Ap x tu := fun p hp => by
  obtain ⟨vs, c', e⟩ := htu p hp
  exact ne_obj N (x := p.1) (ox := p.2) (hs p hp) hx (by rw [e]; intro h; have h2 : Value.type "tuple" = Value.type "list" := congrArg Obj.cls h; simp at h2)
theorem own_tabs {own nx tabs : List (Addr × Obj)} (ho : OwnOff own (nx.map (·.1))) (ht : Tabs tabs) (hs : ∀ p ∈ tabs, p ∈ nx) : ∀ p ∈ own, p.1 ≠ 30 ∧ p.1 ≠ 37 := by
  obtain ⟨l30, l37, rfl, s30, s37⟩ := ht
  obtain ⟨ps, hm, _⟩ := seg_mem s30
  obtain ⟨ps', hm', _⟩ := seg_mem s37
  exact fun p hp => ⟨ho p hp 30 (List.mem_map.mpr ⟨_, hs _ (List.mem_append_left _ hm), rfl⟩), ho p hp 37 (List.mem_map.mpr ⟨_, hs _ (List.mem_append_right _ hm'), rfl⟩)⟩
theorem tup_tabs {tu tabs : List (Addr × Obj)} (N : News h₀ L h news) (ht : Tabs tabs) (hs : ∀ p ∈ tabs, p ∈ news) (htu : AllTup tu) (hs' : ∀ p ∈ tu, p ∈ news) : ∀ p ∈ tu, p.1 ≠ 30 ∧ p.1 ≠ 37 := fun p hp => by
  obtain ⟨vs, c, e⟩ := htu p hp
  exact (tabs_ne N ht hs (x := p.1) (ox := p.2) (hs' p hp) (fun vs' => by rw [e]; intro h; cases h)).2
theorem list_tabs {x : Addr} {its : Array Value} {c : Nat} {tabs : List (Addr × Obj)} (N : News h₀ L h news) (ht : Tabs tabs) (hs : ∀ p ∈ tabs, p ∈ news) (hx : (x, listOf its c) ∈ news) : Ap x tabs ∧ x ≠ 30 ∧ x ≠ 37 :=
  tabs_ne N ht hs hx (fun vs' h => by cases h)
theorem seg_range {P : Addr} {pos : Pos} {qual : Str} {l : List (Addr × Obj)} (h1 : TabSeg P pos qual l) : ∀ q ∈ l, ∀ a b c, q.2 ≠ rangeIt a b c := by
  intro q hq a b c e
  rcases h1 with rfl | ⟨c', oc, vs, t, rfl, hoc, hv⟩
  · rw [List.mem_singleton.mp hq] at e
    have e1 : (tabObj #[]).data = (rangeIt a b c).data := by rw [← e]
    simp at e1
  · rcases List.mem_cons.mp hq with rfl | hq'
    · have e1 : (tabObj #[rawInt pos.line, rawInt pos.col, .ref c']).data = (rangeIt a b c).data := by rw [← e]
      simp [rawInt] at e1
    · rw [List.mem_singleton.mp hq'] at e
      have e1 : oc.data = (rangeIt a b c).data := by rw [← e]
      rw [hoc] at e1
      have e2 : vs = #[rawInt a, rawInt b, rawInt c] := by cases e1; rfl
      rw [e2] at hv
      simp [rawInt] at hv
/-- the tables of made defs lie off a loop's own iterator -/
theorem off_tabs {own tabs : List (Addr × Obj)} (N : News h₀ L h news) (ht : Tabs tabs) (hs : ∀ p ∈ tabs, p ∈ news) (ho : ∀ p ∈ own, p ∈ news) (hr : ∀ p ∈ own, ∃ a b c, p.2 = rangeIt a b c) : Off own tabs := by
  obtain ⟨l30, l37, rfl, s30, s37⟩ := ht
  intro p hp q hq
  obtain ⟨a, b, c, e⟩ := hr p hp
  refine ne_obj N (x := p.1) (ox := p.2) (y := q.1) (oy := q.2) (ho p hp) (hs q hq) (fun e2 => ?_)
  rw [e] at e2
  exact (List.mem_append.mp hq).elim (fun h => seg_range s30 q h a b c e2.symm) fun h => seg_range s37 q h a b c e2.symm
end
section
variable {h₀ h : Heap} {L : Addr} {t r : List (Addr × Obj)} {a b c d e f g : Addr × Obj}
theorem News.tab0 (N : News h₀ L h (a :: b :: c :: (t ++ r))) : News h₀ L h (t ++ (a :: b :: ([] ++ r))) := fun p hp => N p (by
  simp only [List.mem_cons, List.mem_append, List.nil_append] at hp ⊢; grind)
theorem News.re1 (N : News h₀ L h (a :: b :: c :: d :: (t ++ (e :: f :: r)))) : News h₀ L h (e :: a :: (t ++ (f :: r))) := fun p hp => N p (by
  simp only [List.mem_cons, List.mem_append] at hp ⊢; grind)
theorem News.re2 (N : News h₀ L h (t ++ (a :: r))) : News h₀ L h (a :: (t ++ r)) := fun p hp => N p (by
  simp only [List.mem_cons, List.mem_append] at hp ⊢; grind)
theorem News.re3 (N : News h₀ L h (t ++ (a :: b :: c :: r))) : News h₀ L h (c :: (t ++ (a :: b :: r))) := fun p hp => N p (by
  simp only [List.mem_cons, List.mem_append] at hp ⊢; grind)
theorem News.re4 (N : News h₀ L h (a :: b :: c :: d :: (t ++ (e :: r)))) : News h₀ L h (e :: a :: d :: (t ++ r)) := fun p hp => N p (by
  simp only [List.mem_cons, List.mem_append] at hp ⊢; grind)
theorem News.re5 (N : News h₀ L h (a :: (t ++ (b :: c :: d :: r)))) : News h₀ L h (d :: a :: (t ++ (b :: c :: r))) := fun p hp => N p (by
  simp only [List.mem_cons, List.mem_append] at hp ⊢; grind)
theorem News.re6 (N : News h₀ L h (a :: b :: (t ++ (c :: d :: r)))) : News h₀ L h (c :: a :: b :: (t ++ (d :: r))) := fun p hp => N p (by
  simp only [List.mem_cons, List.mem_append] at hp ⊢; grind)
theorem News.re7 (N : News h₀ L h (a :: b :: c :: (t ++ r))) : News h₀ L h (t ++ (a :: b :: c :: r)) := fun p hp => N p (by
  simp only [List.mem_cons, List.mem_append] at hp ⊢; grind)
theorem News.re8 (N : News h₀ L h (a :: (t ++ (b :: c :: d :: e :: r)))) : News h₀ L h (e :: a :: (t ++ (b :: c :: d :: r))) := fun p hp => N p (by
  simp only [List.mem_cons, List.mem_append] at hp ⊢; grind)
end
theorem sub_a {α : Type} {p a b c : α} {t u r o : List α} (hp : p ∈ t ++ (a :: b :: ((c :: u) ++ r))) : p ∈ a :: c :: (t ++ (b :: (u ++ (r ++ o)))) := by
  simp only [List.mem_cons, List.mem_append] at hp ⊢; grind
theorem off2 {k : Addr} {a b : Addr × Obj} {tu rest own : List (Addr × Obj)} (h1 : a.1 ≠ k) (h2 : b.1 ≠ k) (h3 : ∀ p ∈ tu, p.1 ≠ k) (h4 : ∀ p ∈ rest, p.1 ≠ k) (h5 : ∀ p ∈ own, p.1 ≠ k) : ∀ p ∈ a :: b :: (tu ++ (rest ++ own)), p.1 ≠ k :=
  Ap.cons h1 (Ap.cons h2 (Ap.app h3 (Ap.app h4 h5)))
end

section

set_option maxRecDepth 100000
/-- what stands before a turn of the outer loop of _law_by_heaps -/
inductive JT (S A H V U : Addr) (turns : Nat) (tt : Tok) (ss : List Int) (rest : List (Addr × Obj)) (cl : Prop) (t j : Nat) (m : Str → Option Value) (nx : List (Addr × Obj)) : Prop
  | mk (hv : List Value) (hs : List Int) (cR cV cU : Nat) (tw : Tok) (tu : List (Addr × Obj)) (R Wt T : List It) (tabs : List (Addr × Obj))
      (e : nx = tabs ++ ((A, listOf (refs R) cR) :: (H, listOf hv.toArray 0) :: (V, listOf (refs Wt) cV) :: (U, listOf (refs T) cU) :: (tu ++ rest)))
      (ej : Wt.length = j) (hw : cl → ∀ x ∈ Wt, (t : Int) < at0 x.2 0) (ht : Tabs tabs) (htu : AllTup tu) (hR : ∀ it ∈ R, Held tu it) (hWt : ∀ it ∈ Wt, Held tu it) (hT : ∀ it ∈ T, Held tu it)
      (ih : IntsAre hv hs) (I : Inv ss t hs R Wt T)
      (e1 : m (Str.ofString "shares") = some (.ref S)) (e2 : m (Str.ofString "turns") = some (.int turns tt)) (e3 : m (Str.ofString "whole") = some (.int ss.sum tw)) (e4 : m (Str.ofString "had") = some (.ref H))
      (e5 : m (Str.ofString "ready") = some (.ref A)) (e6 : m (Str.ofString "waiting") = some (.ref V)) (e7 : m (Str.ofString "told") = some (.ref U))
theorem held_wish {tu : List (Addr × Obj)} {ss hs : List Int} {g : Nat} {x : It} (h : Held tu x) (e : x.2 = wishAt ss hs g) :
    ∃ v1 v2 v3 v4 v5 c, (x.1, tup [.int (at0 hs g * ss.sum / at0 ss g) v1, .int (clo ss hs g) v2, .int g v3, .int (at0 hs g * ss.sum % at0 ss g) v4, .int (-(at0 hs g + 1) * ss.sum % at0 ss g) v5] c) ∈ tu := by
  obtain ⟨vs, c, hm, hi⟩ := h
  rw [e] at hi
  obtain ⟨v1, v2, v3, v4, v5, rfl⟩ := ints5 hi
  exact ⟨v1, v2, v3, v4, v5, c, hm⟩
theorem held_rot {tu : List (Addr × Obj)} {ss hs : List Int} {g : Nat} {x : It} (h : Held tu x) (e : x.2 = rot (wishAt ss hs g)) :
    ∃ v1 v2 v3 v4 v5 c, (x.1, tup [.int (clo ss hs g) v1, .int g v2, .int (at0 hs g * ss.sum % at0 ss g) v3, .int (-(at0 hs g + 1) * ss.sum % at0 ss g) v4, .int (at0 hs g * ss.sum / at0 ss g) v5] c) ∈ tu := by
  obtain ⟨vs, c, hm, hi⟩ := h
  rw [e] at hi
  obtain ⟨v1, v2, v3, v4, v5, rfl⟩ := ints5 hi
  exact ⟨v1, v2, v3, v4, v5, c, hm⟩
section
variable {prog : Program} {w : World} {A : Around} {E : Value → Shared → Prop} {s : Shared} {h₀ : Heap} {L D : Addr} {news : List (Addr × Obj)} {T : List It} {n : Nat}
theorem itm_truthy {Q : Bool → Shared → Prop} (N : News h₀ L s.heap news) (hm : (D, listOf (refs T) n) ∈ news) (hf : T.length ≤ 100) (h : ∀ tk, Q (!T.isEmpty) { s with toks := tk }) : wpAny (model prog w) A (truthy (.ref D)) Q E s :=
  it_truthy (rest := []) (xs := T) (n := n) (fun p hp => by rw [List.mem_singleton.mp hp]; exact N _ hm) (by omega) h
theorem itm_first {r : It} {u : Tok} {value slice : PySem.Expr} {Q : Value → Shared → Prop} (N : News h₀ L s.heap news) (hm : (D, listOf (refs T) n) ∈ news) (e : T[0]? = some r) (h : Q (.ref r.1) s)
    (hs : subscripted slice false (.ref D) (.int 0 u) = operate [.ref D, .int 0 u] (getItem (.ref D) (.int 0 u)) := by with_unfolding_all rfl) (hg : ∀ r, letTemporaryGo value (.ref D) r = pure () := by intro _; with_unfolding_all rfl) :
    wpAny (model prog w) A (subscriptTail value slice (.ref D) (.int 0 u)) Q E s :=
  kim_list N hm rfl rfl (by decide) (by decide) (x := .ref r.1) (by rw [show (0 : Int).toNat = 0 from rfl, List.getElem?_map, e]; rfl) h hs hg
end
theorem off_tup {h₀ h : Heap} {L : Addr} {news own tu : List (Addr × Obj)} (N : News h₀ L h news) (htu : AllTup tu) (hs : ∀ p ∈ tu, p ∈ news) (ho : ∀ p ∈ own, p ∈ news) (hr : ∀ p ∈ own, ∃ a b c, p.2 = rangeIt a b c) : Off own tu := fun p hp q hq => by
  obtain ⟨a, b, c, e⟩ := hr p hp
  obtain ⟨vs, c', e'⟩ := htu q hq
  refine ne_obj N (x := p.1) (ox := p.2) (y := q.1) (oy := q.2) (ho p hp) (hs q hq) (fun e2 => ?_)
  rw [e, e'] at e2
  have h2 : Value.type "range_iterator" = Value.type "tuple" := congrArg Obj.cls e2
  simp at h2
set_option maxRecDepth 100000
section
variable {prog : Program} {w : World} {A : Around} {E : Value → Shared → Prop} {Q : Flow → Shared → Prop} {s : Shared} {env : Env} {h₀ : Heap} {L : Addr}
/-- a while loop that neither breaks nor returns, what follows it walked once -/
theorem While_then {test : PySem.Expr} {body : List Stmt} {pos : Pos} {m : Str → Option Value} {news : List (Addr × Obj)} (J : Nat → (Str → Option Value) → List (Addr × Obj) → Prop) (JE : (Str → Option Value) → List (Addr × Obj) → Prop) {n₀ : Nat}
    (F : Fr h₀ L s.heap m) (N : News h₀ L s.heap news) (hJ : J n₀ m news)
    (turn : ∀ n m₁ news₁ h₁ tk₁, Fr h₀ L h₁ m₁ → News h₀ L h₁ news₁ → J n m₁ news₁ →
      wpAny (model prog w) A (isTrue test env (eval test env)) (fun b s₂ =>
        if b = true then wpAny (model prog w) A (execs body env) (WhileStep2 h₀ L s J (ExitQ h₀ L s JE) n) E s₂ else ExitQ h₀ L s JE .next s₂) E { s with heap := h₁, toks := tk₁ })
    (next : ∀ h tk m nx, Fr h₀ L h m → News h₀ L h nx → JE m nx → Q .next { s with heap := h, toks := tk })
    (hE : PassesOwn (model prog w) A env E := by passes_own) :
    wpAny (model prog w) A (exec (.While test body [] pos) env) Q E s :=
  wpAny_mono (While_inv2 (Q := ExitQ h₀ L s JE) J F N hJ turn hE) (fun f s₂ h => by
    cases f with
    | next => obtain ⟨h', tk, m', nx, rfl, F', N', j⟩ := h; exact next h' tk m' nx F' N' j
    | _ => exact h.elim) fun _ _ e => e
theorem itm_true {D : Addr} {news : List (Addr × Obj)} {T : List It} {n : Nat} {Qb : Bool → Shared → Prop} (N : News h₀ L s.heap news) (hm : (D, listOf (refs T) n) ∈ news) (hf : T.length ≤ 100) (hn : T.isEmpty = false) (h : ∀ tk, Qb true { s with toks := tk }) : wpAny (model prog w) A (truthy (.ref D)) Qb E s :=
  itm_truthy N hm hf (by rw [hn]; exact h)
theorem itm_false {D : Addr} {news : List (Addr × Obj)} {n : Nat} {Qb : Bool → Shared → Prop} (N : News h₀ L s.heap news) (hm : (D, listOf (refs []) n) ∈ news) (h : ∀ tk, Qb false { s with toks := tk }) : wpAny (model prog w) A (truthy (.ref D)) Qb E s :=
  itm_truthy N hm (by simp) h
end
section
variable {h₀ h : Heap} {L : Addr} {t u r o : List (Addr × Obj)} {a b c d e f g : Addr × Obj}
theorem News.re9 (N : News h₀ L h (a :: b :: c :: (t ++ (d :: r)))) : News h₀ L h (t ++ (c :: d :: b :: a :: r)) := fun p hp => N p (by
  simp only [List.mem_cons, List.mem_append] at hp ⊢; grind)
theorem News.re10 (N : News h₀ L h (a :: b :: c :: (t ++ (d :: e :: (u ++ r))))) : News h₀ L h (t ++ (a :: d :: c :: e :: ((b :: u) ++ r))) := fun p hp => N p (by
  simp only [List.mem_cons, List.mem_append] at hp ⊢; grind)
theorem sub_b {p : Addr × Obj} (hp : p ∈ t ++ (a :: b :: c :: d :: ((e :: u) ++ r))) : p ∈ c :: e :: (t ++ (b :: d :: a :: (u ++ (r ++ o)))) := by
  simp only [List.mem_cons, List.mem_append] at hp ⊢; grind
theorem News.re3i (N : News h₀ L h (c :: (t ++ (a :: b :: r)))) : News h₀ L h (t ++ (a :: b :: c :: r)) := fun p hp => N p (by
  simp only [List.mem_cons, List.mem_append] at hp ⊢; grind)
theorem News.fin (N : News h₀ L h (t ++ (a :: b :: c :: d :: (u ++ r)))) : News h₀ L h (d :: (u ++ (t ++ r))) := fun p hp => N p (by
  simp only [List.mem_cons, List.mem_append] at hp ⊢; grind)
end
end

section

set_option maxRecDepth 100000
set_option maxHeartbeats 2000000
end

section

set_option maxRecDepth 100000
set_option maxHeartbeats 2000000
theorem no_imports : importsNone hd.view_39 = true := by decide +kernel
theorem ghost_seer {h₁ : Heap} {tabs : List (Addr × Addr)} (hT : TabsAt tabs h₁) (x : h₁.NoSeer) : (ghostOf h₁ tabs).NoSeer where
  statics := let ⟨mc, a, b⟩ := x.statics; ⟨mc, ghost_ns hT a, b⟩
  mods := let ⟨mc, a, b⟩ := x.mods; ⟨mc, ghost_ns hT a, b⟩
  imp := let ⟨mc, a, b⟩ := x.imp; ⟨mc, ghost_ns hT a, b⟩
  main := let ⟨mg, bm, ob, a, b, c, d, e⟩ := x.main; ⟨mg, bm, ob, ghost_ns hT a, b, ghost_get hT c (fun q => by rw [q] at d; cases d), d, e⟩
end

section

set_option maxRecDepth 100000
theorem sum_lt {n : Nat} : ∀ {l : List Int}, (∀ x ∈ l, 0 ≤ x ∧ x < 2 ^ n) → 0 ≤ l.sum ∧ l.sum ≤ (l.length : Int) * (2 ^ n - 1)
  | [], _ => by simp
  | x :: l, h => by
    have h1 := h x (.head _)
    have h2 := sum_lt (l := l) fun y hy => h y (.tail _ hy)
    rw [List.sum_cons, List.length_cons]
    have e : (((l.length + 1 : Nat)) : Int) * (2 ^ n - 1) = (l.length : Int) * (2 ^ n - 1) + (2 ^ n - 1) := by
      rw [Int.natCast_add, Int.add_mul]; simp
    rw [e]
    omega
theorem sum_bits {n : Nat} {l : List Int} (h : ∀ x ∈ l, 0 ≤ x ∧ x < 2 ^ n) (hl : l.length ≤ 8) : Builtin.Int.intBits l.sum ≤ n + 3 := by
  obtain ⟨h0, h1⟩ := sum_lt h
  have hp := pow_pos n
  refine bits_le h0 ?_
  have e3 : (2 : Int) ^ (n + 3) = 2 ^ n * 8 := by rw [Int.pow_add]; rfl
  have h2 : (l.length : Int) * (2 ^ n - 1) ≤ 8 * (2 ^ n - 1) := Int.mul_le_mul_of_nonneg_right (by omega) (by omega)
  rw [e3]
  generalize (2 : Int) ^ n = P at *
  omega
theorem share_bits {n : Nat} {k : Int} (h : Builtin.Int.intBits k ≤ n) : 0 < (if k < 0 then -k else k) + 1 ∧ (if k < 0 then -k else k) + 1 < 2 ^ (n + 1) := by
  have h1 := intBits_le_iff.mp h
  have e : ((2 ^ n : Nat) : Int) = (2 : Int) ^ n := by simp
  have e2 := pow_succ' n
  have hp := pow_pos n
  rw [e2]
  generalize (2 : Int) ^ n = P at *
  generalize 2 ^ n = q at *
  split <;> omega
noncomputable def absOne (k : Int) : Int := (if k < 0 then -k else k) + 1
theorem shares_facts {ns tl : List Int} {n : Nat} (hn : ∀ x ∈ ns, Builtin.Int.intBits x ≤ n) (h1 : 1 ≤ n) (ht : tl = [] ∨ tl = [2, 3]) :
    (∀ x ∈ (ns.take 6).map absOne ++ tl, 0 < x) ∧ Builtin.Int.intBits ((ns.take 6).map absOne ++ tl).sum ≤ n + 4 ∧ ((ns.take 6).map absOne ++ tl).length ≤ 8 := by
  have hlen : ((ns.take 6).map absOne ++ tl).length ≤ 8 := by
    rw [List.length_append, List.length_map, List.length_take]
    rcases ht with rfl | rfl <;> simp <;> omega
  have hall : ∀ x ∈ (ns.take 6).map absOne ++ tl, 0 < x ∧ x < 2 ^ (n + 1) := by
    intro x hx
    rcases List.mem_append.mp hx with h | h
    · obtain ⟨k, hk, rfl⟩ := List.mem_map.mp h
      exact share_bits (hn k (List.mem_of_mem_take hk))
    · have h4 : (4 : Int) ≤ 2 ^ (n + 1) := by
        obtain ⟨m, rfl⟩ : ∃ m, n = m + 1 := ⟨n - 1, by omega⟩
        have := pow_pos m
        rw [pow_succ', pow_succ']
        omega
      rcases ht with rfl | rfl
      · cases h
      · simp only [List.mem_cons, List.not_mem_nil, or_false] at h
        rcases h with rfl | rfl <;> omega
  exact ⟨fun x hx => (hall x hx).1, sum_bits (n := n + 1) (fun x hx => ⟨Int.le_of_lt (hall x hx).1, (hall x hx).2⟩) hlen, hlen⟩
theorem grown_of {h₀ h : Heap} {L : Addr} {tabs rest : List (Addr × Obj)} (N : News h₀ L h (tabs ++ rest)) (ht : Tabs tabs) : GrownAll [(41, 37), (34, 30)] h := by
  obtain ⟨l30, l37, rfl, s30, s37⟩ := ht
  obtain ⟨ps, hm, _⟩ := seg_mem s30
  obtain ⟨ps', hm', _⟩ := seg_mem s37
  exact ⟨.of N (List.mem_append_left _ (List.mem_append_right _ hm')), .of N (List.mem_append_left _ (List.mem_append_left _ hm)), trivial⟩
theorem News.main {h₀ h : Heap} {L : Addr} {a b c d : Addr × Obj} (N : News h₀ L h [a, b, c, d, (37, tabObj #[]), (30, tabObj #[])]) : News h₀ L h ([(30, tabObj #[]), (37, tabObj #[])] ++ [a]) := fun p hp => N p (by
  simp only [List.cons_append, List.nil_append, List.mem_cons, List.not_mem_nil, or_false] at hp ⊢; grind)
theorem ne_one {a : Addr × Obj} {k : Addr} (h : k < a.1) : ∀ p ∈ [a], p.1 ≠ k := fun p hp => by rw [List.mem_singleton.mp hp]; exact Nat.ne_of_gt h
theorem tabs0 : Tabs [(30, tabObj #[]), (37, tabObj #[])] := ⟨[(30, tabObj #[])], [(37, tabObj #[])], rfl, .inl rfl, .inl rfl⟩
theorem turns_eq (x : Int) : 12 + x.fmod 25 = ((12 + (x.fmod 25).toNat : Nat) : Int) ∧ 12 + (x.fmod 25).toNat ≤ 36 := by
  have h1 := Int.fmod_nonneg_of_pos x (show (0 : Int) < 25 by decide)
  have h2 := Int.fmod_lt_of_pos x (show (0 : Int) < 25 by decide)
  omega
end
end

section
set_option maxRecDepth 100000
set_option maxHeartbeats 8000000
local macro_rules | `(tactic| walk_at $s:str) => `(tactic| k_extra $s)
local macro_rules | `(tactic| k_all) => `(tactic| first | assumption | exact ne_of_allLt (by assumption) (by omega) | fail "k_all")
local macro_rules | `(tactic| omega) => `(tactic| first | (with_reducible first | assumption | exact Int.natCast_nonneg _ | exact Nat.le_of_lt (by assumption) | exact Int.le_of_lt (by assumption) | exact Nat.le_trans (by assumption) (by decide)) | lia | fail "no cheap end")
theorem div3 (w : World) (loose : List Str) (mean : ExcName → Option Value) (mg mb : Str → Option Value) (k : Nat)
   (h2 : ∀ (a b n : Int) (ta tb tn : Tok), Call w loose mean mg mb 21 [.int a ta, .int b tb, .int n tn] (2 * k + 2) (100 * k + 100) (fun _ => Pre2 k a b n) (PostQ a b))
   (a12 a3 b b1 b2 n : Int) (t1 t2 t3 t4 t5 t6 : Tok) :
   Call w loose mean mg mb 28 [.int a12 t1, .int a3 t2, .int b t3, .int b1 t4, .int b2 t5, .int n t6] (2 * k + 3) (100 * k + 150) (fun _ => Pre3 k a12 a3 b b1 b2 n) (PostQ (a12 * 2 ^ n.toNat + a3) b) := by
  unfold Call
  w_top off
  k_fill
  intro dp un gd cn cs adr ccd cl outer A₀ base h₀ L m news s Q E B F X N T hk hd hu hpre hret
  have hn0 : 0 ≤ n := Int.le_of_lt hpre.1
  k_with_none
  k_with "binaryOp LShift int int" => refine lshift_int hn0 (by first | exact d3_one hpre | exact d3_b1 hpre | exact d3_r2 hpre | exact d3_r1 hpre (by assumption)) ?_
  k_with "binaryOp RShift int int" => refine rshift_int hn0 ?_
  k_with "binaryOp Mult int int" => refine PyProof.Rows.mul_int ?_ (hm := by first | exact d3_m1 hpre | exact d3_m2 hpre (by assumption))
  k_with "call ref" => (refine' Call.use (h2 _ _ _ _ _ _) ?k1 ?k2 ?k3 ?k4 ?k5 ?k6 ?k7 ?k8 ?k9 ?_; (case k1 => k_asm); (case k2 => k_asm); (case k3 => k_asm); (case k4 => k_asm); (case k5 => k_asm); (case k6 => rfl); (case k7 => simp only [depth_deeper]; omega); (case k8 => simp only [units_deeper]; omega); (case k9 => exact d3_pre2 hpre (by assumption)); rintro r9 news9 h9 tk9 F9 N9 ⟨t9, u9, v9, c9, rfl, l9, rfl⟩)
  k_with "exec While Compare cons nil" => k_while_given ["b"] (fun b script q r => W3 (a12 * 2 ^ n.toNat + a3) b q r) (fun b script q r => (-r).toNat) "q" "r"
  k_with "state" => first | exact w3_one hpre (by assumption) | exact w3_two hpre | exact w3_turn' (by assumption) (by assumption)
  k_with "measure" => exact w3_less (by assumption) (by assumption)
  refine wpAny_call ?_
  k_dflt ktr_enter
  refine hide_around ?_
  intro A1
  k_steps
  all_goals exact postQ_end hret (by assumption) (by assumption) (List.Mem.head _) (fun p hp => .tail _ (.tail _ hp)) (And.right (by assumption)) (w3_end (by assumption) (by assumption))
theorem div2 (w : World) (loose : List Str) (mean : ExcName → Option Value) (mg mb : Str → Option Value) (k : Nat)
   (h3 : ∀ k', k = k' + 1 → ∀ (a12 a3 b b1 b2 n : Int) (t1 t2 t3 t4 t5 t6 : Tok), Call w loose mean mg mb 28 [.int a12 t1, .int a3 t2, .int b t3, .int b1 t4, .int b2 t5, .int n t6] (2 * k' + 3) (100 * k' + 150) (fun _ => Pre3 k' a12 a3 b b1 b2 n) (PostQ (a12 * 2 ^ n.toNat + a3) b))
   (a b n : Int) (ta tb tn : Tok) :
   Call w loose mean mg mb 21 [.int a ta, .int b tb, .int n tn] (2 * k + 2) (100 * k + 100) (fun _ => Pre2 k a b n) (PostQ a b) := by
  unfold Call
  w_top off
  k_fill
  intro dp un gd cn cs adr ccd cl outer A₀ base h₀ L m news s Q E B F X N T hk hd hu hpre hret
  by_cases hb : (Builtin.Int.intBits a : Int) - n ≤ 4000
  · k_with_none
    k_with "call builtin:divmod" => (refine divmod_K (by k_asm) (by k_asm) (p2_b0 hpre) (Or.inl (p2_np hpre hb)) ?_; intro D9 h9 t9 u9 tk9 F9 N9 l9; (try k_sweep))
    refine wpAny_call ?_
    k_dflt ktr_enter
    refine hide_around ?_
    intro A1
    k_steps
    all_goals exact postQ_end hret (by assumption) (by assumption) (List.Mem.head _) (fun p hp => .tail _ hp) (by assumption) (p2_dm hpre)
  · obtain ⟨k', rfl⟩ := p2_k hpre hb
    replace h3 := h3 k' rfl
    k_with_none
    k_with "inplaceOp LShift int int" => k_dflt first
      | refine ilshift_int (by decide) (p2_sa hpre) ?_
      | refine ilshift_int (by decide) (p2_sb hpre) ?_
    refine wpAny_call ?_
    k_dflt ktr_enter
    refine hide_around ?_
    intro A1
    repeat' ((fail_if_success (with_reducible show wpAny _ _ (exec (Stmt.If (Expr.Name _ _) _ _ _) _) _ _ _)); (first | omega | (k_unfold; (try dsimp only)) | (k_end; wrow_close) | walk1 | (dsimp only; walk1) | (leave1; walk_say "STEP leave1"; try dsimp only) | fail "no step"))
    k_dflt (refine' exec_then (JD k' a b news) ?zF ?zh ?_; (case zF => k_asm))
    · k_steps
      · exact ExitQ.mk (by assumption) (by assumption) ⟨_, _, _, _, _, _, _, _, rfl, rfl, rfl, rfl, rfl, p2_odd hpre (by assumption), fun h => absurd h (by assumption), fun _ => odd_fin hpre (by assumption)⟩
      · exact ExitQ.mk (by assumption) (by assumption) ⟨_, _, _, _, _, _, _, _, rfl, rfl, rfl, rfl, rfl, p2_even hpre (by assumption), fun _ _ _ h => h, fun h => absurd (by assumption) h⟩
    · rintro h8 tk8 m8 nx8 F8 N8 ⟨a', b', n', pd, ta', tb', tn', tp', rfl, e1, e2, e3, e4, hE, even, odd⟩
      replace F8 := Fr.as F8 (put_eq e1 (put_eq e2 (put_eq e3 (put_eq e4 rfl))))
      k_sweep
      try k_fold
      k_with_none
      k_with "call ref" => (refine' Call.use (h3 _ _ _ _ _ _ _ _ _ _ _ _) ?k1 ?k2 ?k3 ?k4 ?k5 ?k6 ?k7 ?k8 ?k9 ?_; (case k1 => k_asm); (case k2 => k_asm); (case k3 => k_asm); (case k4 => k_asm); (case k5 => k_asm); (case k6 => rfl); (case k7 => simp only []; omega); (case k8 => simp only []; omega); (case k9 => k_dflt first | exact e2_pre1 hE | exact e2_pre2 hE); rintro r9 news9 h9 tk9 F9 N9 ⟨t9, u9, v9, c9, rfl, l9, rfl⟩)
      k_with "binaryOp LShift int int" => k_dflt (refine lshift_int (e2_h0 hE) (by first | exact e2_s1 hE | exact e2_s2 hE) ?_)
      k_with "inplaceOp RShift int int" => k_dflt refine irshift_int (by decide) ?_
      k_with "binaryOp RShift int int" => k_dflt refine rshift_int (by first | decide | exact e2_n0 hE | exact e2_h0 hE) ?_
      k_steps
      · exact postQ_end hret (by assumption) (by assumption) (List.Mem.head _) (fun p hp => .tail _ (.tail _ (.tail _ (.tail _ hp)))) (And.right (And.right (And.right (by assumption)))) (odd (by assumption) _ _ (e2_all hE))
      · exact postQ_end hret (by assumption) (by assumption) (List.Mem.head _) (fun p hp => .tail _ (.tail _ (.tail _ (.tail _ hp)))) (And.right (And.right (And.right (by assumption)))) (even (by first | assumption | exact Decidable.not_not.mp (by assumption)) _ _ (e2_all hE))
theorem div_all (w : World) (loose : List Str) (mean : ExcName → Option Value) (mg mb : Str → Option Value) : ∀ (k : Nat) (a b n : Int) (ta tb tn : Tok),
    Call w loose mean mg mb 21 [.int a ta, .int b tb, .int n tn] (2 * k + 2) (100 * k + 100) (fun _ => Pre2 k a b n) (PostQ a b) := by
  intro k
  induction k with
  | zero => exact fun a b n ta tb tn => div2 w loose mean mg mb 0 (fun k' e => by omega) a b n ta tb tn
  | succ k ih => exact fun a b n ta tb tn => div2 w loose mean mg mb (k + 1) (fun k' e => by
      have e' : k' = k := by omega
      subst e'
      exact fun a12 a3 b b1 b2 n t1 t2 t3 t4 t5 t6 => div3 w loose mean mg mb k' ih a12 a3 b b1 b2 n t1 t2 t3 t4 t5 t6) a b n ta tb tn
theorem siftdown_c (w : World) (loose : List Str) (mean : ExcName → Option Value) (mg mb : Str → Option Value) (d : Addr) (xs : List It) (n : Nat) (rest : List (Addr × Obj)) (start pos : Nat) (ts tp : Tok) :
   Call w loose mean mg mb 84 [.ref d, .int start ts, .int pos tp] 1 8
    (fun news => news = (d, listOf (refs xs) n) :: rest ∧ (∀ p ∈ rest, p.1 ≠ d) ∧ (∀ it ∈ xs, Held rest it) ∧ pos < xs.length ∧ xs.length < 1000)
    (fun _ r news' => r = .none ∧ ∃ n', news' = (d, listOf (refs (siftdown ltI xs start pos)) n') :: rest) := by
  unfold Call
  w_top off
  k_fill
  intro dp un gd cn cs adr ccd cl outer A₀ base h₀ L m news s Q E B F X N T hk hd hu hpre hret
  obtain ⟨rfl, hne, hheld, hpos, hlen⟩ := hpre
  k_with_none
  k_with "subscriptTail Name Name ref int" => (k_dflt (refine' it_get ?a1 ?a2 ?a3 ?a4 ?_ ?a5 ?a6; (case a1 => k_asm); (case a2 => omega); (case a3 => omega); (case a4 => first | omega | (simp only [Int.toNat_natCast]; omega)); (case a5 => with_unfolding_all rfl); (case a6 => (intro _; with_unfolding_all rfl)); intro it9 hit9))
  refine wpAny_call ?_
  k_dflt ktr_enter
  refine hide_around ?_
  intro A1
  repeat' ((fail_if_success (with_reducible show wpAny _ _ (exec (Stmt.While _ _ _ _) _) _ _ _)); (first | (k_unfold; (try dsimp only)) | (k_end; wrow_close) | walk1 | (dsimp only; walk1) | (leave1; walk_say "STEP leave1"; try dsimp only) | fail "no step"))
  (k_dflt (refine' While_inv2 (n₀ := pos) (fun j m' nx => ∃ (ys : List It) (p : Nat) (t : Tok), j = p ∧ nx = (d, listOf (refs ys) n) :: rest ∧ ys.length = xs.length ∧ (∀ it ∈ ys, Held rest it) ∧ p < xs.length ∧ sdLoop ltI it9 start p ys p = siftdown ltI xs start pos ∧ m' (Str.ofString "heap") = some (.ref d) ∧ m' (Str.ofString "startpos") = some (.int start ts) ∧ m' (Str.ofString "pos") = some (.int p t) ∧ m' (Str.ofString "newitem") = some (.ref it9.1)) ?a1 ?a2 ?a3 ?_ ?a4; (case a1 => k_asm); (case a2 => k_asm); (case a4 => passes_own); (case a3 => exact ⟨xs, pos, tp, rfl, rfl, rfl, hheld, hpos, by simp only [Int.toNat_natCast] at hit9; simp only [siftdown, hit9], rfl, rfl, rfl, rfl⟩)); (rintro j9 m9 nx9 h9 tk9 F9 N9 ⟨ys, p9, t9, rfl, rfl, hl9, hh9, hp9, hR9, e1, e2, e3, e4⟩; refine hide_while ?_; intro Wx Qx hWx hQx; replace F9 := Fr.as F9 (put_eq e1 (put_eq e2 (put_eq e3 (put_eq e4 rfl)))); k_sweep; try k_fold))
  have hH := hheld it9 (List.mem_of_getElem? hit9)
  k_with "binaryOp RShift int int" => (k_dflt refine rshift_as (((j9 - 1) / 2 : Nat) : Int) (by decide) (half_idx (by omega)) ?_)
  k_with "subscriptTail Name Name ref int" => (k_dflt (refine' it_get ?a1 ?a2 ?a3 ?a4 ?_ ?a5 ?a6; (case a1 => k_asm); (case a2 => omega); (case a3 => omega); (case a4 => (simp only [Int.toNat_natCast]; omega)); (case a5 => with_unfolding_all rfl); (case a6 => (intro _; with_unfolding_all rfl)); intro it8 hit8))
  k_with "compareOp Lt ref ref" => (k_dflt (refine it_lt (by k_asm) hH (hh9 _ (List.mem_of_getElem? hit8)) (by show un + 3 < cLine; omega) ?_))
  k_with "setItem ref int ref" => (k_dflt (refine' it_set ?a1 ?a2 hne ?a3 ?a4 ?a5 ?_; (case a1 => k_asm); (case a2 => k_asm); (case a3 => omega); (case a4 => omega); (case a5 => (simp only [Int.toNat_natCast]; omega)); intro h8 F8 N8; k_sweep))
  k_steps
  · simp only [Int.toNat_natCast] at *
    exact hWx _ _ (while_cont (n' := (j9 - 1) / 2) (by assumption) (by assumption) (by omega) ⟨ys.set j9 it8, (j9 - 1) / 2, _, rfl, rfl, by simpa using hl9, held_set hh9 (hh9 _ (List.mem_of_getElem? hit8)) _, by omega, by rw [← hR9]; exact (sd_step ltI (by omega) hit8 (by assumption)).symm, rfl, rfl, rfl, rfl⟩)
  · refine hWx _ _ (while_break ?_)
    k_steps
    simp only [Int.toNat_natCast] at *
    exact hret _ _ _ _ (by assumption) (by assumption) ⟨rfl, n, by rw [← hR9, sd_stop2 ltI hit8 (by assumption)]⟩
  · refine hQx _ ?_
    k_steps
    simp only [Int.toNat_natCast] at *
    exact hret _ _ _ _ (by assumption) (by assumption) ⟨rfl, n, by rw [← hR9, sd_stop ltI (by omega)]⟩
theorem siftup_c (w : World) (loose : List Str) (mean : ExcName → Option Value) (mg mb : Str → Option Value) (d : Addr) (xs : List It) (n : Nat) (rest : List (Addr × Obj)) (pos : Nat) (tp : Tok) :
   Call w loose mean mg mb 91 [.ref d, .int pos tp] 2 16
    (fun news => news = (d, listOf (refs xs) n) :: rest ∧ (∀ p ∈ rest, p.1 ≠ d) ∧ (∀ it ∈ xs, Held rest it) ∧ pos < xs.length ∧ xs.length < 1000)
    (fun _ r news' => r = .none ∧ ∃ n', news' = (d, listOf (refs (siftup ltI xs pos)) n') :: rest) := by
  unfold Call
  w_top off
  k_fill
  intro dp un gd cn cs adr ccd cl outer A₀ base h₀ L m news s Q E B F X N T hk hd hu hpre hret
  obtain ⟨rfl, hne, hheld, hpos, hlen⟩ := hpre
  k_with_none
  k_with "call builtin:len" => (k_dflt (refine it_len (by k_asm) (by omega) ?_; intro t7 tk7))
  k_with "subscriptTail Name Name ref int" => (k_dflt (refine' it_get ?a1 ?a2 ?a3 ?a4 ?_ ?a5 ?a6; (case a1 => k_asm); (case a2 => omega); (case a3 => omega); (case a4 => first | omega | (simp only [Int.toNat_natCast]; omega)); (case a5 => with_unfolding_all rfl); (case a6 => (intro _; with_unfolding_all rfl)); intro it9 hit9))
  refine wpAny_call ?_
  k_dflt ktr_enter
  refine hide_around ?_
  intro A1
  repeat' ((fail_if_success (with_reducible show wpAny _ _ (exec (Stmt.While _ _ _ _) _) _ _ _)); (first | (k_unfold; (try dsimp only)) | (k_end; wrow_close) | walk1 | (dsimp only; walk1) | (leave1; walk_say "STEP leave1"; try dsimp only) | fail "no step"))
  have hH := hheld it9 (List.mem_of_getElem? hit9)
  k_dflt (refine' While_inv2 (n₀ := xs.length - pos) (fun j m' nx => ∃ (ys : List It) (p f : Nat) (q : Int) (t t' : Tok), q = (p : Int) ∧ j = xs.length - p ∧ nx = (d, listOf (refs ys) n) :: rest ∧ ys.length = xs.length ∧ (∀ it ∈ ys, Held rest it) ∧ p < xs.length ∧ suLoop ltI f ys p = suLoop ltI xs.length xs pos ∧ ys.length ≤ f + p ∧ m' (Str.ofString "heap") = some (.ref d) ∧ m' (Str.ofString "startpos") = some (.int pos tp) ∧ m' (Str.ofString "endpos") = some (.int xs.length t7) ∧ m' (Str.ofString "pos") = some (.int q t) ∧ m' (Str.ofString "childpos") = some (.int (2 * q + 1) t') ∧ m' (Str.ofString "newitem") = some (.ref it9.1)) ?a1 ?a2 ?a3 ?_ ?a4; (case a1 => k_asm); (case a2 => k_asm); (case a4 => passes_own); (case a3 => exact ⟨xs, pos, xs.length, _, tp, _, rfl, rfl, rfl, rfl, hheld, hpos, rfl, by omega, rfl, rfl, rfl, rfl, rfl, rfl⟩))
  rintro j9 m9 nx9 h9 tk9 F9 N9 ⟨ys, p9, f9, q9, t9, t8, rfl, rfl, rfl, hl9, hh9, hp9, hR9, hf9, e1, e2, e3, e4, e5, e6⟩
  refine hide_while ?_
  intro Wx Qx hWx hQx
  replace F9 := Fr.as F9 (put_eq e1 (put_eq e2 (put_eq e3 (put_eq e4 (put_eq e5 (put_eq e6 rfl))))))
  k_sweep
  try k_fold
  k_with "subscriptTail Name Name ref int" => (k_dflt (refine' it_get ?a1 ?a2 ?a3 ?a4 ?_ ?a5 ?a6; (case a1 => k_asm); (case a2 => omega); (case a3 => omega); (case a4 => omega); (case a5 => with_unfolding_all rfl); (case a6 => (intro _; with_unfolding_all rfl)); intro it8 hit8))
  k_with "compareOp Lt ref ref" => (k_dflt (refine it_lt (by k_asm) (hh9 _ (List.mem_of_getElem? (by assumption))) (hh9 _ (List.mem_of_getElem? (by assumption))) (by show un + 3 < cLine; omega) ?_))
  k_with "setItem ref int ref" => (k_dflt (refine' it_set ?a1 ?a2 hne ?a3 ?a4 ?a5 ?_; (case a1 => k_asm); (case a2 => k_asm); (case a3 => omega); (case a4 => omega); (case a5 => (simp only [Int.toNat_natCast]; omega)); intro h8 F8 N8; k_sweep))
  repeat' ((fail_if_success (with_reducible show wpAny _ _ (exec (Stmt.If _ _ _ _) _) _ _ _)); (first | (k_unfold; (try dsimp only)) | (k_end; wrow_close) | walk1 | (dsimp only; walk1) | (leave1; walk_say "STEP leave1"; try dsimp only) | fail "no step"))
  · k_dflt (refine' exec_then (JU ys p9 ((d, listOf (refs ys) n) :: rest) (.ref d) (.int pos tp) (.int xs.length t7) (.int p9 t9) (.ref it9.1)) ?zF ?zh ?_; (case zF => k_asm))
    · k_steps
      · exact ExitQ.mk (by assumption) (by assumption) ⟨2 * p9 + 1, 2 * (p9 : Int) + 1, _, rfl, by omega, suC_left_i (by assumption) (by assumption) (by assumption) (by omega) (by omega), by omega, by omega, rfl, rfl, rfl, rfl, rfl, rfl⟩
      · exact ExitQ.mk (by assumption) (by assumption) ⟨2 * p9 + 2, 2 * (p9 : Int) + 1 + 1, _, rfl, by omega, suC_right_i (by assumption) (by assumption) (by assumption) (by omega) (by omega), by omega, by omega, rfl, rfl, rfl, rfl, rfl, rfl⟩
      · exact ExitQ.mk (by assumption) (by assumption) ⟨2 * p9 + 1, 2 * (p9 : Int) + 1, _, rfl, by omega, suC_one ltI (by omega), by omega, by omega, rfl, rfl, rfl, rfl, rfl, rfl⟩
    · rintro h8 tk8 m8 nx8 F8 N8 ⟨c, ci, tc, rfl, rfl, hc, hlt, hgt, e1, e2, e3, e4, e5, e6⟩
      replace F8 := Fr.as F8 (put_eq e1 (put_eq e2 (put_eq e3 (put_eq e4 (put_eq e5 (put_eq e6 rfl))))))
      k_sweep
      k_steps
      rw [Int.toNat_natCast] at hit8
      obtain ⟨f', hR', hf'⟩ := su_step ltI hR9 hf9 (by omega) hc hgt hit8
      exact hWx _ _ (while_next (n' := xs.length - c) (by assumption) (by assumption) (by omega) ⟨ys.set p9 it8, c, f', (c : Int), _, _, rfl, rfl, rfl, by simpa using hl9, held_set hh9 (hh9 _ (List.mem_of_getElem? hit8)) _, by omega, hR', hf', rfl, rfl, rfl, rfl, rfl, rfl⟩)
  · refine hQx _ ?_
    repeat' ((fail_if_success (with_reducible show wpAny _ _ (call (Value.ref _) _) _ _ _)); (first | (k_unfold; (try dsimp only)) | (k_end; wrow_close) | walk1 | (dsimp only; walk1) | (leave1; walk_say "STEP leave1"; try dsimp only) | fail "no step"))
    simp only [Int.toNat_natCast] at hit9 N8
    have eR : siftdown ltI (ys.set p9 it9) pos p9 = siftup ltI xs pos := by
      rw [su_stop ltI (by omega)] at hR9
      simp only [siftup, hit9, ← hR9]
    k_dflt (refine' Call.use (siftdown_c w loose mean mg mb d (ys.set p9 it9) n rest pos p9 tp t9) ?k1 ?k2 ?k3 ?k4 ?k5 ?k6 ?k7 ?k8 ?k9 ?_; (case k1 => k_asm); (case k2 => k_asm); (case k3 => k_asm); (case k4 => k_asm); (case k5 => k_asm); (case k6 => rfl); (case k7 => exact dlt hd (by decide)); (case k8 => exact dlt hu (by decide)); (case k9 => exact ⟨rfl, hne, held_set hh9 hH _, by rw [List.length_set]; omega, by rw [List.length_set]; omega⟩))
    rintro r9 news9 h9 tk9 F9 N9 ⟨rfl, n9, rfl⟩
    rw [eR] at N9
    k_steps
    exact hret _ _ _ _ (by assumption) (by assumption) ⟨rfl, n9, rfl⟩
theorem heappush_c (w : World) (loose : List Str) (mean : ExcName → Option Value) (mg mb : Str → Option Value) (d : Addr) (xs : List It) (it : It) (n : Nat) (rest : List (Addr × Obj)) :
   Call w loose mean mg mb 63 [.ref d, .ref it.1] 2 16
    (fun news => news = (d, listOf (refs xs) n) :: rest ∧ (∀ p ∈ rest, p.1 ≠ d) ∧ (∀ it ∈ xs, Held rest it) ∧ Held rest it ∧ xs.length < 900)
    (fun _ r news' => r = .none ∧ ∃ n', news' = (d, listOf (refs (siftdown ltI (xs ++ [it]) 0 xs.length)) n') :: rest) := by
  unfold Call
  w_top off
  k_fill
  intro dp un gd cn cs adr ccd cl outer A₀ base h₀ L m news s Q E B F X N T hk hd hu hpre hret
  obtain ⟨rfl, hne, hheld, hit, hlen⟩ := hpre
  have hheld' : ∀ x ∈ xs ++ [it], Held rest x := fun x hx => (List.mem_append.mp hx).elim (hheld x) fun h => by rw [List.mem_singleton.mp h]; exact hit
  k_with_none
  k_with "call builtin:list.append" => (k_dflt (refine it_append (by k_asm) (by k_asm) hne (by omega) ?_; intro h7 F7 N7; k_sweep))
  k_with "call builtin:len" => (k_dflt (refine it_len (by k_asm) (by rw [List.length_append]; simp only [List.length_singleton]; omega) ?_; intro t7 tk7))
  refine wpAny_call ?_
  k_dflt ktr_enter
  refine hide_around ?_
  intro A1
  k_steps
  have e : (((xs ++ [it]).length : Nat) : Int) - 1 = (xs.length : Int) := by simp
  rw [e]
  k_dflt (refine' Call.use (siftdown_c w loose mean mg mb d (xs ++ [it]) (n + 1) rest 0 xs.length _ _) ?k1 ?k2 ?k3 ?k4 ?k5 ?k6 ?k7 ?k8 ?k9 ?_; (case k1 => k_asm); (case k2 => k_asm); (case k3 => k_asm); (case k4 => k_asm); (case k5 => k_asm); (case k6 => rfl); (case k7 => exact dlt hd (by decide)); (case k8 => exact dlt hu (by decide)); (case k9 => exact ⟨rfl, hne, hheld', by simp, by simp; omega⟩))
  rintro r9 news9 h9 tk9 F9 N9 ⟨rfl, n9, rfl⟩
  k_steps
  exact hret _ _ _ _ (by assumption) (by assumption) ⟨rfl, n9, rfl⟩
theorem heappop_c (w : World) (loose : List Str) (mean : ExcName → Option Value) (mg mb : Str → Option Value) (d : Addr) (ys : List It) (it : It) (n : Nat) (rest : List (Addr × Obj)) :
   Call w loose mean mg mb 70 [.ref d] 3 24
    (fun news => news = (d, listOf (refs (ys ++ [it])) n) :: rest ∧ (∀ p ∈ rest, p.1 ≠ d) ∧ (∀ x ∈ ys ++ [it], Held rest x) ∧ ys.length < 900)
    (fun _ r news' => (ys = [] ∧ r = .ref it.1 ∧ ∃ n', news' = (d, listOf (refs []) n') :: rest) ∨ (∃ x0, ys[0]? = some x0 ∧ r = .ref x0.1 ∧ ∃ n', news' = (d, listOf (refs (siftup ltI (ys.set 0 it) 0)) n') :: rest)) := by
  unfold Call
  w_top off
  k_fill
  intro dp un gd cn cs adr ccd cl outer A₀ base h₀ L m news s Q E B F X N T hk hd hu hpre hret
  obtain ⟨rfl, hne, hheld, hlen⟩ := hpre
  have hit : Held rest it := hheld it (by simp)
  have hys : ∀ x ∈ ys, Held rest x := fun x hx => hheld x (List.mem_append_left _ hx)
  k_with_none
  k_with "call builtin:list.pop" => (k_dflt (refine it_pop (by k_asm) (by k_asm) hne (by omega) ?_; intro h7 F7 N7; k_sweep))
  k_with "truthy ref" => (k_dflt (refine it_truthy (by k_asm) (by omega) ?_; intro tk7))
  k_with "subscriptTail Name Constant ref int" => (k_dflt (refine' it_get ?a1 ?a2 ?a3 ?a4 ?_ ?a5 ?a6; (case a1 => k_asm); (case a2 => omega); (case a3 => omega); (case a4 => exact pos_of_nonempty (by assumption)); (case a5 => with_unfolding_all rfl); (case a6 => (intro _; with_unfolding_all rfl)); intro it9 hit9))
  refine wpAny_call ?_
  k_dflt ktr_enter
  refine hide_around ?_
  intro A1
  k_with "setItem ref int ref" => (k_dflt (refine' it_set ?a1 ?a2 hne ?a3 ?a4 ?a5 ?_; (case a1 => k_asm); (case a2 => k_asm); (case a3 => omega); (case a4 => omega); (case a5 => exact pos_of_nonempty (by assumption)); intro h8 F8 N8; k_sweep))
  k_steps
  · have e0 : ys = [] := List.isEmpty_iff.mp (by assumption)
    exact hret _ _ _ _ (by assumption) (by assumption) (.inl ⟨e0, rfl, n + 1, by rw [e0]⟩)
  · have hl : 0 < ys.length := pos_of_nonempty (by assumption)
    k_dflt (refine' Call.use (siftup_c w loose mean mg mb d (ys.set 0 it) (n + 1) rest 0 _) ?k1 ?k2 ?k3 ?k4 ?k5 ?k6 ?k7 ?k8 ?k9 ?_; (case k1 => k_asm); (case k2 => k_asm); (case k3 => k_asm); (case k4 => k_asm); (case k5 => k_asm); (case k6 => rfl); (case k7 => exact dlt hd (by decide)); (case k8 => exact dlt hu (by decide)); (case k9 => exact ⟨rfl, hne, held_set hys hit _, by simpa using hl, by simp; omega⟩))
    rintro r9 news9 h9 tk9 F9 N9 ⟨rfl, n9, rfl⟩
    k_steps
    exact hret _ _ _ _ (by assumption) (by assumption) (.inr ⟨it9, hit9, rfl, n9, rfl⟩)
theorem heapify_c (w : World) (loose : List Str) (mean : ExcName → Option Value) (mg mb : Str → Option Value) (d : Addr) (xs : List It) (n : Nat) (rest : List (Addr × Obj)) :
   Call w loose mean mg mb 77 [.ref d] 3 24
    (fun news => news = (d, listOf (refs xs) n) :: rest ∧ (∀ p ∈ rest, p.1 ≠ d) ∧ (∀ it ∈ xs, Held rest it) ∧ xs.length < 900)
    (fun _ r news' => r = .none ∧ ∃ n', news' = (d, listOf (refs (hpfy ltI xs (xs.length / 2))) n') :: rest) := by
  unfold Call
  w_top off
  k_fill
  intro dp un gd cn cs adr ccd cl outer A₀ base h₀ L m news s Q E B F X N T hk hd hu hpre hret
  obtain ⟨rfl, hne, hheld, hlen⟩ := hpre
  k_with_none
  k_with "call builtin:len" => (k_dflt (refine it_len (by k_asm) (by omega) ?_; intro t7 tk7))
  k_with "binaryOp FloorDiv int int" => (k_dflt (refine floordiv_as ((xs.length / 2 : Nat) : Int) (by decide) (Or.inl (PyProof.noPylong_of_log2 (by decide +kernel))) (half_len _) ?_))
  k_with "call type:reversed" => (k_dflt (refine reversed_range_K (by k_asm) (by k_asm) (by k_asm) (by omega) (by omega) ?_; intro D7 h7 F7 N7 l7))
  refine wpAny_call ?_
  k_dflt ktr_enter
  refine hide_around ?_
  intro A1
  repeat' ((fail_if_success (with_reducible show wpAny _ _ (pyIter _) _ _ _)); (first | (k_unfold; (try dsimp only)) | (k_end; wrow_close) | walk1 | (dsimp only; walk1) | (leave1; walk_say "STEP leave1"; try dsimp only) | fail "no step"))
  k_dflt (refine' for_rangeIt (n := xs.length / 2) (fun i m' nx => ∃ (ys : List It) (n' : Nat), nx = (d, listOf (refs ys) n') :: rest ∧ ys.length = xs.length ∧ (∀ it ∈ ys, Held rest it) ∧ hpfy ltI ys (xs.length / 2 - i) = hpfy ltI xs (xs.length / 2) ∧ m' (Str.ofString "x") = some (.ref d)) ?a1 ?a2 ?a3 ?a4 ?a5 ?_ ?_; (case a1 => rfl); (case a2 => k_asm); (case a3 => k_asm); (case a4 => assumption); (case a5 => exact ⟨xs, n, rfl, rfl, hheld, by rfl, rfl⟩))
  · rintro i9 t9 m9 nx9 h9 tk9 own9 hi9 ho9 ⟨ys, n9, rfl, hl9, hh9, hR9, e1⟩ F9 N9
    refine hide ?_
    intro Qx hQx
    dsimp only [envOf] at F9 N9
    have ev : ((xs.length / 2 : Nat) : Int) - 1 + (i9 : Int) * -1 = ((xs.length / 2 - 1 - i9 : Nat) : Int) := by omega
    rw [ev] at F9
    replace F9 := Fr.as F9 (put_in (put_eq e1 rfl))
    simp only [List.cons_append] at N9
    k_sweep
    try k_fold
    k_with "call ref" => (k_dflt (refine' Call.use (siftup_c w loose mean mg mb d ys n9 (rest ++ own9) (xs.length / 2 - 1 - i9) t9) ?k1 ?k2 ?k3 ?k4 ?k5 ?k6 ?k7 ?k8 ?k9 ?_; (case k1 => k_asm); (case k2 => k_asm); (case k3 => k_asm); (case k4 => k_asm); (case k5 => k_asm); (case k6 => rfl); (case k7 => exact dlt hd (by decide)); (case k8 => exact dlt hu (by decide)); (case k9 => exact ⟨rfl, ne_own hne ho9, held_more hh9, by omega, by omega⟩)); (rintro r8 news8 h8 tk8 F8 N8 ⟨rfl, n8, rfl⟩; k_sweep))
    k_steps
    refine hQx _ _ (turn_end ((d, listOf (refs (siftup ltI ys (xs.length / 2 - 1 - i9))) n8) :: rest) (by assumption) N8 (fun p hp => ?_) (fun p hp => List.mem_cons_of_mem _ (List.mem_append_right _ hp)) ho9 ⟨siftup ltI ys (xs.length / 2 - 1 - i9), n8, rfl, by rw [siftup_length, hl9], fun it hit => hh9 it (mem_siftup ltI hit), ?_, rfl⟩)
    · rcases List.mem_cons.mp hp with rfl | hp
      · exact List.mem_cons_self ..
      · exact List.mem_cons_of_mem _ (List.mem_append_left _ hp)
    · rw [← hR9]
      have e2 : xs.length / 2 - i9 = (xs.length / 2 - 1 - i9) + 1 := by omega
      have e3 : xs.length / 2 - (i9 + 1) = xs.length / 2 - 1 - i9 := by omega
      rw [e2, e3]; rfl
  · rintro m9 nx9 h9 tk9 ⟨ys, n9, rfl, hl9, hh9, hR9, e1⟩ F9 N9
    dsimp only [envOf] at F9 N9
    k_sweep
    k_steps
    rw [Nat.sub_self] at hR9
    exact hret _ _ _ _ (by assumption) (by assumption) ⟨rfl, n9, by rw [← hR9]; rfl⟩
theorem i2d (w : World) (loose : List Str) (mean : ExcName → Option Value) (mg mb : Str → Option Value) (a : Int) (n : Nat) (ta tn : Tok) (l30 rest : List (Addr × Obj)) :
   Call w loose mean mg mb 35 [.int a ta, .int n tn] 40 400 (fun news => news = l30 ++ rest ∧ TabSeg 30 ⟨32, 4, 41, 28⟩ (Str.ofString "_int2digits.<locals>.inner") l30 ∧ (∀ p ∈ rest, p.1 ≠ 30) ∧ 0 ≤ a ∧ 0 < n ∧ n ≤ 1100000 ∧ Builtin.Int.intBits a ≤ 1100000)
     (fun _ r news' => ∃ D vs l', r = .ref D ∧ news' = (D, listOf vs.toArray 0) :: (l' ++ rest) ∧ IntsAre vs (digitsOf n a) ∧ AllLt D rest ∧ TabSeg 30 ⟨32, 4, 41, 28⟩ (Str.ofString "_int2digits.<locals>.inner") l') := by
  unfold Call
  w_top off
  k_fill
  intro dp un gd cn cs adr ccd cl outer A₀ base h₀ L m news s Q E B F X N T hk hd hu hpre hret
  obtain ⟨rfl, hseg, hne, ha, hn, hn2, hb⟩ := hpre
  have C := codeHd34 X
  k_with_none
  k_with "binaryOp FloorDiv int int" => (k_dflt (refine floordiv_as ((cnt (Builtin.Int.intBits a) n : Nat) : Int) (by omega) (Or.inl (PyProof.noPylong_small (by omega))) (dig_count hn) ?_))
  k_with "binaryOp Mult ref int" => (k_dflt (refine mul_rep (by k_asm) (by k_asm) (List.Mem.head _) dig_le ?_; intro D7 h7 F7 N7 l7; simp only [AllLt, and_true] at l7; k_sweep))
  have dig_le : cnt (Builtin.Int.intBits a) n ≤ 2 ^ 24 := by
    refine Nat.le_trans (Nat.div_le_self _ _) ?_
    omega
  refine wpAny_call ?_
  k_dflt (refine' code_defC ?k1 ?k2 ?k3 ?k4 ?k5 ?kA ?kF ?kK ?k6 ?k7 ?k8 ?k9 ?kB ?kD ?_ ?c2 ?c3 ?c4; (case kA => exact rfl); (case kF => exact rfl); (case kK => assumption); (case k1 => k_asm); (case k2 => k_asm); (case k3 => k_asm); (case k4 => k_asm); (case k5 => k_asm); (case k6 => k_is); (case k7 => k_is); (case k8 => ktr_room); (case k9 => exact BindsTo.of_eq rfl); (case kB => rfl); (case kD => decide); (case c2 => exact rfl); (case c3 => exact rfl); (case c4 => exact rfl))
  intro g' L' h' tk' cells' FG' F' N' Y' B' X' T' l1; replace l1 := allLt_of l1; k_cells Y'; (try simp only [List.cons_append, List.nil_append] at N'); (try dsimp only); (try k_lift B'); (try k_fold)
  k_steps
  (try dsimp only)
  have hL30 := ltN (seg_lt hseg l1)
  k_dflt (refine' nestDef_K ?d0 ?k0 ?a0 ?_; (case d0 => exact rfl); (case k0 => exact rfl); (case a0 => exact rfl))
  k_dflt (refine' mkfun (front := [_, _, _, _, _]) ?m1 ?m2 ?m3 (C.keeps FG'.keep) rfl hseg ?m6 hne ?m8 ?_; (case m1 => k_asm); (case m2 => k_asm); (case m3 => k_asm); (case m8 => exact rfl); (case m6 => k_all))
  intro f9 fo9 c9 ctv9 doc9 l9 h9 tk9 hfo F9 N9 hit9 hlt9
  simp only [List.cons_append, List.nil_append] at N9 hlt9
  replace hlt9 := allLt_of hlt9
  simp only [AllLt] at hlt9
  k_sweep
  have hq1 : ∀ p ∈ l9 ++ rest, p.1 ≠ L' + 1 + 1 + 1 := hit_ne N9 hit9 (fun p hp => by simp [hp]) (.tail _ (.tail _ (.tail _ (.head _)))) (fun vs e => by rename_i d1 _ _ _ _ _ _ _ _; rw [d1] at e; cases e) (ne_of_allLt (allLt_right l1) (by omega))
  repeat' ((fail_if_success (with_reducible show wpAny _ _ (exec (Stmt.If _ _ _ _) _) _ _ _)); (first | (k_unfold; (try dsimp only)) | (k_end; wrow_close) | walk1 | (dsimp only; walk1) | (leave1; walk_say "STEP leave1"; try dsimp only) | fail "no step"))
  rename_i oI0 oA0 oN dI0 dA0 dN0 lz hz l2 hA oA dA hI oI FI NI dI
  have dN : oN.data = .cell (some (.int n tn)) := dN0
  clear dI0 dA0 dN0
  have inner : ∀ (k : Nat) (x : Int) (lo hi : Nat) (tx tl tr : Tok) (vs : List Value) (ds : List Int) (c : Nat) (rest' : List (Addr × Obj)),
      Call w loose mean mg mb f9 [.int x tx, .int lo tl, .int hi tr] (k + 1) (8 * (k + 1)) (fun news => news = (D7, listOf vs.toArray c) :: rest' ∧ (∀ p ∈ rest', p.1 ≠ D7) ∧ ((f9, fo9) ∈ rest' ∧ (L' + 1 + 1 + 1, oI) ∈ rest' ∧ (L' + 1 + 1, oA) ∈ rest' ∧ (L' + 1, oN) ∈ rest' ∧ ∀ p ∈ l9, p ∈ rest') ∧
        IntsAre vs ds ∧ lo < hi ∧ hi ≤ ds.length ∧ hi - lo ≤ 2 ^ k ∧ n * ds.length ≤ 4000000 ∧ 0 ≤ x ∧ x < 2 ^ (n * (hi - lo)))
        (fun _ r news' => r = .none ∧ ∃ vs', news' = (D7, listOf vs'.toArray c) :: rest' ∧ IntsAre vs' (putDig n ds lo hi x)) := by
    clear hret hseg hne hq1 hlt9 l7 l2 l1 hL30 NI FI FG' B' X' T' hb dig_le ha C
    intro k
    induction k using Nat.strongRecOn with
    | ind k ih =>
    intro x lo hi tx tl tr vs ds c rest'
    unfold Call
    intro dp un gd cn cs adr ccd cl outer A₀ base h₀ L m news s Q E B F X N T hk hd hu hpre hret
    obtain ⟨rfl, hne, ⟨hmf, hmI, hmA, hmN, hml⟩, hints, hlt, hle, hpow, hsz, hx0, hx1⟩ := hpre
    obtain ⟨oc, cvs, ct, rfl, hoc, hcv⟩ := id hit9
    have hmc : (c9, oc) ∈ rest' := hml _ (.tail _ (.head _))
    obtain ⟨mid, sh, up, low, f1, f2, f3, f4, f5, f6, one⟩ := midF (ds := ds) hlt hle hpow hsz hn2 hx0 hx1
    k_with_none
    k_with "eval Name" => (k_dflt first
      | ((with_reducible show wpAny _ _ (eval (Expr.Name (Str.ofString "a_digits") _) _) _ _ _); (refine' nameX_F ?zN ?zc ?zm ?zd ?_ ?za ?zb; (case za => rfl); (case zb => rfl); (case zN => k_asm); (case zc => rfl); (case zm => exact List.Mem.tail _ hmA); (case zd => exact dA)))
      | ((with_reducible show wpAny _ _ (eval (Expr.Name (Str.ofString "n") _) _) _ _ _); (refine' nameX_F ?zN ?zc ?zm ?zd ?_ ?za ?zb; (case za => rfl); (case zb => rfl); (case zN => k_asm); (case zc => rfl); (case zm => exact List.Mem.tail _ hmN); (case zd => exact dN)))
      | ((with_reducible show wpAny _ _ (eval (Expr.Name (Str.ofString "inner") _) _) _ _ _); (refine' nameX_F ?zN ?zc ?zm ?zd ?_ ?za ?zb; (case za => rfl); (case zb => rfl); (case zN => k_asm); (case zc => rfl); (case zm => exact List.Mem.tail _ hmI); (case zd => exact dI))))
    k_with "setItem ref int int" => (k_dflt (refine' ksa_set ?k1 ?k2 (Upd.head hne) hints ?k5 ?k6 ?k7 ?_; (case k1 => k_asm); (case k2 => k_asm); (case k5 => omega); (case k6 => omega); (case k7 => exact idx_fit hle hlt hsz hn); intro h6 F6 N6 i6 _ _; k_sweep))
    k_with "binaryOp RShift int int" => (k_dflt first
      | refine rshift_as (mid : Int) (by decide) f1 ?_
      | refine rshift_as up (Int.natCast_nonneg _) f2 ?_)
    k_with "binaryOp Mult int int" => (k_dflt refine mul_as ((sh : Nat) : Int) f3 f4 ?_)
    k_with "binaryOp LShift int int" => (k_dflt refine lshift_as (up * 2 ^ sh) (Int.natCast_nonneg _) f5 (by rw [Int.toNat_natCast]) ?_)
    k_with "binaryOp BitXor int int" => (k_dflt refine xor_as low f6 ?_)
    k_with "callWith ref" => (k_dflt (refine' callWith_F (FnAt.of (by k_asm) (List.Mem.tail _ hmf)) ?_))
    k_with "FnAt" => (k_dflt exact FnAt.of (by k_asm) (List.Mem.tail _ hmf))
    refine wpAny_call ?_
    subst hfo
    k_dflt (refine' code_nest ?k1 ?k2 ?k3 ?k4 ?k5 ?kA ?kF ?kK ?k6 ?k7 ?k8 ?k9 ?kB ?_ ?c2 ?c3 ?c4 ?c5; (case kA => exact rfl); (case kF => exact rfl); (case kK => assumption); (case k1 => k_asm); (case k2 => k_asm); (case k3 => k_asm); (case k4 => k_asm); (case k5 => k_asm); (case k6 => exact List.Mem.tail _ hmf); (case k7 => exact codeRec_news (by assumption) (List.Mem.tail _ hmc) hoc hcv); (case k8 => ktr_room); (case k9 => exact BindsTo.of_eq rfl); (case c5 => decide); (case kB => exact locs rfl); (case c2 => exact rfl); (case c3 => exact rfl); (case c4 => exact rfl))
    intro g7 L7 h7 FG7 F7 N7 B7 X7 T7
    (try dsimp only)
    (try k_fold)
    repeat' ((fail_if_success (with_reducible show wpAny _ _ (call (Value.ref _) _) _ _ _)); (first | (k_unfold; (try dsimp only)) | (k_end; wrow_close) | walk1 | (dsimp only; walk1) | (leave1; walk_say "STEP leave1"; try dsimp only) | fail "no step"))
    · simp only [Int.toNat_natCast] at i6
      clear f1 f2 f3 f4 f5 f6 one
      have e1 : hi = lo + 1 := by omega
      subst e1
      rw [show lo + 1 - lo = 1 from by omega, Nat.mul_one] at hx1
      exact hret _ _ _ _ (by assumption) (by assumption) ⟨rfl, _, rfl, by rw [← put_one (by omega) hx0 hx1]; exact i6⟩
    · obtain ⟨k', m1, m2, m3, m4, m5, l0, l1', u0, u1', e7⟩ := one (by omega)
      clear f1 f2 f3 f4 f5 f6 one
      k_dflt (refine' Call.use (ih k' (Nat.lt_succ_self k') low lo mid _ _ _ vs ds c rest') ?k1 ?k2 ?k3 ?k4 ?k5 ?k6 ?k7 ?k8 ?k9 ?_; (case k1 => k_asm); (case k2 => k_asm); (case k3 => k_asm); (case k4 => k_asm); (case k5 => k_asm); (case k6 => rfl); (case k7 => exact dlk hd); (case k8 => exact dlu hu (by decide)); (case k9 => exact ⟨rfl, hne, ⟨hmf, hmI, hmA, hmN, hml⟩, hints, m1, m3, m4, hsz, l0, l1'⟩))
      rintro r8 news8 h8 tk8 F8 N8 ⟨rfl, vs8, rfl, i8⟩
      k_sweep
      repeat' ((fail_if_success (with_reducible show wpAny _ _ (call (Value.ref _) _) _ _ _)); (first | (k_unfold; (try dsimp only)) | (k_end; wrow_close) | walk1 | (dsimp only; walk1) | (leave1; walk_say "STEP leave1"; try dsimp only) | fail "no step"))
      k_dflt (refine' Call.use (ih k' (Nat.lt_succ_self k') up mid hi _ _ _ vs8 (putDig n ds lo mid low) c rest') ?k1 ?k2 ?k3 ?k4 ?k5 ?k6 ?k7 ?k8 ?k9 ?_; (case k1 => k_asm); (case k2 => k_asm); (case k3 => k_asm); (case k4 => k_asm); (case k5 => k_asm); (case k6 => rfl); (case k7 => exact dlk hd); (case k8 => exact dlu hu (by decide)); (case k9 => exact ⟨rfl, hne, ⟨hmf, hmI, hmA, hmN, hml⟩, i8, m2, by rw [putDig_length]; exact hle, m5, by rw [putDig_length]; exact hsz, u0, u1'⟩))
      rintro r8 news8 h8 tk8 F8 N8 ⟨rfl, vs7, rfl, i7⟩
      rw [e7] at i7
      k_sweep
      k_steps
      exact hret _ _ _ _ (by assumption) (by assumption) ⟨rfl, _, rfl, i7⟩
  have hq2 : ∀ p ∈ l9 ++ rest, p.1 ≠ D7 := hit_ne NI hit9 (fun p hp => by simp [hp]) (.tail _ (.head _)) (fun vs e => by cases e) (ne_of_allLt (allLt_right l7.2.2.2.2) (Nat.le_refl _))
  have hne' : ∀ p ∈ (f9, fo9) :: (lz, listOf #[Value.int 0 tk'] 0) :: (L' + 1 + 1 + 1, oI) :: (L' + 1 + 1, oA) :: (L' + 1, oN) :: (l9 ++ rest), p.1 ≠ D7 := by k_all
  have NI2 : News g' L' hI ((D7, listOf (List.replicate (cnt (Builtin.Int.intBits a) n) (Value.int 0 tk')).toArray 0) :: (f9, fo9) :: (lz, listOf #[Value.int 0 tk'] 0) :: (L' + 1 + 1 + 1, oI) :: (L' + 1 + 1, oA) :: (L' + 1, oN) :: (l9 ++ rest)) := fun p hp => NI p (by
    simp only [List.mem_cons] at hp ⊢
    rcases hp with h | h | h
    · exact .inr (.inl h)
    · exact .inl h
    · exact .inr (.inr h))
  clear NI
  k_with_none
  k_with "eval Name" => (k_dflt first
      | ((with_reducible show wpAny _ _ (eval (Expr.Name (Str.ofString "a_digits") _) _) _ _ _); (refine' nameX_C ?zN ?zc ?zm ?zd ?_ ?za ?zb; (case za => rfl); (case zb => rfl); (case zN => k_asm); (case zc => rfl); (case zm => exact .tail _ (.tail _ (.tail _ (.tail _ (.head _))))); (case zd => exact dA)))
      | ((with_reducible show wpAny _ _ (eval (Expr.Name (Str.ofString "inner") _) _) _ _ _); (refine' nameX_C ?zN ?zc ?zm ?zd ?_ ?za ?zb; (case za => rfl); (case zb => rfl); (case zN => k_asm); (case zc => rfl); (case zm => exact .tail _ (.tail _ (.tail _ (.head _)))); (case zd => exact dI))))
  k_with "callWith ref" => (k_dflt (refine' callWith_F (fnAt_eq (by k_asm) (.tail _ (.head _)) hfo) ?_))
  k_with "FnAt" => (k_dflt exact fnAt_eq (by k_asm) (.tail _ (.head _)) hfo)
  k_with "call builtin:len" => (k_dflt (refine len_K (by k_asm) (.head _) (by rw [List.length_replicate]; omega) ?_; intro t7 tk7; rw [List.length_replicate]))
  repeat' ((fail_if_success (with_reducible show wpAny _ _ (call (Value.ref _) _) _ _ _)); (first | (k_unfold; (try dsimp only)) | (k_end; wrow_close) | walk1 | (dsimp only; walk1) | (leave1; walk_say "STEP leave1"; try dsimp only) | fail "no step"))
  · (k_dflt (refine' Call.use (inner 22 a 0 (cnt (Builtin.Int.intBits a) n) _ _ _ (List.replicate (cnt (Builtin.Int.intBits a) n) (Value.int 0 tk')) (List.replicate (cnt (Builtin.Int.intBits a) n) 0) 0 ((f9, fo9) :: (lz, listOf #[Value.int 0 tk'] 0) :: (L' + 1 + 1 + 1, oI) :: (L' + 1 + 1, oA) :: (L' + 1, oN) :: (l9 ++ rest))) ?y1 ?y2 ?y3 ?y4 ?y5 ?y6 ?y7 ?y8 ?y9 ?_; (case y1 => k_asm); (case y2 => k_asm); (case y3 => k_asm); (case y4 => k_asm); (case y5 => k_asm); (case y6 => rfl); (case y7 => exact dlt hd (by decide)); (case y8 => exact dlt hu (by decide)); (case y9 => exact ⟨rfl, hne', ⟨.head _, .tail _ (.tail _ (.head _)), .tail _ (.tail _ (.tail _ (.head _))), .tail _ (.tail _ (.tail _ (.tail _ (.head _)))), fun p hp => .tail _ (.tail _ (.tail _ (.tail _ (.tail _ (List.mem_append_left _ hp)))))⟩, ints_rep _ _ _, cnt_pos hn (bits_pos (by assumption)), by simp, cnt_small hn2 hb, by rw [List.length_replicate]; exact cnt_small2 hn2 hb, ha, lt_cnt hn ha⟩)); (rintro r8 news8 h8 tk8 F8 N8 ⟨rfl, vs8, rfl, i8⟩; rw [put_all] at i8; k_sweep))
    k_steps
    exact hret _ _ _ _ (by assumption) (fun p hp => by rename_i kN _ _; exact kN p (i2d_mem hp)) ⟨D7, vs8, l9, rfl, rfl, i8, allLt_right l7.2.2.2.2, .inr ⟨c9, hit9⟩⟩
  · rename_i ha0 _ kN _ _
    subst ha0
    exact hret _ _ _ _ (by assumption) (fun p hp => kN p (i2d_mem hp)) ⟨D7, _, l9, rfl, rfl, by rw [digitsOf_zero hn]; exact zero_rep hn, allLt_right l7.2.2.2.2, .inr ⟨c9, hit9⟩⟩
theorem d2i (w : World) (loose : List Str) (mean : ExcName → Option Value) (mg mb : Str → Option Value) (d : Addr) (vs : List Value) (c : Nat) (qs : List Int) (n : Nat) (tn : Tok) (l37 rest : List (Addr × Obj)) :
   Call w loose mean mg mb 42 [.ref d, .int n tn] 40 400 (fun news => news = l37 ++ rest ∧ TabSeg 37 ⟨47, 4, 52, 55⟩ (Str.ofString "_digits2int.<locals>.inner") l37 ∧ (∀ p ∈ rest, p.1 ≠ 37) ∧ (d, listOf vs.toArray c) ∈ rest ∧ IntsAre vs qs ∧ (∀ q ∈ qs, 0 ≤ q ∧ q < 2 ^ n) ∧ 0 < n ∧ n ≤ 1100000 ∧ n * qs.length ≤ 4000000)
     (fun _ r news' => ∃ t l', r = .int (undig n qs) t ∧ news' = l' ++ rest ∧ TabSeg 37 ⟨47, 4, 52, 55⟩ (Str.ofString "_digits2int.<locals>.inner") l') := by
  unfold Call
  w_top off
  k_fill
  intro dp un gd cn cs adr ccd cl outer A₀ base h₀ L m news s Q E B F X N T hk hd hu hpre hret
  obtain ⟨rfl, hseg, hne, hmd, hints, hqs, hn, hn2, hsz⟩ := hpre
  have C := codeHd41 X
  k_with_none
  refine wpAny_call ?_
  k_dflt (refine' code_defC ?k1 ?k2 ?k3 ?k4 ?k5 ?kA ?kF ?kK ?k6 ?k7 ?k8 ?k9 ?kB ?kD ?_ ?c2 ?c3 ?c4; (case kA => exact rfl); (case kF => exact rfl); (case kK => assumption); (case k1 => k_asm); (case k2 => k_asm); (case k3 => k_asm); (case k4 => k_asm); (case k5 => k_asm); (case k6 => k_is); (case k7 => k_is); (case k8 => ktr_room); (case k9 => exact BindsTo.of_eq rfl); (case kB => rfl); (case kD => decide); (case c2 => exact rfl); (case c3 => exact rfl); (case c4 => exact rfl))
  intro g' L' h' tk' cells' FG' F' N' Y' B' X' T' l1; replace l1 := allLt_of l1; k_cells Y'; (try simp only [List.cons_append, List.nil_append] at N'); (try dsimp only); (try k_lift B'); (try k_fold)
  have hL30 := ltN (seg_lt hseg l1)
  repeat' ((fail_if_success (with_reducible show wpAny _ _ (exec (Stmt.FunctionDef _ _ _ _ _ _ _ _ _ _) _) _ _ _)); (first | (k_unfold; (try dsimp only)) | (k_end; wrow_close) | walk1 | (dsimp only; walk1) | (leave1; walk_say "STEP leave1"; try dsimp only) | fail "no step"))
  (try dsimp only)
  k_dflt (refine' nestDef_K ?d0 ?k0 ?a0 ?_; (case d0 => exact rfl); (case k0 => exact rfl); (case a0 => exact rfl))
  k_dflt (refine' mkfun (front := [_, _, _]) ?m1 ?m2 ?m3 (C.keeps FG'.keep) rfl hseg ?m6 hne ?m8 ?_; (case m1 => k_asm); (case m2 => k_asm); (case m3 => k_asm); (case m8 => exact rfl); (case m6 => k_all))
  intro f9 fo9 c9 ctv9 doc9 l9 h9 tk9 hfo F9 N9 hit9 hlt9
  simp only [List.cons_append, List.nil_append] at N9 hlt9
  replace hlt9 := allLt_of hlt9
  simp only [AllLt] at hlt9
  k_sweep
  rename_i oI0 oN oD dI0 dN0 dD0
  have dN : oN.data = .cell (some (.int n tn)) := dN0
  have dD : oD.data = .cell (some (.ref d)) := dD0
  have hq1 : ∀ p ∈ l9 ++ rest, p.1 ≠ L' + 1 + 1 + 1 := hit_ne N9 hit9 (fun p hp => by simp [hp]) (.tail _ (.head _)) (fun vs e => by rw [dI0] at e; cases e) (ne_of_allLt (allLt_right l1) (by omega))
  repeat' ((fail_if_success (with_reducible show wpAny _ _ (exec (Stmt.Return _ _) _) _ _ _)); (first | (k_unfold; (try dsimp only)) | (k_end; wrow_close) | walk1 | (dsimp only; walk1) | (leave1; walk_say "STEP leave1"; try dsimp only) | fail "no step"))
  rename_i hI oI FI NI dI
  clear dI0 dN0 dD0
  have inner : ∀ (k lo hi : Nat) (tl tr : Tok) (rest' : List (Addr × Obj)),
      Call w loose mean mg mb f9 [.int lo tl, .int hi tr] (k + 1) (8 * (k + 1)) (fun news => news = rest' ∧ ((f9, fo9) ∈ rest' ∧ (L' + 1 + 1 + 1, oI) ∈ rest' ∧ (L' + 1 + 1, oN) ∈ rest' ∧ (L' + 1, oD) ∈ rest' ∧ (d, listOf vs.toArray c) ∈ rest' ∧ ∀ p ∈ l9, p ∈ rest') ∧
        lo < hi ∧ hi ≤ qs.length ∧ hi - lo ≤ 2 ^ k)
        (fun _ r news' => news' = rest' ∧ ∃ t, r = .int (undig n (cut qs lo hi)) t) := by
    clear hret hseg hne hq1 hlt9 l1 hL30 NI FI FG' B' X' T' C hmd
    intro k
    induction k using Nat.strongRecOn with
    | ind k ih =>
    intro lo hi tl tr rest'
    unfold Call
    intro dp un gd cn cs adr ccd cl outer A₀ base h₀ L m news s Q E B F X N T hk hd hu hpre hret
    obtain ⟨rfl, ⟨hmf, hmI, hmN, hmD, hmd, hml⟩, hlt, hle, hpow⟩ := hpre
    obtain ⟨oc, cvs, ct, rfl, hoc, hcv⟩ := id hit9
    have hmc : (c9, oc) ∈ news := hml _ (.tail _ (.head _))
    obtain ⟨mid, sh, up, f1, f3, f4, f5, one⟩ := midJ hlt hle hpow hsz hn2 hqs
    k_with_none
    k_with "eval Name" => (k_dflt first
      | ((with_reducible show wpAny _ _ (eval (Expr.Name (Str.ofString "digits") _) _) _ _ _); (refine' nameX_F ?zN ?zc ?zm ?zd ?_ ?za ?zb; (case za => rfl); (case zb => rfl); (case zN => k_asm); (case zc => rfl); (case zm => exact hmD); (case zd => exact dD)))
      | ((with_reducible show wpAny _ _ (eval (Expr.Name (Str.ofString "n") _) _) _ _ _); (refine' nameX_F ?zN ?zc ?zm ?zd ?_ ?za ?zb; (case za => rfl); (case zb => rfl); (case zN => k_asm); (case zc => rfl); (case zm => exact hmN); (case zd => exact dN)))
      | ((with_reducible show wpAny _ _ (eval (Expr.Name (Str.ofString "inner") _) _) _ _ _); (refine' nameX_F ?zN ?zc ?zm ?zd ?_ ?za ?zb; (case za => rfl); (case zb => rfl); (case zN => k_asm); (case zc => rfl); (case zm => exact hmI); (case zd => exact dI))))
    k_with "subscriptTail Name Name ref int" => (k_dflt (refine' ksa_sub ?zN hmd hints ?z5 ?z6 ?z7 ?_ ?z8; (case zN => k_asm); (case z5 => omega); (case z6 => omega); (case z7 => exact idx_fit hle hlt hsz hn); (case z8 => with_unfolding_all rfl); intro t6))
    k_with "binaryOp RShift int int" => (k_dflt refine rshift_as (mid : Int) (by decide) f1 ?_)
    k_with "binaryOp Mult int int" => (k_dflt refine mul_as ((sh : Nat) : Int) f3 f4 ?_)
    k_with "binaryOp LShift int int" => (k_dflt refine lshift_as (up * 2 ^ sh) (Int.natCast_nonneg _) f5 (by rw [Int.toNat_natCast]) ?_)
    k_with "callWith ref" => (k_dflt (refine' callWith_F (FnAt.of (by k_asm) hmf) ?_))
    k_with "FnAt" => (k_dflt exact FnAt.of (by k_asm) hmf)
    refine wpAny_call ?_
    subst hfo
    k_dflt (refine' code_nest ?k1 ?k2 ?k3 ?k4 ?k5 ?kA ?kF ?kK ?k6 ?k7 ?k8 ?k9 ?kB ?_ ?c2 ?c3 ?c4 ?c5; (case kA => exact rfl); (case kF => exact rfl); (case kK => assumption); (case k1 => k_asm); (case k2 => k_asm); (case k3 => k_asm); (case k4 => k_asm); (case k5 => k_asm); (case k6 => exact hmf); (case k7 => exact codeRec_news (by assumption) hmc hoc hcv); (case k8 => ktr_room); (case k9 => exact BindsTo.of_eq rfl); (case c5 => decide); (case kB => exact locs rfl); (case c2 => exact rfl); (case c3 => exact rfl); (case c4 => exact rfl))
    intro g7 L7 h7 FG7 F7 N7 B7 X7 T7
    (try dsimp only)
    (try k_fold)
    repeat' ((fail_if_success (with_reducible show wpAny _ _ (call (Value.ref _) _) _ _ _)); (first | (k_unfold; (try dsimp only)) | (k_end; wrow_close) | walk1 | (dsimp only; walk1) | (leave1; walk_say "STEP leave1"; try dsimp only) | fail "no step"))
    · clear f1 f3 f4 f5 one
      have e1 : hi = lo + 1 := by omega
      subst e1
      have e2 : undig n (cut qs lo (lo + 1)) = qs.getD lo 0 := by
        rw [cut_one (List.getElem?_eq_getElem (by omega)), List.getD_eq_getElem?_getD, List.getElem?_eq_getElem (by omega)]
        simp [undig]
      exact hret _ _ _ _ (by assumption) (by assumption) ⟨rfl, t6, by rw [e2, Int.toNat_natCast]⟩
    · obtain ⟨k', m1, m2, m3, m4, m5, e6, e7⟩ := one (by omega)
      clear f1 f3 f4 one
      k_dflt (refine' Call.use (ih k' (Nat.lt_succ_self k') mid hi _ _ news) ?y1 ?y2 ?y3 ?y4 ?y5 ?y6 ?y7 ?y8 ?y9 ?_; (case y1 => k_asm); (case y2 => k_asm); (case y3 => k_asm); (case y4 => k_asm); (case y5 => k_asm); (case y6 => rfl); (case y7 => exact dlk hd); (case y8 => exact dlu hu (by decide)); (case y9 => exact ⟨rfl, ⟨hmf, hmI, hmN, hmD, hmd, hml⟩, m2, hle, m5⟩))
      rintro r8 news8 h8 tk8 F8 N8 ⟨rfl, t8, rfl⟩
      rw [e6]
      k_sweep
      repeat' ((fail_if_success (with_reducible show wpAny _ _ (call (Value.ref _) _) _ _ _)); (first | (k_unfold; (try dsimp only)) | (k_end; wrow_close) | walk1 | (dsimp only; walk1) | (leave1; walk_say "STEP leave1"; try dsimp only) | fail "no step"))
      k_dflt (refine' Call.use (ih k' (Nat.lt_succ_self k') lo mid _ _ news8) ?x1 ?x2 ?x3 ?x4 ?x5 ?x6 ?x7 ?x8 ?x9 ?_; (case x1 => k_asm); (case x2 => k_asm); (case x3 => k_asm); (case x4 => k_asm); (case x5 => k_asm); (case x6 => rfl); (case x7 => exact dlk hd); (case x8 => exact dlu hu (by decide)); (case x9 => exact ⟨rfl, ⟨hmf, hmI, hmN, hmD, hmd, hml⟩, m1, m3, m4⟩))
      rintro r7 news7 h7 tk7 F7 N7 ⟨rfl, t7, rfl⟩
      k_sweep
      k_steps
      exact hret _ _ _ _ (by assumption) (by assumption) ⟨rfl, _, by rw [e7]⟩
  have hmd' : (d, listOf vs.toArray c) ∈ (f9, fo9) :: (L' + 1 + 1 + 1, oI) :: (L' + 1 + 1, oN) :: (L' + 1, oD) :: (l9 ++ rest) := .tail _ (.tail _ (.tail _ (.tail _ (List.mem_append_right _ hmd))))
  have hlen : vs.length = qs.length := hints.length
  have hqlen : qs.length ≤ 4000000 := Nat.le_trans (Nat.le_of_eq (Nat.one_mul _).symm) (Nat.le_trans (Nat.mul_le_mul_right _ hn) hsz)
  k_with_none
  k_with "eval Name" => (k_dflt first
      | ((with_reducible show wpAny _ _ (eval (Expr.Name (Str.ofString "digits") _) _) _ _ _); (refine' nameX_C ?zN ?zc ?zm ?zd ?_ ?za ?zb; (case za => rfl); (case zb => rfl); (case zN => k_asm); (case zc => rfl); (case zm => exact .tail _ (.tail _ (.tail _ (.head _)))); (case zd => exact dD)))
      | ((with_reducible show wpAny _ _ (eval (Expr.Name (Str.ofString "inner") _) _) _ _ _); (refine' nameX_C ?zN ?zc ?zm ?zd ?_ ?za ?zb; (case za => rfl); (case zb => rfl); (case zN => k_asm); (case zc => rfl); (case zm => exact .tail _ (.head _)); (case zd => exact dI))))
  k_with "callWith ref" => (k_dflt (refine' callWith_F (fnAt_eq (by k_asm) (.head _) hfo) ?_))
  k_with "FnAt" => (k_dflt exact fnAt_eq (by k_asm) (.head _) hfo)
  k_with "call builtin:len" => (k_dflt (refine len_K (by k_asm) hmd' (by rw [hlen]; omega) ?_; intro t7 tk7; rw [hlen]))
  k_with "truthy ref" => (k_dflt (refine kgr_truthy (vs := vs) (by k_asm) hmd' rfl rfl (by rw [hlen]; omega) ?_))
  repeat' ((fail_if_success (with_reducible show wpAny _ _ (call (Value.ref _) _) _ _ _)); (first | (k_unfold; (try dsimp only)) | (k_end; wrow_close) | walk1 | (dsimp only; walk1) | (leave1; walk_say "STEP leave1"; try dsimp only) | fail "no step"))
  · have ev : vs = [] := List.isEmpty_iff.mp (by assumption)
    subst ev
    cases hints
    (rename News h₀ _ _ _ => kN)
    exact hret _ _ _ _ (by assumption) (fun p hp => kN p (.tail _ (.tail _ (.tail _ (.tail _ hp))))) ⟨_, l9, rfl, rfl, .inr ⟨c9, hit9⟩⟩
  · have ev : 0 < qs.length := by
      rw [← hlen]
      have hv : vs.isEmpty = false := by assumption
      cases vs with
      | nil => cases hv
      | cons _ _ => simp
    k_dflt (refine' Call.use (inner 22 0 qs.length _ _ ((f9, fo9) :: (L' + 1 + 1 + 1, oI) :: (L' + 1 + 1, oN) :: (L' + 1, oD) :: (l9 ++ rest))) ?y1 ?y2 ?y3 ?y4 ?y5 ?y6 ?y7 ?y8 ?y9 ?_; (case y1 => k_asm); (case y2 => k_asm); (case y3 => k_asm); (case y4 => k_asm); (case y5 => k_asm); (case y6 => rfl); (case y7 => exact dlt hd (by decide)); (case y8 => exact dlt hu (by decide)); (case y9 => exact ⟨rfl, ⟨.head _, .tail _ (.head _), .tail _ (.tail _ (.head _)), .tail _ (.tail _ (.tail _ (.head _))), hmd', fun p hp => .tail _ (.tail _ (.tail _ (.tail _ (List.mem_append_left _ hp))))⟩, ev, Nat.le_refl _, by omega⟩))
    rintro r8 news8 h8 tk8 F8 N8 ⟨rfl, t8, rfl⟩
    k_sweep
    k_steps
    (rename News h₀ _ _ _ => kN)
    exact hret _ _ _ _ (by assumption) (fun p hp => kN p (.tail _ (.tail _ (.tail _ (.tail _ hp))))) ⟨t8, l9, by rw [cut_all], rfl, .inr ⟨c9, hit9⟩⟩
theorem dmp (w : World) (loose : List Str) (mean : ExcName → Option Value) (mg mb : Str → Option Value) (a b : Int) (ta tb : Tok) (tabs rest : List (Addr × Obj)) :
   Call w loose mean mg mb 49 [.int a ta, .int b tb] 45 1300 (fun news => news = tabs ++ rest ∧ Tabs tabs ∧ (∀ p ∈ rest, p.1 ≠ 30) ∧ (∀ p ∈ rest, p.1 ≠ 37) ∧ 0 ≤ a ∧ 0 < b ∧ Builtin.Int.intBits a ≤ 1100000 ∧ Builtin.Int.intBits b ≤ 1100000)
     (fun _ r news' => ∃ t u v c tabs', r = .ref t ∧ news' = (t, tup2 (a / b) (a % b) u v c) :: (tabs' ++ rest) ∧ Tabs tabs' ∧ AllLt t rest) := by
  unfold Call
  w_top off
  k_fill
  intro dp un gd cn cs adr ccd cl outer A₀ base h₀ L m news s Q E B F X N T hk hd hu hpre hret
  obtain ⟨rfl, ⟨l30, l37, rfl, h30, h37⟩, hne30, hne37, ha, hb, hba, hbb⟩ := hpre
  have hbp : 0 < Builtin.Int.intBits b := bits_pos (by omega)
  have ho37 := seg_off N h37 h30 (fun p hp => by simp [hp]) (fun p hp => by simp [hp]) (by decide)
  k_with_none
  k_with "call ref" => (k_dflt (refine' Call.use (i2d w loose mean mg mb a (Builtin.Int.intBits b) _ _ l30 (l37 ++ rest)) ?y1 ?y2 ?y3 ?y4 ?y5 ?y6 ?y7 ?y8 ?y9 ?_; (case y1 => k_asm); (case y2 => k_asm); (case y3 => k_asm); (case y4 => k_asm); (case y5 => k_asm); (case y6 => rfl); (case y7 => exact dlt hd (by decide)); (case y8 => exact dlt hu (by decide)); (case y9 => exact ⟨List.append_assoc _ _ _, h30, fun p hp => (List.mem_append.mp hp).elim (ho37 p) (hne30 p), ha, hbp, hbb, hba⟩)); (rintro r9 news9 h9 tk9 F9 N9 ⟨D, vs, l30', rfl, rfl, iD, lD, h30'⟩; k_sweep))
  k_with "newList" => (k_dflt (refine' newList_K ?z1 ?z2 ?_ ?z3; (case z1 => k_asm); (case z2 => k_asm); (case z3 => size_fits)); intro Dq h8 F8 N8 l8; k_sweep)
  k_with "call type:reversed" => (k_dflt (refine' krv_reversed (vs := vs) ?z1 ?z2 ?z3 ?_; (case z1 => k_asm); (case z2 => k_asm); (case z3 => exact PySem.IsL.isList (n := 0) (N8 _ (.tail _ (.head _))).1)); intro I7 h7 F7 N7 l7; k_sweep)
  refine wpAny_call ?_
  k_dflt ktr_enter
  refine hide_around ?_
  intro A1
  repeat' ((fail_if_success (with_reducible show wpAny _ _ (pyIter _) _ _ _)); (first | (k_unfold; (try dsimp only)) | (k_end; wrow_close) | walk1 | (dsimp only; walk1) | (leave1; walk_say "STEP leave1"; try dsimp only) | fail "no step"))
  rename_i I7 h7 F7 N7 l7
  have hneq : ∀ p ∈ (D, listOf vs.toArray 0) :: (l30' ++ (l37 ++ rest)), p.1 ≠ Dq := fun p hp => Nat.ne_of_lt (l8 p hp)
  have hvl : vs.length = cnt (Builtin.Int.intBits a) (Builtin.Int.intBits b) := by rw [iD.length, digitsOf_length]
  have hcs : cnt (Builtin.Int.intBits a) (Builtin.Int.intBits b) ≤ 2200000 := by
    have : cnt (Builtin.Int.intBits a) (Builtin.Int.intBits b) ≤ Builtin.Int.intBits a + Builtin.Int.intBits b - 1 := Nat.div_le_self _ _
    omega
  k_dflt (refine' for_revlist (vs := vs) (nn := 0) (fun i m' nx => ∃ (qvs : List Value) (qs : List Int) (r : Int) (c' : Nat) (tr tn tb' : Tok), nx = (Dq, listOf qvs.toArray c') :: (D, listOf vs.toArray 0) :: (l30' ++ (l37 ++ rest)) ∧ IntsAre qvs qs ∧ DInv (Builtin.Int.intBits b) b a i qs r ∧ m' (Str.ofString "n") = some (.int (Builtin.Int.intBits b) tn) ∧ m' (Str.ofString "b") = some (.int b tb') ∧ m' (Str.ofString "r") = some (.int r tr) ∧ m' (Str.ofString "q_digits") = some (.ref Dq)) ?z1 ?z2 ?z3 ?z4 ?z5 ?z6 ?_ ?_; (case z1 => rfl); (case z4 => k_asm); (case z3 => k_asm); (case z2 => exact .tail _ (.head _)); (case z5 => exact fun p hp => Nat.lt_of_lt_of_le (ktn_ltOf (l := (Dq, listOf #[] 0) :: (D, listOf vs.toArray 0) :: (l30' ++ (l37 ++ rest))) l7 p hp) (Nat.le_refl _)); (case z6 => exact ⟨[], [], 0, 0, _, _, _, rfl, .nil, dinv0 hbp ha, rfl, rfl, rfl, rfl⟩))
  · rintro i9 v9 m9 nx9 h9 tk9 own9 hi9 hv9 ho9 hl9 ⟨qvs, qs, r, c', tr, tn, tb', rfl, iq, hD, e1, e2, e3, e4⟩ F9 N9
    dsimp only [envOf] at F9 N9
    obtain ⟨td, hvd⟩ := iD.get (vs.length - 1 - i9) (dig (Builtin.Int.intBits b) a (cnt (Builtin.Int.intBits a) (Builtin.Int.intBits b) - 1 - i9)) (by rw [hvl]; simp only [digitsOf]; rw [List.getElem?_map, List.getElem?_range (by omega)]; rfl)
    rw [hvd] at hv9
    cases hv9
    have hrb := dinv_r hb hD
    have hdb := dig_bounds (Builtin.Int.intBits b) a (cnt (Builtin.Int.intBits a) (Builtin.Int.intBits b) - 1 - i9)
    have hql : qs.length = i9 := hD.2.2.2
    replace F9 := Fr.as F9 (put_in (put_eq e1 (put_eq e2 (put_eq e3 (put_eq e4 rfl)))))
    simp only [List.cons_append] at N9
    refine hide ?_
    intro Qx hQx
    k_sweep
    try k_fold
    k_with_none
    k_with "binaryOp LShift int int" => (k_dflt refine lshift_as (r * 2 ^ Builtin.Int.intBits b) (by omega) (r_ok hbb hrb.1 hrb.2) (by rw [Int.toNat_natCast]) ?_)
    k_with "call ref" => (k_dflt (refine' Call.use (div_all w loose mean mg mb 11 _ _ _ _ _ _) ?y1 ?y2 ?y3 ?y4 ?y5 ?y6 ?y7 ?y8 ?y9 ?_; (case y1 => k_asm); (case y2 => k_asm); (case y3 => k_asm); (case y4 => k_asm); (case y5 => k_asm); (case y6 => rfl); (case y7 => exact dlt hd (by decide)); (case y8 => exact dlt hu (by decide)); (case y9 => exact pre2_of hb hbb hrb.1 hrb.2 hdb.1 hdb.2)); (rintro r8 news8 h8 tk8 F8 N8 ⟨t8, u8, v8, c8, rfl, lt8, rfl⟩; k_sweep))
    repeat' ((fail_if_success (with_reducible show wpAny _ _ (call (Value.builtin "list.append") _) _ _ _)); (first | (k_unfold; (try dsimp only)) | (k_end; wrow_close) | walk1 | (dsimp only; walk1) | (leave1; walk_say "STEP leave1"; try dsimp only) | fail "no step"))
    k_dflt (refine' append_K (its := qvs.toArray) ?x1 ?x2 (Upd.tail (p := (t8, _)) (Nat.ne_of_gt lt8.1) (Upd.head (ne_own hneq ho9))) ?_ ?x4; (case x1 => k_asm); (case x2 => k_asm); (case x4 => (rw [sizeLine_eq, List.size_toArray, iq.length, hql]; omega)))
    intro h6 F6 N6
    k_sweep
    k_steps
    simp only [List.push_toArray] at N6
    refine hQx _ _ (turn_end ((Dq, listOf (qvs ++ [Value.int ((r * 2 ^ Builtin.Int.intBits b + dig (Builtin.Int.intBits b) a (cnt (Builtin.Int.intBits a) (Builtin.Int.intBits b) - 1 - i9)) / b) u8]).toArray (c' + 1)) :: (D, listOf vs.toArray 0) :: (l30' ++ (l37 ++ rest))) (by assumption) N6 ?_ ?_ ho9 ⟨.tail _ (.head _), qvs ++ [Value.int ((r * 2 ^ Builtin.Int.intBits b + dig (Builtin.Int.intBits b) a (cnt (Builtin.Int.intBits a) (Builtin.Int.intBits b) - 1 - i9)) / b) u8], qs ++ [(r * 2 ^ Builtin.Int.intBits b + dig (Builtin.Int.intBits b) a (cnt (Builtin.Int.intBits a) (Builtin.Int.intBits b) - 1 - i9)) / b], (r * 2 ^ Builtin.Int.intBits b + dig (Builtin.Int.intBits b) a (cnt (Builtin.Int.intBits a) (Builtin.Int.intBits b) - 1 - i9)) % b, c' + 1, _, _, _, rfl, IntsAre.append iq (.cons _ _ .nil), dinv_step hb (by omega) hD, rfl, rfl, rfl, rfl⟩)
    · intro p hp
      simp only [List.mem_cons, List.mem_append] at hp ⊢
      rcases hp with h | h | h | h | h
      · exact .inr (.inl h)
      · exact .inr (.inr (.inl (.inl h)))
      · exact .inr (.inr (.inl (.inr (.inl h))))
      · exact .inr (.inr (.inl (.inr (.inr (.inl h)))))
      · exact .inr (.inr (.inl (.inr (.inr (.inr h)))))
    · intro p hp
      simp only [List.mem_cons, List.mem_append]
      exact .inr (.inr (.inr hp))
  · rintro m9 nx9 h9 tk9 ⟨qvs, qs, r, c', tr, tn, tb', rfl, iq, hD, e1, e2, e3, e4⟩ F9 N9
    dsimp only [envOf] at F9 N9
    rw [hvl] at hD
    have hE := dinv_end hD
    have hql : qs.length = cnt (Builtin.Int.intBits a) (Builtin.Int.intBits b) := hD.2.2.2
    have hnq : Builtin.Int.intBits b * qs.length ≤ 4000000 := by
      rw [hql]
      have : Builtin.Int.intBits b * cnt (Builtin.Int.intBits a) (Builtin.Int.intBits b) ≤ Builtin.Int.intBits a + Builtin.Int.intBits b - 1 := Nat.mul_div_le _ _
      omega
    replace F9 := Fr.as F9 (put_eq e1 (put_eq e2 (put_eq e3 (put_eq e4 rfl))))
    have hDq37 : Dq ≠ 37 := by
      obtain ⟨ps, hm, _⟩ := seg_mem h37
      exact fun e => seg_ne N9 h37 (fun p hp => by simp [hp]) (List.Mem.head _) (by intro vs h; cases h) _ hm e.symm
    have hD37 : D ≠ 37 := by
      obtain ⟨ps, hm, _⟩ := seg_mem h37
      exact fun e => seg_ne N9 h37 (fun p hp => by simp [hp]) (List.Mem.tail _ (List.Mem.head _)) (by intro vs h; cases h) _ hm e.symm
    have ho30 := seg_off N9 h30' h37 (fun p hp => by simp [hp]) (fun p hp => by simp [hp]) (by decide)
    k_sweep
    k_with_none
    repeat' ((fail_if_success (with_reducible show wpAny _ _ (call (Value.builtin "list.reverse") _) _ _ _)); (first | (k_unfold; (try dsimp only)) | (k_end; wrow_close) | walk1 | (dsimp only; walk1) | (leave1; walk_say "STEP leave1"; try dsimp only) | fail "no step"))
    k_dflt (refine' kl_reverse (its := qvs.toArray) (l := qvs.reverse) ?x1 ?x2 rfl (Upd.head hneq) ?x4 ?_; (case x1 => k_asm); (case x2 => k_asm); (case x4 => (rw [sizeLine_eq, List.toList_toArray, iq.length, hql]; omega)))
    intro h6 F6 N6
    have N6' : News _ _ h6 (l37 ++ ((Dq, listOf qvs.reverse.toArray c') :: (D, listOf vs.toArray 0) :: (l30' ++ rest))) := fun p hp => N6 p (by
      simp only [List.mem_cons, List.mem_append] at hp ⊢
      rcases hp with h | h | h | h | h
      · exact .inr (.inr (.inr (.inl h)))
      · exact .inl h
      · exact .inr (.inl h)
      · exact .inr (.inr (.inl h))
      · exact .inr (.inr (.inr (.inr h))))
    clear N6
    k_sweep
    repeat' ((fail_if_success (with_reducible show wpAny _ _ (call (Value.ref _) _) _ _ _)); (first | (k_unfold; (try dsimp only)) | (k_end; wrow_close) | walk1 | (dsimp only; walk1) | (leave1; walk_say "STEP leave1"; try dsimp only) | fail "no step"))
    (k_dflt (refine' Call.use (d2i w loose mean mg mb Dq qvs.reverse c' qs.reverse (Builtin.Int.intBits b) _ l37 ((Dq, listOf qvs.reverse.toArray c') :: (D, listOf vs.toArray 0) :: (l30' ++ rest))) ?y1 ?y2 ?y3 ?y4 ?y5 ?y6 ?y7 ?y8 ?y9 ?_; (case y1 => k_asm); (case y2 => k_asm); (case y3 => k_asm); (case y4 => k_asm); (case y5 => k_asm); (case y6 => rfl); (case y7 => exact dlt hd (by decide)); (case y8 => exact dlt hu (by decide)); (case y9 => exact ⟨rfl, h37, (by
        intro p hp
        simp only [List.mem_cons, List.mem_append] at hp
        rcases hp with rfl | rfl | h | h
        · exact hDq37
        · exact hD37
        · exact ho30 p h
        · exact hne37 p h), .head _, ints_rev iq, (fun q hq => hD.2.2.1 q (List.mem_reverse.mp hq)), hbp, hbb, (by rw [List.length_reverse]; exact hnq)⟩)))
    rintro r5 news5 h5 tk5 F5 N5 ⟨t5, l37', rfl, rfl, h37'⟩
    k_sweep
    k_steps
    rename_i l1 kF kN _ _
    rw [← hE.1, ← hE.2] at kN
    refine hret (.ref _) ((_, tup2 (a / b) (a % b) t5 tr 0) :: ((l30' ++ l37') ++ rest)) _ _ kF (fun p hp => kN p ?_) ⟨_, t5, tr, 0, l30' ++ l37', rfl, rfl, ⟨l30', l37', rfl, h30', h37'⟩, allLt_of fun p hp => l1 p (by simp [hp])⟩
    simp only [List.mem_cons, List.mem_append] at hp ⊢
    rcases hp with h | (h | h) | h
    · exact .inl h
    · exact .inr (.inr (.inr (.inr (.inl h))))
    · exact .inr (.inl h)
    · exact .inr (.inr (.inr (.inr (.inr h))))
theorem idm0 (w : World) (loose : List Str) (mean : ExcName → Option Value) (mg mb : Str → Option Value) (a b : Int) (ta tb : Tok) (tabs rest : List (Addr × Obj)) (ha : 0 ≤ a) :
   Call w loose mean mg mb 56 [.int a ta, .int b tb] 47 1350 (PreD tabs rest a b) (PostD rest a b) := by
  unfold Call
  w_top off
  k_fill
  intro dp un gd cn cs adr ccd cl outer A₀ base h₀ L m news s Q E B F X N T hk hd hu hpre hret
  obtain ⟨rfl, ht, hne30, hne37, hb, hba, hbb⟩ := hpre
  k_with_none
  refine wpAny_call ?_
  k_dflt ktr_enter
  refine hide_around ?_
  intro A1
  repeat' ((fail_if_success (with_reducible show wpAny _ _ (call (Value.ref _) _) _ _ _)); (first | omega | (k_unfold; (try dsimp only)) | (k_end; wrow_close) | walk1 | (dsimp only; walk1) | (leave1; walk_say "STEP leave1"; try dsimp only) | fail "no step"))
  (k_dflt (refine' Call.use (dmp w loose mean mg mb a b _ _ tabs rest) ?y1 ?y2 ?y3 ?y4 ?y5 ?y6 ?y7 ?y8 ?y9 ?_; (case y1 => k_asm); (case y2 => k_asm); (case y3 => k_asm); (case y4 => k_asm); (case y5 => k_asm); (case y6 => rfl); (case y7 => exact dlt hd (by decide)); (case y8 => exact dlt hu (by decide)); (case y9 => exact ⟨rfl, ht, hne30, hne37, ha, hb, hba, hbb⟩)))
  rintro r5 news5 h5 tk5 F5 N5 ⟨t5, u5, v5, c5, tabs', rfl, rfl, ht', lt5⟩
  k_sweep
  k_steps
  exact hret _ _ _ _ (by assumption) (by assumption) ⟨t5, u5, v5, c5, tabs', rfl, rfl, ht', lt5⟩
theorem idm (w : World) (loose : List Str) (mean : ExcName → Option Value) (mg mb : Str → Option Value) (a b : Int) (ta tb : Tok) (tabs rest : List (Addr × Obj)) :
   Call w loose mean mg mb 56 [.int a ta, .int b tb] 49 1400 (PreD tabs rest a b) (PostD rest a b) := by
  have hnot : ∀ x : Int, Builtin.bitNot x = -x - 1 := fun x => by unfold Builtin.bitNot; omega
  rcases (by omega : a < 0 ∨ 0 ≤ a) with ha | ha
  case inr => exact Call.more (idm0 w loose mean mg mb a b ta tb tabs rest ha) (by decide) (by decide)
  unfold Call
  w_top off
  k_fill
  intro dp un gd cn cs adr ccd cl outer A₀ base h₀ L m news s Q E B F X N T hk hd hu hpre hret
  obtain ⟨rfl, ht, hne30, hne37, hb, hba, hbb⟩ := hpre
  k_with_none
  refine wpAny_call ?_
  k_dflt ktr_enter
  refine hide_around ?_
  intro A1
  repeat' ((fail_if_success (with_reducible show wpAny _ _ (call (Value.ref _) _) _ _ _)); (first | omega | (k_unfold; (try dsimp only)) | (k_end; wrow_close) | walk1 | (dsimp only; walk1) | (leave1; walk_say "STEP leave1"; try dsimp only) | fail "no step"))
  (k_dflt (refine' Call.use (idm0 w loose mean mg mb (Builtin.bitNot a) b _ _ tabs rest (by rw [hnot]; omega)) ?y1 ?y2 ?y3 ?y4 ?y5 ?y6 ?y7 ?y8 ?y9 ?_; (case y1 => k_asm); (case y2 => k_asm); (case y3 => k_asm); (case y4 => k_asm); (case y5 => k_asm); (case y6 => rfl); (case y7 => exact dlt hd (by decide)); (case y8 => exact dlt hu (by decide)); (case y9 => exact ⟨rfl, ht, hne30, hne37, hb, by rw [hnot]; exact Nat.le_trans (bits_not ha) hba, hbb⟩)))
  rintro r5 news5 h5 tk5 F5 N5 ⟨t5, u5, v5, c5, tabs', rfl, rfl, ht', lt5⟩
  k_sweep
  k_steps
  rename_i l1 kF kN _ _
  have hE := not_div (a := a) hb
  simp only [hnot] at kN
  exact postD_end hret kF kN hE ht' (allLt_right l1.2)
theorem wish (w : World) (loose : List Str) (mean : ExcName → Option Value) (mg mb : Str → Option Value) (H S : Addr) (hv sv : List Value) (c1 c2 : Nat) (hs ss : List Int) (whole h s : Int) (g : Nat) (tw tg : Tok) (tabs rest : List (Addr × Obj)) :
   Call w loose mean mg mb 110 [.ref H, .int whole tw, .ref S, .int g tg] 55 1500 (fun news => news = tabs ++ rest ∧ Tabs tabs ∧ (∀ p ∈ rest, p.1 ≠ 30) ∧ (∀ p ∈ rest, p.1 ≠ 37) ∧
       (H, listOf hv.toArray c1) ∈ rest ∧ (S, listOf sv.toArray c2) ∈ rest ∧ IntsAre hv hs ∧ IntsAre sv ss ∧ hs[g]? = some h ∧ ss[g]? = some s ∧ hs.length ≤ 100 ∧ ss.length ≤ 100 ∧ 0 ≤ h ∧ h ≤ 100 ∧ 0 < s ∧ s ≤ whole ∧ Builtin.Int.intBits whole ≤ 1099000)
     (PostT rest (wishOf h whole s g)) := by
  unfold Call
  w_top off
  k_fill
  intro dp un gd cn cs adr ccd cl outer A₀ base h₀ L m news s' Q E B F X N T hk hd hu hpre hret
  obtain ⟨rfl, ht, hne30, hne37, hH, hS, ih, is, eh, es, lh, ls, h0, h1, s0, s1, hw⟩ := hpre
  have hbw : Builtin.Int.intBits (h * whole) ≤ 1100000 := Nat.le_trans (bits_mul h0 (by omega) (by omega) hw) (by decide)
  have hbn : Builtin.Int.intBits (-(h + 1) * whole) ≤ 1100000 := by
    rw [Int.neg_mul, bits_neg]
    exact Nat.le_trans (bits_mul (by omega) (by omega) (by omega) hw) (by decide)
  have hbs : Builtin.Int.intBits s ≤ 1100000 := Nat.le_trans (bits_le (by omega) (Int.lt_of_le_of_lt s1 (lt_of_bits (by omega) hw))) (by decide)
  k_with_none
  k_with "subscriptTail Name Name ref int" => (k_dflt first
    | (refine' at_get ?zN ?z1 ih eh lh ?_ ?z3; (case zN => k_asm); (case z1 => first | exact List.mem_append.mpr (.inr hH) | exact .tail _ (List.mem_append.mpr (.inr hH))); (case z3 => with_unfolding_all rfl); intro t6)
    | (refine' at_get ?zN ?z1 is es ls ?_ ?z3; (case zN => k_asm); (case z1 => first | exact List.mem_append.mpr (.inr hS) | exact .tail _ (List.mem_append.mpr (.inr hS))); (case z3 => with_unfolding_all rfl); intro t6))
  k_with "binaryOp Mult int int" => (k_dflt first | refine mul_as _ (small_l h0 (by omega)) rfl ?_ | refine mul_as _ (small_ln (by omega) (by omega)) rfl ?_)
  refine wpAny_call ?_
  k_dflt ktr_enter
  refine hide_around ?_
  intro A1
  repeat' ((fail_if_success (with_reducible show wpAny _ _ (call (Value.ref _) _) _ _ _)); (first | (k_unfold; (try dsimp only)) | (k_end; wrow_close) | walk1 | (dsimp only; walk1) | (leave1; walk_say "STEP leave1"; try dsimp only) | fail "no step"))
  (k_dflt (refine' Call.use (idm w loose mean mg mb (h * whole) s _ _ tabs rest) ?y1 ?y2 ?y3 ?y4 ?y5 ?y6 ?y7 ?y8 ?y9 ?_; (case y1 => k_asm); (case y2 => k_asm); (case y3 => k_asm); (case y4 => k_asm); (case y5 => k_asm); (case y6 => rfl); (case y7 => exact dlt hd (by decide)); (case y8 => exact dlt hu (by decide)); (case y9 => exact ⟨rfl, ht, hne30, hne37, s0, hbw, hbs⟩)))
  rintro r5 news5 h5 tk5 F5 N5 ⟨t5, u5, v5, c5, tabs5, rfl, rfl, ht5, lt5⟩
  k_sweep
  repeat' ((fail_if_success (with_reducible show wpAny _ _ (call (Value.ref _) _) _ _ _)); (first | (k_unfold; (try dsimp only)) | (k_end; wrow_close) | walk1 | (dsimp only; walk1) | (leave1; walk_say "STEP leave1"; try dsimp only) | fail "no step"))
  rename_i NN _
  replace NN := Mine.News.of_mem NN (l := tabs5 ++ rest) (fun p hp => .tail _ hp)
  (k_dflt (refine' Call.use (idm w loose mean mg mb (-(h + 1) * whole) s _ _ tabs5 rest) ?y1 ?y2 ?y3 ?y4 ?y5 ?y6 ?y7 ?y8 ?y9 ?_; (case y1 => k_asm); (case y2 => k_asm); (case y3 => k_asm); (case y4 => k_asm); (case y5 => k_asm); (case y6 => rfl); (case y7 => exact dlt hd (by decide)); (case y8 => exact dlt hu (by decide)); (case y9 => exact ⟨rfl, ht5, hne30, hne37, s0, hbn, hbs⟩)))
  rintro r4 news4 h4 tk4 F4 N4 ⟨t4, u4, v4, c4, tabs4, rfl, rfl, ht4, lt4⟩
  clear NN
  k_sweep
  k_steps
  rename_i l1 kF kN _ _
  exact postT_end hret kF kN (.cons _ _ (.cons _ _ (.cons _ _ (.cons _ _ (.cons _ _ .nil))))) ht4 (allLt_right l1.2)
theorem ftc (w : World) (loose : List Str) (mean : ExcName → Option Value) (mg mb : Str → Option Value) (H S : Addr) (hv sv : List Value) (c1 c2 : Nat) (hs ss : List Int) (whole : Int) (turn : Nat) (tw tt : Tok) (rest : List (Addr × Obj)) :
   CallS w loose mean mg mb 131 [.ref S, .int whole tw, .ref H, .int turn tt] 110 100 (fun news => news = rest ∧
       (H, listOf hv.toArray c1) ∈ rest ∧ (S, listOf sv.toArray c2) ∈ rest ∧ IntsAre hv hs ∧ IntsAre sv ss ∧ hs.length = ss.length ∧ ss.length ≤ 8 ∧ turn ≤ 36 ∧ (∀ i, i < ss.length → 0 ≤ at0 hs i ∧ at0 hs i ≤ 36 ∧ 0 < at0 ss i ∧ at0 ss i ≤ whole))
     (fun _ r news' => (∃ t, r = .int (fcl ss hs whole turn ss.length).2 t) ∧ news' = rest) := by
  unfold CallS
  w_top off
  k_fill
  intro dp un gd cn cs adr ccd cl outer A₀ base h₀ L m news s' Q E B F X N T hk hz hd hu hpre hret
  obtain ⟨rfl, hH, hS, ih, is, lhs, lss, hturn, hb⟩ := hpre
  k_with_none
  k_with "call builtin:len" => (k_dflt (refine' at_len ?zN ?z1 is ?z2 ?_; (case zN => k_asm); (case z1 => first | exact hS | exact .tail _ hS); (case z2 => omega); intro t7 tk7))
  refine wpAny_call ?_
  k_dflt ktr_enter
  refine hide_around ?_
  intro A1
  have hz' := Heap.NoSeer.keeps hz (Fr.keep (by assumption))
  repeat' ((fail_if_success (with_reducible show wpAny _ _ (pyIter _) _ _ _)); (first | (k_unfold; (try dsimp only)) | (k_end; wrow_close) | walk1 | (dsimp only; walk1) | (leave1; walk_say "STEP leave1"; try dsimp only) | fail "no step"))
  k_dflt (refine' for_range (n := ss.length) (fun i m' nx => ∃ (D : Addr) (u v : Tok) (c : Nat), nx = (D, tup2 (fcl ss hs whole turn i).1 (fcl ss hs whole turn i).2 u v c) :: news ∧ m' (Str.ofString "shares") = some (.ref S) ∧ m' (Str.ofString "whole") = some (.int whole tw) ∧ m' (Str.ofString "had") = some (.ref H) ∧ m' (Str.ofString "turn") = some (.int turn tt) ∧ m' (Str.ofString "best") = some (.ref D)) ?zh ?zr ?zs ?zz ?zF ?zN ?zj ?_ ?_; (case zh => rfl); (case zr => k_asm); (case zF => k_asm); (case zN => k_asm); (case zs => exact range0_small (by omega) (by omega)); (case zz => exact range0_size); (case zj => exact ⟨_, _, _, 0, rfl, rfl, rfl, rfl, rfl, rfl⟩))
  · rintro i9 t9 m9 nx9 h9 tk9 own9 hi9 ho9 ⟨D9, u9, v9, c9, rfl, e1, e2, e3, e4, e5⟩ F9 N9
    refine hide ?_
    intro Qx hQx
    dsimp only [envOf] at F9 N9
    rw [Int.zero_add] at F9
    replace F9 := Fr.as F9 (put_in (put_eq e1 (put_eq e2 (put_eq e3 (put_eq e4 (put_eq e5 rfl))))))
    simp only [List.cons_append] at N9
    obtain ⟨b1, b2, b3, b4⟩ := hb i9 hi9
    have egh := get_at0 (xs := hs) (i := i9) (by omega)
    have egs := get_at0 (xs := ss) (i := i9) (by omega)
    k_sweep
    try k_fold
    k_with_none
    k_with "subscriptTail Name Name ref int" => (k_dflt first
      | (refine' at_get ?zN ?z1 ih egh ?z2 ?_ ?z3; (case zN => k_asm); (case z1 => exact .tail _ (List.mem_append_left _ hH)); (case z2 => omega); (case z3 => with_unfolding_all rfl); intro t6)
      | (refine' at_get ?zN ?z1 is egs ?z2 ?_ ?z3; (case zN => k_asm); (case z1 => exact .tail _ (List.mem_append_left _ hS)); (case z2 => omega); (case z3 => with_unfolding_all rfl); intro t6))
    k_with "binaryOp Mult int int" => (k_dflt first | refine mul_as _ (small_l b1 (by omega)) rfl ?_ | refine mul_as _ (small_ln (by omega) (by omega)) rfl ?_ | refine mul_as _ (small_l (by omega) (by omega)) rfl ?_)
    k_with "binaryOp FloorDiv int int" => (k_dflt (refine floordiv_as (-(at0 hs i9 + 1) * whole / at0 ss i9) (by omega) (Or.inr (PySem.PylongRoom.of (PySem.Heap.NoLimit.keeps (PyProof.Rows.Top.nolimit (by assumption)) (PyProof.Rows.Fr.keep (by assumption))) (by show dp + 1 + 100 < recursionLimit; omega) (PySem.SeerAt.of (Heap.NoSeer.keeps hz' (Fr.keep (by assumption))) rfl (PySem.Around.frames_deeper rfl) rfl rfl rfl rfl))) (Int.fdiv_eq_ediv_of_nonneg _ (by omega)) ?_))
    k_steps
    · rename_i l1 hA FA NA
      refine hQx _ _ (turn_end ((_, tup2 (-(-(at0 hs i9 + 1) * whole / at0 ss i9)) i9 _ _ 0) :: news) FA NA (fun p hp => (List.mem_cons.mp hp).elim (fun e => by rw [e]; exact .head _) fun h => .tail _ (.tail _ (List.mem_append_left _ h))) (fun p hp => .tail _ (.tail _ (List.mem_append_right _ hp))) (own_cons (own_tail ho9) (fun p hp => ktn_ltOf l1.2 p (List.mem_append_right _ hp))) ⟨_, _, _, 0, by rw [fcl_first (by assumption) (by assumption)], rfl, rfl, rfl, rfl, rfl⟩)
    · rename_i l1 hA FA NA
      refine hQx _ _ (turn_end ((_, tup2 (-(-(at0 hs i9 + 1) * whole / at0 ss i9)) i9 _ _ 0) :: news) FA NA (fun p hp => (List.mem_cons.mp hp).elim (fun e => by rw [e]; exact .head _) fun h => .tail _ (.tail _ (List.mem_append_left _ h))) (fun p hp => .tail _ (.tail _ (List.mem_append_right _ hp))) (own_cons (own_tail ho9) (fun p hp => ktn_ltOf l1.2 p (List.mem_append_right _ hp))) ⟨_, _, _, 0, by rw [fcl_less (by assumption) (by assumption)], rfl, rfl, rfl, rfl, rfl⟩)
    · exact hQx _ _ (turn_end ((D9, tup2 (fcl ss hs whole turn i9).1 (fcl ss hs whole turn i9).2 u9 v9 c9) :: news) (by assumption) (by assumption) (fun p hp => (List.mem_cons.mp hp).elim (fun e => by rw [e]; exact .head _) fun h => .tail _ (List.mem_append_left _ h)) (fun p hp => .tail _ (List.mem_append_right _ hp)) ho9 ⟨_, _, _, c9, by rw [fcl_keep (by assumption) (by assumption) (by assumption)], rfl, rfl, rfl, rfl, rfl⟩)
    · exact hQx _ _ (turn_end ((D9, tup2 (fcl ss hs whole turn i9).1 (fcl ss hs whole turn i9).2 u9 v9 c9) :: news) (by assumption) (by assumption) (fun p hp => (List.mem_cons.mp hp).elim (fun e => by rw [e]; exact .head _) fun h => .tail _ (List.mem_append_left _ h)) (fun p hp => .tail _ (List.mem_append_right _ hp)) ho9 ⟨_, _, _, c9, by rw [fcl_no (by assumption)], rfl, rfl, rfl, rfl, rfl⟩)
  · rintro m9 nx9 h9 tk9 ⟨D9, u9, v9, c9, rfl, e1, e2, e3, e4, e5⟩ F9 N9
    dsimp only [envOf] at F9 N9
    replace F9 := Fr.as F9 (put_eq e1 (put_eq e2 (put_eq e3 (put_eq e4 (put_eq e5 rfl)))))
    k_sweep
    k_with_none
    k_steps
    exact hret _ _ _ _ (by assumption) (News.of_mem (by assumption) fun p hp => .tail _ hp) ⟨⟨_, rfl⟩, rfl⟩
theorem fair (w : World) (loose : List Str) (mean : ExcName → Option Value) (mg mb : Str → Option Value) (S D : Addr) (sv : List Value) (c1 c2 : Nat) (ss : List Int) (T : List It) (rest : List (Addr × Obj)) :
   Call w loose mean mg mb 124 [.ref S, .ref D] 10 100 (fun news => news = rest ∧
       (S, listOf sv.toArray c2) ∈ rest ∧ (D, listOf (refs T) c1) ∈ rest ∧ (∀ it ∈ T, Held rest it) ∧ IntsAre sv ss ∧ ss.length ≤ 8 ∧ T.length ≤ 36 ∧ (∀ x ∈ ss, 0 < x) ∧ Good ss (vals T))
     (fun _ r news' => r = .bool true ∧ news' = rest) := by
  unfold Call
  w_top off
  k_fill
  intro dp un gd cn cs adr ccd cl outer A₀ base h₀ L m news s' Q E B F X N T' hk hd hu hpre hret
  obtain ⟨rfl, hS, hD, hT, is, lss, lT, pos, good⟩ := hpre
  k_with_none
  k_with "call builtin:len" => (k_dflt first
    | (refine' at_len ?zN ?z1 is ?z2 ?_; (case zN => k_asm); (case z1 => first | exact hS | exact .tail _ hS | exact .tail _ (.tail _ hS)); (case z2 => omega); intro t7 tk7)
    | (refine' told_len ?zN ?z1 ?z2 ?_; (case zN => k_asm); (case z1 => first | exact hD | exact .tail _ hD | exact .tail _ (.tail _ hD)); (case z2 => omega); intro t7 tk7))
  k_with "call builtin:sum" => (k_dflt (refine' at_sum ?zh ?zF ?zN ?z1 is ?_; (case zh => rfl); (case zF => k_asm); (case zN => k_asm); (case z1 => first | exact hS | exact .tail _ hS | exact .tail _ (.tail _ hS)); intro h7 tk7 t7 F7 N7; k_sweep))
  k_with "binaryOp Mult ref int" => (k_dflt (refine mul_rep (by k_asm) (by k_asm) (List.Mem.head _) (by omega) ?_; intro D7 h7 F7 N7 l7; simp only [AllLt, and_true] at l7; k_sweep))
  refine wpAny_call ?_
  k_dflt ktr_enter
  refine hide_around ?_
  intro A1
  repeat' ((fail_if_success (with_reducible show wpAny _ _ (pyIter _) _ _ _)); (first | (k_unfold; (try dsimp only)) | (k_end; wrow_close) | walk1 | (dsimp only; walk1) | (leave1; walk_say "STEP leave1"; try dsimp only) | fail "no step"))
  rename_i NN _
  replace NN := News.drop2 NN
  k_dflt (refine' for_range (n := T.length) (fun t m' nx => ∃ (hv : List Value) (c : Nat) (tw : Tok), nx = (D7, listOf hv.toArray c) :: news ∧ IntsAre hv (hadA ss.length ((vals T).take t)) ∧ m' (Str.ofString "shares") = some (.ref S) ∧ m' (Str.ofString "told") = some (.ref D) ∧ m' (Str.ofString "whole") = some (.int ss.sum tw) ∧ m' (Str.ofString "had") = some (.ref D7)) ?zh ?zr ?zs ?zz ?zF NN ?zj ?_ ?_; (case zh => rfl); (case zr => k_asm); (case zF => k_asm); (case zs => exact range0_small (by omega) (by omega)); (case zz => exact range0_size); (case zj => exact ⟨_, _, _, rfl, ints_rep _ _ _, rfl, rfl, rfl, rfl⟩))
  · rintro i9 t9 m9 nx9 h9 tk9 own9 hi9 ho9 ⟨hv, c9, tw, rfl, ih, e1, e2, e3, e4⟩ F9 N9
    refine hide ?_
    intro Qy hQy
    dsimp only [envOf] at F9 N9
    rw [Int.zero_add] at F9
    replace F9 := Fr.as F9 (put_in (put_eq e1 (put_eq e2 (put_eq e3 (put_eq e4 rfl)))))
    simp only [List.cons_append] at N9
    obtain ⟨it, eit⟩ : ∃ it, T[i9]? = some it := ⟨_, List.getElem?_eq_getElem hi9⟩
    obtain ⟨g, hg, ex, hel, hfirst, hfair⟩ := good i9 it.2 (by rw [List.getElem?_map, eit]; rfl)
    obtain ⟨tv, ct, hmt, iv⟩ := hT it (List.mem_of_getElem? eit)
    generalize ehs : hadA ss.length ((vals T).take i9) = hs at *
    have lhs : hs.length = ss.length := by rw [← ehs, hadA_length]
    have hbs : ∀ i, 0 ≤ at0 hs i ∧ at0 hs i ≤ 36 := fun i => by
      have := hadA_bounds ss.length ((vals T).take i9) i
      rw [ehs, List.length_take] at this
      omega
    have ehs' : hadA ss.length ((vals T).take (i9 + 1)) = bump hs g := by
      rw [List.take_add_one, List.getElem?_map, eit]
      simp only [Option.map_some, Option.toList_some]
      rw [hadA_snoc, ehs, ex, guest_rot]
    rw [ex] at iv
    obtain ⟨v1, v2, v3, v4, v5, rfl⟩ := ints5 iv
    have hne : ∀ p ∈ news ++ own9, p.1 ≠ D7 := ne_own (fun p hp => Nat.ne_of_lt (ktn_ltOf l7.2 p hp)) ho9
    have egh := get_at0 (xs := hs) (i := g) (by omega)
    k_sweep
    try k_fold
    k_with_none
    k_with "call builtin:len" => (k_dflt (refine' at_len ?zN ?z1 is ?z2 ?_; (case zN => k_asm); (case z1 => exact .tail _ (List.mem_append_left _ hS)); (case z2 => omega); intro t7 tk7))
    k_with "subscriptTail Name Name ref int" => (k_dflt first
      | (refine' told_get ?zN ?z1 ?z2 eit ?_ ?z3 ?z4; (case zN => k_asm); (case z1 => exact .tail _ (List.mem_append_left _ hD)); (case z2 => omega); (case z3 => with_unfolding_all rfl); (case z4 => (intro _; with_unfolding_all rfl))))
    k_with "subscriptTail Name Constant ref int" => (k_dflt (refine' kim_tup (j := 1) ?zN ?z1 ?zc ?zd ?z5 ?z6 ?z7 ?z8 ?_ ?z3 ?z4; (case zN => k_asm); (case z1 => exact .tail _ (List.mem_append_left _ hmt)); (case zc => exact rfl); (case zd => exact rfl); (case z5 => decide); (case z6 => decide); (case z7 => exact rfl); (case z8 => exact rfl); (case z3 => with_unfolding_all rfl); (case z4 => (intro _; with_unfolding_all rfl))))
    k_with "getItem ref int" => (k_dflt (refine' ksa_get ?zN ?z1 ih ?z5 ?z6 ?z7 ?_; (case zN => k_asm); (case z1 => exact .head _); (case z5 => omega); (case z6 => omega); (case z7 => omega); intro t6; rw [Int.toNat_natCast]))
    k_with "setItem ref int int" => (k_dflt (refine' at_set ?k1 ?k2 hne ih ?k5 ?k6 ?_; (case k1 => k_asm); (case k2 => k_asm); (case k5 => omega); (case k6 => omega); intro h6 hv6 F6 N6 i6; k_sweep))
    repeat' ((fail_if_success (with_reducible show wpAny _ _ (pyIter _) _ _ _)); (first | (k_unfold; (try dsimp only)) | (k_end; wrow_close) | walk1 | (dsimp only; walk1) | (leave1; walk_say "STEP leave1"; try dsimp only) | fail "no step"))
    change IntsAre hv6 (bump hs g) at i6
    k_dflt (refine' for_range (n := ss.length) (fun t m' nx => nx = (D7, listOf hv6.toArray c9) :: (news ++ own9) ∧ m' (Str.ofString "shares") = some (.ref S) ∧ m' (Str.ofString "told") = some (.ref D) ∧ m' (Str.ofString "whole") = some (.int ss.sum tw) ∧ m' (Str.ofString "had") = some (.ref D7) ∧ m' (Str.ofString "turn") = some (.int i9 t9)) ?zh ?zr ?zs ?zz ?zF ?zN ?zj ?_ ?_; (case zh => rfl); (case zr => k_asm); (case zF => k_asm); (case zN => k_asm); (case zs => exact range0_small (by omega) (by omega)); (case zz => exact range0_size); (case zj => exact ⟨rfl, rfl, rfl, rfl, rfl, rfl⟩))
    · rintro i8 t8 m8 nx8 h8 tk8 own8 hi8 ho8 ⟨rfl, e1, e2, e3, e4, e5⟩ F8 N8
      refine hide ?_
      intro Qx hQx
      dsimp only [envOf] at F8 N8
      rw [Int.zero_add] at F8
      replace F8 := Fr.as F8 (put_in (put_eq e1 (put_eq e2 (put_eq e3 (put_eq e4 (put_eq e5 rfl))))))
      simp only [List.cons_append] at N8
      obtain ⟨f1, f2⟩ := hfair i8 hi8
      have hb8 : 0 ≤ at0 (bump hs g) i8 ∧ at0 (bump hs g) i8 ≤ 37 := by
        have := hbs i8
        have := hbs g
        rw [at0_bump (by omega)]
        split <;> omega
      have eg1 := get_at0 (xs := bump hs g) (i := i8) (by rw [bump_length]; omega)
      have eg2 := get_at0 (xs := ss) (i := i8) (by omega)
      have lb : (bump hs g).length ≤ 100 := by rw [bump_length]; omega
      k_sweep
      try k_fold
      k_with_none
      k_with "subscriptTail Name Name ref int" => (k_dflt first
        | (refine' at_get ?zN ?z1 i6 eg1 lb ?_ ?z3; (case zN => k_asm); (case z1 => exact .head _); (case z3 => with_unfolding_all rfl); intro t6)
        | (refine' at_get ?zN ?z1 is eg2 ?z2 ?_ ?z3; (case zN => k_asm); (case z1 => exact .tail _ (List.mem_append_left _ (List.mem_append_left _ hS))); (case z2 => omega); (case z3 => with_unfolding_all rfl); intro t6))
      k_with "binaryOp Mult int int" => (k_dflt refine mul_as _ (small_r (by omega) (by omega)) rfl ?_)
      repeat' ((first | omega | (k_unfold; (try dsimp only)) | (k_end; wrow_close) | walk1 | (dsimp only; walk1) | (leave1; walk_say "STEP leave1"; try dsimp only) | fail "no step"))
      exact hQx _ _ (turn_end ((D7, listOf hv6.toArray c9) :: (news ++ own9)) (by assumption) (by assumption) (fun p hp => (List.mem_cons.mp hp).elim (fun e => by rw [e]; exact .head _) fun h => .tail _ (List.mem_append_left _ h)) (fun p hp => .tail _ (List.mem_append_right _ hp)) ho8 ⟨rfl, rfl, rfl, rfl, rfl, rfl⟩)
    · rintro m8 nx8 h8 tk8 ⟨rfl, e1, e2, e3, e4, e5⟩ F8 N8
      dsimp only [envOf] at F8 N8
      replace F8 := Fr.as F8 (put_eq e1 (put_eq e2 (put_eq e3 (put_eq e4 (put_eq e5 rfl)))))
      k_sweep
      k_with_none
      k_steps
      exact hQy _ _ (turn_end ((D7, listOf hv6.toArray c9) :: news) (by assumption) N8 (fun p hp => (List.mem_cons.mp hp).elim (fun e => by rw [e]; exact .head _) fun h => .tail _ (List.mem_append_left _ h)) (fun p hp => .tail _ (List.mem_append_right _ hp)) ho9 ⟨hv6, c9, _, rfl, by rw [ehs']; exact i6, rfl, rfl, rfl, rfl⟩)
  · rintro m9 nx9 h9 tk9 ⟨hv, c9, tw, rfl, ih, e1, e2, e3, e4⟩ F9 N9
    dsimp only [envOf] at F9 N9
    replace F9 := Fr.as F9 (put_eq e1 (put_eq e2 (put_eq e3 (put_eq e4 rfl))))
    k_sweep
    k_with_none
    k_steps
    exact hret _ _ _ _ (by assumption) (News.of_mem (by assumption) fun p hp => .tail _ hp) ⟨rfl, rfl⟩
theorem inturn (w : World) (loose : List Str) (mean : ExcName → Option Value) (mg mb : Str → Option Value) (S D : Addr) (sv : List Value) (c1 c2 : Nat) (ss : List Int) (T : List It) (rest : List (Addr × Obj)) :
   CallS w loose mean mg mb 138 [.ref S, .ref D] 120 200 (fun news => news = rest ∧
       (S, listOf sv.toArray c2) ∈ rest ∧ (D, listOf (refs T) c1) ∈ rest ∧ (∀ it ∈ T, Held rest it) ∧ IntsAre sv ss ∧ ss.length ≤ 8 ∧ T.length ≤ 36 ∧ (∀ x ∈ ss, 0 < x) ∧ Builtin.Int.intBits ss.sum ≤ 1099000 ∧ Good ss (vals T))
     (fun _ r news' => r = .bool true ∧ news' = rest) := by
  unfold CallS
  w_top off
  k_fill
  intro dp un gd cn cs adr ccd cl outer A₀ base h₀ L m news s' Q E B F X N T' hk hz hd hu hpre hret
  obtain ⟨rfl, hS, hD, hT, is, lss, lT, pos, hw, good⟩ := hpre
  k_with_none
  k_with "call builtin:len" => (k_dflt first
    | (refine' at_len ?zN ?z1 is ?z2 ?_; (case zN => k_asm); (case z1 => first | exact hS | exact .tail _ hS | exact .tail _ (.tail _ hS)); (case z2 => omega); intro t7 tk7)
    | (refine' told_len ?zN ?z1 ?z2 ?_; (case zN => k_asm); (case z1 => first | exact hD | exact .tail _ hD | exact .tail _ (.tail _ hD)); (case z2 => omega); intro t7 tk7))
  k_with "call builtin:sum" => (k_dflt (refine' at_sum ?zh ?zF ?zN ?z1 is ?_; (case zh => rfl); (case zF => k_asm); (case zN => k_asm); (case z1 => first | exact hS | exact .tail _ hS | exact .tail _ (.tail _ hS)); intro h7 tk7 t7 F7 N7; k_sweep))
  k_with "binaryOp Mult ref int" => (k_dflt (refine mul_rep (by k_asm) (by k_asm) (List.Mem.head _) (by omega) ?_; intro D7 h7 F7 N7 l7; simp only [AllLt] at l7; k_sweep))
  refine wpAny_call ?_
  k_dflt ktr_enter
  refine hide_around ?_
  intro A1
  have hz' := Heap.NoSeer.keeps hz (Fr.keep (by assumption))
  repeat' ((fail_if_success (with_reducible show wpAny _ _ (pyIter _) _ _ _)); (first | (k_unfold; (try dsimp only)) | (k_end; wrow_close) | walk1 | (dsimp only; walk1) | (leave1; walk_say "STEP leave1"; try dsimp only) | fail "no step"))
  rename_i NN _
  replace NN := News.drop2 NN
  k_dflt (refine' for_range (n := T.length) (fun t m' nx => ∃ (hv : List Value) (c : Nat) (tw : Tok), nx = (D7, listOf hv.toArray c) :: news ∧ IntsAre hv (hadA ss.length ((vals T).take t)) ∧ m' (Str.ofString "shares") = some (.ref S) ∧ m' (Str.ofString "told") = some (.ref D) ∧ m' (Str.ofString "whole") = some (.int ss.sum tw) ∧ m' (Str.ofString "had") = some (.ref D7)) ?zh ?zr ?zs ?zz ?zF NN ?zj ?_ ?_; (case zh => rfl); (case zr => k_asm); (case zF => k_asm); (case zs => exact range0_small (by omega) (by omega)); (case zz => exact range0_size); (case zj => exact ⟨_, _, _, rfl, ints_rep _ _ _, rfl, rfl, rfl, rfl⟩))
  · rintro i9 t9 m9 nx9 h9 tk9 own9 hi9 ho9 ⟨hv, c9, tw, rfl, ih, e1, e2, e3, e4⟩ F9 N9
    refine hide ?_
    intro Qx hQx
    dsimp only [envOf] at F9 N9
    rw [Int.zero_add] at F9
    replace F9 := Fr.as F9 (put_in (put_eq e1 (put_eq e2 (put_eq e3 (put_eq e4 rfl)))))
    simp only [List.cons_append] at N9
    obtain ⟨it, eit⟩ : ∃ it, T[i9]? = some it := ⟨_, List.getElem?_eq_getElem hi9⟩
    obtain ⟨g, hg, ex, hel, hfirst, hfair⟩ := good i9 it.2 (by rw [List.getElem?_map, eit]; rfl)
    clear hfair
    obtain ⟨tv, ct, hmt, iv⟩ := hT it (List.mem_of_getElem? eit)
    generalize ehs : hadA ss.length ((vals T).take i9) = hs at *
    have lhs : hs.length = ss.length := by rw [← ehs, hadA_length]
    have hbs : ∀ i, 0 ≤ at0 hs i ∧ at0 hs i ≤ 36 := fun i => by
      have := hadA_bounds ss.length ((vals T).take i9) i
      rw [ehs, List.length_take] at this
      omega
    have ehs' : hadA ss.length ((vals T).take (i9 + 1)) = bump hs g := by
      rw [List.take_add_one, List.getElem?_map, eit]
      simp only [Option.map_some, Option.toList_some]
      rw [hadA_snoc, ehs, ex, guest_rot]
    rw [ex] at iv
    obtain ⟨v1, v2, v3, v4, v5, rfl⟩ := ints5 iv
    have hne : ∀ p ∈ news ++ own9, p.1 ≠ D7 := ne_own (fun p hp => Nat.ne_of_lt (ktn_ltOf l7.2 p hp)) ho9
    have egh := get_at0 (xs := hs) (i := g) (by omega)
    have egs := get_at0 (xs := ss) (i := g) (by omega)
    have egb : (bump hs g)[g]? = some (at0 hs g + 1) := by rw [get_at0 (by rw [bump_length]; omega), at0_bump (by omega), if_pos rfl]
    have W0 := sum_pos pos (by omega)
    have s0 := mem_at0 pos hg
    obtain ⟨o1, o2, o3, o4⟩ := ope_facts (hbs g).1 (by have := hbs g; omega) W0 s0 hw (le_sum pos hg)
    obtain ⟨q1, q2, q3, q4⟩ := clo_facts (hbs g).1 (by have := hbs g; omega) W0 s0 hw (le_sum pos hg)
    have efc := fcl_is hg hel hfirst
    have hbg := hbs g
    have lb : (bump hs g).length ≤ 100 := by rw [bump_length]; omega
    have N9' : News _ _ _ ((it.1, _) :: (D7, listOf hv.toArray c9) :: (news ++ own9)) := fun p hp => (List.mem_cons.mp hp).elim (fun e => by rw [e]; exact N9 _ (.tail _ (List.mem_append_left _ hmt))) (N9 p)
    have hne' := hne _ (List.mem_append_left own9 hmt)
    clear N9
    k_sweep
    try k_fold
    k_with_none
    k_with "subscriptTail Name Name ref int" => (k_dflt first
      | (refine' told_get ?zN ?z1 ?z2 eit ?_ ?z3 ?z4; (case zN => k_asm); (case z1 => exact .tail _ (.tail _ (List.mem_append_left _ hD))); (case z2 => omega); (case z3 => with_unfolding_all rfl); (case z4 => (intro _; with_unfolding_all rfl)))
      | (refine' at_get ?zN ?z1 is egs ?z2 ?_ ?z3; (case zN => k_asm); (case z1 => exact .tail _ (.tail _ (List.mem_append_left _ hS))); (case z2 => omega); (case z3 => with_unfolding_all rfl); intro t6)
      | (refine' at_get ?zN ?z1 ih egh ?z2 ?_ ?z3; (case zN => k_asm); (case z1 => exact .tail _ (.head _)); (case z2 => omega); (case z3 => with_unfolding_all rfl); intro t6))
    repeat' ((fail_if_success (with_reducible show wpAny _ _ (call (Value.ref _) _) _ _ _)); (first | (k_unfold; (try dsimp only)) | (k_end; wrow_close) | walk1 | (dsimp only; walk1) | (leave1; walk_say "STEP leave1"; try dsimp only) | fail "no step"))
    rename_i NN
    replace NN := Mine.News.of_mem NN (l := (D7, listOf hv.toArray c9) :: (news ++ own9)) (fun p hp => .tail _ hp)
    (k_dflt (refine' CallS.use (ftc w loose mean mg mb D7 S hv sv c9 c2 hs ss ss.sum i9 _ _ ((D7, listOf hv.toArray c9) :: (news ++ own9))) hz' ?y1 ?y2 ?y3 ?y4 ?y5 ?y6 ?y7 ?y8 ?y9 ?_; (case y1 => k_asm); (case y2 => k_asm); (case y3 => k_asm); (case y4 => k_asm); (case y5 => k_asm); (case y6 => rfl); (case y7 => exact dlt hd (by decide)); (case y8 => exact dlt hu (by decide)); (case y9 => exact ⟨rfl, .head _, .tail _ (List.mem_append_left _ hS), ih, is, lhs, lss, by omega, fun i hi => ⟨(hbs i).1, (hbs i).2, mem_at0 pos hi, le_sum pos hi⟩⟩)))
    rintro r5 news5 h5 tk5 F5 N5 ⟨⟨t5, rfl⟩, rfl⟩
    rw [efc]
    clear NN
    k_sweep
    k_with_none
    k_with "subscriptTail Name Name ref int" => (k_dflt first
      | (refine' at_get ?zN ?z1 ih egh ?z2 ?_ ?z3; (case zN => k_asm); (case z1 => exact .head _); (case z2 => omega); (case z3 => with_unfolding_all rfl); intro t6)
      | (refine' at_get ?zN ?z1 (by assumption) egb lb ?_ ?z3; (case zN => k_asm); (case z1 => exact .head _); (case z3 => with_unfolding_all rfl); intro t6))
    k_with "binaryOp Mult int int" => (k_dflt first | refine mul_as _ o4 rfl ?_ | refine mul_as _ q4 rfl ?_ | refine mul_as _ (small_l (by omega) (by omega)) rfl ?_)
    k_with "getItem ref int" => (k_dflt (refine' ksa_get ?zN ?z1 ih ?z5 ?z6 ?z7 ?_; (case zN => k_asm); (case z1 => exact .head _); (case z5 => omega); (case z6 => omega); (case z7 => omega); intro t6; rw [Int.toNat_natCast]))
    k_with "setItem ref int int" => (k_dflt (refine' at_set ?k1 ?k2 hne ih ?k5 ?k6 ?_; (case k1 => k_asm); (case k2 => k_asm); (case k5 => omega); (case k6 => omega); intro h6 hv6 F6 N6 i6; change IntsAre hv6 (bump hs g) at i6; k_sweep))
    repeat' ((first | omega | (k_unfold; (try dsimp only)) | (k_end; wrow_close) | walk1 | (dsimp only; walk1) | (leave1; walk_say "STEP leave1"; try dsimp only) | fail "no step"))
    exact hQx _ _ (turn_end ((D7, listOf hv6.toArray c9) :: news) (by assumption) N6 (fun p hp => (List.mem_cons.mp hp).elim (fun e => by rw [e]; exact .head _) fun h => .tail _ (List.mem_append_left _ h)) (fun p hp => .tail _ (List.mem_append_right _ hp)) ho9 ⟨hv6, c9, _, rfl, by rw [ehs']; exact i6, rfl, rfl, rfl, rfl⟩)
  · rintro m9 nx9 h9 tk9 ⟨hv, c9, tw, rfl, ih, e1, e2, e3, e4⟩ F9 N9
    dsimp only [envOf] at F9 N9
    replace F9 := Fr.as F9 (put_eq e1 (put_eq e2 (put_eq e3 (put_eq e4 rfl))))
    k_sweep
    k_with_none
    k_steps
    exact hret _ _ _ _ (by assumption) (News.of_mem (by assumption) fun p hp => .tail _ hp) ⟨rfl, rfl⟩
theorem pop_x (w : World) (loose : List Str) (mean : ExcName → Option Value) (mg mb : Str → Option Value) (d : Addr) (xs : List It) (n : Nat) (rest : List (Addr × Obj)) (hne : xs ≠ []) :
   Call w loose mean mg mb 70 [.ref d] 3 24
    (fun news => news = (d, listOf (refs xs) n) :: rest ∧ (∀ p ∈ rest, p.1 ≠ d) ∧ (∀ it ∈ xs, Held rest it) ∧ xs.length < 900 ∧ HeapFrom ltI 0 xs) (PopPost xs d rest) := by
  obtain ⟨ys, it, rfl⟩ : ∃ ys it, xs = ys ++ [it] := ⟨xs.dropLast, xs.getLast hne, (List.dropLast_concat_getLast hne).symm⟩
  refine Call.conv (heappop_c w loose mean mg mb d ys it n rest) (fun _ ⟨h1, h2, h3, h4, h5⟩ => ⟨h1, h2, h3, by rw [List.length_append] at h4; simp at h4; omega⟩) ?_
  rintro _ r n' ⟨h1, h2, h3, h4, h5⟩ (⟨rfl, rfl, n2, rfl⟩ | ⟨x0, hx, rfl, n2, rfl⟩)
  · exact ⟨it, [], n2, rfl, rfl, .refl _, fun i a b _ _ h => by simp at h, rfl⟩
  · have hl : 0 < ys.length := (List.getElem?_eq_some_iff.mp hx).1
    exact ⟨x0, _, n2, rfl, rfl, pop_perm ltI hx, pop_heap ltI ltI_tr ltI_asy h5 hl, by rw [List.getElem?_append_left hl]; exact hx⟩
theorem push_x (w : World) (loose : List Str) (mean : ExcName → Option Value) (mg mb : Str → Option Value) (d : Addr) (xs : List It) (it : It) (n : Nat) (rest : List (Addr × Obj)) :
   Call w loose mean mg mb 63 [.ref d, .ref it.1] 2 16
    (fun news => news = (d, listOf (refs xs) n) :: rest ∧ (∀ p ∈ rest, p.1 ≠ d) ∧ (∀ it ∈ xs, Held rest it) ∧ Held rest it ∧ xs.length < 900 ∧ HeapFrom ltI 0 xs) (PushPost xs it d rest) := by
  refine Call.conv (heappush_c w loose mean mg mb d xs it n rest) (fun _ ⟨h1, h2, h3, h4, h5, h6⟩ => ⟨h1, h2, h3, h4, h5⟩) ?_
  rintro _ r n' ⟨h1, h2, h3, h4, h5, h6⟩ ⟨rfl, n2, rfl⟩
  exact ⟨rfl, _, n2, rfl, push_perm ltI, push_heap ltI ltI_tr ltI_asy h6⟩
theorem fy_x (w : World) (loose : List Str) (mean : ExcName → Option Value) (mg mb : Str → Option Value) (d : Addr) (xs : List It) (n : Nat) (rest : List (Addr × Obj)) :
   Call w loose mean mg mb 77 [.ref d] 3 24
    (fun news => news = (d, listOf (refs xs) n) :: rest ∧ (∀ p ∈ rest, p.1 ≠ d) ∧ (∀ it ∈ xs, Held rest it) ∧ xs.length < 900) (FyPost xs d rest) := by
  refine Call.conv (heapify_c w loose mean mg mb d xs n rest) (fun _ h => h) ?_
  rintro _ r n' _ ⟨rfl, n2, rfl⟩
  exact ⟨rfl, _, n2, rfl, hpfy_perm ltI _ _, heapify_heap ltI ltI_tr ltI_asy xs⟩
/-- where the root is not open, none is -/
theorem byheaps (w : World) (loose : List Str) (mean : ExcName → Option Value) (mg mb : Str → Option Value) (S : Addr) (sv : List Value) (c2 : Nat) (ss : List Int) (turns : Nat) (tt : Tok) (tabs rest : List (Addr × Obj)) :
   Call w loose mean mg mb 117 [.ref S, .int turns tt] 70 2000 (fun news => news = tabs ++ rest ∧ Tabs tabs ∧ (∀ p ∈ rest, p.1 ≠ 30) ∧ (∀ p ∈ rest, p.1 ≠ 37) ∧
       (S, listOf sv.toArray c2) ∈ rest ∧ IntsAre sv ss ∧ LenOk ss.length turns ∧ (∀ x ∈ ss, 0 < x) ∧ Builtin.Int.intBits ss.sum ≤ 1099000)
     (fun _ r news' => ∃ D T c tu tabs', r = .ref D ∧ news' = (D, listOf (refs T) c) :: (tu ++ (tabs' ++ rest)) ∧ Tabs tabs' ∧ (∀ it ∈ T, Held tu it) ∧ T.length = turns ∧ Good ss (vals T)) := by
  unfold Call
  w_top off
  k_fill
  intro dp un gd cn cs adr ccd cl outer A₀ base h₀ L m news s' Q E B F X N T' hk hd hu hpre hret
  obtain ⟨rfl, htab, hn30, hn37, hS, is, hlen, pos, hw⟩ := hpre
  have W0 := sum_pos pos hlen.1
  have hSt : (S, listOf sv.toArray c2) ∈ tabs ++ rest := List.mem_append_right _ hS
  k_with_none
  k_with "call builtin:len" => (k_dflt
    (refine' at_len ?zN ?z1 is ?z2 ?_; (case zN => k_asm); (case z1 => first | exact hSt | exact .tail _ hSt | exact .tail _ (.tail _ hSt) | exact .tail _ (.tail _ (.tail _ hSt))); (case z2 => exact hlen.le (by decide)); intro t7 tk7))
  k_with "call builtin:sum" => (k_dflt (refine' at_sum ?zh ?zF ?zN ?z1 is ?_; (case zh => rfl); (case zF => k_asm); (case zN => k_asm); (case z1 => exact hSt); intro h7 tk7 t7 F7 N7; k_sweep))
  k_with "binaryOp Mult ref int" => (k_dflt (refine mul_rep (by k_asm) (by k_asm) (List.Mem.head _) (hlen.le (by decide)) ?_; intro H7 h7 F7 N7 l7; simp only [AllLt] at l7; k_sweep))
  k_with "newList nil" => (k_dflt (refine' newList_K ?z1 ?z2 ?_ ?z3; (case z1 => k_asm); (case z2 => k_asm); (case z3 => size_fits)); intro Dq h8 F8 N8 l8; k_sweep)
  refine wpAny_call ?_
  k_dflt ktr_enter
  refine hide_around ?_
  intro A1
  repeat' ((fail_if_success (with_reducible show wpAny _ _ (pyIter _) _ _ _)); (first | (k_unfold; (try dsimp only)) | (k_end; wrow_close) | walk1 | (dsimp only; walk1) | (leave1; walk_say "STEP leave1"; try dsimp only) | fail "no step"))
  rename_i NN _
  replace NN := Mine.News.tab0 NN
  have hHr : ∀ p ∈ rest, p.1 ≠ H7 := fun p hp => Nat.ne_of_lt (ktn_ltOf l7.2 p (List.mem_append_right _ hp))
  have hDr : ∀ p ∈ rest, p.1 ≠ Dq := fun p hp => Nat.ne_of_lt (l8 p (.tail _ (.tail _ (List.mem_append_right _ hp))))
  have hHD : H7 ≠ Dq := Nat.ne_of_lt (l8 _ (.head _))
  k_dflt (refine' for_rangeO (n := ss.length) (fun t m' nx => ∃ (hv : List Value) (c : Nat) (tw : Tok) (tu : List (Addr × Obj)) (R : List It) (tabs : List (Addr × Obj)), nx = tabs ++ ((Dq, listOf (refs R) c) :: (H7, listOf hv.toArray 0) :: (tu ++ rest)) ∧ Tabs tabs ∧ AllTup tu ∧ (∀ it ∈ R, Held tu it) ∧ vals R = (List.range t).map (fun g => rot (wishAt ss (List.replicate ss.length 0) g)) ∧ IntsAre hv (List.replicate ss.length 0) ∧ m' (Str.ofString "shares") = some (.ref S) ∧ m' (Str.ofString "turns") = some (.int turns tt) ∧ m' (Str.ofString "whole") = some (.int ss.sum tw) ∧ m' (Str.ofString "had") = some (.ref H7) ∧ m' (Str.ofString "ready") = some (.ref Dq)) ?zh ?zr ?zs ?zz ?zF NN ?zj ?_ ?_; (case zh => rfl); (case zr => k_asm); (case zF => k_asm); (case zs => exact range0_small (by omega) (by have := hlen.2; omega)); (case zz => exact range0_size); (case zj => exact ⟨_, _, _, [], [], tabs, rfl, htab, (fun p hp => nomatch hp), (fun p hp => nomatch hp), rfl, ints_rep _ _ _, rfl, rfl, rfl, rfl, rfl⟩))
  · rintro i9 t9 m9 nx9 h9 tk9 own9 hi9 ho9 hor9 ⟨hv, c9, tw, tu, R, tabs9, rfl, ht9, htu, hR, hvR, ih, e1, e2, e3, e4, e5⟩ F9 N9
    refine hide ?_
    intro Qx hQx
    dsimp only [envOf] at F9 N9
    rw [Int.zero_add] at F9
    replace F9 := Fr.as F9 (put_in (put_eq e1 (put_eq e2 (put_eq e3 (put_eq e4 (put_eq e5 rfl))))))
    simp only [List.cons_append, List.append_assoc] at N9
    have hRl : R.length = i9 := by have := congrArg List.length hvR; simpa using this
    have q1 := tup_tabs N9 ht9 (fun p hp => List.mem_append_left _ hp) htu (fun p hp => List.mem_append_right _ (.tail _ (.tail _ (List.mem_append_left _ hp))))
    have q2 := list_tabs N9 ht9 (fun p hp => List.mem_append_left _ hp) (List.mem_append_right _ (.head _))
    have q3 := list_tabs N9 ht9 (fun p hp => List.mem_append_left _ hp) (List.mem_append_right _ (.tail _ (.head _)))
    have q4 := own_tabs ho9 ht9 (fun p hp => List.mem_append_left _ hp)
    have egs := get_at0 (xs := ss) (i := i9) hi9
    k_sweep
    try k_fold
    k_with_none
    repeat' ((fail_if_success (with_reducible show wpAny _ _ (call (Value.ref _) _) _ _ _)); (first | (k_unfold; (try dsimp only)) | (k_end; wrow_close) | walk1 | (dsimp only; walk1) | (leave1; walk_say "STEP leave1"; try dsimp only) | fail "no step"))
    (k_dflt (refine' Call.use (wish w loose mean mg mb H7 S hv sv 0 c2 (List.replicate ss.length 0) ss ss.sum 0 (at0 ss i9) i9 _ _ tabs9 ((Dq, listOf (refs R) c9) :: (H7, listOf hv.toArray 0) :: (tu ++ (rest ++ own9)))) ?y1 ?y2 ?y3 ?y4 ?y5 ?y6 ?y7 ?y8 ?y9 ?_; (case y1 => k_asm); (case y2 => k_asm); (case y3 => k_asm); (case y4 => k_asm); (case y5 => k_asm); (case y6 => rfl); (case y7 => exact dlt hd (by decide)); (case y8 => exact dlt hu (by decide)); (case y9 => exact ⟨rfl, ht9, off2 q2.2.1 q3.2.1 (fun p h => (q1 p h).1) hn30 (fun p h => (q4 p h).1), off2 q2.2.2 q3.2.2 (fun p h => (q1 p h).2) hn37 (fun p h => (q4 p h).2), .tail _ (.head _), .tail _ (.tail _ (List.mem_append_right _ (List.mem_append_left _ hS))), ih, is, (by rw [List.getElem?_replicate, if_pos hi9]), egs, (by rw [List.length_replicate]; exact hlen.le (by decide)), hlen.le (by decide), by decide, by decide, mem_at0 pos hi9, le_sum pos hi9, hw⟩)))
    rintro r5 news5 h5 tk5 F5 N5 ⟨t5, vs5, c5, tabs5, rfl, rfl, ht5, lt5, iv5⟩
    obtain ⟨v1, v2, v3, v4, v5, rfl⟩ := ints5 iv5
    have hoff := Off.of ho9
    have hnew : ∀ p ∈ own9, p ∈ ((t5, tup [Value.int (0 * ss.sum / at0 ss i9) v1, Value.int (-(-(0 + 1) * ss.sum / at0 ss i9)) v2, Value.int i9 v3, Value.int (0 * ss.sum % at0 ss i9) v4, Value.int (-(0 + 1) * ss.sum % at0 ss i9) v5] c5) :: (tabs5 ++ ((Dq, listOf (refs R) c9) :: (H7, listOf hv.toArray 0) :: (tu ++ (rest ++ own9))))) := fun p hp => .tail _ (List.mem_append_right _ (.tail _ (.tail _ (List.mem_append_right _ (List.mem_append_right _ hp)))))
    have hoff5 : Off own9 tabs5 := off_tabs N5 ht5 (fun p hp => .tail _ (List.mem_append_left _ hp)) hnew hor9
    have q5 := list_tabs N5 ht5 (fun p hp => .tail _ (List.mem_append_left _ hp)) (x := Dq) (.tail _ (List.mem_append_right _ (.head _)))
    have q6 : Ap Dq tu := tup_ne N5 htu (fun p hp => .tail _ (List.mem_append_right _ (.tail _ (.tail _ (List.mem_append_left _ hp))))) (.tail _ (List.mem_append_right _ (.head _)))
    clear N9
    k_sweep
    k_with_none
    k_with "subscriptTail Name Slice ref ref" => (k_dflt first
      | (refine' cut_rest ?zF ?zN ?z1 ?z2 ?_ ?z3 ?z4; (case zF => k_asm); (case zN => k_asm); (case z1 => exact .head _); (case z2 => simp); (case z3 => with_unfolding_all rfl); (case z4 => (intro _; with_unfolding_all rfl)); intro D6 h6 F6 N6 l6; k_sweep)
      | (refine' cut_first ?zF ?zN ?z1 ?_ ?z3 ?z4; (case zF => k_asm); (case zN => k_asm); (case z1 => exact .tail _ (.head _)); (case z3 => with_unfolding_all rfl); (case z4 => (intro _; with_unfolding_all rfl)); intro D7 h7 F7 N7 l7; k_sweep))
    k_with "getMethod ref" => (k_dflt (refine' getMethod_append_N (D := Dq) ?zN ?z1 ?_ ?z2 ?z3; (case zN => k_asm); (case z1 => exact .tail _ (List.mem_append_right _ (.head _))); (case z2 => rfl); (case z3 => rfl)))
    k_with "binaryOp Add ref ref" => (k_dflt (refine' tup_cat ?zF ?zN ?z1 ?z2 ?z3 ?z4 ?z5 ?_; (case zF => k_asm); (case zN => k_asm); (case z1 => exact .tail _ (.head _)); (case z2 => exact .head _); (case z3 => simp); (case z4 => simp); (case z5 => simp); intro D8 h8 F8 N8 l8; k_sweep))
    repeat' ((fail_if_success (with_reducible show wpAny _ _ (call (Value.builtin "list.append") _) _ _ _)); (first | (k_unfold; (try dsimp only)) | (k_end; wrow_close) | walk1 | (dsimp only; walk1) | (leave1; walk_say "STEP leave1"; try dsimp only) | fail "no step"))
    have sub1 : ∀ p, p ∈ tabs5 ++ ((Dq, listOf (refs (R ++ [(D8, rot (wishAt ss (List.replicate ss.length 0) i9))])) (c9 + 1)) :: (H7, listOf hv.toArray 0) :: (((D8, tup [Value.int (-(-(0 + 1) * ss.sum / at0 ss i9)) v2, Value.int i9 v3, Value.int (0 * ss.sum % at0 ss i9) v4, Value.int (-(0 + 1) * ss.sum % at0 ss i9) v5, Value.int (0 * ss.sum / at0 ss i9) v1] 0) :: tu) ++ rest)) → p ∈ (Dq, listOf (refs (R ++ [(D8, rot (wishAt ss (List.replicate ss.length 0) i9))])) (c9 + 1)) :: (D8, tup [Value.int (-(-(0 + 1) * ss.sum / at0 ss i9)) v2, Value.int i9 v3, Value.int (0 * ss.sum % at0 ss i9) v4, Value.int (-(0 + 1) * ss.sum % at0 ss i9) v5, Value.int (0 * ss.sum / at0 ss i9) v1] 0) :: (tabs5 ++ ((H7, listOf hv.toArray 0) :: (tu ++ (rest ++ own9)))) := fun p => sub_a
    have sub2 : ∀ p ∈ own9, p ∈ (Dq, listOf (refs (R ++ [(D8, rot (wishAt ss (List.replicate ss.length 0) i9))])) (c9 + 1)) :: (D8, tup [Value.int (-(-(0 + 1) * ss.sum / at0 ss i9)) v2, Value.int i9 v3, Value.int (0 * ss.sum % at0 ss i9) v4, Value.int (-(0 + 1) * ss.sum % at0 ss i9) v5, Value.int (0 * ss.sum / at0 ss i9) v1] 0) :: (tabs5 ++ ((H7, listOf hv.toArray 0) :: (tu ++ (rest ++ own9)))) := fun p hp => .tail _ (.tail _ (List.mem_append_right _ (.tail _ (List.mem_append_right _ (List.mem_append_right _ hp)))))
    have hD8 : ∀ p ∈ (tabs5 ++ ((Dq, listOf (refs R) c9) :: (H7, listOf hv.toArray 0) :: (tu ++ (rest ++ own9)))), p.1 < D8 := fun p hp => lt_mem l8 (.tail _ (.tail _ (.tail _ hp)))
    have ew : wishAt ss (List.replicate ss.length 0) i9 = wishOf 0 ss.sum (at0 ss i9) i9 := by unfold wishAt; rw [at0_replicate]
    have hdd : D8 ≠ Dq := Nat.ne_of_gt (hD8 _ (List.mem_append_right _ (.head _)))
    k_dflt (refine' it_append (it := (D8, rot (wishAt ss (List.replicate ss.length 0) i9))) (xs := R) ?x1 (News.re1 N8) ?x3 ?x4 ?_; (case x1 => exact F8); (case x3 => exact Ap.cons hdd (Ap.app q5.1 (Ap.cons hHD (Ap.app q6 (Ap.app hDr (hoff.right.head)))))); (case x4 => rw [hRl]; exact Nat.le_trans (Nat.le_of_lt hi9) (hlen.le (by decide))))
    intro h9 F9 N9
    k_sweep
    k_steps
    have iv8 : IntsAre [Value.int (-(-(0 + 1) * ss.sum / at0 ss i9)) v2, Value.int i9 v3, Value.int (0 * ss.sum % at0 ss i9) v4, Value.int (-(0 + 1) * ss.sum % at0 ss i9) v5, Value.int (0 * ss.sum / at0 ss i9) v1] (rot (wishAt ss (List.replicate ss.length 0) i9)) := by
      rw [ew]; exact .cons _ _ (.cons _ _ (.cons _ _ (.cons _ _ (.cons _ _ .nil))))
    have hD8o : Ap D8 own9 := fun p hp => Nat.ne_of_lt (hD8 p (List.mem_append_right _ (.tail _ (.tail _ (List.mem_append_right _ (List.mem_append_right _ hp))))))
    exact hQx _ _ (turn_end (tabs5 ++ ((Dq, listOf (refs (R ++ [(D8, rot (wishAt ss (List.replicate ss.length 0) i9))])) (c9 + 1)) :: (H7, listOf hv.toArray 0) :: (((D8, tup [Value.int (-(-(0 + 1) * ss.sum / at0 ss i9)) v2, Value.int i9 v3, Value.int (0 * ss.sum % at0 ss i9) v4, Value.int (-(0 + 1) * ss.sum % at0 ss i9) v5, Value.int (0 * ss.sum / at0 ss i9) v1] 0) :: tu) ++ rest))) F9 N9 (sub1) (sub2) (Off.own (hoff5.app (Off.cons hoff.right.head (Off.cons hoff.right.tail.head (Off.app (Off.cons hD8o hoff.right.tail.tail.left) hoff.right.tail.tail.right))))) ⟨hv, _, _, _, R ++ [(D8, rot (wishAt ss (List.replicate ss.length 0) i9))], tabs5, rfl, ht5, htu.cons, fun it hit => (List.mem_append.mp hit).elim (fun h => (hR it h).mono fun _ hp => .tail _ hp) (fun h => by rw [List.mem_singleton.mp h]; exact ⟨_, 0, .head _, iv8⟩), by rw [List.range_succ, List.map_append, vals, List.map_append, ← hvR]; rfl, ih, rfl, rfl, rfl, rfl, rfl⟩)
  · rintro m9 nx9 h9 tk9 ⟨hv, c9, tw, tu, R, tabs9, rfl, ht9, htu, hR, hvR, ih, e1, e2, e3, e4, e5⟩ F9 N9
    dsimp only [envOf] at F9 N9
    replace F9 := Fr.as F9 (put_eq e1 (put_eq e2 (put_eq e3 (put_eq e4 (put_eq e5 rfl)))))
    have hRl : R.length = ss.length := by have := congrArg List.length hvR; simpa using this
    have q2 := list_tabs N9 ht9 (fun p hp => List.mem_append_left _ hp) (List.mem_append_right _ (.head _))
    have q6 : Ap Dq tu := tup_ne N9 htu (fun p hp => List.mem_append_right _ (.tail _ (.tail _ (List.mem_append_left _ hp)))) (List.mem_append_right _ (.head _))
    replace N9 := News.re2 N9
    k_sweep
    try k_fold
    k_with_none
    k_with "newList nil" => (k_dflt (refine' newList_K ?z1 ?z2 ?_ ?z3; (case z1 => k_asm); (case z2 => k_asm); (case z3 => size_fits)); intro Wq h8 F8 N8 l8; k_sweep)
    repeat' ((fail_if_success (with_reducible show wpAny _ _ (call (Value.ref _) _) _ _ _)); (first | (k_unfold; (try dsimp only)) | (k_end; wrow_close) | walk1 | (dsimp only; walk1) | (leave1; walk_say "STEP leave1"; try dsimp only) | fail "no step"))
    (k_dflt (refine' Call.use (fy_x w loose mean mg mb Dq R c9 (tabs9 ++ ((H7, listOf hv.toArray 0) :: (tu ++ rest)))) ?y1 ?y2 ?y3 ?y4 ?y5 ?y6 ?y7 ?y8 ?y9 ?_; (case y1 => k_asm); (case y2 => k_asm); (case y3 => k_asm); (case y4 => k_asm); (case y5 => k_asm); (case y6 => rfl); (case y7 => exact dlt hd (by decide)); (case y8 => exact dlt hu (by decide)); (case y9 => exact ⟨rfl, Ap.app q2.1 (Ap.cons hHD (Ap.app q6 hDr)), fun it hit => (hR it hit).mono fun _ hp => List.mem_append_right _ (.tail _ (List.mem_append_left _ hp)), by rw [hRl]; exact Nat.lt_of_le_of_lt (hlen.le (Nat.le_refl _)) (by decide)⟩)))
    rintro r8 news8 h8 tk8 F8 N8 ⟨rfl, R8, n8, rfl, p8, hp8⟩
    k_sweep
    repeat' ((fail_if_success (with_reducible show wpAny _ _ (pyIter _) _ _ _)); (first | (k_unfold; (try dsimp only)) | (k_end; wrow_close) | walk1 | (dsimp only; walk1) | (leave1; walk_say "STEP leave1"; try dsimp only) | fail "no step"))
    rename_i Vq _ lV _ _ _ _ _ _ _ _ _ _ _ _ NN _
    have hAV : Dq ≠ Vq := Nat.ne_of_lt (lV _ (.head _))
    have hHV : H7 ≠ Vq := Nat.ne_of_lt (lV _ (.tail _ (List.mem_append_right _ (.head _))))
    have hAU : Dq ≠ Wq := Nat.ne_of_lt (l8 _ (.tail _ (.head _)))
    have hHU : H7 ≠ Wq := Nat.ne_of_lt (l8 _ (.tail _ (.tail _ (List.mem_append_right _ (.head _)))))
    have hVU : Vq ≠ Wq := Nat.ne_of_lt (l8 _ (.head _))
    have hVr : Ap Vq rest := fun p hp => Nat.ne_of_lt (lV p (.tail _ (List.mem_append_right _ (.tail _ (List.mem_append_right _ hp)))))
    have hUr : Ap Wq rest := fun p hp => Nat.ne_of_lt (l8 p (.tail _ (.tail _ (List.mem_append_right _ (.tail _ (List.mem_append_right _ hp))))))
    replace NN := News.re9 NN
    have hI0 : Inv ss 0 (List.replicate ss.length 0) R8 [] [] := Inv.start pos hlen.1 (hvR ▸ p8.map Prod.snd) hp8
    have hR8 : ∀ it ∈ R8, Held tu it := fun it hit => hR it (p8.mem_iff.mp hit)
    k_dflt (refine' for_rangeO (n := turns) (fun t m' nx => ∃ j, JT S Dq H7 Vq Wq turns tt ss rest False t j m' nx) ?zh ?zr ?zs ?zz ?zF NN ?zj ?_ ?_; (case zh => rfl); (case zr => k_asm); (case zF => k_asm); (case zs => exact range0_small (by omega) (by have := hlen.2.2; omega)); (case zz => exact range0_size); (case zj => exact ⟨0, .mk _ _ _ _ _ _ _ _ [] [] _ rfl rfl False.elim ht9 htu hR8 (fun _ h => nomatch h) (fun _ h => nomatch h) ih hI0 rfl rfl rfl rfl rfl rfl rfl⟩))
    · rintro i9 t9 m9 nx9 h9 tk9 own9 hi9 ho9 hor9 ⟨j9, ⟨hv, hs, cR, cV, cU, tw, tu, R, Wt, T, tabs9, rfl, rfl, -, ht9, htu, hR, hWt, hT, ih, hI, e1, e2, e3, e4, e5, e6, e7⟩⟩ F9 N9
      refine hide ?_
      intro Qz hQz
      dsimp only [envOf] at F9 N9
      rw [Int.zero_add] at F9
      replace F9 := Fr.as F9 (put_in (put_eq e1 (put_eq e2 (put_eq e3 (put_eq e4 (put_eq e5 (put_eq e6 (put_eq e7 rfl))))))))
      simp only [List.cons_append, List.append_assoc] at N9
      have hoff := Off.of ho9
      have hoA : Ap Dq own9 := hoff.right.head
      have hoH : Ap H7 own9 := hoff.right.tail.head
      have hoV : Ap Vq own9 := hoff.right.tail.tail.head
      have hoU : Ap Wq own9 := hoff.right.tail.tail.tail.head
      have hor : Off own9 rest := hoff.right.tail.tail.tail.tail.right
      have hot := own_tabs ho9 ht9 (fun p hp => List.mem_append_left _ hp)
      k_sweep
      try k_fold
      k_with_none
      repeat' ((fail_if_success (with_reducible show wpAny _ _ (exec (Stmt.While _ _ _ _) _) _ _ _)); (first | (k_unfold; (try dsimp only)) | (k_end; wrow_close) | walk1 | (dsimp only; walk1) | (leave1; walk_say "STEP leave1"; try dsimp only) | fail "no step"))
      k_dflt (refine' While_then (n₀ := Wt.length) (fun j m' nx => JT S Dq H7 Vq Wq turns tt ss (rest ++ own9) False i9 j m' nx ∧ m' (Str.ofString "turn") = some (.int i9 t9)) (fun m' nx => ∃ j, JT S Dq H7 Vq Wq turns tt ss (rest ++ own9) True i9 j m' nx ∧ m' (Str.ofString "turn") = some (.int i9 t9)) ?zF ?zN ?zj ?_ ?_ ?zp; (case zF => k_asm); (case zN => k_asm); (case zp => passes_own); (case zj => exact ⟨.mk _ _ _ _ _ _ _ _ _ _ _ rfl rfl False.elim ht9 htu hR hWt hT ih hI rfl rfl rfl rfl rfl rfl rfl, rfl⟩))
      · rintro j8 m8 nx8 h8 tk8 F8 N8 ⟨⟨hv, hs, cR, cV, cU, tw, tu, R, Wt, T, tabs8, rfl, rfl, -, ht8, htu, hR, hWt, hT, ih, hI, e1, e2, e3, e4, e5, e6, e7⟩, e8⟩
        refine hide_while ?_
        intro Wx Qx hWx hQx
        replace F8 := Fr.as F8 (put_eq e1 (put_eq e2 (put_eq e3 (put_eq e4 (put_eq e5 (put_eq e6 (put_eq e7 (put_eq e8 rfl))))))))
        have hsz := hI.size
        have hVt := (list_tabs N8 ht8 (fun p hp => List.mem_append_left _ hp) (x := Vq) (List.mem_append_right _ (.tail _ (.tail _ (.head _))))).1
        have hAt := (list_tabs N8 ht8 (fun p hp => List.mem_append_left _ hp) (x := Dq) (List.mem_append_right _ (.head _))).1
        have hVtu : Ap Vq tu := tup_ne N8 htu (fun p hp => List.mem_append_right _ (.tail _ (.tail _ (.tail _ (.tail _ (List.mem_append_left _ hp)))))) (List.mem_append_right _ (.tail _ (.tail _ (.head _))))
        have hAtu : Ap Dq tu := tup_ne N8 htu (fun p hp => List.mem_append_right _ (.tail _ (.tail _ (.tail _ (.tail _ (List.mem_append_left _ hp)))))) (List.mem_append_right _ (.head _))
        replace N8 := News.re3 N8
        rcases Wt with _ | ⟨r, Wt0⟩
        · k_sweep
          k_with "truthy ref" => (k_dflt (refine' itm_false ?zN (.head _) ?_; (case zN => k_asm); intro tk7))
          k_steps
          exact hQx _ (ExitQ.mk F8 (News.re3i N8) ⟨_, .mk _ _ _ _ _ _ _ _ [] _ _ rfl rfl (fun _ _ h => nomatch h) ht8 htu hR hWt hT ih hI rfl rfl rfl rfl rfl rfl rfl, rfl⟩)
        · have hr := hWt r (.head _)
          obtain ⟨gr, hgr, er⟩ := hI.wt r (.head _)
          obtain ⟨v1, v2, v3, v4, v5, c5, hmr⟩ := held_wish hr er
          k_sweep
          k_with "truthy ref" => (k_dflt (refine' itm_true (T := r :: Wt0) (n := cV) ?zN (.head _) ?zl rfl ?_; (case zN => k_asm); (case zl => (have := hlen.2.1; omega)); intro tk7))
          k_with "subscriptTail Name Constant ref int" => (k_dflt first
            | (refine' itm_first (T := r :: Wt0) (n := cV) (r := r) ?zN (.head _) rfl ?_ ?z3 ?z4; (case zN => k_asm); (case z3 => with_unfolding_all rfl); (case z4 => (intro _; with_unfolding_all rfl)))
            | (refine' kim_tup (j := 0) ?zN ?z1 ?zc ?zd ?z5 ?z6 ?z7 ?z8 ?_ ?z3 ?z4; (case zN => k_asm); (case z1 => exact .tail _ (List.mem_append_right _ (.tail _ (.tail _ (.tail _ (List.mem_append_left _ hmr)))))); (case zc => exact rfl); (case zd => exact rfl); (case z5 => decide); (case z6 => decide); (case z7 => exact rfl); (case z8 => exact rfl); (case z3 => with_unfolding_all rfl); (case z4 => (intro _; with_unfolding_all rfl))))
          repeat' ((fail_if_success (with_reducible show wpAny _ _ (call (Value.ref _) _) _ _ _)); (first | (k_unfold; (try dsimp only)) | (k_end; wrow_close) | walk1 | (dsimp only; walk1) | (leave1; walk_say "STEP leave1"; try dsimp only) | fail "no step"))
          rotate_left
          · have hnle : ¬ at0 hs gr * ss.sum / at0 ss gr ≤ (i9 : Int) := by assumption
            exact hQx _ (ExitQ.mk F8 (News.re3i N8) ⟨_, .mk _ _ _ _ _ _ _ _ (r :: Wt0) _ _ rfl rfl (fun _ => root_open hI.hW hI.wt (r := r) rfl (by rw [er]; exact hnle)) ht8 htu hR hWt hT ih hI rfl rfl rfl rfl rfl rfl rfl, rfl⟩)
          · have hle : at0 hs gr * ss.sum / at0 ss gr ≤ i9 := by assumption
            have hne8 : Ap Vq (tabs8 ++ ((Dq, listOf (refs R) cR) :: (H7, listOf hv.toArray 0) :: (Wq, listOf (refs T) cU) :: (tu ++ (rest ++ own9)))) := Ap.app hVt (Ap.cons hAV (Ap.cons hHV (Ap.cons hVU.symm (Ap.app hVtu (Ap.app hVr hoV)))))
            (k_dflt (refine' Call.use (pop_x w loose mean mg mb Vq (r :: Wt0) cV (tabs8 ++ ((Dq, listOf (refs R) cR) :: (H7, listOf hv.toArray 0) :: (Wq, listOf (refs T) cU) :: (tu ++ (rest ++ own9)))) (by simp)) ?y1 ?y2 ?y3 ?y4 ?y5 ?y6 ?y7 ?y8 ?y9 ?_; (case y1 => k_asm); (case y2 => k_asm); (case y3 => k_asm); (case y4 => k_asm); (case y5 => k_asm); (case y6 => rfl); (case y7 => exact dlt hd (by decide)); (case y8 => exact dlt hu (by decide)); (case y9 => exact ⟨rfl, hne8, fun it hit => (hWt it hit).mono fun _ hp => List.mem_append_right _ (.tail _ (.tail _ (.tail _ (List.mem_append_left _ hp)))), (by have := hlen.2.1; omega), hI.hW⟩)))
            rintro r7 news7 h7 tk7 F7 N7 ⟨x0, Wt', n7, rfl, rfl, p7, hp7, hx7⟩
            obtain rfl : r = x0 := Option.some.inj hx7
            k_sweep
            k_with_none
            k_with "subscriptTail Name Slice ref ref" => (k_dflt first
              | (refine' cut_rest ?zF ?zN ?z1 ?z2 ?_ ?z3 ?z4; (case zF => k_asm); (case zN => k_asm); (case z1 => exact .tail _ (List.mem_append_right _ (.tail _ (.tail _ (.tail _ (List.mem_append_left _ hmr)))))); (case z2 => simp); (case z3 => with_unfolding_all rfl); (case z4 => (intro _; with_unfolding_all rfl)); intro D6 h6 F6 N6 l6; k_sweep)
              | (refine' cut_first ?zF ?zN ?z1 ?_ ?z3 ?z4; (case zF => k_asm); (case zN => k_asm); (case z1 => exact .tail _ (.tail _ (List.mem_append_right _ (.tail _ (.tail _ (.tail _ (List.mem_append_left _ hmr))))))); (case z3 => with_unfolding_all rfl); (case z4 => (intro _; with_unfolding_all rfl)); intro D5 h5 F5 N5 l5; k_sweep))
            k_with "binaryOp Add ref ref" => (k_dflt (refine' tup_cat ?zF ?zN ?z1 ?z2 ?z3 ?z4 ?z5 ?_; (case zF => k_asm); (case zN => k_asm); (case z1 => exact .tail _ (.head _)); (case z2 => exact .head _); (case z3 => simp); (case z4 => simp); (case z5 => simp); intro D4 h4 F4 N4 l4; k_sweep))
            repeat' ((fail_if_success (with_reducible show wpAny _ _ (call (Value.ref _) _) _ _ _)); (first | (k_unfold; (try dsimp only)) | (k_end; wrow_close) | walk1 | (dsimp only; walk1) | (leave1; walk_say "STEP leave1"; try dsimp only) | fail "no step"))
            have hD4 : ∀ p ∈ (tabs8 ++ ((Dq, listOf (refs R) cR) :: (H7, listOf hv.toArray 0) :: (Wq, listOf (refs T) cU) :: (tu ++ (rest ++ own9)))), p.1 < D4 := fun p hp => lt_mem l4 (.tail _ (.tail _ (.tail _ hp)))
            have iv4 : IntsAre [Value.int (clo ss hs gr) v2, Value.int gr v3, Value.int (at0 hs gr * ss.sum % at0 ss gr) v4, Value.int (-(at0 hs gr + 1) * ss.sum % at0 ss gr) v5, Value.int (at0 hs gr * ss.sum / at0 ss gr) v1] (rot r.2) := by
              rw [er]; exact .cons _ _ (.cons _ _ (.cons _ _ (.cons _ _ (.cons _ _ .nil))))
            have hd4 : D4 ≠ Dq := Nat.ne_of_gt (hD4 _ (List.mem_append_right _ (.head _)))
            have hne4 : Ap Dq ((D4, tup [Value.int (clo ss hs gr) v2, Value.int gr v3, Value.int (at0 hs gr * ss.sum % at0 ss gr) v4, Value.int (-(at0 hs gr + 1) * ss.sum % at0 ss gr) v5, Value.int (at0 hs gr * ss.sum / at0 ss gr) v1] 0) :: (Vq, listOf (refs Wt') n7) :: (tabs8 ++ ((H7, listOf hv.toArray 0) :: (Wq, listOf (refs T) cU) :: (tu ++ (rest ++ own9))))) := Ap.cons hd4 (Ap.cons hAV.symm (Ap.app hAt (Ap.cons hHD (Ap.cons hAU.symm (Ap.app hAtu (Ap.app hDr hoA))))))
            have N4' := News.re4 N4
            clear N4
            (k_dflt (refine' Call.use (push_x w loose mean mg mb Dq R (D4, rot r.2) cR ((D4, tup [Value.int (clo ss hs gr) v2, Value.int gr v3, Value.int (at0 hs gr * ss.sum % at0 ss gr) v4, Value.int (-(at0 hs gr + 1) * ss.sum % at0 ss gr) v5, Value.int (at0 hs gr * ss.sum / at0 ss gr) v1] 0) :: (Vq, listOf (refs Wt') n7) :: (tabs8 ++ ((H7, listOf hv.toArray 0) :: (Wq, listOf (refs T) cU) :: (tu ++ (rest ++ own9)))))) ?y1 ?y2 ?y3 ?y4 ?y5 ?y6 ?y7 ?y8 ?y9 ?_; (case y1 => k_asm); (case y2 => k_asm); (case y3 => k_asm); (case y4 => exact N4'); (case y5 => k_asm); (case y6 => rfl); (case y7 => exact dlt hd (by decide)); (case y8 => exact dlt hu (by decide)); (case y9 => exact ⟨rfl, hne4, fun it hit => (hR it hit).mono fun _ hp => .tail _ (.tail _ (List.mem_append_right _ (.tail _ (.tail _ (List.mem_append_left _ hp))))), ⟨_, 0, .head _, iv4⟩, (by have := hlen.2.1; omega), hI.hR⟩)))
            rintro r6 news6 h6 tk6 F6 N6 ⟨rfl, R', n6, rfl, p6, hp6⟩
            k_sweep
            k_steps
            have hlt : Wt'.length < (r :: Wt0).length := by have := p7.length_eq; simp only [List.length_cons] at this ⊢; omega
            have hR' : ∀ it ∈ R', Held ((D4, tup [Value.int (clo ss hs gr) v2, Value.int gr v3, Value.int (at0 hs gr * ss.sum % at0 ss gr) v4, Value.int (-(at0 hs gr + 1) * ss.sum % at0 ss gr) v5, Value.int (at0 hs gr * ss.sum / at0 ss gr) v1] 0) :: tu) it := fun it hit => (List.mem_cons.mp (p6.mem_iff.mp hit)).elim (fun h => by rw [h]; exact ⟨_, 0, .head _, iv4⟩) fun h => (hR it h).mono fun _ hp => .tail _ hp
            exact hWx _ _ (while_next (n' := Wt'.length) F6 (News.re10 N6) hlt ⟨.mk hv hs n6 n7 cU tw ((D4, tup [Value.int (clo ss hs gr) v2, Value.int gr v3, Value.int (at0 hs gr * ss.sum % at0 ss gr) v4, Value.int (-(at0 hs gr + 1) * ss.sum % at0 ss gr) v5, Value.int (at0 hs gr * ss.sum / at0 ss gr) v1] 0) :: tu) R' Wt' T tabs8 rfl rfl False.elim ht8 htu.cons hR' (fun it hit => (hWt it (p7.mem_iff.mp (.tail _ hit))).mono fun _ hp => .tail _ hp) (fun it hit => (hT it hit).mono fun _ hp => .tail _ hp) ih (hI.move p7 hp7 (by rw [er]; exact hle) rfl p6 hp6) rfl rfl rfl rfl rfl rfl rfl, rfl⟩)
      · rintro h8 tk8 m8 nx8 F8 N8 ⟨j8, ⟨hv, hs, cR, cV, cU, tw, tu, R, Wt, T, tabs8, rfl, rfl, hw8, ht8, htu, hR, hWt, hT, ih, hI, e1, e2, e3, e4, e5, e6, e7⟩, e8⟩
        replace F8 := Fr.as F8 (put_eq e1 (put_eq e2 (put_eq e3 (put_eq e4 (put_eq e5 (put_eq e6 (put_eq e7 (put_eq e8 rfl))))))))
        have hw8 := hw8 trivial
        have hsz := hI.size
        have mT : ∀ p ∈ tabs8, p ∈ tabs8 ++ ((Dq, listOf (refs R) cR) :: (H7, listOf hv.toArray 0) :: (Vq, listOf (refs Wt) cV) :: (Wq, listOf (refs T) cU) :: (tu ++ (rest ++ own9))) := fun p hp => List.mem_append_left _ hp
        have mU : ∀ p ∈ tu, p ∈ tabs8 ++ ((Dq, listOf (refs R) cR) :: (H7, listOf hv.toArray 0) :: (Vq, listOf (refs Wt) cV) :: (Wq, listOf (refs T) cU) :: (tu ++ (rest ++ own9))) := fun p hp => List.mem_append_right _ (.tail _ (.tail _ (.tail _ (.tail _ (List.mem_append_left _ hp)))))
        have qA := list_tabs N8 ht8 mT (x := Dq) (List.mem_append_right _ (.head _))
        have qH := list_tabs N8 ht8 mT (x := H7) (List.mem_append_right _ (.tail _ (.head _)))
        have qV := list_tabs N8 ht8 mT (x := Vq) (List.mem_append_right _ (.tail _ (.tail _ (.head _))))
        have qU := list_tabs N8 ht8 mT (x := Wq) (List.mem_append_right _ (.tail _ (.tail _ (.tail _ (.head _)))))
        have hAtu : Ap Dq tu := tup_ne N8 htu mU (List.mem_append_right _ (.head _))
        have hHtu : Ap H7 tu := tup_ne N8 htu mU (List.mem_append_right _ (.tail _ (.head _)))
        have hVtu : Ap Vq tu := tup_ne N8 htu mU (List.mem_append_right _ (.tail _ (.tail _ (.head _))))
        have hUtu : Ap Wq tu := tup_ne N8 htu mU (List.mem_append_right _ (.tail _ (.tail _ (.tail _ (.head _)))))
        have qtu := tup_tabs N8 ht8 mT htu mU
        have hne := hI.nonempty pos hlen.1 hw8
        replace N8 := News.re2 N8
        k_sweep
        k_with_none
        k_with "getMethod ref" => (k_dflt (refine' getMethod_append_N (D := Wq) ?zN ?z1 ?_ ?z2 ?z3; (case zN => k_asm); (case z1 => exact .tail _ (List.mem_append_right _ (.tail _ (.tail _ (.head _))))); (case z2 => rfl); (case z3 => rfl)))
        repeat' ((fail_if_success (with_reducible show wpAny _ _ (call (Value.ref _) _) _ _ _)); (first | (k_unfold; (try dsimp only)) | (k_end; wrow_close) | walk1 | (dsimp only; walk1) | (leave1; walk_say "STEP leave1"; try dsimp only) | fail "no step"))
        (k_dflt (refine' Call.use (pop_x w loose mean mg mb Dq R cR (tabs8 ++ ((H7, listOf hv.toArray 0) :: (Vq, listOf (refs Wt) cV) :: (Wq, listOf (refs T) cU) :: (tu ++ (rest ++ own9)))) hne) ?y1 ?y2 ?y3 ?y4 ?y5 ?y6 ?y7 ?y8 ?y9 ?_; (case y1 => k_asm); (case y2 => k_asm); (case y3 => k_asm); (case y4 => k_asm); (case y5 => k_asm); (case y6 => rfl); (case y7 => exact dlt hd (by decide)); (case y8 => exact dlt hu (by decide)); (case y9 => exact ⟨rfl, Ap.app qA.1 (Ap.cons hHD (Ap.cons hAV.symm (Ap.cons hAU.symm (Ap.app hAtu (Ap.app hDr hoA))))), fun it hit => (hR it hit).mono fun _ hp => List.mem_append_right _ (.tail _ (.tail _ (.tail _ (List.mem_append_left _ hp)))), (by have := hlen.2.1; omega), hI.hR⟩)))
        rintro r7 news7 h7 tk7 F7 N7 ⟨x0, R', n7, rfl, rfl, p7, hp7, hx7⟩
        have hxR : x0 ∈ R := p7.mem_iff.mp (.head _)
        have hleast := root_least ltI ltI_tr ltI_asy hI.hR hx7
        obtain ⟨g, hg, eg⟩ := hI.guest hxR
        obtain ⟨v1, v2, v3, v4, v5, c5, hmx⟩ := held_rot (hR x0 hxR) eg
        k_sweep
        repeat' ((fail_if_success (with_reducible show wpAny _ _ (call (Value.builtin "list.append") _) _ _ _)); (first | (k_unfold; (try dsimp only)) | (k_end; wrow_close) | walk1 | (dsimp only; walk1) | (leave1; walk_say "STEP leave1"; try dsimp only) | fail "no step"))
        have N7' := News.re5 N7
        clear N7
        have hTl := hI.len
        k_dflt (refine' it_append (it := x0) (xs := T) ?x1 N7' ?x3 ?x4 ?_; (case x1 => exact F7); (case x3 => exact Ap.cons hAU (Ap.app qU.1 (Ap.cons hHU (Ap.cons hVU (Ap.app hUtu (Ap.app hUr hoU)))))); (case x4 => have := hlen.2.2; omega))
        intro h6 F6 N6
        replace N6 := News.re6 N6
        clear N7'
        have hwl := hI.hlen
        have hwb := hI.bounds
        have egh := get_at0 (xs := hs) (i := g) (by omega)
        have egT : (T ++ [x0])[i9]? = some x0 := by rw [List.getElem?_append_right (by omega), hTl]; simp
        have hTl2 : (T ++ [x0]).length ≤ 100 := by have := hlen.2.2; rw [List.length_append, hTl]; simp; omega
        k_sweep
        have hneH : Ap H7 ((Wq, listOf (refs (T ++ [x0])) (cU + 1)) :: (Dq, listOf (refs R') n7) :: (tabs8 ++ ((Vq, listOf (refs Wt) cV) :: (tu ++ (rest ++ own9))))) := Ap.cons hHU.symm (Ap.cons hHD.symm (Ap.app qH.1 (Ap.cons hHV.symm (Ap.app hHtu (Ap.app hHr hoH)))))
        have hb1 := hwb g
        have hb2 := hlen.2.2
        have hb3 := hlen.2.1
        have egs := get_at0 (xs := ss) (i := g) hg
        have egb : (bump hs g)[g]? = some (at0 hs g + 1) := by rw [get_at0 (by rw [bump_length]; omega), at0_bump (by omega), if_pos rfl]
        have lb : (bump hs g).length ≤ 100 := by rw [bump_length]; omega
        k_with_none
        k_with "subscriptTail Name Name ref int" => (k_dflt (refine' told_get ?zN ?z1 ?z2 egT ?_ ?z3 ?z4; (case zN => k_asm); (case z1 => exact .tail _ (.head _)); (case z2 => exact hTl2); (case z3 => with_unfolding_all rfl); (case z4 => (intro _; with_unfolding_all rfl))))
        k_with "subscriptTail Name Constant ref int" => (k_dflt (refine' kim_tup (j := 1) ?zN ?z1 ?zc ?zd ?z5 ?z6 ?z7 ?z8 ?_ ?z3 ?z4; (case zN => k_asm); (case z1 => exact .tail _ (.tail _ (.tail _ (List.mem_append_right _ (.tail _ (List.mem_append_left _ hmx)))))); (case zc => exact rfl); (case zd => exact rfl); (case z5 => decide); (case z6 => decide); (case z7 => exact rfl); (case z8 => exact rfl); (case z3 => with_unfolding_all rfl); (case z4 => (intro _; with_unfolding_all rfl))))
        k_with "getItem ref int" => (k_dflt (refine' ksa_get ?zN ?z1 ih ?z5 ?z6 ?z7 ?_; (case zN => k_asm); (case z1 => exact .head _); (case z5 => omega); (case z6 => omega); (case z7 => omega); intro t6; rw [Int.toNat_natCast]))
        k_with "setItem ref int int" => (k_dflt (refine' at_set ?k1 ?k2 hneH ih ?k5 ?k6 ?_; (case k1 => k_asm); (case k2 => k_asm); (case k5 => omega); (case k6 => omega); intro h6 hv6 F6 N6 i6; change IntsAre hv6 (bump hs g) at i6; k_sweep))
        repeat' ((fail_if_success (with_reducible show wpAny _ _ (call (Value.ref _) _) _ _ _)); (first | (k_unfold; (try dsimp only)) | (k_end; wrow_close) | walk1 | (dsimp only; walk1) | (leave1; walk_say "STEP leave1"; try dsimp only) | fail "no step"))
        replace N6 := News.re7 N6
        (k_dflt (refine' Call.use (wish w loose mean mg mb H7 S hv6 sv 0 c2 (bump hs g) ss ss.sum (at0 hs g + 1) (at0 ss g) g _ _ tabs8 ((H7, listOf hv6.toArray 0) :: (Wq, listOf (refs (T ++ [x0])) (cU + 1)) :: (Dq, listOf (refs R') n7) :: (Vq, listOf (refs Wt) cV) :: (tu ++ (rest ++ own9)))) ?y1 ?y2 ?y3 ?y4 ?y5 ?y6 ?y7 ?y8 ?y9 ?_; (case y1 => k_asm); (case y2 => k_asm); (case y3 => k_asm); (case y4 => k_asm); (case y5 => k_asm); (case y6 => rfl); (case y7 => exact dlt hd (by decide)); (case y8 => exact dlt hu (by decide)); (case y9 => exact ⟨rfl, ht8, Ap.cons qH.2.1 (Ap.cons qU.2.1 (Ap.cons qA.2.1 (Ap.cons qV.2.1 (Ap.app (fun p h => (qtu p h).1) (Ap.app hn30 (fun p h => (hot p h).1)))))), Ap.cons qH.2.2 (Ap.cons qU.2.2 (Ap.cons qA.2.2 (Ap.cons qV.2.2 (Ap.app (fun p h => (qtu p h).2) (Ap.app hn37 (fun p h => (hot p h).2)))))), .head _, .tail _ (.tail _ (.tail _ (.tail _ (List.mem_append_right _ (List.mem_append_left _ hS))))), i6, is, egb, egs, lb, hlen.le (by decide), by omega, by omega, mem_at0 pos hg, le_sum pos hg, hw⟩)))
        rintro r5 news5 h5 tk5 F5 N5 ⟨t5, vs5, c5, tabs5, rfl, rfl, ht5, lt5, iv5⟩
        have hoff5 : Off own9 tabs5 := off_tabs N5 ht5 (fun p hp => .tail _ (List.mem_append_left _ hp)) (fun p hp => .tail _ (List.mem_append_right _ (.tail _ (.tail _ (.tail _ (.tail _ (List.mem_append_right _ (List.mem_append_right _ hp)))))))) hor9
        have hofft : Off own9 tu := off_tup N5 htu (fun p hp => .tail _ (List.mem_append_right _ (.tail _ (.tail _ (.tail _ (.tail _ (List.mem_append_left _ hp))))))) (fun p hp => .tail _ (List.mem_append_right _ (.tail _ (.tail _ (.tail _ (.tail _ (List.mem_append_right _ (List.mem_append_right _ hp)))))))) hor9
        have qV5 := (list_tabs N5 ht5 (fun p hp => .tail _ (List.mem_append_left _ hp)) (x := Vq) (.tail _ (List.mem_append_right _ (.tail _ (.tail _ (.tail _ (.head _))))))).1
        have ht5V : t5 ≠ Vq := Nat.ne_of_gt (lt_mem lt5 (.tail _ (.tail _ (.tail _ (.head _)))))
        have ht5o : Ap t5 own9 := fun p hp => Nat.ne_of_lt (lt_mem lt5 (.tail _ (.tail _ (.tail _ (.tail _ (List.mem_append_right _ (List.mem_append_right _ hp)))))))
        have hneV : Ap Vq ((t5, tup vs5 c5) :: (tabs5 ++ ((H7, listOf hv6.toArray 0) :: (Wq, listOf (refs (T ++ [x0])) (cU + 1)) :: (Dq, listOf (refs R') n7) :: (tu ++ (rest ++ own9))))) := Ap.cons ht5V (Ap.app qV5 (Ap.cons hHV (Ap.cons hVU.symm (Ap.cons hAV (Ap.app hVtu (Ap.app hVr hoV))))))
        have eb : wishAt ss (bump hs g) g = wishOf (at0 hs g + 1) ss.sum (at0 ss g) g := by unfold wishAt; rw [at0_bump (by omega), if_pos rfl]
        rw [← eb] at iv5
        replace N5 := News.re8 N5
        k_sweep
        k_with_none
        repeat' ((fail_if_success (with_reducible show wpAny _ _ (call (Value.ref _) _) _ _ _)); (first | (k_unfold; (try dsimp only)) | (k_end; wrow_close) | walk1 | (dsimp only; walk1) | (leave1; walk_say "STEP leave1"; try dsimp only) | fail "no step"))
        (k_dflt (refine' Call.use (push_x w loose mean mg mb Vq Wt (t5, wishAt ss (bump hs g) g) cV ((t5, tup vs5 c5) :: (tabs5 ++ ((H7, listOf hv6.toArray 0) :: (Wq, listOf (refs (T ++ [x0])) (cU + 1)) :: (Dq, listOf (refs R') n7) :: (tu ++ (rest ++ own9)))))) ?y1 ?y2 ?y3 ?y4 ?y5 ?y6 ?y7 ?y8 ?y9 ?_; (case y1 => k_asm); (case y2 => k_asm); (case y3 => k_asm); (case y4 => k_asm); (case y5 => k_asm); (case y6 => rfl); (case y7 => exact dlt hd (by decide)); (case y8 => exact dlt hu (by decide)); (case y9 => exact ⟨rfl, hneV, fun it hit => (hWt it hit).mono fun _ hp => .tail _ (List.mem_append_right _ (.tail _ (.tail _ (.tail _ (List.mem_append_left _ hp))))), ⟨vs5, c5, .head _, iv5⟩, (by omega), hI.hW⟩)))
        rintro r4 news4 h4 tk4 F4 N4 ⟨rfl, Wt', n4, rfl, p4, hp4⟩
        k_sweep
        k_steps
        have hI' := hI.turn pos hlen.1 hw8 p7 hleast hp7 hg eg (z := (t5, wishAt ss (bump hs g) g)) rfl p4 hp4
        exact hQz _ _ (turn_end (tabs5 ++ ((Dq, listOf (refs R') n7) :: (H7, listOf hv6.toArray 0) :: (Vq, listOf (refs Wt') n4) :: (Wq, listOf (refs (T ++ [x0])) (cU + 1)) :: (((t5, tup vs5 c5) :: tu) ++ rest))) F4 N4 (fun p hp => sub_b hp) (fun p hp => .tail _ (.tail _ (List.mem_append_right _ (.tail _ (.tail _ (.tail _ (List.mem_append_right _ (List.mem_append_right _ hp)))))))) (Off.own (hoff5.app (Off.cons hoA (Off.cons hoH (Off.cons hoV (Off.cons hoU (Off.app (Off.cons ht5o hofft) hor))))))) ⟨_, .mk hv6 (bump hs g) n7 n4 (cU + 1) tw ((t5, tup vs5 c5) :: tu) R' Wt' (T ++ [x0]) tabs5 rfl rfl False.elim ht5 htu.cons (fun it hit => (hR it (p7.mem_iff.mp (.tail _ hit))).mono fun _ hp => .tail _ hp) (fun it hit => (List.mem_cons.mp (p4.mem_iff.mp hit)).elim (fun h => by rw [h]; exact ⟨vs5, c5, .head _, iv5⟩) fun h => (hWt it h).mono fun _ hp => .tail _ hp) (fun it hit => (List.mem_append.mp hit).elim (fun h => (hT it h).mono fun _ hp => .tail _ hp) (fun h => by rw [List.mem_singleton.mp h]; exact (hR x0 hxR).mono fun _ hp => .tail _ hp)) i6 hI' rfl rfl rfl rfl rfl rfl rfl⟩)
    · rintro m9 nx9 h9 tk9 ⟨j9, ⟨hv, hs, cR, cV, cU, tw, tu, R, Wt, T, tabs9, rfl, rfl, -, ht9, htu, hR, hWt, hT, ih, hI, e1, e2, e3, e4, e5, e6, e7⟩⟩ F9 N9
      dsimp only [envOf] at F9 N9
      replace F9 := Fr.as F9 (put_eq e1 (put_eq e2 (put_eq e3 (put_eq e4 (put_eq e5 (put_eq e6 (put_eq e7 rfl)))))))
      k_sweep
      k_with_none
      k_steps
      exact hret _ _ _ _ (by assumption) (News.fin (by assumption)) ⟨Wq, T, cU, tu, tabs9, rfl, rfl, ht9, hT, hI.len, hI.good⟩
theorem right (w : World) (loose : List Str) (mean : ExcName → Option Value) (mg mb : Str → Option Value) (S : Addr) (sv : List Value) (c2 : Nat) (ss : List Int) (turns : Nat) (tt : Tok) (tabs rest : List (Addr × Obj)) :
   CallS w loose mean mg mb 145 [.ref S, .int turns tt] 130 2100 (fun news => news = tabs ++ rest ∧ Tabs tabs ∧ (∀ p ∈ rest, p.1 ≠ 30) ∧ (∀ p ∈ rest, p.1 ≠ 37) ∧
       (S, listOf sv.toArray c2) ∈ rest ∧ IntsAre sv ss ∧ LenOk ss.length turns ∧ (∀ x ∈ ss, 0 < x) ∧ Builtin.Int.intBits ss.sum ≤ 1099000)
     (fun _ r news' => r = .bool true ∧ ∃ tabs', news' = tabs' ++ rest ∧ Tabs tabs') := by
  unfold CallS
  w_top off
  k_fill
  intro dp un gd cn cs adr ccd cl outer A₀ base h₀ L m news s' Q E B F X N T' hk hz hd hu hpre hret
  obtain ⟨rfl, htab, hn30, hn37, hS, is, hlen, pos, hw⟩ := hpre
  k_with_none
  refine wpAny_call ?_
  k_dflt ktr_enter
  refine hide_around ?_
  intro A1
  have hz' := Heap.NoSeer.keeps hz (Fr.keep (by assumption))
  repeat' ((fail_if_success (with_reducible show wpAny _ _ (call (Value.ref _) _) _ _ _)); (first | (k_unfold; (try dsimp only)) | (k_end; wrow_close) | walk1 | (dsimp only; walk1) | (leave1; walk_say "STEP leave1"; try dsimp only) | fail "no step"))
  (k_dflt (refine' Call.use (byheaps w loose mean mg mb S sv c2 ss turns _ tabs rest) ?y1 ?y2 ?y3 ?y4 ?y5 ?y6 ?y7 ?y8 ?y9 ?_; (case y1 => k_asm); (case y2 => k_asm); (case y3 => k_asm); (case y4 => k_asm); (case y5 => k_asm); (case y6 => rfl); (case y7 => exact dlt hd (by decide)); (case y8 => exact dlt hu (by decide)); (case y9 => exact ⟨rfl, htab, hn30, hn37, hS, is, hlen, pos, hw⟩)))
  rintro r5 news5 h5 tk5 F5 N5 ⟨D, T, c, tu, tabs5, rfl, rfl, ht5, hT, hTl, hgood⟩
  have hTl36 : T.length ≤ 36 := by rw [hTl]; exact hlen.2.2
  have mS : (S, listOf sv.toArray c2) ∈ (D, listOf (refs T) c) :: (tu ++ (tabs5 ++ rest)) := .tail _ (List.mem_append_right _ (List.mem_append_right _ hS))
  have hT' : ∀ it ∈ T, Held ((D, listOf (refs T) c) :: (tu ++ (tabs5 ++ rest))) it := fun it hit => (hT it hit).mono fun _ hp => .tail _ (List.mem_append_left _ hp)
  k_sweep
  repeat' ((fail_if_success (with_reducible show wpAny _ _ (call (Value.ref _) _) _ _ _)); (first | (k_unfold; (try dsimp only)) | (k_end; wrow_close) | walk1 | (dsimp only; walk1) | (leave1; walk_say "STEP leave1"; try dsimp only) | fail "no step"))
  (k_dflt (refine' Call.use (fair w loose mean mg mb S D sv c c2 ss T ((D, listOf (refs T) c) :: (tu ++ (tabs5 ++ rest)))) ?y1 ?y2 ?y3 ?y4 ?y5 ?y6 ?y7 ?y8 ?y9 ?_; (case y1 => k_asm); (case y2 => k_asm); (case y3 => k_asm); (case y4 => k_asm); (case y5 => k_asm); (case y6 => rfl); (case y7 => exact dlt hd (by decide)); (case y8 => exact dlt hu (by decide)); (case y9 => exact ⟨rfl, mS, .head _, hT', is, hlen.2.1, hTl36, pos, hgood⟩)))
  rintro r6 news6 h6 tk6 F6 N6 ⟨rfl, rfl⟩
  k_sweep
  repeat' ((fail_if_success (with_reducible show wpAny _ _ (call (Value.ref _) _) _ _ _)); (first | (k_unfold; (try dsimp only)) | (k_end; wrow_close) | walk1 | (dsimp only; walk1) | (leave1; walk_say "STEP leave1"; try dsimp only) | fail "no step"))
  (k_dflt (refine' CallS.use (inturn w loose mean mg mb S D sv c c2 ss T ((D, listOf (refs T) c) :: (tu ++ (tabs5 ++ rest)))) hz' ?y1 ?y2 ?y3 ?y4 ?y5 ?y6 ?y7 ?y8 ?y9 ?_; (case y1 => k_asm); (case y2 => k_asm); (case y3 => k_asm); (case y4 => k_asm); (case y5 => k_asm); (case y6 => rfl); (case y7 => exact dlt hd (by decide)); (case y8 => exact dlt hu (by decide)); (case y9 => exact ⟨rfl, mS, .head _, hT', is, hlen.2.1, hTl36, pos, hw, hgood⟩)))
  rintro r7 news7 h7 tk7 F7 N7 ⟨rfl, rfl⟩
  k_sweep
  k_steps
  exact hret _ _ _ _ (by assumption) (News.of_mem (by assumption) fun p hp => .tail _ (List.mem_append_right _ hp)) ⟨rfl, tabs5, rfl, ht5⟩
theorem right_use {w : World} {loose : List Str} {mean : ExcName → Option Value} {mg mb : Str → Option Value} {D : Addr} {ws : List Value} {ns tl : List Int} {turns : Nat} {v : Int} {tt : Tok} {b c d : Addr × Obj}
    {dp un : Nat} {gd : Option (List Code)} {cn : Str} {cs : Scope} {a : Addr} {ccd : Value} {cl : List (Str × Addr)} {outer : List Env} {A₀ : Around} {base h₀ : Heap} {L : Addr} {m : Str → Option Value} {s : Shared} {Q E : Value → Shared → Prop}
    (hz : h₀.NoSeer) (N : News h₀ L s.heap [(D, listOf ws.toArray 0), b, c, d, (37, tabObj #[]), (30, tabObj #[])]) (hia : IntsAre ws ((ns.take 6).map absOne ++ tl)) (hlay : PyData.layable0 (.list (ns.map .int)) = true) (l37 : 37 < D) (l30 : 30 < D)
    (htl : tl = [] ∧ 2 ≤ ns.length ∨ tl = [2, 3]) (hv : v = (turns : Int)) (htn : turns ≤ 36)
    (B : Below A₀ base outer h₀) (F : Fr h₀ L s.heap m) (X : (hd.heap_39 w.params).In h₀) (T : Top topProg loose mean mg mb h₀) (hk : cs.kind = .function) (hdp : dp + 130 < recursionLimit) (hun : un + 2100 < cLine)
    (ret : ∀ h' tk', Fr h₀ L h' m → GrownAll [(41, 37), (34, 30)] h' → Q (.bool true) { s with heap := h', toks := tk' }) :
    wpAny (model PySem.Challenge.rw_mq0261_01.row.prog w) (ktrTop dp un gd cn cs L a ccd cl outer) (call (.ref 145) [.ref D, .int v tt]) Q E s := by
  subst hv
  obtain ⟨f1, f2, f3⟩ := shares_facts (ns := ns) (tl := tl) (n := 1048576) (fun x hx => intBits_le_of_item hx hlay) (by decide) (htl.elim (fun h => .inl h.1) .inr)
  have f4 : 0 < ((ns.take 6).map absOne ++ tl).length := by
    rw [List.length_append, List.length_map, List.length_take]
    rcases htl with ⟨_, h⟩ | rfl
    · omega
    · simp
  refine CallS.use (right w loose mean mg mb D ws 0 _ turns tt [(30, tabObj #[]), (37, tabObj #[])] [(D, listOf ws.toArray 0)]) hz B F X (News.main N) T hk hdp hun ⟨rfl, tabs0, ne_one l30, ne_one l37, .head _, hia, ⟨f4, f3, htn⟩, f1, Nat.le_trans f2 (by decide)⟩ ?_
  rintro r news' h' tk' F' N' ⟨rfl, tabs', rfl, ht'⟩
  exact ret h' tk' F' (grown_of N' ht')
end
end Mine

namespace Mine
set_option maxRecDepth 100000
set_option maxHeartbeats 8000000
theorem main_holds : PySem.Challenge.rw_mq0261_01.Holds := hd (by
  k_go0
  have hz := ghost_seer (by assumption) (Top.seer (p := hd.view_39) (by assumption) no_imports)
  k_with_none
  repeat' ((fail_if_success (with_reducible show wpAny _ _ (call (Value.ref 145) _) _ _ _)); (first | (k_unfold; (try dsimp only)) | (k_end; wrow_close) | walk1 | (dsimp only; walk1) | (leave1; walk_say "STEP leave1"; try dsimp only) | fail "no step"))
  · rename IntsAre _ (List.map _ (List.take 6 _) ++ [2, 3]) => hia
    rename News _ _ _ [_, _, _, _, _, _] => kNN
    rename PyData.layable0 _ = true => hLay
    have l1 := ‹_ < _ ∧ _ < _ ∧ _ < _ ∧ 37 < _ ∧ 30 < _›
    k_dflt (refine' right_use (turns := 12) hz ?n1 ?n2 ?n3 ?n4 ?n5 ?n6 ?n7 ?n8 ?y1 ?y2 ?y3 ?y5 ?y6 ?y7 ?y8 ?_; (case y1 => k_asm); (case y2 => k_asm); (case y3 => k_asm); (case y5 => k_asm); (case y6 => rfl); (case y7 => decide); (case y8 => decide +kernel); (case n1 => exact kNN); (case n2 => exact hia); (case n3 => exact hLay); (case n4 => exact l1.2.2.2.1); (case n5 => exact l1.2.2.2.2); (case n6 => exact .inr rfl); (case n7 => exact rfl); (case n8 => exact by decide))
    intro h5 tk5 F5 hgr
    refine ⟨?_, hgr⟩
    refine goodW_bool F5 (by assumption) (raisesW_false ?_) ?_
    · wrow_none_raised
    · wrow_post
  · rename IntsAre _ (List.map _ (List.take 6 _) ++ []) => hia
    rename News _ _ _ [_, _, _, _, _, _] => kNN
    rename PyData.layable0 _ = true => hLay
    have l1 := ‹_ < _ ∧ _ < _ ∧ _ < _ ∧ 37 < _ ∧ 30 < _›
    have h2 := ‹¬ ((List.length _ : Nat) : Int) < 2›
    k_dflt (refine' right_use hz ?n1 ?n2 ?n3 ?n4 ?n5 ?n6 ?n7 ?n8 ?y1 ?y2 ?y3 ?y5 ?y6 ?y7 ?y8 ?_; (case y1 => k_asm); (case y2 => k_asm); (case y3 => k_asm); (case y5 => k_asm); (case y6 => rfl); (case y7 => decide); (case y8 => decide +kernel); (case n1 => exact kNN); (case n2 => exact hia); (case n3 => exact hLay); (case n4 => exact l1.2.2.2.1); (case n5 => exact l1.2.2.2.2); (case n6 => exact .inl ⟨rfl, by omega⟩); (case n7 => exact (turns_eq _).1); (case n8 => exact (turns_eq _).2))
    intro h5 tk5 F5 hgr
    refine ⟨?_, hgr⟩
    refine goodW_bool F5 (by assumption) (raisesW_false ?_) ?_
    · wrow_none_raised
    · wrow_post
  · rename IntsAre _ (List.map _ (List.take 6 _) ++ []) => hia
    rename News _ _ _ [_, _, _, _, _, _] => kNN
    rename PyData.layable0 _ = true => hLay
    have l1 := ‹_ < _ ∧ _ < _ ∧ _ < _ ∧ 37 < _ ∧ 30 < _›
    have h2 := ‹¬ ((List.length _ : Nat) : Int) < 2›
    k_dflt (refine' right_use (turns := 12) hz ?n1 ?n2 ?n3 ?n4 ?n5 ?n6 ?n7 ?n8 ?y1 ?y2 ?y3 ?y5 ?y6 ?y7 ?y8 ?_; (case y1 => k_asm); (case y2 => k_asm); (case y3 => k_asm); (case y5 => k_asm); (case y6 => rfl); (case y7 => decide); (case y8 => decide +kernel); (case n1 => exact kNN); (case n2 => exact hia); (case n3 => exact hLay); (case n4 => exact l1.2.2.2.1); (case n5 => exact l1.2.2.2.2); (case n6 => exact .inl ⟨rfl, by omega⟩); (case n7 => exact rfl); (case n8 => exact by decide))
    intro h5 tk5 F5 hgr
    refine ⟨?_, hgr⟩
    refine goodW_bool F5 (by assumption) (raisesW_false ?_) ?_
    · wrow_none_raised
    · wrow_post)
end Mine

theorem PySem.Challenge.cw_mq0261_01_holds : PySem.Challenge.rw_mq0261_01.Holds := by
  exact Mine.main_holds
