import PyProof.Rows.All
import Wide.All
import OpenK.AllK
import Wide.FinOn
import PySem.Challenge.RW_aw5005_01
open PySem PySem.W PyProof.Rows PySem.Calls
set_option Elab.async false
set_option linter.all false
section
namespace Mine
def sqF : Nat → Nat → Nat
  | 0, _ => 0
  | f + 1, n => if (2 * sqF f (n / 4) + 1) * (2 * sqF f (n / 4) + 1) ≤ n then 2 * sqF f (n / 4) + 1 else 2 * sqF f (n / 4)
theorem sqF_spec : ∀ (f n : Nat), n < 4 ^ f → sqF f n * sqF f n ≤ n ∧ n < (sqF f n + 1) * (sqF f n + 1) := by
  intro f
  induction f with
  | zero => intro n h; simp [sqF] at *; omega
  | succ f ih =>
    intro n h
    have h4 : n / 4 < 4 ^ f := by rw [Nat.pow_succ] at h; omega
    obtain ⟨a, b⟩ := ih (n / 4) h4
    unfold sqF
    generalize sqF f (n / 4) = s at a b ⊢
    have e1 : (2 * s) * (2 * s) = 4 * (s * s) := by grind
    have e2 : (2 * s + 1 + 1) * (2 * s + 1 + 1) = 4 * ((s + 1) * (s + 1)) := by grind
    by_cases c : (2 * s + 1) * (2 * s + 1) ≤ n
    · rw [if_pos c]; exact ⟨c, by omega⟩
    · rw [if_neg c]; exact ⟨by omega, by omega⟩
def isqN (n : Nat) : Nat := sqF (n.log2 / 2 + 1) n
theorem isqN_spec (n : Nat) : isqN n * isqN n ≤ n ∧ n < (isqN n + 1) * (isqN n + 1) := by
  refine sqF_spec _ _ ?_
  have h1 : n < 2 ^ (n.log2 + 1) := Nat.lt_log2_self
  have h2 : 2 ^ (n.log2 + 1) ≤ 2 ^ (2 * (n.log2 / 2 + 1)) := Nat.pow_le_pow_right (by decide) (by omega)
  have h3 : (4 : Nat) ^ (n.log2 / 2 + 1) = 2 ^ (2 * (n.log2 / 2 + 1)) := by rw [Nat.pow_mul]
  omega
def isq (x : Int) : Int := (isqN x.toNat : Int)
theorem isq_nonneg (x : Int) : 0 ≤ isq x := Int.natCast_nonneg _
theorem isq_spec {x : Int} (h : 0 ≤ x) : isq x * isq x ≤ x ∧ x < (isq x + 1) * (isq x + 1) := by
  have h1 := isqN_spec x.toNat
  unfold isq
  generalize isqN x.toNat = s at h1 ⊢
  have e : x = (x.toNat : Int) := (Int.toNat_of_nonneg h).symm
  rw [e]
  constructor
  · exact_mod_cast h1.1
  · exact_mod_cast h1.2
theorem sq_unique {x a b : Int} (ha : 0 ≤ a) (hb : 0 ≤ b) (a1 : a * a ≤ x) (a2 : x < (a + 1) * (a + 1)) (b1 : b * b ≤ x) (b2 : x < (b + 1) * (b + 1)) : a = b := by
  rcases Int.lt_trichotomy a b with h | h | h
  · have := Int.mul_le_mul (show a + 1 ≤ b by omega) (show a + 1 ≤ b by omega) (by omega) hb
    omega
  · exact h
  · have := Int.mul_le_mul (show b + 1 ≤ a by omega) (show b + 1 ≤ a by omega) (by omega) ha
    omega
theorem isq_eq {x r : Int} (hr : 0 ≤ r) (h1 : r * r ≤ x) (h2 : x < (r + 1) * (r + 1)) : isq x = r := by
  have hx : 0 ≤ x := Int.le_trans (Int.mul_nonneg hr hr) h1
  exact sq_unique (isq_nonneg x) hr (isq_spec hx).1 (isq_spec hx).2 h1 h2

def NewtP (x r : Int) : Prop := 1 ≤ r ∧ Builtin.Int.intBits r ≤ 2000 ∧ x < (r+1)*(r+1)
theorem half (a : Int) : a.fdiv (2 ^ Int.toNat 1) = a / 2 := by
  rw [show (2:Int) ^ Int.toNat 1 = 2 from rfl, Int.fdiv_eq_ediv_of_nonneg _ (by decide)]
theorem sh0 (x : Int) : 0 ≤ ((Builtin.Int.intBits x : Int) + 1).fdiv (2 ^ Int.toNat 1) := by rw [half]; omega
theorem sh1 {x : Int} (h : 0 ≤ x ∧ Builtin.Int.intBits x ≤ 2000) : ((Builtin.Int.intBits x : Int) + 1).fdiv (2 ^ Int.toNat 1) ≤ 1000000 := by rw [half]; omega
theorem pow_cast (k : Nat) : ((2 : Int) ^ k) = ((2 ^ k : Nat) : Int) := by simp
theorem newt0 {x : Int} (h : 0 ≤ x ∧ Builtin.Int.intBits x ≤ 2000) : NewtP x (1 * 2 ^ (((Builtin.Int.intBits x : Int) + 1).fdiv (2 ^ Int.toNat 1)).toNat) := by
  rw [half, Int.one_mul]
  have hb := intBits_le_iff.mp (Nat.le_refl (Builtin.Int.intBits x))
  generalize Builtin.Int.intBits x = b at h hb ⊢
  obtain ⟨k, hk⟩ : ∃ k : Nat, k = (((b : Int) + 1) / 2).toNat := ⟨_, rfl⟩
  rw [← hk]
  have hk2 : b ≤ k + k ∧ k ≤ 1000 := by omega
  have hp : 2 ^ b ≤ 2 ^ k * 2 ^ k := by rw [← Nat.pow_add]; exact Nat.pow_le_pow_right (by decide) hk2.1
  have h1 : 1 ≤ 2 ^ k := Nat.one_le_two_pow
  unfold NewtP
  rw [pow_cast]
  refine ⟨by exact_mod_cast h1, intBits_le_iff.mpr ?_, ?_⟩
  · rw [Int.natAbs_natCast]; exact Nat.pow_lt_pow_right (by decide) (by omega)
  · generalize 2 ^ k = p at hp h1 ⊢
    have h2 : x < ((p * p : Nat) : Int) := by omega
    have h3 : ((p : Int) + 1) * (p + 1) = p * p + 2 * p + 1 := by grind
    rw [h3]
    rw [Int.natCast_mul] at h2
    omega
theorem quot {x r : Int} (hr : 1 ≤ r) : x.fdiv r * r ≤ x ∧ x < x.fdiv r * r + r := by
  rw [Int.fdiv_eq_ediv_of_nonneg _ (by omega)]
  have h1 := Int.mul_ediv_add_emod x r
  have h2 := Int.emod_nonneg x (show r ≠ 0 by omega)
  have h3 := Int.emod_lt_of_pos x (show 0 < r by omega)
  rw [Int.mul_comm] at h1
  omega
theorem sq_nonneg' (a : Int) : 0 ≤ a * a := by
  rcases Int.le_total 0 a with h | h
  · exact Int.mul_nonneg h h
  · have := Int.mul_nonneg (show 0 ≤ -a by omega) (show 0 ≤ -a by omega)
    rwa [Int.neg_mul_neg] at this
theorem newt_arith {x r q y : Int} (hx : x < q * r + r) (hy : r + q < 2 * y + 2) : x < (y + 1) * (y + 1) ∨ y + 1 < 0 ∨ r + q + 1 < 0 := by
  by_cases h0 : r + q + 1 < 0
  · exact .inr (.inr h0)
  refine .inl ?_
  have h1 : 0 ≤ (r - (q + 1)) * (r - (q + 1)) := sq_nonneg' _
  have e1 : (r - (q + 1)) * (r - (q + 1)) = (r + q + 1) * (r + q + 1) - 4 * (q * r + r) := by grind
  have h2 : (r + q + 1) * (r + q + 1) ≤ (2 * y + 2) * (2 * y + 2) := Int.mul_le_mul (by omega) (by omega) (by omega) (by omega)
  have e2 : (2 * y + 2) * (2 * y + 2) = 4 * ((y + 1) * (y + 1)) := by grind
  omega
theorem newt1 {x r : Int} (h : 0 ≤ x ∧ Builtin.Int.intBits x ≤ 2000) (h0 : x ≠ 0) (hr : NewtP x r) (hn : ¬ r ≤ (r + x.fdiv r).fdiv (2 ^ Int.toNat 1)) : NewtP x ((r + x.fdiv r).fdiv (2 ^ Int.toNat 1)) := by
  rw [half] at hn ⊢
  obtain ⟨r1, r2, r3⟩ := hr
  obtain ⟨q1, q2⟩ := quot (x := x) r1
  have hq : 0 ≤ x.fdiv r := by rw [Int.fdiv_eq_ediv_of_nonneg _ (by omega)]; exact Int.ediv_nonneg h.1 (by omega)
  generalize x.fdiv r = q at *
  obtain ⟨y, hy⟩ : ∃ y, y = (r + q) / 2 := ⟨_, rfl⟩
  rw [← hy] at hn ⊢
  have key : x < (y + 1) * (y + 1) := by
    rcases newt_arith (x := x) (r := r) (q := q) (y := y) q2 (by omega) with k | k | k
    · exact k
    · omega
    · omega
  have hy1 : 1 ≤ y := by
    rcases Int.lt_or_le y 1 with k | k
    · have : y = 0 := by omega
      subst this
      simp at key
      omega
    · exact k
  exact ⟨hy1, intBits_le_of_natAbs (by omega) r2, key⟩
theorem newt2 {x r : Int} (hr : NewtP x r) (hn : r ≤ (r + x.fdiv r).fdiv (2 ^ Int.toNat 1)) : isq x = r := by
  rw [half] at hn
  obtain ⟨r1, _, r3⟩ := hr
  obtain ⟨q1, q2⟩ := quot (x := x) r1
  refine isq_eq (by omega) ?_ r3
  have : r ≤ x.fdiv r := by omega
  have := Int.mul_le_mul_of_nonneg_right this (show 0 ≤ r by omega)
  omega
theorem newtz {x : Int} (h : x = 0) : isq x = x := by subst h; decide
theorem newt3 {x r : Int} (hr : NewtP x r) (hn : ¬ r ≤ (r + x.fdiv r).fdiv (2 ^ Int.toNat 1)) : ((r + x.fdiv r).fdiv (2 ^ Int.toNat 1)).toNat < r.toNat := by
  obtain ⟨r1, _, _⟩ := hr
  omega
theorem NewtP.ne {x r : Int} (hr : NewtP x r) : r ≠ 0 := by unfold NewtP at hr; omega
theorem NewtP.log {x r : Int} (hr : NewtP x r) : r.natAbs.log2 < 9000 := by
  have h := intBits_le_iff.mp hr.2.1
  have h0 : r.natAbs ≠ 0 := by have := hr.1; omega
  have := (Nat.log2_lt h0).mpr h
  omega
theorem isq_le {x : Int} (h : 0 ≤ x) : isq x ≤ x := by
  have h1 := (isq_spec h).1
  have h2 := isq_nonneg x
  rcases Int.lt_or_le (isq x) 1 with k | k
  · omega
  · have := Int.mul_le_mul_of_nonneg_right k h2
    omega
theorem isq_mul {x : Int} (h : 0 ≤ x ∧ Builtin.Int.intBits x ≤ 2000) : IntMulOk (isq x) (isq x) := by
  have h1 := isq_le h.1
  have h2 := isq_nonneg x
  have h3 : Builtin.Int.intBits (isq x) ≤ 2000 := intBits_le_of_natAbs (by omega) h.2
  exact IntMulOk.of_le h3 h3 (by decide)
end Mine
end
section
namespace Mine
set_option maxRecDepth 100000
set_option maxHeartbeats 4000000
section
variable {prog : Program} {w : World} {A : Around} {E : Value → Shared → Prop} {s : Shared} {h₀ : Heap} {L : Addr} {m : Str → Option Value} {env : Env}

/-- a for loop, its iterable evaluated -/
def ForSrc (prog : Program) (w : World) (A : Around) (E : Value → Shared → Prop) (env : Env) (x : Str) (px : Pos) (body : List Stmt) (Q : Flow → Shared → Prop) (xv : Value) (s₁ : Shared) : Prop :=
  wpAny (model prog w) A (pyIter xv) (fun it s₂ => codeAny (model prog w) A (.forLoop (.Name x px) it body [] env) (fun r s' => match r with | .ok f => Q f s' | .error e => cameBackBy (model prog w) A env E e s') s₂) E s₁
theorem for_src {iter : Expr} {x : Str} {px pos : Pos} {body : List Stmt} {Q : Flow → Shared → Prop} (h : wpAny (model prog w) A (eval iter env) (ForSrc prog w A E env x px body Q) E s)
    (hs : ∀ x, foldedSetIterable iter env x = pure x := by intro _; rfl) : wpAny (model prog w) A (exec (.For (.Name x px) iter body [] pos) env) Q E s := wpAny_For h hs

def FEnd {σ : Type} (h₀ : Heap) (L : Addr) (I : Addr) (oI : Obj) (M : σ → Str → Option Value) (Led : σ → List (Addr × Obj)) (P : σ → Prop) (s₁ s₂ : Shared) : Prop :=
  ∃ (c : σ) (h' : Heap) (tk' : Nat) (m' : Str → Option Value) (news' : List (Addr × Obj)), s₂ = { s₁ with heap := h', toks := tk' } ∧ Fr h₀ L h' m' ∧ (∀ z, m' z = M c z) ∧ News h₀ L h' news' ∧ (I, oI) ∈ news' ∧ (∀ p ∈ Led c, p ∈ news') ∧ (∀ p ∈ Led c, @Ne Nat p.1 I) ∧ P c
theorem FEnd.intro {σ : Type} {I : Addr} {oI : Obj} {M : σ → Str → Option Value} {Led : σ → List (Addr × Obj)} {P : σ → Prop} {s₁ : Shared} {h' : Heap} {tk' : Nat} {m' : Str → Option Value} {news' : List (Addr × Obj)} (c : σ)
    (F : Fr h₀ L h' m') (N : News h₀ L h' news') (hm : ∀ z, m' z = M c z) (hI : (I, oI) ∈ news') (hl : ∀ p ∈ Led c, p ∈ news') (ho : ∀ p ∈ Led c, @Ne Nat p.1 I) (hp : P c) : FEnd h₀ L I oI M Led P s₁ { s₁ with heap := h', toks := tk' } :=
  ⟨c, h', tk', m', news', rfl, F, hm, N, hI, hl, ho, hp⟩
def FPost {σ : Type} (h₀ : Heap) (L : Addr) (I : Addr) (oI : Obj) (M : σ → Str → Option Value) (Led : σ → List (Addr × Obj)) (P : σ → Prop) (Q : Flow → Shared → Prop) (s₁ : Shared) (f : Flow) (s₂ : Shared) : Prop :=
  match f with
  | .ret v => Q (.ret v) s₂
  | .brk => Q .next s₂
  | _ => FEnd h₀ L I oI M Led P s₁ s₂

theorem ForSrc.range {σ : Type} {x : Str} {px : Pos} {body : List Stmt} {Q : Flow → Shared → Prop} {news : List (Addr × Obj)} {r : Addr} {a b c : Int} {t u v : Tok} {n : Nat}
    (hh : A.handled = none) (F : Fr h₀ L s.heap m) (N : News h₀ L s.heap news) (hr : IsRange s.heap r a b c t u v) (hsm : Builtin.Range.small a b c = true) (hn : Builtin.Range.rangeSize a b c = (n : Int))
    (M : σ → Str → Option Value) (Led : σ → List (Addr × Obj)) (P : Nat → σ → Prop) (c₀ : σ) (hM : ∀ z, m z = M c₀ z) (hL : ∀ p ∈ Led c₀, p ∈ news) (h0 : P 0 c₀)
    (turn : ∀ (i : Nat) (d : σ) t h tk I, i < n → P i d → (∀ p ∈ Led d, @Ne Nat p.1 I) → Fr h₀ L h (M d) → News h₀ L h ((I, krsIt (a + ((i + 1 : Nat) : Int) * c) ((n : Int) - ((i + 1 : Nat) : Int)) c) :: Led d) →
      wpAny (model prog w) A (assign (.Name x px) env (.int (a + (i : Int) * c) t)) (fun _ s' => wpAny (model prog w) A (execs body env) (FPost h₀ L I (krsIt (a + ((i + 1 : Nat) : Int) * c) ((n : Int) - ((i + 1 : Nat) : Int)) c) M Led (P (i + 1)) Q { s with heap := h, toks := tk }) E s') E { s with heap := h, toks := tk })
    (done : ∀ (d : σ) h tk, P n d → Fr h₀ L h (M d) → News h₀ L h (Led d) → Q .next { s with heap := h, toks := tk })
    (hE : PassesOwn (model prog w) A env E) : ForSrc prog w A E env x px body Q (.ref r) s := by
  refine wpAny_pyIter_range hr hsm ?_
  have W : Walks prog w A s.heap.objs.size [s.heap.objs.size] [s.heap.objs.size] n (fun i v => ∃ t, v = .int (a + (i : Int) * c) t)
      (fun i h => IsRangeIter h s.heap.objs.size (a + (i : Nat) * c) ((n : Int) - (i : Nat)) c) := Walks.range hh _ a c n
  have hI₀ := next_is_new F
  have hIL : L ≠ s.heap.objs.size := Nat.ne_of_lt F.ns.lt
  have hmM : m = M c₀ := funext hM
  refine codeAny_forLoop
    (fun k s' => ∃ h' tk i d, s' = { s with heap := h', toks := tk } ∧ i ≤ n ∧ k = n + 1 - i ∧ IsRangeIter h' s.heap.objs.size (a + (i : Nat) * c) ((n : Int) - (i : Nat)) c ∧ Fr h₀ L h' (M d) ∧ News h₀ L h' (Led d) ∧ (∀ p ∈ Led d, @Ne Nat p.1 s.heap.objs.size) ∧ P i d) ?_ (n + 1)
    ⟨_, s.toks, 0, c₀, rfl, Nat.zero_le _, rfl, by rw [hn]; simpa using Heap.get?_push_size _ rfl, hmM ▸ F.keeps fun _ _ e => Heap.get?_push_of_some _ e, fun p hp => N.grown (fun _ _ e => Heap.get?_push_of_some _ e) p (hL p hp), fun p hp => Nat.ne_of_lt (Heap.lt_size (N p (hL p hp)).1), h0⟩
  rintro k s' ⟨h', tk, i, d, rfl, hi, rfl, hst, F', N', hne, hP⟩
  by_cases hlt : i < n
  · refine W.item i _ _ _ hlt hst fun v h₁ tk₁ hv hst₁ hk₁ => ?_
    obtain ⟨t, rfl⟩ := hv
    have F₁ : Fr h₀ L h₁ (M d) := LCg.fr_but F' hk₁ hIL hI₀
    have N₁ : News h₀ L h₁ (Led d) := LCg.news_but N' hk₁ hne
    have z : h₁.get? s.heap.objs.size = some (krsIt (a + ((i + 1 : Nat) : Int) * c) ((n : Int) - ((i + 1 : Nat) : Int)) c) := hst₁
    refine wpAny_passesOwn hE (wpAny_mono (turn i d t h₁ tk₁ s.heap.objs.size hlt hP hne F₁ (fun p hp => ?_)) (fun _ s₂ h₂ => wpAny_passesOwn hE (wpAny_mono h₂ (fun f s₃ h₃ => ?_) fun _ _ e => e)) fun _ _ e => e)
    · rcases List.mem_cons.mp hp with rfl | hp
      · exact ⟨z, Ne.symm hIL, hI₀⟩
      · exact N₁ p hp
    · have fin : FEnd h₀ L s.heap.objs.size (krsIt (a + ((i + 1 : Nat) : Int) * c) ((n : Int) - ((i + 1 : Nat) : Int)) c) M Led (P (i + 1)) { s with heap := h₁, toks := tk₁ } s₃ →
          ∃ m, m < n + 1 - i ∧ ∃ h' tk i d, s₃ = { s with heap := h', toks := tk } ∧ i ≤ n ∧ m = n + 1 - i ∧ IsRangeIter h' s.heap.objs.size (a + (i : Nat) * c) ((n : Int) - (i : Nat)) c ∧ Fr h₀ L h' (M d) ∧ News h₀ L h' (Led d) ∧ (∀ p ∈ Led d, @Ne Nat p.1 s.heap.objs.size) ∧ P i d := by
        rintro ⟨d', h₄, tk₄, m₄, news₄, rfl, F₄, hm₄, N₄, hI₄, hl₄, ho₄, hP₄⟩
        have e₄ : m₄ = M d' := funext hm₄
        exact ⟨n + 1 - (i + 1), by omega, h₄, tk₄, i + 1, d', rfl, hlt, rfl, (N₄ _ hI₄).1, e₄ ▸ F₄, fun p hp => N₄ p (hl₄ p hp), ho₄, hP₄⟩
      cases f with
      | ret v => exact h₃
      | brk => exact h₃
      | next => exact fin h₃
      | cont => exact fin h₃
  · have hin : i = n := by omega
    subst hin
    refine W.done _ _ _ hst fun h₁ tk₁ hk₁ => wpAny_execs_nil ?_
    exact done d h₁ tk₁ hP (LCg.fr_but F' hk₁ hIL hI₀) (LCg.news_but N' hk₁ hne)

/-- comprehensions over a range by any step -/
theorem step_st {I : Addr} {a c : Int} {n : Nat} : ∀ i (h h' : Heap) (o : Obj) (nw : List (Addr × Obj)), IsRangeIter h I (a + (i : Nat) * c) ((n : Int) - (i : Nat)) c → h.get? I = some o → h'.get? I = some o → (∀ b o, h₀.get? b = some o → h'.get? b = some o) → News h₀ L h' nw → True → IsRangeIter h' I (a + (i : Nat) * c) ((n : Int) - (i : Nat)) c :=
  fun i h h' o nw st e e' _ _ _ => by
    have st' : h.get? I = some _ := st
    show h'.get? I = some _
    rw [e', ← e]; exact st'
def RSrc (prog : Program) (w : World) (A : Around) (h₀ : Heap) (L : Addr) (m : Str → Option Value) (env : Env) (elt : Expr) (x : Str) (scope : Scope) (cl : List (Str × Addr)) (Fin : Shared → List Value → List (Addr × Obj) → Prop) (xv : Value) (s₁ : Shared) : Prop :=
  ∃ r a b c t u v n news, xv = .ref r ∧ A.handled = none ∧ Fr h₀ L s₁.heap m ∧ News h₀ L s₁.heap news ∧ IsRange s₁.heap r a b c t u v ∧ Builtin.Range.small a b c = true ∧ Builtin.Range.rangeSize a b c = ((n : Nat) : Int) ∧ n ≤ sizeLine ∧
    ∀ s₂ : Shared, (∃ h, s₂ = { s₁ with heap := h }) → LCg.CompRest prog w A h₀ L m env elt x scope cl s₂ (fun _ => True) (fun i v => ∃ t, v = .int (a + (i : Int) * c) t) (Fin s₂) n 0 [] news
theorem RSrc.intro {elt : Expr} {x : Str} {scope : Scope} {cl : List (Str × Addr)} {Fin : Shared → List Value → List (Addr × Obj) → Prop} {r : Addr} {a b c : Int} {t u v : Tok} {n : Nat} {news : List (Addr × Obj)} {s₁ : Shared}
    (hh : A.handled = none) (F : Fr h₀ L s₁.heap m) (N : News h₀ L s₁.heap news) (hr : IsRange s₁.heap r a b c t u v) (hsm : Builtin.Range.small a b c = true) (hn : Builtin.Range.rangeSize a b c = ((n : Nat) : Int)) (hsz : n ≤ sizeLine)
    (h : ∀ g, LCg.CompRest prog w A h₀ L m env elt x scope cl { s₁ with heap := g } (fun _ => True) (fun i v => ∃ t, v = .int (a + (i : Int) * c) t) (Fin { s₁ with heap := g }) n 0 [] news) :
    RSrc prog w A h₀ L m env elt x scope cl Fin (.ref r) s₁ := ⟨r, a, b, c, t, u, v, n, news, rfl, hh, F, N, hr, hsm, hn, hsz, fun _ ⟨g, e⟩ => e ▸ h g⟩
theorem ListComp_R {elt iter : Expr} {x : Str} {px : Pos} {scope : Scope} {cl : List (Str × Addr)} {pos : Pos} {Q : Value → Shared → Prop} (F₀ : Fr h₀ L s.heap m)
    (hclos : closureFor scope env = pure cl) (hcell : ∀ y ∈ scope.names, y.2 ≠ .cell) (hkind : scope.kind = .function)
    (hnames : ∀ y ∈ scope.names, y.2 = .local → scope.names.lookup y.1 = some .local) (hx : scope.names.lookup x = some .local)
    (h : wpAny (model prog w) A (eval iter env) (RSrc prog w A h₀ L m env elt x scope cl (fun s₂ => LCg.FinE h₀ L m s₂ Q)) E s)
    (hs : ∀ x, foldedSetIterable iter env x = pure x := by intro _; rfl) :
    wpAny (model prog w) A (eval (.ListComp elt [⟨.Name x px, iter, [], 0⟩] scope pos) env) Q E s := by
  rw [eval_ListComp]
  refine wpAny_comprehension_free (use := none) rfl hs hclos hkind hnames (wpAny_mono h (fun xv s₁ h₁ => ?_) fun _ _ e => e)
  obtain ⟨r, a, b, c, t, u, v, n, news, rfl, hh, F, N, hr, hsm, hn, hsz, R⟩ := h₁
  refine wpAny_pyIter_range hr hsm ?_
  refine LCg.block_U (Walks.range hh _ a c n) hsz (fun i h st => ⟨_, st⟩) step_st hcell hkind hx (by show IsRangeIter _ _ _ _ _; rw [hn]; simpa using Heap.get?_push_size _ rfl) (fun b hb => ?_)
    (F.keeps fun _ _ e => Heap.get?_push_of_some _ e) (N.grown fun _ _ e => Heap.get?_push_of_some _ e) (Nat.ne_of_lt F.ns.lt) (next_is_new F) (fun p hp => Nat.ne_of_lt (Heap.lt_size (N p hp).1)) trivial (R _ ⟨_, rfl⟩) ?_
  · rw [List.mem_singleton.mp hb]
    show s₁.heap.objs.size < (s₁.heap.push _).objs.size
    rw [Heap.size_push]; exact Nat.lt_succ_self _
  · intro D C h tk m' ys news' F' N' o1 hn hC₀ hD₀ hCL hDL hCD offC fin
    refine ⟨m', hn, fun h'' hs'' => fin D h'' tk (F'.change hs'' hCL hC₀) (fun p hp => ?_) o1⟩
    refine ⟨hs''.extBut _ _ ?_ (N' p hp).1, (N' p hp).2⟩
    rcases List.mem_cons.mp hp with rfl | hp
    · exact Ne.symm hCD
    · exact offC p hp

/-- with one test -/
def RSrcT (prog : Program) (w : World) (A : Around) (h₀ : Heap) (L : Addr) (m : Str → Option Value) (env : Env) (ct elt : Expr) (x : Str) (scope : Scope) (cl : List (Str × Addr)) (Fin : Shared → List Value → List (Addr × Obj) → Prop) (xv : Value) (s₁ : Shared) : Prop :=
  ∃ r a b c t u v n news, xv = .ref r ∧ A.handled = none ∧ Fr h₀ L s₁.heap m ∧ News h₀ L s₁.heap news ∧ IsRange s₁.heap r a b c t u v ∧ Builtin.Range.small a b c = true ∧ Builtin.Range.rangeSize a b c = ((n : Nat) : Int) ∧ n ≤ sizeLine ∧
    ∀ s₂ : Shared, (∃ h, s₂ = { s₁ with heap := h }) → LCt.CompRestT prog w A h₀ L m env ct elt x scope cl s₂ (fun _ => True) (fun i v => ∃ t, v = .int (a + (i : Int) * c) t) (Fin s₂) n 0 [] news
theorem RSrcT.intro {ct elt : Expr} {x : Str} {scope : Scope} {cl : List (Str × Addr)} {Fin : Shared → List Value → List (Addr × Obj) → Prop} {r : Addr} {a b c : Int} {t u v : Tok} {n : Nat} {news : List (Addr × Obj)} {s₁ : Shared}
    (hh : A.handled = none) (F : Fr h₀ L s₁.heap m) (N : News h₀ L s₁.heap news) (hr : IsRange s₁.heap r a b c t u v) (hsm : Builtin.Range.small a b c = true) (hn : Builtin.Range.rangeSize a b c = ((n : Nat) : Int)) (hsz : n ≤ sizeLine)
    (h : ∀ g, LCt.CompRestT prog w A h₀ L m env ct elt x scope cl { s₁ with heap := g } (fun _ => True) (fun i v => ∃ t, v = .int (a + (i : Int) * c) t) (Fin { s₁ with heap := g }) n 0 [] news) :
    RSrcT prog w A h₀ L m env ct elt x scope cl Fin (.ref r) s₁ := ⟨r, a, b, c, t, u, v, n, news, rfl, hh, F, N, hr, hsm, hn, hsz, fun _ ⟨g, e⟩ => e ▸ h g⟩
theorem ListComp_RT {ct elt iter : Expr} {x : Str} {px : Pos} {scope : Scope} {cl : List (Str × Addr)} {pos : Pos} {Q : Value → Shared → Prop} (F₀ : Fr h₀ L s.heap m)
    (hclos : closureFor scope env = pure cl) (hcell : ∀ y ∈ scope.names, y.2 ≠ .cell) (hkind : scope.kind = .function)
    (hnames : ∀ y ∈ scope.names, y.2 = .local → scope.names.lookup y.1 = some .local) (hx : scope.names.lookup x = some .local)
    (h : wpAny (model prog w) A (eval iter env) (RSrcT prog w A h₀ L m env ct elt x scope cl (fun s₂ => LCg.FinE h₀ L m s₂ Q)) E s)
    (hs : ∀ x, foldedSetIterable iter env x = pure x := by intro _; rfl) :
    wpAny (model prog w) A (eval (.ListComp elt [⟨.Name x px, iter, [ct], 0⟩] scope pos) env) Q E s := by
  rw [eval_ListComp]
  refine wpAny_comprehension_free (use := none) rfl hs hclos hkind hnames (wpAny_mono h (fun xv s₁ h₁ => ?_) fun _ _ e => e)
  obtain ⟨r, a, b, c, t, u, v, n, news, rfl, hh, F, N, hr, hsm, hn, hsz, R⟩ := h₁
  refine wpAny_pyIter_range hr hsm ?_
  refine LCt.block_T (Walks.range hh _ a c n) hsz (fun i h st => ⟨_, st⟩) step_st hcell hkind hx (by show IsRangeIter _ _ _ _ _; rw [hn]; simpa using Heap.get?_push_size _ rfl) (fun b hb => ?_)
    (F.keeps fun _ _ e => Heap.get?_push_of_some _ e) (N.grown fun _ _ e => Heap.get?_push_of_some _ e) (Nat.ne_of_lt F.ns.lt) (next_is_new F) (fun p hp => Nat.ne_of_lt (Heap.lt_size (N p hp).1)) trivial (R _ ⟨_, rfl⟩) ?_
  · rw [List.mem_singleton.mp hb]
    show s₁.heap.objs.size < (s₁.heap.push _).objs.size
    rw [Heap.size_push]; exact Nat.lt_succ_self _
  · intro D C h tk m' ys news' F' N' o1 hn hC₀ hD₀ hCL hDL hCD offC fin
    refine ⟨m', hn, fun h'' hs'' => fin D h'' tk (F'.change hs'' hCL hC₀) (fun p hp => ?_) o1⟩
    refine ⟨hs''.extBut _ _ ?_ (N' p hp).1, (N' p hp).2⟩
    rcases List.mem_cons.mp hp with rfl | hp
    · exact Ne.symm hCD
    · exact offC p hp

/-- the ints of a range by a step -/
def stepKs (a c : Int) (n : Nat) : List Int := (List.range n).map fun (i : Nat) => a + (i : Int) * c
theorem stepKs_length (a c : Int) (n : Nat) : (stepKs a c n).length = n := by simp [stepKs]
theorem stepKs_get (a c : Int) {n i : Nat} (h : i < n) : (stepKs a c n)[i]? = some (a + (i : Int) * c) := by simp [stepKs, h]
theorem mem_stepKs {a c k : Int} {n : Nat} (h : k ∈ stepKs a c n) : ∃ i : Nat, i < n ∧ k = a + (i : Int) * c := by
  obtain ⟨i, hi, rfl⟩ := List.mem_map.mp h
  exact ⟨i, List.mem_range.mp hi, rfl⟩

section
variable {elt ct : Expr} {x : Str} {scope : Scope} {cl : List (Str × Addr)} {S : List (Addr × Obj) → Prop} {Fin : List Value → List (Addr × Obj) → Prop} {news : List (Addr × Obj)}
theorem restU {n : Nat} {a c : Int} (g : Int → Int)
    (turn : ∀ k t I oI C oC D m₂ ys h tk (E' : Value → Shared → Prop), (∃ i : Nat, i < n ∧ k = a + (i : Int) * c) → LCg.NsObj oC m₂ → m₂ x = some (.int k t) → Fr h₀ L h m → News h₀ L h ((I, oI) :: (C, oC) :: (D, LCg.lst ys) :: news) → LCg.Off3 I C D news → ((@Ne Nat I C) ∧ (@Ne Nat I D) ∧ (@Ne Nat C D)) →
      wpAny (model prog w) A (eval elt (compEnvC scope cl C env)) (LCg.CompEnd h₀ L m { s with heap := h, toks := tk } I oI C oC D (LCg.lst ys) S (fun y news' => KCfEl news (g k) y news')) E' { s with heap := h, toks := tk })
    (fin : ∀ ys, IntsAre ys ((stepKs a c n).map g) → Fin ys news) : LCg.CompRest prog w A h₀ L m env elt x scope cl s S (fun i v => ∃ t, v = .int (a + (i : Int) * c) t) Fin n 0 [] news :=
  kcf_rest (ks := stepKs a c n) g (stepKs_length a c n) (fun i v hi hv => by
    obtain ⟨t, e⟩ := hv
    exact ⟨_, t, stepKs_get a c hi, e⟩)
    (fun k t I oI C oC D m₂ ys h tk E' hk hC hx F N off ne _ => turn k t I oI C oC D m₂ ys h tk E' (mem_stepKs hk) hC hx F N off ne) fin
def KTEl (news : List (Addr × Obj)) (b : Bool) (r : Int) (y : Value) (news' : List (Addr × Obj)) : Prop := b = true ∧ news' = news ∧ ∃ t : Tok, y = .int r t
def KTNo (news : List (Addr × Obj)) (b : Bool) (news' : List (Addr × Obj)) : Prop := b = false ∧ news' = news
theorem restT {n : Nat} {a c : Int} (p : Int → Bool) (g : Int → Int)
    (turn : ∀ k t I oI C oC D m₂ ys h tk (E' : Value → Shared → Prop), (∃ i : Nat, i < n ∧ k = a + (i : Int) * c) → LCg.NsObj oC m₂ → m₂ x = some (.int k t) → Fr h₀ L h m → News h₀ L h ((I, oI) :: (C, oC) :: (D, LCg.lst ys) :: news) → LCg.Off3 I C D news → ((@Ne Nat I C) ∧ (@Ne Nat I D) ∧ (@Ne Nat C D)) →
      wpAny (model prog w) A (isTrue ct (compEnvC scope cl C env) (eval ct (compEnvC scope cl C env))) (fun b s' => if b = true then wpAny (model prog w) A (eval elt (compEnvC scope cl C env)) (LCg.CompEnd h₀ L m { s with heap := h, toks := tk } I oI C oC D (LCg.lst ys) S (fun y news' => KTEl news (p k) (g k) y news')) E' s'
        else LCg.CompEnd h₀ L m { s with heap := h, toks := tk } I oI C oC D (LCg.lst ys) S (fun _ news' => KTNo news (p k) news') Value.none s') E' { s with heap := h, toks := tk })
    (fin : ∀ ys, IntsAre ys (((stepKs a c n).filter p).map g) → Fin ys news) : LCt.CompRestT prog w A h₀ L m env ct elt x scope cl s S (fun i v => ∃ t, v = .int (a + (i : Int) * c) t) Fin n 0 [] news := by
  have key : ∀ (j i : Nat) (ys : List Value), i + j = n → IntsAre ys ((((stepKs a c n).take i).filter p).map g) → LCt.CompRestT prog w A h₀ L m env ct elt x scope cl s S (fun i v => ∃ t, v = .int (a + (i : Int) * c) t) Fin j i ys news := by
    intro j
    induction j with
    | zero =>
      intro i ys hi hy
      have e : i = (stepKs a c n).length := by rw [stepKs_length]; omega
      subst e
      rw [List.take_length] at hy
      exact LCt.CompRestT.zero (fin ys hy)
    | succ j ih =>
      intro i ys hi hy
      refine LCt.CompRestT.succ ?_
      intro v I oI C oC D m₂ h tk E' hv hC hx F N off ne
      obtain ⟨t, rfl⟩ := hv
      have hs : (stepKs a c n).take (i + 1) = (stepKs a c n).take i ++ [a + (i : Int) * c] := by
        rw [List.take_add_one, stepKs_get a c (by omega)]; rfl
      refine wpAny_mono (turn _ t I oI C oC D m₂ ys h tk E' ⟨i, by omega, rfl⟩ hC hx F N off ne) (fun b s₂ hq => ?_) fun _ _ e => e
      cases b with
      | true =>
        simp only [if_true] at hq ⊢
        refine wpAny_mono hq (fun y s₃ hr => ?_) fun _ _ e => e
        obtain ⟨h', tk', nw, e, F', N', off', hS, hb, hn, t', hy'⟩ := hr
        rw [hn] at N' off' hS
        refine ⟨h', tk', news, e, F', N', off', hS, ?_⟩
        rw [hy']
        refine ih (i + 1) _ (by omega) ?_
        rw [hs, List.filter_append, List.map_append]
        simp only [List.filter_cons, hb, if_true, List.filter_nil, List.map_cons, List.map_nil]
        exact IntsAre.append hy (.cons _ t' .nil)
      | false =>
        simp only [Bool.false_eq_true, if_false] at hq ⊢
        obtain ⟨h', tk', nw, e, F', N', off', hS, hb, hn⟩ := hq
        rw [hn] at N' off' hS
        refine ⟨h', tk', news, e, F', N', off', hS, ih (i + 1) _ (by omega) ?_⟩
        rw [hs, List.filter_append, List.map_append]
        simp only [List.filter_cons, hb, Bool.false_eq_true, if_false, List.filter_nil, List.map_nil, List.append_nil]
        exact hy
  exact key n 0 [] (by omega) (by simp only [List.take_zero, List.filter_nil, List.map_nil]; exact .nil)
theorem ctEl {I C D : Addr} {s₁ : Shared} {oI oC oD : Obj} {b : Bool} {r : Int} {t : Tok} {h' : Heap} {tk : Nat} {all : List (Addr × Obj)} (F : Fr h₀ L h' m) (N : News h₀ L h' all) (sub : ∀ p ∈ (I, oI) :: (C, oC) :: (D, oD) :: news, p ∈ all)
    (off : LCg.Off3 I C D news) (hS : S news) (hb : b = true) : LCg.CompEnd h₀ L m s₁ I oI C oC D oD S (fun y news' => KTEl news b r y news') (.int r t) { s₁ with heap := h', toks := tk } :=
  LCg.CompEnd.intro F N news sub off hS ⟨hb, rfl, t, rfl⟩
theorem ctNo {I C D : Addr} {s₁ : Shared} {oI oC oD : Obj} {b : Bool} {y : Value} {h' : Heap} {tk : Nat} {all : List (Addr × Obj)} (F : Fr h₀ L h' m) (N : News h₀ L h' all) (sub : ∀ p ∈ (I, oI) :: (C, oC) :: (D, oD) :: news, p ∈ all)
    (off : LCg.Off3 I C D news) (hS : S news) (hb : b = false) : LCg.CompEnd h₀ L m s₁ I oI C oC D oD S (fun _ news' => KTNo news b news') y { s₁ with heap := h', toks := tk } :=
  LCg.CompEnd.intro F N news sub off hS ⟨hb, rfl⟩
end
end
theorem and_tt {A B : Prop} [Decidable A] [Decidable B] (h1 : A) (h2 : B) : (decide A && decide B) = true := by simp [h1, h2]
theorem and_ft {A B : Prop} [Decidable A] [Decidable B] (h1 : ¬ A) : (decide A && decide B) = false := by simp [h1]
theorem and_tf {A B : Prop} [Decidable A] [Decidable B] (h2 : ¬ B) : (decide A && decide B) = false := by simp [h2]
end Mine
end
section
namespace Mine
set_option maxRecDepth 100000
set_option maxHeartbeats 4000000
def kwM (stored : List Str) (m u : Str → Option Value) : Str → Option Value := fun z => if stored.contains z then u z else m z
theorem kwM_self {stored : List Str} {m m' : Str → Option Value} (h : ∀ z, stored.contains z = false → m' z = m z) : ∀ z, m' z = kwM stored m m' z := by
  intro z
  unfold kwM
  cases e : stored.contains z with
  | true => simp
  | false => simpa using h z e
def kwMI (y : Str) (a : Int) (t : Tok) (stored : List Str) (m u : Str → Option Value) : Str → Option Value := fun z => if z = y then some (.int a t) else if stored.contains z then u z else m z
theorem kwMI_self {y : Str} {a : Int} {t : Tok} {stored : List Str} {m m' : Str → Option Value} (hy : m' y = some (.int a t)) (h : ∀ z, z ≠ y → stored.contains z = false → m' z = m z) : ∀ z, m' z = kwMI y a t stored m m' z := by
  intro z
  unfold kwMI
  by_cases e : z = y
  · rw [if_pos e, e, hy]
  · rw [if_neg e]
    cases e' : stored.contains z with
    | true => simp
    | false => simpa using h z e e'
section
variable {prog : Program} {w : World} {A : Around} {E : Value → Shared → Prop} {s : Shared} {h₀ : Heap} {L : Addr} {m : Str → Option Value} {env : Env}

/-- one int name, the ledger stays -/
def FEndI (h₀ : Heap) (L : Addr) (I : Addr) (oI : Obj) (y : Str) (stored : List Str) (m : Str → Option Value) (news : List (Addr × Obj)) (P : Int → Prop) (s₁ s₂ : Shared) : Prop :=
  ∃ (a : Int) (t : Tok) (h' : Heap) (tk' : Nat) (m' : Str → Option Value) (news' : List (Addr × Obj)), s₂ = { s₁ with heap := h', toks := tk' } ∧ Fr h₀ L h' m' ∧ m' y = some (.int a t) ∧ (∀ z, z ≠ y → stored.contains z = false → m' z = m z) ∧ News h₀ L h' news' ∧ (∀ p ∈ (I, oI) :: news, p ∈ news') ∧ P a
theorem FEndI.intro {I : Addr} {oI : Obj} {y : Str} {stored : List Str} {news : List (Addr × Obj)} {P : Int → Prop} {s₁ : Shared} {a : Int} {t : Tok} {h' : Heap} {tk' : Nat} {m' : Str → Option Value} {news' : List (Addr × Obj)}
    (F : Fr h₀ L h' m') (N : News h₀ L h' news') (hy : m' y = some (.int a t)) (hm : ∀ z, z ≠ y → stored.contains z = false → m' z = m z) (hl : ∀ p ∈ (I, oI) :: news, p ∈ news') (hp : P a) :
    FEndI h₀ L I oI y stored m news P s₁ { s₁ with heap := h', toks := tk' } := ⟨a, t, h', tk', m', news', rfl, F, hy, hm, N, hl, hp⟩
def FPostI (h₀ : Heap) (L : Addr) (I : Addr) (oI : Obj) (y : Str) (stored : List Str) (m : Str → Option Value) (news : List (Addr × Obj)) (P : Int → Prop) (Q : Flow → Shared → Prop) (s₁ : Shared) (f : Flow) (s₂ : Shared) : Prop :=
  match f with
  | .ret v => Q (.ret v) s₂
  | .brk => Q .next s₂
  | _ => FEndI h₀ L I oI y stored m news P s₁ s₂
theorem ForSrc.rangeI {x : Str} {px : Pos} {body : List Stmt} {Q : Flow → Shared → Prop} {news : List (Addr × Obj)} {r : Addr} {a b c : Int} {t u v : Tok} {n : Nat} (y : Str) (stored : List Str) (P : Nat → Int → Prop) {a₀ : Int} {t₀ : Tok}
    (hh : A.handled = none) (F : Fr h₀ L s.heap m) (N : News h₀ L s.heap news) (hr : IsRange s.heap r a b c t u v) (hsm : Builtin.Range.small a b c = true) (hn : Builtin.Range.rangeSize a b c = (n : Int))
    (hy : m y = some (.int a₀ t₀)) (h0 : P 0 a₀)
    (turn : ∀ (i : Nat) (d : Int) (td : Tok) (u' : Str → Option Value) t h tk I, i < n → P i d → (∀ p ∈ news, @Ne Nat p.1 I) → Fr h₀ L h (kwMI y d td stored m u') → News h₀ L h ((I, krsIt (a + ((i + 1 : Nat) : Int) * c) ((n : Int) - ((i + 1 : Nat) : Int)) c) :: news) →
      wpAny (model prog w) A (assign (.Name x px) env (.int (a + (i : Int) * c) t)) (fun _ s' => wpAny (model prog w) A (execs body env) (FPostI h₀ L I (krsIt (a + ((i + 1 : Nat) : Int) * c) ((n : Int) - ((i + 1 : Nat) : Int)) c) y stored m news (P (i + 1)) Q { s with heap := h, toks := tk }) E s') E { s with heap := h, toks := tk })
    (done : ∀ (d : Int) (td : Tok) (u' : Str → Option Value) h tk, P n d → Fr h₀ L h (kwMI y d td stored m u') → News h₀ L h news → Q .next { s with heap := h, toks := tk })
    (hE : PassesOwn (model prog w) A env E) : ForSrc prog w A E env x px body Q (.ref r) s := by
  refine ForSrc.range (σ := Int × Tok × (Str → Option Value)) hh F N hr hsm hn (fun d => kwMI y d.1 d.2.1 stored m d.2.2) (fun _ => news) (fun i d => P i d.1) (a₀, t₀, m) (kwMI_self hy fun _ _ _ => rfl) (fun _ hp => hp) h0 ?_ (fun d h tk hp F' N' => done d.1 d.2.1 d.2.2 h tk hp F' N') hE
  intro i d t h tk I hi hp ho F' N'
  refine wpAny_mono (turn i d.1 d.2.1 d.2.2 t h tk I hi hp ho F' N') (fun _ s₂ h₂ => wpAny_mono h₂ (fun f s₃ h₃ => ?_) fun _ _ e => e) fun _ _ e => e
  have fin : FEndI h₀ L I (krsIt (a + ((i + 1 : Nat) : Int) * c) ((n : Int) - ((i + 1 : Nat) : Int)) c) y stored m news (P (i + 1)) { s with heap := h, toks := tk } s₃ →
      FEnd h₀ L I (krsIt (a + ((i + 1 : Nat) : Int) * c) ((n : Int) - ((i + 1 : Nat) : Int)) c) (fun d : Int × Tok × (Str → Option Value) => kwMI y d.1 d.2.1 stored m d.2.2) (fun _ => news) (fun d => P (i + 1) d.1) { s with heap := h, toks := tk } s₃ := by
    rintro ⟨a', t', h', tk', m', news', rfl, F₄, hy', hm', N₄, hl₄, hp₄⟩
    exact FEnd.intro (a', t', m') F₄ N₄ (kwMI_self hy' hm') (hl₄ _ List.mem_cons_self) (fun p hp => hl₄ p (List.mem_cons_of_mem _ hp)) ho hp₄
  cases f with
  | ret v => exact h₃
  | brk => exact h₃
  | next => exact fin h₃
  | cont => exact fin h₃

/-- a target that is a cell; a list of ints that grows at the ledger's head -/
def FEndW (h₀ : Heap) (L : Addr) (I : Addr) (oI : Obj) (stored : List Str) (m : Str → Option Value) (l : Addr) (g : Obj → List (Addr × Obj)) (P : List Int → Prop) (s₁ s₂ : Shared) : Prop :=
  ∃ (vs : List Value) (ns : List Int) (k : Nat) (oN : Obj) (v : Option Value) (h' : Heap) (tk' : Nat) (m' : Str → Option Value) (news' : List (Addr × Obj)), s₂ = { s₁ with heap := h', toks := tk' } ∧ Fr h₀ L h' m' ∧ (∀ z, stored.contains z = false → m' z = m z) ∧ News h₀ L h' news' ∧ (∀ p ∈ (I, oI) :: (l, listOf vs.toArray k) :: g oN, p ∈ news') ∧ IntsAre vs ns ∧ oN.data = .cell v ∧ P ns
theorem FEndW.intro {I : Addr} {oI : Obj} {stored : List Str} {l : Addr} {g : Obj → List (Addr × Obj)} {P : List Int → Prop} {s₁ : Shared} {vs : List Value} {ns : List Int} {k : Nat} {oN : Obj} {v : Option Value} {h' : Heap} {tk' : Nat} {m' : Str → Option Value} {news' : List (Addr × Obj)}
    (F : Fr h₀ L h' m') (N : News h₀ L h' news') (hi : IntsAre vs ns) (hd : oN.data = .cell v) (hm : ∀ z, stored.contains z = false → m' z = m z) (hl : ∀ p ∈ (I, oI) :: (l, listOf vs.toArray k) :: g oN, p ∈ news') (hp : P ns) :
    FEndW h₀ L I oI stored m l g P s₁ { s₁ with heap := h', toks := tk' } := ⟨vs, ns, k, oN, v, h', tk', m', news', rfl, F, hm, N, hl, hi, hd, hp⟩
def FPostW (h₀ : Heap) (L : Addr) (I : Addr) (oI : Obj) (stored : List Str) (m : Str → Option Value) (l : Addr) (g : Obj → List (Addr × Obj)) (P : List Int → Prop) (Q : Flow → Shared → Prop) (s₁ : Shared) (f : Flow) (s₂ : Shared) : Prop :=
  match f with
  | .ret v => Q (.ret v) s₂
  | .brk => Q .next s₂
  | _ => FEndW h₀ L I oI stored m l g P s₁ s₂
structure WSt where
  vs : List Value
  ns : List Int
  k : Nat
  oN : Obj
  v : Option Value
  u : Str → Option Value
theorem upd_off {c : Addr} {o o' : Obj} {news : List (Addr × Obj)} {g : Obj → List (Addr × Obj)} {I : Nat} (U : UpdF c o news g) (ho : ∀ p ∈ news, @Ne Nat p.1 I) : ∀ p ∈ g o', @Ne Nat p.1 I := by
  obtain ⟨pre, post, rfl, hg, _, _⟩ := U.split
  rw [hg]
  intro p hp
  rcases List.mem_append.mp hp with h | h
  · exact ho p (List.mem_append.mpr (.inl h))
  · rcases List.mem_cons.mp h with rfl | h
    · exact ho (c, o) (List.mem_append.mpr (.inr (.head _)))
    · exact ho p (List.mem_append.mpr (.inr (.tail _ h)))
theorem upd_off' {c : Addr} {o o' : Obj} {news : List (Addr × Obj)} {g : Obj → List (Addr × Obj)} {I : Nat} (U : UpdF c o news g) (ho : ∀ p ∈ g o', @Ne Nat p.1 I) : ∀ p ∈ news, @Ne Nat p.1 I := by
  obtain ⟨pre, post, rfl, hg, _, _⟩ := U.split
  rw [hg] at ho
  intro p hp
  rcases List.mem_append.mp hp with h | h
  · exact ho p (List.mem_append.mpr (.inl h))
  · rcases List.mem_cons.mp h with rfl | h
    · exact ho (c, o') (List.mem_append.mpr (.inr (.head _)))
    · exact ho p (List.mem_append.mpr (.inr (.tail _ h)))
theorem upd_same {c : Addr} {o : Obj} {news : List (Addr × Obj)} {g : Obj → List (Addr × Obj)} (U : UpdF c o news g) : g o = news := by
  obtain ⟨pre, post, rfl, hg, _, _⟩ := U.split
  exact hg o
theorem ForSrc.rangeW {x : Str} {px : Pos} {body : List Stmt} {Q : Flow → Shared → Prop} {news : List (Addr × Obj)} {r : Addr} {a b c : Int} {t u v : Tok} {n : Nat} (stored : List Str) (P : Nat → List Int → Prop)
    {l ac : Addr} {o : Obj} {g : Obj → List (Addr × Obj)} {v₀ : Option Value} {vs₀ : List Value} {ns₀ : List Int} {k₀ : Nat}
    (hh : A.handled = none) (F : Fr h₀ L s.heap m) (N : News h₀ L s.heap ((l, listOf vs₀.toArray k₀) :: news)) (hr : IsRange s.heap r a b c t u v) (hsm : Builtin.Range.small a b c = true) (hn : Builtin.Range.rangeSize a b c = (n : Int))
    (hc : env.cells.lookup x = some ac) (U : UpdF ac o news g) (hd : o.data = .cell v₀) (hi₀ : IntsAre vs₀ ns₀) (h0 : P 0 ns₀)
    (turn : ∀ (i : Nat) (vs : List Value) (ns : List Int) (k : Nat) (oN : Obj) (vc : Option Value) (u' : Str → Option Value) t h tk I, i < n → P i ns → IntsAre vs ns → oN.data = .cell vc → @Ne Nat l I → (∀ p ∈ news, @Ne Nat p.1 I) → Fr h₀ L h (kwM stored m u') → News h₀ L h ((I, krsIt (a + ((i + 1 : Nat) : Int) * c) ((n : Int) - ((i + 1 : Nat) : Int)) c) :: (l, listOf vs.toArray k) :: g oN) →
      wpAny (model prog w) A (assign (.Name x px) env (.int (a + (i : Int) * c) t)) (fun _ s' => wpAny (model prog w) A (execs body env) (FPostW h₀ L I (krsIt (a + ((i + 1 : Nat) : Int) * c) ((n : Int) - ((i + 1 : Nat) : Int)) c) stored m l g (P (i + 1)) Q { s with heap := h, toks := tk }) E s') E { s with heap := h, toks := tk })
    (done : ∀ (vs : List Value) (ns : List Int) (k : Nat) (oN : Obj) (vc : Option Value) (u' : Str → Option Value) h tk, P n ns → IntsAre vs ns → oN.data = .cell vc → Fr h₀ L h (kwM stored m u') → News h₀ L h ((l, listOf vs.toArray k) :: g oN) → Q .next { s with heap := h, toks := tk })
    (hE : PassesOwn (model prog w) A env E) : ForSrc prog w A E env x px body Q (.ref r) s := by
  have hsame := upd_same U
  refine ForSrc.range (σ := WSt) hh F N hr hsm hn (fun d => kwM stored m d.u) (fun d => (l, listOf d.vs.toArray d.k) :: g d.oN) (fun i d => P i d.ns ∧ IntsAre d.vs d.ns ∧ d.oN.data = .cell d.v) ⟨vs₀, ns₀, k₀, o, v₀, m⟩ (kwM_self fun _ _ => rfl) (fun p hp => by rw [hsame] at hp; exact hp) ⟨h0, hi₀, hd⟩ ?_ (fun d h tk hp F' N' => done d.vs d.ns d.k d.oN d.v d.u h tk hp.1 hp.2.1 hp.2.2 F' N') hE
  intro i d t h tk I hi hp ho F' N'
  have hoN := upd_off' U (fun p hp => ho p (List.mem_cons_of_mem _ hp))
  refine wpAny_mono (turn i d.vs d.ns d.k d.oN d.v d.u t h tk I hi hp.1 hp.2.1 hp.2.2 (ho _ List.mem_cons_self) hoN F' N') (fun _ s₂ h₂ => wpAny_mono h₂ (fun f s₃ h₃ => ?_) fun _ _ e => e) fun _ _ e => e
  have fin : FEndW h₀ L I (krsIt (a + ((i + 1 : Nat) : Int) * c) ((n : Int) - ((i + 1 : Nat) : Int)) c) stored m l g (P (i + 1)) { s with heap := h, toks := tk } s₃ →
      FEnd h₀ L I (krsIt (a + ((i + 1 : Nat) : Int) * c) ((n : Int) - ((i + 1 : Nat) : Int)) c) (fun d : WSt => kwM stored m d.u) (fun d => (l, listOf d.vs.toArray d.k) :: g d.oN) (fun d => P (i + 1) d.ns ∧ IntsAre d.vs d.ns ∧ d.oN.data = .cell d.v) { s with heap := h, toks := tk } s₃ := by
    rintro ⟨vs', ns', k', oN', v', h', tk', m', news', rfl, F₄, hm', N₄, hl₄, hi₄, hd₄, hp₄⟩
    refine FEnd.intro ⟨vs', ns', k', oN', v', m'⟩ F₄ N₄ (kwM_self hm') (hl₄ _ List.mem_cons_self) (fun p hp => hl₄ p (List.mem_cons_of_mem _ hp)) (fun p hp => ?_) ⟨hp₄, hi₄, hd₄⟩
    rcases List.mem_cons.mp hp with rfl | hp
    · exact ho (l, listOf d.vs.toArray d.k) List.mem_cons_self
    · exact upd_off U hoN p hp
  cases f with
  | ret v => exact h₃
  | brk => exact h₃
  | next => exact fin h₃
  | cont => exact fin h₃

/-- a target that is a cell, nothing else turns -/
def FEndC (h₀ : Heap) (L : Addr) (I : Addr) (oI : Obj) (stored : List Str) (m : Str → Option Value) (g : Obj → List (Addr × Obj)) (P : Prop) (s₁ s₂ : Shared) : Prop :=
  ∃ (oN : Obj) (v : Option Value) (h' : Heap) (tk' : Nat) (m' : Str → Option Value) (news' : List (Addr × Obj)), s₂ = { s₁ with heap := h', toks := tk' } ∧ Fr h₀ L h' m' ∧ (∀ z, stored.contains z = false → m' z = m z) ∧ News h₀ L h' news' ∧ (∀ p ∈ (I, oI) :: g oN, p ∈ news') ∧ oN.data = .cell v ∧ P
theorem FEndC.intro {I : Addr} {oI : Obj} {stored : List Str} {g : Obj → List (Addr × Obj)} {P : Prop} {s₁ : Shared} {oN : Obj} {v : Option Value} {h' : Heap} {tk' : Nat} {m' : Str → Option Value} {news' : List (Addr × Obj)}
    (F : Fr h₀ L h' m') (N : News h₀ L h' news') (hd : oN.data = .cell v) (hm : ∀ z, stored.contains z = false → m' z = m z) (hl : ∀ p ∈ (I, oI) :: g oN, p ∈ news') (hp : P) :
    FEndC h₀ L I oI stored m g P s₁ { s₁ with heap := h', toks := tk' } := ⟨oN, v, h', tk', m', news', rfl, F, hm, N, hl, hd, hp⟩
def FPostC (h₀ : Heap) (L : Addr) (I : Addr) (oI : Obj) (stored : List Str) (m : Str → Option Value) (g : Obj → List (Addr × Obj)) (P : Prop) (Q : Flow → Shared → Prop) (s₁ : Shared) (f : Flow) (s₂ : Shared) : Prop :=
  match f with
  | .ret v => Q (.ret v) s₂
  | .brk => Q .next s₂
  | _ => FEndC h₀ L I oI stored m g P s₁ s₂
theorem ForSrc.rangeC {x : Str} {px : Pos} {body : List Stmt} {Q : Flow → Shared → Prop} {news : List (Addr × Obj)} {r : Addr} {a b c : Int} {t u v : Tok} {n : Nat} (stored : List Str) (P : Nat → Prop)
    {ac : Addr} {o : Obj} {g : Obj → List (Addr × Obj)} {v₀ : Option Value}
    (hh : A.handled = none) (F : Fr h₀ L s.heap m) (N : News h₀ L s.heap news) (hr : IsRange s.heap r a b c t u v) (hsm : Builtin.Range.small a b c = true) (hn : Builtin.Range.rangeSize a b c = (n : Int))
    (hc : env.cells.lookup x = some ac) (U : UpdF ac o news g) (hd : o.data = .cell v₀) (h0 : P 0)
    (turn : ∀ (i : Nat) (oN : Obj) (vc : Option Value) (u' : Str → Option Value) t h tk I, i < n → P i → oN.data = .cell vc → (∀ p ∈ news, @Ne Nat p.1 I) → Fr h₀ L h (kwM stored m u') → News h₀ L h ((I, krsIt (a + ((i + 1 : Nat) : Int) * c) ((n : Int) - ((i + 1 : Nat) : Int)) c) :: g oN) →
      wpAny (model prog w) A (assign (.Name x px) env (.int (a + (i : Int) * c) t)) (fun _ s' => wpAny (model prog w) A (execs body env) (FPostC h₀ L I (krsIt (a + ((i + 1 : Nat) : Int) * c) ((n : Int) - ((i + 1 : Nat) : Int)) c) stored m g (P (i + 1)) Q { s with heap := h, toks := tk }) E s') E { s with heap := h, toks := tk })
    (done : ∀ (oN : Obj) (vc : Option Value) (u' : Str → Option Value) h tk, P n → oN.data = .cell vc → Fr h₀ L h (kwM stored m u') → News h₀ L h (g oN) → Q .next { s with heap := h, toks := tk })
    (hE : PassesOwn (model prog w) A env E) : ForSrc prog w A E env x px body Q (.ref r) s := by
  have hsame := upd_same U
  refine ForSrc.range (σ := Obj × Option Value × (Str → Option Value)) hh F N hr hsm hn (fun d => kwM stored m d.2.2) (fun d => g d.1) (fun i d => P i ∧ d.1.data = .cell d.2.1) (o, v₀, m) (kwM_self fun _ _ => rfl) (fun p hp => by rw [hsame] at hp; exact hp) ⟨h0, hd⟩ ?_ (fun d h tk hp F' N' => done d.1 d.2.1 d.2.2 h tk hp.1 hp.2 F' N') hE
  intro i d t h tk I hi hp ho F' N'
  have hoN := upd_off' U ho
  refine wpAny_mono (turn i d.1 d.2.1 d.2.2 t h tk I hi hp.1 hp.2 hoN F' N') (fun _ s₂ h₂ => wpAny_mono h₂ (fun f s₃ h₃ => ?_) fun _ _ e => e) fun _ _ e => e
  have fin : FEndC h₀ L I (krsIt (a + ((i + 1 : Nat) : Int) * c) ((n : Int) - ((i + 1 : Nat) : Int)) c) stored m g (P (i + 1)) { s with heap := h, toks := tk } s₃ →
      FEnd h₀ L I (krsIt (a + ((i + 1 : Nat) : Int) * c) ((n : Int) - ((i + 1 : Nat) : Int)) c) (fun d : Obj × Option Value × (Str → Option Value) => kwM stored m d.2.2) (fun d => g d.1) (fun d => P (i + 1) ∧ d.1.data = .cell d.2.1) { s with heap := h, toks := tk } s₃ := by
    rintro ⟨oN', v', h', tk', m', news', rfl, F₄, hm', N₄, hl₄, hd₄, hp₄⟩
    exact FEnd.intro (oN', v', m') F₄ N₄ (kwM_self hm') (hl₄ _ List.mem_cons_self) (fun p hp => hl₄ p (List.mem_cons_of_mem _ hp)) (upd_off U hoN) ⟨hp₄, hd₄⟩
  cases f with
  | ret v => exact h₃
  | brk => exact h₃
  | next => exact fin h₃
  | cont => exact fin h₃
end
end Mine
end
section
namespace Mine
set_option maxRecDepth 100000
set_option maxHeartbeats 4000000
abbrev tup2 (x : Int) (t : Tok) (y : Int) (u : Tok) : Obj := { cls := .type "tuple", data := .seq (List.toArray [.int x t, .int y u]) }
/-- values that stand for pairs of ints -/
inductive PIn (news : List (Addr × Obj)) : List Value → List (Int × Int) → Prop
  | nil : PIn news [] []
  | cons {a : Addr} {x y : Int} {t u : Tok} {vs : List Value} {L : List (Int × Int)} (hm : (a, tup2 x t y u) ∈ news) (r : PIn news vs L) : PIn news (.ref a :: vs) ((x, y) :: L)
theorem PIn.mono {news news' : List (Addr × Obj)} (hs : ∀ p ∈ news, p ∈ news') {vs : List Value} {L : List (Int × Int)} (h : PIn news vs L) : PIn news' vs L := by
  induction h with
  | nil => exact .nil
  | cons hm _ ih => exact .cons (hs _ hm) ih
theorem PIn.append {news : List (Addr × Obj)} {vs ws : List Value} {L K : List (Int × Int)} (h : PIn news vs L) (k : PIn news ws K) : PIn news (vs ++ ws) (L ++ K) := by
  induction h with
  | nil => exact k
  | cons hm _ ih => exact .cons hm ih
theorem PIn.length {news : List (Addr × Obj)} {vs : List Value} {L : List (Int × Int)} (h : PIn news vs L) : vs.length = L.length := by
  induction h with
  | nil => rfl
  | cons _ _ ih => simp [ih]
theorem PIn.get {news : List (Addr × Obj)} {vs : List Value} {L : List (Int × Int)} (h : PIn news vs L) : ∀ (i : Nat) (v : Value), vs[i]? = some v → ∃ a x y t u, v = .ref a ∧ L[i]? = some (x, y) ∧ (a, tup2 x t y u) ∈ news := by
  induction h with
  | nil => intro i v hv; simp at hv
  | cons hm _ ih =>
    intro i v hv
    cases i with
    | zero => simp at hv; subst hv; exact ⟨_, _, _, _, _, rfl, rfl, hm⟩
    | succ i => simpa using ih i v (by simpa using hv)
section
variable {prog : Program} {w : World} {A : Around} {E : Value → Shared → Prop} {s : Shared} {h₀ : Heap} {L : Addr} {m : Str → Option Value} {env : Env}
theorem news_put {h : Heap} {p : Addr × Obj} {news : List (Addr × Obj)} (N : News h₀ L h news) (hm : p ∈ news) : News h₀ L h (p :: news) := fun q hq => by
  rcases List.mem_cons.mp hq with rfl | hq
  · exact N _ hm
  · exact N q hq

/-- a target that is a cell; a list of pairs that grows at the ledger's head, its pairs at the ledger's end -/
def FEndP (h₀ : Heap) (L : Addr) (I : Addr) (oI : Obj) (m : Str → Option Value) (l : Addr) (bad : List Nat) (g : Obj → List (Addr × Obj)) (P : List (Int × Int) → Prop) (s₁ s₂ : Shared) : Prop :=
  ∃ (vs : List Value) (ns : List (Int × Int)) (k : Nat) (oN : Obj) (v : Option Value) (tl : List (Addr × Obj)) (h' : Heap) (tk' : Nat) (m' : Str → Option Value) (news' : List (Addr × Obj)), s₂ = { s₁ with heap := h', toks := tk' } ∧ Fr h₀ L h' m' ∧ (∀ z, m' z = m z) ∧ News h₀ L h' news' ∧ (∀ p ∈ (I, oI) :: (l, listOf vs.toArray k) :: (g oN ++ tl), p ∈ news') ∧ PIn tl vs ns ∧ oN.data = .cell v ∧ (∀ p ∈ tl, ∀ b ∈ bad, @Ne Nat p.1 b) ∧ (∀ p ∈ tl, @Ne Nat p.1 I) ∧ P ns
theorem FEndP.intro {I : Addr} {oI : Obj} {l : Addr} {bad : List Nat} {g : Obj → List (Addr × Obj)} {P : List (Int × Int) → Prop} {s₁ : Shared} {vs : List Value} {ns : List (Int × Int)} {k : Nat} {oN : Obj} {v : Option Value} {h' : Heap} {tk' : Nat} {m' : Str → Option Value} {news' : List (Addr × Obj)} (tl : List (Addr × Obj))
    (F : Fr h₀ L h' m') (N : News h₀ L h' news') (hi : PIn tl vs ns) (hd : oN.data = .cell v) (hm : ∀ z, m' z = m z) (hl : ∀ p ∈ (I, oI) :: (l, listOf vs.toArray k) :: (g oN ++ tl), p ∈ news') (hb : ∀ p ∈ tl, ∀ b ∈ bad, @Ne Nat p.1 b) (ho : ∀ p ∈ tl, @Ne Nat p.1 I) (hp : P ns) :
    FEndP h₀ L I oI m l bad g P s₁ { s₁ with heap := h', toks := tk' } := ⟨vs, ns, k, oN, v, tl, h', tk', m', news', rfl, F, hm, N, hl, hi, hd, hb, ho, hp⟩
def FPostP (h₀ : Heap) (L : Addr) (I : Addr) (oI : Obj) (m : Str → Option Value) (l : Addr) (bad : List Nat) (g : Obj → List (Addr × Obj)) (P : List (Int × Int) → Prop) (Q : Flow → Shared → Prop) (s₁ : Shared) (f : Flow) (s₂ : Shared) : Prop :=
  match f with
  | .ret v => Q (.ret v) s₂
  | .brk => Q .next s₂
  | _ => FEndP h₀ L I oI m l bad g P s₁ s₂
structure PSt where
  vs : List Value
  ns : List (Int × Int)
  k : Nat
  oN : Obj
  v : Option Value
  tl : List (Addr × Obj)
theorem ForSrc.rangeP {x : Str} {px : Pos} {body : List Stmt} {Q : Flow → Shared → Prop} {pre tl₀ : List (Addr × Obj)} {r : Addr} {a b c : Int} {t u v : Tok} {n : Nat} (P : Nat → List (Int × Int) → Prop)
    {l ac : Addr} {o : Obj} {g : Obj → List (Addr × Obj)} {v₀ : Option Value} {vs₀ : List Value} {ns₀ : List (Int × Int)} {k₀ : Nat}
    (hh : A.handled = none) (F : Fr h₀ L s.heap m) (N : News h₀ L s.heap ((l, listOf vs₀.toArray k₀) :: (pre ++ tl₀))) (hr : IsRange s.heap r a b c t u v) (hsm : Builtin.Range.small a b c = true) (hn : Builtin.Range.rangeSize a b c = (n : Int))
    (hc : env.cells.lookup x = some ac) (U : UpdF ac o pre g) (hd : o.data = .cell v₀) (hi₀ : PIn tl₀ vs₀ ns₀) (hb₀ : ∀ p ∈ tl₀, ∀ b ∈ l :: pre.map (·.1), @Ne Nat p.1 b) (h0 : P 0 ns₀)
    (turn : ∀ (i : Nat) (vs : List Value) (ns : List (Int × Int)) (k : Nat) (oN : Obj) (vc : Option Value) (tl : List (Addr × Obj)) t h tk I, i < n → P i ns → PIn tl vs ns → oN.data = .cell vc → @Ne Nat l I → (∀ p ∈ pre, @Ne Nat p.1 I) → (∀ p ∈ tl, @Ne Nat p.1 I) → (∀ p ∈ tl, ∀ b ∈ l :: pre.map (·.1), @Ne Nat p.1 b) → Fr h₀ L h m → News h₀ L h ((I, krsIt (a + ((i + 1 : Nat) : Int) * c) ((n : Int) - ((i + 1 : Nat) : Int)) c) :: (l, listOf vs.toArray k) :: (g oN ++ tl)) →
      wpAny (model prog w) A (assign (.Name x px) env (.int (a + (i : Int) * c) t)) (fun _ s' => wpAny (model prog w) A (execs body env) (FPostP h₀ L I (krsIt (a + ((i + 1 : Nat) : Int) * c) ((n : Int) - ((i + 1 : Nat) : Int)) c) m l (l :: pre.map (·.1)) g (P (i + 1)) Q { s with heap := h, toks := tk }) E s') E { s with heap := h, toks := tk })
    (done : ∀ (vs : List Value) (ns : List (Int × Int)) (k : Nat) (oN : Obj) (vc : Option Value) (tl : List (Addr × Obj)) h tk, P n ns → PIn tl vs ns → oN.data = .cell vc → (∀ p ∈ tl, ∀ b ∈ l :: pre.map (·.1), @Ne Nat p.1 b) → Fr h₀ L h m → News h₀ L h ((l, listOf vs.toArray k) :: (g oN ++ tl)) → Q .next { s with heap := h, toks := tk })
    (hE : PassesOwn (model prog w) A env E) : ForSrc prog w A E env x px body Q (.ref r) s := by
  have hsame := upd_same U
  refine ForSrc.range (σ := PSt) hh F N hr hsm hn (fun _ => m) (fun d => (l, listOf d.vs.toArray d.k) :: (g d.oN ++ d.tl)) (fun i d => P i d.ns ∧ PIn d.tl d.vs d.ns ∧ d.oN.data = .cell d.v ∧ ∀ p ∈ d.tl, ∀ b ∈ l :: pre.map (·.1), @Ne Nat p.1 b) ⟨vs₀, ns₀, k₀, o, v₀, tl₀⟩ (fun _ => rfl) (fun p hp => by dsimp only at hp; rw [hsame] at hp; exact hp) ⟨h0, hi₀, hd, hb₀⟩ ?_ (fun d h tk hp F' N' => done d.vs d.ns d.k d.oN d.v d.tl h tk hp.1 hp.2.1 hp.2.2.1 hp.2.2.2 F' N') hE
  intro i d t h tk I hi hp ho F' N'
  have hoA : ∀ p ∈ g d.oN, @Ne Nat p.1 I := fun p hp => ho p (List.mem_cons_of_mem _ (List.mem_append.mpr (.inl hp)))
  have hoT : ∀ p ∈ d.tl, @Ne Nat p.1 I := fun p hp => ho p (List.mem_cons_of_mem _ (List.mem_append.mpr (.inr hp)))
  have hoN := upd_off' U hoA
  refine wpAny_mono (turn i d.vs d.ns d.k d.oN d.v d.tl t h tk I hi hp.1 hp.2.1 hp.2.2.1 (ho _ List.mem_cons_self) hoN hoT hp.2.2.2 F' N') (fun _ s₂ h₂ => wpAny_mono h₂ (fun f s₃ h₃ => ?_) fun _ _ e => e) fun _ _ e => e
  have fin : FEndP h₀ L I (krsIt (a + ((i + 1 : Nat) : Int) * c) ((n : Int) - ((i + 1 : Nat) : Int)) c) m l (l :: pre.map (·.1)) g (P (i + 1)) { s with heap := h, toks := tk } s₃ →
      FEnd h₀ L I (krsIt (a + ((i + 1 : Nat) : Int) * c) ((n : Int) - ((i + 1 : Nat) : Int)) c) (fun _ : PSt => m) (fun d => (l, listOf d.vs.toArray d.k) :: (g d.oN ++ d.tl)) (fun d => P (i + 1) d.ns ∧ PIn d.tl d.vs d.ns ∧ d.oN.data = .cell d.v ∧ ∀ p ∈ d.tl, ∀ b ∈ l :: pre.map (·.1), @Ne Nat p.1 b) { s with heap := h, toks := tk } s₃ := by
    rintro ⟨vs', ns', k', oN', v', tl', h', tk', m', news', rfl, F₄, hm', N₄, hl₄, hi₄, hd₄, hb₄, ho₄, hp₄⟩
    refine FEnd.intro ⟨vs', ns', k', oN', v', tl'⟩ F₄ N₄ hm' (hl₄ _ List.mem_cons_self) (fun p hp => hl₄ p (List.mem_cons_of_mem _ hp)) (fun p hp => ?_) ⟨hp₄, hi₄, hd₄, hb₄⟩
    rcases List.mem_cons.mp hp with rfl | hp
    · exact ho (l, listOf d.vs.toArray d.k) List.mem_cons_self
    · rcases List.mem_append.mp hp with hp | hp
      · exact upd_off U hoN p hp
      · exact ho₄ p hp
  cases f with
  | ret v => exact h₃
  | brk => exact h₃
  | next => exact fin h₃
  | cont => exact fin h₃

theorem news_rot {h : Heap} {a b : Addr × Obj} {r : List (Addr × Obj)} (N : News h₀ L h (a :: b :: r)) : News h₀ L h (b :: (r ++ [])) := fun p hp => N p (by rw [List.append_nil] at hp; exact .tail _ hp)
theorem news_swap {h : Heap} {a b : Addr × Obj} {r tl : List (Addr × Obj)} (N : News h₀ L h (a :: b :: (r ++ tl))) : News h₀ L h (b :: ((a :: r) ++ tl)) := fun p hp => N p (by
  rcases List.mem_cons.mp hp with rfl | hp
  · exact .tail _ (.head _)
  · rcases List.mem_cons.mp hp with rfl | hp
    · exact .head _
    · exact .tail _ (.tail _ hp))
theorem bad_at {tl : List (Addr × Obj)} {bad : List Nat} {d : Nat} (hb : ∀ p ∈ tl, ∀ b ∈ bad, @Ne Nat p.1 b) (hd : d ∈ bad) : ∀ p ∈ tl, p.1 ≠ d := fun p hp => hb p hp d hd
theorem bad_in {tl : List (Addr × Obj)} {l I : Nat} {oI : Obj} {r : List (Addr × Obj)} {ms : List Nat} (hb : ∀ p ∈ tl, ∀ b ∈ l :: ms, @Ne Nat p.1 b) (ho : ∀ p ∈ tl, @Ne Nat p.1 I) (he : r.map (·.1) = ms) : ∀ p ∈ tl, ∀ b ∈ l :: ((I, oI) :: r).map (·.1), @Ne Nat p.1 b := by
  subst he
  intro p hp b hb'
  rcases List.mem_cons.mp hb' with rfl | hb'
  · exact hb p hp _ (.head _)
  · rcases List.mem_cons.mp hb' with rfl | hb'
    · exact ho p hp
    · exact hb p hp b (.tail _ hb')
/-- a filter over a list of pairs -/
def KREl (news : List (Addr × Obj)) (b : Bool) (v : Value) (y : Value) (news' : List (Addr × Obj)) : Prop := b = true ∧ news' = news ∧ y = v
section
variable {elt ct : Expr} {x : Str} {scope : Scope} {cl : List (Str × Addr)} {S : List (Addr × Obj) → Prop} {Fin : List Value → List (Addr × Obj) → Prop} {news : List (Addr × Obj)}
theorem restPT {vs : List Value} {ns : List (Int × Int)} (p : Int × Int → Bool) (hP : PIn news vs ns)
    (turn : ∀ a r q t u I oI C oC D m₂ ys h tk (E' : Value → Shared → Prop), (a, tup2 r t q u) ∈ news → (r, q) ∈ ns → LCg.NsObj oC m₂ → m₂ x = some (.ref a) → Fr h₀ L h m → News h₀ L h ((I, oI) :: (C, oC) :: (D, LCg.lst ys) :: news) → LCg.Off3 I C D news → ((@Ne Nat I C) ∧ (@Ne Nat I D) ∧ (@Ne Nat C D)) → S news →
      wpAny (model prog w) A (isTrue ct (compEnvC scope cl C env) (eval ct (compEnvC scope cl C env))) (fun b s' => if b = true then wpAny (model prog w) A (eval elt (compEnvC scope cl C env)) (LCg.CompEnd h₀ L m { s with heap := h, toks := tk } I oI C oC D (LCg.lst ys) S (fun y news' => KREl news (p (r, q)) (.ref a) y news')) E' s'
        else LCg.CompEnd h₀ L m { s with heap := h, toks := tk } I oI C oC D (LCg.lst ys) S (fun _ news' => KTNo news (p (r, q)) news') Value.none s') E' { s with heap := h, toks := tk })
    (hS : S news) (fin : ∀ ys, PIn news ys (ns.filter p) → ys.length ≤ vs.length → Fin ys news) : LCt.CompRestT prog w A h₀ L m env ct elt x scope cl s S (fun i v => vs.toArray[i]? = some v) Fin vs.toArray.size 0 [] news := by
  have hlen := hP.length
  have key : ∀ (j i : Nat) (ys : List Value), i + j = vs.toArray.size → PIn news ys ((ns.take i).filter p) → LCt.CompRestT prog w A h₀ L m env ct elt x scope cl s S (fun i v => vs.toArray[i]? = some v) Fin j i ys news := by
    intro j
    induction j with
    | zero =>
      intro i ys hi hy
      have e : i = ns.length := by rw [List.size_toArray] at hi; omega
      subst e
      rw [List.take_length] at hy
      refine LCt.CompRestT.zero (fin ys hy ?_)
      rw [hy.length, hlen]
      exact List.length_filter_le _ _
    | succ j ih =>
      intro i ys hi hy
      refine LCt.CompRestT.succ ?_
      intro v I oI C oC D m₂ h tk E' hv hC hx F N off ne
      obtain ⟨a, r, q, t, u, rfl, hL, hm⟩ := hP.get i v (by simpa using hv)
      have hs : ns.take (i + 1) = ns.take i ++ [(r, q)] := by rw [List.take_add_one, hL]; rfl
      refine wpAny_mono (turn a r q t u I oI C oC D m₂ ys h tk E' hm (List.mem_of_getElem? hL) hC hx F N off ne hS) (fun b s₂ hq => ?_) fun _ _ e => e
      cases b with
      | true =>
        simp only [if_true] at hq ⊢
        refine wpAny_mono hq (fun y s₃ hr => ?_) fun _ _ e => e
        obtain ⟨h', tk', nw, e, F', N', off', hS', hb, hn, hy'⟩ := hr
        rw [hn] at N' off' hS'
        refine ⟨h', tk', news, e, F', N', off', hS', ?_⟩
        rw [hy']
        refine ih (i + 1) _ (by omega) ?_
        rw [hs, List.filter_append]
        simp only [List.filter_cons, hb, if_true, List.filter_nil]
        exact hy.append (.cons hm .nil)
      | false =>
        simp only [Bool.false_eq_true, if_false] at hq ⊢
        obtain ⟨h', tk', nw, e, F', N', off', hS', hb, hn⟩ := hq
        rw [hn] at N' off' hS'
        refine ⟨h', tk', news, e, F', N', off', hS', ih (i + 1) _ (by omega) ?_⟩
        rw [hs, List.filter_append]
        simp only [List.filter_cons, hb, Bool.false_eq_true, if_false, List.filter_nil, List.append_nil]
        exact hy
  exact key _ 0 [] (by omega) (by simp only [List.take_zero, List.filter_nil]; exact .nil)
theorem crEl {I C D : Addr} {s₁ : Shared} {oI oC oD : Obj} {b : Bool} {v : Value} {h' : Heap} {tk : Nat} {all : List (Addr × Obj)} (F : Fr h₀ L h' m) (N : News h₀ L h' all) (sub : ∀ p ∈ (I, oI) :: (C, oC) :: (D, oD) :: news, p ∈ all)
    (off : LCg.Off3 I C D news) (hS : S news) (hb : b = true) : LCg.CompEnd h₀ L m s₁ I oI C oC D oD S (fun y news' => KREl news b v y news') v { s₁ with heap := h', toks := tk } :=
  LCg.CompEnd.intro F N news sub off hS ⟨hb, rfl, rfl⟩
end
end
end Mine
end
section
namespace Mine
set_option maxRecDepth 100000
set_option maxHeartbeats 4000000
section
variable {prog : Program} {w : World} {A : Around} {E : Value → Shared → Prop} {s : Shared} {h₀ : Heap} {L : Addr} {m : Str → Option Value} {env : Env}
/-- as FEndP, with one more cell that the body turns -/
def FEndQ (h₀ : Heap) (L : Addr) (I : Addr) (oI : Obj) (m : Str → Option Value) (l c : Addr) (bad : List Nat) (g : Obj → List (Addr × Obj)) (P : List (Int × Int) → Prop) (s₁ s₂ : Shared) : Prop :=
  ∃ (vs : List Value) (ns : List (Int × Int)) (k : Nat) (oN : Obj) (v : Option Value) (oC : Obj) (vc : Option Value) (tl : List (Addr × Obj)) (h' : Heap) (tk' : Nat) (m' : Str → Option Value) (news' : List (Addr × Obj)), s₂ = { s₁ with heap := h', toks := tk' } ∧ Fr h₀ L h' m' ∧ (∀ z, m' z = m z) ∧ News h₀ L h' news' ∧ (∀ p ∈ (I, oI) :: (l, listOf vs.toArray k) :: (g oN ++ ((c, oC) :: tl)), p ∈ news') ∧ PIn tl vs ns ∧ oN.data = .cell v ∧ oC.data = .cell vc ∧ (∀ p ∈ tl, ∀ b ∈ bad, @Ne Nat p.1 b) ∧ (∀ p ∈ tl, @Ne Nat p.1 I) ∧ P ns
theorem FEndQ.intro {I : Addr} {oI : Obj} {l c : Addr} {bad : List Nat} {g : Obj → List (Addr × Obj)} {P : List (Int × Int) → Prop} {s₁ : Shared} {vs : List Value} {ns : List (Int × Int)} {k : Nat} {oN : Obj} {v : Option Value} {oC : Obj} {vc : Option Value} {h' : Heap} {tk' : Nat} {m' : Str → Option Value} {news' : List (Addr × Obj)} (tl : List (Addr × Obj))
    (F : Fr h₀ L h' m') (N : News h₀ L h' news') (hi : PIn tl vs ns) (hd : oN.data = .cell v) (hd2 : oC.data = .cell vc) (hm : ∀ z, m' z = m z) (hl : ∀ p ∈ (I, oI) :: (l, listOf vs.toArray k) :: (g oN ++ ((c, oC) :: tl)), p ∈ news') (hb : ∀ p ∈ tl, ∀ b ∈ bad, @Ne Nat p.1 b) (ho : ∀ p ∈ tl, @Ne Nat p.1 I) (hp : P ns) :
    FEndQ h₀ L I oI m l c bad g P s₁ { s₁ with heap := h', toks := tk' } := ⟨vs, ns, k, oN, v, oC, vc, tl, h', tk', m', news', rfl, F, hm, N, hl, hi, hd, hd2, hb, ho, hp⟩
def FPostQ (h₀ : Heap) (L : Addr) (I : Addr) (oI : Obj) (m : Str → Option Value) (l c : Addr) (bad : List Nat) (g : Obj → List (Addr × Obj)) (P : List (Int × Int) → Prop) (Q : Flow → Shared → Prop) (s₁ : Shared) (f : Flow) (s₂ : Shared) : Prop :=
  match f with
  | .ret v => Q (.ret v) s₂
  | .brk => Q .next s₂
  | _ => FEndQ h₀ L I oI m l c bad g P s₁ s₂
structure QSt where
  vs : List Value
  ns : List (Int × Int)
  k : Nat
  oN : Obj
  v : Option Value
  oC : Obj
  vc : Option Value
  tl : List (Addr × Obj)
theorem ForSrc.rangeQ {x : Str} {px : Pos} {body : List Stmt} {Q : Flow → Shared → Prop} {pre tl₀ : List (Addr × Obj)} {r : Addr} {a b c : Int} {t u v : Tok} {n : Nat} (P : Nat → List (Int × Int) → Prop)
    {l ac cc : Addr} {o oC₀ : Obj} {g : Obj → List (Addr × Obj)} {v₀ vc₀ : Option Value} {vs₀ : List Value} {ns₀ : List (Int × Int)} {k₀ : Nat}
    (hh : A.handled = none) (F : Fr h₀ L s.heap m) (N : News h₀ L s.heap ((l, listOf vs₀.toArray k₀) :: (pre ++ ((cc, oC₀) :: tl₀)))) (hr : IsRange s.heap r a b c t u v) (hsm : Builtin.Range.small a b c = true) (hn : Builtin.Range.rangeSize a b c = (n : Int))
    (hc : env.cells.lookup x = some ac) (U : UpdF ac o pre g) (hd : o.data = .cell v₀) (hd2 : oC₀.data = .cell vc₀) (hi₀ : PIn tl₀ vs₀ ns₀) (hb₀ : ∀ p ∈ tl₀, ∀ b ∈ l :: cc :: pre.map (·.1), @Ne Nat p.1 b) (h0 : P 0 ns₀)
    (turn : ∀ (i : Nat) (vs : List Value) (ns : List (Int × Int)) (k : Nat) (oN : Obj) (v : Option Value) (oC : Obj) (vc : Option Value) (tl : List (Addr × Obj)) t h tk I, i < n → P i ns → PIn tl vs ns → oN.data = .cell v → oC.data = .cell vc → @Ne Nat l I → @Ne Nat cc I → (∀ p ∈ pre, @Ne Nat p.1 I) → (∀ p ∈ tl, @Ne Nat p.1 I) → (∀ p ∈ tl, ∀ b ∈ l :: cc :: pre.map (·.1), @Ne Nat p.1 b) → Fr h₀ L h m → News h₀ L h ((I, krsIt (a + ((i + 1 : Nat) : Int) * c) ((n : Int) - ((i + 1 : Nat) : Int)) c) :: (l, listOf vs.toArray k) :: (g oN ++ ((cc, oC) :: tl))) →
      wpAny (model prog w) A (assign (.Name x px) env (.int (a + (i : Int) * c) t)) (fun _ s' => wpAny (model prog w) A (execs body env) (FPostQ h₀ L I (krsIt (a + ((i + 1 : Nat) : Int) * c) ((n : Int) - ((i + 1 : Nat) : Int)) c) m l cc (l :: cc :: pre.map (·.1)) g (P (i + 1)) Q { s with heap := h, toks := tk }) E s') E { s with heap := h, toks := tk })
    (done : ∀ (vs : List Value) (ns : List (Int × Int)) (k : Nat) (oN : Obj) (v : Option Value) (oC : Obj) (vc : Option Value) (tl : List (Addr × Obj)) h tk, P n ns → PIn tl vs ns → oN.data = .cell v → oC.data = .cell vc → (∀ p ∈ tl, ∀ b ∈ l :: cc :: pre.map (·.1), @Ne Nat p.1 b) → Fr h₀ L h m → News h₀ L h ((l, listOf vs.toArray k) :: (g oN ++ ((cc, oC) :: tl))) → Q .next { s with heap := h, toks := tk })
    (hE : PassesOwn (model prog w) A env E) : ForSrc prog w A E env x px body Q (.ref r) s := by
  have hsame := upd_same U
  refine ForSrc.range (σ := QSt) hh F N hr hsm hn (fun _ => m) (fun d => (l, listOf d.vs.toArray d.k) :: (g d.oN ++ ((cc, d.oC) :: d.tl))) (fun i d => P i d.ns ∧ PIn d.tl d.vs d.ns ∧ d.oN.data = .cell d.v ∧ d.oC.data = .cell d.vc ∧ ∀ p ∈ d.tl, ∀ b ∈ l :: cc :: pre.map (·.1), @Ne Nat p.1 b) ⟨vs₀, ns₀, k₀, o, v₀, oC₀, vc₀, tl₀⟩ (fun _ => rfl) (fun p hp => by dsimp only at hp; rw [hsame] at hp; exact hp) ⟨h0, hi₀, hd, hd2, hb₀⟩ ?_ (fun d h tk hp F' N' => done d.vs d.ns d.k d.oN d.v d.oC d.vc d.tl h tk hp.1 hp.2.1 hp.2.2.1 hp.2.2.2.1 hp.2.2.2.2 F' N') hE
  intro i d t h tk I hi hp ho F' N'
  have hoA : ∀ p ∈ g d.oN, @Ne Nat p.1 I := fun p hp => ho p (List.mem_cons_of_mem _ (List.mem_append.mpr (.inl hp)))
  have hoC : @Ne Nat cc I := ho (cc, d.oC) (List.mem_cons_of_mem _ (List.mem_append.mpr (.inr (.head _))))
  have hoT : ∀ p ∈ d.tl, @Ne Nat p.1 I := fun p hp => ho p (List.mem_cons_of_mem _ (List.mem_append.mpr (.inr (.tail _ hp))))
  have hoN := upd_off' U hoA
  refine wpAny_mono (turn i d.vs d.ns d.k d.oN d.v d.oC d.vc d.tl t h tk I hi hp.1 hp.2.1 hp.2.2.1 hp.2.2.2.1 (ho _ List.mem_cons_self) hoC hoN hoT hp.2.2.2.2 F' N') (fun _ s₂ h₂ => wpAny_mono h₂ (fun f s₃ h₃ => ?_) fun _ _ e => e) fun _ _ e => e
  have fin : FEndQ h₀ L I (krsIt (a + ((i + 1 : Nat) : Int) * c) ((n : Int) - ((i + 1 : Nat) : Int)) c) m l cc (l :: cc :: pre.map (·.1)) g (P (i + 1)) { s with heap := h, toks := tk } s₃ →
      FEnd h₀ L I (krsIt (a + ((i + 1 : Nat) : Int) * c) ((n : Int) - ((i + 1 : Nat) : Int)) c) (fun _ : QSt => m) (fun d => (l, listOf d.vs.toArray d.k) :: (g d.oN ++ ((cc, d.oC) :: d.tl))) (fun d => P (i + 1) d.ns ∧ PIn d.tl d.vs d.ns ∧ d.oN.data = .cell d.v ∧ d.oC.data = .cell d.vc ∧ ∀ p ∈ d.tl, ∀ b ∈ l :: cc :: pre.map (·.1), @Ne Nat p.1 b) { s with heap := h, toks := tk } s₃ := by
    rintro ⟨vs', ns', k', oN', v', oC', vc', tl', h', tk', m', news', rfl, F₄, hm', N₄, hl₄, hi₄, hd₄, hd₅, hb₄, ho₄, hp₄⟩
    refine FEnd.intro ⟨vs', ns', k', oN', v', oC', vc', tl'⟩ F₄ N₄ hm' (hl₄ _ List.mem_cons_self) (fun p hp => hl₄ p (List.mem_cons_of_mem _ hp)) (fun p hp => ?_) ⟨hp₄, hi₄, hd₄, hd₅, hb₄⟩
    rcases List.mem_cons.mp hp with rfl | hp
    · exact ho (l, listOf d.vs.toArray d.k) List.mem_cons_self
    · rcases List.mem_append.mp hp with hp | hp
      · exact upd_off U hoN p hp
      · rcases List.mem_cons.mp hp with rfl | hp
        · exact hoC
        · exact ho₄ p hp
  cases f with
  | ret v => exact h₃
  | brk => exact h₃
  | next => exact fin h₃
  | cont => exact fin h₃
theorem news_rot2 {h : Heap} {a b d c : Addr × Obj} {r : List (Addr × Obj)} (N : News h₀ L h (a :: b :: d :: c :: r)) : News h₀ L h (b :: ((d :: r) ++ (c :: []))) := fun p hp => N p (by
  rcases List.mem_cons.mp hp with rfl | hp
  · exact .tail _ (.head _)
  · rcases List.mem_append.mp hp with hp | hp
    · rcases List.mem_cons.mp hp with rfl | hp
      · exact .tail _ (.tail _ (.head _))
      · exact .tail _ (.tail _ (.tail _ (.tail _ hp)))
    · rw [List.mem_singleton.mp hp]; exact .tail _ (.tail _ (.tail _ (.head _))))
theorem news_swap2 {h : Heap} {a b c : Addr × Obj} {r tl : List (Addr × Obj)} (N : News h₀ L h (a :: b :: (r ++ (c :: tl)))) : News h₀ L h (b :: ((a :: c :: r) ++ tl)) := fun p hp => N p (by
  rcases List.mem_cons.mp hp with rfl | hp
  · exact .tail _ (.head _)
  · rcases List.mem_cons.mp hp with rfl | hp
    · exact .head _
    · rcases List.mem_cons.mp hp with rfl | hp
      · exact .tail _ (.tail _ (List.mem_append.mpr (.inr (.head _))))
      · rcases List.mem_append.mp hp with hp | hp
        · exact .tail _ (.tail _ (List.mem_append.mpr (.inl hp)))
        · exact .tail _ (.tail _ (List.mem_append.mpr (.inr (.tail _ hp)))))
end
theorem bad_out {tl : List (Addr × Obj)} {l I : Nat} {oI : Obj} {r : List (Addr × Obj)} {ms : List Nat} (hb : ∀ p ∈ tl, ∀ b ∈ l :: ((I, oI) :: r).map (·.1), @Ne Nat p.1 b) (he : r.map (·.1) = ms) : ∀ p ∈ tl, ∀ b ∈ l :: ms, @Ne Nat p.1 b := by
  subst he
  intro p hp b hb'
  rcases List.mem_cons.mp hb' with rfl | hb'
  · exact hb p hp _ (.head _)
  · exact hb p hp b (.tail _ (.tail _ hb'))
theorem bad_I {tl : List (Addr × Obj)} {l I : Nat} {oI : Obj} {r : List (Addr × Obj)} (hb : ∀ p ∈ tl, ∀ b ∈ l :: ((I, oI) :: r).map (·.1), @Ne Nat p.1 b) : ∀ p ∈ tl, @Ne Nat p.1 I := fun p hp => hb p hp I (.tail _ (.head _))
end Mine
end
section
namespace Mine
set_option maxRecDepth 100000
set_option maxHeartbeats 4000000
section
variable {prog : Program} {w : World} {A : Around} {E : Value → Shared → Prop} {s : Shared} {h₀ : Heap} {L : Addr} {m : Str → Option Value} {env : Env}
variable {elt ct : Expr} {x : Str} {scope : Scope} {cl : List (Str × Addr)} {Fin : List Value → List (Addr × Obj) → Prop} {base : List (Addr × Obj)}
/-- an element that is a new pair -/
def KPEl (base tl : List (Addr × Obj)) (q : Int × Int) (y : Value) (news' : List (Addr × Obj)) : Prop := ∃ (T : Addr) (t u : Tok), y = .ref T ∧ news' = base ++ (tl ++ [(T, tup2 q.1 t q.2 u)])
theorem restP {n : Nat} {a : Int} (f : Int → Int × Int)
    (turn : ∀ (i : Nat) t tl I oI C oC D m₂ ys h tk (E' : Value → Shared → Prop), i < n → LCg.NsObj oC m₂ → m₂ x = some (.int (a + (i : Int)) t) → Fr h₀ L h m → News h₀ L h ((I, oI) :: (C, oC) :: (D, LCg.lst ys) :: (base ++ tl)) → LCg.Off3 I C D (base ++ tl) → ((@Ne Nat I C) ∧ (@Ne Nat I D) ∧ (@Ne Nat C D)) →
      wpAny (model prog w) A (eval elt (compEnvC scope cl C env)) (LCg.CompEnd h₀ L m { s with heap := h, toks := tk } I oI C oC D (LCg.lst ys) (fun _ => True) (fun y news' => KPEl base tl (f (a + (i : Int))) y news')) E' { s with heap := h, toks := tk })
    (fin : ∀ ys tl, PIn tl ys ((List.range n).map fun (i : Nat) => f (a + (i : Int))) → Fin ys (base ++ tl)) : LCg.CompRest prog w A h₀ L m env elt x scope cl s (fun _ => True) (fun i v => ∃ t, v = .int (a + (i : Int)) t) Fin n 0 [] base := by
  have key : ∀ (j i : Nat) (ys : List Value) (tl : List (Addr × Obj)), i + j = n → PIn tl ys ((List.range i).map fun (i : Nat) => f (a + (i : Int))) → LCg.CompRest prog w A h₀ L m env elt x scope cl s (fun _ => True) (fun i v => ∃ t, v = .int (a + (i : Int)) t) Fin j i ys (base ++ tl) := by
    intro j
    induction j with
    | zero =>
      intro i ys tl hi hy
      have e : i = n := by omega
      subst e
      exact LCg.CompRest.zero (fin ys tl hy)
    | succ j ih =>
      intro i ys tl hi hy
      refine LCg.CompRest.succ ?_
      intro v I oI C oC D m₂ h tk E' hv hC hx F N off ne
      obtain ⟨t, rfl⟩ := hv
      refine wpAny_mono (turn i t tl I oI C oC D m₂ ys h tk E' (by omega) hC hx F N off ne) (fun y s₃ hr => ?_) fun _ _ e => e
      obtain ⟨h', tk', nw, e, F', N', off', hS', T, t', u', hy', hn⟩ := hr
      rw [hn] at N' off'
      refine ⟨h', tk', _, e, F', N', off', trivial, ?_⟩
      rw [hy']
      refine ih (i + 1) _ _ (by omega) ?_
      rw [List.range_succ, List.map_append]
      exact (hy.mono fun p hp => List.mem_append.mpr (.inl hp)).append (.cons (List.mem_append.mpr (.inr (.head _))) .nil)
  have := key n 0 [] [] (by omega) .nil
  rwa [List.append_nil] at this
theorem off3_all {I C D : Addr} {l : List (Addr × Obj)} (h : LCg.Off3 I C D l) : ∀ p ∈ l, p.1 ≠ I ∧ p.1 ≠ C ∧ p.1 ≠ D := h.mem
theorem cpEl {I C D T : Addr} {s₁ : Shared} {oI oC oD : Obj} {q : Int × Int} {x y : Int} {t u : Tok} {h' : Heap} {tk : Nat} {tl all : List (Addr × Obj)} (F : Fr h₀ L h' m) (N : News h₀ L h' all) (sub : ∀ p ∈ (I, oI) :: (C, oC) :: (D, oD) :: (base ++ tl), p ∈ all) (hT : (T, tup2 x t y u) ∈ all)
    (off : LCg.Off3 I C D (base ++ tl)) (hI : @Ne Nat I T) (hC : @Ne Nat C T) (hD : @Ne Nat D T) (hq : q = (x, y)) : LCg.CompEnd h₀ L m s₁ I oI C oC D oD (fun _ => True) (fun y news' => KPEl base tl q y news') (.ref T) { s₁ with heap := h', toks := tk } := by
  subst hq
  have hall := off3_all off
  refine LCg.CompEnd.intro F N (base ++ (tl ++ [(T, tup2 x t y u)])) (fun p hp => ?_) (LCg.Off3.of fun p hp => ?_) trivial ⟨T, t, u, rfl, rfl⟩
  · rw [← List.append_assoc] at hp
    rcases List.mem_cons.mp hp with rfl | hp
    · exact sub _ (.head _)
    rcases List.mem_cons.mp hp with rfl | hp
    · exact sub _ (.tail _ (.head _))
    rcases List.mem_cons.mp hp with rfl | hp
    · exact sub _ (.tail _ (.tail _ (.head _)))
    rcases List.mem_append.mp hp with hp | hp
    · exact sub p (.tail _ (.tail _ (.tail _ hp)))
    · rw [List.mem_singleton.mp hp]; exact hT
  · rw [← List.append_assoc] at hp
    rcases List.mem_append.mp hp with hp | hp
    · exact hall p hp
    · rw [List.mem_singleton.mp hp]; exact ⟨Ne.symm hI, Ne.symm hC, Ne.symm hD⟩
end
end Mine
end
section
namespace Mine
set_option maxRecDepth 100000
/-- the data of a list of pairs -/
def pairD (q : Int × Int) : PyData := .tuple [.int q.1, .int q.2]
theorem pin_reads {h₀ h : Heap} {L : Addr} {news : List (Addr × Obj)} (N : News h₀ L h news) {vs : List Value} {ns : List (Int × Int)} (p : PIn news vs ns) : ∃ as, ReadsAll h vs (ns.map pairD) as := by
  induction p with
  | nil => exact ⟨_, .nil⟩
  | cons hm _ ih =>
    obtain ⟨as, ih⟩ := ih
    exact ⟨_, .cons (.tuple (N.get hm) rfl rfl (.cons (.int _ _) (.cons (.int _ _) .nil))) ih⟩
theorem pairD_lay : ∀ ns : List (Int × Int), PyData.canLayAll0 (ns.map pairD) = true
  | [] => rfl
  | q :: ns => by
    rw [List.map_cons, PyData.canLayAll0, pairD_lay ns]; rfl
theorem pairD_depth : ∀ ns : List (Int × Int), PyData.depthAll (ns.map pairD) ≤ 3
  | [] => by rw [List.map_nil, PyData.depthAll]; omega
  | q :: ns => by
    rw [List.map_cons, PyData.depthAll]
    have := pairD_depth ns
    have h2 : (pairD q).depth ≤ 3 := by
      simp only [pairD, PyData.depth, PyData.depthAll]; omega
    omega
theorem ne_pairs {prog : Program} {w : World} {A : Around} {E : Value → Shared → Prop} {s : Shared} {h₀ : Heap} {L : Addr} {news : List (Addr × Obj)} {Q : Value → Shared → Prop} {l D : Addr} {vs ys : List Value} {k k' : Nat} {ns : List (Int × Int)}
    (N : News h₀ L s.heap news) (hl : (l, ({ cls := .type "list", data := .seq vs.toArray k } : Obj)) ∈ news) (hD : (D, ({ cls := .type "list", data := .seq ys.toArray k' } : Obj)) ∈ news) (pv : PIn news vs ns) (py : PIn news ys ns) (hu : A.units + 8 < cLine) (hQ : Q (.bool false) s) :
    wpAny (model prog w) A (compareOp .NotEq (.ref l) (.ref D)) Q E s := by
  obtain ⟨as, r1⟩ := pin_reads N pv
  obtain ⟨bs, r2⟩ := pin_reads N py
  have hlay : (PyData.list (ns.map pairD)).canLay0 = true := by rw [PyData.canLay0]; exact pairD_lay ns
  have hdep : (PyData.list (ns.map pairD)).depth ≤ 4 := by
    rw [PyData.depth]; have := pairD_depth ns; omega
  refine SeqAt.compareNe_reads (da := .list (ns.map pairD)) (db := .list (ns.map pairD)) (.list (N.get hl) rfl rfl r1) (.list (N.get hD) rfl rfl r2) hlay hlay (by omega) ?_
  rw [SeqAt.eqv_refl _ hlay]
  exact hQ
end Mine
end
section
namespace Mine
set_option maxRecDepth 100000
set_option maxHeartbeats 4000000
section
variable {prog : Program} {w : World} {A : Around} {E : Value → Shared → Prop} {s : Shared} {h₀ : Heap} {L : Addr} {m : Str → Option Value} {env : Env}
abbrev tupK (its : Array Value) (k : Nat) : Obj := { cls := .type "tuple", data := .seq its k }
theorem tuple_st {I D : Addr} {its : Array Value} {k : Nat} : ∀ i (h h' : Heap) (o : Obj) (nw : List (Addr × Obj)), (h.IsTupleIter I D i ∧ h.IsTuple D its) → h.get? I = some o → h'.get? I = some o → (∀ b o, h₀.get? b = some o → h'.get? b = some o) → News h₀ L h' nw → (D, tupK its k) ∈ nw → (h'.IsTupleIter I D i ∧ h'.IsTuple D its) :=
  fun i h h' o nw st e e' _ N hm => by
    obtain ⟨⟨o', ho, hc, hd⟩, _⟩ := st
    rw [e] at ho
    cases ho
    exact ⟨⟨o, e', hc, hd⟩, ⟨_, N.get hm, rfl, _, rfl⟩⟩
/-- comprehensions over a tuple of the ledger -/
def TSrc (prog : Program) (w : World) (A : Around) (h₀ : Heap) (L : Addr) (m : Str → Option Value) (env : Env) (elt : Expr) (x : Str) (scope : Scope) (cl : List (Str × Addr)) (Fin : Shared → List Value → List (Addr × Obj) → Prop) (xv : Value) (s₁ : Shared) : Prop :=
  ∃ D its k news, xv = .ref D ∧ A.handled = none ∧ Fr h₀ L s₁.heap m ∧ News h₀ L s₁.heap news ∧ (D, tupK its k) ∈ news ∧ its.size ≤ sizeLine ∧
    ∀ s₂ : Shared, (∃ h, s₂ = { s₁ with heap := h }) → LCg.CompRest prog w A h₀ L m env elt x scope cl s₂ (fun nw => (D, tupK its k) ∈ nw) (fun i v => its[i]? = some v) (Fin s₂) its.size 0 [] news
theorem TSrc.intro {elt : Expr} {x : Str} {scope : Scope} {cl : List (Str × Addr)} {Fin : Shared → List Value → List (Addr × Obj) → Prop} {D : Addr} {its : Array Value} {k : Nat} {news : List (Addr × Obj)} {s₁ : Shared}
    (hh : A.handled = none) (F : Fr h₀ L s₁.heap m) (N : News h₀ L s₁.heap news) (hm : (D, tupK its k) ∈ news) (hsz : its.size ≤ sizeLine)
    (h : ∀ g, LCg.CompRest prog w A h₀ L m env elt x scope cl { s₁ with heap := g } (fun nw => (D, tupK its k) ∈ nw) (fun i v => its[i]? = some v) (Fin { s₁ with heap := g }) its.size 0 [] news) :
    TSrc prog w A h₀ L m env elt x scope cl Fin (.ref D) s₁ := ⟨D, its, k, news, rfl, hh, F, N, hm, hsz, fun _ ⟨g, e⟩ => e ▸ h g⟩
theorem ListComp_TS {elt iter : Expr} {x : Str} {px : Pos} {scope : Scope} {cl : List (Str × Addr)} {pos : Pos} {Q : Value → Shared → Prop} (F₀ : Fr h₀ L s.heap m)
    (hclos : closureFor scope env = pure cl) (hcell : ∀ y ∈ scope.names, y.2 ≠ .cell) (hkind : scope.kind = .function)
    (hnames : ∀ y ∈ scope.names, y.2 = .local → scope.names.lookup y.1 = some .local) (hx : scope.names.lookup x = some .local)
    (h : wpAny (model prog w) A (eval iter env) (TSrc prog w A h₀ L m env elt x scope cl (fun s₂ => LCg.FinE h₀ L m s₂ Q)) E s)
    (hs : ∀ x, foldedSetIterable iter env x = pure x := by intro _; rfl) :
    wpAny (model prog w) A (eval (.ListComp elt [⟨.Name x px, iter, [], 0⟩] scope pos) env) Q E s := by
  rw [eval_ListComp]
  refine wpAny_comprehension_free (use := none) rfl hs hclos hkind hnames (wpAny_mono h (fun xv s₁ h₁ => ?_) fun _ _ e => e)
  obtain ⟨D₀, its, k, news, rfl, hh, F, N, hm, hsz, R⟩ := h₁
  have ht : s₁.heap.IsTuple D₀ its := ⟨_, N.get hm, rfl, _, rfl⟩
  have hlt : D₀ < s₁.heap.objs.size := Heap.lt_size (N.get hm)
  refine wpAny_pyIter_tuple ht ?_
  have up : ∀ b o, s₁.heap.get? b = some o → (s₁.heap.push { cls := .type "tuple_iterator", data := .fields #[.ref D₀, .int 0 0] }).get? b = some o := fun b o e => Heap.get?_push_of_some _ e
  refine LCg.block_U (Walks.tuple hh s₁.heap.objs.size D₀ (Nat.ne_of_lt hlt) its) hsz (fun i h st => by obtain ⟨o, e, _⟩ := st.1; exact ⟨o, e⟩) tuple_st hcell hkind hx ⟨⟨_, Heap.get?_push_size _ rfl, rfl, rfl⟩, ⟨_, Heap.get?_push_of_some _ (N.get hm), rfl, _, rfl⟩⟩ (fun b hb => ?_)
    (F.keeps up) (N.grown up) (Nat.ne_of_lt F.ns.lt) (next_is_new F) (fun p hp => Nat.ne_of_lt (Heap.lt_size (N p hp).1)) hm (R _ ⟨_, rfl⟩) ?_
  · show b < (s₁.heap.push _).objs.size
    rw [Heap.size_push]
    rcases List.mem_cons.mp hb with rfl | hb
    · exact Nat.lt_succ_self _
    · rw [List.mem_singleton.mp hb]; exact Nat.lt_succ_of_lt hlt
  · intro D C h tk m' ys news' F' N' o1 hn hC₀ hD₀ hCL hDL hCD offC fin
    refine ⟨m', hn, fun h'' hs'' => fin D h'' tk (F'.change hs'' hCL hC₀) (fun p hp => ?_) o1⟩
    refine ⟨hs''.extBut _ _ ?_ (N' p hp).1, (N' p hp).2⟩
    rcases List.mem_cons.mp hp with rfl | hp
    · exact Ne.symm hCD
    · exact offC p hp
end
end Mine
end
section
namespace Mine
set_option maxRecDepth 100000
section
variable {prog : Program} {w : World} {A : Around} {E : Value → Shared → Prop} {s : Shared} {h₀ : Heap} {L : Addr} {m : Str → Option Value} {news : List (Addr × Obj)}
theorem part_none {Q : Option Int → Shared → Prop} (h : Q none s) : wpAny (model prog w) A (Builtin.Slice.slicePartIndex .none) Q E s := wpAny_pure h
theorem part_int {i : Int} {t : Tok} {Q : Option Int → Shared → Prop} (h : Q (some i) s) : wpAny (model prog w) A (Builtin.Slice.slicePartIndex (.int i t)) Q E s := by
  unfold Builtin.Slice.slicePartIndex
  rw [if_neg (show ¬ ((Value.int i t == Value.none) = true) from Bool.false_ne_true)]
  refine wpAny_bind (wpAny_specialOf (T := "int") (typeIs_int s i t) int_index ?_)
  simp only [Option.isNone_some, Bool.false_eq_true, if_false]
  exact wpAny_bind (wpAny_of_eq (a := i) rfl (wpAny_pure h))
theorem tup_rev {t sl : Addr} {x y : Value} {tk : Tok} {Q : Value → Shared → Prop} (ht : IsTup s.heap t #[x, y]) (hs : s.heap.IsSliceOf sl .none .none (.int (-1) tk))
    (h : Q (.ref s.heap.objs.size) { s with heap := s.heap.push { cls := .type "tuple", data := .seq #[y, x] } }) : wpAny (model prog w) A (getItem (.ref t) (.ref sl)) Q E s := by
  obtain ⟨os, hos, hcs, hds⟩ := id hs
  have hTs : s.TypeIs (.ref sl) "slice" := ⟨os, hos, hcs⟩
  unfold getItem
  try with_reducible refine wpAny_holding ?_
  first | refine wpAny_bind (wpAny_pure ?_) | skip
  refine wpAny_bind (wpAny_sequenceKey ht.typeIs (by decide) ?_)
  refine wpAny_bind (wpAny_callSpecial?_slot (name := Str.ofString "__getitem__") ht.typeIs slot_tuple_getitem
    (wpAny_call_entry slot_tuple_getitem ht.typeIs entry_tuple_getitem ?_ (args_tuple_getitem _ _)))
  show wpAny _ _ (Builtin.Tuple.tupleItemsOf (.ref t) >>= _) _ _ s
  refine wpAny_bind (tupleItemsOf_ ht ?_)
  refine wpAny_bind (wpAny_typeOf hTs ?_)
  rw [if_pos (by decide)]
  unfold Builtin.Slice.sliceApplied Builtin.Slice.sliceFields
  refine wpAny_bind (wpAny_bind (wpAny_bind ?_))
  refine wpAny_field hos hds (x := Value.none) rfl (wpAny_bind (wpAny_field hos hds (x := Value.none) rfl (wpAny_bind (wpAny_field hos hds (x := Value.int (-1) tk) rfl (wpAny_pure ?_)))))
  refine wpAny_bind (part_int ?_)
  rw [if_neg (by decide)]
  refine wpAny_bind (part_none (wpAny_bind (part_none (wpAny_bind (wpAny_pure ?_)))))
  refine wpAny_pure ?_
  dsimp only
  simp only [show (#[x, y] : Array Value).size = 2 from rfl]
  rw [if_neg (by decide)]
  refine wpAny_bind ?_
  show wpAny _ _ (newObj (.type "tuple") (.seq #[y, x])) _ _ _
  refine wpAny_newObj_type (wpAny_pure ⟨_, rfl, wpAny_pure h⟩) (by show 2 ≤ sizeLine; rw [PySem.sizeLine_eq]; decide)
theorem slice_tup_rev {value slice : Expr} {l : Addr} {x y : Value} {tk : Tok} {ops : List Value} {Q : Value → Shared → Prop}
    (F : Fr h₀ L s.heap m) (N : News h₀ L s.heap news) (hl : IsTup s.heap l #[x, y])
    (h : ∀ D h', Fr h₀ L h' m → News h₀ L h' ((D, { cls := .type "tuple", data := .seq #[y, x] }) :: news) → (∀ p ∈ news, p.1 < D) → Q (.ref D) { s with heap := h' })
    (hs : subscripted slice false (.ref l) (.ref s.heap.objs.size) = operate ops (getItem (.ref l) (.ref s.heap.objs.size)))
    (ht : ∀ r, letTemporaryGo value (.ref l) r = pure ()) :
    wpAny (model prog w) A (subscriptTail value slice (.ref l) (.ref s.heap.objs.size)) Q E { s with heap := s.heap.push { cls := .type "slice", data := .fields #[.none, .none, .int (-1) tk] } } := by
  have hl' : IsTup (s.heap.push { cls := .type "slice", data := .fields #[.none, .none, .int (-1) tk] }) l #[x, y] := hl.keeps fun _ _ e => Heap.get?_push_of_some _ e
  refine subscriptTail_ops (IsTup.typeIs (s := { s with heap := s.heap.push { cls := .type "slice", data := .fields #[.none, .none, .int (-1) tk] } }) hl') slot_tuple_getitem.lookup
    (tup_rev (tk := tk) hl' (Heap.IsSliceOf.new ..) ?_) hs ht
  have N1 := News.push (F.push { cls := .type "slice", data := .fields #[.none, .none, .int (-1) tk] }) (N.grown fun _ _ e => Heap.get?_push_of_some _ e) { cls := .type "tuple", data := .seq #[y, x] }
  rw [Heap.size_push] at N1
  show Q (.ref (s.heap.push _).objs.size) _
  rw [Heap.size_push]
  exact h _ _ ((F.push _).push _) N1 fun p hp => Nat.lt_succ_of_lt (Heap.lt_size (N p hp).1)
theorem isTup_of {h : Heap} {a : Addr} {x y : Value} {k : Nat} (N : News h₀ L h news) (hm : (a, ({ cls := .type "tuple", data := .seq #[x, y] k } : Obj)) ∈ news) : IsTup h a #[x, y] := ⟨_, N.get hm, rfl, _, rfl⟩
end
end Mine
end
section
namespace Mine
set_option maxRecDepth 100000
set_option maxHeartbeats 4000000
section
variable {prog : Program} {w : World} {A : Around} {E : Value → Shared → Prop} {s : Shared} {h₀ : Heap} {L : Addr} {m : Str → Option Value} {env : Env}
def ForSrcP (prog : Program) (w : World) (A : Around) (E : Value → Shared → Prop) (env : Env) (target : Expr) (body : List Stmt) (Q : Flow → Shared → Prop) (xv : Value) (s₁ : Shared) : Prop :=
  wpAny (model prog w) A (pyIter xv) (fun it s₂ => codeAny (model prog w) A (.forLoop target it body [] env) (fun r s' => match r with | .ok f => Q f s' | .error e => cameBackBy (model prog w) A env E e s') s₂) E s₁
theorem for_srcP {target iter : Expr} {pos : Pos} {body : List Stmt} {Q : Flow → Shared → Prop} (h : wpAny (model prog w) A (eval iter env) (ForSrcP prog w A E env target body Q) E s)
    (hs : ∀ x, foldedSetIterable iter env x = pure x := by intro _; rfl) : wpAny (model prog w) A (exec (.For target iter body [] pos) env) Q E s := wpAny_For h hs
def FEndT (h₀ : Heap) (L : Addr) (I : Addr) (oI : Obj) (stored : List Str) (m : Str → Option Value) (news : List (Addr × Obj)) (P : Prop) (s₁ s₂ : Shared) : Prop :=
  ∃ (h' : Heap) (tk' : Nat) (m' : Str → Option Value) (news' : List (Addr × Obj)), s₂ = { s₁ with heap := h', toks := tk' } ∧ Fr h₀ L h' m' ∧ (∀ z, stored.contains z = false → m' z = m z) ∧ News h₀ L h' news' ∧ (∀ p ∈ (I, oI) :: news, p ∈ news') ∧ P
theorem FEndT.intro {I : Addr} {oI : Obj} {stored : List Str} {news : List (Addr × Obj)} {P : Prop} {s₁ : Shared} {h' : Heap} {tk' : Nat} {m' : Str → Option Value} {news' : List (Addr × Obj)}
    (F : Fr h₀ L h' m') (N : News h₀ L h' news') (hm : ∀ z, stored.contains z = false → m' z = m z) (hl : ∀ p ∈ (I, oI) :: news, p ∈ news') (hp : P) :
    FEndT h₀ L I oI stored m news P s₁ { s₁ with heap := h', toks := tk' } := ⟨h', tk', m', news', rfl, F, hm, N, hl, hp⟩
def FPostT (h₀ : Heap) (L : Addr) (I : Addr) (oI : Obj) (stored : List Str) (m : Str → Option Value) (news : List (Addr × Obj)) (P : Prop) (Q : Flow → Shared → Prop) (s₁ : Shared) (f : Flow) (s₂ : Shared) : Prop :=
  match f with
  | .ret v => Q (.ret v) s₂
  | .brk => Q .next s₂
  | _ => FEndT h₀ L I oI stored m news P s₁ s₂
theorem ForSrcP.tup {target : Expr} {body : List Stmt} {Q : Flow → Shared → Prop} {news : List (Addr × Obj)} {D : Addr} {its : Array Value} {k : Nat} (stored : List Str) (P : Nat → Prop)
    (hh : A.handled = none) (F : Fr h₀ L s.heap m) (N : News h₀ L s.heap news) (hD : (D, ({ cls := .type "tuple", data := .seq its k } : Obj)) ∈ news) (h0 : P 0)
    (hgo : ∀ (I l : Addr) (i : Nat) (v : Value) (s' : Shared) (Q' : Unit → Shared → Prop) (E' : Value → Shared → Prop), s'.heap.IsTupleIter I l i → Q' () s' → wpAny (model prog w) A (letOwnedTupleGo target (.ref I) v) Q' E' s')
    (turn : ∀ (i : Nat) v (u' : Str → Option Value) h tk I oI, its[i]? = some v → P i → (∀ p ∈ news, @Ne Nat p.1 I) → Fr h₀ L h (kwM stored m u') → News h₀ L h ((I, oI) :: news) →
      wpAny (model prog w) A (assign target env v) (fun _ s' => wpAny (model prog w) A (execs body env) (FPostT h₀ L I oI stored m news (P (i + 1)) Q { s with heap := h, toks := tk }) E s') E { s with heap := h, toks := tk })
    (done : ∀ (u' : Str → Option Value) h tk, P its.size → Fr h₀ L h (kwM stored m u') → News h₀ L h news → Q .next { s with heap := h, toks := tk })
    (hE : PassesOwn (model prog w) A env E) : ForSrcP prog w A E env target body Q (.ref D) s := by
  have ht : s.heap.IsTuple D its := ⟨_, N.get hD, rfl, _, rfl⟩
  refine wpAny_pyIter_tuple ht ?_
  have hI₀ := next_is_new F
  have hIL : L ≠ s.heap.objs.size := Nat.ne_of_lt F.ns.lt
  have hne : D ≠ s.heap.objs.size := Nat.ne_of_lt (Heap.lt_size (N.get hD))
  have W := Walks.tuple (prog := prog) (w := w) hh s.heap.objs.size D hne its
  refine codeAny_forLoop_any
    (fun k s' => ∃ h' tk i u', s' = { s with heap := h', toks := tk } ∧ i ≤ its.size ∧ k = its.size + 1 - i ∧ (h'.IsTupleIter s.heap.objs.size D i ∧ h'.IsTuple D its) ∧ Fr h₀ L h' (kwM stored m u') ∧ News h₀ L h' news ∧ P i) ?_ (its.size + 1)
    ⟨_, s.toks, 0, m, rfl, Nat.zero_le _, rfl, ⟨⟨_, Heap.get?_push_size _ rfl, rfl, rfl⟩, ⟨_, Heap.get?_push_of_some _ (N.get hD), rfl, _, rfl⟩⟩, (funext (kwM_self (m := m) (stored := stored) (m' := m) fun _ _ => rfl)) ▸ F.keeps fun _ _ e => Heap.get?_push_of_some _ e, N.grown fun _ _ e => Heap.get?_push_of_some _ e, h0⟩
  have ho : ∀ p ∈ news, @Ne Nat p.1 s.heap.objs.size := fun p hp => Nat.ne_of_lt (Heap.lt_size (N p hp).1)
  rintro k s' ⟨h', tk, i, u', rfl, hi, rfl, hst, F', N', hP⟩
  by_cases hlt : i < its.size
  · refine W.item i _ _ _ hlt hst fun v h₁ tk₁ hv hst₁ hk₁ => ?_
    have F₁ : Fr h₀ L h₁ (kwM stored m u') := LCg.fr_but F' hk₁ hIL hI₀
    have N₁ : News h₀ L h₁ news := LCg.news_but N' hk₁ ho
    obtain ⟨oI, hoI, hcI, hdI⟩ := id hst₁.1
    refine hgo s.heap.objs.size D (i + 1) v _ _ _ hst₁.1 ?_
    refine wpAny_passesOwn hE (wpAny_mono (turn i v u' h₁ tk₁ s.heap.objs.size oI hv hP ho F₁ (fun p hp => ?_)) (fun _ s₂ h₂ => wpAny_passesOwn hE (wpAny_mono h₂ (fun f s₃ h₃ => ?_) fun _ _ e => e)) fun _ _ e => e)
    · rcases List.mem_cons.mp hp with rfl | hp
      · exact ⟨hoI, Ne.symm hIL, hI₀⟩
      · exact N₁ p hp
    · have fin : FEndT h₀ L s.heap.objs.size oI stored m news (P (i + 1)) { s with heap := h₁, toks := tk₁ } s₃ →
          ∃ m_1, m_1 < its.size + 1 - i ∧ ∃ h' tk i u', s₃ = { s with heap := h', toks := tk } ∧ i ≤ its.size ∧ m_1 = its.size + 1 - i ∧ (h'.IsTupleIter s.heap.objs.size D i ∧ h'.IsTuple D its) ∧ Fr h₀ L h' (kwM stored m u') ∧ News h₀ L h' news ∧ P i := by
        rintro ⟨h₄, tk₄, m₄, news₄, rfl, F₄, hm₄, N₄, hl₄, hP₄⟩
        have e₄ : m₄ = kwM stored m m₄ := funext (kwM_self hm₄)
        have N₅ : News h₀ L h₄ news := fun p hp => N₄ p (hl₄ p (List.mem_cons_of_mem _ hp))
        exact ⟨its.size + 1 - (i + 1), by omega, h₄, tk₄, i + 1, m₄, rfl, hlt, rfl, ⟨⟨oI, (N₄ _ (hl₄ _ List.mem_cons_self)).1, hcI, hdI⟩, ⟨_, N₅.get hD, rfl, _, rfl⟩⟩, e₄ ▸ F₄, N₅, hP₄⟩
      cases f with
      | ret v => exact h₃
      | brk => exact h₃
      | next => exact fin h₃
      | cont => exact fin h₃
  · have hin : i = its.size := by omega
    subst hin
    refine W.done _ _ _ hst fun h₁ tk₁ hk₁ => wpAny_execs_nil ?_
    exact done u' h₁ tk₁ hP (LCg.fr_but F' hk₁ hIL hI₀) (LCg.news_but N' hk₁ ho)
theorem go_tupiter {M : Model} {elts : List Expr} {x1} {pos : Pos} {I l : Addr} {i : Nat} {v : Value} {Q' : Unit → Shared → Prop} {E' : Value → Shared → Prop} (hit : s.heap.IsTupleIter I l i) (hQ : Q' () s) :
    wpAny M A (letOwnedTupleGo (.Tuple elts x1 pos) (.ref I) v) Q' E' s := by
  obtain ⟨o, ho, hc, hd⟩ := hit
  cases v with
  | ref a =>
    unfold letOwnedTupleGo
    refine wpAny_bind (wpAny_load ho ?_)
    rw [hc, hd]
    dsimp only
    rw [if_neg (by simp)]
    exact wpAny_pure hQ
  | _ => exact wpAny_pure hQ
end
end Mine
end
namespace Mine
set_option maxRecDepth 100000 in
set_option maxHeartbeats 8000000 in
open_top hd1 for PySem.Challenge.rw_aw5005_01
end Mine

section
namespace Mine
set_option maxRecDepth 100000
set_option maxHeartbeats 8000000
abbrev tupO (vs : List Value) : Obj := { cls := .type "tuple", data := .seq vs.toArray }

abbrev isqsC1 (w : World) (mean : ExcName → Option Value) (mg mb : Str → Option Value) : Prop := ∀ (x : Int) (t : Tok) (news : List (Addr × Obj)),
   CbClaim PySem.Challenge.rw_aw5005_01.row.prog w (hd1.heap_39 w.params) hd1.view_39 (looseW hd1.view_39 []) mean mg mb 21 news [] (0 ≤ x ∧ Builtin.Int.intBits x ≤ 2000) [.int x t] (fun t => .int (isq x) t)
section
local macro_rules | `(tactic| walk_at "binaryOp LShift int int") => `(tactic| ((with_reducible refine lshift_int_small ?k1 ?k2 ?k3 ?_); (case k1 => exact sh0 _); (case k2 => exact sh1 (by assumption)); (case k3 => decide)))
local macro_rules | `(tactic| walk_at "binaryOp FloorDiv int int") => `(tactic| ((refine floordiv_int ?k1 ?_ (Or.inl (PyProof.noPylong_of_log2 ?k2))); (case k1 => exact NewtP.ne (by assumption)); (case k2 => exact NewtP.log (by assumption))))
theorem isqs1 (w : World) (mean : ExcName → Option Value) (mg mb : Str → Option Value) : isqsC1 w mean mg mb := by
  intro x t news
  k_fill
  dsimp only [CbClaim, CbLists, CbRet]
  intros
  rename_i hpre _ _ hret
  refine wpAny_call ?_
  k_dflt cell_enter
  k_with "exec While Constant cons nil" => k_while_given ["x"] (fun x script r => NewtP x r) (fun x script r => r.toNat) "r"
  k_with "state" => first | exact newt0 (by assumption) | exact newt1 (by assumption) (by assumption) (by assumption) (by assumption)
  k_with "measure" => exact newt3 (by assumption) (by assumption)
  k_steps
  · exact cb_retI hret (newt2 (by assumption) (by assumption)).symm (by assumption) (by assumption)
  · exact cb_retI hret (newtz (by assumption)).symm (by assumption) (by assumption)
end
abbrev SqC1 (w : World) (mean : ExcName → Option Value) (mg mb : Str → Option Value) (f : Addr) : Prop :=
  ∀ (x : Int) (t : Tok) (news : List (Addr × Obj)) (dp un : Nat) (gd : Option (List Code)) (cn : Str) (cs : Scope) (a : Addr) (ccd : Value) (cl : List (Str × Addr)) (outer : List Env) (A₀ : Around) (base h₀ : Heap) (L : Addr) (m : Str → Option Value) (s : Shared) (Q E : Value → Shared → Prop),
    Below A₀ base outer h₀ → Fr h₀ L s.heap m → (hd1.heap_39 w.params).In h₀ → News h₀ L s.heap news → Top hd1.view_39 (looseW hd1.view_39 []) mean mg mb h₀ → cs.kind = .function → (0 ≤ x ∧ Builtin.Int.intBits x ≤ 2000) →
      dp + 2 < recursionLimit → un + 16 < cLine →
      (∀ (D : Addr) (t1 t2 : Tok) (h' : Heap) (tk' : Nat), Fr h₀ L h' m → News h₀ L h' ((D, tupO [.int (isq x) t1, .int (x - isq x * isq x) t2]) :: news) → (∀ p ∈ news, p.1 < D) → Q (.ref D) { s with heap := h', toks := tk' }) →
      wpAny (model PySem.Challenge.rw_aw5005_01.row.prog w) (ktrTop dp un gd cn cs L a ccd cl outer) (call (.ref f) [.int x t]) Q E s
section
local macro_rules | `(tactic| walk_at "binaryOp Mult int int") => `(tactic| ((refine mul_int ?_ (isq_mul (by assumption)))))
local macro_rules | `(tactic| walk_at "call ref") => `(tactic| (k_here; (have hCb := isqs1); dsimp only [isqsC1, CbClaim, CbLists, CbRet] at hCb; k_dflt (refine' hCb _ _ _ _ _ _ _ _ _ _ _ _ _ _ _ _ _ _ _ _ _ _ _ _ ?k1 ?k2 ?k3 ?k4 ?k5 ?kK ?kp ?kd ?ku ?_); (case k1 => k_asm); (case k2 => k_asm); (case k3 => k_asm); (case k4 => k_asm); (case k5 => k_asm); (case kK => first | exact rfl | assumption); (case kp => assumption); (case kd => ktr_room); (case ku => ktr_units); clear hCb; intro t9 h9 tk9 F9 N9; (try dsimp only); (try k_fold)))
theorem sqrc1 (w : World) (mean : ExcName → Option Value) (mg mb : Str → Option Value) : SqC1 w mean mg mb 28 := by
  k_fill
  intro x t news
  intros
  rename_i hpre _ _ hret
  refine wpAny_call ?_
  k_dflt cell_enter
  k_with_none
  k_steps
  exact hret _ _ _ _ _ (by assumption) (by assumption) (by assumption)
end
abbrev isqC1 (w : World) (mean : ExcName → Option Value) (mg mb : Str → Option Value) : Prop := ∀ (x : Int) (t : Tok) (news : List (Addr × Obj)) (dp un : Nat) (gd : Option (List Code)) (cn : Str) (cs : Scope) (a : Addr) (ccd : Value) (cl : List (Str × Addr)) (outer : List Env) (A₀ : Around) (base h₀ : Heap) (L : Addr) (m : Str → Option Value) (s : Shared) (Q E : Value → Shared → Prop),
    Below A₀ base outer h₀ → Fr h₀ L s.heap m → (hd1.heap_39 w.params).In h₀ → News h₀ L s.heap news → Top hd1.view_39 (looseW hd1.view_39 []) mean mg mb h₀ → cs.kind = .function → (0 ≤ x ∧ Builtin.Int.intBits x ≤ 2000) →
      dp + 3 < recursionLimit → un + 24 < cLine →
      (∀ (t1 : Tok) (h' : Heap) (tk' : Nat), 0 ≤ isq x → isq x ≤ x → Fr h₀ L h' m → News h₀ L h' news → Q (.int (isq x) t1) { s with heap := h', toks := tk' }) →
      wpAny (model PySem.Challenge.rw_aw5005_01.row.prog w) (ktrTop dp un gd cn cs L a ccd cl outer) (call (.ref 35) [.int x t]) Q E s
section
local macro_rules | `(tactic| walk_at "call ref") => `(tactic| (k_here; k_dflt (refine' sqrc1 _ _ _ _ _ _ _ _ _ _ _ _ _ _ _ _ _ _ _ _ _ _ _ _ ?k1 ?k2 ?k3 ?k4 ?k5 ?kK ?kp ?kd ?ku ?_); (case k1 => k_asm); (case k2 => k_asm); (case k3 => k_asm); (case k4 => k_asm); (case k5 => k_asm); (case kK => first | exact rfl | assumption); (case kp => assumption); (case kd => ktr_room); (case ku => ktr_units); intro D9 t9 u9 h9 tk9 F9 N9 l9; (try dsimp only); (try k_fold)))
theorem isqc1 (w : World) (mean : ExcName → Option Value) (mg mb : Str → Option Value) : isqC1 w mean mg mb := by
  k_fill
  intro x t news
  intros
  rename_i hpre _ _ hret
  refine wpAny_call ?_
  k_dflt cell_enter
  k_with_none
  k_steps
  exact hret _ _ _ (isq_nonneg _) (isq_le hpre.1) (by assumption) (cb_drop (by assumption) (fun p hp => List.mem_cons_of_mem _ hp))
end
theorem ok_small {x : Int} (h0 : 0 ≤ x) (h1 : x < 2 ^ 60) : 0 ≤ x ∧ Builtin.Int.intBits x ≤ 2000 := ⟨h0, Nat.le_trans (intBits_le_64 (by omega) (by omega)) (by decide)⟩
theorem ok_sub {g k : Int} (hg : 0 ≤ g) (hg2 : g < 2 ^ 60) (h1 : -isq g ≤ k) (h2 : k ≤ isq g) : 0 ≤ g - k * k ∧ Builtin.Int.intBits (g - k * k) ≤ 2000 := by
  have h3 := (isq_spec hg).1
  have h4 : k * k ≤ isq g * isq g := by
    rcases Int.le_total 0 k with h | h
    · exact Int.mul_le_mul h2 h2 h (isq_nonneg g)
    · have := Int.mul_le_mul (show -k ≤ isq g by omega) (show -k ≤ isq g by omega) (by omega) (isq_nonneg g)
      rwa [Int.neg_mul_neg] at this
  have h5 := sq_nonneg' k
  exact ok_small (by omega) (by omega)
end Mine
end
section
namespace Mine
set_option maxRecDepth 100000
set_option maxHeartbeats 8000000
def lesserZ (k w : Int) : Int := (k * (2 - w) + isq (k * k * (w * w + 4))).fdiv 2
theorem les_w {w : Int} (h : 1 ≤ w ∧ w ≤ 4) : 1 ≤ w * w ∧ w * w ≤ 16 := by
  have h1 := Int.mul_le_mul h.1 h.1 (by decide) (by omega)
  have h2 := Int.mul_le_mul h.2 h.2 (by omega) (by decide)
  omega
theorem les_arg {k w : Int} (hk : 0 ≤ k ∧ Builtin.Int.intBits k ≤ 400) (hw : 1 ≤ w ∧ w ≤ 4) : 0 ≤ k * k * (w * w + 4) ∧ Builtin.Int.intBits (k * k * (w * w + 4)) ≤ 2000 := by
  have h1 := les_w hw
  refine ⟨Int.mul_nonneg (Int.mul_nonneg hk.1 hk.1) (by omega), ?_⟩
  have h2 : Builtin.Int.intBits (w * w + 4) ≤ 64 := intBits_le_64 (by omega) (by omega)
  exact Nat.le_trans (intBits_mul_le (intBits_mul_le hk.2 hk.2) h2) (by decide)
theorem les_m1 {k w : Int} (hk : 0 ≤ k ∧ Builtin.Int.intBits k ≤ 400) (hw : 1 ≤ w ∧ w ≤ 4) : IntMulOk k (2 - w) := IntMulOk.of_le hk.2 (intBits_le_64 (by omega) (by omega)) (by decide)
theorem les_m2 {k : Int} (hk : 0 ≤ k ∧ Builtin.Int.intBits k ≤ 400) : IntMulOk k k := IntMulOk.of_le hk.2 hk.2 (by decide)
theorem les_m3 {w : Int} (hw : 1 ≤ w ∧ w ≤ 4) : IntMulOk w w := IntMulOk.of_le (intBits_le_64 (k := w) (by omega) (by omega)) (intBits_le_64 (k := w) (by omega) (by omega)) (by decide)
theorem les_m4 {k w : Int} (hk : 0 ≤ k ∧ Builtin.Int.intBits k ≤ 400) (hw : 1 ≤ w ∧ w ≤ 4) : IntMulOk (k * k) (w * w + 4) := by
  have h1 := les_w hw
  exact IntMulOk.of_le (intBits_mul_le hk.2 hk.2) (intBits_le_64 (by omega) (by omega)) (by decide)
abbrev lesC1 (w : World) (mean : ExcName → Option Value) (mg mb : Str → Option Value) (f : Addr) : Prop := ∀ (k wd : Int) (t1 t2 : Tok) (news : List (Addr × Obj)) (dp un : Nat) (gd : Option (List Code)) (cn : Str) (cs : Scope) (a : Addr) (ccd : Value) (cl : List (Str × Addr)) (outer : List Env) (A₀ : Around) (base h₀ : Heap) (L : Addr) (m : Str → Option Value) (s : Shared) (Q E : Value → Shared → Prop),
    Below A₀ base outer h₀ → Fr h₀ L s.heap m → (hd1.heap_39 w.params).In h₀ → News h₀ L s.heap news → Top hd1.view_39 (looseW hd1.view_39 []) mean mg mb h₀ → cs.kind = .function → (0 ≤ k ∧ Builtin.Int.intBits k ≤ 400) → (1 ≤ wd ∧ wd ≤ 4) →
      dp + 4 < recursionLimit → un + 32 < cLine →
      (∀ (t : Tok) (h' : Heap) (tk' : Nat), Fr h₀ L h' m → News h₀ L h' news → Q (.int (lesserZ k wd) t) { s with heap := h', toks := tk' }) →
      wpAny (model PySem.Challenge.rw_aw5005_01.row.prog w) (ktrTop dp un gd cn cs L a ccd cl outer) (call (.ref f) [.int k t1, .int wd t2]) Q E s
section
local macro_rules | `(tactic| walk_at "call ref") => `(tactic| (k_here; k_dflt ((refine' isqc1 _ _ _ _ _ _ _ _ _ _ _ _ _ _ _ _ _ _ _ _ _ _ _ _ ?k1 ?k2 ?k3 ?k4 ?k5 ?kK ?kp ?kd ?ku ?_); (case k1 => k_asm); (case k2 => k_asm); (case k3 => k_asm); (case k4 => k_asm); (case k5 => k_asm); (case kK => first | exact rfl | assumption); (case kp => exact les_arg (by assumption) (by assumption)); (case kd => ktr_room); (case ku => ktr_units); intro t9 h9 tk9 q9 r9 F9 N9; clear q9 r9; (try dsimp only); (try k_fold))))
local macro_rules | `(tactic| walk_at "binaryOp Mult int int") => `(tactic| (first | refine mul_int ?_ (les_m1 (by assumption) (by assumption)) | refine mul_int ?_ (les_m2 (by assumption)) | refine mul_int ?_ (les_m3 (by assumption)) | refine mul_int ?_ (les_m4 (by assumption) (by assumption))))
theorem lesc1 (w : World) (mean : ExcName → Option Value) (mg mb : Str → Option Value) : lesC1 w mean mg mb 43 := by
  intro k wd t1 t2 news
  k_fill
  intros
  rename_i hk hw _ _ hret
  refine wpAny_call ?_
  k_dflt cell_enter
  k_steps
  exact hret _ _ _ (by assumption) (by assumption)
end
end Mine
end
section
namespace Mine
set_option maxRecDepth 100000
set_option maxHeartbeats 8000000
def hitB (one two l r w : Int) : Bool := (decide (l = one) && decide (r < two)) || (decide (r = two) && decide (l < one)) || (decide (l < one) && decide (r < two) && decide (((one - l - two + r).natAbs : Int) < w))
def reachedB (one two l r w : Int) : Bool := hitB one two l r w || hitB one two r l w
def Small (x : Int) : Prop := 0 ≤ x ∧ x < 1000
abbrev reaC1 (w : World) (mean : ExcName → Option Value) (mg mb : Str → Option Value) (f : Addr) : Prop := ∀ (one two l r wd : Int) (t1 t2 t3 t4 t5 : Tok) (ap : Addr) (news : List (Addr × Obj)) (dp un : Nat) (gd : Option (List Code)) (cn : Str) (cs : Scope) (a : Addr) (ccd : Value) (cl : List (Str × Addr)) (outer : List Env) (A₀ : Around) (base h₀ : Heap) (L : Addr) (m : Str → Option Value) (s : Shared) (Q E : Value → Shared → Prop),
    Below A₀ base outer h₀ → Fr h₀ L s.heap m → (hd1.heap_39 w.params).In h₀ → News h₀ L s.heap ((ap, tupO [.int l t3, .int r t4]) :: news) → Top hd1.view_39 (looseW hd1.view_39 []) mean mg mb h₀ → cs.kind = .function → Small one → Small two → Small l → Small r → Small wd →
      dp + 1 < recursionLimit → un + 8 < cLine →
      (∀ (h' : Heap) (tk' : Nat), Fr h₀ L h' m → News h₀ L h' ((ap, tupO [.int l t3, .int r t4]) :: news) → Q (.bool (reachedB one two l r wd)) { s with heap := h', toks := tk' }) →
      wpAny (model PySem.Challenge.rw_aw5005_01.row.prog w) (ktrTop dp un gd cn cs L a ccd cl outer) (call (.ref f) [.int one t1, .int two t2, .ref ap, .int wd t5]) Q E s
local macro_rules | `(tactic| walk_at "subscriptTail Name Slice ref ref") => `(tactic| (k_here; (with_reducible show wpAny _ _ (subscriptTail _ (PySem.Expr.Slice none none (some _) _) (Value.ref _) (Value.ref _)) _ _ _); k_dflt (refine' slice_tup_rev ?F ?N ?l ?_ ?s ?t; (case F => k_asm); (case N => k_asm); (case l => exact isTup_of (by k_asm) (by k_mem)); (case s => with_unfolding_all rfl); (case t => kmk_pure)); intro D' h' F' N' l1; (try k_lt l1); (try k_sweep)))
local macro_rules | `(tactic| walk_at "exec For Tuple Tuple cons nil") => `(tactic| (k_here; k_dflt (refine for_srcP ?_)))
theorem hit_no {one two x y w : Int} (h : ¬ ((x = one ∧ y < two) ∨ (y = two ∧ x < one) ∨ (x < one ∧ y < two ∧ ((one - x - two + y).natAbs : Int) < w))) : hitB one two x y w = false := by
  cases e : hitB one two x y w with
  | false => rfl
  | true =>
    exfalso; apply h
    unfold hitB at e
    simp only [Bool.or_eq_true, Bool.and_eq_true, decide_eq_true_eq] at e
    omega
theorem hit_yes {one two x y w : Int} (h : (x = one ∧ y < two) ∨ (y = two ∧ x < one) ∨ (x < one ∧ y < two ∧ ((one - x - two + y).natAbs : Int) < w)) : hitB one two x y w = true := by
  unfold hitB
  simp only [Bool.or_eq_true, Bool.and_eq_true, decide_eq_true_eq]
  omega
theorem reach_yes {one two l r x y w : Int} {i : Nat} (h : hitB one two x y w = true) (hxy : (i = 0 ∧ x = l ∧ y = r) ∨ (i = 1 ∧ x = r ∧ y = l)) : reachedB one two l r w = true := by
  unfold reachedB
  rcases hxy with ⟨_, rfl, rfl⟩ | ⟨_, rfl, rfl⟩ <;> simp [h]
theorem hit_step {one two l r x y w : Int} {i : Nat} (hP : (0 < i → hitB one two l r w = false) ∧ (1 < i → hitB one two r l w = false)) (hxy : (i = 0 ∧ x = l ∧ y = r) ∨ (i = 1 ∧ x = r ∧ y = l)) (h : hitB one two x y w = false) :
    (0 < i + 1 → hitB one two l r w = false) ∧ (1 < i + 1 → hitB one two r l w = false) := by
  rcases hxy with ⟨rfl, rfl, rfl⟩ | ⟨rfl, rfl, rfl⟩
  · exact ⟨fun _ => h, fun k => absurd k (by omega)⟩
  · exact ⟨fun _ => hP.1 (by omega), fun _ => h⟩
theorem ret_b {Q : Value → Shared → Prop} {b c : Bool} {s : Shared} (h : Q (.bool b) s) (e : b = c) : Q (.bool c) s := e ▸ h
theorem two_tup {h₀ h' : Heap} {L I D ap b : Addr} {oI oD : Obj} {l r : Int} {t3 t4 : Tok} {news : List (Addr × Obj)} {i : Nat} {v : Value} (N : News h₀ L h' ((I, oI) :: (D, oD) :: (b, tupO [.int r t4, .int l t3]) :: (ap, tupO [.int l t3, .int r t4]) :: news))
    (hv : (List.toArray [Value.ref ap, Value.ref b])[i]? = some v) : ∃ (a : Addr) (x y : Int) (tx ty : Tok), v = .ref a ∧ ((i = 0 ∧ x = l ∧ y = r) ∨ (i = 1 ∧ x = r ∧ y = l)) ∧ News h₀ L h' ((a, tupO [.int x tx, .int y ty]) :: (I, oI) :: (D, oD) :: (b, tupO [.int r t4, .int l t3]) :: (ap, tupO [.int l t3, .int r t4]) :: news) := by
  match i, hv with
  | 0, hv =>
    refine ⟨ap, l, r, t3, t4, by cases hv; rfl, .inl ⟨rfl, rfl, rfl⟩, fun p hp => ?_⟩
    rcases List.mem_cons.mp hp with rfl | hp
    · exact N _ (.tail _ (.tail _ (.tail _ (.head _))))
    · exact N _ hp
  | 1, hv =>
    refine ⟨b, r, l, t4, t3, by cases hv; rfl, .inr ⟨rfl, rfl, rfl⟩, fun p hp => ?_⟩
    rcases List.mem_cons.mp hp with rfl | hp
    · exact N _ (.tail _ (.tail _ (.head _)))
    · exact N _ hp
  | n + 2, hv => simp at hv
theorem reac1 (w : World) (mean : ExcName → Option Value) (mg mb : Str → Option Value) : reaC1 w mean mg mb 50 := by
  intro one two l r wd t1 t2 t3 t4 t5 ap news
  k_fill
  intros
  rename_i h1 h2 h3 h4 h5 _ _ hret
  refine wpAny_call ?_
  k_dflt cell_enter
  k_steps
  refine' ForSrcP.tup [Str.ofString "left", Str.ofString "right"] (fun i => (0 < i → hitB one two l r wd = false) ∧ (1 < i → hitB one two r l wd = false)) rfl (by k_asm) (by k_asm) ?hD ⟨by omega, by omega⟩ (fun _ _ _ _ _ _ _ hit hQ => go_tupiter hit hQ) ?turn ?done ?hE
  case hD => k_mem
  case hE => first | passes_own | with_unfolding_all passes_own
  case turn =>
    intro i v u' h' tkI I oI hv hP hnI F' N'
    obtain ⟨a, x, y, tx, ty, rfl, hxy, N2⟩ := two_tup N' hv
    clear N'
    have hx : Small x := by rcases hxy with ⟨_, rfl, rfl⟩ | ⟨_, rfl, rfl⟩ <;> assumption
    have hy : Small y := by rcases hxy with ⟨_, rfl, rfl⟩ | ⟨_, rfl, rfl⟩ <;> assumption
    k_steps
    all_goals (try dsimp only)
    all_goals (try dsimp only [FPostT])
    all_goals first
      | (refine FEndT.intro (by k_asm) (by k_asm) ?_ (fun p hp => List.mem_cons_of_mem _ hp) (hit_step hP hxy (hit_no (by omega)))
         intro z h3
         simp only [List.contains_cons, List.contains_nil, Bool.or_false, Bool.or_eq_false_iff, beq_eq_false_iff_ne, ne_eq] at h3
         simp [kwM, h3]
         done)
      | skip
    all_goals k_steps
    all_goals (have hyes := reach_yes (hit_yes (one := one) (two := two) (x := x) (y := y) (w := wd) (by omega)) hxy)
    all_goals (rename News _ _ _ _ => kN9)
    all_goals exact ret_b (hret _ _ (by assumption) (cb_drop kN9 (by kcf_all))) hyes
  case done =>
    intro u' h' tk hP F' N'
    k_steps
    rename News _ _ _ _ => kN9
    have hno : reachedB one two l r wd = false := by
      unfold reachedB
      rw [hP.1 (by show 0 < 2; decide), hP.2 (by show 1 < 2; decide)]; rfl
    exact ret_b (hret _ _ (by assumption) (cb_drop kN9 (by kcf_all))) hno
end Mine
end
section
namespace Mine
set_option maxRecDepth 100000
/-- the pairs from which none of the list can be reached -/
def stepL (w one two : Int) (L : List (Int × Int)) : List (Int × Int) := if L.filter (fun q => reachedB one two q.1 q.2 w) = [] then L ++ [(one, two)] else L
def innerF (w one : Int) (L₀ : List (Int × Int)) : Nat → List (Int × Int)
  | 0 => L₀
  | j + 1 => stepL w one (one + (j : Int)) (innerF w one L₀ j)
def outerF (w mo : Int) : Nat → List (Int × Int)
  | 0 => []
  | i + 1 => innerF w (i : Int) (outerF w mo i) (mo + 1 - (i : Int)).toNat
theorem stepL_yes {w one two : Int} {L : List (Int × Int)} (h : L.filter (fun q => reachedB one two q.1 q.2 w) = []) : stepL w one two L = L ++ [(one, two)] := if_pos h
theorem stepL_no {w one two : Int} {L : List (Int × Int)} (h : L.filter (fun q => reachedB one two q.1 q.2 w) ≠ []) : stepL w one two L = L := if_neg h
theorem stepL_mem {w one two : Int} {L : List (Int × Int)} {q : Int × Int} (h : q ∈ stepL w one two L) : q ∈ L ∨ q = (one, two) := by
  unfold stepL at h
  split at h
  · rcases List.mem_append.mp h with h | h
    · exact .inl h
    · exact .inr (List.mem_singleton.mp h)
  · exact .inl h
theorem stepL_len {w one two : Int} {L : List (Int × Int)} : (stepL w one two L).length ≤ L.length + 1 := by
  unfold stepL
  split
  · simp
  · omega
theorem innerF_mem {w one : Int} {L₀ : List (Int × Int)} {q : Int × Int} : ∀ {j : Nat}, q ∈ innerF w one L₀ j → q ∈ L₀ ∨ (q.1 = one ∧ one ≤ q.2 ∧ q.2 < one + j) := by
  intro j
  induction j with
  | zero => intro h; exact .inl h
  | succ j ih =>
    intro h
    rcases stepL_mem h with h | rfl
    · rcases ih h with h | ⟨h1, h2, h3⟩
      · exact .inl h
      · exact .inr ⟨h1, h2, by omega⟩
    · exact .inr ⟨rfl, by dsimp only; omega, by dsimp only; omega⟩
theorem innerF_len {w one : Int} {L₀ : List (Int × Int)} : ∀ (j : Nat), (innerF w one L₀ j).length ≤ L₀.length + j := by
  intro j
  induction j with
  | zero => exact Nat.le_refl _
  | succ j ih =>
    have := @stepL_len w one (one + (j : Int)) (innerF w one L₀ j)
    show (stepL _ _ _ _).length ≤ _
    omega
theorem outerF_mem {w mo : Int} {q : Int × Int} : ∀ {i : Nat}, q ∈ outerF w mo i → 0 ≤ q.1 ∧ q.1 < i ∧ q.1 ≤ q.2 ∧ q.2 ≤ mo := by
  intro i
  induction i with
  | zero => intro h; cases h
  | succ i ih =>
    intro h
    rcases innerF_mem h with h | ⟨h1, h2, h3⟩
    · obtain ⟨a, b, c, d⟩ := ih h
      exact ⟨a, by omega, c, d⟩
    · exact ⟨by omega, by omega, by omega, by omega⟩
theorem outerF_len {w mo : Int} (h : 0 ≤ mo ∧ mo < 11) : ∀ (i : Nat), (outerF w mo i).length ≤ 11 * i := by
  intro i
  induction i with
  | zero => exact Nat.le_refl _
  | succ i ih =>
    have := @innerF_len w (i : Int) (outerF w mo i) (mo + 1 - (i : Int)).toNat
    show (innerF _ _ _ _).length ≤ _
    omega
theorem in_small {w mo : Int} {i j : Nat} {q : Int × Int} (hm : mo < 11) (hi : i < (mo + 1 - 0).toNat) (hj : j < (mo + 1 - (i : Int)).toNat) (h : q ∈ innerF w (i : Int) (outerF w mo i) j) : Small q.1 ∧ Small q.2 := by
  unfold Small
  rcases innerF_mem h with h | ⟨h1, h2, h3⟩
  · obtain ⟨a, b, c, d⟩ := outerF_mem h
    omega
  · omega
theorem in_len {w mo : Int} {i j : Nat} (hm0 : 0 ≤ mo) (hm : mo < 11) (hi : i < (mo + 1 - 0).toNat) (hj : j < (mo + 1 - (i : Int)).toNat) : (innerF w (i : Int) (outerF w mo i) j).length ≤ 200 := by
  have h1 := outerF_len (w := w) (mo := mo) ⟨hm0, hm⟩ i
  have h2 := @innerF_len w (i : Int) (outerF w mo i) j
  omega
end Mine
end
section
namespace Mine
set_option maxRecDepth 100000
theorem st_gen {M : Model} {A : Around} {E : Value → Shared → Prop} {s : Shared} {env : Env} {nm : Str} {t : Tok} {Q : Unit → Shared → Prop} {x : Int} (lo hi : Int) (h1 : lo ≤ x) (h2 : x < hi)
    (h : ∀ g, lo ≤ g → g < hi → wpAny M A (storeName env nm (.int g t)) Q E s) : wpAny M A (storeName env nm (.int x t)) Q E s := h x h1 h2
structure InMark : Prop where
def outerP (w mo : Int) (i : Nat) : List (Int × Int) → Prop := fun L => L = outerF w mo i
def innerP (w mo : Int) (i : Nat) (j : Nat) : List (Int × Int) → Prop := fun L => L = innerF w (i : Int) (outerF w mo i) j
theorem all_app {P : (Addr × Obj) → Prop} {a b d : Addr × Obj} {r tl : List (Addr × Obj)} (h : ∀ p ∈ a :: b :: (r ++ tl), P p) (hd : P d) : ∀ p ∈ a :: b :: (r ++ (tl ++ [d])), P p := by
  intro p hp
  rcases List.mem_cons.mp hp with rfl | hp
  · exact h _ (.head _)
  rcases List.mem_cons.mp hp with rfl | hp
  · exact h _ (.tail _ (.head _))
  rcases List.mem_append.mp hp with hp | hp
  · exact h p (.tail _ (.tail _ (List.mem_append.mpr (.inl hp))))
  rcases List.mem_append.mp hp with hp | hp
  · exact h p (.tail _ (.tail _ (List.mem_append.mpr (.inr hp))))
  · rw [List.mem_singleton.mp hp]; exact hd
theorem bad_app {bad : List Nat} {d : Addr × Obj} {tl : List (Addr × Obj)} (h : ∀ p ∈ tl, ∀ b ∈ bad, @Ne Nat p.1 b) (hd : ∀ b ∈ bad, @Ne Nat d.1 b) : ∀ p ∈ tl ++ [d], ∀ b ∈ bad, @Ne Nat p.1 b := by
  intro p hp
  rcases List.mem_append.mp hp with hp | hp
  · exact h p hp
  · rw [List.mem_singleton.mp hp]; exact hd
theorem off_app {J : Nat} {d : Addr × Obj} {tl : List (Addr × Obj)} (h : ∀ p ∈ tl, @Ne Nat p.1 J) (hd : @Ne Nat d.1 J) : ∀ p ∈ tl ++ [d], @Ne Nat p.1 J := by
  intro p hp
  rcases List.mem_append.mp hp with hp | hp
  · exact h p hp
  · rw [List.mem_singleton.mp hp]; exact hd
theorem pin_app {tl : List (Addr × Obj)} {vs : List Value} {ns : List (Int × Int)} {D : Addr} {x y : Int} {t u : Tok} (h : PIn tl vs ns) : PIn (tl ++ [(D, tup2 x t y u)]) (vs ++ [.ref D]) (ns ++ [(x, y)]) :=
  (h.mono fun p hp => List.mem_append.mpr (.inl hp)).append (.cons (List.mem_append.mpr (.inr (.head _))) .nil)
theorem step_yes {news : List (Addr × Obj)} {ys : List Value} {w mo : Int} {i j : Nat} {ns : List (Int × Int)} (hP : innerP w mo i j ns) (hy : PIn news ys (ns.filter fun q => reachedB (i : Int) ((i : Int) + (j : Int)) q.1 q.2 w)) (he : ys.isEmpty = true) :
    innerP w mo i (j + 1) (ns ++ [((i : Int), (i : Int) + (j : Int))]) := by
  have e : ys = [] := List.isEmpty_iff.mp he
  have hl := hy.length
  rw [e] at hl
  have hP' : ns = innerF w (i : Int) (outerF w mo i) j := hP
  show _ = stepL w (i : Int) ((i : Int) + (j : Int)) (innerF w (i : Int) (outerF w mo i) j)
  rw [← hP', stepL_yes (List.length_eq_zero_iff.mp hl.symm)]
theorem step_no {news : List (Addr × Obj)} {ys : List Value} {w mo : Int} {i j : Nat} {ns : List (Int × Int)} (hP : innerP w mo i j ns) (hy : PIn news ys (ns.filter fun q => reachedB (i : Int) ((i : Int) + (j : Int)) q.1 q.2 w)) (he : ys.isEmpty = false) :
    innerP w mo i (j + 1) ns := by
  have hl := hy.length
  have hP' : ns = innerF w (i : Int) (outerF w mo i) j := hP
  show _ = stepL w (i : Int) ((i : Int) + (j : Int)) (innerF w (i : Int) (outerF w mo i) j)
  rw [← hP', stepL_no (fun q => ?_)]
  rw [q] at hl
  rw [List.isEmpty_iff.mpr (List.length_eq_zero_iff.mp hl)] at he
  cases he
structure DueMark : Prop where
structure TupMark : Prop where
def Halt (P : Prop) : Prop := P
theorem Halt.of {P : Prop} (h : Halt P) : P := h
theorem Halt.go {P : Prop} (h : P) : Halt P := h
theorem les_ok {k : Int} (h : 0 ≤ k) (h2 : k < 1000000) : 0 ≤ k ∧ Builtin.Int.intBits k ≤ 400 := ⟨h, Nat.le_trans (intBits_le_64 (by omega) (by omega)) (by decide)⟩
def dueF (w k : Int) : Int × Int := (lesserZ k w, lesserZ k w + k * w)
theorem due_mul {k w : Int} (h : 0 ≤ k) (h2 : k < 1000000) (h3 : 1 ≤ w ∧ w ≤ 4) : IntMulOk k w := IntMulOk.of_le (intBits_le_64 (by omega) (by omega)) (intBits_le_64 (by omega) (by omega)) (by decide)
theorem lt_true_int {prog : Program} {w : World} {A : Around} {E : Value → Shared → Prop} {s : Shared} {a b : Int} {t u : Tok} {Q : Value → Shared → Prop} (h : a < b) (hQ : Q (.bool true) s) : wpAny (model prog w) A (compareOp .Lt (.int a t) (.int b u)) Q E s :=
  lt_int (by rw [decide_eq_true h]; exact hQ)
theorem eq_true_int {prog : Program} {w : World} {A : Around} {E : Value → Shared → Prop} {s : Shared} {a b : Int} {t u : Tok} {Q : Value → Shared → Prop} (h : a = b) (hQ : Q (.bool true) s) : wpAny (model prog w) A (compareOp .Eq (.int a t) (.int b u)) Q E s :=
  eq_int (by rw [beq_iff_eq.mpr h]; exact hQ)
end Mine
end
section
namespace Mine
set_option maxRecDepth 100000
/-- of a whole number and its half-root form: the form whose sign tells lesser heaps -/
def ff (w a k : Int) : Int := a * a - (2 - w) * (a * k) - w * (k * k)
theorem ff_mono {w n x y : Int} (hw : 0 ≤ w) (hx : 0 ≤ x) (hxy : x ≤ y) (h : ff w y n ≤ 0) : ff w x n ≤ 0 := by
  unfold ff at *
  have hn : 0 ≤ n * n := by rcases Int.le_total 0 n with h | h; exact Int.mul_nonneg h h; exact Int.mul_nonneg_of_nonpos_of_nonpos h h
  have hwn := Int.mul_nonneg hw hn
  have e1 : x * x - (2 - w) * (x * n) = x * (x - (2 - w) * n) := by grind
  have e2 : y * y - (2 - w) * (y * n) = y * (y - (2 - w) * n) := by grind
  rw [e1]; rw [e2] at h
  generalize (2 - w) * n = c at *
  by_cases hc : x ≤ c
  · have := Int.mul_nonneg hx (show 0 ≤ c - x by omega)
    have e : x * (x - c) = -(x * (c - x)) := by grind
    omega
  · have := Int.mul_le_mul hxy (show x - c ≤ y - c by omega) (by omega) (by omega)
    omega
theorem ff_gt {w n x y : Int} (hw : 0 ≤ w) (hx : 0 ≤ x) (h1 : ff w y n ≤ 0) (h2 : 0 < ff w x n) : y < x := by
  rcases Int.lt_or_le y x with h | h
  · exact h
  · have := ff_mono hw hx h h1; omega
theorem irr {p : Nat} (hp : ∀ r < p, r * r % p = 0 → r = 0) (hp1 : 1 < p) : ∀ v u : Nat, u * u = p * (v * v) → v = 0 := by
  have hd : ∀ u : Nat, u * u % p = 0 → ∃ x, u = p * x := by
    intro u h
    rw [Nat.mul_mod] at h
    have := hp (u % p) (Nat.mod_lt _ (by omega)) h
    exact ⟨u / p, by have := Nat.div_add_mod u p; omega⟩
  intro v
  induction v using Nat.strongRecOn with
  | _ v ih =>
    intro u hu
    obtain ⟨x, rfl⟩ := hd u (by rw [hu]; exact Nat.mul_mod_right _ _)
    have h1 : p * (x * x) = v * v := by
      apply Nat.eq_of_mul_eq_mul_left (show 0 < p by omega)
      grind
    obtain ⟨y, rfl⟩ := hd v (by rw [← h1]; exact Nat.mul_mod_right _ _)
    have h2 : x * x = p * (y * y) := by
      apply Nat.eq_of_mul_eq_mul_left (show 0 < p by omega)
      grind
    by_cases hy : y = 0
    · simp [hy]
    · have hlt : y < p * y := by
        have : 1 * y < p * y := Nat.mul_lt_mul_of_pos_right hp1 (by omega)
        omega
      exact absurd (ih y hlt x h2) hy
theorem irrI {p : Nat} (hp : ∀ r < p, r * r % p = 0 → r = 0) (hp1 : 1 < p) {u v : Int} (h : u * u = p * (v * v)) : v = 0 := by
  have := irr hp hp1 v.natAbs u.natAbs (by
    have e := congrArg Int.natAbs h
    simpa [Int.natAbs_mul] using e)
  omega
theorem ff_ne {w a k : Int} (hw : 1 ≤ w ∧ w ≤ 4) (hk : 1 ≤ k) : ff w a k ≠ 0 := by
  intro h
  unfold ff at h
  have hw' : w = 1 ∨ w = 2 ∨ w = 3 ∨ w = 4 := by omega
  rcases hw' with rfl | rfl | rfl | rfl
  · have := irrI (p := 5) (by decide) (by decide) (u := 2 * a - k) (v := k) (by push_cast; grind)
    omega
  · have := irrI (p := 2) (by decide) (by decide) (u := a) (v := k) (by push_cast; grind)
    omega
  · have := irrI (p := 13) (by decide) (by decide) (u := 2 * a + k) (v := k) (by push_cast; grind)
    omega
  · have := irrI (p := 5) (by decide) (by decide) (u := a + k) (v := k) (by push_cast; grind)
    omega
/-- what a lesser heap is, by the form -/
def IsL (w a k : Int) : Prop := k ≤ a ∧ ff w a k ≤ 0 ∧ 0 < ff w (a + 1) k
theorem isL_of {w k r : Int} (hw : 1 ≤ w ∧ w ≤ 4) (hk : 0 ≤ k) (hr : 0 ≤ r) (h1 : r * r ≤ k * k * (w * w + 4)) (h2 : k * k * (w * w + 4) < (r + 1) * (r + 1)) : IsL w ((k * (2 - w) + r).fdiv 2) k := by
  have hwk : w * k ≤ r := by
    rcases Int.lt_or_le r (w * k) with h | h
    · have h0 : 0 ≤ w * k := Int.mul_nonneg (by omega) hk
      have h3 := Int.mul_le_mul (show r + 1 ≤ w * k by omega) (show r + 1 ≤ w * k by omega) (by omega) h0
      have h4 : 0 ≤ k * k := Int.mul_nonneg hk hk
      have e : w * k * (w * k) + 4 * (k * k) = k * k * (w * w + 4) := by grind
      omega
    · exact h
  rw [Int.fdiv_eq_ediv_of_nonneg _ (by decide)]
  have ha := Int.emod_add_mul_ediv (k * (2 - w) + r) 2
  have hm := Int.emod_nonneg (k * (2 - w) + r) (show (2 : Int) ≠ 0 by decide)
  have hm2 := Int.emod_lt_of_pos (k * (2 - w) + r) (show (0 : Int) < 2 by decide)
  generalize (k * (2 - w) + r) / 2 = a at *
  generalize (k * (2 - w) + r) % 2 = e at *
  have ek : k * (2 - w) = 2 * k - w * k := by grind
  have hka : k ≤ a := by omega
  have hq : ∀ x : Int, 4 * ff w x k = (2 * x - k * (2 - w)) * (2 * x - k * (2 - w)) - k * k * (w * w + 4) := by
    intro x; unfold ff; grind
  refine ⟨hka, ?_, ?_⟩
  · have h4 := hq a
    have hu : 0 ≤ 2 * a - k * (2 - w) := by
      have : 0 ≤ w * k := Int.mul_nonneg (by omega) hk
      omega
    have := Int.mul_le_mul (show 2 * a - k * (2 - w) ≤ r by omega) (show 2 * a - k * (2 - w) ≤ r by omega) hu hr
    omega
  · have h4 := hq (a + 1)
    have := Int.mul_le_mul (show r + 1 ≤ 2 * (a + 1) - k * (2 - w) by omega) (show r + 1 ≤ 2 * (a + 1) - k * (2 - w) by omega) (by omega) (by omega)
    omega
theorem isL_lt {w a k x : Int} (hw : 1 ≤ w ∧ w ≤ 4) (hk : 0 ≤ k) (h : IsL w a k) (hx : 0 ≤ x) (hf : 0 < ff w x k) : a < x := ff_gt (by omega) hx h.2.1 hf
theorem isL_ge {w a k x : Int} (hw : 1 ≤ w ∧ w ≤ 4) (hk : 0 ≤ k) (h : IsL w a k) (hf : ff w x k ≤ 0) : x ≤ a := by
  have := ff_gt (y := x) (x := a + 1) (by omega : 0 ≤ w) (by have := h.1; omega) hf h.2.2
  omega
theorem ff_neg {w a k : Int} (hw : 1 ≤ w ∧ w ≤ 4) (hk : 1 ≤ k) (h : IsL w a k) : ff w a k < 0 := by
  have := ff_ne (a := a) hw hk
  have := h.2.1
  omega
theorem isL_up {w a k : Int} (hw : 1 ≤ w ∧ w ≤ 4) (hk : 1 ≤ k) (h : IsL w a k) : w * a < k * (w + 1) := by
  refine ff_gt (w := w) (n := w * k) (by omega) (Int.mul_nonneg (by omega) (by omega)) ?_ ?_
  · have e : ff w (w * a) (w * k) = w * w * ff w a k := by unfold ff; grind
    have h1 := h.2.1
    have h2 : 0 ≤ w * w := Int.mul_nonneg (by omega) (by omega)
    have := Int.mul_nonneg h2 (show 0 ≤ - ff w a k by omega)
    rw [e]
    have e3 : w * w * -ff w a k = -(w * w * ff w a k) := by grind
    omega
  · have e : ff w (k * (w + 1)) (w * k) = k * k := by unfold ff; grind
    rw [e]
    exact Int.mul_pos (by omega) (by omega)
theorem isL_low {w a k : Int} (hw : 1 ≤ w ∧ w ≤ 4) (hk : 1 ≤ k) (h : IsL w a k) : 4 * k < (2 + w) * (a + 1) := by
  refine ff_gt (w := w) (n := (2 + w) * k) (by omega) (Int.mul_nonneg (by omega) (by have := h.1; omega)) ?_ ?_
  · have e : ff w (4 * k) ((2 + w) * k) = -(k * k * (4 * w + w * w * w)) := by unfold ff; grind
    have h1 : 0 ≤ w * w * w := Int.mul_nonneg (Int.mul_nonneg (by omega) (by omega)) (by omega)
    have := Int.mul_nonneg (Int.mul_nonneg (show 0 ≤ k by omega) (show 0 ≤ k by omega)) (show 0 ≤ 4 * w + w * w * w by omega)
    omega
  · have e : ff w ((2 + w) * (a + 1)) ((2 + w) * k) = (2 + w) * (2 + w) * ff w (a + 1) k := by unfold ff; grind
    rw [e]
    exact Int.mul_pos (Int.mul_pos (by omega) (by omega)) h.2.2
theorem low_up {w a k g : Int} (hw : 1 ≤ w ∧ w ≤ 4) (hk : 1 ≤ k) (h : IsL w a k) (hg : IsL w g (a - k)) : g + (a - k) * w < a := by
  have hn : 0 ≤ a - k := by have := h.1; omega
  have hup := isL_up hw hk h
  have e0 : (a - k) * w = w * a - w * k := by grind
  have e1 : k * (w + 1) = w * k + k := by grind
  have hka := h.1
  have hx : g < a - (a - k) * w := by
    refine isL_lt hw hn hg (by omega) ?_
    have e : ff w (a - (a - k) * w) (a - k) = - ff w a k := by unfold ff; grind
    have := ff_neg hw hk h
    omega
  omega
theorem far_up {w a k g : Int} (hw : 1 ≤ w ∧ w ≤ 4) (hk : 1 ≤ k) (h : IsL w a k) (hg : IsL w g (a - k + 1)) : a < g + (a - k + 1) * w := by
  have hn : 0 ≤ a - k + 1 := by have := h.1; omega
  have hx : a + 1 - (a - k + 1) * w ≤ g := by
    refine isL_ge hw hn hg ?_
    have e : ff w (a + 1 - (a - k + 1) * w) (a - k + 1) = - ff w (a + 1) k := by unfold ff; grind
    have := h.2.2
    omega
  omega
theorem next_two {w a b k : Int} (hw : 1 ≤ w ∧ w ≤ 4) (hk : 1 ≤ k) (h : IsL w a k) (hb : IsL w b (k + 1)) : b = a + 1 ∨ b = a + 2 := by
  have hup := isL_up hw hk h
  have hlow := isL_low hw hk h
  have e0 : k * (w + 1) = w * k + k := by grind
  have e1 : (2 + w) * (a + 1) = 2 * a + 2 + w * a + w := by grind
  have h1 : a + 1 ≤ b := by
    refine isL_ge hw (by omega) hb ?_
    have e : ff w (a + 1) (k + 1) = ff w a k + w * a - w * k - 2 * k - 1 := by unfold ff; grind
    have := ff_neg hw hk h
    omega
  have h2 : b < a + 3 := by
    refine isL_lt hw (by omega) hb (by have := h.1; omega) ?_
    have e : ff w (a + 3) (k + 1) = ff w (a + 1) k + 2 * (a + 1) - 4 * k + w * (a + 1) + w := by unfold ff; grind
    have e2 : w * (a + 1) = w * a + w := by grind
    have := h.2.2
    omega
  omega
theorem behind {w a b k g : Int} (hw : 1 ≤ w ∧ w ≤ 4) (hk : 1 ≤ k) (h : IsL w a k) (hb : IsL w b (k + 1)) (hg : IsL w g (a - k + 1)) : b = if g + (a - k + 1) * w = a + 1 then a + 2 else a + 1 := by
  have hfar := far_up hw hk h hg
  rcases next_two hw hk h hb with rfl | rfl
  · have := far_up (a := a + 1) (k := k + 1) (g := g) hw (by omega) hb (by rwa [show a + 1 - (k + 1) + 1 = a - k + 1 by omega])
    rw [show a + 1 - (k + 1) + 1 = a - k + 1 by omega] at this
    rw [if_neg (by omega)]
  · have := low_up (a := a + 2) (k := k + 1) (g := g) hw (by omega) hb (by rwa [show a + 2 - (k + 1) = a - k + 1 by omega])
    rw [show a + 2 - (k + 1) = a - k + 1 by omega] at this
    rw [if_pos (by omega)]
end Mine
end
section
namespace Mine
set_option maxRecDepth 100000
def gameB (wd mo : Int) : Bool := outerF wd mo (mo + 1 - 0).toNat == ((List.range (mo + 1 - 0).toNat).map fun (i : Nat) => dueF wd (0 + (i : Int))).filter fun q => decide (q.2 ≤ mo)
theorem game1 : ∀ j < 7, gameB 1 (4 + (j : Nat)) = true := by decide +kernel
theorem game2 : ∀ j < 7, gameB 2 (4 + (j : Nat)) = true := by decide +kernel
theorem game3 : ∀ j < 7, gameB 3 (4 + (j : Nat)) = true := by decide +kernel
theorem game4 : ∀ j < 7, gameB 4 (4 + (j : Nat)) = true := by decide +kernel
theorem game {wd mo : Int} (h1 : 1 ≤ wd) (h2 : wd < 5) (h3 : 4 ≤ mo) (h4 : mo < 11) : outerF wd mo (mo + 1 - 0).toNat = ((List.range (mo + 1 - 0).toNat).map fun (i : Nat) => dueF wd (0 + (i : Int))).filter fun q => decide (q.2 ≤ mo) := by
  obtain ⟨j, hj, rfl⟩ : ∃ j : Nat, j < 7 ∧ mo = 4 + (j : Nat) := ⟨(mo - 4).toNat, by omega, by omega⟩
  have hw : wd = 1 ∨ wd = 2 ∨ wd = 3 ∨ wd = 4 := by omega
  rcases hw with rfl | rfl | rfl | rfl
  · exact eq_of_beq (game1 j hj)
  · exact eq_of_beq (game2 j hj)
  · exact eq_of_beq (game3 j hj)
  · exact eq_of_beq (game4 j hj)
end Mine
end
section
namespace Mine
set_option maxRecDepth 100000
theorem isL_lesser {w k : Int} (hw : 1 ≤ w ∧ w ≤ 4) (hk : 0 ≤ k) : IsL w (lesserZ k w) k := by
  have h0 : 0 ≤ k * k * (w * w + 4) := Int.mul_nonneg (Int.mul_nonneg hk hk) (by have := les_w hw; omega)
  have h := isq_spec h0
  exact isL_of hw hk (isq_nonneg _) h.1 h.2
structure BigK (w k : Int) : Prop where
  k0 : 0 ≤ k ∧ Builtin.Int.intBits k ≤ 400
  k1 : 0 ≤ k + 1 ∧ Builtin.Int.intBits (k + 1) ≤ 400
  b0 : 0 ≤ lesserZ k w - k ∧ Builtin.Int.intBits (lesserZ k w - k) ≤ 400
  b1 : 0 ≤ lesserZ k w - k + 1 ∧ Builtin.Int.intBits (lesserZ k w - k + 1) ≤ 400
  m0 : IntMulOk (lesserZ k w - k) w
  m1 : IntMulOk (lesserZ k w - k + 1) w
  low : lesserZ (lesserZ k w - k) w + (lesserZ k w - k) * w < lesserZ k w
  far : lesserZ k w < lesserZ (lesserZ k w - k + 1) w + (lesserZ k w - k + 1) * w
  next : lesserZ (k + 1) w = if lesserZ (lesserZ k w - k + 1) w + (lesserZ k w - k + 1) * w = lesserZ k w + 1 then lesserZ k w + 2 else lesserZ k w + 1
theorem bigK {w k : Int} (hw1 : 1 ≤ w) (hw2 : w < 5) (hk : 1 ≤ k) (hb : Builtin.Int.intBits k ≤ 340) : BigK w k := by
  have hw : 1 ≤ w ∧ w ≤ 4 := ⟨hw1, by omega⟩
  have h := isL_lesser hw (show 0 ≤ k by omega)
  have hup := isL_up hw hk h
  have hka := h.1
  have hlt : lesserZ k w - k < k := by
    rcases Int.lt_or_le (lesserZ k w - k) k with h | h
    · exact h
    · have h1 := Int.mul_le_mul (show (1 : Int) ≤ w by omega) h (by omega) (by omega)
      have e : w * (lesserZ k w - k) = w * lesserZ k w - w * k := by grind
      have e2 : k * (w + 1) = w * k + k := by grind
      omega
  have hbw : Builtin.Int.intBits w ≤ 64 := intBits_le_64 (by omega) (by omega)
  have c0 : Builtin.Int.intBits (lesserZ k w - k) ≤ 340 := intBits_le_of_natAbs (by omega) hb
  have c1 : Builtin.Int.intBits (lesserZ k w - k + 1) ≤ 340 := intBits_le_of_natAbs (by omega) hb
  have c2 : Builtin.Int.intBits (k + 1) ≤ 400 := Nat.le_trans (intBits_add_le hb (intBits_le_64 (k := 1) (by decide) (by decide))) (by decide)
  have g0 := isL_lesser hw (show 0 ≤ lesserZ k w - k by omega)
  have g1 := isL_lesser hw (show 0 ≤ lesserZ k w - k + 1 by omega)
  exact ⟨⟨by omega, by omega⟩, ⟨by omega, c2⟩, ⟨by omega, by omega⟩, ⟨by omega, by omega⟩, IntMulOk.of_le c0 hbw (by decide), IntMulOk.of_le c1 hbw (by decide), low_up hw hk h g0, far_up hw hk h g1, behind hw hk h (isL_lesser hw (by omega)) g1⟩
theorem pow_gen {prog : Program} {w : World} {A : Around} {E : Value → Shared → Prop} {s : Shared} {x y : Int} {t u : Tok} {Q : Value → Shared → Prop} (hx : 1 ≤ x) (hx2 : x ≤ 1000000000) (hy : 1 ≤ y) (hy2 : y ≤ 11)
    (h : ∀ k : Int, 1 ≤ k → Builtin.Int.intBits k ≤ 340 → Q (.int k s.toks) { s with toks := s.toks + 1 }) : wpAny (model prog w) A (binaryOp .Pow (.int x t) (.int y u)) Q E s := by
  refine pow_int_small (by omega) (by omega) (by omega) (h _ ?_ ?_)
  · have := Int.pow_pos (n := x) (m := y.toNat) (by omega)
    omega
  · have hb : Builtin.Int.intBits x ≤ 30 := intBits_le (by omega)
    refine Nat.le_trans (intBits_pow_le hb y.toNat) ?_
    omega
theorem pow_gen9 {prog : Program} {w : World} {A : Around} {E : Value → Shared → Prop} {s : Shared} {d e : Int} {t u : Tok} {Q : Value → Shared → Prop}
    (h : ∀ k : Int, 1 ≤ k → Builtin.Int.intBits k ≤ 340 → Q (.int k s.toks) { s with toks := s.toks + 1 }) : wpAny (model prog w) A (binaryOp .Pow (.int (1 + d.fmod (10 ^ Int.toNat 9)) t) (.int (1 + e.fmod 11) u)) Q E s := by
  have e9 : (10 : Int) ^ Int.toNat 9 = 1000000000 := by decide
  rw [e9]
  have h1 := Int.fmod_nonneg_of_pos d (show (0 : Int) < 1000000000 by decide)
  have h2 := Int.fmod_lt_of_pos d (show (0 : Int) < 1000000000 by decide)
  have h3 := Int.fmod_nonneg_of_pos e (show (0 : Int) < 11 by decide)
  have h4 := Int.fmod_lt_of_pos e (show (0 : Int) < 11 by decide)
  exact pow_gen (by omega) (by omega) (by omega) (by omega) h
end Mine
end
open Mine
set_option maxRecDepth 100000
set_option maxHeartbeats 8000000
set_option hygiene false in
local macro_rules | `(tactic| walk_at "storeName") => `(tactic| (k_here; (with_reducible show wpAny _ _ (storeName _ (Str.ofString "width") (Value.int (_ + Int.fmod _ _) _)) _ _ _); k_dflt ((try k_fmods); (refine st_gen 1 5 (by omega) (by omega) ?_); intro wd hw0 hw1)))
set_option hygiene false in
local macro_rules | `(tactic| walk_at "storeName") => `(tactic| (k_here; (with_reducible show wpAny _ _ (storeName _ (Str.ofString "most") (Value.int (_ + Int.fmod _ _) _)) _ _ _); k_dflt ((try k_fmods); (refine st_gen 4 11 (by omega) (by omega) ?_); intro mo hm0 hm1)))
local macro_rules | `(tactic| walk_at "exec For Name Call cons nil") => `(tactic| (k_here; k_dflt (refine for_src ?_)))
set_option hygiene false in
local macro_rules | `(tactic| walk_at "call ref") => `(tactic| (k_here; k_dflt ((refine' reac1 _ _ _ _ _ _ _ _ _ _ _ _ _ _ _ _ _ _ _ _ _ _ _ _ _ _ _ _ _ _ _ _ _ ?k1 ?k2 ?k3 ?k4 ?k5 ?kK ?p1 ?p2 ?p3 ?p4 ?p5 ?kd ?ku ?_); (case k1 => k_asm); (case k2 => k_asm); (case k3 => k_asm); (case k4 => k_asm); (case k5 => k_asm); (case kK => first | exact rfl | assumption); (case p1 => assumption); (case p2 => assumption); (case p3 => assumption); (case p4 => assumption); (case p5 => assumption); (case kd => ktr_room); (case ku => ktr_units); intro h9 tk9 F9 N9; (try dsimp only); (try k_fold))))
local macro_rules | `(tactic| walk_at "eval ListComp") => `(tactic| (k_here; (have hq9 : InMark := by assumption); clear hq9; k_dflt (refine LCt.ListComp_T (F₀ := by k_asm) (by with_unfolding_all rfl) (by decide) (by rfl) (by decide) (by rfl) ?_)))
set_option hygiene false in
local macro_rules | `(tactic| walk_at "call ref") => `(tactic| (k_here; k_dflt ((refine' lesc1 _ _ _ _ _ _ _ _ _ _ _ _ _ _ _ _ _ _ _ _ _ _ _ _ _ _ ?k1 ?k2 ?k3 ?k4 ?k5 ?kK ?p1 ?p2 ?kd ?ku ?_); (case k1 => k_asm); (case k2 => k_asm); (case k3 => k_asm); (case k4 => k_asm); (case k5 => k_asm); (case kK => first | exact rfl | assumption); (case p1 => first | assumption | exact les_ok (by omega) (by omega)); (case p2 => first | assumption | exact ⟨by omega, by omega⟩); (case kd => ktr_room); (case ku => ktr_units); intro t9 h9 tk9 F9 N9; (try dsimp only); (try k_fold))))
local macro_rules | `(tactic| walk_at "exec Assign cons ListComp") => `(tactic| (k_here; (have hq9 : DueMark := by assumption); clear hq9; k_dflt (refine LCg.Assign_ListComp_U (F₀ := by k_asm) (by rfl) (by with_unfolding_all rfl) (by with_unfolding_all rfl) (by decide) (by rfl) (by decide) (by rfl) (by rfl) (by rfl) ?_)))
local macro_rules | `(tactic| walk_at "CompSrc") => `(tactic| (k_here; (have hq9 : DueMark := by assumption); clear hq9; refine Halt.of ?_))
local macro_rules | `(tactic| walk_at "binaryOp Mult int int") => `(tactic| (refine mul_int ?_ (by assumption)))
set_option hygiene false in
local macro_rules | `(tactic| walk_at "binaryOp Pow int int") => `(tactic| (k_here; (with_reducible refine pow_gen9 ?_); k_dflt (intro kk hk0 hkb; (have hbig : BigK wd kk := bigK (by omega) (by omega) hk0 hkb); (have hb1 := hbig.k0); (have hb2 := hbig.k1); (have hb3 := hbig.b0); (have hb4 := hbig.b1); (have hb5 := hbig.m0); (have hb6 := hbig.m1); (have hTup : TupMark := ⟨⟩))))
local macro_rules | `(tactic| walk_at "eval ListComp") => `(tactic| (k_here; (have hq9 : TupMark := by assumption); clear hq9; k_dflt (refine ListComp_TS (F₀ := by k_asm) (by with_unfolding_all rfl) (by decide) (by rfl) (by decide) (by rfl) ?_)))
local macro_rules | `(tactic| walk_at "compareOp Lt int int") => `(tactic| (refine lt_true_int (by assumption) ?_))
set_option hygiene false in
local macro_rules | `(tactic| walk_at "compareOp Eq int int") => `(tactic| (refine eq_true_int (by first | exact hnext.trans (if_pos (by assumption)) | exact hnext.trans (if_neg (by assumption))) ?_))
set_option maxRecDepth 100000 in
set_option maxHeartbeats 0 in
theorem PySem.Challenge.cw_aw5005_01_holds : PySem.Challenge.rw_aw5005_01.Holds := by
  refine hd1 ?_
  k_go0
  all_goals try k_fold
  k_steps
  rename News _ _ _ _ => N1
  refine' ForSrc.rangeQ (outerP wd mo) rfl (by k_asm) (news_rot2 N1) (by assumption) (small_one (by omega) (by omega) (by omega) (by omega)) (rangeSize_nat _ _) ?hc ?U ?hd ?hd2 .nil (by intro p hp; cases hp) rfl ?turn ?done ?hE
  case hc => rfl
  case U => k_updF
  case hd => first | assumption | (with_unfolding_all assumption)
  case hd2 => first | assumption | (with_unfolding_all assumption)
  case hE => first | passes_own | with_unfolding_all passes_own
  case turn =>
    intro i vs ns k oN vc oC vcC tl tI h' tkI I hi hP hvs hoN hoC hlI hcI hnI hoT hbT F' N'
    simp only [List.cons_append, List.nil_append] at N'
    simp only [Int.zero_add, Int.mul_one] at N' ⊢
    simp only [List.forall_mem_cons, List.forall_mem_nil, and_true] at hnI
    k_steps
    rename News _ _ _ _ => N2
    refine' ForSrc.rangeP (innerP wd mo i) rfl (by k_asm) (news_swap2 (r := [_, _, _, _, _]) N2) (by assumption) (small_one (by omega) (by omega) (by omega) (by omega)) (rangeSize_nat _ _) ?hc ?U ?hd hvs (bad_in hbT hoT rfl) hP ?turn2 ?done2 ?hE2
    case hc => rfl
    case U => k_updF
    case hd => first | assumption | (with_unfolding_all assumption)
    case hE2 => first | passes_own | with_unfolding_all passes_own
    case turn2 =>
      intro j vs2 ns2 k2 oN2 vc2 tl2 tJ h2 tkJ J hj hP2 hvs2 hoN2 hlJ hnJ hoT2 hbT2 F'' N''
      have hMark : InMark := ⟨⟩
      simp only [List.cons_append, List.nil_append] at N''
      simp only [Int.zero_add, Int.mul_one] at N'' ⊢
      simp only [List.forall_mem_cons, List.forall_mem_nil, and_true] at hnJ
      k_steps
      have e2 : ns2 = innerF wd (i : Int) (outerF wd mo i) j := by rw [hP2]
      have hlen2 := hvs2.length
      have hlen3 : ns2.length ≤ 200 := by rw [e2]; exact in_len (by omega) (by omega) hi hj
      have hone : Small (i : Int) := by unfold Small; omega
      have htwo : Small ((i : Int) + (j : Int)) := by unfold Small; omega
      have hwd : Small wd := by unfold Small; omega
      refine' LCt.CompSrcT.ledger rfl (by k_asm) (by k_asm) (by k_mem) (by rw [PySem.sizeLine_eq, List.size_toArray]; omega) ?_
      intro g'
      refine' restPT (fun q => reachedB (i : Int) ((i : Int) + (j : Int)) q.1 q.2 wd) (hvs2.mono (by kcf_all)) ?turn3 ?hS3 ?fin3
      case turn3 =>
        intro a3 r3 q3 t3 u3 I3 oI3 C3 oC3 D3 m3 ys3 h3 tk3 E3 hm3 hin3 hC3 hx3 F3 N3 off3 ne3
        have hr3 := in_small (q := (r3, q3)) (by omega) hi hj (e2 ▸ hin3)
        have hs1 : Small r3 := hr3.1
        have hs2 : Small q3 := hr3.2
        have Np := news_put N3 (.tail _ (.tail _ (.tail _ hm3)))
        k_steps
        all_goals first
          | exact crEl F9 N9 (fun p hp => List.mem_cons_of_mem _ hp) off3 (by assumption) (by assumption)
          | exact ctNo F9 N9 (fun p hp => List.mem_cons_of_mem _ hp) off3 (by assumption) (by assumption)
      case hS3 => exact .inr ⟨_, by k_mem, rfl, _, rfl⟩
      case fin3 =>
        intro ys3 hy3 hl3
        k_steps
        all_goals (try dsimp only [FPostP])
        all_goals (rename News _ _ _ _ => N9)
        all_goals (try simp only [List.push_toArray] at N9)
        · refine FEndP.intro (k := k2 + 1) (tl2 ++ [_]) (by k_asm) N9 (pin_app hvs2) (by assumption) (fun _ => rfl) (all_app ?hl (by k_mem)) (bad_app hbT2 ?hb) (off_app hoT2 ?ho) (step_yes hP2 hy3 (by assumption))
          case hl => (try dsimp only); simp only [List.cons_append, List.nil_append]; kcf_all
          case hb => simp only [List.map_cons, List.map_nil, List.forall_mem_cons, List.forall_mem_nil, and_true]; (repeat' apply And.intro) <;> first | omega | (intro _ h; cases h)
          case ho => omega
        · refine FEndP.intro (k := k2) tl2 (by k_asm) N9 hvs2 (by assumption) (fun _ => rfl) ?hl2 hbT2 hoT2 (step_no hP2 hy3 (by assumption))
          case hl2 => (try dsimp only); simp only [List.cons_append, List.nil_append]; kcf_all
    case done2 =>
      intro vs2 ns2 k2 oN2 vc2 tl2 h2 tk2 hP2 hvs2 hoN2 hbT2 F'' N''
      simp only [List.cons_append, List.nil_append] at N''
      (try dsimp only)
      k_steps
      (try dsimp only [FPostQ])
      rename _ = Data.cell (some (Value.int _ tI)) => hd1c
      refine FEndQ.intro (k := k2) tl2 (by k_asm) (by k_asm) hvs2 hd1c hoN2 (fun _ => rfl) ?hl3 (bad_out hbT2 rfl) (bad_I hbT2) (hP2.trans (by rfl))
      case hl3 => (try dsimp only); simp only [List.cons_append, List.nil_append]; kcf_all
  case done =>
    intro vs ns k oN vc oC vcC tl h2 tk2 hP hvs hoN hoC hbT F' N'
    simp only [List.cons_append, List.nil_append] at N'
    have hDue : DueMark := ⟨⟩
    (try dsimp only)
    k_steps
    refine Halt.go ?_
    refine LCg.CompSrc.range (by rfl) (by k_asm) (by k_asm) (by assumption) (small_one (by omega) (by omega) (by omega) (by omega)) (rangeSize_nat _ _) (by rw [PySem.sizeLine_eq]; omega) ?_
    intro g5
    refine' restP (dueF wd) ?turn5 ?fin5
    case turn5 =>
      intro i5 t5 tl5 I5 oI5 C5 oC5 D5 m5 ys5 h5 tk5 E5 hi5 hC5 hx5 F5 N5 off5 ne5
      simp only [Int.zero_add] at hx5 ⊢
      simp only [List.cons_append, List.nil_append] at N5
      have hmul5 : IntMulOk (i5 : Int) wd := due_mul (by omega) (by omega) ⟨by omega, by omega⟩
      k_steps
      rename Fr _ _ _ _ => F9
      rename News _ _ _ _ => N9
      exact cpEl (tl := tl5) F9 N9 (fun p hp => List.mem_cons_of_mem _ hp) (.head _) off5 (by omega) (by omega) (by omega) rfl
    case fin5 =>
      intro ys5 tl5 hy5
      simp only [List.cons_append, List.nil_append]
      clear hDue
      have hIn : InMark := ⟨⟩
      have hlen5 := hy5.length
      rw [List.length_map, List.length_range] at hlen5
      k_steps
      refine' LCt.CompSrcT.ledger rfl (by k_asm) (by k_asm) (by k_mem) (by rw [PySem.sizeLine_eq, List.size_toArray]; omega) ?_
      intro g6
      refine' restPT (fun q => decide (q.2 ≤ mo)) (hy5.mono ?hm6) ?turn6 ?hS6 ?fin6
      case hm6 => 
        intro p hp
        simp only [List.mem_cons, List.mem_append, hp, or_true]
      case turn6 =>
        intro a6 r6 q6 t6 u6 I6 oI6 C6 oC6 D6 m6 ys6 h6 tk6 E6 hm6 hin6 hC6 hx6 F6 N6 off6 ne6 hS6
        have Np := news_put N6 (.tail _ (.tail _ (.tail _ hm6)))
        clear hIn
        iterate 9 walk1
        · walk1
          exact crEl F6 Np (fun p hp => List.mem_cons_of_mem _ hp) off6 hS6 (by first | assumption | exact decide_eq_true (by assumption))
        · exact ctNo F6 Np (fun p hp => List.mem_cons_of_mem _ hp) off6 hS6 (by first | assumption | exact decide_eq_false (by assumption))
      case hS6 => exact .inr ⟨_, by k_mem, rfl, _, rfl⟩
      case fin6 =>
        intro ys6 hy6 hl6
        have hns : ns = _ := hP.trans (game (by omega) (by omega) (by omega) (by omega))
        rw [← hns] at hy6
        walk1
        clear hIn
        refine' ne_pairs (ns := ns) (by k_asm) (by k_mem) (by k_mem) (hvs.mono ?hs7) (hy6.mono ?hs8) ?hu9 ?_
        case hs7 => (intro p hp; simp only [List.mem_cons, List.mem_append, hp, true_or, or_true])
        case hs8 => exact fun p hp => List.mem_cons_of_mem _ hp
        case hu9 => k_units
        clear hvs hy6 hy5 hlen5 hl6
        iterate 79 walk1
        k_steps
        refine' TSrc.intro rfl (by k_asm) (by k_asm) ?hm8 ?hz8 ?_
        case hm8 => k_mem
        case hz8 => exact Nat.le_of_ble_eq_true rfl
        intro g8
        refine LCg.CompRest.succ (k := 1) ?_
        intro v8 I8 oI8 C8 oC8 D8 m8 h8 tk8 E8 hv8 hC8 hx8 F8 N8 off8 ne8
        obtain ⟨z8, rfl⟩ : ∃ z, v8 = Value.int (lesserZ kk wd - kk) z := ⟨_, (Option.some.inj hv8).symm⟩
        k_steps
        rename Fr _ _ _ _ => F9
        rename News _ _ _ _ => N9
        refine LCg.CompEnd.intro F9 N9 _ (fun p hp => hp) off8 (by k_mem) ?_
        clear hv8 hx8 F8 N8 off8 ne8 hC8 F9 N9
        refine LCg.CompRest.succ (k := 0) ?_
        intro v8 I8 oI8 C8 oC8 D8 m8 h8 tk8 E8 hv8 hC8 hx8 F8 N8 off8 ne8
        obtain ⟨z9, rfl⟩ : ∃ z, v8 = Value.int (lesserZ kk wd - kk + 1) z := ⟨_, (Option.some.inj hv8).symm⟩
        k_steps
        rename Fr _ _ _ _ => F9
        rename News _ _ _ _ => N9
        refine LCg.CompEnd.intro F9 N9 _ (fun p hp => hp) off8 (by k_mem) ?_
        clear hv8 hx8 F8 N8 off8 ne8 hC8 F9 N9
        refine LCg.CompRest.zero ?_
        simp only [List.nil_append, List.cons_append]
        clear hTup
        iterate 12 walk1
        have hlow := hbig.low
        have hfar := hbig.far
        have hnext := hbig.next
        k_steps
