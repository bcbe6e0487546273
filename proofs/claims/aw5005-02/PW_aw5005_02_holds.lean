import PyProof.Rows.All
import Wide.All
import OpenK.AllK
import Wide.FinOn
import PySem.Challenge.RW_aw5005_02
open PySem PySem.W PyProof.Rows PySem.Calls
set_option Elab.async false
set_option linter.all false
section
namespace Mine
def sqF : Nat → Nat → Nat
  | 0, _ => 0
  | f + 1, n => if (2 * sqF f (n / 4) + 1) * (2 * sqF f (n / 4) + 1) ≤ n then 2 * sqF f (n / 4) + 1 else 2 * sqF f (n / 4)
theorem sqF_spec : ∀ (f n : Nat), n < 4 ^ f → sqF f n * sqF f n ≤ n ∧ n < (sqF f n + 1) * (sqF f n + 1) := by
  intro f
  induction f with
  | zero => intro n h; simp [sqF] at *; omega
  | succ f ih =>
    intro n h
    have h4 : n / 4 < 4 ^ f := by rw [Nat.pow_succ] at h; omega
    obtain ⟨a, b⟩ := ih (n / 4) h4
    unfold sqF
    generalize sqF f (n / 4) = s at a b ⊢
    have e1 : (2 * s) * (2 * s) = 4 * (s * s) := by grind
    have e2 : (2 * s + 1 + 1) * (2 * s + 1 + 1) = 4 * ((s + 1) * (s + 1)) := by grind
    by_cases c : (2 * s + 1) * (2 * s + 1) ≤ n
    · rw [if_pos c]; exact ⟨c, by omega⟩
    · rw [if_neg c]; exact ⟨by omega, by omega⟩
def isqN (n : Nat) : Nat := sqF (n.log2 / 2 + 1) n
theorem isqN_spec (n : Nat) : isqN n * isqN n ≤ n ∧ n < (isqN n + 1) * (isqN n + 1) := by
  refine sqF_spec _ _ ?_
  have h1 : n < 2 ^ (n.log2 + 1) := Nat.lt_log2_self
  have h2 : 2 ^ (n.log2 + 1) ≤ 2 ^ (2 * (n.log2 / 2 + 1)) := Nat.pow_le_pow_right (by decide) (by omega)
  have h3 : (4 : Nat) ^ (n.log2 / 2 + 1) = 2 ^ (2 * (n.log2 / 2 + 1)) := by rw [Nat.pow_mul]
  omega
def isq (x : Int) : Int := (isqN x.toNat : Int)
theorem isq_nonneg (x : Int) : 0 ≤ isq x := Int.natCast_nonneg _
theorem isq_spec {x : Int} (h : 0 ≤ x) : isq x * isq x ≤ x ∧ x < (isq x + 1) * (isq x + 1) := by
  have h1 := isqN_spec x.toNat
  unfold isq
  generalize isqN x.toNat = s at h1 ⊢
  have e : x = (x.toNat : Int) := (Int.toNat_of_nonneg h).symm
  rw [e]
  constructor
  · exact_mod_cast h1.1
  · exact_mod_cast h1.2
theorem sq_unique {x a b : Int} (ha : 0 ≤ a) (hb : 0 ≤ b) (a1 : a * a ≤ x) (a2 : x < (a + 1) * (a + 1)) (b1 : b * b ≤ x) (b2 : x < (b + 1) * (b + 1)) : a = b := by
  rcases Int.lt_trichotomy a b with h | h | h
  · have := Int.mul_le_mul (show a + 1 ≤ b by omega) (show a + 1 ≤ b by omega) (by omega) hb
    omega
  · exact h
  · have := Int.mul_le_mul (show b + 1 ≤ a by omega) (show b + 1 ≤ a by omega) (by omega) ha
    omega
theorem isq_eq {x r : Int} (hr : 0 ≤ r) (h1 : r * r ≤ x) (h2 : x < (r + 1) * (r + 1)) : isq x = r := by
  have hx : 0 ≤ x := Int.le_trans (Int.mul_nonneg hr hr) h1
  exact sq_unique (isq_nonneg x) hr (isq_spec hx).1 (isq_spec hx).2 h1 h2

def NewtP (x r : Int) : Prop := 1 ≤ r ∧ Builtin.Int.intBits r ≤ 2000 ∧ x < (r+1)*(r+1)
theorem half (a : Int) : a.fdiv (2 ^ Int.toNat 1) = a / 2 := by
  rw [show (2:Int) ^ Int.toNat 1 = 2 from rfl, Int.fdiv_eq_ediv_of_nonneg _ (by decide)]
theorem sh0 (x : Int) : 0 ≤ ((Builtin.Int.intBits x : Int) + 1).fdiv (2 ^ Int.toNat 1) := by rw [half]; omega
theorem sh1 {x : Int} (h : 0 ≤ x ∧ Builtin.Int.intBits x ≤ 2000) : ((Builtin.Int.intBits x : Int) + 1).fdiv (2 ^ Int.toNat 1) ≤ 1000000 := by rw [half]; omega
theorem pow_cast (k : Nat) : ((2 : Int) ^ k) = ((2 ^ k : Nat) : Int) := by simp
theorem newt0 {x : Int} (h : 0 ≤ x ∧ Builtin.Int.intBits x ≤ 2000) : NewtP x (1 * 2 ^ (((Builtin.Int.intBits x : Int) + 1).fdiv (2 ^ Int.toNat 1)).toNat) := by
  rw [half, Int.one_mul]
  have hb := intBits_le_iff.mp (Nat.le_refl (Builtin.Int.intBits x))
  generalize Builtin.Int.intBits x = b at h hb ⊢
  obtain ⟨k, hk⟩ : ∃ k : Nat, k = (((b : Int) + 1) / 2).toNat := ⟨_, rfl⟩
  rw [← hk]
  have hk2 : b ≤ k + k ∧ k ≤ 1000 := by omega
  have hp : 2 ^ b ≤ 2 ^ k * 2 ^ k := by rw [← Nat.pow_add]; exact Nat.pow_le_pow_right (by decide) hk2.1
  have h1 : 1 ≤ 2 ^ k := Nat.one_le_two_pow
  unfold NewtP
  rw [pow_cast]
  refine ⟨by exact_mod_cast h1, intBits_le_iff.mpr ?_, ?_⟩
  · rw [Int.natAbs_natCast]; exact Nat.pow_lt_pow_right (by decide) (by omega)
  · generalize 2 ^ k = p at hp h1 ⊢
    have h2 : x < ((p * p : Nat) : Int) := by omega
    have h3 : ((p : Int) + 1) * (p + 1) = p * p + 2 * p + 1 := by grind
    rw [h3]
    rw [Int.natCast_mul] at h2
    omega
theorem quot {x r : Int} (hr : 1 ≤ r) : x.fdiv r * r ≤ x ∧ x < x.fdiv r * r + r := by
  rw [Int.fdiv_eq_ediv_of_nonneg _ (by omega)]
  have h1 := Int.mul_ediv_add_emod x r
  have h2 := Int.emod_nonneg x (show r ≠ 0 by omega)
  have h3 := Int.emod_lt_of_pos x (show 0 < r by omega)
  rw [Int.mul_comm] at h1
  omega
theorem sq_nonneg' (a : Int) : 0 ≤ a * a := by
  rcases Int.le_total 0 a with h | h
  · exact Int.mul_nonneg h h
  · have := Int.mul_nonneg (show 0 ≤ -a by omega) (show 0 ≤ -a by omega)
    rwa [Int.neg_mul_neg] at this
theorem newt_arith {x r q y : Int} (hx : x < q * r + r) (hy : r + q < 2 * y + 2) : x < (y + 1) * (y + 1) ∨ y + 1 < 0 ∨ r + q + 1 < 0 := by
  by_cases h0 : r + q + 1 < 0
  · exact .inr (.inr h0)
  refine .inl ?_
  have h1 : 0 ≤ (r - (q + 1)) * (r - (q + 1)) := sq_nonneg' _
  have e1 : (r - (q + 1)) * (r - (q + 1)) = (r + q + 1) * (r + q + 1) - 4 * (q * r + r) := by grind
  have h2 : (r + q + 1) * (r + q + 1) ≤ (2 * y + 2) * (2 * y + 2) := Int.mul_le_mul (by omega) (by omega) (by omega) (by omega)
  have e2 : (2 * y + 2) * (2 * y + 2) = 4 * ((y + 1) * (y + 1)) := by grind
  omega
theorem newt1 {x r : Int} (h : 0 ≤ x ∧ Builtin.Int.intBits x ≤ 2000) (h0 : x ≠ 0) (hr : NewtP x r) (hn : ¬ r ≤ (r + x.fdiv r).fdiv (2 ^ Int.toNat 1)) : NewtP x ((r + x.fdiv r).fdiv (2 ^ Int.toNat 1)) := by
  rw [half] at hn ⊢
  obtain ⟨r1, r2, r3⟩ := hr
  obtain ⟨q1, q2⟩ := quot (x := x) r1
  have hq : 0 ≤ x.fdiv r := by rw [Int.fdiv_eq_ediv_of_nonneg _ (by omega)]; exact Int.ediv_nonneg h.1 (by omega)
  generalize x.fdiv r = q at *
  obtain ⟨y, hy⟩ : ∃ y, y = (r + q) / 2 := ⟨_, rfl⟩
  rw [← hy] at hn ⊢
  have key : x < (y + 1) * (y + 1) := by
    rcases newt_arith (x := x) (r := r) (q := q) (y := y) q2 (by omega) with k | k | k
    · exact k
    · omega
    · omega
  have hy1 : 1 ≤ y := by
    rcases Int.lt_or_le y 1 with k | k
    · have : y = 0 := by omega
      subst this
      simp at key
      omega
    · exact k
  exact ⟨hy1, intBits_le_of_natAbs (by omega) r2, key⟩
theorem newt2 {x r : Int} (hr : NewtP x r) (hn : r ≤ (r + x.fdiv r).fdiv (2 ^ Int.toNat 1)) : isq x = r := by
  rw [half] at hn
  obtain ⟨r1, _, r3⟩ := hr
  obtain ⟨q1, q2⟩ := quot (x := x) r1
  refine isq_eq (by omega) ?_ r3
  have : r ≤ x.fdiv r := by omega
  have := Int.mul_le_mul_of_nonneg_right this (show 0 ≤ r by omega)
  omega
theorem newtz {x : Int} (h : x = 0) : isq x = x := by subst h; decide
theorem newt3 {x r : Int} (hr : NewtP x r) (hn : ¬ r ≤ (r + x.fdiv r).fdiv (2 ^ Int.toNat 1)) : ((r + x.fdiv r).fdiv (2 ^ Int.toNat 1)).toNat < r.toNat := by
  obtain ⟨r1, _, _⟩ := hr
  omega
theorem NewtP.ne {x r : Int} (hr : NewtP x r) : r ≠ 0 := by unfold NewtP at hr; omega
theorem NewtP.log {x r : Int} (hr : NewtP x r) : r.natAbs.log2 < 9000 := by
  have h := intBits_le_iff.mp hr.2.1
  have h0 : r.natAbs ≠ 0 := by have := hr.1; omega
  have := (Nat.log2_lt h0).mpr h
  omega
theorem isq_le {x : Int} (h : 0 ≤ x) : isq x ≤ x := by
  have h1 := (isq_spec h).1
  have h2 := isq_nonneg x
  rcases Int.lt_or_le (isq x) 1 with k | k
  · omega
  · have := Int.mul_le_mul_of_nonneg_right k h2
    omega
theorem isq_mul {x : Int} (h : 0 ≤ x ∧ Builtin.Int.intBits x ≤ 2000) : IntMulOk (isq x) (isq x) := by
  have h1 := isq_le h.1
  have h2 := isq_nonneg x
  have h3 : Builtin.Int.intBits (isq x) ≤ 2000 := intBits_le_of_natAbs (by omega) h.2
  exact IntMulOk.of_le h3 h3 (by decide)
end Mine
end
section
namespace Mine
set_option maxRecDepth 100000
set_option maxHeartbeats 4000000
section
variable {prog : Program} {w : World} {A : Around} {E : Value → Shared → Prop} {s : Shared} {h₀ : Heap} {L : Addr} {m : Str → Option Value} {env : Env}

/-- a for loop, its iterable evaluated -/
def ForSrc (prog : Program) (w : World) (A : Around) (E : Value → Shared → Prop) (env : Env) (x : Str) (px : Pos) (body : List Stmt) (Q : Flow → Shared → Prop) (xv : Value) (s₁ : Shared) : Prop :=
  wpAny (model prog w) A (pyIter xv) (fun it s₂ => codeAny (model prog w) A (.forLoop (.Name x px) it body [] env) (fun r s' => match r with | .ok f => Q f s' | .error e => cameBackBy (model prog w) A env E e s') s₂) E s₁
theorem for_src {iter : Expr} {x : Str} {px pos : Pos} {body : List Stmt} {Q : Flow → Shared → Prop} (h : wpAny (model prog w) A (eval iter env) (ForSrc prog w A E env x px body Q) E s)
    (hs : ∀ x, foldedSetIterable iter env x = pure x := by intro _; rfl) : wpAny (model prog w) A (exec (.For (.Name x px) iter body [] pos) env) Q E s := wpAny_For h hs

def FEnd {σ : Type} (h₀ : Heap) (L : Addr) (I : Addr) (oI : Obj) (M : σ → Str → Option Value) (Led : σ → List (Addr × Obj)) (P : σ → Prop) (s₁ s₂ : Shared) : Prop :=
  ∃ (c : σ) (h' : Heap) (tk' : Nat) (m' : Str → Option Value) (news' : List (Addr × Obj)), s₂ = { s₁ with heap := h', toks := tk' } ∧ Fr h₀ L h' m' ∧ (∀ z, m' z = M c z) ∧ News h₀ L h' news' ∧ (I, oI) ∈ news' ∧ (∀ p ∈ Led c, p ∈ news') ∧ (∀ p ∈ Led c, @Ne Nat p.1 I) ∧ P c
theorem FEnd.intro {σ : Type} {I : Addr} {oI : Obj} {M : σ → Str → Option Value} {Led : σ → List (Addr × Obj)} {P : σ → Prop} {s₁ : Shared} {h' : Heap} {tk' : Nat} {m' : Str → Option Value} {news' : List (Addr × Obj)} (c : σ)
    (F : Fr h₀ L h' m') (N : News h₀ L h' news') (hm : ∀ z, m' z = M c z) (hI : (I, oI) ∈ news') (hl : ∀ p ∈ Led c, p ∈ news') (ho : ∀ p ∈ Led c, @Ne Nat p.1 I) (hp : P c) : FEnd h₀ L I oI M Led P s₁ { s₁ with heap := h', toks := tk' } :=
  ⟨c, h', tk', m', news', rfl, F, hm, N, hI, hl, ho, hp⟩
def FPost {σ : Type} (h₀ : Heap) (L : Addr) (I : Addr) (oI : Obj) (M : σ → Str → Option Value) (Led : σ → List (Addr × Obj)) (P : σ → Prop) (Q : Flow → Shared → Prop) (s₁ : Shared) (f : Flow) (s₂ : Shared) : Prop :=
  match f with
  | .ret v => Q (.ret v) s₂
  | .brk => Q .next s₂
  | _ => FEnd h₀ L I oI M Led P s₁ s₂

theorem ForSrc.range {σ : Type} {x : Str} {px : Pos} {body : List Stmt} {Q : Flow → Shared → Prop} {news : List (Addr × Obj)} {r : Addr} {a b c : Int} {t u v : Tok} {n : Nat}
    (hh : A.handled = none) (F : Fr h₀ L s.heap m) (N : News h₀ L s.heap news) (hr : IsRange s.heap r a b c t u v) (hsm : Builtin.Range.small a b c = true) (hn : Builtin.Range.rangeSize a b c = (n : Int))
    (M : σ → Str → Option Value) (Led : σ → List (Addr × Obj)) (P : Nat → σ → Prop) (c₀ : σ) (hM : ∀ z, m z = M c₀ z) (hL : ∀ p ∈ Led c₀, p ∈ news) (h0 : P 0 c₀)
    (turn : ∀ (i : Nat) (d : σ) t h tk I, i < n → P i d → (∀ p ∈ Led d, @Ne Nat p.1 I) → Fr h₀ L h (M d) → News h₀ L h ((I, krsIt (a + ((i + 1 : Nat) : Int) * c) ((n : Int) - ((i + 1 : Nat) : Int)) c) :: Led d) →
      wpAny (model prog w) A (assign (.Name x px) env (.int (a + (i : Int) * c) t)) (fun _ s' => wpAny (model prog w) A (execs body env) (FPost h₀ L I (krsIt (a + ((i + 1 : Nat) : Int) * c) ((n : Int) - ((i + 1 : Nat) : Int)) c) M Led (P (i + 1)) Q { s with heap := h, toks := tk }) E s') E { s with heap := h, toks := tk })
    (done : ∀ (d : σ) h tk, P n d → Fr h₀ L h (M d) → News h₀ L h (Led d) → Q .next { s with heap := h, toks := tk })
    (hE : PassesOwn (model prog w) A env E) : ForSrc prog w A E env x px body Q (.ref r) s := by
  refine wpAny_pyIter_range hr hsm ?_
  have W : Walks prog w A s.heap.objs.size [s.heap.objs.size] [s.heap.objs.size] n (fun i v => ∃ t, v = .int (a + (i : Int) * c) t)
      (fun i h => IsRangeIter h s.heap.objs.size (a + (i : Nat) * c) ((n : Int) - (i : Nat)) c) := Walks.range hh _ a c n
  have hI₀ := next_is_new F
  have hIL : L ≠ s.heap.objs.size := Nat.ne_of_lt F.ns.lt
  have hmM : m = M c₀ := funext hM
  refine codeAny_forLoop
    (fun k s' => ∃ h' tk i d, s' = { s with heap := h', toks := tk } ∧ i ≤ n ∧ k = n + 1 - i ∧ IsRangeIter h' s.heap.objs.size (a + (i : Nat) * c) ((n : Int) - (i : Nat)) c ∧ Fr h₀ L h' (M d) ∧ News h₀ L h' (Led d) ∧ (∀ p ∈ Led d, @Ne Nat p.1 s.heap.objs.size) ∧ P i d) ?_ (n + 1)
    ⟨_, s.toks, 0, c₀, rfl, Nat.zero_le _, rfl, by rw [hn]; simpa using Heap.get?_push_size _ rfl, hmM ▸ F.keeps fun _ _ e => Heap.get?_push_of_some _ e, fun p hp => N.grown (fun _ _ e => Heap.get?_push_of_some _ e) p (hL p hp), fun p hp => Nat.ne_of_lt (Heap.lt_size (N p (hL p hp)).1), h0⟩
  rintro k s' ⟨h', tk, i, d, rfl, hi, rfl, hst, F', N', hne, hP⟩
  by_cases hlt : i < n
  · refine W.item i _ _ _ hlt hst fun v h₁ tk₁ hv hst₁ hk₁ => ?_
    obtain ⟨t, rfl⟩ := hv
    have F₁ : Fr h₀ L h₁ (M d) := LCg.fr_but F' hk₁ hIL hI₀
    have N₁ : News h₀ L h₁ (Led d) := LCg.news_but N' hk₁ hne
    have z : h₁.get? s.heap.objs.size = some (krsIt (a + ((i + 1 : Nat) : Int) * c) ((n : Int) - ((i + 1 : Nat) : Int)) c) := hst₁
    refine wpAny_passesOwn hE (wpAny_mono (turn i d t h₁ tk₁ s.heap.objs.size hlt hP hne F₁ (fun p hp => ?_)) (fun _ s₂ h₂ => wpAny_passesOwn hE (wpAny_mono h₂ (fun f s₃ h₃ => ?_) fun _ _ e => e)) fun _ _ e => e)
    · rcases List.mem_cons.mp hp with rfl | hp
      · exact ⟨z, Ne.symm hIL, hI₀⟩
      · exact N₁ p hp
    · have fin : FEnd h₀ L s.heap.objs.size (krsIt (a + ((i + 1 : Nat) : Int) * c) ((n : Int) - ((i + 1 : Nat) : Int)) c) M Led (P (i + 1)) { s with heap := h₁, toks := tk₁ } s₃ →
          ∃ m, m < n + 1 - i ∧ ∃ h' tk i d, s₃ = { s with heap := h', toks := tk } ∧ i ≤ n ∧ m = n + 1 - i ∧ IsRangeIter h' s.heap.objs.size (a + (i : Nat) * c) ((n : Int) - (i : Nat)) c ∧ Fr h₀ L h' (M d) ∧ News h₀ L h' (Led d) ∧ (∀ p ∈ Led d, @Ne Nat p.1 s.heap.objs.size) ∧ P i d := by
        rintro ⟨d', h₄, tk₄, m₄, news₄, rfl, F₄, hm₄, N₄, hI₄, hl₄, ho₄, hP₄⟩
        have e₄ : m₄ = M d' := funext hm₄
        exact ⟨n + 1 - (i + 1), by omega, h₄, tk₄, i + 1, d', rfl, hlt, rfl, (N₄ _ hI₄).1, e₄ ▸ F₄, fun p hp => N₄ p (hl₄ p hp), ho₄, hP₄⟩
      cases f with
      | ret v => exact h₃
      | brk => exact h₃
      | next => exact fin h₃
      | cont => exact fin h₃
  · have hin : i = n := by omega
    subst hin
    refine W.done _ _ _ hst fun h₁ tk₁ hk₁ => wpAny_execs_nil ?_
    exact done d h₁ tk₁ hP (LCg.fr_but F' hk₁ hIL hI₀) (LCg.news_but N' hk₁ hne)

/-- comprehensions over a range by any step -/
theorem step_st {I : Addr} {a c : Int} {n : Nat} : ∀ i (h h' : Heap) (o : Obj) (nw : List (Addr × Obj)), IsRangeIter h I (a + (i : Nat) * c) ((n : Int) - (i : Nat)) c → h.get? I = some o → h'.get? I = some o → (∀ b o, h₀.get? b = some o → h'.get? b = some o) → News h₀ L h' nw → True → IsRangeIter h' I (a + (i : Nat) * c) ((n : Int) - (i : Nat)) c :=
  fun i h h' o nw st e e' _ _ _ => by
    have st' : h.get? I = some _ := st
    show h'.get? I = some _
    rw [e', ← e]; exact st'
def RSrc (prog : Program) (w : World) (A : Around) (h₀ : Heap) (L : Addr) (m : Str → Option Value) (env : Env) (elt : Expr) (x : Str) (scope : Scope) (cl : List (Str × Addr)) (Fin : Shared → List Value → List (Addr × Obj) → Prop) (xv : Value) (s₁ : Shared) : Prop :=
  ∃ r a b c t u v n news, xv = .ref r ∧ A.handled = none ∧ Fr h₀ L s₁.heap m ∧ News h₀ L s₁.heap news ∧ IsRange s₁.heap r a b c t u v ∧ Builtin.Range.small a b c = true ∧ Builtin.Range.rangeSize a b c = ((n : Nat) : Int) ∧ n ≤ sizeLine ∧
    ∀ s₂ : Shared, (∃ h, s₂ = { s₁ with heap := h }) → LCg.CompRest prog w A h₀ L m env elt x scope cl s₂ (fun _ => True) (fun i v => ∃ t, v = .int (a + (i : Int) * c) t) (Fin s₂) n 0 [] news
theorem RSrc.intro {elt : Expr} {x : Str} {scope : Scope} {cl : List (Str × Addr)} {Fin : Shared → List Value → List (Addr × Obj) → Prop} {r : Addr} {a b c : Int} {t u v : Tok} {n : Nat} {news : List (Addr × Obj)} {s₁ : Shared}
    (hh : A.handled = none) (F : Fr h₀ L s₁.heap m) (N : News h₀ L s₁.heap news) (hr : IsRange s₁.heap r a b c t u v) (hsm : Builtin.Range.small a b c = true) (hn : Builtin.Range.rangeSize a b c = ((n : Nat) : Int)) (hsz : n ≤ sizeLine)
    (h : ∀ g, LCg.CompRest prog w A h₀ L m env elt x scope cl { s₁ with heap := g } (fun _ => True) (fun i v => ∃ t, v = .int (a + (i : Int) * c) t) (Fin { s₁ with heap := g }) n 0 [] news) :
    RSrc prog w A h₀ L m env elt x scope cl Fin (.ref r) s₁ := ⟨r, a, b, c, t, u, v, n, news, rfl, hh, F, N, hr, hsm, hn, hsz, fun _ ⟨g, e⟩ => e ▸ h g⟩
theorem ListComp_R {elt iter : Expr} {x : Str} {px : Pos} {scope : Scope} {cl : List (Str × Addr)} {pos : Pos} {Q : Value → Shared → Prop} (F₀ : Fr h₀ L s.heap m)
    (hclos : closureFor scope env = pure cl) (hcell : ∀ y ∈ scope.names, y.2 ≠ .cell) (hkind : scope.kind = .function)
    (hnames : ∀ y ∈ scope.names, y.2 = .local → scope.names.lookup y.1 = some .local) (hx : scope.names.lookup x = some .local)
    (h : wpAny (model prog w) A (eval iter env) (RSrc prog w A h₀ L m env elt x scope cl (fun s₂ => LCg.FinE h₀ L m s₂ Q)) E s)
    (hs : ∀ x, foldedSetIterable iter env x = pure x := by intro _; rfl) :
    wpAny (model prog w) A (eval (.ListComp elt [⟨.Name x px, iter, [], 0⟩] scope pos) env) Q E s := by
  rw [eval_ListComp]
  refine wpAny_comprehension_free (use := none) rfl hs hclos hkind hnames (wpAny_mono h (fun xv s₁ h₁ => ?_) fun _ _ e => e)
  obtain ⟨r, a, b, c, t, u, v, n, news, rfl, hh, F, N, hr, hsm, hn, hsz, R⟩ := h₁
  refine wpAny_pyIter_range hr hsm ?_
  refine LCg.block_U (Walks.range hh _ a c n) hsz (fun i h st => ⟨_, st⟩) step_st hcell hkind hx (by show IsRangeIter _ _ _ _ _; rw [hn]; simpa using Heap.get?_push_size _ rfl) (fun b hb => ?_)
    (F.keeps fun _ _ e => Heap.get?_push_of_some _ e) (N.grown fun _ _ e => Heap.get?_push_of_some _ e) (Nat.ne_of_lt F.ns.lt) (next_is_new F) (fun p hp => Nat.ne_of_lt (Heap.lt_size (N p hp).1)) trivial (R _ ⟨_, rfl⟩) ?_
  · rw [List.mem_singleton.mp hb]
    show s₁.heap.objs.size < (s₁.heap.push _).objs.size
    rw [Heap.size_push]; exact Nat.lt_succ_self _
  · intro D C h tk m' ys news' F' N' o1 hn hC₀ hD₀ hCL hDL hCD offC fin
    refine ⟨m', hn, fun h'' hs'' => fin D h'' tk (F'.change hs'' hCL hC₀) (fun p hp => ?_) o1⟩
    refine ⟨hs''.extBut _ _ ?_ (N' p hp).1, (N' p hp).2⟩
    rcases List.mem_cons.mp hp with rfl | hp
    · exact Ne.symm hCD
    · exact offC p hp

/-- with one test -/
def RSrcT (prog : Program) (w : World) (A : Around) (h₀ : Heap) (L : Addr) (m : Str → Option Value) (env : Env) (ct elt : Expr) (x : Str) (scope : Scope) (cl : List (Str × Addr)) (Fin : Shared → List Value → List (Addr × Obj) → Prop) (xv : Value) (s₁ : Shared) : Prop :=
  ∃ r a b c t u v n news, xv = .ref r ∧ A.handled = none ∧ Fr h₀ L s₁.heap m ∧ News h₀ L s₁.heap news ∧ IsRange s₁.heap r a b c t u v ∧ Builtin.Range.small a b c = true ∧ Builtin.Range.rangeSize a b c = ((n : Nat) : Int) ∧ n ≤ sizeLine ∧
    ∀ s₂ : Shared, (∃ h, s₂ = { s₁ with heap := h }) → LCt.CompRestT prog w A h₀ L m env ct elt x scope cl s₂ (fun _ => True) (fun i v => ∃ t, v = .int (a + (i : Int) * c) t) (Fin s₂) n 0 [] news
theorem RSrcT.intro {ct elt : Expr} {x : Str} {scope : Scope} {cl : List (Str × Addr)} {Fin : Shared → List Value → List (Addr × Obj) → Prop} {r : Addr} {a b c : Int} {t u v : Tok} {n : Nat} {news : List (Addr × Obj)} {s₁ : Shared}
    (hh : A.handled = none) (F : Fr h₀ L s₁.heap m) (N : News h₀ L s₁.heap news) (hr : IsRange s₁.heap r a b c t u v) (hsm : Builtin.Range.small a b c = true) (hn : Builtin.Range.rangeSize a b c = ((n : Nat) : Int)) (hsz : n ≤ sizeLine)
    (h : ∀ g, LCt.CompRestT prog w A h₀ L m env ct elt x scope cl { s₁ with heap := g } (fun _ => True) (fun i v => ∃ t, v = .int (a + (i : Int) * c) t) (Fin { s₁ with heap := g }) n 0 [] news) :
    RSrcT prog w A h₀ L m env ct elt x scope cl Fin (.ref r) s₁ := ⟨r, a, b, c, t, u, v, n, news, rfl, hh, F, N, hr, hsm, hn, hsz, fun _ ⟨g, e⟩ => e ▸ h g⟩
theorem ListComp_RT {ct elt iter : Expr} {x : Str} {px : Pos} {scope : Scope} {cl : List (Str × Addr)} {pos : Pos} {Q : Value → Shared → Prop} (F₀ : Fr h₀ L s.heap m)
    (hclos : closureFor scope env = pure cl) (hcell : ∀ y ∈ scope.names, y.2 ≠ .cell) (hkind : scope.kind = .function)
    (hnames : ∀ y ∈ scope.names, y.2 = .local → scope.names.lookup y.1 = some .local) (hx : scope.names.lookup x = some .local)
    (h : wpAny (model prog w) A (eval iter env) (RSrcT prog w A h₀ L m env ct elt x scope cl (fun s₂ => LCg.FinE h₀ L m s₂ Q)) E s)
    (hs : ∀ x, foldedSetIterable iter env x = pure x := by intro _; rfl) :
    wpAny (model prog w) A (eval (.ListComp elt [⟨.Name x px, iter, [ct], 0⟩] scope pos) env) Q E s := by
  rw [eval_ListComp]
  refine wpAny_comprehension_free (use := none) rfl hs hclos hkind hnames (wpAny_mono h (fun xv s₁ h₁ => ?_) fun _ _ e => e)
  obtain ⟨r, a, b, c, t, u, v, n, news, rfl, hh, F, N, hr, hsm, hn, hsz, R⟩ := h₁
  refine wpAny_pyIter_range hr hsm ?_
  refine LCt.block_T (Walks.range hh _ a c n) hsz (fun i h st => ⟨_, st⟩) step_st hcell hkind hx (by show IsRangeIter _ _ _ _ _; rw [hn]; simpa using Heap.get?_push_size _ rfl) (fun b hb => ?_)
    (F.keeps fun _ _ e => Heap.get?_push_of_some _ e) (N.grown fun _ _ e => Heap.get?_push_of_some _ e) (Nat.ne_of_lt F.ns.lt) (next_is_new F) (fun p hp => Nat.ne_of_lt (Heap.lt_size (N p hp).1)) trivial (R _ ⟨_, rfl⟩) ?_
  · rw [List.mem_singleton.mp hb]
    show s₁.heap.objs.size < (s₁.heap.push _).objs.size
    rw [Heap.size_push]; exact Nat.lt_succ_self _
  · intro D C h tk m' ys news' F' N' o1 hn hC₀ hD₀ hCL hDL hCD offC fin
    refine ⟨m', hn, fun h'' hs'' => fin D h'' tk (F'.change hs'' hCL hC₀) (fun p hp => ?_) o1⟩
    refine ⟨hs''.extBut _ _ ?_ (N' p hp).1, (N' p hp).2⟩
    rcases List.mem_cons.mp hp with rfl | hp
    · exact Ne.symm hCD
    · exact offC p hp

/-- the ints of a range by a step -/
def stepKs (a c : Int) (n : Nat) : List Int := (List.range n).map fun (i : Nat) => a + (i : Int) * c
theorem stepKs_length (a c : Int) (n : Nat) : (stepKs a c n).length = n := by simp [stepKs]
theorem stepKs_get (a c : Int) {n i : Nat} (h : i < n) : (stepKs a c n)[i]? = some (a + (i : Int) * c) := by simp [stepKs, h]
theorem mem_stepKs {a c k : Int} {n : Nat} (h : k ∈ stepKs a c n) : ∃ i : Nat, i < n ∧ k = a + (i : Int) * c := by
  obtain ⟨i, hi, rfl⟩ := List.mem_map.mp h
  exact ⟨i, List.mem_range.mp hi, rfl⟩

section
variable {elt ct : Expr} {x : Str} {scope : Scope} {cl : List (Str × Addr)} {S : List (Addr × Obj) → Prop} {Fin : List Value → List (Addr × Obj) → Prop} {news : List (Addr × Obj)}
theorem restU {n : Nat} {a c : Int} (g : Int → Int)
    (turn : ∀ k t I oI C oC D m₂ ys h tk (E' : Value → Shared → Prop), (∃ i : Nat, i < n ∧ k = a + (i : Int) * c) → LCg.NsObj oC m₂ → m₂ x = some (.int k t) → Fr h₀ L h m → News h₀ L h ((I, oI) :: (C, oC) :: (D, LCg.lst ys) :: news) → LCg.Off3 I C D news → ((@Ne Nat I C) ∧ (@Ne Nat I D) ∧ (@Ne Nat C D)) →
      wpAny (model prog w) A (eval elt (compEnvC scope cl C env)) (LCg.CompEnd h₀ L m { s with heap := h, toks := tk } I oI C oC D (LCg.lst ys) S (fun y news' => KCfEl news (g k) y news')) E' { s with heap := h, toks := tk })
    (fin : ∀ ys, IntsAre ys ((stepKs a c n).map g) → Fin ys news) : LCg.CompRest prog w A h₀ L m env elt x scope cl s S (fun i v => ∃ t, v = .int (a + (i : Int) * c) t) Fin n 0 [] news :=
  kcf_rest (ks := stepKs a c n) g (stepKs_length a c n) (fun i v hi hv => by
    obtain ⟨t, e⟩ := hv
    exact ⟨_, t, stepKs_get a c hi, e⟩)
    (fun k t I oI C oC D m₂ ys h tk E' hk hC hx F N off ne _ => turn k t I oI C oC D m₂ ys h tk E' (mem_stepKs hk) hC hx F N off ne) fin
def KTEl (news : List (Addr × Obj)) (b : Bool) (r : Int) (y : Value) (news' : List (Addr × Obj)) : Prop := b = true ∧ news' = news ∧ ∃ t : Tok, y = .int r t
def KTNo (news : List (Addr × Obj)) (b : Bool) (news' : List (Addr × Obj)) : Prop := b = false ∧ news' = news
theorem restT {n : Nat} {a c : Int} (p : Int → Bool) (g : Int → Int)
    (turn : ∀ k t I oI C oC D m₂ ys h tk (E' : Value → Shared → Prop), (∃ i : Nat, i < n ∧ k = a + (i : Int) * c) → LCg.NsObj oC m₂ → m₂ x = some (.int k t) → Fr h₀ L h m → News h₀ L h ((I, oI) :: (C, oC) :: (D, LCg.lst ys) :: news) → LCg.Off3 I C D news → ((@Ne Nat I C) ∧ (@Ne Nat I D) ∧ (@Ne Nat C D)) →
      wpAny (model prog w) A (isTrue ct (compEnvC scope cl C env) (eval ct (compEnvC scope cl C env))) (fun b s' => if b = true then wpAny (model prog w) A (eval elt (compEnvC scope cl C env)) (LCg.CompEnd h₀ L m { s with heap := h, toks := tk } I oI C oC D (LCg.lst ys) S (fun y news' => KTEl news (p k) (g k) y news')) E' s'
        else LCg.CompEnd h₀ L m { s with heap := h, toks := tk } I oI C oC D (LCg.lst ys) S (fun _ news' => KTNo news (p k) news') Value.none s') E' { s with heap := h, toks := tk })
    (fin : ∀ ys, IntsAre ys (((stepKs a c n).filter p).map g) → Fin ys news) : LCt.CompRestT prog w A h₀ L m env ct elt x scope cl s S (fun i v => ∃ t, v = .int (a + (i : Int) * c) t) Fin n 0 [] news := by
  have key : ∀ (j i : Nat) (ys : List Value), i + j = n → IntsAre ys ((((stepKs a c n).take i).filter p).map g) → LCt.CompRestT prog w A h₀ L m env ct elt x scope cl s S (fun i v => ∃ t, v = .int (a + (i : Int) * c) t) Fin j i ys news := by
    intro j
    induction j with
    | zero =>
      intro i ys hi hy
      have e : i = (stepKs a c n).length := by rw [stepKs_length]; omega
      subst e
      rw [List.take_length] at hy
      exact LCt.CompRestT.zero (fin ys hy)
    | succ j ih =>
      intro i ys hi hy
      refine LCt.CompRestT.succ ?_
      intro v I oI C oC D m₂ h tk E' hv hC hx F N off ne
      obtain ⟨t, rfl⟩ := hv
      have hs : (stepKs a c n).take (i + 1) = (stepKs a c n).take i ++ [a + (i : Int) * c] := by
        rw [List.take_add_one, stepKs_get a c (by omega)]; rfl
      refine wpAny_mono (turn _ t I oI C oC D m₂ ys h tk E' ⟨i, by omega, rfl⟩ hC hx F N off ne) (fun b s₂ hq => ?_) fun _ _ e => e
      cases b with
      | true =>
        simp only [if_true] at hq ⊢
        refine wpAny_mono hq (fun y s₃ hr => ?_) fun _ _ e => e
        obtain ⟨h', tk', nw, e, F', N', off', hS, hb, hn, t', hy'⟩ := hr
        rw [hn] at N' off' hS
        refine ⟨h', tk', news, e, F', N', off', hS, ?_⟩
        rw [hy']
        refine ih (i + 1) _ (by omega) ?_
        rw [hs, List.filter_append, List.map_append]
        simp only [List.filter_cons, hb, if_true, List.filter_nil, List.map_cons, List.map_nil]
        exact IntsAre.append hy (.cons _ t' .nil)
      | false =>
        simp only [Bool.false_eq_true, if_false] at hq ⊢
        obtain ⟨h', tk', nw, e, F', N', off', hS, hb, hn⟩ := hq
        rw [hn] at N' off' hS
        refine ⟨h', tk', news, e, F', N', off', hS, ih (i + 1) _ (by omega) ?_⟩
        rw [hs, List.filter_append, List.map_append]
        simp only [List.filter_cons, hb, Bool.false_eq_true, if_false, List.filter_nil, List.map_nil, List.append_nil]
        exact hy
  exact key n 0 [] (by omega) (by simp only [List.take_zero, List.filter_nil, List.map_nil]; exact .nil)
theorem ctEl {I C D : Addr} {s₁ : Shared} {oI oC oD : Obj} {b : Bool} {r : Int} {t : Tok} {h' : Heap} {tk : Nat} {all : List (Addr × Obj)} (F : Fr h₀ L h' m) (N : News h₀ L h' all) (sub : ∀ p ∈ (I, oI) :: (C, oC) :: (D, oD) :: news, p ∈ all)
    (off : LCg.Off3 I C D news) (hS : S news) (hb : b = true) : LCg.CompEnd h₀ L m s₁ I oI C oC D oD S (fun y news' => KTEl news b r y news') (.int r t) { s₁ with heap := h', toks := tk } :=
  LCg.CompEnd.intro F N news sub off hS ⟨hb, rfl, t, rfl⟩
theorem ctNo {I C D : Addr} {s₁ : Shared} {oI oC oD : Obj} {b : Bool} {y : Value} {h' : Heap} {tk : Nat} {all : List (Addr × Obj)} (F : Fr h₀ L h' m) (N : News h₀ L h' all) (sub : ∀ p ∈ (I, oI) :: (C, oC) :: (D, oD) :: news, p ∈ all)
    (off : LCg.Off3 I C D news) (hS : S news) (hb : b = false) : LCg.CompEnd h₀ L m s₁ I oI C oC D oD S (fun _ news' => KTNo news b news') y { s₁ with heap := h', toks := tk } :=
  LCg.CompEnd.intro F N news sub off hS ⟨hb, rfl⟩
end
end
theorem and_tt {A B : Prop} [Decidable A] [Decidable B] (h1 : A) (h2 : B) : (decide A && decide B) = true := by simp [h1, h2]
theorem and_ft {A B : Prop} [Decidable A] [Decidable B] (h1 : ¬ A) : (decide A && decide B) = false := by simp [h1]
theorem and_tf {A B : Prop} [Decidable A] [Decidable B] (h2 : ¬ B) : (decide A && decide B) = false := by simp [h2]
end Mine
end
section
namespace Mine
set_option maxRecDepth 100000
set_option maxHeartbeats 4000000
def kwM (stored : List Str) (m u : Str → Option Value) : Str → Option Value := fun z => if stored.contains z then u z else m z
theorem kwM_self {stored : List Str} {m m' : Str → Option Value} (h : ∀ z, stored.contains z = false → m' z = m z) : ∀ z, m' z = kwM stored m m' z := by
  intro z
  unfold kwM
  cases e : stored.contains z with
  | true => simp
  | false => simpa using h z e
def kwMI (y : Str) (a : Int) (t : Tok) (stored : List Str) (m u : Str → Option Value) : Str → Option Value := fun z => if z = y then some (.int a t) else if stored.contains z then u z else m z
theorem kwMI_self {y : Str} {a : Int} {t : Tok} {stored : List Str} {m m' : Str → Option Value} (hy : m' y = some (.int a t)) (h : ∀ z, z ≠ y → stored.contains z = false → m' z = m z) : ∀ z, m' z = kwMI y a t stored m m' z := by
  intro z
  unfold kwMI
  by_cases e : z = y
  · rw [if_pos e, e, hy]
  · rw [if_neg e]
    cases e' : stored.contains z with
    | true => simp
    | false => simpa using h z e e'
section
variable {prog : Program} {w : World} {A : Around} {E : Value → Shared → Prop} {s : Shared} {h₀ : Heap} {L : Addr} {m : Str → Option Value} {env : Env}

/-- one int name, the ledger stays -/
def FEndI (h₀ : Heap) (L : Addr) (I : Addr) (oI : Obj) (y : Str) (stored : List Str) (m : Str → Option Value) (news : List (Addr × Obj)) (P : Int → Prop) (s₁ s₂ : Shared) : Prop :=
  ∃ (a : Int) (t : Tok) (h' : Heap) (tk' : Nat) (m' : Str → Option Value) (news' : List (Addr × Obj)), s₂ = { s₁ with heap := h', toks := tk' } ∧ Fr h₀ L h' m' ∧ m' y = some (.int a t) ∧ (∀ z, z ≠ y → stored.contains z = false → m' z = m z) ∧ News h₀ L h' news' ∧ (∀ p ∈ (I, oI) :: news, p ∈ news') ∧ P a
theorem FEndI.intro {I : Addr} {oI : Obj} {y : Str} {stored : List Str} {news : List (Addr × Obj)} {P : Int → Prop} {s₁ : Shared} {a : Int} {t : Tok} {h' : Heap} {tk' : Nat} {m' : Str → Option Value} {news' : List (Addr × Obj)}
    (F : Fr h₀ L h' m') (N : News h₀ L h' news') (hy : m' y = some (.int a t)) (hm : ∀ z, z ≠ y → stored.contains z = false → m' z = m z) (hl : ∀ p ∈ (I, oI) :: news, p ∈ news') (hp : P a) :
    FEndI h₀ L I oI y stored m news P s₁ { s₁ with heap := h', toks := tk' } := ⟨a, t, h', tk', m', news', rfl, F, hy, hm, N, hl, hp⟩
def FPostI (h₀ : Heap) (L : Addr) (I : Addr) (oI : Obj) (y : Str) (stored : List Str) (m : Str → Option Value) (news : List (Addr × Obj)) (P : Int → Prop) (Q : Flow → Shared → Prop) (s₁ : Shared) (f : Flow) (s₂ : Shared) : Prop :=
  match f with
  | .ret v => Q (.ret v) s₂
  | .brk => Q .next s₂
  | _ => FEndI h₀ L I oI y stored m news P s₁ s₂
theorem ForSrc.rangeI {x : Str} {px : Pos} {body : List Stmt} {Q : Flow → Shared → Prop} {news : List (Addr × Obj)} {r : Addr} {a b c : Int} {t u v : Tok} {n : Nat} (y : Str) (stored : List Str) (P : Nat → Int → Prop) {a₀ : Int} {t₀ : Tok}
    (hh : A.handled = none) (F : Fr h₀ L s.heap m) (N : News h₀ L s.heap news) (hr : IsRange s.heap r a b c t u v) (hsm : Builtin.Range.small a b c = true) (hn : Builtin.Range.rangeSize a b c = (n : Int))
    (hy : m y = some (.int a₀ t₀)) (h0 : P 0 a₀)
    (turn : ∀ (i : Nat) (d : Int) (td : Tok) (u' : Str → Option Value) t h tk I, i < n → P i d → (∀ p ∈ news, @Ne Nat p.1 I) → Fr h₀ L h (kwMI y d td stored m u') → News h₀ L h ((I, krsIt (a + ((i + 1 : Nat) : Int) * c) ((n : Int) - ((i + 1 : Nat) : Int)) c) :: news) →
      wpAny (model prog w) A (assign (.Name x px) env (.int (a + (i : Int) * c) t)) (fun _ s' => wpAny (model prog w) A (execs body env) (FPostI h₀ L I (krsIt (a + ((i + 1 : Nat) : Int) * c) ((n : Int) - ((i + 1 : Nat) : Int)) c) y stored m news (P (i + 1)) Q { s with heap := h, toks := tk }) E s') E { s with heap := h, toks := tk })
    (done : ∀ (d : Int) (td : Tok) (u' : Str → Option Value) h tk, P n d → Fr h₀ L h (kwMI y d td stored m u') → News h₀ L h news → Q .next { s with heap := h, toks := tk })
    (hE : PassesOwn (model prog w) A env E) : ForSrc prog w A E env x px body Q (.ref r) s := by
  refine ForSrc.range (σ := Int × Tok × (Str → Option Value)) hh F N hr hsm hn (fun d => kwMI y d.1 d.2.1 stored m d.2.2) (fun _ => news) (fun i d => P i d.1) (a₀, t₀, m) (kwMI_self hy fun _ _ _ => rfl) (fun _ hp => hp) h0 ?_ (fun d h tk hp F' N' => done d.1 d.2.1 d.2.2 h tk hp F' N') hE
  intro i d t h tk I hi hp ho F' N'
  refine wpAny_mono (turn i d.1 d.2.1 d.2.2 t h tk I hi hp ho F' N') (fun _ s₂ h₂ => wpAny_mono h₂ (fun f s₃ h₃ => ?_) fun _ _ e => e) fun _ _ e => e
  have fin : FEndI h₀ L I (krsIt (a + ((i + 1 : Nat) : Int) * c) ((n : Int) - ((i + 1 : Nat) : Int)) c) y stored m news (P (i + 1)) { s with heap := h, toks := tk } s₃ →
      FEnd h₀ L I (krsIt (a + ((i + 1 : Nat) : Int) * c) ((n : Int) - ((i + 1 : Nat) : Int)) c) (fun d : Int × Tok × (Str → Option Value) => kwMI y d.1 d.2.1 stored m d.2.2) (fun _ => news) (fun d => P (i + 1) d.1) { s with heap := h, toks := tk } s₃ := by
    rintro ⟨a', t', h', tk', m', news', rfl, F₄, hy', hm', N₄, hl₄, hp₄⟩
    exact FEnd.intro (a', t', m') F₄ N₄ (kwMI_self hy' hm') (hl₄ _ List.mem_cons_self) (fun p hp => hl₄ p (List.mem_cons_of_mem _ hp)) ho hp₄
  cases f with
  | ret v => exact h₃
  | brk => exact h₃
  | next => exact fin h₃
  | cont => exact fin h₃

/-- a target that is a cell; a list of ints that grows at the ledger's head -/
def FEndW (h₀ : Heap) (L : Addr) (I : Addr) (oI : Obj) (stored : List Str) (m : Str → Option Value) (l : Addr) (g : Obj → List (Addr × Obj)) (P : List Int → Prop) (s₁ s₂ : Shared) : Prop :=
  ∃ (vs : List Value) (ns : List Int) (k : Nat) (oN : Obj) (v : Option Value) (h' : Heap) (tk' : Nat) (m' : Str → Option Value) (news' : List (Addr × Obj)), s₂ = { s₁ with heap := h', toks := tk' } ∧ Fr h₀ L h' m' ∧ (∀ z, stored.contains z = false → m' z = m z) ∧ News h₀ L h' news' ∧ (∀ p ∈ (I, oI) :: (l, listOf vs.toArray k) :: g oN, p ∈ news') ∧ IntsAre vs ns ∧ oN.data = .cell v ∧ P ns
theorem FEndW.intro {I : Addr} {oI : Obj} {stored : List Str} {l : Addr} {g : Obj → List (Addr × Obj)} {P : List Int → Prop} {s₁ : Shared} {vs : List Value} {ns : List Int} {k : Nat} {oN : Obj} {v : Option Value} {h' : Heap} {tk' : Nat} {m' : Str → Option Value} {news' : List (Addr × Obj)}
    (F : Fr h₀ L h' m') (N : News h₀ L h' news') (hi : IntsAre vs ns) (hd : oN.data = .cell v) (hm : ∀ z, stored.contains z = false → m' z = m z) (hl : ∀ p ∈ (I, oI) :: (l, listOf vs.toArray k) :: g oN, p ∈ news') (hp : P ns) :
    FEndW h₀ L I oI stored m l g P s₁ { s₁ with heap := h', toks := tk' } := ⟨vs, ns, k, oN, v, h', tk', m', news', rfl, F, hm, N, hl, hi, hd, hp⟩
def FPostW (h₀ : Heap) (L : Addr) (I : Addr) (oI : Obj) (stored : List Str) (m : Str → Option Value) (l : Addr) (g : Obj → List (Addr × Obj)) (P : List Int → Prop) (Q : Flow → Shared → Prop) (s₁ : Shared) (f : Flow) (s₂ : Shared) : Prop :=
  match f with
  | .ret v => Q (.ret v) s₂
  | .brk => Q .next s₂
  | _ => FEndW h₀ L I oI stored m l g P s₁ s₂
structure WSt where
  vs : List Value
  ns : List Int
  k : Nat
  oN : Obj
  v : Option Value
  u : Str → Option Value
theorem upd_off {c : Addr} {o o' : Obj} {news : List (Addr × Obj)} {g : Obj → List (Addr × Obj)} {I : Nat} (U : UpdF c o news g) (ho : ∀ p ∈ news, @Ne Nat p.1 I) : ∀ p ∈ g o', @Ne Nat p.1 I := by
  obtain ⟨pre, post, rfl, hg, _, _⟩ := U.split
  rw [hg]
  intro p hp
  rcases List.mem_append.mp hp with h | h
  · exact ho p (List.mem_append.mpr (.inl h))
  · rcases List.mem_cons.mp h with rfl | h
    · exact ho (c, o) (List.mem_append.mpr (.inr (.head _)))
    · exact ho p (List.mem_append.mpr (.inr (.tail _ h)))
theorem upd_off' {c : Addr} {o o' : Obj} {news : List (Addr × Obj)} {g : Obj → List (Addr × Obj)} {I : Nat} (U : UpdF c o news g) (ho : ∀ p ∈ g o', @Ne Nat p.1 I) : ∀ p ∈ news, @Ne Nat p.1 I := by
  obtain ⟨pre, post, rfl, hg, _, _⟩ := U.split
  rw [hg] at ho
  intro p hp
  rcases List.mem_append.mp hp with h | h
  · exact ho p (List.mem_append.mpr (.inl h))
  · rcases List.mem_cons.mp h with rfl | h
    · exact ho (c, o') (List.mem_append.mpr (.inr (.head _)))
    · exact ho p (List.mem_append.mpr (.inr (.tail _ h)))
theorem upd_same {c : Addr} {o : Obj} {news : List (Addr × Obj)} {g : Obj → List (Addr × Obj)} (U : UpdF c o news g) : g o = news := by
  obtain ⟨pre, post, rfl, hg, _, _⟩ := U.split
  exact hg o
theorem ForSrc.rangeW {x : Str} {px : Pos} {body : List Stmt} {Q : Flow → Shared → Prop} {news : List (Addr × Obj)} {r : Addr} {a b c : Int} {t u v : Tok} {n : Nat} (stored : List Str) (P : Nat → List Int → Prop)
    {l ac : Addr} {o : Obj} {g : Obj → List (Addr × Obj)} {v₀ : Option Value} {vs₀ : List Value} {ns₀ : List Int} {k₀ : Nat}
    (hh : A.handled = none) (F : Fr h₀ L s.heap m) (N : News h₀ L s.heap ((l, listOf vs₀.toArray k₀) :: news)) (hr : IsRange s.heap r a b c t u v) (hsm : Builtin.Range.small a b c = true) (hn : Builtin.Range.rangeSize a b c = (n : Int))
    (hc : env.cells.lookup x = some ac) (U : UpdF ac o news g) (hd : o.data = .cell v₀) (hi₀ : IntsAre vs₀ ns₀) (h0 : P 0 ns₀)
    (turn : ∀ (i : Nat) (vs : List Value) (ns : List Int) (k : Nat) (oN : Obj) (vc : Option Value) (u' : Str → Option Value) t h tk I, i < n → P i ns → IntsAre vs ns → oN.data = .cell vc → @Ne Nat l I → (∀ p ∈ news, @Ne Nat p.1 I) → Fr h₀ L h (kwM stored m u') → News h₀ L h ((I, krsIt (a + ((i + 1 : Nat) : Int) * c) ((n : Int) - ((i + 1 : Nat) : Int)) c) :: (l, listOf vs.toArray k) :: g oN) →
      wpAny (model prog w) A (assign (.Name x px) env (.int (a + (i : Int) * c) t)) (fun _ s' => wpAny (model prog w) A (execs body env) (FPostW h₀ L I (krsIt (a + ((i + 1 : Nat) : Int) * c) ((n : Int) - ((i + 1 : Nat) : Int)) c) stored m l g (P (i + 1)) Q { s with heap := h, toks := tk }) E s') E { s with heap := h, toks := tk })
    (done : ∀ (vs : List Value) (ns : List Int) (k : Nat) (oN : Obj) (vc : Option Value) (u' : Str → Option Value) h tk, P n ns → IntsAre vs ns → oN.data = .cell vc → Fr h₀ L h (kwM stored m u') → News h₀ L h ((l, listOf vs.toArray k) :: g oN) → Q .next { s with heap := h, toks := tk })
    (hE : PassesOwn (model prog w) A env E) : ForSrc prog w A E env x px body Q (.ref r) s := by
  have hsame := upd_same U
  refine ForSrc.range (σ := WSt) hh F N hr hsm hn (fun d => kwM stored m d.u) (fun d => (l, listOf d.vs.toArray d.k) :: g d.oN) (fun i d => P i d.ns ∧ IntsAre d.vs d.ns ∧ d.oN.data = .cell d.v) ⟨vs₀, ns₀, k₀, o, v₀, m⟩ (kwM_self fun _ _ => rfl) (fun p hp => by rw [hsame] at hp; exact hp) ⟨h0, hi₀, hd⟩ ?_ (fun d h tk hp F' N' => done d.vs d.ns d.k d.oN d.v d.u h tk hp.1 hp.2.1 hp.2.2 F' N') hE
  intro i d t h tk I hi hp ho F' N'
  have hoN := upd_off' U (fun p hp => ho p (List.mem_cons_of_mem _ hp))
  refine wpAny_mono (turn i d.vs d.ns d.k d.oN d.v d.u t h tk I hi hp.1 hp.2.1 hp.2.2 (ho _ List.mem_cons_self) hoN F' N') (fun _ s₂ h₂ => wpAny_mono h₂ (fun f s₃ h₃ => ?_) fun _ _ e => e) fun _ _ e => e
  have fin : FEndW h₀ L I (krsIt (a + ((i + 1 : Nat) : Int) * c) ((n : Int) - ((i + 1 : Nat) : Int)) c) stored m l g (P (i + 1)) { s with heap := h, toks := tk } s₃ →
      FEnd h₀ L I (krsIt (a + ((i + 1 : Nat) : Int) * c) ((n : Int) - ((i + 1 : Nat) : Int)) c) (fun d : WSt => kwM stored m d.u) (fun d => (l, listOf d.vs.toArray d.k) :: g d.oN) (fun d => P (i + 1) d.ns ∧ IntsAre d.vs d.ns ∧ d.oN.data = .cell d.v) { s with heap := h, toks := tk } s₃ := by
    rintro ⟨vs', ns', k', oN', v', h', tk', m', news', rfl, F₄, hm', N₄, hl₄, hi₄, hd₄, hp₄⟩
    refine FEnd.intro ⟨vs', ns', k', oN', v', m'⟩ F₄ N₄ (kwM_self hm') (hl₄ _ List.mem_cons_self) (fun p hp => hl₄ p (List.mem_cons_of_mem _ hp)) (fun p hp => ?_) ⟨hp₄, hi₄, hd₄⟩
    rcases List.mem_cons.mp hp with rfl | hp
    · exact ho (l, listOf d.vs.toArray d.k) List.mem_cons_self
    · exact upd_off U hoN p hp
  cases f with
  | ret v => exact h₃
  | brk => exact h₃
  | next => exact fin h₃
  | cont => exact fin h₃

/-- a target that is a cell, nothing else turns -/
def FEndC (h₀ : Heap) (L : Addr) (I : Addr) (oI : Obj) (stored : List Str) (m : Str → Option Value) (g : Obj → List (Addr × Obj)) (P : Prop) (s₁ s₂ : Shared) : Prop :=
  ∃ (oN : Obj) (v : Option Value) (h' : Heap) (tk' : Nat) (m' : Str → Option Value) (news' : List (Addr × Obj)), s₂ = { s₁ with heap := h', toks := tk' } ∧ Fr h₀ L h' m' ∧ (∀ z, stored.contains z = false → m' z = m z) ∧ News h₀ L h' news' ∧ (∀ p ∈ (I, oI) :: g oN, p ∈ news') ∧ oN.data = .cell v ∧ P
theorem FEndC.intro {I : Addr} {oI : Obj} {stored : List Str} {g : Obj → List (Addr × Obj)} {P : Prop} {s₁ : Shared} {oN : Obj} {v : Option Value} {h' : Heap} {tk' : Nat} {m' : Str → Option Value} {news' : List (Addr × Obj)}
    (F : Fr h₀ L h' m') (N : News h₀ L h' news') (hd : oN.data = .cell v) (hm : ∀ z, stored.contains z = false → m' z = m z) (hl : ∀ p ∈ (I, oI) :: g oN, p ∈ news') (hp : P) :
    FEndC h₀ L I oI stored m g P s₁ { s₁ with heap := h', toks := tk' } := ⟨oN, v, h', tk', m', news', rfl, F, hm, N, hl, hd, hp⟩
def FPostC (h₀ : Heap) (L : Addr) (I : Addr) (oI : Obj) (stored : List Str) (m : Str → Option Value) (g : Obj → List (Addr × Obj)) (P : Prop) (Q : Flow → Shared → Prop) (s₁ : Shared) (f : Flow) (s₂ : Shared) : Prop :=
  match f with
  | .ret v => Q (.ret v) s₂
  | .brk => Q .next s₂
  | _ => FEndC h₀ L I oI stored m g P s₁ s₂
theorem ForSrc.rangeC {x : Str} {px : Pos} {body : List Stmt} {Q : Flow → Shared → Prop} {news : List (Addr × Obj)} {r : Addr} {a b c : Int} {t u v : Tok} {n : Nat} (stored : List Str) (P : Nat → Prop)
    {ac : Addr} {o : Obj} {g : Obj → List (Addr × Obj)} {v₀ : Option Value}
    (hh : A.handled = none) (F : Fr h₀ L s.heap m) (N : News h₀ L s.heap news) (hr : IsRange s.heap r a b c t u v) (hsm : Builtin.Range.small a b c = true) (hn : Builtin.Range.rangeSize a b c = (n : Int))
    (hc : env.cells.lookup x = some ac) (U : UpdF ac o news g) (hd : o.data = .cell v₀) (h0 : P 0)
    (turn : ∀ (i : Nat) (oN : Obj) (vc : Option Value) (u' : Str → Option Value) t h tk I, i < n → P i → oN.data = .cell vc → (∀ p ∈ news, @Ne Nat p.1 I) → Fr h₀ L h (kwM stored m u') → News h₀ L h ((I, krsIt (a + ((i + 1 : Nat) : Int) * c) ((n : Int) - ((i + 1 : Nat) : Int)) c) :: g oN) →
      wpAny (model prog w) A (assign (.Name x px) env (.int (a + (i : Int) * c) t)) (fun _ s' => wpAny (model prog w) A (execs body env) (FPostC h₀ L I (krsIt (a + ((i + 1 : Nat) : Int) * c) ((n : Int) - ((i + 1 : Nat) : Int)) c) stored m g (P (i + 1)) Q { s with heap := h, toks := tk }) E s') E { s with heap := h, toks := tk })
    (done : ∀ (oN : Obj) (vc : Option Value) (u' : Str → Option Value) h tk, P n → oN.data = .cell vc → Fr h₀ L h (kwM stored m u') → News h₀ L h (g oN) → Q .next { s with heap := h, toks := tk })
    (hE : PassesOwn (model prog w) A env E) : ForSrc prog w A E env x px body Q (.ref r) s := by
  have hsame := upd_same U
  refine ForSrc.range (σ := Obj × Option Value × (Str → Option Value)) hh F N hr hsm hn (fun d => kwM stored m d.2.2) (fun d => g d.1) (fun i d => P i ∧ d.1.data = .cell d.2.1) (o, v₀, m) (kwM_self fun _ _ => rfl) (fun p hp => by rw [hsame] at hp; exact hp) ⟨h0, hd⟩ ?_ (fun d h tk hp F' N' => done d.1 d.2.1 d.2.2 h tk hp.1 hp.2 F' N') hE
  intro i d t h tk I hi hp ho F' N'
  have hoN := upd_off' U ho
  refine wpAny_mono (turn i d.1 d.2.1 d.2.2 t h tk I hi hp.1 hp.2 hoN F' N') (fun _ s₂ h₂ => wpAny_mono h₂ (fun f s₃ h₃ => ?_) fun _ _ e => e) fun _ _ e => e
  have fin : FEndC h₀ L I (krsIt (a + ((i + 1 : Nat) : Int) * c) ((n : Int) - ((i + 1 : Nat) : Int)) c) stored m g (P (i + 1)) { s with heap := h, toks := tk } s₃ →
      FEnd h₀ L I (krsIt (a + ((i + 1 : Nat) : Int) * c) ((n : Int) - ((i + 1 : Nat) : Int)) c) (fun d : Obj × Option Value × (Str → Option Value) => kwM stored m d.2.2) (fun d => g d.1) (fun d => P (i + 1) ∧ d.1.data = .cell d.2.1) { s with heap := h, toks := tk } s₃ := by
    rintro ⟨oN', v', h', tk', m', news', rfl, F₄, hm', N₄, hl₄, hd₄, hp₄⟩
    exact FEnd.intro (oN', v', m') F₄ N₄ (kwM_self hm') (hl₄ _ List.mem_cons_self) (fun p hp => hl₄ p (List.mem_cons_of_mem _ hp)) (upd_off U hoN) ⟨hp₄, hd₄⟩
  cases f with
  | ret v => exact h₃
  | brk => exact h₃
  | next => exact fin h₃
  | cont => exact fin h₃
end
end Mine
end
section
namespace Mine
def posR (g n : Nat) : Nat := Nat.rec 0 (fun n ih => ih + g / (4 * n + 1)) n
def negR (g n : Nat) : Nat := Nat.rec 0 (fun n ih => ih + g / (4 * n + 3)) n
def ptR (g n : Nat) : Nat := Nat.rec 0 (fun n ih => ih + (2 * sqF 5 (g - (n + 1) * (n + 1)) + 1)) n
def okR (g : Nat) : Bool := Nat.beq (2 * sqF 5 g + 1 + 2 * ptR g (sqF 5 g) + 4 * negR g ((g + 1) / 4)) (1 + 4 * posR g ((g + 3) / 4))
/-- from a on, n of them -/
noncomputable def allR (a n : Nat) : Bool := Nat.rec true (fun n ih => Bool.rec false (okR (a + n)) ih) n
theorem allR_at {a n : Nat} (h : allR a n = true) : ∀ g, a ≤ g → g < a + n → okR g = true := by
  induction n with
  | zero => intro g h1 h2; omega
  | succ n ih =>
    intro g h1 h2
    have e : allR a (n + 1) = Bool.rec false (okR (a + n)) (allR a n) := rfl
    cases e2 : allR a n with
    | false => rw [e, e2] at h; cases h
    | true =>
      rw [e, e2] at h
      by_cases hg : g = a + n
      · rw [hg]; exact h
      · exact ih e2 g h1 (by omega)
set_option maxRecDepth 100000
theorem ok0 : allR 0 250 = true := by decide +kernel
theorem ok1 : allR 250 200 = true := by decide +kernel
theorem ok2 : allR 450 150 = true := by decide +kernel
theorem ok3 : allR 600 125 = true := by decide +kernel
theorem ok4 : allR 725 100 = true := by decide +kernel
theorem ok5 : allR 825 100 = true := by decide +kernel
theorem ok6 : allR 925 75 = true := by decide +kernel
theorem ok_all {g : Nat} (h : g < 1000) : okR g = true := by
  rcases Nat.lt_or_ge g 250 with h0 | h0
  · exact allR_at ok0 g (by omega) (by omega)
  rcases Nat.lt_or_ge g 450 with h1 | h1
  · exact allR_at ok1 g (by omega) (by omega)
  rcases Nat.lt_or_ge g 600 with h2 | h2
  · exact allR_at ok2 g (by omega) (by omega)
  rcases Nat.lt_or_ge g 725 with h3 | h3
  · exact allR_at ok3 g (by omega) (by omega)
  rcases Nat.lt_or_ge g 825 with h4 | h4
  · exact allR_at ok4 g (by omega) (by omega)
  rcases Nat.lt_or_ge g 925 with h5 | h5
  · exact allR_at ok5 g (by omega) (by omega)
  · exact allR_at ok6 g (by omega) (by omega)
theorem isqN_small {n : Nat} (h : n < 1024) : isqN n = sqF 5 n := by
  have h1 := isqN_spec n
  have h2 := sqF_spec 5 n (by omega)
  generalize isqN n = a at *
  generalize sqF 5 n = b at *
  rcases Nat.lt_trichotomy a b with k | k | k
  · have := Nat.mul_le_mul (show a + 1 ≤ b from k) (show a + 1 ≤ b from k); omega
  · exact k
  · have := Nat.mul_le_mul (show b + 1 ≤ a from k) (show b + 1 ≤ a from k); omega
def evR (f : Int → Int) (s : Nat) : Int := Nat.rec (f 0) (fun s ih => ih + (f (s + 1) + f (-(s + 1)))) s
theorem range_mid (f : Int → Int) : ∀ s : Nat, ((rangeKs (-(s : Int)) (2 * s + 1)).map f).sum = evR f s
  | 0 => by
    show _ = f 0
    simp [rangeKs]
  | s + 1 => by
    have ih := range_mid f s
    have e : evR f (s + 1) = evR f s + (f (s + 1) + f (-(s + 1))) := rfl
    have h1 : List.range (2 * (s + 1) + 1) = 0 :: ((List.range (2 * s + 1)).map Nat.succ ++ [2 * s + 2]) := by
      rw [show 2 * (s + 1) + 1 = (2 * s + 2) + 1 by omega, List.range_succ_eq_map, List.range_succ, List.map_append]
      rfl
    unfold rangeKs at ih ⊢
    rw [h1]
    simp only [List.map_cons, List.map_append, List.map_map, List.map_nil, List.sum_cons, List.sum_append, List.sum_nil]
    rw [e, ← ih]
    have h2 : (List.map (f ∘ (fun (i : Nat) => -((s + 1 : Nat) : Int) + (i : Int)) ∘ Nat.succ) (List.range (2 * s + 1))) = List.map f (List.map (fun (i : Nat) => -(s : Int) + (i : Int)) (List.range (2 * s + 1))) := by
      rw [List.map_map]
      refine List.map_congr_left fun i _ => ?_
      simp only [Function.comp]
      congr 1
      omega
    rw [h2]
    simp only [List.map_map]
    have h3 : (-((s + 1 : Nat) : Int) + ((2 * s + 2 : Nat) : Int)) = (s : Int) + 1 := by omega
    have h4 : (-((s + 1 : Nat) : Int) + ((0 : Nat) : Int)) = -((s : Int) + 1) := by omega
    rw [h3, h4]
    omega
theorem pt_nat {g : Nat} (hg : g < 1000) : ∀ s : Nat, s ≤ sqF 5 g → evR (fun k => 2 * isq ((g : Int) - k * k) + 1) s = ((2 * sqF 5 g + 1 + 2 * ptR g s : Nat) : Int)
  | 0, _ => by
    show 2 * isq ((g : Int) - 0 * 0) + 1 = _
    have : isq ((g : Int) - 0 * 0) = ((sqF 5 g : Nat) : Int) := by
      rw [show (g : Int) - 0 * 0 = (g : Int) by omega]
      unfold isq
      rw [Int.toNat_natCast, isqN_small (by omega)]
    rw [this]
    show _ = ((2 * sqF 5 g + 1 + 2 * 0 : Nat) : Int)
    omega
  | s + 1, h => by
    have ih := pt_nat hg s (by omega)
    have hq := (sqF_spec 5 g (by omega)).1
    have hs : (s + 1) * (s + 1) ≤ g := Nat.le_trans (Nat.mul_le_mul h h) hq
    have e1 : evR (fun k => 2 * isq ((g : Int) - k * k) + 1) (s + 1) = evR (fun k => 2 * isq ((g : Int) - k * k) + 1) s + ((2 * isq ((g : Int) - ((s : Int) + 1) * ((s : Int) + 1)) + 1) + (2 * isq ((g : Int) - (-((s : Int) + 1)) * (-((s : Int) + 1))) + 1)) := rfl
    have e2 : ptR g (s + 1) = ptR g s + (2 * sqF 5 (g - (s + 1) * (s + 1)) + 1) := rfl
    have e3 : isq ((g : Int) - ((s : Int) + 1) * ((s : Int) + 1)) = ((sqF 5 (g - (s + 1) * (s + 1)) : Nat) : Int) := by
      have : (g : Int) - ((s : Int) + 1) * ((s : Int) + 1) = ((g - (s + 1) * (s + 1) : Nat) : Int) := by
        rw [Int.natCast_sub hs]; simp
      rw [this]
      unfold isq
      rw [Int.toNat_natCast, isqN_small (by omega)]
    have e4 : (-((s : Int) + 1)) * (-((s : Int) + 1)) = ((s : Int) + 1) * ((s : Int) + 1) := Int.neg_mul_neg _ _
    rw [e1, e2, e4, e3, ih]
    omega
theorem odd_nat (g : Nat) : ∀ n : Nat, ((stepKs 1 2 n).map (fun k => if k.fmod 4 = 1 then (g : Int).fdiv k else -((g : Int).fdiv k))).sum = (posR g ((n + 1) / 2) : Int) - (negR g (n / 2) : Int)
  | 0 => rfl
  | n + 1 => by
    have ih := odd_nat g n
    have e : stepKs 1 2 (n + 1) = stepKs 1 2 n ++ [1 + (n : Int) * 2] := by unfold stepKs; rw [List.range_succ, List.map_append]; rfl
    rw [e, List.map_append, List.sum_append, ih]
    have hd : ∀ k : Nat, (g : Int).fdiv (k : Int) = ((g / k : Nat) : Int) := fun k => by
      rw [Int.fdiv_eq_ediv_of_nonneg _ (Int.natCast_nonneg k), Int.natCast_ediv]
    have hm : ∀ k : Nat, (k : Int).fmod 4 = ((k % 4 : Nat) : Int) := fun k => by
      rw [Int.fmod_eq_emod_of_nonneg _ (by decide)]; omega
    have hk : 1 + (n : Int) * 2 = ((2 * n + 1 : Nat) : Int) := by omega
    simp only [List.map_cons, List.map_nil, List.sum_cons, List.sum_nil, hk, hd, hm]
    rcases Nat.mod_two_eq_zero_or_one n with h | h
    · obtain ⟨j, rfl⟩ : ∃ j, n = 2 * j := ⟨n / 2, by omega⟩
      have e1 : (2 * j + 1 + 1) / 2 = j + 1 := by omega
      have e2 : (2 * j + 1) / 2 = j := by omega
      have e3 : 2 * j / 2 = j := by omega
      have e4 : posR g (j + 1) = posR g j + g / (4 * j + 1) := rfl
      rw [e1, e2, e3, e4, if_pos (by omega), show 2 * (2 * j) + 1 = 4 * j + 1 by omega]
      omega
    · obtain ⟨j, rfl⟩ : ∃ j, n = 2 * j + 1 := ⟨n / 2, by omega⟩
      have e1 : (2 * j + 1 + 1 + 1) / 2 = j + 1 := by omega
      have e2 : (2 * j + 1 + 1) / 2 = j + 1 := by omega
      have e3 : (2 * j + 1) / 2 = j := by omega
      have e4 : negR g (j + 1) = negR g j + g / (4 * j + 3) := rfl
      rw [e1, e2, e3, e4, if_neg (by omega), show 2 * (2 * j + 1) + 1 = 4 * j + 3 by omega]
      omega
theorem gauss {g : Int} (h0 : 0 ≤ g) (h1 : g < 1000) : ((rangeKs (-isq g) (isq g + 1 - -isq g).toNat).map (fun k => 2 * isq (g - k * k) + 1)).sum = 1 + 4 * ((stepKs 1 2 ((g + 1) / 2).toNat).map (fun k => if k.fmod 4 = 1 then g.fdiv k else -(g.fdiv k))).sum := by
  obtain ⟨n, rfl⟩ : ∃ n : Nat, g = (n : Int) := ⟨g.toNat, by omega⟩
  have hn : n < 1000 := by omega
  have hs : isq (n : Int) = ((sqF 5 n : Nat) : Int) := by unfold isq; rw [Int.toNat_natCast, isqN_small (by omega)]
  have h2 : (((sqF 5 n : Nat) : Int) + 1 - -((sqF 5 n : Nat) : Int)).toNat = 2 * sqF 5 n + 1 := by omega
  rw [hs, h2, range_mid, pt_nat hn _ (Nat.le_refl _)]
  have h3 : (((n : Int) + 1) / 2).toNat = (n + 1) / 2 := by omega
  rw [h3, odd_nat]
  have h4 := Nat.eq_of_beq_eq_true (ok_all hn)
  have h5 : ((n + 1) / 2 + 1) / 2 = (n + 3) / 4 := by omega
  have h6 : (n + 1) / 2 / 2 = (n + 1) / 4 := by omega
  rw [h5, h6]
  omega
end Mine
end
section
namespace Mine
def contrib (n a : Int) : Int := if a * a ≤ n then (if n - a * a - isq (n - a * a) * isq (n - a * a) = 0 then (if a = 0 then 1 else 2) * (if isq (n - a * a) = 0 then 1 else 2) else 0) else 0
def innerZ (n : Int) : Nat → Int
  | 0 => 0
  | i + 1 => innerZ n i + contrib n i
def waysZ (n : Int) : Int := innerZ n 6
theorem inner_no {n : Int} {i : Nat} {a : Int} (h : a = innerZ n i) (hc : ¬ (i : Int) * (i : Int) ≤ n) : a = innerZ n (i + 1) := by
  subst h; show _ = innerZ n i + contrib n i; unfold contrib; rw [if_neg hc]; omega
theorem inner_no' {n : Int} {i : Nat} {a : Int} (h : a = innerZ n i) (hc : (i : Int) * (i : Int) ≤ n) (h2 : ¬ n - i * i - isq (n - i * i) * isq (n - i * i) = 0) : a = innerZ n (i + 1) := by
  subst h; show _ = innerZ n i + contrib n i; unfold contrib; rw [if_pos hc, if_neg h2]; omega
theorem inner_yes {n : Int} {i : Nat} {a : Int} (h : a = innerZ n i) (hc : (i : Int) * (i : Int) ≤ n) (h2 : n - i * i - isq (n - i * i) * isq (n - i * i) = 0) : a + (if (i : Int) = 0 then 1 else 2) * (if isq (n - i * i) = 0 then 1 else 2) = innerZ n (i + 1) := by
  subst h; show _ = innerZ n i + contrib n i; unfold contrib; rw [if_pos hc, if_pos h2]
theorem inner_yes2 {n : Int} {i : Nat} {a x y : Int} (h : a = innerZ n i) (hc : (i : Int) * (i : Int) ≤ n) (h2 : n - i * i - isq (n - i * i) * isq (n - i * i) = 0) (hx : x = if (i : Int) = 0 then 1 else 2) (hy : y = if isq (n - i * i) = 0 then 1 else 2) : a + x * y = innerZ n (i + 1) := by
  subst hx hy; exact inner_yes h hc h2
theorem ways_step {ns : List Int} {i : Nat} {d : Int} (h : ns = (List.range i).map (fun (j : Nat) => waysZ (j : Int))) (hd : d = innerZ (i : Int) (6 - 0 : Int).toNat) : ns ++ [d] = (List.range (i + 1)).map (fun (j : Nat) => waysZ (j : Int)) := by
  subst h hd
  rw [List.range_succ, List.map_append]
  rfl
theorem ways_size {vs : List Value} {ns : List Int} {i : Nat} {sm : Int} (hvs : IntsAre vs ns) (h : ns = (List.range i).map (fun (j : Nat) => waysZ (j : Int))) (hi : i < (sm + 1 - 0).toNat) (hs : sm < 31) : vs.toArray.size ≤ sizeLine := by
  rw [PySem.sizeLine_eq, List.size_toArray, hvs.length, h, List.length_map, List.length_range]
  omega
theorem ways_len {ns : List Int} {sm : Int} (h : ns = (List.range (sm + 1 - 0).toNat).map (fun (j : Nat) => waysZ (j : Int))) (hs : 1 ≤ sm) : (ns.length : Int) = sm + 1 := by
  rw [h, List.length_map, List.length_range]; omega
theorem ways_at {ns : List Int} {sm k : Int} (h : ns = (List.range (sm + 1 - 0).toNat).map (fun (j : Nat) => waysZ (j : Int))) (h0 : 0 ≤ k) (h1 : k ≤ sm) : ns.getD k.toNat 0 = waysZ k := by
  subst h
  have hk : k.toNat < (sm + 1 - 0).toNat := by omega
  rw [List.getD_eq_getElem?_getD, List.getElem?_map, List.getElem?_range hk]
  show waysZ (k.toNat : Int) = waysZ k
  rw [Int.toNat_of_nonneg h0]
theorem ways_zero {ns : List Int} {sm : Int} (h : ns = (List.range (sm + 1 - 0).toNat).map (fun (j : Nat) => waysZ (j : Int))) (hs : 1 ≤ sm) : ns.getD (0 : Int).toNat 0 = 1 := by
  rw [ways_at h (by omega) (by omega)]; decide +kernel
theorem contrib_bd (n a : Int) : 0 ≤ contrib n a ∧ contrib n a ≤ 4 := by
  unfold contrib
  repeat' split
  all_goals omega
theorem inner_bd (n : Int) : ∀ i, 0 ≤ innerZ n i ∧ innerZ n i ≤ 4 * (i : Int)
  | 0 => by simp [innerZ]
  | i + 1 => by
    have h1 := inner_bd n i
    have h2 := contrib_bd n i
    show 0 ≤ innerZ n i + contrib n i ∧ innerZ n i + contrib n i ≤ _
    omega
theorem ways_bd {ns : List Int} {sm : Int} (h : ns = (List.range (sm + 1 - 0).toNat).map (fun (j : Nat) => waysZ (j : Int))) (k : Nat) : (ns.getD k 0).natAbs ≤ 24 := by
  subst h
  rw [List.getD_eq_getElem?_getD, List.getElem?_map]
  cases (List.range (sm + 1 - 0).toNat)[k]? with
  | none => decide
  | some j =>
    show (waysZ j).natAbs ≤ 24
    have := inner_bd j 6
    unfold waysZ
    omega
theorem ways_mulok {ns : List Int} {sm : Int} {a b : Nat} (h : ns = (List.range (sm + 1 - 0).toNat).map (fun (j : Nat) => waysZ (j : Int))) : IntMulOk (ns.getD a 0) (ns.getD b 0) := by
  have h1 := ways_bd h a
  have h2 := ways_bd h b
  exact IntMulOk.of_le (intBits_le_64 (by omega) (by omega)) (intBits_le_64 (by omega) (by omega)) (by decide)
def wayT : List Int := [1, 4, 4, 0, 4, 8, 0, 0, 4, 4, 8, 0, 0, 8, 0, 0, 4, 8, 4, 0, 8, 0, 0, 0, 0, 12, 8, 0, 0, 8, 0]
theorem wayT_ok : ∀ j : Nat, j < 31 → waysZ (j : Int) = wayT.getD j 0 := by decide +kernel
theorem ways_tab {ns : List Int} {sm k : Int} (h : ns = (List.range (sm + 1 - 0).toNat).map (fun (j : Nat) => waysZ (j : Int))) (h0 : 0 ≤ k) (h1 : k ≤ sm) (hs : sm < 31) : ns.getD k.toNat 0 = wayT.getD k.toNat 0 := by
  rw [ways_at h h0 h1, ← wayT_ok k.toNat (by omega), Int.toNat_of_nonneg h0]
theorem div_all : ∀ i : Nat, i < 30 → wayT.getD (1 + (i : Int)).toNat 0 = 4 * (((stepKs 1 2 (((1 + (i : Int)) + 1) / 2).toNat).filter (fun k => decide ((1 + (i : Int)).fmod k = 0))).map (fun k => 2 - k.fmod 4)).sum := by decide +kernel
theorem jac_all : ∀ s : Nat, s < 31 → 1 ≤ s → ((rangeKs 0 ((s : Int) + 1 - 0).toNat).map (fun k => wayT.getD k.toNat 0 * wayT.getD ((s : Int) - k).toNat 0)).sum = 8 * (((stepKs 1 1 ((s : Int) + 1 - 1).toNat).filter (fun k => decide ((s : Int).fmod k = 0) && decide (k.fmod 4 > 0))).map (fun k => k)).sum := by decide +kernel
theorem ways_div {ns : List Int} {sm : Int} {i : Nat} (h : ns = (List.range (sm + 1 - 0).toNat).map (fun (j : Nat) => waysZ (j : Int))) (hi : i < (sm + 1 - 1).toNat) (hs : sm < 31) :
    ns.getD (1 + (i : Int)).toNat 0 = 4 * (((stepKs 1 2 (((1 + (i : Int)) + 1) / 2).toNat).filter (fun k => decide ((1 + (i : Int)).fmod k = 0))).map (fun k => 2 - k.fmod 4)).sum := by
  rw [ways_tab h (by omega) (by omega) hs]
  exact div_all i (by omega)
theorem jacobi {ns : List Int} {sm : Int} (h : ns = (List.range (sm + 1 - 0).toNat).map (fun (j : Nat) => waysZ (j : Int))) (hs0 : 1 ≤ sm) (hs : sm < 31) :
    ((rangeKs 0 (sm + 1 - 0).toNat).map (fun k => ns.getD k.toNat 0 * ns.getD (sm - k).toNat 0)).sum = 8 * (((stepKs 1 1 (sm + 1 - 1).toNat).filter (fun k => decide (sm.fmod k = 0) && decide (k.fmod 4 > 0))).map (fun k => k)).sum := by
  have e : (rangeKs 0 (sm + 1 - 0).toNat).map (fun k => ns.getD k.toNat 0 * ns.getD (sm - k).toNat 0) = (rangeKs 0 (sm + 1 - 0).toNat).map (fun k => wayT.getD k.toNat 0 * wayT.getD (sm - k).toNat 0) := by
    refine List.map_congr_left fun k hk => ?_
    obtain ⟨k0, k1⟩ := mem_rangeKs hk
    rw [ways_tab h (by omega) (by omega) hs, ways_tab h (by omega) (by omega) hs]
  rw [e]
  obtain ⟨n, rfl⟩ : ∃ n : Nat, sm = (n : Int) := ⟨sm.toNat, by omega⟩
  exact jac_all n (by omega) (by omega)
end Mine
end
namespace Mine
set_option maxRecDepth 100000 in
set_option maxHeartbeats 8000000 in
open_top hd2 for PySem.Challenge.rw_aw5005_02
end Mine

section
namespace Mine
set_option maxRecDepth 100000
set_option maxHeartbeats 8000000
abbrev tupO (vs : List Value) : Obj := { cls := .type "tuple", data := .seq vs.toArray }

abbrev isqsC2 (w : World) (mean : ExcName → Option Value) (mg mb : Str → Option Value) : Prop := ∀ (x : Int) (t : Tok) (news : List (Addr × Obj)),
   CbClaim PySem.Challenge.rw_aw5005_02.row.prog w (hd2.heap_39 w.params) hd2.view_39 (looseW hd2.view_39 []) mean mg mb 21 news [] (0 ≤ x ∧ Builtin.Int.intBits x ≤ 2000) [.int x t] (fun t => .int (isq x) t)
section
local macro_rules | `(tactic| walk_at "binaryOp LShift int int") => `(tactic| ((with_reducible refine lshift_int_small ?k1 ?k2 ?k3 ?_); (case k1 => exact sh0 _); (case k2 => exact sh1 (by assumption)); (case k3 => decide)))
local macro_rules | `(tactic| walk_at "binaryOp FloorDiv int int") => `(tactic| ((refine floordiv_int ?k1 ?_ (Or.inl (PyProof.noPylong_of_log2 ?k2))); (case k1 => exact NewtP.ne (by assumption)); (case k2 => exact NewtP.log (by assumption))))
theorem isqs2 (w : World) (mean : ExcName → Option Value) (mg mb : Str → Option Value) : isqsC2 w mean mg mb := by
  intro x t news
  k_fill
  dsimp only [CbClaim, CbLists, CbRet]
  intros
  rename_i hpre _ _ hret
  refine wpAny_call ?_
  k_dflt cell_enter
  k_with "exec While Constant cons nil" => k_while_given ["x"] (fun x script r => NewtP x r) (fun x script r => r.toNat) "r"
  k_with "state" => first | exact newt0 (by assumption) | exact newt1 (by assumption) (by assumption) (by assumption) (by assumption)
  k_with "measure" => exact newt3 (by assumption) (by assumption)
  k_steps
  · exact cb_retI hret (newt2 (by assumption) (by assumption)).symm (by assumption) (by assumption)
  · exact cb_retI hret (newtz (by assumption)).symm (by assumption) (by assumption)
end
abbrev SqC2 (w : World) (mean : ExcName → Option Value) (mg mb : Str → Option Value) (f : Addr) : Prop :=
  ∀ (x : Int) (t : Tok) (news : List (Addr × Obj)) (dp un : Nat) (gd : Option (List Code)) (cn : Str) (cs : Scope) (a : Addr) (ccd : Value) (cl : List (Str × Addr)) (outer : List Env) (A₀ : Around) (base h₀ : Heap) (L : Addr) (m : Str → Option Value) (s : Shared) (Q E : Value → Shared → Prop),
    Below A₀ base outer h₀ → Fr h₀ L s.heap m → (hd2.heap_39 w.params).In h₀ → News h₀ L s.heap news → Top hd2.view_39 (looseW hd2.view_39 []) mean mg mb h₀ → cs.kind = .function → (0 ≤ x ∧ Builtin.Int.intBits x ≤ 2000) →
      dp + 2 < recursionLimit → un + 16 < cLine →
      (∀ (D : Addr) (t1 t2 : Tok) (h' : Heap) (tk' : Nat), Fr h₀ L h' m → News h₀ L h' ((D, tupO [.int (isq x) t1, .int (x - isq x * isq x) t2]) :: news) → (∀ p ∈ news, p.1 < D) → Q (.ref D) { s with heap := h', toks := tk' }) →
      wpAny (model PySem.Challenge.rw_aw5005_02.row.prog w) (ktrTop dp un gd cn cs L a ccd cl outer) (call (.ref f) [.int x t]) Q E s
section
local macro_rules | `(tactic| walk_at "binaryOp Mult int int") => `(tactic| ((refine mul_int ?_ (isq_mul (by assumption)))))
local macro_rules | `(tactic| walk_at "call ref") => `(tactic| (k_here; (have hCb := isqs2); dsimp only [isqsC2, CbClaim, CbLists, CbRet] at hCb; k_dflt (refine' hCb _ _ _ _ _ _ _ _ _ _ _ _ _ _ _ _ _ _ _ _ _ _ _ _ ?k1 ?k2 ?k3 ?k4 ?k5 ?kK ?kp ?kd ?ku ?_); (case k1 => k_asm); (case k2 => k_asm); (case k3 => k_asm); (case k4 => k_asm); (case k5 => k_asm); (case kK => first | exact rfl | assumption); (case kp => assumption); (case kd => ktr_room); (case ku => ktr_units); clear hCb; intro t9 h9 tk9 F9 N9; (try dsimp only); (try k_fold)))
theorem sqrc2 (w : World) (mean : ExcName → Option Value) (mg mb : Str → Option Value) : SqC2 w mean mg mb 28 := by
  k_fill
  intro x t news
  intros
  rename_i hpre _ _ hret
  refine wpAny_call ?_
  k_dflt cell_enter
  k_with_none
  k_steps
  exact hret _ _ _ _ _ (by assumption) (by assumption) (by assumption)
end
abbrev isqC2 (w : World) (mean : ExcName → Option Value) (mg mb : Str → Option Value) : Prop := ∀ (x : Int) (t : Tok) (news : List (Addr × Obj)) (dp un : Nat) (gd : Option (List Code)) (cn : Str) (cs : Scope) (a : Addr) (ccd : Value) (cl : List (Str × Addr)) (outer : List Env) (A₀ : Around) (base h₀ : Heap) (L : Addr) (m : Str → Option Value) (s : Shared) (Q E : Value → Shared → Prop),
    Below A₀ base outer h₀ → Fr h₀ L s.heap m → (hd2.heap_39 w.params).In h₀ → News h₀ L s.heap news → Top hd2.view_39 (looseW hd2.view_39 []) mean mg mb h₀ → cs.kind = .function → (0 ≤ x ∧ Builtin.Int.intBits x ≤ 2000) →
      dp + 3 < recursionLimit → un + 24 < cLine →
      (∀ (t1 : Tok) (h' : Heap) (tk' : Nat), 0 ≤ isq x → isq x ≤ x → Fr h₀ L h' m → News h₀ L h' news → Q (.int (isq x) t1) { s with heap := h', toks := tk' }) →
      wpAny (model PySem.Challenge.rw_aw5005_02.row.prog w) (ktrTop dp un gd cn cs L a ccd cl outer) (call (.ref 35) [.int x t]) Q E s
section
local macro_rules | `(tactic| walk_at "call ref") => `(tactic| (k_here; k_dflt (refine' sqrc2 _ _ _ _ _ _ _ _ _ _ _ _ _ _ _ _ _ _ _ _ _ _ _ _ ?k1 ?k2 ?k3 ?k4 ?k5 ?kK ?kp ?kd ?ku ?_); (case k1 => k_asm); (case k2 => k_asm); (case k3 => k_asm); (case k4 => k_asm); (case k5 => k_asm); (case kK => first | exact rfl | assumption); (case kp => assumption); (case kd => ktr_room); (case ku => ktr_units); intro D9 t9 u9 h9 tk9 F9 N9 l9; (try dsimp only); (try k_fold)))
theorem isqc2 (w : World) (mean : ExcName → Option Value) (mg mb : Str → Option Value) : isqC2 w mean mg mb := by
  k_fill
  intro x t news
  intros
  rename_i hpre _ _ hret
  refine wpAny_call ?_
  k_dflt cell_enter
  k_with_none
  k_steps
  exact hret _ _ _ (isq_nonneg _) (isq_le hpre.1) (by assumption) (cb_drop (by assumption) (fun p hp => List.mem_cons_of_mem _ hp))
end
theorem ok_small {x : Int} (h0 : 0 ≤ x) (h1 : x < 2 ^ 60) : 0 ≤ x ∧ Builtin.Int.intBits x ≤ 2000 := ⟨h0, Nat.le_trans (intBits_le_64 (by omega) (by omega)) (by decide)⟩
theorem ok_sub {g k : Int} (hg : 0 ≤ g) (hg2 : g < 2 ^ 60) (h1 : -isq g ≤ k) (h2 : k ≤ isq g) : 0 ≤ g - k * k ∧ Builtin.Int.intBits (g - k * k) ≤ 2000 := by
  have h3 := (isq_spec hg).1
  have h4 : k * k ≤ isq g * isq g := by
    rcases Int.le_total 0 k with h | h
    · exact Int.mul_le_mul h2 h2 h (isq_nonneg g)
    · have := Int.mul_le_mul (show -k ≤ isq g by omega) (show -k ≤ isq g by omega) (by omega) (isq_nonneg g)
      rwa [Int.neg_mul_neg] at this
  have h5 := sq_nonneg' k
  exact ok_small (by omega) (by omega)
end Mine
end
section
namespace Mine
set_option maxRecDepth 100000
theorem size12 (g : Int) (h : 0 ≤ g) : Builtin.Range.rangeSize 1 (g + 1) 2 = ((((g + 1) / 2).toNat : Nat) : Int) := by
  unfold Builtin.Range.rangeSize
  rw [if_pos (by decide)]
  split <;> omega
theorem small12 {g : Int} (h : 0 ≤ g) (h2 : g < 2 ^ 60) : Builtin.Range.small 1 (g + 1) 2 = true := by
  unfold Builtin.Range.small
  rw [size12 g h]
  simp only [Builtin.Range.rangeFitsLong, Bool.and_eq_true, Bool.or_eq_true, decide_eq_true_eq, beq_iff_eq, show (2 : Int) > 0 by decide, if_true]
  omega
theorem ok_sq {n a : Int} (h : a * a ≤ n) (h2 : n < 2 ^ 60) : 0 ≤ n - a * a ∧ Builtin.Int.intBits (n - a * a) ≤ 2000 := by
  have := sq_nonneg' a
  exact ok_small (by omega) (by omega)
theorem st_gen {M : Model} {A : Around} {E : Value → Shared → Prop} {s : Shared} {env : Env} {nm : Str} {t : Tok} {Q : Unit → Shared → Prop} {x : Int} (lo hi : Int) (h1 : lo ≤ x) (h2 : x < hi)
    (h : ∀ g, lo ≤ g → g < hi → wpAny M A (storeName env nm (.int g t)) Q E s) : wpAny M A (storeName env nm (.int x t)) Q E s := h x h1 h2
structure GsMark : Prop where
theorem fm_ne {k : Int} (h : 1 ≤ k) : k ≠ 0 := by omega
theorem fm_small {k : Int} (h : k < 2000) (h2 : 1 ≤ k) : k.natAbs < 1073741824 := by omega
theorem bne_no {x y : Int} (h : x = y) : ¬ ((x != y) = true) := by simp [h]
theorem itePrune {c : Prop} [Decidable c] {A B : Prop} (hc : ¬ c) (h : B) : if c then A else B := by rw [if_neg hc]; exact h
theorem eq_true_int {prog : Program} {w : World} {A : Around} {E : Value → Shared → Prop} {s : Shared} {a b : Int} {t u : Tok} {Q : Value → Shared → Prop} (h : a = b) (hQ : Q (.bool true) s) : wpAny (model prog w) A (compareOp .Eq (.int a t) (.int b u)) Q E s :=
  eq_int (by rw [beq_iff_eq.mpr h]; exact hQ)
end Mine
end
open Mine
set_option maxRecDepth 100000
set_option maxHeartbeats 8000000
local macro_rules | `(tactic| walk_at "eval ListComp") => `(tactic| (k_here; (with_reducible show wpAny _ _ (eval (Expr.ListComp _ [⟨Expr.Name _ _, Expr.Call (Expr.Name (Str.ofString "range") _) [_, _, _] [] _, [], 0⟩] _ _) _) _ _ _); k_dflt (refine ListComp_R (F₀ := by k_asm) (by with_unfolding_all rfl) (by decide) (by rfl) (by decide) (by rfl) ?_)))
local macro_rules | `(tactic| walk_at "call ref") => `(tactic| (k_here; k_dflt ((try k_fmods); (refine' isqc2 _ _ _ _ _ _ _ _ _ _ _ _ _ _ _ _ _ _ _ _ _ _ _ _ ?k1 ?k2 ?k3 ?k4 ?k5 ?kK ?kp ?kd ?ku ?_); (case k1 => k_asm); (case k2 => k_asm); (case k3 => k_asm); (case k4 => k_asm); (case k5 => k_asm); (case kK => first | exact rfl | assumption); (case kp => first | assumption | exact ok_small (by omega) (by omega)); (case kd => ktr_room); (case ku => ktr_units); intro t9 h9 tk9 q9 r9 F9 N9; (try dsimp only); (try k_fold))))
local macro_rules | `(tactic| walk_at "call ref") => `(tactic| (k_here; k_dflt ((try k_fmods); (refine' isqc2 _ _ _ _ _ _ _ _ _ _ _ _ _ _ _ _ _ _ _ _ _ _ _ _ ?k1 ?k2 ?k3 ?k4 ?k5 ?kK ?kp ?kd ?ku ?_); (case k1 => k_asm); (case k2 => k_asm); (case k3 => k_asm); (case k4 => k_asm); (case k5 => k_asm); (case kK => first | exact rfl | assumption); (case kp => exact ok_sub (by omega) (by omega) (by omega) (by omega)); (case kd => ktr_room); (case ku => ktr_units); intro t9 h9 tk9 q9 r9 F9 N9; clear q9 r9; (try dsimp only); (try k_fold))))
set_option hygiene false in
local macro_rules | `(tactic| walk_at "storeName") => `(tactic| (k_here; (with_reducible show wpAny _ _ (storeName _ (Str.ofString "great") (Value.int (Int.fmod _ _) _)) _ _ _); k_dflt ((try k_fmods); (refine st_gen 0 1000 (by omega) (by omega) ?_); intro g hg0 hg1)))
set_option hygiene false in
local macro_rules | `(tactic| walk_at "storeName") => `(tactic| (k_here; (with_reducible show wpAny _ _ (storeName _ (Str.ofString "small") (Value.int (_ + Int.fmod _ _) _)) _ _ _); k_dflt ((try k_fmods); (refine st_gen 1 31 (by omega) (by omega) ?_); intro sm hs0 hs1)))
set_option hygiene false in
local macro_rules | `(tactic| walk_at "KCfEl") => `(tactic| ((have hq9 : 0 ≤ g := by assumption); clear hq9; refine kcf_el ?_ (by with_unfolding_all rfl) (by with_unfolding_all rfl); (try dsimp only); first | rfl | (exact if_pos (by assumption)) | (exact if_neg (by assumption))))
set_option hygiene false in
local macro_rules | `(tactic| walk_at "CompSrc") => `(tactic| (k_here; (have hq9 : 0 ≤ isq g := by assumption); clear hq9; (fail_if_success (have hq9 : GsMark := by assumption)); k_dflt (refine LCg.CompSrc.range (by rfl) (by k_asm) (by k_asm) (by assumption) (small_one (by omega) (by omega) (by omega) (by omega)) (rangeSize_nat _ _) (by rw [PySem.sizeLine_eq]; omega) ?_; intro g'; (refine' kcf_range (fun k => 2 * isq (g - k * k) + 1) (fun k' t' I' oI' C' oC' D' m' ys' h' tk' E' hlo' hhi' hC' hx' F' N' off' ne' hMark' => ?_) ?_); (all_goals (try (simp only [LCg.Off3, and_true] at off'))); kcf_last)))
set_option hygiene false in
local macro_rules | `(tactic| walk_at "eval ListComp") => `(tactic| (k_here; (with_reducible show wpAny _ _ (eval (Expr.ListComp _ [⟨Expr.Name _ _, Expr.Call (Expr.Name (Str.ofString "range") _) _ [] _, [_], 0⟩] _ _) _) _ _ _); k_dflt (refine ListComp_RT (F₀ := by k_asm) (by with_unfolding_all rfl) (by decide) (by rfl) (by decide) (by rfl) ?_)))
set_option hygiene false in
local macro_rules | `(tactic| walk_at "RSrc") => `(tactic| (k_here; k_dflt (refine RSrc.intro (by rfl) (by k_asm) (by k_asm) (by assumption) (small12 (by omega) (by omega)) (size12 _ (by omega)) (by rw [PySem.sizeLine_eq]; omega) ?_; intro g'; (refine' restU (fun k => if k.fmod 4 = 1 then g.fdiv k else -(g.fdiv k)) (fun k' t' I' oI' C' oC' D' m' ys' h' tk' E' hk' hC' hx' F' N' off' ne' => ?_) ?_); (all_goals (try (simp only [LCg.Off3, and_true] at off'))); (all_goals (try (have hlo' : 1 ≤ k' := by obtain ⟨i', _, e'⟩ := hk'; omega); (have hhi' : k' < 2000 := by obtain ⟨i', _, e'⟩ := hk'; omega))); kcf_last)))
set_option hygiene false in
local macro_rules | `(tactic| walk_at "exec If") => `(tactic| ((have hq9 : 0 ≤ isq g := by assumption); clear hq9; (fail_if_success (have hq9 : GsMark := by assumption)); have hgm : GsMark := GsMark.mk; have hgs := gauss hg0 hg1; walk_at "exec If"))
set_option hygiene false in
local macro_rules | `(tactic| walk_at "binaryOp FloorDiv int int") => `(tactic| ((have hq9 : 1 ≤ k' := by assumption); clear hq9; refine floordiv_int (fm_ne hlo') ?_ (Or.inl (PyProof.noPylong_small (fm_small hhi' hlo')))))
set_option hygiene false in
local macro_rules | `(tactic| walk_at "binaryOp Mod int int") => `(tactic| ((have hq9 : 1 ≤ k4 := by assumption); clear hq9; first | refine mod_int' (b := k4) (fm_ne hlo4) ?_ | refine mod_int' (by decide) ?_))
local macro_rules | `(tactic| walk_at "ite") => `(tactic| (refine itePrune (bne_no (by assumption)) ?_))
local macro_rules | `(tactic| walk_at "CompEnd") => `(tactic| k_dflt (refine ctNo (by assumption) (by assumption) (by kcf_all) (by first | assumption | (simp only [LCg.Off3, and_true]; assumption)) trivial ?_; (try dsimp only); first | exact decide_eq_false (by assumption) | exact and_ft (by assumption) | exact and_tf (by assumption) | exact and_tf (by omega)))
local macro_rules | `(tactic| walk_at "CompEnd") => `(tactic| k_dflt (refine ctEl (by assumption) (by assumption) (by kcf_all) (by first | assumption | (simp only [LCg.Off3, and_true]; assumption)) trivial ?_; (try dsimp only); first | exact decide_eq_true (by assumption) | exact and_tt (by assumption) (by assumption) | exact and_tt (by assumption) (by omega)))
local macro_rules | `(tactic| walk_at "exec For Name Call cons nil") => `(tactic| (k_here; k_dflt (refine for_src ?_)))
local macro_rules | `(tactic| walk_at "call ref") => `(tactic| (k_here; k_dflt ((refine' sqrc2 _ _ _ _ _ _ _ _ _ _ _ _ _ _ _ _ _ _ _ _ _ _ _ _ ?k1 ?k2 ?k3 ?k4 ?k5 ?kK ?kp ?kd ?ku ?_); (case k1 => k_asm); (case k2 => k_asm); (case k3 => k_asm); (case k4 => k_asm); (case k5 => k_asm); (case kK => first | exact rfl | assumption); (case kp => exact ok_sq (by assumption) (by omega)); (case kd => ktr_room); (case ku => ktr_units); intro D9 t9 u9 h9 tk9 F9 N9 l9; (try k_lt l9); (try dsimp only); (try k_fold))))
set_option hygiene false in
local macro_rules | `(tactic| walk_at "compareOp Eq int int") => `(tactic| (refine eq_true_int hjac ?_))
set_option hygiene false in
local macro_rules | `(tactic| walk_at "binaryOp Mult int int") => `(tactic| (refine mul_int ?_ (ways_mulok hP)))
set_option hygiene false in
local macro_rules | `(tactic| walk_at "CompSrc") => `(tactic| (k_here; (have hq9 : GsMark := by assumption); clear hq9; k_dflt (refine LCg.CompSrc.range (by rfl) (by k_asm) (by k_asm) (by assumption) (small_one (by omega) (by omega) (by omega) (by omega)) (rangeSize_nat _ _) (by rw [PySem.sizeLine_eq]; omega) ?_; intro g'; (refine' kcf_range (fun k => ns.getD k.toNat 0 * ns.getD (sm - k).toNat 0) (fun k' t' I' oI' C' oC' D' m' ys' h' tk' E' hlo' hhi' hC' hx' F' N' off' ne' hMark' => ?_) ?_); (all_goals (try (simp only [LCg.Off3, and_true] at off'))); kcf_last)))
set_option maxRecDepth 100000 in
set_option maxHeartbeats 0 in
theorem PySem.Challenge.cw_aw5005_02_holds : PySem.Challenge.rw_aw5005_02.Holds := by
  refine hd2 ?_
  k_go0
  all_goals try k_fold
  k_steps
  refine' ForSrc.rangeW [Str.ofString "found", Str.ofString "across", Str.ofString "root", Str.ofString "left"] (fun i ns => ns = (List.range i).map (fun (j : Nat) => waysZ (j : Int))) rfl (by k_asm) (by k_asm) (by assumption) (small_one (by omega) (by omega) (by omega) (by omega)) (rangeSize_nat _ _) ?hc ?U ?hd .nil rfl ?turn ?done ?hE
  case hc => rfl
  case U => k_updF
  case hd => first | assumption | (with_unfolding_all assumption)
  case hE => first | passes_own | with_unfolding_all passes_own
  case turn =>
    intro i vs ns k oN vc u' tI h' tkI I hi hP hvs hoN hlI hnI F' N'
    try dsimp only at N'
    simp only [Int.zero_add, Int.mul_one] at N' ⊢
    simp only [List.forall_mem_cons, List.forall_mem_nil, and_true] at hnI
    k_steps
    refine' ForSrc.rangeI (Str.ofString "found") [Str.ofString "across", Str.ofString "root", Str.ofString "left"] (fun j a => a = innerZ (i : Int) j) rfl (by k_asm) (by k_asm) (by assumption) (small_one (by omega) (by omega) (by omega) (by omega)) (rangeSize_nat _ _) ?hy rfl ?turn2 ?done2 ?hE2
    case hy => rfl
    case hE2 => first | passes_own | with_unfolding_all passes_own
    case turn2 =>
      intro j d td u2 tJ h2 tkJ J hj hQ hnJ F'' N''
      try dsimp only at N''
      simp only [Int.zero_add, Int.mul_one] at N'' ⊢
      simp only [List.forall_mem_cons, List.forall_mem_nil, and_true] at hnJ
      k_steps
      all_goals (try dsimp only [FPostI])
      all_goals refine FEndI.intro (by k_asm) (by k_asm) (by rfl) ?_ (by kcf_all) ?_
      all_goals first
        | (intro z h2 h3; (simp only [List.contains_cons, List.contains_nil, Bool.or_false, Bool.or_eq_false_iff, beq_eq_false_iff_ne, ne_eq] at h3); (simp [kwMI, kwM, h2, h3]; done))
        | exact inner_no hQ (by assumption)
        | exact inner_no' hQ (by assumption) (by assumption)
        | exact inner_yes2 hQ (by assumption) (by assumption) (by rw [if_pos (by assumption)]) (by rw [if_pos (by assumption)])
        | exact inner_yes2 hQ (by assumption) (by assumption) (by rw [if_pos (by assumption)]) (by rw [if_neg (by assumption)])
        | exact inner_yes2 hQ (by assumption) (by assumption) (by rw [if_neg (by assumption)]) (by rw [if_pos (by assumption)])
        | exact inner_yes2 hQ (by assumption) (by assumption) (by rw [if_neg (by assumption)]) (by rw [if_neg (by assumption)])
        | skip
    case done2 =>
      intro d td u2 h2 tk2 hQ F'' N''
      have hszW := ways_size hvs hP hi hs1
      k_steps
      try dsimp only [FPostW]
      rename News _ _ _ _ => N9
      simp only [List.push_toArray] at N9
      refine FEndW.intro (vs := vs ++ [.int d td]) (ns := ns ++ [d]) (by k_asm) N9 (IntsAre.append hvs (.cons d td .nil)) (by assumption) ?_ (by kcf_all) (ways_step hP hQ)
      intro z h3
      simp only [List.contains_cons, List.contains_nil, Bool.or_false, Bool.or_eq_false_iff, beq_eq_false_iff_ne, ne_eq] at h3
      simp [kwMI, kwM, h3]
  case done =>
    intro vs ns k oN vc u' h' tk hP hvs hoN F' N'
    try dsimp only at N'
    have hlenW := ways_len hP hs0
    have hlenV := hvs.length
    have hw0 := ways_zero hP hs0
    k_steps
    refine' ForSrc.rangeC [] (fun _ => True) rfl (by k_asm) (by k_asm) (by assumption) (small_one (by omega) (by omega) (by omega) (by omega)) (rangeSize_nat _ _) ?hc ?U ?hd trivial ?turn3 ?done3 ?hE3
    case hc => rfl
    case U => k_updF
    case hd => assumption
    case hE3 => first | passes_own | with_unfolding_all passes_own
    case turn3 =>
      intro i oC vC u3 tI h3 tkI I hi _ hoC hnI F3 N3
      try dsimp only at N3
      simp only [Int.mul_one] at N3 ⊢
      simp only [List.forall_mem_cons, List.forall_mem_nil, and_true] at hnI
      have hdiv := ways_div hP hi hs1
      k_steps
      refine' RSrcT.intro rfl (by k_asm) (by k_asm) (by assumption) (small12 (by omega) (by omega)) (size12 _ (by omega)) (by rw [PySem.sizeLine_eq]; omega) ?_
      intro g'
      refine' restT (fun k => decide ((1 + (i : Int)).fmod k = 0)) (fun k => 2 - k.fmod 4) ?turn4 ?fin4
      case turn4 =>
        intro k4 t4 I4 oI4 C4 oC4 D4 m4 ys4 h4 tk4 E4 hk4 hC4 hx4 F4 N4 off4 ne4
        simp only [LCg.Off3, and_true] at off4
        have hlo4 : 1 ≤ k4 := by obtain ⟨i', _, e'⟩ := hk4; omega
        k_steps
      case fin4 =>
        intro ys4 hys4
        k_steps
        try dsimp only [FPostC]
        refine FEndC.intro (by k_asm) (by k_asm) (by assumption) ?_ (by kcf_all) trivial
        intro z h3
        simp [kwM]
    case done3 =>
      intro oC vC u3 h3 tk3 _ hoC F3 N3
      try dsimp only at N3
      have hjac := jacobi hP hs0 hs1
      k_steps
      refine' RSrcT.intro rfl (by k_asm) (by k_asm) (by assumption) (small_one (by omega) (by omega) (by omega) (by omega)) (rangeSize_nat _ _) (by rw [PySem.sizeLine_eq]; omega) ?_
      intro g'
      refine' restT (fun k => decide (sm.fmod k = 0) && decide (k.fmod 4 > 0)) (fun k => k) ?turn5 ?fin5
      case turn5 =>
        intro k4 t4 I4 oI4 C4 oC4 D4 m4 ys4 h4 tk4 E4 hk4 hC4 hx4 F4 N4 off4 ne4
        simp only [LCg.Off3, and_true] at off4
        have hlo4 : 1 ≤ k4 := by obtain ⟨i', _, e'⟩ := hk4; omega
        k_steps
      case fin5 =>
        intro ys5 hys5
        k_steps
