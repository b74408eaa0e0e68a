import PyProof.Rows.All
import Wide.All
import OpenK.AllK
import Wide.FinOn
import PySem.Challenge.RW_pe0242_01
set_option Elab.async false
set_option compiler.extract_closed false
local macro_rules | `(tactic| omega) => `(tactic| lia)
section
open PySem PySem.W PyProof.Rows
set_option maxRecDepth 100000
set_option maxHeartbeats 8000000
namespace Mine
open_top hd for PySem.Challenge.rw_pe0242_01
end Mine
end
section
set_option maxRecDepth 100000
namespace Mine
open PySem PySem.W PyProof.Rows PySem.Calls PySem.Spec
/-- a state behind a block: some letters c, the frame's names that are told, the ledger's part that is told -/
def AtSt {σ : Type} (h₀ : Heap) (L : Addr) (s : Shared) (Led : σ → List (Addr × Obj)) (ps : σ → List (Str × Value)) (P : σ → Prop) (s₂ : Shared) : Prop :=
  ∃ (c : σ) (h' : Heap) (tk : Nat) (m' : Str → Option Value) (news' : List (Addr × Obj)), s₂ = { s with heap := h', toks := tk } ∧ Fr h₀ L h' m' ∧ News h₀ L h' news' ∧ (∀ p ∈ Led c, p ∈ news') ∧ (∀ p ∈ ps c, m' p.1 = some p.2) ∧ P c
theorem AtSt.intro {σ : Type} {h₀ : Heap} {L : Addr} {s : Shared} {Led : σ → List (Addr × Obj)} {ps : σ → List (Str × Value)} {P : σ → Prop} {h' : Heap} {tk : Nat} {m' : Str → Option Value} {news' : List (Addr × Obj)} (c : σ)
    (F : Fr h₀ L h' m') (N : News h₀ L h' news') (hn : ∀ p ∈ Led c, p ∈ news') (hk : ∀ p ∈ ps c, m' p.1 = some p.2) (hp : P c) : AtSt h₀ L s Led ps P { s with heap := h', toks := tk } :=
  ⟨c, h', tk, m', news', rfl, F, N, hn, hk, hp⟩
theorem fr_kstB {h₀ h : Heap} {L : Addr} {m : Str → Option Value} {ps : List (Str × Value)} (F : Fr h₀ L h m) (hk : ∀ p ∈ ps, m p.1 = some p.2) : Fr h₀ L h (kstB m ps) := by
  have : kstB m ps = m := by funext y; exact kstB_eq hk fun _ => rfl
  rw [this]; exact F
section
variable {prog : Program} {w : World} {A : Around} {E : Value → Shared → Prop} {Q : Flow → Shared → Prop} {s : Shared} {env : Env} {h₀ : Heap} {L : Addr}
/-- what leaves a block (a cut; a while; a for) leaves it as before -/
def Leave0 (Q R : Flow → Shared → Prop) : Prop := ∀ f s₂, f ≠ .next → Q f s₂ → R f s₂
def Leave1 (Q R : Flow → Shared → Prop) : Prop := ∀ v s₂, Q (.ret v) s₂ → R (.ret v) s₂
def Leave2 (Q R : Flow → Shared → Prop) : Prop := (∀ s₂, Q .next s₂ → R .brk s₂) ∧ ∀ v s₂, Q (.ret v) s₂ → R (.ret v) s₂
def CutPost {σ : Type} (h₀ : Heap) (L : Addr) (s : Shared) (Led : σ → List (Addr × Obj)) (ps : σ → List (Str × Value)) (P : σ → Prop) (Q : Flow → Shared → Prop) (f : Flow) (s₂ : Shared) : Prop :=
  match f with
  | .next => AtSt h₀ L s Led ps P s₂
  | .ret v => Q (.ret v) s₂
  | .brk => Q .brk s₂
  | .cont => Q .cont s₂
/-- a statement's ways meet -/
theorem cut {σ : Type} {st : Stmt} {m₀ : Str → Option Value} (_F : Fr h₀ L s.heap m₀) (Led : σ → List (Addr × Obj)) (ps : σ → List (Str × Value)) (P : σ → Prop)
    (h : ∀ Rq : Flow → Shared → Prop, (∀ s₂, AtSt h₀ L s Led ps P s₂ → Rq .next s₂) → Leave0 Q Rq → wpAny (model prog w) A (exec st env) Rq E s)
    (k : ∀ (c : σ) (u : Str → Option Value) h tk, P c → Fr h₀ L h (kstB u (ps c)) → News h₀ L h (Led c) → Q .next { s with heap := h, toks := tk }) :
    wpAny (model prog w) A (exec st env) Q E s := by
  refine wpAny_mono (h (CutPost h₀ L s Led ps P Q) (fun _ x => x) (by intro f s₂ h x; cases f <;> first | exact absurd rfl h | exact x)) (fun f s₂ q => ?_) fun _ _ x => x
  cases f with
  | ret v => exact q
  | brk => exact q
  | cont => exact q
  | next =>
    obtain ⟨c, h', tk, m', news', rfl, F, N, hn, hk, hp⟩ := q
    exact k c m' h' tk hp (fr_kstB F hk) fun p hp => N p (hn p hp)
def WPost {σ : Type} (h₀ : Heap) (L : Addr) (s : Shared) (Led : σ → List (Addr × Obj)) (ps : σ → List (Str × Value)) (P : σ → Prop) (μ : σ → Nat) (Q : Flow → Shared → Prop) (c : σ) (f : Flow) (s₂ : Shared) : Prop :=
  match f with
  | .ret v => Q (.ret v) s₂
  | .brk => Q .next s₂
  | _ => AtSt h₀ L s Led ps (fun c' => P c' ∧ μ c' < μ c) s₂
/-- a while by an invariant and a measure; its exits meet -/
theorem whileX {σ τ : Type} {test : Expr} {body : List Stmt} {pos : Pos} {m₀ : Str → Option Value} {news₀ : List (Addr × Obj)} (Led : σ → List (Addr × Obj)) (ps : σ → List (Str × Value)) (P : σ → Prop) (μ : σ → Nat) (c₀ : σ)
    (LedX : τ → List (Addr × Obj)) (psX : τ → List (Str × Value)) (PX : τ → Prop)
    (F : Fr h₀ L s.heap m₀) (N : News h₀ L s.heap news₀) (hn : ∀ p ∈ Led c₀, p ∈ news₀) (hk : ∀ p ∈ ps c₀, m₀ p.1 = some p.2) (hp : P c₀)
    (turn : ∀ (c : σ) (u : Str → Option Value) h tk, P c → Fr h₀ L h (kstB u (ps c)) → News h₀ L h (Led c) →
      ∀ (Rq : Flow → Shared → Prop) (Sq : Shared → Prop), (∀ s₂, AtSt h₀ L s Led ps (fun c' => P c' ∧ μ c' < μ c) s₂ → Rq .next s₂ ∧ Rq .cont s₂) →
      (∀ s₂, AtSt h₀ L s LedX psX PX s₂ → Rq .brk s₂ ∧ Sq s₂) → Leave1 Q Rq →
      wpAny (model prog w) A (isTrue test env (eval test env)) (fun b s₂ => if b = true then wpAny (model prog w) A (execs body env) Rq E s₂ else Sq s₂) E { s with heap := h, toks := tk })
    (done : ∀ (c : τ) (u : Str → Option Value) h tk, PX c → Fr h₀ L h (kstB u (psX c)) → News h₀ L h (LedX c) → Q .next { s with heap := h, toks := tk })
    (hE : PassesOwn (model prog w) A env E := by passes_own) :
    wpAny (model prog w) A (exec (.While test body [] pos) env) Q E s := by
  have dn : ∀ s₂, AtSt h₀ L s LedX psX PX s₂ → Q .next s₂ := by
    rintro _ ⟨c, h', tk, m', news', rfl, F, N, hn, hk, hp⟩
    exact done c m' h' tk hp (fr_kstB F hk) fun p hp => N p (hn p hp)
  refine While_inv2 (fun n m nx => ∃ c : σ, nx = Led c ∧ μ c = n ∧ (∀ p ∈ ps c, m p.1 = some p.2) ∧ P c) F (fun p hp => N p (hn p hp)) ⟨c₀, rfl, rfl, hk, hp⟩ ?_ hE
  rintro n m₁ nx h tk F₁ N₁ ⟨c, hnx, hsz, h1, hp'⟩
  rw [hnx] at N₁
  rw [← hsz]
  refine wpAny_mono (turn c m₁ h tk hp' (fr_kstB F₁ h1) N₁ (WPost h₀ L s Led ps P μ (fun f s₃ => match f with | .next => AtSt h₀ L s LedX psX PX s₃ | f => Q f s₃) c) (AtSt h₀ L s LedX psX PX) (fun _ x => ⟨x, x⟩) (fun _ x => ⟨x, x⟩) fun _ _ x => x) (fun b s₂ p => ?_) fun _ _ x => x
  cases b with
  | false => exact dn _ (by simpa using p)
  | true =>
    simp only [if_true] at p ⊢
    refine wpAny_mono p (fun f s₃ q => ?_) fun _ _ x => x
    have nx : AtSt h₀ L s Led ps (fun c' => P c' ∧ μ c' < μ c) s₃ → ∃ h' tk m' news' k, s₃ = { s with heap := h', toks := tk } ∧ Fr h₀ L h' m' ∧ News h₀ L h' news' ∧ k < μ c ∧ ∃ c : σ, news' = Led c ∧ μ c = k ∧ (∀ p ∈ ps c, m' p.1 = some p.2) ∧ P c := by
      rintro ⟨c', h', tk', m', news', rfl, F', N', hn, hk9, hp9, hm9⟩
      exact ⟨h', tk', m', Led c', μ c', rfl, F', fun p hp => N' p (hn p hp), hm9, c', rfl, rfl, hk9, hp9⟩
    cases f with
    | ret v => exact q
    | brk => exact dn _ q
    | next => exact nx q
    | cont => exact nx q
def FPost {σ : Type} (h₀ : Heap) (L : Addr) (s : Shared) (Led : σ → List (Addr × Obj)) (ps : σ → List (Str × Value)) (P : σ → Prop) (Q : Flow → Shared → Prop) (own : List (Addr × Obj)) (f : Flow) (s₂ : Shared) : Prop :=
  match f with
  | .ret v => Q (.ret v) s₂
  | .brk => Q .next s₂
  | _ => AtSt h₀ L s (fun c => Led c ++ own) ps (fun c => P c ∧ OwnOff own ((Led c).map (·.1))) s₂
/-- a loop over a walk, by an invariant; objects may be made and kept -/
theorem loopX {σ : Type} {I : Addr} {fp wr : List Addr} {n : Nat} {Pv : Nat → Value → Prop} {St : Nat → Heap → Prop} {m₀ : Str → Option Value} {news₀ : List (Addr × Obj)} {x : Str} {body : List Stmt}
    (Led : σ → List (Addr × Obj)) (ps : σ → List (Str × Value)) (P : Nat → σ → Prop) (c₀ : σ)
    (W : Walks prog w A I fp wr n Pv St) (hLf : env.locals ∉ fp) (hfp : ∀ b ∈ fp, h₀.get? b = none) (hnw : ∀ q ∈ Led c₀, q.1 ∉ fp) (hst : St 0 s.heap) (F : Fr h₀ env.locals s.heap m₀) (N : News h₀ env.locals s.heap news₀)
    (hst' : ∀ i h, St i h → ∀ b ∈ fp, ∃ o, h.get? b = some o)
    (hn : ∀ p ∈ Led c₀, p ∈ news₀) (hk : ∀ p ∈ ps c₀, m₀ p.1 = some p.2) (hp : P 0 c₀)
    (turn : ∀ (i : Nat) (c : σ) (v : Value) (u : Str → Option Value) h tk own, i < n → Pv i v → P i c → OwnOff own ((Led c).map (·.1)) → Fr h₀ env.locals h (kstB u ((x, v) :: ps c)) → News h₀ env.locals h (Led c ++ own) →
      ∀ Rq : Flow → Shared → Prop, (∀ s₂, AtSt h₀ env.locals { s with heap := h, toks := tk } (fun c => Led c ++ own) ps (fun c => P (i + 1) c ∧ OwnOff own ((Led c).map (·.1))) s₂ → Rq .next s₂ ∧ Rq .cont s₂) →
      Leave2 Q Rq → wpAny (model prog w) A (execs body env) Rq E { s with heap := h, toks := tk })
    (hxs : ∀ c, ∀ p ∈ ps c, p.1 ≠ x)
    (done : ∀ (c : σ) (u : Str → Option Value) h tk, P n c → Fr h₀ env.locals h (kstB u (ps c)) → News h₀ env.locals h (Led c) → Q .next { s with heap := h, toks := tk }) :
    LoopAtV prog w A h₀ env x body Q E (.ref I) s := by
  refine ⟨I, fp, wr, n, Pv, St, m₀, Led c₀, fun i m nx => ∃ c : σ, nx = Led c ∧ (∀ p ∈ ps c, m p.1 = some p.2) ∧ P i c ∧ (∀ p ∈ Led c, p.1 ∉ fp), rfl, W, hLf, fun b hb => hfp b (W.sub b hb), fun p hp hq => hnw p hp (W.sub _ hq), hst, F, fun p hp => N p (hn p hp), ⟨c₀, rfl, hk, hp, hnw⟩, ?_, ?_⟩
  · rintro i v m₁ news₁ s₁ own ⟨hh', tk', rfl⟩ hin hP ⟨c, rfl, hk', hp', hoff⟩ _ hown hown2 hown3 hst2 F₁ N₁
    have hsep : OwnOff own ((Led c).map (·.1)) := by
      intro p hp b hb e
      obtain ⟨q, hq, rfl⟩ := List.mem_map.mp hb
      exact hoff q hq (e ▸ hown p hp)
    have N₂ : News h₀ env.locals hh' (Led c ++ own) := fun p hp => N₁ p ((List.mem_append.mp hp).elim (fun h => List.mem_append.mpr (.inr h)) fun h => List.mem_append.mpr (.inl h))
    have F₂ : Fr h₀ env.locals hh' (kstB (fun y => if y = x then some v else m₁ y) ((x, v) :: ps c)) := fr_kstB F₁ (by
      intro p hp
      rcases List.mem_cons.mp hp with rfl | hp
      · simp
      · simp only [if_neg (hxs c p hp)]; exact hk' p hp)
    refine wpAny_mono (turn i c v _ hh' tk' own hin hP hp' hsep F₂ N₂ (FPost h₀ env.locals { s with heap := hh', toks := tk' } Led ps (P (i + 1)) Q own) (fun _ x => ⟨x, x⟩) ⟨fun _ x => x, fun _ _ x => x⟩) (fun f s₂ p => ?_) fun _ _ e => e
    have fin : AtSt h₀ env.locals { s with heap := hh', toks := tk' } (fun c => Led c ++ own) ps (fun c => P (i + 1) c ∧ OwnOff own ((Led c).map (·.1))) s₂ → LoopStepU h₀ env.locals wr own (fun m nx => ∃ c : σ, nx = Led c ∧ (∀ p ∈ ps c, m p.1 = some p.2) ∧ P (i + 1) c ∧ (∀ p ∈ Led c, p.1 ∉ fp)) { s with heap := hh', toks := tk' } .next s₂ := by
      rintro ⟨c', h', tk, m', news', rfl, F', N', hn', hk'', hp'', ho''⟩
      have hoff' : ∀ p ∈ Led c', p.1 ∉ fp := by
        intro p hp hf
        obtain ⟨o, ho⟩ := hst' _ _ hst2 p.1 hf
        exact ho'' _ (hown3 p.1 hf (hfp _ hf) o ho) p.1 (List.mem_map.mpr ⟨p, hp, rfl⟩) rfl
      refine ⟨rfl, h', tk, m', Led c', rfl, F', fun p hp => N' p (hn' p ((List.mem_append.mp hp).elim (fun h => List.mem_append.mpr (.inr h)) fun h => List.mem_append.mpr (.inl h))), fun p hp hq => hoff' p hp (W.sub _ hq), c', rfl, hk'', hp'', hoff'⟩
    cases f with
    | ret v => exact .ret p
    | brk => exact .brk p
    | next => exact .next (fin p)
    | cont => exact .cont (fin p)
  · rintro h' tk m' news' F' N' _ ⟨c, rfl, hk', hp', _⟩
    exact done c m' h' tk hp' (fr_kstB F' hk') N'
/-- for x in range(a, b) -/
theorem rangeX {σ : Type} {r : Addr} {a₀ b₀ : Int} {t₀ u₀ v₀ : Tok} {n : Nat} {m₀ : Str → Option Value} {news₀ : List (Addr × Obj)} {x : Str} {body : List Stmt}
    (Led : σ → List (Addr × Obj)) (ps : σ → List (Str × Value)) (P : Nat → σ → Prop) (c₀ : σ)
    (hh : A.handled = none) (hr : IsRange s.heap r a₀ b₀ 1 t₀ u₀ v₀) (hsmall : Builtin.Range.small a₀ b₀ 1 = true) (hnn : Builtin.Range.rangeSize a₀ b₀ 1 = (n : Int)) (F : Fr h₀ env.locals s.heap m₀) (N : News h₀ env.locals s.heap news₀)
    (hn : ∀ p ∈ Led c₀, p ∈ news₀) (hk : ∀ p ∈ ps c₀, m₀ p.1 = some p.2) (hp : P 0 c₀)
    (turn : ∀ (i : Nat) (c : σ) (t : Tok) (u : Str → Option Value) h tk own, i < n → P i c → OwnOff own ((Led c).map (·.1)) → Fr h₀ env.locals h (kstB u ((x, .int (a₀ + i) t) :: ps c)) → News h₀ env.locals h (Led c ++ own) →
      ∀ Rq : Flow → Shared → Prop, (∀ s₂, AtSt h₀ env.locals { s with heap := h, toks := tk } (fun c => Led c ++ own) ps (fun c => P (i + 1) c ∧ OwnOff own ((Led c).map (·.1))) s₂ → Rq .next s₂ ∧ Rq .cont s₂) →
      Leave2 Q Rq → wpAny (model prog w) A (execs body env) Rq E { s with heap := h, toks := tk })
    (hxs : ∀ c, ∀ p ∈ ps c, p.1 ≠ x)
    (done : ∀ (c : σ) (u : Str → Option Value) h tk, P n c → Fr h₀ env.locals h (kstB u (ps c)) → News h₀ env.locals h (Led c) → Q .next { s with heap := h, toks := tk }) :
    wpAny (model prog w) A (pyIter (.ref r)) (fun it s₂ => LoopAtV prog w A h₀ env x body Q E it s₂) E s := by
  refine wpAny_pyIter_range hr hsmall ?_
  have W : Walks prog w A s.heap.objs.size [s.heap.objs.size] [s.heap.objs.size] n (fun i v => i < n ∧ ∃ t, v = .int (a₀ + i * 1) t)
      (fun i h => IsRangeIter h s.heap.objs.size (a₀ + (i : Nat) * 1) ((n : Int) - (i : Nat)) 1) := (Walks.range hh _ a₀ 1 n).bound
  refine loopX Led ps P c₀ W ?_ ?_ ?_ (by show IsRangeIter _ _ _ _ _; rw [hnn]; simpa using Heap.get?_push_size _ rfl) (F.push _) (news₀ := news₀) (fun p hp => ⟨Heap.get?_push_of_some _ (N p hp).1, (N p hp).2⟩) ?_ hn hk hp ?_ hxs ?_
  · intro hm
    exact absurd F.ns.lt ((List.mem_singleton.mp hm) ▸ Nat.lt_irrefl _)
  · intro b hb
    rw [List.mem_singleton.mp hb]
    exact next_is_new F
  · intro q hq hI
    exact absurd (Heap.lt_size (N q (hn q hq)).1) ((List.mem_singleton.mp hI) ▸ Nat.lt_irrefl _)
  · intro i h st b hb
    rw [List.mem_singleton.mp hb]
    exact ⟨_, st⟩
  · rintro i c v u h tk own hi ⟨_, t, rfl⟩ hP ho F₁ N₁
    rw [Int.mul_one] at F₁
    exact turn i c t u h tk own hi hP ho F₁ N₁
  · exact done
end
end Mine
namespace Mine
open PySem PySem.W PyProof.Rows PySem.Calls PySem.Spec
section
variable {prog : Program} {w : World} {A : Around} {E : Value → Shared → Prop} {Q : Value → Shared → Prop} {s : Shared} {h₀ : Heap} {L : Addr} {m : Str → Option Value} {news : List (Addr × Obj)}
theorem ints_of (a c : Int) : ∀ (n k : Nat) (l : List Value), l.length = n → (∀ j v, l[j]? = some v → ∃ t, v = Value.int (a + ((k + j : Nat) : Int) * c) t) → IntsAre l ((List.range' k n).map fun i => a + (i : Nat) * c)
  | 0, k, l, h, _ => by
    cases l with
    | nil => exact .nil
    | cons => cases h
  | n + 1, k, l, h, hv => by
    cases l with
    | nil => cases h
    | cons v l =>
      obtain ⟨t, rfl⟩ := hv 0 v rfl
      rw [List.range'_succ, List.map_cons, Nat.add_zero]
      refine .cons _ _ (ints_of a c n (k + 1) l (by simpa using h) fun j v hj => ?_)
      obtain ⟨t, e⟩ := hv (j + 1) v (by simpa using hj)
      exact ⟨t, by rw [e]; congr 3; omega⟩
theorem list_rangeL {r : Addr} {a b c : Int} {t u v : Tok} {n : Nat} (hh : A.handled = none) (F : Fr h₀ L s.heap m) (N : News h₀ L s.heap news) (hr : IsRange s.heap r a b c t u v) (hsmall : Builtin.Range.small a b c = true)
    (hn : Builtin.Range.rangeSize a b c = (n : Int)) (hz : n ≤ 2 ^ 24)
    (h : ∀ D us c' h' tk, Fr h₀ L h' m → News h₀ L h' ((D, listOf (List.toArray us) c') :: news) → (∀ p ∈ news, p.1 < D) → IntsAre us (rangeInts a c n) → Q (.ref D) { s with heap := h', toks := tk }) :
    wpAny (model prog w) A (call (.type "list") [.ref r]) Q E s := by
  refine call_list_range hh hr hsmall hn hz fun h' tk acc c' hk hD hI => ?_
  have hD' : h'.get? s.heap.objs.size = some (listOf (List.toArray acc.toList) c') := by
    rw [Array.toArray_toList]
    exact hD
  refine h _ acc.toList c' h' tk (F.keeps hk) (news_pushed F N hk hD' rfl) (fun p hp => Heap.lt_size (N p hp).1) ?_
  have := ints_of a c n 0 acc.toList (by rw [Array.length_toList]; exact hI.1) fun j v hj => by
    have := hI.2 j v (by rw [← hj, Array.getElem?_toList])
    simpa using this
  rw [← List.range_eq_range'] at this
  exact this
end
end Mine
namespace Mine
open PySem PySem.W PyProof.Rows PySem.Calls PySem.Spec
section
variable {prog : Program} {w : World} {A : Around} {E : Value → Shared → Prop} {Q : Flow → Shared → Prop} {s : Shared} {env : Env} {h₀ : Heap}
/-- for x in range(b) -/
theorem rangeX0 {σ : Type} {r : Addr} {b₀ : Int} {t₀ u₀ v₀ : Tok} {n : Nat} {m₀ : Str → Option Value} {news₀ : List (Addr × Obj)} {x : Str} {body : List Stmt}
    (F : Fr h₀ env.locals s.heap m₀) (N : News h₀ env.locals s.heap news₀) (hr : IsRange s.heap r 0 b₀ 1 t₀ u₀ v₀) (hb : b₀ = (n : Int)) (hz : n < 2 ^ 60)
    (Led : σ → List (Addr × Obj)) (ps : σ → List (Str × Value)) (P : Nat → σ → Prop) (c₀ : σ)
    (hh : A.handled = none)
    (hn : ∀ p ∈ Led c₀, p ∈ news₀) (hk : ∀ p ∈ ps c₀, m₀ p.1 = some p.2) (hp : P 0 c₀)
    (turn : ∀ (i : Nat) (c : σ) (t : Tok) (u : Str → Option Value) h tk own, i < n → P i c → OwnOff own ((Led c).map (·.1)) → Fr h₀ env.locals h (kstB u ((x, .int (i : Int) t) :: ps c)) → News h₀ env.locals h (Led c ++ own) →
      ∀ Rq : Flow → Shared → Prop, (∀ s₂, AtSt h₀ env.locals { s with heap := h, toks := tk } (fun c => Led c ++ own) ps (fun c => P (i + 1) c ∧ OwnOff own ((Led c).map (·.1))) s₂ → Rq .next s₂ ∧ Rq .cont s₂) →
      Leave2 Q Rq → wpAny (model prog w) A (execs body env) Rq E { s with heap := h, toks := tk })
    (hxs : ∀ c, ∀ p ∈ ps c, p.1 ≠ x)
    (done : ∀ (c : σ) (u : Str → Option Value) h tk, P n c → Fr h₀ env.locals h (kstB u (ps c)) → News h₀ env.locals h (Led c) → Q .next { s with heap := h, toks := tk }) :
    wpAny (model prog w) A (pyIter (.ref r)) (fun it s₂ => LoopAtV prog w A h₀ env x body Q E it s₂) E s := by
  subst hb
  refine rangeX Led ps P c₀ hh hr (small_one (by omega) (by omega) (by omega) (by omega)) (n := n) (by rw [rangeSize_one]; split <;> omega) F N hn hk hp ?_ hxs done
  intro i c t u h tk own h1 h2 h3 h4 h5
  rw [Int.zero_add] at h4
  exact turn i c t u h tk own h1 h2 h3 h4 h5
end
end Mine
end
section
set_option maxRecDepth 100000
namespace Mine
open PySem PySem.W PyProof.Rows PySem.Calls PySem.Spec PyProof
/-- a text out of its signs -/
abbrev st (l : List Nat) : Str := ⟨l.toArray⟩
theorem st_len (l : List Nat) : (st l).length = l.length := by simp [Str.length]
theorem st_inj {l k : List Nat} : st l = st k ↔ l = k := by
  constructor
  · intro h
    have := congrArg (fun x : Str => x.cps.toList) h
    simpa using this
  · intro h; rw [h]
theorem st_beq (l k : List Nat) : (st l == st k) = decide (l = k) := by
  by_cases h : l = k
  · subst h; simp
  · have : st l ≠ st k := fun e => h (st_inj.mp e)
    simp [h, this]
theorem slice_from (l : List Nat) (k : Nat) (h : k ≤ l.length) : Txt.slice (st l) (some (k : Int)) none = st (l.drop k) := by
  rw [slice_from_eq (x := st l) (i := k) (b := (st l).length) (by omega) (by rw [st_len]; omega) rfl]
  rw [st_len]
  simp only [st, Str.mk.injEq]
  have : ((l.length : Int) - (k : Int)).toNat = (l.drop (k:Int).toNat).length := by simp
  rw [this, List.take_length]
  simp
theorem range_pick (l : List Nat) (n : Nat) (h : n ≤ l.length) : (List.range n).filterMap ((st l).cps[·]?) = l.take n := by
  induction n with
  | zero => simp
  | succ n ih =>
    rw [List.range_succ, List.filterMap_append, ih (by omega), List.take_add_one]
    have hn : n < l.length := by omega
    simp [hn]
theorem idx_none_neg (n k : Nat) (h : k ≤ n) (h1 : 0 < k) : PySem.Builtin.Str.strSliceIndices none (some (-(k : Int))) 1 n = List.range (n - k) := by
  unfold PySem.Builtin.Str.strSliceIndices sliceRange
  simp only [show (1 : Int) > 0 by decide, if_true]
  rw [if_pos (show -(k : Int) < 0 by omega)]
  have e : max 0 (min (-(k : Int) + (n : Int)) (n : Int)) = ((n - k : Nat) : Int) := by omega
  rw [e]
  by_cases hz : n - k = 0
  · rw [hz]; simp
  · rw [if_pos (by omega)]
    have : ((((n - k : Nat) : Int) - 0 + 1 - 1) / 1).toNat = n - k := by simp
    rw [this]
    apply List.ext_getElem
    · simp
    · intro i h1 h2; simp
theorem idx_none_none (n : Nat) : PySem.Builtin.Str.strSliceIndices none none 1 n = List.range n := by
  unfold PySem.Builtin.Str.strSliceIndices sliceRange
  simp only [show (1 : Int) > 0 by decide, if_true]
  by_cases hz : n = 0
  · rw [hz]; simp
  · rw [if_pos (by omega)]
    have : (((n : Int) - 0 + 1 - 1) / 1).toNat = n := by simp
    rw [this]
    apply List.ext_getElem
    · simp
    · intro i h1 h2; simp
theorem slice_to_neg (l : List Nat) (k : Nat) (h1 : 0 < k) (h : k ≤ l.length) : Txt.slice (st l) none (some (-(k : Int))) = st (l.take (l.length - k)) := by
  unfold Txt.slice
  rw [st_len, idx_none_neg _ _ h h1]
  split
  · rename_i q
    simp at q
    omega
  · rw [range_pick _ _ (by omega)]
theorem slice_all (l : List Nat) : Txt.slice (st l) none none = st l := by
  unfold Txt.slice
  rw [st_len, idx_none_none]
  simp
theorem item_at (l : List Nat) (k : Nat) (h : k < l.length) : Txt.item (st l) (k : Int) = st [l.getD k 0] := by
  unfold Txt.item Txt.charAt seqIndex?
  rw [st_len]
  simp only [show ¬ (k : Int) < 0 by omega, if_false]
  rw [if_pos (by simp; omega)]
  simp [st, h]
theorem item_neg (l : List Nat) (k : Nat) (h : k < l.length) : Txt.item (st l) (-(k : Int) - 1) = st [l.reverse.getD k 0] := by
  unfold Txt.item Txt.charAt seqIndex?
  rw [st_len]
  simp only [show -(k : Int) - 1 < 0 by omega, if_true]
  rw [if_pos (by simp; omega)]
  have e : (-(k : Int) - 1 + (l.length : Int)).toNat = l.length - 1 - k := by omega
  simp only [e, Option.bind_some, st]
  simp [h]
  have : l.length - 1 - k < l.length := by omega
  simp [this]
end Mine
end
section
open PySem PySem.W PyProof.Rows PySem.Calls PySem.Spec PyProof
set_option maxRecDepth 100000
set_option maxHeartbeats 8000000
namespace Mine
theorem calmSubst : True := by
  w_top off
  trivial
def subst (a b : Str) : Int := if a = b then 0 else if Txt.lower a = Txt.lower b then 1 else 2
section
variable {w : World} {p : Program} {loose : List Str} {mean : ExcName → Option Value} {mg mb : Str → Option Value}
   {dp un : Nat} {gd : Option (List Code)} {cn : Str} {cs : Scope} {a : Addr} {ccd : Value} {cl : List (Str × Addr)} {outer : List Env} {A₀ : Around} {base h₀ : Heap} {L : Addr} {m : Str → Option Value} {news : List (Addr × Obj)} {s : Shared} {Q E : Value → Shared → Prop}
theorem subst_call {x y : Str} {tx ty : Tok} (hx : x.length ≤ 1000) (hy : y.length ≤ 1000)
   (B : Below A₀ base outer h₀) (F : Fr h₀ L s.heap m) (X : (hd.heap_39 w.params).In h₀) (N : News h₀ L s.heap news) (T : Top p loose mean mg mb h₀) (hk : cs.kind = .function)
   (hd : dp + 1 < recursionLimit) (hu : un + 8 < cLine) (hret : CbRet h₀ L m news s Q (fun t => .int (subst x y) t)) :
      wpAny (model PySem.Challenge.rw_pe0242_01.prog w) (ktrTop dp un gd cn cs L a ccd cl outer) (call (.ref 189) [.str x tx, .str y ty]) Q E s := by
  refine wpAny_call ?_
  k_dflt cell_enter
  k_steps
  all_goals exact cb_retI hret (by simp_all [subst]) (by assumption) (by assumption)
end
end Mine
end
section
open PySem PySem.W PyProof.Rows PySem.Calls PySem.Spec PyProof
set_option maxRecDepth 100000
set_option maxHeartbeats 8000000
namespace Mine
theorem calmLev : True := by
  w_top off
  trivial
set_option pp.deepTerms false
set_option pp.maxSteps 6000
set_option pp.deepTerms.threshold 8
-- steps up to a loop
local macro_rules | `(tactic| walk_at "subscriptTail Name Slice str ref") => `(tactic| ((with_reducible show wpAny _ _ (subscriptTail _ (Expr.Slice none (some (Expr.BoolOp _ _ _)) none _) _ _) _ _ _); (try dsimp only); (with_reducible rename Fr _ _ _ _ => F'); (with_reducible rename News _ _ _ _ => N'); refine slice_strN_nn_len (s := ⟨_, _, _, _, _⟩) F' N' ?_; intro _ _ _ _ _ _))
-- steps up to a loop or an if
local macro_rules | `(tactic| walk_at "truthy str") => `(tactic| ((with_reducible show wpAny _ _ (PySem.truthy (Value.str _ _)) _ _ _); refine SBL.truthy (by omega) ?_))
-- opens a for, up to its walk
theorem ite_yes {c : Prop} [Decidable c] {a b : Prop} (h : c) (x : a) : if c then a else b := by rw [if_pos h]; exact x
theorem ite_no {c : Prop} [Decidable c] {a b : Prop} (h : ¬ c) (x : b) : if c then a else b := by rw [if_neg h]; exact x
theorem bne0_yes {z : Int} (h : z ≠ 0) : (z != 0) = true := by simpa using h
theorem bne0_no {z : Int} (h : z = 0) : ¬ (z != 0) = true := by simpa using h
local macro_rules | `(tactic| walk_at "ite") => `(tactic| ((with_reducible show ite ((_ != (0:Int)) = true) _ _); first | (refine ite_yes (bne0_yes (by omega)) ?_) | (refine ite_no (bne0_no (by omega)) ?_)))
local macro_rules | `(tactic| walk_at "call ref") => `(tactic| ((show wpAny _ _ (call (Value.ref 189) _) _ _ _); k_dflt (refine' subst_call ?h1 ?h2 ?k1 ?k2 ?k3 ?k4 ?k5 ?kK ?kd ?ku ?_); (case h1 | h2 => omega); (case k1 | k2 | k3 | k4 | k5 => k_asm); (case kK => first | exact rfl | assumption); (case kd => ktr_room); (case ku => ktr_units); intro t9 h9 tk9 F9 N9; (try dsimp only); (try k_fold)))
local macro_rules | `(tactic| walk_at "setItem ref int") => `(tactic| (k_here; (try dsimp only); (show wpAny _ _ (setItem (Value.ref _) (Value.int _ _) (Value.int _ _)) _ _ _); k_dflt (refine' ksa_set ?k1 ?k2 (Upd.head ?k3) ?k4 ?k5 ?k6 ?k7 ?_; (case k1 | k2 => k_asm); (case k3 => assumption); (case k4 => with_reducible assumption); (case k5 | k6 | k7 => ksa_idx); k_whole); intro h' F' N' hi' hl' hs'))
def lcp : List Nat → List Nat → Nat
  | a :: x, b :: y => if a = b then lcp x y + 1 else 0
  | _, _ => 0
theorem lcp_end {A B : List Nat} {k : Nat} (h : k + lcp (A.drop k) (B.drop k) = lcp A B) (he : A.length ≤ k ∨ B.length ≤ k ∨ A.getD k 0 ≠ B.getD k 0) : k = lcp A B := by
  rw [← h]
  have : lcp (A.drop k) (B.drop k) = 0 := by
    cases hA : A.drop k with
    | nil => simp [lcp]
    | cons x X =>
      cases hB : B.drop k with
      | nil => simp [lcp]
      | cons y Y =>
        have ka : k < A.length := by
          apply Nat.lt_of_not_le; intro q; rw [List.drop_eq_nil_of_le q] at hA; cases hA
        have kb : k < B.length := by
          apply Nat.lt_of_not_le; intro q; rw [List.drop_eq_nil_of_le q] at hB; cases hB
        have xa : A.getD k 0 = x := by
          have := List.drop_eq_getElem_cons ka; rw [hA] at this; injection this with e _; simp [ka, e]
        have yb : B.getD k 0 = y := by
          have := List.drop_eq_getElem_cons kb; rw [hB] at this; injection this with e _; simp [kb, e]
        rcases he with q | q | q
        · omega
        · omega
        · rw [xa, yb] at q; simp [lcp, q]
  omega
theorem lcp_step {A B : List Nat} {k : Nat} (h : k + lcp (A.drop k) (B.drop k) = lcp A B) (ka : k < A.length) (kb : k < B.length) (e : A.getD k 0 = B.getD k 0) : k + 1 + lcp (A.drop (k + 1)) (B.drop (k + 1)) = lcp A B := by
  rw [← h, List.drop_eq_getElem_cons ka, List.drop_eq_getElem_cons kb]
  have : A[k] = B[k] := by simpa [ka, kb] using e
  rw [this]
  simp [lcp]; omega
/-- min(a, b) of Python -/
def mn (a b : Int) : Int := if b < a then b else a
def innerN (bch : Nat) (A : List Nat) (z : Int) (row : List Int) : Nat → Int × Int × Int × List Int
  | 0 => (z, z, 9223372036854775807, row)
  | i + 1 =>
    let c := innerN bch A z row i
    let d := c.2.2.2.getD i 0
    let r := mn (mn c.2.1 d + 2) (c.1 + subst (st [bch]) (st [A.getD i 0]))
    (d, r, if r < c.2.2.1 then r else c.2.2.1, c.2.2.2.set i r)
def outerN (A B : List Nat) : Nat → List Int × Int × Int
  | 0 => (rangeInts 2 2 A.length, 0, 0)
  | j + 1 =>
    let c := innerN (B.getD j 0) A (j * 2) (outerN A B j).1 A.length
    (c.2.2.2, c.2.1, c.2.2.1)
def trim (x y : List Nat) : List Nat × List Nat :=
  let x1 := x.drop (lcp x y)
  let y1 := y.drop (lcp x y)
  (x1.take (x1.length - lcp x1.reverse y1.reverse), y1.take (y1.length - lcp x1.reverse y1.reverse))
def levH (x y : List Nat) (mx : Int) : Int :=
  if mx < ((y.length : Int) - x.length) * 2 then mx + 1
  else if (List.range y.length).any (fun j => decide (mx < (outerN x y (j + 1)).2.2)) then mx + 1 else (outerN x y y.length).2.1
def levG (x y : List Nat) (mx : Int) : Int :=
  if x.length = 0 ∨ y.length = 0 then 2 * (x.length + y.length)
  else levH (if y.length < x.length then y else x) (if y.length < x.length then x else y) mx
/-- what _levenshtein_distance reckons -/
def levF (x y : List Nat) (mx : Int) : Int := if x = y then 0 else levG (trim x y).1 (trim x y).2 mx
theorem innerN_len (bch : Nat) (A : List Nat) (z : Int) (row : List Int) (i : Nat) : (innerN bch A z row i).2.2.2.length = row.length := by
  induction i with
  | zero => rfl
  | succ i ih => simp only [innerN, List.length_set]; exact ih
theorem outerN_len (A B : List Nat) (j : Nat) : (outerN A B j).1.length = A.length := by
  induction j with
  | zero => simp [outerN, rangeInts]
  | succ j ih => simp only [outerN]; rw [innerN_len]; exact ih
section
variable {w : World} {p : Program} {loose : List Str} {mean : ExcName → Option Value} {mg mb : Str → Option Value}
   {dp un : Nat} {gd : Option (List Code)} {cn : Str} {cs : Scope} {a : Addr} {ccd : Value} {cl : List (Str × Addr)} {outer : List Env} {A₀ : Around} {base h₀ : Heap} {L : Addr} {m : Str → Option Value} {news : List (Addr × Obj)} {s : Shared} {Q E : Value → Shared → Prop}
theorem lev_call {x y : List Nat} {mx : Int} {tx ty tz : Tok} (hx : x.length ≤ 3) (hy : y.length ≤ 3) (hm0 : 0 ≤ mx) (hm1 : mx < 100)
   (B : Below A₀ base outer h₀) (F : Fr h₀ L s.heap m) (X : (hd.heap_39 w.params).In h₀) (N : News h₀ L s.heap news) (T : Top p loose mean mg mb h₀) (hk : cs.kind = .function)
   (hd : dp + 10 < recursionLimit) (hu : un + 40 < cLine) (hret : CbRet h₀ L m news s Q (fun t => .int (levF x y mx) t)) :
      wpAny (model PySem.Challenge.rw_pe0242_01.prog w) (ktrTop dp un gd cn cs L a ccd cl outer) (call (.ref 196) [.str (st x) tx, .str (st y) ty, .int mx tz]) Q E s := by
  have lx0 := st_len x
  have ly0 := st_len y
  refine wpAny_call ?_
  k_dflt cell_enter
  (repeat' (first | (k_unfold; (try dsimp only)) | (k_end; wrow_close) | ((fail_if_success (with_reducible show wpAny _ _ (exec (Stmt.While _ _ _ _) _) _ _ _)); (fail_if_success (with_reducible show wpAny _ _ (exec (Stmt.For _ _ _ _ _) _) _ _ _)); (first | walk1 | (dsimp only; walk1))) | (leave1; walk_say "STEP leave1"; try dsimp only) | fail "no step"))
  · rename (_ == _) = true => he
    rw [st_beq, decide_eq_true_eq] at he
    exact cb_retI hret (by rw [levF, if_pos he]) (by assumption) (by assumption)
  rename (_ == _) = false => hne0
  rw [st_beq, decide_eq_false_iff_not] at hne0
  rename Fr _ _ _ _ => lF'
  rename News _ _ _ _ => lN'
  refine' whileX (σ := Nat × Tok) (τ := Nat × Tok) (fun _ => news) (fun c => [(Str.ofString "a", .str (st x) tx), (Str.ofString "b", .str (st y) ty), (Str.ofString "max_cost", .int mx tz), (Str.ofString "pre", .int c.1 c.2)])
    (fun c => c.1 ≤ x.length ∧ c.1 ≤ y.length ∧ c.1 + lcp (x.drop c.1) (y.drop c.1) = lcp x y) (fun c => 3 - c.1) (0, tk)
    (fun _ => news) (fun c => [(Str.ofString "a", .str (st x) tx), (Str.ofString "b", .str (st y) ty), (Str.ofString "max_cost", .int mx tz), (Str.ofString "pre", .int c.1 c.2)])
    (fun c => c.1 ≤ x.length ∧ c.1 ≤ y.length ∧ c.1 = lcp x y)
    lF' lN' (fun _ h => h) (by kst_all) ⟨by simp, by simp, by simp⟩ ?_ ?_
  all_goals clear lF' lN'
  · intro c u h tk' hP Fc Nc Rq Sq hRn hRs hRv
    obtain ⟨i, ti⟩ := c
    dsimp only at hP Fc Nc ⊢
    obtain ⟨hP1, hP2, hP3⟩ := hP
    have f1 : ((Txt.slice (st x) (some (i : Int)) none).length : Int) = x.length - i := by rw [slice_from x i hP1, st_len, List.length_drop]; omega
    have f2 : ((Txt.slice (st y) (some (i : Int)) none).length : Int) = y.length - i := by rw [slice_from y i hP2, st_len, List.length_drop]; omega
    (repeat' (first | (k_unfold; (try dsimp only)) | (k_end; wrow_close) | ((fail_if_success (with_reducible show wpAny _ _ (exec (Stmt.While _ _ _ _) _) _ _ _)); (fail_if_success (with_reducible show wpAny _ _ (exec (Stmt.For _ _ _ _ _) _) _ _ _)); (first | walk1 | (dsimp only; walk1))) | (leave1; walk_say "STEP leave1"; try dsimp only) | fail "no step"))
    all_goals first
      | (rename (_ == _) = true => he
         rw [item_at _ _ (by omega), item_at _ _ (by omega), st_beq, decide_eq_true_eq, List.cons.injEq] at he
         refine (hRn _ (AtSt.intro (i + 1, _) (by assumption) (by assumption) (fun _ h => h) (by kst_all) ⟨⟨by omega, by omega, lcp_step hP3 (by omega) (by omega) he.1⟩, ?_⟩)).1
         dsimp only; omega)
      | (rename (_ == _) = false => he
         rw [item_at _ _ (by omega), item_at _ _ (by omega), st_beq, decide_eq_false_iff_not, List.cons.injEq] at he
         refine (hRs _ ?_).2; exact (AtSt.intro (i, _) (by assumption) (by assumption) (fun _ h => h) (by kst_all) ⟨by omega, by omega, lcp_end hP3 (.inr (.inr (by simpa using he)))⟩))
      | (refine (hRs _ ?_).2; exact (AtSt.intro (i, _) (by assumption) (by assumption) (fun _ h => h) (by kst_all) ⟨by omega, by omega, lcp_end hP3 (.inr (.inl (by omega)))⟩))
      | (refine (hRs _ ?_).2; exact (AtSt.intro (i, _) (by assumption) (by assumption) (fun _ h => h) (by kst_all) ⟨by omega, by omega, lcp_end hP3 (.inl (by omega))⟩))
  intro c u h tk' hP Fc Nc
  obtain ⟨k, tkk⟩ := c
  dsimp only at hP Fc Nc ⊢
  obtain ⟨hk1, hk2, hk3⟩ := hP
  (repeat' (first | (k_unfold; (try dsimp only)) | (k_end; wrow_close) | ((fail_if_success (with_reducible show wpAny _ _ (exec (Stmt.While _ _ _ _) _) _ _ _)); (fail_if_success (with_reducible show wpAny _ _ (exec (Stmt.For _ _ _ _ _) _) _ _ _)); (first | walk1 | (dsimp only; walk1))) | (leave1; walk_say "STEP leave1"; try dsimp only) | fail "no step"))
  rename Fr _ _ _ _ => lF'
  rename News _ _ _ _ => lN'
  rw [slice_from x k hk1, slice_from y k hk2] at lF'
  generalize hx1 : x.drop k = x1 at lF'
  generalize hy1 : y.drop k = y1 at lF'
  have lx1 : x1.length ≤ 3 := by rw [← hx1]; simp; omega
  have ly1 : y1.length ≤ 3 := by rw [← hy1]; simp; omega
  have lx := st_len x1
  have ly := st_len y1
  clear lx0 ly0 hx hy
  refine' whileX (σ := Tok × Tok × Tok × Nat × Int × Tok) (τ := Tok × Tok × Tok × Nat × Int × Tok) (fun _ => news) (fun c => [(Str.ofString "a", .str (st x1) c.1), (Str.ofString "b", .str (st y1) c.2.1), (Str.ofString "max_cost", .int mx c.2.2.1), (Str.ofString "post", .int c.2.2.2.2.1 c.2.2.2.2.2)])
    (fun c => c.2.2.2.2.1 = -(c.2.2.2.1 : Int) ∧ c.2.2.2.1 ≤ x1.length ∧ c.2.2.2.1 ≤ y1.length ∧ c.2.2.2.1 + lcp (x1.reverse.drop c.2.2.2.1) (y1.reverse.drop c.2.2.2.1) = lcp x1.reverse y1.reverse) (fun c => 3 - c.2.2.2.1) (_, _, _, 0, _, _)
    (fun _ => news) (fun c => [(Str.ofString "a", .str (st x1) c.1), (Str.ofString "b", .str (st y1) c.2.1), (Str.ofString "max_cost", .int mx c.2.2.1), (Str.ofString "post", .int c.2.2.2.2.1 c.2.2.2.2.2)])
    (fun c => c.2.2.2.2.1 = -(c.2.2.2.1 : Int) ∧ c.2.2.2.1 ≤ x1.length ∧ c.2.2.2.1 ≤ y1.length ∧ c.2.2.2.1 = lcp x1.reverse y1.reverse)
    lF' lN' (fun _ h => h) (by kst_all) ⟨by simp, by simp, by simp, by simp⟩ ?_ ?_
  all_goals clear lF' lN'
  · intro c u h tk' hP Fc Nc Rq Sq hRn hRs hRv
    obtain ⟨ta, tb, tc, i, z, ti⟩ := c
    dsimp only at hP Fc Nc ⊢
    obtain ⟨hz, hP1, hP2, hP3⟩ := hP
    have g1 : Unit → i < x1.length → _ := fun _ => item_neg x1 i
    have g2 : Unit → i < y1.length → _ := fun _ => item_neg y1 i
    rw [← hz] at g1 g2
    by_cases z0 : z = 0
    · have f2 : (Txt.slice (st x1) none none).length = x1.length := by rw [slice_all, st_len]
      have f4 : (Txt.slice (st y1) none none).length = y1.length := by rw [slice_all, st_len]
      (repeat' (first | (k_unfold; (try dsimp only)) | (k_end; wrow_close) | ((fail_if_success (with_reducible show wpAny _ _ (exec (Stmt.While _ _ _ _) _) _ _ _)); (fail_if_success (with_reducible show wpAny _ _ (exec (Stmt.For _ _ _ _ _) _) _ _ _)); (first | walk1 | (dsimp only; walk1))) | (leave1; walk_say "STEP leave1"; try dsimp only) | fail "no step"))
      all_goals first
        | (rename (_ == _) = true => he
           rw [g1 () (by omega), g2 () (by omega), st_beq, decide_eq_true_eq, List.cons.injEq] at he
           first | refine (hRn _ ?_).1 | refine (hRs _ ?_).2
           refine AtSt.intro (_, _, _, i + 1, _, _) (by assumption) (by assumption) (fun _ h => h) (by kst_all) ⟨⟨by dsimp only; omega, by dsimp only; omega, by dsimp only; omega, lcp_step hP3 (by simp; omega) (by simp; omega) he.1⟩, ?_⟩
           dsimp only; omega)
        | (rename (_ == _) = false => he
           rw [g1 () (by omega), g2 () (by omega), st_beq, decide_eq_false_iff_not, List.cons.injEq] at he
           first | refine (hRn _ ?_).1 | refine (hRs _ ?_).2
           exact AtSt.intro (_, _, _, i, _, _) (by assumption) (by assumption) (fun _ h => h) (by kst_all) ⟨hz, hP1, hP2, lcp_end hP3 (.inr (.inr (by simpa using he)))⟩)
        | ((first | refine (hRn _ ?_).1 | refine (hRs _ ?_).2); exact AtSt.intro (_, _, _, i, _, _) (by assumption) (by assumption) (fun _ h => h) (by kst_all) ⟨hz, hP1, hP2, lcp_end hP3 (.inl (by simp only [List.length_reverse]; omega))⟩)
        | ((first | refine (hRn _ ?_).1 | refine (hRs _ ?_).2); exact AtSt.intro (_, _, _, i, _, _) (by assumption) (by assumption) (fun _ h => h) (by kst_all) ⟨hz, hP1, hP2, lcp_end hP3 (.inr (.inl (by simp only [List.length_reverse]; omega)))⟩)
    · have f1 : ((Txt.slice (st x1) none (some z)).length : Int) = x1.length - i := by
        rw [hz, slice_to_neg _ _ (by omega) (by omega), st_len]; simp; omega
      have f3 : ((Txt.slice (st y1) none (some z)).length : Int) = y1.length - i := by
        rw [hz, slice_to_neg _ _ (by omega) (by omega), st_len]; simp; omega
      (repeat' (first | (k_unfold; (try dsimp only)) | (k_end; wrow_close) | ((fail_if_success (with_reducible show wpAny _ _ (exec (Stmt.While _ _ _ _) _) _ _ _)); (fail_if_success (with_reducible show wpAny _ _ (exec (Stmt.For _ _ _ _ _) _) _ _ _)); (first | walk1 | (dsimp only; walk1))) | (leave1; walk_say "STEP leave1"; try dsimp only) | fail "no step"))
      all_goals first
        | (rename (_ == _) = true => he
           rw [g1 () (by omega), g2 () (by omega), st_beq, decide_eq_true_eq, List.cons.injEq] at he
           first | refine (hRn _ ?_).1 | refine (hRs _ ?_).2
           refine AtSt.intro (_, _, _, i + 1, _, _) (by assumption) (by assumption) (fun _ h => h) (by kst_all) ⟨⟨by dsimp only; omega, by dsimp only; omega, by dsimp only; omega, lcp_step hP3 (by simp; omega) (by simp; omega) he.1⟩, ?_⟩
           dsimp only; omega)
        | (rename (_ == _) = false => he
           rw [g1 () (by omega), g2 () (by omega), st_beq, decide_eq_false_iff_not, List.cons.injEq] at he
           first | refine (hRn _ ?_).1 | refine (hRs _ ?_).2
           exact AtSt.intro (_, _, _, i, _, _) (by assumption) (by assumption) (fun _ h => h) (by kst_all) ⟨hz, hP1, hP2, lcp_end hP3 (.inr (.inr (by simpa using he)))⟩)
        | ((first | refine (hRn _ ?_).1 | refine (hRs _ ?_).2); exact AtSt.intro (_, _, _, i, _, _) (by assumption) (by assumption) (fun _ h => h) (by kst_all) ⟨hz, hP1, hP2, lcp_end hP3 (.inl (by simp only [List.length_reverse]; omega))⟩)
        | ((first | refine (hRn _ ?_).1 | refine (hRs _ ?_).2); exact AtSt.intro (_, _, _, i, _, _) (by assumption) (by assumption) (fun _ h => h) (by kst_all) ⟨hz, hP1, hP2, lcp_end hP3 (.inr (.inl (by simp only [List.length_reverse]; omega)))⟩)
  intro c u h tk' hP Fc Nc
  obtain ⟨ta, tb, tc, i, z, ti⟩ := c
  dsimp only at hP Fc Nc ⊢
  obtain ⟨hz, hP1, hP2, hP3⟩ := hP
  walk1
  -- a = a[:post or None]
  refine' cut (σ := Tok × Tok × Tok × Tok) Fc (fun _ => news) (fun c => [(Str.ofString "a", .str (st (x1.take (x1.length - i))) c.1), (Str.ofString "b", .str (st y1) c.2.1), (Str.ofString "max_cost", .int mx c.2.2.1), (Str.ofString "post", .int z c.2.2.2)]) (fun _ => True) ?_ ?_
  · intro Rq hRn hRv
    by_cases z0 : z = 0
    all_goals (repeat' (first | (k_unfold; (try dsimp only)) | (k_end; wrow_close) | ((fail_if_success (with_reducible show wpAny _ _ (exec (Stmt.While _ _ _ _) _) _ _ _)); (fail_if_success (with_reducible show wpAny _ _ (exec (Stmt.For _ _ _ _ _) _) _ _ _)); (first | walk1 | (dsimp only; walk1))) | (leave1; walk_say "STEP leave1"; try dsimp only) | fail "no step"))
    · rename Fr _ _ _ _ => lF'
      have : i = 0 := by omega
      subst this
      rw [slice_all] at lF'
      refine hRn _ ?_
      rw [Nat.sub_zero, List.take_length]
      exact AtSt.intro (_, _, _, _) lF' (by assumption) (fun _ h => h) (by kst_all) trivial
    · rename Fr _ _ _ _ => lF'
      rw [hz, slice_to_neg _ _ (by omega) (by omega)] at lF'
      refine hRn _ ?_
      rw [hz]
      exact AtSt.intro (_, _, _, _) lF' (by assumption) (fun _ h => h) (by kst_all) trivial
  intro c u h tk' _ Fc' Nc'
  clear Fc Nc
  obtain ⟨ta, tb, tc, ti⟩ := c
  dsimp only at Fc' Nc' ⊢
  walk1
  refine' cut (σ := Tok × Tok × Tok) Fc' (fun _ => news) (fun c => [(Str.ofString "a", .str (st (x1.take (x1.length - i))) c.1), (Str.ofString "b", .str (st (y1.take (y1.length - i))) c.2.1), (Str.ofString "max_cost", .int mx c.2.2)]) (fun _ => True) ?_ ?_
  · intro Rq hRn hRv
    by_cases z0 : z = 0
    all_goals (repeat' (first | (k_unfold; (try dsimp only)) | (k_end; wrow_close) | ((fail_if_success (with_reducible show wpAny _ _ (exec (Stmt.While _ _ _ _) _) _ _ _)); (fail_if_success (with_reducible show wpAny _ _ (exec (Stmt.For _ _ _ _ _) _) _ _ _)); (first | walk1 | (dsimp only; walk1))) | (leave1; walk_say "STEP leave1"; try dsimp only) | fail "no step"))
    · rename Fr _ _ _ _ => lF'
      have : i = 0 := by omega
      subst this
      rw [slice_all] at lF'
      refine hRn _ ?_
      rw [Nat.sub_zero, Nat.sub_zero, List.take_length, List.take_length]
      rw [Nat.sub_zero, List.take_length] at lF'
      exact AtSt.intro (_, _, _) lF' (by assumption) (fun _ h => h) (by kst_all) trivial
    · rename Fr _ _ _ _ => lF'
      rw [hz, slice_to_neg _ _ (by omega) (by omega)] at lF'
      refine hRn _ ?_
      exact AtSt.intro (_, _, _) lF' (by assumption) (fun _ h => h) (by kst_all) trivial
  intro c u h tk' _ Fc Nc
  clear Fc' Nc'
  obtain ⟨ta, tb, tc⟩ := c
  dsimp only at Fc Nc ⊢
  generalize hx2 : x1.take (x1.length - i) = x2 at Fc
  generalize hy2 : y1.take (y1.length - i) = y2 at Fc
  have hlev : levF x y mx = levG x2 y2 mx := by
    rw [levF, if_neg hne0]
    simp only [trim]
    rw [← hk3, hx1, hy1, ← hP3, hx2, hy2]
  have lx2 : x2.length ≤ 3 := by rw [← hx2]; simp; omega
  have ly2 : y2.length ≤ 3 := by rw [← hy2]; simp; omega
  clear hk1 hk2 hk3 hx1 hy1 lx1 ly1 hz hP1 hP2 hP3 lx ly hx2 hy2
  have lx := st_len x2
  have ly := st_len y2
  walk1
  walk1
  (repeat' (first | (k_unfold; (try dsimp only)) | (k_end; wrow_close) | ((fail_if_success (with_reducible show wpAny _ _ (exec (Stmt.If _ _ _ _) _) _ _ _)); (fail_if_success (with_reducible show wpAny _ _ (exec (Stmt.While _ _ _ _) _) _ _ _)); (fail_if_success (with_reducible show wpAny _ _ (exec (Stmt.For _ _ _ _ _) _) _ _ _)); (first | walk1 | (dsimp only; walk1))) | (leave1; walk_say "STEP leave1"; try dsimp only) | fail "no step"))
  rotate_left
  · exact cb_retI hret (by rw [hlev, levG, if_pos (.inr (by omega)), lx, ly]) (by assumption) (by assumption)
  · exact cb_retI hret (by rw [hlev, levG, if_pos (.inl (by omega)), lx, ly]) (by assumption) (by assumption)
  have hz2 : ¬ (x2.length = 0 ∨ y2.length = 0) := by omega
  walk1
  (repeat' (first | (k_unfold; (try dsimp only)) | (k_end; wrow_close) | ((fail_if_success (with_reducible show wpAny _ _ (exec (Stmt.If _ _ _ _) _) _ _ _)); (fail_if_success (with_reducible show wpAny _ _ (exec (Stmt.While _ _ _ _) _) _ _ _)); (fail_if_success (with_reducible show wpAny _ _ (exec (Stmt.For _ _ _ _ _) _) _ _ _)); (first | walk1 | (dsimp only; walk1))) | (leave1; walk_say "STEP leave1"; try dsimp only) | fail "no step"))
  refine' cut (σ := List Nat × List Nat × Tok × Tok × Tok) Fc (fun _ => news) (fun c => [(Str.ofString "a", .str (st c.1) c.2.2.1), (Str.ofString "b", .str (st c.2.1) c.2.2.2.1), (Str.ofString "max_cost", .int mx c.2.2.2.2)])
    (fun c => c.1 = (if y2.length < x2.length then y2 else x2) ∧ c.2.1 = (if y2.length < x2.length then x2 else y2)) ?_ ?_
  · intro Rq hRn hRv
    (repeat' (first | (k_unfold; (try dsimp only)) | (k_end; wrow_close) | ((fail_if_success (with_reducible show wpAny _ _ (exec (Stmt.While _ _ _ _) _) _ _ _)); (fail_if_success (with_reducible show wpAny _ _ (exec (Stmt.For _ _ _ _ _) _) _ _ _)); (first | walk1 | (dsimp only; walk1))) | (leave1; walk_say "STEP leave1"; try dsimp only) | fail "no step"))
    · refine hRn _ ?_
      exact AtSt.intro (y2, x2, _, _, _) (by assumption) (by assumption) (fun _ h => List.mem_cons_of_mem _ h) (by kst_all) ⟨by rw [if_pos (by omega)], by rw [if_pos (by omega)]⟩
    · refine hRn _ ?_
      exact AtSt.intro (x2, y2, _, _, _) (by assumption) (by assumption) (fun _ h => h) (by kst_all) ⟨by rw [if_neg (by omega)], by rw [if_neg (by omega)]⟩
  intro c u h tk' hP Fc' Nc'
  clear Fc Nc
  obtain ⟨x3, y3, ta, tb, tc⟩ := c
  dsimp only at hP Fc' Nc' ⊢
  have hl3 : 1 ≤ x3.length ∧ x3.length ≤ y3.length ∧ y3.length ≤ 3 := by
    obtain ⟨rfl, rfl⟩ := hP
    split <;> omega
  have hlev3 : levF x y mx = levH x3 y3 mx := by rw [hlev, levG, if_neg hz2, ← hP.1, ← hP.2]
  clear hP hlev hz2 lx2 ly2 lx ly
  have lx := st_len x3
  have ly := st_len y3
  walk1
  walk1
  (repeat' (first | (k_unfold; (try dsimp only)) | (k_end; wrow_close) | ((fail_if_success (with_reducible show wpAny _ _ (exec (Stmt.If _ _ _ _) _) _ _ _)); (fail_if_success (with_reducible show wpAny _ _ (exec (Stmt.While _ _ _ _) _) _ _ _)); (fail_if_success (with_reducible show wpAny _ _ (exec (Stmt.For _ _ _ _ _) _) _ _ _)); (first | walk1 | (dsimp only; walk1))) | (leave1; walk_say "STEP leave1"; try dsimp only) | fail "no step"))
  · exact cb_retI hret (by rw [hlev3, levH, if_pos (by omega)]) (by assumption) (by assumption)
  rename ¬ mx < _ => hnx
  have hlev4 : levF x y mx = if (List.range y3.length).any (fun j => decide (mx < (outerN x3 y3 (j + 1)).2.2)) then mx + 1 else (outerN x3 y3 y3.length).2.1 := by
    rw [hlev3, levH, if_neg (by omega)]
  clear hnx hlev3
  refine list_rangeL (n := x3.length) rfl (by assumption) (by assumption) (by assumption) ?_ ?_ (by omega) ?_
  · rw [lx]
    have : x3.length = 1 ∨ x3.length = 2 ∨ x3.length = 3 := by omega
    rcases this with q | q | q <;> rw [q] <;> decide
  · rw [lx]
    have : x3.length = 1 ∨ x3.length = 2 ∨ x3.length = 3 := by omega
    rcases this with q | q | q <;> rw [q] <;> decide
  intro D us c' h' tk9 F9 N9 lt9 hI9
  (repeat' (first | (k_unfold; (try dsimp only)) | (k_end; wrow_close) | ((fail_if_success (with_reducible show wpAny _ _ (exec (Stmt.If _ _ _ _) _) _ _ _)); (fail_if_success (with_reducible show wpAny _ _ (exec (Stmt.While _ _ _ _) _) _ _ _)); (fail_if_success (with_reducible show wpAny _ _ (exec (Stmt.For _ _ _ _ _) _) _ _ _)); (first | walk1 | (dsimp only; walk1))) | (leave1; walk_say "STEP leave1"; try dsimp only) | fail "no step"))
  ((rename Fr _ _ _ _ => lF'); (with_unfolding_all refine' For_invVF lF' ?k1 ?k2 ?_); (case k1 => exact rfl); (case k2 => exact rfl); (repeat' (first | ((fail_if_success (with_reducible show wpAny _ _ (pyIter _) _ _ _)); walk1) | ((fail_if_success (with_reducible show wpAny _ _ (pyIter _) _ _ _)); dsimp only; walk1))))
  refine' rangeX0 (n := y3.length) (σ := List Value × Nat × Int × Tok × Tok × Tok × Tok) (by assumption) (by assumption) (by assumption) (by omega) (by omega)
    (fun c => (D, W.listOf c.1.toArray c.2.1) :: news)
    (fun c => [(Str.ofString "a", .str (st x3) c.2.2.2.1), (Str.ofString "b", .str (st y3) c.2.2.2.2.1), (Str.ofString "max_cost", .int mx c.2.2.2.2.2.1), (Str.ofString "row", .ref D), (Str.ofString "result", .int c.2.2.1 c.2.2.2.2.2.2)])
    (fun j c => IntsAre c.1 (outerN x3 y3 j).1 ∧ c.2.2.1 = (outerN x3 y3 j).2.1 ∧ ∀ j' < j, (outerN x3 y3 (j' + 1)).2.2 ≤ mx)
    (us, c', 0, _, _, _, _) rfl (fun _ h => h) (by kst_all) ⟨hI9, rfl, fun _ h => absurd h (Nat.not_lt_zero _)⟩ ?_ (by intro c; simp; decide) ?_
  · intro j c t u h tk own hj hP hoff Fc Nc Rq hRn hRv
    obtain ⟨vs, e, res, ta, tb, tc, tr⟩ := c
    dsimp only at hP hoff Fc Nc ⊢
    dsimp only [envOf] at Fc Nc
    obtain ⟨hv, hr, hm⟩ := hP
    have lv : vs.length = x3.length := by rw [hv.length, outerN_len]
    (repeat' (first | (k_unfold; (try dsimp only)) | (k_end; wrow_close) | ((fail_if_success (with_reducible show wpAny _ _ (exec (Stmt.If _ _ _ _) _) _ _ _)); (fail_if_success (with_reducible show wpAny _ _ (exec (Stmt.While _ _ _ _) _) _ _ _)); (fail_if_success (with_reducible show wpAny _ _ (exec (Stmt.For _ _ _ _ _) _) _ _ _)); (first | walk1 | (dsimp only; walk1))) | (leave1; walk_say "STEP leave1"; try dsimp only) | fail "no step"))
    rename Fr _ _ _ _ => lF'
    rw [item_at y3 j hj] at lF'
    ((rename Fr _ _ _ _ => lF'); (with_unfolding_all refine' For_invVF lF' ?k1 ?k2 ?_); (case k1 => exact rfl); (case k2 => exact rfl); (repeat' (first | ((fail_if_success (with_reducible show wpAny _ _ (pyIter _) _ _ _)); walk1) | ((fail_if_success (with_reducible show wpAny _ _ (pyIter _) _ _ _)); dsimp only; walk1))))
    refine' rangeX0 (n := x3.length) (σ := List Value × Nat × Int × Int × Int × Tok × Tok × Tok × Tok × Tok × Tok × Tok) (by assumption) (by assumption) (by assumption) (by omega) (by omega)
      (fun c => (D, W.listOf c.1.toArray c.2.1) :: (news ++ own))
      (fun c => [(Str.ofString "a", .str (st x3) c.2.2.2.2.2.1), (Str.ofString "b", .str (st y3) c.2.2.2.2.2.2.1), (Str.ofString "max_cost", .int mx c.2.2.2.2.2.2.2.1), (Str.ofString "row", .ref D),
        (Str.ofString "bchar", .str (st [y3.getD j 0]) c.2.2.2.2.2.2.2.2.1), (Str.ofString "distance", .int c.2.2.1 c.2.2.2.2.2.2.2.2.2.1), (Str.ofString "result", .int c.2.2.2.1 c.2.2.2.2.2.2.2.2.2.2.1), (Str.ofString "minimum", .int c.2.2.2.2.1 c.2.2.2.2.2.2.2.2.2.2.2)])
      (fun i c => IntsAre c.1 (innerN (y3.getD j 0) x3 (j * 2) (outerN x3 y3 j).1 i).2.2.2 ∧ c.2.2.1 = (innerN (y3.getD j 0) x3 (j * 2) (outerN x3 y3 j).1 i).1 ∧ c.2.2.2.1 = (innerN (y3.getD j 0) x3 (j * 2) (outerN x3 y3 j).1 i).2.1 ∧ c.2.2.2.2.1 = (innerN (y3.getD j 0) x3 (j * 2) (outerN x3 y3 j).1 i).2.2.1)
      (vs, e, _, _, _, _, _, _, _, _, _, _) rfl (fun _ h => h) (by kst_all) ⟨hv, rfl, rfl, rfl⟩ ?_ (by intro c; simp; decide) ?_
    · intro i c t u h tk own' hi hP hoff' Fc Nc Rq hRn hRv
      obtain ⟨vs, e, di, re, mi, ta, tb, tc, td, te, tf, tg⟩ := c
      dsimp only at hP hoff' Fc Nc ⊢
      dsimp only [envOf] at Fc Nc
      obtain ⟨hv, hdi, hre, hmi⟩ := hP
      have lv : vs.length = x3.length := by rw [hv.length, innerN_len, outerN_len]
      have lv2 : (innerN (y3.getD j 0) x3 (j * 2) (outerN x3 y3 j).1 i).2.2.2.length = x3.length := by rw [innerN_len, outerN_len]
      have hne : ∀ p ∈ (news ++ own) ++ own', p.1 ≠ D := by
        intro p hp
        rcases List.mem_append.mp hp with hp | hp
        · rcases List.mem_append.mp hp with hp | hp
          · exact Nat.ne_of_lt (lt9 p hp)
          · exact hoff p hp D (by simp)
        · exact hoff' p hp D (by simp)
      have l1 := st_len [y3.getD j 0]
      rw [List.length_singleton] at l1
      (repeat' (first | (k_unfold; (try dsimp only)) | (k_end; wrow_close) | ((fail_if_success (with_reducible show wpAny _ _ (exec (Stmt.While _ _ _ _) _) _ _ _)); (fail_if_success (with_reducible show wpAny _ _ (exec (Stmt.For _ _ _ _ _) _) _ _ _)); (first | walk1 | (dsimp only; walk1))) | (leave1; walk_say "STEP leave1"; try dsimp only) | fail "no step"))
      · rename _ < mi => hlt
        rename IntsAre (List.set _ _ _) _ => hi2
        rename News _ _ _ _ => nE
        subst hdi hre hmi
        rw [item_at x3 i hi] at hi2 hlt
        first | refine (hRn _ ?_).1 | refine (hRs _ ?_).2
        refine AtSt.intro (_, _, _, _, _, _, _, _, _, _, _, _) (by assumption) nE (fun _ h => h) (by kst_all) ⟨⟨?_, rfl, ?_, ?_⟩, hoff'⟩
        · dsimp only
          rw [item_at x3 i hi]; exact hi2
        · dsimp only
          rw [item_at x3 i hi]; rfl
        · dsimp only
          rw [item_at x3 i hi]; exact (if_pos hlt).symm
      · rename ¬ _ < mi => hlt
        rename IntsAre (List.set _ _ _) _ => hi2
        rename News _ _ _ _ => nE
        subst hdi hre hmi
        rw [item_at x3 i hi] at hi2 hlt
        first | refine (hRn _ ?_).1 | refine (hRs _ ?_).2
        refine AtSt.intro (_, _, _, _, _, _, _, _, _, _, _, _) (by assumption) nE (fun _ h => h) (by kst_all) ⟨⟨?_, rfl, ?_, ?_⟩, hoff'⟩
        · dsimp only
          rw [item_at x3 i hi]; exact hi2
        · dsimp only
          rw [item_at x3 i hi]; rfl
        · exact (if_neg hlt).symm
    intro c u h tk hP Fc Nc
    obtain ⟨vs, e, di, re, mi, ta, tb, tc, td, te, tf, tg⟩ := c
    dsimp only at hP Fc Nc ⊢
    dsimp only [envOf] at Fc Nc
    obtain ⟨hv, hdi, hre, hmi⟩ := hP
    (repeat' (first | (k_unfold; (try dsimp only)) | (k_end; wrow_close) | ((fail_if_success (with_reducible show wpAny _ _ (exec (Stmt.While _ _ _ _) _) _ _ _)); (fail_if_success (with_reducible show wpAny _ _ (exec (Stmt.For _ _ _ _ _) _) _ _ _)); (first | walk1 | (dsimp only; walk1))) | (leave1; walk_say "STEP leave1"; try dsimp only) | fail "no step"))
    · rename mx < mi => hgt
      refine hRv.2 _ _ ?_
      (repeat' (first | (k_unfold; (try dsimp only)) | (k_end; wrow_close) | ((fail_if_success (with_reducible show wpAny _ _ (exec (Stmt.While _ _ _ _) _) _ _ _)); (fail_if_success (with_reducible show wpAny _ _ (exec (Stmt.For _ _ _ _ _) _) _ _ _)); (first | walk1 | (dsimp only; walk1))) | (leave1; walk_say "STEP leave1"; try dsimp only) | fail "no step"))
      rename News _ _ _ _ => nE
      refine cb_retI hret ?_ (by assumption) (cb_drop nE (fun p hp => by simp [hp]))
      rw [hlev4, if_pos]
      rw [List.any_eq_true]
      exact ⟨j, List.mem_range.mpr hj, decide_eq_true (by show mx < (innerN _ _ _ _ _).2.2.1; rw [← hmi]; exact hgt)⟩
    · rename ¬ mx < mi => hle
      first | refine (hRn _ ?_).1 | refine (hRs _ ?_).2
      refine AtSt.intro (vs, e, re, _, _, _, _) (by assumption) (by assumption) (fun _ h => h) (by kst_all) ⟨⟨hv, hre, ?_⟩, hoff⟩
      intro j' hj'
      rcases Nat.lt_or_eq_of_le (Nat.le_of_lt_succ hj') with q | q
      · exact hm j' q
      · subst q
        show (innerN _ _ _ _ _).2.2.1 ≤ mx
        rw [← hmi]; omega
  intro c u h tk hP Fc Nc
  obtain ⟨vs, e, res, ta, tb, tc, tr⟩ := c
  dsimp only at hP Fc Nc ⊢
  dsimp only [envOf] at Fc Nc
  obtain ⟨hv, hr, hm⟩ := hP
  (repeat' (first | (k_unfold; (try dsimp only)) | (k_end; wrow_close) | ((fail_if_success (with_reducible show wpAny _ _ (exec (Stmt.While _ _ _ _) _) _ _ _)); (fail_if_success (with_reducible show wpAny _ _ (exec (Stmt.For _ _ _ _ _) _) _ _ _)); (first | walk1 | (dsimp only; walk1))) | (leave1; walk_say "STEP leave1"; try dsimp only) | fail "no step"))
  rename News _ _ _ _ => nE
  refine cb_retI hret ?_ (by assumption) (cb_drop nE (fun p hp => by simp [hp]))
  rw [hlev4, if_neg, hr]
  rw [List.any_eq_true]
  rintro ⟨j, hj, q⟩
  have := hm j (List.mem_range.mp hj)
  have := of_decide_eq_true q
  omega
end
end Mine
end
section
set_option maxRecDepth 100000
namespace Mine
open PySem PySem.W PyProof.Rows PySem.Calls PySem.Spec PyProof
/-- min(a, b, c) of Python -/
def mn3 (a b c : Int) : Int := mn (mn a b) c
section
variable {prog : Program} {w : World} {A : Around} {E : Value → Shared → Prop} {s : Shared} {h₀ : Heap} {L : Addr} {m : Str → Option Value} {news news' : List (Addr × Obj)}
/-- an item of a list that the ledger writes out -/
theorem item_led {value slice : PySem.Expr} {l : Addr} {vs : List Value} {n : Nat} {k : Int} {u : Tok} {v : Value} {Q : Value → Shared → Prop} (N : News h₀ L s.heap news)
    (hm : (l, W.listOf vs.toArray n) ∈ news) (h0 : 0 ≤ k) (hhi : k < 2 ^ 63) (hx : vs[k.toNat]? = some v) (h : Q v s)
    (hs : subscripted slice false (.ref l) (.int k u) = operate [.ref l, .int k u] (getItem (.ref l) (.int k u)) := by with_unfolding_all rfl) :
    wpAny (model prog w) A (subscriptTail value slice (.ref l) (.int k u)) Q E s :=
  have hl : s.heap.IsList l vs.toArray := PySem.IsL.isList (n := n) (N _ hm).1
  tail_any hl.typeIs slot_list_getitem.lookup (wpAny_getItem_list hl h0 hhi (by simpa using hx) h) hs
/-- the last item -/
theorem last_led {value slice : PySem.Expr} {l : Addr} {vs : List Value} {n k : Nat} {u : Tok} {v : Value} {Q : Value → Shared → Prop} (N : News h₀ L s.heap news)
    (hm : (l, W.listOf vs.toArray n) ∈ news) (hk : vs.length = k + 1) (hz : k < 1000000) (hx : vs[k]? = some v) (h : Q v s)
    (hs : subscripted slice false (.ref l) (.int (-1) u) = operate [.ref l, .int (-1) u] (getItem (.ref l) (.int (-1) u)) := by with_unfolding_all rfl) :
    wpAny (model prog w) A (subscriptTail value slice (.ref l) (.int (-1) u)) Q E s :=
  have hl : s.heap.IsList l vs.toArray := PySem.IsL.isList (n := n) (N _ hm).1
  tail_any hl.typeIs slot_list_getitem.lookup (wpAny_getItem_list_neg hl (by omega) (by simp; omega) (by omega) (by
    have : (-1 + (vs.toArray.size : Int)).toNat = k := by simp; omega
    rw [this]; simpa using hx) h) hs
theorem append_L {D : Addr} {vs : List Value} {n : Nat} {x : Value} {Q : Value → Shared → Prop} (F : Fr h₀ L s.heap m) (N : News h₀ L s.heap news) (U : Upd D (W.listOf vs.toArray n) (W.listOf (vs ++ [x]).toArray (n + 1)) news news')
    (hsz : vs.length ≤ 100000) (h : ∀ h', Fr h₀ L h' m → News h₀ L h' news' → Q .none { s with heap := h' }) : wpAny (model prog w) A (call (.builtin "list.append") [.ref D, x]) Q E s := by
  have e : (vs ++ [x]).toArray = vs.toArray.push x := by simp
  rw [e] at U
  refine append_K F N U h ?_
  rw [List.size_toArray]
  have : sizeLine = 16777216 := rfl
  omega
theorem min_three_N {a b c : Int} {t u x : Tok} {Q : Value → Shared → Prop} (hh : A.handled = none) (F : Fr h₀ L s.heap m) (N : News h₀ L s.heap news)
    (h : ∀ h' tk tok, Fr h₀ L h' m → News h₀ L h' news → Q (.int (mn3 a b c) tok) { s with heap := h', toks := tk }) :
    wpAny (model prog w) A (call (.builtin "min") [.int a t, .int b u, .int c x]) Q E s :=
  min_three_ints hh fun h' tk hk => by
    have := fun tok => h h' tk tok (F.grownK hk) (N.grown hk)
    simp only [mn3, mn] at this
    by_cases hba : b < a <;> by_cases hc1 : c < b <;> by_cases hc2 : c < a <;> simp only [hba, hc1, hc2, if_true, if_false] at this ⊢ <;> exact this _
end
end Mine
end
section
open PySem PySem.W PyProof.Rows PySem.Calls PySem.Spec PyProof
set_option maxRecDepth 100000
set_option maxHeartbeats 8000000
namespace Mine
theorem calmPrice : True := by
  w_top off
  trivial
set_option pp.deepTerms false
set_option pp.maxSteps 6000
set_option pp.deepTerms.threshold 8
def cellP (x y : List Nat) (prev : List Int) (i : Nat) (row : List Int) (j : Nat) : Int :=
  if x.getD i 0 = y.getD j 0 then prev.getD j 0
  else mn3 (prev.getD j 0 + if Txt.lower (st [x.getD i 0]) = Txt.lower (st [y.getD j 0]) then 1 else 2) (prev.getD (j + 1) 0 + 2) (row.getD j 0 + 2)
def rowN (x y : List Nat) (prev : List Int) (i : Nat) : Nat → List Int
  | 0 => [2 * ((i : Int) + 1)]
  | j + 1 => rowN x y prev i j ++ [cellP x y prev i (rowN x y prev i j) j]
def tabN (x y : List Nat) : Nat → List Int
  | 0 => (rangeKs 0 (y.length + 1)).map (fun k => 2 * k)
  | i + 1 => rowN x y (tabN x y i) i y.length
/-- what _law_price reckons -/
def priceF (x y : List Nat) : Int := (tabN x y x.length).getD y.length 0
theorem rowN_len (x y : List Nat) (prev : List Int) (i j : Nat) : (rowN x y prev i j).length = j + 1 := by
  induction j with
  | zero => rfl
  | succ j ih => simp [rowN, ih]
theorem tabN_len (x y : List Nat) (i : Nat) : (tabN x y i).length = y.length + 1 := by
  cases i with
  | zero => simp [tabN, rangeKs_length]
  | succ i => simp [tabN, rowN_len]
local macro_rules | `(tactic| walk_at "call builtin:list.append") => `(tactic| (k_here; (try dsimp only); (show wpAny _ _ (call (Value.builtin _) [Value.ref _, _]) _ _ _); k_dflt (first | (refine' append_L ?k1 ?k2 (Upd.head ?k3) ?k4 ?_; (case k1 | k2 => k_asm); (case k3 => assumption); (case k4 => omega)) | (refine' append_L ?k1 ?k2 (Upd.tail ?k5 (Upd.head ?k3)) ?k4 ?_; (case k1 | k2 => k_asm); (case k5 | k3 => assumption); (case k4 => omega))); intro h' F' N'))
local macro_rules | `(tactic| walk_at "call builtin:min") => `(tactic| (k_here; (try dsimp only); (show wpAny _ _ (call (Value.builtin _) [Value.int _ _, Value.int _ _, Value.int _ _]) _ _ _); k_dflt (refine' min_three_N ?k0 ?k1 ?k2 ?_; (case k0 => rfl); (case k1 | k2 => k_asm)); intro h' tk' tok' F' N'))
-- steps up to a loop
-- steps up to a loop or an if
-- opens a for, up to its walk
local macro_rules | `(tactic| walk_at "subscriptTail") => `(tactic| (k_here; (try dsimp only); (show wpAny _ _ (subscriptTail _ _ (Value.ref _) (Value.int _ _)) _ _ _); k_dflt (refine' item_led ?k1 ?k2 ?k3 ?k4 ?k5 ?_ ?k6; (case k1 => k_asm); (case k2 => k_mem); (case k3 | k4 => omega); (case k5 => assumption); (case k6 => with_unfolding_all rfl))))
section
variable {w : World} {p : Program} {loose : List Str} {mean : ExcName → Option Value} {mg mb : Str → Option Value}
   {dp un : Nat} {gd : Option (List Code)} {cn : Str} {cs : Scope} {a : Addr} {ccd : Value} {cl : List (Str × Addr)} {outer : List Env} {A₀ : Around} {base h₀ : Heap} {L : Addr} {m : Str → Option Value} {news : List (Addr × Obj)} {s : Shared} {Q E : Value → Shared → Prop}
theorem price_call {x y : List Nat} {tx ty : Tok} (hx : x.length ≤ 1000) (hy : y.length ≤ 1000) (hx1 : 1 ≤ x.length) (hy1 : 1 ≤ y.length)
   (B : Below A₀ base outer h₀) (F : Fr h₀ L s.heap m) (X : (hd.heap_39 w.params).In h₀) (N : News h₀ L s.heap news) (T : Top p loose mean mg mb h₀) (hk : cs.kind = .function)
   (hd : dp + 10 < recursionLimit) (hu : un + 40 < cLine) (hret : CbRet h₀ L m news s Q (fun t => .int (priceF x y) t)) :
      wpAny (model PySem.Challenge.rw_pe0242_01.prog w) (ktrTop dp un gd cn cs L a ccd cl outer) (call (.ref 206) [.str (st x) tx, .str (st y) ty]) Q E s := by
  have lx := st_len x
  have ly := st_len y
  refine wpAny_call ?_
  k_dflt cell_enter
  (repeat' (first | (k_unfold; (try dsimp only)) | (k_end; wrow_close) | ((fail_if_success (with_reducible show wpAny _ _ (exec (Stmt.If _ _ _ _) _) _ _ _)); (fail_if_success (with_reducible show wpAny _ _ (exec (Stmt.While _ _ _ _) _) _ _ _)); (fail_if_success (with_reducible show wpAny _ _ (exec (Stmt.For _ _ _ _ _) _) _ _ _)); (first | walk1 | (dsimp only; walk1))) | (leave1; walk_say "STEP leave1"; try dsimp only) | fail "no step"))
  rename_i ys hI8 hL8 D hh2 tk2 o1 l hh1 l1 hh F2 N2
  have hy0 : ((((st y).length : Int) + 1 - 0).toNat) = y.length + 1 := by omega
  rw [hy0] at hI8
  have hnl : ∀ p ∈ news, p.1 < l := kst_ltOf l1.2
  ((rename Fr _ _ _ _ => lF'); (with_unfolding_all refine' For_invVF lF' ?k1 ?k2 ?_); (case k1 => exact rfl); (case k2 => exact rfl); (repeat' (first | ((fail_if_success (with_reducible show wpAny _ _ (pyIter _) _ _ _)); walk1) | ((fail_if_success (with_reducible show wpAny _ _ (pyIter _) _ _ _)); dsimp only; walk1))))
  refine' rangeX0 (n := x.length) (σ := List Value × Nat × Addr × List Value × Nat × Tok × Tok) (by assumption) (by assumption) (by assumption) (by omega) (by omega)
    (fun c => (l, W.listOf c.1.toArray c.2.1) :: (c.2.2.1, W.listOf c.2.2.2.1.toArray c.2.2.2.2.1) :: news)
    (fun c => [(Str.ofString "one", .str (st x) c.2.2.2.2.2.1), (Str.ofString "other", .str (st y) c.2.2.2.2.2.2), (Str.ofString "table", .ref l)])
    (fun i c => c.1.length = i + 1 ∧ c.1[i]? = some (.ref c.2.2.1) ∧ c.2.2.1 ≠ l ∧ IntsAre c.2.2.2.1 (tabN x y i))
    ([.ref D], 0, D, ys, ys.length, _, _) rfl (fun _ h => h) (by kst_all) ⟨rfl, rfl, Nat.ne_of_lt l1.1, hI8⟩ ?_ (by intro c; simp; decide) ?_
  · intro i c t u h tk own hi hP hoff Fc Nc Rq hRn hRv
    obtain ⟨rs, n, D, vs, e, ta, tb⟩ := c
    dsimp only at hP hoff Fc Nc ⊢
    dsimp only [envOf] at Fc Nc
    obtain ⟨hrl, hri, hDl, hv⟩ := hP
    have lv : vs.length = y.length + 1 := by rw [hv.length, tabN_len]
    have lv2 : (tabN x y i).length = y.length + 1 := tabN_len ..
    (repeat' (first | (k_unfold; (try dsimp only)) | (k_end; wrow_close) | ((fail_if_success (with_reducible show wpAny _ _ (exec (Stmt.If _ _ _ _) _) _ _ _)); (fail_if_success (with_reducible show wpAny _ _ (exec (Stmt.While _ _ _ _) _) _ _ _)); (fail_if_success (with_reducible show wpAny _ _ (exec (Stmt.For _ _ _ _ _) _) _ _ _)); (first | walk1 | (dsimp only; walk1))) | (leave1; walk_say "STEP leave1"; try dsimp only) | fail "no step"))
    rename_i R hh1 lR hh F3 N3
    ((rename Fr _ _ _ _ => lF'); (with_unfolding_all refine' For_invVF lF' ?k1 ?k2 ?_); (case k1 => exact rfl); (case k2 => exact rfl); (repeat' (first | ((fail_if_success (with_reducible show wpAny _ _ (pyIter _) _ _ _)); walk1) | ((fail_if_success (with_reducible show wpAny _ _ (pyIter _) _ _ _)); dsimp only; walk1))))
    refine' rangeX0 (n := y.length) (σ := List Value × Nat × Tok × Tok × Tok) (by assumption) (by assumption) (by assumption) (by omega) (by omega)
      (fun c => (R, W.listOf c.1.toArray c.2.1) :: ((l, W.listOf rs.toArray n) :: (D, W.listOf vs.toArray e) :: news ++ own))
      (fun c => [(Str.ofString "one", .str (st x) c.2.2.1), (Str.ofString "other", .str (st y) c.2.2.2.1), (Str.ofString "table", .ref l), (Str.ofString "row", .ref R), (Str.ofString "i", .int i c.2.2.2.2)])
      (fun j c => IntsAre c.1 (rowN x y (tabN x y i) i j))
      ([_], 0, _, _, _) rfl (fun _ h => h) (by kst_all) (.cons _ _ .nil) ?_ (by intro c; simp; decide) ?_
    · intro j c t u h tk own' hj hP hoff' Fc Nc Rq hRn hRv
      obtain ⟨us, e', ta, tb, tc⟩ := c
      dsimp only at hP hoff' Fc Nc ⊢
      dsimp only [envOf] at Fc Nc
      have lu : us.length = j + 1 := by rw [hP.length, rowN_len]
      have lu2 : (rowN x y (tabN x y i) i j).length = j + 1 := rowN_len ..
      have hri' : rs[(i : Int).toNat]? = some (Value.ref D) := hri
      have hne : ∀ p ∈ ((l, W.listOf rs.toArray n) :: (D, W.listOf vs.toArray e) :: news ++ own) ++ own', p.1 ≠ R := by
        intro p hp
        rcases List.mem_append.mp hp with hp | hp
        · exact Nat.ne_of_lt (lR p hp)
        · exact hoff' p hp R (by simp)
      (repeat' (first | (k_unfold; (try dsimp only)) | (k_end; wrow_close) | ((fail_if_success (with_reducible show wpAny _ _ (exec (Stmt.While _ _ _ _) _) _ _ _)); (fail_if_success (with_reducible show wpAny _ _ (exec (Stmt.For _ _ _ _ _) _) _ _ _)); (first | walk1 | (dsimp only; walk1))) | (leave1; walk_say "STEP leave1"; try dsimp only) | fail "no step"))
      · rename (Txt.item _ _ == Txt.item _ _) = true => he
        rw [item_at x i hi, item_at y j hj, st_beq, decide_eq_true_eq, List.cons.injEq] at he
        rename News _ _ _ _ => nE
        first | refine (hRn _ ?_).1 | refine hRn _ ?_ | refine (hRs _ ?_).2 | refine (hRs _ ?_).1
        refine AtSt.intro (_, _, _, _, _) (by assumption) nE (fun _ h => h) (by kst_all) ⟨?_, hoff'⟩
        have e : cellP x y (tabN x y i) i (rowN x y (tabN x y i) i j) j = (tabN x y i).getD j 0 := by rw [cellP, if_pos he.1]
        show IntsAre (us ++ [_]) (rowN x y (tabN x y i) i j ++ [cellP x y (tabN x y i) i (rowN x y (tabN x y i) i j) j])
        rw [e]; exact hP.append (.cons _ _ .nil)
      · rename (Txt.item _ _ == Txt.item _ _) = false => he
        rw [item_at x i hi, item_at y j hj, st_beq, decide_eq_false_iff_not, List.cons.injEq, and_iff_left rfl] at he
        rename (Txt.lower _ == Txt.lower _) = true => hl
        rw [item_at x i hi, item_at y j hj, beq_iff_eq] at hl
        rename News _ _ _ _ => nE
        first | refine (hRn _ ?_).1 | refine hRn _ ?_ | refine (hRs _ ?_).2 | refine (hRs _ ?_).1
        refine AtSt.intro (_, _, _, _, _) (by assumption) nE (fun _ h => h) (by kst_all) ⟨?_, hoff'⟩
        have e : cellP x y (tabN x y i) i (rowN x y (tabN x y i) i j) j = mn3 ((tabN x y i).getD j 0 + 1) ((tabN x y i).getD (j + 1) 0 + 2) ((rowN x y (tabN x y i) i j).getD j 0 + 2) := by rw [cellP, if_neg he, if_pos hl]
        show IntsAre (us ++ [_]) (rowN x y (tabN x y i) i j ++ [cellP x y (tabN x y i) i (rowN x y (tabN x y i) i j) j])
        rw [e]; exact hP.append (.cons _ _ .nil)
      · rename (Txt.item _ _ == Txt.item _ _) = false => he
        rw [item_at x i hi, item_at y j hj, st_beq, decide_eq_false_iff_not, List.cons.injEq, and_iff_left rfl] at he
        rename (Txt.lower _ == Txt.lower _) = false => hl
        rw [item_at x i hi, item_at y j hj, beq_eq_false_iff_ne] at hl
        rename News _ _ _ _ => nE
        first | refine (hRn _ ?_).1 | refine hRn _ ?_ | refine (hRs _ ?_).2 | refine (hRs _ ?_).1
        refine AtSt.intro (_, _, _, _, _) (by assumption) nE (fun _ h => h) (by kst_all) ⟨?_, hoff'⟩
        have e : cellP x y (tabN x y i) i (rowN x y (tabN x y i) i j) j = mn3 ((tabN x y i).getD j 0 + 2) ((tabN x y i).getD (j + 1) 0 + 2) ((rowN x y (tabN x y i) i j).getD j 0 + 2) := by rw [cellP, if_neg he, if_neg hl]
        show IntsAre (us ++ [_]) (rowN x y (tabN x y i) i j ++ [cellP x y (tabN x y i) i (rowN x y (tabN x y i) i j) j])
        rw [e]; exact hP.append (.cons _ _ .nil)
    intro c u h tk hP Fc Nc
    obtain ⟨us, e', ta, tb, tc⟩ := c
    dsimp only at hP Fc Nc ⊢
    dsimp only [envOf] at Fc Nc
    have hRl : R ≠ l := Nat.ne_of_gt (lR (l, W.listOf rs.toArray n) (by simp))
    have hnl2 : ∀ p ∈ ((D, W.listOf vs.toArray e) :: news) ++ own, p.1 ≠ l := by
      intro p hp
      rcases List.mem_append.mp hp with hp | hp
      · rcases List.mem_cons.mp hp with rfl | hp
        · exact hDl
        · exact Nat.ne_of_lt (hnl p hp)
      · exact hoff p hp l (by simp)
    (repeat' (first | (k_unfold; (try dsimp only)) | (k_end; wrow_close) | ((fail_if_success (with_reducible show wpAny _ _ (exec (Stmt.While _ _ _ _) _) _ _ _)); (fail_if_success (with_reducible show wpAny _ _ (exec (Stmt.For _ _ _ _ _) _) _ _ _)); (first | walk1 | (dsimp only; walk1))) | (leave1; walk_say "STEP leave1"; try dsimp only) | fail "no step"))
    rename News _ _ _ _ => nE
    first | refine (hRn _ ?_).1 | refine hRn _ ?_ | refine (hRs _ ?_).2 | refine (hRs _ ?_).1
    refine AtSt.intro (rs ++ [.ref R], n + 1, R, us, e', _, _) (by assumption) nE ?_ (by kst_all) ⟨⟨by simp [hrl], ?_, hRl, hP⟩, ?_⟩
    · intro p hp
      simp only [List.cons_append, List.mem_cons, List.mem_append] at hp
      show p ∈ (R, W.listOf us.toArray e') :: (l, W.listOf (rs ++ [Value.ref R]).toArray (n + 1)) :: (D, W.listOf vs.toArray e) :: (news ++ own)
      simp only [List.mem_cons, List.mem_append]
      rcases hp with h | h | h | h
      · exact .inr (.inl h)
      · exact .inl h
      · exact .inr (.inr (.inr (.inl h)))
      · exact .inr (.inr (.inr (.inr h)))
    · dsimp only
      rw [List.getElem?_append_right (by omega), hrl]
      simp
    · intro p hp b hb
      simp only [List.map_cons, List.mem_cons] at hb
      rcases hb with rfl | rfl | hb
      · exact hoff p hp _ (by simp)
      · exact Nat.ne_of_lt (lR p (by simp [hp]))
      · exact hoff p hp b (by simp only [List.map_cons, List.mem_cons]; exact .inr (.inr hb))
  intro c u h tk hP Fc Nc
  obtain ⟨rs, n, D, vs, e, ta, tb⟩ := c
  dsimp only at hP Fc Nc ⊢
  dsimp only [envOf] at Fc Nc
  obtain ⟨hrl, hri, hDl, hv⟩ := hP
  have lv : vs.length = y.length + 1 := by rw [hv.length, tabN_len]
  have lv2 : (tabN x y x.length).length = y.length + 1 := tabN_len ..
  (repeat' (first | (k_unfold; (try dsimp only)) | (k_end; wrow_close) | ((fail_if_success (with_reducible show wpAny _ _ (exec (Stmt.While _ _ _ _) _) _ _ _)); (fail_if_success (with_reducible show wpAny _ _ (exec (Stmt.For _ _ _ _ _) _) _ _ _)); (first | walk1 | (dsimp only; walk1))) | (leave1; walk_say "STEP leave1"; try dsimp only) | fail "no step"))
  dsimp only
  refine last_led (k := x.length) Nc (List.Mem.head _) hrl (by omega) hri ?_
  (repeat' (first | (k_unfold; (try dsimp only)) | (k_end; wrow_close) | ((fail_if_success (with_reducible show wpAny _ _ (exec (Stmt.While _ _ _ _) _) _ _ _)); (fail_if_success (with_reducible show wpAny _ _ (exec (Stmt.For _ _ _ _ _) _) _ _ _)); (first | walk1 | (dsimp only; walk1))) | (leave1; walk_say "STEP leave1"; try dsimp only) | fail "no step"))
  rename News _ _ _ _ => nE
  exact cb_retI hret (by rw [lv2, priceF]; congr 1; omega) (by assumption) (cb_drop nE (fun p hp => by simp [hp]))
end
end Mine
end
section
open PySem PySem.W PyProof.Rows PySem.Calls PySem.Spec PyProof
set_option maxRecDepth 100000
set_option maxHeartbeats 8000000
namespace Mine
theorem calmWord : True := by
  w_top off
  trivial
set_option pp.deepTerms false
set_option pp.maxSteps 6000
set_option pp.deepTerms.threshold 8
-- steps up to a loop
-- steps up to a loop or an if
-- steps up to a comprehension, its source, its end
local macro_rules | `(tactic| walk_at "binaryOp FloorDiv int int") => `(tactic| ((show wpAny _ _ (binaryOp _ (Value.int _ _) (Value.int _ _)) _ _ _); refine floordiv_int (by assumption) ?_ ?hp9; (case hp9 => exact Or.inl (PyProof.noPylong_small (by assumption)))))
-- opens a for, up to its walk
local macro_rules | `(tactic| walk_at "subscriptTail") => `(tactic| (k_here; (try dsimp only); (show wpAny _ _ (subscriptTail _ _ (Value.ref _) (Value.int _ _)) _ _ _); k_dflt (refine' item_led ?k1 ?k2 ?k3 ?k4 ?k5 ?_ ?k6; (case k1 => k_asm); (case k2 => k_mem); (case k3 | k4 => omega); (case k5 => assumption); (case k6 => with_unfolding_all rfl))))
section
variable {w : World} {p : Program} {loose : List Str} {mean : ExcName → Option Value} {mg mb : Str → Option Value}
   {dp un : Nat} {gd : Option (List Code)} {cn : Str} {cs : Scope} {a : Addr} {ccd : Value} {cl : List (Str × Addr)} {outer : List Env} {A₀ : Around} {base h₀ : Heap} {L : Addr} {m : Str → Option Value} {news : List (Addr × Obj)} {s : Shared} {Q E : Value → Shared → Prop}
/-- the sign told by a figure -/
def sg (i : Int) : Nat := [97, 65, 98, 45].getD i.toNat 0
theorem item_sg (i : Int) (h0 : 0 ≤ i) (h1 : i < 4) : Txt.item (Str.ofString "aAb-") i = st [sg i] := by
  have e : Str.ofString "aAb-" = st [97, 65, 98, 45] := by decide +kernel
  rw [e]
  have : i = ((i.toNat : Nat) : Int) := by omega
  rw [this, item_at _ _ (by simp; omega)]
  rfl
theorem join_st {α : Type} (f : α → Nat) (l : List α) : PySem.Txt.join (Str.ofString "") (l.map fun k => st [f k]) = st (l.map f) := by
  show Builtin.Str.glued (Str.ofString "") _ = _
  have e : Str.ofString "" = ⟨#[]⟩ := by decide +kernel
  rw [StrLaws.glued_eq_join, e]
  have := PyProof.Rows.join_ones (l.map f)
  rw [List.map_map] at this
  exact this
/-- what _law_word reckons -/
def wordF (x : Int) : List Nat := (rangeKs 0 (x.fmod 3 + 1 - 0).toNat).map fun k => sg (((x.fdiv 3).fdiv (4 ^ k.toNat)).fmod 4)
theorem word_call {x : Int} {tx : Tok} (hx0 : 0 ≤ x) (hx1 : x < 100000000)
   (B : Below A₀ base outer h₀) (F : Fr h₀ L s.heap m) (X : (hd.heap_39 w.params).In h₀) (N : News h₀ L s.heap news) (T : Top p loose mean mg mb h₀) (hk : cs.kind = .function)
   (hd : dp + 10 < recursionLimit) (hu : un + 40 < cLine) (hret : CbRet h₀ L m news s Q (fun t => .str (st (wordF x)) t)) :
      wpAny (model PySem.Challenge.rw_pe0242_01.prog w) (ktrTop dp un gd cn cs L a ccd cl outer) (call (.ref 201) [.int x tx]) Q E s := by
  refine wpAny_call ?_
  k_dflt (refine' code_defC ?k1 ?k2 ?k3 ?k4 ?k5 ?kA ?kF ?kK ?k6 ?k7 ?k8 ?k9 ?kB ?kD ?_ ?c2 ?c3 ?c4; (case kA => exact rfl); (case kF => exact rfl); (case kK => assumption); (case k1 => k_asm); (case k2 => k_asm); (case k3 => k_asm); (case k4 => k_asm); (case k5 => k_asm); (case k6 => k_is); (case k7 => k_is); (case k8 => ktr_room); (case k9 => exact BindsTo.of_eq rfl); (case kB => exact rfl); (case kD => decide +kernel); (case c2 => exact rfl); (case c3 => exact rfl); (case c4 => exact rfl); k_whole; intro g' L' h' tk' cells' FG' F' N' Y' B' X' T' l1; (try k_lt l1); k_cells Y'; (try simp only [List.cons_append, List.nil_append] at N'); (try dsimp only); (try k_lift B'); (try k_fold))
  have h3 : 0 ≤ x.fmod 3 ∧ x.fmod 3 < 3 := by rw [Int.fmod_eq_emod_of_nonneg _ (by decide)]; omega
  (repeat' (first | (k_unfold; (try dsimp only)) | (k_end; wrow_close) | ((fail_if_success (with_reducible show wpAny _ _ (eval (Expr.ListComp _ _ _ _) _) _ _ _)); (fail_if_success (with_reducible show wpAny _ _ (exec (Stmt.Assign _ (Expr.ListComp _ _ _ _) _) _) _ _ _)); (fail_if_success (with_reducible show LCg.CompSrc _ _ _ _ _ _ _ _ _ _ _ _ _ _)); (fail_if_success (with_reducible show KPfDone _)); (first | walk1 | (dsimp only; walk1))) | (leave1; walk_say "STEP leave1"; try dsimp only) | fail "no step"))
  k_dflt (refine LCg.ListComp_U (F₀ := by k_asm) (by with_unfolding_all rfl) (by decide) (by rfl) (by decide) (by rfl) ?_)
  (repeat' (first | (k_unfold; (try dsimp only)) | (k_end; wrow_close) | ((fail_if_success (with_reducible show wpAny _ _ (eval (Expr.ListComp _ _ _ _) _) _ _ _)); (fail_if_success (with_reducible show wpAny _ _ (exec (Stmt.Assign _ (Expr.ListComp _ _ _ _) _) _) _ _ _)); (fail_if_success (with_reducible show LCg.CompSrc _ _ _ _ _ _ _ _ _ _ _ _ _ _)); (fail_if_success (with_reducible show KPfDone _)); (first | walk1 | (dsimp only; walk1))) | (leave1; walk_say "STEP leave1"; try dsimp only) | fail "no step"))
  refine LCg.CompSrc.range (by rfl) (by k_asm) (by k_asm) (by assumption) (by exact small_one (by l_bnd) (by l_bnd) (by l_bnd) (by l_bnd)) (by exact rangeSize_nat _ _) (by rw [PySem.sizeLine_eq]; omega) ?_
  intro g9
  refine' kct_range (fun k => st [sg (((x.fdiv 3).fdiv (4 ^ k.toNat)).fmod 4)]) (fun k' t' I' oI' C' oC' D' m' ys' h' tk' E' hlo' hhi' hC' hx' F' N' off' ne' mk' => ?_) ?_
  · have hp4 : (4 : Int) ^ k'.toNat ≠ 0 := fun q => by
      have : (0 : Int) < 4 ^ k'.toNat := Int.pow_pos (by decide)
      omega
    have hp5 : ((4 : Int) ^ k'.toNat).natAbs < 1073741824 := by
      have : k'.toNat = 0 ∨ k'.toNat = 1 ∨ k'.toNat = 2 := by omega
      rcases this with q | q | q <;> rw [q] <;> decide
    have hp6 : 0 ≤ ((x.fdiv 3).fdiv (4 ^ k'.toNat)).fmod 4 ∧ ((x.fdiv 3).fdiv (4 ^ k'.toNat)).fmod 4 < 4 := by rw [Int.fmod_eq_emod_of_nonneg _ (by decide)]; omega
    (repeat' (first | (k_unfold; (try dsimp only)) | (k_end; wrow_close) | ((fail_if_success (with_reducible show wpAny _ _ (eval (Expr.ListComp _ _ _ _) _) _ _ _)); (fail_if_success (with_reducible show wpAny _ _ (exec (Stmt.Assign _ (Expr.ListComp _ _ _ _) _) _) _ _ _)); (fail_if_success (with_reducible show LCg.CompSrc _ _ _ _ _ _ _ _ _ _ _ _ _ _)); (fail_if_success (with_reducible show KPfDone _)); (first | walk1 | (dsimp only; walk1))) | (leave1; walk_say "STEP leave1"; try dsimp only) | fail "no step"))
    refine LCg.CompEnd.intro (by assumption) (by assumption) _ (fun p hp => hp) off' trivial ⟨rfl, _, congrArg (Value.str · _) (item_sg _ hp6.1 hp6.2)⟩
  · unfold KPfDone
    intro ys hc hl
    unfold LCg.FinE
    intro D' h' tk' F' N' o1'
    dsimp only
    (repeat' (first | (k_unfold; (try dsimp only)) | (k_end; wrow_close) | ((fail_if_success (with_reducible show wpAny _ _ (eval (Expr.ListComp _ _ _ _) _) _ _ _)); (fail_if_success (with_reducible show wpAny _ _ (exec (Stmt.Assign _ (Expr.ListComp _ _ _ _) _) _) _ _ _)); (fail_if_success (with_reducible show LCg.CompSrc _ _ _ _ _ _ _ _ _ _ _ _ _ _)); (fail_if_success (with_reducible show KPfDone _)); (first | walk1 | (dsimp only; walk1))) | (leave1; walk_say "STEP leave1"; try dsimp only) | fail "no step"))
    rename News _ _ _ _ => nE
    exact cb_retS hret (by rw [join_st]; rfl) (by assumption) (cb_drop nE (fun p hp => by simp [hp]))
end
end Mine
end
section
set_option maxRecDepth 100000
namespace Mine
open PySem PySem.W PyProof.Rows PySem.Calls PySem.Spec PyProof
/-- runs a tree that only reads -/
def runRO {α : Type} (K : Nat → Option Obj) : Nat → Sem α → Option α
  | 0, _ => none
  | n + 1, t => match t with
    | .pure a => some a
    | .rule _ k => runRO K n (k ())
    | .at _ k => runRO K n (k ())
    | .point _ k => runRO K n (k ())
    | .load a _ k => match K a with
      | some o => runRO K n (k o)
      | none => none
    | _ => none
theorem runRO_sound {α : Type} {prog : Program} {w : World} {A : Around} {E : Value → Shared → Prop} {s : Shared} {K : Nat → Option Obj} (hK : ∀ b o, K b = some o → s.heap.get? b = some o) :
    ∀ (n : Nat) (t : Sem α) (a : α) (Q : α → Shared → Prop), runRO K n t = some a → Q a s → wpAny (model prog w) A t Q E s
  | 0, _, _, _, h, _ => by cases h
  | n + 1, t, a, Q, h, hq => by
    cases t with
    | pure b => cases h; exact wpAny_pure hq
    | rule tag k => exact wpAny_bind (m := PySem.rule tag) (f := k) (wpAny_rule (runRO_sound hK n _ a Q h hq))
    | «at» p k => exact wpAny_bind (m := PySem.standAt p) (f := k) (wpAny_standAt (runRO_sound hK n _ a Q h hq))
    | point l k => exact fun Γ p hΓ => runRO_sound hK n _ a Q h hq Γ p hΓ
    | load b q k =>
      simp only [runRO] at h
      split at h
      · rename_i o e
        exact wpAny_bind (m := PySem.loadPart b q) (f := k) (wpAny_loadPart (hK b o e) (runRO_sound hK n _ a Q h hq))
      · cases h
    | _ => cases h
theorem plainAttrs_re : PlainAttrs "re.Pattern" :=
  ⟨⟨"object.__getattribute__", by rw [typeLookup_type, builtinLookup_eq_fast]; kernel_rfl, by decide +kernel⟩, by rw [typeLookup_type, builtinLookup_eq_fast]; kernel_rfl⟩
theorem slot_re_search : Slot "re.Pattern" "search" "re.Pattern.search" :=
  .of (owner := "re.Pattern") (n := "search") (by rw [typeLookup_type, builtinLookup_eq_fast]; kernel_rfl) (by decide +kernel) (by decide +kernel) (by decide +kernel)
    (by first | exact .inl (by decide +kernel) | exact .inr (by decide +kernel)) (by rw [isSubtype_type]; kernel_rfl)
theorem type_re_search : typeOf (.builtin "re.Pattern.search") = pure (.type "method_descriptor") := by show builtinType _ = _; rw [builtinType_eq_fast]; kernel_rfl
theorem entry_re_search : entryFor table "re.Pattern.search" = some Builtin.«re.Pattern.search» := entryFor_of_tree (by kernel_rfl)
theorem args_re_search (a b : Value) : argsOk "re.Pattern.search" ⟨[a, b], []⟩ := by unfold argsOk; kernel_rfl
noncomputable def reK (P : Params) (a : Nat) : Option Obj := (hd.heap_39 P).lookup a
def nothing : Option PySem.Fin → Bool
  | some (.done (.ret .none)) => true
  | _ => false
noncomputable def reNo (P : Params) (pat : Nat) (x : Str) (t : Tok) : Bool := nothing (runRO (reK P) 5000 (Builtin.«re.Pattern.search» ⟨[.ref pat, .str x t], []⟩))
theorem t1 (P : Params) (t : Tok) : reNo P 43 (Str.ofString "n0-4") t = true := by kernel_rfl
end Mine
namespace Mine
open PySem PySem.W PyProof.Rows PySem.Calls PySem.Spec PyProof
/-- a name of the tree's headers: n or N (by u), the place a, a hyphen, the distance b -/
def nmL (u a b : Nat) : List Nat := [u, 48 + a, 45, 48 + b]
theorem re_names (P : Params) (t : Tok) : ∀ a, a < 8 → ∀ b, b < 9 → reNo P 43 ⟨(nmL 110 a b).toArray⟩ t = true ∧ reNo P 43 ⟨(nmL 78 a b).toArray⟩ t = true := by
  have h : ((List.range 8).all fun a => (List.range 9).all fun b => reNo P 43 ⟨(nmL 110 a b).toArray⟩ t && reNo P 43 ⟨(nmL 78 a b).toArray⟩ t) = true := by kernel_rfl
  intro a ha b hb
  have h1 := List.all_eq_true.mp h a (List.mem_range.mpr ha)
  have h2 := List.all_eq_true.mp h1 b (List.mem_range.mpr hb)
  simpa using h2
theorem re_values (P : Params) (t : Tok) : ∀ a, a < 10 → reNo P 48 ⟨#[48 + a]⟩ t = true := by
  have h : ((List.range 10).all fun a => reNo P 48 ⟨#[48 + a]⟩ t) = true := by kernel_rfl
  intro a ha
  exact List.all_eq_true.mp h a (List.mem_range.mpr ha)
end Mine
namespace Mine
open PySem PySem.W PyProof.Rows PySem.Calls PySem.Spec PyProof
section
variable {prog : Program} {w : World} {A : Around} {E : Value → Shared → Prop} {s : Shared} {h₀ : Heap} {L : Addr} {m : Str → Option Value}
theorem nothing_of {f : Option PySem.Fin} (h : nothing f = true) : f = some (.done (.ret .none)) := by
  unfold nothing at h
  split at h
  · rfl
  · cases h
theorem search_K {pat : Nat} {x : Str} {t : Tok} {o : Obj} {Q : Value → Shared → Prop} (F : Fr h₀ L s.heap m) (X₀ : (hd.heap_39 w.params).In h₀) (ho : (hd.heap_39 w.params).lookup pat = some o) (hc : o.cls = .type "re.Pattern")
    (hs : reNo w.params pat x t = true) (h : Q .none s) : wpAny (model prog w) A (call (.builtin "re.Pattern.search") [.ref pat, .str x t]) Q E s := by
  have X : (hd.heap_39 w.params).In s.heap := X₀.keeps F.keep
  refine wpAny_call_entry slot_re_search ⟨o, X _ _ ho, hc⟩ entry_re_search ?_ (args_re_search _ _)
  exact runRO_sound (fun b o e => X b o e) _ _ _ _ (nothing_of hs) ⟨_, rfl, h⟩
theorem search_meth {pat : Nat} {o : Obj} {pl : Sem Bool} {Q : Value × List Value → Shared → Prop} (F : Fr h₀ L s.heap m) (X₀ : (hd.heap_39 w.params).In h₀) (ho : (hd.heap_39 w.params).lookup pat = some o) (hc : o.cls = .type "re.Pattern") (hd : o.dict = none)
    (h : Q (.builtin "re.Pattern.search", [.ref pat]) s) : wpAny (model prog w) A (getMethod (.ref pat) "search" pl) Q E s :=
  have X : (Mine.hd.heap_39 w.params).In s.heap := X₀.keeps F.keep
  getMethod_builtin ⟨o, X _ _ ho, hc⟩ plainAttrs_re slot_re_search type_re_search (fun a e => by cases e; exact ⟨_, X _ _ ho, hd⟩) h
end
end Mine
end
section
open PySem PySem.W PyProof.Rows PySem.Calls PySem.Spec PyProof
set_option maxRecDepth 100000
set_option maxHeartbeats 8000000
namespace Mine
theorem calmConv : True := by
  w_top off
  trivial
set_option pp.deepTerms false
set_option pp.maxSteps 6000
set_option pp.deepTerms.threshold 8
-- steps up to a loop
-- steps up to a loop or an if
-- steps up to a comprehension, its source, its end
local macro_rules | `(tactic| walk_at "binaryOp FloorDiv int int") => `(tactic| ((show wpAny _ _ (binaryOp _ (Value.int _ _) (Value.int _ _)) _ _ _); refine floordiv_int (by assumption) ?_ ?hp9; (case hp9 => exact Or.inl (PyProof.noPylong_small (by assumption)))))
-- opens a for, up to its walk
local macro_rules | `(tactic| walk_at "subscriptTail") => `(tactic| (k_here; (try dsimp only); (show wpAny _ _ (subscriptTail _ _ (Value.ref _) (Value.int _ _)) _ _ _); k_dflt (refine' item_led ?k1 ?k2 ?k3 ?k4 ?k5 ?_ ?k6; (case k1 => k_asm); (case k2 => k_mem); (case k3 | k4 => omega); (case k5 => assumption); (case k6 => with_unfolding_all rfl))))
local macro_rules | `(tactic| walk_at "getMethod ref") => `(tactic| ((show wpAny _ _ (getMethod (Value.ref _) (PySem.Str.ofString "search") _) _ _ _); k_dflt (refine' search_meth ?k1 ?k2 ?k3 ?k5 ?k6 ?_; (case k1 | k2 => k_asm); (case k3 => k_is); (case k5 | k6 => rfl))))
local macro_rules | `(tactic| walk_at "call builtin:re.Pattern.search") => `(tactic| ((show wpAny _ _ (call (Value.builtin "re.Pattern.search") [Value.ref _, Value.str _ _]) _ _ _); k_dflt (refine' search_K ?k1 ?k2 ?k3 ?k5 ?k4 ?_; (case k1 | k2 => k_asm); (case k3 => k_is); (case k5 => rfl); (case k4 => (rename ∀ t, _ = true => hs; exact hs _)))))
section
variable {w : World} {p : Program} {loose : List Str} {mean : ExcName → Option Value} {mg mb : Str → Option Value}
   {dp un : Nat} {gd : Option (List Code)} {cn : Str} {cs : Scope} {a : Addr} {ccd : Value} {cl : List (Str × Addr)} {outer : List Env} {A₀ : Around} {base h₀ : Heap} {L : Addr} {m : Str → Option Value} {news : List (Addr × Obj)} {s : Shared} {Q E : Value → Shared → Prop}
theorem conv_name {x : Str} {self : Value} {tx : Tok} (hs : ∀ t, reNo w.params 43 x t = true)
   (B : Below A₀ base outer h₀) (F : Fr h₀ L s.heap m) (X : (hd.heap_39 w.params).In h₀) (N : News h₀ L s.heap news) (T : Top p loose mean mg mb h₀) (hk : cs.kind = .function)
   (hd : dp + 10 < recursionLimit) (hu : un + 40 < cLine) (hret : CbRet h₀ L m news s Q (fun t => .str x t)) :
      wpAny (model PySem.Challenge.rw_pe0242_01.prog w) (ktrTop dp un gd cn cs L a ccd cl outer) (call (.ref 70) [self, .str x tx] [(Str.ofString "name", .bool true)]) Q E s := by
  refine wpAny_call ?_
  k_dflt cell_enter
  (repeat' (first | (k_unfold; (try dsimp only)) | (k_end; wrow_close) | ((fail_if_success (with_reducible show wpAny _ _ (exec (Stmt.While _ _ _ _) _) _ _ _)); (fail_if_success (with_reducible show wpAny _ _ (exec (Stmt.For _ _ _ _ _) _) _ _ _)); (first | walk1 | (dsimp only; walk1))) | (leave1; walk_say "STEP leave1"; try dsimp only) | fail "no step"))
  exact cb_retS hret rfl (by assumption) (by assumption)
theorem conv_value {x : Str} {self : Value} {tx : Tok} (hs : ∀ t, reNo w.params 48 x t = true)
   (B : Below A₀ base outer h₀) (F : Fr h₀ L s.heap m) (X : (hd.heap_39 w.params).In h₀) (N : News h₀ L s.heap news) (T : Top p loose mean mg mb h₀) (hk : cs.kind = .function)
   (hd : dp + 10 < recursionLimit) (hu : un + 40 < cLine) (hret : CbRet h₀ L m news s Q (fun t => .str x t)) :
      wpAny (model PySem.Challenge.rw_pe0242_01.prog w) (ktrTop dp un gd cn cs L a ccd cl outer) (call (.ref 70) [self, .str x tx] [(Str.ofString "name", .bool false)]) Q E s := by
  refine wpAny_call ?_
  k_dflt cell_enter
  (repeat' (first | (k_unfold; (try dsimp only)) | (k_end; wrow_close) | ((fail_if_success (with_reducible show wpAny _ _ (exec (Stmt.While _ _ _ _) _) _ _ _)); (fail_if_success (with_reducible show wpAny _ _ (exec (Stmt.For _ _ _ _ _) _) _ _ _)); (first | walk1 | (dsimp only; walk1))) | (leave1; walk_say "STEP leave1"; try dsimp only) | fail "no step"))
  exact cb_retS hret rfl (by assumption) (by assumption)
end
end Mine
end
section
set_option maxRecDepth 100000
namespace Mine
open PySem PySem.W PyProof.Rows PySem.Calls PySem.Spec
section
variable {prog : Program} {w : World} {A : Around} {E : Value → Shared → Prop} {Q : Flow → Shared → Prop} {s : Shared} {env : Env} {h₀ : Heap}
/-- where a list stands: in what was before, or in the ledger -/
def SrcIn {σ : Type} (h₀ : Heap) (l : Addr) (its : List Value) (Led : σ → List (Addr × Obj)) : Prop :=
  h₀.IsList l its.toArray ∨ ∃ n, ∀ c, (l, W.listOf its.toArray n) ∈ Led c
def RPost {σ : Type} (h₀ : Heap) (L : Addr) (s : Shared) (Led : σ → List (Addr × Obj)) (ps : σ → List (Str × Value)) (P : σ → Prop) (Q : Flow → Shared → Prop) (own : Addr × Obj) (f : Flow) (s₂ : Shared) : Prop :=
  match f with
  | .ret v => Q (.ret v) s₂
  | .brk => Q .next s₂
  | _ => AtSt h₀ L s (fun c => Led c ++ [own]) ps (fun c => P c ∧ ∀ p ∈ Led c, p.1 ≠ own.1) s₂
/-- for TARGET in a list; objects may be made and kept; the body may return -/
theorem listT {σ : Type} {l : Addr} {its : List Value} {m₀ : Str → Option Value} {news₀ : List (Addr × Obj)} {target : Expr} {body : List Stmt}
    (Led : σ → List (Addr × Obj)) (ps : σ → List (Str × Value)) (P : Nat → σ → Prop) (c₀ : σ)
    (hh : A.handled = none) (hsrc : SrcIn h₀ l its Led) (F : Fr h₀ env.locals s.heap m₀) (N : News h₀ env.locals s.heap news₀)
    (hn : ∀ p ∈ Led c₀, p ∈ news₀) (hk : ∀ p ∈ ps c₀, m₀ p.1 = some p.2) (hp : P 0 c₀)
    (turn : ∀ (i : Nat) (c : σ) (v : Value) (u : Str → Option Value) h tk own, its[i]? = some v → P i c → (∀ p ∈ Led c, p.1 ≠ own.1) → Fr h₀ env.locals h (kstB u (ps c)) → News h₀ env.locals h (Led c ++ [own]) →
      wpAny (model prog w) A (assign target env v) (fun _ s₃ => wpAny (model prog w) A (execs body env) (RPost h₀ env.locals { s with heap := h, toks := tk } Led ps (P (i + 1)) Q own) E s₃) E { s with heap := h, toks := tk })
    (done : ∀ (c : σ) (u : Str → Option Value) h tk, P its.length c → Fr h₀ env.locals h (kstB u (ps c)) → News h₀ env.locals h (Led c) → Q .next { s with heap := h, toks := tk })
    (hE : PassesOwn (model prog w) A env E := by passes_own) :
    wpAny (model prog w) A (pyIter (.ref l)) (fun it s₂ => codeAny (model prog w) A (.forLoop target it body [] env) (fun r s' => match r with | .ok f => Q f s' | .error e => cameBackBy (model prog w) A env E e s') s₂) E s := by
  have isl : ∀ (h : Heap) (c : σ) (m : Str → Option Value), Fr h₀ env.locals h m → News h₀ env.locals h (Led c) → h.IsList l its.toArray := by
    intro h c m F₁ N₁
    rcases hsrc with q | ⟨n, q⟩
    · exact q.at fun o e => F₁.keep l o e
    · exact PySem.IsL.isList (n := n) (N₁ _ (q c)).1
  have N₀ : News h₀ env.locals s.heap (Led c₀) := fun p hp => N p (hn p hp)
  have hls := isl _ _ _ F N₀
  refine wpAny_pyIter_list hls ?_
  generalize hI : s.heap.objs.size = I
  have hne : l ≠ I := by
    obtain ⟨ol, hol, _⟩ := id hls
    exact hI ▸ Nat.ne_of_lt (Heap.lt_size hol)
  have hIL : env.locals ≠ I := hI ▸ Nat.ne_of_lt F.ns.lt
  have hI0 : h₀.get? I = none := hI ▸ next_is_new F
  have W := Walks.list (prog := prog) (w := w) hh I l hne its.toArray
  refine codeAny_forLoop_any
    (fun k s' => ∃ h' tk m' c i, s' = { s with heap := h', toks := tk } ∧ h'.IsListIter I l i ∧ Fr h₀ env.locals h' m' ∧ News h₀ env.locals h' (Led c) ∧ (∀ p ∈ Led c, p.1 ≠ I) ∧ (∀ p ∈ ps c, m' p.1 = some p.2) ∧ P i c ∧ i ≤ its.length ∧ k = its.length + 1 - i) ?_ (its.length + 1)
    ⟨s.heap.push { cls := .type "list_iterator", data := .fields #[.ref l, .int 0 0] }, s.toks, m₀, c₀, 0, rfl, ⟨_, hI ▸ Heap.get?_push_size _ rfl, rfl, rfl⟩, F.push _, fun p hp => ⟨Heap.get?_push_of_some _ (N₀ p hp).1, (N₀ p hp).2⟩,
      fun p hp e => absurd (Heap.lt_size (N₀ p hp).1) (by rw [e, hI]; exact Nat.lt_irrefl _), hk, hp, Nat.zero_le _, rfl⟩
  rintro k s' ⟨h', tk, m', c, i, rfl, hit, F', N', hoff, hk', hP, hi, rfl⟩
  have next : ∀ h₁ : Heap, (∀ b o, b ∉ [I] → h'.get? b = some o → h₁.get? b = some o) → Fr h₀ env.locals h₁ m' ∧ News h₀ env.locals h₁ (Led c) := fun h₁ hk₁ =>
    ⟨⟨F'.ns.at' fun o e => hk₁ _ o (by simpa using hIL) e, fun b o e => hk₁ b o (fun q => by rw [List.mem_singleton.mp q, hI0] at e; cases e) (F'.keep b o e), F'.above⟩,
      fun p hp => ⟨hk₁ _ _ (by simpa using hoff p hp) (N' p hp).1, (N' p hp).2⟩⟩
  by_cases hlt : i < its.length
  · refine W.item i _ _ _ (by simpa using hlt) ⟨hit, isl _ _ _ F' N'⟩ fun v h₁ tk₁ hv hst₁ hk₁ => ?_
    obtain ⟨F₁, N₁⟩ := next h₁ hk₁
    refine letGo_listiter hst₁.1 ?_
    obtain ⟨oI, hoI, hc1, hd1⟩ := id hst₁.1
    have N₂ : News h₀ env.locals h₁ (Led c ++ [(I, oI)]) := by
      intro p hp
      rcases List.mem_append.mp hp with hp | hp
      · exact N₁ p hp
      · rw [List.mem_singleton.mp hp]; exact ⟨hoI, Ne.symm hIL, hI0⟩
    have T := turn i c v m' h₁ tk₁ (I, oI) (by simpa using hv) hP hoff (fr_kstB F₁ hk') N₂
    refine wpAny_passesOwn hE (wpAny_mono T (fun _ s₂ h₂ => wpAny_passesOwn hE (wpAny_mono h₂ (fun f s₃ q => ?_) fun _ _ e => e)) fun _ _ e => e)
    have nx : AtSt h₀ env.locals { s with heap := h₁, toks := tk₁ } (fun c => Led c ++ [(I, oI)]) ps (fun c => P (i + 1) c ∧ ∀ p ∈ Led c, p.1 ≠ I) s₃ →
        ∃ m, m < its.length + 1 - i ∧ ∃ h' tk m' c j, s₃ = { s with heap := h', toks := tk } ∧ h'.IsListIter I l j ∧ Fr h₀ env.locals h' m' ∧ News h₀ env.locals h' (Led c) ∧ (∀ p ∈ Led c, p.1 ≠ I) ∧ (∀ p ∈ ps c, m' p.1 = some p.2) ∧ P j c ∧ j ≤ its.length ∧ m = its.length + 1 - j := by
      rintro ⟨c', h'', tk'', m'', news'', rfl, F'', N'', hn'', hk'', hP'', ho''⟩
      refine ⟨its.length + 1 - (i + 1), by omega, h'', tk'', m'', c', i + 1, rfl, ⟨oI, (N'' _ (hn'' (I, oI) (by simp))).1, hc1, hd1⟩, F'', fun p hp => N'' p (hn'' p (List.mem_append_left _ hp)), ho'', hk'', hP'', hlt, rfl⟩
    cases f with
    | ret v => exact q
    | brk => exact q
    | next => exact nx q
    | cont => exact nx q
  · have hin : i = its.length := by omega
    subst hin
    refine W.done _ _ _ (by simpa using ⟨hit, isl _ _ _ F' N'⟩) fun h₁ tk₁ hk₁ => wpAny_execs_nil ?_
    obtain ⟨F₁, N₁⟩ := next h₁ hk₁
    exact done c m' h₁ tk₁ hP (fr_kstB F₁ hk') N₁
end
end Mine
end
section
open PySem PySem.W PyProof.Rows PySem.Calls PySem.Spec PyProof
set_option maxRecDepth 100000
set_option maxHeartbeats 8000000
namespace Mine
theorem calmGet : True := by
  w_top off
  trivial
set_option pp.deepTerms false
set_option pp.maxSteps 6000
set_option pp.deepTerms.threshold 8
-- steps up to a loop
-- steps up to a loop or an if
-- steps up to a comprehension, its source, its end
local macro_rules | `(tactic| walk_at "binaryOp FloorDiv int int") => `(tactic| ((show wpAny _ _ (binaryOp _ (Value.int _ _) (Value.int _ _)) _ _ _); refine floordiv_int (by assumption) ?_ ?hp9; (case hp9 => exact Or.inl (PyProof.noPylong_small (by assumption)))))
-- opens a for, up to its walk
local macro_rules | `(tactic| walk_at "subscriptTail") => `(tactic| (k_here; (try dsimp only); (show wpAny _ _ (subscriptTail _ _ (Value.ref _) (Value.int _ _)) _ _ _); k_dflt (refine' item_led ?k1 ?k2 ?k3 ?k4 ?k5 ?_ ?k6; (case k1 => k_asm); (case k2 => k_mem); (case k3 | k4 => omega); (case k5 => assumption); (case k6 => with_unfolding_all rfl))))
local macro_rules | `(tactic| walk_at "getMethod ref") => `(tactic| ((show wpAny _ _ (getMethod (Value.ref _) (PySem.Str.ofString "search") _) _ _ _); k_dflt (refine' search_meth ?k1 ?k2 ?k3 ?k5 ?k6 ?_; (case k1 | k2 => k_asm); (case k3 => k_is); (case k5 | k6 => rfl))))
local macro_rules | `(tactic| walk_at "call builtin:re.Pattern.search") => `(tactic| ((show wpAny _ _ (call (Value.builtin "re.Pattern.search") [Value.ref _, Value.str _ _]) _ _ _); k_dflt (refine' search_K ?k1 ?k2 ?k3 ?k5 ?k4 ?_; (case k1 | k2 => k_asm); (case k3 => k_is); (case k5 => rfl); (case k4 => (rename ∀ t, _ = true => hs; exact hs _)))))
/-- the pairs of a list of headers -/
def TupsIn (news : List (Addr × Obj)) : List Value → List (Str × Str) → Prop
  | [], [] => True
  | v :: vs, e :: es => (∃ a t1 t2 n, v = .ref a ∧ (a, ({ cls := .type "tuple", data := .seq #[.str e.1 t1, .str e.2 t2] n } : Obj)) ∈ news) ∧ TupsIn news vs es
  | _, _ => False
theorem TupsIn.at {news : List (Addr × Obj)} : ∀ {vs : List Value} {es : List (Str × Str)} {i : Nat} {v : Value}, TupsIn news vs es → vs[i]? = some v → ∃ e, es[i]? = some e ∧ ∃ a t1 t2 n, v = .ref a ∧ (a, ({ cls := .type "tuple", data := .seq #[.str e.1 t1, .str e.2 t2] n } : Obj)) ∈ news
  | [], [], _, _, _, h => by simp at h
  | v :: vs, e :: es, 0, w, h, hv => by simp at hv; subst hv; exact ⟨e, rfl, h.1⟩
  | v :: vs, e :: es, i + 1, w, h, hv => by
    have := TupsIn.at (i := i) (v := w) h.2 (by simpa using hv)
    simpa using this
  | [], _ :: _, _, _, h, _ => h.elim
  | _ :: _, [], _, _, h, _ => h.elim
theorem TupsIn.length {news : List (Addr × Obj)} : ∀ {vs : List Value} {es : List (Str × Str)}, TupsIn news vs es → vs.length = es.length
  | [], [], _ => rfl
  | _ :: _, _ :: _, h => by simp [TupsIn.length h.2]
  | [], _ :: _, h => h.elim
  | _ :: _, [], h => h.elim
theorem TupsIn.mono {news news' : List (Addr × Obj)} (hs : ∀ p ∈ news, p ∈ news') : ∀ {vs : List Value} {es : List (Str × Str)}, TupsIn news vs es → TupsIn news' vs es
  | [], [], _ => trivial
  | _ :: _, _ :: _, h => ⟨let ⟨a, t1, t2, n, e, hm⟩ := h.1; ⟨a, t1, t2, n, e, hs _ hm⟩, TupsIn.mono hs h.2⟩
  | [], _ :: _, h => h.elim
  | _ :: _, [], h => h.elim
def findE (ents : List (Str × Str)) (nm : Str) : Option Str := (ents.find? fun e => Txt.lower e.1 == nm).map (·.2)
theorem find_at {α : Type} {p : α → Bool} {l : List α} {i : Nat} {e : α} (h : (l.take i).find? p = none) (he : l[i]? = some e) (hp : p e = true) : l.find? p = some e := by
  have hi : i < l.length := by
    apply Nat.lt_of_not_le; intro q; rw [List.getElem?_eq_none q] at he; cases he
  rw [← List.take_append_drop i l, List.find?_append, h, List.drop_eq_getElem_cons hi]
  have : l[i] = e := by rw [List.getElem?_eq_getElem hi] at he; exact Option.some.inj he
  rw [this]; simp [hp]
def strOr : Option Str → Tok → Value
  | none, _ => .none
  | some y, t => .str y t
local macro_rules | `(tactic| walk_at "call ref") => `(tactic| ((show wpAny _ _ (call (Value.ref 70) [_, Value.str _ _] [(_, Value.bool true)]) _ _ _); k_dflt (refine' conv_name ?h1 ?k1 ?k2 ?k3 ?k4 ?k5 ?kK ?kd ?ku ?_); (case h1 => assumption); (case k1 | k2 | k3 | k4 | k5 => k_asm); (case kK => first | exact rfl | assumption); (case kd => ktr_room); (case ku => ktr_units); intro t9 h9 tk9 F9 N9; (try dsimp only); (try k_fold)))
section
variable {w : World} {p : Program} {loose : List Str} {mean : ExcName → Option Value} {mg mb : Str → Option Value}
   {dp un : Nat} {gd : Option (List Code)} {cn : Str} {cs : Scope} {a : Addr} {ccd : Value} {cl : List (Str × Addr)} {outer : List Env} {A₀ : Around} {base h₀ : Heap} {L : Addr} {m : Str → Option Value} {news : List (Addr × Obj)} {s : Shared} {Q E : Value → Shared → Prop}
theorem get_call {x dx l : Addr} {ts : List Value} {n e : Nat} {hsh : Int} {tkh : Tok} {ents : List (Str × Str)} {nm : Str} {tn : Tok}
   (hx : (x, instObj 171 dx) ∈ news) (hdx : (dx, W.dictOf [⟨hsh, .str (Str.ofString "_headers") tkh, .ref l⟩] n) ∈ news) (hl : (l, W.listOf ts.toArray e) ∈ news) (ht : TupsIn news ts ents)
   (hlen : ∀ e ∈ ents, e.1.length ≤ 100) (hs : ∀ t, reNo w.params 43 (Txt.lower nm) t = true) (hnm : nm.length ≤ 100)
   (B : Below A₀ base outer h₀) (F : Fr h₀ L s.heap m) (X : (hd.heap_39 w.params).In h₀) (N : News h₀ L s.heap news) (T : Top p loose mean mg mb h₀) (hk : cs.kind = .function)
   (hd : dp + 20 < recursionLimit) (hu : un + 80 < cLine) (hret : CbRet h₀ L m news s Q (fun t => strOr (findE ents (Txt.lower nm)) t)) :
      wpAny (model PySem.Challenge.rw_pe0242_01.prog w) (ktrTop dp un gd cn cs L a ccd cl outer) (call (.ref 118) [.ref x, .str nm tn]) Q E s := by
  refine wpAny_call ?_
  k_dflt (refine' code_def ?k1 ?k2 ?k3 ?k4 ?k5 ?kA ?kF ?kK ?k6 ?k7 ?k8 ?k9 ?kB ?_ ?c2 ?c3 ?c4 ?c5; (case kA => exact rfl); (case kF => exact rfl); (case kK => assumption); (case k1 => k_asm); (case k2 => k_asm); (case k3 => k_asm); (case k4 => k_asm); (case k5 => k_asm); (case k6 => k_is); (case k7 => k_is); (case k8 => ktr_room); (case k9 => first | exact BindsTo.of_eq rfl | exact binds_K (by k_in) rfl (by k_is) rfl rfl rfl); (case c5 => decide); (case kB => exact locs rfl); (case c2 => exact rfl); (case c3 => exact rfl); (case c4 => exact rfl); k_whole; intro g' L' h' FG' F' N' B' X' T'; (try dsimp only); (try k_lift B'); (try k_fold))
  (repeat' (first | (k_unfold; (try dsimp only)) | (k_end; wrow_close) | ((fail_if_success (with_reducible show wpAny _ _ (exec (Stmt.While _ _ _ _) _) _ _ _)); (fail_if_success (with_reducible show wpAny _ _ (exec (Stmt.For _ _ _ _ _) _) _ _ _)); (first | walk1 | (dsimp only; walk1))) | (leave1; walk_say "STEP leave1"; try dsimp only) | fail "no step"))
  refine wpAny_For ?_ (by intro _; rfl)
  repeat' (first
  | ((fail_if_success (with_reducible show wpAny _ _ (pyIter _) _ _ _)); walk1)
  | ((fail_if_success (with_reducible show wpAny _ _ (pyIter _) _ _ _)); dsimp only; walk1))
  rename Fr _ _ _ _ => lF'
  rename News _ _ _ _ => lN'
  refine' listT (σ := Tok) (its := ts) (fun _ => news) (fun c => [(Str.ofString "name", .str (Txt.lower nm) c), (Str.ofString "default", .none)])
    (fun i _ => (ents.take i).find? (fun e => Txt.lower e.1 == Txt.lower nm) = none) _ rfl (.inr ⟨e, fun _ => hl⟩) lF' lN' (fun _ h => h) (by kst_all) (by simp) ?_ ?_
  · intro i c v u h tk own hv hP hoff Fc Nc
    dsimp only at hP hoff Fc Nc ⊢
    dsimp only [envOf] at Fc Nc
    have hts := TupsIn.at ht hv
    obtain ⟨en, hen, a9, t1, t2, n9, rfl, hm9⟩ := hts
    have hm : (a9, ({ cls := .type "tuple", data := .seq #[.str en.1 t1, .str en.2 t2] n9 } : Obj)) ∈ news ++ [own] := List.mem_append_left _ hm9
    have hl9 := hlen en (List.mem_of_getElem? hen)
    (repeat' (first | (k_unfold; (try dsimp only)) | (k_end; wrow_close) | ((fail_if_success (with_reducible show wpAny _ _ (exec (Stmt.While _ _ _ _) _) _ _ _)); (fail_if_success (with_reducible show wpAny _ _ (exec (Stmt.For _ _ _ _ _) _) _ _ _)); (first | walk1 | (dsimp only; walk1))) | (leave1; walk_say "STEP leave1"; try dsimp only) | fail "no step"))
    · rename (Txt.lower _ == Txt.lower _) = true => he
      dsimp only [RPost]
      (repeat' (first | (k_unfold; (try dsimp only)) | (k_end; wrow_close) | ((fail_if_success (with_reducible show wpAny _ _ (exec (Stmt.While _ _ _ _) _) _ _ _)); (fail_if_success (with_reducible show wpAny _ _ (exec (Stmt.For _ _ _ _ _) _) _ _ _)); (first | walk1 | (dsimp only; walk1))) | (leave1; walk_say "STEP leave1"; try dsimp only) | fail "no step"))
      have hf : findE ents (Txt.lower nm) = some en.2 := by rw [findE, find_at hP hen he]; rfl
      unfold CbRet at hret
      rw [hf] at hret
      rename News _ _ _ _ => nE
      exact hret t2 _ _ (by assumption) (cb_drop nE (fun p hp => by simp [hp]))
    · rename (Txt.lower _ == Txt.lower _) = false => he
      refine AtSt.intro _ (by assumption) (by assumption) (fun _ h => h) (by kst_all) ⟨?_, hoff⟩
      rw [List.take_add_one, hen, List.find?_append, hP]
      simp [he]
  intro c u h tk hP Fc Nc
  dsimp only at hP Fc Nc ⊢
  dsimp only [envOf] at Fc Nc
  rw [ht.length, List.take_length] at hP
  (repeat' (first | (k_unfold; (try dsimp only)) | (k_end; wrow_close) | ((fail_if_success (with_reducible show wpAny _ _ (exec (Stmt.While _ _ _ _) _) _ _ _)); (fail_if_success (with_reducible show wpAny _ _ (exec (Stmt.For _ _ _ _ _) _) _ _ _)); (first | walk1 | (dsimp only; walk1))) | (leave1; walk_say "STEP leave1"; try dsimp only) | fail "no step"))
  have hf : findE ents (Txt.lower nm) = none := by rw [findE, hP]; rfl
  unfold CbRet at hret
  rw [hf] at hret
  exact hret 0 _ _ (by assumption) (by assumption)
end
end Mine
end
section
open PySem PySem.W PyProof.Rows PySem.Calls PySem.Spec PyProof
set_option maxRecDepth 100000
set_option maxHeartbeats 8000000
namespace Mine
theorem calmSetd : True := by
  w_top off
  trivial
local macro_rules | `(tactic| walk_at "unused 0") => `(tactic| skip)
set_option pp.deepTerms false
set_option pp.maxSteps 6000
set_option pp.deepTerms.threshold 8
-- steps up to a loop
-- steps up to a loop or an if
-- steps up to a comprehension, its source, its end
local macro_rules | `(tactic| walk_at "binaryOp FloorDiv int int") => `(tactic| ((show wpAny _ _ (binaryOp _ (Value.int _ _) (Value.int _ _)) _ _ _); refine floordiv_int (by assumption) ?_ ?hp9; (case hp9 => exact Or.inl (PyProof.noPylong_small (by assumption)))))
-- opens a for, up to its walk
local macro_rules | `(tactic| walk_at "subscriptTail") => `(tactic| (k_here; (try dsimp only); (show wpAny _ _ (subscriptTail _ _ (Value.ref _) (Value.int _ _)) _ _ _); k_dflt (refine' item_led ?k1 ?k2 ?k3 ?k4 ?k5 ?_ ?k6; (case k1 => k_asm); (case k2 => k_mem); (case k3 | k4 => omega); (case k5 => assumption); (case k6 => with_unfolding_all rfl))))
local macro_rules | `(tactic| walk_at "getMethod ref") => `(tactic| ((show wpAny _ _ (getMethod (Value.ref _) (PySem.Str.ofString "search") _) _ _ _); k_dflt (refine' search_meth ?k1 ?k2 ?k3 ?k5 ?k6 ?_; (case k1 | k2 => k_asm); (case k3 => k_is); (case k5 | k6 => rfl))))
local macro_rules | `(tactic| walk_at "call builtin:re.Pattern.search") => `(tactic| ((show wpAny _ _ (call (Value.builtin "re.Pattern.search") [Value.ref _, Value.str _ _]) _ _ _); k_dflt (refine' search_K ?k1 ?k2 ?k3 ?k5 ?k4 ?_; (case k1 | k2 => k_asm); (case k3 => k_is); (case k5 => rfl); (case k4 => (rename ∀ t, _ = true => hs; exact hs _)))))
local macro_rules | `(tactic| walk_at "call ref") => `(tactic| ((show wpAny _ _ (call (Value.ref 70) [_, Value.str _ _] [(_, Value.bool true)]) _ _ _); k_dflt (refine' conv_name ?h1 ?k1 ?k2 ?k3 ?k4 ?k5 ?kK ?kd ?ku ?_); (case h1 => assumption); (case k1 | k2 | k3 | k4 | k5 => k_asm); (case kK => first | exact rfl | assumption); (case kd => ktr_room); (case ku => ktr_units); intro t9 h9 tk9 F9 N9; (try dsimp only); (try k_fold)))
local macro_rules | `(tactic| walk_at "call ref") => `(tactic| ((show wpAny _ _ (call (Value.ref 70) [_, Value.str _ _] [(_, Value.bool false)]) _ _ _); k_dflt (refine' conv_value ?h1 ?k1 ?k2 ?k3 ?k4 ?k5 ?kK ?kd ?ku ?_); (case h1 => assumption); (case k1 | k2 | k3 | k4 | k5 => k_asm); (case kK => first | exact rfl | assumption); (case kd => ktr_room); (case ku => ktr_units); intro t9 h9 tk9 F9 N9; (try dsimp only); (try k_fold)))
local macro_rules | `(tactic| walk_at "call ref") => `(tactic| ((show wpAny _ _ (call (Value.ref 118) [Value.ref _, Value.str _ _]) _ _ _); k_dflt (refine' get_call ?h1 ?h2 ?h3 ?h4 ?h5 ?h6 ?h7 ?k1 ?k2 ?k3 ?k4 ?k5 ?kK ?kd ?ku ?_); (case h1 | h2 | h3 | h4 | h5 | h6 | h7 => assumption); (case k1 | k2 | k3 | k4 | k5 => k_asm); (case kK => first | exact rfl | assumption); (case kd => ktr_room); (case ku => ktr_units); intro t9 h9 tk9 F9 N9; (try dsimp only); (try k_fold)))
section
variable {w : World} {p : Program} {loose : List Str} {mean : ExcName → Option Value} {mg mb : Str → Option Value}
   {dp un : Nat} {gd : Option (List Code)} {cn : Str} {cs : Scope} {a : Addr} {ccd : Value} {cl : List (Str × Addr)} {outer : List Env} {A₀ : Around} {base h₀ : Heap} {L : Addr} {m : Str → Option Value} {news : List (Addr × Obj)} {s : Shared} {Q E : Value → Shared → Prop}
theorem setd_call {x dx l : Addr} {ts : List Value} {n e : Nat} {hsh : Int} {tkh : Tok} {ents : List (Str × Str)} {nm vl : Str} {tn tv : Tok} {rest : List (Addr × Obj)}
   (hx : (x, instObj 171 dx) ∈ (l, W.listOf ts.toArray e) :: rest) (hdx : (dx, W.dictOf [⟨hsh, .str (Str.ofString "_headers") tkh, .ref l⟩] n) ∈ (l, W.listOf ts.toArray e) :: rest) (hne : ∀ p ∈ rest, p.1 ≠ l) (ht : TupsIn ((l, W.listOf ts.toArray e) :: rest) ts ents)
   (hlen : ∀ e ∈ ents, e.1.length ≤ 100) (hs : ∀ t, reNo w.params 43 (Txt.lower nm) t = true) (hs1 : ∀ t, reNo w.params 43 nm t = true) (hs2 : ∀ t, reNo w.params 48 vl t = true) (hnm : nm.length ≤ 100) (hts : ts.length ≤ 1000)
   (B : Below A₀ base outer h₀) (F : Fr h₀ L s.heap m) (X : (hd.heap_39 w.params).In h₀) (N : News h₀ L s.heap ((l, W.listOf ts.toArray e) :: rest)) (T : Top p loose mean mg mb h₀) (hk : cs.kind = .function)
   (hd : dp + 30 < recursionLimit) (hu : un + 120 < cLine)
   (hret1 : ∀ y, findE ents (Txt.lower nm) = some y → CbRet h₀ L m ((l, W.listOf ts.toArray e) :: rest) s Q (fun t => .str y t))
   (hret2 : findE ents (Txt.lower nm) = none → ∀ (t t1 t2 : Tok) (D : Addr) (h' : Heap) (tk' : Nat), Fr h₀ L h' m → News h₀ L h' ((D, ({ cls := .type "tuple", data := .seq #[.str nm t1, .str vl t2] } : Obj)) :: (l, W.listOf (ts ++ [Value.ref D]).toArray (e + 1)) :: rest) → (∀ p ∈ (l, W.listOf ts.toArray e) :: rest, p.1 < D) → Q (.str vl t) { s with heap := h', toks := tk' }) :
      wpAny (model PySem.Challenge.rw_pe0242_01.prog w) (ktrTop dp un gd cn cs L a ccd cl outer) (call (.ref 161) [.ref x, .str nm tn, .str vl tv]) Q E s := by
  have hl : (l, W.listOf ts.toArray e) ∈ (l, W.listOf ts.toArray e) :: rest := List.Mem.head _
  refine wpAny_call ?_
  k_dflt cell_enter
  (repeat' (first | (k_unfold; (try dsimp only)) | (k_end; wrow_close) | ((fail_if_success (with_reducible show wpAny _ _ (exec (Stmt.While _ _ _ _) _) _ _ _)); (fail_if_success (with_reducible show wpAny _ _ (exec (Stmt.For _ _ _ _ _) _) _ _ _)); (first | walk1 | (dsimp only; walk1))) | (leave1; walk_say "STEP leave1"; try dsimp only) | fail "no step"))
  rename Fr _ _ _ _ => lF'
  cases hf : findE ents (Txt.lower nm) with
  | none =>
    rw [hf] at lF'
    dsimp only [strOr] at lF' ⊢
    (repeat' (first | (k_unfold; (try dsimp only)) | (k_end; wrow_close) | ((fail_if_success (with_reducible show wpAny _ _ (exec (Stmt.While _ _ _ _) _) _ _ _)); (fail_if_success (with_reducible show wpAny _ _ (exec (Stmt.For _ _ _ _ _) _) _ _ _)); (first | walk1 | (dsimp only; walk1))) | (leave1; walk_say "STEP leave1"; try dsimp only) | fail "no step"))
    rename _ < _ ∧ AllLt _ _ => lA
    k_dflt (refine append_L (by k_asm) (by k_asm) (Upd.tail (Nat.ne_of_gt lA.1) (Upd.head hne)) (by omega) ?_)
    intro h9 F9 N9
    (repeat' (first | (k_unfold; (try dsimp only)) | (k_end; wrow_close) | ((fail_if_success (with_reducible show wpAny _ _ (exec (Stmt.While _ _ _ _) _) _ _ _)); (fail_if_success (with_reducible show wpAny _ _ (exec (Stmt.For _ _ _ _ _) _) _ _ _)); (first | walk1 | (dsimp only; walk1))) | (leave1; walk_say "STEP leave1"; try dsimp only) | fail "no step"))
    refine hret2 hf _ _ _ _ _ _ (by assumption) (by assumption) ?_
    intro p hp
    rcases List.mem_cons.mp hp with rfl | hp
    · exact lA.1
    · exact kst_ltOf lA.2 p hp
  | some y =>
    rw [hf] at lF'
    dsimp only [strOr] at lF' ⊢
    (repeat' (first | (k_unfold; (try dsimp only)) | (k_end; wrow_close) | ((fail_if_success (with_reducible show wpAny _ _ (exec (Stmt.While _ _ _ _) _) _ _ _)); (fail_if_success (with_reducible show wpAny _ _ (exec (Stmt.For _ _ _ _ _) _) _ _ _)); (first | walk1 | (dsimp only; walk1))) | (leave1; walk_say "STEP leave1"; try dsimp only) | fail "no step"))
    exact cb_retS (hret1 y hf) rfl (by assumption) (by assumption)
end
end Mine
end
section
set_option autoImplicit false
namespace Mine
/-! The plain law of the tree (Burkhard and Keller): no program in sight. -/
section
variable (d : Nat → Nat → Nat) (z : Nat → Nat) (r : Nat)
/-- within the reach -/
def nearB (a b : Nat) : Bool := decide (a ≤ b + r ∧ b ≤ a + r)
/-- the loop of _law_parted -/
def loopP (rec : List Nat → List (Nat × Nat × Nat) × List Nat) (h : Nat) : Nat → List Nat → List (Nat × Nat × Nat) → List Nat → List (Nat × Nat × Nat) × List Nat
  | 0, _, links, way => (links, way)
  | _ + 1, [], links, way => (links, way)
  | g + 1, x :: l, links, way =>
    loopP rec h g ((x :: l).filter fun p => !decide (d h p = d h x)) ((links ++ [(x, h, d h x)]) ++ (rec ((x :: l).filter fun p => decide (d h p = d h x))).1)
      (if nearB r (z h) (d h x) = true then way ++ (rec ((x :: l).filter fun p => decide (d h p = d h x))).2 else way)
/-- what _law_parted reckons -/
def part : Nat → List Nat → List (Nat × Nat × Nat) × List Nat
  | 0, _ => ([], [])
  | _ + 1, [] => ([], [])
  | f + 1, h :: t => loopP d z r (part f) h t.length t [] [h]
/-- q hangs at a by the step s -/
inductive Link : List Nat → Nat → Nat → Nat → Prop
  | here {h q s : Nat} {t : List Nat} (e : (t.filter fun p => decide (d h p = s)).head? = some q) : Link (h :: t) q h s
  | down {h q a s : Nat} {t : List Nat} (k : Nat) (l : Link (t.filter fun p => decide (d h p = k)) q a s) : Link (h :: t) q a s
/-- q is on the way -/
inductive Way : List Nat → Nat → Prop
  | here {h : Nat} {t : List Nat} : Way (h :: t) h
  | down {h q : Nat} {t : List Nat} (k : Nat) (hk : nearB r (z h) k = true) (l : Way (t.filter fun p => decide (d h p = k)) q) : Way (h :: t) q
variable {d z r}
theorem Link.mem {P : List Nat} {q a s : Nat} (l : Link d P q a s) : a ∈ P ∧ q ∈ P.tail ∧ d a q = s := by
  induction l with
  | here e =>
    have := List.mem_of_head? e
    have := List.mem_filter.mp this
    exact ⟨List.mem_cons_self, this.1, of_decide_eq_true this.2⟩
  | down k l ih =>
    obtain ⟨h1, h2, h3⟩ := ih
    exact ⟨List.mem_cons_of_mem _ (List.mem_filter.mp h1).1, (List.mem_filter.mp (List.mem_of_mem_tail h2)).1, h3⟩
theorem Way.mem {P : List Nat} {q : Nat} (l : Way d z r P q) : q ∈ P := by
  induction l with
  | here => exact List.mem_cons_self
  | down k hk l ih => exact List.mem_cons_of_mem _ (List.mem_filter.mp ih).1
/-- everything within the reach is on the way -/
theorem way_of_near {P : List Nat} {q : Nat} (tri : ∀ a b, z a ≤ d a b + z b ∧ d a b ≤ z a + z b) (hq : q ∈ P) (hn : z q ≤ r) : Way d z r P q := by
  generalize hP : P.length = n
  induction n using Nat.strongRecOn generalizing P with
  | _ n ih =>
    cases P with
    | nil => cases hq
    | cons h t =>
      rcases List.mem_cons.mp hq with rfl | hq
      · exact .here
      · refine .down (d h q) ?_ (ih _ ?_ (List.mem_filter.mpr ⟨hq, by simp⟩) rfl)
        · have := tri h q
          simp only [nearB, decide_eq_true_eq]
          omega
        · have := List.length_filter_le (fun p => decide (d h p = d h q)) t
          simp at hP
          omega
theorem head_tail {l : List Nat} {q : Nat} (nd : l.Nodup) (h1 : l.head? = some q) (h2 : q ∈ l.tail) : False := by
  cases l with
  | nil => cases h2
  | cons y ys => simp at h1; subst h1; exact (List.nodup_cons.mp nd).1 h2
/-- heads are told once -/
theorem Link.uniq_q {P : List Nat} (nd : P.Nodup) {q q' a s : Nat} (l : Link d P q a s) (l' : Link d P q' a s) : q = q' := by
  induction l with
  | @here h q s t e =>
    cases l' with
    | here e' => rw [e] at e'; exact Option.some.inj e'
    | down k l' =>
      have := (List.mem_filter.mp l'.mem.1).1
      exact absurd this (List.nodup_cons.mp nd).1
  | @down h q a s t k l ih =>
    have ha := List.mem_filter.mp l.mem.1
    cases l' with
    | here e' => exact absurd ha.1 (List.nodup_cons.mp nd).1
    | down k' l' =>
      have ha' := List.mem_filter.mp l'.mem.1
      have : k = k' := by rw [← of_decide_eq_true ha.2, ← of_decide_eq_true ha'.2]
      subst this
      exact ih ((List.nodup_cons.mp nd).2.filter _) l'
/-- each place hangs once -/
theorem Link.uniq_a {P : List Nat} (nd : P.Nodup) {q a a' s s' : Nat} (l : Link d P q a s) (l' : Link d P q a' s') : a = a' ∧ s = s' := by
  induction l with
  | @here h q s t e =>
    have hq := List.mem_filter.mp (List.mem_of_head? e)
    cases l' with
    | here e' =>
      have hq' := List.mem_filter.mp (List.mem_of_head? e')
      exact ⟨rfl, by rw [← of_decide_eq_true hq.2, ← of_decide_eq_true hq'.2]⟩
    | down k l' =>
      have hm := l'.mem.2.1
      have hq' := List.mem_filter.mp (List.mem_of_mem_tail hm)
      have : s = k := by rw [← of_decide_eq_true hq.2, ← of_decide_eq_true hq'.2]
      subst this
      have nd' := (List.nodup_cons.mp nd).2.filter (fun p => decide (d h p = s))
      exact (head_tail nd' e hm).elim
  | @down h q a s t k l ih =>
    have hm := l.mem.2.1
    have hq := List.mem_filter.mp (List.mem_of_mem_tail hm)
    have nd' := (List.nodup_cons.mp nd).2.filter (fun p => decide (d h p = k))
    cases l' with
    | here e' =>
      have hq' := List.mem_filter.mp (List.mem_of_head? e')
      have : s' = k := by rw [← of_decide_eq_true hq.2, ← of_decide_eq_true hq'.2]
      subst this
      exact (head_tail nd' e' hm).elim
    | down k' l' =>
      have hq' := List.mem_filter.mp (List.mem_of_mem_tail l'.mem.2.1)
      have : k = k' := by rw [← of_decide_eq_true hq.2, ← of_decide_eq_true hq'.2]
      subst this
      exact ih nd' l'
theorem Link.ex {P : List Nat} {q : Nat} (hq : q ∈ P.tail) : ∃ a s, Link d P q a s := by
  generalize hP : P.length = n
  induction n using Nat.strongRecOn generalizing P with
  | _ n ih =>
    cases P with
    | nil => cases hq
    | cons h t =>
      have hq : q ∈ t := hq
      have hf : q ∈ t.filter (fun p => decide (d h p = d h q)) := List.mem_filter.mpr ⟨hq, by simp⟩
      have hle := List.length_filter_le (fun p => decide (d h p = d h q)) t
      cases hc : t.filter (fun p => decide (d h p = d h q)) with
      | nil => rw [hc] at hf; cases hf
      | cons y ys =>
        rcases List.mem_cons.mp (hc ▸ hf) with e | hm
        · subst e
          exact ⟨h, d h q, .here (by rw [hc]; rfl)⟩
        · obtain ⟨a, s, l⟩ := ih _ (by simp at hP; omega) (P := t.filter (fun p => decide (d h p = d h q))) (by rw [hc]; exact hm) rfl
          exact ⟨a, s, .down _ l⟩
/-- on the way: step by step -/
theorem Way.next {P : List Nat} (nd : P.Nodup) {a q s : Nat} (hw : Way d z r P a) (hl : Link d P q a s) (hn : nearB r (z a) s = true) : Way d z r P q := by
  induction hw with
  | @here h t =>
    cases hl with
    | here e =>
      refine .down s hn ?_
      cases hc : t.filter (fun p => decide (d h p = s)) with
      | nil => rw [hc] at e; cases e
      | cons y ys => rw [hc] at e; simp at e; subst e; exact .here
    | down k l => exact absurd (List.mem_filter.mp l.mem.1).1 (List.nodup_cons.mp nd).1
  | @down h a t k hk w ih =>
    have ha := List.mem_filter.mp w.mem
    cases hl with
    | here e => exact absurd ha.1 (List.nodup_cons.mp nd).1
    | down k' l =>
      have ha' := List.mem_filter.mp l.mem.1
      have : k = k' := by rw [← of_decide_eq_true ha.2, ← of_decide_eq_true ha'.2]
      subst this
      exact .down k hk (ih ((List.nodup_cons.mp nd).2.filter _) l hn)
theorem Way.prev {P : List Nat} {q : Nat} (hw : Way d z r P q) : P.head? = some q ∨ ∃ a s, Way d z r P a ∧ Link d P q a s ∧ nearB r (z a) s = true := by
  induction hw with
  | here => exact .inl rfl
  | @down h q t k hk w ih =>
    right
    rcases ih with e | ⟨a, s, h1, h2, h3⟩
    · exact ⟨h, k, .here, .here e, hk⟩
    · exact ⟨a, s, .down k hk h1, .down k h2, h3⟩
theorem filter_other {l : List Nat} {h s k : Nat} (hk : k ≠ s) : (l.filter fun p => !decide (d h p = s)).filter (fun p => decide (d h p = k)) = l.filter fun p => decide (d h p = k) := by
  rw [List.filter_filter]
  congr 1
  funext p
  by_cases e : d h p = k
  · have : d h p ≠ s := e ▸ hk
    simp [e, hk]
  · simp [e]
theorem filter_same {l : List Nat} {h s : Nat} : (l.filter fun p => !decide (d h p = s)).filter (fun p => decide (d h p = s)) = [] := by
  rw [List.filter_filter, List.filter_eq_nil_iff]
  intro p _
  simp
theorem link_nil {q a s : Nat} : ¬ Link d [] q a s := by intro l; cases l
theorem way_nil {q : Nat} : ¬ Way d z r [] q := by intro l; cases l
theorem link_split {h x q a s : Nat} {l : List Nat} :
    Link d (h :: x :: l) q a s ↔ (q, a, s) = (x, h, d h x) ∨ Link d ((x :: l).filter fun p => decide (d h p = d h x)) q a s ∨ Link d (h :: (x :: l).filter fun p => !decide (d h p = d h x)) q a s := by
  have hx : ((x :: l).filter fun p => decide (d h p = d h x)).head? = some x := by simp
  constructor
  · intro lk
    generalize hP : h :: x :: l = P at lk
    cases lk with
    | @here h' q s t e =>
      injection hP with e1 e2
      subst e1; subst e2
      by_cases hs : s = d h x
      · subst hs
        rw [hx] at e
        cases e
        exact .inl rfl
      · refine .inr (.inr (.here ?_))
        rw [filter_other hs]; exact e
    | @down h' q a s t k lk =>
      injection hP with e1 e2
      subst e1; subst e2
      by_cases hs : k = d h x
      · subst hs
        exact .inr (.inl lk)
      · refine .inr (.inr (.down k ?_))
        rw [filter_other hs]; exact lk
  · rintro (e | lk | lk)
    · cases e
      exact .here hx
    · exact .down _ lk
    · generalize hP : h :: ((x :: l).filter fun p => !decide (d h p = d h x)) = P at lk
      cases lk with
      | @here h' q s t e =>
        injection hP with e1 e2
        subst e1; subst e2
        by_cases hs : s = d h x
        · subst hs
          rw [filter_same] at e; cases e
        · rw [filter_other hs] at e
          exact .here e
      | @down h' q a s t k lk =>
        injection hP with e1 e2
        subst e1; subst e2
        by_cases hs : k = d h x
        · subst hs
          rw [filter_same] at lk; exact (link_nil lk).elim
        · rw [filter_other hs] at lk
          exact .down _ lk
/-- on the way behind the head -/
def WayT (d : Nat → Nat → Nat) (z : Nat → Nat) (r h : Nat) (t : List Nat) (q : Nat) : Prop := ∃ k, nearB r (z h) k = true ∧ Way d z r (t.filter fun p => decide (d h p = k)) q
theorem wayT_split {h x q : Nat} {l : List Nat} :
    WayT d z r h (x :: l) q ↔ (nearB r (z h) (d h x) = true ∧ Way d z r ((x :: l).filter fun p => decide (d h p = d h x)) q) ∨ WayT d z r h ((x :: l).filter fun p => !decide (d h p = d h x)) q := by
  constructor
  · rintro ⟨k, hk, w⟩
    by_cases hs : k = d h x
    · subst hs; exact .inl ⟨hk, w⟩
    · exact .inr ⟨k, hk, by rw [filter_other hs]; exact w⟩
  · rintro (⟨hk, w⟩ | ⟨k, hk, w⟩)
    · exact ⟨_, hk, w⟩
    · by_cases hs : k = d h x
      · subst hs; rw [filter_same] at w; exact (way_nil w).elim
      · rw [filter_other hs] at w; exact ⟨k, hk, w⟩
theorem wayT_mem {h q : Nat} {t : List Nat} (w : WayT d z r h t q) : q ∈ t := by
  obtain ⟨k, _, w⟩ := w
  exact (List.mem_filter.mp w.mem).1
theorem way_cons {h q : Nat} {t : List Nat} : Way d z r (h :: t) q ↔ q = h ∨ WayT d z r h t q := by
  constructor
  · intro w
    cases w with
    | here => exact .inl rfl
    | down k hk w => exact .inr ⟨k, hk, w⟩
  · rintro (rfl | ⟨k, hk, w⟩)
    · exact .here
    · exact .down k hk w
/-- what a parting must tell -/
structure PartOk (d : Nat → Nat → Nat) (z : Nat → Nat) (r : Nat) (P : List Nat) (R : List (Nat × Nat × Nat) × List Nat) : Prop where
  links : ∀ q a s, (q, a, s) ∈ R.1 ↔ Link d P q a s
  perm : (R.1.map (·.1)).Perm P.tail
  way : ∀ q, q ∈ R.2 ↔ Way d z r P q
  nd : R.2.Nodup
theorem filter_perm {l : List Nat} {p : Nat → Bool} : (l.filter p ++ l.filter fun x => !p x).Perm l := List.filter_append_perm p l
theorem loopP_ok {f : Nat} (rec : List Nat → List (Nat × Nat × Nat) × List Nat) (hrec : ∀ P, P ≠ [] → P.length ≤ f → P.Nodup → PartOk d z r P (rec P)) (h : Nat) :
    ∀ (g : Nat) (left : List Nat) (links : List (Nat × Nat × Nat)) (way : List Nat), left.length ≤ g → left.length ≤ f → left.Nodup →
      ∃ X Y, loopP d z r rec h g left links way = (links ++ X, way ++ Y) ∧ (∀ q a s, (q, a, s) ∈ X ↔ Link d (h :: left) q a s) ∧ (X.map (·.1)).Perm left ∧ (∀ q, q ∈ Y ↔ WayT d z r h left q) ∧ Y.Nodup
  | 0, [], links, way, _, _, _ => ⟨[], [], by simp [loopP], fun q a s => by simpa using fun l => by cases l with | here e => simp at e | down k l => exact link_nil (by simpa using l), by simp, fun q => by simpa using fun ⟨k, _, w⟩ => way_nil (by simpa using w), by simp⟩
  | 0, _ :: _, _, _, h, _, _ => by simp at h
  | g + 1, [], links, way, _, _, _ => ⟨[], [], by simp [loopP], fun q a s => by simpa using fun l => by cases l with | here e => simp at e | down k l => exact link_nil (by simpa using l), by simp, fun q => by simpa using fun ⟨k, _, w⟩ => way_nil (by simpa using w), by simp⟩
  | g + 1, x :: l, links, way, hg, hf, nd => by
    have hmx : ((x :: l).filter fun p => decide (d h p = d h x)) = x :: l.filter fun p => decide (d h p = d h x) := by simp
    have hml : ((x :: l).filter fun p => decide (d h p = d h x)).length ≤ f := Nat.le_trans (List.length_filter_le _ _) hf
    have hll : ((x :: l).filter fun p => !decide (d h p = d h x)).length ≤ l.length := by
      rw [List.filter_cons_of_neg (by simp)]; exact List.length_filter_le _ _
    have ok := hrec _ (by rw [hmx]; simp) hml (nd.filter fun p => decide (d h p = d h x))
    obtain ⟨X, Y, e, h1, h2, h3, h4⟩ := loopP_ok rec hrec h g ((x :: l).filter fun p => !decide (d h p = d h x)) ((links ++ [(x, h, d h x)]) ++ (rec ((x :: l).filter fun p => decide (d h p = d h x))).1)
      (if nearB r (z h) (d h x) = true then way ++ (rec ((x :: l).filter fun p => decide (d h p = d h x))).2 else way) (by simp at hg; omega) (by simp at hf; omega) (nd.filter _)
    refine ⟨(x, h, d h x) :: ((rec ((x :: l).filter fun p => decide (d h p = d h x))).1 ++ X), (if nearB r (z h) (d h x) = true then (rec ((x :: l).filter fun p => decide (d h p = d h x))).2 ++ Y else Y), ?_, ?_, ?_, ?_, ?_⟩
    · rw [loopP, e]
      split <;> simp
    · intro q a s
      rw [link_split, List.mem_cons, List.mem_append, ok.links, h1]
    · rw [List.map_cons, List.map_append]
      have p1 : (((rec ((x :: l).filter fun p => decide (d h p = d h x))).1.map (·.1)) ++ X.map (·.1)).Perm ((l.filter fun p => decide (d h p = d h x)) ++ ((x :: l).filter fun p => !decide (d h p = d h x))) := by
        refine List.Perm.append ?_ h2
        have := ok.perm
        rw [hmx] at this
        rw [hmx]; exact this
      refine (p1.cons x).trans ?_
      have := filter_perm (l := x :: l) (p := fun p => decide (d h p = d h x))
      rw [hmx] at this
      exact this
    · intro q
      rw [wayT_split]
      by_cases hn : nearB r (z h) (d h x) = true
      · simp only [hn, if_true, true_and]; rw [List.mem_append, ok.way, h3]
      · rw [if_neg hn, h3]; simp [hn]
    · by_cases hn : nearB r (z h) (d h x) = true
      · simp only [hn, if_true]
        rw [List.nodup_append]
        refine ⟨ok.nd, h4, ?_⟩
        intro a ha b hb e
        subst e
        have w1 := List.mem_filter.mp ((ok.way a).mp ha).mem
        have w2 := List.mem_filter.mp (wayT_mem ((h3 a).mp hb))
        simp only [w1.2, Bool.not_true] at w2
        exact absurd w2.2 (by simp)
      · rw [if_neg hn]; exact h4
theorem part_ok : ∀ (f : Nat) (P : List Nat), P ≠ [] → P.length ≤ f → P.Nodup → PartOk d z r P (part d z r f P)
  | 0, P, h1, h2, _ => by cases P with | nil => exact absurd rfl h1 | cons => simp at h2
  | f + 1, [], h1, _, _ => absurd rfl h1
  | f + 1, h :: t, _, h2, nd => by
    obtain ⟨X, Y, e, h1, h2, h3, h4⟩ := loopP_ok (part d z r f) (part_ok f) h t.length t [] [h] (Nat.le_refl _) (by simp at h2; omega) (List.nodup_cons.mp nd).2
    rw [part, e]
    refine ⟨by simpa using h1, by simpa using h2, ?_, ?_⟩
    · intro q
      show q ∈ [h] ++ Y ↔ _
      rw [way_cons, List.singleton_append, List.mem_cons, h3]
    · show ([h] ++ Y).Nodup
      rw [List.singleton_append, List.nodup_cons]
      exact ⟨fun hm => (List.nodup_cons.mp nd).1 (wayT_mem ((h3 h).mp hm)), h4⟩
end
end Mine
namespace Mine
/-- the place that hangs at a by the step s -/
def look (E : List (Nat × Nat)) (a s : Nat) : Option Nat := (E.findIdx? fun e => e == (a, s)).map (· + 1)
/-- goes down, from the place a on, to where a new place hangs -/
def desc (E : List (Nat × Nat)) (δ : Nat → Nat) : Nat → Nat → Nat × Nat
  | 0, a => (a, δ a)
  | f + 1, a => match look E a (δ a) with
    | some q => desc E δ f q
    | none => (a, δ a)
/-- the tree of the places 1 .. k: where each hangs -/
def treeN (d : Nat → Nat → Nat) : Nat → List (Nat × Nat)
  | 0 => []
  | k + 1 => treeN d k ++ [desc (treeN d k) (fun a => d a (k + 1)) (k + 1) 0]
end Mine
end
section
set_option autoImplicit false
namespace Mine
section
variable {d : Nat → Nat → Nat}
theorem look_some {E : List (Nat × Nat)} {a s q : Nat} (h : look E a s = some q) : 1 ≤ q ∧ q ≤ E.length ∧ E[q - 1]? = some (a, s) := by
  unfold look at h
  cases hf : E.findIdx? (fun e => e == (a, s)) with
  | none => rw [hf] at h; cases h
  | some i =>
    rw [hf] at h
    simp at h
    subst h
    obtain ⟨hi, h1, _⟩ := List.findIdx?_eq_some_iff_getElem.mp hf
    refine ⟨by omega, by omega, ?_⟩
    rw [Nat.add_sub_cancel, List.getElem?_eq_getElem hi]
    exact congrArg some (by simpa using h1)
theorem look_none {E : List (Nat × Nat)} {a s : Nat} (h : look E a s = none) : ∀ i : Nat, E[i]? ≠ some (a, s) := by
  unfold look at h
  have hf : E.findIdx? (fun e => e == (a, s)) = none := by
    cases hf : E.findIdx? (fun e => e == (a, s)) with
    | none => rfl
    | some i => rw [hf] at h; cases h
  intro i hi
  have := List.findIdx?_eq_none_iff.mp hf (a, s) (List.mem_of_getElem? hi)
  simp at this
theorem treeN_len (k : Nat) : (treeN d k).length = k := by
  induction k with
  | zero => rfl
  | succ k ih => simp [treeN, ih]
theorem desc_le {E : List (Nat × Nat)} {δ : Nat → Nat} : ∀ (f a : Nat), a ≤ E.length → (desc E δ f a).1 ≤ E.length
  | 0, a, h => h
  | f + 1, a, h => by
    unfold desc
    cases hl : look E a (δ a) with
    | none => exact h
    | some q => exact desc_le f q (look_some hl).2.1
theorem desc_snd {E : List (Nat × Nat)} {δ : Nat → Nat} : ∀ (f a : Nat), (desc E δ f a).2 = δ (desc E δ f a).1
  | 0, a => rfl
  | f + 1, a => by
    unfold desc
    cases hl : look E a (δ a) with
    | none => rfl
    | some q => exact desc_snd f q
/-- each place hangs at an earlier one -/
theorem treeN_lt {k i a s : Nat} (h : (treeN d k)[i]? = some (a, s)) : a ≤ i ∧ i < k ∧ s = d a (i + 1) := by
  induction k with
  | zero => simp [treeN] at h
  | succ k ih =>
    rw [treeN] at h
    by_cases hi : i < k
    · rw [List.getElem?_append_left (by rw [treeN_len]; exact hi)] at h
      have := ih h
      omega
    · by_cases hk : i = k
      · subst hk
        rw [List.getElem?_append_right (by rw [treeN_len]; omega), treeN_len] at h
        simp at h
        have h1 := desc_le (δ := fun a => d a (i + 1)) (E := treeN d i) (i + 1) 0 (Nat.zero_le _)
        have h2 := desc_snd (δ := fun a => d a (i + 1)) (E := treeN d i) (i + 1) 0
        rw [h, treeN_len] at h1
        rw [h] at h2
        exact ⟨h1, Nat.lt_succ_self _, h2⟩
      · rw [List.getElem?_eq_none (by simp [treeN_len]; omega)] at h
        cases h
theorem look_lt {k a s q : Nat} (h : look (treeN d k) a s = some q) : a < q ∧ q ≤ k ∧ s = d a q := by
  obtain ⟨h1, h2, h3⟩ := look_some h
  have := treeN_lt h3
  have e : q - 1 + 1 = q := by omega
  rw [e] at this
  omega
theorem filter_snoc {t : List Nat} {h x k : Nat} : (t ++ [x]).filter (fun p => decide (d h p = k)) = t.filter (fun p => decide (d h p = k)) ++ (if d h x = k then [x] else []) := by
  rw [List.filter_append]
  congr 1
  by_cases e : d h x = k <;> simp [e]
/-- a place more at the end changes nothing for the others -/
theorem link_snoc_old {P : List Nat} {x q a s : Nat} (hq : q ≠ x) : Link d (P ++ [x]) q a s ↔ Link d P q a s := by
  generalize hn : P.length = n
  induction n using Nat.strongRecOn generalizing P q a s with
  | _ n ih =>
    cases P with
    | nil =>
      constructor
      · intro l
        have := l.mem.2.1
        simp at this
      · intro l; exact (link_nil l).elim
    | cons h t =>
      rw [List.cons_append]
      have hsub : ∀ k, (t.filter fun p => decide (d h p = k)).length < n := by
        intro k
        have := List.length_filter_le (fun p => decide (d h p = k)) t
        simp at hn; omega
      constructor
      · intro l
        generalize hP : h :: (t ++ [x]) = P' at l
        cases l with
        | @here h' q s t' e =>
          injection hP with e1 e2
          subst e1; subst e2
          refine .here ?_
          rw [filter_snoc] at e
          cases hc : t.filter (fun p => decide (d h p = s)) with
          | nil =>
            rw [hc] at e
            by_cases hx : d h x = s
            · simp [hx] at e; exact absurd e.symm hq
            · simp [hx] at e
          | cons y ys => rw [hc] at e; simpa using e
        | @down h' q a s t' k l =>
          injection hP with e1 e2
          subst e1; subst e2
          refine .down k ?_
          rw [filter_snoc] at l
          by_cases hx : d h x = k
          · rw [if_pos hx] at l
            exact (ih _ (hsub k) hq rfl).mp l
          · rw [if_neg hx, List.append_nil] at l; exact l
      · intro l
        generalize hP : h :: t = P' at l
        cases l with
        | @here h' q s t' e =>
          injection hP with e1 e2
          subst e1; subst e2
          refine .here ?_
          rw [filter_snoc]
          cases hc : t.filter (fun p => decide (d h p = s)) with
          | nil => rw [hc] at e; cases e
          | cons y ys => rw [hc] at e; simpa using e
        | @down h' q a s t' k l =>
          injection hP with e1 e2
          subst e1; subst e2
          refine .down k ?_
          rw [filter_snoc]
          by_cases hx : d h x = k
          · rw [if_pos hx]
            exact (ih _ (hsub k) hq rfl).mpr l
          · rw [if_neg hx, List.append_nil]; exact l
/-- the way down of a new place, by the entries, is where it hangs -/
theorem desc_link {E : List (Nat × Nat)} {P : List Nat} (nd : P.Nodup) (hE : ∀ q a s, Link d P q a s ↔ 1 ≤ q ∧ E[q - 1]? = some (a, s)) (hlt : ∀ i a s : Nat, E[i]? = some (a, s) → a ≤ i) {x : Nat} :
    ∀ (f h : Nat) (t : List Nat), (h :: t).Nodup → (∀ q a s, a ∈ h :: t → (Link d P q a s ↔ Link d (h :: t) q a s)) → t.length < f →
      Link d (h :: t ++ [x]) x (desc E (fun a => d a x) f h).1 (desc E (fun a => d a x) f h).2
  | 0, _, _, _, _, hf => by simp at hf
  | f + 1, h, t, ndM, hM, hf => by
    have self : ∀ q s, Link d (h :: t) q h s ↔ (t.filter fun p => decide (d h p = s)).head? = some q := by
      intro q s
      constructor
      · intro l
        generalize hP : h :: t = P' at l
        cases l with
        | @here h' q s t' e => injection hP with e1 e2; subst e2; exact e
        | @down h' q a s t' k l =>
          injection hP with e1 e2; subst e1; subst e2
          exact absurd (List.mem_filter.mp l.mem.1).1 (List.nodup_cons.mp ndM).1
      · exact .here
    unfold desc
    cases hl : look E h (d h x) with
    | none =>
      dsimp only
      have hc : t.filter (fun p => decide (d h p = d h x)) = [] := by
        cases hc : t.filter (fun p => decide (d h p = d h x)) with
        | nil => rfl
        | cons y ys =>
          have l1 := (hM y h (d h x) List.mem_cons_self).mpr ((self y (d h x)).mpr (by rw [hc]; rfl))
          exact absurd ((hE _ _ _).mp l1).2 (look_none hl _)
      rw [List.cons_append]
      refine .here ?_
      rw [filter_snoc, hc]; simp
    | some q =>
      dsimp only
      obtain ⟨h1, h2, h3⟩ := look_some hl
      have l1 := (hM q h (d h x) List.mem_cons_self).mp ((hE _ _ _).mpr ⟨h1, h3⟩)
      have hh := (self q (d h x)).mp l1
      have ndF := (List.nodup_cons.mp ndM).2.filter (fun p => decide (d h p = d h x))
      cases hc : t.filter (fun p => decide (d h p = d h x)) with
      | nil => rw [hc] at hh; cases hh
      | cons y ys =>
        have : y = q := by rw [hc] at hh; simpa using hh
        subst this
        rw [hc] at ndF
        rw [List.cons_append]
        refine .down (d h x) ?_
        rw [filter_snoc, if_pos rfl, hc]
        refine desc_link nd hE hlt f y ys ndF ?_ ?_
        · intro q' a s ha
          have ha' : a ∈ t.filter (fun p => decide (d h p = d h x)) := by rw [hc]; exact ha
          have ha2 := List.mem_filter.mp ha'
          rw [hM q' a s (List.mem_cons_of_mem _ ha2.1)]
          constructor
          · intro l
            generalize hP : h :: t = P' at l
            cases l with
            | @here h' q s t' e => injection hP with e1 e2; subst e1; subst e2; exact absurd ha2.1 (List.nodup_cons.mp ndM).1
            | @down h' q a s t' k l =>
              injection hP with e1 e2; subst e1; subst e2
              have hk := List.mem_filter.mp l.mem.1
              have : k = d h x := by rw [← of_decide_eq_true hk.2, of_decide_eq_true ha2.2]
              subst this
              rw [hc] at l; exact l
          · intro l
            refine .down (d h x) ?_
            rw [hc]; exact l
        · have := List.length_filter_le (fun p => decide (d h p = d h x)) t
          rw [hc] at this
          simp at this
          omega
theorem range_nodup (n : Nat) : (List.range n).Nodup := List.nodup_range
/-- the tree is the parting -/
theorem tree_link : ∀ (k q a s : Nat), Link d (List.range (k + 1)) q a s ↔ 1 ≤ q ∧ (treeN d k)[q - 1]? = some (a, s)
  | 0, q, a, s => by
    constructor
    · intro l
      have := l.mem.2.1
      simp at this
    · rintro ⟨_, h⟩
      simp [treeN] at h
  | k + 1, q, a, s => by
    have ih := tree_link k
    rw [List.range_succ]
    have hx : Link d (List.range (k + 1) ++ [k + 1]) (k + 1) (desc (treeN d k) (fun a => d a (k + 1)) (k + 1) 0).1 (desc (treeN d k) (fun a => d a (k + 1)) (k + 1) 0).2 := by
      have e : List.range (k + 1) = 0 :: (List.range k).map Nat.succ := List.range_succ_eq_map
      have nd := range_nodup (k + 1)
      rw [e] at ih nd ⊢
      exact desc_link nd ih (fun i a s h => (treeN_lt h).1) (k + 1) 0 _ nd (fun _ _ _ _ => Iff.rfl) (by simp)
    by_cases hq : q = k + 1
    · subst hq
      constructor
      · intro l
        have nd : (List.range (k + 1) ++ [k + 1]).Nodup := by rw [← List.range_succ]; exact range_nodup _
        obtain ⟨e1, e2⟩ := Link.uniq_a nd l hx
        refine ⟨by omega, ?_⟩
        rw [treeN, List.getElem?_append_right (by rw [treeN_len]; omega), treeN_len, e1, e2]
        simp
      · rintro ⟨_, h⟩
        rw [treeN, List.getElem?_append_right (by rw [treeN_len]; omega), treeN_len] at h
        simp at h
        rw [h] at hx
        exact hx
    · rw [link_snoc_old hq, ih]
      constructor
      · rintro ⟨h1, h2⟩
        refine ⟨h1, ?_⟩
        have := (treeN_lt h2).2.1
        rw [treeN, List.getElem?_append_left (by rw [treeN_len]; exact this)]; exact h2
      · rintro ⟨h1, h2⟩
        refine ⟨h1, ?_⟩
        have := (treeN_lt h2).2.1
        rw [treeN, List.getElem?_append_left (by rw [treeN_len]; omega)] at h2; exact h2
end
end Mine
end
section
set_option autoImplicit false
namespace Mine
/-! The plain law of the search. -/
section
variable {d : Nat → Nat → Nat} {z : Nat → Nat} {r n : Nat}
theorem look_iff {k a s q : Nat} : look (treeN d k) a s = some q ↔ Link d (List.range (k + 1)) q a s := by
  rw [tree_link]
  constructor
  · intro h
    obtain ⟨h1, _, h3⟩ := look_some h
    exact ⟨h1, h3⟩
  · rintro ⟨h1, h2⟩
    cases hl : look (treeN d k) a s with
    | none => exact absurd h2 (look_none hl _)
    | some q' =>
      obtain ⟨g1, _, g3⟩ := look_some hl
      have l1 := (tree_link (d := d) k q a s).mpr ⟨h1, h2⟩
      have l2 := (tree_link (d := d) k q' a s).mpr ⟨g1, g3⟩
      rw [Link.uniq_q (range_nodup _) l1 l2]
/-- the places that hang at a by lo, lo + 1, .. (j of them) -/
def kids (E : List (Nat × Nat)) (a lo j : Nat) : List Nat := (List.range j).filterMap fun i => look E a (lo + i)
theorem kids_succ (E : List (Nat × Nat)) (a lo j : Nat) : kids E a lo (j + 1) = kids E a lo j ++ (match look E a (lo + j) with | some q => [q] | none => []) := by
  unfold kids
  rw [List.range_succ, List.filterMap_append]
  congr 1
  cases h : look E a (lo + j) <;> simp [h]
theorem mem_kids {E : List (Nat × Nat)} {a lo j q : Nat} : q ∈ kids E a lo j ↔ ∃ s, lo ≤ s ∧ s < lo + j ∧ look E a s = some q := by
  unfold kids
  rw [List.mem_filterMap]
  constructor
  · rintro ⟨i, hi, e⟩
    have := List.mem_range.mp hi
    exact ⟨lo + i, by omega, by omega, e⟩
  · rintro ⟨s, h1, h2, e⟩
    exact ⟨s - lo, List.mem_range.mpr (by omega), by rw [show lo + (s - lo) = s by omega]; exact e⟩
theorem kids_nodup {k a lo j : Nat} : (kids (treeN d k) a lo j).Nodup := by
  unfold kids
  refine List.Pairwise.filterMap _ (R := (· ≠ ·)) ?_ (List.nodup_range)
  intro i i' hne b hb b' hb' e
  subst e
  have l1 := look_iff.mp hb
  have l2 := look_iff.mp hb'
  have := (Link.uniq_a (range_nodup _) l1 l2).2
  exact hne (by omega)
/-- all that waits behind a -/
def kidsOf (E : List (Nat × Nat)) (z : Nat → Nat) (r a : Nat) : List Nat := kids E a (z a - r) (z a + r + 1 - (z a - r))
theorem mem_kidsOf {k a q : Nat} : q ∈ kidsOf (treeN d k) z r a ↔ ∃ s, nearB r (z a) s = true ∧ Link d (List.range (k + 1)) q a s := by
  unfold kidsOf
  rw [mem_kids]
  constructor
  · rintro ⟨s, h1, h2, e⟩
    exact ⟨s, by simp only [nearB, decide_eq_true_eq]; omega, look_iff.mp e⟩
  · rintro ⟨s, hn, l⟩
    simp only [nearB, decide_eq_true_eq] at hn
    exact ⟨s, by omega, by omega, look_iff.mpr l⟩
/-- between the turns of the search: what waits, what was on the way -/
structure BfsInv (d : Nat → Nat → Nat) (z : Nat → Nat) (r n : Nat) (W Y : List Nat) : Prop where
  nd : (Y ++ W).Nodup
  way : ∀ q ∈ Y ++ W, Way d z r (List.range (n + 1)) q
  closed : ∀ a ∈ Y, ∀ q s, Link d (List.range (n + 1)) q a s → nearB r (z a) s = true → q ∈ Y ++ W
  root : 0 ∈ Y ++ W
  from_ : ∀ q ∈ Y ++ W, q = 0 ∨ ∃ a s, a ∈ Y ∧ Link d (List.range (n + 1)) q a s
theorem way_root : Way d z r (List.range (n + 1)) 0 := by rw [List.range_succ_eq_map]; exact .here
theorem bfs_init : BfsInv d z r n [0] [] where
  nd := by simp
  way := by intro q hq; simp at hq; subst hq; exact way_root
  closed := by intro a ha; cases ha
  root := by simp
  from_ := by intro q hq; simp at hq; exact .inl hq
theorem bfs_step {a : Nat} {W Y : List Nat} (h : BfsInv d z r n (a :: W) Y) : BfsInv d z r n (W ++ kidsOf (treeN d n) z r a) (Y ++ [a]) := by
  have hwa : Way d z r (List.range (n + 1)) a := h.way a (by simp)
  have mem : ∀ q, q ∈ (Y ++ [a]) ++ (W ++ kidsOf (treeN d n) z r a) ↔ q ∈ Y ++ a :: W ∨ q ∈ kidsOf (treeN d n) z r a := by
    intro q; simp only [List.mem_append, List.mem_cons, List.not_mem_nil, or_false]
    constructor
    · rintro ((h | h) | h | h)
      · exact .inl (.inl h)
      · exact .inl (.inr (.inl h))
      · exact .inl (.inr (.inr h))
      · exact .inr h
    · rintro ((h | h | h) | h)
      · exact .inl (.inl h)
      · exact .inl (.inr h)
      · exact .inr (.inl h)
      · exact .inr (.inr h)
  have haY : a ∉ Y := fun hm => by
    have := List.nodup_append.mp h.nd
    exact this.2.2 a hm a (by simp) rfl
  constructor
  · have e : (Y ++ [a]) ++ (W ++ kidsOf (treeN d n) z r a) = (Y ++ a :: W) ++ kidsOf (treeN d n) z r a := by simp
    rw [e, List.nodup_append]
    refine ⟨h.nd, kids_nodup, ?_⟩
    intro q hq q' hk e
    subst e
    obtain ⟨s, _, l⟩ := mem_kidsOf.mp hk
    rcases h.from_ q hq with rfl | ⟨a', s', ha', l'⟩
    · have := ((tree_link (d := d) n 0 a s).mp l).1
      omega
    · have := (Link.uniq_a (range_nodup _) l l').1
      subst this
      exact haY ha'
  · intro q hq
    rcases (mem q).mp hq with hq | hq
    · exact h.way q hq
    · obtain ⟨s, hn, l⟩ := mem_kidsOf.mp hq
      exact Way.next (range_nodup _) hwa l hn
  · intro b hb q s l hn
    rw [mem]
    rcases List.mem_append.mp hb with hb | hb
    · exact .inl (h.closed b hb q s l hn)
    · have := List.mem_singleton.mp hb
      subst this
      exact .inr (mem_kidsOf.mpr ⟨s, hn, l⟩)
  · rw [mem]; exact .inl h.root
  · intro q hq
    rcases (mem q).mp hq with hq | hq
    · rcases h.from_ q hq with e | ⟨a', s', ha', l'⟩
      · exact .inl e
      · exact .inr ⟨a', s', List.mem_append_left _ ha', l'⟩
    · obtain ⟨s, _, l⟩ := mem_kidsOf.mp hq
      exact .inr ⟨a, s, by simp, l⟩
theorem bfs_len {W Y : List Nat} (h : BfsInv d z r n W Y) : Y.length + W.length ≤ n + 1 := by
  have := List.Nodup.length_le_of_subset h.nd (l₂ := List.range (n + 1)) fun q hq => (h.way q hq).mem
  rw [List.length_append, List.length_range] at this
  exact this
theorem bfs_le {W Y : List Nat} (h : BfsInv d z r n W Y) {q : Nat} (hq : q ∈ Y ++ W) : q ≤ n := by
  have := List.mem_range.mp (h.way q hq).mem
  omega
theorem bfs_done {Y : List Nat} (h : BfsInv d z r n [] Y) : Y.Nodup ∧ ∀ q, q ∈ Y ↔ Way d z r (List.range (n + 1)) q := by
  have hn := h.nd
  rw [List.append_nil] at hn
  refine ⟨hn, fun q => ⟨fun hq => h.way q (List.mem_append_left _ hq), ?_⟩⟩
  induction q using Nat.strongRecOn with
  | _ q ih =>
    intro w
    rcases Way.prev w with e | ⟨a, s, wa, l, hn⟩
    · rw [List.range_succ_eq_map] at e
      simp at e
      subst e
      have := h.root
      rwa [List.append_nil] at this
    · have hlt := (look_lt (look_iff.mpr l)).1
      have ha := ih a hlt wa
      have := h.closed a ha q s l hn
      rwa [List.append_nil] at this
end
end Mine
end
section
set_option autoImplicit false
namespace Mine
/-! What one text costs to become another, as a metric: no program in sight. -/
def lowN (a : Nat) : Nat := if a = 65 then 97 else a
/-- what one sign costs to become another -/
def csub (a b : Nat) : Nat := if a = b then 0 else if lowN a = lowN b then 1 else 2
theorem csub_symm (a b : Nat) : csub a b = csub b a := by
  unfold csub
  by_cases h : a = b
  · subst h; rfl
  · have h' : b ≠ a := fun e => h e.symm
    by_cases k : lowN a = lowN b
    · simp [h, h', k]
    · have k' : lowN b ≠ lowN a := fun e => k e.symm
      simp [h, h', k, k']
theorem csub_tri (a b c : Nat) : csub a c ≤ csub a b + csub b c := by
  unfold csub
  by_cases h : a = b
  · subst h; simp
  · by_cases k : b = c
    · subst k; simp
    · by_cases l : a = c
      · simp [l]
      · by_cases p : lowN a = lowN b <;> by_cases q : lowN b = lowN c <;> simp_all <;> (try split) <;> omega
theorem csub_le (a b : Nat) : csub a b ≤ 2 := by
  unfold csub; split
  · omega
  · split <;> omega
/-- the ways to turn one text into another, with their price -/
inductive Al : List Nat → List Nat → Nat → Prop
  | nil : Al [] [] 0
  | sub (a b : Nat) {x y : List Nat} {n : Nat} (h : Al x y n) : Al (a :: x) (b :: y) (n + csub a b)
  | del (a : Nat) {x y : List Nat} {n : Nat} (h : Al x y n) : Al (a :: x) y (n + 2)
  | ins (b : Nat) {x y : List Nat} {n : Nat} (h : Al x y n) : Al x (b :: y) (n + 2)
theorem Al.symm {x y : List Nat} {n : Nat} (h : Al x y n) : Al y x n := by
  induction h with
  | nil => exact .nil
  | sub a b _ ih => rw [csub_symm]; exact .sub b a ih
  | del a _ ih => exact .ins a ih
  | ins b _ ih => exact .del b ih
theorem Al.trans {x y : List Nat} {n : Nat} (h : Al x y n) : ∀ {z : List Nat} {m : Nat}, Al y z m → ∃ k, k ≤ n + m ∧ Al x z k := by
  induction h with
  | nil => intro z m g; exact ⟨m, by omega, g⟩
  | del a _ ih =>
    intro z m g
    obtain ⟨k, hk, r⟩ := ih g
    exact ⟨k + 2, by omega, .del a r⟩
  | @sub a b x y n h ih =>
    intro z m g
    generalize hy : b :: y = y' at g
    induction g with
    | nil => cases hy
    | sub b' c g _ =>
      injection hy with e1 e2; subst e1; subst e2
      obtain ⟨k, hk, r⟩ := ih g
      have := csub_tri a b c
      exact ⟨k + csub a c, by omega, .sub a c r⟩
    | del b' g _ =>
      injection hy with e1 e2; subst e1; subst e2
      obtain ⟨k, hk, r⟩ := ih g
      exact ⟨k + 2, by omega, .del a r⟩
    | ins c _ ih2 =>
      obtain ⟨k, hk, r⟩ := ih2 hy
      exact ⟨k + 2, by omega, .ins c r⟩
  | @ins b x y n h ih =>
    intro z m g
    generalize hy : b :: y = y' at g
    induction g with
    | nil => cases hy
    | sub b' c g _ =>
      injection hy with e1 e2; subst e1; subst e2
      obtain ⟨k, hk, r⟩ := ih g
      exact ⟨k + 2, by omega, .ins c r⟩
    | del b' g _ =>
      injection hy with e1 e2; subst e1; subst e2
      obtain ⟨k, hk, r⟩ := ih g
      exact ⟨k, by omega, r⟩
    | ins c _ ih2 =>
      obtain ⟨k, hk, r⟩ := ih2 hy
      exact ⟨k + 2, by omega, .ins c r⟩
def edIn (a : Nat) (x : List Nat) (f : List Nat → Nat) : List Nat → Nat
  | [] => 2 * (x.length + 1)
  | b :: y => min (f y + csub a b) (min (f (b :: y) + 2) (edIn a x f y + 2))
/-- the least price -/
def ed : List Nat → List Nat → Nat
  | [], y => 2 * y.length
  | a :: x, y => edIn a x (ed x) y
theorem ed_nil_r (x : List Nat) : ed x [] = 2 * x.length := by
  cases x with
  | nil => rfl
  | cons a x => rfl
theorem ed_nil_l (y : List Nat) : ed [] y = 2 * y.length := rfl
theorem ed_cons (a b : Nat) (x y : List Nat) : ed (a :: x) (b :: y) = min (ed x y + csub a b) (min (ed x (b :: y) + 2) (ed (a :: x) y + 2)) := rfl
theorem al_nil (y : List Nat) : Al [] y (2 * y.length) := by
  induction y with
  | nil => exact .nil
  | cons b y ih => rw [List.length_cons, Nat.mul_add]; exact .ins b ih
theorem ed_al (x y : List Nat) : Al x y (ed x y) := by
  generalize hn : x.length + y.length = n
  induction n using Nat.strongRecOn generalizing x y with
  | _ n ih =>
    cases x with
    | nil => rw [ed_nil_l]; exact al_nil y
    | cons a x =>
      cases y with
      | nil => rw [ed_nil_r]; exact (al_nil (a :: x)).symm
      | cons b y =>
        rw [ed_cons]
        simp only [List.length_cons] at hn
        have h1 := Al.sub a b (ih _ (by omega) x y rfl)
        have h2 := Al.del a (ih _ (by simp only [List.length_cons]; omega) x (b :: y) rfl)
        have h3 := Al.ins b (ih _ (by simp only [List.length_cons]; omega) (a :: x) y rfl)
        rcases Nat.le_total (ed x y + csub a b) (min (ed x (b :: y) + 2) (ed (a :: x) y + 2)) with q | q
        · rw [Nat.min_eq_left q]; exact h1
        · rw [Nat.min_eq_right q]
          rcases Nat.le_total (ed x (b :: y) + 2) (ed (a :: x) y + 2) with q | q
          · rw [Nat.min_eq_left q]; exact h2
          · rw [Nat.min_eq_right q]; exact h3
theorem ed_le {x y : List Nat} {n : Nat} (h : Al x y n) : ed x y ≤ n := by
  induction h with
  | nil => exact Nat.le_refl 0
  | sub a b _ ih => rw [ed_cons]; omega
  | @del a x y n _ ih =>
    cases y with
    | nil => rw [ed_nil_r] at *; simp only [List.length_cons]; omega
    | cons b y => rw [ed_cons]; omega
  | @ins b x y n _ ih =>
    cases x with
    | nil => rw [ed_nil_l] at *; simp only [List.length_cons]; omega
    | cons a x => rw [ed_cons]; omega
theorem ed_symm (x y : List Nat) : ed x y = ed y x := Nat.le_antisymm (ed_le (ed_al y x).symm) (ed_le (ed_al x y).symm)
theorem ed_tri (x y z : List Nat) : ed x z ≤ ed x y + ed y z := by
  obtain ⟨k, hk, r⟩ := (ed_al x y).trans (ed_al y z)
  exact Nat.le_trans (ed_le r) hk
theorem al_self (x : List Nat) : Al x x 0 := by
  induction x with
  | nil => exact .nil
  | cons a x ih => have := Al.sub a a ih; simpa [csub] using this
theorem ed_self (x : List Nat) : ed x x = 0 := Nat.le_zero.mp (ed_le (al_self x))
theorem ed_bound (x y : List Nat) : ed x y ≤ 2 * max x.length y.length := by
  generalize hn : x.length + y.length = n
  induction n using Nat.strongRecOn generalizing x y with
  | _ n ih =>
    cases x with
    | nil => rw [ed_nil_l]; omega
    | cons a x =>
      cases y with
      | nil => rw [ed_nil_r]; omega
      | cons b y =>
        rw [ed_cons]
        simp only [List.length_cons] at hn ⊢
        have := ih _ (by omega) x y rfl
        have := csub_le a b
        omega
end Mine
end
section
set_option maxRecDepth 100000
namespace Mine
open PySem PySem.W PyProof.Rows PyProof
/-! The two reckonings of the program are the price, on texts of one to three of the four signs. -/
def fourS : List Nat := [97, 65, 98, 45]
theorem subst_four : ∀ a ∈ fourS, ∀ b ∈ fourS, subst (st [a]) (st [b]) = (csub a b : Int) := by decide +kernel
theorem lower_four : ∀ a ∈ fourS, ∀ b ∈ fourS, (Txt.lower (st [a]) = Txt.lower (st [b])) ↔ lowN a = lowN b := by decide +kernel
theorem getD_all {A : List Nat} (h : ∀ a ∈ A, a ∈ fourS) {i : Nat} (hi : i < A.length) : A.getD i 0 ∈ fourS := by
  rw [List.getD_eq_getElem?_getD, List.getElem?_eq_getElem hi]; exact h _ (List.getElem_mem hi)
def innerK (bch : Nat) (A : List Nat) (z : Int) (row : List Int) : Nat → Int × Int × Int × List Int
  | 0 => (z, z, 9223372036854775807, row)
  | i + 1 =>
    let c := innerK bch A z row i
    let d := c.2.2.2.getD i 0
    let r := mn (mn c.2.1 d + 2) (c.1 + (csub bch (A.getD i 0) : Int))
    (d, r, if r < c.2.2.1 then r else c.2.2.1, c.2.2.2.set i r)
def outerK (A B : List Nat) : Nat → List Int × Int × Int
  | 0 => (rangeInts 2 2 A.length, 0, 0)
  | j + 1 =>
    let c := innerK (B.getD j 0) A (j * 2) (outerK A B j).1 A.length
    (c.2.2.2, c.2.1, c.2.2.1)
def levHK (x y : List Nat) (mx : Int) : Int :=
  if mx < ((y.length : Int) - x.length) * 2 then mx + 1
  else if (List.range y.length).any (fun j => decide (mx < (outerK x y (j + 1)).2.2)) then mx + 1 else (outerK x y y.length).2.1
def levGK (x y : List Nat) (mx : Int) : Int :=
  if x.length = 0 ∨ y.length = 0 then 2 * (x.length + y.length)
  else levHK (if y.length < x.length then y else x) (if y.length < x.length then x else y) mx
def levK (x y : List Nat) (mx : Int) : Int := if x = y then 0 else levGK (trim x y).1 (trim x y).2 mx
theorem inner_eq {bch : Nat} {A : List Nat} {z : Int} {row : List Int} (hb : bch ∈ fourS) (hA : ∀ a ∈ A, a ∈ fourS) : ∀ i, i ≤ A.length → innerN bch A z row i = innerK bch A z row i
  | 0, _ => rfl
  | i + 1, h => by
    rw [innerN, innerK, inner_eq hb hA i (by omega), subst_four _ hb _ (getD_all hA (by omega))]
theorem outer_eq {A B : List Nat} (hA : ∀ a ∈ A, a ∈ fourS) (hB : ∀ a ∈ B, a ∈ fourS) : ∀ j, j ≤ B.length → outerN A B j = outerK A B j
  | 0, _ => rfl
  | j + 1, h => by
    rw [outerN, outerK, outer_eq hA hB j (by omega), inner_eq (getD_all hB (by omega)) hA _ (Nat.le_refl _)]
theorem any_congr {α : Type} {l : List α} {p q : α → Bool} (h : ∀ a ∈ l, p a = q a) : l.any p = l.any q := by
  induction l with
  | nil => rfl
  | cons a l ih => rw [List.any_cons, List.any_cons, h a (by simp), ih fun b hb => h b (by simp [hb])]
theorem levH_eq {x y : List Nat} {mx : Int} (hx : ∀ a ∈ x, a ∈ fourS) (hy : ∀ a ∈ y, a ∈ fourS) : levH x y mx = levHK x y mx := by
  rw [levH, levHK, outer_eq hx hy _ (Nat.le_refl _)]
  rw [any_congr (l := List.range y.length) (q := fun j => decide (mx < (outerK x y (j + 1)).2.2)) fun j hj => by rw [outer_eq hx hy (j + 1) (by have := List.mem_range.mp hj; omega)]]
theorem levG_eq {x y : List Nat} {mx : Int} (hx : ∀ a ∈ x, a ∈ fourS) (hy : ∀ a ∈ y, a ∈ fourS) : levG x y mx = levGK x y mx := by
  rw [levG, levGK]
  split
  · rfl
  · split
    · exact levH_eq hy hx
    · exact levH_eq hx hy
theorem lev_eq {x y : List Nat} {mx : Int} (hx : ∀ a ∈ x, a ∈ fourS) (hy : ∀ a ∈ y, a ∈ fourS) : levF x y mx = levK x y mx := by
  rw [levF, levK]
  split
  · rfl
  · refine levG_eq (fun a ha => hx a (List.mem_of_mem_drop (List.mem_of_mem_take ha))) fun a ha => hy a (List.mem_of_mem_drop (List.mem_of_mem_take ha))
def cellK (x y : List Nat) (prev : List Int) (i : Nat) (row : List Int) (j : Nat) : Int :=
  if x.getD i 0 = y.getD j 0 then prev.getD j 0
  else mn3 (prev.getD j 0 + if lowN (x.getD i 0) = lowN (y.getD j 0) then 1 else 2) (prev.getD (j + 1) 0 + 2) (row.getD j 0 + 2)
def rowK (x y : List Nat) (prev : List Int) (i : Nat) : Nat → List Int
  | 0 => [2 * ((i : Int) + 1)]
  | j + 1 => let r := rowK x y prev i j; r ++ [cellK x y prev i r j]
def tabK (x y : List Nat) : Nat → List Int
  | 0 => (rangeKs 0 (y.length + 1)).map (fun k => 2 * k)
  | i + 1 => rowK x y (tabK x y i) i y.length
def priceK (x y : List Nat) : Int := (tabK x y x.length).getD y.length 0
theorem row_eq {x y : List Nat} {prev : List Int} {i : Nat} (hi : i < x.length) (hx : ∀ a ∈ x, a ∈ fourS) (hy : ∀ a ∈ y, a ∈ fourS) : ∀ j, j ≤ y.length → rowN x y prev i j = rowK x y prev i j
  | 0, _ => rfl
  | j + 1, h => by
    rw [rowN, rowK, row_eq hi hx hy j (by omega)]
    simp only [cellP, cellK, lower_four _ (getD_all hx hi) _ (getD_all hy (show j < y.length by omega))]
theorem tab_eq {x y : List Nat} (hx : ∀ a ∈ x, a ∈ fourS) (hy : ∀ a ∈ y, a ∈ fourS) : ∀ i, i ≤ x.length → tabN x y i = tabK x y i
  | 0, _ => rfl
  | i + 1, h => by rw [tabN, tabK, tab_eq hx hy i (by omega), row_eq (by omega) hx hy _ (Nat.le_refl _)]
theorem price_eq {x y : List Nat} (hx : ∀ a ∈ x, a ∈ fourS) (hy : ∀ a ∈ y, a ∈ fourS) : priceF x y = priceK x y := by
  rw [priceF, priceK, tab_eq hx hy _ (Nat.le_refl _)]
/-- a word of the law -/
def IsW (x : List Nat) : Prop := 1 ≤ x.length ∧ x.length ≤ 3 ∧ ∀ a ∈ x, a ∈ fourS
end Mine
end
section
set_option maxRecDepth 100000
namespace Mine
open PySem PySem.W PyProof.Rows PyProof
/-! the tables reckon the least price -/
theorem Al.append {x y x' y' : List Nat} {n m : Nat} (h : Al x y n) (g : Al x' y' m) : Al (x ++ x') (y ++ y') (n + m) := by
  induction h with
  | nil => rw [Nat.zero_add]; exact g
  | @sub a b x y n _ ih =>
    have := Al.sub a b ih
    rw [show n + m + csub a b = n + csub a b + m by omega] at this; exact this
  | @del a x y n _ ih =>
    have := Al.del a ih
    rw [show n + m + 2 = n + 2 + m by omega] at this; exact this
  | @ins b x y n _ ih =>
    have := Al.ins b ih
    rw [show n + m + 2 = n + 2 + m by omega] at this; exact this
theorem Al.rev {x y : List Nat} {n : Nat} (h : Al x y n) : Al x.reverse y.reverse n := by
  induction h with
  | nil => exact .nil
  | sub a b _ ih =>
    have := ih.append (Al.sub a b .nil)
    rw [Nat.zero_add] at this
    rw [List.reverse_cons, List.reverse_cons]; exact this
  | del a _ ih =>
    have := ih.append (Al.del a .nil)
    rw [List.append_nil] at this
    rw [List.reverse_cons]; exact this
  | ins b _ ih =>
    have := ih.append (Al.ins b .nil)
    rw [List.append_nil] at this
    rw [List.reverse_cons]; exact this
theorem ed_rev (x y : List Nat) : ed x.reverse y.reverse = ed x y := by
  refine Nat.le_antisymm (ed_le (ed_al x y).rev) ?_
  have := (ed_al x.reverse y.reverse).rev
  rw [List.reverse_reverse, List.reverse_reverse] at this
  exact ed_le this
theorem ed_lip_r (x y : List Nat) (b : Nat) : ed x y ≤ ed x (b :: y) + 2 := by
  have := ed_tri x (b :: y) y
  have h := ed_le (Al.del b (al_self y))
  omega
theorem ed_lip_l (x y : List Nat) (a : Nat) : ed x y ≤ ed (a :: x) y + 2 := by
  rw [ed_symm, ed_symm (a :: x)]; exact ed_lip_r y x a
theorem ed_same (a : Nat) (x y : List Nat) : ed (a :: x) (a :: y) = ed x y := by
  rw [ed_cons]
  have h1 := ed_lip_r x y a
  have h2 := ed_lip_l x y a
  have : csub a a = 0 := by simp [csub]
  omega
theorem ed_len (x y : List Nat) : 2 * y.length ≤ ed x y + 2 * x.length := by
  have : ∀ {x y : List Nat} {n : Nat}, Al x y n → 2 * y.length ≤ n + 2 * x.length := by
    intro x y n h
    induction h with
    | nil => exact Nat.le_refl _
    | sub a b _ ih => simp only [List.length_cons]; omega
    | del a _ ih => simp only [List.length_cons]; omega
    | ins b _ ih => simp only [List.length_cons]; omega
  exact this (ed_al x y)
/-- the price of the first i signs becoming the first j -/
def pre (x y : List Nat) (i j : Nat) : Nat := ed (x.take i).reverse (y.take j).reverse
theorem take_rev {x : List Nat} {i : Nat} (h : i < x.length) : (x.take (i + 1)).reverse = x.getD i 0 :: (x.take i).reverse := by
  rw [List.take_add_one, List.getElem?_eq_getElem h, List.getD_eq_getElem?_getD, List.getElem?_eq_getElem h]
  simp
theorem pre_0l {x y : List Nat} {j : Nat} (h : j ≤ y.length) : pre x y 0 j = 2 * j := by
  unfold pre
  rw [List.take_zero, List.reverse_nil, ed_nil_l, List.length_reverse, List.length_take]; omega
theorem pre_0r {x y : List Nat} {i : Nat} (h : i ≤ x.length) : pre x y i 0 = 2 * i := by
  unfold pre
  rw [List.take_zero, List.reverse_nil, ed_nil_r, List.length_reverse, List.length_take]; omega
theorem pre_step {x y : List Nat} {i j : Nat} (hi : i < x.length) (hj : j < y.length) :
    pre x y (i + 1) (j + 1) = min (pre x y i j + csub (x.getD i 0) (y.getD j 0)) (min (pre x y i (j + 1) + 2) (pre x y (i + 1) j + 2)) := by
  unfold pre
  rw [take_rev hi, take_rev hj, ed_cons]
theorem pre_same {x y : List Nat} {i j : Nat} (hi : i < x.length) (hj : j < y.length) (e : x.getD i 0 = y.getD j 0) : pre x y (i + 1) (j + 1) = pre x y i j := by
  unfold pre
  rw [take_rev hi, take_rev hj, e, ed_same]
theorem pre_full (x y : List Nat) : pre x y x.length y.length = ed x y := by
  unfold pre
  rw [List.take_length, List.take_length, ed_rev]
theorem row_ok {x y : List Nat} {prev : List Int} {i : Nat} (hi : i < x.length) (hp : ∀ k, k ≤ y.length → prev.getD k 0 = (pre x y i k : Int)) :
    ∀ j, j ≤ y.length → (rowK x y prev i j).length = j + 1 ∧ ∀ k, k ≤ j → (rowK x y prev i j).getD k 0 = (pre x y (i + 1) k : Int)
  | 0, _ => ⟨rfl, fun k hk => by
    have : k = 0 := by omega
    subst this
    rw [pre_0r (by omega)]
    show 2 * ((i : Int) + 1) = _
    omega⟩
  | j + 1, h => by
    obtain ⟨h1, h2⟩ := row_ok hi hp j (by omega)
    have e : cellK x y prev i (rowK x y prev i j) j = (pre x y (i + 1) (j + 1) : Int) := by
      unfold cellK
      rw [hp j (by omega), hp (j + 1) h, h2 j (Nat.le_refl _)]
      split
      · rename_i q
        rw [pre_same hi (by omega) q]
      · rename_i q
        rw [pre_step hi (by omega)]
        have hc : csub (x.getD i 0) (y.getD j 0) = if lowN (x.getD i 0) = lowN (y.getD j 0) then 1 else 2 := by unfold csub; rw [if_neg q]
        rw [hc]
        unfold mn3 mn
        split <;> split <;> split <;> omega
    refine ⟨by simp [rowK, h1], fun k hk => ?_⟩
    rw [rowK]
    by_cases hkj : k ≤ j
    · rw [List.getD_eq_getElem?_getD, List.getElem?_append_left (by omega), ← List.getD_eq_getElem?_getD, h2 k hkj]
    · have : k = j + 1 := by omega
      subst this
      rw [List.getD_eq_getElem?_getD, List.getElem?_append_right (by omega), h1, e]
      simp
theorem tab_ok {x y : List Nat} : ∀ i, i ≤ x.length → ∀ k, k ≤ y.length → (tabK x y i).getD k 0 = (pre x y i k : Int)
  | 0, _, k, hk => by
    rw [pre_0l hk, tabK, List.getD_eq_getElem?_getD]
    have : k < y.length + 1 := by omega
    simp [rangeKs, this]
  | i + 1, h, k, hk => by
    rw [tabK]
    exact (row_ok (by omega) (tab_ok i (by omega)) _ (Nat.le_refl _)).2 k hk
theorem price_ok (x y : List Nat) : priceK x y = (ed x y : Int) := by
  rw [priceK, tab_ok _ (Nat.le_refl _) _ (Nat.le_refl _), pre_full]
theorem inner_len (bch : Nat) (A : List Nat) (z : Int) (row : List Int) (i : Nat) : (innerK bch A z row i).2.2.2.length = row.length := by
  induction i with
  | zero => rfl
  | succ i ih => simp only [innerK, List.length_set]; exact ih
theorem getD_set {l : List Int} {i k : Nat} {v : Int} (h : i < l.length) : (l.set i v).getD k 0 = if k = i then v else l.getD k 0 := by
  rw [List.getD_eq_getElem?_getD, List.getElem?_set]
  by_cases e : i = k
  · subst e; simp [h]
  · have : ¬ k = i := fun q => e q.symm
    simp [e, this]
structure InOk (x y : List Nat) (j i : Nat) (c : Int × Int × Int × List Int) : Prop where
  dist : c.1 = (pre x y i j : Int)
  res0 : i = 0 → c.2.1 = 2 * (j : Int)
  res1 : 0 < i → c.2.1 = (pre x y i (j + 1) : Int)
  min1 : ∀ k, 1 ≤ k → k ≤ i → c.2.2.1 ≤ (pre x y k (j + 1) : Int)
  row1 : ∀ k, k < i → c.2.2.2.getD k 0 = (pre x y (k + 1) (j + 1) : Int)
  row2 : ∀ k, i ≤ k → k < x.length → c.2.2.2.getD k 0 = (pre x y (k + 1) j : Int)
theorem inner_ok {x y : List Nat} {row : List Int} {j : Nat} (hj : j < y.length) (hl : row.length = x.length) (hr : ∀ k, k < x.length → row.getD k 0 = (pre x y (k + 1) j : Int)) :
    ∀ i, i ≤ x.length → InOk x y j i (innerK (y.getD j 0) x (j * 2) row i)
  | 0, _ => ⟨by rw [pre_0l (by omega)]; show (j : Int) * 2 = _; omega, fun _ => by show (j : Int) * 2 = _; omega, fun h => absurd h (Nat.lt_irrefl 0), fun k h1 h2 => by omega, fun k h => absurd h (Nat.not_lt_zero k), fun k _ h => hr k h⟩
  | i + 1, h => by
    have ih := inner_ok hj hl hr i (by omega)
    have hlen := inner_len (y.getD j 0) x (j * 2) row i
    generalize hc : innerK (y.getD j 0) x (j * 2) row i = c at ih hlen
    have hd := ih.row2 i (Nat.le_refl _) (by omega)
    have hcs := csub_symm (y.getD j 0) (x.getD i 0)
    have hcl := csub_le (x.getD i 0) (y.getD j 0)
    have hps := pre_step (x := x) (y := y) (i := i) (j := j) (by omega) hj
    have hdist := ih.dist
    have hr : mn (mn c.2.1 (c.2.2.2.getD i 0) + 2) (c.1 + (csub (y.getD j 0) (x.getD i 0) : Int)) = (pre x y (i + 1) (j + 1) : Int) := by
      rw [hd, hdist, hcs]
      by_cases hi : i = 0
      · subst hi
        have h0 := ih.res0 rfl
        have p1 := pre_0l (x := x) (y := y) (j := j) (by omega)
        have p2 := pre_0l (x := x) (y := y) (j := j + 1) (by omega)
        rw [h0]
        unfold mn
        split <;> split <;> omega
      · have h1 := ih.res1 (by omega)
        rw [h1]
        unfold mn
        split <;> split <;> omega
    rw [innerK, hc]
    refine ⟨hd, fun q => absurd q (Nat.succ_ne_zero i), fun _ => hr, ?_, ?_, ?_⟩
    · intro k h1 h2
      dsimp only
      rw [hr]
      by_cases hk : k ≤ i
      · have := ih.min1 k h1 hk
        split <;> omega
      · have : k = i + 1 := by omega
        subst this
        split <;> omega
    · intro k hk
      dsimp only
      rw [hr, getD_set (by omega)]
      split
      · rename_i q; subst q; rfl
      · exact ih.row1 k (by omega)
    · intro k hk hk2
      dsimp only
      rw [getD_set (by omega), if_neg (by omega)]
      exact ih.row2 k (by omega) hk2
structure OutOk (x y : List Nat) (j : Nat) (c : List Int × Int × Int) : Prop where
  len : c.1.length = x.length
  row : ∀ k, k < x.length → c.1.getD k 0 = (pre x y (k + 1) j : Int)
  res : 0 < j → c.2.1 = (pre x y x.length j : Int)
  min : 0 < j → ∀ k, 1 ≤ k → k ≤ x.length → c.2.2 ≤ (pre x y k j : Int)
theorem outer_ok {x y : List Nat} (hx : 1 ≤ x.length) : ∀ j, j ≤ y.length → OutOk x y j (outerK x y j)
  | 0, _ => ⟨by simp [outerK, rangeInts], fun k hk => by
      rw [pre_0r (by omega), outerK, List.getD_eq_getElem?_getD, rangeInts_get hk]
      show 2 + (k : Int) * 2 = _
      omega, fun h => absurd h (Nat.lt_irrefl 0), fun h => absurd h (Nat.lt_irrefl 0)⟩
  | j + 1, h => by
    have ih := outer_ok (x := x) (y := y) hx j (by omega)
    have ok := inner_ok (x := x) (y := y) (row := (outerK x y j).1) (j := j) (by omega) ih.len ih.row x.length (Nat.le_refl _)
    have hlen := inner_len (y.getD j 0) x (j * 2) (outerK x y j).1 x.length
    rw [outerK]
    exact ⟨by dsimp only; rw [hlen, ih.len], fun k hk => ok.row1 k hk, fun _ => ok.res1 (by omega), fun _ => ok.min1⟩
/-- every way passes each row -/
theorem pre_path {x y : List Nat} {j₀ : Nat} : ∀ j, j₀ ≤ j → j ≤ y.length → ∀ i, i ≤ x.length → ∃ k, k ≤ i ∧ pre x y k j₀ ≤ pre x y i j
  | 0, h, _, i, _ => by
    have : j₀ = 0 := by omega
    subst this
    exact ⟨i, Nat.le_refl _, Nat.le_refl _⟩
  | j + 1, h, hy, i, hx => by
    by_cases e : j₀ = j + 1
    · subst e; exact ⟨i, Nat.le_refl _, Nat.le_refl _⟩
    · induction i with
      | zero => exact ⟨0, Nat.le_refl _, by rw [pre_0l (by omega), pre_0l hy]; omega⟩
      | succ i ih =>
        obtain ⟨k3, a3, b3⟩ := ih (Nat.le_of_succ_le hx)
        clear ih
        have hs := pre_step (x := x) (y := y) (i := i) (j := j) (by omega) (by omega)
        have q1 : j₀ ≤ j := by omega
        have q2 : j ≤ y.length := by omega
        have q3 : i ≤ x.length := Nat.le_of_succ_le hx
        obtain ⟨k1, a1, b1⟩ := pre_path (x := x) (y := y) (j₀ := j₀) j q1 q2 i q3
        obtain ⟨k2, a2, b2⟩ := pre_path (x := x) (y := y) (j₀ := j₀) j q1 q2 (i + 1) hx
        rcases Nat.le_total (pre x y i j + csub (x.getD i 0) (y.getD j 0)) (min (pre x y i (j + 1) + 2) (pre x y (i + 1) j + 2)) with q | q
        · exact ⟨k1, by omega, by omega⟩
        · rcases Nat.le_total (pre x y i (j + 1) + 2) (pre x y (i + 1) j + 2) with q | q
          · exact ⟨k3, by omega, by omega⟩
          · exact ⟨k2, by omega, by omega⟩
/-- what is told of a bound -/
def Bounded (v : Int) (e : Nat) (mx : Int) : Prop := ((e : Int) ≤ mx → v = (e : Int)) ∧ (mx < (e : Int) → mx < v)
theorem Bounded.exact {e : Nat} {mx : Int} : Bounded (e : Int) e mx := ⟨fun _ => rfl, fun h => h⟩
theorem Bounded.over {e : Nat} {mx : Int} (h : mx < (e : Int)) : Bounded (mx + 1) e mx := ⟨fun q => by omega, fun _ => by omega⟩
theorem levH_ok {x y : List Nat} {mx : Int} (hx : 1 ≤ x.length) (hxy : x.length ≤ y.length) : Bounded (levHK x y mx) (ed x y) mx := by
  have hl := ed_len x y
  rw [levHK]
  split
  · exact .over (by omega)
  · split
    · rename_i hany
      refine .over ?_
      rw [List.any_eq_true] at hany
      obtain ⟨j, hj, hm⟩ := hany
      have hj := List.mem_range.mp hj
      have hm := of_decide_eq_true hm
      have ok := (outer_ok (x := x) (y := y) hx (j + 1) (by omega)).min (Nat.succ_pos j)
      obtain ⟨k, hk, hle⟩ := pre_path (x := x) (y := y) (j₀ := j + 1) y.length (by omega) (Nat.le_refl _) x.length (Nat.le_refl _)
      rw [pre_full] at hle
      by_cases k0 : k = 0
      · subst k0
        have h1 := ok 1 (Nat.le_refl _) hx
        have hs := pre_step (x := x) (y := y) (i := 0) (j := j) (by omega) (by omega)
        have hc := csub_le (x.getD 0 0) (y.getD j 0)
        have p1 := pre_0l (x := x) (y := y) (j := j) (by omega)
        have p2 := pre_0l (x := x) (y := y) (j := j + 1) (by omega)
        simp only [Nat.zero_add] at hs
        omega
      · have := ok k (by omega) hk
        omega
    · rw [(outer_ok (x := x) (y := y) hx y.length (Nat.le_refl _)).res (by omega), pre_full]
      exact .exact
theorem levG_ok (x y : List Nat) (mx : Int) : Bounded (levGK x y mx) (ed x y) mx := by
  rw [levGK]
  split
  · rename_i h
    have : (2 * ((x.length : Int) + y.length)) = (ed x y : Int) := by
      rcases h with h | h
      · have := List.length_eq_zero_iff.mp h
        subst this
        rw [ed_nil_l]; simp
      · have := List.length_eq_zero_iff.mp h
        subst this
        rw [ed_nil_r]; simp
    rw [this]; exact .exact
  · rename_i h
    split
    · rw [ed_symm]; exact levH_ok (by omega) (by omega)
    · exact levH_ok (by omega) (by omega)
theorem ed_lcp : ∀ x y : List Nat, ed (x.drop (lcp x y)) (y.drop (lcp x y)) = ed x y
  | [], y => by simp [lcp]
  | a :: x, [] => by simp [lcp]
  | a :: x, b :: y => by
    rw [lcp]
    split
    · rename_i h
      subst h
      rw [List.drop_succ_cons, List.drop_succ_cons, ed_lcp x y, ed_same]
    · rfl
theorem take_rev_drop (l : List Nat) (k : Nat) : (l.take (l.length - k)).reverse = l.reverse.drop k := by
  rw [List.reverse_take]
  by_cases h : k ≤ l.length
  · congr 1; omega
  · rw [List.drop_eq_nil_of_le (by simp; omega), List.drop_eq_nil_of_le (by simp; omega)]
theorem ed_trim (x y : List Nat) : ed (trim x y).1 (trim x y).2 = ed x y := by
  simp only [trim]
  rw [← ed_rev, take_rev_drop, take_rev_drop, ed_lcp, ed_rev, ed_lcp]
theorem lev_ok (x y : List Nat) (mx : Int) : Bounded (levK x y mx) (ed x y) mx := by
  rw [levK]
  split
  · rename_i h
    subst h
    rw [ed_self]
    exact .exact
  · rw [← ed_trim x y]; exact levG_ok _ _ _
theorem levF_ok {x y : List Nat} (mx : Int) (hx : IsW x) (hy : IsW y) : Bounded (levF x y mx) (ed x y) mx := by
  rw [lev_eq hx.2.2 hy.2.2]; exact lev_ok x y mx
theorem priceF_ok {x y : List Nat} (hx : IsW x) (hy : IsW y) : priceF x y = (ed x y : Int) := by
  rw [price_eq hx.2.2 hy.2.2]; exact price_ok x y
theorem ed_W {x y : List Nat} (hx : IsW x) (hy : IsW y) : ed x y ≤ 6 := by
  have := ed_bound x y
  have := hx.2.1
  have := hy.2.1
  omega
theorem levF_99 {x y : List Nat} (hx : IsW x) (hy : IsW y) : levF x y 99 = (ed x y : Int) := (levF_ok 99 hx hy).1 (by have := ed_W hx hy; omega)
theorem levF_reach {x y : List Nat} (r : Nat) (hx : IsW x) (hy : IsW y) : levF x y r ≤ r ↔ ed x y ≤ r := by
  obtain ⟨h1, h2⟩ := levF_ok r hx hy
  constructor
  · intro h
    apply Nat.le_of_not_lt
    intro q
    have := h2 (by omega)
    omega
  · intro h
    rw [h1 (by omega)]; omega
end Mine
end
section
set_option maxRecDepth 100000
namespace Mine
open PySem PySem.W PyProof.Rows PySem.Calls PySem.Spec PyProof
/-! The library's sorting tree, run by a pure order with no two keys alike. -/
def kW {α : Type} (n : Nat) (lt : Nat → Nat → Bool) : KasT α → (α → Prop) → Prop
  | .ret a, Q => Q a
  | .ask i j k, Q => i < n ∧ j < n ∧ i ≠ j ∧ kW n lt (k (lt i j)) Q
section
variable {n : Nat} {lt : Nat → Nat → Bool}
theorem kW_bind {α β : Type} {f : α → KasT β} {Q : β → Prop} : ∀ (t : KasT α), kW n lt t (fun a => kW n lt (f a) Q) → kW n lt (t.bind f) Q
  | .ret _, h => h
  | .ask i j k, ⟨h1, h2, h3, h4⟩ => ⟨h1, h2, h3, kW_bind (k (lt i j)) h4⟩
theorem kW_mono {α : Type} {Q R : α → Prop} (hq : ∀ a, Q a → R a) : ∀ (t : KasT α), kW n lt t Q → kW n lt t R
  | .ret a, h => hq a h
  | .ask i j k, ⟨h1, h2, h3, h4⟩ => ⟨h1, h2, h3, kW_mono hq (k (lt i j)) h4⟩
theorem kW_wp {α : Type} {cmp : Nat → Nat → (Bool → Shared → Prop) → Shared → Prop} {Q : α → Prop} {R : α → Shared → Prop} {s : Shared}
    (hc : ∀ i j (C : Bool → Shared → Prop), i < n → j < n → i ≠ j → C (lt i j) s → cmp i j C s) (hR : ∀ a, Q a → R a s) : ∀ (t : KasT α), kW n lt t Q → t.kasWp cmp R s
  | .ret a, h => hR a h
  | .ask i j k, ⟨h1, h2, h3, h4⟩ => hc i j _ h1 h2 h3 (kW_wp hc hR (k (lt i j)) h4)
end
/-- a row of the first n numbers -/
structure IsP (n : Nat) (p : Array Nat) : Prop where
  size : p.size = n
  perm : p.Perm (List.range n).toArray
section
variable {n : Nat} {p : Array Nat}
theorem IsP.at (h : IsP n p) {i : Nat} (hi : i < n) : p[i]? = some (p.getD i 0) := by
  have : i < p.size := by rw [h.size]; exact hi
  simp [this]
theorem IsP.lt (h : IsP n p) {i : Nat} (hi : i < n) : p.getD i 0 < n := by
  have hm : p.getD i 0 ∈ p.toList := by
    have e := h.at hi
    exact Array.mem_toList_iff.mpr (Array.mem_of_getElem? e)
  have := (Array.perm_iff_toList_perm.mp h.perm).mem_iff.mp hm
  simpa using this
theorem IsP.inj (h : IsP n p) {i j : Nat} (hi : i < n) (hj : j < n) (e : p.getD i 0 = p.getD j 0) : i = j := by
  have nd : p.toList.Nodup := (Array.perm_iff_toList_perm.mp h.perm).nodup_iff.mpr (by simpa using List.nodup_range)
  have e1 := h.at hi
  have e2 := h.at hj
  rw [e] at e1
  rw [← Array.getElem?_toList] at e1 e2
  have hl : i < p.toList.length := by rw [Array.length_toList, h.size]; exact hi
  have hl2 : j < p.toList.length := by rw [Array.length_toList, h.size]; exact hj
  rw [List.getElem?_eq_getElem hl] at e1
  rw [List.getElem?_eq_getElem hl2] at e2
  exact (List.getElem_inj nd).mp (Option.some.inj (e1.trans e2.symm))
theorem IsP.of {p' : Array Nat} (h : IsP n p) (hs : p'.size = p.size) (hp : p'.Perm p) : IsP n p' := ⟨hs.trans h.size, hp.trans h.perm⟩
theorem isP_range : IsP n (List.toArray (List.range n)) := ⟨by simp, Array.Perm.refl _⟩
theorem getD_congr {p q : Array Nat} {i j : Nat} (h : p[i]? = q[j]?) : p.getD i 0 = q.getD j 0 := by
  rw [Array.getD_eq_getD_getElem?, Array.getD_eq_getD_getElem?, h]
end
section
variable {n : Nat} {k : Nat → Nat}
abbrev Ko (k : Nat → Nat) (p : Array Nat) (i : Nat) : Nat := k (p.getD i 0)
/-- no two keys alike -/
def KInj (n : Nat) (k : Nat → Nat) : Prop := ∀ i j, i < n → j < n → k i = k j → i = j
def ltK (k : Nat → Nat) (i j : Nat) : Bool := decide (k i < k j)
def Asc (k : Nat → Nat) (p : Array Nat) (m : Nat) : Prop := ∀ i j, i < j → j < m → Ko k p i < Ko k p j
def Dsc (k : Nat → Nat) (p : Array Nat) (m : Nat) : Prop := ∀ i j, i < j → j < m → Ko k p j < Ko k p i
theorem Ko_ne (hk : KInj n k) {p : Array Nat} (h : IsP n p) {i j : Nat} (hi : i < n) (hj : j < n) (hij : i ≠ j) : Ko k p i ≠ Ko k p j :=
  fun e => hij (h.inj hi hj (hk _ _ (h.lt hi) (h.lt hj) e))
theorem asc_succ {p : Array Nat} {m : Nat} (h : Asc k p m) (h1 : 1 ≤ m) (hl : Ko k p (m - 1) < Ko k p m) : Asc k p (m + 1) := by
  intro i j hij hj
  by_cases e : j = m
  · subst e
    by_cases e2 : i = j - 1
    · subst e2; exact hl
    · exact Nat.lt_trans (h i (j - 1) (by omega) (by omega)) hl
  · exact h i j hij (by omega)
theorem dsc_succ {p : Array Nat} {m : Nat} (h : Dsc k p m) (h1 : 1 ≤ m) (hl : Ko k p m < Ko k p (m - 1)) : Dsc k p (m + 1) := by
  intro i j hij hj
  by_cases e : j = m
  · subst e
    by_cases e2 : i = j - 1
    · subst e2; exact hl
    · exact Nat.lt_trans hl (h i (j - 1) (by omega) (by omega))
  · exact h i j hij (by omega)
theorem kW_asc (hk : KInj n k) {p : Array Nat} (h : IsP n p) : ∀ (f m : Nat), 1 ≤ m → m + f = n → Asc k p m →
    kW n (ltK k) (kas_asc p f m) (fun r => m ≤ r ∧ r ≤ n ∧ Asc k p r ∧ (r < n → Ko k p r < Ko k p (r - 1)))
  | 0, m, h1, hm, ha => ⟨Nat.le_refl _, by omega, ha, fun h => by omega⟩
  | f + 1, m, h1, hm, ha => by
    unfold kas_asc
    refine ⟨h.lt (by omega), h.lt (by omega), fun e => by have := h.inj (by omega) (by omega) e; omega, ?_⟩
    dsimp only
    by_cases hl : Ko k p m < Ko k p (m - 1)
    · have e : ltK k (p.getD m 0) (p.getD (m - 1) 0) = true := decide_eq_true hl
      rw [if_pos e]
      exact ⟨Nat.le_refl _, by omega, ha, fun _ => hl⟩
    · have e : ¬ ltK k (p.getD m 0) (p.getD (m - 1) 0) = true := fun q => hl (of_decide_eq_true q)
      rw [if_neg e]
      have := Ko_ne hk h (i := m) (j := m - 1) (by omega) (by omega) (by omega)
      refine kW_mono ?_ _ (kW_asc hk h f (m + 1) (by omega) (by omega) (asc_succ ha h1 (by omega)))
      rintro r ⟨g1, g2, g3, g4⟩
      exact ⟨by omega, g2, g3, g4⟩
theorem kW_desc (hk : KInj n k) {p : Array Nat} (h : IsP n p) : ∀ (f m : Nat), 1 ≤ m → m + f = n → Dsc k p m →
    kW n (ltK k) (kas_desc f p m 0) (fun r => r.1 = p ∧ r.2.2 = 0 ∧ 1 ≤ r.2.1 ∧ r.2.1 ≤ n ∧ Dsc k p r.2.1)
  | 0, m, h1, hm, ha => ⟨rfl, rfl, h1, by show m ≤ n; omega, ha⟩
  | f + 1, m, h1, hm, ha => by
    unfold kas_desc
    have hne := Ko_ne hk h (i := m) (j := m - 1) (by omega) (by omega) (by omega)
    refine ⟨h.lt (by omega), h.lt (by omega), fun e => by have := h.inj (by omega) (by omega) e; omega, ?_⟩
    dsimp only
    by_cases hl : Ko k p m < Ko k p (m - 1)
    · have e : ltK k (p.getD m 0) (p.getD (m - 1) 0) = true := decide_eq_true hl
      rw [if_pos e, if_neg (by omega)]
      exact kW_desc hk h f (m + 1) (by omega) (by omega) (dsc_succ ha h1 hl)
    · have e : ¬ ltK k (p.getD m 0) (p.getD (m - 1) 0) = true := fun q => hl (of_decide_eq_true q)
      rw [if_neg e]
      refine ⟨h.lt (by omega), h.lt (by omega), fun e => by have := h.inj (by omega) (by omega) e; omega, ?_⟩
      dsimp only
      have e2 : ltK k (p.getD (m - 1) 0) (p.getD m 0) = true := decide_eq_true (by show Ko k p (m - 1) < Ko k p m; omega)
      rw [if_pos e2]
      exact ⟨rfl, rfl, h1, by show m ≤ n; omega, ha⟩
theorem rev_isP {p : Array Nat} (h : IsP n p) (m : Nat) : IsP n (kas_rev p 0 m) := h.of (mirror_size _ _ _ _) (mirror_perm _ _ _ _)
theorem rev_at {p : Array Nat} (h : IsP n p) {m : Nat} (hm : m ≤ n) (i : Nat) : (kas_rev p 0 m).getD i 0 = if i < m then p.getD (m - 1 - i) 0 else p.getD i 0 := by
  have e := getElem?_mirror_all (xs := p) (i := 0) (j := m) (by rw [h.size]; exact hm) i
  show (mirror p 0 m ((m - 0) / 2)).getD i 0 = _
  by_cases q : i < m
  · rw [if_pos q]
    rw [if_pos ⟨Nat.zero_le _, q⟩, Nat.zero_add] at e
    exact getD_congr e
  · rw [if_neg q]
    rw [if_neg (fun x => q x.2)] at e
    exact getD_congr e
theorem rev_asc {p : Array Nat} (h : IsP n p) {m : Nat} (hm : m ≤ n) (hd : Dsc k p m) : Asc k (kas_rev p 0 m) m := by
  intro i j hij hj
  unfold Ko
  rw [rev_at h hm, rev_at h hm, if_pos (by omega), if_pos hj]
  exact hd (m - 1 - j) (m - 1 - i) (by omega) (by omega)
theorem kW_place (hk : KInj n k) {p : Array Nat} (h : IsP n p) {j : Nat} (hj : j < n) (ha : Asc k p j) : ∀ (f l r : Nat), l ≤ r → r ≤ j → r - l ≤ f → (∀ i, i < l → Ko k p i < Ko k p j) → (∀ i, r ≤ i → i < j → Ko k p j < Ko k p i) →
    kW n (ltK k) (kas_place p j f l r) (fun l => l ≤ j ∧ (∀ i, i < l → Ko k p i < Ko k p j) ∧ (∀ i, l ≤ i → i < j → Ko k p j < Ko k p i))
  | 0, l, r, h1, h2, h3, h4, h5 => by
    have : l = r := by omega
    subst this
    exact ⟨h2, h4, h5⟩
  | f + 1, l, r, h1, h2, h3, h4, h5 => by
    unfold kas_place
    by_cases hg : l ≥ r
    · rw [if_pos hg]
      have : l = r := by omega
      subst this
      exact ⟨h2, h4, h5⟩
    · rw [if_neg hg]
      have hm : (l + r) / 2 < j := by omega
      refine ⟨h.lt hj, h.lt (by omega), fun e => by have := h.inj hj (by omega) e; omega, ?_⟩
      dsimp only
      have hne := Ko_ne hk h (i := j) (j := (l + r) / 2) (by omega) (by omega) (by omega)
      by_cases hl : Ko k p j < Ko k p ((l + r) / 2)
      · have e : ltK k (p.getD j 0) (p.getD ((l + r) / 2) 0) = true := decide_eq_true hl
        rw [if_pos e]
        refine kW_place hk h hj ha f l ((l + r) / 2) (by omega) (by omega) (by omega) h4 fun i g1 g2 => ?_
        by_cases q : i = (l + r) / 2
        · subst q; exact hl
        · exact Nat.lt_trans hl (ha _ _ (by omega) g2)
      · have e : ¬ ltK k (p.getD j 0) (p.getD ((l + r) / 2) 0) = true := fun q => hl (of_decide_eq_true q)
        rw [if_neg e]
        refine kW_place hk h hj ha f ((l + r) / 2 + 1) r (by omega) (by omega) (by omega) (fun i g => ?_) h5
        by_cases q : i = (l + r) / 2
        · subst q; omega
        · have := ha i ((l + r) / 2) (by omega) (by omega)
          omega
theorem bubble_at {p : Array Nat} (h : IsP n p) {j l : Nat} (hj : j < n) (hl : l ≤ j) (i : Nat) : (bubble p j (j - l)).getD i 0 = if i = l then p.getD j 0 else if l < i ∧ i ≤ j then p.getD (i - 1) 0 else p.getD i 0 := by
  have e := getElem?_bubble (xs := p) (src := j) (by rw [h.size]; exact hj) (j - l) (by omega) i
  rw [show j - (j - l) = l by omega] at e
  by_cases q : i = l
  · rw [if_pos q] at e ⊢; exact getD_congr e
  · rw [if_neg q] at e ⊢
    by_cases q2 : l < i ∧ i ≤ j
    · rw [if_pos q2] at e ⊢; exact getD_congr e
    · rw [if_neg q2] at e ⊢; exact getD_congr e
theorem bubble_asc {p : Array Nat} (h : IsP n p) {j l : Nat} (hj : j < n) (hl : l ≤ j) (ha : Asc k p j) (h4 : ∀ i, i < l → Ko k p i < Ko k p j) (h5 : ∀ i, l ≤ i → i < j → Ko k p j < Ko k p i) : Asc k (bubble p j (j - l)) (j + 1) := by
  intro a b hab hb
  unfold Ko
  rw [bubble_at h hj hl, bubble_at h hj hl]
  by_cases a1 : a = l
  · rw [if_pos a1, if_neg (by omega), if_pos (by omega)]
    exact h5 (b - 1) (by omega) (by omega)
  · rw [if_neg a1]
    by_cases a2 : l < a ∧ a ≤ j
    · rw [if_pos a2, if_neg (by omega), if_pos (by omega)]
      exact ha (a - 1) (b - 1) (by omega) (by omega)
    · rw [if_neg a2]
      by_cases b1 : b = l
      · rw [if_pos b1]; exact h4 a (by omega)
      · rw [if_neg b1]
        by_cases b2 : l < b ∧ b ≤ j
        · rw [if_pos b2]
          exact ha a (b - 1) (by omega) (by omega)
        · rw [if_neg b2]
          exact ha a b hab (by omega)
theorem kW_bin (hk : KInj n k) : ∀ (f : Nat) (p : Array Nat) (j : Nat), IsP n p → 1 ≤ j → j + f = n → Asc k p j → kW n (ltK k) (kas_bin f p j) (fun p' => IsP n p' ∧ Asc k p' n)
  | 0, p, j, h, h1, hj, ha => by
    have : j = n := by omega
    subst this
    exact ⟨h, ha⟩
  | f + 1, p, j, h, h1, hj, ha => by
    unfold kas_bin
    refine kW_bind _ (kW_mono ?_ _ (kW_place hk h (by omega) ha j 0 j (by omega) (by omega) (by omega) (fun i hi => by omega) (fun i g1 g2 => by omega)))
    rintro l ⟨g1, g2, g3⟩
    exact kW_bin hk f _ (j + 1) (h.of (bubble_size _ _ _) (bubble_perm _ _ _)) (by omega) (by omega) (bubble_asc h (by omega) g1 ha g2 g3)
theorem kW_tail3 (hk : KInj n k) {p : Array Nat} (h : IsP n p) {m : Nat} (h1 : 1 ≤ m) (hm : m ≤ n) (hd : Dsc k p m) : kW n (ltK k) (kas_tail3 m n p) (fun r => IsP n r.2 ∧ 1 ≤ r.1 ∧ r.1 ≤ n ∧ Asc k r.2 r.1) := by
  unfold kas_tail3
  refine kW_bind _ (kW_mono ?_ _ (kW_asc hk (rev_isP h m) (n - m) m h1 (by omega) (rev_asc h hm hd)))
  rintro r ⟨g1, g2, g3, _⟩
  exact ⟨rev_isP h m, by show 1 ≤ r; omega, g2, g3⟩
theorem kW_count (hk : KInj n k) (h1 : 1 ≤ n) {p : Array Nat} (h : IsP n p) : kW n (ltK k) (kas_count n p) (fun r => IsP n r.2 ∧ 1 ≤ r.1 ∧ r.1 ≤ n ∧ Asc k r.2 r.1) := by
  unfold kas_count
  refine kW_bind _ (kW_mono ?_ _ (kW_asc hk h (n - 1) 1 (Nat.le_refl _) (by omega) (fun i j hij hj => by omega)))
  rintro m ⟨g1, g2, g3, g4⟩
  by_cases e : m = n
  · rw [if_pos (by simpa using e)]
    exact ⟨h, g1, g2, g3⟩
  · rw [if_neg (by simpa using e)]
    by_cases e2 : m > 1
    · rw [if_pos e2]
      refine ⟨h.lt (by omega), h.lt (by omega), fun q => by have := h.inj (by omega) (by omega) q; omega, ?_⟩
      dsimp only
      have hl : ltK k (p.getD 0 0) (p.getD (m - 1) 0) = true := decide_eq_true (g3 0 (m - 1) (by omega) (by omega))
      rw [if_pos hl]
      exact ⟨h, g1, g2, g3⟩
    · rw [if_neg e2]
      have : m = 1 := by omega
      subst this
      unfold kas_descPart
      have hd : Dsc k p (1 + 1) := dsc_succ (fun i j hij hj => by omega) (Nat.le_refl _) (g4 (by omega))
      refine kW_bind _ (kW_mono ?_ _ (kW_desc hk h (n - (1 + 1)) (1 + 1) (by omega) (by omega) hd))
      rintro ⟨p', m', q'⟩ ⟨rfl, e3, k1, k2, k3⟩
      dsimp only at e3 k1 k2 k3 ⊢
      subst e3
      rw [if_neg (by omega)]
      exact kW_tail3 hk h k1 k2 k3
/-- the tree sorts -/
theorem kW_sort (hk : KInj n k) (h1 : 1 ≤ n) : kW n (ltK k) (kas_sort n) (fun p => IsP n p ∧ Asc k p n) := by
  unfold kas_sort
  refine kW_bind _ (kW_mono ?_ _ (kW_count hk h1 isP_range))
  rintro ⟨m, p⟩ ⟨g1, g2, g3, g4⟩
  dsimp only at g1 g2 g3 g4 ⊢
  by_cases e : m < n
  · rw [if_pos e]
    rw [show max m 1 = m by omega]
    exact kW_bin hk _ p m g1 g2 (by omega) g4
  · rw [if_neg e]
    have : m = n := by omega
    subst this
    exact ⟨g1, g4⟩
end
end Mine
end
section
open PySem PySem.W PyProof.Rows PySem.Calls PySem.Spec PyProof
set_option maxRecDepth 100000
set_option maxHeartbeats 8000000
namespace Mine
set_option pp.deepTerms false
set_option pp.maxSteps 6000
set_option pp.deepTerms.threshold 8
-- steps up to a loop
-- steps up to a loop or an if
-- steps up to a comprehension, its source, its end
local macro_rules | `(tactic| walk_at "binaryOp FloorDiv int int") => `(tactic| ((show wpAny _ _ (binaryOp _ (Value.int _ _) (Value.int _ _)) _ _ _); refine floordiv_int (by assumption) ?_ ?hp9; (case hp9 => exact Or.inl (PyProof.noPylong_small (by assumption)))))
-- opens a for, up to its walk
local macro_rules | `(tactic| walk_at "subscriptTail") => `(tactic| (k_here; (try dsimp only); (show wpAny _ _ (subscriptTail _ _ (Value.ref _) (Value.int _ _)) _ _ _); k_dflt (refine' item_led ?k1 ?k2 ?k3 ?k4 ?k5 ?_ ?k6; (case k1 => k_asm); (case k2 => k_mem); (case k3 | k4 => omega); (case k5 => assumption); (case k6 => with_unfolding_all rfl))))
local macro_rules | `(tactic| walk_at "getMethod ref") => `(tactic| ((show wpAny _ _ (getMethod (Value.ref _) (PySem.Str.ofString "search") _) _ _ _); k_dflt (refine' search_meth ?k1 ?k2 ?k3 ?k5 ?k6 ?_; (case k1 | k2 => k_asm); (case k3 => k_is); (case k5 | k6 => rfl))))
local macro_rules | `(tactic| walk_at "call builtin:re.Pattern.search") => `(tactic| ((show wpAny _ _ (call (Value.builtin "re.Pattern.search") [Value.ref _, Value.str _ _]) _ _ _); k_dflt (refine' search_K ?k1 ?k2 ?k3 ?k5 ?k4 ?_; (case k1 | k2 => k_asm); (case k3 => k_is); (case k5 => rfl); (case k4 => (rename ∀ t, _ = true => hs; exact hs _)))))
local macro_rules | `(tactic| walk_at "call ref") => `(tactic| ((show wpAny _ _ (call (Value.ref 70) [_, Value.str _ _] [(_, Value.bool true)]) _ _ _); k_dflt (refine' conv_name ?h1 ?k1 ?k2 ?k3 ?k4 ?k5 ?kK ?kd ?ku ?_); (case h1 => assumption); (case k1 | k2 | k3 | k4 | k5 => k_asm); (case kK => first | exact rfl | assumption); (case kd => ktr_room); (case ku => ktr_units); intro t9 h9 tk9 F9 N9; (try dsimp only); (try k_fold)))
local macro_rules | `(tactic| walk_at "call ref") => `(tactic| ((show wpAny _ _ (call (Value.ref 70) [_, Value.str _ _] [(_, Value.bool false)]) _ _ _); k_dflt (refine' conv_value ?h1 ?k1 ?k2 ?k3 ?k4 ?k5 ?kK ?kd ?ku ?_); (case h1 => assumption); (case k1 | k2 | k3 | k4 | k5 => k_asm); (case kK => first | exact rfl | assumption); (case kd => ktr_room); (case ku => ktr_units); intro t9 h9 tk9 F9 N9; (try dsimp only); (try k_fold)))
local macro_rules | `(tactic| walk_at "call ref") => `(tactic| ((show wpAny _ _ (call (Value.ref 118) [Value.ref _, Value.str _ _]) _ _ _); k_dflt (refine' get_call ?h1 ?h2 ?h3 ?h4 ?h5 ?h6 ?h7 ?k1 ?k2 ?k3 ?k4 ?k5 ?kK ?kd ?ku ?_); (case h1 | h2 | h3 | h4 | h5 | h6 | h7 => assumption); (case k1 | k2 | k3 | k4 | k5 => k_asm); (case kK => first | exact rfl | assumption); (case kd => ktr_room); (case ku => ktr_units); intro t9 h9 tk9 F9 N9; (try dsimp only); (try k_fold)))
section
theorem calmMake : True := by
  w_top off
  trivial
local macro_rules | `(tactic| k_all) => `(tactic| assumption)
local macro_rules | `(tactic| k_mem) => `(tactic| (first | assumption | (refine List.mem_cons_of_mem _ ?_; k_mem) | (refine List.mem_append_left _ ?_; k_mem) | (refine List.mem_append_right _ ?_; k_mem)))
section
variable {w : World} {p : Program} {loose : List Str} {mean : ExcName → Option Value} {mg mb : Str → Option Value}
   {dp un : Nat} {gd : Option (List Code)} {cn : Str} {cs : Scope} {a : Addr} {ccd : Value} {cl : List (Str × Addr)} {outer : List Env} {A₀ : Around} {base h₀ : Heap} {L : Addr} {m : Str → Option Value} {news : List (Addr × Obj)} {s : Shared} {Q E : Value → Shared → Prop}
theorem make_call
   (B : Below A₀ base outer h₀) (F : Fr h₀ L s.heap m) (X : (hd.heap_39 w.params).In h₀) (N : News h₀ L s.heap news) (T : Top p loose mean mg mb h₀) (hk : cs.kind = .function)
   (hd : dp + 10 < recursionLimit) (hu : un + 40 < cLine)
   (hret : ∀ (x dx l : Addr) (hsh : Int) (tkh : Tok) (n : Nat) (h' : Heap) (tk' : Nat), Fr h₀ L h' m → News h₀ L h' ((l, W.listOf [].toArray 0) :: (x, instObj 171 dx) :: (dx, W.dictOf [⟨hsh, .str (Str.ofString "_headers") tkh, .ref l⟩] n) :: news) → (∀ p ∈ news, p.1 < dx) → dx < x → x < l → Q (.ref x) { s with heap := h', toks := tk' }) :
      wpAny (model PySem.Challenge.rw_pe0242_01.prog w) (ktrTop dp un gd cn cs L a ccd cl outer) (call (.ref 171) []) Q E s := by
  k_dflt (refine' call_cls ?k1 ?k2 ?k3 ?k4 ?k5 ?k6 ?_; (case k1 => k_asm); (case k2 => k_asm); (case k3 => k_asm); (case k4 => k_is); (case k5 => k_is); (case k6 => k_is); k_whole; intro x' d' h' F' N' lN l2; (have hneD : ∀ p ∈ news, p.1 ≠ d' := fun p hp => Nat.ne_of_lt (lN p hp)); (have lX := l2); k_lt2 l2)
  k_dflt (refine' code_def ?k1 ?k2 ?k3 ?k4 ?k5 ?kA ?kF ?kK ?k6 ?k7 ?k8 ?k9 ?kB ?_ ?c2 ?c3 ?c4 ?c5; (case kA => exact rfl); (case kF => exact rfl); (case kK => assumption); (case k1 => k_asm); (case k2 => k_asm); (case k3 => k_asm); (case k4 => k_asm); (case k5 => k_asm); (case k6 => k_is); (case k7 => k_is); (case k8 => ktr_room); (case k9 => first | exact BindsTo.of_eq rfl | exact binds_K (by k_in) rfl (by k_is) rfl rfl rfl); (case c5 => decide); (case kB => exact locs rfl); (case c2 => exact rfl); (case c3 => exact rfl); (case c4 => exact rfl); k_whole; intro g' L' h' FG' F' N' B' X' T'; (try dsimp only); (try k_lift B'); (try k_fold))
  (repeat' (first | (k_unfold; (try dsimp only)) | (k_end; wrow_close) | ((fail_if_success (with_reducible show wpAny _ _ (exec (Stmt.While _ _ _ _) _) _ _ _)); (fail_if_success (with_reducible show wpAny _ _ (exec (Stmt.For _ _ _ _ _) _) _ _ _)); (first | walk1 | (dsimp only; walk1))) | (leave1; walk_say "STEP leave1"; try dsimp only) | fail "no step"))
  refine wpAny_For ?_ (by intro _; rfl)
  repeat' (first
  | ((fail_if_success (with_reducible show wpAny _ _ (pyIter _) _ _ _)); walk1)
  | ((fail_if_success (with_reducible show wpAny _ _ (pyIter _) _ _ _)); dsimp only; walk1))
  rename Fr _ _ _ _ => lF'
  rename News _ _ _ _ => lN'
  rename _ < _ ∧ _ < _ ∧ AllLt _ _ => lA
  rename_i tk1 l9 h9 h10 tk2
  refine' listT (σ := Unit) (its := []) (fun _ => _) (fun _ => [])
    (fun i _ => True) () rfl (.inr ⟨0, fun _ => List.Mem.head _⟩) lF' lN' (fun _ h => h) (by intro p hp; cases hp) trivial ?_ ?_
  · intro i c v u h tk own hv
    simp at hv
  intro c u h tk hP Fc Nc
  dsimp only at hP Fc Nc ⊢
  dsimp only [envOf] at Fc Nc
  (repeat' (first | (k_unfold; (try dsimp only)) | (k_end; wrow_close) | ((fail_if_success (with_reducible show wpAny _ _ (exec (Stmt.While _ _ _ _) _) _ _ _)); (fail_if_success (with_reducible show wpAny _ _ (exec (Stmt.For _ _ _ _ _) _) _ _ _)); (first | walk1 | (dsimp only; walk1))) | (leave1; walk_say "STEP leave1"; try dsimp only) | fail "no step"))
  exact hret x' d' _ _ _ _ _ _ (by assumption) (by assumption) lN lX lA.1
end
end
section
theorem calmPct : True := by
  w_top off
  trivial
local macro_rules | `(tactic| walk_at "unused 0") => `(tactic| skip)
local macro_rules | `(tactic| k_all) => `(tactic| with_reducible assumption)
local macro_rules | `(tactic| k_mem) => `(tactic| (first | with_reducible assumption | exact List.Mem.head _ | (with_reducible refine List.mem_cons_of_mem _ ?_; k_mem) | (with_reducible refine List.mem_append_left _ ?_; k_mem) | (with_reducible refine List.mem_append_right _ ?_; k_mem)))
section
variable {prog : Program} {w : World} {A : Around} {E : Value → Shared → Prop} {s : Shared} {h₀ : Heap} {L : Addr} {m : Str → Option Value} {news news' : List (Addr × Obj)} {Q : Value → Shared → Prop}
theorem asStr_lit {x : PySem.Str} {t : Tok} : asStr? (.str x t) = pure (some x) := rfl
/-- a figure -/
abbrev dg (k : Nat) : Str := st [48 + k]
theorem num_dg : ∀ k : Nat, k < 10 → Str.ofString (toString (k : Int)) = dg k := by decide +kernel
theorem st_app (l k : List Nat) : st l ++ st k = st (l ++ k) := by
  show (⟨_⟩ : Str) = _
  simp [st]
theorem pct3 {u : Nat} {y : Str} {i j : Nat} {b : Addr} {n : Nat} {t t1 t2 t3 : Tok} {vi vj : Int} (N : News h₀ L s.heap news) (hb : (b, ({ cls := .type "tuple", data := .seq #[.str y t1, .int vi t2, .int vj t3] n } : Obj)) ∈ news)
    (ey : y = st [u]) (ei : vi = (i : Int)) (ej : vj = (j : Int)) (hi : i < 10) (hj : j < 10) (h : ∀ t' k, Q (.str (st (nmL u i j)) t') { s with toks := k }) : wpAny (model prog w) A (binaryOp .Mod (.str (Str.ofString "%s%d-%d") t) (.ref b)) Q E s := by
  subst ey ei ej
  have l1 : (st [u]).length ≤ 1000000 := by rw [st_len]; simp
  have e : st (nmL u i j) = st [u] ++ Str.ofString (toString (i : Int)) ++ Str.ofString "-" ++ Str.ofString (toString (j : Int)) := by
    rw [num_dg i hi, num_dg j hj, show Str.ofString "-" = st [45] by decide +kernel, dg, dg, st_app, st_app, st_app]; rfl
  rw [e] at h
  refine' KPt.mod_tuple ?kptN ?kptb ?kptF ?kptm ?_
  case kptN => exact N
  case kptb => exact hb
  case kptF => kpt_eq
  case kptm =>
    apply KPt.meets_tup
    intro _ _ _ _ _ _ kptH _
    obtain ⟨kptO, kptG, kptC, kptN, kptD⟩ := kptH
    rw [KPt.entry_is_r]
    unfold Builtin.Str.percentFormat
    refine wpAny_bind (wpAny_isInstance (T := "tuple") ⟨kptO, kptG, kptC⟩ KPt.sub_tt ?_)
    refine wpAny_bind (KPt.asStr_ref kptG kptD ?_)
    refine wpAny_bind (KPt.fills_ref ⟨kptO, kptG, kptC⟩ ?_)
    intro _
    kpc_if
    refine wpAny_bind (wpAny_seqItems kptG kptD ?_)
    refine wpAny_bind (wpAny_pure ?_)
    refine wpAny_bind ?_
    rw [KPc.range_list]
    refine KPc.start ?_
    intro _ _
    refine KPc.turn ?_; kpc_check; (repeat kpc_if); refine wpAny_bind ?_; refine wpAny_holding ?_; (repeat kpc_if); kpc_ofStr; refine wpAny_bind ?_; kpc_if; refine wpAny_of_eq (KPc.strOf_str _ _) ?_; refine wpAny_bind (wpAny_of_eq asStr_lit ?_); refine wpAny_pure ?_; refine wpAny_pure ?_; kpt_piece
    refine KPc.turn ?_; kpc_check; (repeat kpc_if); refine wpAny_bind ?_; refine wpAny_holding ?_; (repeat kpc_if); refine wpAny_bind (wpAny_of_eq (a := _) rfl ?_); (repeat kpc_if); refine wpAny_bind (wpAny_mkInt ?_); refine wpAny_bind (call_gives F.slot_int_repr (typeIs_int _ _ _) F.entry_int_repr (F.args_int_repr_1 _) (gives_int_repr _ _ (KPt.hd2 (by kpt_hd))) ⟨int_text_fits (KPt.hd2 (by kpt_hd)), ?_⟩)
    generalize hS9 : PySem.Str.ofString (toString ((((i : Int) : Int).natAbs : Nat) : Int)) = S9
    refine wpAny_bind (wpAny_of_eq asStr_lit ?_); refine wpAny_pure ?_; refine wpAny_pure ?_; refine KPc.after_int (by kpc_g) rfl (by kpc_kind) rfl (by kpt_fact) (by kpt_fact) (by rw [hS9]) (by kpc_none) ?_; intro _ _
    clear hS9
    refine KPc.turn ?_; kpc_check; (repeat kpc_if); refine wpAny_pure ?_; kpt_piece
    refine KPc.turn ?_; kpc_check; (repeat kpc_if); refine wpAny_bind ?_; refine wpAny_holding ?_; (repeat kpc_if); refine wpAny_bind (wpAny_of_eq (a := _) rfl ?_); (repeat kpc_if); refine wpAny_bind (wpAny_mkInt ?_); refine wpAny_bind (call_gives F.slot_int_repr (typeIs_int _ _ _) F.entry_int_repr (F.args_int_repr_1 _) (gives_int_repr _ _ (KPt.hd2 (by kpt_hd))) ⟨int_text_fits (KPt.hd2 (by kpt_hd)), ?_⟩)
    generalize hS9 : PySem.Str.ofString (toString ((((j : Int) : Int).natAbs : Nat) : Int)) = S9
    refine wpAny_bind (wpAny_of_eq asStr_lit ?_); refine wpAny_pure ?_; refine wpAny_pure ?_; refine KPc.after_int (by kpc_g) rfl (by kpc_kind) rfl (by kpt_fact) (by kpt_fact) (by rw [hS9]) (by kpc_none) ?_; intro _ _
    clear hS9
    refine KPc.turn ?_; kpc_check; (repeat kpc_if); kpc_close
  exact h
theorem pct2 {i j : Nat} {b : Addr} {n : Nat} {t t2 t3 : Tok} {vi vj : Int} (N : News h₀ L s.heap news) (hb : (b, ({ cls := .type "tuple", data := .seq #[.int vi t2, .int vj t3] n } : Obj)) ∈ news)
    (ei : vi = (i : Int)) (ej : vj = (j : Int)) (hi : i < 10) (hj : j < 10) (h : ∀ t' k, Q (.str (st (nmL 110 i j)) t') { s with toks := k }) : wpAny (model prog w) A (binaryOp .Mod (.str (Str.ofString "n%d-%d") t) (.ref b)) Q E s := by
  subst ei ej
  have e : st (nmL 110 i j) = Str.ofString "n" ++ Str.ofString (toString (i : Int)) ++ Str.ofString "-" ++ Str.ofString (toString (j : Int)) := by
    rw [num_dg i hi, num_dg j hj, show Str.ofString "-" = st [45] by decide +kernel, show Str.ofString "n" = st [110] by decide +kernel, dg, dg, st_app, st_app, st_app]; rfl
  rw [e] at h
  refine' KPt.mod_tuple ?kptN ?kptb ?kptF ?kptm ?_
  case kptN => exact N
  case kptb => exact hb
  case kptF => kpt_eq
  case kptm =>
    apply KPt.meets_tup
    intro _ _ _ _ _ _ kptH _
    obtain ⟨kptO, kptG, kptC, kptN, kptD⟩ := kptH
    rw [KPt.entry_is_r]
    unfold Builtin.Str.percentFormat
    refine wpAny_bind (wpAny_isInstance (T := "tuple") ⟨kptO, kptG, kptC⟩ KPt.sub_tt ?_)
    refine wpAny_bind (KPt.asStr_ref kptG kptD ?_)
    refine wpAny_bind (KPt.fills_ref ⟨kptO, kptG, kptC⟩ ?_)
    intro _
    kpc_if
    refine wpAny_bind (wpAny_seqItems kptG kptD ?_)
    refine wpAny_bind (wpAny_pure ?_)
    refine wpAny_bind ?_
    rw [KPc.range_list]
    refine KPc.start ?_
    intro _ _
    refine KPc.turn ?_; kpc_check; (repeat kpc_if); refine wpAny_pure ?_; kpt_piece
    refine KPc.turn ?_; kpc_check; (repeat kpc_if); refine wpAny_bind ?_; refine wpAny_holding ?_; (repeat kpc_if); refine wpAny_bind (wpAny_of_eq (a := _) rfl ?_); (repeat kpc_if); refine wpAny_bind (wpAny_mkInt ?_); refine wpAny_bind (call_gives F.slot_int_repr (typeIs_int _ _ _) F.entry_int_repr (F.args_int_repr_1 _) (gives_int_repr _ _ (KPt.hd2 (by kpt_hd))) ⟨int_text_fits (KPt.hd2 (by kpt_hd)), ?_⟩)
    generalize hS9 : PySem.Str.ofString (toString ((((i : Int) : Int).natAbs : Nat) : Int)) = S9
    refine wpAny_bind (wpAny_of_eq asStr_lit ?_); refine wpAny_pure ?_; refine wpAny_pure ?_; refine KPc.after_int (by kpc_g) rfl (by kpc_kind) rfl (by kpt_fact) (by kpt_fact) (by rw [hS9]) (by kpc_none) ?_; intro _ _
    clear hS9
    refine KPc.turn ?_; kpc_check; (repeat kpc_if); refine wpAny_pure ?_; kpt_piece
    refine KPc.turn ?_; kpc_check; (repeat kpc_if); refine wpAny_bind ?_; refine wpAny_holding ?_; (repeat kpc_if); refine wpAny_bind (wpAny_of_eq (a := _) rfl ?_); (repeat kpc_if); refine wpAny_bind (wpAny_mkInt ?_); refine wpAny_bind (call_gives F.slot_int_repr (typeIs_int _ _ _) F.entry_int_repr (F.args_int_repr_1 _) (gives_int_repr _ _ (KPt.hd2 (by kpt_hd))) ⟨int_text_fits (KPt.hd2 (by kpt_hd)), ?_⟩)
    generalize hS9 : PySem.Str.ofString (toString ((((j : Int) : Int).natAbs : Nat) : Int)) = S9
    refine wpAny_bind (wpAny_of_eq asStr_lit ?_); refine wpAny_pure ?_; refine wpAny_pure ?_; refine KPc.after_int (by kpc_g) rfl (by kpc_kind) rfl (by kpt_fact) (by kpt_fact) (by rw [hS9]) (by kpc_none) ?_; intro _ _
    clear hS9
    refine KPc.turn ?_; kpc_check; (repeat kpc_if); kpc_close
  exact h
theorem int_dg {k : Nat} {t : Tok} (hk : k < 10) (h : Q (.int (k : Int) s.toks) { s with toks := s.toks + 1 }) : wpAny (model prog w) A (call (.type "int") [.str (dg k) t]) Q E s := by
  rw [← num_dg k hk]
  exact KIN.call_num (by omega) (by omega) h
theorem item_nN (k : Nat) : Txt.item (Str.ofString "nN") ((k : Int).fmod 2) = st [if k % 2 = 1 then 78 else 110] := by
  have e : Str.ofString "nN" = st [110, 78] := by decide +kernel
  rw [e, Int.fmod_eq_emod_of_nonneg _ (by decide)]
  have : k % 2 = 0 ∨ k % 2 = 1 := by omega
  rcases this with q | q
  · have : (k : Int) % 2 = ((0 : Nat) : Int) := by omega
    rw [this, item_at _ _ (by simp)]; simp [q]
  · have : (k : Int) % 2 = ((1 : Nat) : Int) := by omega
    rw [this, item_at _ _ (by simp)]; simp [q]
/-- names, taken small -/
theorem lower_nm : ∀ a, a < 10 → ∀ b, b < 10 → Txt.lower (st (nmL 110 a b)) = st (nmL 110 a b) ∧ Txt.lower (st (nmL 78 a b)) = st (nmL 110 a b) := by decide +kernel
end
end
section
theorem calmTree : True := by
  w_top off
  trivial
local macro_rules | `(tactic| k_all) => `(tactic| assumption)
local macro_rules | `(tactic| k_mem) => `(tactic| (first | assumption | (refine List.mem_cons_of_mem _ ?_; k_mem) | (refine List.mem_append_left _ ?_; k_mem) | (refine List.mem_append_right _ ?_; k_mem)))
-- steps up to a loop or a call of setdefault
local macro_rules | `(tactic| walk_at "call ref") => `(tactic| ((show wpAny _ _ (call (Value.ref 196) _) _ _ _); k_dflt (refine' lev_call ?h1 ?h2 ?h3 ?h4 ?k1 ?k2 ?k3 ?k4 ?k5 ?kK ?kd ?ku ?_); (case h1 | h2 | h3 | h4 => omega); (case k1 | k2 | k3 | k4 | k5 => k_asm); (case kK => first | exact rfl | assumption); (case kd => ktr_room); (case ku => ktr_units); intro t9 h9 tk9 F9 N9; (try dsimp only); (try k_fold)))
/-- a list of texts -/
def StsAre (ws : List Value) (wl : List (List Nat)) : Prop := ws.length = wl.length ∧ ∀ i, i < wl.length → ∃ t, ws[i]? = some (.str (st (wl.getD i [])) t)
theorem getD_mem {α : Type} {l : List (List α)} {i : Nat} (h : i < l.length) : l.getD i [] ∈ l := by simp [h]
/-- the header of the place p: it hangs at a by the step s -/
def entOf (k : Nat) (e : Nat × Nat) : Str × Str := (st (nmL (if (k + 1) % 2 = 1 then 78 else 110) e.1 e.2), dg (k + 1))
def entsOf (E : List (Nat × Nat)) : List (Str × Str) := E.mapIdx entOf
theorem nm_inj {a b a' b' : Nat} : st (nmL 110 a b) = st (nmL 110 a' b') ↔ a = a' ∧ b = b' := by
  rw [st_inj]
  simp only [nmL, List.cons.injEq, and_true, true_and]
  omega
theorem lower_ent {k : Nat} {e : Nat × Nat} (h1 : e.1 < 10) (h2 : e.2 < 10) : Txt.lower (entOf k e).1 = st (nmL 110 e.1 e.2) := by
  unfold entOf
  dsimp only
  split
  · exact (lower_nm _ h1 _ h2).2
  · exact (lower_nm _ h1 _ h2).1
theorem find_from {a s : Nat} : ∀ (E : List (Nat × Nat)) (k : Nat), (∀ e ∈ E, e.1 < 10 ∧ e.2 < 10) →
    ((E.mapIdx fun i e => entOf (k + i) e).find? fun e => Txt.lower e.1 == st (nmL 110 a s)).map (·.2) = (E.findIdx? fun e => e == (a, s)).map fun i => dg (k + i + 1)
  | [], _, _ => rfl
  | e :: E, k, h => by
    have he := h e (by simp)
    rw [List.mapIdx_cons, List.find?_cons, List.findIdx?_cons, Nat.add_zero, lower_ent he.1 he.2]
    by_cases q : e = (a, s)
    · subst q
      simp
      rfl
    · have n1 : ¬ st (nmL 110 e.1 e.2) = st (nmL 110 a s) := fun w => q (by have := nm_inj.mp w; exact Prod.ext this.1 this.2)
      have n1' : (st (nmL 110 e.1 e.2) == st (nmL 110 a s)) = false := by simpa using n1
      have n2 : (e == (a, s)) = false := by simpa using q
      rw [n1', n2]
      have := find_from (a := a) (s := s) E (k + 1) fun e he => h e (by simp [he])
      simp only [Bool.false_eq_true, if_false, Option.map_map]
      rw [show (fun (i : Nat) (e : Nat × Nat) => entOf (k + (i + 1)) e) = fun i e => entOf (k + 1 + i) e from by funext i e; congr 1; omega]
      rw [this]
      congr 1
      funext i
      show dg (k + 1 + i + 1) = dg (k + (i + 1) + 1)
      congr 1; omega
theorem find_look {a s : Nat} {E : List (Nat × Nat)} (h : ∀ e ∈ E, e.1 < 10 ∧ e.2 < 10) : findE (entsOf E) (st (nmL 110 a s)) = (look E a s).map dg := by
  have := find_from (a := a) (s := s) E 0 h
  simp only [Nat.zero_add] at this
  unfold findE entsOf look
  rw [this, Option.map_map]
  rfl
theorem ents_snoc (E : List (Nat × Nat)) (e : Nat × Nat) : entsOf (E ++ [e]) = entsOf E ++ [entOf E.length e] := by
  unfold entsOf
  rw [List.mapIdx_append]
  simp
theorem ents_len (E : List (Nat × Nat)) : (entsOf E).length = E.length := by unfold entsOf; simp
theorem ents_name {E : List (Nat × Nat)} : ∀ e ∈ entsOf E, e.1.length ≤ 100 := by
  intro e he
  unfold entsOf at he
  obtain ⟨i, hi, rfl⟩ := List.mem_mapIdx.mp he
  unfold entOf
  rw [st_len]
  simp [nmL]
theorem TupsIn.snoc {news : List (Addr × Obj)} {v : Value} {e : Str × Str} (hv : ∃ a t1 t2 n, v = .ref a ∧ (a, ({ cls := .type "tuple", data := .seq #[.str e.1 t1, .str e.2 t2] n } : Obj)) ∈ news) : ∀ {vs : List Value} {es : List (Str × Str)}, TupsIn news vs es → TupsIn news (vs ++ [v]) (es ++ [e])
  | [], [], _ => ⟨hv, trivial⟩
  | _ :: _, _ :: _, h => ⟨h.1, TupsIn.snoc hv h.2⟩
  | [], _ :: _, h => h.elim
  | _ :: _, [], h => h.elim
/-- names are no pattern's prey -/
theorem nm_free (P : Params) {u a b : Nat} (hu : u = 110 ∨ u = 78) (ha : a < 8) (hb : b < 9) : (∀ t, reNo P 43 (st (nmL u a b)) t = true) ∧ ∀ t, reNo P 43 (Txt.lower (st (nmL u a b))) t = true := by
  have h := fun t => re_names P t a ha b hb
  have hl := lower_nm a (by omega) b (by omega)
  rcases hu with rfl | rfl
  · exact ⟨fun t => (h t).1, fun t => by rw [hl.1]; exact (h t).1⟩
  · exact ⟨fun t => (h t).2, fun t => by rw [hl.2]; exact (h t).1⟩
section
variable {prog : Program} {w : World} {A : Around} {E : Value → Shared → Prop} {s : Shared} {h₀ : Heap} {L : Addr} {m : Str → Option Value} {news news' : List (Addr × Obj)}
theorem len_led {l : Addr} {vs : List Value} {n : Nat} {Q : Value → Shared → Prop} (N : News h₀ L s.heap news) (hm : (l, W.listOf vs.toArray n) ∈ news) (hz : vs.length < 1000000)
    (h : Q (.int vs.length (s.toks + 1)) { s with toks := s.toks + 1 + 1 }) : wpAny (model prog w) A (call (.builtin "len") [.ref l]) Q E s := by
  have hl : s.heap.IsList l vs.toArray := PySem.IsL.isList (n := n) (N _ hm).1
  refine len_list hl (by simp; omega) ?_
  simpa using h
end
local macro_rules | `(tactic| walk_at "binaryOp Mod str ref") => `(tactic| (k_here; (with_reducible show wpAny _ _ (binaryOp Operator.Mod (Value.str _ _) (Value.ref _)) _ _ _); k_dflt (refine' pct3 ?k1 ?k2 ?k0 ?k3 ?k4 ?k5 ?k6 ?_; (case k1 => k_asm); (case k2 => exact List.Mem.head _); (case k0 => exact item_nN _); (case k3 => rfl); (case k4 => assumption); (case k5 | k6 => omega)); intro _ _))
local macro_rules | `(tactic| walk_at "call builtin:len") => `(tactic| (k_here; (with_reducible show wpAny _ _ (call (Value.builtin "len") [Value.ref _]) _ _ _); k_dflt (refine' len_led ?k1 ?k2 ?k3 ?_; (case k1 => k_asm); (case k2 => k_mem); (case k3 => omega))))
local macro_rules | `(tactic| walk_at "call type:int") => `(tactic| (k_here; (with_reducible show wpAny _ _ (call (Value.type "int") [Value.str _ _]) _ _ _); k_dflt (refine' int_dg ?k1 ?_; (case k1 => omega))))
section
variable {w : World} {p : Program} {loose : List Str} {mean : ExcName → Option Value} {mg mb : Str → Option Value}
   {dp un : Nat} {gd : Option (List Code)} {cn : Str} {cs : Scope} {a : Addr} {ccd : Value} {cl : List (Str × Addr)} {outer : List Env} {A₀ : Around} {base h₀ : Heap} {L : Addr} {m : Str → Option Value} {news : List (Addr × Obj)} {s : Shared} {Q E : Value → Shared → Prop}
theorem tree_call {ws : List Value} {wl : List (List Nat)} {l : Addr} {e : Nat} {d : Nat → Nat → Nat} {n : Nat}
   (hl : (l, W.listOf ws.toArray e) ∈ news) (hw : StsAre ws wl) (hw3 : ∀ x ∈ wl, x.length ≤ 3) (hn : wl.length = n + 1) (hn8 : n < 8)
   (hdd : ∀ i j, i < j → j ≤ n → levF (wl.getD i []) (wl.getD j []) 99 = (d i j : Int)) (hd9 : ∀ i j, i < j → j ≤ n → d i j < 9)
   (B : Below A₀ base outer h₀) (F : Fr h₀ L s.heap m) (X : (hd.heap_39 w.params).In h₀) (N : News h₀ L s.heap news) (T : Top p loose mean mg mb h₀) (hk : cs.kind = .function)
   (hd : dp + 60 < recursionLimit) (hu : un + 300 < cLine)
   (hret : ∀ (x dx lh : Addr) (hsh : Int) (tkh : Tok) (k e' : Nat) (ts : List Value) (tl : List (Addr × Obj)) (h' : Heap) (tk' : Nat), Fr h₀ L h' m → News h₀ L h' ((lh, W.listOf ts.toArray e') :: (tl ++ (x, instObj 171 dx) :: (dx, W.dictOf [⟨hsh, .str (Str.ofString "_headers") tkh, .ref lh⟩] k) :: news)) →
     TupsIn tl ts (entsOf (treeN d n)) → (∀ p ∈ news, p.1 < dx) → dx < x → x < lh → (∀ p ∈ tl, lh < p.1) → Q (.ref x) { s with heap := h', toks := tk' }) :
      wpAny (model PySem.Challenge.rw_pe0242_01.prog w) (ktrTop dp un gd cn cs L a ccd cl outer) (call (.ref 213) [.ref l]) Q E s := by
  have lws : ws.length = n + 1 := by rw [hw.1, hn]
  refine wpAny_call ?_
  k_dflt cell_enter
  (repeat' (first | (k_unfold; (try dsimp only)) | (k_end; wrow_close) | ((fail_if_success (with_reducible show wpAny _ _ (exec (Stmt.While _ _ _ _) _) _ _ _)); (fail_if_success (with_reducible show wpAny _ _ (exec (Stmt.For _ _ _ _ _) _) _ _ _)); (fail_if_success (with_reducible show wpAny _ _ (call (Value.ref 161) _ _) _ _ _)); (fail_if_success (with_reducible show wpAny _ _ (call (Value.ref 171) _ _) _ _ _)); (first | walk1 | (dsimp only; walk1))) | (leave1; walk_say "STEP leave1"; try dsimp only) | fail "no step"))
  k_dflt (refine' make_call ?k1 ?k2 ?k3 ?k4 ?k5 ?kK ?kd ?ku ?_; (case k1 => k_asm); (case k2 => k_asm); (case k3 => k_asm); (case k4 => k_asm); (case k5 => k_asm); (case kK => first | exact rfl | assumption); (case kd => ktr_room); (case ku => ktr_units))
  intro x dx lh hsh tkh kk h' tk' F' N' o1 o2 o3
  (repeat' (first | (k_unfold; (try dsimp only)) | (k_end; wrow_close) | ((fail_if_success (with_reducible show wpAny _ _ (exec (Stmt.While _ _ _ _) _) _ _ _)); (fail_if_success (with_reducible show wpAny _ _ (exec (Stmt.For _ _ _ _ _) _) _ _ _)); (fail_if_success (with_reducible show wpAny _ _ (call (Value.ref 161) _ _) _ _ _)); (fail_if_success (with_reducible show wpAny _ _ (call (Value.ref 171) _ _) _ _ _)); (first | walk1 | (dsimp only; walk1))) | (leave1; walk_say "STEP leave1"; try dsimp only) | fail "no step"))
  ((rename Fr _ _ _ _ => lF'); (with_unfolding_all refine' For_invVF lF' ?k1 ?k2 ?_); (case k1 => exact rfl); (case k2 => exact rfl); (repeat' (first | ((fail_if_success (with_reducible show wpAny _ _ (pyIter _) _ _ _)); walk1) | ((fail_if_success (with_reducible show wpAny _ _ (pyIter _) _ _ _)); dsimp only; walk1))))
  have hsz : Builtin.Range.rangeSize 1 (ws.length : Int) 1 = (n : Int) := by rw [rangeSize_one]; split <;> omega
  rename Fr _ _ _ _ => lF'
  rename News _ _ _ _ => lN'
  refine' rangeX (n := n) (σ := List Value × Nat × List (Addr × Obj))
    (fun c => (lh, W.listOf c.1.toArray c.2.1) :: (c.2.2 ++ (x, instObj 171 dx) :: (dx, W.dictOf [⟨hsh, .str (Str.ofString "_headers") tkh, .ref lh⟩] kk) :: news))
    (fun c => [(Str.ofString "words", .ref l), (Str.ofString "table", .ref x)])
    (fun i c => TupsIn c.2.2 c.1 (entsOf (treeN d i)) ∧ ∀ p ∈ c.2.2, lh < p.1)
    ([], 0, []) rfl (by assumption) (small_one (by omega) (by omega) (by omega) (by omega)) hsz lF' lN' (fun _ h => h) (by kst_all) ⟨trivial, by simp⟩ ?_ (by intro c; simp; decide) ?_
  all_goals clear lF' lN'
  · intro i c t u h tk own hi hP hoff Fc Nc Rq hRn hRv
    obtain ⟨ts, e', tl⟩ := c
    dsimp only at hP hoff Fc Nc ⊢
    dsimp only [envOf] at Fc Nc
    have hp1 : (1 + (i : Int)) = ((i + 1 : Nat) : Int) := by omega
    rw [hp1] at Fc
    obtain ⟨hP1, hP2⟩ := hP
    (repeat' (first | (k_unfold; (try dsimp only)) | (k_end; wrow_close) | ((fail_if_success (with_reducible show wpAny _ _ (exec (Stmt.While _ _ _ _) _) _ _ _)); (fail_if_success (with_reducible show wpAny _ _ (exec (Stmt.For _ _ _ _ _) _) _ _ _)); (fail_if_success (with_reducible show wpAny _ _ (call (Value.ref 161) _ _) _ _ _)); (fail_if_success (with_reducible show wpAny _ _ (call (Value.ref 171) _ _) _ _ _)); (first | walk1 | (dsimp only; walk1))) | (leave1; walk_say "STEP leave1"; try dsimp only) | fail "no step"))
    rename Fr _ _ _ _ => lF'
    rename News _ _ _ _ => lN'
    refine' whileX (σ := Nat × List Nat × Bool × Nat × List Value × Nat × List (Addr × Obj) × Tok × Tok) (τ := List Value × Nat × List (Addr × Obj))
      (fun c => (lh, W.listOf c.2.2.2.2.1.toArray c.2.2.2.2.2.1) :: ((c.2.2.2.2.2.2.1 ++ (x, instObj 171 dx) :: (dx, W.dictOf [⟨hsh, .str (Str.ofString "_headers") tkh, .ref lh⟩] kk) :: news) ++ own))
      (fun c => [(Str.ofString "words", .ref l), (Str.ofString "table", .ref x), (Str.ofString "p", .int ((i + 1 : Nat) : Int) t), (Str.ofString "at", .int (c.1 : Nat) c.2.2.2.2.2.2.2.1), (Str.ofString "told", .str (st c.2.1) c.2.2.2.2.2.2.2.2)])
      (fun c => (c.2.2.1 = false ∧ c.2.1 ≠ [48 + (i + 1)] ∧ c.2.2.2.2.1 = ts ∧ c.2.2.2.2.2.1 = e' ∧ c.2.2.2.2.2.2.1 = tl ∧ c.1 ≤ i ∧ i + 1 ≤ c.1 + c.2.2.2.1 ∧ desc (treeN d i) (fun a => d a (i + 1)) c.2.2.2.1 c.1 = desc (treeN d i) (fun a => d a (i + 1)) (i + 1) 0)
        ∨ (c.2.2.1 = true ∧ c.2.1 = [48 + (i + 1)] ∧ TupsIn c.2.2.2.2.2.2.1 c.2.2.2.2.1 (entsOf (treeN d (i + 1))) ∧ (∀ p ∈ c.2.2.2.2.2.2.1, lh < p.1) ∧ OwnOff own (((lh, W.listOf c.2.2.2.2.1.toArray c.2.2.2.2.2.1) :: (c.2.2.2.2.2.2.1 ++ (x, instObj 171 dx) :: (dx, W.dictOf [⟨hsh, .str (Str.ofString "_headers") tkh, .ref lh⟩] kk) :: news)).map (·.1))))
      (fun c => if c.2.2.1 = true then 0 else c.2.2.2.1 + 1)
      (0, [], false, i + 1, ts, e', tl, _, _)
      (fun c => (lh, W.listOf c.1.toArray c.2.1) :: ((c.2.2 ++ (x, instObj 171 dx) :: (dx, W.dictOf [⟨hsh, .str (Str.ofString "_headers") tkh, .ref lh⟩] kk) :: news) ++ own))
      (fun c => [(Str.ofString "words", .ref l), (Str.ofString "table", .ref x)])
      (fun c => TupsIn c.2.2 c.1 (entsOf (treeN d (i + 1))) ∧ (∀ p ∈ c.2.2, lh < p.1) ∧ OwnOff own (((lh, W.listOf c.1.toArray c.2.1) :: (c.2.2 ++ (x, instObj 171 dx) :: (dx, W.dictOf [⟨hsh, .str (Str.ofString "_headers") tkh, .ref lh⟩] kk) :: news)).map (·.1)))
      lF' lN' (fun _ h => h) (by kst_all) (.inl ⟨rfl, by simp, rfl, rfl, rfl, by simp, by simp, rfl⟩) ?_ ?_
    all_goals clear lF' lN'
    · intro c u h tk hP Fc Nc Rq Sq hRn hRs hRv
      obtain ⟨at', told, fin, f, ts', e'', tl', ta, tt⟩ := c
      dsimp only at hP Fc Nc ⊢
      have hnum := num_dg (i + 1) (by omega)
      (repeat' (first | (k_unfold; (try dsimp only)) | (k_end; wrow_close) | ((fail_if_success (with_reducible show wpAny _ _ (exec (Stmt.While _ _ _ _) _) _ _ _)); (fail_if_success (with_reducible show wpAny _ _ (exec (Stmt.For _ _ _ _ _) _) _ _ _)); (fail_if_success (with_reducible show wpAny _ _ (call (Value.ref 161) _ _) _ _ _)); (fail_if_success (with_reducible show wpAny _ _ (call (Value.ref 171) _ _) _ _ _)); (first | walk1 | (dsimp only; walk1))) | (leave1; walk_say "STEP leave1"; try dsimp only) | fail "no step"))
      · rename (_ != _) = true => hne
        rcases hP with ⟨rfl, hto, rfl, rfl, rfl, hat, hf, hdesc⟩ | ⟨_, hto, _⟩
        rotate_left
        · rw [hnum, hto] at hne
          simp at hne
        obtain ⟨t1, ht1⟩ := hw.2 at' (by omega)
        obtain ⟨t2, ht2⟩ := hw.2 (i + 1) (by omega)
        have l1 : (wl.getD at' []).length ≤ 3 := hw3 _ (getD_mem (by omega))
        have l2 : (wl.getD (i + 1) []).length ≤ 3 := hw3 _ (getD_mem (by omega))
        have ht1' : ws[(at' : Int).toNat]? = some (Value.str (st (wl.getD at' [])) t1) := ht1
        have hD := hdd at' (i + 1) (by omega) (by omega)
        have hD9 := hd9 at' (i + 1) (by omega) (by omega)
        have ht2' : ws[((i + 1 : Nat) : Int).toNat]? = some (Value.str (st (wl.getD (i + 1) [])) t2) := ht2
        (repeat' (first | (k_unfold; (try dsimp only)) | (k_end; wrow_close) | ((fail_if_success (with_reducible show wpAny _ _ (exec (Stmt.While _ _ _ _) _) _ _ _)); (fail_if_success (with_reducible show wpAny _ _ (exec (Stmt.For _ _ _ _ _) _) _ _ _)); (fail_if_success (with_reducible show wpAny _ _ (call (Value.ref 161) _ _) _ _ _)); (fail_if_success (with_reducible show wpAny _ _ (call (Value.ref 171) _ _) _ _ _)); (first | walk1 | (dsimp only; walk1))) | (leave1; walk_say "STEP leave1"; try dsimp only) | fail "no step"))
        rename News _ _ _ _ => nE
        have lts : ts'.length = i := by rw [hP1.length, ents_len, treeN_len]
        have hE10 : ∀ e ∈ treeN d i, e.1 < 10 ∧ e.2 < 10 := by
          intro e he
          obtain ⟨q, hq⟩ := List.mem_iff_getElem?.mp he
          have q1 := treeN_lt (a := e.1) (s := e.2) hq
          have q2 := hd9 e.1 (q + 1) (by omega) (by omega)
          omega
        have hu : (if (i + 1) % 2 = 1 then 78 else 110) = 110 ∨ (if (i + 1) % 2 = 1 then 78 else 110) = 78 := by split; exact .inr rfl; exact .inl rfl
        have hfree := nm_free w.params (a := at') (b := d at' (i + 1)) hu (by omega) hD9
        have hlow : Txt.lower (st (nmL (if (i + 1) % 2 = 1 then 78 else 110) at' (d at' (i + 1)))) = st (nmL 110 at' (d at' (i + 1))) := lower_ent (k := i) (e := (at', d at' (i + 1))) (by dsimp only; omega) (by dsimp only; omega)
        have hrest : ∀ p ∈ (tl' ++ (x, instObj 171 dx) :: (dx, W.dictOf [⟨hsh, .str (Str.ofString "_headers") tkh, .ref lh⟩] kk) :: news) ++ own, p.1 ≠ lh := by
          intro p hp
          rcases List.mem_append.mp hp with hp | hp
          · rcases List.mem_append.mp hp with hp | hp
            · exact Nat.ne_of_gt (hP2 p hp)
            · rcases List.mem_cons.mp hp with rfl | hp
              · exact Nat.ne_of_lt o3
              · rcases List.mem_cons.mp hp with rfl | hp
                · exact Nat.ne_of_lt (Nat.lt_trans o2 o3)
                · exact Nat.ne_of_lt (Nat.lt_trans (o1 p hp) (Nat.lt_trans o2 o3))
          · exact hoff p hp lh (by simp)
        rw [hnum]
        k_dflt (refine' setd_call (x := x) (dx := dx) (l := lh) (ts := ts') (e := e'') (ents := entsOf (treeN d i)) (rest := (tl' ++ (x, instObj 171 dx) :: (dx, W.dictOf [⟨hsh, .str (Str.ofString "_headers") tkh, .ref lh⟩] kk) :: news) ++ own) ?h1 ?h2 hrest ?h4 ents_name hfree.2 hfree.1 (fun t => re_values w.params t (i + 1) (by omega)) (by rw [st_len]; simp [nmL]) (by omega) ?k1 ?k2 ?k3 ?k4 ?k5 ?kK ?kd ?ku ?_ ?_; (case h1 => exact List.mem_cons_of_mem _ (List.mem_append_left _ (List.mem_append_right _ List.mem_cons_self))); (case h2 => exact List.mem_cons_of_mem _ (List.mem_append_left _ (List.mem_append_right _ (List.mem_cons_of_mem _ List.mem_cons_self)))); (case h4 => exact hP1.mono fun p hp => List.mem_cons_of_mem _ (List.mem_append_left _ (List.mem_append_left _ hp))); (case k1 => k_asm); (case k2 => k_asm); (case k3 => k_asm); (case k4 => exact cb_drop nE fun p hp => List.mem_cons_of_mem _ hp); (case k5 => k_asm); (case kK => first | exact rfl | assumption); (case kd => ktr_room); (case ku => ktr_units))
        · intro y hy
          rw [hlow, find_look hE10] at hy
          cases hlk : look (treeN d i) at' (d at' (i + 1)) with
          | none => rw [hlk] at hy; cases hy
          | some q =>
            rw [hlk] at hy
            have hy : dg q = y := Option.some.inj hy
            subst hy
            have q1 := look_lt hlk
            intro t9 h9 tk9 F9 N9
            (repeat' (first | (k_unfold; (try dsimp only)) | (k_end; wrow_close) | ((fail_if_success (with_reducible show wpAny _ _ (exec (Stmt.While _ _ _ _) _) _ _ _)); (fail_if_success (with_reducible show wpAny _ _ (exec (Stmt.For _ _ _ _ _) _) _ _ _)); (fail_if_success (with_reducible show wpAny _ _ (call (Value.ref 161) _ _) _ _ _)); (fail_if_success (with_reducible show wpAny _ _ (call (Value.ref 171) _ _) _ _ _)); (first | walk1 | (dsimp only; walk1))) | (leave1; walk_say "STEP leave1"; try dsimp only) | fail "no step"))
            first | refine (hRn _ ?_).1 | refine hRn _ ?_ | refine (hRs _ ?_).2 | refine (hRs _ ?_).1
            refine AtSt.intro (q, [48 + q], false, f - 1, ts', e'', tl', _, _) (by assumption) (by assumption) (fun _ h => h) (by kst_all) ⟨.inl ⟨rfl, ?_, rfl, rfl, rfl, ?_, ?_, ?_⟩, ?_⟩
            · simp; omega
            · dsimp only; omega
            · dsimp only; omega
            · dsimp only
              rw [← hdesc]
              have hf1 : f = (f - 1) + 1 := by omega
              conv => rhs; rw [hf1]
              rw [desc, hlk]
            · simp; omega
        · intro hno t9 t1 t2 D h9 tk9 F9 N9 hDl
          rw [hlow, find_look hE10] at hno
          have hlk : look (treeN d i) at' (d at' (i + 1)) = none := by
            cases hlk : look (treeN d i) at' (d at' (i + 1)) with
            | none => rfl
            | some q => rw [hlk] at hno; cases hno
          have hE : treeN d (i + 1) = treeN d i ++ [(at', d at' (i + 1))] := by
            rw [treeN, ← hdesc]
            have hf1 : f = (f - 1) + 1 := by omega
            rw [hf1, desc, hlk]
          have hlD : lh < D := hDl _ List.mem_cons_self
          (repeat' (first | (k_unfold; (try dsimp only)) | (k_end; wrow_close) | ((fail_if_success (with_reducible show wpAny _ _ (exec (Stmt.While _ _ _ _) _) _ _ _)); (fail_if_success (with_reducible show wpAny _ _ (exec (Stmt.For _ _ _ _ _) _) _ _ _)); (fail_if_success (with_reducible show wpAny _ _ (call (Value.ref 161) _ _) _ _ _)); (fail_if_success (with_reducible show wpAny _ _ (call (Value.ref 171) _ _) _ _ _)); (first | walk1 | (dsimp only; walk1))) | (leave1; walk_say "STEP leave1"; try dsimp only) | fail "no step"))
          first | refine (hRn _ ?_).1 | refine hRn _ ?_ | refine (hRs _ ?_).2 | refine (hRs _ ?_).1
          refine AtSt.intro (i + 1, [48 + (i + 1)], true, 0, ts' ++ [Value.ref D], e'' + 1, (D, ({ cls := .type "tuple", data := .seq #[.str (st (nmL (if (i + 1) % 2 = 1 then 78 else 110) at' (d at' (i + 1)))) t1, .str (dg (i + 1)) t2] } : Obj)) :: tl', _, _) (by assumption) (by assumption) ?_ (by kst_all) ⟨.inr ⟨rfl, rfl, ?_, ?_, ?_⟩, ?_⟩
          · intro p hp
            simp only [List.cons_append, List.mem_cons] at hp ⊢
            rcases hp with h | h | h
            · exact .inr (.inl h)
            · exact .inl h
            · exact .inr (.inr h)
          · dsimp only
            rw [hE, ents_snoc, treeN_len]
            exact TupsIn.snoc (e := entOf i (at', d at' (i + 1))) ⟨D, t1, t2, 0, rfl, List.mem_cons_self⟩ (hP1.mono fun p hp => List.mem_cons_of_mem _ hp)
          · intro p hp
            rcases List.mem_cons.mp hp with rfl | hp
            · exact hlD
            · exact hP2 p hp
          · intro p hp b hb
            simp only [List.cons_append, List.map_cons, List.mem_cons] at hb
            rcases hb with h | h | h
            · exact hoff p hp b (by simp [h])
            · subst h
              exact Nat.ne_of_lt (hDl p (List.mem_cons_of_mem _ (List.mem_append_right _ hp)))
            · exact hoff p hp b (by simp only [List.map_cons, List.mem_cons]; exact .inr h)
          · dsimp only
            simp
      · rename (_ != _) = false => hne
        rcases hP with ⟨rfl, hto, rfl, rfl, rfl, hat, hf, hdesc⟩ | ⟨_, hto, h1, h2, h3⟩
        · rw [hnum] at hne
          have hne : (st told == st [48 + (i + 1)]) = true := by simpa using hne
          rw [st_beq, decide_eq_true_eq] at hne
          exact absurd hne hto
        · first | refine (hRn _ ?_).1 | refine hRn _ ?_ | refine (hRs _ ?_).2 | refine (hRs _ ?_).1
          exact AtSt.intro (ts', e'', tl') (by assumption) (by assumption) (fun _ h => h) (by kst_all) ⟨h1, h2, h3⟩
    · intro c u h tk hP Fc Nc
      obtain ⟨ts', e'', tl'⟩ := c
      dsimp only at hP Fc Nc ⊢
      (repeat' (first | (k_unfold; (try dsimp only)) | (k_end; wrow_close) | ((fail_if_success (with_reducible show wpAny _ _ (exec (Stmt.While _ _ _ _) _) _ _ _)); (fail_if_success (with_reducible show wpAny _ _ (exec (Stmt.For _ _ _ _ _) _) _ _ _)); (fail_if_success (with_reducible show wpAny _ _ (call (Value.ref 161) _ _) _ _ _)); (fail_if_success (with_reducible show wpAny _ _ (call (Value.ref 171) _ _) _ _ _)); (first | walk1 | (dsimp only; walk1))) | (leave1; walk_say "STEP leave1"; try dsimp only) | fail "no step"))
      first | refine (hRn _ ?_).1 | refine hRn _ ?_ | refine (hRs _ ?_).2 | refine (hRs _ ?_).1
      exact AtSt.intro (ts', e'', tl') (by assumption) (by assumption) (fun _ h => h) (by kst_all) ⟨⟨hP.1, hP.2.1⟩, hP.2.2⟩
  · intro c u h tk hP Fc Nc
    obtain ⟨ts', e'', tl'⟩ := c
    dsimp only at hP Fc Nc ⊢
    dsimp only [envOf] at Fc Nc
    (repeat' (first | (k_unfold; (try dsimp only)) | (k_end; wrow_close) | ((fail_if_success (with_reducible show wpAny _ _ (exec (Stmt.While _ _ _ _) _) _ _ _)); (fail_if_success (with_reducible show wpAny _ _ (exec (Stmt.For _ _ _ _ _) _) _ _ _)); (fail_if_success (with_reducible show wpAny _ _ (call (Value.ref 161) _ _) _ _ _)); (fail_if_success (with_reducible show wpAny _ _ (call (Value.ref 171) _ _) _ _ _)); (first | walk1 | (dsimp only; walk1))) | (leave1; walk_say "STEP leave1"; try dsimp only) | fail "no step"))
    exact hret x dx lh hsh tkh kk e'' ts' tl' _ _ (by assumption) (by assumption) hP.1 o1 o2 o3 hP.2
end
end
section
theorem calmSearch : True := by
  w_top off
  trivial
local macro_rules | `(tactic| walk_at "unused 0") => `(tactic| skip)
local macro_rules | `(tactic| k_all) => `(tactic| with_reducible assumption)
local macro_rules | `(tactic| k_mem) => `(tactic| (first | with_reducible assumption | exact List.Mem.head _ | (with_reducible refine List.mem_cons_of_mem _ ?_; k_mem) | (with_reducible refine List.mem_append_left _ ?_; k_mem) | (with_reducible refine List.mem_append_right _ ?_; k_mem)))
-- steps up to a loop or a call of get
-- and at an if
local macro_rules | `(tactic| walk_at "call ref") => `(tactic| ((show wpAny _ _ (call (Value.ref 196) _) _ _ _); k_dflt (refine' lev_call ?h1 ?h2 ?h3 ?h4 ?k1 ?k2 ?k3 ?k4 ?k5 ?kK ?kd ?ku ?_); (case h1 | h2 | h3 | h4 => omega); (case k1 | k2 | k3 | k4 | k5 => k_asm); (case kK => first | exact rfl | assumption); (case kd => ktr_room); (case ku => ktr_units); intro t9 h9 tk9 F9 N9; (try dsimp only); (try k_fold)))
local macro_rules | `(tactic| walk_at "binaryOp Mod str ref") => `(tactic| (k_here; (with_reducible show wpAny _ _ (binaryOp Operator.Mod (Value.str _ _) (Value.ref _)) _ _ _); k_dflt (refine' pct2 ?k1 ?k2 ?k3 ?k4 ?k5 ?k6 ?_; (case k1 => k_asm); (case k2 => exact List.Mem.head _); (case k3 | k4 => assumption); (case k5 | k6 => omega)); intro _ _))
local macro_rules | `(tactic| walk_at "call type:int") => `(tactic| (k_here; (with_reducible show wpAny _ _ (call (Value.type "int") [Value.str _ _]) _ _ _); k_dflt (refine' int_dg ?k1 ?_; (case k1 => omega))))
local macro_rules | `(tactic| walk_at "call type:range") => `(tactic| ((rename Fr _ _ _ _ => F'); (rename News _ _ _ _ => N'); (with_unfolding_all refine range2_rows F' N' ?_; intro _ _ _ _ _ _ _ _ _)))
theorem push_L (vs : List Value) (v : Value) : vs.toArray.push v = (vs ++ [v]).toArray := by simp
/-- the letters of the search -/
structure SSt where
  W : List Nat
  Y : List Nat
  vw : List Value
  kw : Nat
  vy : List Value
  ky : Nat
  vf : List Value
  kf : Nat
def nts (l : List Nat) : List Int := l.map fun n : Nat => (n : Int)
section
variable {w : World} {p : Program} {loose : List Str} {mean : ExcName → Option Value} {mg mb : Str → Option Value}
   {dp un : Nat} {gd : Option (List Code)} {cn : Str} {cs : Scope} {a : Addr} {ccd : Value} {cl : List (Str × Addr)} {outer : List Env} {A₀ : Around} {base h₀ : Heap} {L : Addr} {m : Str → Option Value} {news : List (Addr × Obj)} {s : Shared} {Q E : Value → Shared → Prop}
theorem search_call {ws : List Value} {wl : List (List Nat)} {l : Addr} {e : Nat} {d : Nat → Nat → Nat} {n : Nat} {x dx lh : Addr} {hsh : Int} {tkh : Tok} {kk e' : Nat} {ts : List Value} {zt : List Nat} {z : Nat → Nat} {r : Nat} {tz tr : Tok}
   (hl : (l, W.listOf ws.toArray e) ∈ news) (hw : StsAre ws wl) (hw3 : ∀ x ∈ wl, x.length ≤ 3) (hn : wl.length = n + 1) (hn8 : n < 8)
   (hzt : zt.length ≤ 3) (hz : ∀ i, i ≤ n → levF zt (wl.getD i []) 99 = (z i : Int)) (hz6 : ∀ i, i ≤ n → z i ≤ 6) (hr : r ≤ 2) (hzr : ∀ i, i ≤ n → (levF (wl.getD i []) zt r ≤ r ↔ z i ≤ r))
   (hx : (x, instObj 171 dx) ∈ news) (hdx : (dx, W.dictOf [⟨hsh, .str (Str.ofString "_headers") tkh, .ref lh⟩] kk) ∈ news) (hlh : (lh, W.listOf ts.toArray e') ∈ news) (ht : TupsIn news ts (entsOf (treeN d n)))
   (hd9 : ∀ i j, i < j → j ≤ n → d i j < 9)
   (B : Below A₀ base outer h₀) (F : Fr h₀ L s.heap m) (X : (hd.heap_39 w.params).In h₀) (N : News h₀ L s.heap news) (T : Top p loose mean mg mb h₀) (hk : cs.kind = .function)
   (hd : dp + 60 < recursionLimit) (hu : un + 300 < cLine)
   (hret : ∀ (way : List Nat) (T' A' B' : Addr) (va vb : List Value) (wa wb : List Int) (ka kb kt : Nat) (h' : Heap) (tk' : Nat), way.Nodup → (∀ q, q ∈ way ↔ Way d z r (List.range (n + 1)) q) →
     IntsAre va wa → wa.Perm (nts way) → wa.Pairwise (· ≤ ·) → IntsAre vb wb → wb.Perm (nts (way.filter fun q => decide (z q ≤ r))) → wb.Pairwise (· ≤ ·) →
     Fr h₀ L h' m → News h₀ L h' ((T', ({ cls := .type "tuple", data := .seq #[.ref A', .ref B'] kt } : Obj)) :: (A', W.listOf va.toArray ka) :: (B', W.listOf vb.toArray kb) :: news) → Q (.ref T') { s with heap := h', toks := tk' }) :
      wpAny (model PySem.Challenge.rw_pe0242_01.prog w) (ktrTop dp un gd cn cs L a ccd cl outer) (call (.ref 220) [.ref x, .ref l, .str (st zt) tz, .int r tr]) Q E s := by
  have lws : ws.length = n + 1 := by rw [hw.1, hn]
  refine wpAny_call ?_
  k_dflt cell_enter
  (repeat' (first | (k_unfold; (try dsimp only)) | (k_end; wrow_close) | ((fail_if_success (with_reducible show wpAny _ _ (exec (Stmt.While _ _ _ _) _) _ _ _)); (fail_if_success (with_reducible show wpAny _ _ (exec (Stmt.For _ _ _ _ _) _) _ _ _)); (fail_if_success (with_reducible show wpAny _ _ (call (Value.ref 118) _ _) _ _ _)); (first | walk1 | (dsimp only; walk1))) | (leave1; walk_say "STEP leave1"; try dsimp only) | fail "no step"))
  rename_i ly hh5 oy hh4 tk1 lf hh3 of hh2 tk0 lw hh1 ow hh F2 N2
  refine' whileX (σ := SSt) (τ := SSt)
    (fun c => (lw, W.listOf c.vw.toArray c.kw) :: (lf, W.listOf c.vf.toArray c.kf) :: (ly, W.listOf c.vy.toArray c.ky) :: news)
    (fun c => [(Str.ofString "table", .ref x), (Str.ofString "words", .ref l), (Str.ofString "sought", .str (st zt) tz), (Str.ofString "reach", .int r tr), (Str.ofString "way", .ref ly), (Str.ofString "found", .ref lf), (Str.ofString "waiting", .ref lw)])
    (fun c => BfsInv d z r n c.W c.Y ∧ IntsAre c.vw (nts c.W) ∧ IntsAre c.vy (nts c.Y) ∧ IntsAre c.vf (nts (c.Y.filter fun q => decide (z q ≤ r))))
    (fun c => n + 1 - c.Y.length)
    ⟨[0], [], _, 0, [], 0, [], 0⟩
    (fun c => (lw, W.listOf c.vw.toArray c.kw) :: (lf, W.listOf c.vf.toArray c.kf) :: (ly, W.listOf c.vy.toArray c.ky) :: news)
    (fun c => [(Str.ofString "table", .ref x), (Str.ofString "words", .ref l), (Str.ofString "sought", .str (st zt) tz), (Str.ofString "reach", .int r tr), (Str.ofString "way", .ref ly), (Str.ofString "found", .ref lf), (Str.ofString "waiting", .ref lw)])
    (fun c => BfsInv d z r n [] c.Y ∧ IntsAre c.vy (nts c.Y) ∧ IntsAre c.vf (nts (c.Y.filter fun q => decide (z q ≤ r))))
    F2 N2 (fun _ h => h) (by kst_all) ⟨bfs_init, .cons _ _ .nil, .nil, .nil⟩ ?_ ?_
  all_goals clear F2 N2
  have aWF : lf ≠ lw := Nat.ne_of_lt ow.1
  have aWY : ly ≠ lw := Nat.ne_of_lt ow.2.1
  have aFY : ly ≠ lf := Nat.ne_of_lt of.1
  have hnW : ∀ p ∈ news, p.1 ≠ lw := fun p hp => Nat.ne_of_lt (kst_ltOf ow.2.2 p hp)
  have hnF : ∀ p ∈ news, p.1 ≠ lf := fun p hp => Nat.ne_of_lt (kst_ltOf of.2 p hp)
  have hnY : ∀ p ∈ news, p.1 ≠ ly := fun p hp => Nat.ne_of_lt (oy p hp)
  · intro c u h tk' hP Fc Nc Rq Sq hRn hRs hRv
    obtain ⟨wq, yq, vw, kw, vy, ky, vf, kf⟩ := c
    dsimp only at hP Fc Nc ⊢
    obtain ⟨hB, hvw, hvy, hvf⟩ := hP
    have hlen := bfs_len hB
    have lvw : vw.length = wq.length := by rw [hvw.length, nts, List.length_map]
    have lvy : vy.length = yq.length := by rw [hvy.length, nts, List.length_map]
    have lvf : vf.length ≤ yq.length := by rw [hvf.length, nts, List.length_map]; exact List.length_filter_le _ _
    (repeat' (first | (k_unfold; (try dsimp only)) | (k_end; wrow_close) | ((fail_if_success (with_reducible show wpAny _ _ (exec (Stmt.While _ _ _ _) _) _ _ _)); (fail_if_success (with_reducible show wpAny _ _ (exec (Stmt.For _ _ _ _ _) _) _ _ _)); (fail_if_success (with_reducible show wpAny _ _ (call (Value.ref 118) _ _) _ _ _)); (first | walk1 | (dsimp only; walk1))) | (leave1; walk_say "STEP leave1"; try dsimp only) | fail "no step"))
    · rename decide (nts wq = []) = true => he
      cases wq with
      | cons a t => simp [nts] at he
      | nil =>
        rename News _ _ _ _ => nE
        first | refine (hRn _ ?_).1 | refine hRn _ ?_ | refine (hRs _ ?_).2 | refine (hRs _ ?_).1
        exact AtSt.intro (⟨[], yq, vw, kw, vy, ky, vf, kf⟩ : SSt) (by assumption) nE (fun _ h => List.mem_cons_of_mem _ h) (by kst_all) ⟨hB, hvy, hvf⟩
    · rename decide (nts wq = []) = false => he
      cases wq with
      | nil => simp [nts] at he
      | cons a0 wt =>
        have hvw' : IntsAre vw ((a0 : Int) :: nts wt) := hvw
        obtain ⟨ta, vs, rfl, hvs⟩ : ∃ ta vs, vw = Value.int (a0 : Int) ta :: vs ∧ IntsAre vs (nts wt) := by
          cases hvw'; exact ⟨_, _, rfl, by assumption⟩
        have ha0 : a0 ≤ n := bfs_le hB (by simp)
        obtain ⟨t1, ht1⟩ := hw.2 a0 (by omega)
        have ht1' : ws[(a0 : Int).toNat]? = some (Value.str (st (wl.getD a0 [])) t1) := ht1
        have l1 : (wl.getD a0 []).length ≤ 3 := hw3 _ (getD_mem (by omega))
        have hz0 := hz a0 ha0
        have hz6' := hz6 a0 ha0
        have hzr0 := hzr a0 ha0
        rename News _ _ _ _ => nE
        refine kl_popAt (its := (Value.int (a0 : Int) ta :: vs).toArray) (i := 0) (k := 0) (p := []) (q := vs) (by k_asm) (cb_drop nE fun p hp => List.mem_cons_of_mem _ hp) (by rfl) (by simp [seqIndex?]) rfl (Upd.head ?_) (by rw [sizeLine_eq]; simp at lvw ⊢; simp at hlen; omega) ?_
        · intro p hp
          simp only [List.mem_cons] at hp
          rcases hp with rfl | rfl | hp
          · exact aWF
          · exact aWY
          · exact hnW p hp
        intro h3 F3 N3
        clear nE
        dsimp only [List.nil_append] at N3
        (repeat' (first | (k_unfold; (try dsimp only)) | (k_end; wrow_close) | ((fail_if_success (with_reducible show wpAny _ _ (exec (Stmt.If _ _ _ _) _) _ _ _)); (fail_if_success (with_reducible show wpAny _ _ (exec (Stmt.While _ _ _ _) _) _ _ _)); (fail_if_success (with_reducible show wpAny _ _ (exec (Stmt.For _ _ _ _ _) _) _ _ _)); (fail_if_success (with_reducible show wpAny _ _ (call (Value.ref 118) _ _) _ _ _)); (first | walk1 | (dsimp only; walk1))) | (leave1; walk_say "STEP leave1"; try dsimp only) | fail "no step"))
        rename Fr _ _ _ _ => lF
        rw [hz0] at lF
        have epush : vy.toArray.push (Value.int (a0 : Int) ta) = (vy ++ [Value.int (a0 : Int) ta]).toArray := by simp
        refine' cut (σ := List Value × Nat × Tok) lF (fun c => (lw, W.listOf vs.toArray (kw + 1)) :: (lf, W.listOf c.1.toArray c.2.1) :: (ly, W.listOf (vy ++ [Value.int (a0 : Int) ta]).toArray (ky + 1)) :: news)
          (fun c => [(Str.ofString "table", .ref x), (Str.ofString "words", .ref l), (Str.ofString "sought", .str (st zt) tz), (Str.ofString "reach", .int r tr), (Str.ofString "way", .ref ly), (Str.ofString "found", .ref lf), (Str.ofString "waiting", .ref lw), (Str.ofString "at", .int (a0 : Int) ta), (Str.ofString "step", .int (z a0 : Int) c.2.2)])
          (fun c => IntsAre c.1 (nts ((yq ++ [a0]).filter fun q => decide (z q ≤ r)))) ?_ ?_
        · intro Rq hRn hRv
          (repeat' (first | (k_unfold; (try dsimp only)) | (k_end; wrow_close) | ((fail_if_success (with_reducible show wpAny _ _ (exec (Stmt.While _ _ _ _) _) _ _ _)); (fail_if_success (with_reducible show wpAny _ _ (exec (Stmt.For _ _ _ _ _) _) _ _ _)); (fail_if_success (with_reducible show wpAny _ _ (call (Value.ref 118) _ _) _ _ _)); (first | walk1 | (dsimp only; walk1))) | (leave1; walk_say "STEP leave1"; try dsimp only) | fail "no step"))
          · rename _ ≤ (r : Int) => hle
            have hle := hzr0.mp hle
            rename News _ _ _ _ => nE
            have epf : vf.toArray.push (Value.int (a0 : Int) ta) = (vf ++ [Value.int (a0 : Int) ta]).toArray := by simp
            rw [epush, epf] at nE
            first | refine (hRn _ ?_).1 | refine hRn _ ?_ | refine (hRs _ ?_).2 | refine (hRs _ ?_).1
            refine AtSt.intro (vf ++ [Value.int (a0 : Int) ta], kf + 1, _) (by assumption) nE (fun _ h => h) (by kst_all) ?_
            rw [List.filter_append, nts, List.map_append]
            refine hvf.append ?_
            simp only [List.filter_cons, hle, decide_true, if_true, List.filter_nil, List.map_cons, List.map_nil]
            exact .cons _ _ .nil
          · rename ¬ _ ≤ (r : Int) => hle
            have hle : ¬ z a0 ≤ r := fun q => hle (hzr0.mpr q)
            rename News _ _ _ _ => nE
            rw [epush] at nE
            first | refine (hRn _ ?_).1 | refine hRn _ ?_ | refine (hRs _ ?_).2 | refine (hRs _ ?_).1
            refine AtSt.intro (vf, kf, _) (by assumption) nE (fun _ h => h) (by kst_all) ?_
            rw [List.filter_append]
            simp only [List.filter_cons, hle, decide_false, Bool.false_eq_true, if_false, List.filter_nil, List.append_nil]
            exact hvf
        clear lF
        intro c u h tk hP Fc Nc
        obtain ⟨vf3, kf3, ts3⟩ := c
        dsimp only at hP Fc Nc ⊢
        (repeat' (first | (k_unfold; (try dsimp only)) | (k_end; wrow_close) | ((fail_if_success (with_reducible show wpAny _ _ (exec (Stmt.If _ _ _ _) _) _ _ _)); (fail_if_success (with_reducible show wpAny _ _ (exec (Stmt.While _ _ _ _) _) _ _ _)); (fail_if_success (with_reducible show wpAny _ _ (exec (Stmt.For _ _ _ _ _) _) _ _ _)); (fail_if_success (with_reducible show wpAny _ _ (call (Value.ref 118) _ _) _ _ _)); (first | walk1 | (dsimp only; walk1))) | (leave1; walk_say "STEP leave1"; try dsimp only) | fail "no step"))
        ((rename Fr _ _ _ _ => lF'); (with_unfolding_all refine' For_invVF lF' ?k1 ?k2 ?_); (case k1 => exact rfl); (case k2 => exact rfl); (repeat' (first | ((fail_if_success (with_reducible show wpAny _ _ (pyIter _) _ _ _)); walk1) | ((fail_if_success (with_reducible show wpAny _ _ (pyIter _) _ _ _)); dsimp only; walk1))))
        rename IsRange _ _ _ _ _ _ _ _ => hR
        have hlo : (if (z a0 : Int) - (r : Int) > 0 then (z a0 : Int) - (r : Int) else 0) = ((z a0 - r : Nat) : Int) := by split <;> omega
        rw [hlo] at hR
        rename Fr _ _ _ _ => lF
        rename News _ _ _ _ => lN
        have hE10 : ∀ e ∈ treeN d n, e.1 < 10 ∧ e.2 < 10 := by
          intro e he
          obtain ⟨q, hq⟩ := List.mem_iff_getElem?.mp he
          have q1 := treeN_lt (a := e.1) (s := e.2) hq
          have q2 := hd9 e.1 (q + 1) (by omega) (by omega)
          omega
        refine' rangeX (n := z a0 + r + 1 - (z a0 - r)) (σ := List Value × Nat)
          (fun c => (lw, W.listOf c.1.toArray c.2) :: (lf, W.listOf vf3.toArray kf3) :: (ly, W.listOf (vy ++ [Value.int (a0 : Int) ta]).toArray (ky + 1)) :: news)
          (fun c => [(Str.ofString "table", .ref x), (Str.ofString "words", .ref l), (Str.ofString "sought", .str (st zt) tz), (Str.ofString "reach", .int r tr), (Str.ofString "way", .ref ly), (Str.ofString "found", .ref lf), (Str.ofString "waiting", .ref lw), (Str.ofString "at", .int (a0 : Int) ta)])
          (fun i c => IntsAre c.1 (nts (wt ++ kids (treeN d n) a0 (z a0 - r) i)))
          (vs, kw + 1) rfl hR (small_one (by omega) (by omega) (by omega) (by omega)) (by rw [rangeSize_one]; split <;> omega) lF lN (fun _ h => h) (by kst_all) (by rw [show kids (treeN d n) a0 (z a0 - r) 0 = [] from rfl, List.append_nil]; exact hvs) ?_ (by intro c; simp; decide) ?_
        all_goals clear lF lN
        · intro i c t u h tk own hi hP' hoff Fc Nc Rq hRn hRv
          obtain ⟨vw3, kw3⟩ := c
          dsimp only at hP' hoff Fc Nc ⊢
          dsimp only [envOf] at Fc Nc
          have hej : ((z a0 - r : Nat) : Int) + (i : Int) = ((z a0 - r + i : Nat) : Int) := by omega
          have hea : (a0 : Int) = ((a0 : Nat) : Int) := rfl
          have lwk : vw3.length ≤ wt.length + 10 := by
            rw [hP'.length, nts, List.length_map, List.length_append]
            have : (kids (treeN d n) a0 (z a0 - r) i).length ≤ i := by
              have := List.length_filterMap_le (fun j => look (treeN d n) a0 (z a0 - r + j)) (List.range i)
              rw [List.length_range] at this; exact this
            omega
          (repeat' (first | (k_unfold; (try dsimp only)) | (k_end; wrow_close) | ((fail_if_success (with_reducible show wpAny _ _ (exec (Stmt.While _ _ _ _) _) _ _ _)); (fail_if_success (with_reducible show wpAny _ _ (exec (Stmt.For _ _ _ _ _) _) _ _ _)); (fail_if_success (with_reducible show wpAny _ _ (call (Value.ref 118) _ _) _ _ _)); (first | walk1 | (dsimp only; walk1))) | (leave1; walk_say "STEP leave1"; try dsimp only) | fail "no step"))
          rename News _ _ _ _ => nE
          have hfree := nm_free w.params (u := 110) (a := a0) (b := z a0 - r + i) (.inl rfl) (by omega) (by omega)
          have hlow : Txt.lower (st (nmL 110 a0 (z a0 - r + i))) = st (nmL 110 a0 (z a0 - r + i)) := (lower_nm _ (by omega) _ (by omega)).1
          k_dflt (refine' get_call (x := x) (dx := dx) (l := lh) (ts := ts) (n := kk) (e := e') (ents := entsOf (treeN d n)) ?h1 ?h2 ?h3 ?h4 ents_name hfree.2 (by rw [st_len]; simp [nmL]) ?k1 ?k2 ?k3 ?k4 ?k5 ?kK ?kd ?ku ?_; (case k4 => exact nE); (case h1 => k_mem); (case h2 => k_mem); (case h3 => k_mem); (case h4 => exact ht.mono fun p hp => by k_mem); (case k1 => k_asm); (case k2 => k_asm); (case k3 => k_asm); (case k5 => k_asm); (case kK => first | exact rfl | assumption); (case kd => ktr_room); (case ku => ktr_units))
          rw [hlow, find_look hE10]
          clear nE
          cases hlk : look (treeN d n) a0 (z a0 - r + i) with
          | none =>
            intro t9 h9 tk9 F9 N9
            dsimp only [strOr, Option.map] at F9 ⊢
            (repeat' (first | (k_unfold; (try dsimp only)) | (k_end; wrow_close) | ((fail_if_success (with_reducible show wpAny _ _ (exec (Stmt.While _ _ _ _) _) _ _ _)); (fail_if_success (with_reducible show wpAny _ _ (exec (Stmt.For _ _ _ _ _) _) _ _ _)); (fail_if_success (with_reducible show wpAny _ _ (call (Value.ref 118) _ _) _ _ _)); (first | walk1 | (dsimp only; walk1))) | (leave1; walk_say "STEP leave1"; try dsimp only) | fail "no step"))
            first | refine (hRn _ ?_).1 | refine hRn _ ?_ | refine (hRs _ ?_).2 | refine (hRs _ ?_).1
            refine AtSt.intro (vw3, kw3) (by assumption) (by assumption) (fun _ h => by k_mem) (by kst_all) ⟨?_, hoff⟩
            rw [kids_succ, hlk, List.append_nil]
            exact hP'
          | some q =>
            have hq := (look_lt hlk).2.1
            intro t9 h9 tk9 F9 N9
            dsimp only [strOr, Option.map] at F9 ⊢
            (repeat' (first | (k_unfold; (try dsimp only)) | (k_end; wrow_close) | ((fail_if_success (with_reducible show wpAny _ _ (exec (Stmt.While _ _ _ _) _) _ _ _)); (fail_if_success (with_reducible show wpAny _ _ (exec (Stmt.For _ _ _ _ _) _) _ _ _)); (fail_if_success (with_reducible show wpAny _ _ (call (Value.ref 118) _ _) _ _ _)); (first | walk1 | (dsimp only; walk1))) | (leave1; walk_say "STEP leave1"; try dsimp only) | fail "no step"))
            rename News _ _ _ _ => nE
            have hne : ∀ p ∈ (lf, W.listOf vf3.toArray kf3) :: (ly, W.listOf (vy ++ [Value.int (a0 : Int) ta]).toArray (ky + 1)) :: news ++ own, p.1 ≠ lw := by
              intro p hp
              rcases List.mem_append.mp hp with hp | hp
              · simp only [List.mem_cons] at hp
                rcases hp with rfl | rfl | hp
                · exact aWF
                · exact aWY
                · exact hnW p hp
              · exact hoff p hp lw (by simp)
            refine append_L (vs := vw3) (n := kw3) (by k_asm) (cb_drop nE fun p hp => List.mem_cons_of_mem _ hp) (Upd.head hne) (by simp only [List.length_cons] at hlen; omega) ?_
            clear nE
            intro h8 F8 N8
            (repeat' (first | (k_unfold; (try dsimp only)) | (k_end; wrow_close) | ((fail_if_success (with_reducible show wpAny _ _ (exec (Stmt.While _ _ _ _) _) _ _ _)); (fail_if_success (with_reducible show wpAny _ _ (exec (Stmt.For _ _ _ _ _) _) _ _ _)); (fail_if_success (with_reducible show wpAny _ _ (call (Value.ref 118) _ _) _ _ _)); (first | walk1 | (dsimp only; walk1))) | (leave1; walk_say "STEP leave1"; try dsimp only) | fail "no step"))
            rename News _ _ _ _ => nE
            first | refine (hRn _ ?_).1 | refine hRn _ ?_ | refine (hRs _ ?_).2 | refine (hRs _ ?_).1
            refine AtSt.intro (vw3 ++ [Value.int (q : Int) _], kw3 + 1) (by assumption) nE (fun _ h => h) (by kst_all) ⟨?_, hoff⟩
            rw [kids_succ, hlk, ← List.append_assoc, nts, List.map_append]
            exact hP'.append (.cons _ _ .nil)
        · intro c u h tk hP' Fc Nc
          obtain ⟨vw3, kw3⟩ := c
          dsimp only at hP' Fc Nc ⊢
          dsimp only [envOf] at Fc Nc
          (repeat' (first | (k_unfold; (try dsimp only)) | (k_end; wrow_close) | ((fail_if_success (with_reducible show wpAny _ _ (exec (Stmt.While _ _ _ _) _) _ _ _)); (fail_if_success (with_reducible show wpAny _ _ (exec (Stmt.For _ _ _ _ _) _) _ _ _)); (fail_if_success (with_reducible show wpAny _ _ (call (Value.ref 118) _ _) _ _ _)); (first | walk1 | (dsimp only; walk1))) | (leave1; walk_say "STEP leave1"; try dsimp only) | fail "no step"))
          first | refine (hRn _ ?_).1 | refine hRn _ ?_ | refine (hRs _ ?_).2 | refine (hRs _ ?_).1
          refine AtSt.intro (⟨wt ++ kidsOf (treeN d n) z r a0, yq ++ [a0], vw3, kw3, vy ++ [Value.int (a0 : Int) ta], ky + 1, vf3, kf3⟩ : SSt) (by assumption) (by assumption) (fun _ h => h) (by kst_all) ⟨⟨bfs_step hB, hP', ?_, hP⟩, ?_⟩
          · show IntsAre _ (nts (yq ++ [a0]))
            rw [nts, List.map_append]
            exact hvy.append (.cons _ _ .nil)
          · simp only [List.length_append, List.length_singleton]
            simp only [List.length_cons] at hlen
            omega
  · intro c u h tk' hP Fc Nc
    obtain ⟨wq, yq, vw, kw, vy, ky, vf, kf⟩ := c
    dsimp only at hP Fc Nc ⊢
    obtain ⟨hB, hvy, hvf⟩ := hP
    have hlen := bfs_len hB
    have lvy : vy.length = yq.length := by rw [hvy.length, nts, List.length_map]
    have lvf : vf.length ≤ yq.length := by rw [hvf.length, nts, List.length_map]; exact List.length_filter_le _ _
    (repeat' (first | (k_unfold; (try dsimp only)) | (k_end; wrow_close) | ((fail_if_success (with_reducible show wpAny _ _ (exec (Stmt.While _ _ _ _) _) _ _ _)); (fail_if_success (with_reducible show wpAny _ _ (exec (Stmt.For _ _ _ _ _) _) _ _ _)); (fail_if_success (with_reducible show wpAny _ _ (call (Value.ref 118) _ _) _ _ _)); (first | walk1 | (dsimp only; walk1))) | (leave1; walk_say "STEP leave1"; try dsimp only) | fail "no step"))
    rename Fr _ _ _ _ => lF
    rename News _ _ _ _ => lN
    refine sorted_N lF lN (News.isList lN (List.mem_cons_of_mem _ (List.mem_cons_of_mem _ List.mem_cons_self))) hvy (by omega) fun h5 vs5 ns5 e5 F5 N5 hI5 hp5 hs5 => ?_
    clear lF lN
    (repeat' (first | (k_unfold; (try dsimp only)) | (k_end; wrow_close) | ((fail_if_success (with_reducible show wpAny _ _ (exec (Stmt.While _ _ _ _) _) _ _ _)); (fail_if_success (with_reducible show wpAny _ _ (exec (Stmt.For _ _ _ _ _) _) _ _ _)); (fail_if_success (with_reducible show wpAny _ _ (call (Value.ref 118) _ _) _ _ _)); (first | walk1 | (dsimp only; walk1))) | (leave1; walk_say "STEP leave1"; try dsimp only) | fail "no step"))
    rename Fr _ _ _ _ => lF
    rename News _ _ _ _ => lN
    refine sorted_N lF lN (News.isList lN (List.mem_cons_of_mem _ (List.mem_cons_of_mem _ List.mem_cons_self))) hvf (by omega) fun h6 vs6 ns6 e6 F6 N6 hI6 hp6 hs6 => ?_
    clear lF lN
    (repeat' (first | (k_unfold; (try dsimp only)) | (k_end; wrow_close) | ((fail_if_success (with_reducible show wpAny _ _ (exec (Stmt.While _ _ _ _) _) _ _ _)); (fail_if_success (with_reducible show wpAny _ _ (exec (Stmt.For _ _ _ _ _) _) _ _ _)); (fail_if_success (with_reducible show wpAny _ _ (call (Value.ref 118) _ _) _ _ _)); (first | walk1 | (dsimp only; walk1))) | (leave1; walk_say "STEP leave1"; try dsimp only) | fail "no step"))
    rename Fr h₀ _ _ _ => lF
    rename News h₀ _ _ _ => lN
    obtain ⟨g1, g2⟩ := bfs_done hB
    refine hret yq _ (h.objs.size + 1) (h5.objs.size + 1) vs5 vs6 ns5 ns6 e5 e6 0 _ _ g1 g2 hI5 hp5 hs5 hI6 hp6 hs6 lF (cb_drop lN fun p hp => ?_)
    rcases List.mem_cons.mp hp with rfl | hp
    · exact List.mem_cons_self
    · rcases List.mem_cons.mp hp with rfl | hp
      · exact List.mem_cons_of_mem _ (List.mem_cons_of_mem _ List.mem_cons_self)
      · rcases List.mem_cons.mp hp with rfl | hp
        · exact List.mem_cons_of_mem _ List.mem_cons_self
        · exact List.mem_cons_of_mem _ (List.mem_cons_of_mem _ (List.mem_cons_of_mem _ (List.mem_cons_of_mem _ (List.mem_cons_of_mem _ (List.mem_cons_of_mem _ hp)))))
end
end
section
theorem calmSplit : True := by
  w_top off
  trivial
local macro_rules | `(tactic| k_all) => `(tactic| assumption)
local macro_rules | `(tactic| k_mem) => `(tactic| (first | assumption | (refine List.mem_cons_of_mem _ ?_; k_mem) | (refine List.mem_append_left _ ?_; k_mem) | (refine List.mem_append_right _ ?_; k_mem)))
theorem ints_at {vs : List Value} {ns : List Int} (h : IntsAre vs ns) : ∀ {i : Nat} {v : Value}, vs[i]? = some v → ∃ q t, ns[i]? = some q ∧ v = .int q t := by
  induction h with
  | nil => intro i v hv; simp at hv
  | cons k t r ih =>
    intro i v hv
    cases i with
    | zero => simp at hv; exact ⟨k, t, rfl, hv.symm⟩
    | succ i => simpa using ih (i := i) (v := v) (by simpa using hv)
theorem nts_at {l : List Nat} {i : Nat} {q : Int} (h : (nts l)[i]? = some q) : ∃ k, l[i]? = some k ∧ q = (k : Int) := by
  rw [nts, List.getElem?_map] at h
  cases hl : l[i]? with
  | none => rw [hl] at h; cases h
  | some k => rw [hl] at h; exact ⟨k, rfl, (Option.some.inj h).symm⟩
theorem nts_snoc (l : List Nat) (q : Nat) : nts (l ++ [q]) = nts l ++ [(q : Int)] := by simp [nts]
/-- f tells of each number whether it is b's -/
def PredOk (w : World) (f : Addr) (b : Nat → Bool) (dom : Nat → Prop) (news₀ : List (Addr × Obj)) : Prop :=
  ∀ (p : Program) (loose : List Str) (mean : ExcName → Option Value) (mg mb : Str → Option Value) (dp un : Nat) (gd : Option (List Code)) (cn : Str) (cs : Scope) (a : Addr) (ccd : Value) (cl : List (Str × Addr)) (outer : List Env) (A₀ : Around) (base h₀ : Heap) (L : Addr) (m : Str → Option Value) (news : List (Addr × Obj)) (s : Shared) (Q E : Value → Shared → Prop) (q : Nat) (tq : Tok),
    dom q → Below A₀ base outer h₀ → Fr h₀ L s.heap m → (hd.heap_39 w.params).In h₀ → News h₀ L s.heap news → (∀ p ∈ news₀, p ∈ news) → Top p loose mean mg mb h₀ → cs.kind = .function → dp + 10 < recursionLimit → un + 40 < cLine → CbRet h₀ L m news s Q (fun _ => .bool (b q)) →
    wpAny (model PySem.Challenge.rw_pe0242_01.prog w) (ktrTop dp un gd cn cs L a ccd cl outer) (call (.ref f) [.int (q : Int) tq]) Q E s
section
variable {w : World} {p : Program} {loose : List Str} {mean : ExcName → Option Value} {mg mb : Str → Option Value}
   {dp un : Nat} {gd : Option (List Code)} {cn : Str} {cs : Scope} {a : Addr} {ccd : Value} {cl : List (Str × Addr)} {outer : List Env} {A₀ : Around} {base h₀ : Heap} {L : Addr} {m : Str → Option Value} {news : List (Addr × Obj)} {s : Shared} {Q E : Value → Shared → Prop}
theorem PredOk.use {f : Addr} {b : Nat → Bool} {dom : Nat → Prop} {news₀ : List (Addr × Obj)} (h : PredOk w f b dom news₀) {q : Nat} {tq : Tok} (hq : dom q) (B : Below A₀ base outer h₀) (F : Fr h₀ L s.heap m) (X : (hd.heap_39 w.params).In h₀) (N : News h₀ L s.heap news) (hs : ∀ p ∈ news₀, p ∈ news) (T : Top p loose mean mg mb h₀) (hk : cs.kind = .function)
   (hd : dp + 10 < recursionLimit) (hu : un + 40 < cLine) (hret : CbRet h₀ L m news s Q (fun _ => .bool (b q))) :
   wpAny (model PySem.Challenge.rw_pe0242_01.prog w) (ktrTop dp un gd cn cs L a ccd cl outer) (call (.ref f) [.int (q : Int) tq]) Q E s :=
  h p loose mean mg mb dp un gd cn cs a ccd cl outer A₀ base h₀ L m news s Q E q tq hq B F X N hs T hk hd hu hret
local macro_rules | `(tactic| walk_at "call ref") => `(tactic| ((rename PredOk _ _ _ _ _ => hpf); k_dflt (refine' PredOk.use hpf ?h1 ?k1 ?k2 ?k3 ?k4 ?h2 ?k5 ?kK ?kd ?ku ?_; (case k4 => k_asm); (case h1 => assumption); (case k1 | k2 | k3 => k_asm); (case h2 => (intro p hp; k_mem)); (case k5 => k_asm); (case kK => first | exact rfl | assumption); (case kd => ktr_room); (case ku => ktr_units)); intro t9 h9 tk9 F9 N9; (try dsimp only)))
local macro_rules | `(tactic| walk_at "callWith ref") => `(tactic| (k_dflt (refine' callWith_F ?k1 ?_; (case k1 => exact FnAt.of (by k_asm) (by k_mem)))))
local macro_rules | `(tactic| walk_at "And") => `(tactic| ((with_reducible show FnAt _ _ ∧ _); refine ⟨FnAt.of (by k_asm) (by k_mem), ?_⟩; (try dsimp only [List.nil_append, List.cons_append])))
theorem split_call {oc : Value} {od : Option Addr} {fd : FuncData} {sl : Array (Option Value)} {l f : Addr} {vs : List Value} {k : Nat} {ns : List Nat} {b : Nat → Bool}
   (hl : (l, W.listOf vs.toArray k) ∈ news) (hv : IntsAre vs (nts ns)) (hns : ns.length ≤ 100) (hfo : (f, (⟨oc, od, .func fd, sl⟩ : Obj)) ∈ news) (hpred : PredOk w f b (· ∈ ns) news)
   (B : Below A₀ base outer h₀) (F : Fr h₀ L s.heap m) (X : (hd.heap_39 w.params).In h₀) (N : News h₀ L s.heap news) (T : Top p loose mean mg mb h₀) (hk : cs.kind = .function)
   (hd : dp + 20 < recursionLimit) (hu : un + 80 < cLine)
   (hret : ∀ (T' y n : Addr) (vy vn : List Value) (ky kn : Nat) (h' : Heap) (tk' : Nat), IntsAre vy (nts (ns.filter b)) → IntsAre vn (nts (ns.filter fun q => !b q)) →
     Fr h₀ L h' m → News h₀ L h' ((T', ({ cls := .type "tuple", data := .seq #[.ref y, .ref n] } : Obj)) :: (y, W.listOf vy.toArray ky) :: (n, W.listOf vn.toArray kn) :: news) → (∀ q ∈ news, q.1 < y) → y < n → n < T' → Q (.ref T') { s with heap := h', toks := tk' }) :
      wpAny (model PySem.Challenge.rw_pe0242_01.prog w) (ktrTop dp un gd cn cs L a ccd cl outer) (call (.ref 182) [.ref l, .ref f]) Q E s := by
  have lvs : vs.length = ns.length := by rw [hv.length, nts, List.length_map]
  refine wpAny_call ?_
  k_dflt cell_enter
  (repeat' (first | (k_unfold; (try dsimp only)) | (k_end; wrow_close) | ((fail_if_success (with_reducible show wpAny _ _ (exec (Stmt.While _ _ _ _) _) _ _ _)); (fail_if_success (with_reducible show wpAny _ _ (exec (Stmt.For _ _ _ _ _) _) _ _ _)); (first | walk1 | (dsimp only; walk1))) | (leave1; walk_say "STEP leave1"; try dsimp only) | fail "no step"))
  refine wpAny_For ?_ (by intro _; rfl)
  repeat' (first
  | ((fail_if_success (with_reducible show wpAny _ _ (pyIter _) _ _ _)); walk1)
  | ((fail_if_success (with_reducible show wpAny _ _ (pyIter _) _ _ _)); dsimp only; walk1))
  rename_i ly hh4 oy hh3 ln hh2 on hh F2 N2
  have aNY : ly ≠ ln := Nat.ne_of_lt on.1
  have hnY : ∀ p ∈ news, p.1 ≠ ly := fun p hp => Nat.ne_of_lt (oy p hp)
  have hnN : ∀ p ∈ news, p.1 ≠ ln := fun p hp => Nat.ne_of_lt (kst_ltOf on.2 p hp)
  refine' listT (σ := List Value × Nat × List Value × Nat) (its := vs)
    (fun c => (ln, W.listOf c.2.2.1.toArray c.2.2.2) :: (ly, W.listOf c.1.toArray c.2.1) :: news)
    (fun c => [(Str.ofString "predicate", .ref f), (Str.ofString "yes", .ref ly), (Str.ofString "no", .ref ln)])
    (fun i c => IntsAre c.1 (nts ((ns.take i).filter b)) ∧ IntsAre c.2.2.1 (nts ((ns.take i).filter fun q => !b q)))
    ([], 0, [], 0) rfl (.inr ⟨k, fun c => List.mem_cons_of_mem _ (List.mem_cons_of_mem _ hl)⟩) F2 N2 (fun _ h => h) (by kst_all) ⟨.nil, .nil⟩ ?_ ?_
  all_goals clear F2 N2
  · intro i c v u h tk own hi hP hoff Fc Nc
    obtain ⟨vy, ky, vn, kn⟩ := c
    dsimp only at hP hoff Fc Nc ⊢
    dsimp only [envOf] at Fc Nc
    obtain ⟨q', t, hq', rfl⟩ := ints_at hv hi
    obtain ⟨q, hq, rfl⟩ := nts_at hq'
    have hqm : q ∈ ns := List.mem_of_getElem? hq
    have hil : i < ns.length := by
      apply Nat.lt_of_not_le; intro w; rw [List.getElem?_eq_none w] at hq; cases hq
    have htk : ns.take (i + 1) = ns.take i ++ [q] := by rw [List.take_add_one, hq]; rfl
    have lvy : vy.length ≤ i := by
      rw [hP.1.length, nts, List.length_map]
      exact Nat.le_trans (List.length_filter_le _ _) (by rw [List.length_take]; omega)
    have lvn : vn.length ≤ i := by
      rw [hP.2.length, nts, List.length_map]
      exact Nat.le_trans (List.length_filter_le _ _) (by rw [List.length_take]; omega)
    have off2 : ∀ (oA oB : Obj), ∀ p ∈ (ln, oA) :: (ly, oB) :: news, p.1 ≠ own.1 := by
      intro oA oB p hp
      rcases List.mem_cons.mp hp with rfl | hp
      · exact hoff (ln, W.listOf vn.toArray kn) List.mem_cons_self
      · rcases List.mem_cons.mp hp with rfl | hp
        · exact hoff (ly, W.listOf vy.toArray ky) (List.mem_cons_of_mem _ List.mem_cons_self)
        · exact hoff _ (List.mem_cons_of_mem _ (List.mem_cons_of_mem _ hp))
    have hne1 : ∀ p ∈ (ly, W.listOf vy.toArray ky) :: news ++ [own], p.1 ≠ ln := by
      intro p hp
      rcases List.mem_append.mp hp with hp | hp
      · rcases List.mem_cons.mp hp with rfl | hp
        · exact aNY
        · exact hnN p hp
      · rw [List.mem_singleton.mp hp]
        exact fun e => hoff _ List.mem_cons_self e.symm
    have hne2 : ∀ p ∈ news ++ [own], p.1 ≠ ly := by
      intro p hp
      rcases List.mem_append.mp hp with hp | hp
      · exact hnY p hp
      · rw [List.mem_singleton.mp hp]
        exact fun e => hoff _ (List.mem_cons_of_mem _ List.mem_cons_self) e.symm
    (repeat' (first | (k_unfold; (try dsimp only)) | (k_end; wrow_close) | ((fail_if_success (with_reducible show wpAny _ _ (exec (Stmt.While _ _ _ _) _) _ _ _)); (fail_if_success (with_reducible show wpAny _ _ (exec (Stmt.For _ _ _ _ _) _) _ _ _)); (first | walk1 | (dsimp only; walk1))) | (leave1; walk_say "STEP leave1"; try dsimp only) | fail "no step"))
    · rename b q = true => hb
      rename News _ _ _ _ => nE
      rw [push_L] at nE
      refine AtSt.intro (vy ++ [Value.int (q : Int) t], ky + 1, vn, kn) (by assumption) nE (fun _ h => h) (by kst_all) ⟨⟨?_, ?_⟩, off2 _ _⟩
      · rw [htk, List.filter_append, nts, List.map_append]
        refine hP.1.append ?_
        simp only [List.filter_cons, hb, if_true, List.filter_nil, List.map_cons, List.map_nil]
        exact .cons _ _ .nil
      · rw [htk, List.filter_append]
        simp only [List.filter_cons, hb, Bool.not_true, Bool.false_eq_true, if_false, List.filter_nil, List.append_nil]
        exact hP.2
    · rename b q = false => hb
      rename News _ _ _ _ => nE
      rw [push_L] at nE
      refine AtSt.intro (vy, ky, vn ++ [Value.int (q : Int) t], kn + 1) (by assumption) nE (fun _ h => h) (by kst_all) ⟨⟨?_, ?_⟩, off2 _ _⟩
      · rw [htk, List.filter_append]
        simp only [List.filter_cons, hb, Bool.false_eq_true, if_false, List.filter_nil, List.append_nil]
        exact hP.1
      · rw [htk, List.filter_append, nts, List.map_append]
        refine hP.2.append ?_
        simp only [List.filter_cons, hb, Bool.not_false, if_true, List.filter_nil, List.map_cons, List.map_nil]
        exact .cons _ _ .nil
  intro c u h tk hP Fc Nc
  obtain ⟨vy, ky, vn, kn⟩ := c
  dsimp only at hP Fc Nc ⊢
  dsimp only [envOf] at Fc Nc
  rw [lvs, List.take_length] at hP
  (repeat' (first | (k_unfold; (try dsimp only)) | (k_end; wrow_close) | ((fail_if_success (with_reducible show wpAny _ _ (exec (Stmt.While _ _ _ _) _) _ _ _)); (fail_if_success (with_reducible show wpAny _ _ (exec (Stmt.For _ _ _ _ _) _) _ _ _)); (first | walk1 | (dsimp only; walk1))) | (leave1; walk_say "STEP leave1"; try dsimp only) | fail "no step"))
  rename Fr h₀ _ _ _ => lF
  rename News h₀ _ _ _ => lN
  rename _ < _ ∧ _ => lA
  refine hret _ ly ln vy vn ky kn _ _ hP.1 hP.2 lF (cb_drop lN fun p hp => ?_) oy on.1 lA.1
  simp only [List.mem_cons] at hp ⊢
  rcases hp with h | h | h | h
  · exact .inl h
  · exact .inr (.inr (.inl h))
  · exact .inr (.inl h)
  · exact .inr (.inr (.inr h))
end
end
section
theorem calmPart : True := by
  w_top off
  trivial
local macro_rules | `(tactic| k_all) => `(tactic| with_reducible assumption)
local macro_rules | `(tactic| k_mem) => `(tactic| (first | with_reducible assumption | exact List.Mem.head _ | (with_reducible refine List.mem_cons_of_mem _ ?_; k_mem) | (with_reducible refine List.mem_append_left _ ?_; k_mem) | (with_reducible refine List.mem_append_right _ ?_; k_mem)))
-- steps up to a loop, an if, a lambda, a call that is told by hand
local macro_rules | `(tactic| walk_at "subscriptTail") => `(tactic| (k_here; (try dsimp only); (show wpAny _ _ (subscriptTail _ _ (Value.ref _) (Value.int (-1) _)) _ _ _); k_dflt (refine' last_led ?k1 ?k2 ?k3 ?k4 ?k5 ?_ ?k6; (case k1 => k_asm); (case k2 => k_mem); (case k3 => assumption); (case k4 => omega); (case k5 => assumption); (case k6 => with_unfolding_all rfl))))
/-- the prices' table -/
def PricesIn (news : List (Addr × Obj)) (pl : Addr) (d : Nat → Nat → Nat) (z : Nat → Nat) (n : Nat) : Prop :=
  ∃ prs e, (pl, W.listOf (List.toArray prs) e) ∈ news ∧ prs.length = n + 1 ∧ ∀ i, i ≤ n → ∃ a vs k, prs[i]? = some (.ref a) ∧ (a, W.listOf (List.toArray vs) k) ∈ news ∧ vs.length = n + 1 + 1 ∧
    (∀ j, i < j → j ≤ n → ∃ t, vs[j]? = some (Value.int (d i j : Int) t)) ∧ ∃ t, vs[n + 1]? = some (Value.int (z i : Int) t)
theorem PricesIn.mono {news news' : List (Addr × Obj)} {pl : Addr} {d : Nat → Nat → Nat} {z : Nat → Nat} {n : Nat} (h : PricesIn news pl d z n) (hs : ∀ p ∈ news, p ∈ news') : PricesIn news' pl d z n := by
  obtain ⟨prs, e, h1, h2, h3⟩ := h
  refine ⟨prs, e, hs _ h1, h2, fun i hi => ?_⟩
  obtain ⟨a, vs, k, g1, g2, g3⟩ := h3 i hi
  exact ⟨a, vs, k, g1, hs _ g2, g3⟩
/-- the list of links -/
def Tup3In (news : List (Addr × Obj)) : List Value → List (Nat × Nat × Nat) → Prop
  | [], [] => True
  | v :: vs, e :: es => (∃ a t1 t2 t3 n, v = .ref a ∧ (a, ({ cls := .type "tuple", data := .seq #[.int (e.1 : Int) t1, .int (e.2.1 : Int) t2, .int (e.2.2 : Int) t3] n } : Obj)) ∈ news) ∧ Tup3In news vs es
  | _, _ => False
theorem Tup3In.mono {news news' : List (Addr × Obj)} (hs : ∀ p ∈ news, p ∈ news') : ∀ {vs : List Value} {es : List (Nat × Nat × Nat)}, Tup3In news vs es → Tup3In news' vs es
  | [], [], _ => trivial
  | _ :: _, _ :: _, h => ⟨let ⟨a, t1, t2, t3, n, e, hm⟩ := h.1; ⟨a, t1, t2, t3, n, e, hs _ hm⟩, Tup3In.mono hs h.2⟩
  | [], _ :: _, h => h.elim
  | _ :: _, [], h => h.elim
theorem Tup3In.append {news : List (Addr × Obj)} : ∀ {vs us : List Value} {es fs : List (Nat × Nat × Nat)}, Tup3In news vs es → Tup3In news us fs → Tup3In news (vs ++ us) (es ++ fs)
  | [], _, [], _, _, g => g
  | _ :: _, _, _ :: _, _, h, g => ⟨h.1, Tup3In.append h.2 g⟩
  | [], _, _ :: _, _, h, _ => h.elim
  | _ :: _, _, [], _, h, _ => h.elim
theorem Tup3In.length {news : List (Addr × Obj)} : ∀ {vs : List Value} {es : List (Nat × Nat × Nat)}, Tup3In news vs es → vs.length = es.length
  | [], [], _ => rfl
  | _ :: _, _ :: _, h => by simp [Tup3In.length h.2]
  | [], _ :: _, h => h.elim
  | _ :: _, [], h => h.elim
/-- the table of the codes made in _law_parted -/
def psOf : Option Addr → Array Value
  | none => #[]
  | some c => #[rawInt 188, rawInt 39, .ref c]
/-- the code that stands in it is the lambda's -/
def CodeOk (led : List (Addr × Obj)) : Option Addr → Prop
  | none => True
  | some c => ∃ oc vs t, (c, oc) ∈ led ∧ oc.data = .fields vs ∧ vs[1]? = some (.str (Str.ofString "_law_parted" ++ ".<locals>." ++ "<lambda>") t)
theorem CodeOk.mono {led led' : List (Addr × Obj)} {o : Option Addr} (h : CodeOk led o) (hs : ∀ p ∈ led, p ∈ led') : CodeOk led' o := by
  cases o with
  | none => trivial
  | some c => obtain ⟨oc, vs, t, h1, h2, h3⟩ := h; exact ⟨oc, vs, t, hs _ h1, h2, h3⟩
/-- the letters of the parting's loop -/
structure PSt where
  left : List Nat
  links : List (Nat × Nat × Nat)
  way : List Nat
  g : Nat
  o : Option Addr
  os : Obj
  lf : Addr
  vlf : List Value
  klf : Nat
  lk : Addr
  vl : List Value
  kl : Nat
  wy : Addr
  vw : List Value
  kw : Nat
  tl : List (Addr × Obj)
structure PInv (d : Nat → Nat → Nat) (z : Nat → Nat) (r n f h : Nat) (t : List Nat) (X9 : List (Addr × Obj)) (B9 : Addr) (c : PSt) : Prop where
  fin : loopP d z r (part d z r f) h c.g c.left c.links c.way = part d z r (f + 1) (h :: t)
  glen : c.left.length ≤ c.g
  flen : c.left.length ≤ f
  pw : c.left.Pairwise (· < ·)
  ltn : ∀ q ∈ c.left, h < q ∧ q ≤ n
  step : ∃ v, c.os.data = .cell v
  tup : Tup3In c.tl c.vl c.links
  ileft : IntsAre c.vlf (nts c.left)
  mleft : (c.lf, W.listOf c.vlf.toArray c.klf) ∈ c.tl
  iway : IntsAre c.vw (nts c.way)
  mway : (c.wy, W.listOf c.vw.toArray c.kw) ∈ c.tl
  tlgt : ∀ p ∈ c.tl, B9 < p.1
  tlne : ∀ p ∈ c.tl, p.1 ≠ c.lk
  lkgt : B9 < c.lk
  code : CodeOk (c.tl ++ X9) c.o
  totl : c.links.length + c.left.length ≤ t.length
  totw : c.way.length + c.left.length ≤ t.length + 1
section
variable {M : Model} {A : Around} {E : Value → Shared → Prop} {s : Shared} {h₀ : Heap} {L a c P : Addr} {m mg mb : Str → Option Value} {cs : Scope} {ccd : Value} {cl : List (Str × Addr)} {news : List (Addr × Obj)} {g : Obj → List (Addr × Obj)}
  {p : Program} {loose : List Str} {mean : ExcName → Option Value} {params : Arguments} {body : PySem.Expr} {scope : Scope} {pos : Pos} {clos : List (Str × Addr)}
/-- the lambda, whether its code has been made or not -/
theorem lam_both {o : Option Addr} {X9 : List (Addr × Obj)} {Q : Value → Shared → Prop} (F : Fr h₀ L s.heap m) (N : News h₀ L s.heap news) (T : Top p loose mean mg mb h₀) (C : CodeHd h₀ c P) (hcd : ccd = .ref c) (U : UpdF P (tabObj (psOf o)) news g) (hco : CodeOk X9 o)
    (hps : ∀ c', psOf none ++ #[rawInt pos.line, rawInt pos.col, .ref c'] = psOf (some c')) (hn : codeAmong pos (psOf none).toList = none) (hh : ∀ c', codeAmong pos (psOf (some c')).toList = some (.ref c')) (htr : ∀ o, TriplesOk (psOf o).toList)
    (hcl : closureFor scope (envX (Str.ofString "_law_parted") cs L a ccd cl) = pure clos) (hdef : defaultsOf params (envX (Str.ofString "_law_parted") cs L a ccd cl) = ([], []))
    (h : ∀ f c' ctv h' tk own, Fr h₀ L h' m →
      News h₀ L h' ((f, kla_obj "<lambda>" (Str.ofString "_law_parted" ++ ".<locals>." ++ "<lambda>") params body scope clos ((mg "__name__").getD .none) c' ctv) :: (own ++ g (tabObj (psOf (some c'))))) →
      CodeOk (own ++ X9) (some c') → (∀ q ∈ news, q.1 < f) → (∀ p ∈ own, ∀ q ∈ news, q.1 < p.1) → (∀ p ∈ own, p.1 < f) → Q (.ref f) { s with heap := h', toks := tk }) :
    wpAny M A (eval (.Lambda params body scope pos) (envX (Str.ofString "_law_parted") cs L a ccd cl)) Q E s := by
  refine kla_eval hdef ?_
  cases o with
  | none =>
    refine kla_nest F N T C hcd U (htr none) hn hcl fun f c' oc vs t ctv h' tk F' N' hd hv l1 l2 => ?_
    rw [hps] at N'
    exact h f c' ctv h' tk [(c', oc)] F' N' ⟨oc, vs, t, List.mem_cons_self, hd, hv⟩ (fun q hq => Nat.lt_trans (l1 q hq) l2) (fun p hp q hq => by rw [List.mem_singleton.mp hp]; exact l1 q hq) (fun p hp => by rw [List.mem_singleton.mp hp]; exact l2)
  | some c' =>
    obtain ⟨own, rest, hnw, hg, _, _⟩ := U.split
    have hgn : g (tabObj (psOf (some c'))) = news := by rw [hg, hnw]
    refine kla_hit F N T C hcd (by rw [hnw]; exact List.mem_append_right _ List.mem_cons_self) (htr _) (hh c') hcl fun f ctv h' tk F' N' l1 => ?_
    refine h f c' ctv h' tk [] F' ?_ hco l1 (fun p hp => by cases hp) (fun p hp => by cases hp)
    rw [hgn]; exact N'
end
section
variable {prog : Program} {w : World} {A : Around} {E : Value → Shared → Prop} {s : Shared} {h₀ : Heap} {L : Addr} {m : Str → Option Value} {news : List (Addr × Obj)} {Q : Value → Shared → Prop}
/-- two lists of the ledger, one behind the other -/
theorem add_L {l b : Addr} {vs ws : List Value} {k k' : Nat} (F : Fr h₀ L s.heap m) (N : News h₀ L s.heap news) (hl : (l, W.listOf vs.toArray k) ∈ news) (hb : (b, W.listOf ws.toArray k') ∈ news) (hsz : vs.length + ws.length ≤ 100000)
    (h : ∀ D h', (∀ p ∈ news, p.1 < D) → Fr h₀ L h' m → News h₀ L h' ((D, W.listOf (vs ++ ws).toArray 0) :: news) → Q (.ref D) { s with heap := h' }) : wpAny (model prog w) A (binaryOp .Add (.ref l) (.ref b)) Q E s :=
  add_lists (vs := vs) (ws := ws) F N (News.isList N hl) (News.isList N hb) (fun h' F' N' => h _ h' (fun p hp => Heap.lt_size (N p hp).1) F' N') (by rw [sizeLine_eq]; omega)
end
/-- what _law_parted does on at most f places -/
def PartC (w : World) (d : Nat → Nat → Nat) (z : Nat → Nat) (r n f : Nat) : Prop :=
  ∀ (p : Program) (loose : List Str) (mean : ExcName → Option Value) (mg mb : Str → Option Value) (dp un : Nat) (gd : Option (List Code)) (cn : Str) (cs : Scope) (a : Addr) (ccd : Value) (cl : List (Str × Addr)) (outer : List Env) (A₀ : Around) (base h₀ : Heap) (L : Addr) (m : Str → Option Value) (news : List (Addr × Obj)) (s : Shared) (Q E : Value → Shared → Prop)
    (pl l P : Addr) (tr : Tok) (vs : List Value) (k h : Nat) (t : List Nat) (o : Option Addr) (X9 : List (Addr × Obj)),
    PricesIn news pl d z n → (l, W.listOf vs.toArray k) ∈ news → IntsAre vs (nts (h :: t)) → (h :: t).length ≤ f → (h :: t).Pairwise (· < ·) → (∀ q ∈ h :: t, q ≤ n) → (∀ p ∈ news, p.1 ≠ P) → CodeHd base 226 P → CodeOk X9 o → (∀ p ∈ X9, p ∈ news) →
    Below A₀ base outer h₀ → Fr h₀ L s.heap m → (hd.heap_39 w.params).In h₀ → News h₀ L s.heap ((P, tabObj (psOf o)) :: news) → Top p loose mean mg mb h₀ → cs.kind = .function → dp + 60 + 10 * f < recursionLimit → un + 300 + 100 * f < cLine →
    (∀ (T' lk wy L9 : Addr) (vl vw : List Value) (kl kw : Nat) (tl : List (Addr × Obj)) (o' : Option Addr) (h' : Heap) (tk' : Nat), Tup3In tl vl (part d z r f (h :: t)).1 → IntsAre vw (nts (part d z r f (h :: t)).2) → CodeOk (tl ++ X9) o' →
      (∀ q ∈ (P, tabObj (psOf o)) :: news, q.1 < L9) → L9 < T' → L9 < lk → L9 < wy → (∀ p ∈ tl, L9 < p.1) → Fr h₀ L h' m →
      News h₀ L h' ((P, tabObj (psOf o')) :: (T', ({ cls := .type "tuple", data := .seq #[.ref lk, .ref wy] } : Obj)) :: (lk, W.listOf vl.toArray kl) :: (wy, W.listOf vw.toArray kw) :: (tl ++ news)) → Q (.ref T') { s with heap := h', toks := tk' }) →
    wpAny (model PySem.Challenge.rw_pe0242_01.prog w) (ktrTop dp un gd cn cs L a ccd cl outer) (call (.ref 227) [.ref pl, .ref l, .int (r : Int) tr]) Q E s
section
variable {w : World}
theorem part_all {d : Nat → Nat → Nat} {z : Nat → Nat} {r n : Nat} (hr : r ≤ 2) (hn : n < 8) (hd12 : ∀ i j, d i j ≤ 100) (hz12 : ∀ i, z i ≤ 100) : ∀ f, f ≤ 8 → PartC w d z r n f
  | 0, _ => by
    intro p loose mean mg mb dp un gd cn cs a ccd cl outer A₀ base h₀ L m news s Q E pl l P tr vs k h t o X9 _ _ _ hlen
    simp at hlen
  | f + 1, hf8 => by
    have ih : PartC w d z r n f := part_all hr hn hd12 hz12 f (by omega)
    intro p loose mean mg mb dp un gd cn cs a ccd cl outer A₀ base h₀ L m news s Q E pl l P tr vs k h t o X9 hp hl hv hlen hpw hpn hneP hC hco hX9 B F X N T hk hd hu hret
    obtain ⟨th, vt, rfl, hvt⟩ : ∃ th vt, vs = Value.int (h : Int) th :: vt ∧ IntsAre vt (nts t) := by
      have hv' : IntsAre vs ((h : Int) :: nts t) := hv
      cases hv'; exact ⟨_, _, rfl, by assumption⟩
    have hx0 : (Value.int (h : Int) th :: vt)[(0 : Int).toNat]? = some (Value.int (h : Int) th) := rfl
    have lvt : vt.length = t.length := by rw [hvt.length, nts, List.length_map]
    refine wpAny_call ?_
    k_dflt (refine' code_defC ?k1 ?k2 ?k3 ?k4 ?k5 ?kA ?kF ?kK ?k6 ?k7 ?k8 ?k9 ?kB ?kD ?_ ?c2 ?c3 ?c4; (case kA => exact rfl); (case kF => exact rfl); (case kK => assumption); (case k1 => k_asm); (case k2 => k_asm); (case k3 => k_asm); (case k4 => k_asm); (case k5 => k_asm); (case k6 => k_is); (case k7 => k_is); (case k8 => ktr_room); (case k9 => exact BindsTo.of_eq rfl); (case kB => exact rfl); (case kD => decide +kernel); (case c2 => exact rfl); (case c3 => exact rfl); (case c4 => exact rfl); k_whole; intro g' L' h' tk' cells' FG' F' N' Y' B' X' T' l1; k_cells Y'; (try simp only [List.cons_append, List.nil_append] at N'); (try dsimp only); (try k_lift B'); (try k_fold))
    have lnw : ∀ p ∈ news, p.1 < L' := fun p hp => l1 p (List.mem_cons_of_mem _ hp)
    have c1 : ∀ p ∈ news, p.1 ≠ L' + 1 := fun p hp => Nat.ne_of_lt (Nat.lt_of_lt_of_le (lnw p hp) (Nat.le_add_right L' 1))
    have c2 : ∀ p ∈ news, p.1 ≠ L' + 1 + 1 := fun p hp => Nat.ne_of_lt (Nat.lt_of_lt_of_le (lnw p hp) (Nat.le_add_right L' 2))
    have c3 : ∀ p ∈ news, p.1 ≠ L' + 1 + 1 + 1 := fun p hp => Nat.ne_of_lt (Nat.lt_of_lt_of_le (lnw p hp) (Nat.le_add_right L' 3))
    have lP := ltN (show P < L' from l1 (P, _) List.mem_cons_self)
    (repeat' (first | (k_unfold; (try dsimp only)) | (k_end; wrow_close) | ((fail_if_success (with_reducible show wpAny _ _ (exec (Stmt.While _ _ _ _) _) _ _ _)); (fail_if_success (with_reducible show wpAny _ _ (exec (Stmt.If _ _ _ _) _) _ _ _)); (fail_if_success (with_reducible show wpAny _ _ (eval (Expr.Lambda _ _ _ _) _) _ _ _)); (fail_if_success (with_reducible show wpAny _ _ (call (Value.ref 182) _ _) _ _ _)); (fail_if_success (with_reducible show wpAny _ _ (call (Value.ref 227) _ _) _ _ _)); (fail_if_success (with_reducible show wpAny _ _ (call (Value.builtin "list.append") _ _) _ _ _)); (fail_if_success (with_reducible show wpAny _ _ (binaryOp Operator.Add (Value.ref _) (Value.ref _)) _ _ _)); (first | walk1 | (dsimp only; walk1))) | (leave1; walk_say "STEP leave1"; try dsimp only) | fail "no step"))
    rename_i o1 o20 o3 d1 d20 d3 hh9 o2 d2 tk9 D ws hh8 hI8 hC8 hL8 oD hh7 lk hh6 olk hh5 tkw wy hh4 owy hh3 F2 N2
    have dP : o3.data = .cell (some (.ref pl)) := d3
    have dS : o1.data = .cell none := d1
    clear d1 d20 d3
    refine' whileX (σ := PSt) (τ := PSt)
      (fun c => (c.lk, W.listOf c.vl.toArray c.kl) :: (L' + 1 + 1 + 1, c.os) :: (L' + 1 + 1, o2) :: (L' + 1, o3) :: (P, tabObj (psOf c.o)) :: (c.tl ++ news))
      (fun c => [(Str.ofString "reach", .int r tr), (Str.ofString "left", .ref c.lf), (Str.ofString "links", .ref c.lk), (Str.ofString "way", .ref c.wy)])
      (fun c => PInv d z r n f h t X9 (L' + 1 + 1 + 1) c)
      (fun c => c.left.length)
      ⟨t, [], [h], t.length, o, o1, D, ws, 0, lk, [], 0, wy, [Value.int (h : Int) th], 0, [(wy, W.listOf #[Value.int (h : Int) th] 0), (D, W.listOf ws.toArray 0)]⟩
      (fun c => (c.lk, W.listOf c.vl.toArray c.kl) :: (L' + 1 + 1 + 1, c.os) :: (L' + 1 + 1, o2) :: (L' + 1, o3) :: (P, tabObj (psOf c.o)) :: (c.tl ++ news))
      (fun c => [(Str.ofString "reach", .int r tr), (Str.ofString "left", .ref c.lf), (Str.ofString "links", .ref c.lk), (Str.ofString "way", .ref c.wy)])
      (fun c => PInv d z r n f h t X9 (L' + 1 + 1 + 1) c ∧ c.left = [])
      F2 N2 ?_ (by kst_all) ?_ ?_ ?_
    all_goals clear F2 N2
    · intro p hp
      simp only [List.mem_cons, List.cons_append, List.nil_append] at hp ⊢
      rcases hp with h | h | h | h | h | h | h | h
      · exact .inr (.inl h)
      · exact .inr (.inr (.inr (.inl h)))
      · exact .inr (.inr (.inr (.inr (.inl h))))
      · exact .inr (.inr (.inr (.inr (.inr (.inl h)))))
      · exact .inr (.inr (.inr (.inr (.inr (.inr (.inl h))))))
      · exact .inl h
      · exact .inr (.inr (.inl h))
      · exact .inr (.inr (.inr (.inr (.inr (.inr (.inr h))))))
    · refine ⟨?_, Nat.le_refl _, ?_, (List.pairwise_cons.mp hpw).2, ?_, ⟨_, dS⟩, trivial, hI8, ?_, .cons _ _ .nil, ?_, ?_, ?_, olk.2.1, ?_, ?_, ?_⟩
      · rfl
      · simp at hlen; exact hlen
      · intro q hq
        exact ⟨(List.pairwise_cons.mp hpw).1 q hq, hpn q (List.mem_cons_of_mem _ hq)⟩
      · simp
      · simp
      · intro p hp
        simp only [List.mem_cons, List.not_mem_nil, or_false] at hp
        rcases hp with rfl | rfl
        · exact owy.2.2.1
        · exact oD.1
      · intro p hp
        simp only [List.mem_cons, List.not_mem_nil, or_false] at hp
        rcases hp with rfl | rfl
        · exact Nat.ne_of_gt owy.1
        · exact Nat.ne_of_lt olk.1
      · exact hco.mono fun p hp => by simp [hp]
      · simp
      · simp; omega
    · intro c u h9 tk hP Fc Nc Rq Sq hRn hRs hRv
      obtain ⟨left, links, way, g, o', os, lf, vlf, klf, lk', vl, kl, wy', vw, kw, tl⟩ := c
      dsimp only at hP Fc Nc ⊢
      obtain ⟨fin, glen, flen, pw, ltn, ⟨vstep, dstep⟩, tup, ileft, mleft, iway, mway, tlgt, tlne, lkgt, code, totl, totw⟩ := hP
      dsimp only at fin glen flen pw ltn dstep tup ileft mleft iway mway tlgt tlne lkgt code totl totw
      have lvlf : vlf.length = left.length := by rw [ileft.length, nts, List.length_map]
      have lvw : vw.length = way.length := by rw [iway.length, nts, List.length_map]
      have lvl : vl.length = links.length := tup.length
      have lkgt' := ltN lkgt
      have c3' : ∀ p ∈ tl ++ news, p.1 ≠ L' + 1 + 1 + 1 := by
        intro p hp
        rcases List.mem_append.mp hp with hp | hp
        · exact Nat.ne_of_gt (tlgt p hp)
        · exact c3 p hp
      iterate 5 walk1
      rename News _ _ _ _ => lN
      rename _ < _ ∧ _ => lA
      refine ne_intsK (News.isList lN (List.mem_cons_of_mem _ (List.mem_cons_of_mem _ (List.mem_cons_of_mem _ (List.mem_cons_of_mem _ (List.mem_cons_of_mem _ (List.mem_cons_of_mem _ (List.mem_append_left _ mleft)))))))) ileft (News.isList lN List.mem_cons_self) .nil (by ktr_units) ?_
      have lN2 := cb_drop lN (fun p hp => List.mem_cons_of_mem _ hp)
      clear lN
      by_cases hle : nts left = []
      · have hle' : left = [] := by cases left with | nil => rfl | cons => simp [nts] at hle
        subst hle'
        rw [hle]
        (repeat' (first | (k_unfold; (try dsimp only)) | (k_end; wrow_close) | ((fail_if_success (with_reducible show wpAny _ _ (exec (Stmt.While _ _ _ _) _) _ _ _)); (fail_if_success (with_reducible show wpAny _ _ (exec (Stmt.If _ _ _ _) _) _ _ _)); (fail_if_success (with_reducible show wpAny _ _ (eval (Expr.Lambda _ _ _ _) _) _ _ _)); (fail_if_success (with_reducible show wpAny _ _ (call (Value.ref 182) _ _) _ _ _)); (fail_if_success (with_reducible show wpAny _ _ (call (Value.ref 227) _ _) _ _ _)); (fail_if_success (with_reducible show wpAny _ _ (call (Value.builtin "list.append") _ _) _ _ _)); (fail_if_success (with_reducible show wpAny _ _ (binaryOp Operator.Add (Value.ref _) (Value.ref _)) _ _ _)); (first | walk1 | (dsimp only; walk1))) | (leave1; walk_say "STEP leave1"; try dsimp only) | fail "no step"))
        first | refine (hRn _ ?_).1 | refine hRn _ ?_ | refine (hRs _ ?_).2 | refine (hRs _ ?_).1
        exact AtSt.intro (⟨[], links, way, g, o', os, lf, vlf, klf, lk', vl, kl, wy', vw, kw, tl⟩ : PSt) (by assumption) lN2 (fun _ h => h) (by kst_all) ⟨⟨fin, glen, flen, pw, ltn, ⟨vstep, dstep⟩, tup, ileft, mleft, iway, mway, tlgt, tlne, lkgt, code, totl, totw⟩, rfl⟩
      · have hle' : ∃ x l, left = x :: l := by cases left with | nil => exact absurd rfl hle | cons x l => exact ⟨x, l, rfl⟩
        obtain ⟨x, lft, rfl⟩ := hle'
        obtain ⟨tx, vlt, rfl, hvlt⟩ : ∃ tx vlt, vlf = Value.int (x : Int) tx :: vlt ∧ IntsAre vlt (nts lft) := by
          have hv' : IntsAre vlf ((x : Int) :: nts lft) := ileft
          cases hv'; exact ⟨_, _, rfl, by assumption⟩
        have hx1 : (Value.int (x : Int) tx :: vlt)[(0 : Int).toNat]? = some (Value.int (x : Int) tx) := rfl
        have hp9 := hp
        obtain ⟨prs, ep, hprs, lprs, hrow⟩ := hp
        obtain ⟨ra, rvs, rk, hpr, hra, lrvs, hrj, tz, hrz⟩ := hrow h (hpn h List.mem_cons_self)
        obtain ⟨tj, hrx⟩ := hrj x (ltn x List.mem_cons_self).1 (ltn x List.mem_cons_self).2
        have hpr' : prs[(h : Int).toNat]? = some (Value.ref ra) := hpr
        have hrx' : rvs[(x : Int).toNat]? = some (Value.int (d h x : Int) tj) := hrx
        have hxn := (ltn x List.mem_cons_self).2
        have hhn := hpn h List.mem_cons_self
        have hdd := hd12 h x
        have hzz := hz12 h
        simp only [hle, decide_false]
        (repeat' (first | (k_unfold; (try dsimp only)) | (k_end; wrow_close) | ((fail_if_success (with_reducible show wpAny _ _ (exec (Stmt.While _ _ _ _) _) _ _ _)); (fail_if_success (with_reducible show wpAny _ _ (exec (Stmt.If _ _ _ _) _) _ _ _)); (fail_if_success (with_reducible show wpAny _ _ (eval (Expr.Lambda _ _ _ _) _) _ _ _)); (fail_if_success (with_reducible show wpAny _ _ (call (Value.ref 182) _ _) _ _ _)); (fail_if_success (with_reducible show wpAny _ _ (call (Value.ref 227) _ _) _ _ _)); (fail_if_success (with_reducible show wpAny _ _ (call (Value.builtin "list.append") _ _) _ _ _)); (fail_if_success (with_reducible show wpAny _ _ (binaryOp Operator.Add (Value.ref _) (Value.ref _)) _ _ _)); (first | walk1 | (dsimp only; walk1))) | (leave1; walk_say "STEP leave1"; try dsimp only) | fail "no step"))
        rename_i hA9 os2 F2 N2 dS2
        have hP3 : ∀ p ∈ tl ++ news, p.1 ≠ P := by
          intro p hp
          rcases List.mem_append.mp hp with hp | hp
          · exact Nat.ne_of_gt (Nat.lt_trans lP (Nat.lt_trans (Nat.lt_of_lt_of_le (Nat.lt_succ_self L') (Nat.le_add_right (L' + 1) 2)) (tlgt p hp)))
          · exact hneP p hp
        refine lam_both (o := o') F2 N2 (by assumption) (CodeHd.keeps hC (Below.stays (by assumption))) rfl (by k_updF) code (fun _ => rfl) rfl (fun _ => by simp [psOf, codeAmong, rawInt]) (fun o => by cases o <;> simp [psOf, TriplesOk, rawInt]) rfl rfl ?_
        intro fa c' ctv h5 tk5 own F3 N3 hco3 l1f l1o l2o
        clear F2 N2
        (repeat' (first | (k_unfold; (try dsimp only)) | (k_end; wrow_close) | ((fail_if_success (with_reducible show wpAny _ _ (exec (Stmt.While _ _ _ _) _) _ _ _)); (fail_if_success (with_reducible show wpAny _ _ (exec (Stmt.If _ _ _ _) _) _ _ _)); (fail_if_success (with_reducible show wpAny _ _ (eval (Expr.Lambda _ _ _ _) _) _ _ _)); (fail_if_success (with_reducible show wpAny _ _ (call (Value.ref 182) _ _) _ _ _)); (fail_if_success (with_reducible show wpAny _ _ (call (Value.ref 227) _ _) _ _ _)); (fail_if_success (with_reducible show wpAny _ _ (call (Value.builtin "list.append") _ _) _ _ _)); (fail_if_success (with_reducible show wpAny _ _ (binaryOp Operator.Add (Value.ref _) (Value.ref _)) _ _ _)); (first | walk1 | (dsimp only; walk1))) | (leave1; walk_say "STEP leave1"; try dsimp only) | fail "no step"))
        obtain ⟨oc', vsc, tc, hcm, hcd, hcv⟩ := hco3
        k_dflt (refine' split_call (b := fun p => decide (d h p = d h x)) (ns := x :: lft) ?hl ileft (by simp at flen ⊢; omega) ?hfo ?hpred ?k1 ?k2 ?k3 ?k4 ?k5 ?kK ?kd ?ku ?_; (case k4 => exact N3); (case hl => exact List.mem_cons_of_mem _ (List.mem_append_right _ (List.mem_cons_of_mem _ (List.mem_cons_of_mem _ (List.mem_cons_of_mem _ (List.mem_cons_of_mem _ (List.mem_cons_of_mem _ (List.mem_append_left _ mleft)))))))); (case hfo => exact List.mem_cons_self); (case k1 => k_asm); (case k2 => k_asm); (case k3 => k_asm); (case k5 => k_asm); (case kK => first | exact rfl | assumption); (case kd => ktr_room); (case ku => ktr_units))
        case hpred =>
          clear hret F X N T B hd hu hk
          intro p loose mean mg mb dp un gd cn cs a ccd cl outer A₀ base h₀ L m news9 s Q E q tq hq B F X N hs T hk hd hu hret
          have m0 := hs _ List.mem_cons_self
          have mc := hs (c', oc') (List.mem_cons_of_mem _ (by
            rcases List.mem_append.mp hcm with q | q
            · exact List.mem_append_left _ q
            · refine List.mem_append_right _ (List.mem_cons_of_mem _ (List.mem_cons_of_mem _ (List.mem_cons_of_mem _ (List.mem_cons_of_mem _ (List.mem_cons_of_mem _ ?_)))))
              rcases List.mem_append.mp q with q | q
              · exact List.mem_append_left _ q
              · exact List.mem_append_right _ (hX9 _ q)))
          have ms := hs _ (List.mem_cons_of_mem _ (List.mem_append_right _ (List.mem_cons_of_mem _ List.mem_cons_self)))
          have mh := hs _ (List.mem_cons_of_mem _ (List.mem_append_right _ (List.mem_cons_of_mem _ (List.mem_cons_of_mem _ List.mem_cons_self))))
          have mp := hs _ (List.mem_cons_of_mem _ (List.mem_append_right _ (List.mem_cons_of_mem _ (List.mem_cons_of_mem _ (List.mem_cons_of_mem _ List.mem_cons_self)))))
          have mpr := hs _ (List.mem_cons_of_mem _ (List.mem_append_right _ (List.mem_cons_of_mem _ (List.mem_cons_of_mem _ (List.mem_cons_of_mem _ (List.mem_cons_of_mem _ (List.mem_cons_of_mem _ (List.mem_append_right _ hprs))))))))
          have mra := hs _ (List.mem_cons_of_mem _ (List.mem_append_right _ (List.mem_cons_of_mem _ (List.mem_cons_of_mem _ (List.mem_cons_of_mem _ (List.mem_cons_of_mem _ (List.mem_cons_of_mem _ (List.mem_append_right _ hra))))))))
          obtain ⟨tq9, hrq⟩ := hrj q (ltn q hq).1 (ltn q hq).2
          have hrq' : rvs[(q : Int).toNat]? = some (Value.int (d h q : Int) tq9) := hrq
          have hqn := (ltn q hq).2
          clear hs N3 hcm c3' hP3 l1f l1o l2o
          refine wpAny_call ?_
          k_dflt (refine' kla_code ?k1 ?k2 ?k3 ?k4 ?k5 ?kA ?kF ?kK ?k6 ?k7 ?k8 ?k9 ?kB ?_ ?c2 ?c3 ?c4 ?c5; (case kA => exact rfl); (case kF => exact rfl); (case kK => assumption); (case k1 => k_asm); (case k2 => k_asm); (case k3 => k_asm); (case k4 => k_asm); (case k5 => k_asm); (case k6 => exact m0); (case k7 => exact codeRec_news (by k_asm) mc hcd hcv); (case k8 => ktr_room); (case k9 => exact rfl); (case c5 => decide); (case kB => exact locs rfl); (case c2 => exact rfl); (case c3 => exact rfl); (case c4 => exact rfl); k_whole; intro g' L' h' FG' F' N' B' X' T'; (try dsimp only); (try k_lift B'); (try k_fold))
          (repeat' (first | (k_unfold; (try dsimp only)) | (k_end; wrow_close) | ((fail_if_success (with_reducible show wpAny _ _ (exec (Stmt.While _ _ _ _) _) _ _ _)); (fail_if_success (with_reducible show wpAny _ _ (exec (Stmt.If _ _ _ _) _) _ _ _)); (fail_if_success (with_reducible show wpAny _ _ (eval (Expr.Lambda _ _ _ _) _) _ _ _)); (fail_if_success (with_reducible show wpAny _ _ (call (Value.ref 182) _ _) _ _ _)); (fail_if_success (with_reducible show wpAny _ _ (call (Value.ref 227) _ _) _ _ _)); (fail_if_success (with_reducible show wpAny _ _ (call (Value.builtin "list.append") _ _) _ _ _)); (fail_if_success (with_reducible show wpAny _ _ (binaryOp Operator.Add (Value.ref _) (Value.ref _)) _ _ _)); (first | walk1 | (dsimp only; walk1))) | (leave1; walk_say "STEP leave1"; try dsimp only) | fail "no step"))
          have e9 : ((d h q : Int) == (d h x : Int)) = decide (d h q = d h x) := by rw [Bool.eq_iff_iff, beq_iff_eq, decide_eq_true_eq]; constructor <;> intro h9 <;> omega
          rw [e9]
          exact hret 0 _ _ (by assumption) (by assumption)
        intro T9 y9 n9 vy vn ky kn h6 tk6 hvy hvn F4 N4 ly9 lyn lnT
        have hfm : (x :: lft).filter (fun p => decide (d h p = d h x)) = x :: lft.filter (fun p => decide (d h p = d h x)) := by simp
        rw [hfm] at hvy
        obtain ⟨txy, vyt, rfl, hvyt⟩ : ∃ tx v', vy = Value.int (x : Int) tx :: v' ∧ IntsAre v' (nts (lft.filter (fun p => decide (d h p = d h x)))) := by
          have hv' : IntsAre vy ((x : Int) :: nts (lft.filter (fun p => decide (d h p = d h x)))) := hvy
          cases hv'; exact ⟨_, _, rfl, by assumption⟩
        have hxy : (Value.int (x : Int) txy :: vyt)[(0 : Int).toNat]? = some (Value.int (x : Int) txy) := rfl
        have y3 : L' + 1 + 1 + 1 < y9 := ly9 (L' + 1 + 1 + 1, os2) (List.mem_cons_of_mem _ (List.mem_append_right _ (List.mem_cons_of_mem _ List.mem_cons_self)))
        have ylk : lk' < y9 := ly9 (lk', W.listOf vl.toArray kl) (List.mem_cons_of_mem _ (List.mem_append_right _ List.mem_cons_self))
        obtain ⟨tl2, etl2⟩ : ∃ t2 : List (Addr × Obj), t2 = (y9, W.listOf (Value.int (x : Int) txy :: vyt).toArray ky) :: (n9, W.listOf vn.toArray kn) :: (T9, ({ cls := .type "tuple", data := .seq #[.ref y9, .ref n9] } : Obj)) :: (own ++ tl) := ⟨_, rfl⟩
        have my2 : (y9, W.listOf (Value.int (x : Int) txy :: vyt).toArray ky) ∈ tl2 := by rw [etl2]; exact List.mem_cons_self
        have mn2 : (n9, W.listOf vn.toArray kn) ∈ tl2 := by rw [etl2]; exact List.mem_cons_of_mem _ List.mem_cons_self
        have mT2 : (T9, ({ cls := .type "tuple", data := .seq #[.ref y9, .ref n9] } : Obj)) ∈ tl2 := by rw [etl2]; exact List.mem_cons_of_mem _ (List.mem_cons_of_mem _ List.mem_cons_self)
        have stl2 : ∀ p ∈ tl, p ∈ tl2 := fun p hp => by rw [etl2]; exact List.mem_cons_of_mem _ (List.mem_cons_of_mem _ (List.mem_cons_of_mem _ (List.mem_append_right _ hp)))
        have gt2 : ∀ p ∈ tl2, L' + 1 + 1 + 1 < p.1 ∧ p.1 ≠ lk' := by
          intro p hp
          rw [etl2] at hp
          rcases List.mem_cons.mp hp with rfl | hp
          · exact ⟨y3, Nat.ne_of_gt ylk⟩
          · rcases List.mem_cons.mp hp with rfl | hp
            · exact ⟨Nat.lt_trans y3 lyn, Nat.ne_of_gt (Nat.lt_trans ylk lyn)⟩
            · rcases List.mem_cons.mp hp with rfl | hp
              · exact ⟨Nat.lt_trans y3 (Nat.lt_trans lyn lnT), Nat.ne_of_gt (Nat.lt_trans ylk (Nat.lt_trans lyn lnT))⟩
              · rcases List.mem_append.mp hp with hp | hp
                · exact ⟨l1o p hp (L' + 1 + 1 + 1, os2) (List.mem_cons_of_mem _ List.mem_cons_self), Nat.ne_of_gt (l1o p hp (lk', W.listOf vl.toArray kl) List.mem_cons_self)⟩
                · exact ⟨tlgt p hp, tlne p hp⟩
        have code2 : CodeOk (tl2 ++ X9) (some c') := by
          refine ⟨oc', vsc, tc, ?_, hcd, hcv⟩
          rw [etl2]
          rcases List.mem_append.mp hcm with q | q
          · exact List.mem_append_left _ (List.mem_cons_of_mem _ (List.mem_cons_of_mem _ (List.mem_cons_of_mem _ (List.mem_append_left _ q))))
          · rcases List.mem_append.mp q with q | q
            · exact List.mem_append_left _ (List.mem_cons_of_mem _ (List.mem_cons_of_mem _ (List.mem_cons_of_mem _ (List.mem_append_right _ q))))
            · exact List.mem_append_right _ q
        have N5 : News g' L' h6 ((lk', W.listOf vl.toArray kl) :: (L' + 1 + 1 + 1, os2) :: (L' + 1 + 1, o2) :: (L' + 1, o3) :: (P, tabObj (psOf (some c'))) :: (tl2 ++ news)) := cb_drop N4 fun p hp => by
          rw [etl2] at hp
          simp only [List.mem_cons, List.cons_append, List.mem_append, List.append_assoc] at hp ⊢
          rcases hp with h | h | h | h | h | h | h | h | h | h | h
          · exact .inr (.inr (.inr (.inr (.inr (.inl h)))))
          · exact .inr (.inr (.inr (.inr (.inr (.inr (.inl h))))))
          · exact .inr (.inr (.inr (.inr (.inr (.inr (.inr (.inl h)))))))
          · exact .inr (.inr (.inr (.inr (.inr (.inr (.inr (.inr (.inl h))))))))
          · exact .inr (.inr (.inr (.inr (.inr (.inr (.inr (.inr (.inr (.inl h)))))))))
          · exact .inr (.inl h)
          · exact .inr (.inr (.inl h))
          · exact .inl h
          · exact .inr (.inr (.inr (.inr (.inl h))))
          · exact .inr (.inr (.inr (.inr (.inr (.inr (.inr (.inr (.inr (.inr (.inl h))))))))))
          · exact .inr (.inr (.inr (.inr (.inr (.inr (.inr (.inr (.inr (.inr (.inr h))))))))))
        clear N4 N3 ly9 l1f l1o l2o hcm F3
        (repeat' (first | (k_unfold; (try dsimp only)) | (k_end; wrow_close) | ((fail_if_success (with_reducible show wpAny _ _ (exec (Stmt.While _ _ _ _) _) _ _ _)); (fail_if_success (with_reducible show wpAny _ _ (exec (Stmt.If _ _ _ _) _) _ _ _)); (fail_if_success (with_reducible show wpAny _ _ (eval (Expr.Lambda _ _ _ _) _) _ _ _)); (fail_if_success (with_reducible show wpAny _ _ (call (Value.ref 182) _ _) _ _ _)); (fail_if_success (with_reducible show wpAny _ _ (call (Value.ref 227) _ _) _ _ _)); (fail_if_success (with_reducible show wpAny _ _ (call (Value.builtin "list.append") _ _) _ _ _)); (fail_if_success (with_reducible show wpAny _ _ (binaryOp Operator.Add (Value.ref _) (Value.ref _)) _ _ _)); (first | walk1 | (dsimp only; walk1))) | (leave1; walk_say "STEP leave1"; try dsimp only) | fail "no step"))
        rename News _ _ _ _ => lN
        rename Fr _ _ _ _ => lF
        rename _ < _ ∧ _ => lA
        rename_i Dt h8
        have hneD : Dt ≠ lk' := Nat.ne_of_gt lA.1
        have hDt3 : L' + 1 + 1 + 1 < Dt := lA.2.1
        have hne8 : ∀ p ∈ (L' + 1 + 1 + 1, os2) :: (L' + 1 + 1, o2) :: (L' + 1, o3) :: (P, tabObj (psOf (some c'))) :: (tl2 ++ news), p.1 ≠ lk' := by
          intro p hp
          simp only [List.mem_cons] at hp
          rcases hp with rfl | rfl | rfl | rfl | hp
          · exact Nat.ne_of_lt lkgt
          · exact Nat.ne_of_lt (Nat.lt_trans (Nat.lt_succ_self _) lkgt)
          · exact Nat.ne_of_lt (Nat.lt_trans (Nat.lt_of_lt_of_le (Nat.lt_succ_self _) (Nat.le_succ _)) lkgt)
          · exact Nat.ne_of_lt (Nat.lt_trans lP (Nat.lt_trans (Nat.lt_of_lt_of_le (Nat.lt_succ_self L') (Nat.le_add_right (L' + 1) 2)) lkgt))
          · rcases List.mem_append.mp hp with hp | hp
            · exact (gt2 p hp).2
            · exact Nat.ne_of_lt (Nat.lt_trans (lnw p hp) (Nat.lt_trans (Nat.lt_of_lt_of_le (Nat.lt_succ_self L') (Nat.le_add_right (L' + 1) 2)) lkgt))
        have hlt : t.length ≤ f := by simp at hlen; exact hlen
        have totl' : links.length + (lft.length + 1) ≤ t.length := by simpa using totl
        refine append_L (vs := vl) (n := kl) lF lN (Upd.tail hneD (Upd.head hne8)) (by omega) ?_
        clear lF lN
        intro h10 F10 N10
        (repeat' (first | (k_unfold; (try dsimp only)) | (k_end; wrow_close) | ((fail_if_success (with_reducible show wpAny _ _ (exec (Stmt.While _ _ _ _) _) _ _ _)); (fail_if_success (with_reducible show wpAny _ _ (exec (Stmt.If _ _ _ _) _) _ _ _)); (fail_if_success (with_reducible show wpAny _ _ (eval (Expr.Lambda _ _ _ _) _) _ _ _)); (fail_if_success (with_reducible show wpAny _ _ (call (Value.ref 182) _ _) _ _ _)); (fail_if_success (with_reducible show wpAny _ _ (call (Value.ref 227) _ _) _ _ _)); (fail_if_success (with_reducible show wpAny _ _ (call (Value.builtin "list.append") _ _) _ _ _)); (fail_if_success (with_reducible show wpAny _ _ (binaryOp Operator.Add (Value.ref _) (Value.ref _)) _ _ _)); (first | walk1 | (dsimp only; walk1))) | (leave1; walk_say "STEP leave1"; try dsimp only) | fail "no step"))
        rename Fr _ _ _ _ => lF
        have lfl : (lft.filter (fun p => decide (d h p = d h x))).length ≤ lft.length := List.length_filter_le _ _
        have N11 : News g' L' h10 ((P, tabObj (psOf (some c'))) :: (lk', W.listOf (vl ++ [Value.ref Dt]).toArray (kl + 1)) :: (L' + 1 + 1 + 1, os2) :: (L' + 1 + 1, o2) :: (L' + 1, o3) :: (Dt, ({ cls := .type "tuple", data := .seq #[.int (x : Int) txy, .int (h : Int) th, .int (d h x : Int) tj] } : Obj)) :: (tl2 ++ news)) := cb_drop N10 fun p hp => by
          simp only [List.mem_cons] at hp ⊢
          rcases hp with h | h | h | h | h | h | h
          · exact .inr (.inr (.inr (.inr (.inr (.inl h)))))
          · exact .inr (.inl h)
          · exact .inr (.inr (.inl h))
          · exact .inr (.inr (.inr (.inl h)))
          · exact .inr (.inr (.inr (.inr (.inl h))))
          · exact .inl h
          · exact .inr (.inr (.inr (.inr (.inr (.inr h)))))
        have mem9 : ∀ p ∈ tl2 ++ news, p ∈ (lk', W.listOf (vl ++ [Value.ref Dt]).toArray (kl + 1)) :: (L' + 1 + 1 + 1, os2) :: (L' + 1 + 1, o2) :: (L' + 1, o3) :: (Dt, ({ cls := .type "tuple", data := .seq #[.int (x : Int) txy, .int (h : Int) th, .int (d h x : Int) tj] } : Obj)) :: (tl2 ++ news) :=
          fun p hp => List.mem_cons_of_mem _ (List.mem_cons_of_mem _ (List.mem_cons_of_mem _ (List.mem_cons_of_mem _ (List.mem_cons_of_mem _ hp))))
        have pwx : (x :: lft.filter (fun p => decide (d h p = d h x))).Pairwise (· < ·) := by rw [← hfm]; exact pw.filter _
        k_dflt (refine' ih _ _ _ _ _ _ _ _ _ _ _ _ _ _ _ base _ _ _ ((lk', W.listOf (vl ++ [Value.ref Dt]).toArray (kl + 1)) :: (L' + 1 + 1 + 1, os2) :: (L' + 1 + 1, o2) :: (L' + 1, o3) :: (Dt, ({ cls := .type "tuple", data := .seq #[.int (x : Int) txy, .int (h : Int) th, .int (d h x : Int) tj] } : Obj)) :: (tl2 ++ news)) _ _ _ pl y9 P tr (Value.int (x : Int) txy :: vyt) ky x (lft.filter (fun p => decide (d h p = d h x))) (some c') (tl2 ++ X9) (hp9.mono fun p hp => mem9 p (List.mem_append_right _ hp)) (mem9 _ (List.mem_append_left _ my2)) hvy ?_ pwx ?_ ?_ hC code2 (fun p hp => mem9 p ((List.mem_append.mp hp).elim (List.mem_append_left _) fun q => List.mem_append_right _ (hX9 p q))) ?k1 lF ?k3 N11 ?k5 ?kK ?kd ?ku ?_; (case k1 => k_asm); (case k3 => k_asm); (case k5 => k_asm); (case kK => first | exact rfl | assumption); (case kd => ktr_room); (case ku => ktr_units))
        · simp only [List.length_cons] at flen ⊢; omega
        · intro q hq
          rcases List.mem_cons.mp hq with rfl | hq
          · exact hxn
          · exact (ltn q (List.mem_cons_of_mem _ (List.mem_filter.mp hq).1)).2
        · have lP3 : P < L' + 1 + 1 + 1 := Nat.lt_trans lP (Nat.lt_of_lt_of_le (Nat.lt_succ_self L') (Nat.le_add_right (L' + 1) 2))
          intro p hp
          simp only [List.mem_cons] at hp
          rcases hp with rfl | rfl | rfl | rfl | rfl | hp
          · exact Nat.ne_of_gt (Nat.lt_trans lP3 lkgt)
          · exact Nat.ne_of_gt lP3
          · exact Nat.ne_of_gt (Nat.lt_trans lP (Nat.lt_of_lt_of_le (Nat.lt_succ_self L') (Nat.le_add_right (L' + 1) 1)))
          · exact Nat.ne_of_gt (Nat.lt_trans lP (Nat.lt_succ_self L'))
          · exact Nat.ne_of_gt (Nat.lt_trans lP3 hDt3)
          · rcases List.mem_append.mp hp with hp | hp
            · exact Nat.ne_of_gt (Nat.lt_trans lP3 (gt2 p hp).1)
            · exact hneP p hp
        intro T3 lk3 wy3 L9 vl3 vw3 kl3 kw3 tl3 o3' h11 tk11 tup3 iw3 code3 hL9 lT3 llk3 lwy3 gt3 F11 N12
        clear N10 N11 lF
        have pOk := part_ok (d := d) (z := z) (r := r) f (x :: lft.filter (fun p => decide (d h p = d h x))) (by simp) (by simp only [List.length_cons] at flen ⊢; omega) (pwx.imp fun h => Nat.ne_of_lt h)
        generalize hR : part d z r f (x :: lft.filter (fun p => decide (d h p = d h x))) = R at tup3 iw3 pOk
        have lR1 : R.1.length = (lft.filter (fun p => decide (d h p = d h x))).length := by have := pOk.perm.length_eq; simpa using this
        have lR2 : R.2.length ≤ (lft.filter (fun p => decide (d h p = d h x))).length + 1 := by
          have := List.Nodup.length_le_of_subset pOk.nd (l₂ := x :: lft.filter (fun p => decide (d h p = d h x))) fun q hq => ((pOk.way q).mp hq).mem
          simpa using this
        have lvl3 : vl3.length = R.1.length := tup3.length
        have lvw3 : vw3.length = R.2.length := by rw [iw3.length, nts, List.length_map]
        have l93 : L' + 1 + 1 + 1 < L9 := hL9 (L' + 1 + 1 + 1, os2) (List.mem_cons_of_mem _ (List.mem_cons_of_mem _ List.mem_cons_self))
        obtain ⟨tl4, etl4⟩ : ∃ t4 : List (Addr × Obj), t4 = (T3, ({ cls := .type "tuple", data := .seq #[.ref lk3, .ref wy3] } : Obj)) :: (lk3, W.listOf vl3.toArray kl3) :: (wy3, W.listOf vw3.toArray kw3) :: (lk', W.listOf (vl ++ [Value.ref Dt]).toArray (kl + 1)) :: (Dt, ({ cls := .type "tuple", data := .seq #[.int (x : Int) txy, .int (h : Int) th, .int (d h x : Int) tj] } : Obj)) :: (tl3 ++ tl2) := ⟨_, rfl⟩
        have m4T : (T3, ({ cls := .type "tuple", data := .seq #[.ref lk3, .ref wy3] } : Obj)) ∈ tl4 := by rw [etl4]; exact List.mem_cons_self
        have m4l : (lk3, W.listOf vl3.toArray kl3) ∈ tl4 := by rw [etl4]; exact List.mem_cons_of_mem _ List.mem_cons_self
        have m4w : (wy3, W.listOf vw3.toArray kw3) ∈ tl4 := by rw [etl4]; exact List.mem_cons_of_mem _ (List.mem_cons_of_mem _ List.mem_cons_self)
        have m4k : (lk', W.listOf (vl ++ [Value.ref Dt]).toArray (kl + 1)) ∈ tl4 := by rw [etl4]; exact List.mem_cons_of_mem _ (List.mem_cons_of_mem _ (List.mem_cons_of_mem _ List.mem_cons_self))
        have m4D : (Dt, ({ cls := .type "tuple", data := .seq #[.int (x : Int) txy, .int (h : Int) th, .int (d h x : Int) tj] } : Obj)) ∈ tl4 := by rw [etl4]; exact List.mem_cons_of_mem _ (List.mem_cons_of_mem _ (List.mem_cons_of_mem _ (List.mem_cons_of_mem _ List.mem_cons_self)))
        have s43 : ∀ p ∈ tl3, p ∈ tl4 := fun p hp => by rw [etl4]; exact List.mem_cons_of_mem _ (List.mem_cons_of_mem _ (List.mem_cons_of_mem _ (List.mem_cons_of_mem _ (List.mem_cons_of_mem _ (List.mem_append_left _ hp)))))
        have s42 : ∀ p ∈ tl2, p ∈ tl4 := fun p hp => by rw [etl4]; exact List.mem_cons_of_mem _ (List.mem_cons_of_mem _ (List.mem_cons_of_mem _ (List.mem_cons_of_mem _ (List.mem_cons_of_mem _ (List.mem_append_right _ hp)))))
        have mn4 := s42 _ mn2
        have mw4 := s42 _ (stl2 _ mway)
        have gt4 : ∀ p ∈ tl4, L' + 1 + 1 + 1 < p.1 := by
          intro p hp
          rw [etl4] at hp
          simp only [List.mem_cons] at hp
          rcases hp with rfl | rfl | rfl | rfl | rfl | hp
          · exact Nat.lt_trans l93 lT3
          · exact Nat.lt_trans l93 llk3
          · exact Nat.lt_trans l93 lwy3
          · exact lkgt
          · exact hDt3
          · rcases List.mem_append.mp hp with hp | hp
            · exact Nat.lt_trans l93 (gt3 p hp)
            · exact (gt2 p hp).1
        have code4 : CodeOk (tl4 ++ X9) o3' := code3.mono fun p hp => by
          rcases List.mem_append.mp hp with hp | hp
          · exact List.mem_append_left _ (s43 p hp)
          · rcases List.mem_append.mp hp with hp | hp
            · exact List.mem_append_left _ (s42 p hp)
            · exact List.mem_append_right _ hp
        have tup4 : Tup3In tl4 ((vl ++ [Value.ref Dt]) ++ vl3) ((links ++ [(x, h, d h x)]) ++ R.1) :=
          Tup3In.append (Tup3In.append (tup.mono fun p hp => s42 p (stl2 p hp)) ⟨⟨Dt, txy, th, tj, 0, rfl, m4D⟩, trivial⟩) (tup3.mono s43)
        have N13 : News g' L' h11 ((L' + 1 + 1 + 1, os2) :: (L' + 1 + 1, o2) :: (L' + 1, o3) :: (P, tabObj (psOf o3')) :: (tl4 ++ news)) := cb_drop N12 fun p hp => by
          rw [etl4] at hp
          simp only [List.mem_cons, List.cons_append, List.mem_append, List.append_assoc] at hp ⊢
          rcases hp with h | h | h | h | h | h | h | h | h | h | h | h
          · exact .inr (.inr (.inr (.inr (.inr (.inr (.inl h))))))
          · exact .inr (.inr (.inr (.inr (.inr (.inr (.inr (.inl h)))))))
          · exact .inr (.inr (.inr (.inr (.inr (.inr (.inr (.inr (.inl h))))))))
          · exact .inl h
          · exact .inr (.inl h)
          · exact .inr (.inr (.inl h))
          · exact .inr (.inr (.inr (.inl h)))
          · exact .inr (.inr (.inr (.inr (.inr (.inl h)))))
          · exact .inr (.inr (.inr (.inr (.inr (.inr (.inr (.inr (.inr (.inl h)))))))))
          · exact .inr (.inr (.inr (.inr (.inl h))))
          · exact .inr (.inr (.inr (.inr (.inr (.inr (.inr (.inr (.inr (.inr (.inl h))))))))))
          · exact .inr (.inr (.inr (.inr (.inr (.inr (.inr (.inr (.inr (.inr (.inr h))))))))))
        clear N12
        (repeat' (first | (k_unfold; (try dsimp only)) | (k_end; wrow_close) | ((fail_if_success (with_reducible show wpAny _ _ (exec (Stmt.While _ _ _ _) _) _ _ _)); (fail_if_success (with_reducible show wpAny _ _ (exec (Stmt.If _ _ _ _) _) _ _ _)); (fail_if_success (with_reducible show wpAny _ _ (eval (Expr.Lambda _ _ _ _) _) _ _ _)); (fail_if_success (with_reducible show wpAny _ _ (call (Value.ref 182) _ _) _ _ _)); (fail_if_success (with_reducible show wpAny _ _ (call (Value.ref 227) _ _) _ _ _)); (fail_if_success (with_reducible show wpAny _ _ (call (Value.builtin "list.append") _ _) _ _ _)); (fail_if_success (with_reducible show wpAny _ _ (binaryOp Operator.Add (Value.ref _) (Value.ref _)) _ _ _)); (first | walk1 | (dsimp only; walk1))) | (leave1; walk_say "STEP leave1"; try dsimp only) | fail "no step"))
        rename News _ _ _ _ => lN
        rename Fr _ _ _ _ => lF
        refine add_L (vs := vl ++ [Value.ref Dt]) (ws := vl3) lF lN (List.mem_cons_of_mem _ (List.mem_cons_of_mem _ (List.mem_cons_of_mem _ (List.mem_cons_of_mem _ (List.mem_append_left _ m4k))))) (List.mem_cons_of_mem _ (List.mem_cons_of_mem _ (List.mem_cons_of_mem _ (List.mem_cons_of_mem _ (List.mem_append_left _ m4l))))) (by simp only [List.length_append, List.length_singleton]; omega) ?_
        clear lF lN
        intro D5 h13 fr5 F13 N14
        have hD53 : L' + 1 + 1 + 1 < D5 := fr5 (L' + 1 + 1 + 1, os2) List.mem_cons_self
        have g45 : ∀ p ∈ tl4, L' + 1 + 1 + 1 < p.1 ∧ p.1 ≠ D5 := fun p hp => ⟨gt4 p hp, Nat.ne_of_lt (fr5 p (List.mem_cons_of_mem _ (List.mem_cons_of_mem _ (List.mem_cons_of_mem _ (List.mem_cons_of_mem _ (List.mem_append_left _ hp))))))⟩
        (repeat' (first | (k_unfold; (try dsimp only)) | (k_end; wrow_close) | ((fail_if_success (with_reducible show wpAny _ _ (exec (Stmt.While _ _ _ _) _) _ _ _)); (fail_if_success (with_reducible show wpAny _ _ (exec (Stmt.If _ _ _ _) _) _ _ _)); (fail_if_success (with_reducible show wpAny _ _ (eval (Expr.Lambda _ _ _ _) _) _ _ _)); (fail_if_success (with_reducible show wpAny _ _ (call (Value.ref 182) _ _) _ _ _)); (fail_if_success (with_reducible show wpAny _ _ (call (Value.ref 227) _ _) _ _ _)); (fail_if_success (with_reducible show wpAny _ _ (call (Value.builtin "list.append") _ _) _ _ _)); (fail_if_success (with_reducible show wpAny _ _ (binaryOp Operator.Add (Value.ref _) (Value.ref _)) _ _ _)); (first | walk1 | (dsimp only; walk1))) | (leave1; walk_say "STEP leave1"; try dsimp only) | fail "no step"))
        rename News _ _ _ _ => lN
        rename Fr _ _ _ _ => lF
        have hcond : (if (z h : Int) - (d h x : Int) < 0 then -((z h : Int) - (d h x : Int)) else (z h : Int) - (d h x : Int)) ≤ (r : Int) ↔ nearB r (z h) (d h x) = true := by
          simp only [nearB, decide_eq_true_eq]; split <;> omega
        have hfn : (x :: lft).filter (fun q => !decide (d h q = d h x)) = lft.filter (fun q => !decide (d h q = d h x)) := by simp
        have lfp : (lft.filter (fun p => decide (d h p = d h x))).length + (lft.filter (fun q => !decide (d h q = d h x))).length = lft.length := by
          have := (filter_perm (l := lft) (p := fun p => decide (d h p = d h x))).length_eq
          rw [List.length_append] at this; exact this
        have glen' : lft.length + 1 ≤ g := by simpa using glen
        have flen' : lft.length + 1 ≤ f := by simpa using flen
        have totw' : way.length + (lft.length + 1) ≤ t.length + 1 := by simpa using totw
        refine' cut (σ := Addr × List Value × Nat × List (Addr × Obj)) lF
          (fun c => (D5, W.listOf ((vl ++ [Value.ref Dt]) ++ vl3).toArray 0) :: (L' + 1 + 1 + 1, os2) :: (L' + 1 + 1, o2) :: (L' + 1, o3) :: (P, tabObj (psOf o3')) :: (c.2.2.2 ++ news))
          (fun c => [(Str.ofString "reach", .int r tr), (Str.ofString "left", .ref n9), (Str.ofString "links", .ref D5), (Str.ofString "way", .ref c.1)])
          (fun c => IntsAre c.2.1 (nts (if nearB r (z h) (d h x) = true then way ++ R.2 else way)) ∧ (c.1, W.listOf c.2.1.toArray c.2.2.1) ∈ c.2.2.2 ∧ (∀ p ∈ tl4, p ∈ c.2.2.2) ∧ ∀ p ∈ c.2.2.2, L' + 1 + 1 + 1 < p.1 ∧ p.1 ≠ D5) ?_ ?_
        · intro Rq hRn hRv
          walk1
          repeat' (first
            | ((fail_if_success (with_reducible show wpAny _ _ (execs _ _) _ _ _)); (fail_if_success (with_reducible show ite _ _ _)); walk1)
            | ((fail_if_success (with_reducible show wpAny _ _ (execs _ _) _ _ _)); (fail_if_success (with_reducible show ite _ _ _)); dsimp only; walk1))
          by_cases hnear : nearB r (z h) (d h x) = true
          · rw [if_pos (by rw [decide_eq_true_eq]; exact hcond.mpr hnear)]
            (repeat' (first | (k_unfold; (try dsimp only)) | (k_end; wrow_close) | ((fail_if_success (with_reducible show wpAny _ _ (exec (Stmt.While _ _ _ _) _) _ _ _)); (fail_if_success (with_reducible show wpAny _ _ (exec (Stmt.If _ _ _ _) _) _ _ _)); (fail_if_success (with_reducible show wpAny _ _ (eval (Expr.Lambda _ _ _ _) _) _ _ _)); (fail_if_success (with_reducible show wpAny _ _ (call (Value.ref 182) _ _) _ _ _)); (fail_if_success (with_reducible show wpAny _ _ (call (Value.ref 227) _ _) _ _ _)); (fail_if_success (with_reducible show wpAny _ _ (call (Value.builtin "list.append") _ _) _ _ _)); (fail_if_success (with_reducible show wpAny _ _ (binaryOp Operator.Add (Value.ref _) (Value.ref _)) _ _ _)); (first | walk1 | (dsimp only; walk1))) | (leave1; walk_say "STEP leave1"; try dsimp only) | fail "no step"))
            rename News _ _ _ _ => lN
            rename Fr _ _ _ _ => lF
            refine add_L (vs := vw) (ws := vw3) lF lN (List.mem_cons_of_mem _ (List.mem_cons_of_mem _ (List.mem_cons_of_mem _ (List.mem_cons_of_mem _ (List.mem_cons_of_mem _ (List.mem_append_left _ mw4)))))) (List.mem_cons_of_mem _ (List.mem_cons_of_mem _ (List.mem_cons_of_mem _ (List.mem_cons_of_mem _ (List.mem_cons_of_mem _ (List.mem_append_left _ m4w)))))) (by omega) ?_
            clear lF lN
            intro D6 h15 fr6 F15 N15
            have hD63 : D5 < D6 := fr6 (D5, _) List.mem_cons_self
            (repeat' (first | (k_unfold; (try dsimp only)) | (k_end; wrow_close) | ((fail_if_success (with_reducible show wpAny _ _ (exec (Stmt.While _ _ _ _) _) _ _ _)); (fail_if_success (with_reducible show wpAny _ _ (exec (Stmt.If _ _ _ _) _) _ _ _)); (fail_if_success (with_reducible show wpAny _ _ (eval (Expr.Lambda _ _ _ _) _) _ _ _)); (fail_if_success (with_reducible show wpAny _ _ (call (Value.ref 182) _ _) _ _ _)); (fail_if_success (with_reducible show wpAny _ _ (call (Value.ref 227) _ _) _ _ _)); (fail_if_success (with_reducible show wpAny _ _ (call (Value.builtin "list.append") _ _) _ _ _)); (fail_if_success (with_reducible show wpAny _ _ (binaryOp Operator.Add (Value.ref _) (Value.ref _)) _ _ _)); (first | walk1 | (dsimp only; walk1))) | (leave1; walk_say "STEP leave1"; try dsimp only) | fail "no step"))
            rename News _ _ _ _ => lN
            first | refine (hRn _ ?_).1 | refine hRn _ ?_ | refine (hRs _ ?_).2 | refine (hRs _ ?_).1
            refine AtSt.intro (D6, vw ++ vw3, 0, (D6, W.listOf (vw ++ vw3).toArray 0) :: tl4) (by assumption) lN ?_ (by kst_all) ⟨?_, List.mem_cons_self, fun _ h => List.mem_cons_of_mem _ h, ?_⟩
            · intro p hp
              simp only [List.mem_cons, List.cons_append] at hp ⊢
              rcases hp with h | h | h | h | h | h | h
              · exact .inr (.inl h)
              · exact .inr (.inr (.inl h))
              · exact .inr (.inr (.inr (.inl h)))
              · exact .inr (.inr (.inr (.inr (.inl h))))
              · exact .inr (.inr (.inr (.inr (.inr (.inl h)))))
              · exact .inl h
              · exact .inr (.inr (.inr (.inr (.inr (.inr h)))))
            · dsimp only
              rw [if_pos hnear, nts, List.map_append]
              exact iway.append iw3
            · intro p hp
              rcases List.mem_cons.mp hp with rfl | hp
              · exact ⟨Nat.lt_trans hD53 hD63, Nat.ne_of_gt hD63⟩
              · exact g45 p hp
          · rw [if_neg (by rw [decide_eq_true_eq]; exact fun q => hnear (hcond.mp q))]
            (repeat' (first | (k_unfold; (try dsimp only)) | (k_end; wrow_close) | ((fail_if_success (with_reducible show wpAny _ _ (exec (Stmt.While _ _ _ _) _) _ _ _)); (fail_if_success (with_reducible show wpAny _ _ (exec (Stmt.If _ _ _ _) _) _ _ _)); (fail_if_success (with_reducible show wpAny _ _ (eval (Expr.Lambda _ _ _ _) _) _ _ _)); (fail_if_success (with_reducible show wpAny _ _ (call (Value.ref 182) _ _) _ _ _)); (fail_if_success (with_reducible show wpAny _ _ (call (Value.ref 227) _ _) _ _ _)); (fail_if_success (with_reducible show wpAny _ _ (call (Value.builtin "list.append") _ _) _ _ _)); (fail_if_success (with_reducible show wpAny _ _ (binaryOp Operator.Add (Value.ref _) (Value.ref _)) _ _ _)); (first | walk1 | (dsimp only; walk1))) | (leave1; walk_say "STEP leave1"; try dsimp only) | fail "no step"))
            first | refine (hRn _ ?_).1 | refine hRn _ ?_ | refine (hRs _ ?_).2 | refine (hRs _ ?_).1
            refine AtSt.intro (wy', vw, kw, tl4) (by assumption) lN (fun _ h => h) (by kst_all) ⟨?_, mw4, fun _ h => h, g45⟩
            rw [if_neg hnear]; exact iway
        clear lF lN
        intro c u h14 tk14 hQ Fc' Nc'
        obtain ⟨wy5, vw5, kw5, tl5⟩ := c
        dsimp only at hQ Fc' Nc' ⊢
        obtain ⟨hQ1, hQ2, hQ3, hQ4⟩ := hQ
        (repeat' (first | (k_unfold; (try dsimp only)) | (k_end; wrow_close) | ((fail_if_success (with_reducible show wpAny _ _ (exec (Stmt.While _ _ _ _) _) _ _ _)); (fail_if_success (with_reducible show wpAny _ _ (exec (Stmt.If _ _ _ _) _) _ _ _)); (fail_if_success (with_reducible show wpAny _ _ (eval (Expr.Lambda _ _ _ _) _) _ _ _)); (fail_if_success (with_reducible show wpAny _ _ (call (Value.ref 182) _ _) _ _ _)); (fail_if_success (with_reducible show wpAny _ _ (call (Value.ref 227) _ _) _ _ _)); (fail_if_success (with_reducible show wpAny _ _ (call (Value.builtin "list.append") _ _) _ _ _)); (fail_if_success (with_reducible show wpAny _ _ (binaryOp Operator.Add (Value.ref _) (Value.ref _)) _ _ _)); (first | walk1 | (dsimp only; walk1))) | (leave1; walk_say "STEP leave1"; try dsimp only) | fail "no step"))
        have gg : g = (g - 1) + 1 := by omega
        first | refine (hRn _ ?_).1 | refine hRn _ ?_ | refine (hRs _ ?_).2 | refine (hRs _ ?_).1
        refine AtSt.intro (⟨lft.filter (fun q => !decide (d h q = d h x)), (links ++ [(x, h, d h x)]) ++ R.1, (if nearB r (z h) (d h x) = true then way ++ R.2 else way), g - 1, o3', os2, n9, vn, kn, D5, (vl ++ [Value.ref Dt]) ++ vl3, 0, wy5, vw5, kw5, tl5⟩ : PSt) (by assumption) (by assumption) (fun _ h => h) (by kst_all) ⟨⟨?_, ?_, ?_, ?_, ?_, ⟨_, dS2⟩, tup4.mono hQ3, ?_, hQ3 _ mn4, hQ1, hQ2, fun p hp => (hQ4 p hp).1, fun p hp => (hQ4 p hp).2, hD53, ?_, ?_, ?_⟩, ?_⟩
        · dsimp only
          rw [← fin]
          conv => rhs; rw [gg, loopP, hfm, hfn, hR]
        · dsimp only; omega
        · dsimp only; omega
        · dsimp only
          rw [← hfn]; exact pw.filter _
        · intro q hq
          exact ltn q (List.mem_cons_of_mem _ (List.mem_filter.mp hq).1)
        · dsimp only
          rw [← hfn]; exact hvn
        · exact code4.mono fun p hp => (List.mem_append.mp hp).elim (fun q => List.mem_append_left _ (hQ3 p q)) (List.mem_append_right _)
        · dsimp only
          simp only [List.length_append, List.length_singleton]; omega
        · dsimp only
          split
          · simp only [List.length_append]; omega
          · omega
        · dsimp only
          simp only [List.length_cons]; omega
    · intro c u h9 tk hP Fc Nc
      obtain ⟨left, links, way, g, o', os, lf, vlf, klf, lk', vl, kl, wy', vw, kw, tl⟩ := c
      dsimp only at hP Fc Nc ⊢
      obtain ⟨⟨fin, glen, flen, pw, ltn, ⟨vstep, dstep⟩, tup, ileft, mleft, iway, mway, tlgt, tlne, lkgt, code, totl, totw⟩, hle⟩ := hP
      dsimp only at fin glen flen pw ltn dstep tup ileft mleft iway mway tlgt tlne lkgt code totl totw
      subst hle
      (repeat' (first | (k_unfold; (try dsimp only)) | (k_end; wrow_close) | ((fail_if_success (with_reducible show wpAny _ _ (exec (Stmt.While _ _ _ _) _) _ _ _)); (fail_if_success (with_reducible show wpAny _ _ (exec (Stmt.If _ _ _ _) _) _ _ _)); (fail_if_success (with_reducible show wpAny _ _ (eval (Expr.Lambda _ _ _ _) _) _ _ _)); (fail_if_success (with_reducible show wpAny _ _ (call (Value.ref 182) _ _) _ _ _)); (fail_if_success (with_reducible show wpAny _ _ (call (Value.ref 227) _ _) _ _ _)); (fail_if_success (with_reducible show wpAny _ _ (call (Value.builtin "list.append") _ _) _ _ _)); (fail_if_success (with_reducible show wpAny _ _ (binaryOp Operator.Add (Value.ref _) (Value.ref _)) _ _ _)); (first | walk1 | (dsimp only; walk1))) | (leave1; walk_say "STEP leave1"; try dsimp only) | fail "no step"))
      rename Fr h₀ _ _ _ => lF
      rename News h₀ _ _ _ => lN
      rename _ < _ ∧ _ => lA
      have efin : part d z r (f + 1) (h :: t) = (links, way) := by
        rw [← fin]; cases g <;> simp [loopP]
      rw [efin] at hret
      have l3 : L' < L' + 1 + 1 + 1 := Nat.lt_of_lt_of_le (Nat.lt_succ_self L') (Nat.le_add_right (L' + 1) 2)
      refine hret _ lk' wy' L' vl vw kl kw tl o' _ _ tup iway code l1 (Nat.lt_trans l3 lA.2.1) (Nat.lt_trans l3 lkgt) (Nat.lt_trans l3 (tlgt _ mway)) (fun p hp => Nat.lt_trans l3 (tlgt p hp)) lF (cb_drop lN fun p hp => ?_)
      simp only [List.mem_cons] at hp ⊢
      rcases hp with h | h | h | h | h
      · exact .inr (.inr (.inr (.inr (.inr (.inl h)))))
      · exact .inl h
      · exact .inr (.inl h)
      · subst h; exact .inr (.inr (.inr (.inr (.inr (.inr (List.mem_append_left _ mway))))))
      · exact .inr (.inr (.inr (.inr (.inr (.inr h)))))
end
end
section
theorem calmItems : True := by
  w_top off
  trivial
local macro_rules | `(tactic| walk_at "unused 0") => `(tactic| skip)
local macro_rules | `(tactic| k_all) => `(tactic| assumption)
local macro_rules | `(tactic| k_mem) => `(tactic| (first | assumption | (refine List.mem_cons_of_mem _ ?_; k_mem) | (refine List.mem_append_left _ ?_; k_mem) | (refine List.mem_append_right _ ?_; k_mem)))
local macro_rules | `(tactic| k_mem) => `(tactic| (first | with_reducible assumption | exact List.Mem.head _ | (with_reducible refine List.mem_cons_of_mem _ ?_; k_mem) | (with_reducible refine List.mem_append_left _ ?_; k_mem) | (with_reducible refine List.mem_append_right _ ?_; k_mem)))
local macro_rules | `(tactic| walk_at "call builtin:len") => `(tactic| (k_here; (with_reducible show wpAny _ _ (call (Value.builtin "len") [Value.ref _]) _ _ _); k_dflt (refine' len_led ?k1 ?k2 ?k3 ?_; (case k1 => k_asm); (case k2 => k_mem); (case k3 => omega))))
theorem pick_all (l : List Value) : kms_pick l none none = l := by
  unfold kms_pick kms_lo kms_hi
  simp
section
variable {w : World} {p : Program} {loose : List Str} {mean : ExcName → Option Value} {mg mb : Str → Option Value}
   {dp un : Nat} {gd : Option (List Code)} {cn : Str} {cs : Scope} {a : Addr} {ccd : Value} {cl : List (Str × Addr)} {outer : List Env} {A₀ : Around} {base h₀ : Heap} {L : Addr} {m : Str → Option Value} {news : List (Addr × Obj)} {s : Shared} {Q E : Value → Shared → Prop}
theorem count_call {x dx lh : Addr} {hsh : Int} {tkh : Tok} {kk e' : Nat} {ts : List Value}
   (hx : (x, instObj 171 dx) ∈ news) (hdx : (dx, W.dictOf [⟨hsh, .str (Str.ofString "_headers") tkh, .ref lh⟩] kk) ∈ news) (hlh : (lh, W.listOf ts.toArray e') ∈ news) (hsz : ts.length < 1000)
   (B : Below A₀ base outer h₀) (F : Fr h₀ L s.heap m) (X : (hd.heap_39 w.params).In h₀) (N : News h₀ L s.heap news) (T : Top p loose mean mg mb h₀) (hk : cs.kind = .function)
   (hd : dp + 60 < recursionLimit) (hu : un + 300 < cLine)
   (hret : ∀ t h' tk', Fr h₀ L h' m → News h₀ L h' news → Q (.int (ts.length : Int) t) { s with heap := h', toks := tk' }) :
      wpAny (model PySem.Challenge.rw_pe0242_01.prog w) (ktrTop dp un gd cn cs L a ccd cl outer) (call (.ref 77) [.ref x]) Q E s := by
  refine wpAny_call ?_
  k_dflt cell_enter
  (repeat' (first | (k_unfold; (try dsimp only)) | (k_end; wrow_close) | ((fail_if_success (with_reducible show wpAny _ _ (exec (Stmt.While _ _ _ _) _) _ _ _)); (fail_if_success (with_reducible show wpAny _ _ (exec (Stmt.For _ _ _ _ _) _) _ _ _)); (first | walk1 | (dsimp only; walk1))) | (leave1; walk_say "STEP leave1"; try dsimp only) | fail "no step"))
  exact hret _ _ _ (by assumption) (by assumption)
theorem items_call {x dx lh : Addr} {hsh : Int} {tkh : Tok} {kk e' : Nat} {ts : List Value}
   (hx : (x, instObj 171 dx) ∈ news) (hdx : (dx, W.dictOf [⟨hsh, .str (Str.ofString "_headers") tkh, .ref lh⟩] kk) ∈ news) (hlh : (lh, W.listOf ts.toArray e') ∈ news) (hsz : ts.length < 1000)
   (B : Below A₀ base outer h₀) (F : Fr h₀ L s.heap m) (X : (hd.heap_39 w.params).In h₀) (N : News h₀ L s.heap news) (T : Top p loose mean mg mb h₀) (hk : cs.kind = .function)
   (hd : dp + 60 < recursionLimit) (hu : un + 300 < cLine)
   (hret : ∀ D k h' tk', (∀ p ∈ news, p.1 < D) → Fr h₀ L h' m → News h₀ L h' ((D, W.listOf ts.toArray k) :: news) → Q (.ref D) { s with heap := h', toks := tk' }) :
      wpAny (model PySem.Challenge.rw_pe0242_01.prog w) (ktrTop dp un gd cn cs L a ccd cl outer) (call (.ref 135) [.ref x]) Q E s := by
  refine wpAny_call ?_
  k_dflt cell_enter
  iterate 11 walk1
  k_dflt (refine kba_turn (value' := PySem.Expr.Name (PySem.Str.ofString "x") ⟨0, 0, 0, 0⟩) (fun _ => rfl) ?_)
  k_dflt (refine' kms_slice_lit (zs := ts) ?F ?N ?l ?q1 ?q2 ?e ?_ ?s1 ?t1 ?z1; (case F => k_asm); (case N => k_asm); (case l => exact News.isList (by assumption) (by k_mem)); (case q1 => kmk_part); (case q2 => kmk_part); (case e => exact pick_all ts); (case s1 => with_unfolding_all rfl); (case t1 => kmk_pure); (case z1 => (rw [List.size_toArray, sizeLine_eq]; omega)))
  intro D9 h9 F9 N9 l9
  (repeat' (first | (k_unfold; (try dsimp only)) | (k_end; wrow_close) | ((fail_if_success (with_reducible show wpAny _ _ (exec (Stmt.While _ _ _ _) _) _ _ _)); (fail_if_success (with_reducible show wpAny _ _ (exec (Stmt.For _ _ _ _ _) _) _ _ _)); (first | walk1 | (dsimp only; walk1))) | (leave1; walk_say "STEP leave1"; try dsimp only) | fail "no step"))
  exact hret _ _ _ _ l9 (by assumption) (by assumption)
end
end
end Mine
end
section
set_option maxRecDepth 100000
namespace Mine
open PySem PySem.W PyProof.Rows PySem.Calls PySem.Spec PyProof
theorem Tup3In.at {news : List (Addr × Obj)} : ∀ {vs : List Value} {es : List (Nat × Nat × Nat)}, Tup3In news vs es → ∀ i, i < es.length → ∃ a t1 t2 t3 n, vs.getD i Value.none = .ref a ∧ (a, ({ cls := .type "tuple", data := .seq #[.int ((es.getD i (0, 0, 0)).1 : Int) t1, .int ((es.getD i (0, 0, 0)).2.1 : Int) t2, .int ((es.getD i (0, 0, 0)).2.2 : Int) t3] n } : Obj)) ∈ news
  | [], [], _, i, hi => absurd hi (Nat.not_lt_zero i)
  | v :: vs, e :: es, h, 0, _ => by
    obtain ⟨⟨a, t1, t2, t3, n, e, hm⟩, _⟩ := h
    exact ⟨a, t1, t2, t3, n, e, hm⟩
  | v :: vs, e :: es, h, i + 1, hi => by
    obtain ⟨a, t1, t2, t3, n, e, hm⟩ := Tup3In.at h.2 i (by simpa using hi)
    exact ⟨a, t1, t2, t3, n, by simpa using e, by simpa using hm⟩
  | [], _ :: _, h, _, _ => h.elim
  | _ :: _, [], h, _, _ => h.elim
theorem Tup3In.pick {news : List (Addr × Obj)} {vs : List Value} {es : List (Nat × Nat × Nat)} (h : Tup3In news vs es) : ∀ (ids : List Nat), (∀ i ∈ ids, i < es.length) → Tup3In news (ids.map fun i => vs.getD i Value.none) (ids.map fun i => es.getD i (0, 0, 0))
  | [], _ => trivial
  | i :: ids, hi => by
    obtain ⟨a, t1, t2, t3, n, e, hm⟩ := h.at i (hi i (by simp))
    exact ⟨⟨a, t1, t2, t3, n, e, hm⟩, Tup3In.pick h ids fun j hj => hi j (by simp [hj])⟩
theorem map_getD_range {α : Type} (d : α) (l : List α) : (List.range l.length).map (fun i => l.getD i d) = l := by
  refine List.ext_getElem (by simp) fun i h1 h2 => ?_
  simp [h2]
theorem Tup3In.firsts {h : Heap} {h₀ : Heap} {L : Addr} {news : List (Addr × Obj)} (N : News h₀ L h news) : ∀ {vs : List Value} {es : List (Nat × Nat × Nat)}, Tup3In news vs es → ∃ fs, KatTups h vs fs ∧ fs.length = es.length ∧ ∀ v ∈ fs, ∃ q t, v = Value.int q t
  | [], [], _ => ⟨[], .nil, rfl, fun v hv => by cases hv⟩
  | v :: vs, e :: es, hh => by
    obtain ⟨⟨a, t1, t2, t3, n, e1, hm⟩, ht⟩ := hh
    obtain ⟨fs, k1, k2, k3⟩ := Tup3In.firsts N ht
    subst e1
    refine ⟨.int (e.1 : Int) t1 :: fs, KatTups.cons (N _ hm).1 rfl rfl rfl k1, by simp [k2], fun v hv => ?_⟩
    rcases List.mem_cons.mp hv with rfl | hv
    · exact ⟨_, _, rfl⟩
    · exact k3 v hv
  | [], _ :: _, h => h.elim
  | _ :: _, [], h => h.elim
section
variable {prog : Program} {w : World} {A : Around} {E : Value → Shared → Prop} {s : Shared} {h₀ : Heap} {L : Addr} {m : Str → Option Value} {news : List (Addr × Obj)} {Q : Value → Shared → Prop}
theorem sorted_tup3 {l : Addr} {vs : List Value} {kk : Nat} {es : List (Nat × Nat × Nat)} (F : Fr h₀ L s.heap m) (N : News h₀ L s.heap news) (hl : (l, W.listOf vs.toArray kk) ∈ news) (ht : Tup3In news vs es) (h2 : 2 ≤ es.length) (h64 : es.length < 64) (nd : (es.map (·.1)).Nodup)
    (h : ∀ D ws es' c h', es'.Perm es → es'.Pairwise (fun a b => a.1 < b.1) → Tup3In news ws es' → (∀ q ∈ news, q.1 < D) → Fr h₀ L h' m → News h₀ L h' ((D, W.listOf (List.toArray ws) c) :: news) → Q (.ref D) { s with heap := h' }) :
    wpAny (model prog w) A (call (.builtin "sorted") [.ref l]) Q E s := by
  have lvs := ht.length
  refine kat_sorted F N (News.isList N hl) (by omega) (by omega) fun D e1 h' F' N' hD => ?_
  have N2 : News h₀ L h' news := fun p hp => N' p (List.mem_cons_of_mem _ hp)
  obtain ⟨fs, k1, k2, k3⟩ := Tup3In.firsts N2 ht
  refine kat_kind (fs := fs) (T := .type "int") k1 (by omega) (fun v hv => ?_) (by decide) ?_
  · obtain ⟨q, t, rfl⟩ := k3 v hv
    exact Looks.now
  have hkey : KInj vs.length (fun i => (es.getD i (0, 0, 0)).1) := by
    intro i j hi hj e
    have hi' : i < (es.map (·.1)).length := by rw [List.length_map]; omega
    have hj' : j < (es.map (·.1)).length := by rw [List.length_map]; omega
    refine (List.getElem_inj (h₀ := hi') (h₁ := hj') nd).mp ?_
    rw [List.getElem_map, List.getElem_map]
    have a1 : es.getD i (0, 0, 0) = es[i]'(by omega) := by simp [show i < es.length by omega]
    have a2 : es.getD j (0, 0, 0) = es[j]'(by omega) := by simp [show j < es.length by omega]
    rw [← a1, ← a2]; exact e
  refine kW_wp (n := vs.length) (lt := ltK (fun i => (es.getD i (0, 0, 0)).1)) (fun i j C hi hj hij hC => ?_) (fun p hp => ?_) _ (kW_sort hkey (by omega))
  · obtain ⟨a, t1, t2, t3, n, e1, m1⟩ := ht.at i (by omega)
    obtain ⟨b, u1, u2, u3, n', e2, m2⟩ := ht.at j (by omega)
    unfold kas_ask
    rw [e1, e2]
    have hne : (es.getD i (0, 0, 0)).1 ≠ (es.getD j (0, 0, 0)).1 := fun e => hij (hkey i j hi hj e)
    refine kat_lt (N2 _ m1).1 rfl (N2 _ m2).1 rfl ?_
    refine kat_cons (wpAny_eqBool_int (kat_go (fun e => ?_) (fun e => ?_)))
    · have : ((es.getD i (0, 0, 0)).1 : Int) = ((es.getD j (0, 0, 0)).1 : Int) := by simpa using e
      exact absurd (Int.ofNat.inj this) hne
    · refine kat_no ?_
      show wpAny _ _ (oneLt' true _ _) _ _ _
      refine oneLt_int ?_
      have : decide (((es.getD i (0, 0, 0)).1 : Int) < ((es.getD j (0, 0, 0)).1 : Int)) = ltK (fun i => (es.getD i (0, 0, 0)).1) i j := by
        unfold ltK; rw [decide_eq_decide]; exact Int.ofNat_lt
      rw [this]; exact hC
  · obtain ⟨hp, ha⟩ := hp
    have hpr : p.toList.Perm (List.range es.length) := by
      have := Array.perm_iff_toList_perm.mp hp.perm
      rw [← lvs]; simpa using this
    have hids : ∀ i ∈ p.toList, i < es.length := fun i hi => by
      have := hpr.mem_iff.mp hi
      simpa using this
    refine KasFin.intro F' N' (UpdF.head fun q hq => Nat.ne_of_lt (hD q hq)) fun h'' c F'' N'' => ?_
    refine h D _ (p.toList.map fun i => es.getD i (0, 0, 0)) c h'' ?_ ?_ (ht.pick _ hids) hD F'' N''
    · have := hpr.map (fun i => es.getD i (0, 0, 0))
      rw [map_getD_range] at this
      exact this
    · rw [List.pairwise_map, List.pairwise_iff_getElem]
      intro i j hi hj hij
      have hi' : i < p.size := by simpa using hi
      have hj' : j < p.size := by simpa using hj
      have := ha i j hij (by rw [← hp.size]; exact hj')
      unfold Ko at this
      have b1 : p.getD i 0 = p.toList[i] := by simp [hi']
      have b2 : p.getD j 0 = p.toList[j] := by simp [hj']
      rw [b1, b2] at this
      exact this
end
end Mine
end
section
set_option maxRecDepth 100000
namespace Mine
open PySem PySem.W PyProof.Rows PySem.Calls PySem.Spec PyProof
section
variable {prog : Program} {w : World} {A : Around} {E : Value → Shared → Prop} {s : Shared} {h₀ : Heap} {L : Addr} {m : Str → Option Value} {env : Env}
/-- what is apart from the comprehension's own objects -/
def OffT (I C D : Addr) (l : List (Addr × Obj)) : Prop := ∀ p ∈ l, p.1 ≠ I ∧ p.1 ≠ C ∧ p.1 ≠ D
/-- behind an element -/
def TupEnd {σ : Type} (h₀ : Heap) (L : Addr) (m : Str → Option Value) (s₁ : Shared) (I C D : Addr) (oI oC oD : Obj) (Led : σ → List (Addr × Obj)) (P : σ → Value → Prop) (y : Value) (s₂ : Shared) : Prop :=
  ∃ (c : σ) (h' : Heap) (tk : Nat), s₂ = { s₁ with heap := h', toks := tk } ∧ Fr h₀ L h' m ∧ News h₀ L h' ((I, oI) :: (C, oC) :: (D, oD) :: Led c) ∧ OffT I C D (Led c) ∧ P c y
/-- the source of a comprehension that takes triples of ints apart -/
def TupSrc (σ : Type) (prog : Program) (w : World) (A : Around) (h₀ : Heap) (L : Addr) (m : Str → Option Value) (env : Env) (elt : PySem.Expr) (x₁ x₂ x₃ y : Str) (scope : Scope) (cl : List (Str × Addr)) (Q : Flow → Shared → Prop) (xv : Value) (s₁ : Shared) : Prop :=
  ∃ (Led : σ → List (Addr × Obj)) (P : Nat → List Value → σ → Prop) (es : List (Nat × Nat × Nat)) (c₀ : σ) (ax : Addr) (its : List Value) (k : Nat), xv = .ref ax ∧ A.handled = none ∧ Fr h₀ L s₁.heap m ∧ News h₀ L s₁.heap (Led c₀) ∧ (∀ c, (ax, W.listOf (List.toArray its) k) ∈ Led c) ∧ (∀ c, Tup3In (Led c) its es) ∧ es.length ≤ 100000 ∧ P 0 [] c₀ ∧
    (∀ (i : Nat) (c : σ) (ys : List Value) (t₁ t₂ t₃ : Tok) (I C D : Addr) (oI oC : Obj) (m₂ : Str → Option Value) (h : Heap) (tk : Nat) (E' : Value → Shared → Prop), i < es.length → P i ys c → LCg.NsObj oC m₂ →
      m₂ x₁ = some (.int ((es.getD i (0, 0, 0)).1 : Int) t₁) → m₂ x₂ = some (.int ((es.getD i (0, 0, 0)).2.1 : Int) t₂) → m₂ x₃ = some (.int ((es.getD i (0, 0, 0)).2.2 : Int) t₃) → Fr h₀ L h m →
      News h₀ L h ((I, oI) :: (C, oC) :: (D, LCg.lst ys) :: Led c) → OffT I C D (Led c) → I ≠ C → I ≠ D → C ≠ D →
      wpAny (model prog w) A (eval elt (compEnvC scope cl C env)) (TupEnd h₀ L m { s₁ with heap := h, toks := tk } I C D oI oC (LCg.lst ys) Led (fun c' y => P (i + 1) (ys ++ [y]) c')) E' { s₁ with heap := h, toks := tk }) ∧
    ∀ (c : σ) (ys : List Value) (D : Addr) (h : Heap) (tk : Nat), P es.length ys c → ys.length = es.length → Fr h₀ L h (fun z => if z = y then some (.ref D) else m z) → News h₀ L h ((D, LCg.lst ys) :: Led c) → (∀ p ∈ Led c, p.1 ≠ D) → Q .next { s₁ with heap := h, toks := tk }
/-- NAME = [.. for a, b, c in a list of triples] -/
theorem assign_comp3 (σ : Type) {elt iter : PySem.Expr} {x₁ x₂ x₃ y : Str} {p₁ p₂ p₃ tp py : Pos} {tkk} {scope : Scope} {cl : List (Str × Addr)} {pos spos : Pos} {Q : Flow → Shared → Prop}
    (_F₀ : Fr h₀ L s.heap m) (hLe : env.locals = L)
    (hsw : swapsWith (.ListComp elt [⟨.Tuple [.Name x₁ p₁, .Name x₂ p₂, .Name x₃ p₃] tkk tp, iter, [], 0⟩] scope pos) (some (.Name y py)) spos.line env = pure true)
    (hclos : closureFor scope env = pure cl) (hcell : ∀ z ∈ scope.names, z.2 ≠ .cell) (hkind : scope.kind = .function)
    (hnames : ∀ z ∈ scope.names, z.2 = .local → scope.names.lookup z.1 = some .local) (hx₁ : scope.names.lookup x₁ = some .local) (hx₂ : scope.names.lookup x₂ = some .local) (hx₃ : scope.names.lookup x₃ = some .local)
    (h12 : x₁ ≠ x₂) (h13 : x₁ ≠ x₃) (h23 : x₂ ≠ x₃)
    (hy : env.kindOf y = some .local) (hp : (env.scope.kind == .class || (env.scope.kind == .module && env.locals != env.globals)) = false)
    (h : wpAny (model prog w) A (eval iter env) (TupSrc σ prog w A h₀ L m env elt x₁ x₂ x₃ y scope cl Q) E s)
    (hs : ∀ x, foldedSetIterable iter env x = pure x := by intro _; rfl) :
    wpAny (model prog w) A (exec (.Assign [.Name y py] (.ListComp elt [⟨.Tuple [.Name x₁ p₁, .Name x₂ p₂, .Name x₃ p₃] tkk tp, iter, [], 0⟩] scope pos) spos) env) Q E s := by
  subst hLe
  rw [exec_Assign_Name_used _ _ _ _ hsw]
  refine wpAny_bind (wpAny_standAt (wpAny_bind ?_))
  show wpAny _ A (do let _ ← comprehension (.ListComp elt [⟨.Tuple [.Name x₁ p₁, .Name x₂ p₂, .Name x₃ p₃] tkk tp, iter, [], 0⟩] scope pos) scope env _ (newList []) false (eval iter env) (some (assign (.Name y py) env))) _ _ s
  refine wpAny_bind (wpAny_mono (wpAny_comprehension_free (use := some (assign (.Name y py) env)) (Q := fun _ s' => Q .next s') rfl hs hclos hkind hnames
    (wpAny_mono h (fun xv s₁ h₁ => ?_) fun _ _ e => e)) (fun _ s' hq => wpAny_pure (wpAny_pure hq)) fun _ _ e => e)
  obtain ⟨Led, P, es, c₀, ax, its, kx, rfl, hh, F, N, hax, htup, hn, hp0, turn, done⟩ := h₁
  have hlen := (htup c₀).length
  have hl : s₁.heap.IsList ax its.toArray := News.isList N (hax c₀)
  have hlt : ax < s₁.heap.objs.size := Heap.lt_size (N _ (hax c₀)).1
  refine wpAny_pyIter_list hl ?_
  generalize hI : s₁.heap.objs.size = I
  generalize hH1 : (s₁.heap.push { cls := .type "list_iterator", data := .fields #[.ref ax, .int 0 0] }) = H1
  have z1 : H1.objs.size = I + 1 := by rw [← hH1, Heap.size_push, hI]
  have W := Walks.list (prog := prog) (w := w) (A := A) hh I ax (by rw [← hI]; exact Nat.ne_of_lt hlt) its.toArray
  refine wpAny_newObj_type (wpAny_newFunctionEnv hcell (by intro y hy; simp at hy) (fun h₁ hns₁ hsb₁ => ?_) hkind)
  dsimp only at hns₁ hsb₁ ⊢
  generalize hH2 : H1.push { cls := .type "list", dict := none, data := .seq ([] : List Value).toArray } = H2 at hns₁ hsb₁ ⊢
  have z2 : H2.objs.size = I + 1 + 1 := by rw [← hH2, Heap.size_push, z1]
  rw [z2] at hns₁ hsb₁ ⊢
  rw [z1]
  have ltI : ∀ b o, s₁.heap.get? b = some o → b < I := fun b o e => hI ▸ Heap.lt_size e
  have i1 : I < I + 1 := Nat.lt_succ_self _
  have i2 : I < I + 1 + 1 := Nat.lt_of_lt_of_le i1 (Nat.le_succ _)
  have dIC : I ≠ I + 1 + 1 := Nat.ne_of_lt i2
  have dID : I ≠ I + 1 := Nat.ne_of_lt i1
  have dCD : I + 1 + 1 ≠ I + 1 := Nat.ne_of_gt (Nat.lt_succ_self _)
  have old : ∀ b o, s₁.heap.get? b = some o → h₁.get? b = some o := fun b o e => hsb₁.extBut b o (Nat.ne_of_lt (Nat.lt_trans (ltI b o e) i2)) (Heap.get?_push_of_some _ (hH2 ▸ Heap.get?_push_of_some _ (hH1 ▸ Heap.get?_push_of_some _ e)))
  have gI : h₁.get? I = some { cls := .type "list_iterator", data := .fields #[.ref ax, .int 0 0] } :=
    hsb₁.extBut _ _ dIC (Heap.get?_push_of_some _ (hH2 ▸ Heap.get?_push_of_some _ (by rw [← hH1, ← hI]; exact Heap.get?_push_size _ rfl)))
  have gD : h₁.get? (I + 1) = some (LCg.lst []) := hsb₁.extBut _ _ dCD.symm (Heap.get?_push_of_some _ (by rw [← hH2, ← z1]; exact Heap.get?_push_size _ rfl))
  have fresh : ∀ b, I ≤ b → h₀.get? b = none := fun b hb => by
    cases e : h₀.get? b with
    | none => rfl
    | some o => exact absurd (ltI b o (F.keep b o e)) (Nat.not_lt.mpr hb)
  have hLI : env.locals < I := hI ▸ F.ns.lt
  have nI : I ≠ env.locals := Nat.ne_of_gt hLI
  have nD : I + 1 ≠ env.locals := Nat.ne_of_gt (Nat.lt_trans hLI i1)
  have nC : I + 1 + 1 ≠ env.locals := Nat.ne_of_gt (Nat.lt_trans hLI i2)
  have off0 : OffT I (I + 1 + 1) (I + 1) (Led c₀) := fun p hp => by
    have l := ltI _ _ (N p hp).1
    exact ⟨Nat.ne_of_lt l, Nat.ne_of_lt (Nat.lt_trans l i2), Nat.ne_of_lt (Nat.lt_trans l i1)⟩
  have st0 : h₁.IsListIter I ax 0 ∧ h₁.IsList ax its.toArray := ⟨⟨_, gI, rfl, rfl⟩, News.isList (N.grown old) (hax c₀)⟩
  have loop : ∀ (tk : Nat) (R : Result → Shared → Prop), (∀ (c : σ) (ys : List Value) (h' : Heap) (tk : Nat) (m' : Str → Option Value), P es.length ys c → ys.length = es.length → Fr h₀ env.locals h' m → News h₀ env.locals h' ((I + 1, LCg.lst ys) :: Led c) → OffT I (I + 1 + 1) (I + 1) (Led c) → h'.Ns (I + 1 + 1) m' → R (.ok .next) { s₁ with heap := h', toks := tk }) →
      codeAny (model prog w) A (.compLoop (.ListComp elt [⟨.Tuple [.Name x₁ p₁, .Name x₂ p₂, .Name x₃ p₃] tkk tp, iter, [], 0⟩] scope pos) 0 (.ref I) (.ref (I + 1)) (compEnvC scope cl (I + 1 + 1) env)) R { s₁ with heap := h₁, toks := tk } := by
    intro tk R hR
    refine LCp.codeAny_compLoop_pair
      (fun k s' => ∃ (h' : Heap) (tk : Nat) (i : Nat) (ys : List Value) (c : σ) (m' : Str → Option Value), s' = { s₁ with heap := h', toks := tk } ∧ i ≤ es.length ∧ k = es.length + 1 - i ∧ ys.length = i ∧ (h'.IsListIter I ax i ∧ h'.IsList ax its.toArray) ∧ Fr h₀ env.locals h' m ∧ h'.Ns (I + 1 + 1) m' ∧
        News h₀ env.locals h' ((I + 1, LCg.lst ys) :: Led c) ∧ OffT I (I + 1 + 1) (I + 1) (Led c) ∧ P i ys c) ?_ (es.length + 1)
      ⟨h₁, tk, 0, [], c₀, _, rfl, Nat.zero_le _, rfl, rfl, st0, F.keeps old, hns₁, ?_, off0, hp0⟩
    · rintro k s' ⟨h', tk, i, ys, c, m', rfl, hi, rfl, hyl, hst', F', hn', N', off', hP⟩
      by_cases hlt : i < es.length
      · refine W.item i _ _ _ (by rw [List.size_toArray, hlen]; exact hlt) hst' fun v h₂ tk₂ hPv hst₂ hk₂ => ?_
        obtain ⟨t, t₁, t₂, t₃, nt, ev, hmt⟩ := (htup c).at i hlt
        have ev2 : v = .ref t := by
          have : its[i]? = some v := by simpa using hPv
          rw [← ev, List.getD_eq_getElem?_getD, this]; rfl
        subst ev2
        have N₂ : News h₀ env.locals h₂ ((I + 1, LCg.lst ys) :: Led c) := LCg.news_but N' hk₂ fun p hp => by
          rcases List.mem_cons.mp hp with rfl | hp
          · exact dID.symm
          · exact (off' p hp).1
        have F₂ : Fr h₀ env.locals h₂ m := LCg.fr_but F' hk₂ nI.symm (fresh _ (Nat.le_refl _))
        have ht : IsTup h₂ t #[.int ((es.getD i (0, 0, 0)).1 : Int) t₁, .int ((es.getD i (0, 0, 0)).2.1 : Int) t₂, .int ((es.getD i (0, 0, 0)).2.2 : Int) t₃] := ⟨_, (N₂ _ (List.mem_cons_of_mem _ hmt)).1, rfl, nt, rfl⟩
        refine wpAny_letOwnedTupleGo_listiter hst₂.1 ?_
        refine assign_Tuple_tuple hh ht rfl rfl fun h₅ he => ?_
        have he' : ∀ b o, h₂.get? b = some o → h₅.get? b = some o := fun b o e => he b o (Nat.ne_of_lt (Heap.lt_size e)) e
        refine assignInOrder_cons (wpAny_assign_Name (wpAny_storeName_local (lookup_relabel_local hx₁) ((hn'.at' fun o e => hk₂ _ o (by simpa using dIC.symm) e).at' fun o e => he' _ o e) (fun h₆ hn₆ hs₆ => ?_) (by simp [compEnvC, relabel, hkind])))
        refine assignInOrder_cons (wpAny_assign_Name (wpAny_storeName_local (lookup_relabel_local hx₂) hn₆ (fun h₇ hn₇ hs₇ => ?_) (by simp [compEnvC, relabel, hkind])))
        refine assignInOrder_cons (wpAny_assign_Name (wpAny_storeName_local (lookup_relabel_local hx₃) hn₇ (fun h₃ hn₃ hs₃ => ?_) (by simp [compEnvC, relabel, hkind])))
        refine assignInOrder_nil ?_
        have old3 : ∀ b o, b ≠ I + 1 + 1 → h₂.get? b = some o → h₃.get? b = some o := fun b o hb e => hs₃.extBut b o hb (hs₇.extBut b o hb (hs₆.extBut b o hb (he' b o e)))
        obtain ⟨oC, eC, nsC⟩ := LCg.ns_obj hn₃
        obtain ⟨oI, eI, hoI⟩ := hst₂.1
        have st3 : h₃.get? I = some oI := old3 _ _ dIC eI
        have F₃ : Fr h₀ env.locals h₃ m := (((F₂.keeps he').change hs₆ nC (fresh _ (Nat.le_of_lt i2))).change hs₇ nC (fresh _ (Nat.le_of_lt i2))).change hs₃ nC (fresh _ (Nat.le_of_lt i2))
        have N₃ : News h₀ env.locals h₃ ((I, oI) :: (I + 1 + 1, oC) :: (I + 1, LCg.lst ys) :: Led c) := fun p hp => by
          rcases List.mem_cons.mp hp with rfl | hp
          · exact ⟨st3, nI, fresh _ (Nat.le_refl _)⟩
          · rcases List.mem_cons.mp hp with rfl | hp
            · exact ⟨eC, nC, fresh _ (Nat.le_of_lt i2)⟩
            · have zz := N₂ p hp
              refine ⟨old3 _ _ ?_ zz.1, zz.2⟩
              rcases List.mem_cons.mp hp with rfl | hp
              · exact dCD.symm
              · exact (off' p hp).2.1
        refine wpAny_mono (turn i c ys t₁ t₂ t₃ I (I + 1 + 1) (I + 1) oI oC _ h₃ _ _ hlt hP nsC (by simp [h12, h13]) (by simp [h23]) (by simp) F₃ N₃ off' dIC dID dCD) (fun y s₄ h₄ => ?_) fun _ _ e => e
        obtain ⟨c', h₄, tk₄, rfl, F₄, N₄, off₄, hP₄⟩ := h₄
        have zI := (N₄ _ List.mem_cons_self).1
        have zC := (N₄ _ (List.mem_cons_of_mem _ List.mem_cons_self)).1
        have zD := (N₄ _ (List.mem_cons_of_mem _ (List.mem_cons_of_mem _ List.mem_cons_self))).1
        have N₄' : News h₀ env.locals h₄ (Led c') := fun p hp => N₄ p (List.mem_cons_of_mem _ (List.mem_cons_of_mem _ (List.mem_cons_of_mem _ hp)))
        refine append_at (hsz := by show ys.toArray.size ≤ sizeLine; rw [List.size_toArray, hyl, sizeLine_eq]; omega) zD fun h₅ hs₅ hD₅ => ?_
        have N₅ : News h₀ env.locals h₅ ((I + 1, LCg.lst (ys ++ [y])) :: Led c') := fun p hp => by
          rcases List.mem_cons.mp hp with rfl | hp
          · exact ⟨hD₅.trans (congrArg some (LCg.lst_snoc ys y)), nD, fresh _ (Nat.le_of_lt i1)⟩
          · exact ⟨hs₅.extBut _ _ (off₄ p hp).2.2 (N₄' p hp).1, (N₄' p hp).2⟩
        exact ⟨es.length + 1 - (i + 1), by omega, h₅, tk₄, i + 1, ys ++ [y], c', _, rfl, hlt, rfl, by rw [List.length_append, List.length_singleton, hyl], ⟨⟨oI, hs₅.extBut _ _ dID zI, hoI⟩, News.isList N₅ (List.mem_cons_of_mem _ (hax c'))⟩, F₄.change hs₅ nD (fresh _ (Nat.le_of_lt i1)), (nsC.ns zC).sameBut hs₅ dCD, N₅, off₄, hP₄⟩
      · obtain rfl : i = es.length := Nat.le_antisymm hi (Nat.not_lt.mp hlt)
        have hst'' := hst'
        rw [show es.length = its.toArray.size by rw [List.size_toArray, hlen]] at hst''
        refine W.done _ _ _ hst'' fun h₂ tk₂ hk₂ => ?_
        exact hR c ys h₂ tk₂ m' hP hyl (LCg.fr_but F' hk₂ nI.symm (fresh _ (Nat.le_refl _))) (LCg.news_but N' hk₂ fun p hp => by
          rcases List.mem_cons.mp hp with rfl | hp
          · exact dID.symm
          · exact (off' p hp).1) off' (hn'.at' fun o e => hk₂ _ o (by simpa using dIC.symm) e)
    · intro p hp
      rcases List.mem_cons.mp hp with rfl | hp
      · exact ⟨gD, nD, fresh _ (Nat.le_of_lt i1)⟩
      · exact ⟨old _ _ (N p hp).1, (N p hp).2⟩
  have fin : ∀ (c : σ) (ys : List Value) (h' : Heap) (tk : Nat) (m' : Str → Option Value), P es.length ys c → ys.length = es.length → Fr h₀ env.locals h' m → News h₀ env.locals h' ((I + 1, LCg.lst ys) :: Led c) → OffT I (I + 1 + 1) (I + 1) (Led c) → h'.Ns (I + 1 + 1) m' →
      compPost (model prog w) A E (some (assign (.Name y py) env)) (fun _ s' => Q .next s') (.ref (I + 1)) (I + 1 + 1) (.ok .next) { s₁ with heap := h', toks := tk } := by
    intro c ys h' tk m' hP hyl F' N' off' n'
    show wpAny _ A (assign (.Name y py) env (.ref (I + 1))) _ _ _
    refine wpAny_assign_Name (wpAny_storeName_local hy F'.ns (fun h₂ hn₂ hs₂ => ?_) hp)
    have hL₀ : h₀.get? env.locals = none := Heap.get?_none_of_le F'.above
    have F₂ : Fr h₀ env.locals h₂ (fun z => if z = y then some (.ref (I + 1)) else m z) := ⟨hn₂, fun b o e => hs₂.extBut b o (fun q => by rw [q, hL₀] at e; cases e) (F'.keep b o e), F'.above⟩
    refine ⟨m', n'.sameBut hs₂ nC, fun h'' hs'' => done c ys (I + 1) h'' _ hP hyl (F₂.change hs'' nC (fresh _ (Nat.le_of_lt i2))) (fun p hp => ?_) fun p hp => (off' p hp).2.2⟩
    have z : h₂.get? p.1 = some p.2 := hs₂.extBut _ _ (N' p hp).2.1 (N' p hp).1
    refine ⟨hs''.extBut _ _ ?_ z, (N' p hp).2⟩
    rcases List.mem_cons.mp hp with rfl | hp
    · exact dCD.symm
    · exact (off' p hp).2.1
  exact codeAny_compStart_list (loop _ _ fin) (W.self 0 _ _ _ st0 (loop _ _ fin))
end
end Mine
end
section
set_option maxRecDepth 100000
namespace Mine
open PySem PySem.W PyProof.Rows PySem.Calls PySem.Spec PyProof
theorem off1_mem {D : Addr} : ∀ {l : List (Addr × Obj)}, LCg.Off1 D l → ∀ p ∈ l, p.1 ≠ D
  | [], _, _, hp => nomatch hp
  | _ :: _, h, p, hp => by
    rcases List.mem_cons.mp hp with rfl | hp
    · exact h.1
    · exact off1_mem h.2 p hp
/-- the remainder -/
theorem reach_nat (x : Int) : ∃ r : Nat, x.fmod 3 = (r : Int) ∧ r ≤ 2 := by
  refine ⟨(x % 3).toNat, ?_, ?_⟩
  · rw [Int.fmod_eq_emod_of_nonneg _ (by decide)]; omega
  · omega
theorem asc_eq {l k : List Nat} (hp : l.Perm k) (h1 : l.Pairwise (· < ·)) (h2 : k.Pairwise (· < ·)) : l = k :=
  List.Perm.eq_of_pairwise (fun _ _ _ _ h h' => absurd h (Nat.lt_asymm h')) h1 h2 hp
theorem range_tail (n : Nat) : (List.range (n + 1)).tail = (List.range n).map Nat.succ := by rw [List.range_succ_eq_map]; rfl
theorem range_cons (n : Nat) : ∃ t, List.range (n + 1) = 0 :: t ∧ t.length = n := ⟨_, List.range_succ_eq_map, by simp⟩
theorem getD_len3 {wl : List (List Nat)} (h : ∀ x ∈ wl, x.length ≤ 3) (i : Nat) : (wl.getD i []).length ≤ 3 := by
  by_cases e : i < wl.length
  · exact h _ (getD_mem e)
  · simp [List.getD_eq_getElem?_getD, List.getElem?_eq_none (Nat.le_of_not_lt e)]
theorem ed_100 {x y : List Nat} (hx : x.length ≤ 3) (hy : y.length ≤ 3) : ed x y ≤ 100 := by
  have := ed_bound x y
  omega
theorem rangeKs_nts (k : Nat) : rangeKs 0 k = nts (List.range k) := by simp [rangeKs, nts]
/-- the sorted links are the tree's entries -/
theorem links_sorted {d : Nat → Nat → Nat} {z : Nat → Nat} {r n : Nat} {R : List (Nat × Nat × Nat) × List Nat} (ok : PartOk d z r (List.range (n + 1)) R) {es : List (Nat × Nat × Nat)} (hp : es.Perm R.1) (hs : es.Pairwise fun a b => a.1 < b.1) :
    es.length = n ∧ ∀ i, i < n → ∃ e, (treeN d n)[i]? = some e ∧ es.getD i (0, 0, 0) = (i + 1, e.1, e.2) := by
  have h1 : (es.map (·.1)) = (List.range n).map Nat.succ := by
    refine asc_eq ?_ (List.pairwise_map.mpr hs) ?_
    · rw [← range_tail]; exact (hp.map _).trans ok.perm
    · rw [List.pairwise_map]; exact List.pairwise_lt_range.imp fun h => Nat.succ_lt_succ h
  have hl : es.length = n := by have := congrArg List.length h1; simpa using this
  refine ⟨hl, fun i hi => ?_⟩
  have hi' : i < es.length := by omega
  have e0 : es.getD i (0, 0, 0) = es[i] := by simp [hi']
  have e1 : es[i].1 = i + 1 := by
    have : (es.map (·.1))[i]? = ((List.range n).map Nat.succ)[i]? := by rw [h1]
    rw [List.getElem?_map, List.getElem?_map, List.getElem?_range hi, List.getElem?_eq_getElem hi'] at this
    exact Option.some.inj this
  have hm : es[i] ∈ R.1 := hp.mem_iff.mp (List.getElem_mem hi')
  have hm2 : (es[i].1, es[i].2.1, es[i].2.2) ∈ R.1 := hm
  have lk := (ok.links _ _ _).mp hm2
  have := ((tree_link n _ _ _).mp lk).2
  rw [e1] at this
  refine ⟨_, this, ?_⟩
  rw [e0, ← e1]
theorem nts_asc {l : List Int} {k : List Nat} (hp : l.Perm (nts k)) (hs : l.Pairwise (· ≤ ·)) (nd : k.Nodup) : ∃ q : List Nat, l = nts q ∧ q.Perm k ∧ q.Pairwise (· < ·) := by
  refine ⟨l.map Int.toNat, ?_, ?_, ?_⟩
  · rw [nts, List.map_map]
    refine (List.map_id l).symm.trans (List.map_congr_left fun x hx => ?_)
    obtain ⟨y, _, rfl⟩ := List.mem_map.mp (hp.mem_iff.mp hx)
    rfl
  · have := hp.map Int.toNat
    rw [nts, List.map_map] at this
    have e : k.map (Int.toNat ∘ fun n : Nat => (n : Int)) = k := (List.map_congr_left fun x _ => rfl).trans (List.map_id k)
    rwa [e] at this
  · have hnd : l.Nodup := hp.nodup_iff.mpr (by
      rw [nts]; exact List.Pairwise.map _ (fun a b h e => h (Int.ofNat.inj e)) nd)
    have h2 : l.Pairwise (· < ·) := (hs.and hnd).imp fun ⟨h1, h2⟩ => by omega
    rw [List.pairwise_map]
    refine h2.imp_of_mem fun {a b} ha hb h => ?_
    obtain ⟨y, _, rfl⟩ := List.mem_map.mp (hp.mem_iff.mp ha)
    obtain ⟨y', _, rfl⟩ := List.mem_map.mp (hp.mem_iff.mp hb)
    simp only [Int.toNat_natCast]; omega
/-- two ways, sorted, are one -/
theorem way_same {d : Nat → Nat → Nat} {z : Nat → Nat} {r n : Nat} {w1 w2 : List Nat} {a b : List Int} (n1 : w1.Nodup) (m1 : ∀ q, q ∈ w1 ↔ Way d z r (List.range (n + 1)) q) (n2 : w2.Nodup) (m2 : ∀ q, q ∈ w2 ↔ Way d z r (List.range (n + 1)) q)
    (p1 : a.Perm (nts w1)) (s1 : a.Pairwise (· ≤ ·)) (p2 : b.Perm (nts w2)) (s2 : b.Pairwise (· ≤ ·)) : a = b := by
  obtain ⟨q1, rfl, g1, g2⟩ := nts_asc p1 s1 n1
  obtain ⟨q2, rfl, k1, k2⟩ := nts_asc p2 s2 n2
  have : q1.Perm q2 := (g1.trans ((List.perm_ext_iff_of_nodup n1 n2).mpr fun q => (m1 q).trans (m2 q).symm)).trans k1.symm
  rw [asc_eq this g2 k2]
/-- what is found is what is near -/
theorem near_same {d : Nat → Nat → Nat} {z : Nat → Nat} {r n : Nat} (tri : ∀ a b, z a ≤ d a b + z b ∧ d a b ≤ z a + z b) {w1 : List Nat} {b : List Int} (n1 : w1.Nodup) (m1 : ∀ q, q ∈ w1 ↔ Way d z r (List.range (n + 1)) q)
    (p1 : b.Perm (nts (w1.filter fun q => decide (z q ≤ r)))) (s1 : b.Pairwise (· ≤ ·)) : b = nts ((List.range (n + 1)).filter fun q => decide (z q ≤ r)) := by
  obtain ⟨q1, rfl, g1, g2⟩ := nts_asc p1 s1 (n1.filter _)
  congr 1
  refine asc_eq (g1.trans ((List.perm_ext_iff_of_nodup (n1.filter _) (List.nodup_range.filter _)).mpr fun q => ?_)) g2 (List.pairwise_lt_range.filter _)
  rw [List.mem_filter, List.mem_filter]
  constructor
  · rintro ⟨h1, h2⟩
    exact ⟨((m1 q).mp h1).mem, h2⟩
  · rintro ⟨h1, h2⟩
    exact ⟨(m1 q).mpr (way_of_near tri h1 (of_decide_eq_true h2)), h2⟩
theorem tri_of (wl : List (List Nat)) (sw : List Nat) : ∀ a b, ed (wl.getD a []) sw ≤ ed (wl.getD a []) (wl.getD b []) + ed (wl.getD b []) sw ∧ ed (wl.getD a []) (wl.getD b []) ≤ ed (wl.getD a []) sw + ed (wl.getD b []) sw := by
  intro a b
  refine ⟨ed_tri _ _ _, ?_⟩
  have := ed_tri (wl.getD a []) sw (wl.getD b [])
  rw [ed_symm sw] at this
  exact this
section
variable {h₀ h : Heap} {L : Addr}
theorem news_pull {l r : List (Addr × Obj)} {x : Addr × Obj} (N : News h₀ L h (l ++ x :: r)) : News h₀ L h (x :: (l ++ r)) := cb_drop N fun p hp => by
  simp only [List.mem_cons, List.mem_append] at hp ⊢
  rcases hp with h | h | h
  · exact .inr (.inl h)
  · exact .inl h
  · exact .inr (.inr h)
/-- the ledger behind two objects, by a letter -/
theorem news_abst2 {x y : Addr × Obj} {r : List (Addr × Obj)} (N : News h₀ L h (x :: y :: r)) : ∃ S, S = r ∧ News h₀ L h (x :: y :: S) := ⟨r, rfl, N⟩
theorem news_abst1 {x : Addr × Obj} {r : List (Addr × Obj)} (N : News h₀ L h (x :: r)) : ∃ S, S = r ∧ News h₀ L h (x :: S) := ⟨r, rfl, N⟩
end
theorem st_ok {l : List Nat} (h : ∀ a ∈ l, a < 200) : PyData.strOk (st l) = true := by
  unfold PyData.strOk
  rw [Array.all_eq_true]
  intro i hi
  simp only [decide_eq_true_eq]
  have hi' : i < l.length := by simpa using hi
  have := h l[i] (List.getElem_mem hi')
  simp only [List.getElem_toArray]
  omega
def datE (e : Str × Str) : Dat := .tuple [.str e.1, .str e.2]
theorem TupsIn.dat {news : List (Addr × Obj)} : ∀ {vs : List Value} {es : List (Str × Str)}, TupsIn news vs es → DatAll news vs (es.map datE)
  | [], [], _ => .nil
  | _ :: _, _ :: _, h => by
    obtain ⟨⟨a, t1, t2, n, rfl, hm⟩, ht⟩ := h
    exact .cons (.tuple (vs := [_, _]) hm (.cons (.str _ _) (.cons (.str _ _) .nil))) (TupsIn.dat ht)
  | [], _ :: _, h => h.elim
  | _ :: _, [], h => h.elim
theorem ents_ok {E : List (Nat × Nat)} (hE : ∀ e ∈ E, e.1 < 10 ∧ e.2 < 10) (hl : E.length < 10) : ∀ d ∈ (entsOf E).map datE, kqdOk 7 d = true := by
  intro d hd
  obtain ⟨e, he, rfl⟩ := List.mem_map.mp hd
  unfold entsOf at he
  obtain ⟨i, hi, rfl⟩ := List.mem_mapIdx.mp he
  have h1 := hE _ (List.getElem_mem hi)
  have a1 : PyData.strOk (entOf i E[i]).1 = true := by
    unfold entOf
    refine st_ok fun a ha => ?_
    simp only [nmL, List.mem_cons, List.not_mem_nil, or_false] at ha
    rcases ha with rfl | rfl | rfl | rfl
    · split <;> omega
    · omega
    · omega
    · omega
  have a2 : PyData.strOk (entOf i E[i]).2 = true := by
    unfold entOf
    refine st_ok fun a ha => ?_
    simp only [List.mem_cons, List.not_mem_nil, or_false] at ha
    omega
  simp [datE, kqdOk, a1, a2]
theorem ints_dat {news : List (Addr × Obj)} : ∀ {vs : List Value} {ns : List Int}, IntsAre vs ns → DatAll news vs (ns.map Dat.int)
  | _, _, .nil => .nil
  | _, _, .cons n t r => .cons (.int n t) (ints_dat r)
section
variable {prog : Program} {w : World} {A : Around} {E : Value → Shared → Prop} {s : Shared} {h₀ : Heap} {L a b : Addr} {news : List (Addr × Obj)} {Q : Value → Shared → Prop}
open Classical in
/-- two data, not alike? -/
theorem data_ne {x y : Value} {d e : Dat} (N : News h₀ L s.heap news) (Da : DatIn news x d) (Db : DatIn news y e) (ha : kqdOk 8 d = true) (hb : kqdOk 8 e = true) (hu : A.units + 64 < cLine) (h : Q (.bool (!decide (d = e))) s) : wpAny (model prog w) A (compareOp .NotEq x y) Q E s := by
  obtain ⟨as, ra⟩ := kqd_in N 8 Da ha
  obtain ⟨bs, rb⟩ := kqd_in N 8 Db hb
  have la := kqd_lay 8 d ha
  have lb := kqd_lay 8 e hb
  have q := kqd_eqv 8 d e 8 ha hb
  have e' : PyData.eqv (kqdP d) (kqdP e) = decide (d = e) := by
    by_cases hq : d = e
    · rw [decide_eq_true hq]; exact q.mpr hq
    · rw [decide_eq_false hq]; exact Bool.eq_false_iff.mpr fun x => hq (q.mp x)
  refine ne_dataH ra rb ?_ ?_ hu (by rw [e']; exact h)
  · unfold SeqAt.shaped; rw [la.1, Bool.true_and]; exact decide_eq_true (Nat.le_trans la.2 (by decide))
  · unfold SeqAt.shaped; rw [lb.1, Bool.true_and]; exact decide_eq_true (Nat.le_trans lb.2 (by decide))
open Classical in
theorem data_eq {x y : Value} {d e : Dat} (N : News h₀ L s.heap news) (Da : DatIn news x d) (Db : DatIn news y e) (ha : kqdOk 8 d = true) (hb : kqdOk 8 e = true) (hu : A.units + 64 < cLine) (h : Q (.bool (decide (d = e))) s) : wpAny (model prog w) A (compareOp .Eq x y) Q E s := by
  obtain ⟨as, ra⟩ := kqd_in N 8 Da ha
  obtain ⟨bs, rb⟩ := kqd_in N 8 Db hb
  have la := kqd_lay 8 d ha
  have lb := kqd_lay 8 e hb
  have q := kqd_eqv 8 d e 8 ha hb
  have e' : PyData.eqv (kqdP d) (kqdP e) = decide (d = e) := by
    by_cases hq : d = e
    · rw [decide_eq_true hq]; exact q.mpr hq
    · rw [decide_eq_false hq]; exact Bool.eq_false_iff.mpr fun x => hq (q.mp x)
  refine eq_dataH ra rb ?_ ?_ hu (by rw [e']; exact h)
  · unfold SeqAt.shaped; rw [la.1, Bool.true_and]; exact decide_eq_true (Nat.le_trans la.2 (by decide))
  · unfold SeqAt.shaped; rw [lb.1, Bool.true_and]; exact decide_eq_true (Nat.le_trans lb.2 (by decide))
/-- two lists of headers that tell the same -/
theorem ents_ne {vs us : List Value} {k k' : Nat} {es : List (Str × Str)} (N : News h₀ L s.heap news) (ha : (a, W.listOf vs.toArray k) ∈ news) (hb : (b, W.listOf us.toArray k') ∈ news) (hv : TupsIn news vs es) (hw : TupsIn news us es) (hok : ∀ d ∈ es.map datE, kqdOk 7 d = true) (hu : A.units + 64 < cLine)
    (h : Q (.bool false) s) : wpAny (model prog w) A (compareOp .NotEq (.ref a) (.ref b)) Q E s := by
  classical
  have ok2 : kqdOk 8 (.list (es.map datE)) = true := List.all_eq_true.mpr hok
  refine data_ne N (.list ha hv.dat) (.list hb hw.dat) ok2 ok2 hu ?_
  simpa using h
theorem ents_eq {vs us : List Value} {k k' : Nat} {es : List (Str × Str)} (N : News h₀ L s.heap news) (ha : (a, W.listOf vs.toArray k) ∈ news) (hb : (b, W.listOf us.toArray k') ∈ news) (hv : TupsIn news vs es) (hw : TupsIn news us es) (hok : ∀ d ∈ es.map datE, kqdOk 7 d = true) (hu : A.units + 64 < cLine)
    (h : Q (.bool true) s) : wpAny (model prog w) A (compareOp .Eq (.ref a) (.ref b)) Q E s := by
  classical
  have ok2 : kqdOk 8 (.list (es.map datE)) = true := List.all_eq_true.mpr hok
  refine data_eq N (.list ha hv.dat) (.list hb hw.dat) ok2 ok2 hu ?_
  simpa using h
/-- two pairs of lists of ints that tell the same -/
theorem pairs_ne {p q a₁ a₂ b₁ b₂ : Addr} {u₁ u₂ v₁ v₂ : List Value} {k₁ k₂ l₁ l₂ n₁ n₂ : Nat} {x y : List Int} (N : News h₀ L s.heap news)
    (hp : (p, ({ cls := .type "tuple", data := .seq #[.ref a₁, .ref a₂] n₁ } : Obj)) ∈ news) (hq : (q, ({ cls := .type "tuple", data := .seq #[.ref b₁, .ref b₂] n₂ } : Obj)) ∈ news)
    (ha₁ : (a₁, W.listOf u₁.toArray k₁) ∈ news) (ha₂ : (a₂, W.listOf u₂.toArray k₂) ∈ news) (hb₁ : (b₁, W.listOf v₁.toArray l₁) ∈ news) (hb₂ : (b₂, W.listOf v₂.toArray l₂) ∈ news)
    (hu₁ : IntsAre u₁ x) (hu₂ : IntsAre u₂ y) (hv₁ : IntsAre v₁ x) (hv₂ : IntsAre v₂ y) (hu : A.units + 64 < cLine) (h : Q (.bool false) s) : wpAny (model prog w) A (compareOp .NotEq (.ref p) (.ref q)) Q E s := by
  classical
  have ok : ∀ l : List Int, ∀ d ∈ l.map Dat.int, kqdOk 6 d = true := by
    intro l d hd
    obtain ⟨i, _, rfl⟩ := List.mem_map.mp hd
    rfl
  have ok2 : kqdOk 8 (.tuple [.list (x.map Dat.int), .list (y.map Dat.int)]) = true := by
    simp only [kqdOk, List.all_cons, List.all_nil, Bool.and_true, Bool.and_eq_true, List.all_eq_true]
    exact ⟨ok x, ok y⟩
  refine data_ne N (.tuple (vs := [_, _]) hp (.cons (.list ha₁ (ints_dat hu₁)) (.cons (.list ha₂ (ints_dat hu₂)) .nil))) (.tuple (vs := [_, _]) hq (.cons (.list hb₁ (ints_dat hv₁)) (.cons (.list hb₂ (ints_dat hv₂)) .nil))) ok2 ok2 hu ?_
  simpa using h
end
section
variable {h₀ h' : Heap} {L : Addr} {m : Str → Option Value} {s₁ : Shared}
/-- the end of an element of what is due -/
theorem due_end {I C D D1 D2 : Addr} {oI oC oD o1 : Obj} {c B : List (Addr × Obj)} {ys : List Value} {E : List (Str × Str)} {i nt tk : Nat} {e : Str × Str} {t1 t2 : Tok} (F : Fr h₀ L h' m)
    (N : News h₀ L h' ((D2, ({ cls := .type "tuple", data := .seq #[.str e.1 t1, .str e.2 t2] nt } : Obj)) :: (D1, o1) :: (I, oI) :: (C, oC) :: (D, oD) :: (c ++ B))) (lt : I < D2 ∧ C < D2 ∧ D < D2) (off : OffT I C D (c ++ B))
    (hP : TupsIn c ys (E.take i)) (he : E[i]? = some e) :
    TupEnd h₀ L m s₁ I C D oI oC oD (fun c => c ++ B) (fun c' y => TupsIn c' (ys ++ [y]) (E.take (i + 1))) (.ref D2) { s₁ with heap := h', toks := tk } := by
  refine ⟨(D2, ({ cls := .type "tuple", data := .seq #[.str e.1 t1, .str e.2 t2] nt } : Obj)) :: c, h', tk, rfl, F, cb_drop N fun p hp => ?_, fun p hp => ?_, ?_⟩
  · simp only [List.mem_cons, List.cons_append] at hp ⊢
    rcases hp with h | h | h | h | h
    · exact .inr (.inr (.inl h))
    · exact .inr (.inr (.inr (.inl h)))
    · exact .inr (.inr (.inr (.inr (.inl h))))
    · exact .inl h
    · exact .inr (.inr (.inr (.inr (.inr h))))
  · rcases List.mem_cons.mp hp with rfl | hp
    · exact ⟨Nat.ne_of_gt lt.1, Nat.ne_of_gt lt.2.1, Nat.ne_of_gt lt.2.2⟩
    · exact off p hp
  · rw [List.take_add_one, he]
    exact TupsIn.snoc ⟨D2, t1, t2, nt, rfl, List.mem_cons_self⟩ (hP.mono fun p hp => List.mem_cons_of_mem _ hp)
end
theorem ents_at {E : List (Nat × Nat)} {i : Nat} {e : Nat × Nat} (h : E[i]? = some e) : (entsOf E)[i]? = some (entOf i e) := by
  simp [entsOf, h]
theorem ents_take {E : List (Nat × Nat)} {n : Nat} (h : E.length = n) : (entsOf E).take n = entsOf E := List.take_of_length_le (by rw [ents_len]; omega)
end Mine
end
section
set_option maxRecDepth 100000
namespace Mine
open PySem PySem.W PyProof.Rows PySem.Calls PySem.Spec PyProof
section
variable {prog : Program} {w : World} {A : Around} {h₀ : Heap} {L : Addr} {m : Str → Option Value} {env : Env} {elt : PySem.Expr} {x : Str} {scope : Scope} {cl : List (Str × Addr)} {s : Shared} {S : List (Addr × Obj) → Prop} {Fin : List Value → List (Addr × Obj) → Prop} {news : List (Addr × Obj)}
/-- a comprehension over a range whose elements are ints and leave the ledger as it is -/
theorem rest_ints {n : Nat} (g : Nat → Int)
    (turn : ∀ (i : Nat) (t : Tok) (I C D : Addr) (oI oC : Obj) (m₂ : Str → Option Value) (ys : List Value) (h : Heap) (tk : Nat) (E' : Value → Shared → Prop), i < n → LCg.NsObj oC m₂ → m₂ x = some (.int (i : Int) t) → Fr h₀ L h m →
      News h₀ L h ((I, oI) :: (C, oC) :: (D, LCg.lst ys) :: news) → LCg.Off3 I C D news → ((@Ne Nat I C) ∧ (@Ne Nat I D) ∧ (@Ne Nat C D)) →
      wpAny (model prog w) A (eval elt (compEnvC scope cl C env)) (LCg.CompEnd h₀ L m { s with heap := h, toks := tk } I oI C oC D (LCg.lst ys) S (fun y news' => news' = news ∧ ∃ u, y = .int (g i) u)) E' { s with heap := h, toks := tk })
    (fin : ∀ ys, IntsAre ys ((List.range n).map g) → Fin ys news) :
    LCg.CompRest prog w A h₀ L m env elt x scope cl s S (fun i v => ∃ t, v = .int ((0 : Int) + (i : Int)) t) Fin n 0 [] news := by
  have key : ∀ (j i : Nat) (ys : List Value), i + j = n → IntsAre ys ((List.range i).map g) → LCg.CompRest prog w A h₀ L m env elt x scope cl s S (fun i v => ∃ t, v = .int ((0 : Int) + (i : Int)) t) Fin j i ys news := by
    intro j
    induction j with
    | zero =>
      intro i ys hi hy
      have : i = n := by omega
      subst this
      exact LCg.CompRest.zero (fin ys hy)
    | succ j ih =>
      intro i ys hi hy
      refine LCg.CompRest.succ ?_
      rintro v I oI C oC D m₂ h tk E' ⟨t, rfl⟩ hC hx F N off ne
      rw [Int.zero_add] at hx
      refine wpAny_mono (turn i t I C D oI oC m₂ ys h tk E' (by omega) hC hx F N off ne) (fun y s₂ hq => ?_) fun _ _ e => e
      obtain ⟨h', tk', nw, e, F', N', off', hS, hn, u, hy'⟩ := hq
      rw [hn] at N' off' hS
      refine ⟨h', tk', news, e, F', N', off', hS, ?_⟩
      rw [hy']
      refine ih (i + 1) _ (by omega) ?_
      rw [List.range_succ, List.map_append]
      exact hy.append (.cons _ _ .nil)
  exact key n 0 [] (by omega) .nil
theorem news_any {h : Heap} (N : News h₀ L h news) : ∃ N0, N0 = news ∧ News h₀ L h N0 := ⟨news, rfl, N⟩
theorem tree_led {h : Heap} {a y z : Addr × Obj} {tl NB : List (Addr × Obj)} (N : News h₀ L h (a :: (tl ++ y :: z :: NB))) : ∃ T, News h₀ L h (NB ++ T) ∧ a ∈ T ∧ y ∈ T ∧ z ∈ T ∧ (∀ p ∈ tl, p ∈ T) ∧ ∀ p ∈ T, p = a ∨ p = y ∨ p = z ∨ p ∈ tl := by
  refine ⟨a :: y :: z :: tl, ?_, List.mem_cons_self, List.mem_cons_of_mem _ List.mem_cons_self, List.mem_cons_of_mem _ (List.mem_cons_of_mem _ List.mem_cons_self), fun p hp => List.mem_cons_of_mem _ (List.mem_cons_of_mem _ (List.mem_cons_of_mem _ hp)), fun p hp => by simpa using hp⟩
  intro p hp
  refine N p ?_
  simp only [List.mem_append, List.mem_cons] at hp ⊢
  rcases hp with h | h | h | h | h
  · exact .inr (.inr (.inr (.inr h)))
  · exact .inl h
  · exact .inr (.inr (.inl h))
  · exact .inr (.inr (.inr (.inl h)))
  · exact .inr (.inl h)
/-- a comprehension over a range with a test; it takes the numbers themselves -/
theorem rest_test {ct : PySem.Expr} {n : Nat} (b : Nat → Bool)
    (turn : ∀ (i : Nat) (t : Tok) (I C D : Addr) (oI oC : Obj) (m₂ : Str → Option Value) (ys : List Value) (h : Heap) (tk : Nat) (E' : Value → Shared → Prop), i < n → LCg.NsObj oC m₂ → m₂ x = some (.int (i : Int) t) → Fr h₀ L h m →
      News h₀ L h ((I, oI) :: (C, oC) :: (D, LCg.lst ys) :: news) → LCg.Off3 I C D news → ((@Ne Nat I C) ∧ (@Ne Nat I D) ∧ (@Ne Nat C D)) →
      wpAny (model prog w) A (isTrue ct (compEnvC scope cl C env) (eval ct (compEnvC scope cl C env))) (fun ok s' => if ok = true then
        wpAny (model prog w) A (eval elt (compEnvC scope cl C env)) (LCg.CompEnd h₀ L m { s with heap := h, toks := tk } I oI C oC D (LCg.lst ys) S (fun y news' => news' = news ∧ b i = true ∧ ∃ u, y = .int (i : Int) u)) E' s'
        else LCg.CompEnd h₀ L m { s with heap := h, toks := tk } I oI C oC D (LCg.lst ys) S (fun _ news' => news' = news ∧ b i = false) Value.none s') E' { s with heap := h, toks := tk })
    (fin : ∀ ys, IntsAre ys (((List.range n).filter b).map fun i : Nat => (i : Int)) → Fin ys news) :
    LCt.CompRestT prog w A h₀ L m env ct elt x scope cl s S (fun i v => ∃ t, v = .int ((0 : Int) + (i : Int)) t) Fin n 0 [] news := by
  have key : ∀ (j i : Nat) (ys : List Value), i + j = n → IntsAre ys (((List.range i).filter b).map fun i : Nat => (i : Int)) → LCt.CompRestT prog w A h₀ L m env ct elt x scope cl s S (fun i v => ∃ t, v = .int ((0 : Int) + (i : Int)) t) Fin j i ys news := by
    intro j
    induction j with
    | zero =>
      intro i ys hi hy
      have : i = n := by omega
      subst this
      exact LCt.CompRestT.zero (fin ys hy)
    | succ j ih =>
      intro i ys hi hy
      refine LCt.CompRestT.succ ?_
      rintro v I oI C oC D m₂ h tk E' ⟨t, rfl⟩ hC hx F N off ne
      rw [Int.zero_add] at hx
      refine wpAny_mono (turn i t I C D oI oC m₂ ys h tk E' (by omega) hC hx F N off ne) (fun ok s₂ hq => ?_) fun _ _ e => e
      cases ok with
      | true =>
        simp only [if_true] at hq ⊢
        refine wpAny_mono hq (fun y s₃ hq => ?_) fun _ _ e => e
        obtain ⟨h', tk', nw, e, F', N', off', hS, hn, hb, u, hy'⟩ := hq
        rw [hn] at N' off' hS
        refine ⟨h', tk', news, e, F', N', off', hS, ?_⟩
        rw [hy']
        refine ih (i + 1) _ (by omega) ?_
        rw [List.range_succ, List.filter_append, List.map_append, List.filter_cons_of_pos hb]
        exact hy.append (.cons _ _ .nil)
      | false =>
        simp only [Bool.false_eq_true, if_false] at hq ⊢
        obtain ⟨h', tk', nw, e, F', N', off', hS, hn, hb⟩ := hq
        rw [hn] at N' off' hS
        refine ⟨h', tk', news, e, F', N', off', hS, ih (i + 1) _ (by omega) ?_⟩
        rw [List.range_succ, List.filter_append, List.map_append, List.filter_cons_of_neg (by simp [hb])]
        simpa using hy
  exact key n 0 [] (by omega) .nil
end
end Mine
end
section
set_option maxRecDepth 100000
namespace Mine
open PySem PySem.W PyProof.Rows PySem.Calls PySem.Spec PyProof
section
variable {prog : Program} {w : World} {A : Around} {E : Value → Shared → Prop} {s : Shared} {h₀ : Heap} {L : Addr} {m : Str → Option Value} {env : Env}
/-- what is apart from the comprehension's own objects -/
def Off4 (I C X D : Addr) (l : List (Addr × Obj)) : Prop := ∀ p ∈ l, p.1 ≠ I ∧ p.1 ≠ C ∧ p.1 ≠ X ∧ p.1 ≠ D
/-- behind an element -/
def CellEnd {σ : Type} (h₀ : Heap) (L : Addr) (m : Str → Option Value) (s₁ : Shared) (I C X D : Addr) (oI oC oX oD : Obj) (Led : σ → List (Addr × Obj)) (P : σ → Value → Prop) (y : Value) (s₂ : Shared) : Prop :=
  ∃ (c : σ) (h' : Heap) (tk : Nat), s₂ = { s₁ with heap := h', toks := tk } ∧ Fr h₀ L h' m ∧ News h₀ L h' ((I, oI) :: (C, oC) :: (X, oX) :: (D, oD) :: Led c) ∧ Off4 I C X D (Led c) ∧ P c y
/-- the source of a comprehension over a range whose variable is a cell -/
def CellSrc {σ : Type} (prog : Program) (w : World) (A : Around) (h₀ : Heap) (L : Addr) (m : Str → Option Value) (env : Env) (elt : PySem.Expr) (x : Str) (scope : Scope) (cl : List (Str × Addr)) (Led : σ → List (Addr × Obj)) (P : Nat → List Value → σ → Prop) (n : Nat) (c₀ : σ) (Q : Value → Shared → Prop) (xv : Value) (s₁ : Shared) : Prop :=
  ∃ r t u v, xv = .ref r ∧ A.handled = none ∧ Fr h₀ L s₁.heap m ∧ News h₀ L s₁.heap (Led c₀) ∧ IsRange s₁.heap r 0 (n : Int) 1 t u v ∧ n ≤ 100000 ∧ P 0 [] c₀ ∧
    (∀ (i : Nat) (c : σ) (ys : List Value) (t : Tok) (I C X D : Addr) (oI oC oX : Obj) (h : Heap) (tk : Nat) (E' : Value → Shared → Prop), i < n → P i ys c → Fr h₀ L h m →
      News h₀ L h ((I, oI) :: (C, oC) :: (X, oX) :: (D, LCg.lst ys) :: Led c) → oX.data = .cell (some (.int (i : Int) t)) → Off4 I C X D (Led c) → I ≠ C → I ≠ X → I ≠ D → C ≠ X → C ≠ D → X ≠ D →
      wpAny (model prog w) A (eval elt (compEnvC scope ((x, X) :: cl) C env)) (CellEnd h₀ L m { s₁ with heap := h, toks := tk } I C X D oI oC oX (LCg.lst ys) Led (fun c' y => P (i + 1) (ys ++ [y]) c')) E' { s₁ with heap := h, toks := tk }) ∧
    ∀ (c : σ) (ys : List Value) (D : Addr) (h : Heap) (tk : Nat), P n ys c → ys.length = n → Fr h₀ L h m → News h₀ L h ((D, LCg.lst ys) :: Led c) → (∀ p ∈ Led c, p.1 ≠ D) → Q (.ref D) { s₁ with heap := h, toks := tk }
theorem cells_one {x : Str} {names : List (Str × NameKind)} {k : Addr} {cl : List (Str × Addr)} (h : names.filter (fun y => y.2 == .cell) = [(x, .cell)]) : cellsFrom k names cl = (x, k) :: cl := by
  induction names with
  | nil => cases h
  | cons y r ih =>
    obtain ⟨nm, kd⟩ := y
    rw [List.filter_cons] at h
    unfold cellsFrom
    by_cases hk : (kd == .cell) = true
    · simp only [hk, if_true] at h ⊢
      injection h with h1 h2
      have e1 : nm = x := congrArg Prod.fst h1
      subst e1
      clear ih h1
      have : ∀ (r : List (Str × NameKind)) (k : Addr) (acc : List (Str × Addr)), r.filter (fun y => y.2 == .cell) = [] → cellsFrom k r acc = acc := by
        intro r
        induction r with
        | nil => intro k acc _; rfl
        | cons z r ih =>
          intro k acc hz
          obtain ⟨nz, kz⟩ := z
          rw [List.filter_cons] at hz
          by_cases q : (kz == .cell) = true
          · simp [q] at hz
          · simp only [q, Bool.false_eq_true, if_false] at hz
            unfold cellsFrom
            simp only [q, Bool.false_eq_true, if_false]
            exact ih k acc hz
      exact this r _ _ h2
    · simp only [hk, Bool.false_eq_true, if_false] at h ⊢
      exact ih h
theorem push_one {x : Str} {names : List (Str × NameKind)} {hp : Heap} (h : names.filter (fun y => y.2 == .cell) = [(x, .cell)]) : pushCells hp names = hp.push { cls := .type "cell", data := .cell none } := by
  induction names generalizing hp with
  | nil => cases h
  | cons y r ih =>
    obtain ⟨nm, kd⟩ := y
    rw [List.filter_cons] at h
    unfold pushCells
    by_cases hk : (kd == .cell) = true
    · simp only [hk, if_true] at h ⊢
      injection h with h1 h2
      clear ih h1
      have : ∀ (r : List (Str × NameKind)) (hp : Heap), r.filter (fun y => y.2 == .cell) = [] → pushCells hp r = hp := by
        intro r
        induction r with
        | nil => intro hp _; rfl
        | cons z r ih =>
          intro hp hz
          obtain ⟨nz, kz⟩ := z
          rw [List.filter_cons] at hz
          by_cases q : (kz == .cell) = true
          · simp [q] at hz
          · simp only [q, Bool.false_eq_true, if_false] at hz
            unfold pushCells
            simp only [q, Bool.false_eq_true, if_false]
            exact ih hp hz
      exact this r _ h2
    · simp only [hk, Bool.false_eq_true, if_false] at h ⊢
      exact ih h
theorem relabel_cell {env : Env} {scope : Scope} {x : Str} (h : scope.names.lookup x = some .cell) : (relabel scope env).names.lookup x = some .cell := by
  have : ∀ names : List (Str × NameKind), names.lookup x = some .cell →
      (names.map fun (n, k) => if (k == NameKind.free && env.scope.kind == .function && env.kindOf n == some .cell) then (n, NameKind.cell) else (n, k)).lookup x = some .cell := by
    intro names
    induction names with
    | nil => intro h; simp at h
    | cons y r ih =>
      intro h
      obtain ⟨n, k⟩ := y
      rw [List.map_cons]
      by_cases hx : (x == n) = true
      · rw [List.lookup_cons, hx] at h
        cases h
        simp [List.lookup_cons, hx]
      · have hx' : (x == n) = false := by simpa using hx
        rw [List.lookup_cons, hx'] at h
        by_cases hc : (k == NameKind.free && env.scope.kind == .function && env.kindOf n == some .cell) = true
        · simp only [hc, if_true, List.lookup_cons, hx']; exact ih h
        · simp only [hc, Bool.false_eq_true, if_false, List.lookup_cons, hx']; exact ih h
  exact this _ h
theorem newEnv_cell {M : Model} {scope : Scope} {x : Str} {cl : List (Str × Addr)} {Q : Env → Shared → Prop} (hone : scope.names.filter (fun y => y.2 == .cell) = [(x, .cell)])
    (h : Q { scope := scope, locals := s.heap.objs.size, globals := env.globals, cells := (x, s.heap.objs.size + 1) :: cl, qual := env.qual, func := none, code := env.code, frame := env.frame, builtins := env.builtins } { s with heap := (s.heap.push { cls := .type "dict", data := .dict #[] }).push { cls := .type "cell", data := .cell none } }) :
    wpAny M A (newFunctionEnv scope env.globals cl [] env.qual none .none (some env)) Q E s := by
  simp only [newFunctionEnv, Option.isSome_some, if_true]
  refine wpAny_bind (wpAny_alloc ?_)
  refine wpAny_bind (wpAny_layCells _ (fun name kind cells => by cases hkc : kind == NameKind.cell <;> simp [hkc]) _ _ _ _ ?_)
  rw [cells_one hone, push_one hone]
  rw [List.forIn_nil]
  refine wpAny_bind (wpAny_pure (wpAny_pure ?_))
  have e : ({ s with heap := s.heap.push { cls := .type "dict", data := .dict #[] } } : Shared).heap.objs.size = s.heap.objs.size + 1 := Heap.size_push ..
  rw [e]
  exact h
theorem get_two {h : Heap} {o1 o2 : Obj} (hf : o2.isFreed = false) : ((h.push o1).push o2).get? (h.objs.size + 1) = some o2 := by
  have := Heap.get?_push_size (h.push o1) (o := o2) hf
  rw [Heap.size_push] at this; exact this
/-- a comprehension over a range whose variable is a cell -/
theorem listcomp_cell {σ : Type} {elt iter : PySem.Expr} {x : Str} {px : Pos} {scope : Scope} {cl : List (Str × Addr)} {pos : Pos} {Q : Value → Shared → Prop} (Led : σ → List (Addr × Obj)) (P : Nat → List Value → σ → Prop) (n : Nat) (c₀ : σ) (_F₀ : Fr h₀ L s.heap m)
    (hclos : closureFor scope env = pure cl) (hone : scope.names.filter (fun y => y.2 == .cell) = [(x, .cell)]) (hkind : scope.kind = .function)
    (hnames : ∀ y ∈ scope.names, y.2 = .local → scope.names.lookup y.1 = some .local) (hx : scope.names.lookup x = some .cell)
    (h : wpAny (model prog w) A (eval iter env) (CellSrc prog w A h₀ L m env elt x scope cl Led P n c₀ Q) E s)
    (hs : ∀ x, foldedSetIterable iter env x = pure x := by intro _; rfl) :
    wpAny (model prog w) A (eval (.ListComp elt [⟨.Name x px, iter, [], 0⟩] scope pos) env) Q E s := by
  rw [eval_ListComp]
  refine wpAny_comprehension_free (use := none) rfl hs hclos hkind hnames (wpAny_mono h (fun xv s₁ h₁ => ?_) fun _ _ e => e)
  obtain ⟨r, t₀, u₀, v₀, rfl, hh, F, N, hr, hn, hp, turn, done⟩ := h₁
  refine wpAny_pyIter_range hr (small_one (by omega) (by omega) (by omega) (by omega)) ?_
  refine wpAny_newObj_type (newEnv_cell hone ?_)
  generalize hI : s₁.heap.objs.size = I
  have W : Walks prog w A I [I] [I] n (fun i v => i < n ∧ ∃ t, v = .int (0 + i * 1) t) (fun i h => IsRangeIter h I (0 + (i : Nat) * 1) ((n : Int) - (i : Nat)) 1) := (Walks.range hh I 0 1 n).bound
  generalize hH : ((((s₁.heap.push { cls := .type "range_iterator", data := .fields #[rawInt 0, rawInt (Builtin.Range.rangeSize 0 (n : Int) 1), rawInt 1] }).push { cls := .type "list", data := .seq #[] }).push { cls := .type "dict", data := .dict #[] }).push { cls := .type "cell", data := .cell none }) = H
  have z1 : (s₁.heap.push { cls := .type "range_iterator", data := .fields #[rawInt 0, rawInt (Builtin.Range.rangeSize 0 (n : Int) 1), rawInt 1] }).objs.size = I + 1 := by rw [Heap.size_push, hI]
  have z2 : ((s₁.heap.push { cls := .type "range_iterator", data := .fields #[rawInt 0, rawInt (Builtin.Range.rangeSize 0 (n : Int) 1), rawInt 1] }).push { cls := .type "list", data := .seq #[] }).objs.size = I + 1 + 1 := by rw [Heap.size_push, z1]
  have z3 : (((s₁.heap.push { cls := .type "range_iterator", data := .fields #[rawInt 0, rawInt (Builtin.Range.rangeSize 0 (n : Int) 1), rawInt 1] }).push { cls := .type "list", data := .seq #[] }).push { cls := .type "dict", data := .dict #[] }).objs.size = I + 1 + 1 + 1 := by rw [Heap.size_push, z2]
  have gI : H.get? I = some { cls := .type "range_iterator", data := .fields #[rawInt 0, rawInt (Builtin.Range.rangeSize 0 (n : Int) 1), rawInt 1] } := by
    rw [← hH]; exact Heap.get?_push_of_some _ (Heap.get?_push_of_some _ (Heap.get?_push_of_some _ (by rw [← hI]; exact Heap.get?_push_size _ rfl)))
  have gD : H.get? (I + 1) = some (LCg.lst []) := by
    rw [← hH, ← z1]; exact Heap.get?_push_of_some _ (Heap.get?_push_of_some _ (Heap.get?_push_size _ rfl))
  have nC : H.Ns (I + 1 + 1) (fun _ => none) := by
    rw [← hH, ← z2]; exact (Heap.Ns.new _ (.type "dict")).push _
  have gX : H.get? (I + 1 + 1 + 1) = some { cls := .type "cell", data := .cell none } := by
    rw [← hH, ← z3]; exact Heap.get?_push_size _ rfl
  have old : ∀ b o, s₁.heap.get? b = some o → H.get? b = some o := fun b o e => by
    rw [← hH]; exact Heap.get?_push_of_some _ (Heap.get?_push_of_some _ (Heap.get?_push_of_some _ (Heap.get?_push_of_some _ e)))
  have ltI : ∀ b o, s₁.heap.get? b = some o → b < I := fun b o e => hI ▸ Heap.lt_size e
  have fresh : ∀ b, I ≤ b → h₀.get? b = none := fun b hb => by
    cases e : h₀.get? b with
    | none => rfl
    | some o => exact absurd (ltI b o (F.keep b o e)) (Nat.not_lt.mpr hb)
  have hLI : L < I := hI ▸ F.ns.lt
  have i1 : I ≤ I + 1 := Nat.le_succ _
  have i2 : I ≤ I + 1 + 1 := Nat.le_add_right I 2
  have i3 : I ≤ I + 1 + 1 + 1 := Nat.le_add_right I 3
  have nI : I ≠ L := Nat.ne_of_gt hLI
  have nD : I + 1 ≠ L := Nat.ne_of_gt (Nat.lt_of_lt_of_le hLI i1)
  have nCL : I + 1 + 1 ≠ L := Nat.ne_of_gt (Nat.lt_of_lt_of_le hLI i2)
  have nX : I + 1 + 1 + 1 ≠ L := Nat.ne_of_gt (Nat.lt_of_lt_of_le hLI i3)
  have dIC : I ≠ I + 1 + 1 := Nat.ne_of_lt (Nat.lt_of_lt_of_le (Nat.lt_succ_self I) (Nat.le_succ (I + 1)))
  have dIX : I ≠ I + 1 + 1 + 1 := Nat.ne_of_lt (Nat.lt_of_lt_of_le (Nat.lt_succ_self I) (Nat.le_add_right (I + 1) 2))
  have dID : I ≠ I + 1 := Nat.ne_of_lt (Nat.lt_succ_self I)
  have dCX : I + 1 + 1 ≠ I + 1 + 1 + 1 := Nat.ne_of_lt (Nat.lt_succ_self _)
  have dCD : I + 1 + 1 ≠ I + 1 := Nat.ne_of_gt (Nat.lt_succ_self _)
  have dXD : I + 1 + 1 + 1 ≠ I + 1 := Nat.ne_of_gt (Nat.lt_of_lt_of_le (Nat.lt_succ_self (I + 1)) (Nat.le_succ (I + 1 + 1)))
  have off0 : Off4 I (I + 1 + 1) (I + 1 + 1 + 1) (I + 1) (Led c₀) := fun p hp => by
    have l := ltI _ _ (N p hp).1
    exact ⟨Nat.ne_of_lt l, Nat.ne_of_lt (Nat.lt_of_lt_of_le l i2), Nat.ne_of_lt (Nat.lt_of_lt_of_le l i3), Nat.ne_of_lt (Nat.lt_of_lt_of_le l i1)⟩
  have st0 : IsRangeIter H I (0 + ((0 : Nat) : Nat) * 1) ((n : Int) - ((0 : Nat) : Nat)) 1 := by
    have e : Builtin.Range.rangeSize 0 (n : Int) 1 = (n : Int) := by rw [rangeSize_one]; split <;> omega
    rw [e] at gI
    simpa [IsRangeIter] using gI
  have loop : ∀ (tk : Nat) (R : Result → Shared → Prop), (∀ (c : σ) (ys : List Value) (h' : Heap) (tk : Nat) (m' : Str → Option Value), P n ys c → ys.length = n → Fr h₀ L h' m → News h₀ L h' ((I + 1, LCg.lst ys) :: Led c) → Off4 I (I + 1 + 1) (I + 1 + 1 + 1) (I + 1) (Led c) → h'.Ns (I + 1 + 1) m' → R (.ok .next) { s₁ with heap := h', toks := tk }) →
      codeAny (model prog w) A (.compLoop (.ListComp elt [⟨.Name x px, iter, [], 0⟩] scope pos) 0 (.ref I) (.ref (I + 1)) (compEnvC scope ((x, I + 1 + 1 + 1) :: cl) (I + 1 + 1) env)) R { s₁ with heap := H, toks := tk } := by
    intro tk R hR
    refine codeAny_compLoop_tests
      (fun k s' => ∃ (h' : Heap) (tk : Nat) (i : Nat) (ys : List Value) (c : σ) (m' : Str → Option Value) (oX : Obj), s' = { s₁ with heap := h', toks := tk } ∧ i ≤ n ∧ k = n + 1 - i ∧ ys.length = i ∧ IsRangeIter h' I (0 + (i : Nat) * 1) ((n : Int) - (i : Nat)) 1 ∧ Fr h₀ L h' m ∧ h'.Ns (I + 1 + 1) m' ∧ (∃ v, oX.data = .cell v) ∧
        News h₀ L h' ((I + 1 + 1 + 1, oX) :: (I + 1, LCg.lst ys) :: Led c) ∧ Off4 I (I + 1 + 1) (I + 1 + 1 + 1) (I + 1) (Led c) ∧ P i ys c) ?_ (n + 1)
      ⟨H, tk, 0, [], c₀, _, { cls := .type "cell", data := .cell none }, rfl, Nat.zero_le _, rfl, rfl, ?_, F.keeps old, nC, ⟨none, rfl⟩, ?_, off0, hp⟩
    · rintro k s' ⟨h', tk, i, ys, c, m', oX, rfl, hi, rfl, hyl, hst', F', hn', ⟨vX, hvX⟩, N', off', hP⟩
      by_cases hlt : i < n
      · refine W.item i _ _ _ hlt hst' fun v h₂ tk₂ hPv hst₂ hk₂ => ?_
        obtain ⟨_, tv, rfl⟩ := hPv
        have ev : (0 : Int) + (i : Nat) * 1 = (i : Int) := by omega
        rw [ev]
        have N₂ : News h₀ L h₂ ((I + 1 + 1 + 1, oX) :: (I + 1, LCg.lst ys) :: Led c) := LCg.news_but N' hk₂ fun p hp => by
          rcases List.mem_cons.mp hp with rfl | hp
          · exact dIX.symm
          · rcases List.mem_cons.mp hp with rfl | hp
            · exact dID.symm
            · exact (off' p hp).1
        have F₂ : Fr h₀ L h₂ m := LCg.fr_but F' hk₂ nI.symm (fresh _ (Nat.le_refl _))
        have n₂ : h₂.Ns (I + 1 + 1) m' := hn'.at' fun o e => hk₂ _ o (by simpa using dIC.symm) e
        refine wpAny_assign_Name (wpAny_storeName_cell (c := I + 1 + 1 + 1) (by simp [compEnvC, relabel, hkind]) (relabel_cell hx) (by simp [compEnvC]) ⟨oX, (N₂ _ List.mem_cons_self).1, hvX⟩ (fun h₃ hv₃ hs₃ => ?_))
        refine wpAny_tests_nil ?_
        simp only [if_true]
        obtain ⟨oX', eX', dX'⟩ := hv₃
        have st₃ : IsRangeIter h₃ I (0 + ((i + 1 : Nat) : Nat) * 1) ((n : Int) - ((i + 1 : Nat) : Nat)) 1 := hs₃.extBut _ _ dIX hst₂
        have n₃ : h₃.Ns (I + 1 + 1) m' := n₂.sameBut hs₃ dCX
        obtain ⟨oC, eC, nsC⟩ := LCg.ns_obj n₃
        have F₃ : Fr h₀ L h₃ m := F₂.change hs₃ nX (fresh _ i3)
        have N₃ : News h₀ L h₃ ((I, _) :: (I + 1 + 1, oC) :: (I + 1 + 1 + 1, oX') :: (I + 1, LCg.lst ys) :: Led c) := fun p hp => by
          rcases List.mem_cons.mp hp with rfl | hp
          · exact ⟨st₃, nI, fresh _ (Nat.le_refl _)⟩
          · rcases List.mem_cons.mp hp with rfl | hp
            · exact ⟨eC, nCL, fresh _ i2⟩
            · rcases List.mem_cons.mp hp with rfl | hp
              · exact ⟨eX', nX, fresh _ i3⟩
              · have zz := N₂ p (List.mem_cons_of_mem _ hp)
                refine ⟨hs₃.extBut _ _ ?_ zz.1, zz.2⟩
                rcases List.mem_cons.mp hp with rfl | hp
                · exact dXD.symm
                · exact (off' p hp).2.2.1
        refine wpAny_mono (turn i c ys tv I (I + 1 + 1) (I + 1 + 1 + 1) (I + 1) _ oC oX' h₃ _ _ hlt hP F₃ N₃ dX' off' dIC dIX dID dCX dCD dXD) (fun y s₄ h₄ => ?_) fun _ _ e => e
        obtain ⟨c', h₄, tk₄, rfl, F₄, N₄, off₄, hP₄⟩ := h₄
        have zI := (N₄ _ List.mem_cons_self).1
        have zC := (N₄ _ (List.mem_cons_of_mem _ List.mem_cons_self)).1
        have zX := (N₄ _ (List.mem_cons_of_mem _ (List.mem_cons_of_mem _ List.mem_cons_self))).1
        have zD := (N₄ _ (List.mem_cons_of_mem _ (List.mem_cons_of_mem _ (List.mem_cons_of_mem _ List.mem_cons_self)))).1
        have N₄' : News h₀ L h₄ (Led c') := fun p hp => N₄ p (List.mem_cons_of_mem _ (List.mem_cons_of_mem _ (List.mem_cons_of_mem _ (List.mem_cons_of_mem _ hp))))
        refine append_at (hsz := by show ys.toArray.size ≤ sizeLine; rw [List.size_toArray, hyl, sizeLine_eq]; omega) zD fun h₅ hs₅ hD₅ => ?_
        refine ⟨n + 1 - (i + 1), by omega, h₅, tk₄, i + 1, ys ++ [y], c', m', oX', rfl, hlt, rfl, by rw [List.length_append, List.length_singleton, hyl], hs₅.extBut _ _ dID zI, F₄.change hs₅ nD (fresh _ i1), (nsC.ns zC).sameBut hs₅ dCD, ⟨_, dX'⟩, fun p hp => ?_, off₄, hP₄⟩
        rcases List.mem_cons.mp hp with rfl | hp
        · exact ⟨hs₅.extBut _ _ dXD zX, nX, fresh _ i3⟩
        · rcases List.mem_cons.mp hp with rfl | hp
          · exact ⟨hD₅.trans (congrArg some (LCg.lst_snoc ys y)), nD, fresh _ i1⟩
          · exact ⟨hs₅.extBut _ _ (off₄ p hp).2.2.2 (N₄' p hp).1, (N₄' p hp).2⟩
      · obtain rfl : i = n := Nat.le_antisymm hi (Nat.not_lt.mp hlt)
        refine W.done _ _ _ hst' fun h₂ tk₂ hk₂ => ?_
        exact hR c ys h₂ tk₂ m' hP hyl (LCg.fr_but F' hk₂ nI.symm (fresh _ (Nat.le_refl _))) (LCg.news_but (fun p hp => N' p (List.mem_cons_of_mem _ hp)) hk₂ fun p hp => by
          rcases List.mem_cons.mp hp with rfl | hp
          · exact dID.symm
          · exact (off' p hp).1) off' (hn'.at' fun o e => hk₂ _ o (by simpa using dIC.symm) e)
    · exact st0
    · intro p hp
      rcases List.mem_cons.mp hp with rfl | hp
      · exact ⟨gX, nX, fresh _ i3⟩
      · rcases List.mem_cons.mp hp with rfl | hp
        · exact ⟨gD, nD, fresh _ i1⟩
        · exact ⟨old _ _ (N p hp).1, (N p hp).2⟩
  dsimp only
  rw [z1, z2]
  have fin : ∀ (c : σ) (ys : List Value) (h' : Heap) (tk : Nat) (m' : Str → Option Value), P n ys c → ys.length = n → Fr h₀ L h' m → News h₀ L h' ((I + 1, LCg.lst ys) :: Led c) → Off4 I (I + 1 + 1) (I + 1 + 1 + 1) (I + 1) (Led c) → h'.Ns (I + 1 + 1) m' →
      compPost (model prog w) A E none Q (.ref (I + 1)) (I + 1 + 1) (.ok .next) { s₁ with heap := h', toks := tk } := by
    intro c ys h' tk m' hP hyl F' N' off' n'
    refine ⟨m', n', fun h'' hs'' => done c ys (I + 1) h'' tk hP hyl (F'.change hs'' nCL (fresh _ i2)) (fun p hp => ?_) fun p hp => (off' p hp).2.2.2⟩
    refine ⟨hs''.extBut _ _ ?_ (N' p hp).1, (N' p hp).2⟩
    rcases List.mem_cons.mp hp with rfl | hp
    · exact dCD.symm
    · exact (off' p hp).2.1
  exact codeAny_compStart_list (loop _ _ fin) (W.self 0 _ _ _ st0 (loop _ _ fin))
end
end Mine
end
section
open PySem PySem.W PyProof.Rows PySem.Calls PySem.Spec PyProof
set_option maxRecDepth 100000
set_option maxHeartbeats 8000000
namespace Mine
theorem calmLaw : True := by
  w_top off
  trivial
set_option pp.deepTerms false
set_option pp.maxSteps 6000
set_option pp.deepTerms.threshold 8
-- steps up to what is told by hand
local macro_rules | `(tactic| k_all) => `(tactic| with_reducible assumption)
local macro_rules | `(tactic| k_mem) => `(tactic| (first | with_reducible assumption | exact List.Mem.head _ | (with_reducible refine List.mem_cons_of_mem _ ?_; k_mem) | (with_reducible refine List.mem_append_left _ ?_; k_mem) | (with_reducible refine List.mem_append_right _ ?_; k_mem)))
local macro_rules | `(tactic| walk_at "callWith ref") => `(tactic| (k_here; k_dflt (refine' callWith_K ?k1 ?k2 ?_; (case k1 => k_asm); (case k2 => k_is); k_whole)))
local macro_rules | `(tactic| walk_at "callWith ref") => `(tactic| (k_here; (try dsimp only); (with_reducible show wpAny _ _ (callWith _ _ _ (backTo _ (starEach [] _)) []) _ _ _); k_dflt (refine' callWith_K0 ?k1 ?k2 ?_; (case k1 => exact Frag.In.keeps (by k_asm) (Fr.keep (by k_asm))); (case k2 => k_is); k_whole); (try dsimp only [List.nil_append, List.cons_append])))
local macro_rules | `(tactic| walk_at "call builtin:len") => `(tactic| (k_here; (with_reducible show wpAny _ _ (call (Value.builtin "len") [Value.ref _]) _ _ _); k_dflt (refine' len_led ?k1 ?k2 ?k3 ?_; (case k1 => k_asm); (case k2 => k_mem); (case k3 => omega))))
local macro_rules | `(tactic| walk_at "call type:range") => `(tactic| ((rename Fr _ _ _ _ => F'); (rename News _ _ _ _ => N'); (with_unfolding_all refine range1_rows F' N' ?_; intro _ _ _ _ _ _ _ _ _)))
local macro_rules | `(tactic| walk_at "subscriptTail") => `(tactic| (k_here; (try dsimp only); (show wpAny _ _ (subscriptTail _ _ (Value.ref _) (Value.int _ _)) _ _ _); k_dflt (refine' item_led ?k1 ?k2 ?k3 ?k4 ?k5 ?_ ?k6; (case k1 => k_asm); (case k2 => k_mem); (case k3 | k4 => omega); (case k5 => assumption); (case k6 => with_unfolding_all rfl))))
local macro_rules | `(tactic| walk_at "binaryOp Mod str ref") => `(tactic| (k_here; (with_reducible show wpAny _ _ (binaryOp Operator.Mod (Value.str _ _) (Value.ref _)) _ _ _); k_dflt (refine' pct3 ?k1 ?k2 ?k0 ?k3 ?k4 ?k5 ?k6 ?_; (case k1 => k_asm); (case k2 => exact List.Mem.head _); (case k0 => exact item_nN _); (case k3 | k4 => rfl); (case k5 | k6 => omega)); intro _ _))
local macro_rules | `(tactic| walk_at "subscriptTail") => `(tactic| (k_here; (try dsimp only); (show wpAny _ _ (subscriptTail _ _ (Value.ref _) (Value.int (-1) _)) _ _ _); k_dflt (refine' last_led ?k1 ?k2 ?k3 ?k4 ?k5 ?_ ?k6; (case k1 => k_asm); (case k2 => k_mem); (case k3 => assumption); (case k4 => omega); (case k5 => assumption); (case k6 => with_unfolding_all rfl))))
theorem law_post (l : List Int) : PySem.Challenge.rw_pe0242_01.row.claim.post [ofPy (PyData.list (List.map PyData.int l))] (WData.bool true) [ofPy (PyData.list (List.map PyData.int l))] = true := by
  wrow_post
theorem cell_int {o : Obj} {i : Int} {t : Tok} (h : o.data = .cell (some (.int i t))) : ∃ t, o.data = .cell (some (.int i t)) := ⟨t, h⟩
theorem strs_append {vs us : List Value} {a b : List Str} (h : StrsAre vs a) (g : StrsAre us b) : StrsAre (vs ++ us) (a ++ b) := by
  induction h with
  | nil => exact g
  | cons y t r ih => exact .cons y t ih
theorem sts_of : ∀ {wl : List (List Nat)} {vs : List Value}, StrsAre vs (wl.map fun x => st x) → StsAre vs wl
  | [], vs, h => by cases h; exact ⟨rfl, fun i hi => absurd hi (Nat.not_lt_zero i)⟩
  | x :: wl, vs, h => by
    generalize hl : (x :: wl).map (fun x => st x) = ls at h
    cases h with
    | nil => cases hl
    | cons y t r =>
      injection hl with e1 e2
      subst e1
      subst e2
      obtain ⟨h1, h2⟩ := sts_of r
      refine ⟨by simp [h1], fun i hi => ?_⟩
      cases i with
      | zero => exact ⟨t, rfl⟩
      | succ i => simpa using h2 i (by simpa using hi)
def four : List (List Nat) := [[97], [98], [45], [65]]
theorem four_strs {t1 t2 t3 t4 : Tok} : StrsAre [.str (Str.ofString "a") t1, .str (Str.ofString "b") t2, .str (Str.ofString "-") t3, .str (Str.ofString "A") t4] (four.map fun x => st x) := by
  have e : four.map (fun x => st x) = [Str.ofString "a", Str.ofString "b", Str.ofString "-", Str.ofString "A"] := by decide +kernel
  rw [e]
  exact .cons _ _ (.cons _ _ (.cons _ _ (.cons _ _ .nil)))
theorem sg_four {i : Int} (h0 : 0 ≤ i) (h1 : i < 4) : sg i ∈ fourS := by
  have : i = 0 ∨ i = 1 ∨ i = 2 ∨ i = 3 := by omega
  rcases this with rfl | rfl | rfl | rfl <;> decide
theorem wordF_W {x : Int} : IsW (wordF x) := by
  have h3 : 0 ≤ x.fmod 3 ∧ x.fmod 3 < 3 := by rw [Int.fmod_eq_emod_of_nonneg _ (by decide)]; omega
  unfold wordF
  refine ⟨by rw [List.length_map, rangeKs_length]; omega, by rw [List.length_map, rangeKs_length]; omega, ?_⟩
  intro a ha
  obtain ⟨k, _, rfl⟩ := List.mem_map.mp ha
  exact sg_four (by rw [Int.fmod_eq_emod_of_nonneg _ (by decide)]; omega) (by rw [Int.fmod_eq_emod_of_nonneg _ (by decide)]; omega)
theorem four_W : ∀ x ∈ four, IsW x := by
  intro x hx
  simp only [four, List.mem_cons, List.not_mem_nil, or_false] at hx
  rcases hx with rfl | rfl | rfl | rfl <;> exact ⟨by decide, by decide, by decide⟩
theorem sts_append {vs us : List Value} {x y : List (List Nat)} (h : StsAre vs x) (g : StsAre us y) : StsAre (vs ++ us) (x ++ y) := by
  refine ⟨by rw [List.length_append, List.length_append, h.1, g.1], fun i hi => ?_⟩
  rw [List.length_append] at hi
  by_cases q : i < x.length
  · obtain ⟨t, e⟩ := h.2 i q
    refine ⟨t, ?_⟩
    rw [List.getElem?_append_left (by rw [h.1]; exact q), e, List.getD_eq_getElem?_getD, List.getD_eq_getElem?_getD, List.getElem?_append_left q]
  · obtain ⟨t, e⟩ := g.2 (i - x.length) (by omega)
    refine ⟨t, ?_⟩
    rw [List.getElem?_append_right (by rw [h.1]; omega), h.1, e, List.getD_eq_getElem?_getD, List.getD_eq_getElem?_getD, List.getElem?_append_right (by omega)]
theorem sts_one {x : List Nat} {t : Tok} : StsAre [.str (st x) t] [x] := ⟨rfl, fun i hi => by
  have : i = 0 := by simpa using hi
  subst this; exact ⟨t, rfl⟩⟩
theorem sum_bound : ∀ l : List Int, (∀ k ∈ l, 0 ≤ k ∧ k < 1000000) → 0 ≤ l.sum ∧ l.sum ≤ 1000000 * (l.length : Int)
  | [], _ => by simp
  | a :: l, h => by
    have h1 := h a (by simp)
    have h2 := sum_bound l fun k hk => h k (by simp [hk])
    rw [List.sum_cons, List.length_cons]
    omega
section
variable {prog : Program} {w : World} {A : Around} {E : Value → Shared → Prop} {s : Shared} {h₀ : Heap} {L : Addr} {m : Str → Option Value} {news : List (Addr × Obj)} {Q : Value → Shared → Prop}
theorem add_LT {l b : Addr} {vs us : List Value} {k k' : Nat} {x y : List (List Nat)} (F : Fr h₀ L s.heap m) (N : News h₀ L s.heap news) (hl : (l, W.listOf vs.toArray k) ∈ news) (hb : (b, W.listOf us.toArray k') ∈ news) (hsz : vs.length + us.length ≤ 100000)
    (hv : StsAre vs x) (hu : StsAre us y)
    (h : ∀ D ws h', StsAre ws (x ++ y) → (∀ p ∈ news, p.1 < D) → Fr h₀ L h' m → News h₀ L h' ((D, W.listOf (List.toArray ws) 0) :: news) → Q (.ref D) { s with heap := h' }) : wpAny (model prog w) A (binaryOp .Add (.ref l) (.ref b)) Q E s :=
  add_L F N hl hb hsz fun D h' hD F' N' => h D _ h' (sts_append hv hu) hD F' N'
theorem news_d2 {h : Heap} {x y z : Addr × Obj} {r : List (Addr × Obj)} (N : News h₀ L h (x :: y :: z :: r)) : News h₀ L h (x :: r) := cb_drop N fun p hp => by
  rcases List.mem_cons.mp hp with h | h
  · rw [h]; exact List.mem_cons_self
  · exact List.mem_cons_of_mem _ (List.mem_cons_of_mem _ (List.mem_cons_of_mem _ h))
theorem add_LS {l b : Addr} {vs us : List Value} {k k' : Nat} {x y : List (List Nat)} (F : Fr h₀ L s.heap m) (N : News h₀ L s.heap news) (hl : (l, W.listOf vs.toArray k) ∈ news) (hb : (b, W.listOf us.toArray k') ∈ news) (hsz : vs.length + us.length ≤ 100000)
    (hv : StrsAre vs (x.map fun x => st x)) (hu : StrsAre us (y.map fun x => st x))
    (h : ∀ D ws h', StsAre ws (x ++ y) → (∀ p ∈ news, p.1 < D) → Fr h₀ L h' m → News h₀ L h' ((D, W.listOf (List.toArray ws) 0) :: news) → Q (.ref D) { s with heap := h' }) : wpAny (model prog w) A (binaryOp .Add (.ref l) (.ref b)) Q E s :=
  add_L F N hl hb hsz fun D h' hD F' N' => h D _ h' (sts_of (by rw [List.map_append]; exact strs_append hv hu)) hD F' N'
end
theorem wpAny_opaque {α : Type} {M : Model} {A : Around} {c : Sem α} {Q : α → Shared → Prop} {E : Value → Shared → Prop} {s : Shared}
    (h : ∀ (Qz : α → Shared → Prop) (Ez : Value → Shared → Prop), (∀ f s, Q f s → Qz f s) → (∀ e s, E e s → Ez e s) → wpAny M A c Qz Ez s) : wpAny M A c Q E s := h Q E (fun _ _ x => x) fun _ _ x => x
theorem lawT : PySem.Challenge.rw_pe0242_01.Holds := hd (by
  k_go0
  all_goals try k_fold
  refine wpAny_opaque ?_
  intro Qz Ez hQz hEz
  iterate 14 walk1
  rename Shared => sB
  rename IntsAre _ (List.map _ _) => hI0
  generalize hnums : List.map (fun k' : Int => k'.fmod (10 ^ Int.toNat 6)) (List.take 4 _) = nums at hI0
  have hnl : nums.length ≤ 4 := by rw [← hnums, List.length_map, List.length_take]; omega
  have hnb : ∀ k ∈ nums, 0 ≤ k ∧ k < 1000000 := by
    intro k hk
    rw [← hnums] at hk
    obtain ⟨y, _, rfl⟩ := List.mem_map.mp hk
    rw [show ((10 : Int) ^ Int.toNat 6) = 1000000 from by decide, Int.fmod_eq_emod_of_nonneg _ (by decide)]
    omega
  (repeat' (first | (k_unfold; (try dsimp only)) | (k_end; wrow_close) | ((fail_if_success (with_reducible show wpAny _ _ (exec (Stmt.While _ _ _ _) _) _ _ _)); (fail_if_success (with_reducible show wpAny _ _ (exec (Stmt.For _ _ _ _ _) _) _ _ _)); (fail_if_success (with_reducible show wpAny _ _ (exec (Stmt.If _ _ _ _) _) _ _ _)); (fail_if_success (with_reducible show wpAny _ _ (eval (Expr.ListComp _ _ _ _) _) _ _ _)); (fail_if_success (with_reducible show wpAny _ _ (exec (Stmt.Assign _ (Expr.ListComp _ _ _ _) _) _) _ _ _)); (fail_if_success (with_reducible show wpAny _ _ (call (Value.ref 201) _ _) _ _ _)); (fail_if_success (with_reducible show wpAny _ _ (call (Value.ref 206) _ _) _ _ _)); (fail_if_success (with_reducible show wpAny _ _ (call (Value.ref 213) _ _) _ _ _)); (fail_if_success (with_reducible show wpAny _ _ (call (Value.ref 220) _ _) _ _ _)); (fail_if_success (with_reducible show wpAny _ _ (call (Value.ref 227) _ _) _ _ _)); (fail_if_success (with_reducible show wpAny _ _ (call (Value.ref 135) _ _) _ _ _)); (fail_if_success (with_reducible show wpAny _ _ (call (Value.ref 77) _ _) _ _ _)); (fail_if_success (with_reducible show wpAny _ _ (call (Value.builtin "list.append") _ _) _ _ _)); (fail_if_success (with_reducible show wpAny _ _ (binaryOp Operator.Add (Value.ref _) (Value.ref _)) _ _ _)); (fail_if_success (with_reducible show wpAny _ _ (compareOp _ (Value.ref _) (Value.ref _)) _ _ _)); (fail_if_success (with_reducible show wpAny _ _ (call (Value.builtin "sorted") _ _) _ _ _)); (fail_if_success (with_reducible show LCg.CompSrc _ _ _ _ _ _ _ _ _ _ _ _ _ _)); (fail_if_success (with_reducible show LCt.CompSrcT _ _ _ _ _ _ _ _ _ _ _ _ _ _ _)); (fail_if_success (with_reducible show ite _ _ _)); (fail_if_success (with_reducible show GoodW _ _ _ _ _ _ _ ∧ _)); (fail_if_success (with_reducible show KPfDone _)); (first | walk1 | (dsimp only; walk1))) | (leave1; walk_say "STEP leave1"; try dsimp only) | fail "no step"))
  k_dflt (refine LCg.ListComp_U (F₀ := by k_asm) (by with_unfolding_all rfl) (by decide) (by rfl) (by decide) (by rfl) ?_)
  (repeat' (first | (k_unfold; (try dsimp only)) | (k_end; wrow_close) | ((fail_if_success (with_reducible show wpAny _ _ (exec (Stmt.While _ _ _ _) _) _ _ _)); (fail_if_success (with_reducible show wpAny _ _ (exec (Stmt.For _ _ _ _ _) _) _ _ _)); (fail_if_success (with_reducible show wpAny _ _ (exec (Stmt.If _ _ _ _) _) _ _ _)); (fail_if_success (with_reducible show wpAny _ _ (eval (Expr.ListComp _ _ _ _) _) _ _ _)); (fail_if_success (with_reducible show wpAny _ _ (exec (Stmt.Assign _ (Expr.ListComp _ _ _ _) _) _) _ _ _)); (fail_if_success (with_reducible show wpAny _ _ (call (Value.ref 201) _ _) _ _ _)); (fail_if_success (with_reducible show wpAny _ _ (call (Value.ref 206) _ _) _ _ _)); (fail_if_success (with_reducible show wpAny _ _ (call (Value.ref 213) _ _) _ _ _)); (fail_if_success (with_reducible show wpAny _ _ (call (Value.ref 220) _ _) _ _ _)); (fail_if_success (with_reducible show wpAny _ _ (call (Value.ref 227) _ _) _ _ _)); (fail_if_success (with_reducible show wpAny _ _ (call (Value.ref 135) _ _) _ _ _)); (fail_if_success (with_reducible show wpAny _ _ (call (Value.ref 77) _ _) _ _ _)); (fail_if_success (with_reducible show wpAny _ _ (call (Value.builtin "list.append") _ _) _ _ _)); (fail_if_success (with_reducible show wpAny _ _ (binaryOp Operator.Add (Value.ref _) (Value.ref _)) _ _ _)); (fail_if_success (with_reducible show wpAny _ _ (compareOp _ (Value.ref _) (Value.ref _)) _ _ _)); (fail_if_success (with_reducible show wpAny _ _ (call (Value.builtin "sorted") _ _) _ _ _)); (fail_if_success (with_reducible show LCg.CompSrc _ _ _ _ _ _ _ _ _ _ _ _ _ _)); (fail_if_success (with_reducible show LCt.CompSrcT _ _ _ _ _ _ _ _ _ _ _ _ _ _ _)); (fail_if_success (with_reducible show ite _ _ _)); (fail_if_success (with_reducible show GoodW _ _ _ _ _ _ _ ∧ _)); (fail_if_success (with_reducible show KPfDone _)); (first | walk1 | (dsimp only; walk1))) | (leave1; walk_say "STEP leave1"; try dsimp only) | fail "no step"))
  refine LCg.CompSrc.ledger (by rfl) (by k_asm) (by k_asm) (by k_mem) (by rw [PySem.sizeLine_eq, List.size_toArray, hI0.length]; omega) ?_
  intro g9
  refine' kct_list (fun k => st (wordF k)) hI0 (fun k' t' I' oI' C' oC' D' m' ys' h' tk' E' hk' hC' hx' F' N' off' ne' mk' => ?_) ?_
  · --H<
    have hkb := hnb k' hk'
    (repeat' (first | (k_unfold; (try dsimp only)) | (k_end; wrow_close) | ((fail_if_success (with_reducible show wpAny _ _ (exec (Stmt.While _ _ _ _) _) _ _ _)); (fail_if_success (with_reducible show wpAny _ _ (exec (Stmt.For _ _ _ _ _) _) _ _ _)); (fail_if_success (with_reducible show wpAny _ _ (exec (Stmt.If _ _ _ _) _) _ _ _)); (fail_if_success (with_reducible show wpAny _ _ (eval (Expr.ListComp _ _ _ _) _) _ _ _)); (fail_if_success (with_reducible show wpAny _ _ (exec (Stmt.Assign _ (Expr.ListComp _ _ _ _) _) _) _ _ _)); (fail_if_success (with_reducible show wpAny _ _ (call (Value.ref 201) _ _) _ _ _)); (fail_if_success (with_reducible show wpAny _ _ (call (Value.ref 206) _ _) _ _ _)); (fail_if_success (with_reducible show wpAny _ _ (call (Value.ref 213) _ _) _ _ _)); (fail_if_success (with_reducible show wpAny _ _ (call (Value.ref 220) _ _) _ _ _)); (fail_if_success (with_reducible show wpAny _ _ (call (Value.ref 227) _ _) _ _ _)); (fail_if_success (with_reducible show wpAny _ _ (call (Value.ref 135) _ _) _ _ _)); (fail_if_success (with_reducible show wpAny _ _ (call (Value.ref 77) _ _) _ _ _)); (fail_if_success (with_reducible show wpAny _ _ (call (Value.builtin "list.append") _ _) _ _ _)); (fail_if_success (with_reducible show wpAny _ _ (binaryOp Operator.Add (Value.ref _) (Value.ref _)) _ _ _)); (fail_if_success (with_reducible show wpAny _ _ (compareOp _ (Value.ref _) (Value.ref _)) _ _ _)); (fail_if_success (with_reducible show wpAny _ _ (call (Value.builtin "sorted") _ _) _ _ _)); (fail_if_success (with_reducible show LCg.CompSrc _ _ _ _ _ _ _ _ _ _ _ _ _ _)); (fail_if_success (with_reducible show LCt.CompSrcT _ _ _ _ _ _ _ _ _ _ _ _ _ _ _)); (fail_if_success (with_reducible show ite _ _ _)); (fail_if_success (with_reducible show GoodW _ _ _ _ _ _ _ ∧ _)); (fail_if_success (with_reducible show KPfDone _)); (first | walk1 | (dsimp only; walk1))) | (leave1; walk_say "STEP leave1"; try dsimp only) | fail "no step"))
    k_dflt (refine' word_call hkb.1 (by omega) ?k1 ?k2 ?k3 ?k4 ?k5 ?kK ?kd ?ku ?_; (case k1 => k_asm); (case k2 => k_asm); (case k3 => k_asm); (case k4 => k_asm); (case k5 => k_asm); (case kK => exact rfl); (case kd => k_room); (case ku => k_units))
    intro t9 h9 tk9 F9 N9
    (repeat' (first | (k_unfold; (try dsimp only)) | (k_end; wrow_close) | ((fail_if_success (with_reducible show wpAny _ _ (exec (Stmt.While _ _ _ _) _) _ _ _)); (fail_if_success (with_reducible show wpAny _ _ (exec (Stmt.For _ _ _ _ _) _) _ _ _)); (fail_if_success (with_reducible show wpAny _ _ (exec (Stmt.If _ _ _ _) _) _ _ _)); (fail_if_success (with_reducible show wpAny _ _ (eval (Expr.ListComp _ _ _ _) _) _ _ _)); (fail_if_success (with_reducible show wpAny _ _ (exec (Stmt.Assign _ (Expr.ListComp _ _ _ _) _) _) _ _ _)); (fail_if_success (with_reducible show wpAny _ _ (call (Value.ref 201) _ _) _ _ _)); (fail_if_success (with_reducible show wpAny _ _ (call (Value.ref 206) _ _) _ _ _)); (fail_if_success (with_reducible show wpAny _ _ (call (Value.ref 213) _ _) _ _ _)); (fail_if_success (with_reducible show wpAny _ _ (call (Value.ref 220) _ _) _ _ _)); (fail_if_success (with_reducible show wpAny _ _ (call (Value.ref 227) _ _) _ _ _)); (fail_if_success (with_reducible show wpAny _ _ (call (Value.ref 135) _ _) _ _ _)); (fail_if_success (with_reducible show wpAny _ _ (call (Value.ref 77) _ _) _ _ _)); (fail_if_success (with_reducible show wpAny _ _ (call (Value.builtin "list.append") _ _) _ _ _)); (fail_if_success (with_reducible show wpAny _ _ (binaryOp Operator.Add (Value.ref _) (Value.ref _)) _ _ _)); (fail_if_success (with_reducible show wpAny _ _ (compareOp _ (Value.ref _) (Value.ref _)) _ _ _)); (fail_if_success (with_reducible show wpAny _ _ (call (Value.builtin "sorted") _ _) _ _ _)); (fail_if_success (with_reducible show LCg.CompSrc _ _ _ _ _ _ _ _ _ _ _ _ _ _)); (fail_if_success (with_reducible show LCt.CompSrcT _ _ _ _ _ _ _ _ _ _ _ _ _ _ _)); (fail_if_success (with_reducible show ite _ _ _)); (fail_if_success (with_reducible show GoodW _ _ _ _ _ _ _ ∧ _)); (fail_if_success (with_reducible show KPfDone _)); (first | walk1 | (dsimp only; walk1))) | (leave1; walk_say "STEP leave1"; try dsimp only) | fail "no step"))
    refine LCg.CompEnd.intro (by assumption) (by assumption) _ (fun p hp => hp) off' (.inr ⟨_, by k_mem, rfl, _, rfl⟩) ⟨rfl, _, rfl⟩
  · unfold KPfDone
    intro ys hc hl
    unfold LCg.FinE
    intro D' h' tk' F' N' o1'
    dsimp only
    (repeat' (first | (k_unfold; (try dsimp only)) | (k_end; wrow_close) | ((fail_if_success (with_reducible show wpAny _ _ (exec (Stmt.While _ _ _ _) _) _ _ _)); (fail_if_success (with_reducible show wpAny _ _ (exec (Stmt.For _ _ _ _ _) _) _ _ _)); (fail_if_success (with_reducible show wpAny _ _ (exec (Stmt.If _ _ _ _) _) _ _ _)); (fail_if_success (with_reducible show wpAny _ _ (eval (Expr.ListComp _ _ _ _) _) _ _ _)); (fail_if_success (with_reducible show wpAny _ _ (exec (Stmt.Assign _ (Expr.ListComp _ _ _ _) _) _) _ _ _)); (fail_if_success (with_reducible show wpAny _ _ (call (Value.ref 201) _ _) _ _ _)); (fail_if_success (with_reducible show wpAny _ _ (call (Value.ref 206) _ _) _ _ _)); (fail_if_success (with_reducible show wpAny _ _ (call (Value.ref 213) _ _) _ _ _)); (fail_if_success (with_reducible show wpAny _ _ (call (Value.ref 220) _ _) _ _ _)); (fail_if_success (with_reducible show wpAny _ _ (call (Value.ref 227) _ _) _ _ _)); (fail_if_success (with_reducible show wpAny _ _ (call (Value.ref 135) _ _) _ _ _)); (fail_if_success (with_reducible show wpAny _ _ (call (Value.ref 77) _ _) _ _ _)); (fail_if_success (with_reducible show wpAny _ _ (call (Value.builtin "list.append") _ _) _ _ _)); (fail_if_success (with_reducible show wpAny _ _ (binaryOp Operator.Add (Value.ref _) (Value.ref _)) _ _ _)); (fail_if_success (with_reducible show wpAny _ _ (compareOp _ (Value.ref _) (Value.ref _)) _ _ _)); (fail_if_success (with_reducible show wpAny _ _ (call (Value.builtin "sorted") _ _) _ _ _)); (fail_if_success (with_reducible show LCg.CompSrc _ _ _ _ _ _ _ _ _ _ _ _ _ _)); (fail_if_success (with_reducible show LCt.CompSrcT _ _ _ _ _ _ _ _ _ _ _ _ _ _ _)); (fail_if_success (with_reducible show ite _ _ _)); (fail_if_success (with_reducible show GoodW _ _ _ _ _ _ _ ∧ _)); (fail_if_success (with_reducible show KPfDone _)); (first | walk1 | (dsimp only; walk1))) | (leave1; walk_say "STEP leave1"; try dsimp only) | fail "no step"))
    have hysS : StrsAre ys ((nums.map wordF).map fun x => st x) := by
      refine StrsAre.ofCarried ?_
      rw [List.map_map, List.map_map]; exact hc
    have lys : ys.length = nums.length := by rw [carriedAll_lenA hc, List.length_map]
    rename News _ _ _ _ => lN
    rename Fr _ _ _ _ => lF
    refine add_LS (vs := [_, _, _, _]) (us := ys) (x := four) (y := nums.map wordF) lF lN (by k_mem) (by k_mem) (by simp only [List.length_cons, List.length_nil]; omega) four_strs hysS ?_
    clear lF lN
    intro Dw ws h10 hwords l10 F10 N10
    clear hysS
    generalize hwl : four ++ nums.map wordF = wl at hwords
    have lwl : wl.length = 4 + nums.length := by rw [← hwl, List.length_append, List.length_map]; rfl
    have lws : ws.length = wl.length := hwords.1
    have hsum : 0 ≤ nums.sum ∧ nums.sum ≤ 4000000 := by
      have := sum_bound nums hnb
      omega
    have hW : ∀ x ∈ wl, IsW x := by
      intro x hx
      rw [← hwl] at hx
      rcases List.mem_append.mp hx with hx | hx
      · exact four_W x hx
      · obtain ⟨k, _, rfl⟩ := List.mem_map.mp hx
        exact wordF_W
    k_lt l10
    have N11 := news_d2 N10
    clear N10 o1' hc hl
    (repeat' (first | (k_unfold; (try dsimp only)) | (k_end; wrow_close) | ((fail_if_success (with_reducible show wpAny _ _ (exec (Stmt.While _ _ _ _) _) _ _ _)); (fail_if_success (with_reducible show wpAny _ _ (exec (Stmt.For _ _ _ _ _) _) _ _ _)); (fail_if_success (with_reducible show wpAny _ _ (exec (Stmt.If _ _ _ _) _) _ _ _)); (fail_if_success (with_reducible show wpAny _ _ (eval (Expr.ListComp _ _ _ _) _) _ _ _)); (fail_if_success (with_reducible show wpAny _ _ (exec (Stmt.Assign _ (Expr.ListComp _ _ _ _) _) _) _ _ _)); (fail_if_success (with_reducible show wpAny _ _ (call (Value.ref 201) _ _) _ _ _)); (fail_if_success (with_reducible show wpAny _ _ (call (Value.ref 206) _ _) _ _ _)); (fail_if_success (with_reducible show wpAny _ _ (call (Value.ref 213) _ _) _ _ _)); (fail_if_success (with_reducible show wpAny _ _ (call (Value.ref 220) _ _) _ _ _)); (fail_if_success (with_reducible show wpAny _ _ (call (Value.ref 227) _ _) _ _ _)); (fail_if_success (with_reducible show wpAny _ _ (call (Value.ref 135) _ _) _ _ _)); (fail_if_success (with_reducible show wpAny _ _ (call (Value.ref 77) _ _) _ _ _)); (fail_if_success (with_reducible show wpAny _ _ (call (Value.builtin "list.append") _ _) _ _ _)); (fail_if_success (with_reducible show wpAny _ _ (binaryOp Operator.Add (Value.ref _) (Value.ref _)) _ _ _)); (fail_if_success (with_reducible show wpAny _ _ (compareOp _ (Value.ref _) (Value.ref _)) _ _ _)); (fail_if_success (with_reducible show wpAny _ _ (call (Value.builtin "sorted") _ _) _ _ _)); (fail_if_success (with_reducible show LCg.CompSrc _ _ _ _ _ _ _ _ _ _ _ _ _ _)); (fail_if_success (with_reducible show LCt.CompSrcT _ _ _ _ _ _ _ _ _ _ _ _ _ _ _)); (fail_if_success (with_reducible show ite _ _ _)); (fail_if_success (with_reducible show GoodW _ _ _ _ _ _ _ ∧ _)); (fail_if_success (with_reducible show KPfDone _)); (first | walk1 | (dsimp only; walk1))) | (leave1; walk_say "STEP leave1"; try dsimp only) | fail "no step"))
    k_dflt (refine' word_call (by omega) (by omega) ?k1 ?k2 ?k3 ?k4 ?k5 ?kK ?kd ?ku ?_; (case k1 => k_asm); (case k2 => k_asm); (case k3 => k_asm); (case k4 => k_asm); (case k5 => k_asm); (case kK => exact rfl); (case kd => k_room); (case ku => k_units))
    intro t9 h9 tk9 F9 N9
    have hsW : IsW (wordF (nums.sum + 13)) := wordF_W
    generalize hsw : wordF (nums.sum + 13) = sw at F9 hsW ⊢
    (repeat' (first | (k_unfold; (try dsimp only)) | (k_end; wrow_close) | ((fail_if_success (with_reducible show wpAny _ _ (exec (Stmt.While _ _ _ _) _) _ _ _)); (fail_if_success (with_reducible show wpAny _ _ (exec (Stmt.For _ _ _ _ _) _) _ _ _)); (fail_if_success (with_reducible show wpAny _ _ (exec (Stmt.If _ _ _ _) _) _ _ _)); (fail_if_success (with_reducible show wpAny _ _ (eval (Expr.ListComp _ _ _ _) _) _ _ _)); (fail_if_success (with_reducible show wpAny _ _ (exec (Stmt.Assign _ (Expr.ListComp _ _ _ _) _) _) _ _ _)); (fail_if_success (with_reducible show wpAny _ _ (call (Value.ref 201) _ _) _ _ _)); (fail_if_success (with_reducible show wpAny _ _ (call (Value.ref 206) _ _) _ _ _)); (fail_if_success (with_reducible show wpAny _ _ (call (Value.ref 213) _ _) _ _ _)); (fail_if_success (with_reducible show wpAny _ _ (call (Value.ref 220) _ _) _ _ _)); (fail_if_success (with_reducible show wpAny _ _ (call (Value.ref 227) _ _) _ _ _)); (fail_if_success (with_reducible show wpAny _ _ (call (Value.ref 135) _ _) _ _ _)); (fail_if_success (with_reducible show wpAny _ _ (call (Value.ref 77) _ _) _ _ _)); (fail_if_success (with_reducible show wpAny _ _ (call (Value.builtin "list.append") _ _) _ _ _)); (fail_if_success (with_reducible show wpAny _ _ (binaryOp Operator.Add (Value.ref _) (Value.ref _)) _ _ _)); (fail_if_success (with_reducible show wpAny _ _ (compareOp _ (Value.ref _) (Value.ref _)) _ _ _)); (fail_if_success (with_reducible show wpAny _ _ (call (Value.builtin "sorted") _ _) _ _ _)); (fail_if_success (with_reducible show LCg.CompSrc _ _ _ _ _ _ _ _ _ _ _ _ _ _)); (fail_if_success (with_reducible show LCt.CompSrcT _ _ _ _ _ _ _ _ _ _ _ _ _ _ _)); (fail_if_success (with_reducible show ite _ _ _)); (fail_if_success (with_reducible show GoodW _ _ _ _ _ _ _ ∧ _)); (fail_if_success (with_reducible show KPfDone _)); (first | walk1 | (dsimp only; walk1))) | (leave1; walk_say "STEP leave1"; try dsimp only) | fail "no step"))
    rename _ = Data.cell (some (Value.int _ _)) => dR0
    obtain ⟨r, hr, hr2⟩ := reach_nat (nums.sum.fdiv 7 + 1)
    rw [hr] at dR0
    obtain ⟨tr, dR⟩ := cell_int dR0
    clear dR0
    obtain ⟨n, hn⟩ : ∃ n, n = 3 + nums.length := ⟨_, rfl⟩
    have hn8 : n < 8 := by omega
    have lwn : wl.length = n + 1 := by omega
    obtain ⟨d, hd⟩ : ∃ d : Nat → Nat → Nat, d = fun i j => ed (wl.getD i []) (wl.getD j []) := ⟨_, rfl⟩
    have hWi : ∀ i, i ≤ n → IsW (wl.getD i []) := fun i hi => hW _ (getD_mem (by omega))
    have hdd : ∀ i j, i < j → j ≤ n → levF (wl.getD i []) (wl.getD j []) 99 = (d i j : Int) := fun i j hi hj => by rw [hd]; exact levF_99 (hWi i (by omega)) (hWi j hj)
    have hd6 : ∀ i j, i ≤ n → j ≤ n → d i j ≤ 6 := fun i j hi hj => by rw [hd]; exact ed_W (hWi i hi) (hWi j hj)
    k_dflt (refine' tree_call (d := d) (n := n) ?hl hwords (fun x hx => (hW x hx).2.1) lwn hn8 hdd (fun i j hi hj => by have := hd6 i j (by omega) hj; omega) ?k1 ?k2 ?k3 ?k4 ?k5 ?kK ?kd ?ku ?_; (case k4 => k_asm); (case hl => k_mem); (case k1 => k_asm); (case k2 => k_asm); (case k3 => k_asm); (case k5 => k_asm); (case kK => exact rfl); (case kd => k_room); (case ku => k_units))
    intro xt dxt lht hsh tkh kk e' ts tl h12 tk12 F12 N12 hts o1 o2 o3 o4
    obtain ⟨T, N13, mlh, mxt, mdx, mtl, mT⟩ := tree_led N12
    clear N12
    have htsT := hts.mono mtl
    have gT : ∀ p ∈ T, dxt ≤ p.1 := by
      intro p hp
      rcases mT p hp with rfl | rfl | rfl | hp
      · exact Nat.le_of_lt (Nat.lt_trans o2 o3)
      · exact Nat.le_of_lt o2
      · exact Nat.le_refl _
      · exact Nat.le_of_lt (Nat.lt_trans (Nat.lt_trans o2 o3) (o4 p hp))
    k_lt o1
    have lt4 : sB.heap.objs.size + 1 + 1 + 1 + 1 < dxt := by omega
    have t1T : ∀ p ∈ T, p.1 ≠ sB.heap.objs.size + 1 := fun p hp => Nat.ne_of_gt (Nat.lt_of_lt_of_le (Nat.lt_of_le_of_lt (Nat.le_add_right (sB.heap.objs.size + 1) 3) lt4) (gT p hp))
    have t2T : ∀ p ∈ T, p.1 ≠ sB.heap.objs.size + 1 + 1 := fun p hp => Nat.ne_of_gt (Nat.lt_of_lt_of_le (Nat.lt_of_le_of_lt (Nat.le_add_right (sB.heap.objs.size + 1 + 1) 2) lt4) (gT p hp))
    have t3T : ∀ p ∈ T, p.1 ≠ sB.heap.objs.size + 1 + 1 + 1 := fun p hp => Nat.ne_of_gt (Nat.lt_of_lt_of_le (Nat.lt_of_le_of_lt (Nat.le_add_right (sB.heap.objs.size + 1 + 1 + 1) 1) lt4) (gT p hp))
    have t4T : ∀ p ∈ T, p.1 ≠ sB.heap.objs.size + 1 + 1 + 1 + 1 := fun p hp => Nat.ne_of_gt (Nat.lt_of_lt_of_le lt4 (gT p hp))
    simp only [List.cons_append, List.nil_append] at N13
    (repeat' (first | (k_unfold; (try dsimp only)) | (k_end; wrow_close) | ((fail_if_success (with_reducible show wpAny _ _ (exec (Stmt.While _ _ _ _) _) _ _ _)); (fail_if_success (with_reducible show wpAny _ _ (exec (Stmt.For _ _ _ _ _) _) _ _ _)); (fail_if_success (with_reducible show wpAny _ _ (exec (Stmt.If _ _ _ _) _) _ _ _)); (fail_if_success (with_reducible show wpAny _ _ (eval (Expr.ListComp _ _ _ _) _) _ _ _)); (fail_if_success (with_reducible show wpAny _ _ (exec (Stmt.Assign _ (Expr.ListComp _ _ _ _) _) _) _ _ _)); (fail_if_success (with_reducible show wpAny _ _ (call (Value.ref 201) _ _) _ _ _)); (fail_if_success (with_reducible show wpAny _ _ (call (Value.ref 206) _ _) _ _ _)); (fail_if_success (with_reducible show wpAny _ _ (call (Value.ref 213) _ _) _ _ _)); (fail_if_success (with_reducible show wpAny _ _ (call (Value.ref 220) _ _) _ _ _)); (fail_if_success (with_reducible show wpAny _ _ (call (Value.ref 227) _ _) _ _ _)); (fail_if_success (with_reducible show wpAny _ _ (call (Value.ref 135) _ _) _ _ _)); (fail_if_success (with_reducible show wpAny _ _ (call (Value.ref 77) _ _) _ _ _)); (fail_if_success (with_reducible show wpAny _ _ (call (Value.builtin "list.append") _ _) _ _ _)); (fail_if_success (with_reducible show wpAny _ _ (binaryOp Operator.Add (Value.ref _) (Value.ref _)) _ _ _)); (fail_if_success (with_reducible show wpAny _ _ (compareOp _ (Value.ref _) (Value.ref _)) _ _ _)); (fail_if_success (with_reducible show wpAny _ _ (call (Value.builtin "sorted") _ _) _ _ _)); (fail_if_success (with_reducible show LCg.CompSrc _ _ _ _ _ _ _ _ _ _ _ _ _ _)); (fail_if_success (with_reducible show LCt.CompSrcT _ _ _ _ _ _ _ _ _ _ _ _ _ _ _)); (fail_if_success (with_reducible show ite _ _ _)); (fail_if_success (with_reducible show GoodW _ _ _ _ _ _ _ ∧ _)); (fail_if_success (with_reducible show KPfDone _)); (first | walk1 | (dsimp only; walk1))) | (leave1; walk_say "STEP leave1"; try dsimp only) | fail "no step"))
    rename News _ _ _ _ => lN
    rename Fr _ _ _ _ => lF
    refine add_LT (vs := ws) (us := [_]) (x := wl) (y := [sw]) lF lN (by k_mem) (by k_mem) (by simp only [List.length_cons, List.length_nil]; omega) hwords sts_one ?_
    clear lF lN
    intro De ends h14 hends l14 F14 N14
    k_lt l14
    (repeat' (first | (k_unfold; (try dsimp only)) | (k_end; wrow_close) | ((fail_if_success (with_reducible show wpAny _ _ (exec (Stmt.While _ _ _ _) _) _ _ _)); (fail_if_success (with_reducible show wpAny _ _ (exec (Stmt.For _ _ _ _ _) _) _ _ _)); (fail_if_success (with_reducible show wpAny _ _ (exec (Stmt.If _ _ _ _) _) _ _ _)); (fail_if_success (with_reducible show wpAny _ _ (eval (Expr.ListComp _ _ _ _) _) _ _ _)); (fail_if_success (with_reducible show wpAny _ _ (exec (Stmt.Assign _ (Expr.ListComp _ _ _ _) _) _) _ _ _)); (fail_if_success (with_reducible show wpAny _ _ (call (Value.ref 201) _ _) _ _ _)); (fail_if_success (with_reducible show wpAny _ _ (call (Value.ref 206) _ _) _ _ _)); (fail_if_success (with_reducible show wpAny _ _ (call (Value.ref 213) _ _) _ _ _)); (fail_if_success (with_reducible show wpAny _ _ (call (Value.ref 220) _ _) _ _ _)); (fail_if_success (with_reducible show wpAny _ _ (call (Value.ref 227) _ _) _ _ _)); (fail_if_success (with_reducible show wpAny _ _ (call (Value.ref 135) _ _) _ _ _)); (fail_if_success (with_reducible show wpAny _ _ (call (Value.ref 77) _ _) _ _ _)); (fail_if_success (with_reducible show wpAny _ _ (call (Value.builtin "list.append") _ _) _ _ _)); (fail_if_success (with_reducible show wpAny _ _ (binaryOp Operator.Add (Value.ref _) (Value.ref _)) _ _ _)); (fail_if_success (with_reducible show wpAny _ _ (compareOp _ (Value.ref _) (Value.ref _)) _ _ _)); (fail_if_success (with_reducible show wpAny _ _ (call (Value.builtin "sorted") _ _) _ _ _)); (fail_if_success (with_reducible show LCg.CompSrc _ _ _ _ _ _ _ _ _ _ _ _ _ _)); (fail_if_success (with_reducible show LCt.CompSrcT _ _ _ _ _ _ _ _ _ _ _ _ _ _ _)); (fail_if_success (with_reducible show ite _ _ _)); (fail_if_success (with_reducible show GoodW _ _ _ _ _ _ _ ∧ _)); (fail_if_success (with_reducible show KPfDone _)); (first | walk1 | (dsimp only; walk1))) | (leave1; walk_say "STEP leave1"; try dsimp only) | fail "no step"))
    rename News _ _ _ _ => lN
    obtain ⟨N0, hN0, lN0⟩ := news_any lN
    obtain ⟨oW, mW, dW⟩ : ∃ o, (sB.heap.objs.size + 1, o) ∈ N0 ∧ o.data = .cell (some (.ref Dw)) := ⟨_, by rw [hN0]; k_mem, by assumption⟩
    obtain ⟨oE, mE, dE⟩ : ∃ o, (sB.heap.objs.size + 1 + 1 + 1, o) ∈ N0 ∧ o.data = .cell (some (.ref De)) := ⟨_, by rw [hN0]; k_mem, by assumption⟩
    obtain ⟨oP, mP⟩ : ∃ o, (sB.heap.objs.size + 1 + 1 + 1 + 1, o) ∈ N0 := ⟨_, by rw [hN0]; k_mem⟩
    have mDw : (Dw, W.listOf ws.toArray 0) ∈ N0 := by rw [hN0]; k_mem
    have mDe : (De, W.listOf ends.toArray 0) ∈ N0 := by rw [hN0]; k_mem
    have lends : ends.length = n + 1 + 1 := by rw [hends.1, List.length_append, lwn]; rfl
    have hWe : ∀ q, q ≤ n + 1 → IsW ((wl ++ [sw]).getD q []) := by
      intro q hq
      rw [List.getD_eq_getElem?_getD]
      by_cases e : q < wl.length
      · rw [List.getElem?_append_left e, ← List.getD_eq_getElem?_getD]; exact hWi q (by omega)
      · have : q = wl.length := by omega
        subst this
        rw [List.getElem?_append_right (Nat.le_refl _)]; simpa using hsW
    clear lN
    walk1
    k_dflt (refine listcomp_cell (σ := List (Addr × Obj)) (fun c => c ++ N0) (fun i ys c => ys.length = i ∧ (∀ j, j < i → ∃ a vs, ys[j]? = some (Value.ref a) ∧ (a, LCg.lst vs) ∈ c ∧ IntsAre vs ((List.range (n + 1 + 1)).map fun q => if j < q then priceF (wl.getD j []) ((wl ++ [sw]).getD q []) else 0)) ∧ ∀ p ∈ c, ∀ q ∈ N0, p.1 ≠ q.1) (n + 1) [] (by k_asm) (by with_unfolding_all rfl) (by rfl) (by rfl) (by decide) (by rfl) ?_)
    (repeat' (first | (k_unfold; (try dsimp only)) | (k_end; wrow_close) | ((fail_if_success (with_reducible show wpAny _ _ (exec (Stmt.While _ _ _ _) _) _ _ _)); (fail_if_success (with_reducible show wpAny _ _ (exec (Stmt.For _ _ _ _ _) _) _ _ _)); (fail_if_success (with_reducible show wpAny _ _ (exec (Stmt.If _ _ _ _) _) _ _ _)); (fail_if_success (with_reducible show wpAny _ _ (eval (Expr.ListComp _ _ _ _) _) _ _ _)); (fail_if_success (with_reducible show wpAny _ _ (exec (Stmt.Assign _ (Expr.ListComp _ _ _ _) _) _) _ _ _)); (fail_if_success (with_reducible show wpAny _ _ (call (Value.ref 201) _ _) _ _ _)); (fail_if_success (with_reducible show wpAny _ _ (call (Value.ref 206) _ _) _ _ _)); (fail_if_success (with_reducible show wpAny _ _ (call (Value.ref 213) _ _) _ _ _)); (fail_if_success (with_reducible show wpAny _ _ (call (Value.ref 220) _ _) _ _ _)); (fail_if_success (with_reducible show wpAny _ _ (call (Value.ref 227) _ _) _ _ _)); (fail_if_success (with_reducible show wpAny _ _ (call (Value.ref 135) _ _) _ _ _)); (fail_if_success (with_reducible show wpAny _ _ (call (Value.ref 77) _ _) _ _ _)); (fail_if_success (with_reducible show wpAny _ _ (call (Value.builtin "list.append") _ _) _ _ _)); (fail_if_success (with_reducible show wpAny _ _ (binaryOp Operator.Add (Value.ref _) (Value.ref _)) _ _ _)); (fail_if_success (with_reducible show wpAny _ _ (compareOp _ (Value.ref _) (Value.ref _)) _ _ _)); (fail_if_success (with_reducible show wpAny _ _ (call (Value.builtin "sorted") _ _) _ _ _)); (fail_if_success (with_reducible show LCg.CompSrc _ _ _ _ _ _ _ _ _ _ _ _ _ _)); (fail_if_success (with_reducible show LCt.CompSrcT _ _ _ _ _ _ _ _ _ _ _ _ _ _ _)); (fail_if_success (with_reducible show ite _ _ _)); (fail_if_success (with_reducible show GoodW _ _ _ _ _ _ _ ∧ _)); (fail_if_success (with_reducible show KPfDone _)); (first | walk1 | (dsimp only; walk1))) | (leave1; walk_say "STEP leave1"; try dsimp only) | fail "no step"))
    rename IsRange _ _ _ _ _ _ _ _ => hR1
    rw [show (ws.length : Int) = ((n + 1 : Nat) : Int) by omega] at hR1
    refine ⟨_, _, _, _, rfl, rfl, by k_asm, by k_asm, hR1, by omega, ⟨rfl, fun j hj => absurd hj (Nat.not_lt_zero j), fun p hp => by cases hp⟩, ?_, ?_⟩
    · intro i c ys t I C X D oI oC oX h tk E' hi hP F9 N9 dX off9 d1 d2 d3 d4 d5 d6
      dsimp only at N9 off9 hP
      obtain ⟨hP1, hP2, hP3⟩ := hP
      obtain ⟨t1, ht1⟩ := hwords.2 i (by omega)
      have ht1' : ws[(i : Int).toNat]? = some (Value.str (st (wl.getD i [])) t1) := ht1
      have hWi9 := hWi i (by omega)
      k_dflt (refine LCg.ListComp_U (F₀ := F9) (by with_unfolding_all rfl) (by decide) (by rfl) (by decide) (by rfl) ?_)
      (repeat' (first | (k_unfold; (try dsimp only)) | (k_end; wrow_close) | ((fail_if_success (with_reducible show wpAny _ _ (exec (Stmt.While _ _ _ _) _) _ _ _)); (fail_if_success (with_reducible show wpAny _ _ (exec (Stmt.For _ _ _ _ _) _) _ _ _)); (fail_if_success (with_reducible show wpAny _ _ (exec (Stmt.If _ _ _ _) _) _ _ _)); (fail_if_success (with_reducible show wpAny _ _ (eval (Expr.ListComp _ _ _ _) _) _ _ _)); (fail_if_success (with_reducible show wpAny _ _ (exec (Stmt.Assign _ (Expr.ListComp _ _ _ _) _) _) _ _ _)); (fail_if_success (with_reducible show wpAny _ _ (call (Value.ref 201) _ _) _ _ _)); (fail_if_success (with_reducible show wpAny _ _ (call (Value.ref 206) _ _) _ _ _)); (fail_if_success (with_reducible show wpAny _ _ (call (Value.ref 213) _ _) _ _ _)); (fail_if_success (with_reducible show wpAny _ _ (call (Value.ref 220) _ _) _ _ _)); (fail_if_success (with_reducible show wpAny _ _ (call (Value.ref 227) _ _) _ _ _)); (fail_if_success (with_reducible show wpAny _ _ (call (Value.ref 135) _ _) _ _ _)); (fail_if_success (with_reducible show wpAny _ _ (call (Value.ref 77) _ _) _ _ _)); (fail_if_success (with_reducible show wpAny _ _ (call (Value.builtin "list.append") _ _) _ _ _)); (fail_if_success (with_reducible show wpAny _ _ (binaryOp Operator.Add (Value.ref _) (Value.ref _)) _ _ _)); (fail_if_success (with_reducible show wpAny _ _ (compareOp _ (Value.ref _) (Value.ref _)) _ _ _)); (fail_if_success (with_reducible show wpAny _ _ (call (Value.builtin "sorted") _ _) _ _ _)); (fail_if_success (with_reducible show LCg.CompSrc _ _ _ _ _ _ _ _ _ _ _ _ _ _)); (fail_if_success (with_reducible show LCt.CompSrcT _ _ _ _ _ _ _ _ _ _ _ _ _ _ _)); (fail_if_success (with_reducible show ite _ _ _)); (fail_if_success (with_reducible show GoodW _ _ _ _ _ _ _ ∧ _)); (fail_if_success (with_reducible show KPfDone _)); (first | walk1 | (dsimp only; walk1))) | (leave1; walk_say "STEP leave1"; try dsimp only) | fail "no step"))
      rename IsRange _ _ _ _ _ _ _ _ => hR2
      rw [show (ends.length : Int) = ((n + 1 + 1 : Nat) : Int) by omega] at hR2
      refine LCg.CompSrc.range (n := n + 1 + 1) (by rfl) (by k_asm) (by k_asm) hR2 (small_one (by omega) (by omega) (by omega) (by omega)) (by rw [rangeSize_one]; split <;> omega) (by rw [PySem.sizeLine_eq]; omega) ?_
      intro g9
      refine' rest_ints (fun q => if i < q then priceF (wl.getD i []) ((wl ++ [sw]).getD q []) else 0) (fun q t' I' C' D' oI' oC' m₂ ys' h' tk' E2 hq hC' hx' F' N' off' ne' => ?_) (fun ys2 hI2 => ?_)
      · obtain ⟨t2, ht2⟩ := hends.2 q (by rw [List.length_append, lwn]; simpa using hq)
        have ht2' : ends[(q : Int).toNat]? = some (Value.str (st ((wl ++ [sw]).getD q [])) t2) := ht2
        have hWq := hWe q (by omega)
        by_cases hiq : i < q
        · (repeat' (first | (k_unfold; (try dsimp only)) | (k_end; wrow_close) | ((fail_if_success (with_reducible show wpAny _ _ (exec (Stmt.While _ _ _ _) _) _ _ _)); (fail_if_success (with_reducible show wpAny _ _ (exec (Stmt.For _ _ _ _ _) _) _ _ _)); (fail_if_success (with_reducible show wpAny _ _ (exec (Stmt.If _ _ _ _) _) _ _ _)); (fail_if_success (with_reducible show wpAny _ _ (eval (Expr.ListComp _ _ _ _) _) _ _ _)); (fail_if_success (with_reducible show wpAny _ _ (exec (Stmt.Assign _ (Expr.ListComp _ _ _ _) _) _) _ _ _)); (fail_if_success (with_reducible show wpAny _ _ (call (Value.ref 201) _ _) _ _ _)); (fail_if_success (with_reducible show wpAny _ _ (call (Value.ref 206) _ _) _ _ _)); (fail_if_success (with_reducible show wpAny _ _ (call (Value.ref 213) _ _) _ _ _)); (fail_if_success (with_reducible show wpAny _ _ (call (Value.ref 220) _ _) _ _ _)); (fail_if_success (with_reducible show wpAny _ _ (call (Value.ref 227) _ _) _ _ _)); (fail_if_success (with_reducible show wpAny _ _ (call (Value.ref 135) _ _) _ _ _)); (fail_if_success (with_reducible show wpAny _ _ (call (Value.ref 77) _ _) _ _ _)); (fail_if_success (with_reducible show wpAny _ _ (call (Value.builtin "list.append") _ _) _ _ _)); (fail_if_success (with_reducible show wpAny _ _ (binaryOp Operator.Add (Value.ref _) (Value.ref _)) _ _ _)); (fail_if_success (with_reducible show wpAny _ _ (compareOp _ (Value.ref _) (Value.ref _)) _ _ _)); (fail_if_success (with_reducible show wpAny _ _ (call (Value.builtin "sorted") _ _) _ _ _)); (fail_if_success (with_reducible show LCg.CompSrc _ _ _ _ _ _ _ _ _ _ _ _ _ _)); (fail_if_success (with_reducible show LCt.CompSrcT _ _ _ _ _ _ _ _ _ _ _ _ _ _ _)); (fail_if_success (with_reducible show ite _ _ _)); (fail_if_success (with_reducible show GoodW _ _ _ _ _ _ _ ∧ _)); (fail_if_success (with_reducible show KPfDone _)); (first | walk1 | (dsimp only; walk1))) | (leave1; walk_say "STEP leave1"; try dsimp only) | fail "no step"))
          rw [if_pos (by rw [decide_eq_true_eq]; omega)]
          (repeat' (first | (k_unfold; (try dsimp only)) | (k_end; wrow_close) | ((fail_if_success (with_reducible show wpAny _ _ (exec (Stmt.While _ _ _ _) _) _ _ _)); (fail_if_success (with_reducible show wpAny _ _ (exec (Stmt.For _ _ _ _ _) _) _ _ _)); (fail_if_success (with_reducible show wpAny _ _ (exec (Stmt.If _ _ _ _) _) _ _ _)); (fail_if_success (with_reducible show wpAny _ _ (eval (Expr.ListComp _ _ _ _) _) _ _ _)); (fail_if_success (with_reducible show wpAny _ _ (exec (Stmt.Assign _ (Expr.ListComp _ _ _ _) _) _) _ _ _)); (fail_if_success (with_reducible show wpAny _ _ (call (Value.ref 201) _ _) _ _ _)); (fail_if_success (with_reducible show wpAny _ _ (call (Value.ref 206) _ _) _ _ _)); (fail_if_success (with_reducible show wpAny _ _ (call (Value.ref 213) _ _) _ _ _)); (fail_if_success (with_reducible show wpAny _ _ (call (Value.ref 220) _ _) _ _ _)); (fail_if_success (with_reducible show wpAny _ _ (call (Value.ref 227) _ _) _ _ _)); (fail_if_success (with_reducible show wpAny _ _ (call (Value.ref 135) _ _) _ _ _)); (fail_if_success (with_reducible show wpAny _ _ (call (Value.ref 77) _ _) _ _ _)); (fail_if_success (with_reducible show wpAny _ _ (call (Value.builtin "list.append") _ _) _ _ _)); (fail_if_success (with_reducible show wpAny _ _ (binaryOp Operator.Add (Value.ref _) (Value.ref _)) _ _ _)); (fail_if_success (with_reducible show wpAny _ _ (compareOp _ (Value.ref _) (Value.ref _)) _ _ _)); (fail_if_success (with_reducible show wpAny _ _ (call (Value.builtin "sorted") _ _) _ _ _)); (fail_if_success (with_reducible show LCg.CompSrc _ _ _ _ _ _ _ _ _ _ _ _ _ _)); (fail_if_success (with_reducible show LCt.CompSrcT _ _ _ _ _ _ _ _ _ _ _ _ _ _ _)); (fail_if_success (with_reducible show ite _ _ _)); (fail_if_success (with_reducible show GoodW _ _ _ _ _ _ _ ∧ _)); (fail_if_success (with_reducible show KPfDone _)); (first | walk1 | (dsimp only; walk1))) | (leave1; walk_say "STEP leave1"; try dsimp only) | fail "no step"))
          have q1 := hWi9.2.1
          have q2 := hWq.2.1
          k_dflt (refine' price_call (x := wl.getD i []) (y := (wl ++ [sw]).getD q []) (by omega) (by omega) hWi9.1 hWq.1 ?k1 ?k2 ?k3 ?k4 ?k5 ?kK ?kd ?ku ?_; (case k1 => k_asm); (case k2 => k_asm); (case k3 => k_asm); (case k4 => k_asm); (case k5 => k_asm); (case kK => exact rfl); (case kd => k_room); (case ku => k_units))
          intro t8 h8 tk8 F8 N8
          (repeat' (first | (k_unfold; (try dsimp only)) | (k_end; wrow_close) | ((fail_if_success (with_reducible show wpAny _ _ (exec (Stmt.While _ _ _ _) _) _ _ _)); (fail_if_success (with_reducible show wpAny _ _ (exec (Stmt.For _ _ _ _ _) _) _ _ _)); (fail_if_success (with_reducible show wpAny _ _ (exec (Stmt.If _ _ _ _) _) _ _ _)); (fail_if_success (with_reducible show wpAny _ _ (eval (Expr.ListComp _ _ _ _) _) _ _ _)); (fail_if_success (with_reducible show wpAny _ _ (exec (Stmt.Assign _ (Expr.ListComp _ _ _ _) _) _) _ _ _)); (fail_if_success (with_reducible show wpAny _ _ (call (Value.ref 201) _ _) _ _ _)); (fail_if_success (with_reducible show wpAny _ _ (call (Value.ref 206) _ _) _ _ _)); (fail_if_success (with_reducible show wpAny _ _ (call (Value.ref 213) _ _) _ _ _)); (fail_if_success (with_reducible show wpAny _ _ (call (Value.ref 220) _ _) _ _ _)); (fail_if_success (with_reducible show wpAny _ _ (call (Value.ref 227) _ _) _ _ _)); (fail_if_success (with_reducible show wpAny _ _ (call (Value.ref 135) _ _) _ _ _)); (fail_if_success (with_reducible show wpAny _ _ (call (Value.ref 77) _ _) _ _ _)); (fail_if_success (with_reducible show wpAny _ _ (call (Value.builtin "list.append") _ _) _ _ _)); (fail_if_success (with_reducible show wpAny _ _ (binaryOp Operator.Add (Value.ref _) (Value.ref _)) _ _ _)); (fail_if_success (with_reducible show wpAny _ _ (compareOp _ (Value.ref _) (Value.ref _)) _ _ _)); (fail_if_success (with_reducible show wpAny _ _ (call (Value.builtin "sorted") _ _) _ _ _)); (fail_if_success (with_reducible show LCg.CompSrc _ _ _ _ _ _ _ _ _ _ _ _ _ _)); (fail_if_success (with_reducible show LCt.CompSrcT _ _ _ _ _ _ _ _ _ _ _ _ _ _ _)); (fail_if_success (with_reducible show ite _ _ _)); (fail_if_success (with_reducible show GoodW _ _ _ _ _ _ _ ∧ _)); (fail_if_success (with_reducible show KPfDone _)); (first | walk1 | (dsimp only; walk1))) | (leave1; walk_say "STEP leave1"; try dsimp only) | fail "no step"))
          refine LCg.CompEnd.intro (by assumption) (by assumption) _ (fun p hp => hp) off' trivial ⟨rfl, _, by rw [if_pos hiq]⟩
        · (repeat' (first | (k_unfold; (try dsimp only)) | (k_end; wrow_close) | ((fail_if_success (with_reducible show wpAny _ _ (exec (Stmt.While _ _ _ _) _) _ _ _)); (fail_if_success (with_reducible show wpAny _ _ (exec (Stmt.For _ _ _ _ _) _) _ _ _)); (fail_if_success (with_reducible show wpAny _ _ (exec (Stmt.If _ _ _ _) _) _ _ _)); (fail_if_success (with_reducible show wpAny _ _ (eval (Expr.ListComp _ _ _ _) _) _ _ _)); (fail_if_success (with_reducible show wpAny _ _ (exec (Stmt.Assign _ (Expr.ListComp _ _ _ _) _) _) _ _ _)); (fail_if_success (with_reducible show wpAny _ _ (call (Value.ref 201) _ _) _ _ _)); (fail_if_success (with_reducible show wpAny _ _ (call (Value.ref 206) _ _) _ _ _)); (fail_if_success (with_reducible show wpAny _ _ (call (Value.ref 213) _ _) _ _ _)); (fail_if_success (with_reducible show wpAny _ _ (call (Value.ref 220) _ _) _ _ _)); (fail_if_success (with_reducible show wpAny _ _ (call (Value.ref 227) _ _) _ _ _)); (fail_if_success (with_reducible show wpAny _ _ (call (Value.ref 135) _ _) _ _ _)); (fail_if_success (with_reducible show wpAny _ _ (call (Value.ref 77) _ _) _ _ _)); (fail_if_success (with_reducible show wpAny _ _ (call (Value.builtin "list.append") _ _) _ _ _)); (fail_if_success (with_reducible show wpAny _ _ (binaryOp Operator.Add (Value.ref _) (Value.ref _)) _ _ _)); (fail_if_success (with_reducible show wpAny _ _ (compareOp _ (Value.ref _) (Value.ref _)) _ _ _)); (fail_if_success (with_reducible show wpAny _ _ (call (Value.builtin "sorted") _ _) _ _ _)); (fail_if_success (with_reducible show LCg.CompSrc _ _ _ _ _ _ _ _ _ _ _ _ _ _)); (fail_if_success (with_reducible show LCt.CompSrcT _ _ _ _ _ _ _ _ _ _ _ _ _ _ _)); (fail_if_success (with_reducible show ite _ _ _)); (fail_if_success (with_reducible show GoodW _ _ _ _ _ _ _ ∧ _)); (fail_if_success (with_reducible show KPfDone _)); (first | walk1 | (dsimp only; walk1))) | (leave1; walk_say "STEP leave1"; try dsimp only) | fail "no step"))
          rw [if_neg (by rw [decide_eq_true_eq]; omega)]
          (repeat' (first | (k_unfold; (try dsimp only)) | (k_end; wrow_close) | ((fail_if_success (with_reducible show wpAny _ _ (exec (Stmt.While _ _ _ _) _) _ _ _)); (fail_if_success (with_reducible show wpAny _ _ (exec (Stmt.For _ _ _ _ _) _) _ _ _)); (fail_if_success (with_reducible show wpAny _ _ (exec (Stmt.If _ _ _ _) _) _ _ _)); (fail_if_success (with_reducible show wpAny _ _ (eval (Expr.ListComp _ _ _ _) _) _ _ _)); (fail_if_success (with_reducible show wpAny _ _ (exec (Stmt.Assign _ (Expr.ListComp _ _ _ _) _) _) _ _ _)); (fail_if_success (with_reducible show wpAny _ _ (call (Value.ref 201) _ _) _ _ _)); (fail_if_success (with_reducible show wpAny _ _ (call (Value.ref 206) _ _) _ _ _)); (fail_if_success (with_reducible show wpAny _ _ (call (Value.ref 213) _ _) _ _ _)); (fail_if_success (with_reducible show wpAny _ _ (call (Value.ref 220) _ _) _ _ _)); (fail_if_success (with_reducible show wpAny _ _ (call (Value.ref 227) _ _) _ _ _)); (fail_if_success (with_reducible show wpAny _ _ (call (Value.ref 135) _ _) _ _ _)); (fail_if_success (with_reducible show wpAny _ _ (call (Value.ref 77) _ _) _ _ _)); (fail_if_success (with_reducible show wpAny _ _ (call (Value.builtin "list.append") _ _) _ _ _)); (fail_if_success (with_reducible show wpAny _ _ (binaryOp Operator.Add (Value.ref _) (Value.ref _)) _ _ _)); (fail_if_success (with_reducible show wpAny _ _ (compareOp _ (Value.ref _) (Value.ref _)) _ _ _)); (fail_if_success (with_reducible show wpAny _ _ (call (Value.builtin "sorted") _ _) _ _ _)); (fail_if_success (with_reducible show LCg.CompSrc _ _ _ _ _ _ _ _ _ _ _ _ _ _)); (fail_if_success (with_reducible show LCt.CompSrcT _ _ _ _ _ _ _ _ _ _ _ _ _ _ _)); (fail_if_success (with_reducible show ite _ _ _)); (fail_if_success (with_reducible show GoodW _ _ _ _ _ _ _ ∧ _)); (fail_if_success (with_reducible show KPfDone _)); (first | walk1 | (dsimp only; walk1))) | (leave1; walk_say "STEP leave1"; try dsimp only) | fail "no step"))
          refine LCg.CompEnd.intro (by assumption) (by assumption) _ (fun p hp => hp) off' trivial ⟨rfl, _, by rw [if_neg hiq]⟩
      · unfold LCg.FinE
        intro D2 h2 tk2 F2 N2 o2
        have o2m := off1_mem o2
        refine ⟨(D2, LCg.lst ys2) :: c, h2, tk2, rfl, F2, cb_drop N2 fun p hp => ?_, fun p hp => ?_, ?_, fun j hj => ?_, fun p hp => ?_⟩
        · simp only [List.mem_cons, List.cons_append] at hp ⊢
          rcases hp with h | h | h | h | h | h
          · exact .inr (.inl h)
          · exact .inr (.inr (.inl h))
          · exact .inr (.inr (.inr (.inl h)))
          · exact .inr (.inr (.inr (.inr (.inl h))))
          · exact .inl h
          · exact .inr (.inr (.inr (.inr (.inr h))))
        · rcases List.mem_cons.mp hp with rfl | hp
          · exact ⟨fun e => o2m (I, oI) List.mem_cons_self e.symm, fun e => o2m (C, oC) (List.mem_cons_of_mem _ List.mem_cons_self) e.symm, fun e => o2m (X, oX) (List.mem_cons_of_mem _ (List.mem_cons_of_mem _ List.mem_cons_self)) e.symm, fun e => o2m (D, LCg.lst ys) (List.mem_cons_of_mem _ (List.mem_cons_of_mem _ (List.mem_cons_of_mem _ List.mem_cons_self))) e.symm⟩
          · exact off9 p hp
        · rw [List.length_append, hP1]; rfl
        · by_cases e : j < i
          · obtain ⟨a, vs, g1, g2, g3⟩ := hP2 j e
            exact ⟨a, vs, by rw [List.getElem?_append_left (by omega)]; exact g1, List.mem_cons_of_mem _ g2, g3⟩
          · have : j = i := by omega
            subst this
            exact ⟨D2, ys2, by rw [List.getElem?_append_right (by omega), hP1]; simp, List.mem_cons_self, hI2⟩
        · rcases List.mem_cons.mp hp with rfl | hp
          · exact fun q hq e => o2m q (List.mem_cons_of_mem _ (List.mem_cons_of_mem _ (List.mem_cons_of_mem _ (List.mem_cons_of_mem _ (List.mem_append_right _ hq))))) e.symm
          · exact hP3 p hp
    · intro c ys D h tk hP hyl F9 N9 hDne
      dsimp only at N9 hDne hP
      obtain ⟨hP1, hP2, hP3⟩ := hP
      have hD0 : ∀ q ∈ N0, D ≠ q.1 := fun q hq e => hDne q (List.mem_append_right _ hq) e.symm
      have N10 : News (ghostOf sB.heap [(226, 222)]) sB.heap.objs.size h (N0 ++ ((D, LCg.lst ys) :: c)) := cb_drop N9 fun p hp => by
        simp only [List.mem_cons, List.mem_append] at hp ⊢
        rcases hp with h | h | h
        · exact .inr (.inr h)
        · exact .inl h
        · exact .inr (.inl h)
      rw [hN0] at N10
      simp only [List.cons_append] at N10
      obtain ⟨T2, hT2⟩ : ∃ T2, T2 = T ++ ((D, LCg.lst ys) :: c) := ⟨_, rfl⟩
      rw [← hT2] at N10
      have u4T : ∀ p ∈ T2, p.1 ≠ sB.heap.objs.size + 1 + 1 + 1 + 1 := by
        intro p hp
        rw [hT2] at hp
        rcases List.mem_append.mp hp with hp | hp
        · exact t4T p hp
        · rcases List.mem_cons.mp hp with rfl | hp
          · exact hD0 _ mP
          · exact hP3 p hp _ mP
      have sT : ∀ p ∈ T, p ∈ T2 := fun p hp => by rw [hT2]; exact List.mem_append_left _ hp
      obtain ⟨z, hz⟩ : ∃ z : Nat → Nat, z = fun i => ed (wl.getD i []) sw := ⟨_, rfl⟩
      have hgl : ∀ q, q ≤ n → (wl ++ [sw]).getD q [] = wl.getD q [] := fun q hq => by
        rw [List.getD_eq_getElem?_getD, List.getD_eq_getElem?_getD, List.getElem?_append_left (by omega)]
      have hge : (wl ++ [sw]).getD (n + 1) [] = sw := by
        rw [List.getD_eq_getElem?_getD, List.getElem?_append_right (by omega), lwn]; simp
      have hpr : PricesIn T2 D d z n := by
        refine ⟨ys, ys.length, by rw [hT2]; exact List.mem_append_right _ List.mem_cons_self, hyl, fun i hi => ?_⟩
        obtain ⟨a, vs, g1, g2, g3⟩ := hP2 i (by omega)
        have lv : vs.length = n + 1 + 1 := by rw [g3.length, List.length_map, List.length_range]
        have at9 : ∀ q, q < n + 1 + 1 → ∃ t, vs[q]? = some (Value.int (if i < q then priceF (wl.getD i []) ((wl ++ [sw]).getD q []) else 0) t) := by
          intro q hq
          obtain ⟨k, t, e1, e2⟩ := ints_at g3 (i := q) (v := vs[q]'(by omega)) (List.getElem?_eq_getElem _)
          rw [List.getElem?_map, List.getElem?_range (by omega)] at e1
          refine ⟨t, ?_⟩
          rw [List.getElem?_eq_getElem (by omega), e2]
          rw [← Option.some.inj e1]
        refine ⟨a, vs, vs.length, g1, by rw [hT2]; exact List.mem_append_right _ (List.mem_cons_of_mem _ g2), lv, fun j hij hj => ?_, ?_⟩
        · obtain ⟨t, e⟩ := at9 j (by omega)
          refine ⟨t, ?_⟩
          rw [e, if_pos hij, hgl j hj, priceF_ok (hWi i hi) (hWi j hj), hd]
        · obtain ⟨t, e⟩ := at9 (n + 1) (by omega)
          refine ⟨t, ?_⟩
          rw [e, if_pos (by omega), hge, priceF_ok (hWi i hi) hsW, hz]
      clear N9
      (repeat' (first | (k_unfold; (try dsimp only)) | (k_end; wrow_close) | ((fail_if_success (with_reducible show wpAny _ _ (exec (Stmt.While _ _ _ _) _) _ _ _)); (fail_if_success (with_reducible show wpAny _ _ (exec (Stmt.For _ _ _ _ _) _) _ _ _)); (fail_if_success (with_reducible show wpAny _ _ (exec (Stmt.If _ _ _ _) _) _ _ _)); (fail_if_success (with_reducible show wpAny _ _ (eval (Expr.ListComp _ _ _ _) _) _ _ _)); (fail_if_success (with_reducible show wpAny _ _ (exec (Stmt.Assign _ (Expr.ListComp _ _ _ _) _) _) _ _ _)); (fail_if_success (with_reducible show wpAny _ _ (call (Value.ref 201) _ _) _ _ _)); (fail_if_success (with_reducible show wpAny _ _ (call (Value.ref 206) _ _) _ _ _)); (fail_if_success (with_reducible show wpAny _ _ (call (Value.ref 213) _ _) _ _ _)); (fail_if_success (with_reducible show wpAny _ _ (call (Value.ref 220) _ _) _ _ _)); (fail_if_success (with_reducible show wpAny _ _ (call (Value.ref 227) _ _) _ _ _)); (fail_if_success (with_reducible show wpAny _ _ (call (Value.ref 135) _ _) _ _ _)); (fail_if_success (with_reducible show wpAny _ _ (call (Value.ref 77) _ _) _ _ _)); (fail_if_success (with_reducible show wpAny _ _ (call (Value.builtin "list.append") _ _) _ _ _)); (fail_if_success (with_reducible show wpAny _ _ (binaryOp Operator.Add (Value.ref _) (Value.ref _)) _ _ _)); (fail_if_success (with_reducible show wpAny _ _ (compareOp _ (Value.ref _) (Value.ref _)) _ _ _)); (fail_if_success (with_reducible show wpAny _ _ (call (Value.builtin "sorted") _ _) _ _ _)); (fail_if_success (with_reducible show LCg.CompSrc _ _ _ _ _ _ _ _ _ _ _ _ _ _)); (fail_if_success (with_reducible show LCt.CompSrcT _ _ _ _ _ _ _ _ _ _ _ _ _ _ _)); (fail_if_success (with_reducible show ite _ _ _)); (fail_if_success (with_reducible show GoodW _ _ _ _ _ _ _ ∧ _)); (fail_if_success (with_reducible show KPfDone _)); (first | walk1 | (dsimp only; walk1))) | (leave1; walk_say "STEP leave1"; try dsimp only) | fail "no step"))
      rename News _ _ _ _ => lN
      rename Fr _ _ _ _ => lF
      rename IntsAre _ (rangeKs _ _) => hI9
      have lN2 := news_pull (l := [_, _, _, _, _, _, _, _, _, _]) (r := T2) lN
      simp only [List.cons_append, List.nil_append] at lN2
      obtain ⟨S, hS, N20⟩ := news_abst2 lN2
      have sS : ∀ p ∈ T2, p ∈ S := fun p hp => by rw [hS]; k_mem
      obtain ⟨oW9, mW9, dW9⟩ : ∃ o, (sB.heap.objs.size + 1, o) ∈ S ∧ o.data = .cell (some (.ref Dw)) := ⟨_, by rw [hS]; k_mem, by assumption⟩
      obtain ⟨oR9, mR9, dR9⟩ : ∃ o, (sB.heap.objs.size + 1 + 1, o) ∈ S ∧ o.data = .cell (some (.int (r : Int) tr)) := ⟨_, by rw [hS]; k_mem, by assumption⟩
      obtain ⟨oP9, mP9, dP9⟩ : ∃ o, (sB.heap.objs.size + 1 + 1 + 1 + 1, o) ∈ S ∧ o.data = .cell (some (.ref D)) := ⟨_, by rw [hS]; k_mem, by assumption⟩
      have mDw9 : (Dw, W.listOf ws.toArray 0) ∈ S := by rw [hS]; k_mem
      have l222 : @LT.lt Nat _ 222 sB.heap.objs.size := by assumption
      have z222 : (222, tabObj #[]) ∈ N0 := by rw [hN0]; k_mem
      have h222 : ∀ p ∈ S, p.1 ≠ 222 := by
        intro p hp
        rw [hS] at hp
        simp only [List.mem_cons] at hp
        have x222 : @LT.lt Nat _ 222 dxt := Nat.lt_trans (Nat.lt_of_lt_of_le l222 (Nat.le_add_right _ 4)) lt4
        have t222 : ∀ p ∈ T2, p.1 ≠ 222 := by
          intro p hp
          rw [hT2] at hp
          rcases List.mem_append.mp hp with hp | hp
          · exact Nat.ne_of_gt (Nat.lt_of_lt_of_le x222 (gT p hp))
          · rcases List.mem_cons.mp hp with rfl | hp
            · exact hD0 _ z222
            · exact hP3 p hp _ z222
        rcases hp with rfl | rfl | rfl | rfl | rfl | rfl | rfl | rfl | rfl | hp
        iterate 9 first | exact Nat.ne_of_gt (by dsimp only; omega) | (show @Ne Nat _ _; dsimp only; omega)
        exact t222 p hp
      clear hS lN2 lN
      have hl3 : ∀ i, (wl.getD i []).length ≤ 3 := getD_len3 fun x hx => (hW x hx).2.1
      have hd100 : ∀ i j, d i j ≤ 100 := fun i j => by rw [hd]; exact ed_100 (hl3 i) (hl3 j)
      have hz100 : ∀ i, z i ≤ 100 := fun i => by rw [hz]; exact ed_100 (hl3 i) hsW.2.1
      have hprS := hpr.mono sS
      obtain ⟨t0, ht0, lt0⟩ := range_cons n
      rw [show ((ws.length : Int) - 0).toNat = n + 1 by omega, rangeKs_nts, ht0] at hI9
      k_dflt (refine' part_all hr2 hn8 hd100 hz100 8 (by omega) _ _ _ _ _ _ _ _ _ _ _ _ _ _ _ (ghostOf sB.heap [(226, 222)]) _ _ _ (_ :: S) _ _ _ D _ 222 tr _ _ 0 t0 none [] (hprS.mono fun p hp => List.mem_cons_of_mem _ hp) List.mem_cons_self hI9 ?c1 ?c2 ?c3 ?c4 codeHd trivial (fun p hp => nomatch hp) ?k1 lF ?k3 N20 ?k5 ?kK ?kd ?ku ?_; (case k1 => k_asm); (case k3 => k_asm); (case k5 => k_asm); (case kK => first | exact rfl | assumption); (case kd => k_room); (case ku => k_units))
      · rw [List.length_cons, lt0]; omega
      · rw [← ht0]; exact List.pairwise_lt_range
      · rw [← ht0]; intro q hq; have := List.mem_range.mp hq; omega
      · intro p hp
        rcases List.mem_cons.mp hp with rfl | hp
        · exact Nat.ne_of_gt (by dsimp only; omega)
        · exact h222 p hp
      intro T9 lk wy L9 vl vw kl kw tl9 o9 h20 tk20 tup9 iw9 code9 hL9 lT9 llk9 lwy9 gt9 F20 N21
      clear lF N20
      rw [← ht0] at tup9 iw9
      have hn2 : 3 ≤ n := by omega
      repeat (rename _ < _ ∧ _ => lA9; clear lA9)
      repeat (rename _ ≠ _ ∧ _ => lA9; clear lA9)
      clear lt0 lends hyl hP1 hP2 hP3 hn hnl hsum lwl lys hL9 lT9 llk9 lwy9 lt4 l222
      have pOk := part_ok (d := d) (z := z) (r := r) 8 (List.range (n + 1)) (by simp) (by rw [List.length_range]; omega) List.nodup_range
      generalize hR : part d z r 8 (List.range (n + 1)) = R at tup9 iw9 pOk
      (repeat' (first | (k_unfold; (try dsimp only)) | (k_end; wrow_close) | ((fail_if_success (with_reducible show wpAny _ _ (exec (Stmt.While _ _ _ _) _) _ _ _)); (fail_if_success (with_reducible show wpAny _ _ (exec (Stmt.For _ _ _ _ _) _) _ _ _)); (fail_if_success (with_reducible show wpAny _ _ (exec (Stmt.If _ _ _ _) _) _ _ _)); (fail_if_success (with_reducible show wpAny _ _ (eval (Expr.ListComp _ _ _ _) _) _ _ _)); (fail_if_success (with_reducible show wpAny _ _ (exec (Stmt.Assign _ (Expr.ListComp _ _ _ _) _) _) _ _ _)); (fail_if_success (with_reducible show wpAny _ _ (call (Value.ref 201) _ _) _ _ _)); (fail_if_success (with_reducible show wpAny _ _ (call (Value.ref 206) _ _) _ _ _)); (fail_if_success (with_reducible show wpAny _ _ (call (Value.ref 213) _ _) _ _ _)); (fail_if_success (with_reducible show wpAny _ _ (call (Value.ref 220) _ _) _ _ _)); (fail_if_success (with_reducible show wpAny _ _ (call (Value.ref 227) _ _) _ _ _)); (fail_if_success (with_reducible show wpAny _ _ (call (Value.ref 135) _ _) _ _ _)); (fail_if_success (with_reducible show wpAny _ _ (call (Value.ref 77) _ _) _ _ _)); (fail_if_success (with_reducible show wpAny _ _ (call (Value.builtin "list.append") _ _) _ _ _)); (fail_if_success (with_reducible show wpAny _ _ (binaryOp Operator.Add (Value.ref _) (Value.ref _)) _ _ _)); (fail_if_success (with_reducible show wpAny _ _ (compareOp _ (Value.ref _) (Value.ref _)) _ _ _)); (fail_if_success (with_reducible show wpAny _ _ (call (Value.builtin "sorted") _ _) _ _ _)); (fail_if_success (with_reducible show LCg.CompSrc _ _ _ _ _ _ _ _ _ _ _ _ _ _)); (fail_if_success (with_reducible show LCt.CompSrcT _ _ _ _ _ _ _ _ _ _ _ _ _ _ _)); (fail_if_success (with_reducible show ite _ _ _)); (fail_if_success (with_reducible show GoodW _ _ _ _ _ _ _ ∧ _)); (fail_if_success (with_reducible show KPfDone _)); (first | walk1 | (dsimp only; walk1))) | (leave1; walk_say "STEP leave1"; try dsimp only) | fail "no step"))
      rename News _ _ _ _ => lN
      rename Fr _ _ _ _ => lF
      obtain ⟨S2, hS2, N22⟩ := news_any lN
      have m222 : (222, tabObj (psOf o9)) ∈ S2 := by rw [hS2]; k_mem
      have mlk : (lk, W.listOf vl.toArray kl) ∈ S2 := by rw [hS2]; k_mem
      have mwy : (wy, W.listOf vw.toArray kw) ∈ S2 := by rw [hS2]; k_mem
      have sS2 : ∀ p ∈ S, p ∈ S2 := fun p hp => by rw [hS2]; k_mem
      have stl : ∀ p ∈ tl9, p ∈ S2 := fun p hp => by rw [hS2]; k_mem
      clear hS2 lN
      have lenR : R.1.length = n := by have := pOk.perm.length_eq; rw [range_tail] at this; simpa using this
      have ndR : (R.1.map (·.1)).Nodup := pOk.perm.nodup_iff.mpr (by exact (List.nodup_range (n := n + 1)).tail)
      k_dflt (refine assign_comp3 (List (Addr × Obj)) lF (by rfl) (by with_unfolding_all rfl) (by with_unfolding_all rfl) (by decide) (by rfl) (by decide) (by rfl) (by rfl) (by rfl) (by decide) (by decide) (by decide) (by rfl) (by rfl) ?_)
      (repeat' (first | (k_unfold; (try dsimp only)) | (k_end; wrow_close) | ((fail_if_success (with_reducible show wpAny _ _ (exec (Stmt.While _ _ _ _) _) _ _ _)); (fail_if_success (with_reducible show wpAny _ _ (exec (Stmt.For _ _ _ _ _) _) _ _ _)); (fail_if_success (with_reducible show wpAny _ _ (exec (Stmt.If _ _ _ _) _) _ _ _)); (fail_if_success (with_reducible show wpAny _ _ (eval (Expr.ListComp _ _ _ _) _) _ _ _)); (fail_if_success (with_reducible show wpAny _ _ (exec (Stmt.Assign _ (Expr.ListComp _ _ _ _) _) _) _ _ _)); (fail_if_success (with_reducible show wpAny _ _ (call (Value.ref 201) _ _) _ _ _)); (fail_if_success (with_reducible show wpAny _ _ (call (Value.ref 206) _ _) _ _ _)); (fail_if_success (with_reducible show wpAny _ _ (call (Value.ref 213) _ _) _ _ _)); (fail_if_success (with_reducible show wpAny _ _ (call (Value.ref 220) _ _) _ _ _)); (fail_if_success (with_reducible show wpAny _ _ (call (Value.ref 227) _ _) _ _ _)); (fail_if_success (with_reducible show wpAny _ _ (call (Value.ref 135) _ _) _ _ _)); (fail_if_success (with_reducible show wpAny _ _ (call (Value.ref 77) _ _) _ _ _)); (fail_if_success (with_reducible show wpAny _ _ (call (Value.builtin "list.append") _ _) _ _ _)); (fail_if_success (with_reducible show wpAny _ _ (binaryOp Operator.Add (Value.ref _) (Value.ref _)) _ _ _)); (fail_if_success (with_reducible show wpAny _ _ (compareOp _ (Value.ref _) (Value.ref _)) _ _ _)); (fail_if_success (with_reducible show wpAny _ _ (call (Value.builtin "sorted") _ _) _ _ _)); (fail_if_success (with_reducible show LCg.CompSrc _ _ _ _ _ _ _ _ _ _ _ _ _ _)); (fail_if_success (with_reducible show LCt.CompSrcT _ _ _ _ _ _ _ _ _ _ _ _ _ _ _)); (fail_if_success (with_reducible show ite _ _ _)); (fail_if_success (with_reducible show GoodW _ _ _ _ _ _ _ ∧ _)); (fail_if_success (with_reducible show KPfDone _)); (first | walk1 | (dsimp only; walk1))) | (leave1; walk_say "STEP leave1"; try dsimp only) | fail "no step"))
      refine sorted_tup3 lF N22 mlk (tup9.mono stl) (by omega) (by omega) ndR ?_
      intro Ds wsd es cd h22 pes ses tes lDs F22 N23
      obtain ⟨les, hes⟩ := links_sorted pOk pes ses
      refine ⟨fun c => c ++ (Ds, W.listOf (List.toArray wsd) cd) :: S2, fun i ys c => TupsIn c ys ((entsOf (treeN d n)).take i), es, [], Ds, wsd, cd, rfl, rfl, F22, N23, fun c => List.mem_append_right _ List.mem_cons_self, fun c => tes.mono fun p hp => List.mem_append_right _ (List.mem_cons_of_mem _ hp), by omega, trivial, ?_, ?_⟩
      · intro i c ys t₁ t₂ t₃ I C D' oI oC m₂ h' tk E' hi hP hC' hx1 hx2 hx3 F' N' off d1 d2 d3
        obtain ⟨⟨ea, eb⟩, he1, he2⟩ := hes i (by omega)
        rw [he2] at hx1 hx2 hx3
        dsimp only at hx1 hx2 hx3 N' off hP
        obtain ⟨b1, b2, b3⟩ := treeN_lt he1
        have b4 := hd6 ea (i + 1) (by omega) (by omega)
        (repeat' (first | (k_unfold; (try dsimp only)) | (k_end; wrow_close) | ((fail_if_success (with_reducible show wpAny _ _ (exec (Stmt.While _ _ _ _) _) _ _ _)); (fail_if_success (with_reducible show wpAny _ _ (exec (Stmt.For _ _ _ _ _) _) _ _ _)); (fail_if_success (with_reducible show wpAny _ _ (exec (Stmt.If _ _ _ _) _) _ _ _)); (fail_if_success (with_reducible show wpAny _ _ (eval (Expr.ListComp _ _ _ _) _) _ _ _)); (fail_if_success (with_reducible show wpAny _ _ (exec (Stmt.Assign _ (Expr.ListComp _ _ _ _) _) _) _ _ _)); (fail_if_success (with_reducible show wpAny _ _ (call (Value.ref 201) _ _) _ _ _)); (fail_if_success (with_reducible show wpAny _ _ (call (Value.ref 206) _ _) _ _ _)); (fail_if_success (with_reducible show wpAny _ _ (call (Value.ref 213) _ _) _ _ _)); (fail_if_success (with_reducible show wpAny _ _ (call (Value.ref 220) _ _) _ _ _)); (fail_if_success (with_reducible show wpAny _ _ (call (Value.ref 227) _ _) _ _ _)); (fail_if_success (with_reducible show wpAny _ _ (call (Value.ref 135) _ _) _ _ _)); (fail_if_success (with_reducible show wpAny _ _ (call (Value.ref 77) _ _) _ _ _)); (fail_if_success (with_reducible show wpAny _ _ (call (Value.builtin "list.append") _ _) _ _ _)); (fail_if_success (with_reducible show wpAny _ _ (binaryOp Operator.Add (Value.ref _) (Value.ref _)) _ _ _)); (fail_if_success (with_reducible show wpAny _ _ (compareOp _ (Value.ref _) (Value.ref _)) _ _ _)); (fail_if_success (with_reducible show wpAny _ _ (call (Value.builtin "sorted") _ _) _ _ _)); (fail_if_success (with_reducible show LCg.CompSrc _ _ _ _ _ _ _ _ _ _ _ _ _ _)); (fail_if_success (with_reducible show LCt.CompSrcT _ _ _ _ _ _ _ _ _ _ _ _ _ _ _)); (fail_if_success (with_reducible show ite _ _ _)); (fail_if_success (with_reducible show GoodW _ _ _ _ _ _ _ ∧ _)); (fail_if_success (with_reducible show KPfDone _)); (first | walk1 | (dsimp only; walk1))) | (leave1; walk_say "STEP leave1"; try dsimp only) | fail "no step"))
        rename News _ _ _ _ => lN
        rename _ < _ ∧ _ => lA
        rw [num_dg (i + 1) (by omega)] at lN
        exact due_end (by assumption) lN ⟨lA.2.1, lA.2.2.1, lA.2.2.2.1⟩ off hP (ents_at he1)
      · intro c ys Dd h' tk hP hyl F' N' hne
        dsimp only at N' hP hne
        rw [les, ents_take (treeN_len n)] at hP
        obtain ⟨S3, hS3, N24⟩ := news_any N'
        have mdu : (Dd, LCg.lst ys) ∈ S3 := by rw [hS3]; exact List.mem_cons_self
        have sS3 : ∀ p ∈ S2, p ∈ S3 := fun p hp => by rw [hS3]; exact List.mem_cons_of_mem _ (List.mem_append_right _ (List.mem_cons_of_mem _ hp))
        have tdu : TupsIn S3 ys (entsOf (treeN d n)) := hP.mono fun p hp => by rw [hS3]; exact List.mem_cons_of_mem _ (List.mem_append_left _ hp)
        clear hP N' hne hS3 N23 N22 F22
        have sT3 : ∀ p ∈ T, p ∈ S3 := fun p hp => sS3 _ (sS2 _ (sS _ (sT _ hp)))
        have mxt3 := sT3 _ mxt
        have mdx3 := sT3 _ mdx
        have mlh3 := sT3 _ mlh
        have hts3 := htsT.mono sT3
        have mW3 := sS3 _ (sS2 _ mW9)
        have mR3 := sS3 _ (sS2 _ mR9)
        have mP3 := sS3 _ (sS2 _ mP9)
        have mDw3 := sS3 _ (sS2 _ mDw9)
        have m2223 := sS3 _ m222
        have mwy3 := sS3 _ mwy
        have hE10 : ∀ e ∈ treeN d n, e.1 < 10 ∧ e.2 < 10 := by
          intro e he
          obtain ⟨q, hq⟩ := List.mem_iff_getElem?.mp he
          have q1 := treeN_lt (a := e.1) (s := e.2) hq
          have q2 := hd6 e.1 (q + 1) (by omega) (by omega)
          omega
        have hdok := ents_ok hE10 (by rw [treeN_len]; omega)
        have lts : ts.length = n := by rw [hts3.length, ents_len, treeN_len]
        (repeat' (first | (k_unfold; (try dsimp only)) | (k_end; wrow_close) | ((fail_if_success (with_reducible show wpAny _ _ (exec (Stmt.While _ _ _ _) _) _ _ _)); (fail_if_success (with_reducible show wpAny _ _ (exec (Stmt.For _ _ _ _ _) _) _ _ _)); (fail_if_success (with_reducible show wpAny _ _ (exec (Stmt.If _ _ _ _) _) _ _ _)); (fail_if_success (with_reducible show wpAny _ _ (eval (Expr.ListComp _ _ _ _) _) _ _ _)); (fail_if_success (with_reducible show wpAny _ _ (exec (Stmt.Assign _ (Expr.ListComp _ _ _ _) _) _) _ _ _)); (fail_if_success (with_reducible show wpAny _ _ (call (Value.ref 201) _ _) _ _ _)); (fail_if_success (with_reducible show wpAny _ _ (call (Value.ref 206) _ _) _ _ _)); (fail_if_success (with_reducible show wpAny _ _ (call (Value.ref 213) _ _) _ _ _)); (fail_if_success (with_reducible show wpAny _ _ (call (Value.ref 220) _ _) _ _ _)); (fail_if_success (with_reducible show wpAny _ _ (call (Value.ref 227) _ _) _ _ _)); (fail_if_success (with_reducible show wpAny _ _ (call (Value.ref 135) _ _) _ _ _)); (fail_if_success (with_reducible show wpAny _ _ (call (Value.ref 77) _ _) _ _ _)); (fail_if_success (with_reducible show wpAny _ _ (call (Value.builtin "list.append") _ _) _ _ _)); (fail_if_success (with_reducible show wpAny _ _ (binaryOp Operator.Add (Value.ref _) (Value.ref _)) _ _ _)); (fail_if_success (with_reducible show wpAny _ _ (compareOp _ (Value.ref _) (Value.ref _)) _ _ _)); (fail_if_success (with_reducible show wpAny _ _ (call (Value.builtin "sorted") _ _) _ _ _)); (fail_if_success (with_reducible show LCg.CompSrc _ _ _ _ _ _ _ _ _ _ _ _ _ _)); (fail_if_success (with_reducible show LCt.CompSrcT _ _ _ _ _ _ _ _ _ _ _ _ _ _ _)); (fail_if_success (with_reducible show ite _ _ _)); (fail_if_success (with_reducible show GoodW _ _ _ _ _ _ _ ∧ _)); (fail_if_success (with_reducible show KPfDone _)); (first | walk1 | (dsimp only; walk1))) | (leave1; walk_say "STEP leave1"; try dsimp only) | fail "no step"))
        walk1
        (repeat' (first | (k_unfold; (try dsimp only)) | (k_end; wrow_close) | ((fail_if_success (with_reducible show wpAny _ _ (exec (Stmt.While _ _ _ _) _) _ _ _)); (fail_if_success (with_reducible show wpAny _ _ (exec (Stmt.For _ _ _ _ _) _) _ _ _)); (fail_if_success (with_reducible show wpAny _ _ (exec (Stmt.If _ _ _ _) _) _ _ _)); (fail_if_success (with_reducible show wpAny _ _ (eval (Expr.ListComp _ _ _ _) _) _ _ _)); (fail_if_success (with_reducible show wpAny _ _ (exec (Stmt.Assign _ (Expr.ListComp _ _ _ _) _) _) _ _ _)); (fail_if_success (with_reducible show wpAny _ _ (call (Value.ref 201) _ _) _ _ _)); (fail_if_success (with_reducible show wpAny _ _ (call (Value.ref 206) _ _) _ _ _)); (fail_if_success (with_reducible show wpAny _ _ (call (Value.ref 213) _ _) _ _ _)); (fail_if_success (with_reducible show wpAny _ _ (call (Value.ref 220) _ _) _ _ _)); (fail_if_success (with_reducible show wpAny _ _ (call (Value.ref 227) _ _) _ _ _)); (fail_if_success (with_reducible show wpAny _ _ (call (Value.ref 135) _ _) _ _ _)); (fail_if_success (with_reducible show wpAny _ _ (call (Value.ref 77) _ _) _ _ _)); (fail_if_success (with_reducible show wpAny _ _ (call (Value.builtin "list.append") _ _) _ _ _)); (fail_if_success (with_reducible show wpAny _ _ (binaryOp Operator.Add (Value.ref _) (Value.ref _)) _ _ _)); (fail_if_success (with_reducible show wpAny _ _ (compareOp _ (Value.ref _) (Value.ref _)) _ _ _)); (fail_if_success (with_reducible show wpAny _ _ (call (Value.builtin "sorted") _ _) _ _ _)); (fail_if_success (with_reducible show LCg.CompSrc _ _ _ _ _ _ _ _ _ _ _ _ _ _)); (fail_if_success (with_reducible show LCt.CompSrcT _ _ _ _ _ _ _ _ _ _ _ _ _ _ _)); (fail_if_success (with_reducible show ite _ _ _)); (fail_if_success (with_reducible show GoodW _ _ _ _ _ _ _ ∧ _)); (fail_if_success (with_reducible show KPfDone _)); (first | walk1 | (dsimp only; walk1))) | (leave1; walk_say "STEP leave1"; try dsimp only) | fail "no step"))
        k_dflt (refine' items_call mxt3 mdx3 mlh3 (by omega) ?k1 ?k2 ?k3 ?k4 ?k5 ?kK ?kd ?ku ?_; (case k1 => k_asm); (case k2 => k_asm); (case k3 => k_asm); (case k4 => exact N24); (case k5 => k_asm); (case kK => exact rfl); (case kd => k_room); (case ku => k_units))
        intro Di ki h30 tk30 lDi F30 N30
        have sS30 : ∀ p ∈ S3, p ∈ (Di, W.listOf ts.toArray ki) :: S3 := fun p hp => List.mem_cons_of_mem _ hp
        (repeat' (first | (k_unfold; (try dsimp only)) | (k_end; wrow_close) | ((fail_if_success (with_reducible show wpAny _ _ (exec (Stmt.While _ _ _ _) _) _ _ _)); (fail_if_success (with_reducible show wpAny _ _ (exec (Stmt.For _ _ _ _ _) _) _ _ _)); (fail_if_success (with_reducible show wpAny _ _ (exec (Stmt.If _ _ _ _) _) _ _ _)); (fail_if_success (with_reducible show wpAny _ _ (eval (Expr.ListComp _ _ _ _) _) _ _ _)); (fail_if_success (with_reducible show wpAny _ _ (exec (Stmt.Assign _ (Expr.ListComp _ _ _ _) _) _) _ _ _)); (fail_if_success (with_reducible show wpAny _ _ (call (Value.ref 201) _ _) _ _ _)); (fail_if_success (with_reducible show wpAny _ _ (call (Value.ref 206) _ _) _ _ _)); (fail_if_success (with_reducible show wpAny _ _ (call (Value.ref 213) _ _) _ _ _)); (fail_if_success (with_reducible show wpAny _ _ (call (Value.ref 220) _ _) _ _ _)); (fail_if_success (with_reducible show wpAny _ _ (call (Value.ref 227) _ _) _ _ _)); (fail_if_success (with_reducible show wpAny _ _ (call (Value.ref 135) _ _) _ _ _)); (fail_if_success (with_reducible show wpAny _ _ (call (Value.ref 77) _ _) _ _ _)); (fail_if_success (with_reducible show wpAny _ _ (call (Value.builtin "list.append") _ _) _ _ _)); (fail_if_success (with_reducible show wpAny _ _ (binaryOp Operator.Add (Value.ref _) (Value.ref _)) _ _ _)); (fail_if_success (with_reducible show wpAny _ _ (compareOp _ (Value.ref _) (Value.ref _)) _ _ _)); (fail_if_success (with_reducible show wpAny _ _ (call (Value.builtin "sorted") _ _) _ _ _)); (fail_if_success (with_reducible show LCg.CompSrc _ _ _ _ _ _ _ _ _ _ _ _ _ _)); (fail_if_success (with_reducible show LCt.CompSrcT _ _ _ _ _ _ _ _ _ _ _ _ _ _ _)); (fail_if_success (with_reducible show ite _ _ _)); (fail_if_success (with_reducible show GoodW _ _ _ _ _ _ _ ∧ _)); (fail_if_success (with_reducible show KPfDone _)); (first | walk1 | (dsimp only; walk1))) | (leave1; walk_say "STEP leave1"; try dsimp only) | fail "no step"))
        k_dflt (refine' ents_ne N30 List.mem_cons_self (sS30 _ mdu) (hts3.mono sS30) (tdu.mono sS30) hdok ?ku ?_; (case ku => k_units))
        have N31 : News (ghostOf sB.heap [(226, 222)]) sB.heap.objs.size h30 S3 := fun p hp => N30 p (List.mem_cons_of_mem _ hp)
        clear N30 sS30 lDi N24
        walk1
        rw [if_neg (by decide)]
        (repeat' (first | (k_unfold; (try dsimp only)) | (k_end; wrow_close) | ((fail_if_success (with_reducible show wpAny _ _ (exec (Stmt.While _ _ _ _) _) _ _ _)); (fail_if_success (with_reducible show wpAny _ _ (exec (Stmt.For _ _ _ _ _) _) _ _ _)); (fail_if_success (with_reducible show wpAny _ _ (exec (Stmt.If _ _ _ _) _) _ _ _)); (fail_if_success (with_reducible show wpAny _ _ (eval (Expr.ListComp _ _ _ _) _) _ _ _)); (fail_if_success (with_reducible show wpAny _ _ (exec (Stmt.Assign _ (Expr.ListComp _ _ _ _) _) _) _ _ _)); (fail_if_success (with_reducible show wpAny _ _ (call (Value.ref 201) _ _) _ _ _)); (fail_if_success (with_reducible show wpAny _ _ (call (Value.ref 206) _ _) _ _ _)); (fail_if_success (with_reducible show wpAny _ _ (call (Value.ref 213) _ _) _ _ _)); (fail_if_success (with_reducible show wpAny _ _ (call (Value.ref 220) _ _) _ _ _)); (fail_if_success (with_reducible show wpAny _ _ (call (Value.ref 227) _ _) _ _ _)); (fail_if_success (with_reducible show wpAny _ _ (call (Value.ref 135) _ _) _ _ _)); (fail_if_success (with_reducible show wpAny _ _ (call (Value.ref 77) _ _) _ _ _)); (fail_if_success (with_reducible show wpAny _ _ (call (Value.builtin "list.append") _ _) _ _ _)); (fail_if_success (with_reducible show wpAny _ _ (binaryOp Operator.Add (Value.ref _) (Value.ref _)) _ _ _)); (fail_if_success (with_reducible show wpAny _ _ (compareOp _ (Value.ref _) (Value.ref _)) _ _ _)); (fail_if_success (with_reducible show wpAny _ _ (call (Value.builtin "sorted") _ _) _ _ _)); (fail_if_success (with_reducible show LCg.CompSrc _ _ _ _ _ _ _ _ _ _ _ _ _ _)); (fail_if_success (with_reducible show LCt.CompSrcT _ _ _ _ _ _ _ _ _ _ _ _ _ _ _)); (fail_if_success (with_reducible show ite _ _ _)); (fail_if_success (with_reducible show GoodW _ _ _ _ _ _ _ ∧ _)); (fail_if_success (with_reducible show KPfDone _)); (first | walk1 | (dsimp only; walk1))) | (leave1; walk_say "STEP leave1"; try dsimp only) | fail "no step"))
        obtain ⟨prs, ep, mprs, lprs, hrow⟩ := (hprS.mono fun p hp => sS3 _ (sS2 _ hp))
        k_dflt (refine LCt.Assign_ListComp_T (F₀ := F30) (by rfl) (by rfl) (by with_unfolding_all rfl) (by decide) (by rfl) (by decide) (by rfl) (by rfl) (by rfl) ?_)
        (repeat' (first | (k_unfold; (try dsimp only)) | (k_end; wrow_close) | ((fail_if_success (with_reducible show wpAny _ _ (exec (Stmt.While _ _ _ _) _) _ _ _)); (fail_if_success (with_reducible show wpAny _ _ (exec (Stmt.For _ _ _ _ _) _) _ _ _)); (fail_if_success (with_reducible show wpAny _ _ (exec (Stmt.If _ _ _ _) _) _ _ _)); (fail_if_success (with_reducible show wpAny _ _ (eval (Expr.ListComp _ _ _ _) _) _ _ _)); (fail_if_success (with_reducible show wpAny _ _ (exec (Stmt.Assign _ (Expr.ListComp _ _ _ _) _) _) _ _ _)); (fail_if_success (with_reducible show wpAny _ _ (call (Value.ref 201) _ _) _ _ _)); (fail_if_success (with_reducible show wpAny _ _ (call (Value.ref 206) _ _) _ _ _)); (fail_if_success (with_reducible show wpAny _ _ (call (Value.ref 213) _ _) _ _ _)); (fail_if_success (with_reducible show wpAny _ _ (call (Value.ref 220) _ _) _ _ _)); (fail_if_success (with_reducible show wpAny _ _ (call (Value.ref 227) _ _) _ _ _)); (fail_if_success (with_reducible show wpAny _ _ (call (Value.ref 135) _ _) _ _ _)); (fail_if_success (with_reducible show wpAny _ _ (call (Value.ref 77) _ _) _ _ _)); (fail_if_success (with_reducible show wpAny _ _ (call (Value.builtin "list.append") _ _) _ _ _)); (fail_if_success (with_reducible show wpAny _ _ (binaryOp Operator.Add (Value.ref _) (Value.ref _)) _ _ _)); (fail_if_success (with_reducible show wpAny _ _ (compareOp _ (Value.ref _) (Value.ref _)) _ _ _)); (fail_if_success (with_reducible show wpAny _ _ (call (Value.builtin "sorted") _ _) _ _ _)); (fail_if_success (with_reducible show LCg.CompSrc _ _ _ _ _ _ _ _ _ _ _ _ _ _)); (fail_if_success (with_reducible show LCt.CompSrcT _ _ _ _ _ _ _ _ _ _ _ _ _ _ _)); (fail_if_success (with_reducible show ite _ _ _)); (fail_if_success (with_reducible show GoodW _ _ _ _ _ _ _ ∧ _)); (fail_if_success (with_reducible show KPfDone _)); (first | walk1 | (dsimp only; walk1))) | (leave1; walk_say "STEP leave1"; try dsimp only) | fail "no step"))
        rename IsRange _ _ _ _ _ _ _ _ => hR3
        rw [show (ws.length : Int) = ((n + 1 : Nat) : Int) by omega] at hR3
        refine LCt.CompSrcT.range (n := n + 1) (by rfl) (by k_asm) (by k_asm) hR3 (small_one (by omega) (by omega) (by omega) (by omega)) (by rw [rangeSize_one]; split <;> omega) (by rw [PySem.sizeLine_eq]; omega) ?_
        intro g8
        refine' rest_test (fun q => decide (z q ≤ r)) (fun q t' I' C' D' oI' oC' m₂ ys' h' tk' E2 hq hC' hx' F' N' off' ne' => ?_) (fun ys2 hI2 => ?_)
        · obtain ⟨ra, rv, rk, r1, r2, r3, _, rt, r5⟩ := hrow q (by omega)
          have r1' : prs[(q : Int).toNat]? = some (.ref ra) := r1
          (repeat' (first | (k_unfold; (try dsimp only)) | (k_end; wrow_close) | ((fail_if_success (with_reducible show wpAny _ _ (exec (Stmt.While _ _ _ _) _) _ _ _)); (fail_if_success (with_reducible show wpAny _ _ (exec (Stmt.For _ _ _ _ _) _) _ _ _)); (fail_if_success (with_reducible show wpAny _ _ (exec (Stmt.If _ _ _ _) _) _ _ _)); (fail_if_success (with_reducible show wpAny _ _ (eval (Expr.ListComp _ _ _ _) _) _ _ _)); (fail_if_success (with_reducible show wpAny _ _ (exec (Stmt.Assign _ (Expr.ListComp _ _ _ _) _) _) _ _ _)); (fail_if_success (with_reducible show wpAny _ _ (call (Value.ref 201) _ _) _ _ _)); (fail_if_success (with_reducible show wpAny _ _ (call (Value.ref 206) _ _) _ _ _)); (fail_if_success (with_reducible show wpAny _ _ (call (Value.ref 213) _ _) _ _ _)); (fail_if_success (with_reducible show wpAny _ _ (call (Value.ref 220) _ _) _ _ _)); (fail_if_success (with_reducible show wpAny _ _ (call (Value.ref 227) _ _) _ _ _)); (fail_if_success (with_reducible show wpAny _ _ (call (Value.ref 135) _ _) _ _ _)); (fail_if_success (with_reducible show wpAny _ _ (call (Value.ref 77) _ _) _ _ _)); (fail_if_success (with_reducible show wpAny _ _ (call (Value.builtin "list.append") _ _) _ _ _)); (fail_if_success (with_reducible show wpAny _ _ (binaryOp Operator.Add (Value.ref _) (Value.ref _)) _ _ _)); (fail_if_success (with_reducible show wpAny _ _ (compareOp _ (Value.ref _) (Value.ref _)) _ _ _)); (fail_if_success (with_reducible show wpAny _ _ (call (Value.builtin "sorted") _ _) _ _ _)); (fail_if_success (with_reducible show LCg.CompSrc _ _ _ _ _ _ _ _ _ _ _ _ _ _)); (fail_if_success (with_reducible show LCt.CompSrcT _ _ _ _ _ _ _ _ _ _ _ _ _ _ _)); (fail_if_success (with_reducible show ite _ _ _)); (fail_if_success (with_reducible show GoodW _ _ _ _ _ _ _ ∧ _)); (fail_if_success (with_reducible show KPfDone _)); (first | walk1 | (dsimp only; walk1))) | (leave1; walk_say "STEP leave1"; try dsimp only) | fail "no step"))
          by_cases hzq : z q ≤ r
          · rw [if_pos (decide_eq_true (by omega))]
            (repeat' (first | (k_unfold; (try dsimp only)) | (k_end; wrow_close) | ((fail_if_success (with_reducible show wpAny _ _ (exec (Stmt.While _ _ _ _) _) _ _ _)); (fail_if_success (with_reducible show wpAny _ _ (exec (Stmt.For _ _ _ _ _) _) _ _ _)); (fail_if_success (with_reducible show wpAny _ _ (exec (Stmt.If _ _ _ _) _) _ _ _)); (fail_if_success (with_reducible show wpAny _ _ (eval (Expr.ListComp _ _ _ _) _) _ _ _)); (fail_if_success (with_reducible show wpAny _ _ (exec (Stmt.Assign _ (Expr.ListComp _ _ _ _) _) _) _ _ _)); (fail_if_success (with_reducible show wpAny _ _ (call (Value.ref 201) _ _) _ _ _)); (fail_if_success (with_reducible show wpAny _ _ (call (Value.ref 206) _ _) _ _ _)); (fail_if_success (with_reducible show wpAny _ _ (call (Value.ref 213) _ _) _ _ _)); (fail_if_success (with_reducible show wpAny _ _ (call (Value.ref 220) _ _) _ _ _)); (fail_if_success (with_reducible show wpAny _ _ (call (Value.ref 227) _ _) _ _ _)); (fail_if_success (with_reducible show wpAny _ _ (call (Value.ref 135) _ _) _ _ _)); (fail_if_success (with_reducible show wpAny _ _ (call (Value.ref 77) _ _) _ _ _)); (fail_if_success (with_reducible show wpAny _ _ (call (Value.builtin "list.append") _ _) _ _ _)); (fail_if_success (with_reducible show wpAny _ _ (binaryOp Operator.Add (Value.ref _) (Value.ref _)) _ _ _)); (fail_if_success (with_reducible show wpAny _ _ (compareOp _ (Value.ref _) (Value.ref _)) _ _ _)); (fail_if_success (with_reducible show wpAny _ _ (call (Value.builtin "sorted") _ _) _ _ _)); (fail_if_success (with_reducible show LCg.CompSrc _ _ _ _ _ _ _ _ _ _ _ _ _ _)); (fail_if_success (with_reducible show LCt.CompSrcT _ _ _ _ _ _ _ _ _ _ _ _ _ _ _)); (fail_if_success (with_reducible show ite _ _ _)); (fail_if_success (with_reducible show GoodW _ _ _ _ _ _ _ ∧ _)); (fail_if_success (with_reducible show KPfDone _)); (first | walk1 | (dsimp only; walk1))) | (leave1; walk_say "STEP leave1"; try dsimp only) | fail "no step"))
            refine LCg.CompEnd.intro (by assumption) (by assumption) _ (fun p hp => hp) off' trivial ⟨rfl, decide_eq_true hzq, _, rfl⟩
          · rw [if_neg (by rw [decide_eq_true_eq]; omega)]
            refine LCg.CompEnd.intro (by assumption) (by assumption) _ (fun p hp => hp) off' trivial ⟨rfl, decide_eq_false hzq⟩
        · unfold LCg.FinA
          intro D2 h2 tk2 F2 N2 o2
          clear hprS hrow mprs
          dsimp only
          (repeat' (first | (k_unfold; (try dsimp only)) | (k_end; wrow_close) | ((fail_if_success (with_reducible show wpAny _ _ (exec (Stmt.While _ _ _ _) _) _ _ _)); (fail_if_success (with_reducible show wpAny _ _ (exec (Stmt.For _ _ _ _ _) _) _ _ _)); (fail_if_success (with_reducible show wpAny _ _ (exec (Stmt.If _ _ _ _) _) _ _ _)); (fail_if_success (with_reducible show wpAny _ _ (eval (Expr.ListComp _ _ _ _) _) _ _ _)); (fail_if_success (with_reducible show wpAny _ _ (exec (Stmt.Assign _ (Expr.ListComp _ _ _ _) _) _) _ _ _)); (fail_if_success (with_reducible show wpAny _ _ (call (Value.ref 201) _ _) _ _ _)); (fail_if_success (with_reducible show wpAny _ _ (call (Value.ref 206) _ _) _ _ _)); (fail_if_success (with_reducible show wpAny _ _ (call (Value.ref 213) _ _) _ _ _)); (fail_if_success (with_reducible show wpAny _ _ (call (Value.ref 220) _ _) _ _ _)); (fail_if_success (with_reducible show wpAny _ _ (call (Value.ref 227) _ _) _ _ _)); (fail_if_success (with_reducible show wpAny _ _ (call (Value.ref 135) _ _) _ _ _)); (fail_if_success (with_reducible show wpAny _ _ (call (Value.ref 77) _ _) _ _ _)); (fail_if_success (with_reducible show wpAny _ _ (call (Value.builtin "list.append") _ _) _ _ _)); (fail_if_success (with_reducible show wpAny _ _ (binaryOp Operator.Add (Value.ref _) (Value.ref _)) _ _ _)); (fail_if_success (with_reducible show wpAny _ _ (compareOp _ (Value.ref _) (Value.ref _)) _ _ _)); (fail_if_success (with_reducible show wpAny _ _ (call (Value.builtin "sorted") _ _) _ _ _)); (fail_if_success (with_reducible show LCg.CompSrc _ _ _ _ _ _ _ _ _ _ _ _ _ _)); (fail_if_success (with_reducible show LCt.CompSrcT _ _ _ _ _ _ _ _ _ _ _ _ _ _ _)); (fail_if_success (with_reducible show ite _ _ _)); (fail_if_success (with_reducible show GoodW _ _ _ _ _ _ _ ∧ _)); (fail_if_success (with_reducible show KPfDone _)); (first | walk1 | (dsimp only; walk1))) | (leave1; walk_say "STEP leave1"; try dsimp only) | fail "no step"))
          walk1
          (repeat' (first | (k_unfold; (try dsimp only)) | (k_end; wrow_close) | ((fail_if_success (with_reducible show wpAny _ _ (exec (Stmt.While _ _ _ _) _) _ _ _)); (fail_if_success (with_reducible show wpAny _ _ (exec (Stmt.For _ _ _ _ _) _) _ _ _)); (fail_if_success (with_reducible show wpAny _ _ (exec (Stmt.If _ _ _ _) _) _ _ _)); (fail_if_success (with_reducible show wpAny _ _ (eval (Expr.ListComp _ _ _ _) _) _ _ _)); (fail_if_success (with_reducible show wpAny _ _ (exec (Stmt.Assign _ (Expr.ListComp _ _ _ _) _) _) _ _ _)); (fail_if_success (with_reducible show wpAny _ _ (call (Value.ref 201) _ _) _ _ _)); (fail_if_success (with_reducible show wpAny _ _ (call (Value.ref 206) _ _) _ _ _)); (fail_if_success (with_reducible show wpAny _ _ (call (Value.ref 213) _ _) _ _ _)); (fail_if_success (with_reducible show wpAny _ _ (call (Value.ref 220) _ _) _ _ _)); (fail_if_success (with_reducible show wpAny _ _ (call (Value.ref 227) _ _) _ _ _)); (fail_if_success (with_reducible show wpAny _ _ (call (Value.ref 135) _ _) _ _ _)); (fail_if_success (with_reducible show wpAny _ _ (call (Value.ref 77) _ _) _ _ _)); (fail_if_success (with_reducible show wpAny _ _ (call (Value.builtin "list.append") _ _) _ _ _)); (fail_if_success (with_reducible show wpAny _ _ (binaryOp Operator.Add (Value.ref _) (Value.ref _)) _ _ _)); (fail_if_success (with_reducible show wpAny _ _ (compareOp _ (Value.ref _) (Value.ref _)) _ _ _)); (fail_if_success (with_reducible show wpAny _ _ (call (Value.builtin "sorted") _ _) _ _ _)); (fail_if_success (with_reducible show LCg.CompSrc _ _ _ _ _ _ _ _ _ _ _ _ _ _)); (fail_if_success (with_reducible show LCt.CompSrcT _ _ _ _ _ _ _ _ _ _ _ _ _ _ _)); (fail_if_success (with_reducible show ite _ _ _)); (fail_if_success (with_reducible show GoodW _ _ _ _ _ _ _ ∧ _)); (fail_if_success (with_reducible show KPfDone _)); (first | walk1 | (dsimp only; walk1))) | (leave1; walk_say "STEP leave1"; try dsimp only) | fail "no step"))
          have hz6 : ∀ i, i ≤ n → z i ≤ 6 := fun i hi => by rw [hz]; exact ed_W (hWi i hi) hsW
          k_dflt (refine' search_call (z := z) (d := d) (n := n) (wl := wl) (List.mem_cons_of_mem _ mDw3) hwords (fun x hx => (hW x hx).2.1) lwn hn8 hsW.2.1 (fun i hi => ?hzz) hz6 hr2 (fun i hi => ?hzr) (List.mem_cons_of_mem _ mxt3) (List.mem_cons_of_mem _ mdx3) (List.mem_cons_of_mem _ mlh3) (hts3.mono fun p hp => List.mem_cons_of_mem _ hp) (fun i j hi hj => by have := hd6 i j (by omega) hj; omega) ?k1 ?k2 ?k3 ?k4 ?k5 ?kK ?kd ?ku ?_; (case k1 => k_asm); (case k2 => k_asm); (case k3 => k_asm); (case k4 => exact N2); (case k5 => k_asm); (case kK => exact rfl); (case kd => k_room); (case ku => k_units))
          · rw [hz, levF_99 hsW (hWi i hi), ed_symm]
          · rw [hz]; exact levF_reach r (hWi i hi) hsW
          intro wayS T5 A5 B5 va vb wa wb ka kb kt h40 tk40 ndS memS iva pwa swa ivb pwb swb F40 N40
          (repeat' (first | (k_unfold; (try dsimp only)) | (k_end; wrow_close) | ((fail_if_success (with_reducible show wpAny _ _ (exec (Stmt.While _ _ _ _) _) _ _ _)); (fail_if_success (with_reducible show wpAny _ _ (exec (Stmt.For _ _ _ _ _) _) _ _ _)); (fail_if_success (with_reducible show wpAny _ _ (exec (Stmt.If _ _ _ _) _) _ _ _)); (fail_if_success (with_reducible show wpAny _ _ (eval (Expr.ListComp _ _ _ _) _) _ _ _)); (fail_if_success (with_reducible show wpAny _ _ (exec (Stmt.Assign _ (Expr.ListComp _ _ _ _) _) _) _ _ _)); (fail_if_success (with_reducible show wpAny _ _ (call (Value.ref 201) _ _) _ _ _)); (fail_if_success (with_reducible show wpAny _ _ (call (Value.ref 206) _ _) _ _ _)); (fail_if_success (with_reducible show wpAny _ _ (call (Value.ref 213) _ _) _ _ _)); (fail_if_success (with_reducible show wpAny _ _ (call (Value.ref 220) _ _) _ _ _)); (fail_if_success (with_reducible show wpAny _ _ (call (Value.ref 227) _ _) _ _ _)); (fail_if_success (with_reducible show wpAny _ _ (call (Value.ref 135) _ _) _ _ _)); (fail_if_success (with_reducible show wpAny _ _ (call (Value.ref 77) _ _) _ _ _)); (fail_if_success (with_reducible show wpAny _ _ (call (Value.builtin "list.append") _ _) _ _ _)); (fail_if_success (with_reducible show wpAny _ _ (binaryOp Operator.Add (Value.ref _) (Value.ref _)) _ _ _)); (fail_if_success (with_reducible show wpAny _ _ (compareOp _ (Value.ref _) (Value.ref _)) _ _ _)); (fail_if_success (with_reducible show wpAny _ _ (call (Value.builtin "sorted") _ _) _ _ _)); (fail_if_success (with_reducible show LCg.CompSrc _ _ _ _ _ _ _ _ _ _ _ _ _ _)); (fail_if_success (with_reducible show LCt.CompSrcT _ _ _ _ _ _ _ _ _ _ _ _ _ _ _)); (fail_if_success (with_reducible show ite _ _ _)); (fail_if_success (with_reducible show GoodW _ _ _ _ _ _ _ ∧ _)); (fail_if_success (with_reducible show KPfDone _)); (first | walk1 | (dsimp only; walk1))) | (leave1; walk_say "STEP leave1"; try dsimp only) | fail "no step"))
          have lvw : vw.length = R.2.length := by rw [iw9.length, nts, List.length_map]
          have lR2 : R.2.length ≤ n + 1 := by
            have := List.Nodup.length_le_of_subset pOk.nd (l₂ := List.range (n + 1)) fun q hq => ((pOk.way q).mp hq).mem
            simpa using this
          obtain ⟨S4, hS4, N41⟩ := news_any N40
          have mT5 : (T5, ({ cls := .type "tuple", data := .seq #[.ref A5, .ref B5] kt } : Obj)) ∈ S4 := by rw [hS4]; k_mem
          have mA5 : (A5, W.listOf va.toArray ka) ∈ S4 := by rw [hS4]; k_mem
          have mB5 : (B5, W.listOf vb.toArray kb) ∈ S4 := by rw [hS4]; k_mem
          have mD2 : (D2, LCg.lst ys2) ∈ S4 := by rw [hS4]; k_mem
          have sS4 : ∀ p ∈ S3, p ∈ S4 := fun p hp => by rw [hS4]; k_mem
          clear hS4 N40 N2
          refine sorted_N F40 N41 (News.isList N41 (sS4 _ mwy3)) iw9 (by omega) fun h5 vs5 ns5 e5 F5 N5 hI5 hp5 hs5 => ?_
          clear F40 N41
          have e1 : ns5 = wa := way_same pOk.nd pOk.way ndS memS hp5 hs5 pwa swa
          have e2 : wb = nts ((List.range (n + 1)).filter fun q => decide (z q ≤ r)) := near_same (by rw [hz, hd]; exact tri_of wl sw) ndS memS pwb swb
          have hI2' : IntsAre ys2 wb := by rw [e2]; exact hI2
          rw [e1] at hI5
          (repeat' (first | (k_unfold; (try dsimp only)) | (k_end; wrow_close) | ((fail_if_success (with_reducible show wpAny _ _ (exec (Stmt.While _ _ _ _) _) _ _ _)); (fail_if_success (with_reducible show wpAny _ _ (exec (Stmt.For _ _ _ _ _) _) _ _ _)); (fail_if_success (with_reducible show wpAny _ _ (exec (Stmt.If _ _ _ _) _) _ _ _)); (fail_if_success (with_reducible show wpAny _ _ (eval (Expr.ListComp _ _ _ _) _) _ _ _)); (fail_if_success (with_reducible show wpAny _ _ (exec (Stmt.Assign _ (Expr.ListComp _ _ _ _) _) _) _ _ _)); (fail_if_success (with_reducible show wpAny _ _ (call (Value.ref 201) _ _) _ _ _)); (fail_if_success (with_reducible show wpAny _ _ (call (Value.ref 206) _ _) _ _ _)); (fail_if_success (with_reducible show wpAny _ _ (call (Value.ref 213) _ _) _ _ _)); (fail_if_success (with_reducible show wpAny _ _ (call (Value.ref 220) _ _) _ _ _)); (fail_if_success (with_reducible show wpAny _ _ (call (Value.ref 227) _ _) _ _ _)); (fail_if_success (with_reducible show wpAny _ _ (call (Value.ref 135) _ _) _ _ _)); (fail_if_success (with_reducible show wpAny _ _ (call (Value.ref 77) _ _) _ _ _)); (fail_if_success (with_reducible show wpAny _ _ (call (Value.builtin "list.append") _ _) _ _ _)); (fail_if_success (with_reducible show wpAny _ _ (binaryOp Operator.Add (Value.ref _) (Value.ref _)) _ _ _)); (fail_if_success (with_reducible show wpAny _ _ (compareOp _ (Value.ref _) (Value.ref _)) _ _ _)); (fail_if_success (with_reducible show wpAny _ _ (call (Value.builtin "sorted") _ _) _ _ _)); (fail_if_success (with_reducible show LCg.CompSrc _ _ _ _ _ _ _ _ _ _ _ _ _ _)); (fail_if_success (with_reducible show LCt.CompSrcT _ _ _ _ _ _ _ _ _ _ _ _ _ _ _)); (fail_if_success (with_reducible show ite _ _ _)); (fail_if_success (with_reducible show GoodW _ _ _ _ _ _ _ ∧ _)); (fail_if_success (with_reducible show KPfDone _)); (first | walk1 | (dsimp only; walk1))) | (leave1; walk_say "STEP leave1"; try dsimp only) | fail "no step"))
          rename News _ _ _ _ => lN
          k_dflt (refine' pairs_ne (a₁ := A5) (a₂ := B5) (x := wa) (y := wb) lN ?m1 (List.mem_cons_self) ?m2 ?m3 ?m4 ?m5 iva ivb hI5 hI2' ?ku ?_; (case m1 => k_mem); (case m2 => k_mem); (case m3 => k_mem); (case m4 => k_mem); (case m5 => k_mem); (case ku => k_units))
          have N42 : News _ _ _ S4 := fun p hp => lN p (List.mem_cons_of_mem _ (List.mem_cons_of_mem _ hp))
          clear lN
          walk1
          rw [if_neg (by decide)]
          have mxt4 := sS4 _ mxt3
          have mdx4 := sS4 _ mdx3
          have mlh4 := sS4 _ mlh3
          have hts4 := hts3.mono sS4
          have mW4 := sS4 _ mW3
          have mDw4 := sS4 _ mDw3
          have m2224 := sS4 _ m2223
          have mdu4 := sS4 _ mdu
          have tdu4 := tdu.mono sS4
          (repeat' (first | (k_unfold; (try dsimp only)) | (k_end; wrow_close) | ((fail_if_success (with_reducible show wpAny _ _ (exec (Stmt.While _ _ _ _) _) _ _ _)); (fail_if_success (with_reducible show wpAny _ _ (exec (Stmt.For _ _ _ _ _) _) _ _ _)); (fail_if_success (with_reducible show wpAny _ _ (exec (Stmt.If _ _ _ _) _) _ _ _)); (fail_if_success (with_reducible show wpAny _ _ (eval (Expr.ListComp _ _ _ _) _) _ _ _)); (fail_if_success (with_reducible show wpAny _ _ (exec (Stmt.Assign _ (Expr.ListComp _ _ _ _) _) _) _ _ _)); (fail_if_success (with_reducible show wpAny _ _ (call (Value.ref 201) _ _) _ _ _)); (fail_if_success (with_reducible show wpAny _ _ (call (Value.ref 206) _ _) _ _ _)); (fail_if_success (with_reducible show wpAny _ _ (call (Value.ref 213) _ _) _ _ _)); (fail_if_success (with_reducible show wpAny _ _ (call (Value.ref 220) _ _) _ _ _)); (fail_if_success (with_reducible show wpAny _ _ (call (Value.ref 227) _ _) _ _ _)); (fail_if_success (with_reducible show wpAny _ _ (call (Value.ref 135) _ _) _ _ _)); (fail_if_success (with_reducible show wpAny _ _ (call (Value.ref 77) _ _) _ _ _)); (fail_if_success (with_reducible show wpAny _ _ (call (Value.builtin "list.append") _ _) _ _ _)); (fail_if_success (with_reducible show wpAny _ _ (binaryOp Operator.Add (Value.ref _) (Value.ref _)) _ _ _)); (fail_if_success (with_reducible show wpAny _ _ (compareOp _ (Value.ref _) (Value.ref _)) _ _ _)); (fail_if_success (with_reducible show wpAny _ _ (call (Value.builtin "sorted") _ _) _ _ _)); (fail_if_success (with_reducible show LCg.CompSrc _ _ _ _ _ _ _ _ _ _ _ _ _ _)); (fail_if_success (with_reducible show LCt.CompSrcT _ _ _ _ _ _ _ _ _ _ _ _ _ _ _)); (fail_if_success (with_reducible show ite _ _ _)); (fail_if_success (with_reducible show GoodW _ _ _ _ _ _ _ ∧ _)); (fail_if_success (with_reducible show KPfDone _)); (first | walk1 | (dsimp only; walk1))) | (leave1; walk_say "STEP leave1"; try dsimp only) | fail "no step"))
          k_dflt (refine' items_call mxt4 mdx4 mlh4 (by omega) ?k1 ?k2 ?k3 ?k4 ?k5 ?kK ?kd ?ku ?_; (case k1 => k_asm); (case k2 => k_asm); (case k3 => k_asm); (case k4 => exact N42); (case k5 => k_asm); (case kK => exact rfl); (case kd => k_room); (case ku => k_units))
          intro Dj kj h50 tk50 lDj F50 N50
          have sS50 : ∀ p ∈ S4, p ∈ (Dj, W.listOf ts.toArray kj) :: S4 := fun p hp => List.mem_cons_of_mem _ hp
          (repeat' (first | (k_unfold; (try dsimp only)) | (k_end; wrow_close) | ((fail_if_success (with_reducible show wpAny _ _ (exec (Stmt.While _ _ _ _) _) _ _ _)); (fail_if_success (with_reducible show wpAny _ _ (exec (Stmt.For _ _ _ _ _) _) _ _ _)); (fail_if_success (with_reducible show wpAny _ _ (exec (Stmt.If _ _ _ _) _) _ _ _)); (fail_if_success (with_reducible show wpAny _ _ (eval (Expr.ListComp _ _ _ _) _) _ _ _)); (fail_if_success (with_reducible show wpAny _ _ (exec (Stmt.Assign _ (Expr.ListComp _ _ _ _) _) _) _ _ _)); (fail_if_success (with_reducible show wpAny _ _ (call (Value.ref 201) _ _) _ _ _)); (fail_if_success (with_reducible show wpAny _ _ (call (Value.ref 206) _ _) _ _ _)); (fail_if_success (with_reducible show wpAny _ _ (call (Value.ref 213) _ _) _ _ _)); (fail_if_success (with_reducible show wpAny _ _ (call (Value.ref 220) _ _) _ _ _)); (fail_if_success (with_reducible show wpAny _ _ (call (Value.ref 227) _ _) _ _ _)); (fail_if_success (with_reducible show wpAny _ _ (call (Value.ref 135) _ _) _ _ _)); (fail_if_success (with_reducible show wpAny _ _ (call (Value.ref 77) _ _) _ _ _)); (fail_if_success (with_reducible show wpAny _ _ (call (Value.builtin "list.append") _ _) _ _ _)); (fail_if_success (with_reducible show wpAny _ _ (binaryOp Operator.Add (Value.ref _) (Value.ref _)) _ _ _)); (fail_if_success (with_reducible show wpAny _ _ (compareOp _ (Value.ref _) (Value.ref _)) _ _ _)); (fail_if_success (with_reducible show wpAny _ _ (call (Value.builtin "sorted") _ _) _ _ _)); (fail_if_success (with_reducible show LCg.CompSrc _ _ _ _ _ _ _ _ _ _ _ _ _ _)); (fail_if_success (with_reducible show LCt.CompSrcT _ _ _ _ _ _ _ _ _ _ _ _ _ _ _)); (fail_if_success (with_reducible show ite _ _ _)); (fail_if_success (with_reducible show GoodW _ _ _ _ _ _ _ ∧ _)); (fail_if_success (with_reducible show KPfDone _)); (first | walk1 | (dsimp only; walk1))) | (leave1; walk_say "STEP leave1"; try dsimp only) | fail "no step"))
          k_dflt (refine' ents_eq N50 List.mem_cons_self (sS50 _ mdu4) (hts4.mono sS50) (tdu4.mono sS50) hdok ?ku ?_; (case ku => k_units))
          have N51 : News _ _ _ S4 := fun p hp => N50 p (List.mem_cons_of_mem _ hp)
          clear N50 sS50 lDj
          walk1
          rw [if_pos rfl]
          (repeat' (first | (k_unfold; (try dsimp only)) | (k_end; wrow_close) | ((fail_if_success (with_reducible show wpAny _ _ (exec (Stmt.While _ _ _ _) _) _ _ _)); (fail_if_success (with_reducible show wpAny _ _ (exec (Stmt.For _ _ _ _ _) _) _ _ _)); (fail_if_success (with_reducible show wpAny _ _ (exec (Stmt.If _ _ _ _) _) _ _ _)); (fail_if_success (with_reducible show wpAny _ _ (eval (Expr.ListComp _ _ _ _) _) _ _ _)); (fail_if_success (with_reducible show wpAny _ _ (exec (Stmt.Assign _ (Expr.ListComp _ _ _ _) _) _) _ _ _)); (fail_if_success (with_reducible show wpAny _ _ (call (Value.ref 201) _ _) _ _ _)); (fail_if_success (with_reducible show wpAny _ _ (call (Value.ref 206) _ _) _ _ _)); (fail_if_success (with_reducible show wpAny _ _ (call (Value.ref 213) _ _) _ _ _)); (fail_if_success (with_reducible show wpAny _ _ (call (Value.ref 220) _ _) _ _ _)); (fail_if_success (with_reducible show wpAny _ _ (call (Value.ref 227) _ _) _ _ _)); (fail_if_success (with_reducible show wpAny _ _ (call (Value.ref 135) _ _) _ _ _)); (fail_if_success (with_reducible show wpAny _ _ (call (Value.ref 77) _ _) _ _ _)); (fail_if_success (with_reducible show wpAny _ _ (call (Value.builtin "list.append") _ _) _ _ _)); (fail_if_success (with_reducible show wpAny _ _ (binaryOp Operator.Add (Value.ref _) (Value.ref _)) _ _ _)); (fail_if_success (with_reducible show wpAny _ _ (compareOp _ (Value.ref _) (Value.ref _)) _ _ _)); (fail_if_success (with_reducible show wpAny _ _ (call (Value.builtin "sorted") _ _) _ _ _)); (fail_if_success (with_reducible show LCg.CompSrc _ _ _ _ _ _ _ _ _ _ _ _ _ _)); (fail_if_success (with_reducible show LCt.CompSrcT _ _ _ _ _ _ _ _ _ _ _ _ _ _ _)); (fail_if_success (with_reducible show ite _ _ _)); (fail_if_success (with_reducible show GoodW _ _ _ _ _ _ _ ∧ _)); (fail_if_success (with_reducible show KPfDone _)); (first | walk1 | (dsimp only; walk1))) | (leave1; walk_say "STEP leave1"; try dsimp only) | fail "no step"))
          k_dflt (refine' count_call mxt4 mdx4 mlh4 (by omega) ?k1 ?k2 ?k3 ?k4 ?k5 ?kK ?kd ?ku ?_; (case k1 => k_asm); (case k2 => k_asm); (case k3 => k_asm); (case k4 => exact N51); (case k5 => k_asm); (case kK => exact rfl); (case kd => k_room); (case ku => k_units))
          intro t60 h60 tk60 F60 N60
          dsimp only [W.LenBack]
          refine ⟨⟨by omega, by omega⟩, ?_⟩
          (repeat' (first | (k_unfold; (try dsimp only)) | (k_end; wrow_close) | ((fail_if_success (with_reducible show wpAny _ _ (exec (Stmt.While _ _ _ _) _) _ _ _)); (fail_if_success (with_reducible show wpAny _ _ (exec (Stmt.For _ _ _ _ _) _) _ _ _)); (fail_if_success (with_reducible show wpAny _ _ (exec (Stmt.If _ _ _ _) _) _ _ _)); (fail_if_success (with_reducible show wpAny _ _ (eval (Expr.ListComp _ _ _ _) _) _ _ _)); (fail_if_success (with_reducible show wpAny _ _ (exec (Stmt.Assign _ (Expr.ListComp _ _ _ _) _) _) _ _ _)); (fail_if_success (with_reducible show wpAny _ _ (call (Value.ref 201) _ _) _ _ _)); (fail_if_success (with_reducible show wpAny _ _ (call (Value.ref 206) _ _) _ _ _)); (fail_if_success (with_reducible show wpAny _ _ (call (Value.ref 213) _ _) _ _ _)); (fail_if_success (with_reducible show wpAny _ _ (call (Value.ref 220) _ _) _ _ _)); (fail_if_success (with_reducible show wpAny _ _ (call (Value.ref 227) _ _) _ _ _)); (fail_if_success (with_reducible show wpAny _ _ (call (Value.ref 135) _ _) _ _ _)); (fail_if_success (with_reducible show wpAny _ _ (call (Value.ref 77) _ _) _ _ _)); (fail_if_success (with_reducible show wpAny _ _ (call (Value.builtin "list.append") _ _) _ _ _)); (fail_if_success (with_reducible show wpAny _ _ (binaryOp Operator.Add (Value.ref _) (Value.ref _)) _ _ _)); (fail_if_success (with_reducible show wpAny _ _ (compareOp _ (Value.ref _) (Value.ref _)) _ _ _)); (fail_if_success (with_reducible show wpAny _ _ (call (Value.builtin "sorted") _ _) _ _ _)); (fail_if_success (with_reducible show LCg.CompSrc _ _ _ _ _ _ _ _ _ _ _ _ _ _)); (fail_if_success (with_reducible show LCt.CompSrcT _ _ _ _ _ _ _ _ _ _ _ _ _ _ _)); (fail_if_success (with_reducible show ite _ _ _)); (fail_if_success (with_reducible show GoodW _ _ _ _ _ _ _ ∧ _)); (fail_if_success (with_reducible show KPfDone _)); (first | walk1 | (dsimp only; walk1))) | (leave1; walk_say "STEP leave1"; try dsimp only) | fail "no step"))
          have hend : ((ts.length : Int) == (ws.length : Int) - 1) = true := by rw [beq_iff_eq]; omega
          rw [hend]
          refine hQz _ _ ?_
          dsimp only
          rename News _ _ _ _ => lN
          refine ⟨?_, GrownAt.of lN m2224, trivial⟩
          refine goodW_bool (by assumption) (by assumption) (raisesW_false ?_) ?_
          · wrow_none_raised
          · exact law_post _)
end Mine
end
set_option maxRecDepth 100000 in
set_option maxHeartbeats 8000000 in
theorem PySem.Challenge.cw_pe0242_01_holds : PySem.Challenge.rw_pe0242_01.Holds :=
  Mine.lawT
