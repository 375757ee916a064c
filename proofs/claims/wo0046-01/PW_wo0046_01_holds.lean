import PyProof.Rows.All
import Wide.All
import OpenK.AllK
import Wide.FinOn
import Lean
import PySem.Challenge.RW_wo0046_01
open PySem PySem.W PySem.Calls PyProof.Rows PyProof.V
set_option Elab.async false
set_option maxRecDepth 100000
set_option maxHeartbeats 8000000
set_option linter.all false
set_option compiler.extract_closed false
set_option pp.deepTerms false
set_option pp.deepTerms.threshold 12
namespace Mine
section
theorem keeps {P : Prop} {α : Sort _} (_H : α) (h : P) : P := h
local macro_rules | `(tactic| o_head $H) => `(tactic| exact keeps $H (by assumption))
theorem wpart (h : PySem.Challenge.rw_wo0046_01.row.Holds) : PySem.Challenge.rw_wo0046_01.row.Holds := by k_head
end
noncomputable abbrev PR : Program := PySem.Challenge.rw_wo0046_01.row.prog
noncomputable def lawD : DefRec := by
  refine Prod.fst (Subtype.val (p := fun x : DefRec × List (Str × PySem.Expr) => defOf PR (Str.ofString "law") = some x) ⟨?x, ?h⟩)
  case h => with_unfolding_all exact rfl
example : (wpart.heap_1 = wpart.heap_1 ∧ PySem.Challenge.rw_wo0046_01 = PySem.Challenge.rw_wo0046_01) := by
  k_fill
  exact ⟨rfl, rfl⟩
theorem nm1 {g h : Heap} {L l : Addr} {o : Obj} {r : List (Addr × Obj)} {C : Prop} (_N : News g L h ((l, o) :: r)) (k : ∀ y, y = l → C) : C := k l rfl
theorem nm2 {g h : Heap} {L l : Addr} {o : Obj} {x : Addr × Obj} {r : List (Addr × Obj)} {C : Prop} (_N : News g L h (x :: (l, o) :: r)) (k : ∀ y, y = l → C) : C := k l rfl
theorem nmF {g h : Heap} {L : Addr} {m : Str → Option Value} {C : Prop} (_N : Fr g L h m) (k : ∀ y, y = L → C) : C := k L rfl
theorem news_drop {g h : Heap} {L : Addr} {x : Addr × Obj} {r : List (Addr × Obj)} (N : News g L h (x :: r)) : News g L h r := fun p hp => N p (.tail _ hp)
theorem news_drop1 {g h : Heap} {L : Addr} {x y : Addr × Obj} {r : List (Addr × Obj)} (N : News g L h (x :: y :: r)) : News g L h (x :: r) := fun p hp => N p (by
  rcases List.mem_cons.mp hp with h | h
  · rw [h]; exact .head _
  · exact .tail _ (.tail _ h))
theorem news_drop2 {g h : Heap} {L : Addr} {x y z : Addr × Obj} {r : List (Addr × Obj)} (N : News g L h (x :: y :: z :: r)) : News g L h (x :: r) := news_drop1 (news_drop1 N)
theorem lst_of {g h : Heap} {L l : Addr} {us : List Value} {c : Nat} {news : List (Addr × Obj)} (N : News g L h news) (hm : (l, W.listOf us.toArray c) ∈ news) : h.IsList l us.toArray := ⟨_, (N _ hm).1, rfl, c, rfl⟩
theorem log2_small {a : Int} (h0 : 0 ≤ a) (h : a < 100000000000) : a.natAbs.log2 < 1920 := by
  by_cases z : a.natAbs = 0
  · rw [z]; decide
  · refine (Nat.log2_lt z).mpr (Nat.lt_of_lt_of_le (m := 100000000000) (by lia) ?_)
    exact Nat.le_trans (by decide : 100000000000 ≤ 2 ^ 40) (Nat.pow_le_pow_right (by decide) (by decide))
theorem insert0 {prog : Program} {w : World} {A : Around} {E : Value → Shared → Prop} {s : Shared} {h₀ : Heap} {L D : Addr} {m : Str → Option Value} {news news' : List (Addr × Obj)} {us : List Value} {n : Nat} {u : Tok} {y : Value} {Q : Value → Shared → Prop}
    (F : Fr h₀ L s.heap m) (N : News h₀ L s.heap news) (U : Upd D (W.listOf us.toArray n) (W.listOf (y :: us).toArray (n + 1)) news news') (hz : us.length ≤ 1000) (h : ∀ h', Fr h₀ L h' m → News h₀ L h' news' → Q .none { s with heap := h' }) :
    wpAny (model prog w) A (call (.builtin "list.insert") [.ref D, .int 0 u, y]) Q E s :=
  kl_insert (x := 0) F N (by decide) (by simp [kl_ins]) U (by rw [sizeLine_eq]; show us.length ≤ _; lia) h
theorem gen_toks {α : Type} {M : Model} {A : Around} {t : Sem α} {Q : α → Shared → Prop} {E : Value → Shared → Prop} {h : Heap} {g : Array GenState} {d : Drawn} {X : Nat} {os : OsState} (k : ∀ tk, wpAny M A t Q E ⟨h, g, d, tk, os⟩) : wpAny M A t Q E ⟨h, g, d, X, os⟩ := k X
theorem nmo1 {g h : Heap} {L l : Addr} {o : Obj} {r : List (Addr × Obj)} {C : Prop} (_N : News g L h ((l, o) :: r)) (k : ∀ y z, y = l → z = o → C) : C := k l o rfl rfl
theorem nmo2 {g h : Heap} {L l : Addr} {o : Obj} {x : Addr × Obj} {r : List (Addr × Obj)} {C : Prop} (_N : News g L h (x :: (l, o) :: r)) (k : ∀ y z, y = l → z = o → C) : C := k l o rfl rfl
theorem nmo3 {g h : Heap} {L l : Addr} {o : Obj} {x x2 : Addr × Obj} {r : List (Addr × Obj)} {C : Prop} (_N : News g L h (x :: x2 :: (l, o) :: r)) (k : ∀ y z, y = l → z = o → C) : C := k l o rfl rfl
theorem nmo4 {g h : Heap} {L l : Addr} {o : Obj} {x x2 x3 : Addr × Obj} {r : List (Addr × Obj)} {C : Prop} (_N : News g L h (x :: x2 :: x3 :: (l, o) :: r)) (k : ∀ y z, y = l → z = o → C) : C := k l o rfl rfl
theorem units_at {dp un : Nat} {gd : Option (List Code)} {cn : Str} {cs : Scope} {L a : Addr} {ccd : Value} {cl : List (Str × Addr)} {outer : List Env} {env : Env} (h : un + 200 < cLine) : ((ktrTop dp un gd cn cs L a ccd cl outer).deeper env).units + 64 < cLine := by
  show un + 3 + 64 < cLine
  lia
theorem append_at {prog : Program} {w : World} {A : Around} {E : Value → Shared → Prop} {s : Shared} {h₀ : Heap} {L D : Addr} {m : Str → Option Value} {news news' : List (Addr × Obj)} {us : List Value} {n : Nat} {y : Value} {Q : Value → Shared → Prop}
    (F : Fr h₀ L s.heap m) (N : News h₀ L s.heap news) (U : Upd D (W.listOf us.toArray n) (W.listOf (us ++ [y]).toArray (n + 1)) news news') (hz : us.length ≤ 1000) (h : ∀ h', Fr h₀ L h' m → News h₀ L h' news' → Q .none { s with heap := h' }) :
    wpAny (model prog w) A (call (.builtin "list.append") [.ref D, y]) Q E s :=
  append_K F N (by rw [List.push_toArray]; exact U) h (by rw [sizeLine_eq]; simp only [List.size_toArray]; lia)
theorem strs_at {vs : List Value} {xs : List Str} (h : StrsAre vs xs) : ∀ {i : Nat} {v : Value}, vs[i]? = some v → ∃ y t, xs[i]? = some y ∧ v = .str y t := by
  induction h with
  | nil => intro i v hv; simp at hv
  | cons y t r ih =>
    intro i v hv
    cases i with
    | zero => exact ⟨y, t, rfl, by simpa using hv.symm⟩
    | succ i => exact ih (by simpa using hv)
noncomputable def JS {σ : Type} (ps : σ → List (Str × Value)) (x : Str) (stored : List Str) (m₀ : Str → Option Value) (P : σ → Prop) (m : Str → Option Value) : Prop :=
  ∃ c, (∀ p ∈ ps c, m p.1 = some p.2) ∧ (∀ z, z ≠ x → (∀ p ∈ ps c, z ≠ p.1) → stored.contains z = false → m z = m₀ z) ∧ P c
section
variable {prog : Program} {w : World} {A : Around} {E : Value → Shared → Prop} {s : Shared} {env : Env} {h₀ : Heap} {x : Str} {body : List Stmt} {Q : Flow → Shared → Prop}
theorem for_strs {σ : Type} {l : Addr} {vs : List Value} {xs : List Str} {nn : Nat} {m₀ : Str → Option Value} {news : List (Addr × Obj)} (ps : σ → List (Str × Value)) (stored : List Str) (P : Nat → σ → Prop) (c₀ : σ)
    (hh : A.handled = none) (hl : (l, W.listOf vs.toArray nn) ∈ news) (hi : StrsAre vs xs) (F : Fr h₀ env.locals s.heap m₀) (N : News h₀ env.locals s.heap news) (hk : ∀ p ∈ ps c₀, m₀ p.1 = some p.2) (hp : P 0 c₀)
    (turn : ∀ (c : σ) i v t (u : Str → Option Value) h tk own, xs[i]? = some v → OwnOff own (news.map (·.1)) → P i c →
      Fr h₀ env.locals h (fun y => if y = x then some (.str v t) else kstB (fun z => if stored.contains z then u z else m₀ z) (ps c) y) → News h₀ env.locals h (news ++ own) →
      wpAny (model prog w) A (execs body env) (InvPostG h₀ env.locals (fun m' nx => nx = news ∧ JS ps x stored m₀ (P (i + 1)) m') own { s with heap := h, toks := tk } Q) E { s with heap := h, toks := tk })
    (done : ∀ (c : σ) (u : Str → Option Value) h tk, P xs.length c → Fr h₀ env.locals h (fun y => if y = x then u y else kstB (fun z => if stored.contains z then u z else m₀ z) (ps c) y) → News h₀ env.locals h news → Q .next { s with heap := h, toks := tk }) :
    wpAny (model prog w) A (pyIter (.ref l)) (fun it s₂ => LoopAtV prog w A h₀ env x body Q E it s₂) E s := by
  refine kdl_iter (news := news) (fun i m nx => nx = news ∧ JS ps x stored m₀ (P i) m) hh hl F N ⟨rfl, c₀, hk, fun _ _ _ _ => rfl, hp⟩ ?_ ?_
  · rintro i v m₁ nx h tk own hv hoff _ ⟨rfl, c, h1, h2, hp'⟩ F₁ N₁
    obtain ⟨y, t, hx, rfl⟩ := strs_at hi hv
    refine wpAny_mono (turn c i y t m₁ h tk own hx hoff hp' (kst_fr h1 h2 F₁) N₁) (fun f s₂ p => ?_) fun _ _ x => x
    have up : InvEndG h₀ env.locals (fun m' nx' => nx' = nx ∧ JS ps x stored m₀ (P (i + 1)) m') own { s with heap := h, toks := tk } s₂ →
        InvEndG h₀ env.locals (fun m' nx' => (l, W.listOf vs.toArray nn) ∈ nx' ∧ nx' = nx ∧ JS ps x stored m₀ (P (i + 1)) m') own { s with heap := h, toks := tk } s₂ := by
      rintro ⟨h', tk', m', news', nx', e', F', N', hn', ho', ha, hS, hR⟩
      exact ⟨h', tk', m', news', nx', e', F', N', hn', ho', ha, hS ▸ hl, hS, hR⟩
    cases f with
    | ret v => exact p
    | brk => exact p
    | next => exact up p
    | cont => exact up p
  · rintro m₁ nx h tk ⟨rfl, c, h1, h2, hp'⟩ F₁ N₁
    rw [show vs.length = xs.length from hi.length] at hp'
    exact done c m₁ h tk hp' (kst_frOut h1 h2 F₁) N₁
theorem for_end {σ : Type} {ps : σ → List (Str × Value)} {stored : List Str} {m₀ : Str → Option Value} {P : σ → Prop} {L : Addr} {m' : Str → Option Value} {own news news' : List (Addr × Obj)} {s₁ : Shared} {h' : Heap} {tk : Nat} (c : σ)
    (F : Fr h₀ L h' m') (N : News h₀ L h' news') (hn : ∀ p ∈ news, p ∈ news') (ho : ∀ p ∈ own, p ∈ news') (hoff : OwnOff own (news.map (·.1))) (hk : ∀ p ∈ ps c, m' p.1 = some p.2) (hr : ∀ z, z ≠ x → (∀ p ∈ ps c, z ≠ p.1) → stored.contains z = false → m' z = m₀ z) (hp : P c) :
    InvEndG h₀ L (fun m' nx => nx = news ∧ JS ps x stored m₀ P m') own s₁ { s₁ with heap := h', toks := tk } :=
  ⟨h', tk, m', news', news, rfl, F, N, hn, ho, hoff, rfl, c, hk, hr, hp⟩
end
theorem len_at {prog : Program} {w : World} {A : Around} {E : Value → Shared → Prop} {s : Shared} {h₀ : Heap} {L l : Addr} {news : List (Addr × Obj)} {us : List Value} {c : Nat} {Q : Value → Shared → Prop}
    (N : News h₀ L s.heap news) (hm : (l, W.listOf us.toArray c) ∈ news) (hfit : us.length ≤ 1000) (h : Q (.int (us.length : Int) (s.toks + 1)) { s with toks := s.toks + 1 + 1 }) : wpAny (model prog w) A (call (.builtin "len") [.ref l]) Q E s :=
  kst_len N hm rfl (by lia) h
theorem item_at {prog : Program} {w : World} {A : Around} {E : Value → Shared → Prop} {s : Shared} {h₀ : Heap} {L l : Addr} {news : List (Addr × Obj)} {value slice : PySem.Expr} {vs : List Value} {n : Nat} {k : Int} {u : Tok} {v : Value} {Q : Value → Shared → Prop}
    (N : News h₀ L s.heap news) (hm : (l, W.listOf vs.toArray n) ∈ news) (h0 : 0 ≤ k) (hhi : k < 2 ^ 63) (hx : vs[k.toNat]? = some v) (h : Q v s)
    (hs : subscripted slice false (.ref l) (.int k u) = operate [.ref l, .int k u] (getItem (.ref l) (.int k u)) := by with_unfolding_all rfl) :
    wpAny (model prog w) A (subscriptTail value slice (.ref l) (.int k u)) Q E s :=
  tail_any (lst_of N hm).typeIs slot_list_getitem.lookup (wpAny_getItem_list (lst_of N hm) h0 hhi (by simpa using hx) h) hs
theorem post_abs {α : Type} {M : Model} {A : Around} {t : Sem α} {Q : α → Shared → Prop} {E : Value → Shared → Prop} {s : Shared} (k : ∀ Q' : α → Shared → Prop, (∀ a s', Q a s' → Q' a s') → wpAny M A t Q' E s) : wpAny M A t Q E s := k Q fun _ _ h => h
theorem ksw_whileP {prog : Program} {w : World} {A : Around} {E : Value → Shared → Prop} {Q : Flow → Shared → Prop} {s : Shared} {env : Env} {h₀ : Heap} {L : Addr} {σ : Type} {test : PySem.Expr} {body : List Stmt} {pos : Pos} {m₀ : Str → Option Value} (Led : σ → List (Addr × Obj)) (ps : σ → List (Str × Value)) (Facts : σ → Prop) (stored : List Str) (P : σ → Prop) (μ : σ → Nat) (c₀ : σ)
    (F : Fr h₀ L s.heap m₀) (N : News h₀ L s.heap (Led c₀)) (hf : Facts c₀) (hk : ∀ p ∈ ps c₀, m₀ p.1 = some p.2) (hp : P c₀)
    (turn : ∀ (c : σ) (u : Str → Option Value) h tk (PQ : Flow → Shared → Prop), Facts c → P c → Fr h₀ L h (kstB (fun z => if stored.contains z then u z else m₀ z) (ps c)) → News h₀ L h (Led c) →
      (∀ s₂, KswEnd h₀ L s Led ps Facts stored m₀ P μ c s₂ → PQ .next s₂) →
      wpAny (model prog w) A (isTrue test env (eval test env)) (fun b s₂ => if b = true then wpAny (model prog w) A (execs body env) PQ E s₂ else Q .next s₂) E { s with heap := h, toks := tk })
    (hE : PassesOwn (model prog w) A env E := by passes_own) :
    wpAny (model prog w) A (exec (.While test body [] pos) env) Q E s :=
  ksw_while Led ps Facts stored P μ c₀ F N hf hk hp (fun c u h tk f p F₁ N₁ => turn c u h tk _ f p F₁ N₁ fun s₂ e => e) hE
set_option autoImplicit true in
theorem st50 (h : wpAny z1 z2 (pyIter z3) z4 z5 z6) : wpAny z1 z2 (pyIter z3) z4 z5 z6 := h
set_option autoImplicit true in
theorem st51 (h : wpAny z1 z2 (exec (Stmt.While z3 z4 z5 z6) z7) z8 z9 z10) : wpAny z1 z2 (exec (Stmt.While z3 z4 z5 z6) z7) z8 z9 z10 := h
set_option autoImplicit true in
theorem st52 (h : InvEndN z1 z2 z3 z4 z5 z6 z7) : InvEndN z1 z2 z3 z4 z5 z6 z7 := h
set_option autoImplicit true in
theorem st53 (h : KswEnd z1 z2 z3 z4 z5 z6 z7 z8 z9 z10 z11 z12) : KswEnd z1 z2 z3 z4 z5 z6 z7 z8 z9 z10 z11 z12 := h
local macro_rules | `(tactic| walk_at "STOP") => `(tactic| with_reducible (first | refine st50 ?_ | refine st51 ?_ | refine st52 ?_ | refine st53 ?_))
local macro_rules | `(tactic| walk_at "STC") => `(tactic| first | (k_unfold; (try dsimp only)) | walk1 | (dsimp only; walk1))
local macro_rules | `(tactic| walk_at "ST1") => `(tactic| ((fail_if_success (walk_at "STOP")); walk_at "STC"))
local macro_rules | `(tactic| walk_at "GO") => `(tactic| repeat' (walk_at "ST1"))
namespace F1
noncomputable def figSt (a one : Int) : Nat → Int × List Int
  | 0 => (1, [])
  | n + 1 => let r := (figSt a one n).1
             let f := (r * one).fmod 10
             ((r - a * f).fdiv 10, (figSt a one n).2 ++ [f])
structure FigInv (a one : Int) (n : Nat) (rest : Int) (figs : List Int) : Prop where
  eq : (rest, figs) = figSt a one n
  lo : -300 < rest
  hi : rest < 300
theorem FigInv.len {a one : Int} {n : Nat} {rest : Int} {figs : List Int} (h : FigInv a one n rest figs) : figs.length = n := by
  have e : figs = (figSt a one n).2 := congrArg Prod.snd h.eq
  subst e
  clear h
  induction n with
  | zero => rfl
  | succ n ih => simp [figSt, ih]
theorem fig_zero (a one : Int) : FigInv a one 0 1 [] := ⟨rfl, by decide, by decide⟩
theorem fig_next {a one rest : Int} {n : List Int} {k : Int} {figs : List Int} (h : FigInv a one n.length rest figs) (hl : figs.length = n.length) (h1 : -300 < a) (h2 : a < 300) (h3 : 0 ≤ one) (h4 : one < 10) :
    FigInv a one (n ++ [k]).length ((rest - a * (figs ++ [(rest * one).fmod 10]).getD (-1 + ((figs ++ [(rest * one).fmod 10]).length : Int)).toNat 0).fdiv 10) (figs ++ [(rest * one).fmod 10]) := by
  have e : (-1 + ((figs ++ [(rest * one).fmod 10]).length : Int)).toNat = figs.length := by simp only [List.length_append, List.length_cons, List.length_nil]; lia
  rw [e]
  have e2 : (figs ++ [(rest * one).fmod 10]).getD figs.length 0 = (rest * one).fmod 10 := by simp
  rw [e2]
  have l1 := h.lo
  have l2 := h.hi
  have f1 : 0 ≤ (rest * one).fmod 10 := Int.fmod_nonneg_of_pos _ (by decide)
  have f2 : (rest * one).fmod 10 < 10 := Int.fmod_lt_of_pos _ (by decide)
  have eq := h.eq
  have hr : rest = (figSt a one n.length).1 := congrArg Prod.fst eq
  have hg : figs = (figSt a one n.length).2 := congrArg Prod.snd eq
  generalize hf : (rest * one).fmod 10 = f at *
  have b1 : a * f ≤ 2691 := by
    have : a * f ≤ 299 * f := Int.mul_le_mul_of_nonneg_right (by lia) f1
    lia
  have b2 : -2691 ≤ a * f := by
    have : (-299) * f ≤ a * f := Int.mul_le_mul_of_nonneg_right (by lia) f1
    lia
  generalize hv : a * f = v at *
  refine ⟨?_, ?_, ?_⟩
  · rw [List.length_append, List.length_singleton]
    simp only [figSt]
    rw [← hr, ← hg, hf, hv]
  · rw [Int.fdiv_eq_ediv_of_nonneg _ (by decide)]; lia
  · rw [Int.fdiv_eq_ediv_of_nonneg _ (by decide)]; lia
theorem fig_all {a one rest : Int} {figs : List Int} (h : FigInv a one (rangeKs 0 ((10 + 0 - Nat.succ 0) / 1 + 1)).length rest figs) : (figSt a one 10).2 = figs := by
  rw [rangeKs_length] at h
  exact (congrArg Prod.snd h.eq).symm
theorem figures_spec {w : World} {V : Program} {lo : List Str} {mean : ExcName → Option Value} {mg mb : Str → Option Value}
  (dp un : Nat) (gd : Option (List Code)) (cn : Str) (cs : Scope) (a : Addr) (ccd : Value) (cl : List (Str × Addr)) (outer : List Env) (A₀ : Around) (base h₀ : Heap) (L : Addr) (m : Str → Option Value) (news : List (Addr × Obj)) (s : Shared) (Q E : Value → Shared → Prop)
  (av ov : Int) (ta to : Tok)
  (B : Below A₀ base outer h₀) (F : Fr h₀ L s.heap m) (X : (wpart.heap_1 w.params).In h₀) (N : News h₀ L s.heap news) (T : Top V lo mean mg mb h₀) (hk : cs.kind = .function)
  (ha : -300 < av) (ha' : av < 300) (ho : 0 ≤ ov) (ho' : ov < 10) (hd : dp + 1 < recursionLimit) (hu : un + 8 < cLine)
  (hret : ∀ l vs n h' tk', Fr h₀ L h' m → News h₀ L h' ((l, listOf vs.toArray n) :: news) → IntsAre vs (figSt av ov 10).2 → (∀ p ∈ news, p.1 < l) → Q (.ref l) { s with heap := h', toks := tk' }) :
  wpAny (model PR w) (ktrTop dp un gd cn cs L a ccd cl outer) (call (.ref 171) [.int av ta, .int ov to]) Q E s := by
  refine wpAny_call ?_
  k_dflt cell_enter
  walk_at "GO"
  rename Fr _ _ _ _ => lF'
  rename News _ _ _ _ => lN'
  rename IsRange _ _ _ _ _ _ _ _ => rgX
  refine nm1 lN' fun l9 e9 => ?_
  subst e9
  refine' kst_range (σ := Int × Nat × List Value × List Int × Nat)
    (fun c => (l9, W.listOf c.2.2.1.toArray c.2.2.2.2) :: news)
    (fun c => [(Str.ofString "rest", Value.int c.1 c.2.1)])
    (fun c => IntsAre c.2.2.1 c.2.2.2.1) []
    (fun pre c => FigInv av ov pre.length c.1 c.2.2.2.1)
    (1, _, [], [], 0) rfl rgX (by decide) rfl lF' lN' IntsAre.nil ?kk (fig_zero _ _) ?turn ?done
  case kk => kst_all
  case turn =>
    clear lF' lN' rgX
    rintro ⟨rest, tr, vs, figs, nn⟩ pre k t u h tk own hk hlt hoff hF hP F1 N1
    dsimp only at hF hP
    dsimp only [kstB] at F1
    simp only [List.cons_append] at N1
    simp only [List.map_cons, List.map_nil] at hoff
    have kMark := kstMark
    have hlen := hF.length
    have hlf := hP.len
    have hlo := hP.lo
    have hhi := hP.hi
    clear hret
    refine post_abs fun PQ1 hPQ1 => ?_
    walk_at "GO"
    rename News _ _ _ _ => nE
    simp only [List.push_toArray] at nE
    refine hPQ1 _ _ (kst_end ⟨_, _, _, _, _⟩ (by assumption) nE (by first | kst_in | kst_inAny) (by first | (intro p hp; kst_mem) | kst_anyIn) (by rfl) (by kst_facts) (by kst_all) (by kst_same) ?_)
    exact fig_next (by assumption) hlf (by omega) (by omega) (by omega) (by omega)
  case done =>
    clear lF' lN' rgX
    rintro ⟨rest, tr, vs, figs, nn⟩ u h tk hF hP F1 N1
    walk_at "GO"
    refine hret _ _ _ _ _ (by assumption) (by assumption) ?_ (by assumption)
    rw [fig_all hP]
    exact hF
end F1
namespace D1
structure DrawnOk (ds : List Int) : Prop where
  len : ds.length = 7
  rng : ∀ d ∈ ds, 0 ≤ d ∧ d < 1000000
theorem drawn_start : DrawnOk [102, 5, 0, 21, 1103, 126, 45] := ⟨rfl, by decide⟩
theorem drawn_set {ds : List Int} (h : DrawnOk ds) (i : Nat) (x : Int) : DrawnOk (ds.set i (x.fmod 1000000)) := by
  refine ⟨by rw [List.length_set]; exact h.len, fun d hd => ?_⟩
  rcases List.mem_or_eq_of_mem_set hd with h1 | h1
  · exact h.rng d h1
  · subst h1
    exact ⟨Int.fmod_nonneg_of_pos _ (by decide), Int.fmod_lt_of_pos _ (by decide)⟩
theorem drawn_bound (n : Nat) (k : Int) (p : Nat) (hk : k = 0 + (p : Int)) (h : p < ((if (7 : Int) < (n : Int) then 7 else (n : Int)) - 0).toNat) : 0 ≤ k ∧ k < 7 ∧ k < (n : Int) := by
  split at h <;> lia
theorem drawn_spec {w : World} {V : Program} {lo : List Str} {mean : ExcName → Option Value} {mg mb : Str → Option Value}
  (dp un : Nat) (gd : Option (List Code)) (cn : Str) (cs : Scope) (a : Addr) (ccd : Value) (cl : List (Str × Addr)) (outer : List Env) (A₀ : Around) (base h₀ : Heap) (L : Addr) (m : Str → Option Value) (news : List (Addr × Obj)) (s : Shared) (Q E : Value → Shared → Prop)
  (lr : Addr) (vs : List Value) (ns : List Int)
  (B : Below A₀ base outer h₀) (F : Fr h₀ L s.heap m) (X : (wpart.heap_1 w.params).In h₀) (N : News h₀ L s.heap news) (T : Top V lo mean mg mb h₀) (hk : cs.kind = .function)
  (hl : base.IsList lr vs.toArray) (hi : IntsAre vs ns) (hn : ns.length ≤ 63) (hd : dp + 3 < recursionLimit) (hu : un + 30 < cLine)
  (hret : ∀ l ws ds n h' tk', Fr h₀ L h' m → News h₀ L h' ((l, W.listOf ws.toArray n) :: news) → IntsAre ws ds → DrawnOk ds → (∀ p ∈ news, p.1 < l) → Q (.ref l) { s with heap := h', toks := tk' }) :
  wpAny (model PR w) (ktrTop dp un gd cn cs L a ccd cl outer) (call (.ref 115) [.ref lr]) Q E s := by
  refine wpAny_call ?_
  k_dflt cell_enter
  walk_at "GO"
  rename Fr _ _ _ _ => lF'
  rename News _ _ _ _ => lN'
  rename IsRange _ _ _ _ _ _ _ _ => rgX
  refine nm1 lN' fun l9 e9 => ?_
  subst e9
  refine' kst_range (σ := List Value × List Int × Nat)
    (fun c => (l9, W.listOf c.1.toArray c.2.2) :: news)
    (fun c => [])
    (fun c => IntsAre c.1 c.2.1) []
    (fun pre c => DrawnOk c.2.1)
    (_, [102, 5, 0, 21, 1103, 126, 45], _) rfl rgX (by split <;> exact small_one (by omega) (by omega) (by omega) (by omega)) (rangeSize_nat _ _) lF' lN' ?ff ?kk drawn_start ?turn ?done
  case ff => dsimp only; l_intsW
  case kk => kst_all
  case turn =>
    clear lF' lN' rgX hret
    rintro ⟨ws, ds, nn⟩ pre k t u h tk own hk hlt hoff hF hP F1 N1
    dsimp only at hF hP
    dsimp only [kstB] at F1
    simp only [List.cons_append] at N1
    simp only [List.map_cons] at hoff
    have kMark := kstMark
    have hlen := hF.length
    have hdl := hP.len
    obtain ⟨hk0, hk7, hkn⟩ := drawn_bound _ _ _ hk hlt
    refine post_abs fun PQ1 hPQ1 => ?_
    walk_at "GO"
    rename News _ _ _ _ => nE
    refine hPQ1 _ _ (kst_end ⟨_, _, _⟩ (by assumption) nE (by first | kst_in | kst_inAny) (by first | (intro p hp; kst_mem) | kst_anyIn) (by rfl) (by kst_facts) (by kst_all) (by kst_same) (drawn_set hP _ _))
  case done =>
    clear lF' lN' rgX
    rintro ⟨ws, ds, nn⟩ u h tk hF hP F1 N1
    walk_at "GO"
    exact hret _ _ _ _ _ _ (by assumption) (by assumption) hF hP (by assumption)
end D1
namespace G1
theorem item_at {prog : Program} {w : World} {A : Around} {E : Value → Shared → Prop} {s : Shared} {h₀ : Heap} {L l : Addr} {news : List (Addr × Obj)} {value slice : PySem.Expr} {vs : List Value} {n : Nat} {k : Int} {u : Tok} {v : Value} {Q : Value → Shared → Prop}
    (N : News h₀ L s.heap news) (hm : (l, W.listOf vs.toArray n) ∈ news) (h0 : 0 ≤ k) (hhi : k < 2 ^ 63) (hx : vs[k.toNat]? = some v) (h : Q v s)
    (hs : subscripted slice false (.ref l) (.int k u) = operate [.ref l, .int k u] (getItem (.ref l) (.int k u)) := by with_unfolding_all rfl) :
    wpAny (model prog w) A (subscriptTail value slice (.ref l) (.int k u)) Q E s :=
  have hl : s.heap.IsList l vs.toArray := ⟨_, (N _ hm).1, rfl, n, rfl⟩
  tail_any hl.typeIs slot_list_getitem.lookup (wpAny_getItem_list hl h0 hhi (by simpa using hx) h) hs
theorem News.drop {g h : Heap} {L : Addr} {x : Addr × Obj} {r : List (Addr × Obj)} (N : News g L h (x :: r)) : News g L h r := fun p hp => N p (.tail _ hp)
noncomputable def progOf (o w3 : Int) : Str := if o = 2 then (if w3 = 0 then Str.ofString "x*=2-a*x" else if w3 = 1 then Str.ofString "t=1-a*x;x+=x*t" else Str.ofString "t=a*x-1;x-=x*t")
  else (if w3 = 0 then Str.ofString "t=a*x;x*=3-t*(3-t)" else if w3 = 1 then Str.ofString "t=1-a*x;x+=x*t+x*t*t" else Str.ofString "t=a*x-1;x-=(x-x*t)*t")
theorem three_items {a b c : Value} {w3 : Int} (h0 : 0 ≤ w3) (h1 : w3 < 3) : [a, b, c][w3.toNat]? = some (if w3 = 0 then a else if w3 = 1 then b else c) := by
  have : w3 = 0 ∨ w3 = 1 ∨ w3 = 2 := by lia
  rcases this with h | h | h <;> subst h <;> rfl
theorem ite_val3 {x y z : Str} {t u v : Tok} {w3 : Int} : ∃ k, (if w3 = 0 then Value.str x t else if w3 = 1 then Value.str y u else Value.str z v) = Value.str (if w3 = 0 then x else if w3 = 1 then y else z) k := by
  split
  · exact ⟨_, rfl⟩
  · split
    · exact ⟨_, rfl⟩
    · exact ⟨_, rfl⟩
theorem prog_spec {w : World} {V : Program} {lo : List Str} {mean : ExcName → Option Value} {mg mb : Str → Option Value}
  (dp un : Nat) (gd : Option (List Code)) (cn : Str) (cs : Scope) (a : Addr) (ccd : Value) (cl : List (Str × Addr)) (outer : List Env) (A₀ : Around) (base h₀ : Heap) (L : Addr) (m : Str → Option Value) (news : List (Addr × Obj)) (s : Shared) (Q E : Value → Shared → Prop)
  (o w3 : Int) (to tw : Tok)
  (B : Below A₀ base outer h₀) (F : Fr h₀ L s.heap m) (X : (wpart.heap_1 w.params).In h₀) (N : News h₀ L s.heap news) (T : Top V lo mean mg mb h₀) (hk : cs.kind = .function)
  (ho : o = 2 ∨ o = 3) (hw : 0 ≤ w3) (hw2 : w3 < 3) (hd : dp + 3 < recursionLimit) (hu : un + 30 < cLine)
  (hret : ∀ t h' tk', Fr h₀ L h' m → News h₀ L h' news → Q (.str (progOf o w3) t) { s with heap := h', toks := tk' }) :
  wpAny (model PR w) (ktrTop dp un gd cn cs L a ccd cl outer) (call (.ref 122) [.int o to, .int w3 tw]) Q E s := by
  refine wpAny_call ?_
  k_dflt cell_enter
  walk_at "GO"
  all_goals rename News _ _ _ _ => lN'
  all_goals refine item_at lN' (List.Mem.head _) hw (by omega) (three_items hw hw2) ?_
  · obtain ⟨k9, e9⟩ := ite_val3 (x := Str.ofString "x*=2-a*x") (y := Str.ofString "t=1-a*x;x+=x*t") (z := Str.ofString "t=a*x-1;x-=x*t") (t := _) (u := _) (v := _) (w3 := w3)
    rw [e9]
    walk_at "GO"
    have e7 := hret k9
    unfold progOf at e7
    rw [if_pos (show o = 2 by assumption)] at e7
    exact e7 _ _ (by assumption) (News.drop (by assumption))
  · obtain ⟨k9, e9⟩ := ite_val3 (x := Str.ofString "t=a*x;x*=3-t*(3-t)") (y := Str.ofString "t=1-a*x;x+=x*t+x*t*t") (z := Str.ofString "t=a*x-1;x-=(x-x*t)*t") (t := _) (u := _) (v := _) (w3 := w3)
    rw [e9]
    walk_at "GO"
    have e7 := hret k9
    unfold progOf at e7
    rw [if_neg (show ¬ o = 2 by assumption)] at e7
    exact e7 _ _ (by assumption) (News.drop (by assumption))
end G1
local macro_rules | `(tactic| walk_at "LT") => `(tactic| first | assumption | exact kst_ltOf (by assumption) | exact kst_ltOf (And.right (by assumption)) | exact kst_ltOf (And.right (And.right (by assumption))) | exact kst_ltOf (And.right (And.right (And.right (by assumption)))))
local macro_rules | `(tactic| k_memK) => `(tactic| first | assumption | exact List.Mem.head _ | (refine List.Mem.tail _ ?_; k_memK))
local macro_rules | `(tactic| k_mem) => `(tactic| k_memK)
local macro_rules | `(tactic| walk_at "compareOp In int ref") => `(tactic| refine in_list_ints (lst_of (by assumption) (by k_mem)) (by assumption) ?_)
local macro_rules | `(tactic| walk_at "call type:str") => `(tactic| refine P.str_of_int (log2_small (by omega) (by omega)) ?_)
local macro_rules | `(tactic| walk_at "ENTER") => `(tactic| (refine' code_def ?k1 ?k2 ?k3 ?k4 ?k5 ?kA ?kF ?kK ?k6 ?k7 ?k8 ?k9 ?kB ?_ ?c2 ?c3 ?c4 ?c5; (case kA | kF => exact rfl); (case kK => first | exact rfl | assumption); (case k1 | k2 | k3 | k4 | k5 => k_asm); (case k6 | k7 => k_is); (case k8 => ktr_room); (case k9 => exact BindsTo.of_eq rfl); (case c5 => decide); (case kB => exact locs rfl); (case c2 | c3 | c4 => exact rfl); k_whole; intro g' L' h' FG' F' N' B' X' T'; (try dsimp only); (try k_lift B'); (try k_fold)))
local macro_rules | `(tactic| walk_at "call ref") => `(tactic| (k_here; refine wpAny_call ?_; k_dflt (walk_at "ENTER")))
local macro_rules | `(tactic| walk_at "call builtin:list.insert") => `(tactic| (k_dflt (refine' insert0 ?k1 ?k2 ?k3 ?z ?_; (case k1 | k2 => k_asm); (case k3 => k_upd); (case z => omega); k_whole); intro h' F' N'))
local macro_rules | `(tactic| walk_at "binaryOp FloorDiv int int") => `(tactic| refine floordiv_int (by omega) ?_ (Or.inl (PyProof.noPylong_of_log2 (Nat.lt_trans (log2_small (by omega) (by omega)) (by decide)))))
local macro_rules | `(tactic| walk_at "FORX") => `(tactic| (k_here; (rename Fr _ _ _ _ => lF'); (with_unfolding_all refine' For_invVF lF' ?k1 ?k2 ?_; (case k1 | k2 => exact rfl); k_whole)))
local macro_rules | `(tactic| walk_at "exec For Name Name cons nil") => `(tactic| walk_at "FORX")
local macro_rules | `(tactic| walk_at "exec For Name Call cons nil") => `(tactic| walk_at "FORX")
local macro_rules | `(tactic| walk_at "execs cons") => `(tactic| ((with_reducible refine gen_toks ?_); intro tk; (with_reducible refine wpAny_execs_cons ?_); try dsimp only))
local macro_rules | `(tactic| walk_at "LENX") => `(tactic| refine len_at (by assumption) (by k_mem) (by omega) ?_)
local macro_rules | `(tactic| walk_at "APPX") => `(tactic| (k_dflt (refine' append_at ?k1 ?k2 ?k3 ?k4 ?_; (case k1 | k2 => k_asm); (case k3 => k_upd); (case k4 => omega); k_whole); intro h' F' N'))
namespace M1
noncomputable def mgo (s2 : Int) : Nat → Int → List Int
  | 0, _ => []
  | n + 1, last => if last + s2 < 10 then (last + s2) :: mgo s2 n (last + s2) else []
noncomputable def marksB (s0 s1 s2 e : Int) : List Int := [s0, s0 + s1, s0 + s1 + s2] ++ (if e = 0 then mgo s2 10 (s0 + s1 + s2) else [])
noncomputable def marksF (s0 s1 s2 e : Int) : List Int := marksB s0 s1 s2 e ++ [10]
noncomputable def lastOf (ms : List Int) : Int := ms.getD (-1 + (ms.length : Int)).toNat 0
theorem lastOf_app (ms : List Int) (x : Int) : lastOf (ms ++ [x]) = x := by
  unfold lastOf
  have e : (-1 + ((ms ++ [x]).length : Int)).toNat = ms.length := by simp only [List.length_append, List.length_cons, List.length_nil]; lia
  rw [e]; simp
structure MInv (s0 s1 s2 e : Int) (ms : List Int) : Prop where
  len : 3 ≤ ms.length
  bnd : (ms.length : Int) ≤ lastOf ms
  top : lastOf ms < 10
  tot : e = 0 → ∃ f : Nat, 10 ≤ (f : Int) + lastOf ms ∧ ms ++ mgo s2 f (lastOf ms) = marksB s0 s1 s2 e
  non : e ≠ 0 → ms = marksB s0 s1 s2 e
theorem minv_start {s0 s1 s2 e : Int} (h00 : 1 ≤ s0) (h01 : s0 ≤ 3) (h10 : 1 ≤ s1) (h11 : s1 ≤ 3) (h20 : 1 ≤ s2) (h21 : s2 ≤ 3) : MInv s0 s1 s2 e [s0, s0 + s1, s0 + s1 + s2] := by
  have l : lastOf [s0, s0 + s1, s0 + s1 + s2] = s0 + s1 + s2 := rfl
  refine ⟨Nat.le_refl _, ?_, ?_, fun he => ⟨10, ?_, ?_⟩, fun he => ?_⟩
  · rw [l]; simp only [List.length_cons, List.length_nil]; lia
  · rw [l]; lia
  · rw [l]; lia
  · unfold marksB; rw [if_pos he, l]
  · unfold marksB; rw [if_neg he]; rfl
theorem minv_next {s0 s1 s2 e : Int} {ms : List Int} (h : MInv s0 s1 s2 e ms) (he : e = 0) (h20 : 1 ≤ s2) (hl : lastOf ms + s2 < 10) : MInv s0 s1 s2 e (ms ++ [lastOf ms + s2]) := by
  obtain ⟨f, hf, ht⟩ := h.tot he
  have b := h.bnd
  have t := h.top
  refine ⟨?_, ?_, ?_, fun _ => ?_, fun hn => absurd he hn⟩
  · have := h.len; simp only [List.length_append, List.length_cons, List.length_nil]; lia
  · rw [lastOf_app]; simp only [List.length_append, List.length_cons, List.length_nil]; lia
  · rw [lastOf_app]; exact hl
  · rw [lastOf_app]
    cases f with
    | zero => lia
    | succ f =>
      refine ⟨f, by lia, ?_⟩
      rw [mgo, if_pos hl] at ht
      rw [← ht]; simp
theorem minv_done0 {s0 s1 s2 e : Int} {ms : List Int} (h : MInv s0 s1 s2 e ms) (he : e ≠ 0) : ms ++ [10] = marksF s0 s1 s2 e := by rw [h.non he]; rfl
theorem minv_done1 {s0 s1 s2 e : Int} {ms : List Int} (h : MInv s0 s1 s2 e ms) (he : e = 0) (hl : ¬ lastOf ms + s2 < 10) : ms ++ [10] = marksF s0 s1 s2 e := by
  obtain ⟨f, hf, ht⟩ := h.tot he
  have : mgo s2 f (lastOf ms) = [] := by
    cases f with
    | zero => rfl
    | succ f => rw [mgo, if_neg hl]
  rw [this, List.append_nil] at ht
  rw [ht]; rfl
theorem marks_spec {w : World} {V : Program} {lo : List Str} {mean : ExcName → Option Value} {mg mb : Str → Option Value}
  (dp un : Nat) (gd : Option (List Code)) (cn : Str) (cs : Scope) (a : Addr) (ccd : Value) (cl : List (Str × Addr)) (outer : List Env) (A₀ : Around) (base h₀ : Heap) (L : Addr) (m : Str → Option Value) (news : List (Addr × Obj)) (s : Shared) (Q E : Value → Shared → Prop)
  (lr : Addr) (s0 s1 s2 e : Int) (vs : List Value) (te : Tok) (nr : Nat)
  (B : Below A₀ base outer h₀) (F : Fr h₀ L s.heap m) (X : (wpart.heap_1 w.params).In h₀) (N : News h₀ L s.heap news) (T : Top V lo mean mg mb h₀) (hk : cs.kind = .function)
  (hm : (lr, W.listOf vs.toArray nr) ∈ news) (hi : IntsAre vs [s0, s1, s2]) (h00 : 1 ≤ s0) (h01 : s0 ≤ 3) (h10 : 1 ≤ s1) (h11 : s1 ≤ 3) (h20 : 1 ≤ s2) (h21 : s2 ≤ 3) (he : 0 ≤ e) (he2 : e < 3) (hd : dp + 3 < recursionLimit) (hu : un + 30 < cLine)
  (hret : ∀ l ws n h' tk', Fr h₀ L h' m → News h₀ L h' ((l, W.listOf ws.toArray n) :: news) → IntsAre ws (marksF s0 s1 s2 e) → (∀ p ∈ news, p.1 < l) → Q (.ref l) { s with heap := h', toks := tk' }) :
  wpAny (model PR w) (ktrTop dp un gd cn cs L a ccd cl outer) (call (.ref 150) [.ref lr, .int e te]) Q E s := by
  refine wpAny_call ?_
  k_dflt cell_enter
  have hlen : vs.length = 3 := hi.length
  walk_at "GO"
  rename Fr _ _ _ _ => lF'
  rename News _ _ _ _ => lN'
  refine nm1 lN' fun l9 e9 => ?_
  subst e9
  refine' ksw_whileP (σ := List Value × List Int × Nat)
    (fun c => (l9, W.listOf c.1.toArray c.2.2) :: news) (fun c => []) (fun c => IntsAre c.1 c.2.1) []
    (fun c => MInv s0 s1 s2 e c.2.1) (fun c => (10 - lastOf c.2.1).toNat) (_, [s0, s0 + s1, s0 + s1 + s2], _) lF' lN' ?ff ?kk (minv_start h00 h01 h10 h11 h20 h21) ?turn
  case ff => dsimp only; l_intsW
  case kk => kst_all
  case turn =>
    clear lF' lN'
    rintro ⟨ms, ns, nn⟩ u h tk PQ1 hF hP F1 N1 hPQ1
    dsimp only at hF hP N1
    dsimp only [kstB] at F1
    have kMark := kstMark
    have hml := hF.length
    have hl1 := hP.len
    have hl2 := hP.bnd
    have hl3 := hP.top
    walk_at "GO"
    · have he0 : e = 0 := by assumption
      have hlt : lastOf ns + s2 < 10 := by assumption
      rename News _ _ _ _ => nE
      simp only [List.push_toArray] at nE
      refine hPQ1 _ (ksw_end ⟨_, _, _⟩ (by assumption) nE (by first | kst_in | kst_inAny) (by kst_facts) (by kst_all) (by ksw_same) (minv_next hP he0 h20 hlt) ?_)
      show (10 - lastOf (ns ++ [lastOf ns + s2])).toNat < (10 - lastOf ns).toNat
      rw [lastOf_app]
      omega
    · have he0 : e = 0 := by assumption
      have hlt : ¬ lastOf ns + s2 < 10 := by assumption
      have hz := minv_done1 hP he0 hlt
      rename Fr _ _ _ _ => kF
      rename News _ _ _ _ => kN
      exact hret _ _ _ _ _ kF (news_drop2 kN) (by rw [← hz]; assumption) (by walk_at "LT")
    · have he0 : e ≠ 0 := by assumption
      have hz := minv_done0 hP he0
      rename Fr _ _ _ _ => kF
      rename News _ _ _ _ => kN
      exact hret _ _ _ _ _ kF (news_drop2 kN) (by rw [← hz]; assumption) (by walk_at "LT")
end M1
namespace R1
noncomputable def figT (f : Int) : Str := Str.ofString (toString f)
noncomputable def rowT (figs marks : List Int) (b : Str) : Nat → Str
  | 0 => Str.ofString ""
  | k + 1 => figT (figs.getD k 0) ++ (if (k : Int) ∈ marks then b ++ rowT figs marks b k else rowT figs marks b k)
theorem getD_rng {nf : List Int} (h : ∀ f ∈ nf, 0 ≤ f ∧ f < 10) (i : Nat) : 0 ≤ nf.getD i 0 ∧ nf.getD i 0 < 10 := by
  rw [List.getD_eq_getElem?_getD]
  cases e : nf[i]? with
  | none => decide
  | some v => exact h v (List.mem_of_getElem? e)
theorem row_next1 {nf nm : List Int} {b text : Str} {pre : List Int} {k : Int} (hk : k = 0 + (pre.length : Int)) (h : text = rowT nf nm b pre.length) (hn : (nm.any fun x => x == k) = true) :
    Str.ofString (toString (nf.getD k.toNat 0)) ++ (b ++ text) = rowT nf nm b (pre ++ [k]).length := by
  have e : k.toNat = pre.length := by lia
  have e2 : (pre.length : Int) = k := by lia
  have hm : k ∈ nm := by simpa using hn
  rw [List.length_append, List.length_singleton, rowT, e2, if_pos hm, e, h]; rfl
theorem row_next2 {nf nm : List Int} {b text : Str} {pre : List Int} {k : Int} (hk : k = 0 + (pre.length : Int)) (h : text = rowT nf nm b pre.length) (hn : (nm.any fun x => x == k) = false) :
    Str.ofString (toString (nf.getD k.toNat 0)) ++ text = rowT nf nm b (pre ++ [k]).length := by
  have e : k.toNat = pre.length := by lia
  have e2 : (pre.length : Int) = k := by lia
  have hm : ¬ k ∈ nm := by
    intro q
    have : (nm.any fun x => x == k) = true := by simpa using q
    rw [hn] at this; cases this
  rw [List.length_append, List.length_singleton, rowT, e2, if_neg hm, e, h]; rfl
theorem figT_len {f : Int} (h0 : 0 ≤ f) (h1 : f < 10) : (Str.ofString (toString f)).length = 1 := by
  have key : ∀ a : Fin 10, (Str.ofString (toString (a.val : Int))).length = 1 := by decide +kernel
  obtain ⟨n, rfl⟩ := Int.eq_ofNat_of_zero_le h0
  exact key ⟨n, by omega⟩
theorem row_spec {w : World} {V : Program} {lo : List Str} {mean : ExcName → Option Value} {mg mb : Str → Option Value}
  (dp un : Nat) (gd : Option (List Code)) (cn : Str) (cs : Scope) (a : Addr) (ccd : Value) (cl : List (Str × Addr)) (outer : List Env) (A₀ : Around) (base h₀ : Heap) (L : Addr) (m : Str → Option Value) (news : List (Addr × Obj)) (s : Shared) (Q E : Value → Shared → Prop)
  (lf lm : Addr) (d : Int) (vf vm : List Value) (nf nm : List Int) (td tb : Tok) (b : Str) (kf km : Nat)
  (B : Below A₀ base outer h₀) (F : Fr h₀ L s.heap m) (X : (wpart.heap_1 w.params).In h₀) (N : News h₀ L s.heap news) (T : Top V lo mean mg mb h₀) (hk : cs.kind = .function)
  (hmf : (lf, W.listOf vf.toArray kf) ∈ news) (hif : IntsAre vf nf) (hfl : nf.length = 10) (hf9 : ∀ f ∈ nf, 0 ≤ f ∧ f < 10) (hmm : (lm, W.listOf vm.toArray km) ∈ news) (him : IntsAre vm nm) (hml : nm.length ≤ 10) (hb : b.length = 1) (hd0 : 0 ≤ d) (hd1 : d ≤ 10) (hd : dp + 3 < recursionLimit) (hu : un + 30 < cLine)
  (hret : ∀ t h' tk', Fr h₀ L h' m → News h₀ L h' news → Q (.str (Str.ofString "..." ++ rowT nf nm b d.toNat ++ Str.ofString "\n") t) { s with heap := h', toks := tk' }) :
  wpAny (model PR w) (ktrTop dp un gd cn cs L a ccd cl outer) (call (.ref 178) [.ref lf, .ref lm, .int d td, .str b tb]) Q E s := by
  refine wpAny_call ?_
  k_dflt cell_enter
  walk_at "GO"
  rename Fr _ _ _ _ => lF'
  rename News _ _ _ _ => lN'
  rename IsRange _ _ _ _ _ _ _ _ => rgX
  refine' kst_range (σ := Str × Nat)
    (fun c => news)
    (fun c => [(Str.ofString "text", Value.str c.1 c.2)])
    (fun c => True) []
    (fun pre c => c.1 = rowT nf nm b pre.length ∧ c.1.length ≤ 2 * pre.length)
    (Str.ofString "", _) rfl rgX (small_one (by omega) (by omega) (by omega) (by omega)) (rangeSize_nat _ _) lF' lN' trivial ?kk ⟨rfl, Nat.le_refl 0⟩ ?turn ?done
  case kk => kst_all
  case turn =>
    clear lF' lN' rgX hret
    rintro ⟨text, tt⟩ pre k t u h tk own hk hlt hoff hF hP F1 N1
    dsimp only at hP
    obtain ⟨hP1, hP2⟩ := hP
    dsimp only [kstB] at F1
    have kMark := kstMark
    have hvf := hif.length
    have hvm := him.length
    have hfk : 0 ≤ nf.getD k.toNat 0 ∧ nf.getD k.toNat 0 < 10 := getD_rng hf9 _
    obtain ⟨hfk0, hfk1⟩ := hfk
    have hfl1 : (Str.ofString (toString (nf.getD k.toNat 0))).length = 1 := figT_len hfk0 hfk1
    have hlt9 : pre.length < 10 := by omega
    refine post_abs fun PQ1 hPQ1 => ?_
    walk_at "GO"
    · have hn : (nm.any fun x => x == k) = true := by assumption
      refine hPQ1 _ _ (kst_end ⟨_, _⟩ (by assumption) (by assumption) (by first | kst_in | kst_inAny) (by first | (intro p hp; kst_mem) | kst_anyIn) (by rfl) (by kst_facts) (by kst_all) (by kst_same) ⟨row_next1 hk hP1 hn, ?_⟩)
      dsimp only
      simp only [List.length_append, List.length_singleton] at *
      omega
    · have hn : (nm.any fun x => x == k) = false := by assumption
      refine hPQ1 _ _ (kst_end ⟨_, _⟩ (by assumption) (by assumption) (by first | kst_in | kst_inAny) (by first | (intro p hp; kst_mem) | kst_anyIn) (by rfl) (by kst_facts) (by kst_all) (by kst_same) ⟨row_next2 hk hP1 hn, ?_⟩)
      dsimp only
      simp only [List.length_append, List.length_singleton] at *
      omega
  case done =>
    clear lF' lN' rgX
    rintro ⟨text, tt⟩ u h tk hF hP F1 N1
    dsimp only at hP
    dsimp only [kstB] at F1
    obtain ⟨hP1, hP2⟩ := hP
    rw [rangeKs_length] at hP1 hP2
    have hP3 : text.length ≤ 20 := by omega
    have e9 : (d - 0).toNat = d.toNat := by omega
    rw [e9] at hP1
    rw [← hP1] at hret
    walk_at "GO"
    exact hret _ _ _ (by assumption) (by assumption)
end R1
namespace L1
noncomputable def padF (s v : Int) : Str := Txt.mul (Str.ofString "0") (s - ((Str.ofString (toString v)).length : Int)) ++ Str.ofString (toString v)
noncomputable def wordsF : List Int → Int → List Str → List Str
  | [], _, acc => acc
  | s :: r, n, acc => wordsF r (n.fdiv (10 ^ s.toNat)) (padF s (n.fmod (10 ^ s.toNat)) :: acc)
structure LineInv (ns : List Int) (n0 : Int) (pre : List Int) (n : Int) (ws : List Str) : Prop where
  eq : ∀ post, ns = pre ++ post → wordsF post n ws = wordsF ns n0 []
  len : ws.length = pre.length
  sum : (ws.map (·.length)).sum ≤ 10 * pre.length
theorem line_start (ns : List Int) (n0 : Int) : LineInv ns n0 [] n0 [] := ⟨fun post h => by rw [h]; rfl, rfl, Nat.le_refl 0⟩
theorem text_le {v : Int} {j : Nat} (h0 : 0 ≤ v) (hj : 1 ≤ j) (h1 : v < 10 ^ j) : (Str.ofString (toString v)).length ≤ j := by
  obtain ⟨m, rfl⟩ := Int.eq_ofNat_of_zero_le h0
  have e := text_ofNat m
  have hm : m < 10 ^ j := by
    have : ((m : Nat) : Int) < ((10 ^ j : Nat) : Int) := by rw [Int.natCast_pow]; exact h1
    exact Int.ofNat_lt.mp this
  have hl := digits10_le hj hm
  show (Str.ofString (toString (Int.ofNat m))).length ≤ j
  rw [e]
  simpa [Str.length] using hl
theorem pow_ten {k : Int} (h1 : 1 ≤ k) (h2 : k ≤ 10) : (0 : Int) < 10 ^ k.toNat ∧ (10 : Int) ^ k.toNat ≤ 10000000000 := by
  have : k.toNat ≤ 10 := by lia
  have e : (10 : Int) ^ k.toNat = ((10 ^ k.toNat : Nat) : Int) := by rw [Int.natCast_pow]; rfl
  rw [e]
  have a := Nat.pow_le_pow_right (n := 10) (by decide) this
  have b := Nat.pow_pos (n := k.toNat) (show 0 < 10 by decide)
  lia
theorem mod_ten (num : Int) {k : Int} (h1 : 1 ≤ k) (h2 : k ≤ 10) : 0 ≤ num.fmod (10 ^ k.toNat) ∧ num.fmod (10 ^ k.toNat) < 100000000000 ∧ (Str.ofString (toString (num.fmod (10 ^ k.toNat)))).length ≤ k.toNat := by
  obtain ⟨a, b⟩ := pow_ten h1 h2
  have c := Int.fmod_nonneg_of_pos num a
  have d := Int.fmod_lt_of_pos num a
  exact ⟨c, by lia, text_le c (by lia) d⟩
theorem fold_size (b : Str) : ∀ (l : List Str) (acc : Array Nat), (l.foldl (fun acc p => acc ++ b.cps ++ p.cps) acc).size = acc.size + (l.map (·.length)).sum + l.length * b.length
  | [], acc => by simp
  | p :: l, acc => by
    rw [List.foldl_cons, fold_size b l]
    simp only [Array.size_append, List.map_cons, List.sum_cons, List.length_cons, Nat.add_mul, Str.length]
    lia
theorem join_le (b : Str) (ys : List Str) : (Txt.join b ys).length ≤ (ys.map (·.length)).sum + ys.length * b.length := by
  unfold Txt.join Builtin.Str.glued
  show Array.size _ ≤ _
  cases ys with
  | nil => simp [Str.empty]
  | cons y r =>
    rw [List.drop_one, List.tail_cons, fold_size]
    simp only [List.headD_cons, List.map_cons, List.sum_cons, List.length_cons, Nat.add_mul, Str.length]
    lia
theorem line_fin {ns : List Int} {n0 n : Int} {ws : List Str} (h : LineInv ns n0 ns n ws) : ws = wordsF ns n0 [] := by
  have := h.eq [] (by simp)
  exact this
theorem pad_len {k v : Int} (h0 : 0 ≤ v) (hk : k ≤ 10) (hl : (Str.ofString (toString v)).length ≤ k.toNat) (hz : k - ((Str.ofString (toString v)).length : Int) < 0 → (Txt.mul (Str.ofString "0") (k - ((Str.ofString (toString v)).length : Int))).length = 0)
    (hn : 0 ≤ k - ((Str.ofString (toString v)).length : Int) → ((Txt.mul (Str.ofString "0") (k - ((Str.ofString (toString v)).length : Int))).length : Int) = ((1 : Nat) : Int) * (k - ((Str.ofString (toString v)).length : Int))) : (padF k v).length ≤ 10 := by
  unfold padF
  rw [PySem.Str.length_append]
  by_cases h : k - ((Str.ofString (toString v)).length : Int) < 0
  · have := hz h; lia
  · have := hn (by lia); lia
theorem line_next {ns pre : List Int} {n0 n k : Int} {ws : List Str} (h : LineInv ns n0 pre n ws) (hl : (padF k (n.fmod (10 ^ k.toNat))).length ≤ 10) :
    LineInv ns n0 (pre ++ [k]) (n.fdiv (10 ^ k.toNat)) (padF k (n.fmod (10 ^ k.toNat)) :: ws) := by
  refine ⟨fun post e => ?_, ?_, ?_⟩
  · have := h.eq (k :: post) (by rw [e, List.append_assoc]; rfl)
    rw [← this]; rfl
  · have := h.len; simp only [List.length_append, List.length_cons, List.length_nil]; lia
  · have := h.sum; simp only [List.length_append, List.length_cons, List.length_nil, List.map_cons, List.sum_cons]; lia
theorem line_spec {w : World} {V : Program} {lo : List Str} {mean : ExcName → Option Value} {mg mb : Str → Option Value}
  (dp un : Nat) (gd : Option (List Code)) (cn : Str) (cs : Scope) (a : Addr) (ccd : Value) (cl : List (Str × Addr)) (outer : List Env) (A₀ : Around) (base h₀ : Heap) (L : Addr) (m : Str → Option Value) (news : List (Addr × Obj)) (s : Shared) (Q E : Value → Shared → Prop)
  (lr : Addr) (n : Int) (vs : List Value) (ns : List Int) (tn tb : Tok) (b : Str) (nr : Nat)
  (B : Below A₀ base outer h₀) (F : Fr h₀ L s.heap m) (X : (wpart.heap_1 w.params).In h₀) (N : News h₀ L s.heap news) (T : Top V lo mean mg mb h₀) (hk : cs.kind = .function)
  (hm : (lr, W.listOf vs.toArray nr) ∈ news) (hi : IntsAre vs ns) (hb : b.length = 1) (hns : ∀ x ∈ ns, 1 ≤ x ∧ x ≤ 10) (hnl : ns.length ≤ 10) (hd : dp + 3 < recursionLimit) (hu : un + 30 < cLine)
  (hret : ∀ t h' tk', Fr h₀ L h' m → News h₀ L h' news → Q (.str (Txt.join b (wordsF ns n []) ++ Str.ofString "\n") t) { s with heap := h', toks := tk' }) :
  wpAny (model PR w) (ktrTop dp un gd cn cs L a ccd cl outer) (call (.ref 164) [.int n tn, .ref lr, .str b tb]) Q E s := by
  refine wpAny_call ?_
  k_dflt cell_enter
  walk_at "GO"
  rename Fr _ _ _ _ => lF'
  rename News _ _ _ _ => lN'
  refine nm1 lN' fun l9 e9 => ?_
  subst e9
  rename IntsAre vs ns => hi
  refine' kst_listL (σ := List Value × List Str × Nat × Int × Nat) (vs := vs) (ns := ns) (nn := nr)
    (fun c => (l9, W.listOf c.1.toArray c.2.2.1) :: news)
    (fun c => [(Str.ofString "number", Value.int c.2.2.2.1 c.2.2.2.2)])
    (fun c => StrsAre c.1 c.2.1) [Str.ofString "word"]
    (fun pre c => LineInv ns n pre c.2.2.2.1 c.2.1)
    ([], [], _, n, _) rfl (fun _ => List.Mem.tail _ hm) hi lF' lN' StrsAre.nil ?kk (line_start ns n) ?turn ?done
  case kk => kst_all
  case turn =>
    clear lF' lN' hret
    rintro ⟨ws, xs, nn, num, tnum⟩ pre post k t u h tk own heq hmem hoff hF hP F1 N1
    dsimp only at hF hP
    dsimp only [kstB] at F1
    simp only [List.cons_append] at N1
    simp only [List.map_cons] at hoff
    have kMark := kstMark
    have hvl := hi.length
    have hwl := hF.length
    have hxl := hP.len
    have hpl : pre.length < 10 := by rw [heq] at hnl; simp only [List.length_append, List.length_cons] at hnl; omega
    obtain ⟨hk1, hk2⟩ := hns k hmem
    obtain ⟨hv0, hv1, hvt⟩ := mod_ten num hk1 hk2
    obtain ⟨hp0, hp1⟩ := pow_ten hk1 hk2
    refine post_abs fun PQ1 hPQ1 => ?_
    walk_at "GO"
    rename News _ _ _ _ => nE
    refine hPQ1 _ _ (kst_end ⟨_, _, _, _, _⟩ (by assumption) nE (by first | kst_in | kst_inAny) (by first | (intro p hp; kst_mem) | kst_anyIn) (by rfl) ?_ (by kst_all) (by kst_same) (line_next hP (pad_len hv0 hk2 hvt (by assumption) (by assumption))))
    exact StrsAre.cons _ _ hF
  case done =>
    clear lF' lN'
    rintro ⟨ws, xs, nn, num, tnum⟩ u h tk hF hP F1 N1
    dsimp only at hF hP N1
    dsimp only [kstB] at F1
    have kMark := kstMark
    have hwl := hF.length
    have hxl := hP.len
    walk_at "GO"
    have hsm := hP.sum
    rename News _ _ _ _ => kN
    refine join_listC (x := b) (lst_of kN (List.Mem.head _)) hF (by omega) (by omega) ?_
    intro tj kj
    have hjl := join_le b xs
    rw [hb] at hjl
    have hjf := line_fin hP
    rw [← hjf] at hret
    walk_at "GO"
    exact hret _ _ _ (by assumption) (news_drop (by assumption))
end L1
namespace U1
noncomputable def rankF (k : Int) : Int := if k = 7 then 0 else if k = 14 ∨ k = 15 then 2 else if k = 16 then 3 else 1
noncomputable def deedF (k l r : Int) : Int := if k = 14 ∨ k = 36 then l + r else if k = 15 ∨ k = 37 then l - r else if k = 16 ∨ k = 38 then l * r else r
noncomputable def deedA (k : Int) : Addr := if k = 14 then 35 else if k = 15 then 63 else if k = 16 then 56 else if k = 22 then 136 else if k = 36 then 77 else if k = 37 then 91 else 84
noncomputable def rankKeys : List Int := [0, 7, 8, 13, 14, 15, 16, 22, 36, 37, 38]
noncomputable def deedKeys : List Int := [14, 15, 16, 22, 36, 37, 38]
noncomputable def RanksOf (prog : Program) (w : World) (o : Obj) : Prop := ∃ kvs, o.IsDictOf (intKind prog w) kvs ∧ ∀ k ∈ rankKeys, ∃ t, valueAt kvs k = some (Value.int (rankF k) t)
noncomputable def DeedsOf (prog : Program) (w : World) (o : Obj) : Prop := ∃ kvs, o.IsDictOf (intKind prog w) kvs ∧ ∀ k ∈ deedKeys, valueAt kvs k = some (Value.ref (deedA k))
section
variable {prog : Program} {w : World} {h₀ h : Heap} {L : Addr} {m : Str → Option Value} {news : List (Addr × Obj)} {P : Heap → Prop}
theorem mk_ranks {a0 b0 a1 b1 a2 b2 a3 b3 a4 b4 a5 b5 a6 b6 a7 b7 a8 b8 a9 b9 a10 b10 : Tok} (F : Fr h₀ L h m) (N : News h₀ L h news)
    (k : ∀ h' o, Fr h₀ L h' m → News h₀ L h' ((h.objs.size, o) :: news) → (∀ p ∈ news, p.1 < h.objs.size) → RanksOf prog w o → P h') :
    ∃ kvs, Carries (intKind prog w) [(Value.int 0 a0, Value.int 1 b0), (Value.int 7 a1, Value.int 0 b1), (Value.int 8 a2, Value.int 1 b2), (Value.int 13 a3, Value.int 1 b3), (Value.int 14 a4, Value.int 2 b4), (Value.int 15 a5, Value.int 2 b5), (Value.int 16 a6, Value.int 3 b6), (Value.int 22 a7, Value.int 1 b7), (Value.int 36 a8, Value.int 1 b8), (Value.int 37 a9, Value.int 1 b9), (Value.int 38 a10, Value.int 1 b10)] kvs ∧ (h.push { cls := .type "dict", data := .dict #[] }).DictOf (intKind prog w) h.objs.size [] ∧
      ∀ h', h'.DictOf (intKind prog w) h.objs.size (merged [] kvs) → Heap.SameBut h.objs.size (h.push { cls := .type "dict", data := .dict #[] }) h' → P h' :=
  made_int F N rfl (of_decide_eq_true rfl) fun h' o F' N' hd => k h' o F' N' (fun p hp => Heap.lt_size (N p hp).1) ⟨_, hd, by
    intro k hk
    unfold rankKeys at hk
    simp only [List.mem_cons, List.not_mem_nil, or_false] at hk
    rcases hk with h | h | h | h | h | h | h | h | h | h | h <;> subst h <;> exact ⟨_, rfl⟩⟩
theorem mk_deeds {a0 a1 a2 a3 a4 a5 a6 : Tok} (F : Fr h₀ L h m) (N : News h₀ L h news)
    (k : ∀ h' o, Fr h₀ L h' m → News h₀ L h' ((h.objs.size, o) :: news) → (∀ p ∈ news, p.1 < h.objs.size) → DeedsOf prog w o → P h') :
    ∃ kvs, Carries (intKind prog w) [(Value.int 14 a0, Value.ref 35), (Value.int 15 a1, Value.ref 63), (Value.int 16 a2, Value.ref 56), (Value.int 22 a3, Value.ref 136), (Value.int 36 a4, Value.ref 77), (Value.int 37 a5, Value.ref 91), (Value.int 38 a6, Value.ref 84)] kvs ∧ (h.push { cls := .type "dict", data := .dict #[] }).DictOf (intKind prog w) h.objs.size [] ∧
      ∀ h', h'.DictOf (intKind prog w) h.objs.size (merged [] kvs) → Heap.SameBut h.objs.size (h.push { cls := .type "dict", data := .dict #[] }) h' → P h' :=
  made_int F N rfl (of_decide_eq_true rfl) fun h' o F' N' hd => k h' o F' N' (fun p hp => Heap.lt_size (N p hp).1) ⟨_, hd, by
    intro k hk
    unfold deedKeys at hk
    simp only [List.mem_cons, List.not_mem_nil, or_false] at hk
    rcases hk with h | h | h | h | h | h | h <;> subst h <;> rfl⟩
end
section
variable {prog : Program} {w : World} {A : Around} {E : Value → Shared → Prop} {s : Shared} {h₀ : Heap} {L d : Addr} {news : List (Addr × Obj)} {o : Obj} {k : Int} {u : Tok} {value slice : PySem.Expr} {Q : Value → Shared → Prop}
theorem rank_item (N : News h₀ L s.heap news) (hp : (d, o) ∈ news) (R : RanksOf prog w o) (hk : k ∈ rankKeys) (h : ∀ t, Q (.int (rankF k) t) { s with toks := s.toks + 1 })
    (hs : subscripted slice false (.ref d) (.int k u) = operate [.ref d, .int k u] (getItem (.ref d) (.int k u)) := by with_unfolding_all rfl) (hg : ∀ r, letTemporaryGo value (.ref d) r = pure () := by intro _; with_unfolding_all rfl) :
    wpAny (model prog w) A (subscriptTail value slice (.ref d) (.int k u)) Q E s := by
  obtain ⟨kvs, hd, hv⟩ := R
  obtain ⟨t, ht⟩ := hv k hk
  exact kda_item (knd := intKind prog w) N hp hd (intKind_is _ _ _ _) ht (h t) hs hg
theorem deed_item (N : News h₀ L s.heap news) (hp : (d, o) ∈ news) (R : DeedsOf prog w o) (hk : k ∈ deedKeys) (h : Q (.ref (deedA k)) { s with toks := s.toks + 1 })
    (hs : subscripted slice false (.ref d) (.int k u) = operate [.ref d, .int k u] (getItem (.ref d) (.int k u)) := by with_unfolding_all rfl) (hg : ∀ r, letTemporaryGo value (.ref d) r = pure () := by intro _; with_unfolding_all rfl) :
    wpAny (model prog w) A (subscriptTail value slice (.ref d) (.int k u)) Q E s := by
  obtain ⟨kvs, hd, hv⟩ := R
  exact kda_item (knd := intKind prog w) N hp hd (intKind_is _ _ _ _) (hv k hk) h hs hg
end
local macro_rules | `(tactic| walk_at "Exists") => `(tactic| (k_here; (first | refine mk_ranks (by k_asm) (by k_asm) ?_ | refine mk_deeds (by k_asm) (by k_asm) ?_); intro h' o' F' N' l1 R'; (try k_lt l1)))
@[irreducible] noncomputable def Small (v : Int) : Prop := v.natAbs < 2 ^ 4096
theorem small_mul {x y : Int} (h1 : Small x) (h2 : Small y) : IntMulOk x y := by
  unfold Small at h1 h2
  have key : ∀ z : Int, z.natAbs < 2 ^ 4096 → Builtin.Int.intBits z ≤ 4097 := by
    intro z hz
    unfold Builtin.Int.intBits
    by_cases h : z = 0
    · subst h; exact Nat.zero_le _
    · have h' : (z == 0) = false := by simpa using h
      rw [h']
      have := (Nat.log2_lt (n := z.natAbs) (k := 4096) (by lia)).mpr hz
      simp only [Bool.false_eq_true, if_false]
      lia
  have e : (2 : Nat) ^ 20 = 1048576 := by decide
  exact IntMulOk.of_bits (by have := key x h1; lia) (by have := key y h2; lia)
structure RunSt where
  piled : List Int
  waiting : List Int
  last : Int
  aim : Int
  held : List Int
  log : List Int
structure TopOk (k : Int) (wa pi : List Int) : Prop where
  a : wa ≠ [] → wa.getLastD 0 ∈ rankKeys
  b : wa ≠ [] → ¬ rankF (wa.getLastD 0) < rankF k → wa.getLastD 0 ∈ deedKeys ∧ 2 ≤ pi.length
theorem ne_of_test {wa : List Int} (h : (!decide (wa = [])) = true) : wa ≠ [] := by
  intro e; subst e; simp at h
theorem ne_len {wa : List Int} (h : (!decide (wa = [])) = true) : 0 < wa.length := List.length_pos_iff.mpr (ne_of_test h)
theorem ne_len2 {wa : List Int} (h : decide (wa = []) = false) : 0 < wa.length := List.length_pos_iff.mpr (of_decide_eq_false h)
theorem top_rank2 {k : Int} {wa pi : List Int} (h : TopOk k wa pi) (hn : decide (wa = []) = false) : wa.getLastD 0 ∈ rankKeys := h.a (of_decide_eq_false hn)
theorem top_rank {k : Int} {wa pi : List Int} (h : TopOk k wa pi) (hn : (!decide (wa = [])) = true) : wa.getLastD 0 ∈ rankKeys := h.a (ne_of_test hn)
theorem item_lastN {prog : Program} {w : World} {A : Around} {E : Value → Shared → Prop} {s : Shared} {h₀ : Heap} {L l : Addr} {news : List (Addr × Obj)} {us : List Value} {ns : List Int} {n : Nat} {u : Tok} {value slice : PySem.Expr} {Q : Value → Shared → Prop}
    (N : News h₀ L s.heap news) (hm : (l, W.listOf us.toArray n) ∈ news) (hi : IntsAre us ns) (hne : 0 < ns.length) (hlen : ns.length ≤ 1000) (h : ∀ t, Q (.int (ns.getLastD 0) t) s)
    (hs : subscripted slice false (.ref l) (.int (-1) u) = operate [.ref l, .int (-1) u] (getItem (.ref l) (.int (-1) u)) := by with_unfolding_all rfl) (hg : ∀ r, letTemporaryGo value (.ref l) r = pure () := by intro _; with_unfolding_all rfl) :
    wpAny (model prog w) A (subscriptTail value slice (.ref l) (.int (-1) u)) Q E s := by
  refine item_list_ints_neg (lst_of N hm) hi (by decide) (by lia) (by decide) (fun t => ?_) hs hg
  have e : (-1 + (ns.length : Int)).toNat = ns.length - 1 := by lia
  rw [e]
  have e2 : ns.getD (ns.length - 1) 0 = ns.getLastD 0 := by
    rw [List.getLastD_eq_getLast?, List.getLast?_eq_getElem?, List.getD_eq_getElem?_getD]
  rw [e2]
  exact h t
structure RunV where
  pv : List Value
  np : Nat
  wv : List Value
  nw : Nat
  hv : List Value
  nh : Nat
  tl : Nat
  ta : Nat
noncomputable def redM (sym : Int) : Nat → RunSt → Option RunSt
  | 0, _ => none
  | n + 1, st =>
    if st.waiting = [] then some st
    else if st.waiting.getLastD 0 ∉ rankKeys then none
    else if rankF (st.waiting.getLastD 0) < rankF sym then some st
    else if st.waiting.getLastD 0 ∈ deedKeys ∧ 2 ≤ st.piled.length then
      redM sym n ⟨st.piled.dropLast.dropLast ++ [deedF (st.waiting.getLastD 0) (st.piled.dropLast.getLastD 0) (st.piled.getLastD 0)], st.waiting.dropLast, st.last, st.aim, st.held, deedF (st.waiting.getLastD 0) (st.piled.dropLast.getLastD 0) (st.piled.getLastD 0) :: st.log⟩
    else none
noncomputable def getM (held : List Int) (k : Int) : Int := if k < 3 then held.getD k.toNat 0 else k - 2
noncomputable def endM (sym : Int) (s1 : RunSt) : Option RunSt :=
  if sym = 8 then (if s1.waiting = [] then none else some ⟨s1.piled, s1.waiting.dropLast, s1.last, s1.aim, s1.held, s1.log⟩)
  else if sym = 13 ∨ sym = 0 then (if s1.piled = [] ∨ ¬ (0 ≤ s1.aim ∧ s1.aim < 3) then none else some ⟨s1.piled.dropLast, s1.waiting, s1.last, s1.aim, s1.held.set s1.aim.toNat (s1.piled.getLastD 0), s1.log⟩)
  else some ⟨s1.piled, s1.waiting ++ [sym], s1.last, if sym = 22 ∨ sym = 36 ∨ sym = 37 ∨ sym = 38 then s1.last else s1.aim, s1.held, s1.log⟩
noncomputable def stepM (st : RunSt) (sym : Int) : Option RunSt :=
  if 256 ≤ sym then some ⟨st.piled ++ [getM st.held (sym - 256)], st.waiting, sym - 256, st.aim, st.held, getM st.held (sym - 256) :: st.log⟩
  else if sym = 7 then some ⟨st.piled, st.waiting ++ [sym], st.last, st.aim, st.held, st.log⟩
  else if sym ∈ rankKeys then (redM sym (st.waiting.length + 1) st).bind (endM sym)
  else none
noncomputable def runM : List Int → RunSt → Option RunSt
  | [], st => some st
  | s :: r, st => (stepM st s).bind (runM r)
structure RunOk (ns : List Int) (fin : RunSt) (pre : List Int) (st : RunSt) : Prop where
  go : ∀ post, ns = pre ++ post → runM post st = some fin
  pl : st.piled.length ≤ pre.length
  wl : st.waiting.length ≤ pre.length
  hl : st.held.length = 3
  pm : ∀ v ∈ st.piled, v ∈ st.log
theorem run_start {ns h0 : List Int} {fin : RunSt} (h : runM ns ⟨[], [], 0, 0, h0, []⟩ = some fin) (hl : h0.length = 3) : RunOk ns fin [] ⟨[], [], 0, 0, h0, []⟩ :=
  ⟨fun post e => by rw [List.nil_append] at e; rw [← e]; exact h, Nat.le_refl _, Nat.le_refl _, hl, fun _ h => nomatch h⟩
theorem RunOk.step {ns pre : List Int} {fin st st' : RunSt} {k : Int} (h : RunOk ns fin pre st) (hs : stepM st k = some st') (pl : st'.piled.length ≤ pre.length + 1) (wl : st'.waiting.length ≤ pre.length + 1) (hl : st'.held.length = 3) (pm : ∀ v ∈ st'.piled, v ∈ st'.log) :
    RunOk ns fin (pre ++ [k]) st' := by
  refine ⟨fun post e => ?_, ?_, ?_, hl, pm⟩
  · have := h.go (k :: post) (by rw [e, List.append_assoc]; rfl)
    rw [runM, hs] at this
    exact this
  · rw [List.length_append, List.length_singleton]; exact pl
  · rw [List.length_append, List.length_singleton]; exact wl
theorem run_push {ns pre pi wa he lo : List Int} {fin : RunSt} {la ai k v : Int} (h : RunOk ns fin pre ⟨pi, wa, la, ai, he, lo⟩) (hk : 256 ≤ k) (hv : v = getM he (k - 256)) :
    RunOk ns fin (pre ++ [k]) ⟨pi ++ [v], wa, k - 256, ai, he, v :: lo⟩ := by
  subst hv
  refine h.step (by unfold stepM; rw [if_pos hk]) ?_ ?_ h.hl ?_
  · have := h.pl; dsimp only at this ⊢; rw [List.length_append, List.length_singleton]; lia
  · have := h.wl; dsimp only at this ⊢; lia
  · intro v hv
    rcases List.mem_append.mp hv with q | q
    · exact .tail _ (h.pm v q)
    · rw [List.mem_singleton.mp q]; exact .head _
theorem run_paren {ns pre pi wa he lo : List Int} {fin : RunSt} {la ai k : Int} (h : RunOk ns fin pre ⟨pi, wa, la, ai, he, lo⟩) (hk : k = 7) :
    RunOk ns fin (pre ++ [k]) ⟨pi, wa ++ [k], la, ai, he, lo⟩ := by
  subst hk
  refine h.step (by unfold stepM; rw [if_neg (by decide), if_pos rfl]) ?_ ?_ h.hl h.pm
  · have := h.pl; dsimp only at this ⊢; lia
  · have := h.wl; dsimp only at this ⊢; rw [List.length_append, List.length_singleton]; lia
structure RedOk (k : Int) (sR : RunSt) (N : Nat) (st : RunSt) : Prop where
  go : ∃ n, redM k n st = some sR
  pl : st.piled.length ≤ N
  wl : st.waiting.length ≤ N
  hl : st.held.length = 3
  pm : ∀ v ∈ st.piled, v ∈ st.log
theorem run_red {ns pre post : List Int} {fin st : RunSt} {k : Int} (h : RunOk ns fin pre st) (e : ns = pre ++ k :: post) (h1 : ¬ 256 ≤ k) (h2 : k ≠ 7) :
    k ∈ rankKeys ∧ ∃ sR st', RedOk k sR pre.length st ∧ endM k sR = some st' ∧ stepM st k = some st' := by
  have g := h.go (k :: post) e
  rw [runM] at g
  cases hs : stepM st k with
  | none => rw [hs] at g; cases g
  | some st' =>
    unfold stepM at hs
    rw [if_neg h1, if_neg h2] at hs
    by_cases hk : k ∈ rankKeys
    · rw [if_pos hk] at hs
      cases hr : redM k (st.waiting.length + 1) st with
      | none => rw [hr] at hs; cases hs
      | some sR =>
        rw [hr] at hs
        exact ⟨hk, sR, st', ⟨⟨_, hr⟩, h.pl, h.wl, h.hl, h.pm⟩, hs, rfl⟩
    · rw [if_neg hk] at hs; cases hs
theorem red_top {k : Int} {sR : RunSt} {N : Nat} {pi wa he lo : List Int} {la ai : Int} (h : RedOk k sR N ⟨pi, wa, la, ai, he, lo⟩) : TopOk k wa pi := by
  obtain ⟨n, hn⟩ := h.go
  cases n with
  | zero => cases hn
  | succ n =>
    rw [redM] at hn
    dsimp only at hn
    refine ⟨fun hw => ?_, fun hw hr => ?_⟩
    · rw [if_neg hw] at hn
      by_cases q : wa.getLastD 0 ∈ rankKeys
      · exact q
      · rw [if_pos q] at hn; cases hn
    · rw [if_neg hw] at hn
      by_cases q : wa.getLastD 0 ∈ rankKeys
      · rw [if_neg (by simpa using q), if_neg hr] at hn
        by_cases z : wa.getLastD 0 ∈ deedKeys ∧ 2 ≤ pi.length
        · exact z
        · rw [if_neg z] at hn; cases hn
      · rw [if_pos q] at hn; cases hn
theorem red_exit1 {k : Int} {sR : RunSt} {N : Nat} {pi wa he lo : List Int} {la ai : Int} (h : RedOk k sR N ⟨pi, wa, la, ai, he, lo⟩) (hw : decide (wa = []) = true) : sR = ⟨pi, wa, la, ai, he, lo⟩ := by
  obtain ⟨n, hn⟩ := h.go
  cases n with
  | zero => cases hn
  | succ n =>
    rw [redM] at hn
    dsimp only at hn
    rw [if_pos (of_decide_eq_true hw)] at hn
    exact (Option.some.inj hn).symm
theorem red_exit2 {k : Int} {sR : RunSt} {N : Nat} {pi wa he lo : List Int} {la ai : Int} (h : RedOk k sR N ⟨pi, wa, la, ai, he, lo⟩) (hw : decide (wa = []) = false) (hr : ¬ rankF k ≤ rankF (wa.getLastD 0)) : sR = ⟨pi, wa, la, ai, he, lo⟩ := by
  have ht := (red_top h).a (of_decide_eq_false hw)
  obtain ⟨n, hn⟩ := h.go
  cases n with
  | zero => cases hn
  | succ n =>
    rw [redM] at hn
    dsimp only at hn
    rw [if_neg (of_decide_eq_false hw), if_neg (by simpa using ht), if_pos (by lia)] at hn
    exact (Option.some.inj hn).symm
theorem red_next {k : Int} {sR : RunSt} {N : Nat} {pi wa he lo : List Int} {la ai v : Int} (h : RedOk k sR N ⟨pi, wa, la, ai, he, lo⟩) (hw : decide (wa = []) = false) (hr : rankF k ≤ rankF (wa.getLastD 0)) (hv : v = deedF (wa.getLastD 0) (pi.dropLast.getLastD 0) (pi.getLastD 0)) :
    RedOk k sR N ⟨pi.dropLast.dropLast ++ [v], wa.dropLast, la, ai, he, v :: lo⟩ := by
  have ht := (red_top h).a (of_decide_eq_false hw)
  have hb := (red_top h).b (of_decide_eq_false hw) (by lia)
  obtain ⟨n, hn⟩ := h.go
  cases n with
  | zero => cases hn
  | succ n =>
    rw [redM] at hn
    dsimp only at hn
    rw [if_neg (of_decide_eq_false hw), if_neg (by simpa using ht), if_neg (by lia), if_pos hb] at hn
    subst hv
    have hpl := h.pl
    have hwl := h.wl
    dsimp only at hpl hwl
    refine ⟨⟨n, hn⟩, ?_, ?_, h.hl, fun v hv => ?_⟩
    · dsimp only
      rw [List.length_append, List.length_dropLast, List.length_dropLast, List.length_singleton]
      lia
    · dsimp only
      rw [List.length_dropLast]
      lia
    · rcases List.mem_append.mp hv with q | q
      · exact .tail _ (h.pm v (List.dropLast_subset _ (List.dropLast_subset _ q)))
      · rw [List.mem_singleton.mp q]; exact .head _
theorem redM_log {k : Int} {sR : RunSt} : ∀ (n : Nat) (st : RunSt), redM k n st = some sR → ∀ v ∈ st.log, v ∈ sR.log
  | 0, _, h => by cases h
  | n + 1, st, h => by
    intro v hv
    rw [redM] at h
    split at h
    · cases h; exact hv
    · split at h
      · cases h
      · split at h
        · cases h; exact hv
        · split at h
          · exact redM_log n _ h v (.tail _ hv)
          · cases h
theorem endM_log {k : Int} {s1 st' : RunSt} (h : endM k s1 = some st') : st'.log = s1.log := by
  unfold endM at h
  split at h
  · split at h
    · cases h
    · cases h; rfl
  · split at h
    · split at h
      · cases h
      · cases h; rfl
    · cases h; rfl
theorem stepM_log {st st' : RunSt} {k : Int} (h : stepM st k = some st') : ∀ v ∈ st.log, v ∈ st'.log := by
  intro v hv
  unfold stepM at h
  split at h
  · cases h; exact .tail _ hv
  · split at h
    · cases h; exact hv
    · split at h
      · cases hr : redM k (st.waiting.length + 1) st with
        | none => rw [hr] at h; cases h
        | some s1 =>
          rw [hr] at h
          rw [endM_log h]
          exact redM_log _ _ hr v hv
      · cases h
theorem runM_log {fin : RunSt} : ∀ (r : List Int) (st : RunSt), runM r st = some fin → ∀ v ∈ st.log, v ∈ fin.log
  | [], st, h => by intro v hv; cases h; exact hv
  | s :: r, st, h => by
    intro v hv
    rw [runM] at h
    cases hs : stepM st s with
    | none => rw [hs] at h; cases h
    | some st' =>
      rw [hs] at h
      exact runM_log r st' h v (stepM_log hs v hv)
theorem red_small {ns pre post : List Int} {fin st st' sR : RunSt} {k : Int} (h : RunOk ns fin pre st) (e : ns = pre ++ k :: post) (hs : stepM st k = some st') (he : endM k sR = some st') (hl : ∀ v ∈ fin.log, Small v) : ∀ v ∈ sR.log, Small v := by
  intro v hv
  rw [← endM_log he] at hv
  refine hl v (runM_log post st' ?_ v hv)
  have g := h.go (k :: post) e
  rw [runM, hs] at g
  exact g
theorem red_small2 {k : Int} {sR st : RunSt} {N : Nat} (h : RedOk k sR N st) (hs : ∀ v ∈ sR.log, Small v) : ∀ v ∈ st.piled, Small v := by
  intro v hv
  obtain ⟨n, hn⟩ := h.go
  exact hs v (redM_log n st hn v (h.pm v hv))
theorem last_mem {xs : List Int} (h : 0 < xs.length) : xs.getLastD 0 ∈ xs := by
  have e : xs ≠ [] := List.length_pos_iff.mp h
  rw [List.getLastD_eq_getLast?, List.getLast?_eq_some_getLast e]
  exact List.getLast_mem e
structure EndOk (k : Int) (pi wa : List Int) (ai : Int) : Prop where
  a : k = 8 → 0 < wa.length
  b : k ≠ 8 → (k = 13 ∨ k = 0) → 0 < pi.length ∧ 0 ≤ ai ∧ ai < 3
theorem end_ok {k : Int} {pi wa he lo : List Int} {la ai : Int} {st' : RunSt} (h : endM k ⟨pi, wa, la, ai, he, lo⟩ = some st') : EndOk k pi wa ai := by
  unfold endM at h
  dsimp only at h
  refine ⟨fun e => ?_, fun e1 e2 => ?_⟩
  · rw [if_pos e] at h
    by_cases q : wa = []
    · rw [if_pos q] at h; cases h
    · exact List.length_pos_iff.mpr q
  · rw [if_neg e1, if_pos e2] at h
    by_cases q : pi = [] ∨ ¬ (0 ≤ ai ∧ ai < 3)
    · rw [if_pos q] at h; cases h
    · rw [not_or, Classical.not_not] at q
      exact ⟨List.length_pos_iff.mpr q.1, q.2⟩
theorem run_end8 {ns pre pi wa he lo : List Int} {fin st0 st' sR : RunSt} {k la ai : Int} (h : RunOk ns fin pre st0) (hs : stepM st0 k = some st') (he' : endM k ⟨pi, wa, la, ai, he, lo⟩ = some st') (q : RedOk k sR pre.length ⟨pi, wa, la, ai, he, lo⟩) (hk : k = 8) :
    RunOk ns fin (pre ++ [k]) ⟨pi, wa.dropLast, la, ai, he, lo⟩ := by
  have hp := q.pl
  have hw := q.wl
  dsimp only at hp hw
  unfold endM at he'
  dsimp only at he'
  rw [if_pos hk] at he'
  split at he'
  · cases he'
  · have e := Option.some.inj he'
    rw [← e] at hs
    refine h.step hs ?_ ?_ q.hl q.pm
    · dsimp only; lia
    · dsimp only; rw [List.length_dropLast]; lia
theorem run_end13 {ns pre pi wa he lo : List Int} {fin st0 st' sR : RunSt} {k la ai : Int} (h : RunOk ns fin pre st0) (hs : stepM st0 k = some st') (he' : endM k ⟨pi, wa, la, ai, he, lo⟩ = some st') (q : RedOk k sR pre.length ⟨pi, wa, la, ai, he, lo⟩) (hk : k ≠ 8) (hk2 : k = 13 ∨ k = 0) :
    RunOk ns fin (pre ++ [k]) ⟨pi.dropLast, wa, la, ai, he.set ai.toNat (pi.getLastD 0), lo⟩ := by
  have hp := q.pl
  have hw := q.wl
  have hl := q.hl
  dsimp only at hp hw hl
  unfold endM at he'
  dsimp only at he'
  rw [if_neg hk, if_pos hk2] at he'
  split at he'
  · cases he'
  · have e := Option.some.inj he'
    rw [← e] at hs
    refine h.step hs ?_ ?_ ?_ ?_
    · dsimp only; rw [List.length_dropLast]; lia
    · dsimp only; lia
    · dsimp only; rw [List.length_set]; exact hl
    · exact fun v hv => q.pm v (List.dropLast_subset _ hv)
theorem run_endOp {ns pre pi wa he lo : List Int} {fin st0 st' sR : RunSt} {k la ai : Int} (h : RunOk ns fin pre st0) (hs : stepM st0 k = some st') (he' : endM k ⟨pi, wa, la, ai, he, lo⟩ = some st') (q : RedOk k sR pre.length ⟨pi, wa, la, ai, he, lo⟩) (hk : k ≠ 8) (hk2 : ¬ (k = 13 ∨ k = 0)) {b : Bool} (hb : ([22, 36, 37, 38].any fun x => x == k) = b) :
    RunOk ns fin (pre ++ [k]) ⟨pi, wa ++ [k], la, if b = true then la else ai, he, lo⟩ := by
  have hp := q.pl
  have hw := q.wl
  dsimp only at hp hw
  unfold endM at he'
  dsimp only at he'
  rw [if_neg hk, if_neg hk2] at he'
  have e := Option.some.inj he'
  have hc : (k = 22 ∨ k = 36 ∨ k = 37 ∨ k = 38) ↔ b = true := by
    rw [← hb]
    simp only [List.any_cons, List.any_nil, Bool.or_false, Bool.or_eq_true, beq_iff_eq]
    lia
  have e2 : (if b = true then la else ai) = (if k = 22 ∨ k = 36 ∨ k = 37 ∨ k = 38 then la else ai) := by
    by_cases z : b = true
    · rw [if_pos z, if_pos (hc.mpr z)]
    · rw [if_neg z, if_neg (fun q => z (hc.mp q))]
  rw [e2, ]
  rw [← e] at hs
  refine h.step hs ?_ ?_ q.hl q.pm
  · dsimp only; lia
  · dsimp only; rw [List.length_append, List.length_singleton]; lia
theorem deed_cases {op : Int} (h : op ∈ deedKeys) : op = 14 ∨ op = 15 ∨ op = 16 ∨ op = 22 ∨ op = 36 ∨ op = 37 ∨ op = 38 := by
  unfold deedKeys at h
  simpa using h
local macro_rules | `(tactic| walk_at "call builtin:list.append") => `(tactic| walk_at "APPX")
local macro_rules | `(tactic| walk_at "setItem ref int") => `(tactic| (k_dflt (refine' ksa_set ?k1 ?k2 ?k3 ?k4 ?k5 ?k6 ?k7 ?_; (case k1 | k2 => k_asm); (case k3 => k_upd); (case k4 => assumption); (case k5 | k6 | k7 => omega); k_whole); intro h' F' N' hi' hl' hs'))
local macro_rules | `(tactic| walk_at "binaryOp Mult int int") => `(tactic| (refine mul_int ?_ (small_mul (by assumption) (by assumption))))
local macro_rules | `(tactic| walk_at "inplaceOp Mult int int") => `(tactic| (refine imul_int ?_ (small_mul (by assumption) (by assumption))))
local macro_rules | `(tactic| walk_at "subscriptTail Name Subscript ref int") => `(tactic| (k_dflt (refine' rank_item ?a ?b ?c ?d ?_ ?e ?f; (case a => k_asm); (case b => k_mem); (case c => assumption); (case d => first | assumption | exact top_rank (by assumption) (by assumption) | exact top_rank2 (by assumption) (by assumption)); (case e | f => intros; with_unfolding_all rfl)); intro _))
local macro_rules | `(tactic| walk_at "subscriptTail Name Name ref int") => `(tactic| walk_at "subscriptTail Name Subscript ref int")
local macro_rules | `(tactic| walk_at "subscriptTail Name UnaryOp ref int") => `(tactic| (k_dflt (refine' item_lastN ?a ?b ?c ?d ?e ?_ ?f ?g; (case a => k_asm); (case b => k_mem); (case c => assumption); (case d => first | omega | exact ne_len (by assumption) | exact ne_len2 (by assumption)); (case e => omega); (case f | g => intros; with_unfolding_all rfl)); intro _))
set_option autoImplicit true in
theorem st54 (h : wpAny z1 z2 (call (Value.ref (deedA z3)) z4) z5 z6 z7) : wpAny z1 z2 (call (Value.ref (deedA z3)) z4) z5 z6 z7 := h
set_option autoImplicit true in
theorem st55 (h : wpAny z1 z2 (subscriptTail (PySem.Expr.Name (PySem.Str.ofString "deeds") z3) z4 z5 z6) z7 z8 z9) : wpAny z1 z2 (subscriptTail (PySem.Expr.Name (PySem.Str.ofString "deeds") z3) z4 z5 z6) z7 z8 z9 := h
set_option autoImplicit true in
theorem st56 (h : wpAny z1 z2 (execs (Stmt.Assign [PySem.Expr.Name (PySem.Str.ofString "right") z3] z4 z5 :: z6) z7) z8 z9 z10) : wpAny z1 z2 (execs (Stmt.Assign [PySem.Expr.Name (PySem.Str.ofString "right") z3] z4 z5 :: z6) z7) z8 z9 z10 := h
set_option autoImplicit true in
theorem st57 (h : wpAny z1 z2 (execs (Stmt.If (PySem.Expr.Compare z3 z4 [PySem.Expr.Constant (PySem.Const.int 8) z5 z6] z7) z8 z9 z10 :: z11) z12) z13 z14 z15) : wpAny z1 z2 (execs (Stmt.If (PySem.Expr.Compare z3 z4 [PySem.Expr.Constant (PySem.Const.int 8) z5 z6] z7) z8 z9 z10 :: z11) z12) z13 z14 z15 := h
local macro_rules | `(tactic| walk_at "STOP") => `(tactic| with_reducible (first | refine st54 ?_ | refine st55 ?_ | refine st56 ?_ | refine st57 ?_))
noncomputable def KswX {σ : Type} (h₀ : Heap) (L : Addr) (s : Shared) (Led : σ → List (Addr × Obj)) (ps : σ → List (Str × Value)) (Facts : σ → Prop) (stored : List Str) (m₀ : Str → Option Value) (R : σ → Prop) (f : Flow) (s₂ : Shared) : Prop :=
  f = .next ∧ ∃ (c : σ) (u : Str → Option Value) (h : Heap) (tk : Nat), Facts c ∧ R c ∧ Fr h₀ L h (kstB (fun z => if stored.contains z then u z else m₀ z) (ps c)) ∧ News h₀ L h (Led c) ∧ s₂ = { s with heap := h, toks := tk }
theorem ksw_whileX {prog : Program} {w : World} {A : Around} {E : Value → Shared → Prop} {Q : Flow → Shared → Prop} {s : Shared} {env : Env} {h₀ : Heap} {L : Addr} {σ : Type} {test : PySem.Expr} {body : List Stmt} {pos : Pos} {m₀ : Str → Option Value} (Led : σ → List (Addr × Obj)) (ps : σ → List (Str × Value)) (Facts : σ → Prop) (stored : List Str) (P : σ → Prop) (μ : σ → Nat) (R : σ → Prop) (c₀ : σ)
    (F : Fr h₀ L s.heap m₀) (N : News h₀ L s.heap (Led c₀)) (hf : Facts c₀) (hk : ∀ p ∈ ps c₀, m₀ p.1 = some p.2) (hp : P c₀)
    (turn : ∀ (c : σ) (u : Str → Option Value) h tk (Q₁ PQ : Flow → Shared → Prop), Facts c → P c → Fr h₀ L h (kstB (fun z => if stored.contains z then u z else m₀ z) (ps c)) → News h₀ L h (Led c) →
      (∀ h' tk', R c → Fr h₀ L h' (kstB (fun z => if stored.contains z then u z else m₀ z) (ps c)) → News h₀ L h' (Led c) → Q₁ .next { s with heap := h', toks := tk' }) →
      (∀ s₂, KswEnd h₀ L s Led ps Facts stored m₀ P μ c s₂ → PQ .next s₂) →
      wpAny (model prog w) A (isTrue test env (eval test env)) (fun b s₂ => if b = true then wpAny (model prog w) A (execs body env) PQ E s₂ else Q₁ .next s₂) E { s with heap := h, toks := tk })
    (done : ∀ (c : σ) (u : Str → Option Value) h tk, Facts c → R c → Fr h₀ L h (kstB (fun z => if stored.contains z then u z else m₀ z) (ps c)) → News h₀ L h (Led c) → Q .next { s with heap := h, toks := tk })
    (hE : PassesOwn (model prog w) A env E := by passes_own) :
    wpAny (model prog w) A (exec (.While test body [] pos) env) Q E s := by
  have key := ksw_while (pos := pos) (Q := KswX h₀ L s Led ps Facts stored m₀ R) Led ps Facts stored P μ c₀ F N hf hk hp (fun c u h tk f p F₁ N₁ => turn c u h tk (KswX h₀ L s Led ps Facts stored m₀ R) _ f p F₁ N₁ (fun h' tk' r F₂ N₂ => ⟨rfl, c, u, h', tk', f, r, F₂, N₂, rfl⟩) (fun s₂ e => e)) hE
  refine wpAny_mono key ?_ fun _ _ x => x
  rintro f s₂ ⟨rfl, c, u, h, tk, hf', hr, F', N', rfl⟩
  exact done c u h tk hf' hr F' N'
theorem deed_keep (w : World) {op : Int} (h : op ∈ deedKeys) : keepIn (wpart.heap_1 w.params) (Value.ref (deedA op)) = true := by
  rcases deed_cases h with rfl | rfl | rfl | rfl | rfl | rfl | rfl
  · show keepIn (wpart.heap_1 w.params) (Value.ref 35) = true
    k_is
  · show keepIn (wpart.heap_1 w.params) (Value.ref 63) = true
    k_is
  · show keepIn (wpart.heap_1 w.params) (Value.ref 56) = true
    k_is
  · show keepIn (wpart.heap_1 w.params) (Value.ref 136) = true
    k_is
  · show keepIn (wpart.heap_1 w.params) (Value.ref 77) = true
    k_is
  · show keepIn (wpart.heap_1 w.params) (Value.ref 91) = true
    k_is
  · show keepIn (wpart.heap_1 w.params) (Value.ref 84) = true
    k_is
local macro_rules | `(tactic| walk_at "callWith ref") => `(tactic| (k_here; k_dflt (refine' callWith_K ?k1 (deed_keep _ (by assumption)) ?_; (case k1 => k_asm); k_whole)))
theorem deed_spec {w : World} {V : Program} {lo : List Str} {mean : ExcName → Option Value} {mg mb : Str → Option Value}
  (dp un : Nat) (gd : Option (List Code)) (cn : Str) (cs : Scope) (a : Addr) (ccd : Value) (cl : List (Str × Addr)) (outer : List Env) (A₀ : Around) (base h₀ : Heap) (L : Addr) (m : Str → Option Value) (news : List (Addr × Obj)) (s : Shared) (Q E : Value → Shared → Prop)
  (op l r : Int) (tl tr : Tok)
  (B : Below A₀ base outer h₀) (F : Fr h₀ L s.heap m) (X : (wpart.heap_1 w.params).In h₀) (N : News h₀ L s.heap news) (T : Top V lo mean mg mb h₀) (hk : cs.kind = .function)
  (hop : op ∈ deedKeys) (hsl : Small l) (hsr : Small r) (hd : dp + 1 < recursionLimit) (hu : un + 30 < cLine)
  (hret : ∀ t h' tk', Fr h₀ L h' m → News h₀ L h' news → Q (.int (deedF op l r) t) { s with heap := h', toks := tk' }) :
  wpAny (model PR w) (ktrTop dp un gd cn cs L a ccd cl outer) (call (.ref (deedA op)) [.int l tl, .int r tr]) Q E s := by
  rcases deed_cases hop with rfl | rfl | rfl | rfl | rfl | rfl | rfl
  · show wpAny _ _ (call (.ref 35) _) _ _ _
    refine wpAny_call ?_
    k_dflt cell_enter
    walk_at "GO"
    exact hret _ _ _ (by assumption) (by assumption)
  · show wpAny _ _ (call (.ref 63) _) _ _ _
    refine wpAny_call ?_
    k_dflt cell_enter
    walk_at "GO"
    exact hret _ _ _ (by assumption) (by assumption)
  · show wpAny _ _ (call (.ref 56) _) _ _ _
    refine wpAny_call ?_
    k_dflt cell_enter
    walk_at "GO"
    exact hret _ _ _ (by assumption) (by assumption)
  · show wpAny _ _ (call (.ref 136) _) _ _ _
    refine wpAny_call ?_
    k_dflt cell_enter
    walk_at "GO"
    exact hret _ _ _ (by assumption) (by assumption)
  · show wpAny _ _ (call (.ref 77) _) _ _ _
    refine wpAny_call ?_
    k_dflt cell_enter
    walk_at "GO"
    exact hret _ _ _ (by assumption) (by assumption)
  · show wpAny _ _ (call (.ref 91) _) _ _ _
    refine wpAny_call ?_
    k_dflt cell_enter
    walk_at "GO"
    exact hret _ _ _ (by assumption) (by assumption)
  · show wpAny _ _ (call (.ref 84) _) _ _ _
    refine wpAny_call ?_
    k_dflt cell_enter
    walk_at "GO"
    exact hret _ _ _ (by assumption) (by assumption)
theorem run_spec {w : World} {V : Program} {lo : List Str} {mean : ExcName → Option Value} {mg mb : Str → Option Value}
  (dp un : Nat) (gd : Option (List Code)) (cn : Str) (cs : Scope) (a : Addr) (ccd : Value) (cl : List (Str × Addr)) (outer : List Env) (A₀ : Around) (base h₀ : Heap) (L : Addr) (m : Str → Option Value) (news : List (Addr × Obj)) (s : Shared) (Q E : Value → Shared → Prop)
  (ls lh : Addr) (vs : List Value) (ns : List Int) (hv : List Value) (h0 : List Int) (fin : RunSt) (ks kh : Nat) (rest : List (Addr × Obj))
  (B : Below A₀ base outer h₀) (F : Fr h₀ L s.heap m) (X : (wpart.heap_1 w.params).In h₀) (N : News h₀ L s.heap news) (T : Top V lo mean mg mb h₀) (hk : cs.kind = .function)
  (hnews : news = (lh, W.listOf hv.toArray kh) :: rest) (hms : (ls, W.listOf vs.toArray ks) ∈ rest) (hlh : ∀ p ∈ rest, p.1 ≠ lh) (his : IntsAre vs ns) (hih : IntsAre hv h0) (hnl : ns.length ≤ 40) (hh3 : h0.length = 3) (hrun : runM ns ⟨[], [], 0, 0, h0, []⟩ = some fin) (hlog : ∀ v ∈ fin.log, Small v) (hd : dp + 3 < recursionLimit) (hu : un + 200 < cLine)
  (hret : ∀ hv' n h' tk', Fr h₀ L h' m → News h₀ L h' ((lh, W.listOf hv'.toArray n) :: rest) → IntsAre hv' fin.held → fin.held.length = 3 → Q .none { s with heap := h', toks := tk' }) :
  wpAny (model PR w) (ktrTop dp un gd cn cs L a ccd cl outer) (call (.ref 143) [.ref ls, .ref lh]) Q E s := by
  subst hnews
  have hlo : OwnOff rest [lh] := fun p hp b hb => by rw [List.mem_singleton.mp hb]; exact hlh p hp
  refine wpAny_call ?_
  k_dflt cell_enter
  walk_at "GO"
  rename Fr _ _ _ _ => lF'
  rename News _ _ _ _ => lN'
  rename RanksOf _ _ _ => hR
  rename DeedsOf _ _ _ => hD
  refine nm1 lN' fun lw e9 => ?_
  subst e9
  refine nm2 lN' fun lp e9 => ?_
  subst e9
  refine nmo3 lN' fun dd od e9 e8 => ?_
  subst e8
  rename News _ _ _ _ => lN'
  refine nmo4 lN' fun dr orr e9 e8 => ?_
  subst e8
  refine' kst_listL (σ := RunSt × RunV) (vs := vs) (ns := ns) (nn := ks)
    (fun c => (lw, W.listOf c.2.wv.toArray c.2.nw) :: (lp, W.listOf c.2.pv.toArray c.2.np) :: (_, od) :: (_, orr) :: (lh, W.listOf c.2.hv.toArray c.2.nh) :: rest)
    (fun c => [(Str.ofString "last", Value.int c.1.last c.2.tl), (Str.ofString "aim", Value.int c.1.aim c.2.ta)])
    (fun c => IntsAre c.2.pv c.1.piled ∧ IntsAre c.2.wv c.1.waiting ∧ IntsAre c.2.hv c.1.held) [Str.ofString "right", Str.ofString "left"]
    (fun pre c => RunOk ns fin pre c.1)
    (⟨[], [], 0, 0, h0, []⟩, ⟨[], _, [], _, hv, kh, _, _⟩) rfl (fun _ => .tail _ (.tail _ (.tail _ (.tail _ (.tail _ hms))))) his lF' lN' ⟨IntsAre.nil, IntsAre.nil, hih⟩ ?kk (run_start hrun hh3) ?turn ?done
  case kk => kst_all
  case turn =>
    clear lF' lN' hret
    rintro ⟨⟨pi, wa, la, ai, he, lo⟩, ⟨pv, np, wv, nw, hvv, nh, tl, ta⟩⟩ pre post k t u h tk own heq hmem hoff hF hP F1 N1
    dsimp only at hF hP
    dsimp only [kstB] at F1
    simp only [List.cons_append] at N1
    simp only [List.map_cons] at hoff
    obtain ⟨hF1, hF2, hF3⟩ := hF
    have kMark := kstMark
    have hpl := hF1.length
    have hwl := hF2.length
    have hhl := hF3.length
    have hp1 := hP.pl
    have hp2 := hP.wl
    have hp3 := hP.hl
    have hns : pre.length < 40 := by rw [heq] at hnl; simp only [List.length_append, List.length_cons] at hnl; omega
    dsimp only at hp1 hp2 hp3
    refine post_abs fun PQ hPQ => ?_
    walk_at "GO"
    · have hv := show k - 256 < 3 by assumption
      rename News _ _ _ _ => nE
      (try simp only [List.push_toArray] at nE)
      refine hPQ _ _ (kst_end ⟨⟨_, _, _, _, _, _⟩, ⟨_, _, _, _, _, _, _, _⟩⟩ (by assumption) nE (by first | kst_in | kst_inAny) (by first | (intro p hp; kst_mem) | kst_anyIn) (by rfl) ?_ (by kst_all) (by kst_same) (run_push hP (by omega) (by unfold getM; rw [if_pos hv])))
      exact ⟨hF1.append (.cons _ _ .nil), hF2, hF3⟩
    · have hv := show ¬ k - 256 < 3 by assumption
      rename News _ _ _ _ => nE
      (try simp only [List.push_toArray] at nE)
      refine hPQ _ _ (kst_end ⟨⟨_, _, _, _, _, _⟩, ⟨_, _, _, _, _, _, _, _⟩⟩ (by assumption) nE (by first | kst_in | kst_inAny) (by first | (intro p hp; kst_mem) | kst_anyIn) (by rfl) ?_ (by kst_all) (by kst_same) (run_push hP (by omega) (by unfold getM; rw [if_neg hv])))
      exact ⟨hF1.append (.cons _ _ .nil), hF2, hF3⟩
    · have hv := show k = 7 by assumption
      rename News _ _ _ _ => nE
      (try simp only [List.push_toArray] at nE)
      refine hPQ _ _ (kst_end ⟨⟨_, _, _, _, _, _⟩, ⟨_, _, _, _, _, _, _, _⟩⟩ (by assumption) nE (by first | kst_in | kst_inAny) (by first | (intro p hp; kst_mem) | kst_anyIn) (by rfl) ?_ (by kst_all) (by kst_same) (run_paren hP hv))
      exact ⟨hF1, hF2.append (.cons _ _ .nil), hF3⟩
    · have hk1 : ¬ 256 ≤ k := by omega
      have hk2 : k ≠ 7 := by omega
      obtain ⟨hkr, sR, st', hRd, hEn, hSt⟩ := run_red hP heq hk1 hk2
      rename Fr _ _ _ _ => lF'
      rename News _ _ _ _ => lN'
      have hsm := red_small hP heq hSt hEn hlog
      refine' ksw_whileX (σ := RunSt × RunV)
        (fun c => (lw, W.listOf c.2.wv.toArray c.2.nw) :: (lp, W.listOf c.2.pv.toArray c.2.np) :: (_, od) :: (_, orr) :: (lh, W.listOf c.2.hv.toArray c.2.nh) :: (rest ++ own))
        (fun c => [(Str.ofString "last", Value.int c.1.last c.2.tl), (Str.ofString "aim", Value.int c.1.aim c.2.ta)])
        (fun c => IntsAre c.2.pv c.1.piled ∧ IntsAre c.2.wv c.1.waiting ∧ IntsAre c.2.hv c.1.held) [Str.ofString "right", Str.ofString "left"]
        (fun c => RedOk k sR pre.length c.1) (fun c => c.1.waiting.length) (fun c => RedOk k sR pre.length c.1 ∧ c.1 = sR)
        (⟨pi, wa, la, ai, he, lo⟩, ⟨pv, np, wv, nw, hvv, nh, tl, ta⟩) lF' lN' ⟨hF1, hF2, hF3⟩ ?kk hRd ?turn ?donew
      case kk => kst_all
      case turn =>
        clear lF' lN' hF1 hF2 hF3 hRd hpl hwl hhl hp1 hp2 hp3 hPQ
        rintro ⟨⟨pi, wa, la, ai, he, lo⟩, ⟨pv, np, wv, nw, hvv, nh, tl, ta⟩⟩ u h tk Q₁ PQ2 ⟨hF1, hF2, hF3⟩ hQ F1 N1 hex hPQ2
        dsimp only at hF1 hF2 hF3 hQ N1
        dsimp only [kstB] at F1
        have kMark := kstMark
        have hpl := hF1.length
        have hwl := hF2.length
        have hhl := hF3.length
        have hp1 := hQ.pl
        have hp2 := hQ.wl
        have hp3 := hQ.hl
        dsimp only at hp1 hp2 hp3
        have hT := red_top hQ
        walk_at "GO"
        · have hx := red_exit1 hQ (by assumption)
          rename Fr _ _ _ _ => zF
          rename News _ _ _ _ => zN
          first | exact hex _ _ ⟨hQ, hx.symm⟩ zF (news_drop zN) | exact hex _ _ ⟨hQ, hx.symm⟩ zF zN | exact hex _ _ ⟨hQ, hx.symm⟩ zF (news_drop (news_drop zN))
        · have hr9 : rankF k ≤ rankF (wa.getLastD 0) := by assumption
          have hw9 : decide (wa = []) = false := by assumption
          obtain ⟨hop, hp9⟩ := hT.b (of_decide_eq_false hw9) (by omega)
          have hw8 := ne_len2 hw9
          have hs9 := red_small2 hQ hsm
          dsimp only at hs9
          have hsr := hs9 _ (last_mem (by omega))
          have hsl := hs9 _ (List.dropLast_subset _ (last_mem (xs := pi.dropLast) (by rw [List.length_dropLast]; omega)))
          have hpd : pi.dropLast.length = pi.length - 1 := List.length_dropLast
          have hvd : pv.dropLast.length = pv.length - 1 := List.length_dropLast
          have hpd2 : pi.dropLast.dropLast.length = pi.dropLast.length - 1 := List.length_dropLast
          have hvd2 : pv.dropLast.dropLast.length = pv.dropLast.length - 1 := List.length_dropLast
          clear hsm hT hs9
          walk1
          walk_at "GO"
          rename News _ _ _ _ => nD
          refine deed_item nD (.tail _ (.tail _ (.tail _ (.head _)))) hD hop ?_ (by with_unfolding_all rfl) (by intro _; with_unfolding_all rfl)
          walk_at "GO"
          refine' deed_spec (dp + 1) (un + 3) _ _ _ _ _ [] (envX cn cs L a ccd cl :: outer) _ base _ _ _ _ _ _ _ _ _ _ _ _ ?B ?F ?X ?N ?T ?hk hop hsl hsr ?hd ?hu ?hret
          case B => assumption
          case F => assumption
          case X => assumption
          case N => assumption
          case T => assumption
          case hk => exact rfl
          case hd => omega
          case hu => omega
          intro t9 h' tk' F' N'
          walk_at "GO"
          rename News _ _ _ _ => nE
          refine hPQ2 _ (ksw_end ⟨⟨_, _, _, _, _, _⟩, ⟨_, _, _, _, _, _, _, _⟩⟩ (by assumption) nE (by first | kst_in | kst_inAny) ⟨IntsAre.append (by assumption) (.cons _ _ .nil), by assumption, hF3⟩ (by kst_all) (by ksw_same) (red_next hQ hw9 hr9 rfl) (by dsimp only; rw [List.length_dropLast]; omega))
        · have hx := red_exit2 hQ (by assumption) (by assumption)
          rename Fr _ _ _ _ => zF
          rename News _ _ _ _ => zN
          first | exact hex _ _ ⟨hQ, hx.symm⟩ zF (news_drop zN) | exact hex _ _ ⟨hQ, hx.symm⟩ zF zN | exact hex _ _ ⟨hQ, hx.symm⟩ zF (news_drop (news_drop zN))
      case donew =>
        clear lF' lN' hF1 hF2 hF3 hRd hpl hwl hhl hp1 hp2 hp3
        rintro ⟨⟨pi, wa, la, ai, he, lo⟩, ⟨pv, np, wv, nw, hvv, nh, tl, ta⟩⟩ u h tk ⟨hF1, hF2, hF3⟩ ⟨hQ, hx⟩ F1 N1
        dsimp only at hF1 hF2 hF3 hQ hx N1
        dsimp only [kstB] at F1
        have kMark := kstMark
        have hpl := hF1.length
        have hwl := hF2.length
        have hhl := hF3.length
        have hp1 := hQ.pl
        have hp2 := hQ.wl
        have hp3 := hQ.hl
        dsimp only at hp1 hp2 hp3
        subst hx
        have hE := end_ok hEn
        have hE8 := hE.a
        have hE13 := hE.b
        clear hsm
        dsimp only
        walk1
        walk_at "GO"
        · refine hPQ _ _ (kst_end ⟨⟨_, _, _, _, _, _⟩, ⟨_, _, _, _, _, _, _, _⟩⟩ (by assumption) (by assumption) (by first | kst_in | kst_inAny) (by first | (intro p hp; kst_mem) | kst_anyIn) (by rfl) ?_ (by kst_all) (by kst_same) (run_end8 hP hSt hEn hQ (by assumption)))
          exact ⟨hF1, by assumption, hF3⟩
        · refine hPQ _ _ (kst_end ⟨⟨_, _, _, _, _, _⟩, ⟨_, _, _, _, _, _, _, _⟩⟩ (by assumption) (by assumption) (by first | kst_in | kst_inAny) (by first | (intro p hp; kst_mem) | kst_anyIn) (by rfl) ?_ (by kst_all) (by kst_same) (run_end13 hP hSt hEn hQ (by assumption) (.inl (by assumption))))
          exact ⟨by assumption, hF2, by assumption⟩
        · refine hPQ _ _ (kst_end ⟨⟨_, _, _, _, _, _⟩, ⟨_, _, _, _, _, _, _, _⟩⟩ (by assumption) (by assumption) (by first | kst_in | kst_inAny) (by first | (intro p hp; kst_mem) | kst_anyIn) (by rfl) ?_ (by kst_all) (by kst_same) (run_end13 hP hSt hEn hQ (by assumption) (.inr (by assumption))))
          exact ⟨by assumption, hF2, by assumption⟩
        · have hb9 := show ([22, 36, 37, 38].any fun x => x == k) = true by assumption
          have hz := run_endOp hP hSt hEn hQ (by assumption) (by omega) hb9
          rw [if_pos rfl] at hz
          rename News _ _ _ _ => nE
          (try simp only [List.push_toArray] at nE)
          refine hPQ _ _ (kst_end ⟨⟨_, _, _, _, _, _⟩, ⟨_, _, _, _, _, _, _, _⟩⟩ (by assumption) nE (by first | kst_in | kst_inAny) (by first | (intro p hp; kst_mem) | kst_anyIn) (by rfl) ?_ (by kst_all) (by kst_same) hz)
          exact ⟨hF1, hF2.append (.cons _ _ .nil), hF3⟩
        · have hb9 := show ([22, 36, 37, 38].any fun x => x == k) = false by assumption
          have hz := run_endOp hP hSt hEn hQ (by assumption) (by omega) hb9
          rw [if_neg Bool.false_ne_true] at hz
          rename News _ _ _ _ => nE
          (try simp only [List.push_toArray] at nE)
          refine hPQ _ _ (kst_end ⟨⟨_, _, _, _, _, _⟩, ⟨_, _, _, _, _, _, _, _⟩⟩ (by assumption) nE (by first | kst_in | kst_inAny) (by first | (intro p hp; kst_mem) | kst_anyIn) (by rfl) ?_ (by kst_all) (by kst_same) hz)
          exact ⟨hF1, hF2.append (.cons _ _ .nil), hF3⟩
  case done =>
    clear lF' lN'
    rintro ⟨⟨pi, wa, la, ai, he, lo⟩, ⟨pv, np, wv, nw, hvv, nh, tl, ta⟩⟩ u h tk hF hP F1 N1
    dsimp only at hF hP N1
    dsimp only [kstB] at F1
    obtain ⟨hF1, hF2, hF3⟩ := hF
    have hz := hP.go [] (by simp)
    have hz2 := Option.some.inj hz
    walk_at "GO"
    subst hz2
    exact hret _ _ _ _ (by assumption) (news_drop (news_drop (news_drop (news_drop (by assumption))))) hF3 hP.hl
end U1
namespace E1
section
open PySem.Builtin PySem.Builtin.Str
noncomputable def findR (x y : Str) (i j : Int) : Int := match occurrences x y (fromIndex x.length i) (min (fromIndex x.length j) x.length) 1 with | k :: _ => (k : Int) | [] => -1
theorem gives_find4 (x y : Str) (i j : Int) (t u v z : Tok) : Gives («str.find» ⟨[.str x t, .str y u, .int i v, .int j z], []⟩) (.int (findR x y i j)) := by
  show Gives (match occurrences x y (fromIndex x.length i) (min (fromIndex x.length j) x.length) 1 with | k :: _ => retInt k | [] => (do rule "str.find.not-found"; retInt (-1))) _
  unfold findR
  cases occurrences x y (fromIndex x.length i) (min (fromIndex x.length j) x.length) 1 with
  | nil => exact .rule (.of_eq rfl)
  | cons k _ => exact .of_eq rfl
theorem find4 {prog : Program} {w : World} {A : Around} {E : Value → Shared → Prop} {s : Shared} {x y : Str} {t u v z : Tok} {i j : Int} {Q : Value → Shared → Prop} (hq : Q (.int (findR x y i j) s.toks) { s with toks := s.toks + 1 }) :
    wpAny (model prog w) A (call (.builtin "str.find") [.str x t, .str y u, .int i v, .int j z]) Q E s :=
  call_gives F.slot_str_find (typeIs_str _ _ _) F.entry_str_find (F.args_str_find_4 _ _ _ _) (gives_find4 x y i j t u v z) hq
end
noncomputable def loopE (got : Str) (ep : Int) : List Str → Int → Bool
  | [], _ => true
  | w :: r, sp => if findR got w sp ep < 0 then false else loopE got ep r (findR got w sp ep + w.length)
noncomputable def lastS (rows : List Str) : Str := rows.getLastD (Str.ofString "")
noncomputable def ellF (got : Str) (rows : List Str) : Bool :=
  if Txt.endswith got (lastS rows) = true then loopE got (got.length - (lastS rows).length) (Str.ofString "" :: rows.dropLast) 0 else false
theorem kidel_last : ∀ {us : List Value}, 0 < us.length → ki_delL us (us.length - 1) = some us.dropLast
  | [], h => absurd h (Nat.lt_irrefl 0)
  | [x], _ => rfl
  | x :: y :: r, _ => by
    have ih := kidel_last (us := y :: r) (Nat.succ_pos _)
    have e : (x :: y :: r).length - 1 = ((y :: r).length - 1) + 1 := by simp
    rw [e]
    simp only [ki_delL]
    rw [ih]
    rfl
theorem seq_neg1 {n : Nat} (h : 0 < n) : seqIndex? (-1) n = some (n - 1) := by
  unfold seqIndex?
  have e1 : (if (-1 : Int) < 0 then -1 + (n : Int) else -1) = -1 + (n : Int) := rfl
  rw [e1]
  dsimp only
  rw [if_pos (by simp only [Bool.and_eq_true, decide_eq_true_eq]; lia)]
  congr 1
  lia
theorem strs_values : ∀ l : List (Str × Tok), StrsAre (strValues l) (l.map (·.1))
  | [] => .nil
  | (x, t) :: r => .cons x t (strs_values r)
theorem strs_dropLast : ∀ {us : List Value} {xs : List Str}, StrsAre us xs → StrsAre us.dropLast xs.dropLast
  | _, _, .nil => .nil
  | _, _, .cons x t .nil => .nil
  | _, _, .cons x t (.cons y u r) => .cons x t (strs_dropLast (.cons y u r))
theorem strs_last {us : List Value} {xs : List Str} (h : StrsAre us xs) (hn : 0 < xs.length) : ∃ t, us[us.length - 1]? = some (.str (xs.getLastD (Str.ofString "")) t) := by
  refine h.get _ _ ?_
  rw [h.length, List.getLastD_eq_getLast?, List.getLast?_eq_getElem?, List.getElem?_eq_getElem (by lia)]
  rfl
theorem ends_le {x y : Str} (h : Txt.endswith x y = true) : y.length ≤ x.length := by
  unfold Txt.endswith at h
  rw [Bool.and_eq_true] at h
  have := of_decide_eq_true h.1
  lia
theorem loopE_next {got w : Str} {ep sp : Int} {xs : List Str} {i : Nat} {b : Bool} (h : loopE got ep (xs.drop i) sp = b) (hi : xs[i]? = some w) : (findR got w sp ep < 0 → b = false) ∧ (¬ findR got w sp ep < 0 → loopE got ep (xs.drop (i + 1)) (findR got w sp ep + w.length) = b) := by
  have hlt : i < xs.length := (List.getElem?_eq_some_iff.mp hi).1
  have e : xs.drop i = w :: xs.drop (i + 1) := by
    rw [List.drop_eq_getElem_cons hlt]
    congr 1
    have := (List.getElem?_eq_some_iff.mp hi).2
    exact this
  rw [e, loopE] at h
  refine ⟨fun q => ?_, fun q => ?_⟩
  · rw [if_pos q] at h; exact h.symm
  · rw [if_neg q] at h; exact h
theorem del_last {prog : Program} {w : World} {A : Around} {E : Value → Shared → Prop} {s : Shared} {h₀ : Heap} {L D : Addr} {m : Str → Option Value} {news news' : List (Addr × Obj)} {us : List Value} {n : Nat} {u : Tok} {Q : Unit → Shared → Prop}
    (F : Fr h₀ L s.heap m) (N : News h₀ L s.heap news) (U : Upd D (W.listOf us.toArray n) (W.listOf us.dropLast.toArray (n + 1)) news news') (hne : 0 < us.length) (hz : us.length ≤ 1000) (h : ∀ h', Fr h₀ L h' m → News h₀ L h' news' → Q () { s with heap := h' }) :
    wpAny (model prog w) A (delItem (.ref D) (.int (-1) u)) Q E s := by
  refine ki_del (k := us.length - 1) F N (by decide) ?_ (kidel_last hne) U (by rw [sizeLine_eq]; show us.length ≤ _; lia) h
  have e : us.toArray.size = us.length := List.size_toArray ..
  rw [e]
  exact seq_neg1 hne
theorem item_neg1 {prog : Program} {w : World} {A : Around} {E : Value → Shared → Prop} {s : Shared} {h₀ : Heap} {L l : Addr} {news : List (Addr × Obj)} {value slice : PySem.Expr} {vs : List Value} {n : Nat} {u : Tok} {v : Value} {Q : Value → Shared → Prop}
    (N : News h₀ L s.heap news) (hm : (l, W.listOf vs.toArray n) ∈ news) (hne : 0 < vs.length) (hx : vs[vs.length - 1]? = some v) (h : Q v s)
    (hs : subscripted slice false (.ref l) (.int (-1) u) = operate [.ref l, .int (-1) u] (getItem (.ref l) (.int (-1) u)) := by with_unfolding_all rfl) :
    wpAny (model prog w) A (subscriptTail value slice (.ref l) (.int (-1) u)) Q E s := by
  refine kde_neg (lst_of N hm) (by decide) (by decide) (j := vs.length - 1) ?_ hx h hs
  exact seq_neg1 hne
local macro_rules | `(tactic| walk_at "call builtin:len") => `(tactic| walk_at "LENX")
local macro_rules | `(tactic| walk_at "call builtin:str.find") => `(tactic| (refine find4 ?_))
local macro_rules | `(tactic| walk_at "call builtin:str.endswith") => `(tactic| (refine SC.endswith ?_))
set_option autoImplicit true in
theorem st58 (h : wpAny z1 z2 (call (Value.builtin "str.split") z3) z4 z5 z6) : wpAny z1 z2 (call (Value.builtin "str.split") z3) z4 z5 z6 := h
set_option autoImplicit true in
theorem st59 (h : wpAny z1 z2 (execs (Stmt.Assert z3 z4 z5 :: z6) z7) z8 z9 z10) : wpAny z1 z2 (execs (Stmt.Assert z3 z4 z5 :: z6) z7) z8 z9 z10 := h
set_option autoImplicit true in
theorem st60 (h : wpAny z1 z2 (subscriptTail z3 z4 z5 z6) z7 z8 z9) : wpAny z1 z2 (subscriptTail z3 z4 z5 z6) z7 z8 z9 := h
set_option autoImplicit true in
theorem st61 (h : wpAny z1 z2 (truthy (Value.str z3 z4)) z5 z6 z7) : wpAny z1 z2 (truthy (Value.str z3 z4)) z5 z6 z7 := h
set_option autoImplicit true in
theorem st62 (h : wpAny z1 z2 (delItem z3 z4) z5 z6 z7) : wpAny z1 z2 (delItem z3 z4) z5 z6 z7 := h
set_option autoImplicit true in
theorem st63 (h : InvEndG z1 z2 z3 z4 z5 z6) : InvEndG z1 z2 z3 z4 z5 z6 := h
local macro_rules | `(tactic| walk_at "STOP") => `(tactic| with_reducible (first | refine st58 ?_ | refine st59 ?_ | refine st60 ?_ | refine st61 ?_ | refine st62 ?_ | refine st63 ?_))
theorem ell_spec {w : World} {V : Program} {lo : List Str} {mean : ExcName → Option Value} {mg mb : Str → Option Value}
  (dp un : Nat) (gd : Option (List Code)) (cn : Str) (cs : Scope) (a : Addr) (ccd : Value) (cl : List (Str × Addr)) (outer : List Env) (A₀ : Around) (base h₀ : Heap) (L : Addr) (m : Str → Option Value) (news : List (Addr × Obj)) (s : Shared) (Q E : Value → Shared → Prop)
  (tw tg : Tok) (want got : Str) (rows : List Str)
  (B : Below A₀ base outer h₀) (F : Fr h₀ L s.heap m) (X : (wpart.heap_1 w.params).In h₀) (N : News h₀ L s.heap news) (T : Top V lo mean mg mb h₀) (hk : cs.kind = .function)
  (hw : want.length ≤ 1000) (hg : got.length ≤ 1000) (hin : (Builtin.Str.occurrences want (Str.ofString "...") 0 want.length 1).isEmpty = false) (hsp : Txt.split want (Str.ofString "...") = Str.ofString "" :: rows) (hrn : 1 ≤ rows.length) (hrl : rows.length ≤ 10) (hlast : 0 < (lastS rows).length) (hrb : ∀ r ∈ rows, r.length ≤ 1000) (hd : dp + 3 < recursionLimit) (hu : un + 200 < cLine)
  (hret : ∀ h' tk', Fr h₀ L h' m → News h₀ L h' news → Q (.bool (ellF got rows)) { s with heap := h', toks := tk' }) :
  wpAny (model PR w) (ktrTop dp un gd cn cs L a ccd cl outer) (call (.ref 21) [.str want tw, .str got tg]) Q E s := by
  refine wpAny_call ?_
  k_dflt cell_enter
  walk_at "GO"
  rename News _ _ _ _ => nS
  have hS : ∀ p ∈ news, p.1 < _ := fun p hp => Heap.lt_size (nS p hp).1
  (try dsimp only at hS)
  walk1
  walk_at "GO"
  · rename (List.map _ _ = Txt.split _ _) => hl
    rw [hsp] at hl
    obtain ⟨⟨e0, t0⟩, l', hl1, hl2, hl3⟩ := List.map_eq_cons_iff.mp hl
    subst hl1
    dsimp only at hl2
    subst hl2
    have hlen : l'.length = rows.length := by rw [← hl3, List.length_map]
    have hst : StrsAre (strValues ((Str.ofString "", t0) :: l')) (Str.ofString "" :: rows) := by
      have := strs_values ((Str.ofString "", t0) :: l')
      rw [hl] at this
      exact this
    have hu0 : (strValues ((Str.ofString "", t0) :: l'))[(0 : Int).toNat]? = some (Value.str (Str.ofString "") t0) := rfl
    obtain ⟨tz, hz⟩ := strs_last hst (Nat.succ_pos _)
    have hlz : (Str.ofString "" :: rows).getLastD (Str.ofString "") = lastS rows := by
      cases rows with
      | nil => rfl
      | cons y r => rfl
    rw [hlz] at hz
    have hdl := strs_dropLast hst
    have hdr : (Str.ofString "" :: rows).dropLast = Str.ofString "" :: rows.dropLast := by
      cases rows with
      | nil => exact absurd hrn (by simp)
      | cons y r => rfl
    rw [hdr] at hdl
    have hvl : (strValues ((Str.ofString "", t0) :: l')).length = rows.length + 1 := hst.length
    have hlb : (lastS rows).length ≤ 1000 := by
      refine hrb _ ?_
      have e : rows ≠ [] := List.length_pos_iff.mp hrn
      unfold lastS
      rw [List.getLastD_eq_getLast?, List.getLast?_eq_some_getLast e]
      exact List.getLast_mem e
    generalize strValues ((Str.ofString "", t0) :: l') = us at *
    walk1
    walk_at "GO"
    rename News _ _ _ _ => nA
    refine item_at nA (.tail _ (.head _)) (by decide) (by decide) hu0 ?_ (by with_unfolding_all rfl)
    walk_at "GO"
    refine P.truthy_str (by decide +kernel) ?_
    rw [show ((((Str.ofString "").length : Nat) : Int) != 0) = false from by decide +kernel]
    walk_at "GO"
    rename News _ _ _ _ => nB
    refine item_neg1 nB (.tail _ (.head _)) (by omega) hz ?_ (by with_unfolding_all rfl)
    walk_at "GO"
    refine KXt.truthy_pos hlast hlb (by omega) ?_
    intro k9
    walk_at "GO"
    · have hen : Txt.endswith got (lastS rows) = true := by assumption
      have hle := ends_le hen
      rename News _ _ _ _ => nC
      k_dflt (refine' del_last (us := us) (n := 0) ?k1 nC ?k3 ?k4 ?k5 ?_; (case k1 => k_asm); (case k3 => k_upd); (case k4 => omega); (case k5 => omega))
      intro h7 F7 N7
      have hell : ellF got rows = loopE got ((got.length : Int) - ((lastS rows).length : Int)) ((Str.ofString "" :: rows.dropLast).drop 0) 0 := by
        unfold ellF; rw [if_pos hen]; rfl
      have hxl : us.dropLast.length = us.length - 1 := List.length_dropLast
      walk_at "GO"
      rename Fr _ _ _ _ => lF'
      rename News _ _ _ _ => lN'
      refine' for_strs (σ := Int × Nat) (vs := us.dropLast) (xs := Str.ofString "" :: rows.dropLast)
        (fun c => [(Str.ofString "startpos", Value.int c.1 c.2)]) []
        (fun i c => loopE got ((got.length : Int) - ((lastS rows).length : Int)) ((Str.ofString "" :: rows.dropLast).drop i) c.1 = ellF got rows)
        (0, _) rfl (.tail _ (.head _)) hdl lF' lN' ?kk hell.symm ?turn ?done
      case kk => kst_all
      case turn =>
        clear lF' lN'
        rintro ⟨sp, tsp⟩ i v t u h tk own hv hoff hP F1 N1
        dsimp only at hP
        dsimp only [kstB] at F1
        obtain ⟨hn1, hn2⟩ := loopE_next hP hv
        have hvl9 : v.length ≤ 1000 := by
          have hm := List.mem_of_getElem? hv
          rcases List.mem_cons.mp hm with q | q
          · subst q; decide +kernel
          · exact hrb v (List.dropLast_subset _ q)
        walk_at "GO"
        skip
        · have hn0 : findR got v sp ((got.length : Int) - ((lastS rows).length : Int)) < 0 := by assumption
          have hb : ellF got rows = false := hn1 hn0
          rw [hb] at hret
          rename News _ _ _ _ => nE
          exact hret _ _ (by assumption) (fun p hp => nE p (List.mem_append_left _ (List.Mem.tail _ (List.Mem.tail _ hp))))
        · have hn0 : ¬ findR got v sp ((got.length : Int) - ((lastS rows).length : Int)) < 0 := by omega
          rename News _ _ _ _ => nE
          refine for_end ⟨_, _⟩ (by assumption) nE ?h1 ?h2 hoff (by kst_all) (by kst_same) (hn2 hn0)
          case h1 => exact fun p hp => by first | exact List.mem_append_left _ hp | exact List.Mem.tail _ (List.mem_append_left _ hp)
          case h2 => exact fun p hp => by first | exact List.mem_append_right _ hp | exact List.Mem.tail _ (List.mem_append_right _ hp)
      case done =>
        rintro ⟨sp, tsp⟩ u h tk hP F1 N1
        dsimp only at hP
        dsimp only [kstB] at F1
        rw [List.drop_length] at hP
        walk_at "GO"
        have hb : true = ellF got rows := hP
        rw [← hb] at hret
        exact hret _ _ (by assumption) (news_drop (news_drop (by assumption)))
    · have hen : Txt.endswith got (lastS rows) = false := by assumption
      have hell : ellF got rows = false := by unfold ellF; rw [if_neg (by rw [hen]; decide)]
      rw [hell] at hret
      exact hret _ _ (by assumption) (news_drop (news_drop (by assumption)))
end E1
namespace I1
section
variable {prog : Program} {w : World} {A : Around} {s : Shared} {env : Env} {h₀ : Heap}
theorem enum_char {E : Value → Shared → Prop} {e it : Addr} {x : Str} {t : Tok} {i c : Nat} {old : Value} {Q : Value → Shared → Prop}
    (he : IsEnum s.heap e it i old) (hit : s.heap.IsStrIter it "str_ascii_iterator" x t i) (hc : x.cps[i]? = some c) (hne : e ≠ it)
    (k : ∀ h', IsEnumOut h' e it ((i : Int) + 1) (.str ⟨#[c]⟩ s.toks) s.heap.objs.size → h'.IsStrIter it "str_ascii_iterator" x t (i + 1) →
      h'.get? s.heap.objs.size = some { cls := .type "tuple", data := .seq #[.int i (s.toks + 1), .str ⟨#[c]⟩ s.toks] } →
      (∀ b o, b ≠ e → b ≠ it → s.heap.get? b = some o → h'.get? b = some o) → Q (.ref s.heap.objs.size) { s with heap := h', toks := s.toks + 1 + 1 }) :
    wpAny (model prog w) A (Builtin.«enumerate.__next__» ⟨[.ref e], []⟩) (fun fin s' => ∃ v, fin = .done (.ret v) ∧ Q v s') E s := by
  obtain ⟨hp, g, d, tk, os⟩ := s
  show wpAny _ _ (field (.ref e) 2 >>= _) _ _ _
  refine wpAny_bind (wpAny_field he rfl (x := .ref it) rfl ?_)
  refine wpAny_bind (wpAny_nextOf_ascii_item hit hc fun h1 hit1 q1 => ?_)
  replace q1 : Heap.SameBut it hp h1 := q1
  have he1 : IsEnum h1 e it i old := (q1.2 e hne).trans he
  show wpAny _ _ (field (.ref e) 3 >>= _) _ _ ⟨h1, g, d, tk + 1, os⟩
  refine wpAny_bind (wpAny_field he1 rfl (x := rawInt i) rfl ?_)
  show wpAny _ _ (field (.ref e) 4 >>= _) _ _ ⟨h1, g, d, tk + 1, os⟩
  refine wpAny_bind (wpAny_field he1 rfl (x := .none) rfl ?_)
  show wpAny _ _ (mkInt i >>= _) _ _ ⟨h1, g, d, tk + 1, os⟩
  refine wpAny_bind (wpAny_mkInt ?_)
  show wpAny _ _ (setField (.ref e) 3 (rawInt ((i : Int) + 1)) >>= _) _ _ ⟨h1, g, d, tk + 1 + 1, os⟩
  refine wpAny_bind (wpAny_setField_rec he1 (by simp) fun h2 he2 q2 => ?_)
  replace q2 : Heap.SameBut e h1 h2 := q2
  replace he2 : IsEnum h2 e it ((i : Int) + 1) old := he2
  show wpAny _ _ (setField (.ref e) 4 .none >>= _) _ _ ⟨h2, g, d, tk + 1 + 1, os⟩
  refine wpAny_bind (wpAny_setField_rec he2 (by simp) fun h3 he3 q3 => ?_)
  replace q3 : Heap.SameBut e h2 h3 := q3
  replace he3 : IsEnum h3 e it ((i : Int) + 1) old := he3
  show wpAny _ _ (newTuple [.int i (tk + 1), .str ⟨#[c]⟩ tk] >>= _) _ _ ⟨h3, g, d, tk + 1 + 1, os⟩
  refine wpAny_bind (wpAny_newTuple ?_)
  have he4 : IsEnum (h3.push { cls := .type "tuple", data := .seq #[.int i (tk + 1), .str ⟨#[c]⟩ tk] }) e it ((i : Int) + 1) old := Heap.get?_push_of_some _ he3
  generalize hh4 : h3.push { cls := .type "tuple", data := .seq #[.int i (tk + 1), .str ⟨#[c]⟩ tk] } = h4 at he4
  have hsz : h3.objs.size = hp.objs.size := by rw [q3.1, q2.1, q1.1]
  have hel : e < hp.objs.size := Heap.lt_size he
  have tup4 : h4.get? hp.objs.size = some { cls := .type "tuple", data := .seq #[.int i (tk + 1), .str ⟨#[c]⟩ tk] } := by rw [← hh4, ← hsz]; exact Heap.get?_push_size _ rfl
  have keep4 : ∀ b o, b ≠ e → b ≠ it → hp.get? b = some o → h4.get? b = some o := fun b o n1 n2 y => by
    rw [← hh4]; exact Heap.get?_push_of_some _ (q3.extBut b o n1 (q2.extBut b o n1 (q1.extBut b o n2 y)))
  have hit4 : h4.IsStrIter it "str_ascii_iterator" x t (i + 1) := by
    rw [← hh4]
    obtain ⟨o, ho, r⟩ := (hit1.extBut q2.extBut (Ne.symm hne)).extBut q3.extBut (Ne.symm hne)
    exact ⟨o, Heap.get?_push_of_some _ ho, r⟩
  show wpAny _ _ (Builtin.SmallTypes.ownedTupleIsFree (.ref e) >>= _) _ _ ⟨h4, g, d, tk + 1 + 1, os⟩
  rw [hsz]
  clear hh4 he3 q3 he2 q2 he1 q1 hit1 hsz h3 h2 h1
  refine wpAny_bind ?_
  unfold Builtin.SmallTypes.ownedTupleIsFree
  refine wpAny_bind (wpAny_field he4 rfl (x := .none) rfl (wpAny_pure ?_))
  simp only [if_true]
  refine wpAny_bind (wpAny_rule ?_)
  refine wpAny_bind (wpAny_field he4 rfl (x := old) rfl ?_)
  refine wpAny_bind (wpAny_setField_rec he4 (by simp) fun h5 he5 q5 => ?_)
  replace q5 : Heap.SameBut e h4 h5 := q5
  replace he5 : IsEnum h5 e it ((i : Int) + 1) (.str ⟨#[c]⟩ tk) := he5
  show wpAny _ _ (Builtin.SmallTypes.ownedTupleHandOut (.ref e) (.ref hp.objs.size) >>= _) _ _ ⟨h5, g, d, tk + 1 + 1, os⟩
  refine wpAny_bind ?_
  unfold Builtin.SmallTypes.ownedTupleHandOut
  refine wpAny_bind (wpAny_setField_rec he5 (by simp) fun h6 he6 q6 => ?_)
  replace q6 : Heap.SameBut e h5 h6 := q6
  replace he6 : IsEnumOut h6 e it ((i : Int) + 1) (.str ⟨#[c]⟩ tk) hp.objs.size := he6
  refine wpAny_setField_rec he6 (by simp) fun h7 he7 q7 => ?_
  replace q7 : Heap.SameBut e h6 h7 := q7
  replace he7 : IsEnumOut h7 e it ((i : Int) + 1) (.str ⟨#[c]⟩ tk) hp.objs.size := he7
  have all : ∀ b o, b ≠ e → h4.get? b = some o → h7.get? b = some o := fun b o n y => q7.extBut b o n (q6.extBut b o n (q5.extBut b o n y))
  refine wpAny_bind (wpAny_letGo (wpAny_pure ⟨_, rfl, k h7 he7 ?_ (all _ _ (Nat.ne_of_gt hel) tup4) fun b o n1 n2 y => all b o n1 (keep4 b o n1 n2 y)⟩))
  obtain ⟨o, ho, r⟩ := hit4
  exact ⟨o, all it o (Ne.symm hne) ho, r⟩
theorem next_char {E : Value → Shared → Prop} {e it : Addr} {x : Str} {t : Tok} {i c : Nat} {old : Value} {Q : Option Value → Shared → Prop}
    (he : IsEnum s.heap e it i old) (hit : s.heap.IsStrIter it "str_ascii_iterator" x t i) (hc : x.cps[i]? = some c) (hne : e ≠ it)
    (k : ∀ h', IsEnumOut h' e it ((i : Int) + 1) (.str ⟨#[c]⟩ s.toks) s.heap.objs.size → h'.IsStrIter it "str_ascii_iterator" x t (i + 1) →
      h'.get? s.heap.objs.size = some { cls := .type "tuple", data := .seq #[.int i (s.toks + 1), .str ⟨#[c]⟩ s.toks] } →
      (∀ b o, b ≠ e → b ≠ it → s.heap.get? b = some o → h'.get? b = some o) → Q (some (.ref s.heap.objs.size)) { s with heap := h', toks := s.toks + 1 + 1 }) :
    wpAny (model prog w) A (pyNext (.ref e)) Q E s := by
  have hT : s.TypeIs (.ref e) "enumerate" := ⟨_, he, rfl⟩
  unfold pyNext
  exact wpAny_bind (wpAny_attempt (wpAny_callSpecial?_slot (name := Str.ofString "__next__") hT F.slot_enumerate_next
    (wpAny_call_entry F.slot_enumerate_next hT F.entry_enumerate_next
      (enum_char he hit hc hne fun h' a b c d => wpAny_pure (k h' a b c d)) (F.args_enumerate_next_1 _))))
theorem find_loop {E : Value → Shared → Prop} {Q : Flow → Shared → Prop} {xi xc : Str} {pk pv pt : Pos} {x1 : Nat} {body orelse : List Stmt} {e it : Addr} {x : Str} {t : Tok} {m : Str → Option Value} {news : List (Addr × Obj)} (J : Nat → Prop) (lo : Nat) (hh : A.handled = none)
    (hne : e ≠ it) (hxi : env.kindOf xi = some .local) (hxc : env.kindOf xc = some .local)
    (hp : (env.scope.kind == .class || (env.scope.kind == .module && env.locals != env.globals)) = false)
    (hL : env.locals ≠ e ∧ env.locals ≠ it) (hwr : h₀.get? e = none ∧ h₀.get? it = none) (hnw : ∀ p ∈ news, p.1 ≠ e ∧ p.1 ≠ it)
    (he : IsEnum s.heap e it 0 .none) (hit : s.heap.IsStrIter it "str_ascii_iterator" x t 0) (F : Fr h₀ env.locals s.heap m) (N : News h₀ env.locals s.heap news) (hlo : lo ≤ s.toks) (hJ0 : J 0) (hno : ∀ i, J i → i < x.cps.size)
    (step : ∀ (i c : Nat) u t h tk oe oi, x.cps[i]? = some c → lo ≤ u → u + 1 ≤ tk → J i → Fr h₀ env.locals h (fun y => if y = xc then some (.str ⟨#[c]⟩ u) else if y = xi then some (.int i t) else m y) → News h₀ env.locals h ((e, oe) :: (it, oi) :: news) →
      wpAny (model prog w) A (execs body env) (fun f s₃ => match f with
        | .ret v => Q (.ret v) s₃
        | .next => ∃ h' tk', s₃ = { s with heap := h', toks := tk' } ∧ lo ≤ tk' ∧ Fr h₀ env.locals h' (fun y => if y = xc then some (.str ⟨#[c]⟩ u) else if y = xi then some (.int i t) else m y) ∧ News h₀ env.locals h' ((e, oe) :: (it, oi) :: news) ∧ J (i + 1)
        | _ => False) E { s with heap := h, toks := tk })
    (hE : PassesOwn (model prog w) A env E := by passes_own) :
    codeAny (model prog w) A (.forLoop (.Tuple [.Name xi pk, .Name xc pv] x1 pt) (.ref e) body orelse env) (fun r s' => match r with | .ok f => Q f s' | .error e => cameBackBy (model prog w) A env E e s') s := by
  have old : ∀ b o, h₀.get? b = some o → b ≠ e ∧ b ≠ it := fun b o y => ⟨fun q => (by rw [q, hwr.1] at y; cases y), fun q => (by rw [q, hwr.2] at y; cases y)⟩
  refine codeAny_forLoop_any
    (fun k s' => ∃ h' tk m' i v, s' = { s with heap := h', toks := tk } ∧ lo ≤ tk ∧ IsEnum h' e it (i : Nat) v ∧ h'.IsStrIter it "str_ascii_iterator" x t i ∧ Fr h₀ env.locals h' m' ∧ News h₀ env.locals h' news ∧ (∀ z, z ≠ xi → z ≠ xc → m' z = m z) ∧ J i ∧ k = x.cps.size - i) ?_ x.cps.size
    ⟨s.heap, s.toks, m, 0, .none, rfl, hlo, he, hit, F, N, fun _ _ _ => rfl, hJ0, rfl⟩
  rintro k s' ⟨H, tk, m', i, v, rfl, htk, he', hit', F', N', hm', hJ, rfl⟩
  have hi := hno i hJ
  have carry : ∀ h₁ : Heap, (∀ b o, b ≠ e → b ≠ it → H.get? b = some o → h₁.get? b = some o) → Fr h₀ env.locals h₁ m' ∧ News h₀ env.locals h₁ news := fun h₁ hk₁ =>
    ⟨⟨F'.ns.at' fun o y => hk₁ _ o hL.1 hL.2 y, fun b o y => hk₁ b o (old b o y).1 (old b o y).2 (F'.keep b o y), F'.above⟩, fun p hp => ⟨hk₁ _ _ (hnw p hp).1 (hnw p hp).2 (N' p hp).1, (N' p hp).2⟩⟩
  refine next_char he' hit' (c := x.cps[i]) (by simp [hi]) hne fun h₁ ho₁ hit₁ hT₁ hk₁ => ?_
  have hTe : H.objs.size ≠ e := Nat.ne_of_gt (Heap.lt_size he')
  refine wpAny_letOwnedTupleGo_enum ho₁ fun h₂ he₂ hs₂ => ?_
  have ht₂ : h₂.IsTuple H.objs.size #[.int i (tk + 1), .str ⟨#[x.cps[i]]⟩ tk] := ⟨_, (hs₂.2 _ hTe).trans hT₁, rfl, _, rfl⟩
  refine wpAny_assign_Tuple hh ht₂ rfl rfl fun h₃ hx₃ => ?_
  replace hx₃ : Heap.ExtBut h₂.objs.size h₂ h₃ := hx₃
  have up₃ : ∀ b o, h₂.get? b = some o → h₃.get? b = some o := fun b o y => hx₃ b o (Nat.ne_of_lt (Heap.lt_size y)) y
  have he₃ : IsEnum h₃ e it ((i + 1 : Nat) : Int) (.str ⟨#[x.cps[i]]⟩ tk) := up₃ _ _ (by simpa using he₂)
  have hit₃ : h₃.IsStrIter it "str_ascii_iterator" x t (i + 1) := by
    obtain ⟨o, ho, r⟩ := hit₁
    exact ⟨o, up₃ _ _ ((hs₂.2 it (Ne.symm hne)).trans ho), r⟩
  obtain ⟨F₃, N₃⟩ := carry h₃ fun b o n1 n2 y => up₃ b o ((hs₂.2 b n1).trans (hk₁ b o n1 n2 y))
  show wpAny _ A (do holding [.str ⟨#[x.cps[i]]⟩ tk] (assign (.Name xi pk) env (.int i (tk + 1))); do holding [] (assign (.Name xc pv) env (.str ⟨#[x.cps[i]]⟩ tk)); pure ()) _ _ _
  refine wpAny_bind (wpAny_holding (wpAny_assign_Name (wpAny_storeName_local hxi F₃.ns (fun h₄ hn₄ hs₄ => ?_) hp)))
  replace hs₄ : Heap.SameBut env.locals h₃ h₄ := hs₄
  have F₄ := F₃.set hn₄ hs₄
  refine wpAny_bind (wpAny_holding (wpAny_assign_Name (wpAny_storeName_local hxc F₄.ns (fun h₅ hn₅ hs₅ => wpAny_pure ?_) hp)))
  replace hs₅ : Heap.SameBut env.locals h₄ h₅ := hs₅
  have F₅ := F₄.set hn₅ hs₅
  have N₅ : News h₀ env.locals h₅ news := (N₃.set hs₄).set hs₅
  have he₅ := (hs₅.2 e (Ne.symm hL.1)).trans ((hs₄.2 e (Ne.symm hL.1)).trans he₃)
  obtain ⟨oi, hoi, hri⟩ := hit₃
  have hoi₅ := (hs₅.2 it (Ne.symm hL.2)).trans ((hs₄.2 it (Ne.symm hL.2)).trans hoi)
  have F₅' : Fr h₀ env.locals h₅ (fun y => if y = xc then some (.str ⟨#[x.cps[i]]⟩ tk) else if y = xi then some (.int i (tk + 1)) else m y) := by
    refine Eq.mp (congrArg (Fr h₀ env.locals h₅) (funext fun y => ?_)) F₅
    by_cases e1 : y = xc
    · simp only [e1, if_true]
    · by_cases e2 : y = xi
      · simp only [e1, e2, if_true, if_false]
      · simp only [e1, e2, if_false]; exact hm' y e2 e1
  have N₅' : News h₀ env.locals h₅ ((e, _) :: (it, oi) :: news) := fun p hp => by
    rcases List.mem_cons.mp hp with rfl | hp
    · exact ⟨he₅, Ne.symm hL.1, hwr.1⟩
    · rcases List.mem_cons.mp hp with rfl | hp
      · exact ⟨hoi₅, Ne.symm hL.2, hwr.2⟩
      · exact N₅ p hp
  have hst := wpAny_passesOwn hE (step i x.cps[i] tk _ h₅ (tk + 1 + 1 + 1 + 1) _ _ (by simp [hi]) htk (by lia) hJ F₅' N₅')
  dsimp only
  refine wpAny_mono hst (fun f s₃ h₆ => ?_) fun _ _ e => e
  cases f with
  | ret v => exact h₆
  | brk => exact h₆.elim
  | cont => exact h₆.elim
  | next =>
    obtain ⟨h₆', tk₆, rfl, htk₆, F₆, N₆, hJ₆⟩ := h₆
    have := hno _ hJ₆
    exact ⟨x.cps.size - (i + 1), by lia, h₆', tk₆, _, i + 1, _, rfl, htk₆, (N₆ _ (.head _)).1, ⟨oi, (N₆ _ (.tail _ (.head _))).1, hri⟩, F₆, fun p hp => N₆ p (.tail _ (.tail _ hp)), fun z e2 e1 => by simp only [e1, e2, if_false], hJ₆, rfl⟩
end
theorem booked {w : World} {h : Heap} (X : (wpart.heap_1 w.params).In h) : NoneBooked h := by
  refine ⟨fun _ => none, ⟨{ cls := Value.none, data := Data.dict #[] }, #[], _, X cStatics _ ?_, rfl, fun e he => absurd he (Array.not_mem_empty e), fun _ => rfl⟩, rfl⟩
  with_unfolding_all rfl
theorem is_strs {M : Model} {A : Around} {E : Value → Shared → Prop} {s : Shared} {y z : Str} {u v : Tok} {Q : Value → Shared → Prop}
    (h0 : u ≠ 0) (h1 : v ≠ 0) (huv : u ≠ v) (hb : NoneBooked s.heap) (hq : ∀ b, (b = true → y = z) → Q (.bool b) s) : wpAny M A (compareOp .Is (.str y u) (.str z v)) Q E s := by
  show wpAny M A (do return .bool (← isSame.created (y == z) u v)) Q E s
  refine wpAny_bind ?_
  unfold isSame.created
  refine wpAny_ite ?_
  rw [if_neg (by simp [h0, h1])]
  refine wpAny_ite ?_
  rw [if_neg (by simp [huv])]
  refine wpAny_ite ?_
  by_cases hyz : y = z
  · rw [if_neg (by simp [hyz])]
    refine wpAny_bind (wpAny_sharingNotTold_none hb ?_)
    first | rw [if_neg Bool.false_ne_true] | simp only [Bool.false_eq_true, if_false]
    refine wpAny_bind (wpAny_sharingNotTold_none hb ?_)
    first | rw [if_neg Bool.false_ne_true] | simp only [Bool.false_eq_true, if_false]
    exact wpAny_bind (wpAny_rule (wpAny_bind (wpAny_askSetting (wpAny_pure (wpAny_pure (hq _ fun _ => hyz))))))
  · rw [if_pos (by simp [hyz])]
    exact wpAny_pure (wpAny_pure (hq _ fun h => absurd h Bool.false_ne_true))
set_option autoImplicit true in
theorem st64 (h : wpAny z1 z2 (call (Value.type "enumerate") z3) z4 z5 z6) : wpAny z1 z2 (call (Value.type "enumerate") z3) z4 z5 z6 := h
set_option autoImplicit true in
theorem st65 (h : wpAny z1 z2 (compareOp CmpOp.Is z3 z4) z5 z6 z7) : wpAny z1 z2 (compareOp CmpOp.Is z3 z4) z5 z6 z7 := h
local macro_rules | `(tactic| walk_at "STOP") => `(tactic| with_reducible (first | refine st64 ?_ | refine st65 ?_))
theorem iter_ascii {h : Heap} {a : Addr} {ta : Tok} {i : Nat} (hI : h.IsStrIter a (strIterType (Str.ofString "atx123")) (Str.ofString "atx123") ta i) : h.IsStrIter a "str_ascii_iterator" (Str.ofString "atx123") ta i := by
  rwa [show strIterType (Str.ofString "atx123") = "str_ascii_iterator" from by decide +kernel] at hI
noncomputable def a6 : Str := Str.ofString "atx123"
theorem idx_is {c : Str} {k i z : Nat} (hkn : ∀ j, j < k → ∀ z, a6.cps[j]? = some z → c ≠ ⟨#[z]⟩) (hJ : i ≤ k) (hz : (Str.ofString "atx123").cps[i]? = some z) (hc : c = ⟨#[z]⟩) : i = k := by
  rcases Nat.lt_or_eq_of_le hJ with q | q
  · exact absurd hc (hkn i q z hz)
  · exact q
theorem idx_not {c : Str} {k i z : Nat} (hkc : ∃ z, a6.cps[k]? = some z ∧ c = ⟨#[z]⟩) (hJ : i ≤ k) (hz : (Str.ofString "atx123").cps[i]? = some z) (hc : ¬ (⟨#[z]⟩ : Str) = c) : i + 1 ≤ k := by
  rcases Nat.lt_or_eq_of_le hJ with q | q
  · exact q
  · subst q
    obtain ⟨z', h1, h2⟩ := hkc
    have h3 : some z = some z' := hz.symm.trans h1
    rw [Option.some.inj h3] at hc
    exact absurd h2.symm hc
local macro_rules | `(tactic| walk_at "execs cons") => `(tactic| ((with_reducible refine wpAny_execs_cons ?_); try dsimp only))
theorem index_spec {w : World} {V : Program} {lo : List Str} {mean : ExcName → Option Value} {mg mb : Str → Option Value}
  (dp un : Nat) (gd : Option (List Code)) (cn : Str) (cs : Scope) (a : Addr) (ccd : Value) (cl : List (Str × Addr)) (outer : List Env) (A₀ : Around) (base h₀ : Heap) (L : Addr) (m : Str → Option Value) (news : List (Addr × Obj)) (s : Shared) (Q E : Value → Shared → Prop)
  (ta tc : Tok) (c : Str) (k : Nat)
  (B : Below A₀ base outer h₀) (F : Fr h₀ L s.heap m) (X : (wpart.heap_1 w.params).In h₀) (N : News h₀ L s.heap news) (T : Top V lo mean mg mb h₀) (hk : cs.kind = .function)
  (htc : 0 < tc) (hts : tc < s.toks) (hk0 : k < 6) (hkc : ∃ z, a6.cps[k]? = some z ∧ c = ⟨#[z]⟩) (hkn : ∀ j, j < k → ∀ z, a6.cps[j]? = some z → c ≠ ⟨#[z]⟩) (hd : dp + 3 < recursionLimit) (hu : un + 200 < cLine)
  (hret : ∀ h' tk' t, Fr h₀ L h' m → News h₀ L h' news → Q (.int (k : Int) t) { s with heap := h', toks := tk' }) :
  wpAny (model PR w) (ktrTop dp un gd cn cs L a ccd cl outer) (call (.ref 70) [.str (Str.ofString "atx123") ta, .str c tc]) Q E s := by
  refine wpAny_call ?_
  k_dflt cell_enter
  walk_at "GO"
  refine wpAny_For ?_ ?hs
  case hs => intro x; rfl
  walk_at "GO"
  refine call_enumerate_str fun h' hE hI hsz hkp => ?_
  walk_at "GO"
  refine wpAny_pyIter_enum hE ?_
  rename Fr _ _ _ _ => lF'
  rename News _ _ _ _ => lN'
  have hE' : IsEnum h' _ _ 0 .none := hE
  have hI' := iter_ascii hI
  have kF := lF'.keeps hkp
  have kN := lN'.grown hkp
  have hLlt := lF'.ns.lt
  have hNlt : ∀ p ∈ news, p.1 < _ := fun p hp => Heap.lt_size (lN' p hp).1
  refine find_loop (fun i => i ≤ k) (tc + 1) (by first | assumption | rfl) (Nat.succ_ne_self _) rfl rfl rfl ⟨ktu_ne 1 hLlt, Nat.ne_of_lt hLlt⟩ ⟨ktu_new lF' (Nat.le_add_right _ _), ktu_new lF' (Nat.le_refl _)⟩ (fun p hp => ⟨ktu_ne 1 (hNlt p hp), Nat.ne_of_lt (hNlt p hp)⟩) hE' hI' kF kN ?hlo (Nat.zero_le _) ?hno ?step
  case hlo => exact Nat.le_trans hts (Nat.le_add_right _ _)
  case hno =>
    intro i hi
    have : (Str.ofString "atx123").cps.size = 6 := by decide +kernel
    rw [this]
    omega
  case step =>
    clear lF' lN' kF kN hE hE' hI hI' hkp hLlt hNlt
    intro i z u t h tk oe oi hz hu htk hJ F1 N1
    walk_at "GO"
    rename Frag.In _ _ => kX
    refine is_strs (Nat.ne_of_gt (Nat.lt_of_lt_of_le (Nat.succ_pos tc) hu)) (Nat.ne_of_gt htc) (Nat.ne_of_gt hu) (booked (kX.keeps F1.keep)) ?_
    intro b hb
    cases b with
    | true =>
      have hcz := (hb rfl).symm
      walk_at "GO"
      rw [idx_is hkn hJ hz hcz]
      exact hret _ _ _ (by assumption) (fun p hp => by rename News _ _ _ _ => nE; exact nE p (.tail _ (.tail _ hp)))
    | false =>
      clear hb
      walk_at "GO"
      · have hcz : c = ⟨#[z]⟩ := by first | (exact (of_decide_eq_true (by assumption))) | (symm; assumption) | exact (eq_of_beq (by assumption)).symm
        rw [idx_is hkn hJ hz hcz]
        exact hret _ _ _ (by assumption) (fun p hp => by rename News _ _ _ _ => nE; exact nE p (.tail _ (.tail _ hp)))
      · exact F1
      · exact N1
      · refine idx_not hkc hJ hz ?_
        first | assumption | (intro q; have z9 := beq_iff_eq.mpr q; simp_all)
end I1
namespace S1
open Mine.I1 (a6 index_spec)
noncomputable def tokT : List (Str × Int) := [(Str.ofString "!", 54), (Str.ofString "!=", 28), (Str.ofString "%", 24), (Str.ofString "%=", 40), (Str.ofString "&", 19), (Str.ofString "&=", 41), (Str.ofString "(", 7), (Str.ofString ")", 8), (Str.ofString "*", 16), (Str.ofString "**", 35), (Str.ofString "**=", 46), (Str.ofString "*=", 38), (Str.ofString "+", 14), (Str.ofString "+=", 36), (Str.ofString ",", 12), (Str.ofString "-", 15), (Str.ofString "-=", 37), (Str.ofString "->", 51), (Str.ofString ".", 23), (Str.ofString "...", 52), (Str.ofString "/", 17), (Str.ofString "//", 47), (Str.ofString "//=", 48), (Str.ofString "/=", 39), (Str.ofString ":", 11), (Str.ofString ":=", 53), (Str.ofString ";", 13), (Str.ofString "<", 20), (Str.ofString "<<", 33), (Str.ofString "<<=", 44), (Str.ofString "<=", 29), (Str.ofString "=", 22), (Str.ofString "==", 27), (Str.ofString ">", 21), (Str.ofString ">=", 30), (Str.ofString ">>", 34), (Str.ofString ">>=", 45), (Str.ofString "@", 49), (Str.ofString "@=", 50), (Str.ofString "[", 9), (Str.ofString "]", 10), (Str.ofString "^", 32), (Str.ofString "^=", 43), (Str.ofString "{", 25), (Str.ofString "|", 18), (Str.ofString "|=", 42), (Str.ofString "}", 26), (Str.ofString "~", 31)]
@[irreducible] noncomputable def TKI (x : Str) : Option Int := tokT.lookup x
noncomputable def TRel : List DictEntry → List (Str × Int) → Prop
  | [], [] => True
  | e :: r, p :: q => (∃ t u, e.key = .str p.1 t ∧ e.val = .int p.2 u) ∧ TRel r q
  | _, _ => False
theorem trel_find {x : Str} : ∀ {l : List DictEntry} {q : List (Str × Int)}, TRel l q → match q.lookup x with
    | none => l.find? (fun d => Value.isStrOf x d.key) = none
    | some i => ∃ e u, l.find? (fun d => Value.isStrOf x d.key) = some e ∧ e.val = .int i u
  | [], [], _ => rfl
  | [], _ :: _, h => h.elim
  | _ :: _, [], h => h.elim
  | e :: r, (k, i) :: q, ⟨⟨t, u, h1, h2⟩, h3⟩ => by
    have ih := trel_find (x := x) h3
    by_cases hk : x = k
    · subst hk
      rw [List.lookup_cons_self]
      refine ⟨e, u, ?_, h2⟩
      rw [List.find?_cons_of_pos]
      rw [h1]
      show (x == x) = true
      exact beq_self_eq_true x
    · have e1 : (x == k) = false := beq_eq_false_iff_ne.mpr hk
      rw [List.lookup_cons, e1]
      have e2 : Value.isStrOf x e.key = false := by
        rw [h1]
        first | exact beq_eq_false_iff_ne.mpr (fun q => hk q) | exact beq_eq_false_iff_ne.mpr (fun q => hk q.symm)
      rw [List.find?_cons_of_neg (by rw [e2]; decide)]
      exact ih
theorem trel_by {es : Array DictEntry} {x : Str} (h : TRel es.toList tokT) : match TKI x with
    | none => findBy Value.isStrOf es x = none
    | some i => ∃ u, findBy Value.isStrOf es x = some (.int i u) := by
  obtain ⟨l⟩ := es
  have h := trel_find (x := x) h
  unfold TKI findBy
  rw [List.find?_toArray]
  cases hq : tokT.lookup x with
  | none => rw [hq] at h; dsimp only at h ⊢; rw [h]; rfl
  | some i =>
    rw [hq] at h
    obtain ⟨e, u, h1, h2⟩ := h
    dsimp only
    rw [h1]
    exact ⟨u, congrArg some h2⟩
theorem tok_dict (w : World) : ∃ es n, (wpart.heap_1 w.params).lookup 92 = some ⟨.type "dict", none, .dict es n, #[]⟩ ∧ KeysLit w.params es.toList ∧ ∀ x, match TKI x with
    | none => findBy Value.isStrOf es x = none
    | some i => ∃ u, findBy Value.isStrOf es x = some (.int i u) := by
  refine' ⟨?es, ?n, ?a, ?b, ?c⟩
  case a => with_unfolding_all exact rfl
  case b => k_keys
  case c =>
    intro x
    exact trel_by (by unfold tokT; repeat (first | exact True.intro | refine And.intro ⟨_, _, rfl, rfl⟩ ?_))
section
variable {w : World} {A : Around} {E : Value → Shared → Prop} {s : Shared} {h₀ : Heap} {L : Addr} {m : Str → Option Value} {x : Str} {t : Tok} {Q : Value → Shared → Prop}
theorem tok_notin (F : Fr h₀ L s.heap m) (X : (wpart.heap_1 w.params).In h₀) (h : Q (.bool (TKI x).isNone) { s with toks := s.toks + 1 }) : wpAny (model PR w) A (compareOp .NotIn (.str x t) (.ref 92)) Q E s := by
  obtain ⟨es, n, hl, hk, hf⟩ := tok_dict w
  refine wpAny_notIn_of (strKind_is PR w x t) (by decide +kernel) (mapOf_K (prog := PR) (X.keeps F.keep) hl hk) ?_
  have hx := hf x
  cases hq : TKI x with
  | none => rw [hq] at hx h; dsimp only at hx; rw [hx]; exact h
  | some i => rw [hq] at hx h; obtain ⟨u, hx⟩ := hx; rw [hx]; exact h
theorem tok_item {value slice : PySem.Expr} {i : Int} (F : Fr h₀ L s.heap m) (X : (wpart.heap_1 w.params).In h₀) (hi : TKI x = some i) (h : ∀ u, Q (.int i u) { s with toks := s.toks + 1 })
    (hs : subscripted slice false (.ref 92) (.str x t) = operate [.ref 92, .str x t] (getItem (.ref 92) (.str x t)) := by with_unfolding_all rfl) :
    wpAny (model PR w) A (subscriptTail value slice (.ref 92) (.str x t)) Q E s := by
  obtain ⟨es, n, hl, hk, hf⟩ := tok_dict w
  have hx := hf x
  rw [hi] at hx
  obtain ⟨u, hx⟩ := hx
  have hm := mapOf_K (prog := PR) (X.keeps F.keep) hl hk
  exact tail_any hm.typeIs slot_dict_getitem.lookup (wpAny_getItem_of (strKind_is PR w x t) hm hx (h u)) hs
end
@[irreducible] noncomputable def idx6 (c : Str) : Option Nat := match c.cps.toList with
  | [z] => a6.cps.toList.findIdx? (· == z)
  | _ => none
theorem idx6_ok {c : Str} {k : Nat} (h : idx6 c = some k) : k < 6 ∧ (∃ z, a6.cps[k]? = some z ∧ c = ⟨#[z]⟩) ∧ (∀ j, j < k → ∀ z, a6.cps[j]? = some z → c ≠ ⟨#[z]⟩) := by
  obtain ⟨⟨l⟩⟩ := c
  unfold idx6 at h
  split at h
  · rename_i z hz
    dsimp only at hz
    subst hz
    obtain ⟨h1, h2, h3⟩ := List.findIdx?_eq_some_iff_getElem.mp h
    have h6 : a6.cps.toList.length = 6 := by decide +kernel
    refine ⟨by lia, ⟨z, ?_, rfl⟩, fun j hj z' hz' he => ?_⟩
    · rw [← Array.getElem?_toList, List.getElem?_eq_getElem h1, eq_of_beq h2]
    · have h4 := h3 j hj
      rw [← Array.getElem?_toList, List.getElem?_eq_getElem (by lia)] at hz'
      have e1 : z = z' := by
        have := congrArg (fun s : Str => s.cps.toList) he
        simpa using this
      rw [Option.some.inj hz', e1] at h4
      simp at h4
  · cases h
@[irreducible] noncomputable def innerF (text : Str) (p : Nat) : Nat → Nat
  | 0 => 0
  | z + 1 => if (TKI (Txt.slice text (some (p : Int)) (some ((p : Int) + ((z + 1 : Nat) : Int))))).isNone = true then innerF text p z else z + 1
theorem innerF_le (text : Str) (p : Nat) : ∀ z, innerF text p z ≤ z
  | 0 => by rw [innerF.eq_1]; exact Nat.le_refl _
  | z + 1 => by
    unfold innerF
    split
    · exact Nat.le_succ_of_le (innerF_le text p z)
    · exact Nat.le_refl _
theorem innerF_miss {text : Str} {p z : Nat} (hz : 0 < z) (h : (TKI (Txt.slice text (some (p : Int)) (some ((p : Int) + (z : Int))))).isNone = true) : innerF text p (z - 1) = innerF text p z := by
  obtain ⟨y, rfl⟩ := Nat.exists_eq_succ_of_ne_zero (Nat.ne_of_gt hz)
  rw [show innerF text p (y.succ) = _ from innerF.eq_2 text p y, if_pos h]
  rfl
theorem innerF_hit {text : Str} {p z : Nat} (hz : 0 < z) (h : (TKI (Txt.slice text (some (p : Int)) (some ((p : Int) + (z : Int))))).isNone = false) : innerF text p z = z := by
  obtain ⟨y, rfl⟩ := Nat.exists_eq_succ_of_ne_zero (Nat.ne_of_gt hz)
  rw [show innerF text p (y.succ) = _ from innerF.eq_2 text p y, if_neg (by rw [h]; exact Bool.false_ne_true)]
theorem innerF_zero (text : Str) (p : Nat) : innerF text p 0 = 0 := innerF.eq_1 text p
noncomputable def lexF (text : Str) : Nat → Nat → Option (List Int)
  | 0, p => if text.length ≤ p then some [] else none
  | n + 1, p => if text.length ≤ p then some [] else
    if innerF text p 3 = 0 then
      match idx6 (Txt.item text (p : Int)) with
      | none => none
      | some k => (lexF text n (p + 1)).map fun r => (256 + (k : Int)) :: r
    else
      match TKI (Txt.slice text (some (p : Int)) (some ((p : Int) + ((innerF text p 3 : Nat) : Int)))) with
      | none => none
      | some v => (lexF text n (p + innerF text p 3)).map fun r => v :: r
theorem lexF_done {text : Str} {n p : Nat} {r : List Int} (h : lexF text n p = some r) (hp : ¬ p < text.length) : r = [] := by
  have hle : text.length ≤ p := Nat.le_of_not_lt hp
  cases n with
  | zero => rw [lexF, if_pos hle] at h; exact (Option.some.inj h).symm
  | succ n => rw [lexF, if_pos hle] at h; exact (Option.some.inj h).symm
theorem lexF_char {text : Str} {n p : Nat} {r : List Int} (h : lexF text n p = some r) (hp : p < text.length) (hz : innerF text p 3 = 0) :
    ∃ n' k r', idx6 (Txt.item text (p : Int)) = some k ∧ lexF text n' (p + 1) = some r' ∧ r = (256 + (k : Int)) :: r' := by
  have hle : ¬ text.length ≤ p := Nat.not_le.mpr hp
  cases n with
  | zero => rw [lexF, if_neg hle] at h; cases h
  | succ n =>
    rw [lexF, if_neg hle, if_pos hz] at h
    split at h
    · cases h
    · rename_i k hk
      obtain ⟨r', h1, h2⟩ := Option.map_eq_some_iff.mp h
      exact ⟨n, k, r', hk, h1, h2.symm⟩
theorem lexF_tok {text : Str} {n p z : Nat} {r : List Int} (h : lexF text n p = some r) (hp : p < text.length) (hz : innerF text p 3 = z) (hz0 : z ≠ 0) :
    ∃ n' v r', TKI (Txt.slice text (some (p : Int)) (some ((p : Int) + (z : Int)))) = some v ∧ lexF text n' (p + z) = some r' ∧ r = v :: r' := by
  have hle : ¬ text.length ≤ p := Nat.not_le.mpr hp
  cases n with
  | zero => rw [lexF, if_neg hle] at h; cases h
  | succ n =>
    subst hz
    rw [lexF, if_neg hle, if_neg hz0] at h
    split at h
    · cases h
    · rename_i v hv
      obtain ⟨r', h1, h2⟩ := Option.map_eq_some_iff.mp h
      exact ⟨n, v, r', hv, h1, h2.symm⟩
structure LexOk (text : Str) (syms : List Int) (k : Nat) (ns : List Int) : Prop where
  len : ns.length ≤ k
  top : k ≤ text.length + 2
  go : ∃ n r, lexF text n k = some r ∧ ns ++ r = syms
theorem lex_next {text : Str} {syms : List Int} {k z n : Nat} {ns r : List Int} {v : Int} (h1 : ns.length ≤ k) (h2 : k ≤ text.length + 2) (hz : 0 < z) (hz3 : z ≤ 3) (hk : k < text.length) (hl : lexF text n (k + z) = some r) (hs : ns ++ v :: r = syms) : LexOk text syms (k + z) (ns ++ [v]) := by
  refine ⟨?_, ?_, n, r, hl, ?_⟩
  · rw [List.length_append, List.length_singleton]; lia
  · lia
  · rw [← hs, List.append_assoc]; rfl
local macro_rules | `(tactic| walk_at "subscriptTail Name Slice str ref") => `(tactic| ((with_reducible rename Fr _ _ _ _ => F'); (with_reducible rename News _ _ _ _ => N'); (refine slice_strN_ss (hsz := ?hsz) (s := ⟨_, _, _, _, _⟩) F' N' ?_); (case hsz => (rw [sizeLine_eq]; omega)); intro h' t' k' F' N'))
local macro_rules | `(tactic| walk_at "compareOp NotIn str ref") => `(tactic| refine tok_notin (by assumption) (by assumption) ?_)
set_option autoImplicit true in
theorem st66 (h : wpAny z1 z2 (subscriptTail z3 z4 (Value.ref 92) z5) z6 z7 z8) : wpAny z1 z2 (subscriptTail z3 z4 (Value.ref 92) z5) z6 z7 z8 := h
set_option autoImplicit true in
theorem st67 (h : wpAny z1 z2 (call (Value.ref 70) z3) z4 z5 z6) : wpAny z1 z2 (call (Value.ref 70) z3) z4 z5 z6 := h
set_option autoImplicit true in
theorem st68 (h : wpAny z1 z2 (subscriptTail z3 (Expr.Name z4 z5) (Value.str z6 z7) z8) z9 z10 z11) : wpAny z1 z2 (subscriptTail z3 (Expr.Name z4 z5) (Value.str z6 z7) z8) z9 z10 z11 := h
local macro_rules | `(tactic| walk_at "STOP") => `(tactic| with_reducible (first | refine st66 ?_ | refine st67 ?_ | refine st68 ?_))
theorem sym_spec {w : World} {V : Program} {lo : List Str} {mean : ExcName → Option Value} {mg mb : Str → Option Value}
  (dp un : Nat) (gd : Option (List Code)) (cn : Str) (cs : Scope) (a : Addr) (ccd : Value) (cl : List (Str × Addr)) (outer : List Env) (A₀ : Around) (base h₀ : Heap) (L : Addr) (m : Str → Option Value) (news : List (Addr × Obj)) (s : Shared) (Q E : Value → Shared → Prop)
  (tt : Tok) (text : Str) (syms : List Int)
  (B : Below A₀ base outer h₀) (F : Fr h₀ L s.heap m) (X : (wpart.heap_1 w.params).In h₀) (N : News h₀ L s.heap news) (T : Top V lo mean mg mb h₀) (hk : cs.kind = .function)
  (hw : text.length ≤ 100) (hlex : lexF text 40 0 = some syms) (hd : dp + 5 < recursionLimit) (hu : un + 300 < cLine)
  (hret : ∀ l ws n h' tk', Fr h₀ L h' m → News h₀ L h' ((l, W.listOf ws.toArray n) :: news) → IntsAre ws (syms ++ [0]) → (∀ p ∈ news, p.1 < l) → Q (.ref l) { s with heap := h', toks := tk' }) :
  wpAny (model PR w) (ktrTop dp un gd cn cs L a ccd cl outer) (call (.ref 129) [.str text tt]) Q E s := by
  refine wpAny_call ?_
  k_dflt cell_enter
  walk_at "GO"
  rename Fr _ _ _ _ => lF'
  rename News _ _ _ _ => lN'
  refine nm1 lN' fun l9 e9 => ?_
  subst e9
  refine' ksw_whileP (σ := Int × List Value × List Int × Nat × Nat)
    (fun c => (l9, W.listOf c.2.1.toArray c.2.2.2.1) :: news) (fun c => [(Str.ofString "place", Value.int c.1 c.2.2.2.2)]) (fun c => IntsAre c.2.1 c.2.2.1) [Str.ofString "size"]
    (fun c => 0 ≤ c.1 ∧ LexOk text syms c.1.toNat c.2.2.1) (fun c => text.length - c.1.toNat) (0, [], [], _, _) lF' lN' ?ff ?kk ?pp ?turn
  case ff => exact .nil
  case kk => kst_all
  case pp => exact ⟨Int.le_refl _, Nat.le_refl _, Nat.zero_le _, 40, syms, hlex, rfl⟩
  case turn =>
    clear lF' lN'
    rintro ⟨k, ms, ns, nn, tp⟩ u h tk PQ1 hF hP F1 N1 hPQ1
    dsimp only at hF hP N1
    dsimp only [kstB] at F1
    have kMark := kstMark
    have hml := hF.length
    obtain ⟨hP0, hP⟩ := hP
    obtain ⟨k, rfl⟩ := Int.eq_ofNat_of_zero_le hP0
    rw [Int.toNat_natCast] at hP
    obtain ⟨hP1, hP2, nf, rest, hP3, hP4⟩ := hP
    walk_at "GO"
    · have hlt : k < text.length := by omega
      rename Fr _ _ _ _ => lF'
      rename News _ _ _ _ => lN'
      refine' ksw_whileP (σ := Int × Nat)
        (fun c => (l9, W.listOf ms.toArray nn) :: news) (fun c => [(Str.ofString "size", Value.int c.1 c.2)]) (fun c => True) []
        (fun c => (0 ≤ c.1 ∧ c.1 ≤ 3) ∧ innerF text k c.1.toNat = innerF text k 3) (fun c => c.1.toNat) (3, _) lF' lN' trivial ?kk ?pp ?turn
      case kk => kst_all
      case pp => exact ⟨⟨by omega, Int.le_refl _⟩, rfl⟩
      case turn =>
        clear lF' lN'
        rintro ⟨z, tz⟩ u h tk PQ2 _ ⟨⟨hP7, hP5⟩, hP6⟩ F1 N1 hPQ2
        dsimp only at hP5 hP6 hP7 N1
        obtain ⟨z, rfl⟩ := Int.eq_ofNat_of_zero_le hP7
        rw [Int.toNat_natCast] at hP6
        dsimp only [kstB] at F1
        have kMark := kstMark
        walk_at "GO"
        · have hz0 : 0 < z := by omega
          have hms := innerF_miss hz0 (by assumption)
          rename News _ _ _ _ => nE
          refine hPQ2 _ (ksw_end ⟨_, _⟩ (by assumption) nE (by first | kst_in | kst_inAny) trivial (by kst_all) (by ksw_same) ⟨⟨by omega, by omega⟩, ?_⟩ ?_)
          · dsimp only
            rw [show ((z : Int) - 1).toNat = z - 1 from by omega, hms]
            exact hP6
          · dsimp only; omega
        · exfalso; omega
        · have hz0 : 0 < z := by omega
          have hh := innerF_hit hz0 (by assumption)
          have h3 : innerF text k 3 = z := hP6.symm.trans hh
          obtain ⟨n', v, r', h4, h5, h6⟩ := lexF_tok hP3 hlt h3 (Nat.ne_of_gt hz0)
          refine tok_item (by assumption) (by assumption) h4 ?_ (by with_unfolding_all rfl)
          intro u9
          walk_at "GO"
          rename News _ _ _ _ => nE
          (try simp only [List.push_toArray] at nE)
          refine hPQ1 _ (ksw_end ⟨_, _, _, _, _⟩ (by assumption) nE (by first | kst_in | kst_inAny) (by kst_facts) (by kst_all) (by ksw_same) ⟨by omega, ?_⟩ ?_)
          · dsimp only
            rw [show ((k : Int) + (z : Int)).toNat = k + z from by omega]
            exact lex_next hP1 hP2 (by omega) (by omega) hlt h5 (by rw [← hP4, h6])
          · dsimp only; omega
        · have h3 : innerF text k 3 = 0 := by
            rw [← hP6, show z = 0 by omega]
            exact innerF_zero text k
          obtain ⟨n', i, r', h4, h5, h6⟩ := lexF_char hP3 hlt h3
          obtain ⟨hi1, hi2, hi3⟩ := idx6_ok h4
          refine item_str (fitsSsize_of (N := 9223372036854775808) (by omega) (by omega) (Int.le_refl _)) (by omega) (by show (k : Int) < (text.length : Int); omega) ?_ (by with_unfolding_all rfl)
          intro _
          walk_at "GO"
          refine' index_spec (dp + 1) (un + 3) _ _ _ _ _ [] (envX cn cs L a ccd cl :: outer) _ base _ _ _ _ _ _ _ _ _ _ i ?B ?F ?X ?N ?T ?hk (Nat.succ_pos _) (Nat.lt_succ_self _) hi1 hi2 hi3 ?hd ?hu ?hret
          case B => assumption
          case F => assumption
          case X => assumption
          case N => assumption
          case T => assumption
          case hk => exact rfl
          case hd => omega
          case hu => omega
          intro h' tk' t9 F' N'
          walk_at "GO"
          rename News _ _ _ _ => nE
          (try simp only [List.push_toArray] at nE)
          refine hPQ1 _ (ksw_end ⟨_, _, _, _, _⟩ (by assumption) nE (by first | kst_in | kst_inAny) (by kst_facts) (by kst_all) (by ksw_same) ⟨by omega, ?_⟩ ?_)
          · dsimp only
            rw [show ((k : Int) + 1).toNat = k + 1 from by omega]
            exact lex_next hP1 hP2 (by omega) (by omega) hlt h5 (by rw [← hP4, h6])
          · dsimp only; omega
        · exfalso; omega
    · have hr : rest = [] := lexF_done hP3 (by omega)
      rw [hr, List.append_nil] at hP4
      rename Fr _ _ _ _ => kF
      rename News _ _ _ _ => kN
      exact hret _ _ _ _ _ kF (news_drop2 kN) (by rw [← hP4]; assumption) (by walk_at "LT")
theorem lex_20 : lexF (Str.ofString "x*=2-a*x") 40 0 = some [258, 38, 260, 15, 256, 16, 258] := by decide +kernel
theorem lex_21 : lexF (Str.ofString "t=1-a*x;x+=x*t") 40 0 = some [257, 22, 259, 15, 256, 16, 258, 13, 258, 36, 258, 16, 257] := by decide +kernel
theorem lex_22 : lexF (Str.ofString "t=a*x-1;x-=x*t") 40 0 = some [257, 22, 256, 16, 258, 15, 259, 13, 258, 37, 258, 16, 257] := by decide +kernel
theorem lex_30 : lexF (Str.ofString "t=a*x;x*=3-t*(3-t)") 40 0 = some [257, 22, 256, 16, 258, 13, 258, 38, 261, 15, 257, 16, 7, 261, 15, 257, 8] := by decide +kernel
theorem lex_31 : lexF (Str.ofString "t=1-a*x;x+=x*t+x*t*t") 40 0 = some [257, 22, 259, 15, 256, 16, 258, 13, 258, 36, 258, 16, 257, 14, 258, 16, 257, 16, 257] := by decide +kernel
theorem lex_32 : lexF (Str.ofString "t=a*x-1;x-=(x-x*t)*t") 40 0 = some [257, 22, 256, 16, 258, 15, 259, 13, 258, 37, 7, 258, 15, 258, 16, 257, 8, 16, 257] := by decide +kernel
end S1
namespace T3
section
variable {M : Model} {A : Around} {R : GenEnd} {Y : Protocol} {n : Nat} {s₀ : Shared} {c : Code} {fs : List Frame} {s : Shared} {env : Env} {K : Flow → Sem Fin} {H : Value → Sem Fin} {gd : Bool → Bool} {lv : List Value → List Value}
noncomputable abbrev EF : Value → Shared → Prop := fun _ _ => False
theorem seg_stmt {st : Stmt} (h : wpAny M (A.over c fs) (exec st env) (fun f s' => Seg M A R Y n s₀ c (K f) fs s') EF s) : Seg M A R Y n s₀ c ((exec st env).wrap K H gd lv) fs s :=
  seg_wrap (wpAny_mono h (fun _ _ x => x) fun _ _ x => x.elim)
theorem seg_if {test : PySem.Expr} {body orelse : List Stmt} {pos : Pos}
    (h : wpAny M (A.over c fs) (isTrue test env (eval test env)) (fun b s' => Seg M A R Y n s₀ c ((if b = true then execs body env else execs orelse env).wrap K H gd lv) fs s') EF s) :
    Seg M A R Y n s₀ c ((exec (.If test body orelse pos) env).wrap K H gd lv) fs s := by
  rw [exec_If]
  refine seg_at ?_
  show Seg M A R Y n s₀ c ((isTrue test env (eval test env) >>= fun b => if b = true then execs body env else execs orelse env).wrap K H gd lv) fs s
  rw [Sem.bind_eq_wrap', Sem.wrap_wrap]
  exact seg_wrap (wpAny_mono h (fun _ _ x => x) fun _ _ x => x.elim)
theorem seg_for {target iter : PySem.Expr} {body orelse : List Stmt} {pos : Pos} (hs : ∀ x, foldedSetIterable iter env x = pure x)
    (h : wpAny M (A.over c fs) (eval iter env) (fun x s₁ => wpAny M (A.over c fs) (pyIter x) (fun it s₂ => ∀ p, Seg M A R Y n s₀ (.forLoop target it body orelse env) (M.den (.forLoop target it body orelse env))
      (.ret (fun r => ((match r with | .ok f => (.pure f : Sem Flow) | .error e => .raise e).onRaise fun (x : Value) => do
        if (← field x 1) == Value.none then unsupported "frame.own-activation:exception-without-traceback"
        setFlight x env.frame).wrap K H gd lv) none (gd false) (lv []) c p [] :: fs) s₂) EF s₁) EF s) :
    Seg M A R Y n s₀ c ((exec (.For target iter body orelse pos) env).wrap K H gd lv) fs s := by
  rw [exec_For]
  refine seg_at ?_
  show Seg M A R Y n s₀ c ((eval iter env >>= fun y => foldedSetIterable iter env y >>= fun x => standAt iter.pos >>= fun _ => holding [x] (pyIter x) >>= fun it => runOwn (.forLoop target it body orelse env) env).wrap K H gd lv) fs s
  rw [Sem.bind_eq_wrap', Sem.wrap_wrap]
  refine seg_wrap (wpAny_mono h (fun x s₁ h₁ => ?_) fun _ _ x => x.elim)
  show Seg M A R Y n s₀ c ((foldedSetIterable iter env x >>= _).wrap K H gd lv) fs s₁
  rw [hs x]
  refine seg_at ?_
  show Seg M A R Y n s₀ c ((holding [x] (pyIter x) >>= fun it => runOwn (.forLoop target it body orelse env) env).wrap K H (fun g => gd (id g)) (fun l => lv (id l))) fs s₁
  rw [Sem.bind_eq_wrap', Sem.wrap_wrap]
  refine seg_wrap (wpAny_holding (wpAny_mono h₁ (fun it s₂ h₂ => ?_) fun _ _ x => x.elim))
  exact seg_call h₂
end
section
variable {prog : Program} {w : World} {A : Around} {R : GenEnd} {Y : Protocol} {n : Nat} {s₀ : Shared} {fs : List Frame} {s : Shared} {env : Env}
noncomputable abbrev HN (env : Env) : Value → Sem Fin := fun e => (do noteFrame e env; theTreesLotGoes e : Sem Unit).wrap (fun _ => .raise e) .raise id id
noncomputable abbrev KL (target : PySem.Expr) (it : Value) (body orelse : List Stmt) (env : Env) : Flow → Sem Fin := fun f => match f with
  | .next | .cont => .pure (.again (.forLoop target it body orelse env))
  | .brk => .pure (.done .next)
  | .ret v => .pure (.done (.ret v))
theorem seg_forLoop {target : PySem.Expr} {it : Value} {body orelse : List Stmt}
    (h : wpAny (model prog w) (A.over (.forLoop target it body orelse env) fs) (pyNext it) (fun r s₁ => match r with
      | none => Seg (model prog w) A R Y n s₀ (.forLoop target it body orelse env) (.pure (.again (.block orelse env))) fs s₁
      | some v => wpAny (model prog w) (A.over (.forLoop target it body orelse env) fs) (letOwnedTupleGo target it v) (fun _ s₂ => wpAny (model prog w) (A.over (.forLoop target it body orelse env) fs) (assign target env v)
          (fun _ s₃ => Seg (model prog w) A R Y n s₀ (.forLoop target it body orelse env) ((execs body env).wrap (KL target it body orelse env) (HN env) id id) fs s₃) EF s₂) EF s₁) EF s) :
    Seg (model prog w) A R Y n s₀ (.forLoop target it body orelse env) ((model prog w).den (.forLoop target it body orelse env)) fs s := by
  show Seg _ A R Y n s₀ _ ((forTurn target it body orelse env).onRaise (fun x => do noteFrame x env; theTreesLotGoes x)) fs s
  unfold forTurn
  rw [Sem.onRaise_eq_wrap]
  refine seg_at ?_
  show Seg (model prog w) A R Y n s₀ _ (((pyNext it).onRaise (fun _ => standAt { target.pos with line := 0 }) >>= fun r => match r with
      | none => again (.block orelse env)
      | some v => letOwnedTupleGo target it v >>= fun _ => assign target env v >>= fun _ => execs body env >>= fun f => match f with
        | .next | .cont => again (.forLoop target it body orelse env)
        | .brk => pure (.done .next)
        | .ret v => pure (.done (.ret v))).wrap .pure (fun e => (do noteFrame e env; theTreesLotGoes e : Sem Unit).bind fun _ => .raise e) id id) fs s
  rw [Sem.bind_eq_wrap', Sem.wrap_wrap]
  refine seg_wrap (wpAny_onRaise (wpAny_mono h (fun r s₁ h₁ => ?_) fun _ _ x => x.elim))
  cases r with
  | none => exact h₁
  | some v =>
    dsimp only at h₁ ⊢
    rw [Sem.bind_eq_wrap', Sem.wrap_wrap]
    refine seg_wrap (wpAny_mono h₁ (fun _ s₂ h₂ => ?_) fun _ _ x => x.elim)
    rw [Sem.bind_eq_wrap', Sem.wrap_wrap]
    refine seg_wrap (wpAny_mono h₂ (fun _ s₃ h₃ => ?_) fun _ _ x => x.elim)
    rw [Sem.bind_eq_wrap', Sem.wrap_wrap]
    rw [Sem.wrap_congr (execs body env) _ _ (K' := KL target it body orelse env) (H' := HN env) (fun f => by cases f <;> rfl)
      (fun e => by first | exact Sem.bind_eq_wrap _ _ | (show (do noteFrame e env; theTreesLotGoes e : Sem Unit).bind (fun _ => .raise e) = _; rw [Sem.bind_eq_wrap]))]
    exact h₃
theorem seg_block_nil (hq : (Code.block [] env).quiet = true) (h : Seg (model prog w) A R Y n s₀ (.block [] env) (.pure (.done .next)) fs s) {c : Code} :
    Seg (model prog w) A R Y n s₀ c (.pure (.again (.block [] env))) fs s :=
  seg_again hq h
theorem seg_rec {Inv : Nat → Shared → Shared → Prop} {c : Code} (turn : ∀ n, (∀ k, n = k + 1 → ∀ s₀ s, Inv n s₀ s → Seg (model prog w) A R Y n s₀ c ((model prog w).den c) fs s) → ∀ s₀ s, Inv (n + 1) s₀ s → Seg (model prog w) A R Y (n + 1) s₀ c ((model prog w).den c) fs s) :
    ∀ n s₀ s, Inv (n + 1) s₀ s → Seg (model prog w) A R Y (n + 1) s₀ c ((model prog w).den c) fs s
  | 0, s₀, s, h => turn 0 (fun k e => absurd e (Nat.succ_ne_zero k).symm) s₀ s h
  | n + 1, s₀, s, h => turn (n + 1) (fun _ _ s₀ s h' => seg_rec turn n s₀ s h') s₀ s h
end
noncomputable def NsO (o : Obj) (m : Str → Option Value) : Prop := ∃ es ep, o.data = .dict es ep ∧ StrKeys es ∧ ∀ name, nsFind es name = m name
noncomputable def GenO (o : Obj) (g : Nat) : Prop := ∃ nm qn, o.cls = .type "generator" ∧ o.data = .fields #[.int g 0, nm, qn] ∧ o.slots = #[]
theorem ns_at {h : Heap} {a : Addr} {o : Obj} {m : Str → Option Value} (e : h.get? a = some o) (n : NsO o m) : h.Ns a m := let ⟨es, ep, x⟩ := n; ⟨o, es, ep, e, x⟩
theorem ns_obj {h : Heap} {a : Addr} {m : Str → Option Value} (n : h.Ns a m) : ∃ o, h.get? a = some o ∧ NsO o m := let ⟨o, es, ep, e, x⟩ := n; ⟨o, e, es, ep, x⟩
theorem gen_at {h : Heap} {a : Addr} {o : Obj} {g : Nat} (e : h.get? a = some o) (n : GenO o g) : h.IsGen a g := let ⟨nm, qn, x⟩ := n; ⟨o, nm, qn, e, x⟩
section
variable {prog : Program} {w : World} {A : Around} {E : Value → Shared → Prop} {s : Shared}
theorem gen_call {a : Addr} {vs : List Value} {o : Obj} {fd : FuncData} {body : List Stmt} {binds : List (Str × Value)} {Q : Value → Shared → Prop}
    (hroom : A.depth < recursionLimit) (ho : s.heap.get? a = some o) (hd' : o.data = .func fd) (hco : fd.scope.isCoroutine = false)
    (hgen : fd.scope.isGenerator = true) (hbody : fd.body = .stmts body) (hcd : s.heap.CodeRec fd.code fd.qualname) (hlim : s.heap.NoLimit) (hbind : BindsTo s fd ⟨vs, []⟩ binds)
    (hcell : ∀ x ∈ fd.scope.names, x.2 ≠ .cell) (hloc : ∀ x ∈ binds, fd.scope.names.lookup x.1 = some .local) (hk : fd.scope.kind = .function)
    (h : ∀ h' oG og, h'.get? s.heap.objs.size = some oG → NsO oG (fun x => binds.reverse.lookup x) → h'.get? (s.heap.objs.size + 1) = some og → GenO og s.gens.size →
      (∀ b o, s.heap.get? b = some o → h'.get? b = some o) → h'.objs.size = s.heap.objs.size + 2 →
      Q (.ref (s.heap.objs.size + 1)) { s with heap := h', gens := s.gens.push (.fresh (.func body (callEnv fd s.heap.objs.size a))), toks := s.toks + binds.length + 1 + 1 }) :
    wpAny (model prog w) A (call (.ref a) vs) Q E s := by
  refine wpAny_call ?_
  refine codeAny_call_generator hroom ho hd' hco hgen hbody hcd (hbind _ _ _ _ ?_)
  refine wpAny_newFunctionEnv hcell hloc (fun h₀ hns₀ hsb₀ => ⟨hlim.fresh _ hsb₀, ?_⟩) hk
  obtain ⟨oG, hG, hGo⟩ := ns_obj hns₀
  have hz : h₀.objs.size = s.heap.objs.size + 1 := hsb₀.1.trans (Heap.size_push ..)
  show Q (.ref h₀.objs.size) _
  rw [hz]
  refine h _ oG { cls := .type "generator", data := .fields #[.int s.gens.size 0, .str fd.name (s.toks + binds.length), .str fd.qualname (s.toks + binds.length + 1)] } (Heap.get?_push_of_some _ hG) hGo ?_ ⟨_, _, rfl, rfl, rfl⟩ (fun b o e => Heap.get?_push_of_some _ (hsb₀.extBut b o (Nat.ne_of_lt (Heap.lt_size e)) (Heap.get?_push_of_some _ e))) ?_
  · rw [← hz]; exact Heap.get?_push_size _ rfl
  · rw [Heap.size_push, hz]
end
section
variable {prog : Program} {w : World} {A : Around} {E : Value → Shared → Prop} {s : Shared} {env : Env} {h₀ : Heap}
noncomputable abbrev RG (P : Nat → Shared → Shared → Prop) : GenEnd := fun n s₀ r s₁ => r = .ok (.ret .none) ∧ P n s₀ s₁
theorem next_fn {a : Addr} {g n : Nat} {gs : GenState} {P : Nat → Shared → Shared → Prop} {Y : Protocol} {Q : Option Value → Shared → Prop} (hh : A.handled = none)
    (hl : s.heap.NoLimit) (hroom : A.depth < recursionLimit) (hg : s.heap.IsGen a g) (hgs : s.gens[g]? = some gs)
    (hgo : gs.Goes (model prog w) A.in1 (RG P) Y n (.send .none) (s.setGen g .running))
    (hY : ∀ v s₁ gs', gs'.bare = true → Y (n - 1) (s.setGen g .running) v s₁ (fun r' s'' => match n with
        | 0 => False
        | m + 1 => gs'.Goes (model prog w) A.in1 (RG P) Y m r' s'') → Q (some v) (s₁.setGen g gs'))
    (hP : ∀ s₁, P n (s.setGen g .running) s₁ → ∀ h', (∀ b o, s₁.heap.get? b = some o → h'.get? b = some o) → Q none { s₁.setGen g .finished with heap := h' }) :
    wpAny (model prog w) A (pyNext (.ref a)) Q E s := by
  unfold pyNext
  refine wpAny_bind (wpAny_attempt (wpAny_callSpecial?_slot (name := Str.ofString "__next__") hg.typeIs slot_gen_next
    (wpAny_call_entry slot_gen_next hg.typeIs entry_gen_next ?_ (args_gen_next _))))
  show wpAny _ A.in1 (Builtin.Generator.genWake (.ref a) (.send .none)) _ _ s
  unfold Builtin.Generator.genWake
  refine wpAny_bind (wpAny_holding (wpAny_genNumber hg (wpAny_bind (wpAny_genState hgs ?_))))
  cases gs with
  | running => exact hgo.elim
  | finished => exact hgo.elim
  | _ =>
    refine wpAny_bind (wpAny_roomToWake hl hroom ?_)
    show wpAny _ A.in1 (.resume g (.send .none) [] _) _ _ s
    refine wpAny_resumeQ hgs hgo (fun x s₁ hx => ?_) (fun v s₁ gs' hb hv => ?_)
    · obtain ⟨rfl, hp⟩ := hx
      show wpAny _ A.in1 (newExc (.type "StopIteration") [] >>= _) _ _ _
      refine wpAny_bind ?_
      simp only [newExc, newTuple]
      refine wpAny_bind (wpAny_newObj_type ?_ (by size_fits))
      refine wpAny_bind (m := firstArgMember _ _) (wpAny_of_eq (a := Value.none) (by first | rfl | (simp only [firstArgMember]; rfl)) ?_)
      refine wpAny_newObj_type ?_ (by size_fits)
      simp only [raiseNew]
      refine wpAny_bind (wpAny_bind (wpAny_handled ?_))
      first | rw [show A.in1.handled = none from hh] | rw [hh]
      refine wpAny_throw ?_
      refine wpAny_bind (wpAny_isInstance (T := "StopIteration") (b := true) ⟨_, Heap.get?_push_size _ rfl, rfl⟩ isSubtype_stop ?_)
      exact wpAny_pure (hP s₁ hp _ fun b o hb => Heap.get?_push_of_some _ (Heap.get?_push_of_some _ hb))
    · exact wpAny_pure ⟨v, rfl, wpAny_pure (hY v s₁ gs' hb hv)⟩
noncomputable def YG (h₀ : Heap) (G I : Addr) (row : Addr × Obj) (val : Nat → Int) (ends : Prop) : Protocol := fun m s₀ v s₁ κ =>
  ∃ mG oI t h' tk, (ends → 16 < m) ∧ v = .int (val (19 - m)) t ∧ s₁ = { s₀ with heap := h', toks := tk } ∧ Fr h₀ G h' mG ∧ News h₀ G h' [(I, oI), row] ∧ (∀ b o, b ≠ G → b ≠ I → s₀.heap.get? b = some o → h'.get? b = some o) ∧
    (m ≠ 0 → ∀ s'', Fr h₀ G s''.heap mG → News h₀ G s''.heap [(I, oI), row] → κ (.send .none) s'')
noncomputable def PG (G I : Addr) (ends : Prop) : Nat → Shared → Shared → Prop := fun n s₀ s₁ =>
  ends ∧ n = 17 ∧ ∃ h' tk, s₁ = { s₀ with heap := h', toks := tk } ∧ ∀ b o, b ≠ G → b ≠ I → s₀.heap.get? b = some o → h'.get? b = some o
theorem gens_set {g0 : Array GenState} {x y : GenState} : (g0.push x).setIfInBounds g0.size y = g0.push y := by
  apply Array.ext'
  simp [List.set_append_right]
theorem gens_get {g0 : Array GenState} {x : GenState} : (g0.push x)[g0.size]? = some x := Array.getElem?_push_size ..
noncomputable def LeftSame (x xl : Str) (m m' : Str → Option Value) : Prop := ∀ z, z ≠ x → z ≠ xl → m' z = m z
theorem gen_loop {σ : Type} {Q : Flow → Shared → Prop} {x xl : Str} {px : Pos} {body : List Stmt} {ga G I : Nat} {og oG0 : Obj} {c0 : Code} {g0 : Array GenState} {row : Addr × Obj} {m mG : Str → Option Value}
    (Led : σ → List (Addr × Obj)) (lef : σ → Int × Nat) (P : Nat → σ → Prop) (a0 : σ) (val : Nat → Int) (ends : Prop)
    (hh : A.handled = none) (hroom : A.depth < recursionLimit) (hlim : h₀.NoLimit) (hx : env.kindOf x = some .local)
    (hp : (env.scope.kind == .class || (env.scope.kind == .module && env.locals != env.globals)) = false)
    (hgens : s.gens = g0.push (.fresh c0)) (hgo : GenO og g0.size) (hI : s.heap.objs.size = I)
    (F : Fr h₀ env.locals s.heap m) (N : News h₀ env.locals s.heap ((G, oG0) :: (ga, og) :: Led a0)) (hGa : ga = G + 1) (hLG : ∀ c, ∀ p ∈ Led c, p.1 < G) (hL : env.locals < G) (hG0 : h₀.objs.size ≤ G)
    (hrow : ∀ c, row ∈ Led c) (hm0 : m xl = some (.int (lef a0).1 (lef a0).2)) (hP0 : P 0 a0) (hns : NsO oG0 mG)
    (hgoes : ∀ s'', Fr h₀ G s''.heap mG → News h₀ G s''.heap [row] → s''.heap.objs.size = I → (GenState.fresh c0).Goes (model prog w) A.in1 (RG (PG G I ends)) (YG h₀ G I row val ends) 20 (.send .none) s'')
    (hbd : ∀ i c, P i c → i < 19)
    (step : ∀ (i : Nat) c t h tk oG oI st, P i c → (ends → i < 3) → st.bare = true → Fr h₀ env.locals h (fun y => if y = x then some (.int (val i) t) else if y = xl then some (.int (lef c).1 (lef c).2) else m y) →
      News h₀ env.locals h ((G, oG) :: (I, oI) :: (ga, og) :: Led c) →
      wpAny (model prog w) A (execs body env) (fun f s₃ => match f with
        | .next => ∃ c' h' tk' m', s₃ = { s with heap := h', toks := tk', gens := g0.push st } ∧ Fr h₀ env.locals h' m' ∧ m' xl = some (.int (lef c').1 (lef c').2) ∧ LeftSame x xl m m' ∧ News h₀ env.locals h' ((G, oG) :: (I, oI) :: (ga, og) :: Led c') ∧ P (i + 1) c'
        | .brk => Q .next s₃
        | _ => False) E { s with heap := h, toks := tk, gens := g0.push st })
    (done : ∀ c h tk m', ends → P 3 c → Fr h₀ env.locals h m' → m' xl = some (.int (lef c).1 (lef c).2) → LeftSame x xl m m' → News h₀ env.locals h (Led c) → Q .next { s with heap := h, toks := tk, gens := g0.push .finished })
    (hE : PassesOwn (model prog w) A env E := by passes_own) :
    codeAny (model prog w) A (.forLoop (.Name x px) (.ref ga) body [] env) (fun r s' => match r with | .ok f => Q f s' | .error e => cameBackBy (model prog w) A env E e s') s := by
  have hIG : G < I ∧ ga < I := by
    have h1 : ga < s.heap.objs.size := Heap.lt_size (N (ga, og) (.tail _ (.head _))).1
    lia
  have old : ∀ b o, h₀.get? b = some o → b ≠ G ∧ b ≠ I := fun b o y => by
    have h1 : (b : Nat) < h₀.objs.size := Heap.lt_size y
    exact ⟨Nat.ne_of_lt (Nat.lt_of_lt_of_le h1 hG0), Nat.ne_of_lt (Nat.lt_trans (Nat.lt_of_lt_of_le h1 hG0) hIG.1)⟩
  refine codeAny_forLoop_any
    (fun k s' => ∃ i c h' tk m' st oG mG' led, s' = { s with heap := h', toks := tk, gens := g0.push st } ∧ Fr h₀ env.locals h' m' ∧ News h₀ env.locals h' ((G, oG) :: (ga, og) :: Led c) ∧ m' xl = some (.int (lef c).1 (lef c).2) ∧ LeftSame x xl m m' ∧ NsO oG mG' ∧
      (led = [] ∧ i = 0 ∧ h'.objs.size = I ∨ ∃ oI, led = [(I, oI)] ∧ 0 < i ∧ h'.get? I = some oI) ∧ P i c ∧ k = 20 - i ∧
      ∀ s'', Fr h₀ G s''.heap mG' → News h₀ G s''.heap (led ++ [row]) → (i = 0 → s''.heap.objs.size = I) → st.Goes (model prog w) A.in1 (RG (PG G I ends)) (YG h₀ G I row val ends) (20 - i) (.send .none) s'') ?_ 20
    ⟨0, a0, s.heap, s.toks, m, .fresh c0, oG0, mG, [], by rw [← hgens], F, N, hm0, fun _ _ _ => rfl, hns, .inl ⟨rfl, rfl, hI⟩, hP0, rfl, fun s'' f n z => hgoes s'' f n (z rfl)⟩
  rintro k s' ⟨i, c, H, tk, m', st, oG, mG', led, rfl, F', N', hl', hs', hn', hled, hP', rfl, hgo'⟩
  have hi := hbd i c hP'
  have FG : Fr h₀ G H mG' := ⟨ns_at (N' _ (.head _)).1 hn', F'.keep, hG0⟩
  have NG : News h₀ G H (led ++ [row]) := by
    intro p hp
    rcases List.mem_append.mp hp with q | q
    · rcases hled with ⟨e, _⟩ | ⟨oI, e, _, hoI⟩
      · rw [e] at q; cases q
      · rw [e] at q
        rw [List.mem_singleton.mp q]
        refine ⟨hoI, Nat.ne_of_gt hIG.1, ?_⟩
        cases hz : h₀.get? I with
        | none => rfl
        | some o => exact absurd rfl (old I o hz).2
    · rw [List.mem_singleton.mp q]
      obtain ⟨r1, _, r3⟩ := N' row (.tail _ (.tail _ (hrow c)))
      exact ⟨r1, Nat.ne_of_lt (hLG c row (hrow c)), r3⟩
  have hsz0 : i = 0 → H.objs.size = I := fun z => by
    rcases hled with ⟨_, _, q⟩ | ⟨_, _, q, _⟩
    · exact q
    · lia
  have carry : ∀ h₁ : Heap, (∀ b o, b ≠ G → b ≠ I → H.get? b = some o → h₁.get? b = some o) → Fr h₀ env.locals h₁ m' ∧ News h₀ env.locals h₁ ((ga, og) :: Led c) := fun h₁ hk₁ => by
    refine ⟨⟨F'.ns.at' fun o y => hk₁ _ o (Nat.ne_of_lt hL) (Nat.ne_of_lt (Nat.lt_trans hL hIG.1)) y, fun b o y => hk₁ b o (old b o y).1 (old b o y).2 (F'.keep b o y), F'.above⟩, fun p hp => ?_⟩
    obtain ⟨r1, r2⟩ := N' p (.tail _ hp)
    refine ⟨hk₁ _ _ ?_ ?_ r1, r2⟩
    · rcases List.mem_cons.mp hp with q | q
      · rw [q]; exact Nat.ne_of_gt (by show G < ga; lia)
      · exact Nat.ne_of_lt (hLG c p q)
    · rcases List.mem_cons.mp hp with q | q
      · rw [q]; show ga ≠ I; exact Nat.ne_of_lt hIG.2
      · exact Nat.ne_of_lt (Nat.lt_trans (hLG c p q) hIG.1)
  refine next_fn (g := g0.size) (n := 20 - i) hh (hlim.keeps F'.keep) hroom (gen_at (N' _ (.tail _ (.head _))).1 hgo) gens_get (hgo' _ FG NG hsz0) (fun v s₁ gs' hb hy => ?_) (fun s₁ hp' h₂ hk₂ => ?_)
  · obtain ⟨mG₁, oI, t, h₁, tk₁, hen, hv, rfl, FG₁, NG₁, hk₁, hnext⟩ := hy
    subst hv
    obtain ⟨F₁, N₁⟩ := carry h₁ hk₁
    obtain ⟨oG₁, hoG₁, hnG₁⟩ := ns_obj FG₁.ns
    simp only [Shared.setGen, gens_set]
    refine wpAny_pure ?_
    refine wpAny_assign_Name (wpAny_storeName_local hx F₁.ns (fun h₂ hn₂ hs₂ => ?_) hp)
    replace hs₂ : Heap.SameBut env.locals h₁ h₂ := hs₂
    have F₂ := F₁.set hn₂ hs₂
    have N₂ : News h₀ env.locals h₂ ((G, oG₁) :: (I, oI) :: (ga, og) :: Led c) := by
      have hG₂ : News h₀ env.locals h₁ [(G, oG₁), (I, oI)] := fun p hp => by
        rcases List.mem_cons.mp hp with q | q
        · rw [q]
          refine ⟨hoG₁, Nat.ne_of_gt hL, ?_⟩
          cases hz : h₀.get? G with
          | none => rfl
          | some o => exact absurd rfl (old G o hz).1
        · rw [List.mem_singleton.mp q]
          obtain ⟨r1, _, r3⟩ := NG₁ _ (.head _)
          exact ⟨r1, Nat.ne_of_gt (Nat.lt_trans hL hIG.1), r3⟩
      have := (hG₂.append N₁).set hs₂
      exact this
    have hi19 : 19 - (20 - i - 1) = i := by lia
    have F₂' : Fr h₀ env.locals h₂ (fun y => if y = x then some (.int (val i) t) else if y = xl then some (.int (lef c).1 (lef c).2) else m y) := by
      refine Eq.mp (congrArg (Fr h₀ env.locals h₂) (funext fun y => ?_)) F₂
      by_cases e1 : y = x
      · simp only [e1, if_true]; rw [hi19]
      · by_cases e2 : y = xl
        · simp only [e1, if_false]; rw [if_pos e2, e2]; exact hl'
        · simp only [e1, if_false]; rw [if_neg e2]; exact hs' y e1 e2
    have he3 : ends → i < 3 := fun z => by have := hen z; lia
    refine wpAny_mono (wpAny_passesOwn hE (step i c t h₂ (tk₁ + 1) oG₁ oI gs' hP' he3 hb F₂' N₂)) (fun f s₃ h₆ => ?_) fun _ _ e => e
    cases f with
    | ret v => exact h₆.elim
    | brk => exact h₆
    | cont => exact h₆.elim
    | next =>
      obtain ⟨c', h₃, tk₃, m₃, rfl, F₃, hl₃, hs₃, N₃, hP₃⟩ := h₆
      have := hbd _ _ hP₃
      refine ⟨20 - (i + 1), by lia, i + 1, c', h₃, tk₃, m₃, gs', oG₁, mG₁, [(I, oI)], rfl, F₃, (fun p hp => N₃ p ?_), hl₃, hs₃, hnG₁, .inr ⟨oI, rfl, Nat.succ_pos _, (N₃ _ (.tail _ (.head _))).1⟩, hP₃, rfl, fun s'' f n _ => ?_⟩
      · rcases List.mem_cons.mp hp with q | q
        · rw [q]; exact .head _
        · exact .tail _ (.tail _ q)
      · have hz := hnext (by lia) s'' f n
        have e1 : 20 - i = (20 - (i + 1)) + 1 := by lia
        rw [e1] at hz
        exact hz
  · obtain ⟨he, hn, h₁, tk₁, rfl, hk₁⟩ := hp'
    have hi3 : i = 3 := by lia
    subst hi3
    simp only [Shared.setGen, gens_set] at hk₁ hk₂ ⊢
    obtain ⟨F₁, N₁⟩ := carry h₂ fun b o n1 n2 y => hk₂ b o (hk₁ b o n1 n2 y)
    exact wpAny_execs_nil (done c h₂ tk₁ m' he hP' F₁ hl' hs' fun p hp => N₁ p (.tail _ hp))
end
noncomputable def strm (s0 s1 s2 : Int) (i : Nat) : Int := if i = 0 then s0 else if i = 1 then s1 else s2
noncomputable def goS (s0 s1 s2 e : Int) : Nat → Nat → Int → List Int
  | 0, _, l => [l]
  | n + 1, i, l => if e ≠ 0 ∧ i = 3 then [l] else if l ≤ strm s0 s1 s2 i then [l] else strm s0 s1 s2 i :: goS s0 s1 s2 e n (i + 1) (l - strm s0 s1 s2 i)
noncomputable def toldF (s0 s1 s2 e : Int) : List Int := goS s0 s1 s2 e 12 0 10
structure TInv (s0 s1 s2 e : Int) (i : Nat) (ts : List Int) (l : Int) : Prop where
  top : l + i ≤ 10
  low : 1 ≤ l
  len : ts.length = i
  go : ts ++ goS s0 s1 s2 e (12 - i) i l = toldF s0 s1 s2 e
theorem strm_pos {s0 s1 s2 : Int} (h00 : 1 ≤ s0) (h10 : 1 ≤ s1) (h20 : 1 ≤ s2) (i : Nat) : 1 ≤ strm s0 s1 s2 i := by
  unfold strm
  split
  · exact h00
  · split
    · exact h10
    · exact h20
theorem tinv_lt {s0 s1 s2 e : Int} {i : Nat} {ts : List Int} {l : Int} (h : TInv s0 s1 s2 e i ts l) : i < 19 := by
  have := h.top; have := h.low; lia
theorem tinv_next {s0 s1 s2 e : Int} {i : Nat} {ts : List Int} {l : Int} (h : TInv s0 s1 s2 e i ts l) (he : e ≠ 0 → i < 3) (hp : 1 ≤ strm s0 s1 s2 i) (hl : ¬ l ≤ strm s0 s1 s2 i) :
    TInv s0 s1 s2 e (i + 1) (ts ++ [strm s0 s1 s2 i]) (l - strm s0 s1 s2 i) := by
  obtain ⟨h1, h2, h3, h4⟩ := h
  refine ⟨by lia, by lia, by rw [List.length_append, h3]; rfl, ?_⟩
  have e1 : 12 - i = (12 - (i + 1)) + 1 := by lia
  rw [e1, goS, if_neg (fun q => by have := he q.1; lia), if_neg hl] at h4
  rw [← h4, List.append_assoc]; rfl
theorem tinv_brk {s0 s1 s2 e : Int} {i : Nat} {ts : List Int} {l : Int} (h : TInv s0 s1 s2 e i ts l) (he : e ≠ 0 → i < 3) (hl : l ≤ strm s0 s1 s2 i) :
    ts ++ [l] = toldF s0 s1 s2 e := by
  obtain ⟨h1, h2, h3, h4⟩ := h
  have e1 : 12 - i = (12 - (i + 1)) + 1 := by lia
  rw [e1, goS, if_neg (fun q => by have := he q.1; lia), if_pos hl] at h4
  exact h4
theorem tinv_end {s0 s1 s2 e : Int} {ts : List Int} {l : Int} (h : TInv s0 s1 s2 e 3 ts l) (he : e ≠ 0) : ts ++ [l] = toldF s0 s1 s2 e := by
  obtain ⟨h1, h2, h3, h4⟩ := h
  rw [show 12 - 3 = 8 + 1 from rfl, goS, if_pos ⟨he, rfl⟩] at h4
  exact h4
noncomputable def GRel (G I : Addr) (s₀ s : Shared) : Prop := ∃ h tk, s = { s₀ with heap := h, toks := tk } ∧ ∀ b o, b ≠ G → b ≠ I → s₀.heap.get? b = some o → h.get? b = some o
theorem grel_to {G I : Addr} {s₀ s : Shared} (h : GRel G I s₀ s) {h' : Heap} {tk : Nat} (k : ∀ b o, b ≠ G → b ≠ I → s.heap.get? b = some o → h'.get? b = some o) : GRel G I s₀ { s with heap := h', toks := tk } := by
  obtain ⟨h1, t1, rfl, k1⟩ := h
  exact ⟨h', tk, rfl, fun b o n1 n2 y => k b o n1 n2 (k1 b o n1 n2 y)⟩
structure GInv (g : Heap) (G I lr : Addr) (row : Addr × Obj) (val : Nat → Int) (n : Nat) (s₀ s : Shared) : Prop where
  go : ∃ (j : Nat) (lv : Option Value) (u : Str → Option Value) (oI : Obj), j + n = 20 ∧ j ≤ 3 ∧ GRel G I s₀ s ∧ Fr g G s.heap (fun y => if y = Str.ofString "last_interval" then lv else u y) ∧ News g G s.heap [(I, oI), row] ∧
    oI.cls = .type "list_iterator" ∧ oI.data = .fields #[.ref lr, .int j 0] ∧ (j ≠ 0 → ∃ t, lv = some (.int (val (j - 1)) t))
theorem yg_intro {g h : Heap} {G I : Addr} {row : Addr × Obj} {val : Nat → Int} {ends : Prop} {m : Nat} {s₀ q : Shared} {x : Int} {t : Tok} {tk : Nat} {mG : Str → Option Value} {oI : Obj} {κ : Resume → Shared → Prop} (hrel : GRel G I s₀ q) (hk : ∀ b o, b ≠ G → b ≠ I → q.heap.get? b = some o → h.get? b = some o)
    (hen : ends → 16 < m) (hv : x = val (19 - m)) (F : Fr g G h mG) (N : News g G h [(I, oI), row]) (cont : m ≠ 0 → ∀ s'', Fr g G s''.heap mG → News g G s''.heap [(I, oI), row] → κ (.send .none) s'') :
    YG g G I row val ends m s₀ (.int x t) { q with heap := h, toks := tk } κ := by
  obtain ⟨h1, t1, rfl, k1⟩ := hrel
  exact ⟨mG, oI, t, h, tk, hen, by rw [hv], rfl, F, N, fun b o n1 n2 y => hk b o n1 n2 (k1 b o n1 n2 y), cont⟩
theorem fr_pin {g h : Heap} {G : Addr} {m : Str → Option Value} {x : Str} {v : Value} (F : Fr g G h m) (e : m x = some v) : Fr g G h (fun y => if y = x then some v else m y) := by
  refine Eq.mp (congrArg (Fr g G h) (funext fun y => ?_)) F
  by_cases z : y = x
  · rw [if_pos z, z]; exact e
  · rw [if_neg z]
structure WInv (g : Heap) (G I : Addr) (row : Addr × Obj) (v : Value) (n : Nat) (s₀ s : Shared) : Prop where
  go : ∃ (m : Str → Option Value) (oI : Obj), n ≤ 17 ∧ GRel G I s₀ s ∧ Fr g G s.heap m ∧ m (Str.ofString "last_interval") = some v ∧ News g G s.heap [(I, oI), row]
theorem seg_recW {prog : Program} {w : World} {A : Around} {R : GenEnd} {Y : Protocol} {fs : List Frame} {c : Code} {g : Heap} {G I : Addr} {row : Addr × Obj} {v : Value} {N : Nat} {q0 q1 : Shared} (init : WInv g G I row v (N + 1) q0 q1)
    (turn : ∀ n, (∀ k, n = k + 1 → ∀ s₀ s, WInv g G I row v n s₀ s → Seg (model prog w) A R Y n s₀ c ((model prog w).den c) fs s) → ∀ s₀ s, WInv g G I row v (n + 1) s₀ s → Seg (model prog w) A R Y (n + 1) s₀ c ((model prog w).den c) fs s) :
    Seg (model prog w) A R Y (N + 1) q0 c ((model prog w).den c) fs q1 := seg_rec (Inv := WInv g G I row v) turn N q0 q1 init
theorem pg_intro {G I : Addr} {ends : Prop} {n : Nat} {s₀ q : Shared} {h : Heap} {tk : Nat} (he : ends) (hn : n = 17) (hrel : GRel G I s₀ q) (hk : ∀ b o, b ≠ G → b ≠ I → q.heap.get? b = some o → h.get? b = some o) : PG G I ends n s₀ { q with heap := h, toks := tk } := by
  obtain ⟨h1, t1, rfl, k1⟩ := hrel
  exact ⟨he, hn, h, tk, rfl, fun b o n1 n2 y => hk b o n1 n2 (k1 b o n1 n2 y)⟩
theorem strm_big {s0 s1 s2 : Int} {i : Nat} (h : 2 ≤ i) : strm s0 s1 s2 i = s2 := by
  unfold strm
  rw [if_neg (by lia), if_neg (by lia)]
theorem fr_left {g h : Heap} {L : Addr} {m m' : Str → Option Value} {x xl : Str} {v : Value} (F : Fr g L h m') (e : m' xl = some v) (s : LeftSame x xl m m') : Fr g L h (fun y => if y = xl then some v else if y = x then m' x else m y) := by
  refine Eq.mp (congrArg (Fr g L h) (funext fun y => ?_)) F
  by_cases z : y = xl
  · rw [if_pos z, z]; exact e
  · rw [if_neg z]
    by_cases z2 : y = x
    · rw [if_pos z2, z2]
    · rw [if_neg z2]; exact s y z2 z
theorem ginv_init {g h4 : Heap} {G I lr : Addr} {row : Addr × Obj} {val : Nat → Int} {u : Str → Option Value} {q : Shared} {tk : Nat} (F4 : Fr g G h4 (fun y => if y = Str.ofString "last_interval" then some .none else u y)) (N4 : News g G h4 [row]) (hs4 : Heap.SameBut G q.heap h4) (hsz : q.heap.objs.size = I) :
    GInv g G I lr row val 20 q { q with heap := h4.push { cls := .type "list_iterator", data := .fields #[.ref lr, .int 0 0] }, toks := tk } := by
  have hz4 : h4.objs.size = I := hs4.1.trans hsz
  have e4 : ∀ b o, h4.get? b = some o → (h4.push { cls := .type "list_iterator", data := .fields #[.ref lr, .int 0 0] }).get? b = some o := fun b o y => Heap.get?_push_of_some _ y
  refine ⟨0, some .none, _, { cls := .type "list_iterator", data := .fields #[.ref lr, .int 0 0] }, rfl, by decide, ⟨_, _, rfl, fun b o n1 n2 y => e4 _ _ (hs4.extBut b o n1 y)⟩, F4.keeps e4, ?_, rfl, rfl, fun z => absurd rfl z⟩
  have hI4 : (h4.push { cls := .type "list_iterator", data := .fields #[.ref lr, .int 0 0] }).get? h4.objs.size = some { cls := .type "list_iterator", data := .fields #[.ref lr, .int 0 0] } := Heap.get?_push_size _ rfl
  have hG4 := F4.ns.lt
  intro p hp
  rcases List.mem_cons.mp hp with z | z
  · subst z
    subst hz4
    exact ⟨hI4, Nat.ne_of_gt hG4, ktu_new F4 (Nat.le_refl _)⟩
  · exact (N4.grown e4) p z
theorem seg_recG {prog : Program} {w : World} {A : Around} {R : GenEnd} {Y : Protocol} {fs : List Frame} {c : Code} {g : Heap} {G I lr : Addr} {row : Addr × Obj} {val : Nat → Int} {q0 q1 : Shared} (init : GInv g G I lr row val 20 q0 q1)
    (turn : ∀ n, (∀ k, n = k + 1 → ∀ s₀ s, GInv g G I lr row val n s₀ s → Seg (model prog w) A R Y n s₀ c ((model prog w).den c) fs s) → ∀ s₀ s, GInv g G I lr row val (n + 1) s₀ s → Seg (model prog w) A R Y (n + 1) s₀ c ((model prog w).den c) fs s) :
    Seg (model prog w) A R Y 20 q0 c ((model prog w).den c) fs q1 := seg_rec (Inv := GInv g G I lr row val) turn 19 q0 q1 init
section
variable {prog : Program} {w : World} {A : Around} {env : Env} {g : Heap} {q : Shared}
theorem pyIter_listI {l I : Addr} {items : Array Value} {E : Value → Shared → Prop} {Q : Value → Shared → Prop} (hl : q.heap.IsList l items) (hI : q.heap.objs.size = I)
    (hQ : Q (.ref I) { q with heap := q.heap.push { cls := .type "list_iterator", data := .fields #[.ref l, .int 0 0] } }) : wpAny (model prog w) A (pyIter (.ref l)) Q E q := by
  subst hI
  exact wpAny_pyIter_list hl hQ
theorem g_item {I lr : Addr} {vs : List Value} {nr j : Nat} {oI : Obj} {x : Str} {px : Pos} {v : Value} {m : Str → Option Value} {X : Shared → Prop} {Z : Shared → Prop}
    (gF : Fr g env.locals q.heap m) (gN : News g env.locals q.heap [(I, oI), (lr, W.listOf vs.toArray nr)]) (hc : oI.cls = .type "list_iterator") (hdt : oI.data = .fields #[.ref lr, .int j 0]) (hv : vs[j]? = some v)
    (hx : env.kindOf x = some .local) (hp : (env.scope.kind == .class || (env.scope.kind == .module && env.locals != env.globals)) = false)
    (hZ : ∀ h' oI' tk, (∀ b o, b ≠ env.locals → b ≠ I → q.heap.get? b = some o → h'.get? b = some o) → Fr g env.locals h' (fun y => if y = x then some v else m y) → News g env.locals h' [(I, oI'), (lr, W.listOf vs.toArray nr)] →
      oI'.cls = .type "list_iterator" → oI'.data = .fields #[.ref lr, .int (j + 1 : Nat) 0] → Z { q with heap := h', toks := tk }) :
    wpAny (model prog w) A (pyNext (.ref I)) (fun r s₁ => match r with
      | none => X s₁
      | some v => wpAny (model prog w) A (letOwnedTupleGo (.Name x px) (.ref I) v) (fun _ s₂ => wpAny (model prog w) A (assign (.Name x px) env v) (fun _ s₃ => Z s₃) EF s₂) EF s₁) EF q := by
  have n1 := gN _ (.head _)
  have n2 := gN _ (.tail _ (.head _))
  have hIl : I ≠ lr := fun z => by
    have e1 := n1.1
    have e2 := n2.1
    dsimp only at e1 e2
    rw [z, e2] at e1
    have e3 := hc
    rw [← Option.some.inj e1] at e3
    revert e3
    show ¬ (Value.type "list" = Value.type "list_iterator")
    decide
  refine wpAny_pyNext_list_item (l := lr) (i := j) ⟨oI, n1.1, hc, hdt⟩ (lst_of gN (.tail _ (.head _))) (x := v) (by simpa using hv) fun h1 hit1 hs1 => ?_
  replace hs1 : Heap.SameBut I q.heap h1 := hs1
  refine wpAny_pure ?_
  have F1 : Fr g env.locals h1 m := ⟨gF.ns.sameBut hs1 (Ne.symm n1.2.1), fun b o y => hs1.extBut b o (fun z => (by rw [z, n1.2.2] at y; cases y)) (gF.keep b o y), gF.above⟩
  refine wpAny_assign_Name (wpAny_storeName_local hx F1.ns (fun h2 hn2 hs2 => ?_) hp)
  replace hs2 : Heap.SameBut env.locals h1 h2 := hs2
  obtain ⟨oI', ho1, ho2, ho3⟩ := hit1
  have F2 := F1.set hn2 hs2
  refine hZ h2 oI' _ (fun b o m1 m2 y => hs2.extBut b o m1 (hs1.extBut b o m2 y)) F2 ?_ ho2 ho3
  intro p hp
  rcases List.mem_cons.mp hp with z | z
  · subst z
    exact ⟨(hs2.2 I n1.2.1).trans ho1, n1.2.1, n1.2.2⟩
  · rw [List.mem_singleton.mp z]
    exact ⟨(hs2.2 lr n2.2.1).trans ((hs1.2 lr (Ne.symm hIl)).trans n2.1), n2.2.1, n2.2.2⟩
end
theorem strm_get {s0 s1 s2 e : Int} {ns : List Int} (hns : (e = 0 ∧ ns = [s0, s1, s2, 0, 5]) ∨ (e ≠ 0 ∧ (ns = [s0, s1, s2, 127, 2] ∨ ns = [s0, s1, s2]))) : ∀ {j : Nat}, j < 3 → ns[j]? = some (strm s0 s1 s2 j)
  | 0, _ => by rcases hns with ⟨_, rfl⟩ | ⟨_, rfl | rfl⟩ <;> rfl
  | 1, _ => by rcases hns with ⟨_, rfl⟩ | ⟨_, rfl | rfl⟩ <;> rfl
  | 2, _ => by rcases hns with ⟨_, rfl⟩ | ⟨_, rfl | rfl⟩ <;> rfl
  | n + 3, h => absurd h (by lia)
theorem strm_le {s0 s1 s2 : Int} (h00 : s0 ≤ 3) (h10 : s1 ≤ 3) (h20 : s2 ≤ 3) (i : Nat) : strm s0 s1 s2 i ≤ 3 := by
  unfold strm
  split
  · exact h00
  · split
    · exact h10
    · exact h20
theorem ints_get {vs : List Value} {ns : List Int} (h : IntsAre vs ns) {j : Nat} {x : Int} (hx : ns[j]? = some x) : ∃ t, vs[j]? = some (.int x t) := by
  induction h generalizing j with
  | nil => simp at hx
  | cons y t r ih =>
    cases j with
    | zero => exact ⟨t, by simpa using hx⟩
    | succ j => exact ih (by simpa using hx)
set_option autoImplicit true in
theorem st70 (h : wpAny z1 z2 (storeName z3 (Str.ofString "last_interval") z4) z5 z6 z7) : wpAny z1 z2 (storeName z3 (Str.ofString "last_interval") z4) z5 z6 z7 := h
set_option autoImplicit true in
theorem st71 (h : wpAny z1 z2 (exec (Stmt.For z3 z4 z5 z6 z7) z8) z9 z10 z11) : wpAny z1 z2 (exec (Stmt.For z3 z4 z5 z6 z7) z8) z9 z10 z11 := h
set_option autoImplicit true in
theorem st72 (h : wpAny z1 z2 (call (Value.ref 28) z3) z4 z5 z6) : wpAny z1 z2 (call (Value.ref 28) z3) z4 z5 z6 := h
local macro_rules | `(tactic| walk_at "STOP") => `(tactic| first | (with_reducible show Exists _) | (with_reducible (first | refine st70 ?_ | refine st71 ?_ | refine st72 ?_)))
local macro_rules | `(tactic| walk_at "call builtin:list.append") => `(tactic| walk_at "APPX")
theorem told_spec {w : World} {V : Program} {lo : List Str} {mean : ExcName → Option Value} {mg mb : Str → Option Value}
  (dp un : Nat) (gd : Option (List Code)) (cn : Str) (cs : Scope) (a : Addr) (ccd : Value) (cl : List (Str × Addr)) (outer : List Env) (A₀ : Around) (base h₀ : Heap) (L : Addr) (m : Str → Option Value) (news : List (Addr × Obj)) (s : Shared) (Q E : Value → Shared → Prop)
  (lr : Addr) (s0 s1 s2 : Int) (vs : List Value) (ns : List Int) (e : Int) (nr : Nat)
  (B : Below A₀ base outer h₀) (F : Fr h₀ L s.heap m) (X : (wpart.heap_1 w.params).In h₀) (N : News h₀ L s.heap news) (T : Top V lo mean mg mb h₀) (hk : cs.kind = .function)
  (hm : (lr, W.listOf vs.toArray nr) ∈ news) (hi : IntsAre vs ns) (h00 : 1 ≤ s0) (h01 : s0 ≤ 3) (h10 : 1 ≤ s1) (h11 : s1 ≤ 3) (h20 : 1 ≤ s2) (h21 : s2 ≤ 3) (hns : (e = 0 ∧ ns = [s0, s1, s2, 0, 5]) ∨ (e ≠ 0 ∧ (ns = [s0, s1, s2, 127, 2] ∨ ns = [s0, s1, s2]))) (hd : dp + 5 < recursionLimit) (hu : un + 300 < cLine)
  (hret : ∀ l ws n h' tk' st, Fr h₀ L h' m → News h₀ L h' ((l, W.listOf ws.toArray n) :: news) → IntsAre ws (toldF s0 s1 s2 e) → (∀ p ∈ news, p.1 < l) → st.bare = true → Q (.ref l) { s with heap := h', toks := tk', gens := s.gens.push st }) :
  wpAny (model PR w) (ktrTop dp un gd cn cs L a ccd cl outer) (call (.ref 157) [.ref lr]) Q E s := by
  refine wpAny_call ?_
  k_dflt cell_enter
  walk_at "GO"
  refine wpAny_For ?_ ?hs
  case hs => intro x; rfl
  walk_at "GO"
  rename Fr _ _ _ _ => kF
  rename News _ _ _ _ => kN
  rename Frag.In _ _ => kX
  rename Top _ _ _ _ _ _ => kT
  refine nm1 kN fun lt e9 => ?_
  subst e9
  refine gen_call (show dp + 1 < recursionLimit by omega) ((kX.keeps kF.keep) 28 _ (by with_unfolding_all exact rfl)) rfl rfl rfl rfl (codeRec_of (kX.keeps kF.keep) (by k_is)) (kT.nolimit.keeps kF.keep) (BindsTo.of_eq rfl) ?hcell ?hloc rfl ?_
  case hcell => decide
  case hloc => exact locs rfl
  intro hG oG og hG1 hG2 hG3 hG4 hG5 hG6
  have nF := kF.keeps hG5
  have nN := kN.grown hG5
  walk_at "GO"
  refine wpAny_pyIter_gen (gen_at hG3 hG4) ?_
  refine gen_loop (σ := List Value × List Int × Nat × Int × Nat) (x := Str.ofString "size") (xl := Str.ofString "left") (G := _) (oG0 := oG) (row := (lr, W.listOf vs.toArray nr)) (fun c => (lt, W.listOf c.1.toArray c.2.2.1) :: news) (fun c => (c.2.2.2.1, c.2.2.2.2)) (fun i c => IntsAre c.1 c.2.1 ∧ TInv s0 s1 s2 e i c.2.1 c.2.2.2.1) ([], [], 0, 10, _) (strm s0 s1 s2) (e ≠ 0) rfl (show dp + 1 < recursionLimit by omega) kT.nolimit rfl rfl rfl hG4 rfl nF ?N rfl ?hLG ?hL ?hG0 ?hrow rfl ⟨.nil, (show (10 : Int) + ((0 : Nat) : Int) ≤ 10 by decide), (show (1 : Int) ≤ 10 by decide), rfl, rfl⟩ hG2 ?hgoes (fun _ _ h => tinv_lt h.2) ?step ?done
  case hgoes =>
    intro s'' F1 N1 hsz
    refine ⟨rfl, seg_func ?_⟩
    refine seg_execs_cons (seg_stmt ?_)
    walk_at "GO"
    refine wpAny_storeName_local rfl F1.ns (fun h4 hn4 hs4 => ?_) rfl
    replace hs4 : Heap.SameBut _ s''.heap h4 := hs4
    have F4 := F1.set hn4 hs4
    have N4 := N1.set hs4
    dsimp only
    refine seg_execs_cons (seg_for (by intro x; rfl) ?_)
    walk_at "GO"
    have hlr := lst_of N4 (.head _)
    refine pyIter_listI hlr (hs4.1.trans hsz) ?_
    intro p9
    refine seg_recG (ginv_init (val := strm s0 s1 s2) F4 N4 hs4 hsz) ?turn
    case turn =>
      clear F4 N4 F1 N1 hlr hsz hs4 hn4
      intro n ih q0 q1 hinv
      obtain ⟨j, lv, u, oI, hj1, hj3, hrel, gF, gN, hc, hdt, hlv⟩ := hinv.go
      refine seg_forLoop ?_
      rcases Nat.lt_or_ge j 3 with hj | hj
      · obtain ⟨t9, hv9⟩ := ints_get hi (strm_get hns hj)
        have hx1 := strm_pos h00 h10 h20 j
        have hx3 := strm_le h01 h11 h21 j
        obtain ⟨xj, hxj⟩ : ∃ x, x = strm s0 s1 s2 j := ⟨_, rfl⟩
        rw [← hxj] at hv9 hx1 hx3
        refine g_item gF gN hc hdt hv9 rfl rfl ?_
        intro h5 oI5 tk5 hk5 F5 N5 hc5 hd5
        refine seg_execs_cons (seg_if ?_)
        walk_at "GO"
        rw [if_neg (by first | (simp only [beq_iff_eq]; omega) | (simp; omega))]
        refine seg_execs_nil ?_
        dsimp only
        refine seg_execs_cons (seg_if ?_)
        walk_at "GO"
        rw [if_neg (by first | (simp only [beq_iff_eq]; omega) | (simp; omega))]
        refine seg_execs_nil ?_
        dsimp only
        refine seg_execs_cons (seg_Expr_Yield rfl rfl rfl ?_)
        walk_at "GO"
        rename Resume → Shared → Prop => kap
        rename (∀ x s'', _ → kap (Resume.send x) s'') => hkap
        refine yg_intro hrel hk5 (fun _ => by omega) (by rw [show 19 - n = j by omega]; exact hxj) F5 N5 ?_
        intro hn0 s6 F6 N6
        obtain ⟨k, rfl⟩ := Nat.exists_eq_succ_of_ne_zero hn0
        refine hkap .none s6 ?_
        dsimp only
        refine seg_execs_cons (seg_stmt ?_)
        walk_at "GO"
        refine wpAny_storeName_local rfl F6.ns (fun h7 hn7 hs7 => ?_) rfl
        replace hs7 : Heap.SameBut _ s6.heap h7 := hs7
        have F7 := F6.set hn7 hs7
        have N7 := N6.set hs7
        dsimp only
        refine seg_execs_nil ?_
        refine seg_again rfl ?_
        refine ih k rfl s6 _ ⟨j + 1, _, _, oI5, by omega, by omega, ⟨h7, _, rfl, fun b o n1 n2 y => hs7.extBut b o n1 y⟩, F7, N7, hc5, hd5, fun _ => ⟨_, by rw [Nat.add_sub_cancel, ← hxj]⟩⟩
      · have hj0 : j = 3 := Nat.le_antisymm hj3 hj
        subst hj0
        have hn16 : n = 16 := by omega
        obtain ⟨t8, hlv⟩ := hlv (by decide)
        subst hlv
        rcases hns with ⟨he0, hn0⟩ | ⟨he0, hn0 | hn0⟩
        · obtain ⟨t9, hv9⟩ := ints_get hi (show ns[3]? = some 0 by rw [hn0]; rfl)
          refine g_item gF gN hc hdt hv9 rfl rfl ?_
          intro h5 oI5 tk5 hk5 F5 N5 hc5 hd5
          refine seg_execs_cons (seg_if ?_)
          walk_at "GO"
          rw [if_neg (by decide)]
          refine seg_execs_nil ?_
          dsimp only
          refine seg_execs_cons (seg_if ?_)
          walk_at "GO"
          rw [if_pos (by decide)]
          refine seg_execs_cons (seg_if ?_)
          walk_at "GO"
          first | rw [if_neg (by decide)] | skip
          refine seg_execs_nil ?_
          dsimp only
          refine seg_execs_cons (seg_While ?_)
          intro p8
          subst hn16
          refine seg_recW (v := .int s2 t8) ⟨_, oI5, Nat.le_refl _, grel_to hrel hk5, F5, ?_, N5⟩ ?_
          · rw [strm_big (by decide)]; rfl
          clear F5 N5 hc5 hd5 hk5
          intro n ihw w0 w1 hw
          obtain ⟨mw, oIw, hw1, hw2, hw3, hw4, hw5⟩ := hw.go
          have hw6 := fr_pin hw3 hw4
          refine seg_whileLoop ?_
          walk_at "GO"
          refine seg_execs_cons (seg_Expr_Yield rfl rfl rfl ?_)
          walk_at "GO"
          rename Resume → Shared → Prop => kap
          rename (∀ x s'', _ → kap (Resume.send x) s'') => hkap
          refine yg_intro hw2 (fun b o n1 n2 y => y) (fun z => absurd he0 z) (by rw [strm_big (by omega)]) hw6 hw5 ?_
          intro hn0 s6 F6 N6
          obtain ⟨k, rfl⟩ := Nat.exists_eq_succ_of_ne_zero hn0
          refine hkap .none s6 ?_
          dsimp only
          refine seg_execs_nil ?_
          refine seg_again rfl ?_
          exact ihw k rfl s6 _ ⟨_, oIw, by omega, ⟨s6.heap, s6.toks, rfl, fun b o n1 n2 y => y⟩, F6, if_pos rfl, N6⟩
        · obtain ⟨t9, hv9⟩ := ints_get hi (show ns[3]? = some 127 by rw [hn0]; rfl)
          refine g_item gF gN hc hdt hv9 rfl rfl ?_
          intro h5 oI5 tk5 hk5 F5 N5 hc5 hd5
          refine seg_execs_cons (seg_if ?_)
          walk_at "GO"
          rw [if_pos (by decide)]
          refine seg_execs_cons (seg_stmt ?_)
          walk_at "GO"
          dsimp only
          refine seg_leaf (.ok (.ret .none)) ?_
          refine seg_end (.ok (.ret .none)) ⟨rfl, ?_⟩
          refine pg_intro he0 (by omega) hrel hk5
        · have n1 := gN _ (.head _)
          refine wpAny_pyNext_list_end rfl ⟨oI, n1.1, hc, hdt⟩ (lst_of gN (.tail _ (.head _))) (by rw [List.getElem?_toArray]; exact List.getElem?_eq_none (by rw [hi.length, hn0]; exact Nat.le_refl 3)) fun h5 hk5 => ?_
          dsimp only
          refine seg_again rfl ?_
          refine seg_leaf (.ok .next) ?_
          refine seg_end (.ok (.ret .none)) ⟨rfl, ?_⟩
          refine pg_intro he0 (by omega) hrel (fun b o n1 n2 y => hk5 b o n2 y)
  case N =>
    intro p hp
    rcases List.mem_cons.mp hp with z | z
    · subst z; exact ⟨hG1, Nat.ne_of_gt kF.ns.lt, ktu_new kF (Nat.le_refl _)⟩
    · rcases List.mem_cons.mp z with z | z
      · subst z; exact ⟨hG3, Nat.ne_of_gt (Nat.lt_succ_of_lt kF.ns.lt), ktu_new kF (Nat.le_succ _)⟩
      · exact nN p z
  case hLG =>
    intro c p hp
    rcases List.mem_cons.mp hp with z | z
    · subst z; exact Heap.lt_size (kN _ (.head _)).1
    · exact Heap.lt_size (kN _ (.tail _ z)).1
  case hL => exact kF.ns.lt
  case hG0 => exact Nat.le_trans kF.above (Nat.le_of_lt kF.ns.lt)
  case hrow => exact fun c => .tail _ hm
  case step =>
    have a1 := Heap.lt_size (kN _ (.head _)).1
    have a2 := Nat.lt_succ_of_lt a1
    have a3 := Nat.lt_of_lt_of_eq (Nat.lt_succ_of_lt a2) hG6.symm
    have a4 : ∀ p ∈ news, p.1 < lt := by assumption
    clear nF nN kF kN hG1 hG2 hG3 hG5
    rintro i ⟨tv, ts, nn, lf, tl⟩ t h tk oG' oI st ⟨hti, htv⟩ he3 hb F1 N1
    dsimp only at hti htv F1 N1
    have hlen := hti.length
    have htop := htv.top
    have hlow := htv.low
    have hln := htv.len
    have hx1 := strm_pos h00 h10 h20 i
    have hx3 := strm_le h01 h11 h21 i
    obtain ⟨xi, hxi⟩ : ∃ x, x = strm s0 s1 s2 i := ⟨_, rfl⟩
    rw [← hxi] at hx1 hx3 F1
    walk_at "GO"
    · have hz := tinv_brk htv he3 (by rw [← hxi]; omega)
      rename News _ _ _ _ => nE
      refine hret _ _ _ _ _ _ (by assumption) (news_drop1 (news_drop2 (news_drop2 nE))) (by rw [← hz]; assumption) (by first | (walk_at "LT") | exact kst_ltOf (And.right (And.right (And.right (And.right (And.right (by assumption))))))) hb
    · have hnl : ¬ lf ≤ xi := by omega
      have hz := tinv_next htv he3 (by rw [← hxi]; exact hx1) (by rw [← hxi]; exact hnl)
      rw [← hxi] at hz
      refine append_at (by assumption) (by assumption) (.tail (Nat.ne_of_gt a1) (.tail (Nat.ne_of_gt a3) (.tail (Nat.ne_of_gt a2) (.head (fun p hp => Nat.ne_of_lt (a4 p hp)))))) (by rw [hlen, hln]; omega) ?_
      intro h9 F9 N9
      walk_at "GO"
      refine ⟨(_, ts ++ [xi], _, lf - xi, _), _, _, _, rfl, by assumption, rfl, fun z h1 h2 => by simp only [h1, h2, if_false], by assumption, ?_, hz⟩
      dsimp only
      first | l_intsW | kst_facts
  case done =>
    clear nF nN kF kN hG1 hG2 hG3 hG5
    rintro ⟨tv, ts, nn, lf, tl⟩ h tk m' he0 ⟨hti, htv⟩ F1 hml hls N1
    dsimp only at hti htv hml N1
    have hlen := hti.length
    have htop := htv.top
    have hlow := htv.low
    have hln := htv.len
    have hz := tinv_end htv he0
    have F2 := fr_left F1 hml hls
    clear F1 hml hls
    walk_at "GO"
    rename News _ _ _ _ => nE
    refine hret _ _ _ _ _ _ (by assumption) (news_drop2 nE) (by rw [← hz]; assumption) (by first | (walk_at "LT") | exact kst_ltOf (And.right (And.right (by assumption)))) rfl
end T3
namespace MineK
local macro_rules | `(tactic| walk_at "binaryOp Mult int int") => `(tactic| (refine mul_int ?_ (Mine.U1.small_mul (by assumption) (by assumption))))
theorem mul_spec {w : World} {V : Program} {lo : List Str} {mean : ExcName → Option Value} {mg mb : Str → Option Value}
  (dp un : Nat) (gd : Option (List Code)) (cn : Str) (cs : Scope) (a : Addr) (ccd : Value) (cl : List (Str × Addr)) (outer : List Env) (A₀ : Around) (base h₀ : Heap) (L : Addr) (m : Str → Option Value) (news : List (Addr × Obj)) (s : Shared) (Q E : Value → Shared → Prop)
  (x y : Int) (tx ty : Tok)
  (B : Below A₀ base outer h₀) (F : Fr h₀ L s.heap m) (X : (wpart.heap_1 w.params).In h₀) (N : News h₀ L s.heap news) (T : Top V lo mean mg mb h₀) (hk : cs.kind = .function)
  (hx : Mine.U1.Small x) (hy : Mine.U1.Small y) (hd : dp + 3 < recursionLimit) (hu : un + 30 < cLine)
  (hret : ∀ t h' tk', Fr h₀ L h' m → News h₀ L h' news → Q (.int (x * y) t) { s with heap := h', toks := tk' }) :
  wpAny (model PR w) (ktrTop dp un gd cn cs L a ccd cl outer) (call (.ref 56) [.int x tx, .int y ty]) Q E s := by
  refine wpAny_call ?_
  k_dflt cell_enter
  walk_at "GO"
  exact hret _ _ _ (by assumption) (by assumption)
theorem sub_spec {w : World} {V : Program} {lo : List Str} {mean : ExcName → Option Value} {mg mb : Str → Option Value}
  (dp un : Nat) (gd : Option (List Code)) (cn : Str) (cs : Scope) (a : Addr) (ccd : Value) (cl : List (Str × Addr)) (outer : List Env) (A₀ : Around) (base h₀ : Heap) (L : Addr) (m : Str → Option Value) (news : List (Addr × Obj)) (s : Shared) (Q E : Value → Shared → Prop)
  (x y : Int) (tx ty : Tok)
  (B : Below A₀ base outer h₀) (F : Fr h₀ L s.heap m) (X : (wpart.heap_1 w.params).In h₀) (N : News h₀ L s.heap news) (T : Top V lo mean mg mb h₀) (hk : cs.kind = .function)
   (hd : dp + 3 < recursionLimit) (hu : un + 30 < cLine)
  (hret : ∀ t h' tk', Fr h₀ L h' m → News h₀ L h' news → Q (.int (x - y) t) { s with heap := h', toks := tk' }) :
  wpAny (model PR w) (ktrTop dp un gd cn cs L a ccd cl outer) (call (.ref 63) [.int x tx, .int y ty]) Q E s := by
  refine wpAny_call ?_
  k_dflt cell_enter
  walk_at "GO"
  exact hret _ _ _ (by assumption) (by assumption)
end MineK
namespace MineL
local macro_rules | `(tactic| omega) => `(tactic| lia)
noncomputable def CLSf (L : Addr) : List (Str × Addr) := [(Str.ofString "depths", L + 1 + 1 + 1 + 1 + 1 + 1 + 1 + 1), (Str.ofString "count", L + 1 + 1 + 1 + 1 + 1 + 1 + 1), (Str.ofString "figures", L + 1 + 1 + 1 + 1 + 1 + 1), (Str.ofString "good", L + 1 + 1 + 1 + 1 + 1), (Str.ofString "told", L + 1 + 1 + 1 + 1), (Str.ofString "marks", L + 1 + 1 + 1), (Str.ofString "between", L + 1 + 1), (Str.ofString "order", L + 1)]
open Mine.F1 (figSt)
open Mine.L1 (padF wordsF text_le)
open Mine.R1 (figT rowT)
open Mine.E1 (findR loopE lastS ellF)
open Mine.U1 (Small runM RunSt)
noncomputable def sepF (k : Int) : Str := if k = 0 then Str.ofString "," else if k = 1 then Str.ofString "." else if k = 2 then Str.ofString "'" else Str.ofString " "
noncomputable def symsOf (o w3 : Int) : List Int := if o = 2 then (if w3 = 0 then [258, 38, 260, 15, 256, 16, 258] else if w3 = 1 then [257, 22, 259, 15, 256, 16, 258, 13, 258, 36, 258, 16, 257] else [257, 22, 256, 16, 258, 15, 259, 13, 258, 37, 258, 16, 257]) else (if w3 = 0 then [257, 22, 256, 16, 258, 13, 258, 38, 261, 15, 257, 16, 7, 261, 15, 257, 8] else if w3 = 1 then [257, 22, 259, 15, 256, 16, 258, 13, 258, 36, 258, 16, 257, 14, 258, 16, 257, 16, 257] else [257, 22, 256, 16, 258, 15, 259, 13, 258, 37, 7, 258, 15, 258, 16, 257, 8, 16, 257])
noncomputable def partS (ts : List Int) : List Int := (List.range ts.length).map fun i => (ts.take (i + 1)).sum
structure ToldOk (ts ms : List Int) : Prop where
  len : ts.length ≤ 10
  pos : 1 ≤ ts.length
  rng : ∀ x ∈ ts, 1 ≤ x ∧ x ≤ 10
  sum : ts.sum = 10
  eq : ms = partS ts
structure Pre (d1 av ov ordv : Int) (sy ts ms : List Int) (sep : Str) : Prop where
  alo : -200 < av
  ahi : av < 210
  olo : 1 ≤ ov
  ohi : ov ≤ 9
  inv : (av * ov) % 10 = 1
  ord : ordv = 2 ∨ ordv = 3
  syms : ∃ k, 0 ≤ k ∧ k < 3 ∧ sy = symsOf ordv k ++ [0]
  told : ToldOk ts ms
  sp : ∃ k, sep = sepF k
  dlo : 0 ≤ d1
noncomputable def lineF (ts : List Int) (b : Str) (x : Int) : Str := Txt.join b (wordsF ts x []) ++ Str.ofString "\n"
noncomputable def pageF (ts : List Int) (b : Str) (xs : List Int) : Str := xs.foldl (fun acc x => acc ++ lineF ts b x) (Str.ofString "")
structure CInv (a x0 o : Int) (ts : List Int) (b : Str) (k : Nat) (x : Int) (page : Str) (xs : List Int) : Prop where
  len : xs.length = k
  val : ∀ i, i < k → 1 - a * xs.getD i 0 = (1 - a * x0) ^ (o.toNat ^ i)
  pg : page = pageF ts b xs
  cur : x = if k = 0 then x0 else xs.getD (k - 1) 0
  pl : page.length ≤ 200 * k
noncomputable def Sz (v : Int) : Prop := v.natAbs ≤ 2 ^ 200
structure GoodOk (f g : Int) : Prop where
  lo : 1 ≤ g
  hi : g ≤ 10
  div : f.fmod (10 ^ g.toNat) = 0
  max : g = 10 ∨ f.fmod (10 ^ (g + 1).toNat) ≠ 0
noncomputable def rowD (figs ms : List Int) (b : Str) (d : Int) : Str := Str.ofString "..." ++ rowT figs ms b d.toNat ++ Str.ofString "\n"
noncomputable def rowsD (figs ms : List Int) (b : Str) (ds : List Int) : List Str := (List.range ds.length).map fun i => rowD figs ms b (ds.getD i 0)
noncomputable def wantF (figs ms : List Int) (b : Str) (ds : List Int) : Str := Txt.join (Str.ofString "") (rowsD figs ms b ds)
noncomputable def rowsF (figs ms : List Int) (b : Str) (ds : List Int) : List Str := (List.range ds.length).map fun i => rowT figs ms b (ds.getD i 0).toNat ++ Str.ofString "\n"
structure WantOk (figs ms : List Int) (b : Str) (ds : List Int) : Prop where
  sum : ((rowsD figs ms b ds).map (·.length)).sum ≤ 1000
  len : (wantF figs ms b ds).length ≤ 1000
  hin : (Builtin.Str.occurrences (wantF figs ms b ds) (Str.ofString "...") 0 (wantF figs ms b ds).length 1).isEmpty = false
  spl : Txt.split (wantF figs ms b ds) (Str.ofString "...") = Str.ofString "" :: rowsF figs ms b ds
  last : 0 < (lastS (rowsF figs ms b ds)).length
  rb : ∀ r ∈ rowsF figs ms b ds, r.length ≤ 1000
open Mine.D1 (drawn_spec DrawnOk)
section
open Mine.F1 (figSt)
open Mine.L1 (padF wordsF text_le)
open Mine.R1 (figT rowT)
open Mine.E1 (findR loopE lastS ellF)
open Mine.U1 (Small runM RunSt)
noncomputable def Bd (n : Nat) (v : Int) : Prop := v.natAbs ≤ 2 ^ n
theorem Bd.mono {n m : Nat} {v : Int} (h : Bd n v) (k : n ≤ m) : Bd m v := Nat.le_trans h (Nat.pow_le_pow_right (by decide) k)
theorem Bd.mul {n m : Nat} {u v : Int} (h : Bd n u) (k : Bd m v) : Bd (n + m) (u * v) := by
  unfold Bd at *
  rw [Int.natAbs_mul, Nat.pow_add]
  exact Nat.mul_le_mul h k
theorem two_pow_succ (n m : Nat) : 2 ^ n + 2 ^ m ≤ 2 ^ (n + m + 1) := by
  rw [Nat.pow_succ, Nat.mul_two]
  exact Nat.add_le_add (Nat.pow_le_pow_right (by decide) (by omega)) (Nat.pow_le_pow_right (by decide) (by omega))
theorem Bd.add {n m : Nat} {u v : Int} (h : Bd n u) (k : Bd m v) : Bd (n + m + 1) (u + v) :=
  Nat.le_trans (Int.natAbs_add_le u v) (Nat.le_trans (Nat.add_le_add h k) (two_pow_succ n m))
theorem Bd.sub {n m : Nat} {u v : Int} (h : Bd n u) (k : Bd m v) : Bd (n + m + 1) (u - v) := by
  have : Bd m (-v) := by unfold Bd; rw [Int.natAbs_neg]; exact k
  have := h.add this
  rwa [← Int.sub_eq_add_neg] at this
theorem bd1 : Bd 0 1 := by unfold Bd; decide
theorem bd2 : Bd 1 2 := by unfold Bd; decide
theorem bd3 : Bd 2 3 := by unfold Bd; decide
theorem Bd.small {n : Nat} {v : Int} (h : Bd n v) (k : n < 4096) : Small v := by
  unfold Small
  exact Nat.lt_of_le_of_lt h (Nat.pow_lt_pow_right (by decide) k)
theorem all_nil {P : Int → Prop} : ∀ v ∈ ([] : List Int), P v := fun _ h => nomatch h
theorem all_cons {P : Int → Prop} {x : Int} {r : List Int} (h : P x) (k : ∀ v ∈ r, P v) : ∀ v ∈ x :: r, P v := fun v hv => by
  rcases List.mem_cons.mp hv with e | e
  · rw [e]; exact h
  · exact k v e
local macro_rules | `(tactic| walk_at "BD") => `(tactic| first | assumption | exact bd1 | exact bd2 | exact bd3 | (apply Bd.mul <;> walk_at "BD") | (apply Bd.add <;> walk_at "BD") | (apply Bd.sub <;> walk_at "BD"))
local macro_rules | `(tactic| walk_at "BDS1") => `(tactic| exact Bd.small (by walk_at "BD") (by decide))
local macro_rules | `(tactic| walk_at "BDS") => `(tactic| (repeat' (first | exact all_nil | refine all_cons ?_ ?_)) <;> (first | assumption | exact Bd.small (by walk_at "BD") (by decide)))
theorem run20 (a t x : Int) : runM (symsOf 2 0 ++ [0]) ⟨[], [], 0, 0, [a, t, x], []⟩ = some ⟨[], [], 2, 2, [a, t, x * (2 - (a * x))], [x * (2 - (a * x)), 2 - (a * x), a * x, x, a, 2, x]⟩ := by kernel_rfl
theorem run21 (a t x : Int) : runM (symsOf 2 1 ++ [0]) ⟨[], [], 0, 0, [a, t, x], []⟩ = some ⟨[], [], 1, 2, [a, 1 - (a * x), x + (x * (1 - (a * x)))], [x + (x * (1 - (a * x))), x * (1 - (a * x)), 1 - (a * x), x, x, 1 - (a * x), 1 - (a * x), a * x, x, a, 1, t]⟩ := by kernel_rfl
theorem run22 (a t x : Int) : runM (symsOf 2 2 ++ [0]) ⟨[], [], 0, 0, [a, t, x], []⟩ = some ⟨[], [], 1, 2, [a, (a * x) - 1, x - (x * ((a * x) - 1))], [x - (x * ((a * x) - 1)), x * ((a * x) - 1), (a * x) - 1, x, x, (a * x) - 1, (a * x) - 1, 1, a * x, x, a, t]⟩ := by kernel_rfl
theorem run30 (a t x : Int) : runM (symsOf 3 0 ++ [0]) ⟨[], [], 0, 0, [a, t, x], []⟩ = some ⟨[], [], 1, 2, [a, a * x, x * (3 - ((a * x) * (3 - (a * x))))], [x * (3 - ((a * x) * (3 - (a * x)))), 3 - ((a * x) * (3 - (a * x))), (a * x) * (3 - (a * x)), 3 - (a * x), a * x, 3, a * x, 3, x, a * x, a * x, x, a, t]⟩ := by kernel_rfl
theorem run31 (a t x : Int) : runM (symsOf 3 1 ++ [0]) ⟨[], [], 0, 0, [a, t, x], []⟩ = some ⟨[], [], 1, 2, [a, 1 - (a * x), x + ((x * (1 - (a * x))) + ((x * (1 - (a * x))) * (1 - (a * x))))], [x + ((x * (1 - (a * x))) + ((x * (1 - (a * x))) * (1 - (a * x)))), (x * (1 - (a * x))) + ((x * (1 - (a * x))) * (1 - (a * x))), (x * (1 - (a * x))) * (1 - (a * x)), 1 - (a * x), x * (1 - (a * x)), 1 - (a * x), x, x * (1 - (a * x)), 1 - (a * x), x, x, 1 - (a * x), 1 - (a * x), a * x, x, a, 1, t]⟩ := by kernel_rfl
theorem run32 (a t x : Int) : runM (symsOf 3 2 ++ [0]) ⟨[], [], 0, 0, [a, t, x], []⟩ = some ⟨[], [], 1, 2, [a, (a * x) - 1, x - ((x - (x * ((a * x) - 1))) * ((a * x) - 1))], [x - ((x - (x * ((a * x) - 1))) * ((a * x) - 1)), (x - (x * ((a * x) - 1))) * ((a * x) - 1), (a * x) - 1, x - (x * ((a * x) - 1)), x * ((a * x) - 1), (a * x) - 1, x, x, x, (a * x) - 1, (a * x) - 1, 1, a * x, x, a, t]⟩ := by kernel_rfl
theorem run_ok {o k a t x : Int} (ho : o = 2 ∨ o = 3) (hk0 : 0 ≤ k) (hk1 : k < 3) (ha : Sz a) (hx : Sz x) (ht : Small t) :
    ∃ fin, runM (symsOf o k ++ [0]) ⟨[], [], 0, 0, [a, t, x], []⟩ = some fin ∧ (∀ v ∈ fin.log, Small v) ∧ ∃ t' x', fin.held = [a, t', x'] ∧ Small t' ∧ 1 - a * x' = (1 - a * x) ^ o.toNat := by
  have ha : Bd 200 a := ha
  have hx : Bd 200 x := hx
  have hk : k = 0 ∨ k = 1 ∨ k = 2 := by omega
  rcases ho with rfl | rfl <;> rcases hk with rfl | rfl | rfl
  · exact ⟨_, run20 a t x, by walk_at "BDS", _, _, rfl, ht, by show _ = (1 - a * x) ^ 2; grind⟩
  · exact ⟨_, run21 a t x, by walk_at "BDS", _, _, rfl, (by walk_at "BDS1"), by show _ = (1 - a * x) ^ 2; grind⟩
  · exact ⟨_, run22 a t x, by walk_at "BDS", _, _, rfl, (by walk_at "BDS1"), by show _ = (1 - a * x) ^ 2; grind⟩
  · exact ⟨_, run30 a t x, by walk_at "BDS", _, _, rfl, (by walk_at "BDS1"), by show _ = (1 - a * x) ^ 3; grind⟩
  · exact ⟨_, run31 a t x, by walk_at "BDS", _, _, rfl, (by walk_at "BDS1"), by show _ = (1 - a * x) ^ 3; grind⟩
  · exact ⟨_, run32 a t x, by walk_at "BDS", _, _, rfl, (by walk_at "BDS1"), by show _ = (1 - a * x) ^ 3; grind⟩
theorem pow_bd {n : Nat} {f : Int} (h : Bd n f) : ∀ k : Nat, Bd (n * k) (f ^ k)
  | 0 => by rw [Int.pow_zero, Nat.mul_zero]; unfold Bd; decide
  | k + 1 => by rw [Int.pow_succ, Nat.mul_succ]; exact (pow_bd h k).mul h
theorem bd_of_first {a x F : Int} {n : Nat} (ha : a ≠ 0) (h : 1 - a * x = F) (hF : Bd n F) : Bd (n + 1) x := by
  have e : a * x = 1 - F := by omega
  have h1 : Bd (0 + n + 1) (a * x) := by rw [e]; exact bd1.sub hF
  have h2 : x.natAbs ≤ (a * x).natAbs := by
    rw [Int.natAbs_mul]
    exact Nat.le_mul_of_pos_left _ (Int.natAbs_pos.mpr ha)
  have h3 : Bd (0 + n + 1) x := Nat.le_trans h2 h1
  exact h3.mono (by omega)
theorem first_bd {a x0 : Int} (ha0 : -200 < a) (ha1 : a < 210) (h0 : -60 < x0) (h1 : x0 < 61) : Bd 16 (1 - a * x0) := by
  have p : (a * x0).natAbs ≤ 210 * 61 := by
    rw [Int.natAbs_mul]
    exact Nat.mul_le_mul (by omega) (by omega)
  show (1 - a * x0).natAbs ≤ 65536
  have := Int.natAbs_sub_le 1 (a * x0)
  omega
theorem ordn {o : Int} (ho : o = 2 ∨ o = 3) (n m : Nat) (h : n ≤ m) : o.toNat ^ n ≤ 3 ^ m := by
  rcases ho with rfl | rfl
  · exact Nat.le_trans (Nat.pow_le_pow_left (by decide : 2 ≤ 3) n) (Nat.pow_le_pow_right (by decide) h)
  · exact Nat.pow_le_pow_right (by decide) h
theorem cinv_bd {a x0 o x : Int} {ts : List Int} {b page : Str} {k : Nat} {xs : List Int} (h : CInv a x0 o ts b k x page xs) (m : Nat) (hk : k ≤ m + 1) (ho : o = 2 ∨ o = 3) (ha0 : -200 < a) (ha1 : a < 210) (ha : a ≠ 0) (h0 : -60 < x0) (h1 : x0 < 61) : Bd (16 * 3 ^ m + 1) x := by
  have hb := first_bd ha0 ha1 h0 h1
  have hc := h.cur
  by_cases hz : k = 0
  · rw [if_pos hz] at hc
    have : Bd 6 x := by
      show x.natAbs ≤ 64
      omega
    have h3 : 1 ≤ 3 ^ m := Nat.pos_of_ne_zero (by simp)
    exact this.mono (by omega)
  · rw [if_neg hz] at hc
    have hv := h.val (k - 1) (by omega)
    rw [← hc] at hv
    refine bd_of_first ha hv ((pow_bd hb _).mono ?_)
    exact Nat.mul_le_mul_left _ (ordn ho _ _ (by omega))
theorem cinv_sz {a x0 o x : Int} {ts : List Int} {b page : Str} {k : Nat} {xs : List Int} (h : CInv a x0 o ts b k x page xs) (hk : k < 4) (ho : o = 2 ∨ o = 3) (ha0 : -200 < a) (ha1 : a < 210) (ha : a ≠ 0) (h0 : -60 < x0) (h1 : x0 < 61) : Sz x :=
  (cinv_bd h 2 (by omega) ho ha0 ha1 ha h0 h1).mono (by decide)
theorem cinv_small {a x0 o x : Int} {ts : List Int} {b page : Str} {k : Nat} {xs : List Int} (h : CInv a x0 o ts b k x page xs) (hk : k ≤ 4) (ho : o = 2 ∨ o = 3) (ha0 : -200 < a) (ha1 : a < 210) (ha : a ≠ 0) (h0 : -60 < x0) (h1 : x0 < 61) : Small x :=
  (cinv_bd h 3 (by omega) ho ha0 ha1 ha h0 h1).small (by decide)
theorem figs_ok (a o : Int) : (figSt a o 10).2.length = 10 ∧ ∀ f ∈ (figSt a o 10).2, 0 ≤ f ∧ f < 10 := by
  have key : ∀ n, (figSt a o n).2.length = n ∧ ∀ f ∈ (figSt a o n).2, 0 ≤ f ∧ f < 10 := by
    intro n
    induction n with
    | zero => exact ⟨rfl, fun _ h => nomatch h⟩
    | succ n ih =>
      refine ⟨?_, ?_⟩
      · show ((figSt a o n).2 ++ [_]).length = _
        rw [List.length_append, ih.1]; rfl
      · intro f hf
        replace hf : f ∈ (figSt a o n).2 ++ [((figSt a o n).1 * o).fmod 10] := hf
        rcases List.mem_append.mp hf with h | h
        · exact ih.2 f h
        · rw [List.mem_singleton.mp h]
          exact ⟨Int.fmod_nonneg_of_pos _ (by decide), Int.fmod_lt_of_pos _ (by decide)⟩
  exact key 10
theorem sum_pos : ∀ {l : List Int}, (∀ x ∈ l, 1 ≤ x) → (l.length : Int) ≤ l.sum
  | [], _ => by simp
  | x :: r, h => by
    have h1 := h x (.head _)
    have h2 := sum_pos (l := r) fun y hy => h y (.tail _ hy)
    rw [List.length_cons, List.sum_cons]
    omega
theorem marks_rng {ts ms : List Int} (h : ToldOk ts ms) : ∀ d ∈ ms, 1 ≤ d ∧ d ≤ 10 := by
  intro d hd
  rw [h.eq] at hd
  unfold partS at hd
  obtain ⟨i, hi, rfl⟩ := List.mem_map.mp hd
  rw [List.mem_range] at hi
  have e : ts.sum = (ts.take (i + 1)).sum + (ts.drop (i + 1)).sum := by rw [← List.sum_append, List.take_append_drop]
  have h1 := sum_pos (l := ts.take (i + 1)) fun x hx => (h.rng x (List.mem_of_mem_take hx)).1
  have h2 := sum_pos (l := ts.drop (i + 1)) fun x hx => (h.rng x (List.mem_of_mem_drop hx)).1
  have h3 : (ts.take (i + 1)).length = i + 1 := by rw [List.length_take]; omega
  have h4 := h.sum
  omega
theorem dvd_mul25 {p u m : Nat} (hp : p = 2 ∨ p = 5) (h : p ∣ u * m) : p ∣ u ∨ p ∣ m := by
  have h0 := Nat.mod_eq_zero_of_dvd h
  rw [Nat.mul_mod] at h0
  have k2 : ∀ a b : Fin 2, (a.val * b.val) % 2 = 0 → a.val = 0 ∨ b.val = 0 := by decide +kernel
  have k5 : ∀ a b : Fin 5, (a.val * b.val) % 5 = 0 → a.val = 0 ∨ b.val = 0 := by decide +kernel
  rcases hp with rfl | rfl
  · exact (k2 ⟨u % 2, Nat.mod_lt _ (by decide)⟩ ⟨m % 2, Nat.mod_lt _ (by decide)⟩ h0).imp Nat.dvd_of_mod_eq_zero Nat.dvd_of_mod_eq_zero
  · exact (k5 ⟨u % 5, Nat.mod_lt _ (by decide)⟩ ⟨m % 5, Nat.mod_lt _ (by decide)⟩ h0).imp Nat.dvd_of_mod_eq_zero Nat.dvd_of_mod_eq_zero
theorem dvd_pow25 {p m : Nat} (hp : p = 2 ∨ p = 5) : ∀ {n : Nat}, p ∣ m ^ n → p ∣ m
  | 0, h => by
    rw [Nat.pow_zero] at h
    have := Nat.le_of_dvd (by decide) h
    rcases hp with rfl | rfl <;> omega
  | n + 1, h => by
    rw [Nat.pow_succ] at h
    rcases dvd_mul25 hp h with h | h
    · exact dvd_pow25 hp h
    · exact h
theorem split_pow {p : Nat} : ∀ (g F : Nat), ¬ p ^ (g + 1) ∣ F → ∃ k m, k ≤ g ∧ F = p ^ k * m ∧ ¬ p ∣ m
  | 0, F, h => ⟨0, F, Nat.le_refl _, by simp, by simpa using h⟩
  | g + 1, F, h => by
    by_cases hd : p ∣ F
    · obtain ⟨F', rfl⟩ := hd
      obtain ⟨k, m, hk, e, hm⟩ := split_pow g F' fun q => h (by rw [Nat.pow_succ, Nat.mul_comm]; exact Nat.mul_dvd_mul_left p q)
      exact ⟨k + 1, m, by omega, by rw [e, Nat.pow_succ, Nat.mul_comm (p ^ k) p, Nat.mul_assoc], hm⟩
    · exact ⟨0, F, Nat.zero_le _, by simp, hd⟩
theorem npow25 {p : Nat} (hp : p = 2 ∨ p = 5) {g F : Nat} (n : Nat) (h : ¬ p ^ (g + 1) ∣ F) : ¬ p ^ (g * n + 1) ∣ F ^ n := by
  intro q
  obtain ⟨k, m, hk, rfl, hm⟩ := split_pow g F h
  rw [Nat.mul_pow, ← Nat.pow_mul] at q
  have h1 : p ^ (k * n + 1) ∣ p ^ (k * n) * m ^ n := Nat.dvd_trans (Nat.pow_dvd_pow p (by have := Nat.mul_le_mul_right n hk; omega)) q
  rw [Nat.pow_succ] at h1
  have hpos : 0 < p ^ (k * n) := Nat.pow_pos (by rcases hp with rfl | rfl <;> decide)
  exact hm (dvd_pow25 hp (Nat.dvd_of_mul_dvd_mul_left hpos h1))
theorem pow_dvd' {a b : Nat} (h : a ∣ b) (n : Nat) : a ^ n ∣ b ^ n := by
  obtain ⟨c, rfl⟩ := h
  rw [Nat.mul_pow]
  exact ⟨_, rfl⟩
theorem ipow1 (f : Int) : f ^ 1 = f := by rw [Int.pow_succ, Int.pow_zero, Int.one_mul]
theorem ten_split {i F : Nat} (h2 : 2 ^ i ∣ F) (h5 : 5 ^ i ∣ F) : 10 ^ i ∣ F := by
  have : (10 : Nat) ^ i = 2 ^ i * 5 ^ i := by rw [← Nat.mul_pow]
  rw [this]
  exact Nat.Coprime.mul_dvd_of_dvd_of_dvd (Nat.Coprime.pow i i (by decide)) h2 h5
theorem dvd_nat {d n : Nat} {f : Int} : (10 : Int) ^ d ∣ f ^ n ↔ 10 ^ d ∣ f.natAbs ^ n := by
  rw [← Int.natAbs_dvd_natAbs, Int.natAbs_pow, Int.natAbs_pow]
  rfl
theorem good_iff {f g : Int} (h : GoodOk f g) {d n : Nat} (hd : d ≤ 10) (hn : 1 ≤ n) : (10 : Int) ^ d ∣ f ^ n ↔ (d : Int) ≤ g * n := by
  obtain ⟨g', rfl⟩ := Int.eq_ofNat_of_zero_le (by have := h.lo; omega : 0 ≤ g)
  have h1 := h.lo
  have h2 := h.hi
  rw [dvd_nat]
  have hdv : 10 ^ g' ∣ f.natAbs := by
    have e := h.div
    rw [Int.fmod_eq_emod_of_nonneg _ (Int.le_of_lt (Int.pow_pos (by decide)))] at e
    have e2 := Int.dvd_of_emod_eq_zero e
    have e3 := (dvd_nat (d := g') (n := 1) (f := f)).mp (by rw [ipow1]; exact e2)
    simpa using e3
  constructor
  · intro q
    refine Classical.byContradiction fun hlt => ?_
    have hgt : g' * n + 1 ≤ d := by
      have : ((g' * n : Nat) : Int) < d := by rw [Int.natCast_mul]; omega
      omega
    rcases h.max with e | e
    · have e : g' = 10 := by omega
      subst e
      have := Nat.mul_le_mul_left 10 hn
      omega
    · have hn10 : ¬ 10 ^ (g' + 1) ∣ f.natAbs := by
        intro w
        apply e
        rw [Int.fmod_eq_emod_of_nonneg _ (Int.le_of_lt (Int.pow_pos (by decide)))]
        apply Int.emod_eq_zero_of_dvd
        have e3 := (dvd_nat (d := g' + 1) (n := 1) (f := f)).mpr (by simpa using w)
        have e4 : ((g' : Int) + 1).toNat = g' + 1 := by omega
        rw [e4]
        rwa [ipow1] at e3
      have key : ∀ p, p = 2 ∨ p = 5 → p ∣ 10 → p ^ (g' + 1) ∣ f.natAbs := by
        intro p hp hp10
        refine Classical.byContradiction fun w => npow25 hp n w ?_
        have d1 : p ^ (g' * n + 1) ∣ p ^ d := Nat.pow_dvd_pow p hgt
        have d2 : p ^ d ∣ 10 ^ d := pow_dvd' hp10 d
        exact Nat.dvd_trans (Nat.dvd_trans d1 d2) q
      exact hn10 (ten_split (key 2 (.inl rfl) (by decide)) (key 5 (.inr rfl) (by decide)))
  · intro q
    have hle : d ≤ g' * n := by
      have : (d : Int) ≤ ((g' * n : Nat) : Int) := by rw [Int.natCast_mul]; exact q
      omega
    have d1 : (10 ^ g') ^ n ∣ f.natAbs ^ n := pow_dvd' hdv n
    rw [← Nat.pow_mul] at d1
    exact Nat.dvd_trans (Nat.pow_dvd_pow 10 hle) d1
noncomputable def dgt (x : Int) (i : Nat) : Int := (x / 10 ^ i) % 10
noncomputable def fgR (a o : Int) (k : Nat) : Int := (figSt a o k).1
noncomputable def fgD (a o : Int) (k : Nat) : Int := (fgR a o k * o) % 10
theorem fgR_succ (a o : Int) (k : Nat) : fgR a o (k + 1) = (fgR a o k - a * fgD a o k) / 10 := by
  show ((figSt a o k).1 - a * ((figSt a o k).1 * o).fmod 10).fdiv 10 = _
  rw [Int.fmod_eq_emod_of_nonneg _ (by decide), Int.fdiv_eq_ediv_of_nonneg _ (by decide)]
  rfl
theorem figs_len (a o : Int) (n : Nat) : (figSt a o n).2.length = n := by
  induction n with
  | zero => rfl
  | succ n ih =>
    show ((figSt a o n).2 ++ [_]).length = _
    rw [List.length_append, ih]; rfl
theorem figs_get (a o : Int) {n i : Nat} (h : i < n) : (figSt a o n).2.getD i 0 = fgD a o i := by
  induction n with
  | zero => omega
  | succ n ih =>
    show ((figSt a o n).2 ++ [((figSt a o n).1 * o).fmod 10]).getD i 0 = _
    rw [List.getD_eq_getElem?_getD]
    by_cases q : i < n
    · rw [List.getElem?_append_left (by rw [figs_len]; exact q), ← List.getD_eq_getElem?_getD]
      exact ih q
    · have e : i = n := by omega
      subst e
      rw [List.getElem?_append_right (by rw [figs_len]; omega), figs_len, Nat.sub_self]
      show ((figSt a o i).1 * o).fmod 10 = _
      rw [Int.fmod_eq_emod_of_nonneg _ (by decide)]
      rfl
theorem mod_a {a o R X : Int} (h : (a * o) % 10 = 1) : (R - a * X) % 10 = 0 ↔ X % 10 = (R * o) % 10 := by
  have hq : a * o = 10 * (a * o / 10) + 1 := by omega
  generalize a * o / 10 = q at hq
  constructor
  · intro e
    have ht : R = a * X + 10 * ((R - a * X) / 10) := by omega
    generalize (R - a * X) / 10 = t at ht
    have : R * o = X + 10 * (q * X + t * o) := by
      rw [ht]
      have : (a * X + 10 * t) * o = (a * o) * X + 10 * (t * o) := by grind
      rw [this, hq]; grind
    omega
  · intro e
    have hs : R * o = X + 10 * ((R * o - X) / 10) := by omega
    generalize (R * o - X) / 10 = s at hs
    have : R - a * X = 10 * (a * s - q * R) := by
      have h1 : a * (R * o) = a * X + 10 * (a * s) := by rw [hs]; grind
      have h2 : a * (R * o) = R + 10 * (q * R) := by
        have : a * (R * o) = (a * o) * R := by grind
        rw [this, hq]; grind
      omega
    omega
theorem match_iff {a o : Int} (h : (a * o) % 10 = 1) (x : Int) : ∀ k : Nat, ((∀ i, i < k → dgt x i = fgD a o i) ↔ (10 : Int) ^ k ∣ 1 - a * x) ∧ ((∀ i, i < k → dgt x i = fgD a o i) → 1 - a * x = 10 ^ k * (fgR a o k - a * (x / 10 ^ k)))
  | 0 => by
    refine ⟨⟨fun _ => ?_, fun _ i hi => absurd hi (Nat.not_lt_zero i)⟩, fun _ => ?_⟩
    · rw [Int.pow_zero]; exact Int.one_dvd _
    · rw [Int.pow_zero, Int.ediv_one, Int.one_mul]; rfl
  | k + 1 => by
    obtain ⟨ih1, ih2⟩ := match_iff h x k
    have e10 : x / 10 ^ (k + 1) = x / 10 ^ k / 10 := by
      rw [Int.pow_succ, Int.ediv_ediv_of_nonneg (Int.le_of_lt (Int.pow_pos (by decide)))]
    have stp : (∀ i, i < k + 1 → dgt x i = fgD a o i) → 1 - a * x = 10 ^ (k + 1) * (fgR a o (k + 1) - a * (x / 10 ^ (k + 1))) := by
      intro hm
      have hk := hm k (Nat.lt_succ_self k)
      have e := ih2 fun i hi => hm i (by omega)
      unfold dgt at hk
      rw [fgR_succ, e10, e, Int.pow_succ, Int.mul_assoc]
      congr 1
      have hz := (mod_a h (R := fgR a o k) (X := fgD a o k)).mpr (by unfold fgD; rw [Int.emod_emod_of_dvd _ (Int.dvd_refl _)])
      generalize x / 10 ^ k = X at *
      generalize fgD a o k = D at *
      generalize fgR a o k = R at *
      have hX : X = 10 * (X / 10) + D := by omega
      generalize X / 10 = Y at *
      have h3 : R - a * D = 10 * ((R - a * D) / 10) := by omega
      generalize (R - a * D) / 10 = Z at *
      subst hX
      have : a * (10 * Y + D) = 10 * (a * Y) + a * D := by grind
      omega
    refine ⟨⟨fun hm => ?_, fun hd => ?_⟩, stp⟩
    · exact ⟨_, stp hm⟩
    · have hd0 : (10 : Int) ^ k ∣ 1 - a * x := Int.dvd_trans ⟨10, by rw [Int.pow_succ]⟩ hd
      have hm := ih1.mpr hd0
      have e := ih2 hm
      intro i hi
      by_cases q : i < k
      · exact hm i q
      · have : i = k := by omega
        subst this
        rw [e, Int.pow_succ] at hd
        have h10 := Int.dvd_of_mul_dvd_mul_left (Int.ne_of_gt (Int.pow_pos (by decide))) hd
        exact (mod_a h).mp (Int.emod_eq_zero_of_dvd h10)
noncomputable def tl (s : Str) : List Nat := s.cps.toList
theorem tl_app (a b : Str) : tl (a ++ b) = tl a ++ tl b := by
  unfold tl; rw [Str.cps_append, Array.toList_append]
theorem tl_len (s : Str) : (tl s).length = s.length := by unfold tl Str.length; simp
theorem tl_inj {a b : Str} (h : tl a = tl b) : a = b := Str.ext' (Array.toList_inj.mp h)
theorem tl_nil : tl (Str.ofString "") = [] := by decide +kernel
theorem tl_nl : tl (Str.ofString "\n") = [10] := by decide +kernel
theorem tl_dots : tl (Str.ofString "...") = [46, 46, 46] := by decide +kernel
noncomputable def rowL (f : Nat → Nat) (ms : List Int) (c : Nat) : Nat → List Nat
  | 0 => []
  | k + 1 => f k :: (if (k : Int) ∈ ms then c :: rowL f ms c k else rowL f ms c k)
theorem rowL_succ (f : Nat → Nat) (ms : List Int) (c k : Nat) : rowL f ms c (k + 1) = f k :: (if (k : Int) ∈ ms then c :: rowL f ms c k else rowL f ms c k) := rfl
noncomputable def grp (f : Nat → Nat) (lo : Nat) : Nat → List Nat
  | 0 => []
  | n + 1 => f (lo + n) :: grp f lo n
theorem row_grp {f : Nat → Nat} {ms : List Int} {c lo : Nat} : ∀ n : Nat, (∀ k : Nat, lo < k → k < lo + (n + 1) → (k : Int) ∉ ms) →
    rowL f ms c (lo + (n + 1)) = grp f lo (n + 1) ++ (if (lo : Int) ∈ ms then c :: rowL f ms c lo else rowL f ms c lo)
  | 0, _ => rfl
  | n + 1, h => by
    have ih := row_grp (f := f) (c := c) n fun k h1 h2 => h k h1 (by omega)
    show f (lo + (n + 1)) :: (if ((lo + (n + 1) : Nat) : Int) ∈ ms then c :: rowL f ms c (lo + (n + 1)) else rowL f ms c (lo + (n + 1))) = _
    rw [if_neg (h (lo + (n + 1)) (by omega) (by omega)), ih]
    rfl
theorem figT_list {d : Int} (h0 : 0 ≤ d) (h1 : d < 10) : tl (figT d) = [48 + d.toNat] := by
  have key : ∀ a : Fin 10, tl (figT (a.val : Int)) = [48 + (a.val : Int).toNat] := by decide +kernel
  obtain ⟨n, rfl⟩ := Int.eq_ofNat_of_zero_le h0
  exact key ⟨n, by omega⟩
theorem getD_rng' {l : List Int} (h : ∀ f ∈ l, 0 ≤ f ∧ f < 10) (i : Nat) : 0 ≤ l.getD i 0 ∧ l.getD i 0 < 10 := by
  rw [List.getD_eq_getElem?_getD]
  cases e : l[i]? with
  | none => decide
  | some v => exact h v (List.mem_of_getElem? e)
theorem rowT_list {figs ms : List Int} {b : Str} {c : Nat} (hb : tl b = [c]) (hf : ∀ f ∈ figs, 0 ≤ f ∧ f < 10) : ∀ k, tl (rowT figs ms b k) = rowL (fun i => 48 + (figs.getD i 0).toNat) ms c k
  | 0 => tl_nil
  | k + 1 => by
    have ih := rowT_list (ms := ms) hb hf k
    have h := getD_rng' hf k
    show tl (figT (figs.getD k 0) ++ (if (k : Int) ∈ ms then b ++ rowT figs ms b k else rowT figs ms b k)) = _
    rw [tl_app, figT_list h.1 h.2]
    show (48 + (figs.getD k 0).toNat) :: tl _ = _ :: _
    congr 1
    split
    · rw [tl_app, hb, ih]; rfl
    · exact ih
theorem rowL_len {f g : Nat → Nat} {ms : List Int} {c : Nat} : ∀ k, (rowL f ms c k).length = (rowL g ms c k).length
  | 0 => rfl
  | k + 1 => by
    have ih := rowL_len (f := f) (g := g) (ms := ms) (c := c) k
    unfold rowL
    split <;> simp [ih]
theorem rowL_len_le {f : Nat → Nat} {ms : List Int} {c : Nat} : ∀ k, (rowL f ms c k).length ≤ 2 * k
  | 0 => Nat.le_refl _
  | k + 1 => by
    have ih := rowL_len_le (f := f) (ms := ms) (c := c) k
    unfold rowL
    split <;> simp <;> omega
theorem rowL_eq {f g : Nat → Nat} {ms : List Int} {c : Nat} : ∀ k, rowL f ms c k = rowL g ms c k ↔ ∀ i, i < k → f i = g i
  | 0 => ⟨fun _ i h => absurd h (Nat.not_lt_zero i), fun _ => rfl⟩
  | k + 1 => by
    have ih := rowL_eq (f := f) (g := g) (ms := ms) (c := c) k
    have e : rowL f ms c (k + 1) = rowL g ms c (k + 1) ↔ f k = g k ∧ rowL f ms c k = rowL g ms c k := by
      rw [rowL_succ, rowL_succ]
      split <;> simp
    rw [e, ih]
    constructor
    · rintro ⟨h1, h2⟩ i hi
      by_cases q : i < k
      · exact h2 i q
      · have : i = k := by omega
        subst this; exact h1
    · intro h
      exact ⟨h k (Nat.lt_succ_self k), fun i hi => h i (by omega)⟩
theorem rowL_tail {f : Nat → Nat} {ms : List Int} {c d : Nat} : ∀ e, ∃ u, rowL f ms c (d + e) = u ++ rowL f ms c d
  | 0 => ⟨[], rfl⟩
  | e + 1 => by
    obtain ⟨u, hu⟩ := rowL_tail (f := f) (ms := ms) (c := c) (d := d) e
    show ∃ u, (f (d + e) :: (if ((d + e : Nat) : Int) ∈ ms then c :: rowL f ms c (d + e) else rowL f ms c (d + e))) = _
    rw [hu]
    split
    · exact ⟨f (d + e) :: c :: u, rfl⟩
    · exact ⟨f (d + e) :: u, rfl⟩
theorem rowL_mem {f : Nat → Nat} {ms : List Int} {c : Nat} : ∀ k, ∀ z ∈ rowL f ms c k, z = c ∨ ∃ i, z = f i
  | 0, z, h => nomatch h
  | k + 1, z, h => by
    have ih := rowL_mem (f := f) (ms := ms) (c := c) k z
    unfold rowL at h
    split at h
    · rcases List.mem_cons.mp h with e | h
      · exact .inr ⟨k, e⟩
      · rcases List.mem_cons.mp h with e | h
        · exact .inl e
        · exact ih h
    · rcases List.mem_cons.mp h with e | h
      · exact .inr ⟨k, e⟩
      · exact ih h
noncomputable def dd : Nat → Nat → List Nat
  | 0, _ => []
  | fuel + 1, n => if n / 10 = 0 then [48 + n % 10] else dd fuel (n / 10) ++ [48 + n % 10]
theorem digitChar_nat {d : Nat} (h : d < 10) : (Nat.digitChar d).toNat = 48 + d := by
  have key : ∀ a : Fin 10, (Nat.digitChar a.val).toNat = 48 + a.val := by decide +kernel
  exact key ⟨d, h⟩
theorem core_dd : ∀ (fuel n : Nat) (ds : List Char), (Nat.toDigitsCore 10 fuel n ds).map Char.toNat = dd fuel n ++ ds.map Char.toNat
  | 0, n, ds => by simp [Nat.toDigitsCore, dd]
  | fuel + 1, n, ds => by
    unfold Nat.toDigitsCore dd
    have hd := digitChar_nat (d := n % 10) (Nat.mod_lt _ (by decide))
    by_cases h : n / 10 = 0
    · simp only [h, if_true, List.map_cons, hd]; rfl
    · simp only [h, if_false]
      rw [core_dd fuel (n / 10) (Nat.digitChar (n % 10) :: ds), List.map_cons, hd, List.append_assoc]
      rfl
theorem text_dd (m : Nat) : tl (Str.ofString (toString (m : Int))) = dd (m + 1) m := by
  have e := text_ofNat m
  show tl (Str.ofString (toString (Int.ofNat m))) = _
  rw [e]
  show (Nat.toDigits 10 m).map Char.toNat = _
  have := core_dd (m + 1) m []
  simpa [Nat.toDigits] using this
noncomputable def digs : Nat → Nat → List Nat
  | 0, _ => []
  | k + 1, v => digs k (v / 10) ++ [48 + v % 10]
theorem digs_zero : ∀ k, digs k 0 = List.replicate k 48
  | 0 => rfl
  | k + 1 => by
    show digs k 0 ++ [48] = _
    rw [digs_zero k, List.replicate_succ']
theorem dd_pad : ∀ (s v fuel : Nat), v < 10 ^ (s + 1) → v < fuel → (dd fuel v).length ≤ s + 1 ∧ List.replicate (s + 1 - (dd fuel v).length) 48 ++ dd fuel v = digs (s + 1) v
  | s, v, 0, _, h => absurd h (Nat.not_lt_zero v)
  | 0, v, fuel + 1, h, _ => by
    have : v / 10 = 0 := by
      have : v < 10 := by simpa using h
      omega
    unfold dd
    rw [if_pos this]
    exact ⟨Nat.le_refl _, rfl⟩
  | s + 1, v, fuel + 1, h, hf => by
    unfold dd
    by_cases h0 : v / 10 = 0
    · rw [if_pos h0]
      refine ⟨by simp, ?_⟩
      show _ = digs (s + 1) (v / 10) ++ [48 + v % 10]
      rw [h0, digs_zero]
      rfl
    · rw [if_neg h0]
      have hv : v / 10 < 10 ^ (s + 1) := by
        rw [Nat.pow_succ] at h
        exact Nat.div_lt_of_lt_mul (by rw [Nat.mul_comm]; exact h)
      obtain ⟨i1, i2⟩ := dd_pad s (v / 10) fuel hv (by omega)
      rw [List.length_append, List.length_singleton]
      refine ⟨by omega, ?_⟩
      show _ = digs (s + 1) (v / 10) ++ [48 + v % 10]
      rw [← i2, ← List.append_assoc]
      congr 2
      congr 1
      omega
theorem digs_top : ∀ (n v : Nat), digs (n + 1) v = (48 + v / 10 ^ n % 10) :: digs n v
  | 0, v => by simp [digs]
  | n + 1, v => by
    show digs (n + 1) (v / 10) ++ [48 + v % 10] = _
    rw [digs_top n (v / 10), Nat.div_div_eq_div_mul, show 10 * 10 ^ n = 10 ^ (n + 1) by rw [Nat.pow_succ, Nat.mul_comm]]
    rfl
theorem digs_grp {f : Nat → Nat} {lo v : Nat} : ∀ s : Nat, (∀ i, i < s → 48 + v / 10 ^ i % 10 = f (lo + i)) → digs s v = grp f lo s
  | 0, _ => rfl
  | s + 1, h => by
    rw [digs_top, digs_grp s fun i hi => h i (by omega), h s (Nat.lt_succ_self s)]
    rfl
theorem mul_list (n : Nat) : tl (Txt.mul (Str.ofString "0") (n : Int)) = List.replicate n 48 := by
  have e0 : tl (Str.ofString "0") = [48] := by decide +kernel
  have key : ∀ (k : Nat) (acc : Array Nat), (List.foldl (· ++ ·) acc (List.replicate k (Str.ofString "0").cps)).toList = acc.toList ++ List.replicate k 48 := by
    intro k
    induction k with
    | zero => intro acc; simp
    | succ k ih =>
      intro acc
      rw [List.replicate_succ, List.foldl_cons, ih, Array.toList_append]
      have : (Str.ofString "0").cps.toList = [48] := e0
      rw [this, List.append_assoc]
      rfl
  unfold Txt.mul
  by_cases h0 : (n : Int) < 1
  · have : n = 0 := by omega
    subst this
    rfl
  · rw [if_neg h0]
    split
    · rename_i h1
      have hl : (Str.ofString "0").length = 1 := by decide +kernel
      rw [hl] at h1
      have : n = 1 := by
        have : (n : Int) = 1 := by simpa using h1
        omega
      subst this
      exact e0
    · show (List.foldl (· ++ ·) #[] (List.replicate (n : Int).toNat (Str.ofString "0").cps)).toList = _
      rw [key]
      simp
theorem pad_list {s v : Nat} (hv : v < 10 ^ (s + 1)) : tl (padF ((s + 1 : Nat) : Int) (v : Int)) = digs (s + 1) v := by
  obtain ⟨h1, h2⟩ := dd_pad s v (v + 1) hv (Nat.lt_succ_self v)
  have ht := text_dd v
  have hl : ((Str.ofString (toString (v : Int))).length : Int) = ((dd (v + 1) v).length : Nat) := by rw [← ht, tl_len]
  unfold padF
  rw [tl_app, hl, ht, show (((s + 1 : Nat) : Int) - (((dd (v + 1) v).length : Nat) : Int)) = ((s + 1 - (dd (v + 1) v).length : Nat) : Int) by omega, mul_list]
  exact h2
noncomputable def joinL (c : Nat) : List (List Nat) → List Nat
  | [] => []
  | [x] => x
  | x :: r => x ++ c :: joinL c r
theorem join_list {b : Str} {c : Nat} (hb : tl b = [c]) : ∀ ws : List Str, tl (Str.join b ws) = joinL c (ws.map tl)
  | [] => rfl
  | [x] => rfl
  | x :: y :: r => by
    have ih := join_list hb (y :: r)
    show tl (x ++ b ++ Str.join b (y :: r)) = tl x ++ c :: joinL c ((y :: r).map tl)
    rw [tl_app, tl_app, hb, ih, List.append_assoc]
    rfl
theorem txt_join (b : Str) (ws : List Str) : Txt.join b ws = Str.join b ws := StrLaws.glued_eq_join b ws
noncomputable def Bnd (ms : List Int) : Nat → List Int → Prop
  | _, [] => True
  | lo, s :: r => 1 ≤ s ∧ (∀ k : Nat, lo < k → (k : Int) < lo + s → (k : Int) ∉ ms) ∧ (r ≠ [] → (lo : Int) + s ∈ ms) ∧ Bnd ms (lo + s.toNat) r
noncomputable def fx (x : Int) (i : Nat) : Nat := 48 + (dgt x i).toNat
theorem word_digit {y : Int} {s i : Nat} (hi : i < s) : ((y % 10 ^ s).toNat / 10 ^ i) % 10 = ((y / 10 ^ i) % 10).toNat := by
  have hp : (0 : Int) < 10 ^ s := Int.pow_pos (by decide)
  have hpi : (0 : Int) < 10 ^ i := Int.pow_pos (by decide)
  have h0 := Int.emod_nonneg y (Int.ne_of_gt hp)
  have e1 : (10 : Int) ^ s = 10 ^ i * (10 * 10 ^ (s - i - 1)) := by
    rw [← Int.mul_assoc, ← Int.pow_succ, ← Int.pow_add]
    congr 1; omega
  have e2 : (y % 10 ^ s) / 10 ^ i % 10 = y / 10 ^ i % 10 := by
    have e3 : y % 10 ^ s = y + 10 ^ i * (10 * (-(10 ^ (s - i - 1) * (y / 10 ^ s)))) := by
      rw [Int.emod_def, e1]; grind
    rw [e3, Int.add_mul_ediv_left _ _ (Int.ne_of_gt hpi), Int.add_mul_emod_self_left]
  rw [← e2]
  obtain ⟨v, hv⟩ := Int.eq_ofNat_of_zero_le h0
  rw [hv]
  show v / 10 ^ i % 10 = _
  have : ((v : Int) / 10 ^ i % 10) = ((v / 10 ^ i % 10 : Nat) : Int) := by
    rw [Int.natCast_emod, Int.natCast_ediv, Int.natCast_pow]; rfl
  rw [this]; rfl
theorem word_list {x : Int} {lo s : Nat} : tl (padF ((s + 1 : Nat) : Int) ((x / 10 ^ lo) % 10 ^ (s + 1))) = grp (fx x) lo (s + 1) := by
  have hp : (0 : Int) < 10 ^ (s + 1) := Int.pow_pos (by decide)
  have h0 := Int.emod_nonneg (x / 10 ^ lo) (Int.ne_of_gt hp)
  have h1 := Int.emod_lt_of_pos (x / 10 ^ lo) hp
  obtain ⟨v, hv⟩ := Int.eq_ofNat_of_zero_le h0
  have hlt : v < 10 ^ (s + 1) := by
    have : (v : Int) < ((10 ^ (s + 1) : Nat) : Int) := by rw [Int.natCast_pow, ← hv]; exact h1
    exact Int.ofNat_lt.mp this
  rw [hv, pad_list hlt]
  refine digs_grp _ fun i hi => ?_
  have := word_digit (y := x / 10 ^ lo) hi
  rw [hv] at this
  have e : ((v : Int)).toNat = v := rfl
  rw [e] at this
  rw [this]
  unfold fx dgt
  rw [Int.pow_add, Int.ediv_ediv_of_nonneg (Int.le_of_lt (Int.pow_pos (by decide)))]
theorem words_list {x : Int} {ms : List Int} {c : Nat} : ∀ (ts : List Int) (lo : Nat) (acc : List Str), Bnd ms lo ts →
    ((acc = [] ∧ lo = 0 ∧ (0 : Int) ∉ ms) ∨ (acc ≠ [] ∧ ((lo : Int) ∈ ms ∨ ts = []) ∧ joinL c (acc.map tl) = rowL (fx x) ms c lo)) → ts ≠ [] ∨ acc ≠ [] →
    joinL c ((wordsF ts (x.fdiv (10 ^ lo)) acc).map tl) = rowL (fx x) ms c (lo + ts.sum.toNat)
  | [], lo, acc, _, h, hne => by
    rcases h with ⟨h, _⟩ | ⟨_, _, h⟩
    · exact absurd h (hne.resolve_left (fun q => q rfl))
    · exact h
  | s :: r, lo, acc, hB, h, _ => by
    obtain ⟨hs, h1, h2, h3⟩ := hB
    obtain ⟨n, hn⟩ : ∃ n : Nat, s = ((n + 1 : Nat) : Int) := ⟨s.toNat - 1, by omega⟩
    have hpos : ∀ q ∈ r, True := fun _ _ => trivial
    have hst : s.toNat = n + 1 := by omega
    have hw : wordsF (s :: r) (x.fdiv (10 ^ lo)) acc = wordsF r (x.fdiv (10 ^ (lo + s.toNat))) (padF s ((x / 10 ^ lo) % 10 ^ (n + 1)) :: acc) := by
      show wordsF r ((x.fdiv (10 ^ lo)).fdiv (10 ^ s.toNat)) (padF s ((x.fdiv (10 ^ lo)).fmod (10 ^ s.toNat)) :: acc) = _
      rw [hst, Int.fdiv_eq_ediv_of_nonneg _ (Int.le_of_lt (Int.pow_pos (by decide))), Int.fdiv_eq_ediv_of_nonneg _ (Int.le_of_lt (Int.pow_pos (by decide))), Int.fdiv_eq_ediv_of_nonneg _ (Int.le_of_lt (Int.pow_pos (by decide))),
        Int.fmod_eq_emod_of_nonneg _ (Int.le_of_lt (Int.pow_pos (by decide))), Int.pow_add 10 lo (n + 1), Int.ediv_ediv_of_nonneg (Int.le_of_lt (Int.pow_pos (by decide)))]
    have hrow : joinL c ((padF s ((x / 10 ^ lo) % 10 ^ (n + 1)) :: acc).map tl) = rowL (fx x) ms c (lo + (n + 1)) := by
      have hg := row_grp (f := fx x) (ms := ms) (c := c) (lo := lo) n fun k q1 q2 => h1 k q1 (by omega)
      rw [hg, hn]
      rcases h with ⟨ha, hl, hz⟩ | ⟨ha, hl, hj⟩
      · subst ha hl
        show tl _ = _
        rw [word_list, if_neg (by exact hz)]
        simp [rowL]
      · obtain ⟨y, r', rfl⟩ := List.exists_cons_of_ne_nil ha
        have hl' := hl.resolve_right (by simp)
        rw [if_pos hl', ← hj, ← word_list]
        rfl
    have hsum : (s :: r).sum.toNat = (n + 1) + r.sum.toNat := by
      rw [List.sum_cons]
      have : ∀ (r : List Int) (lo : Nat), Bnd ms lo r → 0 ≤ r.sum := by
        intro r
        induction r with
        | nil => intro _ _; simp
        | cons a t ih =>
          intro lo hB
          have := ih _ hB.2.2.2
          have := hB.1
          rw [List.sum_cons]; omega
      have := this r _ h3
      omega
    rw [hw, hsum, ← Nat.add_assoc]
    rw [hst] at h3 ⊢
    refine words_list r (lo + (n + 1)) _ h3 (.inr ⟨by simp, ?_, hrow⟩) (.inr (by simp))
    by_cases hr : r = []
    · exact .inr hr
    · exact .inl (by have := h2 hr; rw [hn] at this; rw [Int.natCast_add]; exact this)
theorem sum_nonneg1 {l : List Int} (h : ∀ x ∈ l, 1 ≤ x) : 0 ≤ l.sum := by have := sum_pos h; omega
theorem bnd_part {ts : List Int} (hr : ∀ x ∈ ts, 1 ≤ x) : ∀ (r p : List Int), ts = p ++ r → ∀ lo : Nat, (lo : Int) = p.sum → Bnd (partS ts) lo r
  | [], _, _, _, _ => trivial
  | s :: r, p, e, lo, hl => by
    have hs : 1 ≤ s := hr s (by rw [e]; simp)
    have hp : ∀ x ∈ p, 1 ≤ x := fun x hx => hr x (by rw [e]; simp [hx])
    have hrr : ∀ x ∈ r, 1 ≤ x := fun x hx => hr x (by rw [e]; simp [hx])
    refine ⟨hs, ?_, ?_, bnd_part hr r (p ++ [s]) (by rw [e, List.append_assoc]; rfl) _ ?_⟩
    · intro k h1 h2 hk
      unfold partS at hk
      obtain ⟨i, hi, hk⟩ := List.mem_map.mp hk
      rw [e] at hk
      by_cases q : i + 1 ≤ p.length
      · rw [List.take_append_of_le_length q] at hk
        have e2 : p.sum = (p.take (i + 1)).sum + (p.drop (i + 1)).sum := by rw [← List.sum_append, List.take_append_drop]
        have := sum_nonneg1 (l := p.drop (i + 1)) fun x hx => hp x (List.mem_of_mem_drop hx)
        omega
      · obtain ⟨j, hj⟩ : ∃ j, i + 1 = p.length + (j + 1) := ⟨i - p.length, by omega⟩
        rw [hj, List.take_length_add_append, List.sum_append, List.take_succ_cons, List.sum_cons] at hk
        have := sum_nonneg1 (l := r.take j) fun x hx => hrr x (List.mem_of_mem_take hx)
        omega
    · intro hne
      unfold partS
      refine List.mem_map.mpr ⟨p.length, ?_, ?_⟩
      · rw [List.mem_range, e]; simp
      · rw [e, List.take_length_add_append, List.sum_append]
        simp; omega
    · rw [List.sum_append, List.sum_cons, List.sum_nil]
      omega
theorem zero_part {ts : List Int} (hr : ∀ x ∈ ts, 1 ≤ x) : (0 : Int) ∉ partS ts := by
  intro hk
  unfold partS at hk
  obtain ⟨i, hi, hk⟩ := List.mem_map.mp hk
  rw [List.mem_range] at hi
  have h1 := sum_pos (l := ts.take (i + 1)) fun x hx => hr x (List.mem_of_mem_take hx)
  have h3 : (ts.take (i + 1)).length = i + 1 := by rw [List.length_take]; omega
  omega
theorem line_list {ts ms : List Int} {b : Str} {c : Nat} (x : Int) (h : ToldOk ts ms) (hb : tl b = [c]) : tl (lineF ts b x) = rowL (fx x) ms c 10 ++ [10] := by
  unfold lineF
  rw [tl_app, tl_nl, txt_join, join_list hb]
  have hr : ∀ x ∈ ts, 1 ≤ x := fun x hx => (h.rng x hx).1
  have hne : ts ≠ [] := fun q => by have := h.pos; rw [q] at this; exact absurd this (by decide)
  have hw := words_list (x := x) (ms := ms) (c := c) ts 0 [] (by rw [h.eq]; exact bnd_part hr ts [] rfl 0 rfl) (.inl ⟨rfl, rfl, by rw [h.eq]; exact zero_part hr⟩) (.inl hne)
  rw [Int.pow_zero, Int.fdiv_one] at hw
  rw [hw, h.sum]
  rfl
theorem line_len {ts ms : List Int} {b : Str} (x : Int) (h : ToldOk ts ms) (hb : b.length = 1) : (lineF ts b x).length ≤ 200 := by
  obtain ⟨c, hc⟩ : ∃ c, tl b = [c] := by
    have := tl_len b
    rw [hb] at this
    exact List.length_eq_one_iff.mp this
  rw [← tl_len, line_list x h hc, List.length_append]
  have := rowL_len_le (f := fx x) (ms := ms) (c := c) 10
  simp
  omega
open Builtin Builtin.Str
theorem at_iff {x y : Str} {hi i : Nat} (hh : hi ≤ x.length) : StrLaws.At x y hi i ↔ i + y.length ≤ hi ∧ ∀ k, k < y.length → (tl x)[i + k]? = (tl y)[k]? := by
  unfold StrLaws.At
  rw [StrLaws.subAt_eq, beq_iff_eq]
  have hy : y.cps.toList.length = y.length := tl_len y
  have hx : x.cps.toList.length = x.length := tl_len x
  constructor
  · rintro ⟨h1, h2⟩
    refine ⟨h1, fun k hk => ?_⟩
    have : (y.cps.toList)[k]? = (x.cps.toList)[i + k]? := by
      rw [← h2, List.getElem?_take_of_lt hk, List.getElem?_drop]
    exact this.symm
  · rintro ⟨h1, h2⟩
    refine ⟨h1, ?_⟩
    apply List.ext_getElem?
    intro k
    by_cases hk : k < y.length
    · rw [List.getElem?_take_of_lt hk, List.getElem?_drop]
      exact h2 k hk
    · rw [List.getElem?_eq_none (by rw [List.length_take]; omega), List.getElem?_eq_none (by omega)]
theorem range'_from {lo n a : Nat} {pre post : List Nat} (h : List.range' lo n = pre ++ a :: post) : lo ≤ a ∧ ∀ k, lo ≤ k → k < a → k ∈ pre := by
  have hL : n = pre.length + (post.length + 1) := by
    have := congrArg List.length h
    simpa using this
  have hlen : a = lo + pre.length := by
    have h1 : (List.range' lo n)[pre.length]? = some a := by rw [h]; simp
    rw [List.getElem?_range'] at h1
    · simp at h1; omega
    · omega
  refine ⟨by omega, fun k h1 h2 => ?_⟩
  have h3 : (List.range' lo n)[k - lo]? = pre[k - lo]? := by rw [h, List.getElem?_append_left (by omega)]
  rw [List.getElem?_range'] at h3
  · have h4 : pre[k - lo]? = some k := by rw [← h3]; simp; omega
    exact List.mem_of_getElem? h4
  · omega
theorem find_first (x y : Str) (lo hi : Nat) (hh : hi ≤ x.length) :
    (findR x y (lo : Int) (hi : Int) < 0 ∧ ∀ i, lo ≤ i → ¬ StrLaws.At x y hi i) ∨ ∃ a : Nat, findR x y (lo : Int) (hi : Int) = (a : Int) ∧ lo ≤ a ∧ StrLaws.At x y hi a ∧ ∀ i, lo ≤ i → i < a → ¬ StrLaws.At x y hi i := by
  have e1 : ∀ n l : Nat, fromIndex l (n : Int) = n := by
    intro n l
    unfold fromIndex
    rw [if_neg (by omega)]
    omega
  unfold findR
  rw [e1, e1, Nat.min_eq_left hh, StrLaws.occ_eq]
  rcases StrLaws.occ_first x y hi 1 (Nat.le_refl 1) (List.range' lo (hi + 1 - lo)) lo (fun i hi' => by rw [List.mem_range'_1] at hi'; exact hi'.1) with ⟨h0, hn⟩ | ⟨pre, a, post, e, h0, ha, hn⟩
  · refine .inl ⟨?_, fun i h1 h2 => hn i ?_ h2⟩
    · rw [h0]; decide
    · rw [List.mem_range'_1]
      have := h2.1
      omega
  · obtain ⟨q1, q2⟩ := range'_from e
    refine .inr ⟨a, ?_, q1, ha, fun i h1 h2 => hn i (q2 i h1 h2)⟩
    generalize (forIn (List.range' lo (hi + 1 - lo)) ((#[] : Array Nat), lo) (StrLaws.occBody x y hi 1)).run.fst = arr at h0
    have h1 : arr.toList[0]? = some a := by simpa using h0
    cases hL : arr.toList with
    | nil => rw [hL] at h1; cases h1
    | cons b t => rw [hL] at h1; simp at h1; rw [h1]
noncomputable def pg (B : Nat → List Nat) : Nat → List Nat
  | 0 => []
  | n + 1 => pg B n ++ B n
theorem pg_len {B : Nat → List Nat} {W : Nat} (hW : ∀ j, (B j).length = W) : ∀ n, (pg B n).length = n * W
  | 0 => by simp [pg]
  | n + 1 => by
    show (pg B n ++ B n).length = _
    rw [List.length_append, pg_len hW n, hW, Nat.succ_mul]
theorem pg_get {B : Nat → List Nat} {W : Nat} (hW : ∀ j, (B j).length = W) {j t : Nat} (ht : t < W) : ∀ n, j < n → (pg B n)[j * W + t]? = (B j)[t]?
  | 0, h => absurd h (Nat.not_lt_zero j)
  | n + 1, h => by
    show (pg B n ++ B n)[j * W + t]? = _
    by_cases q : j < n
    · have : j * W + t < (pg B n).length := by
        rw [pg_len hW]
        have := Nat.mul_le_mul_right W q
        rw [Nat.succ_mul] at this
        omega
      rw [List.getElem?_append_left this]
      exact pg_get hW ht n q
    · have : j = n := by omega
      subst this
      rw [List.getElem?_append_right (by rw [pg_len hW]; omega), pg_len hW]
      congr 1
      omega
structure Blocks (x : Str) (B : Nat → List Nat) (W n : Nat) : Prop where
  pg : tl x = pg B n
  len : ∀ j, (B j).length = W
  pos : 0 < W
  nl : ∀ j t, t < W → ((B j)[t]? = some 10 ↔ t = W - 1)
structure RowOf (y : Str) (B : Nat → List Nat) (W : Nat) (M : Nat → Prop) : Prop where
  pos : 0 < y.length
  le : y.length ≤ W
  last : (tl y)[y.length - 1]? = some 10
  mt : ∀ j, M j ↔ ∀ i, i < y.length → (B j)[W - y.length + i]? = (tl y)[i]?
theorem at_block {x y : Str} {B : Nat → List Nat} {W n hi i : Nat} {M : Nat → Prop} (hB : Blocks x B W n) (hR : RowOf y B W M) (hh : hi ≤ x.length) :
    StrLaws.At x y hi i ↔ ∃ j, j < n ∧ i + y.length = (j + 1) * W ∧ (j + 1) * W ≤ hi ∧ M j := by
  have hx : x.length = n * W := by rw [← tl_len, hB.pg, pg_len hB.len]
  have hpos := hR.pos
  have hle := hR.le
  rw [at_iff hh]
  constructor
  · rintro ⟨h1, h2⟩
    have h3 := h2 (y.length - 1) (by omega)
    rw [hR.last] at h3
    have ht := Nat.mod_lt (i + (y.length - 1)) hB.pos
    have hdm := Nat.div_add_mod (i + (y.length - 1)) W
    generalize hj : (i + (y.length - 1)) / W = j at hdm
    generalize (i + (y.length - 1)) % W = t at hdm ht
    have hjn : j < n := by
      rw [← hj]
      apply Nat.div_lt_of_lt_mul
      rw [Nat.mul_comm]
      omega
    rw [Nat.mul_comm] at hdm
    rw [← hdm, hB.pg, pg_get hB.len ht n hjn, hB.nl j t ht] at h3
    have he : i + y.length = (j + 1) * W := by rw [Nat.succ_mul]; omega
    refine ⟨j, hjn, he, by omega, (hR.mt j).mpr fun k hk => ?_⟩
    rw [← h2 k hk, hB.pg, ← pg_get hB.len (by omega) n hjn]
    congr 1
    rw [Nat.succ_mul] at he
    omega
  · rintro ⟨j, hj, he, h1, hm⟩
    refine ⟨by omega, fun k hk => ?_⟩
    rw [← (hR.mt j).mp hm k hk, hB.pg, ← pg_get hB.len (by omega) n hj]
    congr 1
    rw [Nat.succ_mul] at he
    omega
theorem loop_greedy {x : Str} {B : Nat → List Nat} {W : Nat} {ep : Nat} {rowS : Int → Str} {M : Int → Nat → Prop} (hB : Blocks x B W 4) (h1 : 3 * W ≤ ep) (h2 : ep < 4 * W)
    (mono : ∀ d j j', M d j → j ≤ j' → j' < 4 → M d j') : ∀ (ds : List Int) (q : Nat), (∀ d ∈ ds, RowOf (rowS d) B W (M d)) → q ≤ 3 →
    (loopE x (ep : Int) (ds.map rowS) ((q * W : Nat) : Int) = true ↔ q + ds.length ≤ 3 ∧ ∀ i, i < ds.length → M (ds.getD i 0) (3 - ds.length + i))
  | [], q, _, hq => by
    refine ⟨fun _ => ⟨by simpa using hq, fun i hi => absurd hi (Nat.not_lt_zero i)⟩, fun _ => rfl⟩
  | d :: r, q, hR, hq => by
    have hRd := hR d (.head _)
    have hx : x.length = 4 * W := by rw [← tl_len, hB.pg, pg_len hB.len]
    have hh : ep ≤ x.length := by omega
    have hpos := hRd.pos
    have hle := hRd.le
    show (if findR x (rowS d) ((q * W : Nat) : Int) (ep : Int) < 0 then false else loopE x (ep : Int) (r.map rowS) (findR x (rowS d) ((q * W : Nat) : Int) (ep : Int) + ((rowS d).length : Int))) = true ↔ _
    have hmw : ∀ a b : Nat, a ≤ b → a * W ≤ b * W := fun a b h => Nat.mul_le_mul_right W h
    have hget0 : (d :: r).getD 0 0 = d := rfl
    rcases find_first x (rowS d) (q * W) ep hh with ⟨f1, f2⟩ | ⟨a, f1, f2, f3, f4⟩
    · rw [if_pos f1]
      refine ⟨fun h => (nomatch h), fun ⟨g1, g2⟩ => ?_⟩
      have hm := g2 0 (by simp)
      rw [hget0, Nat.add_zero] at hm
      rw [List.length_cons] at g1 hm
      have hj : (3 - (r.length + 1)) + 1 ≤ 3 := by omega
      have hjw := hmw _ _ hj
      have hqw := hmw q (3 - (r.length + 1)) (by omega)
      have hs := Nat.add_one_mul (3 - (r.length + 1)) W
      refine absurd ((at_block hB hRd hh).mpr ⟨3 - (r.length + 1), by omega, ?_, by omega, hm⟩) (f2 ((3 - (r.length + 1) + 1) * W - (rowS d).length) ?_)
      · omega
      · omega
    · obtain ⟨j, hj, he, hjep, hm⟩ := (at_block hB hRd hh).mp f3
      have hsj := Nat.add_one_mul j W
      have hqj : q ≤ j := by
        refine Classical.byContradiction fun hlt => ?_
        have := hmw (j + 1) q (by omega)
        omega
      have hj3 : j + 1 ≤ 3 := by
        refine Classical.byContradiction fun hlt => ?_
        have := hmw 4 (j + 1) (by omega)
        omega
      have hfirst : ∀ j', q ≤ j' → j' < j → ¬ M d j' := by
        intro j' q1 q2 hm'
        have hs' := Nat.add_one_mul j' W
        have w1 := hmw q j' q1
        have w2 := hmw (j' + 1) j q2
        refine f4 ((j' + 1) * W - (rowS d).length) (by omega) (by omega) ((at_block hB hRd hh).mpr ⟨j', by omega, by omega, by omega, hm'⟩)
      rw [if_neg (by omega), f1, show ((a : Int) + ((rowS d).length : Int)) = (((j + 1) * W : Nat) : Int) by omega]
      rw [loop_greedy hB h1 h2 mono r (j + 1) (fun d' hd' => hR d' (.tail _ hd')) hj3, List.length_cons]
      constructor
      · rintro ⟨g1, g2⟩
        refine ⟨by omega, fun i hi => ?_⟩
        cases i with
        | zero => exact mono d j _ hm (by omega) (by omega)
        | succ i =>
          have := g2 i (by omega)
          have e : 3 - (r.length + 1) + (i + 1) = 3 - r.length + i := by omega
          rw [e]
          exact this
      · rintro ⟨g1, g2⟩
        have hm0 := g2 0 (by omega)
        rw [hget0, Nat.add_zero] at hm0
        have hjm : j ≤ 3 - (r.length + 1) := by
          refine Classical.byContradiction fun hlt => ?_
          exact hfirst _ (by omega) (by omega) hm0
        refine ⟨by omega, fun i hi => ?_⟩
        have := g2 (i + 1) (by omega)
        have e : 3 - (r.length + 1) + (i + 1) = 3 - r.length + i := by omega
        rw [e] at this
        exact this
theorem sepF_list (k : Int) : ∃ c, tl (sepF k) = [c] ∧ c ≠ 10 := by
  unfold sepF
  split
  · exact ⟨44, by decide +kernel, by decide⟩
  · split
    · exact ⟨46, by decide +kernel, by decide⟩
    · split
      · exact ⟨39, by decide +kernel, by decide⟩
      · exact ⟨32, by decide +kernel, by decide⟩
theorem range_map_getD {β : Type} (g : Int → β) : ∀ l : List Int, ((List.range l.length).map fun i => g (l.getD i 0)) = l.map g
  | [] => rfl
  | x :: r => by
    rw [List.length_cons, List.range_succ_eq_map, List.map_cons, List.map_map, List.map_cons]
    congr 1
    exact range_map_getD g r
noncomputable def rowS (figs ms : List Int) (b : Str) (d : Int) : Str := rowT figs ms b d.toNat ++ Str.ofString "\n"
theorem rowsF_map (figs ms : List Int) (b : Str) (ds : List Int) : rowsF figs ms b ds = ds.map (rowS figs ms b) := range_map_getD (rowS figs ms b) ds
theorem rowsD_map (figs ms : List Int) (b : Str) (ds : List Int) : rowsD figs ms b ds = ds.map (rowD figs ms b) := range_map_getD (rowD figs ms b) ds
noncomputable def gf (a o : Int) (i : Nat) : Nat := 48 + (((figSt a o 10).2).getD i 0).toNat
theorem rowS_list {a o : Int} {ms : List Int} {b : Str} {c : Nat} (hb : tl b = [c]) (d : Int) : tl (rowS (figSt a o 10).2 ms b d) = rowL (gf a o) ms c d.toNat ++ [10] := by
  unfold rowS
  rw [tl_app, tl_nl, rowT_list hb (figs_ok a o).2]
  rfl
noncomputable def Mt (a o : Int) (xs : List Int) (d : Int) (j : Nat) : Prop := ∀ i, i < d.toNat → dgt (xs.getD j 0) i = fgD a o i
noncomputable def Bk (ms : List Int) (c : Nat) (xs : List Int) (j : Nat) : List Nat := rowL (fx (xs.getD j 0)) ms c 10 ++ [10]
theorem page_pg {ts ms : List Int} {b : Str} {c : Nat} {xs : List Int} (h : ToldOk ts ms) (hb : tl b = [c]) (hx : xs.length = 4) : tl (pageF ts b xs) = pg (Bk ms c xs) 4 := by
  match xs, hx with
  | [x0, x1, x2, x3], _ =>
    show tl (Str.ofString "" ++ lineF ts b x0 ++ lineF ts b x1 ++ lineF ts b x2 ++ lineF ts b x3) = _
    rw [tl_app, tl_app, tl_app, tl_app, tl_nil, line_list x0 h hb, line_list x1 h hb, line_list x2 h hb, line_list x3 h hb]
    rfl
theorem bk_blocks {ts ms : List Int} {b : Str} {c : Nat} {xs : List Int} (h : ToldOk ts ms) (hb : tl b = [c]) (hc : c ≠ 10) (hx : xs.length = 4) : Blocks (pageF ts b xs) (Bk ms c xs) ((rowL (fx 0) ms c 10).length + 1) 4 := by
  have hlen : ∀ j, (Bk ms c xs j).length = (rowL (fx 0) ms c 10).length + 1 := by
    intro j
    unfold Bk
    rw [List.length_append, rowL_len (g := fx 0)]
    rfl
  refine ⟨page_pg h hb hx, hlen, Nat.succ_pos _, ?_⟩
  intro j t ht
  unfold Bk
  have hl : (rowL (fx (xs.getD j 0)) ms c 10).length = (rowL (fx 0) ms c 10).length := rowL_len 10
  constructor
  · intro e
    refine Classical.byContradiction fun hne => ?_
    rw [List.getElem?_append_left (by omega)] at e
    rcases rowL_mem 10 10 (List.mem_of_getElem? e) with q | ⟨i, q⟩
    · exact hc q.symm
    · unfold fx at q; omega
  · intro e
    have e2 : t = (rowL (fx (xs.getD j 0)) ms c 10).length := by omega
    rw [e2, List.getElem?_append_right (Nat.le_refl _), Nat.sub_self]
    rfl
theorem dgt_rng (x : Int) (i : Nat) : 0 ≤ dgt x i ∧ dgt x i < 10 := by
  unfold dgt
  exact ⟨Int.emod_nonneg _ (by decide), Int.emod_lt_of_pos _ (by decide)⟩
theorem fgD_rng (a o : Int) (i : Nat) : 0 ≤ fgD a o i ∧ fgD a o i < 10 := by
  unfold fgD
  exact ⟨Int.emod_nonneg _ (by decide), Int.emod_lt_of_pos _ (by decide)⟩
theorem mt_row {a o : Int} {ms : List Int} {c : Nat} {xs : List Int} {d : Int} {j : Nat} (hd : d.toNat ≤ 10) : Mt a o xs d j ↔ rowL (fx (xs.getD j 0)) ms c d.toNat = rowL (gf a o) ms c d.toNat := by
  rw [rowL_eq]
  unfold Mt
  constructor
  · intro h i hi
    have := h i hi
    unfold fx gf
    rw [this, figs_get a o (by omega)]
  · intro h i hi
    have := h i hi
    unfold fx gf at this
    rw [figs_get a o (by omega)] at this
    have h1 := dgt_rng (xs.getD j 0) i
    have h2 := fgD_rng a o i
    omega
theorem row_of {a o : Int} {ms : List Int} {b : Str} {c : Nat} {xs : List Int} {d : Int} (hb : tl b = [c]) (hd : d.toNat ≤ 10) :
    RowOf (rowS (figSt a o 10).2 ms b d) (Bk ms c xs) ((rowL (fx 0) ms c 10).length + 1) (Mt a o xs d) := by
  have hr := rowS_list (a := a) (o := o) (ms := ms) hb d
  have hl : (rowS (figSt a o 10).2 ms b d).length = (rowL (gf a o) ms c d.toNat).length + 1 := by
    rw [← tl_len, hr, List.length_append]; rfl
  obtain ⟨e, he⟩ : ∃ e, 10 = d.toNat + e := ⟨10 - d.toNat, by omega⟩
  have hle : (rowL (gf a o) ms c d.toNat).length ≤ (rowL (fx 0) ms c 10).length := by
    obtain ⟨u, hu⟩ := rowL_tail (f := fx 0) (ms := ms) (c := c) (d := d.toNat) e
    rw [he, hu, List.length_append, rowL_len (f := gf a o) (g := fx 0)]
    omega
  refine ⟨by omega, by omega, ?_, ?_⟩
  · rw [hl, hr, Nat.add_sub_cancel, List.getElem?_append_right (Nat.le_refl _), Nat.sub_self]
    rfl
  · intro j
    obtain ⟨u, hu⟩ := rowL_tail (f := fx (xs.getD j 0)) (ms := ms) (c := c) (d := d.toNat) e
    have hB : Bk ms c xs j = u ++ (rowL (fx (xs.getD j 0)) ms c d.toNat ++ [10]) := by
      unfold Bk
      rw [he, hu, List.append_assoc]
    have hul : (rowL (fx 0) ms c 10).length + 1 - (rowS (figSt a o 10).2 ms b d).length = u.length := by
      rw [hl, rowL_len (f := fx 0) (g := fx (xs.getD j 0)), rowL_len (f := gf a o) (g := fx (xs.getD j 0)), he, hu, List.length_append]
      omega
    rw [hul, mt_row (ms := ms) (c := c) hd, hB, hr]
    have hsl : (rowL (fx (xs.getD j 0)) ms c d.toNat).length = (rowL (gf a o) ms c d.toNat).length := rowL_len _
    constructor
    · intro q i _
      rw [List.getElem?_append_right (by omega), Nat.add_sub_cancel_left, q]
    · intro q
      have : rowL (fx (xs.getD j 0)) ms c d.toNat ++ [10] = rowL (gf a o) ms c d.toNat ++ [10] := by
        apply List.ext_getElem?
        intro i
        by_cases hi : i < (rowS (figSt a o 10).2 ms b d).length
        · have := q i hi
          rwa [List.getElem?_append_right (by omega), Nat.add_sub_cancel_left] at this
        · rw [List.getElem?_eq_none (by rw [List.length_append, List.length_singleton]; omega), List.getElem?_eq_none (by rw [List.length_append, List.length_singleton]; omega)]
      exact List.append_cancel_right this
theorem mt_iff {d1 av ov ordv x gv : Int} {sy ts ms xs : List Int} {sep page : Str} (hp : Pre d1 av ov ordv sy ts ms sep) (hC : CInv av (ov + 10 * (d1.fmod 11 - 5)) ordv ts sep 4 x page xs) (hG : GoodOk (1 - av * (ov + 10 * (d1.fmod 11 - 5))) gv)
    {d : Int} (h0 : 0 ≤ d) (h1 : d ≤ 10) {j : Nat} (hj : j < 4) : Mt av ov xs d j ↔ d ≤ gv * ((ordv.toNat ^ j : Nat) : Int) := by
  unfold Mt
  rw [(match_iff hp.inv (xs.getD j 0) d.toNat).1, hC.val j hj]
  have ho : 1 ≤ ordv.toNat ^ j := Nat.pow_pos (by rcases hp.ord with q | q <;> rw [q] <;> decide)
  rw [good_iff hG (by omega) ho]
  rw [show ((d.toNat : Nat) : Int) = d by omega]
theorem ord_cast {o : Int} (ho : o = 2 ∨ o = 3) (n : Nat) : o ^ n = ((o.toNat ^ n : Nat) : Int) := by
  rw [Int.natCast_pow]
  congr 1
  rcases ho with rfl | rfl <;> rfl
theorem ends_iff {x y : Str} {B : Nat → List Nat} {W : Nat} {M : Nat → Prop} (hB : Blocks x B W 4) (hR : RowOf y B W M) : Txt.endswith x y = true ↔ M 3 := by
  have hx : x.length = 4 * W := by rw [← tl_len, hB.pg, pg_len hB.len]
  have hle := hR.le
  have hpos := hR.pos
  have hA := at_block (i := x.length - y.length) hB hR (Nat.le_refl x.length)
  have e : Txt.endswith x y = true ↔ StrLaws.At x y x.length (x.length - y.length) := by
    unfold Txt.endswith StrLaws.At
    rw [Bool.and_eq_true, decide_eq_true_eq]
    constructor
    · rintro ⟨_, h⟩; exact ⟨by omega, h⟩
    · rintro ⟨_, h⟩; exact ⟨by omega, h⟩
  rw [e, hA]
  constructor
  · rintro ⟨j, h1, h2, h3, h4⟩
    have : j = 3 := by
      have e4 : (j + 1) * W = 4 * W := by omega
      have := Nat.eq_of_mul_eq_mul_right hB.pos e4
      omega
    subst this
    exact h4
  · intro h
    exact ⟨3, by decide, by omega, by omega, h⟩
theorem find_empty {x : Str} {ep : Nat} (h : ep ≤ x.length) : findR x (Str.ofString "") (0 : Int) (ep : Int) = 0 := by
  have hA : StrLaws.At x (Str.ofString "") ep 0 := by
    rw [at_iff h]
    have : (Str.ofString "").length = 0 := by decide +kernel
    rw [this]
    exact ⟨Nat.zero_le _, fun k hk => absurd hk (Nat.not_lt_zero k)⟩
  rcases find_first x (Str.ofString "") 0 ep h with ⟨_, f2⟩ | ⟨a, f1, _, _, f4⟩
  · exact absurd hA (f2 0 (Nat.le_refl 0))
  · have : a = 0 := by
      refine Classical.byContradiction fun hne => ?_
      exact f4 0 (Nat.le_refl 0) (by omega) hA
    subst this
    exact f1
theorem law_ok {d1 av ov ordv x gv : Int} {sy ts ms ds xs : List Int} {sep page : Str} (hp : Pre d1 av ov ordv sy ts ms sep) (hC : CInv av (ov + 10 * (d1.fmod 11 - 5)) ordv ts sep 4 x page xs) (hG : GoodOk (1 - av * (ov + 10 * (d1.fmod 11 - 5))) gv)
    (hd : ∀ d ∈ ds, d ∈ ms) (h1 : 1 ≤ ds.length) (h4 : ds.length ≤ 4) :
    ellF page (rowsF (figSt av ov 10).2 ms sep ds) = ((List.range ds.length).map fun i => decide (ds.getD i 0 ≤ gv * ordv ^ (4 - (ds.length : Int) + (i : Int)).toNat)).all id := by
  obtain ⟨k, hk⟩ := hp.sp
  obtain ⟨c, hc, hc10⟩ := sepF_list k
  rw [← hk] at hc
  have hB := bk_blocks hp.told hc hc10 hC.len
  rw [← hC.pg] at hB
  have hx : page.length = 4 * ((rowL (fx 0) ms c 10).length + 1) := by rw [← tl_len, hB.pg, pg_len hB.len]
  have hrng : ∀ d ∈ ds, 1 ≤ d ∧ d ≤ 10 := fun d h => marks_rng hp.told d (hd d h)
  have hR : ∀ d ∈ ds, RowOf (rowS (figSt av ov 10).2 ms sep d) (Bk ms c xs) ((rowL (fx 0) ms c 10).length + 1) (Mt av ov xs d) := fun d h => row_of hc (by have := (hrng d h).2; omega)
  have hM : ∀ d ∈ ds, ∀ j, j < 4 → (Mt av ov xs d j ↔ d ≤ gv * ((ordv.toNat ^ j : Nat) : Int)) := fun d h j hj => mt_iff hp hC hG (by have := (hrng d h).1; omega) (hrng d h).2 hj
  have hmono : ∀ d j j', Mt av ov xs d j → j ≤ j' → j' < 4 → Mt av ov xs d j' := by
    intro d j j' hm hjj hj'
    unfold Mt at hm ⊢
    rw [(match_iff hp.inv (xs.getD j 0) d.toNat).1, hC.val j (by omega)] at hm
    rw [(match_iff hp.inv (xs.getD j' 0) d.toNat).1, hC.val j' hj']
    have ho : ordv.toNat ^ j ≤ ordv.toNat ^ j' := Nat.pow_le_pow_right (by rcases hp.ord with q | q <;> rw [q] <;> decide) hjj
    obtain ⟨e, he⟩ := Nat.exists_eq_add_of_le ho
    rw [he, Int.pow_add]
    exact Int.dvd_trans hm ⟨_, rfl⟩
  rw [rowsF_map]
  obtain ⟨init, dl, rfl⟩ : ∃ init dl, ds = init ++ [dl] := by
    have hne : ds ≠ [] := fun q => by rw [q] at h1; exact absurd h1 (by decide)
    exact ⟨ds.dropLast, ds.getLast hne, (List.dropLast_concat_getLast hne).symm⟩
  have hRl := hR dl (by simp)
  have hl4 : init.length + 1 ≤ 4 := by simpa using h4
  have hlast : lastS ((init ++ [dl]).map (rowS (figSt av ov 10).2 ms sep)) = rowS (figSt av ov 10).2 ms sep dl := by
    unfold lastS
    rw [List.map_append, List.map_singleton]
    simp
  have hdrop : ((init ++ [dl]).map (rowS (figSt av ov 10).2 ms sep)).dropLast = init.map (rowS (figSt av ov 10).2 ms sep) := by
    rw [List.map_append, List.map_singleton, List.dropLast_concat]
  have hpos := hRl.pos
  have hle := hRl.le
  have hRHS : ((List.range (init ++ [dl]).length).map fun i => decide ((init ++ [dl]).getD i 0 ≤ gv * ordv ^ (4 - ((init ++ [dl]).length : Int) + (i : Int)).toNat)).all id = true ↔
      Mt av ov xs dl 3 ∧ ∀ i, i < init.length → Mt av ov xs (init.getD i 0) (3 - init.length + i) := by
    rw [List.all_eq_true]
    have hg1 : (init ++ [dl]).getD init.length 0 = dl := by
      rw [List.getD_eq_getElem?_getD, List.getElem?_append_right (Nat.le_refl _), Nat.sub_self]; rfl
    have hg2 : ∀ i, i < init.length → (init ++ [dl]).getD i 0 = init.getD i 0 := fun i hi => by
      rw [List.getD_eq_getElem?_getD, List.getElem?_append_left hi, ← List.getD_eq_getElem?_getD]
    have hin : ∀ i, i < init.length → init.getD i 0 ∈ init ++ [dl] := fun i hi => by
      rw [List.getD_eq_getElem?_getD, List.getElem?_eq_getElem hi]
      exact List.mem_append_left _ (List.getElem_mem hi)
    have hex : ∀ i : Nat, i ≤ init.length → (4 - (((init ++ [dl]).length : Nat) : Int) + (i : Int)).toNat = 3 - init.length + i := fun i hi => by
      rw [List.length_append, List.length_singleton]; omega
    constructor
    · intro h
      refine ⟨?_, fun i hi => ?_⟩
      · have := h _ (List.mem_map.mpr ⟨init.length, by rw [List.mem_range, List.length_append, List.length_singleton]; omega, rfl⟩)
        have := of_decide_eq_true this
        rw [hg1, hex _ (Nat.le_refl _), ord_cast hp.ord, show 3 - init.length + init.length = 3 by omega] at this
        exact (hM dl (by simp) 3 (by decide)).mpr this
      · have := h _ (List.mem_map.mpr ⟨i, by rw [List.mem_range, List.length_append, List.length_singleton]; omega, rfl⟩)
        have := of_decide_eq_true this
        rw [hg2 i hi, hex _ (by omega), ord_cast hp.ord] at this
        exact (hM _ (hin i hi) _ (by omega)).mpr this
    · rintro ⟨g1, g2⟩ z hz
      obtain ⟨i, hi, rfl⟩ := List.mem_map.mp hz
      rw [List.mem_range, List.length_append, List.length_singleton] at hi
      refine decide_eq_true ?_
      rw [hex _ (by omega), ord_cast hp.ord]
      by_cases q : i < init.length
      · rw [hg2 i q]
        exact (hM _ (hin i q) _ (by omega)).mp (g2 i q)
      · have : i = init.length := by omega
        subst this
        rw [hg1, show 3 - init.length + init.length = 3 by omega]
        exact (hM dl (by simp) 3 (by decide)).mp g1
  rw [Bool.eq_iff_iff, hRHS]
  unfold ellF
  rw [hlast, hdrop]
  have hE := ends_iff hB hRl
  by_cases hend : Txt.endswith page (rowS (figSt av ov 10).2 ms sep dl) = true
  · rw [if_pos hend]
    have hep : ((page.length : Int) - ((rowS (figSt av ov 10).2 ms sep dl).length : Int)) = ((page.length - (rowS (figSt av ov 10).2 ms sep dl).length : Nat) : Int) := by omega
    rw [hep]
    show (if findR page (Str.ofString "") 0 _ < 0 then false else loopE page _ _ (findR page (Str.ofString "") 0 _ + ((Str.ofString "").length : Int))) = true ↔ _
    rw [find_empty (Nat.sub_le _ _), if_neg (by decide), show ((0 : Int) + ((Str.ofString "").length : Int)) = ((0 * ((rowL (fx 0) ms c 10).length + 1) : Nat) : Int) by rw [Nat.zero_mul]; decide +kernel]
    rw [loop_greedy hB (by omega) (by omega) hmono init 0 (fun d h => hR d (List.mem_append_left _ h)) (by decide)]
    constructor
    · rintro ⟨_, g⟩; exact ⟨hE.mp hend, g⟩
    · rintro ⟨_, g⟩; exact ⟨by omega, g⟩
  · rw [if_neg hend]
    refine ⟨fun h => (nomatch h), fun ⟨g, _⟩ => absurd (hE.mpr g) hend⟩
noncomputable def Gd (R : List Nat) : Prop := ∀ i, R[i]? = some 46 → ∃ z, R[i + 1]? = some z ∧ z ≠ 46
theorem gd_nil : Gd [] := fun i h => by simp at h
theorem gd_cons {z : Nat} {l : List Nat} (h : Gd l) (hz : z ≠ 46 ∨ ∃ y, l[0]? = some y ∧ y ≠ 46) : Gd (z :: l) := by
  intro i hi
  cases i with
  | zero =>
    rcases hz with hz | ⟨y, hy, hn⟩
    · exact absurd (by simpa using hi) hz
    · exact ⟨y, by simpa using hy, hn⟩
  | succ i =>
    obtain ⟨y, hy, hn⟩ := h i (by simpa using hi)
    exact ⟨y, by simpa using hy, hn⟩
theorem row_gd {f : Nat → Nat} {ms : List Int} {c : Nat} (hf : ∀ i, f i ≠ 46) : ∀ k, Gd (rowL f ms c k ++ [10]) ∧ ∃ y, (rowL f ms c k ++ [10])[0]? = some y ∧ y ≠ 46
  | 0 => ⟨gd_cons gd_nil (.inl (by decide)), 10, rfl, by decide⟩
  | k + 1 => by
    obtain ⟨i1, i2⟩ := row_gd (ms := ms) (c := c) hf k
    rw [rowL_succ]
    refine ⟨?_, f k, rfl, hf k⟩
    show Gd (f k :: ((if (k : Int) ∈ ms then c :: rowL f ms c k else rowL f ms c k) ++ [10]))
    refine gd_cons ?_ (.inl (hf k))
    split
    · exact gd_cons i1 (.inr i2)
    · exact i1
noncomputable def flat : List (List Nat) → List Nat
  | [] => []
  | r :: rs => 46 :: 46 :: 46 :: (r ++ flat rs)
noncomputable def toS (l : List Nat) : Str := ⟨l.toArray⟩
theorem tl_toS (l : List Nat) : tl (toS l) = l := rfl
theorem toS_tl (s : Str) : toS (tl s) = s := tl_inj rfl
theorem dots_len : (Str.ofString "...").length = 3 := by decide +kernel
theorem at_dots {x : Str} {i : Nat} : StrLaws.At x (Str.ofString "...") x.length i ↔ (tl x)[i]? = some 46 ∧ (tl x)[i + 1]? = some 46 ∧ (tl x)[i + 2]? = some 46 := by
  rw [at_iff (Nat.le_refl _), tl_dots, dots_len]
  constructor
  · rintro ⟨_, h⟩
    exact ⟨h 0 (by decide), h 1 (by decide), h 2 (by decide)⟩
  · rintro ⟨a, b, c⟩
    have hl := (List.getElem?_eq_some_iff.mp c).1
    rw [tl_len] at hl
    refine ⟨by omega, fun k hk => ?_⟩
    have : k = 0 ∨ k = 1 ∨ k = 2 := by omega
    rcases this with rfl | rfl | rfl
    · exact a
    · exact b
    · exact c
theorem no_dots {x : Str} {pre R post : List Nat} (hx : tl x = pre ++ R ++ post) (hR : Gd R) {k : Nat} (h1 : pre.length ≤ k) (h2 : k < pre.length + R.length) : ¬ StrLaws.At x (Str.ofString "...") x.length k := by
  rw [at_dots, hx]
  rintro ⟨a, b, _⟩
  obtain ⟨i, rfl⟩ := Nat.exists_eq_add_of_le h1
  rw [List.append_assoc, List.getElem?_append_right (by omega), Nat.add_sub_cancel_left, List.getElem?_append_left (by omega)] at a
  obtain ⟨z, hz, hn⟩ := hR i a
  have hl := (List.getElem?_eq_some_iff.mp hz).1
  rw [List.append_assoc, List.getElem?_append_right (by omega), show pre.length + i + 1 - pre.length = i + 1 by omega, List.getElem?_append_left hl, hz] at b
  exact hn (by simpa using b)
theorem sub_mid {x : Str} {pre R post : List Nat} (hx : tl x = pre ++ R ++ post) : strSub x pre.length (pre.length + R.length) = toS R := by
  apply tl_inj
  show (strSub x pre.length (pre.length + R.length)).cps.toList = R
  rw [StrLaws.strSub_toList]
  show ((tl x).drop _).take _ = R
  rw [hx, List.append_assoc, List.drop_left, Nat.add_sub_cancel_left, List.take_left]
theorem split_chain {x : Str} : ∀ (rs : List (List Nat)) (R0 pre : List Nat) (cuts : List Nat) (f : Nat), tl x = pre ++ R0 ++ flat rs → Gd R0 → (∀ r ∈ rs, Gd r) →
    StrLaws.ChainG x (Str.ofString "...") x.length pre.length cuts f → (∀ k, f ≤ k → ¬ StrLaws.At x (Str.ofString "...") x.length k) →
    StrLaws.partsFrom x (Str.ofString "...").length pre.length cuts = (R0 :: rs).map toS
  | [], R0, pre, cuts, f, hx, hR, _, hc, hf => by
    have hxl : x.length = pre.length + R0.length := by rw [← tl_len, hx]; simp [flat]
    cases cuts with
    | nil =>
      show [strSub x pre.length x.length] = [toS R0]
      rw [hxl, sub_mid hx]
    | cons c r =>
      obtain ⟨g1, g2, _, _⟩ := hc
      have := g2.1
      rw [dots_len] at this
      exact absurd g2 (no_dots hx hR g1 (by omega))
  | r :: rs, R0, pre, cuts, f, hx, hR, hrs, hc, hf => by
    have hA : StrLaws.At x (Str.ofString "...") x.length (pre.length + R0.length) := by
      have hg : ∀ j, (tl x)[pre.length + R0.length + j]? = (flat (r :: rs))[j]? := fun j => by
        rw [hx, List.getElem?_append_right (by rw [List.length_append]; omega), List.length_append, Nat.add_sub_cancel_left]
      rw [at_dots]
      exact ⟨hg 0, hg 1, hg 2⟩
    cases cuts with
    | nil =>
      have e : f = pre.length := hc
      exact absurd hA (hf _ (by omega))
    | cons c q =>
      obtain ⟨g1, g2, g3, g4⟩ := hc
      have hce : c = pre.length + R0.length := by
        rcases Nat.lt_trichotomy c (pre.length + R0.length) with h | h | h
        · exact absurd g2 (no_dots hx hR g1 h)
        · exact h
        · exact absurd hA (g3 _ (by omega) h)
      subst hce
      show strSub x pre.length (pre.length + R0.length) :: StrLaws.partsFrom x (Str.ofString "...").length (pre.length + R0.length + (Str.ofString "...").length) q = _
      rw [sub_mid hx]
      show _ = toS R0 :: (r :: rs).map toS
      congr 1
      have hlen : pre.length + R0.length + (Str.ofString "...").length = (pre ++ R0 ++ [46, 46, 46]).length := by rw [dots_len]; simp; omega
      rw [hlen] at g4 ⊢
      refine split_chain rs r (pre ++ R0 ++ [46, 46, 46]) q f ?_ (hrs r (.head _)) (fun r' hr' => hrs r' (.tail _ hr')) g4 hf
      rw [hx]
      show _ ++ (46 :: 46 :: 46 :: (r ++ flat rs)) = _
      simp
theorem split_dots {x : Str} {rs : List (List Nat)} (hx : tl x = flat rs) (hne : rs ≠ []) (hrs : ∀ r ∈ rs, Gd r) : Txt.split x (Str.ofString "...") = Str.ofString "" :: rs.map toS := by
  obtain ⟨f, hG, hn⟩ := StrLaws.occ_tight x (Str.ofString "...") (by rw [dots_len]; decide)
  have key := split_chain rs [] [] _ f (by simpa using hx) gd_nil hrs hG hn
  have hA : StrLaws.At x (Str.ofString "...") x.length 0 := by
    obtain ⟨r, rs', rfl⟩ := List.exists_cons_of_ne_nil hne
    rw [at_dots, hx]
    exact ⟨rfl, rfl, rfl⟩
  unfold Txt.split
  rw [if_neg, if_neg]
  · rw [StrLaws.partsBetween_eq]
    exact key.trans (by rw [List.map_cons]; congr 1)
  · intro he
    have e0 : occurrences x (Str.ofString "...") 0 x.length (x.length + 1) = [] := List.isEmpty_iff.mp he
    rw [e0] at hG
    have ef : f = 0 := hG
    exact hn 0 (by omega) hA
  · have h1 := hA.1
    have hk : Builtin.Str.strKind (Str.ofString "...") = 1 := by decide +kernel
    have hk2 : 1 ≤ Builtin.Str.strKind x := by unfold Builtin.Str.strKind; split <;> (try split) <;> decide
    rw [hk]
    intro h
    rw [Bool.or_eq_true, decide_eq_true_eq, decide_eq_true_eq] at h
    rcases h with h | h <;> omega
theorem join_empty : ∀ ws : List Str, tl (Str.join (Str.ofString "") ws) = (ws.map tl).flatten
  | [] => rfl
  | [x] => by simp [Str.join]
  | x :: y :: r => by
    have ih := join_empty (y :: r)
    show tl (x ++ Str.ofString "" ++ Str.join (Str.ofString "") (y :: r)) = _
    rw [tl_app, tl_app, tl_nil, ih, List.append_nil]
    rfl
theorem flat_rows {g : Int → List Nat} : ∀ ds : List Int, (ds.map fun d => 46 :: 46 :: 46 :: g d).flatten = flat (ds.map g)
  | [] => rfl
  | d :: r => by
    rw [List.map_cons, List.flatten_cons, flat_rows r]
    rfl
theorem sum_le {l : List Nat} {k : Nat} (h : ∀ n ∈ l, n ≤ k) : l.sum ≤ l.length * k := by
  induction l with
  | nil => simp
  | cons n r ih =>
    have := ih fun m hm => h m (.tail _ hm)
    have := h n (.head _)
    rw [List.sum_cons, List.length_cons, Nat.succ_mul]
    omega
theorem joinF_le (ws : List Str) : (Txt.join (Str.ofString "") ws).length ≤ (ws.map (·.length)).sum := by
  rw [← tl_len, txt_join, join_empty, List.length_flatten, List.map_map]
  apply Nat.le_of_eq
  exact congrArg List.sum (List.map_congr_left fun s _ => tl_len s)
theorem want_ok {a o : Int} {ts ms ds : List Int} {b : Str} (h : ToldOk ts ms) (hb : ∃ k, b = sepF k) (hd : ∀ d ∈ ds, d ∈ ms) (h1 : 1 ≤ ds.length) (h4 : ds.length ≤ 4) : WantOk (figSt a o 10).2 ms b ds := by
  obtain ⟨k, rfl⟩ := hb
  obtain ⟨c, hc, _⟩ := sepF_list k
  have hrow := fun d => rowS_list (a := a) (o := o) (ms := ms) hc d
  have hrl : ∀ d ∈ ds, (rowS (figSt a o 10).2 ms (sepF k) d).length ≤ 21 := by
    intro d hdd
    rw [← tl_len, hrow d, List.length_append, List.length_singleton]
    have := rowL_len_le (f := gf a o) (ms := ms) (c := c) d.toNat
    have := marks_rng h d (hd d hdd)
    omega
  have hdl : ∀ d, rowD (figSt a o 10).2 ms (sepF k) d = Str.ofString "..." ++ rowS (figSt a o 10).2 ms (sepF k) d := fun d => by
    unfold rowD rowS
    rw [Str.append_assoc]
  have hDl : ∀ d ∈ ds, (rowD (figSt a o 10).2 ms (sepF k) d).length ≤ 24 := fun d hdd => by
    rw [hdl, Str.length_append, dots_len]
    have := hrl d hdd
    omega
  have hgf : ∀ i, gf a o i ≠ 46 := fun i => by unfold gf; omega
  have hsum : ((rowsD (figSt a o 10).2 ms (sepF k) ds).map (·.length)).sum ≤ 96 := by
    refine Nat.le_trans (sum_le (k := 24) ?_) ?_
    · intro n hn
      rw [rowsD_map, List.map_map] at hn
      obtain ⟨d, hdd, rfl⟩ := List.mem_map.mp hn
      exact hDl d hdd
    · rw [List.length_map, rowsD_map, List.length_map]
      omega
  have hwl : tl (wantF (figSt a o 10).2 ms (sepF k) ds) = flat (ds.map fun d => rowL (gf a o) ms c d.toNat ++ [10]) := by
    unfold wantF
    rw [txt_join, join_empty, rowsD_map, List.map_map, ← flat_rows]
    congr 1
    refine List.map_congr_left fun d _ => ?_
    show tl (rowD (figSt a o 10).2 ms (sepF k) d) = _
    rw [hdl, tl_app, tl_dots, hrow]
    rfl
  have hne : ds ≠ [] := fun q => by rw [q] at h1; exact absurd h1 (by decide)
  have hA : StrLaws.At (wantF (figSt a o 10).2 ms (sepF k) ds) (Str.ofString "...") (wantF (figSt a o 10).2 ms (sepF k) ds).length 0 := by
    obtain ⟨d, r, e⟩ := List.exists_cons_of_ne_nil hne
    rw [at_dots, hwl, e]
    exact ⟨rfl, rfl, rfl⟩
  refine ⟨Nat.le_trans hsum (by decide), ?_, ?_, ?_, ?_, ?_⟩
  · have := joinF_le (rowsD (figSt a o 10).2 ms (sepF k) ds)
    unfold wantF
    omega
  · have := (StrLaws.found_iff (wantF (figSt a o 10).2 ms (sepF k) ds) (Str.ofString "...")).mpr ⟨0, hA⟩
    simpa using this
  · rw [split_dots hwl (by simpa using hne)]
    · congr 1
      rw [rowsF_map, List.map_map]
      refine List.map_congr_left fun d _ => ?_
      show toS (rowL (gf a o) ms c d.toNat ++ [10]) = _
      rw [← hrow d, toS_tl]
    · intro r hr
      obtain ⟨d, _, rfl⟩ := List.mem_map.mp hr
      exact (row_gd hgf _).1
  · rw [rowsF_map]
    have e : ds = ds.dropLast ++ [ds.getLast hne] := (List.dropLast_concat_getLast hne).symm
    rw [e]
    unfold lastS
    rw [List.map_append, List.map_singleton]
    simp only [List.getLastD_concat]
    rw [← tl_len, hrow, List.length_append, List.length_singleton]
    omega
  · intro r hr
    rw [rowsF_map] at hr
    obtain ⟨d, hdd, rfl⟩ := List.mem_map.mp hr
    exact Nat.le_trans (hrl d hdd) (by decide)
end
theorem seven {ws : List Value} {ds : List Int} (h : IntsAre ws ds) (o : DrawnOk ds) : ∃ d0 d1 d2 d3 d4 d5 d6 t0 t1 t2 t3 t4 t5 t6, ws = [.int d0 t0, .int d1 t1, .int d2 t2, .int d3 t3, .int d4 t4, .int d5 t5, .int d6 t6] ∧ (0 ≤ d0 ∧ d0 < 1000000) ∧ (0 ≤ d1 ∧ d1 < 1000000) ∧ (0 ≤ d2 ∧ d2 < 1000000) ∧ (0 ≤ d3 ∧ d3 < 1000000) ∧ (0 ≤ d4 ∧ d4 < 1000000) ∧ (0 ≤ d5 ∧ d5 < 1000000) ∧ (0 ≤ d6 ∧ d6 < 1000000) := by
  obtain ⟨hl, hr⟩ := o
  match ds, hl with
  | [d0, d1, d2, d3, d4, d5, d6], _ =>
    cases h with | cons _ t0 h => cases h with | cons _ t1 h => cases h with | cons _ t2 h => cases h with | cons _ t3 h => cases h with | cons _ t4 h => cases h with | cons _ t5 h => cases h with | cons _ t6 h => cases h with | nil =>
    exact ⟨_, _, _, _, _, _, _, _, _, _, _, _, _, _, rfl, hr _ (by simp), hr _ (by simp), hr _ (by simp), hr _ (by simp), hr _ (by simp), hr _ (by simp), hr _ (by simp)⟩
theorem item_four {prog : Program} {w : World} {A : Around} {E : Value → Shared → Prop} {s : Shared} {h₀ : Heap} {L l : Addr} {news : List (Addr × Obj)} {value slice : PySem.Expr} {t0 t1 t2 t3 : Tok} {n : Nat} {k : Int} {u : Tok} {Q : Value → Shared → Prop}
    (N : News h₀ L s.heap news) (hm : (l, W.listOf [Value.str (Str.ofString ",") t0, Value.str (Str.ofString ".") t1, Value.str (Str.ofString "'") t2, Value.str (Str.ofString " ") t3].toArray n) ∈ news) (h0 : 0 ≤ k) (hhi : k < 4) (h : ∀ t, Q (.str (sepF k) t) s)
    (hs : subscripted slice false (.ref l) (.int k u) = operate [.ref l, .int k u] (getItem (.ref l) (.int k u)) := by with_unfolding_all rfl) :
    wpAny (model prog w) A (subscriptTail value slice (.ref l) (.int k u)) Q E s := by
  have hk : k = 0 ∨ k = 1 ∨ k = 2 ∨ k = 3 := by omega
  rcases hk with rfl | rfl | rfl | rfl
  · exact tail_any (lst_of N hm).typeIs slot_list_getitem.lookup (wpAny_getItem_list (lst_of N hm) (by decide) (by decide) rfl (h t0)) hs
  · exact tail_any (lst_of N hm).typeIs slot_list_getitem.lookup (wpAny_getItem_list (lst_of N hm) (by decide) (by decide) rfl (h t1)) hs
  · exact tail_any (lst_of N hm).typeIs slot_list_getitem.lookup (wpAny_getItem_list (lst_of N hm) (by decide) (by decide) rfl (h t2)) hs
  · exact tail_any (lst_of N hm).typeIs slot_list_getitem.lookup (wpAny_getItem_list (lst_of N hm) (by decide) (by decide) rfl (h t3)) hs
theorem item_any {prog : Program} {w : World} {A : Around} {E : Value → Shared → Prop} {s : Shared} {h₀ : Heap} {L l : Addr} {news : List (Addr × Obj)} {value slice : PySem.Expr} {vs : List Value} {ns : List Int} {n : Nat} {k : Int} {u : Tok} {Q : Value → Shared → Prop}
    (N : News h₀ L s.heap news) (hm : (l, W.listOf vs.toArray n) ∈ news) (hi : IntsAre vs ns) (h0 : 0 ≤ k) (h1 : k < ns.length) (hhi : k < 2 ^ 63) (h : ∀ t, Q (.int (ns.getD k.toNat 0) t) s)
    (hs : subscripted slice false (.ref l) (.int k u) = operate [.ref l, .int k u] (getItem (.ref l) (.int k u)) := by with_unfolding_all rfl) :
    wpAny (model prog w) A (subscriptTail value slice (.ref l) (.int k u)) Q E s := by
  obtain ⟨t, hx⟩ := hi.get k.toNat _ (ints_getD h0 h1)
  exact tail_any (lst_of N hm).typeIs slot_list_getitem.lookup (wpAny_getItem_list (lst_of N hm) h0 hhi (by simpa using hx) (h t)) hs
noncomputable def endL (k : Int) : List Int := if k = 0 then [0, 5] else if k = 1 then [127, 2] else []
theorem item_ends {prog : Program} {w : World} {A : Around} {E : Value → Shared → Prop} {s : Shared} {h₀ : Heap} {L l la lb lc : Addr} {news : List (Addr × Obj)} {value slice : PySem.Expr} {ta tb tc td : Tok} {na nb nc : Nat} {n : Nat} {k : Int} {u : Tok} {Q : Value → Shared → Prop}
    (N : News h₀ L s.heap news) (hm : (l, W.listOf [Value.ref la, Value.ref lb, Value.ref lc].toArray n) ∈ news) (hma : (la, W.listOf [Value.int 0 ta, Value.int 5 tb].toArray na) ∈ news) (hmb : (lb, W.listOf [Value.int 127 tc, Value.int 2 td].toArray nb) ∈ news) (hmc : (lc, W.listOf [].toArray nc) ∈ news) (h0 : 0 ≤ k) (hhi : k < 3) (h : ∀ x vs n, (x, W.listOf vs.toArray n) ∈ news → IntsAre vs (endL k) → vs.length ≤ 2 → Q (.ref x) s)
    (hs : subscripted slice false (.ref l) (.int k u) = operate [.ref l, .int k u] (getItem (.ref l) (.int k u)) := by with_unfolding_all rfl) :
    wpAny (model prog w) A (subscriptTail value slice (.ref l) (.int k u)) Q E s := by
  have hk : k = 0 ∨ k = 1 ∨ k = 2 := by omega
  rcases hk with rfl | rfl | rfl
  · exact tail_any (lst_of N hm).typeIs slot_list_getitem.lookup (wpAny_getItem_list (lst_of N hm) (by decide) (by decide) rfl (h la _ _ hma (.cons _ _ (.cons _ _ .nil)) (by simp))) hs
  · exact tail_any (lst_of N hm).typeIs slot_list_getitem.lookup (wpAny_getItem_list (lst_of N hm) (by decide) (by decide) rfl (h lb _ _ hmb (.cons _ _ (.cons _ _ .nil)) (by simp))) hs
  · exact tail_any (lst_of N hm).typeIs slot_list_getitem.lookup (wpAny_getItem_list (lst_of N hm) (by decide) (by decide) rfl (h lc _ _ hmc .nil (by simp))) hs
open Mine.G1 (progOf prog_spec)
open Mine.S1 (lexF sym_spec lex_20 lex_21 lex_22 lex_30 lex_31 lex_32)
open Mine.M1 (marksF marks_spec)
open Mine.T3 (toldF told_spec)
theorem prog_lex {o w3 : Int} (ho : o = 2 ∨ o = 3) (h0 : 0 ≤ w3) (h1 : w3 < 3) : (progOf o w3).length ≤ 100 ∧ lexF (progOf o w3) 40 0 = some (symsOf o w3) := by
  have hk : w3 = 0 ∨ w3 = 1 ∨ w3 = 2 := by omega
  rcases ho with rfl | rfl <;> rcases hk with rfl | rfl | rfl
  · exact ⟨by decide +kernel, lex_20⟩
  · exact ⟨by decide +kernel, lex_21⟩
  · exact ⟨by decide +kernel, lex_22⟩
  · exact ⟨by decide +kernel, lex_30⟩
  · exact ⟨by decide +kernel, lex_31⟩
  · exact ⟨by decide +kernel, lex_32⟩
theorem fm01 (x : Int) : 2 + x.fmod 2 = 2 ∨ 2 + x.fmod 2 = 3 := by
  have h1 := Int.fmod_nonneg_of_pos x (b := 2) (by decide)
  have h2 := Int.fmod_lt_of_pos x (b := 2) (by decide)
  omega
theorem fm_lo (x : Int) {k : Int} (h : 0 < k) : 0 ≤ x.fmod k := Int.fmod_nonneg_of_pos x h
theorem fm_hi (x : Int) {k : Int} (h : 0 < k) : x.fmod k < k := Int.fmod_lt_of_pos x h
theorem top_lt {l : Addr} {p : Addr × Obj} {r : List (Addr × Obj)} (h : ∀ q ∈ p :: r, q.1 < l) : @LT.lt Nat _ p.1 l := h p (.head _)
theorem told_shape (s0 s1 s2 : Int) {e : Int} (h0 : 0 ≤ e) (h1 : e < 3) : (e = 0 ∧ [s0, s1, s2] ++ endL e = [s0, s1, s2, 0, 5]) ∨ (e ≠ 0 ∧ ([s0, s1, s2] ++ endL e = [s0, s1, s2, 127, 2] ∨ [s0, s1, s2] ++ endL e = [s0, s1, s2])) := by
  have hk : e = 0 ∨ e = 1 ∨ e = 2 := by omega
  rcases hk with rfl | rfl | rfl
  · exact .inl ⟨rfl, rfl⟩
  · exact .inr ⟨by decide, .inl rfl⟩
  · exact .inr ⟨by decide, .inr rfl⟩
theorem end_len {vs : List Value} {e : Int} (h : IntsAre vs (endL e)) (hl : vs.length ≤ 2) : (endL e).length ≤ 2 := h.length ▸ hl
theorem comp_gen {prog : Program} {w : World} {A : Around} {h₀ : Heap} {L : Addr} {m : Str → Option Value} {env : Env} {elt : PySem.Expr} {x : Str} {scope : Scope} {cl : List (Str × Addr)} {s : Shared} {S : List (Addr × Obj) → Prop} {P : Nat → Value → Prop} {Fin : List Value → List (Addr × Obj) → Prop} {news : List (Addr × Obj)} {n : Nat} (R : Nat → Value → Prop)
    (turn : ∀ i v I oI C oC D m₂ ys h tk (E' : Value → Shared → Prop), i < n → P i v → LCg.NsObj oC m₂ → m₂ x = some v → Fr h₀ L h m → News h₀ L h ((I, oI) :: (C, oC) :: (D, LCg.lst ys) :: news) → LCg.Off3 I C D news → ((@Ne Nat I C) ∧ (@Ne Nat I D) ∧ (@Ne Nat C D)) →
      wpAny (model prog w) A (eval elt (compEnvC scope cl C env)) (LCg.CompEnd h₀ L m { s with heap := h, toks := tk } I oI C oC D (LCg.lst ys) S (fun y news' => news' = news ∧ R i y)) E' { s with heap := h, toks := tk })
    (fin : ∀ ys : List Value, ys.length = n → (∀ i y, ys[i]? = some y → R i y) → Fin ys news) : LCg.CompRest prog w A h₀ L m env elt x scope cl s S P Fin n 0 [] news := by
  have key : ∀ (j i : Nat) (ys : List Value), i + j = n → ys.length = i → (∀ i y, ys[i]? = some y → R i y) → LCg.CompRest prog w A h₀ L m env elt x scope cl s S P Fin j i ys news := by
    intro j
    induction j with
    | zero =>
      intro i ys hi hl hy
      exact LCg.CompRest.zero (fin ys (by omega) hy)
    | succ j ih =>
      intro i ys hi hl hy
      refine LCg.CompRest.succ ?_
      intro v I oI C oC D m₂ h tk E' hv hC hx F N off ne
      refine wpAny_mono (turn i v I oI C oC D m₂ ys h tk E' (by omega) hv hC hx F N off ne) (fun y s₂ hq => ?_) fun _ _ e => e
      obtain ⟨h', tk', nw, e, F', N', off', hS, hn, hy'⟩ := hq
      rw [hn] at N' off' hS
      refine ⟨h', tk', news, e, F', N', off', hS, ?_⟩
      refine ih (i + 1) _ (by omega) (by rw [List.length_append, List.length_singleton, hl]) ?_
      intro i' y' hi'
      by_cases hlt : i' < ys.length
      · rw [List.getElem?_append_left hlt] at hi'
        exact hy i' y' hi'
      · rw [List.getElem?_append_right (by omega)] at hi'
        by_cases h0 : i' - ys.length = 0
        · rw [h0] at hi'
          have : i' = i := by omega
          rw [this]
          simp at hi'
          rw [← hi']
          exact hy'
        · obtain ⟨k, hk⟩ : ∃ k, i' - ys.length = k + 1 := ⟨i' - ys.length - 1, by omega⟩
          rw [hk] at hi'
          simp at hi'
  exact key n 0 [] (by omega) rfl (by intro i y h; simp at h)
theorem three_cases {x : Int} (h0 : 1 ≤ x) (h1 : x ≤ 3) : x = 1 ∨ x = 2 ∨ x = 3 := by omega
theorem told_of {ts ms : List Int} : (ts.length ≤ 10 ∧ 1 ≤ ts.length ∧ (∀ x ∈ ts, 1 ≤ x ∧ x ≤ 10) ∧ ts.sum = 10 ∧ ms = partS ts) → ToldOk ts ms := fun ⟨a, b, c, d, e⟩ => ⟨a, b, c, d, e⟩
theorem fin3 {x : Int} (h0 : 0 ≤ x) (h1 : x < 3) : ∃ a : Fin 3, x = (a.val : Int) := ⟨⟨x.toNat, by omega⟩, by show x = (x.toNat : Int); omega⟩
theorem fin3s {x : Int} (h0 : 1 ≤ x) (h1 : x ≤ 3) : ∃ a : Fin 3, x = 1 + (a.val : Int) := ⟨⟨(x - 1).toNat, by omega⟩, by show x = 1 + ((x - 1).toNat : Int); omega⟩
theorem told_all : ∀ a b c e : Fin 3, (toldF (1 + (a.val : Int)) (1 + (b.val : Int)) (1 + (c.val : Int)) (e.val : Int)).length ≤ 10 ∧ 1 ≤ (toldF (1 + (a.val : Int)) (1 + (b.val : Int)) (1 + (c.val : Int)) (e.val : Int)).length ∧ (∀ x ∈ (toldF (1 + (a.val : Int)) (1 + (b.val : Int)) (1 + (c.val : Int)) (e.val : Int)), 1 ≤ x ∧ x ≤ 10) ∧ (toldF (1 + (a.val : Int)) (1 + (b.val : Int)) (1 + (c.val : Int)) (e.val : Int)).sum = 10 ∧ (marksF (1 + (a.val : Int)) (1 + (b.val : Int)) (1 + (c.val : Int)) (e.val : Int)) = partS (toldF (1 + (a.val : Int)) (1 + (b.val : Int)) (1 + (c.val : Int)) (e.val : Int)) := by decide +kernel
theorem told_ok {s0 s1 s2 e : Int} (h00 : 1 ≤ s0) (h01 : s0 ≤ 3) (h10 : 1 ≤ s1) (h11 : s1 ≤ 3) (h20 : 1 ≤ s2) (h21 : s2 ≤ 3) (he : 0 ≤ e) (he2 : e < 3) : ToldOk (toldF s0 s1 s2 e) (marksF s0 s1 s2 e) := by
  obtain ⟨a, rfl⟩ := fin3s h00 h01
  obtain ⟨b, rfl⟩ := fin3s h10 h11
  obtain ⟨c, rfl⟩ := fin3s h20 h21
  obtain ⟨d, rfl⟩ := fin3 he he2
  exact told_of (told_all a b c d)
theorem loadX_L {M : Model} {A : Around} {E : Value → Shared → Prop} {s : Shared} {h₀ : Heap} {L a : Addr} {m : Str → Option Value} {cn : Str} {cs : Scope} {ccd : Value} {cl : List (Str × Addr)} {x : Str} {v : Value} {Q : Value → Shared → Prop} (F : Fr h₀ L s.heap m) (hv : m x = some v) (h : Q v s)
    (hk : cs.kind = .function := by rfl) (hx : (envX cn cs L a ccd cl).kindOf x = some .local := by rfl) :
    wpAny M A (loadName (envX cn cs L a ccd cl) x) Q E s := wpAny_loadName_local hk hx F.ns hv h
theorem small_lit {v : Int} (n : Nat) (h : v.natAbs ≤ n) (hn : n < 2 ^ 40) : Mine.U1.Small v := by
  unfold Mine.U1.Small
  exact Nat.lt_of_le_of_lt h (Nat.lt_of_lt_of_le hn (Nat.pow_le_pow_right (by decide) (by decide)))
theorem pre_ok {d0 d1 d2 d3 : Int} (h1 : 0 ≤ d1) : Pre d1 (10 * (d0.fmod 41 - 20) + [(1 : Int), 3, 7, 9].getD ((d0.fdiv 41).fmod 4).toNat 0) ([(1 : Int), 7, 3, 9].getD ((d0.fdiv 41).fmod 4).toNat 0) (2 + d2.fmod 2) (symsOf (2 + d2.fmod 2) ((d2.fdiv 2).fmod 3) ++ [0])
    (toldF (1 + d3.fmod 3) (1 + (d3.fdiv 3).fmod 3) (1 + (d3.fdiv 9).fmod 3) ((d3.fdiv 27).fmod 3)) (marksF (1 + d3.fmod 3) (1 + (d3.fdiv 3).fmod 3) (1 + (d3.fdiv 9).fmod 3) ((d3.fdiv 27).fmod 3)) (sepF ((d3.fdiv 81).fmod 4)) := by
  have p0 := fm_lo (d0.fdiv 41) (k := 4) (by decide)
  have p1 := fm_hi (d0.fdiv 41) (k := 4) (by decide)
  have q0 := fm_lo d0 (k := 41) (by decide)
  have q1 := fm_hi d0 (k := 41) (by decide)
  generalize (d0.fdiv 41).fmod 4 = k at *
  generalize d0.fmod 41 = e at *
  have hk : k = 0 ∨ k = 1 ∨ k = 2 ∨ k = 3 := by omega
  have m1 := fm_lo d3 (k := 3) (by decide)
  have m2 := fm_hi d3 (k := 3) (by decide)
  have m3 := fm_lo (d3.fdiv 3) (k := 3) (by decide)
  have m4 := fm_hi (d3.fdiv 3) (k := 3) (by decide)
  have m5 := fm_lo (d3.fdiv 9) (k := 3) (by decide)
  have m6 := fm_hi (d3.fdiv 9) (k := 3) (by decide)
  have tk := told_ok (s0 := 1 + d3.fmod 3) (s1 := 1 + (d3.fdiv 3).fmod 3) (s2 := 1 + (d3.fdiv 9).fmod 3) (e := (d3.fdiv 27).fmod 3) (by omega) (by omega) (by omega) (by omega) (by omega) (by omega) (fm_lo _ (by decide)) (fm_hi _ (by decide))
  rcases hk with rfl | rfl | rfl | rfl
  · exact ⟨by show -200 < 10 * (e - 20) + 1; omega, by show 10 * (e - 20) + 1 < 210; omega, by decide, by decide, by show ((10 * (e - 20) + 1) * 1) % 10 = 1; omega, fm01 _, ⟨_, fm_lo _ (by decide), fm_hi _ (by decide), rfl⟩, tk, ⟨_, rfl⟩, h1⟩
  · exact ⟨by show -200 < 10 * (e - 20) + 3; omega, by show 10 * (e - 20) + 3 < 210; omega, by decide, by decide, by show ((10 * (e - 20) + 3) * 7) % 10 = 1; omega, fm01 _, ⟨_, fm_lo _ (by decide), fm_hi _ (by decide), rfl⟩, tk, ⟨_, rfl⟩, h1⟩
  · exact ⟨by show -200 < 10 * (e - 20) + 7; omega, by show 10 * (e - 20) + 7 < 210; omega, by decide, by decide, by show ((10 * (e - 20) + 7) * 3) % 10 = 1; omega, fm01 _, ⟨_, fm_lo _ (by decide), fm_hi _ (by decide), rfl⟩, tk, ⟨_, rfl⟩, h1⟩
  · exact ⟨by show -200 < 10 * (e - 20) + 9; omega, by show 10 * (e - 20) + 9 < 210; omega, by decide, by decide, by show ((10 * (e - 20) + 9) * 9) % 10 = 1; omega, fm01 _, ⟨_, fm_lo _ (by decide), fm_hi _ (by decide), rfl⟩, tk, ⟨_, rfl⟩, h1⟩
theorem sub_of {a b : List (Addr × Obj)} (h : ∀ p ∈ a, p ∈ b) : ∀ p ∈ a, p ∈ b := h
theorem ints_of (f : Nat → Int) : ∀ (n : Nat) (ys : List Value), ys.length = n → (∀ i y, ys[i]? = some y → ∃ t, y = Value.int (f i) t) → IntsAre ys ((List.range n).map f)
  | 0, ys, hl, _ => by
    have : ys = [] := List.length_eq_zero_iff.mp hl
    subst this; exact .nil
  | n + 1, ys, hl, h => by
    have e : ys = ys.dropLast ++ [ys.getLast (by intro q; rw [q] at hl; simp at hl)] := (List.dropLast_concat_getLast _).symm
    have hd : ys.dropLast.length = n := by rw [List.length_dropLast, hl]; omega
    generalize ys.getLast (by intro q; rw [q] at hl; simp at hl) = z at e
    generalize ys.dropLast = zs at e hd
    subst e
    rw [List.range_succ, List.map_append]
    refine IntsAre.append (ints_of f n zs hd fun i y hi => h i y ?_) ?_
    · have : i < zs.length := (List.getElem?_eq_some_iff.mp hi).1
      rw [List.getElem?_append_left this]; exact hi
    · obtain ⟨t, ht⟩ := h n z (by rw [List.getElem?_append_right (by omega)]; simp [hd])
      subst ht
      exact .cons _ _ .nil
open MineK (mul_spec sub_spec)
open Mine.U1 (Small small_mul runM RunSt run_spec)
open Mine.L1 (wordsF line_spec)
theorem first_sz {a x0 : Int} (ha0 : -200 < a) (ha1 : a < 210) (h0 : -60 < x0) (h1 : x0 < 61) : (1 - a * x0).natAbs < 2 ^ 64 := by
  have p1 : a * x0 ≤ 20000 := by
    by_cases q : 0 ≤ x0
    · have : a * x0 ≤ 210 * x0 := Int.mul_le_mul_of_nonneg_right (by omega) q
      omega
    · have : -a * -x0 ≤ 210 * -x0 := Int.mul_le_mul_of_nonneg_right (by omega) (by omega)
      rw [Int.neg_mul_neg a x0] at this
      omega
  have p2 : -20000 ≤ a * x0 := by
    by_cases q : 0 ≤ x0
    · have : (-210) * x0 ≤ a * x0 := Int.mul_le_mul_of_nonneg_right (by omega) q
      omega
    · have : (-210) * -x0 ≤ -a * -x0 := Int.mul_le_mul_of_nonneg_right (by omega) (by omega)
      rw [Int.neg_mul_neg a x0] at this
      omega
  have : (1 - a * x0).natAbs < 30000 := by omega
  exact Nat.lt_trans this (by decide)
theorem syms_len {o k : Int} : (symsOf o k ++ [0]).length ≤ 40 := by
  unfold symsOf
  split <;> split <;> (try split) <;> decide
theorem ord_pow {o : Int} (ho : o = 2 ∨ o = 3) (n : Nat) (hn : n < 4) : 0 ≤ o ^ n ∧ o ^ n ≤ 1000000 ∧ (o ^ n).toNat = o.toNat ^ n := by
  have hk : n = 0 ∨ n = 1 ∨ n = 2 ∨ n = 3 := by omega
  rcases ho with rfl | rfl <;> rcases hk with rfl | rfl | rfl | rfl <;> decide
theorem sz_small {v : Int} {n : Nat} (h : v.natAbs ≤ n) (hn : n ≤ 1000) : Sz v := Nat.le_trans h (Nat.le_trans hn (Nat.le_trans (by decide : 1000 ≤ 2 ^ 10) (Nat.pow_le_pow_right (by decide) (by decide))))
theorem ints3 {vs : List Value} {a b c : Int} (h : IntsAre vs [a, b, c]) : ∃ t u v, vs = [.int a t, .int b u, .int c v] := by
  cases h with | cons _ t h => cases h with | cons _ u h => cases h with | cons _ v h => cases h with | nil => exact ⟨_, _, _, rfl⟩
theorem cinv_zero (a x0 o : Int) (ts : List Int) (b : Str) : CInv a x0 o ts b 0 x0 (Str.ofString "") [] := ⟨rfl, fun i h => absurd h (Nat.not_lt_zero i), rfl, rfl, Nat.zero_le _⟩
theorem cinv_first {a x0 o x : Int} {ts ms : List Int} {b page : Str} {xs : List Int} (h : CInv a x0 o ts b 0 x page xs) (ht : ToldOk ts ms) (hb : b.length = 1) :
    1 - a * x = (1 - a * x0) ^ (o.toNat ^ 0) ∧ CInv a x0 o ts b 1 x (page ++ lineF ts b x) (xs ++ [x]) := by
  have hx : x = x0 := by rw [h.cur, if_pos rfl]
  have hz : xs = [] := List.length_eq_zero_iff.mp h.len
  have hp := h.pg
  subst hx hz
  refine ⟨by rw [Nat.pow_zero, Int.pow_succ, Int.pow_zero, Int.one_mul], rfl, ?_, ?_, rfl, ?_⟩
  · intro i hi
    have : i = 0 := by omega
    subst this
    show 1 - a * x = _
    rw [Nat.pow_zero, Int.pow_succ, Int.pow_zero, Int.one_mul]
  · rw [hp]; rfl
  · have := h.pl
    have := line_len x ht hb
    rw [Str.length_append]; omega
theorem cinv_next {a x0 o x x' : Int} {ts ms : List Int} {b page : Str} {k : Nat} {xs : List Int} (h : CInv a x0 o ts b k x page xs) (hk : 0 < k) (ho : 0 ≤ o) (he : 1 - a * x' = (1 - a * x) ^ o.toNat) (ht : ToldOk ts ms) (hb : b.length = 1) :
    1 - a * x' = (1 - a * x0) ^ (o.toNat ^ k) ∧ CInv a x0 o ts b (k + 1) x' (page ++ lineF ts b x') (xs ++ [x']) := by
  have hx : x = xs.getD (k - 1) 0 := by rw [h.cur, if_neg (by omega)]
  have hv := h.val (k - 1) (by omega)
  rw [← hx] at hv
  have hq : 1 - a * x' = (1 - a * x0) ^ (o.toNat ^ k) := by
    rw [he, hv, ← Int.pow_mul, ← Nat.pow_succ]
    congr 2; omega
  refine ⟨hq, by rw [List.length_append, List.length_singleton, h.len], ?_, ?_, ?_, ?_⟩
  · intro i hi
    by_cases e : i < k
    · rw [List.getD_eq_getElem?_getD, List.getElem?_append_left (by rw [h.len]; exact e), ← List.getD_eq_getElem?_getD]
      exact h.val i e
    · have : i = xs.length := by rw [h.len]; omega
      rw [List.getD_eq_getElem?_getD, this, List.getElem?_append_right (Nat.le_refl _), Nat.sub_self, h.len]
      exact hq
  · rw [h.pg]; unfold pageF; rw [List.foldl_append]; rfl
  · rw [if_neg (by omega), Nat.add_sub_cancel, List.getD_eq_getElem?_getD, ← h.len, List.getElem?_append_right (Nat.le_refl _), Nat.sub_self]; rfl
  · have := h.pl
    have := line_len x' ht hb
    rw [Str.length_append]; omega
theorem first_ten {a ov e : Int} (h : (a * ov) % 10 = 1) : (1 - a * (ov + 10 * e)).fmod (10 ^ (1 : Int).toNat) = 0 := by
  have : a * (ov + 10 * e) = a * ov + 10 * (a * e) := by rw [Int.mul_add, Int.mul_left_comm]
  rw [this, Int.fmod_eq_emod_of_nonneg _ (by decide)]
  show (1 - (a * ov + 10 * (a * e))) % 10 = 0
  omega
theorem ten_ne (n : Nat) : (10 : Int) ^ n ≠ 0 := Int.ne_of_gt (Int.pow_pos (by decide))
theorem loadX_C {M : Model} {A : Around} {E : Value → Shared → Prop} {s : Shared} {h₀ : Heap} {L a : Addr} {cn : Str} {cs : Scope} {ccd : Value} {cl : List (Str × Addr)} {x : Str} {v : Value} {c : Addr} {o : Obj} {news : List (Addr × Obj)} {Q : Value → Shared → Prop} (N : News h₀ L s.heap news) (hc : cl.lookup x = some c) (hm : (c, o) ∈ news) (hd : o.data = .cell (some v)) (h : Q v s)
    (hk : cs.kind = .function := by rfl) (hx : (envX cn cs L a ccd cl).kindOf x = some .cell := by rfl) :
    wpAny M A (loadName (envX cn cs L a ccd cl) x) Q E s := wpAny_loadName_cell hk hx hc ⟨o, N.get hm, hd⟩ h
open Mine.F1 (figSt figures_spec)
theorem len_atI {prog : Program} {w : World} {A : Around} {E : Value → Shared → Prop} {s : Shared} {h₀ : Heap} {L l : Addr} {news : List (Addr × Obj)} {us : List Value} {ns : List Int} {c : Nat} {Q : Value → Shared → Prop}
    (N : News h₀ L s.heap news) (hm : (l, W.listOf us.toArray c) ∈ news) (hi : IntsAre us ns) (hfit : ns.length ≤ 1000) (h : Q (.int (ns.length : Int) (s.toks + 1)) { s with toks := s.toks + 1 + 1 }) : wpAny (model prog w) A (call (.builtin "len") [.ref l]) Q E s :=
  len_at N hm (by rw [hi.length]; exact hfit) (by rw [hi.length]; exact h)
theorem fdiv_rng {r k : Int} (h0 : 0 ≤ r) (h1 : r < 1000000) (hk : 1 ≤ k) : 0 ≤ r.fdiv k ∧ r.fdiv k < 1000000 := by
  rw [Int.fdiv_eq_ediv_of_nonneg _ (by omega)]
  refine ⟨Int.ediv_nonneg h0 (by omega), ?_⟩
  have := Int.ediv_le_self k h0
  omega
theorem fmod_mem {ms : List Int} {r : Int} (h : 1 ≤ ms.length) : ms.getD (r.fmod (ms.length : Int)).toNat 0 ∈ ms := by
  have h0 := Int.fmod_nonneg_of_pos r (b := (ms.length : Int)) (by omega)
  have h1 := Int.fmod_lt_of_pos r (b := (ms.length : Int)) (by omega)
  have hl : (r.fmod (ms.length : Int)).toNat < ms.length := by omega
  rw [List.getD_eq_getElem?_getD, List.getElem?_eq_getElem hl]
  exact List.getElem_mem hl
theorem marks_len {ts ms : List Int} (h : ToldOk ts ms) : 1 ≤ ms.length ∧ ms.length ≤ 10 := by
  have e : ms.length = ts.length := by rw [h.eq]; simp [partS]
  rw [e]; exact ⟨h.pos, h.len⟩
theorem nm8 {g h : Heap} {L l l' : Addr} {o o' : Obj} {x1 x2 x3 x4 x5 x6 x7 : Addr × Obj} {r : List (Addr × Obj)} {C : Prop} (_N : News g L h (x1 :: x2 :: x3 :: x4 :: x5 :: x6 :: x7 :: (l, o) :: (l', o') :: r)) (k : ∀ z z', z = o → z' = o' → C) : C := k o o' rfl rfl
theorem num_rng {d4 d5 d6 n : Int} (r4 : 0 ≤ d4 ∧ d4 < 1000000) (r5 : 0 ≤ d5 ∧ d5 < 1000000) (r6 : 0 ≤ d6 ∧ d6 < 1000000) (h : n ∈ [d4, d5, d6]) : 0 ≤ n ∧ n < 1000000 := by
  simp only [List.mem_cons, List.not_mem_nil, or_false] at h
  rcases h with rfl | rfl | rfl
  · exact r4
  · exact r5
  · exact r6
theorem nm7 {g h : Heap} {L l : Addr} {o : Obj} {x1 x2 x3 x4 x5 x6 x7 x8 : Addr × Obj} {r : List (Addr × Obj)} {C : Prop} (_N : News g L h (x1 :: x2 :: x3 :: x4 :: x5 :: x6 :: x7 :: x8 :: (l, o) :: r)) (k : ∀ z, z = o → C) : C := k o rfl
theorem sep_len {b : Str} (h : ∃ k, b = sepF k) : b.length = 1 := by
  obtain ⟨k, hk⟩ := h
  rw [hk]; unfold sepF
  split
  · decide
  · split
    · decide
    · split <;> decide
open Mine.R1 (rowT row_spec)
open Mine.E1 (ellF lastS ell_spec)
theorem exp9 {n : Int} {l i : Nat} (hl : (l : Int) = 1 + n) (hi : i < l) (h4 : l ≤ 4) : (4 - (1 + n) + (0 + (i : Int))).toNat = (4 - (l : Int) + (i : Int)).toNat ∧ (4 - (1 + n) + (0 + (i : Int))).toNat < 4 ∧ 0 ≤ 4 - (1 + n) + (0 + (i : Int)) ∧ 4 - (1 + n) + (0 + (i : Int)) ≤ 1000000 := by
  refine ⟨?_, ?_, ?_, ?_⟩ <;> omega
theorem pow_small9 {o : Int} (ho : o = 2 ∨ o = 3) {n : Nat} (hn : n < 4) : Small (o ^ n) := by
  have h := ord_pow ho n hn
  exact small_lit 1000000 (by omega) (by decide)
theorem strs_of (f : Nat → Str) : ∀ (n : Nat) (ys : List Value), ys.length = n → (∀ i y, ys[i]? = some y → ∃ t, y = Value.str (f i) t) → StrsAre ys ((List.range n).map f)
  | 0, ys, hl, _ => by
    have : ys = [] := List.length_eq_zero_iff.mp hl
    subst this; exact .nil
  | n + 1, ys, hl, h => by
    have e : ys = ys.dropLast ++ [ys.getLast (by intro q; rw [q] at hl; simp at hl)] := (List.dropLast_concat_getLast _).symm
    have hd : ys.dropLast.length = n := by rw [List.length_dropLast, hl]; omega
    generalize ys.getLast (by intro q; rw [q] at hl; simp at hl) = z at e
    generalize ys.dropLast = zs at e hd
    subst e
    rw [List.range_succ, List.map_append]
    refine StrsAre.append' (strs_of f n zs hd fun i y hi => h i y ?_) ?_
    · have : i < zs.length := (List.getElem?_eq_some_iff.mp hi).1
      rw [List.getElem?_append_left this]; exact hi
    · obtain ⟨t, ht⟩ := h n z (by rw [List.getElem?_append_right (by omega)]; simp [hd])
      subst ht
      exact .cons _ _ .nil
theorem bools_of (f : Nat → Bool) : ∀ (n : Nat) (ys : List Value), ys.length = n → (∀ i y, ys[i]? = some y → y = Value.bool (f i)) → LSm.BoolsAre ys ((List.range n).map f)
  | 0, ys, hl, _ => by
    have : ys = [] := List.length_eq_zero_iff.mp hl
    subst this; exact .nil
  | n + 1, ys, hl, h => by
    match ys, hl with
    | y :: zs, hl =>
      rw [List.range_succ_eq_map, List.map_cons, List.map_map]
      have h0 := h 0 y rfl
      subst h0
      exact .cons _ (bools_of (f ∘ Nat.succ) n zs (by simpa using hl) fun i y hi => h (i + 1) y (by simpa using hi))
end MineL
namespace MineL
open Mine.D1 (drawn_spec DrawnOk)
open Mine.G1 (progOf prog_spec)
open Mine.S1 (lexF sym_spec lex_20 lex_21 lex_22 lex_30 lex_31 lex_32)
open Mine.M1 (marksF marks_spec)
open Mine.T3 (toldF told_spec)
open MineK (mul_spec sub_spec)
open Mine.U1 (Small small_mul runM RunSt run_spec)
open Mine.L1 (wordsF line_spec)
open Mine.F1 (figSt figures_spec)
open Mine.R1 (rowT row_spec)
open Mine.E1 (ellF lastS ell_spec)
set_option autoImplicit true in
theorem st73 (h : wpAny z1 z2 (call (Value.ref z3) z4) z5 z6 z7) : wpAny z1 z2 (call (Value.ref z3) z4) z5 z6 z7 := h
local macro_rules | `(tactic| walk_at "STOP") => `(tactic| with_reducible refine st73 ?_)
local macro_rules | `(tactic| walk_at "F0") => `(tactic| first | omega | exact Int.fmod_nonneg_of_pos _ (by decide))
local macro_rules | `(tactic| walk_at "F1") => `(tactic| first | omega | exact Int.fmod_lt_of_pos _ (by decide) | exact Int.lt_trans (Int.fmod_lt_of_pos _ (by decide)) (by decide))
local macro_rules | `(tactic| walk_at "subscriptTail List cons Name ref int") => `(tactic| first | (k_dflt (refine item_ends (by assumption) (.head _) (.tail _ (.tail _ (.tail _ (.head _)))) (.tail _ (.tail _ (.head _))) (.tail _ (.head _)) (by walk_at "F0") (by walk_at "F1") ?_); intro xend vend nend hmend hiend hlend) | (refine item_any (by assumption) (by k_mem) (by l_intsW) (by walk_at "F0") (by first | (show _ < (4 : Int); walk_at "F1") | (show _ < (3 : Int); walk_at "F1")) (by walk_at "F1") ?_; intro ttm))
local macro_rules | `(tactic| walk_at "subscriptTail List cons BinOp ref int") => `(tactic| (refine item_four (by assumption) (by k_mem) (by walk_at "F0") (by walk_at "F1") ?_; intro ttm))
local macro_rules | `(tactic| walk_at "subscriptTail Name Constant ref int") => `(tactic| k_dflt (refine item_at (by assumption) (by k_mem) (by decide) (by decide) rfl ?_))
set_option autoImplicit true in
theorem st74 (h : wpAny z1 z2 (binaryOp z3 (Value.ref z4) (Value.ref z5)) z6 z7 z8) : wpAny z1 z2 (binaryOp z3 (Value.ref z4) (Value.ref z5)) z6 z7 z8 := h
local macro_rules | `(tactic| walk_at "STOP") => `(tactic| with_reducible refine st74 ?_)
section
set_option autoImplicit true in
theorem st75 (h : wpAny z1 z2 (compareOp CmpOp.NotEq (Value.ref z3) (Value.ref z4)) z5 z6 z7) : wpAny z1 z2 (compareOp CmpOp.NotEq (Value.ref z3) (Value.ref z4)) z5 z6 z7 := h
set_option autoImplicit true in
theorem st76 (h : LCg.CompSrc z1 z2 z3 z4 z5 z6 z7 z8 z9 z10 z11 z12 z13 z14) : LCg.CompSrc z1 z2 z3 z4 z5 z6 z7 z8 z9 z10 z11 z12 z13 z14 := h
set_option autoImplicit true in
theorem st77 (h : LCg.CompEnd z1 z2 z3 z4 z5 z6 z7 z8 z9 z10 z11 z12 z13 z14) : LCg.CompEnd z1 z2 z3 z4 z5 z6 z7 z8 z9 z10 z11 z12 z13 z14 := h
set_option autoImplicit true in
theorem st78 (h : wpAny z1 z2 (call (Value.builtin "sum") z3) z4 z5 z6) : wpAny z1 z2 (call (Value.builtin "sum") z3) z4 z5 z6 := h
set_option autoImplicit true in
theorem st79 (h : wpAny z1 z2 (call (Value.builtin "all") z3) z4 z5 z6) : wpAny z1 z2 (call (Value.builtin "all") z3) z4 z5 z6 := h
local macro_rules | `(tactic| walk_at "STOP") => `(tactic| with_reducible (first | refine st75 ?_ | refine st76 ?_ | refine st77 ?_ | refine st78 ?_ | refine st79 ?_))
local macro_rules | `(tactic| walk_at "call builtin:len") => `(tactic| walk_at "LENX")
section
set_option autoImplicit true in
theorem st80 (h : wpAny z1 z2 (binaryOp Operator.Pow (Value.int z3 z4) (Value.int z5 z6)) z7 z8 z9) : wpAny z1 z2 (binaryOp Operator.Pow (Value.int z3 z4) (Value.int z5 z6)) z7 z8 z9 := h
set_option autoImplicit true in
theorem st81 (h : wpAny z1 z2 (compareOp CmpOp.NotEq (Value.int z3 z4) (Value.int z5 z6)) z7 z8 z9) : wpAny z1 z2 (compareOp CmpOp.NotEq (Value.int z3 z4) (Value.int z5 z6)) z7 z8 z9 := h
local macro_rules | `(tactic| walk_at "STOP") => `(tactic| with_reducible (first | refine st80 ?_ | refine st81 ?_))
local macro_rules | `(tactic| walk_at "binaryOp Mult int int") => `(tactic| (refine mul_int ?_ (Mine.U1.small_mul (by assumption) (by assumption))))
local macro_rules | `(tactic| walk_at "loadName") => `(tactic| (k_here; k_dflt (first | (refine' loadX_L ?F ?v ?_ ?a ?b; (case F => k_asm); (case a | b => rfl); (case v => first | rfl | assumption); k_whole) | (refine' loadX_C ?N ?c ?m ?d ?_ ?a ?b; (case a | b => rfl); (case N => k_asm); (case c => rfl); (case m => k_mem); (case d => k_asm); k_whole))))
section
set_option autoImplicit true in
theorem st82 (h : wpAny z1 z2 (execs (Stmt.Assign [Expr.Name (Str.ofString "figures") z3] z4 z5 :: z6) z7) z8 z9 z10) : wpAny z1 z2 (execs (Stmt.Assign [Expr.Name (Str.ofString "figures") z3] z4 z5 :: z6) z7) z8 z9 z10 := h
local macro_rules | `(tactic| walk_at "STOP") => `(tactic| with_reducible refine st82 ?_)
local macro_rules | `(tactic| walk_at "eval Name") => `(tactic| (k_here; k_dflt (refine' nameX_L ?F ?v ?_ ?a ?b; (case F => k_asm); (case a | b => rfl); (case v => first | exact rfl | assumption); k_whole)))
local macro_rules | `(tactic| walk_at "binaryOp Mod int int") => `(tactic| (refine mod_int' (ten_ne _) ?_))
section
set_option autoImplicit true in
theorem st83 (h : wpAny z1 z2 (compareOp CmpOp.IsNot z3 z4) z5 z6 z7) : wpAny z1 z2 (compareOp CmpOp.IsNot z3 z4) z5 z6 z7 := h
set_option autoImplicit true in
theorem st84 (h : wpAny z1 z2 (newList z3) z4 z5 z6) : wpAny z1 z2 (newList z3) z4 z5 z6 := h
set_option autoImplicit true in
theorem st85 (h : wpAny z1 z2 (call (Value.builtin "list.append") z3) z4 z5 z6) : wpAny z1 z2 (call (Value.builtin "list.append") z3) z4 z5 z6 := h
set_option autoImplicit true in
theorem st86 (h : wpAny z1 z2 (call (Value.builtin "str.join") z3) z4 z5 z6) : wpAny z1 z2 (call (Value.builtin "str.join") z3) z4 z5 z6 := h
local macro_rules | `(tactic| walk_at "STOP") => `(tactic| with_reducible (first | refine st83 ?_ | refine st84 ?_ | refine st85 ?_ | refine st86 ?_))
local macro_rules | `(tactic| walk_at "exec For Name Subscript") => `(tactic| walk_at "FORX")
local macro_rules | `(tactic| walk_at "call type:range") => `(tactic| k_dflt (refine range1_rows (by assumption) (by assumption) ?_; intro h' tk' t1' u1' v1' hR' F' N' kp'; clear kp'))
local macro_rules | `(tactic| walk_at "binaryOp Mod int int") => `(tactic| (first | refine mod_int' (by omega) ?_ | refine mod_int' (ten_ne _) ?_))
local macro_rules | `(tactic| walk_at "call builtin:len") => `(tactic| k_dflt (refine len_atI (by assumption) (by k_mem) (by assumption) (by omega) ?_))
local macro_rules | `(tactic| walk_at "subscriptTail Name BinOp ref int") => `(tactic| k_dflt (refine item_any (by assumption) (by k_mem) (by assumption) (Int.fmod_nonneg_of_pos _ (by omega)) (Int.fmod_lt_of_pos _ (by omega)) (Int.lt_trans (b := 1000) (Int.lt_of_lt_of_le (Int.fmod_lt_of_pos _ (by omega)) (by omega)) (by decide)) ?_; intro ttm))
local macro_rules | `(tactic| walk_at "eval ListComp Compare") => `(tactic| (k_here; k_dflt (refine LCg.ListComp_U (F₀ := by assumption) (by with_unfolding_all rfl) (by decide) (by rfl) (by decide) (by rfl) ?_)))
local macro_rules | `(tactic| walk_at "subscriptTail Name Name ref int") => `(tactic| k_dflt (refine item_any (by assumption) (by k_mem) (by assumption) (by omega) (by omega) (by omega) ?_; intro ttm))
theorem segE {w : World} {V : Program} {lo : List Str} {mean : ExcName → Option Value} {mg mb : Str → Option Value} {h₀ : Heap} {L fa : Addr} {ccd : Value} {o1 o2 o3 o4 o5 o6 o7 o8 : Obj} {s : Shared} {lr l1 ly lm lt : Addr} {vsy vsm vst : List Value} {n1 ny nm nt : Nat} {d0 d1 d2 d3 d4 d5 d6 av ov ordv : Int} {t0 t1 t2 t3 t4 t5 t6 ta to tor tb : Tok} {sep : Str} {vE vS vT : Value} {sy ts ms : List Int} {Q : Flow → Shared → Prop} {E : Value → Shared → Prop} {m : Str → Option Value} {page : Str} {x : Int} {xs : List Int} {tf tp : Tok} {gv : Int} {tg : Tok}
  (B : Below callerA h₀ [] h₀) (X : (wpart.heap_1 w.params).In h₀) (T : Top V lo mean mg mb h₀)
  (F : Fr h₀ L s.heap m)
  (N : News h₀ L s.heap ((lt, W.listOf vst.toArray nt) :: (lm, W.listOf vsm.toArray nm) :: (ly, W.listOf vsy.toArray ny) :: (l1, W.listOf [Value.int d0 t0, Value.int d1 t1, Value.int d2 t2, Value.int d3 t3, Value.int d4 t4, Value.int d5 t5, Value.int d6 t6].toArray n1) :: [(L + 1 + 1 + 1 + 1 + 1 + 1 + 1 + 1, o8), (L + 1 + 1 + 1 + 1 + 1 + 1 + 1, o7), (L + 1 + 1 + 1 + 1 + 1 + 1, o6), (L + 1 + 1 + 1 + 1 + 1, o5), (L + 1 + 1 + 1 + 1, o4), (L + 1 + 1 + 1, o3), (L + 1 + 1, o2), (L + 1, o1)]))
  (e1 : o1.data = .cell (some (.int ordv tor))) (e2 : o2.data = .cell (some (.str sep tb))) (e3 : o3.data = .cell (some (.ref lm))) (e4 : o4.data = .cell (some (.ref lt))) (e5 : o5.data = .cell (some (.int gv tg))) (e6 : o6.data = .cell none) (e7 : o7.data = .cell none) (e8 : o8.data = .cell none)
  (a1 : @LT.lt Nat _ (L + 1 + 1 + 1 + 1 + 1 + 1 + 1 + 1) l1) (a2 : @LT.lt Nat _ l1 ly) (a3 : @LT.lt Nat _ ly lm) (a4 : @LT.lt Nat _ lm lt)
  (hIy : IntsAre vsy sy) (hIm : IntsAre vsm ms) (hIt : IntsAre vst ts) (hp : Pre d1 av ov ordv sy ts ms sep) (r4 : 0 ≤ d4 ∧ d4 < 1000000) (r5 : 0 ≤ d5 ∧ d5 < 1000000) (r6 : 0 ≤ d6 ∧ d6 < 1000000) (hgens : AllBare s.gens) (hm1 : m (Str.ofString "drawn") = some (.ref l1)) (hm2 : m (Str.ofString "a") = some (.int av ta)) (hm3 : m (Str.ofString "one") = some (.int ov to)) (hm4 : m (Str.ofString "first") = some (.int (1 - av * (ov + 10 * (d1.fmod 11 - 5))) tf)) (hm5 : m (Str.ofString "page") = some (.str page tp)) (hC : CInv av (ov + 10 * (d1.fmod 11 - 5)) ordv ts sep 4 x page xs) (hG : GoodOk (1 - av * (ov + 10 * (d1.fmod 11 - 5))) gv)
  (hE : PassesOwn (model PR w) (ktrTop 302 7 (some []) (Str.ofString "law") lawD.scope L fa ccd (CLSf L) []) (envX (Str.ofString "law") lawD.scope L fa ccd (CLSf L)) E)
  (hret : ∀ m' h' tk' gs, Fr h₀ L h' m' → AllBare gs → Q (.ret (.bool true)) { s with heap := h', toks := tk', gens := gs }) :
  wpAny (model PR w) (ktrTop 302 7 (some []) (Str.ofString "law") lawD.scope L fa ccd (CLSf L) []) (execs (lawD.body.drop 18) (envX (Str.ofString "law") lawD.scope L fa ccd (CLSf L))) Q E s := by
  unfold lawD
  dsimp only [List.drop]
  have alo := hp.alo
  have ahi := hp.ahi
  have olo := hp.olo
  have ohi := hp.ohi
  have hok := hp.told
  have hb1 := sep_len hp.sp
  have glo := hG.lo
  have ghi := hG.hi
  iterate 1 walk_at "STC"
  walk_at "GO"
  refine' figures_spec _ _ _ _ _ _ _ _ _ _ _ _ _ _ _ _ _ _ _ _ _ _ ?Bq12 ?Fq12 ?Xq12 ?Nq12 ?Tq12 ?hkq12 (by omega) (by omega) (by omega) (by omega) ?hdq12 ?huq12 ?hretq12 
  case Bq12 => assumption
  case Fq12 => assumption
  case Xq12 => assumption
  case Nq12 => assumption
  case Tq12 => assumption
  case hkq12 => exact rfl
  case hdq12 => decide +kernel
  case huq12 => decide +kernel
  intro lf vsf nf h' tk' F' N' hIf hltf
  have hTf := top_lt hltf
  clear hltf
  dsimp only at hTf
  walk_at "GO"
  rename Fr _ _ _ _ => lF'
  rename News _ _ _ _ => lN'
  refine nmo1 lN' fun lnum onum e9 e8 => ?_
  subst e9
  clear e8 onum
  refine nm7 lN' fun of6 e9 => ?_
  subst e9
  refine' kst_listL (σ := Obj × Obj) (vs := [Value.int d4 t4, Value.int d5 t5, Value.int d6 t6]) (ns := [d4, d5, d6]) (nn := 0)
    (fun c => (lnum, W.listOf [Value.int d4 t4, Value.int d5 t5, Value.int d6 t6].toArray 0) :: (lf, W.listOf vsf.toArray nf) :: (lt, W.listOf vst.toArray nt) :: (lm, W.listOf vsm.toArray nm) :: (ly, W.listOf vsy.toArray ny) :: (l1, W.listOf [Value.int d0 t0, Value.int d1 t1, Value.int d2 t2, Value.int d3 t3, Value.int d4 t4, Value.int d5 t5, Value.int d6 t6].toArray n1) :: [(L + 1 + 1 + 1 + 1 + 1 + 1 + 1 + 1, c.2), (L + 1 + 1 + 1 + 1 + 1 + 1 + 1, c.1), (L + 1 + 1 + 1 + 1 + 1 + 1, of6), (L + 1 + 1 + 1 + 1 + 1, o5), (L + 1 + 1 + 1 + 1, o4), (L + 1 + 1 + 1, o3), (L + 1 + 1, o2), (L + 1, o1)])
    (fun c => [])
    (fun c => (∃ v, c.1.data = .cell v) ∧ ∃ v, c.2.data = .cell v) [Str.ofString "rest", Str.ofString "place", Str.ofString "want", Str.ofString "due"]
    (fun pre c => True)
    (o7, o8) rfl (fun _ => .head _) (.cons _ _ (.cons _ _ (.cons _ _ .nil))) lF' lN' ⟨⟨_, e7⟩, ⟨_, e8⟩⟩ ?kk trivial ?turn ?done
  case kk => kst_all
  case turn =>
    clear lF' lN' hret
    rintro ⟨p7, p8⟩ pre post number tn u h tk own heq hmem hoff hF hP F1 N1
    dsimp only at hF
    dsimp only [kstB] at F1
    simp only [List.cons_append] at N1
    simp only [List.map_cons] at hoff
    obtain ⟨⟨v7, hv7⟩, ⟨v8, hv8⟩⟩ := hF
    obtain ⟨nr0, nr1⟩ := num_rng r4 r5 r6 hmem
    have kMark := kstMark
    obtain ⟨hml0, hml1⟩ := marks_len hok
    have nf0 := fm_lo number (k := 4) (by decide)
    have nf1 := fm_hi number (k := 4) (by decide)
    have nq := fdiv_rng nr0 nr1 (k := 4) (by decide)
    refine post_abs fun PQ1 hPQ1 => ?_
    walk_at "GO"
    refine newList_K (by assumption) (by assumption) ?_
    intro ld h' F' N' hlD
    have hTd := top_lt hlD
    have hOd : ∀ p ∈ own, p.1 ≠ ld := fun p hp => Nat.ne_of_lt (hlD p (by repeat (first | exact hp | refine List.Mem.tail _ ?_)))
    clear hlD
    dsimp only at hTd
    walk_at "GO"
    rename Fr _ _ _ _ => lF'
    rename News _ _ _ _ => lN'
    rename IsRange _ _ _ _ _ _ _ _ => rgX
    refine nm8 lN' fun q8 q7 e9 e8 => ?_
    subst e9 e8
    refine' kst_range (σ := List Value × List Int × Nat × Int × Nat)
      (fun c => (ld, W.listOf c.1.toArray c.2.2.1) :: (lnum, W.listOf [Value.int d4 t4, Value.int d5 t5, Value.int d6 t6].toArray 0) :: (lf, W.listOf vsf.toArray nf) :: (lt, W.listOf vst.toArray nt) :: (lm, W.listOf vsm.toArray nm) :: (ly, W.listOf vsy.toArray ny) :: (l1, W.listOf [Value.int d0 t0, Value.int d1 t1, Value.int d2 t2, Value.int d3 t3, Value.int d4 t4, Value.int d5 t5, Value.int d6 t6].toArray n1) :: (L + 1 + 1 + 1 + 1 + 1 + 1 + 1 + 1, q8) :: (L + 1 + 1 + 1 + 1 + 1 + 1 + 1, q7) :: (L + 1 + 1 + 1 + 1 + 1 + 1, of6) :: (L + 1 + 1 + 1 + 1 + 1, o5) :: (L + 1 + 1 + 1 + 1, o4) :: (L + 1 + 1 + 1, o3) :: (L + 1 + 1, o2) :: (L + 1, o1) :: own)
      (fun c => [(Str.ofString "rest", Value.int c.2.2.2.1 c.2.2.2.2)])
      (fun c => IntsAre c.1 c.2.1) []
      (fun pre c => c.2.1.length = pre.length ∧ (∀ d ∈ c.2.1, d ∈ ms) ∧ 0 ≤ c.2.2.2.1 ∧ c.2.2.2.1 < 1000000)
      ([], [], 0, number.fdiv 4, _) rfl rgX (small_one (by omega) (by omega) (by omega) (by omega)) (rangeSize_nat _ _) lF' lN' IntsAre.nil ?kk2 ⟨rfl, fun d hd => (nomatch hd), nq.1, nq.2⟩ ?turn2 ?done2
    case kk2 => kst_all
    case turn2 =>
      clear lF' lN' rgX
      rintro ⟨vd, nd, kd, r, tr⟩ pre2 k2 t2' u h tk own2 hk2 hlt2 hoff2 hF hP F1 N1
      dsimp only at hP hF
      dsimp only [kstB] at F1
      simp only [List.cons_append] at N1
      simp only [List.map_cons] at hoff2
      obtain ⟨hP1, hP2, hP3, hP4⟩ := hP
      have hdl := hF.length
      have kMark := kstMark
      refine post_abs fun PQ2 hPQ2 => ?_
      walk_at "GO"
      have hOX : ∀ p ∈ own ++ own2, p.1 ≠ ld := List.forall_mem_append.mpr ⟨hOd, hoff2.ne (List.Mem.head _)⟩
      refine append_at (by assumption) (by assumption) (Upd.head ?hU) (by omega) ?_
      case hU => repeat' (first | exact hOX | (refine List.forall_mem_cons.mpr ⟨?_, ?_⟩) | k_ne)
      intro h' F' N'
      walk_at "GO"
      rename News _ _ _ _ => nE
      have nr2 := fdiv_rng hP3 hP4 (k := (ms.length : Int)) (by omega)
      refine hPQ2 _ _ (kst_end ⟨_, nd ++ [_], _, _, _⟩ (by assumption) nE (by first | kst_in | kst_inAny) (by first | (intro p hp; kst_mem) | kst_anyIn) (by rfl) (by kst_facts) (by kst_all) (by kst_same) ⟨?_, ?_, nr2⟩)
      · dsimp only
        rw [List.length_append, List.length_append, hP1]; rfl
      · dsimp only
        intro d hd
        rcases List.mem_append.mp hd with hd | hd
        · exact hP2 d hd
        · rw [List.mem_singleton.mp hd]; exact fmod_mem hml0
    case done2 =>
      clear lF' lN' rgX
      rintro ⟨vd, nd, kd, r, tr⟩ u h tk hF hP F1 N1
      dsimp only at hF hP N1
      obtain ⟨hP1, hP2, -, -⟩ := hP
      rw [rangeKs_length] at hP1
      dsimp only [kstB] at F1
      have hdl := hF.length
      walk_at "GO"
      have cnt : nd.length = (1 + number.fmod 4).toNat := by rw [hP1]; congr 1; omega
      have cnt1 : 1 ≤ nd.length := by omega
      have cnt4 : nd.length ≤ 4 := by omega
      have hcn : (nd.length : Int) = 1 + number.fmod 4 := by omega
      have sG : Small gv := small_lit 10 (by omega) (by decide)
      obtain ⟨hfl, hf9⟩ := figs_ok av ov
      have hwo := want_ok (a := av) (o := ov) hok hp.sp hP2 cnt1 cnt4
      refine LCg.CompSrc.ledger (its := vd.toArray) (k := kd) rfl (by assumption) (by assumption) (List.Mem.head _) (by rw [sizeLine_eq, List.size_toArray]; omega) ?_
      intro g'
      refine comp_gen (fun i y => ∃ t, y = Value.str (rowD (figSt av ov 10).2 ms sep (nd.getD i 0)) t) ?turn8 ?fin8
      case turn8 =>
        intro i v I oI C oC D m₂ ys h tk E' hi8 hv8 hC8 hx8 F1 N1 off ne
        obtain ⟨d, td, rfl, hk8⟩ := IntsAre.at hF i v (by simpa using hv8)
        have hdm := hP2 d (List.mem_of_getElem? hk8)
        obtain ⟨hd0, hd1⟩ := marks_rng hok d hdm
        have off0 := off
        walk_at "GO"
        refine' row_spec _ _ _ _ _ _ _ _ _ _ _ _ _ _ _ _ _ _ _ _ _ _ _ _ _ _ _ _ _ _ ?Bq13 ?Fq13 ?Xq13 ?Nq13 ?Tq13 ?hkq13 ?m1q13 hIf hfl hf9 ?m3q13 ?m4q13 hml1 hb1 (by omega) hd1 ?hdq13 ?huq13 ?hretq13 
        case Bq13 => assumption
        case Fq13 => assumption
        case Xq13 => assumption
        case Nq13 => assumption
        case Tq13 => assumption
        case hkq13 => exact rfl
        case hdq13 => decide +kernel
        case huq13 => decide +kernel
        case m1q13 => k_mem
        case m3q13 => k_mem
        case m4q13 => assumption
        intro t9 h' tk' F' N'
        walk_at "GO"
        refine LCg.CompEnd.intro (by assumption) (by assumption) _ (fun p hp => hp) off0 (.inr ⟨_, List.Mem.head _, rfl, _, rfl⟩) ⟨rfl, t9, ?_⟩
        rw [List.getD_eq_getElem?_getD, hk8]
        rfl
      case fin8 =>
        intro ys hyl hyR D h tk F' N' off
        rw [List.size_toArray, hdl] at hyl
        have hSt := strs_of (fun i => rowD (figSt av ov 10).2 ms sep (nd.getD i 0)) _ _ hyl hyR
        clear hyR
        change News h₀ L h ((D, W.listOf ys.toArray ys.length) :: _) at N'
        walk_at "GO"
        refine join_listC (lst_of (by assumption) (List.Mem.head _)) hSt (by decide) ?_ ?_
        · have hq1 := hwo.sum
          have hq2 : (rowsD (figSt av ov 10).2 ms sep nd).length = nd.length := by simp [rowsD]
          show ((rowsD (figSt av ov 10).2 ms sep nd).map (·.length)).sum + (rowsD (figSt av ov 10).2 ms sep nd).length * 64 ≤ 16777216
          omega
        intro tj kj
        replace N' := news_drop N'
        clear off
        walk_at "GO"
        rename Fr _ _ _ _ => zF
        rename News _ _ _ _ => zN
        rename IsRange _ _ _ _ _ _ _ _ => zR
        refine LCg.CompSrc.range (n := nd.length) rfl zF zN zR ?zd ?ze ?zf ?_
        case zd => exact small_one (by omega) (by omega) (by omega) (by omega)
        case ze => rw [show ((nd.length : Nat) : Int) = 1 + number.fmod 4 by omega]; simp [Builtin.Range.rangeSize]; omega
        case zf => rw [sizeLine_eq]; omega
        intro g'
        refine comp_gen (fun i y => y = Value.bool (decide (nd.getD i 0 ≤ gv * ordv ^ (4 - (nd.length : Int) + (i : Int)).toNat))) ?turn9 ?fin9
        case turn9 =>
          intro i v I oI C oC D9 m₂ ys9 h tk E' hi9 hP9 hC9 hx9 F1 N1 off9 ne
          obtain ⟨tv, rfl⟩ := hP9
          have off0 := off9
          have e9 := exp9 (i := i) hcn hi9 cnt4
          have sP := pow_small9 hp.ord e9.2.1
          walk_at "GO"
          refine pow_int_small e9.2.2.1 e9.2.2.2 (by rcases hp.ord with q | q <;> rw [q] <;> decide) ?_
          walk_at "GO"
          refine LCg.CompEnd.intro (by assumption) (by assumption) _ (fun p hp => hp) off0 True.intro ⟨rfl, ?_⟩
          rw [e9.1, show (0 + (i : Int)).toNat = i from by omega]
        case fin9 =>
          intro ys9 hyl9 hyR9 D9 h tk F' N' off9
          have hBo := bools_of (fun i => decide (nd.getD i 0 ≤ gv * ordv ^ (4 - (nd.length : Int) + (i : Int)).toNat)) _ _ hyl9 hyR9
          clear hyR9
          change News h₀ L h ((D9, W.listOf ys9.toArray ys9.length) :: _) at N'
          walk_at "GO"
          refine LSm.all_bools (by assumption) (by assumption) rfl (lst_of (by assumption) (List.Mem.head _)) hBo ?_
          intro h' tk' F' N'
          replace N' := news_drop N'
          clear off9
          rw [← law_ok hp hC hG hP2 cnt1 cnt4]
          walk_at "GO"
          refine' ell_spec _ _ _ _ _ _ _ _ _ _ _ _ _ _ _ _ _ _ _ _ _ _ (rowsF (figSt av ov 10).2 ms sep nd) ?Bq14 ?Fq14 ?Xq14 ?Nq14 ?Tq14 ?hkq14 hwo.len (by have := hC.pl; omega) hwo.hin hwo.spl ?m1q14 ?m2q14 hwo.last hwo.rb ?hdq14 ?huq14 ?hretq14 
          case Bq14 => assumption
          case Fq14 => assumption
          case Xq14 => assumption
          case Nq14 => assumption
          case Tq14 => assumption
          case hkq14 => exact rfl
          case hdq14 => decide +kernel
          case huq14 => decide +kernel
          case m1q14 => simp [rowsF]; omega
          case m2q14 => simp [rowsF]; omega
          intro h' tk' F' N'
          walk_at "GO"
          walk_at "STC"
          rw [bne_self_eq_false]
          walk_at "GO"
          rename News _ _ _ _ => nE
          refine hPQ1 _ _ (kst_end ⟨q7, q8⟩ (by assumption) nE (by first | kst_in | kst_inAny) (by first | (intro p hp; kst_mem) | kst_anyIn) (by rfl) (by exact ⟨⟨_, by assumption⟩, ⟨_, by assumption⟩⟩) (by kst_all) (by kst_same) trivial)
  case done =>
    clear lF' lN'
    rintro ⟨p7, p8⟩ u h tk hF hP F1 N1
    dsimp only [kstB] at F1
    walk_at "GO"
    dsimp only
    exact hret _ _ _ _ (by assumption) hgens
end
theorem segD {w : World} {V : Program} {lo : List Str} {mean : ExcName → Option Value} {mg mb : Str → Option Value} {h₀ : Heap} {L fa : Addr} {ccd : Value} {o1 o2 o3 o4 o5 o6 o7 o8 : Obj} {s : Shared} {lr l1 ly lm lt : Addr} {vsy vsm vst : List Value} {n1 ny nm nt : Nat} {d0 d1 d2 d3 d4 d5 d6 av ov ordv : Int} {t0 t1 t2 t3 t4 t5 t6 ta to tor tb : Tok} {sep : Str} {vE vS vT : Value} {sy ts ms : List Int} {Q : Flow → Shared → Prop} {E : Value → Shared → Prop} {m : Str → Option Value} {page : Str} {x : Int} {xs : List Int} {tf tp : Tok}
  (B : Below callerA h₀ [] h₀) (X : (wpart.heap_1 w.params).In h₀) (T : Top V lo mean mg mb h₀)
  (F : Fr h₀ L s.heap m)
  (N : News h₀ L s.heap ((lt, W.listOf vst.toArray nt) :: (lm, W.listOf vsm.toArray nm) :: (ly, W.listOf vsy.toArray ny) :: (l1, W.listOf [Value.int d0 t0, Value.int d1 t1, Value.int d2 t2, Value.int d3 t3, Value.int d4 t4, Value.int d5 t5, Value.int d6 t6].toArray n1) :: [(L + 1 + 1 + 1 + 1 + 1 + 1 + 1 + 1, o8), (L + 1 + 1 + 1 + 1 + 1 + 1 + 1, o7), (L + 1 + 1 + 1 + 1 + 1 + 1, o6), (L + 1 + 1 + 1 + 1 + 1, o5), (L + 1 + 1 + 1 + 1, o4), (L + 1 + 1 + 1, o3), (L + 1 + 1, o2), (L + 1, o1)]))
  (e1 : o1.data = .cell (some (.int ordv tor))) (e2 : o2.data = .cell (some (.str sep tb))) (e3 : o3.data = .cell (some (.ref lm))) (e4 : o4.data = .cell (some (.ref lt))) (e5 : o5.data = .cell none) (e6 : o6.data = .cell none) (e7 : o7.data = .cell none) (e8 : o8.data = .cell none)
  (a1 : @LT.lt Nat _ (L + 1 + 1 + 1 + 1 + 1 + 1 + 1 + 1) l1) (a2 : @LT.lt Nat _ l1 ly) (a3 : @LT.lt Nat _ ly lm) (a4 : @LT.lt Nat _ lm lt)
  (hIy : IntsAre vsy sy) (hIm : IntsAre vsm ms) (hIt : IntsAre vst ts) (hp : Pre d1 av ov ordv sy ts ms sep) (r4 : 0 ≤ d4 ∧ d4 < 1000000) (r5 : 0 ≤ d5 ∧ d5 < 1000000) (r6 : 0 ≤ d6 ∧ d6 < 1000000) (hgens : AllBare s.gens) (hm1 : m (Str.ofString "drawn") = some (.ref l1)) (hm2 : m (Str.ofString "a") = some (.int av ta)) (hm3 : m (Str.ofString "one") = some (.int ov to)) (hm4 : m (Str.ofString "first") = some (.int (1 - av * (ov + 10 * (d1.fmod 11 - 5))) tf)) (hm5 : m (Str.ofString "page") = some (.str page tp)) (hC : CInv av (ov + 10 * (d1.fmod 11 - 5)) ordv ts sep 4 x page xs)
  (hE : PassesOwn (model PR w) (ktrTop 302 7 (some []) (Str.ofString "law") lawD.scope L fa ccd (CLSf L) []) (envX (Str.ofString "law") lawD.scope L fa ccd (CLSf L)) E)
  (hret : ∀ m' h' tk' gs, Fr h₀ L h' m' → AllBare gs → Q (.ret (.bool true)) { s with heap := h', toks := tk', gens := gs }) :
  wpAny (model PR w) (ktrTop 302 7 (some []) (Str.ofString "law") lawD.scope L fa ccd (CLSf L) []) (execs (lawD.body.drop 16) (envX (Str.ofString "law") lawD.scope L fa ccd (CLSf L))) Q E s := by
  unfold lawD
  dsimp only [List.drop]
  have alo := hp.alo
  have ahi := hp.ahi
  have olo := hp.olo
  have ohi := hp.ohi
  walk_at "GO"
  rename Fr _ _ _ _ => lF'
  rename News _ _ _ _ => lN'
  refine' ksw_while (σ := Int × Nat × Obj)
    (fun c => (lt, W.listOf vst.toArray nt) :: (lm, W.listOf vsm.toArray nm) :: (ly, W.listOf vsy.toArray ny) :: (l1, W.listOf [Value.int d0 t0, Value.int d1 t1, Value.int d2 t2, Value.int d3 t3, Value.int d4 t4, Value.int d5 t5, Value.int d6 t6].toArray n1) :: [(L + 1 + 1 + 1 + 1 + 1 + 1 + 1 + 1, o8), (L + 1 + 1 + 1 + 1 + 1 + 1 + 1, o7), (L + 1 + 1 + 1 + 1 + 1 + 1, o6), (L + 1 + 1 + 1 + 1 + 1, c.2.2), (L + 1 + 1 + 1 + 1, o4), (L + 1 + 1 + 1, o3), (L + 1 + 1, o2), (L + 1, o1)])
    (fun c => []) (fun c => c.2.2.data = .cell (some (.int c.1 c.2.1))) []
    (fun c => 1 ≤ c.1 ∧ c.1 ≤ 10 ∧ (1 - av * (ov + 10 * (d1.fmod 11 - 5))).fmod (10 ^ c.1.toNat) = 0) (fun c => (10 - c.1).toNat) (1, _, _) lF' lN' ?ff ?kk ⟨Int.le_refl 1, (by decide : (1 : Int) ≤ 10), first_ten hp.inv⟩ ?turn
  case ff => assumption
  case kk => kst_all
  case turn =>
    clear lF' lN'
    rintro ⟨g, tg, og⟩ u h tk hF hP F1 N1
    dsimp only at hF hP N1
    obtain ⟨g0, g1, hdv⟩ := hP
    dsimp only [kstB] at F1
    have kMark := kstMark
    walk_at "GO"
    · refine pow_int_small (by omega) (by omega) (by decide) ?_
      walk_at "GO"
      · rename News _ _ _ _ => nE
        refine ksw_end ⟨g + 1, _, _⟩ (by assumption) nE (by first | kst_in | kst_inAny) (by assumption) (by kst_all) (by ksw_same) ⟨?_, ?_, ?_⟩ ?_
        · dsimp only; omega
        · dsimp only; omega
        · dsimp only; assumption
        · dsimp only; omega
      · dsimp only
        refine segE B X T (by assumption) (by assumption) e1 e2 e3 e4 hF e6 e7 e8 a1 a2 a3 a4 (by assumption) (by assumption) (by assumption) hp r4 r5 r6 hgens (xs := xs) (x := x) (vT := vT) (vS := vS) (vE := vE) (lr := lr) hm1 hm2 hm3 hm4 hm5 hC ⟨g0, g1, hdv, .inr (by assumption)⟩ hE hret
    · refine segE B X T F1 N1 e1 e2 e3 e4 hF e6 e7 e8 a1 a2 a3 a4 (by assumption) (by assumption) (by assumption) hp r4 r5 r6 hgens (xs := xs) (x := x) (vT := vT) (vS := vS) (vE := vE) (lr := lr) hm1 hm2 hm3 hm4 hm5 hC ⟨g0, g1, hdv, .inl (by omega)⟩ hE hret
end
theorem segC {w : World} {V : Program} {lo : List Str} {mean : ExcName → Option Value} {mg mb : Str → Option Value} {h₀ : Heap} {L fa : Addr} {ccd : Value} {o1 o2 o3 o4 o5 o6 o7 o8 : Obj} {s : Shared} {lr l1 ly lm lt : Addr} {vsy vsm vst : List Value} {n1 ny nm nt : Nat} {d0 d1 d2 d3 d4 d5 d6 av ov ordv : Int} {t0 t1 t2 t3 t4 t5 t6 ta to tor tb : Tok} {sep : Str} {vE vS vT : Value} {sy ts ms : List Int} {Q : Flow → Shared → Prop} {E : Value → Shared → Prop} 
  (B : Below callerA h₀ [] h₀) (X : (wpart.heap_1 w.params).In h₀) (T : Top V lo mean mg mb h₀)
  (F : Fr h₀ L s.heap (fun y => if y = Str.ofString "ending" then some vE else if y = Str.ofString "sizes" then some vS else if y = Str.ofString "symbols" then some (.ref ly) else if y = Str.ofString "one" then some (.int ov to) else if y = Str.ofString "a" then some (.int av ta) else if y = Str.ofString "tail" then some vT else if y = Str.ofString "drawn" then some (.ref l1) else if y = Str.ofString "script" then some (.ref lr) else none))
  (N : News h₀ L s.heap ((lt, W.listOf vst.toArray nt) :: (lm, W.listOf vsm.toArray nm) :: (ly, W.listOf vsy.toArray ny) :: (l1, W.listOf [Value.int d0 t0, Value.int d1 t1, Value.int d2 t2, Value.int d3 t3, Value.int d4 t4, Value.int d5 t5, Value.int d6 t6].toArray n1) :: [(L + 1 + 1 + 1 + 1 + 1 + 1 + 1 + 1, o8), (L + 1 + 1 + 1 + 1 + 1 + 1 + 1, o7), (L + 1 + 1 + 1 + 1 + 1 + 1, o6), (L + 1 + 1 + 1 + 1 + 1, o5), (L + 1 + 1 + 1 + 1, o4), (L + 1 + 1 + 1, o3), (L + 1 + 1, o2), (L + 1, o1)]))
  (e1 : o1.data = .cell (some (.int ordv tor))) (e2 : o2.data = .cell (some (.str sep tb))) (e3 : o3.data = .cell (some (.ref lm))) (e4 : o4.data = .cell (some (.ref lt))) (e5 : o5.data = .cell none) (e6 : o6.data = .cell none) (e7 : o7.data = .cell none) (e8 : o8.data = .cell none)
  (a1 : @LT.lt Nat _ (L + 1 + 1 + 1 + 1 + 1 + 1 + 1 + 1) l1) (a2 : @LT.lt Nat _ l1 ly) (a3 : @LT.lt Nat _ ly lm) (a4 : @LT.lt Nat _ lm lt)
  (hIy : IntsAre vsy sy) (hIm : IntsAre vsm ms) (hIt : IntsAre vst ts) (hp : Pre d1 av ov ordv sy ts ms sep) (r4 : 0 ≤ d4 ∧ d4 < 1000000) (r5 : 0 ≤ d5 ∧ d5 < 1000000) (r6 : 0 ≤ d6 ∧ d6 < 1000000) (hgens : AllBare s.gens) 
  (hE : PassesOwn (model PR w) (ktrTop 302 7 (some []) (Str.ofString "law") lawD.scope L fa ccd (CLSf L) []) (envX (Str.ofString "law") lawD.scope L fa ccd (CLSf L)) E)
  (hret : ∀ m' h' tk' gs, Fr h₀ L h' m' → AllBare gs → Q (.ret (.bool true)) { s with heap := h', toks := tk', gens := gs }) :
  wpAny (model PR w) (ktrTop 302 7 (some []) (Str.ofString "law") lawD.scope L fa ccd (CLSf L) []) (execs (lawD.body.drop 12) (envX (Str.ofString "law") lawD.scope L fa ccd (CLSf L))) Q E s := by
  unfold lawD
  dsimp only [List.drop]
  have hok := hp.told
  have alo := hp.alo
  have ahi := hp.ahi
  have olo := hp.olo
  have ohi := hp.ohi
  have hb1 : sep.length = 1 := by
    obtain ⟨k, hk⟩ := hp.sp
    rw [hk]; unfold sepF
    split
    · decide
    · split
      · decide
      · split <;> decide
  have dm0 := fm_lo d1 (k := 11) (by decide)
  have dm1 := fm_hi d1 (k := 11) (by decide)
  have ane : av ≠ 0 := by
    intro q
    have := hp.inv
    rw [q, Int.zero_mul] at this
    exact absurd this (by decide)
  have fsz := first_sz (x0 := ov + 10 * (d1.fmod 11 - 5)) alo ahi (by omega) (by omega)
  have sA : Small av := small_lit 209 (by omega) (by decide)
  have sX : Small (ov + 10 * (d1.fmod 11 - 5)) := small_lit 100 (by omega) (by decide)
  have s10 : Small 10 := small_lit 10 (by decide) (by decide)
  have sD : Small (d1.fmod 11 - 5) := small_lit 100 (by omega) (by decide)
  walk_at "GO"
  rename Fr _ _ _ _ => lF'
  rename News _ _ _ _ => lN'
  rename IsRange _ _ _ _ _ _ _ _ => rgX
  refine nm1 lN' fun lh e9 => ?_
  subst e9
  refine' kst_range (σ := Int × Int × List Value × Nat × Str × Nat)
    (fun c => (lh, W.listOf c.2.2.1.toArray c.2.2.2.1) :: (lt, W.listOf vst.toArray nt) :: (lm, W.listOf vsm.toArray nm) :: (ly, W.listOf vsy.toArray ny) :: (l1, W.listOf [Value.int d0 t0, Value.int d1 t1, Value.int d2 t2, Value.int d3 t3, Value.int d4 t4, Value.int d5 t5, Value.int d6 t6].toArray n1) :: [(L + 1 + 1 + 1 + 1 + 1 + 1 + 1 + 1, o8), (L + 1 + 1 + 1 + 1 + 1 + 1 + 1, o7), (L + 1 + 1 + 1 + 1 + 1 + 1, o6), (L + 1 + 1 + 1 + 1 + 1, o5), (L + 1 + 1 + 1 + 1, o4), (L + 1 + 1 + 1, o3), (L + 1 + 1, o2), (L + 1, o1)])
    (fun c => [(Str.ofString "page", Value.str c.2.2.2.2.1 c.2.2.2.2.2)])
    (fun c => IntsAre c.2.2.1 [av, c.1, c.2.1]) []
    (fun pre c => Small c.1 ∧ ∃ xs, CInv av (ov + 10 * (d1.fmod 11 - 5)) ordv ts sep pre.length c.2.1 c.2.2.2.2.1 xs)
    (0, ov + 10 * (d1.fmod 11 - 5), _, 0, Str.ofString "", _) rfl rgX (by decide) rfl lF' lN' ?ff ?kk ⟨small_lit (v := 0) 0 (by decide) (by decide), [], cinv_zero _ _ _ _ _⟩ ?turn ?done
  case ff => exact .cons _ _ (.cons _ _ (.cons _ _ .nil))
  case kk => kst_all
  case turn =>
    clear lF' lN' rgX hret
    rintro ⟨t', x, hv, nh, page, tp⟩ pre k t u h tk own hk hlt hoff hF hP F1 N1
    obtain ⟨sT, xs, hP⟩ := hP
    dsimp only at hP hF sT
    dsimp only [kstB] at F1
    simp only [List.cons_append] at N1
    simp only [List.map_cons, List.map_nil] at hoff
    have kMark := kstMark
    obtain ⟨u0, u1, u2, rfl⟩ := ints3 hF
    have hkl : pre.length < 4 := by simpa using hlt
    have hkn : k.toNat = pre.length := by omega
    refine post_abs fun PQ1 hPQ1 => ?_
    walk_at "GO"
    · have szX := cinv_sz hP hkl hp.ord alo ahi ane (by omega) (by omega)
      obtain ⟨kk, kk0, kk1, rfl⟩ := hp.syms
      obtain ⟨fin, hr1, hr2, t2, x2, hr3, sT2, hr4⟩ := run_ok (t := t') hp.ord kk0 kk1 (sz_small (v := av) (n := 210) (by omega) (by decide)) szX sT
      refine' run_spec _ _ _ _ _ _ _ _ _ _ _ _ _ _ _ _ _ _ _ _ _ _ _ [av, t', x] fin _ _ _ ?Bq5 ?Fq5 ?Xq5 ?Nq5 ?Tq5 ?hkq5 rfl ?m2q5 ?m3q5 ?m4q5 ?m5q5 syms_len rfl hr1 hr2 ?hdq5 ?huq5 ?hretq5 
      case Bq5 => assumption
      case Fq5 => assumption
      case Xq5 => assumption
      case Nq5 => assumption
      case Tq5 => assumption
      case hkq5 => exact rfl
      case hdq5 => decide +kernel
      case huq5 => decide +kernel
      case m2q5 => k_mem
      case m3q5 => k_all
      case m4q5 => assumption
      case m5q5 => exact .cons _ _ (.cons _ _ (.cons _ _ .nil))
      intro hv2 n2 h' tk' F' N' hIh hl3
      rw [hr3] at hIh
      obtain ⟨w0, w1, w2, rfl⟩ := ints3 hIh
      obtain ⟨hq, hC⟩ := cinv_next hP (by omega) (by rcases hp.ord with q | q <;> omega) hr4 hok hb1
      have sX2 := cinv_small hC (by omega) hp.ord alo ahi ane (by omega) (by omega)
      walk_at "GO"
      refine' mul_spec _ _ _ _ _ _ _ _ _ _ _ _ _ _ _ _ _ _ _ _ _ _ ?Bq6 ?Fq6 ?Xq6 ?Nq6 ?Tq6 ?hkq6 sA (by assumption) ?hdq6 ?huq6 ?hretq6 
      case Bq6 => assumption
      case Fq6 => assumption
      case Xq6 => assumption
      case Nq6 => assumption
      case Tq6 => assumption
      case hkq6 => exact rfl
      case hdq6 => decide +kernel
      case huq6 => decide +kernel
      intro t9 h' tk' F' N'
      walk_at "GO"
      refine' sub_spec _ _ _ _ _ _ _ _ _ _ _ _ _ _ _ _ _ _ _ _ _ _ ?Bq7 ?Fq7 ?Xq7 ?Nq7 ?Tq7 ?hkq7  ?hdq7 ?huq7 ?hretq7 
      case Bq7 => assumption
      case Fq7 => assumption
      case Xq7 => assumption
      case Nq7 => assumption
      case Tq7 => assumption
      case hkq7 => exact rfl
      case hdq7 => decide +kernel
      case huq7 => decide +kernel
      intro t9 h' tk' F' N'
      walk_at "GO"
      refine pow_int_small (by omega) (by omega) (by rcases hp.ord with q | q <;> rw [q] <;> decide) ?_
      walk_at "GO"
      refine pow_int_small (ord_pow hp.ord _ (by omega)).1 (ord_pow hp.ord _ (by omega)).2.1 fsz ?_
      rw [(ord_pow hp.ord _ (by omega)).2.2]
      walk_at "GO"
      rw [show (1 - av * (ov + 10 * (d1.fmod 11 - 5))) ^ (ordv.toNat ^ k.toNat) = 1 - av * x2 by rw [hq, hk]; simp]
      walk_at "STC"
      walk_at "ST1"
      refine PySem.W.ite_neg (by simp) ?_
      have hpl := hP.pl
      have hll : (Txt.join sep (wordsF ts x2 []) ++ Str.ofString "\n").length ≤ 200 := line_len x2 hok hb1
      walk_at "GO"
      refine' line_spec _ _ _ _ _ _ _ _ _ _ _ _ _ _ _ _ _ _ _ _ _ _ _ _ _ _ ?Bq8 ?Fq8 ?Xq8 ?Nq8 ?Tq8 ?hkq8 ?m1q8 ?m2q8 hb1 hok.rng hok.len ?hdq8 ?huq8 ?hretq8 
      case Bq8 => assumption
      case Fq8 => assumption
      case Xq8 => assumption
      case Nq8 => assumption
      case Tq8 => assumption
      case hkq8 => exact rfl
      case hdq8 => decide +kernel
      case huq8 => decide +kernel
      case m1q8 => k_mem
      case m2q8 => assumption
      intro t9 h' tk' F' N'
      walk_at "GO"
      rename News _ _ _ _ => nE
      refine hPQ1 _ _ (kst_end ⟨_, _, _, _, _, _⟩ (by assumption) nE (by first | kst_in | kst_inAny) (by first | (intro p hp; kst_mem) | kst_anyIn) (by rfl) (by exact .cons _ _ (.cons _ _ (.cons _ _ .nil))) (by kst_all) (by kst_same) ⟨sT2, xs ++ [x2], ?_⟩)
      rw [List.length_append, List.length_singleton]
      exact hC
    · have h00 : pre.length = 0 := by omega
      rw [h00] at hP
      obtain ⟨hq, hC⟩ := cinv_first hP hok hb1
      rw [← h00] at hq
      have sX2 := cinv_small hC (by omega) hp.ord alo ahi ane (by omega) (by omega)
      refine' mul_spec _ _ _ _ _ _ _ _ _ _ _ _ _ _ _ _ _ _ _ _ _ _ ?Bq9 ?Fq9 ?Xq9 ?Nq9 ?Tq9 ?hkq9 sA (by assumption) ?hdq9 ?huq9 ?hretq9 
      case Bq9 => assumption
      case Fq9 => assumption
      case Xq9 => assumption
      case Nq9 => assumption
      case Tq9 => assumption
      case hkq9 => exact rfl
      case hdq9 => decide +kernel
      case huq9 => decide +kernel
      intro t9 h' tk' F' N'
      walk_at "GO"
      refine' sub_spec _ _ _ _ _ _ _ _ _ _ _ _ _ _ _ _ _ _ _ _ _ _ ?Bq10 ?Fq10 ?Xq10 ?Nq10 ?Tq10 ?hkq10  ?hdq10 ?huq10 ?hretq10 
      case Bq10 => assumption
      case Fq10 => assumption
      case Xq10 => assumption
      case Nq10 => assumption
      case Tq10 => assumption
      case hkq10 => exact rfl
      case hdq10 => decide +kernel
      case huq10 => decide +kernel
      intro t9 h' tk' F' N'
      walk_at "GO"
      refine pow_int_small (by omega) (by omega) (by rcases hp.ord with q | q <;> rw [q] <;> decide) ?_
      walk_at "GO"
      refine pow_int_small (ord_pow hp.ord _ (by omega)).1 (ord_pow hp.ord _ (by omega)).2.1 fsz ?_
      rw [(ord_pow hp.ord _ (by omega)).2.2]
      walk_at "GO"
      rw [show (1 - av * (ov + 10 * (d1.fmod 11 - 5))) ^ (ordv.toNat ^ k.toNat) = 1 - av * x by rw [hq, hk]; simp]
      walk_at "STC"
      walk_at "ST1"
      refine PySem.W.ite_neg (by simp) ?_
      have hpl := hP.pl
      have hll : (Txt.join sep (wordsF ts x []) ++ Str.ofString "\n").length ≤ 200 := line_len x hok hb1
      walk_at "GO"
      refine' line_spec _ _ _ _ _ _ _ _ _ _ _ _ _ _ _ _ _ _ _ _ _ _ _ _ _ _ ?Bq11 ?Fq11 ?Xq11 ?Nq11 ?Tq11 ?hkq11 ?m1q11 ?m2q11 hb1 hok.rng hok.len ?hdq11 ?huq11 ?hretq11 
      case Bq11 => assumption
      case Fq11 => assumption
      case Xq11 => assumption
      case Nq11 => assumption
      case Tq11 => assumption
      case hkq11 => exact rfl
      case hdq11 => decide +kernel
      case huq11 => decide +kernel
      case m1q11 => k_mem
      case m2q11 => assumption
      intro t9 h' tk' F' N'
      walk_at "GO"
      rename News _ _ _ _ => nE
      refine hPQ1 _ _ (kst_end ⟨_, _, _, _, _, _⟩ (by assumption) nE (by first | kst_in | kst_inAny) (by first | (intro p hp; kst_mem) | kst_anyIn) (by rfl) (by exact .cons _ _ (.cons _ _ (.cons _ _ .nil))) (by kst_all) (by kst_same) ⟨sT, xs ++ [x], ?_⟩)
      rw [List.length_append, List.length_singleton]
      rw [h00]; exact hC
  case done =>
    clear lF' lN' rgX
    rintro ⟨t', x, hv, nh, page, tp⟩ u h tk hF hP F1 N1
    obtain ⟨-, xs, hP⟩ := hP
    dsimp only at hP hF N1
    dsimp only [kstB] at F1
    rw [rangeKs_length] at hP
    refine segD B X T F1 (news_drop N1) e1 e2 e3 e4 e5 e6 e7 e8 a1 a2 a3 a4 (by assumption) (by assumption) (by assumption) hp r4 r5 r6 hgens (xs := xs) (x := x) (vT := vT) (vS := vS) (vE := vE) (lr := lr) rfl rfl rfl rfl rfl hP hE hret
end
theorem segB {w : World} {V : Program} {lo : List Str} {mean : ExcName → Option Value} {mg mb : Str → Option Value} {h₀ : Heap} {L fa : Addr} {ccd : Value} {o1 o2 o3 o4 o5 o6 o7 o8 : Obj} {s : Shared} {lr l1 ly lm lt : Addr} {vsy vsm vst : List Value} {n1 ny nm nt : Nat} {d0 d1 d2 d3 d4 d5 d6 av ov ordv : Int} {t0 t1 t2 t3 t4 t5 t6 ta to tor tb : Tok} {sep : Str} {vE vS vT : Value} {sy ts ms : List Int} {Q : Flow → Shared → Prop} {E : Value → Shared → Prop} 
  (B : Below callerA h₀ [] h₀) (X : (wpart.heap_1 w.params).In h₀) (T : Top V lo mean mg mb h₀)
  (F : Fr h₀ L s.heap (fun y => if y = Str.ofString "ending" then some vE else if y = Str.ofString "sizes" then some vS else if y = Str.ofString "symbols" then some (.ref ly) else if y = Str.ofString "one" then some (.int ov to) else if y = Str.ofString "a" then some (.int av ta) else if y = Str.ofString "tail" then some vT else if y = Str.ofString "drawn" then some (.ref l1) else if y = Str.ofString "script" then some (.ref lr) else none))
  (N : News h₀ L s.heap ((lt, W.listOf vst.toArray nt) :: (lm, W.listOf vsm.toArray nm) :: (ly, W.listOf vsy.toArray ny) :: (l1, W.listOf [Value.int d0 t0, Value.int d1 t1, Value.int d2 t2, Value.int d3 t3, Value.int d4 t4, Value.int d5 t5, Value.int d6 t6].toArray n1) :: [(L + 1 + 1 + 1 + 1 + 1 + 1 + 1 + 1, o8), (L + 1 + 1 + 1 + 1 + 1 + 1 + 1, o7), (L + 1 + 1 + 1 + 1 + 1 + 1, o6), (L + 1 + 1 + 1 + 1 + 1, o5), (L + 1 + 1 + 1 + 1, o4), (L + 1 + 1 + 1, o3), (L + 1 + 1, o2), (L + 1, o1)]))
  (e1 : o1.data = .cell (some (.int ordv tor))) (e2 : o2.data = .cell (some (.str sep tb))) (e3 : o3.data = .cell (some (.ref lm))) (e4 : o4.data = .cell (some (.ref lt))) (e5 : o5.data = .cell none) (e6 : o6.data = .cell none) (e7 : o7.data = .cell none) (e8 : o8.data = .cell none)
  (a1 : @LT.lt Nat _ (L + 1 + 1 + 1 + 1 + 1 + 1 + 1 + 1) l1) (a2 : @LT.lt Nat _ l1 ly) (a3 : @LT.lt Nat _ ly lm) (a4 : @LT.lt Nat _ lm lt)
  (hIy : IntsAre vsy sy) (hIm : IntsAre vsm ms) (hIt : IntsAre vst ts) (hp : Pre d1 av ov ordv sy ts ms sep) (r4 : 0 ≤ d4 ∧ d4 < 1000000) (r5 : 0 ≤ d5 ∧ d5 < 1000000) (r6 : 0 ≤ d6 ∧ d6 < 1000000) (hgens : AllBare s.gens) 
  (hE : PassesOwn (model PR w) (ktrTop 302 7 (some []) (Str.ofString "law") lawD.scope L fa ccd (CLSf L) []) (envX (Str.ofString "law") lawD.scope L fa ccd (CLSf L)) E)
  (hret : ∀ m' h' tk' gs, Fr h₀ L h' m' → AllBare gs → Q (.ret (.bool true)) { s with heap := h', toks := tk', gens := gs }) :
  wpAny (model PR w) (ktrTop 302 7 (some []) (Str.ofString "law") lawD.scope L fa ccd (CLSf L) []) (execs (lawD.body.drop 11) (envX (Str.ofString "law") lawD.scope L fa ccd (CLSf L))) Q E s := by
  unfold lawD
  dsimp only [List.drop]
  have hok := hp.told
  have hTL : vst.length = ts.length := hIt.length
  have hl9 : vst.length ≤ 10 := by rw [hTL]; exact hok.len
  walk_at "GO"
  refine LCg.CompSrc.range (by rfl) (by assumption) (by assumption) (by assumption) (small_one (by omega) (by omega) (by omega) (by omega)) (rangeSize_nat _ _) (by rw [sizeLine_eq]; omega) ?_
  intro g'
  refine comp_gen (fun i y => ∃ t, y = .int ((ts.take (i + 1)).sum) t) ?turn7 ?fin7
  case turn7 =>
    intro i v I oI C oC D m₂ ys h tk E' hi7 hP hC hx F1 N1 off ne
    obtain ⟨tv, rfl⟩ := hP
    have off0 := off
    simp only [LCg.Off3, and_true] at off
    walk_at "GO"
    refine' LSm.sum_ints ?Fs ?Ns rfl ?ls ?is ?_
    case Fs => assumption
    case Ns => assumption
    case ls => exact lst_of (by assumption) (List.Mem.head _)
    case is => assumption
    intro h' tk' t' F' N'
    refine LCg.CompEnd.intro (by assumption) (by assumption) _ (fun p hp => List.Mem.tail _ hp) off0 True.intro ⟨rfl, t', ?_⟩
    rw [show (0 + (i : Int) + 1).toNat = i + 1 by omega]
  case fin7 =>
    intro ys hyl hyR D h tk F' N' off
    have hIp := ints_of (fun i => (ts.take (i + 1)).sum) _ _ hyl hyR
    have hNe : (List.range ((ts.length : Int) - 0).toNat).map (fun i => (ts.take (i + 1)).sum) = ms := by
      rw [hok.eq]
      show _ = partS ts
      unfold partS
      rw [show ((ts.length : Int) - 0).toNat = ts.length by omega]
    clear hyR
    change News h₀ L h ((D, W.listOf ys.toArray ys.length) :: _) at N'
    simp only [LCg.Off1, and_true] at off
    walk_at "GO"
    refine' ne_intsK ?q1 hIp ?q3 ?q4 ?q5 ?_
    case q1 => exact lst_of (by assumption) (List.Mem.head _)
    case q3 => exact lst_of (by assumption) (by k_mem)
    case q4 => assumption
    case q5 => show (7 : Nat) + 64 < cLine; decide +kernel
    rw [show (!decide (List.map (fun i => (ts.take (i + 1)).sum) (List.range ((ts.length : Int) - 0).toNat) = ms)) = false by rw [hNe]; simp]
    iterate 3 walk_at "ST1"
    dsimp only
    refine segC B X T (by assumption) (news_drop N') e1 e2 e3 e4 e5 e6 e7 e8 a1 a2 a3 a4 (by assumption) (by assumption) (by assumption) hp r4 r5 r6 hgens hE hret
end
theorem law_walk {w : World} {V : Program} {lo : List Str} {mean : ExcName → Option Value} {mg mb : Str → Option Value} (h₀ : Heap) (L fa : Addr) (ccd : Value) (o1 o2 o3 o4 o5 o6 o7 o8 : Obj) (s : Shared) (lr : Addr) (vs : List Value) (ns : List Int) (Q : Flow → Shared → Prop) (E : Value → Shared → Prop)
  (B : Below callerA h₀ [] h₀) (X : (wpart.heap_1 w.params).In h₀) (T : Top V lo mean mg mb h₀)
  (F : Fr h₀ L s.heap (fun y => if y = Str.ofString "script" then some (.ref lr) else none))
  (N : News h₀ L s.heap [(L + 1 + 1 + 1 + 1 + 1 + 1 + 1 + 1, o8), (L + 1 + 1 + 1 + 1 + 1 + 1 + 1, o7), (L + 1 + 1 + 1 + 1 + 1 + 1, o6), (L + 1 + 1 + 1 + 1 + 1, o5), (L + 1 + 1 + 1 + 1, o4), (L + 1 + 1 + 1, o3), (L + 1 + 1, o2), (L + 1, o1)])
  (e1 : o1.data = .cell none) (e2 : o2.data = .cell none) (e3 : o3.data = .cell none) (e4 : o4.data = .cell none) (e5 : o5.data = .cell none) (e6 : o6.data = .cell none) (e7 : o7.data = .cell none) (e8 : o8.data = .cell none)
  (hl : h₀.IsList lr vs.toArray) (hi : IntsAre vs ns) (hn : ns.length ≤ 63) (hg : s.gens = #[])
  (hE : PassesOwn (model PR w) (ktrTop 302 7 (some []) (Str.ofString "law") lawD.scope L fa ccd (CLSf L) []) (envX (Str.ofString "law") lawD.scope L fa ccd (CLSf L)) E)
  (hret : ∀ m' h' tk' gs, Fr h₀ L h' m' → AllBare gs → Q (.ret (.bool true)) { s with heap := h', toks := tk', gens := gs }) :
  wpAny (model PR w) (ktrTop 302 7 (some []) (Str.ofString "law") lawD.scope L fa ccd (CLSf L) []) (execs lawD.body (envX (Str.ofString "law") lawD.scope L fa ccd (CLSf L))) Q E s := by
  unfold lawD
  dsimp only
  walk_at "GO"
  refine' drawn_spec _ _ _ _ _ _ _ _ _ _ _ _ _ _ _ _ _ _ _ _ _ ?B ?F ?X ?N ?T ?hk hl hi hn ?hd ?hu ?hret
  case B => assumption
  case F => assumption
  case X => assumption
  case N => assumption
  case T => assumption
  case hk => exact rfl
  case hd => decide +kernel
  case hu => decide +kernel
  intro l1 ws1 ds n1 h' tk' F' N' hI1 hD1 hlt1
  obtain ⟨d0, d1, d2, d3, d4, d5, d6, t0, t1, t2, t3, t4, t5, t6, rfl, ⟨a0, b0⟩, ⟨a1, b1⟩, ⟨a2, b2⟩, ⟨a3, b3⟩, ⟨a4, b4⟩, ⟨a5, b5⟩, ⟨a6, b6⟩⟩ := seven hI1 hD1
  clear hI1 hD1
  have hT1 := top_lt hlt1
  clear hlt1
  dsimp only at hT1
  walk_at "GO"
  refine' prog_spec _ _ _ _ _ _ _ _ _ _ _ _ _ _ _ _ _ _ _ _ _ _ ?Bq1 ?Fq1 ?Xq1 ?Nq1 ?Tq1 ?hkq1 (fm01 _) (fm_lo _ (by decide)) (fm_hi _ (by decide)) ?hdq1 ?huq1 ?hretq1 
  case Bq1 => assumption
  case Fq1 => assumption
  case Xq1 => assumption
  case Nq1 => assumption
  case Tq1 => assumption
  case hkq1 => exact rfl
  case hdq1 => decide +kernel
  case huq1 => decide +kernel
  intro t9 h' tk' F' N'
  walk_at "GO"
  refine' sym_spec _ _ _ _ _ _ _ _ _ _ _ _ _ _ _ _ _ _ _ _ _ ?Bq2 ?Fq2 ?Xq2 ?Nq2 ?Tq2 ?hkq2 (prog_lex (fm01 _) (fm_lo _ (by decide)) (fm_hi _ (by decide))).1 (prog_lex (fm01 _) (fm_lo _ (by decide)) (fm_hi _ (by decide))).2 ?hdq2 ?huq2 ?hretq2 
  case Bq2 => assumption
  case Fq2 => assumption
  case Xq2 => assumption
  case Nq2 => assumption
  case Tq2 => assumption
  case hkq2 => exact rfl
  case hdq2 => decide +kernel
  case huq2 => decide +kernel
  intro ly wsy ny h' tk' F' N' hIy hlty
  have hTy := top_lt hlty
  clear hlty
  dsimp only at hTy
  walk_at "GO"
  refine' marks_spec _ _ _ _ _ _ _ _ _ _ _ _ _ _ _ _ _ _ _ (1 + d3.fmod 3) (1 + (d3.fdiv 3).fmod 3) (1 + (d3.fdiv 9).fmod 3) _ _ _ _ ?Bq3 ?Fq3 ?Xq3 ?Nq3 ?Tq3 ?hkq3 ?m1q3 ?m2q3 (by have := fm_lo d3 (k := 3) (by decide); omega) (by have := fm_hi d3 (k := 3) (by decide); omega) (by have := fm_lo (d3.fdiv 3) (k := 3) (by decide); omega) (by have := fm_hi (d3.fdiv 3) (k := 3) (by decide); omega) (by have := fm_lo (d3.fdiv 9) (k := 3) (by decide); omega) (by have := fm_hi (d3.fdiv 9) (k := 3) (by decide); omega) (fm_lo _ (by decide)) (fm_hi _ (by decide)) ?hdq3 ?huq3 ?hretq3 
  case Bq3 => assumption
  case Fq3 => assumption
  case Xq3 => assumption
  case Nq3 => assumption
  case Tq3 => assumption
  case hkq3 => exact rfl
  case hdq3 => decide +kernel
  case huq3 => decide +kernel
  case m1q3 => k_mem
  case m2q3 => exact .cons _ _ (.cons _ _ (.cons _ _ .nil))
  intro lm wsm nm h' tk' F' N' hIm hltm
  have hTm := top_lt hltm
  clear hltm
  dsimp only at hTm
  walk_at "GO"
  rename IntsAre _ (endL _) => hiend
  rename List.length _ ≤ 2 => hlend
  rename (_, _) ∈ _ => hmend
  refine' kmk_add_ints ?Fx4 ?Nx4 ?ax4 ?bx4 ?ix4 hiend ?_ ?zx4
  case Fx4 => assumption
  case Nx4 => assumption
  case ax4 => exact lst_of (by assumption) (by k_mem)
  case bx4 => exact lst_of (by assumption) hmend
  case ix4 => exact .cons _ _ (.cons _ _ (.cons _ _ .nil))
  case zx4 =>
    have := end_len hiend hlend
    rw [sizeLine_eq]
    show 3 + (endL _).length ≤ _
    omega
  intro lrow wrow h' F' N' hltw hIrow
  have hTw := top_lt hltw
  clear hltw
  dsimp only at hTw
  walk_at "GO"
  refine' told_spec _ _ _ _ _ _ _ _ _ _ _ _ _ _ _ _ _ _ _ (1 + d3.fmod 3) (1 + (d3.fdiv 3).fmod 3) (1 + (d3.fdiv 9).fmod 3) _ _ ((d3.fdiv 27).fmod 3) _ ?Bq4 ?Fq4 ?Xq4 ?Nq4 ?Tq4 ?hkq4 ?m1q4 hIrow (by have := fm_lo d3 (k := 3) (by decide); omega) (by have := fm_hi d3 (k := 3) (by decide); omega) (by have := fm_lo (d3.fdiv 3) (k := 3) (by decide); omega) (by have := fm_hi (d3.fdiv 3) (k := 3) (by decide); omega) (by have := fm_lo (d3.fdiv 9) (k := 3) (by decide); omega) (by have := fm_hi (d3.fdiv 9) (k := 3) (by decide); omega) (told_shape _ _ _ (fm_lo _ (by decide)) (fm_hi _ (by decide))) ?hdq4 ?huq4 ?hretq4 
  case Bq4 => assumption
  case Fq4 => assumption
  case Xq4 => assumption
  case Nq4 => assumption
  case Tq4 => assumption
  case hkq4 => exact rfl
  case hdq4 => decide +kernel
  case huq4 => decide +kernel
  case m1q4 => exact List.Mem.head _
  intro lt wst nt h' tk' st F' N' hIt hltt hbare
  have hTt := top_lt hltt
  clear hltt
  dsimp only at hTt
  have hokX := told_ok (s0 := 1 + d3.fmod 3) (s1 := 1 + (d3.fdiv 3).fmod 3) (s2 := 1 + (d3.fdiv 9).fmod 3) (e := (d3.fdiv 27).fmod 3) (by have := fm_lo d3 (k := 3) (by decide); omega) (by have := fm_hi d3 (k := 3) (by decide); omega) (by have := fm_lo (d3.fdiv 3) (k := 3) (by decide); omega) (by have := fm_hi (d3.fdiv 3) (k := 3) (by decide); omega) (by have := fm_lo (d3.fdiv 9) (k := 3) (by decide); omega) (by have := fm_hi (d3.fdiv 9) (k := 3) (by decide); omega) (fm_lo _ (by decide)) (fm_hi _ (by decide))
  walk_at "ST1"
  dsimp only
  rename Fr _ _ _ _ => zF
  rename News _ _ _ _ => zN
  refine' segB (lr := lr) (l1 := l1) (ly := ly) (lm := lm) (lt := lt) B X T zF ?zN' ?z1 ?z2 ?z3 ?z4 e5 e6 e7 e8 hT1 ?z5 ?z6 ?z7 hIy hIm hIt (pre_ok a1) ⟨a4, b4⟩ ⟨a5, b5⟩ ⟨a6, b6⟩ ?z8 hE ?z9
  case z1 => assumption
  case z2 => assumption
  case z3 => assumption
  case z4 => assumption
  case zN' => exact fun p hp => zN p (sub_of (by kcf_all) p hp)
  case z5 => omega
  case z6 => omega
  case z7 => omega
  case z8 => exact AllBare.push (.of_eq hg) hbare
  case z9 => exact hret
end MineL
namespace MineL
theorem good_true {c : ClaimW} {cl : Str → Option Addr} {mean : ExcName → Option Value} {args : List WData} {s₁ s : Shared} {m : Str → Option Value} {h' : Heap} {tk' : Nat} {gs : Array GenState} {L : Addr} (F : Fr s₁.heap L h' m) (hb : AllBare gs) (hos : s.os = s₁.os)
    (hn : ∀ cls, c.raises args cls = false) (hp : c.post args (.bool true) args = true) : GoodWG c cl mean args s₁ (.ok (.ret (.bool true))) { s with heap := h', toks := tk', gens := gs } :=
  ⟨.inl ⟨_, _, [], rfl, hn, ReadsW.bool true, hp, fun _ => ⟨List.nodup_nil, fun _ hm => (nomatch hm)⟩⟩, .of_keep (Fr.keep F), hos, hb⟩
end MineL
theorem main.tw10047389527955405517 : True := trivial
theorem main.tw10094358506670053839 : True := trivial
theorem main.tw10177057350305019805 : True := trivial
theorem main.tw10234815189450012239 : True := trivial
theorem main.tw10298723112805639129 : True := trivial
theorem main.tw10363585996791799541 : True := trivial
theorem main.tw104360540948158410 : True := trivial
theorem main.tw10450603732522932521 : True := trivial
theorem main.tw10609540516017602915 : True := trivial
theorem main.tw10669944970481658594 : True := trivial
theorem main.tw10707853282979444102 : True := trivial
theorem main.tw10876375607700338302 : True := trivial
theorem main.tw10877679251791092727 : True := trivial
theorem main.tw1099256609624015869 : True := trivial
theorem main.tw11156056980113079860 : True := trivial
theorem main.tw11461230924637031220 : True := trivial
theorem main.tw11529684132196025223 : True := trivial
theorem main.tw11544348965984651327 : True := trivial
theorem main.tw11554813239044494598 : True := trivial
theorem main.tw11595507254763858292 : True := trivial
theorem main.tw11646826074482590764 : True := trivial
theorem main.tw11710404883906591787 : True := trivial
theorem main.tw11815829001073249272 : True := trivial
theorem main.tw11982392923317675503 : True := trivial
theorem main.tw12057704586751987240 : True := trivial
theorem main.tw12298629886278197574 : True := trivial
theorem main.tw12361340156312767134 : True := trivial
theorem main.tw12431731261707249289 : True := trivial
theorem main.tw12455012482086183272 : True := trivial
theorem main.tw12518504611687188807 : True := trivial
theorem main.tw12670839924663504800 : True := trivial
theorem main.tw1270039299266317192 : True := trivial
theorem main.tw12872379398031375081 : True := trivial
theorem main.tw13110577991587790113 : True := trivial
theorem main.tw13219505800766818778 : True := trivial
theorem main.tw13224007501803129859 : True := trivial
theorem main.tw13302844675991064608 : True := trivial
theorem main.tw13402765919934010277 : True := trivial
theorem main.tw13642826006792871662 : True := trivial
theorem main.tw13667920496262714385 : True := trivial
theorem main.tw13676971244355772609 : True := trivial
theorem main.tw13777938177461255882 : True := trivial
theorem main.tw13838900630717943254 : True := trivial
theorem main.tw14009396871252706886 : True := trivial
theorem main.tw1409966394225722968 : True := trivial
theorem main.tw14371149721154158424 : True := trivial
theorem main.tw1439166485080882 : True := trivial
theorem main.tw14439473939278146460 : True := trivial
theorem main.tw14457758005677747962 : True := trivial
theorem main.tw14645429698944441668 : True := trivial
theorem main.tw14662554035588321541 : True := trivial
theorem main.tw14672674291997333471 : True := trivial
theorem main.tw14722489848711283861 : True := trivial
theorem main.tw14771111431291430275 : True := trivial
theorem main.tw14907226015203709474 : True := trivial
theorem main.tw15131278010643852716 : True := trivial
theorem main.tw15270170921892066516 : True := trivial
theorem main.tw1545906260438175962 : True := trivial
theorem main.tw15465920861327815835 : True := trivial
theorem main.tw15514936471743626214 : True := trivial
theorem main.tw15624239662980076321 : True := trivial
theorem main.tw15734660467963936456 : True := trivial
theorem main.tw15768048840197415361 : True := trivial
theorem main.tw16049902774474827687 : True := trivial
theorem main.tw16153842264607907944 : True := trivial
theorem main.tw16193401482309157537 : True := trivial
theorem main.tw16251939892948500945 : True := trivial
theorem main.tw1632041292262086317 : True := trivial
theorem main.tw16320729459185622934 : True := trivial
theorem main.tw16356685582667847594 : True := trivial
theorem main.tw16519101796099990279 : True := trivial
theorem main.tw16572128252103988241 : True := trivial
theorem main.tw16721930046160240684 : True := trivial
theorem main.tw1677766988990989824 : True := trivial
theorem main.tw16798622893749714585 : True := trivial
theorem main.tw16826212616301561204 : True := trivial
theorem main.tw16922381011570985944 : True := trivial
theorem main.tw16923884221124529275 : True := trivial
theorem main.tw17118054049896295152 : True := trivial
theorem main.tw1714950047550659301 : True := trivial
theorem main.tw17223442867436993403 : True := trivial
theorem main.tw17292155258170135553 : True := trivial
theorem main.tw17450470499104002142 : True := trivial
theorem main.tw17561526911342447988 : True := trivial
theorem main.tw17695171507069755227 : True := trivial
theorem main.tw17737603089517620647 : True := trivial
theorem main.tw1777545030009416734 : True := trivial
theorem main.tw17974016328880235120 : True := trivial
theorem main.tw18058344117034437523 : True := trivial
theorem main.tw18134284020713443437 : True := trivial
theorem main.tw18218335207050127959 : True := trivial
theorem main.tw18332899500509843999 : True := trivial
theorem main.tw18442785490491869365 : True := trivial
theorem main.tw2019394398466159022 : True := trivial
theorem main.tw2109297985684337612 : True := trivial
theorem main.tw223528310411579522 : True := trivial
theorem main.tw2238316416991798583 : True := trivial
theorem main.tw2406621943657119228 : True := trivial
theorem main.tw2496676261509829067 : True := trivial
theorem main.tw2538046985915079169 : True := trivial
theorem main.tw2583023086579268501 : True := trivial
theorem main.tw2724176850512262202 : True := trivial
theorem main.tw2852251193174398662 : True := trivial
theorem main.tw2906824675625879941 : True := trivial
theorem main.tw3045742163950154196 : True := trivial
theorem main.tw3299218664060906527 : True := trivial
theorem main.tw330327031418712150 : True := trivial
theorem main.tw33456957511925785 : True := trivial
theorem main.tw3454311308915712629 : True := trivial
theorem main.tw3581766126228106026 : True := trivial
theorem main.tw3626430660855392483 : True := trivial
theorem main.tw3779293765908593550 : True := trivial
theorem main.tw3848698983108048278 : True := trivial
theorem main.tw387501639795913443 : True := trivial
theorem main.tw3960113756560652017 : True := trivial
theorem main.tw4039676971129161736 : True := trivial
theorem main.tw4261964983698606537 : True := trivial
theorem main.tw4324958949535026087 : True := trivial
theorem main.tw4500915450034043215 : True := trivial
theorem main.tw451873465583785326 : True := trivial
theorem main.tw4544244032028310869 : True := trivial
theorem main.tw4605139254293405059 : True := trivial
theorem main.tw4637267157515435788 : True := trivial
theorem main.tw4775608329324902142 : True := trivial
theorem main.tw4962724551567158069 : True := trivial
theorem main.tw5084117380071580128 : True := trivial
theorem main.tw5102693214775723256 : True := trivial
theorem main.tw5127751686995613262 : True := trivial
theorem main.tw5203219222101121401 : True := trivial
theorem main.tw5396188567872606041 : True := trivial
theorem main.tw5400957986263281647 : True := trivial
theorem main.tw5532463470591059822 : True := trivial
theorem main.tw5585478044538960755 : True := trivial
theorem main.tw5613160597433933154 : True := trivial
theorem main.tw5665735395497279834 : True := trivial
theorem main.tw6044114016751833949 : True := trivial
theorem main.tw6210118697743288655 : True := trivial
theorem main.tw6222487380544312443 : True := trivial
theorem main.tw6361450105264607166 : True := trivial
theorem main.tw6382644787639722043 : True := trivial
theorem main.tw6511744376749373798 : True := trivial
theorem main.tw6545385358150927430 : True := trivial
theorem main.tw6557543464795787104 : True := trivial
theorem main.tw6697339332421208802 : True := trivial
theorem main.tw6785657489111691699 : True := trivial
theorem main.tw6816035884023179109 : True := trivial
theorem main.tw6862492499505807319 : True := trivial
theorem main.tw6910295442248876197 : True := trivial
theorem main.tw7186131708394509389 : True := trivial
theorem main.tw7235775444256392728 : True := trivial
theorem main.tw7268301785047649679 : True := trivial
theorem main.tw7308723440029596264 : True := trivial
theorem main.tw7699798408344515789 : True := trivial
theorem main.tw7761410557224570781 : True := trivial
theorem main.tw7875838824674609581 : True := trivial
theorem main.tw8228058824784995430 : True := trivial
theorem main.tw834873547066669988 : True := trivial
theorem main.tw8475525182357872103 : True := trivial
theorem main.tw8478376212529829071 : True := trivial
theorem main.tw8652556701797213591 : True := trivial
theorem main.tw8663697691656813868 : True := trivial
theorem main.tw8729708805864041840 : True := trivial
theorem main.tw8748973510418095054 : True := trivial
theorem main.tw8936924024312948488 : True := trivial
theorem main.tw9069182735580402390 : True := trivial
theorem main.tw9191982752017346530 : True := trivial
theorem main.tw9268297945177815525 : True := trivial
theorem main.tw9302470337196694018 : True := trivial
theorem main.tw9376575566392132001 : True := trivial
theorem main.tw9498315638749924794 : True := trivial
theorem main.tw9563168847844234846 : True := trivial
theorem main.tw9840939614602229412 : True := trivial
theorem main.tw9848185148710128376 : True := trivial
theorem main.tw9925469786538053656 : True := trivial
set_option Elab.async true in
theorem main : PySem.Challenge.rw_wo0046_01.Holds := by
  w_on; o_law; k_head; (case hw => w_witness2)
  w_strict (k_fill; intro w s₀ s₁ mg mb G Y fa o pm cd doc dV kV ho hd9 hcd hD hmg hg args vals as hpre hlay hrd hwl hlo; have KX := kIn_of Y; have X := (Ground.X G).1; have V := (Ground.X G).2; refine Ground.open G ?_; intro T B D TE TW; clear D; have TA := at_of_top T; clear hmg; wrow_args hpre hlay hrd hwl hlo; (first | refine callC_kw (enter_call ?_) | refine enter_call ?_ | refine callC_kw (enter_callW ?_) | refine enter_callW ?_); w_top on; have K0 := below_caller (Top.heap T); w_call any ho hd9 hcd hD T F; clear hd9 TA; k_drop; (with_unfolding_all refine' MineL.law_walk _ _ _ _ _ _ _ _ _ _ _ _ _ _ _ _ _ _ ?z9B ?z9X ?z9T ?z9F ?z9N ?z9e1 ?z9e2 ?z9e3 ?z9e4 ?z9e5 ?z9e6 ?z9e7 ?z9e8 ?z9hl ?z9hi ?z9hn ?z9hg ?z9hE ?z9hret); (case z9N => assumption); (case z9B => assumption); (case z9X => assumption); (case z9T => assumption); (case z9F => with_unfolding_all assumption); (case z9hl => assumption); (case z9hi => assumption); (case z9hn => omega); (case z9hg => assumption); (case z9e1 => with_unfolding_all assumption); (case z9e2 => with_unfolding_all assumption); (case z9e3 => with_unfolding_all assumption); (case z9e4 => with_unfolding_all assumption); (case z9e5 => with_unfolding_all assumption); (case z9e6 => with_unfolding_all assumption); (case z9e7 => with_unfolding_all assumption); (case z9e8 => with_unfolding_all assumption); (case z9hE => passes_own); (case z9hret => (intro m' h' tk' gs F' hB'; exact MineL.good_true F' hB' rfl (fun _ => rfl) (by first | kernel_rfl | (with_unfolding_all rfl)))))
end Mine
theorem PySem.Challenge.cw_wo0046_01_holds : PySem.Challenge.rw_wo0046_01.Holds := by
  exact Mine.main
