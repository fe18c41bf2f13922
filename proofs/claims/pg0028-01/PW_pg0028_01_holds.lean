import PyProof.Rows.All
import Wide.All
import OpenK.AllK
import Wide.FinOn
import PySem.Challenge.RW_pg0028_01
open PySem PySem.W PySem.Calls PyProof.Rows
set_option Elab.async false
set_option linter.unusedVariables false
local macro_rules | `(tactic| units_room) => `(tactic| (simp only [Around.deeper_units, Around.in1_units]; omega))

section  -- HeadT
open PySem PySem.W PyProof.Rows
set_option maxRecDepth 100000
set_option maxHeartbeats 8000000
namespace Mine
open_top hd for PySem.Challenge.rw_pg0028_01
end Mine
end

section  -- B0
open PySem PySem.W PySem.Calls PyProof.Rows
set_option maxRecDepth 100000
set_option maxHeartbeats 4000000
namespace Mine

noncomputable abbrev PR : Program := PySem.Challenge.rw_pg0028_01.prog

/-- a call's surroundings, no exception at hand -/
noncomputable abbrev AR (dp un : Nat) (fr : Option (List Env)) (gd : Option (List Code)) : Around := { handled := none, depth := dp, frames := fr, guards := gd, units := un }

/-- what stood, stands -/
noncomputable def Keep (h h' : Heap) : Prop := ∀ b o, h.get? b = some o → h'.get? b = some o
theorem Keep.refl (h : Heap) : Keep h h := fun _ _ e => e
theorem Keep.trans {a b c : Heap} (x : Keep a b) (y : Keep b c) : Keep a c := fun _ _ e => y _ _ (x _ _ e)

/-- the text's own defs stand, and the built-ins -/
structure GI (w : World) (h : Heap) : Prop where
  K : (hd.heap_39 w.params).In h
  T : ∃ mg mb, TopRead hd.view_39 [] mg mb h
theorem GI.keeps {w : World} {h h' : Heap} (g : GI w h) (k : Keep h h') : GI w h' :=
  ⟨g.K.keeps k, let ⟨mg, mb, t⟩ := g.T; ⟨mg, mb, t.keeps k⟩⟩
theorem GI.nolimit {w : World} {h : Heap} (g : GI w h) : h.NoLimit := let ⟨_, _, t⟩ := g.T; t.nolimit

theorem Fr.into {h₀ h h' : Heap} {L : Addr} {m : Str → Option Value} (F : Fr h₀ L h m) (k : Keep h h') : Fr h₀ L h' m :=
  ⟨F.ns.keeps k, fun b o e => k _ _ (F.keep b o e), F.above⟩
theorem News.into {h₀ h h' : Heap} {L : Addr} {news : List (Addr × Obj)} (N : News h₀ L h news) (k : Keep h h') : News h₀ L h' news :=
  fun p hp => ⟨k _ _ (N p hp).1, (N p hp).2⟩

/-- what a call that changes nothing hands back -/
noncomputable def Back (s : Shared) (P : Value → Heap → Prop) (r : Result) (s' : Shared) : Prop :=
  ∃ v h' tk, r = .ok (.ret v) ∧ s' = { s with heap := h', toks := tk } ∧ Keep s.heap h' ∧ P v h'

theorem enterF {w : World} {A : Around} {s : Shared} {f : Addr} {args : Args} {binds : List (Str × Value)} {R : Result → Shared → Prop}
    {name qual : Str} {params : Arguments} {body : List Stmt} {scope : Scope} {dV kV doc pm cdv ct oc : Value} {an od : Option Addr} {osl : Array (Option Value)}
    (G : GI w s.heap) (ho : (hd.heap_39 w.params).lookup f = some ⟨oc, od, .func (fnOf name qual params body scope dV kV doc pm an cdv ct), osl⟩) (hcd : codeIn (hd.heap_39 w.params) cdv qual = true) (hroom : A.depth < recursionLimit)
    (hbind : BindsTo s (fnOf name qual params body scope dV kV doc pm an cdv ct) args binds) (hloc : ∀ y ∈ binds, scope.names.lookup y.1 = some .local)
    (h : ∀ L h₁, Fr s.heap L h₁ (fun y => binds.reverse.lookup y) → News s.heap L h₁ [] →
      wpAny (model PR w) (A.deeper (envOf qual scope L f cdv)) (execs body (envOf qual scope L f cdv))
        (fun fl s' => R (.ok (.ret (match fl with | .ret v => v | _ => .none))) s') 
        (fun e s' => wpAny (model PR w) (A.deeper (envOf qual scope L f cdv)) (leaving (envOf qual scope L f cdv) e) (fun _ s'' => R (.error e) s'') (fun e' s'' => R (.error e') s'') s')
        { s with heap := h₁, toks := s.toks + binds.length })
    (hco : scope.isCoroutine = false) (hgen : scope.isGenerator = false) (hk : scope.kind = .function) (hcell : ∀ x ∈ scope.names, x.2 ≠ .cell) :
    codeAny (model PR w) A (.call (.ref f) args) R s := by
  have hcr := codeRec_of G.K hcd
  refine codeAny_call_function hroom (G.K _ _ ho) rfl hco hgen rfl hcr ?_
  refine hbind _ _ _ _ ?_
  refine wpAny_newFunctionEnv hcell hloc (fun h₁ hns hsb => ⟨G.nolimit.fresh _ hsb, ?_⟩) hk
  refine codeAny_func (h _ h₁ ⟨hns, fun b o e => hsb.extBut b o (Nat.ne_of_lt (Heap.lt_size e)) (Heap.get?_push_of_some _ e), Nat.le_refl _⟩ News.nil)
end Mine
namespace Mine
/-- some names' values written out, the rest as it lies -/
noncomputable def setL (m : Str → Option Value) : List (Str × Value) → Str → Option Value
  | [] => m
  | (x, v) :: r => fun z => if z = x then some v else setL m r z
theorem setL_eq {m : Str → Option Value} : ∀ (l : List (Str × Value)), (∀ p ∈ l, m p.1 = some p.2) → setL m l = m
  | [], _ => rfl
  | (x, v) :: r, h => by
    have ih := setL_eq r fun p hp => h p (.tail _ hp)
    funext z
    show (if z = x then some v else setL m r z) = m z
    rw [ih]
    by_cases e : z = x
    · rw [if_pos e, e]; exact (h _ (.head _)).symm
    · rw [if_neg e]
theorem fcN {α : Type} {P : α → Prop} : ∀ p ∈ ([] : List α), P p := List.forall_mem_nil _
theorem fcC {α : Type} {P : α → Prop} {x : α} {l : List α} (h : P x) (r : ∀ p ∈ l, P p) : ∀ p ∈ x :: l, P p := List.forall_mem_cons.mpr ⟨h, r⟩
theorem nin_nil {c : Addr} : c ∉ ([] : List Addr) := fun h => nomatch h
theorem nin_cons {c a : Addr} {l : List Addr} (h1 : c ≠ a) (h2 : c ∉ l) : c ∉ a :: l := fun h => (List.mem_cons.mp h).elim h1 h2
theorem tyNone {n : String} : Value.type n ≠ Value.none := fun e => nomatch e
theorem tyTy {a b : String} (h : a ≠ b) : Value.type a ≠ Value.type b := fun e => h (Value.type.inj e)
theorem Fr.setL {h₀ h : Heap} {L : Addr} {m : Str → Option Value} (F : Fr h₀ L h m) (l : List (Str × Value)) (e : ∀ p ∈ l, m p.1 = some p.2) : Fr h₀ L h (setL m l) := by rw [setL_eq l e]; exact F
theorem News.drop {h₀ h : Heap} {L : Addr} {news news' : List (Addr × Obj)} (N : News h₀ L h news') (hs : ∀ p ∈ news, p ∈ news') : News h₀ L h news := fun p hp => N p (hs p hp)
theorem News.one {h₀ h : Heap} {L : Addr} {a : Addr} {o : Obj} {news' : List (Addr × Obj)} (N : News h₀ L h news') (hs : (a, o) ∈ news') : News h₀ L h [(a, o)] := fun p hp => by
  cases List.mem_singleton.mp hp; exact N _ hs
end Mine
end

section  -- B0b
open PySem PySem.W PySem.Calls PyProof.Rows
set_option maxRecDepth 100000
set_option maxHeartbeats 4000000
namespace Mine
/-- the heap without one object -/
noncomputable def ghost (h : Heap) (l : Addr) : Heap := h.update l fun o => { o with data := .freed }
theorem ghost_size (h : Heap) (l : Addr) : (ghost h l).objs.size = h.objs.size := by
  obtain ⟨objs, lf⟩ := h; simp [ghost, Heap.update]
theorem ghost_ne {h : Heap} {l b : Addr} (e : b ≠ l) : (ghost h l).get? b = h.get? b := by
  obtain ⟨objs, lf⟩ := h
  show (match (objs.modify l _)[b]? with | some ⟨_, _, .freed, _⟩ => none | o => o) = (match objs[b]? with | some ⟨_, _, .freed, _⟩ => none | o => o)
  rw [Array.getElem?_modify, if_neg (Ne.symm e)]
theorem ghost_self (h : Heap) (l : Addr) : (ghost h l).get? l = none := by
  obtain ⟨objs, lf⟩ := h
  show (match (objs.modify l _)[l]? with | some ⟨_, _, .freed, _⟩ => none | o => o) = none
  rw [Array.getElem?_modify, if_pos rfl]
  cases objs[l]? with
  | none => rfl
  | some o => rfl
theorem ghost_keep (h : Heap) (l : Addr) : Keep (ghost h l) h := fun b o e => by
  by_cases q : b = l
  · subst q; rw [ghost_self] at e; cases e
  · rwa [ghost_ne q] at e
theorem Fr.ghost {h₀ h : Heap} {L l : Addr} {m : Str → Option Value} (F : Fr h₀ L h m) : Fr (ghost h₀ l) L h m :=
  ⟨F.ns, fun b o e => F.keep b o (ghost_keep _ _ b o e), by rw [ghost_size]; exact F.above⟩
theorem News.ghost {h₀ h : Heap} {L l : Addr} {m : Str → Option Value} {news : List (Addr × Obj)} {o : Obj} (F : Fr h₀ L h m) (N : News h₀ L h news) (hl : h₀.get? l = some o) : News (ghost h₀ l) L h ((l, o) :: news) := by
  intro p hp
  rcases List.mem_cons.mp hp with rfl | hp
  · exact ⟨F.keep _ _ hl, Nat.ne_of_lt (Nat.lt_of_lt_of_le (Heap.lt_size hl) F.above), ghost_self _ _⟩
  · refine ⟨(N p hp).1, (N p hp).2.1, ?_⟩
    cases q : (Mine.ghost h₀ l).get? p.1 with
    | none => rfl
    | some o' => have := ghost_keep _ _ _ _ q; rw [(N p hp).2.2] at this; cases this
theorem keep_ghost {h₀ h : Heap} {L l : Addr} {m : Str → Option Value} {o : Obj} (F : Fr (ghost h₀ l) L h m) (hl : h₀.get? l = some o) (hl' : h.get? l = some o) : Keep h₀ h := fun b ob e => by
  by_cases q : b = l
  · subst q; rw [hl] at e; cases e; exact hl'
  · exact F.keep b ob (by rw [ghost_ne q]; exact e)

theorem K_low (P : Params) : ((hd.heap_39 P).all fun p => decide (p.1 < 81)) = true := by rfl
theorem lookup_mem {K : Frag} {a : Addr} {o : Obj} (h : K.lookup a = some o) : (a, o) ∈ K := by
  induction K with
  | nil => cases h
  | cons p r ih =>
    obtain ⟨b, x⟩ := p
    simp only [List.lookup] at h
    split at h
    · rename_i q; cases h; rw [beq_iff_eq.mp q]; exact .head _
    · exact .tail _ (ih h)
theorem K_lt {w : World} {a : Addr} {o : Obj} (h : (hd.heap_39 w.params).lookup a = some o) : a < 81 := by
  have := List.all_eq_true.mp (K_low w.params) _ (lookup_mem h)
  exact of_decide_eq_true this
theorem GI.size {w : World} {h : Heap} (g : GI w h) : 81 ≤ h.objs.size := by
  have : ∃ o, (hd.heap_39 w.params).lookup 80 = some o := ⟨_, rfl⟩
  obtain ⟨o, ho⟩ := this
  exact Heap.lt_size (g.K _ _ ho)
theorem Ns_ghost {h : Heap} {a l : Addr} {m : Str → Option Value} (x : h.Ns a m) (e : a ≠ l) : (ghost h l).Ns a m := by
  obtain ⟨o, es, ep, ho, r⟩ := x
  exact ⟨o, es, ep, by rw [ghost_ne e]; exact ho, r⟩
theorem ne81 {a l : Nat} (h : a < 81) (h' : 81 ≤ l) : a ≠ l := by omega
theorem GI.ghost {w : World} {h : Heap} {l : Addr} (g : GI w h) (hl : 81 ≤ l) : GI w (ghost h l) := by
  refine ⟨fun a o e => ?_, ?_⟩
  · rw [ghost_ne (ne81 (K_lt e) hl)]; exact g.K a o e
  · obtain ⟨mg, mb, t⟩ := g.T
    refine ⟨mg, mb, Ns_ghost t.g (ne81 (by decide) hl), Ns_ghost t.b (ne81 (by decide) hl), ?_, t.builtins, t.free⟩
    · obtain ⟨mc, h1, h2⟩ := t.nolimit
      exact ⟨mc, Ns_ghost h1 (ne81 (by decide) hl), h2⟩
end Mine
namespace Mine
theorem step_next {h₀ : Heap} {L : Addr} {s : Shared} {J : Nat → (Str → Option Value) → List (Addr × Obj) → Prop} {Q : Flow → Shared → Prop} {n : Nat} {h' : Heap} {tk : Nat} {m₂ : Str → Option Value} {news₁ news₂ : List (Addr × Obj)} (n' : Nat)
    (F : Fr h₀ L h' m₂) (N : News h₀ L h' news₁) (hs : ∀ p ∈ news₂, p ∈ news₁) (hn : n' < n) (hJ : J n' m₂ news₂) : WhileStep2 h₀ L s J Q n .next { s with heap := h', toks := tk } :=
  ⟨h', tk, m₂, news₂, n', rfl, F, fun p hp => N p (hs p hp), hn, hJ⟩
end Mine
namespace Mine
theorem K_nolist (P : Params) : ((hd.heap_39 P).all fun p => !decide (p.2.cls = .type "list")) = true := by rfl
theorem GI.ghostL {w : World} {h : Heap} {l : Addr} {its : Array Value} {n : Nat} (g : GI w h) (hl : h.get? l = some (W.listOf its n)) : GI w (Mine.ghost h l) := by
  have ns : ∀ {a : Addr} {m : Str → Option Value}, h.Ns a m → a ≠ l := by
    rintro a m ⟨o, es, ep, ho, hd, _⟩ rfl
    rw [hl] at ho; cases ho; cases hd
  refine ⟨fun a o e => ?_, ?_⟩
  · have hne : a ≠ l := by
      rintro rfl
      have h1 := List.all_eq_true.mp (K_nolist w.params) _ (lookup_mem e)
      have h2 := g.K a o e
      rw [hl] at h2; cases h2
      simp at h1
    rw [ghost_ne hne]; exact g.K a o e
  · obtain ⟨mg, mb, t⟩ := g.T
    refine ⟨mg, mb, Ns_ghost t.g (ns t.g), Ns_ghost t.b (ns t.b), ?_, t.builtins, t.free⟩
    obtain ⟨mc, h1, h2⟩ := t.nolimit
    exact ⟨mc, Ns_ghost h1 (ns h1), h2⟩
theorem useB {w : World} {A : Around} {E : Value → Shared → Prop} {s : Shared} {f : Value} {args : List Value} {P : Value → Heap → Prop} {Q : Value → Shared → Prop} {h₀ : Heap} {L : Addr} {m : Str → Option Value} {news : List (Addr × Obj)}
    (hc : codeAny (model PR w) A (.call f ⟨args, []⟩) (Back s P) s) (F : Fr h₀ L s.heap m) (N : News h₀ L s.heap news)
    (h : ∀ v h' tk, Keep s.heap h' → Fr h₀ L h' m → News h₀ L h' news → P v h' → Q v { s with heap := h', toks := tk }) : wpAny (model PR w) A (call f args) Q E s := by
  refine wpAny_call (codeAny_mono hc ?_)
  rintro r s' ⟨v, h', tk, rfl, rfl, k, p⟩
  exact h v h' tk k (Fr.into F k) (News.into N k) p
/-- a loop's ends, brought together -/
noncomputable def Exit (h₀ : Heap) (L : Addr) (s : Shared) (X : (Str → Option Value) → List (Addr × Obj) → Prop) (s₂ : Shared) : Prop :=
  ∃ h tk m news, s₂ = { s with heap := h, toks := tk } ∧ Fr h₀ L h m ∧ News h₀ L h news ∧ X m news
theorem exit_at {h₀ : Heap} {L : Addr} {s : Shared} {X : (Str → Option Value) → List (Addr × Obj) → Prop} {h' : Heap} {tk : Nat} {m : Str → Option Value} {news₁ news₂ : List (Addr × Obj)}
    (F : Fr h₀ L h' m) (N : News h₀ L h' news₁) (hs : ∀ p ∈ news₂, p ∈ news₁) (hx : X m news₂) : Exit h₀ L s X { s with heap := h', toks := tk } :=
  ⟨h', tk, m, news₂, rfl, F, fun p hp => N p (hs p hp), hx⟩
noncomputable def WhileStep3 (h₀ : Heap) (L : Addr) (s : Shared) (J : Nat → (Str → Option Value) → List (Addr × Obj) → Prop) (X : (Str → Option Value) → List (Addr × Obj) → Prop) (Q : Flow → Shared → Prop) (n : Nat) (f : Flow) (s₃ : Shared) : Prop :=
  match f with
  | .next | .cont => ∃ h' tk m₂ news₂ n', s₃ = { s with heap := h', toks := tk } ∧ Fr h₀ L h' m₂ ∧ News h₀ L h' news₂ ∧ n' < n ∧ J n' m₂ news₂
  | .brk => Exit h₀ L s X s₃
  | .ret v => Q (.ret v) s₃
theorem step3 {h₀ : Heap} {L : Addr} {s : Shared} {J : Nat → (Str → Option Value) → List (Addr × Obj) → Prop} {X : (Str → Option Value) → List (Addr × Obj) → Prop} {Q : Flow → Shared → Prop} {n : Nat} {h' : Heap} {tk : Nat} {m₂ : Str → Option Value} {news₁ news₂ : List (Addr × Obj)} (n' : Nat)
    (F : Fr h₀ L h' m₂) (N : News h₀ L h' news₁) (hs : ∀ p ∈ news₂, p ∈ news₁) (hn : n' < n) (hJ : J n' m₂ news₂) : WhileStep3 h₀ L s J X Q n .next { s with heap := h', toks := tk } :=
  ⟨h', tk, m₂, news₂, n', rfl, F, fun p hp => N p (hs p hp), hn, hJ⟩
theorem whileX {prog : Program} {w : World} {A : Around} {E : Value → Shared → Prop} {Q : Flow → Shared → Prop} {s : Shared} {env : Env} {h₀ : Heap} {L : Addr} {test : Expr} {body : List Stmt} {pos : Pos} {m : Str → Option Value} {news : List (Addr × Obj)}
    (J : Nat → (Str → Option Value) → List (Addr × Obj) → Prop) (X : (Str → Option Value) → List (Addr × Obj) → Prop) (n₀ : Nat) (F : Fr h₀ L s.heap m) (N : News h₀ L s.heap news) (hJ : J n₀ m news)
    (turn : ∀ n m₁ news₁ h₁ tk₁, Fr h₀ L h₁ m₁ → News h₀ L h₁ news₁ → J n m₁ news₁ →
      wpAny (model prog w) A (isTrue test env (eval test env)) (fun b s₂ =>
        if b = true then wpAny (model prog w) A (execs body env) (WhileStep3 h₀ L s J X Q n) E s₂ else Exit h₀ L s X s₂) E { s with heap := h₁, toks := tk₁ })
    (done : ∀ h tk m₁ news₁, Fr h₀ L h m₁ → News h₀ L h news₁ → X m₁ news₁ → Q .next { s with heap := h, toks := tk })
    (hE : PassesOwn (model prog w) A env E := by passes_own) :
    wpAny (model prog w) A (exec (.While test body [] pos) env) Q E s := by
  have dn : ∀ s₂, Exit h₀ L s X s₂ → Q .next s₂ := by
    rintro s₂ ⟨h, tk, m₁, news₁, rfl, F, N, x⟩; exact done h tk m₁ news₁ F N x
  refine While_inv2 (n₀ := n₀) J F N hJ (fun n m₁ news₁ h₁ tk₁ F₁ N₁ j => ?_) hE
  refine wpAny_mono (turn n m₁ news₁ h₁ tk₁ F₁ N₁ j) (fun b s₂ p => ?_) fun _ _ x => x
  cases b with
  | false => simp only [Bool.false_eq_true, if_false] at p ⊢; exact dn _ p
  | true =>
    simp only [if_true] at p ⊢
    refine wpAny_mono p (fun f s₃ q => ?_) fun _ _ x => x
    cases f with
    | ret v => exact q
    | brk => exact dn _ q
    | next => exact q
    | cont => exact q
end Mine
namespace Mine
theorem rangeSize0 (n : Nat) : Builtin.Range.rangeSize 0 (n : Int) 1 = (n : Int) := by
  unfold Builtin.Range.rangeSize
  split <;> (try split) <;> omega
/-- a loop over range(n), by an invariant over the turn's number; its ends brought together -/
theorem rangeX {prog : Program} {w : World} {A : Around} {E : Value → Shared → Prop} {Q : Flow → Shared → Prop} {s : Shared} {env : Env} {h₀ : Heap} {x : Str} {body : List Stmt} {r : Addr} {b₀ : Int} {t₀ u₀ v₀ : Tok} {n : Nat} {m₀ : Str → Option Value} {news : List (Addr × Obj)}
    (J : Nat → (Str → Option Value) → List (Addr × Obj) → Prop)
    (hh : A.handled = none) (hr : IsRange s.heap r 0 b₀ 1 t₀ u₀ v₀) (hsmall : Builtin.Range.small 0 b₀ 1 = true) (hn : b₀ = (n : Int)) (F : Fr h₀ env.locals s.heap m₀) (N : News h₀ env.locals s.heap news) (hj : J 0 m₀ news)
    (turn : ∀ i t m₁ news₁ h tk own, i < n → news₁.map (·.1) = news.map (·.1) → OwnOff own (news.map (·.1)) → J i m₁ news₁ → Fr h₀ env.locals h (fun y => if y = x then some (.int (i : Int) t) else m₁ y) → News h₀ env.locals h (news₁ ++ own) →
      wpAny (model prog w) A (execs body env) (InvPostN h₀ env.locals (J (i + 1)) own (news.map (·.1)) { s with heap := h, toks := tk } Q) E { s with heap := h, toks := tk })
    (done : ∀ m₁ news₁ h tk, J n m₁ news₁ → Fr h₀ env.locals h m₁ → News h₀ env.locals h news₁ → Q .next { s with heap := h, toks := tk }) :
    wpAny (model prog w) A (pyIter (.ref r)) (fun it s₂ => LoopAtV prog w A h₀ env x body Q E it s₂) E s := by
  subst hn
  refine wpAny_pyIter_range hr hsmall ?_
  have W : Walks prog w A s.heap.objs.size [s.heap.objs.size] [s.heap.objs.size] n (fun i v => i < n ∧ ∃ t, v = .int ((0 : Int) + i * 1) t)
      (fun i h => IsRangeIter h s.heap.objs.size ((0 : Int) + (i : Nat) * 1) ((n : Int) - (i : Nat)) 1) := (Walks.range hh _ 0 1 n).bound
  refine loop_invN J W ?_ ?_ ?_ ?_ (by show IsRangeIter _ _ _ _ _; rw [rangeSize0]; simpa using Heap.get?_push_size _ rfl) (F.push _) (fun p hp => ⟨Heap.get?_push_of_some _ (N p hp).1, (N p hp).2⟩) hj ?_ ?_
  · intro hm
    exact absurd F.ns.lt ((List.mem_singleton.mp hm) ▸ Nat.lt_irrefl _)
  · intro b hb
    rw [List.mem_singleton.mp hb]
    exact next_is_new F
  · intro p hp hI
    exact absurd (Heap.lt_size (N p hp).1) ((List.mem_singleton.mp hI) ▸ Nat.lt_irrefl _)
  · intro p hp hI
    exact absurd (Heap.lt_size (N p hp).1) ((List.mem_singleton.mp hI) ▸ Nat.lt_irrefl _)
  · rintro i v m₁ news₁ h tk own hin ⟨_, t, rfl⟩ ha ho hJ F' N'
    have e : ((0 : Int) + (i : Int) * 1) = (i : Int) := by omega
    rw [e] at F'
    exact turn i t m₁ news₁ h tk own hin ha ho hJ F' N'
  · exact done
theorem stepN {h₀ : Heap} {L : Addr} {J : (Str → Option Value) → List (Addr × Obj) → Prop} {own : List (Addr × Obj)} {adr : List Addr} {s₁ : Shared} {Q : Flow → Shared → Prop} {h' : Heap} {tk : Nat} {m' : Str → Option Value} {news' : List (Addr × Obj)} (nx : List (Addr × Obj))
    (F : Fr h₀ L h' m') (N : News h₀ L h' news') (h1 : ∀ p ∈ nx, p ∈ news') (h2 : ∀ p ∈ own, p ∈ news') (h3 : nx.map (·.1) = adr) (hj : J m' nx) : InvPostN h₀ L J own adr s₁ Q .next { s₁ with heap := h', toks := tk } :=
  ⟨h', tk, m', news', nx, rfl, F, N, h1, h2, h3, hj⟩
end Mine
namespace Mine
theorem endN {h₀ : Heap} {L : Addr} {J : (Str → Option Value) → List (Addr × Obj) → Prop} {own : List (Addr × Obj)} {adr : List Addr} {s₁ : Shared} {h' : Heap} {tk : Nat} {m' : Str → Option Value} {news' : List (Addr × Obj)} (nx : List (Addr × Obj))
    (F : Fr h₀ L h' m') (N : News h₀ L h' news') (h1 : ∀ p ∈ nx, p ∈ news') (h2 : ∀ p ∈ own, p ∈ news') (h3 : nx.map (·.1) = adr) (hj : J m' nx) : InvEndN h₀ L J own adr s₁ { s₁ with heap := h', toks := tk } :=
  ⟨h', tk, m', news', nx, rfl, F, N, h1, h2, h3, hj⟩
end Mine
namespace Mine
theorem small0 {n : Nat} (h : n ≤ 1000000) : Builtin.Range.small 0 (n : Int) 1 = true := by
  unfold Builtin.Range.small
  rw [rangeSize0]
  have f : ∀ k : Int, 0 ≤ k → k ≤ 2000000 → Builtin.Range.rangeFitsLong k = true := by
    intro k h0 h1
    unfold Builtin.Range.rangeFitsLong
    simp only [Bool.and_eq_true, decide_eq_true_eq]
    omega
  rw [f 0 (by omega) (by omega), f n (by omega) (by omega), f 1 (by omega) (by omega), if_pos (by decide), f ((n : Int) + (1 - 1)) (by omega) (by omega)]
  simp
end Mine
end

section  -- B0c
open PySem PySem.W PySem.Calls PySem.Spec PyProof.Rows PySem.SeqAt
set_option maxRecDepth 100000
set_option maxHeartbeats 1000000
namespace Mine
theorem isList_of {h : Heap} {a : Addr} {vs : Array Value} {n : Nat} (e : h.get? a = some (W.listOf vs n)) : h.IsList a vs := ⟨_, e, rfl, n, rfl⟩
noncomputable abbrev tupOf (vs : Array Value) : Obj := { cls := .type "tuple", data := .seq vs }
theorem notIn2 {prog : Program} {w : World} {A : Around} {E : Value → Shared → Prop} {s : Shared} {a b x y : Addr} {vs us ws : List Value} {ns ms ls : List Int} {n1 n2 n3 : Nat} {Q : Value → Shared → Prop}
    (ha : s.heap.get? a = some (W.listOf vs.toArray n1)) (hi : IntsAre vs ns) (hb : s.heap.get? b = some (tupOf #[.ref x, .ref y]))
    (hx : s.heap.get? x = some (W.listOf us.toArray n2)) (hu1 : IntsAre us ms) (hy : s.heap.get? y = some (W.listOf ws.toArray n3)) (hw1 : IntsAre ws ls) (hu : A.units + 65 < cLine)
    (h : Q (.bool (!(decide (ms = ns) || decide (ls = ns)))) s) : wpAny (model prog w) A (compareOp .NotIn (.ref a) (.ref b)) Q E s := by
  have rc : Reads s.heap (.ref b) (.tuple [.list (ms.map PyData.int), .list (ls.map PyData.int)]) ([x, y]) := by
    have r1 := reads_of_ints (isList_of hx) hu1
    have r2 := reads_of_ints (isList_of hy) hw1
    have := Reads.tuple (h := s.heap) (a := b) (xs := [.list (ms.map PyData.int), .list (ls.map PyData.int)]) (as := [x] ++ ([y] ++ [])) hb rfl rfl (.cons r1 (.cons r2 .nil))
    simpa using this
  refine notIn_tuple_reads rc (reads_of_ints (isList_of ha) hi) (by simp [PyData.canLay0, PyData.canLayAll0, canLayAll0_ints]) (by simp [PyData.canLay0, canLayAll0_ints]) ?_ ?_
  · have h1 := W.depthAll_ints ns
    have h2 : PyData.depth (.list (ns.map PyData.int)) ≤ 2 := by simp only [PyData.depth]; omega
    have h3 : min (PyData.depthAll [PyData.list (ms.map PyData.int), PyData.list (ls.map PyData.int)]) (PyData.depth (.list (ns.map PyData.int))) ≤ 2 := by omega
    omega
  have e : ∀ ks : List Int, PyData.eqv (.list (ks.map PyData.int)) (.list (ns.map PyData.int)) = decide (ks = ns) := by
    intro ks
    rw [← same_eq_eqv _ _ (by simp only [noMix]; exact noMix_ints ks ns)]
    simp only [PySem.Spec.same]; exact same_ints ks ns
  simpa [e] using h
end Mine
namespace Mine
/-- a fact out of omega's sight -/
structure Hid (p : Prop) : Prop where
  out : p
end Mine
namespace Mine
theorem weight_small : ∀ n : Nat, n < 16 → PyData.weight (.int (n : Int)) ≤ 4 := by decide
theorem weightAll_small : ∀ ns : List Int, (∀ x ∈ ns, 0 ≤ x ∧ x < 16) → PyData.weightAll (ns.map PyData.int) ≤ 5 * ns.length
  | [], _ => by simp [PyData.weightAll]
  | x :: r, h => by
    have h1 := weightAll_small r fun y hy => h y (.tail _ hy)
    obtain ⟨a, b⟩ := h x (.head _)
    have h2 := weight_small x.toNat (by omega)
    rw [Int.toNat_of_nonneg a] at h2
    simp only [List.map_cons, PyData.weightAll, List.length_cons]
    omega
theorem layable_small {ns : List Int} (h : ∀ x ∈ ns, 0 ≤ x ∧ x < 16) (hl : ns.length ≤ 1000) : PyData.layable0 (.list (ns.map PyData.int)) = true := by
  have h1 := weightAll_small ns h
  have h2 := W.depthAll_ints ns
  unfold PyData.layable0
  rw [Bool.and_eq_true, Bool.and_eq_true]
  refine ⟨⟨by simp [PyData.canLay0, canLayAll0_ints], decide_eq_true ?_⟩, decide_eq_true ?_⟩
  · simp only [PyData.depth]; omega
  · simp only [PyData.weight]; omega
end Mine
end

section  -- B1
open PySem PySem.W PySem.Calls PyProof.Rows
set_option maxRecDepth 100000
set_option maxHeartbeats 4000000
namespace Mine

/-- the figures of a number to the base 10 -/
noncomputable def decN (n : Nat) : List Int := if _h : n ≤ 9 then [(n : Int)] else decN (n / 10) ++ [((n % 10 : Nat) : Int)]
termination_by n
decreasing_by omega
theorem decN_small {n : Nat} (h : n ≤ 9) : decN n = [(n : Int)] := by rw [decN, dif_pos h]
theorem decN_big {n : Nat} (h : ¬ n ≤ 9) : decN n = decN (n / 10) ++ [((n % 10 : Nat) : Int)] := by rw [decN, dif_neg h]
theorem toNat_fdiv {k : Int} (h : 0 ≤ k) : (k.fdiv 10).toNat = k.toNat / 10 ∧ k.fmod 10 = ((k.toNat % 10 : Nat) : Int) ∧ 0 ≤ k.fdiv 10 ∧ k.fdiv 10 ≤ k := by
  obtain ⟨n, rfl⟩ := Int.eq_ofNat_of_zero_le h
  cases n with
  | zero => exact ⟨rfl, rfl, Int.le_refl _, Int.le_refl _⟩
  | succ n => exact ⟨rfl, rfl, Int.natCast_nonneg ((n + 1) / 10), Int.ofNat_le.mpr (Nat.div_le_self (n + 1) 10)⟩
theorem small_toNat {k : Int} (h : 0 ≤ k) (hk : ¬ 9 < k) : k.toNat ≤ 9 ∧ k.fmod 10 = ((k.toNat : Nat) : Int) := by
  obtain ⟨n, rfl⟩ := Int.eq_ofNat_of_zero_le h
  have h9 : n ≤ 9 := Int.ofNat_le.mp (Int.not_lt.mp hk)
  have z := toNat_fdiv h
  refine ⟨h9, z.2.1.trans ?_⟩
  show ((n % 10 : Nat) : Int) = _
  rw [Nat.mod_eq_of_lt (Nat.lt_succ_of_le h9)]; rfl
theorem more_room {a q K x : Nat} (h : a + K ≤ x) (l : q < K) : a + 1 + q ≤ x := by
  rw [Nat.add_assoc, Nat.add_comm 1 q]; exact Nat.le_trans (Nat.add_le_add_left l a) h
/-- what holds before each turn -/
inductive DecJ (n : Int) : Nat → (Str → Option Value) → List (Addr × Obj) → Prop
  | mk (k : Int) (t : Tok) (l : Addr) (its : List Value) (tl : List Int) (m : Str → Option Value) (e1 : m (Str.ofString "number") = some (.int k t)) (e2 : m (Str.ofString "run") = some (.ref l)) (h3 : 0 ≤ k) (h4 : k ≤ n) (h6 : its.length ≤ 10000)
      (h7 : IntsAre its (k.fmod 10 :: tl)) (h8 : decN n.toNat = decN k.toNat ++ tl) (h9 : its.length + k.toNat ≤ 1001) : DecJ n k.toNat m [(l, W.listOf its.toArray 0)]
theorem dec_c {w : World} {dp un : Nat} {fr : Option (List Env)} {gd : Option (List Code)} {s : Shared} {n : Int} {t : Tok} (G : GI w s.heap) (hroom : dp < recursionLimit) (h0 : 0 ≤ n) (h1 : n ≤ 1000) :
    codeAny (model PR w) (AR dp un fr gd) (.call (.ref 75) ⟨[.int n t], []⟩) (Back s fun v h' => ∃ l vs, v = .ref l ∧ s.heap.get? l = none ∧ h'.get? l = some (W.listOf vs.toArray 0) ∧ IntsAre vs (decN n.toNat)) s := by
  refine enterF (binds := [(Str.ofString "number", .int n t)]) G (by exact rfl) (by exact rfl) hroom (BindsTo.of_eq (by exact rfl)) (locs rfl) ?_ rfl rfl rfl (by decide)
  intro L h₁ F N
  refine wpAny_noRaise ?_
  have X := G.K
  obtain ⟨mg, mb, TT⟩ := G.T
  w_on
  (repeat' (first | ((fail_if_success (with_reducible show wpAny _ _ (exec (Stmt.While _ _ _ _) _) _ _ _)); (fail_if_success (with_reducible show wpAny _ _ (exec (Stmt.For _ _ _ _ _) _) _ _ _)); (fail_if_success (with_reducible show wpAny _ _ (exec (Stmt.If _ _ _ _) _) _ _ _)); (fail_if_success (with_reducible show wpAny _ _ (pyIter (Value.ref _)) _ _ _)); (fail_if_success (with_reducible show wpAny _ _ (call (Value.ref _) _) _ _ _)); (fail_if_success (with_reducible show wpAny _ _ (compareOp CmpOp.NotIn _ _) _ _ _)); (fail_if_success (with_reducible show wpAny _ _ (call (Value.builtin "list.index") _) _ _ _)); (first | walk1 | (dsimp only; walk1)))))
  refine While_inv2 (n₀ := n.toNat) (DecJ n) (by assumption) (by assumption) ?_ ?_
  · exact .mk n _ _ [_] [] _ rfl rfl h0 (Int.le_refl _) (by show 1 ≤ _; decide) (.cons _ _ .nil) (List.append_nil _).symm (by show 1 + n.toNat ≤ 1001; omega)
  · rintro j m₁ news₁ h₂ tk₁ F N ⟨k, tt, l, its, tl, _, e1, e2, h3, h4, h6, h7, h8, h9⟩
    replace F := Fr.setL F [(Str.ofString "number", .int k tt), (Str.ofString "run", .ref l)] (fcC e1 (fcC e2 fcN))
    (repeat' (first | ((fail_if_success (with_reducible show wpAny _ _ (exec (Stmt.While _ _ _ _) _) _ _ _)); (fail_if_success (with_reducible show wpAny _ _ (exec (Stmt.For _ _ _ _ _) _) _ _ _)); (fail_if_success (with_reducible show wpAny _ _ (exec (Stmt.If _ _ _ _) _) _ _ _)); (fail_if_success (with_reducible show wpAny _ _ (pyIter (Value.ref _)) _ _ _)); (fail_if_success (with_reducible show wpAny _ _ (call (Value.ref _) _) _ _ _)); (fail_if_success (with_reducible show wpAny _ _ (compareOp CmpOp.NotIn _ _) _ _ _)); (fail_if_success (with_reducible show wpAny _ _ (call (Value.builtin "list.index") _) _ _ _)); (first | walk1 | (dsimp only; walk1)))))
    · have hk : 9 < k := by assumption
      obtain ⟨d1, d2, d3, d4⟩ := toNat_fdiv h3
      have hk0 : 0 < k.toNat := Int.lt_toNat.mpr (Int.lt_trans (by decide) hk)
      have lt : (k.fdiv 10).toNat < k.toNat := by rw [d1]; exact Nat.div_lt_self hk0 (by decide)
      have nk : ¬ k.toNat ≤ 9 := fun q => absurd hk (Int.not_lt.mpr (Int.toNat_le.mp q))
      refine ⟨_, _, _, _, (k.fdiv 10).toNat, rfl, by assumption, News.one (by assumption) (List.Mem.head _), lt, .mk (k.fdiv 10) _ _ (_ :: its) (k.fmod 10 :: tl) _ rfl rfl d3 (Int.le_trans d4 h4) ?_ (.cons _ _ h7) ?_ ?_⟩
      · exact Nat.le_trans (Nat.le_trans (Nat.le_trans (Nat.le_add_right _ _) (more_room h9 lt)) (Nat.le_refl _)) (by decide)
      · rw [h8, decN_big nk, d1, d2, List.append_assoc]; rfl
      · exact more_room h9 lt
    · obtain ⟨z1, z2⟩ := small_toNat h3 (by assumption)
      refine ⟨_, _, _, rfl, rfl, F.keep, l, its, rfl, (N _ (.head _)).2.2, (N _ (.head _)).1, ?_⟩
      rw [h8, decN_small z1]
      rw [z2] at h7; exact h7
end Mine
end

section  -- B2
open PySem PySem.W PySem.Calls PyProof.Rows
set_option maxRecDepth 100000
set_option maxHeartbeats 4000000
namespace Mine

/-- the figures of a number to the base 16 -/
noncomputable def hexN (n : Nat) : List Nat := if _h : n = 0 then [] else hexN (n / 16) ++ [n % 16]
termination_by n
decreasing_by omega
theorem hexN_zero : hexN 0 = [] := by rw [hexN, dif_pos rfl]
theorem hexN_pos {n : Nat} (h : n ≠ 0) : hexN n = hexN (n / 16) ++ [n % 16] := by rw [hexN, dif_neg h]
noncomputable def apB (l : List Nat) : List UInt8 := l.map fun d => UInt8.ofNat (65 + d)

theorem hexN_length : ∀ (k n : Nat), n < 16 ^ k → (hexN n).length ≤ k
  | 0, n, h => by
    have : n = 0 := by simpa using h
    subst this; rw [hexN_zero]; simp
  | k + 1, n, h => by
    by_cases e : n = 0
    · subst e; rw [hexN_zero]; simp
    · rw [hexN_pos e]
      have := hexN_length k (n / 16) (by rw [Nat.div_lt_iff_lt_mul (by decide)]; rwa [Nat.pow_succ] at h)
      simp; omega
theorem ap_pick : ∀ d : Nat, d < 16 → KBy.picked #[65, 66, 67, 68, 69, 70, 71, 72, 73, 74, 75, 76, 77, 78, 79, 80] (some (d : Int)) (some ((d : Int) + 1)) = #[UInt8.ofNat (65 + d)] := by
  decide +kernel
theorem toNat_fdiv16 {k : Int} (h : 0 ≤ k) : (k.fdiv 16).toNat = k.toNat / 16 ∧ k.fmod 16 = ((k.toNat % 16 : Nat) : Int) ∧ 0 ≤ k.fdiv 16 := by
  obtain ⟨n, rfl⟩ := Int.eq_ofNat_of_zero_le h
  cases n with
  | zero => exact ⟨rfl, rfl, Int.le_refl _⟩
  | succ n => exact ⟨rfl, rfl, Int.natCast_nonneg ((n + 1) / 16)⟩

theorem pos_toNat {k : Int} (h : 0 ≤ k) (n : k ≠ 0) : 0 < k.toNat := Int.lt_toNat.mpr (Int.lt_iff_le_and_ne.mpr ⟨h, Ne.symm n⟩)
theorem apB_length (l : List Nat) : (apB l).length = l.length := List.length_map _
/-- what holds before each turn -/
inductive ApJ (n : Int) : Nat → (Str → Option Value) → List (Addr × Obj) → Prop
  | mk (k : Int) (t u v : Tok) (b : Array UInt8) (m : Str → Option Value) (e1 : m (Str.ofString "num") = some (.int k t)) (e2 : m (Str.ofString "val") = some (.bytes b u)) (e3 : m (Str.ofString "AP") = some (.bytes #[65, 66, 67, 68, 69, 70, 71, 72, 73, 74, 75, 76, 77, 78, 79, 80] v))
      (h3 : 0 ≤ k) (h5 : apB (hexN n.natAbs) = apB (hexN k.toNat) ++ b.toList) (h6 : b.size ≤ 40) : ApJ n k.toNat m []
theorem ap_c {w : World} {dp un : Nat} {fr : Option (List Env)} {gd : Option (List Code)} {s : Shared} {n : Int} {t : Tok} (G : GI w s.heap) (hroom : dp < recursionLimit) (h0 : n.natAbs < 16 ^ 40) :
    codeAny (model PR w) (AR dp un fr gd) (.call (.ref 35) ⟨[.int n t], []⟩) (Back s fun v h' => ∃ u, v = .bytes (apB (hexN n.natAbs)).toArray u) s := by
  refine enterF (binds := [(Str.ofString "num", .int n t)]) G (by exact rfl) (by exact rfl) hroom (BindsTo.of_eq (by exact rfl)) (locs rfl) ?_ rfl rfl rfl (by decide)
  intro L h₁ F N
  refine wpAny_noRaise ?_
  have X := G.K
  obtain ⟨mg, mb, TT⟩ := G.T
  w_on
  have : (fun P : Params => hd.heap_39 P) = hd.heap_39 ∧ PySem.Challenge.rw_pg0028_01 = PySem.Challenge.rw_pg0028_01 := by k_fill; exact ⟨rfl, rfl⟩
  clear this
  (repeat' (first | ((fail_if_success (with_reducible show wpAny _ _ (exec (Stmt.While _ _ _ _) _) _ _ _)); (fail_if_success (with_reducible show wpAny _ _ (exec (Stmt.For _ _ _ _ _) _) _ _ _)); (fail_if_success (with_reducible show wpAny _ _ (exec (Stmt.If _ _ _ _) _) _ _ _)); (fail_if_success (with_reducible show wpAny _ _ (pyIter (Value.ref _)) _ _ _)); (fail_if_success (with_reducible show wpAny _ _ (call (Value.ref _) _) _ _ _)); (fail_if_success (with_reducible show wpAny _ _ (compareOp CmpOp.NotIn _ _) _ _ _)); (fail_if_success (with_reducible show wpAny _ _ (call (Value.builtin "list.index") _) _ _ _)); (first | walk1 | (dsimp only; walk1)))))
  refine While_inv2 (n₀ := (if n < 0 then -n else n).toNat) (ApJ n) (by assumption) (by assumption) ?_ ?_
  · have : (if n < 0 then -n else n).toNat = n.natAbs := by split <;> omega
    refine .mk _ _ _ _ _ _ rfl rfl rfl (by split <;> omega) ?_ (by decide)
    rw [this]; exact (List.append_nil _).symm
  · rintro j m₁ news₁ h₂ tk₁ F N ⟨k, tt, u, v, b, _, e1, e2, e3, h3, h5, h6⟩
    replace F := Fr.setL F [(Str.ofString "num", .int k tt), (Str.ofString "val", .bytes b u), (Str.ofString "AP", .bytes #[65, 66, 67, 68, 69, 70, 71, 72, 73, 74, 75, 76, 77, 78, 79, 80] v)] (fcC e1 (fcC e2 (fcC e3 fcN)))
    (repeat' (first | ((fail_if_success (with_reducible show wpAny _ _ (exec (Stmt.While _ _ _ _) _) _ _ _)); (fail_if_success (with_reducible show wpAny _ _ (exec (Stmt.For _ _ _ _ _) _) _ _ _)); (fail_if_success (with_reducible show wpAny _ _ (exec (Stmt.If _ _ _ _) _) _ _ _)); (fail_if_success (with_reducible show wpAny _ _ (pyIter (Value.ref _)) _ _ _)); (fail_if_success (with_reducible show wpAny _ _ (call (Value.ref _) _) _ _ _)); (fail_if_success (with_reducible show wpAny _ _ (compareOp CmpOp.NotIn _ _) _ _ _)); (fail_if_success (with_reducible show wpAny _ _ (call (Value.builtin "list.index") _) _ _ _)); (first | walk1 | (dsimp only; walk1)))))
    · have hk0 := pos_toNat h3 (by assumption)
      obtain ⟨d1, d2, d3⟩ := toNat_fdiv16 h3
      refine KBc.slice_K (s := ⟨_, _, _, _, _⟩) (by assumption) (by assumption) rfl (.int _ _) (.int _ _) (by decide) ?_
      intro h' t' k' F' N' _
      rw [d2, ap_pick _ (Nat.mod_lt _ (by decide))]
      dsimp only
      (repeat' (first | ((fail_if_success (with_reducible show wpAny _ _ (exec (Stmt.While _ _ _ _) _) _ _ _)); (fail_if_success (with_reducible show wpAny _ _ (exec (Stmt.For _ _ _ _ _) _) _ _ _)); (fail_if_success (with_reducible show wpAny _ _ (exec (Stmt.If _ _ _ _) _) _ _ _)); (fail_if_success (with_reducible show wpAny _ _ (pyIter (Value.ref _)) _ _ _)); (fail_if_success (with_reducible show wpAny _ _ (call (Value.ref _) _) _ _ _)); (fail_if_success (with_reducible show wpAny _ _ (compareOp CmpOp.NotIn _ _) _ _ _)); (fail_if_success (with_reducible show wpAny _ _ (call (Value.builtin "list.index") _) _ _ _)); (first | walk1 | (dsimp only; walk1)))))
      refine KBa.add_K rfl rfl (by show (KBw.bInts _).length + (KBw.bInts _).length ≤ _; rw [KBw.ints_length, KBw.ints_length]; show 1 + b.size ≤ _; omega) ?_
      intro t2 k2 _
      dsimp only
      (repeat' (first | ((fail_if_success (with_reducible show wpAny _ _ (exec (Stmt.While _ _ _ _) _) _ _ _)); (fail_if_success (with_reducible show wpAny _ _ (exec (Stmt.For _ _ _ _ _) _) _ _ _)); (fail_if_success (with_reducible show wpAny _ _ (exec (Stmt.If _ _ _ _) _) _ _ _)); (fail_if_success (with_reducible show wpAny _ _ (pyIter (Value.ref _)) _ _ _)); (fail_if_success (with_reducible show wpAny _ _ (call (Value.ref _) _) _ _ _)); (fail_if_success (with_reducible show wpAny _ _ (compareOp CmpOp.NotIn _ _) _ _ _)); (fail_if_success (with_reducible show wpAny _ _ (call (Value.builtin "list.index") _) _ _ _)); (first | walk1 | (dsimp only; walk1)))))
      have hlen : (hexN n.natAbs).length ≤ 40 := hexN_length 40 _ h0
      have hnew : apB (hexN n.natAbs) = apB (hexN (k.toNat / 16)) ++ (#[UInt8.ofNat (65 + k.toNat % 16)] ++ b).toList := by
        rw [h5, hexN_pos (n := k.toNat) (Nat.ne_of_gt hk0)]; simp [apB]
      have hl3 := congrArg List.length hnew
      rw [List.length_append, apB_length] at hl3
      refine ⟨_, _, _, _, (k.fdiv 16).toNat, rfl, by assumption, News.nil, by rw [d1]; exact Nat.div_lt_self hk0 (by decide), .mk (k.fdiv 16) _ _ _ _ _ rfl rfl rfl d3 ?_ ?_⟩
      · rw [d1]; exact hnew
      · exact Nat.le_trans (Nat.le_add_left _ _) (hl3 ▸ hlen)
    · rename_i hk
      have : k = 0 := by omega
      subst this
      have hb : (apB (hexN n.natAbs)).toArray = b := by rw [h5]; simp [hexN_zero, apB]
      exact ⟨_, _, _, rfl, rfl, F.keep, u, by rw [hb]⟩
end Mine
end

section  -- B3
open PySem PySem.W PySem.Calls PyProof.Rows
set_option maxRecDepth 100000
set_option maxHeartbeats 4000000
namespace Mine

/-- without the blanks at the end -/
noncomputable def rs14 (ns : List Int) : List Int := (ns.reverse.dropWhile (· == 14)).reverse
noncomputable def ls14 (ns : List Int) : List Int := ns.dropWhile (· == 14)
theorem rs14_snoc (ns : List Int) : rs14 (ns ++ [14]) = rs14 ns := by simp [rs14]
theorem last_split {ns : List Int} (h : ns.drop (ns.length - 1) = [14]) : ns = ns.take (ns.length - 1) ++ [14] := by
  conv => lhs; rw [← List.take_append_drop (ns.length - 1) ns]
  rw [h]
theorem rs14_stop {ns : List Int} (h : ¬ ns.drop (ns.length - 1) = [14]) : rs14 ns = ns := by
  unfold rs14
  rcases List.eq_nil_or_concat ns with rfl | ⟨r, x, rfl⟩
  · rfl
  · have : x ≠ 14 := by
      intro e; subst e; apply h; simp
    simp [this]
theorem ls14_stop {ns : List Int} (h : ¬ ns.take 1 = [14]) : ls14 ns = ns := by
  cases ns with
  | nil => rfl
  | cons x r =>
    have : x ≠ 14 := by intro e; subst e; exact h rfl
    simp [ls14, this]
theorem ls14_go {ns : List Int} (h : ns.take 1 = [14]) : ls14 ns = ls14 (ns.drop 1) ∧ ns ≠ [] := by
  cases ns with
  | nil => cases h
  | cons x r => simp at h; subst h; simp [ls14]

/-- the figures' worth: single 13s between figures are let by -/
noncomputable def numGo : List Int → Int → Int → Option Int
  | [], _, v => some v
  | x :: r, p, v => if x < 10 then numGo r x (10 * v + x) else if x = 13 ∧ p ≤ 9 then numGo r x v else none
noncomputable def numBody (ns : List Int) : Option Int :=
  if ns = [] ∨ 9 < ns.getD 0 0 ∨ 9 < ns.getD (ns.length - 1) 0 then none else numGo ns 0 0
noncomputable def numSpec (ns : List Int) (loose : Bool) : Option Int := numBody (if loose then ls14 (rs14 ns) else rs14 ns)
/-- None, or the int -/
noncomputable def IsOpt (v : Value) : Option Int → Prop
  | none => v = .none
  | some x => ∃ t, v = .int x t

theorem rs14_sub {ns : List Int} {x : Int} (h : x ∈ rs14 ns) : x ∈ ns := by
  unfold rs14 at h
  have := (List.dropWhile_sublist (· == (14 : Int)) (l := ns.reverse)).subset (List.mem_reverse.mp h)
  exact List.mem_reverse.mp this
theorem pow10_le {i : Nat} (h : i ≤ 20) : (10 : Int) ^ i ≤ 10 ^ 20 := by
  have := Nat.pow_le_pow_right (n := 10) (by decide) h
  exact_mod_cast this

theorem sub2 {α : Type} {a b : α} {l : List α} (h1 : a ∈ l) (h2 : b ∈ l) : ∀ p ∈ [a, b], p ∈ l := List.forall_mem_cons.mpr ⟨h1, List.forall_mem_cons.mpr ⟨h2, List.forall_mem_nil _⟩⟩
/-- between two turns of a strip -/
inductive NumJ (l₀ : Addr) (its₀ : List Value) (n₀ : Nat) (loose : Bool) (P : List Int → Prop) (j : Nat) (m : Str → Option Value) : List (Addr × Obj) → Prop
  | mk (l : Addr) (its : List Value) (ns : List Int) (n : Nat) : m (Str.ofString "run") = some (.ref l) → m (Str.ofString "loose") = some (.bool loose) → IntsAre its ns → j = its.length → ns.length ≤ 20 → P ns → NumJ l₀ its₀ n₀ loose P j m [(l, W.listOf its.toArray n), (l₀, W.listOf its₀.toArray n₀)]
/-- behind it -/
inductive NumX (l₀ : Addr) (its₀ : List Value) (n₀ : Nat) (loose : Bool) (ns : List Int) (m : Str → Option Value) : List (Addr × Obj) → Prop
  | mk (l : Addr) (its : List Value) (n : Nat) : m (Str.ofString "run") = some (.ref l) → m (Str.ofString "loose") = some (.bool loose) → IntsAre its ns → ns.length ≤ 20 → NumX l₀ its₀ n₀ loose ns m [(l, W.listOf its.toArray n), (l₀, W.listOf its₀.toArray n₀)]
theorem num_c {w : World} {dp un : Nat} {fr : Option (List Env)} {gd : Option (List Code)} {s : Shared} {l₀ : Addr} {its₀ : List Value} {n₀ : Nat} {ns₀ : List Int} {loose : Bool} (G : GI w s.heap) (hroom : dp < recursionLimit) (hl : s.heap.get? l₀ = some (W.listOf its₀.toArray n₀)) (hi : IntsAre its₀ ns₀) (hlen : ns₀.length ≤ 20) (hge : ∀ x ∈ ns₀, 0 ≤ x) (hu : un + 200 < cLine) :
    codeAny (model PR w) (AR dp un fr gd) (.call (.ref 61) ⟨[.ref l₀, .bool loose], []⟩) (Back s fun v _ => IsOpt v (numSpec ns₀ loose)) s := by
  refine enterF (binds := [(Str.ofString "run", .ref l₀), (Str.ofString "loose", .bool loose)]) G (by exact rfl) (by exact rfl) hroom (BindsTo.of_eq (by exact rfl)) (locs rfl) ?_ rfl rfl rfl (by decide)
  intro L h₁ F N
  refine wpAny_noRaise ?_
  replace N := News.ghost F N hl
  replace F := Fr.ghost (l := l₀) F
  have G' := G.ghostL hl
  have X := G'.K
  obtain ⟨mg, mb, TT⟩ := G'.T
  have K0 : ∀ {h : Heap} {m : Str → Option Value}, Fr (ghost s.heap l₀) L h m → h.get? l₀ = some (W.listOf its₀.toArray n₀) → Keep s.heap h := fun F e => keep_ghost F hl e
  generalize ghost s.heap l₀ = h₀ at *
  w_on
  have : (fun P : Params => hd.heap_39 P) = hd.heap_39 ∧ PySem.Challenge.rw_pg0028_01 = PySem.Challenge.rw_pg0028_01 := by k_fill; exact ⟨rfl, rfl⟩
  clear this
  (repeat' (first | ((fail_if_success (with_reducible show wpAny _ _ (exec (Stmt.While _ _ _ _) _) _ _ _)); (fail_if_success (with_reducible show wpAny _ _ (exec (Stmt.For _ _ _ _ _) _) _ _ _)); (fail_if_success (with_reducible show wpAny _ _ (exec (Stmt.If _ _ _ _) _) _ _ _)); (fail_if_success (with_reducible show wpAny _ _ (pyIter (Value.ref _)) _ _ _)); (fail_if_success (with_reducible show wpAny _ _ (call (Value.ref _) _) _ _ _)); (fail_if_success (with_reducible show wpAny _ _ (compareOp CmpOp.NotIn _ _) _ _ _)); (fail_if_success (with_reducible show wpAny _ _ (call (Value.builtin "list.index") _) _ _ _)); (first | walk1 | (dsimp only; walk1)))))
  refine whileX (NumJ l₀ its₀ n₀ loose (fun ns => rs14 ns₀ = rs14 ns)) (NumX l₀ its₀ n₀ loose (rs14 ns₀))
      its₀.length (by assumption) (News.drop (news := [(l₀, W.listOf its₀.toArray n₀), (l₀, W.listOf its₀.toArray n₀)]) (by assumption) (List.forall_mem_cons.mpr ⟨.head _, List.forall_mem_cons.mpr ⟨.head _, List.forall_mem_nil _⟩⟩)) ?_ ?_ ?_
  · exact ⟨_, _, _, _, rfl, rfl, hi, rfl, hlen, rfl⟩
  · rintro j m₁ news₁ h₂ tk₁ F N ⟨l, its, ns, n, e1, e2, h3, rfl, h5, h7⟩
    replace h7 : rs14 ns₀ = rs14 ns := h7
    replace F := Fr.setL F [(Str.ofString "run", .ref l), (Str.ofString "loose", .bool loose)] (fcC e1 (fcC e2 fcN))
    (repeat' (first | ((fail_if_success (with_reducible show wpAny _ _ (exec (Stmt.While _ _ _ _) _) _ _ _)); (fail_if_success (with_reducible show wpAny _ _ (exec (Stmt.For _ _ _ _ _) _) _ _ _)); (fail_if_success (with_reducible show wpAny _ _ (exec (Stmt.If _ _ _ _) _) _ _ _)); (fail_if_success (with_reducible show wpAny _ _ (pyIter (Value.ref _)) _ _ _)); (fail_if_success (with_reducible show wpAny _ _ (call (Value.ref _) _) _ _ _)); (fail_if_success (with_reducible show wpAny _ _ (compareOp CmpOp.NotIn _ _) _ _ _)); (fail_if_success (with_reducible show wpAny _ _ (call (Value.builtin "list.index") _) _ _ _)); (first | walk1 | (dsimp only; walk1)))))
    · rename_i D ws hh hI hC hL l1 h' F' N'
      have hlen3 := h3.length
      have hlen4 := hI.length
      have hs := last_split (by assumption : ns.drop (ns.length - 1) = [14])
      have hl2 := congrArg List.length hs
      simp at hl2 hlen4
      refine step3 (news₂ := [(D, W.listOf ws.toArray 0), (l₀, W.listOf its₀.toArray n₀)]) ws.length F' N' (sub2 (by k_mem) (by k_mem)) (by omega) ⟨D, ws, _, 0, rfl, rfl, hI, rfl, by simp; omega, ?_⟩
      show rs14 ns₀ = rs14 _
      rw [h7]; conv => lhs; rw [hs]
      exact rs14_snoc _
    · have hstop := rs14_stop (by assumption : ¬ ns.drop (ns.length - 1) = [14])
      rw [hstop] at h7
      exact exit_at (news₂ := [(l, W.listOf its.toArray n), (l₀, W.listOf its₀.toArray n₀)]) (by assumption) (by assumption) (sub2 (by k_mem) (by k_mem)) ⟨l, its, n, rfl, rfl, by rw [h7]; exact h3, by rw [h7]; exact h5⟩
  generalize hns : rs14 ns₀ = ns
  clear F N
  rintro h₂ tk₂ m₂ news₂ F N ⟨l, its, n, e1, e2, h3, h5⟩
  replace F := Fr.setL F [(Str.ofString "run", .ref l), (Str.ofString "loose", .bool loose)] (fcC e1 (fcC e2 fcN))
  (repeat' (first | ((fail_if_success (with_reducible show wpAny _ _ (exec (Stmt.While _ _ _ _) _) _ _ _)); (fail_if_success (with_reducible show wpAny _ _ (exec (Stmt.For _ _ _ _ _) _) _ _ _)); (fail_if_success (with_reducible show wpAny _ _ (exec (Stmt.If _ _ _ _) _) _ _ _)); (fail_if_success (with_reducible show wpAny _ _ (pyIter (Value.ref _)) _ _ _)); (fail_if_success (with_reducible show wpAny _ _ (call (Value.ref _) _) _ _ _)); (fail_if_success (with_reducible show wpAny _ _ (compareOp CmpOp.NotIn _ _) _ _ _)); (fail_if_success (with_reducible show wpAny _ _ (call (Value.builtin "list.index") _) _ _ _)); (first | walk1 | (dsimp only; walk1)))))
  refine whileX (NumJ l₀ its₀ n₀ loose (fun ns' => (if loose then ls14 ns else ns) = (if loose then ls14 ns' else ns'))) (NumX l₀ its₀ n₀ loose (if loose then ls14 ns else ns))
      its.length (by assumption) (by assumption) ?_ ?_ ?_
  · exact ⟨_, _, _, _, rfl, rfl, h3, rfl, h5, rfl⟩
  · rintro j m₁ news₁ h₂ tk₁ F N ⟨l, its, ns', n, e1, e2, h3, rfl, h5, h7⟩
    replace h7 : (if loose then ls14 ns else ns) = (if loose then ls14 ns' else ns') := h7
    replace F := Fr.setL F [(Str.ofString "run", .ref l), (Str.ofString "loose", .bool loose)] (fcC e1 (fcC e2 fcN))
    (repeat' (first | ((fail_if_success (with_reducible show wpAny _ _ (exec (Stmt.While _ _ _ _) _) _ _ _)); (fail_if_success (with_reducible show wpAny _ _ (exec (Stmt.For _ _ _ _ _) _) _ _ _)); (fail_if_success (with_reducible show wpAny _ _ (exec (Stmt.If _ _ _ _) _) _ _ _)); (fail_if_success (with_reducible show wpAny _ _ (pyIter (Value.ref _)) _ _ _)); (fail_if_success (with_reducible show wpAny _ _ (call (Value.ref _) _) _ _ _)); (fail_if_success (with_reducible show wpAny _ _ (compareOp CmpOp.NotIn _ _) _ _ _)); (fail_if_success (with_reducible show wpAny _ _ (call (Value.builtin "list.index") _) _ _ _)); (first | walk1 | (dsimp only; walk1)))))
    · rename_i D ws hh hI hC hL l1 h' F' N'
      have hlo : loose = true := by assumption
      subst hlo
      have hlen3 := h3.length
      have hlen4 := hI.length
      obtain ⟨hs, hne⟩ := ls14_go (by assumption : ns'.take 1 = [14])
      have : 0 < ns'.length := List.length_pos_iff.mpr hne
      simp at hlen4
      refine step3 (news₂ := [(D, W.listOf ws.toArray 0), (l₀, W.listOf its₀.toArray n₀)]) ws.length F' N' (sub2 (by k_mem) (by k_mem)) (by omega) ⟨D, ws, _, 0, rfl, rfl, hI, rfl, by simp; omega, ?_⟩
      show (if true = true then ls14 ns else ns) = (if true = true then ls14 _ else _)
      rw [h7, if_pos rfl, if_pos rfl]; exact hs
    · have hlo : loose = true := by assumption
      subst hlo
      rw [if_pos rfl, if_pos rfl, ls14_stop (by assumption : ¬ ns'.take 1 = [14])] at h7
      exact exit_at (news₂ := [(l, W.listOf its.toArray n), (l₀, W.listOf its₀.toArray n₀)]) (by assumption) (by assumption) (sub2 (by k_mem) (by k_mem)) ⟨l, its, n, rfl, rfl, by rw [if_pos rfl, h7]; exact h3, by rw [if_pos rfl, h7]; exact h5⟩
    · have hlo : loose = false := by assumption
      subst hlo
      simp only [Bool.false_eq_true, if_false] at h7
      subst h7
      exact exit_at (news₂ := [(l, W.listOf its.toArray n), (l₀, W.listOf its₀.toArray n₀)]) (by assumption) (by assumption) (sub2 (by k_mem) (by k_mem)) ⟨l, its, n, rfl, rfl, h3, h5⟩
  have hsp : numSpec ns₀ loose = numBody (if loose then ls14 ns else ns) := by unfold numSpec; rw [hns]
  rw [hsp]
  have hsub : ∀ x ∈ (if loose then ls14 ns else ns), 0 ≤ x := by
    intro x hx
    refine hge x (rs14_sub (hns ▸ ?_))
    split at hx
    · exact List.dropWhile_sublist _ |>.subset hx
    · exact hx
  revert hsub
  generalize (if loose then ls14 ns else ns) = rs
  intro hsub
  clear F N
  rintro h₃ tk₃ m₃ news₃ F N ⟨l, its, n, e1, _, h3, h5⟩
  replace F := Fr.setL F [(Str.ofString "run", .ref l)] (fcC e1 fcN)
  (repeat' (first | ((fail_if_success (with_reducible show wpAny _ _ (exec (Stmt.While _ _ _ _) _) _ _ _)); (fail_if_success (with_reducible show wpAny _ _ (exec (Stmt.For _ _ _ _ _) _) _ _ _)); (fail_if_success (with_reducible show wpAny _ _ (exec (Stmt.If _ _ _ _) _) _ _ _)); (fail_if_success (with_reducible show wpAny _ _ (pyIter (Value.ref _)) _ _ _)); (fail_if_success (with_reducible show wpAny _ _ (call (Value.ref _) _) _ _ _)); (fail_if_success (with_reducible show wpAny _ _ (compareOp CmpOp.NotIn _ _) _ _ _)); (fail_if_success (with_reducible show wpAny _ _ (call (Value.builtin "list.index") _) _ _ _)); (first | walk1 | (dsimp only; walk1)))))
  have hl3 := h3.length
  by_cases hne : rs = []
  · subst hne
    walk1
    (repeat' (first | ((fail_if_success (with_reducible show wpAny _ _ (exec (Stmt.While _ _ _ _) _) _ _ _)); (fail_if_success (with_reducible show wpAny _ _ (exec (Stmt.For _ _ _ _ _) _) _ _ _)); (fail_if_success (with_reducible show wpAny _ _ (exec (Stmt.If _ _ _ _) _) _ _ _)); (fail_if_success (with_reducible show wpAny _ _ (pyIter (Value.ref _)) _ _ _)); (fail_if_success (with_reducible show wpAny _ _ (call (Value.ref _) _) _ _ _)); (fail_if_success (with_reducible show wpAny _ _ (compareOp CmpOp.NotIn _ _) _ _ _)); (fail_if_success (with_reducible show wpAny _ _ (call (Value.builtin "list.index") _) _ _ _)); (first | walk1 | (dsimp only; walk1)))))
    exact ⟨_, _, _, rfl, rfl, K0 (by assumption) (News.get (o := W.listOf its₀.toArray n₀) (by assumption) (by k_mem)), rfl⟩
  · have hpos : 0 < rs.length := List.length_pos_iff.mpr hne
    have hlast : (-1 + (rs.length : Int)).toNat = rs.length - 1 := by omega
    walk1
    (repeat' (first | ((fail_if_success (with_reducible show wpAny _ _ (exec (Stmt.While _ _ _ _) _) _ _ _)); (fail_if_success (with_reducible show wpAny _ _ (exec (Stmt.For _ _ _ _ _) _) _ _ _)); (fail_if_success (with_reducible show wpAny _ _ (exec (Stmt.If _ _ _ _) _) _ _ _)); (fail_if_success (with_reducible show wpAny _ _ (pyIter (Value.ref _)) _ _ _)); (fail_if_success (with_reducible show wpAny _ _ (call (Value.ref _) _) _ _ _)); (fail_if_success (with_reducible show wpAny _ _ (compareOp CmpOp.NotIn _ _) _ _ _)); (fail_if_success (with_reducible show wpAny _ _ (call (Value.builtin "list.index") _) _ _ _)); (first | walk1 | (dsimp only; walk1)))))
    · refine ⟨_, _, _, rfl, rfl, K0 (by assumption) (News.get (o := W.listOf its₀.toArray n₀) (by assumption) (by k_mem)), ?_⟩
      rw [numBody, if_pos (.inr (.inl (by assumption)))]; exact rfl
    · refine ⟨_, _, _, rfl, rfl, K0 (by assumption) (News.get (o := W.listOf its₀.toArray n₀) (by assumption) (by k_mem)), ?_⟩
      rw [numBody, if_pos (.inr (.inr (by rw [← hlast]; assumption)))]; exact rfl
    · rename_i _ hA _ hB _ _ _
      rw [hlast] at hB
      have hbody : numBody rs = numGo rs 0 0 := by rw [numBody, if_neg]; rintro (h | h | h); exact hne h; exact hA h; exact hB h
      rw [hbody]
      refine For_invVF (by assumption) rfl rfl ?_
      (repeat' (first | ((fail_if_success (with_reducible show wpAny _ _ (exec (Stmt.While _ _ _ _) _) _ _ _)); (fail_if_success (with_reducible show wpAny _ _ (exec (Stmt.For _ _ _ _ _) _) _ _ _)); (fail_if_success (with_reducible show wpAny _ _ (exec (Stmt.If _ _ _ _) _) _ _ _)); (fail_if_success (with_reducible show wpAny _ _ (pyIter (Value.ref _)) _ _ _)); (fail_if_success (with_reducible show wpAny _ _ (call (Value.ref _) _) _ _ _)); (fail_if_success (with_reducible show wpAny _ _ (compareOp CmpOp.NotIn _ _) _ _ _)); (fail_if_success (with_reducible show wpAny _ _ (call (Value.builtin "list.index") _) _ _ _)); (first | walk1 | (dsimp only; walk1)))))
      refine rangeX (n := rs.length) (fun i m news => ∃ (v : Int) (tv : Tok), m (Str.ofString "run") = some (.ref l) ∧ m (Str.ofString "value") = some (.int v tv) ∧ news = [(l, W.listOf its.toArray n), (l₀, W.listOf its₀.toArray n₀)] ∧ 0 ≤ v ∧ v < 10 ^ i ∧ numGo rs 0 0 = numGo (rs.drop i) (if i = 0 then 0 else rs.getD (i - 1) 0) v)
        rfl (by assumption) (small0 (by omega)) rfl (by assumption) (News.drop (news := [(l, W.listOf its.toArray n), (l₀, W.listOf its₀.toArray n₀)]) (by assumption) (sub2 (by k_mem) (by k_mem))) ?_ ?_ ?_
      · exact ⟨0, _, rfl, rfl, rfl, by decide, by decide, by simp⟩
      · rintro i ti m₄ news₄ h₄ tk₄ own hi' _ ho ⟨v, tv, e1, e2, rfl, hv0, hv1, hg⟩ F N
        replace F := Fr.setL F [(Str.ofString "k", .int (i : Int) ti), (Str.ofString "run", .ref l), (Str.ofString "value", .int v tv)] (by intro p hp; simp only [List.mem_cons, List.not_mem_nil, or_false] at hp; rcases hp with rfl | rfl | rfl; exact rfl; exact e1; exact e2)
        have hv2 : v < 10 ^ 20 := Int.lt_of_lt_of_le hv1 (pow10_le (by omega))
        have hdrop : rs.drop i = rs.getD i 0 :: rs.drop (i + 1) := by
          rw [List.drop_eq_getElem_cons hi']; simp [hi']
        rw [hdrop] at hg
        have hnn : (↑i : Int).toNat = i := by omega
        have hmem : 0 ≤ rs.getD i 0 := hsub _ (by simp [hi'])
        have hp10 : (10 : Int) ^ (i + 1) = 10 * 10 ^ i := by rw [Int.pow_succ, Int.mul_comm]
        (repeat' (first | ((fail_if_success (with_reducible show wpAny _ _ (exec (Stmt.While _ _ _ _) _) _ _ _)); (fail_if_success (with_reducible show wpAny _ _ (exec (Stmt.For _ _ _ _ _) _) _ _ _)); (fail_if_success (with_reducible show wpAny _ _ (exec (Stmt.If _ _ _ _) _) _ _ _)); (fail_if_success (with_reducible show wpAny _ _ (pyIter (Value.ref _)) _ _ _)); (fail_if_success (with_reducible show wpAny _ _ (call (Value.ref _) _) _ _ _)); (fail_if_success (with_reducible show wpAny _ _ (compareOp CmpOp.NotIn _ _) _ _ _)); (fail_if_success (with_reducible show wpAny _ _ (call (Value.builtin "list.index") _) _ _ _)); (first | walk1 | (dsimp only; walk1)))))
        walk1
        (repeat' (first | ((fail_if_success (with_reducible show wpAny _ _ (exec (Stmt.While _ _ _ _) _) _ _ _)); (fail_if_success (with_reducible show wpAny _ _ (exec (Stmt.For _ _ _ _ _) _) _ _ _)); (fail_if_success (with_reducible show wpAny _ _ (exec (Stmt.If _ _ _ _) _) _ _ _)); (fail_if_success (with_reducible show wpAny _ _ (pyIter (Value.ref _)) _ _ _)); (fail_if_success (with_reducible show wpAny _ _ (call (Value.ref _) _) _ _ _)); (fail_if_success (with_reducible show wpAny _ _ (compareOp CmpOp.NotIn _ _) _ _ _)); (fail_if_success (with_reducible show wpAny _ _ (call (Value.builtin "list.index") _) _ _ _)); (first | walk1 | (dsimp only; walk1)))))
        · rename_i hlt _ _ F' N'
          rw [hnn] at hlt F'
          refine endN [(l, W.listOf its.toArray n), (l₀, W.listOf its₀.toArray n₀)] F' N' (by simp) (fun p hp => List.mem_append_right _ hp) rfl ⟨_, _, rfl, rfl, rfl, ?_, ?_, ?_⟩
          · omega
          · omega
          · rw [hg, numGo, if_pos hlt]; simp
        · have hlt : ¬ rs.getD ((i : Int)).toNat 0 < 10 := by assumption
          rw [hnn] at hlt
          have hi0 : 1 ≤ i := by
            rcases Nat.eq_zero_or_pos i with e | e
            · subst e; exact absurd (show rs.getD 0 0 < 10 by have : ¬ 9 < rs.getD 0 0 := hA; omega) hlt
            · exact e
          walk1
          iterate 8 walk1
          by_cases h13 : rs.getD i 0 = 13
          · have e13 : (rs.getD ((i : Int)).toNat 0 != 13) = false := by rw [hnn, h13]; rfl
            rw [e13]
            iterate 12 walk1
            have hnm : ((i : Int) - 1).toNat = i - 1 := by omega
            rw [hnm]
            iterate 3 walk1
            · rename_i h9
              iterate 5 walk1
              refine ⟨_, _, _, rfl, rfl, K0 F (News.get (o := W.listOf its₀.toArray n₀) N (by k_mem)), ?_⟩
              rw [hg, numGo, if_neg hlt, if_neg (by rintro ⟨_, h⟩; rw [if_neg (by omega)] at h; omega)]; exact rfl
            · rename_i h9
              iterate 4 walk1
              refine wpAny_execs_nil (wpAny_execs_nil ?_)
              refine stepN [(l, W.listOf its.toArray n), (l₀, W.listOf its₀.toArray n₀)] F N (by simp) (fun p hp => List.mem_append_right _ hp) rfl ⟨v, tv, rfl, rfl, rfl, hv0, by omega, ?_⟩
              rw [hg, numGo, if_neg hlt, if_pos ⟨h13, by rw [if_neg (by omega)]; omega⟩]; simp
          · have e13 : (rs.getD ((i : Int)).toNat 0 != 13) = true := by rw [hnn]; simpa using h13
            rw [e13]
            iterate 3 walk1
            iterate 3 walk1
            walk1
            refine ⟨_, _, _, rfl, rfl, K0 F (News.get (o := W.listOf its₀.toArray n₀) N (by k_mem)), ?_⟩
            rw [hg, numGo, if_neg hlt, if_neg (fun h => h13 h.1)]; exact rfl
      · rintro m₄ news₄ h₄ tk₄ ⟨v, tv, e1, e2, rfl, hv0, hv1, hg⟩ F N
        replace F := Fr.setL F [(Str.ofString "run", .ref l), (Str.ofString "value", .int v tv)] (fcC e1 (fcC e2 fcN))
        iterate 3 walk1
        refine ⟨_, _, _, rfl, rfl, K0 F (News.get (o := W.listOf its₀.toArray n₀) N (by k_mem)), ?_⟩
        rw [hg]; simp [numGo]; exact ⟨tv, rfl⟩
end Mine
end

section  -- B4
open PySem PySem.W PySem.Calls PyProof.Rows
set_option maxRecDepth 100000
set_option maxHeartbeats 8000000
namespace Mine

noncomputable abbrev sgn (run : List Int) : Prop := run.take 1 = [10] ∨ run.take 1 = [11]
/-- back from the lowest figure to the next 10 or 11 -/
noncomputable def dueRun (n : Nat) (run : List Int) : List Int := if _h : 0 < n ∧ ¬ sgn run then dueRun (n / 16) (((n % 16 : Nat) : Int) :: run) else run
termination_by n
decreasing_by omega
theorem dueRun_go {n : Nat} {run : List Int} (h : 0 < n ∧ ¬ sgn run) : dueRun n run = dueRun (n / 16) (((n % 16 : Nat) : Int) :: run) := by rw [dueRun, dif_pos h]
theorem dueRun_stop {n : Nat} {run : List Int} (h : ¬ (0 < n ∧ ¬ sgn run)) : dueRun n run = run := by rw [dueRun, dif_neg h]

noncomputable def dueOf (run : List Int) : Option (Int × Int) :=
  if sgn run ∧ run.count 12 = 1 then
    match numSpec ((run.drop 1).take (run.idxOf 12 - 1)) false, numSpec (run.drop (run.idxOf 12 + 1)) true with
    | some a, some b => some (if run.getD 0 0 = 10 then a else -a, b)
    | _, _ => none
  else none
noncomputable def dueSpec (n : Nat) : Option (Int × Int) := dueOf (dueRun n [])
/-- None, or a pair that the call has made -/
noncomputable def IsPl (h : Heap) (v : Value) (h' : Heap) : Option (Int × Int) → Prop
  | none => v = .none
  | some (a, b) => ∃ p t u, v = .ref p ∧ h.get? p = none ∧ h'.get? p = some (tupOf #[.int a t, .int b u])
theorem due_bound {k len : Nat} (hk : 0 < k) (h : k * 16 ^ len < 16 ^ 18) : k / 16 * 16 ^ (len + 1) < 16 ^ 18 ∧ len + 1 ≤ 18 := by
  constructor
  · refine Nat.lt_of_le_of_lt ?_ h
    rw [Nat.pow_succ, Nat.mul_comm (16 ^ len) 16, ← Nat.mul_assoc]
    exact Nat.mul_le_mul_right _ (Nat.div_mul_le_self k 16)
  · refine Nat.lt_of_not_le fun q => ?_
    have h1 : 16 ^ 18 ≤ 16 ^ len := Nat.pow_le_pow_right (by decide) q
    have h2 : 16 ^ len ≤ k * 16 ^ len := Nat.le_mul_of_pos_left _ hk
    exact Nat.lt_irrefl _ (Nat.lt_of_lt_of_le h (Nat.le_trans h1 h2))

/-- between two turns -/
inductive DueJ (n : Int) (j : Nat) (m : Str → Option Value) : List (Addr × Obj) → Prop
  | mk (k : Int) (t : Tok) (l : Addr) (its : List Value) (ns : List Int) (nn : Nat) : m (Str.ofString "number") = some (.int k t) → m (Str.ofString "run") = some (.ref l) → IntsAre its ns → j = k.toNat → 0 ≤ k → Hid (k.toNat * 16 ^ ns.length < 16 ^ 18) → (∀ x ∈ ns, 0 ≤ x ∧ x < 16) → dueRun n.toNat [] = dueRun k.toNat ns → ns.length ≤ 18 →
    DueJ n j m [(l, W.listOf its.toArray nn)]
/-- behind them -/
inductive DueX (rs : List Int) (m : Str → Option Value) : List (Addr × Obj) → Prop
  | mk (l : Addr) (its : List Value) (nn : Nat) : m (Str.ofString "run") = some (.ref l) → IntsAre its rs → rs.length ≤ 18 → (∀ x ∈ rs, 0 ≤ x ∧ x < 16) → DueX rs m [(l, W.listOf its.toArray nn)]
theorem sub1 {α : Type} {a : α} {l : List α} (h1 : a ∈ l) : ∀ p ∈ [a], p ∈ l := List.forall_mem_cons.mpr ⟨h1, List.forall_mem_nil _⟩
theorem due_c {w : World} {dp un : Nat} {fr : Option (List Env)} {gd : Option (List Code)} {s : Shared} {n : Int} {t : Tok} (G : GI w s.heap) (hroom : dp + 1 < recursionLimit) (hn : 0 ≤ n) (hn2 : Hid (n.toNat < 16 ^ 18)) (hu : un + 300 < cLine) :
    codeAny (model PR w) (AR dp un fr gd) (.call (.ref 68) ⟨[.int n t], []⟩) (Back s fun v h' => IsPl s.heap v h' (dueSpec n.toNat)) s := by
  refine enterF (binds := [(Str.ofString "number", .int n t)]) G (by exact rfl) (by exact rfl) (by show dp < _; omega) (BindsTo.of_eq (by exact rfl)) (locs rfl) ?_ rfl rfl rfl (by decide)
  intro L h₁ F N
  refine wpAny_noRaise ?_
  have X := G.K
  obtain ⟨mg, mb, TT⟩ := G.T
  w_on
  have : (fun P : Params => hd.heap_39 P) = hd.heap_39 ∧ PySem.Challenge.rw_pg0028_01 = PySem.Challenge.rw_pg0028_01 := by k_fill; exact ⟨rfl, rfl⟩
  clear this
  (repeat' (first | ((fail_if_success (with_reducible show wpAny _ _ (exec (Stmt.While _ _ _ _) _) _ _ _)); (fail_if_success (with_reducible show wpAny _ _ (exec (Stmt.For _ _ _ _ _) _) _ _ _)); (fail_if_success (with_reducible show wpAny _ _ (exec (Stmt.If _ _ _ _) _) _ _ _)); (fail_if_success (with_reducible show wpAny _ _ (pyIter (Value.ref _)) _ _ _)); (fail_if_success (with_reducible show wpAny _ _ (call (Value.ref _) _) _ _ _)); (fail_if_success (with_reducible show wpAny _ _ (compareOp CmpOp.NotIn _ _) _ _ _)); (fail_if_success (with_reducible show wpAny _ _ (call (Value.builtin "list.index") _) _ _ _)); (first | walk1 | (dsimp only; walk1)))))
  refine whileX (DueJ n) (DueX (dueRun n.toNat []))
      n.toNat (by assumption) (by assumption) ?_ ?_ ?_
  · exact ⟨n, _, _, [], [], 0, rfl, rfl, .nil, rfl, hn, ⟨by simpa using hn2.out⟩, by simp, rfl, by simp⟩
  · rintro j m₁ news₁ h₂ tk₁ F N ⟨k, tk, l, its, ns, nn, e1, e2, h3, rfl, h4, hsz, hin, h6, h5⟩
    replace F := Fr.setL F [(Str.ofString "number", .int k tk), (Str.ofString "run", .ref l)] (fcC e1 (fcC e2 fcN))
    (repeat' (first | ((fail_if_success (with_reducible show wpAny _ _ (exec (Stmt.While _ _ _ _) _) _ _ _)); (fail_if_success (with_reducible show wpAny _ _ (exec (Stmt.For _ _ _ _ _) _) _ _ _)); (fail_if_success (with_reducible show wpAny _ _ (exec (Stmt.If _ _ _ _) _) _ _ _)); (fail_if_success (with_reducible show wpAny _ _ (pyIter (Value.ref _)) _ _ _)); (fail_if_success (with_reducible show wpAny _ _ (call (Value.ref _) _) _ _ _)); (fail_if_success (with_reducible show wpAny _ _ (compareOp CmpOp.NotIn _ _) _ _ _)); (fail_if_success (with_reducible show wpAny _ _ (call (Value.builtin "list.index") _) _ _ _)); (first | walk1 | (dsimp only; walk1)))))
    · rename_i l1 D hh F' N' lt
      refine notIn2 (News.get N' (by k_mem)) (by assumption) (News.get N' (.head _)) (News.get N' (by k_mem)) (.cons _ _ .nil) (News.get N' (by k_mem)) (.cons _ _ .nil) (by units_room) ?_
      by_cases hs : sgn ns
      · have e : (!(decide ([10] = List.take 1 ns) || decide ([11] = List.take 1 ns))) = false := by
          unfold sgn at hs; rcases hs with hs | hs <;> simp [hs]
        rw [e]
        (repeat' (first | ((fail_if_success (with_reducible show wpAny _ _ (exec (Stmt.While _ _ _ _) _) _ _ _)); (fail_if_success (with_reducible show wpAny _ _ (exec (Stmt.For _ _ _ _ _) _) _ _ _)); (fail_if_success (with_reducible show wpAny _ _ (exec (Stmt.If _ _ _ _) _) _ _ _)); (fail_if_success (with_reducible show wpAny _ _ (pyIter (Value.ref _)) _ _ _)); (fail_if_success (with_reducible show wpAny _ _ (call (Value.ref _) _) _ _ _)); (fail_if_success (with_reducible show wpAny _ _ (compareOp CmpOp.NotIn _ _) _ _ _)); (fail_if_success (with_reducible show wpAny _ _ (call (Value.builtin "list.index") _) _ _ _)); (first | walk1 | (dsimp only; walk1)))))
        rw [dueRun_stop (n := k.toNat) (run := ns) (fun h => h.2 hs)] at h6
        rw [← h6] at h3 h5 hin
        exact exit_at (news₂ := [(l, W.listOf its.toArray nn)]) F' N' (sub1 (by k_mem)) ⟨l, its, nn, rfl, h3, h5, hin⟩
      · have e : (!(decide ([10] = List.take 1 ns) || decide ([11] = List.take 1 ns))) = true := by
          unfold sgn at hs
          have h1 : ¬ [10] = List.take 1 ns := fun h => hs (.inl h.symm)
          have h2 : ¬ [11] = List.take 1 ns := fun h => hs (.inr h.symm)
          rw [decide_eq_false h1, decide_eq_false h2]; rfl
        rw [e]
        (repeat' (first | ((fail_if_success (with_reducible show wpAny _ _ (exec (Stmt.While _ _ _ _) _) _ _ _)); (fail_if_success (with_reducible show wpAny _ _ (exec (Stmt.For _ _ _ _ _) _) _ _ _)); (fail_if_success (with_reducible show wpAny _ _ (exec (Stmt.If _ _ _ _) _) _ _ _)); (fail_if_success (with_reducible show wpAny _ _ (pyIter (Value.ref _)) _ _ _)); (fail_if_success (with_reducible show wpAny _ _ (call (Value.ref _) _) _ _ _)); (fail_if_success (with_reducible show wpAny _ _ (compareOp CmpOp.NotIn _ _) _ _ _)); (fail_if_success (with_reducible show wpAny _ _ (call (Value.builtin "list.index") _) _ _ _)); (first | walk1 | (dsimp only; walk1)))))
        rename_i _ _ _ D2 ws2 _ hI2 _ _ _ F' N'
        obtain ⟨d1, d2, d3⟩ := toNat_fdiv16 h4
        have hk0 : 0 < k := by assumption
        obtain ⟨b1, b2⟩ := due_bound (k := k.toNat) (by omega) hsz.out
        refine step3 (news₂ := [(D2, W.listOf ws2.toArray 0)]) (k.fdiv 16).toNat F' N' (sub1 (by k_mem)) (by omega) ⟨k.fdiv 16, _, D2, ws2, k.fmod 16 :: ns, 0, rfl, rfl, hI2, rfl, d3, ⟨by rw [d1]; exact b1⟩, ?_, ?_, b2⟩
        · intro x hx
          rcases List.mem_cons.mp hx with rfl | hx
          · omega
          · exact hin x hx
        · rw [h6, dueRun_go ⟨by omega, hs⟩, d1, d2]
    · rw [dueRun_stop (n := k.toNat) (run := ns) (fun h => by have := h.1; omega)] at h6
      rw [← h6] at h3 h5 hin
      exact exit_at (news₂ := [(l, W.listOf its.toArray nn)]) F N (sub1 (by k_mem)) ⟨l, its, nn, rfl, h3, h5, hin⟩
  unfold dueSpec
  generalize hr : dueRun n.toNat [] = rs
  rintro h₂ tk₂ m₂ news₂ F N ⟨l, its, nn, e1, h3, h5, hin⟩
  replace F := Fr.setL F [(Str.ofString "run", .ref l)] (fcC e1 fcN)
  (repeat' (first | ((fail_if_success (with_reducible show wpAny _ _ (exec (Stmt.While _ _ _ _) _) _ _ _)); (fail_if_success (with_reducible show wpAny _ _ (exec (Stmt.For _ _ _ _ _) _) _ _ _)); (fail_if_success (with_reducible show wpAny _ _ (exec (Stmt.If _ _ _ _) _) _ _ _)); (fail_if_success (with_reducible show wpAny _ _ (pyIter (Value.ref _)) _ _ _)); (fail_if_success (with_reducible show wpAny _ _ (call (Value.ref _) _) _ _ _)); (fail_if_success (with_reducible show wpAny _ _ (compareOp CmpOp.NotIn _ _) _ _ _)); (fail_if_success (with_reducible show wpAny _ _ (call (Value.builtin "list.index") _) _ _ _)); (first | walk1 | (dsimp only; walk1)))))
  walk1
  (repeat' (first | ((fail_if_success (with_reducible show wpAny _ _ (exec (Stmt.While _ _ _ _) _) _ _ _)); (fail_if_success (with_reducible show wpAny _ _ (exec (Stmt.For _ _ _ _ _) _) _ _ _)); (fail_if_success (with_reducible show wpAny _ _ (exec (Stmt.If _ _ _ _) _) _ _ _)); (fail_if_success (with_reducible show wpAny _ _ (pyIter (Value.ref _)) _ _ _)); (fail_if_success (with_reducible show wpAny _ _ (call (Value.ref _) _) _ _ _)); (fail_if_success (with_reducible show wpAny _ _ (compareOp CmpOp.NotIn _ _) _ _ _)); (fail_if_success (with_reducible show wpAny _ _ (call (Value.builtin "list.index") _) _ _ _)); (first | walk1 | (dsimp only; walk1)))))
  rename_i Da wsa ha hIa hCa hLa la lb hb lb1 lc hc1 l1 D hh F' N' lt
  refine notIn2 (News.get N' (by k_mem)) (by assumption) (News.get N' (.head _)) (News.get N' (by k_mem)) (.cons _ _ .nil) (News.get N' (by k_mem)) (.cons _ _ .nil) (by units_room) ?_
  clear hCa hLa la lb1 l1 lt hIa
  by_cases hs : sgn rs
  · have e : (!(decide ([10] = List.take 1 rs) || decide ([11] = List.take 1 rs))) = false := by
      unfold sgn at hs; rcases hs with hs | hs <;> simp [hs]
    rw [e]
    clear e
    replace N' := News.one N' (a := l) (by k_mem)
    (repeat' (first | ((fail_if_success (with_reducible show wpAny _ _ (exec (Stmt.While _ _ _ _) _) _ _ _)); (fail_if_success (with_reducible show wpAny _ _ (exec (Stmt.For _ _ _ _ _) _) _ _ _)); (fail_if_success (with_reducible show wpAny _ _ (exec (Stmt.If _ _ _ _) _) _ _ _)); (fail_if_success (with_reducible show wpAny _ _ (pyIter (Value.ref _)) _ _ _)); (fail_if_success (with_reducible show wpAny _ _ (call (Value.ref _) _) _ _ _)); (fail_if_success (with_reducible show wpAny _ _ (compareOp CmpOp.NotIn _ _) _ _ _)); (fail_if_success (with_reducible show wpAny _ _ (call (Value.builtin "list.index") _) _ _ _)); (first | walk1 | (dsimp only; walk1)))))
    · refine ⟨_, _, _, rfl, rfl, F'.keep, ?_⟩
      rw [dueOf, if_neg (by rintro ⟨_, h⟩; omega)]; exact rfl
    · have hc : (List.count 12 rs : Int) = 1 := by assumption
      have hmem : (12 : Int) ∈ rs := List.count_pos_iff.mp (by omega)
      have hlt := List.idxOf_lt_length_iff.mpr hmem
      refine index_list_ints (isList_of (News.get N' (.head _))) h3 (layable_small hin (by omega)) hmem ?_
      generalize hdot : List.idxOf 12 rs = dot at *
      have hc' := Hid.mk hc
      have hs' := Hid.mk hs
      clear hc hs
      rename_i hcc _
      clear hcc
      (repeat' (first | ((fail_if_success (with_reducible show wpAny _ _ (exec (Stmt.While _ _ _ _) _) _ _ _)); (fail_if_success (with_reducible show wpAny _ _ (exec (Stmt.For _ _ _ _ _) _) _ _ _)); (fail_if_success (with_reducible show wpAny _ _ (exec (Stmt.If _ _ _ _) _) _ _ _)); (fail_if_success (with_reducible show wpAny _ _ (pyIter (Value.ref _)) _ _ _)); (fail_if_success (with_reducible show wpAny _ _ (call (Value.ref _) _) _ _ _)); (fail_if_success (with_reducible show wpAny _ _ (compareOp CmpOp.NotIn _ _) _ _ _)); (fail_if_success (with_reducible show wpAny _ _ (call (Value.builtin "list.index") _) _ _ _)); (first | walk1 | (dsimp only; walk1)))))
      rename_i D1 ws1 hh1 F1 N1 hI1 hC1 hL1 lt1
      clear hC1 hL1 lt1
      have e1' : (min ((dot : Int)).toNat rs.length - 1) = dot - 1 := by rw [Int.toNat_natCast, Nat.min_eq_left (Nat.le_of_lt (by assumption))]
      rw [e1'] at hI1
      refine useB (num_c (dp := dp + 1) (un := un + 3) (G.keeps F1.keep) (by show dp + 1 < _; omega) (News.get N1 (.head _)) hI1 (by simp; omega) (fun x hx => (hin x (List.drop_subset _ _ (List.take_subset _ _ hx))).1) (by omega)) F1 N1 ?_
      intro v1 h4 tk4 k4 F4 N4 hv1
      replace hv1 := Hid.mk hv1
      replace hI1 := Hid.mk hI1
      clear k4 F1 hI1
      dsimp only
      iterate 15 walk1
      have hz : its.toArray.size ≤ sizeLine := by have := h3.length; simp [sizeLine_eq]; omega
      refine kmk_slice_ints (s := ⟨_, _, _, _, _⟩) F4 N4 (isList_of (News.get N4 (by k_mem))) (.int _ _) .none h3 (kmk_from h3 (by omega)) rfl ?_ (by with_unfolding_all rfl) (by intro _; with_unfolding_all rfl) hz
      intro D2 ws2 h5' F2 N2 _ hI2 _ _
      have e2' : ((dot : Int) + 1).toNat = dot + 1 := by omega
      rw [e2'] at hI2
      dsimp only
      (repeat' (first | ((fail_if_success (with_reducible show wpAny _ _ (exec (Stmt.While _ _ _ _) _) _ _ _)); (fail_if_success (with_reducible show wpAny _ _ (exec (Stmt.For _ _ _ _ _) _) _ _ _)); (fail_if_success (with_reducible show wpAny _ _ (exec (Stmt.If _ _ _ _) _) _ _ _)); (fail_if_success (with_reducible show wpAny _ _ (pyIter (Value.ref _)) _ _ _)); (fail_if_success (with_reducible show wpAny _ _ (call (Value.ref _) _) _ _ _)); (fail_if_success (with_reducible show wpAny _ _ (compareOp CmpOp.NotIn _ _) _ _ _)); (fail_if_success (with_reducible show wpAny _ _ (call (Value.builtin "list.index") _) _ _ _)); (first | walk1 | (dsimp only; walk1)))))
      refine useB (num_c (dp := dp + 1) (un := un + 3) (G.keeps F2.keep) (by show dp + 1 < _; omega) (News.get N2 (.head _)) hI2 (by simp; omega) (fun x hx => (hin x (List.drop_subset _ _ hx)).1) (by omega)) F2 N2 ?_
      intro v2 h6 tk6 k6 F6 N6 hv2
      replace hv2 := Hid.mk hv2
      clear k6 F2
      replace N6 := News.one N6 (a := l) (by k_mem)
      dsimp only
      (repeat' (first | ((fail_if_success (with_reducible show wpAny _ _ (exec (Stmt.While _ _ _ _) _) _ _ _)); (fail_if_success (with_reducible show wpAny _ _ (exec (Stmt.For _ _ _ _ _) _) _ _ _)); (fail_if_success (with_reducible show wpAny _ _ (exec (Stmt.If _ _ _ _) _) _ _ _)); (fail_if_success (with_reducible show wpAny _ _ (pyIter (Value.ref _)) _ _ _)); (fail_if_success (with_reducible show wpAny _ _ (call (Value.ref _) _) _ _ _)); (fail_if_success (with_reducible show wpAny _ _ (compareOp CmpOp.NotIn _ _) _ _ _)); (fail_if_success (with_reducible show wpAny _ _ (call (Value.builtin "list.index") _) _ _ _)); (first | walk1 | (dsimp only; walk1)))))
      have hq : dueOf rs = match numSpec ((rs.drop 1).take (dot - 1)) false, numSpec (rs.drop (dot + 1)) true with
          | some a, some b => some (if rs.getD 0 0 = 10 then a else -a, b)
          | _, _ => none := by
        rw [dueOf, if_pos ⟨hs'.out, by have := hc'.out; omega⟩, hdot]
      rw [hq]
      have q1 := hv1.out
      have q2 := hv2.out
      cases hq1 : numSpec ((rs.drop 1).take (dot - 1)) false with
      | none =>
        rw [hq1] at q1
        have q1' : v1 = .none := q1
        subst q1'
        walk1
        (repeat' (first | ((fail_if_success (with_reducible show wpAny _ _ (exec (Stmt.While _ _ _ _) _) _ _ _)); (fail_if_success (with_reducible show wpAny _ _ (exec (Stmt.For _ _ _ _ _) _) _ _ _)); (fail_if_success (with_reducible show wpAny _ _ (exec (Stmt.If _ _ _ _) _) _ _ _)); (fail_if_success (with_reducible show wpAny _ _ (pyIter (Value.ref _)) _ _ _)); (fail_if_success (with_reducible show wpAny _ _ (call (Value.ref _) _) _ _ _)); (fail_if_success (with_reducible show wpAny _ _ (compareOp CmpOp.NotIn _ _) _ _ _)); (fail_if_success (with_reducible show wpAny _ _ (call (Value.builtin "list.index") _) _ _ _)); (first | walk1 | (dsimp only; walk1)))))
        rename_i F' N'
        exact ⟨_, _, _, rfl, rfl, F'.keep, rfl⟩
      | some a =>
        rw [hq1] at q1
        obtain ⟨t1, q1'⟩ : ∃ t, v1 = .int a t := q1
        subst q1'
        cases hq2 : numSpec (rs.drop (dot + 1)) true with
        | none =>
          rw [hq2] at q2
          have q2' : v2 = .none := q2
          subst q2'
          walk1
          (repeat' (first | ((fail_if_success (with_reducible show wpAny _ _ (exec (Stmt.While _ _ _ _) _) _ _ _)); (fail_if_success (with_reducible show wpAny _ _ (exec (Stmt.For _ _ _ _ _) _) _ _ _)); (fail_if_success (with_reducible show wpAny _ _ (exec (Stmt.If _ _ _ _) _) _ _ _)); (fail_if_success (with_reducible show wpAny _ _ (pyIter (Value.ref _)) _ _ _)); (fail_if_success (with_reducible show wpAny _ _ (call (Value.ref _) _) _ _ _)); (fail_if_success (with_reducible show wpAny _ _ (compareOp CmpOp.NotIn _ _) _ _ _)); (fail_if_success (with_reducible show wpAny _ _ (call (Value.builtin "list.index") _) _ _ _)); (first | walk1 | (dsimp only; walk1)))))
          rename_i F' N'
          exact ⟨_, _, _, rfl, rfl, F'.keep, rfl⟩
        | some b =>
          rw [hq2] at q2
          obtain ⟨t2, q2'⟩ : ∃ t, v2 = .int b t := q2
          subst q2'
          clear hv1 hv2
          walk1
          (repeat' (first | ((fail_if_success (with_reducible show wpAny _ _ (exec (Stmt.While _ _ _ _) _) _ _ _)); (fail_if_success (with_reducible show wpAny _ _ (exec (Stmt.For _ _ _ _ _) _) _ _ _)); (fail_if_success (with_reducible show wpAny _ _ (exec (Stmt.If _ _ _ _) _) _ _ _)); (fail_if_success (with_reducible show wpAny _ _ (pyIter (Value.ref _)) _ _ _)); (fail_if_success (with_reducible show wpAny _ _ (call (Value.ref _) _) _ _ _)); (fail_if_success (with_reducible show wpAny _ _ (compareOp CmpOp.NotIn _ _) _ _ _)); (fail_if_success (with_reducible show wpAny _ _ (call (Value.builtin "list.index") _) _ _ _)); (first | walk1 | (dsimp only; walk1)))))
          · rename_i h10 D2 h' F' N' _
            refine ⟨_, _, _, rfl, rfl, F'.keep, ?_⟩
            have h10' : rs.getD 0 0 = 10 := h10
            rw [if_pos h10']
            exact ⟨D2, _, _, rfl, (N' _ (.head _)).2.2, (N' _ (.head _)).1⟩
          · rename_i h10 D2 h' F' N' _
            refine ⟨_, _, _, rfl, rfl, F'.keep, ?_⟩
            have h10' : ¬ rs.getD 0 0 = 10 := h10
            rw [if_neg h10']
            exact ⟨D2, _, _, rfl, (N' _ (.head _)).2.2, (N' _ (.head _)).1⟩
  · have e : (!(decide ([10] = List.take 1 rs) || decide ([11] = List.take 1 rs))) = true := by
      unfold sgn at hs
      have h1 : ¬ [10] = List.take 1 rs := fun h => hs (.inl h.symm)
      have h2 : ¬ [11] = List.take 1 rs := fun h => hs (.inr h.symm)
      rw [decide_eq_false h1, decide_eq_false h2]; rfl
    rw [e]
    (repeat' (first | ((fail_if_success (with_reducible show wpAny _ _ (exec (Stmt.While _ _ _ _) _) _ _ _)); (fail_if_success (with_reducible show wpAny _ _ (exec (Stmt.For _ _ _ _ _) _) _ _ _)); (fail_if_success (with_reducible show wpAny _ _ (exec (Stmt.If _ _ _ _) _) _ _ _)); (fail_if_success (with_reducible show wpAny _ _ (pyIter (Value.ref _)) _ _ _)); (fail_if_success (with_reducible show wpAny _ _ (call (Value.ref _) _) _ _ _)); (fail_if_success (with_reducible show wpAny _ _ (compareOp CmpOp.NotIn _ _) _ _ _)); (fail_if_success (with_reducible show wpAny _ _ (call (Value.builtin "list.index") _) _ _ _)); (first | walk1 | (dsimp only; walk1)))))
    refine ⟨_, _, _, rfl, rfl, F'.keep, ?_⟩
    rw [dueOf, if_neg (fun h => hs h.1)]; exact rfl
end Mine
end

section  -- M1
open PySem PySem.W PySem.Calls PyProof.Rows PySem.NumText
open PySem.Sem (wp)
set_option maxRecDepth 100000
set_option maxHeartbeats 400000
namespace Mine
theorem tc_eq (a : Value) : ∃ k : Value → Sem Fin, Builtin.«type.__call__» ⟨[.type "int", a], []⟩ = (holding [.builtin "int.__new__"] (call (.builtin "int.__new__") [.type "int", a]) >>= k) := by
  have h1 := F.called_int.notType
  have h2 := F.called_int.canCreate
  unfold Builtin.«type.__call__»
  dsimp only
  rw [h1]
  simp only [h2, F.mro_int, F.called_int.made, pure_bind, F.typeCall_int_1, List.isEmpty_cons, Bool.false_eq_true, if_false]
  exact ⟨_, rfl⟩
theorem in_eq (x : Str) (u : Tok) : ∃ k : Value → Sem Fin, Builtin.«int.__new__» ⟨[.type "int", .str x u], []⟩ = ((int_private% "intFromText") (.str x u) (numTextOf x) 10 >>= k) := by
  have f1 := F.conv_sub_int
  have f2 := F.madeHere_int
  unfold Builtin.«int.__new__»
  dsimp only
  simp only [isType, pure_bind, f1, f2, List.isEmpty_cons, Bool.false_eq_true, if_false, Bool.not_true, List.length_cons, List.length_nil]
  simp
  exact ⟨_, rfl⟩

/-- what a tree does in a surrounding whose own code and whose codes below are told -/
noncomputable def wpB {α : Type} (M : Model) (A : Around) (B : List (Code × Pos) → Prop) (c : Code) (t : Sem α) (Q : α → Shared → Prop) (E : Value → Shared → Prop) (s : Shared) : Prop :=
  ∀ Γ p, Γ.code = c → B Γ.below → Γ.In A → wp M Γ t (fun a _ s' => Q a s') (fun e _ s' => E e s') p s
noncomputable def codeB (M : Model) (A : Around) (B : List (Code × Pos) → Prop) (c : Code) (R : Result → Shared → Prop) (s : Shared) : Prop :=
  ∀ Γ p, Γ.code = c → B Γ.below → Γ.Below A → wpCode M Γ R p s
section
variable {α β : Type} {M : Model} {A : Around} {B : List (Code × Pos) → Prop} {c : Code} {E : Value → Shared → Prop} {s : Shared}
theorem wpB_any {t : Sem α} {Q : α → Shared → Prop} (h : wpAny M A t Q E s) : wpB M A B c t Q E s := fun Γ p _ _ hΓ => h Γ p hΓ
theorem wpB_bind {m : Sem α} {f : α → Sem β} {Q : β → Shared → Prop} (h : wpB M A B c m (fun a s' => wpB M A B c (f a) Q E s') E s) :
    wpB M A B c (m >>= f) Q E s := fun Γ p hc hb hΓ => by
  rw [Sem.wp_bind']
  exact Sem.wp_mono M Γ m (fun a p' s' h' => h' Γ p' hc hb hΓ) (fun _ _ _ h' => h') p s (h Γ p hc hb hΓ)
theorem wpB_mono {t : Sem α} {Q Q' : α → Shared → Prop} {E' : Value → Shared → Prop} (h : wpB M A B c t Q E s)
    (hQ : ∀ a s, Q a s → Q' a s) (hE : ∀ e s, E e s → E' e s) : wpB M A B c t Q' E' s :=
  fun Γ p hc hb hΓ => Sem.wp_mono M Γ t (fun a _ s => hQ a s) (fun e _ s => hE e s) p s (h Γ p hc hb hΓ)
theorem wpB_stack {Q : List (Code × Pos) → Shared → Prop} (h : ∀ p below, B below → Q ((c, p) :: below) s) : wpB M A B c stack Q E s := fun Γ p hc hb _ => by
  show Q ((Γ.code, p) :: Γ.below) s
  rw [hc]; exact h p Γ.below hb
theorem wpB_holding {vs : List Value} {m : Sem α} {Q : α → Shared → Prop} (h : wpB M A B c m Q E s) : wpB M A B c (holding vs m) Q E s :=
  fun Γ p hc hb hΓ => by rw [Sem.wp_holding]; exact h Γ p hc hb hΓ
theorem codeB_tree {R : Result → Shared → Prop}
    (h : wpB M (A.under c) B c (M.den c) (fun fin s' => match fin with | .done f => R (.ok f) s' | .again c' => c'.quiet = true ∧ codeB M A B c' R s')
      (fun e s' => R (.error e) s') s) : codeB M A B c R s := fun Γ p hc hb hΓ => by
  rw [wpCode_iff_wp, hc]
  refine Sem.wp_mono M Γ _ (fun fin p' s' h' => ?_) (fun _ _ _ h' => h') p s (h Γ p hc hb (hc ▸ hΓ.in))
  cases fin with
  | done f => exact h'
  | again c' => exact ⟨h'.1, h'.2 (Γ.goto c') p' rfl hb (hΓ.goto c')⟩
/-- one more below -/
noncomputable def On (B : List (Code × Pos) → Prop) (c : Code) (bl : List (Code × Pos)) : Prop := ∃ p r, bl = (c, p) :: r ∧ B r
theorem wpB_call {f : Value} {pos : List Value} {Q : Value → Shared → Prop}
    (hc : codeB M A (On B c) (.call f ⟨pos, []⟩) (fun r s' => match r with | .ok (.ret v) => Q v s' | .ok _ => False | .error e => E e s') s) :
    wpB M A B c (call f pos) Q E s := fun Γ p h1 hb hΓ => by
  show wp M Γ (runValue (.call f ⟨pos, []⟩)) _ _ p s
  rw [Sem.wp_runValue]
  exact hc _ p rfl ⟨p, Γ.below, by rw [← h1]; rfl, hb⟩ (hΓ.enter (.call f ⟨pos, []⟩) none p (by intro x; cases x))
end

theorem mark_off (a3 : Args) {bl r : List (Code × Pos)} {p p2 : Pos} {a2 a1 : Args} (hb : bl = (.builtin "type.__call__" a2, p) :: (.builtin "map.__next__" a1, p2) :: r) (p0 : Pos) :
    pythonCodeMadeTheCall ["int.__new__"] (((Code.builtin "int.__new__" a3, p0) :: bl).map (·.1)) = false := by
  subst hb
  unfold pythonCodeMadeTheCall
  have h : ("map.__next__" == "type.__call__") = false := by decide
  simp [Code.env?, List.takeWhile, h]

section
variable {prog : Program} {w : World} {A : Around} {E : Value → Shared → Prop} {s : Shared} {B : List (Code × Pos) → Prop} {a1 a2 : Args}
noncomputable def badTail (x : Str) (u : Tok) : Sem Value := do
  rule "int.__new__.invalid-literal"
  let shown ← pyRepr (.str x u)
  let l ← mkStr (Str.ofString (toString "invalid literal for int() with base " ++ toString (10 : Nat) ++ toString ": ") ++ ({ cps := shown.cps.extract 0 200 } : Str))
  let refusal ← newExc (.type "ValueError") [l]
  markTheRefusal ["int.__new__"] refusal
  raiseNew refusal
theorem ift_eq {x : Str} {u : Tok} (hl : x.length ≤ 600) (hn : PySem.intText? x = none) : (int_private% "intFromText") (.str x u) (numTextOf x) 10 = badTail x u := by
  have hs : (numSeenOf x).length ≤ 640 := Nat.le_trans (seen_length x) (by omega)
  have e : (int_private% "intFromText") (.str x u) (numTextOf x) 10 = _ := if_pos hs
  rw [e, pure_bind]
  rcases read0 x hs with ⟨n, h1, _⟩ | ⟨_, h | ⟨i, h, h2⟩⟩
  · rw [hn] at h1; cases h1
  · dsimp only; rw [h]; rfl
  · dsimp only; rw [h]
    dsimp only
    rw [if_neg h2]; rfl
theorem str_take {s : Str} : (⟨s.cps.extract 0 200⟩ : Str).length ≤ 200 := by
  show (s.cps.extract 0 200).size ≤ 200
  rw [Array.size_extract]; omega
theorem bad_B {x : Str} {u : Tok} {a3 : Args} {Q : Value → Shared → Prop} (hh : A.handled = none) (hz : (reprText x).length ≤ sizeLine)
    (h : ∀ h' tk e, Heap.NewExc s.heap h' e "ValueError" → E (.ref e) { s with heap := h', toks := tk }) :
    wpB (model prog w) A (On (On B (.builtin "map.__next__" a1)) (.builtin "type.__call__" a2)) (.builtin "int.__new__" a3) (badTail x u) Q E s := by
  unfold badTail
  refine wpB_bind (wpB_any (wpAny_rule (wpB_bind (wpB_any (wpAny_pyRepr_str ?_ hz)))))
  refine wpB_bind (wpB_any (wpAny_mkStr ?_ ?_))
  · refine wpB_bind (wpB_any ?_)
    unfold newExc newTuple
    refine wpAny_bind (wpAny_newObj_type ?_)
    refine wpAny_bind (m := firstArgMember _ _) (wpAny_of_eq (a := Value.none) (by simp only [firstArgMember, plainExc_ValueError.first]; rfl) ?_)
    rw [plainExc_ValueError.own]
    refine wpAny_newObj_type ?_
    refine wpB_bind ?_
    unfold markTheRefusal
    refine wpB_bind (wpB_stack fun p bl hb => ?_)
    obtain ⟨p1, r1, rfl, p2, r2, rfl, hb⟩ := hb
    rw [mark_off a3 rfl]
    refine wpB_any (wpAny_pure ?_)
    refine wpB_any ?_
    unfold raiseNew
    refine wpAny_bind (wpAny_handled ?_)
    rw [hh]
    first
      | refine wpAny_throw ?_
      | refine wpAny_bind (wpAny_pure (wpAny_throw ?_))
    exact h _ _ _ ⟨fun b o hb => Heap.get?_push_of_some _ (Heap.get?_push_of_some _ hb), Heap.get?_none_of_le (by simp), _, .ref s.heap.objs.size, Heap.get?_push_size _ rfl, rfl, by simp⟩
  · have := @str_take (reprText x)
    show (_ ++ _ : Str).length ≤ _
    rw [Str.length_append, PySem.ofString_length, sizeLine_eq]
    have e1 : (toString "invalid literal for int() with base " ++ toString (10 : Nat) ++ toString ": ").length ≤ 100 := by decide
    omega
theorem codeB_builtin {B : List (Code × Pos) → Prop} {R : Result → Shared → Prop} {id : String} {args : Args} {b : Builtin} (hb : entryFor table id = some b)
    (h : wpB (model prog w) (A.under (.builtin id args)) B (.builtin id args) (b args)
      (fun fin s' => match fin with | .done f => R (.ok f) s' | .again c' => c'.quiet = true ∧ codeB (model prog w) A B c' R s') (fun e s' => R (.error e) s') s) :
    codeB (model prog w) A B (.builtin id args) R s := by
  refine codeB_tree ?_
  show wpB _ _ _ _ (match entryFor table id with | some b => b args | none => unsupported ((withoutEnding? id "#data").getD id)) _ _ s
  rw [hb]; exact h
theorem codeB_call_builtin {B : List (Code × Pos) → Prop} {R : Result → Shared → Prop} {id : String} {args : Args} (hq : (Code.builtin id args).quiet = true) (hk : checkBuiltinCall id args = pure ())
    (h : codeB (model prog w) A B (.builtin id args) R s) : codeB (model prog w) A B (.call (.builtin id) args) R s := by
  refine codeB_tree ?_
  show wpB _ _ _ _ (do checkBuiltinCall id args; again (.builtin id args)) _ _ s
  exact wpB_bind (wpB_any (wpAny_of_eq hk (wpB_any (wpAny_pure ⟨hq, h⟩))))
theorem code_bad {x : Str} {u : Tok} {R : Result → Shared → Prop} (hl : x.length ≤ 600) (hn : PySem.intText? x = none) (hh : A.handled = none) (hz : (reprText x).length ≤ sizeLine)
    (h : ∀ h' tk e, Heap.NewExc s.heap h' e "ValueError" → R (.error (.ref e)) { s with heap := h', toks := tk }) :
    codeB (model prog w) A (On B (.builtin "map.__next__" a1)) (.call (.type "int") ⟨[.str x u], []⟩) R s := by
  refine codeB_tree ?_
  show wpB _ _ _ _ (callAny (.type "int") _) _ _ _
  refine wpB_any (wpAny_pure ⟨Code.quiet_builtin _ (by decide +kernel), ?_⟩)
  refine codeB_builtin F.entry_type_call ?_
  obtain ⟨k, e⟩ := tc_eq (.str x u)
  rw [e]
  refine wpB_bind (wpB_holding (wpB_call ?_))
  refine codeB_call_builtin (plainId_quiet (by decide +kernel) _) (F.newCall_int_1 _) (codeB_builtin F.entry_int_new ?_)
  obtain ⟨k2, e2⟩ := in_eq x u
  rw [e2, ift_eq hl hn]
  refine wpB_bind (bad_B hh hz ?_)
  exact h
end

end Mine
end

section  -- M2
open PySem PySem.W PySem.Calls PyProof.Rows PySem.NumText
open PySem.Sem (wp)
set_option maxRecDepth 100000
set_option maxHeartbeats 400000
namespace Mine
theorem slot_map_next : Slot "map" "__next__" "map.__next__" :=
  .of (owner := "map") (n := "__next__") (by rw [typeLookup_type, builtinLookup_eq_fast]; kernel_rfl) (by decide +kernel) (by decide +kernel) (by decide +kernel)
    (by first | exact .inl (by decide +kernel) | exact .inr (by decide +kernel)) (by rw [isSubtype_type]; kernel_rfl)
theorem slot_map_iter : Slot "map" "__iter__" "map.__iter__" :=
  .of (owner := "map") (n := "__iter__") (by rw [typeLookup_type, builtinLookup_eq_fast]; kernel_rfl) (by decide +kernel) (by decide +kernel) (by decide +kernel)
    (by first | exact .inl (by decide +kernel) | exact .inr (by decide +kernel)) (by rw [isSubtype_type]; kernel_rfl)
theorem slot_map_init : Slot "map" "__init__" "object.__init__" :=
  .of (owner := "object") (n := "__init__") (by rw [typeLookup_type, builtinLookup_eq_fast]; kernel_rfl) (by decide +kernel) (by decide +kernel) (by decide +kernel)
    (by first | exact .inl (by decide +kernel) | exact .inr (by decide +kernel)) (by rw [isSubtype_type]; kernel_rfl)
theorem entry_map_next : entryFor table "map.__next__" = some Builtin.«map.__next__» := entryFor_of_tree (by kernel_rfl)
theorem entry_map_new : entryFor table "map.__new__" = some Builtin.«map.__new__» := entryFor_of_tree (by kernel_rfl)
theorem entry_map_iter : entryFor table "map.__iter__" = some Builtin.«dict_keyiterator.__iter__» :=
  entryFor_alias (id' := "dict_keyiterator.__iter__") (by kernel_rfl) (by first | rfl | decide +kernel | (unfold String.splitOn; simp +decide [String.splitOnAux])) (by decide +kernel) (by kernel_rfl)
theorem args_map_next (a : Value) : argsOk "map.__next__" ⟨[a], []⟩ := by unfold argsOk; kernel_rfl
theorem args_map_iter (a : Value) : argsOk "map.__iter__" ⟨[a], []⟩ := by unfold argsOk; kernel_rfl
theorem mro_map : mroOf (.type "map") = pure [.type "map", .type "object"] := by rw [mroOf_type]; kernel_rfl
theorem lookup_map_new : typeLookup (.type "map") "__new__" = pure (some (.builtin "map.__new__")) := by rw [typeLookup_type, builtinLookup_eq_fast]; kernel_rfl
theorem sub_map : isSubtype (.type "map") (.type "map") = pure true := by rw [isSubtype_type]; kernel_rfl
theorem called_map : TypeCalled "map" "map.__new__" "object.__init__" :=
  ⟨by decide +kernel, by decide +kernel, ⟨_, _, mro_map⟩, madeBy_type mro_map lookup_map_new (by decide +kernel), by decide +kernel, sub_map, slot_map_init⟩
theorem typeCall_map_2 (a b : Value) : checkTypeCall "map" ⟨[a, b], []⟩ = pure () := by kernel_rfl
theorem newCall_map_2 (a b : Value) : checkBuiltinCall "map.__new__" ⟨[.type "map", a, b], []⟩ = pure () := by kernel_rfl

noncomputable abbrev IsMap (h : Heap) (z T : Addr) (f : Value) : Prop := h.get? z = some { cls := .type "map", dict := none, data := .fields #[.ref T, f], slots := #[] }
noncomputable abbrev IsOne (h : Heap) (T : Addr) (a : Value) : Prop := h.get? T = some { cls := .type "tuple", data := .seq #[a] }
noncomputable abbrev mapH1 (h : Heap) (l : Addr) : Heap := h.push { cls := .type "list_iterator", data := .fields #[.ref l, .int 0 0] }
noncomputable abbrev mapH2 (h : Heap) (l : Addr) : Heap := (mapH1 h l).push { cls := .type "tuple", data := .seq #[.ref h.objs.size] }
noncomputable abbrev mapH3 (h : Heap) (l : Addr) (f : Value) : Heap := (mapH2 h l).push { cls := .type "map", data := .fields #[.ref (mapH1 h l).objs.size, f] }
theorem meets_map_new (f : Value) (l : Addr) (xs : Array Value) :
    Meets (Builtin.«map.__new__» ⟨[.type "map", f, .ref l], []⟩) (fun _ R s => s.heap.IsList l xs ∧
      R (.ok (.ret (.ref (mapH2 s.heap l).objs.size))) { s with heap := mapH3 s.heap l f }) :=
  .of_wp fun prog w A R s h => by
    obtain ⟨hp, g, d, tk, os⟩ := s; obtain ⟨hl, h⟩ := h
    have hsub := sub_map
    have hL : Heap.IsList (Shared.heap ⟨hp, g, d, tk, os⟩) l xs := hl
    wp_walk using wpAny_pyIter_list hL
    exact ⟨_, rfl, h⟩
section
variable {prog : Program} {w : World} {A : Around} {E : Value → Shared → Prop} {s : Shared}
theorem call_map {f : Value} {l : Addr} {xs : Array Value} {Q : Value → Shared → Prop} (hl : s.heap.IsList l xs)
    (h : ∀ h', IsMap h' (s.heap.objs.size + 2) (s.heap.objs.size + 1) f → IsOne h' (s.heap.objs.size + 1) (.ref s.heap.objs.size) → h'.IsListIter s.heap.objs.size l 0 → h'.objs.size = s.heap.objs.size + 3 →
      (∀ c o, s.heap.get? c = some o → h'.get? c = some o) → Q (.ref (s.heap.objs.size + 2)) { s with heap := h' }) :
    wpAny (model prog w) A (call (.type "map") [f, .ref l]) Q E s := by
  refine callType_new called_map (by decide) (typeCall_map_2 _ _) (newCall_map_2 _ _) (fun obj => F.args_object_init_3 obj _ _) entry_map_new
    (meets_map_new f l xs) ⟨hl, ?_⟩
  have z1 : (mapH1 s.heap l).objs.size = s.heap.objs.size + 1 := Heap.size_push ..
  have z2 : (mapH2 s.heap l).objs.size = s.heap.objs.size + 2 := by rw [Heap.size_push, z1]
  have z3 : (mapH3 s.heap l f).objs.size = s.heap.objs.size + 3 := by rw [Heap.size_push, z2]
  have g3 : (mapH3 s.heap l f).get? (mapH2 s.heap l).objs.size = some _ := Heap.get?_push_size _ rfl
  have g2 : (mapH3 s.heap l f).get? (mapH1 s.heap l).objs.size = some _ := Heap.get?_push_of_some _ (Heap.get?_push_size _ rfl)
  have g1 : (mapH3 s.heap l f).get? s.heap.objs.size = some _ := Heap.get?_push_of_some _ (Heap.get?_push_of_some _ (Heap.get?_push_size _ rfl))
  show _ ∧ _
  rw [z1, z2] at g3
  rw [z1] at g2
  rw [z2]
  exact ⟨⟨_, g3, rfl⟩, h _ g3 g2 ⟨_, g1, rfl, rfl⟩ z3 fun c o x => Heap.get?_push_of_some _ (Heap.get?_push_of_some _ (Heap.get?_push_of_some _ x))⟩
theorem pyIter_map {z T : Addr} {f : Value} {Q : Value → Shared → Prop} (hz : IsMap s.heap z T f) (h : Q (.ref z) s) : wpAny (model prog w) A (pyIter (.ref z)) Q E s := by
  have hT : s.TypeIs (.ref z) "map" := ⟨_, hz, rfl⟩
  refine wpAny_pyIter_slot hT slot_map_iter (wpAny_call_entry slot_map_iter hT entry_map_iter ?_ (args_map_iter _))
  show wpAny _ _ (ret (.ref z)) _ _ s
  exact wpAny_pure ⟨_, rfl, "map", _, hT, slot_map_next.lookup, h⟩
end
end Mine
end

section  -- M3
open PySem PySem.W PySem.Calls PyProof.Rows PySem.NumText
open PySem.Sem (wp)
set_option maxRecDepth 100000
set_option maxHeartbeats 400000
namespace Mine
section
variable {prog : Program} {w : World} {A : Around} {E : Value → Shared → Prop} {s : Shared}
/-- a turn of the map: the item's call -/
theorem map_next_B {B : List (Code × Pos) → Prop} {c : Code} {z T it l : Addr} {i : Nat} {items : Array Value} {x f : Value} {Q : Fin → Shared → Prop}
    (hz : IsMap s.heap z T f) (hT : IsOne s.heap T (.ref it)) (hit : s.heap.IsListIter it l i) (hl : s.heap.IsList l items) (hx : items[i]? = some x) (hne : z ≠ it)
    (h : ∀ h', h'.IsListIter it l (i + 1) → Heap.SameBut it s.heap h' → wpB (model prog w) A B c (call f [x]) (fun v s' => Q (.done (.ret v)) s') E { s with heap := h' }) :
    wpB (model prog w) A B c (Builtin.«map.__next__» ⟨[.ref z], []⟩) Q E s := by
  show wpB _ _ _ _ (field (.ref z) 0 >>= _) _ _ _
  refine wpB_bind (wpB_any (wpAny_field hz rfl (x := .ref T) rfl ?_))
  refine wpB_bind (wpB_any (wpAny_seqItems hT rfl ?_))
  dsimp only
  refine wpB_bind ?_
  simp only [List.forIn_toArray, List.forIn_cons, List.forIn_nil]
  refine wpB_bind (wpB_bind (wpB_holding (wpB_any (wpAny_nextOf_list_item hit hl hx fun h₁ hit₁ hs₁ => ?_))))
  refine wpB_any (wpAny_pure ?_)
  refine wpB_any (wpAny_pure ?_)
  have hz₁ : IsMap h₁ z T f := hs₁.extBut _ _ hne hz
  refine wpB_bind (wpB_any (wpAny_field hz₁ rfl (x := f) rfl ?_))
  refine wpB_bind (wpB_holding (wpB_mono (h h₁ hit₁ hs₁) (fun v s' q => ?_) fun _ _ q => q))
  refine wpB_bind (wpB_any (wpAny_letGo ?_))
  exact wpB_any (wpAny_pure q)
theorem map_next_end {z T it l : Addr} {i : Nat} {items : Array Value} {f : Value} {Q : Fin → Shared → Prop} (hh : A.handled = none)
    (hz : IsMap s.heap z T f) (hT : IsOne s.heap T (.ref it)) (hit : s.heap.IsListIter it l i) (hl : s.heap.IsList l items) (hx : items[i]? = none)
    (hE : ∀ h' e, Heap.ExtBut it s.heap h' → (∃ o, h'.get? e = some o ∧ o.cls = .type "StopIteration") → E (.ref e) { s with heap := h' }) :
    wpAny (model prog w) A (Builtin.«map.__next__» ⟨[.ref z], []⟩) Q E s := by
  show wpAny _ _ (field (.ref z) 0 >>= _) _ _ _
  refine wpAny_bind (wpAny_field hz rfl (x := .ref T) rfl ?_)
  refine wpAny_bind (wpAny_seqItems hT rfl ?_)
  dsimp only
  refine wpAny_bind ?_
  simp only [List.forIn_toArray, List.forIn_cons, List.forIn_nil]
  refine wpAny_bind (wpAny_bind (wpAny_holding (wpAny_nextOf_list_end hh hit hl hx hE)))
theorem codeAny_of_B {c : Code} {R : Result → Shared → Prop} (h : codeB (model prog w) A (fun _ => True) c R s) : codeAny (model prog w) A c R s :=
  fun Γ p hc hΓ => h Γ p hc trivial hΓ
/-- the builtin's call, with the code told -/
theorem call_entry_B {T : String} {name : Str} {id : String} {b : Builtin} {self : Value} {Q : Value → Shared → Prop} (h : Slot T name id) (hT : s.TypeIs self T)
    (hb : entryFor table id = some b)
    (hc : wpB (model prog w) A.in1 (fun _ => True) (.builtin id ⟨[self], []⟩) (b ⟨[self], []⟩) (fun fin s' => ∃ v, fin = .done (.ret v) ∧ Q v s') E s)
    (ha : argsOk id ⟨[self], []⟩) :
    wpAny (model prog w) A (call (.builtin id) [self]) Q E s := by
  refine wpAny_call (codeAny_of_B (codeB_tree ?_))
  show wpB _ _ _ _ (do checkBuiltinCall id ⟨[self], []⟩; again (.builtin id ⟨[self], []⟩)) _ _ s
  refine wpB_bind (wpB_any (h.check _ _ _ _ _ _ _ _ hT ha ?_))
  refine wpB_any (wpAny_pure ⟨plainId_quiet h.plain _, codeB_builtin hb ?_⟩)
  rw [Around.under_plainId h.plain _]
  refine wpB_mono hc (fun fin s' q => ?_) fun _ _ q => q
  obtain ⟨v, rfl, q⟩ := q
  exact q
/-- pyNext of map(int, texts): the number told -/
theorem pyNext_map_item {z T it l : Addr} {i : Nat} {items : Array Value} {x : Str} {t : Tok} {n : Int} {Q : Option Value → Shared → Prop}
    (hz : IsMap s.heap z T (.type "int")) (hT : IsOne s.heap T (.ref it)) (hit : s.heap.IsListIter it l i) (hl : s.heap.IsList l items) (hx : items[i]? = some (.str x t)) (hne : z ≠ it)
    (hn : PySem.intText? x = some n) (hlen : x.length ≤ 600)
    (h : ∀ h', h'.IsListIter it l (i + 1) → Heap.SameBut it s.heap h' → Q (some (.int n s.toks)) { s with heap := h', toks := s.toks + 1 }) :
    wpAny (model prog w) A (pyNext (.ref z)) Q E s := by
  have hZ : s.TypeIs (.ref z) "map" := ⟨_, hz, rfl⟩
  unfold pyNext
  refine wpAny_bind (wpAny_attempt (wpAny_callSpecial?_slot (name := Str.ofString "__next__") hZ slot_map_next (call_entry_B slot_map_next hZ entry_map_next ?_ (args_map_next _))))
  refine map_next_B hz hT hit hl hx hne fun h₁ hit₁ hs₁ => wpB_any (KIN.call_text hn (by omega) ?_)
  exact ⟨_, rfl, wpAny_pure (h h₁ hit₁ hs₁)⟩
theorem isSubtype_value_stop : isSubtype (.type "ValueError") (.type "StopIteration") = pure false := by rw [isSubtype_type]; kernel_rfl
theorem pyNext_map_bad {z T it l : Addr} {i : Nat} {items : Array Value} {x : Str} {t : Tok} {Q : Option Value → Shared → Prop} (hh : A.handled = none)
    (hz : IsMap s.heap z T (.type "int")) (hT : IsOne s.heap T (.ref it)) (hit : s.heap.IsListIter it l i) (hl : s.heap.IsList l items) (hx : items[i]? = some (.str x t)) (hne : z ≠ it)
    (hn : PySem.intText? x = none) (hlen : x.length ≤ 600) (hr : (reprText x).length ≤ sizeLine)
    (hE : ∀ h₁ h' tk e, Heap.SameBut it s.heap h₁ → Heap.NewExc h₁ h' e "ValueError" → E (.ref e) { s with heap := h', toks := tk }) :
    wpAny (model prog w) A (pyNext (.ref z)) Q E s := by
  have hZ : s.TypeIs (.ref z) "map" := ⟨_, hz, rfl⟩
  unfold pyNext
  refine wpAny_bind (wpAny_attempt (wpAny_callSpecial?_slot (name := Str.ofString "__next__") hZ slot_map_next (call_entry_B slot_map_next hZ entry_map_next ?_ (args_map_next _))))
  refine map_next_B hz hT hit hl hx hne fun h₁ hit₁ hs₁ => wpB_call (code_bad hlen hn hh hr fun h' tk e hx => ?_)
  obtain ⟨ob, t, he, hc, hd⟩ := hx.there
  refine wpAny_bind (wpAny_isInstance (T := "ValueError") (b := false) ⟨ob, he, hc⟩ isSubtype_value_stop ?_)
  exact wpAny_throw (hE h₁ h' tk e hs₁ hx)
theorem pyNext_map_end {z T it l : Addr} {i : Nat} {items : Array Value} {f : Value} {Q : Option Value → Shared → Prop} (hh : A.handled = none)
    (hz : IsMap s.heap z T f) (hT : IsOne s.heap T (.ref it)) (hit : s.heap.IsListIter it l i) (hl : s.heap.IsList l items) (hx : items[i]? = none)
    (hQ : ∀ h', Heap.ExtBut it s.heap h' → Q none { s with heap := h' }) : wpAny (model prog w) A (pyNext (.ref z)) Q E s := by
  have hZ : s.TypeIs (.ref z) "map" := ⟨_, hz, rfl⟩
  unfold pyNext
  refine wpAny_bind (wpAny_attempt (wpAny_callSpecial?_slot (name := Str.ofString "__next__") hZ slot_map_next (wpAny_call_entry slot_map_next hZ entry_map_next (map_next_end hh hz hT hit hl hx fun h' e k q => ?_) (args_map_next _))))
  obtain ⟨o, ho, hc⟩ := q
  refine wpAny_bind (wpAny_isInstance (T := "StopIteration") (b := true) ⟨o, ho, hc⟩ isSubtype_stop ?_)
  exact wpAny_pure (hQ _ k)
end
end Mine
end

section  -- M4
open PySem PySem.W PySem.Calls PyProof.Rows PySem.NumText
open PySem.Sem (wp)
set_option maxRecDepth 100000
set_option maxHeartbeats 400000
namespace Mine
/-- two texts that are numbers -/
noncomputable def pairOf : List Str → Option (Int × Int)
  | [x, y] => match PySem.intText? x, PySem.intText? y with
    | some a, some b => some (a, b)
    | _, _ => none
  | _ => none
noncomputable abbrev strsOf (xs : List (Str × Tok)) : List Value := xs.map fun p => .str p.1 p.2
structure ShortT (x : Str) : Prop where
  len : x.length ≤ 600
  shown : (reprText x).length ≤ sizeLine
section
variable {prog : Program} {w : World} {A : Around} {E : Value → Shared → Prop} {s : Shared}
theorem strs_at {xs : List (Str × Tok)} {i : Nat} {p : Str × Tok} (h : xs[i]? = some p) : (strsOf xs).toArray[i]? = some (.str p.1 p.2) := by
  simp [h]
theorem strs_end {xs : List (Str × Tok)} {i : Nat} (h : xs[i]? = none) : (strsOf xs).toArray[i]? = none := by
  simp at h ⊢; exact h

/-- one draw of the map over texts -/
theorem next_map {z T it l : Addr} {i : Nat} {xs : List (Str × Tok)} {Q : Option Value → Shared → Prop} (hh : A.handled = none) (hw : ∀ p ∈ xs, ShortT p.1)
    (hz : IsMap s.heap z T (.type "int")) (hT : IsOne s.heap T (.ref it)) (hit : s.heap.IsListIter it l i) (hl : s.heap.IsList l (strsOf xs).toArray) (hne : z ≠ it)
    (hQ : ∀ p n, xs[i]? = some p → PySem.intText? p.1 = some n → ∀ h', h'.IsListIter it l (i + 1) → Heap.SameBut it s.heap h' → Q (some (.int n s.toks)) { s with heap := h', toks := s.toks + 1 })
    (hN : xs[i]? = none → ∀ h', Heap.ExtBut it s.heap h' → Q none { s with heap := h' })
    (hE : ∀ p, xs[i]? = some p → PySem.intText? p.1 = none → ∀ h₁ h' tk e, Heap.SameBut it s.heap h₁ → Heap.NewExc h₁ h' e "ValueError" → E (.ref e) { s with heap := h', toks := tk }) :
    wpAny (model prog w) A (pyNext (.ref z)) Q E s := by
  cases hp : xs[i]? with
  | none => exact pyNext_map_end hh hz hT hit hl (strs_end hp) (hN hp)
  | some p =>
    have hs := hw p (List.mem_of_getElem? hp)
    cases hn : PySem.intText? p.1 with
    | none => exact pyNext_map_bad hh hz hT hit hl (strs_at hp) hne hn hs.len hs.shown (hE p hp hn)
    | some n => exact pyNext_map_item hz hT hit hl (strs_at hp) hne hn hs.len (hQ p n hp hn)

theorem unpack_map {z T it l : Addr} {xs : List (Str × Tok)} {Q : List Value → Shared → Prop} (hh : A.handled = none) (hw : ∀ p ∈ xs, ShortT p.1)
    (hz : IsMap s.heap z T (.type "int")) (hT : IsOne s.heap T (.ref it)) (hit : s.heap.IsListIter it l 0) (hl : s.heap.IsList l (strsOf xs).toArray) (hne : z ≠ it) (hne2 : T ≠ it) (hne3 : l ≠ it)
    (hQ : ∀ a b, pairOf (xs.map (·.1)) = some (a, b) → ∀ h' tk ta tb, Heap.ExtBut it s.heap h' → Q [.int a ta, .int b tb] { s with heap := h', toks := tk })
    (hE : pairOf (xs.map (·.1)) = none → ∀ h₁ h' tk e, Heap.ExtBut it s.heap h₁ → Heap.NewExc h₁ h' e "ValueError" → E (.ref e) { s with heap := h', toks := tk }) :
    wpAny (model prog w) A (unpackItems (.ref z) 2 none) Q E s := by
  have hZ : s.TypeIs (.ref z) "map" := ⟨_, hz, rfl⟩
  unfold unpackItems notIterableAtAll
  refine wpAny_bind ?_
  refine wpAny_bind (wpAny_specialOf hZ slot_map_iter.lookup ?_)
  refine wpAny_pure ?_
  simp only [Bool.false_eq_true, if_false]
  refine wpAny_bind (wpAny_holding (pyIter_map hz ?_))
  refine wpAny_bind (wpAny_holding ?_)
  show wpAny _ _ (pyNext (.ref z) >>= _) _ _ _
  refine wpAny_bind (next_map hh hw hz hT hit hl hne ?_ ?_ ?_)
  · -- the first is a number
    intro p a h0 ha h₁ hit₁ hs₁
    have hz₁ : IsMap h₁ z T (.type "int") := hs₁.extBut _ _ hne hz
    have hT₁ : IsOne h₁ T (.ref it) := hs₁.extBut _ _ hne2 hT
    have hl₁ : h₁.IsList l (strsOf xs).toArray := hl.extBut hs₁.extBut hne3
    dsimp only
    refine wpAny_bind (wpAny_holding ?_)
    show wpAny _ _ (pyNext (.ref z) >>= _) _ _ _
    refine wpAny_bind (next_map (s := ⟨h₁, _, _, _, _⟩) hh hw hz₁ hT₁ hit₁ hl₁ hne ?_ ?_ ?_)
    · intro q b h1 hb h₂ hit₂ hs₂
      replace hs₂ : Heap.SameBut it h₁ h₂ := hs₂
      have hz₂ : IsMap h₂ z T (.type "int") := hs₂.extBut _ _ hne hz₁
      have hT₂ : IsOne h₂ T (.ref it) := hs₂.extBut _ _ hne2 hT₁
      have hl₂ : h₂.IsList l (strsOf xs).toArray := hl₁.extBut hs₂.extBut hne3
      have e2 : Heap.ExtBut it s.heap h₂ := (hs₁.trans hs₂).extBut
      dsimp only
      refine wpAny_bind (wpAny_holding ?_)
      refine wpAny_pure (wpAny_pure (wpAny_pure ?_))
      simp only [List.length_cons, List.length_nil, Nat.lt_irrefl, if_false]
      refine wpAny_bind (wpAny_holding (next_map (s := ⟨h₂, _, _, _, _⟩) hh hw hz₂ hT₂ hit₂ hl₂ hne ?_ ?_ ?_))
      · intro r c h2 hc h₃ hit₃ hs₃
        simp only [Option.isSome_some, if_true]
        refine wpAny_bind (wpAny_rule (wpAny_bind ?_))
        refine wpAny_raiseErrorMade plainExc_ValueError hh (fun h' tk e hx => hE ?_ h₃ h' tk e (e2.trans hs₃.extBut) hx) (by decide)
        obtain ⟨x0, r0, rfl⟩ : ∃ x r, xs = x :: r := by cases xs with | nil => cases h0 | cons x r => exact ⟨x, r, rfl⟩
        obtain ⟨x1, r1, rfl⟩ : ∃ x r, r0 = x :: r := by cases r0 with | nil => cases h1 | cons x r => exact ⟨x, r, rfl⟩
        obtain ⟨x2, r2, rfl⟩ : ∃ x r, r1 = x :: r := by cases r1 with | nil => cases h2 | cons x r => exact ⟨x, r, rfl⟩
        rfl
      · intro h2 h₃ hs₃
        simp only [Option.isSome_none, Bool.false_eq_true, if_false]
        refine wpAny_pure (hQ a b ?_ h₃ _ _ _ (e2.trans hs₃))
        obtain ⟨x0, r0, rfl⟩ : ∃ x r, xs = x :: r := by cases xs with | nil => cases h0 | cons x r => exact ⟨x, r, rfl⟩
        obtain ⟨x1, r1, rfl⟩ : ∃ x r, r0 = x :: r := by cases r0 with | nil => cases h1 | cons x r => exact ⟨x, r, rfl⟩
        have : r1 = [] := by cases r1 with | nil => rfl | cons x r => cases h2
        subst this
        cases h0; cases h1
        show (match PySem.intText? p.1, PySem.intText? q.1 with | some a, some b => some (a, b) | _, _ => none) = _
        rw [ha, hb]
      · intro r h2 hc h₃ h' tk e hs₃ hx
        refine hE ?_ h₃ h' tk e (e2.trans hs₃.extBut) hx
        obtain ⟨x0, r0, rfl⟩ : ∃ x r, xs = x :: r := by cases xs with | nil => cases h0 | cons x r => exact ⟨x, r, rfl⟩
        obtain ⟨x1, r1, rfl⟩ : ∃ x r, r0 = x :: r := by cases r0 with | nil => cases h1 | cons x r => exact ⟨x, r, rfl⟩
        obtain ⟨x2, r2, rfl⟩ : ∃ x r, r1 = x :: r := by cases r1 with | nil => cases h2 | cons x r => exact ⟨x, r, rfl⟩
        rfl
    · intro h1 h₂ hs₂
      refine wpAny_pure (wpAny_pure ?_)
      simp only [List.length_cons, List.length_nil]
      rw [if_pos (by decide)]
      refine wpAny_bind (wpAny_rule (wpAny_bind ?_))
      refine wpAny_raiseErrorMade plainExc_ValueError hh (fun h' tk e hx => hE ?_ h₂ h' tk e (hs₁.extBut.trans hs₂) hx) (by decide)
      obtain ⟨x0, r0, rfl⟩ : ∃ x r, xs = x :: r := by cases xs with | nil => cases h0 | cons x r => exact ⟨x, r, rfl⟩
      have : r0 = [] := by cases r0 with | nil => rfl | cons x r => cases h1
      subst this
      rfl
    · intro q h1 hb h₂ h' tk e hs₂ hx
      refine hE ?_ h₂ h' tk e (hs₁.trans hs₂).extBut hx
      obtain ⟨x0, r0, rfl⟩ : ∃ x r, xs = x :: r := by cases xs with | nil => cases h0 | cons x r => exact ⟨x, r, rfl⟩
      obtain ⟨x1, r1, rfl⟩ : ∃ x r, r0 = x :: r := by cases r0 with | nil => cases h1 | cons x r => exact ⟨x, r, rfl⟩
      cases h1
      cases r1 with
      | nil =>
        show (match PySem.intText? x0.1, PySem.intText? q.1 with | some a, some b => some (a, b) | _, _ => none) = none
        rw [hb]
        cases PySem.intText? x0.1 <;> rfl
      | cons _ _ => rfl
  · -- none at all
    intro h0 h₁ hs₁
    dsimp only
    refine wpAny_pure ?_
    simp only [List.length_nil]
    rw [if_pos (by decide)]
    refine wpAny_bind (wpAny_rule (wpAny_bind ?_))
    refine wpAny_raiseErrorMade plainExc_ValueError hh (fun h' tk e hx => hE ?_ h₁ h' tk e hs₁ hx) (by decide)
    have : xs = [] := by cases xs with | nil => rfl | cons x r => cases h0
    subst this
    rfl
  · intro p h0 ha h₁ h' tk e hs₁ hx
    refine hE ?_ h₁ h' tk e hs₁.extBut hx
    obtain ⟨x0, r0, rfl⟩ : ∃ x r, xs = x :: r := by cases xs with | nil => cases h0 | cons x r => exact ⟨x, r, rfl⟩
    cases h0
    match r0 with
    | [] => rfl
    | [x1] =>
      show (match PySem.intText? p.1, PySem.intText? x1.1 with | some a, some b => some (a, b) | _, _ => none) = none
      rw [ha]
    | _ :: _ :: _ => rfl
end
end Mine
end

section  -- G1
open PySem PySem.W PySem.Calls PyProof.Rows
set_option maxRecDepth 100000
set_option maxHeartbeats 2000000
namespace Mine
theorem glc_c {w : World} {A₀ : Around} {base h₀ : Heap} {outer : List Env} {L : Addr} {m : Str → Option Value} {news : List (Addr × Obj)} {env : Env} {dp un : Nat} {gd : Option (List Code)} {s : Shared} {x : Str} {t : Tok} {R : Result → Shared → Prop}
    (G : GI w h₀) (B : Below A₀ base outer h₀) (F : Fr h₀ L s.heap m) (N : News h₀ L s.heap news) (hf : env.frame = some L) (hke : env.scope.kind = .function) (hroom : dp < recursionLimit)
    (hlen : x.length ≤ 600) (hw : ∀ z ∈ Txt.split x (Str.ofString "."), ShortT z)
    (hR1 : ∀ a b, pairOf (Txt.split x (Str.ofString ".")) = some (a, b) → ∀ h' tk P ta tb, Fr h₀ L h' m → News h₀ L h' ((P, tupOf #[.int a ta, .int b tb]) :: news) → R (.ok (.ret (.ref P))) { s with heap := h', toks := tk })
    (hR2 : pairOf (Txt.split x (Str.ofString ".")) = none → ∀ g h' tk e, Fr h₀ L g m → RaisedSN base g (env :: outer) e (.type "ValueError") news h' → g.UpToSlots h' → R (.error (.ref e)) { s with heap := h', toks := tk }) :
    codeAny (model PR w) (AR dp un (some (env :: outer)) gd) (.call (.ref 28) ⟨[.str x t], []⟩) R s := by
  have X := G.K.keeps F.keep
  refine callX_plain (binds := [(Str.ofString "index", .str x t)]) (cl := []) B F N G.nolimit rfl hf hke (X 28 _ (by exact rfl)) rfl (codeRec_of (K := hd.heap_39 w.params) X (by exact rfl)) hroom (BindsTo.of_eq (by exact rfl)) (locs rfl) ?_ (by decide) rfl rfl rfl
  intro g L' h₁ FG F' N' B' st _
  have X' := G.K.keeps st
  obtain ⟨mg, mb, TT⟩ := G.T
  replace TT := TT.keeps st
  w_on
  have : (fun P : Params => hd.heap_39 P) = hd.heap_39 ∧ PySem.Challenge.rw_pg0028_01 = PySem.Challenge.rw_pg0028_01 := by k_fill; exact ⟨rfl, rfl⟩
  clear this
  (repeat' (first | ((fail_if_success (with_reducible show wpAny _ _ (unpackItems _ _ _) _ _ _)); (fail_if_success (with_reducible show wpAny _ _ (assign _ _ _) _ _ _)); (fail_if_success (with_reducible show wpAny _ _ (call (Value.type _) _) _ _ _)); (first | walk1 | (dsimp only; walk1)))))
  rename_i l h2 k2 hl _ _ hL2 F2 N2
  dsimp only at hL2 F2 N2 ⊢
  have hw' : ∀ p ∈ l, ShortT p.1 := fun p hp => hw p.1 (hl ▸ List.mem_map_of_mem (f := fun x : Str × Tok => x.1) hp)
  refine call_map hL2 ?_
  intro h3 z1 z2 z3 z4 z5
  dsimp only at z1 z2 z3 z4 z5 ⊢
  have hlt1 := Heap.lt_size (News.get N2 (.head _))
  generalize h₁.objs.size = D at *
  replace hL2 : h3.IsList D (strValues l).toArray := let ⟨o, a, r⟩ := hL2; ⟨o, z5 _ _ a, r⟩
  have N3 := News.drop (news := news) N2 (fun p hp => .tail _ hp)
  rw [assign_Tuple]
  refine wpAny_bind (wpAny_standAt ?_)
  unfold unpack
  refine wpAny_bind (wpAny_holding ?_)
  show wpAny _ _ (unpackItems _ 2 none) _ _ _
  generalize hJ : h2.objs.size = J at *
  refine unpack_map (s := ⟨h3, _, _, _, _⟩) (by rfl) hw' z1 z2 z3 hL2 (Nat.ne_of_gt (Nat.lt_add_of_pos_right (by decide))) (Nat.ne_of_gt (Nat.lt_add_of_pos_right (by decide))) (Nat.ne_of_lt hlt1) ?_ ?_
  · rw [hl]
    intro a b hab h4 tk ta tb hx
    have k4 : Keep h2 h4 := fun b o e => hx b o (Nat.ne_of_lt (hJ ▸ Heap.lt_size e)) (z5 b o e)
    clear hx hJ
    replace F2 := Fr.into F2 k4
    replace N3 := News.into N3 k4
    (repeat' (first | walk1 | (dsimp only; walk1)))
    rename_i F' N' _
    exact leaveK_ F' N' fun F'' N'' => hR1 a b hab _ _ _ _ _ F'' N''
  · rw [hl]
    intro hab h4 h5 tk e hx he
    have k4 : Keep h2 h4 := fun b o e => hx b o (Nat.ne_of_lt (hJ ▸ Heap.lt_size e)) (z5 b o e)
    refine leave_newS B' he (Fr.into F2 k4) (News.into N3 k4) ?_
    intro h6 r1 _ r3
    exact hR2 hab g h6 _ e FG r1 r3
end Mine
end

section  -- H1
open PySem PySem.W PySem.W.X PySem.Calls PyProof.Rows
set_option maxRecDepth 100000
set_option maxHeartbeats 8000000
namespace Mine
noncomputable def defAt (i : Nat) : List Stmt := match PySem.Challenge.rw_pg0028_01.prog.main.body[i]? with | some (.FunctionDef _ _ body _ _ _ _ _ _ _) => body | _ => []
noncomputable def lamOf : Stmt → Option (Arguments × PySem.Expr × Scope × Pos) | .Assign _ (.Lambda p b sc pos) _ => some (p, b, sc, pos) | _ => none
/-- the k-th lambda of the def _law_hit -/
noncomputable def hitLam (k : Nat) : Arguments × PySem.Expr × Scope × Pos := ((defAt 6)[k]?.bind lamOf).getD default
noncomputable def hitQ : Str := Str.ofString "_law_hit" ++ Str.ofString ".<locals>." ++ Str.ofString "<lambda>"
noncomputable abbrev lamObj (k : Nat) (cell : Addr) (pm : Value) (c : Addr) (ctv : Value) : Obj :=
  kla_obj (Str.ofString "<lambda>") hitQ (hitLam k).1 (hitLam k).2.1 (hitLam k).2.2.1 [(Str.ofString "place", cell)] pm c ctv
/-- a code object of the name q -/
inductive CodeX (h : Heap) (c : Addr) (q : Str) : Prop
  | mk (dd : Option Addr) (x0 : Value) (t : Tok) (rest : List Value) (sl : Array (Option Value)) (e : h.get? c = some ⟨.type "code", dd, .fields ⟨x0 :: .str q t :: rest⟩, sl⟩)
theorem CodeX.keeps {h h' : Heap} {c : Addr} {q : Str} (x : CodeX h c q) (k : ∀ b o, h.get? b = some o → h'.get? b = some o) : CodeX h' c q := let ⟨dd, x0, t, rest, sl, e⟩ := x; ⟨dd, x0, t, rest, sl, k _ _ e⟩
theorem CodeX.codeRec {h : Heap} {c : Addr} {q : Str} (x : CodeX h c q) : h.CodeRec (.ref c) q := let ⟨_, _, t, _, _, e⟩ := x; ⟨c, _, _, t, rfl, e, rfl, rfl⟩
inductive LamAt (h : Heap) (k : Nat) (f cell : Addr) : Prop
  | mk (pm : Value) (c : Addr) (ctv : Value) (e : h.get? f = some (lamObj k cell pm c ctv)) (x : CodeX h c hitQ)
noncomputable abbrev hitDict (h1 h2 h3 : Int) (t1 t2 t3 : Tok) (f1 f2 f3 : Addr) : Obj :=
  ⟨.type "dict", none, .dict #[⟨h1, .str (Str.ofString "span") t1, .ref f1⟩, ⟨h2, .str (Str.ofString "start") t2, .ref f2⟩, ⟨h3, .str (Str.ofString "end") t3, .ref f3⟩] 3, #[]⟩
/-- a hit lies at a, of the place p -/
inductive HitAt (h : Heap) (a : Addr) (p : Int) : Prop
  | mk (d : Addr) (fd : FuncData) (h1 h2 h3 : Int) (t1 t2 t3 : Tok) (f1 f2 f3 cell : Addr) (t : Tok) (e1 : h.get? a = some ⟨.type "function", some d, .func fd, #[]⟩) (e2 : h.get? d = some (hitDict h1 h2 h3 t1 t2 t3 f1 f2 f3))
      (l1 : LamAt h 1 f1 cell) (l2 : LamAt h 2 f2 cell) (e3 : h.get? cell = some ⟨.type "cell", none, .cell (some (.int p t)), #[]⟩)
noncomputable abbrev tab37 (c0 c1 c2 c3 : Addr) : Array Value :=
  #[rawInt (hitLam 0).2.2.2.line, rawInt (hitLam 0).2.2.2.col, .ref c0, rawInt (hitLam 1).2.2.2.line, rawInt (hitLam 1).2.2.2.col, .ref c1,
    rawInt (hitLam 2).2.2.2.line, rawInt (hitLam 2).2.2.2.col, .ref c2, rawInt (hitLam 3).2.2.2.line, rawInt (hitLam 3).2.2.2.col, .ref c3]
noncomputable def ob (a : Nat) (P : Params) : Obj := ((hd.heap_39 P).lookup a).getD default
noncomputable def K2 (P : Params) : Frag := Prod.mk (α := Nat) (nat_lit 37) (⟨.none, none, .fields #[], #[]⟩) :: Prod.mk (α := Nat) (nat_lit 2) (ob 2 P) :: Prod.mk (α := Nat) (nat_lit 3) (ob 3 P) :: Prod.mk (α := Nat) (nat_lit 6) (ob 6 P) :: Prod.mk (α := Nat) (nat_lit 15) (ob 15 P) :: Prod.mk (α := Nat) (nat_lit 17) (ob 17 P) :: Prod.mk (α := Nat) (nat_lit 18) (ob 18 P) :: Prod.mk (α := Nat) (nat_lit 20) (ob 20 P) :: Prod.mk (α := Nat) (nat_lit 21) (ob 21 P) :: Prod.mk (α := Nat) (nat_lit 22) (ob 22 P) :: Prod.mk (α := Nat) (nat_lit 24) (ob 24 P) :: Prod.mk (α := Nat) (nat_lit 25) (ob 25 P) :: Prod.mk (α := Nat) (nat_lit 27) (ob 27 P) :: Prod.mk (α := Nat) (nat_lit 28) (ob 28 P) :: Prod.mk (α := Nat) (nat_lit 29) (ob 29 P) :: Prod.mk (α := Nat) (nat_lit 31) (ob 31 P) :: Prod.mk (α := Nat) (nat_lit 32) (ob 32 P) :: Prod.mk (α := Nat) (nat_lit 34) (ob 34 P) :: Prod.mk (α := Nat) (nat_lit 35) (ob 35 P) :: Prod.mk (α := Nat) (nat_lit 36) (ob 36 P) :: Prod.mk (α := Nat) (nat_lit 38) (ob 38 P) :: Prod.mk (α := Nat) (nat_lit 39) (ob 39 P) :: Prod.mk (α := Nat) (nat_lit 41) (ob 41 P) :: Prod.mk (α := Nat) (nat_lit 42) (ob 42 P) :: Prod.mk (α := Nat) (nat_lit 43) (ob 43 P) :: Prod.mk (α := Nat) (nat_lit 45) (ob 45 P) :: Prod.mk (α := Nat) (nat_lit 46) (ob 46 P) :: Prod.mk (α := Nat) (nat_lit 48) (ob 48 P) :: Prod.mk (α := Nat) (nat_lit 49) (ob 49 P) :: Prod.mk (α := Nat) (nat_lit 50) (ob 50 P) :: Prod.mk (α := Nat) (nat_lit 53) (ob 53 P) :: Prod.mk (α := Nat) (nat_lit 54) (ob 54 P) :: Prod.mk (α := Nat) (nat_lit 55) (ob 55 P) :: Prod.mk (α := Nat) (nat_lit 57) (ob 57 P) :: Prod.mk (α := Nat) (nat_lit 58) (ob 58 P) :: Prod.mk (α := Nat) (nat_lit 60) (ob 60 P) :: Prod.mk (α := Nat) (nat_lit 61) (ob 61 P) :: Prod.mk (α := Nat) (nat_lit 62) (ob 62 P) :: Prod.mk (α := Nat) (nat_lit 64) (ob 64 P) :: Prod.mk (α := Nat) (nat_lit 65) (ob 65 P) :: Prod.mk (α := Nat) (nat_lit 67) (ob 67 P) :: Prod.mk (α := Nat) (nat_lit 68) (ob 68 P) :: Prod.mk (α := Nat) (nat_lit 69) (ob 69 P) :: Prod.mk (α := Nat) (nat_lit 71) (ob 71 P) :: Prod.mk (α := Nat) (nat_lit 72) (ob 72 P) :: Prod.mk (α := Nat) (nat_lit 74) (ob 74 P) :: Prod.mk (α := Nat) (nat_lit 75) (ob 75 P) :: Prod.mk (α := Nat) (nat_lit 76) (ob 76 P) :: Prod.mk (α := Nat) (nat_lit 79) (ob 79 P) :: Prod.mk (α := Nat) (nat_lit 80) (ob 80 P) :: []
/-- what lies at these addresses -/
noncomputable def Sub (S : List (Addr × Obj)) (h : Heap) : Prop := ∀ q ∈ S, h.get? q.1 = some q.2
noncomputable def Fresh (S : List (Addr × Obj)) (h : Heap) : Prop := ∀ q ∈ S, h.get? q.1 = none
theorem sub_at {S : List (Addr × Obj)} {h : Heap} (x : Sub S h) (i : Nat) (a : Addr) (o : Obj) (hi : S[i]? = some (a, o)) : h.get? a = some o := x _ (List.mem_of_getElem? hi)
/-- what stood, stands, but the objects at ls -/
noncomputable def KeepBut (ls : List Addr) (h h' : Heap) : Prop := ∀ b o, b ∉ ls → h.get? b = some o → h'.get? b = some o
theorem mem_sub {h h' : Heap} {chg news : List (Addr × Obj)} (D : Mem h h' chg news) : Sub news h' := fun q m => (D.nw q m).1
theorem mem_fresh {h h' : Heap} {chg news : List (Addr × Obj)} (D : Mem h h' chg news) : Fresh news h := fun q m => (D.nw q m).2
theorem keep_one {h h' : Heap} {l : Addr} {o : Obj} {news : List (Addr × Obj)} (D : Mem h h' [(l, o)] news) : KeepBut [l] h h' := fun b ob hb e => by
  refine D.keep b ob e (Bool.or_eq_true_iff.mpr (.inr ?_))
  unfold away
  simp only [List.all_cons, List.all_nil, Bool.and_true, Bool.not_eq_true']
  cases q : Nat.beq l b with
  | false => rfl
  | true => exact absurd (.head _) ((Nat.eq_of_beq_eq_true q) ▸ hb)
set_option hygiene false in
local macro_rules | `(tactic| x_close) => `(tactic| (
   have DD := (by assumption : Mem _ _ _ _)
   exact hret _ _ _ _ _ (keep_one DD) (mem_sub DD) (mem_fresh DD) (DD.atC 0 _ _ rfl)
     ⟨fun h x => ⟨_, _, _, _, _, _, _, _, _, _, _, _, _, sub_at x 25 _ _ rfl, sub_at x 16 _ _ rfl, ⟨_, _, _, sub_at x 17 _ _ rfl, ⟨_, _, _, _, _, sub_at x 18 _ _ rfl⟩⟩, ⟨_, _, _, sub_at x 8 _ _ rfl, ⟨_, _, _, _, _, sub_at x 9 _ _ rfl⟩⟩, sub_at x 32 _ _ rfl⟩,
        .inr ⟨_, _, _, _, rfl, fun h x => ⟨⟨_, _, _, _, _, sub_at x 26 _ _ rfl⟩, ⟨_, _, _, _, _, sub_at x 18 _ _ rfl⟩, ⟨_, _, _, _, _, sub_at x 9 _ _ rfl⟩, ⟨_, _, _, _, _, sub_at x 1 _ _ rfl⟩⟩⟩⟩))
theorem hit_x1 {w : World} {s : Shared} {n : Int} {t : Tok} {sl : Array (Option Value)} {Q E : Value → Shared → Prop} (X : (K2 w.params).In s.heap)
    (h4 : s.heap.get? (nat_lit 4) = some ⟨.type "module", some 0, .plain, sl⟩)
    (hret : ∀ a h' tk S ps, KeepBut [37] s.heap h' → Sub S h' → Fresh S s.heap → h'.get? (nat_lit 37) = some (tabObj ps) →
      ((∀ h, Sub S h → HitAt h a n) ∧ (ps = #[] ∨ ∃ c0 c1 c2 c3, ps = tab37 c0 c1 c2 c3 ∧ ∀ h, Sub S h → CodeX h c0 hitQ ∧ CodeX h c1 hitQ ∧ CodeX h c2 hitQ ∧ CodeX h c3 hitQ)) → Q (.ref a) { s with heap := h', toks := tk }) :
    wpAny (model PR w) (AR 700 600 none none) (call (.ref 42) [.int n t]) Q E s := by
  have : (fun P : Params => K2 P) = K2 ∧ PySem.Challenge.rw_pg0028_01 = PySem.Challenge.rw_pg0028_01 := by k_fill; exact ⟨rfl, rfl⟩
  clear this
  x_run
end Mine
end

section  -- H2
open PySem PySem.W PySem.W.X PySem.Calls PyProof.Rows
set_option maxRecDepth 100000
set_option maxHeartbeats 8000000
namespace Mine
noncomputable def K3 (P : Params) : Frag := Prod.mk (α := Nat) (nat_lit 2) (ob 2 P) :: Prod.mk (α := Nat) (nat_lit 3) (ob 3 P) :: Prod.mk (α := Nat) (nat_lit 6) (ob 6 P) :: Prod.mk (α := Nat) (nat_lit 15) (ob 15 P) :: Prod.mk (α := Nat) (nat_lit 17) (ob 17 P) :: Prod.mk (α := Nat) (nat_lit 18) (ob 18 P) :: Prod.mk (α := Nat) (nat_lit 20) (ob 20 P) :: Prod.mk (α := Nat) (nat_lit 21) (ob 21 P) :: Prod.mk (α := Nat) (nat_lit 22) (ob 22 P) :: Prod.mk (α := Nat) (nat_lit 24) (ob 24 P) :: Prod.mk (α := Nat) (nat_lit 25) (ob 25 P) :: Prod.mk (α := Nat) (nat_lit 27) (ob 27 P) :: Prod.mk (α := Nat) (nat_lit 28) (ob 28 P) :: Prod.mk (α := Nat) (nat_lit 29) (ob 29 P) :: Prod.mk (α := Nat) (nat_lit 31) (ob 31 P) :: Prod.mk (α := Nat) (nat_lit 32) (ob 32 P) :: Prod.mk (α := Nat) (nat_lit 34) (ob 34 P) :: Prod.mk (α := Nat) (nat_lit 35) (ob 35 P) :: Prod.mk (α := Nat) (nat_lit 36) (ob 36 P) :: Prod.mk (α := Nat) (nat_lit 38) (ob 38 P) :: Prod.mk (α := Nat) (nat_lit 39) (ob 39 P) :: Prod.mk (α := Nat) (nat_lit 41) (ob 41 P) :: Prod.mk (α := Nat) (nat_lit 42) (ob 42 P) :: Prod.mk (α := Nat) (nat_lit 43) (ob 43 P) :: Prod.mk (α := Nat) (nat_lit 45) (ob 45 P) :: Prod.mk (α := Nat) (nat_lit 46) (ob 46 P) :: Prod.mk (α := Nat) (nat_lit 48) (ob 48 P) :: Prod.mk (α := Nat) (nat_lit 49) (ob 49 P) :: Prod.mk (α := Nat) (nat_lit 50) (ob 50 P) :: Prod.mk (α := Nat) (nat_lit 53) (ob 53 P) :: Prod.mk (α := Nat) (nat_lit 54) (ob 54 P) :: Prod.mk (α := Nat) (nat_lit 55) (ob 55 P) :: Prod.mk (α := Nat) (nat_lit 57) (ob 57 P) :: Prod.mk (α := Nat) (nat_lit 58) (ob 58 P) :: Prod.mk (α := Nat) (nat_lit 60) (ob 60 P) :: Prod.mk (α := Nat) (nat_lit 61) (ob 61 P) :: Prod.mk (α := Nat) (nat_lit 62) (ob 62 P) :: Prod.mk (α := Nat) (nat_lit 64) (ob 64 P) :: Prod.mk (α := Nat) (nat_lit 65) (ob 65 P) :: Prod.mk (α := Nat) (nat_lit 67) (ob 67 P) :: Prod.mk (α := Nat) (nat_lit 68) (ob 68 P) :: Prod.mk (α := Nat) (nat_lit 69) (ob 69 P) :: Prod.mk (α := Nat) (nat_lit 71) (ob 71 P) :: Prod.mk (α := Nat) (nat_lit 72) (ob 72 P) :: Prod.mk (α := Nat) (nat_lit 74) (ob 74 P) :: Prod.mk (α := Nat) (nat_lit 75) (ob 75 P) :: Prod.mk (α := Nat) (nat_lit 76) (ob 76 P) :: Prod.mk (α := Nat) (nat_lit 79) (ob 79 P) :: Prod.mk (α := Nat) (nat_lit 80) (ob 80 P) :: []
theorem keepMem {h h' : Heap} {news : List (Addr × Obj)} (D : Mem h h' [] news) : Keep h h' := fun b ob e => D.keep b ob e (Bool.or_eq_true_iff.mpr (.inr rfl))
set_option hygiene false in
local macro_rules | `(tactic| x_close) => `(tactic| (
   have DD := (by assumption : Mem _ _ _ _)
   exact hret _ _ _ _ (keepMem DD) (mem_sub DD) (mem_fresh DD)
     (fun h k x => ⟨_, _, _, _, _, _, _, _, _, _, _, _, _, sub_at x 7 _ _ rfl, sub_at x 4 _ _ rfl, ⟨_, _, _, sub_at x 5 _ _ rfl, k.1⟩, ⟨_, _, _, sub_at x 2 _ _ rfl, k.2⟩, sub_at x 8 _ _ rfl⟩)))
theorem hit_x2 {w : World} {s : Shared} {n : Int} {t : Tok} {c0 c1 c2 c3 : Nat} {sl : Array (Option Value)} {Q E : Value → Shared → Prop} (X : (K3 w.params).In s.heap)
    (h4 : s.heap.get? (nat_lit 4) = some ⟨.type "module", some 0, .plain, sl⟩)
    (h37 : s.heap.get? (nat_lit 37) = some ⟨.none, none, .fields (tab37 c0 c1 c2 c3), #[]⟩)
    (hret : ∀ a h' tk S, Keep s.heap h' → Sub S h' → Fresh S s.heap → (∀ h, (CodeX h c1 hitQ ∧ CodeX h c2 hitQ) → Sub S h → HitAt h a n) → Q (.ref a) { s with heap := h', toks := tk }) :
    wpAny (model PR w) (AR 700 600 none none) (call (.ref 42) [.int n t]) Q E s := by
  have : (fun P : Params => K3 P) = K3 ∧ PySem.Challenge.rw_pg0028_01 = PySem.Challenge.rw_pg0028_01 := by k_fill; exact ⟨rfl, rfl⟩
  clear this
  x_run
end Mine
end

section  -- H3
open PySem PySem.W PySem.W.X PySem.Calls PyProof.Rows
set_option maxRecDepth 100000
set_option maxHeartbeats 8000000
namespace Mine
noncomputable def K4 (P : Params) : Frag := Prod.mk (α := Nat) (nat_lit 44) (⟨.none, none, .fields #[], #[]⟩) :: Prod.mk (α := Nat) (nat_lit 2) (ob 2 P) :: Prod.mk (α := Nat) (nat_lit 3) (ob 3 P) :: Prod.mk (α := Nat) (nat_lit 6) (ob 6 P) :: Prod.mk (α := Nat) (nat_lit 15) (ob 15 P) :: Prod.mk (α := Nat) (nat_lit 17) (ob 17 P) :: Prod.mk (α := Nat) (nat_lit 18) (ob 18 P) :: Prod.mk (α := Nat) (nat_lit 20) (ob 20 P) :: Prod.mk (α := Nat) (nat_lit 21) (ob 21 P) :: Prod.mk (α := Nat) (nat_lit 22) (ob 22 P) :: Prod.mk (α := Nat) (nat_lit 24) (ob 24 P) :: Prod.mk (α := Nat) (nat_lit 25) (ob 25 P) :: Prod.mk (α := Nat) (nat_lit 27) (ob 27 P) :: Prod.mk (α := Nat) (nat_lit 28) (ob 28 P) :: Prod.mk (α := Nat) (nat_lit 29) (ob 29 P) :: Prod.mk (α := Nat) (nat_lit 31) (ob 31 P) :: Prod.mk (α := Nat) (nat_lit 32) (ob 32 P) :: Prod.mk (α := Nat) (nat_lit 34) (ob 34 P) :: Prod.mk (α := Nat) (nat_lit 35) (ob 35 P) :: Prod.mk (α := Nat) (nat_lit 36) (ob 36 P) :: Prod.mk (α := Nat) (nat_lit 38) (ob 38 P) :: Prod.mk (α := Nat) (nat_lit 39) (ob 39 P) :: Prod.mk (α := Nat) (nat_lit 41) (ob 41 P) :: Prod.mk (α := Nat) (nat_lit 42) (ob 42 P) :: Prod.mk (α := Nat) (nat_lit 43) (ob 43 P) :: Prod.mk (α := Nat) (nat_lit 45) (ob 45 P) :: Prod.mk (α := Nat) (nat_lit 46) (ob 46 P) :: Prod.mk (α := Nat) (nat_lit 48) (ob 48 P) :: Prod.mk (α := Nat) (nat_lit 49) (ob 49 P) :: Prod.mk (α := Nat) (nat_lit 50) (ob 50 P) :: Prod.mk (α := Nat) (nat_lit 53) (ob 53 P) :: Prod.mk (α := Nat) (nat_lit 54) (ob 54 P) :: Prod.mk (α := Nat) (nat_lit 55) (ob 55 P) :: Prod.mk (α := Nat) (nat_lit 57) (ob 57 P) :: Prod.mk (α := Nat) (nat_lit 58) (ob 58 P) :: Prod.mk (α := Nat) (nat_lit 60) (ob 60 P) :: Prod.mk (α := Nat) (nat_lit 61) (ob 61 P) :: Prod.mk (α := Nat) (nat_lit 62) (ob 62 P) :: Prod.mk (α := Nat) (nat_lit 64) (ob 64 P) :: Prod.mk (α := Nat) (nat_lit 65) (ob 65 P) :: Prod.mk (α := Nat) (nat_lit 67) (ob 67 P) :: Prod.mk (α := Nat) (nat_lit 68) (ob 68 P) :: Prod.mk (α := Nat) (nat_lit 69) (ob 69 P) :: Prod.mk (α := Nat) (nat_lit 71) (ob 71 P) :: Prod.mk (α := Nat) (nat_lit 72) (ob 72 P) :: Prod.mk (α := Nat) (nat_lit 74) (ob 74 P) :: Prod.mk (α := Nat) (nat_lit 75) (ob 75 P) :: Prod.mk (α := Nat) (nat_lit 76) (ob 76 P) :: Prod.mk (α := Nat) (nat_lit 79) (ob 79 P) :: Prod.mk (α := Nat) (nat_lit 80) (ob 80 P) :: []
noncomputable def searchDef : Arguments × List Stmt × Scope × Pos := match ((defAt 7)[0]? : Option Stmt) with | some (Stmt.FunctionDef _ params body _ _ _ scope _ _ pos) => (params, body, scope, pos) | _ => default
noncomputable def finLam : Arguments × PySem.Expr × Scope × Pos := ((defAt 7)[1]?.bind lamOf).getD default
noncomputable def searchQ : Str := Str.ofString "_law_finder" ++ Str.ofString ".<locals>." ++ Str.ofString "_law_search"
noncomputable abbrev searchObj (cell dflt : Addr) (doc pm : Value) (c : Addr) (ctv : Value) : Obj :=
  kdv_obj (Str.ofString "_law_search") searchQ searchDef.1 (.stmts searchDef.2.1) searchDef.2.2.1 [(Str.ofString "given", cell)] (.ref dflt) doc pm c ctv
/-- a finder lies at fa, that keeps its hits in the list at gl -/
inductive FinderAt (h : Heap) (fa gl : Addr) : Prop
  | mk (d : Addr) (fd : FuncData) (hh : Int) (t : Tok) (sa dflt : Addr) (t0 : Tok) (cell : Addr) (doc pm : Value) (c : Addr) (ctv : Value)
      (e1 : h.get? fa = some ⟨.type "function", some d, .func fd, #[]⟩) (e2 : h.get? d = some ⟨.type "dict", none, .dict #[⟨hh, .str (Str.ofString "search") t, .ref sa⟩] 1, #[]⟩)
      (e3 : h.get? sa = some (searchObj cell dflt doc pm c ctv)) (x : CodeX h c searchQ) (e4 : h.get? dflt = some (kdv_tup [.int 0 t0])) (e5 : h.get? cell = some ⟨.type "cell", none, .cell (some (.ref gl)), #[]⟩)
noncomputable abbrev tab44 (c0 c1 : Addr) : Array Value := #[rawInt searchDef.2.2.2.line, rawInt searchDef.2.2.2.col, .ref c0, rawInt finLam.2.2.2.line, rawInt finLam.2.2.2.col, .ref c1]
set_option hygiene false in
local macro_rules | `(tactic| x_close) => `(tactic| (
   have DD := (by assumption : Mem _ _ _ _)
   exact hret _ _ _ _ _ (keep_one DD) (mem_sub DD) (mem_fresh DD) (DD.atC 0 _ _ rfl)
     ⟨fun h x => ⟨_, _, _, _, _, _, _, _, _, _, _, _, sub_at x 1 _ _ rfl, sub_at x 0 _ _ rfl, sub_at x 8 _ _ rfl, ⟨_, _, _, _, _, sub_at x 9 _ _ rfl⟩, sub_at x 14 _ _ rfl, sub_at x 15 _ _ rfl⟩,
       .inr ⟨_, _, rfl, fun h x => ⟨_, _, _, _, _, sub_at x 9 _ _ rfl⟩⟩⟩))
theorem fin_x1 {w : World} {s : Shared} {gl : Nat} {sl : Array (Option Value)} {Q E : Value → Shared → Prop} (X : (K4 w.params).In s.heap)
    (h4 : s.heap.get? (nat_lit 4) = some ⟨.type "module", some 0, .plain, sl⟩)
    (hret : ∀ a h' tk S ps, KeepBut [44] s.heap h' → Sub S h' → Fresh S s.heap → h'.get? (nat_lit 44) = some (tabObj ps) →
      ((∀ h, Sub S h → FinderAt h a gl) ∧ (ps = #[] ∨ ∃ c0 c1, ps = tab44 c0 c1 ∧ ∀ h, Sub S h → CodeX h c0 searchQ)) → Q (.ref a) { s with heap := h', toks := tk }) :
    wpAny (model PR w) (AR 700 600 none none) (call (.ref 49) [.ref gl]) Q E s := by
  have : (fun P : Params => K4 P) = K4 ∧ PySem.Challenge.rw_pg0028_01 = PySem.Challenge.rw_pg0028_01 := by k_fill; exact ⟨rfl, rfl⟩
  clear this
  x_run
end Mine
end

section  -- H4
open PySem PySem.W PySem.W.X PySem.Calls PyProof.Rows
set_option maxRecDepth 100000
set_option maxHeartbeats 8000000
namespace Mine
set_option hygiene false in
local macro_rules | `(tactic| x_close) => `(tactic| (
   have DD := (by assumption : Mem _ _ _ _)
   exact hret _ _ _ _ (keepMem DD) (mem_sub DD) (mem_fresh DD)
     (fun h k x => ⟨_, _, _, _, _, _, _, _, _, _, _, _, sub_at x 1 _ _ rfl, sub_at x 0 _ _ rfl, sub_at x 2 _ _ rfl, k, sub_at x 4 _ _ rfl, sub_at x 5 _ _ rfl⟩)))
theorem fin_x2 {w : World} {s : Shared} {gl c0 c1 : Nat} {sl : Array (Option Value)} {Q E : Value → Shared → Prop} (X : (K3 w.params).In s.heap)
    (h4 : s.heap.get? (nat_lit 4) = some ⟨.type "module", some 0, .plain, sl⟩)
    (h44 : s.heap.get? (nat_lit 44) = some ⟨.none, none, .fields (tab44 c0 c1), #[]⟩)
    (hret : ∀ a h' tk S, Keep s.heap h' → Sub S h' → Fresh S s.heap → (∀ h, CodeX h c0 searchQ → Sub S h → FinderAt h a gl) → Q (.ref a) { s with heap := h', toks := tk }) :
    wpAny (model PR w) (AR 700 600 none none) (call (.ref 49) [.ref gl]) Q E s := by
  have : (fun P : Params => K3 P) = K3 ∧ PySem.Challenge.rw_pg0028_01 = PySem.Challenge.rw_pg0028_01 := by k_fill; exact ⟨rfl, rfl⟩
  clear this
  x_run
end Mine
end

section  -- H5
open PySem PySem.W PySem.W.X PySem.Calls PyProof.Rows
set_option maxRecDepth 100000
set_option maxHeartbeats 1000000
namespace Mine
/-- less told of the surroundings -/
theorem wpAny_less {α : Type} {M : Model} {A A' : Around} {t : Sem α} {Q : α → Shared → Prop} {E : Value → Shared → Prop} {s : Shared} (h : wpAny M A' t Q E s)
    (hh : A.handled = A'.handled) (hd : A.depth ≤ A'.depth) (hf : A'.frames = none) (hg : A'.guards = none) (hu : A.units ≤ A'.units) : wpAny M A t Q E s := by
  intro Γ p hΓ
  refine h Γ p ⟨hΓ.1.trans hh, Nat.le_trans hΓ.2.1 hd, ?_, ?_, Nat.le_trans hΓ.2.2.2.2 hu⟩
  · intro l e; rw [hf] at e; cases e
  · intro g e; rw [hg] at e; cases e
theorem fa0 : typeLookup (.type "function") "__getattribute__" = pure (some (.builtin "object.__getattribute__")) := by rw [typeLookup_type, builtinLookup_eq_fast]; kernel_rfl
theorem fa2 : typeLookup (.type "function") "__getattr__" = pure none := by rw [typeLookup_type, builtinLookup_eq_fast]; kernel_rfl
theorem fa3 : typeLookup (.type "function") "start" = pure none := by rw [typeLookup_type, builtinLookup_eq_fast]; kernel_rfl
theorem fa4 : typeLookup (.type "function") "span" = pure none := by rw [typeLookup_type, builtinLookup_eq_fast]; kernel_rfl
theorem fa5 : typeLookup (.type "function") "search" = pure none := by rw [typeLookup_type, builtinLookup_eq_fast]; kernel_rfl
set_option hygiene false in
local macro_rules | `(tactic| x_close) => `(tactic| exact hret _)
theorem gat_start {w : World} {s : Shared} {a d : Nat} {fd : FuncData} {h1 h2 h3 : Int} {t1 t2 t3 t : Tok} {f1 f2 f3 : Nat} {Q E : Value → Shared → Prop}
    (ho : s.heap.get? a = some ⟨.type "function", some d, .func fd, #[]⟩) (hd : s.heap.get? d = some ⟨.type "dict", none, .dict #[⟨h1, .str (Str.ofString "span") t1, .ref f1⟩, ⟨h2, .str (Str.ofString "start") t2, .ref f2⟩, ⟨h3, .str (Str.ofString "end") t3, .ref f3⟩] 3, #[]⟩)
    (hret : ∀ tk, Q (.ref f2) { s with toks := tk }) :
    wpAny (model PR w) (AR 700 600 none none) (boundAndCalled (.builtin "object.__getattribute__") (.ref a) (.str (Str.ofString "start") t)) Q E s := by
  x_run
theorem gat_span {w : World} {s : Shared} {a d : Nat} {fd : FuncData} {h1 h2 h3 : Int} {t1 t2 t3 t : Tok} {f1 f2 f3 : Nat} {Q E : Value → Shared → Prop}
    (ho : s.heap.get? a = some ⟨.type "function", some d, .func fd, #[]⟩) (hd : s.heap.get? d = some ⟨.type "dict", none, .dict #[⟨h1, .str (Str.ofString "span") t1, .ref f1⟩, ⟨h2, .str (Str.ofString "start") t2, .ref f2⟩, ⟨h3, .str (Str.ofString "end") t3, .ref f3⟩] 3, #[]⟩)
    (hret : ∀ tk, Q (.ref f1) { s with toks := tk }) :
    wpAny (model PR w) (AR 700 600 none none) (boundAndCalled (.builtin "object.__getattribute__") (.ref a) (.str (Str.ofString "span") t)) Q E s := by
  x_run
theorem gat_search {w : World} {s : Shared} {a d : Nat} {fd : FuncData} {h1 : Int} {t1 t : Tok} {f1 : Nat} {Q E : Value → Shared → Prop}
    (ho : s.heap.get? a = some ⟨.type "function", some d, .func fd, #[]⟩) (hd : s.heap.get? d = some ⟨.type "dict", none, .dict #[⟨h1, .str (Str.ofString "search") t1, .ref f1⟩] 1, #[]⟩)
    (hret : ∀ tk, Q (.ref f1) { s with toks := tk }) :
    wpAny (model PR w) (AR 700 600 none none) (boundAndCalled (.builtin "object.__getattribute__") (.ref a) (.str (Str.ofString "search") t)) Q E s := by
  x_run
/-- a function object's own attribute -/
theorem getMethod_fn {M : Model} {A : Around} {E : Value → Shared → Prop} {s : Shared} {a d f : Addr} {fd : FuncData} {name : Str} {pl : Sem Bool} {Q : Value × List Value → Shared → Prop}
    (hn : typeLookup (.type "function") name = pure none)
    (ho : s.heap.get? a = some ⟨.type "function", some d, .func fd, #[]⟩)
    (hg : ∀ t (Q' : Value → Shared → Prop) (E' : Value → Shared → Prop), (∀ tk, Q' (.ref f) { s with toks := tk }) → wpAny M A (boundAndCalled (.builtin "object.__getattribute__") (.ref a) (.str name t)) Q' E' { s with toks := s.toks + 1 })
    (hret : ∀ tk, Q (.ref f, []) { s with toks := tk }) :
    wpAny M A (getMethod (.ref a) name pl) Q E s := by
  have hT : s.TypeIs (.ref a) "function" := ⟨_, ho, rfl⟩
  unfold getMethod
  refine wpAny_bind (wpAny_specialOf hT fa0 ?_)
  try dsimp only
  rw [if_neg (by decide +kernel)]
  refine wpAny_bind (wpAny_specialOf hT fa2 ?_)
  try dsimp only
  rw [if_neg (by decide)]
  refine wpAny_bind (wpAny_specialOf hT hn ?_)
  try dsimp only
  refine wpAny_bind ?_
  unfold getAttr
  refine wpAny_bind (wpAny_mkText ?_)
  unfold getAttrBy
  refine wpAny_holding (wpAny_bind (wpAny_typeOf (by exact ⟨_, ho, rfl⟩) ?_))
  refine wpAny_bind (wpAny_of_eq fa0 ?_)
  try dsimp only
  rw [if_neg (by decide)]
  unfold getAttrByItsOwn hookBefore
  rw [if_neg (by decide)]
  refine wpAny_bind (wpAny_pure ?_)
  refine wpAny_bind (wpAny_attempt (wpAny_holding ?_))
  unfold callGetattribute
  rw [if_neg (by decide)]
  refine hg _ _ _ fun tk => ?_
  exact wpAny_pure (wpAny_pure (hret tk))
section
variable {w : World} {A : Around} {E : Value → Shared → Prop} {s : Shared} {pl : Sem Bool} {Q : Value × List Value → Shared → Prop}
theorem getMethod_hit_start {a d : Addr} {fd : FuncData} {h1 h2 h3 : Int} {t1 t2 t3 : Tok} {f1 f2 f3 : Addr} (hh : A.handled = none) (hdp : A.depth ≤ 700) (hu : A.units ≤ 600)
    (ho : s.heap.get? a = some ⟨.type "function", some d, .func fd, #[]⟩) (hd : s.heap.get? d = some (hitDict h1 h2 h3 t1 t2 t3 f1 f2 f3))
    (hret : ∀ tk, Q (.ref f2, []) { s with toks := tk }) : wpAny (model PR w) A (getMethod (.ref a) (Str.ofString "start") pl) Q E s :=
  getMethod_fn fa3 ho (fun t Q' E' k => wpAny_less (gat_start (s := { s with toks := s.toks + 1 }) ho hd k) hh hdp rfl rfl hu) hret
theorem getMethod_hit_span {a d : Addr} {fd : FuncData} {h1 h2 h3 : Int} {t1 t2 t3 : Tok} {f1 f2 f3 : Addr} (hh : A.handled = none) (hdp : A.depth ≤ 700) (hu : A.units ≤ 600)
    (ho : s.heap.get? a = some ⟨.type "function", some d, .func fd, #[]⟩) (hd : s.heap.get? d = some (hitDict h1 h2 h3 t1 t2 t3 f1 f2 f3))
    (hret : ∀ tk, Q (.ref f1, []) { s with toks := tk }) : wpAny (model PR w) A (getMethod (.ref a) (Str.ofString "span") pl) Q E s :=
  getMethod_fn fa4 ho (fun t Q' E' k => wpAny_less (gat_span (s := { s with toks := s.toks + 1 }) ho hd k) hh hdp rfl rfl hu) hret
theorem getMethod_search {a d : Addr} {fd : FuncData} {h1 : Int} {t1 : Tok} {f1 : Addr} (hh : A.handled = none) (hdp : A.depth ≤ 700) (hu : A.units ≤ 600)
    (ho : s.heap.get? a = some ⟨.type "function", some d, .func fd, #[]⟩) (hd : s.heap.get? d = some ⟨.type "dict", none, .dict #[⟨h1, .str (Str.ofString "search") t1, .ref f1⟩] 1, #[]⟩)
    (hret : ∀ tk, Q (.ref f1, []) { s with toks := tk }) : wpAny (model PR w) A (getMethod (.ref a) (Str.ofString "search") pl) Q E s :=
  getMethod_fn fa5 ho (fun t Q' E' k => wpAny_less (gat_search (s := { s with toks := s.toks + 1 }) ho hd k) hh hdp rfl rfl hu) hret
end
end Mine
end

section  -- H6
open PySem PySem.W PySem.W.X PySem.Calls PyProof.Rows
set_option maxRecDepth 100000
set_option maxHeartbeats 1000000
namespace Mine
noncomputable abbrev lamFn (k : Nat) (cell : Addr) (pm : Value) (c : Addr) (ctv : Value) : FuncData :=
  kla_fn (Str.ofString "<lambda>") hitQ (hitLam k).1 (hitLam k).2.1 (hitLam k).2.2.1 [(Str.ofString "place", cell)] pm (.ref c) ctv
set_option hygiene false in
local macro_rules | `(tactic| x_close) => `(tactic| (first | exact hret _ _ (keepMem (by assumption)) | (have DD := (by assumption : Mem _ _ _ _); exact hret _ _ _ _ (keepMem DD) (mem_fresh DD _ (List.mem_of_getElem? (i := 0) rfl)) (DD.at 0 _ _ rfl))))
theorem call_start_x {w : World} {s : Shared} {f cell c : Nat} {p : Int} {t tq : Tok} {pm ctv x0 : Value} {dd : Option Addr} {rest : List Value} {sl : Array (Option Value)} {Q E : Value → Shared → Prop}
    (X : (K3 w.params).In s.heap)
    (hf : s.heap.get? f = some ⟨.type "function", none, .func (lamFn 2 cell pm c ctv), #[]⟩) (hcell : s.heap.get? cell = some ⟨.type "cell", none, .cell (some (.int p t)), #[]⟩)
    (hc : s.heap.get? c = some ⟨.type "code", dd, .fields ⟨x0 :: .str hitQ tq :: rest⟩, sl⟩)
    (hret : ∀ h' tk, Keep s.heap h' → Q (.int p t) { s with heap := h', toks := tk }) :
    wpAny (model PR w) (AR 700 600 none none) (call (.ref f) []) Q E s := by
  have : (fun P : Params => K3 P) = K3 ∧ PySem.Challenge.rw_pg0028_01 = PySem.Challenge.rw_pg0028_01 := by k_fill; exact ⟨rfl, rfl⟩
  clear this
  x_run
theorem call_span_x {w : World} {s : Shared} {f cell c : Nat} {p : Int} {t tq : Tok} {pm ctv x0 : Value} {dd : Option Addr} {rest : List Value} {sl : Array (Option Value)} {Q E : Value → Shared → Prop}
    (X : (K3 w.params).In s.heap) (hp0 : 0 ≤ p) (hp1 : p < 1000)
    (hf : s.heap.get? f = some ⟨.type "function", none, .func (lamFn 1 cell pm c ctv), #[]⟩) (hcell : s.heap.get? cell = some ⟨.type "cell", none, .cell (some (.int p t)), #[]⟩)
    (hc : s.heap.get? c = some ⟨.type "code", dd, .fields ⟨x0 :: .str hitQ tq :: rest⟩, sl⟩)
    (hret : ∀ P h' tk ta, Keep s.heap h' → s.heap.get? P = none → h'.get? P = some ⟨.type "tuple", none, .seq #[.int p t, .int (p + 1) ta], #[]⟩ → Q (.ref P) { s with heap := h', toks := tk }) :
    wpAny (model PR w) (AR 700 600 none none) (call (.ref f) []) Q E s := by
  have : (fun P : Params => K3 P) = K3 ∧ PySem.Challenge.rw_pg0028_01 = PySem.Challenge.rw_pg0028_01 := by k_fill; exact ⟨rfl, rfl⟩
  clear this
  x_run
end Mine
end

section  -- H7
open PySem PySem.W PySem.W.X PySem.Calls PyProof.Rows
set_option maxRecDepth 100000
set_option maxHeartbeats 1000000
namespace Mine
theorem K3_sub (P : Params) : ∀ p ∈ K3 P, (hd.heap_39 P).lookup p.1 = some p.2 := by
  unfold K3
  repeat (refine List.forall_mem_cons.mpr ⟨by rfl, ?_⟩)
  exact fun _ h => nomatch h
theorem K3_in {P : Params} {h : Heap} (X : (hd.heap_39 P).In h) : (K3 P).In h := fun a o e => X _ _ (K3_sub P _ (lookup_mem e))
theorem K2_in {P : Params} {h : Heap} (X : (hd.heap_39 P).In h) (e : h.get? 37 = some (tabObj #[])) : (K2 P).In h := fun a o q => by
  have m := lookup_mem (K := K2 P) q
  rcases List.mem_cons.mp m with r | r
  · cases r; exact e
  · exact X _ _ (K3_sub P _ r)
theorem K4_in {P : Params} {h : Heap} (X : (hd.heap_39 P).In h) (e : h.get? 44 = some (tabObj #[])) : (K4 P).In h := fun a o q => by
  have m := lookup_mem (K := K4 P) q
  rcases List.mem_cons.mp m with r | r
  · cases r; exact e
  · exact X _ _ (K3_sub P _ r)
/-- the module of the built-ins -/
noncomputable def Mod4 (h : Heap) : Prop := ∃ sl, h.get? 4 = some ⟨.type "module", some 0, .plain, sl⟩
theorem Keep.but {h h' : Heap} (k : Keep h h') (ls : List Addr) : KeepBut ls h h' := fun b o _ e => k b o e
theorem KeepBut.trans {ls : List Addr} {a b c : Heap} (x : KeepBut ls a b) (y : KeepBut ls b c) : KeepBut ls a c := fun q o n e => y q o n (x q o n e)
theorem KeepBut.more {ls ls' : List Addr} {a b : Heap} (x : KeepBut ls a b) (s : ∀ q ∈ ls, q ∈ ls') : KeepBut ls' a b := fun q o n e => x q o (fun m => n (s _ m)) e
/-- the table of _law_hit's codes: empty, or filled; its codes stand wherever C holds -/
noncomputable def T37S (ps : Array Value) (C : Heap → Prop) : Prop :=
  ps = #[] ∨ ∃ c0 c1 c2 c3, ps = tab37 c0 c1 c2 c3 ∧ ∀ h, C h → CodeX h c0 hitQ ∧ CodeX h c1 hitQ ∧ CodeX h c2 hitQ ∧ CodeX h c3 hitQ
noncomputable def T44S (ps : Array Value) (C : Heap → Prop) : Prop := ps = #[] ∨ ∃ c0 c1, ps = tab44 c0 c1 ∧ ∀ h, C h → CodeX h c0 searchQ
theorem T37S.mono {ps : Array Value} {C C' : Heap → Prop} (x : T37S ps C) (k : ∀ h, C' h → C h) : T37S ps C' := x.imp id fun ⟨c0, c1, c2, c3, e, q⟩ => ⟨c0, c1, c2, c3, e, fun h y => q h (k h y)⟩
theorem T44S.mono {ps : Array Value} {C C' : Heap → Prop} (x : T44S ps C) (k : ∀ h, C' h → C h) : T44S ps C' := x.imp id fun ⟨c0, c1, e, q⟩ => ⟨c0, c1, e, fun h y => q h (k h y)⟩
theorem cls_ne {h : Heap} {a b : Addr} {o o' : Obj} (e : h.get? a = some o) (e' : h.get? b = some o') (hc : o.cls ≠ o'.cls) : a ≠ b := by
  rintro rfl
  rw [e] at e'
  exact hc (congrArg Obj.cls (Option.some.inj e'))
theorem CodeX.but {h h' : Heap} {c P : Addr} {q : Str} {ps : Array Value} (x : CodeX h c q) (hP : h.get? P = some (tabObj ps)) (k : KeepBut [P] h h') : CodeX h' c q := by
  obtain ⟨dd, x0, t, rest, sl, e⟩ := x
  exact ⟨dd, x0, t, rest, sl, k _ _ (fun m => cls_ne e hP (by simp) (List.mem_singleton.mp m)) e⟩
section
variable {w : World} {A : Around} {E : Value → Shared → Prop} {s : Shared} {Q : Value → Shared → Prop}
theorem hit_c {n : Int} {t : Tok} {ps : Array Value} {C : Heap → Prop} (X : (hd.heap_39 w.params).In s.heap) (M : Mod4 s.heap) (e37 : s.heap.get? 37 = some (tabObj ps)) (T : T37S ps C) (hC : C s.heap) (hh : A.handled = none) (hdp : A.depth ≤ 700) (hu : A.units ≤ 600)
    (hret : ∀ a h' tk S ps', KeepBut [37] s.heap h' → Sub S h' → Fresh S s.heap → h'.get? 37 = some (tabObj ps') → T37S ps' (fun h => C h ∧ Sub S h) → (∀ h, C h → Sub S h → HitAt h a n) → Q (.ref a) { s with heap := h', toks := tk }) :
    wpAny (model PR w) A (call (.ref 42) [.int n t]) Q E s := by
  obtain ⟨sl, h4⟩ := M
  refine wpAny_less (A' := AR 700 600 none none) ?_ hh hdp rfl rfl hu
  rcases T with rfl | ⟨c0, c1, c2, c3, rfl, q⟩
  · exact hit_x1 (K2_in X e37) h4 fun a h' tk S ps' kb x1 x2 x3 x4 => hret a h' tk S ps' kb x1 x2 x3 (x4.2.imp id fun ⟨c0, c1, c2, c3, e, q⟩ => ⟨c0, c1, c2, c3, e, fun h y => q h y.2⟩) fun h _ y => x4.1 h y
  · exact hit_x2 (K3_in X) h4 e37 fun a h' tk S k x y z => hret a h' tk S _ (k.but _) x y (k _ _ e37) (.inr ⟨c0, c1, c2, c3, rfl, fun h y => q h y.1⟩) fun h c x => z h ⟨(q h c).2.1, (q h c).2.2.1⟩ x
theorem fin_c {gl : Addr} {ps : Array Value} {C : Heap → Prop} (X : (hd.heap_39 w.params).In s.heap) (M : Mod4 s.heap) (e44 : s.heap.get? 44 = some (tabObj ps)) (T : T44S ps C) (hh : A.handled = none) (hdp : A.depth ≤ 700) (hu : A.units ≤ 600)
    (hret : ∀ a h' tk S ps', KeepBut [44] s.heap h' → Sub S h' → Fresh S s.heap → h'.get? 44 = some (tabObj ps') → T44S ps' (fun h => C h ∧ Sub S h) → (∀ h, C h → Sub S h → FinderAt h a gl) → Q (.ref a) { s with heap := h', toks := tk }) :
    wpAny (model PR w) A (call (.ref 49) [.ref gl]) Q E s := by
  obtain ⟨sl, h4⟩ := M
  refine wpAny_less (A' := AR 700 600 none none) ?_ hh hdp rfl rfl hu
  rcases T with rfl | ⟨c0, c1, rfl, q⟩
  · exact fin_x1 (K4_in X e44) h4 fun a h' tk S ps' kb x1 x2 x3 x4 => hret a h' tk S ps' kb x1 x2 x3 (x4.2.imp id fun ⟨c0, c1, e, q⟩ => ⟨c0, c1, e, fun h y => q h y.2⟩) fun h _ y => x4.1 h y
  · exact fin_x2 (K3_in X) h4 e44 fun a h' tk S k x y z => hret a h' tk S _ (k.but _) x y (k _ _ e44) (.inr ⟨c0, c1, rfl, fun h y => q h y.1⟩) fun h c x => z h (q h c) x
theorem start_c {f cell : Addr} {p : Int} {t : Tok} (X : (hd.heap_39 w.params).In s.heap) (hf : LamAt s.heap 2 f cell) (hcell : s.heap.get? cell = some ⟨.type "cell", none, .cell (some (.int p t)), #[]⟩)
    (hh : A.handled = none) (hdp : A.depth ≤ 700) (hu : A.units ≤ 600) (hret : ∀ h' tk, Keep s.heap h' → Q (.int p t) { s with heap := h', toks := tk }) :
    wpAny (model PR w) A (call (.ref f) []) Q E s := by
  obtain ⟨pm, c, ctv, hf, dd, x0, tq, rest, sl, hc⟩ := hf
  exact wpAny_less (call_start_x (K3_in X) hf hcell hc hret) hh hdp rfl rfl hu
theorem span_c {f cell : Addr} {p : Int} {t : Tok} (X : (hd.heap_39 w.params).In s.heap) (hp0 : 0 ≤ p) (hp1 : p < 1000) (hf : LamAt s.heap 1 f cell) (hcell : s.heap.get? cell = some ⟨.type "cell", none, .cell (some (.int p t)), #[]⟩)
    (hh : A.handled = none) (hdp : A.depth ≤ 700) (hu : A.units ≤ 600)
    (hret : ∀ P h' tk ta, Keep s.heap h' → s.heap.get? P = none → h'.get? P = some (tupOf #[.int p t, .int (p + 1) ta]) → Q (.ref P) { s with heap := h', toks := tk }) :
    wpAny (model PR w) A (call (.ref f) []) Q E s := by
  obtain ⟨pm, c, ctv, hf, dd, x0, tq, rest, sl, hc⟩ := hf
  exact wpAny_less (call_span_x (K3_in X) hp0 hp1 hf hcell hc hret) hh hdp rfl rfl hu
end
end Mine
end

section  -- S1
open PySem PySem.W PySem.Calls PyProof.Rows
set_option maxRecDepth 100000
set_option maxHeartbeats 8000000
namespace Mine
/-- a def with its own names kept from around is entered; the base is the whole heap -/
theorem enterX {w : World} {A : Around} {s : Shared} {f : Addr} {args : Args} {binds : List (Str × Value)} {R : Result → Shared → Prop}
    {name qual : Str} {params : Arguments} {body : List Stmt} {scope : Scope} {cl : List (Str × Addr)} {dV doc pm ctv : Value} {c : Addr}
    (G : GI w s.heap) (ho : s.heap.get? f = some (kdv_obj name qual params (.stmts body) scope cl dV doc pm c ctv)) (hcd : CodeX s.heap c qual) (hroom : A.depth < recursionLimit)
    (hbind : BindsTo s (kdv_fn name qual params (.stmts body) scope cl dV doc pm (.ref c) ctv) args binds) (hloc : ∀ y ∈ binds, scope.names.lookup y.1 = some .local)
    (h : ∀ L h₁, Fr s.heap L h₁ (fun y => binds.reverse.lookup y) → News s.heap L h₁ [] →
      wpAny (model PR w) (A.deeper (envX qual scope L f (.ref c) cl)) (execs body (envX qual scope L f (.ref c) cl))
        (fun fl s' => R (.ok (.ret (match fl with | .ret v => v | _ => .none))) s')
        (fun e s' => wpAny (model PR w) (A.deeper (envX qual scope L f (.ref c) cl)) (leaving (envX qual scope L f (.ref c) cl) e) (fun _ s'' => R (.error e) s'') (fun e' s'' => R (.error e') s'') s')
        { s with heap := h₁, toks := s.toks + binds.length })
    (hco : scope.isCoroutine = false) (hgen : scope.isGenerator = false) (hk : scope.kind = .function) (hcell : ∀ x ∈ scope.names, x.2 ≠ .cell) :
    codeAny (model PR w) A (.call (.ref f) args) R s := by
  refine codeAny_call_function hroom ho rfl hco hgen rfl hcd.codeRec ?_
  refine hbind _ _ _ _ ?_
  refine wpAny_newFunctionEnv hcell hloc (fun h₁ hns hsb => ⟨G.nolimit.fresh _ hsb, ?_⟩) hk
  refine codeAny_func (h _ h₁ ⟨hns, fun b o e => hsb.extBut b o (Nat.ne_of_lt (Heap.lt_size e)) (Heap.get?_push_of_some _ e), Nat.le_refl _⟩ News.nil)
theorem K_no37 (P : Params) : (hd.heap_39 P).lookup 37 = none := by rfl
theorem K_no44 (P : Params) : (hd.heap_39 P).lookup 44 = none := by rfl
theorem GI.ghostT {w : World} {h : Heap} {l : Addr} {ps : Array Value} (g : GI w h) (hK : (hd.heap_39 w.params).lookup l = none) (hl : h.get? l = some (tabObj ps)) : GI w (Mine.ghost h l) := by
  have ns : ∀ {a : Addr} {m : Str → Option Value}, h.Ns a m → a ≠ l := by
    rintro a m ⟨o, es, ep, ho, hd, _⟩ rfl
    rw [hl] at ho; cases ho; cases hd
  refine ⟨fun a o e => ?_, ?_⟩
  · have hne : a ≠ l := by
      rintro rfl
      rw [hK] at e; cases e
    rw [Mine.ghost_ne hne]; exact g.K a o e
  · obtain ⟨mg, mb, t⟩ := g.T
    refine ⟨mg, mb, Ns_ghost t.g (ns t.g), Ns_ghost t.b (ns t.b), ?_, t.builtins, t.free⟩
    obtain ⟨mc, h1, h2⟩ := t.nolimit
    exact ⟨mc, Ns_ghost h1 (ns h1), h2⟩
theorem K_nocell (P : Params) : ((hd.heap_39 P).all fun p => match p.2.data with | .cell _ => false | _ => true) = true := by rfl
theorem GI.ghostC {w : World} {h : Heap} {l : Addr} {v : Option Value} (g : GI w h) (hl : h.get? l = some ⟨.type "cell", none, .cell v, #[]⟩) : GI w (Mine.ghost h l) := by
  have ns : ∀ {a : Addr} {m : Str → Option Value}, h.Ns a m → a ≠ l := by
    rintro a m ⟨o, es, ep, ho, hd, _⟩ rfl
    rw [hl] at ho; cases ho; cases hd
  refine ⟨fun a o e => ?_, ?_⟩
  · have hne : a ≠ l := by
      rintro rfl
      have h1 := List.all_eq_true.mp (K_nocell w.params) _ (lookup_mem e)
      have h2 := g.K a o e
      rw [hl] at h2; cases h2
      cases h1
    rw [Mine.ghost_ne hne]; exact g.K a o e
  · obtain ⟨mg, mb, t⟩ := g.T
    refine ⟨mg, mb, Ns_ghost t.g (ns t.g), Ns_ghost t.b (ns t.b), ?_, t.builtins, t.free⟩
    obtain ⟨mc, h1, h2⟩ := t.nolimit
    exact ⟨mc, Ns_ghost h1 (ns h1), h2⟩
theorem Fr.intoBut {h₀ h h' : Heap} {L : Addr} {m : Str → Option Value} {ls : List Addr} (F : Fr h₀ L h m) (k : KeepBut ls h h') (hL : L ∉ ls) (hls : ∀ q ∈ ls, h₀.get? q = none) : Fr h₀ L h' m := by
  refine ⟨?_, fun b o e => k b o (fun q => ?_) (F.keep b o e), F.above⟩
  · obtain ⟨o, es, ep, ho, r⟩ := F.ns
    exact ⟨o, es, ep, k _ _ hL ho, r⟩
  · rw [hls b q] at e; cases e
theorem News.intoBut {h₀ h h' : Heap} {L : Addr} {news : List (Addr × Obj)} {ls : List Addr} (N : News h₀ L h news) (k : KeepBut ls h h') (hne : ∀ p ∈ news, p.1 ∉ ls) : News h₀ L h' news :=
  fun p hp => ⟨k _ _ (hne p hp) (N p hp).1, (N p hp).2⟩
theorem News.put {h₀ h h' : Heap} {L a : Addr} {o o' : Obj} {news news' : List (Addr × Obj)} (N : News h₀ L h news) (hm : (a, o) ∈ news) (N' : News h₀ L h' news') (e : h'.get? a = some o') : News h₀ L h' ((a, o') :: news') := fun p hp => by
  rcases List.mem_cons.mp hp with rfl | hp
  · exact ⟨e, (N _ hm).2⟩
  · exact N' p hp
/-- the next K or L of the text, from k on -/
noncomputable def nextAt (x : Str) (k : Int) : Option Int :=
  if 0 ≤ Txt.find3 x (Str.ofString "K") k then (if 0 ≤ Txt.find3 x (Str.ofString "L") k then some (min (Txt.find3 x (Str.ofString "K") k) (Txt.find3 x (Str.ofString "L") k)) else some (Txt.find3 x (Str.ofString "K") k))
  else if 0 ≤ Txt.find3 x (Str.ofString "L") k then some (Txt.find3 x (Str.ofString "L") k) else none
theorem nextAt_both {x : Str} {k M : Int} (h1 : 0 ≤ Txt.find3 x (Str.ofString "K") k) (h2 : 0 ≤ Txt.find3 x (Str.ofString "L") k)
    (a : M = Txt.find3 x (Str.ofString "K") k ∨ M = Txt.find3 x (Str.ofString "L") k) (b : M ≤ Txt.find3 x (Str.ofString "K") k ∧ M ≤ Txt.find3 x (Str.ofString "L") k) : nextAt x k = some M := by
  rw [nextAt, if_pos h1, if_pos h2]
  congr 1; omega
theorem ghost_at {h : Heap} {l b : Addr} {o o' : Obj} (hl : h.get? l = some o') (e : h.get? b = some o) (hc : o.cls ≠ o'.cls) : (ghost h l).get? b = some o := by
  rw [ghost_ne (cls_ne e hl hc)]; exact e
theorem ghost_sub {h : Heap} {l b : Addr} {o : Obj} (e : (ghost h l).get? b = some o) : h.get? b = some o := ghost_keep _ _ _ _ e
theorem size_line {its : List Value} (h : its.length ≤ 1000) : its.toArray.size ≤ sizeLine := by rw [sizeLine_eq]; simp; omega
theorem getLast_neg {prog : Program} {w : World} {A : Around} {E : Value → Shared → Prop} {s : Shared} {l : Addr} {its : List Value} {x : Value} {t : Tok} {Q : Value → Shared → Prop} (hl : s.heap.IsList l (its ++ [x]).toArray) (h : Q x s) :
    wpAny (model prog w) A (getItem (.ref l) (.int (-1) t)) Q E s := by
  refine wpAny_getItem_list_neg (x := x) hl (by decide) (by simp; omega) (by decide) ?_ h
  have : (-1 + ((its ++ [x]).toArray.size : Int)).toNat = its.length := by simp; omega
  rw [this]; simp
theorem search_c {w : World} {dp un : Nat} {fr : Option (List Env)} {gd : Option (List Code)} {s : Shared} {sa cell dflt gl c : Addr} {doc pm ctv : Value} {t0 : Tok} {x : Str} {tx : Tok} {k : Int} {tk : Tok} {its : List Value} {nn : Nat} {args : Args} {R : Result → Shared → Prop}
    {ps : Array Value} {C : Heap → Prop} (G : GI w s.heap) (M : Mod4 s.heap) (h37 : s.heap.get? 37 = some (tabObj ps)) (T : T37S ps C) (hC : ∀ h, KeepBut [37, gl] s.heap h → C h) (hroom : dp ≤ 600) (hu : un ≤ 500)
    (ho : s.heap.get? sa = some (searchObj cell dflt doc pm c ctv)) (hcd : CodeX s.heap c searchQ) (hcell : s.heap.get? cell = some ⟨.type "cell", none, .cell (some (.ref gl)), #[]⟩)
    (hl : s.heap.get? gl = some (W.listOf its.toArray nn)) (hits : its.length ≤ 1000) (h0 : 0 ≤ k) (h1 : k ≤ 100) (hx : x.length ≤ 100)
    (hbind : BindsTo s (kdv_fn (Str.ofString "_law_search") searchQ searchDef.1 (.stmts searchDef.2.1) searchDef.2.2.1 [(Str.ofString "given", cell)] (.ref dflt) doc pm (.ref c) ctv) args [(Str.ofString "chars", .str x tx), (Str.ofString "at", .int k tk)])
    (hR0 : nextAt x k = none → ∀ h' tk, Keep s.heap h' → R (.ok (.ret .none)) { s with heap := h', toks := tk })
    (hR1 : ∀ p, nextAt x k = some p → ∀ a h' tk S ps' nn', KeepBut [37, gl] s.heap h' → Sub S h' → Fresh S s.heap → h'.get? 37 = some (tabObj ps') → h'.get? gl = some (W.listOf (its ++ [Value.ref a]).toArray nn') →
      T37S ps' (fun h => C h ∧ Sub S h) → (∀ h, C h → Sub S h → HitAt h a p) → R (.ok (.ret (.ref a))) { s with heap := h', toks := tk }) :
    codeAny (model PR w) (AR dp un fr gd) (.call (.ref sa) args) R s := by
  have ho' : ∃ sd, searchDef = sd ∧ s.heap.get? sa = some (kdv_obj (Str.ofString "_law_search") searchQ sd.1 (.stmts sd.2.1) sd.2.2.1 [(Str.ofString "given", cell)] (.ref dflt) doc pm c ctv) ∧
      BindsTo s (kdv_fn (Str.ofString "_law_search") searchQ sd.1 (.stmts sd.2.1) sd.2.2.1 [(Str.ofString "given", cell)] (.ref dflt) doc pm (.ref c) ctv) args [(Str.ofString "chars", .str x tx), (Str.ofString "at", .int k tk)] := ⟨_, rfl, ho, hbind⟩
  clear ho hbind
  obtain ⟨sd, hsd, ho, hbind⟩ := ho'
  conv at hsd => lhs; whnf
  subst hsd
  dsimp only at ho hbind
  refine enterX (binds := [(Str.ofString "chars", .str x tx), (Str.ofString "at", .int k tk)]) G ho hcd (by show dp < 1000; omega) hbind (locs rfl) ?_ rfl rfl rfl (by decide)
  intro L h₁ F N
  refine wpAny_noRaise ?_
  clear ho hbind
  have hne : gl ≠ 37 := by rintro rfl; rw [hl] at h37; cases h37
  have hl' : (ghost s.heap 37).get? gl = some (W.listOf its.toArray nn) := by rw [ghost_ne hne]; exact hl
  replace N := News.ghost F N h37
  replace F := Fr.ghost (l := 37) F
  replace N := News.ghost F N hl'
  replace F := Fr.ghost (l := gl) F
  have G' := (G.ghostT (K_no37 _) h37).ghostL hl'
  have hcell' : (ghost (ghost s.heap 37) gl).get? cell = some ⟨.type "cell", none, .cell (some (.ref gl)), #[]⟩ := by
    rw [ghost_ne (cls_ne hcell hl (by exact tyTy (by decide))), ghost_ne (cls_ne hcell h37 (by exact tyNone))]; exact hcell
  have K0 : ∀ {h : Heap} {m : Str → Option Value}, Fr (ghost (ghost (ghost s.heap 37) gl) cell) L h m → h.get? cell = some ⟨.type "cell", none, .cell (some (.ref gl)), #[]⟩ → KeepBut [37, gl] s.heap h := fun F e2 b o n e => by
    by_cases q : b = cell
    · subst q; rw [hcell] at e; cases e; exact e2
    · refine F.keep b o ?_
      rw [ghost_ne q, ghost_ne (fun q => n (by rw [q]; exact .tail _ (.head _))), ghost_ne (fun q => n (by rw [q]; exact .head _))]; exact e
  have M' : Mod4 (ghost (ghost (ghost s.heap 37) gl) cell) := by
    obtain ⟨sl, e⟩ := M
    exact ⟨sl, ghost_at hcell' (ghost_at hl' (ghost_at h37 e (by exact tyNone)) (by exact tyTy (by decide))) (by exact tyTy (by decide))⟩
  replace N := News.ghost F N hcell'
  replace F := Fr.ghost (l := cell) F
  replace G' := G'.ghostC hcell'
  clear hcell' hl'
  generalize ghost (ghost (ghost s.heap 37) gl) cell = g₀ at *
  have X := G'.K
  obtain ⟨mg, mb, TT⟩ := G'.T
  w_on
  have : (fun P : Params => hd.heap_39 P) = hd.heap_39 ∧ PySem.Challenge.rw_pg0028_01 = PySem.Challenge.rw_pg0028_01 := by k_fill; exact ⟨rfl, rfl⟩
  clear this
  (repeat' (first | ((fail_if_success (with_reducible show LCg.CompEnd _ _ _ _ _ _ _ _ _ _ _ _ _ _)); (fail_if_success (with_reducible show wpAny _ _ (exec (Stmt.If _ _ _ _) _) _ _ _)); (fail_if_success (with_reducible show wpAny _ _ (pyIter (Value.ref _)) _ _ _)); (fail_if_success (with_reducible show wpAny _ _ (call (Value.ref _) _) _ _ _)); (first | walk1 | (dsimp only; walk1)))))
  iterate 2 (
    all_goals (try (
      refine LCg.CompEnd.intro (by assumption) (by assumption : News _ _ _ ((_, _) :: (_, _) :: (_, _) :: _)) _ (fun _ hp => hp) ?off (by lcg_src) ?_
      case off => (with_reducible rename (_ ∧ _) ∧ _ => offS); exact ⟨offS.1, offS.2.1, offS.2.2.1, offS.2.2.2, True.intro⟩))
    all_goals ((repeat' (first | ((fail_if_success (with_reducible show LCg.CompEnd _ _ _ _ _ _ _ _ _ _ _ _ _ _)); (fail_if_success (with_reducible show wpAny _ _ (exec (Stmt.If _ _ _ _) _) _ _ _)); (fail_if_success (with_reducible show wpAny _ _ (pyIter (Value.ref _)) _ _ _)); (fail_if_success (with_reducible show wpAny _ _ (call (Value.ref _) _) _ _ _)); (first | walk1 | (dsimp only; walk1)))))))
  all_goals ((repeat' (first | ((fail_if_success (with_reducible show wpAny _ _ (eval (Expr.Name (Str.ofString "given") _) _) _ _ _)); (fail_if_success (with_reducible show wpAny _ _ (eval (Expr.Call (Expr.Attribute _ _ _) _ _ _) _) _ _ _)); (fail_if_success (with_reducible show wpAny _ _ (call (Value.ref _) _) _ _ _)); (first | walk1 | (dsimp only; walk1))))))
  -- none of the two
  all_goals first
    | (exfalso; (rename decide _ = true => hdec); simp at hdec; done)
    | skip
  iterate 3 (
      first | (refine' MethodCall_ ?_ ?he; case he => rfl) | skip
      refine' nameX_F (c := cell) ?N rfl ?m ?d ?_ ?k1 ?k2
      case N => k_asm
      case m => k_mem
      case d => rfl
      case k1 => rfl
      case k2 => rfl
      (repeat' (first | ((fail_if_success (with_reducible show wpAny _ _ (eval (Expr.Name (Str.ofString "given") _) _) _ _ _)); (fail_if_success (with_reducible show wpAny _ _ (eval (Expr.Call (Expr.Attribute _ _ _) _ _ _) _) _ _ _)); (fail_if_success (with_reducible show wpAny _ _ (call (Value.ref _) _) _ _ _)); (first | walk1 | (dsimp only; walk1)))))
      have F9 := (by assumption : Fr g₀ L _ _)
      have N9 := (by assumption : News g₀ L _ _)
      have n37 := N9 (37, tabObj ps) (by k_mem)
      have ngl := N9 (gl, W.listOf its.toArray nn) (by k_mem)
      have nce := N9 (cell, ⟨.type "cell", none, .cell (some (.ref gl)), #[]⟩) (by k_mem)
      have N3 : News g₀ L _ [(gl, W.listOf its.toArray nn), (cell, ⟨.type "cell", none, .cell (some (.ref gl)), #[]⟩)] := News.drop N9 (fcC (by k_mem) (fcC (by k_mem) fcN))
      have k9 := K0 F9 nce.1
      refine hit_c (C := C) (G'.K.keeps F9.keep) (let ⟨sl, e⟩ := M'; ⟨sl, F9.keep _ _ e⟩) n37.1 T (hC _ k9) (by rfl) (by show dp + 1 ≤ _; omega) (by show un + 3 ≤ _; omega) ?_
      intro a h9 t9 S ps9 kb x1 x2 x3 x4 x5
      dsimp only at kb x1 x2 x3 x4 x5 k9
      have hls : ∀ q ∈ [37], g₀.get? q = none := fun q m => by rw [List.mem_singleton.mp m]; exact n37.2.2
      have hL37 : L ∉ [37] := fun m => n37.2.1 (List.mem_singleton.mp m).symm
      have F4 := Fr.intoBut F9 kb hL37 hls
      have hc37 : cell ≠ 37 := cls_ne hcell h37 (by exact tyNone)
      have hcgl : cell ≠ gl := cls_ne hcell hl (by exact tyTy (by decide))
      have N4 := News.put N9 (a := 37) (o := tabObj ps) (by k_mem) (News.intoBut N3 kb (by
        intro p hp m
        have m' := List.mem_singleton.mp m
        rcases List.mem_cons.mp hp with rfl | hp
        · exact hne m'
        · rcases List.mem_cons.mp hp with rfl | hp
          · exact hc37 m'
          · cases hp)) x3
      -- what is fresh there was not here
      have x2' : Fresh S s.heap := fun q m => by
        cases e : s.heap.get? q.1 with
        | none => rfl
        | some o =>
          have z := x2 q m
          by_cases q1 : q.1 = 37
          · rw [q1, n37.1] at z; cases z
          · by_cases q2 : q.1 = gl
            · rw [q2, ngl.1] at z; cases z
            · rw [k9 _ _ (nin_cons q1 (nin_cons q2 nin_nil)) e] at z; cases z
      have hSgl : ∀ q ∈ S, q.1 ≠ gl := fun q m e => by have z := x2 q m; rw [e, ngl.1] at z; cases z
      clear F9 N9 N3 x2
      (repeat' (first | ((fail_if_success (with_reducible show wpAny _ _ (eval (Expr.Name (Str.ofString "given") _) _) _ _ _)); (fail_if_success (with_reducible show wpAny _ _ (subscriptTail _ _ _ _) _ _ _)); (fail_if_success (with_reducible show wpAny _ _ (call (Value.builtin "list.append") _) _ _ _)); (first | walk1 | (dsimp only; walk1)))))
      have hsz : its.toArray.size ≤ sizeLine := size_line hits
      refine wpAny_list_append_plain (l := gl) (items := its.toArray) ⟨nn, (N4 (gl, W.listOf its.toArray nn) (by k_mem)).1⟩ ?_ hsz
      intro h5 e5 sb
      obtain ⟨n5, e5⟩ := e5
      dsimp only at e5 sb ⊢
      have kgl : KeepBut [gl] h9 h5 := fun b o n e => (sb.2 b (fun q => n (by rw [q]; exact .head _))).trans e
      have F5 := Fr.intoBut F4 kgl (fun m => ngl.2.1 (List.mem_singleton.mp m).symm) (fun q m => by rw [List.mem_singleton.mp m]; exact ngl.2.2)
      have N5 := News.put N4 (a := gl) (o := W.listOf its.toArray nn) (by k_mem) (News.intoBut (News.drop (news := [(37, tabObj ps9), (cell, ⟨.type "cell", none, .cell (some (.ref gl)), #[]⟩)]) N4 (fcC (by k_mem) (fcC (by k_mem) fcN))) kgl (by
        intro p hp m
        have m' := List.mem_singleton.mp m
        rcases List.mem_cons.mp hp with rfl | hp
        · exact hne m'.symm
        · rcases List.mem_cons.mp hp with rfl | hp
          · exact hcgl m'
          · cases hp)) e5
      have k5 := K0 F5 (N5 (cell, ⟨.type "cell", none, .cell (some (.ref gl)), #[]⟩) (by k_mem)).1
      have s5 : Sub S h5 := fun q m => kgl _ _ (fun z => hSgl q m (List.mem_singleton.mp z)) (x1 q m)
      have t5 := (N5 (37, tabObj ps9) (by k_mem)).1
      have e5' : h5.get? gl = some (W.listOf (its ++ [Value.ref a]).toArray n5) := by rw [e5]; simp
      clear F4 N4
      (repeat' (first | ((fail_if_success (with_reducible show wpAny _ _ (eval (Expr.Name (Str.ofString "given") _) _) _ _ _)); (fail_if_success (with_reducible show wpAny _ _ (subscriptTail _ _ _ _) _ _ _)); (fail_if_success (with_reducible show wpAny _ _ (call (Value.builtin "list.append") _) _ _ _)); (first | walk1 | (dsimp only; walk1)))))
      refine' nameX_F (c := cell) ?N rfl ?m ?d ?_ ?k1 ?k2
      case N => k_asm
      case m => k_mem
      case d => rfl
      case k1 => rfl
      case k2 => rfl
      (repeat' (first | ((fail_if_success (with_reducible show wpAny _ _ (eval (Expr.Name (Str.ofString "given") _) _) _ _ _)); (fail_if_success (with_reducible show wpAny _ _ (subscriptTail _ _ _ _) _ _ _)); (fail_if_success (with_reducible show wpAny _ _ (call (Value.builtin "list.append") _) _ _ _)); (first | walk1 | (dsimp only; walk1)))))
      have hLi : h5.IsList gl (its ++ [Value.ref a]).toArray := isList_of e5'
      refine tail_any hLi.typeIs slot_list_getitem.lookup (getLast_neg hLi ?_) (by with_unfolding_all rfl)
      (repeat' (first | ((fail_if_success (with_reducible show wpAny _ _ (eval (Expr.Name (Str.ofString "given") _) _) _ _ _)); (fail_if_success (with_reducible show wpAny _ _ (subscriptTail _ _ _ _) _ _ _)); (fail_if_success (with_reducible show wpAny _ _ (call (Value.builtin "list.append") _) _ _ _)); (first | walk1 | (dsimp only; walk1)))))
      refine hR1 _ ?_ a h5 _ S ps9 n5 k5 s5 x2' t5 e5' x4 x5
      first
        | exact nextAt_both (by assumption) (by assumption) (by assumption) (by assumption)
        | (unfold nextAt; rw [if_pos (by assumption), if_neg (by assumption)]; done)
        | (unfold nextAt; rw [if_neg (by assumption), if_pos (by assumption)]; done)
        | (unfold nextAt; rw [if_pos (by assumption), if_neg (by assumption)]; congr 1; omega)
        | (unfold nextAt; rw [if_neg (by assumption), if_pos (by assumption)]; congr 1; omega))
  · have F9 := (by assumption : Fr g₀ L _ _)
    have N9 := (by assumption : News g₀ L _ _)
    have n37 := N9 (37, tabObj ps) (by k_mem)
    have ngl := N9 (gl, W.listOf its.toArray nn) (by k_mem)
    have nce := N9 (cell, ⟨.type "cell", none, .cell (some (.ref gl)), #[]⟩) (by k_mem)
    have k9 := K0 F9 nce.1
    refine hR0 ?_ _ _ (fun b o e => ?_)
    · unfold nextAt; rw [if_neg (by assumption), if_neg (by assumption)]
    · by_cases q1 : b = 37
      · subst q1; rw [h37] at e; cases e; exact n37.1
      · by_cases q2 : b = gl
        · subst q2; rw [hl] at e; cases e; exact ngl.1
        · exact k9 _ _ (nin_cons q1 (nin_cons q2 nin_nil)) e
end Mine
end

section  -- R0
open PySem PySem.W PySem.Calls PyProof.Rows
set_option maxRecDepth 100000
set_option maxHeartbeats 4000000
open PySem.Builtin.Str
namespace Mine
theorem fb1 : typeLookup (.type "function") "__bool__" = pure none := by rw [typeLookup_type, builtinLookup_eq_fast]; kernel_rfl
theorem fb2 : typeLookup (.type "function") "__len__" = pure none := by rw [typeLookup_type, builtinLookup_eq_fast]; kernel_rfl
theorem truthy_fn {M : Model} {A : Around} {E : Value → Shared → Prop} {s : Shared} {a : Addr} {Q : Bool → Shared → Prop} (hT : s.TypeIs (.ref a) "function") (h : Q true s) : wpAny M A (truthy (.ref a)) Q E s := by
  unfold truthy
  dsimp only
  unfold callSpecial?
  refine wpAny_bind (wpAny_bind (wpAny_specialOf hT fb1 ?_))
  refine wpAny_pure ?_
  dsimp only
  refine wpAny_bind (wpAny_specialOf hT fb2 ?_)
  exact wpAny_pure h
theorem K_str : Str.ofString "K" = (⟨#[75]⟩ : Str) := by decide
theorem L_str : Str.ofString "L" = (⟨#[76]⟩ : Str) := by decide
theorem fromIndex_nat {len : Nat} {k : Int} (h0 : 0 ≤ k) : fromIndex len k = k.toNat := by
  unfold fromIndex
  split <;> omega
noncomputable def cAt (x : Str) (v : Nat) : Nat := x.cps.getD v 0
noncomputable def isKL (c : Nat) : Prop := c = 75 ∨ c = 76
theorem nextAt_spec {x : Str} {k : Int} (h0 : 0 ≤ k) :
    (nextAt x k = none ∧ ∀ v : Nat, k ≤ v → v < x.length → ¬ isKL (cAt x v)) ∨
    ∃ p : Nat, nextAt x k = some (p : Int) ∧ k ≤ p ∧ p < x.length ∧ isKL (cAt x p) ∧ ∀ v : Nat, k ≤ v → v < p → ¬ isKL (cAt x v) := by
  have e := fromIndex_nat (len := x.length) h0
  have hK := StrLaws.find3_spec x 75 k
  have hL := StrLaws.find3_spec x 76 k
  rw [e] at hK hL
  unfold nextAt
  rw [K_str, L_str]
  rcases hK with ⟨e1, n1⟩ | ⟨p1, e1, a1, b1, c1, n1⟩ <;> rcases hL with ⟨e2, n2⟩ | ⟨p2, e2, a2, b2, c2, n2⟩ <;> rw [e1, e2]
  · refine .inl ⟨by simp, fun v hv hl => ?_⟩
    rintro (q | q)
    · exact n1 v (by omega) hl q
    · exact n2 v (by omega) hl q
  · refine .inr ⟨p2, by simp, by omega, b2, .inr c2, fun v hv hl => ?_⟩
    rintro (q | q)
    · exact n1 v (by omega) (by omega) q
    · exact n2 v (by omega) hl q
  · refine .inr ⟨p1, by simp, by omega, b1, .inl c1, fun v hv hl => ?_⟩
    rintro (q | q)
    · exact n1 v (by omega) hl q
    · exact n2 v (by omega) (by omega) q
  · by_cases hle : p1 ≤ p2
    · refine .inr ⟨p1, ?_, by omega, b1, .inl c1, fun v hv hl => ?_⟩
      · rw [if_pos (by omega), if_pos (by omega)]; congr 1; omega
      rintro (q | q)
      · exact n1 v (by omega) hl q
      · exact n2 v (by omega) (by omega) q
    · refine .inr ⟨p2, ?_, by omega, b2, .inr c2, fun v hv hl => ?_⟩
      · rw [if_pos (by omega), if_pos (by omega)]; congr 1; omega
      rintro (q | q)
      · exact n1 v (by omega) (by omega) q
      · exact n2 v (by omega) hl q
theorem nextAt_bounds {x : Str} {k p : Int} (h0 : 0 ≤ k) (h : nextAt x k = some p) : k ≤ p ∧ p < x.length := by
  rcases nextAt_spec h0 with ⟨e, _⟩ | ⟨q, e, a, b, _⟩
  · rw [e] at h; cases h
  · rw [e] at h; cases h; omega
/-- the loop of search_reverse: m stands at p, found is f -/
noncomputable def revFrom (x : Str) (col : Int) : Nat → Option Int → Int → Option Int
  | 0, f, _ => f
  | n + 1, f, p => if p < col then (match nextAt x (p + 1) with | none => some p | some q => revFrom x col n (some p) q) else f
noncomputable def revSpec (x : Str) (col : Int) : Option Int := match nextAt x 0 with | none => none | some p => revFrom x col 200 none p
end Mine
end

section  -- R1
open PySem PySem.W PySem.Calls PyProof.Rows
set_option maxRecDepth 100000
set_option maxHeartbeats 8000000
namespace Mine
theorem FinderAt.but {h h' : Heap} {fa gl : Addr} {ps : Array Value} {its : Array Value} {nn : Nat} (x : FinderAt h fa gl) (h37 : h.get? 37 = some (tabObj ps)) (hl : h.get? gl = some (W.listOf its nn)) (k : KeepBut [37, gl] h h') : FinderAt h' fa gl := by
  have kk : ∀ b o, o.cls ≠ .none → o.cls ≠ .type "list" → h.get? b = some o → h'.get? b = some o := fun b o n1 n2 e => k b o (by
    intro m
    rcases List.mem_cons.mp m with rfl | m
    · rw [h37] at e; cases e; exact n1 rfl
    · have := List.mem_singleton.mp m; subst this; rw [hl] at e; cases e; exact n2 rfl) e
  obtain ⟨d, fd, hh, t, sa, dflt, t0, cell, doc, pm, c, ctv, e1, e2, e3, ⟨dd, x0, tq, rest, sl, e4⟩, e5, e6⟩ := x
  exact ⟨d, fd, hh, t, sa, dflt, t0, cell, doc, pm, c, ctv, kk _ _ (by exact tyNone) (by exact tyTy (by decide)) e1, kk _ _ (by exact tyNone) (by exact tyTy (by decide)) e2, kk _ _ (by exact tyNone) (by exact tyTy (by decide)) e3, ⟨dd, x0, tq, rest, sl, kk _ _ (by exact tyNone) (by exact tyTy (by decide)) e4⟩, kk _ _ (by exact tyNone) (by exact tyTy (by decide)) e5, kk _ _ (by exact tyNone) (by exact tyTy (by decide)) e6⟩
theorem Sub.app {S S' : List (Addr × Obj)} {h : Heap} : Sub (S ++ S') h ↔ Sub S h ∧ Sub S' h :=
  ⟨fun x => ⟨fun q m => x q (List.mem_append_left _ m), fun q m => x q (List.mem_append_right _ m)⟩, fun x q m => (List.mem_append.mp m).elim (x.1 q) (x.2 q)⟩
theorem search_led {w : World} {dp un : Nat} {fr : Option (List Env)} {gd : Option (List Code)} {E : Value → Shared → Prop} {s : Shared} {g₀ : Heap} {L : Addr} {m : Str → Option Value} {S : List (Addr × Obj)} {sa cell dflt gl c : Addr} {doc pm ctv : Value} {t0 : Tok} {x : Str} {tx : Tok} {k : Int} {tk : Tok} {its : List Value} {nn : Nat} {vals : List Value} {ps : Array Value} {C : Heap → Prop} {Q : Value → Shared → Prop}
    (F : Fr g₀ L s.heap m) (N : News g₀ L s.heap ((37, tabObj ps) :: (gl, W.listOf its.toArray nn) :: S)) (hS : ∀ q ∈ S, q.1 ≠ 37 ∧ q.1 ≠ gl) (hne : gl ≠ 37) (G : GI w g₀) (M : Mod4 g₀) (T : T37S ps (fun h => C h ∧ Sub S h)) (hC : ∀ h, Keep g₀ h → C h) (hroom : dp ≤ 600) (hu : un ≤ 500)
    (ho : g₀.get? sa = some (searchObj cell dflt doc pm c ctv)) (hcd : CodeX g₀ c searchQ) (hcell : g₀.get? cell = some ⟨.type "cell", none, .cell (some (.ref gl)), #[]⟩)
    (hits : its.length ≤ 1000) (h0 : 0 ≤ k) (h1 : k ≤ 100) (hx : x.length ≤ 100)
    (hbind : BindsTo s (kdv_fn (Str.ofString "_law_search") searchQ searchDef.1 (.stmts searchDef.2.1) searchDef.2.2.1 [(Str.ofString "given", cell)] (.ref dflt) doc pm (.ref c) ctv) ⟨vals, []⟩ [(Str.ofString "chars", .str x tx), (Str.ofString "at", .int k tk)])
    (hR0 : nextAt x k = none → ∀ h' tk, Fr g₀ L h' m → News g₀ L h' ((37, tabObj ps) :: (gl, W.listOf its.toArray nn) :: S) → Q .none { s with heap := h', toks := tk })
    (hR1 : ∀ p, nextAt x k = some p → ∀ a h' tk S' ps' nn', Fr g₀ L h' m → News g₀ L h' ((37, tabObj ps') :: (gl, W.listOf (its ++ [Value.ref a]).toArray nn') :: S') → (∀ q ∈ S, q ∈ S') → (∀ q ∈ S', q.1 ≠ 37 ∧ q.1 ≠ gl) →
      T37S ps' (fun h => C h ∧ Sub S' h) → (∀ h, C h → Sub S' h → HitAt h a p) → Q (.ref a) { s with heap := h', toks := tk }) :
    wpAny (model PR w) (AR dp un fr gd) (call (.ref sa) vals) Q E s := by
  have n37 := N _ (.head _)
  have ngl := N _ (.tail _ (.head _))
  have keepG : ∀ h, KeepBut [37, gl] s.heap h → Keep g₀ h := fun h k b o e => k b o (by
    intro q
    rcases List.mem_cons.mp q with rfl | q
    · rw [n37.2.2] at e; cases e
    · have := List.mem_singleton.mp q; subst this; rw [ngl.2.2] at e; cases e) (F.keep b o e)
  have keepS : ∀ h, KeepBut [37, gl] s.heap h → Sub S h := fun h k q hq => k _ _ (nin_cons (hS q hq).1 (nin_cons (hS q hq).2 nin_nil)) (N q (.tail _ (.tail _ hq))).1
  refine wpAny_call (search_c (dflt := dflt) (t0 := t0) (ps := ps) (C := fun h => C h ∧ Sub S h) (its := its) (nn := nn) (G.keeps F.keep) (let ⟨sl, e⟩ := M; ⟨sl, F.keep _ _ e⟩) n37.1 T (fun h k => ⟨hC h (keepG h k), keepS h k⟩) hroom hu
    (F.keep _ _ ho) (hcd.keeps F.keep) (F.keep _ _ hcell) ngl.1 hits h0 h1 hx hbind ?_ ?_)
  · intro e h' tk k
    exact hR0 e h' tk (Fr.into F k) (News.into N k)
  · intro p e a h' tk S1 ps' nn' k x1 x2 x3 x4 x5 x6
    have hS1 : ∀ q ∈ S1, q.1 ≠ 37 ∧ q.1 ≠ gl ∧ q.1 ≠ L ∧ g₀.get? q.1 = none := fun q hq => by
      have z := x2 q hq
      refine ⟨fun e => ?_, fun e => ?_, fun e => ?_, ?_⟩
      · rw [e, n37.1] at z; cases z
      · rw [e, ngl.1] at z; cases z
      · obtain ⟨o, _, _, ho, _⟩ := F.ns
        rw [e, ho] at z; cases z
      · cases e : g₀.get? q.1 with
        | none => rfl
        | some o => rw [F.keep _ _ e] at z; cases z
    have hL : L ∉ [37, gl] := by
      intro q
      rcases List.mem_cons.mp q with q | q
      · exact n37.2.1 q.symm
      · exact ngl.2.1 (List.mem_singleton.mp q).symm
    refine hR1 p e a h' tk (S1 ++ S) ps' nn' (Fr.intoBut F k hL ?_) ?_ (fun q hq => List.mem_append_right _ hq) ?_ (x5.mono fun h y => ⟨⟨y.1, (Sub.app.mp y.2).2⟩, (Sub.app.mp y.2).1⟩) (fun h c y => x6 h ⟨c, (Sub.app.mp y).2⟩ (Sub.app.mp y).1)
    · intro q hq
      rcases List.mem_cons.mp hq with rfl | hq
      · exact n37.2.2
      · have := List.mem_singleton.mp hq; subst this; exact ngl.2.2
    · intro q hq
      rcases List.mem_cons.mp hq with rfl | hq
      · exact ⟨x3, n37.2⟩
      · rcases List.mem_cons.mp hq with rfl | hq
        · exact ⟨x4, ngl.2⟩
        · rcases List.mem_append.mp hq with hq | hq
          · exact ⟨x1 q hq, (hS1 q hq).2.2⟩
          · exact ⟨keepS h' k q hq, (N q (.tail _ (.tail _ hq))).2⟩
    · intro q hq
      rcases List.mem_append.mp hq with hq | hq
      · exact ⟨(hS1 q hq).1, (hS1 q hq).2.1⟩
      · exact hS q hq
theorem hitSpan {w : World} {A : Around} {E : Value → Shared → Prop} {s : Shared} {g₀ : Heap} {L : Addr} {m : Str → Option Value} {news : List (Addr × Obj)} {a : Addr} {p : Int} {pl : Sem Bool} {env : Env} {pos : Pos} {Q : Value → Shared → Prop}
    (F : Fr g₀ L s.heap m) (N : News g₀ L s.heap news) (X : (hd.heap_39 w.params).In s.heap) (HH : HitAt s.heap a p) (hp0 : 0 ≤ p) (hp1 : p < 1000) (hh : A.handled = none) (hdp : A.depth ≤ 700) (hu : A.units ≤ 600)
    (h : ∀ P h' tk ta t, Fr g₀ L h' m → News g₀ L h' ((P, tupOf #[.int p t, .int (p + 1) ta]) :: news) → Q (.ref P) { s with heap := h', toks := tk }) :
    wpAny (model PR w) A (getMethod (.ref a) (Str.ofString "span") pl) (fun fx s₂ => wpAny (model PR w) A (callWith pos fx.1 fx.2 (backTo pos (starEach [] env)) []) Q E s₂) E s := by
  obtain ⟨d', fd', u1, u2, u3, v1, v2, v3, w1, w2, w3, cell', t', e1, e2, e3, e4, e5⟩ := HH
  refine getMethod_hit_span hh hdp hu e1 e2 fun t1 => ?_
  have e3' := e3
  obtain ⟨pm, c, ctv, e3', _⟩ := e3'
  refine callWith_meth0 (o := lamObj 1 cell' pm c ctv) rfl e3' ?_
  refine span_c (s := { s with toks := t1 }) X hp0 hp1 e3 e5 hh hdp hu fun P h' tk ta k n e => ?_
  refine h P h' tk ta t' (Fr.into F k) fun q hq => ?_
  rcases List.mem_cons.mp hq with rfl | hq
  · refine ⟨e, fun z => ?_, ?_⟩
    · obtain ⟨o, _, _, ho, _⟩ := F.ns
      have z' : P = L := z
      rw [z'] at n
      have n' : s.heap.get? L = none := n
      rw [n'] at ho; cases ho
    · cases q : g₀.get? P with
      | none => rfl
      | some o =>
        have n' : s.heap.get? P = none := n
        rw [F.keep _ _ q] at n'; cases n'
  · exact ⟨k _ _ (N q hq).1, (N q hq).2⟩
theorem revFrom_stop {x : Str} {col : Int} {n : Nat} {f : Option Int} {p : Int} (h : ¬ p < col) : revFrom x col n f p = f := by
  cases n with
  | zero => rfl
  | succ n => rw [revFrom, if_neg h]
theorem revFrom_last {x : Str} {col : Int} {n : Nat} {f : Option Int} {p : Int} (h : p < col) (hn : 0 < n) (e : nextAt x (p + 1) = none) : revFrom x col n f p = some p := by
  obtain ⟨k, rfl⟩ : ∃ k, n = k + 1 := ⟨n - 1, by omega⟩
  rw [revFrom, if_pos h, e]
theorem revFrom_go {x : Str} {col : Int} {n : Nat} {f : Option Int} {p q : Int} (h : p < col) (hn : 0 < n) (e : nextAt x (p + 1) = some q) : revFrom x col n f p = revFrom x col (n - 1) (some p) q := by
  obtain ⟨k, rfl⟩ : ∃ k, n = k + 1 := ⟨n - 1, by omega⟩
  rw [revFrom, if_pos h, e]; rfl
/-- None, or a hit of the list -/
noncomputable def IsHitOpt (C : Heap → Prop) (its : List Value) (v : Value) : Option Int → Prop
  | none => v = .none
  | some p => ∃ a, v = .ref a ∧ Value.ref a ∈ its ∧ ∀ h, C h → HitAt h a p
/-- each item is an elder one, or a hit -/
noncomputable def AllHits (C : Heap → Prop) (its its' : List Value) : Prop := ∀ v ∈ its', v ∈ its ∨ ∃ a p, v = .ref a ∧ ∀ h, C h → HitAt h a p
theorem AllHits.mono {C C' : Heap → Prop} {its its' : List Value} (x : AllHits C its its') (k : ∀ h, C' h → C h) : AllHits C' its its' := fun v hv => (x v hv).imp id fun ⟨a, p, e, q⟩ => ⟨a, p, e, fun h c => q h (k h c)⟩
theorem AllHits.snoc {C : Heap → Prop} {its its' : List Value} {a : Addr} {p : Int} (x : AllHits C its its') (q : ∀ h, C h → HitAt h a p) : AllHits C its (its' ++ [Value.ref a]) := fun v hv => by
  rcases List.mem_append.mp hv with hv | hv
  · exact x v hv
  · exact .inr ⟨a, p, List.mem_singleton.mp hv, q⟩
/-- between two turns of search_reverse's loop -/
inductive RevJ (fa : Addr) (x : Str) (tx : Tok) (col : Int) (tc : Tok) (gl : Addr) (C : Heap → Prop) (its : List Value) (n : Nat) (m : Str → Option Value) : List (Addr × Obj) → Prop
  | mk (ma : Addr) (p : Int) (f : Option Int) (fv : Value) (its' : List Value) (nn' : Nat) (ps' : Array Value) (S : List (Addr × Obj)) (ti tj : Tok) :
    m (Str.ofString "prog") = some (.ref fa) → m (Str.ofString "chars") = some (.str x tx) → m (Str.ofString "col") = some (.int col tc) → m (Str.ofString "m") = some (.ref ma) → m (Str.ofString "found") = some fv → m (Str.ofString "i") = some (.int p ti) → m (Str.ofString "j") = some (.int (p + 1) tj) →
    (∀ q ∈ S, q.1 ≠ 37 ∧ q.1 ≠ gl) → T37S ps' (fun h => C h ∧ Sub S h) → (∀ h, C h → Sub S h → HitAt h ma p) → Value.ref ma ∈ its' → IsHitOpt (fun h => C h ∧ Sub S h) its' fv f → AllHits (fun h => C h ∧ Sub S h) its its' →
    0 ≤ p → p < x.length → revFrom x col n f p = revSpec x col → col < p + n → its'.length + n ≤ its.length + 201 → RevJ fa x tx col tc gl C its n m ((37, tabObj ps') :: (gl, W.listOf its'.toArray nn') :: S)
/-- behind it -/
inductive RevX (x : Str) (col : Int) (gl : Addr) (C : Heap → Prop) (its : List Value) (m : Str → Option Value) : List (Addr × Obj) → Prop
  | mk (fv : Value) (its' : List Value) (nn' : Nat) (ps' : Array Value) (S : List (Addr × Obj)) : m (Str.ofString "found") = some fv → (∀ q ∈ S, q.1 ≠ 37 ∧ q.1 ≠ gl) → T37S ps' (fun h => C h ∧ Sub S h) →
    IsHitOpt (fun h => C h ∧ Sub S h) its' fv (revSpec x col) → AllHits (fun h => C h ∧ Sub S h) its its' → its'.length ≤ its.length + 201 → RevX x col gl C its m ((37, tabObj ps') :: (gl, W.listOf its'.toArray nn') :: S)
theorem rev_c {w : World} {dp un : Nat} {fr : Option (List Env)} {gd : Option (List Code)} {s : Shared} {fa gl : Addr} {x : Str} {tx : Tok} {col : Int} {tc : Tok} {its : List Value} {nn : Nat} {ps : Array Value} {C : Heap → Prop} {R : Result → Shared → Prop}
    (G : GI w s.heap) (M : Mod4 s.heap) (h37 : s.heap.get? 37 = some (tabObj ps)) (T : T37S ps C) (hC : ∀ h, KeepBut [37, gl] s.heap h → C h) (hroom : dp ≤ 500) (hu : un ≤ 400)
    (FA : FinderAt s.heap fa gl) (hl : s.heap.get? gl = some (W.listOf its.toArray nn)) (hits : its.length ≤ 500) (h0 : 0 ≤ col) (h1 : col ≤ 100) (hx : x.length ≤ 100)
    (hR : ∀ v h' tk S' ps' its' nn', KeepBut [37, gl] s.heap h' → Sub S' h' → Fresh S' s.heap → h'.get? 37 = some (tabObj ps') → h'.get? gl = some (W.listOf its'.toArray nn') → its'.length ≤ its.length + 201 → T37S ps' (fun h => C h ∧ Sub S' h) →
      IsHitOpt (fun h => C h ∧ Sub S' h) its' v (revSpec x col) → AllHits (fun h => C h ∧ Sub S' h) its its' → R (.ok (.ret v)) { s with heap := h', toks := tk }) :
    codeAny (model PR w) (AR dp un fr gd) (.call (.ref 21) ⟨[.ref fa, .str x tx, .int col tc], []⟩) R s := by
  refine enterF (binds := [(Str.ofString "prog", .ref fa), (Str.ofString "chars", .str x tx), (Str.ofString "col", .int col tc)]) G (by exact rfl) (by exact rfl) (by show dp < 1000; omega) (BindsTo.of_eq (by exact rfl)) (locs rfl) ?_ rfl rfl rfl (by decide)
  intro L h₁ F N
  refine wpAny_noRaise ?_
  have hne : gl ≠ 37 := by rintro rfl; rw [hl] at h37; cases h37
  have hl' : (ghost s.heap 37).get? gl = some (W.listOf its.toArray nn) := by rw [ghost_ne hne]; exact hl
  replace N := News.ghost F N h37
  replace F := Fr.ghost (l := 37) F
  have K1 : KeepBut [37, gl] s.heap (ghost (ghost s.heap 37) gl) := fun b o n e => by
    rw [ghost_ne (fun q => n (by rw [q]; exact .tail _ (.head _))), ghost_ne (fun q => n (by rw [q]; exact .head _))]; exact e
  have M' : Mod4 (ghost (ghost s.heap 37) gl) := by
    obtain ⟨sl, e⟩ := M
    exact ⟨sl, ghost_at hl' (ghost_at h37 e (by exact tyNone)) (by exact tyTy (by decide))⟩
  replace N := News.ghost F N hl'
  replace F := Fr.ghost (l := gl) F
  have G' := (G.ghostT (K_no37 _) h37).ghostL hl'
  have FA' : FinderAt (ghost (ghost s.heap 37) gl) fa gl := FA.but h37 hl K1
  have K0 : ∀ {h : Heap} {m : Str → Option Value}, Fr (ghost (ghost s.heap 37) gl) L h m → KeepBut [37, gl] s.heap h := fun F b o n e => F.keep b o (K1 b o n e)
  clear hl'
  generalize ghost (ghost s.heap 37) gl = g₀ at *
  have X := G'.K
  obtain ⟨mg, mb, TT⟩ := G'.T
  obtain ⟨d, fd, hh, t, sa, dflt, t0, cell, doc, pm, c, ctv, f1, f2, f3, f4, f5, f6⟩ := FA'
  w_on
  have : (fun P : Params => hd.heap_39 P) = hd.heap_39 ∧ PySem.Challenge.rw_pg0028_01 = PySem.Challenge.rw_pg0028_01 := by k_fill; exact ⟨rfl, rfl⟩
  clear this
  (repeat' (first | ((fail_if_success (with_reducible show wpAny _ _ (exec (Stmt.While _ _ _ _) _) _ _ _)); (fail_if_success (with_reducible show wpAny _ _ (exec (Stmt.Try _ _ _ _ _) _) _ _ _)); (fail_if_success (with_reducible show wpAny _ _ (exec (Stmt.Assign _ (Expr.ListComp _ _ _ _) _) _) _ _ _)); (fail_if_success (with_reducible show wpAny _ _ (pyIter _) _ _ _)); (fail_if_success (with_reducible show wpAny _ _ (eval (Expr.Call (Expr.Attribute _ _ _) _ _ _) _) _ _ _)); (fail_if_success (with_reducible show wpAny _ _ (getMethod (Value.ref _) _ _) _ _ _)); (fail_if_success (with_reducible show wpAny _ _ (truthy (Value.ref _)) _ _ _)); (fail_if_success (with_reducible show wpAny _ _ (call (Value.ref _) _) _ _ _)); (first | walk1 | (dsimp only; walk1)))))
  refine' MethodCall_ ?_ ?he
  case he => rfl
  (repeat' (first | ((fail_if_success (with_reducible show wpAny _ _ (exec (Stmt.While _ _ _ _) _) _ _ _)); (fail_if_success (with_reducible show wpAny _ _ (exec (Stmt.Try _ _ _ _ _) _) _ _ _)); (fail_if_success (with_reducible show wpAny _ _ (exec (Stmt.Assign _ (Expr.ListComp _ _ _ _) _) _) _ _ _)); (fail_if_success (with_reducible show wpAny _ _ (pyIter _) _ _ _)); (fail_if_success (with_reducible show wpAny _ _ (eval (Expr.Call (Expr.Attribute _ _ _) _ _ _) _) _ _ _)); (fail_if_success (with_reducible show wpAny _ _ (getMethod (Value.ref _) _ _) _ _ _)); (fail_if_success (with_reducible show wpAny _ _ (truthy (Value.ref _)) _ _ _)); (fail_if_success (with_reducible show wpAny _ _ (call (Value.ref _) _) _ _ _)); (first | walk1 | (dsimp only; walk1)))))
  refine getMethod_search (by rfl) (by show dp + 1 ≤ _; omega) (by show un + 3 ≤ _; omega) (Fr.keep (by assumption) _ _ f1) (Fr.keep (by assumption) _ _ f2) ?_
  intro t1
  dsimp only
  refine' callWith_def (o := searchObj cell dflt doc pm c ctv) rfl ?_ ?he
  case he => rfl
  (repeat' (first | ((fail_if_success (with_reducible show wpAny _ _ (exec (Stmt.While _ _ _ _) _) _ _ _)); (fail_if_success (with_reducible show wpAny _ _ (exec (Stmt.Try _ _ _ _ _) _) _ _ _)); (fail_if_success (with_reducible show wpAny _ _ (exec (Stmt.Assign _ (Expr.ListComp _ _ _ _) _) _) _ _ _)); (fail_if_success (with_reducible show wpAny _ _ (pyIter _) _ _ _)); (fail_if_success (with_reducible show wpAny _ _ (eval (Expr.Call (Expr.Attribute _ _ _) _ _ _) _) _ _ _)); (fail_if_success (with_reducible show wpAny _ _ (getMethod (Value.ref _) _ _) _ _ _)); (fail_if_success (with_reducible show wpAny _ _ (truthy (Value.ref _)) _ _ _)); (fail_if_success (with_reducible show wpAny _ _ (call (Value.ref _) _) _ _ _)); (first | walk1 | (dsimp only; walk1)))))
  have F1 := (by assumption : Fr g₀ L _ _)
  have N1 := (by assumption : News g₀ L _ _)
  refine search_led (dp := dp + 1) (un := un + 3) (t0 := t0) (x := x) (k := 0) (C := C) (S := []) (its := its) (nn := nn) (ps := ps) (tx := tx) (tk := t0) F1 (News.drop N1 (fcC (by k_mem) (fcC (by k_mem) fcN))) fcN hne G' M' (T.mono fun h y => y.1) (fun h k => hC h fun b o n e => k b o (K1 b o n e)) (by omega) (by omega) f3 f4 f6 (by omega) (by omega) (by omega) hx ?_ ?_ ?_
  · refine BindsTo.of_defaults (by exact rfl) (F1.keep _ _ f5) rfl (by exact rfl) (by exact rfl)
  · intro hn h' tk F2 N2
    clear F N F1 N1
    dsimp only
    (repeat' (first | ((fail_if_success (with_reducible show wpAny _ _ (exec (Stmt.While _ _ _ _) _) _ _ _)); (fail_if_success (with_reducible show wpAny _ _ (exec (Stmt.Try _ _ _ _ _) _) _ _ _)); (fail_if_success (with_reducible show wpAny _ _ (exec (Stmt.Assign _ (Expr.ListComp _ _ _ _) _) _) _ _ _)); (fail_if_success (with_reducible show wpAny _ _ (pyIter _) _ _ _)); (fail_if_success (with_reducible show wpAny _ _ (eval (Expr.Call (Expr.Attribute _ _ _) _ _ _) _) _ _ _)); (fail_if_success (with_reducible show wpAny _ _ (getMethod (Value.ref _) _ _) _ _ _)); (fail_if_success (with_reducible show wpAny _ _ (truthy (Value.ref _)) _ _ _)); (fail_if_success (with_reducible show wpAny _ _ (call (Value.ref _) _) _ _ _)); (first | walk1 | (dsimp only; walk1)))))
    have F3 := (by assumption : Fr g₀ L _ _)
    have N3 := (by assumption : News g₀ L _ _)
    refine hR _ _ _ [] ps its nn (K0 F3) (fun q m => nomatch m) (fun q m => nomatch m) (N3 _ (.head _)).1 (N3 _ (.tail _ (.head _))).1 (by omega) (T.mono fun h y => y.1) ?_ (fun v hv => .inl hv)
    unfold revSpec
    rw [hn]; rfl
  · intro p hp a h' tk S ps2 nn2 F2 N2 _ hS2 T2 H2
    clear F N F1 N1
    dsimp only
    (repeat' (first | ((fail_if_success (with_reducible show wpAny _ _ (exec (Stmt.While _ _ _ _) _) _ _ _)); (fail_if_success (with_reducible show wpAny _ _ (exec (Stmt.Try _ _ _ _ _) _) _ _ _)); (fail_if_success (with_reducible show wpAny _ _ (exec (Stmt.Assign _ (Expr.ListComp _ _ _ _) _) _) _ _ _)); (fail_if_success (with_reducible show wpAny _ _ (pyIter _) _ _ _)); (fail_if_success (with_reducible show wpAny _ _ (eval (Expr.Call (Expr.Attribute _ _ _) _ _ _) _) _ _ _)); (fail_if_success (with_reducible show wpAny _ _ (getMethod (Value.ref _) _ _) _ _ _)); (fail_if_success (with_reducible show wpAny _ _ (truthy (Value.ref _)) _ _ _)); (fail_if_success (with_reducible show wpAny _ _ (call (Value.ref _) _) _ _ _)); (first | walk1 | (dsimp only; walk1)))))
    have F3 := (by assumption : Fr g₀ L _ _)
    have N3 := (by assumption : News g₀ L _ _)
    have hb := nextAt_bounds (by omega) hp
    have HH := H2 _ (hC _ (K0 F3)) (fun q m => (N3 q (.tail _ (.tail _ m))).1)
    obtain ⟨d', fd', u1, u2, u3, v1, v2, v3, w1, w2, w3, cell', t', e1, e2, e3, e4, e5⟩ := HH
    refine truthy_fn ⟨_, e1, rfl⟩ ?_
    (repeat' (first | ((fail_if_success (with_reducible show wpAny _ _ (exec (Stmt.While _ _ _ _) _) _ _ _)); (fail_if_success (with_reducible show wpAny _ _ (exec (Stmt.Try _ _ _ _ _) _) _ _ _)); (fail_if_success (with_reducible show wpAny _ _ (exec (Stmt.Assign _ (Expr.ListComp _ _ _ _) _) _) _ _ _)); (fail_if_success (with_reducible show wpAny _ _ (pyIter _) _ _ _)); (fail_if_success (with_reducible show wpAny _ _ (eval (Expr.Call (Expr.Attribute _ _ _) _ _ _) _) _ _ _)); (fail_if_success (with_reducible show wpAny _ _ (getMethod (Value.ref _) _ _) _ _ _)); (fail_if_success (with_reducible show wpAny _ _ (truthy (Value.ref _)) _ _ _)); (fail_if_success (with_reducible show wpAny _ _ (call (Value.ref _) _) _ _ _)); (first | walk1 | (dsimp only; walk1)))))
    refine' MethodCall_ ?_ ?he
    case he => rfl
    (repeat' (first | ((fail_if_success (with_reducible show wpAny _ _ (exec (Stmt.While _ _ _ _) _) _ _ _)); (fail_if_success (with_reducible show wpAny _ _ (exec (Stmt.Try _ _ _ _ _) _) _ _ _)); (fail_if_success (with_reducible show wpAny _ _ (exec (Stmt.Assign _ (Expr.ListComp _ _ _ _) _) _) _ _ _)); (fail_if_success (with_reducible show wpAny _ _ (pyIter _) _ _ _)); (fail_if_success (with_reducible show wpAny _ _ (eval (Expr.Call (Expr.Attribute _ _ _) _ _ _) _) _ _ _)); (fail_if_success (with_reducible show wpAny _ _ (getMethod (Value.ref _) _ _) _ _ _)); (fail_if_success (with_reducible show wpAny _ _ (truthy (Value.ref _)) _ _ _)); (fail_if_success (with_reducible show wpAny _ _ (call (Value.ref _) _) _ _ _)); (first | walk1 | (dsimp only; walk1)))))
    try clear F3
    try clear N3
    have F4 := (by assumption : Fr g₀ L _ _)
    have N4 := (by assumption : News g₀ L _ _)
    have HH := H2 _ (hC _ (K0 F4)) (fun q m => (N4 q (.tail _ (.tail _ m))).1)
    refine hitSpan F4 N4 (X.keeps F4.keep) HH (by omega) (by omega) (by rfl) (by show dp + 1 ≤ _; omega) (by show un + 3 ≤ _; omega) ?_
    intro P h5 tk5 ta5 t5 F5 N5
    clear F4 N4 HH
    dsimp only
    (repeat' (first | ((fail_if_success (with_reducible show wpAny _ _ (exec (Stmt.While _ _ _ _) _) _ _ _)); (fail_if_success (with_reducible show wpAny _ _ (exec (Stmt.Try _ _ _ _ _) _) _ _ _)); (fail_if_success (with_reducible show wpAny _ _ (exec (Stmt.Assign _ (Expr.ListComp _ _ _ _) _) _) _ _ _)); (fail_if_success (with_reducible show wpAny _ _ (pyIter _) _ _ _)); (fail_if_success (with_reducible show wpAny _ _ (eval (Expr.Call (Expr.Attribute _ _ _) _ _ _) _) _ _ _)); (fail_if_success (with_reducible show wpAny _ _ (getMethod (Value.ref _) _ _) _ _ _)); (fail_if_success (with_reducible show wpAny _ _ (truthy (Value.ref _)) _ _ _)); (fail_if_success (with_reducible show wpAny _ _ (call (Value.ref _) _) _ _ _)); (first | walk1 | (dsimp only; walk1)))))
    have F6 := (by assumption : Fr g₀ L _ _)
    have N6 := (by assumption : News g₀ L _ _)
    refine whileX (RevJ fa x tx col tc gl C its) (RevX x col gl C its)
      200 F6 (News.drop (news := (37, tabObj ps2) :: (gl, W.listOf (its ++ [Value.ref a]).toArray nn2) :: S) N6 (fun q m => .tail _ m)) ?_ ?_ ?_
    · refine ⟨a, p, none, .none, its ++ [Value.ref a], nn2, ps2, S, t5, ta5, rfl, rfl, rfl, rfl, rfl, rfl, rfl, hS2, T2, H2, by simp, rfl, AllHits.snoc (fun v hv => .inl hv) (fun h c => H2 h c.1 c.2), by omega, by omega, ?_, by omega, by simp⟩
      unfold revSpec
      rw [hp]
    · clear F6 N6 T2 H2 hS2
      rintro n m₁ news₁ h₂ tk₁ F N ⟨ma, p, f, fv, its', nn', ps', S, ti, tj, m1, m2, m3, m4, m5, m6, m7, hS, T1, H1, hma, hf, hall, hp0, hp1, hspec, hcol, hlen⟩
      replace F := Fr.setL F [(Str.ofString "prog", .ref fa), (Str.ofString "chars", .str x tx), (Str.ofString "col", .int col tc), (Str.ofString "m", .ref ma), (Str.ofString "found", fv), (Str.ofString "i", .int p ti), (Str.ofString "j", .int (p + 1) tj)] (fcC m1 (fcC m2 (fcC m3 (fcC m4 (fcC m5 (fcC m6 (fcC m7 fcN)))))))
      (repeat' (first | ((fail_if_success (with_reducible show wpAny _ _ (exec (Stmt.While _ _ _ _) _) _ _ _)); (fail_if_success (with_reducible show wpAny _ _ (exec (Stmt.Try _ _ _ _ _) _) _ _ _)); (fail_if_success (with_reducible show wpAny _ _ (exec (Stmt.Assign _ (Expr.ListComp _ _ _ _) _) _) _ _ _)); (fail_if_success (with_reducible show wpAny _ _ (pyIter _) _ _ _)); (fail_if_success (with_reducible show wpAny _ _ (eval (Expr.Call (Expr.Attribute _ _ _) _ _ _) _) _ _ _)); (fail_if_success (with_reducible show wpAny _ _ (getMethod (Value.ref _) _ _) _ _ _)); (fail_if_success (with_reducible show wpAny _ _ (truthy (Value.ref _)) _ _ _)); (fail_if_success (with_reducible show wpAny _ _ (call (Value.ref _) _) _ _ _)); (first | walk1 | (dsimp only; walk1)))))
      · exfalso; omega
      · refine' MethodCall_ ?_ ?he
        case he => rfl
        (repeat' (first | ((fail_if_success (with_reducible show wpAny _ _ (exec (Stmt.While _ _ _ _) _) _ _ _)); (fail_if_success (with_reducible show wpAny _ _ (exec (Stmt.Try _ _ _ _ _) _) _ _ _)); (fail_if_success (with_reducible show wpAny _ _ (exec (Stmt.Assign _ (Expr.ListComp _ _ _ _) _) _) _ _ _)); (fail_if_success (with_reducible show wpAny _ _ (pyIter _) _ _ _)); (fail_if_success (with_reducible show wpAny _ _ (eval (Expr.Call (Expr.Attribute _ _ _) _ _ _) _) _ _ _)); (fail_if_success (with_reducible show wpAny _ _ (getMethod (Value.ref _) _ _) _ _ _)); (fail_if_success (with_reducible show wpAny _ _ (truthy (Value.ref _)) _ _ _)); (fail_if_success (with_reducible show wpAny _ _ (call (Value.ref _) _) _ _ _)); (first | walk1 | (dsimp only; walk1)))))
        refine getMethod_search (by rfl) (by show dp + 1 ≤ _; omega) (by show un + 3 ≤ _; omega) (Fr.keep (by assumption) _ _ f1) (Fr.keep (by assumption) _ _ f2) ?_
        intro t1
        dsimp only
        refine' callWith_def (o := searchObj cell dflt doc pm c ctv) rfl ?_ ?he
        case he => rfl
        (repeat' (first | ((fail_if_success (with_reducible show wpAny _ _ (exec (Stmt.While _ _ _ _) _) _ _ _)); (fail_if_success (with_reducible show wpAny _ _ (exec (Stmt.Try _ _ _ _ _) _) _ _ _)); (fail_if_success (with_reducible show wpAny _ _ (exec (Stmt.Assign _ (Expr.ListComp _ _ _ _) _) _) _ _ _)); (fail_if_success (with_reducible show wpAny _ _ (pyIter _) _ _ _)); (fail_if_success (with_reducible show wpAny _ _ (eval (Expr.Call (Expr.Attribute _ _ _) _ _ _) _) _ _ _)); (fail_if_success (with_reducible show wpAny _ _ (getMethod (Value.ref _) _ _) _ _ _)); (fail_if_success (with_reducible show wpAny _ _ (truthy (Value.ref _)) _ _ _)); (fail_if_success (with_reducible show wpAny _ _ (call (Value.ref _) _) _ _ _)); (first | walk1 | (dsimp only; walk1)))))
        have F1 := (by assumption : Fr g₀ L _ _)
        have N1 := (by assumption : News g₀ L _ _)
        refine search_led (dp := dp + 1) (un := un + 3) (t0 := t0) (x := x) (k := p + 1) (C := C) (S := S) (its := its') (nn := nn') (ps := ps') (tx := tx) (tk := tj) F1 N1 hS hne G' M' T1 (fun h k => hC h fun b o n e => k b o (K1 b o n e)) (by omega) (by omega) f3 f4 f6 (by omega) (by omega) (by omega) hx ?_ ?_ ?_
        · refine BindsTo.of_defaults (by exact rfl) (F1.keep _ _ f5) rfl (by exact rfl) (by exact rfl)
        · intro hn h' tk F2 N2
          dsimp only
          (repeat' (first | ((fail_if_success (with_reducible show wpAny _ _ (exec (Stmt.While _ _ _ _) _) _ _ _)); (fail_if_success (with_reducible show wpAny _ _ (exec (Stmt.Try _ _ _ _ _) _) _ _ _)); (fail_if_success (with_reducible show wpAny _ _ (exec (Stmt.Assign _ (Expr.ListComp _ _ _ _) _) _) _ _ _)); (fail_if_success (with_reducible show wpAny _ _ (pyIter _) _ _ _)); (fail_if_success (with_reducible show wpAny _ _ (eval (Expr.Call (Expr.Attribute _ _ _) _ _ _) _) _ _ _)); (fail_if_success (with_reducible show wpAny _ _ (getMethod (Value.ref _) _ _) _ _ _)); (fail_if_success (with_reducible show wpAny _ _ (truthy (Value.ref _)) _ _ _)); (fail_if_success (with_reducible show wpAny _ _ (call (Value.ref _) _) _ _ _)); (first | walk1 | (dsimp only; walk1)))))
          have F3 := (by assumption : Fr g₀ L _ _)
          have N3 := (by assumption : News g₀ L _ _)
          refine exit_at F3 N3 (fun q m => m) ⟨.ref ma, its', nn', ps', S, rfl, hS, T1, ?_, hall, by omega⟩
          rw [← hspec, revFrom_last (by omega) (by omega) hn]
          exact ⟨ma, rfl, hma, fun h c => H1 h c.1 c.2⟩
        · intro p2 hp2 a2 h' tk S2 ps3 nn3 F2 N2 hSS hS2 T2 H2
          have hlt : p < col := by omega
          have hn0 : 0 < n := by omega
          have hq : p + 1 ≤ p2 := (nextAt_bounds (by omega) hp2).1
          clear F1 N1
          dsimp only
          (repeat' (first | ((fail_if_success (with_reducible show wpAny _ _ (exec (Stmt.While _ _ _ _) _) _ _ _)); (fail_if_success (with_reducible show wpAny _ _ (exec (Stmt.Try _ _ _ _ _) _) _ _ _)); (fail_if_success (with_reducible show wpAny _ _ (exec (Stmt.Assign _ (Expr.ListComp _ _ _ _) _) _) _ _ _)); (fail_if_success (with_reducible show wpAny _ _ (pyIter _) _ _ _)); (fail_if_success (with_reducible show wpAny _ _ (eval (Expr.Call (Expr.Attribute _ _ _) _ _ _) _) _ _ _)); (fail_if_success (with_reducible show wpAny _ _ (getMethod (Value.ref _) _ _) _ _ _)); (fail_if_success (with_reducible show wpAny _ _ (truthy (Value.ref _)) _ _ _)); (fail_if_success (with_reducible show wpAny _ _ (call (Value.ref _) _) _ _ _)); (first | walk1 | (dsimp only; walk1)))))
          have F3 := (by assumption : Fr g₀ L _ _)
          have N3 := (by assumption : News g₀ L _ _)
          have hb2 := nextAt_bounds (by omega) hp2
          have HH := H2 _ (hC _ (K0 F3)) (fun q m => (N3 q (.tail _ (.tail _ m))).1)
          obtain ⟨d', fd', u1, u2, u3, v1, v2, v3, w1, w2, w3, cell', t', e1, e2, e3, e4, e5⟩ := HH
          refine truthy_fn ⟨_, e1, rfl⟩ ?_
          clear e1 e2 e3 e4 e5
          (repeat' (first | ((fail_if_success (with_reducible show wpAny _ _ (exec (Stmt.While _ _ _ _) _) _ _ _)); (fail_if_success (with_reducible show wpAny _ _ (exec (Stmt.Try _ _ _ _ _) _) _ _ _)); (fail_if_success (with_reducible show wpAny _ _ (exec (Stmt.Assign _ (Expr.ListComp _ _ _ _) _) _) _ _ _)); (fail_if_success (with_reducible show wpAny _ _ (pyIter _) _ _ _)); (fail_if_success (with_reducible show wpAny _ _ (eval (Expr.Call (Expr.Attribute _ _ _) _ _ _) _) _ _ _)); (fail_if_success (with_reducible show wpAny _ _ (getMethod (Value.ref _) _ _) _ _ _)); (fail_if_success (with_reducible show wpAny _ _ (truthy (Value.ref _)) _ _ _)); (fail_if_success (with_reducible show wpAny _ _ (call (Value.ref _) _) _ _ _)); (first | walk1 | (dsimp only; walk1)))))
          refine' MethodCall_ ?_ ?he
          case he => rfl
          (repeat' (first | ((fail_if_success (with_reducible show wpAny _ _ (exec (Stmt.While _ _ _ _) _) _ _ _)); (fail_if_success (with_reducible show wpAny _ _ (exec (Stmt.Try _ _ _ _ _) _) _ _ _)); (fail_if_success (with_reducible show wpAny _ _ (exec (Stmt.Assign _ (Expr.ListComp _ _ _ _) _) _) _ _ _)); (fail_if_success (with_reducible show wpAny _ _ (pyIter _) _ _ _)); (fail_if_success (with_reducible show wpAny _ _ (eval (Expr.Call (Expr.Attribute _ _ _) _ _ _) _) _ _ _)); (fail_if_success (with_reducible show wpAny _ _ (getMethod (Value.ref _) _ _) _ _ _)); (fail_if_success (with_reducible show wpAny _ _ (truthy (Value.ref _)) _ _ _)); (fail_if_success (with_reducible show wpAny _ _ (call (Value.ref _) _) _ _ _)); (first | walk1 | (dsimp only; walk1)))))
          have F4 := (by assumption : Fr g₀ L _ _)
          have N4 := (by assumption : News g₀ L _ _)
          have HH := H2 _ (hC _ (K0 F4)) (fun q m => (N4 q (.tail _ (.tail _ m))).1)
          refine hitSpan F4 N4 (X.keeps F4.keep) HH (by omega) (by omega) (by rfl) (by show dp + 1 ≤ _; omega) (by show un + 3 ≤ _; omega) ?_
          intro P6 h6 tk6 ta6 t6 F6 N6
          clear F4 N4 HH
          dsimp only
          (repeat' (first | ((fail_if_success (with_reducible show wpAny _ _ (exec (Stmt.While _ _ _ _) _) _ _ _)); (fail_if_success (with_reducible show wpAny _ _ (exec (Stmt.Try _ _ _ _ _) _) _ _ _)); (fail_if_success (with_reducible show wpAny _ _ (exec (Stmt.Assign _ (Expr.ListComp _ _ _ _) _) _) _ _ _)); (fail_if_success (with_reducible show wpAny _ _ (pyIter _) _ _ _)); (fail_if_success (with_reducible show wpAny _ _ (eval (Expr.Call (Expr.Attribute _ _ _) _ _ _) _) _ _ _)); (fail_if_success (with_reducible show wpAny _ _ (getMethod (Value.ref _) _ _) _ _ _)); (fail_if_success (with_reducible show wpAny _ _ (truthy (Value.ref _)) _ _ _)); (fail_if_success (with_reducible show wpAny _ _ (call (Value.ref _) _) _ _ _)); (first | walk1 | (dsimp only; walk1)))))
          have F7 := (by assumption : Fr g₀ L _ _)
          have N7 := (by assumption : News g₀ L _ _)
          refine step3 (n - 1) F7 N7 (news₂ := (37, tabObj ps3) :: (gl, W.listOf (its' ++ [Value.ref a2]).toArray nn3) :: S2) (fun q m => .tail _ m) (Nat.sub_lt hn0 (by decide))
            ⟨a2, p2, some p, .ref ma, its' ++ [Value.ref a2], nn3, ps3, S2, t6, ta6, rfl, rfl, rfl, rfl, rfl, rfl, rfl, hS2, T2, H2, by simp, ⟨ma, rfl, by simp [hma], fun h c => H1 h c.1 fun q m => c.2 q (hSS q m)⟩, (hall.mono fun h c => ⟨c.1, fun q m => c.2 q (hSS q m)⟩).snoc (fun h c => H2 h c.1 c.2), by omega, by omega, ?_, by omega, by simp; omega⟩
          rw [← hspec, revFrom_go hlt hn0 hp2]
      · have F3 := (by assumption : Fr g₀ L _ _)
        have N3 := (by assumption : News g₀ L _ _)
        refine exit_at F3 N3 (fun q m => m) ⟨fv, its', nn', ps', S, rfl, hS, T1, ?_, hall, by omega⟩
        rw [← hspec, revFrom_stop (by assumption)]
        exact hf
    · rintro h tk m₁ news₁ F N ⟨fv, its', nn', ps', S, m5, hS, T1, hf, hall, hlen⟩
      replace F := Fr.setL F [(Str.ofString "found", fv)] (fcC m5 fcN)
      (repeat' (first | ((fail_if_success (with_reducible show wpAny _ _ (exec (Stmt.While _ _ _ _) _) _ _ _)); (fail_if_success (with_reducible show wpAny _ _ (exec (Stmt.Try _ _ _ _ _) _) _ _ _)); (fail_if_success (with_reducible show wpAny _ _ (exec (Stmt.Assign _ (Expr.ListComp _ _ _ _) _) _) _ _ _)); (fail_if_success (with_reducible show wpAny _ _ (pyIter _) _ _ _)); (fail_if_success (with_reducible show wpAny _ _ (eval (Expr.Call (Expr.Attribute _ _ _) _ _ _) _) _ _ _)); (fail_if_success (with_reducible show wpAny _ _ (getMethod (Value.ref _) _ _) _ _ _)); (fail_if_success (with_reducible show wpAny _ _ (truthy (Value.ref _)) _ _ _)); (fail_if_success (with_reducible show wpAny _ _ (call (Value.ref _) _) _ _ _)); (first | walk1 | (dsimp only; walk1)))))
      have F3 := (by assumption : Fr g₀ L _ _)
      have N3 := (by assumption : News g₀ L _ _)
      refine hR _ _ _ S ps' its' nn' (K0 F3) (fun q m => (N3 q (.tail _ (.tail _ m))).1) (fun q m => ?_) (N3 _ (.head _)).1 (N3 _ (.tail _ (.head _))).1 hlen T1 hf hall
      cases e : s.heap.get? q.1 with
      | none => rfl
      | some o =>
        have z := K1 _ _ (nin_cons (hS q m).1 (nin_cons (hS q m).2 nin_nil)) e
        rw [(N3 q (.tail _ (.tail _ m))).2.2] at z; cases z
end Mine
end

section  -- P0
open PySem PySem.W PySem.Calls PyProof.Rows
set_option maxRecDepth 100000
set_option maxHeartbeats 1000000
namespace Mine
noncomputable def lettersOf (ds : List Nat) : Str := ⟨(ds.map (65 + ·)).toArray⟩
noncomputable def sigs : List Nat := [48, 49, 50, 51, 52, 53, 54, 55, 56, 57, 43, 45, 46, 95, 32, 120]
noncomputable def signsOf (ds : List Nat) : Str := ⟨(ds.map fun d => sigs.getD d 0).toArray⟩
theorem lettersOf_length (ds : List Nat) : (lettersOf ds).length = ds.length := by simp [lettersOf, Str.length]
theorem signsOf_length (ds : List Nat) : (signsOf ds).length = ds.length := by simp [signsOf, Str.length]
theorem slice_letters {ds : List Nat} {p c : Nat} (h : p ≤ c) (hc : c ≤ ds.length) : Txt.slice (lettersOf ds) (some (p : Int)) (some (c : Int)) = lettersOf ((ds.take c).drop p) := by
  have e := eq_of_beq (slice_closesL (x := lettersOf ds) (i := (p : Int)) (j := (c : Int)) (by omega) (by omega) (by rw [lettersOf_length]; omega))
  rw [e]
  have e1 : ((p : Int)).toNat = p := by omega
  have e2 : ((c : Int) - (p : Int)).toNat = c - p := by omega
  rw [e1, e2]
  unfold lettersOf
  congr 1
  rw [List.drop_take]
  simp
theorem str_app (a b : Str) : (a ++ b).cps = a.cps ++ b.cps := rfl
theorem join_signs (ru : List Nat) : Txt.join (Str.ofString "") (ru.map fun d => (⟨#[sigs.getD d 0]⟩ : Str)) = signsOf ru := by
  unfold Txt.join
  rw [PySem.StrLaws.glued_eq_join]
  induction ru with
  | nil => rfl
  | cons d r ih =>
    cases r with
    | nil => rfl
    | cons d2 r2 =>
      rw [List.map_cons, List.map_cons]
      rw [List.map_cons] at ih
      show (⟨#[sigs.getD d 0]⟩ : Str) ++ Str.ofString "" ++ Str.join (Str.ofString "") _ = _
      rw [ih]
      apply Str.ext'
      have : (Str.ofString "").cps = #[] := by decide
      rw [str_app, str_app, this]
      simp [signsOf]
theorem dot_str : Str.ofString "." = (⟨#[46]⟩ : Str) := by decide
theorem sigs_lt : ∀ d : Nat, d < 16 → sigs.getD d 0 < 128 := by decide
theorem join_mem {y : Str} {c : Nat} : ∀ {l : List Str} {z : Str}, z ∈ l → c ∈ z.cps.toList → c ∈ (Str.join y l).cps.toList
  | [], _, hz, _ => nomatch hz
  | [a], z, hz, hc => by rw [List.mem_singleton.mp hz] at hc; exact hc
  | a :: b :: r, z, hz, hc => by
    show c ∈ (a ++ y ++ Str.join y (b :: r)).cps.toList
    rw [str_app, str_app, Array.toList_append, Array.toList_append]
    rcases List.mem_cons.mp hz with rfl | hz
    · exact List.mem_append_left _ (List.mem_append_left _ hc)
    · exact List.mem_append_right _ (join_mem hz hc)
theorem signs_short {ds : List Nat} (h : ∀ d ∈ ds, d < 16) (hl : ds.length ≤ 100) : ∀ z ∈ Txt.split (signsOf ds) (Str.ofString "."), ShortT z := by
  intro z hz
  have h1 := part_short hz
  rw [signsOf_length] at h1
  have h2 : ∀ c ∈ z.cps.toList, c < 128 := fun c hc => by
    have h3 := join_mem (y := Str.ofString ".") hz hc
    rw [StrLaws.join_split] at h3
    unfold signsOf at h3
    simp only [List.mem_map] at h3
    obtain ⟨d, hd, rfl⟩ := h3
    exact sigs_lt d (h d hd)
  refine ⟨by omega, ?_⟩
  have h4 := StrLaws.reprText_len z fun c hc => Nat.lt_of_lt_of_le (h2 c hc) (by decide)
  rw [sizeLine_eq]
  omega
end Mine
end

section  -- P1
open PySem PySem.W PySem.Calls PyProof.Rows PySem.NumText
set_option maxRecDepth 100000
set_option maxHeartbeats 1000000
namespace Mine
noncomputable abbrev sg (d : Nat) : Nat := sigs.getD d 0
noncomputable abbrev zs (l : List Nat) : List Int := List.map (fun d : Nat => (d : Int)) l
theorem rs14_cons (a : Int) (l : List Int) : rs14 (a :: l) = if rs14 l = [] ∧ a = 14 then [] else a :: rs14 l := by
  unfold rs14
  rw [List.reverse_cons, List.dropWhile_append]
  by_cases e : (l.reverse.dropWhile (· == 14)).isEmpty = true
  · rw [if_pos e]
    have e' := List.isEmpty_iff.mp e
    rw [e']
    by_cases q : a = 14
    · subst q; simp
    · simp [q]
  · rw [if_neg e]
    have e' : ¬ l.reverse.dropWhile (· == 14) = [] := fun h => e (List.isEmpty_iff.mpr h)
    rw [if_neg (by rintro ⟨h, _⟩; exact e' (List.reverse_eq_nil_iff.mp h))]
    simp
theorem ls14_cons (a : Int) (l : List Int) : ls14 (a :: l) = if a = 14 then ls14 l else a :: l := by
  unfold ls14
  by_cases q : a = 14
  · subst q; simp
  · simp [q]
theorem strip_comm : ∀ l : List Int, rs14 (ls14 l) = ls14 (rs14 l)
  | [] => rfl
  | a :: l => by
    have ih := strip_comm l
    rw [ls14_cons, rs14_cons]
    by_cases q : a = 14
    · rw [if_pos q, ih]
      by_cases e : rs14 l = []
      · rw [if_pos ⟨e, q⟩, e]
      · rw [if_neg (fun h => e h.1), ls14_cons, if_pos q]
    · rw [if_neg q, if_neg (fun h => q h.2), rs14_cons, if_neg (fun h => q h.2), ls14_cons, if_neg q]

/-- the worth of figures -/
noncomputable def valA (ds : Array Nat) : Int := ((ds.foldl (fun acc d => acc * 10 + d) 0 : Nat) : Int)
theorem valA_push (ds : Array Nat) (d : Nat) : valA (ds.push d) = 10 * valA ds + d := by
  unfold valA
  rw [Array.foldl_push]
  push_cast
  omega
theorem step_fig : ∀ d : Nat, d < 10 → ∀ (acc : Array Nat) (b : Bool), NumText.step 10 (acc, b) (sg d) = some (acc.push d, true) := by
  intro d hd acc b
  have h : sg d ≠ 95 ∧ digit? (sg d) = some d := by
    revert d; decide
  unfold NumText.step
  rw [if_neg (by simpa using h.1), h.2]
  exact if_pos hd
theorem step_low (acc : Array Nat) (b : Bool) : NumText.step 10 (acc, b) (sg 13) = if b then some (acc, false) else none := rfl
theorem step_bad : ∀ d : Nat, d < 16 → 10 ≤ d → d ≠ 13 → ∀ (acc : Array Nat) (b : Bool), NumText.step 10 (acc, b) (sg d) = none := by
  intro d h1 h2 h3 acc b
  have h : sg d ≠ 95 ∧ (digit? (sg d) = none ∨ digit? (sg d) = some 33) := by
    revert h1 h2 h3; revert d; decide
  unfold NumText.step
  rw [if_neg (by simpa using h.1)]
  rcases h.2 with e | e <;> rw [e] <;> rfl
noncomputable def lastD : List Nat → Nat → Nat
  | [], p => p
  | d :: r, _ => lastD r d
theorem fold_go : ∀ (l : List Nat) (acc : Array Nat) (p : Nat), (∀ d ∈ l, d < 16) →
    match numGo (zs l) p (valA acc) with
    | none => (l.map sg).foldlM (NumText.step 10) (acc, decide (p ≤ 9)) = none
    | some v => ∃ acc', (l.map sg).foldlM (NumText.step 10) (acc, decide (p ≤ 9)) = some (acc', decide (lastD l p ≤ 9)) ∧ valA acc' = v ∧ acc'.size ≤ acc.size + l.length
  | [], acc, p, _ => ⟨acc, rfl, rfl, Nat.le_refl _⟩
  | d :: r, acc, p, h => by
    have hd := h d (.head _)
    have hr : ∀ x ∈ r, x < 16 := fun x hx => h x (.tail _ hx)
    show match numGo ((d : Int) :: zs r) p (valA acc) with
      | none => (sg d :: r.map sg).foldlM (NumText.step 10) (acc, decide (p ≤ 9)) = none
      | some v => ∃ acc', (sg d :: r.map sg).foldlM (NumText.step 10) (acc, decide (p ≤ 9)) = some (acc', decide (lastD r d ≤ 9)) ∧ valA acc' = v ∧ acc'.size ≤ acc.size + (r.length + 1)
    rw [List.foldlM_cons, numGo]
    by_cases h10 : d < 10
    · rw [if_pos (by omega), step_fig d h10]
      have ih := fold_go r (acc.push d) d hr
      rw [valA_push, decide_eq_true (show d ≤ 9 by omega)] at ih
      show match numGo (zs r) d (10 * valA acc + d) with
        | none => (r.map sg).foldlM (NumText.step 10) (acc.push d, true) = none
        | some v => ∃ acc', (r.map sg).foldlM (NumText.step 10) (acc.push d, true) = some (acc', decide (lastD r d ≤ 9)) ∧ valA acc' = v ∧ acc'.size ≤ acc.size + (r.length + 1)
      cases e : numGo (zs r) d (10 * valA acc + d) with
      | none => rw [e] at ih; exact ih
      | some v =>
        rw [e] at ih
        obtain ⟨acc', h1, h2, h3⟩ := ih
        exact ⟨acc', h1, h2, by rw [Array.size_push] at h3; omega⟩
    · rw [if_neg (by omega)]
      by_cases h13 : d = 13
      · subst h13
        rw [step_low]
        by_cases hp : p ≤ 9
        · rw [if_pos ⟨rfl, by omega⟩, if_pos (decide_eq_true hp)]
          have ih := fold_go r acc 13 hr
          rw [decide_eq_false (show ¬ (13 : Nat) ≤ 9 by decide)] at ih
          show match numGo (zs r) ((13 : Nat) : Int) (valA acc) with
            | none => (r.map sg).foldlM (NumText.step 10) (acc, false) = none
            | some v => ∃ acc', (r.map sg).foldlM (NumText.step 10) (acc, false) = some (acc', decide (lastD r 13 ≤ 9)) ∧ valA acc' = v ∧ acc'.size ≤ acc.size + (r.length + 1)
          cases e : numGo (zs r) ((13 : Nat) : Int) (valA acc) with
          | none => rw [e] at ih; exact ih
          | some v =>
            rw [e] at ih
            obtain ⟨acc', h1, h2, h3⟩ := ih
            exact ⟨acc', h1, h2, by omega⟩
        · rw [if_neg (by rintro ⟨_, h⟩; omega), if_neg (by simpa using hp)]
          rfl
      · rw [if_neg (by rintro ⟨h, _⟩; omega), step_bad d hd (by omega) h13]
        rfl
theorem lastD_eq : ∀ (l : List Nat) (p : Nat), lastD l p = (p :: l).getD ((p :: l).length - 1) 0
  | [], p => rfl
  | d :: r, p => by
    have := lastD_eq r d
    show lastD r d = _
    rw [this]
    simp
theorem ints_getD (l : List Nat) (i : Nat) : (zs l).getD i 0 = ((l.getD i 0 : Nat) : Int) := by
  simp [zs, List.getD]
  cases l[i]? <;> simp
theorem digits_text {l : List Nat} (h : ∀ d ∈ l, d < 16) :
    match numBody (zs l) with
    | none => digits? 10 (l.map sg) = none
    | some v => ∃ ds, digits? 10 (l.map sg) = some ds ∧ valA ds = v ∧ ds.size ≤ l.length := by
  cases l with
  | nil => rfl
  | cons d r =>
    have hd := h d (.head _)
    have hr : ∀ x ∈ r, x < 16 := fun x hx => h x (.tail _ hx)
    have g0 : (zs (d :: r)).getD 0 0 = (d : Int) := rfl
    have gl : (zs (d :: r)).getD ((zs (d :: r)).length - 1) 0 = ((lastD r d : Nat) : Int) := by
      rw [ints_getD, lastD_eq]; simp [zs]
    unfold numBody digits?
    rw [g0, gl, List.map_cons, List.foldlM_cons]
    by_cases h10 : d < 10
    · rw [step_fig d h10]
      have ih := fold_go r (#[].push d) d hr
      have e0 : valA (#[].push d) = (d : Int) := by rw [valA_push]; simp [valA]
      rw [e0, decide_eq_true (show d ≤ 9 by omega)] at ih
      have eg : numGo (zs (d :: r)) 0 0 = numGo (zs r) d d := by
        show numGo ((d : Int) :: zs r) 0 0 = _
        rw [numGo, if_pos (by omega)]; rw [show (10 : Int) * 0 + (d : Int) = d by omega]
      rw [eg]
      show match (if zs (d :: r) = [] ∨ 9 < (d : Int) ∨ 9 < ((lastD r d : Nat) : Int) then none else numGo (zs r) d d) with
        | none => Option.bind ((r.map sg).foldlM (NumText.step 10) (#[].push d, true)) (fun p => if p.2 = true then some p.1 else none) = none
        | some v => ∃ ds, Option.bind ((r.map sg).foldlM (NumText.step 10) (#[].push d, true)) (fun p => if p.2 = true then some p.1 else none) = some ds ∧ valA ds = v ∧ ds.size ≤ (d :: r).length
      cases e : numGo (zs r) d d with
      | none =>
        rw [e] at ih
        have ih' : (r.map sg).foldlM (NumText.step 10) (#[].push d, true) = none := ih
        rw [ih']
        split <;> (rename_i q; split at q <;> first | rfl | cases q)
      | some v =>
        rw [e] at ih
        obtain ⟨acc', h1, h2, h3⟩ := ih
        rw [h1]
        by_cases hl : lastD r d ≤ 9
        · rw [if_neg (by rintro (q | q | q); cases q; omega; omega)]
          refine ⟨acc', ?_, h2, ?_⟩
          · show (if decide (lastD r d ≤ 9) = true then some acc' else none) = _
            rw [if_pos (decide_eq_true hl)]
          · simp at h3 ⊢; omega
        · rw [if_pos (by right; right; omega)]
          show (if decide (lastD r d ≤ 9) = true then some acc' else none) = _
          rw [if_neg (by simpa using hl)]
    · rw [if_pos (by right; left; omega)]
      show Option.bind (Option.bind (NumText.step 10 (#[], false) (sg d)) _) _ = none
      by_cases h13 : d = 13
      · subst h13; rfl
      · rw [step_bad d hd (by omega) h13]; rfl
theorem blank_sg : ∀ d : Nat, d < 16 → blank (sg d) = ((d : Int) == 14) := by decide
theorem drop_sg : ∀ l : List Nat, (∀ d ∈ l, d < 16) → ∃ r : List Nat, (l.map sg).dropWhile blank = r.map sg ∧ ls14 (zs l) = zs r ∧ ∀ d ∈ r, d ∈ l
  | [], _ => ⟨[], rfl, rfl, fun _ h => h⟩
  | d :: l, h => by
    obtain ⟨r, e1, e2, e3⟩ := drop_sg l fun x hx => h x (.tail _ hx)
    have hb := blank_sg d (h d (.head _))
    by_cases q : (d : Int) = 14
    · refine ⟨r, ?_, ?_, fun x hx => .tail _ (e3 x hx)⟩
      · rw [List.map_cons, List.dropWhile_cons, if_pos (by rw [hb]; simpa using q)]; exact e1
      · show ls14 ((d : Int) :: zs l) = _
        rw [ls14_cons, if_pos q]; exact e2
    · refine ⟨d :: l, ?_, ?_, fun x hx => hx⟩
      · rw [List.map_cons, List.dropWhile_cons, if_neg (by rw [hb]; simpa using q)]
      · show ls14 ((d : Int) :: zs l) = _
        rw [ls14_cons, if_neg q]; rfl
theorem rdrop_sg {l : List Nat} (h : ∀ d ∈ l, d < 16) : ∃ r : List Nat, ((l.map sg).reverse.dropWhile blank).reverse = r.map sg ∧ rs14 (zs l) = zs r ∧ ∀ d ∈ r, d ∈ l := by
  obtain ⟨r, e1, e2, e3⟩ := drop_sg l.reverse fun x hx => h x (List.mem_reverse.mp hx)
  refine ⟨r.reverse, ?_, ?_, fun d hd => List.mem_reverse.mp (e3 d (List.mem_reverse.mp hd))⟩
  · rw [← List.map_reverse, e1, List.map_reverse]
  · unfold rs14
    have : (zs l).reverse = zs l.reverse := by simp [zs]
    rw [this]
    have e2' : (zs l.reverse).dropWhile (· == 14) = zs r := e2
    rw [e2']
    simp [zs]
theorem sg_pos : ∀ d : Nat, d < 16 → sg d ≠ 0 ∧ sg d < 128 := by decide
theorem text_of {l : List Nat} (h : ∀ d ∈ l, d < 16) : numTextOf (signsOf l) = l.map sg ∧ numSeenOf (signsOf l) = l.map sg := by
  have e1 : numTextOf (signsOf l) = l.map sg := by
    unfold numTextOf
    rw [if_pos]
    · rfl
    · rw [← Array.all_toList, List.all_eq_true]
      intro c hc
      have hc' : c ∈ l.map sg := hc
      obtain ⟨d, hd, rfl⟩ := List.mem_map.mp hc'
      exact decide_eq_true (sg_pos d (h d hd)).2
  refine ⟨e1, ?_⟩
  unfold numSeenOf
  rw [e1]
  have : ∀ l : List Nat, (∀ d ∈ l, d < 16) → (l.map sg).takeWhile (· != 0) = l.map sg := by
    intro l
    induction l with
    | nil => intro _; rfl
    | cons d r ih =>
      intro h
      rw [List.map_cons, List.takeWhile_cons, if_pos (by simpa using (sg_pos d (h d (.head _))).1), ih fun x hx => h x (.tail _ hx)]
  exact this l h
theorem int_text {l : List Nat} (h : ∀ d ∈ l, d < 16) : PySem.intText? (signsOf l) = match digits? 10 (core (l.map sg)) with
      | some ds => if ds.size ≤ 4300 then some (worth (sign ((l.map sg).dropWhile blank)).1 ds) else none
      | none => none := by
  unfold PySem.intText?
  rw [(text_of h).1, (text_of h).2, if_pos (by simp)]
  rfl
theorem sg_sign : ∀ d : Nat, d < 16 → d ≠ 10 → d ≠ 11 → sg d ≠ 45 ∧ sg d ≠ 43 := by decide
theorem sign_none {l : List Nat} (h : ∀ d ∈ l, d < 16) (hs : ∀ d ∈ l, d ≠ 10 ∧ d ≠ 11) : sign (l.map sg) = (false, l.map sg) := by
  cases l with
  | nil => rfl
  | cons d r =>
    have h1 := sg_sign d (h d (.head _)) (hs d (.head _)).1 (hs d (.head _)).2
    rw [List.map_cons]
    unfold sign
    split
    · rename_i e; exact absurd (List.cons.inj e).1 h1.1
    · rename_i e; exact absurd (List.cons.inj e).1 h1.2
    · rfl
theorem read_plain {l : List Nat} (h : ∀ d ∈ l, d < 16) (hs : ∀ d ∈ l, d ≠ 10 ∧ d ≠ 11) (hl : l.length ≤ 1000) : PySem.intText? (signsOf l) = numSpec (zs l) true := by
  rw [int_text h]
  obtain ⟨r1, a1, a2, a3⟩ := drop_sg l h
  have s1 := sign_none (l := r1) (fun d hd => h d (a3 d hd)) (fun d hd => hs d (a3 d hd))
  obtain ⟨r2, b1, b2, b3⟩ := rdrop_sg (l := r1) (fun d hd => h d (a3 d hd))
  have hc : core (l.map sg) = r2.map sg := by
    unfold core
    rw [a1, s1, b1]
  have hn : numSpec (zs l) true = numBody (zs r2) := by
    unfold numSpec
    rw [if_pos rfl, ← strip_comm, a2, b2]
  rw [hc, a1, s1, hn]
  have hd := digits_text (l := r2) (fun d hd => h d (a3 d (b3 d hd)))
  have hcl := core_length (l.map sg)
  rw [hc, List.length_map, List.length_map] at hcl
  cases e : numBody (zs r2) with
  | none => rw [e] at hd; rw [hd]
  | some v =>
    rw [e] at hd
    obtain ⟨ds, h1, h2, h3⟩ := hd
    rw [h1]
    show (if ds.size ≤ 4300 then some (worth false ds) else none) = _
    rw [if_pos (by omega), ← h2]
    rfl
theorem read_signed {l : List Nat} {d : Nat} (hd : d = 10 ∨ d = 11) (h : ∀ d ∈ l, d < 16) (hl : l.length ≤ 1000) : PySem.intText? (signsOf (d :: l)) = (numSpec (zs l) false).map fun a => if (d : Int) = 10 then a else -a := by
  have h' : ∀ x ∈ d :: l, x < 16 := fun x hx => by
    rcases List.mem_cons.mp hx with rfl | hx
    · omega
    · exact h x hx
  rw [int_text h']
  have a1 : ((d :: l).map sg).dropWhile blank = (d :: l).map sg := by
    rw [List.map_cons, List.dropWhile_cons, if_neg (by rcases hd with rfl | rfl <;> decide)]
  obtain ⟨r2, b1, b2, b3⟩ := rdrop_sg h
  have s1 : sign ((d :: l).map sg) = (decide (d = 11), l.map sg) := by
    rcases hd with rfl | rfl <;> rfl
  have hc : core ((d :: l).map sg) = r2.map sg := by
    unfold core
    rw [a1, s1, b1]
  have hn : numSpec (zs l) false = numBody (zs r2) := by
    unfold numSpec
    rw [if_neg (by decide), b2]
  rw [hc, a1, s1, hn]
  have hg := digits_text (l := r2) (fun d hd => h d (b3 d hd))
  have hcl := core_length ((d :: l).map sg)
  rw [hc, List.length_map, List.length_map, List.length_cons] at hcl
  cases e : numBody (zs r2) with
  | none => rw [e] at hg; rw [hg]; rfl
  | some v =>
    rw [e] at hg
    obtain ⟨ds, h1, h2, h3⟩ := hg
    rw [h1]
    show (if ds.size ≤ 4300 then some (worth (decide (d = 11)) ds) else none) = some (if (d : Int) = 10 then v else -v)
    rw [if_pos (by omega), ← h2]
    rcases hd with rfl | rfl
    · rfl
    · rfl
end Mine
end

section  -- P2
open PySem PySem.W PySem.Calls PyProof.Rows PySem.NumText
set_option maxRecDepth 100000
set_option maxHeartbeats 1000000
namespace Mine
/-! the last K or L -/
theorem revFrom_spec {x : Str} {col : Nat} : ∀ (n : Nat) (f : Option Int) (p : Nat), p < col → col ≤ p + n → p < x.length → isKL (cAt x p) →
    ∃ q : Nat, revFrom x col n f p = some (q : Int) ∧ q < col ∧ isKL (cAt x q) ∧ ∀ v : Nat, q < v → v < col → v < x.length → ¬ isKL (cAt x v)
  | 0, f, p, h1, h2, _, _ => by omega
  | n + 1, f, p, h1, h2, h3, h4 => by
    rw [revFrom, if_pos (by omega)]
    rcases nextAt_spec (x := x) (k := (p : Int) + 1) (by omega) with ⟨e, hn⟩ | ⟨q, e, a, b, c, hn⟩
    · rw [e]
      exact ⟨p, rfl, h1, h4, fun v hv _ hl => hn v (by omega) hl⟩
    · rw [e]
      by_cases hq : q < col
      · exact revFrom_spec n (some p) q hq (by omega) b c
      · refine ⟨p, ?_, h1, h4, fun v hv hc hl => hn v (by omega) (by omega)⟩
        exact revFrom_stop (by omega)
theorem revSpec_spec {x : Str} {e : Nat} (hl : x.length ≤ 100) (he : e ≤ x.length) :
    (revSpec x e = none ∧ ∀ v : Nat, v < e → ¬ isKL (cAt x v)) ∨ ∃ q : Nat, revSpec x e = some (q : Int) ∧ q < e ∧ isKL (cAt x q) ∧ ∀ v : Nat, q < v → v < e → ¬ isKL (cAt x v) := by
  unfold revSpec
  rcases nextAt_spec (x := x) (k := 0) (by omega) with ⟨h, hn⟩ | ⟨q, h, a, b, c, hn⟩
  · rw [h]
    exact .inl ⟨rfl, fun v hv => hn v (by omega) (by omega)⟩
  · rw [h]
    by_cases hq : q < e
    · obtain ⟨r, h1, h2, h3, h4⟩ := revFrom_spec (x := x) (col := e) 200 none q hq (by omega) b c
      exact .inr ⟨r, h1, h2, h3, fun v hv hc => h4 v hv hc (by omega)⟩
    · refine .inl ⟨?_, fun v hv => hn v (by omega) (by omega)⟩
      exact revFrom_stop (by omega)
theorem cAt_letters {ds : List Nat} {v : Nat} (h : v < ds.length) : isKL (cAt (lettersOf ds) v) ↔ (ds.getD v 0 = 10 ∨ ds.getD v 0 = 11) := by
  have e : cAt (lettersOf ds) v = 65 + ds.getD v 0 := by
    unfold cAt lettersOf
    simp [Array.getD, h]
  unfold isKL
  rw [e]
  omega

/-! the run of figures -/
noncomputable abbrev isEnd (d : Nat) : Prop := d = 10 ∨ d = 11
theorem sgn_cons (d : Nat) (run : List Int) : sgn ((d : Int) :: run) ↔ isEnd d := by
  unfold sgn isEnd
  simp
  omega
theorem sgn_nil : ¬ sgn [] := by unfold sgn; simp
noncomputable def digRun : List Nat → List Int → List Int
  | [], run => run
  | d :: r, run => if sgn run then run else digRun r ((d : Int) :: run)
theorem digRun_sgn {l : List Nat} {run : List Int} (h : sgn run) : digRun l run = run := by
  cases l with
  | nil => rfl
  | cons d r => rw [digRun, if_pos h]
theorem dueRun_hex : ∀ (n : Nat) (run : List Int), dueRun n run = digRun (hexN n).reverse run := by
  intro n
  induction n using Nat.strongRecOn with
  | ind n ih =>
    intro run
    by_cases h0 : n = 0
    · subst h0
      rw [dueRun_stop (fun h => by have := h.1; omega), hexN_zero]; rfl
    · by_cases hs : sgn run
      · rw [dueRun_stop (fun h => h.2 hs), digRun_sgn hs]
      · rw [dueRun_go ⟨by omega, hs⟩, ih (n / 16) (by omega), hexN_pos h0, List.reverse_append]
        show _ = digRun ((n % 16) :: (hexN (n / 16)).reverse) run
        rw [digRun, if_neg hs]
theorem digRun_none : ∀ (rl : List Nat) (run : List Int), ¬ sgn run → (∀ d ∈ rl, ¬ isEnd d) → digRun rl run = zs rl.reverse ++ run
  | [], run, _, _ => rfl
  | d :: r, run, hs, h => by
    rw [digRun, if_neg hs, digRun_none r _ (fun q => h d (.head _) ((sgn_cons d run).mp q)) fun x hx => h x (.tail _ hx)]
    simp [zs]
theorem digRun_some : ∀ (u : List Nat) (d : Nat) (r : List Nat) (run : List Int), ¬ sgn run → (∀ d ∈ u, ¬ isEnd d) → isEnd d → digRun (u ++ d :: r) run = (d : Int) :: (zs u.reverse ++ run)
  | [], d, r, run, hs, _, hd => by
    show digRun (d :: r) run = _
    rw [digRun, if_neg hs, digRun_sgn ((sgn_cons d run).mpr hd)]; rfl
  | c :: u, d, r, run, hs, h, hd => by
    show digRun (c :: (u ++ d :: r)) run = _
    rw [digRun, if_neg hs, digRun_some u d r _ (fun q => h c (.head _) ((sgn_cons c run).mp q)) (fun x hx => h x (.tail _ hx)) hd]
    simp [zs]
theorem digRun_run {l t : List Nat} {d : Nat} (ht : ∀ x ∈ t, ¬ isEnd x) (hd : isEnd d) : digRun (l ++ d :: t).reverse [] = zs (d :: t) := by
  have e : (l ++ d :: t).reverse = t.reverse ++ d :: l.reverse := by simp
  rw [e, digRun_some t.reverse d l.reverse [] sgn_nil (fun x hx => ht x (List.mem_reverse.mp hx)) hd]
  simp [zs]
theorem dueOf_none {l : List Nat} (h : ∀ d ∈ l, ¬ isEnd d) : dueOf (zs l) = none := by
  unfold dueOf
  rw [if_neg]
  rintro ⟨q, _⟩
  cases l with
  | nil => exact sgn_nil q
  | cons d r => exact h d (.head _) ((sgn_cons d (zs r)).mp q)

/-! the text read -/
theorem sg_dot : ∀ d : Nat, d < 16 → (sg d = 46 ↔ d = 12) := by decide
theorem signsOf_list (l : List Nat) : (signsOf l).cps.toList = l.map sg := rfl
theorem zs_idx (a b : List Nat) (h : 12 ∉ a) : (zs (a ++ 12 :: b)).idxOf 12 = a.length := by
  have : ∀ a : List Nat, 12 ∉ a → (zs a ++ (12 : Int) :: zs b).idxOf 12 = a.length := by
    intro a
    induction a with
    | nil => intro _; simp [zs]
    | cons c r ih =>
      intro h
      have hc : ¬ (c : Int) = 12 := fun q => h (by have : c = 12 := by omega
                                                   rw [this]; exact .head _)
      show ((c : Int) :: (zs r ++ (12 : Int) :: zs b)).idxOf 12 = r.length + 1
      rw [List.idxOf_cons, ih fun q => h (.tail _ q), beq_eq_false_iff_ne.mpr hc]; rfl
  have e : zs (a ++ 12 :: b) = zs a ++ (12 : Int) :: zs b := by simp [zs]
  rw [e]
  exact this a h
theorem zs_count (l : List Nat) : (zs l).count 12 = l.count 12 := by
  induction l with
  | nil => rfl
  | cons d r ih =>
    show ((d : Int) :: zs r).count 12 = _
    rw [List.count_cons, List.count_cons, ih]
    congr 1
    by_cases q : d = 12
    · subst q; rfl
    · rw [if_neg (by simp; omega), if_neg (by simpa using q)]
theorem free_dot {l : List Nat} {z : Str} (h : ∀ d ∈ l, d < 16) (e : z = signsOf l) (hz : 46 ∉ z.cps.toList) : 12 ∉ l := by
  intro q
  subst e
  exact hz (List.mem_map.mpr ⟨12, q, rfl⟩)
theorem ext_list {a b : Str} (h : a.cps.toList = b.cps.toList) : a = b := Str.ext' (Array.toList_inj.mp h)
theorem read_run {d : Nat} {t : List Nat} (hd : isEnd d) (h : ∀ x ∈ t, x < 16) (ht : ∀ x ∈ t, ¬ isEnd x) (hl : t.length ≤ 100) :
    pairOf (Txt.split (signsOf (d :: t)) (Str.ofString ".")) = dueOf (zs (d :: t)) := by
  have hj := StrLaws.join_split (signsOf (d :: t)) (⟨#[46]⟩ : Str)
  have hf := StrLaws.split_free (signsOf (d :: t)) 46
  have hp := split_pos (signsOf (d :: t)) (⟨#[46]⟩ : Str)
  rw [dot_str]
  have h' : ∀ x ∈ d :: t, x < 16 := fun x hx => by
    rcases List.mem_cons.mp hx with rfl | hx
    · unfold isEnd at hd; omega
    · exact h x hx
  generalize Txt.split (signsOf (d :: t)) ⟨#[46]⟩ = ps at *
  match ps with
  | [] => simp at hp
  | [a] =>
    have e : a = signsOf (d :: t) := hj
    have hn := free_dot h' e (hf a (.head _))
    show none = _
    unfold dueOf
    rw [if_neg]
    rintro ⟨_, q⟩
    rw [zs_count, List.count_eq_zero.mpr hn] at q
    cases q
  | [a, b] =>
    have e : a ++ (⟨#[46]⟩ : Str) ++ b = signsOf (d :: t) := hj
    have e1 := congrArg (fun z : Str => z.cps.toList) e
    simp only [str_app, Array.toList_append, signsOf_list] at e1
    have e2 : (d :: t).map sg = a.cps.toList ++ (46 :: b.cps.toList) := by rw [← e1]; simp
    obtain ⟨la, lr, e3, e4, e5⟩ := List.map_eq_append_iff.mp e2
    obtain ⟨c, lb, rfl, e7, e8⟩ := List.map_eq_cons_iff.mp e5
    have hc : c = 12 := (sg_dot c (h' c (by rw [e3]; simp))).mp e7
    subst hc
    have ea : a = signsOf la := ext_list e4.symm
    have eb : b = signsOf lb := ext_list e8.symm
    have hla : 12 ∉ la := free_dot (fun x hx => h' x (by rw [e3]; simp [hx])) ea (hf a (.head _))
    have hlb : 12 ∉ lb := free_dot (fun x hx => h' x (by rw [e3]; simp [hx])) eb (hf b (.tail _ (.head _)))
    cases la with
    | nil =>
      have : d = 12 := by simpa using congrArg (fun l : List Nat => l.getD 0 0) e3
      unfold isEnd at hd; omega
    | cons d' ra =>
      have e9 : d :: t = d' :: (ra ++ 12 :: lb) := e3
      obtain ⟨rfl, rfl⟩ := List.cons.inj e9
      have r1 : PySem.intText? a = (numSpec (zs ra) false).map fun a => if (d : Int) = 10 then a else -a := by
        rw [ea]
        exact read_signed (l := ra) (d := d) hd (fun x hx => h x (by simp [hx])) (by simp at hl; omega)
      have r2 : PySem.intText? b = numSpec (zs lb) true := by
        rw [eb]
        exact read_plain (l := lb) (fun x hx => h x (by simp [hx])) (fun x hx => by
          have := ht x (by simp [hx])
          unfold isEnd at this; omega) (by simp at hl; omega)
      show (match PySem.intText? a, PySem.intText? b with | some a, some b => some (a, b) | _, _ => none) = _
      rw [r1, r2]
      unfold dueOf
      have hcount : (zs (d :: (ra ++ 12 :: lb))).count 12 = 1 := by
        rw [zs_count]
        have : d ≠ 12 := by unfold isEnd at hd; omega
        have h12 : 12 ∉ ra := fun q => hla (.tail _ q)
        rw [List.count_cons_of_ne this, List.count_append, List.count_eq_zero.mpr h12, List.count_cons_self, List.count_eq_zero.mpr hlb]
      rw [if_pos ⟨(sgn_cons d _).mpr hd, hcount⟩]
      have hidx : (zs (d :: (ra ++ 12 :: lb))).idxOf 12 = ra.length + 1 := zs_idx (d :: ra) lb hla
      rw [hidx]
      have k1 : ((zs (d :: (ra ++ 12 :: lb))).drop 1).take (ra.length + 1 - 1) = zs ra := by
        show (zs (ra ++ 12 :: lb)).take (ra.length) = _
        unfold zs
        rw [← List.map_take, List.take_left']
        rfl
      have k2 : (zs (d :: (ra ++ 12 :: lb))).drop (ra.length + 1 + 1) = zs lb := by
        show (zs (ra ++ 12 :: lb)).drop (ra.length + 1) = _
        unfold zs
        rw [← List.map_drop]
        congr 1
        rw [show ra ++ 12 :: lb = (ra ++ [12]) ++ lb by simp, List.drop_left' (by simp)]
      rw [k1, k2]
      have k3 : (zs (d :: (ra ++ 12 :: lb))).getD 0 0 = (d : Int) := rfl
      rw [k3]
      cases numSpec (zs ra) false <;> cases numSpec (zs lb) true <;> rfl
  | a :: b :: c :: r =>
    have hmem : 2 ≤ (d :: t).count 12 := by
      have e1 := congrArg (fun z : Str => z.cps.toList) hj
      have e2 : (d :: t).map sg = (a.cps.toList ++ [46]) ++ ((b.cps.toList ++ [46]) ++ (Str.join ⟨#[46]⟩ (c :: r)).cps.toList) := by
        rw [← signsOf_list, ← e1]
        show (a ++ (⟨#[46]⟩ : Str) ++ (b ++ (⟨#[46]⟩ : Str) ++ Str.join ⟨#[46]⟩ (c :: r))).cps.toList = _
        simp [str_app]
      have e3 : ((d :: t).map sg).count 46 = (d :: t).count 12 := by
        generalize d :: t = l at h'
        induction l with
        | nil => rfl
        | cons x r ih =>
          rw [List.map_cons, List.count_cons, List.count_cons, ih fun y hy => h' y (.tail _ hy)]
          congr 1
          have := sg_dot x (h' x (.head _))
          by_cases q : x = 12
          · rw [if_pos (by simpa using this.mpr q), if_pos (by simpa using q)]
          · rw [if_neg (fun z => q (this.mp (by simpa using z))), if_neg (by simpa using q)]
      rw [← e3, e2]
      simp only [List.count_append, List.count_singleton_self]
      omega
    show none = _
    unfold dueOf
    rw [if_neg]
    rintro ⟨_, q⟩
    rw [zs_count] at q
    omega
theorem split_getD {l : List Nat} {q : Nat} (h : q < l.length) : l = l.take q ++ l.getD q 0 :: l.drop (q + 1) := by
  have e : l.getD q 0 = l[q] := by simp [h]
  rw [e, ← List.drop_eq_getElem_cons h, List.take_append_drop]
theorem hexN_lt : ∀ n : Nat, ∀ d ∈ hexN n, d < 16 := by
  intro n
  induction n using Nat.strongRecOn with
  | ind n ih =>
    by_cases h0 : n = 0
    · subst h0; rw [hexN_zero]; intro d h; cases h
    · rw [hexN_pos h0]
      intro d hd
      rcases List.mem_append.mp hd with hd | hd
      · exact ih (n / 16) (by omega) d hd
      · have := List.mem_singleton.mp hd; omega
theorem hexN_div : ∀ (k n : Nat), k ≤ (hexN n).length → hexN (n / 16 ^ k) = (hexN n).take ((hexN n).length - k)
  | 0, n, _ => by simp
  | k + 1, n, h => by
    have ih := hexN_div k n (by omega)
    have e : n / 16 ^ (k + 1) = n / 16 ^ k / 16 := by rw [Nat.pow_succ, Nat.div_div_eq_div_mul]
    have h0 : n / 16 ^ k ≠ 0 := by
      intro q
      rw [q, hexN_zero] at ih
      have := congrArg List.length ih
      simp at this
      omega
    rw [hexN_pos h0] at ih
    have ih2 := congrArg List.dropLast ih
    rw [List.dropLast_concat] at ih2
    rw [e, ih2, List.dropLast_eq_take, List.take_take, List.length_take]
    rw [Nat.min_eq_left (Nat.sub_le _ k), Nat.min_eq_left (Nat.sub_le _ 1)]; rfl
/-- what is read, for an end -/
noncomputable def readOf (ds : List Nat) (e : Nat) : Option (Int × Int) :=
  match revSpec (lettersOf ds) e with
  | none => none
  | some p => pairOf (Txt.split (signsOf ((ds.take e).drop p.toNat)) (Str.ofString "."))
/-- the plain law -/
theorem plain {N e : Nat} (hl : (hexN N).length ≤ 100) (he : e ≤ (hexN N).length) : readOf (hexN N) e = dueSpec (N / 16 ^ ((hexN N).length - e)) := by
  have hx := hexN_div ((hexN N).length - e) N (by omega)
  have hlt := hexN_lt N
  unfold dueSpec
  rw [dueRun_hex, hx]
  have e1 : (hexN N).length - ((hexN N).length - e) = e := by omega
  rw [e1]
  generalize hexN N = ds at *
  unfold readOf
  have hlen := lettersOf_length ds
  rcases revSpec_spec (x := lettersOf ds) (e := e) (by omega) (by omega) with ⟨h1, h2⟩ | ⟨q, h1, h2, h3, h4⟩
  · rw [h1]
    have hn : ∀ d ∈ ds.take e, ¬ isEnd d := fun d hd => by
      obtain ⟨i, hi⟩ := List.getElem?_of_mem hd
      have hie : i < e := by
        have := (List.getElem?_eq_some_iff.mp hi).1
        simp at this; omega
      rw [List.getElem?_take_of_lt hie] at hi
      have h5 := h2 i hie
      rw [cAt_letters (by omega)] at h5
      have : ds.getD i 0 = d := by simp [List.getD, hi]
      rw [this] at h5
      exact h5
    rw [digRun_none _ _ sgn_nil (fun d hd => hn d (List.mem_reverse.mp hd)), List.reverse_reverse, List.append_nil]
    exact (dueOf_none hn).symm
  · rw [h1]
    have hq : ((q : Int)).toNat = q := by omega
    show pairOf (Txt.split (signsOf ((ds.take e).drop ((q : Int)).toNat)) (Str.ofString ".")) = _
    rw [hq]
    have hle : q < (ds.take e).length := by simp; omega
    have hs := split_getD hle
    have hg : (ds.take e).getD q 0 = ds.getD q 0 := by
      simp [List.getD, List.getElem?_take_of_lt h2]
    rw [hg] at hs
    have hd : (ds.take e).drop q = ds.getD q 0 :: (ds.take e).drop (q + 1) := by
      conv => lhs; rw [hs]
      rw [List.drop_left' (by simp; omega)]
    rw [cAt_letters (by omega)] at h3
    have ht : ∀ x ∈ (ds.take e).drop (q + 1), ¬ isEnd x := fun x hx => by
      obtain ⟨i, hi⟩ := List.getElem?_of_mem hx
      rw [List.getElem?_drop] at hi
      have hie : q + 1 + i < e := by
        have := (List.getElem?_eq_some_iff.mp hi).1
        simp at this; omega
      rw [List.getElem?_take_of_lt hie] at hi
      have h5 := h4 (q + 1 + i) (by omega) hie
      rw [cAt_letters (by omega)] at h5
      have : ds.getD (q + 1 + i) 0 = x := by simp [List.getD, hi]
      rw [this] at h5
      exact h5
    rw [hd]
    have key := digRun_run (l := (ds.take e).take q) (t := (ds.take e).drop (q + 1)) (d := ds.getD q 0) ht h3
    rw [← hs] at key
    rw [key]
    refine read_run h3 (fun x hx => hlt x (List.take_subset _ _ (List.drop_subset _ _ hx))) ht ?_
    simp; omega
end Mine
end

section  -- C1
open PySem PySem.W PySem.Calls PySem.Spec PyProof.Rows
set_option maxRecDepth 100000
set_option maxHeartbeats 2000000
namespace Mine
open LCg
section
variable {prog : Program} {w : World} {A : Around} {E : Value → Shared → Prop} {s : Shared} {h₀ : Heap} {L : Addr} {m : Str → Option Value} {env : Env}
/-- an iterator is at hand, and what the turns over it give -/
inductive CompIt (prog : Program) (w : World) (A : Around) (h₀ : Heap) (L : Addr) (m : Str → Option Value) (env : Env) (elt : PySem.Expr) (x : Str) (scope : Scope) (cl : List (Str × Addr)) (Fin : Shared → List Value → List (Addr × Obj) → Prop) : Value → Shared → Prop
  | mk (s₂ : Shared) (I : Addr) (fp : List Addr) (n : Nat) (P : Nat → Value → Prop) (St : Nat → Heap → Prop) (S : List (Addr × Obj) → Prop) (news : List (Addr × Obj)) : (Walks prog w A I fp [I] n P St) → (n ≤ sizeLine) → (∀ i h, St i h → ∃ o, h.get? I = some o) → (∀ i h h' o nw, St i h → h.get? I = some o → h'.get? I = some o → (∀ b o, h₀.get? b = some o → h'.get? b = some o) → News h₀ L h' nw → S nw → St i h') → (St 0 s₂.heap) → (∀ b ∈ fp, b < s₂.heap.objs.size) → (Fr h₀ L s₂.heap m) → (News h₀ L s₂.heap news) → (L ≠ I) → (h₀.get? I = none) → (∀ p ∈ news, p.1 ≠ I) → (S news) → (CompRest prog w A h₀ L m env elt x scope cl s₂ S P (Fin s₂) n 0 [] news) → CompIt prog w A h₀ L m env elt x scope cl Fin (.ref I) s₂
theorem ListComp_I {elt iter : PySem.Expr} {x : Str} {px : Pos} {scope : Scope} {cl : List (Str × Addr)} {pos : Pos} {Q : Value → Shared → Prop}
    (hclos : closureFor scope env = pure cl) (hcell : ∀ y ∈ scope.names, y.2 ≠ .cell) (hkind : scope.kind = .function)
    (hnames : ∀ y ∈ scope.names, y.2 = .local → scope.names.lookup y.1 = some .local) (hx : scope.names.lookup x = some .local)
    (h : wpAny (model prog w) A (eval iter env) (fun xv s₁ => wpAny (model prog w) A (pyIter xv) (CompIt prog w A h₀ L m env elt x scope cl (fun s₂ => FinE h₀ L m s₂ Q)) E s₁) E s)
    (hs : ∀ x, foldedSetIterable iter env x = pure x := by intro _; rfl) :
    wpAny (model prog w) A (eval (.ListComp elt [⟨.Name x px, iter, [], 0⟩] scope pos) env) Q E s := by
  rw [eval_ListComp]
  refine wpAny_comprehension_free (use := none) rfl hs hclos hkind hnames (wpAny_mono h (fun xv s₁ h₁ => ?_) fun _ _ e => e)
  refine wpAny_mono h₁ (fun it s₂ h₂ => ?_) fun _ _ e => e
  obtain ⟨_, I, fp, n, P, St, S, news, W, hsz, hIo, hSt, hst, hfp, F, N, hIL, hI₀, off, hS, R⟩ := h₂
  refine block_U W hsz hIo hSt hcell hkind hx hst hfp F N hIL hI₀ off hS R ?_
  intro D C h tk m' ys news' F' N' o1 hn hC₀ hD₀ hCL hDL hCD offC fin
  refine ⟨m', hn, fun h'' hs'' => fin D h'' tk (F'.change hs'' hCL hC₀) (fun p hp => ?_) o1⟩
  refine ⟨hs''.extBut _ _ ?_ (N' p hp).1, (N' p hp).2⟩
  rcases List.mem_cons.mp hp with rfl | hp
  · exact Ne.symm hCD
  · exact offC p hp
theorem Assign_ListComp_I {elt iter : PySem.Expr} {x y : Str} {px py : Pos} {scope : Scope} {cl : List (Str × Addr)} {pos spos : Pos} {Q : Flow → Shared → Prop} (hLe : env.locals = L)
    (hsw : swapsWith (.ListComp elt [⟨.Name x px, iter, [], 0⟩] scope pos) (some (.Name y py)) spos.line env = pure true)
    (hclos : closureFor scope env = pure cl) (hcell : ∀ z ∈ scope.names, z.2 ≠ .cell) (hkind : scope.kind = .function)
    (hnames : ∀ z ∈ scope.names, z.2 = .local → scope.names.lookup z.1 = some .local) (hx : scope.names.lookup x = some .local)
    (hy : env.kindOf y = some .local) (hp : (env.scope.kind == .class || (env.scope.kind == .module && env.locals != env.globals)) = false)
    (h : wpAny (model prog w) A (eval iter env) (fun xv s₁ => wpAny (model prog w) A (pyIter xv) (CompIt prog w A h₀ L m env elt x scope cl (fun s₂ => FinA h₀ L m s₂ y Q)) E s₁) E s)
    (hs : ∀ x, foldedSetIterable iter env x = pure x := by intro _; rfl) :
    wpAny (model prog w) A (exec (.Assign [.Name y py] (.ListComp elt [⟨.Name x px, iter, [], 0⟩] scope pos) spos) env) Q E s := by
  subst hLe
  rw [exec_Assign_Name_used _ _ _ _ hsw]
  refine wpAny_bind (wpAny_standAt (wpAny_bind ?_))
  show wpAny _ A (do let _ ← comprehension (.ListComp elt [⟨.Name x px, iter, [], 0⟩] scope pos) scope env _ (newList []) false (eval iter env) (some (assign (.Name y py) env))) _ _ s
  refine wpAny_bind (wpAny_mono (wpAny_comprehension_free (use := some (assign (.Name y py) env)) (Q := fun _ s' => Q .next s') rfl hs hclos hkind hnames
    (wpAny_mono h (fun xv s₁ h₁ => ?_) fun _ _ e => e)) (fun _ s' hq => wpAny_pure (wpAny_pure hq)) fun _ _ e => e)
  refine wpAny_mono h₁ (fun it s₂ h₂ => ?_) fun _ _ e => e
  obtain ⟨_, I, fp, n, P, St, S, news, W, hsz, hIo, hSt, hst, hfp, F, N, hIL, hI₀, off, hS, R⟩ := h₂
  refine block_U W hsz hIo hSt hcell hkind hx hst hfp F N hIL hI₀ off hS R ?_
  intro D C h' tk m' ys news' F' N' o1 hn hC₀ hD₀ hCL hDL hCD offC fin
  show wpAny _ A (assign (.Name y py) env (.ref D)) _ _ _
  refine wpAny_assign_Name (wpAny_storeName_local hy F'.ns (fun h₂ hn₂ hs₂ => ?_) hp)
  have hL₀ : h₀.get? env.locals = none := Heap.get?_none_of_le F'.above
  have F₂ : Fr h₀ env.locals h₂ (fun z => if z = y then some (.ref D) else m z) := ⟨hn₂, fun b o e => hs₂.extBut b o (fun q => by rw [q, hL₀] at e; cases e) (F'.keep b o e), F'.above⟩
  refine ⟨m', hn.sameBut hs₂ hCL, fun h'' hs'' => fin D h'' _ (F₂.change hs'' hCL hC₀) (fun p hp => ?_) o1⟩
  have z : h₂.get? p.1 = some p.2 := hs₂.extBut _ _ (N' p hp).2.1 (N' p hp).1
  refine ⟨hs''.extBut _ _ ?_ z, (N' p hp).2⟩
  rcases List.mem_cons.mp hp with rfl | hp
  · exact Ne.symm hCD
  · exact offC p hp

/-- the turns, by an invariant over the items made and the ledger -/
theorem comp_restJ {elt : PySem.Expr} {x : Str} {scope : Scope} {cl : List (Str × Addr)} {S : List (Addr × Obj) → Prop} {P : Nat → Value → Prop} {Fin : List Value → List (Addr × Obj) → Prop} {n : Nat} {news : List (Addr × Obj)}
    (J : Nat → List Value → List (Addr × Obj) → Prop) (hJ : J 0 [] news)
    (turn : ∀ i ys nw v I oI C oC D m₂ h tk (E' : Value → Shared → Prop), i < n → J i ys nw → P i v → NsObj oC m₂ → m₂ x = some v → Fr h₀ L h m → News h₀ L h ((I, oI) :: (C, oC) :: (D, lst ys) :: nw) → Off3 I C D nw → ((@Ne Nat I C) ∧ (@Ne Nat I D) ∧ (@Ne Nat C D)) →
      wpAny (model prog w) A (eval elt (compEnvC scope cl C env)) (CompEnd h₀ L m { s with heap := h, toks := tk } I oI C oC D (lst ys) S (fun y nw' => J (i + 1) (ys ++ [y]) nw')) E' { s with heap := h, toks := tk })
    (fin : ∀ ys nw, J n ys nw → Fin ys nw) : CompRest prog w A h₀ L m env elt x scope cl s S P Fin n 0 [] news := by
  have key : ∀ (j i : Nat) (ys : List Value) (nw : List (Addr × Obj)), i + j = n → J i ys nw → CompRest prog w A h₀ L m env elt x scope cl s S P Fin j i ys nw := by
    intro j
    induction j with
    | zero =>
      intro i ys nw hi hy
      have e : i = n := by omega
      subst e
      exact fin ys nw hy
    | succ j ih =>
      intro i ys nw hi hy
      refine CompRest.succ ?_
      intro v I oI C oC D m₂ h tk E' hv hC hx F N off ne
      refine wpAny_mono (turn i ys nw v I oI C oC D m₂ h tk E' (by omega) hy hv hC hx F N off ne) (fun y s₂ hq => ?_) fun _ _ e => e
      obtain ⟨h', tk', nw', e, F', N', off', hS, hj⟩ := hq
      exact ⟨h', tk', nw', e, F', N', off', hS, ih (i + 1) _ _ (by omega) hj⟩
  exact key n 0 [] news (by omega) hJ
theorem compIt_str {elt : PySem.Expr} {x : Str} {scope : Scope} {cl : List (Str × Addr)} {Fin : Shared → List Value → List (Addr × Obj) → Prop} {z : Str} {t : Tok} {news : List (Addr × Obj)} (hh : A.handled = none) (ha : z.cps.all (· < 128) = true) (hsz : z.length ≤ sizeLine)
    (F : Fr h₀ L s.heap m) (N : News h₀ L s.heap news)
    (R : ∀ s₂, (∃ h, s₂ = { s with heap := h }) → CompRest prog w A h₀ L m env elt x scope cl s₂ (fun _ => True) (SignAt z) (Fin s₂) z.length 0 [] news) :
    wpAny (model prog w) A (pyIter (.str z t)) (CompIt prog w A h₀ L m env elt x scope cl Fin) E s := by
  refine wpAny_pyIter_ascii ha ?_
  refine ⟨_, _, _, z.length, SignAt z, fun i h => h.IsStrIter s.heap.objs.size "str_ascii_iterator" z t i, fun _ => True, news, Walks.strAscii hh s.heap.objs.size z t, hsz, fun i h st => ?_, fun i h h' o nw st e e' _ _ _ => ?_, ⟨_, Heap.get?_push_size _ rfl, rfl, rfl⟩, fun b hb => ?_,
    F.keeps fun _ _ e => Heap.get?_push_of_some _ e, N.grown fun _ _ e => Heap.get?_push_of_some _ e, Nat.ne_of_lt F.ns.lt, next_is_new F, fun p hp => Nat.ne_of_lt (Heap.lt_size (N p hp).1), trivial, R _ ⟨_, rfl⟩⟩
  · obtain ⟨o, e, _⟩ := st; exact ⟨o, e⟩
  · obtain ⟨o', q, r⟩ := st; rw [e] at q; cases q; exact ⟨o, e', r⟩
  · rw [List.mem_singleton.mp hb]
    show s.heap.objs.size < (s.heap.push _).objs.size
    rw [Heap.size_push]; exact Nat.lt_succ_self _
end
end Mine
end

section  -- D1
open PySem PySem.W PySem.Calls PyProof.Rows
set_option maxRecDepth 100000
set_option maxHeartbeats 8000000
namespace Mine
open LCg
theorem fits_small {d : Nat} (h : d < 16) : fitsSsize (d : Int) = true := by
  unfold fitsSsize; simp; omega
theorem LamAt.keeps {h h' : Heap} {k : Nat} {f cell : Addr} (x : LamAt h k f cell) (kk : ∀ b o, h.get? b = some o → h'.get? b = some o) : LamAt h' k f cell := let ⟨pm, c, ctv, e, q⟩ := x; ⟨pm, c, ctv, kk _ _ e, q.keeps kk⟩
theorem find_letter : ∀ d : Nat, d < 16 → Txt.find (Str.ofString "ABCDEFGHIJKLMNOP") ⟨#[65 + d]⟩ = (d : Int) := by decide +kernel
theorem item_sign : ∀ d : Nat, d < 16 → Txt.item (Str.ofString "0123456789+-._ x") (d : Int) = ⟨#[sigs.getD d 0]⟩ := by decide +kernel
theorem lettersOf_ascii {ds : List Nat} (h : ∀ d ∈ ds, d < 16) : (lettersOf ds).cps.all (· < 128) = true := by
  unfold lettersOf
  rw [← Array.all_toList, List.all_eq_true]
  intro c hc
  simp at hc
  obtain ⟨d, hd, rfl⟩ := hc
  have := h d hd
  simp; omega
theorem letter_at {ds : List Nat} {i c : Nat} (h : (lettersOf ds).cps[i]? = some c) : ∃ d, ds[i]? = some d ∧ c = 65 + d := by
  unfold lettersOf at h
  simp at h
  obtain ⟨d, hd, rfl⟩ := h
  exact ⟨d, hd, rfl⟩
theorem one_sum : ∀ ru : List Nat, ((ru.map fun d => (⟨#[sigs.getD d 0]⟩ : Str)).map (·.length)).sum = ru.length
  | [] => rfl
  | d :: r => by
    have := one_sum r
    simp only [List.map_cons, List.sum_cons, List.length_cons]
    rw [this]
    show 1 + r.length = _
    omega
noncomputable def ReadIs (h h' : Heap) (v : Value) (r : Option (Int × Int)) : Prop :=
  match r with
  | none => v = .none
  | some (a, b) => ∃ P ta tb, v = .ref P ∧ h'.get? P = some (tupOf #[.int a ta, .int b tb]) ∧ h.get? P = none
theorem readIs_some {h h' : Heap} {r : Option (Int × Int)} {a b : Int} {P : Addr} {ta tb : Tok} (e : r = some (a, b)) (x : h'.get? P = some (tupOf #[.int a ta, .int b tb])) (y : h.get? P = none) : ReadIs h h' (.ref P) r := by
  subst e; exact ⟨P, ta, tb, rfl, x, y⟩
theorem readIs_none {h h' : Heap} {r : Option (Int × Int)} (e : r = none) : ReadIs h h' .none r := by
  subst e; rfl
theorem read_c {w : World} {dp un : Nat} {env : Env} {base : Heap} {gd : Option (List Code)} {s : Shared} {a : Addr} {p : Int} {ds : List Nat} {tx : Tok} {col : Int} {tc : Tok} {R : Result → Shared → Prop}
    (G : GI w s.heap) (HH : HitAt s.heap a p) (B : Below (AR dp un (some [env]) gd) base [env] s.heap) (hroom : dp ≤ 500) (hu : un ≤ 400) (h0 : 0 ≤ col) (h1 : col ≤ 100) (hx : ds.length ≤ 100) (hds : ∀ d ∈ ds, d < 16) (hp0 : 0 ≤ p) (hp1 : p ≤ col) (hcl : col ≤ ds.length)
    {pr : Program} {loose : List Str} {mean : ExcName → Option Value} {mg mb : Str → Option Value} (XB : (hd.heap_39 w.params).In base) (TB : Top pr loose mean mg mb base) (D0 : KtsDicts ([env].filterMap (·.frame)) s.heap)
    (hR : ∀ h' g' tk v, KtsTurn ([env].filterMap (·.frame)) s.heap g' → Keep g' h' → ReadIs s.heap h' v (pairOf (Txt.split (signsOf ((ds.take col.toNat).drop p.toNat)) (Str.ofString "."))) → R (.ok (.ret v)) { s with heap := h', toks := tk }) :
    codeAny (model PR w) (AR dp un (some [env]) gd) (.call (.ref 54) ⟨[.str (lettersOf ds) tx, .ref a, .int col tc], []⟩) R s := by
  refine enterF (binds := [(Str.ofString "letters", .str (lettersOf ds) tx), (Str.ofString "hit", .ref a), (Str.ofString "end", .int col tc)]) G (by exact rfl) (by exact rfl) (by show dp < 1000; omega) (BindsTo.of_eq (by exact rfl)) (locs rfl) ?_ rfl rfl rfl (by decide)
  intro L h₁ F N
  have X := G.K
  obtain ⟨mg, mb, TT⟩ := G.T
  obtain ⟨d', fd', u1, u2, u3, v1, v2, v3, w1, w2, w3, cell', t', e1, e2, e3, e4, e5⟩ := HH
  w_on
  have : (fun P : Params => hd.heap_39 P) = hd.heap_39 ∧ PySem.Challenge.rw_pg0028_01 = PySem.Challenge.rw_pg0028_01 := by k_fill; exact ⟨rfl, rfl⟩
  clear this
  (repeat' (first | ((fail_if_success (with_reducible show wpAny _ _ (exec (Stmt.While _ _ _ _) _) _ _ _)); (fail_if_success (with_reducible show wpAny _ _ (exec (Stmt.Try _ _ _ _ _) _) _ _ _)); (fail_if_success (with_reducible show wpAny _ _ (exec (Stmt.Assign _ (Expr.ListComp _ _ _ _) _) _) _ _ _)); (fail_if_success (with_reducible show wpAny _ _ (pyIter _) _ _ _)); (fail_if_success (with_reducible show wpAny _ _ (eval (Expr.Call (Expr.Attribute _ _ _) _ _ _) _) _ _ _)); (fail_if_success (with_reducible show wpAny _ _ (getMethod (Value.ref _) _ _) _ _ _)); (fail_if_success (with_reducible show wpAny _ _ (truthy (Value.ref _)) _ _ _)); (fail_if_success (with_reducible show wpAny _ _ (call (Value.ref _) _) _ _ _)); (first | walk1 | (dsimp only; walk1)))))
  refine Assign_ListComp_I (h₀ := s.heap) (L := L) (m := ?mm) rfl (by with_unfolding_all rfl) (by rfl) (by decide) (by rfl) (by decide) (by rfl) (by rfl) (by rfl) ?_
  case mm => exact fun y => List.lookup y [(Str.ofString "letters", Value.str (lettersOf ds) tx), (Str.ofString "hit", .ref a), (Str.ofString "end", .int col tc)].reverse
  (repeat' (first | ((fail_if_success (with_reducible show wpAny _ _ (exec (Stmt.While _ _ _ _) _) _ _ _)); (fail_if_success (with_reducible show wpAny _ _ (exec (Stmt.Try _ _ _ _ _) _) _ _ _)); (fail_if_success (with_reducible show wpAny _ _ (exec (Stmt.Assign _ (Expr.ListComp _ _ _ _) _) _) _ _ _)); (fail_if_success (with_reducible show wpAny _ _ (pyIter _) _ _ _)); (fail_if_success (with_reducible show wpAny _ _ (eval (Expr.Call (Expr.Attribute _ _ _) _ _ _) _) _ _ _)); (fail_if_success (with_reducible show wpAny _ _ (getMethod (Value.ref _) _ _) _ _ _)); (fail_if_success (with_reducible show wpAny _ _ (truthy (Value.ref _)) _ _ _)); (fail_if_success (with_reducible show wpAny _ _ (call (Value.ref _) _) _ _ _)); (first | walk1 | (dsimp only; walk1)))))
  refine' MethodCall_ ?_ ?he
  case he => rfl
  (repeat' (first | ((fail_if_success (with_reducible show wpAny _ _ (exec (Stmt.While _ _ _ _) _) _ _ _)); (fail_if_success (with_reducible show wpAny _ _ (exec (Stmt.Try _ _ _ _ _) _) _ _ _)); (fail_if_success (with_reducible show wpAny _ _ (exec (Stmt.Assign _ (Expr.ListComp _ _ _ _) _) _) _ _ _)); (fail_if_success (with_reducible show wpAny _ _ (pyIter _) _ _ _)); (fail_if_success (with_reducible show wpAny _ _ (eval (Expr.Call (Expr.Attribute _ _ _) _ _ _) _) _ _ _)); (fail_if_success (with_reducible show wpAny _ _ (getMethod (Value.ref _) _ _) _ _ _)); (fail_if_success (with_reducible show wpAny _ _ (truthy (Value.ref _)) _ _ _)); (fail_if_success (with_reducible show wpAny _ _ (call (Value.ref _) _) _ _ _)); (first | walk1 | (dsimp only; walk1)))))
  have F1 := (by assumption : Fr s.heap L _ _)
  have N1 := (by assumption : News s.heap L _ _)
  refine getMethod_hit_start (by rfl) (by show dp + 1 ≤ _; omega) (by show un + 3 ≤ _; omega) (F1.keep _ _ e1) (F1.keep _ _ e2) ?_
  intro t1
  dsimp only
  have e3' := e4
  obtain ⟨pm, c, ctv, e3', _⟩ := e3'
  refine callWith_meth0 (o := lamObj 2 cell' pm c ctv) rfl (F1.keep _ _ e3') ?_
  refine start_c (X.keeps F1.keep) (e4.keeps F1.keep) (F1.keep _ _ e5) (by rfl) (by show dp + 1 ≤ _; omega) (by show un + 3 ≤ _; omega) ?_
  intro h2 tk2 k2
  have F2 := Fr.into F1 k2
  have N2 := News.into N1 k2
  clear F1 N1
  dsimp only
  (repeat' (first | ((fail_if_success (with_reducible show wpAny _ _ (exec (Stmt.While _ _ _ _) _) _ _ _)); (fail_if_success (with_reducible show wpAny _ _ (exec (Stmt.Try _ _ _ _ _) _) _ _ _)); (fail_if_success (with_reducible show wpAny _ _ (exec (Stmt.Assign _ (Expr.ListComp _ _ _ _) _) _) _ _ _)); (fail_if_success (with_reducible show wpAny _ _ (pyIter _) _ _ _)); (fail_if_success (with_reducible show wpAny _ _ (eval (Expr.Call (Expr.Attribute _ _ _) _ _ _) _) _ _ _)); (fail_if_success (with_reducible show wpAny _ _ (getMethod (Value.ref _) _ _) _ _ _)); (fail_if_success (with_reducible show wpAny _ _ (truthy (Value.ref _)) _ _ _)); (fail_if_success (with_reducible show wpAny _ _ (call (Value.ref _) _) _ _ _)); (first | walk1 | (dsimp only; walk1)))))
  have hsz : (lettersOf ds).length ≤ sizeLine := by rw [lettersOf_length, sizeLine_eq]; omega
  refine slice_strN_ss (s := ⟨h2, s.gens, s.drawn, tk2, s.os⟩) F2 N2 ?_ (by with_unfolding_all rfl) (by intro _; with_unfolding_all rfl) hsz
  intro h3 t3 k3 F3 N3
  clear F2 N2
  dsimp only
  obtain ⟨pn, rfl⟩ := Int.eq_ofNat_of_zero_le hp0
  obtain ⟨cn, rfl⟩ := Int.eq_ofNat_of_zero_le h0
  have hz := slice_letters (ds := ds) (p := pn) (c := cn) (by omega) (by omega)
  rw [hz]
  have hdr : ∀ d ∈ (ds.take cn).drop pn, d < 16 := fun d hd => hds d (List.take_subset _ _ (List.drop_subset _ _ hd))
  have hlr : ((ds.take cn).drop pn).length ≤ 100 := by simp; omega
  generalize hru : (ds.take cn).drop pn = ru at *
  refine compIt_str (s := ⟨h3, s.gens, s.drawn, k3, s.os⟩) (by rfl) (lettersOf_ascii hdr) (by rw [lettersOf_length, sizeLine_eq]; omega) F3 N3 ?_
  rintro s₂ ⟨h4, rfl⟩
  refine comp_restJ (fun i ys nw => nw = [] ∧ StrsAre ys ((ru.take i).map fun d => (⟨#[sigs.getD d 0]⟩ : Str))) ⟨rfl, .nil⟩ ?_ ?_
  · rintro i ys nw v I oI C oC D m₂ h5 tk5 E' hi ⟨rfl, hys⟩ ⟨cc, u, hc, rfl⟩ hC hm₂ F5 N5 off ne
    obtain ⟨d, hd, rfl⟩ := letter_at hc
    have hd16 := hdr d (List.mem_of_getElem? hd)
    clear F3 N3
    dsimp only
    (repeat' (first | ((fail_if_success (with_reducible show wpAny _ _ (exec (Stmt.While _ _ _ _) _) _ _ _)); (fail_if_success (with_reducible show wpAny _ _ (exec (Stmt.Try _ _ _ _ _) _) _ _ _)); (fail_if_success (with_reducible show wpAny _ _ (exec (Stmt.Assign _ (Expr.ListComp _ _ _ _) _) _) _ _ _)); (fail_if_success (with_reducible show wpAny _ _ (pyIter _) _ _ _)); (fail_if_success (with_reducible show wpAny _ _ (eval (Expr.Call (Expr.Attribute _ _ _) _ _ _) _) _ _ _)); (fail_if_success (with_reducible show wpAny _ _ (getMethod (Value.ref _) _ _) _ _ _)); (fail_if_success (with_reducible show wpAny _ _ (truthy (Value.ref _)) _ _ _)); (fail_if_success (with_reducible show wpAny _ _ (call (Value.ref _) _) _ _ _)); (first | walk1 | (dsimp only; walk1)))))
    refine' MethodCall_ ?_ ?he
    case he => rfl
    (repeat' (first | ((fail_if_success (with_reducible show wpAny _ _ (subscriptTail _ _ _ _) _ _ _)); (first | walk1 | (dsimp only; walk1)))))
    rw [find_letter d hd16]
    refine item_str (i := (d : Int)) (fits_small hd16) (by omega) (by show (d : Int) < ((16 : Nat) : Int); omega) ?_ (by with_unfolding_all rfl) (by intro _; with_unfolding_all rfl)
    rw [item_sign d hd16]
    intro _
    dsimp only
    refine CompEnd.intro (by assumption) (by assumption) [] (fun p hp => hp) trivial trivial ⟨rfl, ?_⟩
    rw [List.take_add_one, hd, List.map_append]
    exact kct_snoc hys
  · rintro ys nw ⟨rfl, hys⟩
    intro D h5 tk5 F5 N5 _
    rw [List.take_of_length_le (by rw [lettersOf_length]; exact Nat.le_refl _)] at hys
    clear F3 N3
    dsimp only
    (repeat' (first | ((fail_if_success (with_reducible show wpAny _ _ (exec (Stmt.While _ _ _ _) _) _ _ _)); (fail_if_success (with_reducible show wpAny _ _ (exec (Stmt.Try _ _ _ _ _) _) _ _ _)); (fail_if_success (with_reducible show wpAny _ _ (exec (Stmt.Assign _ (Expr.ListComp _ _ _ _) _) _) _ _ _)); (fail_if_success (with_reducible show wpAny _ _ (pyIter _) _ _ _)); (fail_if_success (with_reducible show wpAny _ _ (eval (Expr.Call (Expr.Attribute _ _ _) _ _ _) _) _ _ _)); (fail_if_success (with_reducible show wpAny _ _ (getMethod (Value.ref _) _ _) _ _ _)); (fail_if_success (with_reducible show wpAny _ _ (truthy (Value.ref _)) _ _ _)); (fail_if_success (with_reducible show wpAny _ _ (call (Value.ref _) _) _ _ _)); (first | walk1 | (dsimp only; walk1)))))
    (repeat' (first | ((fail_if_success (with_reducible show wpAny _ _ (call (Value.ref _) _) _ _ _)); (fail_if_success (with_reducible show wpAny _ _ (call (Value.builtin _) _) _ _ _)); (first | walk1 | (dsimp only; walk1)))))
    have hw : ((ru.map fun d => (⟨#[sigs.getD d 0]⟩ : Str)).map (·.length)).sum + (ru.map fun d => (⟨#[sigs.getD d 0]⟩ : Str)).length ≤ 1048576 := by
      rw [one_sum, List.length_map]; omega
    have N6 := (by assumption : News s.heap L _ _)
    refine join_listW (ys := ru.map fun d => (⟨#[sigs.getD d 0]⟩ : Str)) ⟨_, News.get N6 (.head _), rfl, ⟨_, rfl⟩⟩ hys (by decide) hw ?_
    intro tj kj
    rw [join_signs]
    dsimp only
    (repeat' (first | ((fail_if_success (with_reducible show wpAny _ _ (call (Value.ref _) _) _ _ _)); (fail_if_success (with_reducible show wpAny _ _ (call (Value.builtin _) _) _ _ _)); (first | walk1 | (dsimp only; walk1)))))

    have F7 := (by assumption : Fr s.heap L _ _)
    have N7 := (by assumption : News s.heap L _ _)
    refine wpAny_call ?_
    refine glc_c G B F7 N7 rfl rfl (by show dp + 1 < 1000; omega) (by rw [signsOf_length]; omega) (signs_short hdr hlr) ?_ ?_
    · intro a1 b1 hab h' tk' P ta tb F8 N8
      exact hR _ s.heap _ _ KtsTurn.refl F8.keep (readIs_some (by rw [← hru] at hab; exact hab) (N8 _ (.head _)).1 (N8 _ (.head _)).2.2)
    · intro hab g h' tk' e F8 R8 sm8
      refine caught_SN0 (T' := "ValueError") (g₀ := s.heap) R8 F8 B sm8 XB TB D0 KtsTurn.refl ?_ PyProof.Rows.Boot.«ValueError» (by decide) PySem.F.isExc_ValueError PySem.F.notTuple_ValueError ?_ ?_
      · rfl
      · kts_sub
      · intro h'' g' T' F9 N9 B9 X9 P9 D9
        clear F8 F7 N7
        (repeat' (first | ((fail_if_success (with_reducible show wpAny _ _ (call (Value.ref _) _) _ _ _)); (fail_if_success (with_reducible show wpAny _ _ (call (Value.builtin _) _) _ _ _)); (first | walk1 | (dsimp only; walk1)))))
        exact hR _ g' _ _ T' F9.keep (readIs_none (by rw [← hru] at hab; exact hab))
end Mine
end

section  -- E1
open PySem PySem.W PySem.Calls PySem.Spec PyProof.Rows
set_option maxRecDepth 100000
set_option maxHeartbeats 2000000
namespace Mine
open LCg
section
variable {prog : Program} {w : World} {A : Around} {E : Value → Shared → Prop} {s : Shared} {h₀ : Heap} {L : Addr} {m : Str → Option Value} {env : Env}
/-- a turn's end -/
noncomputable def EEnd (h₀ : Heap) (L : Addr) (m : Str → Option Value) (s₂ : Shared) (led : List (Addr × Obj)) (R : Value → Prop) (y : Value) (s₃ : Shared) : Prop :=
  ∃ h' tk' all, s₃ = { s₂ with heap := h', toks := tk' } ∧ Fr h₀ L h' m ∧ News h₀ L h' all ∧ (∀ p ∈ led, p ∈ all) ∧ R y
theorem EEnd.intro {h₀ : Heap} {L : Addr} {m : Str → Option Value} {s₂ : Shared} {led all : List (Addr × Obj)} {R : Value → Prop} {y : Value} {h' : Heap} {tk' : Nat} (F : Fr h₀ L h' m) (N : News h₀ L h' all) (hs : ∀ p ∈ led, p ∈ all) (r : R y) :
    EEnd h₀ L m s₂ led R y { s₂ with heap := h', toks := tk' } := ⟨h', tk', all, rfl, F, N, hs, r⟩
/-- an enumerate over a list of the ledger, and what its turns give -/
inductive EnumIt (prog : Program) (w : World) (A : Around) (h₀ : Heap) (L : Addr) (m : Str → Option Value) (env : Env) (elt : PySem.Expr) (a b : Str) (scope : Scope) (cl : List (Str × Addr)) (Fin : Shared → List Value → List (Addr × Obj) → Prop) : Value → Shared → Prop
  | mk (s₂ : Shared) (I K l : Addr) (vs : List Value) (nn : Nat) (news : List (Addr × Obj)) (J : Nat → List Value → Prop) : (A.handled = none) → (vs.length ≤ sizeLine) → (I ≠ K) → (∃ old, IsEnum s₂.heap I K 0 old) → (s₂.heap.IsListIter K l 0) → ((l, ({ cls := .type "list", data := .seq vs.toArray nn } : Obj)) ∈ news) → (Fr h₀ L s₂.heap m) → (News h₀ L s₂.heap news) → (L ≠ I) → (L ≠ K) → (h₀.get? I = none) → (h₀.get? K = none) → (∀ p ∈ news, p.1 ≠ I ∧ p.1 ≠ K) → (J 0 []) → (∀ i x ys t oI oK C oC D m₂ h tk (E' : Value → Shared → Prop), vs[i]? = some x → J i ys → NsObj oC m₂ → m₂ a = some (.int (i : Int) t) → m₂ b = some x → Fr h₀ L h m →
      News h₀ L h ((I, oI) :: (K, oK) :: (C, oC) :: (D, lst ys) :: news) →
      wpAny (model prog w) A (eval elt (compEnvC scope cl C env)) (EEnd h₀ L m s₂ ((I, oI) :: (K, oK) :: (C, oC) :: (D, lst ys) :: news) (fun y => J (i + 1) (ys ++ [y]))) E' { s₂ with heap := h, toks := tk }) → (∀ ys, J vs.length ys → Fin s₂ ys news) → EnumIt prog w A h₀ L m env elt a b scope cl Fin (.ref I) s₂
/-- what holds before each turn -/
inductive EJ (h₀ : Heap) (L : Addr) (m : Str → Option Value) (s₂ : Shared) (I K l C D : Addr) (vs : List Value) (news : List (Addr × Obj)) (J : Nat → List Value → Prop) : Nat → Shared → Prop
  | mk (h' : Heap) (tk i : Nat) (ys : List Value) (m' : Str → Option Value) (hi : i ≤ vs.length) (hyl : ys.length = i) (hE : ∃ old, IsEnum h' I K i old) (hK : h'.IsListIter K l i) (F : Fr h₀ L h' m) (hn : h'.Ns C m')
      (N : News h₀ L h' ((D, lst ys) :: news)) (hj : J i ys) : EJ h₀ L m s₂ I K l C D vs news J (vs.length + 1 - i) { s₂ with heap := h', toks := tk }
theorem enum_block {elt iter : PySem.Expr} {a b : Str} {pa pb tp : Pos} {kk : Nat} {scope : Scope} {cl : List (Str × Addr)} {pos : Pos} {s₂ : Shared} {it : Value}
    {Fin : Shared → List Value → List (Addr × Obj) → Prop} {RR : Value → Addr → Result → Shared → Prop}
    (hcell : ∀ y ∈ scope.names, y.2 ≠ .cell) (hkind : scope.kind = .function) (hxa : scope.names.lookup a = some .local) (hxb : scope.names.lookup b = some .local) (hab : ¬ a = b)
    (X : EnumIt prog w A h₀ L m env elt a b scope cl Fin it s₂)
    (hRR : ∀ D C h tk m' ys news', Fr h₀ L h m → News h₀ L h ((D, lst ys) :: news') → Off1 D news' → h.Ns C m' → h₀.get? C = none → h₀.get? D = none → C ≠ L → D ≠ L → C ≠ D → (∀ p ∈ news', p.1 ≠ C) → Fin s₂ ys news' → RR (.ref D) C (.ok .next) { s₂ with heap := h, toks := tk }) :
    wpAny (model prog w) A (newList []) (fun acc s₃ => wpAny (model prog w) A (newFunctionEnv scope env.globals cl [] env.qual none .none (some env)) (fun cenv s₄ =>
      codeAny (model prog w) A (.compStart (.ListComp elt [⟨.Tuple [.Name a pa, .Name b pb] kk tp, iter, [], 0⟩] scope pos) 0 it acc { cenv with scope := relabel scope env }) (RR acc cenv.locals) s₄) E s₃) E s₂ := by
  obtain ⟨_, I, K, l, vs, nn, news, J, hh, hsz, hIK, ⟨old0, hE0⟩, hK0, hmem, F, N, hIL, hKL, hI₀, hK₀, off, hJ0, turn, fin⟩ := X
  refine wpAny_newObj_type (wpAny_newFunctionEnv hcell (by intro y hy; simp at hy) (fun h₁ hns₁ hsb₁ => ?_) hkind)
  dsimp only at hns₁ hsb₁ ⊢
  generalize hH2 : s₂.heap.push { cls := .type "list", dict := none, data := .seq ([] : List Value).toArray } = H2 at hns₁ hsb₁ ⊢
  have hC : H2.objs.size = s₂.heap.objs.size + 1 := by rw [← hH2, Heap.size_push]
  have hDC : s₂.heap.objs.size ≠ H2.objs.size := by rw [hC]; exact Nat.ne_of_lt (Nat.lt_succ_self _)
  have below : ∀ b, b < s₂.heap.objs.size → b ≠ H2.objs.size ∧ b ≠ s₂.heap.objs.size := fun b hb => ⟨by rw [hC]; exact Nat.ne_of_lt (Nat.lt_succ_of_lt hb), Nat.ne_of_lt hb⟩
  have hIlt : I < s₂.heap.objs.size := Heap.lt_size hE0
  have hKlt : K < s₂.heap.objs.size := by obtain ⟨_, x, _⟩ := hK0; exact Heap.lt_size x
  have old : ∀ b o, s₂.heap.get? b = some o → h₁.get? b = some o := fun b o e => hsb₁.extBut b o (below b (Heap.lt_size e)).1 (Heap.get?_push_of_some _ (hH2 ▸ Heap.get?_push_of_some _ e))
  have hacc : h₁.get? s₂.heap.objs.size = some (lst []) := hsb₁.extBut _ _ hDC (Heap.get?_push_of_some _ (hH2 ▸ Heap.get?_push_size _ rfl))
  have fresh : ∀ a, s₂.heap.objs.size ≤ a → s₂.heap.get? a = none := fun a ha => by
    cases e : s₂.heap.get? a with
    | none => rfl
    | some o' => exact absurd (Heap.lt_size e) (Nat.not_lt.mpr ha)
  have fresh₀ : ∀ a, s₂.heap.objs.size ≤ a → h₀.get? a = none := fun a ha => by
    cases e : h₀.get? a with
    | none => rfl
    | some o' => have := F.keep a o' e; rw [fresh a ha] at this; cases this
  have hD₀ : h₀.get? s₂.heap.objs.size = none := fresh₀ _ (Nat.le_refl _)
  have hC₀ : h₀.get? H2.objs.size = none := fresh₀ _ (by rw [hC]; exact Nat.le_succ _)
  have hLlt : L < s₂.heap.objs.size := F.ns.lt
  have hDL : s₂.heap.objs.size ≠ L := Ne.symm (below L hLlt).2
  have hCL : H2.objs.size ≠ L := Ne.symm (below L hLlt).1
  have hCI : I ≠ H2.objs.size := (below I hIlt).1
  have hDI : I ≠ s₂.heap.objs.size := (below I hIlt).2
  have hCK : K ≠ H2.objs.size := (below K hKlt).1
  have hDK : K ≠ s₂.heap.objs.size := (below K hKlt).2
  have offC : ∀ p ∈ news, p.1 ≠ H2.objs.size := fun p hp => (below _ (Heap.lt_size (N p hp).1)).1
  have offD : ∀ p ∈ news, p.1 ≠ s₂.heap.objs.size := fun p hp => (below _ (Heap.lt_size (N p hp).1)).2
  have hl : ∀ h, News h₀ L h news → h.IsList l vs.toArray := fun h N' => ⟨_, N'.get hmem, rfl, _, rfl⟩
  have W := WalksT.enumerate (prog := prog) (w := w) (A := A) hh I K l hIK (off _ hmem).1 (off _ hmem).2 vs.toArray
  have loop : ∀ s₃ : Shared, s₃ = { s₂ with heap := h₁, toks := s₂.toks + ([] : List (Str × Value)).length } →
      codeAny (model prog w) A (.compLoop (.ListComp elt [⟨.Tuple [.Name a pa, .Name b pb] kk tp, iter, [], 0⟩] scope pos) 0 (.ref I) (.ref s₂.heap.objs.size) (compEnvC scope cl H2.objs.size env))
        (RR (.ref s₂.heap.objs.size) H2.objs.size) s₃ := by
    rintro s₃ rfl
    refine kcp_loop
      (EJ h₀ L m s₂ I K l H2.objs.size s₂.heap.objs.size vs news J) ?_ (vs.length + 1)
      (.mk h₁ _ 0 [] _ (Nat.zero_le _) rfl ⟨old0, old _ _ hE0⟩ (hK0.at fun o e => old _ _ e) (F.keeps old) hns₁ (fun p hp => ?_) hJ0)
    · rintro k s' ⟨h', tk, i, ys, m', hi, hyl, hE', hK', F', hn', N', hj⟩
      have Nn : News h₀ L h' news := fun p hp => N' p (.tail _ hp)
      by_cases hlt : i < vs.length
      · have hszi : vs.toArray.size = vs.length := List.size_toArray
        refine W.item i _ _ _ (by rw [hszi]; exact hlt) ⟨hE', hK', hl _ Nn⟩ fun T vals h₂ tk₂ hP hTle hT hMd hk₂ => ?_
        obtain ⟨t, x, hx, rfl⟩ := hP
        have hx' : vs[i]? = some x := by simpa using hx
        refine W.go _ _ _ i T _ _ _ hMd fun h₃ hst₃ hk₃ => ?_
        have hap := W.apart i T _ hMd
        have up₃ : ∀ c o, c ≠ I → c ≠ K → h'.get? c = some o → h₃.get? c = some o := fun c o hc hc' e => hk₃ c o (by simp [hc, hc']) (hk₂ c o (by simp [hc, hc']) e)
        have hT₃ : h₃.IsTuple T #[.int i t, x] := hT.at fun o e => hk₃ T o hap e
        refine kcp_assign (env := compEnvC scope cl H2.objs.size env) hh hT₃ (lookup_relabel_local hxa) (lookup_relabel_local hxb) (by simp [compEnvC, relabel, hkind]) (hn'.at' fun o e => up₃ _ o (Ne.symm hCI) (Ne.symm hCK) e) fun h₄ tk₄ hn₄ hs₄ => ?_
        have up : ∀ c o, c ≠ I → c ≠ K → c ≠ H2.objs.size → h'.get? c = some o → h₄.get? c = some o := fun c o h1 h2 h3 e => hs₄ c o h3 (up₃ c o h1 h2 e)
        obtain ⟨⟨old₃, hE₃⟩, hK₃, _⟩ := hst₃
        have hE₄ : IsEnum h₄ I K ((i + 1 : Nat) : Int) old₃ := hs₄ I _ hCI hE₃
        obtain ⟨oK, heK, hoK⟩ : ∃ oK : Obj, h₄.get? K = some oK ∧ ∀ h : Heap, h.get? K = some oK → h.IsListIter K l (i + 1) := by
          obtain ⟨o, e, r⟩ := hK₃
          exact ⟨o, hs₄ K _ hCK e, fun h e' => ⟨o, e', r⟩⟩
        obtain ⟨oI, heI, hoI⟩ : ∃ oI : Obj, h₄.get? I = some oI ∧ ∀ h : Heap, h.get? I = some oI → ∃ old, IsEnum h I K ((i + 1 : Nat) : Int) old := ⟨_, hE₄, fun _ e => ⟨_, e⟩⟩
        obtain ⟨oC, heC, hoC⟩ := ns_obj hn₄
        have F₄ : Fr h₀ L h₄ m := ⟨F'.ns.at' fun o e => up _ o hIL hKL (Ne.symm hCL) e, fun c o e => up c o (fun q => by rw [q, hI₀] at e; cases e) (fun q => by rw [q, hK₀] at e; cases e) (fun q => by rw [q, hC₀] at e; cases e) (F'.keep c o e), F'.above⟩
        have N₄ : News h₀ L h₄ ((I, oI) :: (K, oK) :: (H2.objs.size, oC) :: (s₂.heap.objs.size, lst ys) :: news) := fun q hq => by
          rcases List.mem_cons.mp hq with rfl | hq
          · exact ⟨heI, Ne.symm hIL, hI₀⟩
          rcases List.mem_cons.mp hq with rfl | hq
          · exact ⟨heK, Ne.symm hKL, hK₀⟩
          rcases List.mem_cons.mp hq with rfl | hq
          · exact ⟨heC, hCL, hC₀⟩
          have z := N' q hq
          refine ⟨up _ _ ?_ ?_ ?_ z.1, z.2⟩
          · rcases List.mem_cons.mp hq with rfl | hq
            · exact Ne.symm hDI
            · exact (off q hq).1
          · rcases List.mem_cons.mp hq with rfl | hq
            · exact Ne.symm hDK
            · exact (off q hq).2
          · rcases List.mem_cons.mp hq with rfl | hq
            · exact hDC
            · exact offC q hq
        refine wpAny_mono (turn i x ys t oI oK H2.objs.size oC s₂.heap.objs.size _ h₄ _ _ hx' hj hoC (by simp [hab]) (by simp) F₄ N₄) (fun y s₅ h₅ => ?_) fun _ _ e => e
        obtain ⟨h₅, tk₅, all, rfl, F₅, N₅', hall, hj₅⟩ := h₅
        have N₅ : News h₀ L h₅ ((I, oI) :: (K, oK) :: (H2.objs.size, oC) :: (s₂.heap.objs.size, lst ys) :: news) := fun p hp => N₅' p (hall p hp)
        have zI := (N₅ (I, oI) (.head _)).1
        have zK := (N₅ (K, oK) (.tail _ (.head _))).1
        have zC := (N₅ (H2.objs.size, oC) (.tail _ (.tail _ (.head _)))).1
        have zD := (N₅ (s₂.heap.objs.size, lst ys) (.tail _ (.tail _ (.tail _ (.head _))))).1
        have Nn₅ : News h₀ L h₅ news := fun q hq => N₅ q (.tail _ (.tail _ (.tail _ (.tail _ hq))))
        refine append_at (hsz := by show ys.toArray.size ≤ sizeLine; rw [List.size_toArray, hyl]; exact Nat.le_trans hi hsz) zD fun h₆ hs₆ hD₆ => ?_
        refine ⟨vs.length + 1 - (i + 1), by omega, .mk h₆ tk₅ (i + 1) (ys ++ [y]) _ hlt (by rw [List.length_append, List.length_singleton, hyl]) (hoI h₆ (hs₆.extBut I oI hDI zI)) (hoK h₆ (hs₆.extBut K oK hDK zK)) (F₅.change hs₆ hDL hD₀)
          ((hoC.ns zC).sameBut hs₆ (Ne.symm hDC)) (fun q hq => ?_) hj₅⟩
        rcases List.mem_cons.mp hq with rfl | hq
        · exact ⟨hD₆.trans (congrArg some (lst_snoc ys y)), hDL, hD₀⟩
        · exact ⟨hs₆.extBut _ _ (offD q hq) (Nn₅ q hq).1, (Nn₅ q hq).2⟩
      · have hin : i = vs.length := Nat.le_antisymm hi (Nat.not_lt.mp hlt)
        subst hin
        have hszi : vs.toArray.size = vs.length := List.size_toArray
        refine W.done _ _ _ (by rw [hszi]; exact ⟨hE', hK', hl _ Nn⟩) fun h₂ tk₂ hk₂ => ?_
        have up₂ : ∀ c o, c ≠ I → c ≠ K → h'.get? c = some o → h₂.get? c = some o := fun c o hc hc' e => hk₂ c o (by simp [hc, hc']) e
        refine hRR _ _ h₂ tk₂ m' ys news ⟨F'.ns.at' fun o e => up₂ _ o hIL hKL e, fun c o e => up₂ c o (fun q => by rw [q, hI₀] at e; cases e) (fun q => by rw [q, hK₀] at e; cases e) (F'.keep c o e), F'.above⟩ (fun q hq => ?_) (Off1_of offD) (hn'.at' fun o e => up₂ _ o (Ne.symm hCI) (Ne.symm hCK) e) hC₀ hD₀ hCL hDL (Ne.symm hDC) offC (fin ys hj)
        have z := N' q hq
        refine ⟨up₂ _ _ ?_ ?_ z.1, z.2⟩
        · rcases List.mem_cons.mp hq with rfl | hq
          · exact Ne.symm hDI
          · exact (off q hq).1
        · rcases List.mem_cons.mp hq with rfl | hq
          · exact Ne.symm hDK
          · exact (off q hq).2
    · rcases List.mem_cons.mp hp with rfl | hp
      · exact ⟨hacc, hDL, hD₀⟩
      · exact ⟨old _ _ (N p hp).1, (N p hp).2⟩
  refine codeAny_compStart_list (loop _ rfl) ?_
  exact wpAny_pyIter_enum (old _ _ hE0) (loop _ rfl)
where
  Off1_of {D : Addr} : ∀ {l : List (Addr × Obj)}, (∀ p ∈ l, p.1 ≠ D) → Off1 D l
  | [], _ => trivial
  | _ :: _, h => ⟨h _ (.head _), Off1_of fun p hp => h p (.tail _ hp)⟩
theorem Assign_ListComp_E {elt iter : PySem.Expr} {a b y : Str} {pa pb tp py : Pos} {kk : Nat} {scope : Scope} {cl : List (Str × Addr)} {pos spos : Pos} {Q : Flow → Shared → Prop} (hLe : env.locals = L)
    (hsw : swapsWith (.ListComp elt [⟨.Tuple [.Name a pa, .Name b pb] kk tp, iter, [], 0⟩] scope pos) (some (.Name y py)) spos.line env = pure true)
    (hclos : closureFor scope env = pure cl) (hcell : ∀ z ∈ scope.names, z.2 ≠ .cell) (hkind : scope.kind = .function)
    (hnames : ∀ z ∈ scope.names, z.2 = .local → scope.names.lookup z.1 = some .local) (hxa : scope.names.lookup a = some .local) (hxb : scope.names.lookup b = some .local) (hab : ¬ a = b)
    (hy : env.kindOf y = some .local) (hp : (env.scope.kind == .class || (env.scope.kind == .module && env.locals != env.globals)) = false)
    (h : wpAny (model prog w) A (eval iter env) (fun xv s₁ => wpAny (model prog w) A (pyIter xv) (EnumIt prog w A h₀ L m env elt a b scope cl (fun s₂ => FinA h₀ L m s₂ y Q)) E s₁) E s)
    (hs : ∀ x, foldedSetIterable iter env x = pure x := by intro _; rfl) :
    wpAny (model prog w) A (exec (.Assign [.Name y py] (.ListComp elt [⟨.Tuple [.Name a pa, .Name b pb] kk tp, iter, [], 0⟩] scope pos) spos) env) Q E s := by
  subst hLe
  rw [exec_Assign_Name_used _ _ _ _ hsw]
  refine wpAny_bind (wpAny_standAt (wpAny_bind ?_))
  show wpAny _ A (do let _ ← comprehension (.ListComp elt [⟨.Tuple [.Name a pa, .Name b pb] kk tp, iter, [], 0⟩] scope pos) scope env _ (newList []) false (eval iter env) (some (assign (.Name y py) env))) _ _ s
  refine wpAny_bind (wpAny_mono (wpAny_comprehension_free (use := some (assign (.Name y py) env)) (Q := fun _ s' => Q .next s') rfl hs hclos hkind hnames
    (wpAny_mono h (fun xv s₁ h₁ => ?_) fun _ _ e => e)) (fun _ s' hq => wpAny_pure (wpAny_pure hq)) fun _ _ e => e)
  refine wpAny_mono h₁ (fun it s₂ h₂ => ?_) fun _ _ e => e
  refine enum_block hcell hkind hxa hxb hab h₂ ?_
  intro D C h' tk m' ys news' F' N' o1 hn hC₀ hD₀ hCL hDL hCD offC fin
  show wpAny _ A (assign (.Name y py) env (.ref D)) _ _ _
  refine wpAny_assign_Name (wpAny_storeName_local hy F'.ns (fun h₂ hn₂ hs₂ => ?_) hp)
  have hL₀ : h₀.get? env.locals = none := Heap.get?_none_of_le F'.above
  have F₂ : Fr h₀ env.locals h₂ (fun z => if z = y then some (.ref D) else m z) := ⟨hn₂, fun b o e => hs₂.extBut b o (fun q => by rw [q, hL₀] at e; cases e) (F'.keep b o e), F'.above⟩
  refine ⟨m', hn.sameBut hs₂ hCL, fun h'' hs'' => fin D h'' _ (F₂.change hs'' hCL hC₀) (fun p hp => ?_) o1⟩
  have z : h₂.get? p.1 = some p.2 := hs₂.extBut _ _ (N' p hp).2.1 (N' p hp).1
  refine ⟨hs''.extBut _ _ ?_ z, (N' p hp).2⟩
  rcases List.mem_cons.mp hp with rfl | hp
  · exact Ne.symm hCD
  · exact offC p hp
theorem enum_call {elt : PySem.Expr} {a b : Str} {scope : Scope} {cl : List (Str × Addr)} {Fin : Shared → List Value → List (Addr × Obj) → Prop} {l : Addr} {vs : List Value} {nn : Nat} {its : Array Value} {news : List (Addr × Obj)}
    (hh : A.handled = none) (F : Fr h₀ L s.heap m) (N : News h₀ L s.heap news) (hm : (l, ({ cls := .type "list", data := .seq its nn } : Obj)) ∈ news) (hv : its = vs.toArray) (hsz : vs.length ≤ sizeLine) (J : Nat → List Value → Prop) (hJ : J 0 [])
    (turn : ∀ i x ys t I oI K oK C oC D m₂ s₂ h tk (E' : Value → Shared → Prop), (∃ h, s₂ = { s with heap := h }) → vs[i]? = some x → J i ys → NsObj oC m₂ → m₂ a = some (.int (i : Int) t) → m₂ b = some x → Fr h₀ L h m →
      News h₀ L h ((I, oI) :: (K, oK) :: (C, oC) :: (D, lst ys) :: news) →
      wpAny (model prog w) A (eval elt (compEnvC scope cl C env)) (EEnd h₀ L m s₂ ((I, oI) :: (K, oK) :: (C, oC) :: (D, lst ys) :: news) (fun y => J (i + 1) (ys ++ [y]))) E' { s₂ with heap := h, toks := tk })
    (fin : ∀ s₂ ys, (∃ h, s₂ = { s with heap := h }) → J vs.length ys → Fin s₂ ys news) :
    wpAny (model prog w) A (call (.type "enumerate") [.ref l]) (fun xv s₁ => wpAny (model prog w) A (pyIter xv) (EnumIt prog w A h₀ L m env elt a b scope cl Fin) E s₁) E s := by
  subst hv
  refine call_enumerate_list ⟨_, N.get hm, rfl, _, rfl⟩ fun h' hE hK hsz' hk => ?_
  have F' := Fr.into F hk
  have N' := News.into N hk
  refine wpAny_pyIter_enum hE ?_
  refine ⟨_, _, s.heap.objs.size, l, vs, nn, news, J, hh, hsz, Nat.succ_ne_self _, ⟨_, hE⟩, hK, hm, F', N', Nat.ne_of_lt (Nat.lt_succ_of_lt F.ns.lt), Nat.ne_of_lt F.ns.lt, ?_, next_is_new F, fun p hp => ⟨Nat.ne_of_lt (Nat.lt_succ_of_lt (Heap.lt_size (N p hp).1)), Nat.ne_of_lt (Heap.lt_size (N p hp).1)⟩, hJ,
    fun i x ys t oI oK C oC D m₂ h tk E' h1 h2 h3 h4 h5 F6 N6 => turn i x ys t _ oI _ oK C oC D m₂ _ h tk E' ⟨_, rfl⟩ h1 h2 h3 h4 h5 F6 N6, fun ys hy => fin _ ys ⟨_, rfl⟩ hy⟩
  cases e : h₀.get? (s.heap.objs.size + 1) with
  | none => rfl
  | some o' =>
    have := Heap.lt_size (F.keep _ o' e)
    exact absurd this (Nat.not_lt.mpr (Nat.le_succ _))
end
end Mine
end

section  -- E2
open PySem PySem.W PySem.Calls PySem.Spec PyProof.Rows
set_option maxRecDepth 100000
set_option maxHeartbeats 1000000
namespace Mine
section
variable {prog : Program} {w : World} {A : Around} {E : Value → Shared → Prop} {Q : Flow → Shared → Prop} {s : Shared} {env : Env} {h₀ : Heap} {x : Str} {body : List Stmt} {m₀ : Str → Option Value} {news : List (Addr × Obj)}
/-- a turn's end: the iterator as it was, the ledger as it may be -/
noncomputable def TurnG (h₀ : Heap) (L I : Addr) (oI : Obj) (J : (Str → Option Value) → List (Addr × Obj) → Prop) (s₁ : Shared) (Q : Flow → Shared → Prop) (f : Flow) (s₂ : Shared) : Prop :=
  match f with
  | .ret v => Q (.ret v) s₂
  | .brk => Q .next s₂
  | _ => ∃ h' tk m' news' all, s₂ = { s₁ with heap := h', toks := tk } ∧ Fr h₀ L h' m' ∧ News h₀ L h' all ∧ (I, oI) ∈ all ∧ (∀ p ∈ news', p ∈ all) ∧ (∀ p ∈ news', p.1 ≠ I) ∧ J m' news'
theorem TurnG.next {L I : Addr} {oI : Obj} {J : (Str → Option Value) → List (Addr × Obj) → Prop} {s₁ : Shared} {h' : Heap} {tk : Nat} {m' : Str → Option Value} {news' all : List (Addr × Obj)} (F : Fr h₀ L h' m') (N : News h₀ L h' all) (hI : (I, oI) ∈ all)
    (hs : ∀ p ∈ news', p ∈ all) (hne : ∀ p ∈ news', p.1 ≠ I) (hJ : J m' news') : TurnG h₀ L I oI J s₁ Q .next { s₁ with heap := h', toks := tk } := ⟨h', tk, m', news', all, rfl, F, N, hI, hs, hne, hJ⟩
theorem listG {l : Addr} {vs : List Value} {nn : Nat} (J : Nat → (Str → Option Value) → List (Addr × Obj) → Prop)
    (hh : A.handled = none) (hm : ∀ i m₁ news₁, J i m₁ news₁ → (l, ({ cls := .type "list", data := .seq vs.toArray nn } : Obj)) ∈ news₁) (F : Fr h₀ env.locals s.heap m₀) (N : News h₀ env.locals s.heap news) (hj : J 0 m₀ news)
    (turn : ∀ i v m₁ news₁ h tk I oI, vs[i]? = some v → J i m₁ news₁ → (∀ p ∈ news₁, p.1 ≠ I) → Fr h₀ env.locals h (fun y => if y = x then some v else m₁ y) → News h₀ env.locals h ((I, oI) :: news₁) →
      wpAny (model prog w) A (execs body env) (TurnG h₀ env.locals I oI (J (i + 1)) { s with heap := h, toks := tk } Q) E { s with heap := h, toks := tk })
    (done : ∀ m₁ news₁ h tk, J vs.length m₁ news₁ → Fr h₀ env.locals h m₁ → News h₀ env.locals h news₁ → Q .next { s with heap := h, toks := tk }) :
    wpAny (model prog w) A (pyIter (.ref l)) (fun it s₂ => LoopAtV prog w A h₀ env x body Q E it s₂) E s := by
  have hml := hm _ _ _ hj
  have hls : s.heap.IsList l vs.toArray := ⟨_, N.get hml, rfl, _, rfl⟩
  have hne : l ≠ s.heap.objs.size := Nat.ne_of_lt (Heap.lt_size (N _ hml).1)
  refine wpAny_pyIter_list hls ?_
  have W := Walks.list (prog := prog) (w := w) hh s.heap.objs.size l hne vs.toArray
  have hlen : vs.toArray.size = vs.length := by simp
  rw [hlen] at W
  refine ⟨_, _, _, vs.length, _, _, m₀, news, J, rfl, W, ?_, ?_, ?_, ⟨⟨_, Heap.get?_push_size _ rfl, rfl, rfl⟩, hls.at fun o e => Heap.get?_push_of_some _ e⟩, F.push _, (fun p hp => ⟨Heap.get?_push_of_some _ (N p hp).1, (N p hp).2⟩), hj, ?_, ?_⟩
  · intro hm'
    rcases List.mem_cons.mp hm' with e | hm'
    · exact absurd F.ns.lt (e ▸ Nat.lt_irrefl _)
    · exact (N _ hml).2.1 (List.mem_singleton.mp hm').symm
  · intro b hb
    rw [List.mem_singleton.mp hb]
    exact next_is_new F
  · intro p hp hq
    exact absurd (Heap.lt_size (N p hp).1) (by rw [List.mem_singleton.mp hq]; exact Nat.lt_irrefl _)
  · rintro i v m₁ news₁ s₁ own ⟨hh', tk', rfl⟩ hi hP hJ hoff hown1 hown2 hown3 hst F₁ N₁
    have hx : vs[i]? = some v := by simpa using hP
    have hml₁ := hm _ _ _ hJ
    obtain ⟨oI, heI, _⟩ := hst.1
    have hIL : s.heap.objs.size ≠ env.locals := Nat.ne_of_gt F.ns.lt
    have NI : News h₀ env.locals hh' ((s.heap.objs.size, oI) :: news₁) := fun p hp => by
      rcases List.mem_cons.mp hp with rfl | hp
      · exact ⟨heI, hIL, next_is_new F⟩
      · exact N₁ p (List.mem_append_right _ hp)
    refine wpAny_mono (turn i v m₁ news₁ hh' tk' _ oI hx hJ (fun p hp e => hoff p hp (by rw [e]; exact List.mem_singleton.mpr rfl)) F₁ NI) (fun f s₂ p => ?_) fun _ _ e => e
    have fin : (∃ h' tk m' news' all, s₂ = { ({ s with heap := hh', toks := tk' } : Shared) with heap := h', toks := tk } ∧ Fr h₀ env.locals h' m' ∧ News h₀ env.locals h' all ∧ (s.heap.objs.size, oI) ∈ all ∧ (∀ p ∈ news', p ∈ all) ∧ (∀ p ∈ news', p.1 ≠ s.heap.objs.size) ∧ J (i + 1) m' news') →
        LoopStepU h₀ env.locals [s.heap.objs.size] own (J (i + 1)) { s with heap := hh', toks := tk' } .next s₂ := by
      rintro ⟨h', tk, m', nx, all, e, F', N', hIa, hsub, hne', hJ'⟩
      refine ⟨rfl, h', tk, m', nx, e, F', fun p hp => ?_, fun p hp hq => hne' p hp (List.mem_singleton.mp hq), hJ'⟩
      rcases List.mem_append.mp hp with hp | hp
      · have e2 := hown2 p hp
        rcases List.mem_cons.mp (hown1 p hp) with e1 | e1
        · have : p = (s.heap.objs.size, oI) := by
            obtain ⟨a, o⟩ := p
            have e1' : a = s.heap.objs.size := e1
            have e2' : hh'.get? a = some o := e2
            have heI' : hh'.get? s.heap.objs.size = some oI := heI
            rw [e1', heI'] at e2'
            rw [e1', Option.some.inj e2']
          rw [this]; exact N' _ hIa
        · have e1' := List.mem_singleton.mp e1
          have : p = (l, ({ cls := .type "list", data := .seq vs.toArray nn } : Obj)) := by
            obtain ⟨a, o⟩ := p
            have e4 : a = l := e1'
            have e3 : hh'.get? l = some _ := (NI _ (.tail _ hml₁)).1
            have e2' : hh'.get? a = some o := e2
            rw [e4, e3] at e2'
            rw [e4, ← Option.some.inj e2']
          rw [this]; exact N' _ (hsub _ (hm _ _ _ hJ'))
      · exact N' p (hsub p hp)
    cases f with
    | ret v => exact .ret p
    | brk => exact .brk p
    | next => exact .next (fin p)
    | cont => exact .cont (fin p)
  · rintro h' tk m' news' F' N' _ hJ
    exact done m' news' h' tk hJ F' N'
theorem rangeG {r : Addr} {b₀ : Int} {t₀ u₀ v₀ : Tok} {n : Nat} (J : Nat → (Str → Option Value) → List (Addr × Obj) → Prop)
    (hh : A.handled = none) (hr : IsRange s.heap r 0 b₀ 1 t₀ u₀ v₀) (hsmall : Builtin.Range.small 0 b₀ 1 = true) (hn : b₀ = (n : Int)) (F : Fr h₀ env.locals s.heap m₀) (N : News h₀ env.locals s.heap news) (hj : J 0 m₀ news)
    (turn : ∀ i t m₁ news₁ h tk I oI, i < n → J i m₁ news₁ → (∀ p ∈ news₁, p.1 ≠ I) → Fr h₀ env.locals h (fun y => if y = x then some (.int (i : Int) t) else m₁ y) → News h₀ env.locals h ((I, oI) :: news₁) →
      wpAny (model prog w) A (execs body env) (TurnG h₀ env.locals I oI (J (i + 1)) { s with heap := h, toks := tk } Q) E { s with heap := h, toks := tk })
    (done : ∀ m₁ news₁ h tk, J n m₁ news₁ → Fr h₀ env.locals h m₁ → News h₀ env.locals h news₁ → Q .next { s with heap := h, toks := tk }) :
    wpAny (model prog w) A (pyIter (.ref r)) (fun it s₂ => LoopAtV prog w A h₀ env x body Q E it s₂) E s := by
  subst hn
  refine wpAny_pyIter_range hr hsmall ?_
  have W : Walks prog w A s.heap.objs.size [s.heap.objs.size] [s.heap.objs.size] n (fun i v => i < n ∧ ∃ t, v = .int ((0 : Int) + i * 1) t)
      (fun i h => IsRangeIter h s.heap.objs.size ((0 : Int) + (i : Nat) * 1) ((n : Int) - (i : Nat)) 1) := (Walks.range hh _ 0 1 n).bound
  refine ⟨_, _, _, n, _, _, m₀, news, J, rfl, W, ?_, ?_, ?_, (by show IsRangeIter _ _ _ _ _; rw [rangeSize0]; simpa using Heap.get?_push_size _ rfl), F.push _, (fun p hp => ⟨Heap.get?_push_of_some _ (N p hp).1, (N p hp).2⟩), hj, ?_, ?_⟩
  · intro hm'
    exact absurd F.ns.lt ((List.mem_singleton.mp hm') ▸ Nat.lt_irrefl _)
  · intro b hb
    rw [List.mem_singleton.mp hb]
    exact next_is_new F
  · intro p hp hq
    exact absurd (Heap.lt_size (N p hp).1) (by rw [List.mem_singleton.mp hq]; exact Nat.lt_irrefl _)
  · rintro i v m₁ news₁ s₁ own ⟨hh', tk', rfl⟩ hi hP hJ hoff hown1 hown2 hown3 hst F₁ N₁
    obtain ⟨_, t, rfl⟩ := hP
    have e : ((0 : Int) + (i : Int) * 1) = (i : Int) := by omega
    rw [e] at F₁
    obtain ⟨oI, heI⟩ : ∃ oI : Obj, hh'.get? s.heap.objs.size = some oI := ⟨_, hst⟩
    have hIL : s.heap.objs.size ≠ env.locals := Nat.ne_of_gt F.ns.lt
    have NI : News h₀ env.locals hh' ((s.heap.objs.size, oI) :: news₁) := fun p hp => by
      rcases List.mem_cons.mp hp with rfl | hp
      · exact ⟨heI, hIL, next_is_new F⟩
      · exact N₁ p (List.mem_append_right _ hp)
    refine wpAny_mono (turn i t m₁ news₁ hh' tk' _ oI hi hJ (fun p hp e => hoff p hp (by rw [e]; exact List.mem_singleton.mpr rfl)) F₁ NI) (fun f s₂ p => ?_) fun _ _ e => e
    have fin : (∃ h' tk m' news' all, s₂ = { ({ s with heap := hh', toks := tk' } : Shared) with heap := h', toks := tk } ∧ Fr h₀ env.locals h' m' ∧ News h₀ env.locals h' all ∧ (s.heap.objs.size, oI) ∈ all ∧ (∀ p ∈ news', p ∈ all) ∧ (∀ p ∈ news', p.1 ≠ s.heap.objs.size) ∧ J (i + 1) m' news') →
        LoopStepU h₀ env.locals [s.heap.objs.size] own (J (i + 1)) { s with heap := hh', toks := tk' } .next s₂ := by
      rintro ⟨h', tk, m', nx, all, e, F', N', hIa, hsub, hne', hJ'⟩
      refine ⟨rfl, h', tk, m', nx, e, F', fun p hp => ?_, fun p hp hq => hne' p hp (List.mem_singleton.mp hq), hJ'⟩
      rcases List.mem_append.mp hp with hp | hp
      · have e2 := hown2 p hp
        have e1 := List.mem_singleton.mp (hown1 p hp)
        have : p = (s.heap.objs.size, oI) := by
          obtain ⟨a, o⟩ := p
          have e1' : a = s.heap.objs.size := e1
          have e2' : hh'.get? a = some o := e2
          rw [e1', heI] at e2'
          rw [e1', Option.some.inj e2']
        rw [this]; exact N' _ hIa
      · exact N' p (hsub p hp)
    cases f with
    | ret v => exact .ret p
    | brk => exact .brk p
    | next => exact .next (fin p)
    | cont => exact .cont (fin p)
  · rintro h' tk m' news' F' N' _ hJ
    exact done m' news' h' tk hJ F' N'
end
end Mine
end

section  -- C2
open PySem PySem.W PySem.Calls PySem.Spec PyProof.Rows
set_option maxRecDepth 100000
set_option maxHeartbeats 2000000
namespace Mine
open LCg
section
variable {prog : Program} {w : World} {A : Around} {E : Value → Shared → Prop} {s : Shared} {h₀ : Heap} {L : Addr} {m : Str → Option Value} {env : Env}
theorem compIt_range {elt : PySem.Expr} {x : Str} {scope : Scope} {cl : List (Str × Addr)} {Fin : Shared → List Value → List (Addr × Obj) → Prop} {r : Addr} {b₀ : Int} {t₀ u₀ v₀ : Tok} {n : Nat} {news : List (Addr × Obj)} (hh : A.handled = none)
    (hr : IsRange s.heap r 0 b₀ 1 t₀ u₀ v₀) (hn : b₀ = (n : Int)) (hsz : n ≤ 1000000)
    (F : Fr h₀ L s.heap m) (N : News h₀ L s.heap news)
    (R : ∀ s₂, (∃ h, s₂ = { s with heap := h }) → CompRest prog w A h₀ L m env elt x scope cl s₂ (fun _ => True) (fun i v => i < n ∧ ∃ t, v = .int (i : Int) t) (Fin s₂) n 0 [] news) :
    wpAny (model prog w) A (pyIter (.ref r)) (CompIt prog w A h₀ L m env elt x scope cl Fin) E s := by
  subst hn
  refine wpAny_pyIter_range hr (small0 hsz) ?_
  have W : Walks prog w A s.heap.objs.size [s.heap.objs.size] [s.heap.objs.size] n (fun i v => i < n ∧ ∃ t, v = .int ((0 : Int) + i * 1) t)
      (fun i h => IsRangeIter h s.heap.objs.size ((0 : Int) + (i : Nat) * 1) ((n : Int) - (i : Nat)) 1) := (Walks.range hh _ 0 1 n).bound
  have e : (fun (i : Nat) (v : Value) => i < n ∧ ∃ t, v = Value.int ((0 : Int) + i * 1) t) = fun i v => i < n ∧ ∃ t, v = Value.int (i : Int) t := by
    funext i v
    have : ((0 : Int) + (i : Int) * 1) = (i : Int) := by omega
    rw [this]
  rw [e] at W
  refine ⟨_, _, _, n, _, _, fun _ => True, news, W, by rw [sizeLine_eq]; omega, fun i h st => ⟨_, st⟩, fun i h h' o nw st q q' _ _ _ => ?_, ?_, fun b hb => ?_,
    F.keeps fun _ _ e => Heap.get?_push_of_some _ e, N.grown fun _ _ e => Heap.get?_push_of_some _ e, Nat.ne_of_lt F.ns.lt, next_is_new F, fun p hp => Nat.ne_of_lt (Heap.lt_size (N p hp).1), trivial, R _ ⟨_, rfl⟩⟩
  · have st' : h.get? s.heap.objs.size = some _ := st
    rw [st'] at q
    show h'.get? s.heap.objs.size = some _
    rw [q', ← q]
  · show IsRangeIter _ _ _ _ _
    rw [rangeSize0]
    simpa using Heap.get?_push_size _ rfl
  · rw [List.mem_singleton.mp hb]
    show s.heap.objs.size < (s.heap.push _).objs.size
    rw [Heap.size_push]; exact Nat.lt_succ_self _
end
end Mine
end

section  -- C3
open PySem PySem.W PySem.Calls PySem.Spec PyProof.Rows
set_option maxRecDepth 100000
set_option maxHeartbeats 2000000
namespace Mine
open LCg LCt
section
variable {prog : Program} {w : World} {A : Around} {E : Value → Shared → Prop} {s : Shared} {h₀ : Heap} {L : Addr} {m : Str → Option Value} {env : Env}
/-- the turns of a comprehension with a test, by an invariant over the items made and the ledger -/
theorem comp_restT {ct elt : PySem.Expr} {x : Str} {scope : Scope} {cl : List (Str × Addr)} {S : List (Addr × Obj) → Prop} {P : Nat → Value → Prop} {Fin : List Value → List (Addr × Obj) → Prop} {n : Nat} {news : List (Addr × Obj)}
    (J : Nat → List Value → List (Addr × Obj) → Prop) (hJ : J 0 [] news)
    (turn : ∀ i ys nw v I oI C oC D m₂ h tk (E' : Value → Shared → Prop), i < n → J i ys nw → P i v → NsObj oC m₂ → m₂ x = some v → Fr h₀ L h m → News h₀ L h ((I, oI) :: (C, oC) :: (D, lst ys) :: nw) → Off3 I C D nw →
      wpAny (model prog w) A (isTrue ct (compEnvC scope cl C env) (eval ct (compEnvC scope cl C env))) (fun ok s' => if ok = true then
        wpAny (model prog w) A (eval elt (compEnvC scope cl C env)) (CompEnd h₀ L m { s with heap := h, toks := tk } I oI C oC D (lst ys) S (fun y nw' => J (i + 1) (ys ++ [y]) nw')) E' s'
        else CompEnd h₀ L m { s with heap := h, toks := tk } I oI C oC D (lst ys) S (fun _ nw' => J (i + 1) ys nw') Value.none s') E' { s with heap := h, toks := tk })
    (fin : ∀ ys nw, J n ys nw → Fin ys nw) : CompRestT prog w A h₀ L m env ct elt x scope cl s S P Fin n 0 [] news := by
  have key : ∀ (j i : Nat) (ys : List Value) (nw : List (Addr × Obj)), i + j = n → J i ys nw → CompRestT prog w A h₀ L m env ct elt x scope cl s S P Fin j i ys nw := by
    intro j
    induction j with
    | zero =>
      intro i ys nw hi hy
      have e : i = n := by omega
      subst e
      exact fin ys nw hy
    | succ j ih =>
      intro i ys nw hi hy
      refine CompRestT.succ ?_
      intro v I oI C oC D m₂ h tk E' hv hC hx F N off ne
      refine wpAny_mono (turn i ys nw v I oI C oC D m₂ h tk E' (by omega) hy hv hC hx F N off) (fun ok s₂ hq => ?_) fun _ _ e => e
      cases ok with
      | true =>
        simp only [if_true] at hq ⊢
        refine wpAny_mono hq (fun y s₃ hq => ?_) fun _ _ e => e
        obtain ⟨h', tk', nw', e, F', N', off', hS, hj⟩ := hq
        exact ⟨h', tk', nw', e, F', N', off', hS, ih (i + 1) _ _ (by omega) hj⟩
      | false =>
        simp only [Bool.false_eq_true, if_false] at hq ⊢
        obtain ⟨h', tk', nw', e, F', N', off', hS, hj⟩ := hq
        exact ⟨h', tk', nw', e, F', N', off', hS, ih (i + 1) _ _ (by omega) hj⟩
  exact key n 0 [] news (by omega) hJ
end
end Mine
end

section  -- L1
open PySem PySem.W PySem.Calls PyProof.Rows
set_option maxRecDepth 100000
set_option maxHeartbeats 1000000
namespace Mine
open LCg
noncomputable def isIntV : Value → Bool | .int _ _ => true | _ => false
theorem int_of {l : List Value} {i : Nat} {x : Value} (h : l.all isIntV = true) (hx : l[i]? = some x) : ∃ n t, x = .int n t := by
  have := List.all_eq_true.mp h x (List.mem_of_getElem? hx)
  cases x <;> first | exact ⟨_, _, rfl⟩ | cases this
theorem sum_ints {prog : Program} {w : World} {A : Around} {E : Value → Shared → Prop} {s : Shared} {l : Addr} {items : Array Value} {ns : List Int} {Q : Value → Shared → Prop} (hh : A.handled = none) (hl : s.heap.IsList l items) (hi : IntsAre items.toList ns)
    (h : ∀ h' tk t', Keep s.heap h' → Q (.int ns.sum t') { s with heap := h', toks := tk }) : wpAny (model prog w) A (call (.builtin "sum") [.ref l]) Q E s := by
  obtain ⟨xs, e⟩ := hi.allInts.items
  have e' : items = intItems xs := by simpa using e
  subst e'
  refine sum_intListG hh hl fun h' tk t' hk => ?_
  have hs : ns.sum = preSum (numAt xs) xs.size := by
    rw [preSum_eq, List.take_of_length_le (by simp), ← nums_intItems, ← hi.numsOf]
  rw [← hs]
  exact h h' tk t' hk
theorem ints_sub {vs : List Value} {ns : List Int} (hi : IntsAre vs ns) : ∀ {us : List Value}, (∀ u ∈ us, u ∈ vs) → ∃ ms, IntsAre us ms
  | [], _ => ⟨[], .nil⟩
  | u :: us, h => by
    obtain ⟨ms, hm⟩ := ints_sub hi (us := us) fun v hv => h v (.tail _ hv)
    have hu : ∃ n t, u = .int n t := by
      have := h u (.head _)
      clear h hm
      induction hi with
      | nil => cases this
      | cons n t r ih =>
        rcases List.mem_cons.mp this with rfl | hr
        · exact ⟨_, _, rfl⟩
        · exact ih hr
    obtain ⟨n, t, rfl⟩ := hu
    exact ⟨n :: ms, .cons n t hm⟩
theorem ints_snoc {vs : List Value} {ns : List Int} {n : Int} {t : Tok} (hi : IntsAre vs ns) : IntsAre (vs ++ [.int n t]) (ns ++ [n]) := by
  induction hi with
  | nil => exact .cons n t .nil
  | cons a b r ih => exact .cons a b ih
inductive HeadI (k : Nat) : List Value → Prop
  | mk (n : Int) (t : Tok) (us : List Value) (ms : List Int) (h : IntsAre us ms) (l : ms.length = k) : HeadI k (.int n t :: us)
theorem ints_cons {vs : List Value} {ns : List Int} {k : Nat} (hi : IntsAre vs ns) (h : ns.length = k + 1) : HeadI k vs := by
  cases hi with
  | nil => cases h
  | cons n t r => exact .mk n t _ _ r (Nat.succ.inj h)
inductive TenIs : List Value → Prop
  | mk (c0 c1 c2 c3 c4 c5 c6 c7 c8 c9 : Int) (t0 t1 t2 t3 t4 t5 t6 t7 t8 t9 : Tok) : TenIs [Value.int c0 t0, .int c1 t1, .int c2 t2, .int c3 t3, .int c4 t4, .int c5 t5, .int c6 t6, .int c7 t7, .int c8 t8, .int c9 t9]
theorem ints_ten {vs : List Value} {ns : List Int} (h0i : IntsAre vs ns) (h0l : ns.length = 10) : TenIs vs := by
  have z := ints_cons h0i h0l
  clear h0i h0l
  cases z with | mk c0 t0 us0 ms0 h1i h1l =>
  have z := ints_cons h1i h1l
  clear h1i h1l
  cases z with | mk c1 t1 us1 ms1 h2i h2l =>
  have z := ints_cons h2i h2l
  clear h2i h2l
  cases z with | mk c2 t2 us2 ms2 h3i h3l =>
  have z := ints_cons h3i h3l
  clear h3i h3l
  cases z with | mk c3 t3 us3 ms3 h4i h4l =>
  have z := ints_cons h4i h4l
  clear h4i h4l
  cases z with | mk c4 t4 us4 ms4 h5i h5l =>
  have z := ints_cons h5i h5l
  clear h5i h5l
  cases z with | mk c5 t5 us5 ms5 h6i h6l =>
  have z := ints_cons h6i h6l
  clear h6i h6l
  cases z with | mk c6 t6 us6 ms6 h7i h7l =>
  have z := ints_cons h7i h7l
  clear h7i h7l
  cases z with | mk c7 t7 us7 ms7 h8i h8l =>
  have z := ints_cons h8i h8l
  clear h8i h8l
  cases z with | mk c8 t8 us8 ms8 h9i h9l =>
  have z := ints_cons h9i h9l
  clear h9i h9l
  cases z with | mk c9 t9 us9 ms9 h10i h10l =>
  cases h10i with
  | nil => exact .mk c0 c1 c2 c3 c4 c5 c6 c7 c8 c9 t0 t1 t2 t3 t4 t5 t6 t7 t8 t9
  | cons n t r => cases h10l
theorem pick_sub {items : Array Value} {lo hi st : Option Int} : ∀ u ∈ (slicePick items lo hi st).toList, u ∈ items.toList := by
  intro u hu
  unfold slicePick at hu
  simp only [List.toList_toArray, List.mem_filterMap] at hu
  obtain ⟨i, _, hi⟩ := hu
  exact Array.mem_toList_iff.mpr (Array.mem_of_getElem? hi)
noncomputable def lawDef : List Stmt × Scope := match (PySem.Challenge.rw_pg0028_01.prog.main.body[12]? : Option Stmt) with | some (Stmt.FunctionDef _ _ body _ _ _ scope _ _ _) => (body, scope) | _ => default
noncomputable abbrev lawEnv (L f : Addr) (cd : Value) : Env := envOfC (Str.ofString "law") lawDef.2 L f cd
theorem law_1 {w : World} {base : Heap} {L f : Addr} {cd : Value} {s : Shared} {m : Str → Option Value} {sl : Addr} {vs : List Value} {ns : List Int} {o1 o2 o3 o4 : Obj} {Q : Flow → Shared → Prop} {E : Value → Shared → Prop}
    {pr : Program} {loose : List Str} {mean : ExcName → Option Value} {mg mb : Str → Option Value}
    (G : GI w base) (TB : Top pr loose mean mg mb base) (F : Fr base L s.heap m)
    (N : News base L s.heap [(L + 1 + 1 + 1 + 1, o4), (L + 1 + 1 + 1, o3), (L + 1 + 1, o2), (L + 1, o1), (37, tabObj #[]), (44, tabObj #[])])
    (hd1 : o1.data = .cell (some (.ref sl)))
    (hl : base.IsList sl vs.toArray) (hi : IntsAre vs ns) (hn : ns.length ≤ 63)
    (next : ∀ h' tk D c0 c1 c2 c3 c4 c5 c6 c7 c8 c9 t0 t1 t2 t3 t4 t5 t6 t7 t8 t9 tl tc m',
      m' (Str.ofString "line") = some (.int (Int.fmod c8 2000 - 1000) tl) → m' (Str.ofString "col") = some (.int (Int.fmod c9 1000) tc) → m' (Str.ofString "cells") = some (.ref D) → Fr base L h' m' →
      News base L h' [(D, lst [Value.int c0 t0, .int c1 t1, .int c2 t2, .int c3 t3, .int c4 t4, .int c5 t5, .int c6 t6, .int c7 t7, .int c8 t8, .int c9 t9]), (L + 1 + 1 + 1 + 1, o4), (L + 1 + 1 + 1, o3), (L + 1 + 1, o2), (L + 1, o1), (37, tabObj #[]), (44, tabObj #[])] →
      wpAny (model PR w) (callerA.deeper (lawEnv L f cd)) (execs (lawDef.1.drop 2) (lawEnv L f cd)) Q E { s with heap := h', toks := tk }) :
    wpAny (model PR w) (callerA.deeper (lawEnv L f cd)) (execs lawDef.1 (lawEnv L f cd)) Q E s := by
  obtain ⟨mg', mb', TT⟩ := G.T
  have X := G.K
  unfold lawEnv
  conv in lawDef.1 => whnf
  conv in (occs := *) lawDef.2 => all_goals whnf
  w_on
  have : (fun P : Params => hd.heap_39 P) = hd.heap_39 ∧ PySem.Challenge.rw_pg0028_01 = PySem.Challenge.rw_pg0028_01 := by k_fill; exact ⟨rfl, rfl⟩
  clear this
  walk1
  (repeat' (first | ((fail_if_success (with_reducible show wpAny _ _ (execs (_ :: _) _) _ _ _)); (fail_if_success (with_reducible show wpAny _ _ (exec (Stmt.For _ _ _ _ _) _) _ _ _)); (fail_if_success (with_reducible show wpAny _ _ (exec (Stmt.While _ _ _ _) _) _ _ _)); (fail_if_success (with_reducible show wpAny _ _ (exec (Stmt.Assign _ (Expr.ListComp _ _ _ _) _) _) _ _ _)); (fail_if_success (with_reducible show wpAny _ _ (pyIter _) _ _ _)); (fail_if_success (with_reducible show wpAny _ _ (eval (Expr.ListComp _ _ _ _) _) _ _ _)); (fail_if_success (with_reducible show wpAny _ _ (subscriptTail _ _ _ _) _ _ _)); (fail_if_success (with_reducible show wpAny _ _ (newList _) _ _ _)); (fail_if_success (with_reducible show wpAny _ _ (call (Value.ref _) _) _ _ _)); (fail_if_success (with_reducible show wpAny _ _ (call (Value.builtin _) _) _ _ _)); (fail_if_success (with_reducible show wpAny _ _ (compareOp _ (Value.ref _) (Value.ref _)) _ _ _)); (first | walk1 | (dsimp only; walk1)))))
  refine Assign_ListComp_E (h₀ := base) (L := L) (m := m) rfl (by with_unfolding_all rfl) (by rfl) (by decide) (by rfl) (by decide) (by rfl) (by rfl) (by decide) (by rfl) (by rfl) ?_
  (repeat' (first | ((fail_if_success (with_reducible show wpAny _ _ (execs (_ :: _) _) _ _ _)); (fail_if_success (with_reducible show wpAny _ _ (exec (Stmt.For _ _ _ _ _) _) _ _ _)); (fail_if_success (with_reducible show wpAny _ _ (exec (Stmt.While _ _ _ _) _) _ _ _)); (fail_if_success (with_reducible show wpAny _ _ (exec (Stmt.Assign _ (Expr.ListComp _ _ _ _) _) _) _ _ _)); (fail_if_success (with_reducible show wpAny _ _ (pyIter _) _ _ _)); (fail_if_success (with_reducible show wpAny _ _ (eval (Expr.ListComp _ _ _ _) _) _ _ _)); (fail_if_success (with_reducible show wpAny _ _ (subscriptTail _ _ _ _) _ _ _)); (fail_if_success (with_reducible show wpAny _ _ (newList _) _ _ _)); (fail_if_success (with_reducible show wpAny _ _ (call (Value.ref _) _) _ _ _)); (fail_if_success (with_reducible show wpAny _ _ (call (Value.builtin _) _) _ _ _)); (fail_if_success (with_reducible show wpAny _ _ (compareOp _ (Value.ref _) (Value.ref _)) _ _ _)); (first | walk1 | (dsimp only; walk1)))))
  walk1
  (repeat' (first | ((fail_if_success (with_reducible show wpAny _ _ (execs (_ :: _) _) _ _ _)); (fail_if_success (with_reducible show wpAny _ _ (exec (Stmt.For _ _ _ _ _) _) _ _ _)); (fail_if_success (with_reducible show wpAny _ _ (exec (Stmt.While _ _ _ _) _) _ _ _)); (fail_if_success (with_reducible show wpAny _ _ (exec (Stmt.Assign _ (Expr.ListComp _ _ _ _) _) _) _ _ _)); (fail_if_success (with_reducible show wpAny _ _ (pyIter _) _ _ _)); (fail_if_success (with_reducible show wpAny _ _ (eval (Expr.ListComp _ _ _ _) _) _ _ _)); (fail_if_success (with_reducible show wpAny _ _ (subscriptTail _ _ _ _) _ _ _)); (fail_if_success (with_reducible show wpAny _ _ (newList _) _ _ _)); (fail_if_success (with_reducible show wpAny _ _ (call (Value.ref _) _) _ _ _)); (fail_if_success (with_reducible show wpAny _ _ (call (Value.builtin _) _) _ _ _)); (fail_if_success (with_reducible show wpAny _ _ (compareOp _ (Value.ref _) (Value.ref _)) _ _ _)); (first | walk1 | (dsimp only; walk1)))))
  have F1 := (by assumption : Fr base L _ _)
  have N1 := (by assumption : News base L _ _)

  refine enum_call (by rfl) F1 N1 (.head _) rfl (by simp; decide) (fun i ys => ∃ cs, IntsAre ys cs ∧ cs.length = i) ⟨[], .nil, rfl⟩ ?_ ?_
  · rintro i x ys t I oI K oK C oC D m₂ s₂ h tk E' ⟨h0, rfl⟩ hx ⟨cs, hy, hcl⟩ hC ha hb F2 N2
    clear F1 N1
    have z := int_of (by rfl) hx
    clear hx
    cases z with
    | intro n z =>
    cases z with
    | intro tx hz =>
    rw [hz] at hb
    dsimp only
    (repeat' (first | ((fail_if_success (with_reducible show wpAny _ _ (eval (Expr.Name _ _) _) _ _ _)); (fail_if_success (with_reducible show wpAny _ _ (compareOp _ _ _) _ _ _)); (fail_if_success (with_reducible show wpAny _ _ (call (Value.ref _) _) _ _ _)); (first | walk1 | (dsimp only; walk1)))))
    refine LCgL.ld_own N2 (.tail _ (.tail _ (.head _))) hC hb ?_
    (repeat' (first | ((fail_if_success (with_reducible show wpAny _ _ (eval (Expr.Name _ _) _) _ _ _)); (fail_if_success (with_reducible show wpAny _ _ (compareOp _ _ _) _ _ _)); (fail_if_success (with_reducible show wpAny _ _ (call (Value.ref _) _) _ _ _)); (first | walk1 | (dsimp only; walk1)))))
    refine LCgL.ld_built F2 X TB (by k_is) PyProof.Rows.Boot.«sum» (by decide) ?_
    (repeat' (first | ((fail_if_success (with_reducible show wpAny _ _ (eval (Expr.Name _ _) _) _ _ _)); (fail_if_success (with_reducible show wpAny _ _ (compareOp _ _ _) _ _ _)); (fail_if_success (with_reducible show wpAny _ _ (call (Value.ref _) _) _ _ _)); (first | walk1 | (dsimp only; walk1)))))
    refine lcf_cell N2 rfl (.tail _ (.tail _ (.tail _ (.tail _ (.tail _ (.tail _ (.tail _ (.tail _ (.head _))))))))) hd1 ?_ rfl rfl
    (repeat' (first | ((fail_if_success (with_reducible show wpAny _ _ (eval (Expr.Name _ _) _) _ _ _)); (fail_if_success (with_reducible show wpAny _ _ (compareOp _ _ _) _ _ _)); (fail_if_success (with_reducible show wpAny _ _ (call (Value.ref _) _) _ _ _)); (first | walk1 | (dsimp only; walk1)))))
    refine LCgL.ld_own N2 (.tail _ (.tail _ (.head _))) hC ha ?_
    (repeat' (first | ((fail_if_success (with_reducible show wpAny _ _ (eval (Expr.Name _ _) _) _ _ _)); (fail_if_success (with_reducible show wpAny _ _ (compareOp _ _ _) _ _ _)); (fail_if_success (with_reducible show wpAny _ _ (call (Value.ref _) _) _ _ _)); (first | walk1 | (dsimp only; walk1)))))
    have F3 := (by assumption : Fr base L _ _)
    have N3 := (by assumption : News base L _ _)
    obtain ⟨ms, hms⟩ := ints_sub hi (pick_sub (items := vs.toArray) (lo := some (i : Int)) (hi := none) (st := some 10))
    refine sum_ints (by rfl) ⟨_, N3.get (.head _), rfl, _, rfl⟩ hms ?_
    intro h4 tk4 t4 k4
    have F4 := Fr.into F3 k4
    have N4 := News.into N3 k4
    dsimp only
    (repeat' (first | ((fail_if_success (with_reducible show wpAny _ _ (eval (Expr.Name _ _) _) _ _ _)); (fail_if_success (with_reducible show wpAny _ _ (compareOp _ _ _) _ _ _)); (fail_if_success (with_reducible show wpAny _ _ (call (Value.ref _) _) _ _ _)); (first | walk1 | (dsimp only; walk1)))))
    refine EEnd.intro F4 N4 (fun p hp => .tail _ hp) ?_
    refine ⟨cs ++ [_], ints_snoc hy, ?_⟩
    rw [List.length_append, hcl]
    rfl
  · rintro s₂ ys ⟨h0, rfl⟩ ⟨cs, hy, hcl⟩
    intro D h6 tk6 F6 N6 _
    have e10 := ints_ten hy hcl
    clear hy hcl
    cases e10 with | mk c0 c1 c2 c3 c4 c5 c6 c7 c8 c9 t0 t1 t2 t3 t4 t5 t6 t7 t8 t9 =>
    clear F1 N1
    have N7 := News.drop (news := [(D, lst [Value.int c0 t0, .int c1 t1, .int c2 t2, .int c3 t3, .int c4 t4, .int c5 t5, .int c6 t6, .int c7 t7, .int c8 t8, .int c9 t9]), (L + 1 + 1 + 1 + 1, o4), (L + 1 + 1 + 1, o3), (L + 1 + 1, o2), (L + 1, o1), (37, tabObj #[]), (44, tabObj #[])]) N6 (fun p hp => by
      rcases List.mem_cons.mp hp with rfl | hp
      · exact .head _
      · exact .tail _ (.tail _ hp))
    clear N6
    walk1
    (repeat' (first | ((fail_if_success (with_reducible show wpAny _ _ (execs (_ :: _) _) _ _ _)); (fail_if_success (with_reducible show wpAny _ _ (exec (Stmt.For _ _ _ _ _) _) _ _ _)); (fail_if_success (with_reducible show wpAny _ _ (exec (Stmt.While _ _ _ _) _) _ _ _)); (fail_if_success (with_reducible show wpAny _ _ (exec (Stmt.Assign _ (Expr.ListComp _ _ _ _) _) _) _ _ _)); (fail_if_success (with_reducible show wpAny _ _ (pyIter _) _ _ _)); (fail_if_success (with_reducible show wpAny _ _ (eval (Expr.ListComp _ _ _ _) _) _ _ _)); (fail_if_success (with_reducible show wpAny _ _ (subscriptTail _ _ _ _) _ _ _)); (fail_if_success (with_reducible show wpAny _ _ (newList _) _ _ _)); (fail_if_success (with_reducible show wpAny _ _ (call (Value.ref _) _) _ _ _)); (fail_if_success (with_reducible show wpAny _ _ (call (Value.builtin _) _) _ _ _)); (fail_if_success (with_reducible show wpAny _ _ (compareOp _ (Value.ref _) (Value.ref _)) _ _ _)); (first | walk1 | (dsimp only; walk1)))))
    walk1
    (repeat' (first | ((fail_if_success (with_reducible show wpAny _ _ (execs (_ :: _) _) _ _ _)); (fail_if_success (with_reducible show wpAny _ _ (exec (Stmt.For _ _ _ _ _) _) _ _ _)); (fail_if_success (with_reducible show wpAny _ _ (exec (Stmt.While _ _ _ _) _) _ _ _)); (fail_if_success (with_reducible show wpAny _ _ (exec (Stmt.Assign _ (Expr.ListComp _ _ _ _) _) _) _ _ _)); (fail_if_success (with_reducible show wpAny _ _ (pyIter _) _ _ _)); (fail_if_success (with_reducible show wpAny _ _ (eval (Expr.ListComp _ _ _ _) _) _ _ _)); (fail_if_success (with_reducible show wpAny _ _ (subscriptTail _ _ _ _) _ _ _)); (fail_if_success (with_reducible show wpAny _ _ (newList _) _ _ _)); (fail_if_success (with_reducible show wpAny _ _ (call (Value.ref _) _) _ _ _)); (fail_if_success (with_reducible show wpAny _ _ (call (Value.builtin _) _) _ _ _)); (fail_if_success (with_reducible show wpAny _ _ (compareOp _ (Value.ref _) (Value.ref _)) _ _ _)); (first | walk1 | (dsimp only; walk1)))))
    walk1
    (repeat' (first | ((fail_if_success (with_reducible show wpAny _ _ (execs (_ :: _) _) _ _ _)); (fail_if_success (with_reducible show wpAny _ _ (exec (Stmt.For _ _ _ _ _) _) _ _ _)); (fail_if_success (with_reducible show wpAny _ _ (exec (Stmt.While _ _ _ _) _) _ _ _)); (fail_if_success (with_reducible show wpAny _ _ (exec (Stmt.Assign _ (Expr.ListComp _ _ _ _) _) _) _ _ _)); (fail_if_success (with_reducible show wpAny _ _ (pyIter _) _ _ _)); (fail_if_success (with_reducible show wpAny _ _ (eval (Expr.ListComp _ _ _ _) _) _ _ _)); (fail_if_success (with_reducible show wpAny _ _ (subscriptTail _ _ _ _) _ _ _)); (fail_if_success (with_reducible show wpAny _ _ (newList _) _ _ _)); (fail_if_success (with_reducible show wpAny _ _ (call (Value.ref _) _) _ _ _)); (fail_if_success (with_reducible show wpAny _ _ (call (Value.builtin _) _) _ _ _)); (fail_if_success (with_reducible show wpAny _ _ (compareOp _ (Value.ref _) (Value.ref _)) _ _ _)); (first | walk1 | (dsimp only; walk1)))))
    have F8 := (by assumption : Fr base L _ _)
    have N8 := (by assumption : News base L _ _)
    refine' next _ _ _ _ _ _ _ _ _ _ _ _ _ _ _ _ _ _ _ _ _ _ _ _ _ _ ?e1 ?e2 ?e3 F8 (News.drop N8 (fun p hp => .tail _ hp))
    case e1 => rfl
    case e2 => rfl
    case e3 => rfl
end Mine
end

section  -- L2
open PySem PySem.W PySem.Calls PyProof.Rows
set_option maxRecDepth 100000
set_option maxHeartbeats 1000000
namespace Mine
open LCg
theorem News.fresh {h₀ h h' : Heap} {L l : Addr} {m : Str → Option Value} {o : Obj} {news : List (Addr × Obj)} (F : Fr h₀ L h m) (N : News h₀ L h' news) (e : h.get? l = none) (e' : h'.get? l = some o) : News h₀ L h' ((l, o) :: news) := fun p hp => by
  rcases List.mem_cons.mp hp with rfl | hp
  · refine ⟨e', ?_, ?_⟩
    · rintro rfl
      obtain ⟨ob, _, _, x, _⟩ := F.ns
      have e2 : h.get? l = none := e
      rw [x] at e2; cases e2
    · cases q : h₀.get? l with
      | none => rfl
      | some ob => have := F.keep _ _ q; rw [e] at this; cases this
  · exact N p hp
theorem decN_len : ∀ n : Nat, (decN n).length ≤ n + 1 := by
  intro n
  induction n using Nat.strongRecOn with
  | ind n ih =>
    by_cases h : n ≤ 9
    · rw [decN_small h]; simp
    · rw [decN_big h, List.length_append]
      have := ih (n / 10) (by omega)
      simp; omega
theorem abs_nat (n : Int) : (if n < 0 then -n else n).toNat = n.natAbs := by split <;> omega
/-- the row of figures -/
noncomputable def rowOf (c0 c1 c2 c3 c4 c5 c6 c7 line col : Int) : List Int :=
  ([c0, c1, c2, c3, c4, c5, c6, c7].map fun k => k.fmod 16) ++ [if 0 ≤ line then 10 else 11] ++ decN line.natAbs ++ [12] ++ decN col.natAbs
/-- what the row's sign gives -/
inductive IfGot (line : Int) (s : Shared) : Value → Shared → Prop
  | mk (t : Tok) (tk : Nat) : IfGot line s (.int (if 0 ≤ line then 10 else 11) t) { s with toks := tk }
theorem IfGot.of {line k : Int} {s : Shared} {t : Tok} {tk : Nat} (e : (if 0 ≤ line then (10 : Int) else 11) = k) : IfGot line s (.int k t) { s with toks := tk } := by
  subst e; exact .mk t tk
theorem le_line {n : Nat} (h : n ≤ 3000) : n ≤ sizeLine := by rw [sizeLine_eq]; exact Nat.le_trans h (by decide)
theorem law_2 {w : World} {base : Heap} {L f : Addr} {cd : Value} {s : Shared} {m : Str → Option Value} {D : Addr} {o1 o2 o3 o4 : Obj} {Q : Flow → Shared → Prop} {E : Value → Shared → Prop} {c0 c1 c2 c3 c4 c5 c6 c7 c8 c9 line col : Int} {t0 t1 t2 t3 t4 t5 t6 t7 t8 t9 tl tc : Tok}
    {pr : Program} {loose : List Str} {mean : ExcName → Option Value} {mg mb : Str → Option Value}
    (G : GI w base) (TB : Top pr loose mean mg mb base) (hline : -1000 ≤ line ∧ line < 1000) (hcol : 0 ≤ col ∧ col < 1000)
    (e1 : m (Str.ofString "line") = some (.int line tl)) (e2 : m (Str.ofString "col") = some (.int col tc)) (e3 : m (Str.ofString "cells") = some (.ref D)) (F : Fr base L s.heap m)
    (N : News base L s.heap [(D, lst [Value.int c0 t0, .int c1 t1, .int c2 t2, .int c3 t3, .int c4 t4, .int c5 t5, .int c6 t6, .int c7 t7, .int c8 t8, .int c9 t9]), (L + 1 + 1 + 1 + 1, o4), (L + 1 + 1 + 1, o3), (L + 1 + 1, o2), (L + 1, o1), (37, tabObj #[]), (44, tabObj #[])])
    (next : ∀ h' tk R vs m', IntsAre vs (rowOf c0 c1 c2 c3 c4 c5 c6 c7 line col) → m' (Str.ofString "line") = some (.int line tl) → m' (Str.ofString "col") = some (.int col tc) → m' (Str.ofString "row") = some (.ref R) → Fr base L h' m' →
      News base L h' [(R, W.listOf vs.toArray 0), (L + 1 + 1 + 1 + 1, o4), (L + 1 + 1 + 1, o3), (L + 1 + 1, o2), (L + 1, o1), (37, tabObj #[]), (44, tabObj #[])] →
      wpAny (model PR w) (callerA.deeper (lawEnv L f cd)) (execs (lawDef.1.drop 3) (lawEnv L f cd)) Q E { s with heap := h', toks := tk }) :
    wpAny (model PR w) (callerA.deeper (lawEnv L f cd)) (execs (lawDef.1.drop 2) (lawEnv L f cd)) Q E s := by
  obtain ⟨mg', mb', TT⟩ := G.T
  have X := G.K
  replace F := Fr.setL F [(Str.ofString "line", .int line tl), (Str.ofString "col", .int col tc), (Str.ofString "cells", .ref D)] (fcC e1 (fcC e2 (fcC e3 fcN)))
  clear e1 e2 e3
  unfold lawEnv
  conv in lawDef.1.drop 2 => whnf
  conv in (occs := *) lawDef.2 => all_goals whnf
  w_on
  have : (fun P : Params => hd.heap_39 P) = hd.heap_39 ∧ PySem.Challenge.rw_pg0028_01 = PySem.Challenge.rw_pg0028_01 := by k_fill; exact ⟨rfl, rfl⟩
  clear this
  walk1
  (repeat' (first | ((fail_if_success (with_reducible show wpAny _ _ (execs (_ :: _) _) _ _ _)); (fail_if_success (with_reducible show wpAny _ _ (eval (Expr.IfExp _ _ _ _) _) _ _ _)); (fail_if_success (with_reducible show wpAny _ _ (call (Value.ref _) _) _ _ _)); (fail_if_success (with_reducible show wpAny _ _ (binaryOp _ (Value.ref _) (Value.ref _)) _ _ _)); (first | walk1 | (dsimp only; walk1)))))
  rename_i hX tkX FX NX oX
  refine wpAny_mono (Q := IfGot line { s with heap := hX }) ?_ ?_ (fun _ _ h => h)
  · repeat' (first | walk1 | (dsimp only; walk1))
    · exact .of (if_pos (by assumption))
    · exact .of (if_neg (by omega))
  rintro _ _ ⟨ti, tki⟩
  dsimp only
  (repeat' (first | ((fail_if_success (with_reducible show wpAny _ _ (execs (_ :: _) _) _ _ _)); (fail_if_success (with_reducible show wpAny _ _ (eval (Expr.IfExp _ _ _ _) _) _ _ _)); (fail_if_success (with_reducible show wpAny _ _ (call (Value.ref _) _) _ _ _)); (fail_if_success (with_reducible show wpAny _ _ (binaryOp _ (Value.ref _) (Value.ref _)) _ _ _)); (first | walk1 | (dsimp only; walk1)))))
  have F2 := (by assumption : Fr base L _ _)
  have N2 := (by assumption : News base L _ _)
  refine kmk_add_ints F2 N2 ⟨_, N2.get (.tail _ (.head _)), rfl, _, rfl⟩ ⟨_, N2.get (.head _), rfl, _, rfl⟩ (by assumption) (.cons _ _ .nil) (fun D1 us1 h1 F3 N3 _ i1 => ?_) (by simp; decide)
  replace N3 := News.drop (news := [(D1, W.listOf us1.toArray 0), (L + 1 + 1 + 1 + 1, o4), (L + 1 + 1 + 1, o3), (L + 1 + 1, o2), (L + 1, o1), (37, tabObj #[]), (44, tabObj #[])]) N3 (fun p hp => by
    rcases List.mem_cons.mp hp with rfl | hp
    · exact .head _
    · exact .tail _ (.tail _ (.tail _ (.tail _ (.tail _ hp)))))
  clear F2 N2
  dsimp only
  (repeat' (first | ((fail_if_success (with_reducible show wpAny _ _ (execs (_ :: _) _) _ _ _)); (fail_if_success (with_reducible show wpAny _ _ (eval (Expr.IfExp _ _ _ _) _) _ _ _)); (fail_if_success (with_reducible show wpAny _ _ (call (Value.ref _) _) _ _ _)); (fail_if_success (with_reducible show wpAny _ _ (binaryOp _ (Value.ref _) (Value.ref _)) _ _ _)); (first | walk1 | (dsimp only; walk1)))))
  refine useB (dec_c (G.keeps F3.keep) (by decide) (by split <;> omega) (by split <;> omega)) F3 N3 ?_
  rintro v h9 tk9 k9 F9 N9 ⟨l9, vs9, rfl, hl0, hl9, hi9⟩
  have N9' := News.fresh F3 N9 hl0 hl9
  rw [abs_nat] at hi9
  have hd9 : (decN line.natAbs).length ≤ 1001 := Nat.le_trans (decN_len _) (by omega)
  have hd8 : (decN col.natAbs).length ≤ 1001 := Nat.le_trans (decN_len _) (by omega)
  refine kmk_add_ints F9 N9' ⟨_, N9'.get (.tail _ (.head _)), rfl, _, rfl⟩ ⟨_, N9'.get (.head _), rfl, _, rfl⟩ i1 hi9 (fun D2 us2 h2 F4 N4 _ i2 => ?_) (le_line (by simp only [List.length_append, List.length_map, List.length_cons, List.length_nil]; omega))
  (try clear F9); (try clear N9); (try clear F3); (try clear N3)
  replace N4 := News.drop (news := [(D2, W.listOf us2.toArray 0), (L + 1 + 1 + 1 + 1, o4), (L + 1 + 1 + 1, o3), (L + 1 + 1, o2), (L + 1, o1), (37, tabObj #[]), (44, tabObj #[])]) N4 (fun p hp => by
    rcases List.mem_cons.mp hp with rfl | hp
    · exact .head _
    · exact .tail _ (.tail _ (.tail _ hp)))
  dsimp only
  (repeat' (first | ((fail_if_success (with_reducible show wpAny _ _ (execs (_ :: _) _) _ _ _)); (fail_if_success (with_reducible show wpAny _ _ (eval (Expr.IfExp _ _ _ _) _) _ _ _)); (fail_if_success (with_reducible show wpAny _ _ (call (Value.ref _) _) _ _ _)); (fail_if_success (with_reducible show wpAny _ _ (binaryOp _ (Value.ref _) (Value.ref _)) _ _ _)); (first | walk1 | (dsimp only; walk1)))))
  have F5 := (by assumption : Fr base L _ _)
  have N5 := (by assumption : News base L _ _)
  refine kmk_add_ints F5 N5 ⟨_, N5.get (.tail _ (.head _)), rfl, _, rfl⟩ ⟨_, N5.get (.head _), rfl, _, rfl⟩ i2 (.cons 12 _ .nil) (fun D3 us3 h3 F6 N6 _ i3 => ?_) (le_line (by simp only [List.length_append, List.length_map, List.length_cons, List.length_nil]; omega))
  (try clear F4); (try clear N4); (try clear F5); (try clear N5)
  dsimp only
  (repeat' (first | ((fail_if_success (with_reducible show wpAny _ _ (execs (_ :: _) _) _ _ _)); (fail_if_success (with_reducible show wpAny _ _ (eval (Expr.IfExp _ _ _ _) _) _ _ _)); (fail_if_success (with_reducible show wpAny _ _ (call (Value.ref _) _) _ _ _)); (fail_if_success (with_reducible show wpAny _ _ (binaryOp _ (Value.ref _) (Value.ref _)) _ _ _)); (first | walk1 | (dsimp only; walk1)))))
  refine useB (dec_c (G.keeps F6.keep) (by decide) (by omega) (by omega)) F6 N6 ?_
  rintro v h10 tk10 k10 F7 N7 ⟨l10, vs10, rfl, hl0', hl10, hi10⟩
  have N8 := News.fresh F6 N7 hl0' hl10
  have ec : col.toNat = col.natAbs := by omega
  rw [ec] at hi10
  refine kmk_add_ints F7 N8 ⟨_, N8.get (.tail _ (.head _)), rfl, _, rfl⟩ ⟨_, N8.get (.head _), rfl, _, rfl⟩ i3 hi10 (fun D4 us4 h4 F8 N9 _ i4 => ?_) (le_line (by simp only [List.length_append, List.length_map, List.length_cons, List.length_nil]; omega))
  (try clear F6); (try clear N6); (try clear F7); (try clear N7)
  dsimp only
  (repeat' (first | ((fail_if_success (with_reducible show wpAny _ _ (execs (_ :: _) _) _ _ _)); (fail_if_success (with_reducible show wpAny _ _ (eval (Expr.IfExp _ _ _ _) _) _ _ _)); (fail_if_success (with_reducible show wpAny _ _ (call (Value.ref _) _) _ _ _)); (fail_if_success (with_reducible show wpAny _ _ (binaryOp _ (Value.ref _) (Value.ref _)) _ _ _)); (first | walk1 | (dsimp only; walk1)))))
  have F10 := (by assumption : Fr base L _ _)
  have N10 := (by assumption : News base L _ _)
  refine' next _ _ D4 us4 _ ?e0 ?e1 ?e2 ?e3 F10 (News.drop N10 (fun p hp => ?e4))
  case e1 => rfl
  case e2 => rfl
  case e3 => rfl
  case e0 =>
    exact i4
  case e4 =>
    rcases List.mem_cons.mp hp with rfl | hp
    · exact .head _
    · exact .tail _ (.tail _ (.tail _ (.tail _ (.tail _ hp))))
end Mine
end

section  -- P3
open PySem PySem.W PySem.Calls PyProof.Rows PySem.NumText
set_option maxRecDepth 100000
set_option maxHeartbeats 1000000
namespace Mine
/-- the number that figures to the base 16 write -/
noncomputable def numOf (row : List Int) : Int := row.foldl (fun a k => 16 * a + k) 0
noncomputable def hexVal (l : List Nat) : Nat := l.foldl (fun a d => 16 * a + d) 0
theorem numOf_snoc (l : List Int) (k : Int) : numOf (l ++ [k]) = 16 * numOf l + k := by simp [numOf]
theorem hexVal_snoc (l : List Nat) (k : Nat) : hexVal (l ++ [k]) = 16 * hexVal l + k := by simp [hexVal]
theorem snoc_ind {α : Type} {P : List α → Prop} (h0 : P []) (h1 : ∀ l a, P l → P (l ++ [a])) : ∀ l, P l := by
  intro l
  have : ∀ n (l : List α), l.length = n → P l := by
    intro n
    induction n with
    | zero => intro l hl; rw [List.eq_nil_of_length_eq_zero hl]; exact h0
    | succ n ih =>
      intro l hl
      rcases List.eq_nil_or_concat l with rfl | ⟨r, x, rfl⟩
      · exact h0
      · rw [List.concat_eq_append] at hl ⊢
        exact h1 r x (ih r (by simpa using hl))
  exact this _ l rfl
theorem numOf_zs (l : List Nat) : numOf (zs l) = ((hexVal l : Nat) : Int) := by
  induction l using snoc_ind with
  | h0 => rfl
  | h1 l a ih =>
    have : zs (l ++ [a]) = zs l ++ [(a : Int)] := by simp [zs]
    rw [this, numOf_snoc, hexVal_snoc, ih]
    push_cast
    rfl
theorem hexN_val : ∀ l : List Nat, (∀ d ∈ l, d < 16) → hexN (hexVal l) = l.dropWhile (· == 0) := by
  intro l
  induction l using snoc_ind with
  | h0 => intro _; exact hexN_zero
  | h1 l a ih =>
    intro h
    have ih := ih fun d hd => h d (by simp [hd])
    have ha := h a (by simp)
    rw [hexVal_snoc, List.dropWhile_append]
    by_cases e : (l.dropWhile (· == 0)).isEmpty = true
    · rw [if_pos e]
      rw [List.isEmpty_iff.mp e] at ih
      have hv : hexVal l = 0 := by
        apply Decidable.byContradiction
        intro q
        rw [hexN_pos q] at ih
        simp at ih
      rw [hv]
      by_cases q : a = 0
      · subst q; simp [hexN_zero]
      · rw [hexN_pos (by omega)]
        have e1 : (16 * 0 + a) / 16 = 0 := by omega
        have e2 : (16 * 0 + a) % 16 = a := by omega
        rw [e1, e2, hexN_zero]
        simp [q]
    · rw [if_neg e, ← ih]
      have hv : hexVal l ≠ 0 := by
        intro q
        rw [q, hexN_zero] at ih
        rw [← ih] at e
        exact e rfl
      rw [hexN_pos (by omega)]
      have e1 : (16 * hexVal l + a) / 16 = hexVal l := by omega
      have e2 : (16 * hexVal l + a) % 16 = a := by omega
      rw [e1, e2]
theorem hexN_below : ∀ n : Nat, n < 16 ^ (hexN n).length := by
  intro n
  induction n using Nat.strongRecOn with
  | ind n ih =>
    by_cases h0 : n = 0
    · subst h0; rw [hexN_zero]; decide
    · have := ih (n / 16) (by omega)
      rw [hexN_pos h0, List.length_append, List.length_singleton, Nat.pow_succ]
      omega
theorem pow_hex {N k : Nat} : 16 ^ k ≤ N ↔ k < (hexN N).length := by
  constructor
  · intro h
    refine Nat.lt_of_not_le fun q => ?_
    have h1 := hexN_below N
    have h2 : 16 ^ (hexN N).length ≤ 16 ^ k := Nat.pow_le_pow_right (by decide) q
    omega
  · intro h
    refine Nat.le_of_not_lt fun q => ?_
    have := hexN_length k N q
    omega
theorem hexN_at {N k : Nat} (h : k < (hexN N).length) : (hexN N)[k]? = some (N / 16 ^ ((hexN N).length - 1 - k) % 16) := by
  have e := hexN_div ((hexN N).length - 1 - k) N (by omega)
  have e1 : (hexN N).length - ((hexN N).length - 1 - k) = k + 1 := by omega
  rw [e1] at e
  have h0 : N / 16 ^ ((hexN N).length - 1 - k) ≠ 0 := by
    intro q
    rw [q, hexN_zero] at e
    have := congrArg List.length e
    simp at this
    omega
  rw [hexN_pos h0, List.take_add_one] at e
  have hk : (hexN N)[k]? = some (hexN N)[k] := List.getElem?_eq_getElem h
  rw [hk] at e
  have e2 := congrArg List.getLast? e
  rw [Option.toList_some, List.getLast?_concat, List.getLast?_concat] at e2
  rw [hk, e2]
theorem hexN_range (N : Nat) : (List.range (hexN N).length).map (fun k => N / 16 ^ ((hexN N).length - 1 - k) % 16) = hexN N := by
  apply List.ext_getElem?
  intro i
  by_cases h : i < (hexN N).length
  · rw [hexN_at h]
    simp [h]
  · have e1 : (hexN N)[i]? = none := by simp; omega
    rw [e1]; simp; omega

/-! the figures to the base 10 -/
theorem decN_zs : ∀ n : Nat, ∃ l : List Nat, decN n = zs l ∧ (∀ d ∈ l, d < 10) ∧ l ≠ [] ∧ l.foldl (fun a d => 10 * a + d) 0 = n := by
  intro n
  induction n using Nat.strongRecOn with
  | ind n ih =>
    by_cases h : n ≤ 9
    · exact ⟨[n], by rw [decN_small h]; rfl, by simp; omega, by simp, by simp⟩
    · obtain ⟨l, h1, h2, h3, h4⟩ := ih (n / 10) (by omega)
      refine ⟨l ++ [n % 10], by rw [decN_big h, h1]; simp [zs], fun d hd => ?_, by simp, ?_⟩
      · rcases List.mem_append.mp hd with hd | hd
        · exact h2 d hd
        · have := List.mem_singleton.mp hd; omega
      · rw [List.foldl_append, h4]; simp; omega
theorem decN_len4 {n : Nat} (h : n ≤ 9999) : (decN n).length ≤ 4 := by
  by_cases h1 : n ≤ 9
  · rw [decN_small h1]; simp
  · rw [decN_big h1]
    by_cases h2 : n / 10 ≤ 9
    · rw [decN_small h2]; simp
    · rw [decN_big h2]
      by_cases h3 : n / 10 / 10 ≤ 9
      · rw [decN_small h3]; simp
      · rw [decN_big h3, decN_small (by omega)]; simp
theorem numGo_figs : ∀ (l : List Nat) (p : Int) (v : Nat), (∀ d ∈ l, d < 10) → numGo (zs l) p v = some ((l.foldl (fun a d => 10 * a + d) v : Nat) : Int)
  | [], _, _, _ => rfl
  | d :: r, p, v, h => by
    have hd := h d (.head _)
    show numGo ((d : Int) :: zs r) p v = _
    rw [numGo, if_pos (by omega), show (10 : Int) * (v : Int) + (d : Int) = ((10 * v + d : Nat) : Int) by push_cast; rfl, numGo_figs r d (10 * v + d) fun x hx => h x (.tail _ hx)]
    rfl
theorem rs14_free : ∀ l : List Int, (∀ x ∈ l, x ≠ 14) → rs14 l = l
  | [], _ => rfl
  | a :: l, h => by
    rw [rs14_cons, if_neg (fun q => h a (.head _) q.2), rs14_free l fun x hx => h x (.tail _ hx)]
theorem ls14_free : ∀ l : List Int, (∀ x ∈ l, x ≠ 14) → ls14 l = l
  | [], _ => rfl
  | a :: l, h => by rw [ls14_cons, if_neg (h a (.head _))]
theorem numBody_figs {l : List Nat} (h : ∀ d ∈ l, d < 10) (hne : l ≠ []) : numBody (zs l) = some ((l.foldl (fun a d => 10 * a + d) 0 : Nat) : Int) := by
  have at_lt : ∀ i : Nat, l.getD i 0 < 10 := fun i => by
    by_cases q : i < l.length
    · have : l.getD i 0 = l[i] := by simp [q]
      rw [this]; exact h _ (List.getElem_mem q)
    · have : l.getD i 0 = 0 := by simp [List.getD, q]
      rw [this]; decide
  unfold numBody
  rw [ints_getD, ints_getD, if_neg]
  · exact numGo_figs l 0 0 h
  · have h1 := at_lt 0
    have h2 := at_lt ((zs l).length - 1)
    rintro (q | q | q)
    · exact hne (by simpa [zs] using q)
    · omega
    · omega
theorem numSpec_figs {l : List Nat} {b : Bool} (h : ∀ d ∈ l, d < 10) (hne : l ≠ []) : numSpec (zs l) b = some ((l.foldl (fun a d => 10 * a + d) 0 : Nat) : Int) := by
  have hf : ∀ x ∈ zs l, x ≠ 14 := fun x hx => by
    obtain ⟨d, hd, rfl⟩ := List.mem_map.mp hx
    have := h d hd
    omega
  unfold numSpec
  rw [rs14_free _ hf, ls14_free _ hf]
  split <;> exact numBody_figs h hne
theorem dueOf_run {d : Nat} {ra lb : List Nat} (hd : isEnd d) (h1 : 12 ∉ ra) (h2 : 12 ∉ lb) : dueOf (zs (d :: (ra ++ 12 :: lb))) =
    match numSpec (zs ra) false, numSpec (zs lb) true with | some a, some b => some (if (d : Int) = 10 then a else -a, b) | _, _ => none := by
  unfold dueOf
  have hd12 : d ≠ 12 := by unfold isEnd at hd; omega
  have hla : 12 ∉ d :: ra := fun q => by
    rcases List.mem_cons.mp q with q | q
    · exact hd12 q.symm
    · exact h1 q
  have hcount : (zs (d :: (ra ++ 12 :: lb))).count 12 = 1 := by
    rw [zs_count, List.count_cons_of_ne hd12, List.count_append, List.count_eq_zero.mpr h1, List.count_cons_self, List.count_eq_zero.mpr h2]
  rw [if_pos ⟨(sgn_cons d _).mpr hd, hcount⟩]
  have hidx : (zs (d :: (ra ++ 12 :: lb))).idxOf 12 = ra.length + 1 := zs_idx (d :: ra) lb hla
  rw [hidx]
  have k1 : ((zs (d :: (ra ++ 12 :: lb))).drop 1).take (ra.length + 1 - 1) = zs ra := by
    show (zs (ra ++ 12 :: lb)).take (ra.length) = _
    unfold zs
    rw [← List.map_take, List.take_left']
    rfl
  have k2 : (zs (d :: (ra ++ 12 :: lb))).drop (ra.length + 1 + 1) = zs lb := by
    show (zs (ra ++ 12 :: lb)).drop (ra.length + 1) = _
    unfold zs
    rw [← List.map_drop]
    congr 1
    rw [show ra ++ 12 :: lb = (ra ++ [12]) ++ lb by simp, List.drop_left' (by simp)]
  rw [k1, k2]
  rfl
theorem fmod_nat (c : Int) : ∃ d : Nat, c.fmod 16 = (d : Int) ∧ d < 16 := by
  refine ⟨(c % 16).toNat, ?_, ?_⟩
  · rw [Int.fmod_eq_emod_of_nonneg _ (by decide)]; omega
  · omega
theorem map_nat : ∀ l : List Int, ∃ r : List Nat, (l.map fun k => k.fmod 16) = zs r ∧ (∀ d ∈ r, d < 16) ∧ r.length = l.length
  | [] => ⟨[], rfl, (fun _ h => nomatch h), rfl⟩
  | c :: l => by
    obtain ⟨r, h1, h2, h3⟩ := map_nat l
    obtain ⟨d, e, hd⟩ := fmod_nat c
    refine ⟨d :: r, ?_, ?_, by simp [h3]⟩
    · rw [List.map_cons, h1, e]; rfl
    · intro x hx
      rcases List.mem_cons.mp hx with rfl | hx
      · exact hd
      · exact h2 x hx
/-- what the row's number is -/
theorem row_num (c0 c1 c2 c3 c4 c5 c6 c7 : Int) {line col : Int} (hline : -1000 ≤ line ∧ line < 1000) (hcol : 0 ≤ col ∧ col < 1000) :
    ∃ N : Nat, numOf (rowOf c0 c1 c2 c3 c4 c5 c6 c7 line col) = (N : Int) ∧ 0 < N ∧ N < 16 ^ 18 ∧ (hexN N).length ≤ 18 ∧ dueSpec N = some (line, col) := by
  obtain ⟨pre, p1, p2, p3⟩ := map_nat [c0, c1, c2, c3, c4, c5, c6, c7]
  obtain ⟨la, a1, a2, a3, a4⟩ := decN_zs line.natAbs
  obtain ⟨lc, b1, b2, b3, b4⟩ := decN_zs col.natAbs
  have hla := decN_len4 (n := line.natAbs) (by omega)
  have hlc := decN_len4 (n := col.natAbs) (by omega)
  rw [a1] at hla
  rw [b1] at hlc
  simp only [zs, List.length_map] at hla hlc
  obtain ⟨d, hd, he⟩ : ∃ d : Nat, (if 0 ≤ line then (10 : Int) else 11) = (d : Int) ∧ ((d = 10 ∧ 0 ≤ line) ∨ (d = 11 ∧ line < 0)) := by
    by_cases q : 0 ≤ line
    · exact ⟨10, by rw [if_pos q]; rfl, .inl ⟨rfl, q⟩⟩
    · exact ⟨11, by rw [if_neg q]; rfl, .inr ⟨rfl, by omega⟩⟩
  have hend : isEnd d := by unfold isEnd; omega
  have erow : rowOf c0 c1 c2 c3 c4 c5 c6 c7 line col = zs (pre ++ d :: (la ++ 12 :: lc)) := by
    unfold rowOf
    rw [p1, hd, a1, b1]
    simp [zs]
  have h16 : ∀ x ∈ pre ++ d :: (la ++ 12 :: lc), x < 16 := by
    intro x hx
    simp only [List.mem_append, List.mem_cons] at hx
    rcases hx with hx | rfl | hx | rfl | hx
    · exact p2 x hx
    · omega
    · have := a2 x hx; omega
    · omega
    · have := b2 x hx; omega
  have hx := hexN_val _ h16
  have hdw : (pre ++ d :: (la ++ 12 :: lc)).dropWhile (· == 0) = pre.dropWhile (· == 0) ++ d :: (la ++ 12 :: lc) := by
    have hd0 : d ≠ 0 := by omega
    rw [List.dropWhile_append]
    by_cases e : (pre.dropWhile (· == 0)).isEmpty = true
    · rw [if_pos e, List.isEmpty_iff.mp e, List.dropWhile_cons, if_neg (by simpa using hd0)]; rfl
    · rw [if_neg e]
  rw [hdw] at hx
  have hpre : (pre.dropWhile (· == 0)).length ≤ 8 := by
    have := (List.dropWhile_sublist (· == (0 : Nat)) (l := pre)).length_le
    simp at p3; omega
  generalize hN : hexVal (pre ++ d :: (la ++ 12 :: lc)) = N at hx
  refine ⟨N, by rw [erow, numOf_zs, hN], ?_, ?_, ?_, ?_⟩
  · apply Nat.pos_of_ne_zero
    intro q
    rw [q, hexN_zero] at hx
    simp at hx
  · have hlen : (hexN N).length ≤ 18 := by rw [hx]; simp; omega
    exact Nat.lt_of_lt_of_le (hexN_below N) (Nat.pow_le_pow_right (by decide) hlen)
  · rw [hx]; simp; omega
  · have h12a : 12 ∉ la := fun q => by have := a2 _ q; omega
    have h12c : 12 ∉ lc := fun q => by have := b2 _ q; omega
    unfold dueSpec
    rw [dueRun_hex, hx, digRun_run (l := pre.dropWhile (· == 0)) (d := d) (t := la ++ 12 :: lc) (fun x hx => ?_) hend, dueOf_run hend h12a h12c, numSpec_figs a2 a3, numSpec_figs b2 b3, a4, b4]
    · show some (if (d : Int) = 10 then ((line.natAbs : Nat) : Int) else -((line.natAbs : Nat) : Int), ((col.natAbs : Nat) : Int)) = some (line, col)
      congr 2
      · rcases he with ⟨rfl, h⟩ | ⟨rfl, h⟩
        · rw [if_pos (show ((10 : Nat) : Int) = 10 from rfl)]; omega
        · rw [if_neg (by decide)]; omega
      · omega
    · unfold isEnd
      simp only [List.mem_append, List.mem_cons] at hx
      rcases hx with hx | rfl | hx
      · have := a2 x hx; omega
      · omega
      · have := b2 x hx; omega
end Mine
end

section  -- L3
open PySem PySem.W PySem.Calls PyProof.Rows
set_option maxRecDepth 100000
set_option maxHeartbeats 1000000
namespace Mine
open LCg
theorem int_at : ∀ {vs : List Value} {ns : List Int} {i : Nat} {v : Value}, IntsAre vs ns → vs[i]? = some v → ∃ n t, v = .int n t ∧ ns[i]? = some n
  | _, _, i, v, .nil, h => by simp at h
  | _, _, 0, v, .cons n t r, h => ⟨n, t, by simpa using h.symm, rfl⟩
  | _, _, i + 1, v, .cons n t r, h => by
    obtain ⟨k, u, e, q⟩ := int_at r (i := i) (v := v) (by simpa using h)
    exact ⟨k, u, e, by simpa using q⟩
theorem apartK {h₀ h : Heap} {L : Addr} {news : List (Addr × Obj)} {c : Addr} {o : Obj} {v : Option Value} (N : News h₀ L h news) (hc : (c, o) ∈ news) (hd : o.data = .cell v) {a : Addr} {q : Obj} (hq : (a, q) ∈ news) (hk : ∀ u, q.data ≠ .cell u) : a ≠ c := by
  rintro rfl
  have e1 := N.get hc
  have e2 := N.get hq
  rw [e1] at e2
  exact hk v (by rw [← Option.some.inj e2]; exact hd)
theorem law_3 {w : World} {base : Heap} {L f : Addr} {cd : Value} {s : Shared} {m : Str → Option Value} {R : Addr} {vs : List Value} {row : List Int} {o1 o2 o3 o4 : Obj} {Q : Flow → Shared → Prop} {line col : Int} {tl tc : Tok}
    {pr : Program} {loose : List Str} {mean : ExcName → Option Value} {mg mb : Str → Option Value}
    (G : GI w base) (TB : Top pr loose mean mg mb base) (hd2 : o2.data = .cell none) (hi : IntsAre vs row) (hsmall : ∀ x ∈ row, 0 ≤ x ∧ x < 16) (hlen : row.length ≤ 18)
    (e1 : m (Str.ofString "line") = some (.int line tl)) (e2 : m (Str.ofString "col") = some (.int col tc)) (e3 : m (Str.ofString "row") = some (.ref R)) (F : Fr base L s.heap m)
    (N : News base L s.heap [(R, W.listOf vs.toArray 0), (L + 1 + 1 + 1 + 1, o4), (L + 1 + 1 + 1, o3), (L + 1 + 1, o2), (L + 1, o1), (37, tabObj #[]), (44, tabObj #[])])
    (next : ∀ h' tk tn m' o2', m' (Str.ofString "line") = some (.int line tl) → m' (Str.ofString "col") = some (.int col tc) → Fr base L h' m' →
      o2'.data = .cell (some (.int (numOf row) tn)) →
      News base L h' [(L + 1 + 1 + 1 + 1, o4), (L + 1 + 1 + 1, o3), (L + 1 + 1, o2'), (L + 1, o1), (37, tabObj #[]), (44, tabObj #[])] →
      wpAny (model PR w) (callerA.deeper (lawEnv L f cd)) (execs (lawDef.1.drop 5) (lawEnv L f cd)) Q (fun _ _ => False) { s with heap := h', toks := tk }) :
    wpAny (model PR w) (callerA.deeper (lawEnv L f cd)) (execs (lawDef.1.drop 3) (lawEnv L f cd)) Q (fun _ _ => False) s := by
  obtain ⟨mg', mb', TT⟩ := G.T
  have X := G.K
  replace F := Fr.setL F [(Str.ofString "line", .int line tl), (Str.ofString "col", .int col tc), (Str.ofString "row", .ref R)] (fcC e1 (fcC e2 (fcC e3 fcN)))
  clear e1 e2 e3
  unfold lawEnv
  conv in lawDef.1.drop 3 => whnf
  conv in (occs := *) lawDef.2 => all_goals whnf
  w_on
  have : (fun P : Params => hd.heap_39 P) = hd.heap_39 ∧ PySem.Challenge.rw_pg0028_01 = PySem.Challenge.rw_pg0028_01 := by k_fill; exact ⟨rfl, rfl⟩
  clear this
  walk1
  (repeat' (first | ((fail_if_success (with_reducible show wpAny _ _ (execs (_ :: _) _) _ _ _)); (fail_if_success (with_reducible show wpAny _ _ (exec (Stmt.For _ _ _ _ _) _) _ _ _)); (fail_if_success (with_reducible show wpAny _ _ (exec (Stmt.While _ _ _ _) _) _ _ _)); (fail_if_success (with_reducible show wpAny _ _ (exec (Stmt.Assign _ (Expr.ListComp _ _ _ _) _) _) _ _ _)); (fail_if_success (with_reducible show wpAny _ _ (pyIter _) _ _ _)); (fail_if_success (with_reducible show wpAny _ _ (eval (Expr.ListComp _ _ _ _) _) _ _ _)); (fail_if_success (with_reducible show wpAny _ _ (subscriptTail _ _ _ _) _ _ _)); (fail_if_success (with_reducible show wpAny _ _ (newList _) _ _ _)); (fail_if_success (with_reducible show wpAny _ _ (call (Value.ref _) _) _ _ _)); (fail_if_success (with_reducible show wpAny _ _ (call (Value.builtin _) _) _ _ _)); (fail_if_success (with_reducible show wpAny _ _ (compareOp _ (Value.ref _) (Value.ref _)) _ _ _)); (first | walk1 | (dsimp only; walk1)))))
  walk1
  refine For_invV base (by rfl) (by rfl) ?_
  (repeat' (first | ((fail_if_success (with_reducible show wpAny _ _ (execs (_ :: _) _) _ _ _)); (fail_if_success (with_reducible show wpAny _ _ (exec (Stmt.For _ _ _ _ _) _) _ _ _)); (fail_if_success (with_reducible show wpAny _ _ (exec (Stmt.While _ _ _ _) _) _ _ _)); (fail_if_success (with_reducible show wpAny _ _ (exec (Stmt.Assign _ (Expr.ListComp _ _ _ _) _) _) _ _ _)); (fail_if_success (with_reducible show wpAny _ _ (pyIter _) _ _ _)); (fail_if_success (with_reducible show wpAny _ _ (eval (Expr.ListComp _ _ _ _) _) _ _ _)); (fail_if_success (with_reducible show wpAny _ _ (subscriptTail _ _ _ _) _ _ _)); (fail_if_success (with_reducible show wpAny _ _ (newList _) _ _ _)); (fail_if_success (with_reducible show wpAny _ _ (call (Value.ref _) _) _ _ _)); (fail_if_success (with_reducible show wpAny _ _ (call (Value.builtin _) _) _ _ _)); (fail_if_success (with_reducible show wpAny _ _ (compareOp _ (Value.ref _) (Value.ref _)) _ _ _)); (first | walk1 | (dsimp only; walk1)))))
  have F1 := (by assumption : Fr base L _ _)
  have N1 := (by assumption : News base L _ _)
  have hd3 := (by assumption : _ = Data.cell (some (Value.int 0 _)))
  refine listG (h₀ := base) (vs := vs) (nn := 0) (fun i m news => ∃ n tn o2', m (Str.ofString "line") = some (.int line tl) ∧ m (Str.ofString "col") = some (.int col tc) ∧
      news = [(R, W.listOf vs.toArray 0), (L + 1 + 1 + 1 + 1, o4), (L + 1 + 1 + 1, o3), (L + 1 + 1, o2'), (L + 1, o1), (37, tabObj #[]), (44, tabObj #[])] ∧
      o2'.data = .cell (some (.int n tn)) ∧ n = numOf (row.take i) ∧ 0 ≤ n ∧ n < 16 ^ i) (by rfl) ?_ F1 N1 ?_ ?_ ?_
  · rintro i m₁ news₁ ⟨n, tn, o2', _, _, rfl, _⟩
    exact .head _
  · refine ⟨0, _, _, ?_, ?_, rfl, hd3, rfl, by decide, by decide⟩
    · rfl
    · rfl
  · clear F1 N1 hd3
    rintro i v m₁ news₁ h tk I oI hv ⟨n, tn, o2', e1, e2, rfl, hd3, hn, hn0, hn1⟩ hne F N
    obtain ⟨fig, tf, rfl, hfig⟩ := int_at hi hv
    have hfb := hsmall fig (List.mem_of_getElem? hfig)
    have hilt : i < row.length := (List.getElem?_eq_some_iff.mp hfig).1
    have hpow : (16 : Int) ^ i ≤ 16 ^ 17 := by
      have := Nat.pow_le_pow_right (n := 16) (by decide) (show i ≤ 17 by omega)
      exact_mod_cast this
    have hn2 : n < 16 ^ 17 := Int.lt_of_lt_of_le hn1 hpow
    have hnext : 16 * n + fig = numOf (row.take (i + 1)) := by
      rw [List.take_add_one, hfig, Option.toList_some, numOf_snoc, hn]
    have hnb : 16 * n + fig < 16 ^ (i + 1) := by
      have : (16 : Int) ^ (i + 1) = 16 * 16 ^ i := by rw [Int.pow_succ, Int.mul_comm]
      omega
    clear hpow hn1
    replace hnb := Hid.mk hnb
    change Fr base L h _ at F
    change News base L h _ at N
    replace F := Fr.setL F [(Str.ofString "figure", .int fig tf), (Str.ofString "line", .int line tl), (Str.ofString "col", .int col tc)] (by intro p hp; simp only [List.mem_cons, List.not_mem_nil, or_false] at hp; rcases hp with rfl | rfl | rfl; exact rfl; exact e1; exact e2)
    clear e1 e2 hv
    walk1
    (repeat' (first | ((fail_if_success (with_reducible show wpAny _ _ (execs (_ :: _) _) _ _ _)); (fail_if_success (with_reducible show wpAny _ _ (exec (Stmt.For _ _ _ _ _) _) _ _ _)); (fail_if_success (with_reducible show wpAny _ _ (exec (Stmt.While _ _ _ _) _) _ _ _)); (fail_if_success (with_reducible show wpAny _ _ (exec (Stmt.Assign _ (Expr.ListComp _ _ _ _) _) _) _ _ _)); (fail_if_success (with_reducible show wpAny _ _ (pyIter _) _ _ _)); (fail_if_success (with_reducible show wpAny _ _ (eval (Expr.ListComp _ _ _ _) _) _ _ _)); (fail_if_success (with_reducible show wpAny _ _ (subscriptTail _ _ _ _) _ _ _)); (fail_if_success (with_reducible show wpAny _ _ (newList _) _ _ _)); (fail_if_success (with_reducible show wpAny _ _ (call (Value.ref _) _) _ _ _)); (fail_if_success (with_reducible show wpAny _ _ (call (Value.builtin _) _) _ _ _)); (fail_if_success (with_reducible show wpAny _ _ (compareOp _ (Value.ref _) (Value.ref _)) _ _ _)); (first | walk1 | (dsimp only; walk1)))))
    dsimp only
    have F2 := (by assumption : Fr base L _ _)
    have N2 := (by assumption : News base L _ _)
    have m2 : (L + 1 + 1, o2') ∈ [(I, oI), (R, W.listOf vs.toArray 0), (L + 1 + 1 + 1 + 1, o4), (L + 1 + 1 + 1, o3), (L + 1 + 1, o2'), (L + 1, o1), (37, tabObj #[]), (44, tabObj #[])] := .tail _ (.tail _ (.tail _ (.tail _ (.head _))))
    refine stCN (own := [(I, oI), (R, W.listOf vs.toArray 0), (L + 1 + 1 + 1 + 1, o4), (L + 1 + 1 + 1, o3)]) (rest := [(L + 1, o1), (37, tabObj #[]), (44, tabObj #[])]) F2 N2 rfl hd3 ?_ ?_ ?_ (by rfl) (by rfl)
    · intro p hp
      simp only [List.mem_cons, List.not_mem_nil, or_false] at hp
      rcases hp with rfl | rfl | rfl | rfl
      · exact (hne _ (.tail _ (.tail _ (.tail _ (.head _))))).symm
      · exact apartK N2 m2 hd3 (.tail _ (.head _)) (fun u h => nomatch h)
      · exact Nat.ne_of_gt (by lt_chain)
      · exact Nat.ne_of_gt (by lt_chain)
    · intro p hp
      simp only [List.mem_cons, List.not_mem_nil, or_false] at hp
      rcases hp with rfl | rfl | rfl
      · exact Nat.ne_of_lt (by lt_chain)
      · exact apartK N2 m2 hd3 (.tail _ (.tail _ (.tail _ (.tail _ (.tail _ (.tail _ (.head _))))))) (fun u h => nomatch h)
      · exact apartK N2 m2 hd3 (.tail _ (.tail _ (.tail _ (.tail _ (.tail _ (.tail _ (.tail _ (.head _)))))))) (fun u h => nomatch h)
    intro h3 o2'' F3 N3 hd3'
    dsimp only
    clear F2 N2 m2
    (repeat' (first | ((fail_if_success (with_reducible show wpAny _ _ (execs (_ :: _) _) _ _ _)); (fail_if_success (with_reducible show wpAny _ _ (exec (Stmt.For _ _ _ _ _) _) _ _ _)); (fail_if_success (with_reducible show wpAny _ _ (exec (Stmt.While _ _ _ _) _) _ _ _)); (fail_if_success (with_reducible show wpAny _ _ (exec (Stmt.Assign _ (Expr.ListComp _ _ _ _) _) _) _ _ _)); (fail_if_success (with_reducible show wpAny _ _ (pyIter _) _ _ _)); (fail_if_success (with_reducible show wpAny _ _ (eval (Expr.ListComp _ _ _ _) _) _ _ _)); (fail_if_success (with_reducible show wpAny _ _ (subscriptTail _ _ _ _) _ _ _)); (fail_if_success (with_reducible show wpAny _ _ (newList _) _ _ _)); (fail_if_success (with_reducible show wpAny _ _ (call (Value.ref _) _) _ _ _)); (fail_if_success (with_reducible show wpAny _ _ (call (Value.builtin _) _) _ _ _)); (fail_if_success (with_reducible show wpAny _ _ (compareOp _ (Value.ref _) (Value.ref _)) _ _ _)); (first | walk1 | (dsimp only; walk1)))))
    refine TurnG.next F3 N3 (.head _) (news' := [(R, W.listOf vs.toArray 0), (L + 1 + 1 + 1 + 1, o4), (L + 1 + 1 + 1, o3), (L + 1 + 1, o2''), (L + 1, o1), (37, tabObj #[]), (44, tabObj #[])]) (fun p hp => .tail _ hp) ?_ ?_
    · intro p hp
      simp only [List.mem_cons, List.not_mem_nil, or_false] at hp
      rcases hp with rfl | rfl | rfl | rfl | rfl | rfl | rfl
      · exact hne _ (.head _)
      · exact hne _ (.tail _ (.head _))
      · exact hne _ (.tail _ (.tail _ (.head _)))
      · exact hne (L + 1 + 1, o2') (.tail _ (.tail _ (.tail _ (.head _))))
      · exact hne _ (.tail _ (.tail _ (.tail _ (.tail _ (.head _)))))
      · exact hne _ (.tail _ (.tail _ (.tail _ (.tail _ (.tail _ (.head _))))))
      · exact hne _ (.tail _ (.tail _ (.tail _ (.tail _ (.tail _ (.tail _ (.head _)))))))
    · exact ⟨_, _, _, rfl, rfl, rfl, hd3', hnext, by omega, hnb.out⟩
  · clear F1 N1 hd3
    rintro m₁ news₁ h tk ⟨n, tn, o2', e1, e2, rfl, hd3, hn, hn0, hn1⟩ F N
    refine next _ _ tn _ o2' e1 e2 F ?_ (News.drop N (fun p hp => .tail _ hp))
    rw [hd3, hn, hi.length, List.take_length]
end Mine
end

section  -- L4
open PySem PySem.W PySem.Calls PyProof.Rows
set_option maxRecDepth 100000
set_option maxHeartbeats 1000000
namespace Mine
open LCg
theorem stCM {M : Model} {A : Around} {E : Value → Shared → Prop} {s : Shared} {name : Str} {scope : Scope} {L a : Addr} {cd : Value} {h₀ : Heap} {m : Str → Option Value} {news : List (Addr × Obj)}
    {x : Str} {c : Addr} {o : Obj} {v₀ : Option Value} {v : Value} {Q : Unit → Shared → Prop} (rest : List (Addr × Obj)) (F : Fr h₀ L s.heap m) (N : News h₀ L s.heap news) (hm : (c, o) ∈ news) (hd : o.data = .cell v₀)
    (hc : (cellsFrom (L + 1) scope.names []).lookup x = some c) (hr : ∀ p ∈ rest, p ∈ news ∧ p.1 ≠ c)
    (h : ∀ h' o', Fr h₀ L h' m → News h₀ L h' ((c, o') :: rest) → o'.data = .cell (some v) → Q () { s with heap := h' })
    (hk : scope.kind = .function) (hl : (envOfC name scope L a cd).kindOf x = some .cell) :
    wpAny M A (storeName (envOfC name scope L a cd) x v) Q E s :=
  stCN (own := []) (rest := rest) F (fun p hp => by
    rcases List.mem_cons.mp hp with rfl | hp
    · exact N _ hm
    · exact N _ (hr p hp).1) hc hd (fun p hp => nomatch hp) (fun p hp => (hr p hp).2) h hk hl
theorem law_4 {w : World} {base : Heap} {L f : Addr} {cd : Value} {s : Shared} {m : Str → Option Value} {o1 o2 o3 o4 : Obj} {Q : Flow → Shared → Prop} {line col : Int} {tl tc tn : Tok} {n : Nat}
    {pr : Program} {loose : List Str} {mean : ExcName → Option Value} {mg mb : Str → Option Value}
    (G : GI w base) (TB : Top pr loose mean mg mb base) (hd2 : o2.data = .cell (some (.int (n : Int) tn))) (hd3 : o3.data = .cell none) (hlen : (hexN n).length ≤ 18) (hn : Hid ((n : Int) < 16 ^ 18))
    (e1 : m (Str.ofString "line") = some (.int line tl)) (e2 : m (Str.ofString "col") = some (.int col tc)) (F : Fr base L s.heap m)
    (N : News base L s.heap [(L + 1 + 1 + 1 + 1, o4), (L + 1 + 1 + 1, o3), (L + 1 + 1, o2), (L + 1, o1), (37, tabObj #[]), (44, tabObj #[])])
    (next : ∀ h' tk ts m' o3', m' (Str.ofString "line") = some (.int line tl) → m' (Str.ofString "col") = some (.int col tc) → Fr base L h' m' →
      o3'.data = .cell (some (.int ((hexN n).length : Int) ts)) →
      News base L h' [(L + 1 + 1 + 1 + 1, o4), (L + 1 + 1 + 1, o3'), (L + 1 + 1, o2), (L + 1, o1), (37, tabObj #[]), (44, tabObj #[])] →
      wpAny (model PR w) (callerA.deeper (lawEnv L f cd)) (execs (lawDef.1.drop 7) (lawEnv L f cd)) Q (fun _ _ => False) { s with heap := h', toks := tk }) :
    wpAny (model PR w) (callerA.deeper (lawEnv L f cd)) (execs (lawDef.1.drop 5) (lawEnv L f cd)) Q (fun _ _ => False) s := by
  obtain ⟨mg', mb', TT⟩ := G.T
  have X := G.K
  replace F := Fr.setL F [(Str.ofString "line", .int line tl), (Str.ofString "col", .int col tc)] (fcC e1 (fcC e2 fcN))
  clear e1 e2
  unfold lawEnv
  conv in lawDef.1.drop 5 => whnf
  conv in (occs := *) lawDef.2 => all_goals whnf
  w_on
  have : (fun P : Params => hd.heap_39 P) = hd.heap_39 ∧ PySem.Challenge.rw_pg0028_01 = PySem.Challenge.rw_pg0028_01 := by k_fill; exact ⟨rfl, rfl⟩
  clear this
  walk1
  (repeat' (first | ((fail_if_success (with_reducible show wpAny _ _ (execs (_ :: _) _) _ _ _)); (fail_if_success (with_reducible show wpAny _ _ (exec (Stmt.For _ _ _ _ _) _) _ _ _)); (fail_if_success (with_reducible show wpAny _ _ (exec (Stmt.While _ _ _ _) _) _ _ _)); (fail_if_success (with_reducible show wpAny _ _ (exec (Stmt.Assign _ (Expr.ListComp _ _ _ _) _) _) _ _ _)); (fail_if_success (with_reducible show wpAny _ _ (pyIter _) _ _ _)); (fail_if_success (with_reducible show wpAny _ _ (eval (Expr.ListComp _ _ _ _) _) _ _ _)); (fail_if_success (with_reducible show wpAny _ _ (subscriptTail _ _ _ _) _ _ _)); (fail_if_success (with_reducible show wpAny _ _ (newList _) _ _ _)); (fail_if_success (with_reducible show wpAny _ _ (call (Value.ref _) _) _ _ _)); (fail_if_success (with_reducible show wpAny _ _ (call (Value.builtin _) _) _ _ _)); (fail_if_success (with_reducible show wpAny _ _ (compareOp _ (Value.ref _) (Value.ref _)) _ _ _)); (first | walk1 | (dsimp only; walk1)))))
  have F1 := (by assumption : Fr base L _ _)
  have N1 := (by assumption : News base L _ _)
  refine stCM [(L + 1 + 1 + 1 + 1, o4), (L + 1 + 1, o2), (L + 1, o1), (37, tabObj #[]), (44, tabObj #[])] F1 N1 (.tail _ (.head _)) hd3 rfl ?_ ?_ (by rfl) (by rfl)
  · intro p hp
    simp only [List.mem_cons, List.not_mem_nil, or_false] at hp
    rcases hp with rfl | rfl | rfl | rfl | rfl
    · exact ⟨.head _, Nat.ne_of_gt (by lt_chain)⟩
    · exact ⟨.tail _ (.tail _ (.head _)), Nat.ne_of_lt (by lt_chain)⟩
    · exact ⟨.tail _ (.tail _ (.tail _ (.head _))), Nat.ne_of_lt (by lt_chain)⟩
    · exact ⟨.tail _ (.tail _ (.tail _ (.tail _ (.head _)))), apartK N1 (.tail _ (.head _)) hd3 (.tail _ (.tail _ (.tail _ (.tail _ (.head _))))) (fun u h => nomatch h)⟩
    · exact ⟨.tail _ (.tail _ (.tail _ (.tail _ (.tail _ (.head _))))), apartK N1 (.tail _ (.head _)) hd3 (.tail _ (.tail _ (.tail _ (.tail _ (.tail _ (.head _)))))) (fun u h => nomatch h)⟩
  intro h3 o3' F3 N3 hd3'
  clear F1 N1
  dsimp only
  (repeat' (first | ((fail_if_success (with_reducible show wpAny _ _ (execs (_ :: _) _) _ _ _)); (fail_if_success (with_reducible show wpAny _ _ (exec (Stmt.For _ _ _ _ _) _) _ _ _)); (fail_if_success (with_reducible show wpAny _ _ (exec (Stmt.While _ _ _ _) _) _ _ _)); (fail_if_success (with_reducible show wpAny _ _ (exec (Stmt.Assign _ (Expr.ListComp _ _ _ _) _) _) _ _ _)); (fail_if_success (with_reducible show wpAny _ _ (pyIter _) _ _ _)); (fail_if_success (with_reducible show wpAny _ _ (eval (Expr.ListComp _ _ _ _) _) _ _ _)); (fail_if_success (with_reducible show wpAny _ _ (subscriptTail _ _ _ _) _ _ _)); (fail_if_success (with_reducible show wpAny _ _ (newList _) _ _ _)); (fail_if_success (with_reducible show wpAny _ _ (call (Value.ref _) _) _ _ _)); (fail_if_success (with_reducible show wpAny _ _ (call (Value.builtin _) _) _ _ _)); (fail_if_success (with_reducible show wpAny _ _ (compareOp _ (Value.ref _) (Value.ref _)) _ _ _)); (first | walk1 | (dsimp only; walk1)))))
  walk1
  walk1
  refine whileX (fun j m news => ∃ (k : Nat) (t : Tok) (o3' : Obj), m (Str.ofString "line") = some (.int line tl) ∧ m (Str.ofString "col") = some (.int col tc) ∧
      news = [(L + 1 + 1 + 1, o3'), (L + 1 + 1 + 1 + 1, o4), (L + 1 + 1, o2), (L + 1, o1), (37, tabObj #[]), (44, tabObj #[])] ∧ o3'.data = .cell (some (.int (k : Int) t)) ∧ k + j = (hexN n).length)
    (fun m news => ∃ (t : Tok) (o3' : Obj), m (Str.ofString "line") = some (.int line tl) ∧ m (Str.ofString "col") = some (.int col tc) ∧
      news = [(L + 1 + 1 + 1, o3'), (L + 1 + 1 + 1 + 1, o4), (L + 1 + 1, o2), (L + 1, o1), (37, tabObj #[]), (44, tabObj #[])] ∧ o3'.data = .cell (some (.int ((hexN n).length : Int) t)))
    (hexN n).length (by assumption) (by assumption) ?_ ?_ ?_
  · exact ⟨0, _, _, rfl, rfl, rfl, hd3', by omega⟩
  · clear F3 N3 hd3'
    rintro j m₁ news₁ h₂ tk₁ F N ⟨k, t, o3'', e1, e2, rfl, hd3', hk⟩
    replace F := Fr.setL F [(Str.ofString "line", .int line tl), (Str.ofString "col", .int col tc)] (fcC e1 (fcC e2 fcN))
    clear e1 e2
    (repeat' (first | ((fail_if_success (with_reducible show wpAny _ _ (execs (_ :: _) _) _ _ _)); (fail_if_success (with_reducible show wpAny _ _ (exec (Stmt.For _ _ _ _ _) _) _ _ _)); (fail_if_success (with_reducible show wpAny _ _ (exec (Stmt.While _ _ _ _) _) _ _ _)); (fail_if_success (with_reducible show wpAny _ _ (exec (Stmt.Assign _ (Expr.ListComp _ _ _ _) _) _) _ _ _)); (fail_if_success (with_reducible show wpAny _ _ (pyIter _) _ _ _)); (fail_if_success (with_reducible show wpAny _ _ (eval (Expr.ListComp _ _ _ _) _) _ _ _)); (fail_if_success (with_reducible show wpAny _ _ (subscriptTail _ _ _ _) _ _ _)); (fail_if_success (with_reducible show wpAny _ _ (newList _) _ _ _)); (fail_if_success (with_reducible show wpAny _ _ (call (Value.ref _) _) _ _ _)); (fail_if_success (with_reducible show wpAny _ _ (call (Value.builtin _) _) _ _ _)); (fail_if_success (with_reducible show wpAny _ _ (compareOp _ (Value.ref _) (Value.ref _)) _ _ _)); (first | walk1 | (dsimp only; walk1)))))
    · have hle := (by assumption : (16 : Int) ^ ((k : Int)).toNat ≤ (n : Int))
      have hkn : ((k : Int)).toNat = k := by omega
      rw [hkn] at hle
      have hlt : k < (hexN n).length := pow_hex.mp (by exact_mod_cast hle)
      walk1
      (repeat' (first | ((fail_if_success (with_reducible show wpAny _ _ (execs (_ :: _) _) _ _ _)); (fail_if_success (with_reducible show wpAny _ _ (exec (Stmt.For _ _ _ _ _) _) _ _ _)); (fail_if_success (with_reducible show wpAny _ _ (exec (Stmt.While _ _ _ _) _) _ _ _)); (fail_if_success (with_reducible show wpAny _ _ (exec (Stmt.Assign _ (Expr.ListComp _ _ _ _) _) _) _ _ _)); (fail_if_success (with_reducible show wpAny _ _ (pyIter _) _ _ _)); (fail_if_success (with_reducible show wpAny _ _ (eval (Expr.ListComp _ _ _ _) _) _ _ _)); (fail_if_success (with_reducible show wpAny _ _ (subscriptTail _ _ _ _) _ _ _)); (fail_if_success (with_reducible show wpAny _ _ (newList _) _ _ _)); (fail_if_success (with_reducible show wpAny _ _ (call (Value.ref _) _) _ _ _)); (fail_if_success (with_reducible show wpAny _ _ (call (Value.builtin _) _) _ _ _)); (fail_if_success (with_reducible show wpAny _ _ (compareOp _ (Value.ref _) (Value.ref _)) _ _ _)); (first | walk1 | (dsimp only; walk1)))))
      dsimp only
      have F1 := (by assumption : Fr base L _ _)
      have N1 := (by assumption : News base L _ _)
      refine stCM [(L + 1 + 1 + 1 + 1, o4), (L + 1 + 1, o2), (L + 1, o1), (37, tabObj #[]), (44, tabObj #[])] F1 N1 (.head _) hd3' rfl ?_ ?_ (by rfl) (by rfl)
      · intro p hp
        simp only [List.mem_cons, List.not_mem_nil, or_false] at hp
        rcases hp with rfl | rfl | rfl | rfl | rfl
        · exact ⟨.tail _ (.head _), Nat.ne_of_gt (by lt_chain)⟩
        · exact ⟨.tail _ (.tail _ (.head _)), Nat.ne_of_lt (by lt_chain)⟩
        · exact ⟨.tail _ (.tail _ (.tail _ (.head _))), Nat.ne_of_lt (by lt_chain)⟩
        · exact ⟨.tail _ (.tail _ (.tail _ (.tail _ (.head _)))), apartK N1 (.head _) hd3' (.tail _ (.tail _ (.tail _ (.tail _ (.head _))))) (fun u h => nomatch h)⟩
        · exact ⟨.tail _ (.tail _ (.tail _ (.tail _ (.tail _ (.head _))))), apartK N1 (.head _) hd3' (.tail _ (.tail _ (.tail _ (.tail _ (.tail _ (.head _)))))) (fun u h => nomatch h)⟩
      intro h4 o4' F4 N4 hd4
      clear F1 N1
      dsimp only
      (repeat' (first | ((fail_if_success (with_reducible show wpAny _ _ (execs (_ :: _) _) _ _ _)); (fail_if_success (with_reducible show wpAny _ _ (exec (Stmt.For _ _ _ _ _) _) _ _ _)); (fail_if_success (with_reducible show wpAny _ _ (exec (Stmt.While _ _ _ _) _) _ _ _)); (fail_if_success (with_reducible show wpAny _ _ (exec (Stmt.Assign _ (Expr.ListComp _ _ _ _) _) _) _ _ _)); (fail_if_success (with_reducible show wpAny _ _ (pyIter _) _ _ _)); (fail_if_success (with_reducible show wpAny _ _ (eval (Expr.ListComp _ _ _ _) _) _ _ _)); (fail_if_success (with_reducible show wpAny _ _ (subscriptTail _ _ _ _) _ _ _)); (fail_if_success (with_reducible show wpAny _ _ (newList _) _ _ _)); (fail_if_success (with_reducible show wpAny _ _ (call (Value.ref _) _) _ _ _)); (fail_if_success (with_reducible show wpAny _ _ (call (Value.builtin _) _) _ _ _)); (fail_if_success (with_reducible show wpAny _ _ (compareOp _ (Value.ref _) (Value.ref _)) _ _ _)); (first | walk1 | (dsimp only; walk1)))))
      exact step3 (j - 1) F4 N4 (fun p hp => hp) (by omega) ⟨k + 1, _, o4', rfl, rfl, rfl, hd4, by omega⟩
    · have hle := (by assumption : ¬ (16 : Int) ^ ((k : Int)).toNat ≤ (n : Int))
      have hkn : ((k : Int)).toNat = k := by omega
      rw [hkn] at hle
      have hge : ¬ k < (hexN n).length := fun h => hle (by exact_mod_cast pow_hex.mpr h)
      have hke : k = (hexN n).length := by omega
      subst hke
      exact exit_at (by assumption) (by assumption) (fun p hp => hp) ⟨_, o3'', rfl, rfl, rfl, hd3'⟩
  · clear F3 N3 hd3'
    rintro h tk m₁ news₁ F N ⟨t, o3'', e1, e2, rfl, hd3'⟩
    refine next _ _ t _ o3'' e1 e2 F hd3' (News.drop N (fun p hp => ?_))
    simp only [List.mem_cons, List.not_mem_nil, or_false] at hp ⊢
    rcases hp with rfl | rfl | rfl | rfl | rfl | rfl <;> simp
end Mine
end

section  -- L5
open PySem PySem.W PySem.Calls PyProof.Rows
set_option maxRecDepth 100000
set_option maxHeartbeats 1000000
namespace Mine
open LCg
theorem law_5 {w : World} {base : Heap} {L f : Addr} {cd : Value} {s : Shared} {m : Str → Option Value} {o1 o2 o3 o4 : Obj} {Q : Flow → Shared → Prop} {line col : Int} {tl tc tn ts : Tok} {n : Nat} {sl : Addr} {vs : List Value} {ns : List Int}
    {pr : Program} {loose : List Str} {mean : ExcName → Option Value} {mg mb : Str → Option Value}
    (G : GI w base) (TB : Top pr loose mean mg mb base) (hd1 : o1.data = .cell (some (.ref sl))) (hd2 : o2.data = .cell (some (.int (n : Int) tn))) (hd3 : o3.data = .cell (some (.int ((hexN n).length : Int) ts))) (hlen : (hexN n).length ≤ 18) (hn : Hid (n < 16 ^ 18))
    (hl : base.IsList sl vs.toArray) (hi : IntsAre vs ns)
    (e1 : m (Str.ofString "line") = some (.int line tl)) (e2 : m (Str.ofString "col") = some (.int col tc)) (F : Fr base L s.heap m)
    (N : News base L s.heap [(L + 1 + 1 + 1 + 1, o4), (L + 1 + 1 + 1, o3), (L + 1 + 1, o2), (L + 1, o1), (37, tabObj #[]), (44, tabObj #[])])
    (next : ∀ h' tk u m', m' (Str.ofString "line") = some (.int line tl) → m' (Str.ofString "col") = some (.int col tc) → m' (Str.ofString "written") = some (.bytes (apB (hexN n)).toArray u) → Fr base L h' m' →
      News base L h' [(L + 1 + 1 + 1 + 1, o4), (L + 1 + 1 + 1, o3), (L + 1 + 1, o2), (L + 1, o1), (37, tabObj #[]), (44, tabObj #[])] →
      wpAny (model PR w) (callerA.deeper (lawEnv L f cd)) (execs (lawDef.1.drop 8) (lawEnv L f cd)) Q (fun _ _ => False) { s with heap := h', toks := tk }) :
    wpAny (model PR w) (callerA.deeper (lawEnv L f cd)) (execs (lawDef.1.drop 7) (lawEnv L f cd)) Q (fun _ _ => False) s := by
  obtain ⟨mg', mb', TT⟩ := G.T
  have X := G.K
  replace F := Fr.setL F [(Str.ofString "line", .int line tl), (Str.ofString "col", .int col tc)] (fcC e1 (fcC e2 fcN))
  clear e1 e2
  unfold lawEnv
  conv in lawDef.1.drop 7 => whnf
  conv in (occs := *) lawDef.2 => all_goals whnf
  w_on
  have : (fun P : Params => hd.heap_39 P) = hd.heap_39 ∧ PySem.Challenge.rw_pg0028_01 = PySem.Challenge.rw_pg0028_01 := by k_fill; exact ⟨rfl, rfl⟩
  clear this
  have hn0 : (0 : Int) ≤ (n : Int) := by omega
  have hnb : (n : Int) < 16 ^ 18 := by have := hn.out; omega
  walk1
  (repeat' (first | ((fail_if_success (with_reducible show wpAny _ _ (execs (_ :: _) _) _ _ _)); (fail_if_success (with_reducible show wpAny _ _ (exec (Stmt.For _ _ _ _ _) _) _ _ _)); (fail_if_success (with_reducible show wpAny _ _ (exec (Stmt.While _ _ _ _) _) _ _ _)); (fail_if_success (with_reducible show wpAny _ _ (exec (Stmt.Assign _ (Expr.ListComp _ _ _ _) _) _) _ _ _)); (fail_if_success (with_reducible show wpAny _ _ (pyIter _) _ _ _)); (fail_if_success (with_reducible show wpAny _ _ (eval (Expr.ListComp _ _ _ _) _) _ _ _)); (fail_if_success (with_reducible show wpAny _ _ (subscriptTail _ _ _ _) _ _ _)); (fail_if_success (with_reducible show wpAny _ _ (newList _) _ _ _)); (fail_if_success (with_reducible show wpAny _ _ (call (Value.ref _) _) _ _ _)); (fail_if_success (with_reducible show wpAny _ _ (call (Value.builtin _) _) _ _ _)); (fail_if_success (with_reducible show wpAny _ _ (compareOp _ (Value.ref _) (Value.ref _)) _ _ _)); (first | walk1 | (dsimp only; walk1)))))
  have F1 := (by assumption : Fr base L _ _)
  have N1 := (by assumption : News base L _ _)
  refine sum_ints (items := vs.toArray) (by rfl) (hl.at fun o e => F1.keep _ _ e) (by simpa using hi) ?_
  intro h4 tk4 t4 k4
  have F4 := Fr.into F1 k4
  have N4 := News.into N1 k4
  dsimp only
  clear F1 N1
  (repeat' (first | ((fail_if_success (with_reducible show wpAny _ _ (execs (_ :: _) _) _ _ _)); (fail_if_success (with_reducible show wpAny _ _ (exec (Stmt.For _ _ _ _ _) _) _ _ _)); (fail_if_success (with_reducible show wpAny _ _ (exec (Stmt.While _ _ _ _) _) _ _ _)); (fail_if_success (with_reducible show wpAny _ _ (exec (Stmt.Assign _ (Expr.ListComp _ _ _ _) _) _) _ _ _)); (fail_if_success (with_reducible show wpAny _ _ (pyIter _) _ _ _)); (fail_if_success (with_reducible show wpAny _ _ (eval (Expr.ListComp _ _ _ _) _) _ _ _)); (fail_if_success (with_reducible show wpAny _ _ (subscriptTail _ _ _ _) _ _ _)); (fail_if_success (with_reducible show wpAny _ _ (newList _) _ _ _)); (fail_if_success (with_reducible show wpAny _ _ (call (Value.ref _) _) _ _ _)); (fail_if_success (with_reducible show wpAny _ _ (call (Value.builtin _) _) _ _ _)); (fail_if_success (with_reducible show wpAny _ _ (compareOp _ (Value.ref _) (Value.ref _)) _ _ _)); (first | walk1 | (dsimp only; walk1)))))
  all_goals (
    have F1 := (by assumption : Fr base L _ _)
    have N1 := (by assumption : News base L _ _)
    refine useB (ap_c (G.keeps F1.keep) (by decide) (by simp only [Int.natAbs_neg, Int.natAbs_natCast]; exact Nat.lt_of_lt_of_le hn.out (by decide))) F1 N1 ?_
    rintro v h9 tk9 k9 F9 N9 ⟨u, rfl⟩
    clear F1 N1
    simp only [Int.natAbs_neg, Int.natAbs_natCast]
    try dsimp only
    (repeat' (first | ((fail_if_success (with_reducible show wpAny _ _ (execs (_ :: _) _) _ _ _)); (fail_if_success (with_reducible show wpAny _ _ (exec (Stmt.For _ _ _ _ _) _) _ _ _)); (fail_if_success (with_reducible show wpAny _ _ (exec (Stmt.While _ _ _ _) _) _ _ _)); (fail_if_success (with_reducible show wpAny _ _ (exec (Stmt.Assign _ (Expr.ListComp _ _ _ _) _) _) _ _ _)); (fail_if_success (with_reducible show wpAny _ _ (pyIter _) _ _ _)); (fail_if_success (with_reducible show wpAny _ _ (eval (Expr.ListComp _ _ _ _) _) _ _ _)); (fail_if_success (with_reducible show wpAny _ _ (subscriptTail _ _ _ _) _ _ _)); (fail_if_success (with_reducible show wpAny _ _ (newList _) _ _ _)); (fail_if_success (with_reducible show wpAny _ _ (call (Value.ref _) _) _ _ _)); (fail_if_success (with_reducible show wpAny _ _ (call (Value.builtin _) _) _ _ _)); (fail_if_success (with_reducible show wpAny _ _ (compareOp _ (Value.ref _) (Value.ref _)) _ _ _)); (first | walk1 | (dsimp only; walk1)))))
    have F2 := (by assumption : Fr base L _ _)
    have N2 := (by assumption : News base L _ _)
    exact next _ _ u _ rfl rfl rfl F2 N2)
end Mine
end

section  -- Q1
open PySem PySem.W PySem.Calls PyProof.Rows
set_option maxRecDepth 100000
set_option maxHeartbeats 1000000
namespace Mine
theorem log2_pow {j : Nat} (hj : j ≤ 18) : ((16 : Int) ^ j).natAbs.log2 < 9000 := by
  have e : ((16 : Int) ^ j).natAbs = 16 ^ j := by rw [Int.natAbs_pow]; rfl
  rw [e]
  have h0 : (16 : Nat) ^ j ≠ 0 := Nat.pos_iff_ne_zero.mp (Nat.pow_pos (by decide))
  have h1 : (16 : Nat) ^ j ≤ 16 ^ 18 := Nat.pow_le_pow_right (by decide) hj
  have h2 : (16 : Nat) ^ 18 < 2 ^ 100 := by decide
  have h3 := (Nat.log2_lt h0 (k := 100)).mpr (Nat.lt_of_le_of_lt h1 h2)
  exact Nat.lt_trans h3 (by decide)
theorem fdiv_pow {prog : Program} {w : World} {A : Around} {E : Value → Shared → Prop} {s : Shared} {n j : Nat} {t u : Tok} {Q : Value → Shared → Prop} (hj : j ≤ 18)
    (h : Q (.int ((n / 16 ^ j : Nat) : Int) s.toks) { s with toks := s.toks + 1 }) : wpAny (model prog w) A (binaryOp .FloorDiv (.int (n : Int) t) (.int ((16 : Int) ^ j) u)) Q E s := by
  have e : (n : Int).fdiv ((16 : Int) ^ j) = ((n / 16 ^ j : Nat) : Int) := by
    rw [Int.fdiv_eq_ediv_of_nonneg _ (Int.le_of_lt (Int.pow_pos (by decide)))]
    push_cast
    rfl
  refine AutoIntOps.floordiv_1 ?_ ?_ ?_
  · intro q
    have := Int.pow_pos (n := (16 : Int)) (m := j) (by decide)
    have q' : (16 : Int) ^ j = 0 := by simpa using q
    omega
  · rw [PyProof.noPylong_of_log2 (log2_pow hj)]; decide
  · rw [e]; exact h
theorem bytes_hex (ds : List Nat) : PySem.byteArr (ds.map fun d => ((65 + d : Nat) : Int)) = (apB ds).toArray := by
  unfold PySem.byteArr apB
  rw [List.map_map]
  congr 1
end Mine
end

section  -- Q2
open PySem PySem.W PySem.Calls PyProof.Rows
open PySem.Builtin
set_option maxRecDepth 100000
set_option maxHeartbeats 1000000
namespace Mine
theorem road_ascii {id : String} {b : Array UInt8} : _codecs.decodeRoad id b (PySem.Str.ofString "ascii") none [] = (_codecs.runDecoder id _codecs.asciiDecoder none true b 0 [] >>= fun r => mkStr ⟨r.1⟩) := by kernel_rfl
theorem entry_ascii {c : UInt8} {cs : List UInt8} {t u : Tok} : «bytes.decode» ⟨[.bytes (c :: cs).toArray t, .str (PySem.Str.ofString "ascii") u], []⟩ = (mkStr (PySem.Str.ofString "utf-8") >>= fun _ => mkStr (PySem.Str.ofString "ascii") >>= fun e => mkStr (PySem.Str.ofString "bytes.decode") >>= fun d =>
    call (.builtin "_codecs.decode.text") [.bytes (c :: cs).toArray t, e, .none, d] >>= fun v => ret v) := by kernel_rfl
theorem forIn_run {σ : Type} (f : Nat → σ → Sem (ForInStep σ)) (g : Nat → σ) : ∀ (n k : Nat), (∀ i, k ≤ i → i < k + n → f i (g i) = pure (.yield (g (i + 1)))) → forIn (List.range' k n) (g k) f = (pure (g (k + n)) : Sem σ)
  | 0, k, _ => rfl
  | n + 1, k, h => by
    rw [List.range'_succ, List.forIn_cons, h k (Nat.le_refl _) (by omega), pure_bind]
    show forIn (List.range' (k + 1) n) (g (k + 1)) f = _
    rw [forIn_run f g n (k + 1) fun i h1 h2 => h i (by omega) (by omega)]
    congr 2
    omega
theorem run_ascii {id : String} {b : Array UInt8} (h : ∀ c ∈ b.toList, c.toNat < 128) (hsz : b.size ≤ 1000) :
    _codecs.runDecoder id _codecs.asciiDecoder none true b 0 [] = pure ((b.toList.map (·.toNat)).toArray, b.size) := by
  unfold _codecs.runDecoder
  dsimp only
  rw [Std.Legacy.Range.forIn_eq_forIn_range']
  have e : Std.Legacy.Range.size [:b.size] = b.size := by simp [Std.Legacy.Range.size]
  rw [e]
  refine (congrArg (fun z : Sem (Nat × Array Nat × _codecs.Faults) => z >>= fun s => pure (s.2.1, s.1)) (forIn_run _ (fun i => (i, (((b.toList.take i).map (·.toNat)).toArray, ({} : _codecs.Faults)))) b.size 0 (fun i h1 h2 => ?_))).trans ?_
  · have hi : i < b.size := by omega
    have hc : (b.getD i 0).toNat < 128 := by
      have : b.getD i 0 = b.toList[i]'(by simpa using hi) := by simp [Array.getD, hi]
      rw [this]; exact h _ (List.getElem_mem _)
    have hs : ¬ (((b.toList.take i).map (·.toNat)).toArray.size > sizeLine) := by
      rw [sizeLine_eq]; simp; omega
    have hp : ¬ (i ≥ b.size) := by omega
    have hfind : _codecs.asciiDecoder.find true b i = .text [(b.getD i 0).toNat] (i + 1) := by
      show (let c := (b.getD i 0).toNat; if c < 128 then _codecs.Found.char c (i + 1) else _) = _
      rw [if_pos hc]; rfl
    dsimp only
    rw [if_neg hs, if_neg hp, hfind]
    dsimp only
    congr 4
    rw [List.take_add_one]
    have : b.toList[i]? = some (b.getD i 0) := by simp [Array.getD, hi]
    rw [this]
    simp
  · rw [pure_bind]
    congr 2
    · rw [List.take_of_length_le (by simp)]
    · simp
theorem text_ascii {b : Array UInt8} {t t1 t2 : Tok} {x : PySem.Str} {n : Nat} {d : PySem.Str} (hd : ∀ id, _codecs.runDecoder id _codecs.asciiDecoder none true b 0 [] = pure (x.cps, n)) :
    Meets («_codecs.decode.text» ⟨[.bytes b t, .str (PySem.Str.ofString "ascii") t1, .none, .str d t2], []⟩) (fun _ R s => x.length ≤ sizeLine ∧ R (.ok (.ret (.str x s.toks))) { s with toks := s.toks + 1 }) := by
  refine .of_wp fun prog w A R s hS => ?_
  show wpAny _ _ (Bytes.bytesLike _ (.bytes b t) >>= fun r => _) _ _ s
  refine wpAny_bind (wpAny_of_eq KBd.like_eq (wpAny_bind (wpAny_of_eq KBd.held_eq ?_)))
  show wpAny _ _ (_codecs.decodeRoad _ b (PySem.Str.ofString "ascii") none [] >>= fun v => _) _ _ s
  rw [road_ascii, hd]
  exact wpAny_bind (wpAny_bind (wpAny_pure (wpAny_mkStr (wpAny_pure ⟨_, rfl, hS.2⟩) hS.1)))
theorem args_decode2 (a b : Value) : argsOk "bytes.decode" ⟨[a, b], []⟩ := by
  unfold argsOk; rw [signature?_of (id := "bytes.decode") (n := ['e', 'd', 'o', 'c', 'e', 'd']) (o := ['s', 'e', 't', 'y', 'b']) (by kernel_rfl) FB.owner_bytes]; kernel_rfl
theorem decode_ascii {c : UInt8} {cs : List UInt8} {t u : Tok} {x : PySem.Str} {n : Nat} (hd : ∀ id, _codecs.runDecoder id _codecs.asciiDecoder none true (c :: cs).toArray 0 [] = pure (x.cps, n)) :
    Meets («bytes.decode» ⟨[.bytes (c :: cs).toArray t, .str (PySem.Str.ofString "ascii") u], []⟩) (fun _ R s => x.length ≤ sizeLine ∧ ∀ t' k, R (.ok (.ret (.str x t'))) { s with toks := k }) := by
  refine .of_wp fun prog w A R s hS => ?_
  rw [entry_ascii]
  refine wpAny_bind (wpAny_mkStr (wpAny_bind (wpAny_mkStr (wpAny_bind (wpAny_mkStr ?_ (by decide))) (by decide))) (by decide))
  exact wpAny_bind (call_function_meets KBd.kind_text KBd.plain_text KBd.entry_text (KBd.args_text _ _ _ _) (text_ascii hd) ⟨hS.1, wpAny_pure ⟨_, rfl, hS.2 _ _⟩⟩)
theorem call_ascii {prog : Program} {w : World} {A : Around} {E : Value → Shared → Prop} {s : Shared} {bs : List UInt8} {t u : Tok} {Q : Value → Shared → Prop} (hb : ∀ c ∈ bs, c.toNat < 128) (hsz : bs.length ≤ 1000) (h0 : 0 < bs.length)
    (h : ∀ t' k, Q (.str ⟨(bs.map (·.toNat)).toArray⟩ t') { s with toks := k }) :
    wpAny (model prog w) A (call (.builtin "bytes.decode") [.bytes bs.toArray t, .str (PySem.Str.ofString "ascii") u]) Q E s := by
  obtain ⟨c, cs, rfl⟩ : ∃ c cs, bs = c :: cs := by
    cases bs with
    | nil => cases h0
    | cons c cs => exact ⟨c, cs, rfl⟩
  refine call_meets FB.slot_bytes_decode (W.typeIs_bytes _ _ _) FB.entry_bytes_decode (args_decode2 _ _) (decode_ascii (x := ⟨((c :: cs).map (·.toNat)).toArray⟩) (n := (c :: cs).toArray.size) fun id => ?_) ⟨?_, h⟩
  · have := run_ascii (id := id) (b := (c :: cs).toArray) (by simpa using hb) (by simpa using hsz)
    simpa using this
  · rw [sizeLine_eq]
    show ((c :: cs).map (·.toNat)).toArray.size ≤ _
    simp at hsz ⊢; omega
theorem apB_text (ds : List Nat) (h : ∀ d ∈ ds, d < 16) : (⟨((apB ds).map (·.toNat)).toArray⟩ : PySem.Str) = lettersOf ds ∧ ∀ c ∈ apB ds, c.toNat < 128 := by
  have e : ∀ d : Nat, d < 16 → (UInt8.ofNat (65 + d)).toNat = 65 + d := by decide
  constructor
  · unfold lettersOf apB
    congr 2
    rw [List.map_map]
    exact List.map_congr_left fun d hd => e d (h d hd)
  · intro c hc
    unfold apB at hc
    obtain ⟨d, hd, rfl⟩ := List.mem_map.mp hc
    rw [e d (h d hd)]
    have := h d hd
    omega
end Mine
end

section  -- L6
open PySem PySem.W PySem.Calls PyProof.Rows
set_option maxRecDepth 100000
set_option maxHeartbeats 1000000
namespace Mine
open LCg
theorem law_6 {w : World} {base : Heap} {L f : Addr} {cd : Value} {s : Shared} {m : Str → Option Value} {o1 o2 o3 o4 : Obj} {Q : Flow → Shared → Prop} {line col : Int} {tl tc tn ts u : Tok} {n : Nat}
    {pr : Program} {loose : List Str} {mean : ExcName → Option Value} {mg mb : Str → Option Value}
    (G : GI w base) (TB : Top pr loose mean mg mb base) (hd2 : o2.data = .cell (some (.int (n : Int) tn))) (hd3 : o3.data = .cell (some (.int ((hexN n).length : Int) ts))) (hlen : (hexN n).length ≤ 18) (hn : Hid (n < 16 ^ 18))
    (e1 : m (Str.ofString "line") = some (.int line tl)) (e2 : m (Str.ofString "col") = some (.int col tc)) (e3 : m (Str.ofString "written") = some (.bytes (apB (hexN n)).toArray u)) (F : Fr base L s.heap m)
    (N : News base L s.heap [(L + 1 + 1 + 1 + 1, o4), (L + 1 + 1 + 1, o3), (L + 1 + 1, o2), (L + 1, o1), (37, tabObj #[]), (44, tabObj #[])])
    (next : ∀ h' tk m', m' (Str.ofString "line") = some (.int line tl) → m' (Str.ofString "col") = some (.int col tc) → m' (Str.ofString "written") = some (.bytes (apB (hexN n)).toArray u) → Fr base L h' m' →
      News base L h' [(L + 1 + 1 + 1 + 1, o4), (L + 1 + 1 + 1, o3), (L + 1 + 1, o2), (L + 1, o1), (37, tabObj #[]), (44, tabObj #[])] →
      wpAny (model PR w) (callerA.deeper (lawEnv L f cd)) (execs (lawDef.1.drop 9) (lawEnv L f cd)) Q (fun _ _ => False) { s with heap := h', toks := tk }) :
    wpAny (model PR w) (callerA.deeper (lawEnv L f cd)) (execs (lawDef.1.drop 8) (lawEnv L f cd)) Q (fun _ _ => False) s := by
  obtain ⟨mg', mb', TT⟩ := G.T
  have X := G.K
  replace F := Fr.setL F [(Str.ofString "line", .int line tl), (Str.ofString "col", .int col tc), (Str.ofString "written", .bytes (apB (hexN n)).toArray u)] (fcC e1 (fcC e2 (fcC e3 fcN)))
  clear e1 e2 e3
  unfold lawEnv
  conv in lawDef.1.drop 8 => whnf
  conv in (occs := *) lawDef.2 => all_goals whnf
  w_on
  have : (fun P : Params => hd.heap_39 P) = hd.heap_39 ∧ PySem.Challenge.rw_pg0028_01 = PySem.Challenge.rw_pg0028_01 := by k_fill; exact ⟨rfl, rfl⟩
  clear this
  have hn0 : (0 : Int) ≤ (n : Int) := by omega
  have hnb : (n : Int) < 16 ^ 18 := by have := hn.out; omega
  walk1
  (repeat' (first | ((fail_if_success (with_reducible show wpAny _ _ (execs (_ :: _) _) _ _ _)); (fail_if_success (with_reducible show wpAny _ _ (exec (Stmt.For _ _ _ _ _) _) _ _ _)); (fail_if_success (with_reducible show wpAny _ _ (exec (Stmt.While _ _ _ _) _) _ _ _)); (fail_if_success (with_reducible show wpAny _ _ (exec (Stmt.Assign _ (Expr.ListComp _ _ _ _) _) _) _ _ _)); (fail_if_success (with_reducible show wpAny _ _ (pyIter _) _ _ _)); (fail_if_success (with_reducible show wpAny _ _ (eval (Expr.ListComp _ _ _ _) _) _ _ _)); (fail_if_success (with_reducible show wpAny _ _ (subscriptTail _ _ _ _) _ _ _)); (fail_if_success (with_reducible show wpAny _ _ (newList _) _ _ _)); (fail_if_success (with_reducible show wpAny _ _ (call (Value.ref _) _) _ _ _)); (fail_if_success (with_reducible show wpAny _ _ (call (Value.builtin _) _) _ _ _)); (fail_if_success (with_reducible show wpAny _ _ (compareOp _ (Value.ref _) (Value.ref _)) _ _ _)); (first | walk1 | (dsimp only; walk1)))))
  refine call_type_of (Tx := "bytes") rfl (by rfl) ?_
  (repeat' (first | ((fail_if_success (with_reducible show wpAny _ _ (execs (_ :: _) _) _ _ _)); (fail_if_success (with_reducible show wpAny _ _ (exec (Stmt.For _ _ _ _ _) _) _ _ _)); (fail_if_success (with_reducible show wpAny _ _ (exec (Stmt.While _ _ _ _) _) _ _ _)); (fail_if_success (with_reducible show wpAny _ _ (exec (Stmt.Assign _ (Expr.ListComp _ _ _ _) _) _) _ _ _)); (fail_if_success (with_reducible show wpAny _ _ (pyIter _) _ _ _)); (fail_if_success (with_reducible show wpAny _ _ (eval (Expr.ListComp _ _ _ _) _) _ _ _)); (fail_if_success (with_reducible show wpAny _ _ (subscriptTail _ _ _ _) _ _ _)); (fail_if_success (with_reducible show wpAny _ _ (newList _) _ _ _)); (fail_if_success (with_reducible show wpAny _ _ (call (Value.ref _) _) _ _ _)); (fail_if_success (with_reducible show wpAny _ _ (call (Value.builtin _) _) _ _ _)); (fail_if_success (with_reducible show wpAny _ _ (compareOp _ (Value.ref _) (Value.ref _)) _ _ _)); (first | walk1 | (dsimp only; walk1)))))
  refine ListComp_I (h₀ := base) (L := L) (m := setL m [(Str.ofString "line", .int line tl), (Str.ofString "col", .int col tc), (Str.ofString "written", .bytes (apB (hexN n)).toArray u)]) (by rfl) (by decide) (by rfl) (by decide) (by rfl) ?_
  (repeat' (first | ((fail_if_success (with_reducible show wpAny _ _ (execs (_ :: _) _) _ _ _)); (fail_if_success (with_reducible show wpAny _ _ (exec (Stmt.For _ _ _ _ _) _) _ _ _)); (fail_if_success (with_reducible show wpAny _ _ (exec (Stmt.While _ _ _ _) _) _ _ _)); (fail_if_success (with_reducible show wpAny _ _ (exec (Stmt.Assign _ (Expr.ListComp _ _ _ _) _) _) _ _ _)); (fail_if_success (with_reducible show wpAny _ _ (pyIter _) _ _ _)); (fail_if_success (with_reducible show wpAny _ _ (eval (Expr.ListComp _ _ _ _) _) _ _ _)); (fail_if_success (with_reducible show wpAny _ _ (subscriptTail _ _ _ _) _ _ _)); (fail_if_success (with_reducible show wpAny _ _ (newList _) _ _ _)); (fail_if_success (with_reducible show wpAny _ _ (call (Value.ref _) _) _ _ _)); (fail_if_success (with_reducible show wpAny _ _ (call (Value.builtin _) _) _ _ _)); (fail_if_success (with_reducible show wpAny _ _ (compareOp _ (Value.ref _) (Value.ref _)) _ _ _)); (first | walk1 | (dsimp only; walk1)))))
  have F1 := (by assumption : Fr base L _ _)
  have N1 := (by assumption : News base L _ _)
  have R1 := (by assumption : IsRange _ _ _ _ _ _ _ _)
  refine compIt_range (n := (hexN n).length) (by rfl) R1 (by rfl) (by omega) F1 (News.drop (news := [(L + 1 + 1 + 1 + 1, o4), (L + 1 + 1 + 1, o3), (L + 1 + 1, o2), (L + 1, o1), (37, tabObj #[]), (44, tabObj #[])]) N1 (fun p hp => ?_)) ?_
  · first | exact hp | exact .tail _ hp
  rintro s₂ ⟨h4, rfl⟩
  refine comp_restJ (fun i ys nw => nw = [(L + 1 + 1 + 1 + 1, o4), (L + 1 + 1 + 1, o3), (L + 1 + 1, o2), (L + 1, o1), (37, tabObj #[]), (44, tabObj #[])] ∧ IntsAre ys ((List.range i).map fun k => ((65 + n / 16 ^ ((hexN n).length - 1 - k) % 16 : Nat) : Int))) ⟨rfl, .nil⟩ ?_ ?_
  · rintro i ys nw v I oI C oC D m₂ h5 tk5 E' hi ⟨rfl, hys⟩ ⟨_, tv, rfl⟩ hC hm₂ F5 N5 off ne
    clear F1 N1 R1
    dsimp only
    (repeat' (first | ((fail_if_success (with_reducible show wpAny _ _ (eval (Expr.Name _ _) _) _ _ _)); (fail_if_success (with_reducible show wpAny _ _ (compareOp _ _ _) _ _ _)); (fail_if_success (with_reducible show wpAny _ _ (call (Value.ref _) _) _ _ _)); (first | walk1 | (dsimp only; walk1)))))
    refine lcf_cell N5 rfl (.tail _ (.tail _ (.tail _ (.tail _ (.tail _ (.head _)))))) hd2 ?_ rfl rfl
    (repeat' (first | ((fail_if_success (with_reducible show wpAny _ _ (eval (Expr.Name _ _) _) _ _ _)); (fail_if_success (with_reducible show wpAny _ _ (compareOp _ _ _) _ _ _)); (fail_if_success (with_reducible show wpAny _ _ (call (Value.ref _) _) _ _ _)); (first | walk1 | (dsimp only; walk1)))))
    refine lcf_cell N5 rfl (.tail _ (.tail _ (.tail _ (.tail _ (.head _))))) hd3 ?_ rfl rfl
    (repeat' (first | ((fail_if_success (with_reducible show wpAny _ _ (eval (Expr.Name _ _) _) _ _ _)); (fail_if_success (with_reducible show wpAny _ _ (compareOp _ _ _) _ _ _)); (fail_if_success (with_reducible show wpAny _ _ (call (Value.ref _) _) _ _ _)); (first | walk1 | (dsimp only; walk1)))))
    refine LCgL.ld_own N5 (.tail _ (.head _)) hC hm₂ ?_
    (repeat' (first | ((fail_if_success (with_reducible show wpAny _ _ (eval (Expr.Name _ _) _) _ _ _)); (fail_if_success (with_reducible show wpAny _ _ (compareOp _ _ _) _ _ _)); (fail_if_success (with_reducible show wpAny _ _ (call (Value.ref _) _) _ _ _)); (first | walk1 | (dsimp only; walk1)))))
    have ej : ((((hexN n).length : Nat) : Int) - 1 - (i : Int)).toNat = (hexN n).length - 1 - i := by omega
    rw [ej]
    refine fdiv_pow (by omega) ?_
    dsimp only
    have hq0 : (0 : Int) ≤ ((n / 16 ^ ((hexN n).length - 1 - i) : Nat) : Int) := Int.natCast_nonneg _
    generalize hq : n / 16 ^ ((hexN n).length - 1 - i) = q at hq0 ⊢
    have hq1 : (q : Int) < 16 ^ 18 := by
      have : q ≤ n := by rw [← hq]; exact Nat.div_le_self _ _
      omega
    (repeat' (first | ((fail_if_success (with_reducible show wpAny _ _ (eval (Expr.Name _ _) _) _ _ _)); (fail_if_success (with_reducible show wpAny _ _ (compareOp _ _ _) _ _ _)); (fail_if_success (with_reducible show wpAny _ _ (call (Value.ref _) _) _ _ _)); (first | walk1 | (dsimp only; walk1)))))
    dsimp only
    refine CompEnd.intro (by assumption) (by assumption) _ (fun p hp => hp) off trivial ⟨rfl, ?_⟩
    rw [List.range_succ, List.map_append]
    have ev : 65 + (q : Int).fmod 16 = ((65 + n / 16 ^ ((hexN n).length - 1 - i) % 16 : Nat) : Int) := by
      rw [hq, Int.fmod_eq_emod_of_nonneg _ (by decide)]; omega
    rw [ev]
    exact ints_snoc hys
  · rintro ys nw ⟨rfl, hys⟩
    intro D h6 tk6 F6 N6 _
    dsimp only
    (repeat' (first | ((fail_if_success (with_reducible show wpAny _ _ (execs (_ :: _) _) _ _ _)); (fail_if_success (with_reducible show wpAny _ _ (exec (Stmt.For _ _ _ _ _) _) _ _ _)); (fail_if_success (with_reducible show wpAny _ _ (exec (Stmt.While _ _ _ _) _) _ _ _)); (fail_if_success (with_reducible show wpAny _ _ (exec (Stmt.Assign _ (Expr.ListComp _ _ _ _) _) _) _ _ _)); (fail_if_success (with_reducible show wpAny _ _ (pyIter _) _ _ _)); (fail_if_success (with_reducible show wpAny _ _ (eval (Expr.ListComp _ _ _ _) _) _ _ _)); (fail_if_success (with_reducible show wpAny _ _ (subscriptTail _ _ _ _) _ _ _)); (fail_if_success (with_reducible show wpAny _ _ (newList _) _ _ _)); (fail_if_success (with_reducible show wpAny _ _ (call (Value.ref _) _) _ _ _)); (fail_if_success (with_reducible show wpAny _ _ (call (Value.builtin _) _) _ _ _)); (fail_if_success (with_reducible show wpAny _ _ (compareOp _ (Value.ref _) (Value.ref _)) _ _ _)); (first | walk1 | (dsimp only; walk1)))))
    have hbs : ((List.range (hexN n).length).map fun k => ((65 + n / 16 ^ ((hexN n).length - 1 - k) % 16 : Nat) : Int)) = (hexN n).map fun d => ((65 + d : Nat) : Int) := by
      conv => rhs; rw [← hexN_range n]
      rw [List.map_map]; rfl
    rw [hbs] at hys
    refine KBa.make_K (vs := ys) F6 N6 (by rfl) ⟨_, N6.get (.head _), rfl, _, rfl⟩ hys ?_ (by simp; omega) ?_
    · intro x hx
      obtain ⟨d, hd, rfl⟩ := List.mem_map.mp hx
      have := hexN_lt n d hd
      omega
    intro h7 t7 k7 F7 N7 _
    rw [bytes_hex]
    dsimp only
    clear F6 N6 F1 N1 R1
    (repeat' (first | ((fail_if_success (with_reducible show wpAny _ _ (execs (_ :: _) _) _ _ _)); (fail_if_success (with_reducible show wpAny _ _ (exec (Stmt.For _ _ _ _ _) _) _ _ _)); (fail_if_success (with_reducible show wpAny _ _ (exec (Stmt.While _ _ _ _) _) _ _ _)); (fail_if_success (with_reducible show wpAny _ _ (exec (Stmt.Assign _ (Expr.ListComp _ _ _ _) _) _) _ _ _)); (fail_if_success (with_reducible show wpAny _ _ (pyIter _) _ _ _)); (fail_if_success (with_reducible show wpAny _ _ (eval (Expr.ListComp _ _ _ _) _) _ _ _)); (fail_if_success (with_reducible show wpAny _ _ (subscriptTail _ _ _ _) _ _ _)); (fail_if_success (with_reducible show wpAny _ _ (newList _) _ _ _)); (fail_if_success (with_reducible show wpAny _ _ (call (Value.ref _) _) _ _ _)); (fail_if_success (with_reducible show wpAny _ _ (call (Value.builtin _) _) _ _ _)); (fail_if_success (with_reducible show wpAny _ _ (compareOp _ (Value.ref _) (Value.ref _)) _ _ _)); (first | walk1 | (dsimp only; walk1)))))
    · have hb := (by assumption : ((apB (hexN n)).toArray.toList != (apB (hexN n)).toArray.toList) = true)
      simp at hb
    · (repeat' (first | ((fail_if_success (with_reducible show wpAny _ _ (execs (_ :: _) _) _ _ _)); (fail_if_success (with_reducible show wpAny _ _ (exec (Stmt.For _ _ _ _ _) _) _ _ _)); (fail_if_success (with_reducible show wpAny _ _ (exec (Stmt.While _ _ _ _) _) _ _ _)); (fail_if_success (with_reducible show wpAny _ _ (exec (Stmt.Assign _ (Expr.ListComp _ _ _ _) _) _) _ _ _)); (fail_if_success (with_reducible show wpAny _ _ (pyIter _) _ _ _)); (fail_if_success (with_reducible show wpAny _ _ (eval (Expr.ListComp _ _ _ _) _) _ _ _)); (fail_if_success (with_reducible show wpAny _ _ (subscriptTail _ _ _ _) _ _ _)); (fail_if_success (with_reducible show wpAny _ _ (newList _) _ _ _)); (fail_if_success (with_reducible show wpAny _ _ (call (Value.ref _) _) _ _ _)); (fail_if_success (with_reducible show wpAny _ _ (call (Value.builtin _) _) _ _ _)); (fail_if_success (with_reducible show wpAny _ _ (compareOp _ (Value.ref _) (Value.ref _)) _ _ _)); (first | walk1 | (dsimp only; walk1)))))
      exact next _ _ _ rfl rfl rfl F7 (News.drop N7 (fun p hp => .tail _ hp))
end Mine
end

section  -- L7
open PySem PySem.W PySem.Calls PyProof.Rows
set_option maxRecDepth 100000
set_option maxHeartbeats 1000000
namespace Mine
open LCg
theorem law_7 {w : World} {base : Heap} {L f : Addr} {cd : Value} {s : Shared} {m : Str → Option Value} {o1 o2 o3 o4 : Obj} {Q : Flow → Shared → Prop} {line col : Int} {tl tc u : Tok} {n : Nat}
    {pr : Program} {loose : List Str} {mean : ExcName → Option Value} {mg mb : Str → Option Value}
    (G : GI w base) (TB : Top pr loose mean mg mb base) (hlen : (hexN n).length ≤ 18) (hpos : 0 < (hexN n).length)
    (e1 : m (Str.ofString "line") = some (.int line tl)) (e2 : m (Str.ofString "col") = some (.int col tc)) (e3 : m (Str.ofString "written") = some (.bytes (apB (hexN n)).toArray u)) (F : Fr base L s.heap m)
    (N : News base L s.heap [(L + 1 + 1 + 1 + 1, o4), (L + 1 + 1 + 1, o3), (L + 1 + 1, o2), (L + 1, o1), (37, tabObj #[]), (44, tabObj #[])])
    (next : ∀ h' tk tx P m', m' (Str.ofString "line") = some (.int line tl) → m' (Str.ofString "col") = some (.int col tc) → m' (Str.ofString "letters") = some (.str (lettersOf (hexN n)) tx) → m' (Str.ofString "places") = some (.ref P) → Fr base L h' m' →
      News base L h' [(P, W.listOf #[] 0), (L + 1 + 1 + 1 + 1, o4), (L + 1 + 1 + 1, o3), (L + 1 + 1, o2), (L + 1, o1), (37, tabObj #[]), (44, tabObj #[])] →
      wpAny (model PR w) (callerA.deeper (lawEnv L f cd)) (execs (lawDef.1.drop 11) (lawEnv L f cd)) Q (fun _ _ => False) { s with heap := h', toks := tk }) :
    wpAny (model PR w) (callerA.deeper (lawEnv L f cd)) (execs (lawDef.1.drop 9) (lawEnv L f cd)) Q (fun _ _ => False) s := by
  obtain ⟨mg', mb', TT⟩ := G.T
  have X := G.K
  replace F := Fr.setL F [(Str.ofString "line", .int line tl), (Str.ofString "col", .int col tc), (Str.ofString "written", .bytes (apB (hexN n)).toArray u)] (fcC e1 (fcC e2 (fcC e3 fcN)))
  clear e1 e2 e3
  unfold lawEnv
  conv in lawDef.1.drop 9 => whnf
  conv in (occs := *) lawDef.2 => all_goals whnf
  w_on
  have : (fun P : Params => hd.heap_39 P) = hd.heap_39 ∧ PySem.Challenge.rw_pg0028_01 = PySem.Challenge.rw_pg0028_01 := by k_fill; exact ⟨rfl, rfl⟩
  clear this
  walk1
  (repeat' (first | ((fail_if_success (with_reducible show wpAny _ _ (execs (_ :: _) _) _ _ _)); (fail_if_success (with_reducible show wpAny _ _ (exec (Stmt.For _ _ _ _ _) _) _ _ _)); (fail_if_success (with_reducible show wpAny _ _ (exec (Stmt.While _ _ _ _) _) _ _ _)); (fail_if_success (with_reducible show wpAny _ _ (exec (Stmt.Assign _ (Expr.ListComp _ _ _ _) _) _) _ _ _)); (fail_if_success (with_reducible show wpAny _ _ (pyIter _) _ _ _)); (fail_if_success (with_reducible show wpAny _ _ (eval (Expr.ListComp _ _ _ _) _) _ _ _)); (fail_if_success (with_reducible show wpAny _ _ (subscriptTail _ _ _ _) _ _ _)); (fail_if_success (with_reducible show wpAny _ _ (newList _) _ _ _)); (fail_if_success (with_reducible show wpAny _ _ (call (Value.ref _) _) _ _ _)); (fail_if_success (with_reducible show wpAny _ _ (call (Value.builtin _) _) _ _ _)); (fail_if_success (with_reducible show wpAny _ _ (compareOp _ (Value.ref _) (Value.ref _)) _ _ _)); (first | walk1 | (dsimp only; walk1)))))
  have hlt := hexN_lt n
  refine call_ascii (apB_text _ hlt).2 (by simp [apB]; omega) (by simpa [apB] using hpos) ?_
  intro t' k'
  rw [(apB_text _ hlt).1]
  dsimp only
  (repeat' (first | ((fail_if_success (with_reducible show wpAny _ _ (execs (_ :: _) _) _ _ _)); (fail_if_success (with_reducible show wpAny _ _ (exec (Stmt.For _ _ _ _ _) _) _ _ _)); (fail_if_success (with_reducible show wpAny _ _ (exec (Stmt.While _ _ _ _) _) _ _ _)); (fail_if_success (with_reducible show wpAny _ _ (exec (Stmt.Assign _ (Expr.ListComp _ _ _ _) _) _) _ _ _)); (fail_if_success (with_reducible show wpAny _ _ (pyIter _) _ _ _)); (fail_if_success (with_reducible show wpAny _ _ (eval (Expr.ListComp _ _ _ _) _) _ _ _)); (fail_if_success (with_reducible show wpAny _ _ (subscriptTail _ _ _ _) _ _ _)); (fail_if_success (with_reducible show wpAny _ _ (newList _) _ _ _)); (fail_if_success (with_reducible show wpAny _ _ (call (Value.ref _) _) _ _ _)); (fail_if_success (with_reducible show wpAny _ _ (call (Value.builtin _) _) _ _ _)); (fail_if_success (with_reducible show wpAny _ _ (compareOp _ (Value.ref _) (Value.ref _)) _ _ _)); (first | walk1 | (dsimp only; walk1)))))
  walk1
  walk1
  (repeat' (first | ((fail_if_success (with_reducible show wpAny _ _ (execs (_ :: _) _) _ _ _)); (fail_if_success (with_reducible show wpAny _ _ (exec (Stmt.For _ _ _ _ _) _) _ _ _)); (fail_if_success (with_reducible show wpAny _ _ (exec (Stmt.While _ _ _ _) _) _ _ _)); (fail_if_success (with_reducible show wpAny _ _ (exec (Stmt.Assign _ (Expr.ListComp _ _ _ _) _) _) _ _ _)); (fail_if_success (with_reducible show wpAny _ _ (pyIter _) _ _ _)); (fail_if_success (with_reducible show wpAny _ _ (eval (Expr.ListComp _ _ _ _) _) _ _ _)); (fail_if_success (with_reducible show wpAny _ _ (subscriptTail _ _ _ _) _ _ _)); (fail_if_success (with_reducible show wpAny _ _ (newList _) _ _ _)); (fail_if_success (with_reducible show wpAny _ _ (call (Value.ref _) _) _ _ _)); (fail_if_success (with_reducible show wpAny _ _ (call (Value.builtin _) _) _ _ _)); (fail_if_success (with_reducible show wpAny _ _ (compareOp _ (Value.ref _) (Value.ref _)) _ _ _)); (first | walk1 | (dsimp only; walk1)))))
  walk1
  (repeat' (first | ((fail_if_success (with_reducible show wpAny _ _ (execs (_ :: _) _) _ _ _)); (fail_if_success (with_reducible show wpAny _ _ (exec (Stmt.For _ _ _ _ _) _) _ _ _)); (fail_if_success (with_reducible show wpAny _ _ (exec (Stmt.While _ _ _ _) _) _ _ _)); (fail_if_success (with_reducible show wpAny _ _ (exec (Stmt.Assign _ (Expr.ListComp _ _ _ _) _) _) _ _ _)); (fail_if_success (with_reducible show wpAny _ _ (pyIter _) _ _ _)); (fail_if_success (with_reducible show wpAny _ _ (eval (Expr.ListComp _ _ _ _) _) _ _ _)); (fail_if_success (with_reducible show wpAny _ _ (subscriptTail _ _ _ _) _ _ _)); (fail_if_success (with_reducible show wpAny _ _ (newList _) _ _ _)); (fail_if_success (with_reducible show wpAny _ _ (call (Value.ref _) _) _ _ _)); (fail_if_success (with_reducible show wpAny _ _ (call (Value.builtin _) _) _ _ _)); (fail_if_success (with_reducible show wpAny _ _ (compareOp _ (Value.ref _) (Value.ref _)) _ _ _)); (first | walk1 | (dsimp only; walk1)))))
  have F1 := (by assumption : Fr base L _ _)
  have N1 := (by assumption : News base L _ _)
  exact next _ _ _ _ _ rfl rfl rfl rfl F1 N1
end Mine
end

section  -- T1
open PySem PySem.W PySem.Calls PyProof.Rows
set_option maxRecDepth 100000
set_option maxHeartbeats 1000000
namespace Mine
open LCg
noncomputable def loopBody : List Stmt := match (lawDef.1[11]? : Option Stmt) with | some (Stmt.For _ _ body _ _) => body | _ => []
theorem newsOf {h₀ h h' : Heap} {L : Addr} {m : Str → Option Value} {S : List (Addr × Obj)} (F : Fr h₀ L h m) (s : Sub S h') (fr : Fresh S h) : News h₀ L h' S := fun q hq => by
  have z := fr q hq
  refine ⟨s q hq, fun e => ?_, ?_⟩
  · obtain ⟨o, _, _, ho, _⟩ := F.ns
    rw [e, ho] at z; cases z
  · cases e : h₀.get? q.1 with
    | none => rfl
    | some o => rw [F.keep _ _ e] at z; cases z
theorem freshNe {h : Heap} {S : List (Addr × Obj)} {a : Addr} {o : Obj} (fr : Fresh S h) (e : h.get? a = some o) : ∀ q ∈ S, q.1 ≠ a := fun q hq e' => by
  have z := fr q hq
  rw [e', e] at z; cases z
theorem News.both {h₀ h : Heap} {L : Addr} {a b : List (Addr × Obj)} (x : News h₀ L h a) (y : News h₀ L h b) : News h₀ L h (a ++ b) := fun p hp => (List.mem_append.mp hp).elim (x p) (y p)
theorem IsHitOpt.mono {C C' : Heap → Prop} {its : List Value} {v : Value} {r : Option Int} (x : IsHitOpt C its v r) (k : ∀ h, C' h → C h) : IsHitOpt C' its v r := by
  cases r with
  | none => exact x
  | some p =>
    obtain ⟨a, e, m, q⟩ := x
    exact ⟨a, e, m, fun h y => q h (k h y)⟩
theorem turn_A {w : World} {base : Heap} {L f : Addr} {cd : Value} {s : Shared} {m : Str → Option Value} {P : Addr} {o4 : Obj} {v4 : Option Value} {S rest : List (Addr × Obj)} {ps37 ps44 : Array Value}
    {Q : Flow → Shared → Prop} {line col : Int} {tl tc tx te : Tok} {n e : Nat}
    {pr : Program} {loose : List Str} {mean : ExcName → Option Value} {mg mb : Str → Option Value}
    (G : GI w base) (M : Mod4 base) (TB : Top pr loose mean mg mb base) (hlen : (hexN n).length ≤ 18) (he : e ≤ (hexN n).length)
    (e1 : m (Str.ofString "line") = some (.int line tl)) (e2 : m (Str.ofString "col") = some (.int col tc)) (e3 : m (Str.ofString "letters") = some (.str (lettersOf (hexN n)) tx)) (e4 : m (Str.ofString "places") = some (.ref P)) (e5 : m (Str.ofString "end") = some (.int (e : Int) te)) (F : Fr base L s.heap m)
    (hd4 : o4.data = .cell v4) (T37 : T37S ps37 (Sub S)) (T44 : T44S ps44 (Sub S)) (hSr : ∀ q ∈ S, q ∈ rest) (hr : ∀ q ∈ rest, q.1 ∉ [37, 44, L + 1 + 1 + 1 + 1])
    (N : News base L s.heap ((37, tabObj ps37) :: (44, tabObj ps44) :: (L + 1 + 1 + 1 + 1, o4) :: rest))
    (next : ∀ h' tk v gl its nn' ps37' ps44' o4' S1 m', m' (Str.ofString "line") = some (.int line tl) → m' (Str.ofString "col") = some (.int col tc) → m' (Str.ofString "letters") = some (.str (lettersOf (hexN n)) tx) → m' (Str.ofString "places") = some (.ref P) → m' (Str.ofString "end") = some (.int (e : Int) te) →
      m' (Str.ofString "given") = some (.ref gl) → Fr base L h' m' → o4'.data = .cell (some v) → IsHitOpt (Sub (S1 ++ S)) its v (revSpec (lettersOf (hexN n)) e) → AllHits (Sub (S1 ++ S)) [] its → its.length ≤ 201 →
      (∀ p ∈ rest, p.1 ≠ gl) → (∀ q ∈ S1, q.1 ∉ [gl, 37, 44, L + 1 + 1 + 1 + 1]) → (∀ q ∈ S1, ∀ p ∈ rest, q.1 ≠ p.1) → T37S ps37' (Sub (S1 ++ S)) → T44S ps44' (Sub (S1 ++ S)) →
      News base L h' ((gl, W.listOf its.toArray nn') :: (37, tabObj ps37') :: (44, tabObj ps44') :: (L + 1 + 1 + 1 + 1, o4') :: (S1 ++ rest)) →
      wpAny (model PR w) (callerA.deeper (lawEnv L f cd)) (execs (loopBody.drop 2) (lawEnv L f cd)) Q (fun _ _ => False) { s with heap := h', toks := tk }) :
    wpAny (model PR w) (callerA.deeper (lawEnv L f cd)) (execs loopBody (lawEnv L f cd)) Q (fun _ _ => False) s := by
  obtain ⟨mg', mb', TT⟩ := G.T
  have X := G.K
  replace F := Fr.setL F [(Str.ofString "line", .int line tl), (Str.ofString "col", .int col tc), (Str.ofString "letters", .str (lettersOf (hexN n)) tx), (Str.ofString "places", .ref P), (Str.ofString "end", .int (e : Int) te)] (fcC e1 (fcC e2 (fcC e3 (fcC e4 (fcC e5 fcN)))))
  clear e1 e2 e3 e4 e5
  unfold lawEnv
  conv in loopBody => whnf
  conv in (occs := *) lawDef.2 => all_goals whnf
  w_on
  have : (fun P : Params => hd.heap_39 P) = hd.heap_39 ∧ PySem.Challenge.rw_pg0028_01 = PySem.Challenge.rw_pg0028_01 := by k_fill; exact ⟨rfl, rfl⟩
  clear this
  walk1
  (repeat' (first | ((fail_if_success (with_reducible show wpAny _ _ (execs (_ :: _) _) _ _ _)); (fail_if_success (with_reducible show wpAny _ _ (exec (Stmt.For _ _ _ _ _) _) _ _ _)); (fail_if_success (with_reducible show wpAny _ _ (exec (Stmt.While _ _ _ _) _) _ _ _)); (fail_if_success (with_reducible show wpAny _ _ (exec (Stmt.Assign _ (Expr.ListComp _ _ _ _) _) _) _ _ _)); (fail_if_success (with_reducible show wpAny _ _ (pyIter _) _ _ _)); (fail_if_success (with_reducible show wpAny _ _ (eval (Expr.ListComp _ _ _ _) _) _ _ _)); (fail_if_success (with_reducible show wpAny _ _ (subscriptTail _ _ _ _) _ _ _)); (fail_if_success (with_reducible show wpAny _ _ (newList _) _ _ _)); (fail_if_success (with_reducible show wpAny _ _ (call (Value.ref _) _) _ _ _)); (fail_if_success (with_reducible show wpAny _ _ (call (Value.builtin _) _) _ _ _)); (fail_if_success (with_reducible show wpAny _ _ (compareOp _ (Value.ref _) (Value.ref _)) _ _ _)); (first | walk1 | (dsimp only; walk1)))))
  refine newList_K F N ?_ (Nat.zero_le _)
  intro gl h1 F1 N1 hlt
  dsimp only
  (repeat' (first | ((fail_if_success (with_reducible show wpAny _ _ (execs (_ :: _) _) _ _ _)); (fail_if_success (with_reducible show wpAny _ _ (exec (Stmt.For _ _ _ _ _) _) _ _ _)); (fail_if_success (with_reducible show wpAny _ _ (exec (Stmt.While _ _ _ _) _) _ _ _)); (fail_if_success (with_reducible show wpAny _ _ (exec (Stmt.Assign _ (Expr.ListComp _ _ _ _) _) _) _ _ _)); (fail_if_success (with_reducible show wpAny _ _ (pyIter _) _ _ _)); (fail_if_success (with_reducible show wpAny _ _ (eval (Expr.ListComp _ _ _ _) _) _ _ _)); (fail_if_success (with_reducible show wpAny _ _ (subscriptTail _ _ _ _) _ _ _)); (fail_if_success (with_reducible show wpAny _ _ (newList _) _ _ _)); (fail_if_success (with_reducible show wpAny _ _ (call (Value.ref _) _) _ _ _)); (fail_if_success (with_reducible show wpAny _ _ (call (Value.builtin _) _) _ _ _)); (fail_if_success (with_reducible show wpAny _ _ (compareOp _ (Value.ref _) (Value.ref _)) _ _ _)); (first | walk1 | (dsimp only; walk1)))))
  walk1
  walk1
  (repeat' (first | ((fail_if_success (with_reducible show wpAny _ _ (execs (_ :: _) _) _ _ _)); (fail_if_success (with_reducible show wpAny _ _ (exec (Stmt.For _ _ _ _ _) _) _ _ _)); (fail_if_success (with_reducible show wpAny _ _ (exec (Stmt.While _ _ _ _) _) _ _ _)); (fail_if_success (with_reducible show wpAny _ _ (exec (Stmt.Assign _ (Expr.ListComp _ _ _ _) _) _) _ _ _)); (fail_if_success (with_reducible show wpAny _ _ (pyIter _) _ _ _)); (fail_if_success (with_reducible show wpAny _ _ (eval (Expr.ListComp _ _ _ _) _) _ _ _)); (fail_if_success (with_reducible show wpAny _ _ (subscriptTail _ _ _ _) _ _ _)); (fail_if_success (with_reducible show wpAny _ _ (newList _) _ _ _)); (fail_if_success (with_reducible show wpAny _ _ (call (Value.ref _) _) _ _ _)); (fail_if_success (with_reducible show wpAny _ _ (call (Value.builtin _) _) _ _ _)); (fail_if_success (with_reducible show wpAny _ _ (compareOp _ (Value.ref _) (Value.ref _)) _ _ _)); (first | walk1 | (dsimp only; walk1)))))
  have F2 := (by assumption : Fr base L _ _)
  have N2 := (by assumption : News base L _ ((gl, _) :: _))
  (try clear F1); (try clear N1); (try clear F); (try clear N)
  have g37 : (37 : Nat) ≠ gl := Nat.ne_of_lt (hlt _ (.head _))
  have g44 : (44 : Nat) ≠ gl := Nat.ne_of_lt (hlt _ (.tail _ (.head _)))
  have g4 : L + 1 + 1 + 1 + 1 ≠ gl := Nat.ne_of_lt (hlt _ (.tail _ (.tail _ (.head _))))
  have hrg : ∀ q ∈ rest, q.1 ≠ gl := fun q hq => Nat.ne_of_lt (hlt q (.tail _ (.tail _ (.tail _ hq))))
  clear hlt
  have n37 := N2 (37, tabObj ps37) (.tail _ (.head _))
  have n44 := N2 (44, tabObj ps44) (.tail _ (.tail _ (.head _)))
  have n4 := N2 (L + 1 + 1 + 1 + 1, o4) (.tail _ (.tail _ (.tail _ (.head _))))
  have ngl := N2 (gl, W.listOf #[] 0) (.head _)
  have c37 : (37 : Nat) ≠ L + 1 + 1 + 1 + 1 := apartK N2 (.tail _ (.tail _ (.tail _ (.head _)))) hd4 (.tail _ (.head _)) (fun u h => nomatch h)
  have c44 : (44 : Nat) ≠ L + 1 + 1 + 1 + 1 := apartK N2 (.tail _ (.tail _ (.tail _ (.head _)))) hd4 (.tail _ (.tail _ (.head _))) (fun u h => nomatch h)
  refine fin_c (X.keeps F2.keep) (let ⟨sl, e⟩ := M; ⟨sl, F2.keep _ _ e⟩) n44.1 T44 (by rfl) (Nat.le_of_ble_eq_true rfl) (Nat.le_of_ble_eq_true rfl) ?_
  intro fa h3 tk3 S1 ps44' kb1 sb1 fr1 e44 T44' FA
  dsimp only
  have f37 := freshNe fr1 n37.1
  have f44 := freshNe fr1 n44.1
  have f4 := freshNe fr1 n4.1
  have fgl := freshNe fr1 ngl.1
  have fr := fun p hp => freshNe fr1 (N2 p (.tail _ (.tail _ (.tail _ (.tail _ hp))))).1
  have F3 := Fr.intoBut F2 kb1 (fun hm => n44.2.1 (List.mem_singleton.mp hm).symm) (fun q hm => by rw [List.mem_singleton.mp hm]; exact n44.2.2)
  have N3 : News base L h3 ((gl, W.listOf #[] 0) :: (37, tabObj ps37) :: (44, tabObj ps44') :: (L + 1 + 1 + 1 + 1, o4) :: (S1 ++ rest)) :=
    List.forall_mem_cons.mpr ⟨⟨kb1 _ _ (fun hm => g44 (List.mem_singleton.mp hm).symm) ngl.1, ngl.2⟩, List.forall_mem_cons.mpr ⟨⟨kb1 _ _ (fun hm => absurd (show (37 : Nat) = 44 from List.mem_singleton.mp hm) (by decide)) n37.1, n37.2⟩,
      List.forall_mem_cons.mpr ⟨⟨e44, n44.2⟩, List.forall_mem_cons.mpr ⟨⟨kb1 _ _ (fun hm => c44 (List.mem_singleton.mp hm).symm) n4.1, n4.2⟩,
        News.both (newsOf F2 sb1 fr1) (News.intoBut (News.drop N2 (fun p hp => .tail _ (.tail _ (.tail _ (.tail _ hp))))) kb1 (fun p hp hm => hr p hp (by rw [List.mem_singleton.mp hm]; exact .tail _ (.head _))))⟩⟩⟩⟩
  clear N2 n37 n44 n4 ngl fr1 kb1 sb1 e44 F2
  (repeat' (first | ((fail_if_success (with_reducible show wpAny _ _ (execs (_ :: _) _) _ _ _)); (fail_if_success (with_reducible show wpAny _ _ (exec (Stmt.For _ _ _ _ _) _) _ _ _)); (fail_if_success (with_reducible show wpAny _ _ (exec (Stmt.While _ _ _ _) _) _ _ _)); (fail_if_success (with_reducible show wpAny _ _ (exec (Stmt.Assign _ (Expr.ListComp _ _ _ _) _) _) _ _ _)); (fail_if_success (with_reducible show wpAny _ _ (pyIter _) _ _ _)); (fail_if_success (with_reducible show wpAny _ _ (eval (Expr.ListComp _ _ _ _) _) _ _ _)); (fail_if_success (with_reducible show wpAny _ _ (subscriptTail _ _ _ _) _ _ _)); (fail_if_success (with_reducible show wpAny _ _ (newList _) _ _ _)); (fail_if_success (with_reducible show wpAny _ _ (call (Value.ref _) _) _ _ _)); (fail_if_success (with_reducible show wpAny _ _ (call (Value.builtin _) _) _ _ _)); (fail_if_success (with_reducible show wpAny _ _ (compareOp _ (Value.ref _) (Value.ref _)) _ _ _)); (first | walk1 | (dsimp only; walk1)))))
  have F4 := (by assumption : Fr base L _ _)
  have N4 := (by assumption : News base L _ ((gl, _) :: _))
  have n37 := N4 (37, tabObj ps37) (.tail _ (.head _))
  have n44 := N4 (44, tabObj ps44') (.tail _ (.tail _ (.head _)))
  have n4 := N4 (L + 1 + 1 + 1 + 1, o4) (.tail _ (.tail _ (.tail _ (.head _))))
  have ngl := N4 (gl, W.listOf #[] 0) (.head _)
  have nr : News base L _ (S1 ++ rest) := News.drop N4 (fun p hp => .tail _ (.tail _ (.tail _ (.tail _ hp))))
  have off : ∀ q ∈ S1 ++ rest, q.1 ∉ [37, gl] := fun q hq => (List.mem_append.mp hq).elim (fun hq => nin_cons (f37 q hq) (nin_cons (fgl q hq) nin_nil)) fun hq => nin_cons (fun e => hr q hq (by rw [e]; exact .head _)) (nin_cons (hrg q hq) nin_nil)
  have subS : ∀ q ∈ S1 ++ S, q ∈ S1 ++ rest := fun q hq => by
    rcases List.mem_append.mp hq with hq | hq
    · exact List.mem_append_left _ hq
    · exact List.mem_append_right _ (hSr q hq)
  refine wpAny_call (rev_c (its := []) (nn := 0) (C := Sub (S1 ++ S)) (G.keeps F4.keep) (let ⟨sl, e⟩ := M; ⟨sl, F4.keep _ _ e⟩) n37.1 (T37.mono fun h x => fun q hq => x q (List.mem_append_right _ hq)) (fun h k q hq => k _ _ (off q (subS q hq)) (nr q (subS q hq)).1) (Nat.le_of_ble_eq_true rfl) (Nat.le_of_ble_eq_true rfl)
    (FA _ (fun q hq => (nr q (subS q (List.mem_append_right _ hq))).1) (fun q hq => (nr q (List.mem_append_left _ hq)).1)) ngl.1 (Nat.zero_le _) (Int.natCast_nonneg _) (by omega) (by rw [lettersOf_length]; omega) ?_)
  intro v h5 tk5 S2 ps37' its' nn' kb2 sb2 fr2 e37 egl hlen2 T37' hit hall
  dsimp only
  have k37 := freshNe fr2 n37.1
  have k44 := freshNe fr2 n44.1
  have k4 := freshNe fr2 n4.1
  have kgl := freshNe fr2 ngl.1
  have kr := fun p hp => freshNe fr2 (nr p (List.mem_append_right _ hp)).1
  have F5 := Fr.intoBut F4 kb2 (nin_cons n37.2.1.symm (nin_cons ngl.2.1.symm nin_nil)) (List.forall_mem_cons.mpr ⟨n37.2.2, List.forall_mem_cons.mpr ⟨ngl.2.2, List.forall_mem_nil _⟩⟩)
  have N5 : News base L h5 ((gl, W.listOf its'.toArray nn') :: (37, tabObj ps37') :: (44, tabObj ps44') :: (L + 1 + 1 + 1 + 1, o4) :: ((S2 ++ S1) ++ rest)) :=
    List.forall_mem_cons.mpr ⟨⟨egl, ngl.2⟩, List.forall_mem_cons.mpr ⟨⟨e37, n37.2⟩, List.forall_mem_cons.mpr ⟨⟨kb2 _ _ (nin_cons (show (44 : Nat) ≠ 37 by decide) (nin_cons g44 nin_nil)) n44.1, n44.2⟩,
      List.forall_mem_cons.mpr ⟨⟨kb2 _ _ (nin_cons c37.symm (nin_cons g4 nin_nil)) n4.1, n4.2⟩, by rw [List.append_assoc]; exact News.both (newsOf F4 sb2 fr2) (News.intoBut nr kb2 off)⟩⟩⟩⟩
  clear N4 n37 n44 n4 ngl nr kb2 sb2 fr2 e37 egl off subS F4
  have hS : ∀ q ∈ S2 ++ S1, q.1 ∉ [gl, 37, 44, L + 1 + 1 + 1 + 1] := fun q hq => (List.mem_append.mp hq).elim
    (fun hq => nin_cons (kgl q hq) (nin_cons (k37 q hq) (nin_cons (k44 q hq) (nin_cons (k4 q hq) nin_nil))))
    fun hq => nin_cons (fgl q hq) (nin_cons (f37 q hq) (nin_cons (f44 q hq) (nin_cons (f4 q hq) nin_nil)))
  refine stCM ((gl, W.listOf its'.toArray nn') :: (37, tabObj ps37') :: (44, tabObj ps44') :: ((S2 ++ S1) ++ rest)) F5 N5 (c := L + 1 + 1 + 1 + 1) (o := o4) (.tail _ (.tail _ (.tail _ (.head _)))) hd4 rfl ?_ ?_ (by rfl) (by rfl)
  · refine List.forall_mem_cons.mpr ⟨⟨.head _, g4.symm⟩, List.forall_mem_cons.mpr ⟨⟨.tail _ (.head _), c37⟩, List.forall_mem_cons.mpr ⟨⟨.tail _ (.tail _ (.head _)), c44⟩, fun p hp => ⟨.tail _ (.tail _ (.tail _ (.tail _ hp))), fun e => ?_⟩⟩⟩⟩
    rcases List.mem_append.mp hp with hp | hp
    · exact hS p hp (by rw [e]; exact .tail _ (.tail _ (.tail _ (.head _))))
    · exact hr p hp (by rw [e]; exact .tail _ (.tail _ (.head _)))
  intro h6 o4' F6 N6 hd4'
  dsimp only
  (repeat' (first | ((fail_if_success (with_reducible show wpAny _ _ (execs (_ :: _) _) _ _ _)); (fail_if_success (with_reducible show wpAny _ _ (exec (Stmt.For _ _ _ _ _) _) _ _ _)); (fail_if_success (with_reducible show wpAny _ _ (exec (Stmt.While _ _ _ _) _) _ _ _)); (fail_if_success (with_reducible show wpAny _ _ (exec (Stmt.Assign _ (Expr.ListComp _ _ _ _) _) _) _ _ _)); (fail_if_success (with_reducible show wpAny _ _ (pyIter _) _ _ _)); (fail_if_success (with_reducible show wpAny _ _ (eval (Expr.ListComp _ _ _ _) _) _ _ _)); (fail_if_success (with_reducible show wpAny _ _ (subscriptTail _ _ _ _) _ _ _)); (fail_if_success (with_reducible show wpAny _ _ (newList _) _ _ _)); (fail_if_success (with_reducible show wpAny _ _ (call (Value.ref _) _) _ _ _)); (fail_if_success (with_reducible show wpAny _ _ (call (Value.builtin _) _) _ _ _)); (fail_if_success (with_reducible show wpAny _ _ (compareOp _ (Value.ref _) (Value.ref _)) _ _ _)); (first | walk1 | (dsimp only; walk1)))))
  have sub2 : ∀ h, Sub ((S2 ++ S1) ++ S) h → Sub (S1 ++ S) h ∧ Sub S2 h := fun h x => by
    rw [List.append_assoc] at x
    exact ⟨fun q hq => x q (List.mem_append_right _ hq), fun q hq => x q (List.mem_append_left _ hq)⟩
  refine next _ _ v gl its' nn' ps37' ps44' o4' (S2 ++ S1) _ ?_ ?_ ?_ ?_ ?_ ?_ F6 hd4' (hit.mono sub2) (hall.mono sub2) (by rw [List.length_nil, Nat.zero_add] at hlen2; exact hlen2) hrg hS (fun q hq p hp => ?_) (T37'.mono sub2) (T44'.mono fun h x => ⟨fun q hq => (sub2 h x).1 q (List.mem_append_right _ hq), fun q hq => (sub2 h x).1 q (List.mem_append_left _ hq)⟩) (News.drop N6 (by ((repeat (first | exact List.forall_mem_nil _ | refine List.forall_mem_cons.mpr (And.intro (by k_mem) ?_))); (try (intro p hp; repeat (first | assumption | refine List.Mem.tail _ ?_))))))
  · rfl
  · rfl
  · rfl
  · rfl
  · rfl
  · rfl
  · rcases List.mem_append.mp hq with hq | hq
    · exact kr p hp q hq
    · exact fr p hp q hq
end Mine
end

section  -- T2
open PySem PySem.W PySem.Calls PyProof.Rows
set_option maxRecDepth 100000
set_option maxHeartbeats 1000000
namespace Mine
open LCg LCt
theorem turn_B {w : World} {base : Heap} {L f : Addr} {cd : Value} {s : Shared} {m : Str → Option Value} {gl : Addr} {o4 : Obj} {S rest : List (Addr × Obj)} {its : List Value} {nn : Nat} {v : Value}
    {Q : Flow → Shared → Prop} {line col : Int} {tl tc tx te : Tok} {n e : Nat} {P : Addr}
    {pr : Program} {loose : List Str} {mean : ExcName → Option Value} {mg mb : Str → Option Value}
    (G : GI w base) (M : Mod4 base) (TB : Top pr loose mean mg mb base)
    (e1 : m (Str.ofString "line") = some (.int line tl)) (e2 : m (Str.ofString "col") = some (.int col tc)) (e3 : m (Str.ofString "letters") = some (.str (lettersOf (hexN n)) tx)) (e4 : m (Str.ofString "places") = some (.ref P)) (e5 : m (Str.ofString "end") = some (.int (e : Int) te)) (e6 : m (Str.ofString "given") = some (.ref gl)) (F : Fr base L s.heap m)
    (hd4 : o4.data = .cell (some v)) (hit : IsHitOpt (Sub S) its v (revSpec (lettersOf (hexN n)) e)) (hall : AllHits (Sub S) [] its) (hlen : its.length ≤ 201) (hSr : ∀ q ∈ S, q ∈ rest)
    (N : News base L s.heap ((gl, W.listOf its.toArray nn) :: (L + 1 + 1 + 1 + 1, o4) :: rest))
    (next : ∀ h' tk m', m' (Str.ofString "line") = some (.int line tl) → m' (Str.ofString "col") = some (.int col tc) → m' (Str.ofString "letters") = some (.str (lettersOf (hexN n)) tx) → m' (Str.ofString "places") = some (.ref P) → m' (Str.ofString "end") = some (.int (e : Int) te) →
      Fr base L h' m' → News base L h' ((gl, W.listOf its.toArray nn) :: (L + 1 + 1 + 1 + 1, o4) :: rest) →
      wpAny (model PR w) (callerA.deeper (lawEnv L f cd)) (execs (loopBody.drop 3) (lawEnv L f cd)) Q (fun _ _ => False) { s with heap := h', toks := tk }) :
    wpAny (model PR w) (callerA.deeper (lawEnv L f cd)) (execs (loopBody.drop 2) (lawEnv L f cd)) Q (fun _ _ => False) s := by
  obtain ⟨mg', mb', TT⟩ := G.T
  have X := G.K
  replace F := Fr.setL F [(Str.ofString "line", .int line tl), (Str.ofString "col", .int col tc), (Str.ofString "letters", .str (lettersOf (hexN n)) tx), (Str.ofString "places", .ref P), (Str.ofString "end", .int (e : Int) te), (Str.ofString "given", .ref gl)] (fcC e1 (fcC e2 (fcC e3 (fcC e4 (fcC e5 (fcC e6 fcN))))))
  clear e1 e2 e3 e4 e5 e6
  unfold lawEnv
  conv in loopBody.drop 2 => whnf
  conv in (occs := *) lawDef.2 => all_goals whnf
  w_on
  have : (fun P : Params => hd.heap_39 P) = hd.heap_39 ∧ PySem.Challenge.rw_pg0028_01 = PySem.Challenge.rw_pg0028_01 := by k_fill; exact ⟨rfl, rfl⟩
  clear this
  cases hr : revSpec (lettersOf (hexN n)) e with
  | none =>
    rw [hr] at hit
    have hv : v = .none := hit
    subst hv
    walk1
    (repeat' (first | ((fail_if_success (with_reducible show wpAny _ _ (execs (_ :: _) _) _ _ _)); (fail_if_success (with_reducible show wpAny _ _ (exec (Stmt.For _ _ _ _ _) _) _ _ _)); (fail_if_success (with_reducible show wpAny _ _ (exec (Stmt.While _ _ _ _) _) _ _ _)); (fail_if_success (with_reducible show wpAny _ _ (exec (Stmt.Assign _ (Expr.ListComp _ _ _ _) _) _) _ _ _)); (fail_if_success (with_reducible show wpAny _ _ (pyIter _) _ _ _)); (fail_if_success (with_reducible show wpAny _ _ (eval (Expr.ListComp _ _ _ _) _) _ _ _)); (fail_if_success (with_reducible show wpAny _ _ (subscriptTail _ _ _ _) _ _ _)); (fail_if_success (with_reducible show wpAny _ _ (newList _) _ _ _)); (fail_if_success (with_reducible show wpAny _ _ (call (Value.ref _) _) _ _ _)); (fail_if_success (with_reducible show wpAny _ _ (call (Value.builtin _) _) _ _ _)); (fail_if_success (with_reducible show wpAny _ _ (compareOp _ (Value.ref _) (Value.ref _)) _ _ _)); (first | walk1 | (dsimp only; walk1)))))
    exact next _ _ _ rfl rfl rfl rfl rfl F N
  | some p =>
    rw [hr] at hit
    obtain ⟨a, rfl, hmem, hat⟩ := hit
    walk1
    (repeat' (first | ((fail_if_success (with_reducible show wpAny _ _ (execs (_ :: _) _) _ _ _)); (fail_if_success (with_reducible show wpAny _ _ (exec (Stmt.For _ _ _ _ _) _) _ _ _)); (fail_if_success (with_reducible show wpAny _ _ (exec (Stmt.While _ _ _ _) _) _ _ _)); (fail_if_success (with_reducible show wpAny _ _ (exec (Stmt.Assign _ (Expr.ListComp _ _ _ _) _) _) _ _ _)); (fail_if_success (with_reducible show wpAny _ _ (pyIter _) _ _ _)); (fail_if_success (with_reducible show wpAny _ _ (eval (Expr.ListComp _ _ _ _) _) _ _ _)); (fail_if_success (with_reducible show wpAny _ _ (subscriptTail _ _ _ _) _ _ _)); (fail_if_success (with_reducible show wpAny _ _ (newList _) _ _ _)); (fail_if_success (with_reducible show wpAny _ _ (call (Value.ref _) _) _ _ _)); (fail_if_success (with_reducible show wpAny _ _ (call (Value.builtin _) _) _ _ _)); (fail_if_success (with_reducible show wpAny _ _ (compareOp _ (Value.ref _) (Value.ref _)) _ _ _)); (first | walk1 | (dsimp only; walk1)))))
    refine ListComp_T F (by rfl) (by decide) (by rfl) (by decide) (by rfl) ?_
    (repeat' (first | ((fail_if_success (with_reducible show wpAny _ _ (execs (_ :: _) _) _ _ _)); (fail_if_success (with_reducible show wpAny _ _ (exec (Stmt.For _ _ _ _ _) _) _ _ _)); (fail_if_success (with_reducible show wpAny _ _ (exec (Stmt.While _ _ _ _) _) _ _ _)); (fail_if_success (with_reducible show wpAny _ _ (exec (Stmt.Assign _ (Expr.ListComp _ _ _ _) _) _) _ _ _)); (fail_if_success (with_reducible show wpAny _ _ (pyIter _) _ _ _)); (fail_if_success (with_reducible show wpAny _ _ (eval (Expr.ListComp _ _ _ _) _) _ _ _)); (fail_if_success (with_reducible show wpAny _ _ (subscriptTail _ _ _ _) _ _ _)); (fail_if_success (with_reducible show wpAny _ _ (newList _) _ _ _)); (fail_if_success (with_reducible show wpAny _ _ (call (Value.ref _) _) _ _ _)); (fail_if_success (with_reducible show wpAny _ _ (call (Value.builtin _) _) _ _ _)); (fail_if_success (with_reducible show wpAny _ _ (compareOp _ (Value.ref _) (Value.ref _)) _ _ _)); (first | walk1 | (dsimp only; walk1)))))
    refine CompSrcT.ledger (its := its.toArray) (k := nn) (by rfl) F N (.head _) (by rw [sizeLine_eq]; simp; omega) (fun g => ?_)
    have hsz : its.toArray.size = its.length := by simp
    rw [hsz]
    refine comp_restT (fun i ys nw => nw = (gl, W.listOf its.toArray nn) :: (L + 1 + 1 + 1 + 1, o4) :: rest ∧ ys.length ≤ i ∧ ((∃ j, j < i ∧ its[j]? = some (Value.ref a)) → ys ≠ [])) ⟨rfl, by simp, by rintro ⟨j, hj, _⟩; omega⟩ ?_ ?_
    · rintro i ys nw v I oI C oC D m₂ h tk E' hi ⟨rfl, hyl, hys⟩ hv hC hm₂ F5 N5 off
      have hv' : its[i]? = some v := by simpa using hv
      obtain ⟨x, px, rfl, hx⟩ : ∃ x px, v = .ref x ∧ ∀ h, Sub S h → HitAt h x px := by
        rcases hall v (List.mem_of_getElem? hv') with q | q
        · cases q
        · exact q
      have hSn : Sub S h := fun q hq => (N5 q (.tail _ (.tail _ (.tail _ (.tail _ (.tail _ (hSr q hq))))))).1
      have ox := hx _ hSn
      have oa := hat _ hSn
      obtain ⟨_, _, _, _, _, _, _, _, _, _, _, _, _, ox, _⟩ := ox
      obtain ⟨_, _, _, _, _, _, _, _, _, _, _, _, _, oa, _⟩ := oa
      dsimp only
      (repeat' (first | ((fail_if_success (with_reducible show wpAny _ _ (eval (Expr.Name _ _) _) _ _ _)); (fail_if_success (with_reducible show wpAny _ _ (compareOp _ _ _) _ _ _)); (fail_if_success (with_reducible show wpAny _ _ (call (Value.ref _) _) _ _ _)); (first | walk1 | (dsimp only; walk1)))))
      refine LCgL.ld_own N5 (.tail _ (.head _)) hC hm₂ ?_
      (repeat' (first | ((fail_if_success (with_reducible show wpAny _ _ (eval (Expr.Name _ _) _) _ _ _)); (fail_if_success (with_reducible show wpAny _ _ (compareOp _ _ _) _ _ _)); (fail_if_success (with_reducible show wpAny _ _ (call (Value.ref _) _) _ _ _)); (first | walk1 | (dsimp only; walk1)))))
      refine lcf_cell N5 rfl (.tail _ (.tail _ (.tail _ (.tail _ (.head _))))) hd4 ?_ rfl rfl
      (repeat' (first | ((fail_if_success (with_reducible show wpAny _ _ (eval (Expr.Name _ _) _) _ _ _)); (fail_if_success (with_reducible show wpAny _ _ (compareOp _ _ _) _ _ _)); (fail_if_success (with_reducible show wpAny _ _ (call (Value.ref _) _) _ _ _)); (first | walk1 | (dsimp only; walk1)))))
      by_cases hxa : x = a
      · subst hxa
        refine wpAny_is_ref_self ?_
        (repeat' (first | ((fail_if_success (with_reducible show wpAny _ _ (eval (Expr.Name _ _) _) _ _ _)); (fail_if_success (with_reducible show wpAny _ _ (compareOp _ _ _) _ _ _)); (fail_if_success (with_reducible show wpAny _ _ (call (Value.ref _) _) _ _ _)); (first | walk1 | (dsimp only; walk1)))))
        refine LCgL.ld_own N5 (.tail _ (.head _)) hC hm₂ ?_
        refine CompEnd.intro F5 N5 _ (fun p hp => hp) off (.inr ⟨_, .head _, rfl, _, rfl⟩) ⟨rfl, by simp; omega, fun _ => by simp⟩
      · refine wpAny_is_ref_other hxa ox oa (by simp) ?_
        (repeat' (first | ((fail_if_success (with_reducible show wpAny _ _ (eval (Expr.Name _ _) _) _ _ _)); (fail_if_success (with_reducible show wpAny _ _ (compareOp _ _ _) _ _ _)); (fail_if_success (with_reducible show wpAny _ _ (call (Value.ref _) _) _ _ _)); (first | walk1 | (dsimp only; walk1)))))
        refine CompEnd.intro F5 N5 _ (fun p hp => hp) off (.inr ⟨_, .head _, rfl, _, rfl⟩) ⟨rfl, by omega, ?_⟩
        rintro ⟨j, hj, hja⟩
        refine hys ⟨j, ?_, hja⟩
        by_cases hji : j = i
        · subst hji
          rw [hv'] at hja
          exact absurd (Value.ref.inj (Option.some.inj hja)) hxa
        · omega
    · rintro ys nw ⟨rfl, hyl, hys⟩
      intro D h6 tk6 F6 N6 _
      dsimp only
      (repeat' (first | ((fail_if_success (with_reducible show wpAny _ _ (execs (_ :: _) _) _ _ _)); (fail_if_success (with_reducible show wpAny _ _ (exec (Stmt.For _ _ _ _ _) _) _ _ _)); (fail_if_success (with_reducible show wpAny _ _ (exec (Stmt.While _ _ _ _) _) _ _ _)); (fail_if_success (with_reducible show wpAny _ _ (exec (Stmt.Assign _ (Expr.ListComp _ _ _ _) _) _) _ _ _)); (fail_if_success (with_reducible show wpAny _ _ (pyIter _) _ _ _)); (fail_if_success (with_reducible show wpAny _ _ (eval (Expr.ListComp _ _ _ _) _) _ _ _)); (fail_if_success (with_reducible show wpAny _ _ (subscriptTail _ _ _ _) _ _ _)); (fail_if_success (with_reducible show wpAny _ _ (newList _) _ _ _)); (fail_if_success (with_reducible show wpAny _ _ (call (Value.ref _) _) _ _ _)); (fail_if_success (with_reducible show wpAny _ _ (call (Value.builtin _) _) _ _ _)); (fail_if_success (with_reducible show wpAny _ _ (compareOp _ (Value.ref _) (Value.ref _)) _ _ _)); (first | walk1 | (dsimp only; walk1)))))
      walk1
      (repeat' (first | ((fail_if_success (with_reducible show wpAny _ _ (execs (_ :: _) _) _ _ _)); (fail_if_success (with_reducible show wpAny _ _ (exec (Stmt.For _ _ _ _ _) _) _ _ _)); (fail_if_success (with_reducible show wpAny _ _ (exec (Stmt.While _ _ _ _) _) _ _ _)); (fail_if_success (with_reducible show wpAny _ _ (exec (Stmt.Assign _ (Expr.ListComp _ _ _ _) _) _) _ _ _)); (fail_if_success (with_reducible show wpAny _ _ (pyIter _) _ _ _)); (fail_if_success (with_reducible show wpAny _ _ (eval (Expr.ListComp _ _ _ _) _) _ _ _)); (fail_if_success (with_reducible show wpAny _ _ (subscriptTail _ _ _ _) _ _ _)); (fail_if_success (with_reducible show wpAny _ _ (newList _) _ _ _)); (fail_if_success (with_reducible show wpAny _ _ (call (Value.ref _) _) _ _ _)); (fail_if_success (with_reducible show wpAny _ _ (call (Value.builtin _) _) _ _ _)); (fail_if_success (with_reducible show wpAny _ _ (compareOp _ (Value.ref _) (Value.ref _)) _ _ _)); (first | walk1 | (dsimp only; walk1)))))
      have F7 := (by assumption : Fr base L _ _)
      have N7 := (by assumption : News base L _ (_ :: (D, _) :: _))
      obtain ⟨j, hj⟩ := List.getElem?_of_mem hmem
      have hjl : j < its.length := (List.getElem?_eq_some_iff.mp hj).1
      have hne := hys ⟨j, hjl, hj⟩
      have hyz : ys.length ≠ 0 := fun q => hne (List.eq_nil_of_length_eq_zero q)
      refine PySem.SeqAt.eq_list_lengthsAt (items := ys.toArray) (items2 := #[]) ⟨_, N7.get (.tail _ (.head _)), rfl, _, rfl⟩ ⟨_, N7.get (.head _), rfl, _, rfl⟩ (by simpa using hne) (Nat.le_of_ble_eq_true rfl) ?_
      (repeat' (first | ((fail_if_success (with_reducible show wpAny _ _ (execs (_ :: _) _) _ _ _)); (fail_if_success (with_reducible show wpAny _ _ (exec (Stmt.For _ _ _ _ _) _) _ _ _)); (fail_if_success (with_reducible show wpAny _ _ (exec (Stmt.While _ _ _ _) _) _ _ _)); (fail_if_success (with_reducible show wpAny _ _ (exec (Stmt.Assign _ (Expr.ListComp _ _ _ _) _) _) _ _ _)); (fail_if_success (with_reducible show wpAny _ _ (pyIter _) _ _ _)); (fail_if_success (with_reducible show wpAny _ _ (eval (Expr.ListComp _ _ _ _) _) _ _ _)); (fail_if_success (with_reducible show wpAny _ _ (subscriptTail _ _ _ _) _ _ _)); (fail_if_success (with_reducible show wpAny _ _ (newList _) _ _ _)); (fail_if_success (with_reducible show wpAny _ _ (call (Value.ref _) _) _ _ _)); (fail_if_success (with_reducible show wpAny _ _ (call (Value.builtin _) _) _ _ _)); (fail_if_success (with_reducible show wpAny _ _ (compareOp _ (Value.ref _) (Value.ref _)) _ _ _)); (first | walk1 | (dsimp only; walk1)))))
      exact next _ _ _ rfl rfl rfl rfl rfl F7 (News.drop N7 (fun p hp => .tail _ (.tail _ hp)))
end Mine
end

section  -- T3
open PySem PySem.W PySem.Calls PyProof.Rows
set_option maxRecDepth 100000
set_option maxHeartbeats 1000000
namespace Mine
open LCg LCt
theorem readN_c {w : World} {dp un : Nat} {fr : Option (List Env)} {gd : Option (List Code)} {s : Shared} {x : Str} {tx : Tok} {col : Int} {tc : Tok} (G : GI w s.heap) (hroom : dp < recursionLimit) :
    codeAny (model PR w) (AR dp un fr gd) (.call (.ref 54) ⟨[.str x tx, .none, .int col tc], []⟩) (Back s fun v _ => v = .none) s := by
  refine enterF (binds := [(Str.ofString "letters", .str x tx), (Str.ofString "hit", .none), (Str.ofString "end", .int col tc)]) G (by exact rfl) (by exact rfl) hroom (BindsTo.of_eq (by exact rfl)) (locs rfl) ?_ rfl rfl rfl (by decide)
  intro L h₁ F N
  refine wpAny_noRaise ?_
  have X := G.K
  obtain ⟨mg, mb, TT⟩ := G.T
  w_on
  have : (fun P : Params => hd.heap_39 P) = hd.heap_39 ∧ PySem.Challenge.rw_pg0028_01 = PySem.Challenge.rw_pg0028_01 := by k_fill; exact ⟨rfl, rfl⟩
  clear this
  (repeat' (first | walk1 | (dsimp only; walk1)))
  exact ⟨_, _, _, rfl, rfl, F.keep, rfl⟩
theorem Fr.turn {h₀ h g : Heap} {L : Addr} {m : Str → Option Value} (F : Fr h₀ L h m) (T : KtsTurn [L] h g) : Fr h₀ L g m := by
  refine ⟨?_, fun b o e => ?_, F.above⟩
  · obtain ⟨o, es, ep, ho, r⟩ := F.ns
    obtain ⟨sl, hs⟩ := T.frame L o ho (.head _)
    exact ⟨_, es, ep, hs, r⟩
  · refine T.other b o (F.keep b o e) fun hm => ?_
    rw [List.mem_singleton.mp hm] at e
    exact absurd (Nat.lt_of_lt_of_le (Heap.lt_size e) F.above) (Nat.lt_irrefl _)
theorem News.turn {h₀ h g : Heap} {L : Addr} {news : List (Addr × Obj)} (N : News h₀ L h news) (T : KtsTurn [L] h g) : News h₀ L g news := fun p hp =>
  ⟨T.other _ _ (N p hp).1 fun hm => (N p hp).2.1 (List.mem_singleton.mp hm), (N p hp).2⟩
/-- None, or a pair that stands on the ledger -/
noncomputable def PlIs (S : List (Addr × Obj)) (y : Value) : Option (Int × Int) → Prop
  | none => y = .none
  | some (a, b) => ∃ p ta tb, y = .ref p ∧ (p, tupOf #[.int a ta, .int b tb]) ∈ S
theorem PlIs.mono {S S' : List (Addr × Obj)} {y : Value} {r : Option (Int × Int)} (x : PlIs S y r) (k : ∀ q ∈ S, q ∈ S') : PlIs S' y r := by
  match r with
  | none => exact x
  | some (a, b) =>
    obtain ⟨p, ta, tb, e, hm⟩ := x
    exact ⟨p, ta, tb, e, k _ hm⟩
/-- what _law_read has left -/
noncomputable def ReadGot (base : Heap) (L : Addr) (m : Str → Option Value) (s : Shared) (news : List (Addr × Obj)) (r : Option (Int × Int)) (y : Value) (s' : Shared) : Prop :=
  ∃ h5 tk5 S1, s' = { s with heap := h5, toks := tk5 } ∧ Fr base L h5 m ∧ News base L h5 news ∧ News base L h5 S1 ∧ Fresh S1 s.heap ∧ PlIs S1 y r
theorem turn_C {w : World} {base : Heap} {L f : Addr} {cd : Value} {s : Shared} {m : Str → Option Value} {P I : Addr} {oI o4 : Obj} {S rest : List (Addr × Obj)} {vals : List Value} {nn : Nat} {v : Value} {its : List Value}
    {Q : Flow → Shared → Prop} {line col : Int} {tl tc tx te : Tok} {n e : Nat}
    {pr : Program} {loose : List Str} {mean : ExcName → Option Value} {mg mb : Str → Option Value}
    (G : GI w base) (M : Mod4 base) (TB : Top pr loose mean mg mb base) (hlen : (hexN n).length ≤ 18) (he : e ≤ (hexN n).length)
    (e1 : m (Str.ofString "line") = some (.int line tl)) (e2 : m (Str.ofString "col") = some (.int col tc)) (e3 : m (Str.ofString "letters") = some (.str (lettersOf (hexN n)) tx)) (e4 : m (Str.ofString "places") = some (.ref P)) (e5 : m (Str.ofString "end") = some (.int (e : Int) te)) (F : Fr base L s.heap m)
    (hd4 : o4.data = .cell (some v)) (hit : IsHitOpt (Sub S) its v (revSpec (lettersOf (hexN n)) e)) (hSr : ∀ q ∈ S, q ∈ rest) (hvals : vals.length ≤ 1000) (hP : ∀ q ∈ rest, q.1 ≠ P) (hP4 : P ≠ L + 1 + 1 + 1 + 1)
    (N : News base L s.heap ((P, W.listOf vals.toArray nn) :: (L + 1 + 1 + 1 + 1, o4) :: rest))
    (next : ∀ h' tk y nn' S1 m', m' (Str.ofString "line") = some (.int line tl) → m' (Str.ofString "col") = some (.int col tc) → m' (Str.ofString "letters") = some (.str (lettersOf (hexN n)) tx) → m' (Str.ofString "places") = some (.ref P) →
      Fr base L h' m' → PlIs S1 y (readOf (hexN n) e) → Fresh S1 s.heap → News base L h' ((P, W.listOf (vals ++ [y]).toArray nn') :: (L + 1 + 1 + 1 + 1, o4) :: (rest ++ S1)) → Q .next { s with heap := h', toks := tk }) :
    wpAny (model PR w) (callerA.deeper (lawEnv L f cd)) (execs (loopBody.drop 3) (lawEnv L f cd)) Q (fun _ _ => False) s := by
  obtain ⟨mg', mb', TT⟩ := G.T
  have X := G.K
  replace F := Fr.setL F [(Str.ofString "line", .int line tl), (Str.ofString "col", .int col tc), (Str.ofString "letters", .str (lettersOf (hexN n)) tx), (Str.ofString "places", .ref P), (Str.ofString "end", .int (e : Int) te)] (fcC e1 (fcC e2 (fcC e3 (fcC e4 (fcC e5 fcN)))))
  clear e1 e2 e3 e4 e5
  unfold lawEnv
  conv in loopBody.drop 3 => whnf
  conv in (occs := *) lawDef.2 => all_goals whnf
  w_on
  have : (fun P : Params => hd.heap_39 P) = hd.heap_39 ∧ PySem.Challenge.rw_pg0028_01 = PySem.Challenge.rw_pg0028_01 := by k_fill; exact ⟨rfl, rfl⟩
  clear this
  walk1
  (repeat' (first | ((fail_if_success (with_reducible show wpAny _ _ (execs (_ :: _) _) _ _ _)); (fail_if_success (with_reducible show wpAny _ _ (exec (Stmt.For _ _ _ _ _) _) _ _ _)); (fail_if_success (with_reducible show wpAny _ _ (exec (Stmt.While _ _ _ _) _) _ _ _)); (fail_if_success (with_reducible show wpAny _ _ (exec (Stmt.Assign _ (Expr.ListComp _ _ _ _) _) _) _ _ _)); (fail_if_success (with_reducible show wpAny _ _ (pyIter _) _ _ _)); (fail_if_success (with_reducible show wpAny _ _ (eval (Expr.ListComp _ _ _ _) _) _ _ _)); (fail_if_success (with_reducible show wpAny _ _ (subscriptTail _ _ _ _) _ _ _)); (fail_if_success (with_reducible show wpAny _ _ (newList _) _ _ _)); (fail_if_success (with_reducible show wpAny _ _ (call (Value.ref _) _) _ _ _)); (fail_if_success (with_reducible show wpAny _ _ (call (Value.builtin _) _) _ _ _)); (fail_if_success (with_reducible show wpAny _ _ (compareOp _ (Value.ref _) (Value.ref _)) _ _ _)); (first | walk1 | (dsimp only; walk1)))))
  have hread : ReadGot base L (setL m [(Str.ofString "line", .int line tl), (Str.ofString "col", .int col tc), (Str.ofString "letters", .str (lettersOf (hexN n)) tx), (Str.ofString "places", .ref P), (Str.ofString "end", .int (e : Int) te)]) s ((P, W.listOf vals.toArray nn) :: (L + 1 + 1 + 1 + 1, o4) :: rest) (readOf (hexN n) e) .none s → True := fun _ => trivial
  clear hread
  refine wpAny_mono (Q := ReadGot base L (setL m [(Str.ofString "line", .int line tl), (Str.ofString "col", .int col tc), (Str.ofString "letters", .str (lettersOf (hexN n)) tx), (Str.ofString "places", .ref P), (Str.ofString "end", .int (e : Int) te)]) s ((P, W.listOf vals.toArray nn) :: (L + 1 + 1 + 1 + 1, o4) :: rest) (readOf (hexN n) e)) (E := fun _ _ => False) ?_ ?_ (fun _ _ x => x.elim)
  · cases hr : revSpec (lettersOf (hexN n)) e with
    | none =>
      rw [hr] at hit
      have hv : v = .none := hit
      subst hv
      refine useB (readN_c (G.keeps F.keep) (Nat.lt_of_lt_of_le (Nat.lt_succ_self _) (Nat.le_of_ble_eq_true rfl))) F N ?_
      rintro y h5 tk5 k5 F5 N5 rfl
      refine ⟨h5, tk5, [], rfl, F5, N5, News.nil, (fun q hq => nomatch hq), ?_⟩
      unfold readOf
      rw [hr]
      exact rfl
    | some p =>
      rw [hr] at hit
      obtain ⟨a, rfl, hmem, hat⟩ := hit
      have hx := revSpec_spec (x := lettersOf (hexN n)) (e := e) (by rw [lettersOf_length]; omega) (by rw [lettersOf_length]; exact he)
      obtain ⟨q, hq1, hq2⟩ : ∃ q : Nat, p = (q : Int) ∧ q < e := by
        rcases hx with ⟨hx, _⟩ | ⟨q, hx, h2, _⟩
        · rw [hr] at hx; cases hx
        · rw [hr] at hx; exact ⟨q, Option.some.inj hx, h2⟩
      subst hq1
      refine wpAny_call (read_c (G.keeps F.keep) (hat _ (fun q hq => (N q (.tail _ (.tail _ (hSr q hq)))).1)) (pushX (below_caller base) F ?_ ?_) (Nat.le_of_ble_eq_true rfl) (Nat.le_of_ble_eq_true rfl) (by omega) (by omega) (by omega) (hexN_lt n) (by omega) (by omega) (by omega) X TB ?_ ?_)
      · rfl
      · rfl
      · intro b hb
        have hb' : b = L := List.mem_singleton.mp (show b ∈ [L] from hb)
        rw [hb']
        obtain ⟨o, es, ep, ho, hd, _⟩ := F.ns
        exact ⟨o, es, ep, ho, hd⟩
      · intro h' g' tk v T k5 hri
        have hro : readOf (hexN n) e = pairOf (Txt.split (signsOf (((hexN n).take ((e : Int)).toNat).drop ((q : Int)).toNat)) (Str.ofString ".")) := by
          unfold readOf
          rw [hr]
          rfl
        rw [← hro] at hri
        have T' : KtsTurn [L] s.heap g' := T
        have F5 := Fr.into (Fr.turn F T') k5
        have N5 := News.into (News.turn N T') k5
        show ReadGot _ _ _ _ _ _ _ _
        clear hro hx
        generalize readOf (hexN n) e = r at hri ⊢
        match r with
        | none =>
          have hv : v = .none := hri
          exact ⟨h', tk, [], rfl, F5, N5, News.nil, (fun q hq => nomatch hq), hv⟩
        | some (ra, rb) =>
          obtain ⟨P', ta, tb, rfl, hP', hfr⟩ := hri
          have fr : Fresh [(P', tupOf #[.int ra ta, .int rb tb])] s.heap := fun q hq => by rw [List.mem_singleton.mp hq]; exact hfr
          exact ⟨h', tk, [(P', tupOf #[.int ra ta, .int rb tb])], rfl, F5, N5, newsOf F (fun q hq => by rw [List.mem_singleton.mp hq]; exact hP') fr, fr, P', ta, tb, rfl, .head _⟩
  · rintro y s' ⟨h5, tk5, S1, rfl, F5, N5, NS, fr, hpl⟩
    have hS1P := freshNe fr (N (P, W.listOf vals.toArray nn) (.head _)).1
    clear F N
    (repeat' (first | ((fail_if_success (with_reducible show wpAny _ _ (execs (_ :: _) _) _ _ _)); (fail_if_success (with_reducible show wpAny _ _ (exec (Stmt.For _ _ _ _ _) _) _ _ _)); (fail_if_success (with_reducible show wpAny _ _ (exec (Stmt.While _ _ _ _) _) _ _ _)); (fail_if_success (with_reducible show wpAny _ _ (exec (Stmt.Assign _ (Expr.ListComp _ _ _ _) _) _) _ _ _)); (fail_if_success (with_reducible show wpAny _ _ (pyIter _) _ _ _)); (fail_if_success (with_reducible show wpAny _ _ (eval (Expr.ListComp _ _ _ _) _) _ _ _)); (fail_if_success (with_reducible show wpAny _ _ (subscriptTail _ _ _ _) _ _ _)); (fail_if_success (with_reducible show wpAny _ _ (newList _) _ _ _)); (fail_if_success (with_reducible show wpAny _ _ (call (Value.ref _) _) _ _ _)); (fail_if_success (with_reducible show wpAny _ _ (call (Value.builtin _) _) _ _ _)); (fail_if_success (with_reducible show wpAny _ _ (compareOp _ (Value.ref _) (Value.ref _)) _ _ _)); (first | walk1 | (dsimp only; walk1)))))
    have nP := N5 (P, W.listOf vals.toArray nn) (.head _)
    refine wpAny_list_append_plain (l := P) (items := vals.toArray) ⟨nn, nP.1⟩ ?_ (by rw [sizeLine_eq]; simp; omega)
    intro h6 e6 sb
    obtain ⟨n6, e6⟩ := e6
    dsimp only at e6 sb
    have kP : KeepBut [P] h5 h6 := fun b o n e => (sb.2 b (fun q => n (by rw [q]; exact .head _))).trans e
    have F6 := Fr.intoBut F5 kP (fun hm => nP.2.1 (List.mem_singleton.mp hm).symm) (fun q hm => by rw [List.mem_singleton.mp hm]; exact nP.2.2)
    have N6a : News base L h6 (((L + 1 + 1 + 1 + 1, o4) :: rest) ++ S1) := by
      refine News.intoBut (News.both (News.drop N5 (fun p hp => .tail _ hp)) NS) kP (fun p hp hm => ?_)
      have hm := List.mem_singleton.mp hm
      rcases List.mem_append.mp hp with hp | hp
      · rcases List.mem_cons.mp hp with rfl | hp
        · exact hP4 hm.symm
        · exact hP p hp hm
      · exact hS1P p hp hm
    have e6' : h6.get? P = some (W.listOf (vals ++ [y]).toArray n6) := by rw [e6]; simp
    have N6 := News.put N5 (.head _) N6a e6'
    clear F5 N5 NS N6a
    (repeat' (first | ((fail_if_success (with_reducible show wpAny _ _ (execs (_ :: _) _) _ _ _)); (fail_if_success (with_reducible show wpAny _ _ (exec (Stmt.For _ _ _ _ _) _) _ _ _)); (fail_if_success (with_reducible show wpAny _ _ (exec (Stmt.While _ _ _ _) _) _ _ _)); (fail_if_success (with_reducible show wpAny _ _ (exec (Stmt.Assign _ (Expr.ListComp _ _ _ _) _) _) _ _ _)); (fail_if_success (with_reducible show wpAny _ _ (pyIter _) _ _ _)); (fail_if_success (with_reducible show wpAny _ _ (eval (Expr.ListComp _ _ _ _) _) _ _ _)); (fail_if_success (with_reducible show wpAny _ _ (subscriptTail _ _ _ _) _ _ _)); (fail_if_success (with_reducible show wpAny _ _ (newList _) _ _ _)); (fail_if_success (with_reducible show wpAny _ _ (call (Value.ref _) _) _ _ _)); (fail_if_success (with_reducible show wpAny _ _ (call (Value.builtin _) _) _ _ _)); (fail_if_success (with_reducible show wpAny _ _ (compareOp _ (Value.ref _) (Value.ref _)) _ _ _)); (first | walk1 | (dsimp only; walk1)))))
    exact next _ _ y n6 S1 _ rfl rfl rfl rfl F6 hpl fr N6
end Mine
end

section  -- T4
open PySem PySem.W PySem.Calls PyProof.Rows
set_option maxRecDepth 100000
set_option maxHeartbeats 1000000
namespace Mine
open LCg LCt
/-- the places read, and what they are -/
inductive PlAll (S : List (Addr × Obj)) : List Value → List (Option (Int × Int)) → Prop
  | nil : PlAll S [] []
  | cons {y : Value} {r : Option (Int × Int)} {ys : List Value} {rs : List (Option (Int × Int))} : PlIs S y r → PlAll S ys rs → PlAll S (y :: ys) (r :: rs)
theorem PlAll.mono {S S' : List (Addr × Obj)} (k : ∀ q ∈ S, q ∈ S') : ∀ {ys : List Value} {rs : List (Option (Int × Int))}, PlAll S ys rs → PlAll S' ys rs
  | _, _, .nil => .nil
  | _, _, .cons h t => .cons (h.mono k) (PlAll.mono k t)
theorem PlAll.snoc {S : List (Addr × Obj)} {y : Value} {r : Option (Int × Int)} (h : PlIs S y r) : ∀ {ys : List Value} {rs : List (Option (Int × Int))}, PlAll S ys rs → PlAll S (ys ++ [y]) (rs ++ [r])
  | _, _, .nil => .cons h .nil
  | _, _, .cons a t => .cons a (PlAll.snoc h t)
theorem PlAll.length {S : List (Addr × Obj)} : ∀ {ys : List Value} {rs : List (Option (Int × Int))}, PlAll S ys rs → ys.length = rs.length
  | _, _, .nil => rfl
  | _, _, .cons _ t => congrArg (· + 1) (PlAll.length t)
/-- what stands between the turns -/
inductive Mid (L P : Addr) (o1 o2 o3 : Obj) (line col : Int) (tl tc tx : Tok) (n : Nat) (i : Nat) (m : Str → Option Value) : List (Addr × Obj) → Prop
  | mk (vals : List Value) (nn : Nat) (ps37 ps44 : Array Value) (o4 : Obj) (v4 : Option Value) (S : List (Addr × Obj)) :
    m (Str.ofString "line") = some (.int line tl) → m (Str.ofString "col") = some (.int col tc) → m (Str.ofString "letters") = some (.str (lettersOf (hexN n)) tx) → m (Str.ofString "places") = some (.ref P) →
    o4.data = .cell v4 → T37S ps37 (Sub S) → T44S ps44 (Sub S) → (∀ q ∈ (P, W.listOf vals.toArray nn) :: (L + 1 + 1 + 1, o3) :: (L + 1 + 1, o2) :: (L + 1, o1) :: S, q.1 ∉ [37, 44, L + 1 + 1 + 1 + 1]) →
    (∀ q ∈ (L + 1 + 1 + 1, o3) :: (L + 1 + 1, o2) :: (L + 1, o1) :: S, q.1 ≠ P) → PlAll S vals ((List.range i).map (readOf (hexN n))) →
    Mid L P o1 o2 o3 line col tl tc tx n i m ((37, tabObj ps37) :: (44, tabObj ps44) :: (L + 1 + 1 + 1 + 1, o4) :: (P, W.listOf vals.toArray nn) :: (L + 1 + 1 + 1, o3) :: (L + 1 + 1, o2) :: (L + 1, o1) :: S)
theorem law_8 {w : World} {base : Heap} {L f : Addr} {cd : Value} {s : Shared} {m : Str → Option Value} {P : Addr} {o1 o2 o3 o4 : Obj} {v1 v2 v4 : Option Value}
    {Q : Flow → Shared → Prop} {line col : Int} {tl tc tx ts : Tok} {n : Nat}
    {pr : Program} {loose : List Str} {mean : ExcName → Option Value} {mg mb : Str → Option Value}
    (G : GI w base) (M : Mod4 base) (TB : Top pr loose mean mg mb base) (hlen : (hexN n).length ≤ 18)
    (e1 : m (Str.ofString "line") = some (.int line tl)) (e2 : m (Str.ofString "col") = some (.int col tc)) (e3 : m (Str.ofString "letters") = some (.str (lettersOf (hexN n)) tx)) (e4 : m (Str.ofString "places") = some (.ref P)) (F : Fr base L s.heap m)
    (hd1 : o1.data = .cell v1) (hd2 : o2.data = .cell v2) (hd3 : o3.data = .cell (some (.int ((hexN n).length : Int) ts))) (hd4 : o4.data = .cell v4)
    (N : News base L s.heap [(P, W.listOf #[] 0), (L + 1 + 1 + 1 + 1, o4), (L + 1 + 1 + 1, o3), (L + 1 + 1, o2), (L + 1, o1), (37, tabObj #[]), (44, tabObj #[])])
    (next : ∀ h' tk m' news', Mid L P o1 o2 o3 line col tl tc tx n ((hexN n).length + 1) m' news' → Fr base L h' m' → News base L h' news' →
      wpAny (model PR w) (callerA.deeper (lawEnv L f cd)) (execs (lawDef.1.drop 12) (lawEnv L f cd)) Q (fun _ _ => False) { s with heap := h', toks := tk }) :
    wpAny (model PR w) (callerA.deeper (lawEnv L f cd)) (execs (lawDef.1.drop 11) (lawEnv L f cd)) Q (fun _ _ => False) s := by
  obtain ⟨mg', mb', TT⟩ := G.T
  have X := G.K
  replace F := Fr.setL F [(Str.ofString "line", .int line tl), (Str.ofString "col", .int col tc), (Str.ofString "letters", .str (lettersOf (hexN n)) tx), (Str.ofString "places", .ref P)] (fcC e1 (fcC e2 (fcC e3 (fcC e4 fcN))))
  clear e1 e2 e3 e4
  unfold lawEnv
  conv in lawDef.1.drop 11 => whnf
  conv in (occs := *) lawDef.2 => all_goals whnf
  w_on
  have : (fun P : Params => hd.heap_39 P) = hd.heap_39 ∧ PySem.Challenge.rw_pg0028_01 = PySem.Challenge.rw_pg0028_01 := by k_fill; exact ⟨rfl, rfl⟩
  clear this
  walk1
  refine For_invV base (by rfl) (by rfl) ?_
  (repeat' (first | ((fail_if_success (with_reducible show wpAny _ _ (execs (_ :: _) _) _ _ _)); (fail_if_success (with_reducible show wpAny _ _ (exec (Stmt.For _ _ _ _ _) _) _ _ _)); (fail_if_success (with_reducible show wpAny _ _ (exec (Stmt.While _ _ _ _) _) _ _ _)); (fail_if_success (with_reducible show wpAny _ _ (exec (Stmt.Assign _ (Expr.ListComp _ _ _ _) _) _) _ _ _)); (fail_if_success (with_reducible show wpAny _ _ (pyIter _) _ _ _)); (fail_if_success (with_reducible show wpAny _ _ (eval (Expr.ListComp _ _ _ _) _) _ _ _)); (fail_if_success (with_reducible show wpAny _ _ (subscriptTail _ _ _ _) _ _ _)); (fail_if_success (with_reducible show wpAny _ _ (newList _) _ _ _)); (fail_if_success (with_reducible show wpAny _ _ (call (Value.ref _) _) _ _ _)); (fail_if_success (with_reducible show wpAny _ _ (call (Value.builtin _) _) _ _ _)); (fail_if_success (with_reducible show wpAny _ _ (compareOp _ (Value.ref _) (Value.ref _)) _ _ _)); (first | walk1 | (dsimp only; walk1)))))
  have F1 := (by assumption : Fr base L _ _)
  have N1 := (by assumption : News base L _ _)
  have R1 := (by assumption : IsRange _ _ _ _ _ _ _ _)
  have d4 : (L + 1 + 1 + 1 + 1, o4) ∈ [(P, W.listOf #[] 0), (L + 1 + 1 + 1 + 1, o4), (L + 1 + 1 + 1, o3), (L + 1 + 1, o2), (L + 1, o1), (37, tabObj #[]), (44, tabObj #[])] := .tail _ (.head _)
  have dP : (P, W.listOf #[] 0) ∈ [(P, W.listOf #[] 0), (L + 1 + 1 + 1 + 1, o4), (L + 1 + 1 + 1, o3), (L + 1 + 1, o2), (L + 1, o1), (37, tabObj #[]), (44, tabObj #[])] := .head _
  have d37 : (37, tabObj #[]) ∈ [(P, W.listOf #[] 0), (L + 1 + 1 + 1 + 1, o4), (L + 1 + 1 + 1, o3), (L + 1 + 1, o2), (L + 1, o1), (37, tabObj #[]), (44, tabObj #[])] := .tail _ (.tail _ (.tail _ (.tail _ (.tail _ (.head _)))))
  have d44 : (44, tabObj #[]) ∈ [(P, W.listOf #[] 0), (L + 1 + 1 + 1 + 1, o4), (L + 1 + 1 + 1, o3), (L + 1 + 1, o2), (L + 1, o1), (37, tabObj #[]), (44, tabObj #[])] := .tail _ (.tail _ (.tail _ (.tail _ (.tail _ (.tail _ (.head _))))))
  have kc : ∀ {c : Addr} {o : Obj} {v : Option Value}, (c, o) ∈ [(P, W.listOf #[] 0), (L + 1 + 1 + 1 + 1, o4), (L + 1 + 1 + 1, o3), (L + 1 + 1, o2), (L + 1, o1), (37, tabObj #[]), (44, tabObj #[])] → o.data = .cell v → c ≠ 37 ∧ c ≠ 44 ∧ c ≠ P := fun hm hd =>
    ⟨(apartK N1 hm hd d37 (fun u h => nomatch h)).symm, (apartK N1 hm hd d44 (fun u h => nomatch h)).symm, (apartK N1 hm hd dP (fun u h => nomatch h)).symm⟩
  have k1 := kc (.tail _ (.tail _ (.tail _ (.tail _ (.head _))))) hd1
  have k2 := kc (.tail _ (.tail _ (.tail _ (.head _)))) hd2
  have k3 := kc (.tail _ (.tail _ (.head _))) hd3
  have k4 := kc d4 hd4
  have kP37 : P ≠ 37 := cls_ne (N1.get dP) (N1.get d37) (fun h => nomatch h)
  have kP44 : P ≠ 44 := cls_ne (N1.get dP) (N1.get d44) (fun h => nomatch h)
  refine rangeG (h₀ := base) (n := (hexN n).length + 1) (Mid L P o1 o2 o3 line col tl tc tx n) (by rfl) R1 ?_ (by push_cast; rfl) F1 (News.drop (news := (37, tabObj #[]) :: (44, tabObj #[]) :: (L + 1 + 1 + 1 + 1, o4) :: (P, W.listOf ([] : List Value).toArray 0) :: (L + 1 + 1 + 1, o3) :: (L + 1 + 1, o2) :: (L + 1, o1) :: []) N1 (by ((repeat (first | exact List.forall_mem_nil _ | refine List.forall_mem_cons.mpr (And.intro (by k_mem) ?_))); (try (intro p hp; repeat (first | assumption | refine List.Mem.tail _ ?_)))))) ?_ ?_ ?_
  · have : (((hexN n).length : Nat) : Int) + 1 = (((hexN n).length + 1 : Nat) : Int) := by push_cast; rfl
    rw [this]
    exact small0 (by omega)
  · exact .mk [] 0 #[] #[] o4 v4 [] rfl rfl rfl rfl hd4 (.inl rfl) (.inl rfl)
      (List.forall_mem_cons.mpr ⟨nin_cons kP37 (nin_cons kP44 (nin_cons k4.2.2.symm nin_nil)), List.forall_mem_cons.mpr ⟨nin_cons k3.1 (nin_cons k3.2.1 (nin_cons (Nat.ne_of_lt (by lt_chain)) nin_nil)),
        List.forall_mem_cons.mpr ⟨nin_cons k2.1 (nin_cons k2.2.1 (nin_cons (Nat.ne_of_lt (by lt_chain)) nin_nil)), List.forall_mem_cons.mpr ⟨nin_cons k1.1 (nin_cons k1.2.1 (nin_cons (Nat.ne_of_lt (by lt_chain)) nin_nil)), List.forall_mem_nil _⟩⟩⟩⟩)
      (List.forall_mem_cons.mpr ⟨k3.2.2, List.forall_mem_cons.mpr ⟨k2.2.2, List.forall_mem_cons.mpr ⟨k1.2.2, List.forall_mem_nil _⟩⟩⟩) .nil
  · clear F1 N1 R1 d4 dP d37 d44 kc
    rintro i t m₁ news₁ h tk I oI hi ⟨vals, nn, ps37, ps44, o4', v4', S, e1, e2, e3, e4, hd4', T37, T44, hr, hP, hpl⟩ hne F N
    change Fr base L h _ at F
    change News base L h _ at N
    have i37 : (37 : Nat) ≠ I := hne _ (.head _)
    have i44 : (44 : Nat) ≠ I := hne _ (.tail _ (.head _))
    have i4 : L + 1 + 1 + 1 + 1 ≠ I := hne _ (.tail _ (.tail _ (.head _)))
    have hneR := fun q hq => hne q (.tail _ (.tail _ (.tail _ hq)))
    refine turn_A (s := { s with heap := h, toks := tk }) (e := i) (te := t) (S := S) (m := fun y => if y = Str.ofString "end" then some (.int (i : Int) t) else m₁ y) (rest := (I, oI) :: (P, W.listOf vals.toArray nn) :: (L + 1 + 1 + 1, o3) :: (L + 1 + 1, o2) :: (L + 1, o1) :: S) G M TB hlen (by omega) e1 e2 e3 e4 rfl F hd4' T37 T44
      (fun q hq => .tail _ (.tail _ (.tail _ (.tail _ (.tail _ hq))))) (List.forall_mem_cons.mpr ⟨nin_cons i37.symm (nin_cons i44.symm (nin_cons i4.symm nin_nil)), hr⟩) (News.drop N (by ((repeat (first | exact List.forall_mem_nil _ | refine List.forall_mem_cons.mpr (And.intro (by k_mem) ?_))); (try (intro p hp; repeat (first | assumption | refine List.Mem.tail _ ?_)))))) ?_
    intro h1 tk1 v gl its nn1 ps37' ps44' o4a S1 ma a1 a2 a3 a4 a5 a6 F1 hda hit hall hits hrg hS1 hS1r T37' T44' N1
    refine turn_B (S := S1 ++ S) (gl := gl) (its := its) (nn := nn1) (o4 := o4a) (rest := (37, tabObj ps37') :: (44, tabObj ps44') :: (S1 ++ ((I, oI) :: (P, W.listOf vals.toArray nn) :: (L + 1 + 1 + 1, o3) :: (L + 1 + 1, o2) :: (L + 1, o1) :: S))) G M TB a1 a2 a3 a4 a5 a6 F1 hda hit hall hits
      (fun q hq => .tail _ (.tail _ ((List.mem_append.mp hq).elim (List.mem_append_left _) fun hq => List.mem_append_right _ (.tail _ (.tail _ (.tail _ (.tail _ (.tail _ hq)))))))) (News.drop N1 (by ((repeat (first | exact List.forall_mem_nil _ | refine List.forall_mem_cons.mpr (And.intro (by k_mem) ?_))); (try (intro p hp; repeat (first | assumption | refine List.Mem.tail _ ?_)))))) ?_
    intro h2 tk2 mb2 b1 b2 b3 b4 b5 F2 N2
    refine turn_C (S := S1 ++ S) (its := its) (o4 := o4a) (P := P) (vals := vals) (nn := nn) (rest := (I, oI) :: (37, tabObj ps37') :: (44, tabObj ps44') :: (L + 1 + 1 + 1, o3) :: (L + 1 + 1, o2) :: (L + 1, o1) :: (S1 ++ S)) (I := I) (oI := oI) G M TB hlen (by omega) b1 b2 b3 b4 b5 F2 hda hit (fun q hq => .tail _ (.tail _ (.tail _ (.tail _ (.tail _ (.tail _ hq)))))) ?_ ?_ k4.2.2.symm (News.drop N2 ?_) ?_
    · have := hpl.length
      simp at this
      omega
    · exact List.forall_mem_cons.mpr ⟨(hneR _ (.head _)).symm, List.forall_mem_cons.mpr ⟨kP37.symm, List.forall_mem_cons.mpr ⟨kP44.symm, List.forall_mem_cons.mpr ⟨k3.2.2, List.forall_mem_cons.mpr ⟨k2.2.2, List.forall_mem_cons.mpr ⟨k1.2.2,
        fun q hq => (List.mem_append.mp hq).elim (fun hq => hS1r q hq _ (.tail _ (.head _))) fun hq => hP q (.tail _ (.tail _ (.tail _ hq)))⟩⟩⟩⟩⟩⟩
    · have ap : ∀ {q}, q ∈ (I, oI) :: (P, W.listOf vals.toArray nn) :: (L + 1 + 1 + 1, o3) :: (L + 1 + 1, o2) :: (L + 1, o1) :: S → q ∈ (gl, W.listOf its.toArray nn1) :: (L + 1 + 1 + 1 + 1, o4a) :: (37, tabObj ps37') :: (44, tabObj ps44') :: (S1 ++ ((I, oI) :: (P, W.listOf vals.toArray nn) :: (L + 1 + 1 + 1, o3) :: (L + 1 + 1, o2) :: (L + 1, o1) :: S)) := fun hq => .tail _ (.tail _ (.tail _ (.tail _ (List.mem_append_right _ hq))))
      exact List.forall_mem_cons.mpr ⟨ap (.tail _ (.head _)), List.forall_mem_cons.mpr ⟨.tail _ (.head _), List.forall_mem_cons.mpr ⟨ap (.head _), List.forall_mem_cons.mpr ⟨.tail _ (.tail _ (.head _)), List.forall_mem_cons.mpr ⟨.tail _ (.tail _ (.tail _ (.head _))),
        List.forall_mem_cons.mpr ⟨ap (.tail _ (.tail _ (.head _))), List.forall_mem_cons.mpr ⟨ap (.tail _ (.tail _ (.tail _ (.head _)))), List.forall_mem_cons.mpr ⟨ap (.tail _ (.tail _ (.tail _ (.tail _ (.head _))))),
          fun q hq => (List.mem_append.mp hq).elim (fun hq => .tail _ (.tail _ (.tail _ (.tail _ (List.mem_append_left _ hq))))) fun hq => ap (.tail _ (.tail _ (.tail _ (.tail _ (.tail _ hq)))))⟩⟩⟩⟩⟩⟩⟩⟩
    intro h3 tk3 y nn3 S2 mc c1 c2 c3 c4 F3 hy fr N3
    have f37 := freshNe fr (N2 (37, tabObj ps37') (.tail _ (.tail _ (.head _)))).1
    have f44 := freshNe fr (N2 (44, tabObj ps44') (.tail _ (.tail _ (.tail _ (.head _))))).1
    have f4 := freshNe fr (N2 (L + 1 + 1 + 1 + 1, o4a) (.tail _ (.head _))).1
    have nR := fun q hq => N2 q (.tail _ (.tail _ (.tail _ (.tail _ (List.mem_append_right _ hq)))))
    have fI := freshNe fr (nR (I, oI) (.head _)).1
    have fP := freshNe fr (nR (P, W.listOf vals.toArray nn) (.tail _ (.head _))).1
    refine TurnG.next F3 N3 (.tail _ (.tail _ (.head _))) (news' := (37, tabObj ps37') :: (44, tabObj ps44') :: (L + 1 + 1 + 1 + 1, o4a) :: (P, W.listOf (vals ++ [y]).toArray nn3) :: (L + 1 + 1 + 1, o3) :: (L + 1 + 1, o2) :: (L + 1, o1) :: (S2 ++ (S1 ++ S))) ?_ ?_ ?_
    · have ap : ∀ {q}, q ∈ S1 ++ S → q ∈ (P, W.listOf (vals ++ [y]).toArray nn3) :: (L + 1 + 1 + 1 + 1, o4a) :: (((I, oI) :: (37, tabObj ps37') :: (44, tabObj ps44') :: (L + 1 + 1 + 1, o3) :: (L + 1 + 1, o2) :: (L + 1, o1) :: (S1 ++ S)) ++ S2) := fun hq => .tail _ (.tail _ (List.mem_append_left _ (.tail _ (.tail _ (.tail _ (.tail _ (.tail _ (.tail _ hq))))))))
      exact List.forall_mem_cons.mpr ⟨by k_mem, List.forall_mem_cons.mpr ⟨by k_mem, List.forall_mem_cons.mpr ⟨by k_mem, List.forall_mem_cons.mpr ⟨by k_mem, List.forall_mem_cons.mpr ⟨by k_mem, List.forall_mem_cons.mpr ⟨by k_mem, List.forall_mem_cons.mpr ⟨by k_mem,
        fun q hq => (List.mem_append.mp hq).elim (fun hq => .tail _ (.tail _ (List.mem_append_right _ hq))) ap⟩⟩⟩⟩⟩⟩⟩
    · exact List.forall_mem_cons.mpr ⟨i37, List.forall_mem_cons.mpr ⟨i44, List.forall_mem_cons.mpr ⟨i4, List.forall_mem_cons.mpr ⟨(hneR _ (.head _) : P ≠ I), List.forall_mem_cons.mpr ⟨hneR _ (.tail _ (.head _)), List.forall_mem_cons.mpr ⟨hneR _ (.tail _ (.tail _ (.head _))), List.forall_mem_cons.mpr ⟨hneR _ (.tail _ (.tail _ (.tail _ (.head _)))),
        fun q hq => (List.mem_append.mp hq).elim (fI q) fun hq => (List.mem_append.mp hq).elim (fun hq => hS1r q hq _ (.head _)) fun hq => hneR q (.tail _ (.tail _ (.tail _ (.tail _ hq))))⟩⟩⟩⟩⟩⟩⟩
    · have r0 : ∀ q ∈ (L + 1 + 1 + 1, o3) :: (L + 1 + 1, o2) :: (L + 1, o1) :: S, q.1 ∉ [37, 44, L + 1 + 1 + 1 + 1] := fun q hq => hr q (.tail _ hq)
      refine .mk (vals ++ [y]) nn3 ps37' ps44' o4a _ (S2 ++ (S1 ++ S)) c1 c2 c3 c4 hda (T37'.mono fun h x q hq => x q (List.mem_append_right _ hq)) (T44'.mono fun h x q hq => x q (List.mem_append_right _ hq)) ?_ ?_ ?_
      · exact List.forall_mem_cons.mpr ⟨hr (P, W.listOf vals.toArray nn) (.head _), List.forall_mem_cons.mpr ⟨r0 _ (.head _), List.forall_mem_cons.mpr ⟨r0 _ (.tail _ (.head _)), List.forall_mem_cons.mpr ⟨r0 _ (.tail _ (.tail _ (.head _))),
          fun q hq => (List.mem_append.mp hq).elim (fun hq => nin_cons (f37 q hq) (nin_cons (f44 q hq) (nin_cons (f4 q hq) nin_nil))) fun hq => (List.mem_append.mp hq).elim (fun hq hm => hS1 q hq (.tail _ hm)) fun hq => r0 q (.tail _ (.tail _ (.tail _ hq)))⟩⟩⟩⟩
      · exact List.forall_mem_cons.mpr ⟨k3.2.2, List.forall_mem_cons.mpr ⟨k2.2.2, List.forall_mem_cons.mpr ⟨k1.2.2,
          fun q hq => (List.mem_append.mp hq).elim (fP q) fun hq => (List.mem_append.mp hq).elim (fun hq => hS1r q hq _ (.tail _ (.head _))) fun hq => hP q (.tail _ (.tail _ (.tail _ hq)))⟩⟩⟩
      · rw [List.range_succ, List.map_append]
        exact PlAll.snoc (hy.mono fun q hq => List.mem_append_left _ hq) (hpl.mono fun q hq => List.mem_append_right _ (List.mem_append_right _ hq))
  · clear F1 N1 R1
    rintro m₁ news₁ h tk hmid F N
    exact next _ _ _ _ hmid F N
end Mine
end

section  -- T5
open PySem PySem.W PySem.Calls PyProof.Rows
set_option maxRecDepth 100000
set_option maxHeartbeats 1000000
namespace Mine
open LCg LCt
theorem PlAll.at {S : List (Addr × Obj)} : ∀ {ys : List Value} {rs : List (Option (Int × Int))} {i : Nat} {r : Option (Int × Int)}, PlAll S ys rs → rs[i]? = some r → ∃ y, ys[i]? = some y ∧ PlIs S y r
  | _, _, i, r, .nil, h => by simp at h
  | _, _, 0, r, .cons a t, h => by
    have e := Option.some.inj h
    subst e
    exact ⟨_, rfl, a⟩
  | _, _, i + 1, r, .cons a t, h => by
    obtain ⟨y, e, q⟩ := PlAll.at t (i := i) (r := r) (by simpa using h)
    exact ⟨y, by simpa using e, q⟩
noncomputable def plD : Option (Int × Int) → PyData
  | none => .none
  | some (a, b) => .tuple [.int a, .int b]
theorem PlIs.reads {S : List (Addr × Obj)} {h : Heap} {y : Value} {r : Option (Int × Int)} (x : PlIs S y r) (k : ∀ q ∈ S, h.get? q.1 = some q.2) : Reads h y (plD r) [] := by
  match r with
  | none =>
    have e : y = .none := x
    subst e
    exact .none
  | some (a, b) =>
    obtain ⟨p, ta, tb, rfl, hm⟩ := x
    exact .tuple (k _ hm) rfl rfl (.cons (as := []) (.int _ _) (.cons (as := []) (.int _ _) .nil))
theorem law_9 {w : World} {base : Heap} {L f : Addr} {cd : Value} {s : Shared} {m : Str → Option Value} {P : Addr} {o1 o2 o3 : Obj} {news : List (Addr × Obj)}
    {Q : Flow → Shared → Prop} {line col : Int} {tl tc tx : Tok} {n : Nat}
    {pr : Program} {loose : List Str} {mean : ExcName → Option Value} {mg mb : Str → Option Value}
    (G : GI w base) (M : Mod4 base) (TB : Top pr loose mean mg mb base) (hlen : (hexN n).length ≤ 18) (hdue : dueSpec n = some (line, col))
    (hmid : Mid L P o1 o2 o3 line col tl tc tx n ((hexN n).length + 1) m news) (F : Fr base L s.heap m) (N : News base L s.heap news)
    (next : ∀ h' tk m', Mid L P o1 o2 o3 line col tl tc tx n ((hexN n).length + 1) m' news → Fr base L h' m' → News base L h' news →
      wpAny (model PR w) (callerA.deeper (lawEnv L f cd)) (execs (lawDef.1.drop 13) (lawEnv L f cd)) Q (fun _ _ => False) { s with heap := h', toks := tk }) :
    wpAny (model PR w) (callerA.deeper (lawEnv L f cd)) (execs (lawDef.1.drop 12) (lawEnv L f cd)) Q (fun _ _ => False) s := by
  obtain ⟨mg', mb', TT⟩ := G.T
  have X := G.K
  obtain ⟨vals, nn, ps37, ps44, o4, v4, S, e1, e2, e3, e4, hd4, T37, T44, hr, hP, hpl⟩ := hmid
  have hread : readOf (hexN n) (hexN n).length = some (line, col) := by
    rw [plain (N := n) (by omega) (Nat.le_refl _), Nat.sub_self, Nat.pow_zero, Nat.div_one, hdue]
  obtain ⟨y, hy, hyl⟩ := hpl.at (i := (hexN n).length) (r := some (line, col)) (by simp [hread])
  have hvl := hpl.length
  simp at hvl
  obtain ⟨p, ta, tb, rfl, hpm⟩ := hyl
  replace F := Fr.setL F [(Str.ofString "line", .int line tl), (Str.ofString "col", .int col tc), (Str.ofString "letters", .str (lettersOf (hexN n)) tx), (Str.ofString "places", .ref P)] (fcC e1 (fcC e2 (fcC e3 (fcC e4 fcN))))
  clear e1 e2 e3 e4
  unfold lawEnv
  conv in lawDef.1.drop 12 => whnf
  conv in (occs := *) lawDef.2 => all_goals whnf
  w_on
  have : (fun P : Params => hd.heap_39 P) = hd.heap_39 ∧ PySem.Challenge.rw_pg0028_01 = PySem.Challenge.rw_pg0028_01 := by k_fill; exact ⟨rfl, rfl⟩
  clear this
  walk1
  (repeat' (first | ((fail_if_success (with_reducible show wpAny _ _ (execs (_ :: _) _) _ _ _)); (fail_if_success (with_reducible show wpAny _ _ (exec (Stmt.For _ _ _ _ _) _) _ _ _)); (fail_if_success (with_reducible show wpAny _ _ (exec (Stmt.While _ _ _ _) _) _ _ _)); (fail_if_success (with_reducible show wpAny _ _ (exec (Stmt.Assign _ (Expr.ListComp _ _ _ _) _) _) _ _ _)); (fail_if_success (with_reducible show wpAny _ _ (pyIter _) _ _ _)); (fail_if_success (with_reducible show wpAny _ _ (eval (Expr.ListComp _ _ _ _) _) _ _ _)); (fail_if_success (with_reducible show wpAny _ _ (subscriptTail _ _ _ _) _ _ _)); (fail_if_success (with_reducible show wpAny _ _ (newList _) _ _ _)); (fail_if_success (with_reducible show wpAny _ _ (call (Value.ref _) _) _ _ _)); (fail_if_success (with_reducible show wpAny _ _ (call (Value.builtin _) _) _ _ _)); (fail_if_success (with_reducible show wpAny _ _ (compareOp _ (Value.ref _) (Value.ref _)) _ _ _)); (first | walk1 | (dsimp only; walk1)))))
  have nP := N (P, W.listOf vals.toArray nn) (.tail _ (.tail _ (.tail _ (.head _))))
  have hLi : s.heap.IsList P vals.toArray := isList_of nP.1
  refine tail_any hLi.typeIs slot_list_getitem.lookup (wpAny_getItem_list_neg (x := Value.ref p) hLi (by decide) (by simp; omega) (by decide) ?_ ?_) (by with_unfolding_all rfl)
  · have e : (-1 + (vals.toArray.size : Int)).toNat = (hexN n).length := by simp; omega
    rw [e]
    simpa using hy
  (repeat' (first | ((fail_if_success (with_reducible show wpAny _ _ (execs (_ :: _) _) _ _ _)); (fail_if_success (with_reducible show wpAny _ _ (exec (Stmt.For _ _ _ _ _) _) _ _ _)); (fail_if_success (with_reducible show wpAny _ _ (exec (Stmt.While _ _ _ _) _) _ _ _)); (fail_if_success (with_reducible show wpAny _ _ (exec (Stmt.Assign _ (Expr.ListComp _ _ _ _) _) _) _ _ _)); (fail_if_success (with_reducible show wpAny _ _ (pyIter _) _ _ _)); (fail_if_success (with_reducible show wpAny _ _ (eval (Expr.ListComp _ _ _ _) _) _ _ _)); (fail_if_success (with_reducible show wpAny _ _ (subscriptTail _ _ _ _) _ _ _)); (fail_if_success (with_reducible show wpAny _ _ (newList _) _ _ _)); (fail_if_success (with_reducible show wpAny _ _ (call (Value.ref _) _) _ _ _)); (fail_if_success (with_reducible show wpAny _ _ (call (Value.builtin _) _) _ _ _)); (fail_if_success (with_reducible show wpAny _ _ (compareOp _ (Value.ref _) (Value.ref _)) _ _ _)); (first | walk1 | (dsimp only; walk1)))))
  have F2 := (by assumption : Fr base L _ _)
  have N2 := (by assumption : News base L _ ((_, _) :: (37, _) :: _))
  have hr1 := PlIs.reads (S := S) (r := some (line, col)) ⟨p, ta, tb, rfl, hpm⟩ (fun q hq => N2.get (.tail _ (.tail _ (.tail _ (.tail _ (.tail _ (.tail _ (.tail _ (.tail _ hq)))))))))
  have hr2 := Reads.tuple (xs := [.int line, .int col]) (N2.get (.head _)) rfl rfl (.cons (as := []) (.int line tl) (.cons (as := []) (.int col tc) .nil))
  have hsh : PySem.SeqAt.shaped (.tuple [.int line, .int col]) = true := by
    unfold PySem.SeqAt.shaped
    simp [PyData.canLay0, PyData.canLayAll0, PyData.depth, PyData.depthAll]
  refine ne_dataH hr1 hr2 hsh hsh (Nat.lt_of_lt_of_le (Nat.lt_succ_self _) (Nat.le_of_ble_eq_true rfl)) ?_
  have he : PyData.eqv (plD (some (line, col))) (.tuple [.int line, .int col]) = true := PySem.SeqAt.eqv_refl _ (PySem.SeqAt.canLay_of_shaped hsh)
  rw [he]
  (repeat' (first | ((fail_if_success (with_reducible show wpAny _ _ (execs (_ :: _) _) _ _ _)); (fail_if_success (with_reducible show wpAny _ _ (exec (Stmt.For _ _ _ _ _) _) _ _ _)); (fail_if_success (with_reducible show wpAny _ _ (exec (Stmt.While _ _ _ _) _) _ _ _)); (fail_if_success (with_reducible show wpAny _ _ (exec (Stmt.Assign _ (Expr.ListComp _ _ _ _) _) _) _ _ _)); (fail_if_success (with_reducible show wpAny _ _ (pyIter _) _ _ _)); (fail_if_success (with_reducible show wpAny _ _ (eval (Expr.ListComp _ _ _ _) _) _ _ _)); (fail_if_success (with_reducible show wpAny _ _ (subscriptTail _ _ _ _) _ _ _)); (fail_if_success (with_reducible show wpAny _ _ (newList _) _ _ _)); (fail_if_success (with_reducible show wpAny _ _ (call (Value.ref _) _) _ _ _)); (fail_if_success (with_reducible show wpAny _ _ (call (Value.builtin _) _) _ _ _)); (fail_if_success (with_reducible show wpAny _ _ (compareOp _ (Value.ref _) (Value.ref _)) _ _ _)); (first | walk1 | (dsimp only; walk1)))))
  exact next _ _ _ (.mk vals nn ps37 ps44 o4 v4 S rfl rfl rfl rfl hd4 T37 T44 hr hP hpl) F2 (News.drop N2 (fun p hp => .tail _ hp))
end Mine
end

section  -- T6
open PySem PySem.W PySem.Calls PyProof.Rows
set_option maxRecDepth 100000
set_option maxHeartbeats 1000000
namespace Mine
open LCg LCt
theorem PlAll.readsAll {S : List (Addr × Obj)} {h : Heap} (k : ∀ q ∈ S, h.get? q.1 = some q.2) : ∀ {ys : List Value} {rs : List (Option (Int × Int))}, PlAll S ys rs → ReadsAll h ys (rs.map plD) []
  | _, _, .nil => .nil
  | _, _, .cons a t => .cons (as := []) (a.reads k) (PlAll.readsAll k t)
theorem plD_lay : ∀ rs : List (Option (Int × Int)), PyData.canLayAll0 (rs.map plD) = true ∧ PyData.depthAll (rs.map plD) ≤ 3
  | [] => by simp [PyData.canLayAll0, PyData.depthAll]
  | r :: rs => by
    obtain ⟨h1, h2⟩ := plD_lay rs
    match r with
    | none => 
      simp only [List.map_cons, PyData.canLayAll0, PyData.depthAll, plD, PyData.canLay0, PyData.depth, h1]
      exact ⟨rfl, by omega⟩
    | some (a, b) =>
      simp only [List.map_cons, PyData.canLayAll0, PyData.depthAll, plD, PyData.canLay0, PyData.depth, h1]
      exact ⟨rfl, by omega⟩
theorem plD_shaped (rs : List (Option (Int × Int))) : PySem.SeqAt.shaped (.list (rs.map plD)) = true := by
  obtain ⟨h1, h2⟩ := plD_lay rs
  unfold PySem.SeqAt.shaped
  rw [Bool.and_eq_true]
  refine ⟨by simpa [PyData.canLay0] using h1, decide_eq_true ?_⟩
  simp only [PyData.depth]
  omega
theorem law_10 {w : World} {base : Heap} {L f : Addr} {cd : Value} {s : Shared} {m : Str → Option Value} {P : Addr} {o1 o2 o3 : Obj} {news : List (Addr × Obj)}
    {Q : Flow → Shared → Prop} {line col : Int} {tl tc tx tn ts : Tok} {n : Nat}
    {pr : Program} {loose : List Str} {mean : ExcName → Option Value} {mg mb : Str → Option Value}
    (G : GI w base) (M : Mod4 base) (TB : Top pr loose mean mg mb base) (hlen : (hexN n).length ≤ 18) (hn : Hid (n < 16 ^ 18))
    (hd2 : o2.data = .cell (some (.int (n : Int) tn))) (hd3 : o3.data = .cell (some (.int ((hexN n).length : Int) ts)))
    (hmid : Mid L P o1 o2 o3 line col tl tc tx n ((hexN n).length + 1) m news) (F : Fr base L s.heap m) (N : News base L s.heap news)
    (next : ∀ h' tk m' news', Fr base L h' m' → News base L h' news' → (∃ ps, (37, tabObj ps) ∈ news') → (∃ ps, (44, tabObj ps) ∈ news') → Q (.ret (.bool true)) { s with heap := h', toks := tk }) :
    wpAny (model PR w) (callerA.deeper (lawEnv L f cd)) (execs (lawDef.1.drop 13) (lawEnv L f cd)) Q (fun _ _ => False) s := by
  obtain ⟨mg', mb', TT⟩ := G.T
  have X := G.K
  obtain ⟨vals, nn, ps37, ps44, o4, v4, S, e1, e2, e3, e4, hd4, T37, T44, hr, hP, hpl⟩ := hmid
  clear hr hP T37 T44 e1 e2 e3
  replace F := Fr.setL F [(Str.ofString "places", .ref P)] (fcC e4 fcN)
  clear e4
  unfold lawEnv
  conv in lawDef.1.drop 13 => whnf
  conv in (occs := *) lawDef.2 => all_goals whnf
  w_on
  have : (fun P : Params => hd.heap_39 P) = hd.heap_39 ∧ PySem.Challenge.rw_pg0028_01 = PySem.Challenge.rw_pg0028_01 := by k_fill; exact ⟨rfl, rfl⟩
  clear this
  walk1
  (repeat' (first | ((fail_if_success (with_reducible show wpAny _ _ (execs (_ :: _) _) _ _ _)); (fail_if_success (with_reducible show wpAny _ _ (exec (Stmt.For _ _ _ _ _) _) _ _ _)); (fail_if_success (with_reducible show wpAny _ _ (exec (Stmt.While _ _ _ _) _) _ _ _)); (fail_if_success (with_reducible show wpAny _ _ (exec (Stmt.Assign _ (Expr.ListComp _ _ _ _) _) _) _ _ _)); (fail_if_success (with_reducible show wpAny _ _ (pyIter _) _ _ _)); (fail_if_success (with_reducible show wpAny _ _ (eval (Expr.ListComp _ _ _ _) _) _ _ _)); (fail_if_success (with_reducible show wpAny _ _ (subscriptTail _ _ _ _) _ _ _)); (fail_if_success (with_reducible show wpAny _ _ (newList _) _ _ _)); (fail_if_success (with_reducible show wpAny _ _ (call (Value.ref _) _) _ _ _)); (fail_if_success (with_reducible show wpAny _ _ (call (Value.builtin _) _) _ _ _)); (fail_if_success (with_reducible show wpAny _ _ (compareOp _ (Value.ref _) (Value.ref _)) _ _ _)); (first | walk1 | (dsimp only; walk1)))))
  refine ListComp_I (h₀ := base) (L := L) (m := setL m [(Str.ofString "places", .ref P)]) (by rfl) (by decide) (by rfl) (by decide) (by rfl) ?_
  (repeat' (first | ((fail_if_success (with_reducible show wpAny _ _ (execs (_ :: _) _) _ _ _)); (fail_if_success (with_reducible show wpAny _ _ (exec (Stmt.For _ _ _ _ _) _) _ _ _)); (fail_if_success (with_reducible show wpAny _ _ (exec (Stmt.While _ _ _ _) _) _ _ _)); (fail_if_success (with_reducible show wpAny _ _ (exec (Stmt.Assign _ (Expr.ListComp _ _ _ _) _) _) _ _ _)); (fail_if_success (with_reducible show wpAny _ _ (pyIter _) _ _ _)); (fail_if_success (with_reducible show wpAny _ _ (eval (Expr.ListComp _ _ _ _) _) _ _ _)); (fail_if_success (with_reducible show wpAny _ _ (subscriptTail _ _ _ _) _ _ _)); (fail_if_success (with_reducible show wpAny _ _ (newList _) _ _ _)); (fail_if_success (with_reducible show wpAny _ _ (call (Value.ref _) _) _ _ _)); (fail_if_success (with_reducible show wpAny _ _ (call (Value.builtin _) _) _ _ _)); (fail_if_success (with_reducible show wpAny _ _ (compareOp _ (Value.ref _) (Value.ref _)) _ _ _)); (first | walk1 | (dsimp only; walk1)))))
  have F1 := (by assumption : Fr base L _ _)
  have N1 := (by assumption : News base L _ ((37, _) :: _))
  have R1 := (by assumption : IsRange _ _ _ _ _ _ _ _)
  obtain ⟨fx, hfx⟩ : ∃ fx, fx = ((37, tabObj ps37) :: (44, tabObj ps44) :: (L + 1 + 1 + 1 + 1, o4) :: (P, W.listOf vals.toArray nn) :: (L + 1 + 1 + 1, o3) :: (L + 1 + 1, o2) :: (L + 1, o1) :: S) := ⟨_, rfl⟩
  rw [← hfx] at N1
  have m37 : (37, tabObj ps37) ∈ fx := by rw [hfx]; k_mem
  have m44 : (44, tabObj ps44) ∈ fx := by rw [hfx]; k_mem
  have mP : (P, W.listOf vals.toArray nn) ∈ fx := by rw [hfx]; k_mem
  have m3 : (L + 1 + 1 + 1, o3) ∈ fx := by rw [hfx]; k_mem
  have m2 : (L + 1 + 1, o2) ∈ fx := by rw [hfx]; k_mem
  have mS : ∀ q ∈ S, q ∈ fx := fun q hq => by rw [hfx]; exact .tail _ (.tail _ (.tail _ (.tail _ (.tail _ (.tail _ (.tail _ hq))))))
  clear hfx
  refine compIt_range (n := (hexN n).length + 1) (by rfl) R1 (by push_cast; rfl) (by omega) F1 N1 ?_
  rintro s₂ ⟨h4, rfl⟩
  refine comp_restJ (fun i ys nw => ∃ S2, nw = S2 ++ fx ∧ PlAll S2 ys ((List.range i).map fun j => dueSpec (n / 16 ^ ((hexN n).length - j)))) ⟨[], rfl, .nil⟩ ?_ ?_
  · rintro i ys nw v I oI C oC D m₂ h5 tk5 E' hi ⟨S2, rfl, hys⟩ ⟨_, tv, rfl⟩ hC hm₂ F5 N5 off ne
    clear F1 N1 R1
    have hn0 : (0 : Int) ≤ (n : Int) := by omega
    have hnb : (n : Int) < 16 ^ 18 := by have := hn.out; omega
    dsimp only
    refine Call_ ?_
    (repeat' (first | ((fail_if_success (with_reducible show wpAny _ _ (eval (Expr.Name _ _) _) _ _ _)); (fail_if_success (with_reducible show wpAny _ _ (compareOp _ _ _) _ _ _)); (fail_if_success (with_reducible show wpAny _ _ (call (Value.ref _) _) _ _ _)); (first | walk1 | (dsimp only; walk1)))))
    refine LCgL.ld_global F5 X TB (by k_is) ?_
    (repeat' (first | ((fail_if_success (with_reducible show wpAny _ _ (eval (Expr.Name _ _) _) _ _ _)); (fail_if_success (with_reducible show wpAny _ _ (compareOp _ _ _) _ _ _)); (fail_if_success (with_reducible show wpAny _ _ (call (Value.ref _) _) _ _ _)); (first | walk1 | (dsimp only; walk1)))))
    refine lcf_cell (o := o2) N5 rfl (.tail _ (.tail _ (.tail _ (List.mem_append_right _ m2)))) hd2 ?_ rfl rfl
    (repeat' (first | ((fail_if_success (with_reducible show wpAny _ _ (eval (Expr.Name _ _) _) _ _ _)); (fail_if_success (with_reducible show wpAny _ _ (compareOp _ _ _) _ _ _)); (fail_if_success (with_reducible show wpAny _ _ (call (Value.ref _) _) _ _ _)); (first | walk1 | (dsimp only; walk1)))))
    refine lcf_cell (o := o3) N5 rfl (.tail _ (.tail _ (.tail _ (List.mem_append_right _ m3)))) hd3 ?_ rfl rfl
    (repeat' (first | ((fail_if_success (with_reducible show wpAny _ _ (eval (Expr.Name _ _) _) _ _ _)); (fail_if_success (with_reducible show wpAny _ _ (compareOp _ _ _) _ _ _)); (fail_if_success (with_reducible show wpAny _ _ (call (Value.ref _) _) _ _ _)); (first | walk1 | (dsimp only; walk1)))))
    refine LCgL.ld_own N5 (.tail _ (.head _)) hC hm₂ ?_
    (repeat' (first | ((fail_if_success (with_reducible show wpAny _ _ (eval (Expr.Name _ _) _) _ _ _)); (fail_if_success (with_reducible show wpAny _ _ (compareOp _ _ _) _ _ _)); (fail_if_success (with_reducible show wpAny _ _ (call (Value.ref _) _) _ _ _)); (first | walk1 | (dsimp only; walk1)))))
    have ej : ((((hexN n).length : Nat) : Int) - (i : Int)).toNat = (hexN n).length - i := by omega
    rw [ej]
    refine fdiv_pow (by omega) ?_
    dsimp only
    (repeat' (first | ((fail_if_success (with_reducible show wpAny _ _ (eval (Expr.Name _ _) _) _ _ _)); (fail_if_success (with_reducible show wpAny _ _ (compareOp _ _ _) _ _ _)); (fail_if_success (with_reducible show wpAny _ _ (call (Value.ref _) _) _ _ _)); (first | walk1 | (dsimp only; walk1)))))
    have F6 := (by assumption : Fr base L _ _)
    have N6 := (by assumption : News base L _ _)
    have hle : n / 16 ^ ((hexN n).length - i) ≤ n := Nat.div_le_self _ _
    refine useB (due_c (G.keeps F6.keep) (Nat.lt_of_lt_of_le (Nat.lt_succ_self _) (Nat.le_of_ble_eq_true rfl)) (Int.natCast_nonneg _) ⟨?_⟩ (Nat.lt_of_lt_of_le (Nat.lt_succ_self _) (Nat.le_of_ble_eq_true rfl))) F6 N6 ?_
    · have : (((n / 16 ^ ((hexN n).length - i) : Nat) : Int)).toNat = n / 16 ^ ((hexN n).length - i) := rfl
      rw [this]
      exact Nat.lt_of_le_of_lt hle hn.out
    intro y h7 tk7 k7 F7 N7 hpl7
    have hpl8 : IsPl h5 y h7 (dueSpec (n / 16 ^ ((hexN n).length - i))) := hpl7
    dsimp only
    rw [List.range_succ, List.map_append]
    generalize hrr : dueSpec (n / 16 ^ ((hexN n).length - i)) = r at hpl8
    match r with
    | none =>
      have hy : y = .none := hpl8
      refine CompEnd.intro F7 N7 _ (fun p hp => hp) off trivial ⟨S2, rfl, hys.snoc ?_⟩
      show PlIs S2 y (dueSpec _)
      rw [hrr]
      exact hy
    | some (ra, rb) =>
      obtain ⟨p, ta, tb, rfl, hp5, hp7⟩ := hpl8
      have fr : Fresh [(p, tupOf #[.int ra ta, .int rb tb])] h5 := fun q hq => by rw [List.mem_singleton.mp hq]; exact hp5
      have N8 := newsOf F5 (fun q hq => by rw [List.mem_singleton.mp hq]; exact hp7) fr
      have fI := freshNe fr (N5 (I, oI) (.head _)).1
      have fC := freshNe fr (N5 (C, oC) (.tail _ (.head _))).1
      have fD := freshNe fr (N5 (D, lst ys) (.tail _ (.tail _ (.head _)))).1
      refine CompEnd.intro F7 (News.both N7 N8) (((p, tupOf #[.int ra ta, .int rb tb]) :: S2) ++ _) ?_ (Off3.of ?_) trivial ⟨(p, tupOf #[.int ra ta, .int rb tb]) :: S2, rfl, PlAll.snoc ?_ (hys.mono fun q hq => .tail _ hq)⟩
      · exact List.forall_mem_cons.mpr ⟨.head _, List.forall_mem_cons.mpr ⟨.tail _ (.head _), List.forall_mem_cons.mpr ⟨.tail _ (.tail _ (.head _)), fun q hq => (List.mem_append.mp hq).elim (fun hq => (List.mem_cons.mp hq).elim (fun e => by rw [e]; exact List.mem_append_right _ (.head _))
          fun hq => List.mem_append_left _ (.tail _ (.tail _ (.tail _ (List.mem_append_left _ hq))))) fun hq => List.mem_append_left _ (.tail _ (.tail _ (.tail _ (List.mem_append_right _ hq))))⟩⟩⟩
      · intro q hq
        rcases List.mem_append.mp hq with hq | hq
        · rcases List.mem_cons.mp hq with rfl | hq
          · exact ⟨fI _ (.head _), fC _ (.head _), fD _ (.head _)⟩
          · exact off.mem q (List.mem_append_left _ hq)
        · exact off.mem q (List.mem_append_right _ hq)
      · show PlIs _ _ (dueSpec _)
        rw [hrr]
        exact ⟨p, ta, tb, rfl, .head _⟩
  · rintro ys nw ⟨S2, rfl, hys⟩
    intro D h6 tk6 F6 N6 _
    dsimp only
    (repeat' (first | ((fail_if_success (with_reducible show wpAny _ _ (execs (_ :: _) _) _ _ _)); (fail_if_success (with_reducible show wpAny _ _ (exec (Stmt.For _ _ _ _ _) _) _ _ _)); (fail_if_success (with_reducible show wpAny _ _ (exec (Stmt.While _ _ _ _) _) _ _ _)); (fail_if_success (with_reducible show wpAny _ _ (exec (Stmt.Assign _ (Expr.ListComp _ _ _ _) _) _) _ _ _)); (fail_if_success (with_reducible show wpAny _ _ (pyIter _) _ _ _)); (fail_if_success (with_reducible show wpAny _ _ (eval (Expr.ListComp _ _ _ _) _) _ _ _)); (fail_if_success (with_reducible show wpAny _ _ (subscriptTail _ _ _ _) _ _ _)); (fail_if_success (with_reducible show wpAny _ _ (newList _) _ _ _)); (fail_if_success (with_reducible show wpAny _ _ (call (Value.ref _) _) _ _ _)); (fail_if_success (with_reducible show wpAny _ _ (call (Value.builtin _) _) _ _ _)); (fail_if_success (with_reducible show wpAny _ _ (compareOp _ (Value.ref _) (Value.ref _)) _ _ _)); (first | walk1 | (dsimp only; walk1)))))
    have hrs : ((List.range ((hexN n).length + 1)).map fun j => dueSpec (n / 16 ^ ((hexN n).length - j))) = (List.range ((hexN n).length + 1)).map (readOf (hexN n)) := by
      apply List.map_congr_left
      intro j hj
      have := List.mem_range.mp hj
      exact (plain (N := n) (e := j) (by omega) (by omega)).symm
    rw [hrs] at hys
    have kS2 : ∀ q ∈ S2, h6.get? q.1 = some q.2 := fun q hq => N6.get (.tail _ (List.mem_append_left _ hq))
    have kS : ∀ q ∈ S, h6.get? q.1 = some q.2 := fun q hq => N6.get (.tail _ (List.mem_append_right _ (mS q hq)))
    have ra := Reads.list (N6.get (a := P) (o := W.listOf vals.toArray nn) (.tail _ (List.mem_append_right _ mP))) rfl rfl (hpl.readsAll kS)
    have rb := Reads.list (N6.get (.head _)) rfl rfl (hys.readsAll kS2)
    have hsh := plD_shaped ((List.range ((hexN n).length + 1)).map (readOf (hexN n)))
    refine PyProof.Rows.eq_dataH ra rb hsh hsh (Nat.lt_of_lt_of_le (Nat.lt_succ_self _) (Nat.le_of_ble_eq_true rfl)) ?_
    rw [PySem.SeqAt.eqv_refl _ (PySem.SeqAt.canLay_of_shaped hsh)]
    (repeat' (first | ((fail_if_success (with_reducible show wpAny _ _ (execs (_ :: _) _) _ _ _)); (fail_if_success (with_reducible show wpAny _ _ (exec (Stmt.For _ _ _ _ _) _) _ _ _)); (fail_if_success (with_reducible show wpAny _ _ (exec (Stmt.While _ _ _ _) _) _ _ _)); (fail_if_success (with_reducible show wpAny _ _ (exec (Stmt.Assign _ (Expr.ListComp _ _ _ _) _) _) _ _ _)); (fail_if_success (with_reducible show wpAny _ _ (pyIter _) _ _ _)); (fail_if_success (with_reducible show wpAny _ _ (eval (Expr.ListComp _ _ _ _) _) _ _ _)); (fail_if_success (with_reducible show wpAny _ _ (subscriptTail _ _ _ _) _ _ _)); (fail_if_success (with_reducible show wpAny _ _ (newList _) _ _ _)); (fail_if_success (with_reducible show wpAny _ _ (call (Value.ref _) _) _ _ _)); (fail_if_success (with_reducible show wpAny _ _ (call (Value.builtin _) _) _ _ _)); (fail_if_success (with_reducible show wpAny _ _ (compareOp _ (Value.ref _) (Value.ref _)) _ _ _)); (first | walk1 | (dsimp only; walk1)))))
    exact next _ _ _ _ F6 N6 ⟨ps37, .tail _ (List.mem_append_right _ m37)⟩ ⟨ps44, .tail _ (List.mem_append_right _ m44)⟩
end Mine
end

section  -- J1
open PySem PySem.W PySem.Calls PyProof.Rows
set_option maxRecDepth 100000
set_option maxHeartbeats 4000000
namespace Mine
theorem lw_nil : looseW hd.view_39 [] = [] := by kernel_rfl
theorem b4_at (P : Params) : nsIn (hd.heap_39 P) mainGlobals (Str.ofString "__builtins__") = some (some (.ref 4)) := by rfl
theorem gi_top {w : World} {h base : Heap} {mg mb mb' : Str → Option Value} {mean mean' : ExcName → Option Value} {pr' : Program} {loose' : List Str} (X : (hd.heap_39 w.params).In base) (T : Top hd.view_39 (looseW hd.view_39 []) mean mg mb' h) (T' : Top pr' loose' mean' mg mb base) : GI w base :=
  ⟨X, mg, mb, T'.g, T'.b, T'.nolimit, T'.builtins, by have := T.free; rw [lw_nil] at this; exact this⟩
theorem mod4_top {w : World} {base : Heap} {mg mb : Str → Option Value} {mean' : ExcName → Option Value} {pr' : Program} {loose' : List Str} (X : (hd.heap_39 w.params).In base) (T' : Top pr' loose' mean' mg mb base) : Mod4 base := by
  obtain ⟨bm, ob, e1, e2, e3, e4, e5, e6⟩ := T'.bmain
  have e7 := mg_of X T'.g (b4_at w.params)
  have e8 : mg (Str.ofString "__builtins__") = some (.ref bm) := e1
  rw [e7] at e8
  have e9 : (4 : Addr) = bm := Value.ref.inj (Option.some.inj e8)
  subst e9
  obtain ⟨c, d, dt, sl⟩ := ob
  have e4' : c = .type "module" := e4
  have e5' : d = some builtinsNs := e5
  have e6' : dt = .plain := e6
  subst e4' e5' e6'
  exact ⟨sl, e3⟩
theorem row_small (c0 c1 c2 c3 c4 c5 c6 c7 : Int) {line col : Int} (hline : -1000 ≤ line ∧ line < 1000) (hcol : 0 ≤ col ∧ col < 1000) :
    (∀ x ∈ rowOf c0 c1 c2 c3 c4 c5 c6 c7 line col, 0 ≤ x ∧ x < 16) ∧ (rowOf c0 c1 c2 c3 c4 c5 c6 c7 line col).length ≤ 18 := by
  have hdec : ∀ n : Nat, ∀ x ∈ decN n, 0 ≤ x ∧ x < 16 := fun n x hx => by
    obtain ⟨l, a1, a2, _, _⟩ := decN_zs n
    rw [a1] at hx
    obtain ⟨d, hd, rfl⟩ := List.mem_map.mp hx
    have := a2 d hd
    omega
  have hla := decN_len4 (n := line.natAbs) (by omega)
  have hlc := decN_len4 (n := col.natAbs) (by omega)
  unfold rowOf
  constructor
  · intro x hx
    simp only [List.mem_append] at hx
    rcases hx with (((hx | hx) | hx) | hx) | hx
    · obtain ⟨c, hc, rfl⟩ := List.mem_map.mp hx
      rw [Int.fmod_eq_emod_of_nonneg _ (by decide)]
      omega
    · have := List.mem_singleton.mp hx
      split at this <;> omega
    · exact hdec _ x hx
    · have := List.mem_singleton.mp hx
      omega
    · exact hdec _ x hx
  · simp only [List.length_append, List.length_map, List.length_cons, List.length_nil]
    omega
theorem body {w : World} {base : Heap} {L f : Addr} {cd : Value} {s : Shared} {m : Str → Option Value} {sl : Addr} {vs : List Value} {ns : List Int} {o1 o2 o3 o4 : Obj} {Q : Flow → Shared → Prop}
    {pr : Program} {loose : List Str} {mean : ExcName → Option Value} {mg mb : Str → Option Value}
    (G : GI w base) (M : Mod4 base) (TB : Top pr loose mean mg mb base) (F : Fr base L s.heap m)
    (N : News base L s.heap [(L + 1 + 1 + 1 + 1, o4), (L + 1 + 1 + 1, o3), (L + 1 + 1, o2), (L + 1, o1), (37, tabObj #[]), (44, tabObj #[])])
    (hd1 : o1.data = .cell (some (.ref sl))) (hd2 : o2.data = .cell none) (hd3 : o3.data = .cell none) (hd4 : o4.data = .cell none)
    (hl : base.IsList sl vs.toArray) (hi : IntsAre vs ns) (hn : ns.length ≤ 63)
    (next : ∀ h' tk m' news', Fr base L h' m' → News base L h' news' → (∃ ps, (37, tabObj ps) ∈ news') → (∃ ps, (44, tabObj ps) ∈ news') → Q (.ret (.bool true)) { s with heap := h', toks := tk }) :
    wpAny (model PR w) (callerA.deeper (lawEnv L f cd)) (execs lawDef.1 (lawEnv L f cd)) Q (fun _ _ => False) s := by
  refine law_1 G TB F N hd1 hl hi hn ?_
  intro h1 tk1 D c0 c1 c2 c3 c4 c5 c6 c7 c8 c9 t0 t1 t2 t3 t4 t5 t6 t7 t8 t9 tl tc m1 a1 a2 a3 F1 N1
  have hline : -1000 ≤ c8.fmod 2000 - 1000 ∧ c8.fmod 2000 - 1000 < 1000 := by
    rw [Int.fmod_eq_emod_of_nonneg _ (by decide)]; omega
  have hcol : 0 ≤ c9.fmod 1000 ∧ c9.fmod 1000 < 1000 := by
    rw [Int.fmod_eq_emod_of_nonneg _ (by decide)]; omega
  obtain ⟨n, hnum, hn0, hn18, hlen, hdue⟩ := row_num c0 c1 c2 c3 c4 c5 c6 c7 hline hcol
  obtain ⟨hsm, hrl⟩ := row_small c0 c1 c2 c3 c4 c5 c6 c7 hline hcol
  have hpos : 0 < (hexN n).length := by
    rw [hexN_pos (by omega)]; simp
  have hnH : Hid (n < 16 ^ 18) := ⟨hn18⟩
  have hnZ : Hid ((n : Int) < 16 ^ 18) := ⟨by omega⟩
  clear hn18 hn0
  refine law_2 (s := { s with heap := h1, toks := tk1 }) G TB hline hcol a1 a2 a3 F1 N1 ?_
  clear F N F1 N1 a1 a2 a3
  intro h2 tk2 R us m2 hrow a1 a2 a3 F2 N2
  refine law_3 (s := { s with heap := h2, toks := tk2 }) G TB hd2 hrow hsm hrl a1 a2 a3 F2 N2 ?_
  clear F2 N2 a1 a2 a3
  intro h3 tk3 tn m3 p2 a1 a2 F3 hp2 N3
  rw [hnum] at hp2
  refine law_4 (s := { s with heap := h3, toks := tk3 }) G TB hp2 hd3 hlen hnZ a1 a2 F3 N3 ?_
  clear F3 N3 a1 a2
  intro h4 tk4 ts m4 p3 a1 a2 F4 hp3 N4
  refine law_5 (s := { s with heap := h4, toks := tk4 }) G TB hd1 hp2 hp3 hlen hnH hl hi a1 a2 F4 N4 ?_
  clear F4 N4 a1 a2
  intro h5 tk5 u m5 a1 a2 a3 F5 N5
  refine law_6 (s := { s with heap := h5, toks := tk5 }) G TB hp2 hp3 hlen hnH a1 a2 a3 F5 N5 ?_
  clear F5 N5 a1 a2 a3
  intro h6 tk6 m6 a1 a2 a3 F6 N6
  refine law_7 (s := { s with heap := h6, toks := tk6 }) G TB hlen hpos a1 a2 a3 F6 N6 ?_
  clear F6 N6 a1 a2 a3
  intro h7 tk7 tx P m7 a1 a2 a3 a4 F7 N7
  refine law_8 (s := { s with heap := h7, toks := tk7 }) G M TB hlen a1 a2 a3 a4 F7 hd1 hp2 hp3 hd4 N7 ?_
  clear F7 N7 a1 a2 a3 a4
  intro h8 tk8 m8 news8 hmid F8 N8
  refine law_9 (s := { s with heap := h8, toks := tk8 }) G M TB hlen hdue hmid F8 N8 ?_
  clear F8 N8 hmid
  intro h9 tk9 m9 hmid F9 N9
  refine law_10 (s := { s with heap := h9, toks := tk9 }) G M TB hlen hnH hp2 hp3 hmid F9 N9 ?_
  clear F9 N9 hmid
  intro h10 tk10 m10 news10 F10 N10 e37 e44
  exact next _ _ _ _ F10 N10 e37 e44
theorem fin : PySem.Challenge.rw_pg0028_01.Holds := hd (by
  k_go0
  have T0 := (by assumption : Top hd.view_39 _ _ _ _ _)
  have T1 := (by assumption : Top topProg _ _ _ _ _)
  have X1 := (by assumption : (hd.heap_39 _).In (ghostOf _ _))
  have F1 := (by assumption : Fr _ _ _ _)
  have N1 := (by assumption : News _ _ _ _)
  have G := gi_top X1 T0 T1
  have M := mod4_top X1 T1
  have hl := (by assumption : (ghostOf _ _).IsList _ _)
  have hi := (by assumption : IntsAre _ _)
  have hc := (by assumption : ¬ ((63 : Nat) : Int) < _)
  refine wpAny_noRaise ?_
  refine body G M T1 F1 N1 ?_ ?_ ?_ ?_ hl hi (by omega) ?_
  · exact Eq.trans (by assumption) (by rfl)
  · exact Eq.trans (by assumption) (by rfl)
  · exact Eq.trans (by assumption) (by rfl)
  · exact Eq.trans (by assumption) (by rfl)
  · intro h' tk m' news' F2 N2 e37 e44
    obtain ⟨p37, e37⟩ := e37
    obtain ⟨p44, e44⟩ := e44
    refine ⟨?_, GrownAt.of N2 e37, GrownAt.of N2 e44, trivial⟩
    refine ⟨.inl ⟨.bool true, .bool true, [], rfl, ?_, .bool true, ?_, fun _ => ⟨List.nodup_nil, fun a ha => nomatch ha⟩⟩, F2.keep, rfl, by assumption⟩
    · intro cls
      rfl
    · first
        | wrow_post
        | (unfold RowW.claim WTm.holds; simp [WTm.value, same]; rfl))
end Mine
end

theorem PySem.Challenge.cw_pg0028_01_holds : PySem.Challenge.rw_pg0028_01.Holds :=
  Mine.fin
