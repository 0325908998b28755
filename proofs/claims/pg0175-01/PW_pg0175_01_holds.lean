import PyProof.Rows.All
import Wide.All
import OpenK.AllK
import Wide.FinOn
import Lean
import PySem.Challenge.RW_pg0175_01
set_option compiler.extract_closed false
open PySem PySem.W PyProof.Rows PySem.Calls PySem.Spec
set_option Elab.async false
set_option maxRecDepth 100000
set_option linter.unusedVariables false
set_option rowWalk.seconds 0
namespace Mine
-- the law's own words, each look for itself
theorem said_row : (OpenLaw.row PySem.Challenge.rw_pg0175_01).wellSaid = true := by
  unfold OpenRow.wellSaid OpenRow.partSaid looksOpen
  repeat' with_reducible refine look_both ?_ ?_
  all_goals (refine id ?_; kernel_rfl)
theorem well_said : OpenLaw.wellSaid PySem.Challenge.rw_pg0175_01 = true := by
  unfold OpenLaw.wellSaid
  repeat' with_reducible refine look_both ?_ ?_
  exact said_row
  all_goals (refine id ?_; kernel_rfl)
-- the head in one look: laid in pieces it would be ten megabytes longer
section
local macro_rules | `(tactic| first | refine $t | fail $_) => `(tactic| (refine $t; (case hl => intro w; kernel_rfl)))
local macro_rules | `(tactic| o_law) => `(tactic| refine holds_law well_said fun said => ?_)
local macro_rules | `(tactic| k_qdec) => `(tactic| kernel_rfl)
set_option maxHeartbeats 8000000 in
open_top hd for PySem.Challenge.rw_pg0175_01
end

-- the head leaves the walk's lines for the top switched on: off again
theorem top_off : True := by
  w_top off
  trivial
/-- a goal that the walk is to leave alone -/
noncomputable def Hold (P : Prop) : Prop := P
theorem Hold.mk {P : Prop} (h : Hold P) : P := h
theorem Hold.of {P : Prop} (h : P) : Hold P := h

/-- what a def's body owes at its end, over its own ground g -/
noncomputable def BodyEnd (g : Heap) (L' : Addr) (s : Shared) (R : Value → List (Addr × Obj) → Prop) (v : Value) (s' : Shared) : Prop :=
  ∃ h' tk' m' news', s' = { s with heap := h', toks := tk' } ∧ Fr g L' h' m' ∧ News g L' h' news' ∧ R v news'
theorem BodyEnd.mk {g : Heap} {L' : Addr} {s : Shared} {R : Value → List (Addr × Obj) → Prop} {v : Value} {h' : Heap} {tk' : Nat} {m' : Str → Option Value} {all : List (Addr × Obj)}
    (F : Fr g L' h' m') (N : News g L' h' all) (news' : List (Addr × Obj)) (sub : ∀ p ∈ news', p ∈ all) (r : R v news') : BodyEnd g L' s R v { s with heap := h', toks := tk' } :=
  ⟨h', tk', m', news', rfl, F, fun p hp => N p (sub p hp), r⟩

/-- a frame's first map -/
noncomputable def bmap : List (Str × Value) → Str → Option Value
  | [], _ => none
  | (k, v) :: r, y => if y = k then some v else bmap r y
theorem bmap_lookup : ∀ l : List (Str × Value), (fun y => l.lookup y) = bmap l
  | [] => rfl
  | (k, v) :: r => by
    funext y
    show List.lookup y ((k, v) :: r) = if y = k then some v else bmap r y
    rw [List.lookup_cons, ← congrFun (bmap_lookup r) y]
    by_cases h : y = k
    · simp [h]
    · have e : (y == k) = false := by simpa using h
      simp [h, e]

section
variable {prog : Program} {w : World} {A₀ A : Around} {s : Shared} {base h₀ : Heap} {outer : List Env} {L : Addr} {m : Str → Option Value} {env : Env} {news own rest : List (Addr × Obj)} {K : Frag}
  {p : Program} {loose : List Str} {mean : ExcName → Option Value} {mg mb : Str → Option Value} {E Q : Value → Shared → Prop} {R : Value → List (Addr × Obj) → Prop}
  {name qual : Str} {params : Arguments} {body : List Stmt} {scope : Scope} {dV kV doc pm cdv ct oc : Value} {an od : Option Addr} {osl : Array (Option Value)} {f : Addr} {args : List Value} {binds : List (Str × Value)}

theorem rest_in {g : Heap} (N : News h₀ L s.heap news) (G : GSub s.heap g (own.map (·.1))) (hrest : ∀ q ∈ rest, q ∈ news) (hap : ∀ q ∈ rest, q.1 ∉ own.map (·.1)) : ∀ q ∈ rest, g.get? q.1 = some q.2 :=
  fun q hq => G _ _ (N q (hrest q hq)).1 (hap q hq)

theorem end_back {g : Heap} {L' : Addr} {v : Value} {s' : Shared} (F : Fr h₀ L s.heap m) (N : News h₀ L s.heap news) (hrest : ∀ q ∈ rest, q ∈ news) (hr : ∀ q ∈ rest, g.get? q.1 = some q.2)
    (ret : ∀ v news' h' tk', Fr h₀ L h' m → News h₀ L h' (news' ++ rest) → (∀ q ∈ news', ∀ q' ∈ rest, @Ne Nat q.1 q'.1) → R v news' → Q v { s with heap := h', toks := tk' })
    (h : BodyEnd g L' s R v s') : LeaveK h₀ L m g (fun r s' => match r with | .ok (.ret v) => Q v s' | .ok _ => False | .error e => E e s') v s' := by
  obtain ⟨h', tk', m', news', rfl, F', N', r⟩ := h
  refine leaveK_ F' N' fun F₂ N₂ => ?_
  refine ret v news' h' tk' F₂ (fun q hq => ?_) (fun q hq q' hq' e => ?_) r
  · rcases List.mem_append.mp hq with hq | hq
    · exact N₂ q hq
    · have z := N q (hrest q hq)
      exact ⟨F'.keep _ _ (hr q hq), z.2⟩
  · have z := (N' q hq).2.2
    have e' : q.1 = q'.1 := e
    rw [e', hr q' hq'] at z
    cases z

theorem enter_p (B : Below A₀ base outer h₀) (F : Fr h₀ L s.heap m) (X₀ : K.In h₀) (N : News h₀ L s.heap news) (T : Top p loose mean mg mb h₀)
    (hown : ∀ q ∈ own, q ∈ news) (hrest : ∀ q ∈ rest, q ∈ news) (hap : ∀ q ∈ rest, q.1 ∉ own.map (·.1))
    (ret : ∀ v news' h' tk', Fr h₀ L h' m → News h₀ L h' (news' ++ rest) → (∀ q ∈ news', ∀ q' ∈ rest, @Ne Nat q.1 q'.1) → R v news' → Q v { s with heap := h', toks := tk' })
    (hA : A.frames = some (env :: outer)) (hf : env.frame = some L) (hke : env.scope.kind = .function)
    (ho : K.lookup f = some ⟨oc, od, .func (fnOf name qual params body scope dV kV doc pm an cdv ct), osl⟩) (hcd : codeIn K cdv qual = true) (hroom : A.depth < recursionLimit)
    (hbind : BindsTo s (fnOf name qual params body scope dV kV doc pm an cdv ct) ⟨args, []⟩ binds) (hloc : ∀ y ∈ binds, scope.names.lookup y.1 = some .local)
    (h : ∀ g L' h₁ tk, Fr g L' h₁ (bmap binds.reverse) → News g L' h₁ own → Below A base (env :: outer) g → K.In g → Top p loose mean mg mb g → h₀.StaysIn g → (∀ q ∈ rest, g.get? q.1 = some q.2) →
      wpAny (model prog w) (A.deeper (envOf qual scope L' f cdv)) (execs body (envOf qual scope L' f cdv))
        (fun fl s' => BodyEnd g L' s R (match fl with | .ret v => v | _ => .none) s') (fun _ _ => False) { s with heap := h₁, toks := tk })
    (hco : scope.isCoroutine = false) (hgen : scope.isGenerator = false) (hk : scope.kind = .function)
    (hcell : ∀ x ∈ scope.names, x.2 ≠ .cell) : wpAny (model prog w) A (call (.ref f) args) Q E s := by
  have N₁ : News h₀ L s.heap own := fun q hq => N q (hown q hq)
  refine wpAny_call (code_defG (args := ⟨args, []⟩) B F X₀ N₁ T hA hf hke ho hcd hroom hbind hloc (fun g L' h₁ FG F' N' B' X' T' G => ?_) hco hgen hk hcell)
  have hr := rest_in N G hrest hap
  rw [bmap_lookup] at F'
  exact wpAny_mono (h g L' h₁ _ F' N' B' X' T' FG.keep hr) (fun fl s' hl => end_back F N hrest hr ret hl) fun _ _ x => x.elim

theorem enter_c (B : Below A₀ base outer h₀) (F : Fr h₀ L s.heap m) (X₀ : K.In h₀) (N : News h₀ L s.heap news) (T : Top p loose mean mg mb h₀)
    (hown : ∀ q ∈ own, q ∈ news) (hrest : ∀ q ∈ rest, q ∈ news) (hap : ∀ q ∈ rest, q.1 ∉ own.map (·.1))
    (ret : ∀ v news' h' tk', Fr h₀ L h' m → News h₀ L h' (news' ++ rest) → (∀ q ∈ news', ∀ q' ∈ rest, @Ne Nat q.1 q'.1) → R v news' → Q v { s with heap := h', toks := tk' })
    (hA : A.frames = some (env :: outer)) (hf : env.frame = some L) (hke : env.scope.kind = .function)
    (ho : K.lookup f = some ⟨oc, od, .func (fnOf name qual params body scope dV kV doc pm an cdv ct), osl⟩) (hcd : codeIn K cdv qual = true) (hroom : A.depth < recursionLimit)
    (hbind : BindsTo s (fnOf name qual params body scope dV kV doc pm an cdv ct) ⟨args, []⟩ binds)
    (hkind : (binds.all fun y => scope.names.lookup y.1 == some .local || scope.names.lookup y.1 == some .cell) = true)
    (hnd : ((cellsFrom 0 scope.names []).map (·.1)).Nodup)
    (h : ∀ g L' h₁ tk cells, Fr g L' h₁ (bindL (envOfC qual scope L' f cdv).kindOf binds fun _ => none) → News g L' h₁ (cells ++ own) →
      CellsAre (bindC (envOfC qual scope L' f cdv).kindOf binds fun _ => none) (cellsFrom (L' + 1) scope.names []) cells → Below A base (env :: outer) g → K.In g → Top p loose mean mg mb g → h₀.StaysIn g → (∀ q ∈ rest, g.get? q.1 = some q.2) → (∀ q ∈ own, q.1 < L') →
      wpAny (model prog w) (A.deeper (envOfC qual scope L' f cdv)) (execs body (envOfC qual scope L' f cdv))
        (fun fl s' => BodyEnd g L' s R (match fl with | .ret v => v | _ => .none) s') (fun _ _ => False) { s with heap := h₁, toks := tk })
    (hco : scope.isCoroutine = false) (hgen : scope.isGenerator = false) (hk : scope.kind = .function) : wpAny (model prog w) A (call (.ref f) args) Q E s := by
  have N₁ : News h₀ L s.heap own := fun q hq => N q (hown q hq)
  refine wpAny_call ?_
  obtain ⟨FG, BG, st, lv⟩ := groundX (R := fun r s' => match r with | .ok (.ret v) => Q v s' | .ok _ => False | .error e => E e s') B F N₁ hA hf hke
  have G : GSub s.heap (hideAll s.heap (own.map (·.1))) (own.map (·.1)) := fun b o e n => hideAll_get _ e n
  have hr := rest_in N G hrest hap
  refine codeAny_call_function hroom (X₀.keeps F.keep _ _ ho) rfl hco hgen rfl (codeRec_of (X₀.keeps F.keep) hcd) (hbind _ _ _ _ ?_)
  refine wpAny_newFunctionEnv_cells hk (kindsX hkind _) fun env' he s' x => ?_
  subst he
  refine ⟨(T.nolimit.keeps F.keep).keeps x.toInCall.keep, codeAny_func ?_⟩
  obtain ⟨h₁, tk, rfl, _⟩ := x.done
  have hk₁ := x.toInCall.keep
  obtain ⟨cells, NC, Y⟩ := Cl.news (h₀ := s.heap) (Nat.le_refl _) fun n c hm => ⟨x.cell n c (lookup_of_mem_nodup (cellsFrom_names scope.names 0 (s.heap.objs.size + 1) [] [] rfl ▸ hnd) hm), x.above n c hm⟩
  have NN : News (hideAll s.heap (own.map (·.1))) s.heap.objs.size h₁ (cells ++ own) := by
    intro q hq
    rcases List.mem_append.mp hq with hq | hq
    · refine ⟨(NC q hq).1, (NC q hq).2.1, ?_⟩
      cases e : (hideAll s.heap (own.map (·.1))).get? q.1 with
      | none => rfl
      | some o =>
        have z := of_hideAll _ e
        rw [(NC q hq).2.2] at z
        cases z
    · exact ⟨hk₁ _ _ (N₁ q hq).1, Nat.ne_of_lt (Heap.lt_size (N₁ q hq).1), hideAll_none _ (List.mem_map_of_mem hq)⟩
  have FF : Fr (hideAll s.heap (own.map (·.1))) s.heap.objs.size h₁ (bindL (envOfC qual scope s.heap.objs.size f cdv).kindOf binds fun _ => none) :=
    ⟨x.toInCall.ns, fun b o e => hk₁ b o (of_hideAll _ e), Nat.le_of_eq (hideAll_size _ _)⟩
  exact wpAny_mono (h _ s.heap.objs.size h₁ tk cells FF NN Y BG (X₀.keeps st) (T.keeps st) st hr fun q hq => Heap.lt_size (N₁ q hq).1) (fun fl s' hl => lv _ _ (end_back F N hrest hr ret hl)) fun _ _ y => y.elim
end

section
variable {prog : Program} {w : World} {A : Around} {E : Value → Shared → Prop} {env : Env} {test : PySem.Expr} {body : List Stmt} {Q : Flow → Shared → Prop} {h₀ : Heap} {L : Addr}
/-- what a while's turn owes at its end -/
noncomputable def WhEnd {α : Type} (h₀ : Heap) (L : Addr) (s : Shared) (M : α → Str → Option Value) (Led : α → List (Addr × Obj)) (P : α → Prop) (μ : α → Nat) (Q : Flow → Shared → Prop) (n : Nat) (f : Flow) (s' : Shared) : Prop :=
  match f with
  | .next | .cont => ∃ a' h' tk', s' = { s with heap := h', toks := tk' } ∧ P a' ∧ μ a' < n ∧ Fr h₀ L h' (M a') ∧ News h₀ L h' (Led a')
  | .brk => Q .next s'
  | .ret v => Q (.ret v) s'
theorem WhEnd.next {α : Type} {s : Shared} {M : α → Str → Option Value} {Led : α → List (Addr × Obj)} {P : α → Prop} {μ : α → Nat} {n : Nat} {h' : Heap} {tk' : Nat} {m' : Str → Option Value} {all : List (Addr × Obj)}
    (a' : α) (F : Fr h₀ L h' m') (N : News h₀ L h' all) (hm : m' = M a') (hN : ∀ p ∈ Led a', p ∈ all) (hP : P a') (hμ : μ a' < n) : WhEnd h₀ L s M Led P μ Q n .next { s with heap := h', toks := tk' } :=
  ⟨a', h', tk', rfl, hP, hμ, hm ▸ F, fun p hp => N p (hN p hp)⟩
theorem WhEnd.cont {α : Type} {s : Shared} {M : α → Str → Option Value} {Led : α → List (Addr × Obj)} {P : α → Prop} {μ : α → Nat} {n : Nat} {h' : Heap} {tk' : Nat} {m' : Str → Option Value} {all : List (Addr × Obj)}
    (a' : α) (F : Fr h₀ L h' m') (N : News h₀ L h' all) (hm : m' = M a') (hN : ∀ p ∈ Led a', p ∈ all) (hP : P a') (hμ : μ a' < n) : WhEnd h₀ L s M Led P μ Q n .cont { s with heap := h', toks := tk' } :=
  ⟨a', h', tk', rfl, hP, hμ, hm ▸ F, fun p hp => N p (hN p hp)⟩
theorem whlIf_split {b : Bool} {T F : Prop} (t : b = true → T) (f : b = false → F) : WhlIf b T F := by
  cases b with
  | true => exact WhlIf.yes rfl (t rfl)
  | false => exact WhlIf.no rfl (f rfl)

theorem while_st {α : Type} {s : Shared} {pos : Pos} (M : α → Str → Option Value) (Led : α → List (Addr × Obj)) (P : α → Prop) (μ : α → Nat) (hE : PassesOwn (model prog w) A env E)
    (turn : ∀ a h tk, P a → Fr h₀ L h (M a) → News h₀ L h (Led a) →
      wpAny (model prog w) A (isTrue test env (eval test env)) (fun b s₂ => WhlIf b (wpAny (model prog w) A (execs body env) (WhEnd h₀ L s M Led P μ Q (μ a)) E s₂) (Q .next s₂)) E { s with heap := h, toks := tk })
    (a : α) {h : Heap} {tk : Nat} {m' : Str → Option Value} {all : List (Addr × Obj)} (F : Fr h₀ L h m') (N : News h₀ L h all) (hm : m' = M a) (hN : ∀ p ∈ Led a, p ∈ all) (hP : P a) :
    wpAny (model prog w) A (exec (.While test body [] pos) env) Q E { s with heap := h, toks := tk } := by
  refine whl_start (Q := Q) 0 ?_
  have key : ∀ k a h tk, μ a < k → P a → Fr h₀ L h (M a) → News h₀ L h (Led a) → WhlRest prog w A E env test body [] Q 0 { s with heap := h, toks := tk } := by
    intro k
    induction k with
    | zero => intro a h tk hk; exact absurd hk (Nat.not_lt_zero _)
    | succ k ih =>
      intro a h tk hk hP F N
      refine whl_turn (k := 0) hE (wpAny_mono (turn a h tk hP F N) (fun b s₂ hb => ?_) fun _ _ e => e)
      cases b with
      | false =>
        unfold WhlIf at hb ⊢
        rw [if_neg Bool.false_ne_true] at hb ⊢
        exact wpAny_execs_nil hb
      | true =>
        unfold WhlIf at hb ⊢
        rw [if_pos rfl] at hb ⊢
        refine wpAny_mono hb (fun f s₃ hf => ?_) fun _ _ e => e
        have go : (∃ a' h' tk', s₃ = { s with heap := h', toks := tk' } ∧ P a' ∧ μ a' < μ a ∧ Fr h₀ L h' (M a') ∧ News h₀ L h' (Led a')) → WhlRest prog w A E env test body [] Q 0 s₃ := by
          rintro ⟨a', h', tk', rfl, hP', hμ, F', N'⟩
          exact ih a' h' tk' (by lia) hP' F' N'
        cases f with
        | next => exact go hf
        | cont => exact go hf
        | brk => exact hf
        | ret v => exact hf
  exact key (μ a + 1) a h tk (Nat.lt_succ_self _) hP (hm ▸ F) fun p hp => N p (hN p hp)
end

theorem ptw {y k : Str} {v g : Option Value} {f : Str → Option Value} (h1 : f k = v) (h2 : ¬ y = k → f y = g) : f y = if y = k then v else g := by
  by_cases h : y = k
  · rw [if_pos h, h]; exact h1
  · rw [if_neg h]; exact h2 h
theorem srcAt_g {h₀ g : Heap} {ax : Addr} {its : Array Value} {rest : List (Addr × Obj)} (x : LCg.SrcAt h₀ ax its rest) (st : h₀.StaysIn g) (hr : ∀ q ∈ rest, g.get? q.1 = some q.2) : g.IsList ax its := by
  rcases x with ⟨o, e, r⟩ | ⟨o, hm, r⟩
  · exact ⟨o, st _ _ e, r⟩
  · exact ⟨o, hr _ hm, r⟩

-- for loops over a state's letter
section
variable {prog : Program} {w : World} {A : Around} {E : Value → Shared → Prop} {s : Shared} {env : Env} {h₀ : Heap} {x : Str} {body : List Stmt} {Q : Flow → Shared → Prop} {α : Type}
/-- what a for's turn owes at its end -/
noncomputable def FoEnd (h₀ : Heap) (L : Addr) (s : Shared) (M : α → Str → Option Value) (Led : α → List (Addr × Obj)) (P : α → Prop) (I : Addr) (own : List (Addr × Obj)) (Q : Flow → Shared → Prop) (f : Flow) (s' : Shared) : Prop :=
  match f with
  | .next | .cont => ∃ a' h' tk', s' = { s with heap := h', toks := tk' } ∧ P a' ∧ Fr h₀ L h' (M a') ∧ News h₀ L h' (own ++ Led a') ∧ ∀ p ∈ Led a', @Ne Nat p.1 I
  | .brk => Q .next s'
  | .ret v => Q (.ret v) s'
theorem FoEnd.next {L : Addr} {M : α → Str → Option Value} {Led : α → List (Addr × Obj)} {P : α → Prop} {I : Addr} {own all : List (Addr × Obj)} {h' : Heap} {tk' : Nat} {m' : Str → Option Value}
    (a' : α) (F : Fr h₀ L h' m') (N : News h₀ L h' all) (hm : m' = M a') (hN : ∀ p ∈ own ++ Led a', p ∈ all) (hI : ∀ p ∈ Led a', @Ne Nat p.1 I) (hP : P a') : FoEnd h₀ L s M Led P I own Q .next { s with heap := h', toks := tk' } :=
  ⟨a', h', tk', rfl, hP, hm ▸ F, fun p hp => N p (hN p hp), hI⟩
theorem FoEnd.cont {L : Addr} {M : α → Str → Option Value} {Led : α → List (Addr × Obj)} {P : α → Prop} {I : Addr} {own all : List (Addr × Obj)} {h' : Heap} {tk' : Nat} {m' : Str → Option Value}
    (a' : α) (F : Fr h₀ L h' m') (N : News h₀ L h' all) (hm : m' = M a') (hN : ∀ p ∈ own ++ Led a', p ∈ all) (hI : ∀ p ∈ Led a', @Ne Nat p.1 I) (hP : P a') : FoEnd h₀ L s M Led P I own Q .cont { s with heap := h', toks := tk' } :=
  ⟨a', h', tk', rfl, hP, hm ▸ F, fun p hp => N p (hN p hp), hI⟩

theorem loopAt_st {I : Addr} {fp : List Addr} {n : Nat} {P : Nat → Value → Prop} {St : Nat → Heap → Prop} {m₀ : Str → Option Value} {all : List (Addr × Obj)} (ownL : Obj → List (Addr × Obj)) (M : α → Str → Option Value) (Led : α → List (Addr × Obj)) (Pd : Nat → α → Prop)
    (W : Walks prog w A I fp [I] n P St) (hob : ∀ i h, St i h → ∃ o, h.get? I = some o) (hI0 : h₀.get? I = none)
    (hown : ∀ i h oI (own : List (Addr × Obj)), St i h → h.get? I = some oI → (∀ p ∈ own, p.1 ∈ fp) → (∀ p ∈ own, h.get? p.1 = some p.2) → (∀ b ∈ fp, h₀.get? b = none → ∀ o, h.get? b = some o → (b, o) ∈ own) → (∀ p ∈ own, h₀.get? p.1 = none) →
      (∀ p ∈ own, p ∈ ownL oI) ∧ ∀ p ∈ ownL oI, p ∈ own)
    (hLf : env.locals ∉ fp) (hst : St 0 s.heap) (F : Fr h₀ env.locals s.heap m₀) (N : News h₀ env.locals s.heap all) (a₀ : α) (hm : m₀ = M a₀) (hN : ∀ p ∈ Led a₀, p ∈ all) (hap : ∀ p ∈ Led a₀, @Ne Nat p.1 I) (hP : Pd 0 a₀)
    (turn : ∀ i v a oI h tk, i < n → P i v → Pd i a → (∀ p ∈ Led a, @Ne Nat p.1 I) → Fr h₀ env.locals h (fun y => if y = x then some v else M a y) → News h₀ env.locals h (ownL oI ++ Led a) →
      wpAny (model prog w) A (execs body env) (FoEnd h₀ env.locals { s with heap := h, toks := tk } M Led (Pd (i + 1)) I (ownL oI) Q) E { s with heap := h, toks := tk })
    (done : ∀ a h tk, Pd n a → Fr h₀ env.locals h (M a) → News h₀ env.locals h (Led a) → Q .next { s with heap := h, toks := tk }) :
    LoopAtV prog w A h₀ env x body Q E (.ref I) s := by
  let J : Nat → (Str → Option Value) → List (Addr × Obj) → Prop := fun i m₁ news₁ => ∃ a, m₁ = M a ∧ news₁ = Led a ∧ Pd i a
  refine ⟨I, fp, [I], n, P, St, M a₀, Led a₀, J, rfl, W, hLf, (fun b hb => by rw [List.mem_singleton.mp hb]; exact hI0), (fun p hp e => hap p hp (List.mem_singleton.mp e)), hst, hm ▸ F, (fun p hp => N p (hN p hp)), ⟨a₀, rfl, rfl, hP⟩, ?_, ?_⟩
  · rintro i v m₁ news₁ s₁ own ⟨h, tk, rfl⟩ hin hPv ⟨a, rfl, rfl, hPd⟩ hoff hfp hat hall hst' F₁ N₁
    obtain ⟨oI, hoI⟩ := hob _ _ hst'
    have ho := hown (i + 1) h oI own hst' hoI hfp hat hall fun p hp => (N₁ p (List.mem_append_left _ hp)).2.2
    have hoff' : ∀ p ∈ Led a, @Ne Nat p.1 I := fun p hp e => hoff p hp (List.mem_singleton.mpr e)
    have N₂ : News h₀ env.locals h (ownL oI ++ Led a) := fun p hp => N₁ p ((List.mem_append.mp hp).elim (fun q => List.mem_append_left _ (ho.2 p q)) fun q => List.mem_append_right _ q)
    refine wpAny_mono (turn i v a oI h tk hin hPv hPd hoff' F₁ N₂) (fun f s₂ p => ?_) fun _ _ e => e
    have fin : (∃ a' h' tk', s₂ = { s with heap := h', toks := tk' } ∧ Pd (i + 1) a' ∧ Fr h₀ env.locals h' (M a') ∧ News h₀ env.locals h' (ownL oI ++ Led a') ∧ ∀ p ∈ Led a', @Ne Nat p.1 I) →
        LoopStepU h₀ env.locals [I] own (J (i + 1)) { s with heap := h, toks := tk } .next s₂ := by
      rintro ⟨a', h', tk', e, hP', F', N', hI'⟩
      refine ⟨rfl, h', tk', _, Led a', e, F', fun p hp => N' p ((List.mem_append.mp hp).elim (fun q => List.mem_append_left _ (ho.1 p q)) fun q => List.mem_append_right _ q), fun p hp e => hI' p hp (List.mem_singleton.mp e), a', rfl, rfl, hP'⟩
    cases f with
    | ret v => exact .ret p
    | brk => exact .brk p
    | next => exact .next (fin p)
    | cont => exact .cont (fin p)
  · rintro h' tk m' news' F' N' _ ⟨a, rfl, rfl, hPd⟩
    exact done a h' tk hPd F' N'

theorem iter_base {l : Addr} {vs : List Value} {m₀ : Str → Option Value} {all : List (Addr × Obj)} (M : α → Str → Option Value) (Led : α → List (Addr × Obj)) (Pd : Nat → α → Prop)
    (hh : A.handled = none) (hl : h₀.IsList l vs.toArray) (F : Fr h₀ env.locals s.heap m₀) (N : News h₀ env.locals s.heap all) (a₀ : α) (hm : m₀ = M a₀) (hN : ∀ p ∈ Led a₀, p ∈ all) (hP : Pd 0 a₀)
    (turn : ∀ i v a I oI h tk s₂, vs[i]? = some v → Pd i a → (∀ p ∈ Led a, @Ne Nat p.1 I) → Fr h₀ env.locals h (fun y => if y = x then some v else M a y) → News h₀ env.locals h ((I, oI) :: Led a) → (∃ g, s₂ = { s with heap := g }) →
      wpAny (model prog w) A (execs body env) (FoEnd h₀ env.locals { s with heap := h, toks := tk } M Led (Pd (i + 1)) I [(I, oI)] Q) E { s with heap := h, toks := tk })
    (done : ∀ a h tk, Pd vs.length a → Fr h₀ env.locals h (M a) → News h₀ env.locals h (Led a) → Q .next { s with heap := h, toks := tk }) :
    wpAny (model prog w) A (pyIter (.ref l)) (fun it s₂ => LoopAtV prog w A h₀ env x body Q E it s₂) E s := by
  have hls : s.heap.IsList l vs.toArray := hl.at fun o e => F.keep l o e
  obtain ⟨ol, hol, _⟩ := id hl
  have hlt : l < h₀.objs.size := Heap.lt_size hol
  have hne : l ≠ s.heap.objs.size := Nat.ne_of_lt (Nat.lt_trans (Nat.lt_of_lt_of_le hlt F.above) F.ns.lt)
  refine wpAny_pyIter_list hls ?_
  have W := Walks.list (prog := prog) (w := w) hh s.heap.objs.size l hne vs.toArray
  rw [List.size_toArray] at W
  refine loopAt_st (fun oI => [(s.heap.objs.size, oI)]) M Led Pd W ?_ (next_is_new F) ?_ ?_ ⟨⟨_, Heap.get?_push_size _ rfl, rfl, rfl⟩, hls.at fun o e => Heap.get?_push_of_some _ e⟩ (F.push _) (fun p hp => ⟨Heap.get?_push_of_some _ (N p hp).1, (N p hp).2⟩) a₀ hm hN (fun p hp => Nat.ne_of_lt (Heap.lt_size (N p (hN p hp)).1)) hP ?_ ?_
  · rintro i h ⟨⟨o, ho, _⟩, _⟩
    exact ⟨o, ho⟩
  · intro i h oI own hst hoI hfp hat hall hn
    refine ⟨fun p hp => ?_, fun p hp => ?_⟩
    · rcases List.mem_cons.mp (hfp p hp) with e | e
      · exact List.mem_singleton.mpr (Prod.ext e (Option.some.inj ((hat p hp).symm.trans ((congrArg h.get? e).trans hoI))))
      · have z := hn p hp
        rw [List.mem_singleton.mp e, hol] at z
        cases z
    · rw [List.mem_singleton.mp hp]
      exact hall _ List.mem_cons_self (next_is_new F) _ hoI
  · intro hm'
    rcases List.mem_cons.mp hm' with e | e
    · exact absurd F.ns.lt (e ▸ Nat.lt_irrefl _)
    · exact absurd (Nat.lt_of_lt_of_le hlt F.above) ((List.mem_singleton.mp e) ▸ Nat.lt_irrefl _)
  · intro i v a oI h tk hi hPv hPd hne F₁ N₁
    exact turn i v a _ oI h tk s (by simpa using hPv) hPd hne F₁ N₁ ⟨s.heap, rfl⟩
  · intro a h tk hPd F₁ N₁
    exact done a h tk hPd F₁ N₁

theorem iter_made {l : Addr} {k : Nat} {vs : List Value} {m₀ : Str → Option Value} {all : List (Addr × Obj)} (M : α → Str → Option Value) (Led : α → List (Addr × Obj)) (Pd : Nat → α → Prop)
    (hh : A.handled = none) (F : Fr h₀ env.locals s.heap m₀) (N : News h₀ env.locals s.heap all) (hl : (l, listOf vs.toArray k) ∈ all) (a₀ : α) (hm : m₀ = M a₀) (hN : ∀ p ∈ Led a₀, p ∈ all) (hP : Pd 0 a₀)
    (turn : ∀ i v a I oI h tk, vs[i]? = some v → Pd i a → (∀ p ∈ Led a, @Ne Nat p.1 I) → (@Ne Nat l I) → Fr h₀ env.locals h (fun y => if y = x then some v else M a y) → News h₀ env.locals h ((I, oI) :: (l, listOf vs.toArray k) :: Led a) →
      wpAny (model prog w) A (execs body env) (FoEnd h₀ env.locals { s with heap := h, toks := tk } M Led (Pd (i + 1)) I [(I, oI), (l, listOf vs.toArray k)] Q) E { s with heap := h, toks := tk })
    (done : ∀ a h tk, Pd vs.length a → Fr h₀ env.locals h (M a) → News h₀ env.locals h (Led a) → Q .next { s with heap := h, toks := tk }) :
    wpAny (model prog w) A (pyIter (.ref l)) (fun it s₂ => LoopAtV prog w A h₀ env x body Q E it s₂) E s := by
  have hN0 := N _ hl
  have hls : s.heap.IsList l vs.toArray := ⟨_, hN0.1, rfl, _, rfl⟩
  have hlt : l < s.heap.objs.size := Heap.lt_size hN0.1
  have hne : l ≠ s.heap.objs.size := Nat.ne_of_lt hlt
  refine wpAny_pyIter_list hls ?_
  have W0 := Walks.list (prog := prog) (w := w) hh s.heap.objs.size l hne vs.toArray
  rw [List.size_toArray] at W0
  have W : Walks prog w A s.heap.objs.size [s.heap.objs.size, l] [s.heap.objs.size] vs.length (fun i v => vs.toArray[i]? = some v) (fun i h => (h.IsListIter s.heap.objs.size l i ∧ h.IsList l vs.toArray) ∧ h.get? l = some (listOf vs.toArray k)) :=
    { sub := W0.sub
      frame := fun i h h' st hk => ⟨W0.frame i h h' st.1 hk, hk l (List.mem_cons_of_mem _ List.mem_cons_self) _ st.2⟩
      item := fun i s' Q' E' hi st hQ => W0.item i s' Q' E' hi st.1 fun v h' tk hP st' hk => hQ v h' tk hP ⟨st', hk l _ (by simpa using hne) st.2⟩ hk
      done := fun s' Q' E' st hQ => W0.done s' Q' E' st.1 hQ
      self := fun i s' Q' E' st hQ => W0.self i s' Q' E' st.1 hQ }
  refine loopAt_st (fun oI => [(s.heap.objs.size, oI), (l, listOf vs.toArray k)]) M Led Pd W ?_ (next_is_new F) ?_ ?_ ⟨⟨⟨_, Heap.get?_push_size _ rfl, rfl, rfl⟩, hls.at fun o e => Heap.get?_push_of_some _ e⟩, Heap.get?_push_of_some _ hN0.1⟩ (F.push _) (fun p hp => ⟨Heap.get?_push_of_some _ (N p hp).1, (N p hp).2⟩) a₀ hm hN (fun p hp => Nat.ne_of_lt (Heap.lt_size (N p (hN p hp)).1)) hP ?_ ?_
  · rintro i h ⟨⟨⟨o, ho, _⟩, _⟩, _⟩
    exact ⟨o, ho⟩
  · intro i h oI own hst hoI hfp hat hall hn
    refine ⟨fun p hp => ?_, fun p hp => ?_⟩
    · rcases List.mem_cons.mp (hfp p hp) with e | e
      · exact List.mem_cons.mpr (.inl (Prod.ext e (Option.some.inj ((hat p hp).symm.trans ((congrArg h.get? e).trans hoI)))))
      · have e := List.mem_singleton.mp e
        exact List.mem_cons_of_mem _ (List.mem_singleton.mpr (Prod.ext e (Option.some.inj ((hat p hp).symm.trans ((congrArg h.get? e).trans hst.2)))))
    · rcases List.mem_cons.mp hp with rfl | hp
      · exact hall _ List.mem_cons_self (next_is_new F) _ hoI
      · rw [List.mem_singleton.mp hp]
        exact hall _ (List.mem_cons_of_mem _ List.mem_cons_self) hN0.2.2 _ hst.2
  · intro hm'
    rcases List.mem_cons.mp hm' with e | e
    · exact absurd F.ns.lt (e ▸ Nat.lt_irrefl _)
    · exact hN0.2.1 (List.mem_singleton.mp e).symm
  · intro i v a oI h tk hi hPv hPd hneI F₁ N₁
    exact turn i v a _ oI h tk (by simpa using hPv) hPd hneI hne F₁ N₁
  · intro a h tk hPd F₁ N₁
    exact done a h tk hPd F₁ N₁

theorem iter_range {r : Addr} {a₁ b₁ : Int} {t₁ u₁ v₁ : Tok} {n : Nat} {m₀ : Str → Option Value} {all : List (Addr × Obj)} (M : α → Str → Option Value) (Led : α → List (Addr × Obj)) (Pd : Nat → α → Prop)
    (hh : A.handled = none) (hr : IsRange s.heap r a₁ b₁ 1 t₁ u₁ v₁) (hsmall : Builtin.Range.small a₁ b₁ 1 = true) (hn : Builtin.Range.rangeSize a₁ b₁ 1 = (n : Int)) (F : Fr h₀ env.locals s.heap m₀) (N : News h₀ env.locals s.heap all)
    (a₀ : α) (hm : m₀ = M a₀) (hN : ∀ p ∈ Led a₀, p ∈ all) (hP : Pd 0 a₀)
    (turn : ∀ i t a I oI h tk, i < n → Pd i a → (∀ p ∈ Led a, @Ne Nat p.1 I) → Fr h₀ env.locals h (fun y => if y = x then some (.int (a₁ + (i : Nat)) t) else M a y) → News h₀ env.locals h ((I, oI) :: Led a) →
      wpAny (model prog w) A (execs body env) (FoEnd h₀ env.locals { s with heap := h, toks := tk } M Led (Pd (i + 1)) I [(I, oI)] Q) E { s with heap := h, toks := tk })
    (done : ∀ a h tk, Pd n a → Fr h₀ env.locals h (M a) → News h₀ env.locals h (Led a) → Q .next { s with heap := h, toks := tk }) :
    wpAny (model prog w) A (pyIter (.ref r)) (fun it s₂ => LoopAtV prog w A h₀ env x body Q E it s₂) E s := by
  refine wpAny_pyIter_range hr hsmall ?_
  have W : Walks prog w A s.heap.objs.size [s.heap.objs.size] [s.heap.objs.size] n (fun i v => i < n ∧ ∃ t, v = .int (a₁ + i * 1) t)
      (fun i h => IsRangeIter h s.heap.objs.size (a₁ + (i : Nat) * 1) ((n : Int) - (i : Nat)) 1) := (Walks.range hh _ a₁ 1 n).bound
  refine loopAt_st (fun oI => [(s.heap.objs.size, oI)]) M Led Pd W (fun i h st => ⟨_, st⟩) (next_is_new F) ?_ ?_ (by show IsRangeIter _ _ _ _ _; rw [hn]; simpa using Heap.get?_push_size _ rfl) (F.push _) (fun p hp => ⟨Heap.get?_push_of_some _ (N p hp).1, (N p hp).2⟩) a₀ hm hN (fun p hp => Nat.ne_of_lt (Heap.lt_size (N p (hN p hp)).1)) hP ?_ ?_
  · intro i h oI own hst hoI hfp hat hall hn
    refine ⟨fun p hp => ?_, fun p hp => ?_⟩
    · have e := List.mem_singleton.mp (hfp p hp)
      exact List.mem_singleton.mpr (Prod.ext e (Option.some.inj ((hat p hp).symm.trans ((congrArg h.get? e).trans hoI))))
    · rw [List.mem_singleton.mp hp]
      exact hall _ List.mem_cons_self (next_is_new F) _ hoI
  · intro hm'
    exact absurd F.ns.lt ((List.mem_singleton.mp hm') ▸ Nat.lt_irrefl _)
  · rintro i v a oI h tk hi ⟨_, t, rfl⟩ hPd hneI F₁ N₁
    rw [Int.mul_one] at F₁
    exact turn i t a _ oI h tk hi hPd hneI F₁ N₁
  · intro a h tk hPd F₁ N₁
    exact done a h tk hPd F₁ N₁
end

/-- a def's word: from any caller, over any ledger that holds own and rest -/
abbrev Fn (w : World) (p : Program) (loose : List Str) (mean : ExcName → Option Value) (mg mb : Str → Option Value) (d u : Nat) (f : Addr) (vs : List Value) (own : List (Addr × Obj))
    (Pre : Heap → List (Addr × Obj) → Prop) (R : Value → List (Addr × Obj) → Prop) : Prop :=
  ∀ (dp un : Nat) (gd : Option (List Code)) (cn : Str) (cns : List (Str × NameKind)) (cg cc : Bool) (cm : List (Str × Const)) (a : Addr) (ccd : Value) (cl : List (Str × Addr)) (outer : List Env) (A₀ : Around) (base h₀ : Heap) (L : Addr) (m : Str → Option Value) (s : Shared)
    (news rest : List (Addr × Obj)) (Q E : Value → Shared → Prop),
    Below A₀ base outer h₀ → Fr h₀ L s.heap m → (hd.heap_1 w.params).In h₀ → News h₀ L s.heap news → Top p loose mean mg mb h₀ →
    dp + d < recursionLimit → un + u < cLine → (∀ q ∈ own, q ∈ news) → (∀ q ∈ rest, q ∈ news) → (∀ q ∈ rest, q.1 ∉ own.map (·.1)) → Pre h₀ rest →
    (∀ v news' h' tk', Fr h₀ L h' m → News h₀ L h' (news' ++ rest) → (∀ q ∈ news', ∀ q' ∈ rest, @Ne Nat q.1 q'.1) → R v news' → Q v { s with heap := h', toks := tk' }) →
    wpAny (model PySem.Challenge.rw_pg0175_01.row.prog w) (ktrTop dp un gd cn ⟨.function, cns, cg, cc, cm⟩ L a ccd cl outer) (call (.ref f) vs) Q E s

section
variable {w : World} {p : Program} {loose : List Str} {mean : ExcName → Option Value} {mg mb : Str → Option Value} {d u : Nat} {f : Addr} {vs : List Value} {own : List (Addr × Obj)}
    {Pre : Heap → List (Addr × Obj) → Prop} {R : Value → List (Addr × Obj) → Prop}
  {dp un : Nat} {gd : Option (List Code)} {cn : Str} {cns : List (Str × NameKind)} {cg cc : Bool} {cm : List (Str × Const)} {a : Addr} {ccd : Value} {cl : List (Str × Addr)} {outer : List Env} {A₀ : Around} {base h₀ : Heap} {L : Addr} {m : Str → Option Value} {s : Shared}
    {news rest : List (Addr × Obj)} {Q E : Value → Shared → Prop}
/-- a reader's call -/
theorem Fn.reads (h : Fn w p loose mean mg mb d u f vs [] Pre R) (B : Below A₀ base outer h₀) (F : Fr h₀ L s.heap m) (X : (hd.heap_1 w.params).In h₀) (N : News h₀ L s.heap news) (T : Top p loose mean mg mb h₀)
    (hd : dp + d < recursionLimit) (hu : un + u < cLine) (hp : Pre h₀ news)
    (ret : ∀ v news' h' tk', Fr h₀ L h' m → News h₀ L h' (news' ++ news) → (∀ q ∈ news', ∀ q' ∈ news, @Ne Nat q.1 q'.1) → R v news' → Q v { s with heap := h', toks := tk' }) :
    wpAny (model PySem.Challenge.rw_pg0175_01.row.prog w) (ktrTop dp un gd cn ⟨.function, cns, cg, cc, cm⟩ L a ccd cl outer) (call (.ref f) vs) Q E s :=
  h _ _ _ _ _ _ _ _ _ _ _ _ _ _ _ _ _ _ _ _ _ _ B F X N T hd hu (fun _ h => nomatch h) (fun _ h => h) (fun _ _ h => nomatch h) hp ret
/-- the ledger without one entry -/
inductive Rem (D : Addr) (o : Obj) : List (Addr × Obj) → List (Addr × Obj) → Prop
  | head {r} : (∀ p ∈ r, p.1 ≠ D) → Rem D o ((D, o) :: r) r
  | tail {p r r'} : p.1 ≠ D → Rem D o r r' → Rem D o (p :: r) (p :: r')
theorem Rem.mem {D : Addr} {o : Obj} {l r : List (Addr × Obj)} (x : Rem D o l r) : (D, o) ∈ l ∧ (∀ p ∈ r, p ∈ l) ∧ ∀ p ∈ r, p.1 ≠ D := by
  induction x with
  | head h => exact ⟨List.mem_cons_self, fun p hp => List.mem_cons_of_mem _ hp, h⟩
  | tail hne _ ih =>
    refine ⟨List.mem_cons_of_mem _ ih.1, fun p hp => ?_, fun p hp => ?_⟩
    · rcases List.mem_cons.mp hp with rfl | hp
      · exact List.mem_cons_self
      · exact List.mem_cons_of_mem _ (ih.2.1 p hp)
    · rcases List.mem_cons.mp hp with rfl | hp
      · exact hne
      · exact ih.2.2 p hp
/-- a call that changes one list -/
theorem Fn.turns {D : Addr} {o : Obj} (h : Fn w p loose mean mg mb d u f vs [(D, o)] Pre R) (hr : Rem D o news rest) (B : Below A₀ base outer h₀) (F : Fr h₀ L s.heap m) (X : (hd.heap_1 w.params).In h₀) (N : News h₀ L s.heap news) (T : Top p loose mean mg mb h₀)
    (hd : dp + d < recursionLimit) (hu : un + u < cLine) (hp : Pre h₀ rest)
    (ret : ∀ v news' h' tk', Fr h₀ L h' m → News h₀ L h' (news' ++ rest) → (∀ q ∈ news', ∀ q' ∈ rest, @Ne Nat q.1 q'.1) → R v news' → Q v { s with heap := h', toks := tk' }) :
    wpAny (model PySem.Challenge.rw_pg0175_01.row.prog w) (ktrTop dp un gd cn ⟨.function, cns, cg, cc, cm⟩ L a ccd cl outer) (call (.ref f) vs) Q E s :=
  h _ _ _ _ _ _ _ _ _ _ _ _ _ _ _ _ _ _ _ _ _ _ B F X N T hd hu (fun q hq => by rw [List.mem_singleton.mp hq]; exact hr.mem.1) hr.mem.2.1 (fun q hq e => hr.mem.2.2 q hq (by simpa using e)) hp ret
end

-- plain lists of ints: sortedness, counts
abbrev Srt (l : List Int) : Prop := l.Pairwise (· ≤ ·)
theorem srt_get {l : List Int} (h : Srt l) {i j : Nat} (hij : i ≤ j) (hj : j < l.length) : l.getD i 0 ≤ l.getD j 0 := by
  have hi : i < l.length := Nat.lt_of_le_of_lt hij hj
  rw [List.getD_eq_getElem?_getD, List.getD_eq_getElem?_getD, List.getElem?_eq_getElem hi, List.getElem?_eq_getElem hj]
  simp only [Option.getD_some]
  rcases Nat.lt_or_ge i j with h1 | h1
  · exact List.pairwise_iff_getElem.mp h i j hi hj h1
  · have : i = j := by lia
    subst this; exact Int.le_refl _
noncomputable def cntLe (l : List Int) (x : Int) : Nat := l.countP (fun y => decide (y ≤ x))
theorem cntLe_le (l : List Int) (x : Int) : cntLe l x ≤ l.length := List.countP_le_length
theorem cntLe_eq (l : List Int) (x : Int) (k : Nat) (hk : k ≤ l.length) (h1 : ∀ j, j < k → l.getD j 0 ≤ x) (h2 : ∀ j, k ≤ j → j < l.length → x < l.getD j 0) : cntLe l x = k := by
  unfold cntLe
  rw [← List.take_append_drop k l, List.countP_append]
  have e1 : (l.take k).countP (fun y => decide (y ≤ x)) = (l.take k).length := by
    rw [List.countP_eq_length]
    intro a ha
    obtain ⟨i, hi, rfl⟩ := List.getElem_of_mem ha
    have hi' : i < k ∧ i < l.length := by rw [List.length_take] at hi; lia
    have z := h1 i hi'.1
    rw [List.getD_eq_getElem?_getD, List.getElem?_eq_getElem hi'.2] at z
    rw [List.getElem_take]
    simpa using z
  have e2 : (l.drop k).countP (fun y => decide (y ≤ x)) = 0 := by
    rw [List.countP_eq_zero]
    intro a ha
    obtain ⟨i, hi, rfl⟩ := List.getElem_of_mem ha
    have hi' : k + i < l.length := by rw [List.length_drop] at hi; lia
    have z := h2 (k + i) (by lia) hi'
    rw [List.getD_eq_getElem?_getD, List.getElem?_eq_getElem hi'] at z
    rw [List.getElem_drop]
    simpa using z
  rw [e1, e2, List.length_take]
  lia
theorem cntLe_zero {y : Int} {r : List Int} (hs : Srt (y :: r)) {x : Int} (h : x < y) : cntLe (y :: r) x = 0 := by
  unfold cntLe
  rw [List.countP_eq_zero]
  intro a ha
  have : y ≤ a := by
    rcases List.mem_cons.mp ha with rfl | ha
    · exact Int.le_refl _
    · exact (List.pairwise_cons.mp hs).1 a ha
  simp; lia
theorem cnt_ins {ns : List Int} (hs : Srt ns) (x : Int) : Srt (ns.take (cntLe ns x) ++ x :: ns.drop (cntLe ns x)) ∧ (ns.take (cntLe ns x) ++ x :: ns.drop (cntLe ns x)).Perm (x :: ns) := by
  refine ⟨?_, ?_⟩
  · induction ns with
    | nil => simp [Srt, cntLe]
    | cons y r ih =>
      have hr := (List.pairwise_cons.mp hs)
      by_cases h : y ≤ x
      · have e : cntLe (y :: r) x = cntLe r x + 1 := by simp [cntLe, h]
        rw [e, List.take_succ_cons, List.drop_succ_cons, List.cons_append]
        refine List.pairwise_cons.mpr ⟨fun a ha => ?_, ih hr.2⟩
        rcases List.mem_append.mp ha with ha | ha
        · exact hr.1 a (List.mem_of_mem_take ha)
        · rcases List.mem_cons.mp ha with rfl | ha
          · exact h
          · exact hr.1 a (List.mem_of_mem_drop ha)
      · rw [cntLe_zero hs (by lia)]
        simp only [List.take_zero, List.drop_zero, List.nil_append]
        refine List.pairwise_cons.mpr ⟨fun a ha => ?_, hs⟩
        rcases List.mem_cons.mp ha with rfl | ha
        · lia
        · have := hr.1 a ha; lia
  · refine List.perm_middle.trans (List.Perm.cons _ ?_)
    rw [List.take_append_drop]

theorem Hold.call {prog : Program} {w : World} {A : Around} {f : Nat} {vs : List Value} {Q E : Value → Shared → Prop} {s : Shared} (_ : f ∈ [39, 46, 53, 60, 67, 74, 81, 103, 108, 129, 136])
    (k : Hold (wpAny (model prog w) A (call (.ref f) vs) Q E s)) : wpAny (model prog w) A (call (.ref f) vs) Q E s := k
local macro_rules | `(tactic| k_room) => `(tactic| ktr_room)
local macro_rules | `(tactic| walk_at "exec While Compare cons nil") => `(tactic| (refine Hold.mk ?_))
local macro_rules | `(tactic| walk_at "exec While Name") => `(tactic| (refine Hold.mk ?_))
local macro_rules | `(tactic| walk_at "WhlIf") => `(tactic| (refine whlIf_split ?_ ?_ <;> intro _))
-- a def entered: its parameters' values said
local macro_rules | `(tactic| k_head) => `(tactic| (
  case kA => exact rfl
  case kF => exact rfl
  case kK => exact rfl
  case k1 => assumption
  case k2 => assumption
  case k3 => assumption
  case k4 => assumption
  case k5 => assumption
  case ka => assumption
  case ko => assumption
  case kr => assumption
  case kq => assumption
  case k6 => k_is
  case k7 => k_is
  case k8 => k_room
  case k9 => first | exact BindsTo.of_eq rfl | exact binds_K (by k_in) rfl (by k_is) rfl rfl rfl | (refine' kp_binds ?kx ?ke; (case kx => k_in); (case ke => exact fun _ => rfl))
  case c2 => exact rfl
  case c3 => exact rfl
  case c4 => exact rfl))
local macro_rules | `(tactic| tb_turn $t:term) => `(tactic| (
  refine' enter_p (binds := $t) ?k1 ?k2 ?k3 ?k4 ?k5 ?ko ?kr ?ka ?kq ?kA ?kF ?kK ?k6 ?k7 ?k8 ?k9 ?kB ?_ ?c2 ?c3 ?c4 ?c5
  k_head
  case kB => exact locs rfl
  case c5 => decide))
local macro_rules | `(tactic| tb_from $t:term) => `(tactic| (
  refine' enter_c (binds := $t) ?k1 ?k2 ?k3 ?k4 ?k5 ?ko ?kr ?ka ?kq ?kA ?kF ?kK ?k6 ?k7 ?k8 ?k9 ?kB ?kD ?_ ?c2 ?c3 ?c4
  k_head
  case kB => exact rfl
  case kD => decide +kernel))
-- a call of a def that has its contract: what every call owes
local macro_rules | `(tactic| o_head $t) => `(tactic| (
  refine' $t ?k1 ?k2 ?k3 ?k4 ?k5 ?kd ?ku ?kp ?_
  case k1 => k_asm
  case k2 => k_asm
  case k3 => k_asm
  case k4 => k_asm
  case k5 => k_asm
  case kp => first | exact True.intro | exact .inl (by assumption) | exact .inr ⟨_, by k_mem, rfl, _, rfl⟩ | exact ⟨(by first | exact .inl (by assumption) | exact .inr ⟨_, by k_mem, rfl, _, rfl⟩), (by first | exact .inl (by assumption) | exact .inr ⟨_, by k_mem, rfl, _, rfl⟩)⟩
  case kd => first | omega | (dsimp only [ktrTop]; omega)
  case ku => first | omega | (dsimp only [ktrTop]; omega)))
-- and behind it
local macro_rules | `(tactic| k_data) => `(tactic| ((rename News _ _ _ _ => N'); simp only [List.nil_append, List.cons_append] at N'; (try k_sweep); (try dsimp only)))
-- the calls that are by hand
local macro_rules | `(tactic| walk_at "call ref cons nil") => `(tactic| (refine' Hold.call ?h ?_; (case h => decide)))
-- two frames' maps are one
local macro_rules | `(tactic| k_same2) => `(tactic| first | (with_reducible rfl) | (funext y9; (try dsimp only); (repeat (apply ptw (y := y9); rfl; intro _)); first | rfl | (simp only [*, if_false]; done) | (simp [*]; done)))
-- the walk without the closers
local macro_rules | `(tactic| k_steps) => `(tactic| repeat' (first | (k_unfold; (try dsimp only)) | walk1 | (dsimp only; first | walk1 | (k_unfold; (try dsimp only))) | fail "no step"))
-- a for loop: my own rule is to follow
local macro_rules | `(tactic| walk_at "exec For Name Name cons nil") => `(tactic| (k_here; (rename Fr _ _ _ _ => lF'); (with_unfolding_all refine' For_invVF lF' ?k1 ?k2 ?_; (case k1 => exact rfl); (case k2 => exact rfl); k_whole)))
local macro_rules | `(tactic| walk_at "exec For Name Call cons nil") => `(tactic| (k_here; (rename Fr _ _ _ _ => lF'); (with_unfolding_all refine' For_invVF lF' ?k1 ?k2 ?_; (case k1 => exact rfl); (case k2 => exact rfl); k_whole)))
local macro_rules | `(tactic| walk_at "pyIter ref") => `(tactic| (refine Hold.mk ?_))
-- one ledger within another
local macro_rules | `(tactic| k_sub) => `(tactic| ((try simp only [List.nil_append, List.cons_append]); k_allIn))
-- the ledger without one entry
local macro_rules | `(tactic| k_upd) => `(tactic| first | (refine' Rem.head ?a; (case a => k_all)) | (refine' Rem.tail ?a ?b; (case a => k_ne); (case b => k_upd)))
local macro_rules | `(tactic| k_all) => `(tactic| assumption)

structure BisSt where
  lo : Int
  hi : Int
  tlo : Tok
  thi : Tok
  mid : Option Value
set_option maxHeartbeats 8000000 in
theorem bisect4 {w : World} {p : Program} {loose : List Str} {mean : ExcName → Option Value} {mg mb : Str → Option Value} {D : Addr} {vs : List Value} {ns : List Int} {x : Int} {tx t0 : Tok}
   (hi : IntsAre vs ns) (hsr : Srt ns) (hl : ns.length < 1000) :
   Fn w p loose mean mg mb 1 8 32 [.ref D, .int x tx, .int 0 t0, .none] [] (fun h₀ rest => LCg.SrcAt h₀ D vs.toArray rest) (fun r news' => news' = [] ∧ ∃ t, r = .int (cntLe ns x) t) := by
  unfold Fn
  k_fill
  intro dp un gd cn cns cg cc cm a ccd cl outer A₀ base h₀ L m s news rest Q E B F X N T hd hu hown hrest hap hpre ret
  tb_turn [(Str.ofString "a", Value.ref D), (Str.ofString "x", Value.int x tx), (Str.ofString "lo", Value.int 0 t0), (Str.ofString "hi", Value.none), (Str.ofString "key", Value.none)]
  clear ret N F B X T
  intro g L' h₁ tk F' N' B' X' T' st hr
  have hD := srcAt_g hpre st hr
  clear hr st hpre
  dsimp only [bmap, List.reverse, List.reverseAux] at F' ⊢
  try k_unmd
  k_fold
  k_steps
  refine Hold.of ?_
  try k_unmd
  k_fold
  refine while_st (α := BisSt) (fun a y => if y = Str.ofString "lo" then some (.int a.lo a.tlo) else if y = Str.ofString "hi" then some (.int a.hi a.thi) else if y = Str.ofString "mid" then a.mid else if y = Str.ofString "a" then some (.ref D) else if y = Str.ofString "x" then some (.int x tx) else if y = Str.ofString "key" then some .none else none) (fun _ => []) (fun a => 0 ≤ a.lo ∧ a.lo ≤ a.hi ∧ a.hi ≤ ns.length ∧ (∀ j : Nat, (j : Int) < a.lo → ns.getD j 0 ≤ x) ∧ (∀ j : Nat, a.hi ≤ j → j < ns.length → x < ns.getD j 0)) (fun a => (a.hi - a.lo).toNat) PassesOwn.never ?turn ⟨0, (ns.length : Int), t0, _, none⟩ (by assumption) (by assumption) (by k_same2) (fun _ h => h) ⟨by simp, by simp, by simp, fun j hj => absurd hj (by simp only []; lia), fun j hj hj' => absurd hj (by simp only []; lia)⟩
  intro b h tk ⟨p1, p2, p3, p4, p5⟩ F' N'
  k_steps
  · rename decide _ = true => q1
    rename x < _ => q2
    have q1 : b.lo < b.hi := of_decide_eq_true q1
    have e : (b.lo + b.hi).fdiv 2 = (b.lo + b.hi) / 2 := Int.fdiv_eq_ediv_of_nonneg _ (by lia)
    rw [e] at q2
    refine WhEnd.next ⟨b.lo, (b.lo + b.hi).fdiv 2, _, _, _⟩ (by assumption) (by assumption) (by k_same2) (fun _ h => h) ⟨p1, by simp only [e]; lia, by simp only [e]; lia, p4, fun j hj hj' => ?_⟩ (by simp only [e]; lia)
    simp only [e] at hj
    exact Int.lt_of_lt_of_le q2 (srt_get hsr (by lia) hj')
  · rename decide _ = true => q1
    rename ¬ x < _ => q2
    have q1 : b.lo < b.hi := of_decide_eq_true q1
    have e : (b.lo + b.hi).fdiv 2 = (b.lo + b.hi) / 2 := Int.fdiv_eq_ediv_of_nonneg _ (by lia)
    rw [e] at q2
    refine WhEnd.next ⟨(b.lo + b.hi).fdiv 2 + 1, b.hi, _, _, _⟩ (by assumption) (by assumption) (by k_same2) (fun _ h => h) ⟨by simp only [e]; lia, by simp only [e]; lia, p3, fun j hj => ?_, p5⟩ (by simp only [e]; lia)
    simp only [e] at hj
    exact Int.le_trans (srt_get hsr (by lia) (by lia)) (Int.not_lt.mp q2)
  · rename decide _ = false => q1
    have q1 : ¬ b.lo < b.hi := of_decide_eq_false q1
    refine BodyEnd.mk F' N' [] (fun _ h => nomatch h) ⟨rfl, b.tlo, ?_⟩
    rw [cntLe_eq ns x b.lo.toNat (by lia) (fun j hj => p4 j (by lia)) fun j hj hj' => p5 j (by lia) hj']
    rw [Int.toNat_of_nonneg p1]
local macro_rules | `(tactic| walk_at "call ref cons nil") => `(tactic| ((with_reducible show wpAny _ _ (call (Value.ref 32) [_, _, _, _]) _ _ _); o_head (bisect4 ?ki ?ks ?kl).reads; (case ki => assumption); (case ks => assumption); (case kl => first | assumption | omega); rintro _ _ _ _ _ _ ap' ⟨e1', t', e2'⟩; subst e1' e2'; clear ap'; k_data))

set_option maxHeartbeats 8000000 in
theorem bisect2 {w : World} {p : Program} {loose : List Str} {mean : ExcName → Option Value} {mg mb : Str → Option Value} {D : Addr} {vs : List Value} {ns : List Int} {x : Int} {tx : Tok}
   (hi : IntsAre vs ns) (hsr : Srt ns) (hl : ns.length < 1000) :
   Fn w p loose mean mg mb 1 8 32 [.ref D, .int x tx] [] (fun h₀ rest => LCg.SrcAt h₀ D vs.toArray rest) (fun r news' => news' = [] ∧ ∃ t, r = .int (cntLe ns x) t) := by
  unfold Fn
  k_fill
  intro dp un gd cn cns cg cc cm a ccd cl outer A₀ base h₀ L m s news rest Q E B F X N T hd hu hown hrest hap hpre ret
  tb_turn [(Str.ofString "a", Value.ref D), (Str.ofString "x", Value.int x tx), (Str.ofString "lo", Value.int 0 202), (Str.ofString "hi", Value.none), (Str.ofString "key", Value.none)]
  clear ret N F B X T
  intro g L' h₁ tk F' N' B' X' T' st hr
  have hD := srcAt_g hpre st hr
  clear hr st hpre
  dsimp only [bmap, List.reverse, List.reverseAux] at F' ⊢
  try k_unmd
  k_fold
  k_steps
  refine Hold.of ?_
  try k_unmd
  k_fold
  refine while_st (α := BisSt) (fun a y => if y = Str.ofString "lo" then some (.int a.lo a.tlo) else if y = Str.ofString "hi" then some (.int a.hi a.thi) else if y = Str.ofString "mid" then a.mid else if y = Str.ofString "a" then some (.ref D) else if y = Str.ofString "x" then some (.int x tx) else if y = Str.ofString "key" then some .none else none) (fun _ => []) (fun a => 0 ≤ a.lo ∧ a.lo ≤ a.hi ∧ a.hi ≤ ns.length ∧ (∀ j : Nat, (j : Int) < a.lo → ns.getD j 0 ≤ x) ∧ (∀ j : Nat, a.hi ≤ j → j < ns.length → x < ns.getD j 0)) (fun a => (a.hi - a.lo).toNat) PassesOwn.never ?turn ⟨0, (ns.length : Int), _, _, none⟩ (by assumption) (by assumption) (by k_same2) (fun _ h => h) ⟨by simp, by simp, by simp, fun j hj => absurd hj (by simp only []; lia), fun j hj hj' => absurd hj (by simp only []; lia)⟩
  intro b h tk ⟨p1, p2, p3, p4, p5⟩ F' N'
  k_steps
  · rename decide _ = true => q1
    rename x < _ => q2
    have q1 : b.lo < b.hi := of_decide_eq_true q1
    have e : (b.lo + b.hi).fdiv 2 = (b.lo + b.hi) / 2 := Int.fdiv_eq_ediv_of_nonneg _ (by lia)
    rw [e] at q2
    refine WhEnd.next ⟨b.lo, (b.lo + b.hi).fdiv 2, _, _, _⟩ (by assumption) (by assumption) (by k_same2) (fun _ h => h) ⟨p1, by simp only [e]; lia, by simp only [e]; lia, p4, fun j hj hj' => ?_⟩ (by simp only [e]; lia)
    simp only [e] at hj
    exact Int.lt_of_lt_of_le q2 (srt_get hsr (by lia) hj')
  · rename decide _ = true => q1
    rename ¬ x < _ => q2
    have q1 : b.lo < b.hi := of_decide_eq_true q1
    have e : (b.lo + b.hi).fdiv 2 = (b.lo + b.hi) / 2 := Int.fdiv_eq_ediv_of_nonneg _ (by lia)
    rw [e] at q2
    refine WhEnd.next ⟨(b.lo + b.hi).fdiv 2 + 1, b.hi, _, _, _⟩ (by assumption) (by assumption) (by k_same2) (fun _ h => h) ⟨by simp only [e]; lia, by simp only [e]; lia, p3, fun j hj => ?_, p5⟩ (by simp only [e]; lia)
    simp only [e] at hj
    exact Int.le_trans (srt_get hsr (by lia) (by lia)) (Int.not_lt.mp q2)
  · rename decide _ = false => q1
    have q1 : ¬ b.lo < b.hi := of_decide_eq_false q1
    refine BodyEnd.mk F' N' [] (fun _ h => nomatch h) ⟨rfl, b.tlo, ?_⟩
    rw [cntLe_eq ns x b.lo.toNat (by lia) (fun j hj => p4 j (by lia)) fun j hj hj' => p5 j (by lia) hj']
    rw [Int.toNat_of_nonneg p1]
local macro_rules | `(tactic| walk_at "call ref cons nil") => `(tactic| ((with_reducible show wpAny _ _ (call (Value.ref 32) [_, _]) _ _ _); o_head (bisect2 ?ki ?ks ?kl).reads; (case ki => assumption); (case ks => assumption); (case kl => first | assumption | omega); rintro _ _ _ _ _ _ ap' ⟨e1', t', e2'⟩; subst e1' e2'; clear ap'; k_data))

set_option maxHeartbeats 8000000 in
theorem insort {w : World} {p : Program} {loose : List Str} {mean : ExcName → Option Value} {mg mb : Str → Option Value} {D : Addr} {vs : List Value} {ns : List Int} {n : Nat} {x : Int} {tx : Tok}
   (hi : IntsAre vs ns) (hsr : Srt ns) (hl : ns.length < 1000) :
   Fn w p loose mean mg mb 2 16 23 [.ref D, .int x tx] [(D, listOf vs.toArray n)] (fun h₀ rest => True) (fun r news' => ∃ vs' ns' n', news' = [(D, listOf vs'.toArray n')] ∧ IntsAre vs' ns' ∧ Srt ns' ∧ ns'.Perm (x :: ns) ∧ r = .none) := by
  unfold Fn
  k_fill
  intro dp un gd cn cns cg cc cm a ccd cl outer A₀ base h₀ L m s news rest Q E B F X N T hd hu hown hrest hap hpre ret
  tb_turn [(Str.ofString "a", Value.ref D), (Str.ofString "x", Value.int x tx), (Str.ofString "lo", Value.int 0 189), (Str.ofString "hi", Value.none), (Str.ofString "key", Value.none)]
  clear ret N F B X T
  intro g L' h₁ tk F' N' B' X' T' st hr
  clear hr st hpre
  dsimp only [bmap, List.reverse, List.reverseAux] at F' ⊢
  try k_unmd
  k_fold
  k_steps
  have hc := cntLe_le ns x
  refine kl_insert (l := kl_ins vs (cntLe ns x) (.int x tx)) (by assumption) (by assumption) ?f (by simp) (Upd.head (by intro _ h; cases h)) ?z ?_
  case f => unfold Builtin.List.listFitsIndex; simp; lia
  case z => simp only [hi.length]; rw [sizeLine_eq]; lia
  intro h' F' N'
  k_steps
  refine BodyEnd.mk F' N' _ (fun _ h => h) ⟨_, _, _, rfl, ?_, (cnt_ins hsr x).1, (cnt_ins hsr x).2, rfl⟩
  have e : (if ((cntLe ns x : Nat) : Int) < 0 then (((cntLe ns x : Nat) : Int) + (vs.length : Int)).toNat else min ((cntLe ns x : Nat) : Int).toNat vs.length) = cntLe ns x := by
    rw [if_neg (by lia), hi.length]; lia
  unfold kl_ins
  rw [e]
  exact (hi.take _).append (.cons x tx (hi.drop _))
local macro_rules | `(tactic| walk_at "call ref cons nil") => `(tactic| ((with_reducible show wpAny _ _ (call (Value.ref 23) _) _ _ _); o_head ((insort ?ki ?ks ?kl).turns ?kr); (case kr => k_upd); (case ki => assumption); (case ks => assumption); (case kl => first | assumption | omega); rintro _ _ _ _ _ _ ap' ⟨vs', ns', m', e1', i', s', p', e2'⟩; subst e1' e2'; k_data))

structure KeptSt where
  hue : Option Value
  vs : List Value
  ns : List Int
  n : Nat
set_option maxHeartbeats 8000000 in
theorem kept {w : World} {p : Program} {loose : List Str} {mean : ExcName → Option Value} {mg mb : Str → Option Value} {D : Addr} {vs : List Value} {ns : List Int}
   (hi : IntsAre vs ns) (hl : ns.length < 900) :
   Fn w p loose mean mg mb 3 24 122 [.ref D] [] (fun h₀ rest => LCg.SrcAt h₀ D vs.toArray rest) (fun r news' => ∃ l vs' ns' n', r = .ref l ∧ news' = [(l, listOf vs'.toArray n')] ∧ IntsAre vs' ns' ∧ Srt ns' ∧ ns'.Perm ns) := by
  unfold Fn
  k_fill
  intro dp un gd cn cns cg cc cm a ccd cl outer A₀ base h₀ L m s news rest Q E B F X N T hd hu hown hrest hap hpre ret
  tb_turn [(Str.ofString "hues", Value.ref D)]
  clear ret N F B X T
  intro g L' h₁ tk F' N' B' X' T' st hr
  have hD := srcAt_g hpre st hr
  clear hr st hpre
  dsimp only [bmap, List.reverse, List.reverseAux] at F' ⊢
  try k_unmd
  k_fold
  k_steps
  rename_i l' _ l1 h' F1 N1
  refine Hold.of ?_
  try k_unmd
  refine iter_base (α := KeptSt) (fun a y => if y = Str.ofString "hue" then a.hue else if y = Str.ofString "row" then some (.ref l') else if y = Str.ofString "hues" then some (.ref D) else none) (fun a => [(l', listOf a.vs.toArray a.n)])
    (fun i a => IntsAre a.vs a.ns ∧ Srt a.ns ∧ a.ns.Perm (ns.take i)) rfl hD F1 N1 ⟨none, [], [], 0⟩ (by k_same2) (fun _ h => h) ⟨.nil, .nil, by simp⟩ ?_ ?_
  · intro i v a I oI h tk _ hv ⟨q1, q2, q3⟩ hne F' N' _
    obtain ⟨n, t, rfl, hn⟩ := hi.at i v hv
    have hne' : @Ne Nat l' I := hne _ (List.mem_singleton.mpr rfl)
    have hlen : a.ns.length < 1000 := by have := q3.length_eq; rw [List.length_take] at this; omega
    clear F1 N1
    try k_unmd
    k_fold
    k_steps
    rename_i vs' ns' m' i' s' p' N2 ap'
    refine FoEnd.next ⟨_, vs', ns', m'⟩ (by assumption) N2 (by k_same2) (by k_sub) (fun p hp => by rw [List.mem_singleton.mp hp]; exact hne') ⟨i', s', ?_⟩
    rw [List.take_add_one, hn]
    exact p'.trans ((q3.cons n).trans (List.perm_append_comm (l₁ := [n])))
  · intro a h tk ⟨q1, q2, q3⟩ F' N'
    have e : vs.length = ns.length := hi.length
    rw [e, List.take_length] at q3
    dsimp only
    k_steps
    exact BodyEnd.mk F' N' _ (fun _ h => h) ⟨_, _, _, _, rfl, rfl, q1, q2, q3⟩
local macro_rules | `(tactic| walk_at "call ref cons nil") => `(tactic| ((with_reducible show wpAny _ _ (call (Value.ref 122) _) _ _ _); o_head (kept ?ki ?kl).reads; (case ki => assumption); (case kl => first | assumption | omega); rintro _ _ _ _ _ _ ap' ⟨l', vs', ns', m', e1', e2', i', s', p'⟩; subst e1' e2'; k_data))

-- items with keys: ints, and pairs of ints in tuples
section
variable {prog : Program} {w : World} {A : Around} {E : Value → Shared → Prop} {s : Shared} {a b : Addr} {i j i' j' : Int} {ti tj ti' tj' : Tok}
theorem tup_lt_tree {P : Fin → Shared → Prop} (hx : IsTup s.heap a #[.int i ti, .int j tj]) (hy : IsTup s.heap b #[.int i' ti', .int j' tj'])
    (h : P (.done (.ret (.bool (decide (i < i' ∨ (i = i' ∧ j < j')))))) s) : wpAny (model prog w) A (Builtin.«tuple.__lt__» ⟨[.ref a, .ref b], []⟩) P E s := by
  have hTb := hy.typeIs
  obtain ⟨oa, hoa, _, na, hda⟩ := hx
  obtain ⟨ob, hob, _, nb, hdb⟩ := hy
  show wpAny _ _ (isInstance (.ref b) (.type "tuple") >>= _) _ _ s
  refine wpAny_bind (wpAny_isInstance hTb isSubtype_tuple_tuple ?_)
  simp only [Bool.not_true, Bool.false_eq_true, if_false]
  refine wpAny_bind (wpAny_tupleItemsOf hoa hda ?_)
  refine wpAny_bind (wpAny_tupleItemsOf hob hdb ?_)
  simp only [List.zip_cons_cons, List.zip_nil_right, List.forIn_cons, List.forIn_nil]
  refine wpAny_bind (wpAny_bind (wpAny_bind (wpAny_eqBool_int ?_)))
  by_cases h1 : i = i'
  · subst h1
    simp only [beq_self_eq_true, Bool.not_true, Bool.false_eq_true, if_false]
    refine wpAny_pure (wpAny_bind (wpAny_bind (wpAny_eqBool_int ?_)))
    by_cases h2 : j = j'
    · subst h2
      simp only [beq_self_eq_true, Bool.not_true, Bool.false_eq_true, if_false]
      refine wpAny_pure (wpAny_pure ?_)
      have e : decide (i < i ∨ (i = i ∧ j < j)) = false := decide_eq_false (by lia)
      rw [e] at h
      exact wpAny_pure h
    · have e : (j == j') = false := by simpa using h2
      simp only [e, Bool.not_false, if_true]
      refine wpAny_bind (wpAny_rule (wpAny_bind (show wpAny _ _ (compareOp .Lt (.int j tj) (.int j' tj')) _ _ _ from PyProof.Rows.lt_int (wpAny_bind (wpAny_pure (wpAny_pure (wpAny_pure ?_)))))))
      have e : decide (i < i ∨ (i = i ∧ j < j')) = decide (j < j') := by simp
      rw [e] at h
      exact wpAny_pure h
  · have e : (i == i') = false := by simpa using h1
    simp only [e, Bool.not_false, if_true]
    refine wpAny_bind (wpAny_rule (wpAny_bind (show wpAny _ _ (compareOp .Lt (.int i ti) (.int i' ti')) _ _ _ from PyProof.Rows.lt_int (wpAny_bind (wpAny_pure (wpAny_pure (wpAny_pure ?_)))))))
    have e : decide (i < i' ∨ (i = i' ∧ j < j')) = decide (i < i') := by simp [h1]
    rw [e] at h
    exact wpAny_pure h
theorem tup_lt {Q : Value → Shared → Prop} (hu : A.units < cLine) (hx : IsTup s.heap a #[.int i ti, .int j tj]) (hy : IsTup s.heap b #[.int i' ti', .int j' tj'])
    (h : Q (.bool (decide (i < i' ∨ (i = i' ∧ j < j')))) s) : wpAny (model prog w) A (compareOp .Lt (.ref a) (.ref b)) Q E s :=
  wpAny_richCompare_same_room (op := .Lt) hx.typeIs hy.typeIs F.slot_tuple_lt
    (wpAny_call_entry F.slot_tuple_lt hx.typeIs F.entry_tuple_lt (tup_lt_tree hx hy ⟨_, rfl, (fun e => nomatch e), h⟩) (F.args_tuple_lt_2 _ _)) hu
/-- a value and its key: an int (b = false), or a pair of ints (b = true) -/
inductive KeyAt (h : Heap) : Bool → Value → Int → Prop
  | int (k : Int) (t : Tok) : KeyAt h false (.int k t) k
  | tup {a : Addr} {i j : Int} {ti tj : Tok} : IsTup h a #[.int i ti, .int j tj] → 0 ≤ j → j < 1000 → KeyAt h true (.ref a) (1000 * i + j)
theorem KeyAt.keeps {h h' : Heap} {b : Bool} {v : Value} {k : Int} (x : KeyAt h b v k) (hk : ∀ b o, h.get? b = some o → h'.get? b = some o) : KeyAt h' b v k := by
  cases x with
  | int k t => exact .int k t
  | tup hx h0 h1 => exact .tup (hx.keeps hk) h0 h1
theorem lt_key {Q : Value → Shared → Prop} {bb : Bool} {v v' : Value} {k k' : Int} (hu : A.units < cLine) (hx : KeyAt s.heap bb v k) (hy : KeyAt s.heap bb v' k') (h : Q (.bool (decide (k < k'))) s) :
    wpAny (model prog w) A (compareOp .Lt v v') Q E s := by
  cases hx with
  | int k t =>
    cases hy with
    | int k' t' => exact PyProof.Rows.lt_int h
  | @tup a i j ti tj hx h0 h1 =>
    cases hy with
    | @tup a' i' j' ti' tj' hy h0' h1' =>
      refine tup_lt hu hx hy ?_
      have e : decide (i < i' ∨ (i = i' ∧ j < j')) = decide (1000 * i + j < 1000 * i' + j') := decide_eq_decide.mpr (by lia)
      rw [e]; exact h
end

-- heaps of keys, plain
theorem getD_set (l : List Int) (p : Nat) (v : Int) (i : Nat) (hp : p < l.length) : (l.set p v).getD i 0 = if i = p then v else l.getD i 0 := by
  rw [List.getD_eq_getElem?_getD, List.getD_eq_getElem?_getD, List.getElem?_set]
  by_cases h : i = p
  · subst h; simp [hp]
  · have h' : ¬ p = i := fun e => h e.symm
    simp [h, h']
noncomputable def Hp (s : Nat) (ks : List Int) : Prop := ∀ i, 0 < i → i < ks.length → s ≤ (i - 1) / 2 → ks.getD ((i - 1) / 2) 0 ≤ ks.getD i 0
structure Hole (s : Nat) (ks : List Int) (p : Nat) (x : Int) : Prop where
  far : ∀ i, 0 < i → i < ks.length → s ≤ (i - 1) / 2 → i ≠ p → (i - 1) / 2 ≠ p → ks.getD ((i - 1) / 2) 0 ≤ ks.getD i 0
  below : ∀ c, 0 < c → c < ks.length → (c - 1) / 2 = p → x ≤ ks.getD c 0
  over : s < p → ∀ c, 0 < c → c < ks.length → (c - 1) / 2 = p → ks.getD ((p - 1) / 2) 0 ≤ ks.getD c 0
inductive Sub (s : Nat) : Nat → Prop
  | refl : Sub s s
  | child {p c : Nat} : Sub s p → (c - 1) / 2 = p → 0 < c → Sub s c
theorem Sub.le {s p : Nat} (h : Sub s p) : s ≤ p := by
  induction h with
  | refl => exact Nat.le_refl _
  | child _ e _ ih => lia
theorem Sub.up {s p : Nat} (h : Sub s p) (hp : s < p) : Sub s ((p - 1) / 2) := by
  cases h with
  | refl => lia
  | child h e _ => exact e ▸ h
theorem Hole.stop {s p : Nat} {ks : List Int} {x : Int} (h : Hole s ks p x) (hp : p < ks.length) (hs : Sub s p) (hb : p = s ∨ ks.getD ((p - 1) / 2) 0 ≤ x) : Hp s (ks.set p x) := by
  intro i h0 hi hsi
  rw [List.length_set] at hi
  rw [getD_set _ _ _ _ hp, getD_set _ _ _ _ hp]
  by_cases e1 : i = p
  · subst e1
    have hne : (i - 1) / 2 ≠ i := by lia
    rw [if_pos rfl, if_neg hne]
    rcases hb with hb | hb
    · subst hb; lia
    · exact hb
  · rw [if_neg e1]
    by_cases e2 : (i - 1) / 2 = p
    · rw [if_pos e2]; exact h.below i h0 hi e2
    · rw [if_neg e2]; exact h.far i h0 hi hsi e1 e2
theorem Hole.up {s p : Nat} {ks : List Int} {x : Int} (h : Hole s ks p x) (hp : p < ks.length) (hs : Sub s p) (hsp : s < p) (hx : x < ks.getD ((p - 1) / 2) 0) :
    Hole s (ks.set p (ks.getD ((p - 1) / 2) 0)) ((p - 1) / 2) x := by
  have hup := (hs.up hsp).le
  refine ⟨fun i h0 hi hsi e1 e2 => ?_, fun c h0 hc e => ?_, fun hlt c h0 hc e => ?_⟩
  · rw [List.length_set] at hi
    rw [getD_set _ _ _ _ hp, getD_set _ _ _ _ hp]
    by_cases e3 : i = p
    · subst e3; exact absurd rfl e2
    · rw [if_neg e3]
      by_cases e4 : (i - 1) / 2 = p
      · rw [if_pos e4]; exact h.over hsp i h0 hi e4
      · rw [if_neg e4]; exact h.far i h0 hi hsi e3 e4
  · rw [List.length_set] at hc
    rw [getD_set _ _ _ _ hp]
    by_cases e3 : c = p
    · rw [if_pos e3]; lia
    · rw [if_neg e3]
      have := h.far c h0 hc (by lia) e3 (by lia)
      rw [e] at this
      lia
  · rw [List.length_set] at hc
    rw [getD_set _ _ _ _ hp, getD_set _ _ _ _ hp, if_neg (by lia)]
    have h1 : ks.getD (((p - 1) / 2 - 1) / 2) 0 ≤ ks.getD ((p - 1) / 2) 0 := h.far ((p - 1) / 2) (by lia) (by lia) (((hs.up hsp).up hlt).le) (by lia) (by lia)
    by_cases e3 : c = p
    · rw [if_pos e3]; exact h1
    · rw [if_neg e3]
      have := h.far c h0 hc (by lia) e3 (by lia)
      rw [e] at this
      lia
/-- the way down: the hole's value is of no account -/
structure Down (s : Nat) (ks : List Int) (p : Nat) : Prop where
  far : ∀ i, 0 < i → i < ks.length → s ≤ (i - 1) / 2 → i ≠ p → (i - 1) / 2 ≠ p → ks.getD ((i - 1) / 2) 0 ≤ ks.getD i 0
  over : s < p → ∀ c, 0 < c → c < ks.length → (c - 1) / 2 = p → ks.getD ((p - 1) / 2) 0 ≤ ks.getD c 0
theorem Down.start {s : Nat} {ks : List Int} (h : Hp (s + 1) ks) : Down s ks s :=
  ⟨fun i h0 hi hsi _ e2 => h i h0 hi (by lia), fun hlt => absurd hlt (Nat.lt_irrefl _)⟩
theorem Down.step {s p c : Nat} {ks : List Int} (h : Down s ks p) (hs : Sub s p) (hc : c < ks.length) (e : (c - 1) / 2 = p) (h0 : 0 < c) (hmin : ∀ d, 0 < d → d < ks.length → (d - 1) / 2 = p → ks.getD c 0 ≤ ks.getD d 0) :
    Down s (ks.set p (ks.getD c 0)) c := by
  have hp : p < ks.length := by lia
  have hle := hs.le
  refine ⟨fun i h1 hi hsi e1 e2 => ?_, fun hlt d h1 hd ed => ?_⟩
  · rw [List.length_set] at hi
    rw [getD_set _ _ _ _ hp, getD_set _ _ _ _ hp]
    by_cases e3 : i = p
    · subst e3
      rw [if_pos rfl, if_neg (by lia)]
      exact h.over (by lia) c h0 hc e
    · rw [if_neg e3]
      by_cases e4 : (i - 1) / 2 = p
      · rw [if_pos e4]; exact hmin i h1 hi e4
      · rw [if_neg e4]; exact h.far i h1 hi hsi e3 e4
  · rw [List.length_set] at hd
    rw [getD_set _ _ _ _ hp, getD_set _ _ _ _ hp, e, if_pos rfl, if_neg (by lia)]
    have := h.far d h1 hd (by lia) (by lia) (by lia)
    rw [ed] at this
    exact this
theorem Down.hole {s p : Nat} {ks : List Int} {x : Int} (h : Down s ks p) (hp : p < ks.length) (hleaf : ks.length ≤ 2 * p + 1) : Hole s (ks.set p x) p x := by
  refine ⟨fun i h0 hi hsi e1 e2 => ?_, fun c h0 hc e => ?_, fun _ c h0 hc e => ?_⟩
  · rw [List.length_set] at hi
    rw [getD_set _ _ _ _ hp, getD_set _ _ _ _ hp, if_neg e1, if_neg e2]
    exact h.far i h0 hi hsi e1 e2
  · rw [List.length_set] at hc; lia
  · rw [List.length_set] at hc; lia
theorem Hp.root {ks : List Int} (h : Hp 0 ks) : ∀ n i, i ≤ n → i < ks.length → ks.getD 0 0 ≤ ks.getD i 0 := by
  intro n
  induction n with
  | zero =>
    intro i hi _
    have : i = 0 := by omega
    subst this
    exact Int.le_refl _
  | succ n ih =>
    intro i hi hlt
    rcases Nat.eq_zero_or_pos i with h0 | h0
    · subst h0; exact Int.le_refl _
    · exact Int.le_trans (ih ((i - 1) / 2) (by omega) (by omega)) (h i h0 hlt (Nat.zero_le _))
theorem Hp.leaves {ks : List Int} {s : Nat} (h : ks.length ≤ 2 * s + 1) : Hp s ks := fun i h0 hi hsi => by lia

-- a list's items turned about
theorem perm_set_set {α : Type} [DecidableEq α] (l : List α) (i j : Nat) (hi : i < l.length) (hj : j < l.length) (y : α) (hij : i ≠ j) : ((l.set i l[j]).set j y).Perm (l.set i y) := by
  rw [List.perm_iff_count]
  intro a
  have h1 : j < (l.set i l[j]).length := by rw [List.length_set]; exact hj
  rw [List.count_set h1, List.count_set hi, List.count_set hi, List.getElem_set_ne hij]
  have hc : (if l[i] == a then 1 else 0) ≤ l.count a := by
    by_cases e : l[i] = a
    · simp only [e, beq_self_eq_true, if_true]
      exact List.count_pos_iff.mpr (e ▸ List.getElem_mem hi)
    · simp [e]
  split <;> split <;> split <;> simp_all <;> lia
theorem perm_set_self {α : Type} (l : List α) (i : Nat) (hi : i < l.length) : l.set i l[i] = l := List.set_getElem_self hi

-- items of a list of the call's own, whatever they are
section
variable {prog : Program} {w : World} {A : Around} {E : Value → Shared → Prop} {s : Shared} {h₀ : Heap} {L D : Addr} {m : Str → Option Value} {news news' : List (Addr × Obj)} {vs : List Value} {n : Nat} {k : Int} {t u : Tok} {v : Value}
theorem item_any {value slice : PySem.Expr} {Q : Value → Shared → Prop} (N : News h₀ L s.heap news) (hm : (D, listOf vs.toArray n) ∈ news) (h0 : 0 ≤ k) (h1 : k < vs.length) (hfit : vs.length < 1000) (h : Q (vs.getD k.toNat .none) s)
    (hs : subscripted slice false (.ref D) (.int k u) = operate [.ref D, .int k u] (getItem (.ref D) (.int k u)) := by with_unfolding_all rfl) :
    wpAny (model prog w) A (subscriptTail value slice (.ref D) (.int k u)) Q E s := by
  have hl : s.heap.IsList D vs.toArray := ⟨_, (N _ hm).1, rfl, _, rfl⟩
  have hj : k.toNat < vs.length := by lia
  refine tail_any hl.typeIs slot_list_getitem.lookup (wpAny_getItem_list hl h0 (by lia) ?_ h) hs
  rw [List.getElem?_toArray, List.getD_eq_getElem?_getD, List.getElem?_eq_getElem hj]
  rfl
theorem len_any {q : Nat} {Q : Value → Shared → Prop} (N : News h₀ L s.heap news) (hm : (D, listOf vs.toArray n) ∈ news) (hk : vs.length = q) (hfit : vs.length < 1000) (h : Q (.int (q : Int) (s.toks + 1)) { s with toks := s.toks + 1 + 1 }) :
    wpAny (model prog w) A (call (.builtin "len") [.ref D]) Q E s := by
  have hl : s.heap.IsList D vs.toArray := ⟨_, (N _ hm).1, rfl, _, rfl⟩
  subst hk
  refine len_list hl ?_ ?_
  · simp only [List.size_toArray]; omega
  · simpa only [List.size_toArray] using h
theorem truthy_any {Q : Bool → Shared → Prop} (N : News h₀ L s.heap news) (hm : (D, listOf vs.toArray n) ∈ news) (hfit : vs.length < 1000) (h : Q (decide (vs.length ≠ 0)) { s with toks := s.toks + 1 + 1 }) :
    wpAny (model prog w) A (truthy (.ref D)) Q E s := by
  have hl : s.heap.IsList D vs.toArray := ⟨_, (N _ hm).1, rfl, _, rfl⟩
  refine wpAny_truthy_list hl (by simp only [List.size_toArray]; omega) ?_
  have e : (!vs.toArray.isEmpty) = decide (vs.length ≠ 0) := by
    cases vs with
    | nil => rfl
    | cons x r => simp
  rw [e]; exact h
theorem set_any {Q : Unit → Shared → Prop} (F : Fr h₀ L s.heap m) (N : News h₀ L s.heap news) (U : Upd D (listOf vs.toArray n) (listOf (vs.set k.toNat v).toArray n) news news') (h0 : 0 ≤ k) (h1 : k < vs.length) (hfit : vs.length < 1000)
    (h : ∀ h', Fr h₀ L h' m → News h₀ L h' news' → Q () { s with heap := h' }) :
    wpAny (model prog w) A (setItem (.ref D) (.int k t) v) Q E s := by
  obtain ⟨pre, post, rfl, rfl, a, b⟩ := U.split
  have z := N (D, listOf vs.toArray n) (List.mem_append.mpr (.inr (.head _)))
  have hs : vs.toArray.size = vs.length := by simp
  refine ki_setAt z.1 h0 (by lia) (by lia) (h _ (F.change (Heap.SameBut.update ..) z.2.1 z.2.2) (ki_turn _ N a b ?_ ?_))
  · apply Array.toList_inj.mp
    simp
  · simp
end
local macro_rules | `(tactic| walk_at "subscriptTail") => `(tactic| (k_here; (with_reducible show wpAny _ _ (subscriptTail _ _ (Value.ref _) (Value.int _ _)) _ _ _); k_dflt (refine' item_any ?k1 ?k2 ?k3 ?k4 ?k5 ?_ ?k7; (case k1 => k_asm); (case k2 => k_mem); (case k3 => first | assumption | omega | l_idx); (case k4 => first | assumption | omega | l_idx); (case k5 => first | assumption | omega); (case k7 => with_unfolding_all rfl); k_whole)))
local macro_rules | `(tactic| walk_at "call builtin:len") => `(tactic| (k_here; (with_reducible show wpAny _ _ (call (Value.builtin "len") [Value.ref _]) _ _ _); k_dflt (refine' len_any ?k1 ?k2 ?k3 ?k4 ?_; (case k1 => k_asm); (case k2 => k_mem); (case k3 => first | assumption | rfl); (case k4 => first | assumption | omega); k_whole)))
local macro_rules | `(tactic| walk_at "truthy ref") => `(tactic| (k_here; k_dflt (refine' truthy_any ?k1 ?k2 ?k3 ?_; (case k1 => k_asm); (case k2 => k_mem); (case k3 => first | assumption | omega); k_whole)))
local macro_rules | `(tactic| walk_at "setItem ref int") => `(tactic| (k_here; k_dflt (refine' set_any ?k1 ?k2 ?k3 ?k4 ?k5 ?k6 ?_; (case k1 => k_asm); (case k2 => k_asm); (case k3 => k_upd); (case k4 => first | assumption | omega); (case k5 => first | assumption | omega); (case k6 => first | assumption | omega); k_whole); intro h' F' N'; (try k_sweep)))
abbrev fstL (ps : List (Value × Int)) : List Value := ps.map (·.1)
abbrev sndL (ps : List (Value × Int)) : List Int := ps.map (·.2)
theorem fst_at {ps : List (Value × Int)} {j : Nat} (hj : j < ps.length) : (fstL ps).getD j .none = ps[j].1 := by
  rw [List.getD_eq_getElem?_getD, List.getElem?_map, List.getElem?_eq_getElem hj]; rfl
theorem snd_at {ps : List (Value × Int)} {j : Nat} (hj : j < ps.length) : (sndL ps).getD j 0 = ps[j].2 := by
  rw [List.getD_eq_getElem?_getD, List.getElem?_map, List.getElem?_eq_getElem hj]; rfl
theorem keyAt_at {g h : Heap} {L : Addr} {m : Str → Option Value} {bb : Bool} {ps : List (Value × Int)} (F : Fr g L h m) (hK : ∀ q ∈ ps, KeyAt g bb q.1 q.2) {j : Nat} (hj : j < ps.length) : KeyAt h bb ((fstL ps).getD j .none) ((sndL ps).getD j 0) := by
  rw [fst_at hj, snd_at hj]
  exact (hK _ (List.getElem_mem hj)).keeps F.keep
local macro_rules | `(tactic| walk_at "compareOp Lt") => `(tactic| (k_here; (refine' lt_key ?hu ?hx ?hy ?_; (case hu => (dsimp only [ktrTop, Around.deeper]; omega)); (case hx => first | exact KeyAt.keeps (by assumption) (Fr.keep (by assumption)) | exact keyAt_at (by assumption) (by assumption) (by omega)); (case hy => first | exact KeyAt.keeps (by assumption) (Fr.keep (by assumption)) | exact keyAt_at (by assumption) (by assumption) (by omega)); k_whole)))

structure SdSt where
  ps : List (Value × Int)
  p : Nat
  tp : Tok
  pp : Option Value
  pa : Option Value
set_option maxHeartbeats 8000000 in
theorem siftdown {w : World} {p : Program} {loose : List Str} {mean : ExcName → Option Value} {mg mb : Str → Option Value} {D : Addr} {bb : Bool} {ps : List (Value × Int)} {n s₀ p₀ : Nat} {ts tp : Tok}
   (hp : p₀ < ps.length) (hl : ps.length < 1000) (hs : Sub s₀ p₀) (hh : Hole s₀ (sndL ps) p₀ ((sndL ps).getD p₀ 0)) :
   Fn w p loose mean mg mb 1 8 74 [.ref D, .int (s₀ : Int) ts, .int (p₀ : Int) tp] [(D, listOf (fstL ps).toArray n)] (fun h₀ rest => ∀ g, h₀.StaysIn g → (∀ q ∈ rest, g.get? q.1 = some q.2) → ∀ q ∈ ps, KeyAt g bb q.1 q.2)
     (fun r news' => ∃ ps', news' = [(D, listOf (fstL ps').toArray n)] ∧ ps'.Perm ps ∧ Hp s₀ (sndL ps') ∧ r = .none) := by
  unfold Fn
  k_fill
  intro dp un gd cn cns cg cc cm a ccd cl outer A₀ base h₀ L m s news rest Q E B F X N T hd hu hown hrest hap hpre ret
  tb_turn [(Str.ofString "heap", Value.ref D), (Str.ofString "startpos", Value.int (s₀ : Int) ts), (Str.ofString "pos", Value.int (p₀ : Int) tp)]
  clear ret N F B X T
  intro g L' h₁ tk F' N' B' X' T' st hr
  have hK := hpre g st hr
  clear hr st hpre
  dsimp only [bmap, List.reverse, List.reverseAux] at F' ⊢
  have e1 : (fstL ps).length = ps.length := List.length_map ..
  try k_unmd
  k_fold
  k_steps
  rename_i _ F1 N1
  have en : (fstL ps).getD ((p₀ : Int)).toNat .none = ps[p₀].1 := fst_at (ps := ps) (j := p₀) hp
  have ek : (sndL ps).getD p₀ 0 = ps[p₀].2 := snd_at hp
  have hKx := hK _ (List.getElem_mem hp)
  have eset : ps.set p₀ ps[p₀] = ps := perm_set_self ps p₀ hp
  rw [en] at F1
  rw [ek] at hh
  generalize ps[p₀] = X at F1 hh hKx eset
  obtain ⟨nv, kx⟩ := X
  dsimp only at F1 hh hKx eset
  refine Hold.of ?_
  try k_unmd
  k_fold
  refine while_st (α := SdSt) (fun a y => if y = Str.ofString "pos" then some (.int (a.p : Int) a.tp) else if y = Str.ofString "parentpos" then a.pp else if y = Str.ofString "parent" then a.pa else if y = Str.ofString "newitem" then some nv else if y = Str.ofString "startpos" then some (.int (s₀ : Int) ts) else if y = Str.ofString "heap" then some (.ref D) else none) (fun a => [(D, listOf (fstL a.ps).toArray n)])
    (fun a => a.p < a.ps.length ∧ a.ps.length = ps.length ∧ Sub s₀ a.p ∧ Hole s₀ (sndL a.ps) a.p kx ∧ (∀ q ∈ a.ps, KeyAt g bb q.1 q.2) ∧ (a.ps.set a.p (nv, kx)).Perm ps) (fun a => a.p) PassesOwn.never ?turn ⟨ps, p₀, tp, none, none⟩ F1 N1 (by k_same2) (fun _ h => h) ⟨hp, rfl, hs, hh, hK, by rw [eset]⟩
  intro b h tk ⟨q1, q2, q3, q4, q5, q6⟩ F' N'
  have e2 : (fstL b.ps).length = b.ps.length := List.length_map ..
  clear F1 N1
  have e3 : (sndL b.ps).length = b.ps.length := List.length_map ..
  by_cases hb : s₀ < b.p
  · have fe : ((b.p : Int) - 1).fdiv (2 ^ Int.toNat 1) = (((b.p - 1) / 2 : Nat) : Int) := by
      rw [Int.fdiv_eq_ediv_of_nonneg _ (by decide)]
      show ((b.p : Int) - 1) / 2 = _
      lia
    have f0 : 0 ≤ ((b.p : Int) - 1).fdiv (2 ^ Int.toNat 1) := by lia
    have f1 : ((b.p : Int) - 1).fdiv (2 ^ Int.toNat 1) < (fstL b.ps).length := by lia
    have f2 : (((b.p : Int) - 1).fdiv (2 ^ Int.toNat 1)).toNat = (b.p - 1) / 2 := by lia
    have hj : (b.p - 1) / 2 < b.ps.length := by lia
    k_steps
    · rename kx < _ => hx
      rename News _ _ _ _ => N2
      rw [f2] at hx N2
      rw [Int.toNat_natCast, fst_at hj] at N2
      rw [snd_at hj] at hx
      have hh4 := q4.up (by rw [e3]; exact q1) q3 hb (by rw [snd_at hj]; exact hx)
      rw [snd_at hj] at hh4
      have em : ∀ v : Value × Int, fstL (b.ps.set b.p v) = (fstL b.ps).set b.p v.1 := fun v => List.map_set ..
      have em2 : ∀ v : Value × Int, sndL (b.ps.set b.p v) = (sndL b.ps).set b.p v.2 := fun v => List.map_set ..
      rw [← em b.ps[(b.p - 1) / 2]] at N2
      rw [← em2 b.ps[(b.p - 1) / 2]] at hh4
      refine WhEnd.cont ⟨b.ps.set b.p b.ps[(b.p - 1) / 2], (b.p - 1) / 2, _, _, _⟩ (by assumption) N2 (by rw [← fe]; k_same2) (fun _ h => h) ⟨by rw [List.length_set]; exact hj, by rw [List.length_set]; exact q2, q3.up hb, hh4, fun q hq => ?_, ?_⟩ (by show (b.p - 1) / 2 < b.p; lia)
      · rcases List.mem_or_eq_of_mem_set hq with hq | rfl
        · exact q5 q hq
        · exact q5 _ (List.getElem_mem hj)
      · exact (perm_set_set b.ps b.p ((b.p - 1) / 2) q1 hj (nv, kx) (by lia)).trans q6
    · rename ¬ kx < _ => hx
      rw [f2] at hx
      dsimp only [WhEnd]
      k_steps
      rename News _ _ _ _ => N2
      rename Fr _ _ _ _ => F2
      rw [Int.toNat_natCast] at N2
      have em : ∀ v : Value × Int, fstL (b.ps.set b.p v) = (fstL b.ps).set b.p v.1 := fun v => List.map_set ..
      have em2 : ∀ v : Value × Int, sndL (b.ps.set b.p v) = (sndL b.ps).set b.p v.2 := fun v => List.map_set ..
      refine BodyEnd.mk F2 N2 _ (fun _ h => h) ⟨b.ps.set b.p (nv, kx), by rw [em], q6, ?_, rfl⟩
      rw [em2]
      exact q4.stop (by rw [e3]; exact q1) q3 (.inr (Int.not_lt.mp hx))
    · rename decide _ = false => q
      exact absurd (of_decide_eq_false q) (by lia)
  · k_steps
    · rename decide _ = true => q
      exact absurd (of_decide_eq_true q) (by lia)
    · rename News _ _ _ _ => N2
      rename Fr _ _ _ _ => F2
      rw [Int.toNat_natCast] at N2
      have em : ∀ v : Value × Int, fstL (b.ps.set b.p v) = (fstL b.ps).set b.p v.1 := fun v => List.map_set ..
      have em2 : ∀ v : Value × Int, sndL (b.ps.set b.p v) = (sndL b.ps).set b.p v.2 := fun v => List.map_set ..
      refine BodyEnd.mk F2 N2 _ (fun _ h => h) ⟨b.ps.set b.p (nv, kx), by rw [em], q6, ?_, rfl⟩
      rw [em2]
      exact q4.stop (by rw [e3]; exact q1) q3 (.inl (by have := q3.le; lia))

structure SuSt where
  ps : List (Value × Int)
  p : Nat
  tp : Tok
  tc : Tok
  te : Tok
  rp : Option Value
theorem fstL_set {ps : List (Value × Int)} {i : Nat} {v : Value × Int} : fstL (ps.set i v) = (fstL ps).set i v.1 := List.map_set ..
theorem sndL_set {ps : List (Value × Int)} {i : Nat} {v : Value × Int} : sndL (ps.set i v) = (sndL ps).set i v.2 := List.map_set ..
theorem su_step {g : Heap} {bb : Bool} {ps bs : List (Value × Int)} {s₀ p c : Nat} {nv : Value} {kx : Int} (q1 : p < bs.length) (q2 : bs.length = ps.length) (q3 : Sub s₀ p) (q4 : Down s₀ (sndL bs) p) (q5 : ∀ q ∈ bs, KeyAt g bb q.1 q.2)
    (q6 : (bs.set p (nv, kx)).Perm ps) (hc : c < bs.length) (e : (c - 1) / 2 = p) (h0 : 0 < c) (hmin : ∀ d, 0 < d → d < bs.length → (d - 1) / 2 = p → (sndL bs).getD c 0 ≤ (sndL bs).getD d 0) :
    c < (bs.set p bs[c]).length ∧ (bs.set p bs[c]).length = ps.length ∧ Sub s₀ c ∧ Down s₀ (sndL (bs.set p bs[c])) c ∧ (∀ q ∈ bs.set p bs[c], KeyAt g bb q.1 q.2) ∧ ((bs.set p bs[c]).set c (nv, kx)).Perm ps := by
  have e3 : (sndL bs).length = bs.length := List.length_map ..
  refine ⟨by rw [List.length_set]; exact hc, by rw [List.length_set]; exact q2, .child q3 e h0, ?_, fun q hq => ?_, ?_⟩
  · rw [sndL_set, ← snd_at hc]
    exact q4.step q3 (by rw [e3]; exact hc) e h0 (by rw [e3]; exact hmin)
  · rcases List.mem_or_eq_of_mem_set hq with hq | rfl
    · exact q5 q hq
    · exact q5 _ (List.getElem_mem hc)
  · exact (perm_set_set bs p c q1 hc (nv, kx) (by lia)).trans q6
set_option maxHeartbeats 8000000 in
theorem siftup {w : World} {p : Program} {loose : List Str} {mean : ExcName → Option Value} {mg mb : Str → Option Value} {D : Addr} {bb : Bool} {ps : List (Value × Int)} {n s₀ : Nat} {ts : Tok}
   (hp : s₀ < ps.length) (hl : ps.length < 1000) (hh : Hp (s₀ + 1) (sndL ps)) :
   Fn w p loose mean mg mb 2 16 81 [.ref D, .int (s₀ : Int) ts] [(D, listOf (fstL ps).toArray n)] (fun h₀ rest => ∀ g, h₀.StaysIn g → (∀ q ∈ rest, g.get? q.1 = some q.2) → ∀ q ∈ ps, KeyAt g bb q.1 q.2)
     (fun r news' => ∃ ps', news' = [(D, listOf (fstL ps').toArray n)] ∧ ps'.Perm ps ∧ Hp s₀ (sndL ps') ∧ r = .none) := by
  unfold Fn
  k_fill
  intro dp un gd cn cns cg cc cm a ccd cl outer A₀ base h₀ L m s news rest Q E B F X N T hd hu hown hrest hap hpre ret
  tb_turn [(Str.ofString "heap", Value.ref D), (Str.ofString "pos", Value.int (s₀ : Int) ts)]
  clear ret N F B X T
  intro g L' h₁ tk F' N' B' X' T' st hr
  have hK := hpre g st hr
  clear hr st hpre
  dsimp only [bmap, List.reverse, List.reverseAux] at F' ⊢
  have e1 : (fstL ps).length = ps.length := List.length_map ..
  try k_unmd
  k_fold
  k_steps
  rename_i _ _ _ _ F1 N1
  have en : (fstL ps).getD ((s₀ : Int)).toNat .none = ps[s₀].1 := fst_at (ps := ps) (j := s₀) hp
  have hKx := hK _ (List.getElem_mem hp)
  have eset : ps.set s₀ ps[s₀] = ps := perm_set_self ps s₀ hp
  rw [en] at F1
  generalize ps[s₀] = X at F1 hKx eset
  obtain ⟨nv, kx⟩ := X
  dsimp only at F1 hKx eset
  refine Hold.of ?_
  try k_unmd
  k_fold
  refine while_st (α := SuSt) (fun a y => if y = Str.ofString "pos" then some (.int (a.p : Int) a.tp) else if y = Str.ofString "childpos" then some (.int (2 * (a.p : Int) + 1) a.tc) else if y = Str.ofString "rightpos" then a.rp else if y = Str.ofString "endpos" then some (.int (ps.length : Int) a.te) else if y = Str.ofString "newitem" then some nv else if y = Str.ofString "startpos" then some (.int (s₀ : Int) ts) else if y = Str.ofString "heap" then some (.ref D) else none) (fun a => [(D, listOf (fstL a.ps).toArray n)])
    (fun a => a.p < a.ps.length ∧ a.ps.length = ps.length ∧ Sub s₀ a.p ∧ Down s₀ (sndL a.ps) a.p ∧ (∀ q ∈ a.ps, KeyAt g bb q.1 q.2) ∧ (a.ps.set a.p (nv, kx)).Perm ps) (fun a => ps.length - a.p) PassesOwn.never ?turn ⟨ps, s₀, ts, _, _, none⟩ F1 N1 (by k_same2) (fun _ h => h) ⟨hp, rfl, .refl, .start hh, hK, by rw [eset]⟩
  intro b h tk ⟨q1, q2, q3, q4, q5, q6⟩ F' N'
  have e2 : (fstL b.ps).length = b.ps.length := List.length_map ..
  clear F1 N1
  have e3 : (sndL b.ps).length = b.ps.length := List.length_map ..
  by_cases hb : 2 * b.p + 1 < ps.length
  · by_cases hr : 2 * b.p + 2 < ps.length
    · k_steps
      · rename (sndL b.ps).getD _ 0 < _ => hx
        rename News _ _ _ _ => N2
        rw [show (2 * (b.p : Int) + 1).toNat = 2 * b.p + 1 by lia, show (2 * (b.p : Int) + 1 + 1).toNat = 2 * b.p + 2 by lia] at hx
        rw [show (2 * (b.p : Int) + 1).toNat = 2 * b.p + 1 by lia, Int.toNat_natCast, fst_at (by lia)] at N2
        refine WhEnd.next ⟨b.ps.set b.p b.ps[2 * b.p + 1], 2 * b.p + 1, _, _, _, _⟩ (by assumption) N2 (by k_same2) (by rw [← fstL_set]; exact fun _ h => h)
          (su_step (c := 2 * b.p + 1) q1 q2 q3 q4 q5 q6 (by lia) (by lia) (by lia) fun d h0 h1 e => ?_) (by show ps.length - (2 * b.p + 1) < ps.length - b.p; lia)
        rcases (show d = 2 * b.p + 1 ∨ d = 2 * b.p + 2 by lia) with rfl | rfl
        · exact Int.le_refl _
        · exact Int.le_of_lt hx
      · rename ¬ (sndL b.ps).getD _ 0 < _ => hx
        rename News _ _ _ _ => N2
        rw [show (2 * (b.p : Int) + 1).toNat = 2 * b.p + 1 by lia, show (2 * (b.p : Int) + 1 + 1).toNat = 2 * b.p + 2 by lia] at hx
        rw [show (2 * (b.p : Int) + 1 + 1).toNat = 2 * b.p + 2 by lia, Int.toNat_natCast, fst_at (by lia)] at N2
        refine WhEnd.next ⟨b.ps.set b.p b.ps[2 * b.p + 2], 2 * b.p + 2, _, _, _, _⟩ (by assumption) N2 (by rw [show ((2 * b.p + 2 : Nat) : Int) = 2 * (b.p : Int) + 1 + 1 by lia]; k_same2) (by rw [← fstL_set]; exact fun _ h => h)
          (su_step (c := 2 * b.p + 2) q1 q2 q3 q4 q5 q6 (by lia) (by lia) (by lia) fun d h0 h1 e => ?_) (by show ps.length - (2 * b.p + 2) < ps.length - b.p; lia)
        rcases (show d = 2 * b.p + 1 ∨ d = 2 * b.p + 2 by lia) with rfl | rfl
        · exact Int.not_lt.mp hx
        · exact Int.le_refl _
      · rename decide _ = false => q
        exact absurd (of_decide_eq_false q) (by lia)
    · k_steps
      · rename News _ _ _ _ => N2
        rw [show (2 * (b.p : Int) + 1).toNat = 2 * b.p + 1 by lia, Int.toNat_natCast, fst_at (by lia)] at N2
        refine WhEnd.next ⟨b.ps.set b.p b.ps[2 * b.p + 1], 2 * b.p + 1, _, _, _, _⟩ (by assumption) N2 (by k_same2) (by rw [← fstL_set]; exact fun _ h => h)
          (su_step (c := 2 * b.p + 1) q1 q2 q3 q4 q5 q6 (by lia) (by lia) (by lia) fun d h0 h1 e => ?_) (by show ps.length - (2 * b.p + 1) < ps.length - b.p; lia)
        rcases (show d = 2 * b.p + 1 by lia) with rfl
        exact Int.le_refl _
      · rename decide _ = false => q
        exact absurd (of_decide_eq_false q) (by lia)
  · k_steps
    · rename decide _ = true => q
      exact absurd (of_decide_eq_true q) (by lia)
    · rename News _ _ _ _ => N2
      rename Fr _ _ _ _ => F2
      rw [Int.toNat_natCast, ← fstL_set (v := (nv, kx))] at N2
      have hlen : (b.ps.set b.p (nv, kx)).length = b.ps.length := List.length_set ..
      have hho : Hole s₀ (sndL (b.ps.set b.p (nv, kx))) b.p ((sndL (b.ps.set b.p (nv, kx))).getD b.p 0) := by
        rw [sndL_set, getD_set _ _ _ _ (by rw [e3]; exact q1), if_pos rfl]
        exact q4.hole (by rw [e3]; exact q1) (by rw [e3]; lia)
      refine Hold.of ?_
      refine (siftdown (bb := bb) (ps := b.ps.set b.p (nv, kx)) (s₀ := s₀) (p₀ := b.p) (by rw [hlen]; exact q1) (by rw [hlen]; lia) q3 hho).turns (Rem.head (by intro _ h; cases h)) B' F2 X' N2 T' ?d ?u ?pre ?_
      case pre =>
        intro g' st _ q hq
        rcases List.mem_or_eq_of_mem_set hq with hq | rfl
        · exact (q5 q hq).keeps st
        · exact hKx.keeps st
      case d => dsimp only [ktrTop]; lia
      case u => dsimp only [ktrTop]; lia
      intro v news' h' tk' F3 N3 _ hR
      obtain ⟨ps', e1', p', hp', e2'⟩ := hR
      subst e1' e2'
      simp only [List.append_nil] at N3
      k_steps
      exact BodyEnd.mk F3 N3 _ (fun _ h => h) ⟨ps', rfl, p'.trans q6, hp', rfl⟩

theorem pop_hp {q lst : Value × Int} {r : List (Value × Int)} (h : Hp 0 (sndL (q :: r ++ [lst]))) : Hp (0 + 1) (sndL (lst :: r)) := by
  intro i h0 hi hs
  have hlen : (sndL (lst :: r)).length = r.length + 1 := by simp [sndL]
  rw [hlen] at hi
  have key : ∀ j, 0 < j → j < r.length + 1 → (sndL (lst :: r)).getD j 0 = (sndL (q :: r ++ [lst])).getD j 0 := by
    intro j h0 hj
    obtain ⟨k, rfl⟩ : ∃ k, j = k + 1 := ⟨j - 1, by lia⟩
    simp only [sndL, List.cons_append, List.map_cons, List.getD_cons_succ, List.map_append]
    rw [List.getD_eq_getElem?_getD, List.getD_eq_getElem?_getD, List.getElem?_append_left (by rw [List.length_map]; lia)]
  rw [key i h0 hi, key _ (by lia) (by lia)]
  exact h i h0 (by simp [sndL]; lia) (Nat.zero_le _)
theorem pop_min {q lst : Value × Int} {r : List (Value × Int)} (h : Hp 0 (sndL (q :: r ++ [lst]))) : ∀ z ∈ r ++ [lst], q.2 ≤ z.2 := by
  intro z hz
  obtain ⟨i, hi, rfl⟩ := List.getElem_of_mem hz
  have hi' : i + 1 < (sndL (q :: (r ++ [lst]))).length := by
    simp only [sndL, List.length_map, List.length_cons]; lia
  have := h.root (i + 1) (i + 1) (Nat.le_refl _) hi'
  have e : (sndL (q :: r ++ [lst])).getD (i + 1) 0 = ((r ++ [lst])[i]).2 := by
    show (sndL (q :: (r ++ [lst]))).getD (i + 1) 0 = _
    rw [snd_at (ps := q :: (r ++ [lst])) (j := i + 1) (by simpa [sndL] using hi')]
    rfl
  rw [e] at this
  exact this
set_option maxHeartbeats 8000000 in
theorem heappop_ {w : World} {p : Program} {loose : List Str} {mean : ExcName → Option Value} {mg mb : Str → Option Value} {D : Addr} {bb : Bool} {qs : List (Value × Int)} {lst : Value × Int} {n : Nat}
   (hl : qs.length < 900) (hh : Hp 0 (sndL (qs ++ [lst]))) :
   Fn w p loose mean mg mb 3 24 60 [.ref D] [(D, listOf (fstL (qs ++ [lst])).toArray n)] (fun h₀ rest => ∀ g, h₀.StaysIn g → (∀ q ∈ rest, g.get? q.1 = some q.2) → ∀ q ∈ qs ++ [lst], KeyAt g bb q.1 q.2)
     (fun r news' => ∃ x ps' n', news' = [(D, listOf (fstL ps').toArray n')] ∧ (x :: ps').Perm (qs ++ [lst]) ∧ Hp 0 (sndL ps') ∧ (∀ q ∈ ps', x.2 ≤ q.2) ∧ r = x.1) := by
  unfold Fn
  k_fill
  intro dp un gd cn cns cg cc cm a ccd cl outer A₀ base h₀ L m s news rest Q E B F X N T hd hu hown hrest hap hpre ret
  tb_turn [(Str.ofString "heap", Value.ref D)]
  clear ret N F B X T
  intro g L' h₁ tk F' N' B' X' T' st hr
  have hK := hpre g st hr
  clear hr st hpre
  dsimp only [bmap, List.reverse, List.reverseAux] at F' ⊢
  have em : fstL (qs ++ [lst]) = fstL qs ++ [lst.1] := by simp [fstL]
  rw [em] at N'
  have e1 : (fstL qs).length = qs.length := List.length_map ..
  try k_unmd
  k_fold
  k_steps
  refine kl_pop (p := fstL qs) (y := lst.1) F' N' (by simpa using kpa_last lst.1 (fstL qs)) (Upd.head (by intro _ h; cases h)) (by simp only [List.length_append, List.length_map, List.length_singleton]; rw [sizeLine_eq]; lia) ?_
  intro h' F1 N1
  clear F' N' em
  cases qs with
  | nil =>
    k_steps
    rename News _ _ _ _ => N2
    rename Fr _ _ _ _ => F2
    exact BodyEnd.mk F2 N2 _ (fun _ h => h) ⟨lst, [], _, rfl, .refl _, fun _ _ h => absurd h (Nat.not_lt_zero _), (fun _ h => nomatch h), rfl⟩
  | cons q r =>
    have e2 : (fstL (q :: r)).length = r.length + 1 := by simp [fstL]
    k_steps
    rename News _ _ _ _ => N2
    rename Fr _ _ _ _ => F2
    have ef : (fstL (q :: r)).getD (Int.toNat 0) Value.none = q.1 := rfl
    have es : (fstL (q :: r)).set (Int.toNat 0) lst.1 = fstL (lst :: r) := rfl
    rw [es] at N2
    rw [ef] at F2
    refine Hold.of ?_
    have hl2 : (lst :: r).length < 1000 := by rw [List.length_cons] at hl ⊢; lia
    refine (siftup (bb := bb) (ps := lst :: r) (s₀ := 0) (by simp) hl2 (pop_hp hh)).turns (Rem.head (by intro _ h; cases h)) B' F2 X' N2 T' ?d ?u ?pre ?_
    case pre =>
      intro g' st _ q' hq'
      refine (hK q' ?_).keeps st
      rcases List.mem_cons.mp hq' with rfl | hq'
      · simp
      · simp [hq']
    case d => dsimp only [ktrTop]; lia
    case u => dsimp only [ktrTop]; lia
    intro v news' h' tk' F3 N3 _ hR
    obtain ⟨ps', e1', p', hp', e2'⟩ := hR
    subst e1' e2'
    simp only [List.append_nil] at N3
    clear F2 N2
    k_steps
    refine BodyEnd.mk F3 N3 _ (fun _ h => h) ⟨q, ps', _, rfl, (p'.trans ?_).cons q, hp', fun z hz => ?_, ef⟩
    · exact (List.perm_append_comm (l₁ := [lst]))
    · exact pop_min hh z (by rcases List.mem_cons.mp (p'.mem_iff.mp hz) with rfl | h <;> simp [*])

-- reversed(range(0, b)), and the loop over it
section
variable {prog : Program} {w : World} {A : Around} {E : Value → Shared → Prop} {s : Shared}
abbrev rriObj (b : Nat) : Obj := { cls := .type "range_iterator", dict := none, data := .fields #[rawInt ((b : Int) - 1), rawInt (b : Int), rawInt (-1)], slots := #[] }
theorem rangeFields_at {r : Addr} {a b c : Int} {t u v : Tok} {Q : Int × Int × Int → Shared → Prop} (hr : IsRange s.heap r a b c t u v) (h : Q (a, b, c) s) : wpAny (model prog w) A (Builtin.Range.rangeFields (.ref r)) Q E s := by
  unfold Builtin.Range.rangeFields
  refine wpAny_bind (wpAny_field hr rfl (x := .int a t) rfl ?_)
  refine wpAny_bind (wpAny_pure ?_)
  refine wpAny_bind (wpAny_field hr rfl (x := .int b u) rfl ?_)
  refine wpAny_bind (wpAny_pure ?_)
  refine wpAny_bind (wpAny_field hr rfl (x := .int c v) rfl ?_)
  refine wpAny_bind (wpAny_pure ?_)
  exact wpAny_pure h
theorem call_range_reversed {r : Addr} {b : Nat} {t u v : Tok} {Q : Value → Shared → Prop} (hr : IsRange s.heap r 0 (b : Int) 1 t u v) (hb : b < 1000)
    (h : Q (.ref s.heap.objs.size) { s with heap := s.heap.push (rriObj b) }) : wpAny (model prog w) A (call (.builtin "range.__reversed__") [.ref r]) Q E s := by
  have hT : s.TypeIs (.ref r) "range" := ⟨_, hr, rfl⟩
  refine wpAny_call_entry F.slot_range_reversed hT F.entry_range_reversed ?_ (F.args_range_reversed_1 _)
  unfold Builtin.«range.__reversed__»
  refine wpAny_bind (wpAny_of_eq (a := Value.ref r) rfl ?_)
  refine wpAny_bind (rangeFields_at hr ?_)
  have en : Builtin.Range.rangeSize 0 (b : Int) 1 = (b : Int) := by
    unfold Builtin.Range.rangeSize
    rw [if_pos (by decide)]
    by_cases h0 : (0 : Int) < b
    · rw [if_pos h0]; lia
    · rw [if_neg h0]; lia
  have es : (Builtin.Range.rangeFitsLong 0 && Builtin.Range.rangeFitsLong (b : Int) && Builtin.Range.rangeFitsLong 1 && Builtin.Range.rangeFitsLong (-1) && Builtin.Range.rangeFitsLong (0 - 1) && Builtin.Range.rangeFitsLong (b : Int)) = true := by
    unfold Builtin.Range.rangeFitsLong
    simp only [Bool.and_eq_true, decide_eq_true_eq]
    lia
  dsimp only
  rw [en, es]
  simp only [Bool.not_true, Bool.false_eq_true, if_false, if_true]
  refine wpAny_bind (wpAny_newObj_type ?_)
  refine wpAny_pure ⟨_, rfl, ?_⟩
  have e2 : (0 : Int) + ((b : Int) - 1) * 1 = (b : Int) - 1 := by lia
  rw [e2]
  exact h
theorem sub_rri_reversed : isSubtype (.type "range_iterator") (.type "reversed") = pure false := by rw [isSubtype_type]; kernel_rfl
theorem code_reversed_range {r : Addr} {b : Nat} {t u v : Tok} {Q₁ : Value → Shared → Prop} (hr : IsRange s.heap r 0 (b : Int) 1 t u v) (hb : b < 1000)
    (h : Q₁ (.ref s.heap.objs.size) { s with heap := s.heap.push (rriObj b) }) :
    codeAny (model prog w) A (.call (.builtin "reversed.__new__") ⟨[.type "reversed", .ref r], []⟩) (wants Q₁ E) s := by
  have hT : s.TypeIs (.ref r) "range" := ⟨_, hr, rfl⟩
  refine codeAny_of_tree ?_
  show wpAny _ A.in1 (do checkBuiltinCall "reversed.__new__" ⟨[.type "reversed", .ref r], []⟩; again (.builtin "reversed.__new__" ⟨[.type "reversed", .ref r], []⟩)) _ _ s
  refine wpAny_bind (wpAny_of_eq (F.newCall_reversed_1 _) (wpAny_pure ⟨plainId_quiet F.plain_reversed_new _, codeAny_builtin F.entry_reversed_new ?_⟩))
  rw [Around.under_plainId F.plain_reversed_new _]
  unfold Builtin.«reversed.__new__»
  refine wpAny_bind (wpAny_of_eq (newClass_reversed _) ?_)
  dsimp only
  refine wpAny_bind (wpAny_of_eq (a := ()) (by first | rfl | kernel_rfl) ?_)
  refine wpAny_bind (wpAny_of_eq (a := ()) (by first | rfl | kernel_rfl) ?_)
  try dsimp only
  refine wpAny_bind (wpAny_specialOf hT F.slot_range_reversed.lookup ?_)
  try dsimp only
  refine wpAny_bind (wpAny_of_eq (F.slot_range_reversed.bind _) ?_)
  try dsimp only
  first
  | rw [if_neg (show ¬ ((Value.builtin "range.__reversed__" == Value.none) = true) from Bool.false_ne_true)]
  | (show wpAny _ _ (if (Value.builtin "range.__reversed__" == Value.none) = true then _ else _) _ _ _; rw [if_neg (show ¬ ((Value.builtin "range.__reversed__" == Value.none) = true) from Bool.false_ne_true)])
  refine wpAny_bind (wpAny_rule ?_)
  refine wpAny_bind (m := runValue (.call (.builtin "range.__reversed__") ⟨[.ref r], []⟩)) (show wpAny _ _ (call (.builtin "range.__reversed__") [.ref r]) _ _ _ from call_range_reversed hr hb ?_)
  first
  | exact wpAny_pure h
  | exact wpAny_bind (wpAny_pure (wpAny_pure h))
theorem call_reversed_range {r : Addr} {b : Nat} {t u v : Tok} {Q : Value → Shared → Prop} (hr : IsRange s.heap r 0 (b : Int) 1 t u v) (hb : b < 1000)
    (h : Q (.ref s.heap.objs.size) { s with heap := s.heap.push (rriObj b) }) : wpAny (model prog w) A (call (.type "reversed") [.ref r]) Q E s := by
  refine callType_other (U := "range_iterator") (Q₁ := fun obj s₁ => obj = .ref s.heap.objs.size ∧ s₁ = { s with heap := s.heap.push (rriObj b) }) (by decide +kernel) F.create_reversed ⟨_, _, F.mro_reversed⟩ F.made_reversed sub_rri_reversed (F.typeCall_reversed_1 _) (code_reversed_range hr hb ⟨rfl, rfl⟩) ?_
  rintro obj s₁ ⟨rfl, rfl⟩
  exact ⟨⟨_, Heap.get?_push_size _ rfl, rfl⟩, h⟩
end
section
variable {prog : Program} {w : World} {A : Around} {E : Value → Shared → Prop} {s : Shared} {env : Env} {h₀ : Heap} {x : Str} {body : List Stmt} {Q : Flow → Shared → Prop} {α : Type}
/-- a loop over a range's backward iterator, that lies in the ledger: i turns done, the int b - 1 - i at hand -/
theorem iter_revrange {I : Addr} {b : Nat} {m₀ : Str → Option Value} {all : List (Addr × Obj)} (M : α → Str → Option Value) (Led : α → List (Addr × Obj)) (Pd : Nat → α → Prop)
    (hh : A.handled = none) (F : Fr h₀ env.locals s.heap m₀) (N : News h₀ env.locals s.heap all) (hI : (I, rriObj b) ∈ all) (a₀ : α) (hm : m₀ = M a₀) (hN : ∀ p ∈ Led a₀, p ∈ all) (hap : ∀ p ∈ Led a₀, @Ne Nat p.1 I) (hP : Pd 0 a₀)
    (turn : ∀ i t a oI h tk, i < b → Pd i a → (∀ p ∈ Led a, @Ne Nat p.1 I) → Fr h₀ env.locals h (fun y => if y = x then some (.int ((b - 1 - i : Nat) : Int) t) else M a y) → News h₀ env.locals h ((I, oI) :: Led a) →
      wpAny (model prog w) A (execs body env) (FoEnd h₀ env.locals { s with heap := h, toks := tk } M Led (Pd (i + 1)) I [(I, oI)] Q) E { s with heap := h, toks := tk })
    (done : ∀ a h tk, Pd b a → Fr h₀ env.locals h (M a) → News h₀ env.locals h (Led a) → Q .next { s with heap := h, toks := tk }) :
    wpAny (model prog w) A (pyIter (.ref I)) (fun it s₂ => LoopAtV prog w A h₀ env x body Q E it s₂) E s := by
  have hI0 := N _ hI
  have hst0 : IsRangeIter s.heap I ((b : Int) - 1) (b : Int) (-1) := hI0.1
  refine wpAny_pyIter_rangeiter hst0 ?_
  have W : Walks prog w A I [I] [I] b (fun i v => i < b ∧ ∃ t, v = .int (((b : Int) - 1) + i * (-1)) t)
      (fun i h => IsRangeIter h I (((b : Int) - 1) + (i : Nat) * (-1)) ((b : Int) - (i : Nat)) (-1)) := (Walks.range hh I ((b : Int) - 1) (-1) b).bound
  refine loopAt_st (fun oI => [(I, oI)]) M Led Pd W (fun i h st => ⟨_, st⟩) hI0.2.2 ?_ ?_ (by show IsRangeIter _ _ _ _ _; simpa using hst0) F N a₀ hm hN hap hP ?_ ?_
  · intro i h oI own hst hoI hfp hat hall hn
    refine ⟨fun p hp => ?_, fun p hp => ?_⟩
    · have e := List.mem_singleton.mp (hfp p hp)
      exact List.mem_singleton.mpr (Prod.ext e (Option.some.inj ((hat p hp).symm.trans ((congrArg h.get? e).trans hoI))))
    · rw [List.mem_singleton.mp hp]
      exact hall _ List.mem_cons_self hI0.2.2 _ hoI
  · intro hm'
    exact hI0.2.1 (List.mem_singleton.mp hm').symm
  · rintro i v a oI h tk hi ⟨_, t, rfl⟩ hPd hneI F₁ N₁
    have e : ((b : Int) - 1) + (i : Int) * (-1) = ((b - 1 - i : Nat) : Int) := by omega
    rw [e] at F₁
    exact turn i t a oI h tk hi hPd hneI F₁ N₁
  · intro a h tk hPd F₁ N₁
    exact done a h tk hPd F₁ N₁
end

structure HfSt where
  i : Option Value
  ps : List (Value × Int)
  tn : Tok
set_option maxHeartbeats 8000000 in
theorem heapify_ {w : World} {p : Program} {loose : List Str} {mean : ExcName → Option Value} {mg mb : Str → Option Value} {D : Addr} {bb : Bool} {ps : List (Value × Int)} {n : Nat}
   (hl : ps.length < 900) :
   Fn w p loose mean mg mb 3 24 67 [.ref D] [(D, listOf (fstL ps).toArray n)] (fun h₀ rest => ∀ g, h₀.StaysIn g → (∀ q ∈ rest, g.get? q.1 = some q.2) → ∀ q ∈ ps, KeyAt g bb q.1 q.2)
     (fun r news' => ∃ ps', news' = [(D, listOf (fstL ps').toArray n)] ∧ ps'.Perm ps ∧ Hp 0 (sndL ps') ∧ r = .none) := by
  unfold Fn
  k_fill
  intro dp un gd cn cns cg cc cm a ccd cl outer A₀ base h₀ L m s news rest Q E B F X N T hd hu hown hrest hap hpre ret
  tb_turn [(Str.ofString "x", Value.ref D)]
  clear ret N F B X T
  intro g L' h₁ tk F' N' B' X' T' st hr
  have hK := hpre g st hr
  clear hr st hpre
  dsimp only [bmap, List.reverse, List.reverseAux] at F' ⊢
  have e1 : (fstL ps).length = ps.length := List.length_map ..
  try k_unmd
  k_fold
  k_steps
  rename_i h1 _ _ h2 tk2 t₁ u₁ v₁ hr hF hN hkeep
  have eb : (ps.length : Int).fdiv 2 = ((ps.length / 2 : Nat) : Int) := by
    rw [Int.fdiv_eq_ediv_of_nonneg _ (by decide)]; lia
  rw [eb] at hr
  refine call_reversed_range hr (by lia) ?_
  have hF2 := hF.push (rriObj (ps.length / 2))
  have hN2 := News.push hF hN (rriObj (ps.length / 2))
  have hDlt : ∀ q ∈ [(D, listOf (fstL ps).toArray n)], @Ne Nat q.1 h2.objs.size := fun q hq => Nat.ne_of_lt (Heap.lt_size (hN q hq).1)
  refine iter_revrange (α := HfSt) (I := h2.objs.size) (b := ps.length / 2) (fun a y => if y = Str.ofString "i" then a.i else if y = Str.ofString "n" then some (.int (ps.length : Int) a.tn) else if y = Str.ofString "x" then some (.ref D) else none) (fun a => [(D, listOf (fstL a.ps).toArray n)])
    (fun i a => a.ps.Perm ps ∧ Hp (ps.length / 2 - i) (sndL a.ps)) rfl hF2 hN2 List.mem_cons_self ⟨none, ps, _⟩ (by k_same2) (fun q hq => List.mem_cons_of_mem _ hq) hDlt ⟨.refl _, .leaves (by simp only [sndL, List.length_map]; lia)⟩ ?_ ?_
  · intro i t a oI h tk hi ⟨q1, q2⟩ hne F' N'
    clear hF2 hN2 hF hN hkeep hr
    have hne' : @Ne Nat D h2.objs.size := hne _ (List.mem_singleton.mpr rfl)
    have e2 : a.ps.length = ps.length := q1.length_eq
    try k_unmd
    k_fold
    k_steps
    rename Fr _ _ _ _ => F2
    rename News _ _ _ _ => N2
    refine Hold.of ?_
    refine (siftup (bb := bb) (ps := a.ps) (s₀ := ps.length / 2 - 1 - i) (by lia) (by lia) (by rw [show ps.length / 2 - 1 - i + 1 = ps.length / 2 - i by lia]; exact q2)).turns (Rem.tail (fun e => hne' e.symm) (Rem.head (by intro _ h; cases h))) B' F2 X' N2 T' ?d ?u ?pre ?_
    case pre => exact fun g' st _ q' hq' => (hK q' (q1.mem_iff.mp hq')).keeps st
    case d => dsimp only [ktrTop]; lia
    case u => dsimp only [ktrTop]; lia
    intro v news' h' tk' F3 N3 _ hR
    obtain ⟨ps', e1', p', hp', e2'⟩ := hR
    subst e1' e2'
    simp only [List.cons_append, List.nil_append] at N3
    clear F2 N2
    k_steps
    exact FoEnd.next ⟨_, ps', _⟩ F3 N3 (by k_same2) (by k_sub) (fun q hq => by rw [List.mem_singleton.mp hq]; exact hne') ⟨p'.trans q1, by rw [show ps.length / 2 - (i + 1) = ps.length / 2 - 1 - i by lia]; exact hp'⟩
  · intro a h tk ⟨q1, q2⟩ F' N'
    clear hF2 hN2 hF hN hkeep hr
    dsimp only
    k_steps
    rw [Nat.sub_self] at q2
    exact BodyEnd.mk F' N' _ (fun _ h => h) ⟨a.ps, rfl, q1, q2, rfl⟩

theorem keys_of_ints {vs : List Value} {ns : List Int} (h : IntsAre vs ns) : ∃ ps : List (Value × Int), fstL ps = vs ∧ sndL ps = ns ∧ ∀ g, ∀ q ∈ ps, KeyAt g false q.1 q.2 := by
  induction h with
  | nil => exact ⟨[], rfl, rfl, fun _ _ h => nomatch h⟩
  | cons n t _ ih =>
    obtain ⟨ps, e1, e2, hk⟩ := ih
    refine ⟨(.int n t, n) :: ps, by simp [fstL, ← e1], by simp [sndL, ← e2], fun g q hq => ?_⟩
    rcases List.mem_cons.mp hq with rfl | hq
    · exact .int n t
    · exact hk g q hq
theorem ints_of_keys {g : Heap} : ∀ {ps : List (Value × Int)}, (∀ q ∈ ps, KeyAt g false q.1 q.2) → IntsAre (fstL ps) (sndL ps)
  | [], _ => .nil
  | (v, k) :: r, h => by
    have h1 : KeyAt g false v k := h (v, k) List.mem_cons_self
    cases h1 with
    | int k t => exact .cons k t (ints_of_keys fun q hq => h q (List.mem_cons_of_mem _ hq))
structure OfSt where
  qs : List (Value × Int)
  rs : List (Value × Int)
  nq : Nat
  nr : Nat
set_option maxHeartbeats 8000000 in
theorem off_ {w : World} {p : Program} {loose : List Str} {mean : ExcName → Option Value} {mg mb : Str → Option Value} {D : Addr} {vs : List Value} {ns : List Int} {n : Nat}
   (hi : IntsAre vs ns) (hl : ns.length < 900) :
   Fn w p loose mean mg mb 4 32 115 [.ref D] [(D, listOf vs.toArray n)] (fun h₀ rest => True)
     (fun r news' => ∃ l vs' ns' n', r = .ref l ∧ news' = [(l, listOf vs'.toArray n')] ∧ IntsAre vs' ns' ∧ Srt ns' ∧ ns'.Perm ns) := by
  unfold Fn
  k_fill
  intro dp un gd cn cns cg cc cm a ccd cl outer A₀ base h₀ L m s news rest Q E B F X N T hd hu hown hrest hap hpre ret
  tb_turn [(Str.ofString "queue", Value.ref D)]
  clear ret N F B X T
  intro g L' h₁ tk F' N' B' X' T' st hr
  clear hr st hpre
  dsimp only [bmap, List.reverse, List.reverseAux] at F' ⊢
  obtain ⟨ps, e1, e2, hK⟩ := keys_of_ints hi
  subst e1 e2
  have e3 : (sndL ps).length = ps.length := List.length_map ..
  have e4 : (fstL ps).length = ps.length := List.length_map ..
  rw [e3] at hl
  try k_unmd
  k_fold
  k_steps
  refine Hold.of ?_
  refine (heapify_ (bb := false) (ps := ps) hl).turns (Rem.head (by intro _ h; cases h)) B' F' X' N' T' ?d ?u ?pre ?_
  case pre => exact fun g' _ _ => hK g'
  case d => dsimp only [ktrTop]; lia
  case u => dsimp only [ktrTop]; lia
  intro v news' h' tk' F3 N3 _ hR
  obtain ⟨qs, e1', p', hp', e2'⟩ := hR
  subst e1' e2'
  simp only [List.append_nil] at N3
  clear F' N'
  k_steps
  rename_i l' _ l1 h5 F1 N1
  refine Hold.of ?_
  try k_unmd
  k_fold
  refine while_st (α := OfSt) (fun a y => if y = Str.ofString "row" then some (.ref l') else if y = Str.ofString "queue" then some (.ref D) else none) (fun a => [(l', listOf (fstL a.rs).toArray a.nr), (D, listOf (fstL a.qs).toArray a.nq)])
    (fun a => Hp 0 (sndL a.qs) ∧ (a.rs ++ a.qs).Perm ps ∧ Srt (sndL a.rs) ∧ ∀ r ∈ a.rs, ∀ q ∈ a.qs, r.2 ≤ q.2) (fun a => a.qs.length) PassesOwn.never ?turn ⟨qs, [], _, _⟩ F1 N1 (by k_same2) (fun _ h => h) ⟨hp', p', .nil, fun _ h => nomatch h⟩
  intro ⟨bq, br, nq, nr⟩ h tk ⟨q1, q2, q3, q4⟩ F' N'
  dsimp only at q1 q2 q3 q4 F' N' ⊢
  clear F1 N1
  have hlen := q2.length_eq
  rw [List.length_append] at hlen
  have e5 : (fstL bq).length = bq.length := List.length_map ..
  have e6 : (fstL br).length = br.length := List.length_map ..
  rcases List.eq_nil_or_concat bq with hq | ⟨qs', lst, hq⟩
  · subst hq
    k_steps
    · rename decide _ = true => q
      exact absurd (of_decide_eq_true q) (by simp)
    · refine BodyEnd.mk F' N' [(l', listOf (fstL br).toArray nr)] (by k_sub) ⟨_, _, _, _, rfl, rfl, ints_of_keys (g := g) fun q hq => ?_, q3, ?_⟩
      · exact hK g q (q2.mem_iff.mp (List.mem_append_left _ hq))
      · rw [List.append_nil] at q2
        exact q2.map _
  · rw [List.concat_eq_append] at hq
    subst hq
    rw [List.length_append, List.length_singleton] at e5 hlen
    have e7 : (fstL (qs' ++ [lst])).length < 1000 := by lia
    k_steps
    · refine Hold.of ?_
      refine (heappop_ (bb := false) (qs := qs') (lst := lst) (by lia) q1).turns (Rem.tail (by k_ne) (Rem.head (by intro _ h; cases h))) B' F' X' N' T' ?d ?u ?pre ?_
      case pre => exact fun g' _ _ q hq => hK g' q (q2.mem_iff.mp (List.mem_append_right _ hq))
      case d => dsimp only [ktrTop]; lia
      case u => dsimp only [ktrTop]; lia
      intro v news' h' tk' F3 N3 ap hR
      obtain ⟨x, ps', n', e1', px, hp2, hmin, e2'⟩ := hR
      subst e1' e2'
      simp only [List.cons_append, List.nil_append] at N3
      clear F' N'
      k_steps
      rename News _ _ _ _ => N2
      rename Fr _ _ _ _ => F2
      have ep : (fstL br).toArray.push x.1 = (fstL (br ++ [x])).toArray := by simp [fstL]
      rw [ep] at N2
      have hx : x ∈ qs' ++ [lst] := px.mem_iff.mp List.mem_cons_self
      have hps : ∀ q ∈ ps', q ∈ qs' ++ [lst] := fun q hq => px.mem_iff.mp (List.mem_cons_of_mem _ hq)
      refine WhEnd.next ⟨ps', br ++ [x], n', nr + 1⟩ F2 N2 (by k_same2) (by k_sub) ⟨hp2, ?_, ?_, ?_⟩ ?_
      · rw [List.append_assoc]
        exact (px.append_left br).trans q2
      · show Srt (sndL (br ++ [x]))
        unfold sndL Srt
        rw [List.map_append, List.pairwise_append]
        refine ⟨q3, by simp, fun a' ha b' hb => ?_⟩
        obtain ⟨r, hr, rfl⟩ := List.mem_map.mp ha
        simp only [List.map_cons, List.map_nil, List.mem_singleton] at hb
        subst hb
        exact q4 r hr x hx
      · intro r hr q hq
        rcases List.mem_append.mp hr with hr | hr
        · exact q4 r hr q (hps q hq)
        · rw [List.mem_singleton.mp hr]; exact hmin q hq
      · have := px.length_eq
        show ps'.length < (qs' ++ [lst]).length
        rw [List.length_cons] at this
        lia
    · rename decide _ = false => q
      exact absurd (of_decide_eq_false q) (by lia)
local macro_rules | `(tactic| walk_at "call ref cons nil") => `(tactic| ((with_reducible show wpAny _ _ (call (Value.ref 115) _) _ _ _); o_head ((off_ ?ki ?kl).turns ?kr); (case kr => k_upd); (case ki => assumption); (case kl => first | assumption | omega); rintro _ _ _ _ _ _ ap' ⟨l', vs', ns', m', e1', e2', i', s', p'⟩; subst e1' e2'; k_data))

noncomputable def way (p q : Int) : Int := min ((p - q) % 64) ((q - p) % 64)
set_option maxHeartbeats 8000000 in
theorem way_ {w : World} {p : Program} {loose : List Str} {mean : ExcName → Option Value} {mg mb : Str → Option Value} {x y : Int} {tx ty : Tok} :
   Fn w p loose mean mg mb 1 8 93 [.int x tx, .int y ty] [] (fun h₀ rest => True) (fun r news' => news' = [] ∧ ∃ t, r = .int (way x y) t) := by
  unfold Fn
  k_fill
  intro dp un gd cn cns cg cc cm a ccd cl outer A₀ base h₀ L m s news rest Q E B F X N T hd hu hown hrest hap hpre ret
  tb_turn [(Str.ofString "p", Value.int x tx), (Str.ofString "q", Value.int y ty)]
  clear ret N F B X T
  intro g L' h₁ tk F' N' B' X' T' st hr
  clear hr st hpre
  dsimp only [bmap, List.reverse, List.reverseAux] at F' ⊢
  try k_unmd
  k_fold
  k_steps
  have e : (if (y - x).fmod 64 < (x - y).fmod 64 then (y - x).fmod 64 else (x - y).fmod 64) = way x y := by
    rw [Int.fmod_eq_emod_of_nonneg _ (by decide), Int.fmod_eq_emod_of_nonneg _ (by decide)]
    unfold way
    split <;> lia
  rw [e]
  exact BodyEnd.mk (by assumption) (by assumption) [] (fun _ h => nomatch h) ⟨rfl, _, rfl⟩
local macro_rules | `(tactic| walk_at "call ref cons nil") => `(tactic| ((with_reducible show wpAny _ _ (call (Value.ref 93) _) _ _ _); o_head way_.reads; rintro _ _ _ _ _ _ ap' ⟨e1', t', e2'⟩; subst e1' e2'; clear ap'; k_data))

noncomputable def turnL (ns ms : List Int) (k : Int) : List Int := (List.range ns.length).map fun i => way (ns.getD i 0) (ms.getD (((i : Int) + k) % (ms.length : Int)).toNat 0)
theorem way_bounds (p q : Int) : 0 ≤ way p q ∧ way p q ≤ 32 := by unfold way; omega
theorem turnL_bounds {ns ms : List Int} {k x : Int} (h : x ∈ turnL ns ms k) : 0 ≤ x ∧ x ≤ 32 := by
  obtain ⟨i, _, rfl⟩ := List.mem_map.mp h
  exact way_bounds _ _
theorem turnL_length (ns ms : List Int) (k : Int) : (turnL ns ms k).length = ns.length := by simp [turnL]
theorem turnL_eq (ns ms : List Int) (k : Int) : turnL ns ms k = List.map (fun k' => way (ns.getD k'.toNat 0) (ms.getD ((k' + k).fmod (ms.length : Int)).toNat 0)) (rangeKs 0 ((ns.length : Int) - 0).toNat) := by
  have e : ((ns.length : Int) - 0).toNat = ns.length := by lia
  rw [e]
  unfold turnL rangeKs
  rw [List.map_map]
  refine List.map_congr_left fun i _ => ?_
  simp only [Function.comp, Int.zero_add, Int.toNat_natCast]
  rw [Int.fmod_eq_emod_of_nonneg _ (by lia)]
set_option maxHeartbeats 8000000 in
theorem turn_ {w : World} {p : Program} {loose : List Str} {mean : ExcName → Option Value} {mg mb : Str → Option Value} {O T₂ : Addr} {vs us : List Value} {ns ms : List Int} {k : Int} {tk₀ : Tok}
   (hi : IntsAre vs ns) (hj : IntsAre us ms) (hl : ns.length < 900) (hl2 : ms.length < 900) (hm : 0 < ms.length) :
   Fn w p loose mean mg mb 2 16 98 [.ref O, .ref T₂, .int k tk₀] [] (fun h₀ rest => LCg.SrcAt h₀ O vs.toArray rest ∧ LCg.SrcAt h₀ T₂ us.toArray rest)
     (fun r news' => ∃ l ws, r = .ref l ∧ news' = [(l, LCg.lst ws)] ∧ IntsAre ws (turnL ns ms k)) := by
  unfold Fn
  k_fill
  intro dp un gd cn cns cg cc cm a ccd cl outer A₀ base h₀ L m s news rest Q E B F X N T hd hu hown hrest hap hpre ret
  tb_from [(Str.ofString "ones", Value.ref O), (Str.ofString "others", Value.ref T₂), (Str.ofString "k", Value.int k tk₀)]
  clear ret N F B X T
  intro g L' h₁ tk cells F' N' Y' B' X' T' st hr hlt
  have hO := srcAt_g hpre.1 st hr
  have hT := srcAt_g hpre.2 st hr
  clear hr st hpre
  k_cells Y'
  rename_i o₁ o₂ o₃ d₁ d₂ d₃
  have d₁ : o₁.data = .cell (some (.int k tk₀)) := d₁
  have d₂ : o₂.data = .cell (some (.ref T₂)) := d₂
  have d₃ : o₃.data = .cell (some (.ref O)) := d₃
  have F' : Fr g L' h₁ (fun _ => none) := F'
  simp only [List.cons_append, List.nil_append] at N'
  try dsimp only
  try k_unmd
  k_fold
  k_steps
  rename_i hI _ _ _ _ _ _ _
  refine BodyEnd.mk (by assumption) (by assumption) [(_, LCg.lst _)] (by k_sub) ⟨_, _, rfl, rfl, ?_⟩
  rw [turnL_eq]
  exact hI
local macro_rules | `(tactic| walk_at "call ref cons nil") => `(tactic| ((with_reducible show wpAny _ _ (call (Value.ref 98) _) _ _ _); o_head (turn_ ?ki ?kj ?kl ?km ?kn).reads; (case ki => assumption); (case kj => assumption); (case kl => first | assumption | omega); (case km => first | assumption | omega); (case kn => first | assumption | omega); rintro _ _ _ _ _ _ ap' ⟨l', ws', e1', e2', i'⟩; subst e1' e2'; k_data))

-- list comprehensions over any source: elements that are ints; elements that are told over a growing ledger
inductive ItemsR {ε : Type} (R : Value → ε → Prop) : List Value → List ε → Prop
  | nil : ItemsR R [] []
  | cons {v e vs es} : R v e → ItemsR R vs es → ItemsR R (v :: vs) (e :: es)
theorem ItemsR.length {ε : Type} {R : Value → ε → Prop} {vs : List Value} {es : List ε} (h : ItemsR R vs es) : vs.length = es.length := by
  induction h with
  | nil => rfl
  | cons _ _ ih => simp [ih]
theorem ItemsR.mono {ε : Type} {R R' : Value → ε → Prop} {vs : List Value} {es : List ε} (h : ItemsR R vs es) (hm : ∀ v e, R v e → R' v e) : ItemsR R' vs es := by
  induction h with
  | nil => exact .nil
  | cons h _ ih => exact .cons (hm _ _ h) ih
theorem ItemsR.snoc {ε : Type} {R : Value → ε → Prop} {vs : List Value} {es : List ε} {v : Value} {e : ε} (h : ItemsR R vs es) (hv : R v e) : ItemsR R (vs ++ [v]) (es ++ [e]) := by
  induction h with
  | nil => exact .cons hv .nil
  | cons h _ ih => exact .cons h ih
theorem ItemsR.at {ε : Type} {R : Value → ε → Prop} {vs : List Value} {es : List ε} (h : ItemsR R vs es) {i : Nat} {v : Value} (hv : vs[i]? = some v) : ∃ e, es[i]? = some e ∧ R v e := by
  induction h generalizing i with
  | nil => simp at hv
  | cons h _ ih =>
    cases i with
    | zero => simp at hv; subst hv; exact ⟨_, by simp, h⟩
    | succ i => simp at hv; obtain ⟨e, he, hr⟩ := ih hv; exact ⟨e, by simpa using he, hr⟩
theorem itemsR_ints {vs : List Value} {ns : List Int} (h : ItemsR (fun v (n : Int) => ∃ t, v = .int n t) vs ns) : IntsAre vs ns := by
  induction h with
  | nil => exact .nil
  | cons h _ ih => obtain ⟨t, rfl⟩ := h; exact .cons _ t ih
theorem ints_itemsR {vs : List Value} {ns : List Int} (h : IntsAre vs ns) : ItemsR (fun v (n : Int) => ∃ t, v = .int n t) vs ns := by
  induction h with
  | nil => exact .nil
  | cons n t _ ih => exact .cons ⟨t, rfl⟩ ih
section
variable {prog : Program} {w : World} {A : Around} {h₀ : Heap} {L : Addr} {m : Str → Option Value} {env : Env} {elt : PySem.Expr} {x : Str} {scope : Scope} {cl : List (Str × Addr)} {s : Shared} {S : List (Addr × Obj) → Prop} {P : Nat → Value → Prop} {Fin : List Value → List (Addr × Obj) → Prop} {news : List (Addr × Obj)}
noncomputable def ElI (news : List (Addr × Obj)) (r : Int) (y : Value) (news' : List (Addr × Obj)) : Prop := news' = news ∧ ∃ t : Tok, y = .int r t
theorem comp_ints {n : Nat} (g : Nat → Int)
    (turn : ∀ i v I oI C oC D m₂ ys h tk (E' : Value → Shared → Prop), i < n → P i v → LCg.NsObj oC m₂ → m₂ x = some v → Fr h₀ L h m → News h₀ L h ((I, oI) :: (C, oC) :: (D, LCg.lst ys) :: news) → LCg.Off3 I C D news → ((@Ne Nat I C) ∧ (@Ne Nat I D) ∧ (@Ne Nat C D)) →
      wpAny (model prog w) A (eval elt (compEnvC scope cl C env)) (LCg.CompEnd h₀ L m { s with heap := h, toks := tk } I oI C oC D (LCg.lst ys) S (fun y news' => ElI news (g i) y news')) E' { s with heap := h, toks := tk })
    (fin : ∀ ys, IntsAre ys ((List.range n).map g) → Fin ys news) : LCg.CompRest prog w A h₀ L m env elt x scope cl s S P Fin n 0 [] news := by
  have key : ∀ (j i : Nat) (ys : List Value), i + j = n → IntsAre ys ((List.range i).map g) → LCg.CompRest prog w A h₀ L m env elt x scope cl s S P Fin j i ys news := by
    intro j
    induction j with
    | zero =>
      intro i ys hi hy
      have e : i = n := by lia
      subst e
      exact LCg.CompRest.zero (fin ys hy)
    | succ j ih =>
      intro i ys hi hy
      refine LCg.CompRest.succ ?_
      intro v I oI C oC D m₂ h tk E' hv hC hx F N off ne
      refine wpAny_mono (turn i v I oI C oC D m₂ ys h tk E' (by lia) hv hC hx F N off ne) (fun y s₂ hq => ?_) fun _ _ e => e
      obtain ⟨h', tk', nw, e, F', N', off', hS, hn, t, hy'⟩ := hq
      rw [hn] at N' off' hS
      refine ⟨h', tk', news, e, F', N', off', hS, ?_⟩
      rw [hy']
      refine ih (i + 1) _ (by lia) ?_
      rw [List.range_succ, List.map_append]
      exact IntsAre.append hy (.cons (g i) t .nil)
  exact key n 0 [] (by lia) .nil
theorem range_map_getD (f : Int → Int) (ws : List Int) : (List.range ws.length).map (fun i => f (ws.getD i 0)) = ws.map f := by
  apply List.ext_getElem
  · simp
  · intro i h1 h2
    simp at h1 h2
    simp [List.getD_eq_getElem?_getD, h2]
theorem comp_list {vs : List Value} {ns : List Int} (g : Int → Int) (hi : IntsAre vs ns)
    (turn : ∀ k t I oI C oC D m₂ ys h tk (E' : Value → Shared → Prop), k ∈ ns → LCg.NsObj oC m₂ → m₂ x = some (.int k t) → Fr h₀ L h m → News h₀ L h ((I, oI) :: (C, oC) :: (D, LCg.lst ys) :: news) → LCg.Off3 I C D news → ((@Ne Nat I C) ∧ (@Ne Nat I D) ∧ (@Ne Nat C D)) →
      wpAny (model prog w) A (eval elt (compEnvC scope cl C env)) (LCg.CompEnd h₀ L m { s with heap := h, toks := tk } I oI C oC D (LCg.lst ys) S (fun y news' => ElI news (g k) y news')) E' { s with heap := h, toks := tk })
    (fin : ∀ ys, IntsAre ys (ns.map g) → Fin ys news) : LCg.CompRest prog w A h₀ L m env elt x scope cl s S (fun i v => vs.toArray[i]? = some v) Fin vs.toArray.size 0 [] news := by
  have hl := hi.length
  rw [List.size_toArray, hl]
  refine comp_ints (fun i => g (ns.getD i 0)) (fun i v I oI C oC D m₂ ys h tk E' hin hv hC hx F N off ne => ?_) fun ys hy => fin ys ?_
  · obtain ⟨k, t, rfl, hk⟩ := hi.at i v (by simpa using hv)
    have e : ns.getD i 0 = k := by rw [List.getD_eq_getElem?_getD, hk]; rfl
    rw [e]
    exact turn k t I oI C oC D m₂ ys h tk E' (List.mem_of_getElem? hk) hC hx F N off ne
  · rwa [range_map_getD] at hy
noncomputable def ElR {ε : Type} (R : List (Addr × Obj) → Value → ε → Prop) (news tl : List (Addr × Obj)) (r : ε) (y : Value) (news' : List (Addr × Obj)) : Prop := ∃ tl', news' = news ++ tl' ∧ (∀ p ∈ tl, p ∈ tl') ∧ R news' y r
theorem comp_items {ε : Type} {n : Nat} (R : List (Addr × Obj) → Value → ε → Prop) (mono : ∀ a b v e, (∀ p ∈ a, p ∈ b) → R a v e → R b v e) (g : Nat → ε)
    (turn : ∀ i v tl I oI C oC D m₂ ys h tk (E' : Value → Shared → Prop), i < n → P i v → LCg.NsObj oC m₂ → m₂ x = some v → Fr h₀ L h m → News h₀ L h ((I, oI) :: (C, oC) :: (D, LCg.lst ys) :: (news ++ tl)) → LCg.Off3 I C D (news ++ tl) → ((@Ne Nat I C) ∧ (@Ne Nat I D) ∧ (@Ne Nat C D)) →
      wpAny (model prog w) A (eval elt (compEnvC scope cl C env)) (LCg.CompEnd h₀ L m { s with heap := h, toks := tk } I oI C oC D (LCg.lst ys) S (fun y news' => ElR R news tl (g i) y news')) E' { s with heap := h, toks := tk })
    (fin : ∀ ys tl, ItemsR (R (news ++ tl)) ys ((List.range n).map g) → Fin ys (news ++ tl)) : LCg.CompRest prog w A h₀ L m env elt x scope cl s S P Fin n 0 [] news := by
  have key : ∀ (j i : Nat) (ys : List Value) (tl : List (Addr × Obj)), i + j = n → ItemsR (R (news ++ tl)) ys ((List.range i).map g) → LCg.CompRest prog w A h₀ L m env elt x scope cl s S P Fin j i ys (news ++ tl) := by
    intro j
    induction j with
    | zero =>
      intro i ys tl hi hy
      have e : i = n := by lia
      subst e
      exact LCg.CompRest.zero (fin ys tl hy)
    | succ j ih =>
      intro i ys tl hi hy
      refine LCg.CompRest.succ ?_
      intro v I oI C oC D m₂ h tk E' hv hC hx F N off ne
      refine wpAny_mono (turn i v tl I oI C oC D m₂ ys h tk E' (by lia) hv hC hx F N off ne) (fun y s₂ hq => ?_) fun _ _ e => e
      obtain ⟨h', tk', nw, e, F', N', off', hS, tl', hn, hsub, hr⟩ := hq
      rw [hn] at N' off' hS hr
      refine ⟨h', tk', news ++ tl', e, F', N', off', hS, ?_⟩
      refine ih (i + 1) _ tl' (by lia) ?_
      rw [List.range_succ, List.map_append]
      refine ItemsR.snoc (hy.mono fun v e hv => mono _ _ v e (fun p hp => ?_) hv) hr
      rcases List.mem_append.mp hp with hp | hp
      · exact List.mem_append_left _ hp
      · exact List.mem_append_right _ (hsub p hp)
  have := key n 0 [] [] (by lia) .nil
  rwa [List.append_nil] at this
end
section
variable {h₀ : Heap} {L I C D : Addr} {m : Str → Option Value} {s₁ : Shared} {oI oC oD : Obj} {S : List (Addr × Obj) → Prop} {h' : Heap} {tk : Nat} {all news tl : List (Addr × Obj)}
theorem comp_endI {r r' : Int} {t : Tok} (F : Fr h₀ L h' m) (N : News h₀ L h' all) (sub : ∀ p ∈ (I, oI) :: (C, oC) :: (D, oD) :: news, p ∈ all) (off : LCg.Off3 I C D news) (hS : S news) (e : r' = r) :
    LCg.CompEnd h₀ L m s₁ I oI C oC D oD S (fun y news' => ElI news r y news') (.int r' t) { s₁ with heap := h', toks := tk } :=
  LCg.CompEnd.intro F N news sub off hS ⟨rfl, t, by rw [e]⟩
theorem comp_endR {ε : Type} {R : List (Addr × Obj) → Value → ε → Prop} {r : ε} {y : Value} (new : List (Addr × Obj)) (F : Fr h₀ L h' m) (N : News h₀ L h' all) (sub : ∀ p ∈ (I, oI) :: (C, oC) :: (D, oD) :: (new ++ (news ++ tl)), p ∈ all)
    (off : LCg.Off3 I C D (news ++ tl)) (offn : LCg.Off3 I C D new) (hS : ∀ tl, S (news ++ tl)) (hr : R (news ++ (tl ++ new)) y r) :
    LCg.CompEnd h₀ L m s₁ I oI C oC D oD S (fun y news' => ElR R news tl r y news') y { s₁ with heap := h', toks := tk } := by
  refine LCg.CompEnd.intro F N (news ++ (tl ++ new)) (fun p hp => sub p ?_) ?_ (hS _) ⟨tl ++ new, rfl, fun p hp => List.mem_append_left _ hp, hr⟩
  · simp only [List.mem_cons, List.mem_append] at hp ⊢
    rcases hp with h | h | h | h | h | h <;> simp [h]
  · rw [← List.append_assoc]
    exact LCg.Off3.of fun p hp => (List.mem_append.mp hp).elim (fun h => off.mem p h) fun h => offn.mem p h
end
theorem off_new {l I C D : Addr} {o oI oC oD : Obj} {r : List (Addr × Obj)} (ap : ∀ q ∈ [(l, o)], ∀ q' ∈ (I, oI) :: (C, oC) :: (D, oD) :: r, @Ne Nat q.1 q'.1) : LCg.Off3 I C D [(l, o)] :=
  ⟨⟨ap _ List.mem_cons_self _ List.mem_cons_self, ap _ List.mem_cons_self _ (List.mem_cons_of_mem _ List.mem_cons_self), ap _ List.mem_cons_self _ (List.mem_cons_of_mem _ (List.mem_cons_of_mem _ List.mem_cons_self))⟩, trivial⟩
theorem off3_app {I C D : Addr} : ∀ {a b : List (Addr × Obj)}, LCg.Off3 I C D a → LCg.Off3 I C D b → LCg.Off3 I C D (a ++ b)
  | [], _, _, hb => hb
  | _ :: _, _, ha, hb => ⟨ha.1, off3_app ha.2 hb⟩
theorem comp_kept {vs : List Value} {ns : List Int} {prog : Program} {w : World} {A : Around} {h₀ : Heap} {L : Addr} {m : Str → Option Value} {env : Env} {ct elt : PySem.Expr} {x : Str} {scope : Scope} {cl : List (Str × Addr)} {s : Shared} {S : List (Addr × Obj) → Prop} {P : Nat → Value → Prop} {Fin : List Value → List (Addr × Obj) → Prop} {news : List (Addr × Obj)}
    {n : Nat} (keep : Nat → Bool) (g : Nat → Int)
    (turn : ∀ i v I oI C oC D m₂ ys h tk (E' : Value → Shared → Prop), i < n → P i v → LCg.NsObj oC m₂ → m₂ x = some v → Fr h₀ L h m → News h₀ L h ((I, oI) :: (C, oC) :: (D, LCg.lst ys) :: news) → LCg.Off3 I C D news → ((@Ne Nat I C) ∧ (@Ne Nat I D) ∧ (@Ne Nat C D)) →
      wpAny (model prog w) A (isTrue ct (compEnvC scope cl C env) (eval ct (compEnvC scope cl C env))) (fun ok s' => if ok = true then
        wpAny (model prog w) A (eval elt (compEnvC scope cl C env)) (LCg.CompEnd h₀ L m { s with heap := h, toks := tk } I oI C oC D (LCg.lst ys) S (fun y news' => keep i = true ∧ ElI news (g i) y news')) E' s'
        else LCg.CompEnd h₀ L m { s with heap := h, toks := tk } I oI C oC D (LCg.lst ys) S (fun _ news' => keep i = false ∧ news' = news) Value.none s') E' { s with heap := h, toks := tk })
    (fin : ∀ ys, IntsAre ys (((List.range n).filter keep).map g) → Fin ys news) : LCt.CompRestT prog w A h₀ L m env ct elt x scope cl s S P Fin n 0 [] news := by
  have key : ∀ (j i : Nat) (ys : List Value), i + j = n → IntsAre ys (((List.range i).filter keep).map g) → LCt.CompRestT prog w A h₀ L m env ct elt x scope cl s S P Fin j i ys news := by
    intro j
    induction j with
    | zero =>
      intro i ys hi hy
      have e : i = n := by lia
      subst e
      exact LCt.CompRestT.zero (fin ys hy)
    | succ j ih =>
      intro i ys hi hy
      refine LCt.CompRestT.succ ?_
      intro v I oI C oC D m₂ h tk E' hv hC hx F N off ne
      refine wpAny_mono (turn i v I oI C oC D m₂ ys h tk E' (by lia) hv hC hx F N off ne) (fun ok s₂ hq => ?_) fun _ _ e => e
      cases ok with
      | true =>
        simp only [if_true] at hq ⊢
        refine wpAny_mono hq (fun y s₃ hq => ?_) fun _ _ e => e
        obtain ⟨h', tk', nw, e, F', N', off', hS, hk, hn, t, hy'⟩ := hq
        rw [hn] at N' off' hS
        refine ⟨h', tk', news, e, F', N', off', hS, ?_⟩
        rw [hy']
        refine ih (i + 1) _ (by lia) ?_
        rw [List.range_succ, List.filter_append, List.map_append]
        simp only [List.filter_cons, hk, if_true, List.filter_nil]
        exact IntsAre.append hy (.cons (g i) t .nil)
      | false =>
        simp only [Bool.false_eq_true, if_false] at hq ⊢
        obtain ⟨h', tk', nw, e, F', N', off', hS, hk, hn⟩ := hq
        rw [hn] at N' off' hS
        refine ⟨h', tk', news, e, F', N', off', hS, ?_⟩
        refine ih (i + 1) _ (by lia) ?_
        rw [List.range_succ, List.filter_append, List.map_append]
        simp only [List.filter_cons, hk, List.filter_nil, Bool.false_eq_true, if_false, List.map_nil, List.append_nil]
        exact hy
  exact key n 0 [] (by lia) .nil
theorem comp_endK {h₀ : Heap} {L I C D : Addr} {m : Str → Option Value} {s₁ : Shared} {oI oC oD : Obj} {S : List (Addr × Obj) → Prop} {h' : Heap} {tk : Nat} {all news : List (Addr × Obj)} {k : Bool} {r r' : Int} {t : Tok} (F : Fr h₀ L h' m) (N : News h₀ L h' all) (sub : ∀ p ∈ (I, oI) :: (C, oC) :: (D, oD) :: news, p ∈ all) (off : LCg.Off3 I C D news) (hS : S news) (hk : k = true) (e : r' = r) :
    LCg.CompEnd h₀ L m s₁ I oI C oC D oD S (fun y news' => k = true ∧ ElI news r y news') (.int r' t) { s₁ with heap := h', toks := tk } :=
  LCg.CompEnd.intro F N news sub off hS ⟨hk, rfl, t, by rw [e]⟩
theorem comp_endN {h₀ : Heap} {L I C D : Addr} {m : Str → Option Value} {s₁ : Shared} {oI oC oD : Obj} {S : List (Addr × Obj) → Prop} {h' : Heap} {tk : Nat} {all news : List (Addr × Obj)} {k : Bool} (F : Fr h₀ L h' m) (N : News h₀ L h' all) (sub : ∀ p ∈ (I, oI) :: (C, oC) :: (D, oD) :: news, p ∈ all) (off : LCg.Off3 I C D news) (hS : S news) (hk : k = false) :
    LCg.CompEnd h₀ L m s₁ I oI C oC D oD S (fun _ news' => k = false ∧ news' = news) Value.none { s₁ with heap := h', toks := tk } :=
  LCg.CompEnd.intro F N news sub off hS ⟨hk, rfl⟩
local macro_rules | `(tactic| walk_at "eval ListComp") => `(tactic| (k_here; k_dflt (first
  | refine LCg.ListComp_U (F₀ := by k_asm) (by with_unfolding_all rfl) (by decide) (by rfl) (by decide) (by rfl) ?_
  | refine LCt.ListComp_T (F₀ := by k_asm) (by with_unfolding_all rfl) (by decide) (by rfl) (by decide) (by rfl) ?_)))
local macro_rules | `(tactic| walk_at "exec Assign cons ListComp") => `(tactic| (k_here; k_dflt (first
  | refine LCg.Assign_ListComp_U (F₀ := by k_asm) (by rfl) (by with_unfolding_all rfl) (by with_unfolding_all rfl) (by decide) (by rfl) (by decide) (by rfl) (by rfl) (by rfl) ?_
  | refine LCt.Assign_ListComp_T (F₀ := by k_asm) (by rfl) (by with_unfolding_all rfl) (by with_unfolding_all rfl) (by decide) (by rfl) (by decide) (by rfl) (by rfl) (by rfl) ?_)))
local macro_rules | `(tactic| walk_at "CompSrc") => `(tactic| (refine Hold.mk ?_))
local macro_rules | `(tactic| walk_at "CompSrcT") => `(tactic| (refine Hold.mk ?_))
local macro_rules | `(tactic| walk_at "CompEnd") => `(tactic| (refine Hold.mk ?_))

noncomputable def minL : List Int → Int
  | [] => 0
  | x :: r => r.foldl min x
noncomputable def maxL : List Int → Int
  | [] => 0
  | x :: r => r.foldl max x
theorem foldl_min_spec : ∀ (r : List Int) (x : Int), (r.foldl min x = x ∨ r.foldl min x ∈ r) ∧ r.foldl min x ≤ x ∧ ∀ a ∈ r, r.foldl min x ≤ a
  | [], x => ⟨.inl rfl, Int.le_refl _, fun _ h => nomatch h⟩
  | y :: r, x => by
    obtain ⟨h1, h2, h3⟩ := foldl_min_spec r (min x y)
    simp only [List.foldl_cons]
    refine ⟨?_, by lia, fun a ha => ?_⟩
    · rcases h1 with h1 | h1
      · rw [h1]
        rcases (show min x y = x ∨ min x y = y by lia) with e | e
        · exact .inl e
        · exact .inr (by rw [e]; exact List.mem_cons_self)
      · exact .inr (List.mem_cons_of_mem _ h1)
    · rcases List.mem_cons.mp ha with rfl | ha
      · lia
      · exact h3 a ha
theorem foldl_max_spec : ∀ (r : List Int) (x : Int), (r.foldl max x = x ∨ r.foldl max x ∈ r) ∧ x ≤ r.foldl max x ∧ ∀ a ∈ r, a ≤ r.foldl max x
  | [], x => ⟨.inl rfl, Int.le_refl _, fun _ h => nomatch h⟩
  | y :: r, x => by
    obtain ⟨h1, h2, h3⟩ := foldl_max_spec r (max x y)
    simp only [List.foldl_cons]
    refine ⟨?_, by lia, fun a ha => ?_⟩
    · rcases h1 with h1 | h1
      · rw [h1]
        rcases (show max x y = x ∨ max x y = y by lia) with e | e
        · exact .inl e
        · exact .inr (by rw [e]; exact List.mem_cons_self)
      · exact .inr (List.mem_cons_of_mem _ h1)
    · rcases List.mem_cons.mp ha with rfl | ha
      · lia
      · exact h3 a ha
theorem minL_mem {l : List Int} (h : 0 < l.length) : minL l ∈ l := by
  cases l with
  | nil => simp at h
  | cons x r =>
    rcases (foldl_min_spec r x).1 with e | e
    · show r.foldl min x ∈ _; rw [e]; exact List.mem_cons_self
    · exact List.mem_cons_of_mem _ e
theorem minL_le {l : List Int} {a : Int} (h : a ∈ l) : minL l ≤ a := by
  cases l with
  | nil => simp at h
  | cons x r =>
    rcases List.mem_cons.mp h with rfl | h
    · exact (foldl_min_spec r _).2.1
    · exact (foldl_min_spec r x).2.2 a h
theorem maxL_mem {l : List Int} (h : 0 < l.length) : maxL l ∈ l := by
  cases l with
  | nil => simp at h
  | cons x r =>
    rcases (foldl_max_spec r x).1 with e | e
    · show r.foldl max x ∈ _; rw [e]; exact List.mem_cons_self
    · exact List.mem_cons_of_mem _ e
theorem le_maxL {l : List Int} {a : Int} (h : a ∈ l) : a ≤ maxL l := by
  cases l with
  | nil => simp at h
  | cons x r =>
    rcases List.mem_cons.mp h with rfl | h
    · exact (foldl_max_spec r _).2.1
    · exact (foldl_max_spec r x).2.2 a h
theorem minL_eq {l : List Int} {m : Int} (h1 : m ∈ l) (h2 : ∀ a ∈ l, m ≤ a) : minL l = m :=
  Int.le_antisymm (minL_le h1) (h2 _ (minL_mem (by cases l with | nil => simp at h1 | cons => simp)))
theorem maxL_eq {l : List Int} {m : Int} (h1 : m ∈ l) (h2 : ∀ a ∈ l, a ≤ m) : maxL l = m :=
  Int.le_antisymm (h2 _ (maxL_mem (by cases l with | nil => simp at h1 | cons => simp))) (le_maxL h1)
section
variable {prog : Program} {w : World} {A : Around} {E : Value → Shared → Prop} {s : Shared} {h₀ : Heap} {L l : Addr} {m : Str → Option Value} {news : List (Addr × Obj)} {vs : List Value} {ns : List Int} {Q : Value → Shared → Prop}
theorem min_L (F : Fr h₀ L s.heap m) (N : News h₀ L s.heap news) (hl : s.heap.IsList l vs.toArray) (hi : IntsAre vs ns) (hne : 0 < ns.length) (hh : A.handled = none)
    (h : ∀ h' (t : Tok) tk, Fr h₀ L h' m → News h₀ L h' news → Q (.int (minL ns) t) { s with heap := h', toks := tk }) : wpAny (model prog w) A (call (.builtin "min") [.ref l]) Q E s :=
  min_list_N hh F N hl hi hne fun h' M t tk F' N' a b => by rw [← minL_eq a b]; exact h h' t tk F' N'
theorem max_L (F : Fr h₀ L s.heap m) (N : News h₀ L s.heap news) (hl : s.heap.IsList l vs.toArray) (hi : IntsAre vs ns) (hne : 0 < ns.length) (hh : A.handled = none)
    (h : ∀ h' (t : Tok) tk, Fr h₀ L h' m → News h₀ L h' news → Q (.int (maxL ns) t) { s with heap := h', toks := tk }) : wpAny (model prog w) A (call (.builtin "max") [.ref l]) Q E s :=
  max_list_N hh F N hl hi hne fun h' M t tk F' N' a b => by rw [← maxL_eq a b]; exact h h' t tk F' N'
end
local macro_rules | `(tactic| walk_at "call builtin:min") => `(tactic| (k_here; (with_reducible show wpAny _ _ (call (Value.builtin _) [Value.ref _]) _ _ _); (with_unfolding_all refine' min_L ?k1 ?k2 ?k3 ?k4 ?k5 ?k6 ?_; (case k1 => k_asm); (case k2 => k_asm); (case k3 => is_list); (case k4 => l_ints); (case k5 => first | assumption | ((simp only [List.length_map, List.length_range]); first | assumption | omega)); (case k6 => with_unfolding_all rfl); k_whole); intro h' t' k' F' N'; (try k_sweep)))
local macro_rules | `(tactic| walk_at "call builtin:max") => `(tactic| (k_here; (with_reducible show wpAny _ _ (call (Value.builtin _) [Value.ref _]) _ _ _); (with_unfolding_all refine' max_L ?k1 ?k2 ?k3 ?k4 ?k5 ?k6 ?_; (case k1 => k_asm); (case k2 => k_asm); (case k3 => is_list); (case k4 => l_ints); (case k5 => first | assumption | ((simp only [List.length_map, List.length_range]); first | assumption | omega)); (case k6 => with_unfolding_all rfl); k_whole); intro h' t' k' F' N'; (try k_sweep)))

noncomputable def RowR (led : List (Addr × Obj)) (v : Value) (ws : List Int) : Prop := ∃ l us, v = .ref l ∧ (l, LCg.lst us) ∈ led ∧ IntsAre us ws
theorem RowR.mono (a b : List (Addr × Obj)) (v : Value) (ws : List Int) (h : ∀ p ∈ a, p ∈ b) (x : RowR a v ws) : RowR b v ws := by
  obtain ⟨l, us, e, hm, hi⟩ := x
  exact ⟨l, us, e, h _ hm, hi⟩
abbrev tupO (xs : Array Value) : Obj := { cls := .type "tuple", data := .seq xs }
noncomputable def turnsS (ns ms : List Int) : Int := minL ((List.range ns.length).map fun (i : Nat) => (turnL ns ms (i : Int)).sum)
noncomputable def turnsQ (ns ms : List Int) : Int := minL ((List.range ns.length).map fun (i : Nat) => ((turnL ns ms (i : Int)).map fun x => x * x).sum)
noncomputable def turnsW (ns ms : List Int) : Int := minL ((List.range ns.length).map fun (i : Nat) => maxL (turnL ns ms (i : Int)))
set_option maxHeartbeats 8000000 in
theorem turns_ {w : World} {p : Program} {loose : List Str} {mean : ExcName → Option Value} {mg mb : Str → Option Value} {O T₂ : Addr} {vs us : List Value} {ns ms : List Int}
   (hi : IntsAre vs ns) (hj : IntsAre us ms) (hl : ns.length < 900) (hl2 : ms.length < 900) (hm : 0 < ms.length) (hn : 0 < ns.length) :
   Fn w p loose mean mg mb 3 24 103 [.ref O, .ref T₂] [] (fun h₀ rest => LCg.SrcAt h₀ O vs.toArray rest ∧ LCg.SrcAt h₀ T₂ us.toArray rest)
     (fun r news' => ∃ t t₁ t₂ t₃, r = .ref t ∧ news' = [(t, tupO #[.int (turnsS ns ms) t₁, .int (turnsQ ns ms) t₂, .int (turnsW ns ms) t₃])]) := by
  unfold Fn
  k_fill
  intro dp un gd cn cns cg cc cm a ccd cl outer A₀ base h₀ L m s news rest Q E B F X N T hd hu hown hrest hap hpre ret
  tb_from [(Str.ofString "ones", Value.ref O), (Str.ofString "others", Value.ref T₂)]
  clear ret N F B X T
  intro g L' h₁ tk cells F' N' Y' B' X' T' st hr hlt
  have hO := srcAt_g hpre.1 st hr
  have hT := srcAt_g hpre.2 st hr
  clear hr st hpre
  k_cells Y'
  rename_i o₁ o₂ d₁ d₂
  have d₁ : o₁.data = .cell (some (.ref T₂)) := d₁
  have d₂ : o₂.data = .cell (some (.ref O)) := d₂
  have F' : Fr g L' h₁ (fun _ => none) := F'
  simp only [List.cons_append, List.nil_append] at N'
  try dsimp only
  try k_unmd
  k_fold
  k_steps
  rename_i h2 tk2 t₁ u₁ v₁ hr hF hN hk
  refine Hold.of (LCg.CompSrc.range (n := ns.length) rfl hF hN hr (small_one (by lia) (by lia) (by lia) (by lia)) (by have := rangeSize_nat 0 (ns.length : Int); simpa using this) (by rw [sizeLine_eq]; lia) fun g' => ?_)
  refine comp_items RowR RowR.mono (fun i => turnL ns ms (i : Int)) ?_ ?_
  · intro i v tl I oI C oC D m₂ ys h tk E' hin ⟨t, ev⟩ hC hx F' N' off ne
    subst ev
    clear hr hF hN hk
    try k_unmd
    k_fold
    k_steps
    rename_i F2 l' ws' i' N2 ap'
    rw [Int.zero_add] at i'
    exact Hold.of (comp_endR [(l', LCg.lst ws')] F2 N2 (by kcf_all) off (off_new ap') (fun _ => trivial) ⟨l', ws', rfl, by kcf_m, i'⟩)
  · intro ys tl hy D h tk F N off
    clear hr hF hN hk
    rename News g L' h₁ _ => N9
    clear N9
    generalize [(L' + 1 + 1, o₁), (L' + 1, o₂)] ++ tl = led at hy N off
    have hyl : ys.length = ns.length := by rw [hy.length]; simp
    k_steps
    refine Hold.of (LCg.CompSrc.ledger (its := ys.toArray) rfl (by assumption) (by assumption) (by k_mem) (by rw [sizeLine_eq, List.size_toArray]; lia) fun g' => ?_)
    rw [List.size_toArray, hyl]
    refine comp_ints (fun i => (turnL ns ms (i : Int)).sum) ?_ ?_
    · intro i v I oI C oC D₂ m₂ ys₂ h tk E' hin hv hC hx F' N' off' ne
      obtain ⟨ws, he, l, us', ev, hml, hw⟩ := hy.at (i := i) (v := v) (by simpa using hv)
      subst ev
      have hws : ws = turnL ns ms (i : Int) := by simpa [hin] using he.symm
      have hL : h.IsList l us'.toArray := ⟨_, (N' (l, LCg.lst us') (by kcf_m)).1, rfl, _, rfl⟩
      try k_unmd
      k_fold
      k_steps
      rw [hws]
      exact Hold.of (comp_endI (by assumption) (by assumption) (fun _ h => h) off' (.inr ⟨_, by k_mem, rfl, _, rfl⟩) rfl)
    · intro ys₂ hi₂ D₂ h tk F N off'
      k_steps
      refine Hold.of (LCg.CompSrc.ledger (its := ys.toArray) rfl (by assumption) (by assumption) (by k_mem) (by rw [sizeLine_eq, List.size_toArray]; lia) fun g' => ?_)
      rw [List.size_toArray, hyl]
      refine comp_ints (fun i => ((turnL ns ms (i : Int)).map fun x => x * x).sum) ?_ ?_
      · intro i v I oI C oC D₃ m₃ ys₃ h tk E' hin hv hC hx F' N' off' ne
        obtain ⟨ws, he, l, us', ev, hml, hw⟩ := hy.at (i := i) (v := v) (by simpa using hv)
        subst ev
        have hws : ws = turnL ns ms (i : Int) := by simpa [hin] using he.symm
        have hwl : us'.length = ns.length := by rw [hw.length, hws, turnL_length]
        try k_unmd
        k_fold
        k_steps
        refine Hold.of (LCg.CompSrc.ledger (its := us'.toArray) (k := us'.length) rfl (by assumption) (by assumption) (by kcf_m) (by rw [sizeLine_eq, List.size_toArray]; lia) fun g' => ?_)
        refine comp_list (fun x => x * x) hw ?_ ?_
        · intro k t I' oI' C' oC' D₄ m₄ ys₄ h tk E' hk hC hx F' N' off'' ne'
          obtain ⟨hk1, hk2⟩ := turnL_bounds (hws ▸ hk)
          try k_unmd
          k_fold
          k_steps
          exact Hold.of (comp_endI (by assumption) (by assumption) (fun _ h => h) off'' (.inr ⟨_, by kcf_m, rfl, _, rfl⟩) rfl)
        · intro ys₄ hi₄ D₄ h tk F N off''
          k_steps
          exact Hold.of (comp_endI (by assumption) (by assumption) (fun _ h => List.mem_cons_of_mem _ h) off' (.inr ⟨_, by kcf_m, rfl, _, rfl⟩) (by rw [hws]))
      · intro ys₃ hi₃ D₃ h tk F N off''
        k_steps
        refine Hold.of (LCg.CompSrc.ledger (its := ys.toArray) rfl (by assumption) (by assumption) (by k_mem) (by rw [sizeLine_eq, List.size_toArray]; lia) fun g' => ?_)
        rw [List.size_toArray, hyl]
        refine comp_ints (fun i => maxL (turnL ns ms (i : Int))) ?_ ?_
        · intro i v I oI C oC D₄ m₂ ys₄ h tk E' hin hv hC hx F' N' off' ne
          obtain ⟨ws, he, l, us', ev, hml, hw⟩ := hy.at (i := i) (v := v) (by simpa using hv)
          subst ev
          have hws : ws = turnL ns ms (i : Int) := by simpa [hin] using he.symm
          have hL : h.IsList l us'.toArray := ⟨_, (N' (l, LCg.lst us') (by kcf_m)).1, rfl, _, rfl⟩
          have hpos : 0 < ws.length := by rw [hws, turnL_length]; exact hn
          try k_unmd
          k_fold
          k_steps
          rw [hws]
          exact Hold.of (comp_endI (by assumption) (by assumption) (fun _ h => h) off' (.inr ⟨_, by k_mem, rfl, _, rfl⟩) rfl)
        · intro ys₄ hi₄ D₄ h tk F N off''
          k_steps
          refine BodyEnd.mk (by assumption) (by assumption) [(_, tupO _)] (by k_sub) ⟨_, _, _, _, rfl, rfl⟩

theorem item_ints {prog : Program} {w : World} {A : Around} {E : Value → Shared → Prop} {s : Shared} {h₀ : Heap} {L D : Addr} {news : List (Addr × Obj)} {vs : List Value} {ns : List Int} {n : Nat} {k : Int} {u : Tok}
    {value slice : PySem.Expr} {Q : Value → Shared → Prop} (N : News h₀ L s.heap news) (hm : (D, listOf vs.toArray n) ∈ news) (hi : IntsAre vs ns) (h0 : 0 ≤ k) (h1 : k < ns.length) (hfit : ns.length < 1000) (h : ∀ t, Q (.int (ns.getD k.toNat 0) t) s)
    (hs : subscripted slice false (.ref D) (.int k u) = operate [.ref D, .int k u] (getItem (.ref D) (.int k u)) := by with_unfolding_all rfl) :
    wpAny (model prog w) A (subscriptTail value slice (.ref D) (.int k u)) Q E s := by
  have hl := hi.length
  refine item_any N hm h0 (by lia) (by lia) ?_ hs
  have hj : k.toNat < vs.length := by lia
  obtain ⟨x, t, e, hx⟩ := hi.at k.toNat vs[k.toNat] (by simp [hj])
  rw [List.getD_eq_getElem?_getD, List.getElem?_eq_getElem hj, Option.getD_some, e]
  have : ns.getD k.toNat 0 = x := by rw [List.getD_eq_getElem?_getD, hx]; rfl
  rw [← this]
  exact h t
noncomputable def PairR (led : List (Addr × Obj)) (v : Value) (e : Int × Int) : Prop := ∃ t ta tb, v = .ref t ∧ (t, tupO #[.int e.1 ta, .int e.2 tb]) ∈ led
theorem PairR.mono (a b : List (Addr × Obj)) (v : Value) (e : Int × Int) (h : ∀ p ∈ a, p ∈ b) (x : PairR a v e) : PairR b v e := by
  obtain ⟨t, ta, tb, e, hm⟩ := x
  exact ⟨t, ta, tb, e, h _ hm⟩
noncomputable def levelsL (ns ms mk : List Int) : List (Int × Int) := (List.range (mk.length - 1)).map fun (k : Nat) => ((cntLe ns (mk.getD k 0) : Int) - (cntLe ms (mk.getD k 0) : Int), mk.getD (k + 1) 0 - mk.getD k 0)
theorem levelsL_at {ns ms mk : List Int} {i : Nat} (h : i + 1 < mk.length) : (levelsL ns ms mk)[i]? = some ((cntLe ns (mk.getD i 0) : Int) - (cntLe ms (mk.getD i 0) : Int), mk.getD (i + 1) 0 - mk.getD i 0) := by
  have : i < mk.length - 1 := by omega
  simp [levelsL, this]
theorem levelsL_length {ns ms mk : List Int} : (levelsL ns ms mk).length = mk.length - 1 := by simp [levelsL]
structure LevSt where
  ys : List Value
  n : Nat
  tl : List (Addr × Obj)
  k : Option Value
  level : Option Value
local macro_rules | `(tactic| size_fits) => `(tactic| ((try simp only [Array.size_push, List.size_toArray, List.length_map, List.length_append, PySem.sizeLine_eq] at *); omega))
local macro_rules | `(tactic| walk_at "subscriptTail") => `(tactic| (k_here; (with_reducible show wpAny _ _ (subscriptTail _ _ (Value.ref _) (Value.int _ _)) _ _ _); k_dflt (refine' item_ints ?k1 ?k2 ?ki ?k3 ?k4 ?k5 ?_ ?k7; (case k1 => k_asm); (case k2 => k_mem); (case ki => l_ints); (case k3 => first | assumption | omega | l_idx); (case k4 => first | assumption | omega | l_idx); (case k5 => first | assumption | omega); (case k7 => with_unfolding_all rfl); k_whole); intro t'; (try k_sweep)))
set_option maxHeartbeats 8000000 in
theorem levels_ {w : World} {p : Program} {loose : List Str} {mean : ExcName → Option Value} {mg mb : Str → Option Value} {O T₂ : Addr} {vs us : List Value} {ns ms : List Int}
   (hi : IntsAre vs ns) (hj : IntsAre us ms) (hs : Srt ns) (hs2 : Srt ms) (hl : ns.length < 400) (hl2 : ms.length < 400) (hn : 0 < ns.length) :
   Fn w p loose mean mg mb 4 32 129 [.ref O, .ref T₂] [] (fun h₀ rest => LCg.SrcAt h₀ O vs.toArray rest ∧ LCg.SrcAt h₀ T₂ us.toArray rest)
     (fun r news' => ∃ l ys tl n ks, r = .ref l ∧ news' = (l, listOf ys.toArray n) :: tl ∧ (∀ p ∈ tl, @Ne Nat p.1 l) ∧ Srt ks ∧ ks.Perm (ns ++ ms) ∧ ItemsR (PairR tl) ys (levelsL ns ms (ks ++ [ks.getD 0 0 + 64]))) := by
  unfold Fn
  k_fill
  intro dp un gd cn cns cg cc cm a ccd cl outer A₀ base h₀ L m s news rest Q E B F X N T hd hu hown hrest hap hpre ret
  tb_turn [(Str.ofString "ones", Value.ref O), (Str.ofString "others", Value.ref T₂)]
  clear ret N F B X T
  intro g L' h₁ tk F' N' B' X' T' st hr
  have hO := srcAt_g hpre.1 st hr
  have hT := srcAt_g hpre.2 st hr
  clear hr st hpre
  dsimp only [bmap, List.reverse, List.reverseAux] at F' ⊢
  have hlen : (ns ++ ms).length < 900 := by rw [List.length_append]; lia
  have hlen0 : 0 < (ns ++ ms).length := by rw [List.length_append]; lia
  try k_unmd
  k_fold
  k_steps
  rename_i D₀ ws₀ h2 hI₀ l0 h3 tk3 mk vs' ks m' i' s' p' ap' h4 F4 N4
  have kl : ks.length = (ns ++ ms).length := p'.length_eq
  have vl : vs'.length = ks.length := i'.length
  have kl0 : 0 < ks.length := by lia
  have ne1 : @Ne Nat mk D₀ := ap' _ List.mem_cons_self _ List.mem_cons_self
  k_steps
  rename_i t0 h5 lv h6 l1 h7 F5 N5 h8 tk8 t₁ u₁ v₁ hr F6 N6 hk
  obtain ⟨mv, N6', hmi⟩ : ∃ mv, News g L' h8 [(lv, listOf #[] 0), (mk, listOf mv.toArray (m' + 1)), (D₀, listOf ws₀.toArray 0)] ∧ IntsAre mv (ks ++ [ks.getD 0 0 + 64]) := ⟨_, N6, i'.append (.cons _ _ .nil)⟩
  clear N6
  have N6 := N6'
  clear N6'
  have hml : (ks ++ [ks.getD 0 0 + 64]).length = ks.length + 1 := by simp
  generalize hmks : ks ++ [ks.getD 0 0 + 64] = mks at hmi hml
  generalize m' + 1 = mn at N6
  have ml : mv.length = mks.length := hmi.length
  have hmk : mk ≠ lv := Nat.ne_of_lt l1.1
  clear hk ap' hI₀
  refine Hold.of ?_
  try k_unmd
  refine iter_range (α := LevSt) (n := ks.length) (fun a y => if y = Str.ofString "k" then a.k else if y = Str.ofString "level" then a.level else if y = Str.ofString "levels" then some (.ref lv) else if y = Str.ofString "marks" then some (.ref mk) else if y = Str.ofString "others" then some (.ref T₂) else if y = Str.ofString "ones" then some (.ref O) else none)
    (fun a => (lv, listOf a.ys.toArray a.n) :: (mk, listOf mv.toArray mn) :: a.tl)
    (fun i a => (∀ p ∈ a.tl, @Ne Nat p.1 lv) ∧ ItemsR (PairR a.tl) a.ys ((levelsL ns ms mks).take i)) rfl hr (small_one (by lia) (by lia) (by lia) (by lia)) (by have := rangeSize_nat 0 (ks.length : Int); simpa using this) F6 N6 ⟨[], 0, [], none, none⟩ (by k_same2) (by k_sub) ⟨fun _ h => (nomatch h), .nil⟩ ?_ ?_
  · intro i t a I oI h tk hin ⟨q1, q2⟩ hne F' N'
    clear hr F6 N6
    try dsimp only at hne
    have hne1 : @Ne Nat lv I := hne _ List.mem_cons_self
    have hne2 : @Ne Nat mk I := hne _ (List.mem_cons_of_mem _ List.mem_cons_self)
    have hne3 : ∀ p ∈ a.tl, @Ne Nat p.1 I := fun p hp => hne p (List.mem_cons_of_mem _ (List.mem_cons_of_mem _ hp))
    have hyl := q2.length
    rw [List.length_take] at hyl
    rw [Int.zero_add] at F'
    obtain ⟨ys, n, tl, ak, al⟩ := a
    try dsimp only at q1 q2 hne hne3 hyl F' N' ⊢
    try k_unmd
    k_fold
    k_steps
    rename_i D2 h9 l2 h10 F2 N2
    have ep : ys.toArray.push (Value.ref D2) = (ys ++ [Value.ref D2]).toArray := by simp
    rw [ep] at N2
    refine FoEnd.next ⟨ys ++ [.ref D2], n + 1, (D2, tupO _) :: tl, some _, some _⟩ F2 N2 (by k_same2) (by kcf_all) ?_ ⟨?_, ?_⟩
    · intro p hp
      rcases List.mem_cons.mp hp with rfl | hp
      · exact hne1
      rcases List.mem_cons.mp hp with rfl | hp
      · exact hne2
      rcases List.mem_cons.mp hp with rfl | hp
      · exact Ne.symm (Nat.ne_of_lt l2.1)
      · exact hne3 p hp
    · intro p hp
      rcases List.mem_cons.mp hp with rfl | hp
      · exact Ne.symm (Nat.ne_of_lt l2.2.1)
      · exact q1 p hp
    · rw [List.take_add_one, levelsL_at (by lia)]
      exact (q2.mono fun v e hv => PairR.mono _ _ v e (fun p hp => List.mem_cons_of_mem _ hp) hv).snoc ⟨D2, _, _, rfl, List.mem_cons_self⟩
  · intro a h tk ⟨q1, q2⟩ F' N'
    dsimp only at q1 q2 F' N' ⊢
    k_steps
    have e : (levelsL ns ms mks).take ks.length = levelsL ns ms mks := by rw [List.take_of_length_le]; rw [levelsL_length]; lia
    rw [e, ← hmks] at q2
    exact BodyEnd.mk F' N' ((lv, listOf a.ys.toArray a.n) :: a.tl) (by kcf_all) ⟨_, _, _, _, _, rfl, rfl, q1, s', p', q2⟩

noncomputable def keyOf (e : Int × Int) : Int := 1000 * e.1 + e.2
/-- the weighted middle of keyed pairs -/
noncomputable def MidOf (es : List (Int × Int)) (m : Int) : Prop := ∃ k₁ k k₂, (k₁ ++ k :: k₂).Perm (es.map keyOf) ∧ (∀ a ∈ k₁, a ≤ k) ∧ (∀ a ∈ k₂, k ≤ a) ∧ m = k / 1000 ∧ (k₁.map (· % 1000)).sum < 32 ∧ 32 ≤ (k₁.map (· % 1000)).sum + k % 1000
theorem pairs_keys {g : Heap} {rest : List (Addr × Obj)} {vs : List Value} {es : List (Int × Int)} (h : ItemsR (PairR rest) vs es) (hw : ∀ e ∈ es, 0 ≤ e.2 ∧ e.2 < 1000) (hr : ∀ q ∈ rest, g.get? q.1 = some q.2) :
    ∃ ps : List (Value × Int), fstL ps = vs ∧ sndL ps = es.map keyOf ∧ ∀ q ∈ ps, KeyAt g true q.1 q.2 := by
  induction h with
  | nil => exact ⟨[], rfl, rfl, fun _ h => nomatch h⟩
  | @cons v e vs es hv _ ih =>
    obtain ⟨ps, e1, e2, hk⟩ := ih fun e he => hw e (List.mem_cons_of_mem _ he)
    refine ⟨(v, keyOf e) :: ps, by simp [fstL, ← e1], by simp [sndL, ← e2], fun q hq => ?_⟩
    rcases List.mem_cons.mp hq with rfl | hq
    · obtain ⟨t, ta, tb, rfl, hm⟩ := hv
      have z := hw e List.mem_cons_self
      exact .tup ⟨_, hr _ hm, rfl, _, rfl⟩ z.1 z.2
    · exact hk q hq
theorem perm_sum {l l' : List Int} (h : l.Perm l') : l.sum = l'.sum := by
  induction h with
  | nil => rfl
  | cons x _ ih => simp [ih]
  | swap x y l => simp only [List.sum_cons]; lia
  | trans _ _ a b => exact a.trans b
structure MidSt where
  qs : List (Value × Int)
  rs : List (Value × Int)
  nq : Nat
  passed : Int
  middle : Int
  tp : Tok
  tm : Tok
  width : Option Value
set_option maxHeartbeats 8000000 in
theorem middle_ {w : World} {p : Program} {loose : List Str} {mean : ExcName → Option Value} {mg mb : Str → Option Value} {D : Addr} {vs : List Value} {es : List (Int × Int)}
   (hw : ∀ e ∈ es, 0 ≤ e.2 ∧ e.2 < 1000) (hsum : (es.map (·.2)).sum = 64) (hl : es.length < 900) :
   Fn w p loose mean mg mb 4 32 136 [.ref D] [] (fun h₀ rest => LCg.SrcAt h₀ D vs.toArray rest ∧ ItemsR (PairR rest) vs es)
     (fun r news' => news' = [] ∧ ∃ m t, r = .int m t ∧ MidOf es m) := by
  unfold Fn
  k_fill
  intro dp un gd cn cns cg cc cm a ccd cl outer A₀ base h₀ L m s news rest Q E B F X N T hd hu hown hrest hap hpre ret
  tb_turn [(Str.ofString "levels", Value.ref D)]
  clear ret N F B X T
  intro g L' h₁ tk F' N' B' X' T' st hr
  have hD := srcAt_g hpre.1 st hr
  obtain ⟨ps, e1, e2, hK⟩ := pairs_keys hpre.2 hw hr
  clear hr st hpre
  dsimp only [bmap, List.reverse, List.reverseAux] at F' ⊢
  subst e1
  have e3 : (sndL ps).length = ps.length := List.length_map ..
  have e4 : (fstL ps).length = ps.length := List.length_map ..
  have e5 : ps.length = es.length := by rw [← e3, e2, List.length_map]
  try k_unmd
  k_fold
  k_steps
  rename_i qd cq h2 l1 h3 F1 N1
  refine Hold.of ?_
  refine (heapify_ (bb := true) (ps := ps) (by lia)).turns (Rem.head (by intro _ h; cases h)) B' F1 X' N1 T' ?d ?u ?pre ?_
  case pre => exact fun g' st' _ q hq => (hK q hq).keeps st'
  case d => dsimp only [ktrTop]; lia
  case u => dsimp only [ktrTop]; lia
  intro v news' h' tk' F3 N3 _ hR
  obtain ⟨qs, e1', p', hp', e2'⟩ := hR
  subst e1' e2'
  simp only [List.append_nil] at N3
  clear F1 N1
  k_steps
  rename_i t0 F5 N5
  refine Hold.of ?_
  try k_unmd
  k_fold
  refine while_st (α := MidSt) (fun a y => if y = Str.ofString "width" then a.width else if y = Str.ofString "middle" then some (.int a.middle a.tm) else if y = Str.ofString "passed" then some (.int a.passed a.tp) else if y = Str.ofString "queue" then some (.ref qd) else if y = Str.ofString "levels" then some (.ref D) else none) (fun a => [(qd, listOf (fstL a.qs).toArray a.nq)])
    (fun a => Hp 0 (sndL a.qs) ∧ (a.rs ++ a.qs).Perm ps ∧ Srt (sndL a.rs) ∧ (∀ r ∈ a.rs, ∀ q ∈ a.qs, r.2 ≤ q.2) ∧ a.passed = ((sndL a.rs).map (· % 1000)).sum ∧ ((a.rs = [] ∧ a.passed = 0) ∨ ∃ r' x, a.rs = r' ++ [x] ∧ a.middle = x.2 / 1000 ∧ ((sndL r').map (· % 1000)).sum < 32)) (fun a => a.qs.length) PassesOwn.never ?turn ⟨qs, [], _, 0, 0, _, _, none⟩ F5 N5 (by k_same2) (fun _ h => h) ⟨hp', p', .nil, (fun _ h => nomatch h), rfl, .inl ⟨rfl, rfl⟩⟩
  intro ⟨bq, br, nq, pa, mi, tp, tm, wi⟩ h tk ⟨q1, q2, q3, q4, q5, q6⟩ F' N'
  dsimp only at q1 q2 q3 q4 q5 q6 F' N' ⊢
  clear F5 N5
  have tot : ((sndL ps).map (· % 1000)).sum = 64 := by
    rw [e2, List.map_map, ← hsum]
    congr 1
    refine List.map_congr_left fun e he => ?_
    have := hw e he
    show (1000 * e.1 + e.2) % 1000 = e.2
    lia
  have tot2 : pa + ((sndL bq).map (· % 1000)).sum = 64 := by
    rw [← tot, ← perm_sum ((q2.map (·.2)).map (· % 1000)), q5]
    simp only [List.map_append, sndL, List.sum_append]
  k_steps
  · rename decide _ = true => q
    have q := of_decide_eq_true q
    rcases List.eq_nil_or_concat bq with hq | ⟨qs', lst, hq⟩
    · subst hq
      exact absurd tot2 (by simp only [sndL, List.map_nil, List.sum_nil]; lia)
    rw [List.concat_eq_append] at hq
    subst hq
    have hlen := q2.length_eq
    rw [List.length_append, List.length_append, List.length_singleton] at hlen
    refine Hold.of ?_
    refine (heappop_ (bb := true) (qs := qs') (lst := lst) (by lia) q1).turns (Rem.head (by intro _ h; cases h)) B' F' X' N' T' ?d ?u ?pre ?_
    case pre => exact fun g' st' _ q hq => (hK q (q2.mem_iff.mp (List.mem_append_right _ hq))).keeps st'
    case d => dsimp only [ktrTop]; lia
    case u => dsimp only [ktrTop]; lia
    intro v news' h' tk' F3 N3 ap hR
    obtain ⟨x, ps', n', e1', px, hp2, hmin, e2'⟩ := hR
    subst e1' e2'
    simp only [List.append_nil] at N3
    clear F' N'
    have hx : x ∈ qs' ++ [lst] := px.mem_iff.mp List.mem_cons_self
    have hps : ∀ q ∈ ps', q ∈ qs' ++ [lst] := fun q hq => px.mem_iff.mp (List.mem_cons_of_mem _ hq)
    obtain ⟨xv, xk⟩ := x
    have hkx := (hK _ (q2.mem_iff.mp (List.mem_append_right _ hx))).keeps F3.keep
    dsimp only at hkx ⊢
    cases hkx with
    | @tup a i j ti tj ht h0 h1 =>
    try k_unmd
    k_fold
    k_steps
    rename News _ _ _ _ => N2
    rename Fr _ _ _ _ => F2
    refine WhEnd.next ⟨ps', br ++ [(.ref a, 1000 * i + j)], n', pa + j, i, _, _, _⟩ F2 N2 (by k_same2) (by k_sub) ⟨hp2, ?_, ?_, ?_, ?_, .inr ⟨br, _, rfl, ?_, ?_⟩⟩ ?_
    · rw [List.append_assoc]
      exact (px.append_left br).trans q2
    · show Srt (sndL (br ++ [_]))
      unfold sndL Srt
      rw [List.map_append, List.pairwise_append]
      refine ⟨q3, by simp, fun a' ha b' hb => ?_⟩
      obtain ⟨r, hr, rfl⟩ := List.mem_map.mp ha
      simp only [List.map_cons, List.map_nil, List.mem_singleton] at hb
      subst hb
      exact q4 r hr _ hx
    · intro r hr q hq
      rcases List.mem_append.mp hr with hr | hr
      · exact q4 r hr q (hps q hq)
      · rw [List.mem_singleton.mp hr]; exact hmin q hq
    · simp only [sndL, List.map_append, List.map_cons, List.map_nil, List.sum_append, List.sum_cons, List.sum_nil] at q5 ⊢
      lia
    · show i = (1000 * i + j) / 1000
      lia
    · lia
    · have := px.length_eq
      show ps'.length < (qs' ++ [lst]).length
      rw [List.length_cons] at this
      lia
  · rename decide _ = false => q
    have q := of_decide_eq_false q
    refine BodyEnd.mk F' N' [] (fun _ h => nomatch h) ⟨rfl, _, _, rfl, ?_⟩
    rcases q6 with ⟨_, q6⟩ | ⟨r', x, rfl, e7, q7⟩
    · lia
    · refine ⟨sndL r', x.2, sndL bq, ?_, ?_, ?_, e7, q7, ?_⟩
      · rw [← e2]
        have := q2.map (·.2)
        simpa [sndL] using this
      · intro a ha
        have z := (List.pairwise_append.mp (by simpa [sndL, Srt] using q3 : (sndL r' ++ [x.2]).Pairwise (· ≤ ·))).2.2
        exact z a ha _ (List.mem_singleton.mpr rfl)
      · intro a ha
        obtain ⟨b, hb, rfl⟩ := List.mem_map.mp ha
        exact q4 x (List.mem_append_right _ (List.mem_singleton.mpr rfl)) b hb
      · simp only [sndL, List.map_append, List.map_cons, List.map_nil, List.sum_append, List.sum_cons, List.sum_nil] at q5 ⊢
        lia

-- a for loop whose name is a cell, over a range
section
variable {prog : Program} {w : World} {A : Around} {E : Value → Shared → Prop} {s : Shared} {env : Env} {h₀ : Heap} {x : Str} {px : Pos} {body : List Stmt} {Q : Flow → Shared → Prop} {α : Type}
noncomputable def FoT (h₀ : Heap) (L : Addr) (s : Shared) (M : α → Str → Option Value) (Led : α → List (Addr × Obj)) (P : α → Prop) (I : Addr) (own : List (Addr × Obj)) (f : Flow) (s' : Shared) : Prop :=
  match f with
  | .next => ∃ a' h' tk', s' = { s with heap := h', toks := tk' } ∧ P a' ∧ Fr h₀ L h' (M a') ∧ News h₀ L h' (own ++ Led a') ∧ ∀ p ∈ Led a', @Ne Nat p.1 I
  | _ => False
theorem FoT.next {L : Addr} {M : α → Str → Option Value} {Led : α → List (Addr × Obj)} {P : α → Prop} {I : Addr} {own all : List (Addr × Obj)} {h' : Heap} {tk' : Nat} {m' : Str → Option Value}
    (a' : α) (F : Fr h₀ L h' m') (N : News h₀ L h' all) (hm : m' = M a') (hN : ∀ p ∈ own ++ Led a', p ∈ all) (hI : ∀ p ∈ Led a', @Ne Nat p.1 I) (hP : P a') : FoT h₀ L s M Led P I own .next { s with heap := h', toks := tk' } :=
  ⟨a', h', tk', rfl, hP, hm ▸ F, fun p hp => N p (hN p hp), hI⟩
theorem iter_rangeT {r : Addr} {a₁ b₁ : Int} {t₁ u₁ v₁ : Tok} {n : Nat} {m₀ : Str → Option Value} {all : List (Addr × Obj)} (M : α → Str → Option Value) (Led : α → List (Addr × Obj)) (Pd : Nat → α → Prop)
    (hh : A.handled = none) (hr : IsRange s.heap r a₁ b₁ 1 t₁ u₁ v₁) (hsmall : Builtin.Range.small a₁ b₁ 1 = true) (hn : Builtin.Range.rangeSize a₁ b₁ 1 = (n : Int)) (F : Fr h₀ env.locals s.heap m₀) (N : News h₀ env.locals s.heap all)
    (a₀ : α) (hm : m₀ = M a₀) (hN : ∀ p ∈ Led a₀, p ∈ all) (hP : Pd 0 a₀)
    (turn : ∀ i t a I oI (s₁ : Shared), i < n → Pd i a → (∀ p ∈ Led a, @Ne Nat p.1 I) → Fr h₀ env.locals s₁.heap (M a) → News h₀ env.locals s₁.heap ((I, oI) :: Led a) →
      wpAny (model prog w) A (assign (.Name x px) env (.int (a₁ + (i : Nat)) t)) (fun _ s₃ => wpAny (model prog w) A (execs body env) (FoT h₀ env.locals s₁ M Led (Pd (i + 1)) I [(I, oI)]) E s₃) E s₁)
    (done : ∀ a h tk, Pd n a → Fr h₀ env.locals h (M a) → News h₀ env.locals h (Led a) → Q .next { s with heap := h, toks := tk }) :
    wpAny (model prog w) A (pyIter (.ref r)) (fun it s₂ => LoopAtT prog w A h₀ env (.Name x px) body Q E it s₂) E s := by
  refine wpAny_pyIter_range hr hsmall ?_
  have W : Walks prog w A s.heap.objs.size [s.heap.objs.size] [s.heap.objs.size] n (fun i v => i < n ∧ ∃ t, v = .int (a₁ + i * 1) t)
      (fun i h => IsRangeIter h s.heap.objs.size (a₁ + (i : Nat) * 1) ((n : Int) - (i : Nat)) 1) := (Walks.range hh _ a₁ 1 n).bound
  have old : ∀ p ∈ Led a₀, p.1 ∉ [s.heap.objs.size] := fun p hp hI => Nat.ne_of_lt (Heap.lt_size (N p (hN p hp)).1) (List.mem_singleton.mp hI)
  refine ⟨_, _, _, n, _, _, M a₀, Led a₀, fun i m₁ news₁ => ∃ a, m₁ = M a ∧ news₁ = Led a ∧ Pd i a, rfl, W, ?_, ?_, old, ?_, hm ▸ F.push _, fun p hp => ⟨Heap.get?_push_of_some _ (N p (hN p hp)).1, (N p (hN p hp)).2⟩, fun i s' v Q' _ q => wpAny_pure q, ⟨a₀, rfl, rfl, hP⟩, ?_, ?_⟩
  · intro hm'
    exact absurd F.ns.lt ((List.mem_singleton.mp hm') ▸ Nat.lt_irrefl _)
  · intro b hb
    rw [List.mem_singleton.mp hb]
    exact next_is_new F
  · show IsRangeIter _ _ _ _ _; rw [hn]; simpa using Heap.get?_push_size _ rfl
  · rintro i v m₁ news₁ s₁ own hi ⟨_, t, rfl⟩ ⟨a, rfl, rfl, hPd⟩ hoff hfp hat hall hst F₁ N₁
    have hoI : ∃ oI, s₁.heap.get? s.heap.objs.size = some oI := ⟨_, hst⟩
    obtain ⟨oI, hoI⟩ := hoI
    have hown1 : (s.heap.objs.size, oI) ∈ own := hall _ List.mem_cons_self (next_is_new F) _ hoI
    have hown2 : ∀ p ∈ own, p = (s.heap.objs.size, oI) := fun p hp => by
      have e := List.mem_singleton.mp (hfp p hp)
      exact Prod.ext e (Option.some.inj ((hat p hp).symm.trans ((congrArg s₁.heap.get? e).trans hoI)))
    rw [Int.mul_one]
    refine wpAny_mono (turn i t a _ oI s₁ hi hPd (fun p hp e => hoff p hp (List.mem_singleton.mpr e)) F₁ fun p hp => N₁ p ?_) (fun _ s₃ h₃ => wpAny_mono h₃ (fun f s₄ h₄ => ?_) fun _ _ e => e) fun _ _ e => e
    · rcases List.mem_cons.mp hp with rfl | hp
      · exact List.mem_append_left _ hown1
      · exact List.mem_append_right _ hp
    · cases f with
      | next =>
        obtain ⟨a', h', tk', e, hP', F', N', hI'⟩ := h₄
        refine ⟨rfl, h', tk', _, Led a', e, F', fun p hp => N' p ?_, fun p hp e => hI' p hp (List.mem_singleton.mp e), a', rfl, rfl, hP'⟩
        rcases List.mem_append.mp hp with hp | hp
        · rw [hown2 p hp]; exact List.mem_cons_self
        · exact List.mem_cons_of_mem _ hp
      | brk => exact h₄.elim
      | cont => exact h₄.elim
      | ret v => exact h₄.elim
  · rintro h' tk m' news' F' N' _ ⟨a, rfl, rfl, hPd⟩
    exact done a h' tk hPd F' N'
end
local macro_rules | `(tactic| walk_at "exec For Name Call cons nil") => `(tactic| (k_here; (rename Fr _ _ _ _ => lF'); (first
  | (with_unfolding_all refine' For_invVF lF' ?k1 ?k2 ?_; (case k1 => exact rfl); (case k2 => exact rfl); k_whole)
  | (with_unfolding_all refine' For_invTF lF' ?_ ?k1; (case k1 => intro _; rfl); k_whole))))

abbrev Q4 := Int × Int × Int × Int
noncomputable def QuadR (led : List (Addr × Obj)) (v : Value) (e : Q4) : Prop := ∃ t ta tb tc td, v = .ref t ∧ (t, tupO #[.int e.1 ta, .int e.2.1 tb, .int e.2.2.1 tc, .int e.2.2.2 td]) ∈ led
theorem QuadR.mono (a b : List (Addr × Obj)) (v : Value) (e : Q4) (h : ∀ p ∈ a, p ∈ b) (x : QuadR a v e) : QuadR b v e := by
  obtain ⟨t, ta, tb, tc, td, e, hm⟩ := x
  exact ⟨t, ta, tb, tc, td, e, h _ hm⟩
noncomputable def rowQ (p q : List Int) (tbl : List Q4) (taken pl j : Nat) : Q4 :=
  let w := way (p.getD (pl - 1) 0) (q.getD j 0)
  let e := tbl.getD (taken - 2 ^ j) (0, 0, 0, 0)
  (e.1 + w, e.2.1 + w * w, max e.2.2.1 w, e.2.2.2 + w)
noncomputable def placesOf (n taken : Nat) : List Nat := (List.range n).filter fun j => taken / 2 ^ j % 2 == 1
noncomputable def quadOf (p q : List Int) (tbl : List Q4) (taken : Nat) : Q4 :=
  let rows := (placesOf q.length taken).map (rowQ p q tbl taken (placesOf q.length taken).length)
  (minL (rows.map (·.1)), minL (rows.map (·.2.1)), minL (rows.map (·.2.2.1)), maxL (rows.map (·.2.2.2)))
noncomputable def tblQ (p q : List Int) : Nat → List Q4
  | 0 => [(0, 0, 0, 0)]
  | k + 1 => tblQ p q k ++ [quadOf p q (tblQ p q k) (k + 1)]
theorem tblQ_length (p q : List Int) : ∀ k, (tblQ p q k).length = k + 1
  | 0 => rfl
  | k + 1 => by rw [tblQ, List.length_append, tblQ_length p q k]; rfl
theorem bit_int (i j : Nat) : ((1 + (i : Int)).fdiv (2 ^ ((j : Int)).toNat)).fmod 2 = (((1 + i) / 2 ^ j % 2 : Nat) : Int) := by
  rw [Int.toNat_natCast, Int.fdiv_eq_ediv_of_nonneg _ (by exact_mod_cast Nat.zero_le _), Int.fmod_eq_emod_of_nonneg _ (by lia)]
  norm_cast
theorem places_mem {n taken j : Nat} (h : j ∈ placesOf n taken) : j < n ∧ 2 ^ j ≤ taken := by
  unfold placesOf at h
  rw [List.mem_filter, List.mem_range] at h
  refine ⟨h.1, Nat.not_lt.mp fun hlt => ?_⟩
  have := h.2
  rw [Nat.div_eq_of_lt hlt] at this
  simp at this
theorem places_le (n taken : Nat) : (placesOf n taken).length ≤ n := by
  have := List.length_filter_le (fun j => taken / 2 ^ j % 2 == 1) (List.range n)
  simpa [placesOf] using this
theorem places_some : ∀ n, n ≤ 5 → ∀ i, i < 2 ^ n - 1 → 0 < (placesOf n (1 + i)).length := by decide +kernel
theorem allLt_mem {d : Nat} : ∀ {l : List (Addr × Obj)}, AllLt d l → ∀ p ∈ l, @LT.lt Nat _ p.1 d
  | [], _, _, hp => nomatch hp
  | _ :: _, h, p, hp => by
    rcases List.mem_cons.mp hp with rfl | hp
    · exact h.1
    · exact allLt_mem h.2 p hp
theorem off1_mem {D : Addr} : ∀ {l : List (Addr × Obj)}, LCg.Off1 D l → ∀ p ∈ l, @Ne Nat p.1 D
  | [], _, _, hp => nomatch hp
  | _ :: _, h, p, hp => by
    rcases List.mem_cons.mp hp with rfl | hp
    · exact h.1
    · exact off1_mem h.2 p hp
theorem range_map_at {α β : Type} (f : α → β) (d : α) (l : List α) : (List.range l.length).map (fun i => f (l.getD i d)) = l.map f := by
  apply List.ext_getElem
  · simp
  · intro i h1 h2
    simp at h1 h2
    simp [List.getD_eq_getElem?_getD, h2]
theorem item_last {prog : Program} {w : World} {A : Around} {E : Value → Shared → Prop} {s : Shared} {h₀ : Heap} {L D : Addr} {news : List (Addr × Obj)} {vs : List Value} {n : Nat} {u : Tok}
    {value slice : PySem.Expr} {Q : Value → Shared → Prop} (N : News h₀ L s.heap news) (hm : (D, listOf vs.toArray n) ∈ news) (h0 : 0 < vs.length) (hfit : vs.length < 1000) (h : Q (vs.getD (vs.length - 1) .none) s)
    (hs : subscripted slice false (.ref D) (.int (-1) u) = operate [.ref D, .int (-1) u] (getItem (.ref D) (.int (-1) u)) := by with_unfolding_all rfl) :
    wpAny (model prog w) A (subscriptTail value slice (.ref D) (.int (-1) u)) Q E s := by
  have hl : s.heap.IsList D vs.toArray := ⟨_, (N _ hm).1, rfl, _, rfl⟩
  have hj : vs.length - 1 < vs.length := by lia
  refine tail_any hl.typeIs slot_list_getitem.lookup (wpAny_getItem_list_neg hl (by lia) (by simp only [List.size_toArray]; lia) (by decide) ?_ h) hs
  have e : (-1 + (vs.toArray.size : Int)).toNat = vs.length - 1 := by simp only [List.size_toArray]; lia
  rw [e, List.getElem?_toArray, List.getD_eq_getElem?_getD, List.getElem?_eq_getElem hj]
  rfl
noncomputable def pairQ (p q : List Int) : Q4 := (tblQ p q (2 ^ p.length - 1)).getD (2 ^ p.length - 1) (0, 0, 0, 0)
structure RoSt where
  rs : List Value
  n : Nat
  tl : List (Addr × Obj)
  j : Option Value
  way : Option Value
  one : Option Value
  two : Option Value
  worst : Option Value
  most : Option Value
local macro_rules | `(tactic| walk_at "eval ListComp") => `(tactic| (k_here; lct_look; lcg_calm; k_dflt (refine LCt.ListComp_T (F₀ := by k_asm) (by with_unfolding_all rfl) (by decide) (by rfl) (by decide) (by rfl) ?_)))
local macro_rules | `(tactic| walk_at "exec Assign cons ListComp") => `(tactic| (k_here; lct_look; lcg_calm; k_dflt (refine LCt.Assign_ListComp_T (F₀ := by k_asm) (by rfl) (by with_unfolding_all rfl) (by with_unfolding_all rfl) (by decide) (by rfl) (by decide) (by rfl) (by rfl) (by rfl) ?_)))
structure PaSt where
  ys : List Value
  n : Nat
  o : Obj
  tl : List (Addr × Obj)
  places : Option Value
  rows : Option Value
  j : Option Value
  way : Option Value
  one : Option Value
  two : Option Value
  worst : Option Value
  most : Option Value
set_option maxHeartbeats 4000000 in
theorem pairings_ {w : World} {p : Program} {loose : List Str} {mean : ExcName → Option Value} {mg mb : Str → Option Value} {O T₂ : Addr} {vs us : List Value} {ns ms : List Int}
   (hi : IntsAre vs ns) (hj : IntsAre us ms) (hl : ns.length ≤ 5) (hl2 : ms.length = ns.length) (hn : 0 < ns.length) :
   Fn w p loose mean mg mb 3 24 108 [.ref O, .ref T₂] [] (fun h₀ rest => LCg.SrcAt h₀ O vs.toArray rest ∧ LCg.SrcAt h₀ T₂ us.toArray rest)
     (fun r news' => ∃ t ta tb tc td, r = .ref t ∧ news' = [(t, tupO #[.int (pairQ ns ms).1 ta, .int (pairQ ns ms).2.1 tb, .int (pairQ ns ms).2.2.1 tc, .int (pairQ ns ms).2.2.2 td])]) := by
  unfold Fn
  k_fill
  intro dp un gd cn cns cg cc cm a ccd cl outer A₀ base h₀ L m s news rest Q E B F X N T hd hu hown hrest hap hpre ret
  tb_from [(Str.ofString "ones", Value.ref O), (Str.ofString "others", Value.ref T₂)]
  clear ret N F B X T
  intro g L' h₁ tk cells F' N' Y' B' X' T' st hr hlt
  have hO := srcAt_g hpre.1 st hr
  have hT := srcAt_g hpre.2 st hr
  clear hr st hpre
  k_cells Y'
  rename_i o₁ d₁
  simp only [List.cons_append, List.nil_append] at N'
  have F' : Fr g L' h₁ (fun y => if y = Str.ofString "others" then some (.ref T₂) else if y = Str.ofString "ones" then some (.ref O) else none) := F'
  have d₁ : o₁.data = .cell none := d₁
  have hnle : 2 ^ ns.length ≤ 2 ^ 5 := Nat.pow_le_pow_right (by lia) hl
  have hnlt : 0 < 2 ^ ns.length := Nat.two_pow_pos _
  try k_unmd
  k_fold
  k_steps
  rename_i D₀ h2 l1 tb h3 l2 h4 F5 N5 h6 tk6 t₁ u₁ v₁ hr F6 N6 hk
  rw [Int.toNat_natCast, show (2 : Int) ^ ns.length = ((2 ^ ns.length : Nat) : Int) by norm_cast] at hr
  clear hk F5 N5
  have tb1 : @Ne Nat D₀ tb := Nat.ne_of_lt l2.1
  have tb2 : @Ne Nat (L' + 1) tb := Nat.ne_of_lt l2.2
  have tb3 : @Ne Nat D₀ (L' + 1) := Ne.symm (Nat.ne_of_lt l1)
  refine Hold.of ?_
  try k_unmd
  refine iter_rangeT (α := PaSt) (n := 2 ^ ns.length - 1) (fun a y => if y = Str.ofString "most" then a.most else if y = Str.ofString "worst" then a.worst else if y = Str.ofString "two" then a.two else if y = Str.ofString "one" then a.one else if y = Str.ofString "way" then a.way else if y = Str.ofString "j" then a.j else if y = Str.ofString "rows" then a.rows else if y = Str.ofString "places" then a.places else if y = Str.ofString "table" then some (.ref tb) else if y = Str.ofString "others" then some (.ref T₂) else if y = Str.ofString "ones" then some (.ref O) else none)
    (fun a => (tb, listOf a.ys.toArray a.n) :: (L' + 1, a.o) :: a.tl)
    (fun i a => (∃ v₀, a.o.data = .cell v₀) ∧ (∀ p ∈ a.tl, @Ne Nat p.1 tb ∧ @Ne Nat p.1 (L' + 1)) ∧ ItemsR (QuadR a.tl) a.ys (tblQ ns ms i)) rfl hr (small_one (by lia) (by lia) (by lia) (by lia)) (by have := rangeSize_nat 1 ((2 ^ ns.length : Nat) : Int); rw [this]; lia) F6 N6 ⟨[.ref D₀], 0, o₁, [(D₀, tupO _)], none, none, none, none, none, none, none, none⟩ (by k_same2) (by k_sub) ⟨⟨_, d₁⟩, ?_, ?_⟩ ?_ ?_
  · intro p hp
    rw [List.mem_singleton.mp hp]
    exact ⟨tb1, tb3⟩
  · exact .cons ⟨D₀, _, _, _, _, rfl, List.mem_cons_self⟩ .nil
  · intro i t a I oI s₁ hin ⟨⟨v₀, q0⟩, q1, q2⟩ hne F' N'
    clear hr F6 N6
    obtain ⟨h, gn, dw, tk', os'⟩ := s₁
    obtain ⟨ys, n, o, tl, a1, a2, a3, a4, a5, a6, a7, a8⟩ := a
    try dsimp only at q0 q1 q2 hne F' N' ⊢
    have hne1 : @Ne Nat tb I := hne _ List.mem_cons_self
    have hne2 : @Ne Nat (L' + 1) I := hne _ (List.mem_cons_of_mem _ List.mem_cons_self)
    have hne3 : ∀ p ∈ tl, @Ne Nat p.1 I := fun p hp => hne p (List.mem_cons_of_mem _ (List.mem_cons_of_mem _ hp))
    have q11 : ∀ p ∈ tl, @Ne Nat p.1 tb := fun p hp => (q1 p hp).1
    have q12 : ∀ p ∈ tl, @Ne Nat p.1 (L' + 1) := fun p hp => (q1 p hp).2
    have hyl := q2.length
    rw [tblQ_length] at hyl
    try k_unmd
    k_fold
    have F' : Fr g L' h _ := F'
    have N' : News g L' h _ := N'
    k_steps
    rename_i h7 o₂ F7 N7 d₂ h8 tk8 t₁ u₁ v₁ hr hF hN hk
    clear hk F7 N7
    refine Hold.of (LCt.CompSrcT.range (n := ms.length) rfl hF hN hr (small_one (by lia) (by lia) (by lia) (by lia)) (by have := rangeSize_nat 0 (ms.length : Int); simpa using this) (by rw [sizeLine_eq]; lia) fun g' => ?_)
    refine comp_kept (vs := []) (ns := []) (fun j => (1 + i) / 2 ^ j % 2 == 1) (fun j => (j : Int)) ?_ ?_
    · intro j v I' oI' C oC D m₂ ys₂ h tk E' hjn ⟨t', ev⟩ hC hx F' N' off ne
      subst ev
      clear hF hN hr
      try k_unmd
      k_fold
      rw [Int.zero_add] at hx
      k_steps
      · rename_i qb
        rw [bit_int] at qb
        exact Hold.of (comp_endK (by assumption) (by assumption) (fun _ h => h) off trivial (by simpa using Int.ofNat.inj qb) rfl)
      · rename_i qb
        rw [bit_int] at qb
        exact Hold.of (comp_endN (by assumption) (by assumption) (fun _ h => h) off trivial (by simpa using fun q => qb (congrArg Int.ofNat q)))
    · intro ys₂ hy D h tk F N off
      clear hF hN hr
      have hpl : ys₂.length = (placesOf ms.length (1 + i)).length := by rw [hy.length, List.length_map]; rfl
      have hy : IntsAre ys₂ ((placesOf ms.length (1 + i)).map fun (j : Nat) => (j : Int)) := hy
      have hple := places_le ms.length (1 + i)
      have hpos : 0 < (placesOf ms.length (1 + i)).length := places_some _ (by lia) i (by rw [hl2]; exact hin)
      have hpm : ∀ j ∈ placesOf ms.length (1 + i), j < ms.length ∧ 2 ^ j ≤ 1 + i := fun j => places_mem
      generalize hpls : placesOf ms.length (1 + i) = pls at hy hpl hple hpos hpm
      k_steps
      rename_i rw' h9 l3 h10 F8 N8
      have N8 : News g L' h10 ((rw', listOf ([] : List Value).toArray 0) :: (D, listOf ys₂.toArray ys₂.length) :: (I, oI) :: (tb, listOf ys.toArray n) :: (L' + 1, o₂) :: tl) := N8
      refine Hold.of ?_
      try k_unmd
      refine iter_made (α := RoSt) (vs := ys₂) (k := ys₂.length) (fun a y => if y = Str.ofString "most" then a.most else if y = Str.ofString "worst" then a.worst else if y = Str.ofString "two" then a.two else if y = Str.ofString "one" then a.one else if y = Str.ofString "way" then a.way else if y = Str.ofString "j" then a.j else if y = Str.ofString "rows" then some (.ref rw') else if y = Str.ofString "places" then some (.ref D) else if y = Str.ofString "table" then some (.ref tb) else if y = Str.ofString "others" then some (.ref T₂) else if y = Str.ofString "ones" then some (.ref O) else none)
        (fun b => (rw', listOf b.rs.toArray b.n) :: (tb, listOf ys.toArray n) :: (L' + 1, o₂) :: (I, oI) :: b.tl)
        (fun k b => (∀ p ∈ b.tl, @Ne Nat p.1 rw' ∧ @Ne Nat p.1 tb ∧ @Ne Nat p.1 (L' + 1) ∧ @Ne Nat p.1 I ∧ @Ne Nat p.1 D) ∧ (∀ p ∈ tl, p ∈ b.tl) ∧ ItemsR (QuadR b.tl) b.rs ((pls.take k).map (rowQ ns ms (tblQ ns ms i) (1 + i) pls.length))) rfl F8 N8 (by k_mem) ⟨[], 0, tl, a3, a4, a5, a6, a7, a8⟩ (by k_same2) (by kcf_all) ⟨?_, fun _ h => h, .nil⟩ ?_ ?_
      · intro p hp
        exact ⟨Nat.ne_of_lt (allLt_mem l3.2.2.2.2 p hp), q11 p hp, q12 p hp, hne3 p hp, off1_mem off p (by kcf_m)⟩
      · intro k v b I' oI' h tk hk ⟨p1, p2, p3⟩ hneI hDI F' N'
        clear F8 N8
        obtain ⟨rs, rn, tl', b3, b4, b5, b6, b7, b8⟩ := b
        try dsimp only at p1 p2 p3 hneI F' N' ⊢
        obtain ⟨jj, tj, rfl, hjj⟩ := hy.at k v hk
        rw [List.getElem?_map] at hjj
        obtain ⟨j, hjm, rfl⟩ := Option.map_eq_some_iff.mp hjj
        obtain ⟨hj1, hj2⟩ := hpm j (List.mem_of_getElem? hjm)
        have hklt : k < pls.length := (List.getElem?_eq_some_iff.mp hjm).1
        have hrl := p3.length
        rw [List.length_map, List.length_take] at hrl
        have hwb := way_bounds (ns.getD ((pls.length : Int) - 1).toNat 0) (ms.getD ((j : Int)).toNat 0)
        have F' : Fr g L' h _ := F'
        have N' : News g L' h _ := N'
        have r1 : ∀ p ∈ tl', @Ne Nat p.1 rw' := fun p hp => (p1 p hp).1
        have r2 : ∀ p ∈ tl', @Ne Nat p.1 tb := fun p hp => (p1 p hp).2.1
        have r3 : ∀ p ∈ tl', @Ne Nat p.1 (L' + 1) := fun p hp => (p1 p hp).2.2.1
        have r4 : ∀ p ∈ tl', @Ne Nat p.1 I := fun p hp => (p1 p hp).2.2.2.1
        have r5 : ∀ p ∈ tl', @Ne Nat p.1 D := fun p hp => (p1 p hp).2.2.2.2
        have hpj : (2 : Int) ^ ((j : Int)).toNat = ((2 ^ j : Nat) : Int) := by rw [Int.toNat_natCast]; norm_cast
        have hx0 : 0 ≤ 1 + (i : Int) - 2 ^ ((j : Int)).toNat := by rw [hpj]; lia
        have hx1 : 1 + (i : Int) - 2 ^ ((j : Int)).toNat < ys.length := by rw [hpj]; have := Nat.two_pow_pos j; lia
        have hxn : (1 + (i : Int) - 2 ^ ((j : Int)).toNat).toNat = 1 + i - 2 ^ j := by rw [hpj]; lia
        have hxl : 1 + i - 2 ^ j < ys.length := by have := Nat.two_pow_pos j; lia
        obtain ⟨e, he, tq, ta, tb', tc, td, hv, htq⟩ := q2.at (i := 1 + i - 2 ^ j) (List.getElem?_eq_getElem hxl)
        have hget : ys.getD (1 + (i : Int) - 2 ^ ((j : Int)).toNat).toNat .none = .ref tq := by rw [hxn, List.getD_eq_getElem?_getD, List.getElem?_eq_getElem hxl, ← hv]; rfl
        have htq' := p2 _ htq
        try k_unmd
        k_fold
        k_steps
        rw [hget]
        rename News _ _ _ _ => N9
        have hT9 := (N9 _ (List.mem_cons_of_mem _ (List.mem_cons_of_mem _ (List.mem_cons_of_mem _ (List.mem_cons_of_mem _ (List.mem_cons_of_mem _ (List.mem_cons_of_mem _ htq'))))))).1
        have hT9 : IsTup _ tq #[Value.int e.1 ta, Value.int e.2.1 tb', Value.int e.2.2.1 tc, Value.int e.2.2.2 td] := ⟨_, hT9, rfl, _, rfl⟩
        have x1 : @Ne Nat rw' I' := hneI _ List.mem_cons_self
        have x2 : @Ne Nat D rw' := Nat.ne_of_lt l3.1
        have x3 : @Ne Nat I rw' := Nat.ne_of_lt l3.2.1
        have x4 : @Ne Nat tb rw' := Nat.ne_of_lt l3.2.2.1
        have x5 : @Ne Nat (L' + 1) rw' := Nat.ne_of_lt l3.2.2.2.1
        k_steps
        rename_i D2 h11 l4 h12 F2 N2
        have ep : rs.toArray.push (Value.ref D2) = (rs ++ [Value.ref D2]).toArray := by simp
        rw [ep] at N2
        have hrow : rowQ ns ms (tblQ ns ms i) (1 + i) pls.length j = (e.1 + way (ns.getD ((pls.length : Int) - 1).toNat 0) (ms.getD ((j : Int)).toNat 0), e.2.1 + way (ns.getD ((pls.length : Int) - 1).toNat 0) (ms.getD ((j : Int)).toNat 0) * way (ns.getD ((pls.length : Int) - 1).toNat 0) (ms.getD ((j : Int)).toNat 0),
            (if way (ns.getD ((pls.length : Int) - 1).toNat 0) (ms.getD ((j : Int)).toNat 0) > e.2.2.1 then way (ns.getD ((pls.length : Int) - 1).toNat 0) (ms.getD ((j : Int)).toNat 0) else e.2.2.1), e.2.2.2 + way (ns.getD ((pls.length : Int) - 1).toNat 0) (ms.getD ((j : Int)).toNat 0)) := by
          have z1 : ((pls.length : Int) - 1).toNat = pls.length - 1 := by lia
          rw [z1, Int.toNat_natCast]
          unfold rowQ
          rw [List.getD_eq_getElem?_getD (l := tblQ ns ms i), he]
          simp only [Option.getD_some]
          congr 3
          split <;> lia
        refine FoEnd.next ⟨rs ++ [.ref D2], rn + 1, (D2, tupO _) :: tl', some _, some _, some _, some _, some _, some _⟩ F2 N2 (by k_same2) (by kcf_all) ?_ ⟨?_, fun p hp => List.mem_cons_of_mem _ (p2 p hp), ?_⟩
        · intro p hp
          rcases List.mem_cons.mp hp with rfl | hp
          · exact x1
          rcases List.mem_cons.mp hp with rfl | hp
          · exact hneI _ (List.mem_cons_of_mem _ List.mem_cons_self)
          rcases List.mem_cons.mp hp with rfl | hp
          · exact hneI _ (List.mem_cons_of_mem _ (List.mem_cons_of_mem _ List.mem_cons_self))
          rcases List.mem_cons.mp hp with rfl | hp
          · exact hneI _ (List.mem_cons_of_mem _ (List.mem_cons_of_mem _ (List.mem_cons_of_mem _ List.mem_cons_self)))
          rcases List.mem_cons.mp hp with rfl | hp
          · exact Ne.symm (Nat.ne_of_lt l4.1)
          · exact hneI p (List.mem_cons_of_mem _ (List.mem_cons_of_mem _ (List.mem_cons_of_mem _ (List.mem_cons_of_mem _ hp))))
        · intro p hp
          rcases List.mem_cons.mp hp with rfl | hp
          · exact ⟨Ne.symm (Nat.ne_of_lt l4.2.2.1), Ne.symm (Nat.ne_of_lt l4.2.2.2.1), Ne.symm (Nat.ne_of_lt l4.2.2.2.2.1), Ne.symm (Nat.ne_of_lt l4.2.2.2.2.2.1), Ne.symm (Nat.ne_of_lt l4.2.1)⟩
          · exact p1 p hp
        · rw [List.take_add_one, hjm, List.map_append]
          refine (p3.mono fun v e hv => QuadR.mono _ _ v e (fun p hp => List.mem_cons_of_mem _ hp) hv).snoc ?_
          rw [hrow]
          exact ⟨D2, _, _, _, _, rfl, List.mem_cons_self⟩
      · intro b h tk ⟨p1, p2, p3⟩ F' N'
        clear F8 N8
        obtain ⟨rs, rn, tl', b3, b4, b5, b6, b7, b8⟩ := b
        try dsimp only at p1 p2 p3 F' N' ⊢
        have F' : Fr g L' h _ := F'
        have N' : News g L' h _ := N'
        rw [hpl, List.take_length] at p3
        have hrl := p3.length
        rw [List.length_map] at hrl
        generalize hRR : pls.map (rowQ ns ms (tblQ ns ms i) (1 + i) pls.length) = RR at p3
        have hRl : RR.length = pls.length := by rw [← hRR, List.length_map]
        have hR0 : 0 < RR.length := by lia
        k_steps
        refine Hold.of (LCg.CompSrc.ledger (its := rs.toArray) rfl (by assumption) (by assumption) (by k_mem) (by rw [sizeLine_eq, List.size_toArray]; lia) fun g' => ?_)
        rw [List.size_toArray, hrl, ← hRl]
        refine comp_ints (fun k => (RR.getD k (0, 0, 0, 0)).1) ?_ ?_
        · intro k v I' oI' C oC D' m₂ ys₂ h tk E' hk hv hC hx F' N' off' ne
          obtain ⟨e, he, t', ta, tb', tc, td, ev, hm⟩ := p3.at (i := k) (v := v) (by simpa using hv)
          subst ev
          have hT : IsTup h t' #[Value.int e.1 ta, Value.int e.2.1 tb', Value.int e.2.2.1 tc, Value.int e.2.2.2 td] := ⟨_, (N' (t', tupO #[Value.int e.1 ta, Value.int e.2.1 tb', Value.int e.2.2.1 tc, Value.int e.2.2.2 td]) (by kcf_m)).1, rfl, _, rfl⟩
          have he' : RR.getD k (0, 0, 0, 0) = e := by rw [List.getD_eq_getElem?_getD, he]; rfl
          try k_unmd
          k_fold
          k_steps
          rw [he']
          exact Hold.of (comp_endI (by assumption) (by assumption) (fun _ h => h) off' (.inr ⟨_, by kcf_m, rfl, _, rfl⟩) rfl)
        · intro yA hA DA h tk F N offA
          rw [range_map_at (fun e : Q4 => e.1) (0, 0, 0, 0) RR] at hA
          k_steps
          refine Hold.of (LCg.CompSrc.ledger (its := rs.toArray) rfl (by assumption) (by assumption) (by k_mem) (by rw [sizeLine_eq, List.size_toArray]; lia) fun g' => ?_)
          rw [List.size_toArray, hrl, ← hRl]
          refine comp_ints (fun k => (RR.getD k (0, 0, 0, 0)).2.1) ?_ ?_
          · intro k v I' oI' C oC D' m₂ ys₂ h tk E' hk hv hC hx F' N' off' ne
            obtain ⟨e, he, t', ta, tb', tc, td, ev, hm⟩ := p3.at (i := k) (v := v) (by simpa using hv)
            subst ev
            have hT : IsTup h t' #[Value.int e.1 ta, Value.int e.2.1 tb', Value.int e.2.2.1 tc, Value.int e.2.2.2 td] := ⟨_, (N' (t', tupO #[Value.int e.1 ta, Value.int e.2.1 tb', Value.int e.2.2.1 tc, Value.int e.2.2.2 td]) (by kcf_m)).1, rfl, _, rfl⟩
            have he' : RR.getD k (0, 0, 0, 0) = e := by rw [List.getD_eq_getElem?_getD, he]; rfl
            try k_unmd
            k_fold
            k_steps
            rw [he']
            exact Hold.of (comp_endI (by assumption) (by assumption) (fun _ h => h) off' (.inr ⟨_, by kcf_m, rfl, _, rfl⟩) rfl)
          · intro yB hB DB h tk F N offB
            rw [range_map_at (fun e : Q4 => e.2.1) (0, 0, 0, 0) RR] at hB
            k_steps
            refine Hold.of (LCg.CompSrc.ledger (its := rs.toArray) rfl (by assumption) (by assumption) (by k_mem) (by rw [sizeLine_eq, List.size_toArray]; lia) fun g' => ?_)
            rw [List.size_toArray, hrl, ← hRl]
            refine comp_ints (fun k => (RR.getD k (0, 0, 0, 0)).2.2.1) ?_ ?_
            · intro k v I' oI' C oC D' m₂ ys₂ h tk E' hk hv hC hx F' N' off' ne
              obtain ⟨e, he, t', ta, tb', tc, td, ev, hm⟩ := p3.at (i := k) (v := v) (by simpa using hv)
              subst ev
              have hT : IsTup h t' #[Value.int e.1 ta, Value.int e.2.1 tb', Value.int e.2.2.1 tc, Value.int e.2.2.2 td] := ⟨_, (N' (t', tupO #[Value.int e.1 ta, Value.int e.2.1 tb', Value.int e.2.2.1 tc, Value.int e.2.2.2 td]) (by kcf_m)).1, rfl, _, rfl⟩
              have he' : RR.getD k (0, 0, 0, 0) = e := by rw [List.getD_eq_getElem?_getD, he]; rfl
              try k_unmd
              k_fold
              k_steps
              rw [he']
              exact Hold.of (comp_endI (by assumption) (by assumption) (fun _ h => h) off' (.inr ⟨_, by kcf_m, rfl, _, rfl⟩) rfl)
            · intro yC hC DC h tk F N offC
              rw [range_map_at (fun e : Q4 => e.2.2.1) (0, 0, 0, 0) RR] at hC
              k_steps
              refine Hold.of (LCg.CompSrc.ledger (its := rs.toArray) rfl (by assumption) (by assumption) (by k_mem) (by rw [sizeLine_eq, List.size_toArray]; lia) fun g' => ?_)
              rw [List.size_toArray, hrl, ← hRl]
              refine comp_ints (fun k => (RR.getD k (0, 0, 0, 0)).2.2.2) ?_ ?_
              · intro k v I' oI' C oC D' m₂ ys₂ h tk E' hk hv hC hx F' N' off' ne
                obtain ⟨e, he, t', ta, tb', tc, td, ev, hm⟩ := p3.at (i := k) (v := v) (by simpa using hv)
                subst ev
                have hT : IsTup h t' #[Value.int e.1 ta, Value.int e.2.1 tb', Value.int e.2.2.1 tc, Value.int e.2.2.2 td] := ⟨_, (N' (t', tupO #[Value.int e.1 ta, Value.int e.2.1 tb', Value.int e.2.2.1 tc, Value.int e.2.2.2 td]) (by kcf_m)).1, rfl, _, rfl⟩
                have he' : RR.getD k (0, 0, 0, 0) = e := by rw [List.getD_eq_getElem?_getD, he]; rfl
                try k_unmd
                k_fold
                k_steps
                rw [he']
                exact Hold.of (comp_endI (by assumption) (by assumption) (fun _ h => h) off' (.inr ⟨_, by kcf_m, rfl, _, rfl⟩) rfl)
              · intro yE hE DE h tk F N offE
                rw [range_map_at (fun e : Q4 => e.2.2.2) (0, 0, 0, 0) RR] at hE
                have xA : @Ne Nat DA tb := Ne.symm (off1_mem offA (tb, listOf ys.toArray n) (by kcf_m))
                have xB : @Ne Nat DB tb := Ne.symm (off1_mem offB (tb, listOf ys.toArray n) (by kcf_m))
                have xC : @Ne Nat DC tb := Ne.symm (off1_mem offC (tb, listOf ys.toArray n) (by kcf_m))
                have xE : @Ne Nat DE tb := Ne.symm (off1_mem offE (tb, listOf ys.toArray n) (by kcf_m))
                have xr : @Ne Nat rw' tb := Ne.symm (Nat.ne_of_lt l3.2.2.1)
                have xt : ∀ p ∈ tl', @Ne Nat p.1 tb := fun p hp => (p1 p hp).2.1
                k_steps
                rename_i D2 h11 l4 h12 F2 N2
                have ep : ys.toArray.push (Value.ref D2) = (ys ++ [Value.ref D2]).toArray := by simp
                rw [ep] at N2
                have hq4 : quadOf ns ms (tblQ ns ms i) (i + 1) = (minL (RR.map fun e => e.1), minL (RR.map fun e => e.2.1), minL (RR.map fun e => e.2.2.1), maxL (RR.map fun e => e.2.2.2)) := by
                  rw [Nat.add_comm i 1]
                  unfold quadOf
                  rw [hpls, hRR]
                refine FoT.next ⟨ys ++ [.ref D2], n + 1, o₂, (D2, tupO _) :: tl', some _, some _, b3, b4, b5, b6, b7, b8⟩ F2 N2 (by k_same2) (by kcf_all) ?_ ⟨⟨_, d₂⟩, ?_, ?_⟩
                · intro p hp
                  rcases List.mem_cons.mp hp with rfl | hp
                  · exact hne1
                  rcases List.mem_cons.mp hp with rfl | hp
                  · exact hne2
                  rcases List.mem_cons.mp hp with rfl | hp
                  · exact Ne.symm (Nat.ne_of_lt l4.2.2.2.2.2.2.2.1)
                  · exact (p1 p hp).2.2.2.1
                · intro p hp
                  rcases List.mem_cons.mp hp with rfl | hp
                  · exact ⟨Ne.symm (Nat.ne_of_lt l4.2.2.2.2.2.1), Ne.symm (Nat.ne_of_lt l4.2.2.2.2.2.2.1)⟩
                  · exact ⟨(p1 p hp).2.1, (p1 p hp).2.2.1⟩
                · rw [tblQ, hq4]
                  exact (q2.mono fun v e hv => QuadR.mono _ _ v e (fun p hp => List.mem_cons_of_mem _ (p2 p hp)) hv).snoc ⟨D2, _, _, _, _, rfl, List.mem_cons_self⟩
  · intro a h tk ⟨q0, q1, q2⟩ F' N'
    clear hr F6 N6
    obtain ⟨ys, n, o, tl, a1, a2, a3, a4, a5, a6, a7, a8⟩ := a
    try dsimp only at q0 q1 q2 F' N' ⊢
    have F' : Fr g L' h _ := F'
    have N' : News g L' h _ := N'
    have hyl := q2.length
    rw [tblQ_length] at hyl
    k_steps
    refine item_last (vs := ys) N' (by k_mem) (by lia) (by lia) ?_ (by with_unfolding_all rfl)
    have hxl : ys.length - 1 < ys.length := by lia
    obtain ⟨e, he, tq, ta, tb', tc, td, hv, htq⟩ := q2.at (i := ys.length - 1) (List.getElem?_eq_getElem hxl)
    have hget : ys.getD (ys.length - 1) .none = .ref tq := by rw [List.getD_eq_getElem?_getD, List.getElem?_eq_getElem hxl, ← hv]; rfl
    have hpq : pairQ ns ms = e := by
      unfold pairQ
      rw [List.getD_eq_getElem?_getD, show 2 ^ ns.length - 1 = ys.length - 1 by lia, show (tblQ ns ms (ys.length - 1))[ys.length - 1]? = some e by rw [← he, hyl]; rfl]
      rfl
    rw [hget]
    show BodyEnd g L' s _ (.ref tq) _
    rw [← hpq] at htq
    exact BodyEnd.mk F' N' [(tq, tupO #[.int (pairQ ns ms).1 ta, .int (pairQ ns ms).2.1 tb', .int (pairQ ns ms).2.2.1 tc, .int (pairQ ns ms).2.2.2 td])] (by intro p hp; rw [List.mem_singleton.mp hp]; exact List.mem_cons_of_mem _ (List.mem_cons_of_mem _ htq)) ⟨_, _, _, _, _, rfl, rfl⟩

noncomputable def drawsL (xs : List Int) : List Int := (xs.take 5).map (fun x => x % 65536) ++ [57187, 46851, 17330, 60052].drop (xs.take 5).length
noncomputable def colQ (x : Int) : Q4 := (x % 64, x / 64 % 64, x / 4096 % 4 + 1, x / 16384 + 1)
local macro_rules | `(tactic| walk_at "subscriptTail") => `(tactic| ((with_reducible show wpAny _ _ (subscriptTail _ (PySem.Expr.Slice (some _) none none _) (Value.ref _) (Value.ref _)) _ _ _); (rename News _ _ _ ((_, listOf #[Value.int _ _, Value.int _ _, Value.int _ _, Value.int _ _] _) :: _) => N9); refine Hold.mk ?_))
set_option maxHeartbeats 400000 in
theorem draws_ {w : World} {p : Program} {loose : List Str} {mean : ExcName → Option Value} {mg mb : Str → Option Value} {D : Addr} {vs : List Value} {ns : List Int}
   (hi : IntsAre vs ns) (hl : ns.length < 900) :
   Fn w p loose mean mg mb 3 24 86 [.ref D] [] (fun h₀ rest => LCg.SrcAt h₀ D vs.toArray rest)
     (fun r news' => ∃ l ys tl, r = .ref l ∧ news' = (l, LCg.lst ys) :: tl ∧ (∀ p ∈ tl, @Ne Nat p.1 l) ∧ ItemsR (QuadR tl) ys ((drawsL ns).map colQ)) := by
  unfold Fn
  k_fill
  intro dp un gd cn cns cg cc cm a ccd cl outer A₀ base h₀ L m s news rest Q E B F X N T hd hu hown hrest hap hpre ret
  tb_turn [(Str.ofString "script", Value.ref D)]
  clear ret N F B X T
  intro g L' h₁ tk F' N' B' X' T' st hr
  have hD := srcAt_g hpre st hr
  clear hr st hpre
  dsimp only [bmap, List.reverse, List.reverseAux] at F' ⊢
  have hvl := hi.length
  try k_unmd
  k_fold
  k_steps
  rename_i D₁ ws₁ h2 F2 N2 hI₁ hC₁ hL₁ l1
  have hwl : ws₁.length = (List.take 5 ns).length := hI₁.length
  refine Hold.of (LCg.CompSrc.ledger (its := ws₁.toArray) rfl (by assumption) (by assumption) (by k_mem) (by rw [sizeLine_eq, List.size_toArray]; lia) fun g' => ?_)
  refine comp_list (fun x => x % 65536) hI₁ ?_ ?_
  · intro k t I oI C oC D₂ m₂ ys₂ h tk E' hk hC hx F' N' off' ne
    try k_unmd
    k_fold
    k_steps
    rw [Int.fmod_eq_emod_of_nonneg _ (by decide)]
    exact Hold.of (comp_endI (by assumption) (by assumption) (fun _ h => h) off' (.inr ⟨_, by kcf_m, rfl, _, rfl⟩) rfl)
  · intro ys hy D₂ h tk F' N' off
    clear F2 N2
    have hyl : ys.length = ((List.take 5 ns).map fun x => x % 65536).length := hy.length
    rw [List.length_map] at hyl
    k_steps
    rename News _ _ _ _ => N9
    rename_i c1 c2 
    obtain ⟨cv, N8, hcv⟩ : ∃ cv, News g L' _ [(_, listOf (List.toArray cv) 0), (D₂, LCg.lst ys), (D₁, listOf ws₁.toArray 0)] ∧ IntsAre cv [57187, 46851, 17330, 60052] := ⟨_, N9, .cons _ _ (.cons _ _ (.cons _ _ (.cons _ _ .nil)))⟩
    clear N9
    generalize hcs : ([57187, 46851, 17330, 60052] : List Int) = cs at hcv
    have hcl : cs.length = 4 := by rw [← hcs]; rfl
    have hcl2 : cv.length = 4 := by rw [← hcl]; exact hcv.length
    refine Hold.of ?_
    walk1
    rename_i c3 c4
    refine kmk_slice_ints (vs := cv) (ns := cs) (lo := some ((List.take 5 ns).length : Int)) (hi := none) (ms := cs.drop (List.take 5 ns).length) (c := 4 - (List.take 5 ns).length) c1 N8 ⟨_, (N8 _ List.mem_cons_self).1, rfl, _, rfl⟩ (by kmk_part) (by kmk_part) hcv (kmk_from hcv (by lia)) (by rw [List.length_drop, hcl]) ?_ (by with_unfolding_all rfl) (by kmk_pure) (by rw [sizeLine_eq, List.size_toArray]; lia)
    intro D₃ ws₃ h3 F3 N3 l3 hI₃ hC₃ hL₃
    clear N8 c1
    k_steps
    rename_i D₄ ws₄ h5 hI₄ l4 h6 F4 N4
    have hI₄ : IntsAre ws₄ (drawsL ns) := by unfold drawsL; rw [hcs]; exact hI₄
    have hd5 : (drawsL ns).length ≤ 9 := by unfold drawsL; rw [List.length_append, List.length_map, hcs]; lia
    have hwl4 := hI₄.length
    refine Hold.of (LCg.CompSrc.ledger (its := ws₄.toArray) rfl (by assumption) (by assumption) (by k_mem) (by rw [sizeLine_eq, List.size_toArray]; lia) fun g' => ?_)
    rw [List.size_toArray, hwl4]
    refine comp_items QuadR QuadR.mono (fun i => colQ ((drawsL ns).getD i 0)) ?_ ?_
    · intro i v tl I oI C oC D₅ m₂ ys₂ h tk E' hin hv hC hx F' N' off' ne
      obtain ⟨k, t, rfl, hk⟩ := hI₄.at i v (by simpa using hv)
      have e : (drawsL ns).getD i 0 = k := by rw [List.getD_eq_getElem?_getD, hk]; rfl
      clear F4 N4
      try k_unmd
      k_fold
      k_steps
      rename_i D6 h7 F2 N2 l6
      have e64 : ∀ a : Int, a.fmod 64 = a % 64 := fun a => Int.fmod_eq_emod_of_nonneg a (by decide)
      have e4 : ∀ a : Int, a.fmod 4 = a % 4 := fun a => Int.fmod_eq_emod_of_nonneg a (by decide)
      have d64 : ∀ a : Int, a.fdiv 64 = a / 64 := fun a => Int.fdiv_eq_ediv_of_nonneg a (by decide)
      have d4k : ∀ a : Int, a.fdiv 4096 = a / 4096 := fun a => Int.fdiv_eq_ediv_of_nonneg a (by decide)
      have d16k : ∀ a : Int, a.fdiv 16384 = a / 16384 := fun a => Int.fdiv_eq_ediv_of_nonneg a (by decide)
      rw [e64, d64, e64, d4k, e4, d16k] at N2
      exact Hold.of (comp_endR [(D6, tupO _)] F2 N2 (by kcf_all) off' ⟨⟨Ne.symm (Nat.ne_of_lt l6.1), Ne.symm (Nat.ne_of_lt l6.2.1), Ne.symm (Nat.ne_of_lt l6.2.2.1)⟩, trivial⟩ (fun _ => .inr ⟨_, by kcf_m, rfl, _, rfl⟩) (by show QuadR _ _ (colQ ((drawsL ns).getD i 0)); rw [e]; exact ⟨D6, _, _, _, _, rfl, by kcf_m⟩))
    · intro ys₂ tl hy₂ D₅ h tk F N off'
      clear F4 N4
      k_steps
      rw [range_map_at colQ 0] at hy₂
      exact BodyEnd.mk F N _ (fun _ h => h) ⟨D₅, ys₂, _, rfl, rfl, off1_mem off', hy₂⟩
local macro_rules | `(tactic| walk_at "call ref cons nil") => `(tactic| ((with_reducible show wpAny _ _ (call (Value.ref 86) _) _ _ _); o_head (draws_ ?ki ?kl).reads; (case ki => assumption); (case kl => first | assumption | omega); rintro _ _ _ _ _ _ ap' ⟨l', ys', tl', e1', e2', off', r'⟩; subst e1' e2'; k_data))

-- colours: floats as the model has them
abbrev f1 : UInt64 := 4607182418800017408
abbrev f6 : UInt64 := 4618441417868443648
noncomputable def hsvI (hh : UInt64) : Int := Flt.toInt Float64.truncOf (Float64.mul hh f6)
noncomputable def hsvF (hh ss vv : UInt64) : UInt64 × UInt64 × UInt64 :=
  let f := Float64.sub (Float64.mul hh f6) (Float64.ofInt (hsvI hh))
  let p := Float64.mul vv (Float64.sub f1 ss)
  let q := Float64.mul vv (Float64.sub f1 (Float64.mul ss f))
  let t := Float64.mul vv (Float64.sub f1 (Float64.mul ss (Float64.sub f1 f)))
  if (Float64.cmp ss 0 == some Ordering.eq) = true then (vv, vv, vv)
  else if (hsvI hh).fmod 6 = 0 then (vv, t, p)
  else if (hsvI hh).fmod 6 = 1 then (q, vv, p)
  else if (hsvI hh).fmod 6 = 2 then (p, vv, t)
  else if (hsvI hh).fmod 6 = 3 then (p, q, vv)
  else if (hsvI hh).fmod 6 = 4 then (t, p, vv)
  else (vv, p, q)
set_option maxHeartbeats 1000000 in
theorem hsv2rgb_ {w : World} {p : Program} {loose : List Str} {mean : ExcName → Option Value} {mg mb : Str → Option Value} {hh ss vv : UInt64} {th ts tv : Tok}
   (h1 : Float64.isNaN (Float64.mul hh f6) = false) (h2 : Float64.isInf (Float64.mul hh f6) = false) (h3 : (hsvI hh).natAbs < 1000) :
   Fn w p loose mean mg mb 1 8 53 [.float hh th, .float ss ts, .float vv tv] [] (fun h₀ rest => True)
     (fun r news' => ∃ t R G B ta tb tc, r = .ref t ∧ news' = [(t, tupO #[.float R ta, .float G tb, .float B tc])] ∧ hsvF hh ss vv = (R, G, B)) := by
  unfold Fn
  k_fill
  intro dp un gd cn cns cg cc cm a ccd cl outer A₀ base h₀ L m s news rest Q E B F X N T hd hu hown hrest hap hpre ret
  tb_turn [(Str.ofString "h", Value.float hh th), (Str.ofString "s", Value.float ss ts), (Str.ofString "v", Value.float vv tv)]
  clear ret N F B X T
  intro g L' h₁ tk F' N' B' X' T' st hr
  clear hr st hpre
  dsimp only [bmap, List.reverse, List.reverseAux] at F' ⊢
  try k_unmd
  k_fold
  k_steps
  all_goals first
    | (rename Float64.isNaN _ = true => q; rw [h1] at q; cases q)
    | (rename Float64.isInf _ = true => q; rw [h2] at q; cases q)
    | (rename _ ≤ Int.natAbs _ => q; exact absurd (Nat.le_trans (by decide +kernel) q) (Nat.not_le.mpr h3))
    | (rename News _ _ _ _ => N2; rename Fr _ _ _ _ => F2
       refine BodyEnd.mk F2 N2 [(_, tupO _)] (by k_sub) ⟨_, _, _, _, _, _, _, rfl, rfl, ?_⟩
       unfold hsvF hsvI
       simp only [*, if_true, if_false, Bool.false_eq_true, Int.reduceEq, ne_eq, not_true_eq_false, not_false_eq_true]
       done)
    | skip
  all_goals (
    have b1 := Int.fmod_nonneg_of_pos (Flt.toInt Float64.truncOf (Float64.mul hh 4618441417868443648)) (show (0 : Int) < 6 by decide)
    have b2 := Int.fmod_lt_of_pos (Flt.toInt Float64.truncOf (Float64.mul hh 4618441417868443648)) (show (0 : Int) < 6 by decide)
    generalize (Flt.toInt Float64.truncOf (Float64.mul hh 4618441417868443648)).fmod 6 = z at *
    exfalso
    lia)

noncomputable def fmax2 (a b : UInt64) : UInt64 := if (Float64.cmp a b == some .lt) = true then b else a
noncomputable def fmin2 (a b : UInt64) : UInt64 := if (Float64.cmp b a == some .lt) = true then b else a
section
variable {prog : Program} {w : World} {A : Around} {E : Value → Shared → Prop} {s : Shared} {h₀ : Heap} {L : Addr} {m : Str → Option Value} {news : List (Addr × Obj)} {a b c : UInt64} {t u x : Tok} {Q : Value → Shared → Prop}
theorem max3_f (F : Fr h₀ L s.heap m) (N : News h₀ L s.heap news) (hh : A.handled = none)
    (h : ∀ h' tk v, Fr h₀ L h' m → News h₀ L h' news → Q (.float (fmax2 (fmax2 a b) c) v) { s with heap := h', toks := tk }) :
    wpAny (model prog w) A (call (.builtin "max") [.float a t, .float b u, .float c x]) Q E s := by
  have hT : (s.heap.push { cls := .type "tuple", data := .seq #[.float a t, .float b u, .float c x] }).IsTuple s.heap.objs.size #[.float a t, .float b u, .float c x] := ⟨_, Heap.get?_push_size _ rfl, rfl, 0, rfl⟩
  refine call_max_three (wpAny_pyIter_tuple hT ?_)
  have hsz : (s.heap.push { cls := .type "tuple", data := .seq #[.float a t, .float b u, .float c x] }).objs.size = s.heap.objs.size + 1 := Heap.size_push ..
  refine ⟨_, [_, s.heap.objs.size], [_], _, _, _, _, rfl, Walks.tuple (A := A.in1) hh _ s.heap.objs.size (by rw [hsz]; exact Nat.ne_of_lt (Nat.lt_succ_self _)) #[.float a t, .float b u, .float c x],
    ⟨⟨_, Heap.get?_push_size _ rfl, rfl, rfl⟩, hT.push _⟩, fun d hd => ?_, by simp, Flt.cmpOf_gt #[.float a t, .float b u, .float c x] (by intro v hv; simp at hv; rcases hv with rfl | rfl | rfl <;> exact .float _ _), fun v h' tk hP hk => ?_⟩
  · show d < ((s.heap.push _).push _).objs.size
    rw [Heap.size_push, hsz]
    rcases List.mem_cons.mp hd with rfl | hd
    · rw [hsz]; exact Nat.lt_succ_self _
    · rcases List.mem_cons.mp hd with rfl | hd
      · exact Nat.lt_succ_of_lt (Nat.lt_succ_self _)
      · cases hd
  · have hold : ∀ d o, s.heap.get? d = some o → h'.get? d = some o := fun d o e => by
      refine hk d o (fun hm => ?_) (Heap.get?_push_of_some _ (Heap.get?_push_of_some _ e))
      rcases List.mem_cons.mp hm with e1 | hm
      · have := Heap.lt_size e; rw [e1, hsz] at this; exact Nat.lt_irrefl _ (Nat.lt_of_succ_lt this)
      · cases hm
    have hv : ∃ v', v = Value.float (fmax2 (fmax2 a b) c) v' := by
      unfold fmax2
      cases h1 : (Float64.cmp a b == some Ordering.lt)
      · cases h2 : (Float64.cmp a c == some Ordering.lt) <;> simp [argBest, Flt.ltV, h1, h2] at hP ⊢ <;> exact ⟨_, hP.symm⟩
      · cases h2 : (Float64.cmp b c == some Ordering.lt) <;> simp [argBest, Flt.ltV, h1, h2] at hP ⊢ <;> exact ⟨_, hP.symm⟩
    obtain ⟨v', rfl⟩ := hv
    exact h h' tk v' (F.keeps hold) (N.grown hold)
theorem min3_f (F : Fr h₀ L s.heap m) (N : News h₀ L s.heap news) (hh : A.handled = none)
    (h : ∀ h' tk v, Fr h₀ L h' m → News h₀ L h' news → Q (.float (fmin2 (fmin2 a b) c) v) { s with heap := h', toks := tk }) :
    wpAny (model prog w) A (call (.builtin "min") [.float a t, .float b u, .float c x]) Q E s := by
  have hT : (s.heap.push { cls := .type "tuple", data := .seq #[.float a t, .float b u, .float c x] }).IsTuple s.heap.objs.size #[.float a t, .float b u, .float c x] := ⟨_, Heap.get?_push_size _ rfl, rfl, 0, rfl⟩
  refine call_min_three (wpAny_pyIter_tuple hT ?_)
  have hsz : (s.heap.push { cls := .type "tuple", data := .seq #[.float a t, .float b u, .float c x] }).objs.size = s.heap.objs.size + 1 := Heap.size_push ..
  refine ⟨_, [_, s.heap.objs.size], [_], _, _, _, _, rfl, Walks.tuple (A := A.in1) hh _ s.heap.objs.size (by rw [hsz]; exact Nat.ne_of_lt (Nat.lt_succ_self _)) #[.float a t, .float b u, .float c x],
    ⟨⟨_, Heap.get?_push_size _ rfl, rfl, rfl⟩, hT.push _⟩, fun d hd => ?_, by simp, Flt.cmpOf_lt #[.float a t, .float b u, .float c x] (by intro v hv; simp at hv; rcases hv with rfl | rfl | rfl <;> exact .float _ _), fun v h' tk hP hk => ?_⟩
  · show d < ((s.heap.push _).push _).objs.size
    rw [Heap.size_push, hsz]
    rcases List.mem_cons.mp hd with rfl | hd
    · rw [hsz]; exact Nat.lt_succ_self _
    · rcases List.mem_cons.mp hd with rfl | hd
      · exact Nat.lt_succ_of_lt (Nat.lt_succ_self _)
      · cases hd
  · have hold : ∀ d o, s.heap.get? d = some o → h'.get? d = some o := fun d o e => by
      refine hk d o (fun hm => ?_) (Heap.get?_push_of_some _ (Heap.get?_push_of_some _ e))
      rcases List.mem_cons.mp hm with e1 | hm
      · have := Heap.lt_size e; rw [e1, hsz] at this; exact Nat.lt_irrefl _ (Nat.lt_of_succ_lt this)
      · cases hm
    have hv : ∃ v', v = Value.float (fmin2 (fmin2 a b) c) v' := by
      unfold fmin2
      cases h1 : (Float64.cmp b a == some Ordering.lt)
      · cases h2 : (Float64.cmp c a == some Ordering.lt) <;> simp [argBest, Flt.ltV, h1, h2] at hP ⊢ <;> exact ⟨_, hP.symm⟩
      · cases h2 : (Float64.cmp c b == some Ordering.lt) <;> simp [argBest, Flt.ltV, h1, h2] at hP ⊢ <;> exact ⟨_, hP.symm⟩
    obtain ⟨v', rfl⟩ := hv
    exact h h' tk v' (F.keeps hold) (N.grown hold)
end
local macro_rules | `(tactic| walk_at "call builtin:max") => `(tactic| (k_here; (with_reducible show wpAny _ _ (call (Value.builtin _) [Value.float _ _, Value.float _ _, Value.float _ _]) _ _ _); (with_unfolding_all refine' max3_f ?k1 ?k2 ?k3 ?_; (case k1 => k_asm); (case k2 => k_asm); (case k3 => with_unfolding_all rfl); k_whole); intro h' t' v' F' N'; (try k_sweep)))
local macro_rules | `(tactic| walk_at "call builtin:min") => `(tactic| (k_here; (with_reducible show wpAny _ _ (call (Value.builtin _) [Value.float _ _, Value.float _ _, Value.float _ _]) _ _ _); (with_unfolding_all refine' min3_f ?k1 ?k2 ?k3 ?_; (case k1 => k_asm); (case k2 => k_asm); (case k3 => with_unfolding_all rfl); k_whole); intro h' t' v' F' N'; (try k_sweep)))

noncomputable def hueF (r g b : UInt64) : UInt64 :=
  let mx := fmax2 (fmax2 r g) b
  let mn := fmin2 (fmin2 r g) b
  let rg := Float64.sub mx mn
  let rc := Float64.div (Float64.sub mx r) rg
  let gc := Float64.div (Float64.sub mx g) rg
  let bc := Float64.div (Float64.sub mx b) rg
  if (Float64.cmp mn mx == some Ordering.eq) = true then 0
  else if (Float64.cmp r mx == some Ordering.eq) = true then (Float64.divmod (Float64.div (Float64.sub bc gc) f6) f1).2
  else if (Float64.cmp g mx == some Ordering.eq) = true then (Float64.divmod (Float64.div (Float64.sub (Float64.add 4611686018427387904 rc) bc) f6) f1).2
  else (Float64.divmod (Float64.div (Float64.sub (Float64.add 4616189618054758400 gc) rc) f6) f1).2
noncomputable def HsvOk (r g b : UInt64) : Prop := (Float64.cmp (fmin2 (fmin2 r g) b) (fmax2 (fmax2 r g) b) == some Ordering.eq) = false → Float64.isZero (fmax2 (fmax2 r g) b) = false ∧ Float64.isZero (Float64.sub (fmax2 (fmax2 r g) b) (fmin2 (fmin2 r g) b)) = false
set_option maxHeartbeats 2000000 in
theorem rgb2hsv_ {w : World} {p : Program} {loose : List Str} {mean : ExcName → Option Value} {mg mb : Str → Option Value} {rr gg bl : UInt64} {tr tg tbl : Tok}
   (hz : HsvOk rr gg bl) :
   Fn w p loose mean mg mb 1 8 46 [.float rr tr, .float gg tg, .float bl tbl] [] (fun h₀ rest => True)
     (fun r news' => ∃ t h ta x y, r = .ref t ∧ news' = [(t, tupO #[.float h ta, x, y])] ∧ hueF rr gg bl = h) := by
  unfold Fn
  k_fill
  intro dp un gd cn cns cg cc cm a ccd cl outer A₀ base h₀ L m s news rest Q E B F X N T hd hu hown hrest hap hpre ret
  tb_turn [(Str.ofString "r", Value.float rr tr), (Str.ofString "g", Value.float gg tg), (Str.ofString "b", Value.float bl tbl)]
  clear ret N F B X T
  intro g L' h₁ tk F' N' B' X' T' st hr
  clear hr st hpre
  dsimp only [bmap, List.reverse, List.reverseAux] at F' ⊢
  unfold HsvOk at hz
  try k_unmd
  k_fold
  k_steps
  all_goals first
    | (rename News _ _ _ _ => N2; rename Fr _ _ _ _ => F2
       refine BodyEnd.mk F2 N2 [(_, tupO _)] (by k_sub) ⟨_, _, _, _, _, rfl, rfl, ?_⟩
       unfold hueF
       simp only [*, if_true, if_false, Bool.false_eq_true]
       done)
    | skip
  all_goals (
    exfalso
    rename Float64.isZero _ = true => q
    have hz' := hz (by assumption)
    simp_all)

noncomputable def HlsOk (r g b : UInt64) : Prop := (Float64.cmp (fmin2 (fmin2 r g) b) (fmax2 (fmax2 r g) b) == some Ordering.eq) = false → Float64.isZero (Float64.add (fmax2 (fmax2 r g) b) (fmin2 (fmin2 r g) b)) = false ∧ Float64.isZero (Float64.sub (fmax2 (fmax2 r g) b) (fmin2 (fmin2 r g) b)) = false ∧ Float64.isZero (Float64.sub (Float64.sub 4611686018427387904 (fmax2 (fmax2 r g) b)) (fmin2 (fmin2 r g) b)) = false
set_option maxHeartbeats 2000000 in
theorem rgb2hls_ {w : World} {p : Program} {loose : List Str} {mean : ExcName → Option Value} {mg mb : Str → Option Value} {rr gg bl : UInt64} {tr tg tbl : Tok}
   (hz : HlsOk rr gg bl) :
   Fn w p loose mean mg mb 1 8 39 [.float rr tr, .float gg tg, .float bl tbl] [] (fun h₀ rest => True)
     (fun r news' => ∃ t h ta x y, r = .ref t ∧ news' = [(t, tupO #[.float h ta, x, y])] ∧ hueF rr gg bl = h) := by
  unfold Fn
  k_fill
  intro dp un gd cn cns cg cc cm a ccd cl outer A₀ base h₀ L m s news rest Q E B F X N T hd hu hown hrest hap hpre ret
  tb_turn [(Str.ofString "r", Value.float rr tr), (Str.ofString "g", Value.float gg tg), (Str.ofString "b", Value.float bl tbl)]
  clear ret N F B X T
  intro g L' h₁ tk F' N' B' X' T' st hr
  clear hr st hpre
  dsimp only [bmap, List.reverse, List.reverseAux] at F' ⊢
  unfold HlsOk at hz
  try k_unmd
  k_fold
  k_steps
  all_goals first
    | (rename News _ _ _ _ => N2; rename Fr _ _ _ _ => F2
       refine BodyEnd.mk F2 N2 [(_, tupO _)] (by k_sub) ⟨_, _, _, _, _, rfl, rfl, ?_⟩
       unfold hueF
       simp only [*, if_true, if_false, Bool.false_eq_true]
       done)
    | skip
  all_goals (
    exfalso
    rename Float64.isZero _ = true => q
    have hz' := hz (by assumption)
    simp_all)

-- comprehensions whose target is a tuple of names, over a list of tuples
section
variable {prog : Program} {w : World} {A : Around} {E : Value → Shared → Prop} {s : Shared} {h₀ : Heap} {L : Addr} {m : Str → Option Value} {env : Env}
/-- the target's names get a tuple's items -/
noncomputable def Binds (prog : Program) (w : World) (A : Around) (env : Env) (elts : List PySem.Expr) (x1 : Nat) (tp : Pos) (scope : Scope) (cl : List (Str × Addr)) (Bd : (Str → Option Value) → Array Value → Prop) (V : Array Value → Prop) : Prop :=
  ∀ (C t : Addr) (vs : Array Value) (m' : Str → Option Value) (s : Shared) (Q : Unit → Shared → Prop) (E : Value → Shared → Prop), V vs → IsTup s.heap t vs → s.heap.Ns C m' →
    (∀ h₃ m₃ tk, h₃.Ns C m₃ → Bd m₃ vs → (∀ b o, b ≠ C → s.heap.get? b = some o → h₃.get? b = some o) → Q () { s with heap := h₃, toks := tk }) →
    wpAny (model prog w) A (assign (.Tuple elts x1 tp) (compEnvC scope cl C env) (.ref t)) Q E s
noncomputable def RestN (prog : Program) (w : World) (A : Around) (h₀ : Heap) (L : Addr) (m : Str → Option Value) (env : Env) (elt : PySem.Expr) (Bd : (Str → Option Value) → Array Value → Prop) (V : Array Value → Prop) (scope : Scope) (cl : List (Str × Addr)) (s : Shared) (S : List (Addr × Obj) → Prop) (P : Nat → Value → Prop)
    (Fin : List Value → List (Addr × Obj) → Prop) : Nat → Nat → List Value → List (Addr × Obj) → Prop
  | 0, _, ys, news => Fin ys news
  | k + 1, i, ys, news => ∀ v, P i v → ∃ (t : Addr) (ot : Obj) (vs : Array Value) (nt : Nat), v = .ref t ∧ (t, ot) ∈ news ∧ ot.cls = .type "tuple" ∧ ot.data = .seq vs nt ∧ V vs ∧
      ∀ I oI C oC D m₂ h tk (E' : Value → Shared → Prop), LCg.NsObj oC m₂ → Bd m₂ vs → Fr h₀ L h m → News h₀ L h ((I, oI) :: (C, oC) :: (D, LCg.lst ys) :: news) → LCg.Off3 I C D news → ((@Ne Nat I C) ∧ (@Ne Nat I D) ∧ (@Ne Nat C D)) →
      wpAny (model prog w) A (eval elt (compEnvC scope cl C env)) (LCg.CompEnd h₀ L m { s with heap := h, toks := tk } I oI C oC D (LCg.lst ys) S (fun y news' => RestN prog w A h₀ L m env elt Bd V scope cl s S P Fin k (i + 1) (ys ++ [y]) news')) E' { s with heap := h, toks := tk }
noncomputable def SrcN (prog : Program) (w : World) (A : Around) (h₀ : Heap) (L : Addr) (m : Str → Option Value) (env : Env) (elt : PySem.Expr) (Bd : (Str → Option Value) → Array Value → Prop) (V : Array Value → Prop) (scope : Scope) (cl : List (Str × Addr)) (Fin : Shared → List Value → List (Addr × Obj) → Prop) (xv : Value) (s₁ : Shared) : Prop :=
  ∃ ax its news, xv = .ref ax ∧ A.handled = none ∧ Fr h₀ L s₁.heap m ∧ News h₀ L s₁.heap news ∧ LCg.SrcAt h₀ ax its news ∧ its.size ≤ sizeLine ∧
    ∀ s₂ : Shared, (∃ h, s₂ = { s₁ with heap := h }) → RestN prog w A h₀ L m env elt Bd V scope cl s₂ (LCg.SrcAt h₀ ax its) (fun i v => its[i]? = some v) (Fin s₂) its.size 0 [] news
theorem blockN {elts : List PySem.Expr} {x1 : Nat} {tp : Pos} {elt iter : PySem.Expr} {Bd : (Str → Option Value) → Array Value → Prop} {V : Array Value → Prop} {scope : Scope} {cl : List (Str × Addr)} {pos : Pos} {s₂ : Shared} {ax I : Addr} {its : Array Value} {news : List (Addr × Obj)}
    {Fin : List Value → List (Addr × Obj) → Prop} {RR : Value → Addr → Result → Shared → Prop} (hB : Binds prog w A env elts x1 tp scope cl Bd V)
    (hsz : its.size ≤ sizeLine) (hcell : ∀ y ∈ scope.names, y.2 ≠ .cell) (hkind : scope.kind = .function) (hh : A.handled = none) (hax : @Ne Nat ax I) (hst : s₂.heap.IsListIter I ax 0 ∧ s₂.heap.IsList ax its)
    (F : Fr h₀ L s₂.heap m) (N : News h₀ L s₂.heap news) (hIL : L ≠ I) (hI₀ : h₀.get? I = none) (off : ∀ p ∈ news, p.1 ≠ I) (hS : LCg.SrcAt h₀ ax its news)
    (R : RestN prog w A h₀ L m env elt Bd V scope cl s₂ (LCg.SrcAt h₀ ax its) (fun i v => its[i]? = some v) Fin its.size 0 [] news)
    (hRR : ∀ D C h tk m' ys news', Fr h₀ L h m → News h₀ L h ((D, LCg.lst ys) :: news') → LCg.Off1 D news' → h.Ns C m' → h₀.get? C = none → h₀.get? D = none → C ≠ L → D ≠ L → C ≠ D → (∀ p ∈ news', p.1 ≠ C) → Fin ys news' → RR (.ref D) C (.ok .next) { s₂ with heap := h, toks := tk }) :
    wpAny (model prog w) A (newList []) (fun acc s₃ => wpAny (model prog w) A (newFunctionEnv scope env.globals cl [] env.qual none .none (some env)) (fun cenv s₄ =>
      codeAny (model prog w) A (.compStart (.ListComp elt [⟨.Tuple elts x1 tp, iter, [], 0⟩] scope pos) 0 (.ref I) acc { cenv with scope := relabel scope env }) (RR acc cenv.locals) s₄) E s₃) E s₂ := by
  have W := Walks.list (prog := prog) (w := w) hh I ax hax its
  have hHt : ∀ b o, s₂.heap.get? b = some o → b < s₂.heap.objs.size := fun b o e => Heap.lt_size e
  have hIlt : I < s₂.heap.objs.size := by obtain ⟨o, e, _⟩ := hst.1; exact hHt _ _ e
  have haxlt : ax < s₂.heap.objs.size := by obtain ⟨o, e, _⟩ := hst.2; exact hHt _ _ e
  have hLlt : L < s₂.heap.objs.size := F.ns.lt
  refine wpAny_newObj_type (wpAny_newFunctionEnv hcell (by intro y hy; simp at hy) (fun h₁ hns₁ hsb₁ => ?_) hkind)
  dsimp only at hns₁ hsb₁ ⊢
  generalize hH2 : s₂.heap.push { cls := .type "list", dict := none, data := .seq ([] : List Value).toArray } = H2 at hns₁ hsb₁ ⊢
  obtain ⟨D, hDd⟩ : ∃ D : Nat, s₂.heap.objs.size = D := ⟨_, rfl⟩
  obtain ⟨C, hCd⟩ : ∃ C : Nat, H2.objs.size = C := ⟨_, rfl⟩
  have hIlt : @LT.lt Nat _ I D := hDd ▸ hIlt
  have haxlt : @LT.lt Nat _ ax D := hDd ▸ haxlt
  have hLlt : @LT.lt Nat _ L D := hDd ▸ hLlt
  rw [hCd] at hns₁ hsb₁
  have hC : C = D + 1 := by rw [← hCd, ← hDd, ← hH2, Heap.size_push]
  have up : ∀ b o, s₂.heap.get? b = some o → H2.get? b = some o := fun b o e => hH2 ▸ Heap.get?_push_of_some _ e
  have small : ∀ b, b < D → @Ne Nat b C ∧ @Ne Nat b D := fun b hb => ⟨by lia, by lia⟩
  have lt : ∀ b o, s₂.heap.get? b = some o → b < D := fun b o e => hDd ▸ hHt b o e
  have old : ∀ b o, s₂.heap.get? b = some o → h₁.get? b = some o := fun b o e => hsb₁.extBut b o (small b (lt b o e)).1 (Heap.get?_push_of_some _ (up b o e))
  have hDC : @Ne Nat D C := by lia
  have hacc : h₁.get? D = some (LCg.lst []) := hsb₁.extBut _ _ hDC (Heap.get?_push_of_some _ (hH2 ▸ hDd ▸ Heap.get?_push_size _ rfl))
  have fresh₀ : ∀ a, D ≤ a → h₀.get? a = none := fun a ha => by
    cases e : h₀.get? a with
    | none => rfl
    | some o' => exact absurd (lt _ _ (F.keep a o' e)) (Nat.not_lt.mpr ha)
  have hD₀ := fresh₀ D (Nat.le_refl _)
  have hC₀ := fresh₀ C (by lia)
  have hDL : @Ne Nat D L := by lia
  have hCL : @Ne Nat C L := by lia
  have hIC : @Ne Nat I C := by lia
  have hID : @Ne Nat I D := by lia
  have haD : @Ne Nat ax D := by lia
  have haC : @Ne Nat ax C := by lia
  have off₀ : LCg.Off3 I C D news := LCg.Off3.of fun p hp => ⟨off p hp, (small _ (lt _ _ (N p hp).1)).1, (small _ (lt _ _ (N p hp).1)).2⟩
  have hst₁ : h₁.IsListIter I ax 0 ∧ h₁.IsList ax its := W.frame 0 _ _ hst fun b _ o e => old b o e
  have loop : ∀ s₃ : Shared, s₃ = { s₂ with heap := h₁, toks := s₂.toks + ([] : List (Str × Value)).length } →
      codeAny (model prog w) A (.compLoop (.ListComp elt [⟨.Tuple elts x1 tp, iter, [], 0⟩] scope pos) 0 (.ref I) (.ref D) (compEnvC scope cl C env)) (RR (.ref D) C) s₃ := by
    rintro s₃ rfl
    refine LCp.codeAny_compLoop_pair
      (fun k s' => ∃ h' tk i ys m' news', s' = { s₂ with heap := h', toks := tk } ∧ i ≤ its.size ∧ k = its.size + 1 - i ∧ ys.length = i ∧ (h'.IsListIter I ax i ∧ h'.IsList ax its) ∧ Fr h₀ L h' m ∧ h'.Ns C m' ∧ News h₀ L h' ((D, LCg.lst ys) :: news') ∧
        LCg.Off3 I C D news' ∧ LCg.SrcAt h₀ ax its news' ∧ RestN prog w A h₀ L m env elt Bd V scope cl s₂ (LCg.SrcAt h₀ ax its) (fun i v => its[i]? = some v) Fin (its.size - i) i ys news') ?_ (its.size + 1)
      ⟨h₁, _, 0, [], _, news, rfl, Nat.zero_le _, rfl, rfl, hst₁, F.keeps old, hns₁, fun p hp => ?_, off₀, hS, R⟩
    · rintro k s' ⟨h', tk, i, ys, m', news', rfl, hi, rfl, hyl, hst', F', hn', N', off', hS', R'⟩
      have off3 := off'.mem
      by_cases hlt : i < its.size
      · obtain ⟨j, hj⟩ : ∃ j, its.size - i = j + 1 := ⟨its.size - i - 1, by lia⟩
        rw [hj] at R'
        refine W.item i _ _ _ hlt hst' fun v h₂ tk₂ hPv hst₂ hk₂ => ?_
        obtain ⟨t, ot, vs, nt, rfl, hmt, hct, hdt, hV, R''⟩ := R' v hPv
        have N₂ : News h₀ L h₂ ((D, LCg.lst ys) :: news') := LCg.news_but N' hk₂ fun p hp => by
          rcases List.mem_cons.mp hp with rfl | hp
          · exact Ne.symm hID
          · exact (off3 p hp).1
        have ht : IsTup h₂ t vs := ⟨ot, (N₂ _ (List.mem_cons_of_mem _ hmt)).1, hct, nt, hdt⟩
        refine wpAny_letOwnedTupleGo_listiter hst₂.1 ?_
        refine hB C t vs m' _ _ _ hV ht (hn'.at' fun o e => hk₂ _ o (by simpa using Ne.symm hIC) e) fun h₃ m₃ tk₃ hn₃ hBd old3 => ?_
        dsimp only at old3 ⊢
        have hst₃ : h₃.IsListIter I ax (i + 1) ∧ h₃.IsList ax its := W.frame _ _ _ hst₂ fun b hb o e => old3 b o (fun q => by
          rcases List.mem_cons.mp hb with e1 | hb
          · exact hIC (e1.symm.trans q)
          · exact haC ((List.mem_singleton.mp hb).symm.trans q)) e
        obtain ⟨oI, heI⟩ : ∃ oI, h₃.get? I = some oI := by obtain ⟨o, e, _⟩ := hst₃.1; exact ⟨o, e⟩
        obtain ⟨oC, heC, hoC⟩ := LCg.ns_obj hn₃
        have F₃ : Fr h₀ L h₃ m := (LCg.fr_but F' hk₂ hIL hI₀) |> fun F₂ => ⟨F₂.ns.at' fun o e => old3 _ o (Ne.symm hCL) e, fun b o e => old3 b o (fun q => by rw [q, hC₀] at e; cases e) (F₂.keep b o e), F₂.above⟩
        have N₃ : News h₀ L h₃ ((I, oI) :: (C, oC) :: (D, LCg.lst ys) :: news') := fun p hp => by
          rcases List.mem_cons.mp hp with rfl | hp
          · exact ⟨heI, Ne.symm hIL, hI₀⟩
          rcases List.mem_cons.mp hp with rfl | hp
          · exact ⟨heC, hCL, hC₀⟩
          have z := N₂ p hp
          refine ⟨old3 _ _ ?_ z.1, z.2⟩
          rcases List.mem_cons.mp hp with rfl | hp
          · exact hDC
          · exact (off3 p hp).2.1
        refine wpAny_mono (R'' I oI C oC D _ h₃ _ _ hoC hBd F₃ N₃ off' ⟨hIC, hID, Ne.symm hDC⟩) (fun y s₄ h₄ => ?_) fun _ _ e => e
        obtain ⟨h₄, tk₄, news₄, rfl, F₄, N₄, off₄, hS₄, R₄⟩ := h₄
        have zI := (N₄ (I, oI) List.mem_cons_self).1
        have zC := (N₄ (C, oC) (List.mem_cons_of_mem _ List.mem_cons_self)).1
        have zD := (N₄ (D, LCg.lst ys) (List.mem_cons_of_mem _ (List.mem_cons_of_mem _ List.mem_cons_self))).1
        have N₄' : News h₀ L h₄ news₄ := fun p hp => N₄ p (List.mem_cons_of_mem _ (List.mem_cons_of_mem _ (List.mem_cons_of_mem _ hp)))
        have hst₄ := LCg.list_st (h₀ := h₀) (L := L) _ _ _ _ _ hst₃ heI zI F₄.keep N₄' hS₄
        refine append_at (hsz := by show ys.toArray.size ≤ sizeLine; rw [List.size_toArray, hyl]; exact Nat.le_trans hi hsz) zD fun h₅ hs₅ hD₅ => ?_
        have off4 := off₄.mem
        refine ⟨its.size + 1 - (i + 1), by lia, h₅, tk₄, i + 1, ys ++ [y], _, news₄, rfl, hlt, rfl, by rw [List.length_append, List.length_singleton, hyl], W.frame _ _ _ hst₄ fun b hb o e => hs₅.extBut b o (fun q => ?_) e, F₄.change hs₅ hDL hD₀,
          (hoC.ns zC).sameBut hs₅ (Ne.symm hDC), fun p hp => ?_, off₄, hS₄, ?_⟩
        · rcases List.mem_cons.mp hb with e1 | hb
          · exact hID (e1.symm.trans q)
          · exact haD ((List.mem_singleton.mp hb).symm.trans q)
        · rcases List.mem_cons.mp hp with rfl | hp
          · exact ⟨hD₅.trans (congrArg some (LCg.lst_snoc ys y)), hDL, hD₀⟩
          · exact ⟨hs₅.extBut _ _ (off4 p hp).2.2 (N₄' p hp).1, (N₄' p hp).2⟩
        · rw [show its.size - (i + 1) = j by lia]
          exact R₄
      · obtain rfl : i = its.size := Nat.le_antisymm hi (Nat.not_lt.mp hlt)
        rw [Nat.sub_self] at R'
        refine W.done _ _ _ hst' fun h₂ tk₂ hk₂ => ?_
        exact hRR _ _ h₂ tk₂ _ ys news' (LCg.fr_but F' hk₂ hIL hI₀) (LCg.news_but N' hk₂ fun p hp => by
          rcases List.mem_cons.mp hp with rfl | hp
          · exact Ne.symm hID
          · exact (off3 p hp).1) off'.one (hn'.at' fun o e => hk₂ _ o (by simpa using Ne.symm hIC) e) hC₀ hD₀ hCL hDL (Ne.symm hDC) (fun p hp => (off3 p hp).2.1) R'
    · rcases List.mem_cons.mp hp with rfl | hp
      · exact ⟨hacc, hDL, hD₀⟩
      · exact ⟨old _ _ (N p hp).1, (N p hp).2⟩
  have fin := codeAny_compStart_list (loop _ rfl) (W.self 0 _ _ _ hst₁ (loop _ rfl))
  rw [← hDd, ← hCd] at fin
  exact fin
theorem srcN_iter {elts : List PySem.Expr} {x1 : Nat} {tp : Pos} {elt iter : PySem.Expr} {Bd : (Str → Option Value) → Array Value → Prop} {V : Array Value → Prop} {scope : Scope} {cl : List (Str × Addr)} {pos : Pos} {Fin : Shared → List Value → List (Addr × Obj) → Prop} {RR : Value → Addr → Result → Shared → Prop} {xv : Value} {s₁ : Shared}
    (hB : Binds prog w A env elts x1 tp scope cl Bd V) (hcell : ∀ y ∈ scope.names, y.2 ≠ .cell) (hkind : scope.kind = .function) (h₁ : SrcN prog w A h₀ L m env elt Bd V scope cl Fin xv s₁)
    (hRR : ∀ s₂ : Shared, (∃ h, s₂ = { s₁ with heap := h }) → ∀ D C h tk m' ys news', Fr h₀ L h m → News h₀ L h ((D, LCg.lst ys) :: news') → LCg.Off1 D news' → h.Ns C m' → h₀.get? C = none → h₀.get? D = none → C ≠ L → D ≠ L → C ≠ D → (∀ p ∈ news', p.1 ≠ C) → Fin s₂ ys news' → RR (.ref D) C (.ok .next) { s₂ with heap := h, toks := tk }) :
    wpAny (model prog w) A (pyIter xv) (fun it s₂ => wpAny (model prog w) A (newList []) (fun acc s₃ => wpAny (model prog w) A (newFunctionEnv scope env.globals cl [] env.qual none .none (some env)) (fun cenv s₄ =>
      codeAny (model prog w) A (.compStart (.ListComp elt [⟨.Tuple elts x1 tp, iter, [], 0⟩] scope pos) 0 it acc { cenv with scope := relabel scope env }) (RR acc cenv.locals) s₄) E s₃) E s₂) E s₁ := by
  obtain ⟨ax, its, news, rfl, hh, F, N, S, hsz, R⟩ := h₁
  have hl := S.list F.keep N
  have hlt : ax < s₁.heap.objs.size := by obtain ⟨_, e, _⟩ := hl; exact Heap.lt_size e
  refine wpAny_pyIter_list hl ?_
  have up : ∀ b o, s₁.heap.get? b = some o → (s₁.heap.push { cls := .type "list_iterator", data := .fields #[.ref ax, .int 0 0] }).get? b = some o := fun b o e => Heap.get?_push_of_some _ e
  exact blockN hB hsz hcell hkind hh (Nat.ne_of_lt hlt) ⟨⟨_, Heap.get?_push_size _ rfl, rfl, rfl⟩, hl.push _⟩ (F.keeps up) (N.grown up) (Nat.ne_of_lt F.ns.lt) (next_is_new F) (fun p hp => Nat.ne_of_lt (Heap.lt_size (N p hp).1)) S (R _ ⟨_, rfl⟩) (hRR _ ⟨_, rfl⟩)
theorem ListComp_N {elts : List PySem.Expr} {x1 : Nat} {tp : Pos} {elt iter : PySem.Expr} {Bd : (Str → Option Value) → Array Value → Prop} {V : Array Value → Prop} {scope : Scope} {cl : List (Str × Addr)} {pos : Pos} {Q : Value → Shared → Prop} (F₀ : Fr h₀ L s.heap m)
    (hclos : closureFor scope env = pure cl) (hcell : ∀ y ∈ scope.names, y.2 ≠ .cell) (hkind : scope.kind = .function) (hnames : ∀ y ∈ scope.names, y.2 = .local → scope.names.lookup y.1 = some .local)
    (hB : Binds prog w A env elts x1 tp scope cl Bd V)
    (h : wpAny (model prog w) A (eval iter env) (SrcN prog w A h₀ L m env elt Bd V scope cl (fun s₂ => LCg.FinE h₀ L m s₂ Q)) E s)
    (hs : ∀ x, foldedSetIterable iter env x = pure x := by intro _; rfl) :
    wpAny (model prog w) A (eval (.ListComp elt [⟨.Tuple elts x1 tp, iter, [], 0⟩] scope pos) env) Q E s := by
  rw [eval_ListComp]
  refine wpAny_comprehension_free (use := none) rfl hs hclos hkind hnames (wpAny_mono h (fun xv s₁ h₁ => ?_) fun _ _ e => e)
  refine srcN_iter hB hcell hkind h₁ ?_
  intro s₂ _ D C h tk m' ys news' F' N' o1 hn hC₀ hD₀ hCL hDL hCD offC fin
  refine ⟨m', hn, fun h'' hs'' => fin D h'' tk (F'.change hs'' hCL hC₀) (fun p hp => ?_) o1⟩
  refine ⟨hs''.extBut _ _ ?_ (N' p hp).1, (N' p hp).2⟩
  rcases List.mem_cons.mp hp with rfl | hp
  · exact Ne.symm hCD
  · exact offC p hp
theorem Assign_ListComp_N {elts : List PySem.Expr} {x1 : Nat} {tp : Pos} {elt iter : PySem.Expr} {Bd : (Str → Option Value) → Array Value → Prop} {V : Array Value → Prop} {y : Str} {py : Pos} {scope : Scope} {cl : List (Str × Addr)} {pos spos : Pos} {Q : Flow → Shared → Prop} (F₀ : Fr h₀ L s.heap m) (hLe : env.locals = L)
    (hsw : swapsWith (.ListComp elt [⟨.Tuple elts x1 tp, iter, [], 0⟩] scope pos) (some (.Name y py)) spos.line env = pure true)
    (hclos : closureFor scope env = pure cl) (hcell : ∀ z ∈ scope.names, z.2 ≠ .cell) (hkind : scope.kind = .function)
    (hnames : ∀ z ∈ scope.names, z.2 = .local → scope.names.lookup z.1 = some .local)
    (hB : Binds prog w A env elts x1 tp scope cl Bd V)
    (hy : env.kindOf y = some .local) (hp : (env.scope.kind == .class || (env.scope.kind == .module && env.locals != env.globals)) = false)
    (h : wpAny (model prog w) A (eval iter env) (SrcN prog w A h₀ L m env elt Bd V scope cl (fun s₂ => LCg.FinA h₀ L m s₂ y Q)) E s)
    (hs : ∀ x, foldedSetIterable iter env x = pure x := by intro _; rfl) :
    wpAny (model prog w) A (exec (.Assign [.Name y py] (.ListComp elt [⟨.Tuple elts x1 tp, iter, [], 0⟩] scope pos) spos) env) Q E s := by
  subst hLe
  rw [exec_Assign_Name_used _ _ _ _ hsw]
  refine wpAny_bind (wpAny_standAt (wpAny_bind ?_))
  show wpAny _ A (do let _ ← comprehension (.ListComp elt [⟨.Tuple elts x1 tp, iter, [], 0⟩] scope pos) scope env _ (newList []) false (eval iter env) (some (assign (.Name y py) env))) _ _ s
  refine wpAny_bind (wpAny_mono (wpAny_comprehension_free (use := some (assign (.Name y py) env)) (Q := fun _ s' => Q .next s') rfl hs hclos hkind hnames
    (wpAny_mono h (fun xv s₁ h₁ => ?_) fun _ _ e => e)) (fun _ s' hq => wpAny_pure (wpAny_pure hq)) fun _ _ e => e)
  refine srcN_iter hB hcell hkind h₁ ?_
  intro s₂ _ D C h' tk m' ys news' F' N' o1 hn hC₀ hD₀ hCL hDL hCD offC fin
  show wpAny _ A (assign (.Name y py) env (.ref D)) _ _ _
  refine wpAny_assign_Name (wpAny_storeName_local hy F'.ns (fun h₂ hn₂ hs₂ => ?_) hp)
  have hL₀ : h₀.get? env.locals = none := Heap.get?_none_of_le F'.above
  have F₂ : Fr h₀ env.locals h₂ (fun z => if z = y then some (.ref D) else m z) := ⟨hn₂, fun b o e => hs₂.extBut b o (fun q => by rw [q, hL₀] at e; cases e) (F'.keep b o e), F'.above⟩
  refine ⟨m', hn.sameBut hs₂ hCL, fun h'' hs'' => fin D h'' _ (F₂.change hs'' hCL hC₀) (fun p hp => ?_) o1⟩
  have z : h₂.get? p.1 = some p.2 := hs₂.extBut _ _ (N' p hp).2.1 (N' p hp).1
  refine ⟨hs''.extBut _ _ ?_ z, (N' p hp).2⟩
  rcases List.mem_cons.mp hp with rfl | hp
  · exact Ne.symm hCD
  · exact offC p hp
theorem SrcN.ledger {elt : PySem.Expr} {Bd : (Str → Option Value) → Array Value → Prop} {V : Array Value → Prop} {scope : Scope} {cl : List (Str × Addr)} {Fin : Shared → List Value → List (Addr × Obj) → Prop} {ax : Addr} {its : Array Value} {k : Nat} {news : List (Addr × Obj)} {s₁ : Shared}
    (hh : A.handled = none) (F : Fr h₀ L s₁.heap m) (N : News h₀ L s₁.heap news) (hm : (ax, ({ cls := .type "list", data := .seq its k } : Obj)) ∈ news) (hsz : its.size ≤ sizeLine)
    (h : ∀ g, RestN prog w A h₀ L m env elt Bd V scope cl { s₁ with heap := g } (LCg.SrcAt h₀ ax its) (fun i v => its[i]? = some v) (Fin { s₁ with heap := g }) its.size 0 [] news) :
    SrcN prog w A h₀ L m env elt Bd V scope cl Fin (.ref ax) s₁ := ⟨ax, its, news, rfl, hh, F, N, .inr ⟨_, hm, rfl, _, rfl⟩, hsz, fun _ ⟨g, e⟩ => e ▸ h g⟩
-- the names: two, three, four
theorem store_step {C : Addr} {m' : Str → Option Value} {scope : Scope} {cl : List (Str × Addr)} {n : Str} {pn : Pos} {v : Value} {s : Shared} {Q : Unit → Shared → Prop} (hkind : scope.kind = .function) (hx : scope.names.lookup n = some .local) (hn : s.heap.Ns C m')
    (h : ∀ h₃ tk, h₃.Ns C (fun z => if z = n then some v else m' z) → (∀ b o, b ≠ C → s.heap.get? b = some o → h₃.get? b = some o) → Q () { s with heap := h₃, toks := tk }) :
    wpAny (model prog w) A (assign (.Name n pn) (compEnvC scope cl C env) v) Q E s :=
  wpAny_assign_Name (wpAny_storeName_local (lookup_relabel_local hx) hn (fun h₆ hn₆ hs₆ => h h₆ _ hn₆ fun b o hb e => hs₆.extBut b o hb e) (by simp [compEnvC, relabel, hkind]))
theorem binds_4 {a b c d : Str} {pa pb pc pd tp : Pos} {x1 : Nat} {scope : Scope} {cl : List (Str × Addr)} (hh : A.handled = none) (hkind : scope.kind = .function) (ha : scope.names.lookup a = some .local) (hb : scope.names.lookup b = some .local) (hc : scope.names.lookup c = some .local) (hd : scope.names.lookup d = some .local)
    (hne : [a, b, c, d].Nodup) : Binds prog w A env [.Name a pa, .Name b pb, .Name c pc, .Name d pd] x1 tp scope cl (fun m₂ vs => ∃ v₁ v₂ v₃ v₄, vs = #[v₁, v₂, v₃, v₄] ∧ m₂ a = some v₁ ∧ m₂ b = some v₂ ∧ m₂ c = some v₃ ∧ m₂ d = some v₄) (fun vs => ∃ v₁ v₂ v₃ v₄, vs = #[v₁, v₂, v₃, v₄]) := by
  rintro C t _ m' s Q E ⟨v₁, v₂, v₃, v₄, rfl⟩ ht hn h
  simp only [List.nodup_cons, List.mem_cons, List.not_mem_nil, or_false, not_or, List.nodup_nil, and_true, not_false_eq_true] at hne
  obtain ⟨⟨n1, n2, n3⟩, ⟨n4, n5⟩, n6⟩ := hne
  refine assign_Tuple_tuple hh ht rfl rfl fun h₅ he => ?_
  have k5 : ∀ b o, s.heap.get? b = some o → h₅.get? b = some o := fun b o e => he b o (Nat.ne_of_lt (Heap.lt_size e)) e
  refine assignInOrder_cons (store_step hkind ha (hn.at' fun o e => k5 _ o e) fun h₆ _ hn₆ k6 => ?_)
  refine assignInOrder_cons (store_step hkind hb hn₆ fun h₇ _ hn₇ k7 => ?_)
  refine assignInOrder_cons (store_step hkind hc hn₇ fun h₈ _ hn₈ k8 => ?_)
  refine assignInOrder_cons (store_step hkind hd hn₈ fun h₉ _ hn₉ k9 => assignInOrder_nil ?_)
  exact h h₉ _ _ hn₉ ⟨v₁, v₂, v₃, v₄, rfl, by simp [n1, n2, n3], by simp [n4, n5], by simp [n6], by simp⟩ fun b o hb e => k9 b o hb (k8 b o hb (k7 b o hb (k6 b o hb (k5 b o e))))
theorem binds_3 {a b c : Str} {pa pb pc tp : Pos} {x1 : Nat} {scope : Scope} {cl : List (Str × Addr)} (hh : A.handled = none) (hkind : scope.kind = .function) (ha : scope.names.lookup a = some .local) (hb : scope.names.lookup b = some .local) (hc : scope.names.lookup c = some .local)
    (hne : [a, b, c].Nodup) : Binds prog w A env [.Name a pa, .Name b pb, .Name c pc] x1 tp scope cl (fun m₂ vs => ∃ v₁ v₂ v₃, vs = #[v₁, v₂, v₃] ∧ m₂ a = some v₁ ∧ m₂ b = some v₂ ∧ m₂ c = some v₃) (fun vs => ∃ v₁ v₂ v₃, vs = #[v₁, v₂, v₃]) := by
  rintro C t _ m' s Q E ⟨v₁, v₂, v₃, rfl⟩ ht hn h
  simp only [List.nodup_cons, List.mem_cons, List.not_mem_nil, or_false, not_or, List.nodup_nil, and_true, not_false_eq_true] at hne
  obtain ⟨⟨n1, n2⟩, n3⟩ := hne
  refine assign_Tuple_tuple hh ht rfl rfl fun h₅ he => ?_
  have k5 : ∀ b o, s.heap.get? b = some o → h₅.get? b = some o := fun b o e => he b o (Nat.ne_of_lt (Heap.lt_size e)) e
  refine assignInOrder_cons (store_step hkind ha (hn.at' fun o e => k5 _ o e) fun h₆ _ hn₆ k6 => ?_)
  refine assignInOrder_cons (store_step hkind hb hn₆ fun h₇ _ hn₇ k7 => ?_)
  refine assignInOrder_cons (store_step hkind hc hn₇ fun h₈ _ hn₈ k8 => assignInOrder_nil ?_)
  exact h h₈ _ _ hn₈ ⟨v₁, v₂, v₃, rfl, by simp [n1, n2], by simp [n3], by simp⟩ fun b o hb e => k8 b o hb (k7 b o hb (k6 b o hb (k5 b o e)))
theorem binds_2 {a b : Str} {pa pb tp : Pos} {x1 : Nat} {scope : Scope} {cl : List (Str × Addr)} (hh : A.handled = none) (hkind : scope.kind = .function) (ha : scope.names.lookup a = some .local) (hb : scope.names.lookup b = some .local)
    (hne : [a, b].Nodup) : Binds prog w A env [.Name a pa, .Name b pb] x1 tp scope cl (fun m₂ vs => ∃ v₁ v₂, vs = #[v₁, v₂] ∧ m₂ a = some v₁ ∧ m₂ b = some v₂) (fun vs => ∃ v₁ v₂, vs = #[v₁, v₂]) := by
  rintro C t _ m' s Q E ⟨v₁, v₂, rfl⟩ ht hn h
  simp only [List.nodup_cons, List.mem_cons, List.not_mem_nil, or_false, not_or, List.nodup_nil, and_true, not_false_eq_true] at hne
  refine assign_Tuple_tuple hh ht rfl rfl fun h₅ he => ?_
  have k5 : ∀ b o, s.heap.get? b = some o → h₅.get? b = some o := fun b o e => he b o (Nat.ne_of_lt (Heap.lt_size e)) e
  refine assignInOrder_cons (store_step hkind ha (hn.at' fun o e => k5 _ o e) fun h₆ _ hn₆ k6 => ?_)
  refine assignInOrder_cons (store_step hkind hb hn₆ fun h₇ _ hn₇ k7 => assignInOrder_nil ?_)
  exact h h₇ _ _ hn₇ ⟨v₁, v₂, rfl, by simp [hne], by simp⟩ fun b o hb e => k7 b o hb (k6 b o hb (k5 b o e))
end

section
variable {prog : Program} {w : World} {A : Around} {h₀ : Heap} {L : Addr} {m : Str → Option Value} {env : Env} {elt : PySem.Expr} {Bd : (Str → Option Value) → Array Value → Prop} {V : Array Value → Prop} {scope : Scope} {cl : List (Str × Addr)} {s : Shared} {S : List (Addr × Obj) → Prop} {P : Nat → Value → Prop} {Fin : List Value → List (Addr × Obj) → Prop} {news : List (Addr × Obj)}
noncomputable def ElV {ε : Type} (R : Value → ε → Prop) (news : List (Addr × Obj)) (r : ε) (y : Value) (news' : List (Addr × Obj)) : Prop := news' = news ∧ R y r
theorem compN_vals {ε : Type} {n : Nat} (R : Value → ε → Prop) (g : Nat → ε)
    (turn : ∀ i v, i < n → P i v → ∃ (t : Addr) (ot : Obj) (vs : Array Value) (nt : Nat), v = .ref t ∧ (t, ot) ∈ news ∧ ot.cls = .type "tuple" ∧ ot.data = .seq vs nt ∧ V vs ∧
      ∀ I oI C oC D m₂ ys h tk (E' : Value → Shared → Prop), LCg.NsObj oC m₂ → Bd m₂ vs → Fr h₀ L h m → News h₀ L h ((I, oI) :: (C, oC) :: (D, LCg.lst ys) :: news) → LCg.Off3 I C D news → ((@Ne Nat I C) ∧ (@Ne Nat I D) ∧ (@Ne Nat C D)) →
      wpAny (model prog w) A (eval elt (compEnvC scope cl C env)) (LCg.CompEnd h₀ L m { s with heap := h, toks := tk } I oI C oC D (LCg.lst ys) S (fun y news' => ElV R news (g i) y news')) E' { s with heap := h, toks := tk })
    (fin : ∀ ys, ItemsR R ys ((List.range n).map g) → Fin ys news) : RestN prog w A h₀ L m env elt Bd V scope cl s S P Fin n 0 [] news := by
  have key : ∀ (j i : Nat) (ys : List Value), i + j = n → ItemsR R ys ((List.range i).map g) → RestN prog w A h₀ L m env elt Bd V scope cl s S P Fin j i ys news := by
    intro j
    induction j with
    | zero =>
      intro i ys hi hy
      have e : i = n := by lia
      subst e
      exact fin ys hy
    | succ j ih =>
      intro i ys hi hy v hv
      obtain ⟨t, ot, vs, nt, e1, e2, e3, e4, e5, T⟩ := turn i v (by lia) hv
      refine ⟨t, ot, vs, nt, e1, e2, e3, e4, e5, ?_⟩
      intro I oI C oC D m₂ h tk E' hC hB F N off ne
      refine wpAny_mono (T I oI C oC D m₂ ys h tk E' hC hB F N off ne) (fun y s₂ hq => ?_) fun _ _ e => e
      obtain ⟨h', tk', nw, e, F', N', off', hS, hn, hy'⟩ := hq
      rw [hn] at N' off' hS
      refine ⟨h', tk', news, e, F', N', off', hS, ?_⟩
      refine ih (i + 1) _ (by lia) ?_
      rw [List.range_succ, List.map_append]
      exact hy.snoc hy'
  exact key n 0 [] (by lia) .nil
theorem compN_items {ε : Type} {n : Nat} (R : List (Addr × Obj) → Value → ε → Prop) (mono : ∀ a b v e, (∀ p ∈ a, p ∈ b) → R a v e → R b v e) (g : Nat → ε)
    (turn : ∀ i v, i < n → P i v → ∃ (t : Addr) (ot : Obj) (vs : Array Value) (nt : Nat), v = .ref t ∧ (t, ot) ∈ news ∧ ot.cls = .type "tuple" ∧ ot.data = .seq vs nt ∧ V vs ∧
      ∀ tl I oI C oC D m₂ ys h tk (E' : Value → Shared → Prop), LCg.NsObj oC m₂ → Bd m₂ vs → Fr h₀ L h m → News h₀ L h ((I, oI) :: (C, oC) :: (D, LCg.lst ys) :: (news ++ tl)) → LCg.Off3 I C D (news ++ tl) → ((@Ne Nat I C) ∧ (@Ne Nat I D) ∧ (@Ne Nat C D)) →
      wpAny (model prog w) A (eval elt (compEnvC scope cl C env)) (LCg.CompEnd h₀ L m { s with heap := h, toks := tk } I oI C oC D (LCg.lst ys) S (fun y news' => ElR R news tl (g i) y news')) E' { s with heap := h, toks := tk })
    (fin : ∀ ys tl, ItemsR (R (news ++ tl)) ys ((List.range n).map g) → Fin ys (news ++ tl)) : RestN prog w A h₀ L m env elt Bd V scope cl s S P Fin n 0 [] news := by
  have key : ∀ (j i : Nat) (ys : List Value) (tl : List (Addr × Obj)), i + j = n → ItemsR (R (news ++ tl)) ys ((List.range i).map g) → RestN prog w A h₀ L m env elt Bd V scope cl s S P Fin j i ys (news ++ tl) := by
    intro j
    induction j with
    | zero =>
      intro i ys tl hi hy
      have e : i = n := by lia
      subst e
      exact fin ys tl hy
    | succ j ih =>
      intro i ys tl hi hy v hv
      obtain ⟨t, ot, vs, nt, e1, e2, e3, e4, e5, T⟩ := turn i v (by lia) hv
      refine ⟨t, ot, vs, nt, e1, List.mem_append_left _ e2, e3, e4, e5, ?_⟩
      intro I oI C oC D m₂ h tk E' hC hB F N off ne
      refine wpAny_mono (T tl I oI C oC D m₂ ys h tk E' hC hB F N off ne) (fun y s₂ hq => ?_) fun _ _ e => e
      obtain ⟨h', tk', nw, e, F', N', off', hS, tl', hn, hsub, hr⟩ := hq
      rw [hn] at N' off' hS hr
      refine ⟨h', tk', news ++ tl', e, F', N', off', hS, ?_⟩
      refine ih (i + 1) _ tl' (by lia) ?_
      rw [List.range_succ, List.map_append]
      refine ItemsR.snoc (hy.mono fun v e hv => mono _ _ v e (fun p hp => ?_) hv) hr
      rcases List.mem_append.mp hp with hp | hp
      · exact List.mem_append_left _ hp
      · exact List.mem_append_right _ (hsub p hp)
  have := key n 0 [] [] (by lia) .nil
  rwa [List.append_nil] at this
theorem comp_endV {ε : Type} {R : Value → ε → Prop} {I C D : Addr} {s₁ : Shared} {oI oC oD : Obj} {h' : Heap} {tk : Nat} {all : List (Addr × Obj)} {r : ε} {y : Value} (F : Fr h₀ L h' m) (N : News h₀ L h' all) (sub : ∀ p ∈ (I, oI) :: (C, oC) :: (D, oD) :: news, p ∈ all) (off : LCg.Off3 I C D news) (hS : S news) (hr : R y r) :
    LCg.CompEnd h₀ L m s₁ I oI C oC D oD S (fun y news' => ElV R news r y news') y { s₁ with heap := h', toks := tk } :=
  LCg.CompEnd.intro F N news sub off hS ⟨rfl, hr⟩
end
noncomputable def RgbR (led : List (Addr × Obj)) (v : Value) (e : UInt64 × UInt64 × UInt64) : Prop := ∃ t ta tb tc, v = .ref t ∧ (t, tupO #[.float e.1 ta, .float e.2.1 tb, .float e.2.2 tc]) ∈ led
theorem RgbR.mono (a b : List (Addr × Obj)) (v : Value) (e : UInt64 × UInt64 × UInt64) (h : ∀ p ∈ a, p ∈ b) (x : RgbR a v e) : RgbR b v e := by
  obtain ⟨t, ta, tb, tc, e, hm⟩ := x
  exact ⟨t, ta, tb, tc, e, h _ hm⟩
noncomputable def FltR (v : Value) (x : UInt64) : Prop := ∃ t, v = .float x t
noncomputable def IntR (v : Value) (x : Int) : Prop := ∃ t, v = .int x t

-- every colour that the law draws, one by one
noncomputable def fq (p d : Int) : UInt64 := Float64.ofFrac (decide (p < 0) != decide (d < 0)) p.natAbs d.natAbs
structure ColOk (p s v : Int) : Prop where
  h1 : Float64.isNaN (Float64.mul (fq p 64) f6) = false
  h2 : Float64.isInf (Float64.mul (fq p 64) f6) = false
  h3 : (hsvI (fq p 64)).natAbs < 1000
  hsv : HsvOk (hsvF (fq p 64) (fq s 4) (fq v 4)).1 (hsvF (fq p 64) (fq s 4) (fq v 4)).2.1 (hsvF (fq p 64) (fq s 4) (fq v 4)).2.2
  hls : HlsOk (hsvF (fq p 64) (fq s 4) (fq v 4)).1 (hsvF (fq p 64) (fq s 4) (fq v 4)).2.1 (hsvF (fq p 64) (fq s 4) (fq v 4)).2.2
  neg : HlsOk (Float64.sub f1 (hsvF (fq p 64) (fq s 4) (fq v 4)).1) (Float64.sub f1 (hsvF (fq p 64) (fq s 4) (fq v 4)).2.1) (Float64.sub f1 (hsvF (fq p 64) (fq s 4) (fq v 4)).2.2)
  hue : Float64.mul (Float64.ofInt 64) (hueF (hsvF (fq p 64) (fq s 4) (fq v 4)).1 (hsvF (fq p 64) (fq s 4) (fq v 4)).2.1 (hsvF (fq p 64) (fq s 4) (fq v 4)).2.2) = Float64.ofInt p
  opp : Float64.mul (Float64.ofInt 64) (hueF (Float64.sub f1 (hsvF (fq p 64) (fq s 4) (fq v 4)).1) (Float64.sub f1 (hsvF (fq p 64) (fq s 4) (fq v 4)).2.1) (Float64.sub f1 (hsvF (fq p 64) (fq s 4) (fq v 4)).2.2)) = Float64.ofInt ((p + 32) % 64)
/-- a value worked out before it is used -/
noncomputable def force (x : UInt64) (f : UInt64 → Bool) : Bool := Nat.rec (motive := fun _ => Bool) (f 0) (fun n _ => f (UInt64.ofNat (n + 1))) x.toNat
theorem force_eq (x : UInt64) (f : UInt64 → Bool) : force x f = f x := by
  unfold force
  rcases h : x.toNat with _ | n
  · have : x = 0 := UInt64.toNat_inj.mp (by rw [h]; rfl)
    rw [this]; rfl
  · have : x = UInt64.ofNat (n + 1) := by rw [← h]; simp
    show f (UInt64.ofNat (n + 1)) = f x
    rw [← this]
noncomputable def hueK (r g b : UInt64) (k : UInt64 → UInt64 → UInt64 → UInt64 → Bool) : Bool :=
  force (fmax2 (fmax2 r g) b) fun mx => force (fmin2 (fmin2 r g) b) fun mn => force (Float64.sub mx mn) fun rg =>
  force (Float64.div (Float64.sub mx r) rg) fun rc => force (Float64.div (Float64.sub mx g) rg) fun gc => force (Float64.div (Float64.sub mx b) rg) fun bc =>
  k mx mn rg (if (Float64.cmp mn mx == some Ordering.eq) = true then 0
  else if (Float64.cmp r mx == some Ordering.eq) = true then (Float64.divmod (Float64.div (Float64.sub bc gc) f6) f1).2
  else if (Float64.cmp g mx == some Ordering.eq) = true then (Float64.divmod (Float64.div (Float64.sub (Float64.add 4611686018427387904 rc) bc) f6) f1).2
  else (Float64.divmod (Float64.div (Float64.sub (Float64.add 4616189618054758400 gc) rc) f6) f1).2)
theorem hueK_eq (r g b : UInt64) (k : UInt64 → UInt64 → UInt64 → UInt64 → Bool) : hueK r g b k = k (fmax2 (fmax2 r g) b) (fmin2 (fmin2 r g) b) (Float64.sub (fmax2 (fmax2 r g) b) (fmin2 (fmin2 r g) b)) (hueF r g b) := by
  simp only [hueK, force_eq]; rfl
noncomputable def hsvK (hh ss vv : UInt64) (k : UInt64 → UInt64 → UInt64 → Bool) : Bool :=
  force (Float64.sub (Float64.mul hh f6) (Float64.ofInt (hsvI hh))) fun f =>
  force (Float64.mul vv (Float64.sub f1 ss)) fun p =>
  force (Float64.mul vv (Float64.sub f1 (Float64.mul ss f))) fun q =>
  force (Float64.mul vv (Float64.sub f1 (Float64.mul ss (Float64.sub f1 f)))) fun t =>
  if (Float64.cmp ss 0 == some Ordering.eq) = true then k vv vv vv
  else if (hsvI hh).fmod 6 = 0 then k vv t p
  else if (hsvI hh).fmod 6 = 1 then k q vv p
  else if (hsvI hh).fmod 6 = 2 then k p vv t
  else if (hsvI hh).fmod 6 = 3 then k p q vv
  else if (hsvI hh).fmod 6 = 4 then k t p vv
  else k vv p q
theorem hsvK_eq (hh ss vv : UInt64) (k : UInt64 → UInt64 → UInt64 → Bool) : hsvK hh ss vv k = k (hsvF hh ss vv).1 (hsvF hh ss vv).2.1 (hsvF hh ss vv).2.2 := by
  simp only [hsvK, force_eq]
  unfold hsvF
  repeat' split
  all_goals rfl
noncomputable def colB (p s v : Int) : Bool :=
  force (fq p 64) fun hh => force (fq s 4) fun ss => force (fq v 4) fun vv =>
  force (Float64.mul hh f6) fun h6 => !Float64.isNaN h6 && !Float64.isInf h6 && decide ((hsvI hh).natAbs < 1000) &&
  hsvK hh ss vv fun r g b =>
  (hueK r g b fun mx mn rg h => (Float64.cmp mn mx == some Ordering.eq || (!Float64.isZero mx && !Float64.isZero rg && !Float64.isZero (Float64.add mx mn) && !Float64.isZero (Float64.sub (Float64.sub 4611686018427387904 mx) mn))) && Float64.mul (Float64.ofInt 64) h == Float64.ofInt p) &&
  force (Float64.sub f1 r) fun r => force (Float64.sub f1 g) fun g => force (Float64.sub f1 b) fun b =>
  hueK r g b fun mx mn rg h => (Float64.cmp mn mx == some Ordering.eq || (!Float64.isZero rg && !Float64.isZero (Float64.add mx mn) && !Float64.isZero (Float64.sub (Float64.sub 4611686018427387904 mx) mn))) && Float64.mul (Float64.ofInt 64) h == Float64.ofInt ((p + 32) % 64)
theorem colB_ok {p s v : Int} (h : colB p s v = true) : ColOk p s v := by
  simp only [colB, force_eq, hsvK_eq, hueK_eq, Bool.and_eq_true, Bool.or_eq_true, decide_eq_true_eq, Bool.not_eq_true', beq_iff_eq] at h
  obtain ⟨⟨⟨a, b⟩, c⟩, ⟨d, e⟩, f, g⟩ := h
  refine ⟨a, b, c, ?_, ?_, ?_, e, g⟩
  · intro q
    rcases d with d | ⟨⟨⟨d1, d2⟩, d3⟩, d4⟩
    · rw [d] at q; cases q
    · exact ⟨d1, d2⟩
  · intro q
    rcases d with d | ⟨⟨⟨d1, d2⟩, d3⟩, d4⟩
    · rw [d] at q; cases q
    · exact ⟨d3, d2, d4⟩
  · intro q
    rcases f with d | ⟨⟨d2, d3⟩, d4⟩
    · rw [d] at q; cases q
    · exact ⟨d3, d2, d4⟩
set_option maxHeartbeats 0
theorem colB_0 : ∀ s : Nat, s < 4 → ∀ v : Nat, v < 4 → colB (0 : Nat) ((s + 1 : Nat) : Int) ((v + 1 : Nat) : Int) = true := by decide +kernel
theorem colB_1 : ∀ s : Nat, s < 4 → ∀ v : Nat, v < 4 → colB (1 : Nat) ((s + 1 : Nat) : Int) ((v + 1 : Nat) : Int) = true := by decide +kernel
theorem colB_2 : ∀ s : Nat, s < 4 → ∀ v : Nat, v < 4 → colB (2 : Nat) ((s + 1 : Nat) : Int) ((v + 1 : Nat) : Int) = true := by decide +kernel
theorem colB_3 : ∀ s : Nat, s < 4 → ∀ v : Nat, v < 4 → colB (3 : Nat) ((s + 1 : Nat) : Int) ((v + 1 : Nat) : Int) = true := by decide +kernel
theorem colB_4 : ∀ s : Nat, s < 4 → ∀ v : Nat, v < 4 → colB (4 : Nat) ((s + 1 : Nat) : Int) ((v + 1 : Nat) : Int) = true := by decide +kernel
theorem colB_5 : ∀ s : Nat, s < 4 → ∀ v : Nat, v < 4 → colB (5 : Nat) ((s + 1 : Nat) : Int) ((v + 1 : Nat) : Int) = true := by decide +kernel
theorem colB_6 : ∀ s : Nat, s < 4 → ∀ v : Nat, v < 4 → colB (6 : Nat) ((s + 1 : Nat) : Int) ((v + 1 : Nat) : Int) = true := by decide +kernel
theorem colB_7 : ∀ s : Nat, s < 4 → ∀ v : Nat, v < 4 → colB (7 : Nat) ((s + 1 : Nat) : Int) ((v + 1 : Nat) : Int) = true := by decide +kernel
theorem colB_8 : ∀ s : Nat, s < 4 → ∀ v : Nat, v < 4 → colB (8 : Nat) ((s + 1 : Nat) : Int) ((v + 1 : Nat) : Int) = true := by decide +kernel
theorem colB_9 : ∀ s : Nat, s < 4 → ∀ v : Nat, v < 4 → colB (9 : Nat) ((s + 1 : Nat) : Int) ((v + 1 : Nat) : Int) = true := by decide +kernel
theorem colB_10 : ∀ s : Nat, s < 4 → ∀ v : Nat, v < 4 → colB (10 : Nat) ((s + 1 : Nat) : Int) ((v + 1 : Nat) : Int) = true := by decide +kernel
theorem colB_11 : ∀ s : Nat, s < 4 → ∀ v : Nat, v < 4 → colB (11 : Nat) ((s + 1 : Nat) : Int) ((v + 1 : Nat) : Int) = true := by decide +kernel
theorem colB_12 : ∀ s : Nat, s < 4 → ∀ v : Nat, v < 4 → colB (12 : Nat) ((s + 1 : Nat) : Int) ((v + 1 : Nat) : Int) = true := by decide +kernel
theorem colB_13 : ∀ s : Nat, s < 4 → ∀ v : Nat, v < 4 → colB (13 : Nat) ((s + 1 : Nat) : Int) ((v + 1 : Nat) : Int) = true := by decide +kernel
theorem colB_14 : ∀ s : Nat, s < 4 → ∀ v : Nat, v < 4 → colB (14 : Nat) ((s + 1 : Nat) : Int) ((v + 1 : Nat) : Int) = true := by decide +kernel
theorem colB_15 : ∀ s : Nat, s < 4 → ∀ v : Nat, v < 4 → colB (15 : Nat) ((s + 1 : Nat) : Int) ((v + 1 : Nat) : Int) = true := by decide +kernel
theorem colB_16 : ∀ s : Nat, s < 4 → ∀ v : Nat, v < 4 → colB (16 : Nat) ((s + 1 : Nat) : Int) ((v + 1 : Nat) : Int) = true := by decide +kernel
theorem colB_17 : ∀ s : Nat, s < 4 → ∀ v : Nat, v < 4 → colB (17 : Nat) ((s + 1 : Nat) : Int) ((v + 1 : Nat) : Int) = true := by decide +kernel
theorem colB_18 : ∀ s : Nat, s < 4 → ∀ v : Nat, v < 4 → colB (18 : Nat) ((s + 1 : Nat) : Int) ((v + 1 : Nat) : Int) = true := by decide +kernel
theorem colB_19 : ∀ s : Nat, s < 4 → ∀ v : Nat, v < 4 → colB (19 : Nat) ((s + 1 : Nat) : Int) ((v + 1 : Nat) : Int) = true := by decide +kernel
theorem colB_20 : ∀ s : Nat, s < 4 → ∀ v : Nat, v < 4 → colB (20 : Nat) ((s + 1 : Nat) : Int) ((v + 1 : Nat) : Int) = true := by decide +kernel
theorem colB_21 : ∀ s : Nat, s < 4 → ∀ v : Nat, v < 4 → colB (21 : Nat) ((s + 1 : Nat) : Int) ((v + 1 : Nat) : Int) = true := by decide +kernel
theorem colB_22 : ∀ s : Nat, s < 4 → ∀ v : Nat, v < 4 → colB (22 : Nat) ((s + 1 : Nat) : Int) ((v + 1 : Nat) : Int) = true := by decide +kernel
theorem colB_23 : ∀ s : Nat, s < 4 → ∀ v : Nat, v < 4 → colB (23 : Nat) ((s + 1 : Nat) : Int) ((v + 1 : Nat) : Int) = true := by decide +kernel
theorem colB_24 : ∀ s : Nat, s < 4 → ∀ v : Nat, v < 4 → colB (24 : Nat) ((s + 1 : Nat) : Int) ((v + 1 : Nat) : Int) = true := by decide +kernel
theorem colB_25 : ∀ s : Nat, s < 4 → ∀ v : Nat, v < 4 → colB (25 : Nat) ((s + 1 : Nat) : Int) ((v + 1 : Nat) : Int) = true := by decide +kernel
theorem colB_26 : ∀ s : Nat, s < 4 → ∀ v : Nat, v < 4 → colB (26 : Nat) ((s + 1 : Nat) : Int) ((v + 1 : Nat) : Int) = true := by decide +kernel
theorem colB_27 : ∀ s : Nat, s < 4 → ∀ v : Nat, v < 4 → colB (27 : Nat) ((s + 1 : Nat) : Int) ((v + 1 : Nat) : Int) = true := by decide +kernel
theorem colB_28 : ∀ s : Nat, s < 4 → ∀ v : Nat, v < 4 → colB (28 : Nat) ((s + 1 : Nat) : Int) ((v + 1 : Nat) : Int) = true := by decide +kernel
theorem colB_29 : ∀ s : Nat, s < 4 → ∀ v : Nat, v < 4 → colB (29 : Nat) ((s + 1 : Nat) : Int) ((v + 1 : Nat) : Int) = true := by decide +kernel
theorem colB_30 : ∀ s : Nat, s < 4 → ∀ v : Nat, v < 4 → colB (30 : Nat) ((s + 1 : Nat) : Int) ((v + 1 : Nat) : Int) = true := by decide +kernel
theorem colB_31 : ∀ s : Nat, s < 4 → ∀ v : Nat, v < 4 → colB (31 : Nat) ((s + 1 : Nat) : Int) ((v + 1 : Nat) : Int) = true := by decide +kernel
theorem colB_32 : ∀ s : Nat, s < 4 → ∀ v : Nat, v < 4 → colB (32 : Nat) ((s + 1 : Nat) : Int) ((v + 1 : Nat) : Int) = true := by decide +kernel
theorem colB_33 : ∀ s : Nat, s < 4 → ∀ v : Nat, v < 4 → colB (33 : Nat) ((s + 1 : Nat) : Int) ((v + 1 : Nat) : Int) = true := by decide +kernel
theorem colB_34 : ∀ s : Nat, s < 4 → ∀ v : Nat, v < 4 → colB (34 : Nat) ((s + 1 : Nat) : Int) ((v + 1 : Nat) : Int) = true := by decide +kernel
theorem colB_35 : ∀ s : Nat, s < 4 → ∀ v : Nat, v < 4 → colB (35 : Nat) ((s + 1 : Nat) : Int) ((v + 1 : Nat) : Int) = true := by decide +kernel
theorem colB_36 : ∀ s : Nat, s < 4 → ∀ v : Nat, v < 4 → colB (36 : Nat) ((s + 1 : Nat) : Int) ((v + 1 : Nat) : Int) = true := by decide +kernel
theorem colB_37 : ∀ s : Nat, s < 4 → ∀ v : Nat, v < 4 → colB (37 : Nat) ((s + 1 : Nat) : Int) ((v + 1 : Nat) : Int) = true := by decide +kernel
theorem colB_38 : ∀ s : Nat, s < 4 → ∀ v : Nat, v < 4 → colB (38 : Nat) ((s + 1 : Nat) : Int) ((v + 1 : Nat) : Int) = true := by decide +kernel
theorem colB_39 : ∀ s : Nat, s < 4 → ∀ v : Nat, v < 4 → colB (39 : Nat) ((s + 1 : Nat) : Int) ((v + 1 : Nat) : Int) = true := by decide +kernel
theorem colB_40 : ∀ s : Nat, s < 4 → ∀ v : Nat, v < 4 → colB (40 : Nat) ((s + 1 : Nat) : Int) ((v + 1 : Nat) : Int) = true := by decide +kernel
theorem colB_41 : ∀ s : Nat, s < 4 → ∀ v : Nat, v < 4 → colB (41 : Nat) ((s + 1 : Nat) : Int) ((v + 1 : Nat) : Int) = true := by decide +kernel
theorem colB_42 : ∀ s : Nat, s < 4 → ∀ v : Nat, v < 4 → colB (42 : Nat) ((s + 1 : Nat) : Int) ((v + 1 : Nat) : Int) = true := by decide +kernel
theorem colB_43 : ∀ s : Nat, s < 4 → ∀ v : Nat, v < 4 → colB (43 : Nat) ((s + 1 : Nat) : Int) ((v + 1 : Nat) : Int) = true := by decide +kernel
theorem colB_44 : ∀ s : Nat, s < 4 → ∀ v : Nat, v < 4 → colB (44 : Nat) ((s + 1 : Nat) : Int) ((v + 1 : Nat) : Int) = true := by decide +kernel
theorem colB_45 : ∀ s : Nat, s < 4 → ∀ v : Nat, v < 4 → colB (45 : Nat) ((s + 1 : Nat) : Int) ((v + 1 : Nat) : Int) = true := by decide +kernel
theorem colB_46 : ∀ s : Nat, s < 4 → ∀ v : Nat, v < 4 → colB (46 : Nat) ((s + 1 : Nat) : Int) ((v + 1 : Nat) : Int) = true := by decide +kernel
theorem colB_47 : ∀ s : Nat, s < 4 → ∀ v : Nat, v < 4 → colB (47 : Nat) ((s + 1 : Nat) : Int) ((v + 1 : Nat) : Int) = true := by decide +kernel
theorem colB_48 : ∀ s : Nat, s < 4 → ∀ v : Nat, v < 4 → colB (48 : Nat) ((s + 1 : Nat) : Int) ((v + 1 : Nat) : Int) = true := by decide +kernel
theorem colB_49 : ∀ s : Nat, s < 4 → ∀ v : Nat, v < 4 → colB (49 : Nat) ((s + 1 : Nat) : Int) ((v + 1 : Nat) : Int) = true := by decide +kernel
theorem colB_50 : ∀ s : Nat, s < 4 → ∀ v : Nat, v < 4 → colB (50 : Nat) ((s + 1 : Nat) : Int) ((v + 1 : Nat) : Int) = true := by decide +kernel
theorem colB_51 : ∀ s : Nat, s < 4 → ∀ v : Nat, v < 4 → colB (51 : Nat) ((s + 1 : Nat) : Int) ((v + 1 : Nat) : Int) = true := by decide +kernel
theorem colB_52 : ∀ s : Nat, s < 4 → ∀ v : Nat, v < 4 → colB (52 : Nat) ((s + 1 : Nat) : Int) ((v + 1 : Nat) : Int) = true := by decide +kernel
theorem colB_53 : ∀ s : Nat, s < 4 → ∀ v : Nat, v < 4 → colB (53 : Nat) ((s + 1 : Nat) : Int) ((v + 1 : Nat) : Int) = true := by decide +kernel
theorem colB_54 : ∀ s : Nat, s < 4 → ∀ v : Nat, v < 4 → colB (54 : Nat) ((s + 1 : Nat) : Int) ((v + 1 : Nat) : Int) = true := by decide +kernel
theorem colB_55 : ∀ s : Nat, s < 4 → ∀ v : Nat, v < 4 → colB (55 : Nat) ((s + 1 : Nat) : Int) ((v + 1 : Nat) : Int) = true := by decide +kernel
theorem colB_56 : ∀ s : Nat, s < 4 → ∀ v : Nat, v < 4 → colB (56 : Nat) ((s + 1 : Nat) : Int) ((v + 1 : Nat) : Int) = true := by decide +kernel
theorem colB_57 : ∀ s : Nat, s < 4 → ∀ v : Nat, v < 4 → colB (57 : Nat) ((s + 1 : Nat) : Int) ((v + 1 : Nat) : Int) = true := by decide +kernel
theorem colB_58 : ∀ s : Nat, s < 4 → ∀ v : Nat, v < 4 → colB (58 : Nat) ((s + 1 : Nat) : Int) ((v + 1 : Nat) : Int) = true := by decide +kernel
theorem colB_59 : ∀ s : Nat, s < 4 → ∀ v : Nat, v < 4 → colB (59 : Nat) ((s + 1 : Nat) : Int) ((v + 1 : Nat) : Int) = true := by decide +kernel
theorem colB_60 : ∀ s : Nat, s < 4 → ∀ v : Nat, v < 4 → colB (60 : Nat) ((s + 1 : Nat) : Int) ((v + 1 : Nat) : Int) = true := by decide +kernel
theorem colB_61 : ∀ s : Nat, s < 4 → ∀ v : Nat, v < 4 → colB (61 : Nat) ((s + 1 : Nat) : Int) ((v + 1 : Nat) : Int) = true := by decide +kernel
theorem colB_62 : ∀ s : Nat, s < 4 → ∀ v : Nat, v < 4 → colB (62 : Nat) ((s + 1 : Nat) : Int) ((v + 1 : Nat) : Int) = true := by decide +kernel
theorem colB_63 : ∀ s : Nat, s < 4 → ∀ v : Nat, v < 4 → colB (63 : Nat) ((s + 1 : Nat) : Int) ((v + 1 : Nat) : Int) = true := by decide +kernel
theorem colB_all : ∀ p : Nat, p < 64 → ∀ s : Nat, s < 4 → ∀ v : Nat, v < 4 → colB (p : Int) ((s + 1 : Nat) : Int) ((v + 1 : Nat) : Int) = true
  | 0, _ => colB_0
  | 1, _ => colB_1
  | 2, _ => colB_2
  | 3, _ => colB_3
  | 4, _ => colB_4
  | 5, _ => colB_5
  | 6, _ => colB_6
  | 7, _ => colB_7
  | 8, _ => colB_8
  | 9, _ => colB_9
  | 10, _ => colB_10
  | 11, _ => colB_11
  | 12, _ => colB_12
  | 13, _ => colB_13
  | 14, _ => colB_14
  | 15, _ => colB_15
  | 16, _ => colB_16
  | 17, _ => colB_17
  | 18, _ => colB_18
  | 19, _ => colB_19
  | 20, _ => colB_20
  | 21, _ => colB_21
  | 22, _ => colB_22
  | 23, _ => colB_23
  | 24, _ => colB_24
  | 25, _ => colB_25
  | 26, _ => colB_26
  | 27, _ => colB_27
  | 28, _ => colB_28
  | 29, _ => colB_29
  | 30, _ => colB_30
  | 31, _ => colB_31
  | 32, _ => colB_32
  | 33, _ => colB_33
  | 34, _ => colB_34
  | 35, _ => colB_35
  | 36, _ => colB_36
  | 37, _ => colB_37
  | 38, _ => colB_38
  | 39, _ => colB_39
  | 40, _ => colB_40
  | 41, _ => colB_41
  | 42, _ => colB_42
  | 43, _ => colB_43
  | 44, _ => colB_44
  | 45, _ => colB_45
  | 46, _ => colB_46
  | 47, _ => colB_47
  | 48, _ => colB_48
  | 49, _ => colB_49
  | 50, _ => colB_50
  | 51, _ => colB_51
  | 52, _ => colB_52
  | 53, _ => colB_53
  | 54, _ => colB_54
  | 55, _ => colB_55
  | 56, _ => colB_56
  | 57, _ => colB_57
  | 58, _ => colB_58
  | 59, _ => colB_59
  | 60, _ => colB_60
  | 61, _ => colB_61
  | 62, _ => colB_62
  | 63, _ => colB_63
  | n + 64, h => absurd h (by lia)
theorem col_all {p s v : Int} (p0 : 0 ≤ p) (p1 : p < 64) (s0 : 1 ≤ s) (s1 : s ≤ 4) (v0 : 1 ≤ v) (v1 : v ≤ 4) : ColOk p s v := by
  have := colB_all p.toNat (by lia) (s.toNat - 1) (by lia) (v.toNat - 1) (by lia)
  rw [show ((p.toNat : Nat) : Int) = p by lia, show ((s.toNat - 1 + 1 : Nat) : Int) = s by lia, show ((v.toNat - 1 + 1 : Nat) : Int) = v by lia] at this
  exact colB_ok this
-- whole hues as floats
theorem ofInt_facts : ∀ a : Nat, a < 64 → Flt.toInt Float64.truncOf (Float64.ofInt (a : Int)) = (a : Int) ∧ Float64.isNaN (Float64.ofInt (a : Int)) = false ∧ Float64.isInf (Float64.ofInt (a : Int)) = false := by decide +kernel

set_option maxHeartbeats 0 in
theorem ofInt_cmpInt : ∀ a : Nat, a < 64 → ∀ b : Nat, b < 64 → Float64.cmpInt (Float64.ofInt (a : Int)) (b : Int) = some (compare a b) := by decide +kernel
set_option maxHeartbeats 0 in
theorem ofInt_cmp : ∀ a : Nat, a < 64 → ∀ b : Nat, b < 64 → Float64.cmp (Float64.ofInt (a : Int)) (Float64.ofInt (b : Int)) = some (compare a b) := by decide +kernel
local macro_rules | `(tactic| w_once) => `(tactic| first | ((with_reducible show Binds _ _ _ _ [_, _, _, _] _ _ _ _ _ _); exact binds_4 rfl rfl rfl rfl rfl rfl (by decide)) | ((with_reducible show Binds _ _ _ _ [_, _, _] _ _ _ _ _ _); exact binds_3 rfl rfl rfl rfl rfl (by decide)) | exact binds_2 rfl rfl rfl rfl (by decide))
local macro_rules | `(tactic| walk_at "eval ListComp") => `(tactic| (k_here; (with_reducible show wpAny _ _ (eval (PySem.Expr.ListComp _ [⟨.Tuple _ _ _, _, [], 0⟩] _ _) _) _ _ _); k_dflt (refine ListComp_N (F₀ := by k_asm) (by with_unfolding_all rfl) (by decide) (by rfl) (by decide) (by w_once) ?_)))
local macro_rules | `(tactic| walk_at "exec Assign cons ListComp") => `(tactic| (k_here; (with_reducible show wpAny _ _ (exec (PySem.Stmt.Assign _ (PySem.Expr.ListComp _ [⟨.Tuple (_ :: _ :: _ :: _) _ _, _, [], 0⟩] _ _) _) _) _ _ _); k_dflt (refine Assign_ListComp_N (F₀ := by k_asm) (by rfl) (by with_unfolding_all rfl) (by with_unfolding_all rfl) (by decide) (by rfl) (by decide) (by w_once) (by rfl) (by rfl) ?_)))
local macro_rules | `(tactic| walk_at "SrcN") => `(tactic| (refine Hold.mk ?_))

-- equality of lists item by item: floats that are whole numbers, and ints
section
variable {A : Around} {s : Shared}
theorem eqAt_fi {x : UInt64} {n : Int} {t u : Tok} : SeqAt.EqAt A s (.float x t) (.int n u) (Float64.cmpInt x n == some .eq) := by
  intro prog w E Q h
  unfold eqBool
  refine wpAny_holding ?_
  rw [if_neg (by intro e; exact nomatch eq_of_beq e)]
  show wpAny _ _ (richCompare CmpOp.Eq (Value.float x t) (Value.int n u) >>= fun v => truthOfDropped v) Q E s
  exact wpAny_bind (PyProof.Rows.eq_fi (wpAny_truthy_bool h))
theorem eqAt_if {x : UInt64} {n : Int} {t u : Tok} : SeqAt.EqAt A s (.int n u) (.float x t) (Float64.cmpInt x n == some .eq) := by
  intro prog w E Q h
  unfold eqBool
  refine wpAny_holding ?_
  rw [if_neg (by intro e; exact nomatch eq_of_beq e)]
  show wpAny _ _ (richCompare CmpOp.Eq (Value.int n u) (Value.float x t) >>= fun v => truthOfDropped v) Q E s
  exact wpAny_bind (PyProof.Rows.eq_if (wpAny_truthy_bool h))
theorem ne_lists {prog : Program} {w : World} {E Q : Value → Shared → Prop} {a b : Addr} {vs us : List Value} (hl : s.heap.IsList a vs.toArray) (hb : s.heap.IsList b us.toArray) (hlen : vs.length = us.length) (hu : A.units < cLine)
    (he : ∀ j (h1 : j < vs.length) (h2 : j < us.length), SeqAt.EqAt A.in1 s vs[j] us[j] true) (h : Q (.bool false) s) : wpAny (model prog w) A (compareOp .NotEq (.ref a) (.ref b)) Q E s := by
  have z := SeqAt.RcNeAt.lists (A := A) (s := s) (e := fun _ => true) hl hb (by simpa using hlen) hu (fun j h1 h2 => by simpa using he j (by simpa using h1) (by simpa using h2))
  refine z prog w E Q ?_
  have e : (!(List.range vs.toArray.size).all fun _ => true) = false := by simp
  rw [e]; exact h
end

-- sorted, of floats that are whole numbers
abbrev fltKey (v : Value) : Option Int := match v with
  | .float x _ => if 0 ≤ Flt.toInt Float64.truncOf x ∧ Flt.toInt Float64.truncOf x < 64 ∧ Float64.ofInt (Flt.toInt Float64.truncOf x) = x then some (Flt.toInt Float64.truncOf x) else none
  | _ => none
abbrev fltKind : PyProof.Rows.KeyKind where
  α := Int
  blt a b := decide (a < b)
  irrefl a := by simp
  trans a b c h1 h2 := by simp only [decide_eq_true_eq] at *; lia
  negTrans a b c h := by simp only [decide_eq_true_eq] at *; lia
  total a b h1 h2 := by simp only [decide_eq_false_iff_not] at *; lia
  keyOf := fltKey
  dflt := 0
theorem fltKey_of {n : Int} (h0 : 0 ≤ n) (h1 : n < 64) (t : Tok) : fltKey (.float (Float64.ofInt n) t) = some n := by
  obtain ⟨a, rfl⟩ : ∃ a : Nat, n = a := ⟨n.toNat, by omega⟩
  have e := (ofInt_facts a (by omega)).1
  unfold fltKey
  simp only [e]
  rw [if_pos (by simp; omega)]
theorem fltKey_back {v : Value} {n : Int} (h : fltKey v = some n) : 0 ≤ n ∧ n < 64 ∧ ∃ t, v = .float (Float64.ofInt n) t := by
  cases v with
  | float x t =>
    unfold fltKey at h
    simp only at h
    split at h
    · rename_i c
      obtain ⟨c1, c2, c3⟩ := c
      cases h
      exact ⟨c1, c2, t, by rw [c3]⟩
    · cases h
  | _ => cases h
theorem fltKind_oneLt : fltKind.OneLt := by
  intro prog w A E s x y a b Q ha hb h
  obtain ⟨a0, a1, t, rfl⟩ := fltKey_back ha
  obtain ⟨b0, b1, u, rfl⟩ := fltKey_back hb
  obtain ⟨a, rfl⟩ : ∃ a' : Nat, a = (a' : Int) := ⟨Int.toNat a, (Int.toNat_of_nonneg a0).symm⟩
  obtain ⟨b, rfl⟩ : ∃ b' : Nat, b = (b' : Int) := ⟨Int.toNat b, (Int.toNat_of_nonneg b0).symm⟩
  have e := ofInt_cmp a (by lia) b (by lia)
  rw [PyProof.Rows.oneLt'_eq]
  simp only [if_true]
  refine wpAny_bind (wpAny_cRoomFor_byValue rfl ?_)
  refine wpAny_bind (wpAny_callSpecialIfBound?_slot (AutoFloatOps.typeIs_float s _ t) F.slot_float_lt (call_gives F.slot_float_lt (AutoFloatOps.typeIs_float s _ t) F.entry_float_lt (F.args_float_lt_2 _ _) (AutoFloatG5.float___lt___float_float_0 _ t _ u) ?_))
  show wpAny _ _ (truthOfDropped (Value.bool _) >>= pure) Q E s
  refine wpAny_bind (wpAny_truthy_bool (wpAny_pure ?_))
  have e2 : (Float64.cmp (Float64.ofInt (a : Int)) (Float64.ofInt (b : Int)) == some Ordering.lt) = decide ((a : Int) < (b : Int)) := by
    rw [e]
    rcases Nat.lt_trichotomy a b with h | h | h
    · rw [Nat.compare_eq_lt.mpr h]; simp; lia
    · rw [Nat.compare_eq_eq.mpr h]; simp; lia
    · rw [Nat.compare_eq_gt.mpr h]; simp; lia
  dsimp only
  rw [e2]; exact h
theorem flt_first (x : UInt64) (t : Tok) : PyProof.Rows.firstOfTuple' (.float x t) = pure none := rfl
noncomputable def AllFlt (vs : List Value) : Prop := ∀ v ∈ vs, ∃ x t, v = .float x t
theorem mapM_first_flt : ∀ {vs : List Value}, AllFlt vs → vs.mapM PyProof.Rows.firstOfTuple' = pure (vs.map fun _ => none)
  | [], _ => by simp
  | v :: vs, h => by
    obtain ⟨x, t, rfl⟩ := h v List.mem_cons_self
    rw [List.mapM_cons, flt_first, mapM_first_flt (fun u hu => h u (List.mem_cons_of_mem _ hu))]; simp
theorem mapM_typeOf_flt : ∀ {vs : List Value}, AllFlt vs → vs.mapM typeOf = pure (vs.map fun _ => Value.type "float")
  | [], _ => by simp
  | v :: vs, h => by
    obtain ⟨x, t, rfl⟩ := h v List.mem_cons_self
    rw [List.mapM_cons, mapM_typeOf_flt (fun u hu => h u (List.mem_cons_of_mem _ hu))]
    show (pure (Value.type "float") >>= fun b => pure _ >>= fun bs => pure (b :: bs)) = _
    simp
theorem keyKind_flt {v₁ v₂ : Value} {vs : List Value} (hS : AllFlt (v₁ :: v₂ :: vs)) : PyProof.Rows.keyKind' (v₁ :: v₂ :: vs).toArray = pure PyProof.Rows.oneType' := by
  rw [PyProof.Rows.keyKind'_eq, List.mapM_toArray, mapM_first_flt hS]
  simp only [map_pure, pure_bind]
  rw [if_neg (by simp), if_neg (by simp)]
  rw [PyProof.Rows.oneTypeOnly'_eq, List.mapM_toArray, mapM_typeOf_flt hS]
  simp only [map_pure, pure_bind]
  have hall : ((List.map (fun _ => Value.type "float") (v₁ :: v₂ :: vs)).toArray.all fun x => x == Value.type "float") = true := by
    simp only [List.all_toArray, List.all_map, List.all_eq_true]
    intro _ _
    rfl
  have h0 : (List.map (fun _ => Value.type "float") (v₁ :: v₂ :: vs)).toArray[0]? = some (Value.type "float") := by simp
  rw [h0]
  simp only [hall, if_true, pure_bind, Option.isSome_some]
theorem flt_keys {vs : List Value} {es : List Int} (h : ItemsR FltR vs (es.map fun n => Float64.ofInt n)) (hb : ∀ e ∈ es, 0 ≤ e ∧ e < 64) : vs.map fltKey = es.map some := by
  induction es generalizing vs with
  | nil => cases h; rfl
  | cons e r ih =>
    cases h with
    | cons hv h =>
      obtain ⟨t, rfl⟩ := hv
      have z := hb e List.mem_cons_self
      rw [List.map_cons, List.map_cons, fltKey_of z.1 z.2, ih h fun x hx => hb x (List.mem_cons_of_mem _ hx)]
theorem flt_back : ∀ {vs : List Value}, (∀ v ∈ vs, ∃ n, fltKey v = some n) → ItemsR FltR vs ((vs.map fun v => (fltKey v).getD 0).map fun n => Float64.ofInt n)
  | [], _ => .nil
  | v :: vs, h => by
    obtain ⟨n, e⟩ := h v List.mem_cons_self
    obtain ⟨_, _, t, hv⟩ := fltKey_back e
    refine .cons ⟨t, ?_⟩ (flt_back fun u hu => h u (List.mem_cons_of_mem _ hu))
    dsimp only
    rw [e]; exact hv
theorem sorted_flt {prog : Program} {w : World} {A : Around} {E : Value → Shared → Prop} {s : Shared} {h₀ : Heap} {L l : Addr} {m : Str → Option Value} {news : List (Addr × Obj)} {vs : List Value} {es : List Int} {Q : Value → Shared → Prop}
    (F : Fr h₀ L s.heap m) (N : News h₀ L s.heap news) (hl : s.heap.IsList l vs.toArray) (hS : ItemsR FltR vs (es.map fun n => Float64.ofInt n)) (hb : ∀ e ∈ es, 0 ≤ e ∧ e < 64) (h64 : vs.length < 64)
    (h : ∀ (h' : Heap) (D : Addr) (vs' : List Value) (es' : List Int) (e : Nat), Fr h₀ L h' m → News h₀ L h' ((D, listOf vs'.toArray e) :: news) →
      ItemsR FltR vs' (es'.map fun n => Float64.ofInt n) → es'.Perm es → Srt es' → Q (.ref D) { s with heap := h' }) :
    wpAny (model prog w) A (call (.builtin "sorted") [.ref l]) Q E s := by
  have hk := flt_keys hS hb
  have hkey : ∀ v ∈ vs, ∃ n, fltKey v = some n := fun v hv => by
    have : fltKey v ∈ es.map some := hk ▸ List.mem_map.mpr ⟨v, hv, rfl⟩
    obtain ⟨n, _, e⟩ := List.mem_map.mp this
    exact ⟨n, e.symm⟩
  have hall : AllFlt vs := fun v hv => by
    obtain ⟨n, e⟩ := hkey v hv
    obtain ⟨_, _, t, hv⟩ := fltKey_back e
    exact ⟨_, t, hv⟩
  refine PyProof.Rows.sortedK (κ := fltKind) fltKind_oneLt hl (fun p hp => ?_) (fun v₁ v₂ rest e => keyKind_flt (e ▸ hall)) h64 fun st' hp hs => ?_
  · rw [PyProof.Rows.pairsOf_toList] at hp
    exact hkey _ (PyProof.Rows.mem_zip_self hp).2
  · obtain ⟨e, he⟩ := PyProof.Rows.sortedAll_at s.heap vs ((PyProof.Rows.arrOf st').map (·.2))
    have hpl : (PyProof.Rows.arrOf st').toList.Perm (vs.zip vs) := by rw [← PyProof.Rows.pairsOf_toList]; exact Array.perm_iff_toList_perm.mp hp
    have hmem : ∀ p, p ∈ (PyProof.Rows.arrOf st').toList → p.1 = p.2 ∧ p.1 ∈ vs := fun p hp' => PyProof.Rows.mem_zip_self (hpl.mem_iff.mp hp')
    have hv : ((PyProof.Rows.arrOf st').toList.map (·.2)).Perm vs := by
      have := hpl.map (·.2)
      rwa [List.map_snd_zip (Nat.le_refl _)] at this
    refine h _ _ ((PyProof.Rows.arrOf st').toList.map (·.2)) (((PyProof.Rows.arrOf st').toList.map (·.2)).map fun v => (fltKey v).getD 0) e (F.kept fun _ _ => PyProof.Rows.sortedAll_old) ?_ ?_ ?_ ?_
    · refine N.kept_cons F (fun _ _ => PyProof.Rows.sortedAll_old) (Nat.le_succ _) ?_
      rw [he]
      congr 2
      exact Array.toList_inj.mp (by simp)
    · exact flt_back fun v hv' => hkey v (hv.mem_iff.mp hv')
    · refine (hv.map _).trans (.of_eq ?_)
      have : (vs.map fltKey).map (fun o => o.getD 0) = (es.map some).map (fun o => o.getD 0) := by rw [hk]
      rw [List.map_map, List.map_map] at this
      refine Eq.trans this ?_
      conv => rhs; rw [← List.map_id es]
      rfl
    · unfold Srt
      rw [List.pairwise_iff_getElem]
      intro i j hi hj hij
      have hi' : i < (PyProof.Rows.arrOf st').size := by simpa using hi
      have hj' : j < (PyProof.Rows.arrOf st').size := by simpa using hj
      have h1 := hs i j (Nat.le_of_lt hij) (by rw [← hp.size_eq]; exact hj')
      have kk : ∀ i (hi : i < (PyProof.Rows.arrOf st').size), PyProof.Rows.KK fltKind (PyProof.Rows.arrOf st') i = (fltKey ((PyProof.Rows.arrOf st')[i].2)).getD 0 := fun i hi => by
        unfold PyProof.Rows.KK
        rw [Array.getElem?_eq_getElem hi]
        dsimp only
        rw [(hmem (PyProof.Rows.arrOf st')[i] (by simp)).1]
      have h2 : decide (PyProof.Rows.KK fltKind (PyProof.Rows.arrOf st') j < PyProof.Rows.KK fltKind (PyProof.Rows.arrOf st') i) = false := h1
      rw [kk i hi', kk j hj'] at h2
      simp only [List.getElem_map, Array.getElem_toList]
      exact Int.not_lt.mp (of_decide_eq_false h2)

section
variable {A : Around} {s : Shared} {vs us : List Value} {es : List Int}
theorem eqs_fi (hv : ItemsR FltR vs (es.map fun n => Float64.ofInt n)) (hu : ItemsR IntR us es) (hb : ∀ e ∈ es, 0 ≤ e ∧ e < 64) : ∀ j (h1 : j < vs.length) (h2 : j < us.length), SeqAt.EqAt A s vs[j] us[j] true := by
  intro j h1 h2
  obtain ⟨x, hx, t, ev⟩ := hv.at (i := j) (v := vs[j]) (List.getElem?_eq_getElem h1)
  obtain ⟨n, hn, u, eu⟩ := hu.at (i := j) (v := us[j]) (List.getElem?_eq_getElem h2)
  rw [List.getElem?_map, hn] at hx
  cases hx
  rw [ev, eu]
  have b := hb n (List.mem_of_getElem? hn)
  obtain ⟨a, rfl⟩ : ∃ a : Nat, n = a := ⟨n.toNat, by omega⟩
  have e := ofInt_cmpInt a (by omega) a (by omega)
  have e2 : (Float64.cmpInt (Float64.ofInt (a : Int)) (a : Int) == some Ordering.eq) = true := by rw [e, Nat.compare_eq_eq.mpr rfl]; rfl
  have z := eqAt_fi (A := A) (s := s) (x := Float64.ofInt (a : Int)) (n := (a : Int)) (t := t) (u := u)
  rwa [e2] at z
theorem eqs_if (hv : ItemsR IntR vs es) (hu : ItemsR FltR us (es.map fun n => Float64.ofInt n)) (hb : ∀ e ∈ es, 0 ≤ e ∧ e < 64) : ∀ j (h1 : j < vs.length) (h2 : j < us.length), SeqAt.EqAt A s vs[j] us[j] true := by
  intro j h1 h2
  obtain ⟨x, hx, t, ev⟩ := hu.at (i := j) (v := us[j]) (List.getElem?_eq_getElem h2)
  obtain ⟨n, hn, u, eu⟩ := hv.at (i := j) (v := vs[j]) (List.getElem?_eq_getElem h1)
  rw [List.getElem?_map, hn] at hx
  cases hx
  rw [ev, eu]
  have b := hb n (List.mem_of_getElem? hn)
  obtain ⟨a, rfl⟩ : ∃ a : Nat, n = a := ⟨n.toNat, by omega⟩
  have e := ofInt_cmpInt a (by omega) a (by omega)
  have e2 : (Float64.cmpInt (Float64.ofInt (a : Int)) (a : Int) == some Ordering.eq) = true := by rw [e, Nat.compare_eq_eq.mpr rfl]; rfl
  have z := eqAt_if (A := A) (s := s) (x := Float64.ofInt (a : Int)) (n := (a : Int)) (t := t) (u := u)
  rwa [e2] at z
end
theorem ints_R {vs : List Value} {ns : List Int} (h : IntsAre vs ns) : ItemsR IntR vs ns := by
  induction h with
  | nil => exact .nil
  | cons n t _ ih => exact .cons ⟨t, rfl⟩ ih
theorem R_ints {vs : List Value} {ns : List Int} (h : ItemsR IntR vs ns) : IntsAre vs ns := by
  induction h with
  | nil => exact .nil
  | cons h _ ih => obtain ⟨t, rfl⟩ := h; exact .cons _ t ih

-- plain law: the table's quads are the least and greatest of all pairings
theorem perm_lift {α β : Type} {f : α → β} : ∀ {l m : List β}, l.Perm m → ∀ xs : List α, m = xs.map f → ∃ ys : List α, ys.Perm xs ∧ l = ys.map f := by
  intro l m h
  induction h with
  | nil => intro xs e; exact ⟨xs, .refl _, e⟩
  | cons x _ ih =>
    intro xs e
    cases xs with
    | nil => cases e
    | cons a r =>
      rw [List.map_cons] at e
      obtain ⟨e1, e2⟩ := List.cons.inj e
      obtain ⟨ys, hp, hy⟩ := ih r e2
      exact ⟨a :: ys, hp.cons a, by rw [List.map_cons, ← hy, ← e1]⟩
  | swap x y l =>
    intro xs e
    cases xs with
    | nil => cases e
    | cons a r =>
      cases r with
      | nil => cases e
      | cons b r =>
        simp only [List.map_cons] at e
        obtain ⟨e1, e2⟩ := List.cons.inj e
        obtain ⟨e2, e3⟩ := List.cons.inj e2
        exact ⟨b :: a :: r, .swap _ _ _, by simp only [List.map_cons]; rw [← e1, ← e2, ← e3]⟩
  | trans _ _ ih1 ih2 =>
    intro xs e
    obtain ⟨ys, hp, hy⟩ := ih2 xs e
    obtain ⟨zs, hq, hz⟩ := ih1 ys hy
    exact ⟨zs, hq.trans hp, hz⟩
theorem places_del : ∀ n, n ≤ 5 → ∀ t, t < 2 ^ n → ∀ j, j < n → t / 2 ^ j % 2 = 1 → placesOf n (t - 2 ^ j) = (placesOf n t).erase j := by decide +kernel
theorem places_full : ∀ n, n ≤ 5 → placesOf n (2 ^ n - 1) = List.range n := by decide +kernel
theorem places_bit {n t j : Nat} (h : j ∈ placesOf n t) : j < n ∧ t / 2 ^ j % 2 = 1 := by
  unfold placesOf at h
  rw [List.mem_filter, List.mem_range] at h
  exact ⟨h.1, by simpa using h.2⟩
noncomputable def foldC (comb : Int → Int → Int) (cst : Nat → Nat → Int) (e0 : Int) (js : List Nat) : Int := (List.range js.length).foldl (fun a i => comb a (cst i (js.getD i 0))) e0
theorem foldC_snoc (comb : Int → Int → Int) (cst : Nat → Nat → Int) (e0 : Int) (js : List Nat) (j : Nat) : foldC comb cst e0 (js ++ [j]) = comb (foldC comb cst e0 js) (cst js.length j) := by
  unfold foldC
  rw [List.length_append, List.length_singleton, List.range_succ, List.foldl_append]
  simp only [List.foldl_cons, List.foldl_nil]
  have e : (js ++ [j]).getD js.length 0 = j := by simp [List.getD_eq_getElem?_getD]
  rw [e]
  congr 1
  have key : ∀ (l : List Nat), (∀ i ∈ l, i < js.length) → ∀ a, l.foldl (fun a i => comb a (cst i ((js ++ [j]).getD i 0))) a = l.foldl (fun a i => comb a (cst i (js.getD i 0))) a := by
    intro l
    induction l with
    | nil => intro _ a; rfl
    | cons x r ih =>
      intro h a
      simp only [List.foldl_cons]
      have hx : x < js.length := h x List.mem_cons_self
      have e : (js ++ [j]).getD x 0 = js.getD x 0 := by simp [List.getD_eq_getElem?_getD, List.getElem?_append_left hx]
      rw [e]
      exact ih (fun i hi => h i (List.mem_cons_of_mem _ hi)) _
  exact key _ (fun i hi => List.mem_range.mp hi) _
theorem table_min {n : Nat} (hn : n ≤ 5) (comb : Int → Int → Int) (hm : ∀ a b w, a ≤ b → comb a w ≤ comb b w) (cst : Nat → Nat → Int) (e0 : Int) (v : Nat → Int) (h0 : v 0 = e0)
    (hv : ∀ t, 0 < t → t < 2 ^ n → v t = minL ((placesOf n t).map fun j => comb (v (t - 2 ^ j)) (cst ((placesOf n t).length - 1) j))) :
    ∀ k t, t ≤ k → t < 2 ^ n → (∃ js, js.Perm (placesOf n t) ∧ v t = foldC comb cst e0 js) ∧ ∀ js, js.Perm (placesOf n t) → v t ≤ foldC comb cst e0 js := by
  have hz : placesOf n 0 = [] := by unfold placesOf; simp
  intro k
  induction k with
  | zero =>
    intro t hk _
    have : t = 0 := by omega
    subst this
    rw [hz, h0]
    refine ⟨⟨[], .refl _, rfl⟩, fun js hj => ?_⟩
    rw [hj.eq_nil]
    exact Int.le_refl _
  | succ k ih =>
    intro t hk ht
    rcases Nat.eq_zero_or_pos t with h | h
    · subst h
      exact ih 0 (Nat.zero_le _) ht
    rw [hv t h ht]
    have step : ∀ j ∈ placesOf n t, t - 2 ^ j ≤ k ∧ t - 2 ^ j < 2 ^ n ∧ placesOf n (t - 2 ^ j) = (placesOf n t).erase j ∧ (placesOf n (t - 2 ^ j)).length = (placesOf n t).length - 1 := by
      intro j hj
      have hb := places_bit hj
      have hp := Nat.two_pow_pos j
      have hle : 2 ^ j ≤ t := (places_mem hj).2
      have e := places_del n hn t ht j hb.1 hb.2
      refine ⟨by omega, by omega, e, ?_⟩
      rw [e, List.length_erase_of_mem hj]
    have pos : 0 < (placesOf n t).length := by
      have := places_some n hn (t - 1) (by omega)
      rwa [show 1 + (t - 1) = t by omega] at this
    refine ⟨?_, fun js hj => ?_⟩
    · obtain ⟨j, hj, e⟩ := List.mem_map.mp (minL_mem (l := (placesOf n t).map fun j => comb (v (t - 2 ^ j)) (cst ((placesOf n t).length - 1) j)) (by rw [List.length_map]; exact pos))
      obtain ⟨s1, s2, s3, s4⟩ := step j hj
      obtain ⟨⟨js, hp, hjs⟩, _⟩ := ih _ s1 s2
      refine ⟨js ++ [j], ?_, ?_⟩
      · rw [s3] at hp
        exact (List.perm_append_comm (l₁ := js)).trans ((hp.cons j).trans (List.perm_cons_erase hj).symm)
      · rw [foldC_snoc, ← hjs, hp.length_eq, s4]
        exact e.symm
    · rcases List.eq_nil_or_concat js with e | ⟨js', j, e⟩
      · subst e
        have := hj.length_eq
        simp only [List.length_nil] at this
        omega
      · rw [List.concat_eq_append] at e
        subst e
        have hjm : j ∈ placesOf n t := hj.mem_iff.mp (by simp)
        obtain ⟨s1, s2, s3, s4⟩ := step j hjm
        have hp : js'.Perm (placesOf n (t - 2 ^ j)) := by
          rw [s3]
          have : (j :: js').Perm (j :: (placesOf n t).erase j) := ((List.perm_append_comm (l₁ := [j])).trans hj).trans (List.perm_cons_erase hjm)
          exact this.cons_inv
        have hle := (ih _ s1 s2).2 js' hp
        rw [foldC_snoc, hp.length_eq, s4]
        exact Int.le_trans (minL_le (List.mem_map.mpr ⟨j, hjm, rfl⟩)) (hm _ _ _ hle)
theorem tblQ_at (p q : List Int) {t : Nat} (d : Q4) : ∀ k, t ≤ k → (tblQ p q k).getD t d = (tblQ p q t).getD t d
  | 0, h => by
    have : t = 0 := by lia
    subst this; rfl
  | k + 1, h => by
    rcases Nat.lt_or_ge t (k + 1) with h1 | h1
    · rw [tblQ, List.getD_eq_getElem?_getD, List.getElem?_append_left (by rw [tblQ_length]; exact h1), ← List.getD_eq_getElem?_getD]
      exact tblQ_at p q d k (by lia)
    · have : t = k + 1 := by lia
      subst this; rfl
noncomputable def entQ (p q : List Int) (t : Nat) : Q4 := (tblQ p q t).getD t (0, 0, 0, 0)
theorem entQ_succ (p q : List Int) (t : Nat) : entQ p q (t + 1) = quadOf p q (tblQ p q t) (t + 1) := by
  unfold entQ
  rw [tblQ, List.getD_eq_getElem?_getD, List.getElem?_append_right (by rw [tblQ_length]; exact Nat.le_refl _), tblQ_length]
  simp
theorem rowQ_at (p q : List Int) (t pl j : Nat) (hj : j ∈ placesOf q.length (t + 1)) : rowQ p q (tblQ p q t) (t + 1) pl j =
    ((entQ p q (t + 1 - 2 ^ j)).1 + way (p.getD (pl - 1) 0) (q.getD j 0), (entQ p q (t + 1 - 2 ^ j)).2.1 + way (p.getD (pl - 1) 0) (q.getD j 0) * way (p.getD (pl - 1) 0) (q.getD j 0),
      max (entQ p q (t + 1 - 2 ^ j)).2.2.1 (way (p.getD (pl - 1) 0) (q.getD j 0)), (entQ p q (t + 1 - 2 ^ j)).2.2.2 + way (p.getD (pl - 1) 0) (q.getD j 0)) := by
  have hp := Nat.two_pow_pos j
  unfold rowQ
  rw [tblQ_at p q (t := t + 1 - 2 ^ j) (0, 0, 0, 0) t (by omega)]
  rfl
theorem maxL_neg {l : List Int} (h : 0 < l.length) : -(maxL l) = minL (l.map fun x => -x) := by
  refine Int.le_antisymm ?_ ?_
  · obtain ⟨a, ha, e⟩ := List.mem_map.mp (minL_mem (l := l.map fun x => -x) (by rw [List.length_map]; exact h))
    rw [← e]
    have := le_maxL ha
    lia
  · exact minL_le (List.mem_map.mpr ⟨_, maxL_mem h, rfl⟩)
theorem foldl_plus (g : Nat → Int) : ∀ (l : List Nat) (a : Int), l.foldl (fun a i => a + g i) a = a + (l.map g).sum
  | [], a => by simp
  | x :: r, a => by simp only [List.foldl_cons, List.map_cons, List.sum_cons]; rw [foldl_plus g r]; lia
theorem foldl_minus (g : Nat → Int) : ∀ (l : List Nat) (a : Int), l.foldl (fun a i => a - g i) a = a - (l.map g).sum
  | [], a => by simp
  | x :: r, a => by simp only [List.foldl_cons, List.map_cons, List.sum_cons]; rw [foldl_minus g r]; lia
theorem foldl_top (g : Nat → Int) : ∀ (l : List Nat) (a w : Int), l.foldl (fun a i => max a (g i)) a ≤ w ↔ a ≤ w ∧ ∀ i ∈ l, g i ≤ w
  | [], a, w => by simp
  | x :: r, a, w => by
    simp only [List.foldl_cons]
    rw [foldl_top g r]
    simp only [List.mem_cons, forall_eq_or_imp]
    constructor
    · intro ⟨h1, h2⟩; exact ⟨by omega, by omega, h2⟩
    · intro ⟨h1, h2, h3⟩; exact ⟨by omega, h3⟩
/-- a pairing of two rows -/
noncomputable def Prs (p q : List Int) (W : List (Int × Int)) : Prop := (W.map (·.1)).Perm p ∧ (W.map (·.2)).Perm q
noncomputable def wy (ab : Int × Int) : Int := way ab.1 ab.2
noncomputable def prOf (p q : List Int) (js : List Nat) : List (Int × Int) := (List.range js.length).map fun i => (p.getD i 0, q.getD (js.getD i 0) 0)
theorem range_getD (l : List Int) : (List.range l.length).map (fun i => l.getD i 0) = l := by
  have := range_map_at (fun x : Int => x) 0 l
  simpa using this
theorem range_getDN (l : List Nat) : (List.range l.length).map (fun i => l.getD i 0) = l := by
  have := range_map_at (fun x : Nat => x) 0 l
  simpa using this
theorem prOf_prs {p q : List Int} {js : List Nat} (hl : p.length = q.length) (h : js.Perm (List.range q.length)) : Prs p q (prOf p q js) := by
  have hj := h.length_eq
  rw [List.length_range] at hj
  refine ⟨?_, ?_⟩
  · unfold prOf
    rw [List.map_map, hj, ← hl]
    exact .of_eq (range_getD p)
  · unfold prOf
    rw [List.map_map]
    have e : (List.range js.length).map ((fun x : Int × Int => x.2) ∘ fun i => (p.getD i 0, q.getD (js.getD i 0) 0)) = js.map fun j => q.getD j 0 := range_map_at (fun j => q.getD j 0) 0 js
    rw [e]
    exact (h.map _).trans (.of_eq (range_getD q))
theorem prs_prOf {p q : List Int} {W : List (Int × Int)} (h : Prs p q W) : p.length = q.length ∧ ∃ js, js.Perm (List.range q.length) ∧ W.Perm (prOf p q js) := by
  have l1 := h.1.length_eq
  have l2 := h.2.length_eq
  rw [List.length_map] at l1 l2
  obtain ⟨W', hw, e⟩ := perm_lift h.1.symm W rfl
  have h2 : (W'.map (·.2)).Perm q := (hw.map _).trans h.2
  obtain ⟨js, hj, e2⟩ := perm_lift h2 (List.range q.length) (range_getD q).symm
  refine ⟨by lia, js, hj, hw.symm.trans (.of_eq ?_)⟩
  have hl := hj.length_eq
  rw [List.length_range] at hl
  have hl2 := hw.length_eq
  unfold prOf
  apply List.ext_getElem
  · simp; lia
  · intro i h1 h3
    simp only [List.length_map, List.length_range] at h3
    have a1 : W'[i].1 = p.getD i 0 := by rw [e, List.getD_eq_getElem?_getD]; simp [h1]
    have a2 : W'[i].2 = q.getD (js.getD i 0) 0 := by
      have : (W'.map (·.2))[i]'(by simpa using h1) = W'[i].2 := by simp
      rw [← this]
      have hb : i < (js.map fun j => q.getD j 0).length := by simpa using h3
      have : (W'.map (·.2))[i]'(by simpa using h1) = (js.map fun j => q.getD j 0)[i]'hb := by simp only [e2]
      rw [this, List.getElem_map, List.getD_eq_getElem?_getD (l := js), List.getElem?_eq_getElem h3]
      rfl
    simp only [List.getElem_map, List.getElem_range]
    exact Prod.ext a1 a2
theorem prs_sum {W W' : List (Int × Int)} (h : W.Perm W') (f : Int → Int) : (W.map fun ab => f (wy ab)).sum = (W'.map fun ab => f (wy ab)).sum := perm_sum (h.map _)
theorem prOf_sum (p q : List Int) (js : List Nat) (f : Int → Int) : ((prOf p q js).map fun ab => f (wy ab)).sum = ((List.range js.length).map fun i => f (way (p.getD i 0) (q.getD (js.getD i 0) 0))).sum := by
  unfold prOf
  rw [List.map_map]; rfl
section
variable {p q : List Int} (hl : p.length = q.length) (hn : q.length ≤ 5)
include hl hn
theorem pairQ_ent : pairQ p q = entQ p q (2 ^ q.length - 1) := by unfold pairQ entQ; rw [hl]
theorem pair_min (comb : Int → Int → Int) (hm : ∀ a b w, a ≤ b → comb a w ≤ comb b w) (f : Int → Int) (e0 : Int) (π : Q4 → Int) (h0 : π (0, 0, 0, 0) = e0)
    (hq : ∀ t, 0 < (placesOf q.length (t + 1)).length → π (quadOf p q (tblQ p q t) (t + 1)) = minL ((placesOf q.length (t + 1)).map fun j => comb (π (entQ p q (t + 1 - 2 ^ j))) (f (way (p.getD ((placesOf q.length (t + 1)).length - 1) 0) (q.getD j 0))))) :
    (∃ js, js.Perm (List.range q.length) ∧ π (pairQ p q) = foldC comb (fun i j => f (way (p.getD i 0) (q.getD j 0))) e0 js) ∧ ∀ js, js.Perm (List.range q.length) → π (pairQ p q) ≤ foldC comb (fun i j => f (way (p.getD i 0) (q.getD j 0))) e0 js := by
  have h2 := Nat.two_pow_pos q.length
  have z := table_min hn comb hm (fun i j => f (way (p.getD i 0) (q.getD j 0))) e0 (fun t => π (entQ p q t)) h0 (fun t h1 h3 => by
    obtain ⟨u, rfl⟩ : ∃ u, t = u + 1 := ⟨t - 1, by omega⟩
    show π (entQ p q (u + 1)) = _
    rw [entQ_succ]
    refine hq u ?_
    have := places_some _ hn u (by omega)
    rwa [Nat.add_comm] at this) (2 ^ q.length - 1) (2 ^ q.length - 1) (Nat.le_refl _) (by omega)
  rw [places_full _ hn] at z
  rw [pairQ_ent hl hn]
  exact z
theorem one_spec : (∃ W, Prs p q W ∧ (pairQ p q).1 = (W.map fun ab => wy ab).sum) ∧ ∀ W, Prs p q W → (pairQ p q).1 ≤ (W.map fun ab => wy ab).sum := by
  have z := pair_min hl hn (fun a w => a + w) (fun a b w h => by show a + w ≤ b + w; lia) (fun w => w) 0 (fun e => e.1) rfl (fun t _ => by
    unfold quadOf
    simp only [List.map_map]
    congr 1
    refine List.map_congr_left fun j hj => ?_
    simp only [Function.comp, rowQ_at p q t _ j hj])
  have e : ∀ js, foldC (fun a w => a + w) (fun i j => way (p.getD i 0) (q.getD j 0)) 0 js = ((prOf p q js).map fun ab => wy ab).sum := by
    intro js
    unfold foldC
    rw [foldl_plus (fun i => way (p.getD i 0) (q.getD (js.getD i 0) 0)), Int.zero_add]
    exact (prOf_sum p q js fun w => w).symm
  refine ⟨?_, fun W hW => ?_⟩
  · obtain ⟨js, hj, h⟩ := z.1
    exact ⟨_, prOf_prs hl hj, h.trans (e js)⟩
  · obtain ⟨_, js, hj, hp⟩ := prs_prOf hW
    rw [prs_sum hp fun w => w, ← e]
    exact z.2 js hj
theorem two_spec : (∃ W, Prs p q W ∧ (pairQ p q).2.1 = (W.map fun ab => wy ab * wy ab).sum) ∧ ∀ W, Prs p q W → (pairQ p q).2.1 ≤ (W.map fun ab => wy ab * wy ab).sum := by
  have z := pair_min hl hn (fun a w => a + w) (fun a b w h => by show a + w ≤ b + w; omega) (fun w => w * w) 0 (fun e => e.2.1) rfl (fun t _ => by
    unfold quadOf
    simp only [List.map_map]
    congr 1
    refine List.map_congr_left fun j hj => ?_
    simp only [Function.comp, rowQ_at p q t _ j hj])
  have e : ∀ js, foldC (fun a w => a + w) (fun i j => way (p.getD i 0) (q.getD j 0) * way (p.getD i 0) (q.getD j 0)) 0 js = ((prOf p q js).map fun ab => wy ab * wy ab).sum := by
    intro js
    unfold foldC
    rw [foldl_plus (fun i => way (p.getD i 0) (q.getD (js.getD i 0) 0) * way (p.getD i 0) (q.getD (js.getD i 0) 0)), Int.zero_add]
    exact (prOf_sum p q js fun w => w * w).symm
  refine ⟨?_, fun W hW => ?_⟩
  · obtain ⟨js, hj, h⟩ := z.1
    exact ⟨_, prOf_prs hl hj, h.trans (e js)⟩
  · obtain ⟨_, js, hj, hp⟩ := prs_prOf hW
    rw [prs_sum hp fun w => w * w, ← e]
    exact z.2 js hj
theorem most_spec : (∃ W, Prs p q W ∧ (pairQ p q).2.2.2 = (W.map fun ab => wy ab).sum) ∧ ∀ W, Prs p q W → (W.map fun ab => wy ab).sum ≤ (pairQ p q).2.2.2 := by
  have z := pair_min hl hn (fun a w => a - w) (fun a b w h => by show a - w ≤ b - w; lia) (fun w => w) 0 (fun e => -e.2.2.2) rfl (fun t ht => by
    unfold quadOf
    simp only [List.map_map]
    rw [maxL_neg (by rw [List.length_map]; exact ht), List.map_map]
    congr 1
    refine List.map_congr_left fun j hj => ?_
    simp only [Function.comp, rowQ_at p q t _ j hj]
    lia)
  have e : ∀ js, foldC (fun a w => a - w) (fun i j => way (p.getD i 0) (q.getD j 0)) 0 js = -((prOf p q js).map fun ab => wy ab).sum := by
    intro js
    unfold foldC
    rw [foldl_minus (fun i => way (p.getD i 0) (q.getD (js.getD i 0) 0)), Int.zero_sub]
    exact congrArg _ (prOf_sum p q js fun w => w).symm
  refine ⟨?_, fun W hW => ?_⟩
  · obtain ⟨js, hj, h⟩ := z.1
    refine ⟨_, prOf_prs hl hj, ?_⟩
    have := h.trans (e js)
    lia
  · obtain ⟨_, js, hj, hp⟩ := prs_prOf hW
    rw [prs_sum hp fun w => w]
    have := z.2 js hj
    have e2 := e js
    lia
theorem worst_spec : (∃ W, Prs p q W ∧ ∀ ab ∈ W, wy ab ≤ (pairQ p q).2.2.1) ∧ ∀ W, Prs p q W → ∀ w, 0 ≤ w → (∀ ab ∈ W, wy ab ≤ w) → (pairQ p q).2.2.1 ≤ w := by
  have z := pair_min hl hn (fun a w => max a w) (fun a b w h => by show max a w ≤ max b w; omega) (fun w => w) 0 (fun e => e.2.2.1) rfl (fun t _ => by
    unfold quadOf
    simp only [List.map_map]
    congr 1
    refine List.map_congr_left fun j hj => ?_
    simp only [Function.comp, rowQ_at p q t _ j hj])
  have e : ∀ js w, foldC (fun a w => max a w) (fun i j => way (p.getD i 0) (q.getD j 0)) 0 js ≤ w ↔ 0 ≤ w ∧ ∀ ab ∈ prOf p q js, wy ab ≤ w := by
    intro js w
    unfold foldC
    rw [foldl_top (fun i => way (p.getD i 0) (q.getD (js.getD i 0) 0))]
    unfold prOf
    simp only [List.mem_map, forall_exists_index, and_imp, forall_apply_eq_imp_iff₂]
    rfl
  refine ⟨?_, fun W hW w h0 hw => ?_⟩
  · obtain ⟨js, hj, h⟩ := z.1
    exact ⟨_, prOf_prs hl hj, ((e js _).mp (Int.le_of_eq h.symm)).2⟩
  · obtain ⟨_, js, hj, hp⟩ := prs_prOf hW
    refine Int.le_trans (z.2 js hj) ((e js w).mpr ⟨h0, fun ab hab => hw ab (hp.mem_iff.mpr hab)⟩)
end

-- plain law: crossings undone
/-- what lies within costs no more than what lies without -/
noncomputable def Cvx (φ : Int → Int) : Prop := ∀ x y z w, x ≤ z → x ≤ w → z + w = x + y → φ z + φ w ≤ φ x + φ y
noncomputable def sq (x : Int) : Int := x * x
theorem sq_nonneg (x : Int) : 0 ≤ sq x := by
  unfold sq
  rcases Int.le_total 0 x with h | h
  · exact Int.mul_nonneg h h
  · exact Int.mul_nonneg_of_nonpos_of_nonpos h h
theorem sq_add (x c : Int) : sq (x + c) = sq x + 2 * c * x + c * c := by
  unfold sq
  rw [Int.add_mul, Int.mul_add, Int.mul_add, Int.mul_comm x c, show 2 * c * x = c * x + c * x by rw [Int.mul_assoc]; lia]
  lia
theorem sq_low (x : Int) (i : Int) : 0 ≤ sq x - 2 * i * x + i * i := by
  have h := sq_nonneg (x + -i)
  rw [sq_add, Int.neg_mul_neg, Int.mul_neg, Int.neg_mul] at h
  omega
theorem swap_eq (a a' b b' : Int) : a - b' + (a' - b) = a - b + (a' - b') := by lia
theorem step_lt {m m' c : Int} {N : Nat} (h : m' < m) (h' : m < ((N + 1 : Nat) : Int) - c) : m' < (N : Int) - c := by lia
theorem lt_of_rem {a b m : Int} (h : a ≤ b) (hd : ¬ a % m = b % m) : a < b := by
  rcases Int.lt_or_le a b with x | x
  · exact x
  · exact absurd (by rw [Int.le_antisymm h x]) hd
theorem ends4 {α : Type} (a0 a1 a2 a3 : α) : [a3, a1, a2, a0].Perm [a0, a1, a2, a3] :=
  (List.perm_append_comm (l₁ := [a3, a1, a2]) (l₂ := [a0])).trans (.cons _ (List.perm_append_comm (l₁ := [a3]) (l₂ := [a1, a2])))
/-- the measure of a row of turns -/
noncomputable def ms4 (t0 t1 t2 t3 : Int) : Int := (sq (t0) - 0 * (t0)) + (sq (t1) - 2 * (t1)) + (sq (t2) - 4 * (t2)) + (sq (t3) - 6 * (t3))
theorem ms4_low (t0 t1 t2 t3 : Int) : -14 ≤ ms4 t0 t1 t2 t3 := by
  unfold ms4
  have q0 := sq_low t0 0
  have q1 := sq_low t1 1
  have q2 := sq_low t2 2
  have q3 := sq_low t3 3
  lia
theorem ms4_0 {t0 t1 t2 t3 : Int} (h : t1 < t0) : ms4 t1 t0 t2 t3 < ms4 t0 t1 t2 t3 := by unfold ms4; lia
theorem ms4_1 {t0 t1 t2 t3 : Int} (h : t2 < t1) : ms4 t0 t2 t1 t3 < ms4 t0 t1 t2 t3 := by unfold ms4; lia
theorem ms4_2 {t0 t1 t2 t3 : Int} (h : t3 < t2) : ms4 t0 t1 t3 t2 < ms4 t0 t1 t2 t3 := by unfold ms4; lia
theorem ms4_w {t0 t1 t2 t3 : Int} (h : t0 + 4 < t3) : ms4 (t3 - 4) t1 t2 (t0 + 4) < ms4 t0 t1 t2 t3 := by
  unfold ms4
  have s1 := sq_add t0 4
  have s2 := sq_add t3 (-4)
  have e1 : t3 + -4 = t3 - 4 := by lia
  rw [e1] at s2
  lia
theorem unc4 {φ : Int → Int} (cv : Cvx φ) {a0 a1 a2 a3 : Int} (h0 : a0 ≤ a1) (h1 : a1 ≤ a2) (h2 : a2 ≤ a3) (hw : a3 ≤ a0 + 64) {b : Int → Int} (hb : ∀ z z', z ≤ z' → b z ≤ b z') (hp : ∀ z, b (z + 4) = b z + 64) :
    ∀ (N : Nat) (t0 t1 t2 t3 : Int), [t0 % 4, t1 % 4, t2 % 4, t3 % 4].Nodup → ms4 t0 t1 t2 t3 < (N : Int) - 14 → ∃ k, φ (a0 - b (k + 0)) + φ (a1 - b (k + 1)) + φ (a2 - b (k + 2)) + φ (a3 - b (k + 3)) ≤ φ (a0 - b (t0)) + φ (a1 - b (t1)) + φ (a2 - b (t2)) + φ (a3 - b (t3)) := by
  intro N
  induction N with
  | zero =>
    intro t0 t1 t2 t3 _ hm
    have := ms4_low t0 t1 t2 t3
    lia
  | succ N ih =>
    intro t0 t1 t2 t3 hd hm
    by_cases c0 : t1 < t0
    · have z := cv (a0 - b t0) (a1 - b t1) (a0 - b t1) (a1 - b t0) (Int.sub_le_sub_left (hb _ _ (Int.le_of_lt c0)) _) (Int.sub_le_sub_right h0 _) (swap_eq _ _ _ _)
      obtain ⟨k, hk⟩ := ih t1 t0 t2 t3 ((List.Perm.nodup_iff (.swap _ _ _)).mp hd) (step_lt (ms4_0 c0) hm)
      clear ih hd hm hb hp cv
      exact ⟨k, by lia⟩
    by_cases c1 : t2 < t1
    · have z := cv (a1 - b t1) (a2 - b t2) (a1 - b t2) (a2 - b t1) (Int.sub_le_sub_left (hb _ _ (Int.le_of_lt c1)) _) (Int.sub_le_sub_right h1 _) (swap_eq _ _ _ _)
      obtain ⟨k, hk⟩ := ih t0 t2 t1 t3 ((List.Perm.nodup_iff (.cons _ (.swap _ _ _))).mp hd) (step_lt (ms4_1 c1) hm)
      clear ih hd hm hb hp cv
      exact ⟨k, by lia⟩
    by_cases c2 : t3 < t2
    · have z := cv (a2 - b t2) (a3 - b t3) (a2 - b t3) (a3 - b t2) (Int.sub_le_sub_left (hb _ _ (Int.le_of_lt c2)) _) (Int.sub_le_sub_right h2 _) (swap_eq _ _ _ _)
      obtain ⟨k, hk⟩ := ih t0 t1 t3 t2 ((List.Perm.nodup_iff (.cons _ (.cons _ (.swap _ _ _)))).mp hd) (step_lt (ms4_2 c2) hm)
      clear ih hd hm hb hp cv
      exact ⟨k, by lia⟩
    by_cases cw : t0 + 4 < t3
    · have p1 := hp t0
      have p2 := hp (t3 - 4)
      rw [Int.sub_add_cancel] at p2
      have p3 := hb (t0 + 4) t3 (Int.le_of_lt cw)
      have z := cv (a3 - b t3) (a0 - b t0) (a0 - b (t3 - 4)) (a3 - b (t0 + 4)) (by lia) (by lia) (by lia)
      obtain ⟨k, hk⟩ := ih (t3 - 4) t1 t2 (t0 + 4) (by
        rw [show (t3 - 4) % 4 = t3 % 4 by lia, show (t0 + 4) % 4 = t0 % 4 by lia]
        exact (List.Perm.nodup_iff (ends4 ..)).mpr hd) (step_lt (ms4_w cw) hm)
      clear ih hd hm hb hp cv p1 p2 p3
      exact ⟨k, by lia⟩
    clear ih hm hb hp cv hw h0 h1 h2
    simp only [List.nodup_cons, List.mem_cons, List.not_mem_nil, or_false, not_or] at hd
    obtain ⟨⟨d01, d02, d03⟩, ⟨d12, d13⟩, d23, _⟩ := hd
    have c0 : t0 < t1 := lt_of_rem (m := 4) (Int.not_lt.mp c0) d01
    have c1 : t1 < t2 := lt_of_rem (m := 4) (Int.not_lt.mp c1) d12
    have c2 : t2 < t3 := lt_of_rem (m := 4) (Int.not_lt.mp c2) d23
    have cw : t3 < t0 + 4 := lt_of_rem (m := 4) (Int.not_lt.mp cw) (fun e => d03 (by lia))
    clear d01 d02 d03 d12 d13 d23
    refine ⟨t0, Int.le_of_eq ?_⟩
    rw [show t1 = t0 + 1 by lia, show t2 = t0 + 2 by lia, show t3 = t0 + 3 by lia, show t0 + 0 = t0 by lia]
theorem ends5 {α : Type} (a0 a1 a2 a3 a4 : α) : [a4, a1, a2, a3, a0].Perm [a0, a1, a2, a3, a4] :=
  (List.perm_append_comm (l₁ := [a4, a1, a2, a3]) (l₂ := [a0])).trans (.cons _ (List.perm_append_comm (l₁ := [a4]) (l₂ := [a1, a2, a3])))
/-- the measure of a row of turns -/
noncomputable def ms5 (t0 t1 t2 t3 t4 : Int) : Int := (sq (t0) - 0 * (t0)) + (sq (t1) - 2 * (t1)) + (sq (t2) - 4 * (t2)) + (sq (t3) - 6 * (t3)) + (sq (t4) - 8 * (t4))
theorem ms5_low (t0 t1 t2 t3 t4 : Int) : -30 ≤ ms5 t0 t1 t2 t3 t4 := by
  unfold ms5
  have q0 := sq_low t0 0
  have q1 := sq_low t1 1
  have q2 := sq_low t2 2
  have q3 := sq_low t3 3
  have q4 := sq_low t4 4
  lia
theorem ms5_0 {t0 t1 t2 t3 t4 : Int} (h : t1 < t0) : ms5 t1 t0 t2 t3 t4 < ms5 t0 t1 t2 t3 t4 := by unfold ms5; lia
theorem ms5_1 {t0 t1 t2 t3 t4 : Int} (h : t2 < t1) : ms5 t0 t2 t1 t3 t4 < ms5 t0 t1 t2 t3 t4 := by unfold ms5; lia
theorem ms5_2 {t0 t1 t2 t3 t4 : Int} (h : t3 < t2) : ms5 t0 t1 t3 t2 t4 < ms5 t0 t1 t2 t3 t4 := by unfold ms5; lia
theorem ms5_3 {t0 t1 t2 t3 t4 : Int} (h : t4 < t3) : ms5 t0 t1 t2 t4 t3 < ms5 t0 t1 t2 t3 t4 := by unfold ms5; lia
theorem ms5_w {t0 t1 t2 t3 t4 : Int} (h : t0 + 5 < t4) : ms5 (t4 - 5) t1 t2 t3 (t0 + 5) < ms5 t0 t1 t2 t3 t4 := by
  unfold ms5
  have s1 := sq_add t0 5
  have s2 := sq_add t4 (-5)
  have e1 : t4 + -5 = t4 - 5 := by lia
  rw [e1] at s2
  lia
theorem unc5 {φ : Int → Int} (cv : Cvx φ) {a0 a1 a2 a3 a4 : Int} (h0 : a0 ≤ a1) (h1 : a1 ≤ a2) (h2 : a2 ≤ a3) (h3 : a3 ≤ a4) (hw : a4 ≤ a0 + 64) {b : Int → Int} (hb : ∀ z z', z ≤ z' → b z ≤ b z') (hp : ∀ z, b (z + 5) = b z + 64) :
    ∀ (N : Nat) (t0 t1 t2 t3 t4 : Int), [t0 % 5, t1 % 5, t2 % 5, t3 % 5, t4 % 5].Nodup → ms5 t0 t1 t2 t3 t4 < (N : Int) - 30 → ∃ k, φ (a0 - b (k + 0)) + φ (a1 - b (k + 1)) + φ (a2 - b (k + 2)) + φ (a3 - b (k + 3)) + φ (a4 - b (k + 4)) ≤ φ (a0 - b (t0)) + φ (a1 - b (t1)) + φ (a2 - b (t2)) + φ (a3 - b (t3)) + φ (a4 - b (t4)) := by
  intro N
  induction N with
  | zero =>
    intro t0 t1 t2 t3 t4 _ hm
    have := ms5_low t0 t1 t2 t3 t4
    lia
  | succ N ih =>
    intro t0 t1 t2 t3 t4 hd hm
    by_cases c0 : t1 < t0
    · have z := cv (a0 - b t0) (a1 - b t1) (a0 - b t1) (a1 - b t0) (Int.sub_le_sub_left (hb _ _ (Int.le_of_lt c0)) _) (Int.sub_le_sub_right h0 _) (swap_eq _ _ _ _)
      obtain ⟨k, hk⟩ := ih t1 t0 t2 t3 t4 ((List.Perm.nodup_iff (.swap _ _ _)).mp hd) (step_lt (ms5_0 c0) hm)
      clear ih hd hm hb hp cv
      exact ⟨k, by lia⟩
    by_cases c1 : t2 < t1
    · have z := cv (a1 - b t1) (a2 - b t2) (a1 - b t2) (a2 - b t1) (Int.sub_le_sub_left (hb _ _ (Int.le_of_lt c1)) _) (Int.sub_le_sub_right h1 _) (swap_eq _ _ _ _)
      obtain ⟨k, hk⟩ := ih t0 t2 t1 t3 t4 ((List.Perm.nodup_iff (.cons _ (.swap _ _ _))).mp hd) (step_lt (ms5_1 c1) hm)
      clear ih hd hm hb hp cv
      exact ⟨k, by lia⟩
    by_cases c2 : t3 < t2
    · have z := cv (a2 - b t2) (a3 - b t3) (a2 - b t3) (a3 - b t2) (Int.sub_le_sub_left (hb _ _ (Int.le_of_lt c2)) _) (Int.sub_le_sub_right h2 _) (swap_eq _ _ _ _)
      obtain ⟨k, hk⟩ := ih t0 t1 t3 t2 t4 ((List.Perm.nodup_iff (.cons _ (.cons _ (.swap _ _ _)))).mp hd) (step_lt (ms5_2 c2) hm)
      clear ih hd hm hb hp cv
      exact ⟨k, by lia⟩
    by_cases c3 : t4 < t3
    · have z := cv (a3 - b t3) (a4 - b t4) (a3 - b t4) (a4 - b t3) (Int.sub_le_sub_left (hb _ _ (Int.le_of_lt c3)) _) (Int.sub_le_sub_right h3 _) (swap_eq _ _ _ _)
      obtain ⟨k, hk⟩ := ih t0 t1 t2 t4 t3 ((List.Perm.nodup_iff (.cons _ (.cons _ (.cons _ (.swap _ _ _))))).mp hd) (step_lt (ms5_3 c3) hm)
      clear ih hd hm hb hp cv
      exact ⟨k, by lia⟩
    by_cases cw : t0 + 5 < t4
    · have p1 := hp t0
      have p2 := hp (t4 - 5)
      rw [Int.sub_add_cancel] at p2
      have p3 := hb (t0 + 5) t4 (Int.le_of_lt cw)
      have z := cv (a4 - b t4) (a0 - b t0) (a0 - b (t4 - 5)) (a4 - b (t0 + 5)) (by lia) (by lia) (by lia)
      obtain ⟨k, hk⟩ := ih (t4 - 5) t1 t2 t3 (t0 + 5) (by
        rw [show (t4 - 5) % 5 = t4 % 5 by lia, show (t0 + 5) % 5 = t0 % 5 by lia]
        exact (List.Perm.nodup_iff (ends5 ..)).mpr hd) (step_lt (ms5_w cw) hm)
      clear ih hd hm hb hp cv p1 p2 p3
      exact ⟨k, by lia⟩
    clear ih hm hb hp cv hw h0 h1 h2 h3
    simp only [List.nodup_cons, List.mem_cons, List.not_mem_nil, or_false, not_or] at hd
    obtain ⟨⟨d01, d02, d03, d04⟩, ⟨d12, d13, d14⟩, ⟨d23, d24⟩, d34, _⟩ := hd
    have c0 : t0 < t1 := lt_of_rem (m := 5) (Int.not_lt.mp c0) d01
    have c1 : t1 < t2 := lt_of_rem (m := 5) (Int.not_lt.mp c1) d12
    have c2 : t2 < t3 := lt_of_rem (m := 5) (Int.not_lt.mp c2) d23
    have c3 : t3 < t4 := lt_of_rem (m := 5) (Int.not_lt.mp c3) d34
    have cw : t4 < t0 + 5 := lt_of_rem (m := 5) (Int.not_lt.mp cw) (fun e => d04 (by lia))
    clear d01 d02 d03 d04 d12 d13 d14 d23 d24 d34
    refine ⟨t0, Int.le_of_eq ?_⟩
    rw [show t1 = t0 + 1 by lia, show t2 = t0 + 2 by lia, show t3 = t0 + 3 by lia, show t4 = t0 + 4 by lia, show t0 + 0 = t0 by lia]

-- plain law: the best pairing is a turn
noncomputable def Bx (n : Int) (B : List Int) (z : Int) : Int := B.getD (z % n).toNat 0 + 64 * (z / n)
theorem em_add (i k n : Int) : (i + k % n) % n = (k + i) % n := by rw [Int.add_comm i, Int.emod_add_emod]
theorem way_cases (a b : Int) : ∃ r q, a - b = 64 * q + r ∧ 0 ≤ r ∧ r < 64 ∧ (r ≤ 32 ∧ way a b = r ∨ 32 ≤ r ∧ way a b = 64 - r) := by
  have r0 : 0 ≤ (a - b) % 64 := Int.emod_nonneg _ (by decide)
  have r1 : (a - b) % 64 < 64 := Int.emod_lt_of_pos _ (by decide)
  refine ⟨(a - b) % 64, (a - b) / 64, (Int.mul_ediv_add_emod _ _).symm, r0, r1, ?_⟩
  have h : (b - a) % 64 + (a - b) % 64 = 64 ∨ ((b - a) % 64 = 0 ∧ (a - b) % 64 = 0) := by omega
  unfold way
  generalize (a - b) % 64 = r at r0 r1 h ⊢
  generalize (b - a) % 64 = s at h ⊢
  rcases Int.le_total r s with c | c
  · rw [Int.min_eq_left c]; omega
  · rw [Int.min_eq_right c]; omega
theorem way_lift {φ : Int → Int} (ev : ∀ x y : Int, x.natAbs ≤ y.natAbs → φ x ≤ φ y) (a b : Int) : ∃ m : Int, φ (way a b) = φ (a - (b + 64 * m)) := by
  have key : ∃ m : Int, (way a b).natAbs = (a - (b + 64 * m)).natAbs := by
    obtain ⟨r, q, e, _, _, ⟨_, h⟩ | ⟨_, h⟩⟩ := way_cases a b
    · refine ⟨q, ?_⟩
      rw [h, show a - (b + 64 * q) = r by omega]
    · refine ⟨q + 1, ?_⟩
      rw [h, show a - (b + 64 * (q + 1)) = -(64 - r) by omega, Int.natAbs_neg]
  obtain ⟨m, e⟩ := key
  exact ⟨m, Int.le_antisymm (ev _ _ (Nat.le_of_eq e)) (ev _ _ (Nat.le_of_eq e.symm))⟩
theorem way_lower {φ : Int → Int} (ev : ∀ x y : Int, x.natAbs ≤ y.natAbs → φ x ≤ φ y) (a b m : Int) : φ (way a b) ≤ φ (a - (b + 64 * m)) := ev _ _ (by
  obtain ⟨r, q, e, _, _, h⟩ := way_cases a b
  generalize way a b = k at h
  rw [show a - (b + 64 * m) = 64 * (q - m) + r by omega]
  generalize q - m = n
  clear e
  omega)
theorem nodup_cast {l : List Nat} (h : l.Nodup) : (l.map fun j : Nat => (j : Int)).Nodup := List.pairwise_map.mpr (List.Pairwise.imp (fun {a b} h e => h (Int.ofNat.inj e)) h)
theorem lt_big (x : Int) (S : Nat) : x < ((x.toNat + S + 1 : Nat) : Int) - S := by lia
theorem getD_range {B : List Int} (rB : ∀ b ∈ B, 0 ≤ b ∧ b < 64) {j : Nat} (h : j < B.length) : 0 ≤ B.getD j 0 ∧ B.getD j 0 < 64 := by
  rw [List.getD_eq_getElem?_getD, List.getElem?_eq_getElem h]
  exact rB _ (List.getElem_mem h)
theorem rem4 {j : Nat} {m : Int} (h : j < 4) : ((j : Int) + 4 * m) % 4 = j := by lia
theorem Bx4_at (B : List Int) {j : Nat} {m : Int} (h : j < 4) : Bx 4 B ((j : Int) + 4 * m) = B.getD j 0 + 64 * m := by
  unfold Bx
  rw [show ((j : Int) + 4 * m) % 4 = j by lia, show ((j : Int) + 4 * m) / 4 = m by lia, Int.toNat_natCast]
theorem Bx4_next (B : List Int) (z : Int) : Bx 4 B (z + 4) = Bx 4 B z + 64 := by
  unfold Bx
  rw [show (z + 4) % 4 = z % 4 by lia, show (z + 4) / 4 = z / 4 + 1 by lia]
  lia
theorem Bx4_mono {B : List Int} (hB : Srt B) (lb : B.length = 4) (rB : ∀ b ∈ B, 0 ≤ b ∧ b < 64) (z z' : Int) (h : z ≤ z') : Bx 4 B z ≤ Bx 4 B z' := by
  unfold Bx
  have r1 := getD_range rB (j := (z % 4).toNat) (by lia)
  have r2 := getD_range rB (j := (z' % 4).toNat) (by lia)
  rcases Int.lt_or_le (z / 4) (z' / 4) with h1 | h1
  · lia
  · have := srt_get hB (i := (z % 4).toNat) (j := (z' % 4).toNat) (by lia) (by lia)
    lia
theorem spin4 (k : Int) : ((List.range 4).map fun (i : Nat) => (((i : Int) + k) % 4).toNat).Perm (List.range 4) := by
  have e : ((List.range 4).map fun (i : Nat) => (((i : Int) + k) % 4).toNat) = (List.range 4).map fun (i : Nat) => (((i : Int) + ((k % 4).toNat : Int)) % 4).toNat :=
    List.map_congr_left fun i _ => by rw [Int.toNat_of_nonneg (Int.emod_nonneg _ (by decide)), Int.add_comm (i : Int) (k % _), Int.emod_add_emod, Int.add_comm k]
  rw [e]
  have key : ∀ r : Nat, r < 4 → ((List.range 4).map fun (i : Nat) => (((i : Int) + (r : Int)) % 4).toNat).Perm (List.range 4) := by decide
  exact key _ (by lia)
theorem rem5 {j : Nat} {m : Int} (h : j < 5) : ((j : Int) + 5 * m) % 5 = j := by omega
theorem Bx5_at (B : List Int) {j : Nat} {m : Int} (h : j < 5) : Bx 5 B ((j : Int) + 5 * m) = B.getD j 0 + 64 * m := by
  unfold Bx
  rw [show ((j : Int) + 5 * m) % 5 = j by lia, show ((j : Int) + 5 * m) / 5 = m by lia, Int.toNat_natCast]
theorem Bx5_next (B : List Int) (z : Int) : Bx 5 B (z + 5) = Bx 5 B z + 64 := by
  unfold Bx
  rw [show (z + 5) % 5 = z % 5 by lia, show (z + 5) / 5 = z / 5 + 1 by lia]
  lia
theorem Bx5_mono {B : List Int} (hB : Srt B) (lb : B.length = 5) (rB : ∀ b ∈ B, 0 ≤ b ∧ b < 64) (z z' : Int) (h : z ≤ z') : Bx 5 B z ≤ Bx 5 B z' := by
  unfold Bx
  have r1 := getD_range rB (j := (z % 5).toNat) (by lia)
  have r2 := getD_range rB (j := (z' % 5).toNat) (by lia)
  rcases Int.lt_or_le (z / 5) (z' / 5) with h1 | h1
  · lia
  · have := srt_get hB (i := (z % 5).toNat) (j := (z' % 5).toNat) (by lia) (by lia)
    lia
theorem spin5 (k : Int) : ((List.range 5).map fun (i : Nat) => (((i : Int) + k) % 5).toNat).Perm (List.range 5) := by
  have e : ((List.range 5).map fun (i : Nat) => (((i : Int) + k) % 5).toNat) = (List.range 5).map fun (i : Nat) => (((i : Int) + ((k % 5).toNat : Int)) % 5).toNat :=
    List.map_congr_left fun i _ => by rw [Int.toNat_of_nonneg (Int.emod_nonneg _ (by decide)), Int.add_comm (i : Int) (k % _), Int.emod_add_emod, Int.add_comm k]
  rw [e]
  have key : ∀ r : Nat, r < 5 → ((List.range 5).map fun (i : Nat) => (((i : Int) + (r : Int)) % 5).toNat).Perm (List.range 5) := by decide
  exact key _ (by lia)
theorem turn_at4 {φ : Int → Int} (cv : Cvx φ) (ev : ∀ x y : Int, x.natAbs ≤ y.natAbs → φ x ≤ φ y) {A B : List Int} (hA : Srt A) (hB : Srt B) (la : A.length = 4) (lb : B.length = 4) (rA : ∀ a ∈ A, 0 ≤ a ∧ a < 64) (rB : ∀ b ∈ B, 0 ≤ b ∧ b < 64)
    {W : List (Int × Int)} (h : Prs A B W) : ∃ k : Nat, k < B.length ∧ ((turnL A B (k : Int)).map φ).sum ≤ (W.map fun ab => φ (wy ab)).sum := by
  obtain ⟨_, js, hj, hp⟩ := prs_prOf h
  rw [prs_sum hp φ, prOf_sum]
  have lj := hj.length_eq
  rw [List.length_range, lb] at lj
  have nd : js.Nodup := hj.nodup_iff.mpr List.nodup_range
  have jb : ∀ j ∈ js, j < 4 := fun j hm => by have := hj.mem_iff.mp hm; rw [List.mem_range, lb] at this; exact this
  clear hj hp h
  match js, lj with
  | [j0, j1, j2, j3], _ =>
  match A, la with
  | [a0, a1, a2, a3], _ =>
  have lc : ((B.length : Nat) : Int) = 4 := by rw [lb]; rfl
  simp only [List.mem_cons, List.not_mem_nil, or_false, forall_eq_or_imp, forall_eq] at jb rA
  simp only [Srt, List.pairwise_cons, List.mem_cons, List.not_mem_nil, or_false, forall_eq_or_imp, forall_eq] at hA
  obtain ⟨m0, e0⟩ := way_lift ev a0 (B.getD j0 0)
  have x0 : Bx 4 B ((j0 : Int) + 4 * m0) = B.getD j0 0 + 64 * m0 := Bx4_at B (by lia)
  obtain ⟨m1, e1⟩ := way_lift ev a1 (B.getD j1 0)
  have x1 : Bx 4 B ((j1 : Int) + 4 * m1) = B.getD j1 0 + 64 * m1 := Bx4_at B (by lia)
  obtain ⟨m2, e2⟩ := way_lift ev a2 (B.getD j2 0)
  have x2 : Bx 4 B ((j2 : Int) + 4 * m2) = B.getD j2 0 + 64 * m2 := Bx4_at B (by lia)
  obtain ⟨m3, e3⟩ := way_lift ev a3 (B.getD j3 0)
  have x3 : Bx 4 B ((j3 : Int) + 4 * m3) = B.getD j3 0 + 64 * m3 := Bx4_at B (by lia)
  have r0 : ((j0 : Int) + 4 * m0) % 4 = j0 := rem4 (jb.1)
  have r1 : ((j1 : Int) + 4 * m1) % 4 = j1 := rem4 (jb.2.1)
  have r2 : ((j2 : Int) + 4 * m2) % 4 = j2 := rem4 (jb.2.2.1)
  have r3 : ((j3 : Int) + 4 * m3) % 4 = j3 := rem4 jb.2.2.2
  have hd : [((j0 : Int) + 4 * m0) % 4, ((j1 : Int) + 4 * m1) % 4, ((j2 : Int) + 4 * m2) % 4, ((j3 : Int) + 4 * m3) % 4].Nodup := by
    rw [r0, r1, r2, r3]
    exact nodup_cast nd
  obtain ⟨k, hk⟩ := unc4 cv (a0 := a0) (a1 := a1) (a2 := a2) (a3 := a3) (by lia) (by lia) (by lia) (by lia) (Bx4_mono hB lb rB) (Bx4_next B) ((ms4 ((j0 : Int) + 4 * m0) ((j1 : Int) + 4 * m1) ((j2 : Int) + 4 * m2) ((j3 : Int) + 4 * m3)).toNat + 14 + 1) ((j0 : Int) + 4 * m0) ((j1 : Int) + 4 * m1) ((j2 : Int) + 4 * m2) ((j3 : Int) + 4 * m3) hd (lt_big _ _)
  clear hd hA rA rB nd jb hB cv r0 r1 r2 r3
  have kb : ((k % 4).toNat : Int) = k % 4 := by lia
  refine ⟨(k % 4).toNat, by rw [lb]; lia, ?_⟩
  rw [x0, x1, x2, x3] at hk
  have tl : turnL [a0, a1, a2, a3] B ((k % 4).toNat : Int) = [way a0 (B.getD ((0 + ((k % 4).toNat : Int)) % (B.length : Int)).toNat 0), way a1 (B.getD ((1 + ((k % 4).toNat : Int)) % (B.length : Int)).toNat 0), way a2 (B.getD ((2 + ((k % 4).toNat : Int)) % (B.length : Int)).toNat 0), way a3 (B.getD ((3 + ((k % 4).toNat : Int)) % (B.length : Int)).toNat 0)] := rfl
  rw [tl, lc, kb]
  have y0 : φ (way a0 (B.getD ((0 + k % 4) % 4).toNat 0)) ≤ φ (a0 - Bx 4 B (k + 0)) := by
    rw [em_add]
    exact way_lower ev _ _ _
  have y1 : φ (way a1 (B.getD ((1 + k % 4) % 4).toNat 0)) ≤ φ (a1 - Bx 4 B (k + 1)) := by
    rw [em_add]
    exact way_lower ev _ _ _
  have y2 : φ (way a2 (B.getD ((2 + k % 4) % 4).toNat 0)) ≤ φ (a2 - Bx 4 B (k + 2)) := by
    rw [em_add]
    exact way_lower ev _ _ _
  have y3 : φ (way a3 (B.getD ((3 + k % 4) % 4).toNat 0)) ≤ φ (a3 - Bx 4 B (k + 3)) := by
    rw [em_add]
    exact way_lower ev _ _ _
  have sr : List.range [j0, j1, j2, j3].length = [0, 1, 2, 3] := rfl
  rw [sr]
  simp only [List.map_cons, List.map_nil, List.sum_cons, List.sum_nil, List.getD_cons_zero, List.getD_cons_succ]
  lia
theorem turn_at5 {φ : Int → Int} (cv : Cvx φ) (ev : ∀ x y : Int, x.natAbs ≤ y.natAbs → φ x ≤ φ y) {A B : List Int} (hA : Srt A) (hB : Srt B) (la : A.length = 5) (lb : B.length = 5) (rA : ∀ a ∈ A, 0 ≤ a ∧ a < 64) (rB : ∀ b ∈ B, 0 ≤ b ∧ b < 64)
    {W : List (Int × Int)} (h : Prs A B W) : ∃ k : Nat, k < B.length ∧ ((turnL A B (k : Int)).map φ).sum ≤ (W.map fun ab => φ (wy ab)).sum := by
  obtain ⟨_, js, hj, hp⟩ := prs_prOf h
  rw [prs_sum hp φ, prOf_sum]
  have lj := hj.length_eq
  rw [List.length_range, lb] at lj
  have nd : js.Nodup := hj.nodup_iff.mpr List.nodup_range
  have jb : ∀ j ∈ js, j < 5 := fun j hm => by have := hj.mem_iff.mp hm; rw [List.mem_range, lb] at this; exact this
  clear hj hp h
  match js, lj with
  | [j0, j1, j2, j3, j4], _ =>
  match A, la with
  | [a0, a1, a2, a3, a4], _ =>
  have lc : ((B.length : Nat) : Int) = 5 := by rw [lb]; rfl
  simp only [List.mem_cons, List.not_mem_nil, or_false, forall_eq_or_imp, forall_eq] at jb rA
  simp only [Srt, List.pairwise_cons, List.mem_cons, List.not_mem_nil, or_false, forall_eq_or_imp, forall_eq] at hA
  obtain ⟨m0, e0⟩ := way_lift ev a0 (B.getD j0 0)
  have x0 : Bx 5 B ((j0 : Int) + 5 * m0) = B.getD j0 0 + 64 * m0 := Bx5_at B (by lia)
  obtain ⟨m1, e1⟩ := way_lift ev a1 (B.getD j1 0)
  have x1 : Bx 5 B ((j1 : Int) + 5 * m1) = B.getD j1 0 + 64 * m1 := Bx5_at B (by lia)
  obtain ⟨m2, e2⟩ := way_lift ev a2 (B.getD j2 0)
  have x2 : Bx 5 B ((j2 : Int) + 5 * m2) = B.getD j2 0 + 64 * m2 := Bx5_at B (by lia)
  obtain ⟨m3, e3⟩ := way_lift ev a3 (B.getD j3 0)
  have x3 : Bx 5 B ((j3 : Int) + 5 * m3) = B.getD j3 0 + 64 * m3 := Bx5_at B (by lia)
  obtain ⟨m4, e4⟩ := way_lift ev a4 (B.getD j4 0)
  have x4 : Bx 5 B ((j4 : Int) + 5 * m4) = B.getD j4 0 + 64 * m4 := Bx5_at B (by lia)
  have r0 : ((j0 : Int) + 5 * m0) % 5 = j0 := rem5 (jb.1)
  have r1 : ((j1 : Int) + 5 * m1) % 5 = j1 := rem5 (jb.2.1)
  have r2 : ((j2 : Int) + 5 * m2) % 5 = j2 := rem5 (jb.2.2.1)
  have r3 : ((j3 : Int) + 5 * m3) % 5 = j3 := rem5 (jb.2.2.2.1)
  have r4 : ((j4 : Int) + 5 * m4) % 5 = j4 := rem5 jb.2.2.2.2
  have hd : [((j0 : Int) + 5 * m0) % 5, ((j1 : Int) + 5 * m1) % 5, ((j2 : Int) + 5 * m2) % 5, ((j3 : Int) + 5 * m3) % 5, ((j4 : Int) + 5 * m4) % 5].Nodup := by
    rw [r0, r1, r2, r3, r4]
    exact nodup_cast nd
  obtain ⟨k, hk⟩ := unc5 cv (a0 := a0) (a1 := a1) (a2 := a2) (a3 := a3) (a4 := a4) (by lia) (by lia) (by lia) (by lia) (by lia) (Bx5_mono hB lb rB) (Bx5_next B) ((ms5 ((j0 : Int) + 5 * m0) ((j1 : Int) + 5 * m1) ((j2 : Int) + 5 * m2) ((j3 : Int) + 5 * m3) ((j4 : Int) + 5 * m4)).toNat + 30 + 1) ((j0 : Int) + 5 * m0) ((j1 : Int) + 5 * m1) ((j2 : Int) + 5 * m2) ((j3 : Int) + 5 * m3) ((j4 : Int) + 5 * m4) hd (lt_big _ _)
  clear hd hA rA rB nd jb hB cv r0 r1 r2 r3 r4
  have kb : ((k % 5).toNat : Int) = k % 5 := by lia
  refine ⟨(k % 5).toNat, by rw [lb]; lia, ?_⟩
  rw [x0, x1, x2, x3, x4] at hk
  have tl : turnL [a0, a1, a2, a3, a4] B ((k % 5).toNat : Int) = [way a0 (B.getD ((0 + ((k % 5).toNat : Int)) % (B.length : Int)).toNat 0), way a1 (B.getD ((1 + ((k % 5).toNat : Int)) % (B.length : Int)).toNat 0), way a2 (B.getD ((2 + ((k % 5).toNat : Int)) % (B.length : Int)).toNat 0), way a3 (B.getD ((3 + ((k % 5).toNat : Int)) % (B.length : Int)).toNat 0), way a4 (B.getD ((4 + ((k % 5).toNat : Int)) % (B.length : Int)).toNat 0)] := rfl
  rw [tl, lc, kb]
  have y0 : φ (way a0 (B.getD ((0 + k % 5) % 5).toNat 0)) ≤ φ (a0 - Bx 5 B (k + 0)) := by
    rw [em_add]
    exact way_lower ev _ _ _
  have y1 : φ (way a1 (B.getD ((1 + k % 5) % 5).toNat 0)) ≤ φ (a1 - Bx 5 B (k + 1)) := by
    rw [em_add]
    exact way_lower ev _ _ _
  have y2 : φ (way a2 (B.getD ((2 + k % 5) % 5).toNat 0)) ≤ φ (a2 - Bx 5 B (k + 2)) := by
    rw [em_add]
    exact way_lower ev _ _ _
  have y3 : φ (way a3 (B.getD ((3 + k % 5) % 5).toNat 0)) ≤ φ (a3 - Bx 5 B (k + 3)) := by
    rw [em_add]
    exact way_lower ev _ _ _
  have y4 : φ (way a4 (B.getD ((4 + k % 5) % 5).toNat 0)) ≤ φ (a4 - Bx 5 B (k + 4)) := by
    rw [em_add]
    exact way_lower ev _ _ _
  have sr : List.range [j0, j1, j2, j3, j4].length = [0, 1, 2, 3, 4] := rfl
  rw [sr]
  simp only [List.map_cons, List.map_nil, List.sum_cons, List.sum_nil, List.getD_cons_zero, List.getD_cons_succ]
  lia
/-- what all of the plain law leans on: two rows of four or five, and their sorted kin -/
structure Rows (p q A B : List Int) : Prop where
  la : A.length = 4 ∨ A.length = 5
  lb : B.length = A.length
  sA : Srt A
  sB : Srt B
  pA : A.Perm p
  pB : B.Perm q
  rA : ∀ a ∈ A, 0 ≤ a ∧ a < 64
  rB : ∀ b ∈ B, 0 ≤ b ∧ b < 64
theorem Rows.prs {p q A B : List Int} (h : Rows p q A B) {W : List (Int × Int)} : Prs A B W ↔ Prs p q W :=
  ⟨fun x => ⟨x.1.trans h.pA, x.2.trans h.pB⟩, fun x => ⟨x.1.trans h.pA.symm, x.2.trans h.pB.symm⟩⟩
theorem Rows.best {p q A B : List Int} (h : Rows p q A B) {φ : Int → Int} (cv : Cvx φ) (ev : ∀ x y : Int, x.natAbs ≤ y.natAbs → φ x ≤ φ y) {W : List (Int × Int)} (hW : Prs p q W) :
    ∃ k : Nat, k < A.length ∧ ((turnL A B (k : Int)).map φ).sum ≤ (W.map fun ab => φ (wy ab)).sum := by
  have hW := h.prs.mpr hW
  rw [← h.lb]
  rcases h.la with e | e
  · exact turn_at4 cv ev h.sA h.sB e (h.lb.trans e) h.rA h.rB hW
  · exact turn_at5 cv ev h.sA h.sB e (h.lb.trans e) h.rA h.rB hW
theorem Rows.turn {p q A B : List Int} (h : Rows p q A B) (k : Int) : ∃ W, Prs p q W ∧ turnL A B k = W.map wy := by
  have key : ((List.range B.length).map fun (i : Nat) => (((i : Int) + k) % (B.length : Int)).toNat).Perm (List.range B.length) := by
    rcases h.la with e | e <;> rw [h.lb, e]
    · exact spin4 k
    · exact spin5 k
  refine ⟨_, h.prs.mp (prOf_prs h.lb.symm key), ?_⟩
  unfold prOf turnL
  rw [List.map_map, List.length_map, List.length_range, h.lb]
  refine List.map_congr_left fun i hi => ?_
  have hi := List.mem_range.mp hi
  simp only [Function.comp, wy]
  rw [List.getD_eq_getElem?_getD (l := List.map _ _), List.getElem?_map, List.getElem?_range hi]
  rfl
theorem abs_two (x : Int) : x ≤ x.natAbs ∧ -x ≤ x.natAbs ∧ ((x.natAbs : Int) = x ∨ (x.natAbs : Int) = -x) := by omega
theorem cvx_abs : Cvx fun x => (x.natAbs : Int) := fun x y z w h1 h2 h3 => by
  show (z.natAbs : Int) + w.natAbs ≤ x.natAbs + y.natAbs
  obtain ⟨x1, x2, _⟩ := abs_two x
  obtain ⟨y1, y2, _⟩ := abs_two y
  obtain ⟨_, _, hz⟩ := abs_two z
  obtain ⟨_, _, hw⟩ := abs_two w
  generalize (x.natAbs : Int) = X at x1 x2 ⊢
  generalize (y.natAbs : Int) = Y at y1 y2 ⊢
  rcases hz with hz | hz <;> rcases hw with hw | hw <;> rw [hz, hw] <;> clear hz hw <;> omega
theorem cvx_sq : Cvx fun x => x * x := fun x y z w h1 h2 h3 => by
  show z * z + w * w ≤ x * x + y * y
  obtain ⟨s, rfl⟩ : ∃ s, z = x + s := ⟨z - x, by lia⟩
  obtain ⟨t, rfl⟩ : ∃ t, w = x + t := ⟨w - x, by lia⟩
  obtain rfl : y = x + (s + t) := by lia
  have hs : 0 ≤ s := by lia
  have ht : 0 ≤ t := by lia
  have hst := Int.mul_nonneg hs ht
  simp only [Int.add_mul, Int.mul_add, Int.mul_comm t s, Int.mul_comm s x, Int.mul_comm t x]
  lia
theorem over_aux {a b c d w₀ : Int} (e1 : c + d ≤ a + b) (e2 : c ≤ a ∨ c ≤ b) (e3 : d ≤ a ∨ d ≤ b) : max 0 (c - w₀) + max 0 (d - w₀) ≤ max 0 (a - w₀) + max 0 (b - w₀) := by
  have a1 := Int.le_max_left 0 (a - w₀)
  have a2 := Int.le_max_right 0 (a - w₀)
  have b1 := Int.le_max_left 0 (b - w₀)
  have b2 := Int.le_max_right 0 (b - w₀)
  generalize max 0 (a - w₀) = A at a1 a2 ⊢
  generalize max 0 (b - w₀) = B at b1 b2 ⊢
  rcases Int.le_total (c - w₀) 0 with hc | hc
  · rw [Int.max_eq_left hc]
    rcases Int.le_total (d - w₀) 0 with hd | hd
    · rw [Int.max_eq_left hd]; omega
    · rw [Int.max_eq_right hd]; omega
  · rw [Int.max_eq_right hc]
    rcases Int.le_total (d - w₀) 0 with hd | hd
    · rw [Int.max_eq_left hd]; omega
    · rw [Int.max_eq_right hd]; omega
theorem abs_mid {x y z : Int} (h1 : x ≤ z) (h2 : z ≤ y) : (z.natAbs : Int) ≤ x.natAbs ∨ (z.natAbs : Int) ≤ y.natAbs := by omega
theorem cvx_over (w₀ : Int) : Cvx fun x => max 0 ((x.natAbs : Int) - w₀) := fun x y z w h1 h2 h3 =>
  over_aux (cvx_abs x y z w h1 h2 h3) (abs_mid (by omega) (by omega)) (abs_mid (by omega) (by omega))
theorem sq_abs (x y : Int) (h : x.natAbs ≤ y.natAbs) : x * x ≤ y * y := by
  rw [← Int.natAbs_mul_self, ← Int.natAbs_mul_self (a := y)]
  exact_mod_cast Nat.mul_le_mul h h
theorem abs_wy (W : List (Int × Int)) : (W.map fun ab => ((wy ab).natAbs : Int)).sum = (W.map fun ab => wy ab).sum := by
  congr 1
  refine List.map_congr_left fun ab _ => ?_
  have := way_bounds ab.1 ab.2
  unfold wy
  lia
theorem abs_turn (A B : List Int) (k : Int) : ((turnL A B k).map fun x => (x.natAbs : Int)).sum = (turnL A B k).sum := by
  congr 1
  conv => rhs; rw [← List.map_id (turnL A B k)]
  refine List.map_congr_left fun x hx => ?_
  have := turnL_bounds hx
  show (x.natAbs : Int) = x
  lia
theorem over_sum {l : List Int} {w : Int} (h : ∀ x ∈ l, 0 ≤ x) : (0 ≤ (l.map fun x => max 0 ((x.natAbs : Int) - w)).sum) ∧ ((l.map fun x => max 0 ((x.natAbs : Int) - w)).sum ≤ 0 ↔ ∀ x ∈ l, x ≤ w) := by
  induction l with
  | nil => simp
  | cons a r ih =>
    obtain ⟨i1, i2⟩ := ih fun x hx => h x (List.mem_cons_of_mem _ hx)
    have h0 := h a List.mem_cons_self
    simp only [List.map_cons, List.sum_cons, List.mem_cons, forall_eq_or_imp]
    refine ⟨by omega, ⟨fun e => ⟨by omega, i2.mp (by omega)⟩, fun ⟨e1, e2⟩ => ?_⟩⟩
    have := i2.mpr e2
    omega
section
variable {p q A B : List Int} (h : Rows p q A B)
include h
theorem Rows.lens : p.length = q.length ∧ q.length ≤ 5 ∧ 0 < A.length := by
  have h1 := h.pA.length_eq
  have h2 := h.pB.length_eq
  have h3 := h.lb
  rcases h.la with e | e <;> lia
theorem Rows.one : turnsS A B = (pairQ p q).1 := by
  obtain ⟨h1, h2, h3⟩ := h.lens
  obtain ⟨⟨W, hW, e⟩, hl⟩ := one_spec h1 h2
  refine Int.le_antisymm ?_ ?_
  · obtain ⟨k, hk, hle⟩ := h.best cvx_abs (fun x y e => by lia) hW
    rw [abs_wy, ← e, abs_turn] at hle
    exact Int.le_trans (minL_le (List.mem_map.mpr ⟨k, List.mem_range.mpr hk, rfl⟩)) hle
  · obtain ⟨k, _, e⟩ := List.mem_map.mp (minL_mem (l := (List.range A.length).map fun (i : Nat) => (turnL A B (i : Int)).sum) (by simpa using h3))
    obtain ⟨W, hW, ew⟩ := h.turn (k : Int)
    have := hl W hW
    rw [ew] at e
    exact Int.le_trans this (Int.le_of_eq e)
theorem Rows.two : turnsQ A B = (pairQ p q).2.1 := by
  obtain ⟨h1, h2, h3⟩ := h.lens
  obtain ⟨⟨W, hW, e⟩, hl⟩ := two_spec h1 h2
  refine Int.le_antisymm ?_ ?_
  · obtain ⟨k, hk, hle⟩ := h.best cvx_sq sq_abs hW
    rw [← e] at hle
    exact Int.le_trans (minL_le (List.mem_map.mpr ⟨k, List.mem_range.mpr hk, rfl⟩)) hle
  · obtain ⟨k, _, e⟩ := List.mem_map.mp (minL_mem (l := (List.range A.length).map fun (i : Nat) => ((turnL A B (i : Int)).map fun x => x * x).sum) (by simpa using h3))
    obtain ⟨W, hW, ew⟩ := h.turn (k : Int)
    have := hl W hW
    rw [ew, List.map_map] at e
    exact Int.le_trans this (Int.le_of_eq e)
theorem Rows.worst : turnsW A B = (pairQ p q).2.2.1 := by
  obtain ⟨h1, h2, h3⟩ := h.lens
  obtain ⟨⟨W, hW, e⟩, hl⟩ := worst_spec h1 h2
  refine Int.le_antisymm ?_ ?_
  · obtain ⟨k, hk, hle⟩ := h.best (cvx_over (pairQ p q).2.2.1) (fun x y e => by omega) hW
    have z1 : (W.map fun ab => max 0 (((wy ab).natAbs : Int) - (pairQ p q).2.2.1)).sum ≤ 0 := by
      have := (over_sum (l := W.map wy) (w := (pairQ p q).2.2.1) (fun x hx => by obtain ⟨ab, _, rfl⟩ := List.mem_map.mp hx; exact (way_bounds _ _).1)).2.mpr (fun x hx => by obtain ⟨ab, hab, rfl⟩ := List.mem_map.mp hx; exact e ab hab)
      rwa [List.map_map] at this
    have z2 := (over_sum (l := turnL A B (k : Int)) (fun x hx => (turnL_bounds hx).1)).2.mp (Int.le_trans hle z1)
    have z3 := z2 _ (maxL_mem (l := turnL A B (k : Int)) (by rw [turnL_length]; exact h3))
    exact Int.le_trans (minL_le (List.mem_map.mpr ⟨k, List.mem_range.mpr hk, rfl⟩)) z3
  · obtain ⟨k, _, e⟩ := List.mem_map.mp (minL_mem (l := (List.range A.length).map fun (i : Nat) => maxL (turnL A B (i : Int))) (by simpa using h3))
    obtain ⟨W, hW, ew⟩ := h.turn (k : Int)
    have z0 : 0 ≤ maxL (turnL A B (k : Int)) := (turnL_bounds (maxL_mem (l := turnL A B (k : Int)) (by rw [turnL_length]; exact h3))).1
    have := hl W hW _ z0 (fun ab hab => le_maxL (by rw [ew]; exact List.mem_map.mpr ⟨ab, hab, rfl⟩))
    exact Int.le_trans this (Int.le_of_eq e)
end
/-- the row of opposites -/
theorem way_opp {a b : Int} : way a ((b + 32) % 64) = 32 - way a b := by
  obtain ⟨r, q, e, r0, r1, h⟩ := way_cases a b
  obtain ⟨r', q', e', r0', r1', h'⟩ := way_cases a ((b + 32) % 64)
  have k : (b + 32) % 64 = b + 32 - 64 * ((b + 32) / 64) := by omega
  rw [k] at e'
  generalize way a ((b + 32) % 64) = y at h' ⊢
  generalize way a b = x at h ⊢
  generalize (b + 32) / 64 = u at e'
  have z : r' = r + 32 ∨ r' = r - 32 := by omega
  clear e e' k
  omega
theorem opp_sum (W : List (Int × Int)) : (W.map fun ab => wy (ab.1, (ab.2 + 32) % 64)).sum = 32 * (W.length : Int) - (W.map fun ab => wy ab).sum := by
  induction W with
  | nil => rfl
  | cons x r ih =>
    simp only [List.map_cons, List.sum_cons, List.length_cons, ih]
    have : wy (x.1, (x.2 + 32) % 64) = 32 - wy x := way_opp
    rw [this]
    lia
theorem opp_prs {p q : List Int} {W : List (Int × Int)} (h : Prs p q W) : Prs p (q.map fun b => (b + 32) % 64) (W.map fun ab => (ab.1, (ab.2 + 32) % 64)) := by
  refine ⟨?_, ?_⟩
  · rw [List.map_map]; exact h.1
  · rw [List.map_map]
    have := h.2.map fun b => (b + 32) % 64
    rwa [List.map_map] at this
theorem opp_back {q : List Int} (hq : ∀ b ∈ q, 0 ≤ b ∧ b < 64) : ((q.map fun b => (b + 32) % 64).map fun b => (b + 32) % 64) = q := by
  rw [List.map_map]
  conv => rhs; rw [← List.map_id q]
  refine List.map_congr_left fun b hb => ?_
  have := hq b hb
  show ((b + 32) % 64 + 32) % 64 = b
  lia
theorem most_opp {p q A C : List Int} (h : Rows p (q.map fun b => (b + 32) % 64) A C) (hq : ∀ b ∈ q, 0 ≤ b ∧ b < 64) : (pairQ p q).2.2.2 = 32 * (A.length : Int) - turnsS A C := by
  obtain ⟨h1, h2, h3⟩ := h.lens
  rw [h.one]
  have hl := h.pA.length_eq
  have wl : ∀ {q : List Int} {W : List (Int × Int)}, Prs p q W → W.length = A.length := fun x => by have := x.1.length_eq; rw [List.length_map] at this; lia
  obtain ⟨⟨W, hW, e⟩, l1⟩ := one_spec h1 h2
  rw [List.length_map] at h1 h2
  obtain ⟨⟨W', hW', e'⟩, l2⟩ := most_spec h1 h2
  have a1 := l1 _ (opp_prs hW')
  rw [List.map_map] at a1
  have a2 : (W'.map ((fun ab => wy ab) ∘ fun ab : Int × Int => (ab.1, (ab.2 + 32) % 64))).sum = _ := opp_sum W'
  rw [a2, ← e', wl hW'] at a1
  have b0 := opp_prs hW
  rw [opp_back hq] at b0
  have b1 := l2 _ b0
  rw [List.map_map] at b1
  have b2 : (W.map ((fun ab => wy ab) ∘ fun ab : Int × Int => (ab.1, (ab.2 + 32) % 64))).sum = _ := opp_sum W
  rw [b2, ← e, wl hW] at b1
  lia

-- plain law: what the levels tell
noncomputable def wsum (g : Int → Int) (s : Int) : Nat → Int
  | 0 => 0
  | k + 1 => wsum g s k + g (s + k)
theorem wsum_congr {g g' : Int → Int} {s : Int} {k : Nat} (h : ∀ t, s ≤ t → t < s + k → g t = g' t) : wsum g s k = wsum g' s k := by
  induction k with
  | zero => rfl
  | succ k ih =>
    simp only [wsum]
    rw [ih fun t h1 h2 => h t h1 (by lia), h _ (by lia) (by lia)]
theorem wsum_le {g g' : Int → Int} {s : Int} {k : Nat} (h : ∀ t, s ≤ t → t < s + k → g t ≤ g' t) : wsum g s k ≤ wsum g' s k := by
  induction k with
  | zero => exact Int.le_refl _
  | succ k ih =>
    simp only [wsum]
    have := ih fun t h1 h2 => h t h1 (by lia)
    have := h (s + k) (by lia) (by lia)
    lia
theorem wsum_add {g g' : Int → Int} {s : Int} {k : Nat} : wsum (fun t => g t + g' t) s k = wsum g s k + wsum g' s k := by
  induction k with
  | zero => rfl
  | succ k ih => simp only [wsum, ih]; lia
theorem wsum_neg {g : Int → Int} {s : Int} {k : Nat} : wsum (fun t => -g t) s k = -wsum g s k := by
  induction k with
  | zero => rfl
  | succ k ih => simp only [wsum, ih]; lia
theorem wsum_const {c : Int} {s : Int} {k : Nat} : wsum (fun _ => c) s k = c * k := by
  induction k with
  | zero => simp [wsum]
  | succ k ih => simp only [wsum, ih, Int.natCast_succ, Int.mul_add, Int.mul_one]
theorem wsum_join {g : Int → Int} {s : Int} (a : Nat) : ∀ b : Nat, wsum g s (a + b) = wsum g s a + wsum g (s + a) b
  | 0 => by simp [wsum]
  | b + 1 => by
    rw [← Nat.add_assoc]
    simp only [wsum]
    rw [wsum_join a b, show s + ((a + b : Nat) : Int) = s + a + b by lia]
    lia
noncomputable def ind (a t : Int) : Int := if a ≤ t then 1 else 0
theorem ind_bit (a t : Int) : (a ≤ t ∧ ind a t = 1) ∨ (t < a ∧ ind a t = 0) := by unfold ind; split <;> lia
noncomputable def bt (F i : Nat) : Int := if i < F then 1 else 0
theorem ind_in {a t : Int} (h : a ≤ t) {F i : Nat} (hi : i < F := by decide) : ind a t = bt F i := by unfold ind bt; rw [if_pos h, if_pos hi]
theorem ind_out {a t : Int} (h : t < a) {F i : Nat} (hi : ¬ i < F := by decide) : ind a t = bt F i := by unfold ind bt; rw [if_neg (by lia), if_neg hi]
theorem abs_up {x : Int} (h : 0 ≤ x) : (x.natAbs : Int) = x := by lia
theorem abs_dn {x : Int} (h : x ≤ 0) : (x.natAbs : Int) = -x := by lia
theorem near_ge {k κ u : Int} (h : k = κ ∨ k = κ + 1) (hu : u ≤ κ) : u ≤ k := by omega
theorem near_le {k κ u : Int} (h : k = κ ∨ k = κ + 1) (hu : κ ≤ u) (hn : ¬ u = κ) : k ≤ u := by lia
theorem near_up {k κ u : Int} (h : k = κ ∨ k = κ + 1) (hu : u ≤ κ) : ((k - u).natAbs : Int) = k - u := abs_up (Int.sub_nonneg_of_le (near_ge h hu))
theorem near_dn {k κ u : Int} (h : k = κ ∨ k = κ + 1) (hu : κ ≤ u) (hn : ¬ u = κ) : ((k - u).natAbs : Int) = -(k - u) := abs_dn (Int.sub_nonpos_of_le (near_le h hu hn))
theorem spot_in (a b c u : Int) : a - b + (c - u) = a - b + c - u := by lia
theorem spot_end (a b r m : Int) : a - b - r - m = a - b - (m + r) := by lia
theorem wsum_ind {a s : Int} (h : s ≤ a) : ∀ k : Nat, wsum (ind a) s k = if a ≤ s + k then s + k - a else 0
  | 0 => by simp only [wsum]; split <;> omega
  | k + 1 => by
    simp only [wsum]
    rw [wsum_ind h k]
    rcases ind_bit a (s + k) with h1 | h1 <;> (split <;> split) <;> omega
theorem wsum_sub {g g' : Int → Int} {s : Int} {k : Nat} : wsum (fun t => g t - g' t) s k = wsum g s k - wsum g' s k := by
  induction k with
  | zero => rfl
  | succ k ih => simp only [wsum, ih]; lia
theorem ind_01 (a t : Int) : 0 ≤ ind a t ∧ ind a t ≤ 1 := by unfold ind; split <;> decide
theorem ind_mono {a b t : Int} (h : a ≤ b) : ind b t ≤ ind a t := by
  rcases ind_bit b t with ⟨c, e⟩ | ⟨_, e⟩
  · rw [e, show ind a t = 1 from if_pos (Int.le_trans h c)]; decide
  · rw [e]; exact (ind_01 a t).1
theorem ind_up {a b t m : Int} (h : 1 ≤ m ∨ (m = 0 ∧ a ≤ b)) : 0 ≤ ind a t - ind b t + m := by
  obtain ⟨x, _⟩ := ind_01 a t
  obtain ⟨_, y⟩ := ind_01 b t
  have z : m = 0 → ind b t ≤ ind a t := fun e => ind_mono (h.elim (fun h => by omega) fun h => h.2)
  generalize ind a t = p at x z ⊢
  generalize ind b t = q at y z ⊢
  omega
theorem ind_dn {a b t m : Int} (h : m ≤ -1 ∨ (m = 0 ∧ b ≤ a)) : ind a t - ind b t + m ≤ 0 := by
  obtain ⟨_, x⟩ := ind_01 a t
  obtain ⟨y, _⟩ := ind_01 b t
  have z : m = 0 → ind a t ≤ ind b t := fun e => ind_mono (h.elim (fun h => by omega) fun h => h.2)
  generalize ind a t = p at x z ⊢
  generalize ind b t = q at y z ⊢
  omega
/-- a way's length is the gaps that it goes over -/
theorem span_wsum {s a b : Int} (h1 : s ≤ a) (h2 : a < s + 64) (h3 : s ≤ b) (h4 : b < s + 64) (m : Int) : wsum (fun t => ((ind a t - ind b t + m).natAbs : Int)) s 64 = ((a - (b + 64 * m)).natAbs : Int) := by
  have lin : wsum (fun t => ind a t - ind b t + m) s 64 = b - a + 64 * m := by
    rw [wsum_add, wsum_sub, wsum_const, wsum_ind h1, wsum_ind h3, if_pos (by lia), if_pos (by lia)]
    lia
  rcases (show (0 ≤ b - a + 64 * m ∧ (1 ≤ m ∨ (m = 0 ∧ a ≤ b))) ∨ (b - a + 64 * m ≤ 0 ∧ (m ≤ -1 ∨ (m = 0 ∧ b ≤ a))) by lia) with ⟨h5, h6⟩ | ⟨h5, h6⟩
  · have e := wsum_congr (g := fun t => ((ind a t - ind b t + m).natAbs : Int)) (g' := fun t => ind a t - ind b t + m) (s := s) (k := 64) fun t _ _ => abs_up (ind_up h6)
    rw [e, lin]; lia
  · have e := wsum_congr (g := fun t => ((ind a t - ind b t + m).natAbs : Int)) (g' := fun t => -(ind a t - ind b t + m)) (s := s) (k := 64) fun t _ _ => abs_dn (ind_dn h6)
    rw [e, wsum_neg, lin]; lia
theorem way_wsum {s a b : Int} (h1 : s ≤ a) (h2 : a < s + 64) (h3 : s ≤ b) (h4 : b < s + 64) (m : Int) : way a b ≤ wsum (fun t => ((ind a t - ind b t + m).natAbs : Int)) s 64 := by
  rw [span_wsum h1 h2 h3 h4]
  exact Int.le_trans Int.le_natAbs (way_lower (φ := fun x => (x.natAbs : Int)) (fun x y h => Int.ofNat_le.mpr h) a b m)
theorem cntLe_nil (t : Int) : (cntLe [] t : Int) = 0 := rfl
theorem cntLe_cons (a : Int) (l : List Int) (t : Int) : (cntLe (a :: l) t : Int) = cntLe l t + ind a t := by
  unfold cntLe ind
  rw [List.countP_cons]
  by_cases h : a ≤ t <;> simp [h]
theorem cntLe_perm {l l' : List Int} (h : l.Perm l') (t : Int) : cntLe l t = cntLe l' t := h.countP_eq _
/-- the least of a pairing's price -/
theorem low_any {s : Int} {W : List (Int × Int)} (h : ∀ ab ∈ W, (s ≤ ab.1 ∧ ab.1 < s + 64) ∧ s ≤ ab.2 ∧ ab.2 < s + 64) :
    ∃ M : Int, wsum (fun t => ((((cntLe (W.map (·.1)) t : Int) - (cntLe (W.map (·.2)) t : Int)) - M).natAbs : Int)) s 64 ≤ (W.map fun ab => wy ab).sum := by
  induction W with
  | nil => exact ⟨0, by rw [wsum_congr (g' := fun _ => 0) fun t _ _ => by simp [cntLe], wsum_const]; simp⟩
  | cons x r ih =>
    obtain ⟨M, hM⟩ := ih fun ab hab => h ab (List.mem_cons_of_mem _ hab)
    have hx := h x List.mem_cons_self
    obtain ⟨m, e⟩ : ∃ m : Int, wy x = ((x.1 - (x.2 + 64 * m)).natAbs : Int) := by
      obtain ⟨m, e⟩ := way_lift (φ := fun x => (x.natAbs : Int)) (fun x y e => by omega) x.1 x.2
      refine ⟨m, ?_⟩
      have := way_bounds x.1 x.2
      unfold wy
      omega
    refine ⟨M - m, ?_⟩
    simp only [List.map_cons, List.sum_cons, cntLe_cons]
    rw [e, ← span_wsum hx.1.1 hx.1.2 hx.2.1 hx.2.2]
    refine Int.le_trans ?_ (Int.add_le_add_left hM _)
    rw [← wsum_add]
    exact wsum_le fun t _ _ => by omega
noncomputable def Bits4 (x0 x1 x2 x3 : Int) : Prop := ∃ F : Nat, F < 5 ∧ x0 = bt F 0 ∧ x1 = bt F 1 ∧ x2 = bt F 2 ∧ x3 = bt F 3
theorem bits4 {a0 a1 a2 a3 : Int} (h0 : a0 ≤ a1) (h1 : a1 ≤ a2) (h2 : a2 ≤ a3) (t : Int) : Bits4 (ind a0 t) (ind a1 t) (ind a2 t) (ind a3 t) := by
  by_cases c : a3 ≤ t
  · exact ⟨4, by decide, ind_in (Int.le_trans (Int.le_trans h0 (Int.le_trans h1 h2)) c), ind_in (Int.le_trans (Int.le_trans h1 h2) c), ind_in (Int.le_trans h2 c), ind_in c⟩
  have d3 : t < a3 := Int.not_le.mp c
  clear c
  by_cases c : a2 ≤ t
  · exact ⟨3, by decide, ind_in (Int.le_trans (Int.le_trans h0 h1) c), ind_in (Int.le_trans h1 c), ind_in c, ind_out d3⟩
  have d2 : t < a2 := Int.not_le.mp c
  clear c
  by_cases c : a1 ≤ t
  · exact ⟨2, by decide, ind_in (Int.le_trans h0 c), ind_in c, ind_out d2, ind_out (Int.lt_of_lt_of_le d2 h2)⟩
  have d1 : t < a1 := Int.not_le.mp c
  clear c
  by_cases c : a0 ≤ t
  · exact ⟨1, by decide, ind_in c, ind_out d1, ind_out (Int.lt_of_lt_of_le d1 h1), ind_out (Int.lt_of_lt_of_le d1 (Int.le_trans h1 h2))⟩
  have d0 : t < a0 := Int.not_le.mp c
  clear c
  exact ⟨0, by decide, ind_out d0, ind_out (Int.lt_of_lt_of_le d0 h0), ind_out (Int.lt_of_lt_of_le d0 (Int.le_trans h0 h1)), ind_out (Int.lt_of_lt_of_le d0 (Int.le_trans h0 (Int.le_trans h1 h2)))⟩
theorem near_pos4 {k0 k1 k2 k3 u S : Int} (hS : k0 + k1 + k2 + k3 = S) (h0 : u ≤ k0) (h1 : u ≤ k1) (h2 : u ≤ k2) (h3 : u ≤ k3) : 0 ≤ S - 4 * u := by lia
theorem near_neg4 {k0 k1 k2 k3 u S : Int} (hS : k0 + k1 + k2 + k3 = S) (h0 : k0 ≤ u) (h1 : k1 ≤ u) (h2 : k2 ≤ u) (h3 : k3 ≤ u) : S - 4 * u ≤ 0 := by lia
theorem near_sum4 {k0 k1 k2 k3 u S : Int} (hS : k0 + k1 + k2 + k3 = S) (h : 0 ≤ S - 4 * u) : (k0 - u) + (k1 - u) + (k2 - u) + (k3 - u) = (S - 4 * u).natAbs := by rw [abs_up h]; lia
theorem near_sub4 {k0 k1 k2 k3 u S : Int} (hS : k0 + k1 + k2 + k3 = S) (h : S - 4 * u ≤ 0) : -(k0 - u) + -(k1 - u) + -(k2 - u) + -(k3 - u) = (S - 4 * u).natAbs := by rw [abs_dn h]; lia
theorem near4 {k0 k1 k2 k3 κ u S : Int} (h0 : k0 = κ ∨ k0 = κ + 1) (h1 : k1 = κ ∨ k1 = κ + 1) (h2 : k2 = κ ∨ k2 = κ + 1) (h3 : k3 = κ ∨ k3 = κ + 1) (hS : k0 + k1 + k2 + k3 = S) : ((k0 - u).natAbs : Int) + ((k1 - u).natAbs : Int) + ((k2 - u).natAbs : Int) + ((k3 - u).natAbs : Int) = (S - 4 * u).natAbs := by
  rcases Int.le_total u κ with h | h
  · rw [near_up h0 h, near_up h1 h, near_up h2 h, near_up h3 h]
    exact near_sum4 hS (near_pos4 hS (near_ge h0 h) (near_ge h1 h) (near_ge h2 h) (near_ge h3 h))
  · by_cases hn : u = κ
    · rw [near_up h0 (Int.le_of_eq hn), near_up h1 (Int.le_of_eq hn), near_up h2 (Int.le_of_eq hn), near_up h3 (Int.le_of_eq hn)]
      exact near_sum4 hS (near_pos4 hS (near_ge h0 (Int.le_of_eq hn)) (near_ge h1 (Int.le_of_eq hn)) (near_ge h2 (Int.le_of_eq hn)) (near_ge h3 (Int.le_of_eq hn)))
    · rw [near_dn h0 h hn, near_dn h1 h hn, near_dn h2 h hn, near_dn h3 h hn]
      exact near_sub4 hS (near_neg4 hS (near_le h0 h hn) (near_le h1 h hn) (near_le h2 h hn) (near_le h3 h hn))
theorem cell4_0 : ∀ F, F < 5 → ∀ G, G < 5 → ((bt F 0 - bt G 0 + 0) = ((F : Int) - (G : Int) - 0) / 4 ∨ (bt F 0 - bt G 0 + 0) = ((F : Int) - (G : Int) - 0) / 4 + 1) ∧ ((bt F 1 - bt G 1 + 0) = ((F : Int) - (G : Int) - 0) / 4 ∨ (bt F 1 - bt G 1 + 0) = ((F : Int) - (G : Int) - 0) / 4 + 1) ∧ ((bt F 2 - bt G 2 + 0) = ((F : Int) - (G : Int) - 0) / 4 ∨ (bt F 2 - bt G 2 + 0) = ((F : Int) - (G : Int) - 0) / 4 + 1) ∧ ((bt F 3 - bt G 3 + 0) = ((F : Int) - (G : Int) - 0) / 4 ∨ (bt F 3 - bt G 3 + 0) = ((F : Int) - (G : Int) - 0) / 4 + 1) ∧ (bt F 0 - bt G 0 + 0) + (bt F 1 - bt G 1 + 0) + (bt F 2 - bt G 2 + 0) + (bt F 3 - bt G 3 + 0) = (bt F 0 + bt F 1 + bt F 2 + bt F 3) - (bt G 0 + bt G 1 + bt G 2 + bt G 3) - 0 := by decide +kernel
theorem spot4_0 {x0 x1 x2 x3 y0 y1 y2 y3 u : Int} (hx : Bits4 x0 x1 x2 x3) (hy : Bits4 y0 y1 y2 y3) : ((x0 - y0 + (0 - u)).natAbs : Int) + ((x1 - y1 + (0 - u)).natAbs : Int) + ((x2 - y2 + (0 - u)).natAbs : Int) + ((x3 - y3 + (0 - u)).natAbs : Int) = ((x0 + x1 + x2 + x3) - (y0 + y1 + y2 + y3) - (4 * u + 0)).natAbs := by
  obtain ⟨F, hF, rfl, rfl, rfl, rfl⟩ := hx
  obtain ⟨G, hG, rfl, rfl, rfl, rfl⟩ := hy
  obtain ⟨h0, h1, h2, h3, hS⟩ := cell4_0 F hF G hG
  have z := near4 (u := u) h0 h1 h2 h3 hS
  rw [← spot_end]
  simp only [spot_in]
  exact z
theorem cell4_1 : ∀ F, F < 5 → ∀ G, G < 5 → ((bt F 0 - bt G 3 + -1) = ((F : Int) - (G : Int) - 1) / 4 ∨ (bt F 0 - bt G 3 + -1) = ((F : Int) - (G : Int) - 1) / 4 + 1) ∧ ((bt F 1 - bt G 0 + 0) = ((F : Int) - (G : Int) - 1) / 4 ∨ (bt F 1 - bt G 0 + 0) = ((F : Int) - (G : Int) - 1) / 4 + 1) ∧ ((bt F 2 - bt G 1 + 0) = ((F : Int) - (G : Int) - 1) / 4 ∨ (bt F 2 - bt G 1 + 0) = ((F : Int) - (G : Int) - 1) / 4 + 1) ∧ ((bt F 3 - bt G 2 + 0) = ((F : Int) - (G : Int) - 1) / 4 ∨ (bt F 3 - bt G 2 + 0) = ((F : Int) - (G : Int) - 1) / 4 + 1) ∧ (bt F 0 - bt G 3 + -1) + (bt F 1 - bt G 0 + 0) + (bt F 2 - bt G 1 + 0) + (bt F 3 - bt G 2 + 0) = (bt F 0 + bt F 1 + bt F 2 + bt F 3) - (bt G 0 + bt G 1 + bt G 2 + bt G 3) - 1 := by decide +kernel
theorem spot4_1 {x0 x1 x2 x3 y0 y1 y2 y3 u : Int} (hx : Bits4 x0 x1 x2 x3) (hy : Bits4 y0 y1 y2 y3) : ((x0 - y3 + (-1 - u)).natAbs : Int) + ((x1 - y0 + (0 - u)).natAbs : Int) + ((x2 - y1 + (0 - u)).natAbs : Int) + ((x3 - y2 + (0 - u)).natAbs : Int) = ((x0 + x1 + x2 + x3) - (y0 + y1 + y2 + y3) - (4 * u + 1)).natAbs := by
  obtain ⟨F, hF, rfl, rfl, rfl, rfl⟩ := hx
  obtain ⟨G, hG, rfl, rfl, rfl, rfl⟩ := hy
  obtain ⟨h0, h1, h2, h3, hS⟩ := cell4_1 F hF G hG
  have z := near4 (u := u) h0 h1 h2 h3 hS
  rw [← spot_end]
  simp only [spot_in]
  exact z
theorem cell4_2 : ∀ F, F < 5 → ∀ G, G < 5 → ((bt F 0 - bt G 2 + -1) = ((F : Int) - (G : Int) - 2) / 4 ∨ (bt F 0 - bt G 2 + -1) = ((F : Int) - (G : Int) - 2) / 4 + 1) ∧ ((bt F 1 - bt G 3 + -1) = ((F : Int) - (G : Int) - 2) / 4 ∨ (bt F 1 - bt G 3 + -1) = ((F : Int) - (G : Int) - 2) / 4 + 1) ∧ ((bt F 2 - bt G 0 + 0) = ((F : Int) - (G : Int) - 2) / 4 ∨ (bt F 2 - bt G 0 + 0) = ((F : Int) - (G : Int) - 2) / 4 + 1) ∧ ((bt F 3 - bt G 1 + 0) = ((F : Int) - (G : Int) - 2) / 4 ∨ (bt F 3 - bt G 1 + 0) = ((F : Int) - (G : Int) - 2) / 4 + 1) ∧ (bt F 0 - bt G 2 + -1) + (bt F 1 - bt G 3 + -1) + (bt F 2 - bt G 0 + 0) + (bt F 3 - bt G 1 + 0) = (bt F 0 + bt F 1 + bt F 2 + bt F 3) - (bt G 0 + bt G 1 + bt G 2 + bt G 3) - 2 := by decide +kernel
theorem spot4_2 {x0 x1 x2 x3 y0 y1 y2 y3 u : Int} (hx : Bits4 x0 x1 x2 x3) (hy : Bits4 y0 y1 y2 y3) : ((x0 - y2 + (-1 - u)).natAbs : Int) + ((x1 - y3 + (-1 - u)).natAbs : Int) + ((x2 - y0 + (0 - u)).natAbs : Int) + ((x3 - y1 + (0 - u)).natAbs : Int) = ((x0 + x1 + x2 + x3) - (y0 + y1 + y2 + y3) - (4 * u + 2)).natAbs := by
  obtain ⟨F, hF, rfl, rfl, rfl, rfl⟩ := hx
  obtain ⟨G, hG, rfl, rfl, rfl, rfl⟩ := hy
  obtain ⟨h0, h1, h2, h3, hS⟩ := cell4_2 F hF G hG
  have z := near4 (u := u) h0 h1 h2 h3 hS
  rw [← spot_end]
  simp only [spot_in]
  exact z
theorem cell4_3 : ∀ F, F < 5 → ∀ G, G < 5 → ((bt F 0 - bt G 1 + -1) = ((F : Int) - (G : Int) - 3) / 4 ∨ (bt F 0 - bt G 1 + -1) = ((F : Int) - (G : Int) - 3) / 4 + 1) ∧ ((bt F 1 - bt G 2 + -1) = ((F : Int) - (G : Int) - 3) / 4 ∨ (bt F 1 - bt G 2 + -1) = ((F : Int) - (G : Int) - 3) / 4 + 1) ∧ ((bt F 2 - bt G 3 + -1) = ((F : Int) - (G : Int) - 3) / 4 ∨ (bt F 2 - bt G 3 + -1) = ((F : Int) - (G : Int) - 3) / 4 + 1) ∧ ((bt F 3 - bt G 0 + 0) = ((F : Int) - (G : Int) - 3) / 4 ∨ (bt F 3 - bt G 0 + 0) = ((F : Int) - (G : Int) - 3) / 4 + 1) ∧ (bt F 0 - bt G 1 + -1) + (bt F 1 - bt G 2 + -1) + (bt F 2 - bt G 3 + -1) + (bt F 3 - bt G 0 + 0) = (bt F 0 + bt F 1 + bt F 2 + bt F 3) - (bt G 0 + bt G 1 + bt G 2 + bt G 3) - 3 := by decide +kernel
theorem spot4_3 {x0 x1 x2 x3 y0 y1 y2 y3 u : Int} (hx : Bits4 x0 x1 x2 x3) (hy : Bits4 y0 y1 y2 y3) : ((x0 - y1 + (-1 - u)).natAbs : Int) + ((x1 - y2 + (-1 - u)).natAbs : Int) + ((x2 - y3 + (-1 - u)).natAbs : Int) + ((x3 - y0 + (0 - u)).natAbs : Int) = ((x0 + x1 + x2 + x3) - (y0 + y1 + y2 + y3) - (4 * u + 3)).natAbs := by
  obtain ⟨F, hF, rfl, rfl, rfl, rfl⟩ := hx
  obtain ⟨G, hG, rfl, rfl, rfl, rfl⟩ := hy
  obtain ⟨h0, h1, h2, h3, hS⟩ := cell4_3 F hF G hG
  have z := near4 (u := u) h0 h1 h2 h3 hS
  rw [← spot_end]
  simp only [spot_in]
  exact z
theorem ix4 (i r u : Int) : (i + -(4 * u + r)) % 4 = (i - r) % 4 := by lia
theorem sum_le4 {x0 x1 x2 x3 y0 y1 y2 y3 : Int} (h0 : x0 ≤ y0) (h1 : x1 ≤ y1) (h2 : x2 ≤ y2) (h3 : x3 ≤ y3) : x0 + (x1 + (x2 + (x3 + 0))) ≤ y0 + y1 + y2 + y3 := by lia
theorem low4 {A B : List Int} (hA : Srt A) (hB : Srt B) (la : A.length = 4) (lb : B.length = 4) (s : Int) (rA : ∀ a ∈ A, s ≤ a ∧ a < s + 64) (rB : ∀ b ∈ B, s ≤ b ∧ b < s + 64) (c : Int) :
    (turnL A B (-c)).sum ≤ wsum (fun t => ((((cntLe A t : Int) - (cntLe B t : Int)) - c).natAbs : Int)) s 64 := by
  match A, la with
  | [a0, a1, a2, a3], _ =>
  match B, lb with
  | [b0, b1, b2, b3], _ =>
  have lc : (([b0, b1, b2, b3].length : Nat) : Int) = 4 := rfl
  simp only [Srt, List.pairwise_cons, List.mem_cons, List.not_mem_nil, or_false, forall_eq_or_imp, forall_eq] at hA hB
  simp only [List.mem_cons, List.not_mem_nil, or_false, forall_eq_or_imp, forall_eq] at rA rB
  obtain ⟨⟨la0, ua0⟩, ⟨la1, ua1⟩, ⟨la2, ua2⟩, ⟨la3, ua3⟩⟩ := rA
  obtain ⟨⟨lb0, ub0⟩, ⟨lb1, ub1⟩, ⟨lb2, ub2⟩, ⟨lb3, ub3⟩⟩ := rB
  obtain ⟨⟨sa0, _, _⟩, ⟨sa1, _⟩, sa2, _⟩ := hA
  obtain ⟨⟨sb0, _, _⟩, ⟨sb1, _⟩, sb2, _⟩ := hB
  have tl : turnL [a0, a1, a2, a3] [b0, b1, b2, b3] (-c) = [way a0 (([b0, b1, b2, b3] : List Int).getD ((0 + -c) % (([b0, b1, b2, b3].length : Nat) : Int)).toNat 0), way a1 (([b0, b1, b2, b3] : List Int).getD ((1 + -c) % (([b0, b1, b2, b3].length : Nat) : Int)).toNat 0), way a2 (([b0, b1, b2, b3] : List Int).getD ((2 + -c) % (([b0, b1, b2, b3].length : Nat) : Int)).toNat 0), way a3 (([b0, b1, b2, b3] : List Int).getD ((3 + -c) % (([b0, b1, b2, b3].length : Nat) : Int)).toNat 0)] := rfl
  rw [tl, lc]
  have eA : ∀ t, (cntLe [a0, a1, a2, a3] t : Int) = ind a0 t + ind a1 t + ind a2 t + ind a3 t := fun t => by simp only [cntLe_cons, cntLe_nil]; lia
  have eB : ∀ t, (cntLe [b0, b1, b2, b3] t : Int) = ind b0 t + ind b1 t + ind b2 t + ind b3 t := fun t => by simp only [cntLe_cons, cntLe_nil]; lia
  simp only [eA, eB]
  obtain ⟨u, hu⟩ : ∃ u, u = c / 4 := ⟨_, rfl⟩
  rcases (show c = 4 * u + 0 ∨ c = 4 * u + 1 ∨ c = 4 * u + 2 ∨ c = 4 * u + 3 by lia) with e | e | e | e <;> subst e <;> clear hu
  · rw [show (0 + -(4 * u + 0)) % 4 = 0 from ix4 0 0 u, show (1 + -(4 * u + 0)) % 4 = 1 from ix4 1 0 u, show (2 + -(4 * u + 0)) % 4 = 2 from ix4 2 0 u, show (3 + -(4 * u + 0)) % 4 = 3 from ix4 3 0 u]
    show way a0 b0 + (way a1 b1 + (way a2 b2 + (way a3 b3 + 0))) ≤ _
    have e := wsum_congr (s := s) (k := 64) fun t _ _ => (spot4_0 (u := u) (bits4 sa0 sa1 sa2 t : Bits4 (ind a0 t) (ind a1 t) (ind a2 t) (ind a3 t)) (bits4 sb0 sb1 sb2 t : Bits4 (ind b0 t) (ind b1 t) (ind b2 t) (ind b3 t))).symm
    rw [e]
    simp only [wsum_add]
    exact sum_le4 (way_wsum (s := s) la0 ua0 lb0 ub0 (0 - u)) (way_wsum (s := s) la1 ua1 lb1 ub1 (0 - u)) (way_wsum (s := s) la2 ua2 lb2 ub2 (0 - u)) (way_wsum (s := s) la3 ua3 lb3 ub3 (0 - u))
  · rw [show (0 + -(4 * u + 1)) % 4 = 3 from ix4 0 1 u, show (1 + -(4 * u + 1)) % 4 = 0 from ix4 1 1 u, show (2 + -(4 * u + 1)) % 4 = 1 from ix4 2 1 u, show (3 + -(4 * u + 1)) % 4 = 2 from ix4 3 1 u]
    show way a0 b3 + (way a1 b0 + (way a2 b1 + (way a3 b2 + 0))) ≤ _
    have e := wsum_congr (s := s) (k := 64) fun t _ _ => (spot4_1 (u := u) (bits4 sa0 sa1 sa2 t : Bits4 (ind a0 t) (ind a1 t) (ind a2 t) (ind a3 t)) (bits4 sb0 sb1 sb2 t : Bits4 (ind b0 t) (ind b1 t) (ind b2 t) (ind b3 t))).symm
    rw [e]
    simp only [wsum_add]
    exact sum_le4 (way_wsum (s := s) la0 ua0 lb3 ub3 (-1 - u)) (way_wsum (s := s) la1 ua1 lb0 ub0 (0 - u)) (way_wsum (s := s) la2 ua2 lb1 ub1 (0 - u)) (way_wsum (s := s) la3 ua3 lb2 ub2 (0 - u))
  · rw [show (0 + -(4 * u + 2)) % 4 = 2 from ix4 0 2 u, show (1 + -(4 * u + 2)) % 4 = 3 from ix4 1 2 u, show (2 + -(4 * u + 2)) % 4 = 0 from ix4 2 2 u, show (3 + -(4 * u + 2)) % 4 = 1 from ix4 3 2 u]
    show way a0 b2 + (way a1 b3 + (way a2 b0 + (way a3 b1 + 0))) ≤ _
    have e := wsum_congr (s := s) (k := 64) fun t _ _ => (spot4_2 (u := u) (bits4 sa0 sa1 sa2 t : Bits4 (ind a0 t) (ind a1 t) (ind a2 t) (ind a3 t)) (bits4 sb0 sb1 sb2 t : Bits4 (ind b0 t) (ind b1 t) (ind b2 t) (ind b3 t))).symm
    rw [e]
    simp only [wsum_add]
    exact sum_le4 (way_wsum (s := s) la0 ua0 lb2 ub2 (-1 - u)) (way_wsum (s := s) la1 ua1 lb3 ub3 (-1 - u)) (way_wsum (s := s) la2 ua2 lb0 ub0 (0 - u)) (way_wsum (s := s) la3 ua3 lb1 ub1 (0 - u))
  · rw [show (0 + -(4 * u + 3)) % 4 = 1 from ix4 0 3 u, show (1 + -(4 * u + 3)) % 4 = 2 from ix4 1 3 u, show (2 + -(4 * u + 3)) % 4 = 3 from ix4 2 3 u, show (3 + -(4 * u + 3)) % 4 = 0 from ix4 3 3 u]
    show way a0 b1 + (way a1 b2 + (way a2 b3 + (way a3 b0 + 0))) ≤ _
    have e := wsum_congr (s := s) (k := 64) fun t _ _ => (spot4_3 (u := u) (bits4 sa0 sa1 sa2 t : Bits4 (ind a0 t) (ind a1 t) (ind a2 t) (ind a3 t)) (bits4 sb0 sb1 sb2 t : Bits4 (ind b0 t) (ind b1 t) (ind b2 t) (ind b3 t))).symm
    rw [e]
    simp only [wsum_add]
    exact sum_le4 (way_wsum (s := s) la0 ua0 lb1 ub1 (-1 - u)) (way_wsum (s := s) la1 ua1 lb2 ub2 (-1 - u)) (way_wsum (s := s) la2 ua2 lb3 ub3 (-1 - u)) (way_wsum (s := s) la3 ua3 lb0 ub0 (0 - u))
noncomputable def Bits5 (x0 x1 x2 x3 x4 : Int) : Prop := ∃ F : Nat, F < 6 ∧ x0 = bt F 0 ∧ x1 = bt F 1 ∧ x2 = bt F 2 ∧ x3 = bt F 3 ∧ x4 = bt F 4
theorem bits5 {a0 a1 a2 a3 a4 : Int} (h0 : a0 ≤ a1) (h1 : a1 ≤ a2) (h2 : a2 ≤ a3) (h3 : a3 ≤ a4) (t : Int) : Bits5 (ind a0 t) (ind a1 t) (ind a2 t) (ind a3 t) (ind a4 t) := by
  by_cases c : a4 ≤ t
  · exact ⟨5, by decide, ind_in (Int.le_trans (Int.le_trans h0 (Int.le_trans h1 (Int.le_trans h2 h3))) c), ind_in (Int.le_trans (Int.le_trans h1 (Int.le_trans h2 h3)) c), ind_in (Int.le_trans (Int.le_trans h2 h3) c), ind_in (Int.le_trans h3 c), ind_in c⟩
  have d4 : t < a4 := Int.not_le.mp c
  clear c
  by_cases c : a3 ≤ t
  · exact ⟨4, by decide, ind_in (Int.le_trans (Int.le_trans h0 (Int.le_trans h1 h2)) c), ind_in (Int.le_trans (Int.le_trans h1 h2) c), ind_in (Int.le_trans h2 c), ind_in c, ind_out d4⟩
  have d3 : t < a3 := Int.not_le.mp c
  clear c
  by_cases c : a2 ≤ t
  · exact ⟨3, by decide, ind_in (Int.le_trans (Int.le_trans h0 h1) c), ind_in (Int.le_trans h1 c), ind_in c, ind_out d3, ind_out (Int.lt_of_lt_of_le d3 h3)⟩
  have d2 : t < a2 := Int.not_le.mp c
  clear c
  by_cases c : a1 ≤ t
  · exact ⟨2, by decide, ind_in (Int.le_trans h0 c), ind_in c, ind_out d2, ind_out (Int.lt_of_lt_of_le d2 h2), ind_out (Int.lt_of_lt_of_le d2 (Int.le_trans h2 h3))⟩
  have d1 : t < a1 := Int.not_le.mp c
  clear c
  by_cases c : a0 ≤ t
  · exact ⟨1, by decide, ind_in c, ind_out d1, ind_out (Int.lt_of_lt_of_le d1 h1), ind_out (Int.lt_of_lt_of_le d1 (Int.le_trans h1 h2)), ind_out (Int.lt_of_lt_of_le d1 (Int.le_trans h1 (Int.le_trans h2 h3)))⟩
  have d0 : t < a0 := Int.not_le.mp c
  clear c
  exact ⟨0, by decide, ind_out d0, ind_out (Int.lt_of_lt_of_le d0 h0), ind_out (Int.lt_of_lt_of_le d0 (Int.le_trans h0 h1)), ind_out (Int.lt_of_lt_of_le d0 (Int.le_trans h0 (Int.le_trans h1 h2))), ind_out (Int.lt_of_lt_of_le d0 (Int.le_trans h0 (Int.le_trans h1 (Int.le_trans h2 h3))))⟩
theorem near_pos5 {k0 k1 k2 k3 k4 u S : Int} (hS : k0 + k1 + k2 + k3 + k4 = S) (h0 : u ≤ k0) (h1 : u ≤ k1) (h2 : u ≤ k2) (h3 : u ≤ k3) (h4 : u ≤ k4) : 0 ≤ S - 5 * u := by lia
theorem near_neg5 {k0 k1 k2 k3 k4 u S : Int} (hS : k0 + k1 + k2 + k3 + k4 = S) (h0 : k0 ≤ u) (h1 : k1 ≤ u) (h2 : k2 ≤ u) (h3 : k3 ≤ u) (h4 : k4 ≤ u) : S - 5 * u ≤ 0 := by lia
theorem near_sum5 {k0 k1 k2 k3 k4 u S : Int} (hS : k0 + k1 + k2 + k3 + k4 = S) (h : 0 ≤ S - 5 * u) : (k0 - u) + (k1 - u) + (k2 - u) + (k3 - u) + (k4 - u) = (S - 5 * u).natAbs := by rw [abs_up h]; lia
theorem near_sub5 {k0 k1 k2 k3 k4 u S : Int} (hS : k0 + k1 + k2 + k3 + k4 = S) (h : S - 5 * u ≤ 0) : -(k0 - u) + -(k1 - u) + -(k2 - u) + -(k3 - u) + -(k4 - u) = (S - 5 * u).natAbs := by rw [abs_dn h]; lia
theorem near5 {k0 k1 k2 k3 k4 κ u S : Int} (h0 : k0 = κ ∨ k0 = κ + 1) (h1 : k1 = κ ∨ k1 = κ + 1) (h2 : k2 = κ ∨ k2 = κ + 1) (h3 : k3 = κ ∨ k3 = κ + 1) (h4 : k4 = κ ∨ k4 = κ + 1) (hS : k0 + k1 + k2 + k3 + k4 = S) : ((k0 - u).natAbs : Int) + ((k1 - u).natAbs : Int) + ((k2 - u).natAbs : Int) + ((k3 - u).natAbs : Int) + ((k4 - u).natAbs : Int) = (S - 5 * u).natAbs := by
  rcases Int.le_total u κ with h | h
  · rw [near_up h0 h, near_up h1 h, near_up h2 h, near_up h3 h, near_up h4 h]
    exact near_sum5 hS (near_pos5 hS (near_ge h0 h) (near_ge h1 h) (near_ge h2 h) (near_ge h3 h) (near_ge h4 h))
  · by_cases hn : u = κ
    · rw [near_up h0 (Int.le_of_eq hn), near_up h1 (Int.le_of_eq hn), near_up h2 (Int.le_of_eq hn), near_up h3 (Int.le_of_eq hn), near_up h4 (Int.le_of_eq hn)]
      exact near_sum5 hS (near_pos5 hS (near_ge h0 (Int.le_of_eq hn)) (near_ge h1 (Int.le_of_eq hn)) (near_ge h2 (Int.le_of_eq hn)) (near_ge h3 (Int.le_of_eq hn)) (near_ge h4 (Int.le_of_eq hn)))
    · rw [near_dn h0 h hn, near_dn h1 h hn, near_dn h2 h hn, near_dn h3 h hn, near_dn h4 h hn]
      exact near_sub5 hS (near_neg5 hS (near_le h0 h hn) (near_le h1 h hn) (near_le h2 h hn) (near_le h3 h hn) (near_le h4 h hn))
theorem cell5_0 : ∀ F, F < 6 → ∀ G, G < 6 → ((bt F 0 - bt G 0 + 0) = ((F : Int) - (G : Int) - 0) / 5 ∨ (bt F 0 - bt G 0 + 0) = ((F : Int) - (G : Int) - 0) / 5 + 1) ∧ ((bt F 1 - bt G 1 + 0) = ((F : Int) - (G : Int) - 0) / 5 ∨ (bt F 1 - bt G 1 + 0) = ((F : Int) - (G : Int) - 0) / 5 + 1) ∧ ((bt F 2 - bt G 2 + 0) = ((F : Int) - (G : Int) - 0) / 5 ∨ (bt F 2 - bt G 2 + 0) = ((F : Int) - (G : Int) - 0) / 5 + 1) ∧ ((bt F 3 - bt G 3 + 0) = ((F : Int) - (G : Int) - 0) / 5 ∨ (bt F 3 - bt G 3 + 0) = ((F : Int) - (G : Int) - 0) / 5 + 1) ∧ ((bt F 4 - bt G 4 + 0) = ((F : Int) - (G : Int) - 0) / 5 ∨ (bt F 4 - bt G 4 + 0) = ((F : Int) - (G : Int) - 0) / 5 + 1) ∧ (bt F 0 - bt G 0 + 0) + (bt F 1 - bt G 1 + 0) + (bt F 2 - bt G 2 + 0) + (bt F 3 - bt G 3 + 0) + (bt F 4 - bt G 4 + 0) = (bt F 0 + bt F 1 + bt F 2 + bt F 3 + bt F 4) - (bt G 0 + bt G 1 + bt G 2 + bt G 3 + bt G 4) - 0 := by decide +kernel
theorem spot5_0 {x0 x1 x2 x3 x4 y0 y1 y2 y3 y4 u : Int} (hx : Bits5 x0 x1 x2 x3 x4) (hy : Bits5 y0 y1 y2 y3 y4) : ((x0 - y0 + (0 - u)).natAbs : Int) + ((x1 - y1 + (0 - u)).natAbs : Int) + ((x2 - y2 + (0 - u)).natAbs : Int) + ((x3 - y3 + (0 - u)).natAbs : Int) + ((x4 - y4 + (0 - u)).natAbs : Int) = ((x0 + x1 + x2 + x3 + x4) - (y0 + y1 + y2 + y3 + y4) - (5 * u + 0)).natAbs := by
  obtain ⟨F, hF, rfl, rfl, rfl, rfl, rfl⟩ := hx
  obtain ⟨G, hG, rfl, rfl, rfl, rfl, rfl⟩ := hy
  obtain ⟨h0, h1, h2, h3, h4, hS⟩ := cell5_0 F hF G hG
  have z := near5 (u := u) h0 h1 h2 h3 h4 hS
  rw [← spot_end]
  simp only [spot_in]
  exact z
theorem cell5_1 : ∀ F, F < 6 → ∀ G, G < 6 → ((bt F 0 - bt G 4 + -1) = ((F : Int) - (G : Int) - 1) / 5 ∨ (bt F 0 - bt G 4 + -1) = ((F : Int) - (G : Int) - 1) / 5 + 1) ∧ ((bt F 1 - bt G 0 + 0) = ((F : Int) - (G : Int) - 1) / 5 ∨ (bt F 1 - bt G 0 + 0) = ((F : Int) - (G : Int) - 1) / 5 + 1) ∧ ((bt F 2 - bt G 1 + 0) = ((F : Int) - (G : Int) - 1) / 5 ∨ (bt F 2 - bt G 1 + 0) = ((F : Int) - (G : Int) - 1) / 5 + 1) ∧ ((bt F 3 - bt G 2 + 0) = ((F : Int) - (G : Int) - 1) / 5 ∨ (bt F 3 - bt G 2 + 0) = ((F : Int) - (G : Int) - 1) / 5 + 1) ∧ ((bt F 4 - bt G 3 + 0) = ((F : Int) - (G : Int) - 1) / 5 ∨ (bt F 4 - bt G 3 + 0) = ((F : Int) - (G : Int) - 1) / 5 + 1) ∧ (bt F 0 - bt G 4 + -1) + (bt F 1 - bt G 0 + 0) + (bt F 2 - bt G 1 + 0) + (bt F 3 - bt G 2 + 0) + (bt F 4 - bt G 3 + 0) = (bt F 0 + bt F 1 + bt F 2 + bt F 3 + bt F 4) - (bt G 0 + bt G 1 + bt G 2 + bt G 3 + bt G 4) - 1 := by decide +kernel
theorem spot5_1 {x0 x1 x2 x3 x4 y0 y1 y2 y3 y4 u : Int} (hx : Bits5 x0 x1 x2 x3 x4) (hy : Bits5 y0 y1 y2 y3 y4) : ((x0 - y4 + (-1 - u)).natAbs : Int) + ((x1 - y0 + (0 - u)).natAbs : Int) + ((x2 - y1 + (0 - u)).natAbs : Int) + ((x3 - y2 + (0 - u)).natAbs : Int) + ((x4 - y3 + (0 - u)).natAbs : Int) = ((x0 + x1 + x2 + x3 + x4) - (y0 + y1 + y2 + y3 + y4) - (5 * u + 1)).natAbs := by
  obtain ⟨F, hF, rfl, rfl, rfl, rfl, rfl⟩ := hx
  obtain ⟨G, hG, rfl, rfl, rfl, rfl, rfl⟩ := hy
  obtain ⟨h0, h1, h2, h3, h4, hS⟩ := cell5_1 F hF G hG
  have z := near5 (u := u) h0 h1 h2 h3 h4 hS
  rw [← spot_end]
  simp only [spot_in]
  exact z
theorem cell5_2 : ∀ F, F < 6 → ∀ G, G < 6 → ((bt F 0 - bt G 3 + -1) = ((F : Int) - (G : Int) - 2) / 5 ∨ (bt F 0 - bt G 3 + -1) = ((F : Int) - (G : Int) - 2) / 5 + 1) ∧ ((bt F 1 - bt G 4 + -1) = ((F : Int) - (G : Int) - 2) / 5 ∨ (bt F 1 - bt G 4 + -1) = ((F : Int) - (G : Int) - 2) / 5 + 1) ∧ ((bt F 2 - bt G 0 + 0) = ((F : Int) - (G : Int) - 2) / 5 ∨ (bt F 2 - bt G 0 + 0) = ((F : Int) - (G : Int) - 2) / 5 + 1) ∧ ((bt F 3 - bt G 1 + 0) = ((F : Int) - (G : Int) - 2) / 5 ∨ (bt F 3 - bt G 1 + 0) = ((F : Int) - (G : Int) - 2) / 5 + 1) ∧ ((bt F 4 - bt G 2 + 0) = ((F : Int) - (G : Int) - 2) / 5 ∨ (bt F 4 - bt G 2 + 0) = ((F : Int) - (G : Int) - 2) / 5 + 1) ∧ (bt F 0 - bt G 3 + -1) + (bt F 1 - bt G 4 + -1) + (bt F 2 - bt G 0 + 0) + (bt F 3 - bt G 1 + 0) + (bt F 4 - bt G 2 + 0) = (bt F 0 + bt F 1 + bt F 2 + bt F 3 + bt F 4) - (bt G 0 + bt G 1 + bt G 2 + bt G 3 + bt G 4) - 2 := by decide +kernel
theorem spot5_2 {x0 x1 x2 x3 x4 y0 y1 y2 y3 y4 u : Int} (hx : Bits5 x0 x1 x2 x3 x4) (hy : Bits5 y0 y1 y2 y3 y4) : ((x0 - y3 + (-1 - u)).natAbs : Int) + ((x1 - y4 + (-1 - u)).natAbs : Int) + ((x2 - y0 + (0 - u)).natAbs : Int) + ((x3 - y1 + (0 - u)).natAbs : Int) + ((x4 - y2 + (0 - u)).natAbs : Int) = ((x0 + x1 + x2 + x3 + x4) - (y0 + y1 + y2 + y3 + y4) - (5 * u + 2)).natAbs := by
  obtain ⟨F, hF, rfl, rfl, rfl, rfl, rfl⟩ := hx
  obtain ⟨G, hG, rfl, rfl, rfl, rfl, rfl⟩ := hy
  obtain ⟨h0, h1, h2, h3, h4, hS⟩ := cell5_2 F hF G hG
  have z := near5 (u := u) h0 h1 h2 h3 h4 hS
  rw [← spot_end]
  simp only [spot_in]
  exact z
theorem cell5_3 : ∀ F, F < 6 → ∀ G, G < 6 → ((bt F 0 - bt G 2 + -1) = ((F : Int) - (G : Int) - 3) / 5 ∨ (bt F 0 - bt G 2 + -1) = ((F : Int) - (G : Int) - 3) / 5 + 1) ∧ ((bt F 1 - bt G 3 + -1) = ((F : Int) - (G : Int) - 3) / 5 ∨ (bt F 1 - bt G 3 + -1) = ((F : Int) - (G : Int) - 3) / 5 + 1) ∧ ((bt F 2 - bt G 4 + -1) = ((F : Int) - (G : Int) - 3) / 5 ∨ (bt F 2 - bt G 4 + -1) = ((F : Int) - (G : Int) - 3) / 5 + 1) ∧ ((bt F 3 - bt G 0 + 0) = ((F : Int) - (G : Int) - 3) / 5 ∨ (bt F 3 - bt G 0 + 0) = ((F : Int) - (G : Int) - 3) / 5 + 1) ∧ ((bt F 4 - bt G 1 + 0) = ((F : Int) - (G : Int) - 3) / 5 ∨ (bt F 4 - bt G 1 + 0) = ((F : Int) - (G : Int) - 3) / 5 + 1) ∧ (bt F 0 - bt G 2 + -1) + (bt F 1 - bt G 3 + -1) + (bt F 2 - bt G 4 + -1) + (bt F 3 - bt G 0 + 0) + (bt F 4 - bt G 1 + 0) = (bt F 0 + bt F 1 + bt F 2 + bt F 3 + bt F 4) - (bt G 0 + bt G 1 + bt G 2 + bt G 3 + bt G 4) - 3 := by decide +kernel
theorem spot5_3 {x0 x1 x2 x3 x4 y0 y1 y2 y3 y4 u : Int} (hx : Bits5 x0 x1 x2 x3 x4) (hy : Bits5 y0 y1 y2 y3 y4) : ((x0 - y2 + (-1 - u)).natAbs : Int) + ((x1 - y3 + (-1 - u)).natAbs : Int) + ((x2 - y4 + (-1 - u)).natAbs : Int) + ((x3 - y0 + (0 - u)).natAbs : Int) + ((x4 - y1 + (0 - u)).natAbs : Int) = ((x0 + x1 + x2 + x3 + x4) - (y0 + y1 + y2 + y3 + y4) - (5 * u + 3)).natAbs := by
  obtain ⟨F, hF, rfl, rfl, rfl, rfl, rfl⟩ := hx
  obtain ⟨G, hG, rfl, rfl, rfl, rfl, rfl⟩ := hy
  obtain ⟨h0, h1, h2, h3, h4, hS⟩ := cell5_3 F hF G hG
  have z := near5 (u := u) h0 h1 h2 h3 h4 hS
  rw [← spot_end]
  simp only [spot_in]
  exact z
theorem cell5_4 : ∀ F, F < 6 → ∀ G, G < 6 → ((bt F 0 - bt G 1 + -1) = ((F : Int) - (G : Int) - 4) / 5 ∨ (bt F 0 - bt G 1 + -1) = ((F : Int) - (G : Int) - 4) / 5 + 1) ∧ ((bt F 1 - bt G 2 + -1) = ((F : Int) - (G : Int) - 4) / 5 ∨ (bt F 1 - bt G 2 + -1) = ((F : Int) - (G : Int) - 4) / 5 + 1) ∧ ((bt F 2 - bt G 3 + -1) = ((F : Int) - (G : Int) - 4) / 5 ∨ (bt F 2 - bt G 3 + -1) = ((F : Int) - (G : Int) - 4) / 5 + 1) ∧ ((bt F 3 - bt G 4 + -1) = ((F : Int) - (G : Int) - 4) / 5 ∨ (bt F 3 - bt G 4 + -1) = ((F : Int) - (G : Int) - 4) / 5 + 1) ∧ ((bt F 4 - bt G 0 + 0) = ((F : Int) - (G : Int) - 4) / 5 ∨ (bt F 4 - bt G 0 + 0) = ((F : Int) - (G : Int) - 4) / 5 + 1) ∧ (bt F 0 - bt G 1 + -1) + (bt F 1 - bt G 2 + -1) + (bt F 2 - bt G 3 + -1) + (bt F 3 - bt G 4 + -1) + (bt F 4 - bt G 0 + 0) = (bt F 0 + bt F 1 + bt F 2 + bt F 3 + bt F 4) - (bt G 0 + bt G 1 + bt G 2 + bt G 3 + bt G 4) - 4 := by decide +kernel
theorem spot5_4 {x0 x1 x2 x3 x4 y0 y1 y2 y3 y4 u : Int} (hx : Bits5 x0 x1 x2 x3 x4) (hy : Bits5 y0 y1 y2 y3 y4) : ((x0 - y1 + (-1 - u)).natAbs : Int) + ((x1 - y2 + (-1 - u)).natAbs : Int) + ((x2 - y3 + (-1 - u)).natAbs : Int) + ((x3 - y4 + (-1 - u)).natAbs : Int) + ((x4 - y0 + (0 - u)).natAbs : Int) = ((x0 + x1 + x2 + x3 + x4) - (y0 + y1 + y2 + y3 + y4) - (5 * u + 4)).natAbs := by
  obtain ⟨F, hF, rfl, rfl, rfl, rfl, rfl⟩ := hx
  obtain ⟨G, hG, rfl, rfl, rfl, rfl, rfl⟩ := hy
  obtain ⟨h0, h1, h2, h3, h4, hS⟩ := cell5_4 F hF G hG
  have z := near5 (u := u) h0 h1 h2 h3 h4 hS
  rw [← spot_end]
  simp only [spot_in]
  exact z
theorem ix5 (i r u : Int) : (i + -(5 * u + r)) % 5 = (i - r) % 5 := by lia
theorem sum_le5 {x0 x1 x2 x3 x4 y0 y1 y2 y3 y4 : Int} (h0 : x0 ≤ y0) (h1 : x1 ≤ y1) (h2 : x2 ≤ y2) (h3 : x3 ≤ y3) (h4 : x4 ≤ y4) : x0 + (x1 + (x2 + (x3 + (x4 + 0)))) ≤ y0 + y1 + y2 + y3 + y4 := by lia
theorem low5 {A B : List Int} (hA : Srt A) (hB : Srt B) (la : A.length = 5) (lb : B.length = 5) (s : Int) (rA : ∀ a ∈ A, s ≤ a ∧ a < s + 64) (rB : ∀ b ∈ B, s ≤ b ∧ b < s + 64) (c : Int) :
    (turnL A B (-c)).sum ≤ wsum (fun t => ((((cntLe A t : Int) - (cntLe B t : Int)) - c).natAbs : Int)) s 64 := by
  match A, la with
  | [a0, a1, a2, a3, a4], _ =>
  match B, lb with
  | [b0, b1, b2, b3, b4], _ =>
  have lc : (([b0, b1, b2, b3, b4].length : Nat) : Int) = 5 := rfl
  simp only [Srt, List.pairwise_cons, List.mem_cons, List.not_mem_nil, or_false, forall_eq_or_imp, forall_eq] at hA hB
  simp only [List.mem_cons, List.not_mem_nil, or_false, forall_eq_or_imp, forall_eq] at rA rB
  obtain ⟨⟨la0, ua0⟩, ⟨la1, ua1⟩, ⟨la2, ua2⟩, ⟨la3, ua3⟩, ⟨la4, ua4⟩⟩ := rA
  obtain ⟨⟨lb0, ub0⟩, ⟨lb1, ub1⟩, ⟨lb2, ub2⟩, ⟨lb3, ub3⟩, ⟨lb4, ub4⟩⟩ := rB
  obtain ⟨⟨sa0, _, _, _⟩, ⟨sa1, _, _⟩, ⟨sa2, _⟩, sa3, _⟩ := hA
  obtain ⟨⟨sb0, _, _, _⟩, ⟨sb1, _, _⟩, ⟨sb2, _⟩, sb3, _⟩ := hB
  have tl : turnL [a0, a1, a2, a3, a4] [b0, b1, b2, b3, b4] (-c) = [way a0 (([b0, b1, b2, b3, b4] : List Int).getD ((0 + -c) % (([b0, b1, b2, b3, b4].length : Nat) : Int)).toNat 0), way a1 (([b0, b1, b2, b3, b4] : List Int).getD ((1 + -c) % (([b0, b1, b2, b3, b4].length : Nat) : Int)).toNat 0), way a2 (([b0, b1, b2, b3, b4] : List Int).getD ((2 + -c) % (([b0, b1, b2, b3, b4].length : Nat) : Int)).toNat 0), way a3 (([b0, b1, b2, b3, b4] : List Int).getD ((3 + -c) % (([b0, b1, b2, b3, b4].length : Nat) : Int)).toNat 0), way a4 (([b0, b1, b2, b3, b4] : List Int).getD ((4 + -c) % (([b0, b1, b2, b3, b4].length : Nat) : Int)).toNat 0)] := rfl
  rw [tl, lc]
  have eA : ∀ t, (cntLe [a0, a1, a2, a3, a4] t : Int) = ind a0 t + ind a1 t + ind a2 t + ind a3 t + ind a4 t := fun t => by simp only [cntLe_cons, cntLe_nil]; lia
  have eB : ∀ t, (cntLe [b0, b1, b2, b3, b4] t : Int) = ind b0 t + ind b1 t + ind b2 t + ind b3 t + ind b4 t := fun t => by simp only [cntLe_cons, cntLe_nil]; lia
  simp only [eA, eB]
  obtain ⟨u, hu⟩ : ∃ u, u = c / 5 := ⟨_, rfl⟩
  rcases (show c = 5 * u + 0 ∨ c = 5 * u + 1 ∨ c = 5 * u + 2 ∨ c = 5 * u + 3 ∨ c = 5 * u + 4 by lia) with e | e | e | e | e <;> subst e <;> clear hu
  · rw [show (0 + -(5 * u + 0)) % 5 = 0 from ix5 0 0 u, show (1 + -(5 * u + 0)) % 5 = 1 from ix5 1 0 u, show (2 + -(5 * u + 0)) % 5 = 2 from ix5 2 0 u, show (3 + -(5 * u + 0)) % 5 = 3 from ix5 3 0 u, show (4 + -(5 * u + 0)) % 5 = 4 from ix5 4 0 u]
    show way a0 b0 + (way a1 b1 + (way a2 b2 + (way a3 b3 + (way a4 b4 + 0)))) ≤ _
    have e := wsum_congr (s := s) (k := 64) fun t _ _ => (spot5_0 (u := u) (bits5 sa0 sa1 sa2 sa3 t : Bits5 (ind a0 t) (ind a1 t) (ind a2 t) (ind a3 t) (ind a4 t)) (bits5 sb0 sb1 sb2 sb3 t : Bits5 (ind b0 t) (ind b1 t) (ind b2 t) (ind b3 t) (ind b4 t))).symm
    rw [e]
    simp only [wsum_add]
    exact sum_le5 (way_wsum (s := s) la0 ua0 lb0 ub0 (0 - u)) (way_wsum (s := s) la1 ua1 lb1 ub1 (0 - u)) (way_wsum (s := s) la2 ua2 lb2 ub2 (0 - u)) (way_wsum (s := s) la3 ua3 lb3 ub3 (0 - u)) (way_wsum (s := s) la4 ua4 lb4 ub4 (0 - u))
  · rw [show (0 + -(5 * u + 1)) % 5 = 4 from ix5 0 1 u, show (1 + -(5 * u + 1)) % 5 = 0 from ix5 1 1 u, show (2 + -(5 * u + 1)) % 5 = 1 from ix5 2 1 u, show (3 + -(5 * u + 1)) % 5 = 2 from ix5 3 1 u, show (4 + -(5 * u + 1)) % 5 = 3 from ix5 4 1 u]
    show way a0 b4 + (way a1 b0 + (way a2 b1 + (way a3 b2 + (way a4 b3 + 0)))) ≤ _
    have e := wsum_congr (s := s) (k := 64) fun t _ _ => (spot5_1 (u := u) (bits5 sa0 sa1 sa2 sa3 t : Bits5 (ind a0 t) (ind a1 t) (ind a2 t) (ind a3 t) (ind a4 t)) (bits5 sb0 sb1 sb2 sb3 t : Bits5 (ind b0 t) (ind b1 t) (ind b2 t) (ind b3 t) (ind b4 t))).symm
    rw [e]
    simp only [wsum_add]
    exact sum_le5 (way_wsum (s := s) la0 ua0 lb4 ub4 (-1 - u)) (way_wsum (s := s) la1 ua1 lb0 ub0 (0 - u)) (way_wsum (s := s) la2 ua2 lb1 ub1 (0 - u)) (way_wsum (s := s) la3 ua3 lb2 ub2 (0 - u)) (way_wsum (s := s) la4 ua4 lb3 ub3 (0 - u))
  · rw [show (0 + -(5 * u + 2)) % 5 = 3 from ix5 0 2 u, show (1 + -(5 * u + 2)) % 5 = 4 from ix5 1 2 u, show (2 + -(5 * u + 2)) % 5 = 0 from ix5 2 2 u, show (3 + -(5 * u + 2)) % 5 = 1 from ix5 3 2 u, show (4 + -(5 * u + 2)) % 5 = 2 from ix5 4 2 u]
    show way a0 b3 + (way a1 b4 + (way a2 b0 + (way a3 b1 + (way a4 b2 + 0)))) ≤ _
    have e := wsum_congr (s := s) (k := 64) fun t _ _ => (spot5_2 (u := u) (bits5 sa0 sa1 sa2 sa3 t : Bits5 (ind a0 t) (ind a1 t) (ind a2 t) (ind a3 t) (ind a4 t)) (bits5 sb0 sb1 sb2 sb3 t : Bits5 (ind b0 t) (ind b1 t) (ind b2 t) (ind b3 t) (ind b4 t))).symm
    rw [e]
    simp only [wsum_add]
    exact sum_le5 (way_wsum (s := s) la0 ua0 lb3 ub3 (-1 - u)) (way_wsum (s := s) la1 ua1 lb4 ub4 (-1 - u)) (way_wsum (s := s) la2 ua2 lb0 ub0 (0 - u)) (way_wsum (s := s) la3 ua3 lb1 ub1 (0 - u)) (way_wsum (s := s) la4 ua4 lb2 ub2 (0 - u))
  · rw [show (0 + -(5 * u + 3)) % 5 = 2 from ix5 0 3 u, show (1 + -(5 * u + 3)) % 5 = 3 from ix5 1 3 u, show (2 + -(5 * u + 3)) % 5 = 4 from ix5 2 3 u, show (3 + -(5 * u + 3)) % 5 = 0 from ix5 3 3 u, show (4 + -(5 * u + 3)) % 5 = 1 from ix5 4 3 u]
    show way a0 b2 + (way a1 b3 + (way a2 b4 + (way a3 b0 + (way a4 b1 + 0)))) ≤ _
    have e := wsum_congr (s := s) (k := 64) fun t _ _ => (spot5_3 (u := u) (bits5 sa0 sa1 sa2 sa3 t : Bits5 (ind a0 t) (ind a1 t) (ind a2 t) (ind a3 t) (ind a4 t)) (bits5 sb0 sb1 sb2 sb3 t : Bits5 (ind b0 t) (ind b1 t) (ind b2 t) (ind b3 t) (ind b4 t))).symm
    rw [e]
    simp only [wsum_add]
    exact sum_le5 (way_wsum (s := s) la0 ua0 lb2 ub2 (-1 - u)) (way_wsum (s := s) la1 ua1 lb3 ub3 (-1 - u)) (way_wsum (s := s) la2 ua2 lb4 ub4 (-1 - u)) (way_wsum (s := s) la3 ua3 lb0 ub0 (0 - u)) (way_wsum (s := s) la4 ua4 lb1 ub1 (0 - u))
  · rw [show (0 + -(5 * u + 4)) % 5 = 1 from ix5 0 4 u, show (1 + -(5 * u + 4)) % 5 = 2 from ix5 1 4 u, show (2 + -(5 * u + 4)) % 5 = 3 from ix5 2 4 u, show (3 + -(5 * u + 4)) % 5 = 4 from ix5 3 4 u, show (4 + -(5 * u + 4)) % 5 = 0 from ix5 4 4 u]
    show way a0 b1 + (way a1 b2 + (way a2 b3 + (way a3 b4 + (way a4 b0 + 0)))) ≤ _
    have e := wsum_congr (s := s) (k := 64) fun t _ _ => (spot5_4 (u := u) (bits5 sa0 sa1 sa2 sa3 t : Bits5 (ind a0 t) (ind a1 t) (ind a2 t) (ind a3 t) (ind a4 t)) (bits5 sb0 sb1 sb2 sb3 t : Bits5 (ind b0 t) (ind b1 t) (ind b2 t) (ind b3 t) (ind b4 t))).symm
    rw [e]
    simp only [wsum_add]
    exact sum_le5 (way_wsum (s := s) la0 ua0 lb1 ub1 (-1 - u)) (way_wsum (s := s) la1 ua1 lb2 ub2 (-1 - u)) (way_wsum (s := s) la2 ua2 lb3 ub3 (-1 - u)) (way_wsum (s := s) la3 ua3 lb4 ub4 (-1 - u)) (way_wsum (s := s) la4 ua4 lb0 ub0 (0 - u))
/-- sums over gaps are sums over places -/
theorem gaps_sum {mk : List Int} (hs : Srt mk) {g : Int → Int} (hg : ∀ k, k + 1 < mk.length → ∀ t, mk.getD k 0 ≤ t → t < mk.getD (k + 1) 0 → g t = g (mk.getD k 0)) :
    ∀ j, j < mk.length → ((List.range j).map fun k => g (mk.getD k 0) * (mk.getD (k + 1) 0 - mk.getD k 0)).sum = wsum g (mk.getD 0 0) (mk.getD j 0 - mk.getD 0 0).toNat
  | 0, _ => by simp [wsum]
  | j + 1, h => by
    rw [List.range_succ, List.map_append, List.sum_append, gaps_sum hs hg j (by lia)]
    have h1 := srt_get hs (i := 0) (j := j) (by lia) (by lia)
    have h2 := srt_get hs (i := j) (j := j + 1) (by lia) h
    rw [show (mk.getD (j + 1) 0 - mk.getD 0 0).toNat = (mk.getD j 0 - mk.getD 0 0).toNat + (mk.getD (j + 1) 0 - mk.getD j 0).toNat by lia, wsum_join,
      show mk.getD 0 0 + (((mk.getD j 0 - mk.getD 0 0).toNat : Nat) : Int) = mk.getD j 0 by lia]
    rw [wsum_congr (g := g) (g' := fun _ => g (mk.getD j 0)) fun t t1 t2 => hg j h t t1 (by lia), wsum_const]
    simp only [List.map_cons, List.map_nil, List.sum_cons, List.sum_nil, Int.add_zero]
    rw [Int.toNat_of_nonneg (by lia)]
noncomputable def priceL (es : List (Int × Int)) (c : Int) : Int := (es.map fun e => ((e.1 - c).natAbs : Int) * e.2).sum
section
variable {A B ks : List Int} (hs : Srt ks) (hp : ks.Perm (A ++ B)) (hn : 0 < ks.length) (r : ∀ a ∈ ks, 0 ≤ a ∧ a < 64)
include hs r in
theorem marks_srt : Srt (ks ++ [ks.getD 0 0 + 64]) := by
  unfold Srt
  rw [List.pairwise_append]
  refine ⟨hs, by simp, fun a ha b hb => ?_⟩
  rw [List.mem_singleton.mp hb]
  have h1 := r a ha
  have h2 : 0 ≤ ks.getD 0 0 := by
    cases ks with
    | nil => exact Int.le_refl _
    | cons x r' => exact (r x List.mem_cons_self).1
  lia
include hs hp in
theorem count_gap {l : List Int} (hl : ∀ a ∈ l, a ∈ A ++ B) (k : Nat) (hk : k < ks.length) (t : Int) (h1 : ks.getD k 0 ≤ t) (h2 : k + 1 < ks.length → t < ks.getD (k + 1) 0) : cntLe l t = cntLe l (ks.getD k 0) := by
  unfold cntLe
  refine List.countP_congr fun a ha => ?_
  simp only [decide_eq_true_eq]
  refine ⟨fun h => ?_, fun h => Int.le_trans h h1⟩
  obtain ⟨i, hi, e⟩ := List.getElem_of_mem (hp.mem_iff.mpr (hl a ha))
  have e : ks.getD i 0 = a := by rw [List.getD_eq_getElem?_getD, List.getElem?_eq_getElem hi]; exact e
  rcases Nat.lt_or_ge k i with h3 | h3
  · have h4 := h2 (by lia)
    have h5 := srt_get hs (i := k + 1) (j := i) (by lia) hi
    lia
  · have h5 := srt_get hs (i := i) (j := k) h3 hk
    lia
include hs hp hn r in
theorem price_levels (c : Int) : priceL (levelsL A B (ks ++ [ks.getD 0 0 + 64])) c = wsum (fun t => ((((cntLe A t : Int) - (cntLe B t : Int)) - c).natAbs : Int)) (ks.getD 0 0) 64 := by
  have ms := marks_srt hs r
  have g0 : ∀ k, k < ks.length → (ks ++ [ks.getD 0 0 + 64]).getD k 0 = ks.getD k 0 := fun k hk => by
    rw [List.getD_eq_getElem?_getD, List.getElem?_append_left hk, ← List.getD_eq_getElem?_getD]
  have g1 : (ks ++ [ks.getD 0 0 + 64]).getD ks.length 0 = ks.getD 0 0 + 64 := by
    rw [List.getD_eq_getElem?_getD, List.getElem?_append_right (Nat.le_refl _)]
    simp
  have ml : (ks ++ [ks.getD 0 0 + 64]).length = ks.length + 1 := by simp
  have z := gaps_sum ms (g := fun t => ((((cntLe A t : Int) - (cntLe B t : Int)) - c).natAbs : Int)) (fun k hk t t1 t2 => by
    rw [ml] at hk
    rw [g0 k (by lia)] at t1 ⊢
    have x : ∀ l : List Int, (∀ a ∈ l, a ∈ A ++ B) → cntLe l t = cntLe l (ks.getD k 0) := fun l hl => count_gap hs hp hl k (by lia) t t1 fun h => by rwa [g0 (k + 1) h] at t2
    rw [x A fun a ha => List.mem_append_left _ ha, x B fun a ha => List.mem_append_right _ ha]) ks.length (by rw [ml]; lia)
  rw [g0 0 hn, g1, show (ks.getD 0 0 + 64 - ks.getD 0 0).toNat = 64 by lia] at z
  rw [← z]
  unfold priceL levelsL
  rw [ml, List.map_map]
  rfl
include hs hp hn r in
theorem level_widths : (∀ e ∈ levelsL A B (ks ++ [ks.getD 0 0 + 64]), 0 ≤ e.2 ∧ e.2 < 1000) ∧ ((levelsL A B (ks ++ [ks.getD 0 0 + 64])).map (·.2)).sum = 64 := by
  have ms := marks_srt hs r
  have ml : (ks ++ [ks.getD 0 0 + 64]).length = ks.length + 1 := by simp
  have g0 : (ks ++ [ks.getD 0 0 + 64]).getD 0 0 = ks.getD 0 0 := by rw [List.getD_eq_getElem?_getD, List.getElem?_append_left hn, ← List.getD_eq_getElem?_getD]
  have g1 : (ks ++ [ks.getD 0 0 + 64]).getD ks.length 0 = ks.getD 0 0 + 64 := by
    rw [List.getD_eq_getElem?_getD, List.getElem?_append_right (Nat.le_refl _)]
    simp
  refine ⟨fun e he => ?_, ?_⟩
  · obtain ⟨k, hk, rfl⟩ := List.mem_map.mp he
    rw [ml, List.mem_range] at hk
    have h1 := srt_get ms (i := k) (j := k + 1) (by lia) (by lia)
    have h2 := srt_get ms (i := 0) (j := k) (by lia) (by lia)
    have h3 := srt_get ms (i := k + 1) (j := ks.length) (by lia) (by lia)
    dsimp only
    lia
  · have z := gaps_sum ms (g := fun _ => 1) (fun _ _ _ _ _ => rfl) ks.length (by rw [ml]; lia)
    rw [wsum_const, g0, g1] at z
    unfold levelsL
    rw [ml, List.map_map]
    simp only [Int.one_mul] at z
    rw [show ks.length + 1 - 1 = ks.length by lia]
    refine Eq.trans ?_ (z.trans (by lia))
    rfl
end
/-- the middle one costs least -/
noncomputable def priceK (ks : List Int) (c : Int) : Int := (ks.map fun k => ((k / 1000 - c).natAbs : Int) * (k % 1000)).sum
noncomputable def wideK (ks : List Int) : Int := (ks.map (· % 1000)).sum
theorem priceK_app (a b : List Int) (c : Int) : priceK (a ++ b) c = priceK a c + priceK b c := by simp [priceK]
theorem wideK_app (a b : List Int) : wideK (a ++ b) = wideK a + wideK b := by simp [wideK]
theorem wideK_nonneg (ks : List Int) : 0 ≤ wideK ks := by
  unfold wideK
  induction ks with
  | nil => simp
  | cons x r ih => simp only [List.map_cons, List.sum_cons]; lia
theorem priceK_far (ks : List Int) (m c d : Int) (hd : 0 ≤ d) (hc : (m - c).natAbs ≤ d) : priceK ks m - d * wideK ks ≤ priceK ks c := by
  unfold priceK wideK
  induction ks with
  | nil => simp
  | cons x r ih =>
    simp only [List.map_cons, List.sum_cons, Int.mul_add]
    have h : ((x / 1000 - m).natAbs : Int) ≤ (x / 1000 - c).natAbs + d := by omega
    have h2 := Int.mul_le_mul_of_nonneg_right h (show 0 ≤ x % 1000 by omega)
    rw [Int.add_mul] at h2
    omega
theorem priceK_same (ks : List Int) (m c d : Int) (h : ∀ x ∈ ks, ((x / 1000 - c).natAbs : Int) = (x / 1000 - m).natAbs + d) : priceK ks c = priceK ks m + d * wideK ks := by
  unfold priceK wideK
  induction ks with
  | nil => simp
  | cons x r ih =>
    simp only [List.map_cons, List.sum_cons, Int.mul_add]
    rw [ih fun y hy => h y (List.mem_cons_of_mem _ hy), h x List.mem_cons_self, Int.add_mul]
    lia
theorem mid_dn {q m c : Int} (h : m = q) (hc : m ≤ c) : ((q - c).natAbs : Int) = c - m := by omega
theorem mid_up {q m c : Int} (h : m = q) (hc : c ≤ m) : ((q - c).natAbs : Int) = m - c := by omega
theorem mid_no {q m : Int} (h : m = q) : ((q - m).natAbs : Int) = 0 := by omega
theorem key_div {l v : Int} (h : 0 ≤ v ∧ v < 1000) : (1000 * l + v) / 1000 = l := by omega
theorem key_mod {l v : Int} (h : 0 ≤ v ∧ v < 1000) : (1000 * l + v) % 1000 = v := by omega
theorem middle_least {es : List (Int × Int)} {m : Int} (h : MidOf es m) (hw : ∀ e ∈ es, 0 ≤ e.2 ∧ e.2 < 1000) (hsum : (es.map (·.2)).sum = 64) (c : Int) : priceL es m ≤ priceL es c := by
  obtain ⟨k₁, k, k₂, hp, h1, h2, hm, h3, h4⟩ := h
  have pe : ∀ c, priceL es c = priceK k₁ c + (((k / 1000 - c).natAbs : Int) * (k % 1000) + priceK k₂ c) := fun c => by
    have e1 : priceL es c = priceK (es.map keyOf) c := by
      unfold priceL priceK
      rw [List.map_map]
      congr 1
      refine List.map_congr_left fun e he => ?_
      have := hw e he
      show _ = (((1000 * e.1 + e.2) / 1000 - c).natAbs : Int) * ((1000 * e.1 + e.2) % 1000)
      rw [key_div this, key_mod this]
    have e2 : priceK (es.map keyOf) c = priceK (k₁ ++ k :: k₂) c := (perm_sum (hp.map _)).symm
    rw [e1, e2, priceK_app]
    simp [priceK]
  have we : wideK k₁ + (k % 1000 + wideK k₂) = 64 := by
    have e1 : (es.map (·.2)).sum = wideK (es.map keyOf) := by
      unfold wideK
      rw [List.map_map]
      congr 1
      refine List.map_congr_left fun e he => ?_
      have := hw e he
      exact (key_mod this).symm
    have e2 : wideK (es.map keyOf) = wideK (k₁ ++ k :: k₂) := (perm_sum (hp.map _)).symm
    rw [← hsum, e1, e2, wideK_app]
    simp [wideK]
  have h3 : wideK k₁ < 32 := h3
  have h4 : 32 ≤ wideK k₁ + k % 1000 := h4
  rw [pe m, pe c]
  rcases Int.le_total m c with hc | hc
  · have a1 := priceK_same k₁ m c (c - m) fun x hx => by have := h1 x hx; lia
    have a2 := priceK_far k₂ m c (c - m) (by lia) (by lia)
    have a3 : ((k / 1000 - c).natAbs : Int) * (k % 1000) = (c - m) * (k % 1000) := by rw [show ((k / 1000 - c).natAbs : Int) = c - m from mid_dn hm hc]
    have a4 : ((k / 1000 - m).natAbs : Int) * (k % 1000) = 0 := by rw [show ((k / 1000 - m).natAbs : Int) = 0 from mid_no hm, Int.zero_mul]
    have a5 := Int.mul_le_mul_of_nonneg_left (show wideK k₂ ≤ wideK k₁ + k % 1000 by lia) (show 0 ≤ c - m by lia)
    rw [Int.mul_add] at a5
    lia
  · have a1 := priceK_same k₂ m c (m - c) fun x hx => by have := h2 x hx; lia
    have a2 := priceK_far k₁ m c (m - c) (by lia) (by lia)
    have a3 : ((k / 1000 - c).natAbs : Int) * (k % 1000) = (m - c) * (k % 1000) := by rw [show ((k / 1000 - c).natAbs : Int) = m - c from mid_up hm hc]
    have a4 : ((k / 1000 - m).natAbs : Int) * (k % 1000) = 0 := by rw [show ((k / 1000 - m).natAbs : Int) = 0 from mid_no hm, Int.zero_mul]
    have a5 := Int.mul_le_mul_of_nonneg_left (show wideK k₁ ≤ wideK k₂ + k % 1000 by lia) (show 0 ≤ m - c by lia)
    rw [Int.mul_add] at a5
    lia
theorem Rows.levels {p q A B ks : List Int} (h : Rows p q A B) (hs : Srt ks) (hp : ks.Perm (A ++ B)) {m : Int} (hm : MidOf (levelsL A B (ks ++ [ks.getD 0 0 + 64])) m) :
    priceL (levelsL A B (ks ++ [ks.getD 0 0 + 64])) m = (pairQ p q).1 ∧ (turnL A B (-m)).sum = (pairQ p q).1 := by
  have hl := hp.length_eq
  rw [List.length_append] at hl
  have lb := h.lb
  have hn : 0 < ks.length := by rcases h.la with e | e <;> lia
  have r : ∀ a ∈ ks, 0 ≤ a ∧ a < 64 := fun a ha => by
    rcases List.mem_append.mp (hp.mem_iff.mp ha) with x | x
    · exact h.rA a x
    · exact h.rB a x
  have low : ∀ a ∈ ks, ks.getD 0 0 ≤ a := fun a ha => by
    obtain ⟨i, hi, e⟩ := List.getElem_of_mem ha
    have := srt_get hs (i := 0) (j := i) (by lia) hi
    rw [List.getD_eq_getElem?_getD (i := i), List.getElem?_eq_getElem hi] at this
    rw [← e]; exact this
  have hz : 0 ≤ ks.getD 0 0 := by
    cases ks with
    | nil => exact Int.le_refl _
    | cons x r' => exact (r x List.mem_cons_self).1
  have wA : ∀ a ∈ A, ks.getD 0 0 ≤ a ∧ a < ks.getD 0 0 + 64 := fun a ha => ⟨low a (hp.mem_iff.mpr (List.mem_append_left _ ha)), by have := h.rA a ha; lia⟩
  have wB : ∀ a ∈ B, ks.getD 0 0 ≤ a ∧ a < ks.getD 0 0 + 64 := fun a ha => ⟨low a (hp.mem_iff.mpr (List.mem_append_right _ ha)), by have := h.rB a ha; lia⟩
  obtain ⟨w1, w2⟩ := level_widths (A := A) (B := B) hs hp hn r
  obtain ⟨h1, h2, h3⟩ := h.lens
  obtain ⟨⟨W, hW, e⟩, hone⟩ := one_spec h1 h2
  have up : (turnL A B (-m)).sum ≤ priceL (levelsL A B (ks ++ [ks.getD 0 0 + 64])) m := by
    rw [price_levels hs hp hn r]
    rcases h.la with e | e
    · exact low4 h.sA h.sB e (lb.trans e) _ wA wB m
    · exact low5 h.sA h.sB e (lb.trans e) _ wA wB m
  have hWs := h.prs.mpr hW
  obtain ⟨M, hM⟩ := low_any (s := ks.getD 0 0) (W := W) fun ab hab =>
    ⟨wA _ (hWs.1.mem_iff.mp (List.mem_map.mpr ⟨ab, hab, rfl⟩)), wB _ (hWs.2.mem_iff.mp (List.mem_map.mpr ⟨ab, hab, rfl⟩))⟩
  simp only [cntLe_perm hWs.1, cntLe_perm hWs.2] at hM
  rw [← price_levels hs hp hn r M, ← e] at hM
  have mid := middle_least hm w1 w2 M
  obtain ⟨W', hW', e'⟩ := h.turn (-m)
  have l2 := hone W' hW'
  have e' : (turnL A B (-m)).sum = (W'.map fun ab => wy ab).sum := by rw [e']
  lia

-- comprehensions over the colours' rows: what an item is, said once
section
variable {prog : Program} {w : World} {A : Around} {h₀ : Heap} {L : Addr} {m : Str → Option Value} {env : Env} {elt : PySem.Expr} {a b c d : Str} {scope : Scope} {cl : List (Str × Addr)} {Fin : Shared → List Value → List (Addr × Obj) → Prop} {ax : Addr} {k : Nat}
  {news led : List (Addr × Obj)} {dys : List Value} {dr : List Int} {s₁ : Shared} {ε : Type}
theorem quads_vals {R : Value → ε → Prop} (g : Int → ε) (hh : A.handled = none) (dR : ItemsR (QuadR led) dys (dr.map colQ)) (sub : ∀ p ∈ led, p ∈ news)
    (F : Fr h₀ L s₁.heap m) (N : News h₀ L s₁.heap news) (hm : (ax, listOf dys.toArray k) ∈ news) (hl : dr.length < 400)
    (turn : ∀ x, x ∈ dr → ∀ ta tb tc td I oI C oC D m₂ ys h tk (E' : Value → Shared → Prop), LCg.NsObj oC m₂ → m₂ a = some (.int (colQ x).1 ta) → m₂ b = some (.int (colQ x).2.1 tb) → m₂ c = some (.int (colQ x).2.2.1 tc) → m₂ d = some (.int (colQ x).2.2.2 td) →
      Fr h₀ L h m → News h₀ L h ((I, oI) :: (C, oC) :: (D, LCg.lst ys) :: news) → LCg.Off3 I C D news → ((@Ne Nat I C) ∧ (@Ne Nat I D) ∧ (@Ne Nat C D)) →
      wpAny (model prog w) A (eval elt (compEnvC scope cl C env)) (LCg.CompEnd h₀ L m { s₁ with heap := h, toks := tk } I oI C oC D (LCg.lst ys) (LCg.SrcAt h₀ ax dys.toArray) (fun y news' => ElV R news (g x) y news')) E' { s₁ with heap := h, toks := tk })
    (fin : ∀ g' ys, ItemsR R ys (dr.map g) → Fin { s₁ with heap := g' } ys news) :
    SrcN prog w A h₀ L m env elt (fun m₂ vs => ∃ v₁ v₂ v₃ v₄, vs = #[v₁, v₂, v₃, v₄] ∧ m₂ a = some v₁ ∧ m₂ b = some v₂ ∧ m₂ c = some v₃ ∧ m₂ d = some v₄) (fun vs => ∃ v₁ v₂ v₃ v₄, vs = #[v₁, v₂, v₃, v₄]) scope cl Fin (.ref ax) s₁ := by
  refine SrcN.ledger hh F N hm (by rw [sizeLine_eq, List.size_toArray, dR.length, List.length_map]; lia) fun g' => ?_
  have e : dys.toArray.size = dr.length := by rw [List.size_toArray, dR.length, List.length_map]
  rw [e]
  refine compN_vals R (fun i => g (dr.getD i 0)) ?_ ?_
  · intro i v hin hv
    obtain ⟨q, he, t', ta, tb, tc, td, ev, hm'⟩ := dR.at (i := i) (v := v) (by simpa using hv)
    obtain ⟨x, hxm, rfl⟩ : ∃ x, dr[i]? = some x ∧ colQ x = q := by simpa using he
    have hdg : dr.getD i 0 = x := by rw [List.getD_eq_getElem?_getD, hxm]; rfl
    rw [hdg]
    refine ⟨t', _, _, _, ev, sub _ hm', rfl, rfl, ⟨_, _, _, _, rfl⟩, ?_⟩
    rintro I oI C oC D m₂ ys h tk E' hC ⟨v₁, v₂, v₃, v₄, ea, m1, m2, m3, m4⟩ Fx Nx off ne
    simp only [Array.mk.injEq, List.cons.injEq, and_true] at ea
    obtain ⟨rfl, rfl, rfl, rfl⟩ := ea
    exact turn x (List.mem_of_getElem? hxm) ta tb tc td I oI C oC D m₂ ys h tk E' hC m1 m2 m3 m4 Fx Nx off ne
  · intro ys hys
    exact fin g' ys (range_map_at g 0 dr ▸ hys)
theorem quads_items {R : List (Addr × Obj) → Value → ε → Prop} (mono : ∀ a b v e, (∀ p ∈ a, p ∈ b) → R a v e → R b v e) (g : Int → ε) (hh : A.handled = none) (dR : ItemsR (QuadR led) dys (dr.map colQ)) (sub : ∀ p ∈ led, p ∈ news)
    (F : Fr h₀ L s₁.heap m) (N : News h₀ L s₁.heap news) (hm : (ax, listOf dys.toArray k) ∈ news) (hl : dr.length < 400)
    (turn : ∀ x, x ∈ dr → ∀ ta tb tc td tl I oI C oC D m₂ ys h tk (E' : Value → Shared → Prop), LCg.NsObj oC m₂ → m₂ a = some (.int (colQ x).1 ta) → m₂ b = some (.int (colQ x).2.1 tb) → m₂ c = some (.int (colQ x).2.2.1 tc) → m₂ d = some (.int (colQ x).2.2.2 td) →
      Fr h₀ L h m → News h₀ L h ((I, oI) :: (C, oC) :: (D, LCg.lst ys) :: (news ++ tl)) → LCg.Off3 I C D (news ++ tl) → ((@Ne Nat I C) ∧ (@Ne Nat I D) ∧ (@Ne Nat C D)) →
      wpAny (model prog w) A (eval elt (compEnvC scope cl C env)) (LCg.CompEnd h₀ L m { s₁ with heap := h, toks := tk } I oI C oC D (LCg.lst ys) (LCg.SrcAt h₀ ax dys.toArray) (fun y news' => ElR R news tl (g x) y news')) E' { s₁ with heap := h, toks := tk })
    (fin : ∀ g' ys tl, ItemsR (R (news ++ tl)) ys (dr.map g) → Fin { s₁ with heap := g' } ys (news ++ tl)) :
    SrcN prog w A h₀ L m env elt (fun m₂ vs => ∃ v₁ v₂ v₃ v₄, vs = #[v₁, v₂, v₃, v₄] ∧ m₂ a = some v₁ ∧ m₂ b = some v₂ ∧ m₂ c = some v₃ ∧ m₂ d = some v₄) (fun vs => ∃ v₁ v₂ v₃ v₄, vs = #[v₁, v₂, v₃, v₄]) scope cl Fin (.ref ax) s₁ := by
  refine SrcN.ledger hh F N hm (by rw [sizeLine_eq, List.size_toArray, dR.length, List.length_map]; omega) fun g' => ?_
  have e : dys.toArray.size = dr.length := by rw [List.size_toArray, dR.length, List.length_map]
  rw [e]
  refine compN_items R mono (fun i => g (dr.getD i 0)) ?_ ?_
  · intro i v hin hv
    obtain ⟨q, he, t', ta, tb, tc, td, ev, hm'⟩ := dR.at (i := i) (v := v) (by simpa using hv)
    obtain ⟨x, hxm, rfl⟩ : ∃ x, dr[i]? = some x ∧ colQ x = q := by simpa using he
    have hdg : dr.getD i 0 = x := by rw [List.getD_eq_getElem?_getD, hxm]; rfl
    rw [hdg]
    refine ⟨t', _, _, _, ev, sub _ hm', rfl, rfl, ⟨_, _, _, _, rfl⟩, ?_⟩
    rintro tl I oI C oC D m₂ ys h tk E' hC ⟨v₁, v₂, v₃, v₄, ea, m1, m2, m3, m4⟩ Fx Nx off ne
    simp only [Array.mk.injEq, List.cons.injEq, and_true] at ea
    obtain ⟨rfl, rfl, rfl, rfl⟩ := ea
    exact turn x (List.mem_of_getElem? hxm) ta tb tc td tl I oI C oC D m₂ ys h tk E' hC m1 m2 m3 m4 Fx Nx off ne
  · intro ys tl hys
    exact fin g' ys tl (range_map_at g 0 dr ▸ hys)
theorem rgbs_vals {R : Value → ε → Prop} {f : Int → UInt64 × UInt64 × UInt64} (g : Int → ε) (hh : A.handled = none) (dR : ItemsR (RgbR led) dys (dr.map f)) (sub : ∀ p ∈ led, p ∈ news)
    (F : Fr h₀ L s₁.heap m) (N : News h₀ L s₁.heap news) (hm : (ax, listOf dys.toArray k) ∈ news) (hl : dr.length < 400)
    (turn : ∀ x, x ∈ dr → ∀ ta tb tc I oI C oC D m₂ ys h tk (E' : Value → Shared → Prop), LCg.NsObj oC m₂ → m₂ a = some (.float (f x).1 ta) → m₂ b = some (.float (f x).2.1 tb) → m₂ c = some (.float (f x).2.2 tc) →
      Fr h₀ L h m → News h₀ L h ((I, oI) :: (C, oC) :: (D, LCg.lst ys) :: news) → LCg.Off3 I C D news → ((@Ne Nat I C) ∧ (@Ne Nat I D) ∧ (@Ne Nat C D)) →
      wpAny (model prog w) A (eval elt (compEnvC scope cl C env)) (LCg.CompEnd h₀ L m { s₁ with heap := h, toks := tk } I oI C oC D (LCg.lst ys) (LCg.SrcAt h₀ ax dys.toArray) (fun y news' => ElV R news (g x) y news')) E' { s₁ with heap := h, toks := tk })
    (fin : ∀ g' ys, ItemsR R ys (dr.map g) → Fin { s₁ with heap := g' } ys news) :
    SrcN prog w A h₀ L m env elt (fun m₂ vs => ∃ v₁ v₂ v₃, vs = #[v₁, v₂, v₃] ∧ m₂ a = some v₁ ∧ m₂ b = some v₂ ∧ m₂ c = some v₃) (fun vs => ∃ v₁ v₂ v₃, vs = #[v₁, v₂, v₃]) scope cl Fin (.ref ax) s₁ := by
  refine SrcN.ledger hh F N hm (by rw [sizeLine_eq, List.size_toArray, dR.length, List.length_map]; omega) fun g' => ?_
  have e : dys.toArray.size = dr.length := by rw [List.size_toArray, dR.length, List.length_map]
  rw [e]
  refine compN_vals R (fun i => g (dr.getD i 0)) ?_ ?_
  · intro i v hin hv
    obtain ⟨q, he, t', ta, tb, tc, ev, hm'⟩ := dR.at (i := i) (v := v) (by simpa using hv)
    obtain ⟨x, hxm, rfl⟩ : ∃ x, dr[i]? = some x ∧ f x = q := by simpa using he
    have hdg : dr.getD i 0 = x := by rw [List.getD_eq_getElem?_getD, hxm]; rfl
    rw [hdg]
    refine ⟨t', _, _, _, ev, sub _ hm', rfl, rfl, ⟨_, _, _, rfl⟩, ?_⟩
    rintro I oI C oC D m₂ ys h tk E' hC ⟨v₁, v₂, v₃, ea, m1, m2, m3⟩ Fx Nx off ne
    simp only [Array.mk.injEq, List.cons.injEq, and_true] at ea
    obtain ⟨rfl, rfl, rfl⟩ := ea
    exact turn x (List.mem_of_getElem? hxm) ta tb tc I oI C oC D m₂ ys h tk E' hC m1 m2 m3 Fx Nx off ne
  · intro ys hys
    exact fin g' ys (range_map_at g 0 dr ▸ hys)
end

theorem colQ_bounds {xs : List Int} {x : Int} (h : x ∈ drawsL xs) : 0 ≤ (colQ x).1 ∧ (colQ x).1 < 64 ∧ 0 ≤ (colQ x).2.1 ∧ (colQ x).2.1 < 64 ∧ 1 ≤ (colQ x).2.2.1 ∧ (colQ x).2.2.1 ≤ 4 ∧ 1 ≤ (colQ x).2.2.2 ∧ (colQ x).2.2.2 ≤ 4 := by
  have hx : 0 ≤ x ∧ x < 65536 := by
    unfold drawsL at h
    rcases List.mem_append.mp h with h | h
    · obtain ⟨y, _, rfl⟩ := List.mem_map.mp h
      lia
    · have := List.mem_of_mem_drop h
      simp only [List.mem_cons, List.not_mem_nil, or_false] at this
      lia
  unfold colQ
  simp only
  lia
theorem ne_tups {prog : Program} {w : World} {A : Around} {s : Shared} {E Q : Value → Shared → Prop} {a b : Addr} {x y z : Int} {t₁ t₂ t₃ u₁ u₂ u₃ : Tok} (ha : s.heap.IsTuple a #[.int x t₁, .int y t₂, .int z t₃]) (hb : s.heap.IsTuple b #[.int x u₁, .int y u₂, .int z u₃]) (hu : A.units < cLine)
    (h : Q (.bool false) s) : wpAny (model prog w) A (compareOp .NotEq (.ref a) (.ref b)) Q E s := by
  have e1 : ∀ (x : Int) (t u : Tok), SeqAt.EqAt A.in1 s (.int x t) (.int x u) true := fun x t u => by
    have := SeqAt.EqAt.int_int (A := A.in1) (s := s) x t x u
    rwa [beq_self_eq_true] at this
  have z := SeqAt.RcNeAt.tuples (e := fun _ => true) ha hb hu (fun j h1 h2 => by
    match j, h1 with
    | 0, _ => exact e1 x t₁ u₁
    | 1, _ => exact e1 y t₂ u₂
    | 2, _ => exact e1 z t₃ u₃
    | k + 3, h1 => exact absurd h1 (by simp))
  exact z prog w E Q h
theorem levels_len {A B ks : List Int} {n : Nat} (d : n = 4 ∨ n = 5) (h1 : A.length = n) (h2 : B.length = n) (hp : ks.Perm (A ++ B)) : 0 < ks.length ∧ ks.length < 900 ∧ (levelsL A B (ks ++ [ks.getD 0 0 + 64])).length < 900 := by
  have l1 := hp.length_eq
  rw [List.length_append] at l1
  rw [levelsL_length, List.length_append, List.length_singleton]
  lia
theorem Rows.marks {p q A B ks : List Int} (h : Rows p q A B) (hp : ks.Perm (A ++ B)) : ∀ a ∈ ks, 0 ≤ a ∧ a < 64 := fun a ha => by
  rcases List.mem_append.mp (hp.mem_iff.mp ha) with x | x
  · exact h.rA a x
  · exact h.rB a x
theorem levels_low {A B mk : List Int} {n : Nat} (d : n = 4 ∨ n = 5) (h1 : A.length = n) (h2 : B.length = n) : ∀ e ∈ levelsL A B mk, -5 ≤ e.1 ∧ e.1 ≤ 5 := fun e he => by
  obtain ⟨k, _, rfl⟩ := List.mem_map.mp he
  have z1 := cntLe_le A (mk.getD k 0)
  have z2 := cntLe_le B (mk.getD k 0)
  dsimp only
  lia
theorem middle_low {es : List (Int × Int)} {m : Int} (h : MidOf es m) (hw : ∀ e ∈ es, 0 ≤ e.2 ∧ e.2 < 1000) (hl : ∀ e ∈ es, -5 ≤ e.1 ∧ e.1 ≤ 5) : -5 ≤ m ∧ m ≤ 5 := by
  obtain ⟨k₁, k, k₂, hp, _, _, hm, _⟩ := h
  obtain ⟨e, he, hk⟩ := List.mem_map.mp (hp.mem_iff.mp (List.mem_append_right _ List.mem_cons_self))
  have z1 := hw e he
  have z2 := hl e he
  unfold keyOf at hk
  omega
theorem law_good {L : Addr} {m : Str → Option Value} {s₁ : Shared} {cl : Str → Option Addr} {mean : ExcName → Option Value} {ns : List Int} {h' : Heap} {tk : Nat} (F : Fr s₁.heap L h' m) (hg : s₁.gens = #[]) :
    GoodW PySem.Challenge.rw_pg0175_01.row.claim cl mean [ofPy (PyData.list (ns.map PyData.int))] s₁ (Except.ok (Flow.ret (Value.bool true))) { s₁ with heap := h', toks := tk } := by
  refine goodW_bool F hg (raisesW_false ?_) ?_ rfl
  · wrow_none_raised
  · wrow_post
theorem abs_if (x : Int) : (if x < 0 then -x else x) = (x.natAbs : Int) := by split <;> omega
theorem mk_rows {ds ps qs A B : List Int} (d : ds.length = 4 ∨ ds.length = 5) (h1 : ps.length = ds.length) (h2 : qs.length = ds.length) (pA : A.Perm ps) (pB : B.Perm qs) (sA : Srt A) (sB : Srt B) (bp : ∀ e ∈ ps, 0 ≤ e ∧ e < 64) (bq : ∀ e ∈ qs, 0 ≤ e ∧ e < 64) : Rows ps qs A B := by
  have l1 := pA.length_eq
  have l2 := pB.length_eq
  exact ⟨by lia, by lia, sA, sB, pA, pB, fun a ha => bp a (pA.mem_iff.mp ha), fun b hb => bq b (pB.mem_iff.mp hb)⟩
theorem d45_lt {n k : Nat} (d : n = 4 ∨ n = 5) (h : k = n) : k < 400 ∧ k < 900 ∧ 0 < k ∧ k ≤ 5 := by lia
theorem KEsame {a b c : List Int} (h1 : a.Perm c) (h2 : b.Perm c) (s1 : Srt a) (s2 : Srt b) : a = b := ksm_same (h1.trans h2.symm) s1 s2
local macro_rules | `(tactic| k_qdec) => `(tactic| kernel_rfl)
local macro_rules | `(tactic| walk_at "compareOp NotEq ref ref") => `(tactic| (refine Hold.mk ?_))
local macro_rules | `(tactic| walk_at "compareOp NotEq") => `(tactic| ((with_reducible show wpAny _ _ (compareOp CmpOp.NotEq (Value.ref _) (Value.ref _)) _ _ _); refine Hold.mk ?_))
local macro_rules | `(tactic| walk_at "call builtin:sorted") => `(tactic| (refine Hold.mk ?_))
local macro_rules | `(tactic| walk_at "call ref cons nil") => `(tactic| ((with_reducible show wpAny _ _ (call (Value.ref 98) _) _ _ _); refine Hold.mk ?_))
set_option maxHeartbeats 4000000 in
theorem law_holds : PySem.Challenge.rw_pg0175_01.Holds := by
  exact Mine.hd (by
    k_go0
    all_goals try k_fold
    rename_i w s₀ s₁ mg mb G Y fa o pm doc ho hg KX X V GL T B TE TW w2 w3 M w4 w5 hcd w6 hs hlay0 hL hr hl2 w7 w8 w9 w10 w11 hL2 ra w1 r0 hI hr2 hcond1 hcond2 K0 hD h₁ tk₁ F w12 right N0 X0
    have K1 : Below callerA s₁.heap [] s₁.heap := K0
    clear hD hcd ra w1 r0 hr2 X0 hs hlay0 hL hr hl2 K0
    have hd12 : w12.data = .cell none := right
    have F0 : Fr s₁.heap s₁.heap.objs.size h₁ (fun y => if y = Str.ofString "script" then some (.ref w9) else none) := F
    clear F right
    have hlen : w6.length ≤ 63 := by lia
    have room1 : callerA.depth + 1 + 30 < recursionLimit := by decide +kernel
    have room2 : callerA.units + 60 < cLine := by decide +kernel
    have dl : (drawsL w6).length ≤ 9 := by unfold drawsL; rw [List.length_append, List.length_map, List.length_take, List.length_drop]; simp only [List.length_cons, List.length_nil]; lia
    have d45 : (drawsL w6).length = 4 ∨ (drawsL w6).length = 5 := by unfold drawsL; rw [List.length_append, List.length_map, List.length_take, List.length_drop]; simp only [List.length_cons, List.length_nil]; lia
    have cb : ∀ x ∈ drawsL w6, _ := fun x hx => colQ_bounds hx
    obtain ⟨dr, hdr⟩ : ∃ dr, drawsL w6 = dr := ⟨_, rfl⟩
    rw [hdr] at dl d45
    have cb : ∀ x ∈ dr, _ := hdr ▸ cb
    have dl4 : dr.length < 400 := by lia
    k_steps
    rename_i h2 tk2 dl' dys dtl doff dR dap h3 F1 N1
    have dR : ItemsR (QuadR dtl) dys (dr.map colQ) := hdr ▸ dR
    have dys1 : dys.length = dr.length := by rw [dR.length, List.length_map]
    have N1 : News s₁.heap s₁.heap.objs.size h3 ((dl', listOf dys.toArray dys.length) :: (dtl ++ [(s₁.heap.objs.size + 1, w12)])) := N1
    refine Hold.of (quads_items RgbR.mono (fun x => hsvF (fq (colQ x).1 64) (fq (colQ x).2.2.1 4) (fq (colQ x).2.2.2 4)) rfl dR (fun p hp => by kcf_m) F1 N1 (by k_mem) dl4 ?_ ?_)
    · intro x hxm ta tb tc td tl I oI C oC D m₂ ys h tk E' hC m1 m2 m3 m4 F' N' off ne
      have b := cb x hxm
      generalize colQ x = e at b m1 m2 m3 m4 ⊢
      obtain ⟨p, q, sa, va⟩ := e
      dsimp only at b m1 m2 m3 m4 ⊢
      try k_unmd
      k_fold
      k_steps
      refine Hold.of ?_
      have c := col_all b.1 b.2.1 b.2.2.2.2.1 b.2.2.2.2.2.1 b.2.2.2.2.2.2.1 b.2.2.2.2.2.2.2
      refine (hsv2rgb_ c.h1 c.h2 c.h3).reads K1 F' KX N' T (by first | lia | (dsimp only [ktrTop]; lia)) (by first | lia | (dsimp only [ktrTop]; lia)) trivial ?_
      intro v' n' h' tk' F2 N2 ap' hR
      obtain ⟨t, R, G, B', ta', tb', tc', e1, e2, e3⟩ := hR
      subst e1 e2
      k_steps
      refine Hold.of (comp_endR [(t, tupO #[.float R ta', .float G tb', .float B' tc'])] F2 N2 (by kcf_all) off (off_new ap') (fun _ => .inr ⟨_, by kcf_m, rfl, _, rfl⟩) ?_)
      have e3 : hsvF (fq p 64) (fq sa 4) (fq va 4) = (R, G, B') := e3
      rw [e3]
      exact ⟨t, _, _, _, rfl, by kcf_m⟩
    · intro g' ya tl hya Da h tk F' N' off
      clear F1 N1
      have hya : ItemsR (RgbR _) ya (dr.map fun x => hsvF (fq (colQ x).1 64) (fq (colQ x).2.2.1 4) (fq (colQ x).2.2.2 4)) := hya
      have yal : ya.length = dr.length := by rw [hya.length, List.length_map]
      obtain ⟨led, hled⟩ : ∃ led, (Da, listOf ya.toArray ya.length) :: ((dl', listOf dys.toArray dys.length) :: (dtl ++ [(s₁.heap.objs.size + 1, w12)]) ++ tl) = led := ⟨_, rfl⟩
      have N' : News s₁.heap s₁.heap.objs.size h led := hled ▸ N'
      have hsub : ∀ p ∈ (dl', listOf dys.toArray dys.length) :: (dtl ++ [(s₁.heap.objs.size + 1, w12)]) ++ tl, p ∈ led := fun p hp => hled ▸ List.mem_cons_of_mem _ hp
      have mcell : (s₁.heap.objs.size + 1, w12) ∈ led := hsub _ (by kcf_m)
      have mdl : (dl', listOf dys.toArray dys.length) ∈ led := hsub _ (by kcf_m)
      have mya : (Da, listOf ya.toArray ya.length) ∈ led := hled ▸ List.mem_cons_self
      have dR : ItemsR (QuadR led) dys (dr.map colQ) := dR.mono fun v e hv => QuadR.mono _ _ v e (fun p hp => hsub p (by kcf_m)) hv
      have hya : ItemsR (RgbR led) ya _ := hya.mono fun v e hv => RgbR.mono _ _ v e hsub hv
      clear hled hsub off
      k_steps
      refine Hold.of (quads_items RgbR.mono (fun x => hsvF (fq (colQ x).2.1 64) (fq (colQ x).2.2.2 4) (fq (colQ x).2.2.1 4)) rfl dR (fun p hp => by kcf_m) F' N' mdl dl4 ?_ ?_)
      · intro x hxm ta tb tc td tl I oI C oC D m₂ ys h tk E' hC m1 m2 m3 m4 F2 N2 off ne
        have b := cb x hxm
        generalize colQ x = e at b m1 m2 m3 m4 ⊢
        obtain ⟨p, q, sa, va⟩ := e
        dsimp only at b m1 m2 m3 m4 ⊢
        clear F' N'
        try k_unmd
        k_fold
        k_steps
        refine Hold.of ?_
        have c := col_all b.2.2.1 b.2.2.2.1 b.2.2.2.2.2.2.1 b.2.2.2.2.2.2.2 b.2.2.2.2.1 b.2.2.2.2.2.1
        refine (hsv2rgb_ c.h1 c.h2 c.h3).reads K1 F2 KX N2 T (by first | lia | (dsimp only [ktrTop]; lia)) (by first | lia | (dsimp only [ktrTop]; lia)) trivial ?_
        intro v' n' h' tk' F3 N3 ap' hR
        obtain ⟨t, R, G, B', ta', tb', tc', e1, e2, e3⟩ := hR
        subst e1 e2
        clear F2 N2
        k_steps
        refine Hold.of (comp_endR [(t, tupO #[.float R ta', .float G tb', .float B' tc'])] F3 N3 (by kcf_all) off (off_new ap') (fun _ => .inr ⟨_, List.mem_append_left _ mdl, rfl, _, rfl⟩) ?_)
        have e3 : hsvF (fq q 64) (fq va 4) (fq sa 4) = (R, G, B') := e3
        rw [e3]
        exact ⟨t, _, _, _, rfl, by kcf_m⟩
      · intro g' yb tl hyb Db h tk F2 N2 off
        clear F' N'
        have hyb : ItemsR (RgbR _) yb (dr.map fun x => hsvF (fq (colQ x).2.1 64) (fq (colQ x).2.2.2 4) (fq (colQ x).2.2.1 4)) := hyb
        have ybl : yb.length = dr.length := by rw [hyb.length, List.length_map]
        obtain ⟨led₂, hled⟩ : ∃ led₂, (Db, listOf yb.toArray yb.length) :: (led ++ tl) = led₂ := ⟨_, rfl⟩
        have N2 : News s₁.heap s₁.heap.objs.size h led₂ := hled ▸ N2
        have hsub : ∀ p ∈ led ++ tl, p ∈ led₂ := fun p hp => hled ▸ List.mem_cons_of_mem _ hp
        have hsub' : ∀ p ∈ led, p ∈ led₂ := fun p hp => hsub p (List.mem_append_left _ hp)
        have mcell := hsub' _ mcell
        have mdl := hsub' _ mdl
        have mya := hsub' _ mya
        have myb : (Db, listOf yb.toArray yb.length) ∈ led₂ := hled ▸ List.mem_cons_self
        have dR : ItemsR (QuadR led₂) dys (dr.map colQ) := dR.mono fun v e hv => QuadR.mono _ _ v e hsub' hv
        have hya := hya.mono fun v e hv => RgbR.mono _ _ v e hsub' hv
        have hyb := hyb.mono fun v e hv => RgbR.mono _ _ v e hsub hv
        clear hled hsub hsub' off
        k_steps
        refine Hold.of (rgbs_vals (R := FltR) (fun x => Float64.ofInt (colQ x).1) rfl hya (fun p hp => by kcf_m) F2 N2 mya dl4 ?_ ?_)
        · intro x hxm ta tb tc I oI C oC D m₂ ys h tk E' hC m1 m2 m3 F3 N3 off ne
          have b := cb x hxm
          have c := col_all b.1 b.2.1 b.2.2.2.2.1 b.2.2.2.2.2.1 b.2.2.2.2.2.2.1 b.2.2.2.2.2.2.2
          have c1 := c.hsv
          have c2 := c.hue
          generalize (colQ x).1 = p at c1 c2 m1 m2 m3
          generalize hsvF (fq p 64) (fq (colQ x).2.2.1 4) (fq (colQ x).2.2.2 4) = rgb at c1 c2 m1 m2 m3
          clear c b
          obtain ⟨R, G, B₁⟩ := rgb
          dsimp only at c1 c2 m1 m2 m3 ⊢
          clear F2 N2
          try k_unmd
          k_fold
          k_steps
          refine Hold.of ?_
          refine (rgb2hsv_ c1).reads K1 F3 KX N3 T (by first | lia | (dsimp only [ktrTop]; lia)) (by first | lia | (dsimp only [ktrTop]; lia)) trivial ?_
          intro v' n' h' tk' F4 N4 ap' hR
          obtain ⟨t, hh, ta', x1, x2, e1, e2, e3⟩ := hR
          subst e1 e2 e3
          clear F3 N3
          have hT : IsTup h' t #[.float (hueF R G B₁) ta', x1, x2] := ⟨_, (N4 _ (List.mem_append_left _ List.mem_cons_self)).1, rfl, _, rfl⟩
          k_steps
          exact Hold.of (comp_endV F4 N4 (fun p hp => List.mem_append_right _ hp) off (.inr ⟨_, mya, rfl, _, rfl⟩) ⟨_, by rw [c2]⟩)
        · intro g' yc hyc Dc h tk F3 N3 off
          clear F2 N2
          have hyc : ItemsR FltR yc (dr.map fun x => Float64.ofInt (colQ x).1) := hyc
          have ycl : yc.length = dr.length := by rw [hyc.length, List.length_map]
          k_steps
          refine Hold.of (rgbs_vals (R := FltR) (fun x => Float64.ofInt ((colQ x).2.1)) rfl hyb (fun p hp => by kcf_m) F3 N3 (by kcf_m) dl4 ?_ ?_)
          · intro x hxm ta tb tc I oI C oC D m₂ ys h tk E' hC m1 m2 m3 Fx Nx off ne
            have b := cb x hxm
            have c := col_all b.2.2.1 b.2.2.2.1 b.2.2.2.2.2.2.1 b.2.2.2.2.2.2.2 b.2.2.2.2.1 b.2.2.2.2.2.1
            have c1 := c.hls
            have c2 := c.hue
            generalize (colQ x).2.1 = p at c1 c2 m1 m2 m3
            generalize hsvF (fq p 64) (fq (colQ x).2.2.2 4) (fq (colQ x).2.2.1 4) = rgb at c1 c2 m1 m2 m3
            clear c b
            obtain ⟨R, G, B₁⟩ := rgb
            dsimp only at c1 c2 m1 m2 m3 ⊢
            clear F3 N3
            try k_unmd
            k_fold
            k_steps
            refine Hold.of ?_
            refine (rgb2hls_ c1).reads K1 Fx KX Nx T (by first | lia | (dsimp only [ktrTop]; lia)) (by first | lia | (dsimp only [ktrTop]; lia)) trivial ?_
            intro v' n' h' tk' F4 N4 ap' hR
            obtain ⟨t, hh, ta', x1, x2, e1, e2, e3⟩ := hR
            subst e1 e2 e3
            clear Fx Nx
            have hT : IsTup h' t #[.float (hueF R G B₁) ta', x1, x2] := ⟨_, (N4 _ (List.mem_append_left _ List.mem_cons_self)).1, rfl, _, rfl⟩
            k_steps
            exact Hold.of (comp_endV F4 N4 (fun p hp => List.mem_append_right _ hp) off (.inr ⟨_, by kcf_m, rfl, _, rfl⟩) ⟨_, by rw [c2]⟩)
          · intro g' yd hyd Dd h tk F4 N4 off
            clear F3 N3
            have hyd : ItemsR FltR yd (dr.map fun x => Float64.ofInt (colQ x).2.1) := hyd
            have ydl : yd.length = dr.length := by rw [hyd.length, List.length_map]
            k_steps
            refine Hold.of (rgbs_vals (R := FltR) (fun x => Float64.ofInt (((colQ x).2.1 + 32) % 64)) rfl hyb (fun p hp => by kcf_m) F4 N4 (by kcf_m) dl4 ?_ ?_)
            · intro x hxm ta tb tc I oI C oC D m₂ ys h tk E' hC m1 m2 m3 Fx Nx off ne
              have b := cb x hxm
              have c := col_all b.2.2.1 b.2.2.2.1 b.2.2.2.2.2.2.1 b.2.2.2.2.2.2.2 b.2.2.2.2.1 b.2.2.2.2.2.1
              have c1 := c.neg
              have c2 := c.opp
              generalize (colQ x).2.1 = p at c1 c2 m1 m2 m3
              generalize hsvF (fq p 64) (fq (colQ x).2.2.2 4) (fq (colQ x).2.2.1 4) = rgb at c1 c2 m1 m2 m3
              clear c b
              obtain ⟨R, G, B₁⟩ := rgb
              dsimp only at c1 c2 m1 m2 m3 ⊢
              clear F4 N4
              try k_unmd
              k_fold
              k_steps
              refine Hold.of ?_
              refine (rgb2hls_ c1).reads K1 Fx KX Nx T (by first | lia | (dsimp only [ktrTop]; lia)) (by first | lia | (dsimp only [ktrTop]; lia)) trivial ?_
              intro v' n' h' tk' F4 N4 ap' hR
              obtain ⟨t, hh, ta', x1, x2, e1, e2, e3⟩ := hR
              subst e1 e2 e3
              clear Fx Nx
              have hT : IsTup h' t #[.float (hueF (Float64.sub f1 R) (Float64.sub f1 G) (Float64.sub f1 B₁)) ta', x1, x2] := ⟨_, (N4 _ (List.mem_append_left _ List.mem_cons_self)).1, rfl, _, rfl⟩
              k_steps
              exact Hold.of (comp_endV F4 N4 (fun p hp => List.mem_append_right _ hp) off (.inr ⟨_, by kcf_m, rfl, _, rfl⟩) ⟨_, by rw [c2]⟩)
            · intro g' ye hye De h tk F5 N5 off
              clear F4 N4
              have hye : ItemsR FltR ye (dr.map fun x => Float64.ofInt (((colQ x).2.1 + 32) % 64)) := (range_map_at (fun x => Float64.ofInt (((colQ x).2.1 + 32) % 64)) 0 dr) ▸ hye
              have yel : ye.length = dr.length := by rw [hye.length, List.length_map]
              k_steps
              refine Hold.of (quads_vals (R := IntR) (fun x => (colQ x).1) rfl dR (fun p hp => by kcf_m) F5 N5 (by kcf_m) dl4 ?_ ?_)
              · intro x hxm ta tb tc td I oI C oC D m₂ ys h tk E' hC m1 m2 m3 m4 Fx Nx off ne
                clear F5 N5
                try k_unmd
                k_fold
                k_steps
                exact Hold.of (comp_endV Fx Nx (fun p hp => hp) off (.inr ⟨_, by kcf_m, rfl, _, rfl⟩) ⟨_, rfl⟩)
              · intro g' yf hyf Df h tk F6 N6 off
                clear F5 N5
                have hyf : ItemsR IntR yf (dr.map fun x => (colQ x).1) := hyf
                obtain ⟨ps, hps⟩ : ∃ ps, dr.map (fun x => (colQ x).1) = ps := ⟨_, rfl⟩
                obtain ⟨qs, hqs⟩ : ∃ qs, dr.map (fun x => (colQ x).2.1) = qs := ⟨_, rfl⟩
                have bp : ∀ e ∈ ps, 0 ≤ e ∧ e < 64 := fun e he => by rw [← hps] at he; obtain ⟨x, hx, rfl⟩ := List.mem_map.mp he; have := cb x hx; exact ⟨this.1, this.2.1⟩
                have bq : ∀ e ∈ qs, 0 ≤ e ∧ e < 64 := fun e he => by rw [← hqs] at he; obtain ⟨x, hx, rfl⟩ := List.mem_map.mp he; have := cb x hx; exact ⟨this.2.2.1, this.2.2.2.1⟩
                have hyc : ItemsR FltR yc (ps.map fun n => Float64.ofInt n) := by rw [← hps, List.map_map]; exact hyc
                have hyd : ItemsR FltR yd (qs.map fun n => Float64.ofInt n) := by rw [← hqs, List.map_map]; exact hyd
                have hye : ItemsR FltR ye ((qs.map fun n => (n + 32) % 64).map fun n => Float64.ofInt n) := by rw [← hqs, List.map_map, List.map_map]; exact hye
                have hyf : ItemsR IntR yf ps := hps ▸ hyf
                have yfl : yf.length = dr.length := by rw [hyf.length, ← hps, List.length_map]
                k_steps
                refine Hold.of (ne_lists ⟨_, (N6 (Dc, LCg.lst yc) (by kcf_m)).1, rfl, _, rfl⟩ ⟨_, (N6 (Df, LCg.lst yf) (by kcf_m)).1, rfl, _, rfl⟩ (by lia) (by dsimp only [Around.deeper]; lia) (eqs_fi hyc hyf bp) ?_)
                clear hyf
                k_steps
                refine Hold.of (quads_vals (R := IntR) (fun x => (colQ x).2.1) rfl dR (fun p hp => by kcf_m) F6 N6 (by kcf_m) dl4 ?_ ?_)
                · intro x hxm ta tb tc td I oI C oC D m₂ ys h tk E' hC m1 m2 m3 m4 Fx Nx off ne
                  clear F6 N6
                  try k_unmd
                  k_fold
                  k_steps
                  exact Hold.of (comp_endV Fx Nx (fun p hp => hp) off (.inr ⟨_, by kcf_m, rfl, _, rfl⟩) ⟨_, rfl⟩)
                · intro g' yg hyg Dg h tk F7 N7 off
                  clear F6 N6
                  have hyg : ItemsR IntR yg qs := hqs ▸ hyg
                  have ygl : yg.length = dr.length := by rw [hyg.length, ← hqs, List.length_map]
                  k_steps
                  refine Hold.of (ne_lists ⟨_, (N7 (Dd, LCg.lst yd) (by kcf_m)).1, rfl, _, rfl⟩ ⟨_, (N7 (Dg, LCg.lst yg) (by kcf_m)).1, rfl, _, rfl⟩ (by lia) (by dsimp only [Around.deeper]; lia) (eqs_fi hyd hyg bq) ?_)
                  clear hyg
                  k_steps
                  refine Hold.of (quads_vals (R := IntR) (fun x => ((colQ x).2.1 + 32) % 64) rfl dR (fun p hp => by kcf_m) F7 N7 (by kcf_m) dl4 ?_ ?_)
                  · intro x hxm ta tb tc td I oI C oC D m₂ ys h tk E' hC m1 m2 m3 m4 Fx Nx off ne
                    clear F7 N7
                    try k_unmd
                    k_fold
                    k_steps
                    exact Hold.of (comp_endV Fx Nx (fun p hp => hp) off (.inr ⟨_, by kcf_m, rfl, _, rfl⟩) ⟨_, by rw [Int.fmod_eq_emod_of_nonneg _ (by decide)]⟩)
                  · intro g' yh hyh Dh h tk F8 N8 off
                    clear F7 N7
                    obtain ⟨os, hos⟩ : ∃ os, qs.map (fun n => (n + 32) % 64) = os := ⟨_, rfl⟩
                    rw [hos] at hye
                    have bo : ∀ e ∈ os, 0 ≤ e ∧ e < 64 := fun e he => by rw [← hos] at he; obtain ⟨x, hx, rfl⟩ := List.mem_map.mp he; lia
                    have hyh : ItemsR IntR yh os := by
                      have z := hyh
                      rw [← hos, ← hqs, List.map_map]; exact z
                    have yhl : yh.length = dr.length := by rw [hyh.length, ← hos, ← hqs, List.length_map, List.length_map]
                    k_steps
                    refine Hold.of (ne_lists ⟨_, (N8 (De, LCg.lst ye) (by kcf_m)).1, rfl, _, rfl⟩ ⟨_, (N8 (Dh, LCg.lst yh) (by kcf_m)).1, rfl, _, rfl⟩ (by lia) (by dsimp only [Around.deeper]; lia) (eqs_fi hye hyh bo) ?_)
                    clear hyh
                    k_steps
                    replace N8 : News s₁.heap s₁.heap.objs.size h ((De, LCg.lst ye) :: (Dd, LCg.lst yd) :: (Dc, LCg.lst yc) :: led₂) := fun p hp => N8 p (List.mem_cons_of_mem _ (List.mem_cons_of_mem _ (List.mem_cons_of_mem _ hp)))
                    clear yhl yfl ygl off
                    have psl : ps.length = dr.length := by rw [← hps, List.length_map]
                    refine Hold.of (LCg.CompSrc.ledger (its := yc.toArray) rfl F8 N8 (by kcf_m) (by rw [sizeLine_eq, List.size_toArray]; lia) fun g' => ?_)
                    rw [show yc.toArray.size = ps.length by rw [List.size_toArray]; lia]
                    refine comp_ints (fun i => ps.getD i 0) ?_ ?_
                    · intro i v I oI C oC D m₂ ys h tk E' hin hv hC hx F' N' off' ne
                      obtain ⟨x, he, ta, ev⟩ := hyc.at (i := i) (v := v) (by simpa using hv)
                      rw [List.getElem?_map, List.getElem?_eq_getElem hin] at he
                      cases he
                      have hdg : ps.getD i 0 = ps[i] := by rw [List.getD_eq_getElem?_getD, List.getElem?_eq_getElem hin]; rfl
                      have b := bp _ (List.getElem_mem hin)
                      rw [hdg]
                      generalize ps[i] = n at b ev
                      subst ev
                      clear F8 N8 hdg
                      obtain ⟨f1, f2, f3⟩ := ofInt_facts n.toNat (by lia)
                      rw [Int.toNat_of_nonneg b.1] at f1 f2 f3
                      try k_unmd
                      k_fold
                      k_steps
                      exact Hold.of (comp_endI F' N' (fun _ h => h) off' (.inr ⟨_, by kcf_m, rfl, _, rfl⟩) f1)
                    · intro yi hyi Di h tk F9 N9 off
                      clear F8 N8
                      rw [range_getD] at hyi
                      have offi := off1_mem off
                      k_steps
                      rename_i h2 tk2 Lo ov A₁ no iA sA pA ap2 h3 F10 N10
                      have cLo : @Ne Nat Lo (s₁.heap.objs.size + 1) := ap2 _ List.mem_cons_self (s₁.heap.objs.size + 1, w12) (by kcf_m)
                      clear offi off hyi ap2
                      have qsl : qs.length = dr.length := by rw [← hqs, List.length_map]
                      have osl : os.length = dr.length := by rw [← hos, List.length_map]; lia
                      refine Hold.of (LCg.CompSrc.ledger (its := yd.toArray) rfl F10 N10 (by kcf_m) (by rw [sizeLine_eq, List.size_toArray]; lia) fun g' => ?_)
                      rw [show yd.toArray.size = qs.length by rw [List.size_toArray]; lia]
                      refine comp_ints (fun i => qs.getD i 0) ?_ ?_
                      · intro i v I oI C oC D m₂ ys h tk E' hin hv hC hx F' N' off' ne
                        obtain ⟨x, he, ta, ev⟩ := hyd.at (i := i) (v := v) (by simpa using hv)
                        rw [List.getElem?_map, List.getElem?_eq_getElem hin] at he
                        cases he
                        have hdg : qs.getD i 0 = qs[i] := by rw [List.getD_eq_getElem?_getD, List.getElem?_eq_getElem hin]; rfl
                        have b := bq _ (List.getElem_mem hin)
                        rw [hdg]
                        generalize qs[i] = n at b ev
                        subst ev
                        clear F10 N10 hdg
                        obtain ⟨f1, f2, f3⟩ := ofInt_facts n.toNat (by lia)
                        rw [Int.toNat_of_nonneg b.1] at f1 f2 f3
                        try k_unmd
                        k_fold
                        k_steps
                        exact Hold.of (comp_endI F' N' (fun _ h => h) off' (.inr ⟨_, by kcf_m, rfl, _, rfl⟩) f1)
                      · intro yj hyj Dj h tk F11 N11 off
                        clear F10 N10
                        rw [range_getD] at hyj
                        k_steps
                        rename_i h2 tk2 Lt tv B₁ nt iB sB pB ap2 h3 F12 N12
                        have cLt : @Ne Nat Lt (s₁.heap.objs.size + 1) := ap2 _ List.mem_cons_self (s₁.heap.objs.size + 1, w12) (by kcf_m)
                        clear off hyj ap2
                        replace N12 : News s₁.heap s₁.heap.objs.size h3 ((Lt, W.listOf tv.toArray nt) :: (Lo, W.listOf ov.toArray no) :: (De, LCg.lst ye) :: (Dd, LCg.lst yd) :: (Dc, LCg.lst yc) :: led₂) := fun p hp => N12 p (by rcases List.mem_cons.mp hp with hp | hp; (exact hp ▸ List.mem_cons_self); exact List.mem_cons_of_mem _ (List.mem_cons_of_mem _ hp))
                        refine Hold.of (LCg.CompSrc.ledger (its := ye.toArray) rfl F12 N12 (by kcf_m) (by rw [sizeLine_eq, List.size_toArray]; lia) fun g' => ?_)
                        rw [show ye.toArray.size = os.length by rw [List.size_toArray]; lia]
                        refine comp_ints (fun i => os.getD i 0) ?_ ?_
                        · intro i v I oI C oC D m₂ ys h tk E' hin hv hC hx F' N' off' ne
                          obtain ⟨x, he, ta, ev⟩ := hye.at (i := i) (v := v) (by simpa using hv)
                          rw [List.getElem?_map, List.getElem?_eq_getElem hin] at he
                          cases he
                          have hdg : os.getD i 0 = os[i] := by rw [List.getD_eq_getElem?_getD, List.getElem?_eq_getElem hin]; rfl
                          have b := bo _ (List.getElem_mem hin)
                          rw [hdg]
                          generalize os[i] = n at b ev
                          subst ev
                          clear F12 N12 hdg
                          obtain ⟨f1, f2, f3⟩ := ofInt_facts n.toNat (by lia)
                          rw [Int.toNat_of_nonneg b.1] at f1 f2 f3
                          try k_unmd
                          k_fold
                          k_steps
                          exact Hold.of (comp_endI F' N' (fun _ h => h) off' (.inr ⟨_, by kcf_m, rfl, _, rfl⟩) f1)
                        · intro yk hyk Dk h tk F13 N13 off
                          clear F12 N12
                          rw [range_getD] at hyk
                          k_steps
                          rename_i h2 tk2 Lp pv C₁ np iC sC pC ap2 h3 F14 N14
                          clear off hyk ap2
                          replace N14 : News s₁.heap s₁.heap.objs.size h3 ((Lp, W.listOf pv.toArray np) :: (Lt, W.listOf tv.toArray nt) :: (Lo, W.listOf ov.toArray no) :: (De, LCg.lst ye) :: (Dd, LCg.lst yd) :: (Dc, LCg.lst yc) :: led₂) := fun p hp => N14 p (by rcases List.mem_cons.mp hp with hp | hp; (exact hp ▸ List.mem_cons_self); exact List.mem_cons_of_mem _ (List.mem_cons_of_mem _ hp))
                          refine Hold.of (sorted_flt F14 N14 ⟨_, (N14 (Dc, LCg.lst yc) (by kcf_m)).1, rfl, _, rfl⟩ hyc bp (by lia) ?_)
                          intro h4 DS1 sv1 es1 e1 FS1 NS1 hS1 hp hs
                          rw [KEsame hp pA hs sA] at hS1
                          clear F14 N14 hp hs
                          k_steps
                          refine Hold.of (ne_lists ⟨_, (NS1 (Lo, W.listOf ov.toArray no) (by kcf_m)).1, rfl, _, rfl⟩ ⟨_, (NS1 (DS1, W.listOf sv1.toArray e1) (by kcf_m)).1, rfl, _, rfl⟩ (by rw [hS1.length, List.length_map]; exact iA.length) (by dsimp only [Around.deeper]; lia) (eqs_if (ints_R iA) hS1 (fun e he => bp e (pA.mem_iff.mp he))) ?_)
                          clear hS1
                          replace NS1 : News s₁.heap s₁.heap.objs.size h4 ((Lp, W.listOf pv.toArray np) :: (Lt, W.listOf tv.toArray nt) :: (Lo, W.listOf ov.toArray no) :: (De, LCg.lst ye) :: (Dd, LCg.lst yd) :: (Dc, LCg.lst yc) :: led₂) := fun p hp => NS1 p (List.mem_cons_of_mem _ hp)
                          k_steps
                          refine Hold.of (sorted_flt FS1 NS1 ⟨_, (NS1 (Dd, LCg.lst yd) (by kcf_m)).1, rfl, _, rfl⟩ hyd bq (by lia) ?_)
                          intro h4 DS2 sv2 es2 e2 FS2 NS2 hS2 hp hs
                          rw [KEsame hp pB hs sB] at hS2
                          clear FS1 NS1 hp hs
                          k_steps
                          refine Hold.of (ne_lists ⟨_, (NS2 (Lt, W.listOf tv.toArray nt) (by kcf_m)).1, rfl, _, rfl⟩ ⟨_, (NS2 (DS2, W.listOf sv2.toArray e2) (by kcf_m)).1, rfl, _, rfl⟩ (by rw [hS2.length, List.length_map]; exact iB.length) (by dsimp only [Around.deeper]; lia) (eqs_if (ints_R iB) hS2 (fun e he => bq e (pB.mem_iff.mp he))) ?_)
                          clear hS2
                          replace NS2 : News s₁.heap s₁.heap.objs.size h4 ((Lp, W.listOf pv.toArray np) :: (Lt, W.listOf tv.toArray nt) :: (Lo, W.listOf ov.toArray no) :: (De, LCg.lst ye) :: (Dd, LCg.lst yd) :: (Dc, LCg.lst yc) :: led₂) := fun p hp => NS2 p (List.mem_cons_of_mem _ hp)
                          k_steps
                          refine Hold.of (sorted_flt FS2 NS2 ⟨_, (NS2 (De, LCg.lst ye) (by kcf_m)).1, rfl, _, rfl⟩ hye bo (by lia) ?_)
                          intro h4 DS3 sv3 es3 e3 FS3 NS3 hS3 hp hs
                          rw [KEsame hp pC hs sC] at hS3
                          clear FS2 NS2 hp hs
                          k_steps
                          refine Hold.of (ne_lists ⟨_, (NS3 (Lp, W.listOf pv.toArray np) (by kcf_m)).1, rfl, _, rfl⟩ ⟨_, (NS3 (DS3, W.listOf sv3.toArray e3) (by kcf_m)).1, rfl, _, rfl⟩ (by rw [hS3.length, List.length_map]; exact iC.length) (by dsimp only [Around.deeper]; lia) (eqs_if (ints_R iC) hS3 (fun e he => bo e (pC.mem_iff.mp he))) ?_)
                          clear hS3
                          replace NS3 : News s₁.heap s₁.heap.objs.size h4 ((Lp, W.listOf pv.toArray np) :: (Lt, W.listOf tv.toArray nt) :: (Lo, W.listOf ov.toArray no) :: (De, LCg.lst ye) :: (Dd, LCg.lst yd) :: (Dc, LCg.lst yc) :: led₂) := fun p hp => NS3 p (List.mem_cons_of_mem _ hp)
                          k_steps
                          replace NS3 : News s₁.heap s₁.heap.objs.size h4 ((Lp, W.listOf pv.toArray np) :: (Lt, W.listOf tv.toArray nt) :: (Lo, W.listOf ov.toArray no) :: led₂) := fun p hp => NS3 p (by
                            rcases List.mem_cons.mp hp with hp | hp
                            · exact hp ▸ List.mem_cons_self
                            rcases List.mem_cons.mp hp with hp | hp
                            · exact hp ▸ List.mem_cons_of_mem _ List.mem_cons_self
                            rcases List.mem_cons.mp hp with hp | hp
                            · exact hp ▸ List.mem_cons_of_mem _ (List.mem_cons_of_mem _ List.mem_cons_self)
                            exact List.mem_cons_of_mem _ (List.mem_cons_of_mem _ (List.mem_cons_of_mem _ (List.mem_cons_of_mem _ (List.mem_cons_of_mem _ (List.mem_cons_of_mem _ hp))))))
                          clear es1 es2 es3 sv1 sv2 sv3 hyc hyd hye
                          refine Hold.of (quads_vals (R := IntR) (fun x => (colQ x).1) rfl dR (fun p hp => by kcf_m) FS3 NS3 (by kcf_m) dl4 ?_ ?_)
                          · intro x hxm ta tb tc td I oI C oC D m₂ ys h tk E' hC m1 m2 m3 m4 Fx Nx off ne
                            clear FS3 NS3
                            try k_unmd
                            k_fold
                            k_steps
                            exact Hold.of (comp_endV Fx Nx (fun p hp => hp) off (.inr ⟨_, by kcf_m, rfl, _, rfl⟩) ⟨_, rfl⟩)
                          · intro g' yl hyl Dl h tk F15 N15 off
                            clear FS3 NS3
                            have hyl : IntsAre yl ps := R_ints (hps ▸ hyl)
                            k_steps
                            refine Hold.of (quads_vals (R := IntR) (fun x => (colQ x).2.1) rfl dR (fun p hp => by kcf_m) F15 N15 (by kcf_m) dl4 ?_ ?_)
                            · intro x hxm ta tb tc td I oI C oC D m₂ ys h tk E' hC m1 m2 m3 m4 Fx Nx off ne
                              clear F15 N15
                              try k_unmd
                              k_fold
                              k_steps
                              exact Hold.of (comp_endV Fx Nx (fun p hp => hp) off (.inr ⟨_, by kcf_m, rfl, _, rfl⟩) ⟨_, rfl⟩)
                            · intro g' ym hym Dm h tk F16 N16 off
                              clear F15 N15
                              have hym : IntsAre ym qs := R_ints (hqs ▸ hym)
                              have g1 : ps.length ≤ 5 := by lia
                              have g2 : qs.length = ps.length := by lia
                              have g3 : 0 < ps.length := by lia
                              k_steps
                              refine Hold.of ?_
                              refine (pairings_ hyl hym g1 g2 g3).reads K1 F16 KX N16 T (by first | lia | (dsimp only [ktrTop]; lia)) (by first | lia | (dsimp only [ktrTop]; lia)) ⟨.inr ⟨_, by kcf_m, rfl, _, rfl⟩, .inr ⟨_, by kcf_m, rfl, _, rfl⟩⟩ ?_
                              intro v' n' h' tk' F17 N17 ap' hR
                              obtain ⟨tq, ta, tb, tc, td, e1, e2⟩ := hR
                              subst e1 e2
                              clear F16 N16
                              -- CUT Goal1
                              have al : A₁.length = dr.length := pA.length_eq.trans psl
                              have bl : B₁.length = dr.length := pB.length_eq.trans qsl
                              have c1 : C₁.length = dr.length := pC.length_eq.trans osl
                              obtain ⟨al1, al2, al3, al4⟩ := d45_lt d45 al
                              obtain ⟨bl1, bl2, bl3, bl4⟩ := d45_lt d45 bl
                              obtain ⟨cl1, cl2, cl3, cl4⟩ := d45_lt d45 c1
                              have R : Rows ps qs A₁ B₁ := mk_rows d45 psl qsl pA pB sA sB bp bq
                              have R2 : (pairQ ps qs).2.2.2 = 32 * (A₁.length : Int) - turnsS A₁ C₁ := most_opp (mk_rows d45 psl (hos.symm ▸ osl) pA (hos ▸ pC) sA sC bp (hos ▸ bo)) bq
                              clear hyl hym ap' off
                              k_steps
                              rename_i h5 _ _ _ h6 F18 N18
                              replace N18 : News s₁.heap s₁.heap.objs.size h6 ((Lp, W.listOf pv.toArray np) :: (Lt, W.listOf tv.toArray nt) :: (Lo, W.listOf ov.toArray no) :: led₂) := fun p hp => N18 p (List.mem_cons_of_mem _ (List.mem_cons_of_mem _ (List.mem_cons_of_mem _ hp)))
                              refine Hold.of ?_
                              refine (turns_ iA iB al2 bl2 bl3 al3).reads K1 F18 KX N18 T (by first | lia | (dsimp only [ktrTop]; lia)) (by first | lia | (dsimp only [ktrTop]; lia)) ⟨.inr ⟨_, by kcf_m, rfl, _, rfl⟩, .inr ⟨_, by kcf_m, rfl, _, rfl⟩⟩ ?_
                              intro v' n' h' tk' F19 N19 ap' hR
                              obtain ⟨tt, ta2, tb2, tc2, e1, e2⟩ := hR
                              subst e1 e2
                              clear F18 N18
                              rw [R.one, R.two, R.worst] at N19
                              clear ap'
                              k_steps
                              rename_i h7 _ _ DT h8 F20 N20 l20
                              refine Hold.of (ne_tups ⟨_, (N20 (tt, _) (by kcf_m)).1, rfl, _, rfl⟩ ⟨_, (N20 (DT, _) (by kcf_m)).1, rfl, _, rfl⟩ (by dsimp only [Around.deeper]; lia) ?_)
                              clear l20
                              replace N20 : News s₁.heap s₁.heap.objs.size h8 ((Lp, W.listOf pv.toArray np) :: (Lt, W.listOf tv.toArray nt) :: (Lo, W.listOf ov.toArray no) :: led₂) := fun p hp => N20 p (List.mem_cons_of_mem _ (List.mem_cons_of_mem _ hp))
                              k_steps
                              refine Hold.of ?_
                              refine (turns_ iA iC al2 cl2 cl3 al3).reads K1 F20 KX N20 T (by first | lia | (dsimp only [ktrTop]; lia)) (by first | lia | (dsimp only [ktrTop]; lia)) ⟨.inr ⟨_, by kcf_m, rfl, _, rfl⟩, .inr ⟨_, by kcf_m, rfl, _, rfl⟩⟩ ?_
                              intro v' n' h' tk' F21 N21 ap' hR
                              obtain ⟨to, ta3, tb3, tc3, e1, e2⟩ := hR
                              subst e1 e2
                              clear F20 N20 ap'
                              have hT : IsTup h' to #[.int (turnsS A₁ C₁) ta3, .int (turnsQ A₁ C₁) tb3, .int (turnsW A₁ C₁) tc3] := ⟨_, (N21 (to, _) (by kcf_m)).1, rfl, _, rfl⟩
                              k_steps
                              · exact absurd R2 (by assumption)
                              refine Hold.of ?_
                              refine (levels_ iA iB sA sB al1 bl1 al3).reads K1 F21 KX N21 T (by first | lia | (dsimp only [ktrTop]; lia)) (by first | lia | (dsimp only [ktrTop]; lia)) ⟨.inr ⟨_, by kcf_m, rfl, _, rfl⟩, .inr ⟨_, by kcf_m, rfl, _, rfl⟩⟩ ?_
                              intro v' n' h' tk' F22 N22 ap' hR
                              obtain ⟨Lv, lv, tl, nv, ks, e1, e2, offv, sk, pk, hlv⟩ := hR
                              subst e1 e2
                              have cLv : @Ne Nat Lv (s₁.heap.objs.size + 1) := ap' _ List.mem_cons_self (s₁.heap.objs.size + 1, w12) (by kcf_m)
                              have ctl : ∀ p ∈ tl, @Ne Nat p.1 (s₁.heap.objs.size + 1) := fun p hp => ap' p (List.mem_cons_of_mem _ hp) (s₁.heap.objs.size + 1, w12) (by kcf_m)
                              replace N22 : News s₁.heap s₁.heap.objs.size h' ((Lv, W.listOf lv.toArray nv) :: (Lt, W.listOf tv.toArray nt) :: (Lo, W.listOf ov.toArray no) :: (s₁.heap.objs.size + 1, w12) :: tl) := fun p hp => by
                                rcases List.mem_cons.mp hp with rfl | hp
                                · exact N22 _ (by kcf_m)
                                rcases List.mem_cons.mp hp with rfl | hp
                                · exact N22 _ (by kcf_m)
                                rcases List.mem_cons.mp hp with rfl | hp
                                · exact N22 _ (by kcf_m)
                                rcases List.mem_cons.mp hp with rfl | hp
                                · exact N22 _ (by kcf_m)
                                · exact N22 p (List.mem_append_left _ (List.mem_cons_of_mem _ hp))
                              obtain ⟨kn, kl, el⟩ := levels_len d45 al bl pk
                              obtain ⟨w1', w2'⟩ := level_widths (A := A₁) (B := B₁) sk pk kn (R.marks pk)
                              have RL : ∀ m, MidOf (levelsL A₁ B₁ (ks ++ [ks.getD 0 0 + 64])) m → _ := fun m hm => R.levels sk pk hm
                              have ll := levels_low (mk := ks ++ [ks.getD 0 0 + 64]) d45 al bl
                              generalize levelsL A₁ B₁ (ks ++ [ks.getD 0 0 + 64]) = es at hlv el w1' w2' RL ll
                              have hlv2 : ItemsR (PairR ((Lv, W.listOf lv.toArray nv) :: (Lt, W.listOf tv.toArray nt) :: (Lo, W.listOf ov.toArray no) :: (s₁.heap.objs.size + 1, w12) :: tl)) lv es := hlv.mono fun v e hv => PairR.mono _ _ v e (fun p hp => List.mem_cons_of_mem _ (List.mem_cons_of_mem _ (List.mem_cons_of_mem _ (List.mem_cons_of_mem _ hp)))) hv
                              clear F21 N21 ap' hT mcell mdl mya myb dR hya hyb bl2 bl3 bl4 cl1 cl2 cl3 cl4 al1 al2 kl kn sk pk iC sC pC
                              k_steps
                              rename_i h9 F23 N23
                              refine Hold.of ?_
                              refine (middle_ w1' w2' el).reads K1 F23 KX N23 T (by first | lia | (dsimp only [ktrTop]; lia)) (by first | lia | (dsimp only [ktrTop]; lia)) ⟨.inr ⟨_, by kcf_m, rfl, _, rfl⟩, hlv2⟩ ?_
                              intro v' n' h' tk' F24 N24 ap' hR
                              obtain ⟨e1, mid, tm, e2, hm⟩ := hR
                              subst e1 e2
                              obtain ⟨RL1, RL2⟩ := RL mid hm
                              have ml := middle_low hm w1' ll
                              clear F23 N23 ap' RL hm R R2 hlv2
                              replace N24 : News s₁.heap s₁.heap.objs.size h' ((Lv, W.listOf lv.toArray nv) :: (Lt, W.listOf tv.toArray nt) :: (Lo, W.listOf ov.toArray no) :: (s₁.heap.objs.size + 1, w12) :: tl) := N24
                              -- CUT Goal2
                              k_steps
                              rename_i h10 oc F25 N25 dc
                              have lvl : lv.length = es.length := hlv.length
                              refine Hold.of (SrcN.ledger (its := lv.toArray) rfl F25 N25 (by kcf_m) (by rw [sizeLine_eq, List.size_toArray, lvl]; exact Nat.le_trans (Nat.le_of_lt el) (by decide)) fun g' => ?_)
                              rw [show lv.toArray.size = es.length from lvl]
                              refine compN_vals IntR (fun i => ((((es.getD i (0, 0)).1 - mid).natAbs : Int)) * (es.getD i (0, 0)).2) ?_ ?_
                              · intro i v hin hv
                                obtain ⟨e, he, t', ta, tb', ev, hme⟩ := hlv.at (i := i) (v := v) (by simpa using hv)
                                have hdg : es.getD i (0, 0) = e := by rw [List.getD_eq_getElem?_getD, he]; rfl
                                rw [hdg]
                                have b1 := ll e (List.mem_of_getElem? he)
                                have b2 := w1' e (List.mem_of_getElem? he)
                                obtain ⟨lev, wid⟩ := e
                                dsimp only at b1 b2 hme ⊢
                                refine ⟨t', _, _, _, ev, by kcf_m, rfl, rfl, ⟨_, _, rfl⟩, ?_⟩
                                rintro I oI C oC D m₂ ys h tk E' hC ⟨v₁, v₂, ea, m1, m2⟩ Fx Nx off ne
                                simp only [Array.mk.injEq, List.cons.injEq, and_true] at ea
                                obtain ⟨rfl, rfl⟩ := ea
                                clear F25 N25 hdg
                                try k_unmd
                                k_fold
                                k_steps
                                exact Hold.of (comp_endV Fx Nx (fun p hp => hp) off (.inr ⟨_, by kcf_m, rfl, _, rfl⟩) ⟨_, by rw [abs_if]⟩)
                              · intro yn hyn Dn h tk F26 N26 off
                                clear F25 N25
                                have hyn : IntsAre yn (es.map fun e => ((e.1 - mid).natAbs : Int) * e.2) := R_ints ((range_map_at (fun e : Int × Int => ((e.1 - mid).natAbs : Int) * e.2) (0, 0) es) ▸ hyn)
                                k_steps
                                · exact absurd RL1 (by assumption)
                                rename_i h11 tk11 t11 F27 N27 hsum
                                refine Hold.of ?_
                                refine (turn_ iA iB (Nat.lt_of_le_of_lt al4 (by decide)) (Nat.lt_trans bl1 (by decide)) (Nat.lt_of_lt_of_eq al3 (al.trans bl.symm))).reads K1 F27 KX N27 T (by first | lia | (dsimp only [ktrTop]; lia)) (by first | lia | (dsimp only [ktrTop]; lia)) ⟨.inr ⟨_, by kcf_m, rfl, _, rfl⟩, .inr ⟨_, by kcf_m, rfl, _, rfl⟩⟩ ?_
                                intro v' n' h' tk' F28 N28 ap' hR
                                obtain ⟨lt, ws, e1, e2, hws⟩ := hR
                                subst e1 e2
                                clear F27 N27 ap'
                                k_steps
                                rw [RL2, beq_self_eq_true]
                                rename_i F29 N29
                                have hgens : s₁.gens = #[] := by with_reducible assumption
                                exact law_good F29 hgens)

end Mine
theorem PySem.Challenge.cw_pg0175_01_holds : PySem.Challenge.rw_pg0175_01.Holds :=
  Mine.law_holds
