import PyProof.Rows.All
import Wide.All
import OpenK.AllK
import Wide.FinOn
import PySem.Challenge.RW_pg0146_01
open PySem PySem.W PySem.Calls PyProof.Rows
set_option Elab.async false
set_option maxRecDepth 100000
set_option linter.unusedVariables false
set_option rowWalk.seconds 0
set_option maxHeartbeats 8000000
namespace Mine
open_top hd for PySem.Challenge.rw_pg0146_01
end Mine
set_option maxHeartbeats 200000
namespace Mine

/-- the Around of a frame whose callers' environments are `outer` -/
@[reducible] def aA (dp un : Nat) (gd : Option (List Code)) (outer : List Env) : Around := { handled := none, depth := dp, frames := some outer, guards := gd, units := un }

/-- ground facts at a heap -/
structure Gd (w : World) (mean : ExcName → Option Value) (mg mb : Str → Option Value) (A : Around) (base : Heap) (outer : List Env) (h : Heap) : Prop where
  X : (hd.heap_39 w.params).In h
  T : Top hd.view_39 (looseW hd.view_39 [Str.ofString "Whitespace"]) mean mg mb h
  B : Below A base outer h

/-- all objects of h stand in h' -/
noncomputable def Kp (h h' : Heap) : Prop := ∀ b o, h.get? b = some o → h'.get? b = some o
theorem Kp.refl (h : Heap) : Kp h h := fun _ _ e => e
theorem Kp.trans {a b c : Heap} (x : Kp a b) (y : Kp b c) : Kp a c := fun _ _ e => y _ _ (x _ _ e)

/-- a frame's names, written out -/
noncomputable def fm : List (Str × Option Value) → Str → Option Value
  | [] => fun _ => none
  | p :: r => fun y => if y = p.1 then p.2 else fm r y
theorem fm_off {y : Str} : ∀ {l : List (Str × Option Value)}, y ∉ l.map (·.1) → fm l y = none
  | [], _ => rfl
  | p :: r, h => by
    show (if y = p.1 then p.2 else fm r y) = none
    rw [if_neg (fun e => h (by rw [e]; exact .head _))]
    exact fm_off fun q => h (.tail _ q)
theorem fm_ext {l l' : List (Str × Option Value)} (h : ∀ n ∈ l.map (·.1) ++ l'.map (·.1), fm l n = fm l' n) : fm l = fm l' := by
  funext y
  by_cases h1 : y ∈ l.map (·.1) ++ l'.map (·.1)
  · exact h y h1
  · rw [fm_off fun q => h1 (List.mem_append_left _ q), fm_off fun q => h1 (List.mem_append_right _ q)]

theorem fm_s1 {x0 : Str} {v0 : Option Value} {l l' : List (Str × Option Value)} (h : (((x0, v0) :: l : List (Str × Option Value)).map (·.1) ++ l'.map (·.1)).map (fm ((x0, v0) :: l)) = (((x0, v0) :: l : List (Str × Option Value)).map (·.1) ++ l'.map (·.1)).map (fm l')) : (fun y => if y = x0 then v0 else fm l y) = fm l' := fm_ext (List.map_inj_left.mp h)
theorem fm_s2 {x0 x1 : Str} {v0 v1 : Option Value} {l l' : List (Str × Option Value)} (h : (((x0, v0) :: (x1, v1) :: l : List (Str × Option Value)).map (·.1) ++ l'.map (·.1)).map (fm ((x0, v0) :: (x1, v1) :: l)) = (((x0, v0) :: (x1, v1) :: l : List (Str × Option Value)).map (·.1) ++ l'.map (·.1)).map (fm l')) : (fun y => if y = x0 then v0 else if y = x1 then v1 else fm l y) = fm l' := fm_ext (List.map_inj_left.mp h)
theorem fm_s3 {x0 x1 x2 : Str} {v0 v1 v2 : Option Value} {l l' : List (Str × Option Value)} (h : (((x0, v0) :: (x1, v1) :: (x2, v2) :: l : List (Str × Option Value)).map (·.1) ++ l'.map (·.1)).map (fm ((x0, v0) :: (x1, v1) :: (x2, v2) :: l)) = (((x0, v0) :: (x1, v1) :: (x2, v2) :: l : List (Str × Option Value)).map (·.1) ++ l'.map (·.1)).map (fm l')) : (fun y => if y = x0 then v0 else if y = x1 then v1 else if y = x2 then v2 else fm l y) = fm l' := fm_ext (List.map_inj_left.mp h)
theorem fm_s4 {x0 x1 x2 x3 : Str} {v0 v1 v2 v3 : Option Value} {l l' : List (Str × Option Value)} (h : (((x0, v0) :: (x1, v1) :: (x2, v2) :: (x3, v3) :: l : List (Str × Option Value)).map (·.1) ++ l'.map (·.1)).map (fm ((x0, v0) :: (x1, v1) :: (x2, v2) :: (x3, v3) :: l)) = (((x0, v0) :: (x1, v1) :: (x2, v2) :: (x3, v3) :: l : List (Str × Option Value)).map (·.1) ++ l'.map (·.1)).map (fm l')) : (fun y => if y = x0 then v0 else if y = x1 then v1 else if y = x2 then v2 else if y = x3 then v3 else fm l y) = fm l' := fm_ext (List.map_inj_left.mp h)
theorem fm_s5 {x0 x1 x2 x3 x4 : Str} {v0 v1 v2 v3 v4 : Option Value} {l l' : List (Str × Option Value)} (h : (((x0, v0) :: (x1, v1) :: (x2, v2) :: (x3, v3) :: (x4, v4) :: l : List (Str × Option Value)).map (·.1) ++ l'.map (·.1)).map (fm ((x0, v0) :: (x1, v1) :: (x2, v2) :: (x3, v3) :: (x4, v4) :: l)) = (((x0, v0) :: (x1, v1) :: (x2, v2) :: (x3, v3) :: (x4, v4) :: l : List (Str × Option Value)).map (·.1) ++ l'.map (·.1)).map (fm l')) : (fun y => if y = x0 then v0 else if y = x1 then v1 else if y = x2 then v2 else if y = x3 then v3 else if y = x4 then v4 else fm l y) = fm l' := fm_ext (List.map_inj_left.mp h)
theorem fm_s6 {x0 x1 x2 x3 x4 x5 : Str} {v0 v1 v2 v3 v4 v5 : Option Value} {l l' : List (Str × Option Value)} (h : (((x0, v0) :: (x1, v1) :: (x2, v2) :: (x3, v3) :: (x4, v4) :: (x5, v5) :: l : List (Str × Option Value)).map (·.1) ++ l'.map (·.1)).map (fm ((x0, v0) :: (x1, v1) :: (x2, v2) :: (x3, v3) :: (x4, v4) :: (x5, v5) :: l)) = (((x0, v0) :: (x1, v1) :: (x2, v2) :: (x3, v3) :: (x4, v4) :: (x5, v5) :: l : List (Str × Option Value)).map (·.1) ++ l'.map (·.1)).map (fm l')) : (fun y => if y = x0 then v0 else if y = x1 then v1 else if y = x2 then v2 else if y = x3 then v3 else if y = x4 then v4 else if y = x5 then v5 else fm l y) = fm l' := fm_ext (List.map_inj_left.mp h)
theorem fm_s7 {x0 x1 x2 x3 x4 x5 x6 : Str} {v0 v1 v2 v3 v4 v5 v6 : Option Value} {l l' : List (Str × Option Value)} (h : (((x0, v0) :: (x1, v1) :: (x2, v2) :: (x3, v3) :: (x4, v4) :: (x5, v5) :: (x6, v6) :: l : List (Str × Option Value)).map (·.1) ++ l'.map (·.1)).map (fm ((x0, v0) :: (x1, v1) :: (x2, v2) :: (x3, v3) :: (x4, v4) :: (x5, v5) :: (x6, v6) :: l)) = (((x0, v0) :: (x1, v1) :: (x2, v2) :: (x3, v3) :: (x4, v4) :: (x5, v5) :: (x6, v6) :: l : List (Str × Option Value)).map (·.1) ++ l'.map (·.1)).map (fm l')) : (fun y => if y = x0 then v0 else if y = x1 then v1 else if y = x2 then v2 else if y = x3 then v3 else if y = x4 then v4 else if y = x5 then v5 else if y = x6 then v6 else fm l y) = fm l' := fm_ext (List.map_inj_left.mp h)
theorem fm_s8 {x0 x1 x2 x3 x4 x5 x6 x7 : Str} {v0 v1 v2 v3 v4 v5 v6 v7 : Option Value} {l l' : List (Str × Option Value)} (h : (((x0, v0) :: (x1, v1) :: (x2, v2) :: (x3, v3) :: (x4, v4) :: (x5, v5) :: (x6, v6) :: (x7, v7) :: l : List (Str × Option Value)).map (·.1) ++ l'.map (·.1)).map (fm ((x0, v0) :: (x1, v1) :: (x2, v2) :: (x3, v3) :: (x4, v4) :: (x5, v5) :: (x6, v6) :: (x7, v7) :: l)) = (((x0, v0) :: (x1, v1) :: (x2, v2) :: (x3, v3) :: (x4, v4) :: (x5, v5) :: (x6, v6) :: (x7, v7) :: l : List (Str × Option Value)).map (·.1) ++ l'.map (·.1)).map (fm l')) : (fun y => if y = x0 then v0 else if y = x1 then v1 else if y = x2 then v2 else if y = x3 then v3 else if y = x4 then v4 else if y = x5 then v5 else if y = x6 then v6 else if y = x7 then v7 else fm l y) = fm l' := fm_ext (List.map_inj_left.mp h)
theorem fm_s9 {x0 x1 x2 x3 x4 x5 x6 x7 x8 : Str} {v0 v1 v2 v3 v4 v5 v6 v7 v8 : Option Value} {l l' : List (Str × Option Value)} (h : (((x0, v0) :: (x1, v1) :: (x2, v2) :: (x3, v3) :: (x4, v4) :: (x5, v5) :: (x6, v6) :: (x7, v7) :: (x8, v8) :: l : List (Str × Option Value)).map (·.1) ++ l'.map (·.1)).map (fm ((x0, v0) :: (x1, v1) :: (x2, v2) :: (x3, v3) :: (x4, v4) :: (x5, v5) :: (x6, v6) :: (x7, v7) :: (x8, v8) :: l)) = (((x0, v0) :: (x1, v1) :: (x2, v2) :: (x3, v3) :: (x4, v4) :: (x5, v5) :: (x6, v6) :: (x7, v7) :: (x8, v8) :: l : List (Str × Option Value)).map (·.1) ++ l'.map (·.1)).map (fm l')) : (fun y => if y = x0 then v0 else if y = x1 then v1 else if y = x2 then v2 else if y = x3 then v3 else if y = x4 then v4 else if y = x5 then v5 else if y = x6 then v6 else if y = x7 then v7 else if y = x8 then v8 else fm l y) = fm l' := fm_ext (List.map_inj_left.mp h)
theorem lookup_fm : ∀ (l : List (Str × Value)), (fun y => l.lookup y) = fm (l.map fun p => (p.1, some p.2))
  | [] => rfl
  | p :: r => by
    funext y
    show List.lookup y (p :: r) = if y = p.1 then some p.2 else fm (r.map fun p => (p.1, some p.2)) y
    rw [← congrFun (lookup_fm r) y, List.lookup_cons]
    by_cases h : y = p.1
    · rw [if_pos h, h]; simp
    · rw [if_neg h]
      have : (y == p.1) = false := by simpa using h
      rw [this]

section
variable {w : World} {mean : ExcName → Option Value} {mg mb : Str → Option Value} {base : Heap} {outer : List Env} {A : Around}

theorem enter {dp un : Nat} {gd : Option (List Code)} {s : Shared} {R : Result → Shared → Prop} {name qual : Str} {params : Arguments} {body : List Stmt} {scope : Scope} {dV kV doc pm cdv ct oc : Value} {an od : Option Addr} {osl : Array (Option Value)} {f : Addr} {args : Args} {binds : List (Str × Value)}
    (G : Gd w mean mg mb (aA dp un gd outer) base outer s.heap) (hroom : dp < recursionLimit)
    (ho : List.lookup f (hd.heap_39 w.params) = some ⟨oc, od, .func (fnOf name qual params body scope dV kV doc pm an cdv ct), osl⟩) (hcd : codeIn (hd.heap_39 w.params) cdv qual = true)
    (hbind : BindsTo s (fnOf name qual params body scope dV kV doc pm an cdv ct) args binds) (hloc : ∀ y ∈ binds, scope.names.lookup y.1 = some .local)
    (h : ∀ L' h₁, Fr s.heap L' h₁ (fun y => binds.reverse.lookup y) → News s.heap L' h₁ [] →
      wpAny (model PySem.Challenge.rw_pg0146_01.row.prog w) ((aA dp un gd outer).deeper (envOf qual scope L' f cdv)) (execs body (envOf qual scope L' f cdv))
        (fun fl s' => R (.ok (.ret (match fl with | .ret v => v | _ => .none))) s')
        (fun e s' => wpAny (model PySem.Challenge.rw_pg0146_01.row.prog w) ((aA dp un gd outer).deeper (envOf qual scope L' f cdv)) (leaving (envOf qual scope L' f cdv) e) (fun _ s'' => R (.error e) s'') (fun e' s'' => R (.error e') s'') s')
        { s with heap := h₁, toks := s.toks + binds.length })
    (hco : scope.isCoroutine = false) (hgen : scope.isGenerator = false) (hk : scope.kind = .function)
    (hcell : ∀ x ∈ scope.names, x.2 ≠ .cell) : codeAny (model PySem.Challenge.rw_pg0146_01.row.prog w) (aA dp un gd outer) (.call (.ref f) args) R s := by
  refine codeAny_call_def (fd := fnOf name qual params body scope dV kV doc pm an cdv ct) (body := body) (binds := binds) hroom (G.X _ _ ho) rfl G.T.nolimit (codeRec_of G.X hcd) rfl hbind hcell hloc (fun h₁ hns hk₁ => ?_) hco hgen hk
  exact h _ h₁ ⟨hns, hk₁, Nat.le_refl _⟩ News.nil

/-- the ground of a frame, for a call out of it -/
theorem Gd.next {h₀ h : Heap} {L : Addr} {m : Str → Option Value} {env : Env} {dp un : Nat} {gd : Option (List Code)} (X : (hd.heap_39 w.params).In h₀) (T : Top hd.view_39 (looseW hd.view_39 [Str.ofString "Whitespace"]) mean mg mb h₀)
    (B : Below A base outer h₀) (F : Fr h₀ L h m) (hf : env.frame = some L) (hk : env.scope.kind = .function) : Gd w mean mg mb (aA dp un gd (env :: outer)) base (env :: outer) h := by
  refine ⟨X.keeps F.keep, T.keeps F.keep, ⟨rfl, fun b o e => F.keep b o (B.stays b o e), ?_⟩⟩
  have hnew : base.get? L = none := by
    cases hq : base.get? L with
    | none => rfl
    | some o => exact absurd (Nat.lt_of_lt_of_le (Heap.lt_size (B.stays L o hq)) F.above) (Nat.lt_irrefl _)
  exact .cons (by rw [hk]; decide) hf F.ns hnew (B.frames.of_keeps fun b o e _ => ⟨o, F.keep b o e, rfl⟩)

/-- as `enter`, for a body that raises nothing -/
theorem enter0 {dp un : Nat} {gd : Option (List Code)} {s : Shared} {Q E : Value → Shared → Prop} {name qual : Str} {params : Arguments} {body : List Stmt} {scope : Scope} {dV kV doc pm cdv ct oc : Value} {an od : Option Addr} {osl : Array (Option Value)} {f : Addr} {args : List Value} {binds : List (Str × Value)}
    (G : Gd w mean mg mb (aA dp un gd outer) base outer s.heap) (hroom : dp < recursionLimit)
    (ho : List.lookup f (hd.heap_39 w.params) = some ⟨oc, od, .func (fnOf name qual params body scope dV kV doc pm an cdv ct), osl⟩) (hcd : codeIn (hd.heap_39 w.params) cdv qual = true)
    (hbind : BindsTo s (fnOf name qual params body scope dV kV doc pm an cdv ct) ⟨args, []⟩ binds) (hloc : ∀ y ∈ binds, scope.names.lookup y.1 = some .local)
    (fr : List (Str × Option Value)) (hfr : binds.reverse.map (fun p => (p.1, some p.2)) = fr)
    (h : ∀ L' h₁ tk, Fr s.heap L' h₁ (fm fr) → News s.heap L' h₁ [] →
      wpAny (model PySem.Challenge.rw_pg0146_01.row.prog w) ((aA dp un gd outer).deeper (envOf qual scope L' f cdv)) (execs body (envOf qual scope L' f cdv))
        (fun fl s' => Q (match fl with | .ret v => v | _ => .none) s') (fun _ _ => False)
        { s with heap := h₁, toks := tk })
    (hco : scope.isCoroutine = false) (hgen : scope.isGenerator = false) (hk : scope.kind = .function)
    (hcell : ∀ x ∈ scope.names, x.2 ≠ .cell) : wpAny (model PySem.Challenge.rw_pg0146_01.row.prog w) (aA dp un gd outer) (call (.ref f) args) Q E s :=
  wpAny_call (enter G hroom ho hcd hbind hloc (fun L' h₁ F N => wpAny_mono (h L' h₁ _ (by rw [← hfr, ← lookup_fm]; exact F) N) (fun _ _ x => x) fun _ _ x => x.elim) hco hgen hk hcell)
end

/-- the end of a loop's turn: the iterator I (and the objects ro that the loop reads) untouched -/
noncomputable def TurnQ (h₀ : Heap) (L : Addr) (J : (Str → Option Value) → List (Addr × Obj) → Prop) (I : Addr) (oI : Obj) (ro : List (Addr × Obj)) (s : Shared) (Q : Flow → Shared → Prop) (f : Flow) (s₂ : Shared) : Prop :=
  match f with
  | .ret v => Q (.ret v) s₂
  | .brk => Q .next s₂
  | _ => ∃ h' tk m' nx, s₂ = { s with heap := h', toks := tk } ∧ Fr h₀ L h' m' ∧ News h₀ L h' ((I, oI) :: (ro ++ nx)) ∧ (∀ p ∈ nx, p.1 ≠ I) ∧ J m' nx

theorem roomD {d m k c : Nat} (h : d + m < c) (hk : k + 1 ≤ m) : d + 1 + k < c := by omega
theorem roomU3 {d m k c : Nat} (h : d + m < c) (hk : k + 3 ≤ m) : d + 3 + k < c := by omega
theorem roomU {d m k c : Nat} (h : d + m < c) (hk : k ≤ m) : d + k < c := Nat.lt_of_le_of_lt (Nat.add_le_add_left hk d) h

theorem fm_ext' {l l' : List (Str × Option Value)} (h : (l.map (·.1) ++ l'.map (·.1)).map (fm l) = (l.map (·.1) ++ l'.map (·.1)).map (fm l')) : fm l = fm l' := fm_ext (List.map_inj_left.mp h)

theorem sub_cons {α : Type} {P : α → Prop} {p : α} {l : List α} (h : P p) (t : ∀ q ∈ l, P q) : ∀ q ∈ p :: l, P q := List.forall_mem_cons.mpr ⟨h, t⟩

/-- a post stands for any weaker one: its words are said once -/
theorem turn_of {α : Type} {M : Model} {A : Around} {T : Sem α} {P : α → Shared → Prop} {E : Value → Shared → Prop} {s : Shared} (h : ∀ QT : α → Shared → Prop, (∀ f s₂, P f s₂ → QT f s₂) → wpAny M A T QT E s) : wpAny M A T P E s := h P fun _ _ x => x

theorem TurnQ.go {h₀ : Heap} {L : Addr} {J : (Str → Option Value) → List (Addr × Obj) → Prop} {I : Addr} {oI : Obj} {ro : List (Addr × Obj)} {s : Shared} {Q : Flow → Shared → Prop} {h' : Heap} {tk : Nat} {m' : Str → Option Value} {news' : List (Addr × Obj)}
    (F : Fr h₀ L h' m') (N : News h₀ L h' news') (nx : List (Addr × Obj)) (hsub : ∀ p ∈ (I, oI) :: (ro ++ nx), p ∈ news') (hne : ∀ p ∈ nx, p.1 ≠ I) (hJ : J m' nx) : TurnQ h₀ L J I oI ro s Q .next { s with heap := h', toks := tk } :=
  ⟨h', tk, m', nx, rfl, F, fun p hp => N p (hsub p hp), hne, hJ⟩

/-- a turn walked with its end said once -/
theorem turn_q {h₀ : Heap} {L : Addr} {J : (Str → Option Value) → List (Addr × Obj) → Prop} {I : Addr} {oI : Obj} {ro : List (Addr × Obj)} {s s₁ : Shared} {Q : Flow → Shared → Prop} {M : Model} {A : Around} {T : Sem Flow} {E : Value → Shared → Prop}
    (h : ∀ QT : Flow → Shared → Prop, (∀ {h' : Heap} {tk : Nat} {m' : Str → Option Value} {news' : List (Addr × Obj)}, Fr h₀ L h' m' → News h₀ L h' news' → ∀ nx : List (Addr × Obj), (∀ p ∈ (I, oI) :: (ro ++ nx), p ∈ news') → (∀ p ∈ nx, p.1 ≠ I) → J m' nx → QT .next { s with heap := h', toks := tk }) →
      (∀ v s', Q (.ret v) s' → QT (.ret v) s') → wpAny M A T QT E s₁) : wpAny M A T (TurnQ h₀ L J I oI ro s Q) E s₁ :=
  h _ (fun F N nx hs hne hJ => TurnQ.go F N nx hs hne hJ) fun _ _ q => q

section
variable {prog : Program} {w : World} {A : Around} {E : Value → Shared → Prop} {s : Shared} {env : Env} {h₀ : Heap} {x : Str} {body : List Stmt} {Q : Flow → Shared → Prop}

theorem loop_own {I : Addr} {fp : List Addr} {n : Nat} {P : Nat → Value → Prop} {St : Nat → Heap → Prop} {m₀ : Str → Option Value} {news ro : List (Addr × Obj)} (J : Nat → (Str → Option Value) → List (Addr × Obj) → Prop)
    (W : Walks prog w A I fp [I] n P St) (hlive : ∀ i h, St i h → ∃ o, h.get? I = some o) (hLf : env.locals ∉ fp) (hI : h₀.get? I = none) (hfp : ∀ b ∈ fp, b = I ∨ (∃ o, h₀.get? b = some o) ∨ ∃ o, (b, o) ∈ ro) (hro : ∀ p ∈ ro, p.1 ≠ I)
    (hnw : ∀ p ∈ news, p.1 ≠ I) (hst : St 0 s.heap) (F : Fr h₀ env.locals s.heap m₀) (N : News h₀ env.locals s.heap (ro ++ news)) (hj : J 0 m₀ news)
    (turn : ∀ i v m₁ news₁ h tk oI, i < n → P i v → (∀ p ∈ news₁, p.1 ≠ I) → J i m₁ news₁ → Fr h₀ env.locals h (fun y => if y = x then some v else m₁ y) → News h₀ env.locals h ((I, oI) :: (ro ++ news₁)) →
      wpAny (model prog w) A (execs body env) (TurnQ h₀ env.locals (J (i + 1)) I oI ro s Q) E { s with heap := h, toks := tk })
    (done : ∀ m₁ news₁ h tk, J n m₁ news₁ → Fr h₀ env.locals h m₁ → News h₀ env.locals h (ro ++ news₁) → Q .next { s with heap := h, toks := tk }) :
    LoopAtV prog w A h₀ env x body Q E (.ref I) s := by
  have hIf : I ∈ fp := W.sub I (List.mem_singleton.mpr rfl)
  refine ⟨I, fp, [I], n, P, St, m₀, ro ++ news, fun i m nw => ∃ nx, nw = ro ++ nx ∧ (∀ p ∈ nx, p.1 ≠ I) ∧ J i m nx, rfl, W, hLf, (fun b hb => by rw [List.mem_singleton.mp hb]; exact hI), ?_, hst, F, N, ⟨news, rfl, hnw, hj⟩, ?_, ?_⟩
  · intro p hp hm
    rcases List.mem_append.mp hp with h1 | h1
    · exact hro p h1 (List.mem_singleton.mp hm)
    · exact hnw p h1 (List.mem_singleton.mp hm)
  · rintro i v m₁ news₁ s₁ own ⟨hh', tk', rfl⟩ hin hP ⟨nx, rfl, hne, hJ⟩ hoff hown hget hall hst₁ F₁ N₁
    obtain ⟨oI, hoI⟩ := hlive _ _ hst₁
    have N₂ : News h₀ env.locals hh' ((I, oI) :: (ro ++ nx)) := by
      intro p hp
      rcases List.mem_cons.mp hp with rfl | hp
      · exact N₁ (I, oI) (List.mem_append_left _ (hall I hIf hI oI hoI))
      · exact N₁ p (List.mem_append_right _ hp)
    refine wpAny_mono (turn i v m₁ nx hh' tk' oI hin hP hne hJ F₁ N₂) (fun f s₂ p => ?_) fun _ _ e => e
    have fin : (∃ h' tk m' nx, s₂ = { s with heap := h', toks := tk } ∧ Fr h₀ env.locals h' m' ∧ News h₀ env.locals h' ((I, oI) :: (ro ++ nx)) ∧ (∀ p ∈ nx, p.1 ≠ I) ∧ J (i + 1) m' nx) →
        LoopStepU h₀ env.locals [I] own (fun m nw => ∃ nx, nw = ro ++ nx ∧ (∀ p ∈ nx, p.1 ≠ I) ∧ J (i + 1) m nx) { s with heap := hh', toks := tk' } .next s₂ := by
      rintro ⟨h', tk, m', ny, e, F', N', hne', hJ'⟩
      refine ⟨rfl, h', tk, m', ro ++ ny, e, F', fun p hp => ?_, fun p hp hm => ?_, ⟨ny, rfl, hne', hJ'⟩⟩
      · rcases List.mem_append.mp hp with h1 | h1
        · have hb := hown p h1
          have hg := hget p h1
          rcases hfp p.1 hb with h2 | ⟨o, h2⟩ | ⟨o, h2⟩
          · have : p = (I, oI) := by
              rw [h2] at hg
              have := hg.symm.trans hoI
              cases p
              simp only at h2 this
              cases this
              rw [h2]
            rw [this]
            exact N' _ (.head _)
          · have := (N₁ p (List.mem_append_left _ h1)).2.2
            rw [h2] at this; cases this
          · have h3 := (N₁ _ (List.mem_append_right own (List.mem_append_left nx h2))).1
            have : p = (p.1, o) := by
              have := hg.symm.trans h3
              cases p
              simp only at this
              cases this
              rfl
            rw [this]
            exact N' _ (.tail _ (List.mem_append_left _ h2))
        · exact N' p (.tail _ h1)
      · rcases List.mem_append.mp hp with h1 | h1
        · exact hro p h1 (List.mem_singleton.mp hm)
        · exact hne' p h1 (List.mem_singleton.mp hm)
    cases f with
    | ret v => exact .ret p
    | brk => exact .brk p
    | next => exact .next (fin p)
    | cont => exact .cont (fin p)
  · rintro h' tk m' news' F' N' _ ⟨nx, rfl, hne, hJ⟩
    exact done m' nx h' tk hJ F' N'

/-- a loop over a text's signs -/
theorem str_loop {L : Addr} {lead : Str} {t : Tok} {m₀ : Str → Option Value} {news : List (Addr × Obj)} (J : Nat → (Str → Option Value) → List (Addr × Obj) → Prop)
    (hL : env.locals = L) (hh : A.handled = none) (F : Fr h₀ L s.heap m₀) (N : News h₀ L s.heap news) (hj : J 0 m₀ news)
    (turn : ∀ i c u m₁ news₁ h tk I oI, lead.cps[i]? = some c → (∀ p ∈ news₁, p.1 ≠ I) → J i m₁ news₁ → Fr h₀ L h (fun y => if y = x then some (.str ⟨#[c]⟩ u) else m₁ y) → News h₀ L h ((I, oI) :: news₁) →
      wpAny (model prog w) A (execs body env) (TurnQ h₀ L (J (i + 1)) I oI [] s Q) E { s with heap := h, toks := tk })
    (done : ∀ m₁ news₁ h tk, J lead.cps.size m₁ news₁ → Fr h₀ L h m₁ → News h₀ L h news₁ → Q .next { s with heap := h, toks := tk }) :
    wpAny (model prog w) A (pyIter (.str lead t)) (fun it s₂ => LoopAtV prog w A h₀ env x body Q E it s₂) E s := by
  subst hL
  have hLs : env.locals ≠ s.heap.objs.size := Nat.ne_of_lt F.ns.lt
  have go : ∀ (o : Obj) (St : Nat → Heap → Prop), o.isFreed = false → (Walks prog w A s.heap.objs.size [s.heap.objs.size] [s.heap.objs.size] lead.cps.size (SignAt lead) St) → St 0 (s.heap.push o) → (∀ i h, St i h → ∃ o, h.get? s.heap.objs.size = some o) →
      LoopAtV prog w A h₀ env x body Q E (.ref s.heap.objs.size) { s with heap := s.heap.push o } := by
    intro o St hfr W hst hlive
    refine loop_own (s := { s with heap := s.heap.push o }) (ro := []) J W hlive (fun h => hLs (List.mem_singleton.mp h)) (next_is_new F) (fun b hb => .inl (List.mem_singleton.mp hb)) (fun _ h => nomatch h) ?_ hst (F.push _) (fun p hp => ⟨Heap.get?_push_of_some _ (N p hp).1, (N p hp).2⟩) hj ?_ ?_
    · intro p hp e
      exact absurd (Heap.lt_size (N p hp).1) (e ▸ Nat.lt_irrefl _)
    · rintro i v m₁ news₁ h tk oI hi ⟨c, u, hc, rfl⟩ hne hJ F₁ N₁
      exact turn i c u m₁ news₁ h tk _ oI hc hne hJ F₁ N₁
    · intro m₁ news₁ h tk hJ F₁ N₁
      exact done m₁ news₁ h tk hJ F₁ N₁
  cases ha : lead.cps.all (· < 128)
  · exact wpAny_pyIter_wide ha (go _ _ rfl (Walks.strWide hh _ lead t) ⟨_, Heap.get?_push_size _ rfl, rfl, rfl⟩ fun i h hs => let ⟨o, ho, _⟩ := hs; ⟨o, ho⟩)
  · exact wpAny_pyIter_ascii ha (go _ _ rfl (Walks.strAscii hh _ lead t) ⟨_, Heap.get?_push_size _ rfl, rfl, rfl⟩ fun i h hs => let ⟨o, ho, _⟩ := hs; ⟨o, ho⟩)

/-- a loop over a range by ones -/
theorem range_loop {L : Addr} {r : Addr} {a b : Int} {t u v : Tok} {n : Nat} {m₀ : Str → Option Value} {news : List (Addr × Obj)} (J : Nat → (Str → Option Value) → List (Addr × Obj) → Prop)
    (hL : env.locals = L) (hh : A.handled = none) (hr : IsRange s.heap r a b 1 t u v) (hsmall : Builtin.Range.small a b 1 = true) (hn : Builtin.Range.rangeSize a b 1 = (n : Int)) (F : Fr h₀ L s.heap m₀) (N : News h₀ L s.heap news) (hj : J 0 m₀ news)
    (turn : ∀ i t' m₁ news₁ h tk I oI, i < n → (∀ p ∈ news₁, p.1 ≠ I) → J i m₁ news₁ → Fr h₀ L h (fun y => if y = x then some (.int (a + (i : Int)) t') else m₁ y) → News h₀ L h ((I, oI) :: news₁) →
      wpAny (model prog w) A (execs body env) (TurnQ h₀ L (J (i + 1)) I oI [] s Q) E { s with heap := h, toks := tk })
    (done : ∀ m₁ news₁ h tk, J n m₁ news₁ → Fr h₀ L h m₁ → News h₀ L h news₁ → Q .next { s with heap := h, toks := tk }) :
    wpAny (model prog w) A (pyIter (.ref r)) (fun it s₂ => LoopAtV prog w A h₀ env x body Q E it s₂) E s := by
  subst hL
  have hLs : env.locals ≠ s.heap.objs.size := Nat.ne_of_lt F.ns.lt
  refine wpAny_pyIter_range hr hsmall ?_
  have W : Walks prog w A s.heap.objs.size [s.heap.objs.size] [s.heap.objs.size] n (fun i v => i < n ∧ ∃ t, v = .int (a + i * 1) t)
      (fun i h => IsRangeIter h s.heap.objs.size (a + (i : Nat) * 1) ((n : Int) - (i : Nat)) 1) := (Walks.range hh _ a 1 n).bound
  refine loop_own (ro := []) J W (fun i h hs => ⟨_, hs⟩) (fun h => hLs (List.mem_singleton.mp h)) (next_is_new F) (fun b hb => .inl (List.mem_singleton.mp hb)) (fun _ h => nomatch h) ?_ (by show IsRangeIter _ _ _ _ _; rw [hn]; simpa using Heap.get?_push_size _ rfl) (F.push _) (fun p hp => ⟨Heap.get?_push_of_some _ (N p hp).1, (N p hp).2⟩) hj ?_ ?_
  · intro p hp e
    exact absurd (Heap.lt_size (N p hp).1) (e ▸ Nat.lt_irrefl _)
  · rintro i v m₁ news₁ h tk oI hi ⟨_, t', rfl⟩ hne hJ F₁ N₁
    have e1 : a + (i : Int) * 1 = a + (i : Int) := by omega
    rw [e1] at F₁
    exact turn i t' m₁ news₁ h tk _ oI hi hne hJ F₁ N₁
  · intro m₁ news₁ h tk hJ F₁ N₁
    exact done m₁ news₁ h tk hJ F₁ N₁

/-- a loop over a list that stood ahead of the frame -/
theorem list_loop {L : Addr} {l : Addr} {items : Array Value} {m₀ : Str → Option Value} {news : List (Addr × Obj)} (J : Nat → (Str → Option Value) → List (Addr × Obj) → Prop)
    (hL : env.locals = L) (hh : A.handled = none) (hl : h₀.IsList l items) (F : Fr h₀ L s.heap m₀) (N : News h₀ L s.heap news) (hj : J 0 m₀ news)
    (turn : ∀ i v m₁ news₁ h tk I oI, items[i]? = some v → (∀ p ∈ news₁, p.1 ≠ I) → J i m₁ news₁ → Fr h₀ L h (fun y => if y = x then some v else m₁ y) → News h₀ L h ((I, oI) :: news₁) →
      wpAny (model prog w) A (execs body env) (TurnQ h₀ L (J (i + 1)) I oI [] s Q) E { s with heap := h, toks := tk })
    (done : ∀ m₁ news₁ h tk, J items.size m₁ news₁ → Fr h₀ L h m₁ → News h₀ L h news₁ → Q .next { s with heap := h, toks := tk }) :
    wpAny (model prog w) A (pyIter (.ref l)) (fun it s₂ => LoopAtV prog w A h₀ env x body Q E it s₂) E s := by
  subst hL
  have hls : s.heap.IsList l items := hl.at fun o e => F.keep l o e
  obtain ⟨ol, hol, _⟩ := id hl
  have hlt : l < h₀.objs.size := Heap.lt_size hol
  have hne : l ≠ s.heap.objs.size := Nat.ne_of_lt (Nat.lt_trans (Nat.lt_of_lt_of_le hlt F.above) F.ns.lt)
  have hLs : env.locals ≠ s.heap.objs.size := Nat.ne_of_lt F.ns.lt
  refine wpAny_pyIter_list hls ?_
  refine loop_own (ro := []) J (Walks.list hh s.heap.objs.size l hne items) (fun i h hs => let ⟨o, ho, _⟩ := hs.1; ⟨o, ho⟩) ?_ (next_is_new F) (fun b hb => ?_) (fun _ h => nomatch h) ?_ ⟨⟨_, Heap.get?_push_size _ rfl, rfl, rfl⟩, hls.at fun o e => Heap.get?_push_of_some _ e⟩ (F.push _) (fun p hp => ⟨Heap.get?_push_of_some _ (N p hp).1, (N p hp).2⟩) hj ?_ ?_
  · intro hm
    rcases List.mem_cons.mp hm with e | hm
    · exact hLs e
    · exact absurd (Nat.lt_of_lt_of_le hlt F.above) ((List.mem_singleton.mp hm) ▸ Nat.lt_irrefl _)
  · rcases List.mem_cons.mp hb with e | hm
    · exact .inl e
    · exact .inr (.inl ⟨ol, (List.mem_singleton.mp hm) ▸ hol⟩)
  · intro p hp e
    exact absurd (Heap.lt_size (N p hp).1) (e ▸ Nat.lt_irrefl _)
  · rintro i v m₁ news₁ h tk oI hi hP hne hJ F₁ N₁
    exact turn i v m₁ news₁ h tk _ oI hP hne hJ F₁ N₁
  · intro m₁ news₁ h tk hJ F₁ N₁
    exact done m₁ news₁ h tk hJ F₁ N₁

/-- a loop over a list of the frame's own ledger -/
theorem listN_loop {L : Addr} {l : Addr} {ol : Obj} {items : Array Value} {m₀ : Str → Option Value} {news : List (Addr × Obj)} (J : Nat → (Str → Option Value) → List (Addr × Obj) → Prop)
    (hL : env.locals = L) (hh : A.handled = none) (hl : s.heap.IsList l items) (F : Fr h₀ L s.heap m₀) (N : News h₀ L s.heap ((l, ol) :: news)) (hj : J 0 m₀ news)
    (turn : ∀ i v m₁ news₁ h tk I oI, items[i]? = some v → (∀ p ∈ news₁, p.1 ≠ I) → J i m₁ news₁ → Fr h₀ L h (fun y => if y = x then some v else m₁ y) → News h₀ L h ((I, oI) :: ([(l, ol)] ++ news₁)) →
      wpAny (model prog w) A (execs body env) (TurnQ h₀ L (J (i + 1)) I oI [(l, ol)] s Q) E { s with heap := h, toks := tk })
    (done : ∀ m₁ news₁ h tk, J items.size m₁ news₁ → Fr h₀ L h m₁ → News h₀ L h ([(l, ol)] ++ news₁) → Q .next { s with heap := h, toks := tk }) :
    wpAny (model prog w) A (pyIter (.ref l)) (fun it s₂ => LoopAtV prog w A h₀ env x body Q E it s₂) E s := by
  subst hL
  have hNl := N (l, ol) (.head _)
  have hlt : l < s.heap.objs.size := Heap.lt_size hNl.1
  have hne : l ≠ s.heap.objs.size := Nat.ne_of_lt hlt
  have hLs : env.locals ≠ s.heap.objs.size := Nat.ne_of_lt F.ns.lt
  refine wpAny_pyIter_list hl ?_
  refine loop_own (ro := [(l, ol)]) J (Walks.list hh s.heap.objs.size l hne items) (fun i h hs => let ⟨o, ho, _⟩ := hs.1; ⟨o, ho⟩) ?_ (next_is_new F) (fun b hb => ?_) (fun p h => by rw [List.mem_singleton.mp h]; exact hne) ?_ ⟨⟨_, Heap.get?_push_size _ rfl, rfl, rfl⟩, hl.at fun o e => Heap.get?_push_of_some _ e⟩ (F.push _) (fun p hp => ⟨Heap.get?_push_of_some _ (N p hp).1, (N p hp).2⟩) hj ?_ ?_
  · intro hm
    rcases List.mem_cons.mp hm with e | hm
    · exact hLs e
    · exact hNl.2.1 (List.mem_singleton.mp hm).symm
  · rcases List.mem_cons.mp hb with e | hm
    · exact .inl e
    · exact .inr (.inr ⟨ol, by rw [List.mem_singleton.mp hm]; exact .head _⟩)
  · intro p hp e
    exact absurd (Heap.lt_size (N p (.tail _ hp)).1) (e ▸ Nat.lt_irrefl _)
  · rintro i v m₁ news₁ h tk oI hi hP hne hJ F₁ N₁
    exact turn i v m₁ news₁ h tk _ oI hP hne hJ F₁ N₁
  · intro m₁ news₁ h tk hJ F₁ N₁
    exact done m₁ news₁ h tk hJ F₁ N₁
end

section
variable {prog : Program} {w : World} {A : Around} {E : Value → Shared → Prop} {s : Shared} {h₀ : Heap} {L : Addr} {m : Str → Option Value} {news : List (Addr × Obj)}
theorem isList_of {h : Heap} {a : Addr} {its : Array Value} {k : Nat} (e : h.get? a = some (listOf its k)) : h.IsList a its := ⟨_, e, rfl, k, rfl⟩
theorem News.il {h : Heap} (N : News h₀ L h news) {a : Addr} {its : Array Value} {k : Nat} (hm : (a, listOf its k) ∈ news) : h.IsList a its := isList_of (N _ hm).1
theorem add_K {l b : Addr} {vs ws : List Value} {Q : Value → Shared → Prop} (F : Fr h₀ L s.heap m) (N : News h₀ L s.heap news) (hl : s.heap.IsList l vs.toArray) (hb : s.heap.IsList b ws.toArray)
    (hsz : vs.length + ws.length ≤ sizeLine)
    (h : ∀ l' h', Fr h₀ L h' m → News h₀ L h' ((l', listOf (vs ++ ws).toArray 0) :: news) → (∀ p ∈ news, p.1 < l') → Q (.ref l') { s with heap := h' }) :
    wpAny (model prog w) A (binaryOp .Add (.ref l) (.ref b)) Q E s :=
  add_lists F N hl hb (fun h' F' N' => h _ h' F' N' fun p hp => Heap.lt_size (N p hp).1) hsz
end

section
variable {w : World} {mean : ExcName → Option Value} {mg mb : Str → Option Value} {M : Model} {A : Around} {E : Value → Shared → Prop} {s : Shared} {env : Env} {Q : Value → Shared → Prop}
theorem nmG {x : Str} {pos : Pos} {v : Value} (X : (hd.heap_39 w.params).In s.heap) (T : Top hd.view_39 (looseW hd.view_39 [Str.ofString "Whitespace"]) mean mg mb s.heap) (e : nsIn (hd.heap_39 w.params) mainGlobals x = some (some v)) (h : Q v s)
    (hg : env.globals = mainGlobals := by rfl) (hk : env.scope.kind = .function := by rfl) (hx : env.kindOf x = some .globalImplicit := by rfl) (hd : (x == ("__debug__" : Str)) = false := by rfl) : wpAny M A (eval (.Name x pos) env) Q E s :=
  Name_function_global hk hx (loadGlobal_global (env := env) (by rw [hg]; exact T.g) (mg_of X T.g e) h) hd
theorem nmL {x : Str} {pos : Pos} {v : Value} {m : Str → Option Value} (hn : s.heap.Ns env.locals m) (hv : m x = some v) (h : Q v s)
    (hk : env.scope.kind = .function := by rfl) (hl : env.kindOf x = some .local := by rfl) (hd : (x == ("__debug__" : Str)) = false := by rfl) : wpAny M A (eval (.Name x pos) env) Q E s :=
  wpAny_Name (wpAny_loadName_local hk hl hn hv h) hd
/-- f(e, ..) for a def or class f of the text's -/
theorem callG {x : Str} {px pos : Pos} {f : Value} {e : Expr} {rest : List Expr} (X : (hd.heap_39 w.params).In s.heap) (T : Top hd.view_39 (looseW hd.view_39 [Str.ofString "Whitespace"]) mean mg mb s.heap) (hf : nsIn (hd.heap_39 w.params) mainGlobals x = some (some f)) (hkeep : keepIn (hd.heap_39 w.params) f = true)
    (h : wpAny M A (spliced (backTo pos (starEach (e :: rest) env))) (fun vs s₁ => (hd.heap_39 w.params).In s₁.heap ∧ wpAny M A (call f vs) Q E s₁) E s)
    (hg : env.globals = mainGlobals := by rfl) (hk : env.scope.kind = .function := by rfl) (hx : env.kindOf x = some .globalImplicit := by rfl) (hd : (x == ("__debug__" : Str)) = false := by rfl)
    (he : starEach (e :: rest) env = (false, eval e env) :: starEach rest env := by rfl) (hplain : (backTo pos (starEach rest env)).any (·.1) = false := by rfl) :
    wpAny M A (eval (.Call (.Name x px) (e :: rest) [] pos) env) Q E s :=
  Call_ (nmG X T hf (callWith_K X hkeep h he hplain) hg hk hx hd)
end

/-- one sign of a lead -/
noncomputable def colStep (size c : Int) (ch : Nat) : Int := if ch = 32 then c + 1 else c.fdiv size * size + size
noncomputable def colOf (size : Int) (l : List Nat) : Int := l.foldl (colStep size) 0

set_option maxHeartbeats 4000000 in
theorem column_spec {w : World} {mean : ExcName → Option Value} {mg mb : Str → Option Value} {base : Heap} {outer : List Env} {dp un : Nat} {gd : Option (List Code)} {s : Shared} {Q E : Value → Shared → Prop}
    (G : Gd w mean mg mb (aA dp un gd outer) base outer s.heap) (hdp : dp + 5 < recursionLimit) (hun : un + 50 < cLine)
    {lead : Str} {t1 t2 : Tok} {size : Int} (hsz : 1 ≤ size) (hsz2 : size ≤ 100)
    (hret : ∀ t h' tk', Kp s.heap h' → Q (.int (colOf size lead.cps.toList) t) { s with heap := h', toks := tk' }) :
    wpAny (model PySem.Challenge.rw_pg0146_01.row.prog w) (aA dp un gd outer) (call (.ref 113) [.str lead t1, .int size t2]) Q E s := by
  w_top off
  obtain ⟨X, T, B⟩ := id G
  revert X; k_fill; intro X
  refine enter0 (binds := [("lead", .str lead t1), ("size", .int size t2)]) G (by omega) (by k_dflt k_is) (by k_dflt k_is) (BindsTo.of_eq rfl) (locs rfl) [("size", some (.int size t2)), ("lead", some (.str lead t1))] rfl ?_ rfl rfl rfl (by decide)
  intro L' h₁ tk F' N'
  have hroom : Unit → _ := fun _ => And.intro hdp hun
  clear hdp hun
  repeat' (
    (fail_if_success (with_reducible show wpAny _ _ (exec (Stmt.For _ _ _ _ _) _) _ _ _));
    (fail_if_success (with_reducible show wpAny _ _ (exec (Stmt.While _ _ _ _) _) _ _ _));
    (fail_if_success (with_reducible show TurnQ _ _ _ _ _ _ _ _ _ _));
    (first | walk1 | (dsimp only; walk1)); (first | (with_reducible show wpAny _ _ (subscriptTail _ _ _ _) _ _ _) | (try dsimp only)))
  refine For_invV s.heap rfl rfl ?_ (fun _ => rfl) PassesOwn.never
  walk1
  refine str_loop (fun i m news => news = [] ∧ ∃ vx t, m = fm [("sign", vx), ("column", some (.int (colOf size (lead.cps.toList.take i)) t)), ("lead", some (.str lead t1)), ("size", some (.int size t2))]) rfl rfl (by assumption) (by assumption) ?_ ?_ ?_
  · exact ⟨rfl, none, _, by (first | (refine fm_s1 ?_; rfl) | (refine fm_s2 ?_; rfl) | (refine fm_s3 ?_; rfl) | (refine fm_s4 ?_; rfl) | (refine fm_s5 ?_; rfl) | (refine fm_s6 ?_; rfl))⟩
  · rintro i c u m₁ news₁ h tk I oI hc hne ⟨rfl, vx, t, rfl⟩ F N
    have hi : lead.cps.toList[i]? = some c := by rw [← hc]; simp
    have hstep : ∀ c', c' = colStep size (colOf size (lead.cps.toList.take i)) c → colOf size (lead.cps.toList.take (i + 1)) = c' := by
      rintro _ rfl
      simp [colOf, List.take_add_one, hi]
    repeat' (
      (fail_if_success (with_reducible show wpAny _ _ (exec (Stmt.For _ _ _ _ _) _) _ _ _));
      (fail_if_success (with_reducible show wpAny _ _ (exec (Stmt.While _ _ _ _) _) _ _ _));
      (fail_if_success (with_reducible show TurnQ _ _ _ _ _ _ _ _ _ _));
      (first | walk1 | (dsimp only; walk1)); (first | (with_reducible show wpAny _ _ (subscriptTail _ _ _ _) _ _ _) | (try dsimp only)))
    · have hc32 : c = 32 := by
        rename (_ == _) = true => hq
        have := beq_iff_eq.mp hq
        injection this with h1
        injection h1 with h2
        injection h2
      rw [hstep _ rfl, colStep, if_pos hc32]
      exact TurnQ.go (by assumption) (by assumption) [] (fun p h => h) (fun _ h => nomatch h) ⟨rfl, _, _, by (first | (refine fm_s1 ?_; rfl) | (refine fm_s2 ?_; rfl) | (refine fm_s3 ?_; rfl) | (refine fm_s4 ?_; rfl) | (refine fm_s5 ?_; rfl) | (refine fm_s6 ?_; rfl))⟩
    · have hc32 : c ≠ 32 := by
        rename (_ == _) = false => hq
        rintro rfl
        exact absurd hq (by decide)
      rw [hstep _ rfl, colStep, if_neg hc32]
      exact TurnQ.go (by assumption) (by assumption) [] (fun p h => h) (fun _ h => nomatch h) ⟨rfl, _, _, by (first | (refine fm_s1 ?_; rfl) | (refine fm_s2 ?_; rfl) | (refine fm_s3 ?_; rfl) | (refine fm_s4 ?_; rfl) | (refine fm_s5 ?_; rfl) | (refine fm_s6 ?_; rfl))⟩
  · rintro m₁ news₁ h tk ⟨rfl, vx, t, rfl⟩ F N
    repeat' (
      (fail_if_success (with_reducible show wpAny _ _ (exec (Stmt.For _ _ _ _ _) _) _ _ _));
      (fail_if_success (with_reducible show wpAny _ _ (exec (Stmt.While _ _ _ _) _) _ _ _));
      (fail_if_success (with_reducible show TurnQ _ _ _ _ _ _ _ _ _ _));
      (first | walk1 | (dsimp only; walk1)); (first | (with_reducible show wpAny _ _ (subscriptTail _ _ _ _) _ _ _) | (try dsimp only)))
    have e : lead.cps.toList.take lead.cps.size = lead.cps.toList := List.take_of_length_le (by simp)
    rw [e]
    exact hret _ _ _ F.keep

/-- the digits above the last, 64 more in each -/
noncomputable def hiN (k : Nat) : List Int := if h : k ≤ 63 then [64 + (k : Int)] else hiN (k / 64) ++ [64 + ((k % 64 : Nat) : Int)]
termination_by k
decreasing_by omega
theorem hiN_eq (k : Nat) : hiN k = if k ≤ 63 then [64 + (k : Int)] else hiN (k / 64) ++ [64 + ((k % 64 : Nat) : Int)] := by
  rw [hiN]; split <;> rfl
noncomputable def digsN (n : Nat) : List Int := if n ≤ 63 then [(n : Int)] else hiN (n / 64) ++ [((n % 64 : Nat) : Int)]

set_option maxHeartbeats 4000000 in
theorem digits_spec {w : World} {mean : ExcName → Option Value} {mg mb : Str → Option Value} {base : Heap} {outer : List Env} {dp un : Nat} {gd : Option (List Code)} {s : Shared} {Q E : Value → Shared → Prop}
    (G : Gd w mean mg mb (aA dp un gd outer) base outer s.heap) (hdp : dp + 5 < recursionLimit) (hun : un + 50 < cLine)
    {n : Nat} {t1 : Tok} (hn : n ≤ 100000)
    (hret : ∀ a vs k h' tk', Kp s.heap h' → h'.get? a = some (listOf vs.toArray k) → s.heap.get? a = none → IntsAre vs (digsN n) → Q (.ref a) { s with heap := h', toks := tk' }) :
    wpAny (model PySem.Challenge.rw_pg0146_01.row.prog w) (aA dp un gd outer) (call (.ref 130) [.int n t1]) Q E s := by
  w_top off
  obtain ⟨X, T, B⟩ := id G
  revert X; k_fill; intro X
  refine enter0 (binds := [("number", .int n t1)]) G (by omega) (by k_dflt k_is) (by k_dflt k_is) (BindsTo.of_eq rfl) (locs rfl) [("number", some (.int n t1))] rfl ?_ rfl rfl rfl (by decide)
  intro L' h₁ tk F' N'
  have hroom : Unit → _ := fun _ => And.intro hdp hun
  clear hdp hun
  repeat' (
    (fail_if_success (with_reducible show wpAny _ _ (exec (Stmt.For _ _ _ _ _) _) _ _ _));
    (fail_if_success (with_reducible show wpAny _ _ (exec (Stmt.While _ _ _ _) _) _ _ _));
    (fail_if_success (with_reducible show TurnQ _ _ _ _ _ _ _ _ _ _));
    (first | walk1 | (dsimp only; walk1)); (first | (with_reducible show wpAny _ _ (subscriptTail _ _ _ _) _ _ _) | (try dsimp only)))
  refine While_inv (fun n' m news => ∃ (k : Nat) (tk : Tok) (l : Addr) (vs : List Value) (e : Nat), n' = k ∧ m = fm [("number", some (.int k tk)), ("digits", some (.ref l))] ∧ news = [(l, listOf vs.toArray e)] ∧ k ≤ n ∧ ∃ ns, IntsAre vs ns ∧ ns.length ≤ n + 1 - k ∧ (if k ≤ 63 then ns else hiN (k / 64) ++ ns) = digsN n) (n₀ := n) (by assumption) (by assumption) ?_ ?_ PassesOwn.never
  · refine ⟨n, _, _, _, _, rfl, by (first | (refine fm_s1 ?_; rfl) | (refine fm_s2 ?_; rfl) | (refine fm_s3 ?_; rfl) | (refine fm_s4 ?_; rfl) | (refine fm_s5 ?_; rfl) | (refine fm_s6 ?_; rfl)), rfl, Nat.le_refl _, _, .cons _ _ .nil, ?_, ?_⟩
    · simp
    · have e : ((n : Int).fmod 64) = ((n % 64 : Nat) : Int) := by rw [Int.fmod_eq_emod_of_nonneg _ (by omega)]; omega
      rw [e]
      unfold digsN
      by_cases h : n ≤ 63
      · rw [if_pos h, if_pos h, Nat.mod_eq_of_lt (by omega)]
      · rw [if_neg h, if_neg h]
  · rintro n' _ _ h₁ tk₁ F N ⟨k, tk, l, vs, e, rfl, rfl, rfl, hk, ns, hI, hlen, hv⟩
    repeat' (
      (fail_if_success (with_reducible show wpAny _ _ (exec (Stmt.For _ _ _ _ _) _) _ _ _));
      (fail_if_success (with_reducible show wpAny _ _ (exec (Stmt.While _ _ _ _) _) _ _ _));
      (fail_if_success (with_reducible show TurnQ _ _ _ _ _ _ _ _ _ _));
      (first | walk1 | (dsimp only; walk1)); (first | (with_reducible show wpAny _ _ (subscriptTail _ _ _ _) _ _ _) | (try dsimp only)))
    · have hgt : 63 < (n' : Int) := by assumption
      have e1 : ((n' : Int).fdiv 64) = ((n' / 64 : Nat) : Int) := by rw [Int.fdiv_eq_ediv_of_nonneg _ (by omega)]; omega
      have e2 : (((n' / 64 : Nat) : Int).fmod 64) = ((n' / 64 % 64 : Nat) : Int) := by rw [Int.fmod_eq_emod_of_nonneg _ (by omega)]; omega
      rename Fr _ _ _ _ => F3
      rename News _ _ _ _ => N3
      rename IntsAre _ ([_] ++ ns) => hI3
      rw [e1] at F3
      rw [e1, e2] at hI3
      refine WhileStep.intro F3 (kst_newsOf N3 (l' := [_]) (fun p hp => by rw [List.mem_singleton.mp hp]; exact .head _)) (n' := n' / 64) (by omega) ⟨n' / 64, _, _, _, _, rfl, by (first | (refine fm_s1 ?_; rfl) | (refine fm_s2 ?_; rfl) | (refine fm_s3 ?_; rfl) | (refine fm_s4 ?_; rfl) | (refine fm_s5 ?_; rfl) | (refine fm_s6 ?_; rfl)), rfl, by omega, _, hI3, ?_, ?_⟩
      · simp only [List.length_cons, List.length_append, List.length_nil]; omega
      · rw [← hv, if_neg (by omega : ¬ n' ≤ 63)]
        rw [hiN_eq (n' / 64)]
        by_cases h : n' / 64 ≤ 63
        · rw [if_pos h, if_pos h, Nat.mod_eq_of_lt (by omega)]
        · rw [if_neg h, if_neg h]; simp
    · rw [if_pos (by omega : n' ≤ 63)] at hv
      rw [hv] at hI
      exact hret l vs e _ _ F.keep (N _ (.head _)).1 (N _ (.head _)).2.2 hI


theorem Paired.imp {α β : Type} {F G : α → β → Prop} (h : ∀ a b, F a b → G a b) {l₁ : List α} {l₂ : List β} (p : Paired F l₁ l₂) : Paired G l₁ l₂ := by
  induction p with
  | nil => exact .nil
  | cons a _ ih => exact .cons (h _ _ a) ih

theorem ltLe {a b c : Nat} (h : a < b) (q : b ≤ c) : a ≠ c := by omega
theorem leLt {a b c : Nat} (h : a ≤ b) (q : b < c) : a ≠ c := by omega
/-- what an element's evaluation leaves: all kept, and the element told in any heap that holds the ground and what is new -/
noncomputable def EltPost (hB : Heap) (s : Shared) (h₂ : Heap) (F : Value → Value → Heap → Prop) (v : Value) (y : Value) (s₃ : Shared) : Prop :=
  ∃ h' tk', s₃ = { s with heap := h', toks := tk' } ∧ Kp h₂ h' ∧ ∀ hh, Kp hB hh → (∀ b o, h₂.get? b = none → h'.get? b = some o → hh.get? b = some o) → F v y hh

section
variable {prog : Program} {w : World} {A : Around} {s : Shared}

noncomputable def tests (ifs : List Expr) (env : Env) : Sem Bool := forIn ifs true fun c r => if r = true then do let ok ← isTrue c env (eval c env); pure (ForInStep.yield ok) else pure (ForInStep.yield r)

/-- between the turns -/
inductive LoopK (s : Shared) (St : Nat → Heap → Prop) (hB : Heap) (C D I : Addr) (ys₀ : Array Value) (m : Str → Option Value) (x : Str) (P : Nat → Value → Prop) (p : Value → Bool) (F : Value → Value → Heap → Prop) (n : Nat) (k : Nat) (s' : Shared) : Prop
  | mk (h' : Heap) (tk : Nat) (m' : Str → Option Value) (ys : Array Value) (vs : List Value) (h09 : s' = { s with heap := h', toks := tk }) (h19 : St vs.length h') (h29 : h'.PlainList D (ys₀ ++ ys)) (h39 : Fr hB C h' m') (h49 : (∀ y, y ≠ x → m' y = m y)) (h59 : (∀ j v, vs[j]? = some v → P j v)) (h69 : Paired (fun v y => ∀ hh, (∀ b o, b ≠ C → b ≠ D → b ≠ I → h'.get? b = some o → hh.get? b = some o) → F v y hh) (vs.filter p) ys.toList) (h79 : ys.size ≤ vs.length) (h89 : vs.length ≤ n) (h99 : k = n + 1 - vs.length) (h109 : (∀ b o, b ≠ C → b ≠ D → b ≠ I → s.heap.get? b = some o → h'.get? b = some o)) : LoopK s St hB C D I ys₀ m x P p F n k s'

theorem compLoop_K {R : Result → Shared → Prop} {elt iter : Expr} {gens : List Comprehension} {depth : Nat} {x : Str} {px : Pos} {ifs : List Expr} {scope : Scope} {pos : Pos} {cenv : Env} {I D C : Addr} {fp : List Addr} {n : Nat} {P : Nat → Value → Prop} {St : Nat → Heap → Prop} {m : Str → Option Value} {hB : Heap}
    (hturn : compTurn (.ListComp elt gens scope pos) depth (.ref I) (.ref D) cenv = (do
      standAt iter.pos
      match ← pyNext (.ref I) with
      | none => pure (.done .next)
      | some v =>
        letOwnedTupleGo (.Name x px) (.ref I) v
        assign (.Name x px) cenv v
        let mut ok := true
        for c in ifs do
          if ok then ok ← isTrue c cenv (eval c cenv)
        if ok then
          (do let _ ← call (.builtin "list.append") [.ref D, ← eval elt cenv])
        again (.compLoop (.ListComp elt gens scope pos) depth (.ref I) (.ref D) cenv)))
    (W : Walks prog w A I fp [I] n P St) (p : Value → Bool) (F : Value → Value → Heap → Prop)
    (hlive : ∀ i h, St i h → ∃ o, h.get? I = some o)
    (hC : cenv.locals = C) (hx : cenv.kindOf x = some .local) (hp : (cenv.scope.kind == .class || (cenv.scope.kind == .module && cenv.locals != cenv.globals)) = false)
    (hDC : D ≠ C) (hDf : D ∉ fp) (hCf : C ∉ fp) (hB1 : ∀ b o, hB.get? b = some o → b ≠ C ∧ b ≠ D ∧ b ≠ I ∧ s.heap.get? b = some o) (hB2 : hB.objs.size ≤ C)
    (hst : St 0 s.heap) {ys₀ : Array Value} (hacc : s.heap.PlainList D ys₀) (hn : s.heap.Ns C m)
    (htests : ∀ i v h₂ tk₂, P i v → Fr hB C h₂ (fun y => if y = x then some v else m y) → wpAny (model prog w) A (tests ifs cenv) (fun ok s₃ => ok = p v ∧ Keeps { s with heap := h₂, toks := tk₂ } s₃) (fun _ _ => False) { s with heap := h₂, toks := tk₂ })
    (helt : ∀ i v h₂ tk₂, P i v → p v = true → Fr hB C h₂ (fun y => if y = x then some v else m y) → wpAny (model prog w) A (eval elt cenv) (EltPost hB s h₂ F v) (fun _ _ => False) { s with heap := h₂, toks := tk₂ })
    (hR : ∀ h' tk m' ys (vs : List Value), Fr hB C h' m' → (∀ y, y ≠ x → m' y = m y) → h'.PlainList D (ys₀ ++ ys) → vs.length = n → (∀ j v, vs[j]? = some v → P j v) → Paired (fun v y => ∀ hh, (∀ b o, b ≠ C → b ≠ D → b ≠ I → h'.get? b = some o → hh.get? b = some o) → F v y hh) (vs.filter p) ys.toList →
      (∀ b o, b ≠ C → b ≠ D → b ≠ I → s.heap.get? b = some o → h'.get? b = some o) → R (.ok .next) { s with heap := h', toks := tk })
    (hsz : ys₀.size + n ≤ sizeLine) :
    codeAny (model prog w) A (.compLoop (.ListComp elt gens scope pos) depth (.ref I) (.ref D) cenv) R s := by
  subst hC
  have hIf : I ∈ fp := W.sub I (List.mem_singleton.mpr rfl)
  have hDI : D ≠ I := fun e => hDf (e ▸ hIf)
  have hCI : cenv.locals ≠ I := fun e => hCf (e ▸ hIf)
  refine codeAny_loop (M := model prog w) rfl
    (LoopK s St hB cenv.locals D I ys₀ m x P p F n) ?_ (n + 1)
    ⟨s.heap, s.toks, m, #[], [], rfl, hst, by simpa using hacc, ⟨hn, fun b o e => (hB1 b o e).2.2.2, hB2⟩, fun _ _ => rfl, by simp, by simpa using Paired.nil, Nat.zero_le _, Nat.zero_le _, rfl, fun _ _ _ _ _ e => e⟩
  rintro k s' ⟨H, tk, m', ys, vs, rfl, hst', hacc', F', hm', hP, hF, hle, hi, rfl, hk⟩
  show wpAny _ A ((compTurn (.ListComp elt gens scope pos) depth (.ref I) (.ref D) cenv).onRaise (fun x => do noteFrame x cenv; theTreesLotGoes x)) _ _ _
  refine wpAny_noted ?_
  rw [hturn]
  refine wpAny_bind (wpAny_standAt (wpAny_bind ?_))
  by_cases hlt : vs.length < n
  · refine W.item vs.length _ _ _ hlt hst' fun v h₁ tk₁ hPv hst₁ hk₁ => ?_
    have hk₁' : ∀ b o, b ≠ I → H.get? b = some o → h₁.get? b = some o := fun b o hb e => hk₁ b o (fun q => hb (List.mem_singleton.mp q)) e
    have F₁ : Fr hB cenv.locals h₁ m' := ⟨F'.ns.at' fun o e => hk₁' _ o hCI e, fun b o e => hk₁' b o (hB1 b o e).2.2.1 (F'.keep b o e), F'.above⟩
    refine wpAny_bind (wpAny_pure (wpAny_bind ?_))
    refine wpAny_assign_Name (wpAny_storeName_local hx F₁.ns (fun h₂ hn₂ hs₂ => ?_) hp)
    have F₂ := F₁.set hn₂ hs₂
    have em : (fun y => if y = x then some v else m' y) = fun y => if y = x then some v else m y := by
      funext y
      by_cases hy : y = x
      · rw [if_pos hy, if_pos hy]
      · rw [if_neg hy, if_neg hy, hm' y hy]
    rw [em] at F₂
    have up₂ : ∀ b o, b ≠ cenv.locals → b ≠ I → H.get? b = some o → h₂.get? b = some o := fun b o hbC hbI e => hs₂.extBut b o hbC (hk₁' b o hbI e)
    have hst₂ : St (vs.length + 1) h₂ := W.frame _ _ _ hst₁ fun b hb o e => hs₂.extBut b o (fun h => hCf (h ▸ hb)) e
    refine wpAny_bind (wpAny_mono (htests vs.length v h₂ (tk₁ + 1) hPv F₂) (fun ok s₃ h₃ => ?_) fun _ _ x => x.elim)
    obtain ⟨rfl, h₃, tk₃, rfl, hk₃⟩ := h₃
    have hst₃ : St (vs.length + 1) h₃ := W.frame _ _ _ hst₂ fun b _ o e => hk₃ b o e
    have hacc₃ : h₃.PlainList D (ys₀ ++ ys) := hacc'.at fun o e => hk₃ _ o (up₂ D o hDC hDI e)
    have F₃ : Fr hB cenv.locals h₃ (fun y => if y = x then some v else m y) := F₂.keeps hk₃
    have hm₃ : ∀ y, y ≠ x → (fun y => if y = x then some v else m y) y = m y := fun y hy => if_neg hy
    have hP' : ∀ j u, (vs ++ [v])[j]? = some u → P j u := fun j u hj => by
      rcases Nat.lt_trichotomy j vs.length with h | h | h
      · exact hP j u (by rwa [List.getElem?_append_left h] at hj)
      · subst h; simp at hj; subst hj; exact hPv
      · have hnone : (vs ++ [v])[j]? = none := List.getElem?_eq_none (by rw [List.length_append, List.length_singleton]; omega)
        rw [hnone] at hj; cases hj
    have hF₃ : ∀ h₄ : Heap, (∀ b o, b ≠ cenv.locals → b ≠ D → b ≠ I → h₃.get? b = some o → h₄.get? b = some o) → Paired (fun v y => ∀ hh, (∀ b o, b ≠ cenv.locals → b ≠ D → b ≠ I → h₄.get? b = some o → hh.get? b = some o) → F v y hh) (vs.filter p) ys.toList := fun h₄ hk₄ =>
      Paired.imp (fun v y q hh hhh => q hh fun b o b1 b2 b3 e => hhh b o b1 b2 b3 (hk₄ b o b1 b2 b3 (hk₃ b o (up₂ b o b1 b3 e)))) hF
    cases hpv : p v with
    | false =>
      show wpAny _ _ (pure _) _ _ _
      refine wpAny_pure ⟨rfl, n + 1 - (vs.length + 1), by omega, h₃, tk₃, _, ys, vs ++ [v], rfl, by simpa using hst₃, hacc₃, F₃, hm₃, hP', ?_, by simp; omega, by simp; omega, by simp, fun b o b1 b2 b3 e => hk₃ b o (up₂ b o b1 b3 (hk b o b1 b2 b3 e))⟩
      have : (vs ++ [v]).filter p = vs.filter p := by simp [hpv]
      rw [this]
      exact hF₃ h₃ fun _ _ _ _ _ e => e
    | true =>
      refine wpAny_bind (wpAny_bind (wpAny_mono (helt vs.length v h₃ tk₃ hPv hpv F₃) (fun y s₄ h₄ => ?_) fun _ _ x => x.elim))
      obtain ⟨h₄, tk₄, rfl, hk₄, hFy⟩ := h₄
      have hacc₄ : h₄.PlainList D (ys₀ ++ ys) := hacc₃.at fun o e => hk₄ _ o e
      refine wpAny_bind (wpAny_list_append_plain hacc₄ (fun h₅ hacc₅ hs₅ => ?_) (by simp only [Array.size_append]; omega))
      refine wpAny_pure (wpAny_pure ⟨rfl, n + 1 - (vs.length + 1), by omega, h₅, tk₄, _, ys.push y, vs ++ [v], rfl, ?_, by simpa using hacc₅, ?_, hm₃, hP', ?_, by simp; omega, by simp; omega, by simp, ?_⟩)
      · have := W.frame _ _ h₅ hst₃ fun b hb o e => hs₅.extBut b o (fun h => hDf (h ▸ hb)) (hk₄ b o e)
        simpa using this
      · have F₄ : Fr hB cenv.locals h₄ _ := F₃.keeps hk₄
        exact ⟨F₄.ns.at' fun o e => hs₅.extBut _ o (Ne.symm hDC) e, fun b o e => hs₅.extBut b o (hB1 b o e).2.1 (F₄.keep b o e), F₄.above⟩
      · have : (vs ++ [v]).filter p = vs.filter p ++ [v] := by simp [hpv]
        rw [this, Array.toList_push]
        refine Paired.snoc (hF₃ h₅ fun b o b1 b2 b3 e => hs₅.extBut b o b2 (hk₄ b o e)) fun hh hhh => hFy hh (fun b o e => ?_) fun b o hn₃ e => ?_
        · have q := hB1 b o e
          exact hhh b o q.1 q.2.1 q.2.2.1 (hs₅.extBut b o q.2.1 (hk₄ b o (F₃.keep b o e)))
        · have b1 : b ≠ cenv.locals := fun q => by
            obtain ⟨o', _, _, ho', _⟩ := F₃.ns
            rw [q, ho'] at hn₃; cases hn₃
          have b2 : b ≠ D := fun q => by
            obtain ⟨k', ho'⟩ := hacc₃
            rw [q, ho'] at hn₃; cases hn₃
          have b3 : b ≠ I := fun q => by
            obtain ⟨o', ho'⟩ := hlive _ _ hst₃
            rw [q, ho'] at hn₃; cases hn₃
          exact hhh b o b1 b2 b3 (hs₅.extBut b o b2 e)
      · exact fun b o b1 b2 b3 e => hs₅.extBut b o b2 (hk₄ b o (hk₃ b o (up₂ b o b1 b3 (hk b o b1 b2 b3 e))))
  · have hin : vs.length = n := by omega
    have hst'' : St n H := hin ▸ hst'
    refine W.done _ _ _ hst'' fun h₁ tk₁ hk₁ => wpAny_pure ?_
    have hk₁' : ∀ b o, b ≠ I → H.get? b = some o → h₁.get? b = some o := fun b o hb e => hk₁ b o (fun q => hb (List.mem_singleton.mp q)) e
    refine hR h₁ tk₁ m' ys vs ⟨F'.ns.at' fun o e => hk₁' _ o hCI e, fun b o e => hk₁' b o (hB1 b o e).2.2.1 (F'.keep b o e), F'.above⟩ hm' (hacc'.at fun o e => hk₁' _ o hDI e) hin hP ?_ fun b o b1 b2 b3 e => hk₁' b o b3 (hk b o b1 b2 b3 e)
    exact Paired.imp (fun v y q hh hhh => q hh fun b o b1 b2 b3 e => hhh b o b1 b2 b3 (hk₁' b o b3 e)) hF

/-- a comprehension's block, ready to run over the iterator `it`; Fin: what is wanted at its end of the list at D -/
inductive CompAt (prog : Program) (w : World) (A : Around) (env : Env) (scope : Scope) (cl : List (Str × Addr)) (x : Str) (ifs : List Expr) (elt : Expr) (Fin : Heap → Shared → Value → Prop) (it : Value) (s₂ : Shared) : Prop
  | mk (s₁ : Shared) (oI : Obj) (fp : List Addr) (n : Nat) (P : Nat → Value → Prop) (St : Nat → Heap → Prop) (p : Value → Bool) (F : Value → Value → Heap → Prop) (h09 : it = .ref s₁.heap.objs.size) (h19 : s₂ = { s₁ with heap := s₁.heap.push oI }) (h29 : Walks prog w A s₁.heap.objs.size fp [s₁.heap.objs.size] n P St) (h39 : (∀ i h, St i h → ∃ o, h.get? s₁.heap.objs.size = some o)) (h49 : (∀ b ∈ fp, b ≤ s₁.heap.objs.size)) (h59 : St 0 (s₁.heap.push oI)) (h69 : n ≤ sizeLine) (h79 : (∀ i v C h₂ tk₂, P i v → Fr s₁.heap C h₂ (fun y => if y = x then some v else none) → wpAny (model prog w) A (tests ifs (compEnvC scope cl C env)) (fun ok s₃ => ok = p v ∧ Keeps { s₁ with heap := h₂, toks := tk₂ } s₃) (fun _ _ => False) { s₁ with heap := h₂, toks := tk₂ })) (h89 : (∀ i v C h₂ tk₂, P i v → p v = true → Fr s₁.heap C h₂ (fun y => if y = x then some v else none) → wpAny (model prog w) A (eval elt (compEnvC scope cl C env)) (EltPost s₁.heap s₁ h₂ F v) (fun _ _ => False) { s₁ with heap := h₂, toks := tk₂ })) (h99 : (∀ D h' tk ys (vs : List Value), Kp s₁.heap h' → s₁.heap.get? D = none → h'.PlainList D ys → vs.length = n → (∀ j v, vs[j]? = some v → P j v) → Paired (fun v y => F v y h') (vs.filter p) ys.toList → Fin s₁.heap { s₁ with heap := h', toks := tk } (.ref D))) : CompAt prog w A env scope cl x ifs elt Fin it s₂

theorem comp_block {elt iter : Expr} {x : Str} {px : Pos} {ifs : List Expr} {scope : Scope} {cl : List (Str × Addr)} {pos : Pos} {env : Env} {it : Value} {s₂ : Shared} {Fin : Heap → Shared → Value → Prop} {RR : Value → Addr → Result → Shared → Prop}
    (h : CompAt prog w A env scope cl x ifs elt Fin it s₂) (hcell : ∀ y ∈ scope.names, y.2 ≠ .cell) (hkind : scope.kind = .function) (hx : scope.names.lookup x = some .local)
    (hRR : ∀ hB D C h' tk m', hB.get? C = none → C ≠ D → h'.Ns C m' → Kp hB h' → (∀ h'' tk', (∀ b o, b ≠ C → h'.get? b = some o → h''.get? b = some o) → Fin hB { s₂ with heap := h'', toks := tk' } (.ref D)) → RR (.ref D) C (.ok .next) { s₂ with heap := h', toks := tk }) :
    wpAny (model prog w) A (newList []) (fun acc s₃ => wpAny (model prog w) A (newFunctionEnv scope env.globals cl [] env.qual none .none (some env)) (fun cenv s₄ =>
      codeAny (model prog w) A (.compStart (.ListComp elt [⟨.Name x px, iter, ifs, 0⟩] scope pos) 0 it acc { cenv with scope := relabel scope env }) (RR acc cenv.locals) s₄) (fun _ _ => False) s₃) (fun _ _ => False) s₂ := by
  obtain ⟨s₁, oI, fp, n, P, St, p, F, rfl, rfl, W, hlive, hfp, hst, hsz, htests, helt, hfin⟩ := h
  refine wpAny_newObj_type (wpAny_newFunctionEnv hcell (by intro y hy; simp at hy) (fun h₁ hns₁ hsb₁ => ?_) hkind)
  dsimp only at hns₁ hsb₁ ⊢
  generalize hH1 : s₁.heap.push oI = H1 at hns₁ hsb₁ hst ⊢
  have hD : H1.objs.size = s₁.heap.objs.size + 1 := by rw [← hH1, Heap.size_push]
  generalize hH2 : H1.push { cls := .type "list", dict := none, data := .seq ([] : List Value).toArray } = H2 at hns₁ hsb₁ ⊢
  have hC : H2.objs.size = s₁.heap.objs.size + 2 := by rw [← hH2, Heap.size_push, hD]
  have hDC : H1.objs.size ≠ H2.objs.size := by omega
  have old1 : ∀ b o, H1.get? b = some o → h₁.get? b = some o := fun b o e => by
    have hb := Heap.lt_size e
    exact hsb₁.extBut b o (ltLe hb (by omega)) (Heap.get?_push_of_some _ (hH2 ▸ Heap.get?_push_of_some _ e))
  have old : ∀ b o, s₁.heap.get? b = some o → h₁.get? b = some o := fun b o e => old1 b o (hH1 ▸ Heap.get?_push_of_some _ e)
  have hacc : h₁.PlainList H1.objs.size #[] := ⟨_, hsb₁.extBut _ _ hDC (Heap.get?_push_of_some _ (hH2 ▸ Heap.get?_push_size _ rfl))⟩
  have hst₁ : St 0 h₁ := W.frame _ _ _ hst fun b _ o e => old1 b o e
  have fresh : ∀ a, s₁.heap.objs.size ≤ a → s₁.heap.get? a = none := fun a ha => by
    cases e : s₁.heap.get? a with
    | none => rfl
    | some o' => exact absurd (Heap.lt_size e) (Nat.not_lt.mpr ha)
  have loop : ∀ s₃ : Shared, s₃ = { s₁ with heap := h₁, toks := s₁.toks + ([] : List (Str × Value)).length } →
      codeAny (model prog w) A (.compLoop (.ListComp elt [⟨.Name x px, iter, ifs, 0⟩] scope pos) 0 (.ref s₁.heap.objs.size) (.ref H1.objs.size) (compEnvC scope cl H2.objs.size env))
        (RR (.ref H1.objs.size) H2.objs.size) s₃ := by
    rintro s₃ rfl
    refine compLoop_K (iter := iter) (px := px) (x := x) (ifs := ifs) (C := H2.objs.size) (hB := s₁.heap) (ys₀ := #[]) rfl W p F hlive rfl (lookup_relabel_local hx) (by simp [compEnvC, relabel, hkind]) hDC (fun q => leLt (hfp _ q) (by omega) rfl) (fun q => leLt (hfp _ q) (by omega) rfl)
      (fun b o e => ?_) (by omega) hst₁ hacc hns₁ (fun i v h₂ tk₂ hv F₂ => htests i v _ h₂ tk₂ hv F₂) (fun i v h₂ tk₂ hv hpv F₂ => helt i v _ h₂ tk₂ hv hpv F₂) ?_ (by simpa using hsz)
    · have hb := Heap.lt_size e
      exact ⟨ltLe hb (by omega), ltLe hb (by omega), ltLe hb (Nat.le_refl _), old b o e⟩
    · intro h' tk m' ys vs F' hm' hpl hlen hP hPF hk
      refine hRR s₁.heap H1.objs.size H2.objs.size h' tk m' (fresh _ (by omega)) (Ne.symm hDC) F'.ns F'.keep fun h'' tk' hk'' => ?_
      refine hfin _ h'' tk' ys vs (fun b o e => ?_) (fresh _ (by omega)) ?_ hlen hP (Paired.imp (fun v y q => q h'' fun b o b1 _ _ e => hk'' b o b1 e) hPF)
      · have hb := Heap.lt_size e
        exact hk'' b o (ltLe hb (by omega)) (F'.keep b o e)
      · have : h'.PlainList H1.objs.size ys := by simpa using hpl
        exact this.at fun o e => hk'' _ o hDC e
  exact codeAny_compStart_list (loop _ rfl) (W.self 0 _ _ _ hst₁ (loop _ rfl))

theorem comp_eval {elt iter : Expr} {x : Str} {px : Pos} {ifs : List Expr} {scope : Scope} {cl : List (Str × Addr)} {pos : Pos} {env : Env} {Q : Value → Shared → Prop}
    (hclos : closureFor scope env = pure cl) (hcell : ∀ y ∈ scope.names, y.2 ≠ .cell) (hkind : scope.kind = .function) (hnames : ∀ z ∈ scope.names, z.2 = .local → scope.names.lookup z.1 = some .local) (hx : scope.names.lookup x = some .local)
    (h : wpAny (model prog w) A (eval iter env) (fun xv s₁ => wpAny (model prog w) A (pyIter xv) (fun it s₂ => CompAt prog w A env scope cl x ifs elt (fun _ s' v => Q v s') it s₂) (fun _ _ => False) s₁) (fun _ _ => False) s)
    (hs : ∀ x, foldedSetIterable iter env x = pure x) :
    wpAny (model prog w) A (eval (.ListComp elt [⟨.Name x px, iter, ifs, 0⟩] scope pos) env) Q (fun _ _ => False) s := by
  rw [eval_ListComp]
  refine wpAny_comprehension_free (use := none) rfl hs hclos hkind hnames (wpAny_mono h (fun xv s₁ h₁ => wpAny_mono h₁ (fun it s₂ h₂ => ?_) fun _ _ e => e) fun _ _ e => e)
  refine comp_block (RR := fun acc C => compPost (model prog w) A (fun _ _ => False) none Q acc C) h₂ hcell hkind hx ?_
  intro hB D C h' tk m' hC hCD hn hk hfin
  exact ⟨m', hn, fun h'' hs'' => hfin h'' tk fun b o hb e => hs''.extBut b o hb e⟩

/-- y = [..]: the list is stored ahead of the block's end -/
inductive FinA (h₀ : Heap) (L : Addr) (t : Str) (Q : Flow → Shared → Prop) (hB : Heap) (s' : Shared) (v : Value) : Prop
  | mk (m : Str → Option Value) (h09 : Fr h₀ L hB m) (h19 : ∀ hF tk, Fr h₀ L hF (fun z => if z = t then some v else m z) → (∀ b o, b ≠ L → s'.heap.get? b = some o → hF.get? b = some o) → Q .next { s' with heap := hF, toks := tk }) : FinA h₀ L t Q hB s' v

theorem comp_assign {elt iter : Expr} {x t : Str} {px pt spos : Pos} {ifs : List Expr} {scope : Scope} {cl : List (Str × Addr)} {pos : Pos} {env : Env} {Q : Flow → Shared → Prop} {h₀ : Heap} {L : Addr}
    (hsw : swapsWith (.ListComp elt [⟨.Name x px, iter, ifs, 0⟩] scope pos) (some (.Name t pt)) spos.line env = pure true)
    (hclos : closureFor scope env = pure cl) (hcell : ∀ y ∈ scope.names, y.2 ≠ .cell) (hkind : scope.kind = .function) (hnames : ∀ z ∈ scope.names, z.2 = .local → scope.names.lookup z.1 = some .local) (hx : scope.names.lookup x = some .local)
    (hL : env.locals = L) (ht : env.kindOf t = some .local) (hp : (env.scope.kind == .class || (env.scope.kind == .module && env.locals != env.globals)) = false)
    (h : wpAny (model prog w) A (eval iter env) (fun xv s₁ => wpAny (model prog w) A (pyIter xv) (fun it s₂ => CompAt prog w A env scope cl x ifs elt (FinA h₀ L t Q) it s₂) (fun _ _ => False) s₁) (fun _ _ => False) s)
    (hs : ∀ x, foldedSetIterable iter env x = pure x) :
    wpAny (model prog w) A (exec (.Assign [.Name t pt] (.ListComp elt [⟨.Name x px, iter, ifs, 0⟩] scope pos) spos) env) Q (fun _ _ => False) s := by
  subst hL
  rw [exec_Assign_Name_used _ _ _ _ hsw]
  refine wpAny_bind (wpAny_standAt (wpAny_bind ?_))
  show wpAny _ A (do let _ ← comprehension (.ListComp elt [⟨.Name x px, iter, ifs, 0⟩] scope pos) scope env _ (newList []) false (eval iter env) (some (assign (.Name t pt) env))) _ _ s
  refine wpAny_bind (wpAny_mono (wpAny_comprehension_free (use := some (assign (.Name t pt) env)) (Q := fun _ s' => Q .next s') rfl hs hclos hkind hnames
    (wpAny_mono h (fun xv s₁ h₁ => wpAny_mono h₁ (fun it s₂ h₂ => ?_) fun _ _ e => e) fun _ _ e => e)) (fun _ s' hq => wpAny_pure (wpAny_pure hq)) fun _ _ e => e)
  refine comp_block (RR := fun acc C => compPost (model prog w) A (fun _ _ => False) (some (assign (.Name t pt) env)) (fun _ s' => Q .next s') acc C) h₂ hcell hkind hx ?_
  intro hB D C h' tk m' hC hCD hn hk hfin
  obtain ⟨mL, FL, hq⟩ := hfin (h'.hide C) tk fun b o hb e => (Heap.hide_ne h' hb).trans e
  have hLC : env.locals ≠ C := by
    rintro e
    obtain ⟨o, _, _, ho, _⟩ := FL.ns
    rw [e, hC] at ho; cases ho
  have F' := FL.keeps hk
  show wpAny _ A (assign (.Name t pt) env (.ref D)) _ _ _
  refine wpAny_assign_Name (wpAny_storeName_local ht F'.ns (fun h₂ hn₂ hs₂ => ?_) hp)
  refine ⟨m', hn.sameBut hs₂ (Ne.symm hLC), fun h₃ hs₃ => ?_⟩
  have F₂ := F'.set hn₂ hs₂
  refine hq h₃ _ ⟨F₂.ns.sameBut hs₃ hLC, fun b o e => ?_, F₂.above⟩ fun b o hb e => ?_
  · refine hs₃.extBut b o ?_ (F₂.keep b o e)
    rintro rfl
    have := FL.keep _ _ e
    rw [hC] at this; cases this
  · have hbC : b ≠ C := by
      rintro rfl
      rw [Heap.hide_self] at e; cases e
    exact hs₃.extBut b o hbC (hs₂.extBut b o hb (Heap.of_hide e))

theorem tests_nil {env : Env} {E : Value → Shared → Prop} : wpAny (model prog w) A (tests [] env) (fun ok s₃ => ok = true ∧ Keeps s s₃) E s :=
  wpAny_pure ⟨rfl, s.heap, s.toks, rfl, fun _ _ e => e⟩
theorem tests_one {env : Env} {c : Expr} {b : Bool} {E : Value → Shared → Prop} (h : wpAny (model prog w) A (isTrue c env (eval c env)) (fun ok s₃ => ok = b ∧ Keeps s s₃) E s) : wpAny (model prog w) A (tests [c] env) (fun ok s₃ => ok = b ∧ Keeps s s₃) E s :=
  wpAny_bind (wpAny_bind (wpAny_mono h (fun ok s₃ h₃ => wpAny_pure (wpAny_pure h₃)) fun _ _ x => x))

theorem compAt_list {elt : Expr} {x : Str} {ifs : List Expr} {scope : Scope} {cl : List (Str × Addr)} {env : Env} {Fin : Heap → Shared → Value → Prop} {l : Addr} {items : Array Value} {E : Value → Shared → Prop} (p : Value → Bool) (F : Value → Value → Heap → Prop)
    (hh : A.handled = none) (hl : s.heap.IsList l items) (hsz : items.size ≤ sizeLine)
    (htests : ∀ (i : Nat) v C h₂ tk₂, items[i]? = some v → Fr s.heap C h₂ (fun y => if y = x then some v else none) → wpAny (model prog w) A (tests ifs (compEnvC scope cl C env)) (fun ok s₃ => ok = p v ∧ Keeps { s with heap := h₂, toks := tk₂ } s₃) (fun _ _ => False) { s with heap := h₂, toks := tk₂ })
    (helt : ∀ (i : Nat) v C h₂ tk₂, items[i]? = some v → p v = true → Fr s.heap C h₂ (fun y => if y = x then some v else none) → wpAny (model prog w) A (eval elt (compEnvC scope cl C env)) (EltPost s.heap s h₂ F v) (fun _ _ => False) { s with heap := h₂, toks := tk₂ })
    (hfin : ∀ D h' tk ys, Kp s.heap h' → s.heap.get? D = none → h'.PlainList D ys → Paired (fun v y => F v y h') (items.toList.filter p) ys.toList → Fin s.heap { s with heap := h', toks := tk } (.ref D)) :
    wpAny (model prog w) A (pyIter (.ref l)) (fun it s₂ => CompAt prog w A env scope cl x ifs elt Fin it s₂) E s := by
  obtain ⟨ol, hol, _⟩ := id hl
  have hlt : l < s.heap.objs.size := Heap.lt_size hol
  have hne : l ≠ s.heap.objs.size := Nat.ne_of_lt hlt
  refine wpAny_pyIter_list hl ⟨s, _, _, _, _, _, p, F, rfl, rfl, Walks.list hh s.heap.objs.size l hne items, (fun i h hs => let ⟨o, ho, _⟩ := hs.1; ⟨o, ho⟩), ?_, ⟨⟨_, Heap.get?_push_size _ rfl, rfl, rfl⟩, hl.at fun o e => Heap.get?_push_of_some _ e⟩, hsz, htests, helt, ?_⟩
  · intro b hb
    rcases List.mem_cons.mp hb with e | hm
    · rw [e]; exact Nat.le_refl _
    · rw [List.mem_singleton.mp hm]; exact Nat.le_of_lt hlt
  · intro D h' tk ys vs hk hD hpl hlen hP hPF
    have e : vs = items.toList := by
      refine List.ext_getElem? fun j => ?_
      cases hj : vs[j]? with
      | some v => rw [Array.getElem?_toList]; exact (hP j v hj).symm
      | none =>
        have := List.getElem?_eq_none_iff.mp hj
        exact (List.getElem?_eq_none_iff.mpr (by rw [Array.length_toList]; omega)).symm
    subst e
    exact hfin D h' tk ys hk hD hpl hPF

theorem compAt_range {elt : Expr} {x : Str} {ifs : List Expr} {scope : Scope} {cl : List (Str × Addr)} {env : Env} {Fin : Heap → Shared → Value → Prop} {r : Addr} {a b c : Int} {t u v : Tok} {n : Nat} {E : Value → Shared → Prop} (p : Value → Bool) (F : Value → Value → Heap → Prop)
    (hh : A.handled = none) (hr : IsRange s.heap r a b c t u v) (hsmall : Builtin.Range.small a b c = true) (hn : Builtin.Range.rangeSize a b c = (n : Int)) (hsz : n ≤ sizeLine)
    (htests : ∀ (i : Nat) t' C h₂ tk₂, i < n → Fr s.heap C h₂ (fun y => if y = x then some (Value.int (a + (i : Int) * c) t') else none) → wpAny (model prog w) A (tests ifs (compEnvC scope cl C env)) (fun ok s₃ => ok = p (Value.int (a + (i : Int) * c) t') ∧ Keeps { s with heap := h₂, toks := tk₂ } s₃) (fun _ _ => False) { s with heap := h₂, toks := tk₂ })
    (helt : ∀ (i : Nat) t' C h₂ tk₂, i < n → p (Value.int (a + (i : Int) * c) t') = true → Fr s.heap C h₂ (fun y => if y = x then some (Value.int (a + (i : Int) * c) t') else none) → wpAny (model prog w) A (eval elt (compEnvC scope cl C env)) (EltPost s.heap s h₂ F (Value.int (a + (i : Int) * c) t')) (fun _ _ => False) { s with heap := h₂, toks := tk₂ })
    (hfin : ∀ D h' tk ys vs, Kp s.heap h' → s.heap.get? D = none → h'.PlainList D ys → IntsAre vs ((List.range n).map fun (i : Nat) => a + (i : Int) * c) → Paired (fun v y => F v y h') (vs.filter p) ys.toList → Fin s.heap { s with heap := h', toks := tk } (.ref D)) :
    wpAny (model prog w) A (pyIter (.ref r)) (fun it s₂ => CompAt prog w A env scope cl x ifs elt Fin it s₂) E s := by
  have W : Walks prog w A s.heap.objs.size [s.heap.objs.size] [s.heap.objs.size] n (fun i v => i < n ∧ ∃ t, v = Value.int (a + (i : Int) * c) t)
      (fun i h => IsRangeIter h s.heap.objs.size (a + (i : Nat) * c) ((n : Int) - (i : Nat)) c) := (Walks.range hh _ a c n).bound
  refine wpAny_pyIter_range hr hsmall ⟨s, _, _, n, _, _, p, F, rfl, rfl, W, (fun i h hs => ⟨_, hs⟩), ?_, (by show IsRangeIter _ _ _ _ _; rw [hn]; simpa using Heap.get?_push_size _ rfl), hsz, ?_, ?_, ?_⟩
  · intro b hb
    rw [List.mem_singleton.mp hb]; exact Nat.le_refl _
  · rintro i _ C h₂ tk₂ ⟨hi, t', rfl⟩ F₂
    exact htests i t' C h₂ tk₂ hi F₂
  · rintro i _ C h₂ tk₂ ⟨hi, t', rfl⟩ hp F₂
    exact helt i t' C h₂ tk₂ hi hp F₂
  · intro D h' tk ys vs hk hD hpl hlen hP hPF
    refine hfin D h' tk ys vs hk hD hpl ?_ hPF
    clear hPF hpl hD hk
    have key : ∀ (k : Nat) (us : List Value), us.length + k = n → (∀ j v, us[j]? = some v → ∃ t, v = Value.int (a + ((k + j : Nat) : Int) * c) t) → IntsAre us (((List.range n).drop k).map fun (i : Nat) => a + (i : Int) * c) := by
      intro k us
      induction us generalizing k with
      | nil =>
        intro hl _
        rw [List.drop_of_length_le (by simp at hl ⊢; omega)]
        exact .nil
      | cons u us ih =>
        intro hl hj
        simp only [List.length_cons] at hl
        obtain ⟨t', e⟩ := hj 0 u rfl
        have e2 : (List.range n).drop k = k :: (List.range n).drop (k + 1) := by
          have hk : k < (List.range n).length := by simp; omega
          rw [List.drop_eq_getElem_cons hk]
          simp
        rw [e2, e]
        refine .cons _ _ (ih (k + 1) (by omega) fun j v hv => ?_)
        obtain ⟨t2, e3⟩ := hj (j + 1) v hv
        exact ⟨t2, by rw [e3]; congr 3; omega⟩
    have := key 0 vs (by omega) fun j v hv => by
      obtain ⟨_, t', e⟩ := hP j v hv
      exact ⟨t', by rw [e]; simp⟩
    simpa using this
end

section
variable {prog : Program} {w : World} {A : Around} {s : Shared}

theorem turn2 (elt it0 it1 : Expr) (x0 : Str) (p0 : Pos) (t1 : Expr) (scope : Scope) (pos : Pos) (it acc : Value) (env : Env) :
    compTurn (.ListComp elt [⟨.Name x0 p0, it0, [], 0⟩, ⟨t1, it1, [], 0⟩] scope pos) 0 it acc env = (do
      standAt it0.pos
      match ← pyNext it with
      | none => pure (.done .next)
      | some v =>
        letOwnedTupleGo (.Name x0 p0) it v
        assign (.Name x0 p0) env v
        let x ← eval it1 env
        standAt it1.pos
        let x ← foldedSetIterable it1 env x
        let it' ← holding [x] (pyIter x)
        let _ ← runOwn (.compStart (.ListComp elt [⟨.Name x0 p0, it0, [], 0⟩, ⟨t1, it1, [], 0⟩] scope pos) 1 it' acc env) env
        again (.compLoop (.ListComp elt [⟨.Name x0 p0, it0, [], 0⟩, ⟨t1, it1, [], 0⟩] scope pos) 0 it acc env)) := by rfl

theorem start1 {R : Result → Shared → Prop} {elt it1 : Expr} {g0 : Comprehension} {t1 : Expr} {ifs : List Expr} {scope : Scope} {pos : Pos} {it acc : Value} {env : Env}
    (h0 : codeAny (model prog w) A (.compLoop (.ListComp elt [g0, ⟨t1, it1, ifs, 0⟩] scope pos) 1 it acc env) R s)
    (h : wpAny (model prog w) A (pyIter it) (fun it' s' => codeAny (model prog w) A (.compLoop (.ListComp elt [g0, ⟨t1, it1, ifs, 0⟩] scope pos) 1 it' acc env) R s') (fun _ _ => False) s) :
    codeAny (model prog w) A (.compStart (.ListComp elt [g0, ⟨t1, it1, ifs, 0⟩] scope pos) 1 it acc env) R s := by
  refine codeAny_of_tree ?_
  show wpAny _ _ ((compStart (.ListComp elt [g0, ⟨t1, it1, ifs, 0⟩] scope pos) 1 it acc env).onRaise (fun x => do noteFrame x env; standAt theWindowsPlace)) _ _ s
  refine wpAny_notedAt ?_
  unfold compStart
  show wpAny _ _ (ask >>= _) _ _ s
  refine wpAny_bind (wpAny_askSetting (wpAny_ite ?_))
  split
  · first
      | exact wpAny_bind (wpAny_pure (wpAny_pure (And.intro rfl h0)))
      | exact wpAny_pure (And.intro rfl h0)
  · refine wpAny_bind (wpAny_rule ?_)
    show wpAny _ _ (standAt it1.pos >>= _) _ _ s
    exact wpAny_bind (wpAny_standAt (wpAny_bind (wpAny_mono h (fun it' s' h' => wpAny_pure (And.intro rfl h')) fun _ _ x => x.elim)))

/-- the inner iterable's evaluation for the outer item v: a list whose items G tells -/
noncomputable def InPost (s : Shared) (h₂ : Heap) (G : Value → List Value → Prop) (v : Value) (xv : Value) (s₃ : Shared) : Prop :=
  ∃ h' tk' l items, s₃ = { s with heap := h', toks := tk' } ∧ Kp h₂ h' ∧ xv = .ref l ∧ h'.IsList l items ∧ h₂.get? l = none ∧ G v items.toList ∧ items.size ≤ 1000

inductive Inv2 (s : Shared) (D C I : Addr) (hB : Heap) (n : Nat) (P : Nat → Value → Prop) (St : Nat → Heap → Prop) (G : Value → List Value → Prop) (k : Nat) (s' : Shared) : Prop
  | mk (h' : Heap) (tk : Nat) (m' : Str → Option Value) (ys : Array Value) (vs : List Value) (yss : List (List Value)) (h09 : s' = { s with heap := h', toks := tk }) (h19 : St vs.length h') (h29 : h'.PlainList D ys) (h39 : Fr hB C h' m') (h49 : (∀ j v, vs[j]? = some v → P j v)) (h59 : Paired G vs yss) (h69 : ys.toList = yss.flatten) (h79 : ys.size ≤ 1000 * vs.length) (h89 : vs.length ≤ n) (h99 : k = n + 1 - vs.length) (h109 : (∀ b o, b ≠ C → b ≠ D → b ≠ I → s.heap.get? b = some o → h'.get? b = some o)) : Inv2 s D C I hB n P St G k s'

theorem comp2Loop {R : Result → Shared → Prop} {it0 it1 : Expr} {x0 x1 : Str} {p0 p1 pe : Pos} {scope : Scope} {pos : Pos} {cenv : Env} {I D C : Addr} {fp : List Addr} {n : Nat} {P : Nat → Value → Prop} {St : Nat → Heap → Prop} {m : Str → Option Value} {hB : Heap}
    (hh : A.handled = none)
    (W : Walks prog w A I fp [I] n P St) (G : Value → List Value → Prop)
    (hlive : ∀ i h, St i h → ∃ o, h.get? I = some o)
    (hC : cenv.locals = C) (hx0 : cenv.kindOf x0 = some .local) (hx1 : cenv.kindOf x1 = some .local) (hk1 : cenv.scope.kind = .function) (hd1 : (x1 == ("__debug__" : Str)) = false)
    (hDC : D ≠ C) (hfp : ∀ b ∈ fp, b = I ∨ ∃ o, hB.get? b = some o) (hCI : C ≠ I) (hDI : D ≠ I) (hB1 : ∀ b o, hB.get? b = some o → b ≠ C ∧ b ≠ D ∧ b ≠ I ∧ s.heap.get? b = some o) (hB2 : hB.objs.size ≤ C)
    (hst : St 0 s.heap) (hacc : s.heap.PlainList D #[]) (hn : s.heap.Ns C m) (hs1 : ∀ x, foldedSetIterable it1 cenv x = pure x)
    (hin : ∀ i v (m' : Str → Option Value) h₂ tk₂, P i v → Fr hB C h₂ (fun y => if y = x0 then some v else m' y) → wpAny (model prog w) A (eval it1 cenv) (InPost s h₂ G v) (fun _ _ => False) { s with heap := h₂, toks := tk₂ })
    (hR : ∀ h' tk m' ys (vs : List Value) (yss : List (List Value)), Fr hB C h' m' → h'.PlainList D ys → vs.length = n → (∀ j v, vs[j]? = some v → P j v) → Paired G vs yss → ys.toList = yss.flatten →
      (∀ b o, b ≠ C → b ≠ D → b ≠ I → s.heap.get? b = some o → h'.get? b = some o) → R (.ok .next) { s with heap := h', toks := tk })
    (hsz : n ≤ 1000) :
    codeAny (model prog w) A (.compLoop (.ListComp (.Name x1 pe) [⟨.Name x0 p0, it0, [], 0⟩, ⟨.Name x1 p1, it1, [], 0⟩] scope pos) 0 (.ref I) (.ref D) cenv) R s := by
  subst hC
  have hp : (cenv.scope.kind == .class || (cenv.scope.kind == .module && cenv.locals != cenv.globals)) = false := by rw [hk1]; rfl
  have h24 : sizeLine = 16777216 := by decide
  refine codeAny_loop (M := model prog w) rfl
    (Inv2 s D cenv.locals I hB n P St G) ?_ (n + 1)
    ⟨s.heap, s.toks, m, #[], [], [], rfl, hst, hacc, ⟨hn, fun b o e => (hB1 b o e).2.2.2, hB2⟩, by simp, .nil, rfl, Nat.zero_le _, Nat.zero_le _, rfl, fun _ _ _ _ _ e => e⟩
  rintro k s' ⟨H, tk, m', ys, vs, yss, rfl, hst', hacc', F', hP, hG, hfl, hle, hi, rfl, hk⟩
  show wpAny _ A ((compTurn (.ListComp (.Name x1 pe) [⟨.Name x0 p0, it0, [], 0⟩, ⟨.Name x1 p1, it1, [], 0⟩] scope pos) 0 (.ref I) (.ref D) cenv).onRaise (fun x => do noteFrame x cenv; theTreesLotGoes x)) _ _ _
  refine wpAny_noted ?_
  rw [turn2]
  refine wpAny_bind (wpAny_standAt (wpAny_bind ?_))
  by_cases hlt : vs.length < n
  · refine W.item vs.length _ _ _ hlt hst' fun v h₁ tk₁ hPv hst₁ hk₁ => ?_
    have hk₁' : ∀ b o, b ≠ I → H.get? b = some o → h₁.get? b = some o := fun b o hb e => hk₁ b o (fun q => hb (List.mem_singleton.mp q)) e
    have F₁ : Fr hB cenv.locals h₁ m' := ⟨F'.ns.at' fun o e => hk₁' _ o hCI e, fun b o e => hk₁' b o (hB1 b o e).2.2.1 (F'.keep b o e), F'.above⟩
    refine wpAny_bind (wpAny_pure (wpAny_bind ?_))
    refine wpAny_assign_Name (wpAny_storeName_local hx0 F₁.ns (fun h₂ hn₂ hs₂ => ?_) hp)
    have F₂ := F₁.set hn₂ hs₂
    have up₂ : ∀ b o, b ≠ cenv.locals → b ≠ I → H.get? b = some o → h₂.get? b = some o := fun b o hbC hbI e => hs₂.extBut b o hbC (hk₁' b o hbI e)
    have hI₂ : ∀ o, h₁.get? I = some o → h₂.get? I = some o := fun o e => hs₂.extBut I o (Ne.symm hCI) e
    have hP' : ∀ j u, (vs ++ [v])[j]? = some u → P j u := fun j u hj => by
      rcases Nat.lt_trichotomy j vs.length with h | h | h
      · exact hP j u (by rwa [List.getElem?_append_left h] at hj)
      · subst h; simp at hj; subst hj; exact hPv
      · have hnone : (vs ++ [v])[j]? = none := List.getElem?_eq_none (by rw [List.length_append, List.length_singleton]; omega)
        rw [hnone] at hj; cases hj
    refine wpAny_bind (wpAny_mono (hin vs.length v m' h₂ (tk₁ + 1) hPv F₂) (fun xv s₃ h₃ => ?_) fun _ _ x => x.elim)
    obtain ⟨h₃, tk₃, l, items, rfl, hk₃, rfl, hl, hnew, hGv, hbd⟩ := h₃
    refine wpAny_bind (wpAny_standAt (wpAny_bind (wpAny_of_eq (hs1 _) (wpAny_bind (wpAny_holding ?_)))))
    have hacc₃ : h₃.PlainList D ys := hacc'.at fun o e => hk₃ _ o (up₂ D o hDC hDI e)
    have F₃ := F₂.keeps hk₃
    obtain ⟨ol, hol, _⟩ := id hl
    have hlt3 : l < h₃.objs.size := Heap.lt_size hol
    have hne3 : l ≠ h₃.objs.size := Nat.ne_of_lt hlt3
    refine wpAny_pyIter_list (s := { s with heap := h₃, toks := tk₃ }) hl (wpAny_bind ?_)
    refine wpAny_runOwn ?_
    -- the inner loop
    have hD3 : D < h₃.objs.size := by obtain ⟨k', ho'⟩ := hacc₃; exact Heap.lt_size ho'
    have hC3 : cenv.locals < h₃.objs.size := F₃.ns.lt
    have hI3 : ∃ o, h₃.get? I = some o := by
      obtain ⟨o, ho⟩ := hlive _ _ hst₁
      exact ⟨o, hk₃ _ _ (hI₂ o ho)⟩
    have hII : I ≠ h₃.objs.size := by obtain ⟨o, ho⟩ := hI3; exact Nat.ne_of_lt (Heap.lt_size ho)
    have hlC : l ≠ cenv.locals := by
      rintro rfl
      obtain ⟨o', _, _, ho', _⟩ := F₂.ns
      rw [ho'] at hnew; cases hnew
    have hlD : l ≠ D := by
      rintro rfl
      obtain ⟨k', ho'⟩ := hacc'
      rw [up₂ _ _ hDC hDI ho'] at hnew; cases hnew
    have W' := Walks.list (prog := prog) (w := w) hh h₃.objs.size l hne3 items
    have inner : ∀ (Rin : Result → Shared → Prop), (∀ s', Inv2 s D cenv.locals I hB n P St G (n + 1 - (vs.length + 1)) s' → Rin (.ok .next) s') → codeAny (model prog w) (A.mark none) (.compLoop (.ListComp (.Name x1 pe) [⟨.Name x0 p0, it0, [], 0⟩, ⟨.Name x1 p1, it1, [], 0⟩] scope pos) 1 (.ref h₃.objs.size) (.ref D) cenv)
        Rin { s with heap := h₃.push { cls := .type "list_iterator", data := .fields #[.ref l, .int 0 0] }, toks := tk₃ } := by
      intro Rin hRin
      refine compLoop_K (A := A) (iter := it1) (px := p1) (x := x1) (ifs := []) (hB := hB) (ys₀ := ys) rfl W' (fun _ => true) (fun v y _ => y = v) (fun i h hs => let ⟨o, ho, _⟩ := hs.1; ⟨o, ho⟩) rfl hx1 hp hDC (fun q => ?_) (fun q => ?_) (fun b o e => ?_) hB2
        ⟨⟨_, Heap.get?_push_size _ rfl, rfl, rfl⟩, hl.at fun o e => Heap.get?_push_of_some _ e⟩ (hacc₃.at fun o e => Heap.get?_push_of_some _ e) (F₃.push _).ns (fun i u h₄ tk₄ _ _ => tests_nil) ?_ ?_ (by rw [h24]; have : ys.size ≤ 1000 * 1000 := Nat.le_trans hle (Nat.mul_le_mul_left _ (by omega)); omega)
      · rcases List.mem_cons.mp q with e | hm
        · exact absurd hD3 (e ▸ Nat.lt_irrefl _)
        · exact hlD (List.mem_singleton.mp hm).symm
      · rcases List.mem_cons.mp q with e | hm
        · exact absurd hC3 (e ▸ Nat.lt_irrefl _)
        · exact hlC (List.mem_singleton.mp hm).symm
      · have q := hB1 b o e
        have e3 := F₃.keep b o e
        exact ⟨q.1, q.2.1, Nat.ne_of_lt (Heap.lt_size e3), Heap.get?_push_of_some _ e3⟩
      · intro i u h₄ tk₄ _ _ F₄
        refine wpAny_Name (wpAny_loadName_local hk1 hx1 F₄.ns (v := u) (if_pos rfl) ?_) hd1
        exact ⟨h₄, tk₄, rfl, Kp.refl _, fun _ _ _ => rfl⟩
      · intro h' tk' m'' ys' us F'' hm'' hpl hlen hPu hPF hku
        refine hRin _ ⟨h', tk', m'', ys ++ ys', vs ++ [v], yss ++ [ys'.toList], rfl, ?_, hpl, F'', hP', ?_, ?_, ?_, by simp; omega, by simp, ?_⟩
        · have := W.frame _ _ h' hst₁ fun b hb o e => ?_
          · simpa using this
          · rcases hfp b hb with rfl | ⟨o', ho'⟩
            · exact hku b o (Ne.symm hCI) (Ne.symm hDI) hII (Heap.get?_push_of_some _ (hk₃ _ _ (hI₂ o e)))
            · have q := F''.keep b o' ho'
              have q₁ := F₁.keep b o' ho'
              rw [e] at q₁
              rw [q, ← q₁]
        · refine Paired.snoc hG ?_
          have e1 : us = items.toList := by
            refine List.ext_getElem? fun j => ?_
            cases hj : us[j]? with
            | some u => rw [Array.getElem?_toList]; exact (hPu j u hj).symm
            | none =>
              have := List.getElem?_eq_none_iff.mp hj
              exact (List.getElem?_eq_none_iff.mpr (by rw [Array.length_toList]; omega)).symm
          have e2 : ys'.toList = us := by
            have : us.filter (fun _ => true) = us := by simp
            rw [this] at hPF
            clear hPu hlen e1
            have key : ∀ {a b : List Value}, Paired (fun v y => ∀ hh : Heap, (∀ b o, b ≠ cenv.locals → b ≠ D → b ≠ h₃.objs.size → h'.get? b = some o → hh.get? b = some o) → y = v) a b → b = a := by
              intro a b hab
              induction hab with
              | nil => rfl
              | cons h1 _ ih => rw [ih, h1 h' fun _ _ _ _ _ e => e]
            exact key hPF
          rw [e2, e1]; exact hGv
        · simp [hfl]
        · have e2 : ys'.size ≤ us.length := by
            have q := hPF.length
            have q2 : (us.filter fun _ => true).length = us.length := by simp
            rw [q2, Array.length_toList] at q
            exact Nat.le_of_eq q.symm
          have e3 : us.length = items.size := hlen
          simp only [Array.size_append, List.length_append, List.length_cons, List.length_nil]
          omega
        · exact fun b o b1 b2 b3 e => by
            have e3 := hk₃ b o (up₂ b o b1 b3 (hk b o b1 b2 b3 e))
            exact hku b o b1 b2 (Nat.ne_of_lt (Heap.lt_size e3)) (Heap.get?_push_of_some _ e3)
    refine start1 (A := A) (inner _ fun s' hs' => wpAny_pure ⟨rfl, _, by omega, hs'⟩) ?_
    exact W'.self 0 _ _ _ ⟨⟨_, Heap.get?_push_size _ rfl, rfl, rfl⟩, hl.at fun o e => Heap.get?_push_of_some _ e⟩ (inner _ fun s' hs' => wpAny_pure ⟨rfl, _, by omega, hs'⟩)
  · have hin' : vs.length = n := by omega
    have hst'' : St n H := hin' ▸ hst'
    refine W.done _ _ _ hst'' fun h₁ tk₁ hk₁ => wpAny_pure ?_
    have hk₁' : ∀ b o, b ≠ I → H.get? b = some o → h₁.get? b = some o := fun b o hb e => hk₁ b o (fun q => hb (List.mem_singleton.mp q)) e
    exact hR h₁ tk₁ m' ys vs yss ⟨F'.ns.at' fun o e => hk₁' _ o hCI e, fun b o e => hk₁' b o (hB1 b o e).2.2.1 (F'.keep b o e), F'.above⟩ (hacc'.at fun o e => hk₁' _ o hDI e) hin' hP hG hfl fun b o b1 b2 b3 e => hk₁' b o b3 (hk b o b1 b2 b3 e)

/-- the comprehension, ready to run over the list xv -/
inductive Comp2At (prog : Program) (w : World) (A : Around) (env : Env) (scope : Scope) (cl : List (Str × Addr)) (x0 : Str) (it1 : Expr) (t : Str) (Q : Flow → Shared → Prop) (h₀ : Heap) (L : Addr) (G : Value → List Value → Prop) (xv : Value) (s₁ : Shared) : Prop
  | mk (l : Addr) (items : Array Value) (m : Str → Option Value) (h09 : xv = .ref l) (h19 : s₁.heap.IsList l items) (h29 : items.size ≤ 1000) (h39 : Fr h₀ L s₁.heap m) (h49 : (∀ (i : Nat) v C (m' : Str → Option Value) h₂ tk₂, items[i]? = some v → Fr s₁.heap C h₂ (fun y => if y = x0 then some v else m' y) → wpAny (model prog w) A (eval it1 (compEnvC scope cl C env)) (InPost s₁ h₂ G v) (fun _ _ => False) { s₁ with heap := h₂, toks := tk₂ })) (h59 : (∀ hF tk D ys yss, Fr h₀ L hF (fun z => if z = t then some (.ref D) else m z) → hF.PlainList D ys → s₁.heap.get? D = none → Paired G items.toList yss → ys.toList = yss.flatten → (∀ b o, b ≠ L → s₁.heap.get? b = some o → hF.get? b = some o) → Q .next { s₁ with heap := hF, toks := tk })) : Comp2At prog w A env scope cl x0 it1 t Q h₀ L G xv s₁

theorem comp2_assign {it0 it1 : Expr} {x0 x1 t : Str} {p0 p1 pe pt spos : Pos} {scope : Scope} {cl : List (Str × Addr)} {pos : Pos} {env : Env} {Q : Flow → Shared → Prop} {h₀ : Heap} {L : Addr} (G : Value → List Value → Prop)
    (hh : A.handled = none)
    (hsw : swapsWith (.ListComp (.Name x1 pe) [⟨.Name x0 p0, it0, [], 0⟩, ⟨.Name x1 p1, it1, [], 0⟩] scope pos) (some (.Name t pt)) spos.line env = pure true)
    (hclos : closureFor scope env = pure cl) (hcell : ∀ y ∈ scope.names, y.2 ≠ .cell) (hkind : scope.kind = .function) (hnames : ∀ z ∈ scope.names, z.2 = .local → scope.names.lookup z.1 = some .local) (hx0 : scope.names.lookup x0 = some .local) (hx1 : scope.names.lookup x1 = some .local) (hd1 : (x1 == ("__debug__" : Str)) = false)
    (hL : env.locals = L) (ht : env.kindOf t = some .local) (hp : (env.scope.kind == .class || (env.scope.kind == .module && env.locals != env.globals)) = false)
    (hs1 : ∀ C x, foldedSetIterable it1 (compEnvC scope cl C env) x = pure x)
    (h : wpAny (model prog w) A (eval it0 env) (fun xv s₁ => Comp2At prog w A env scope cl x0 it1 t Q h₀ L G xv s₁) (fun _ _ => False) s)
    (hs : ∀ x, foldedSetIterable it0 env x = pure x) :
    wpAny (model prog w) A (exec (.Assign [.Name t pt] (.ListComp (.Name x1 pe) [⟨.Name x0 p0, it0, [], 0⟩, ⟨.Name x1 p1, it1, [], 0⟩] scope pos) spos) env) Q (fun _ _ => False) s := by
  subst hL
  rw [exec_Assign_Name_used _ _ _ _ hsw]
  refine wpAny_bind (wpAny_standAt (wpAny_bind ?_))
  show wpAny _ A (do let _ ← comprehension (.ListComp (.Name x1 pe) [⟨.Name x0 p0, it0, [], 0⟩, ⟨.Name x1 p1, it1, [], 0⟩] scope pos) scope env _ (newList []) false (eval it0 env) (some (assign (.Name t pt) env))) _ _ s
  refine wpAny_bind (wpAny_mono (wpAny_comprehension_free (use := some (assign (.Name t pt) env)) (Q := fun _ s' => Q .next s') rfl hs hclos hkind hnames
    (wpAny_mono h (fun xv s₁ h₁ => ?_) fun _ _ e => e)) (fun _ s' hq => wpAny_pure (wpAny_pure hq)) fun _ _ e => e)
  obtain ⟨l, items, m, rfl, hl, hsz, FL, hin, hfin⟩ := h₁
  obtain ⟨ol, hol, _⟩ := id hl
  have hlt : l < s₁.heap.objs.size := Heap.lt_size hol
  have hne : l ≠ s₁.heap.objs.size := Nat.ne_of_lt hlt
  have W := Walks.list (prog := prog) (w := w) hh s₁.heap.objs.size l hne items
  refine wpAny_pyIter_list hl ?_
  refine wpAny_newObj_type (wpAny_newFunctionEnv hcell (by intro y hy; simp at hy) (fun h₁ hns₁ hsb₁ => ?_) hkind)
  dsimp only at hns₁ hsb₁ ⊢
  generalize hH1 : s₁.heap.push { cls := .type "list_iterator", data := .fields #[.ref l, .int 0 0] } = H1 at hns₁ hsb₁ ⊢
  have hD : H1.objs.size = s₁.heap.objs.size + 1 := by rw [← hH1, Heap.size_push]
  generalize hH2 : H1.push { cls := .type "list", dict := none, data := .seq ([] : List Value).toArray } = H2 at hns₁ hsb₁ ⊢
  have hC : H2.objs.size = s₁.heap.objs.size + 2 := by rw [← hH2, Heap.size_push, hD]
  have hDC : H1.objs.size ≠ H2.objs.size := by omega
  have old1 : ∀ b o, H1.get? b = some o → h₁.get? b = some o := fun b o e => by
    have hb := Heap.lt_size e
    exact hsb₁.extBut b o (ltLe hb (by omega)) (Heap.get?_push_of_some _ (hH2 ▸ Heap.get?_push_of_some _ e))
  have old : ∀ b o, s₁.heap.get? b = some o → h₁.get? b = some o := fun b o e => old1 b o (hH1 ▸ Heap.get?_push_of_some _ e)
  have hacc : h₁.PlainList H1.objs.size #[] := ⟨_, hsb₁.extBut _ _ hDC (Heap.get?_push_of_some _ (hH2 ▸ Heap.get?_push_size _ rfl))⟩
  have hst₁ : h₁.IsListIter s₁.heap.objs.size l 0 ∧ h₁.IsList l items := ⟨⟨_, old1 _ _ (hH1 ▸ Heap.get?_push_size _ rfl), rfl, rfl⟩, hl.at fun o e => old _ o e⟩
  have fresh : ∀ a, s₁.heap.objs.size ≤ a → s₁.heap.get? a = none := fun a ha => by
    cases e : s₁.heap.get? a with
    | none => rfl
    | some o' => exact absurd (Heap.lt_size e) (Nat.not_lt.mpr ha)
  have hLs : env.locals < s₁.heap.objs.size := FL.ns.lt
  have loop : ∀ s₃ : Shared, s₃ = { s₁ with heap := h₁, toks := s₁.toks + ([] : List (Str × Value)).length } →
      codeAny (model prog w) A (.compLoop (.ListComp (.Name x1 pe) [⟨.Name x0 p0, it0, [], 0⟩, ⟨.Name x1 p1, it1, [], 0⟩] scope pos) 0 (.ref s₁.heap.objs.size) (.ref H1.objs.size) (compEnvC scope cl H2.objs.size env))
        (compPost (model prog w) A (fun _ _ => False) (some (assign (.Name t pt) env)) (fun _ s' => Q .next s') (.ref H1.objs.size) H2.objs.size) s₃ := by
    rintro s₃ rfl
    refine comp2Loop (C := H2.objs.size) (hB := s₁.heap) hh W G (fun i h hs => let ⟨o, ho, _⟩ := hs.1; ⟨o, ho⟩) rfl (lookup_relabel_local hx0) (lookup_relabel_local hx1) (by simp [compEnvC, relabel, hkind]) hd1 hDC (fun b hb => ?_) (neN (by omega)) (neN (by omega)) (fun b o e => ?_) (by omega) hst₁ hacc hns₁ (hs1 _)
      (fun i v m' h₂ tk₂ hv F₂ => hin i v _ m' h₂ tk₂ hv F₂) ?_ hsz
    · rcases List.mem_cons.mp hb with e | hm
      · exact .inl e
      · exact .inr ⟨ol, (List.mem_singleton.mp hm) ▸ hol⟩
    · have hb := Heap.lt_size e
      exact ⟨ltLe hb (by omega), ltLe hb (by omega), ltLe hb (Nat.le_refl _), old b o e⟩
    · intro h' tk m' ys vs yss F' hpl hlen hP hG hfl hk
      have e : vs = items.toList := by
        refine List.ext_getElem? fun j => ?_
        cases hj : vs[j]? with
        | some v => rw [Array.getElem?_toList]; exact (hP j v hj).symm
        | none =>
          have := List.getElem?_eq_none_iff.mp hj
          exact (List.getElem?_eq_none_iff.mpr (by rw [Array.length_toList]; omega)).symm
      subst e
      have hLC : env.locals ≠ H2.objs.size := ltLe hLs (by omega)
      have FL' := FL.keeps F'.keep
      show wpAny _ A (assign (.Name t pt) env (.ref H1.objs.size)) _ _ _
      refine wpAny_assign_Name (wpAny_storeName_local ht FL'.ns (fun h₂ hn₂ hs₂ => ?_) hp)
      refine ⟨m', F'.ns.sameBut hs₂ (Ne.symm hLC), fun h₃ hs₃ => ?_⟩
      have F₂ := FL'.set hn₂ hs₂
      refine hfin h₃ _ H1.objs.size ys yss ⟨F₂.ns.sameBut hs₃ hLC, fun b o e => ?_, F₂.above⟩ ((hpl.at fun o e => hs₂.extBut _ o (Ne.symm (ltLe hLs (by omega))) e).at fun o e => hs₃.extBut _ o hDC e) (fresh _ (by omega)) hG hfl fun b o hb e => ?_
      · refine hs₃.extBut b o ?_ (F₂.keep b o e)
        have hb := Heap.lt_size (FL.keep _ _ e)
        exact ltLe hb (by omega)
      · have hb2 := Heap.lt_size e
        exact hs₃.extBut b o (ltLe hb2 (by omega)) (hs₂.extBut b o hb (F'.keep b o e))
  exact codeAny_compStart_list (loop _ rfl) (W.self 0 _ _ _ hst₁ (loop _ rfl))
end

/-- a list of ints at l -/
inductive IntsAt (h : Heap) (l : Addr) (ns : List Int) : Prop
  | mk (vs : List Value) (h1 : h.IsList l vs.toArray) (h2 : IntsAre vs ns) : IntsAt h l ns
theorem IntsAt.keeps {h h' : Heap} {l : Addr} {ns : List Int} (x : IntsAt h l ns) (hk : Kp h h') : IntsAt h' l ns := let ⟨vs, a, b⟩ := x; ⟨vs, a.at fun o e => hk _ o e, b⟩
/-- a list of lists of ints at l -/
inductive RowsAt (h : Heap) (l : Addr) (rows : List (List Int)) : Prop
  | mk (items : Array Value) (h1 : h.IsList l items) (h2 : Paired (fun (v : Value) (r : List Int) => ∃ a, v = .ref a ∧ IntsAt h a r) items.toList rows) : RowsAt h l rows
theorem Paired.get {α β : Type} {F : α → β → Prop} {l₁ : List α} {l₂ : List β} (p : Paired F l₁ l₂) : ∀ (i : Nat) a, l₁[i]? = some a → ∃ b, l₂[i]? = some b ∧ F a b := by
  induction p with
  | nil => intro i a e; cases e
  | cons h _ ih =>
    intro i a e
    cases i with
    | zero => exact ⟨_, rfl, Option.some.inj e ▸ h⟩
    | succ i => exact ih i a e

theorem IntsAre.at? {vs : List Value} {ns : List Int} (p : IntsAre vs ns) : ∀ (j : Nat) v, vs[j]? = some v → ∃ n, ns[j]? = some n ∧ ∃ t, v = .int n t := by
  induction p with
  | nil => intro j v e; cases e
  | cons n t _ ih =>
    intro j v e
    cases j with
    | zero => exact ⟨n, rfl, t, (Option.some.inj e).symm⟩
    | succ j => exact ih j v e
theorem Paired.length_eq {α β : Type} {F : α → β → Prop} {l₁ : List α} {l₂ : List β} (h : Paired F l₁ l₂) : l₁.length = l₂.length := PySem.Paired.length h

theorem hiN_len (k : Nat) (h : k ≤ 4095) : (hiN k).length ≤ 2 := by
  rw [hiN_eq]
  by_cases h1 : k ≤ 63
  · rw [if_pos h1]; simp
  · rw [if_neg h1, hiN_eq, if_pos (by omega)]; simp
theorem digsN_len (n : Nat) (h : n ≤ 100000) : (digsN n).length ≤ 3 := by
  unfold digsN
  by_cases h1 : n ≤ 63
  · rw [if_pos h1]; simp
  · rw [if_neg h1]
    have := hiN_len (n / 64) (by omega)
    simp; omega
noncomputable def digs (x : Int) : List Int := digsN x.toNat
noncomputable def rowOct (r : List Int) : List Int := match r.flatMap digs with
  | [] => []
  | d :: ds => (128 + d) :: ds
noncomputable def octetsOf (rows : List (List Int)) : List Int := rows.flatMap rowOct

theorem digs_len (x : Int) (h : 0 ≤ x ∧ x ≤ 100000) : 1 ≤ (digs x).length ∧ (digs x).length ≤ 3 := by
  refine ⟨?_, digsN_len _ (by omega)⟩
  unfold digs digsN
  split <;> simp
theorem flat_len : ∀ (r : List Int), (∀ x ∈ r, 0 ≤ x ∧ x ≤ 100000) → r.length ≤ (r.flatMap digs).length ∧ (r.flatMap digs).length ≤ 3 * r.length
  | [], _ => by simp
  | x :: r, h => by
    have h1 := digs_len x (h x (.head _))
    have h2 := flat_len r fun y hy => h y (.tail _ hy)
    simp only [List.flatMap_cons, List.length_append, List.length_cons]
    omega
theorem rowOct_eq (r : List Int) (h : 0 < (r.flatMap digs).length) : rowOct r = [128 + (r.flatMap digs).getD 0 0] ++ (r.flatMap digs).drop 1 := by
  unfold rowOct
  cases e : r.flatMap digs with
  | nil => rw [e] at h; simp at h
  | cons d ds => simp
theorem rowOct_len (r : List Int) (hb : r ≠ [] ∧ r.length ≤ 10 ∧ ∀ x ∈ r, 0 ≤ x ∧ x ≤ 100000) : (rowOct r).length ≤ 30 := by
  have h1 := flat_len r hb.2.2
  have h2 : 0 < r.length := List.length_pos_iff.mpr hb.1
  rw [rowOct_eq r (by omega)]
  simp only [List.length_append, List.length_cons, List.length_nil, List.length_drop]
  omega
theorem octets_len : ∀ (rows : List (List Int)), (∀ r ∈ rows, r ≠ [] ∧ r.length ≤ 10 ∧ ∀ x ∈ r, 0 ≤ x ∧ x ≤ 100000) → (octetsOf rows).length ≤ 30 * rows.length
  | [], _ => by simp [octetsOf]
  | r :: rows, h => by
    have h1 := rowOct_len r (h r (.head _))
    have h2 := octets_len rows fun y hy => h y (.tail _ hy)
    have e : octetsOf (r :: rows) = rowOct r ++ octetsOf rows := by simp [octetsOf]
    rw [e, List.length_append, List.length_cons]
    omega
theorem flat_ints {ra : List Value} {yss : List (List Value)} {r : List Int} (hp : Paired (fun (v : Value) vs => ∃ (n : Int) (t : Tok), v = .int n t ∧ IntsAre vs (digs n)) ra yss) (hi : IntsAre ra r) : IntsAre yss.flatten (r.flatMap digs) := by
  induction hp generalizing r with
  | nil => cases hi; exact .nil
  | cons h t ih =>
    obtain ⟨n', t', e, h3⟩ := h
    subst e
    cases hi with
    | cons _ _ h2 =>
      simp only [List.flatten_cons, List.flatMap_cons]
      exact h3.append (ih h2)

/-- between the turns over the rows -/
inductive OctJ (l : Addr) (os : List Int) (m : Str → Option Value) (news : List (Addr × Obj)) : Prop
  | mk (vx vd : Option Value) (o : Addr) (vs : List Value) (e : Nat) (hm : m = fm [("row", vx), ("digits", vd), ("octets", some (.ref o)), ("rows", some (.ref l))]) (hn : news = [(o, listOf vs.toArray e)]) (hI : IntsAre vs os) : OctJ l os m news

set_option maxHeartbeats 4000000 in
theorem octets_spec {w : World} {mean : ExcName → Option Value} {mg mb : Str → Option Value} {base : Heap} {outer : List Env} {dp un : Nat} {gd : Option (List Code)} {s : Shared} {Q E : Value → Shared → Prop}
    (G : Gd w mean mg mb (aA dp un gd outer) base outer s.heap) (hdp : dp + 10 < recursionLimit) (hun : un + 100 < cLine)
    {l : Addr} {rows : List (List Int)} (hrows : RowsAt s.heap l rows) (hbd : ∀ r ∈ rows, r ≠ [] ∧ r.length ≤ 10 ∧ ∀ x ∈ r, 0 ≤ x ∧ x ≤ 100000) (hlen : rows.length ≤ 100)
    (hret : ∀ a h' tk', Kp s.heap h' → IntsAt h' a (octetsOf rows) → s.heap.get? a = none → Q (.ref a) { s with heap := h', toks := tk' }) :
    wpAny (model PySem.Challenge.rw_pg0146_01.row.prog w) (aA dp un gd outer) (call (.ref 135) [.ref l]) Q E s := by
  w_top off
  obtain ⟨X, T, B⟩ := id G
  revert X; k_fill; intro X
  refine enter0 (binds := [("rows", .ref l)]) G (by omega) (by k_dflt k_is) (by k_dflt k_is) (BindsTo.of_eq rfl) (locs rfl) [("rows", some (.ref l))] rfl ?_ rfl rfl rfl (by decide)
  intro L' h₁ tk F' N'
  have hroom : Unit → _ := fun _ => And.intro hdp hun
  clear hdp hun
  obtain ⟨items, hl, hp⟩ := hrows
  repeat' (
    (fail_if_success (with_reducible show wpAny _ _ (exec (Stmt.For _ _ _ _ _) _) _ _ _));
    (fail_if_success (with_reducible show wpAny _ _ (exec (Stmt.While _ _ _ _) _) _ _ _));
    (fail_if_success (with_reducible show wpAny _ _ (PySem.call (Value.ref _) _ _) _ _ _));
    (fail_if_success (with_reducible show TurnQ _ _ _ _ _ _ _ _ _ _));
    (first | walk1 | (dsimp only; walk1)); (first | (with_reducible show wpAny _ _ (subscriptTail _ _ _ _) _ _ _) | (try dsimp only)))
  refine For_invV s.heap rfl rfl ?_ (fun _ => rfl) PassesOwn.never
  walk1
  refine list_loop (fun i => OctJ l (octetsOf (rows.take i))) rfl rfl hl (by assumption) (by assumption) ?_ ?_ ?_
  · refine ⟨none, none, _, _, _, by (first | (refine fm_s1 ?_; rfl) | (refine fm_s2 ?_; rfl) | (refine fm_s3 ?_; rfl) | (refine fm_s4 ?_; rfl) | (refine fm_s5 ?_; rfl) | (refine fm_s6 ?_; rfl)), rfl, .nil⟩
  · rintro i v m₁ news₁ h tk I oI hv hne hJ F N
    obtain ⟨vx, vd, o, vs, e, rfl, rfl, hI⟩ := hJ
    obtain ⟨r, hr, a, rfl, ra, hra, hri⟩ := Paired.get hp i v (by rw [Array.getElem?_toList]; exact hv)
    walk1
    refine comp2_assign (h₀ := s.heap) (L := L') (fun v vs => ∃ (n : Int) (t : Tok), v = .int n t ∧ IntsAre vs (digs n)) rfl rfl (closureFor_none (by decide)) (by decide) rfl (by decide) rfl rfl rfl rfl rfl rfl (fun _ _ => rfl) ?_ (fun _ => rfl)
    walk1
    have X1 := Frag.In.keeps X F.keep
    have T1 := T.keeps F.keep
    refine ⟨a, ra.toArray, _, rfl, hra.at fun o e => F.keep _ o e, ?_, F, ?_, ?_⟩
    · have := hri.length
      simp only [List.size_toArray]
      have := hbd r (List.mem_of_getElem? hr)
      omega
    · intro j v C m' h₂ tk₂ hv F₂
      obtain ⟨n, hn, t, rfl⟩ : ∃ n, r[j]? = some n ∧ ∃ t, v = .int n t := by
        obtain ⟨n, h1, t, h2⟩ := IntsAre.at? hri j v (by simpa using hv)
        exact ⟨n, h1, t, h2⟩
      have hnb := (hbd r (List.mem_of_getElem? hr)).2.2 n (List.mem_of_getElem? hn)
      have X2 : (hd.heap_39 w.params).In h₂ := Frag.In.keeps X1 F₂.keep
      have T2 := T1.keeps F₂.keep
      refine callG X2 T2 (by k_dflt k_is) (by k_dflt k_is) (spliced_more (nmL F₂.ns rfl (spliced_none ⟨X2, ?_⟩)))
      have en : n = ((n.toNat : Nat) : Int) := by omega
      rw [en]
      refine digits_spec (Gd.next X T B (F.keeps F₂.keep) rfl rfl) (by exact roomD (hroom ()).1 (by decide)) (by first | exact roomU (hroom ()).2 (by decide) | exact roomU3 (hroom ()).2 (by decide)) (by omega) ?_
      intro a2 vs2 k2 h3 tk3 hk3 hget hnew hI3
      refine ⟨h3, tk3, a2, vs2.toArray, rfl, hk3, rfl, isList_of hget, hnew, ⟨_, _, rfl, hI3⟩, ?_⟩
      have := hI3.length
      have := digsN_len n.toNat (by omega)
      simp only [List.size_toArray]; omega
    · intro hF tk2 D ys yss F3 hpl hD hPd hfl hk3
      obtain ⟨kD, hget⟩ := hpl
      have hrb := hbd r (List.mem_of_getElem? hr)
      have hDI : IntsAre ys.toList (r.flatMap digs) := by
        rw [hfl]
        exact flat_ints (by simpa using hPd) hri
      have N3 : News s.heap L' hF [(D, listOf ys.toList.toArray kD), (I, oI), (o, listOf vs.toArray e)] := by
        intro p hp
        rcases List.mem_cons.mp hp with rfl | hp
        · refine ⟨by simpa using hget, ?_, ?_⟩
          · rintro rfl
            obtain ⟨o', _, _, ho', _⟩ := F.ns
            have : h.get? D = some o' := ho'
            rw [hD] at this; cases this
          · cases hq : s.heap.get? D with
            | none => rfl
            | some o' => have := F.keep _ _ hq; rw [hD] at this; cases this
        · exact ⟨hk3 _ _ (N p hp).2.1 (N p hp).1, (N p hp).2⟩
      generalize ys.toList = W at hDI N3
      have hlens := hDI.length
      have hfl2 := flat_len r hrb.2.2
      have hlen2 : (r.flatMap digs).length ≤ 30 := by omega
      have hlen0 : 0 < (r.flatMap digs).length := by
        have := List.length_pos_iff.mpr hrb.1
        omega
      have hlen3 : (octetsOf (rows.take i)).length ≤ 3000 := by
        have q := octets_len (rows.take i) fun x hx => hbd x (List.mem_of_mem_take hx)
        have q2 : (rows.take i).length ≤ rows.length := by simp [List.length_take]; omega
        omega
      have hstep : octetsOf (rows.take (i + 1)) = octetsOf (rows.take i) ++ [128 + (r.flatMap digs).getD (Int.toNat 0) 0] ++ (r.flatMap digs).drop 1 := by
        have e1 : rows.take (i + 1) = rows.take i ++ [r] := by simp [List.take_add_one, hr]
        rw [e1, List.append_assoc]
        show octetsOf (rows.take i ++ [r]) = octetsOf (rows.take i) ++ ([128 + (r.flatMap digs).getD 0 0] ++ (r.flatMap digs).drop 1)
        rw [← rowOct_eq r hlen0]
        simp [octetsOf]
      clear hk3 hPd hfl hget
      repeat' (
        (fail_if_success (with_reducible show wpAny _ _ (exec (Stmt.For _ _ _ _ _) _) _ _ _));
        (fail_if_success (with_reducible show wpAny _ _ (exec (Stmt.While _ _ _ _) _) _ _ _));
        (fail_if_success (with_reducible show wpAny _ _ (PySem.call (Value.ref _) _ _) _ _ _));
        (fail_if_success (with_reducible show TurnQ _ _ _ _ _ _ _ _ _ _));
        (first | walk1 | (dsimp only; walk1)); (first | (with_reducible show wpAny _ _ (subscriptTail _ _ _ _) _ _ _) | (try dsimp only)))
      rw [hstep]
      rename IntsAre _ (_ ++ _ ++ List.drop 1 _) => hI9
      rename News _ _ _ _ => N9
      refine TurnQ.go (by assumption) N9 [(_, listOf (List.toArray _) 0)] ?_ ?_ ⟨_, _, _, _, _, by (first | (refine fm_s1 ?_; rfl) | (refine fm_s2 ?_; rfl) | (refine fm_s3 ?_; rfl) | (refine fm_s4 ?_; rfl) | (refine fm_s5 ?_; rfl) | (refine fm_s6 ?_; rfl)), rfl, hI9⟩
      · refine List.forall_mem_cons.mpr ⟨by k_mem, List.forall_mem_cons.mpr ⟨by k_mem, List.forall_mem_nil _⟩⟩
      · refine List.forall_mem_cons.mpr ⟨neN (by dsimp only; omega), List.forall_mem_nil _⟩
  · rintro m₁ news₁ h tk ⟨vx, vd, o, vs, e, rfl, rfl, hI⟩ F N
    repeat' (
      (fail_if_success (with_reducible show wpAny _ _ (exec (Stmt.For _ _ _ _ _) _) _ _ _));
      (fail_if_success (with_reducible show wpAny _ _ (exec (Stmt.While _ _ _ _) _) _ _ _));
      (fail_if_success (with_reducible show wpAny _ _ (PySem.call (Value.ref _) _ _) _ _ _));
      (fail_if_success (with_reducible show TurnQ _ _ _ _ _ _ _ _ _ _));
      (first | walk1 | (dsimp only; walk1)); (first | (with_reducible show wpAny _ _ (subscriptTail _ _ _ _) _ _ _) | (try dsimp only)))
    have e1 : rows.take items.size = rows := by
      refine List.take_of_length_le ?_
      have := Paired.length_eq hp
      rw [Array.length_toList] at this
      omega
    rw [e1] at hI
    exact hret _ _ _ F.keep ⟨vs, News.il N (.head _), hI⟩ (N _ (.head _)).2.2

section
variable {prog : Program} {w : World} {A : Around} {E : Value → Shared → Prop} {s : Shared} {b : Array UInt8} {t : Tok} {Q : Value → Shared → Prop}

theorem next_item {it : Addr} {i : Nat} {c : UInt8} (hit : KBw.IsBytesIter s.heap it b t i) (hx : b[i]? = some c)
    (hQ : ∀ h', KBw.IsBytesIter h' it b t (i + 1) → Heap.SameBut it s.heap h' → Q (.int (c.toNat : Int) s.toks) { s with heap := h', toks := s.toks + 1 }) : wpAny (model prog w) A (call (.builtin "next") [.ref it]) Q E s := by
  obtain ⟨o, ho, hc, hd⟩ := id hit
  refine call_function_entry (by decide +kernel) (by decide +kernel) kdk_entry_next (kdk_args_next _) ?_
  unfold Builtin.«next»
  refine wpAny_bind (m := someArgs "next" 1 2 _) (wpAny_of_eq (a := [Value.ref it]) (by first | rfl | kernel_rfl!) ?_)
  dsimp only
  refine wpAny_bind (wpAny_specialOf (name := Str.ofString "__next__") (KBw.iter_typeIs hit) KBw.slot_next.lookup ?_)
  refine wpAny_ite_split (fun hab => absurd hab (by decide)) (fun _ => ?_)
  refine wpAny_bind (wpAny_callSpecial?_slot (name := PySem.Str.ofString "__next__") (KBw.iter_typeIs hit) KBw.slot_next (wpAny_call_entry KBw.slot_next (KBw.iter_typeIs hit) KBw.entry_next ?_ (KBw.args_next _)))
  show wpAny _ _ (field (.ref it) 0 >>= _) _ _ s
  refine wpAny_bind (wpAny_field ho hd (x := .bytes b t) rfl ?_)
  show wpAny _ _ (if (Value.bytes b t == Value.none) = true then _ else _) _ _ s
  rw [if_neg (show ¬ ((Value.bytes b t == Value.none) = true) from Bool.false_ne_true)]
  show wpAny _ _ (field (.ref it) 1 >>= _) _ _ s
  refine wpAny_bind (wpAny_field ho hd (x := .int i 0) rfl ?_)
  refine wpAny_bind (wpAny_of_eq (a := b) rfl ?_)
  simp only [Int.toNat_natCast, hx]
  refine wpAny_bind (wpAny_setField ho hd (by simp) (wpAny_bind (wpAny_mkInt (wpAny_pure ⟨_, rfl, wpAny_pure ⟨_, rfl, hQ _ ?_ (Heap.SameBut.update ..)⟩⟩))))
  exact ⟨_, Heap.get?_update_self _ ho (Obj.isFreed_of_fields (Obj.data_mapFields hd _)), (Obj.cls_mapFields ..).trans hc, by
    rw [Obj.data_mapFields hd]; simp [rawInt]⟩

theorem next_end {it : Addr} {i : Nat} (hh : A.handled = none) (hit : KBw.IsBytesIter s.heap it b t i) (hx : b[i]? = none)
    (hE : ∀ h' e, Heap.ExtBut it s.heap h' → s.heap.get? e = none → (∃ ob t, h'.get? e = some ob ∧ ob.cls = .type "StopIteration" ∧ ob.data = .fields #[t, .none, .none, .none, .bool false, .none]) → E (.ref e) { s with heap := h' }) :
    wpAny (model prog w) A (call (.builtin "next") [.ref it]) Q E s := by
  obtain ⟨o, ho, hc, hd⟩ := id hit
  refine call_function_entry (by decide +kernel) (by decide +kernel) kdk_entry_next (kdk_args_next _) ?_
  unfold Builtin.«next»
  refine wpAny_bind (m := someArgs "next" 1 2 _) (wpAny_of_eq (a := [Value.ref it]) (by first | rfl | kernel_rfl!) ?_)
  dsimp only
  refine wpAny_bind (wpAny_specialOf (name := Str.ofString "__next__") (KBw.iter_typeIs hit) KBw.slot_next.lookup ?_)
  refine wpAny_ite_split (fun hab => absurd hab (by decide)) (fun _ => ?_)
  refine wpAny_bind (wpAny_callSpecial?_slot (name := PySem.Str.ofString "__next__") (KBw.iter_typeIs hit) KBw.slot_next (wpAny_call_entry KBw.slot_next (KBw.iter_typeIs hit) KBw.entry_next ?_ (KBw.args_next _)))
  show wpAny _ _ (field (.ref it) 0 >>= _) _ _ s
  refine wpAny_bind (wpAny_field ho hd (x := .bytes b t) rfl ?_)
  show wpAny _ _ (if (Value.bytes b t == Value.none) = true then _ else _) _ _ s
  rw [if_neg (show ¬ ((Value.bytes b t == Value.none) = true) from Bool.false_ne_true)]
  show wpAny _ _ (field (.ref it) 1 >>= _) _ _ s
  refine wpAny_bind (wpAny_field ho hd (x := .int i 0) rfl ?_)
  refine wpAny_bind (wpAny_of_eq (a := b) rfl ?_)
  simp only [Int.toNat_natCast, hx]
  refine wpAny_bind (wpAny_rule (wpAny_bind (wpAny_setField ho hd (by simp) ?_)))
  show wpAny _ _ (newExc (.type "StopIteration") [] >>= _) _ _ _
  refine wpAny_bind ?_
  simp only [newExc, newTuple]
  refine wpAny_bind (wpAny_newObj_type ?_ (by size_fits))
  refine wpAny_bind (m := firstArgMember _ _) (wpAny_of_eq (a := Value.none) (by first | rfl | (simp only [firstArgMember]; rfl)) ?_)
  refine wpAny_newObj_type ?_ (by size_fits)
  simp only [raiseNew]
  refine wpAny_bind (wpAny_handled ?_)
  rw [show A.in1.in1.handled = none from hh]
  refine wpAny_bind (wpAny_pure (wpAny_throw ?_))
  refine hE _ _ (((Heap.SameBut.update ..).extBut.push _).push _) ?_ ⟨_, _, Heap.get?_push_size _ rfl, rfl, rfl⟩
  refine Heap.get?_none_of_le ?_
  rw [Heap.size_push, Heap.size_after_update]
  exact Nat.le_succ _
end

section
variable {w : World} {mean : ExcName → Option Value} {mg mb : Str → Option Value} {base : Heap} {outer : List Env} {A : Around}
/-- entering a def that changes the object at I: I on its ledger -/
theorem enterH {dp un : Nat} {gd : Option (List Code)} {s : Shared} {R : Result → Shared → Prop} {name qual : Str} {params : Arguments} {body : List Stmt} {scope : Scope} {dV kV doc pm cdv ct oc : Value} {an od : Option Addr} {osl : Array (Option Value)} {f : Addr} {args : Args} {binds : List (Str × Value)} {I : Addr} {oI : Obj}
    (G : Gd w mean mg mb (aA dp un gd outer) base outer (s.heap.hide I)) (hI : s.heap.get? I = some oI) (hroom : dp < recursionLimit)
    (ho : List.lookup f (hd.heap_39 w.params) = some ⟨oc, od, .func (fnOf name qual params body scope dV kV doc pm an cdv ct), osl⟩) (hcd : codeIn (hd.heap_39 w.params) cdv qual = true)
    (hbind : BindsTo s (fnOf name qual params body scope dV kV doc pm an cdv ct) args binds) (hloc : ∀ y ∈ binds, scope.names.lookup y.1 = some .local)
    (fr : List (Str × Option Value)) (hfr : binds.reverse.map (fun p => (p.1, some p.2)) = fr)
    (h : ∀ L' h₁ tk, Fr (s.heap.hide I) L' h₁ (fm fr) → News (s.heap.hide I) L' h₁ [(I, oI)] →
      wpAny (model PySem.Challenge.rw_pg0146_01.row.prog w) ((aA dp un gd outer).deeper (envOf qual scope L' f cdv)) (execs body (envOf qual scope L' f cdv))
        (fun fl s' => R (.ok (.ret (match fl with | .ret v => v | _ => .none))) s')
        (fun e s' => wpAny (model PySem.Challenge.rw_pg0146_01.row.prog w) ((aA dp un gd outer).deeper (envOf qual scope L' f cdv)) (leaving (envOf qual scope L' f cdv) e) (fun _ s'' => R (.error e) s'') (fun e' s'' => R (.error e') s'') s')
        { s with heap := h₁, toks := tk })
    (hco : scope.isCoroutine = false) (hgen : scope.isGenerator = false) (hk : scope.kind = .function)
    (hcell : ∀ x ∈ scope.names, x.2 ≠ .cell) : codeAny (model PySem.Challenge.rw_pg0146_01.row.prog w) (aA dp un gd outer) (.call (.ref f) args) R s := by
  have X := Frag.In.keeps G.X fun b o e => Heap.of_hide e
  have T := G.T.keeps fun b o e => Heap.of_hide e
  refine codeAny_call_def (fd := fnOf name qual params body scope dV kV doc pm an cdv ct) (body := body) (binds := binds) hroom (X _ _ ho) rfl T.nolimit (codeRec_of X hcd) rfl hbind hcell hloc (fun h₁ hns hk₁ => ?_) hco hgen hk
  refine h _ h₁ _ ⟨by rw [← hfr, ← lookup_fm]; exact hns, fun b o e => hk₁ b o (Heap.of_hide e), by rw [Heap.hide_size]; exact Nat.le_refl _⟩ fun p hp => ?_
  rw [List.mem_singleton.mp hp]
  exact ⟨hk₁ _ _ hI, Nat.ne_of_lt (Heap.lt_size hI), Heap.hide_self _ _⟩
end

section
variable {prog : Program} {w : World} {A : Around} {E : Value → Shared → Prop} {s : Shared} {b : Array UInt8} {t : Tok} {Q : Value → Shared → Prop} {h₀ : Heap} {L : Addr} {m : Str → Option Value} {news : List (Addr × Obj)}
theorem next_K {I : Addr} {oI : Obj} {i : Nat} {c : UInt8} (F : Fr h₀ L s.heap m) (N : News h₀ L s.heap ((I, oI) :: news)) (hne : ∀ p ∈ news, p.1 ≠ I) (hit : KBw.IsBytesIter s.heap I b t i) (hx : b[i]? = some c)
    (h : ∀ h' oI', Fr h₀ L h' m → News h₀ L h' ((I, oI') :: news) → KBw.IsBytesIter h' I b t (i + 1) → Q (.int (c.toNat : Int) s.toks) { s with heap := h', toks := s.toks + 1 }) :
    wpAny (model prog w) A (call (.builtin "next") [.ref I]) Q E s := by
  have hN := N _ (.head _)
  refine next_item hit hx fun h' hit' hs => ?_
  obtain ⟨oI', ho', _⟩ := id hit'
  refine h h' oI' (F.change hs hN.2.1 hN.2.2) (fun p hp => ?_) hit'
  rcases List.mem_cons.mp hp with rfl | hp
  · exact ⟨ho', hN.2⟩
  · have q := N p (.tail _ hp)
    exact ⟨(hs.2 p.1 (hne p hp)).trans q.1, q.2⟩
end

/-- the number that the octets tell, the first one c taken -/
noncomputable def vrun : List Nat → Nat → Nat → Option (Nat × List Nat)
  | [], c, v => if c / 64 % 2 = 0 then some (v, []) else none
  | c' :: bs, c, v => if c / 64 % 2 = 0 then some (v, c' :: bs) else vrun bs c' (v * 64 + c' % 64)
theorem vrun_le : ∀ {bs : List Nat} {c v V : Nat} {r : List Nat}, vrun bs c v = some (V, r) → v ≤ V
  | [], c, v, V, r, h => by
    unfold vrun at h
    split at h
    · cases h; exact Nat.le_refl _
    · cases h
  | c' :: bs, c, v, V, r, h => by
    unfold vrun at h
    split at h
    · cases h; exact Nat.le_refl _
    · have := vrun_le h
      omega
noncomputable def bNats (b : Array UInt8) : List Nat := b.toList.map (·.toNat)

theorem and63 (c : Nat) : Builtin.bitAnd (c : Int) 63 = ((c % 64 : Nat) : Int) := by
  rw [bitAnd_pp (by omega) (by omega)]
  have : (c : Int).toNat &&& (63 : Int).toNat = c % 64 := Nat.and_two_pow_sub_one_eq_mod c 6
  rw [this]
theorem and64 (c : Nat) (h : c < 256) : (Builtin.bitAnd (c : Int) 64 != 0) = decide (c / 64 % 2 ≠ 0) := by
  have : ∀ c : Fin 256, (Builtin.bitAnd ((c : Nat) : Int) 64 != 0) = decide ((c : Nat) / 64 % 2 ≠ 0) := by decide +kernel
  exact this ⟨c, h⟩
theorem or63 (v r : Nat) (h : r < 64) : Builtin.bitOr ((v : Int) * 2 ^ 6) (r : Int) = ((v * 64 + r : Nat) : Int) := by
  rw [bitOr_and, bitAnd_pp (by omega) (by omega)]
  have e : ((v : Int) * 2 ^ 6).toNat = v * 64 := by omega
  rw [e, Int.toNat_natCast]
  have : v * 64 &&& r = 0 := by
    have h2 : (2 ^ 6 * v) &&& r = 0 := by
      refine Nat.eq_of_testBit_eq fun j => ?_
      rw [Nat.testBit_and, Nat.testBit_two_pow_mul, Nat.zero_testBit]
      by_cases hj : j ≥ 6
      · have : r.testBit j = false := Nat.testBit_lt_two_pow (Nat.lt_of_lt_of_le h (Nat.pow_le_pow_right (n := 2) (by decide) hj))
        rw [this, Bool.and_false]
      · simp [hj]
    rw [Nat.mul_comm]; exact h2
  rw [this]; omega

/-- the frames' addresses -/
noncomputable def frs (outer : List Env) : List Addr := outer.filterMap (·.frame)

theorem drop_cons' {b : Array UInt8} {i : Nat} {c : Nat} {bs : List Nat} (h : (bNats b).drop i = c :: bs) : (∃ u : UInt8, b[i]? = some u ∧ u.toNat = c) ∧ c < 256 ∧ (bNats b).drop (i + 1) = bs := by
  have h1 : (bNats b)[i]? = some c := by
    have : ((bNats b).drop i)[0]? = some c := by rw [h]; rfl
    simpa using this
  have h2 : (bNats b).drop (i + 1) = bs := by
    have : ((bNats b).drop i).drop 1 = bs := by rw [h]; rfl
    simpa using this
  unfold bNats at h1
  rw [List.getElem?_map, Array.getElem?_toList] at h1
  cases hu : b[i]? with
  | none => rw [hu] at h1; cases h1
  | some u =>
    rw [hu] at h1
    have e : u.toNat = c := Option.some.inj h1
    exact ⟨⟨u, rfl, e⟩, e ▸ u.toNat_lt, h2⟩

/-- between the octets read -/
inductive VarJ (I : Addr) (b : Array UInt8) (t : Tok) (V : Nat) (r : List Nat) (n' : Nat) (m : Str → Option Value) (news : List (Addr × Obj)) : Prop
  | mk (c' v j : Nat) (bs' : List Nat) (tb tv : Tok) (oI' : Obj) (h09 : n' = bs'.length) (h19 : m = fm [("b", some (.int c' tb)), ("val", some (.int v tv)), ("iterator", some (.ref I))]) (h29 : news = [(I, oI')]) (h39 : oI'.cls = .type "bytes_iterator") (h49 : oI'.data = .fields #[.bytes b t, .int j 0]) (h59 : c' < 256) (h69 : (bNats b).drop j = bs') (h79 : vrun bs' c' v = some (V, r)) : VarJ I b t V r n' m news

set_option maxHeartbeats 4000000 in
theorem varint_spec {w : World} {mean : ExcName → Option Value} {mg mb : Str → Option Value} {base : Heap} {outer : List Env} {dp un : Nat} {gd : Option (List Code)} {s : Shared} {Q E : Value → Shared → Prop}
    {I : Addr} {b : Array UInt8} {t : Tok} {i : Nat}
    (G : Gd w mean mg mb (aA dp un gd outer) base outer (s.heap.hide I)) (hdp : dp + 5 < recursionLimit) (hun : un + 50 < cLine)
    (hit : KBw.IsBytesIter s.heap I b t i) {c : Nat} {bs : List Nat} {V : Nat} {r : List Nat} (hb : (bNats b).drop i = c :: bs) (hv : vrun bs c (c % 64) = some (V, r)) (hV : V ≤ 1000000)
    (hret : ∀ t' h' tk' j, (∀ x o, x ≠ I → s.heap.get? x = some o → h'.get? x = some o) → KBw.IsBytesIter h' I b t j → (bNats b).drop j = r → Q (.int V t') { s with heap := h', toks := tk' }) :
    wpAny (model PySem.Challenge.rw_pg0146_01.row.prog w) (aA dp un gd outer) (call (.ref 28) [.ref I]) Q E s := by
  w_top off
  obtain ⟨X, T, B⟩ := id G
  revert X; k_fill; intro X
  obtain ⟨oI, hoI, hoc, hod⟩ := id hit
  refine wpAny_call ?_
  refine enterH (binds := [("iterator", .ref I)]) G hoI (by omega) (by k_dflt k_is) (by k_dflt k_is) (BindsTo.of_eq rfl) (locs rfl) [("iterator", some (.ref I))] rfl ?_ rfl rfl rfl (by decide)
  intro L' h₁ tk F' N'
  have hroom : Unit → _ := fun _ => And.intro hdp hun
  clear hdp hun
  refine wpAny_mono (E := fun _ _ => False) ?_ (fun _ _ x => x) fun _ _ x => x.elim
  obtain ⟨⟨u0, hu0, hu0c⟩, hc256, hbd⟩ := drop_cons' hb
  repeat' (
    (fail_if_success (with_reducible show wpAny _ _ (exec (Stmt.For _ _ _ _ _) _) _ _ _));
    (fail_if_success (with_reducible show wpAny _ _ (exec (Stmt.While _ _ _ _) _) _ _ _));
    (fail_if_success (with_reducible show wpAny _ _ (PySem.call (Value.ref _) _ _) _ _ _));
    (fail_if_success (with_reducible show TurnQ _ _ _ _ _ _ _ _ _ _));
    (first | walk1 | (dsimp only; walk1)); (first | (with_reducible show wpAny _ _ (subscriptTail _ _ _ _) _ _ _) | (try dsimp only)))
  refine next_K F' N' (fun _ h => nomatch h) ⟨oI, (N' _ (.head _)).1, hoc, hod⟩ hu0 ?_
  intro h2 oI2 F2 N2 hit2
  have hgI2 := (N2 _ (.head _)).1
  rw [hu0c]
  repeat' (
    (fail_if_success (with_reducible show wpAny _ _ (exec (Stmt.For _ _ _ _ _) _) _ _ _));
    (fail_if_success (with_reducible show wpAny _ _ (exec (Stmt.While _ _ _ _) _) _ _ _));
    (fail_if_success (with_reducible show wpAny _ _ (PySem.call (Value.ref _) _ _) _ _ _));
    (fail_if_success (with_reducible show TurnQ _ _ _ _ _ _ _ _ _ _));
    (first | walk1 | (dsimp only; walk1)); (first | (with_reducible show wpAny _ _ (subscriptTail _ _ _ _) _ _ _) | (try dsimp only)))
  rename Fr _ _ _ _ => F3
  rename News _ _ _ _ => N3
  rw [and63] at F3
  refine While_inv (VarJ I b t V r) (n₀ := bs.length) F3 N3 ?_ ?_ PassesOwn.never
  · obtain ⟨o2, ho2, hc2, hd2⟩ := hit2
    have : o2 = oI2 := by
      rw [ho2] at hgI2
      exact Option.some.inj hgI2
    subst this
    exact ⟨c, c % 64, i + 1, bs, _, _, o2, rfl, by (first | (refine fm_s1 ?_; rfl) | (refine fm_s2 ?_; rfl) | (refine fm_s3 ?_; rfl) | (refine fm_s4 ?_; rfl) | (refine fm_s5 ?_; rfl) | (refine fm_s6 ?_; rfl)), rfl, hc2, hd2, hc256, hbd, hv⟩
  · rintro n' _ _ h₁ tk₁ F4 N4 ⟨c', v, j, bs', tb, tv, oI', rfl, rfl, rfl, hc', hd', hlt, hdr, hrun⟩
    have hvle := vrun_le hrun
    repeat' (
      (fail_if_success (with_reducible show wpAny _ _ (exec (Stmt.For _ _ _ _ _) _) _ _ _));
      (fail_if_success (with_reducible show wpAny _ _ (exec (Stmt.While _ _ _ _) _) _ _ _));
      (fail_if_success (with_reducible show wpAny _ _ (PySem.call (Value.ref _) _ _) _ _ _));
      (fail_if_success (with_reducible show TurnQ _ _ _ _ _ _ _ _ _ _));
      (first | walk1 | (dsimp only; walk1)); (first | (with_reducible show wpAny _ _ (subscriptTail _ _ _ _) _ _ _) | (try dsimp only)))
    · have hbit : c' / 64 % 2 ≠ 0 := by
        rename Builtin.bitAnd _ _ ≠ 0 => hq
        have := and64 c' hlt
        intro h0
        rw [h0] at this
        simp at this
        exact hq this
      cases bs' with
      | nil =>
        unfold vrun at hrun
        rw [if_neg hbit] at hrun
        cases hrun
      | cons c2 bs2 =>
        unfold vrun at hrun
        rw [if_neg hbit] at hrun
        obtain ⟨⟨u2, hu2, hu2c⟩, hc2, hbd2⟩ := drop_cons' hdr
        rename News _ _ _ _ => N5
        refine next_K (by assumption) N5 (fun _ h => nomatch h) ⟨oI', (N5 _ (.head _)).1, hc', hd'⟩ hu2 ?_
        intro h6 oI6 F6 N6 hit6
        have hgI6 := (N6 _ (.head _)).1
        rw [hu2c]
        have hvle2 := vrun_le hrun
        repeat' (
          (fail_if_success (with_reducible show wpAny _ _ (exec (Stmt.For _ _ _ _ _) _) _ _ _));
          (fail_if_success (with_reducible show wpAny _ _ (exec (Stmt.While _ _ _ _) _) _ _ _));
          (fail_if_success (with_reducible show wpAny _ _ (PySem.call (Value.ref _) _ _) _ _ _));
          (fail_if_success (with_reducible show TurnQ _ _ _ _ _ _ _ _ _ _));
          (first | walk1 | (dsimp only; walk1)); (first | (with_reducible show wpAny _ _ (subscriptTail _ _ _ _) _ _ _) | (try dsimp only)))
        rename Fr _ _ _ _ => F7
        rename News _ _ _ _ => N7
        obtain ⟨o6, ho6, hc6, hd6⟩ := hit6
        have : o6 = oI6 := by
          rw [ho6] at hgI6
          exact Option.some.inj hgI6
        subst this
        have e6 : Int.toNat 6 = 6 := rfl
        rw [e6, and63, or63 _ _ (Nat.mod_lt _ (by decide))] at F7
        exact WhileStep.intro F7 N7 (n' := bs2.length) (by simp) ⟨c2, v * 64 + c2 % 64, j + 1, bs2, _, _, o6, rfl, by (first | (refine fm_s1 ?_; rfl) | (refine fm_s2 ?_; rfl) | (refine fm_s3 ?_; rfl) | (refine fm_s4 ?_; rfl) | (refine fm_s5 ?_; rfl) | (refine fm_s6 ?_; rfl)), rfl, hc6, hd6, hc2, hbd2, hrun⟩
    · have hbit : c' / 64 % 2 = 0 := by
        rename Builtin.bitAnd _ _ = 0 => h0
        have := and64 c' hlt
        rw [h0] at this
        simpa using this
      have hVr : v = V ∧ bs' = r := by
        cases bs' with
        | nil => unfold vrun at hrun; rw [if_pos hbit] at hrun; cases hrun; exact ⟨rfl, rfl⟩
        | cons c2 bs2 => unfold vrun at hrun; rw [if_pos hbit] at hrun; cases hrun; exact ⟨rfl, rfl⟩
      obtain ⟨rfl, rfl⟩ := hVr
      exact hret _ _ _ j (fun x o hx e => F4.keep x o ((Heap.hide_ne _ hx).trans e)) ⟨oI', (N4 _ (.head _)).1, hc', hd'⟩ hdr

/-- the heap without the iterator and the frames -/
noncomputable def rest0 (h : Heap) (I : Addr) (outer : List Env) : Heap := hideAll h (I :: frs outer)

theorem frames_to {base base' h h' : Heap} : ∀ {l : List Env}, h.FunFrames base l → (∀ b o, b ∈ frs l → h.get? b = some o → h'.get? b = some o) → (∀ b ∈ frs l, base'.get? b = none) → h'.FunFrames base' l
  | [], _, _, _ => trivial
  | env :: l, ⟨hk, ⟨L, o, hf, hn, ho, hd⟩, hr⟩, k, n => by
    have hm : L ∈ frs (env :: l) := by unfold frs; rw [List.filterMap_cons, hf]; exact .head _
    have hs : ∀ b, b ∈ frs l → b ∈ frs (env :: l) := fun b hb => by unfold frs; rw [List.filterMap_cons, hf]; exact .tail _ hb
    exact ⟨hk, ⟨L, o, hf, n L hm, k L o hm ho, hd⟩, frames_to hr (fun b o hb => k b o (hs b hb)) fun b hb => n b (hs b hb)⟩

set_option maxHeartbeats 4000000 in
theorem varint_end {w : World} {mean : ExcName → Option Value} {mg mb : Str → Option Value} {base : Heap} {outer : List Env} {dp un : Nat} {gd : Option (List Code)} {s : Shared} {Q E : Value → Shared → Prop}
    {I : Addr} {b : Array UInt8} {t : Tok} {i : Nat}
    (G : Gd w mean mg mb (aA dp un gd outer) base outer (s.heap.hide I)) (hdp : dp + 5 < recursionLimit) (hun : un + 50 < cLine)
    (hit : KBw.IsBytesIter s.heap I b t i) (hb : b[i]? = none)
    (hraise : ∀ e a0 h' tk', Heap.FlyingW (rest0 s.heap I outer) outer e (.type "StopIteration") a0 h' → (∀ x o, x ∈ frs outer → s.heap.get? x = some o → ∃ sl, h'.get? x = some { o with slots := sl }) → E (.ref e) { s with heap := h', toks := tk' }) :
    wpAny (model PySem.Challenge.rw_pg0146_01.row.prog w) (aA dp un gd outer) (call (.ref 28) [.ref I]) Q E s := by
  w_top off
  obtain ⟨X, T, B⟩ := id G
  revert X; k_fill; intro X
  obtain ⟨oI, hoI, hoc, hod⟩ := id hit
  refine wpAny_call ?_
  refine enterH (binds := [("iterator", .ref I)]) G hoI (by omega) (by k_dflt k_is) (by k_dflt k_is) (BindsTo.of_eq rfl) (locs rfl) [("iterator", some (.ref I))] rfl ?_ rfl rfl rfl (by decide)
  intro L' h₁ tk F' N'
  have hroom : Unit → _ := fun _ => And.intro hdp hun
  clear hdp hun
  repeat' (
    (fail_if_success (with_reducible show wpAny _ _ (exec (Stmt.For _ _ _ _ _) _) _ _ _));
    (fail_if_success (with_reducible show wpAny _ _ (exec (Stmt.While _ _ _ _) _) _ _ _));
    (fail_if_success (with_reducible show wpAny _ _ (PySem.call (Value.ref _) _ _) _ _ _));
    (fail_if_success (with_reducible show TurnQ _ _ _ _ _ _ _ _ _ _));
    (first | walk1 | (dsimp only; walk1)); (first | (with_reducible show wpAny _ _ (subscriptTail _ _ _ _) _ _ _) | (try dsimp only)))
  refine next_end rfl ⟨oI, (N' _ (.head _)).1, hoc, hod⟩ hb ?_
  intro h2 e hext hnew hob
  obtain ⟨ob, ta, hob, hcls, hdata⟩ := hob
  have hnew' : h₁.get? e = none := hnew
  have up : ∀ x o, x ≠ I → s.heap.get? x = some o → h2.get? x = some o := fun x o hx q => hext x o hx (F'.keep x o ((Heap.hide_ne _ hx).trans q))
  have hfrI : ∀ x, x ∈ frs outer → x ≠ I := fun x hx q => by
    obtain ⟨_, o, ho, _⟩ := B.frames.mem hx
    rw [q, Heap.hide_self] at ho; cases ho
  have hbase : ∀ x o, (rest0 s.heap I outer).get? x = some o → x ≠ I ∧ s.heap.get? x = some o := fun x o q => by
    refine ⟨fun r => ?_, of_hideAll _ q⟩
    have : (rest0 s.heap I outer).get? x = none := hideAll_none _ (by rw [r]; exact .head _)
    rw [this] at q; cases q
  have hl : h2.FunFrames (rest0 s.heap I outer) (envOf "_parse_varint" { kind := ScopeKind.function, names := [("iterator", .local), ("b", .local), ("val", .local), ("next", .globalImplicit)], isGenerator := false, isCoroutine := false, more := [] } L' 28 (Value.ref 27) :: outer) := by
    refine ⟨(by show ScopeKind.function ≠ ScopeKind.module; decide), ?_, frames_to B.frames (fun x o hx q => up x o (hfrI x hx) (Heap.of_hide q)) fun x hx => hideAll_none _ (.tail _ hx)⟩
    obtain ⟨oL, es, ep, hoL, hdL, _⟩ := F'.ns
    refine ⟨L', oL, rfl, ?_, hext _ _ (Ne.symm (N' _ (.head _)).2.1) hoL, fun vs q => by rw [hdL] at q; cases q⟩
    cases q : (rest0 s.heap I outer).get? L' with
    | none => rfl
    | some o =>
      have h1 := Heap.lt_size (hbase _ _ q).2
      have h2 := F'.above
      rw [Heap.hide_size] at h2
      exact absurd (Nat.lt_of_lt_of_le h1 h2) (Nat.lt_irrefl _)
  have hen : (rest0 s.heap I outer).get? e = none := by
    cases q : (rest0 s.heap I outer).get? e with
    | none => rfl
    | some o =>
      obtain ⟨h1, h3⟩ := hbase _ _ q
      rw [F'.keep e o ((Heap.hide_ne _ h1).trans h3)] at hnew'; cases hnew'
  refine wpAny_leaving_firstW (base := rest0 s.heap I outer) (L := L') rfl hl rfl hob (fun x o q => up x o (hbase x o q).1 (hbase x o q).2) hen hdata rfl rfl ?_
  intro h' hL
  obtain ⟨k1, ⟨_, _, k2⟩, k3, k4⟩ := hL
  rw [hcls] at k3
  refine hraise e _ h' _ ⟨k1, hen, k2, k3⟩ fun x o hx q => ?_
  obtain ⟨_, o2, ho2, hd2⟩ := B.frames.mem hx
  have : o2 = o := by
    rw [Heap.of_hide ho2] at q
    exact Option.some.inj q
  subst this
  exact k4 x o2 (up x o2 (hfrI x hx) q) hd2

/-- the octets tell these numbers -/
inductive Dec : List Nat → List Nat → Prop
  | nil : Dec [] []
  | cons {c V : Nat} {bs r Vs : List Nat} : vrun bs c (c % 64) = some (V, r) → Dec r Vs → Dec (c :: bs) (V :: Vs)

theorem vrun_len : ∀ {bs : List Nat} {c v V : Nat} {r : List Nat}, vrun bs c v = some (V, r) → r.length ≤ bs.length
  | [], c, v, V, r, h => by
    unfold vrun at h
    split at h
    · cases h; exact Nat.le_refl _
    · cases h
  | c' :: bs, c, v, V, r, h => by
    unfold vrun at h
    split at h
    · cases h; exact Nat.le_refl _
    · have := vrun_len h
      simp only [List.length_cons]
      omega
theorem Dec.le {os Vs : List Nat} (h : Dec os Vs) : Vs.length ≤ os.length := by
  induction h with
  | nil => exact Nat.le_refl _
  | cons hv _ ih =>
    have := vrun_len hv
    simp only [List.length_cons]
    omega
section
variable {prog : Program} {w : World} {A : Around} {E : Value → Shared → Prop} {s : Shared} {b : Array UInt8} {t : Tok} {Q : Value → Shared → Prop} {h₀ : Heap} {L : Addr} {m : Str → Option Value} {news : List (Addr × Obj)}
theorem iter_bytes (F : Fr h₀ L s.heap m) (N : News h₀ L s.heap news)
    (h : ∀ (I : Addr) h' oI, Fr h₀ L h' m → News h₀ L h' ((I, oI) :: news) → (∀ p ∈ news, p.1 < I) → oI.cls = .type "bytes_iterator" → oI.data = .fields #[.bytes b t, .int 0 0] → Q (.ref I) { s with heap := h' }) :
    wpAny (model prog w) A (call (.builtin "iter") [.bytes b t]) Q E s := by
  refine call_function_entry (by decide +kernel) (by decide +kernel) kdk_entry_iter (kdk_args_iter _) ?_
  unfold Builtin.«iter»
  refine wpAny_bind (m := someArgs "iter" 1 2 _) (wpAny_of_eq (a := [Value.bytes b t]) (by first | rfl | kernel_rfl!) ?_)
  show wpAny _ _ (pyIter (.bytes b t) >>= _) _ _ _
  refine wpAny_bind (KBw.pyIter_bytes ?_)
  exact wpAny_pure ⟨_, rfl, h _ _ _ (F.push _) (News.push F N _ rfl) (fun q hq => Heap.lt_size (N q hq).1) rfl rfl⟩
end
theorem bNats_make {os : List Nat} (h : ∀ x ∈ os, x < 256) : bNats (byteArr (os.map fun (x : Nat) => (x : Int))) = os := by
  unfold bNats byteArr
  simp only [List.map_map]
  refine (List.map_congr_left fun x hx => ?_).trans (List.map_id _)
  have := h x hx
  show (((x : Int).toNat).toUInt8).toNat = x
  simp
  omega

/-- an exception held by the frame L comes back to it -/
theorem came_back {M : Model} {A : Around} {E : Value → Shared → Prop} {s : Shared} {base : Heap} {l : List Env} {env : Env} {e L : Addr} {cls a0 : Value} (hf : env.frame = some L) (hh : Heap.HeldW base l e cls a0 L s.heap)
    (hE : ∀ h', Heap.HeldW base l e cls a0 L h' → (∀ b o, s.heap.get? b = some o → (∀ vs, o.data ≠ .fields vs) → h'.get? b = some o) → E (.ref e) { s with heap := h' }) : cameBackBy M A env E (.ref e) s := by
  obtain ⟨f1, f2, f3, oe, vs, T, oT, ts, he, hcls, hd, h1, hnT, hTe, hT, hdT, h3⟩ := hh
  have hsz3 : 3 < ts.size := (Array.getElem?_eq_some_iff.mp h3).1
  have other : ∀ b, b ≠ T → (s.heap.update T (Obj.mapFields (·.setIfInBounds 3 (rawInt L)))).get? b = s.heap.get? b :=
    fun b hb => Heap.get?_update_other _ _ (Ne.symm hb)
  have noRecord : ∀ b o, s.heap.get? b = some o → (∀ vs, o.data ≠ .fields vs) → b ≠ T := fun b o hb hnf q => by
    rw [q, hT] at hb; injection hb with hb; subst hb; exact hnf ts hdT
  unfold cameBackBy
  refine wpAny_bind (wpAny_field he hd h1 ?_)
  show wpAny M A (if (Value.ref T == Value.none) = true then _ else _) _ _ _
  rw [if_neg (by simp)]
  unfold setFlight
  refine wpAny_bind (wpAny_field he hd h1 ?_)
  rw [if_pos (show (Value.ref T != Value.none) = true from by simp), hf]
  refine wpAny_setField hT hdT hsz3 (hE _ ⟨fun b o hbo => (other b fun q => by rw [q, hnT] at hbo; cases hbo).trans (f1 b o hbo), f2,
    f3.of_keeps fun b o hb hnf => ⟨o, (other b (noRecord b o hb hnf)).trans hb, rfl⟩, ?_⟩ fun b o hb hnf => (other b (noRecord b o hb hnf)).trans hb)
  exact ⟨oe, vs, T, _, _, (other e (Ne.symm hTe)).trans he, hcls, hd, h1, hnT, hTe, Heap.get?_update_self _ hT (Obj.isFreed_of_fields (Obj.data_mapFields hdT _)), Obj.data_mapFields hdT _, by simp [hsz3]⟩

/-- an exception that a callee raised comes through a loop of the frame to its own try -/
theorem caught {M : Model} {A : Around} {E : Value → Shared → Prop} {Q : Flow → Shared → Prop} {s : Shared} {base : Heap} {outer : List Env} {env : Env} {e L : Addr} {cls a0 : Value} {hs : List ExceptHandler} (hfr : A.frames = some (env :: outer)) (hf : env.frame = some L)
    (hfly : Heap.FlyingW base (env :: outer) e cls a0 s.heap)
    (hk : ∀ h', Heap.FlyingW base (env :: outer) e cls a0 h' → s.heap.UpToSlots h' → wpAny M A (handleBy (.ref e) env hs) Q E { s with heap := h' }) :
    notedBy M A env (fun e s' => cameBackBy M A env (fun e s₁ => wpAny M A (noteFrame e env) (fun _ s₂ => wpAny M A (setFlight e none) (fun _ s₃ => wpAny M A (handleBy e env hs) Q E s₃) E s₂) E s₁) e s') (.ref e) s := by
  unfold notedBy
  refine wpAny_looks_onW hfr hf hfly fun h1 held1 up1 => ?_
  refine came_back (s := { s with heap := h1 }) hf held1 fun h2 held2 up2 => ?_
  refine wpAny_noteFrame_againW (s := { s with heap := h2 }) hf held2.2.2.2 ?_
  refine wpAny_landsW (s := { s with heap := h2 }) held2 fun h3 fly3 up3 => ?_
  exact hk h3 fly3 ((up1.trans fun b o q hn => ⟨o.slots, up2 b o q hn⟩).trans up3)

/-- between the numbers read -/
inductive NumI (s : Shared) (L I lN l : Addr) (ns : List Int) (tB : Tok) (Vs : List Nat) (n : Nat) (s' : Shared) : Prop
  | mk (h : Heap) (tk j : Nat) (dn rt os' : List Nat) (ws : List Value) (e : Nat) (oI' : Obj) (h09 : s' = { s with heap := h, toks := tk }) (h19 : Fr s.heap L h (fm [("left", some (.ref I)), ("numbers", some (.ref lN)), ("octets", some (.ref l))])) (h29 : News s.heap L h [(lN, listOf ws.toArray e), (I, oI')]) (h39 : oI'.cls = .type "bytes_iterator") (h49 : oI'.data = .fields #[.bytes (byteArr ns) tB, .int j 0]) (h59 : (bNats (byteArr ns)).drop j = os') (h69 : Dec os' rt) (h79 : dn ++ rt = Vs) (h89 : IntsAre ws (dn.map fun (x : Nat) => (x : Int))) (h99 : n = rt.length) : NumI s L I lN l ns tB Vs n s'

set_option maxHeartbeats 4000000 in
theorem numbers_spec {w : World} {mean : ExcName → Option Value} {mg mb : Str → Option Value} {base : Heap} {outer : List Env} {dp un : Nat} {gd : Option (List Code)} {s : Shared} {Q E : Value → Shared → Prop}
    (G : Gd w mean mg mb (aA dp un gd outer) base outer s.heap) (Xb : (hd.heap_39 w.params).In base) (Tb : Top hd.view_39 (looseW hd.view_39 [Str.ofString "Whitespace"]) mean mg mb base) (hdp : dp + 10 < recursionLimit) (hun : un + 100 < cLine)
    {l : Addr} {ns : List Int} (hl : IntsAt s.heap l ns) {os Vs : List Nat} (hns : ns = os.map fun (x : Nat) => (x : Int)) (hos : ∀ x ∈ os, x < 256) (hlen : os.length ≤ 10000) (hdec : Dec os Vs) (hVs : ∀ V ∈ Vs, V ≤ 1000000)
    (hret : ∀ a h' tk', (∀ x o, x ∉ frs outer → s.heap.get? x = some o → h'.get? x = some o) → (∀ x o, x ∈ frs outer → s.heap.get? x = some o → ∃ sl, h'.get? x = some { o with slots := sl }) → IntsAt h' a (Vs.map fun (x : Nat) => (x : Int)) → s.heap.get? a = none → Q (.ref a) { s with heap := h', toks := tk' }) :
    wpAny (model PySem.Challenge.rw_pg0146_01.row.prog w) (aA dp un gd outer) (call (.ref 142) [.ref l]) Q E s := by
  w_top off
  obtain ⟨X, T, B⟩ := id G
  revert X; k_fill; intro X
  refine enter0 (binds := [("octets", .ref l)]) G (by omega) (by k_dflt k_is) (by k_dflt k_is) (BindsTo.of_eq rfl) (locs rfl) [("octets", some (.ref l))] rfl ?_ rfl rfl rfl (by decide)
  intro L' h₁ tk F' N'
  have hroom : Unit → _ := fun _ => And.intro hdp hun
  clear hdp hun
  obtain ⟨vs, hlv, hI⟩ := hl
  have hI0 : ∀ x ∈ ns, 0 ≤ x ∧ x < 256 := by
    rw [hns]
    intro x hx
    obtain ⟨y, hy, rfl⟩ := List.mem_map.mp hx
    have := hos y hy
    omega
  have hln : ns.length ≤ 10000 := by rw [hns]; simpa using hlen
  repeat' (
    (fail_if_success (with_reducible show wpAny _ _ (exec (Stmt.For _ _ _ _ _) _) _ _ _));
    (fail_if_success (with_reducible show wpAny _ _ (exec (Stmt.Try _ _ _ _ _) _) _ _ _));
    (fail_if_success (with_reducible show wpAny _ _ (exec (Stmt.While _ _ _ _) _) _ _ _));
    (fail_if_success (with_reducible show wpAny _ _ (PySem.call (Value.ref _) _ _) _ _ _));
    (fail_if_success (with_reducible show TurnQ _ _ _ _ _ _ _ _ _ _));
    (first | walk1 | (dsimp only; walk1)); (first | (with_reducible show wpAny _ _ (subscriptTail _ _ _ _) _ _ _) | (try dsimp only)))
  rename_i hh0 tB kk F0 N0 kbaIn kbaS
  refine iter_bytes (by assumption) (by assumption) ?_
  intro I h2 oI F2 N2 hlt2 hoc hod
  have hbn := bNats_make hos
  rw [← hns] at hbn
  repeat' (
    (fail_if_success (with_reducible show wpAny _ _ (exec (Stmt.For _ _ _ _ _) _) _ _ _));
    (fail_if_success (with_reducible show wpAny _ _ (exec (Stmt.Try _ _ _ _ _) _) _ _ _));
    (fail_if_success (with_reducible show wpAny _ _ (exec (Stmt.While _ _ _ _) _) _ _ _));
    (fail_if_success (with_reducible show wpAny _ _ (PySem.call (Value.ref _) _ _) _ _ _));
    (fail_if_success (with_reducible show TurnQ _ _ _ _ _ _ _ _ _ _));
    (first | walk1 | (dsimp only; walk1)); (first | (with_reducible show wpAny _ _ (subscriptTail _ _ _ _) _ _ _) | (try dsimp only)))
  refine wpAny_Try_except ?_
  walk1
  rename Fr _ _ _ _ => F3
  rename News _ _ _ _ => N3
  have hnl : ∀ x y : Addr, x < y → x ≠ y := fun x y h => Nat.ne_of_lt h
  rename I < _ => hIl
  rename_i lN hA D0 hB hC hD hE hG
  refine wpAny_While (codeAny_whileLoop (NumI s L' I lN l ns tB Vs) ?_ Vs.length ?_)
  · rintro n s' ⟨h, tk, j, dn, rt, os', ws, e, oI', rfl, F4, N4, hc4, hd4, hdr, hde, hap, hI4, rfl⟩
    repeat' (
      (fail_if_success (with_reducible show wpAny _ _ (exec (Stmt.For _ _ _ _ _) _) _ _ _));
      (fail_if_success (with_reducible show wpAny _ _ (exec (Stmt.Try _ _ _ _ _) _) _ _ _));
      (fail_if_success (with_reducible show wpAny _ _ (exec (Stmt.While _ _ _ _) _) _ _ _));
      (fail_if_success (with_reducible show wpAny _ _ (PySem.call (Value.ref _) _ _) _ _ _));
      (fail_if_success (with_reducible show TurnQ _ _ _ _ _ _ _ _ _ _));
      (first | walk1 | (dsimp only; walk1)); (first | (with_reducible show wpAny _ _ (subscriptTail _ _ _ _) _ _ _) | (try dsimp only)))
    have hIL : L' ≠ I := Ne.symm (N4 _ (.tail _ (.head _))).2.1
    have hI0' : s.heap.get? I = none := (N4 _ (.tail _ (.head _))).2.2
    have hIl4 : lN ≠ I := Nat.ne_of_gt hIl
    have FH : Fr s.heap L' (h.hide I) (fm [("left", some (.ref I)), ("numbers", some (.ref lN)), ("octets", some (.ref l))]) := by
      obtain ⟨oL, es, ep, hoL, r⟩ := F4.ns
      refine ⟨⟨oL, es, ep, (Heap.hide_ne _ hIL).trans hoL, r⟩, fun b o q => (Heap.hide_ne _ ?_).trans (F4.keep b o q), F4.above⟩
      rintro rfl
      rw [hI0'] at q; cases q
    have hit4 : KBw.IsBytesIter h I (byteArr ns) tB j := ⟨oI', (N4 _ (.tail _ (.head _))).1, hc4, hd4⟩
    cases hde with
    | nil =>
      refine varint_end (Gd.next X T B FH rfl rfl) (by exact roomD (hroom ()).1 (by decide)) (by first | exact roomU (hroom ()).2 (by decide) | exact roomU3 (hroom ()).2 (by decide)) hit4 ?_ ?_
      · have : (bNats (byteArr ns)).length ≤ j := List.drop_eq_nil_iff.mp hdr
        unfold bNats at this
        rw [List.length_map, Array.length_toList] at this
        exact Array.getElem?_eq_none this
      · intro e2 a0 h5 tk5 hfly hsl
        rw [List.append_nil] at hap
        subst hap
        refine caught rfl rfl hfly ?_
        intro h6 hfly6 hup
        -- what stands behind the exception
        have hL5 : frs (envOf "_law_numbers" { kind := ScopeKind.function, names := [("octets", .local), ("left", .local), ("numbers", .local), ("iter", .globalImplicit), ("bytes", .globalImplicit), ("_parse_varint", .globalImplicit), ("StopIteration", .globalImplicit)], isGenerator := false, isCoroutine := false, more := [] } L' 142 (Value.ref 141) :: outer) = L' :: frs outer := rfl
        have keepX : ∀ hX : Heap, (rest0 h I (envOf "_law_numbers" { kind := ScopeKind.function, names := [("octets", .local), ("left", .local), ("numbers", .local), ("iter", .globalImplicit), ("bytes", .globalImplicit), ("_parse_varint", .globalImplicit), ("StopIteration", .globalImplicit)], isGenerator := false, isCoroutine := false, more := [] } L' 142 (Value.ref 141) :: outer)).StaysIn hX → ∀ x o, x ≠ I → x ≠ L' → x ∉ frs outer → h.get? x = some o → hX.get? x = some o := by
          intro hX hst x o h1 h2 h3 q
          refine hst x o (hideAll_get _ q fun hm => ?_)
          rcases List.mem_cons.mp hm with r | r
          · exact h1 r
          · rcases List.mem_cons.mp (hL5 ▸ r) with r | r
            · exact h2 r
            · exact h3 r
        have slotX : ∀ hX : Heap, h5.UpToSlots hX → ∀ x o, x ∈ L' :: frs outer → h.get? x = some o → (∀ vs, o.data ≠ .fields vs) → ∃ sl, hX.get? x = some { o with slots := sl } := by
          intro hX hupX x o hx q hn
          obtain ⟨sl, hq⟩ := hsl x o (hL5 ▸ hx) q
          obtain ⟨sl2, hq2⟩ := hupX x _ hq hn
          exact ⟨sl2, hq2⟩
        have hout : ∀ x, x ∈ frs outer → ∃ o, s.heap.get? x = some o ∧ ∀ vs, o.data ≠ .fields vs := fun x hx => (B.frames.mem hx).2
        have hbg : ∀ x o, base.get? x = some o → (hideAll s.heap (frs outer)).get? x = some o := fun x o q => hideAll_get _ (B.stays x o q) fun hm => by
          have := (B.frames.mem hm).1
          rw [this] at q; cases q
        have keepS : ∀ hX : Heap, (∀ x o, x ≠ I → x ≠ L' → x ∉ frs outer → h.get? x = some o → hX.get? x = some o) → ∀ x o, x ∉ frs outer → s.heap.get? x = some o → hX.get? x = some o := by
          intro hX hkX x o hx q1
          refine hkX x o ?_ ?_ hx (F4.keep x o q1)
          · rintro rfl; rw [hI0'] at q1; cases q1
          · exact Nat.ne_of_lt (Nat.lt_of_lt_of_le (Heap.lt_size q1) F4.above)
        have frX : ∀ hX : Heap, (∀ x o, x ≠ I → x ≠ L' → x ∉ frs outer → h.get? x = some o → hX.get? x = some o) → h5.UpToSlots hX → Fr (hideAll s.heap (frs outer)) L' hX (fm [("left", some (.ref I)), ("numbers", some (.ref lN)), ("octets", some (.ref l))]) := by
          intro hX hkX hupX
          obtain ⟨oL, es, ep, hoL, hdL, r⟩ := F4.ns
          obtain ⟨sl, hq⟩ := slotX hX hupX L' oL (.head _) hoL fun vs q => by rw [hdL] at q; cases q
          refine ⟨⟨_, es, ep, hq, hdL, r⟩, fun x o q => ?_, by rw [hideAll_size]; exact F4.above⟩
          exact keepS hX hkX x o (fun hm => by rw [hideAll_none _ hm] at q; cases q) (of_hideAll _ q)
        have T6 := Tb.keeps hbg
        refine wpAny_handleBy_builtin (X := "StopIteration") (T := "StopIteration") (b := true) (isSubtype_of_subB (by decide +kernel)) (isSubtype_of_subB (by decide +kernel)) (isSubtype_of_subB (by decide +kernel)) ?_
        refine tp_builtin (frX h6 (keepX h6 hfly6.1) hup) T6 (by decide +kernel) ⟨rfl, hfly6.there, ?_⟩
        rw [if_pos rfl]
        refine lands_againW (s := { s with heap := h6, toks := tk5 }) hfly6 fun h7 hfly7 hup7 => ?_
        have k7 := keepX h7 hfly7.1
        have u7 : h5.UpToSlots h7 := hup.trans hup7
        have F7 := frX h7 k7 u7
        have hlN : h7.get? lN = some (listOf ws.toArray e) := by
          have q := N4 _ (.head _)
          refine k7 lN _ hIl4 q.2.1 (fun hm => ?_) q.1
          obtain ⟨o, ho, _⟩ := hout _ hm
          rw [q.2.2] at ho; cases ho
        refine wpAny_mono (E := fun _ _ => False) ?_ (fun _ _ x => x) fun _ _ x => x.elim
        have hlN0 := (N4 _ (.head _)).2.2
        have kF4 := F4.keep
        clear F4 N4 FH
        repeat' (
          (fail_if_success (with_reducible show wpAny _ _ (exec (Stmt.For _ _ _ _ _) _) _ _ _));
          (fail_if_success (with_reducible show wpAny _ _ (exec (Stmt.Try _ _ _ _ _) _) _ _ _));
          (fail_if_success (with_reducible show wpAny _ _ (exec (Stmt.While _ _ _ _) _) _ _ _));
          (fail_if_success (with_reducible show wpAny _ _ (PySem.call (Value.ref _) _ _) _ _ _));
          (fail_if_success (with_reducible show TurnQ _ _ _ _ _ _ _ _ _ _));
          (first | walk1 | (dsimp only; walk1)); (first | (with_reducible show wpAny _ _ (subscriptTail _ _ _ _) _ _ _) | (try dsimp only)))
        refine hret _ _ _ (keepS h7 k7) (fun x o hx q => ?_) ⟨ws, isList_of hlN, hI4⟩ ?_
        · obtain ⟨o', ho', hd'⟩ := hout x hx
          rw [ho'] at q
          cases q
          exact slotX h7 u7 x o (.tail _ hx) (kF4 x o ho') hd'
        · exact hlN0
    | @cons c0 V0 bs0 r0 Vs0 hv hde' =>
      refine varint_spec (Gd.next X T B FH rfl rfl) (by exact roomD (hroom ()).1 (by decide)) (by first | exact roomU (hroom ()).2 (by decide) | exact roomU3 (hroom ()).2 (by decide)) hit4 hdr hv ?_ ?_
      · refine hVs _ ?_
        rw [← hap]
        exact List.mem_append_right _ (.head _)
      · intro t5 h5 tk5 j5 hk5 hit5 hdr5
        obtain ⟨oI5, hoI5, hc5, hd5⟩ := hit5
        have F5 : Fr s.heap L' h5 (fm [("left", some (.ref I)), ("numbers", some (.ref lN)), ("octets", some (.ref l))]) := by
          obtain ⟨oL, es, ep, hoL, r⟩ := F4.ns
          refine ⟨⟨oL, es, ep, hk5 _ _ hIL hoL, r⟩, fun b o q => hk5 b o ?_ (F4.keep b o q), F4.above⟩
          rintro rfl
          rw [hI0'] at q; cases q
        have N5 : News s.heap L' h5 [(lN, listOf ws.toArray e), (I, oI5)] := by
          refine List.forall_mem_cons.mpr ⟨⟨hk5 _ _ hIl4 (N4 _ (.head _)).1, (N4 _ (.head _)).2⟩, List.forall_mem_cons.mpr ⟨⟨hoI5, (N4 _ (.tail _ (.head _))).2⟩, List.forall_mem_nil _⟩⟩
        have hl5 : (dn.map fun (x : Nat) => (x : Int)).length ≤ 10000 := by
          have := Dec.le hdec
          rw [← hap] at this
          simp only [List.length_append, List.length_cons, List.length_map] at this ⊢
          omega
        clear F4 N4 FH
        repeat' (
          (fail_if_success (with_reducible show wpAny _ _ (exec (Stmt.For _ _ _ _ _) _) _ _ _));
          (fail_if_success (with_reducible show wpAny _ _ (exec (Stmt.Try _ _ _ _ _) _) _ _ _));
          (fail_if_success (with_reducible show wpAny _ _ (exec (Stmt.While _ _ _ _) _) _ _ _));
          (fail_if_success (with_reducible show wpAny _ _ (PySem.call (Value.ref _) _ _) _ _ _));
          (fail_if_success (with_reducible show @Exists _ _));
          (fail_if_success (with_reducible show TurnQ _ _ _ _ _ _ _ _ _ _));
          (first | walk1 | (dsimp only; walk1)); (first | (with_reducible show wpAny _ _ (subscriptTail _ _ _ _) _ _ _) | (try dsimp only)))
        rename Fr _ _ _ _ => F9
        rename News _ _ _ _ => N9
        refine ⟨_, Nat.lt_succ_self _, _, _, j5, dn ++ [V0], Vs0, r0, ws ++ [.int V0 t5], e + 1, oI5, rfl, F9, ?_, hc5, hd5, hdr5, hde', ?_, ?_, rfl⟩
        · refine cast (congrArg _ ?_) N9
          simp
        · rw [← hap]; simp
        · rw [List.map_append]
          exact hI4.append (.cons _ _ .nil)
  · refine ⟨_, _, 0, [], Vs, os, [], 0, oI, rfl, ?_, kst_newsOf N3 ?_, hoc, hod, hbn, hdec, rfl, .nil, rfl⟩
    · refine cast (congrArg _ ?_) F3
      first | (refine fm_s1 ?_; rfl) | (refine fm_s2 ?_; rfl) | (refine fm_s3 ?_; rfl) | (refine fm_s4 ?_; rfl) | (refine fm_s5 ?_; rfl) | (refine fm_s6 ?_; rfl)
    · refine List.forall_mem_cons.mpr ⟨by k_mem, List.forall_mem_cons.mpr ⟨by k_mem, List.forall_mem_nil _⟩⟩


section
variable {w : World} {mean : ExcName → Option Value} {mg mb : Str → Option Value} {base : Heap} {outer : List Env} {A : Around}
/-- entering a def with the objects kn on its ledger -/
theorem enterN {dp un : Nat} {gd : Option (List Code)} {s : Shared} {R : Result → Shared → Prop} {name qual : Str} {params : Arguments} {body : List Stmt} {scope : Scope} {dV kV doc pm cdv ct oc : Value} {an od : Option Addr} {osl : Array (Option Value)} {f : Addr} {args : Args} {binds : List (Str × Value)} (kn : List (Addr × Obj))
    (G : Gd w mean mg mb (aA dp un gd outer) base outer (hideAll s.heap (kn.map (·.1)))) (hkn : ∀ p ∈ kn, s.heap.get? p.1 = some p.2) (hroom : dp < recursionLimit)
    (ho : List.lookup f (hd.heap_39 w.params) = some ⟨oc, od, .func (fnOf name qual params body scope dV kV doc pm an cdv ct), osl⟩) (hcd : codeIn (hd.heap_39 w.params) cdv qual = true)
    (hbind : BindsTo s (fnOf name qual params body scope dV kV doc pm an cdv ct) args binds) (hloc : ∀ y ∈ binds, scope.names.lookup y.1 = some .local)
    (fr : List (Str × Option Value)) (hfr : binds.reverse.map (fun p => (p.1, some p.2)) = fr)
    (h : ∀ hB L' h₁ tk, hideAll s.heap (kn.map (·.1)) = hB → (hd.heap_39 w.params).In hB → Top hd.view_39 (looseW hd.view_39 [Str.ofString "Whitespace"]) mean mg mb hB → Below (aA dp un gd outer) base outer hB →
      Fr hB L' h₁ (fm fr) → News hB L' h₁ kn → (∀ p ∈ kn, p.1 < L') →
      wpAny (model PySem.Challenge.rw_pg0146_01.row.prog w) ((aA dp un gd outer).deeper (envOf qual scope L' f cdv)) (execs body (envOf qual scope L' f cdv))
        (fun fl s' => R (.ok (.ret (match fl with | .ret v => v | _ => .none))) s') (fun _ _ => False)
        { s with heap := h₁, toks := tk })
    (hco : scope.isCoroutine = false) (hgen : scope.isGenerator = false) (hk : scope.kind = .function)
    (hcell : ∀ x ∈ scope.names, x.2 ≠ .cell) : codeAny (model PySem.Challenge.rw_pg0146_01.row.prog w) (aA dp un gd outer) (.call (.ref f) args) R s := by
  have X := Frag.In.keeps G.X fun b o e => of_hideAll _ e
  have T := G.T.keeps fun b o e => of_hideAll _ e
  refine codeAny_call_def (fd := fnOf name qual params body scope dV kV doc pm an cdv ct) (body := body) (binds := binds) hroom (X _ _ ho) rfl T.nolimit (codeRec_of X hcd) rfl hbind hcell hloc (fun h₁ hns hk₁ => ?_) hco hgen hk
  refine wpAny_mono (h _ _ h₁ _ rfl G.X G.T G.B ⟨by rw [← hfr, ← lookup_fm]; exact hns, fun b o e => hk₁ b o (of_hideAll _ e), by rw [hideAll_size]; exact Nat.le_refl _⟩ (fun p hp => ?_) fun p hp => Heap.lt_size (hkn p hp)) (fun _ _ x => x) fun _ _ x => x.elim
  exact ⟨hk₁ _ _ (hkn p hp), Nat.ne_of_lt (Heap.lt_size (hkn p hp)), hideAll_none _ (List.mem_map_of_mem hp)⟩
theorem Gd.keeps {dp un dp' un' : Nat} {gd gd' : Option (List Code)} {h h' : Heap} (G : Gd w mean mg mb (aA dp un gd outer) base outer h) (k : Kp h h') : Gd w mean mg mb (aA dp' un' gd' outer) base outer h' :=
  ⟨Frag.In.keeps G.X k, G.T.keeps k, ⟨rfl, fun b o e => k b o (G.B.stays b o e), G.B.frames.of_keeps fun b o e _ => ⟨o, k b o e, rfl⟩⟩⟩
end

theorem News.neq {h₀ h : Heap} {L : Addr} {news : List (Addr × Obj)} (N : News h₀ L h news) {a b : Addr} {o o' : Obj} (ha : (a, o) ∈ news) (hb : (b, o') ∈ news) (hne : o.cls ≠ o'.cls) : (a : Nat) ≠ b := by
  intro e
  have e2 : a = b := e
  rw [e2] at ha
  have := (N _ ha).1.symm.trans (N _ hb).1
  exact hne (congrArg Obj.cls (Option.some.inj this))
theorem News.sub {h₀ h : Heap} {L : Addr} {news nx : List (Addr × Obj)} (N : News h₀ L h news) (hs : ∀ p ∈ nx, p ∈ news) : News h₀ L h nx := fun p hp => N p (hs p hp)
theorem Kp.none {h h' : Heap} (k : Kp h h') {a : Addr} (e : h'.get? a = none) : h.get? a = none := by
  cases hq : h.get? a with
  | none => rfl
  | some o => rw [k _ _ hq] at e; cases e
theorem four {h h₀ h' : Heap} {L : Addr} {news : List (Addr × Obj)} {a b c d : Addr × Obj} (N : News h₀ L h' news) (kp : Kp h h₀) (ha : a ∈ news) (hb : b ∈ news) (hc : c ∈ news) (hd : d ∈ news) : ∀ p ∈ [a, b, c, d], h'.get? p.1 = some p.2 ∧ h.get? p.1 = none :=
  have f : ∀ p ∈ news, h'.get? p.1 = some p.2 ∧ h.get? p.1 = none := fun p hp => ⟨(N p hp).1, kp.none (N p hp).2.2⟩
  List.forall_mem_cons.mpr ⟨f _ ha, List.forall_mem_cons.mpr ⟨f _ hb, List.forall_mem_cons.mpr ⟨f _ hc, List.forall_mem_cons.mpr ⟨f _ hd, List.forall_mem_nil _⟩⟩⟩⟩
/-- Whitespace's reckoning, sign by sign: the runs ahead of tabs, the blanks since, all signs, tabs -/
structure Wst where
  count : List Int
  b : Nat
  n : Nat
  nt : Nat
noncomputable def Wst.pad (st : Wst) : List Int := if st.count.length ≤ st.b then st.count ++ List.replicate (st.b - st.count.length + 1) 0 else st.count
noncomputable def Wst.step (st : Wst) (c : Nat) : Wst := if c = 32 then ⟨st.count, st.b + 1, st.n + 1, st.nt⟩ else ⟨st.pad.set st.b (st.pad.getD st.b 0 + 1), 0, st.n + 1, st.nt + 1⟩
noncomputable def wst (l : List Nat) : Wst := l.foldl Wst.step ⟨[], 0, 0, 0⟩

theorem wst_snoc (l : List Nat) (c : Nat) : wst (l ++ [c]) = (wst l).step c := by simp [wst]
theorem Wst.pad_len (st : Wst) : st.pad.length = max st.count.length (st.b + 1) := by
  unfold Wst.pad
  split
  · simp; omega
  · omega
theorem snoc_ind {α : Type} {P : List α → Prop} (h0 : P []) (h1 : ∀ l a, P l → P (l ++ [a])) (l : List α) : P l := by
  have : ∀ r : List α, P r.reverse := by
    intro r
    induction r with
    | nil => exact h0
    | cons a r ih => rw [List.reverse_cons]; exact h1 _ _ ih
  simpa using this l.reverse
theorem wst_bd (l : List Nat) : (wst l).b ≤ l.length ∧ (wst l).count.length ≤ l.length ∧ (wst l).n = l.length ∧ (wst l).nt ≤ l.length := by
  refine snoc_ind (P := fun l => (wst l).b ≤ l.length ∧ (wst l).count.length ≤ l.length ∧ (wst l).n = l.length ∧ (wst l).nt ≤ l.length) ?_ ?_ l
  · simp [wst]
  · intro l c ih
    rw [wst_snoc]
    unfold Wst.step
    by_cases h : c = 32
    · rw [if_pos h]; simp; omega
    · rw [if_neg h]
      simp only [List.length_set, Wst.pad_len, List.length_append, List.length_cons, List.length_nil]
      omega

/-- the objects of one Whitespace -/
inductive WsKn (w : World) (x : Addr) (st : Wst) (kn : List (Addr × Obj)) : Prop
  | mk (dx T cT : Addr) (vs : List Value) (lead : Str) (t1 tr tn tt tm ts an at' tb : Tok) (h09 : kn = [(x, instObj 90 dx), (dx, dictOf [⟨PyData.keyHash w.params "raw", .str "raw" tr, .str lead t1⟩, ⟨PyData.keyHash w.params "n", .str "n" tn, .int st.n an⟩, ⟨PyData.keyHash w.params "nt", .str "nt" tt, .int st.nt at'⟩,
        ⟨PyData.keyHash w.params "norm", .str "norm" tm, .ref T⟩, ⟨PyData.keyHash w.params "is_simple", .str "is_simple" ts, .bool (decide ((st.count.length : Int) ≤ 1))⟩] 5),
      (T, { cls := .type "tuple", data := .seq #[.ref cT, .int st.b tb] }), (cT, { cls := .type "tuple", data := .seq vs.toArray })]) (h19 : IntsAre vs st.count) : WsKn w x st kn

/-- between the turns over a lead's signs -/
inductive WsJ (w : World) (lead : Str) (t1 : Tok) (x dx : Addr) (st : Wst) (m : Str → Option Value) (news : List (Addr × Obj)) : Prop
  | mk (vch : Option Value) (c : Addr) (vs : List Value) (e : Nat) (tb tn tt tr : Tok) (hm : m = fm [("ch", vch), ("nt", some (.int st.nt tt)), ("n", some (.int st.n tn)), ("b", some (.int st.b tb)), ("count", some (.ref c)),
        ("S", some (.str (Str.ofString " ") 220)), ("T", some (.str (Str.ofString "\t") 221)), ("ws", some (.str lead t1)), ("self", some (.ref x))])
    (hn : news = [(c, listOf vs.toArray e), (x, instObj 90 dx), (dx, dictOf [⟨PyData.keyHash w.params "raw", .str "raw" tr, .str lead t1⟩] 1)]) (hI : IntsAre vs st.count) (hxc : @LT.lt Nat _ x c) : WsJ w lead t1 x dx st m news

set_option maxHeartbeats 8000000 in
theorem ws_spec {w : World} {mean : ExcName → Option Value} {mg mb : Str → Option Value} {base : Heap} {outer : List Env} {dp un : Nat} {gd : Option (List Code)} {s : Shared} {Q E : Value → Shared → Prop}
    (G : Gd w mean mg mb (aA dp un gd outer) base outer s.heap) (hdp : dp + 10 < recursionLimit) (hun : un + 100 < cLine)
    {lead : Str} {t1 : Tok} (hlen : lead.length ≤ 100) (hws : ∀ c ∈ lead.cps.toList, c = 32 ∨ c = 9)
    (hret : ∀ x kn h' tk', Kp s.heap h' → WsKn w x (wst lead.cps.toList) kn → (∀ p ∈ kn, h'.get? p.1 = some p.2 ∧ s.heap.get? p.1 = none) → Q (.ref x) { s with heap := h', toks := tk' }) :
    wpAny (model PySem.Challenge.rw_pg0146_01.row.prog w) (aA dp un gd outer) (call (.ref 90) [.str lead t1]) Q E s := by
  w_top off
  obtain ⟨X, T, B⟩ := id G
  revert X; k_fill; intro X
  obtain ⟨h, g, d, t, os⟩ := s
  refine wpAny_call ?_
  refine make_core (makes_of X (by k_dflt k_is)) (looks_findIn X (r := some (.ref 45)) (by k_dflt k_is)) (fun self => bind_fn X self (by k_dflt k_is)) (.inl (by decide)) ?_
  have kp : Kp h (hideAll ((h.push emptyDict).push (instObj 90 h.objs.size)) [h.objs.size + 1, h.objs.size]) := fun b o e => by
    have hb := Heap.lt_size e
    refine hideAll_get _ (Heap.get?_push_of_some _ (Heap.get?_push_of_some _ e)) fun hm => ?_
    rcases List.mem_cons.mp hm with r | r
    · exact ltLe hb (Nat.le_succ _) r
    · exact ltLe hb (Nat.le_refl _) (List.mem_singleton.mp r)
  show codeAny _ (aA (dp + 1) (un + 1) gd outer) _ _ _
  refine enterN (binds := [("self", .ref (h.objs.size + 1)), ("ws", .str lead t1)]) [(h.objs.size + 1, instObj 90 h.objs.size), (h.objs.size, emptyDict)] (Gd.keeps (dp' := dp + 1) (un' := un + 1) (gd' := gd) G kp) ?_ (by omega) (by k_dflt k_is) (by k_dflt k_is) (BindsTo.of_eq rfl) (locs rfl) [("ws", some (.str lead t1)), ("self", some (.ref (h.objs.size + 1)))] rfl ?_ rfl rfl rfl (by decide)
  · refine List.forall_mem_cons.mpr ⟨?_, List.forall_mem_cons.mpr ⟨?_, List.forall_mem_nil _⟩⟩
    · have := Heap.get?_push_size (h.push emptyDict) (o := instObj 90 h.objs.size) rfl
      rwa [Heap.size_push] at this
    · exact Heap.get?_push_of_some _ (Heap.get?_push_size _ rfl)
  · clear hdp hun
    generalize hgx : h.objs.size + 1 = x
    generalize hgd : h.objs.size = dx
    intro hB L' h₁ tk hBe X2 T2 B2 F' N' hlt
    have hx : dx < x := by omega
    repeat' (
      (fail_if_success (with_reducible show wpAny _ _ (exec (Stmt.For _ _ _ _ _) _) _ _ _));
      (fail_if_success (with_reducible show wpAny _ _ (exec (Stmt.Try _ _ _ _ _) _) _ _ _));
      (fail_if_success (with_reducible show wpAny _ _ (exec (Stmt.While _ _ _ _) _) _ _ _));
      (fail_if_success (with_reducible show wpAny _ _ (PySem.call (Value.ref _) _ _) _ _ _));
      (fail_if_success (with_reducible show wpAny _ _ (pyIter _) _ _ _));
      (fail_if_success (with_reducible show TurnQ _ _ _ _ _ _ _ _ _ _));
      (first | walk1 | (dsimp only; walk1)); (first | (with_reducible show wpAny _ _ (subscriptTail _ _ _ _) _ _ _) | (try dsimp only)))
    refine For_invV hB rfl rfl ?_ (fun _ => rfl) PassesOwn.never
    repeat' (
      (fail_if_success (with_reducible show wpAny _ _ (exec (Stmt.For _ _ _ _ _) _) _ _ _));
      (fail_if_success (with_reducible show wpAny _ _ (exec (Stmt.Try _ _ _ _ _) _) _ _ _));
      (fail_if_success (with_reducible show wpAny _ _ (exec (Stmt.While _ _ _ _) _) _ _ _));
      (fail_if_success (with_reducible show wpAny _ _ (PySem.call (Value.ref _) _ _) _ _ _));
      (fail_if_success (with_reducible show wpAny _ _ (pyIter _) _ _ _));
      (fail_if_success (with_reducible show TurnQ _ _ _ _ _ _ _ _ _ _));
      (first | walk1 | (dsimp only; walk1)); (first | (with_reducible show wpAny _ _ (subscriptTail _ _ _ _) _ _ _) | (try dsimp only)))
    rename Fr _ _ _ _ => F3
    rename News _ _ _ _ => N3
    refine str_loop (fun i => WsJ w lead t1 x dx (wst (lead.cps.toList.take i))) rfl rfl F3 (News.sub N3 (nx := [_, _, _]) (List.forall_mem_cons.mpr ⟨.head _, List.forall_mem_cons.mpr ⟨.tail _ (.tail _ (.head _)), List.forall_mem_cons.mpr ⟨.tail _ (.tail _ (.tail _ (.head _))), List.forall_mem_nil _⟩⟩⟩)) ⟨none, _, [], 0, _, _, _, _, by (first | (refine fm_s1 ?_; rfl) | (refine fm_s2 ?_; rfl) | (refine fm_s3 ?_; rfl) | (refine fm_s4 ?_; rfl) | (refine fm_s5 ?_; rfl) | (refine fm_s6 ?_; rfl)), rfl, .nil, ?_⟩ ?_ ?_
    · omega
    · rintro i ch u m₁ news₁ h3 tk3 I oI hc hne hJ F N
      obtain ⟨vch, c, vs, e, tb, tn, tt, tr, rfl, rfl, hI, hxc⟩ := hJ
      have hi : lead.cps.toList[i]? = some ch := by rw [← hc]; simp
      have hil : i < lead.cps.toList.length := (List.getElem?_eq_some_iff.mp hi).1
      have hll : lead.cps.toList.length ≤ 100 := hlen
      have e1 : lead.cps.toList.take (i + 1) = lead.cps.toList.take i ++ [ch] := by simp [List.take_add_one, hi]
      rw [e1, wst_snoc]
      have hbd := wst_bd (lead.cps.toList.take i)
      have htl : (lead.cps.toList.take i).length ≤ 100 := by rw [List.length_take]; omega
      generalize wst (lead.cps.toList.take i) = st at hI F hbd
      obtain ⟨cnt, b, n, nt⟩ := st
      dsimp only at hI F hbd ⊢
      have hb1 : b ≤ 100 := by omega
      have hb2 : cnt.length ≤ 100 := by omega
      have hch : ch = 32 ∨ ch = 9 := hws ch (List.mem_of_getElem? hi)
      have hIc := neN (hne _ (.head _))
      have hIx := neN (hne _ (.tail _ (.head _)))
      have hId := neN (hne _ (.tail _ (.tail _ (.head _))))
      dsimp only at hIc hIx hId
      have er : ∀ k : Nat, (List.replicate k [(0 : Int)]).flatten = List.replicate k 0 := by
        intro k
        induction k with
        | zero => rfl
        | succ k ih => rw [List.replicate_succ, List.flatten_cons, ih, List.replicate_succ]; rfl
      refine turn_of fun QT hgo => ?_
      repeat' (
        (fail_if_success (with_reducible show wpAny _ _ (exec (Stmt.For _ _ _ _ _) _) _ _ _));
        (fail_if_success (with_reducible show wpAny _ _ (exec (Stmt.Try _ _ _ _ _) _) _ _ _));
        (fail_if_success (with_reducible show wpAny _ _ (exec (Stmt.While _ _ _ _) _) _ _ _));
        (fail_if_success (with_reducible show wpAny _ _ (PySem.call (Value.ref _) _ _) _ _ _));
        (fail_if_success (with_reducible show wpAny _ _ (pyIter _) _ _ _));
        (fail_if_success (with_reducible show TurnQ _ _ _ _ _ _ _ _ _ _));
        (first | walk1 | (dsimp only; walk1)); (first | (with_reducible show wpAny _ _ (subscriptTail _ _ _ _) _ _ _) | (try dsimp only)))
      · have hc32 : ch = 32 := by
          rename (_ == _) = true => hq
          have := beq_iff_eq.mp hq
          injection this with h1
          injection h1 with h2
          injection h2
        refine hgo _ _ ?_
        unfold Wst.step
        rw [if_pos hc32]
        rename News _ _ _ _ => N9
        refine TurnQ.go (by assumption) N9 [_, _, _] (fun p h => h) (fun p h => hne p h) ⟨_, c, vs, e, _, _, _, tr, by (first | (refine fm_s1 ?_; rfl) | (refine fm_s2 ?_; rfl) | (refine fm_s3 ?_; rfl) | (refine fm_s4 ?_; rfl) | (refine fm_s5 ?_; rfl) | (refine fm_s6 ?_; rfl)), rfl, hI, hxc⟩
      · have hc9 : ch ≠ 32 := by
          rename (_ == Str.ofString " ") = false => hq
          rintro rfl
          exact absurd hq (by decide)
        rename (cnt.length : Int) ≤ (b : Int) => hcb
        refine hgo _ _ ?_
        unfold Wst.step
        rw [if_neg hc9]
        have ep : Wst.pad ⟨cnt, b, n, nt⟩ = cnt ++ (List.replicate ((b : Int) - (cnt.length : Int) + 1).toNat [(0 : Int)]).flatten := by
          unfold Wst.pad
          rw [if_pos (by dsimp only; omega), er]
          congr 2
          dsimp only; omega
        rw [ep]
        rename IntsAre (List.set _ _ _) _ => hI9
        rename News _ _ _ _ => N9
        rw [Int.toNat_natCast] at hI9 N9
        refine TurnQ.go (by assumption) N9 [(_, listOf (List.toArray _) 0), (x, instObj 90 dx), (dx, _)] ?_ ?_ ⟨_, _, _, 0, _, _, _, tr, by (first | (refine fm_s1 ?_; rfl) | (refine fm_s2 ?_; rfl) | (refine fm_s3 ?_; rfl) | (refine fm_s4 ?_; rfl) | (refine fm_s5 ?_; rfl) | (refine fm_s6 ?_; rfl)), rfl, hI9, ?_⟩
        · exact List.forall_mem_cons.mpr ⟨by k_mem, List.forall_mem_cons.mpr ⟨by k_mem, List.forall_mem_cons.mpr ⟨by k_mem, List.forall_mem_cons.mpr ⟨by k_mem, List.forall_mem_nil _⟩⟩⟩⟩
        · exact List.forall_mem_cons.mpr ⟨neN (by dsimp only; omega), List.forall_mem_cons.mpr ⟨hIx, List.forall_mem_cons.mpr ⟨hId, List.forall_mem_nil _⟩⟩⟩
        · omega
      · have hc9 : ch ≠ 32 := by
          rename (_ == Str.ofString " ") = false => hq
          rintro rfl
          exact absurd hq (by decide)
        rename ¬ ((cnt.length : Int) ≤ (b : Int)) => hcb
        refine hgo _ _ ?_
        unfold Wst.step
        rw [if_neg hc9]
        have ep : Wst.pad ⟨cnt, b, n, nt⟩ = cnt := by
          unfold Wst.pad
          rw [if_neg (by dsimp only; omega)]
        rw [ep]
        rename IntsAre (List.set _ _ _) _ => hI9
        rename News _ _ _ _ => N9
        rw [Int.toNat_natCast] at hI9 N9
        refine TurnQ.go (by assumption) N9 [(c, listOf (List.toArray _) _), (x, instObj 90 dx), (dx, _)] (fun p h => h) (fun p h => ?_) ⟨_, _, _, _, _, _, _, tr, by (first | (refine fm_s1 ?_; rfl) | (refine fm_s2 ?_; rfl) | (refine fm_s3 ?_; rfl) | (refine fm_s4 ?_; rfl) | (refine fm_s5 ?_; rfl) | (refine fm_s6 ?_; rfl)), rfl, hI9, hxc⟩
        rcases List.mem_cons.mp h with rfl | h
        · exact hIc
        · exact hne p (.tail _ h)
      · exfalso
        rename (_ == Str.ofString " ") = false => hq
        rename (_ == Str.ofString "\t") = false => hq2
        rcases hch with rfl | rfl
        · exact absurd hq (by decide)
        · exact absurd hq2 (by decide)
    · rintro m₁ news₁ h3 tk3 ⟨vch, c, vs, e, tb, tn, tt, tr, rfl, rfl, hI, hxc⟩ F N
      have e1 : lead.cps.toList.take lead.cps.size = lead.cps.toList := List.take_of_length_le (by simp)
      rw [e1] at F hI
      have hbd := wst_bd lead.cps.toList
      have hll : lead.cps.toList.length ≤ 100 := hlen
      generalize hst : wst lead.cps.toList = st at hI F hbd
      obtain ⟨cnt, b, n, nt⟩ := st
      dsimp only at hI F hbd
      have hb1 : b ≤ 100 := by omega
      have hb2 : cnt.length ≤ 100 := by omega
      repeat' (
        (fail_if_success (with_reducible show wpAny _ _ (exec (Stmt.For _ _ _ _ _) _) _ _ _));
        (fail_if_success (with_reducible show wpAny _ _ (exec (Stmt.Try _ _ _ _ _) _) _ _ _));
        (fail_if_success (with_reducible show wpAny _ _ (exec (Stmt.While _ _ _ _) _) _ _ _));
        (fail_if_success (with_reducible show wpAny _ _ (PySem.call (Value.ref _) _ _) _ _ _));
        (fail_if_success (with_reducible show wpAny _ _ (pyIter _) _ _ _));
        (fail_if_success (with_reducible show TurnQ _ _ _ _ _ _ _ _ _ _));
        (first | walk1 | (dsimp only; walk1)); (first | (with_reducible show wpAny _ _ (subscriptTail _ _ _ _) _ _ _) | (try dsimp only)))
      rename News _ _ _ _ => N9
      have q1 := News.neq N9 (.tail _ (.head _)) (.tail _ (.tail _ (.tail _ (.head _)))) (by intro e; cases e)
      have q2 := News.neq N9 (.tail _ (.head _)) (.tail _ (.tail _ (.tail _ (.tail _ (.head _))))) (by intro e; injection e with e; exact absurd e (by decide))
      have q3 := News.neq N9 (.tail _ (.head _)) (.tail _ (.tail _ (.head _))) (by intro e; injection e with e; exact absurd e (by decide))
      repeat' (
        (fail_if_success (with_reducible show wpAny _ _ (exec (Stmt.For _ _ _ _ _) _) _ _ _));
        (fail_if_success (with_reducible show wpAny _ _ (exec (Stmt.Try _ _ _ _ _) _) _ _ _));
        (fail_if_success (with_reducible show wpAny _ _ (exec (Stmt.While _ _ _ _) _) _ _ _));
        (fail_if_success (with_reducible show wpAny _ _ (PySem.call (Value.ref _) _ _) _ _ _));
        (fail_if_success (with_reducible show wpAny _ _ (pyIter _) _ _ _));
        (fail_if_success (with_reducible show TurnQ _ _ _ _ _ _ _ _ _ _));
        (first | walk1 | (dsimp only; walk1)); (first | (with_reducible show wpAny _ _ (subscriptTail _ _ _ _) _ _ _) | (try dsimp only)))
      rename Fr _ _ _ _ => F10
      rename News _ _ _ _ => N10
      have kp2 : Kp h hB := by rw [← hBe, ← hgd]; exact hgx ▸ kp
      rw [hst] at hret
      have hall := four N10 kp2 (.tail _ (.tail _ (.tail _ (.head _)))) (.tail _ (.tail _ (.tail _ (.tail _ (.head _))))) (.head _) (.tail _ (.head _))
      exact ⟨rfl, hret x _ _ _ (Kp.trans kp2 F10.keep) ⟨dx, _, _, vs, lead, t1, _, _, _, _, _, _, _, _, rfl, hI⟩ hall⟩

section
variable {w : World} {mean : ExcName → Option Value} {mg mb : Str → Option Value} {base : Heap} {outer : List Env} {A : Around}
/-- as enterN, for call -/
theorem enterN0 {dp un : Nat} {gd : Option (List Code)} {s : Shared} {Q E : Value → Shared → Prop} {name qual : Str} {params : Arguments} {body : List Stmt} {scope : Scope} {dV kV doc pm cdv ct oc : Value} {an od : Option Addr} {osl : Array (Option Value)} {f : Addr} {args : List Value} {binds : List (Str × Value)} (kn : List (Addr × Obj))
    (G : Gd w mean mg mb (aA dp un gd outer) base outer (hideAll s.heap (kn.map (·.1)))) (hkn : ∀ p ∈ kn, s.heap.get? p.1 = some p.2) (hroom : dp < recursionLimit)
    (ho : List.lookup f (hd.heap_39 w.params) = some ⟨oc, od, .func (fnOf name qual params body scope dV kV doc pm an cdv ct), osl⟩) (hcd : codeIn (hd.heap_39 w.params) cdv qual = true)
    (hbind : BindsTo s (fnOf name qual params body scope dV kV doc pm an cdv ct) ⟨args, []⟩ binds) (hloc : ∀ y ∈ binds, scope.names.lookup y.1 = some .local)
    (fr : List (Str × Option Value)) (hfr : binds.reverse.map (fun p => (p.1, some p.2)) = fr)
    (h : ∀ hB L' h₁ tk, (∀ h' news m, Fr hB L' h' m → News hB L' h' news → (∀ p ∈ kn, p ∈ news) → Kp s.heap h') → (hd.heap_39 w.params).In hB → Top hd.view_39 (looseW hd.view_39 [Str.ofString "Whitespace"]) mean mg mb hB → Below (aA dp un gd outer) base outer hB →
      Fr hB L' h₁ (fm fr) → News hB L' h₁ kn → (∀ p ∈ kn, p.1 < L') →
      wpAny (model PySem.Challenge.rw_pg0146_01.row.prog w) ((aA dp un gd outer).deeper (envOf qual scope L' f cdv)) (execs body (envOf qual scope L' f cdv))
        (fun fl s' => Q (match fl with | .ret v => v | _ => .none) s') (fun _ _ => False)
        { s with heap := h₁, toks := tk })
    (hco : scope.isCoroutine = false) (hgen : scope.isGenerator = false) (hk : scope.kind = .function)
    (hcell : ∀ x ∈ scope.names, x.2 ≠ .cell) : wpAny (model PySem.Challenge.rw_pg0146_01.row.prog w) (aA dp un gd outer) (call (.ref f) args) Q E s := by
  refine wpAny_call (enterN kn G hkn hroom ho hcd hbind hloc fr hfr (fun hB L' h₁ tk hBe X2 T2 B2 F' N' hlt => ?_) hco hgen hk hcell)
  refine h hB L' h₁ tk (fun h' news m F N hs b o e => ?_) X2 T2 B2 F' N' hlt
  by_cases hb : b ∈ kn.map (·.1)
  · obtain ⟨p, hp, rfl⟩ := List.mem_map.mp hb
    have := hkn p hp
    rw [this] at e
    cases e
    exact (N p (hs p hp)).1
  · exact F.keep b o (hBe ▸ hideAll_get _ e hb)
end
theorem News.keepsK {h₀ h h' : Heap} {L : Addr} {news : List (Addr × Obj)} (N : News h₀ L h news) (k : Kp h h') : News h₀ L h' news := fun p hp => ⟨k _ _ (N p hp).1, (N p hp).2⟩
theorem News.eqL {h₀ h : Heap} {L : Addr} {l l' : List (Addr × Obj)} (N : News h₀ L h l) (e : l = l') : News h₀ L h l' := e ▸ N
structure Wst.Ok (st : Wst) : Prop where
  c : st.count.length ≤ 100
  b : st.b ≤ 100
  n : st.n ≤ 100
  t : st.nt ≤ 100
  v : ∀ x ∈ st.count, 0 ≤ x ∧ x ≤ 100

set_option maxHeartbeats 8000000 in
theorem longest_spec {w : World} {mean : ExcName → Option Value} {mg mb : Str → Option Value} {base : Heap} {outer : List Env} {dp un : Nat} {gd : Option (List Code)} {s : Shared} {Q E : Value → Shared → Prop} {kn : List (Addr × Obj)} {x : Addr} {st : Wst}
    (G : Gd w mean mg mb (aA dp un gd outer) base outer (hideAll s.heap (kn.map (·.1)))) (hkn : ∀ p ∈ kn, s.heap.get? p.1 = some p.2) (hW : WsKn w x st kn) (ok : st.Ok) (hdp : dp + 5 < recursionLimit) (hun : un + 50 < cLine)
    (hret : ∀ t h' tk', Kp s.heap h' → Q (.int (max ((st.count.length : Int) - 1) st.b) t) { s with heap := h', toks := tk' }) :
    wpAny (model PySem.Challenge.rw_pg0146_01.row.prog w) (aA dp un gd outer) (call (.ref 52) [.ref x]) Q E s := by
  w_top off
  obtain ⟨dx, T', cT, vs, lead, t1, tr, tn, tt, tm, ts, an, at', tb, rfl, hI⟩ := hW
  obtain ⟨cnt, b, n, nt⟩ := st
  obtain ⟨hb2, hb1, hb3, hb4, hv⟩ := ok
  dsimp only at hI hb1 hb2 hb3 hb4 hv hret G hkn
  obtain ⟨X, T, B⟩ := id G
  revert X; k_fill; intro X
  obtain ⟨h, g, d, t, os⟩ := s
  refine enterN0 (binds := [("self", .ref x)]) _ G hkn (by omega) (by k_dflt k_is) (by k_dflt k_is) (BindsTo.of_eq rfl) (locs rfl) [("self", some (.ref x))] rfl ?_ rfl rfl rfl (by decide)
  intro hB L' h₁ tk hkp X2 T2 B2 F' N' hlt
  have hroom : Unit → _ := fun _ => And.intro hdp hun
  clear hdp hun
  repeat' (
    (fail_if_success (with_reducible show wpAny _ _ (exec (Stmt.For _ _ _ _ _) _) _ _ _));
    (fail_if_success (with_reducible show wpAny _ _ (exec (Stmt.Try _ _ _ _ _) _) _ _ _));
    (fail_if_success (with_reducible show wpAny _ _ (exec (Stmt.While _ _ _ _) _) _ _ _));
    (fail_if_success (with_reducible show wpAny _ _ (PySem.call (Value.ref _) _ _) _ _ _));
    (fail_if_success (with_reducible show wpAny _ _ (pyIter _) _ _ _));
    (fail_if_success (with_reducible show TurnQ _ _ _ _ _ _ _ _ _ _));
    (first | walk1 | (dsimp only; walk1)); (first | (with_reducible show wpAny _ _ (subscriptTail _ _ _ _) _ _ _) | (try dsimp only)))
  rename News _ _ _ _ => N1
  have hsz : vs.toArray.size = cnt.length := by simp [hI.length]
  refine len_tuple (News.isTup N1 (.tail _ (.tail _ (.tail _ (.head _))))) (by rw [hsz]; omega) ?_
  rw [hsz]
  repeat' (
    (fail_if_success (with_reducible show wpAny _ _ (exec (Stmt.For _ _ _ _ _) _) _ _ _));
    (fail_if_success (with_reducible show wpAny _ _ (exec (Stmt.Try _ _ _ _ _) _) _ _ _));
    (fail_if_success (with_reducible show wpAny _ _ (exec (Stmt.While _ _ _ _) _) _ _ _));
    (fail_if_success (with_reducible show wpAny _ _ (PySem.call (Value.ref _) _ _) _ _ _));
    (fail_if_success (with_reducible show wpAny _ _ (pyIter _) _ _ _));
    (fail_if_success (with_reducible show TurnQ _ _ _ _ _ _ _ _ _ _));
    (first | walk1 | (dsimp only; walk1)); (first | (with_reducible show wpAny _ _ (subscriptTail _ _ _ _) _ _ _) | (try dsimp only)))
  rename Fr _ _ _ _ => F9
  rename News _ _ _ _ => N9
  have e : (if (b : Int) > (cnt.length : Int) - 1 then (b : Int) else (cnt.length : Int) - 1) = max ((cnt.length : Int) - 1) b := by split <;> omega
  rw [e]
  exact hret _ _ _ (hkp _ _ _ F9 N9 fun p h => h)

/-- the blanks that tabs swallow, reckoned by indent_level: the first k runs of length ts and more -/
noncomputable def ilN (ts : Nat) (cnt : List Int) : Nat → Int
  | 0 => 0
  | k + 1 => ilN ts cnt k + ((ts : Int) + k).fdiv ts * cnt.getD (ts + k) 0
noncomputable def Wst.level (st : Wst) (ts : Nat) : Int := st.b + ts * (ilN ts st.count (st.count.length - ts) + st.nt)

set_option maxHeartbeats 8000000 in
theorem indent_spec {w : World} {mean : ExcName → Option Value} {mg mb : Str → Option Value} {base : Heap} {outer : List Env} {dp un : Nat} {gd : Option (List Code)} {s : Shared} {Q E : Value → Shared → Prop} {kn : List (Addr × Obj)} {x : Addr} {st : Wst} {ts : Nat} {t0 : Tok}
    (G : Gd w mean mg mb (aA dp un gd outer) base outer (hideAll s.heap (kn.map (·.1)))) (hkn : ∀ p ∈ kn, s.heap.get? p.1 = some p.2) (hW : WsKn w x st kn) (ok : st.Ok) (hts : 1 ≤ ts) (hts2 : ts ≤ 200) (hdp : dp + 5 < recursionLimit) (hun : un + 50 < cLine)
    (hret : ∀ t h' tk', Kp s.heap h' → Q (.int (st.level ts) t) { s with heap := h', toks := tk' }) :
    wpAny (model PySem.Challenge.rw_pg0146_01.row.prog w) (aA dp un gd outer) (call (.ref 59) [.ref x, .int ts t0]) Q E s := by
  w_top off
  obtain ⟨dx, T', cT, vs, lead, t1, tr, tn, tt, tm, ts', an, at', tb, rfl, hI⟩ := hW
  obtain ⟨cnt, b, n, nt⟩ := st
  obtain ⟨hb2, hb1, hb3, hb4, hv⟩ := ok
  unfold Wst.level at hret
  dsimp only at hI hb1 hb2 hb3 hb4 hv hret G hkn
  obtain ⟨X, T, B⟩ := id G
  revert X; k_fill; intro X
  obtain ⟨h, g, d, t, os⟩ := s
  refine enterN0 (binds := [("self", .ref x), ("tabsize", .int ts t0)]) _ G hkn (by omega) (by k_dflt k_is) (by k_dflt k_is) (BindsTo.of_eq rfl) (locs rfl) [("tabsize", some (.int ts t0)), ("self", some (.ref x))] rfl ?_ rfl rfl rfl (by decide)
  intro hB L' h₁ tk hkp X2 T2 B2 F' N' hlt
  have hroom : Unit → _ := fun _ => And.intro hdp hun
  clear hdp hun
  have hsz : vs.toArray.size = cnt.length := by simp [hI.length]
  repeat' (
    (fail_if_success (with_reducible show wpAny _ _ (exec (Stmt.For _ _ _ _ _) _) _ _ _));
    (fail_if_success (with_reducible show wpAny _ _ (exec (Stmt.Try _ _ _ _ _) _) _ _ _));
    (fail_if_success (with_reducible show wpAny _ _ (exec (Stmt.While _ _ _ _) _) _ _ _));
    (fail_if_success (with_reducible show wpAny _ _ (PySem.call (Value.ref _) _ _) _ _ _));
    (fail_if_success (with_reducible show wpAny _ _ (pyIter _) _ _ _));
    (fail_if_success (with_reducible show TurnQ _ _ _ _ _ _ _ _ _ _));
    (first | walk1 | (dsimp only; walk1)); (first | (with_reducible show wpAny _ _ (subscriptTail _ _ _ _) _ _ _) | (try dsimp only)))
  refine For_invV hB rfl rfl ?_ (fun _ => rfl) PassesOwn.never
  repeat' (
    (fail_if_success (with_reducible show wpAny _ _ (exec (Stmt.For _ _ _ _ _) _) _ _ _));
    (fail_if_success (with_reducible show wpAny _ _ (exec (Stmt.Try _ _ _ _ _) _) _ _ _));
    (fail_if_success (with_reducible show wpAny _ _ (exec (Stmt.While _ _ _ _) _) _ _ _));
    (fail_if_success (with_reducible show wpAny _ _ (PySem.call (Value.ref _) _ _) _ _ _));
    (fail_if_success (with_reducible show wpAny _ _ (pyIter _) _ _ _));
    (fail_if_success (with_reducible show TurnQ _ _ _ _ _ _ _ _ _ _));
    (first | walk1 | (dsimp only; walk1)); (first | (with_reducible show wpAny _ _ (subscriptTail _ _ _ _) _ _ _) | (try dsimp only)))
  rename IsRange _ _ _ _ _ _ _ _ => hR
  rename Fr _ _ _ _ => F3
  rename News _ _ _ _ => N3
  refine range_loop (n := cnt.length - ts) (fun i m news => ∃ (vi : Option Value) (ti : Tok), m = fm [("i", vi), ("il", some (.int (ilN ts cnt i) ti)), ("trailing", some (.int b tb)), ("count", some (.ref cT)), ("tabsize", some (.int ts t0)), ("self", some (.ref x))] ∧
     news = [(x, instObj 90 dx), (dx, dictOf [⟨PyData.keyHash w.params "raw", .str "raw" tr, .str lead t1⟩, ⟨PyData.keyHash w.params "n", .str "n" tn, .int n an⟩, ⟨PyData.keyHash w.params "nt", .str "nt" tt, .int nt at'⟩,
        ⟨PyData.keyHash w.params "norm", .str "norm" tm, .ref T'⟩, ⟨PyData.keyHash w.params "is_simple", .str "is_simple" ts', .bool (decide ((cnt.length : Int) ≤ 1))⟩] 5),
      (T', { cls := .type "tuple", data := .seq #[.ref cT, .int b tb] }), (cT, { cls := .type "tuple", data := .seq vs.toArray })]) rfl rfl hR ?_ ?_ F3 N3 ⟨none, _, by (first | (refine fm_s1 ?_; rfl) | (refine fm_s2 ?_; rfl) | (refine fm_s3 ?_; rfl) | (refine fm_s4 ?_; rfl) | (refine fm_s5 ?_; rfl) | (refine fm_s6 ?_; rfl)), rfl⟩ ?_ ?_
  · exact small_one (by omega) (by omega) (by omega) (by omega)
  · rw [rangeSize_nat]; congr 1; omega
  · rintro i t' m₁ news₁ h3 tk3 I oI hi hne hJ F N
    refine turn_q fun QT hgo _ => ?_
    obtain ⟨vi, ti, rfl, rfl⟩ := hJ
    have eN : ((ts : Int) + i).toNat = ts + i := by omega
    have b1 : 0 ≤ ((ts : Int) + i).fdiv ts ∧ ((ts : Int) + i).fdiv ts ≤ 300 := by
      rw [Int.fdiv_eq_ediv_of_nonneg _ (by omega)]
      refine ⟨Int.ediv_nonneg (by omega) (by omega), ?_⟩
      have := Int.ediv_le_self (a := (ts : Int) + i) ts (by omega)
      omega
    have b2 : 0 ≤ cnt.getD ((ts : Int) + i).toNat 0 ∧ cnt.getD ((ts : Int) + i).toNat 0 ≤ 100 := by
      have hl : ((ts : Int) + i).toNat < cnt.length := by omega
      rw [List.getD_eq_getElem?_getD, List.getElem?_eq_getElem hl]
      exact hv _ (List.getElem_mem hl)
    repeat' (
      (fail_if_success (with_reducible show wpAny _ _ (exec (Stmt.For _ _ _ _ _) _) _ _ _));
      (fail_if_success (with_reducible show wpAny _ _ (exec (Stmt.Try _ _ _ _ _) _) _ _ _));
      (fail_if_success (with_reducible show wpAny _ _ (exec (Stmt.While _ _ _ _) _) _ _ _));
      (fail_if_success (with_reducible show wpAny _ _ (PySem.call (Value.ref _) _ _) _ _ _));
      (fail_if_success (with_reducible show wpAny _ _ (pyIter _) _ _ _));
      (fail_if_success (with_reducible show TurnQ _ _ _ _ _ _ _ _ _ _));
      (first | walk1 | (dsimp only; walk1)); (first | (with_reducible show wpAny _ _ (subscriptTail _ _ _ _) _ _ _) | (try dsimp only)))
    rename Fr _ _ _ _ => F9
    rename News _ _ _ _ => N9
    rw [eN] at F9
    exact hgo F9 N9 [_, _, _, _] (fun p h => h) (fun p h => hne p h) ⟨_, _, by (first | (refine fm_s1 ?_; rfl) | (refine fm_s2 ?_; rfl) | (refine fm_s3 ?_; rfl) | (refine fm_s4 ?_; rfl) | (refine fm_s5 ?_; rfl) | (refine fm_s6 ?_; rfl)), rfl⟩
  · rintro m₁ news₁ h3 tk3 ⟨vi, ti, rfl, rfl⟩ F N
    repeat' (
      (fail_if_success (with_reducible show wpAny _ _ (exec (Stmt.For _ _ _ _ _) _) _ _ _));
      (fail_if_success (with_reducible show wpAny _ _ (exec (Stmt.Try _ _ _ _ _) _) _ _ _));
      (fail_if_success (with_reducible show wpAny _ _ (exec (Stmt.While _ _ _ _) _) _ _ _));
      (fail_if_success (with_reducible show wpAny _ _ (PySem.call (Value.ref _) _ _) _ _ _));
      (fail_if_success (with_reducible show wpAny _ _ (pyIter _) _ _ _));
      (fail_if_success (with_reducible show TurnQ _ _ _ _ _ _ _ _ _ _));
      (first | walk1 | (dsimp only; walk1)); (first | (with_reducible show wpAny _ _ (subscriptTail _ _ _ _) _ _ _) | (try dsimp only)))
    rename Fr _ _ _ _ => F9
    rename News _ _ _ _ => N9
    exact hret _ _ _ (hkp _ _ _ F9 N9 fun p h => h)

/-- what less answers -/
noncomputable def Wst.longest (a : Wst) : Int := max ((a.count.length : Int) - 1) a.b
noncomputable def Wst.Less (a b : Wst) : Prop := a.n < b.n ∧ ((a.count.length ≤ 1 ∧ b.count.length ≤ 1 ∧ a.nt ≤ b.nt) ∨ (¬ (a.count.length ≤ 1 ∧ b.count.length ≤ 1) ∧ ∀ ts : Nat, 2 ≤ ts → (ts : Int) ≤ max a.longest b.longest + 1 → a.level ts < b.level ts))
/-- the ground of a call with objects of the frame's ledger hidden -/
theorem Gd.nextN {w : World} {mean : ExcName → Option Value} {mg mb : Str → Option Value} {base : Heap} {outer : List Env} {A : Around} {h₀ h : Heap} {L : Addr} {m : Str → Option Value} {env : Env} {dp un : Nat} {gd : Option (List Code)} {kn : List (Addr × Obj)} (X : (hd.heap_39 w.params).In h₀) (T : Top hd.view_39 (looseW hd.view_39 [Str.ofString "Whitespace"]) mean mg mb h₀)
    (B : Below A base outer h₀) (F : Fr h₀ L h m) (N : News h₀ L h kn) (hf : env.frame = some L) (hk : env.scope.kind = .function) : Gd w mean mg mb (aA dp un gd (env :: outer)) base (env :: outer) (hideAll h (kn.map (·.1))) := by
  have kp : ∀ b o, h₀.get? b = some o → (hideAll h (kn.map (·.1))).get? b = some o := fun b o e => hideAll_get _ (F.keep b o e) fun hm => by
    obtain ⟨p, hp, rfl⟩ := List.mem_map.mp hm
    rw [(N p hp).2.2] at e; cases e
  have hL : L ∉ kn.map (·.1) := fun hm => by
    obtain ⟨p, hp, rfl⟩ := List.mem_map.mp hm
    exact (N p hp).2.1 rfl
  have F' : Fr h₀ L (hideAll h (kn.map (·.1))) m := ⟨F.ns.at fun o e => hideAll_get _ e hL, kp, F.above⟩
  exact Gd.next X T B F' hf hk

set_option maxHeartbeats 8000000 in
theorem less_spec {w : World} {mean : ExcName → Option Value} {mg mb : Str → Option Value} {base : Heap} {outer : List Env} {dp un : Nat} {gd : Option (List Code)} {s : Shared} {Q E : Value → Shared → Prop} {kn kn' : List (Addr × Obj)} {x y : Addr} {st st' : Wst}
    (G : Gd w mean mg mb (aA dp un gd outer) base outer (hideAll s.heap ((kn ++ kn').map (·.1)))) (hkn : ∀ p ∈ kn ++ kn', s.heap.get? p.1 = some p.2) (hW : WsKn w x st kn) (hW' : WsKn w y st' kn') (ok : st.Ok) (ok' : st'.Ok) (hdp : dp + 10 < recursionLimit) (hun : un + 100 < cLine)
    (hret : ∀ bl h' tk', Kp s.heap h' → (bl = true ↔ st.Less st') → Q (.bool bl) { s with heap := h', toks := tk' }) :
    wpAny (model PySem.Challenge.rw_pg0146_01.row.prog w) (aA dp un gd outer) (call (.ref 80) [.ref x, .ref y]) Q E s := by
  w_top off
  have hWa := hW
  have hWb := hW'
  obtain ⟨dx, T', cT, vs, lead, t1, tr, tn, tt, tm, ts', an, at', tb, hk1, hI⟩ := hW
  obtain ⟨dy, U', cU, us, leed, u1, ur, un', ut, um, us', bn, bt', ub, hk2, hI'⟩ := hW'
  have ok1 := ok
  have ok2 := ok'
  obtain ⟨cnt, b, n, nt⟩ := st
  obtain ⟨hb2, hb1, hb3, hb4, hv⟩ := ok
  obtain ⟨cnt', b', n', nt'⟩ := st'
  obtain ⟨hb2', hb1', hb3', hb4', hv'⟩ := ok'
  dsimp only at hI hb1 hb2 hb3 hb4 hv hI' hb1' hb2' hb3' hb4' hv' hk1 hk2
  obtain ⟨X, T, B⟩ := id G
  revert X; k_fill; intro X
  obtain ⟨h, g, d, t, os⟩ := s
  refine enterN0 (binds := [("self", .ref x), ("other", .ref y)]) _ G hkn (by omega) (by k_dflt k_is) (by k_dflt k_is) (BindsTo.of_eq rfl) (locs rfl) [("other", some (.ref y)), ("self", some (.ref x))] rfl ?_ rfl rfl rfl (by decide)
  intro hB L' h₁ tk hkp X2 T2 B2 F' N' hlt
  have hroom : Unit → _ := fun _ => And.intro hdp hun
  clear hdp hun
  rw [hk1, hk2] at N'
  dsimp only [List.cons_append, List.nil_append] at N'
  repeat' (
    (fail_if_success (with_reducible show wpAny _ _ (exec (Stmt.For _ _ _ _ _) _) _ _ _));
    (fail_if_success (with_reducible show wpAny _ _ (exec (Stmt.Try _ _ _ _ _) _) _ _ _));
    (fail_if_success (with_reducible show wpAny _ _ (exec (Stmt.While _ _ _ _) _) _ _ _));
    (fail_if_success (with_reducible show wpAny _ _ (PySem.call (Value.ref _) _ _) _ _ _));
    (fail_if_success (with_reducible show wpAny _ _ (pyIter _) _ _ _));
    (fail_if_success (with_reducible show TurnQ _ _ _ _ _ _ _ _ _ _));
    (first | walk1 | (dsimp only; walk1)); (first | (with_reducible show wpAny _ _ (subscriptTail _ _ _ _) _ _ _) | (try dsimp only)))
  · rename (n' : Int) ≤ (n : Int) => hn
    refine hret _ _ _ (hkp _ _ _ F' N' (by rw [hk1, hk2]; exact fun p h => h)) ?_
    unfold Wst.Less
    dsimp only
    constructor
    · intro h; cases h
    · intro h; omega
  · refine hret _ _ _ (hkp _ _ _ F' N' (by rw [hk1, hk2]; exact fun p h => h)) ?_
    unfold Wst.Less
    dsimp only
    rw [decide_eq_true_iff]
    omega
  all_goals
    have hns : ¬ (cnt.length ≤ 1 ∧ cnt'.length ≤ 1) := by omega
    have hn : n < n' := by omega
    have Nx : News hB L' h₁ kn := by rw [hk1]; exact News.sub N' fun p hp => (List.mem_append_left [_, _, _, _] hp : p ∈ _ ++ [_, _, _, _])
    refine longest_spec (kn := kn) (Gd.nextN X2 T2 B2 F' Nx rfl rfl) (fun p hp => (Nx p hp).1) hWa ok1 (by exact roomD (hroom ()).1 (by decide)) (by first | exact roomU (hroom ()).2 (by decide) | exact roomU3 (hroom ()).2 (by decide)) ?_
    intro t5 h5 tk5 kp5
    replace F' := F'.keeps kp5
    replace N' := News.keepsK N' kp5
    have el1 : max ((cnt.length : Int) - 1) (b : Int) = Wst.longest ⟨cnt, b, n, nt⟩ := rfl
    rw [el1]
    have hl1 : 0 ≤ Wst.longest ⟨cnt, b, n, nt⟩ ∧ Wst.longest ⟨cnt, b, n, nt⟩ ≤ 100 := by rw [← el1]; omega
    clear el1
    repeat' (
      (fail_if_success (with_reducible show wpAny _ _ (exec (Stmt.For _ _ _ _ _) _) _ _ _));
      (fail_if_success (with_reducible show wpAny _ _ (exec (Stmt.Try _ _ _ _ _) _) _ _ _));
      (fail_if_success (with_reducible show wpAny _ _ (exec (Stmt.While _ _ _ _) _) _ _ _));
      (fail_if_success (with_reducible show wpAny _ _ (PySem.call (Value.ref _) _ _) _ _ _));
      (fail_if_success (with_reducible show wpAny _ _ (pyIter _) _ _ _));
      (fail_if_success (with_reducible show TurnQ _ _ _ _ _ _ _ _ _ _));
      (first | walk1 | (dsimp only; walk1)); (first | (with_reducible show wpAny _ _ (subscriptTail _ _ _ _) _ _ _) | (try dsimp only)))
    rename Fr _ _ _ _ => F5
    rename News _ _ _ _ => N5
    have Ny : News hB L' h5 kn' := by rw [hk2]; exact News.sub N5 fun p hp => (List.mem_append_right [_, _, _, _] hp : p ∈ [_, _, _, _] ++ _)
    refine longest_spec (kn := kn') (Gd.nextN X2 T2 B2 F5 Ny rfl rfl) (fun p hp => (Ny p hp).1) hWb ok2 (by exact roomD (hroom ()).1 (by decide)) (by first | exact roomU (hroom ()).2 (by decide) | exact roomU3 (hroom ()).2 (by decide)) ?_
    intro t6 h6 tk6 kp6
    have F6 := F5.keeps kp6
    have N6 := News.keepsK N5 kp6
    clear F5 N5
    have el2 : max ((cnt'.length : Int) - 1) (b' : Int) = Wst.longest ⟨cnt', b', n', nt'⟩ := rfl
    rw [el2]
    have hl2 : 0 ≤ Wst.longest ⟨cnt', b', n', nt'⟩ ∧ Wst.longest ⟨cnt', b', n', nt'⟩ ≤ 100 := by rw [← el2]; omega
    clear el2
    generalize hg1 : Wst.longest ⟨cnt, b, n, nt⟩ = l1 at hl1
    generalize hg2 : Wst.longest ⟨cnt', b', n', nt'⟩ = l2 at hl2
    repeat' (
      (fail_if_success (with_reducible show wpAny _ _ (exec (Stmt.For _ _ _ _ _) _) _ _ _));
      (fail_if_success (with_reducible show wpAny _ _ (exec (Stmt.Try _ _ _ _ _) _) _ _ _));
      (fail_if_success (with_reducible show wpAny _ _ (exec (Stmt.While _ _ _ _) _) _ _ _));
      (fail_if_success (with_reducible show wpAny _ _ (PySem.call (Value.ref _) _ _) _ _ _));
      (fail_if_success (with_reducible show wpAny _ _ (pyIter _) _ _ _));
      (fail_if_success (with_reducible show TurnQ _ _ _ _ _ _ _ _ _ _));
      (first | walk1 | (dsimp only; walk1)); (first | (with_reducible show wpAny _ _ (subscriptTail _ _ _ _) _ _ _) | (try dsimp only)))
    refine For_invV hB rfl rfl ?_ (fun _ => rfl) PassesOwn.never
    repeat' (
      (fail_if_success (with_reducible show wpAny _ _ (exec (Stmt.For _ _ _ _ _) _) _ _ _));
      (fail_if_success (with_reducible show wpAny _ _ (exec (Stmt.Try _ _ _ _ _) _) _ _ _));
      (fail_if_success (with_reducible show wpAny _ _ (exec (Stmt.While _ _ _ _) _) _ _ _));
      (fail_if_success (with_reducible show wpAny _ _ (PySem.call (Value.ref _) _ _) _ _ _));
      (fail_if_success (with_reducible show wpAny _ _ (pyIter _) _ _ _));
      (fail_if_success (with_reducible show TurnQ _ _ _ _ _ _ _ _ _ _));
      (first | walk1 | (dsimp only; walk1)); (first | (with_reducible show wpAny _ _ (subscriptTail _ _ _ _) _ _ _) | (try dsimp only)))
    rename IsRange _ _ _ _ _ _ _ _ => hR
    rename Fr _ _ _ _ => F7
    rename News _ _ _ _ => N7
    have N7' := News.eqL (l' := kn ++ kn') N7 (by rw [hk1, hk2]; rfl)
    have emx : (if l2 > l1 then l2 else l1) = max l1 l2 := by split <;> omega
    rw [emx] at hR F7
    generalize hmx : max l1 l2 = mx at hR F7
    have hmx2 : 0 ≤ mx ∧ mx ≤ 100 := by omega
    clear N7
    refine range_loop (n := mx.toNat) (fun i m news => ∃ (vi : Option Value) (ti : Tok), m = fm [("ts", vi), ("n", some (.int (mx + 1) ti)), ("other", some (.ref y)), ("self", some (.ref x))] ∧ news = kn ++ kn' ∧
      ∀ ts : Nat, 2 ≤ ts → ts < 2 + i → Wst.level ⟨cnt, b, n, nt⟩ ts < Wst.level ⟨cnt', b', n', nt'⟩ ts) rfl rfl hR ?_ ?_ F7 N7' ⟨none, _, by (first | (refine fm_s1 ?_; rfl) | (refine fm_s2 ?_; rfl) | (refine fm_s3 ?_; rfl) | (refine fm_s4 ?_; rfl) | (refine fm_s5 ?_; rfl) | (refine fm_s6 ?_; rfl)), rfl, fun _ _ _ => by omega⟩ ?_ ?_
    · exact small_one (by omega) (by omega) (by omega) (by omega)
    · rw [rangeSize_nat]; congr 1; omega
    · rintro i t' m₁ news₁ h3 tk3 I oI hi hne hJ F N
      refine turn_q fun QT hgo hrt => ?_
      obtain ⟨vi, ti, rfl, rfl, hlow⟩ := hJ
      have e2 : (2 : Int) + (i : Int) = ((2 + i : Nat) : Int) := by omega
      rw [e2] at F
      have N8 := N
      rw [hk1, hk2] at N8
      dsimp only [List.cons_append, List.nil_append] at N8
      clear N
      repeat' (
        (fail_if_success (with_reducible show wpAny _ _ (exec (Stmt.For _ _ _ _ _) _) _ _ _));
        (fail_if_success (with_reducible show wpAny _ _ (exec (Stmt.Try _ _ _ _ _) _) _ _ _));
        (fail_if_success (with_reducible show wpAny _ _ (exec (Stmt.While _ _ _ _) _) _ _ _));
        (fail_if_success (with_reducible show wpAny _ _ (PySem.call (Value.ref _) _ _) _ _ _));
        (fail_if_success (with_reducible show wpAny _ _ (pyIter _) _ _ _));
        (fail_if_success (with_reducible show TurnQ _ _ _ _ _ _ _ _ _ _));
        (first | walk1 | (dsimp only; walk1)); (first | (with_reducible show wpAny _ _ (subscriptTail _ _ _ _) _ _ _) | (try dsimp only)))
      rename Fr _ _ _ _ => F9
      rename News _ _ _ _ => N9
      have N9' := News.eqL (l' := (I, oI) :: (kn ++ kn')) N9 (by rw [hk1, hk2]; rfl)
      have Nx := News.sub (nx := kn) N9' fun p hp => .tail _ (List.mem_append_left _ hp)
      refine indent_spec (kn := kn) (ts := 2 + i) (Gd.nextN X2 T2 B2 F9 Nx rfl rfl) (fun p hp => (Nx p hp).1) hWa ok1 (by omega) (by omega) (by exact roomD (hroom ()).1 (by decide)) (by first | exact roomU (hroom ()).2 (by decide) | exact roomU3 (hroom ()).2 (by decide)) ?_
      intro t10 h10 tk10 kp10
      have F10 := F9.keeps kp10
      have N10 := News.keepsK N9 kp10
      clear F9 N9 N9' Nx
      repeat' (
        (fail_if_success (with_reducible show wpAny _ _ (exec (Stmt.For _ _ _ _ _) _) _ _ _));
        (fail_if_success (with_reducible show wpAny _ _ (exec (Stmt.Try _ _ _ _ _) _) _ _ _));
        (fail_if_success (with_reducible show wpAny _ _ (exec (Stmt.While _ _ _ _) _) _ _ _));
        (fail_if_success (with_reducible show wpAny _ _ (PySem.call (Value.ref _) _ _) _ _ _));
        (fail_if_success (with_reducible show wpAny _ _ (pyIter _) _ _ _));
        (fail_if_success (with_reducible show TurnQ _ _ _ _ _ _ _ _ _ _));
        (first | walk1 | (dsimp only; walk1)); (first | (with_reducible show wpAny _ _ (subscriptTail _ _ _ _) _ _ _) | (try dsimp only)))
      rename Fr _ _ _ _ => F11
      rename News _ _ _ _ => N11
      have N11' := News.eqL (l' := (I, oI) :: (kn ++ kn')) N11 (by rw [hk1, hk2]; rfl)
      have Ny := News.sub (nx := kn') N11' fun p hp => .tail _ (List.mem_append_right _ hp)
      refine indent_spec (kn := kn') (ts := 2 + i) (Gd.nextN X2 T2 B2 F11 Ny rfl rfl) (fun p hp => (Ny p hp).1) hWb ok2 (by omega) (by omega) (by exact roomD (hroom ()).1 (by decide)) (by first | exact roomU (hroom ()).2 (by decide) | exact roomU3 (hroom ()).2 (by decide)) ?_
      intro t12 h12 tk12 kp12
      have F12 := F11.keeps kp12
      have N12 := News.keepsK N11 kp12
      clear F11 N11 N11' Ny
      repeat' (
        (fail_if_success (with_reducible show wpAny _ _ (exec (Stmt.For _ _ _ _ _) _) _ _ _));
        (fail_if_success (with_reducible show wpAny _ _ (exec (Stmt.Try _ _ _ _ _) _) _ _ _));
        (fail_if_success (with_reducible show wpAny _ _ (exec (Stmt.While _ _ _ _) _) _ _ _));
        (fail_if_success (with_reducible show wpAny _ _ (PySem.call (Value.ref _) _ _) _ _ _));
        (fail_if_success (with_reducible show wpAny _ _ (pyIter _) _ _ _));
        (fail_if_success (with_reducible show TurnQ _ _ _ _ _ _ _ _ _ _));
        (first | walk1 | (dsimp only; walk1)); (first | (with_reducible show wpAny _ _ (subscriptTail _ _ _ _) _ _ _) | (try dsimp only)))
      · rename Fr _ _ _ _ => F13
        rename News _ _ _ _ => N13
        rename Wst.level _ _ ≤ Wst.level _ _ => hge
        have N13' := News.eqL (l' := (I, oI) :: (kn ++ kn')) N13 (by rw [hk1, hk2]; rfl)
        refine hrt _ _ (hret _ _ _ (hkp _ _ _ F13 N13' (fun p h => .tail _ h)) ?_)
        unfold Wst.Less
        refine ⟨fun h => (by cases h), fun h => ?_⟩
        rcases h.2 with h2 | h2
        · exact absurd ⟨h2.1, h2.2.1⟩ hns
        · have h3 := h2.2 (2 + i) (by omega) (by rw [hg1, hg2]; omega)
          omega
      · rename Fr _ _ _ _ => F13
        rename News _ _ _ _ => N13
        rename ¬ Wst.level _ _ ≤ Wst.level _ _ => hge
        have N13' := News.eqL (l' := (I, oI) :: (kn ++ kn')) N13 (by rw [hk1, hk2]; rfl)
        refine hgo F13 N13' (kn ++ kn') (fun p h => h) (fun p h => hne p h) ⟨_, _, by (first | (refine fm_s1 ?_; rfl) | (refine fm_s2 ?_; rfl) | (refine fm_s3 ?_; rfl) | (refine fm_s4 ?_; rfl) | (refine fm_s5 ?_; rfl) | (refine fm_s6 ?_; rfl)), rfl, fun ts h1 h2 => ?_⟩
        by_cases h3 : ts < 2 + i
        · exact hlow ts h1 h3
        · have : ts = 2 + i := by omega
          subst this
          omega
    · rintro m₁ news₁ h3 tk3 ⟨vi, ti, rfl, rfl, hlow⟩ F N
      repeat' (
        (fail_if_success (with_reducible show wpAny _ _ (exec (Stmt.For _ _ _ _ _) _) _ _ _));
        (fail_if_success (with_reducible show wpAny _ _ (exec (Stmt.Try _ _ _ _ _) _) _ _ _));
        (fail_if_success (with_reducible show wpAny _ _ (exec (Stmt.While _ _ _ _) _) _ _ _));
        (fail_if_success (with_reducible show wpAny _ _ (PySem.call (Value.ref _) _ _) _ _ _));
        (fail_if_success (with_reducible show wpAny _ _ (pyIter _) _ _ _));
        (fail_if_success (with_reducible show TurnQ _ _ _ _ _ _ _ _ _ _));
        (first | walk1 | (dsimp only; walk1)); (first | (with_reducible show wpAny _ _ (subscriptTail _ _ _ _) _ _ _) | (try dsimp only)))
      refine hret _ _ _ (hkp _ _ _ F N fun p h => h) ?_
      unfold Wst.Less
      dsimp only
      refine ⟨fun _ => ⟨hn, .inr ⟨hns, fun ts h1 h2 => hlow ts h1 (by rw [hg1, hg2] at h2; omega)⟩⟩, fun _ => rfl⟩

/-- signs that this law's pages hold -/
noncomputable def LeadOk (l : List Nat) : Prop := l.length ≤ 50 ∧ ∀ c ∈ l, c = 32 ∨ c = 9
/-- a list of texts at l -/
inductive TextsAt (h : Heap) (l : Addr) (page : List (List Nat)) : Prop
  | mk (items : Array Value) (h1 : h.IsList l items) (h2 : Paired (fun (v : Value) (r : List Nat) => ∃ t, v = .str ⟨r.toArray⟩ t) items.toList page) : TextsAt h l page
/-- ends, told by the relation of lesser leads -/
noncomputable def EndsOk (R : Nat → Nat → Prop) (n : Nat) (es : List Nat) : Prop := es.length = n ∧ ∀ k e, es[k]? = some e → k < e ∧ e ≤ n ∧ (∀ j, k < j → j < e → R k j) ∧ (e < n → ¬ R k e)
noncomputable def pageLess (page : List (List Nat)) (k j : Nat) : Prop := (wst (page.getD k [])).Less (wst (page.getD j []))

theorem Wst.pad_mem {st : Wst} {x : Int} (h : x ∈ st.pad) : x = 0 ∨ x ∈ st.count := by
  unfold Wst.pad at h
  split at h
  · rcases List.mem_append.mp h with h | h
    · exact .inr h
    · exact .inl (List.mem_replicate.mp h).2
  · exact .inr h
theorem wst_cnt (l : List Nat) : ∀ x ∈ (wst l).count, 0 ≤ x ∧ x ≤ (l.length : Int) := by
  refine snoc_ind (P := fun l => ∀ x ∈ (wst l).count, 0 ≤ x ∧ x ≤ (l.length : Int)) ?_ ?_ l
  · simp [wst]
  · intro l c ih x hx
    rw [wst_snoc] at hx
    unfold Wst.step at hx
    have hp : ∀ y ∈ (wst l).pad, 0 ≤ y ∧ y ≤ (l.length : Int) := fun y hy => by
      rcases Wst.pad_mem hy with rfl | hy
      · omega
      · exact ih y hy
    simp only [List.length_append, List.length_cons, List.length_nil]
    by_cases h : c = 32
    · rw [if_pos h] at hx
      have := ih x hx
      omega
    · rw [if_neg h] at hx
      rcases List.mem_or_eq_of_mem_set hx with hx | rfl
      · have := hp x hx
        omega
      · rw [List.getD_eq_getElem?_getD]
        cases hq : (wst l).pad[(wst l).b]? with
        | none => simp; omega
        | some y =>
          have := hp y (List.mem_of_getElem? hq)
          simp only [Option.getD_some]
          omega
theorem wst_ok {l : List Nat} (h : l.length ≤ 100) : (wst l).Ok := by
  have q := wst_bd l
  refine ⟨by omega, by omega, by omega, by omega, fun x hx => ?_⟩
  have := wst_cnt l x hx
  omega
/-- a list of Whitespaces, the objects on kn -/
inductive WsAt (w : World) (kn : List (Addr × Obj)) (y : Value) (r : List Nat) : Prop
  | mk (x : Addr) (kx : List (Addr × Obj)) (h1 : y = .ref x) (h2 : WsKn w x (wst r) kx) (h3 : ∀ p ∈ kx, p ∈ kn) : WsAt w kn y r
noncomputable def WsList (w : World) (kn : List (Addr × Obj)) (ys : List Value) (page : List (List Nat)) : Prop := Paired (WsAt w kn) ys page
theorem text_inj {r r' : List Nat} {t t' : Tok} (e : Value.str ⟨r.toArray⟩ t = .str ⟨r'.toArray⟩ t') : r = r' := by
  injection e with e4
  injection e4 with e5
  exact congrArg Array.toList e5
theorem ws_list {w : World} {h h₁ : Heap} {its ys : List Value} (p : Paired (fun (v y : Value) => ∃ (r : List Nat) (t : Tok) (x : Addr) (kn : List (Addr × Obj)), v = .str ⟨r.toArray⟩ t ∧ y = .ref x ∧ WsKn w x (wst r) kn ∧ ∀ p ∈ kn, h.get? p.1 = some p.2 ∧ h₁.get? p.1 = none) its ys) :
    ∀ {page : List (List Nat)}, Paired (fun (v : Value) (r : List Nat) => ∃ t, v = .str ⟨r.toArray⟩ t) its page → ∃ kn : List (Addr × Obj), (∀ p ∈ kn, h.get? p.1 = some p.2 ∧ h₁.get? p.1 = none) ∧ WsList w kn ys page := by
  induction p with
  | nil => intro page q; cases q; exact ⟨[], List.forall_mem_nil _, .nil⟩
  | cons a _ ih =>
    intro page q
    obtain ⟨r, t, x, kx, e1, e2, hk, ha⟩ := a
    cases q with
    | cons b q =>
      obtain ⟨t', e3⟩ := b
      obtain ⟨kn, h1, h2⟩ := ih q
      refine ⟨kx ++ kn, fun p hp => (List.mem_append.mp hp).elim (ha p) (h1 p), ?_⟩
      rw [e1] at e3
      have e6 := text_inj e3
      subst e6
      exact .cons ⟨x, kx, e2, hk, fun p hp => List.mem_append_left _ hp⟩ (Paired.imp (fun a b ⟨x, k, q1, q2, q3⟩ => ⟨x, k, q1, q2, fun p hp => List.mem_append_right _ (q3 p hp)⟩) h2)

/-- between the turns over k -/
inductive EndsO (page : List (List Nat)) (l D : Addr) (kD : Nat) (Y : List Value) (kn : List (Addr × Obj)) (i : Nat) (m : Str → Option Value) (news : List (Addr × Obj)) : Prop
  | mk (vk ve : Option Value) (E : Addr) (vs : List Value) (e : Nat) (es : List Nat) (hm : m = fm [("k", vk), ("end", ve), ("ends", some (.ref E)), ("leads", some (.ref D)), ("page", some (.ref l))])
    (hn : news = (E, listOf vs.toArray e) :: (D, listOf Y.toArray kD) :: kn) (hI : IntsAre vs (es.map fun (x : Nat) => (x : Int))) (hes : es.length = i) (hDE : @LT.lt Nat _ D E) (hall : AllLt E kn)
    (hprop : ∀ k e, es[k]? = some e → k < e ∧ e ≤ page.length ∧ (∀ j, k < j → j < e → pageLess page k j) ∧ (e < page.length → ¬ pageLess page k e)) : EndsO page l D kD Y kn i m news
/-- between the tests of the while -/
inductive EndsI (page : List (List Nat)) (l D : Addr) (kD : Nat) (Y : List Value) (kn : List (Addr × Obj)) (i : Nat) (t' : Tok) (I : Addr) (oI : Obj) (E : Addr) (vs : List Value) (e : Nat) (n' : Nat) (m : Str → Option Value) (news : List (Addr × Obj)) : Prop
  | mk (z : Nat) (tz : Tok) (hn : n' = page.length - z) (hm : m = fm [("end", some (.int z tz)), ("k", some (.int i t')), ("ends", some (.ref E)), ("leads", some (.ref D)), ("page", some (.ref l))])
    (hw : news = (I, oI) :: (E, listOf vs.toArray e) :: (D, listOf Y.toArray kD) :: kn) (hz1 : i < z) (hz2 : z ≤ page.length) (hzp : ∀ j, i < j → j < z → pageLess page i j) : EndsI page l D kD Y kn i t' I oI E vs e n' m news

set_option maxHeartbeats 8000000 in
theorem ends_spec {w : World} {mean : ExcName → Option Value} {mg mb : Str → Option Value} {base : Heap} {outer : List Env} {dp un : Nat} {gd : Option (List Code)} {s : Shared} {Q E : Value → Shared → Prop}
    (G : Gd w mean mg mb (aA dp un gd outer) base outer s.heap) (hdp : dp + 20 < recursionLimit) (hun : un + 200 < cLine)
    {l : Addr} {page : List (List Nat)} (hpage : TextsAt s.heap l page) (hbd : ∀ r ∈ page, LeadOk r) (hlen : page.length ≤ 100)
    (hret : ∀ a h' tk' es, Kp s.heap h' → EndsOk (pageLess page) page.length es → IntsAt h' a (es.map fun (x : Nat) => (x : Int)) → s.heap.get? a = none → Q (.ref a) { s with heap := h', toks := tk' }) :
    wpAny (model PySem.Challenge.rw_pg0146_01.row.prog w) (aA dp un gd outer) (call (.ref 106) [.ref l]) Q E s := by
  w_top off
  obtain ⟨X, T, B⟩ := id G
  revert X; k_fill; intro X
  refine enter0 (binds := [("page", .ref l)]) G (by omega) (by k_dflt k_is) (by k_dflt k_is) (BindsTo.of_eq rfl) (locs rfl) [("page", some (.ref l))] rfl ?_ rfl rfl rfl (by decide)
  intro L' h₁ tk F' N'
  have hroom : Unit → _ := fun _ => And.intro hdp hun
  clear hdp hun
  obtain ⟨items, hl, hp⟩ := hpage
  have hisz : items.size = page.length := by
    have := Paired.length_eq hp
    rwa [Array.length_toList] at this
  repeat' (
    (fail_if_success (with_reducible show wpAny _ _ (exec (Stmt.For _ _ _ _ _) _) _ _ _));
    (fail_if_success (with_reducible show wpAny _ _ (exec (Stmt.Try _ _ _ _ _) _) _ _ _));
    (fail_if_success (with_reducible show wpAny _ _ (exec (Stmt.While _ _ _ _) _) _ _ _));
    (fail_if_success (with_reducible show wpAny _ _ (eval (Expr.ListComp _ _ _ _) _) _ _ _));
    (fail_if_success (with_reducible show wpAny _ _ (exec (Stmt.Assign _ (Expr.ListComp _ _ _ _) _) _) _ _ _));
    (fail_if_success (with_reducible show wpAny _ _ (PySem.call (Value.ref _) _ _) _ _ _));
    (fail_if_success (with_reducible show wpAny _ _ (pyIter _) _ _ _));
    (fail_if_success (with_reducible show TurnQ _ _ _ _ _ _ _ _ _ _));
    (first | walk1 | (dsimp only; walk1)); (first | (with_reducible show wpAny _ _ (subscriptTail _ _ _ _) _ _ _) | (try dsimp only)))
  refine comp_eval (closureFor_none (by decide)) (by decide) rfl (by decide) rfl ?_ (fun _ => rfl)
  walk1
  have X1 := Frag.In.keeps X F'.keep
  have T1 := T.keeps F'.keep
  refine compAt_list (fun _ => true) (fun v y hh => ∃ (r : List Nat) (t : Tok) (x : Addr) (kn : List (Addr × Obj)), v = .str ⟨r.toArray⟩ t ∧ y = .ref x ∧ WsKn w x (wst r) kn ∧ ∀ p ∈ kn, hh.get? p.1 = some p.2 ∧ h₁.get? p.1 = none) rfl (hl.at fun o e => F'.keep _ o e) (by rw [hisz]; exact Nat.le_trans hlen (by decide)) (fun i v C h₂ tk₂ hv F₂ => tests_nil) ?_ ?_
  · intro i v C h₂ tk₂ hv _ F₂
    obtain ⟨r, hr, t, rfl⟩ := Paired.get hp i v (by rw [Array.getElem?_toList]; exact hv)
    have X2 : (hd.heap_39 w.params).In h₂ := Frag.In.keeps X1 F₂.keep
    have T2 := T1.keeps F₂.keep
    have hrb := hbd r (List.mem_of_getElem? hr)
    refine callG X2 T2 (by k_dflt k_is) (by k_dflt k_is) (spliced_more (nmL F₂.ns rfl (spliced_none ⟨X2, ?_⟩)))
    refine ws_spec (Gd.next X T B (F'.keeps F₂.keep) rfl rfl) (by exact roomD (hroom ()).1 (by decide)) (by first | exact roomU (hroom ()).2 (by decide) | exact roomU3 (hroom ()).2 (by decide)) (Nat.le_trans hrb.1 (by decide)) hrb.2 ?_
    intro x kn h3 tk3 hk3 hW hnew
    refine ⟨h3, tk3, rfl, hk3, fun hh hk1 hk2 => ⟨r, t, x, kn, rfl, rfl, hW, fun p hp => ⟨hk2 _ _ (hnew p hp).2 (hnew p hp).1, Kp.none F₂.keep (hnew p hp).2⟩⟩⟩
  · intro D h2 tk2 ys hk2 hD hpl hPd
    obtain ⟨kD, hget⟩ := hpl
    have efl : items.toList.filter (fun _ => true) = items.toList := by simp
    rw [efl] at hPd
    obtain ⟨kn, hkn, hWs⟩ := ws_list hPd hp
    have F2 := F'.keeps hk2
    have N2 : News s.heap L' h2 ((D, listOf ys.toList.toArray kD) :: kn) := by
      have fresh : ∀ a, h₁.get? a = none → a ≠ L' ∧ s.heap.get? a = none := fun a ha => by
        refine ⟨?_, Kp.none F'.keep ha⟩
        rintro rfl
        obtain ⟨o', _, _, ho', _⟩ := F'.ns
        rw [ha] at ho'; cases ho'
      intro p hp
      rcases List.mem_cons.mp hp with rfl | hp
      · exact ⟨by simpa using hget, fresh _ hD⟩
      · exact ⟨(hkn p hp).1, fresh _ (hkn p hp).2⟩
    clear hPd hget hkn hk2 hD F' N'
    generalize ys.toList = Y at hWs N2
    have hY : Y.length = page.length := Paired.length_eq hWs
    repeat' (
      (fail_if_success (with_reducible show wpAny _ _ (exec (Stmt.For _ _ _ _ _) _) _ _ _));
      (fail_if_success (with_reducible show wpAny _ _ (exec (Stmt.Try _ _ _ _ _) _) _ _ _));
      (fail_if_success (with_reducible show wpAny _ _ (exec (Stmt.While _ _ _ _) _) _ _ _));
      (fail_if_success (with_reducible show wpAny _ _ (eval (Expr.ListComp _ _ _ _) _) _ _ _));
      (fail_if_success (with_reducible show wpAny _ _ (exec (Stmt.Assign _ (Expr.ListComp _ _ _ _) _) _) _ _ _));
      (fail_if_success (with_reducible show wpAny _ _ (PySem.call (Value.ref _) _ _) _ _ _));
      (fail_if_success (with_reducible show wpAny _ _ (pyIter _) _ _ _));
      (fail_if_success (with_reducible show TurnQ _ _ _ _ _ _ _ _ _ _));
      (first | walk1 | (dsimp only; walk1)); (first | (with_reducible show wpAny _ _ (subscriptTail _ _ _ _) _ _ _) | (try dsimp only)))
    rename Fr _ _ _ _ => F3
    rename News _ _ _ _ => N3
    refine For_invV s.heap rfl rfl ?_ (fun _ => rfl) PassesOwn.never
    repeat' (
      (fail_if_success (with_reducible show wpAny _ _ (exec (Stmt.For _ _ _ _ _) _) _ _ _));
      (fail_if_success (with_reducible show wpAny _ _ (exec (Stmt.Try _ _ _ _ _) _) _ _ _));
      (fail_if_success (with_reducible show wpAny _ _ (exec (Stmt.While _ _ _ _) _) _ _ _));
      (fail_if_success (with_reducible show wpAny _ _ (eval (Expr.ListComp _ _ _ _) _) _ _ _));
      (fail_if_success (with_reducible show wpAny _ _ (exec (Stmt.Assign _ (Expr.ListComp _ _ _ _) _) _) _ _ _));
      (fail_if_success (with_reducible show wpAny _ _ (PySem.call (Value.ref _) _ _) _ _ _));
      (fail_if_success (with_reducible show wpAny _ _ (pyIter _) _ _ _));
      (fail_if_success (with_reducible show TurnQ _ _ _ _ _ _ _ _ _ _));
      (first | walk1 | (dsimp only; walk1)); (first | (with_reducible show wpAny _ _ (subscriptTail _ _ _ _) _ _ _) | (try dsimp only)))
    rename IsRange _ _ _ _ _ _ _ _ => hR
    rename Fr _ _ _ _ => F4
    rename News _ _ _ _ => N4
    rw [hisz] at hR
    have N5 := News.sub (nx := _ :: _ :: kn) N4 (fun p hp => .tail _ hp)
    clear N4
    refine range_loop (n := page.length) (EndsO page l D kD Y kn) rfl rfl hR ?_ ?_ F4 N5 ⟨none, none, _, [], 0, [], by (first | (refine fm_s1 ?_; rfl) | (refine fm_s2 ?_; rfl) | (refine fm_s3 ?_; rfl) | (refine fm_s4 ?_; rfl) | (refine fm_s5 ?_; rfl) | (refine fm_s6 ?_; rfl)), rfl, .nil, rfl, ?_, ?_, fun k e h => by cases h⟩ ?_ ?_
    · exact small_one (by omega) (by omega) (by omega) (by omega)
    · rw [rangeSize_nat]; rfl
    · rename _ ∧ AllLt _ kn => q1
      exact q1.1
    · rename _ ∧ AllLt _ kn => q1
      exact q1.2
    · rintro i t' m₁ news₁ h3 tk3 I oI hi hne hJ F N
      refine turn_q fun QT hgo _ => ?_
      obtain ⟨vk, ve, E, vs, e, es, rfl, rfl, hI, hes, hDE, hall, hprop⟩ := hJ
      have e0 : (0 : Int) + (i : Int) = (i : Int) := by omega
      rw [e0] at F
      repeat' (
        (fail_if_success (with_reducible show wpAny _ _ (exec (Stmt.For _ _ _ _ _) _) _ _ _));
        (fail_if_success (with_reducible show wpAny _ _ (exec (Stmt.Try _ _ _ _ _) _) _ _ _));
        (fail_if_success (with_reducible show wpAny _ _ (exec (Stmt.While _ _ _ _) _) _ _ _));
        (fail_if_success (with_reducible show wpAny _ _ (eval (Expr.ListComp _ _ _ _) _) _ _ _));
        (fail_if_success (with_reducible show wpAny _ _ (exec (Stmt.Assign _ (Expr.ListComp _ _ _ _) _) _) _ _ _));
        (fail_if_success (with_reducible show wpAny _ _ (PySem.call (Value.ref _) _ _) _ _ _));
        (fail_if_success (with_reducible show wpAny _ _ (pyIter _) _ _ _));
        (fail_if_success (with_reducible show TurnQ _ _ _ _ _ _ _ _ _ _));
        (first | walk1 | (dsimp only; walk1)); (first | (with_reducible show wpAny _ _ (subscriptTail _ _ _ _) _ _ _) | (try dsimp only)))
      rename Fr _ _ _ _ => F5
      rename News _ _ _ _ => N5
      refine While_inv (EndsI page l D kD Y kn i t' I oI E vs e)
        (n₀ := page.length - (i + 1)) F5 N5 ⟨i + 1, _, rfl, by (first | (refine fm_s1 ?_; rfl) | (refine fm_s2 ?_; rfl) | (refine fm_s3 ?_; rfl) | (refine fm_s4 ?_; rfl) | (refine fm_s5 ?_; rfl) | (refine fm_s6 ?_; rfl)), rfl, by omega, by omega, fun j h1 h2 => by omega⟩ ?_ PassesOwn.never
      rintro n' _ _ h6 tk6 F6 N6 hJ
      obtain ⟨z, tz, rfl, rfl, rfl, hz1, hz2, hzp⟩ := hJ
      have hIE := neN (hne _ (.head _))
      have hel : (es.map fun (x : Nat) => (x : Int)).length ≤ 100 := by rw [List.length_map]; omega
      dsimp only at hIE
      have hpl1 : page[i]? = some (page.getD i []) := by rw [List.getD_eq_getElem?_getD, List.getElem?_eq_getElem hi]; rfl
      have hyi : ∃ v, Y[i]? = some v := ⟨_, List.getElem?_eq_getElem (by omega)⟩
      obtain ⟨_, hyi⟩ := hyi
      obtain ⟨ri, hri, x, kx, rfl, hWx, hkx⟩ := Paired.get hWs i _ hyi
      have eri : ri = page.getD i [] := by rw [hpl1] at hri; exact (Option.some.inj hri).symm
      subst eri
      repeat' (
        (fail_if_success (with_reducible show wpAny _ _ (exec (Stmt.For _ _ _ _ _) _) _ _ _));
        (fail_if_success (with_reducible show wpAny _ _ (exec (Stmt.Try _ _ _ _ _) _) _ _ _));
        (fail_if_success (with_reducible show wpAny _ _ (exec (Stmt.While _ _ _ _) _) _ _ _));
        (fail_if_success (with_reducible show wpAny _ _ (eval (Expr.ListComp _ _ _ _) _) _ _ _));
        (fail_if_success (with_reducible show wpAny _ _ (exec (Stmt.Assign _ (Expr.ListComp _ _ _ _) _) _) _ _ _));
        (fail_if_success (with_reducible show wpAny _ _ (PySem.call (Value.ref _) _ _) _ _ _));
        (fail_if_success (with_reducible show wpAny _ _ (pyIter _) _ _ _));
        (fail_if_success (with_reducible show TurnQ _ _ _ _ _ _ _ _ _ _));
        (first | walk1 | (dsimp only; walk1)); (first | (with_reducible show wpAny _ _ (subscriptTail _ _ _ _) _ _ _) | (try dsimp only)))
      · rename (z : Int) < _ => hzl
        have hzl : z < page.length := by omega
        rename Fr _ _ _ _ => F7
        rename News _ _ _ _ => N7
        have hyz : ∃ v, Y[z]? = some v := ⟨_, List.getElem?_eq_getElem (by omega)⟩
        obtain ⟨_, hyz⟩ := hyz
        obtain ⟨rz, hrz, y, ky, rfl, hWy, hky⟩ := Paired.get hWs z _ hyz
        have erz : rz = page.getD z [] := by
          have : page[z]? = some (page.getD z []) := by rw [List.getD_eq_getElem?_getD, List.getElem?_eq_getElem hzl]; rfl
          rw [this] at hrz; exact (Option.some.inj hrz).symm
        subst erz
        refine item_listL (News.il N7 (.tail _ (.tail _ (.head _)))) (by omega) (by omega) (by rw [Int.toNat_natCast]; exact hyi) ?_
        have hWx' := hWx
        obtain ⟨dx, T', cT, vs', lead, t1, tr, tn, tt, tm, ts', an, at', tb, hk1, hIx⟩ := hWx'
        have N8 := News.sub (nx := (x, instObj 90 dx) :: (dx, _) :: _ :: _ :: _ :: kn) N7 (List.forall_mem_cons.mpr ⟨.tail _ (.tail _ (.tail _ (hkx _ (by rw [hk1]; exact .head _)))), List.forall_mem_cons.mpr ⟨.tail _ (.tail _ (.tail _ (hkx _ (by rw [hk1]; exact .tail _ (.head _))))), fun p hp => hp⟩⟩)
        clear N7
        repeat' (
          (fail_if_success (with_reducible show wpAny _ _ (exec (Stmt.For _ _ _ _ _) _) _ _ _));
          (fail_if_success (with_reducible show wpAny _ _ (exec (Stmt.Try _ _ _ _ _) _) _ _ _));
          (fail_if_success (with_reducible show wpAny _ _ (exec (Stmt.While _ _ _ _) _) _ _ _));
          (fail_if_success (with_reducible show wpAny _ _ (eval (Expr.ListComp _ _ _ _) _) _ _ _));
          (fail_if_success (with_reducible show wpAny _ _ (exec (Stmt.Assign _ (Expr.ListComp _ _ _ _) _) _) _ _ _));
          (fail_if_success (with_reducible show wpAny _ _ (PySem.call (Value.ref _) _ _) _ _ _));
          (fail_if_success (with_reducible show wpAny _ _ (pyIter _) _ _ _));
          (fail_if_success (with_reducible show TurnQ _ _ _ _ _ _ _ _ _ _));
          (first | walk1 | (dsimp only; walk1)); (first | (with_reducible show wpAny _ _ (subscriptTail _ _ _ _) _ _ _) | (try dsimp only)))
        rename Fr _ _ _ _ => F9
        rename News _ _ _ _ => N9
        refine item_listL (News.il N9 (.tail _ (.tail _ (.tail _ (.tail _ (.head _)))))) (by omega) (by omega) (by rw [Int.toNat_natCast]; exact hyz) ?_
        repeat' (
          (fail_if_success (with_reducible show wpAny _ _ (exec (Stmt.For _ _ _ _ _) _) _ _ _));
          (fail_if_success (with_reducible show wpAny _ _ (exec (Stmt.Try _ _ _ _ _) _) _ _ _));
          (fail_if_success (with_reducible show wpAny _ _ (exec (Stmt.While _ _ _ _) _) _ _ _));
          (fail_if_success (with_reducible show wpAny _ _ (eval (Expr.ListComp _ _ _ _) _) _ _ _));
          (fail_if_success (with_reducible show wpAny _ _ (exec (Stmt.Assign _ (Expr.ListComp _ _ _ _) _) _) _ _ _));
          (fail_if_success (with_reducible show wpAny _ _ (PySem.call (Value.ref _) _ _) _ _ _));
          (fail_if_success (with_reducible show wpAny _ _ (pyIter _) _ _ _));
          (fail_if_success (with_reducible show TurnQ _ _ _ _ _ _ _ _ _ _));
          (first | walk1 | (dsimp only; walk1)); (first | (with_reducible show wpAny _ _ (subscriptTail _ _ _ _) _ _ _) | (try dsimp only)))
        have hok : ∀ j, (wst (page.getD j [])).Ok := fun j => by
          refine wst_ok ?_
          rw [List.getD_eq_getElem?_getD]
          cases hq : page[j]? with
          | none => simp
          | some r => exact Nat.le_trans (hbd r (List.mem_of_getElem? hq)).1 (by decide)
        have N10 := News.sub (nx := kx ++ ky) N9 fun p hp => .tail _ (.tail _ (.tail _ (.tail _ (.tail _ ((List.mem_append.mp hp).elim (hkx p) (hky p))))))
        refine less_spec (Gd.nextN X T B F9 N10 rfl rfl) (fun p hp => (N10 p hp).1) hWx hWy (hok _) (hok _) (by exact roomD (hroom ()).1 (by decide)) (by first | exact roomU (hroom ()).2 (by decide) | exact roomU3 (hroom ()).2 (by decide)) ?_
        intro bl h11 tk11 kp11 hbl
        have F11 := F9.keeps kp11
        have N11 := News.keepsK (News.sub (nx := (I, oI) :: (E, listOf vs.toArray e) :: (D, listOf Y.toArray kD) :: kn) N9 fun p hp => .tail _ (.tail _ hp)) kp11
        clear F9 N9 N10
        cases bl with
        | true =>
          have hl : pageLess page i z := hbl.mp rfl
          repeat' (
            (fail_if_success (with_reducible show wpAny _ _ (exec (Stmt.For _ _ _ _ _) _) _ _ _));
            (fail_if_success (with_reducible show wpAny _ _ (exec (Stmt.Try _ _ _ _ _) _) _ _ _));
            (fail_if_success (with_reducible show wpAny _ _ (exec (Stmt.While _ _ _ _) _) _ _ _));
            (fail_if_success (with_reducible show wpAny _ _ (eval (Expr.ListComp _ _ _ _) _) _ _ _));
            (fail_if_success (with_reducible show wpAny _ _ (exec (Stmt.Assign _ (Expr.ListComp _ _ _ _) _) _) _ _ _));
            (fail_if_success (with_reducible show wpAny _ _ (PySem.call (Value.ref _) _ _) _ _ _));
            (fail_if_success (with_reducible show wpAny _ _ (pyIter _) _ _ _));
            (fail_if_success (with_reducible show TurnQ _ _ _ _ _ _ _ _ _ _));
            (first | walk1 | (dsimp only; walk1)); (first | (with_reducible show wpAny _ _ (subscriptTail _ _ _ _) _ _ _) | (try dsimp only)))
          rename Fr _ _ _ _ => F12
          rename News _ _ _ _ => N12
          have ez : (z : Int) + 1 = ((z + 1 : Nat) : Int) := by omega
          rw [ez] at F12
          refine WhileStep.intro F12 N12 (n' := page.length - (z + 1)) (by omega) ⟨z + 1, _, rfl, by (first | (refine fm_s1 ?_; rfl) | (refine fm_s2 ?_; rfl) | (refine fm_s3 ?_; rfl) | (refine fm_s4 ?_; rfl) | (refine fm_s5 ?_; rfl) | (refine fm_s6 ?_; rfl)), rfl, by omega, by omega, fun j h1 h2 => ?_⟩
          by_cases h3 : j < z
          · exact hzp j h1 h3
          · have : j = z := by omega
            rw [this]; exact hl
        | false =>
          have hnl : z < page.length → ¬ pageLess page i z := fun _ h => by cases hbl.mpr h
          repeat' (
            (fail_if_success (with_reducible show wpAny _ _ (exec (Stmt.For _ _ _ _ _) _) _ _ _));
            (fail_if_success (with_reducible show wpAny _ _ (exec (Stmt.Try _ _ _ _ _) _) _ _ _));
            (fail_if_success (with_reducible show wpAny _ _ (exec (Stmt.While _ _ _ _) _) _ _ _));
            (fail_if_success (with_reducible show wpAny _ _ (eval (Expr.ListComp _ _ _ _) _) _ _ _));
            (fail_if_success (with_reducible show wpAny _ _ (exec (Stmt.Assign _ (Expr.ListComp _ _ _ _) _) _) _ _ _));
            (fail_if_success (with_reducible show wpAny _ _ (PySem.call (Value.ref _) _ _) _ _ _));
            (fail_if_success (with_reducible show wpAny _ _ (pyIter _) _ _ _));
            (fail_if_success (with_reducible show TurnQ _ _ _ _ _ _ _ _ _ _));
            (first | walk1 | (dsimp only; walk1)); (first | (with_reducible show wpAny _ _ (subscriptTail _ _ _ _) _ _ _) | (try dsimp only)))
          rename Fr _ _ _ _ => F12
          rename News _ _ _ _ => N12
          rw [List.push_toArray] at N12
          refine hgo F12 N12 ((E, listOf (vs ++ [Value.int (z : Int) tz]).toArray (e + 1)) :: (D, listOf Y.toArray kD) :: kn) (fun p h => h) ?_ ⟨_, _, E, _, _, es ++ [z], by (refine fm_ext' ?_; rfl), rfl, ?_, by simp [hes], hDE, hall, ?_⟩
          · intro p hp
            rcases List.mem_cons.mp hp with rfl | hp
            · exact hIE
            · exact hne p (.tail _ hp)
          · rw [List.map_append]
            exact hI.append (.cons _ _ .nil)
          · intro k2 e2 hk2
            rcases Nat.lt_or_ge k2 es.length with h | h
            · exact hprop k2 e2 (by rwa [List.getElem?_append_left h] at hk2)
            · have h2 := (List.getElem?_eq_some_iff.mp hk2).1
              have h3 : k2 = es.length := by simp at h2; omega
              subst h3
              have h4 : e2 = z := by simp at hk2; exact hk2.symm
              subst h4
              rw [hes]
              exact ⟨hz1, hz2, hzp, hnl⟩
      · have hnl : z < page.length → ¬ pageLess page i z := fun h => by omega
        rename Fr _ _ _ _ => F12
        rename News _ _ _ _ => N12
        rw [List.push_toArray] at N12
        refine hgo F12 N12 ((E, listOf (vs ++ [Value.int (z : Int) tz]).toArray (e + 1)) :: (D, listOf Y.toArray kD) :: kn) (fun p h => h) ?_ ⟨_, _, E, _, _, es ++ [z], by (refine fm_ext' ?_; rfl), rfl, ?_, by simp [hes], hDE, hall, ?_⟩
        · intro p hp
          rcases List.mem_cons.mp hp with rfl | hp
          · exact hIE
          · exact hne p (.tail _ hp)
        · rw [List.map_append]
          exact hI.append (.cons _ _ .nil)
        · intro k2 e2 hk2
          rcases Nat.lt_or_ge k2 es.length with h | h
          · exact hprop k2 e2 (by rwa [List.getElem?_append_left h] at hk2)
          · have h2 := (List.getElem?_eq_some_iff.mp hk2).1
            have h3 : k2 = es.length := by simp at h2; omega
            subst h3
            have h4 : e2 = z := by simp at hk2; exact hk2.symm
            subst h4
            rw [hes]
            exact ⟨hz1, hz2, hzp, hnl⟩
    · rintro m₁ news₁ h3 tk3 ⟨vk, ve, E, vs, e, es, rfl, rfl, hI, hes, hDE, hall, hprop⟩ F N
      repeat' (
        (fail_if_success (with_reducible show wpAny _ _ (exec (Stmt.For _ _ _ _ _) _) _ _ _));
        (fail_if_success (with_reducible show wpAny _ _ (exec (Stmt.Try _ _ _ _ _) _) _ _ _));
        (fail_if_success (with_reducible show wpAny _ _ (exec (Stmt.While _ _ _ _) _) _ _ _));
        (fail_if_success (with_reducible show wpAny _ _ (eval (Expr.ListComp _ _ _ _) _) _ _ _));
        (fail_if_success (with_reducible show wpAny _ _ (exec (Stmt.Assign _ (Expr.ListComp _ _ _ _) _) _) _ _ _));
        (fail_if_success (with_reducible show wpAny _ _ (PySem.call (Value.ref _) _ _) _ _ _));
        (fail_if_success (with_reducible show wpAny _ _ (pyIter _) _ _ _));
        (fail_if_success (with_reducible show TurnQ _ _ _ _ _ _ _ _ _ _));
        (first | walk1 | (dsimp only; walk1)); (first | (with_reducible show wpAny _ _ (subscriptTail _ _ _ _) _ _ _) | (try dsimp only)))
      exact hret _ _ _ es F.keep ⟨hes, hprop⟩ ⟨vs, News.il N (.head _), hI⟩ (N _ (.head _)).2.2


theorem IsCell.at' {h h' : Heap} {c : Addr} {v : Option Value} (x : h.IsCell c v) (hk : ∀ o, h.get? c = some o → h'.get? c = some o) : h'.IsCell c v := let ⟨o, ho, r⟩ := x; ⟨o, hk o ho, r⟩
section
variable {prog : Program} {w : World} {A : Around} {s : Shared}
/-- between the turns -/
inductive LoopC (s : Shared) (St : Nat → Heap → Prop) (hB : Heap) (C D I c : Addr) (ys₀ : Array Value) (m : Str → Option Value) (P : Nat → Value → Prop) (p : Value → Bool) (F : Value → Value → Heap → Prop) (n : Nat) (k : Nat) (s' : Shared) : Prop
  | mk (h' : Heap) (tk : Nat) (m' : Str → Option Value) (ys : Array Value) (vs : List Value) (h09 : s' = { s with heap := h', toks := tk }) (h19 : St vs.length h') (h29 : h'.PlainList D (ys₀ ++ ys)) (h39 : Fr hB C h' m') (h49 : m' = m) (h59 : (∃ v₁, h'.IsCell c v₁)) (h69 : (∀ j v, vs[j]? = some v → P j v)) (h79 : Paired (fun v y => ∀ hh, (∀ b o, b ≠ C → b ≠ D → b ≠ I → b ≠ c → h'.get? b = some o → hh.get? b = some o) → F v y hh) (vs.filter p) ys.toList) (h89 : ys.size ≤ vs.length) (h99 : vs.length ≤ n) (h109 : k = n + 1 - vs.length) (h119 : (∀ b o, b ≠ C → b ≠ D → b ≠ I → b ≠ c → s.heap.get? b = some o → h'.get? b = some o)) : LoopC s St hB C D I c ys₀ m P p F n k s'

theorem compLoop_KC {R : Result → Shared → Prop} {elt iter : Expr} {gens : List Comprehension} {depth : Nat} {x : Str} {px : Pos} {ifs : List Expr} {scope : Scope} {pos : Pos} {cenv : Env} {I D C c : Addr} {v₀ : Option Value} {fp : List Addr} {n : Nat} {P : Nat → Value → Prop} {St : Nat → Heap → Prop} {m : Str → Option Value} {hB : Heap}
    (hturn : compTurn (.ListComp elt gens scope pos) depth (.ref I) (.ref D) cenv = (do
      standAt iter.pos
      match ← pyNext (.ref I) with
      | none => pure (.done .next)
      | some v =>
        letOwnedTupleGo (.Name x px) (.ref I) v
        assign (.Name x px) cenv v
        let mut ok := true
        for c in ifs do
          if ok then ok ← isTrue c cenv (eval c cenv)
        if ok then
          (do let _ ← call (.builtin "list.append") [.ref D, ← eval elt cenv])
        again (.compLoop (.ListComp elt gens scope pos) depth (.ref I) (.ref D) cenv)))
    (W : Walks prog w A I fp [I] n P St) (p : Value → Bool) (F : Value → Value → Heap → Prop)
    (hlive : ∀ i h, St i h → ∃ o, h.get? I = some o)
    (hC : cenv.locals = C) (hx : cenv.kindOf x = some .cell) (hcx : cenv.cells.lookup x = some c) (hkk : cenv.scope.kind = .function) (hcC : c ≠ C) (hcD : c ≠ D) (hcf : c ∉ fp) (hcell : s.heap.IsCell c v₀)
    (hDC : D ≠ C) (hDf : D ∉ fp) (hCf : C ∉ fp) (hB1 : ∀ b o, hB.get? b = some o → b ≠ C ∧ b ≠ D ∧ b ≠ I ∧ s.heap.get? b = some o ∧ b ≠ c) (hB2 : hB.objs.size ≤ C)
    (hst : St 0 s.heap) {ys₀ : Array Value} (hacc : s.heap.PlainList D ys₀) (hn : s.heap.Ns C m)
    (htests : ∀ i v h₂ tk₂, P i v → Fr hB C h₂ m → h₂.IsCell c (some v) → wpAny (model prog w) A (tests ifs cenv) (fun ok s₃ => ok = p v ∧ Keeps { s with heap := h₂, toks := tk₂ } s₃) (fun _ _ => False) { s with heap := h₂, toks := tk₂ })
    (helt : ∀ i v h₂ tk₂, P i v → p v = true → Fr hB C h₂ m → h₂.IsCell c (some v) → wpAny (model prog w) A (eval elt cenv) (EltPost hB s h₂ F v) (fun _ _ => False) { s with heap := h₂, toks := tk₂ })
    (hR : ∀ h' tk m' ys (vs : List Value), Fr hB C h' m' → m' = m → h'.PlainList D (ys₀ ++ ys) → vs.length = n → (∀ j v, vs[j]? = some v → P j v) → Paired (fun v y => ∀ hh, (∀ b o, b ≠ C → b ≠ D → b ≠ I → b ≠ c → h'.get? b = some o → hh.get? b = some o) → F v y hh) (vs.filter p) ys.toList →
      (∀ b o, b ≠ C → b ≠ D → b ≠ I → b ≠ c → s.heap.get? b = some o → h'.get? b = some o) → R (.ok .next) { s with heap := h', toks := tk })
    (hsz : ys₀.size + n ≤ sizeLine) :
    codeAny (model prog w) A (.compLoop (.ListComp elt gens scope pos) depth (.ref I) (.ref D) cenv) R s := by
  subst hC
  have hIf : I ∈ fp := W.sub I (List.mem_singleton.mpr rfl)
  have hDI : D ≠ I := fun e => hDf (e ▸ hIf)
  have hcI : c ≠ I := fun e => hcf (e ▸ hIf)
  have hCI : cenv.locals ≠ I := fun e => hCf (e ▸ hIf)
  refine codeAny_loop (M := model prog w) rfl
    (LoopC s St hB cenv.locals D I c ys₀ m P p F n) ?_ (n + 1)
    ⟨s.heap, s.toks, m, #[], [], rfl, hst, by simpa using hacc, ⟨hn, fun b o e => (hB1 b o e).2.2.2.1, hB2⟩, rfl, ⟨_, hcell⟩, by simp, by simpa using Paired.nil, Nat.zero_le _, Nat.zero_le _, rfl, fun _ _ _ _ _ _ e => e⟩
  rintro k s' ⟨H, tk, m', ys, vs, rfl, hst', hacc', F', rfl, ⟨v₁, hc1⟩, hP, hF, hle, hi, rfl, hk⟩
  show wpAny _ A ((compTurn (.ListComp elt gens scope pos) depth (.ref I) (.ref D) cenv).onRaise (fun x => do noteFrame x cenv; theTreesLotGoes x)) _ _ _
  refine wpAny_noted ?_
  rw [hturn]
  refine wpAny_bind (wpAny_standAt (wpAny_bind ?_))
  by_cases hlt : vs.length < n
  · refine W.item vs.length _ _ _ hlt hst' fun v h₁ tk₁ hPv hst₁ hk₁ => ?_
    have hk₁' : ∀ b o, b ≠ I → H.get? b = some o → h₁.get? b = some o := fun b o hb e => hk₁ b o (fun q => hb (List.mem_singleton.mp q)) e
    have F₁ : Fr hB cenv.locals h₁ m' := ⟨F'.ns.at' fun o e => hk₁' _ o hCI e, fun b o e => hk₁' b o (hB1 b o e).2.2.1 (F'.keep b o e), F'.above⟩
    refine wpAny_bind (wpAny_pure (wpAny_bind ?_))
    refine wpAny_assign_Name (wpAny_storeName_cell hkk hx hcx (IsCell.at' hc1 fun o e => hk₁' c o hcI e) (fun h₂ hc₂ hs₂ => ?_))
    have F₂ : Fr hB cenv.locals h₂ m' := ⟨F₁.ns.sameBut hs₂ (Ne.symm hcC), fun b o e => hs₂.extBut b o (hB1 b o e).2.2.2.2 (F₁.keep b o e), F₁.above⟩
    have up₂ : ∀ b o, b ≠ c → b ≠ I → H.get? b = some o → h₂.get? b = some o := fun b o hbC hbI e => hs₂.extBut b o hbC (hk₁' b o hbI e)
    have hst₂ : St (vs.length + 1) h₂ := W.frame _ _ _ hst₁ fun b hb o e => hs₂.extBut b o (fun h => hcf (h ▸ hb)) e
    refine wpAny_bind (wpAny_mono (htests vs.length v h₂ tk₁ hPv F₂ hc₂) (fun ok s₃ h₃ => ?_) fun _ _ x => x.elim)
    obtain ⟨rfl, h₃, tk₃, rfl, hk₃⟩ := h₃
    have hst₃ : St (vs.length + 1) h₃ := W.frame _ _ _ hst₂ fun b _ o e => hk₃ b o e
    have hacc₃ : h₃.PlainList D (ys₀ ++ ys) := hacc'.at fun o e => hk₃ _ o (up₂ D o (Ne.symm hcD) hDI e)
    have F₃ : Fr hB cenv.locals h₃ m' := F₂.keeps hk₃
    have hc₃ : h₃.IsCell c (some v) := hc₂.keeps hk₃
    have hP' : ∀ j u, (vs ++ [v])[j]? = some u → P j u := fun j u hj => by
      rcases Nat.lt_trichotomy j vs.length with h | h | h
      · exact hP j u (by rwa [List.getElem?_append_left h] at hj)
      · subst h; simp at hj; subst hj; exact hPv
      · have hnone : (vs ++ [v])[j]? = none := List.getElem?_eq_none (by rw [List.length_append, List.length_singleton]; omega)
        rw [hnone] at hj; cases hj
    have hF₃ : ∀ h₄ : Heap, (∀ b o, b ≠ cenv.locals → b ≠ D → b ≠ I → b ≠ c → h₃.get? b = some o → h₄.get? b = some o) → Paired (fun v y => ∀ hh, (∀ b o, b ≠ cenv.locals → b ≠ D → b ≠ I → b ≠ c → h₄.get? b = some o → hh.get? b = some o) → F v y hh) (vs.filter p) ys.toList := fun h₄ hk₄ =>
      Paired.imp (fun v y q hh hhh => q hh fun b o b1 b2 b3 b4 e => hhh b o b1 b2 b3 b4 (hk₄ b o b1 b2 b3 b4 (hk₃ b o (up₂ b o b4 b3 e)))) hF
    cases hpv : p v with
    | false =>
      show wpAny _ _ (pure _) _ _ _
      refine wpAny_pure ⟨rfl, n + 1 - (vs.length + 1), by omega, h₃, tk₃, _, ys, vs ++ [v], rfl, by simpa using hst₃, hacc₃, F₃, rfl, ⟨_, hc₃⟩, hP', ?_, by simp; omega, by simp; omega, by simp, fun b o b1 b2 b3 b4 e => hk₃ b o (up₂ b o b4 b3 (hk b o b1 b2 b3 b4 e))⟩
      have : (vs ++ [v]).filter p = vs.filter p := by simp [hpv]
      rw [this]
      exact hF₃ h₃ fun _ _ _ _ _ _ e => e
    | true =>
      refine wpAny_bind (wpAny_bind (wpAny_mono (helt vs.length v h₃ tk₃ hPv hpv F₃ hc₃) (fun y s₄ h₄ => ?_) fun _ _ x => x.elim))
      obtain ⟨h₄, tk₄, rfl, hk₄, hFy⟩ := h₄
      have hacc₄ : h₄.PlainList D (ys₀ ++ ys) := hacc₃.at fun o e => hk₄ _ o e
      refine wpAny_bind (wpAny_list_append_plain hacc₄ (fun h₅ hacc₅ hs₅ => ?_) (by simp only [Array.size_append]; omega))
      refine wpAny_pure (wpAny_pure ⟨rfl, n + 1 - (vs.length + 1), by omega, h₅, tk₄, _, ys.push y, vs ++ [v], rfl, ?_, by simpa using hacc₅, ?_, rfl, ⟨_, IsCell.at' (hc₃.keeps hk₄) fun o e => hs₅.extBut _ o hcD e⟩, hP', ?_, by simp; omega, by simp; omega, by simp, ?_⟩)
      · have := W.frame _ _ h₅ hst₃ fun b hb o e => hs₅.extBut b o (fun h => hDf (h ▸ hb)) (hk₄ b o e)
        simpa using this
      · have F₄ : Fr hB cenv.locals h₄ _ := F₃.keeps hk₄
        exact ⟨F₄.ns.at' fun o e => hs₅.extBut _ o (Ne.symm hDC) e, fun b o e => hs₅.extBut b o (hB1 b o e).2.1 (F₄.keep b o e), F₄.above⟩
      · have : (vs ++ [v]).filter p = vs.filter p ++ [v] := by simp [hpv]
        rw [this, Array.toList_push]
        refine Paired.snoc (hF₃ h₅ fun b o b1 b2 b3 b4 e => hs₅.extBut b o b2 (hk₄ b o e)) fun hh hhh => hFy hh (fun b o e => ?_) fun b o hn₃ e => ?_
        · have q := hB1 b o e
          exact hhh b o q.1 q.2.1 q.2.2.1 q.2.2.2.2 (hs₅.extBut b o q.2.1 (hk₄ b o (F₃.keep b o e)))
        · have b1 : b ≠ cenv.locals := fun q => by
            obtain ⟨o', _, _, ho', _⟩ := F₃.ns
            rw [q, ho'] at hn₃; cases hn₃
          have b2 : b ≠ D := fun q => by
            obtain ⟨k', ho'⟩ := hacc₃
            rw [q, ho'] at hn₃; cases hn₃
          have b3 : b ≠ I := fun q => by
            obtain ⟨o', ho'⟩ := hlive _ _ hst₃
            rw [q, ho'] at hn₃; cases hn₃
          have b4 : b ≠ c := fun q => by
            obtain ⟨o', ho', _⟩ := hc₃
            rw [q, ho'] at hn₃; cases hn₃
          exact hhh b o b1 b2 b3 b4 (hs₅.extBut b o b2 e)
      · exact fun b o b1 b2 b3 b4 e => hs₅.extBut b o b2 (hk₄ b o (hk₃ b o (up₂ b o b4 b3 (hk b o b1 b2 b3 b4 e))))
  · have hin : vs.length = n := by omega
    have hst'' : St n H := hin ▸ hst'
    refine W.done _ _ _ hst'' fun h₁ tk₁ hk₁ => wpAny_pure ?_
    have hk₁' : ∀ b o, b ≠ I → H.get? b = some o → h₁.get? b = some o := fun b o hb e => hk₁ b o (fun q => hb (List.mem_singleton.mp q)) e
    refine hR h₁ tk₁ m' ys vs ⟨F'.ns.at' fun o e => hk₁' _ o hCI e, fun b o e => hk₁' b o (hB1 b o e).2.2.1 (F'.keep b o e), F'.above⟩ rfl (hacc'.at fun o e => hk₁' _ o hDI e) hin hP ?_ fun b o b1 b2 b3 b4 e => hk₁' b o b3 (hk b o b1 b2 b3 b4 e)
    exact Paired.imp (fun v y q hh hhh => q hh fun b o b1 b2 b3 b4 e => hhh b o b1 b2 b3 b4 (hk₁' b o b3 e)) hF


theorem wpAny_newEnvC {scope : Scope} {env : Env} {cl : List (Str × Addr)} {x : Str} {Q : Env → Shared → Prop} {E : Value → Shared → Prop}
    (hcells : ∀ n acc, cellsFrom n scope.names acc = (x, n) :: acc) (hpush : ∀ h, pushCells h scope.names = h.push { cls := .type "cell", data := .cell none })
    (h : Q (newEnv scope s.heap.objs.size env.globals ((x, s.heap.objs.size + 1) :: cl) env.qual none .none (some env) builtinsNs) { s with heap := (s.heap.push { cls := .type "dict", data := .dict #[] }).push { cls := .type "cell", data := .cell none } }) :
    wpAny (model prog w) A (newFunctionEnv scope env.globals cl [] env.qual none .none (some env)) Q E s := by
  simp only [newFunctionEnv, Option.isSome_some, if_true]
  refine wpAny_bind (wpAny_alloc ?_)
  refine wpAny_bind (wpAny_layCells _ (fun name kind cells => by cases hkc : kind == NameKind.cell <;> simp [hkc]) _ _ _ _ ?_)
  rw [hcells, hpush]
  refine wpAny_bind ?_
  rw [List.forIn_nil]
  refine wpAny_pure (wpAny_pure ?_)
  have e : ({ s with heap := s.heap.push { cls := .type "dict", data := .dict #[] } } : Shared).heap.objs.size = s.heap.objs.size + 1 := Heap.size_push ..
  rw [e]
  exact h

/-- as CompAt, where the comprehension's own name is a cell -/
inductive CompAtC (prog : Program) (w : World) (A : Around) (env : Env) (scope : Scope) (cl : List (Str × Addr)) (x : Str) (ifs : List Expr) (elt : Expr) (Fin : Heap → Shared → Value → Prop) (it : Value) (s₂ : Shared) : Prop
  | mk (s₁ : Shared) (oI : Obj) (fp : List Addr) (n : Nat) (P : Nat → Value → Prop) (St : Nat → Heap → Prop) (p : Value → Bool) (F : Value → Value → Heap → Prop) (h09 : it = .ref s₁.heap.objs.size) (h19 : s₂ = { s₁ with heap := s₁.heap.push oI }) (h29 : Walks prog w A s₁.heap.objs.size fp [s₁.heap.objs.size] n P St) (h39 : (∀ i h, St i h → ∃ o, h.get? s₁.heap.objs.size = some o)) (h49 : (∀ b ∈ fp, b ≤ s₁.heap.objs.size)) (h59 : St 0 (s₁.heap.push oI)) (h69 : n ≤ sizeLine) (h79 : (∀ i v C c h₂ tk₂, P i v → Fr s₁.heap C h₂ (fun _ => none) → h₂.IsCell c (some v) → wpAny (model prog w) A (tests ifs (compEnvC scope ((x, c) :: cl) C env)) (fun ok s₃ => ok = p v ∧ Keeps { s₁ with heap := h₂, toks := tk₂ } s₃) (fun _ _ => False) { s₁ with heap := h₂, toks := tk₂ })) (h89 : (∀ i v C c h₂ tk₂, P i v → p v = true → Fr s₁.heap C h₂ (fun _ => none) → h₂.IsCell c (some v) → wpAny (model prog w) A (eval elt (compEnvC scope ((x, c) :: cl) C env)) (EltPost s₁.heap s₁ h₂ F v) (fun _ _ => False) { s₁ with heap := h₂, toks := tk₂ })) (h99 : (∀ D h' tk ys (vs : List Value), Kp s₁.heap h' → s₁.heap.get? D = none → h'.PlainList D ys → vs.length = n → (∀ j v, vs[j]? = some v → P j v) → Paired (fun v y => F v y h') (vs.filter p) ys.toList → Fin s₁.heap { s₁ with heap := h', toks := tk } (.ref D))) : CompAtC prog w A env scope cl x ifs elt Fin it s₂

theorem lookup_relabel_cell {env : Env} : ∀ {names : List (Str × NameKind)} {x : Str}, names.lookup x = some .cell →
    (names.map fun (n, k) => if (k == NameKind.free && env.scope.kind == .function && env.kindOf n == some .cell) then (n, NameKind.cell) else (n, k)).lookup x = some .cell
  | [], _, h => by simp at h
  | (n, k) :: r, x, h => by
    have ih := @lookup_relabel_cell env r x
    show List.lookup x ((if (k == NameKind.free && env.scope.kind == .function && env.kindOf n == some .cell) = true then (n, NameKind.cell) else (n, k)) :: _) = _
    cases hx : x == n with
    | true =>
      simp only [List.lookup_cons, hx] at h
      cases h
      simp [List.lookup_cons, hx]
    | false =>
      simp only [List.lookup_cons, hx] at h
      by_cases hc : (k == NameKind.free && env.scope.kind == .function && env.kindOf n == some .cell) = true
      · rw [if_pos hc]; simp only [List.lookup_cons, hx]; exact ih h
      · rw [if_neg hc]; simp only [List.lookup_cons, hx]; exact ih h

theorem comp_blockC {elt iter : Expr} {x : Str} {px : Pos} {ifs : List Expr} {scope : Scope} {cl : List (Str × Addr)} {pos : Pos} {env : Env} {it : Value} {s₂ : Shared} {Fin : Heap → Shared → Value → Prop} {RR : Value → Addr → Result → Shared → Prop}
    (h : CompAtC prog w A env scope cl x ifs elt Fin it s₂) (hcells : ∀ n acc, cellsFrom n scope.names acc = (x, n) :: acc) (hpush : ∀ h, pushCells h scope.names = h.push { cls := .type "cell", data := .cell none }) (hkind : scope.kind = .function) (hx : scope.names.lookup x = some .cell)
    (hRR : ∀ hB D C h' tk m', hB.get? C = none → C ≠ D → h'.Ns C m' → Kp hB h' → (∀ h'' tk', (∀ b o, b ≠ C → h'.get? b = some o → h''.get? b = some o) → Fin hB { s₂ with heap := h'', toks := tk' } (.ref D)) → RR (.ref D) C (.ok .next) { s₂ with heap := h', toks := tk }) :
    wpAny (model prog w) A (newList []) (fun acc s₃ => wpAny (model prog w) A (newFunctionEnv scope env.globals cl [] env.qual none .none (some env)) (fun cenv s₄ =>
      codeAny (model prog w) A (.compStart (.ListComp elt [⟨.Name x px, iter, ifs, 0⟩] scope pos) 0 it acc { cenv with scope := relabel scope env }) (RR acc cenv.locals) s₄) (fun _ _ => False) s₃) (fun _ _ => False) s₂ := by
  obtain ⟨s₁, oI, fp, n, P, St, p, F, rfl, rfl, W, hlive, hfp, hst, hsz, htests, helt, hfin⟩ := h
  refine wpAny_newObj_type (wpAny_newEnvC hcells hpush ?_)
  dsimp only
  generalize hH1 : s₁.heap.push oI = H1 at hst ⊢
  have hD : H1.objs.size = s₁.heap.objs.size + 1 := by rw [← hH1, Heap.size_push]
  generalize hH2 : H1.push { cls := .type "list", dict := none, data := .seq ([] : List Value).toArray } = H2
  have hC : H2.objs.size = s₁.heap.objs.size + 2 := by rw [← hH2, Heap.size_push, hD]
  have hDC : H1.objs.size ≠ H2.objs.size := by omega
  have hns₀ : (H2.push { cls := .type "dict", data := .dict #[] }).Ns H2.objs.size fun _ => none := Heap.Ns.new H2 _
  generalize hH3 : H2.push { cls := .type "dict", data := .dict #[] } = H3 at hns₀ ⊢
  have hc3 : H3.objs.size = H2.objs.size + 1 := by rw [← hH3, Heap.size_push]
  have hcell₁ : (H3.push { cls := .type "cell", data := .cell none }).IsCell (H2.objs.size + 1) none := ⟨_, hc3 ▸ Heap.get?_push_size _ rfl, rfl⟩
  have hns₁ : (H3.push { cls := .type "cell", data := .cell none }).Ns H2.objs.size fun _ => none := hns₀.keeps fun b o e => Heap.get?_push_of_some _ e
  have old1 : ∀ b o, H1.get? b = some o → (H3.push { cls := .type "cell", data := .cell none }).get? b = some o := fun b o e =>
    Heap.get?_push_of_some _ (hH3 ▸ Heap.get?_push_of_some _ (hH2 ▸ Heap.get?_push_of_some _ e))
  have hacc : (H3.push { cls := .type "cell", data := .cell none }).PlainList H1.objs.size #[] := ⟨_, Heap.get?_push_of_some _ (hH3 ▸ Heap.get?_push_of_some _ (hH2 ▸ Heap.get?_push_size _ rfl))⟩
  generalize H3.push { cls := .type "cell", data := .cell none } = h₁ at hcell₁ hns₁ old1 hacc ⊢
  have old : ∀ b o, s₁.heap.get? b = some o → h₁.get? b = some o := fun b o e => old1 b o (hH1 ▸ Heap.get?_push_of_some _ e)
  have hst₁ : St 0 h₁ := W.frame _ _ _ hst fun b _ o e => old1 b o e
  have fresh : ∀ a, s₁.heap.objs.size ≤ a → s₁.heap.get? a = none := fun a ha => by
    cases e : s₁.heap.get? a with
    | none => rfl
    | some o' => exact absurd (Heap.lt_size e) (Nat.not_lt.mpr ha)
  have loop : ∀ s₃ : Shared, s₃ = { s₁ with heap := h₁ } →
      codeAny (model prog w) A (.compLoop (.ListComp elt [⟨.Name x px, iter, ifs, 0⟩] scope pos) 0 (.ref s₁.heap.objs.size) (.ref H1.objs.size) (compEnvC scope ((x, H2.objs.size + 1) :: cl) H2.objs.size env))
        (RR (.ref H1.objs.size) H2.objs.size) s₃ := by
    rintro s₃ rfl
    refine compLoop_KC (iter := iter) (px := px) (x := x) (ifs := ifs) (C := H2.objs.size) (c := H2.objs.size + 1) (hB := s₁.heap) (ys₀ := #[]) rfl W p F hlive rfl (lookup_relabel_cell hx) (by simp [compEnvC]) hkind (Nat.succ_ne_self _) (Nat.ne_of_gt (by omega)) (fun q => leLt (hfp _ q) (by omega) rfl) hcell₁ hDC (fun q => leLt (hfp _ q) (by omega) rfl) (fun q => leLt (hfp _ q) (by omega) rfl)
      (fun b o e => ?_) (by omega) hst₁ hacc hns₁ (fun i v h₂ tk₂ hv F₂ hc₂ => htests i v _ _ h₂ tk₂ hv F₂ hc₂) (fun i v h₂ tk₂ hv hpv F₂ hc₂ => helt i v _ _ h₂ tk₂ hv hpv F₂ hc₂) ?_ (by simpa using hsz)
    · have hb := Heap.lt_size e
      exact ⟨ltLe hb (by omega), ltLe hb (by omega), ltLe hb (Nat.le_refl _), old b o e, ltLe hb (by omega)⟩
    · intro h' tk m' ys vs F' hm' hpl hlen hP hPF hk
      refine hRR s₁.heap H1.objs.size H2.objs.size h' tk m' (fresh _ (by omega)) (Ne.symm hDC) F'.ns F'.keep fun h'' tk' hk'' => ?_
      refine hfin _ h'' tk' ys vs (fun b o e => ?_) (fresh _ (by omega)) ?_ hlen hP (Paired.imp (fun v y q => q h'' fun b o b1 _ _ _ e => hk'' b o b1 e) hPF)
      · have hb := Heap.lt_size e
        exact hk'' b o (ltLe hb (by omega)) (F'.keep b o e)
      · have : h'.PlainList H1.objs.size ys := by simpa using hpl
        exact this.at fun o e => hk'' _ o hDC e
  exact codeAny_compStart_list (loop _ rfl) (W.self 0 _ _ _ hst₁ (loop _ rfl))

theorem comp_assignC {elt iter : Expr} {x t : Str} {px pt spos : Pos} {ifs : List Expr} {scope : Scope} {cl : List (Str × Addr)} {pos : Pos} {env : Env} {Q : Flow → Shared → Prop} {h₀ : Heap} {L : Addr}
    (hsw : swapsWith (.ListComp elt [⟨.Name x px, iter, ifs, 0⟩] scope pos) (some (.Name t pt)) spos.line env = pure true)
    (hclos : closureFor scope env = pure cl) (hcells : ∀ n acc, cellsFrom n scope.names acc = (x, n) :: acc) (hpush : ∀ h, pushCells h scope.names = h.push { cls := .type "cell", data := .cell none }) (hkind : scope.kind = .function) (hnames : ∀ z ∈ scope.names, z.2 = .local → scope.names.lookup z.1 = some .local) (hx : scope.names.lookup x = some .cell)
    (hL : env.locals = L) (ht : env.kindOf t = some .local) (hp : (env.scope.kind == .class || (env.scope.kind == .module && env.locals != env.globals)) = false)
    (h : wpAny (model prog w) A (eval iter env) (fun xv s₁ => wpAny (model prog w) A (pyIter xv) (fun it s₂ => CompAtC prog w A env scope cl x ifs elt (FinA h₀ L t Q) it s₂) (fun _ _ => False) s₁) (fun _ _ => False) s)
    (hs : ∀ x, foldedSetIterable iter env x = pure x) :
    wpAny (model prog w) A (exec (.Assign [.Name t pt] (.ListComp elt [⟨.Name x px, iter, ifs, 0⟩] scope pos) spos) env) Q (fun _ _ => False) s := by
  subst hL
  rw [exec_Assign_Name_used _ _ _ _ hsw]
  refine wpAny_bind (wpAny_standAt (wpAny_bind ?_))
  show wpAny _ A (do let _ ← comprehension (.ListComp elt [⟨.Name x px, iter, ifs, 0⟩] scope pos) scope env _ (newList []) false (eval iter env) (some (assign (.Name t pt) env))) _ _ s
  refine wpAny_bind (wpAny_mono (wpAny_comprehension_free (use := some (assign (.Name t pt) env)) (Q := fun _ s' => Q .next s') rfl hs hclos hkind hnames
    (wpAny_mono h (fun xv s₁ h₁ => wpAny_mono h₁ (fun it s₂ h₂ => ?_) fun _ _ e => e) fun _ _ e => e)) (fun _ s' hq => wpAny_pure (wpAny_pure hq)) fun _ _ e => e)
  refine comp_blockC (RR := fun acc C => compPost (model prog w) A (fun _ _ => False) (some (assign (.Name t pt) env)) (fun _ s' => Q .next s') acc C) h₂ hcells hpush hkind hx ?_
  intro hB D C h' tk m' hC hCD hn hk hfin
  obtain ⟨mL, FL, hq⟩ := hfin (h'.hide C) tk fun b o hb e => (Heap.hide_ne h' hb).trans e
  have hLC : env.locals ≠ C := by
    rintro e
    obtain ⟨o, _, _, ho, _⟩ := FL.ns
    rw [e, hC] at ho; cases ho
  have F' := FL.keeps hk
  show wpAny _ A (assign (.Name t pt) env (.ref D)) _ _ _
  refine wpAny_assign_Name (wpAny_storeName_local ht F'.ns (fun h₂ hn₂ hs₂ => ?_) hp)
  refine ⟨m', hn.sameBut hs₂ (Ne.symm hLC), fun h₃ hs₃ => ?_⟩
  have F₂ := F'.set hn₂ hs₂
  refine hq h₃ _ ⟨F₂.ns.sameBut hs₃ hLC, fun b o e => ?_, F₂.above⟩ fun b o hb e => ?_
  · refine hs₃.extBut b o ?_ (F₂.keep b o e)
    rintro rfl
    have := FL.keep _ _ e
    rw [hC] at this; cases this
  · have hbC : b ≠ C := by
      rintro rfl
      rw [Heap.hide_self] at e; cases e
    exact hs₃.extBut b o hbC (hs₂.extBut b o hb (Heap.of_hide e))

theorem compAtC_list {elt : Expr} {x : Str} {ifs : List Expr} {scope : Scope} {cl : List (Str × Addr)} {env : Env} {Fin : Heap → Shared → Value → Prop} {l : Addr} {items : Array Value} {E : Value → Shared → Prop} (p : Value → Bool) (F : Value → Value → Heap → Prop)
    (hh : A.handled = none) (hl : s.heap.IsList l items) (hsz : items.size ≤ sizeLine)
    (htests : ∀ (i : Nat) v C c h₂ tk₂, items[i]? = some v → Fr s.heap C h₂ (fun _ => none) → h₂.IsCell c (some v) → wpAny (model prog w) A (tests ifs (compEnvC scope ((x, c) :: cl) C env)) (fun ok s₃ => ok = p v ∧ Keeps { s with heap := h₂, toks := tk₂ } s₃) (fun _ _ => False) { s with heap := h₂, toks := tk₂ })
    (helt : ∀ (i : Nat) v C c h₂ tk₂, items[i]? = some v → p v = true → Fr s.heap C h₂ (fun _ => none) → h₂.IsCell c (some v) → wpAny (model prog w) A (eval elt (compEnvC scope ((x, c) :: cl) C env)) (EltPost s.heap s h₂ F v) (fun _ _ => False) { s with heap := h₂, toks := tk₂ })
    (hfin : ∀ D h' tk ys, Kp s.heap h' → s.heap.get? D = none → h'.PlainList D ys → Paired (fun v y => F v y h') (items.toList.filter p) ys.toList → Fin s.heap { s with heap := h', toks := tk } (.ref D)) :
    wpAny (model prog w) A (pyIter (.ref l)) (fun it s₂ => CompAtC prog w A env scope cl x ifs elt Fin it s₂) E s := by
  obtain ⟨ol, hol, _⟩ := id hl
  have hlt : l < s.heap.objs.size := Heap.lt_size hol
  have hne : l ≠ s.heap.objs.size := Nat.ne_of_lt hlt
  refine wpAny_pyIter_list hl ⟨s, _, _, _, _, _, p, F, rfl, rfl, Walks.list hh s.heap.objs.size l hne items, (fun i h hs => let ⟨o, ho, _⟩ := hs.1; ⟨o, ho⟩), ?_, ⟨⟨_, Heap.get?_push_size _ rfl, rfl, rfl⟩, hl.at fun o e => Heap.get?_push_of_some _ e⟩, hsz, htests, helt, ?_⟩
  · intro b hb
    rcases List.mem_cons.mp hb with e | hm
    · rw [e]; exact Nat.le_refl _
    · rw [List.mem_singleton.mp hm]; exact Nat.le_of_lt hlt
  · intro D h' tk ys vs hk hD hpl hlen hP hPF
    have e : vs = items.toList := by
      refine List.ext_getElem? fun j => ?_
      cases hj : vs[j]? with
      | some v => rw [Array.getElem?_toList]; exact (hP j v hj).symm
      | none =>
        have := List.getElem?_eq_none_iff.mp hj
        exact (List.getElem?_eq_none_iff.mpr (by rw [Array.length_toList]; omega)).symm
    subst e
    exact hfin D h' tk ys hk hD hpl hPF

end

section
variable {prog : Program} {w : World} {A : Around} {s : Shared}
/-- between the turns -/
inductive LoopT (s : Shared) (St : Nat → Heap → Prop) (hB : Heap) (C D : Addr) (wr : List Addr) (ys₀ : Array Value) (m : Str → Option Value) (xi xc : Str) (P2 : Nat → Value → Value → Prop) (p : Value → Value → Bool) (g : Value → Value → Value) (n : Nat) (k : Nat) (s' : Shared) : Prop
  | mk (h' : Heap) (tk : Nat) (m' : Str → Option Value) (ys : Array Value) (ps : List (Value × Value)) (h09 : s' = { s with heap := h', toks := tk }) (h19 : St ps.length h') (h29 : h'.PlainList D (ys₀ ++ ys)) (h39 : Fr hB C h' m') (h49 : (∀ y, y ≠ xi → y ≠ xc → m' y = m y)) (h59 : (∀ j q, ps[j]? = some q → P2 j q.1 q.2)) (h69 : ys.toList = (ps.filter fun q => p q.1 q.2).map (fun q => g q.1 q.2)) (h79 : ps.length ≤ n) (h89 : k = n + 1 - ps.length) (h99 : (∀ b o, b ≠ C → b ≠ D → b ∉ wr → s.heap.get? b = some o → h'.get? b = some o)) : LoopT s St hB C D wr ys₀ m xi xc P2 p g n k s'

theorem compLoop_T {R : Result → Shared → Prop} {elt iter : Expr} {gens : List Comprehension} {depth : Nat} {xi xc : Str} {pk pv pt : Pos} {x1 : Nat} {ifs : List Expr} {scope : Scope} {pos : Pos} {cenv : Env} {I D C : Addr} {fp wr : List Addr} {n : Nat} {Pt : Nat → Array Value → Prop} {P2 : Nat → Value → Value → Prop} {St : Nat → Heap → Prop} {Mid : Nat → Addr → Heap → Prop} {m : Str → Option Value} {hB : Heap}
    (hturn : compTurn (.ListComp elt gens scope pos) depth (.ref I) (.ref D) cenv = (do
      standAt iter.pos
      match ← pyNext (.ref I) with
      | none => pure (.done .next)
      | some v =>
        letOwnedTupleGo (.Tuple [.Name xi pk, .Name xc pv] x1 pt) (.ref I) v
        assign (.Tuple [.Name xi pk, .Name xc pv] x1 pt) cenv v
        let mut ok := true
        for c in ifs do
          if ok then ok ← isTrue c cenv (eval c cenv)
        if ok then
          (do let _ ← call (.builtin "list.append") [.ref D, ← eval elt cenv])
        again (.compLoop (.ListComp elt gens scope pos) depth (.ref I) (.ref D) cenv)))
    (hh : A.handled = none) (W : WalksT prog w A I fp wr n Pt St Mid) (h2 : ∀ i vals, Pt i vals → ∃ v0 v1, vals = #[v0, v1] ∧ P2 i v0 v1) (p : Value → Value → Bool) (g : Value → Value → Value)
    (hC : cenv.locals = C) (hxi : cenv.kindOf xi = some .local) (hxc : cenv.kindOf xc = some .local) (hp : (cenv.scope.kind == .class || (cenv.scope.kind == .module && cenv.locals != cenv.globals)) = false)
    (hDC : D ≠ C) (hDf : D ∉ fp) (hCf : C ∉ fp) (hB1 : ∀ b o, hB.get? b = some o → b ≠ C ∧ b ≠ D ∧ b ∉ wr ∧ s.heap.get? b = some o) (hB2 : hB.objs.size ≤ C)
    (hst : St 0 s.heap) {ys₀ : Array Value} (hacc : s.heap.PlainList D ys₀) (hn : s.heap.Ns C m)
    (htests : ∀ i v0 v1 h₂ tk₂, P2 i v0 v1 → Fr hB C h₂ (fun y => if y = xc then some v1 else if y = xi then some v0 else m y) → wpAny (model prog w) A (tests ifs cenv) (fun ok s₃ => ok = p v0 v1 ∧ Keeps { s with heap := h₂, toks := tk₂ } s₃) (fun _ _ => False) { s with heap := h₂, toks := tk₂ })
    (helt : ∀ i v0 v1 h₂ tk₂, P2 i v0 v1 → Fr hB C h₂ (fun y => if y = xc then some v1 else if y = xi then some v0 else m y) → wpAny (model prog w) A (eval elt cenv) (fun y s₃ => y = g v0 v1 ∧ Keeps { s with heap := h₂, toks := tk₂ } s₃) (fun _ _ => False) { s with heap := h₂, toks := tk₂ })
    (hR : ∀ h' tk m' ys (ps : List (Value × Value)), Fr hB C h' m' → h'.PlainList D (ys₀ ++ ys) → ps.length = n → (∀ j q, ps[j]? = some q → P2 j q.1 q.2) → ys.toList = (ps.filter fun q => p q.1 q.2).map (fun q => g q.1 q.2) →
      (∀ b o, b ≠ C → b ≠ D → b ∉ wr → s.heap.get? b = some o → h'.get? b = some o) → R (.ok .next) { s with heap := h', toks := tk })
    (hsz : ys₀.size + n ≤ sizeLine) :
    codeAny (model prog w) A (.compLoop (.ListComp elt gens scope pos) depth (.ref I) (.ref D) cenv) R s := by
  subst hC
  have hDw : D ∉ wr := fun h => hDf (W.sub _ h)
  have hCw : cenv.locals ∉ wr := fun h => hCf (W.sub _ h)
  refine codeAny_loop (M := model prog w) rfl
    (LoopT s St hB cenv.locals D wr ys₀ m xi xc P2 p g n) ?_ (n + 1)
    ⟨s.heap, s.toks, m, #[], [], rfl, hst, by simpa using hacc, ⟨hn, fun b o e => (hB1 b o e).2.2.2, hB2⟩, fun _ _ _ => rfl, by simp, rfl, Nat.zero_le _, rfl, fun _ _ _ _ _ e => e⟩
  rintro k s' ⟨H, tk, m', ys, ps, rfl, hst', hacc', F', hm', hP, hF, hi, rfl, hk⟩
  have hle : ys.size ≤ ps.length := by
    have := congrArg List.length hF
    rw [Array.length_toList, List.length_map] at this
    rw [this]; exact List.length_filter_le _ _
  show wpAny _ A ((compTurn (.ListComp elt gens scope pos) depth (.ref I) (.ref D) cenv).onRaise (fun x => do noteFrame x cenv; theTreesLotGoes x)) _ _ _
  refine wpAny_noted ?_
  rw [hturn]
  refine wpAny_bind (wpAny_standAt (wpAny_bind ?_))
  by_cases hlt : ps.length < n
  · refine W.item ps.length _ _ _ hlt hst' fun T vals h₁ tk₁ hPt _ hT hMid hk₁ => ?_
    obtain ⟨v0, v1, rfl, hP2⟩ := h2 _ vals hPt
    refine wpAny_bind (W.go _ x1 pt _ T _ _ _ hMid fun h₂ hst₂ hk₂ => ?_)
    have ht₂ : h₂.IsTuple T #[v0, v1] := hT.at fun o e => hk₂ T o (W.apart _ T h₁ hMid) e
    refine wpAny_bind (wpAny_assign_Tuple hh ht₂ rfl rfl fun h₃ hx₃ => ?_)
    replace hx₃ : Heap.ExtBut h₂.objs.size h₂ h₃ := hx₃
    have up₃ : ∀ b o, h₂.get? b = some o → h₃.get? b = some o := fun b o x => hx₃ b o (Nat.ne_of_lt (Heap.lt_size x)) x
    have upH : ∀ b o, b ∉ wr → H.get? b = some o → h₃.get? b = some o := fun b o hb x => up₃ b o (hk₂ b o hb (hk₁ b o hb x))
    have F₃ : Fr hB cenv.locals h₃ m' := ⟨F'.ns.at' fun o e => upH _ o hCw e, fun b o e => upH b o (hB1 b o e).2.2.1 (F'.keep b o e), F'.above⟩
    show wpAny _ A (do holding [v1] (assign (.Name xi pk) cenv v0); do holding [] (assign (.Name xc pv) cenv v1); pure ()) _ _ _
    refine wpAny_bind (wpAny_holding (wpAny_assign_Name (wpAny_storeName_local hxi F₃.ns (fun h₄ hn₄ hs₄ => ?_) hp)))
    replace hs₄ : Heap.SameBut cenv.locals h₃ h₄ := hs₄
    have F₄ := F₃.set hn₄ hs₄
    refine wpAny_bind (wpAny_holding (wpAny_assign_Name (wpAny_storeName_local hxc F₄.ns (fun h₅ hn₅ hs₅ => wpAny_pure ?_) hp)))
    replace hs₅ : Heap.SameBut cenv.locals h₄ h₅ := hs₅
    have F₅ := F₄.set hn₅ hs₅
    have em : (fun y => if y = xc then some v1 else if y = xi then some v0 else m' y) = fun y => if y = xc then some v1 else if y = xi then some v0 else m y := by
      funext y
      by_cases hy : y = xc
      · rw [if_pos hy, if_pos hy]
      · rw [if_neg hy, if_neg hy]
        by_cases hy2 : y = xi
        · rw [if_pos hy2, if_pos hy2]
        · rw [if_neg hy2, if_neg hy2, hm' y hy2 hy]
    rw [em] at F₅
    have up₅ : ∀ b o, b ≠ cenv.locals → h₃.get? b = some o → h₅.get? b = some o := fun b o hb e => hs₅.extBut b o hb (hs₄.extBut b o hb e)
    have hst₅ : St (ps.length + 1) h₅ := W.frame _ _ _ hst₂ fun b hb o e => up₅ b o (fun q => hCf (q ▸ hb)) (up₃ b o e)
    refine wpAny_bind (wpAny_mono (htests ps.length v0 v1 h₅ _ hP2 F₅) (fun ok s₃ h₃ => ?_) fun _ _ x => x.elim)
    obtain ⟨rfl, h₆, tk₆, rfl, hk₆⟩ := h₃
    have hst₆ : St (ps.length + 1) h₆ := W.frame _ _ _ hst₅ fun b _ o e => hk₆ b o e
    have hacc₆ : h₆.PlainList D (ys₀ ++ ys) := hacc'.at fun o e => hk₆ _ o (up₅ D o hDC (upH D o hDw e))
    have F₆ := F₅.keeps hk₆
    have hm₆ : ∀ y, y ≠ xi → y ≠ xc → (fun y => if y = xc then some v1 else if y = xi then some v0 else m y) y = m y := fun y h1 h2 => by simp only [if_neg h1, if_neg h2]
    have hP' : ∀ j q, (ps ++ [(v0, v1)])[j]? = some q → P2 j q.1 q.2 := fun j u hj => by
      rcases Nat.lt_trichotomy j ps.length with h | h | h
      · exact hP j u (by rwa [List.getElem?_append_left h] at hj)
      · subst h; simp at hj; subst hj; exact hP2
      · have hnone : (ps ++ [(v0, v1)])[j]? = none := List.getElem?_eq_none (by rw [List.length_append, List.length_singleton]; omega)
        rw [hnone] at hj; cases hj
    cases hpv : p v0 v1 with
    | false =>
      show wpAny _ _ (pure _) _ _ _
      refine wpAny_pure ⟨rfl, n + 1 - (ps.length + 1), by omega, h₆, tk₆, _, ys, ps ++ [(v0, v1)], rfl, by simpa using hst₆, hacc₆, F₆, hm₆, hP', ?_, by simp; omega, by simp, fun b o b1 b2 b3 e => hk₆ b o (up₅ b o b1 (upH b o b3 (hk b o b1 b2 b3 e)))⟩
      simp [hpv, hF]
    | true =>
      refine wpAny_bind (wpAny_bind (wpAny_mono (helt ps.length v0 v1 h₆ tk₆ hP2 F₆) (fun y s₄ h₄ => ?_) fun _ _ x => x.elim))
      obtain ⟨rfl, h₇, tk₇, rfl, hk₇⟩ := h₄
      have hacc₇ : h₇.PlainList D (ys₀ ++ ys) := hacc₆.at fun o e => hk₇ _ o e
      refine wpAny_bind (wpAny_list_append_plain hacc₇ (fun h₈ hacc₈ hs₈ => ?_) (by simp only [Array.size_append]; omega))
      refine wpAny_pure (wpAny_pure ⟨rfl, n + 1 - (ps.length + 1), by omega, h₈, tk₇, _, ys.push (g v0 v1), ps ++ [(v0, v1)], rfl, ?_, by simpa using hacc₈, ?_, hm₆, hP', ?_, by simp; omega, by simp, ?_⟩)
      · have := W.frame _ _ h₈ hst₆ fun b hb o e => hs₈.extBut b o (fun h => hDf (h ▸ hb)) (hk₇ b o e)
        simpa using this
      · have F₇ := F₆.keeps hk₇
        exact ⟨F₇.ns.at' fun o e => hs₈.extBut _ o (Ne.symm hDC) e, fun b o e => hs₈.extBut b o (hB1 b o e).2.1 (F₇.keep b o e), F₇.above⟩
      · simp [hpv, hF]
      · exact fun b o b1 b2 b3 e => hs₈.extBut b o b2 (hk₇ b o (hk₆ b o (up₅ b o b1 (upH b o b3 (hk b o b1 b2 b3 e)))))
  · have hin : ps.length = n := by omega
    have hst'' : St n H := hin ▸ hst'
    refine W.done _ _ _ hst'' fun h₁ tk₁ hk₁ => wpAny_pure ?_
    refine hR h₁ tk₁ m' ys ps ⟨F'.ns.at' fun o e => hk₁ _ o hCw e, fun b o e => hk₁ b o (hB1 b o e).2.2.1 (F'.keep b o e), F'.above⟩ (hacc'.at fun o e => hk₁ _ o hDw e) hin hP hF fun b o b1 b2 b3 e => hk₁ b o b3 (hk b o b1 b2 b3 e)

/-- a comprehension over zip(l1, l2), ready to run: s₁ the state ahead of zip's call -/
inductive CompAtZ (prog : Program) (w : World) (A : Around) (env : Env) (scope : Scope) (cl : List (Str × Addr)) (xi xc : Str) (ifs : List Expr) (elt : Expr) (Q : Value → Shared → Prop) (xv : Value) (s₂ : Shared) : Prop
  | mk (s₁ : Shared) (h' : Heap) (l1 l2 : Addr) (xs ys : Array Value) (p : Value → Value → Bool) (g : Value → Value → Value) (h09 : xv = .ref (s₁.heap.objs.size + 4)) (h19 : s₂ = { s₁ with heap := h' }) (h29 : IsZip h' (s₁.heap.objs.size + 4) (s₁.heap.objs.size + 2) (s₁.heap.objs.size + 3) .none) (h39 : IsPair h' (s₁.heap.objs.size + 2) (.ref s₁.heap.objs.size) (.ref (s₁.heap.objs.size + 1))) (h49 : IsPair h' (s₁.heap.objs.size + 3) .none .none) (h59 : h'.IsListIter s₁.heap.objs.size l1 0) (h69 : h'.IsListIter (s₁.heap.objs.size + 1) l2 0) (h79 : h'.objs.size = s₁.heap.objs.size + 5) (h89 : Kp s₁.heap h') (h99 : s₁.heap.IsList l1 xs) (h109 : s₁.heap.IsList l2 ys) (h119 : xs.size ≤ sizeLine) (h129 : (∀ (i : Nat) v0 v1 C h₂ tk₂, xs[i]? = some v0 → ys[i]? = some v1 → Fr s₁.heap C h₂ (fun y => if y = xc then some v1 else if y = xi then some v0 else none) → wpAny (model prog w) A (tests ifs (compEnvC scope cl C env)) (fun ok s₃ => ok = p v0 v1 ∧ Keeps { s₁ with heap := h₂, toks := tk₂ } s₃) (fun _ _ => False) { s₁ with heap := h₂, toks := tk₂ })) (h139 : (∀ (i : Nat) v0 v1 C h₂ tk₂, xs[i]? = some v0 → ys[i]? = some v1 → Fr s₁.heap C h₂ (fun y => if y = xc then some v1 else if y = xi then some v0 else none) → wpAny (model prog w) A (eval elt (compEnvC scope cl C env)) (fun y s₃ => y = g v0 v1 ∧ Keeps { s₁ with heap := h₂, toks := tk₂ } s₃) (fun _ _ => False) { s₁ with heap := h₂, toks := tk₂ })) (h149 : (∀ D h'' tk zs (ps : List (Value × Value)), Kp s₁.heap h'' → s₁.heap.get? D = none → h''.PlainList D zs → ps.length = min xs.size ys.size → (∀ (j : Nat) (q : Value × Value), ps[j]? = some q → xs[j]? = some q.1 ∧ ys[j]? = some q.2) → zs.toList = (ps.filter fun q => p q.1 q.2).map (fun q => g q.1 q.2) → Q (.ref D) { s₁ with heap := h'', toks := tk })) : CompAtZ prog w A env scope cl xi xc ifs elt Q xv s₂

theorem comp_zip {elt iter : Expr} {xi xc : Str} {pk pv pt : Pos} {x1 : Nat} {ifs : List Expr} {scope : Scope} {cl : List (Str × Addr)} {pos : Pos} {env : Env} {Q : Value → Shared → Prop}
    (hclos : closureFor scope env = pure cl) (hcell : ∀ y ∈ scope.names, y.2 ≠ .cell) (hkind : scope.kind = .function) (hnames : ∀ z ∈ scope.names, z.2 = .local → scope.names.lookup z.1 = some .local) (hxi : scope.names.lookup xi = some .local) (hxc : scope.names.lookup xc = some .local) (hh : A.handled = none)
    (h : wpAny (model prog w) A (eval iter env) (fun xv s₁ => CompAtZ prog w A env scope cl xi xc ifs elt Q xv s₁) (fun _ _ => False) s)
    (hs : ∀ x, foldedSetIterable iter env x = pure x) :
    wpAny (model prog w) A (eval (.ListComp elt [⟨.Tuple [.Name xi pk, .Name xc pv] x1 pt, iter, ifs, 0⟩] scope pos) env) Q (fun _ _ => False) s := by
  rw [eval_ListComp]
  refine wpAny_comprehension_free (use := none) rfl hs hclos hkind hnames (wpAny_mono h (fun xv s₂ h₂ => ?_) fun _ _ e => e)
  obtain ⟨s₁, H, l1, l2, xs, ys, p, g, rfl, rfl, hz, hTI, hTO, hi1, hi2, hsz, hKp, hl1, hl2, hfit, htests, helt, hfin⟩ := h₂
  refine wpAny_pyIter_zip hz ?_
  refine wpAny_newObj_type (wpAny_newFunctionEnv hcell (by intro y hy; simp at hy) (fun h₁ hns₁ hsb₁ => ?_) hkind)
  dsimp only at hns₁ hsb₁ ⊢
  generalize hH2 : H.push { cls := .type "list", dict := none, data := .seq ([] : List Value).toArray } = H2 at hns₁ hsb₁ ⊢
  have hC : H2.objs.size = s₁.heap.objs.size + 6 := by rw [← hH2, Heap.size_push, hsz]
  have hDC : H.objs.size ≠ H2.objs.size := by omega
  have lt1 : l1 < s₁.heap.objs.size := by obtain ⟨o, ho, _⟩ := hl1; exact Heap.lt_size ho
  have lt2 : l2 < s₁.heap.objs.size := by obtain ⟨o, ho, _⟩ := hl2; exact Heap.lt_size ho
  have old1 : ∀ b o, H.get? b = some o → h₁.get? b = some o := fun b o e => by
    have hb := Heap.lt_size e
    exact hsb₁.extBut b o (ltLe hb (by omega)) (Heap.get?_push_of_some _ (hH2 ▸ Heap.get?_push_of_some _ e))
  have old : ∀ b o, s₁.heap.get? b = some o → h₁.get? b = some o := fun b o e => old1 b o (hKp _ _ e)
  have hacc : h₁.PlainList H.objs.size #[] := ⟨_, hsb₁.extBut _ _ hDC (Heap.get?_push_of_some _ (hH2 ▸ Heap.get?_push_size _ rfl))⟩
  have fresh : ∀ a, s₁.heap.objs.size ≤ a → s₁.heap.get? a = none := fun a ha => by
    cases e : s₁.heap.get? a with
    | none => rfl
    | some o' => exact absurd (Heap.lt_size e) (Nat.not_lt.mpr ha)
  have neN' : ∀ {a b : Nat}, a ≠ b → (a : Addr) ≠ (b : Addr) := fun h => h
  have D : ZipApart (s₁.heap.objs.size + 4) (s₁.heap.objs.size + 2) (s₁.heap.objs.size + 3) s₁.heap.objs.size (s₁.heap.objs.size + 1) l1 l2 := by
    have lt1' : @LT.lt Nat _ l1 s₁.heap.objs.size := lt1
    have lt2' : @LT.lt Nat _ l2 s₁.heap.objs.size := lt2
    constructor <;> exact neN' (by omega)
  have W := WalksT.zip2 (prog := prog) (w := w) (A := A) hh _ _ _ _ _ l1 l2 D xs ys
  have hst₁ : _ := W.frame 0 H h₁ ⟨hz, hTI, ⟨_, _, hTO⟩, hi1, hi2, hl1.at fun o e => hKp _ o e, hl2.at fun o e => hKp _ o e⟩ fun b _ o e => old1 b o e
  have inFp : ∀ b, b ∈ [s₁.heap.objs.size + 4, s₁.heap.objs.size + 2, s₁.heap.objs.size + 3, s₁.heap.objs.size, s₁.heap.objs.size + 1, l1, l2] → @LT.lt Nat _ b (s₁.heap.objs.size + 5) := by
    have lt1' : @LT.lt Nat _ l1 s₁.heap.objs.size := lt1
    have lt2' : @LT.lt Nat _ l2 s₁.heap.objs.size := lt2
    intro b hb
    simp only [List.mem_cons, List.not_mem_nil, or_false] at hb
    rcases hb with rfl | rfl | rfl | rfl | rfl | rfl | rfl <;> omega
  have loop : ∀ s₃ : Shared, s₃ = { s₁ with heap := h₁, toks := s₁.toks + ([] : List (Str × Value)).length } →
      codeAny (model prog w) A (.compLoop (.ListComp elt [⟨.Tuple [.Name xi pk, .Name xc pv] x1 pt, iter, ifs, 0⟩] scope pos) 0 (.ref (s₁.heap.objs.size + 4)) (.ref H.objs.size) (compEnvC scope cl H2.objs.size env))
        (compPost (model prog w) A (fun _ _ => False) none Q (.ref H.objs.size) H2.objs.size) s₃ := by
    rintro s₃ rfl
    refine compLoop_T (iter := iter) (pk := pk) (pv := pv) (pt := pt) (x1 := x1) (xi := xi) (xc := xc) (ifs := ifs) (C := H2.objs.size) (hB := s₁.heap) (ys₀ := #[]) (P2 := fun i v0 v1 => xs[i]? = some v0 ∧ ys[i]? = some v1) rfl hh W (fun i vals ⟨x, y, h1, h2, h3⟩ => ⟨x, y, h3, h1, h2⟩) p g rfl (lookup_relabel_local hxi) (lookup_relabel_local hxc) (by simp [compEnvC, relabel, hkind]) hDC (fun q => ltLe (inFp _ q) (by omega) rfl) (fun q => ltLe (inFp _ q) (by omega) rfl)
      (fun b o e => ?_) (by omega) hst₁ hacc hns₁ (fun i v0 v1 h₂ tk₂ hv F₂ => htests i v0 v1 _ h₂ tk₂ hv.1 hv.2 F₂) (fun i v0 v1 h₂ tk₂ hv F₂ => helt i v0 v1 _ h₂ tk₂ hv.1 hv.2 F₂) ?_ (by simp only [Array.size_empty, Nat.zero_add]; exact Nat.le_trans (Nat.min_le_left _ _) hfit)
    · have hb : @LT.lt Nat _ b s₁.heap.objs.size := Heap.lt_size e
      refine ⟨ltLe hb (by omega), ltLe hb (by omega), fun hm => ?_, old b o e⟩
      simp only [List.mem_cons, List.not_mem_nil, or_false] at hm
      rcases hm with rfl | rfl | rfl | rfl <;> omega
    · intro h' tk m' zs ps F' hpl hlen hP hF hk
      refine ⟨m', F'.ns, fun h'' hs'' => hfin _ h'' tk zs ps (fun b o e => ?_) (fresh _ (by omega)) ?_ hlen hP hF⟩
      · have hb := Heap.lt_size e
        exact hs''.extBut b o (ltLe hb (by omega)) (F'.keep b o e)
      · have : h'.PlainList H.objs.size zs := by simpa using hpl
        exact this.at fun o e => hs''.extBut _ o hDC e
  exact codeAny_compStart_list (loop _ rfl) (W.self 0 _ _ _ hst₁ (loop _ rfl))
end

noncomputable def colsOf (r : List Nat) : List Int := (List.range 9).map fun (i : Nat) => colOf (1 + i) r
noncomputable def colLess (page : List (List Nat)) (k j : Nat) : Prop := ∀ i : Nat, i < 9 → colOf (1 + i) (page.getD k []) < colOf (1 + i) (page.getD j [])
theorem nmC {w : World} {A : Around} {s : Shared} {env : Env} {Q : Value → Shared → Prop} {E : Value → Shared → Prop} {x : Str} {pos : Pos} {v : Value} {c : Addr} (hc : s.heap.IsCell c (some v)) (hcl : env.cells.lookup x = some c) (h : Q v s)
    (hk : env.scope.kind = .function := by rfl) (hl : env.kindOf x = some .cell := by rfl) (hd : (x == ("__debug__" : Str)) = false := by rfl) : wpAny (model PySem.Challenge.rw_pg0146_01.row.prog w) A (eval (.Name x pos) env) Q E s :=
  wpAny_Name (wpAny_loadName_cell hk hl hcl hc h) hd

theorem map_ints {f : Int → Int} {vs ys : List Value} {ns : List Int} (h : Paired (fun (v y : Value) => ∃ (z : Int) (t1 t2 : Tok), v = .int z t1 ∧ y = .int (f z) t2) vs ys) (hi : IntsAre vs ns) : IntsAre ys (ns.map f) := by
  induction h generalizing ns with
  | nil => cases hi; exact .nil
  | cons h t ih =>
    obtain ⟨z, t1, t2, e1, e2⟩ := h
    subst e1 e2
    cases hi with
    | cons _ _ h2 => exact .cons _ _ (ih h2)
/-- a list of lists of columns, the objects on kn -/
inductive ColAt (kn : List (Addr × Obj)) (y : Value) (r : List Nat) : Prop
  | mk (a : Addr) (vs : List Value) (k : Nat) (h1 : y = .ref a) (h2 : (a, listOf (List.toArray vs) k) ∈ kn) (h3 : IntsAre vs (colsOf r)) : ColAt kn y r
noncomputable def ColList (kn : List (Addr × Obj)) (ys : List Value) (page : List (List Nat)) : Prop := Paired (ColAt kn) ys page
theorem col_list {h h₁ : Heap} {its ys : List Value} (p : Paired (fun (v y : Value) => ∃ (r : List Nat) (t : Tok) (a : Addr) (vs : List Value) (k : Nat), v = .str ⟨r.toArray⟩ t ∧ y = .ref a ∧ h.get? a = some (listOf vs.toArray k) ∧ h₁.get? a = none ∧ IntsAre vs (colsOf r)) its ys) :
    ∀ {page : List (List Nat)}, Paired (fun (v : Value) (r : List Nat) => ∃ t, v = .str ⟨r.toArray⟩ t) its page → ∃ kn : List (Addr × Obj), (∀ p ∈ kn, h.get? p.1 = some p.2 ∧ h₁.get? p.1 = none) ∧ ColList kn ys page := by
  induction p with
  | nil => intro page q; cases q; exact ⟨[], List.forall_mem_nil _, .nil⟩
  | cons a _ ih =>
    intro page q
    obtain ⟨r, t, x, vs, k, e1, e2, hk, ha, hi⟩ := a
    cases q with
    | cons b q =>
      obtain ⟨t', e3⟩ := b
      obtain ⟨kn, h1, h2⟩ := ih q
      refine ⟨(x, listOf vs.toArray k) :: kn, List.forall_mem_cons.mpr ⟨⟨hk, ha⟩, h1⟩, ?_⟩
      rw [e1] at e3
      have e6 := text_inj e3
      subst e6
      exact .cons ⟨x, vs, k, e2, .head _, hi⟩ (Paired.imp (fun a b ⟨x, vs, k, q1, q2, q3⟩ => ⟨x, vs, k, q1, .tail _ q2, q3⟩) h2)

noncomputable def geV (a b : Value) : Bool := match a, b with | .int x _, .int y _ => decide (y ≤ x) | _, _ => false
theorem ints_of : ∀ (l : List Value), (∀ v ∈ l, ∃ n t, v = .int n t) → ∃ ns, IntsAre l ns
  | [], _ => ⟨[], .nil⟩
  | v :: r, h => by
    obtain ⟨n, t, rfl⟩ := h v (.head _)
    obtain ⟨ns, hr⟩ := ints_of r fun v hv => h v (.tail _ hv)
    exact ⟨n :: ns, .cons _ _ hr⟩
theorem colsOf_at (r : List Nat) {j : Nat} (h : j < 9) : (colsOf r)[j]? = some (colOf (1 + (j : Int)) r) := by
  unfold colsOf
  rw [List.getElem?_map, List.getElem?_range h]
  rfl
theorem zip_law {vsa vsb : List Value} {ra rb : List Nat} {ps : List (Value × Value)} {zs : List Value} (ha : IntsAre vsa (colsOf ra)) (hb : IntsAre vsb (colsOf rb)) (hlen : ps.length = min vsa.toArray.size vsb.toArray.size)
    (hP : ∀ (j : Nat) (q : Value × Value), ps[j]? = some q → vsa.toArray[j]? = some q.1 ∧ vsb.toArray[j]? = some q.2) (hz : zs = (ps.filter fun q => geV q.1 q.2).map (fun q => q.2)) :
    ∃ ns, IntsAre zs ns ∧ ns.length ≤ 9 ∧ (ns = [] ↔ ∀ i : Nat, i < 9 → colOf (1 + (i : Int)) ra < colOf (1 + (i : Int)) rb) := by
  have la : vsa.length = 9 := by rw [ha.length]; simp [colsOf]
  have lb : vsb.length = 9 := by rw [hb.length]; simp [colsOf]
  have lp : ps.length = 9 := by rw [hlen]; simp [la, lb]
  have at' : ∀ j q, ps[j]? = some q → j < 9 ∧ ∃ t1 t2, q = (.int (colOf (1 + (j : Int)) ra) t1, .int (colOf (1 + (j : Int)) rb) t2) := by
    intro j q hj
    have hj9 : j < 9 := by have := (List.getElem?_eq_some_iff.mp hj).1; omega
    obtain ⟨h1, h2⟩ := hP j q hj
    obtain ⟨n1, q1, t1, e1⟩ := IntsAre.at? ha j q.1 (by simpa using h1)
    obtain ⟨n2, q2, t2, e2⟩ := IntsAre.at? hb j q.2 (by simpa using h2)
    rw [colsOf_at _ hj9] at q1 q2
    cases q1; cases q2
    exact ⟨hj9, t1, t2, by cases q; simp only at e1 e2; rw [e1, e2]⟩
  obtain ⟨ns, hns⟩ := ints_of zs fun v hv => by
    rw [hz] at hv
    obtain ⟨q, hq, rfl⟩ := List.mem_map.mp hv
    obtain ⟨j, hj⟩ := List.mem_iff_getElem?.mp (List.mem_filter.mp hq).1
    obtain ⟨_, t1, t2, rfl⟩ := at' j q hj
    exact ⟨_, _, rfl⟩
  have hl : ns.length = (ps.filter fun q => geV q.1 q.2).length := by
    rw [← hns.length, hz, List.length_map]
  refine ⟨ns, hns, ?_, ?_⟩
  · rw [hl, ← lp]; exact List.length_filter_le _ _
  · rw [← List.length_eq_zero_iff, hl, List.length_eq_zero_iff, List.filter_eq_nil_iff]
    constructor
    · intro h i hi
      have hq : ps[i]? = some ps[i] := List.getElem?_eq_getElem (by omega)
      obtain ⟨_, t1, t2, e⟩ := at' i _ hq
      have h3 := h _ (List.getElem_mem (by omega : i < ps.length))
      rw [e] at h3
      have h4 : ¬ (decide (colOf (1 + (i : Int)) rb ≤ colOf (1 + (i : Int)) ra) = true) := h3
      rw [decide_eq_true_iff] at h4
      omega
    · intro h q hq
      obtain ⟨j, hj⟩ := List.mem_iff_getElem?.mp hq
      obtain ⟨hj9, t1, t2, rfl⟩ := at' j q hj
      show ¬ (decide (colOf (1 + (j : Int)) rb ≤ colOf (1 + (j : Int)) ra) = true)
      rw [decide_eq_true_iff]
      have := h j hj9
      omega

/-- between the turns over k -/
inductive ColsO (page : List (List Nat)) (l D : Addr) (kD : Nat) (Y : List Value) (kn : List (Addr × Obj)) (i : Nat) (m : Str → Option Value) (news : List (Addr × Obj)) : Prop
  | mk (vk vj vst : Option Value) (E : Addr) (vs : List Value) (e : Nat) (es : List Nat) (hm : m = fm [("k", vk), ("j", vj), ("stops", vst), ("ends", some (.ref E)), ("columns", some (.ref D)), ("page", some (.ref l))])
    (hn : news = (E, listOf vs.toArray e) :: (D, listOf Y.toArray kD) :: kn) (hI : IntsAre vs (es.map fun (x : Nat) => (x : Int))) (hes : es.length = i) (hDE : @LT.lt Nat _ D E) (hall : AllLt E kn)
    (hprop : ∀ k e, es[k]? = some e → k < e ∧ e ≤ page.length ∧ (∀ j, k < j → j < e → colLess page k j) ∧ (e < page.length → ¬ colLess page k e)) : ColsO page l D kD Y kn i m news
/-- between the turns over j -/
inductive ColsI (page : List (List Nat)) (l D : Addr) (kD : Nat) (Y : List Value) (kn : List (Addr × Obj)) (i : Nat) (t' : Tok) (I : Addr) (oI : Obj) (E : Addr) (vs : List Value) (e : Nat) (q : Nat) (m : Str → Option Value) (news : List (Addr × Obj)) : Prop
  | mk (vj : Option Value) (S : Addr) (us : List Value) (e2 : Nat) (ss : List Nat) (hm : m = fm [("j", vj), ("stops", some (.ref S)), ("k", some (.int i t')), ("ends", some (.ref E)), ("columns", some (.ref D)), ("page", some (.ref l))])
    (hn : news = (S, listOf us.toArray e2) :: (I, oI) :: (E, listOf vs.toArray e) :: (D, listOf Y.toArray kD) :: kn) (hIu : IntsAre us (ss.map fun (x : Nat) => (x : Int))) (hss : ss.length ≤ q) (hlS : @LT.lt Nat _ I S ∧ @LT.lt Nat _ E S ∧ @LT.lt Nat _ D S ∧ AllLt S kn)
    (hcase : (ss = [] ∧ ∀ j, i < j → j < i + 1 + q → colLess page i j) ∨ (∃ z rest, ss = z :: rest ∧ i < z ∧ z < page.length ∧ ¬ colLess page i z ∧ ∀ j, i < j → j < z → colLess page i j)) : ColsI page l D kD Y kn i t' I oI E vs e q m news

set_option maxHeartbeats 8000000 in
theorem cols_spec {w : World} {mean : ExcName → Option Value} {mg mb : Str → Option Value} {base : Heap} {outer : List Env} {dp un : Nat} {gd : Option (List Code)} {s : Shared} {Q E : Value → Shared → Prop}
    (G : Gd w mean mg mb (aA dp un gd outer) base outer s.heap) (hdp : dp + 20 < recursionLimit) (hun : un + 200 < cLine)
    {l : Addr} {page : List (List Nat)} (hpage : TextsAt s.heap l page) (hbd : ∀ r ∈ page, LeadOk r) (hlen : page.length ≤ 100)
    (hret : ∀ a h' tk' es, Kp s.heap h' → EndsOk (colLess page) page.length es → IntsAt h' a (es.map fun (x : Nat) => (x : Int)) → s.heap.get? a = none → Q (.ref a) { s with heap := h', toks := tk' }) :
    wpAny (model PySem.Challenge.rw_pg0146_01.row.prog w) (aA dp un gd outer) (call (.ref 118) [.ref l]) Q E s := by
  w_top off
  obtain ⟨X, T, B⟩ := id G
  revert X; k_fill; intro X
  refine enter0 (binds := [("page", .ref l)]) G (by omega) (by k_dflt k_is) (by k_dflt k_is) (BindsTo.of_eq rfl) (locs rfl) [("page", some (.ref l))] rfl ?_ rfl rfl rfl (by decide)
  intro L' h₁ tk F' N'
  have hroom : Unit → _ := fun _ => And.intro hdp hun
  clear hdp hun
  obtain ⟨items, hl, hp⟩ := hpage
  have hisz : items.size = page.length := by
    have := Paired.length_eq hp
    rwa [Array.length_toList] at this
  repeat' (
    (fail_if_success (with_reducible show wpAny _ _ (exec (Stmt.For _ _ _ _ _) _) _ _ _));
    (fail_if_success (with_reducible show wpAny _ _ (exec (Stmt.Try _ _ _ _ _) _) _ _ _));
    (fail_if_success (with_reducible show wpAny _ _ (exec (Stmt.While _ _ _ _) _) _ _ _));
    (fail_if_success (with_reducible show wpAny _ _ (eval (Expr.ListComp _ _ _ _) _) _ _ _));
    (fail_if_success (with_reducible show wpAny _ _ (exec (Stmt.Assign _ (Expr.ListComp _ _ _ _) _) _) _ _ _));
    (fail_if_success (with_reducible show wpAny _ _ (PySem.call (Value.ref _) _ _) _ _ _));
    (fail_if_success (with_reducible show wpAny _ _ (pyIter _) _ _ _));
    (fail_if_success (with_reducible show TurnQ _ _ _ _ _ _ _ _ _ _));
    (first | walk1 | (dsimp only; walk1)); (first | (with_reducible show wpAny _ _ (subscriptTail _ _ _ _) _ _ _) | (try dsimp only)))
  refine comp_assignC (h₀ := s.heap) (L := L') rfl (closureFor_none (by decide)) (fun _ _ => rfl) (fun _ => rfl) rfl (by decide) rfl rfl rfl rfl ?_ (fun _ => rfl)
  walk1
  have X1 := Frag.In.keeps X F'.keep
  have T1 := T.keeps F'.keep
  refine compAtC_list (fun _ => true) (fun v y hh => ∃ (r : List Nat) (t : Tok) (a : Addr) (vs : List Value) (k : Nat), v = .str ⟨r.toArray⟩ t ∧ y = .ref a ∧ hh.get? a = some (listOf vs.toArray k) ∧ h₁.get? a = none ∧ IntsAre vs (colsOf r)) rfl (hl.at fun o e => F'.keep _ o e) (by rw [hisz]; exact Nat.le_trans hlen (by decide)) (fun i v C c h₂ tk₂ hv F₂ hc => tests_nil) ?_ ?_
  · intro i v C c h₂ tk₂ hv _ F₂ hc₂
    obtain ⟨r, hr, t, rfl⟩ := Paired.get hp i v (by rw [Array.getElem?_toList]; exact hv)
    have hrb := hbd r (List.mem_of_getElem? hr)
    have X2 : (hd.heap_39 w.params).In h₂ := Frag.In.keeps X1 F₂.keep
    have T2 := T1.keeps F₂.keep
    refine comp_eval (cl := [("lead", c)]) rfl (by decide) rfl (by decide) rfl ?_ (fun _ => rfl)
    have keepF : Unit → Fr s.heap L' h₁ _ := fun _ => F'
    have keepX : Unit → _ := fun _ => X
    have keepT : Unit → _ := fun _ => T
    have N₂ : News h₁ C h₂ [] := News.nil
    have kF2 : Kp h₁ h₂ := F₂.keep
    clear F' N' X T X2 T2
    repeat' (
      (fail_if_success (with_reducible show wpAny _ _ (exec (Stmt.For _ _ _ _ _) _) _ _ _));
      (fail_if_success (with_reducible show wpAny _ _ (exec (Stmt.Try _ _ _ _ _) _) _ _ _));
      (fail_if_success (with_reducible show wpAny _ _ (exec (Stmt.While _ _ _ _) _) _ _ _));
      (fail_if_success (with_reducible show wpAny _ _ (eval (Expr.ListComp _ _ _ _) _) _ _ _));
      (fail_if_success (with_reducible show wpAny _ _ (exec (Stmt.Assign _ (Expr.ListComp _ _ _ _) _) _) _ _ _));
      (fail_if_success (with_reducible show wpAny _ _ (PySem.call (Value.ref _) _ _) _ _ _));
      (fail_if_success (with_reducible show wpAny _ _ (pyIter _) _ _ _));
      (fail_if_success (with_reducible show TurnQ _ _ _ _ _ _ _ _ _ _));
      (first | walk1 | (dsimp only; walk1)); (first | (with_reducible show wpAny _ _ (subscriptTail _ _ _ _) _ _ _) | (try dsimp only)))
    rename IsRange _ _ _ _ _ _ _ _ => hR
    rename Fr h₁ C _ _ => F3
    rename ∀ (b : Addr) (o : Obj), Heap.get? _ b = some o → Heap.get? _ b = some o => hkr
    have hc3 := hc₂.keeps hkr
    have X := keepX ()
    have T := keepT ()
    have F' := keepF ()
    refine compAt_range (n := 9) (fun _ => true) (fun v y hh => ∃ (z : Int) (t1 t2 : Tok), v = .int z t1 ∧ y = .int (colOf z r) t2) rfl hR rfl rfl (by decide) (fun _ _ _ _ _ _ _ => tests_nil) ?_ ?_
    · intro j t' C2 h4 tk4 hj _ F4
      have X4 : (hd.heap_39 w.params).In h4 := Frag.In.keeps (Frag.In.keeps X1 F3.keep) F4.keep
      have T4 := (T1.keeps F3.keep).keeps F4.keep
      refine callG X4 T4 (by k_dflt k_is) (by k_dflt k_is) (spliced_more (nmC (c := c) (hc3.keeps F4.keep) rfl (spliced_more (nmL F4.ns rfl (spliced_none ⟨X4, ?_⟩)))))
      · refine column_spec (Gd.next X T B ((F'.keeps F3.keep).keeps F4.keep) rfl rfl) (by exact roomD (hroom ()).1 (by decide)) (by first | exact roomU (hroom ()).2 (by decide) | exact roomU3 (hroom ()).2 (by decide)) (by omega) (by omega) ?_
        intro t5 h5 tk5 hk5
        exact ⟨h5, tk5, rfl, hk5, fun hh _ _ => ⟨_, _, _, rfl, rfl⟩⟩
    · intro D h4 tk4 ys vs hk4 hD hpl hI hPd
      obtain ⟨kD, hget⟩ := hpl
      have efl : vs.filter (fun _ => true) = vs := by simp
      rw [efl] at hPd
      have hIy : IntsAre ys.toList (colsOf r) := by
        have e : colsOf r = ((List.range 9).map fun (i : Nat) => (1 : Int) + (i : Int) * 1).map fun z => colOf z r := by
          unfold colsOf
          rw [List.map_map]
          refine List.map_congr_left fun i _ => ?_
          show colOf (1 + (i : Int)) r = colOf (1 + (i : Int) * 1) r
          rw [Int.mul_one]
        rw [e]
        exact map_ints hPd hI
      have hk2 : Kp h₂ h4 := fun b o e => hk4 b o (hkr b o e)
      refine ⟨h4, tk4, rfl, hk2, fun hh hk5 hk6 => ⟨r, t, D, ys.toList, kD, rfl, rfl, hk6 _ _ (Kp.none hkr hD) (by simpa using hget), Kp.none kF2 (Kp.none hkr hD), hIy⟩⟩
  · intro D h2 tk2 ys hk2 hD hpl hPd
    obtain ⟨kD, hget⟩ := hpl
    have efl : items.toList.filter (fun _ => true) = items.toList := by simp
    rw [efl] at hPd
    obtain ⟨kn, hkn, hWs⟩ := col_list hPd hp
    refine ⟨_, F', fun hF tkF FF hkF => ?_⟩
    have N2 : News s.heap L' hF ((D, listOf ys.toList.toArray kD) :: kn) := by
      have fresh : ∀ a, h₁.get? a = none → a ≠ L' ∧ s.heap.get? a = none := fun a ha => by
        refine ⟨?_, Kp.none F'.keep ha⟩
        rintro rfl
        obtain ⟨o', _, _, ho', _⟩ := F'.ns
        rw [ha] at ho'; cases ho'
      intro p hp
      rcases List.mem_cons.mp hp with rfl | hp
      · exact ⟨hkF _ _ (fresh _ hD).1 (by simpa using hget), fresh _ hD⟩
      · exact ⟨hkF _ _ (fresh _ (hkn p hp).2).1 (hkn p hp).1, fresh _ (hkn p hp).2⟩
    clear hPd hget hkn hk2 hD F' N' hkF X1 T1
    generalize ys.toList = Y at hWs N2
    have hY : Y.length = page.length := Paired.length_eq hWs
    repeat' (
      (fail_if_success (with_reducible show wpAny _ _ (exec (Stmt.For _ _ _ _ _) _) _ _ _));
      (fail_if_success (with_reducible show wpAny _ _ (exec (Stmt.Try _ _ _ _ _) _) _ _ _));
      (fail_if_success (with_reducible show wpAny _ _ (exec (Stmt.While _ _ _ _) _) _ _ _));
      (fail_if_success (with_reducible show wpAny _ _ (eval (Expr.ListComp _ _ _ _) _) _ _ _));
      (fail_if_success (with_reducible show wpAny _ _ (exec (Stmt.Assign _ (Expr.ListComp _ _ _ _) _) _) _ _ _));
      (fail_if_success (with_reducible show wpAny _ _ (PySem.call (Value.ref _) _ _) _ _ _));
      (fail_if_success (with_reducible show wpAny _ _ (pyIter _) _ _ _));
      (fail_if_success (with_reducible show TurnQ _ _ _ _ _ _ _ _ _ _));
      (first | walk1 | (dsimp only; walk1)); (first | (with_reducible show wpAny _ _ (subscriptTail _ _ _ _) _ _ _) | (try dsimp only)))
    rename Fr _ _ _ _ => F3
    rename News _ _ _ _ => N3
    refine For_invV s.heap rfl rfl ?_ (fun _ => rfl) PassesOwn.never
    repeat' (
      (fail_if_success (with_reducible show wpAny _ _ (exec (Stmt.For _ _ _ _ _) _) _ _ _));
      (fail_if_success (with_reducible show wpAny _ _ (exec (Stmt.Try _ _ _ _ _) _) _ _ _));
      (fail_if_success (with_reducible show wpAny _ _ (exec (Stmt.While _ _ _ _) _) _ _ _));
      (fail_if_success (with_reducible show wpAny _ _ (eval (Expr.ListComp _ _ _ _) _) _ _ _));
      (fail_if_success (with_reducible show wpAny _ _ (exec (Stmt.Assign _ (Expr.ListComp _ _ _ _) _) _) _ _ _));
      (fail_if_success (with_reducible show wpAny _ _ (PySem.call (Value.ref _) _ _) _ _ _));
      (fail_if_success (with_reducible show wpAny _ _ (pyIter _) _ _ _));
      (fail_if_success (with_reducible show TurnQ _ _ _ _ _ _ _ _ _ _));
      (first | walk1 | (dsimp only; walk1)); (first | (with_reducible show wpAny _ _ (subscriptTail _ _ _ _) _ _ _) | (try dsimp only)))
    rename IsRange _ _ _ _ _ _ _ _ => hR
    rename Fr _ _ _ _ => F4
    rename News _ _ _ _ => N4
    rw [hisz] at hR
    refine range_loop (n := page.length) (ColsO page l D kD Y kn) rfl rfl hR ?_ ?_ F4 N4 ⟨none, none, none, _, [], 0, [], by (first | (refine fm_s1 ?_; rfl) | (refine fm_s2 ?_; rfl) | (refine fm_s3 ?_; rfl) | (refine fm_s4 ?_; rfl) | (refine fm_s5 ?_; rfl) | (refine fm_s6 ?_; rfl)), rfl, .nil, rfl, ?_, ?_, fun k e h => by cases h⟩ ?_ ?_
    · exact small_one (by omega) (by omega) (by omega) (by omega)
    · rw [rangeSize_nat]; rfl
    · rename _ ∧ AllLt _ kn => q1
      exact q1.1
    · rename _ ∧ AllLt _ kn => q1
      exact q1.2
    · rintro i t' m₁ news₁ h3 tk3 I oI hi hne hJ F N
      refine turn_q fun QT hgo _ => ?_
      obtain ⟨vk, vj, vst, E, vs, e, es, rfl, rfl, hI, hes, hDE, hall, hprop⟩ := hJ
      have e0 : (0 : Int) + (i : Int) = (i : Int) := by omega
      rw [e0] at F
      repeat' (
        (fail_if_success (with_reducible show wpAny _ _ (exec (Stmt.For _ _ _ _ _) _) _ _ _));
        (fail_if_success (with_reducible show wpAny _ _ (exec (Stmt.Try _ _ _ _ _) _) _ _ _));
        (fail_if_success (with_reducible show wpAny _ _ (exec (Stmt.While _ _ _ _) _) _ _ _));
        (fail_if_success (with_reducible show wpAny _ _ (eval (Expr.ListComp _ _ _ _) _) _ _ _));
        (fail_if_success (with_reducible show wpAny _ _ (exec (Stmt.Assign _ (Expr.ListComp _ _ _ _) _) _) _ _ _));
        (fail_if_success (with_reducible show wpAny _ _ (PySem.call (Value.ref _) _ _) _ _ _));
        (fail_if_success (with_reducible show wpAny _ _ (pyIter _) _ _ _));
        (fail_if_success (with_reducible show TurnQ _ _ _ _ _ _ _ _ _ _));
        (first | walk1 | (dsimp only; walk1)); (first | (with_reducible show wpAny _ _ (subscriptTail _ _ _ _) _ _ _) | (try dsimp only)))
      refine For_invV s.heap rfl rfl ?_ (fun _ => rfl) PassesOwn.never
      repeat' (
        (fail_if_success (with_reducible show wpAny _ _ (exec (Stmt.For _ _ _ _ _) _) _ _ _));
        (fail_if_success (with_reducible show wpAny _ _ (exec (Stmt.Try _ _ _ _ _) _) _ _ _));
        (fail_if_success (with_reducible show wpAny _ _ (exec (Stmt.While _ _ _ _) _) _ _ _));
        (fail_if_success (with_reducible show wpAny _ _ (eval (Expr.ListComp _ _ _ _) _) _ _ _));
        (fail_if_success (with_reducible show wpAny _ _ (exec (Stmt.Assign _ (Expr.ListComp _ _ _ _) _) _) _ _ _));
        (fail_if_success (with_reducible show wpAny _ _ (PySem.call (Value.ref _) _ _) _ _ _));
        (fail_if_success (with_reducible show wpAny _ _ (pyIter _) _ _ _));
        (fail_if_success (with_reducible show TurnQ _ _ _ _ _ _ _ _ _ _));
        (first | walk1 | (dsimp only; walk1)); (first | (with_reducible show wpAny _ _ (subscriptTail _ _ _ _) _ _ _) | (try dsimp only)))
      rename IsRange _ _ _ _ _ _ _ _ => hR2
      rename Fr _ _ _ _ => F5
      rename News _ _ _ _ => N5
      rename _ ∧ _ ∧ _ ∧ AllLt _ kn => hl5
      rw [hisz] at hR2
      have hIE := neN (hne _ (.head _))
      have hID := neN (hne _ (.tail _ (.head _)))
      dsimp only at hIE hID
      refine range_loop (n := page.length - (i + 1)) (ColsI page l D kD Y kn i t' I oI E vs e) rfl rfl hR2 ?_ ?_ F5 N5 ⟨vj, _, [], 0, [], by (first | (refine fm_s1 ?_; rfl) | (refine fm_s2 ?_; rfl) | (refine fm_s3 ?_; rfl) | (refine fm_s4 ?_; rfl) | (refine fm_s5 ?_; rfl) | (refine fm_s6 ?_; rfl)), rfl, .nil, Nat.zero_le _, hl5, .inl ⟨rfl, fun j h1 h2 => by omega⟩⟩ ?_ ?_
      · exact small_one (by omega) (by omega) (by omega) (by omega)
      · rw [rangeSize_nat]; congr 1; omega
      · rintro q t2 m₂ news₂ h6 tk6 I2 oI2 hq hne2 hJ F6 N6
        refine turn_q fun QT hgo _ => ?_
        obtain ⟨vj2, S, us, e2, ss, rfl, rfl, hIu, hss, hlS, hcase⟩ := hJ
        have e1 : (i : Int) + 1 + (q : Int) = ((i + 1 + q : Nat) : Int) := by omega
        rw [e1] at F6
        generalize hjq : i + 1 + q = j at F6
        have hjl : j < page.length := by omega
        have hpi : page[i]? = some (page.getD i []) := by rw [List.getD_eq_getElem?_getD, List.getElem?_eq_getElem hi]; rfl
        have hpj : page[j]? = some (page.getD j []) := by rw [List.getD_eq_getElem?_getD, List.getElem?_eq_getElem hjl]; rfl
        have hyi : ∃ v, Y[i]? = some v := ⟨_, List.getElem?_eq_getElem (by omega)⟩
        obtain ⟨_, hyi⟩ := hyi
        obtain ⟨ri, hri, a, vsa, ka, rfl, hma, hIa⟩ := Paired.get hWs i _ hyi
        have eri : ri = page.getD i [] := by rw [hpi] at hri; exact (Option.some.inj hri).symm
        subst eri
        have hyj : ∃ v, Y[j]? = some v := ⟨_, List.getElem?_eq_getElem (by omega)⟩
        obtain ⟨_, hyj⟩ := hyj
        obtain ⟨rj, hrj, b, vsb, kb, rfl, hmb, hIb⟩ := Paired.get hWs j _ hyj
        have erj : rj = page.getD j [] := by rw [hpj] at hrj; exact (Option.some.inj hrj).symm
        subst erj
        repeat' (
          (fail_if_success (with_reducible show wpAny _ _ (exec (Stmt.For _ _ _ _ _) _) _ _ _));
          (fail_if_success (with_reducible show wpAny _ _ (exec (Stmt.Try _ _ _ _ _) _) _ _ _));
          (fail_if_success (with_reducible show wpAny _ _ (exec (Stmt.While _ _ _ _) _) _ _ _));
          (fail_if_success (with_reducible show wpAny _ _ (eval (Expr.ListComp _ _ _ _) _) _ _ _));
          (fail_if_success (with_reducible show wpAny _ _ (exec (Stmt.Assign _ (Expr.ListComp _ _ _ _) _) _) _ _ _));
          (fail_if_success (with_reducible show wpAny _ _ (PySem.call (Value.ref _) _ _) _ _ _));
          (fail_if_success (with_reducible show wpAny _ _ (pyIter _) _ _ _));
          (fail_if_success (with_reducible show TurnQ _ _ _ _ _ _ _ _ _ _));
          (first | walk1 | (dsimp only; walk1)); (first | (with_reducible show wpAny _ _ (subscriptTail _ _ _ _) _ _ _) | (try dsimp only)))
        refine comp_zip (closureFor_none (by decide)) (by decide) rfl (by decide) rfl rfl rfl ?_ (fun _ => rfl)
        repeat' (
          (fail_if_success (with_reducible show wpAny _ _ (exec (Stmt.For _ _ _ _ _) _) _ _ _));
          (fail_if_success (with_reducible show wpAny _ _ (exec (Stmt.Try _ _ _ _ _) _) _ _ _));
          (fail_if_success (with_reducible show wpAny _ _ (exec (Stmt.While _ _ _ _) _) _ _ _));
          (fail_if_success (with_reducible show wpAny _ _ (eval (Expr.ListComp _ _ _ _) _) _ _ _));
          (fail_if_success (with_reducible show wpAny _ _ (exec (Stmt.Assign _ (Expr.ListComp _ _ _ _) _) _) _ _ _));
          (fail_if_success (with_reducible show wpAny _ _ (PySem.call (Value.ref _) _ _) _ _ _));
          (fail_if_success (with_reducible show wpAny _ _ (pyIter _) _ _ _));
          (fail_if_success (with_reducible show TurnQ _ _ _ _ _ _ _ _ _ _));
          (first | walk1 | (dsimp only; walk1)); (first | (with_reducible show wpAny _ _ (subscriptTail _ _ _ _) _ _ _) | (try dsimp only)))
        refine item_listL (News.il N6 (.tail _ (.tail _ (.tail _ (.tail _ (.head _)))))) (by omega) (by omega) (by rw [Int.toNat_natCast]; exact hyi) ?_
        repeat' (
          (fail_if_success (with_reducible show wpAny _ _ (exec (Stmt.For _ _ _ _ _) _) _ _ _));
          (fail_if_success (with_reducible show wpAny _ _ (exec (Stmt.Try _ _ _ _ _) _) _ _ _));
          (fail_if_success (with_reducible show wpAny _ _ (exec (Stmt.While _ _ _ _) _) _ _ _));
          (fail_if_success (with_reducible show wpAny _ _ (eval (Expr.ListComp _ _ _ _) _) _ _ _));
          (fail_if_success (with_reducible show wpAny _ _ (exec (Stmt.Assign _ (Expr.ListComp _ _ _ _) _) _) _ _ _));
          (fail_if_success (with_reducible show wpAny _ _ (PySem.call (Value.ref _) _ _) _ _ _));
          (fail_if_success (with_reducible show wpAny _ _ (pyIter _) _ _ _));
          (fail_if_success (with_reducible show TurnQ _ _ _ _ _ _ _ _ _ _));
          (first | walk1 | (dsimp only; walk1)); (first | (with_reducible show wpAny _ _ (subscriptTail _ _ _ _) _ _ _) | (try dsimp only)))
        refine item_listL (News.il N6 (.tail _ (.tail _ (.tail _ (.tail _ (.head _)))))) (by omega) (by omega) (by rw [Int.toNat_natCast]; exact hyj) ?_
        repeat' (
          (fail_if_success (with_reducible show wpAny _ _ (exec (Stmt.For _ _ _ _ _) _) _ _ _));
          (fail_if_success (with_reducible show wpAny _ _ (exec (Stmt.Try _ _ _ _ _) _) _ _ _));
          (fail_if_success (with_reducible show wpAny _ _ (exec (Stmt.While _ _ _ _) _) _ _ _));
          (fail_if_success (with_reducible show wpAny _ _ (eval (Expr.ListComp _ _ _ _) _) _ _ _));
          (fail_if_success (with_reducible show wpAny _ _ (exec (Stmt.Assign _ (Expr.ListComp _ _ _ _) _) _) _ _ _));
          (fail_if_success (with_reducible show wpAny _ _ (PySem.call (Value.ref _) _ _) _ _ _));
          (fail_if_success (with_reducible show wpAny _ _ (pyIter _) _ _ _));
          (fail_if_success (with_reducible show TurnQ _ _ _ _ _ _ _ _ _ _));
          (first | walk1 | (dsimp only; walk1)); (first | (with_reducible show wpAny _ _ (subscriptTail _ _ _ _) _ _ _) | (try dsimp only)))
        have hla := News.il N6 (.tail _ (.tail _ (.tail _ (.tail _ (.tail _ hma)))))
        have hlb := News.il N6 (.tail _ (.tail _ (.tail _ (.tail _ (.tail _ hmb)))))
        refine call_zip_2 hla hlb (fun h7 hz hTI hTO hi1 hi2 hsz hk => ⟨_, h7, a, b, _, _, geV, fun _ v1 => v1, rfl, rfl, hz, hTI, hTO, hi1, hi2, hsz, hk, hla, hlb, ?_, ?_, ?_, ?_⟩)
        · have := hIa.length
          simp only [List.size_toArray]
          rw [this]
          simp [colsOf]
          decide
        · intro ii v0 v1 C h₂ tk₂ hv0 hv1 F₂
          obtain ⟨x0, _, t0, rfl⟩ := IntsAre.at? hIa ii v0 (by simpa using hv0)
          obtain ⟨x1, _, t1, rfl⟩ := IntsAre.at? hIb ii v1 (by simpa using hv1)
          refine tests_one ?_
          have N₂ : News h6 C h₂ [] := News.nil
          clear F6 N6 hla hlb hI hIu hIa hIb X T
          repeat' (
            (fail_if_success (with_reducible show wpAny _ _ (exec (Stmt.For _ _ _ _ _) _) _ _ _));
            (fail_if_success (with_reducible show wpAny _ _ (exec (Stmt.Try _ _ _ _ _) _) _ _ _));
            (fail_if_success (with_reducible show wpAny _ _ (exec (Stmt.While _ _ _ _) _) _ _ _));
            (fail_if_success (with_reducible show wpAny _ _ (eval (Expr.ListComp _ _ _ _) _) _ _ _));
            (fail_if_success (with_reducible show wpAny _ _ (exec (Stmt.Assign _ (Expr.ListComp _ _ _ _) _) _) _ _ _));
            (fail_if_success (with_reducible show wpAny _ _ (PySem.call (Value.ref _) _ _) _ _ _));
            (fail_if_success (with_reducible show wpAny _ _ (pyIter _) _ _ _));
            (fail_if_success (with_reducible show TurnQ _ _ _ _ _ _ _ _ _ _));
            (first | walk1 | (dsimp only; walk1)); (first | (with_reducible show wpAny _ _ (subscriptTail _ _ _ _) _ _ _) | (try dsimp only)))
          refine nmL F₂.ns rfl ?_
          repeat' (
            (fail_if_success (with_reducible show wpAny _ _ (exec (Stmt.For _ _ _ _ _) _) _ _ _));
            (fail_if_success (with_reducible show wpAny _ _ (exec (Stmt.Try _ _ _ _ _) _) _ _ _));
            (fail_if_success (with_reducible show wpAny _ _ (exec (Stmt.While _ _ _ _) _) _ _ _));
            (fail_if_success (with_reducible show wpAny _ _ (eval (Expr.ListComp _ _ _ _) _) _ _ _));
            (fail_if_success (with_reducible show wpAny _ _ (exec (Stmt.Assign _ (Expr.ListComp _ _ _ _) _) _) _ _ _));
            (fail_if_success (with_reducible show wpAny _ _ (PySem.call (Value.ref _) _ _) _ _ _));
            (fail_if_success (with_reducible show wpAny _ _ (pyIter _) _ _ _));
            (fail_if_success (with_reducible show TurnQ _ _ _ _ _ _ _ _ _ _));
            (first | walk1 | (dsimp only; walk1)); (first | (with_reducible show wpAny _ _ (subscriptTail _ _ _ _) _ _ _) | (try dsimp only)))
          refine nmL F₂.ns rfl ?_
          repeat' (
            (fail_if_success (with_reducible show wpAny _ _ (exec (Stmt.For _ _ _ _ _) _) _ _ _));
            (fail_if_success (with_reducible show wpAny _ _ (exec (Stmt.Try _ _ _ _ _) _) _ _ _));
            (fail_if_success (with_reducible show wpAny _ _ (exec (Stmt.While _ _ _ _) _) _ _ _));
            (fail_if_success (with_reducible show wpAny _ _ (eval (Expr.ListComp _ _ _ _) _) _ _ _));
            (fail_if_success (with_reducible show wpAny _ _ (exec (Stmt.Assign _ (Expr.ListComp _ _ _ _) _) _) _ _ _));
            (fail_if_success (with_reducible show wpAny _ _ (PySem.call (Value.ref _) _ _) _ _ _));
            (fail_if_success (with_reducible show wpAny _ _ (pyIter _) _ _ _));
            (fail_if_success (with_reducible show TurnQ _ _ _ _ _ _ _ _ _ _));
            (first | walk1 | (dsimp only; walk1)); (first | (with_reducible show wpAny _ _ (subscriptTail _ _ _ _) _ _ _) | (try dsimp only)))
          exact ⟨_, _, rfl, fun _ _ e => e⟩
        · intro ii v0 v1 C h₂ tk₂ hv0 hv1 F₂
          exact nmL F₂.ns rfl ⟨rfl, _, _, rfl, fun _ _ e => e⟩
        · intro D2 h8 tk8 zs ps hk8 hD2 hpl hlenp hP hz
          obtain ⟨k2, hget⟩ := hpl
          obtain ⟨ns, hns, hn9, hnil⟩ := zip_law hIa hIb hlenp hP hz
          have F8 := F6.keeps hk8
          have N8 : News s.heap L' h8 ((D2, listOf zs.toList.toArray k2) :: (I2, oI2) :: (S, listOf us.toArray e2) :: (I, oI) :: (E, listOf vs.toArray e) :: (D, listOf Y.toArray kD) :: kn) := by
            intro p hp
            rcases List.mem_cons.mp hp with rfl | hp
            · refine ⟨by simpa using hget, ?_, Kp.none F6.keep hD2⟩
              rintro rfl
              obtain ⟨o', _, _, ho', _⟩ := F6.ns
              exact absurd (hD2.symm.trans ho') (by simp)
            · exact ⟨hk8 _ _ (N6 p hp).1, (N6 p hp).2⟩
          generalize zs.toList = Z at hns N8
          have hDS : @Ne Nat D2 S := by
            rintro rfl
            exact absurd (hD2.symm.trans (N6 _ (.tail _ (.head _))).1) (by simp)
          have hI2S := neN (hne2 _ (.head _))
          dsimp only at hI2S
          have hsl : (ss.map fun (x : Nat) => (x : Int)).length ≤ 100 := by rw [List.length_map]; omega
          obtain ⟨hS1, hS2, hS3, hS4⟩ := hlS
          clear F6 N6 hla hlb hget hz
          have hun := (hroom ()).2
          repeat' (
            (fail_if_success (with_reducible show wpAny _ _ (exec (Stmt.For _ _ _ _ _) _) _ _ _));
            (fail_if_success (with_reducible show wpAny _ _ (exec (Stmt.Try _ _ _ _ _) _) _ _ _));
            (fail_if_success (with_reducible show wpAny _ _ (exec (Stmt.While _ _ _ _) _) _ _ _));
            (fail_if_success (with_reducible show wpAny _ _ (eval (Expr.ListComp _ _ _ _) _) _ _ _));
            (fail_if_success (with_reducible show wpAny _ _ (exec (Stmt.Assign _ (Expr.ListComp _ _ _ _) _) _) _ _ _));
            (fail_if_success (with_reducible show wpAny _ _ (PySem.call (Value.ref _) _ _) _ _ _));
            (fail_if_success (with_reducible show wpAny _ _ (pyIter _) _ _ _));
            (fail_if_success (with_reducible show TurnQ _ _ _ _ _ _ _ _ _ _));
            (first | walk1 | (dsimp only; walk1)); (first | (with_reducible show wpAny _ _ (subscriptTail _ _ _ _) _ _ _) | (try dsimp only)))
          · rename Fr _ _ _ _ => F12
            rename News _ _ _ _ => N12
            rename decide (ns = []) = true => hd0
            have hcl : colLess page i j := hnil.mp (of_decide_eq_true hd0)
            refine hgo F12 N12 ((S, listOf us.toArray e2) :: (I, oI) :: (E, listOf vs.toArray e) :: (D, listOf Y.toArray kD) :: kn) (fun p h => .tail _ (.tail _ h)) (fun p h => hne2 p h) ⟨_, S, us, e2, ss, by (first | (refine fm_s1 ?_; rfl) | (refine fm_s2 ?_; rfl) | (refine fm_s3 ?_; rfl) | (refine fm_s4 ?_; rfl) | (refine fm_s5 ?_; rfl) | (refine fm_s6 ?_; rfl)), rfl, hIu, by omega, ⟨hS1, hS2, hS3, hS4⟩, ?_⟩
            rcases hcase with ⟨h1, h2⟩ | h1
            · refine .inl ⟨h1, fun j' h3 h4 => ?_⟩
              by_cases h5 : j' < i + 1 + q
              · exact h2 j' h3 h5
              · have : j' = j := by omega
                rw [this]; exact hcl
            · exact .inr h1
          · rename Fr _ _ _ _ => F12
            rename News _ _ _ _ => N12
            rename decide (ns = []) = false => hd0
            have hcl : ¬ colLess page i j := fun h => of_decide_eq_false hd0 (hnil.mpr h)
            rw [List.push_toArray] at N12
            refine hgo F12 N12 ((S, listOf (us ++ [Value.int (j : Int) t2]).toArray (e2 + 1)) :: (I, oI) :: (E, listOf vs.toArray e) :: (D, listOf Y.toArray kD) :: kn) (fun p h => .tail _ (.tail _ h)) ?_ ⟨_, S, _, _, ss ++ [j], by (first | (refine fm_s1 ?_; rfl) | (refine fm_s2 ?_; rfl) | (refine fm_s3 ?_; rfl) | (refine fm_s4 ?_; rfl) | (refine fm_s5 ?_; rfl) | (refine fm_s6 ?_; rfl)), rfl, ?_, by simp; omega, ⟨hS1, hS2, hS3, hS4⟩, ?_⟩
            · intro p hp
              rcases List.mem_cons.mp hp with rfl | hp
              · exact hI2S
              · exact hne2 p (.tail _ hp)
            · rw [List.map_append]
              exact hIu.append (.cons _ _ .nil)
            · rcases hcase with ⟨rfl, h2⟩ | ⟨z, rest, rfl, h2, h3, h4, h5⟩
              · exact .inr ⟨j, [], rfl, by omega, hjl, hcl, fun j' h3 h4 => h2 j' h3 (by omega)⟩
              · exact .inr ⟨z, rest ++ [j], rfl, h2, h3, h4, h5⟩
      · rintro m₂ news₂ h6 tk6 ⟨vj2, S, us, e2, ss, rfl, rfl, hIu, hss, hlS, hcase⟩ F6 N6
        obtain ⟨z, hzv, hz1, hz2, hzp, hnl⟩ : ∃ z : Nat, (ss.map (fun (x : Nat) => (x : Int)) ++ [(items.size : Int)]).getD (Int.toNat 0) 0 = (z : Int) ∧ i < z ∧ z ≤ page.length ∧ (∀ j, i < j → j < z → colLess page i j) ∧ (z < page.length → ¬ colLess page i z) := by
          rcases hcase with ⟨rfl, hall2⟩ | ⟨z, rest, rfl, h1, h2, h3, h4⟩
          · exact ⟨page.length, by simp [hisz], by omega, Nat.le_refl _, fun j h1 h2 => hall2 j h1 (by omega), fun h => by omega⟩
          · exact ⟨z, by simp, h1, by omega, h4, fun _ => h3⟩
        repeat' (
          (fail_if_success (with_reducible show wpAny _ _ (exec (Stmt.For _ _ _ _ _) _) _ _ _));
          (fail_if_success (with_reducible show wpAny _ _ (exec (Stmt.Try _ _ _ _ _) _) _ _ _));
          (fail_if_success (with_reducible show wpAny _ _ (exec (Stmt.While _ _ _ _) _) _ _ _));
          (fail_if_success (with_reducible show wpAny _ _ (eval (Expr.ListComp _ _ _ _) _) _ _ _));
          (fail_if_success (with_reducible show wpAny _ _ (exec (Stmt.Assign _ (Expr.ListComp _ _ _ _) _) _) _ _ _));
          (fail_if_success (with_reducible show wpAny _ _ (PySem.call (Value.ref _) _ _) _ _ _));
          (fail_if_success (with_reducible show wpAny _ _ (pyIter _) _ _ _));
          (fail_if_success (with_reducible show TurnQ _ _ _ _ _ _ _ _ _ _));
          (first | walk1 | (dsimp only; walk1)); (first | (with_reducible show wpAny _ _ (subscriptTail _ _ _ _) _ _ _) | (try dsimp only)))
        rename Fr _ _ _ _ => F12
        rename News _ _ _ _ => N12
        rw [hzv, List.push_toArray] at N12
        refine hgo F12 N12 ((E, listOf (vs ++ [Value.int (z : Int) _]).toArray (e + 1)) :: (D, listOf Y.toArray kD) :: kn) (fun p h => .tail _ (.tail _ (.tail _ h))) ?_ ⟨_, _, _, E, _, _, es ++ [z], by (refine fm_ext' ?_; rfl), rfl, ?_, by simp [hes], hDE, hall, ?_⟩
        · intro p hp
          rcases List.mem_cons.mp hp with rfl | hp
          · exact hIE
          · exact hne p (.tail _ hp)
        · rw [List.map_append]
          exact hI.append (.cons _ _ .nil)
        · intro k2 e2 hk2
          rcases Nat.lt_or_ge k2 es.length with h | h
          · exact hprop k2 e2 (by rwa [List.getElem?_append_left h] at hk2)
          · have h2 := (List.getElem?_eq_some_iff.mp hk2).1
            have h3 : k2 = es.length := by simp at h2; omega
            subst h3
            have h4 : e2 = z := by simp at hk2; exact hk2.symm
            subst h4
            rw [hes]
            exact ⟨hz1, hz2, hzp, hnl⟩
    · rintro m₁ news₁ h3 tk3 ⟨vk, vj, vst, E, vs, e, es, rfl, rfl, hI, hes, hDE, hall, hprop⟩ F N
      repeat' (
        (fail_if_success (with_reducible show wpAny _ _ (exec (Stmt.For _ _ _ _ _) _) _ _ _));
        (fail_if_success (with_reducible show wpAny _ _ (exec (Stmt.Try _ _ _ _ _) _) _ _ _));
        (fail_if_success (with_reducible show wpAny _ _ (exec (Stmt.While _ _ _ _) _) _ _ _));
        (fail_if_success (with_reducible show wpAny _ _ (eval (Expr.ListComp _ _ _ _) _) _ _ _));
        (fail_if_success (with_reducible show wpAny _ _ (exec (Stmt.Assign _ (Expr.ListComp _ _ _ _) _) _) _ _ _));
        (fail_if_success (with_reducible show wpAny _ _ (PySem.call (Value.ref _) _ _) _ _ _));
        (fail_if_success (with_reducible show wpAny _ _ (pyIter _) _ _ _));
        (fail_if_success (with_reducible show TurnQ _ _ _ _ _ _ _ _ _ _));
        (first | walk1 | (dsimp only; walk1)); (first | (with_reducible show wpAny _ _ (subscriptTail _ _ _ _) _ _ _) | (try dsimp only)))
      exact hret _ _ _ es F.keep ⟨hes, hprop⟩ ⟨vs, News.il N (.head _), hI⟩ (N _ (.head _)).2.2

section
variable {w : World} {mean : ExcName → Option Value} {mg mb : Str → Option Value} {base : Heap} {outer : List Env} {A : Around}
/-- entering a def with cells -/
theorem enterC0 {dp un : Nat} {gd : Option (List Code)} {s : Shared} {Q E : Value → Shared → Prop} {name qual : Str} {params : Arguments} {body : List Stmt} {scope : Scope} {dV kV doc pm cdv ct oc : Value} {an od : Option Addr} {osl : Array (Option Value)} {f : Addr} {args : List Value} {binds : List (Str × Value)}
    (G : Gd w mean mg mb (aA dp un gd outer) base outer s.heap) (hroom : dp < recursionLimit)
    (ho : List.lookup f (hd.heap_39 w.params) = some ⟨oc, od, .func (fnOf name qual params body scope dV kV doc pm an cdv ct), osl⟩) (hcd : codeIn (hd.heap_39 w.params) cdv qual = true)
    (hbind : BindsTo s (fnOf name qual params body scope dV kV doc pm an cdv ct) ⟨args, []⟩ binds)
    (hkind : (binds.all fun y => scope.names.lookup y.1 == some .local || scope.names.lookup y.1 == some .cell) = true)
    (hnd : ((cellsFrom 0 scope.names []).map (·.1)).Nodup)
    (h : ∀ L' h₁ tk cells, Fr s.heap L' h₁ (bindL (envOfC qual scope L' f cdv).kindOf binds fun _ => none) → News s.heap L' h₁ cells →
      CellsAre (bindC (envOfC qual scope L' f cdv).kindOf binds fun _ => none) (cellsFrom (L' + 1) scope.names []) cells →
      wpAny (model PySem.Challenge.rw_pg0146_01.row.prog w) ((aA dp un gd outer).deeper (envOfC qual scope L' f cdv)) (execs body (envOfC qual scope L' f cdv))
        (fun fl s' => Q (match fl with | .ret v => v | _ => .none) s') (fun _ _ => False)
        { s with heap := h₁, toks := tk })
    (hco : scope.isCoroutine = false) (hgen : scope.isGenerator = false) (hk : scope.kind = .function) : wpAny (model PySem.Challenge.rw_pg0146_01.row.prog w) (aA dp un gd outer) (call (.ref f) args) Q E s := by
  refine wpAny_call ?_
  refine codeAny_call_function hroom (G.X _ _ ho) rfl hco hgen rfl (codeRec_of G.X hcd) (hbind _ _ _ _ ?_)
  refine wpAny_newFunctionEnv_cells hk (kindsX hkind _) fun env' he s' x => ?_
  subst he
  refine ⟨G.T.nolimit.keeps x.toInCall.keep, codeAny_func ?_⟩
  obtain ⟨h₁, tk, rfl, _⟩ := x.done
  have hk₁ := x.toInCall.keep
  obtain ⟨cells, NC, Y⟩ := Cl.news (h₀ := s.heap) (Nat.le_refl _) fun n c hm => ⟨x.cell n c (lookup_of_mem_nodup (cellsFrom_names scope.names 0 (s.heap.objs.size + 1) [] [] rfl ▸ hnd) hm), x.above n c hm⟩
  exact wpAny_mono (h s.heap.objs.size h₁ tk cells ⟨x.toInCall.ns, hk₁, Nat.le_refl _⟩ NC Y) (fun _ _ x => x) fun _ _ x => x.elim
end

/-- the end of a turn of a loop over an enumerate: its two objects and the cell untouched -/
inductive TurnE (h₀ : Heap) (L : Addr) (J : (Str → Option Value) → List (Addr × Obj) → Prop) (z it ck : Addr) (oz oi ok : Obj) (s : Shared) (f : Flow) (s₂ : Shared) : Prop
  | mk (hf : f = .next) (h' : Heap) (tk : Nat) (m' : Str → Option Value) (nx : List (Addr × Obj)) (hs : s₂ = { s with heap := h', toks := tk }) (F : Fr h₀ L h' m') (N : News h₀ L h' ((z, oz) :: (it, oi) :: (ck, ok) :: nx)) (hne : ∀ p ∈ nx, p.1 ≠ z ∧ p.1 ≠ it ∧ p.1 ≠ ck) (hJ : J m' nx) : TurnE h₀ L J z it ck oz oi ok s f s₂

/-- the loop, ready to run over the enumerate xv -/
inductive EnumAt (w : World) (A : Around) (env : Env) (h₀ : Heap) (L : Addr) (xe : Str) (body : List Stmt) (Q : Flow → Shared → Prop) (l ck : Addr) (items : Array Value) (J : Nat → (Str → Option Value) → List (Addr × Obj) → Prop) (xv : Value) (s₁ : Shared) : Prop
  | mk (sA : Shared) (h' : Heap) (m₀ : Str → Option Value) (ok : Obj) (v₀ : Option Value) (news : List (Addr × Obj))
    (h09 : xv = .ref (sA.heap.objs.size + 1)) (h19 : s₁ = { sA with heap := h' }) (h29 : IsEnum h' (sA.heap.objs.size + 1) sA.heap.objs.size 0 .none) (h39 : h'.IsListIter sA.heap.objs.size l 0) (h49 : Kp sA.heap h') (h59 : Fr h₀ L sA.heap m₀) (h69 : News h₀ L sA.heap ((ck, ok) :: news)) (h79 : ok.data = .cell v₀) (h89 : (∀ p ∈ news, p.1 ≠ ck)) (h99 : J 0 m₀ news) (h109 : (∀ (i : Nat) x t m₁ news₁ h tk z it oz oi okc, items[i]? = some x → J i m₁ news₁ → Fr h₀ L h (fun y => if y = xe then some x else m₁ y) → okc.data = .cell (some (.int i t)) → News h₀ L h ((z, oz) :: (it, oi) :: (ck, okc) :: news₁) → (∀ p ∈ news₁, p.1 ≠ z ∧ p.1 ≠ it ∧ p.1 ≠ ck) → @LT.lt Nat _ it z → @LT.lt Nat _ ck it →
        wpAny (model PySem.Challenge.rw_pg0146_01.row.prog w) A (execs body env) (TurnE h₀ L (J (i + 1)) z it ck oz oi okc sA) (fun _ _ => False) { sA with heap := h, toks := tk })) (h119 : (∀ m₁ news₁ h tk okc, J items.size m₁ news₁ → Fr h₀ L h m₁ → News h₀ L h ((ck, okc) :: news₁) → Q .next { sA with heap := h, toks := tk })) : EnumAt w A env h₀ L xe body Q l ck items J xv s₁
/-- between the turns -/
inductive EnumI (sA : Shared) (h₀ : Heap) (L z it l ck : Addr) (items : Array Value) (J : Nat → (Str → Option Value) → List (Addr × Obj) → Prop) (k : Nat) (s' : Shared) : Prop
  | mk (h₁ : Heap) (tk : Nat) (m₁ : Str → Option Value) (news₁ : List (Addr × Obj)) (okc : Obj) (v₁ : Option Value) (i : Nat) (h09 : s' = { sA with heap := h₁, toks := tk }) (h19 : ((∃ old, IsEnum h₁ z it i old) ∧ h₁.IsListIter it l i ∧ h₁.IsList l items)) (h29 : Fr h₀ L h₁ m₁) (h39 : News h₀ L h₁ ((ck, okc) :: news₁)) (h49 : okc.data = .cell v₁) (h59 : (∀ p ∈ news₁, p.1 ≠ z ∧ p.1 ≠ it ∧ p.1 ≠ ck)) (h69 : J i m₁ news₁) (h79 : i ≤ items.size) (h89 : k = items.size + 1 - i) : EnumI sA h₀ L z it l ck items J k s'

/-- for k, e in enumerate(l), where k is a cell; l stood ahead of the frame -/
theorem enum_for {w : World} {A : Around} {s : Shared} {env : Env} {h₀ : Heap} {L : Addr} {xk xe : Str} {pk pe pt pos : Pos} {x1 : Nat} {iter : Expr} {body : List Stmt} {Q : Flow → Shared → Prop} {l ck : Addr} {items : Array Value}
    (J : Nat → (Str → Option Value) → List (Addr × Obj) → Prop) (hL : env.locals = L) (hh : A.handled = none) (hkf : env.scope.kind = .function) (hxk : env.kindOf xk = some .cell) (hck : env.cells.lookup xk = some ck) (hxe : env.kindOf xe = some .local)
    (hp : (env.scope.kind == .class || (env.scope.kind == .module && env.locals != env.globals)) = false) (hl : h₀.IsList l items)
    (h : wpAny (model PySem.Challenge.rw_pg0146_01.row.prog w) A (eval iter env) (fun xv s₁ => EnumAt w A env h₀ L xe body Q l ck items J xv s₁) (fun _ _ => False) s)
    (hs : ∀ x, foldedSetIterable iter env x = pure x) :
    wpAny (model PySem.Challenge.rw_pg0146_01.row.prog w) A (exec (.For (.Tuple [.Name xk pk, .Name xe pe] x1 pt) iter body [] pos) env) Q (fun _ _ => False) s := by
  subst hL
  refine wpAny_For (wpAny_mono h (fun xv s₁ h₁ => ?_) fun _ _ e => e) hs
  obtain ⟨sA, h', m₀, ok, v₀, news, rfl, rfl, hz, hit, hk, F, N, hok, hnk, hj, turn, done⟩ := h₁
  generalize hgz : sA.heap.objs.size + 1 = z at hz ⊢
  generalize hgi : sA.heap.objs.size = it at hz hit hgz ⊢
  have ltA : ∀ a o, sA.heap.get? a = some o → @LT.lt Nat _ a it := fun a o e => hgi ▸ Heap.lt_size e
  have hlA : sA.heap.IsList l items := hl.at fun o e => F.keep _ o e
  have ltl : @LT.lt Nat _ l it := by obtain ⟨o, ho, _⟩ := hlA; exact ltA _ _ ho
  have ltc : @LT.lt Nat _ ck it := ltA _ _ (N _ (.head _)).1
  have ltL : @LT.lt Nat _ env.locals it := by obtain ⟨o, _, _, ho, _⟩ := F.ns; exact ltA _ _ ho
  have ltz : @LT.lt Nat _ it z := by omega
  have hcL : ck ≠ env.locals := (N _ (.head _)).2.1
  have hc0 : h₀.get? ck = none := (N _ (.head _)).2.2
  have lt0 : ∀ a o, h₀.get? a = some o → @LT.lt Nat _ a it := fun a o e => ltA _ _ (F.keep a o e)
  have W := WalksT.enumerate (prog := PySem.Challenge.rw_pg0146_01.row.prog) (w := w) (A := A) hh z it l (fun e => Nat.ne_of_gt ltz e) (fun e => Nat.ne_of_lt (Nat.lt_trans ltl ltz) e) (fun e => Nat.ne_of_lt ltl e) items
  refine wpAny_pyIter_enum hz ?_
  refine codeAny_forLoop_any (EnumI sA h₀ env.locals z it l ck items J) ?_ (items.size + 1)
    ⟨h', _, m₀, news, ok, v₀, 0, rfl, ⟨⟨_, hz⟩, hit, hlA.at fun o e => hk _ o e⟩, F.keeps hk, News.keepsK N hk, hok, (fun p hp => ?_), hj, Nat.zero_le _, rfl⟩
  · rintro k s' ⟨H, tk, m₁, news₁, okc, v₁, i, rfl, hst, F₁, N₁, hokc, hne, hJ, hi, rfl⟩
    have nw : ∀ a, a ≠ z → a ≠ it → a ∉ [z, it] := fun a h1 h2 hm => by
      rcases List.mem_cons.mp hm with q | q
      · exact h1 q
      · exact h2 (List.mem_singleton.mp q)
    have L1 : env.locals ≠ z := Nat.ne_of_lt (Nat.lt_trans ltL ltz)
    have L2 : env.locals ≠ it := Nat.ne_of_lt ltL
    have c1 : ck ≠ z := Nat.ne_of_lt (Nat.lt_trans ltc ltz)
    have c2 : ck ≠ it := Nat.ne_of_lt ltc
    have o1 : ∀ b o, h₀.get? b = some o → b ≠ z ∧ b ≠ it := fun b o e => ⟨Nat.ne_of_lt (Nat.lt_trans (lt0 b o e) ltz), Nat.ne_of_lt (lt0 b o e)⟩
    have next : ∀ h₁ : Heap, (∀ b o, b ∉ [z, it] → H.get? b = some o → h₁.get? b = some o) → Fr h₀ env.locals h₁ m₁ ∧ News h₀ env.locals h₁ ((ck, okc) :: news₁) := fun h₁ hk₁ =>
      ⟨⟨F₁.ns.at' fun o e => hk₁ _ o (nw _ L1 L2) e, fun b o e => hk₁ b o (nw _ (o1 b o e).1 (o1 b o e).2) (F₁.keep b o e), F₁.above⟩, fun p hp => ⟨hk₁ _ _ (by
        rcases List.mem_cons.mp hp with rfl | hp
        · exact nw _ c1 c2
        · exact nw _ (hne p hp).1 (hne p hp).2.1) (N₁ p hp).1, (N₁ p hp).2⟩⟩
    by_cases hlt : i < items.size
    · refine W.item i _ _ _ hlt hst fun T vals h₁ tk₁ hPt _ hT hMid hk₁ => ?_
      obtain ⟨t, x, hx, rfl⟩ := hPt
      refine W.go _ x1 pt i T _ _ _ hMid fun h₂ hst₂ hk₂ => ?_
      have ht₂ : h₂.IsTuple T #[.int i t, x] := hT.at fun o e => hk₂ T o (W.apart i T h₁ hMid) e
      refine wpAny_assign_Tuple hh ht₂ rfl rfl fun h₃ hx₃ => ?_
      replace hx₃ : Heap.ExtBut h₂.objs.size h₂ h₃ := hx₃
      have up₃ : ∀ b o, h₂.get? b = some o → h₃.get? b = some o := fun b o x => hx₃ b o (Nat.ne_of_lt (Heap.lt_size x)) x
      obtain ⟨F₃, N₃⟩ := next h₃ fun b o hb x => up₃ b o (hk₂ b o hb (hk₁ b o hb x))
      show wpAny _ A (do holding [x] (assign (.Name xk pk) env (.int i t)); do holding [] (assign (.Name xe pe) env x); pure ()) _ _ _
      refine wpAny_bind (wpAny_holding (wpAny_assign_Name (wpAny_storeName_cell hkf hxk hck ⟨okc, (N₃ _ (.head _)).1, hokc⟩ (fun h₄ hc₄ hs₄ => ?_))))
      obtain ⟨okd, hokd, hokdd⟩ := hc₄
      replace hs₄ : Heap.SameBut ck h₃ h₄ := hs₄
      have oc : ∀ b o, h₀.get? b = some o → b ≠ ck := fun b o e q => by rw [q, hc0] at e; cases e
      have F₄ : Fr h₀ env.locals h₄ m₁ := ⟨F₃.ns.sameBut hs₄ (Ne.symm hcL), fun b o e => hs₄.extBut b o (oc b o e) (F₃.keep b o e), F₃.above⟩
      refine wpAny_bind (wpAny_holding (wpAny_assign_Name (wpAny_storeName_local hxe F₄.ns (fun h₅ hn₅ hs₅ => wpAny_pure ?_) hp)))
      replace hs₅ : Heap.SameBut env.locals h₄ h₅ := hs₅
      have F₅ := F₄.set hn₅ hs₅
      have up₅ : ∀ b o, b ≠ ck → b ≠ env.locals → h₃.get? b = some o → h₅.get? b = some o := fun b o h1 h2 e => hs₅.extBut b o h2 (hs₄.extBut b o h1 e)
      have lck : l ≠ ck := by obtain ⟨o, ho, _⟩ := hl; exact oc _ _ ho
      have lL : l ≠ env.locals := by obtain ⟨o, ho, _⟩ := hl; exact Nat.ne_of_lt (Nat.lt_of_lt_of_le (Heap.lt_size ho) F.above)
      have apart : ∀ b ∈ [z, it, l], b ≠ ck ∧ b ≠ env.locals := sub_cons ⟨Ne.symm c1, Ne.symm L1⟩ (sub_cons ⟨Ne.symm c2, Ne.symm L2⟩ (sub_cons ⟨lck, lL⟩ fun _ h => nomatch h))
      have hst₅ := W.frame (i + 1) h₂ h₅ hst₂ fun b hb o e => up₅ b o (apart b hb).1 (apart b hb).2 (up₃ b o e)
      obtain ⟨⟨old, hen⟩, ⟨oi, hoi, hoi2⟩, hli⟩ := id hst₅
      obtain ⟨oz, hen⟩ : ∃ oz, h₅.get? z = some oz := ⟨_, hen⟩
      have z0 : h₀.get? z = none := by
        cases q : h₀.get? z with
        | none => rfl
        | some o => exact absurd rfl (o1 z o q).1
      have i0 : h₀.get? it = none := by
        cases q : h₀.get? it with
        | none => rfl
        | some o => exact absurd rfl (o1 it o q).2
      have N₅ : News h₀ env.locals h₅ ((z, oz) :: (it, oi) :: (ck, okd) :: news₁) := by
        exact sub_cons ⟨hen, Ne.symm L1, z0⟩ (sub_cons ⟨hoi, Ne.symm L2, i0⟩ (sub_cons ⟨hs₅.extBut _ _ hcL hokd, hcL, hc0⟩ fun p hp => ⟨up₅ _ _ (hne p hp).2.2 (N₃ p (.tail _ hp)).2.1 (N₃ p (.tail _ hp)).1, (N₃ p (.tail _ hp)).2⟩))
      refine wpAny_mono (turn i x t m₁ news₁ h₅ _ z it oz oi okd hx hJ F₅ hokdd N₅ hne ltz ltc) (fun f s₃ h₆ => ?_) (fun _ _ x => x.elim)
      obtain ⟨rfl, h₆, tk₆, m₂, nx, rfl, F₆, N₆, hne₆, hJ₆⟩ := h₆
      refine ⟨items.size + 1 - (i + 1), by omega, h₆, tk₆, m₂, nx, okd, _, i + 1, rfl, ?_, F₆, News.sub N₆ (fun p hp => .tail _ (.tail _ hp)), hokdd, hne₆, hJ₆, hlt, rfl⟩
      have same : ∀ b ∈ [z, it, l], ∀ o, h₅.get? b = some o → h₆.get? b = some o := by
        refine sub_cons (fun o e => Option.some.inj (hen.symm.trans e) ▸ (N₆ _ (.head _)).1) (sub_cons (fun o e => Option.some.inj (hoi.symm.trans e) ▸ (N₆ _ (.tail _ (.head _))).1) (sub_cons (fun o e => ?_) fun _ h => nomatch h))
        obtain ⟨o', ho', _⟩ := hl
        exact Option.some.inj ((F₅.keep _ _ ho').symm.trans e) ▸ F₆.keep _ _ ho'
      exact W.frame (i + 1) h₅ h₆ hst₅ same
    · have hin : i = items.size := by omega
      subst hin
      refine W.done _ _ _ hst fun h₁ tk₁ hk₁ => wpAny_execs_nil ?_
      obtain ⟨F₃, N₃⟩ := next h₁ hk₁
      exact done m₁ news₁ h₁ tk₁ okc hJ F₃ N₃
  · have := ltA _ _ (N p (.tail _ hp)).1
    exact ⟨Nat.ne_of_lt (Nat.lt_trans this ltz), Nat.ne_of_lt this, hnk p hp⟩


noncomputable def depthOf (es : List Nat) (k : Nat) : Nat := ((List.range k).filter fun j => decide (k < es.getD j 0)).length
noncomputable def rowOf (es : List Nat) (bs : List Int) (k : Nat) : List Int := [bs.getD (k + 1) 0, bs.getD (es.getD k 0) 0 - bs.getD (k + 1) 0, bs.getD k 0, (depthOf es k : Int)]
noncomputable def rowsUp (es : List Nat) (bs : List Int) (i : Nat) : List (List Int) := ((List.range i).filter fun k => decide (k + 1 < es.getD k 0)).map (rowOf es bs)
noncomputable def rowsOf (es : List Nat) (bs : List Int) : List (List Int) := rowsUp es bs es.length
/-- a list of rows, the objects on kn -/
inductive RowAt (kn : List (Addr × Obj)) (y : Value) (r : List Int) : Prop
  | mk (a : Addr) (vs : List Value) (k : Nat) (h1 : y = .ref a) (h2 : (a, listOf (List.toArray vs) k) ∈ kn) (h3 : IntsAre vs r) : RowAt kn y r
noncomputable def RowList (kn : List (Addr × Obj)) (ys : List Value) (rows : List (List Int)) : Prop := Paired (RowAt kn) ys rows

theorem shuffle {h₀ h : Heap} {L : Addr} {a d z it ck R cE : Addr × Obj} {kn : List (Addr × Obj)} (N : News h₀ L h (a :: d :: z :: it :: ck :: R :: cE :: kn)) : News h₀ L h (z :: it :: ck :: R :: cE :: a :: kn) := News.sub N fun p hp => by
  simp only [List.mem_cons] at hp ⊢
  rcases hp with h | h | h | h | h | h | h <;> simp [h]
theorem newsFor {h₀ h : Heap} {L : Addr} {m : Str → Option Value} (F : Fr h₀ L h m) : News h₀ L h [] := News.nil
noncomputable def pV (es : List Nat) (k : Nat) (v : Value) : Bool := match v with | .int j _ => decide (k < es.getD j.toNat 0) | _ => false
theorem ints_filter {p : Value → Bool} {q : Int → Bool} (hpq : ∀ n t, p (.int n t) = q n) : ∀ {vs : List Value} {ns : List Int}, IntsAre vs ns → IntsAre (vs.filter p) (ns.filter q)
  | _, _, .nil => .nil
  | _, _, .cons n t h => by
    have ih := ints_filter hpq h
    rw [List.filter_cons, List.filter_cons, hpq]
    cases q n with
    | true => exact .cons _ _ ih
    | false => exact ih
theorem paired_eq {l₁ l₂ : List Value} (h : Paired (fun (v y : Value) => y = v) l₁ l₂) : l₂ = l₁ := by
  induction h with
  | nil => rfl
  | cons h t ih => rw [h, ih]
theorem depth_law {es : List Nat} {k : Nat} {vs ys : List Value} (hi : IntsAre vs ((List.range k).map fun (i : Nat) => (0 : Int) + (i : Int) * 1)) (hp : Paired (fun (v y : Value) => y = v) (vs.filter (pV es k)) ys) :
    ∃ ns, IntsAre ys ns ∧ ns.length = depthOf es k := by
  rw [paired_eq hp]
  refine ⟨_, ints_filter (q := fun j => decide (k < es.getD j.toNat 0)) (fun n t => rfl) hi, ?_⟩
  unfold depthOf
  rw [List.filter_map, List.length_map]
  congr 1
  refine List.filter_congr fun j hj => ?_
  show decide (k < es.getD ((0 : Int) + (j : Int) * 1).toNat 0) = decide (k < es.getD j 0)
  have e : ((0 : Int) + (j : Int) * 1).toNat = j := by omega
  rw [e]
theorem rowsUp_succ (es : List Nat) (bs : List Int) (i : Nat) : rowsUp es bs (i + 1) = rowsUp es bs i ++ (if i + 1 < es.getD i 0 then [rowOf es bs i] else []) := by
  unfold rowsUp
  rw [List.range_succ, List.filter_append, List.map_append]
  congr 1
  by_cases h : i + 1 < es.getD i 0
  · have hf : List.filter (fun k => decide (k + 1 < es.getD k 0)) [i] = [i] := by rw [List.filter_cons, if_pos (decide_eq_true h)]; rfl
    rw [if_pos h, hf]; rfl
  · have hf : List.filter (fun k => decide (k + 1 < es.getD k 0)) [i] = [] := by rw [List.filter_cons, if_neg (by simpa using h)]; rfl
    rw [if_neg h, hf]; rfl

/-- between the turns over the ends -/
inductive RowsJ (l' : Addr) (oE : Obj) (lb : Addr) (es : List Nat) (bs : List Int) (i : Nat) (m : Str → Option Value) (news : List (Addr × Obj)) : Prop
  | mk (ve vd : Option Value) (R : Addr) (rs : List Value) (e : Nat) (kn : List (Addr × Obj)) (h09 : m = fm [("end", ve), ("depth", vd), ("rows", some (.ref R)), ("begins", some (.ref lb))]) (h19 : news = (R, listOf rs.toArray e) :: (l' + 1, oE) :: kn) (h29 : RowList kn rs (rowsUp es bs i)) (h39 : @LT.lt Nat _ (l' + 1 + 1) R) (h49 : (∀ p ∈ kn, @LT.lt Nat _ R p.1)) : RowsJ l' oE lb es bs i m news

set_option maxHeartbeats 8000000 in
theorem rows_spec {w : World} {mean : ExcName → Option Value} {mg mb : Str → Option Value} {base : Heap} {outer : List Env} {dp un : Nat} {gd : Option (List Code)} {s : Shared} {Q E : Value → Shared → Prop}
    (G : Gd w mean mg mb (aA dp un gd outer) base outer s.heap) (hdp : dp + 5 < recursionLimit) (hun : un + 50 < cLine)
    {le lb : Addr} {es : List Nat} {bs : List Int} (hes : IntsAt s.heap le (es.map fun (x : Nat) => (x : Int))) (hbs : IntsAt s.heap lb bs) (hlen : es.length ≤ 100) (hbl : bs.length = es.length + 1)
    (hok : ∀ e ∈ es, e ≤ es.length) (hb2 : ∀ x ∈ bs, 0 ≤ x ∧ x ≤ 100000)
    (hret : ∀ a h' tk', Kp s.heap h' → RowsAt h' a (rowsOf es bs) → s.heap.get? a = none → Q (.ref a) { s with heap := h', toks := tk' }) :
    wpAny (model PySem.Challenge.rw_pg0146_01.row.prog w) (aA dp un gd outer) (call (.ref 123) [.ref le, .ref lb]) Q E s := by
  w_top off
  obtain ⟨X, T, B⟩ := id G
  revert X; k_fill; intro X
  refine enterC0 (binds := [("ends", .ref le), ("begins", .ref lb)]) G (by omega) (by k_dflt k_is) (by k_dflt k_is) (BindsTo.of_eq rfl) rfl (by decide) ?_ rfl rfl rfl
  intro L' h₁ tk cells F' N' hC
  have hroom : Unit → _ := fun _ => And.intro hdp hun
  clear hdp hun
  obtain ⟨ok, oE, rfl, hdk, hdE⟩ := CellsAre.two hC
  clear hC
  have F1 : Fr s.heap L' h₁ (fm [("begins", some (.ref lb))]) := F'
  have hdk : ok.data = .cell none := hdk
  have hdE : oE.data = .cell (some (.ref le)) := hdE
  clear F'
  obtain ⟨ev, hle, hIe⟩ := hes
  obtain ⟨bv, hlb, hIb⟩ := hbs
  repeat' (
    (fail_if_success (with_reducible show wpAny _ _ (exec (Stmt.For _ _ _ _ _) _) _ _ _));
    (fail_if_success (with_reducible show wpAny _ _ (exec (Stmt.Try _ _ _ _ _) _) _ _ _));
    (fail_if_success (with_reducible show wpAny _ _ (exec (Stmt.While _ _ _ _) _) _ _ _));
    (fail_if_success (with_reducible show wpAny _ _ (eval (Expr.ListComp _ _ _ _) _) _ _ _));
    (fail_if_success (with_reducible show wpAny _ _ (exec (Stmt.Assign _ (Expr.ListComp _ _ _ _) _) _) _ _ _));
    (fail_if_success (with_reducible show wpAny _ _ (PySem.call (Value.ref _) _ _) _ _ _));
    (fail_if_success (with_reducible show wpAny _ _ (pyIter _) _ _ _));
    (fail_if_success (with_reducible show TurnQ _ _ _ _ _ _ _ _ _ _));
    (first | walk1 | (dsimp only; walk1)); (first | (with_reducible show wpAny _ _ (subscriptTail _ _ _ _) _ _ _) | (try dsimp only)))
  rename Fr _ _ _ _ => F2
  rename News _ _ _ _ => N2
  refine enum_for (h₀ := s.heap) (L := L') (l := le) (items := ev.toArray) (ck := L' + 1 + 1) (RowsJ L' oE lb es bs) rfl rfl rfl rfl rfl rfl rfl hle ?_ (fun _ => rfl)
  repeat' (
    (fail_if_success (with_reducible show wpAny _ _ (exec (Stmt.For _ _ _ _ _) _) _ _ _));
    (fail_if_success (with_reducible show wpAny _ _ (exec (Stmt.While _ _ _ _) _) _ _ _));
    (fail_if_success (with_reducible show wpAny _ _ (eval (Expr.ListComp _ _ _ _) _) _ _ _));
    (fail_if_success (with_reducible show wpAny _ _ (exec (Stmt.Assign _ (Expr.ListComp _ _ _ _) _) _) _ _ _));
    (fail_if_success (with_reducible show wpAny _ _ (PySem.call (Value.ref _) _ _) _ _ _));
    (fail_if_success (with_reducible show wpAny _ _ (PySem.call (Value.type "enumerate") _ _) _ _ _));
    (fail_if_success (with_reducible show wpAny _ _ (pyIter _) _ _ _));
    (fail_if_success (with_reducible show TurnQ _ _ _ _ _ _ _ _ _ _));
    (fail_if_success (with_reducible show TurnE _ _ _ _ _ _ _ _ _ _ _ _));
    (fail_if_success (with_reducible show Exists _));
    (first | walk1 | (dsimp only; walk1)); (first | (with_reducible show wpAny _ _ (subscriptTail _ _ _ _) _ _ _) | (try dsimp only)))
  rename _ ∧ _ => hl1
  refine call_enumerate_list (hle.at fun o e => F2.keep _ o e) fun h3 hen hit hsz hk3 => ⟨_, h3, _, ok, none, _, rfl, rfl, hen, hit, hk3, F2, News.sub (nx := [(L' + 1 + 1, ok), _, (L' + 1, oE)]) N2 ?_, hdk, ?_, ⟨none, none, _, [], 0, [], by (first | (refine fm_s1 ?_; rfl) | (refine fm_s2 ?_; rfl) | (refine fm_s3 ?_; rfl) | (refine fm_s4 ?_; rfl) | (refine fm_s5 ?_; rfl) | (refine fm_s6 ?_; rfl)), rfl, .nil, hl1.1, fun p hp => by cases hp⟩, ?_, ?_⟩
  · exact List.forall_mem_cons.mpr ⟨.tail _ (.head _), List.forall_mem_cons.mpr ⟨.head _, List.forall_mem_cons.mpr ⟨.tail _ (.tail _ (.head _)), List.forall_mem_nil _⟩⟩⟩
  · refine List.forall_mem_cons.mpr ⟨Nat.ne_of_gt hl1.1, List.forall_mem_cons.mpr ⟨Nat.ne_of_lt (Nat.lt_succ_self _), List.forall_mem_nil _⟩⟩
  · rintro i x t m₁ news₁ h4 tk4 z it oz oi okc hx hJ F4 hokc N4 hne hltz hltc
    refine turn_of fun QT hgo => ?_
    obtain ⟨ve, vd, R, rs, e, kn, rfl, rfl, hRL, hR, hkR⟩ := hJ
    obtain ⟨e', he', te, rfl⟩ := IntsAre.at? hIe i x (by simpa using hx)
    have hil : i < es.length := by
      have := (List.getElem?_eq_some_iff.mp he').1
      simpa using this
    have hesi : es[i]? = some (es.getD i 0) := by rw [List.getD_eq_getElem?_getD, List.getElem?_eq_getElem hil]; rfl
    have he'' : e' = ((es.getD i 0 : Nat) : Int) := by
      rw [List.getElem?_map, hesi] at he'
      exact (Option.some.inj he').symm
    subst he''
    have heb : es.getD i 0 ≤ es.length := hok _ (List.mem_of_getElem? hesi)
    generalize hge : es.getD i 0 = ee at F4 hx heb he'
    repeat' (
      (fail_if_success (with_reducible show wpAny _ _ (exec (Stmt.For _ _ _ _ _) _) _ _ _));
      (fail_if_success (with_reducible show wpAny _ _ (exec (Stmt.While _ _ _ _) _) _ _ _));
      (fail_if_success (with_reducible show wpAny _ _ (eval (Expr.ListComp _ _ _ _) _) _ _ _));
      (fail_if_success (with_reducible show wpAny _ _ (exec (Stmt.Assign _ (Expr.ListComp _ _ _ _) _) _) _ _ _));
      (fail_if_success (with_reducible show wpAny _ _ (PySem.call (Value.ref _) _ _) _ _ _));
      (fail_if_success (with_reducible show wpAny _ _ (PySem.call (Value.type "enumerate") _ _) _ _ _));
      (fail_if_success (with_reducible show wpAny _ _ (pyIter _) _ _ _));
      (fail_if_success (with_reducible show TurnQ _ _ _ _ _ _ _ _ _ _));
      (fail_if_success (with_reducible show TurnE _ _ _ _ _ _ _ _ _ _ _ _));
      (fail_if_success (with_reducible show Exists _));
      (first | walk1 | (dsimp only; walk1)); (first | (with_reducible show wpAny _ _ (subscriptTail _ _ _ _) _ _ _) | (try dsimp only)))
    · rename (i : Int) + 1 < (ee : Int) => hgt
      have hck : h4.IsCell (L' + 1 + 1) (some (.int i t)) := ⟨_, (N4 _ (.tail _ (.tail _ (.head _)))).1, hokc⟩
      have hcE : h4.IsCell (L' + 1) (some (.ref le)) := ⟨_, (N4 _ (.tail _ (.tail _ (.tail _ (.tail _ (.head _)))))).1, hdE⟩
      refine comp_eval (cl := _) rfl (by decide) rfl (by decide) rfl ?_ (fun _ => rfl)
      repeat' (
        (fail_if_success (with_reducible show wpAny _ _ (exec (Stmt.For _ _ _ _ _) _) _ _ _));
        (fail_if_success (with_reducible show wpAny _ _ (exec (Stmt.While _ _ _ _) _) _ _ _));
        (fail_if_success (with_reducible show wpAny _ _ (eval (Expr.ListComp _ _ _ _) _) _ _ _));
        (fail_if_success (with_reducible show wpAny _ _ (exec (Stmt.Assign _ (Expr.ListComp _ _ _ _) _) _) _ _ _));
        (fail_if_success (with_reducible show wpAny _ _ (PySem.call (Value.ref _) _ _) _ _ _));
        (fail_if_success (with_reducible show wpAny _ _ (PySem.call (Value.type "enumerate") _ _) _ _ _));
        (fail_if_success (with_reducible show wpAny _ _ (pyIter _) _ _ _));
        (fail_if_success (with_reducible show TurnQ _ _ _ _ _ _ _ _ _ _));
        (fail_if_success (with_reducible show TurnE _ _ _ _ _ _ _ _ _ _ _ _));
        (fail_if_success (with_reducible show Exists _));
        (first | walk1 | (dsimp only; walk1)); (first | (with_reducible show wpAny _ _ (subscriptTail _ _ _ _) _ _ _) | (try dsimp only)))
      rename IsRange _ _ _ _ _ _ _ _ => hRg
      rename Fr _ _ _ _ => F5
      rename News _ _ _ _ => N5
      rename ∀ (b : Addr) (o : Obj), Heap.get? _ b = some o → Heap.get? _ b = some o => hkr
      have hck5 := hck.keeps hkr
      have hcE5 := hcE.keeps hkr
      refine compAt_range (n := i) (pV es i) (fun v y hh => y = v) rfl hRg (small_one (by omega) (by omega) (by omega) (by omega)) (by rw [rangeSize_nat]; congr 1) (Nat.le_trans (Nat.le_of_lt hil) (Nat.le_trans hlen (by decide))) ?_ ?_ ?_
      · intro j t' C h6 tk6 hj F6
        refine tests_one ?_
        have eN : ((0 : Int) + (j : Int) * 1) = (j : Int) := by omega
        rw [eN] at F6 ⊢
        have X6 : (hd.heap_39 w.params).In h6 := Frag.In.keeps (Frag.In.keeps X F5.keep) F6.keep
        have hle6 : h6.IsList le ev.toArray := (hle.at fun o e => F5.keep _ o e).at fun o e => F6.keep _ o e
        have hc1 := hck5.keeps F6.keep
        have hc2 := hcE5.keeps F6.keep
        obtain ⟨vj, hvj⟩ : ∃ v, ev[j]? = some v := ⟨_, List.getElem?_eq_getElem (by have := hIe.length; simp at this; omega)⟩
        obtain ⟨ej, hej, tj, rfl⟩ := IntsAre.at? hIe j vj hvj
        have hesj : es[j]? = some (es.getD j 0) := by rw [List.getD_eq_getElem?_getD, List.getElem?_eq_getElem (by omega)]; rfl
        have hej2 : ej = ((es.getD j 0 : Nat) : Int) := by
          rw [List.getElem?_map, hesj] at hej
          exact (Option.some.inj hej).symm
        subst hej2
        have N₂ := newsFor F6
        clear F5 N5
        walk1
        walk1
        refine nmC hc2 rfl ?_
        refine nmL F6.ns rfl ?_
        refine item_listL hle6 (by omega) (by omega) (by rw [Int.toNat_natCast]; exact hvj) ?_
        refine nmC hc1 rfl ?_
        walk1
        walk1
        refine ⟨?_, _, _, rfl, fun _ _ e => e⟩
        show decide ((i : Int) < ((es.getD j 0 : Nat) : Int)) = decide (i < es.getD (Int.toNat (j : Int)) 0)
        rw [Int.toNat_natCast]
        exact decide_eq_decide.mpr Int.ofNat_lt
      · intro j t' C h6 tk6 hj _ F6
        exact nmL F6.ns rfl ⟨_, _, rfl, fun _ _ e => e, fun _ _ _ => rfl⟩
      · intro D h6 tk6 ys vs hk6 hD hpl hIv hPd
        obtain ⟨kD, hget⟩ := hpl
        obtain ⟨ns, hns, hnl⟩ := depth_law hIv hPd
        have F7 := F5.keeps hk6
        have N7 : News s.heap L' h6 ((D, listOf ys.toList.toArray kD) :: (z, oz) :: (it, oi) :: (L' + 1 + 1, okc) :: (R, listOf rs.toArray e) :: (L' + 1, oE) :: kn) := by
          intro p hp
          rcases List.mem_cons.mp hp with rfl | hp
          · refine ⟨by simpa using hget, ?_, Kp.none F5.keep hD⟩
            rintro rfl
            obtain ⟨o', _, _, ho', _⟩ := F5.ns
            exact absurd (hD.symm.trans ho') (by simp)
          · exact ⟨hk6 _ _ (N5 p hp).1, (N5 p hp).2⟩
        generalize ys.toList = Z at hns N7
        have hdl : ns.length ≤ 100 := by
          rw [hnl]
          exact Nat.le_trans (List.length_filter_le _ _) (by simp; omega)
        have hDR : D ≠ R := by
          rintro rfl
          exact absurd (hD.symm.trans (N5 _ (.tail _ (.tail _ (.tail _ (.head _))))).1) (by simp)
        have hRz := hne _ (.head _)
        clear F5 N5 hget hIv hPd hck hcE hck5 hcE5
        repeat' (
          (fail_if_success (with_reducible show wpAny _ _ (exec (Stmt.For _ _ _ _ _) _) _ _ _));
          (fail_if_success (with_reducible show wpAny _ _ (exec (Stmt.While _ _ _ _) _) _ _ _));
          (fail_if_success (with_reducible show wpAny _ _ (eval (Expr.ListComp _ _ _ _) _) _ _ _));
          (fail_if_success (with_reducible show wpAny _ _ (exec (Stmt.Assign _ (Expr.ListComp _ _ _ _) _) _) _ _ _));
          (fail_if_success (with_reducible show wpAny _ _ (PySem.call (Value.ref _) _ _) _ _ _));
          (fail_if_success (with_reducible show wpAny _ _ (PySem.call (Value.type "enumerate") _ _) _ _ _));
          (fail_if_success (with_reducible show wpAny _ _ (pyIter _) _ _ _));
          (fail_if_success (with_reducible show TurnQ _ _ _ _ _ _ _ _ _ _));
          (fail_if_success (with_reducible show TurnE _ _ _ _ _ _ _ _ _ _ _ _));
          (fail_if_success (with_reducible show Exists _));
          (first | walk1 | (dsimp only; walk1)); (first | (with_reducible show wpAny _ _ (subscriptTail _ _ _ _) _ _ _) | (try dsimp only)))
        rename Fr _ _ _ _ => F8
        rename News _ _ _ _ => N8
        rename _ ∧ _ ∧ _ ∧ _ ∧ _ ∧ _ ∧ AllLt _ kn => hl8
        refine append_K F8 N8 (.tail (Nat.ne_of_gt hl8.2.2.2.2.1) (.tail hDR (.tail (Ne.symm hRz.1) (.tail (Ne.symm hRz.2.1) (.tail (Ne.symm hRz.2.2) (.head ?_)))))) ?_ ?_
        · refine List.forall_mem_cons.mpr ⟨Nat.ne_of_lt (Nat.lt_trans (Nat.lt_succ_self _) hR), fun p hp => Nat.ne_of_gt (hkR p hp)⟩
        · intro h9 F9 N9
          repeat' (
            (fail_if_success (with_reducible show wpAny _ _ (exec (Stmt.For _ _ _ _ _) _) _ _ _));
            (fail_if_success (with_reducible show wpAny _ _ (exec (Stmt.While _ _ _ _) _) _ _ _));
            (fail_if_success (with_reducible show wpAny _ _ (eval (Expr.ListComp _ _ _ _) _) _ _ _));
            (fail_if_success (with_reducible show wpAny _ _ (exec (Stmt.Assign _ (Expr.ListComp _ _ _ _) _) _) _ _ _));
            (fail_if_success (with_reducible show wpAny _ _ (PySem.call (Value.ref _) _ _) _ _ _));
            (fail_if_success (with_reducible show wpAny _ _ (PySem.call (Value.type "enumerate") _ _) _ _ _));
            (fail_if_success (with_reducible show wpAny _ _ (pyIter _) _ _ _));
            (fail_if_success (with_reducible show TurnQ _ _ _ _ _ _ _ _ _ _));
            (fail_if_success (with_reducible show TurnE _ _ _ _ _ _ _ _ _ _ _ _));
            (fail_if_success (with_reducible show Exists _));
            (first | walk1 | (dsimp only; walk1)); (first | (with_reducible show wpAny _ _ (subscriptTail _ _ _ _) _ _ _) | (try dsimp only)))
          rename Fr _ _ _ _ => F10
          rename News _ _ _ _ => N10
          rw [List.push_toArray] at N10
          have N11 := shuffle N10
          refine hgo _ _ ⟨rfl, _, _, _, _, rfl, F10, N11, ?_, ⟨_, _, R, _, _, _, by (first | (refine fm_s1 ?_; rfl) | (refine fm_s2 ?_; rfl) | (refine fm_s3 ?_; rfl) | (refine fm_s4 ?_; rfl) | (refine fm_s5 ?_; rfl) | (refine fm_s6 ?_; rfl)), rfl, ?_, hR, ?_⟩⟩
          · refine List.forall_mem_cons.mpr ⟨hRz, List.forall_mem_cons.mpr ⟨hne _ (.tail _ (.head _)), List.forall_mem_cons.mpr ⟨⟨Nat.ne_of_gt hl8.2.1, Nat.ne_of_gt hl8.2.2.1, Nat.ne_of_gt hl8.2.2.2.1⟩, fun p hp => hne p (.tail _ (.tail _ hp))⟩⟩⟩
          · rw [rowsUp_succ, hge, if_pos (by omega)]
            refine Paired.snoc (Paired.imp (fun y r ⟨a, vs, k, q1, q2, q3⟩ => ⟨a, vs, k, q1, .tail _ q2, q3⟩) hRL) ⟨_, _, _, rfl, .head _, ?_⟩
            unfold rowOf
            rw [hge, ← hnl]
            have e1 : ((i : Int) + 1).toNat = i + 1 := by omega
            rw [e1, Int.toNat_natCast, Int.toNat_natCast]
            exact .cons _ _ (.cons _ _ (.cons _ _ (.cons _ _ .nil)))
          · exact List.forall_mem_cons.mpr ⟨hl8.2.2.2.2.1, hkR⟩
        · have h1 := Paired.length_eq hRL
          have h2 : (rowsUp es bs i).length ≤ i := by
            unfold rowsUp
            rw [List.length_map]
            exact Nat.le_trans (List.length_filter_le _ _) (by simp)
          rw [List.size_toArray, h1]
          exact Nat.le_trans h2 (Nat.le_trans (Nat.le_of_lt hil) (Nat.le_trans hlen (by decide)))
    · rename ¬ (i : Int) + 1 < (ee : Int) => hgt
      refine hgo _ _ ⟨rfl, _, _, _, (R, listOf rs.toArray e) :: (L' + 1, oE) :: kn, rfl, F4, N4, hne, ⟨_, _, R, rs, e, kn, by (first | (refine fm_s1 ?_; rfl) | (refine fm_s2 ?_; rfl) | (refine fm_s3 ?_; rfl) | (refine fm_s4 ?_; rfl) | (refine fm_s5 ?_; rfl) | (refine fm_s6 ?_; rfl)), rfl, ?_, hR, hkR⟩⟩
      rw [rowsUp_succ, hge, if_neg (by omega), List.append_nil]
      exact hRL
  · rintro m₁ news₁ h4 tk4 okc ⟨ve, vd, R, rs, e, kn, rfl, rfl, hRL, hR, hkR⟩ F4 N4
    repeat' (
      (fail_if_success (with_reducible show wpAny _ _ (exec (Stmt.For _ _ _ _ _) _) _ _ _));
      (fail_if_success (with_reducible show wpAny _ _ (exec (Stmt.While _ _ _ _) _) _ _ _));
      (fail_if_success (with_reducible show wpAny _ _ (eval (Expr.ListComp _ _ _ _) _) _ _ _));
      (fail_if_success (with_reducible show wpAny _ _ (exec (Stmt.Assign _ (Expr.ListComp _ _ _ _) _) _) _ _ _));
      (fail_if_success (with_reducible show wpAny _ _ (PySem.call (Value.ref _) _ _) _ _ _));
      (fail_if_success (with_reducible show wpAny _ _ (PySem.call (Value.type "enumerate") _ _) _ _ _));
      (fail_if_success (with_reducible show wpAny _ _ (pyIter _) _ _ _));
      (fail_if_success (with_reducible show TurnQ _ _ _ _ _ _ _ _ _ _));
      (fail_if_success (with_reducible show TurnE _ _ _ _ _ _ _ _ _ _ _ _));
      (fail_if_success (with_reducible show Exists _));
      (first | walk1 | (dsimp only; walk1)); (first | (with_reducible show wpAny _ _ (subscriptTail _ _ _ _) _ _ _) | (try dsimp only)))
    have hez : ev.toArray.size = es.length := by
      have := hIe.length
      simpa using this
    rw [hez] at hRL
    refine hret _ _ _ F4.keep ⟨rs.toArray, News.il N4 (.tail _ (.head _)), ?_⟩ (N4 _ (.tail _ (.head _))).2.2
    exact Paired.imp (fun y r ⟨a, vs, k, q1, q2, q3⟩ => ⟨a, q1, vs, News.il N4 (.tail _ (.tail _ (.tail _ q2))), q3⟩) hRL

theorem idx_drop (n : Nat) : Builtin.Str.strSliceIndices none (some (-1)) 1 n = List.range (n - 1) := by
  unfold Builtin.Str.strSliceIndices sliceRange
  have h1 : (1 : Int) > 0 := by decide
  have h2 : (-1 : Int) < 0 := by decide
  simp only [h1, h2, if_true]
  have hc : (if (0 : Int) < max 0 (min (-1 + (n : Int)) n) then (max 0 (min (-1 + (n : Int)) n) - 0 + 1 - 1) / 1 else 0).toNat = n - 1 := by
    rw [Int.ediv_one]
    split <;> omega
  rw [hc]
  refine (List.map_congr_left fun k hk => ?_).trans (List.map_id _)
  show (0 + 1 * (k : Int)).toNat = k
  omega
theorem cut_last (l : List Nat) : Txt.slice ⟨l.toArray⟩ none (some (-1)) = ⟨l.dropLast.toArray⟩ := by
  unfold Txt.slice
  have hL : (⟨l.toArray⟩ : Str).length = l.length := List.size_toArray
  rw [hL, idx_drop]
  by_cases h0 : l.length = 0
  · have e : l = [] := List.length_eq_zero_iff.mp h0
    subst e
    rfl
  · rw [if_neg]
    · have : (List.range (l.length - 1)).filterMap (fun i => l.toArray[i]?) = l.dropLast := by
        rw [List.dropLast_eq_take]
        have key : ∀ m, m ≤ l.length → (List.range m).filterMap (fun i => l.toArray[i]?) = l.take m := by
          intro m
          induction m with
          | zero => intro _; rfl
          | succ m ih =>
            intro hm
            rw [List.range_succ, List.filterMap_append, ih (by omega)]
            have e : l.toArray[m]? = some l[m] := by simp
            rw [List.filterMap_cons, e]
            simp
        exact key _ (by omega)
      rw [this]
    · simp only [List.length_range, Bool.and_eq_true, beq_iff_eq]
      omega
theorem turned (l : List Nat) (u : Tok) : Txt.sliceBy ⟨l.toArray⟩ none none (-1, u) = ⟨l.reverse.toArray⟩ := by
  have h := step_rev_list ⟨l.toArray⟩ u
  generalize Txt.sliceBy ⟨l.toArray⟩ none none (-1, u) = y at h
  obtain ⟨c⟩ := y
  have hL : (⟨l.toArray⟩ : Str).length = l.length := List.size_toArray
  rw [hL] at h
  have e : c.toList = l.reverse := by
    refine h.trans (List.ext_getElem (by simp) fun i h1 h2 => ?_)
    simp only [List.length_map, List.length_range] at h1
    rw [List.getElem_map, List.getElem_range, List.getElem_reverse]
    show l.toArray.getD (l.length - 1 - i) 0 = _
    simp only [Array.getD, List.size_toArray]
    rw [dif_pos (by omega)]
    rfl
  have : c = l.reverse.toArray := by rw [← e]
  rw [this]
theorem glue (l r : List Nat) : (⟨l.toArray⟩ : Str) ++ ⟨r.toArray⟩ = ⟨(l ++ r).toArray⟩ := by
  show Str.mk (l.toArray ++ r.toArray) = _
  simp

/-- one step of a page: the lead that the step x adds -/
noncomputable def stepLead (page : List (List Nat)) (x : Int) : List Nat :=
  let last := page.getD (page.length - 1) []
  let elder := page.getD ((x.fdiv 6).fmod page.length).toNat []
  [last ++ [32], last ++ [9], last ++ [32, 9], last.dropLast, elder, last.reverse].getD (x.fmod 6).toNat []
noncomputable def pageStep (ps : List (List Nat) × List Int) (x : Int) : List (List Nat) × List Int := (ps.1 ++ [stepLead ps.1 x], ps.2 ++ [1 + (x.fdiv 36).fmod 5000])
noncomputable def page0 : List (List Nat) × List Int := ([[], [9], [9, 32, 32], [32, 9], [32, 32, 32]], [40, 70, 5000, 1, 30])
noncomputable def pageOf (script : List Int) : List (List Nat) × List Int := (script.take 4).foldl pageStep page0

noncomputable def PageOk (n : Nat) (ps : List (List Nat) × List Int) : Prop := ps.1.length = 5 + n ∧ ps.2.length = 5 + n ∧ (∀ r ∈ ps.1, r.length ≤ 3 + 2 * n ∧ ∀ c ∈ r, c = 32 ∨ c = 9) ∧ ∀ x ∈ ps.2, 1 ≤ x ∧ x ≤ 5000
theorem getD_mem_or {α : Type} (l : List α) (i : Nat) (d : α) : l.getD i d ∈ l ∨ l.getD i d = d := by
  rw [List.getD_eq_getElem?_getD]
  cases h : l[i]? with
  | none => exact .inr rfl
  | some x => exact .inl (List.mem_of_getElem? h)
theorem stepLead_ok {page : List (List Nat)} {n : Nat} (x : Int) (h : ∀ r ∈ page, r.length ≤ 3 + 2 * n ∧ ∀ c ∈ r, c = 32 ∨ c = 9) : (stepLead page x).length ≤ 3 + 2 * (n + 1) ∧ ∀ c ∈ stepLead page x, c = 32 ∨ c = 9 := by
  have hg : ∀ i, (page.getD i []).length ≤ 3 + 2 * n ∧ ∀ c ∈ page.getD i [], c = 32 ∨ c = 9 := fun i => by
    rcases getD_mem_or page i [] with q | q
    · exact h _ q
    · rw [q]; simp
  unfold stepLead
  dsimp only
  have h1 := hg (page.length - 1)
  have h2 := hg ((x.fdiv 6).fmod page.length).toNat
  generalize page.getD (page.length - 1) [] = last at h1 ⊢
  generalize page.getD ((x.fdiv 6).fmod page.length).toNat [] = elder at h2 ⊢
  rcases getD_mem_or [last ++ [32], last ++ [9], last ++ [32, 9], last.dropLast, elder, last.reverse] (x.fmod 6).toNat [] with q | q
  · generalize List.getD [last ++ [32], last ++ [9], last ++ [32, 9], last.dropLast, elder, last.reverse] (x.fmod 6).toNat [] = y at q
    simp only [List.mem_cons, List.not_mem_nil, or_false] at q
    rcases q with rfl | rfl | rfl | rfl | rfl | rfl
    · refine ⟨by simp; omega, fun c hc => ?_⟩
      simp only [List.mem_append, List.mem_singleton] at hc
      rcases hc with hc | rfl
      · exact h1.2 c hc
      · exact .inl rfl
    · refine ⟨by simp; omega, fun c hc => ?_⟩
      simp only [List.mem_append, List.mem_singleton] at hc
      rcases hc with hc | rfl
      · exact h1.2 c hc
      · exact .inr rfl
    · refine ⟨by simp; omega, fun c hc => ?_⟩
      simp only [List.mem_append, List.mem_cons, List.not_mem_nil, or_false] at hc
      rcases hc with hc | rfl | rfl
      · exact h1.2 c hc
      · exact .inl rfl
      · exact .inr rfl
    · exact ⟨by simp; omega, fun c hc => h1.2 c (List.mem_of_mem_take (List.dropLast_eq_take ▸ hc))⟩
    · exact ⟨by omega, h2.2⟩
    · exact ⟨by simp; omega, fun c hc => h1.2 c (List.mem_reverse.mp hc)⟩
  · rw [q]; simp
theorem pageStep_ok {ps : List (List Nat) × List Int} {n : Nat} (x : Int) (h : PageOk n ps) : PageOk (n + 1) (pageStep ps x) := by
  obtain ⟨h1, h2, h3, h4⟩ := h
  have h5 := stepLead_ok x h3
  refine ⟨by simp [pageStep]; omega, by simp [pageStep]; omega, fun r hr => ?_, fun y hy => ?_⟩
  · rcases List.mem_append.mp hr with hr | hr
    · have := h3 r hr
      exact ⟨by omega, this.2⟩
    · rw [List.mem_singleton.mp hr]
      exact h5
  · rcases List.mem_append.mp hy with hy | hy
    · exact h4 y hy
    · rw [List.mem_singleton.mp hy]
      have e : (x.fdiv 36).fmod 5000 = (x.fdiv 36) % 5000 := Int.fmod_eq_emod_of_nonneg _ (by omega)
      rw [e]; omega
theorem page0_ok : PageOk 0 page0 := by
  refine ⟨rfl, rfl, ?_, ?_⟩
  · decide
  · decide
theorem pages_ok : ∀ (l : List Int) {ps : List (List Nat) × List Int} {n : Nat}, PageOk n ps → PageOk (n + l.length) (l.foldl pageStep ps)
  | [], _, _, h => h
  | x :: l, ps, n, h => by
    have := pages_ok l (pageStep_ok x h)
    rw [List.foldl_cons, List.length_cons]
    have e : n + (l.length + 1) = n + 1 + l.length := by omega
    rw [e]; exact this

theorem strs_pair : ∀ {vs : List Value} {page : List (List Nat)}, StrsAre vs (page.map fun r => (⟨r.toArray⟩ : Str)) → Paired (fun (v : Value) (r : List Nat) => ∃ t, v = .str ⟨r.toArray⟩ t) vs page
  | vs, [], h => by cases h; exact .nil
  | vs, r :: page, h => by
    cases h with
    | cons y t h => exact .cons ⟨t, rfl⟩ (strs_pair h)
theorem TurnQ.go2 {h₀ : Heap} {L : Addr} {J : (Str → Option Value) → List (Addr × Obj) → Prop} {I : Addr} {oI : Obj} {a b r : Addr × Obj} {s : Shared} {Q : Flow → Shared → Prop} {h' : Heap} {tk : Nat} {m' : Str → Option Value} {nx : List (Addr × Obj)}
    (F : Fr h₀ L h' m') (N : News h₀ L h' (a :: b :: (I, oI) :: r :: nx)) (hne : ∀ p ∈ nx, p.1 ≠ I) (hJ : J m' nx) : TurnQ h₀ L J I oI [r] s Q .next { s with heap := h', toks := tk } :=
  TurnQ.go F N nx (fun p hp => .tail _ (.tail _ hp)) hne hJ

theorem fmod_bd (y : Int) {n : Nat} (h0 : 0 < n) (h9 : n ≤ 9) : 0 ≤ y.fmod (n : Int) ∧ y.fmod (n : Int) < (n : Int) ∧ y.fmod (n : Int) < 2 ^ 63 := by
  rw [Int.fmod_eq_emod_of_nonneg _ (by omega)]
  have h1 := Int.emod_nonneg y (b := (n : Int)) (by omega)
  have h2 := Int.emod_lt_of_pos y (b := (n : Int)) (by omega)
  exact ⟨h1, h2, by omega⟩
theorem six_bd (x : Int) : 0 ≤ x.fmod 6 ∧ x.fmod 6 < 6 := by
  rw [Int.fmod_eq_emod_of_nonneg _ (by omega)]; omega
theorem six_long {y : Int} (h : 0 ≤ y ∧ y < 6) : y < 2 ^ 63 := by omega
theorem six_cases {y : Int} (h : 0 ≤ y ∧ y < 6) : y = 0 ∨ y = 1 ∨ y = 2 ∨ y = 3 ∨ y = 4 ∨ y = 5 := by omega
/-- between the turns over the script's first numbers -/
inductive PageJ (l DL : Addr) (pz : List (List Nat) × List Int) (m : Str → Option Value) (news : List (Addr × Obj)) : Prop
  | mk (vx vl ve : Option Value) (P Z : Addr) (ps zs : List Value) (eP eZ : Nat) (hm : m = fm [("x", vx), ("last", vl), ("elder", ve), ("page", some (.ref P)), ("sizes", some (.ref Z)), ("script", some (.ref l))])
    (hn : news = [(Z, listOf zs.toArray eZ), (P, listOf ps.toArray eP)]) (hP : StrsAre ps (pz.1.map fun r => ⟨r.toArray⟩)) (hZ : IntsAre zs pz.2) (hPZ : @LT.lt Nat _ P Z) (hZD : @LT.lt Nat _ Z DL) : PageJ l DL pz m news

set_option maxHeartbeats 8000000 in
theorem page_spec {w : World} {mean : ExcName → Option Value} {mg mb : Str → Option Value} {base : Heap} {outer : List Env} {dp un : Nat} {gd : Option (List Code)} {s : Shared} {Q E : Value → Shared → Prop}
    (G : Gd w mean mg mb (aA dp un gd outer) base outer s.heap) (hdp : dp + 5 < recursionLimit) (hun : un + 50 < cLine)
    {l : Addr} {script : List Int} (hs : IntsAt s.heap l script) (hlen : script.length ≤ 1000000)
    (hret : ∀ (a p z : Addr) (ps zs : List Value) (eP eZ : Nat) (h' : Heap) (tk' : Nat), Kp s.heap h' → h'.get? a = some { cls := .type "tuple", data := .seq #[.ref p, .ref z] } → h'.get? p = some (listOf ps.toArray eP) → h'.get? z = some (listOf zs.toArray eZ) →
      Paired (fun (v : Value) (r : List Nat) => ∃ t, v = .str ⟨r.toArray⟩ t) ps (pageOf script).1 → IntsAre zs (pageOf script).2 → s.heap.get? a = none → s.heap.get? p = none → s.heap.get? z = none → @LT.lt Nat _ p z → @LT.lt Nat _ z a → Q (.ref a) { s with heap := h', toks := tk' }) :
    wpAny (model PySem.Challenge.rw_pg0146_01.row.prog w) (aA dp un gd outer) (call (.ref 101) [.ref l]) Q E s := by
  w_top off
  obtain ⟨X, T, B⟩ := id G
  revert X; k_fill; intro X
  refine enter0 (binds := [("script", .ref l)]) G (by omega) (by k_dflt k_is) (by k_dflt k_is) (BindsTo.of_eq rfl) (locs rfl) [("script", some (.ref l))] rfl ?_ rfl rfl rfl (by decide)
  intro L' h₁ tk F' N'
  have hroom : Unit → _ := fun _ => And.intro hdp hun
  clear hdp hun
  obtain ⟨sv, hsl, hsI⟩ := hs
  repeat' (
    (fail_if_success (with_reducible show wpAny _ _ (exec (Stmt.For _ _ _ _ _) _) _ _ _));
    (fail_if_success (with_reducible show wpAny _ _ (exec (Stmt.Try _ _ _ _ _) _) _ _ _));
    (fail_if_success (with_reducible show wpAny _ _ (exec (Stmt.While _ _ _ _) _) _ _ _));
    (fail_if_success (with_reducible show wpAny _ _ (eval (Expr.ListComp _ _ _ _) _) _ _ _));
    (fail_if_success (with_reducible show wpAny _ _ (exec (Stmt.Assign _ (Expr.ListComp _ _ _ _) _) _) _ _ _));
    (fail_if_success (with_reducible show wpAny _ _ (PySem.call (Value.ref _) _ _) _ _ _));
    (fail_if_success (with_reducible show wpAny _ _ (pyIter _) _ _ _));
    (fail_if_success (with_reducible show TurnQ _ _ _ _ _ _ _ _ _ _));
    (first | walk1 | (dsimp only; walk1)); (first | (with_reducible show wpAny _ _ (subscriptTail _ _ _ _) _ _ _) | (try dsimp only)))
  refine For_invV s.heap rfl rfl ?_ (fun _ => rfl) PassesOwn.never
  repeat' (
    (fail_if_success (with_reducible show wpAny _ _ (exec (Stmt.For _ _ _ _ _) _) _ _ _));
    (fail_if_success (with_reducible show wpAny _ _ (exec (Stmt.Try _ _ _ _ _) _) _ _ _));
    (fail_if_success (with_reducible show wpAny _ _ (exec (Stmt.While _ _ _ _) _) _ _ _));
    (fail_if_success (with_reducible show wpAny _ _ (eval (Expr.ListComp _ _ _ _) _) _ _ _));
    (fail_if_success (with_reducible show wpAny _ _ (exec (Stmt.Assign _ (Expr.ListComp _ _ _ _) _) _) _ _ _));
    (fail_if_success (with_reducible show wpAny _ _ (PySem.call (Value.ref _) _ _) _ _ _));
    (fail_if_success (with_reducible show wpAny _ _ (pyIter _) _ _ _));
    (fail_if_success (with_reducible show TurnQ _ _ _ _ _ _ _ _ _ _));
    (first | walk1 | (dsimp only; walk1)); (first | (with_reducible show wpAny _ _ (subscriptTail _ _ _ _) _ _ _) | (try dsimp only)))
  rename Fr _ _ _ _ => F2
  rename News _ _ _ _ => N2
  rename IntsAre _ (List.take 4 script) => hI2
  rename _ ∧ _ ∧ _ => hl2
  rename_i DL wsl hh4 hC4 hL4
  refine listN_loop (fun i => PageJ l DL ((script.take i).foldl pageStep page0)) rfl rfl (News.il N2 (.head _)) F2 (News.sub N2 (nx := [_, _, _]) (List.forall_mem_cons.mpr ⟨.head _, List.forall_mem_cons.mpr ⟨.tail _ (.tail _ (.head _)), List.forall_mem_cons.mpr ⟨.tail _ (.tail _ (.tail _ (.head _))), List.forall_mem_nil _⟩⟩⟩)) ⟨none, none, none, _, _, _, _, _, _, by (first | (refine fm_s1 ?_; rfl) | (refine fm_s2 ?_; rfl) | (refine fm_s3 ?_; rfl) | (refine fm_s4 ?_; rfl) | (refine fm_s5 ?_; rfl) | (refine fm_s6 ?_; rfl)), rfl, ?_, ?_, ?_, hl2.2.1⟩ ?_ ?_
  · have e : (((script.take 0).foldl pageStep page0).1.map fun r => (⟨r.toArray⟩ : Str)) = [Str.ofString "", Str.ofString "\t", Str.ofString "\t  ", Str.ofString " \t", Str.ofString "   "] := by
      rw [List.take_zero]; decide
    rw [e]
    exact .cons _ _ (.cons _ _ (.cons _ _ (.cons _ _ (.cons _ _ .nil))))
  · exact .cons _ _ (.cons _ _ (.cons _ _ (.cons _ _ (.cons _ _ .nil))))
  · first | assumption | omega
  · rintro i v m₁ news₁ h3 tk3 I oI hv hne hJ F N
    obtain ⟨vx, vl, ve, P, Z, ps, zs, eP, eZ, rfl, rfl, hP, hZ, hPZ, hZD⟩ := hJ
    obtain ⟨x, hx, tx, rfl⟩ := IntsAre.at? hI2 i v (by simpa using hv)
    have hi4 : i < 4 ∧ script[i]? = some x := by
      have h1 := (List.getElem?_eq_some_iff.mp hx).1
      rw [List.length_take] at h1
      refine ⟨by omega, ?_⟩
      rwa [List.getElem?_take_of_lt (by omega)] at hx
    have hok := pages_ok (script.take i) page0_ok
    have htl : (script.take i).length = i := by
      have := (List.getElem?_eq_some_iff.mp hi4.2).1
      rw [List.length_take]; omega
    rw [htl, Nat.zero_add] at hok
    have e1 : script.take (i + 1) = script.take i ++ [x] := by simp [List.take_add_one, hi4.2]
    rw [e1, List.foldl_append]
    generalize (script.take i).foldl pageStep page0 = pz at hP hZ hok ⊢
    obtain ⟨pg, sz⟩ := pz
    obtain ⟨hk1, hk2, hk3, hk4⟩ := hok
    dsimp only at hP hZ hk1 hk2 hk3 hk4
    have hml : (pg.map fun r => (⟨r.toArray⟩ : Str)).length ≤ 9 := by rw [List.length_map]; omega
    have hml0 : 0 < (pg.map fun r => (⟨r.toArray⟩ : Str)).length := by rw [List.length_map]; omega
    generalize hgS : (pg.map fun r => (⟨r.toArray⟩ : Str)) = ss at hP hml hml0
    simp only [List.cons_append, List.nil_append] at N
    have hP2 : Unit → StrsAre ps ss := fun _ => hP
    have hget : ∀ j, ss.getD j Str.empty = ⟨(pg.getD j []).toArray⟩ := fun j => by
      rw [← hgS, List.getD_eq_getElem?_getD, List.getElem?_map, List.getD_eq_getElem?_getD]
      cases pg[j]? with
      | none => rfl
      | some r => rfl
    have hlenL : ∀ j, (ss.getD j Str.empty).length ≤ 9 := fun j => by
      rw [hget]
      show (pg.getD j []).toArray.size ≤ 9
      rw [List.size_toArray]
      rcases getD_mem_or pg j [] with q | q
      · have := (hk3 _ q).1; omega
      · rw [q]; simp
    refine turn_of fun QT hgo => ?_
    repeat' (
      (fail_if_success (with_reducible show wpAny _ _ (exec (Stmt.For _ _ _ _ _) _) _ _ _));
      (fail_if_success (with_reducible show wpAny _ _ (subscriptTail _ _ (Value.ref _) (Value.int _ _)) _ _ _));
      (fail_if_success (with_reducible show wpAny _ _ (PySem.call (Value.ref _) _ _) _ _ _));
      (fail_if_success (with_reducible show wpAny _ _ (pyIter _) _ _ _));
      (fail_if_success (with_reducible show TurnQ _ _ _ _ _ _ _ _ _ _));
      (first | walk1 | (dsimp only; walk1)); (first | (with_reducible show wpAny _ _ (subscriptTail _ _ _ _) _ _ _) | (try dsimp only)))
    refine item_strs_neg (News.il N (.tail _ (.tail _ (.tail _ (.head _))))) (hP2 ()) (by omega) (by omega) (by omega) ?_
    intro tL
    have hLL := hlenL (-1 + (ss.length : Int)).toNat
    have eLL := hget (-1 + (ss.length : Int)).toNat
    generalize ss.getD (-1 + (ss.length : Int)).toNat Str.empty = last at hLL eLL ⊢
    repeat' (
      (fail_if_success (with_reducible show wpAny _ _ (exec (Stmt.For _ _ _ _ _) _) _ _ _));
      (fail_if_success (with_reducible show wpAny _ _ (subscriptTail _ _ (Value.ref _) (Value.int _ _)) _ _ _));
      (fail_if_success (with_reducible show wpAny _ _ (PySem.call (Value.ref _) _ _) _ _ _));
      (fail_if_success (with_reducible show wpAny _ _ (pyIter _) _ _ _));
      (fail_if_success (with_reducible show TurnQ _ _ _ _ _ _ _ _ _ _));
      (first | walk1 | (dsimp only; walk1)); (first | (with_reducible show wpAny _ _ (subscriptTail _ _ _ _) _ _ _) | (try dsimp only)))
    refine KTb.item_list (News.il N (.tail _ (.tail _ (.tail _ (.head _))))) (hP2 ()) ?_ ?_ ?_ ?_
    · exact (fmod_bd (x.fdiv 6) hml0 hml).1
    · exact (fmod_bd (x.fdiv 6) hml0 hml).2.1
    · exact (fmod_bd (x.fdiv 6) hml0 hml).2.2
    intro tE _
    have hEL := hlenL ((x.fdiv 6).fmod (ss.length : Int)).toNat
    have eEL := hget ((x.fdiv 6).fmod (ss.length : Int)).toNat
    generalize ss.getD ((x.fdiv 6).fmod (ss.length : Int)).toNat Str.empty = elder at hEL eEL ⊢
    repeat' (
      (fail_if_success (with_reducible show wpAny _ _ (exec (Stmt.For _ _ _ _ _) _) _ _ _));
      (fail_if_success (with_reducible show wpAny _ _ (subscriptTail _ _ (Value.ref _) (Value.int _ _)) _ _ _));
      (fail_if_success (with_reducible show wpAny _ _ (PySem.call (Value.ref _) _ _) _ _ _));
      (fail_if_success (with_reducible show wpAny _ _ (pyIter _) _ _ _));
      (fail_if_success (with_reducible show TurnQ _ _ _ _ _ _ _ _ _ _));
      (first | walk1 | (dsimp only; walk1)); (first | (with_reducible show wpAny _ _ (subscriptTail _ _ _ _) _ _ _) | (try dsimp only)))
    rename Fr _ _ _ _ => F6
    rename News _ _ _ _ => N6
    have hx6 := six_bd x
    refine KTb.item_list (News.il N6 (.head _)) (.cons _ _ (.cons _ _ (.cons _ _ (.cons _ _ (.cons _ _ (.cons _ _ .nil)))))) hx6.1 hx6.2 (six_long hx6) ?_
    intro tN _
    have eNew : ∀ u, List.getD [last ++ Str.ofString " ", last ++ Str.ofString "\t", last ++ Str.ofString " \t", Txt.slice last none (some (-1)), elder, Txt.sliceBy last none none (-1, u)] (x.fmod 6).toNat Str.empty = ⟨(stepLead pg x).toArray⟩ := fun u => by
      have sl : ss.length = pg.length := by rw [← hgS, List.length_map]
      have e1 : (-1 + (ss.length : Int)).toNat = pg.length - 1 := by omega
      rw [e1] at eLL
      rw [sl] at eEL
      rw [eLL, eEL, cut_last, turned]
      have b1 : Str.ofString " " = ⟨([32] : List Nat).toArray⟩ := by decide
      have b2 : Str.ofString "\t" = ⟨([9] : List Nat).toArray⟩ := by decide
      have b3 : Str.ofString " \t" = ⟨([32, 9] : List Nat).toArray⟩ := by decide
      rw [b1, b2, b3, glue, glue, glue]
      unfold stepLead
      dsimp only
      rcases six_cases hx6 with q | q | q | q | q | q <;> rw [q] <;> rfl
    have hok' := pageStep_ok x (ps := (pg, sz)) (n := i) ⟨hk1, hk2, hk3, hk4⟩
    dsimp only
    rw [eNew]
    generalize hNS : (⟨(stepLead pg x).toArray⟩ : Str) = ns
    clear eNew eLL eEL
    repeat' (
      (fail_if_success (with_reducible show wpAny _ _ (exec (Stmt.For _ _ _ _ _) _) _ _ _));
      (fail_if_success (with_reducible show wpAny _ _ (subscriptTail _ _ (Value.ref _) (Value.int _ _)) _ _ _));
      (fail_if_success (with_reducible show wpAny _ _ (PySem.call (Value.ref _) _ _) _ _ _));
      (fail_if_success (with_reducible show wpAny _ _ (pyIter _) _ _ _));
      (fail_if_success (with_reducible show TurnQ _ _ _ _ _ _ _ _ _ _));
      (first | walk1 | (dsimp only; walk1)); (first | (with_reducible show wpAny _ _ (subscriptTail _ _ _ _) _ _ _) | (try dsimp only)))
    rename _ ∧ _ ∧ _ ∧ _ ∧ _ => hl6
    rename I < _ ∧ _ ∧ _ ∧ _ => hlD
    have hPI := hne _ (.tail _ (.head _))
    have hZI := hne _ (.head _)
    refine append_K F6 N6 (.tail (Nat.ne_of_gt hl6.2.2.2.2) (.tail (Nat.ne_of_gt hlD.2.2.2) (.tail (Ne.symm hPI) (.tail (Nat.ne_of_gt (Nat.lt_trans hPZ hZD)) (.tail (Nat.ne_of_gt hPZ) (.head (List.forall_mem_nil _))))))) ?_ ?_
    · intro h9 F9 N9
      clear F6 N6
      repeat' (
        (fail_if_success (with_reducible show wpAny _ _ (exec (Stmt.For _ _ _ _ _) _) _ _ _));
        (fail_if_success (with_reducible show wpAny _ _ (subscriptTail _ _ (Value.ref _) (Value.int _ _)) _ _ _));
        (fail_if_success (with_reducible show wpAny _ _ (PySem.call (Value.ref _) _ _) _ _ _));
        (fail_if_success (with_reducible show wpAny _ _ (pyIter _) _ _ _));
        (fail_if_success (with_reducible show TurnQ _ _ _ _ _ _ _ _ _ _));
        (first | walk1 | (dsimp only; walk1)); (first | (with_reducible show wpAny _ _ (subscriptTail _ _ _ _) _ _ _) | (try dsimp only)))
      refine append_K F9 N9 (.tail (Nat.ne_of_gt hl6.2.2.2.1) (.tail (Nat.ne_of_gt hlD.2.2.1) (.tail (Ne.symm hZI) (.tail (Nat.ne_of_gt hZD) (.head (List.forall_mem_cons.mpr ⟨Nat.ne_of_lt hPZ, List.forall_mem_nil _⟩)))))) ?_ ?_
      · intro h10 F10 N10
        clear F9 N9
        repeat' (
          (fail_if_success (with_reducible show wpAny _ _ (exec (Stmt.For _ _ _ _ _) _) _ _ _));
          (fail_if_success (with_reducible show wpAny _ _ (subscriptTail _ _ (Value.ref _) (Value.int _ _)) _ _ _));
          (fail_if_success (with_reducible show wpAny _ _ (PySem.call (Value.ref _) _ _) _ _ _));
          (fail_if_success (with_reducible show wpAny _ _ (pyIter _) _ _ _));
          (fail_if_success (with_reducible show TurnQ _ _ _ _ _ _ _ _ _ _));
          (first | walk1 | (dsimp only; walk1)); (first | (with_reducible show wpAny _ _ (subscriptTail _ _ _ _) _ _ _) | (try dsimp only)))
        rename Fr _ _ _ _ => F11
        rename News _ _ _ _ => N11
        rw [List.push_toArray, List.push_toArray] at N11
        refine hgo _ _ (TurnQ.go2 F11 N11 (List.forall_mem_cons.mpr ⟨hZI, List.forall_mem_cons.mpr ⟨hPI, List.forall_mem_nil _⟩⟩) ?_)
        refine ⟨_, _, _, P, Z, _, _, _, _, by (first | (refine fm_s1 ?_; rfl) | (refine fm_s2 ?_; rfl) | (refine fm_s3 ?_; rfl) | (refine fm_s4 ?_; rfl) | (refine fm_s5 ?_; rfl) | (refine fm_s6 ?_; rfl)), rfl, ?_, ?_, hPZ, hZD⟩
        · show StrsAre _ ((pg ++ [stepLead pg x]).map _)
          rw [List.map_append, hgS, List.map_singleton, hNS]
          exact kct_snoc (hP2 ())
        · show IntsAre _ (sz ++ [1 + (x.fdiv 36).fmod 5000])
          exact intsAre_append hZ (.cons _ _ .nil)
      · have := hZ.length
        rw [List.size_toArray, this, hk2]
        exact Nat.le_trans (Nat.add_le_add_left (Nat.le_of_lt hi4.1) 5) (by decide)
    · have := (hP2 ()).length
      rw [List.size_toArray, this]
      exact Nat.le_trans hml (by decide)
  · rintro m₁ news₁ h3 tk3 ⟨vx, vl, ve, P, Z, ps, zs, eP, eZ, rfl, rfl, hP, hZ, hPZ, hZD⟩ F N
    repeat' (
      (fail_if_success (with_reducible show wpAny _ _ (exec (Stmt.For _ _ _ _ _) _) _ _ _));
      (fail_if_success (with_reducible show wpAny _ _ (exec (Stmt.Try _ _ _ _ _) _) _ _ _));
      (fail_if_success (with_reducible show wpAny _ _ (exec (Stmt.While _ _ _ _) _) _ _ _));
      (fail_if_success (with_reducible show wpAny _ _ (eval (Expr.ListComp _ _ _ _) _) _ _ _));
      (fail_if_success (with_reducible show wpAny _ _ (exec (Stmt.Assign _ (Expr.ListComp _ _ _ _) _) _) _ _ _));
      (fail_if_success (with_reducible show wpAny _ _ (PySem.call (Value.ref _) _ _) _ _ _));
      (fail_if_success (with_reducible show wpAny _ _ (pyIter _) _ _ _));
      (fail_if_success (with_reducible show TurnQ _ _ _ _ _ _ _ _ _ _));
      (first | walk1 | (dsimp only; walk1)); (first | (with_reducible show wpAny _ _ (subscriptTail _ _ _ _) _ _ _) | (try dsimp only)))
    rename Fr _ _ _ _ => F4
    rename News _ _ _ _ => N4
    rename ∀ _, _ ∈ _ → _ < _ => hl4
    have hsz : wsl.toArray.size = min 4 script.length := by
      have := hI2.length
      rw [List.size_toArray, this, List.length_take]
    have e4 : script.take wsl.toArray.size = script.take 4 := by
      rw [hsz, Nat.min_def]
      split
      · rfl
      · rw [List.take_of_length_le (by omega), List.take_of_length_le (by omega)]
    rw [e4] at hP hZ
    refine hret _ P Z ps zs eP eZ _ _ F4.keep (N4 _ (.head _)).1 (N4 _ (.tail _ (.tail _ (.tail _ (.head _))))).1 (N4 _ (.tail _ (.tail _ (.head _)))).1 (strs_pair hP) hZ (N4 _ (.head _)).2.2 (N4 _ (.tail _ (.tail _ (.tail _ (.head _))))).2.2 (N4 _ (.tail _ (.tail _ (.head _)))).2.2 hPZ (hl4 _ (.tail _ (.head _)))

/-! the plain law, part one: less and the columns -/
theorem colOf_snoc (ts : Int) (l : List Nat) (c : Nat) : colOf ts (l ++ [c]) = colStep ts (colOf ts l) c := by simp [colOf]
theorem pad_getD (st : Wst) (i : Nat) : st.pad.getD i 0 = st.count.getD i 0 := by
  unfold Wst.pad
  split
  · simp only [List.getD_eq_getElem?_getD]
    by_cases h : i < st.count.length
    · rw [List.getElem?_append_left h]
    · rw [List.getElem?_append_right (by omega), List.getElem?_replicate]
      rw [List.getElem?_eq_none (l := st.count) (by omega)]
      split <;> rfl
  · rfl
theorem ilN_more (ts : Nat) (cnt : List Int) : ∀ (d k : Nat), cnt.length ≤ ts + k → ilN ts cnt (k + d) = ilN ts cnt k
  | 0, k, _ => rfl
  | d + 1, k, h => by
    show ilN ts cnt (k + d) + _ * cnt.getD (ts + (k + d)) 0 = _
    rw [ilN_more ts cnt d k h]
    have : cnt.getD (ts + (k + d)) 0 = 0 := by
      rw [List.getD_eq_getElem?_getD, List.getElem?_eq_none (by omega)]; rfl
    rw [this]; simp
theorem ilN_at (ts : Nat) (cnt : List Int) {k : Nat} (h : cnt.length - ts ≤ k) : ilN ts cnt k = ilN ts cnt (cnt.length - ts) := by
  have := ilN_more ts cnt (k - (cnt.length - ts)) (cnt.length - ts) (by omega)
  rw [← this]; congr 1; omega
theorem ilN_bump (ts : Nat) (hts : 0 < ts) (cnt cnt' : List Int) (b : Nat) (h : ∀ i, cnt'.getD i 0 = cnt.getD i 0 + if i = b then 1 else 0) : ∀ k, ilN ts cnt' k = ilN ts cnt k + if ts ≤ b ∧ b < ts + k then ((b / ts : Nat) : Int) else 0
  | 0 => by rw [if_neg (by omega)]; rfl
  | k + 1 => by
    show ilN ts cnt' k + _ * cnt'.getD (ts + k) 0 = ilN ts cnt k + _ * cnt.getD (ts + k) 0 + _
    rw [ilN_bump ts hts cnt cnt' b h k, h]
    have e : ((ts : Int) + k).fdiv ts = (((ts + k) / ts : Nat) : Int) := by
      rw [Int.fdiv_eq_ediv_of_nonneg _ (by omega)]; norm_cast
    rw [e]
    by_cases hb : ts + k = b
    · subst hb
      rw [if_pos rfl, if_neg (by omega), if_pos (by omega), Int.mul_add, Int.mul_one]; omega
    · rw [if_neg hb, Int.add_zero]
      by_cases hq : ts ≤ b ∧ b < ts + k
      · rw [if_pos hq, if_pos (by omega)]; omega
      · rw [if_neg hq, if_neg (by omega)]; omega
theorem level_col (l : List Nat) (ts : Nat) (hts : 0 < ts) (hl : ∀ c ∈ l, c = 32 ∨ c = 9) : (wst l).level ts = colOf ts l := by
  revert hl
  refine snoc_ind (P := fun l => (∀ c ∈ l, c = 32 ∨ c = 9) → (wst l).level ts = colOf ts l) ?_ ?_ l
  · intro _
    simp [wst, Wst.level, colOf, ilN]
  · intro l c ih hl
    have ih := ih fun x hx => hl x (List.mem_append_left _ hx)
    rw [wst_snoc, colOf_snoc, ← ih]
    unfold Wst.step colStep
    by_cases h : c = 32
    · rw [if_pos h, if_pos h]
      simp only [Wst.level]
      omega
    · rw [if_neg h, if_neg h]
      generalize wst l = st
      have hb := ilN_bump ts hts st.count (st.pad.set st.b (st.pad.getD st.b 0 + 1)) st.b (fun i => by
        rw [← pad_getD st i]
        simp only [List.getD_eq_getElem?_getD, List.getElem?_set]
        have := st.pad_len
        by_cases hi : st.b = i
        · subst hi
          rw [if_pos rfl, if_pos (by omega), if_pos rfl]; rfl
        · rw [if_neg hi, if_neg (Ne.symm hi)]; simp)
      simp only [Wst.level, List.length_set, st.pad_len]
      have h1 := ilN_at ts st.count (k := max st.count.length (st.b + 1) - ts) (by omega)
      rw [hb, h1]
      generalize ilN ts st.count (st.count.length - ts) = il
      have e : (if ts ≤ st.b ∧ st.b < ts + (max st.count.length (st.b + 1) - ts) then ((st.b / ts : Nat) : Int) else 0) = ((st.b / ts : Nat) : Int) := by
        split
        · rfl
        · rw [Nat.div_eq_of_lt (by omega)]; rfl
      rw [e]
      have e2 : ((st.b : Int) + ts * (il + st.nt)).fdiv ts = ((st.b / ts : Nat) : Int) + (il + st.nt) := by
        rw [Int.fdiv_eq_ediv_of_nonneg _ (by omega), Int.add_mul_ediv_left _ _ (by omega)]; norm_cast
      rw [e2]
      generalize ((st.b / ts : Nat) : Int) = q
      have : (((st.nt + 1 : Nat)) : Int) = st.nt + 1 := by omega
      rw [this]
      have e3 : (il + q + ((st.nt : Int) + 1)) = (q + (il + st.nt)) + 1 := by omega
      rw [e3, Int.mul_add, Int.mul_one, Int.mul_comm]
      simp
theorem col1 (l : List Nat) : colOf 1 l = l.length := by
  refine snoc_ind (P := fun l => colOf 1 l = l.length) rfl ?_ l
  intro l c ih
  rw [colOf_snoc, ih]
  unfold colStep
  rw [Int.fdiv_one, Int.mul_one]
  simp
/-- at a tab size above the longest run the level is blanks and tabs -/
theorem level_big (st : Wst) (ts : Nat) (h : st.count.length ≤ ts) : st.level ts = st.b + ts * st.nt := by
  unfold Wst.level
  rw [Nat.sub_eq_zero_of_le h]
  show _ + _ * ((0 : Int) + _) = _
  rw [Int.zero_add]
theorem big_step {ba bb na nb m ts : Int} (h0 : 0 ≤ ba) (h1 : bb ≤ m) (h2 : ba ≤ m) (hb : 0 ≤ bb) (hm : m + 1 ≤ ts) (h : ba + (m + 1) * na < bb + (m + 1) * nb) : ba + ts * na < bb + ts * nb := by
  have hn : na ≤ nb := by
    rcases Int.lt_or_le nb na with q | q
    · exfalso
      have : (m + 1) * (nb + 1) ≤ (m + 1) * na := Int.mul_le_mul_of_nonneg_left (by omega) (by omega)
      rw [Int.mul_add] at this
      omega
    · exact q
  have : (ts - (m + 1)) * na ≤ (ts - (m + 1)) * nb := Int.mul_le_mul_of_nonneg_left hn (by omega)
  rw [Int.sub_mul, Int.sub_mul] at this
  omega
theorem longest_bd (st : Wst) : (st.count.length : Int) ≤ st.longest + 1 ∧ (st.b : Int) ≤ st.longest := by
  unfold Wst.longest; omega
theorem lv_simple {a b : Wst} (ha : a.count.length ≤ 1) (hb : b.count.length ≤ 1) (hn : a.nt ≤ b.nt) (h1 : a.level 1 < b.level 1) {ts : Nat} (hts : 1 ≤ ts) : a.level ts < b.level ts := by
  rw [level_big a 1 ha, level_big b 1 hb] at h1
  rw [level_big a ts (Nat.le_trans ha hts), level_big b ts (Nat.le_trans hb hts)]
  have : ((ts : Int) - 1) * a.nt ≤ ((ts : Int) - 1) * b.nt := Int.mul_le_mul_of_nonneg_left (by omega) (by omega)
  rw [Int.sub_mul, Int.sub_mul] at this
  clear ha hb hn hts
  omega
theorem lv_big {a b : Wst} {m : Nat} (ca : a.longest ≤ m) (cb : b.longest ≤ m) (q : a.level (m + 1) < b.level (m + 1)) {ts : Nat} (hts : m + 1 ≤ ts) : a.level ts < b.level ts := by
  have h1 := longest_bd a
  have h2 := longest_bd b
  have c1 : a.count.length ≤ m + 1 := by omega
  have c2 : b.count.length ≤ m + 1 := by omega
  rw [level_big a _ c1, level_big b _ c2] at q
  rw [level_big a _ (Nat.le_trans c1 hts), level_big b _ (Nat.le_trans c2 hts)]
  exact big_step (m := m) (Int.natCast_nonneg _) (Int.le_trans h2.2 cb) (Int.le_trans h1.2 ca) (Int.natCast_nonneg _) (by clear q c1 c2 h1 h2 ca cb; omega) (by simpa using q)
theorem less_iff {l r : List Nat} (hl : ∀ c ∈ l, c = 32 ∨ c = 9) (hr : ∀ c ∈ r, c = 32 ∨ c = 9) (h1 : (wst l).longest ≤ 8) (h2 : (wst r).longest ≤ 8) : (wst l).Less (wst r) ↔ ∀ i : Nat, i < 9 → colOf (1 + i) l < colOf (1 + i) r := by
  have hlv : ∀ ts : Nat, 0 < ts → (wst l).level ts = colOf ts l := fun ts h => level_col l ts h hl
  have hrv : ∀ ts : Nat, 0 < ts → (wst r).level ts = colOf ts r := fun ts h => level_col r ts h hr
  have hcol : (∀ i : Nat, i < 9 → colOf (1 + i) l < colOf (1 + i) r) ↔ ∀ ts : Nat, 1 ≤ ts → ts ≤ 9 → (wst l).level ts < (wst r).level ts := by
    constructor
    · intro h ts a b
      rw [hlv ts a, hrv ts a]
      have := h (ts - 1) (by clear h; omega)
      have e : (1 : Int) + ((ts - 1 : Nat) : Int) = ts := by clear h this; omega
      rwa [e] at this
    · intro h i hi
      have := h (1 + i) (Nat.le_add_right 1 i) (by clear h; omega)
      rw [hlv _ (Nat.lt_of_lt_of_le Nat.one_pos (Nat.le_add_right 1 i)), hrv _ (Nat.lt_of_lt_of_le Nat.one_pos (Nat.le_add_right 1 i))] at this
      have e : (((1 + i : Nat)) : Int) = 1 + (i : Int) := Int.natCast_add 1 i
      rwa [e] at this
  rw [hcol]
  have n1 : (wst l).level 1 = (wst l).n := by rw [hlv 1 Nat.one_pos, (wst_bd l).2.2.1]; exact col1 l
  have n2 : (wst r).level 1 = (wst r).n := by rw [hrv 1 Nat.one_pos, (wst_bd r).2.2.1]; exact col1 r
  clear hcol hlv hrv hl hr
  generalize wst l = a at *
  generalize wst r = b at *
  constructor
  · rintro ⟨hn, hs | ⟨hs, hall⟩⟩ ts hts hts9
    · exact lv_simple hs.1 hs.2.1 hs.2.2 (by rw [n1, n2]; exact Int.ofNat_lt.mpr hn) hts
    · by_cases h3 : 2 ≤ ts
      · by_cases h2' : (ts : Int) ≤ max a.longest b.longest + 1
        · exact hall ts h3 h2'
        · obtain ⟨m, hm⟩ : ∃ m : Nat, (m : Int) = max a.longest b.longest := ⟨(max a.longest b.longest).toNat, by
            have := (longest_bd a).2
            clear n1 n2 hn hall hs h2'
            omega⟩
          have ca : a.longest ≤ m := by rw [hm]; exact Int.le_max_left ..
          have cb : b.longest ≤ m := by rw [hm]; exact Int.le_max_right ..
          rw [← hm] at hall h2'
          by_cases h4 : 2 ≤ m + 1
          · exact lv_big ca cb (hall (m + 1) h4 (by clear hall; omega)) (by clear hall; omega)
          · have e0 : m = 0 := by clear hall; omega
            subst e0
            exact lv_big ca cb (by show a.level 1 < b.level 1; rw [n1, n2]; exact Int.ofNat_lt.mpr hn) (by clear hall; omega)
      · have e : ts = 1 := by clear hall; omega
        subst e
        rw [n1, n2]; exact Int.ofNat_lt.mpr hn
  · intro h
    have hn : a.n < b.n := by
      have := h 1 (Nat.le_refl 1) (by decide)
      rw [n1, n2] at this
      exact Int.ofNat_lt.mp this
    refine ⟨hn, ?_⟩
    by_cases hs : a.count.length ≤ 1 ∧ b.count.length ≤ 1
    · refine .inl ⟨hs.1, hs.2, ?_⟩
      have h9 := h 9 (by decide) (Nat.le_refl 9)
      rw [level_big a _ (Nat.le_trans hs.1 (by decide)), level_big b _ (Nat.le_trans hs.2 (by decide))] at h9
      have hb := (longest_bd b).2
      clear h n1 n2 hn h1 hs
      omega
    · refine .inr ⟨hs, fun ts h2t hm => h ts (Nat.le_trans (by decide) h2t) ?_⟩
      have := Int.max_le.mpr ⟨h1, h2⟩
      clear h n1 n2 hn h1 h2 hs
      omega

/-! the plain law, part two: no long runs of blanks; the blocks nest -/
/-- no run of more than K blanks -/
noncomputable def Run (K : Nat) (l : List Nat) : Prop := ∀ m, List.replicate m 32 <:+: l → m ≤ K
theorem Run.mono {K K' : Nat} {l : List Nat} (h : Run K l) (hk : K ≤ K') : Run K' l := fun m hm => Nat.le_trans (h m hm) hk
theorem Run.sub {K : Nat} {l l' : List Nat} (h : Run K l) (hs : l' <:+: l) : Run K l' := fun m hm => h m (hm.trans hs)
theorem Run.rev {K : Nat} {l : List Nat} (h : Run K l) : Run K l.reverse := fun m hm => by
  refine h m ?_
  have := List.reverse_infix.mpr hm
  rwa [List.reverse_replicate, List.reverse_reverse] at this
theorem Run.snoc {K : Nat} {l : List Nat} (c : Nat) (h : Run K l) : Run (K + 1) (l ++ [c]) := fun m hm => by
  rcases List.infix_concat_iff.mp hm with hs | hi
  · cases m with
    | zero => omega
    | succ m =>
      rw [List.replicate_succ'] at hs
      rcases List.suffix_concat_iff.mp hs with e | ⟨t, e, ht⟩
      · simp at e
      · have e2 := List.append_inj_left' e rfl
        rw [← e2] at ht
        have := h m ht.isInfix
        omega
  · have := h m hi; omega
theorem Run.tab {K : Nat} {l : List Nat} (h : Run K l) : Run K (l ++ [9]) := fun m hm => by
  rcases List.infix_concat_iff.mp hm with hs | hi
  · cases m with
    | zero => omega
    | succ m =>
      rw [List.replicate_succ'] at hs
      rcases List.suffix_concat_iff.mp hs with e | ⟨t, e, ht⟩
      · simp at e
      · have := List.append_inj_right' e rfl
        simp at this
  · exact h m hi
theorem wst_suffix (l : List Nat) (hl : ∀ c ∈ l, c = 32 ∨ c = 9) : List.replicate (wst l).b 32 <:+ l := by
  revert hl
  refine snoc_ind (P := fun l => (∀ c ∈ l, c = 32 ∨ c = 9) → List.replicate (wst l).b 32 <:+ l) ?_ ?_ l
  · intro _; exact List.nil_suffix
  · intro l c ih hl
    have ih := ih fun x hx => hl x (List.mem_append_left _ hx)
    rw [wst_snoc]
    unfold Wst.step
    by_cases h : c = 32
    · rw [if_pos h, h]
      show List.replicate ((wst l).b + 1) 32 <:+ _
      rw [List.replicate_succ']
      obtain ⟨t, ht⟩ := ih
      exact ⟨t, by rw [← List.append_assoc, ht]⟩
    · rw [if_neg h]
      exact List.nil_suffix
theorem wst_run {K : Nat} (l : List Nat) (hl : ∀ c ∈ l, c = 32 ∨ c = 9) (h : Run K l) : (wst l).count.length ≤ K + 1 := by
  revert hl h
  refine snoc_ind (P := fun l => (∀ c ∈ l, c = 32 ∨ c = 9) → Run K l → (wst l).count.length ≤ K + 1) ?_ ?_ l
  · intro _ _; simp [wst]
  · intro l c ih hl h
    have hl' : ∀ c ∈ l, c = 32 ∨ c = 9 := fun x hx => hl x (List.mem_append_left _ hx)
    have hi : l <:+: l ++ [c] := (List.prefix_append l [c]).isInfix
    have ih := ih hl' (h.sub hi)
    have hb := h _ ((wst_suffix l hl').isInfix.trans hi)
    rw [wst_snoc]
    unfold Wst.step
    by_cases hc : c = 32
    · rw [if_pos hc]; exact ih
    · rw [if_neg hc]
      simp only [List.length_set, Wst.pad_len]
      omega
theorem run_longest {K : Nat} {l : List Nat} (hl : ∀ c ∈ l, c = 32 ∨ c = 9) (h : Run K l) : (wst l).longest ≤ K := by
  have h1 := wst_run l hl h
  have h2 := h _ (wst_suffix l hl).isInfix
  unfold Wst.longest
  omega
theorem run_len (l : List Nat) : Run l.length l := fun m hm => by
  have := hm.length_le
  simpa using this
/-! the blocks -/
theorem ends_uniq {R : Nat → Nat → Prop} {n : Nat} {es es' : List Nat} (h : EndsOk R n es) (h' : EndsOk R n es') : es = es' := by
  refine List.ext_getElem? fun k => ?_
  rcases Nat.lt_or_ge k n with hk | hk
  · have l1 : k < es.length := by rw [h.1]; exact hk
    have l2 : k < es'.length := by rw [h'.1]; exact hk
    have e1 : es[k]? = some es[k] := List.getElem?_eq_getElem l1
    have e2 : es'[k]? = some es'[k] := List.getElem?_eq_getElem l2
    obtain ⟨a1, a2, a3, a4⟩ := h.2 _ _ e1
    obtain ⟨b1, b2, b3, b4⟩ := h'.2 _ _ e2
    rw [e1, e2]
    rcases Nat.lt_trichotomy es[k] es'[k] with q | q | q
    · exact absurd (b3 _ a1 q) (a4 (by omega))
    · rw [q]
    · exact absurd (a3 _ b1 q) (b4 (by omega))
  · rw [List.getElem?_eq_none (by rw [h.1]; exact hk), List.getElem?_eq_none (by rw [h'.1]; exact hk)]
theorem ends_congr {R R' : Nat → Nat → Prop} {n : Nat} {es : List Nat} (h : EndsOk R n es) (hR : ∀ k j, k < n → j < n → (R k j ↔ R' k j)) : EndsOk R' n es := by
  refine ⟨h.1, fun k e he => ?_⟩
  obtain ⟨a1, a2, a3, a4⟩ := h.2 _ _ he
  exact ⟨a1, a2, fun j h1 h2 => (hR k j (by omega) (by omega)).mp (a3 j h1 h2), fun hn hr => a4 hn ((hR k e (by omega) hn).mpr hr)⟩
theorem ends_at {R : Nat → Nat → Prop} {n : Nat} {es : List Nat} (h : EndsOk R n es) {k : Nat} (hk : k < n) : k < es.getD k 0 ∧ es.getD k 0 ≤ n ∧ (∀ j, k < j → j < es.getD k 0 → R k j) ∧ (es.getD k 0 < n → ¬ R k (es.getD k 0)) := by
  have l1 : k < es.length := by rw [h.1]; exact hk
  have e1 : es[k]? = some es[k] := List.getElem?_eq_getElem l1
  have := h.2 _ _ e1
  rw [List.getD_eq_getElem?_getD, e1]; exact this
theorem nest {R : Nat → Nat → Prop} {n : Nat} {es : List Nat} (h : EndsOk R n es) (tr : ∀ a b c, R a b → R b c → R a c) {k j : Nat} (hk : k < n) (h1 : k < j) (h2 : j < es.getD k 0) : es.getD j 0 ≤ es.getD k 0 := by
  obtain ⟨a1, a2, a3, a4⟩ := ends_at h hk
  obtain ⟨b1, b2, b3, b4⟩ := ends_at h (k := j) (by omega)
  rcases Nat.lt_or_ge (es.getD k 0) (es.getD j 0) with q | q
  · exact absurd (tr _ _ _ (a3 j h1 h2) (b3 _ h2 q)) (a4 (by omega))
  · exact q
theorem depth_cnt (es : List Nat) (k : Nat) : depthOf es k = (List.range k).countP fun j => decide (k < es.getD j 0) := by
  unfold depthOf; rw [List.countP_eq_length_filter]
theorem depth_in {R : Nat → Nat → Prop} {n : Nat} {es : List Nat} (h : EndsOk R n es) (tr : ∀ a b c, R a b → R b c → R a c) {k j : Nat} (hk : k < n) (h1 : k < j) (h2 : j < es.getD k 0) : depthOf es k < depthOf es j := by
  rw [depth_cnt, depth_cnt]
  have hs : (List.range (k + 1)).countP (fun i => decide (j < es.getD i 0)) ≤ (List.range j).countP (fun i => decide (j < es.getD i 0)) := by
    refine List.Sublist.countP_le ?_
    exact List.range_sublist.mpr (by omega)
  rw [List.range_succ, List.countP_append] at hs
  have h3 : [k].countP (fun i => decide (j < es.getD i 0)) = 1 := by simp only [List.countP_singleton]; rw [if_pos (by simpa using h2)]
  have h4 : (List.range k).countP (fun i => decide (k < es.getD i 0)) ≤ (List.range k).countP (fun i => decide (j < es.getD i 0)) := by
    refine List.countP_mono_left fun i hi hp => ?_
    have hi := List.mem_range.mp hi
    have hp := of_decide_eq_true hp
    have := nest h tr (k := i) (j := k) (by omega) hi hp
    exact decide_eq_true (by omega)
  omega
theorem depth_out {R : Nat → Nat → Prop} {n : Nat} {es : List Nat} (h : EndsOk R n es) (tr : ∀ a b c, R a b → R b c → R a c) {k : Nat} (hk : k < n) (h2 : es.getD k 0 < n) : depthOf es (es.getD k 0) ≤ depthOf es k := by
  obtain ⟨a1, a2, a3, a4⟩ := ends_at h hk
  generalize hE : es.getD k 0 = e at *
  rw [depth_cnt, depth_cnt]
  obtain ⟨d, rfl⟩ : ∃ d, e = k + d := ⟨e - k, by omega⟩
  rw [List.range_add, List.countP_append]
  have h3 : ((List.range d).map (k + ·)).countP (fun j => decide (k + d < es.getD j 0)) = 0 := by
    refine List.countP_eq_zero.mpr fun i hi hp => ?_
    obtain ⟨i', hi', rfl⟩ := List.mem_map.mp hi
    have hi' := List.mem_range.mp hi'
    have hp := of_decide_eq_true hp
    by_cases h0 : i' = 0
    · subst h0
      rw [Nat.add_zero, hE] at hp; omega
    · have := nest h tr (k := k) (j := k + i') hk (by omega) (by omega)
      omega
  rw [h3, Nat.add_zero]
  refine List.countP_mono_left fun i hi hp => ?_
  have hp := of_decide_eq_true hp
  exact decide_eq_true (by omega)
/-- the page typed anew from the depths has the same blocks -/
theorem ends_depth {R : Nat → Nat → Prop} {n : Nat} {es : List Nat} (h : EndsOk R n es) (tr : ∀ a b c, R a b → R b c → R a c) : EndsOk (fun k j => depthOf es k < depthOf es j) n es := by
  refine ⟨h.1, fun k e he => ?_⟩
  have hk : k < n := by rw [← h.1]; exact (List.getElem?_eq_some_iff.mp he).1
  have ee : es.getD k 0 = e := by rw [List.getD_eq_getElem?_getD, he]; rfl
  obtain ⟨a1, a2, a3, a4⟩ := ends_at h hk
  subst ee
  exact ⟨a1, a2, fun j h1 h2 => depth_in h tr hk h1 h2, fun hn hq => by have := depth_out h tr hk hn; omega⟩
theorem depth_le {es : List Nat} {k : Nat} : depthOf es k ≤ k := by
  unfold depthOf
  refine Nat.le_trans (List.length_filter_le _ _) ?_
  simp
/-! tabs alone, blanks alone -/
theorem wst_tabs (d : Nat) : (wst (List.replicate d 9)).n = d ∧ (wst (List.replicate d 9)).nt = d ∧ (wst (List.replicate d 9)).b = 0 ∧ (wst (List.replicate d 9)).count.length ≤ 1 := by
  induction d with
  | zero => simp [wst]
  | succ d ih =>
    rw [List.replicate_succ', wst_snoc]
    unfold Wst.step
    rw [if_neg (by decide)]
    refine ⟨by simp only; omega, by simp only; omega, rfl, ?_⟩
    simp only [List.length_set, Wst.pad_len]
    omega
theorem wst_blanks (d : Nat) : (wst (List.replicate d 32)).n = d ∧ (wst (List.replicate d 32)).nt = 0 ∧ (wst (List.replicate d 32)).b = d ∧ (wst (List.replicate d 32)).count.length ≤ 1 := by
  induction d with
  | zero => simp [wst]
  | succ d ih =>
    rw [List.replicate_succ', wst_snoc]
    unfold Wst.step
    rw [if_pos rfl]
    exact ⟨by simp only; omega, by simp only; omega, by simp only; omega, ih.2.2.2⟩
theorem less_tabs (c d : Nat) : (wst (List.replicate c 9)).Less (wst (List.replicate d 9)) ↔ c < d := by
  have h1 := wst_tabs c
  have h2 := wst_tabs d
  generalize wst (List.replicate c 9) = a at *
  generalize wst (List.replicate d 9) = b at *
  constructor
  · intro h
    have := h.1; omega
  · intro h
    exact ⟨by omega, .inl ⟨by omega, by omega, by omega⟩⟩
theorem less_blanks (c d : Nat) : (wst (List.replicate c 32)).Less (wst (List.replicate d 32)) ↔ c < d := by
  have h1 := wst_blanks c
  have h2 := wst_blanks d
  generalize wst (List.replicate c 32) = a at *
  generalize wst (List.replicate d 32) = b at *
  constructor
  · intro h
    have := h.1; omega
  · intro h
    exact ⟨by omega, .inl ⟨by omega, by omega, by omega⟩⟩
/-- the page typed anew of the sign g -/
noncomputable def typed (g : Nat) (es : List Nat) : List (List Nat) := (List.range es.length).map fun k => List.replicate (depthOf es k) g
theorem typed_getD (g : Nat) (es : List Nat) {k : Nat} (hk : k < es.length) : (typed g es).getD k [] = List.replicate (depthOf es k) g := by
  unfold typed
  rw [List.getD_eq_getElem?_getD, List.getElem?_map, List.getElem?_range hk]; rfl
theorem typed_len (g : Nat) (es : List Nat) : (typed g es).length = es.length := by simp [typed]
theorem typed_ends {R : Nat → Nat → Prop} {n g : Nat} {es es' : List Nat} (hg : g = 9 ∨ g = 32) (h : EndsOk R n es) (tr : ∀ a b c, R a b → R b c → R a c) (h' : EndsOk (pageLess (typed g es)) (typed g es).length es') : es' = es := by
  rw [typed_len, h.1] at h'
  refine ends_uniq h' (ends_congr (ends_depth h tr) fun k j hk hj => ?_)
  unfold pageLess
  rw [typed_getD _ _ (by rw [h.1]; exact hk), typed_getD _ _ (by rw [h.1]; exact hj)]
  rcases hg with rfl | rfl
  · exact (less_tabs _ _).symm
  · exact (less_blanks _ _).symm
theorem typed_lead (g : Nat) (es : List Nat) (hg : g = 9 ∨ g = 32) (hn : es.length ≤ 50) : ∀ r ∈ typed g es, LeadOk r := by
  intro r hr
  obtain ⟨k, hk, rfl⟩ := List.mem_map.mp hr
  have hk := List.mem_range.mp hk
  have := @depth_le es k
  refine ⟨by rw [List.length_replicate]; omega, fun c hc => ?_⟩
  rw [(List.mem_replicate.mp hc).2]
  rcases hg with rfl | rfl
  · exact .inr rfl
  · exact .inl rfl

/-! the plain law, part three: the page's runs, the begins, the octets -/
theorem stepLead_run {page : List (List Nat)} {n : Nat} (x : Int) (h : ∀ r ∈ page, Run (3 + n) r) : Run (3 + (n + 1)) (stepLead page x) := by
  have hg : ∀ i, Run (3 + n) (page.getD i []) := fun i => by
    rcases getD_mem_or page i [] with q | q
    · exact h _ q
    · rw [q]; exact (run_len []).mono (by simp)
  unfold stepLead
  dsimp only
  have h1 := hg (page.length - 1)
  have h2 := hg ((x.fdiv 6).fmod page.length).toNat
  generalize page.getD (page.length - 1) [] = last at h1 ⊢
  generalize page.getD ((x.fdiv 6).fmod page.length).toNat [] = elder at h2 ⊢
  rcases getD_mem_or [last ++ [32], last ++ [9], last ++ [32, 9], last.dropLast, elder, last.reverse] (x.fmod 6).toNat [] with q | q
  · generalize List.getD [last ++ [32], last ++ [9], last ++ [32, 9], last.dropLast, elder, last.reverse] (x.fmod 6).toNat [] = y at q ⊢
    simp only [List.mem_cons, List.not_mem_nil, or_false] at q
    rcases q with rfl | rfl | rfl | rfl | rfl | rfl
    · exact h1.snoc 32
    · exact h1.tab.mono (by omega)
    · have := (h1.snoc 32).tab
      rwa [List.append_assoc] at this
    · exact (h1.sub (List.dropLast_prefix _).isInfix).mono (by omega)
    · exact h2.mono (by omega)
    · exact h1.rev.mono (by omega)
  · rw [q]; exact (run_len []).mono (by simp)
theorem page_run : ∀ (l : List Int) {ps : List (List Nat) × List Int} {n : Nat}, (∀ r ∈ ps.1, Run (3 + n) r) → ∀ r ∈ (l.foldl pageStep ps).1, Run (3 + (n + l.length)) r
  | [], _, _, h => h
  | x :: l, ps, n, h => by
    rw [List.foldl_cons, List.length_cons]
    have := page_run l (ps := pageStep ps x) (n := n + 1) fun r hr => by
      rcases List.mem_append.mp hr with hr | hr
      · exact (h r hr).mono (by omega)
      · rw [List.mem_singleton.mp hr]
        exact stepLead_run x h
    have e : n + (l.length + 1) = n + 1 + l.length := by omega
    rw [e]; exact this
theorem pageOf_run (script : List Int) : ∀ r ∈ (pageOf script).1, Run 7 r := by
  intro r hr
  have h0 : ∀ r ∈ page0.1, Run (3 + 0) r := by
    intro r hr
    refine (run_len r).mono ?_
    revert r; decide
  have h := page_run (script.take 4) h0 r hr
  refine h.mono ?_
  rw [List.length_take]; omega
/-- less and the columns agree on the law's page -/
theorem page_less (script : List Int) (hok : ∀ r ∈ (pageOf script).1, ∀ c ∈ r, c = 32 ∨ c = 9) (k j : Nat) : pageLess (pageOf script).1 k j ↔ colLess (pageOf script).1 k j := by
  have hg : ∀ i, (∀ c ∈ (pageOf script).1.getD i [], c = 32 ∨ c = 9) ∧ (wst ((pageOf script).1.getD i [])).longest ≤ 8 := fun i => by
    rcases getD_mem_or (pageOf script).1 i [] with q | q
    · refine ⟨hok _ q, ?_⟩
      have := run_longest (hok _ q) (pageOf_run script _ q)
      omega
    · rw [q]
      exact ⟨fun c hc => (by cases hc), (by show max ((0 : Int) - 1) 0 ≤ 8; omega)⟩
  exact less_iff (hg k).1 (hg j).1 (hg k).2 (hg j).2
theorem colLess_trans (page : List (List Nat)) (a b c : Nat) (h1 : colLess page a b) (h2 : colLess page b c) : colLess page a c := fun i hi => Int.lt_trans (h1 i hi) (h2 i hi)
/-! begins -/
noncomputable def beginsOf (sz : List Int) : List Int := (List.range (sz.length + 1)).map fun k => (sz.take k).sum
theorem begins_len (sz : List Int) : (beginsOf sz).length = sz.length + 1 := by simp [beginsOf]
theorem begins_at {sz : List Int} {k : Nat} (h : k ≤ sz.length) : (beginsOf sz).getD k 0 = (sz.take k).sum := by
  unfold beginsOf
  rw [List.getD_eq_getElem?_getD, List.getElem?_map, List.getElem?_range (by omega)]; rfl
theorem sum_snoc (l : List Int) (x : Int) : (l ++ [x]).sum = l.sum + x := by
  induction l with
  | nil => simp
  | cons y l ih => rw [List.cons_append, List.sum_cons, List.sum_cons, ih]; omega
theorem begins_succ {sz : List Int} (h1 : ∀ x ∈ sz, 1 ≤ x ∧ x ≤ 5000) {k : Nat} (h : k < sz.length) : (beginsOf sz).getD k 0 < (beginsOf sz).getD (k + 1) 0 ∧ (beginsOf sz).getD (k + 1) 0 ≤ (beginsOf sz).getD k 0 + 5000 := by
  rw [begins_at (by omega), begins_at (by omega)]
  have e : sz.take (k + 1) = sz.take k ++ [sz[k]] := by simp
  rw [e, sum_snoc]
  have := h1 sz[k] (List.getElem_mem h)
  omega
theorem begins_mono {sz : List Int} (h1 : ∀ x ∈ sz, 1 ≤ x ∧ x ≤ 5000) : ∀ (d k : Nat), k + d ≤ sz.length → (beginsOf sz).getD k 0 + d ≤ (beginsOf sz).getD (k + d) 0
  | 0, k, _ => by simp
  | d + 1, k, h => by
    have h2 := begins_mono h1 d k (by omega)
    have h3 := begins_succ h1 (k := k + d) (by omega)
    have e : k + (d + 1) = k + d + 1 := rfl
    rw [e]
    omega
theorem begins_lt {sz : List Int} (h1 : ∀ x ∈ sz, 1 ≤ x ∧ x ≤ 5000) {k j : Nat} (hk : k ≤ sz.length) (hj : j ≤ sz.length) : (beginsOf sz).getD k 0 < (beginsOf sz).getD j 0 ↔ k < j := by
  constructor
  · intro h
    rcases Nat.lt_or_ge k j with q | q
    · exact q
    · have := begins_mono h1 (k - j) j (by omega)
      have e : j + (k - j) = k := by omega
      rw [e] at this
      omega
  · intro h
    have := begins_mono h1 (j - k) k (by omega)
    have e : k + (j - k) = j := by omega
    rw [e] at this
    omega
theorem begins_bd {sz : List Int} (h1 : ∀ x ∈ sz, 1 ≤ x ∧ x ≤ 5000) : ∀ k, k ≤ sz.length → 0 ≤ (beginsOf sz).getD k 0 ∧ (beginsOf sz).getD k 0 ≤ 5000 * (k : Int)
  | 0, _ => by rw [begins_at (by omega)]; simp
  | k + 1, h => by
    have h2 := begins_bd h1 k (by omega)
    have h3 := begins_succ h1 (k := k) (by omega)
    omega
theorem begins_mem {sz : List Int} (h1 : ∀ x ∈ sz, 1 ≤ x ∧ x ≤ 5000) (hl : sz.length ≤ 9) : ∀ b ∈ beginsOf sz, 0 ≤ b ∧ b ≤ 100000 := by
  intro b hb
  obtain ⟨k, hk, rfl⟩ := List.mem_map.mp hb
  have hk := List.mem_range.mp hk
  have := begins_bd h1 k (by omega)
  rw [begins_at (by omega)] at this
  omega
/-- whether a row's block holds the place b -/
noncomputable def holds (b : Int) (r : List Int) : Bool := decide (r.getD 0 0 ≤ b) && decide (b < r.getD 0 0 + r.getD 1 0)
theorem depth_rows {R : Nat → Nat → Prop} {es : List Nat} {sz : List Int} (h : EndsOk R sz.length es) (h1 : ∀ x ∈ sz, 1 ≤ x ∧ x ≤ 5000) {k : Nat} (hk : k < sz.length) :
    ((rowsOf es (beginsOf sz)).filter (holds ((beginsOf sz).getD k 0))).length = depthOf es k := by
  rw [← List.countP_eq_length_filter, depth_cnt]
  unfold rowsOf rowsUp
  rw [List.countP_map, List.countP_filter, h.1]
  obtain ⟨d, hd⟩ : ∃ d, sz.length = k + d := ⟨sz.length - k, by omega⟩
  have key : ∀ i, i < sz.length → ((((holds ((beginsOf sz).getD k 0) ∘ rowOf es (beginsOf sz)) i) && decide (i + 1 < es.getD i 0)) = true ↔ i < k ∧ k < es.getD i 0) := fun i hi => by
    obtain ⟨a1, a2, a3, a4⟩ := ends_at h hi
    show ((holds _ (rowOf es (beginsOf sz) i)) && _) = true ↔ _
    unfold holds rowOf
    show ((decide ((beginsOf sz).getD (i + 1) 0 ≤ _) && decide (_ < (beginsOf sz).getD (i + 1) 0 + ((beginsOf sz).getD (es.getD i 0) 0 - (beginsOf sz).getD (i + 1) 0))) && _) = true ↔ _
    have e : (beginsOf sz).getD (i + 1) 0 + ((beginsOf sz).getD (es.getD i 0) 0 - (beginsOf sz).getD (i + 1) 0) = (beginsOf sz).getD (es.getD i 0) 0 := by omega
    rw [e]
    simp only [Bool.and_eq_true, decide_eq_true_eq]
    have q1 := begins_lt h1 (k := k) (j := i + 1) (by omega) (by omega)
    have q2 := begins_lt h1 (k := k) (j := es.getD i 0) (by omega) a2
    rw [q2]
    have q3 : (beginsOf sz).getD (i + 1) 0 ≤ (beginsOf sz).getD k 0 ↔ ¬ k < i + 1 := by rw [← q1]; omega
    rw [q3]
    omega
  rw [hd, List.range_add, List.countP_append]
  have z : ((List.range d).map (k + ·)).countP (fun i => ((holds ((beginsOf sz).getD k 0) ∘ rowOf es (beginsOf sz)) i) && decide (i + 1 < es.getD i 0)) = 0 := by
    refine List.countP_eq_zero.mpr fun i hi hp => ?_
    obtain ⟨i', hi', rfl⟩ := List.mem_map.mp hi
    have hi' := List.mem_range.mp hi'
    have := (key (k + i') (by omega)).mp hp
    omega
  rw [z, Nat.add_zero]
  refine List.countP_congr fun i hi => ?_
  have hi := List.mem_range.mp hi
  rw [key i (by omega)]
  simp only [decide_eq_true_eq]
  omega
theorem depths_law {R : Nat → Nat → Prop} {es : List Nat} {sz : List Int} (h : EndsOk R sz.length es) (h1 : ∀ x ∈ sz, 1 ≤ x ∧ x ≤ 5000) :
    ((beginsOf sz).dropLast.map fun b => ((rowsOf es (beginsOf sz)).filter (holds b)).length) = (List.range es.length).map (depthOf es) := by
  have e : (beginsOf sz).dropLast = (List.range sz.length).map fun k => (beginsOf sz).getD k 0 := by
    unfold beginsOf
    rw [List.range_succ, List.map_append, List.map_singleton, List.dropLast_concat]
    refine List.map_congr_left fun k hk => ?_
    have hk := List.mem_range.mp hk
    rw [List.getD_eq_getElem?_getD, List.getElem?_append_left (by simpa using hk), List.getElem?_map, List.getElem?_range hk]; rfl
  rw [e, List.map_map, h.1]
  exact List.map_congr_left fun k hk => depth_rows h h1 (List.mem_range.mp hk)
/-- every row is four numbers within the bounds -/
theorem rows_bd {R : Nat → Nat → Prop} {es : List Nat} {sz : List Int} (h : EndsOk R sz.length es) (h1 : ∀ x ∈ sz, 1 ≤ x ∧ x ≤ 5000) (hl : sz.length ≤ 9) : ∀ r ∈ rowsOf es (beginsOf sz), r.length = 4 ∧ ∀ x ∈ r, 0 ≤ x ∧ x ≤ 100000 := by
  intro r hr
  obtain ⟨k, hk, rfl⟩ := List.mem_map.mp hr
  have hk := List.mem_range.mp (List.mem_filter.mp hk).1
  rw [h.1] at hk
  obtain ⟨a1, a2, a3, a4⟩ := ends_at h hk
  refine ⟨rfl, fun x hx => ?_⟩
  have b1 := begins_bd h1 (k + 1) (by omega)
  have b2 := begins_bd h1 (es.getD k 0) a2
  have b3 := begins_bd h1 k (by omega)
  have b4 := begins_mono h1 (es.getD k 0 - (k + 1)) (k + 1) (by omega)
  have e : k + 1 + (es.getD k 0 - (k + 1)) = es.getD k 0 := by omega
  rw [e] at b4
  have b5 := @depth_le es k
  unfold rowOf at hx
  simp only [List.mem_cons, List.not_mem_nil, or_false] at hx
  rcases hx with rfl | rfl | rfl | rfl
  · omega
  · omega
  · omega
  · omega
theorem rows_len (es : List Nat) (bs : List Int) : (rowsOf es bs).length ≤ es.length := by
  unfold rowsOf rowsUp
  rw [List.length_map]
  refine Nat.le_trans (List.length_filter_le _ _) ?_
  simp
/-! the octets tell the numbers -/
noncomputable def val (v : Nat) (H : List Nat) : Nat := H.foldl (fun v h => v * 64 + h % 64) v
theorem vrun_hi : ∀ (H : List Nat) (c v z : Nat) (rest : List Nat), c / 64 % 2 = 1 → (∀ h ∈ H, h / 64 % 2 = 1) → z < 64 → vrun (H ++ z :: rest) c v = some (val v H * 64 + z, rest)
  | [], c, v, z, rest, hc, _, hz => by
    show (if c / 64 % 2 = 0 then _ else vrun rest z (v * 64 + z % 64)) = _
    rw [if_neg (by omega)]
    have ez : z % 64 = z := Nat.mod_eq_of_lt hz
    rw [ez]
    cases rest with
    | nil => show (if z / 64 % 2 = 0 then _ else _) = _; rw [if_pos (by omega)]; rfl
    | cons c' r => show (if z / 64 % 2 = 0 then _ else _) = _; rw [if_pos (by omega)]; rfl
  | h :: H, c, v, z, rest, hc, hH, hz => by
    show (if c / 64 % 2 = 0 then _ else vrun (H ++ z :: rest) h (v * 64 + h % 64)) = _
    rw [if_neg (by omega)]
    exact vrun_hi H h _ z rest (hH h (.head _)) (fun x hx => hH x (.tail _ hx)) hz
theorem hiN_nat (k : Nat) : ∃ (h0 : Nat) (H : List Nat), hiN k = (h0 :: H).map (fun (x : Nat) => (x : Int)) ∧ (∀ h ∈ h0 :: H, h < 128 ∧ h / 64 % 2 = 1) ∧ val 0 (h0 :: H) = k := by
  induction k using Nat.strongRecOn with
  | _ k ih =>
    rw [hiN_eq]
    by_cases hk : k ≤ 63
    · refine ⟨64 + k, [], by rw [if_pos hk]; simp, fun h hh => ?_, ?_⟩
      · have := List.mem_singleton.mp hh; subst this; omega
      · show 0 * 64 + (64 + k) % 64 = k; omega
    · obtain ⟨h0, H, e, hb, hv⟩ := ih (k / 64) (by omega)
      refine ⟨h0, H ++ [64 + k % 64], by rw [if_neg hk, e]; simp, fun h hh => ?_, ?_⟩
      · rw [← List.cons_append] at hh
        rcases List.mem_append.mp hh with q | q
        · exact hb h q
        · have := List.mem_singleton.mp q; subst this; omega
      · rw [← List.cons_append]
        unfold val at hv ⊢
        rw [List.foldl_append, hv]
        show k / 64 * 64 + (64 + k % 64) % 64 = k
        omega
theorem digs_nat (n : Nat) : ∃ (c : Nat) (bs : List Nat), digsN n = (c :: bs).map (fun (x : Nat) => (x : Int)) ∧ (∀ h ∈ c :: bs, h < 128) ∧ ∀ (m : Nat) (rest : List Nat), m = 0 ∨ m = 128 → vrun (bs ++ rest) (m + c) ((m + c) % 64) = some (n, rest) := by
  unfold digsN
  by_cases hn : n ≤ 63
  · refine ⟨n, [], by rw [if_pos hn]; simp, fun h hh => ?_, fun m rest hm => ?_⟩
    · have := List.mem_singleton.mp hh; subst this; omega
    · have e : (m + n) % 64 = n := by omega
      rw [e]
      cases rest with
      | nil => show (if (m + n) / 64 % 2 = 0 then _ else _) = _; rw [if_pos (by omega)]
      | cons c' r => show (if (m + n) / 64 % 2 = 0 then _ else _) = _; rw [if_pos (by omega)]
  · obtain ⟨h0, H, e, hb, hv⟩ := hiN_nat (n / 64)
    refine ⟨h0, H ++ [n % 64], by rw [if_neg hn, e]; simp, fun h hh => ?_, fun m rest hm => ?_⟩
    · rw [← List.cons_append] at hh
      rcases List.mem_append.mp hh with q | q
      · exact (hb h q).1
      · have := List.mem_singleton.mp q; subst this; omega
    · have h0b := hb h0 (.head _)
      rw [List.append_assoc]
      show vrun (H ++ n % 64 :: rest) _ _ = _
      rw [vrun_hi H (m + h0) _ (n % 64) rest (by omega) (fun x hx => (hb x (.tail _ hx)).2) (by omega)]
      have e2 : val ((m + h0) % 64) H = n / 64 := by
        rw [← hv]
        show val _ H = val (0 * 64 + h0 % 64) H
        congr 1; omega
      rw [e2]
      congr 2; omega
theorem dec_plain : ∀ (xs : List Int) (os Vs : List Nat), (∀ x ∈ xs, 0 ≤ x) → Dec os Vs → ∃ ds : List Nat, xs.flatMap digs = ds.map (fun (x : Nat) => (x : Int)) ∧ (∀ h ∈ ds, h < 128) ∧ Dec (ds ++ os) (xs.map Int.toNat ++ Vs)
  | [], os, Vs, _, hd => ⟨[], rfl, fun _ h => by (cases h), hd⟩
  | x :: xs, os, Vs, hx, hd => by
    obtain ⟨ds, e, hb, hD⟩ := dec_plain xs os Vs (fun y hy => hx y (.tail _ hy)) hd
    obtain ⟨c, bs, e2, hb2, hv⟩ := digs_nat x.toNat
    refine ⟨c :: bs ++ ds, by rw [List.flatMap_cons, e, List.map_append]; unfold digs; rw [e2], fun h hh => ?_, ?_⟩
    · rcases List.mem_append.mp hh with q | q
      · exact hb2 h q
      · exact hb h q
    · have := hv 0 (ds ++ os) (.inl rfl)
      rw [Nat.zero_add] at this
      rw [List.append_assoc, List.cons_append]
      exact .cons this hD
theorem octets_dec : ∀ (rows : List (List Int)), (∀ r ∈ rows, r ≠ [] ∧ ∀ x ∈ r, 0 ≤ x) → ∃ os : List Nat, octetsOf rows = os.map (fun (x : Nat) => (x : Int)) ∧ (∀ o ∈ os, o < 256) ∧ Dec os (rows.flatten.map Int.toNat)
  | [], _ => ⟨[], rfl, fun _ h => by (cases h), .nil⟩
  | r :: rows, h => by
    obtain ⟨os, e, hb, hD⟩ := octets_dec rows fun r hr => h r (.tail _ hr)
    obtain ⟨hne, hx⟩ := h r (.head _)
    cases r with
    | nil => exact absurd rfl hne
    | cons x xs =>
      obtain ⟨ds, e1, hb1, hD1⟩ := dec_plain xs os _ (fun y hy => hx y (.tail _ hy)) hD
      obtain ⟨c, bs, e2, hb2, hv⟩ := digs_nat x.toNat
      refine ⟨((128 + c) :: bs) ++ ds ++ os, ?_, fun o ho => ?_, ?_⟩
      · unfold octetsOf at e ⊢
        rw [List.flatMap_cons, e]
        unfold rowOct
        rw [List.flatMap_cons, e1]
        unfold digs
        rw [e2]
        simp
      · rcases List.mem_append.mp ho with q | q
        · rcases List.mem_append.mp q with q | q
          · rcases List.mem_cons.mp q with q | q
            · have := hb2 c (.head _); omega
            · have := hb2 o (.tail _ q); omega
          · have := hb1 o q; omega
        · exact hb o q
      · have := hv 128 (ds ++ os) (.inr rfl)
        rw [List.append_assoc, List.cons_append, List.flatten_cons, List.map_append, List.map_cons, List.cons_append]
        exact .cons this hD1
theorem flat_back (rows : List (List Int)) (h : ∀ r ∈ rows, ∀ x ∈ r, 0 ≤ x) : (rows.flatten.map Int.toNat).map (fun (x : Nat) => (x : Int)) = rows.flatten := by
  rw [List.map_map]
  refine (List.map_congr_left fun x hx => ?_).trans (List.map_id _)
  obtain ⟨r, hr, hx⟩ := List.mem_flatten.mp hx
  have := h r hr x hx
  show ((x.toNat : Nat) : Int) = x
  omega
theorem chunk_at : ∀ (rows : List (List Int)), (∀ r ∈ rows, r.length = 4) → ∀ (i : Nat) r, rows[i]? = some r → (rows.flatten.drop (4 * i)).take 4 = r
  | [], _, i, r, h => by simp at h
  | r0 :: rows, hl, 0, r, h => by
    have e : r0 = r := by simpa using h
    have := hl r0 (.head _)
    subst e
    simp [← this]
  | r0 :: rows, hl, i + 1, r, h => by
    have := hl r0 (.head _)
    rw [← chunk_at rows (fun r hr => hl r (.tail _ hr)) i r (by simpa using h)]
    rw [List.flatten_cons]
    have e : 4 * (i + 1) = r0.length + 4 * i := by omega
    rw [e, List.drop_append, List.drop_eq_nil_of_le (by omega)]
    simp
theorem chunk_len : ∀ (rows : List (List Int)), (∀ r ∈ rows, r.length = 4) → rows.flatten.length = 4 * rows.length
  | [], _ => rfl
  | r0 :: rows, hl => by
    have := hl r0 (.head _)
    have := chunk_len rows fun r hr => hl r (.tail _ hr)
    rw [List.flatten_cons, List.length_append, List.length_cons]; omega
theorem chunks (rows : List (List Int)) (hl : ∀ r ∈ rows, r.length = 4) : ((List.range rows.length).map fun i => (rows.flatten.drop (4 * i)).take 4) = rows := by
  refine List.ext_getElem? fun i => ?_
  rw [List.getElem?_map]
  rcases Nat.lt_or_ge i rows.length with q | q
  · rw [List.getElem?_range q, List.getElem?_eq_getElem q]
    show some ((rows.flatten.drop (4 * i)).take 4) = _
    rw [chunk_at rows hl i rows[i] (List.getElem?_eq_getElem q)]
  · rw [List.getElem?_eq_none (by simpa using q), List.getElem?_eq_none q]; rfl

section
variable {prog : Program} {w : World} {A : Around} {s : Shared}
/-- between the turns -/
inductive StrI (s : Shared) (h₀ : Heap) (L I ck : Addr) (lead : Str) (t : Tok) (m : Str → Option Value) (news : List (Addr × Obj)) (k : Nat) (s' : Shared) : Prop
  | mk (h₁ : Heap) (tk : Nat) (okc : Obj) (v₁ : Option Value) (i : Nat) (h09 : s' = { s with heap := h₁, toks := tk }) (h19 : h₁.IsStrIter I "str_ascii_iterator" lead t i) (h29 : Fr h₀ L h₁ m) (h39 : News h₀ L h₁ ((ck, okc) :: news)) (h49 : okc.data = .cell v₁) (h59 : i ≤ lead.cps.size) (h69 : k = lead.cps.size + 1 - i) : StrI s h₀ L I ck lead t m news k s'

/-- for x in '..' where x is a cell, and the body leaves the frame as it found it -/
theorem for_cell_str {env : Env} {h₀ : Heap} {L ck : Addr} {x : Str} {px pos : Pos} {iter : Expr} {body : List Stmt} {Q : Flow → Shared → Prop} {lead : Str} {m : Str → Option Value} {news : List (Addr × Obj)} {ok : Obj} {v₀ : Option Value}
    (hL : env.locals = L) (hh : A.handled = none) (hkf : env.scope.kind = .function) (hxk : env.kindOf x = some .cell) (hck : env.cells.lookup x = some ck) (ha : lead.cps.all (· < 128) = true)
    (F : Fr h₀ L s.heap m) (N : News h₀ L s.heap ((ck, ok) :: news)) (hok : ok.data = .cell v₀) (hne : ∀ p ∈ news, p.1 ≠ ck)
    (hev : ∀ Q' : Value → Shared → Prop, (∀ t tk, Q' (.str lead t) { s with toks := tk }) → wpAny (model prog w) A (eval iter env) Q' (fun _ _ => False) s)
    (turn : ∀ (i : Nat) c u h tk okc, lead.cps[i]? = some c → Fr h₀ L h m → okc.data = .cell (some (.str ⟨#[c]⟩ u)) → News h₀ L h ((ck, okc) :: news) →
      wpAny (model prog w) A (execs body env) (fun f s₂ => f = .next ∧ ∃ h' tk', s₂ = { s with heap := h', toks := tk' } ∧ Kp h h') (fun _ _ => False) { s with heap := h, toks := tk })
    (done : ∀ h tk, Fr h₀ L h m → News h₀ L h news → Q .next { s with heap := h, toks := tk })
    (hs : ∀ x, foldedSetIterable iter env x = pure x) :
    wpAny (model prog w) A (exec (.For (.Name x px) iter body [] pos) env) Q (fun _ _ => False) s := by
  subst hL
  refine wpAny_For (hev _ fun t tk₀ => ?_) hs
  refine wpAny_pyIter_ascii ha ?_
  dsimp only
  have ltA : ∀ a o, s.heap.get? a = some o → a ≠ s.heap.objs.size := fun a o e => Nat.ne_of_lt (Heap.lt_size e)
  have hcI : ck ≠ s.heap.objs.size := ltA _ _ (N _ (.head _)).1
  have hcL : ck ≠ env.locals := (N _ (.head _)).2.1
  have hc0 : h₀.get? ck = none := (N _ (.head _)).2.2
  have hLI : env.locals ≠ s.heap.objs.size := Nat.ne_of_lt F.ns.lt
  have hnI : ∀ p ∈ news, p.1 ≠ s.heap.objs.size := fun p hp => ltA _ _ (N p (.tail _ hp)).1
  have h0I : ∀ b o, h₀.get? b = some o → b ≠ s.heap.objs.size := fun b o e => ltA _ _ (F.keep b o e)
  have hst : (s.heap.push { cls := .type "str_ascii_iterator", data := .fields #[.str lead t, .int 0 0] }).IsStrIter s.heap.objs.size "str_ascii_iterator" lead t 0 := ⟨_, Heap.get?_push_size _ rfl, rfl, rfl⟩
  have up : ∀ b o, s.heap.get? b = some o → (s.heap.push { cls := .type "str_ascii_iterator", data := .fields #[.str lead t, .int 0 0] }).get? b = some o := fun b o e => Heap.get?_push_of_some _ e
  generalize s.heap.push { cls := .type "str_ascii_iterator", data := .fields #[.str lead t, .int 0 0] } = H0 at hst up ⊢
  generalize s.heap.objs.size = I at hcI hLI hnI h0I hst ⊢
  have W := Walks.strAscii (prog := prog) (w := w) (A := A) hh I lead t
  refine codeAny_forLoop_any (StrI s h₀ env.locals I ck lead t m news) ?_ (lead.cps.size + 1)
    ⟨H0, tk₀, ok, v₀, 0, rfl, hst, F.keeps up, News.keepsAll N up, hok, Nat.zero_le _, rfl⟩
  rintro k s' ⟨H, tk, okc, v₁, i, rfl, hst, F₁, N₁, hokc, hi, rfl⟩
  have next : ∀ h₁ : Heap, (∀ b o, b ∉ [I] → H.get? b = some o → h₁.get? b = some o) → Fr h₀ env.locals h₁ m ∧ News h₀ env.locals h₁ ((ck, okc) :: news) := fun h₁ hk₁ => by
    have hk₁' : ∀ b o, b ≠ I → H.get? b = some o → h₁.get? b = some o := fun b o hb e => hk₁ b o (fun q => hb (List.mem_singleton.mp q)) e
    refine ⟨⟨F₁.ns.at' fun o e => hk₁' _ o hLI e, fun b o e => hk₁' b o (h0I b o e) (F₁.keep b o e), F₁.above⟩, fun p hp => ⟨hk₁' _ _ ?_ (N₁ p hp).1, (N₁ p hp).2⟩⟩
    rcases List.mem_cons.mp hp with rfl | hp
    · exact hcI
    · exact hnI p hp
  by_cases hlt : i < lead.cps.size
  · refine W.item i _ _ _ hlt hst fun v h₁ tk₁ hPv hst₁ hk₁ => ?_
    obtain ⟨c, u, hc, rfl⟩ := hPv
    obtain ⟨F₂, N₂⟩ := next h₁ hk₁
    refine wpAny_pure ?_
    refine wpAny_assign_Name (wpAny_storeName_cell hkf hxk hck ⟨okc, (N₂ _ (.head _)).1, hokc⟩ (fun h₃ hc₃ hs₃ => ?_))
    obtain ⟨okd, hokd, hokdd⟩ := hc₃
    have oc : ∀ b o, h₀.get? b = some o → b ≠ ck := fun b o e q => by rw [q, hc0] at e; cases e
    have F₃ : Fr h₀ env.locals h₃ m := ⟨F₂.ns.sameBut hs₃ (Ne.symm hcL), fun b o e => hs₃.extBut b o (oc b o e) (F₂.keep b o e), F₂.above⟩
    have N₃ : News h₀ env.locals h₃ ((ck, okd) :: news) := by
      intro p hp
      rcases List.mem_cons.mp hp with rfl | hp
      · exact ⟨hokd, hcL, hc0⟩
      · exact ⟨hs₃.extBut _ _ (hne p hp) (N₂ p (.tail _ hp)).1, (N₂ p (.tail _ hp)).2⟩
    have hst₃ : h₃.IsStrIter I "str_ascii_iterator" lead t (i + 1) := W.frame _ _ _ hst₁ fun b hb o e => hs₃.extBut b o (fun q => by rw [List.mem_singleton.mp hb] at q; exact hcI q.symm) e
    refine wpAny_mono (turn i c u h₃ tk₁ okd hc F₃ hokdd N₃) (fun f s₃ h₄ => ?_) (fun _ _ x => x.elim)
    obtain ⟨rfl, h₄, tk₄, rfl, hk₄⟩ := h₄
    exact ⟨lead.cps.size + 1 - (i + 1), by omega, h₄, tk₄, okd, _, i + 1, rfl, W.frame _ _ _ hst₃ fun b _ o e => hk₄ b o e, F₃.keeps hk₄, News.keepsAll N₃ hk₄, hokdd, hlt, rfl⟩
  · have hin : i = lead.cps.size := by omega
    subst hin
    refine W.done _ _ _ hst fun h₁ tk₁ hk₁ => wpAny_execs_nil ?_
    obtain ⟨F₂, N₂⟩ := next h₁ hk₁
    exact done h₁ tk₁ F₂ (fun p hp => N₂ p (.tail _ hp))
end

theorem lt21 (L : Nat) : L + 1 < L + 1 + 1 := Nat.lt_succ_self _
theorem lt31 (L : Nat) : L + 1 < L + 1 + 1 + 1 := Nat.lt_succ_of_lt (Nat.lt_succ_self _)
theorem lt41 (L : Nat) : L + 1 < L + 1 + 1 + 1 + 1 := Nat.lt_succ_of_lt (Nat.lt_succ_of_lt (Nat.lt_succ_self _))
/-- a list of ints, as an object -/
inductive IntsO (o : Obj) (ns : List Int) : Prop
  | mk (vs : List Value) (k : Nat) (h1 : o.cls = .type "list") (h2 : o.data = .seq (List.toArray vs) k) (h3 : IntsAre vs ns) : IntsO o ns
theorem IntsO.at {h : Heap} {a : Addr} {o : Obj} {ns : List Int} (x : IntsO o ns) (e : h.get? a = some o) : IntsAt h a ns :=
  let ⟨vs, k, h1, h2, h3⟩ := x; ⟨vs, ⟨o, e, h1, k, h2⟩, h3⟩
theorem IntsAt.obj {h : Heap} {a : Addr} {ns : List Int} (x : IntsAt h a ns) : ∃ o, h.get? a = some o ∧ IntsO o ns :=
  let ⟨vs, ⟨o, e, h1, k, h2⟩, h3⟩ := x; ⟨o, e, vs, k, h1, h2, h3⟩
theorem IntsO.notCell {o : Obj} {ns : List Int} (x : IntsO o ns) (v : Option Value) : o.data ≠ .cell v := fun e => by
  obtain ⟨vs, k, h1, h2, h3⟩ := x
  rw [h2] at e; cases e
section
variable {h₀ h h' : Heap} {L : Addr} {m : Str → Option Value} {news : List (Addr × Obj)}
theorem fresh_ne (F : Fr h₀ L h m) {a : Addr} (hn : h.get? a = none) : a ≠ L ∧ h₀.get? a = none := by
  refine ⟨?_, Kp.none F.keep hn⟩
  rintro rfl
  obtain ⟨o', _, _, ho', _⟩ := F.ns
  rw [hn] at ho'; cases ho'
theorem News.addK (F : Fr h₀ L h m) (N : News h₀ L h news) (hk : Kp h h') {a : Addr} {o : Obj} (hn : h.get? a = none) (ho : h'.get? a = some o) : News h₀ L h' ((a, o) :: news) := by
  intro p hp
  rcases List.mem_cons.mp hp with rfl | hp
  · exact ⟨ho, fresh_ne F hn⟩
  · exact ⟨hk _ _ (N p hp).1, (N p hp).2⟩
theorem apart_of {c : Addr} : ∀ {l : List (Addr × Obj)}, (∀ p ∈ l, p.1 ≠ c ∨ ∀ v, p.2.data ≠ .cell v) → ApartOr c l
  | [], _ => trivial
  | p :: r, h => ⟨h p (.head _), apart_of fun q hq => h q (.tail _ hq)⟩
end
/-- a store to the cell c; of the ledger nx is kept -/
theorem stCell {M : Model} {A : Around} {E : Value → Shared → Prop} {s : Shared} {name : Str} {scope : Scope} {L a : Addr} {cd : Value} {h₀ : Heap} {m : Str → Option Value} {news : List (Addr × Obj)} {x : Str} {c : Addr} {o : Obj} {v₀ : Option Value} {v : Value} {Q : Unit → Shared → Prop} (nx : List (Addr × Obj))
    (F : Fr h₀ L s.heap m) (N : News h₀ L s.heap news) (hm : (c, o) ∈ news) (hc : (cellsFrom (L + 1) scope.names []).lookup x = some c) (hd : o.data = .cell v₀) (hsub : ∀ p ∈ nx, p ∈ news ∧ (p.1 ≠ c ∨ ∀ v, p.2.data ≠ .cell v))
    (h : ∀ h' o', Fr h₀ L h' m → News h₀ L h' ((c, o') :: nx) → o'.data = .cell (some v) → Q () { s with heap := h' })
    (hk : scope.kind = .function) (hl : (envOfC name scope L a cd).kindOf x = some .cell) : wpAny M A (storeName (envOfC name scope L a cd) x v) Q E s := by
  refine stCNk (own := []) (rest := nx) F (fun p hp => ?_) hc hd trivial (apart_of fun p hp => (hsub p hp).2) h hk hl
  rcases List.mem_cons.mp hp with rfl | hp
  · exact N _ hm
  · exact N p (hsub p hp).1
section
variable {prog : Program} {w : World} {A : Around} {E : Value → Shared → Prop} {s : Shared}
theorem sum_K {l : Addr} {vs : List Value} {ns : List Int} {Q : Value → Shared → Prop} (hh : A.handled = none) (hl : s.heap.IsList l vs.toArray) (hi : IntsAre vs ns)
    (h : ∀ h' tk t', Kp s.heap h' → Q (.int ns.sum t') { s with heap := h', toks := tk }) : wpAny (model prog w) A (call (.builtin "sum") [.ref l]) Q E s := by
  obtain ⟨xs, hx⟩ := hi.allInts.items
  rw [hx] at hl
  refine sum_intListG hh hl fun h' tk t' hk => ?_
  have e : ns.sum = preSum (numAt xs) xs.size := by
    rw [preSum_eq, List.take_of_length_le (by simp), ← nums_intItems, ← hx]
    rw [show vs.toArray.toList = vs from rfl, hi.numsOf]
  rw [← e]
  exact h h' tk t' hk
end
section
variable {prog : Program} {w : World} {A : Around} {E : Value → Shared → Prop} {s : Shared}
theorem slice_K {H : Heap} {tk : Nat} {value slice : Expr} {l : Addr} {vs : List Value} {ms : List Int} {vl vu : Value} {lo hi : Option Int} {Q : Value → Shared → Prop}
    (hl : H.IsList l vs.toArray) (pl : IsPart vl lo) (pu : IsPart vu hi) (hm : IntsAre (slicePick vs.toArray lo hi none).toList ms) (hsz : vs.length ≤ 100000)
    (h : ∀ D ws h', Kp H h' → H.get? D = none → h'.get? D = some (listOf (List.toArray ws) 0) → IntsAre ws ms → Q (.ref D) { s with heap := h', toks := tk })
    (hs : subscripted slice false (.ref l) (.ref H.objs.size) = operate [.ref H.objs.size, .ref l] (getItem (.ref l) (.ref H.objs.size)) := by with_unfolding_all rfl)
    (ht : ∀ r, letTemporaryGo value (.ref l) r = pure () := by intro _; with_unfolding_all rfl) :
    wpAny (model prog w) A (subscriptTail value slice (.ref l) (.ref H.objs.size)) Q E { s with heap := H.push { cls := .type "slice", data := .fields #[vl, vu, .none] }, toks := tk } := by
  have hsz' : vs.toArray.size ≤ sizeLine := by
    rw [List.size_toArray]; exact Nat.le_trans hsz (by decide)
  refine subscriptTail_ops (Heap.IsList.typeIs (s := { s with heap := H.push { cls := .type "slice", data := .fields #[vl, vu, .none] }, toks := tk }) (hl.push _)) list_getitem_lookup
    (wpAny_getItem_list_slice (hl.push _) (Heap.IsSliceOf.new ..) pl pu .none (by simp) ?_ hsz') hs ht
  show Q (.ref (H.push _).objs.size) _
  refine h _ (slicePick vs.toArray lo hi none).toList _ (fun b o e => Heap.get?_push_of_some _ (Heap.get?_push_of_some _ e)) ?_ ?_ hm
  · cases e : H.get? (H.push { cls := .type "slice", data := .fields #[vl, vu, .none] }).objs.size with
    | none => rfl
    | some o =>
      have := Heap.lt_size e
      rw [Heap.size_push] at this
      exact absurd this (Nat.not_lt.mpr (Nat.le_succ _))
  · rw [Array.toArray_toList]
    exact Heap.get?_push_size _ rfl
end
theorem row_list {f : Int → List Int} {h h₁ : Heap} {vs ys : List Value} (hp : Paired (fun (v y : Value) => ∃ (z : Int) (t : Tok) (a : Addr) (us : List Value) (k : Nat), v = .int z t ∧ y = .ref a ∧ h.get? a = some (listOf us.toArray k) ∧ h₁.get? a = none ∧ IntsAre us (f z)) vs ys) :
    ∀ {ns : List Int}, IntsAre vs ns → ∃ kn : List (Addr × Obj), (∀ p ∈ kn, h.get? p.1 = some p.2 ∧ h₁.get? p.1 = none ∧ ∀ v, p.2.data ≠ .cell v) ∧ RowList kn ys (ns.map f) := by
  induction hp with
  | nil =>
    intro ns hi
    cases hi
    exact ⟨[], List.forall_mem_nil _, .nil⟩
  | cons hd _ ih =>
    intro ns hi
    obtain ⟨z, t, a, us, k, e1, e2, hk, ha, hu⟩ := hd
    subst e1
    cases hi with
    | cons _ _ t2 =>
      obtain ⟨kn, h1, h2⟩ := ih t2
      refine ⟨(a, listOf us.toArray k) :: kn, List.forall_mem_cons.mpr ⟨⟨hk, ha, fun v e => by cases e⟩, h1⟩, ?_⟩
      exact .cons ⟨a, us, k, e2, .head _, hu⟩ (Paired.imp (fun y r ⟨x, vs, k, q1, q2, q3⟩ => ⟨x, vs, k, q1, .tail _ q2, q3⟩) h2)
theorem run_four {α : Type} (l : List α) (z : Nat) : (l.drop z).take (min (z + 4) l.length - z) = (l.drop z).take 4 := by
  by_cases h : z + 4 ≤ l.length
  · rw [Nat.min_eq_left h, show z + 4 - z = 4 by omega]
  · rw [Nat.min_eq_right (by omega), List.take_of_length_le (by rw [List.length_drop]; exact Nat.le_refl _), List.take_of_length_le (by rw [List.length_drop]; omega)]
theorem chunk_map (rows : List (List Int)) (hl : ∀ r ∈ rows, r.length = 4) : (((List.range rows.length).map fun (i : Nat) => (0 : Int) + (i : Int) * 4).map fun z => (rows.flatten.drop z.toNat).take 4) = rows := by
  rw [List.map_map]
  refine Eq.trans (List.map_congr_left fun i _ => ?_) (chunks rows hl)
  show (rows.flatten.drop ((0 : Int) + (i : Int) * 4).toNat).take 4 = _
  rw [show ((0 : Int) + (i : Int) * 4).toNat = 4 * i by omega]
/-! rows compared -/
noncomputable def rowD (r : List Int) : PyData := .list (r.map PyData.int)
noncomputable def rowsD (rows : List (List Int)) : PyData := .list (rows.map rowD)
theorem row_reads {h : Heap} {vs : List Value} {rows : List (List Int)} (p : Paired (fun (v : Value) (r : List Int) => ∃ a, v = .ref a ∧ IntsAt h a r) vs rows) : ∃ as, ReadsAll h vs (rows.map rowD) as := by
  induction p with
  | nil => exact ⟨_, .nil⟩
  | cons a _ ih =>
    obtain ⟨a, e, us, hl, hi⟩ := a
    obtain ⟨as, ht⟩ := ih
    subst e
    exact ⟨_, .cons (reads_newData hl (ke_carried hi)) ht⟩
theorem rows_reads {h : Heap} {a : Addr} {rows : List (List Int)} (x : RowsAt h a rows) : ∃ as, Reads h (.ref a) (rowsD rows) as := by
  obtain ⟨items, ⟨o, ho, hc, k, hd⟩, hp⟩ := x
  obtain ⟨as, hr⟩ := row_reads hp
  exact ⟨_, .list ho hc hd hr⟩
theorem rows_canLay : ∀ rows : List (List Int), PyData.canLayAll0 (rows.map rowD) = true
  | [] => rfl
  | r :: t => by
    show (PyData.canLay0 (.list (r.map PyData.int)) && PyData.canLayAll0 (t.map rowD)) = true
    rw [rows_canLay t]
    simp [PyData.canLay0, ke_canLayAll0]
theorem rows_depth : ∀ rows : List (List Int), PyData.depthAll (rows.map rowD) ≤ 1
  | [] => by simp [PyData.depthAll]
  | r :: t => by
    have := rows_depth t
    have e : PyData.depthAll ((r :: t).map rowD) = max (PyData.depth (rowD r)) (PyData.depthAll (t.map rowD)) := by simp [PyData.depthAll]
    rw [e]
    have e2 : PyData.depth (rowD r) ≤ 1 := by simp [rowD, PyData.depth, ke_depthAll]
    omega
theorem rows_shaped (rows : List (List Int)) : SeqAt.shaped (rowsD rows) = true := by
  have h1 := rows_canLay rows
  have h2 := rows_depth rows
  simp [SeqAt.shaped, rowsD, PyData.canLay0, PyData.depth, h1]
  omega
theorem rows_eqvAll : ∀ rows : List (List Int), PyData.eqvAll (rows.map rowD) (rows.map rowD) = true
  | [] => by simp [PyData.eqvAll]
  | r :: t => by
    have := rows_eqvAll t
    simp [PyData.eqvAll, rowD, PyData.eqv, ked_eqvAll] at this ⊢
    exact this
theorem rows_eqv (rows : List (List Int)) : PyData.eqv (rowsD rows) (rowsD rows) = true := by
  show PyData.eqv (.list _) (.list _) = true
  simp only [PyData.eqv]
  exact rows_eqvAll rows
theorem rows_ne {prog : Program} {w : World} {A : Around} {E : Value → Shared → Prop} {s : Shared} {a b : Addr} {rows : List (List Int)} {Q : Value → Shared → Prop} (ha : RowsAt s.heap a rows) (hb : RowsAt s.heap b rows) (hu : A.units + 64 < cLine)
    (h : Q (.bool false) s) : wpAny (model prog w) A (compareOp .NotEq (.ref a) (.ref b)) Q E s := by
  obtain ⟨as, ra⟩ := rows_reads ha
  obtain ⟨bs, rb⟩ := rows_reads hb
  refine ne_dataH ra rb (rows_shaped _) (rows_shaped _) hu ?_
  rw [rows_eqv]
  exact h
theorem size_four (k : Nat) : Builtin.Range.rangeSize 0 ((4 * k : Nat) : Int) 4 = (k : Int) := by
  unfold Builtin.Range.rangeSize
  rw [if_pos (by decide)]
  split <;> omega
theorem fits_long {i : Int} (h0 : -(2 ^ 63) ≤ i) (h1 : i < 2 ^ 63) : Builtin.Range.rangeFitsLong i = true := by
  unfold Builtin.Range.rangeFitsLong
  rw [decide_eq_true h0, decide_eq_true h1]; rfl
theorem small_four {k : Nat} (h : k ≤ 1000) : Builtin.Range.small 0 ((4 * k : Nat) : Int) 4 = true := by
  unfold Builtin.Range.small
  rw [size_four]
  have e : (if (4 : Int) > 0 then Builtin.Range.rangeFitsLong (((4 * k : Nat) : Int) + (4 - 1)) else Builtin.Range.rangeFitsLong (((4 * k : Nat) : Int) + (4 + 1))) = true := by
    rw [if_pos (by decide)]
    exact fits_long (by omega) (by omega)
  rw [e, fits_long (i := 0) (by omega) (by omega), fits_long (i := ((4 * k : Nat) : Int)) (by omega) (by omega), fits_long (i := 4) (by omega) (by omega), fits_long (i := (k : Int)) (by omega) (by omega)]
  simp
theorem IntsAt.uniq {h : Heap} {a : Addr} {r r' : List Int} (x : IntsAt h a r) (y : IntsAt h a r') : r = r' := by
  obtain ⟨vs, ⟨o, ho, _, k, hd⟩, hi⟩ := x
  obtain ⟨vs', ⟨o', ho', _, k', hd'⟩, hi'⟩ := y
  rw [ho] at ho'
  cases ho'
  rw [hd] at hd'
  injection hd' with e1 e2
  have e3 := congrArg Array.toList e1
  dsimp only at e3
  rw [← hi.numsOf, ← hi'.numsOf, e3]
/-- whether the row that v refers to holds the place b -/
noncomputable def rowP (h : Heap) (b : Int) (v : Value) : Bool := @decide (∃ a r, v = .ref a ∧ IntsAt h a r ∧ holds b r = true) (Classical.propDecidable _)
theorem rowP_at {h : Heap} {b : Int} {a : Addr} {r : List Int} (hr : IntsAt h a r) : rowP h b (.ref a) = holds b r := by
  unfold rowP
  cases e : holds b r with
  | true => exact @decide_eq_true _ (Classical.propDecidable _) ⟨a, r, rfl, hr, e⟩
  | false =>
    refine @decide_eq_false _ (Classical.propDecidable _) ?_
    rintro ⟨a', r', e1, h2, h3⟩
    cases e1
    rw [h2.uniq hr, e] at h3
    cases h3
theorem rowP_count {h : Heap} {b : Int} {vs : List Value} {rows : List (List Int)} (p : Paired (fun (v : Value) (r : List Int) => ∃ a, v = .ref a ∧ IntsAt h a r) vs rows) : (vs.filter (rowP h b)).length = (rows.filter (holds b)).length := by
  induction p with
  | nil => rfl
  | cons a _ ih =>
    obtain ⟨a, e, hr⟩ := a
    subst e
    rw [List.filter_cons, List.filter_cons, rowP_at hr]
    split
    · rw [List.length_cons, List.length_cons, ih]
    · exact ih
theorem ints_at_of {vs : List Value} {ns : List Int} (h : IntsAre vs ns) {j : Nat} (hj : j < ns.length) : ∃ t, vs[j]? = some (.int (ns.getD j 0) t) := by
  have hl := h.length
  have e : vs[j]? = some vs[j] := List.getElem?_eq_getElem (by omega)
  obtain ⟨n, h1, t, h2⟩ := IntsAre.at? h j _ e
  refine ⟨t, ?_⟩
  rw [e, h2, List.getD_eq_getElem?_getD, h1]; rfl
theorem mul_sign (c d : Nat) : Txt.mul ⟨#[c]⟩ ((d : Nat) : Int) = ⟨(List.replicate d c).toArray⟩ := by
  have h := mul_one_list c ((d : Nat) : Int)
  generalize Txt.mul ⟨#[c]⟩ ((d : Nat) : Int) = y at h
  obtain ⟨a⟩ := y
  rw [Int.toNat_natCast] at h
  have e : a.toList = List.replicate d c := h
  rw [← e]
theorem typed_list {c : Nat} {es : List Nat} {vs ys : List Value} (p : Paired (fun (v y : Value) => ∃ (z : Int) (t1 t2 : Tok), v = .int z t1 ∧ y = .str (Txt.mul ⟨#[c]⟩ z) t2) vs ys) : ∀ {ks : List Nat}, IntsAre vs (ks.map fun k => ((depthOf es k : Nat) : Int)) →
    Paired (fun (v : Value) (r : List Nat) => ∃ t, v = .str ⟨r.toArray⟩ t) ys (ks.map fun k => List.replicate (depthOf es k) c) := by
  induction p with
  | nil =>
    intro ks h
    cases ks with
    | nil => exact .nil
    | cons => cases h
  | cons a _ ih =>
    intro ks h
    obtain ⟨z, t1, t2, e1, e2⟩ := a
    subst e1 e2
    cases ks with
    | nil => cases h
    | cons k ks =>
      rw [List.map_cons] at h
      cases h with
      | cons _ _ h2 => exact .cons ⟨t2, by rw [mul_sign]⟩ (ih h2)


set_option maxHeartbeats 8000000 in
theorem law_spec {w : World} {mean : ExcName → Option Value} {mg mb : Str → Option Value} {dp un : Nat} {gd : Option (List Code)} {s : Shared} {Q E : Value → Shared → Prop}
    (G : Gd w mean mg mb (aA dp un gd []) s.heap [] s.heap) (hdp : dp + 40 < recursionLimit) (hun : un + 400 < cLine)
    {l : Addr} {script : List Int} (hs : IntsAt s.heap l script) (hlen : script.length ≤ 1000000)
    (hret : ∀ (h' : Heap) (tk' : Nat), Kp s.heap h' → Q (.bool true) { s with heap := h', toks := tk' }) :
    wpAny (model PySem.Challenge.rw_pg0146_01.row.prog w) (aA dp un gd []) (call (.ref 147) [.ref l]) Q E s := by
  w_top off
  obtain ⟨X, T, B⟩ := id G
  revert X; k_fill; intro X
  refine enterC0 (binds := [("script", .ref l)]) G (by omega) (by k_dflt k_is) (by k_dflt k_is) (BindsTo.of_eq rfl) rfl (by decide) ?_ rfl rfl rfl
  intro L' h₁ tk cells F' N' hC
  have hroom : Unit → _ := fun _ => And.intro hdp hun
  clear hdp hun
  obtain ⟨oG, oR, oM, oS, rfl, hdG, hdR, hdM, hdS⟩ := CellsAre.four hC
  clear hC
  have F1 : Fr s.heap L' h₁ (fm [("script", some (.ref l))]) := F'
  replace hdG : oG.data = .cell none := hdG
  replace hdR : oR.data = .cell none := hdR
  replace hdM : oM.data = .cell none := hdM
  replace hdS : oS.data = .cell none := hdS
  clear F'
  repeat' (
    (fail_if_success (with_reducible show wpAny _ _ (exec (Stmt.For _ _ _ _ _) _) _ _ _));
    (fail_if_success (with_reducible show wpAny _ _ (exec (Stmt.Try _ _ _ _ _) _) _ _ _));
    (fail_if_success (with_reducible show wpAny _ _ (exec (Stmt.While _ _ _ _) _) _ _ _));
    (fail_if_success (with_reducible show wpAny _ _ (eval (Expr.ListComp _ _ _ _) _) _ _ _));
    (fail_if_success (with_reducible show wpAny _ _ (exec (Stmt.Assign _ (Expr.ListComp _ _ _ _) _) _) _ _ _));
    (fail_if_success (with_reducible show wpAny _ _ (PySem.call (Value.ref _) _ _) _ _ _));
    (fail_if_success (with_reducible show wpAny _ _ (pyIter _) _ _ _));
    (fail_if_success (with_reducible show TurnQ _ _ _ _ _ _ _ _ _ _));
    (first | walk1 | (dsimp only; walk1)); (first | (with_reducible show wpAny _ _ (subscriptTail _ _ _ _) _ _ _) | (try dsimp only)))
  refine page_spec (Gd.next X T B F1 rfl rfl) (by exact roomD (hroom ()).1 (by decide)) (by first | exact roomU (hroom ()).2 (by decide) | exact roomU3 (hroom ()).2 (by decide)) (l := l) (script := script) (hs.keeps F1.keep) hlen ?_
  clear hlen
  intro a P Z ps zs eP eZ h₂ tk₂ hk₂ ha hP hZ hps hzs ha0 hP0 hZ0 hPZ hZa
  dsimp only at hk₂ ha0 hP0 hZ0
  have N1 : News s.heap L' h₂ [(P, listOf ps.toArray eP), (Z, listOf zs.toArray eZ), (L' + 1 + 1 + 1 + 1, oG), (L' + 1 + 1 + 1, oR), (L' + 1 + 1, oM), (L' + 1, oS)] := by
    intro p hp
    rcases List.mem_cons.mp hp with rfl | hp
    · exact ⟨hP, fresh_ne F1 hP0⟩
    · exact News.addK F1 N' hk₂ hZ0 hZ p hp
  have F2 := F1.keeps hk₂
  have hPS : P ≠ L' + 1 := fun e => by
    have := (N' _ (.tail _ (.tail _ (.tail _ (.head _))))).1
    rw [← e, hP0] at this; cases this
  have hZS : Z ≠ L' + 1 := fun e => by
    have := (N' _ (.tail _ (.tail _ (.tail _ (.head _))))).1
    rw [← e, hZ0] at this; cases this
  have htup : h₂.IsTuple a #[.ref P, .ref Z] := ⟨_, ha, rfl, _, rfl⟩
  clear F1 N' ha ha0 hP hZ hP0 hZ0 hk₂
  refine wpAny_assign_Tuple rfl htup rfl rfl fun h₃ hx₃ => ?_
  replace hx₃ : Heap.ExtBut h₂.objs.size h₂ h₃ := hx₃
  have up₃ : ∀ b o, h₂.get? b = some o → h₃.get? b = some o := fun b o x => hx₃ b o (Nat.ne_of_lt (Heap.lt_size x)) x
  have F3 := F2.keeps up₃
  have N3 := News.keepsAll N1 up₃
  clear F2 N1 htup hx₃ up₃
  refine wpAny_bind (wpAny_holding (wpAny_assign_Name (stLocN F3 N3 (fun h₄ F4 N4 => ?_) rfl rfl)))
  clear F3 N3
  refine wpAny_bind (wpAny_holding (wpAny_assign_Name (stCNk (own := [_, _, _, _, _]) (rest := []) F4 N4 rfl hdS ?_ trivial (fun h₅ oS' F5 N5 hdS' => ?_) rfl rfl)))
  · exact ⟨.inl hPS, .inl hZS, .inl (Nat.ne_of_gt (lt41 L')), .inl (Nat.ne_of_gt (lt31 L')), .inl (Nat.ne_of_gt (lt21 L')), trivial⟩
  clear F4 N4 hdS oS
  have F6 : Fr s.heap L' h₅ (fm [("page", some (.ref P)), ("script", some (.ref l))]) := F5
  simp only [List.cons_append, List.nil_append] at N5
  clear F5 hPZ hZa a
  obtain ⟨n, hn4, hok⟩ : ∃ n, n ≤ 4 ∧ PageOk n (pageOf script) := ⟨0 + (script.take 4).length, by rw [List.length_take]; omega, pages_ok (script.take 4) page0_ok⟩
  have hzl : zs.length = 5 + n := by rw [hzs.length]; exact hok.2.1
  repeat' (
    (fail_if_success (with_reducible show wpAny _ _ (exec (Stmt.For _ _ _ _ _) _) _ _ _));
    (fail_if_success (with_reducible show wpAny _ _ (exec (Stmt.Try _ _ _ _ _) _) _ _ _));
    (fail_if_success (with_reducible show wpAny _ _ (exec (Stmt.While _ _ _ _) _) _ _ _));
    (fail_if_success (with_reducible show wpAny _ _ (eval (Expr.ListComp _ _ _ _) _) _ _ _));
    (fail_if_success (with_reducible show wpAny _ _ (exec (Stmt.Assign _ (Expr.ListComp _ _ _ _) _) _) _ _ _));
    (fail_if_success (with_reducible show wpAny _ _ (PySem.call (Value.ref _) _ _) _ _ _));
    (fail_if_success (with_reducible show wpAny _ _ (pyIter _) _ _ _));
    (fail_if_success (with_reducible show TurnQ _ _ _ _ _ _ _ _ _ _));
    (first | walk1 | (dsimp only; walk1)); (first | (with_reducible show wpAny _ _ (subscriptTail _ _ _ _) _ _ _) | (try dsimp only)))
  refine comp_assign (h₀ := s.heap) (L := L') (cl := _) rfl rfl (by decide) rfl (by decide) rfl rfl rfl rfl ?_ (fun _ => rfl)
  repeat' (
    (fail_if_success (with_reducible show wpAny _ _ (exec (Stmt.For _ _ _ _ _) _) _ _ _));
    (fail_if_success (with_reducible show wpAny _ _ (exec (Stmt.Try _ _ _ _ _) _) _ _ _));
    (fail_if_success (with_reducible show wpAny _ _ (exec (Stmt.While _ _ _ _) _) _ _ _));
    (fail_if_success (with_reducible show wpAny _ _ (eval (Expr.ListComp _ _ _ _) _) _ _ _));
    (fail_if_success (with_reducible show wpAny _ _ (exec (Stmt.Assign _ (Expr.ListComp _ _ _ _) _) _) _ _ _));
    (fail_if_success (with_reducible show wpAny _ _ (PySem.call (Value.ref _) _ _) _ _ _));
    (fail_if_success (with_reducible show wpAny _ _ (pyIter _) _ _ _));
    (fail_if_success (with_reducible show TurnQ _ _ _ _ _ _ _ _ _ _));
    (first | walk1 | (dsimp only; walk1)); (first | (with_reducible show wpAny _ _ (subscriptTail _ _ _ _) _ _ _) | (try dsimp only)))
  refine len_list (News.il N5 (.tail _ (.head _))) (by rw [List.size_toArray]; omega) ?_

  repeat' (
    (fail_if_success (with_reducible show wpAny _ _ (exec (Stmt.For _ _ _ _ _) _) _ _ _));
    (fail_if_success (with_reducible show wpAny _ _ (exec (Stmt.Try _ _ _ _ _) _) _ _ _));
    (fail_if_success (with_reducible show wpAny _ _ (exec (Stmt.While _ _ _ _) _) _ _ _));
    (fail_if_success (with_reducible show wpAny _ _ (eval (Expr.ListComp _ _ _ _) _) _ _ _));
    (fail_if_success (with_reducible show wpAny _ _ (exec (Stmt.Assign _ (Expr.ListComp _ _ _ _) _) _) _ _ _));
    (fail_if_success (with_reducible show wpAny _ _ (PySem.call (Value.ref _) _ _) _ _ _));
    (fail_if_success (with_reducible show wpAny _ _ (pyIter _) _ _ _));
    (fail_if_success (with_reducible show TurnQ _ _ _ _ _ _ _ _ _ _));
    (first | walk1 | (dsimp only; walk1)); (first | (with_reducible show wpAny _ _ (subscriptTail _ _ _ _) _ _ _) | (try dsimp only)))
  rename IsRange _ _ _ _ _ _ _ _ => hR
  rename Fr _ _ _ _ => F7
  rename News _ _ _ _ => N7
  rename IntsAre zs _ => hzs

  rename ∀ (b : Addr) (o : Obj), Heap.get? _ b = some o → Heap.get? _ b = some o => hkr
  rw [hok.2.1, show (((5 + n : Nat) : Int) + 1) = ((5 + n + 1 : Nat) : Int) by omega] at hR
  have hB : beginsOf (pageOf script).2 = ((List.range (5 + n + 1)).map fun (i : Nat) => (0 : Int) + (i : Int) * 1).map fun (z : Int) => ((pageOf script).2.take z.toNat).sum := by
    unfold beginsOf
    rw [hok.2.1, List.map_map]
    refine List.map_congr_left fun i _ => ?_
    show _ = ((pageOf script).2.take ((0 : Int) + (i : Int) * 1).toNat).sum
    have : ((0 : Int) + (i : Int) * 1).toNat = i := by omega
    rw [this]
  revert F7 N7
  rename Fr _ _ _ _ => Fo
  rename News _ _ _ _ => No
  clear Fo No
  intro F7 N7
  have X7 := Frag.In.keeps X F7.keep
  have T7 := T.keeps F7.keep
  refine compAt_range (n := 5 + n + 1) (fun _ => true) (fun v y hh => ∃ (z : Int) (t1 t2 : Tok), v = .int z t1 ∧ y = .int ((pageOf script).2.take z.toNat).sum t2) rfl hR (small_one (by omega) (by omega) (by omega) (by omega)) (by rw [rangeSize_nat]; congr 1) (Nat.le_trans (by omega : 5 + n + 1 ≤ 100) (by decide)) (fun _ _ _ _ _ _ _ => tests_nil) ?_ ?_
  · intro i t' C h8 tk8 hi _ F8
    have hlZ : Heap.IsList _ Z zs.toArray := (News.il N7 (.tail _ (.head _))).at fun o e => F8.keep _ o e
    have hcS : Heap.IsCell _ (L' + 1) (some (.ref Z)) := ⟨_, F8.keep _ _ (N7 _ (.tail _ (.tail _ (.tail _ (.tail _ (.tail _ (.head _)))))) ).1, hdS'⟩
    have N8 := newsFor F8
    have kF8 := F8.keep
    clear F7 N7 X T
    iterate 5 ((first | walk1 | (dsimp only; walk1)); try dsimp only)
    refine nmC hcS rfl ?_
    refine wpAny_Slice (wpAny_evalPart_none (wpAny_evalPart_some (nmL F8.ns rfl (wpAny_evalPart_none ?_))))
    dsimp only
    refine slice_K hlZ .none (.int _ _) (kmk_upto hzs (by omega)) (by omega) ?_ (by with_unfolding_all rfl) (by intro _; with_unfolding_all rfl)
    intro D ws h9 hk9 _ hD9 hI9
    iterate 1 ((first | walk1 | (dsimp only; walk1)); try dsimp only)
    refine sum_K rfl (isList_of hD9) hI9 ?_
    intro h10 tk10 t10 hk10
    exact ⟨h10, tk10, rfl, fun b o e => hk10 b o (hk9 b o e), fun hh _ _ => ⟨_, _, _, rfl, rfl⟩⟩
  · intro Bb h8 tk8 ys vs hk8 hBn hpl hIv hPd
    obtain ⟨kB, hget⟩ := hpl
    have efl : vs.filter (fun _ => true) = vs := by simp
    rw [efl] at hPd
    have hIB : IntsAre ys.toList (beginsOf (pageOf script).2) := by
      rw [hB]
      exact map_ints hPd hIv
    refine ⟨_, F7, fun hF tkF FF hkF => ?_⟩
    have N8 : News s.heap L' hF [(Bb, listOf ys.toList.toArray kB), (P, listOf ps.toArray eP), (Z, listOf zs.toArray eZ), (L' + 1 + 1 + 1 + 1, oG), (L' + 1 + 1 + 1, oR), (L' + 1 + 1, oM), (L' + 1, oS')] := by
      intro p hp
      have hpL : p.1 ≠ L' := by
        rcases List.mem_cons.mp hp with rfl | hp
        · exact (fresh_ne F7 hBn).1
        · exact (N7 p hp).2.1
      have := News.addK F7 N7 hk8 (o := listOf ys.toList.toArray kB) hBn (by simpa using hget) p hp
      exact ⟨hkF _ _ hpL this.1, this.2⟩
    generalize ys.toList = bv at hIB N8
    clear hPd hIv hget hBn hk8 hR F7 N7 X7 T7 hB hkF hkr
    have F9 : Fr s.heap L' hF (fm [("begins", some (.ref Bb)), ("page", some (.ref P)), ("script", some (.ref l))]) := FF
    clear FF
    have hless : ∀ k j, pageLess (pageOf script).1 k j ↔ colLess (pageOf script).1 k j := page_less script fun r hr => (hok.2.2.1 r hr).2
    generalize pageOf script = pz at hps hzs hok hIB hless
    obtain ⟨pg, sz⟩ := pz
    obtain ⟨hpl, hsl, hok3, hsz⟩ := hok
    dsimp only at hps hzs hIB hless hpl hsl hok3 hsz
    have hlead : ∀ r ∈ pg, LeadOk r := fun r hr => ⟨by have := (hok3 r hr).1; omega, (hok3 r hr).2⟩
    clear hok3 hzl
    rename _ = (pageOf script).snd.length => hzz
    clear hzz
    repeat' (
      (fail_if_success (with_reducible show wpAny _ _ (exec (Stmt.For _ _ _ _ _) _) _ _ _));
      (fail_if_success (with_reducible show wpAny _ _ (exec (Stmt.Try _ _ _ _ _) _) _ _ _));
      (fail_if_success (with_reducible show wpAny _ _ (exec (Stmt.While _ _ _ _) _) _ _ _));
      (fail_if_success (with_reducible show wpAny _ _ (eval (Expr.ListComp _ _ _ _) _) _ _ _));
      (fail_if_success (with_reducible show wpAny _ _ (exec (Stmt.Assign _ (Expr.ListComp _ _ _ _) _) _) _ _ _));
      (fail_if_success (with_reducible show wpAny _ _ (PySem.call (Value.ref _) _ _) _ _ _));
      (fail_if_success (with_reducible show wpAny _ _ (pyIter _) _ _ _));
      (fail_if_success (with_reducible show TurnQ _ _ _ _ _ _ _ _ _ _));
      (first | walk1 | (dsimp only; walk1)); (first | (with_reducible show wpAny _ _ (subscriptTail _ _ _ _) _ _ _) | (try dsimp only)))
    refine ends_spec (Gd.next X T B F9 rfl rfl) (by exact roomD (hroom ()).1 (by decide)) (by first | exact roomU (hroom ()).2 (by decide) | exact roomU3 (hroom ()).2 (by decide)) (page := pg) ⟨_, News.il N8 (.tail _ (.head _)), hps⟩ hlead (by omega) ?_
    intro E1 h9 tk9 es hk9 hes hE1 _
    have hesC : EndsOk (colLess pg) sz.length es := by
      rw [hsl, ← hpl]
      exact ends_congr hes fun k j _ _ => hless k j
    have hel : es.length = 5 + n := by rw [hes.1, hpl]
    have F10 := F9.keeps hk9
    have N10 := News.keepsAll N8 hk9
    clear F9 N8 hk9
    repeat' (
      (fail_if_success (with_reducible show wpAny _ _ (exec (Stmt.For _ _ _ _ _) _) _ _ _));
      (fail_if_success (with_reducible show wpAny _ _ (exec (Stmt.Try _ _ _ _ _) _) _ _ _));
      (fail_if_success (with_reducible show wpAny _ _ (exec (Stmt.While _ _ _ _) _) _ _ _));
      (fail_if_success (with_reducible show wpAny _ _ (eval (Expr.ListComp _ _ _ _) _) _ _ _));
      (fail_if_success (with_reducible show wpAny _ _ (exec (Stmt.Assign _ (Expr.ListComp _ _ _ _) _) _) _ _ _));
      (fail_if_success (with_reducible show wpAny _ _ (PySem.call (Value.ref _) _ _) _ _ _));
      (fail_if_success (with_reducible show wpAny _ _ (pyIter _) _ _ _));
      (fail_if_success (with_reducible show TurnQ _ _ _ _ _ _ _ _ _ _));
      (first | walk1 | (dsimp only; walk1)); (first | (with_reducible show wpAny _ _ (subscriptTail _ _ _ _) _ _ _) | (try dsimp only)))
    have hbm := begins_mem hsz (by omega)
    refine rows_spec (Gd.next X T B F10 rfl rfl) (by exact roomD (hroom ()).1 (by decide)) (by first | exact roomU (hroom ()).2 (by decide) | exact roomU3 (hroom ()).2 (by decide)) hE1 (bs := beginsOf sz) ⟨_, News.il N10 (.head _), hIB⟩ (by omega) (by rw [begins_len]; omega) ?_ hbm ?_
    · intro e he
      obtain ⟨k, hk⟩ := List.mem_iff_getElem?.mp he
      have := (hes.2 k e hk).2.1
      omega
    intro R1 h11 tk11 hk11 hR1 _
    have F11 := F10.keeps hk11
    have N11 := News.keepsAll N10 hk11
    clear F10 N10 hk11 hE1
    repeat' (
      (fail_if_success (with_reducible show wpAny _ _ (exec (Stmt.For _ _ _ _ _) _) _ _ _));
      (fail_if_success (with_reducible show wpAny _ _ (exec (Stmt.Try _ _ _ _ _) _) _ _ _));
      (fail_if_success (with_reducible show wpAny _ _ (exec (Stmt.While _ _ _ _) _) _ _ _));
      (fail_if_success (with_reducible show wpAny _ _ (eval (Expr.ListComp _ _ _ _) _) _ _ _));
      (fail_if_success (with_reducible show wpAny _ _ (exec (Stmt.Assign _ (Expr.ListComp _ _ _ _) _) _) _ _ _));
      (fail_if_success (with_reducible show wpAny _ _ (PySem.call (Value.ref _) _ _) _ _ _));
      (fail_if_success (with_reducible show wpAny _ _ (pyIter _) _ _ _));
      (fail_if_success (with_reducible show TurnQ _ _ _ _ _ _ _ _ _ _));
      (first | walk1 | (dsimp only; walk1)); (first | (with_reducible show wpAny _ _ (subscriptTail _ _ _ _) _ _ _) | (try dsimp only)))
    have hrb := rows_bd hesC hsz (by omega)
    have hrl := rows_len es (beginsOf sz)
    refine octets_spec (Gd.next X T B F11 rfl rfl) (by exact roomD (hroom ()).1 (by decide)) (by first | exact roomU (hroom ()).2 (by decide) | exact roomU3 (hroom ()).2 (by decide)) hR1 (fun r hr => ?_) (by omega) ?_
    · have := hrb r hr
      exact ⟨fun e => by rw [e] at this; simp at this, by omega, this.2⟩
    intro O h12 tk12 hk12 hO hO0
    obtain ⟨oO, hOg, hOI⟩ := hO.obj
    have F12 := F11.keeps hk12
    have N12 := News.addK F11 N11 hk12 hO0 hOg
    clear F11 N11 hk12 hR1 hO hO0 hOg
    repeat' (
      (fail_if_success (with_reducible show wpAny _ _ (exec (Stmt.For _ _ _ _ _) _) _ _ _));
      (fail_if_success (with_reducible show wpAny _ _ (exec (Stmt.Try _ _ _ _ _) _) _ _ _));
      (fail_if_success (with_reducible show wpAny _ _ (exec (Stmt.While _ _ _ _) _) _ _ _));
      (fail_if_success (with_reducible show wpAny _ _ (eval (Expr.ListComp _ _ _ _) _) _ _ _));
      (fail_if_success (with_reducible show wpAny _ _ (exec (Stmt.Assign _ (Expr.ListComp _ _ _ _) _) _) _ _ _));
      (fail_if_success (with_reducible show wpAny _ _ (PySem.call (Value.ref _) _ _) _ _ _));
      (fail_if_success (with_reducible show wpAny _ _ (pyIter _) _ _ _));
      (fail_if_success (with_reducible show TurnQ _ _ _ _ _ _ _ _ _ _));
      (first | walk1 | (dsimp only; walk1)); (first | (with_reducible show wpAny _ _ (subscriptTail _ _ _ _) _ _ _) | (try dsimp only)))
    rename Fr _ _ _ _ => F13
    rename News _ _ _ _ => N13
    replace F13 : Fr s.heap L' _ (fm [("octets", some (.ref O)), ("begins", some (.ref Bb)), ("page", some (.ref P)), ("script", some (.ref l))]) := F13
    obtain ⟨os, hos, hos2, hdec⟩ := octets_dec (rowsOf es (beginsOf sz)) fun r hr => ⟨fun e => by have := hrb r hr; rw [e] at this; simp at this, fun x hx => ((hrb r hr).2 x hx).1⟩
    have hol : (octetsOf (rowsOf es (beginsOf sz))).length ≤ 300 := by
      have := octets_len (rowsOf es (beginsOf sz)) fun r hr => ⟨fun e => by have := hrb r hr; rw [e] at this; simp at this, by have := hrb r hr; omega, (hrb r hr).2⟩
      omega
    have hosl : os.length ≤ 300 := by
      have := congrArg List.length hos
      rw [List.length_map] at this
      omega
    refine numbers_spec (Gd.next X T B F13 rfl rfl) X T (by exact roomD (hroom ()).1 (by decide)) (by first | exact roomU (hroom ()).2 (by decide) | exact roomU3 (hroom ()).2 (by decide)) (hOI.at (N13 _ (.head _)).1) hos hos2 (by omega) hdec ?_ ?_
    · intro V hV
      obtain ⟨x, hx, rfl⟩ := List.mem_map.mp hV
      obtain ⟨r, hr, hx⟩ := List.mem_flatten.mp hx
      have := (hrb r hr).2 x hx
      omega
    intro Nn h14 tk14 hk14 hk14' hN hN0
    rw [flat_back _ fun r hr x hx => ((hrb r hr).2 x hx).1] at hN
    obtain ⟨oN, hNg, hNI⟩ := hN.obj
    dsimp only at hk14 hk14' hN0
    have hk15 : ∀ x o, x ≠ L' → Heap.get? _ x = some o → h14.get? x = some o := fun x o hx e => hk14 x o (fun q => hx (List.mem_singleton.mp q)) e
    clear hk14
    have F14 : Fr s.heap L' h14 (fm [("octets", some (.ref O)), ("begins", some (.ref Bb)), ("page", some (.ref P)), ("script", some (.ref l))]) := by
      refine ⟨?_, fun b o e => hk15 b o ?_ (F13.keep b o e), F13.above⟩
      · obtain ⟨o, e1, e2, ho, hd, hr⟩ := F13.ns
        obtain ⟨sl, hsl⟩ := hk14' L' o (.head _) ho
        exact ⟨_, e1, e2, hsl, hd, hr⟩
      · have := Heap.lt_size e
        exact Nat.ne_of_lt (Nat.lt_of_lt_of_le this F13.above)
    have N14 : News s.heap L' h14 [(Nn, oN), (O, oO), (Bb, listOf bv.toArray kB), (P, listOf ps.toArray eP), (Z, listOf zs.toArray eZ), (L' + 1 + 1 + 1 + 1, oG), (L' + 1 + 1 + 1, oR), (L' + 1 + 1, oM), (L' + 1, oS')] := by
      intro p hp
      rcases List.mem_cons.mp hp with rfl | hp
      · exact ⟨hNg, fresh_ne F13 hN0⟩
      · exact ⟨hk15 _ _ (N13 p hp).2.1 (N13 p hp).1, (N13 p hp).2⟩
    clear F13 N13 hN hNg hN0 hk15 hk14' hol hosl hos hos2 hdec
    refine stCNk (own := [_, _, _, _, _, _, _]) (rest := [_]) F14 N14 rfl hdM ?_ ?_ (fun h15 oM' F15 N15 hdM' => ?_) rfl rfl
    · exact ⟨.inr hNI.notCell, .inr hOI.notCell, .inr (fun v e => by cases e), .inr (fun v e => by cases e), .inr (fun v e => by cases e), .inl (Nat.ne_of_gt (lt31 (L' + 1))), .inl (Nat.ne_of_gt (lt21 (L' + 1))), trivial⟩
    · exact ⟨.inl (Nat.ne_of_lt (lt21 L')), trivial⟩
    simp only [List.cons_append, List.nil_append] at N15
    clear F14 N14 hdM oM
    generalize hrows : rowsOf es (beginsOf sz) = rows at *
    have hfl : rows.flatten.length = 4 * rows.length := chunk_len rows fun r hr => (hrb r hr).1
    obtain ⟨nv, kN, hNc, hNd, hNI2⟩ := id hNI
    have hlN : Heap.IsList _ Nn nv.toArray := ⟨oN, (N15 _ (.head _)).1, hNc, kN, hNd⟩
    have hnl : nv.length = 4 * rows.length := by rw [hNI2.length, hfl]
    repeat' (
      (fail_if_success (with_reducible show wpAny _ _ (exec (Stmt.For _ _ _ _ _) _) _ _ _));
      (fail_if_success (with_reducible show wpAny _ _ (exec (Stmt.Try _ _ _ _ _) _) _ _ _));
      (fail_if_success (with_reducible show wpAny _ _ (exec (Stmt.While _ _ _ _) _) _ _ _));
      (fail_if_success (with_reducible show wpAny _ _ (eval (Expr.ListComp _ _ _ _) _) _ _ _));
      (fail_if_success (with_reducible show wpAny _ _ (exec (Stmt.Assign _ (Expr.ListComp _ _ _ _) _) _) _ _ _));
      (fail_if_success (with_reducible show wpAny _ _ (PySem.call (Value.ref _) _ _) _ _ _));
      (fail_if_success (with_reducible show wpAny _ _ (pyIter _) _ _ _));
      (fail_if_success (with_reducible show TurnQ _ _ _ _ _ _ _ _ _ _));
      (first | walk1 | (dsimp only; walk1)); (first | (with_reducible show wpAny _ _ (subscriptTail _ _ _ _) _ _ _) | (try dsimp only)))
    walk1
    try dsimp only
    refine comp_eval (cl := _) rfl (by decide) rfl (by decide) rfl ?_ (fun _ => rfl)
    repeat' (
      (fail_if_success (with_reducible show wpAny _ _ (exec (Stmt.For _ _ _ _ _) _) _ _ _));
      (fail_if_success (with_reducible show wpAny _ _ (exec (Stmt.Try _ _ _ _ _) _) _ _ _));
      (fail_if_success (with_reducible show wpAny _ _ (exec (Stmt.While _ _ _ _) _) _ _ _));
      (fail_if_success (with_reducible show wpAny _ _ (eval (Expr.ListComp _ _ _ _) _) _ _ _));
      (fail_if_success (with_reducible show wpAny _ _ (exec (Stmt.Assign _ (Expr.ListComp _ _ _ _) _) _) _ _ _));
      (fail_if_success (with_reducible show wpAny _ _ (PySem.call (Value.ref _) _ _) _ _ _));
      (fail_if_success (with_reducible show wpAny _ _ (pyIter _) _ _ _));
      (fail_if_success (with_reducible show TurnQ _ _ _ _ _ _ _ _ _ _));
      (first | walk1 | (dsimp only; walk1)); (first | (with_reducible show wpAny _ _ (subscriptTail _ _ _ _) _ _ _) | (try dsimp only)))
    rename IsRange _ _ _ _ _ _ _ _ => hR4
    rename Fr _ _ _ _ => F17
    rename News _ _ _ _ => N17
    rename Heap => h17
    revert F17 N17
    rename Fr _ _ _ _ => Fo
    rename News _ _ _ _ => No
    clear Fo No
    intro F17 N17
    rename ∀ (b : Addr) (o : Obj), Heap.get? _ b = some o → Heap.get? _ b = some o => hkr4
    rw [hfl] at hR4
    have hlN17 := hlN.at fun o e => hkr4 _ o e
    have X17 := Frag.In.keeps X F17.keep
    have T17 := T.keeps F17.keep
    have hcM17 := (N17 _ (.tail _ (.tail _ (.tail _ (.tail _ (.tail _ (.tail _ (.tail _ (.head _))))))))).1
    refine compAt_range (n := rows.length) (fun _ => true) (fun v y hh => ∃ (z : Int) (t : Tok) (a : Addr) (us : List Value) (k : Nat), v = .int z t ∧ y = .ref a ∧ hh.get? a = some (listOf us.toArray k) ∧ h17.get? a = none ∧ IntsAre us ((rows.flatten.drop z.toNat).take 4)) rfl hR4 (small_four (by omega)) (size_four _) (Nat.le_trans (by omega : rows.length ≤ 100) (by decide)) (fun _ _ _ _ _ _ _ => tests_nil) ?_ ?_
    · intro i t' C h18 tk18 hi _ F18
      have hl18 := hlN17.at fun o e => F18.keep _ o e
      have hc18 : Heap.IsCell _ (L' + 1 + 1) (some (.ref Nn)) := ⟨_, F18.keep _ _ hcM17, hdM'⟩
      have N18 := newsFor F18
      clear F17 N17 X T
      iterate 1 ((first | walk1 | (dsimp only; walk1)); try dsimp only)
      refine nmC hc18 rfl ?_
      refine wpAny_Slice (wpAny_evalPart_some (nmL F18.ns rfl (wpAny_evalPart_some ?_)))
      iterate 1 ((first | walk1 | (dsimp only; walk1)); try dsimp only)
      refine nmL F18.ns rfl ?_
      iterate 2 ((first | walk1 | (dsimp only; walk1)); try dsimp only)
      refine wpAny_evalPart_none ?_
      dsimp only
      have hm := kmk_run hNI2 (x := 0 + (i : Int) * 4) (y := 0 + (i : Int) * 4 + 4) (by omega) (by omega)
      rw [show ((0 : Int) + (i : Int) * 4 + 4).toNat = ((0 : Int) + (i : Int) * 4).toNat + 4 by omega, run_four] at hm
      refine slice_K hl18 (.int _ _) (.int _ _) hm (by omega) ?_ (by with_unfolding_all rfl) (by intro _; with_unfolding_all rfl)
      intro D ws h19 hk19 hD0 hD hI
      exact ⟨h19, _, rfl, hk19, fun hh _ hnew => ⟨_, _, D, ws, 0, rfl, rfl, hnew D _ hD0 hD, Kp.none F18.keep hD0, hI⟩⟩
    · intro R h18 tk18 ys vs hk18 hRn hpl hIv hPd
      obtain ⟨kR, hget⟩ := hpl
      have efl : vs.filter (fun _ => true) = vs := by simp
      rw [efl] at hPd
      obtain ⟨kn, hkn, hRL⟩ := row_list hPd hIv
      rw [chunk_map rows fun r hr => (hrb r hr).1] at hRL
      have F18 := F17.keeps hk18
      have N18 : News s.heap L' h18 ((R, listOf ys.toList.toArray kR) :: (kn ++ [(Nn, oN), (O, oO), (Bb, listOf bv.toArray kB), (P, listOf ps.toArray eP), (Z, listOf zs.toArray eZ), (L' + 1 + 1 + 1 + 1, oG), (L' + 1 + 1 + 1, oR), (L' + 1 + 1, oM'), (L' + 1, oS')])) := by
        intro p hp
        rcases List.mem_cons.mp hp with rfl | hp
        · exact ⟨by simpa using hget, fresh_ne F17 hRn⟩
        · rcases List.mem_append.mp hp with hp | hp
          · exact ⟨(hkn p hp).1, fresh_ne F17 (hkn p hp).2.1⟩
          · exact News.keepsAll N17 hk18 p hp
      have hknc : ∀ p ∈ kn, ∀ v, p.2.data ≠ .cell v := fun p hp => (hkn p hp).2.2
      generalize ys.toList = rv at hRL N18
      clear hPd hIv hget hRn hk18 hR4 F17 N17 X17 T17 hkr4 hlN17 hcM17 hkn hlN hnl hNI2 hNd hNc efl hfl
      refine stCell ((R, listOf rv.toArray kR) :: (O, oO) :: (Bb, listOf bv.toArray kB) :: (P, listOf ps.toArray eP) :: (L' + 1 + 1 + 1 + 1, oG) :: kn) F18 N18 (.tail _ (List.mem_append_right _ (.tail _ (.tail _ (.tail _ (.tail _ (.tail _ (.tail _ (.head _))))))))) rfl hdR ?_ (fun h19 oR' F19 N20 hdR' => ?_) rfl rfl
      · exact sub_cons ⟨.head _, .inr (fun v e => by cases e)⟩ (sub_cons ⟨.tail _ (List.mem_append_right _ (.tail _ (.head _))), .inr hOI.notCell⟩ (sub_cons ⟨.tail _ (List.mem_append_right _ (.tail _ (.tail _ (.head _)))), .inr (fun v e => by cases e)⟩
          (sub_cons ⟨.tail _ (List.mem_append_right _ (.tail _ (.tail _ (.tail _ (.head _))))), .inr (fun v e => by cases e)⟩ (sub_cons ⟨.tail _ (List.mem_append_right _ (.tail _ (.tail _ (.tail _ (.tail _ (.tail _ (.head _))))))), .inl (Nat.ne_of_gt (lt21 (L' + 1 + 1)))⟩
          fun p hp => ⟨.tail _ (List.mem_append_left _ hp), .inr (hknc p hp)⟩))))
      have N21 : News s.heap L' h19 ((R, listOf rv.toArray kR) :: (O, oO) :: (Bb, listOf bv.toArray kB) :: (P, listOf ps.toArray eP) :: (L' + 1 + 1 + 1 + 1, oG) :: (L' + 1 + 1 + 1, oR') :: kn) :=
        News.sub N20 (sub_cons (.tail _ (.head _)) (sub_cons (.tail _ (.tail _ (.head _))) (sub_cons (.tail _ (.tail _ (.tail _ (.head _)))) (sub_cons (.tail _ (.tail _ (.tail _ (.tail _ (.head _))))) (sub_cons (.tail _ (.tail _ (.tail _ (.tail _ (.tail _ (.head _)))))) (sub_cons (.head _) fun p hp => .tail _ (.tail _ (.tail _ (.tail _ (.tail _ (.tail _ hp)))))))))))
      clear N20 N18 F18 hdR hNI hdM' hdS'
      repeat' (
        (fail_if_success (with_reducible show wpAny _ _ (exec (Stmt.For _ _ _ _ _) _) _ _ _));
        (fail_if_success (with_reducible show wpAny _ _ (exec (Stmt.Try _ _ _ _ _) _) _ _ _));
        (fail_if_success (with_reducible show wpAny _ _ (exec (Stmt.While _ _ _ _) _) _ _ _));
        (fail_if_success (with_reducible show wpAny _ _ (eval (Expr.ListComp _ _ _ _) _) _ _ _));
        (fail_if_success (with_reducible show wpAny _ _ (exec (Stmt.Assign _ (Expr.ListComp _ _ _ _) _) _) _ _ _));
        (fail_if_success (with_reducible show wpAny _ _ (PySem.call (Value.ref _) _ _) _ _ _));
        (fail_if_success (with_reducible show wpAny _ _ (pyIter _) _ _ _));
        (fail_if_success (with_reducible show TurnQ _ _ _ _ _ _ _ _ _ _));
        (first | walk1 | (dsimp only; walk1)); (first | (with_reducible show wpAny _ _ (subscriptTail _ _ _ _) _ _ _) | (try dsimp only)))
      refine cols_spec (Gd.next X T B F19 rfl rfl) (by exact roomD (hroom ()).1 (by decide)) (by first | exact roomU (hroom ()).2 (by decide) | exact roomU3 (hroom ()).2 (by decide)) (page := pg) ⟨_, News.il N21 (.tail _ (.tail _ (.tail _ (.head _)))), hps⟩ hlead (by omega) ?_
      intro E2 h21 tk21 es2 hk21 hes2 hE2 _
      have he2 : es2 = es := ends_uniq (by rw [hsl, ← hpl]; exact hes2) hesC
      subst he2
      have F21 := F19.keeps hk21
      have N22 := News.keepsAll N21 hk21
      clear F19 N21 hk21
      repeat' (
        (fail_if_success (with_reducible show wpAny _ _ (exec (Stmt.For _ _ _ _ _) _) _ _ _));
        (fail_if_success (with_reducible show wpAny _ _ (exec (Stmt.Try _ _ _ _ _) _) _ _ _));
        (fail_if_success (with_reducible show wpAny _ _ (exec (Stmt.While _ _ _ _) _) _ _ _));
        (fail_if_success (with_reducible show wpAny _ _ (eval (Expr.ListComp _ _ _ _) _) _ _ _));
        (fail_if_success (with_reducible show wpAny _ _ (exec (Stmt.Assign _ (Expr.ListComp _ _ _ _) _) _) _ _ _));
        (fail_if_success (with_reducible show wpAny _ _ (PySem.call (Value.ref _) _ _) _ _ _));
        (fail_if_success (with_reducible show wpAny _ _ (pyIter _) _ _ _));
        (fail_if_success (with_reducible show TurnQ _ _ _ _ _ _ _ _ _ _));
        (first | walk1 | (dsimp only; walk1)); (first | (with_reducible show wpAny _ _ (subscriptTail _ _ _ _) _ _ _) | (try dsimp only)))
      refine rows_spec (Gd.next X T B F21 rfl rfl) (by exact roomD (hroom ()).1 (by decide)) (by first | exact roomU (hroom ()).2 (by decide) | exact roomU3 (hroom ()).2 (by decide)) hE2 (bs := beginsOf sz) ⟨_, News.il N22 (.tail _ (.tail _ (.head _))), hIB⟩ (by omega) (by rw [begins_len]; omega) ?_ hbm ?_
      · intro e he
        obtain ⟨k, hk⟩ := List.mem_iff_getElem?.mp he
        have := (hes.2 k e hk).2.1
        omega
      intro R2 h23 tk23 hk23 hR2 _
      have F23 := F21.keeps hk23
      have N23 := News.keepsAll N22 hk23
      clear F21 N22 hk23 hE2
      rw [hrows] at hR2
      have hR1 : RowsAt h23 R rows := ⟨rv.toArray, News.il N23 (.head _), Paired.imp (fun y r ⟨a, vs, k, q1, q2, q3⟩ => ⟨a, q1, vs, News.il N23 (.tail _ (.tail _ (.tail _ (.tail _ (.tail _ (.tail _ q2)))))), q3⟩) hRL⟩
      refine rows_ne hR1 hR2 (by first | exact roomU (hroom ()).2 (by decide) | exact roomU3 (hroom ()).2 (by decide)) ?_
      clear hR1 hR2
      repeat' (
        (fail_if_success (with_reducible show wpAny _ _ (exec (Stmt.For _ _ _ _ _) _) _ _ _));
        (fail_if_success (with_reducible show wpAny _ _ (exec (Stmt.Try _ _ _ _ _) _) _ _ _));
        (fail_if_success (with_reducible show wpAny _ _ (exec (Stmt.While _ _ _ _) _) _ _ _));
        (fail_if_success (with_reducible show wpAny _ _ (eval (Expr.ListComp _ _ _ _) _) _ _ _));
        (fail_if_success (with_reducible show wpAny _ _ (exec (Stmt.Assign _ (Expr.ListComp _ _ _ _) _) _) _ _ _));
        (fail_if_success (with_reducible show wpAny _ _ (PySem.call (Value.ref _) _ _) _ _ _));
        (fail_if_success (with_reducible show wpAny _ _ (pyIter _) _ _ _));
        (fail_if_success (with_reducible show TurnQ _ _ _ _ _ _ _ _ _ _));
        (first | walk1 | (dsimp only; walk1)); (first | (with_reducible show wpAny _ _ (subscriptTail _ _ _ _) _ _ _) | (try dsimp only)))
      refine comp_assignC (h₀ := s.heap) (L := L') (cl := _) rfl rfl (fun _ _ => rfl) (fun _ => rfl) rfl (by decide) rfl rfl rfl rfl ?_ (fun _ => rfl)
      iterate 1 ((first | walk1 | (dsimp only; walk1)); try dsimp only)
      refine nmL F23.ns rfl ?_
      refine wpAny_Slice (wpAny_evalPart_none (wpAny_evalPart_some ?_))
      iterate 3 ((first | walk1 | (dsimp only; walk1)); try dsimp only)
      refine wpAny_evalPart_none ?_
      dsimp only
      have hbl2 : bv.length = 5 + n + 1 := by rw [hIB.length, begins_len, hsl]
      have hcut : (beginsOf sz).take ((beginsOf sz).length - (- (-1 : Int)).toNat) = (beginsOf sz).dropLast := by
        rw [List.dropLast_eq_take]; rfl
      have hm := kmk_upto_neg hIB (y := -1) (by decide)
      rw [hcut] at hm
      refine slice_K (News.il N23 (.tail _ (.tail _ (.head _)))) .none (.int _ _) hm (by omega) ?_ (by with_unfolding_all rfl) (by intro _; with_unfolding_all rfl)
      intro D25 ws h25 hk25 hD0 hD25 hI25
      have F25 := F23.keeps hk25
      have N25 := News.keepsAll N23 hk25
      clear F23 N23 hm hcut hk25 hD0
      have X25 := Frag.In.keeps X F25.keep
      have T25 := T.keeps F25.keep
      have hwl : ws.length = 5 + n := by rw [hI25.length, List.length_dropLast, begins_len, hsl]; rfl
      have hRp : Paired (fun (v : Value) (r : List Int) => ∃ a, v = .ref a ∧ IntsAt h25 a r) rv rows := Paired.imp (fun y r ⟨a, vs, k, q1, q2, q3⟩ => ⟨a, q1, vs, News.il N25 (.tail _ (.tail _ (.tail _ (.tail _ (.tail _ (.tail _ q2)))))), q3⟩) hRL
      have hRl : h25.IsList R rv.toArray := News.il N25 (.head _)
      have hcR : h25.IsCell (L' + 1 + 1 + 1) (some (.ref R)) := ⟨_, (N25 _ (.tail _ (.tail _ (.tail _ (.tail _ (.tail _ (.head _))))))).1, hdR'⟩
      have hrvl : rv.length = rows.length := Paired.length_eq hRL
      refine compAtC_list (fun _ => true) (fun v y hh => ∃ (b : Int) (t1 t2 : Tok), v = .int b t1 ∧ y = .int (((rows.filter (holds b)).length : Nat) : Int) t2) rfl (isList_of hD25) (Nat.le_trans (by rw [List.size_toArray]; omega : ws.toArray.size ≤ 100) (by decide)) (fun i v C c h₂ tk₂ hv F₂ hc => tests_nil) ?_ ?_
      · intro i v C c h26 tk26 hv _ F26 hc26
        obtain ⟨b, hb, tb, rfl⟩ := IntsAre.at? hI25 i v (by simpa using hv)
        have N26 := newsFor F26
        have hcR26 := hcR.keeps F26.keep
        have hRl26 := hRl.at fun o e => F26.keep _ o e
        clear F25 N25 X T
        iterate 4 ((first | walk1 | (dsimp only; walk1)); try dsimp only)
        refine comp_eval (cl := [("begin", c)]) rfl (by decide) rfl (by decide) rfl ?_ (fun _ => rfl)
        refine nmC hcR26 rfl ?_
        refine compAt_list (rowP h25 b) (fun v y hh => y = v) rfl hRl26 (Nat.le_trans (by rw [List.size_toArray]; omega : rv.toArray.size ≤ 100) (by decide)) ?_ ?_ ?_
        · intro j v2 C2 h27 tk27 hv2 F27
          obtain ⟨r, hr, a, rfl, hra⟩ := Paired.get hRp j v2 (by simpa using hv2)
          have hr4 := (hrb r (List.mem_of_getElem? hr)).1
          rw [rowP_at hra]
          have hra27 := (hra.keeps F26.keep).keeps F27.keep
          obtain ⟨us, hus, hui⟩ := hra27
          obtain ⟨t0, hu0⟩ := ints_at_of hui (j := 0) (by omega)
          obtain ⟨t1, hu1⟩ := ints_at_of hui (j := 1) (by omega)
          have hc27 := hc26.keeps F27.keep
          have N27 := newsFor F27
          have kF27 : Unit → _ := fun _ => F27
          have rowNs := F27.ns
          clear F26 N26
          refine tests_one ?_
          iterate 2 ((first | walk1 | (dsimp only; walk1)); try dsimp only)
          refine nmL rowNs rfl ?_
          iterate 1 ((first | walk1 | (dsimp only; walk1)); try dsimp only)
          refine item_listL hus (by decide) (by decide) hu0 ?_
          iterate 1 ((first | walk1 | (dsimp only; walk1)); try dsimp only)
          refine nmC hc27 rfl ?_
          iterate 2 ((first | walk1 | (dsimp only; walk1)); try dsimp only)
          by_cases hq : r.getD 0 0 ≤ b
          · rw [if_pos (decide_eq_true hq)]
            iterate 3 ((first | walk1 | (dsimp only; walk1)); try dsimp only)
            refine nmL rowNs rfl ?_
            iterate 1 ((first | walk1 | (dsimp only; walk1)); try dsimp only)
            refine item_listL hus (by decide) (by decide) hu0 ?_
            iterate 1 ((first | walk1 | (dsimp only; walk1)); try dsimp only)
            refine nmL rowNs rfl ?_
            iterate 1 ((first | walk1 | (dsimp only; walk1)); try dsimp only)
            refine item_listL hus (by decide) (by decide) hu1 ?_
            iterate 3 ((first | walk1 | (dsimp only; walk1)); try dsimp only)
            refine ⟨?_, _, _, rfl, fun _ _ e => e⟩
            unfold holds
            rw [decide_eq_true hq, Bool.true_and]
          · rw [if_neg (fun e => hq (of_decide_eq_true e))]
            refine ⟨?_, _, _, rfl, fun _ _ e => e⟩
            unfold holds
            rw [decide_eq_false hq, Bool.false_and]
        · intro j v2 C2 h27 tk27 hv2 _ F27
          exact nmL F27.ns rfl ⟨_, _, rfl, fun _ _ e => e, fun _ _ _ => rfl⟩
        · intro D2 h28 tk28 ys hk28 hD2 hpl hPd
          obtain ⟨k2, hget⟩ := hpl
          have eys : ys.toList = rv.filter (rowP h25 b) := paired_eq hPd
          have hyl : ys.toList.length = (rows.filter (holds b)).length := by rw [eys, rowP_count hRp]
          have hyb : (rows.filter (holds b)).length ≤ rows.length := List.length_filter_le _ _
          rw [Array.length_toList] at hyl
          iterate 1 ((first | walk1 | (dsimp only; walk1)); try dsimp only)
          refine len_list (isList_of hget) (by omega) ?_
          exact ⟨h28, _, rfl, hk28, fun hh _ _ => ⟨b, tb, _, rfl, by rw [hyl]⟩⟩
      · intro Dd h29 tk29 ys hk29 hDn hpl hPd
        obtain ⟨kD, hget⟩ := hpl
        have efl : ws.toArray.toList.filter (fun _ => true) = ws := by simp
        rw [efl] at hPd
        have hDI : IntsAre ys.toList ((List.range es2.length).map fun k => ((depthOf es2 k : Nat) : Int)) := by
          have e1 := map_ints hPd hI25
          have e2 := congrArg (List.map fun (x : Nat) => (x : Int)) (depths_law hesC hsz)
          rw [hrows, List.map_map, List.map_map] at e2
          have e3 : ((List.range es2.length).map fun k => ((depthOf es2 k : Nat) : Int)) = (beginsOf sz).dropLast.map fun b => (((rows.filter (holds b)).length : Nat) : Int) := e2.symm
          rw [e3]
          exact e1
        refine ⟨_, F25, fun hF tkF FF hkF => ?_⟩
        have N30 : News s.heap L' hF [(L' + 1 + 1 + 1 + 1, oG), (Dd, listOf ys.toList.toArray kD), (O, oO), (Bb, listOf bv.toArray kB)] := by
          have N29 := News.addK F25 N25 hk29 (o := listOf ys.toList.toArray kD) hDn (by simpa using hget)
          have N29' : News s.heap L' h29 [(L' + 1 + 1 + 1 + 1, oG), (Dd, listOf ys.toList.toArray kD), (O, oO), (Bb, listOf bv.toArray kB)] :=
            News.sub N29 (sub_cons (.tail _ (.tail _ (.tail _ (.tail _ (.tail _ (.head _)))))) (sub_cons (.head _) (sub_cons (.tail _ (.tail _ (.head _))) (sub_cons (.tail _ (.tail _ (.tail _ (.head _)))) (fun _ h => nomatch h)))))
          intro p hp
          have := N29' p hp
          exact ⟨hkF _ _ this.2.1 this.1, this.2⟩
        generalize ys.toList = dv at hDI N30
        clear F25 N25 hPd hget hkF hk29 hDn X25 T25 hRp hRl hcR hI25 hD25 hRL hdR' hknc
        replace FF : Fr s.heap L' hF (fm [("depths", some (.ref Dd)), ("octets", some (.ref O)), ("begins", some (.ref Bb)), ("page", some (.ref P)), ("script", some (.ref l))]) := FF
        have hne30 : ∀ p ∈ [(Dd, listOf dv.toArray kD), (O, oO), (Bb, listOf bv.toArray kB)], p.1 ≠ L' + 1 + 1 + 1 + 1 := by
          intro p hp e
          have h1 := (N30 p (.tail _ hp)).1
          have h2 := (N30 _ (.head _)).1
          rw [e] at h1
          have h3 : p.2 = oG := Option.some.inj (h1.symm.trans h2)
          have h4 : p.2.data = .cell none := by rw [h3]; exact hdG
          simp only [List.mem_cons, List.not_mem_nil, or_false] at hp
          rcases hp with rfl | rfl | rfl
          · cases h4
          · exact hOI.notCell _ h4
          · cases h4
        repeat' (
          (fail_if_success (with_reducible show wpAny _ _ (exec (Stmt.For _ _ _ _ _) _) _ _ _));
          (fail_if_success (with_reducible show wpAny _ _ (exec (Stmt.Try _ _ _ _ _) _) _ _ _));
          (fail_if_success (with_reducible show wpAny _ _ (exec (Stmt.While _ _ _ _) _) _ _ _));
          (fail_if_success (with_reducible show wpAny _ _ (eval (Expr.ListComp _ _ _ _) _) _ _ _));
          (fail_if_success (with_reducible show wpAny _ _ (exec (Stmt.Assign _ (Expr.ListComp _ _ _ _) _) _) _ _ _));
          (fail_if_success (with_reducible show wpAny _ _ (PySem.call (Value.ref _) _ _) _ _ _));
          (fail_if_success (with_reducible show wpAny _ _ (pyIter _) _ _ _));
          (fail_if_success (with_reducible show TurnQ _ _ _ _ _ _ _ _ _ _));
          (first | walk1 | (dsimp only; walk1)); (first | (with_reducible show wpAny _ _ (subscriptTail _ _ _ _) _ _ _) | (try dsimp only)))
        have hlead9 : (Str.ofString "\t ").cps.all (· < 128) = true := by
          rw [show (Str.ofString "\t ").cps = #[9, 32] by decide]; simp
        refine for_cell_str (h₀ := s.heap) (L := L') (lead := Str.ofString "\t ") rfl rfl rfl rfl rfl hlead9 FF N30 hdG hne30 (fun Q' h => Calls.Constant_str (h _ _)) ?_ ?_ (fun _ => rfl)
        · intro i c u h31 tk31 okc hc F31 hok31 N31
          have hc2 : c = 9 ∨ c = 32 := by
            have e : (Str.ofString "\t ").cps = #[9, 32] := by decide
            rw [e] at hc
            rcases i with _ | _ | i
            · simp at hc; exact .inl hc.symm
            · simp at hc; exact .inr hc.symm
            · simp at hc
          have hcG : h31.IsCell (L' + 1 + 1 + 1 + 1) (some (.str ⟨#[c]⟩ u)) := ⟨_, (N31 _ (.head _)).1, hok31⟩
          clear FF N30 hne30
          repeat' (
            (fail_if_success (with_reducible show wpAny _ _ (exec (Stmt.For _ _ _ _ _) _) _ _ _));
            (fail_if_success (with_reducible show wpAny _ _ (exec (Stmt.Try _ _ _ _ _) _) _ _ _));
            (fail_if_success (with_reducible show wpAny _ _ (exec (Stmt.While _ _ _ _) _) _ _ _));
            (fail_if_success (with_reducible show wpAny _ _ (eval (Expr.ListComp _ _ _ _) _) _ _ _));
            (fail_if_success (with_reducible show wpAny _ _ (exec (Stmt.Assign _ (Expr.ListComp _ _ _ _) _) _) _ _ _));
            (fail_if_success (with_reducible show wpAny _ _ (PySem.call (Value.ref _) _ _) _ _ _));
            (fail_if_success (with_reducible show wpAny _ _ (pyIter _) _ _ _));
            (fail_if_success (with_reducible show TurnQ _ _ _ _ _ _ _ _ _ _));
            (first | walk1 | (dsimp only; walk1)); (first | (with_reducible show wpAny _ _ (subscriptTail _ _ _ _) _ _ _) | (try dsimp only)))
          refine comp_eval (cl := _) rfl (by decide) rfl (by decide) rfl ?_ (fun _ => rfl)
          refine nmL F31.ns rfl ?_
          have hdl : dv.length = 5 + n := by
            have := hDI.length
            simpa [hel] using this
          refine compAt_list (fun _ => true) (fun v y hh => ∃ (z : Int) (t1 t2 : Tok), v = .int z t1 ∧ y = .str (Txt.mul ⟨#[c]⟩ z) t2) rfl (News.il N31 (.tail _ (.head _))) (Nat.le_trans (by rw [List.size_toArray]; omega : dv.toArray.size ≤ 100) (by decide)) (fun i v C h₂ tk₂ hv F₂ => tests_nil) ?_ ?_
          · intro j v2 C2 h32 tk32 hv2 _ F32
            obtain ⟨z, hz, tz, rfl⟩ := IntsAre.at? hDI j v2 (by simpa using hv2)
            have hz2 : 0 ≤ z ∧ z ≤ 100 := by
              obtain ⟨k, hk, rfl⟩ := List.mem_map.mp (List.mem_of_getElem? hz)
              have h1 := List.mem_range.mp hk
              have h2 := @depth_le es2 k
              omega
            clear F31 N31
            iterate 1 ((first | walk1 | (dsimp only; walk1)); try dsimp only)
            refine nmC (hcG.keeps F32.keep) rfl ?_
            refine nmL F32.ns rfl ?_
            refine KXi.mul (n := 1) rfl (by decide) (by omega) (by omega) ?_
            intro t' k' _ _
            exact ⟨h32, k', rfl, fun _ _ e => e, fun _ _ _ => ⟨_, _, _, rfl, rfl⟩⟩
          · intro D2 h33 tk33 ys hk33 hD2 hpl hPd
            have efl : dv.toArray.toList.filter (fun _ => true) = dv := by simp
            rw [efl] at hPd
            have hTx : TextsAt h33 D2 (typed c es2) := ⟨ys, hpl.isList, typed_list hPd hDI⟩
            have F33 := F31.keeps hk33
            have N33 := News.keepsAll N31 hk33
            clear N31 hcG hPd hpl
            repeat' (
              (fail_if_success (with_reducible show wpAny _ _ (exec (Stmt.For _ _ _ _ _) _) _ _ _));
              (fail_if_success (with_reducible show wpAny _ _ (exec (Stmt.Try _ _ _ _ _) _) _ _ _));
              (fail_if_success (with_reducible show wpAny _ _ (exec (Stmt.While _ _ _ _) _) _ _ _));
              (fail_if_success (with_reducible show wpAny _ _ (eval (Expr.ListComp _ _ _ _) _) _ _ _));
              (fail_if_success (with_reducible show wpAny _ _ (exec (Stmt.Assign _ (Expr.ListComp _ _ _ _) _) _) _ _ _));
              (fail_if_success (with_reducible show wpAny _ _ (PySem.call (Value.ref _) _ _) _ _ _));
              (fail_if_success (with_reducible show wpAny _ _ (pyIter _) _ _ _));
              (fail_if_success (with_reducible show TurnQ _ _ _ _ _ _ _ _ _ _));
              (first | walk1 | (dsimp only; walk1)); (first | (with_reducible show wpAny _ _ (subscriptTail _ _ _ _) _ _ _) | (try dsimp only)))
            refine ends_spec (Gd.next X T B F33 rfl rfl) (by exact roomD (hroom ()).1 (by decide)) (by first | exact roomU (hroom ()).2 (by decide) | exact roomU3 (hroom ()).2 (by decide)) hTx (typed_lead c es2 hc2 (by omega)) (by rw [typed_len]; omega) ?_
            intro E3 h34 tk34 es3 hk34 hes3 hE3 _
            have he3 : es3 = es2 := typed_ends hc2 hesC (colLess_trans pg) hes3
            subst he3
            have F34 := F33.keeps hk34
            have N34 := News.keepsAll N33 hk34
            have K34 := Kp.trans hk33 hk34
            clear F33 N33 hTx
            repeat' (
              (fail_if_success (with_reducible show wpAny _ _ (exec (Stmt.For _ _ _ _ _) _) _ _ _));
              (fail_if_success (with_reducible show wpAny _ _ (exec (Stmt.Try _ _ _ _ _) _) _ _ _));
              (fail_if_success (with_reducible show wpAny _ _ (exec (Stmt.While _ _ _ _) _) _ _ _));
              (fail_if_success (with_reducible show wpAny _ _ (eval (Expr.ListComp _ _ _ _) _) _ _ _));
              (fail_if_success (with_reducible show wpAny _ _ (exec (Stmt.Assign _ (Expr.ListComp _ _ _ _) _) _) _ _ _));
              (fail_if_success (with_reducible show wpAny _ _ (PySem.call (Value.ref _) _ _) _ _ _));
              (fail_if_success (with_reducible show wpAny _ _ (pyIter _) _ _ _));
              (fail_if_success (with_reducible show TurnQ _ _ _ _ _ _ _ _ _ _));
              (first | walk1 | (dsimp only; walk1)); (first | (with_reducible show wpAny _ _ (subscriptTail _ _ _ _) _ _ _) | (try dsimp only)))
            refine rows_spec (Gd.next X T B F34 rfl rfl) (by exact roomD (hroom ()).1 (by decide)) (by first | exact roomU (hroom ()).2 (by decide) | exact roomU3 (hroom ()).2 (by decide)) hE3 (bs := beginsOf sz) ⟨_, News.il N34 (.tail _ (.tail _ (.tail _ (.head _)))), hIB⟩ (by omega) (by rw [begins_len]; omega) ?_ hbm ?_
            · intro e he
              obtain ⟨k, hk⟩ := List.mem_iff_getElem?.mp he
              have := (hes.2 k e hk).2.1
              omega
            intro R3 h35 tk35 hk35 hR3 _
            have F35 := F34.keeps hk35
            have N35 := News.keepsAll N34 hk35
            have K35 := Kp.trans K34 hk35
            clear F34 N34 hE3
            rw [hrows] at hR3
            repeat' (
              (fail_if_success (with_reducible show wpAny _ _ (exec (Stmt.For _ _ _ _ _) _) _ _ _));
              (fail_if_success (with_reducible show wpAny _ _ (exec (Stmt.Try _ _ _ _ _) _) _ _ _));
              (fail_if_success (with_reducible show wpAny _ _ (exec (Stmt.While _ _ _ _) _) _ _ _));
              (fail_if_success (with_reducible show wpAny _ _ (eval (Expr.ListComp _ _ _ _) _) _ _ _));
              (fail_if_success (with_reducible show wpAny _ _ (exec (Stmt.Assign _ (Expr.ListComp _ _ _ _) _) _) _ _ _));
              (fail_if_success (with_reducible show wpAny _ _ (PySem.call (Value.ref _) _ _) _ _ _));
              (fail_if_success (with_reducible show wpAny _ _ (pyIter _) _ _ _));
              (fail_if_success (with_reducible show TurnQ _ _ _ _ _ _ _ _ _ _));
              (first | walk1 | (dsimp only; walk1)); (first | (with_reducible show wpAny _ _ (subscriptTail _ _ _ _) _ _ _) | (try dsimp only)))
            refine octets_spec (Gd.next X T B F35 rfl rfl) (by exact roomD (hroom ()).1 (by decide)) (by first | exact roomU (hroom ()).2 (by decide) | exact roomU3 (hroom ()).2 (by decide)) hR3 (fun r hr => ?_) (by omega) ?_
            · have := hrb r hr
              exact ⟨fun e => by rw [e] at this; simp at this, by omega, this.2⟩
            intro O3 h36 tk36 hk36 hO3 _
            have F36 := F35.keeps hk36
            have N36 := News.keepsAll N35 hk36
            have K36 := Kp.trans K35 hk36
            clear F35 N35
            have hO4 : IntsAt h36 O (octetsOf rows) := hOI.at (N36 _ (.tail _ (.tail _ (.head _)))).1
            repeat' (
              (fail_if_success (with_reducible show wpAny _ _ (exec (Stmt.For _ _ _ _ _) _) _ _ _));
              (fail_if_success (with_reducible show wpAny _ _ (exec (Stmt.Try _ _ _ _ _) _) _ _ _));
              (fail_if_success (with_reducible show wpAny _ _ (exec (Stmt.While _ _ _ _) _) _ _ _));
              (fail_if_success (with_reducible show wpAny _ _ (eval (Expr.ListComp _ _ _ _) _) _ _ _));
              (fail_if_success (with_reducible show wpAny _ _ (exec (Stmt.Assign _ (Expr.ListComp _ _ _ _) _) _) _ _ _));
              (fail_if_success (with_reducible show wpAny _ _ (PySem.call (Value.ref _) _ _) _ _ _));
              (fail_if_success (with_reducible show wpAny _ _ (pyIter _) _ _ _));
              (fail_if_success (with_reducible show TurnQ _ _ _ _ _ _ _ _ _ _));
              (first | walk1 | (dsimp only; walk1)); (first | (with_reducible show wpAny _ _ (subscriptTail _ _ _ _) _ _ _) | (try dsimp only)))
            obtain ⟨v3, l3, i3⟩ := hO3
            obtain ⟨v4, l4, i4⟩ := hO4
            refine ke_ne_ints l3 l4 i3 i4 (by first | exact roomU (hroom ()).2 (by decide) | exact roomU3 (hroom ()).2 (by decide)) ?_
            have hd9 : (!decide (octetsOf rows = octetsOf rows)) = false := by simp
            rw [hd9]
            repeat' (
              (fail_if_success (with_reducible show wpAny _ _ (exec (Stmt.For _ _ _ _ _) _) _ _ _));
              (fail_if_success (with_reducible show wpAny _ _ (exec (Stmt.Try _ _ _ _ _) _) _ _ _));
              (fail_if_success (with_reducible show wpAny _ _ (exec (Stmt.While _ _ _ _) _) _ _ _));
              (fail_if_success (with_reducible show wpAny _ _ (eval (Expr.ListComp _ _ _ _) _) _ _ _));
              (fail_if_success (with_reducible show wpAny _ _ (exec (Stmt.Assign _ (Expr.ListComp _ _ _ _) _) _) _ _ _));
              (fail_if_success (with_reducible show wpAny _ _ (PySem.call (Value.ref _) _ _) _ _ _));
              (fail_if_success (with_reducible show wpAny _ _ (pyIter _) _ _ _));
              (fail_if_success (with_reducible show TurnQ _ _ _ _ _ _ _ _ _ _));
              (first | walk1 | (dsimp only; walk1)); (first | (with_reducible show wpAny _ _ (subscriptTail _ _ _ _) _ _ _) | (try dsimp only)))
            exact K36
        · intro h37 tk37 F37 N37
          repeat' (
            (fail_if_success (with_reducible show wpAny _ _ (exec (Stmt.For _ _ _ _ _) _) _ _ _));
            (fail_if_success (with_reducible show wpAny _ _ (exec (Stmt.Try _ _ _ _ _) _) _ _ _));
            (fail_if_success (with_reducible show wpAny _ _ (exec (Stmt.While _ _ _ _) _) _ _ _));
            (fail_if_success (with_reducible show wpAny _ _ (eval (Expr.ListComp _ _ _ _) _) _ _ _));
            (fail_if_success (with_reducible show wpAny _ _ (exec (Stmt.Assign _ (Expr.ListComp _ _ _ _) _) _) _ _ _));
            (fail_if_success (with_reducible show wpAny _ _ (PySem.call (Value.ref _) _ _) _ _ _));
            (fail_if_success (with_reducible show wpAny _ _ (pyIter _) _ _ _));
            (fail_if_success (with_reducible show TurnQ _ _ _ _ _ _ _ _ _ _));
            (first | walk1 | (dsimp only; walk1)); (first | (with_reducible show wpAny _ _ (subscriptTail _ _ _ _) _ _ _) | (try dsimp only)))
          exact hret _ _ F37.keep

end Mine
open Mine
set_option maxHeartbeats 8000000 in
theorem PySem.Challenge.cw_pg0146_01_holds : PySem.Challenge.rw_pg0146_01.Holds := by
  refine hd ?_
  k_fill
  intro w s₀ s₁ mg mb G Y fa o pm cd doc dV kV ho hd' hcd hD hmg hg args vals as hpre hlay hrd hwl hlo
  have KX := kIn_of Y
  refine Ground.open G ?_
  intro T B D TE TW
  try (refine guard_noD D (by decide +kernel) ?_; clear D)
  have e147 : mg (Str.ofString "law") = some (.ref 147) := mg_of KX T.g (by k_dflt k_is)
  have hmg' : mg (Str.ofString "law") = some (.ref fa) := hmg
  have efa : fa = 147 := by
    have := hmg'.symm.trans e147
    injection this with q
    injection q
  subst efa
  wrow_args hpre hlay hrd hwl hlo
  rename IntsAre _ _ => hI
  rename Heap.IsList _ _ _ => hL
  rename ¬ _ < _ => hc
  show wpAny _ (aA (1 + claimMargin) 4 (some []) []) (call (.ref 147) [.ref _]) _ _ _
  refine law_spec (s := s₁) ⟨KX, T, below_caller T.heap⟩ (by decide) (by decide) ⟨_, hL, hI⟩ (by omega) ?_
  intro h' tk' hk
  refine GoodW.toG ⟨.inl ⟨_, .bool true, [], rfl, raisesW_false ?_, .bool true, ?_, fun _ => ⟨.nil, fun _ ha => nomatch ha⟩⟩, hk, rfl, hg⟩
  · wrow_none_raised
  · wrow_post

