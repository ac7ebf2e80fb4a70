import PyProof.Rows.All
import Wide.All
import OpenK.AllK
import Wide.FinOn
import PyProof.DictWalks
import KE.KRevSl
import PySem.Challenge.RW_ny0023_01
set_option linter.unusedVariables false
-- Hd
open PySem PySem.W PyProof.Rows
set_option Elab.async false
set_option maxRecDepth 100000
set_option maxHeartbeats 8000000
namespace Mine
open_top hd for PySem.Challenge.rw_ny0023_01
end Mine

-- Base
open PySem PySem.W PyProof.Rows PySem.Calls PySem.Spec
set_option Elab.async false
set_option maxRecDepth 100000
set_option maxHeartbeats 4000000
namespace Mine
noncomputable abbrev PG : Program := PySem.Challenge.rw_ny0023_01.row.prog
def Fill (_ : OpenLaw) (_ : Params → Frag) : Prop := True

/-- what stands at the top, at every heap behind it -/
structure Tp (w : World) (h : Heap) : Prop where
  X : (hd.heap_39 w.params).In h
  g : ∃ mg, h.Ns mainGlobals mg
  b : ∃ mb, h.Ns builtinsNs mb ∧ ∀ x : Str, x ≠ "__name__" → mb x = bootBuiltins x
  nolimit : h.NoLimit
  sm : ∃ o, h.get? sysModules = some o

theorem Tp.keeps {w : World} {h h' : Heap} (t : Tp w h) (k : ∀ b o, h.get? b = some o → h'.get? b = some o) : Tp w h' :=
  ⟨fun a o e => k a o (t.X a o e), let ⟨mg, T⟩ := t.g; ⟨mg, T.keeps k⟩, let ⟨mb, T, e⟩ := t.b; ⟨mb, T.keeps k, e⟩, t.nolimit.keeps k, let ⟨o, e⟩ := t.sm; ⟨o, k _ o e⟩⟩
theorem Tp.fr {w : World} {h h₀ : Heap} {L : Addr} {m : Str → Option Value} (t : Tp w h₀) (F : Fr h₀ L h m) : Tp w h := t.keeps F.keep

section
variable {w : World} {A : Around} {E : Value → Shared → Prop} {s : Shared} {env : Env} {x : Str} {pos : Pos} {v : Value} {Q : Value → Shared → Prop} {m : Str → Option Value}

theorem nm_local (hn : s.heap.Ns env.locals m) (hv : m x = some v) (h : Q v s) (hk : env.scope.kind = .function := by rfl) (hl : env.kindOf x = some .local := by rfl)
    (hd : (x == ("__debug__" : Str)) = false := by decide) : wpAny (model PG w) A (eval (.Name x pos) env) Q E s :=
  wpAny_Name (wpAny_loadName_local hk hl hn hv h) hd
theorem nm_glob (t : Tp w s.heap) (e : nsIn (hd.heap_39 w.params) mainGlobals x = some (some v)) (h : Q v s) (hk : env.scope.kind = .function := by rfl) (hx : env.kindOf x = some .globalImplicit := by rfl)
    (hg : env.globals = mainGlobals := by rfl) (hd : (x == ("__debug__" : Str)) = false := by decide) : wpAny (model PG w) A (eval (.Name x pos) env) Q E s := by
  obtain ⟨mg, T⟩ := t.g
  exact Name_function_global hk hx (loadGlobal_global (by rw [hg]; exact T) (mg_of t.X T e) h) hd
theorem nm_boot (t : Tp w s.heap) (e : nsIn (hd.heap_39 w.params) mainGlobals x = some none) (hb : bootBuiltins x = some v) (h : Q v s) (hk : env.scope.kind = .function := by rfl) (hx : env.kindOf x = some .globalImplicit := by rfl)
    (hg : env.globals = mainGlobals := by rfl) (hbn : env.builtins = builtinsNs := by rfl) (hn : x ≠ "__name__" := by decide) (hd : (x == ("__debug__" : Str)) = false := by decide) : wpAny (model PG w) A (eval (.Name x pos) env) Q E s := by
  obtain ⟨mg, T⟩ := t.g
  obtain ⟨mb, TB, eb⟩ := t.b
  exact Name_function_global hk hx (loadGlobal_builtin (by rw [hg]; exact T) (mg_none_of t.X T e) (by rw [hbn]; exact TB) ((eb x hn).trans hb) h) hd

/-- a def of the top is called; it raises nothing -/
theorem call_fn {f : Addr} {o : Obj} {fd : FuncData} {body : List Stmt} {args : List Value} {kw : List (Str × Value)} {binds : List (Str × Value)} (t : Tp w s.heap) (hroom : A.depth < recursionLimit)
    (ho : (hd.heap_39 w.params).lookup f = some o) (hdata : o.data = .func fd) (hcd : codeIn (hd.heap_39 w.params) fd.code fd.qualname = true)
    (hbody : fd.body = .stmts body) (hbind : BindsTo s fd ⟨args, kw⟩ binds)
    (hcell : ∀ x ∈ fd.scope.names, x.2 ≠ .cell) (hloc : ∀ x ∈ binds, fd.scope.names.lookup x.1 = some .local)
    (h : ∀ L h₁, L = s.heap.objs.size → Fr s.heap L h₁ (fun x => binds.reverse.lookup x) → Tp w s.heap →
      wpAny (model PG w) (A.deeper (callEnv fd L f)) (execs body (callEnv fd L f)) (fun fl s' => Q (match fl with | .ret v => v | _ => .none) s') (fun _ _ => False) { s with heap := h₁, toks := s.toks + binds.length })
    (hco : fd.scope.isCoroutine = false) (hgen : fd.scope.isGenerator = false) (hk : fd.scope.kind = .function) :
    wpAny (model PG w) A (call (.ref f) args kw) Q E s := by
  refine wpAny_call (codeAny_call_def hroom (t.X _ _ ho) hdata t.nolimit (codeRec_of t.X hcd) hbody hbind hcell hloc (fun h₁ hn hk₁ => ?_) hco hgen hk)
  exact wpAny_mono (h _ h₁ rfl ⟨hn, hk₁, Nat.le_refl _⟩ t) (fun _ _ q => q) fun _ _ q => q.elim
end

end Mine

-- LC
open PySem PySem.W PyProof.Rows PySem.Calls PySem.Spec
set_option Elab.async false
set_option maxRecDepth 100000
set_option maxHeartbeats 4000000
namespace Mine

/-- all objects of the first heap stand in the second -/
def Gr (h h' : Heap) : Prop := ∀ b o, h.get? b = some o → h'.get? b = some o
theorem Gr.refl (h : Heap) : Gr h h := fun _ _ e => e
theorem Gr.trans {h h' h'' : Heap} (a : Gr h h') (b : Gr h' h'') : Gr h h'' := fun x o e => b x o (a x o e)
theorem Gr.push (h : Heap) (o : Obj) : Gr h (h.push o) := fun _ _ e => Heap.get?_push_of_some _ e
theorem Gr.list {h h' : Heap} (g : Gr h h') {a : Addr} {its : Array Value} (x : h.IsList a its) : h'.IsList a its := x.at fun o e => g a o e
theorem Gr.ns {h h' : Heap} (g : Gr h h') {a : Addr} {m : Str → Option Value} (x : h.Ns a m) : h'.Ns a m := x.keeps g
theorem Gr.fr {h₀ h h' : Heap} {L : Addr} {m : Str → Option Value} (g : Gr h h') (F : Fr h₀ L h m) : Fr h₀ L h' m := F.keeps g
theorem Gr.news {h₀ h h' : Heap} {L : Addr} {nw : List (Addr × Obj)} (g : Gr h h') (N : News h₀ L h nw) : News h₀ L h' nw := N.grown g
theorem fresh_none {h : Heap} {a : Addr} (ha : h.objs.size ≤ a) : h.get? a = none := Heap.get?_none_of_le ha
theorem fresh_ne {h : Heap} {a b : Addr} {o : Obj} (ha : h.objs.size ≤ a) (e : h.get? b = some o) : b ≠ a := fun q => by
  have := Heap.lt_size e; rw [q] at this; exact absurd this (Nat.not_lt.mpr ha)

section
variable {w : World} {A : Around} {E : Value → Shared → Prop} {s : Shared} {env : Env}

/-- the loop of a comprehension with this target and these tests, by an invariant -/
def LcLoop (w : World) (A : Around) (target : Expr) (ifs : List Expr) : Prop :=
  ∀ (elt iter : Expr) (scope : Scope) (pos : Pos) (it acc : Value) (env : Env) (R : Result → Shared → Prop) (s : Shared) (I : Nat → Shared → Prop),
    (∀ n s, I n s → wpAny (model PG w) A (pyNext it) (fun r s₁ => match r with
      | none => R (.ok .next) s₁
      | some v => wpAny (model PG w) A (letOwnedTupleGo target it v) (fun _ s₀ => wpAny (model PG w) A (assign target env v) (fun _ s₂ =>
          wpAny (model PG w) A (forIn ifs true fun c r => if r = true then do let ok ← isTrue c env (eval c env); pure (ForInStep.yield ok) else pure (ForInStep.yield r)) (fun ok s₃ =>
            if ok = true then wpAny (model PG w) A (eval elt env) (fun x s₄ =>
              wpAny (model PG w) A (call (.builtin "list.append") [acc, x]) (fun _ s₅ => ∃ m, m < n ∧ I m s₅) (notedBy (model PG w) A env fun e s' => R (.error e) s') s₄) (notedBy (model PG w) A env fun e s' => R (.error e) s') s₃
            else ∃ m, m < n ∧ I m s₃) (notedBy (model PG w) A env fun e s' => R (.error e) s') s₂)
          (notedBy (model PG w) A env fun e s' => R (.error e) s') s₀) (notedBy (model PG w) A env fun e s' => R (.error e) s') s₁) (notedBy (model PG w) A env fun e s' => R (.error e) s') s) →
    ∀ n, I n s → codeAny (model PG w) A (.compLoop (.ListComp elt [⟨target, iter, ifs, 0⟩] scope pos) 0 it acc env) R s
theorem behind_pure {α β : Type} {M : Model} {t : Sem α} {a : α} {u : Sem β} {Q : β → Shared → Prop} {E E' : Value → Shared → Prop} {s : Shared} (e : t = pure a) (h : wpAny M A t (fun _ s₀ => wpAny M A u Q E' s₀) E s) : wpAny M A u Q E' s := by
  subst e
  exact fun Γ p hΓ => (h Γ p hΓ) Γ p hΓ
theorem behind_tests {β : Type} {M : Model} {t : Sem Bool} {u : Sem β} {Q : β → Shared → Prop} {P : Shared → Prop} {E E' : Value → Shared → Prop} {s : Shared} (e : t = pure true) (h : wpAny M A t (fun ok s₀ => if ok = true then wpAny M A u Q E' s₀ else P s₀) E s) : wpAny M A u Q E' s := by
  subst e
  exact fun Γ p hΓ => (show wpAny M A u Q E' s from h Γ p hΓ) Γ p hΓ
/-- one name: the library's loop -/
theorem lcl_name {x : Str} {px : Pos} {ifs : List Expr} : LcLoop w A (.Name x px) ifs := by
  intro elt iter scope pos it acc env R s I turn n h
  refine codeAny_compLoop_tests I (fun n s hI => wpAny_mono (turn n s hI) (fun r s₁ h₁ => ?_) fun _ _ e => e) n h
  cases r with
  | none => exact h₁
  | some v => exact behind_pure rfl h₁
/-- a tuple of names, no test: the library's loop -/
theorem lcl_tuple {elts : List Expr} {k : Nat} {tp : Pos} : LcLoop w A (.Tuple elts k tp) [] := by
  intro elt iter scope pos it acc env R s I turn n h
  refine LCp.codeAny_compLoop_pair I (fun n s hI => wpAny_mono (turn n s hI) (fun r s₁ h₁ => ?_) fun _ _ e => e) n h
  cases r with
  | none => exact h₁
  | some v => exact wpAny_mono h₁ (fun _ s₀ h₀ => wpAny_mono h₀ (fun _ s₂ h₂ => behind_tests rfl h₂) fun _ _ e => e) fun _ _ e => e

/-- a turn: its assign, its tests, its element -/
def LcTurn (w : World) (A : Around) (env : Env) (scope : Scope) (cl : List (Str × Addr)) (target elt : Expr) (ifs : List Expr) (s₂ : Shared) (wr : List Addr) (n : Nat) (P : Nat → Value → Heap → Prop) (J : Addr → Addr → Nat → List Value → Heap → Prop) : Prop :=
  ∀ C D i v ys h tk m (E' : Value → Shared → Prop), i < n → s₂.heap.objs.size ≤ C → s₂.heap.objs.size ≤ D → C ≠ D → P i v h → h.Ns C m → (∃ o, h.get? D = some o) → J C D i ys h → (∀ b o, b ∉ wr → s₂.heap.get? b = some o → h.get? b = some o) →
    wpAny (model PG w) A (assign target (compEnvC scope cl C env) v) (fun _ s₄ =>
      wpAny (model PG w) A (forIn ifs true fun c r => if r = true then do let ok ← isTrue c (compEnvC scope cl C env) (eval c (compEnvC scope cl C env)); pure (ForInStep.yield ok) else pure (ForInStep.yield r)) (fun ok s₅ =>
        if ok = true then wpAny (model PG w) A (eval elt (compEnvC scope cl C env)) (fun y s₆ => ∃ h' tk' m', s₆ = { s₂ with heap := h', toks := tk' } ∧ h'.Ns C m' ∧ (∀ b o, b ≠ C → h.get? b = some o → h'.get? b = some o) ∧ J C D (i + 1) (ys ++ [y]) h') E' s₅
        else ∃ h' tk' m', s₅ = { s₂ with heap := h', toks := tk' } ∧ h'.Ns C m' ∧ (∀ b o, b ≠ C → h.get? b = some o → h'.get? b = some o) ∧ J C D (i + 1) ys h') E' s₄) E' { s₂ with heap := h, toks := tk }

theorem lc_block {elt target iter : Expr} {ifs : List Expr} {scope : Scope} {cl : List (Str × Addr)} {pos : Pos} {s₂ : Shared} {I : Addr} {fp wr : List Addr} {n : Nat} {P Md : Nat → Value → Heap → Prop} {St : Nat → Heap → Prop} {RR : Value → Addr → Result → Shared → Prop}
    (LR : LcLoop w A target ifs) (W : KTurns PG w A target I fp wr n P Md St) (hself : ∀ (s : Shared) (Q : Value → Shared → Prop) (E : Value → Shared → Prop), St 0 s.heap → Q (.ref I) s → wpAny (model PG w) A (pyIter (.ref I)) Q E s) (hsz : n ≤ sizeLine)
    (hcell : ∀ y ∈ scope.names, y.2 ≠ .cell) (hkind : scope.kind = .function) (hst : St 0 s₂.heap) (hfp : ∀ b ∈ fp, b < s₂.heap.objs.size)
    (J : Addr → Addr → Nat → List Value → Heap → Prop)
    (hJ0 : ∀ C D h, s₂.heap.objs.size ≤ C → s₂.heap.objs.size ≤ D → C ≠ D → Gr s₂.heap h → J C D 0 [] h)
    (hJf : ∀ C D i ys h h', J C D i ys h → (∀ b o, b ∉ wr → b ≠ C → b ≠ D → h.get? b = some o → h'.get? b = some o) → J C D i ys h')
    (turn : LcTurn w A env scope cl target elt ifs s₂ wr n P J)
    (hRR : ∀ C D h tk m ys, s₂.heap.objs.size ≤ C → s₂.heap.objs.size ≤ D → C ≠ D → h.Ns C m → h.PlainList D ys.toArray → J C D n ys h → (∀ b o, b ∉ wr → s₂.heap.get? b = some o → h.get? b = some o) → RR (.ref D) C (.ok .next) { s₂ with heap := h, toks := tk }) :
    wpAny (model PG w) A (newList []) (fun acc s₃ => wpAny (model PG w) A (newFunctionEnv scope env.globals cl [] env.qual none .none (some env)) (fun cenv s₄ =>
      codeAny (model PG w) A (.compStart (.ListComp elt [⟨target, iter, ifs, 0⟩] scope pos) 0 (.ref I) acc { cenv with scope := relabel scope env }) (RR acc cenv.locals) s₄) E s₃) E s₂ := by
  refine wpAny_newObj_type (wpAny_newFunctionEnv hcell (by intro y hy; simp at hy) (fun h₁ hns₁ hsb₁ => ?_) hkind)
  dsimp only at hns₁ hsb₁ ⊢
  generalize hH2 : s₂.heap.push { cls := .type "list", dict := none, data := .seq ([] : List Value).toArray } = H2 at hns₁ hsb₁ ⊢
  have hC : H2.objs.size = s₂.heap.objs.size + 1 := by rw [← hH2, Heap.size_push]
  have hDC : s₂.heap.objs.size ≠ H2.objs.size := by rw [hC]; exact Nat.ne_of_lt (Nat.lt_succ_self _)
  have hCle : s₂.heap.objs.size ≤ H2.objs.size := by rw [hC]; exact Nat.le_succ _
  have hDle : s₂.heap.objs.size ≤ s₂.heap.objs.size := Nat.le_refl _
  have below : ∀ b, b < s₂.heap.objs.size → b ≠ H2.objs.size ∧ b ≠ s₂.heap.objs.size := fun b hb => ⟨by rw [hC]; exact Nat.ne_of_lt (Nat.lt_succ_of_lt hb), Nat.ne_of_lt hb⟩
  have old : Gr s₂.heap h₁ := fun b o e => hsb₁.extBut b o (below b (Heap.lt_size e)).1 (Heap.get?_push_of_some _ (hH2 ▸ Heap.get?_push_of_some _ e))
  have hacc : h₁.PlainList s₂.heap.objs.size #[] := ⟨_, hsb₁.extBut _ _ hDC (Heap.get?_push_of_some _ (hH2 ▸ Heap.get?_push_size _ rfl))⟩
  have hst₁ : St 0 h₁ := W.frame _ _ _ hst fun b _ o e => old b o e
  generalize hDD : s₂.heap.objs.size = D at *
  generalize hCC : H2.objs.size = C at *
  have hDf : D ∉ fp := fun hm => Nat.lt_irrefl _ (hfp _ hm)
  have hCf : C ∉ fp := fun hm => by have := hfp _ hm; rw [hC] at this; exact Nat.lt_irrefl _ (Nat.lt_of_succ_lt this)
  have hDw : D ∉ wr := fun hm => hDf (W.sub _ hm)
  have hCw : C ∉ wr := fun hm => hCf (W.sub _ hm)
  have loop : ∀ s₃ : Shared, s₃ = { s₂ with heap := h₁, toks := s₂.toks + ([] : List (Str × Value)).length } →
      codeAny (model PG w) A (.compLoop (.ListComp elt [⟨target, iter, ifs, 0⟩] scope pos) 0 (.ref I) (.ref D) (compEnvC scope cl C env))
        (RR (.ref D) C) s₃ := by
    rintro s₃ rfl
    refine LR _ _ _ _ _ _ _ _ _
      (fun k s' => ∃ h' tk i ys m', s' = { s₂ with heap := h', toks := tk } ∧ i ≤ n ∧ k = n + 1 - i ∧ ys.length ≤ i ∧ St i h' ∧ h'.Ns C m' ∧ h'.PlainList D ys.toArray ∧ J C D i ys h' ∧ (∀ b o, b ∉ wr → s₂.heap.get? b = some o → h'.get? b = some o)) ?_ (n + 1)
      ⟨h₁, _, 0, [], _, rfl, Nat.zero_le _, rfl, Nat.le_refl _, hst₁, hns₁, hacc, hJ0 C D h₁ (hDD ▸ hCle) (hDD ▸ hDle) (Ne.symm hDC) old, fun b o _ e => old b o e⟩
    rintro k s' ⟨h', tk, i, ys, m', rfl, hi, rfl, hyl, hst', hn', hD', hJ', hk'⟩
    by_cases hlt : i < n
    · refine W.item i _ _ _ hlt hst' fun v h₂ tk₂ hMd hk₂ => ?_
      refine W.go i v _ _ _ hMd fun h₃ hP hst₃ hk₃ => ?_
      have up : ∀ b o, b ∉ wr → h'.get? b = some o → h₃.get? b = some o := fun b o hb e => hk₃ b o hb (hk₂ b o hb e)
      have hn₃ : h₃.Ns C m' := hn'.at' fun o e => up _ o hCw e
      have hD₃ : h₃.PlainList D ys.toArray := hD'.at fun o e => up _ o hDw e
      have hJ₃ : J C D i ys h₃ := hJf C D i ys h' h₃ hJ' fun b o hb _ _ e => up b o hb e
      refine wpAny_mono (turn C D i v ys h₃ tk₂ m' _ hlt (hDD ▸ hCle) (hDD ▸ hDle) (Ne.symm hDC) hP hn₃ (let ⟨_, e⟩ := hD₃; ⟨_, e⟩) hJ₃ fun b o hb e => up b o hb (hk' b o hb e)) (fun _ s₄ h₄ => wpAny_mono h₄ (fun ok s₅ h₅ => ?_) fun _ _ e => e) fun _ _ e => e
      have stUp : ∀ h₆ : Heap, (∀ b o, b ≠ C → h₃.get? b = some o → h₆.get? b = some o) → St (i + 1) h₆ := fun h₆ k₆ => W.frame _ _ _ hst₃ fun b hb o e => k₆ b o (fun q => hCf (q ▸ hb)) e
      cases ok with
      | false =>
        simp only [Bool.false_eq_true, if_false] at h₅ ⊢
        obtain ⟨h₆, tk₆, m₆, rfl, hn₆, k₆, hJ₆⟩ := h₅
        exact ⟨n + 1 - (i + 1), by omega, h₆, tk₆, i + 1, ys, m₆, rfl, hlt, rfl, Nat.le_succ_of_le hyl, stUp h₆ k₆, hn₆, hD₃.at fun o e => k₆ _ o hDC e, hJ₆, fun b o hb e => k₆ b o (below b (hDD ▸ Heap.lt_size e)).1 (up b o hb (hk' b o hb e))⟩
      | true =>
        simp only [if_true] at h₅ ⊢
        refine wpAny_mono h₅ (fun y s₆ h₆ => ?_) fun _ _ e => e
        obtain ⟨h₆, tk₆, m₆, rfl, hn₆, k₆, hJ₆⟩ := h₆
        have hys : ys.toArray.size ≤ sizeLine := by rw [List.size_toArray]; omega
        refine wpAny_list_append_plain (hsz := hys) (hD₃.at fun o e => k₆ _ o hDC e) fun h₇ hl₇ hs₇ => ?_
        refine ⟨n + 1 - (i + 1), by omega, h₇, tk₆, i + 1, ys ++ [y], m₆, rfl, hlt, rfl, by rw [List.length_append, List.length_singleton]; omega, ?_, hn₆.sameBut hs₇ (Ne.symm hDC), ?_, ?_, ?_⟩
        · exact W.frame _ _ _ (stUp h₆ k₆) fun b hb o e => hs₇.extBut b o (fun q => hDf (q ▸ hb)) e
        · rw [← List.push_toArray]; exact hl₇
        · exact hJf C D (i + 1) (ys ++ [y]) h₆ h₇ hJ₆ fun b o _ _ hb e => hs₇.extBut b o hb e
        · exact fun b o hb e => hs₇.extBut b o (below b (hDD ▸ Heap.lt_size e)).2 (k₆ b o (below b (hDD ▸ Heap.lt_size e)).1 (up b o hb (hk' b o hb e)))
    · obtain rfl : i = n := by omega
      refine W.done _ _ _ hst' fun h₂ tk₂ hk₂ => ?_
      exact hRR C D h₂ tk₂ m' ys (hDD ▸ hCle) (hDD ▸ hDle) (Ne.symm hDC) (hn'.at' fun o e => hk₂ _ o hCw e) (hD'.at fun o e => hk₂ _ o hDw e) (hJf C D i ys h' h₂ hJ' fun b o hb _ _ e => hk₂ b o hb e) fun b o hb e => hk₂ b o hb (hk' b o hb e)
  exact codeAny_compStart_list (loop _ rfl) (hself _ _ _ hst₁ (loop _ rfl))

/-- what the source has laid, what a turn does, what is behind -/
def LcAt (w : World) (A : Around) (env : Env) (scope : Scope) (cl : List (Str × Addr)) (target elt : Expr) (ifs : List Expr) (it : Value) (s₂ : Shared) (wj : List Addr) (Fin : List Addr → (List Value → Addr → Heap → Prop) → Prop) : Prop :=
  ∃ (I : Addr) (fp wr : List Addr) (n : Nat) (P Md : Nat → Value → Heap → Prop) (St : Nat → Heap → Prop) (J : Addr → Addr → Nat → List Value → Heap → Prop),
    it = .ref I ∧ KTurns PG w A target I fp wr n P Md St ∧ (∀ (s : Shared) (Q : Value → Shared → Prop) (E : Value → Shared → Prop), St 0 s.heap → Q (.ref I) s → wpAny (model PG w) A (pyIter (.ref I)) Q E s) ∧ n ≤ sizeLine ∧
    St 0 s₂.heap ∧ (∀ b ∈ fp, b < s₂.heap.objs.size) ∧ (∀ C D h, s₂.heap.objs.size ≤ C → s₂.heap.objs.size ≤ D → C ≠ D → Gr s₂.heap h → J C D 0 [] h) ∧
    (∀ C D i ys h h', J C D i ys h → (∀ b o, b ∉ wr → b ∉ wj → b ≠ C → b ≠ D → h.get? b = some o → h'.get? b = some o) → J C D i ys h') ∧
    LcTurn w A env scope cl target elt ifs s₂ wr n P J ∧ Fin wr (fun ys D h => ∃ C, J C D n ys h)

theorem lc_eval {elt target iter : Expr} {ifs : List Expr} {scope : Scope} {cl : List (Str × Addr)} {pos : Pos} {Q : Value → Shared → Prop}
    (LR : LcLoop w A target ifs) (hclos : closureFor scope env = pure cl) (hcell : ∀ y ∈ scope.names, y.2 ≠ .cell) (hkind : scope.kind = .function)
    (hnames : ∀ y ∈ scope.names, y.2 = .local → scope.names.lookup y.1 = some .local)
    (h : wpAny (model PG w) A (eval iter env) (fun xv s₁ => wpAny (model PG w) A (pyIter xv) (fun it s₂ => LcAt w A env scope cl target elt ifs it s₂ [] fun wr G =>
      ∀ D h' tk ys, s₂.heap.objs.size ≤ D → h'.PlainList D ys.toArray → G ys D h' → (∀ b o, b ∉ wr → s₂.heap.get? b = some o → h'.get? b = some o) → Q (.ref D) { s₂ with heap := h', toks := tk }) E s₁) E s)
    (hs : ∀ x, foldedSetIterable iter env x = pure x := by intro _; rfl) :
    wpAny (model PG w) A (eval (.ListComp elt [⟨target, iter, ifs, 0⟩] scope pos) env) Q E s := by
  rw [eval_ListComp]
  refine wpAny_comprehension_free (use := none) rfl hs hclos hkind hnames (wpAny_mono h (fun xv s₁ h₁ => wpAny_mono h₁ (fun it s₂ h₂ => ?_) fun _ _ e => e) fun _ _ e => e)
  obtain ⟨I, fp, wr, n, P, Md, St, J, rfl, W, hself, hsz, hst, hfp, hJ0, hJf, turn, fin⟩ := h₂
  have hJf' : ∀ C D i ys h h', J C D i ys h → (∀ b o, b ∉ wr → b ≠ C → b ≠ D → h.get? b = some o → h'.get? b = some o) → J C D i ys h' := fun C D i ys h h' j k => hJf C D i ys h h' j fun b o hb _ h1 h2 e => k b o hb h1 h2 e
  refine lc_block (RR := fun acc C => compPost (model PG w) A E none Q acc C) LR W hself hsz hcell hkind hst hfp J hJ0 hJf' turn ?_
  intro C D h' tk m' ys hC hD hCD hn hl hJ hk
  refine ⟨m', hn, fun h'' hs'' => fin D h'' tk ys hD (hl.extBut hs''.extBut (Ne.symm hCD)) ⟨C, hJf' C D n ys h' h'' hJ fun b o _ hb _ e => hs''.extBut b o hb e⟩ fun b o hb e => hs''.extBut b o (fresh_ne hC e) (hk b o hb e)⟩

theorem lc_assign {elt target iter : Expr} {ifs : List Expr} {y : Str} {py : Pos} {scope : Scope} {cl : List (Str × Addr)} {pos spos : Pos} {Q : Flow → Shared → Prop}
    (LR : LcLoop w A target ifs) (hsw : swapsWith (.ListComp elt [⟨target, iter, ifs, 0⟩] scope pos) (some (.Name y py)) spos.line env = pure true)
    (hclos : closureFor scope env = pure cl) (hcell : ∀ z ∈ scope.names, z.2 ≠ .cell) (hkind : scope.kind = .function)
    (hnames : ∀ z ∈ scope.names, z.2 = .local → scope.names.lookup z.1 = some .local)
    (hy : env.kindOf y = some .local) (hp : (env.scope.kind == .class || (env.scope.kind == .module && env.locals != env.globals)) = false)
    (h : wpAny (model PG w) A (eval iter env) (fun xv s₁ => wpAny (model PG w) A (pyIter xv) (fun it s₂ => LcAt w A env scope cl target elt ifs it s₂ [env.locals] fun wr G =>
      ∃ m, s₂.heap.Ns env.locals m ∧ env.locals ∉ wr ∧ ∀ D h' tk ys, s₂.heap.objs.size ≤ D → h'.PlainList D ys.toArray → G ys D h' → h'.Ns env.locals (fun z => if z = y then some (.ref D) else m z) →
        (∀ b o, b ∉ wr → b ≠ env.locals → s₂.heap.get? b = some o → h'.get? b = some o) → Q .next { s₂ with heap := h', toks := tk }) E s₁) E s)
    (hs : ∀ x, foldedSetIterable iter env x = pure x := by intro _; rfl) :
    wpAny (model PG w) A (exec (.Assign [.Name y py] (.ListComp elt [⟨target, iter, ifs, 0⟩] scope pos) spos) env) Q E s := by
  rw [exec_Assign_Name_used _ _ _ _ hsw]
  refine wpAny_bind (wpAny_standAt (wpAny_bind ?_))
  show wpAny _ A (do let _ ← comprehension (.ListComp elt [⟨target, iter, ifs, 0⟩] scope pos) scope env _ (newList []) false (eval iter env) (some (assign (.Name y py) env))) _ _ s
  refine wpAny_bind (wpAny_mono (wpAny_comprehension_free (use := some (assign (.Name y py) env)) (Q := fun _ s' => Q .next s') rfl hs hclos hkind hnames
    (wpAny_mono h (fun xv s₁ h₁ => wpAny_mono h₁ (fun it s₂ h₂ => ?_) fun _ _ e => e) fun _ _ e => e)) (fun _ s' hq => wpAny_pure (wpAny_pure hq)) fun _ _ e => e)
  obtain ⟨I, fp, wr, n, P, Md, St, J, rfl, W, hself, hsz, hst, hfp, hJ0, hJf, turn, m, hnL, hLw, fin⟩ := h₂
  have hJf' : ∀ C D i ys h h', J C D i ys h → (∀ b o, b ∉ wr → b ≠ C → b ≠ D → h.get? b = some o → h'.get? b = some o) → J C D i ys h' := fun C D i ys h h' j k => hJf C D i ys h h' j fun b o hb _ h1 h2 e => k b o hb h1 h2 e
  refine lc_block (RR := fun acc C => compPost (model PG w) A E (some (assign (.Name y py) env)) (fun _ s' => Q .next s') acc C) LR W hself hsz hcell hkind hst hfp J hJ0 hJf' turn ?_
  intro C D h' tk m' ys hC hD hCD hn hl hJ hk
  have hLlt := hnL.lt
  have hLC : env.locals ≠ C := fun q => by rw [q] at hLlt; exact absurd hLlt (Nat.not_lt.mpr hC)
  have hLD : env.locals ≠ D := fun q => by rw [q] at hLlt; exact absurd hLlt (Nat.not_lt.mpr hD)
  show wpAny _ A (assign (.Name y py) env (.ref D)) _ _ _
  refine wpAny_assign_Name (wpAny_storeName_local hy (hnL.at' fun o e => hk _ o hLw e) (fun h₂ hn₂ hs₂ => ?_) hp)
  refine ⟨m', hn.sameBut hs₂ (Ne.symm hLC), fun h'' hs'' => ?_⟩
  refine fin D h'' _ ys hD ((hl.extBut hs₂.extBut (Ne.symm hLD)).extBut hs''.extBut (Ne.symm hCD)) ⟨C, hJf C D n ys h' h'' hJ fun b o _ hb hbC _ e => hs''.extBut b o hbC (hs₂.extBut b o (by simpa using hb) e)⟩ (hn₂.sameBut hs'' hLC) fun b o hb hbL e => hs''.extBut b o (fresh_ne hC e) (hs₂.extBut b o hbL (hk b o hb e))
end
end Mine

-- Src
open PySem PySem.W PyProof.Rows PySem.Calls PySem.Spec
set_option Elab.async false
set_option maxRecDepth 100000
set_option maxHeartbeats 4000000
namespace Mine

/-- an iterator: its turns; what it writes is new to the heap hb -/
def Src (w : World) (A : Around) (target : Expr) (hb : Heap) (n : Nat) (P : Nat → Value → Heap → Prop) (it : Value) (s₂ : Shared) : Prop :=
  ∃ (I : Addr) (fp wr : List Addr) (Md : Nat → Value → Heap → Prop) (St : Nat → Heap → Prop),
    it = .ref I ∧ KTurns PG w A target I fp wr n P Md St ∧ (∀ (s : Shared) (Q : Value → Shared → Prop) (E : Value → Shared → Prop), St 0 s.heap → Q (.ref I) s → wpAny (model PG w) A (pyIter (.ref I)) Q E s) ∧
    St 0 s₂.heap ∧ (∀ b ∈ fp, b < s₂.heap.objs.size) ∧ (∀ b ∈ wr, hb.get? b = none)
/-- the same; what it reads is new too -/
def SrcN (w : World) (A : Around) (target : Expr) (hb : Heap) (n : Nat) (P : Nat → Value → Heap → Prop) (it : Value) (s₂ : Shared) : Prop :=
  ∃ (I : Addr) (fp wr : List Addr) (Md : Nat → Value → Heap → Prop) (St : Nat → Heap → Prop),
    it = .ref I ∧ KTurns PG w A target I fp wr n P Md St ∧ (∀ (s : Shared) (Q : Value → Shared → Prop) (E : Value → Shared → Prop), St 0 s.heap → Q (.ref I) s → wpAny (model PG w) A (pyIter (.ref I)) Q E s) ∧
    St 0 s₂.heap ∧ (∀ b ∈ fp, b < s₂.heap.objs.size) ∧ (∀ b ∈ wr, hb.get? b = none) ∧ (∀ b ∈ fp, hb.get? b = none)
theorem SrcN.src {w : World} {A : Around} {target : Expr} {hb : Heap} {n : Nat} {P : Nat → Value → Heap → Prop} {it : Value} {s₂ : Shared} (x : SrcN w A target hb n P it s₂) : Src w A target hb n P it s₂ :=
  let ⟨I, fp, wr, Md, St, a, b, c, d, e, f, _⟩ := x; ⟨I, fp, wr, Md, St, a, b, c, d, e, f⟩

theorem Gr.no {h h' : Heap} {a : Addr} (g : Gr h h') (e : h'.get? a = none) : h.get? a = none := by
  cases q : h.get? a with
  | none => rfl
  | some o => rw [g a o q] at e; cases e
theorem Gr.fresh {h h' : Heap} {a : Addr} (g : Gr h h') (ha : h'.objs.size ≤ a) : h.get? a = none := g.no (fresh_none ha)

section
variable {w : World} {A : Around} {E : Value → Shared → Prop} {s : Shared} {env : Env}

/-- the state behind: the same but for the heap and the tokens; old objects kept -/
def Upd (s s' : Shared) : Prop := ∃ h tk, s' = { s with heap := h, toks := tk } ∧ Gr s.heap h

theorem Upd.behind {s₂ : Shared} {h' : Heap} {tk' : Nat} (u : Upd { s with heap := h', toks := tk' } s₂) (g : Gr s.heap h') : Upd s s₂ :=
  let ⟨h, tk, e, g'⟩ := u; ⟨h, tk, e, g.trans g'⟩

theorem ofW {x : Str} {px : Pos} {hb : Heap} {I : Addr} {fp wr : List Addr} {n : Nat} {P : Nat → Value → Prop} {St : Nat → Heap → Prop} {s₂ : Shared} (W : Walks PG w A I fp wr n P St) (hst : St 0 s₂.heap)
    (hfp : ∀ b ∈ fp, b < s₂.heap.objs.size) (hwr : ∀ b ∈ wr, hb.get? b = none) : Src w A (.Name x px) hb n (fun i v _ => P i v) (.ref I) s₂ :=
  ⟨I, fp, wr, _, St, rfl, KTurns.ofWalks W fun _ _ _ _ _ _ q => wpAny_pure q, fun s Q E st q => W.self 0 s Q E st q, hst, hfp, hwr⟩
theorem ofWN {x : Str} {px : Pos} {hb : Heap} {I : Addr} {fp wr : List Addr} {n : Nat} {P : Nat → Value → Prop} {St : Nat → Heap → Prop} {s₂ : Shared} (W : Walks PG w A I fp wr n P St) (hst : St 0 s₂.heap)
    (hfp : ∀ b ∈ fp, b < s₂.heap.objs.size) (hwr : ∀ b ∈ wr, hb.get? b = none) (hfn : ∀ b ∈ fp, hb.get? b = none) : SrcN w A (.Name x px) hb n (fun i v _ => P i v) (.ref I) s₂ :=
  ⟨I, fp, wr, _, St, rfl, KTurns.ofWalks W fun _ _ _ _ _ _ q => wpAny_pure q, fun s Q E st q => W.self 0 s Q E st q, hst, hfp, hwr, hfn⟩

/-- the iterator of a list -/
theorem it_list {x : Str} {px : Pos} {hb : Heap} {l : Addr} {items : Array Value} {Q : Value → Shared → Prop} (hh : A.handled = none) (hsz : Gr hb s.heap) (hl : s.heap.IsList l items)
    (h : ∀ it s₂, Upd s s₂ → Src w A (.Name x px) hb items.size (fun i v _ => items[i]? = some v) it s₂ → Q it s₂) : wpAny (model PG w) A (pyIter (.ref l)) Q E s := by
  have hlt : l < s.heap.objs.size := by obtain ⟨_, e, _⟩ := hl; exact Heap.lt_size e
  refine wpAny_pyIter_list hl (h _ _ ⟨_, _, rfl, Gr.push _ _⟩ (ofW (Walks.list hh s.heap.objs.size l (Nat.ne_of_lt hlt) items) ⟨⟨_, Heap.get?_push_size _ rfl, rfl, rfl⟩, hl.push _⟩ (fun b hb => ?_) fun b hb' => ?_))
  · show b < (s.heap.push _).objs.size
    rw [Heap.size_push]
    rcases List.mem_cons.mp hb with rfl | hb
    · exact Nat.lt_succ_self _
    · rw [List.mem_singleton.mp hb]; exact Nat.lt_succ_of_lt hlt
  · rw [List.mem_singleton.mp hb']; exact hsz.fresh (Nat.le_refl _)
theorem one_lt {o : Obj} : ∀ b ∈ [s.heap.objs.size], b < (s.heap.push o).objs.size := fun b hb => by
  rw [List.mem_singleton.mp hb, Heap.size_push]; exact Nat.lt_succ_self _
theorem one_ge {hb : Heap} (hsz : Gr hb s.heap) : ∀ b ∈ [s.heap.objs.size], hb.get? b = none := fun b hb => by rw [List.mem_singleton.mp hb]; exact hsz.fresh (Nat.le_refl _)

/-- the iterator of a range -/
theorem it_range {x : Str} {px : Pos} {hb : Heap} {r : Addr} {a b c : Int} {t u v : Tok} {n : Nat} {Q : Value → Shared → Prop} (hh : A.handled = none) (hsz : Gr hb s.heap) (hr : IsRange s.heap r a b c t u v)
    (hsmall : Builtin.Range.small a b c = true) (hn : Builtin.Range.rangeSize a b c = ((n : Nat) : Int))
    (h : ∀ it s₂, Upd s s₂ → SrcN w A (.Name x px) hb n (fun i v _ => ∃ t, v = .int (a + i * c) t) it s₂ → Q it s₂) : wpAny (model PG w) A (pyIter (.ref r)) Q E s := by
  refine wpAny_pyIter_range hr hsmall (h _ _ ⟨_, _, rfl, Gr.push _ _⟩ (ofWN (Walks.range hh s.heap.objs.size a c n) ?_ one_lt (one_ge hsz) (one_ge hsz)))
  show IsRangeIter _ _ _ _ _
  rw [hn]
  simpa using Heap.get?_push_size _ rfl

/-- the iterator of a text -/
theorem it_str {x : Str} {px : Pos} {hb : Heap} {z : Str} {t : Tok} {Q : Value → Shared → Prop} (hh : A.handled = none) (hsz : Gr hb s.heap)
    (h : ∀ it s₂, Upd s s₂ → SrcN w A (.Name x px) hb z.cps.size (fun i v _ => SignAt z i v) it s₂ → Q it s₂) : wpAny (model PG w) A (pyIter (.str z t)) Q E s := by
  refine wpAny_pyIter_str fun o St W st => ?_
  exact h _ _ ⟨_, _, rfl, Gr.push _ _⟩ (ofWN (W A hh) st one_lt (one_ge hsz) (one_ge hsz))

/-- the iterator of bytes -/
theorem it_bytes {x : Str} {px : Pos} {hb : Heap} {z : Array UInt8} {t : Tok} {Q : Value → Shared → Prop} (hh : A.handled = none) (hsz : Gr hb s.heap)
    (h : ∀ it s₂, Upd s s₂ → SrcN w A (.Name x px) hb z.size (fun i v _ => ∃ c u, z[i]? = some c ∧ v = .int (c.toNat : Int) u) it s₂ → Q it s₂) : wpAny (model PG w) A (pyIter (.bytes z t)) Q E s := by
  refine KBw.pyIter_bytes (h _ _ ⟨_, _, rfl, Gr.push _ _⟩ (ofWN (KBw.walks hh s.heap.objs.size z t) ⟨_, Heap.get?_push_size _ rfl, rfl, rfl⟩ one_lt (one_ge hsz) (one_ge hsz)))

/-- the pairs of an enumerate -/
def PairAt (P : Nat → Value → Prop) (i : Nat) (v : Value) (h : Heap) : Prop := ∃ T vals, v = .ref T ∧ (∃ t x, P i x ∧ vals = #[Value.int i t, x]) ∧ h.IsTuple T vals
theorem it_enum {elts : List Expr} {k : Nat} {pos : Pos} {hb : Heap} {it : Addr} {fp : List Addr} {n : Nat} {P : Nat → Value → Prop} {St : Nat → Heap → Prop} {e : Addr} {Q : Value → Shared → Prop} (D : Draws PG w A.in1 it fp n P St) (he : IsEnum s.heap e it 0 .none) (hst : St 0 s.heap)
    (hei : e ≠ it) (hef : e ∉ fp) (hif : it ∈ fp) (h1 : hb.get? e = none) (h2 : hb.get? it = none) (hfp : ∀ b ∈ fp, b < s.heap.objs.size)
    (h : ∀ it', Src w A (.Tuple elts k pos) hb n (PairAt P) it' s → Q it' s) : wpAny (model PG w) A (pyIter (.ref e)) Q E s := by
  have W := WalksT.enumerateD D e hei hef hif
  have st0 : (∃ old, IsEnum s.heap e it ((0 : Nat) : Int) old) ∧ St 0 s.heap := ⟨⟨.none, he⟩, hst⟩
  refine W.self 0 _ _ _ st0 (h _ ⟨e, e :: fp, [e, it], _, _, rfl, KTurns.ofWalksU W.toU, fun s Q E st q => W.self 0 s Q E st q, st0, fun b hb => ?_, fun b hb => ?_⟩)
  · rcases List.mem_cons.mp hb with rfl | hb
    · exact Heap.lt_size he
    · exact hfp b hb
  · rcases List.mem_cons.mp hb with rfl | hb
    · exact h1
    · rw [List.mem_singleton.mp hb]; exact h2

/-- enumerate of a list, and its iterator -/
theorem enum_list {elts : List Expr} {k : Nat} {pos : Pos} {hb : Heap} {l : Addr} {items : Array Value} {Q : Value → Shared → Prop} (hh : A.handled = none) (hsz : Gr hb s.heap) (hl : s.heap.IsList l items)
    (h : ∀ it s₂, Upd s s₂ → Src w A (.Tuple elts k pos) hb items.size (PairAt fun i v => items[i]? = some v) it s₂ → Q it s₂) :
    wpAny (model PG w) A (call (.type "enumerate") [.ref l]) (fun xv s₁ => wpAny (model PG w) A (pyIter xv) Q E s₁) E s := by
  have hlt : l < s.heap.objs.size := by obtain ⟨_, e, _⟩ := hl; exact Heap.lt_size e
  refine call_enumerate_list hl fun h' he hit hs hk => ?_
  refine it_enum (Draws.list (A := A.in1) hh s.heap.objs.size l (Nat.ne_of_lt hlt) items) he ⟨hit, hl.at fun o e => hk l o e⟩ (Nat.succ_ne_self _) ?_ (by simp) (hsz.fresh (Nat.le_succ _)) (hsz.fresh (Nat.le_refl _)) ?_ fun it' x => h it' _ ⟨_, _, rfl, hk⟩ x
  · intro hm
    rcases List.mem_cons.mp hm with e | hm
    · exact Nat.succ_ne_self _ e
    · exact absurd hlt (by rw [← List.mem_singleton.mp hm]; exact Nat.not_lt.mpr (Nat.le_succ _))
  · intro b hb
    show b < h'.objs.size
    rw [hs]
    rcases List.mem_cons.mp hb with rfl | hb
    · exact Nat.lt_succ_of_lt (Nat.lt_succ_self _)
    · rw [List.mem_singleton.mp hb]; exact Nat.lt_succ_of_lt (Nat.lt_succ_of_lt hlt)
/-- enumerate of a text, and its iterator -/
theorem enum_str {elts : List Expr} {k : Nat} {pos : Pos} {hb : Heap} {z : Str} {t : Tok} {Q : Value → Shared → Prop} (hh : A.handled = none) (hsz : Gr hb s.heap)
    (h : ∀ it s₂, Upd s s₂ → Src w A (.Tuple elts k pos) hb z.cps.size (PairAt (SignAt z)) it s₂ → Q it s₂) :
    wpAny (model PG w) A (call (.type "enumerate") [.str z t]) (fun xv s₁ => wpAny (model PG w) A (pyIter xv) Q E s₁) E s := by
  refine call_enumerate_str fun h' he hit hs hk => ?_
  have side1 : s.heap.objs.size + 1 ∉ [s.heap.objs.size] := fun hm => Nat.succ_ne_self _ (List.mem_singleton.mp hm)
  have side2 : ∀ b ∈ [s.heap.objs.size], b < h'.objs.size := fun b hb => by rw [List.mem_singleton.mp hb, hs]; exact Nat.lt_succ_of_lt (Nat.lt_succ_self _)
  cases ha : z.cps.all (· < 128)
  · have hit' : h'.IsStrIter s.heap.objs.size "str_iterator" z t 0 := by simpa [strIterType, ha] using hit
    exact it_enum (Draws.strWide (A := A.in1) hh s.heap.objs.size z t) he hit' (Nat.succ_ne_self _) side1 (by simp) (hsz.fresh (Nat.le_succ _)) (hsz.fresh (Nat.le_refl _)) side2 fun it' x => h it' _ ⟨_, _, rfl, hk⟩ x
  · have hit' : h'.IsStrIter s.heap.objs.size "str_ascii_iterator" z t 0 := by simpa [strIterType, ha] using hit
    exact it_enum (Draws.strAscii (A := A.in1) hh s.heap.objs.size z t) he hit' (Nat.succ_ne_self _) side1 (by simp) (hsz.fresh (Nat.le_succ _)) (hsz.fresh (Nat.le_refl _)) side2 fun it' x => h it' _ ⟨_, _, rfl, hk⟩ x

/-- a comprehension over one name, without a test; its elements change nothing old -/
theorem lc_name {elt iter : Expr} {x : Str} {px : Pos} {scope : Scope} {cl : List (Str × Addr)} {pos : Pos} {Q : Value → Shared → Prop} {n : Nat} {P : Nat → Value → Prop}
    (R : Nat → List Value → Prop) (hclos : closureFor scope env = pure cl) (hcell : ∀ y ∈ scope.names, y.2 ≠ .cell) (hkind : scope.kind = .function)
    (hnames : ∀ y ∈ scope.names, y.2 = .local → scope.names.lookup y.1 = some .local) (hx : scope.names.lookup x = some .local) (hsz : n ≤ sizeLine)
    (h : wpAny (model PG w) A (eval iter env) (fun xv s₁ => wpAny (model PG w) A (pyIter xv) (fun it s₂ => Upd s s₂ ∧ Src w A (.Name x px) s.heap n (fun i v _ => P i v) it s₂) E s₁) E s)
    (h0 : R 0 [])
    (turn : ∀ C i v ys h tk m (E' : Value → Shared → Prop), i < n → s.heap.get? C = none → P i v → h.Ns C m → m x = some v → R i ys → Gr s.heap h →
      wpAny (model PG w) A (eval elt (compEnvC scope cl C env)) (fun y s₆ => ∃ h' tk', s₆ = { s with heap := h', toks := tk' } ∧ Gr h h' ∧ R (i + 1) (ys ++ [y])) E' { s with heap := h, toks := tk })
    (fin : ∀ D h tk ys, s.heap.get? D = none → h.PlainList D ys.toArray → R n ys → Gr s.heap h → Q (.ref D) { s with heap := h, toks := tk })
    (hs : ∀ x, foldedSetIterable iter env x = pure x := by intro _; rfl) :
    wpAny (model PG w) A (eval (.ListComp elt [⟨.Name x px, iter, [], 0⟩] scope pos) env) Q E s := by
  refine lc_eval lcl_name hclos hcell hkind hnames (wpAny_mono h (fun xv s₁ h₁ => wpAny_mono h₁ (fun it s₂ h₂ => ?_) fun _ _ e => e) fun _ _ e => e) hs
  obtain ⟨⟨h₂, tk₂, rfl, g₂⟩, I, fp, wr, Md, St, rfl, W, hself, hst, hfp, hwr⟩ := h₂
  have off : ∀ b o, s.heap.get? b = some o → b ∉ wr := fun b o e hb => by rw [hwr b hb] at e; cases e
  refine ⟨I, fp, wr, n, (fun i v _ => P i v), Md, St, fun _ _ i ys _ => R i ys, rfl, W, hself, hsz, hst, hfp, fun _ _ _ _ _ _ _ => h0, fun _ _ _ _ _ _ j _ => j, ?_, ?_⟩
  · intro C D i v ys h tk m E' hi hC hD hCD hPv hn _ hR hk
    refine wpAny_assign_Name (wpAny_storeName_local (lookup_relabel_local hx) hn (fun h₃ hn₃ hs₃ => ?_) (by simp [compEnvC, relabel, hkind]))
    have hCn : s.heap.get? C = none := g₂.fresh hC
    refine wpAny_tests_nil ?_
    simp only [if_true]
    have g₃ : Gr s.heap h₃ := fun b o e => hs₃.extBut b o (fun q => by have q' : b = C := q; rw [q', hCn] at e; cases e) (hk b o (off b o e) (g₂ b o e))
    refine wpAny_mono (turn C i v ys h₃ _ _ E' hi hCn hPv hn₃ (by simp) hR g₃) (fun y s₆ h₆ => ?_) fun _ _ e => e
    obtain ⟨h', tk', rfl, g, r⟩ := h₆
    exact ⟨h', tk', _, rfl, hn₃.keeps g, fun b o hb e => g b o (hs₃.extBut b o hb e), r⟩
  · intro D h' tk ys hD hl ⟨_, hR⟩ hk
    exact fin D h' tk ys (g₂.fresh hD) hl hR fun b o e => hk b o (off b o e) (g₂ b o e)

/-- a comprehension over the pairs of an enumerate, without a test -/
theorem lc_pair {elt iter : Expr} {x y : Str} {px py tp : Pos} {kk : Nat} {scope : Scope} {cl : List (Str × Addr)} {pos : Pos} {Q : Value → Shared → Prop} {n : Nat} {P : Nat → Value → Prop}
    (R : Nat → List Value → Prop) (hh : A.handled = none) (hclos : closureFor scope env = pure cl) (hcell : ∀ y ∈ scope.names, y.2 ≠ .cell) (hkind : scope.kind = .function)
    (hnames : ∀ y ∈ scope.names, y.2 = .local → scope.names.lookup y.1 = some .local) (hx : scope.names.lookup x = some .local) (hy : scope.names.lookup y = some .local) (hxy : x ≠ y) (hsz : n ≤ sizeLine)
    (h : wpAny (model PG w) A (eval iter env) (fun xv s₁ => wpAny (model PG w) A (pyIter xv) (fun it s₂ => Upd s s₂ ∧ Src w A (.Tuple [.Name x px, .Name y py] kk tp) s.heap n (PairAt P) it s₂) E s₁) E s)
    (h0 : R 0 [])
    (turn : ∀ C i v t ys h tk m (E' : Value → Shared → Prop), i < n → s.heap.get? C = none → P i v → h.Ns C m → m x = some (.int i t) → m y = some v → R i ys → Gr s.heap h →
      wpAny (model PG w) A (eval elt (compEnvC scope cl C env)) (fun y s₆ => ∃ h' tk', s₆ = { s with heap := h', toks := tk' } ∧ Gr h h' ∧ R (i + 1) (ys ++ [y])) E' { s with heap := h, toks := tk })
    (fin : ∀ D h tk ys, s.heap.get? D = none → h.PlainList D ys.toArray → R n ys → Gr s.heap h → Q (.ref D) { s with heap := h, toks := tk })
    (hs : ∀ x, foldedSetIterable iter env x = pure x := by intro _; rfl) :
    wpAny (model PG w) A (eval (.ListComp elt [⟨.Tuple [.Name x px, .Name y py] kk tp, iter, [], 0⟩] scope pos) env) Q E s := by
  refine lc_eval lcl_tuple hclos hcell hkind hnames (wpAny_mono h (fun xv s₁ h₁ => wpAny_mono h₁ (fun it s₂ h₂ => ?_) fun _ _ e => e) fun _ _ e => e) hs
  obtain ⟨⟨h₂, tk₂, rfl, g₂⟩, I, fp, wr, Md, St, rfl, W, hself, hst, hfp, hwr⟩ := h₂
  have off : ∀ b o, s.heap.get? b = some o → b ∉ wr := fun b o e hb => by rw [hwr b hb] at e; cases e
  refine ⟨I, fp, wr, n, PairAt P, Md, St, fun _ _ i ys _ => R i ys, rfl, W, hself, hsz, hst, hfp, fun _ _ _ _ _ _ _ => h0, fun _ _ _ _ _ _ j _ => j, ?_, ?_⟩
  · intro C D i v ys h tk m E' hi hC hD hCD hPv hn _ hR hk
    obtain ⟨T, vals, rfl, ⟨t, z, hP, rfl⟩, hT⟩ := hPv
    have hCn : s.heap.get? C = none := g₂.fresh hC
    refine kcp_assign (env := compEnvC scope cl C env) (m := m) hh hT (lookup_relabel_local hx) (lookup_relabel_local hy) (by simp [compEnvC, relabel, hkind]) hn fun h₃ tk₃ hn₃ hk₃ => ?_
    refine wpAny_tests_nil ?_
    simp only [if_true]
    have hk₃' : ∀ b o, b ≠ C → h.get? b = some o → h₃.get? b = some o := hk₃
    have g₃ : Gr s.heap h₃ := fun b o e => hk₃' b o (fun q => by rw [q, hCn] at e; cases e) (hk b o (off b o e) (g₂ b o e))
    refine wpAny_mono (turn C i z t ys h₃ _ _ E' hi hCn hP hn₃ (by simp [hxy]) (by simp) hR g₃) (fun y s₆ h₆ => ?_) fun _ _ e => e
    obtain ⟨h', tk', rfl, g, r⟩ := h₆
    exact ⟨h', tk', _, rfl, hn₃.keeps g, fun b o hb e => g b o (hk₃' b o hb e), r⟩
  · intro D h' tk ys hD hl ⟨_, hR⟩ hk
    exact fin D h' tk ys (g₂.fresh hD) hl hR fun b o e => hk b o (off b o e) (g₂ b o e)

/-- a for whose turns change the objects ch alone -/
theorem for_src {target iter : Expr} {body : List Stmt} {pos : Pos} {Q : Flow → Shared → Prop} {n : Nat} {P : Nat → Value → Heap → Prop} (ch : List Addr) (J : Nat → Heap → Prop)
    (h : wpAny (model PG w) A (eval iter env) (fun xv s₁ => wpAny (model PG w) A (pyIter xv) (fun it s₂ => Upd s s₂ ∧ SrcN w A target s.heap n P it s₂) (fun _ _ => False) s₁) (fun _ _ => False) s)
    (hch : ∀ b ∈ ch, ∃ o, s.heap.get? b = some o) (h0 : ∀ h, Gr s.heap h → J 0 h)
    (hJf : ∀ i h h', J i h → (∀ b o o', s.heap.get? b = some o' → h.get? b = some o → h'.get? b = some o) → J i h')
    (turn : ∀ i v h tk, i < n → P i v h → J i h → (∀ b o, b ∉ ch → s.heap.get? b = some o → h.get? b = some o) →
      wpAny (model PG w) A (assign target env v) (fun _ s₃ => wpAny (model PG w) A (execs body env) (fun f s₄ => match f with
        | .ret v => Q (.ret v) s₄
        | .brk => Q .next s₄
        | _ => ∃ h' tk', s₄ = { s with heap := h', toks := tk' } ∧ (∀ b o, b ∉ ch → h.get? b = some o → h'.get? b = some o) ∧ J (i + 1) h') (fun _ _ => False) s₃) (fun _ _ => False) { s with heap := h, toks := tk })
    (done : ∀ h tk, J n h → (∀ b o, b ∉ ch → s.heap.get? b = some o → h.get? b = some o) → Q .next { s with heap := h, toks := tk })
    (hs : ∀ x, foldedSetIterable iter env x = pure x := by intro _; rfl) :
    wpAny (model PG w) A (exec (.For target iter body [] pos) env) Q (fun _ _ => False) s := by
  refine wpAny_For (wpAny_mono h (fun xv s₁ h₁ => wpAny_mono h₁ (fun it s₂ h₂ => ?_) fun _ _ e => e) fun _ _ e => e) hs
  obtain ⟨⟨h₂, tk₂, rfl, g₂⟩, I, fp, wr, Md, St, rfl, W, hself, hst, hfp, hwr, hfn⟩ := h₂
  have off : ∀ b o, s.heap.get? b = some o → b ∉ wr := fun b o e hb => by rw [hwr b hb] at e; cases e
  have offc : ∀ b ∈ ch, b ∉ fp := fun b hb hf => by obtain ⟨o, e⟩ := hch b hb; rw [hfn b hf] at e; cases e
  refine codeAny_forLoop_any
    (fun k s' => ∃ h' tk i, s' = { s with heap := h', toks := tk } ∧ St i h' ∧ J i h' ∧ i ≤ n ∧ k = n + 1 - i ∧ (∀ b o, b ∉ ch → s.heap.get? b = some o → h'.get? b = some o)) ?_ (n + 1)
    ⟨h₂, tk₂, 0, rfl, hst, h0 h₂ g₂, Nat.zero_le _, rfl, fun b o _ e => g₂ b o e⟩
  rintro k s' ⟨h', tk, i, rfl, hst', hJ, hi, rfl, hk'⟩
  by_cases hlt : i < n
  · refine W.item i _ _ _ hlt hst' fun v h₃ tk₃ hMd hk₃ => ?_
    refine W.go i v _ _ _ hMd fun h₄ hP hst₄ hk₄ => ?_
    have up : ∀ b o, b ∉ wr → h'.get? b = some o → h₄.get? b = some o := fun b o hb e => hk₄ b o hb (hk₃ b o hb e)
    refine wpAny_mono (turn i v h₄ tk₃ hlt hP (hJf i h' h₄ hJ fun b o o' e' e => up b o (off b o' e') e) fun b o hb e => up b o (off b o e) (hk' b o hb e)) (fun _ s₅ h₅ => wpAny_mono h₅ (fun f s₆ h₆ => ?_) fun _ _ e => e.elim) fun _ _ e => e.elim
    have next : (∃ h' tk', s₆ = { s with heap := h', toks := tk' } ∧ (∀ b o, b ∉ ch → h₄.get? b = some o → h'.get? b = some o) ∧ J (i + 1) h') →
        ∃ m, m < n + 1 - i ∧ ∃ h' tk i, s₆ = { s with heap := h', toks := tk } ∧ St i h' ∧ J i h' ∧ i ≤ n ∧ m = n + 1 - i ∧ (∀ b o, b ∉ ch → s.heap.get? b = some o → h'.get? b = some o) := by
      rintro ⟨h₇, tk₇, rfl, hk₇, hJ₇⟩
      exact ⟨n + 1 - (i + 1), by omega, h₇, tk₇, i + 1, rfl, W.frame _ _ _ hst₄ fun b hb o e => hk₇ b o (fun q => offc b q hb) e, hJ₇, hlt, rfl, fun b o hb e => hk₇ b o hb (up b o (off b o e) (hk' b o hb e))⟩
    cases f with
    | ret v => exact h₆
    | brk => exact h₆
    | next => exact next h₆
    | cont => exact next h₆
  · obtain rfl : i = n := by omega
    refine W.done _ _ _ hst' fun h₃ tk₃ hk₃ => wpAny_execs_nil ?_
    exact done h₃ tk₃ (hJf i h' h₃ hJ fun b o o' e' e => hk₃ b o (off b o' e') e) fun b o hb e => hk₃ b o (off b o e) (hk' b o hb e)
end
end Mine

-- Num
open PySem PySem.W PyProof.Rows PySem.Calls PySem.Spec
set_option Elab.async false
set_option maxRecDepth 100000
set_option maxHeartbeats 4000000
namespace Mine

theorem rev_text (x : Str) (u : Tok) : Txt.sliceBy x none none (-1, u) = ⟨x.cps.toList.reverse.toArray⟩ := by
  unfold Txt.sliceBy slicePicked
  rw [if_neg (by simp)]
  have e : Builtin.Str.strSliceIndices (Option.map (·.1) (none : Option (Int × Tok))) (Option.map (·.1) (none : Option (Int × Tok))) ((Option.map (·.1) (some ((-1 : Int), u))).getD 1) x.length = (List.range x.length).reverse := by
    show Builtin.Str.strSliceIndices none none (-1) x.length = _
    rw [picked_rev, krv_range]
  rw [e, List.filterMap_reverse]
  show Str.mk ((List.range x.cps.size).filterMap (x.cps[·]?)).reverse.toArray = _
  rw [krv_all]

section
variable {w : World} {A : Around} {E : Value → Shared → Prop} {s : Shared} {env : Env}

/-- x[::-1] of a text -/
theorem sub_str_rev {value : Expr} {k : Nat} {p1 p2 p3 pos : Pos} {Q : Value → Shared → Prop}
    (h : wpAny (model PG w) A (eval value env) (fun v s₁ => ∃ x t, v = .str x t ∧ x.length ≤ sizeLine ∧ ∀ h' t' tk, Gr s₁.heap h' → Q (.str ⟨x.cps.toList.reverse.toArray⟩ t') { s₁ with heap := h', toks := tk }) E s)
    (ht : ∀ o r, letTemporaryGo value o r = pure () := by intro _ _; rfl) :
    wpAny (model PG w) A (eval (.Subscript value (.Slice none none (some (.UnaryOp .USub (.Constant (.int 1) k p1) p2)) p3) pos) env) Q E s := by
  refine wpAny_Subscript_Slice_step (T := "str") F.slot_str_getitem.lookup (wpAny_mono h (fun o s₁ h₁ => ?_) fun _ _ e => e) ht
  obtain ⟨x, t, rfl, hsz, hQ⟩ := h₁
  refine wpAny_Slice ?_
  rw [evalPart_none, evalPart_some]
  refine wpAny_pure (wpAny_pure (wpAny_UnaryOp (wpAny_Constant_int (neg_int ?_))))
  refine ⟨typeIs_str _ x t, wpAny_getItem_str_slice (l := none) (u := none) (st := some (-1, _)) ⟨_, Heap.get?_push_size _ rfl, rfl, rfl⟩ rfl (post_val_or_str ⟨?_, fun t' c => ?_⟩)⟩
  · exact Nat.le_trans (Txt.sliceBy_le x none none (-1, s₁.toks + 1) (by show (-1 : Int) ≠ 0; decide)) hsz
  · have := hQ (s₁.heap.push { cls := .type "slice", data := .fields #[.none, .none, .int (-1) (s₁.toks + 1)] }) t' c (Gr.push _ _)
    rw [← rev_text x (s₁.toks + 1)] at this
    exact this

theorem sum_ints {l : Addr} {vs : List Value} {ns : List Int} {Q : Value → Shared → Prop} (hh : A.handled = none) (hl : s.heap.IsList l vs.toArray) (hi : IntsAre vs ns)
    (h : ∀ h' tk t', Gr s.heap h' → Q (.int ns.sum t') { s with heap := h', toks := tk }) : wpAny (model PG w) A (call (.builtin "sum") [.ref l]) Q E s := by
  have hall := hi.allInts
  have hn : numsOf vs.toArray.toList = ns := by rw [show vs.toArray.toList = vs from rfl, hi.numsOf]
  generalize vs.toArray = items at hl hall hn
  obtain ⟨xs, rfl⟩ := hall.items
  rw [nums_intItems] at hn
  refine sum_intListG hh hl fun h' tk t' hk => ?_
  have := h h' tk t' hk
  rw [preSum_eq, List.take_of_length_le (by simp)]
  rw [← hn] at this
  exact this

/-- the figures of a word to the base 64, the last first -/
def figs (cs : List Nat) (n : Nat) : List Int := (List.range n).map fun i => ((cs.reverse.getD i 0 : Nat) : Int).fmod 64 * 64 ^ i
def numOf (cs : List Nat) : Int := (figs cs cs.length).sum
theorem figs_succ (cs : List Nat) (n : Nat) : figs cs (n + 1) = figs cs n ++ [((cs.reverse.getD n 0 : Nat) : Int).fmod 64 * 64 ^ n] := by
  unfold figs; rw [List.range_succ, List.map_append]; rfl

theorem gl_sum (w : World) : nsIn (hd.heap_39 w.params) mainGlobals (Str.ofString "sum") = some none := by rfl
theorem gl_enumerate (w : World) : nsIn (hd.heap_39 w.params) mainGlobals (Str.ofString "enumerate") = some none := by rfl
theorem gl_ord (w : World) : nsIn (hd.heap_39 w.params) mainGlobals (Str.ofString "ord") = some none := by rfl
theorem bt_sum : bootBuiltins (Str.ofString "sum") = some (.builtin "sum") := by decide +kernel
theorem bt_enumerate : bootBuiltins (Str.ofString "enumerate") = some (.type "enumerate") := by decide +kernel
theorem bt_ord : bootBuiltins (Str.ofString "ord") = some (.builtin "ord") := by decide +kernel

theorem c_number {x : Str} {tk : Tok} {Q : Value → Shared → Prop} (t : Tp w s.heap) (hA : A.handled = none) (hroom : A.depth < recursionLimit) (hx : x.length ≤ 1000)
    (h : ∀ h' t' tk', Gr s.heap h' → Q (.int (numOf x.cps.toList) t') { s with heap := h', toks := tk' }) : wpAny (model PG w) A (call (.ref 96) [.str x tk]) Q E s := by
  have hfill : Fill PySem.Challenge.rw_ny0023_01 hd.heap_39 := by (k_fill; trivial)
  refine call_fn (binds := [(Str.ofString "word", .str x tk)]) t hroom (by k_is) rfl (by k_is) rfl (BindsTo.of_eq rfl) (by decide) (locs rfl) ?_ rfl rfl rfl
  intro L h₁ hL F t₀
  clear hfill
  refine wpAny_execs_cons (wpAny_Return_some ?_)
  refine Call_ ?_
  refine nm_boot (t₀.fr F) (gl_sum w) bt_sum ?_
  refine PyProof.Rows.callWith_builtin1 (args_cons ?_)
  have hlen : ∀ n, n = x.cps.size → n ≤ sizeLine := fun n e => by subst e; exact Nat.le_trans hx (by decide)
  refine lc_pair (n := x.cps.toList.reverse.toArray.size) (P := SignAt ⟨x.cps.toList.reverse.toArray⟩) (fun i ys => IntsAre ys (figs x.cps.toList i)) hA rfl (by decide) rfl (by decide) rfl rfl (by decide) (hlen _ (by simp)) ?_ ?_ ?_ ?_
  · -- the source
    refine Call_ (nm_boot (t₀.fr F) (gl_enumerate w) bt_enumerate ?_)
    refine PyProof.Rows.callWith_type1 (args_cons ?_)
    refine sub_str_rev ?_
    refine nm_local F.ns rfl ⟨x, tk, rfl, Nat.le_trans hx (by decide), fun h' t' tk' g => ?_⟩
    refine args_nil ?_
    exact enum_str hA g fun it s₂ u hs => ⟨u.behind g, hs⟩
  · exact .nil
  · -- an element
    intro C i v tv ys hh₂ tk₂ m E' hi hC hP hn hmx hmy hR g
    obtain ⟨c, u, hc, rfl⟩ := hP
    have hc' : x.cps.toList.reverse[i]? = some c := by simpa using hc
    have hi' : i < x.cps.size := by simpa using hi
    have hi2 : i < x.length := hi'
    refine wpAny_BinOp (wpAny_BinOp (Call_ (nm_boot (t₀.keeps (F.keep)|>.keeps g) (gl_ord w) bt_ord (PyProof.Rows.callWith_builtin1 (args_cons (nm_local hn hmy (args_nil (P.ord_of_char ?_))))))))
    refine wpAny_Constant_int (mod_int (by decide) ?_)
    refine wpAny_BinOp (wpAny_Constant_int (nm_local hn hmx (pow_int_small (by omega) (by omega) (by decide) ?_)))
    refine mul_int ?_ (IntMulOk.of_left ?_)
    · refine ⟨_, _, rfl, Gr.refl _, ?_⟩
      rw [figs_succ]
      refine hR.append ?_
      have e : x.cps.toList.reverse.getD i 0 = c := by rw [List.getD_eq_getElem?_getD, hc']; rfl
      rw [e]
      exact IntsAre.cons _ _ IntsAre.nil
    · have hb := Int.fmod_nonneg_of_pos (c : Int) (b := 64) (by decide)
      have hb2 := Int.fmod_lt_of_pos (c : Int) (b := 64) (by decide)
      exact intBits_le_64 (by omega) (by omega)
  · -- the sum
    intro D h' tk' ys hD hl hR g
    refine args_nil (sum_ints hA hl.isList hR fun h₃ tk₃ t₃ g₃ => ?_)
    have := h h₃ t₃ tk₃ (fun b o e => g₃ b o (g b o (F.keep b o e)))
    simpa [numOf] using this
end
end Mine

-- Stm
open PySem PySem.W PyProof.Rows PySem.Calls PySem.Spec
set_option Elab.async false
set_option maxRecDepth 100000
set_option maxHeartbeats 4000000
namespace Mine
section
variable {w : World} {A : Around} {E : Value → Shared → Prop} {s : Shared} {env : Env} {h₀ : Heap} {m : Str → Option Value}

theorem ns_get {h : Heap} {a : Addr} {m : Str → Option Value} (x : h.Ns a m) : ∃ o, h.get? a = some o := let ⟨o, _, _, e, _⟩ := x; ⟨o, e⟩
theorem pl_get {h : Heap} {a : Addr} {its : Array Value} (x : h.PlainList a its) : ∃ o, h.get? a = some o := let ⟨_, e⟩ := x; ⟨_, e⟩
theorem all_two {P : Addr → Prop} {a b : Addr} (ha : P a) (hb : P b) : ∀ x ∈ [a, b], P x := fun x hx => by
  rcases List.mem_cons.mp hx with e | hx
  · rw [e]; exact ha
  · rw [List.mem_singleton.mp hx]; exact hb

/-- a name stored -/
def upd (m : Str → Option Value) (x : Str) (v : Value) : Str → Option Value := fun y => if y = x then some v else m y
theorem upd_eq {m : Str → Option Value} {x : Str} {v : Value} : upd m x v x = some v := if_pos rfl
theorem upd_ne {m : Str → Option Value} {x z : Str} {v u : Value} (h : m z = some u) (hne : z ≠ x := by decide +kernel) : upd m x v z = some u := (if_neg hne).trans h

/-- off one address all stands -/
def Bt (a : Addr) (h h' : Heap) : Prop := ∀ b o, b ≠ a → h.get? b = some o → h'.get? b = some o

theorem st_local {x : Str} {v : Value} {Q : Unit → Shared → Prop} (F : Fr h₀ env.locals s.heap m)
    (h : ∀ h', Fr h₀ env.locals h' (upd m x v) → Bt env.locals s.heap h' → Q () { s with heap := h', toks := s.toks + 1 })
    (hl : env.kindOf x = some .local := by rfl) (hp : (env.scope.kind == .class || (env.scope.kind == .module && env.locals != env.globals)) = false := by rfl) : wpAny (model PG w) A (storeName env x v) Q E s :=
  wpAny_storeName_local hl F.ns (fun h' hn hs => h h' (F.set hn hs) fun b o hb e => hs.extBut b o hb e) hp

theorem ex_assign {x : Str} {px pos : Pos} {value : Expr} {rest : List Stmt} {Q : Flow → Shared → Prop}
    (h : wpAny (model PG w) A (eval value env) (fun v s₁ => wpAny (model PG w) A (storeName env x v) (fun _ s₂ => wpAny (model PG w) A (execs rest env) Q E s₂) E s₁) E s)
    (hs : swapsWith value (some (.Name x px)) pos.line env = pure false := by rfl) :
    wpAny (model PG w) A (execs (.Assign [.Name x px] value pos :: rest) env) Q E s :=
  wpAny_execs_cons (wpAny_Assign_Name h hs)
theorem ex_ret {e : Expr} {pos : Pos} {rest : List Stmt} {Q : Flow → Shared → Prop} (h : wpAny (model PG w) A (eval e env) (fun v => Q (.ret v)) E s) :
    wpAny (model PG w) A (execs (.Return (some e) pos :: rest) env) Q E s := wpAny_execs_cons (wpAny_Return_some h)
/-- a statement that goes on -/
theorem ex_next {st : Stmt} {rest : List Stmt} {Q : Flow → Shared → Prop} (h : wpAny (model PG w) A (exec st env) (fun f s' => f = .next ∧ wpAny (model PG w) A (execs rest env) Q E s') E s) :
    wpAny (model PG w) A (execs (st :: rest) env) Q E s := by
  refine wpAny_execs_cons (wpAny_mono h (fun f s' h' => ?_) fun _ _ e => e)
  obtain ⟨rfl, h'⟩ := h'
  exact h'
theorem ex_mid {st : Stmt} {rest : List Stmt} {Q : Flow → Shared → Prop} (P : Shared → Prop) (h1 : wpAny (model PG w) A (exec st env) (fun f s' => f = .next ∧ P s') E s) (h2 : ∀ s', P s' → wpAny (model PG w) A (execs rest env) Q E s') :
    wpAny (model PG w) A (execs (st :: rest) env) Q E s := ex_next (wpAny_mono h1 (fun _ s' q => ⟨q.1, h2 s' q.2⟩) fun _ _ e => e)
theorem ex_if {test : Expr} {body orelse rest : List Stmt} {pos : Pos} {Q : Flow → Shared → Prop}
    (h : wpAny (model PG w) A (isTrue test env (eval test env)) (fun b s₂ => if b = true then wpAny (model PG w) A (execs body env) (fun f s' => match f with | .next => wpAny (model PG w) A (execs rest env) Q E s' | f => Q f s') E s₂
      else wpAny (model PG w) A (execs orelse env) (fun f s' => match f with | .next => wpAny (model PG w) A (execs rest env) Q E s' | f => Q f s') E s₂) E s) :
    wpAny (model PG w) A (execs (.If test body orelse pos :: rest) env) Q E s := wpAny_execs_cons (wpAny_If h)

theorem while_inv {test : Expr} {body : List Stmt} {pos : Pos} {Q : Flow → Shared → Prop} (I : Nat → Shared → Prop)
    (turn : ∀ n s, I n s → wpAny (model PG w) A (isTrue test env (eval test env)) (fun b s₂ =>
      if b = true then wpAny (model PG w) A (execs body env) (fun f s₃ => match f with
        | .next | .cont => ∃ k, k < n ∧ I k s₃
        | .brk => Q .next s₃
        | .ret v => Q (.ret v) s₃) (fun _ _ => False) s₂
      else Q .next s₂) (fun _ _ => False) s)
    (n : Nat) (h : I n s) : wpAny (model PG w) A (exec (.While test body [] pos) env) Q (fun _ _ => False) s := by
  refine wpAny_While (codeAny_whileLoop I (fun n s hI => ?_) n h)
  refine wpAny_mono (turn n s hI) (fun b s₂ h₂ => ?_) fun _ _ e => e.elim
  cases b with
  | true =>
    simp only [if_true] at h₂ ⊢
    refine wpAny_mono h₂ (fun f s₃ h₃ => ?_) fun _ _ e => e.elim
    cases f <;> exact h₃
  | false =>
    simp only [Bool.false_eq_true, if_false] at h₂ ⊢
    exact wpAny_execs_nil h₂

/-- o.append(e), o a local's list -/
theorem ex_append {x : Str} {O : Addr} {its : Array Value} {e : Expr} {px pa pc pos : Pos} {rest : List Stmt} {Q : Flow → Shared → Prop} (hn : s.heap.Ns env.locals m) (hv : m x = some (.ref O)) (hO : s.heap.PlainList O its)
    (h : wpAny (model PG w) A (eval e env) (fun v s₁ => ∃ its', s₁.heap.PlainList O its' ∧ its'.size ≤ sizeLine ∧ ∀ h', h'.PlainList O (its'.push v) → Bt O s₁.heap h' → wpAny (model PG w) A (execs rest env) Q E { s₁ with heap := h' }) E s)
    (he : starEach [e] env = [(false, eval e env)] := by rfl)
    (hk : env.scope.kind = .function := by rfl) (hl : env.kindOf x = some .local := by rfl) (hd : (x == ("__debug__" : Str)) = false := by decide)
    (hi : interactive env = false := by rfl) (hs : swapsWith (.Call (.Attribute (.Name x px) (Str.ofString "append") pa) [e] [] pc) none pos.line env = pure false := by rfl)
    (hc : eval (.Call (.Attribute (.Name x px) (Str.ofString "append") pa) [e] [] pc) env = (do
      let ov ← eval (.Name x px) env
      standAt pa.atName
      let (f, first) ← holding [ov] (getMethod ov (Str.ofString "append") (do return (← importBound (.Name x px) env).getD true))
      callWith pc f first (backTo pc (starEach [e] env)) []) := by rfl) :
    wpAny (model PG w) A (execs (.Expr (.Call (.Attribute (.Name x px) (Str.ofString "append") pa) [e] [] pc) pos :: rest) env) Q E s := by
  refine wpAny_execs_cons (wpAny_Expr_any ?_ hi hs)
  refine MethodCall_ ?_ hc
  refine nm_local hn hv ?_ hk hl hd
  obtain ⟨nO, hO'⟩ := hO
  refine getMethod_list_append hO' rfl rfl ?_
  show wpAny _ _ (callWith pc (.builtin "list.append") [.ref O] (backTo pc (starEach [e] env)) []) _ _ _
  refine callWith_method1 ?_ he rfl
  refine args_cons ?_ he
  refine wpAny_mono h (fun v s₁ h₁ => args_nil ?_) fun _ _ q => q
  obtain ⟨its', hp, hsz, hQ⟩ := h₁
  exact wpAny_list_append_plain hp (fun h' hl' hs' => hQ h' hl' fun b o hb q => hs'.extBut b o hb q) hsz
end
end Mine

-- B2a
open PySem PySem.W PyProof.Rows PySem.Calls PySem.Spec
set_option Elab.async false
set_option maxRecDepth 100000
set_option maxHeartbeats 4000000
namespace Mine
section
variable {w : World} {A : Around} {E : Value → Shared → Prop} {s : Shared} {env : Env}

theorem gl_type (w : World) : nsIn (hd.heap_39 w.params) mainGlobals (Str.ofString "type") = some none := by rfl
theorem bt_type : bootBuiltins (Str.ofString "type") = some (.type "type") := by decide +kernel
theorem gl_bytes (w : World) : nsIn (hd.heap_39 w.params) mainGlobals (Str.ofString "bytes") = some none := by rfl
theorem bt_bytes : bootBuiltins (Str.ofString "bytes") = some (.type "bytes") := by decide +kernel
theorem gl_bool (w : World) : nsIn (hd.heap_39 w.params) mainGlobals (Str.ofString "bool") = some none := by rfl
theorem bt_bool : bootBuiltins (Str.ofString "bool") = some (.type "bool") := by decide +kernel
theorem gl_buffer (w : World) : nsIn (hd.heap_39 w.params) mainGlobals (Str.ofString "_buffer") = some (some (.ref 42)) := by rfl
theorem gl_truth (w : World) : nsIn (hd.heap_39 w.params) mainGlobals (Str.ofString "_truth") = some (some (.ref 49)) := by rfl

theorem is_types {a b : String} {Q : Value → Shared → Prop} (h : Q (.bool (Value.type a == Value.type b)) s) : wpAny (model PG w) A (compareOp .Is (.type a) (.type b)) Q E s := by
  show wpAny _ A (do return .bool (← isSame (.type a) (.type b))) Q E s
  exact wpAny_bind (wpAny_pure (wpAny_pure h))

/-- a def of the top is called by its name -/
theorem call_nm {x : Str} {f : Addr} {np pos : Pos} {e : Expr} {rest : List Expr} {Q : Value → Shared → Prop} (t : Tp w s.heap) (e1 : nsIn (hd.heap_39 w.params) mainGlobals x = some (some (.ref f)))
    {o : Obj} {fd : FuncData} (ho : (hd.heap_39 w.params).lookup f = some o) (hd' : o.data = .func fd)
    (h : wpAny (model PG w) A (spliced (backTo pos (starEach (e :: rest) env))) (fun vs s₁ => Tp w s₁.heap ∧ wpAny (model PG w) A (call (.ref f) vs) Q E s₁) E s)
    (hk : env.scope.kind = .function := by rfl) (hx : env.kindOf x = some .globalImplicit := by rfl) (hg : env.globals = mainGlobals := by rfl) (hdb : (x == ("__debug__" : Str)) = false := by decide)
    (he : starEach (e :: rest) env = (false, eval e env) :: starEach rest env := by rfl)
    (hc : eval (.Call (.Name x np) (e :: rest) [] pos) env = (do callWith pos (← eval (.Name x np) env) [] (backTo pos (starEach (e :: rest) env)) (backToKw pos (keywordEach [] env))) := by rfl) :
    wpAny (model PG w) A (eval (.Call (.Name x np) (e :: rest) [] pos) env) Q E s :=
  Call_ (nm_glob t e1 (callWith_def hd' (wpAny_mono h (fun _ _ h₁ => ⟨h₁.1.X _ _ ho, h₁.2⟩) fun _ _ q => q) he) hk hx hg hdb) hc

/-- _buffer hands its bytes on -/
theorem c_buffer {b : Array UInt8} {tk : Tok} {Q : Value → Shared → Prop} (t : Tp w s.heap) (hroom : A.depth < recursionLimit)
    (h : ∀ h' tk', Gr s.heap h' → Q (.bytes b tk) { s with heap := h', toks := tk' }) : wpAny (model PG w) A (call (.ref 42) [.bytes b tk]) Q E s := by
  have hfill : Fill PySem.Challenge.rw_ny0023_01 hd.heap_39 := by (k_fill; trivial)
  refine call_fn (binds := [(Str.ofString "data", .bytes b tk)]) t hroom (by k_is) rfl (by k_is) rfl (BindsTo.of_eq rfl) (by decide) (locs rfl) ?_ rfl rfl rfl
  intro L h₁ hL F t₀
  clear hfill
  refine ex_assign ?_
  refine Call_ (nm_boot (t₀.fr F) (gl_type w) bt_type (PyProof.Rows.callWith_type1 (args_cons (nm_local F.ns rfl (args_nil (call_type_of (Tx := "bytes") (PySem.W.typeIs_bytes _ _ _) (by decide) ?_))))))
  refine st_local F fun h₂ F₂ _ => ?_
  refine ex_if (wpAny_isTrue_Compare1 (nm_local F₂.ns rfl (nm_boot (t₀.fr F₂) (gl_bytes w) bt_bytes (is_types (wpAny_truthy_bool ?_)))))
  refine ex_ret (nm_local F₂.ns rfl ?_)
  exact h h₂ _ F₂.keep

/-- _truth of False -/
theorem c_truth {Q : Value → Shared → Prop} (t : Tp w s.heap) (hroom : A.depth < recursionLimit)
    (h : ∀ h' tk', Gr s.heap h' → Q (.bool false) { s with heap := h', toks := tk' }) : wpAny (model PG w) A (call (.ref 49) [.bool false]) Q E s := by
  have hfill : Fill PySem.Challenge.rw_ny0023_01 hd.heap_39 := by (k_fill; trivial)
  refine call_fn (binds := [(Str.ofString "x", .bool false)]) t hroom (by k_is) rfl (by k_is) rfl (BindsTo.of_eq rfl) (by decide) (locs rfl) ?_ rfl rfl rfl
  intro L h₁ hL F t₀
  clear hfill
  refine ex_assign ?_
  refine Call_ (nm_boot (t₀.fr F) (gl_type w) bt_type (PyProof.Rows.callWith_type1 (args_cons (nm_local F.ns rfl (args_nil (call_type_of (Tx := "bool") (PySem.typeIs_bool _ _) (by decide) ?_))))))
  refine st_local F fun h₂ F₂ _ => ?_
  refine ex_if (wpAny_isTrue_BoolOp (wpAny_allTrue_Or_cons (wpAny_isTrue_Compare1 (nm_local F₂.ns rfl (wpAny_Constant_none (is_none (wpAny_truthy_bool ?_)))))))
  refine wpAny_allTrue_Or_cons (wpAny_isTrue_Compare1 (nm_local F₂.ns rfl (nm_boot (t₀.fr F₂) (gl_bool w) bt_bool (is_types (wpAny_truthy_bool ?_)))))
  refine ex_ret (wpAny_IfExp (wpAny_isTrue_value (nm_local F₂.ns rfl (wpAny_truthy_bool ?_))))
  refine wpAny_Constant_bool ?_
  exact h h₂ _ F₂.keep
end

/-- the alphabet of _B64 -/
def b64A : Array UInt8 := #[65, 66, 67, 68, 69, 70, 71, 72, 73, 74, 75, 76, 77, 78, 79, 80, 81, 82, 83, 84, 85, 86, 87, 88, 89, 90, 97, 98, 99, 100, 101, 102, 103, 104, 105, 106, 107, 108, 109, 110, 111, 112, 113, 114, 115, 116, 117, 118, 119, 120, 121, 122, 48, 49, 50, 51, 52, 53, 54, 55, 56, 57, 43, 47]
def b64L : List Int := KBw.bInts b64A
def sign (i : Int) : Int := b64L.getD i.toNat 0
theorem sign_in (i : Int) : 0 ≤ sign i ∧ sign i < 256 := KBw.getD_in fun _ h => KBw.ints_in h
theorem gl_B64 (w : World) : nsIn (hd.heap_39 w.params) mainGlobals (Str.ofString "_B64") = some (some (.bytes b64A 234)) := by rfl

def sext (lc lb : Int) : Int := sign (Builtin.bitAnd (lc.fdiv (2 ^ (lb - 6).toNat)) 63)
def spill (lc : Int) : Nat → Int → List Int → Int × List Int
  | 0, lb, out => (lb, out)
  | k + 1, lb, out => if 6 ≤ lb then spill lc k (lb - 6) (out ++ [sext lc lb]) else (lb, out)
theorem spill_stop {lc lb : Int} {out : List Int} (h : ¬ 6 ≤ lb) : ∀ k, spill lc k lb out = (lb, out)
  | 0 => rfl
  | _ + 1 => by unfold spill; rw [if_neg h]
theorem spill_in {lc : Int} : ∀ {k : Nat} {lb : Int} {out : List Int}, 0 ≤ lb → lb < 6 * k → (0 ≤ (spill lc k lb out).1 ∧ (spill lc k lb out).1 < 6) ∧ (spill lc k lb out).2.length ≤ out.length + k ∧ ((∀ x ∈ out, 0 ≤ x ∧ x < 256) → ∀ x ∈ (spill lc k lb out).2, 0 ≤ x ∧ x < 256)
  | 0, lb, out, h0, h1 => by omega
  | k + 1, lb, out, h0, h1 => by
    unfold spill
    split
    · rename_i h6
      obtain ⟨a, b, c⟩ := spill_in (lc := lc) (k := k) (lb := lb - 6) (out := out ++ [sext lc lb]) (by omega) (by push_cast at h1; omega)
      refine ⟨a, ?_, fun ho => c ?_⟩
      · simp only [List.length_append, List.length_singleton] at b; omega
      · intro x hx
        rcases List.mem_append.mp hx with hx | hx
        · exact ho x hx
        · rw [List.mem_singleton.mp hx]; exact sign_in _
    · refine ⟨⟨h0, by omega⟩, by simp, fun ho => ho⟩
/-- a turn of b2a_base64 over an octet -/
def b2aStep (st : Int × Int × List Int) (b : Int) : Int × Int × List Int :=
  let lc := Builtin.bitAnd (Builtin.bitOr (st.1 * 2 ^ 8) b) 65535
  (lc, spill lc 3 (st.2.1 + 8) st.2.2)
def b2aRun (bs : List Int) : Int × Int × List Int := bs.foldl b2aStep (0, 0, [])
def b2aFin (st : Int × Int × List Int) : List Int :=
  if st.2.1 = 2 then st.2.2 ++ [sign (Builtin.bitAnd st.1 3 * 2 ^ 4), 61, 61]
  else if st.2.1 = 4 then st.2.2 ++ [sign (Builtin.bitAnd st.1 15 * 2 ^ 2), 61]
  else st.2.2
def RunOk (k : Nat) (st : Int × Int × List Int) : Prop := (0 ≤ st.1 ∧ st.1 < 65536) ∧ (0 ≤ st.2.1 ∧ st.2.1 < 6) ∧ st.2.2.length ≤ 3 * k ∧ ∀ x ∈ st.2.2, 0 ≤ x ∧ x < 256
theorem step_ok {k : Nat} {st : Int × Int × List Int} (b : Int) (h : RunOk k st) : RunOk (k + 1) (b2aStep st b) := by
  obtain ⟨h1, h2, h3, h4⟩ := h
  unfold b2aStep
  obtain ⟨a, c, d⟩ := spill_in (lc := Builtin.bitAnd (Builtin.bitOr (st.1 * 2 ^ 8) b) 65535) (k := 3) (lb := st.2.1 + 8) (out := st.2.2) (by omega) (by omega)
  refine ⟨?_, a, ?_, d h4⟩
  · dsimp only
    rw [bitAnd_m16]
    omega
  · dsimp only
    omega
theorem fold_ok : ∀ (bs : List Int) {k : Nat} {st : Int × Int × List Int}, RunOk k st → RunOk (k + bs.length) (bs.foldl b2aStep st)
  | [], _, _, h => h
  | b :: bs, k, st, h => by
    have := fold_ok bs (step_ok b h)
    rw [List.length_cons, Nat.add_comm bs.length 1, ← Nat.add_assoc]
    exact this
theorem run_ok (bs : List Int) : RunOk bs.length (b2aRun bs) := by
  have h0 : RunOk 0 (0, 0, []) := ⟨by decide, by decide, Nat.le_refl _, fun x hx => nomatch hx⟩
  have := fold_ok bs h0
  rw [Nat.zero_add] at this
  exact this
theorem run_snoc (bs : List Int) (b : Int) : b2aRun (bs ++ [b]) = b2aStep (b2aRun bs) b := by simp [b2aRun]

section
variable {w : World} {A : Around} {E : Value → Shared → Prop} {s : Shared} {env : Env}
theorem b64_at {np pos : Pos} {idx : Expr} {Q : Value → Shared → Prop} (t : Tp w s.heap)
    (h : wpAny (model PG w) A (eval idx env) (fun v s₁ => ∃ i u, v = .int i u ∧ 0 ≤ i ∧ i < 64 ∧ ∀ t' k, Q (.int (sign i) t') { s₁ with toks := k }) E s)
    (hs : ∀ i u, subscripted idx false (.bytes b64A 234) (.int i u) = operate [.bytes b64A 234, .int i u] (getItem (.bytes b64A 234) (.int i u)) := by intro _ _; rfl)
    (hk : env.scope.kind = .function := by rfl) (hx : env.kindOf (Str.ofString "_B64") = some .globalImplicit := by rfl) (hg : env.globals = mainGlobals := by rfl) :
    wpAny (model PG w) A (eval (.Subscript (.Name (Str.ofString "_B64") np) idx pos) env) Q E s := by
  refine Subscript_ (nm_glob t (gl_B64 w) (wpAny_mono h (fun v s₁ h₁ => ?_) fun _ _ q => q) hk hx hg)
  obtain ⟨i, u, rfl, h0, h1, hQ⟩ := h₁
  exact KBw.item_K (ks := b64L) rfl (by decide) h0 (by exact h1) (fun t' k _ _ => hQ t' k) (hs i u) (fun _ => rfl)

end
end Mine

-- B2b
open PySem PySem.W PyProof.Rows PySem.Calls PySem.Spec
set_option Elab.async false
set_option maxRecDepth 100000
set_option maxHeartbeats 400000
namespace Mine
section
variable {w : World} {A : Around} {E : Value → Shared → Prop} {s : Shared} {env : Env}

theorem ex3 (x : Int × Int × List Int) : ∃ a b c, x = (a, b, c) := ⟨x.1, x.2.1, x.2.2, rfl⟩
theorem fin_in {lc lb : Int} {out : List Int} (h : ∀ x ∈ out, 0 ≤ x ∧ x < 256) : ∀ x ∈ b2aFin (lc, lb, out), 0 ≤ x ∧ x < 256 := by
  intro x hx
  unfold b2aFin at hx
  dsimp only at hx
  split at hx
  · simp only [List.mem_append, List.mem_cons, List.mem_nil_iff, or_false] at hx
    rcases hx with hx | rfl | rfl | rfl
    · exact h x hx
    · exact sign_in _
    · decide
    · decide
  · split at hx
    · simp only [List.mem_append, List.mem_cons, List.mem_nil_iff, or_false] at hx
      rcases hx with hx | rfl | rfl
      · exact h x hx
      · exact sign_in _
      · decide
    · exact h x hx
theorem push1 {ys : List Value} {a : Value} (h : ys.length ≤ 5000) : (ys.toArray.push a).size ≤ sizeLine := by
  rw [Array.size_push, List.size_toArray]; exact Nat.le_trans (m := 5001) (by omega) (by decide)
theorem push2 {ys : List Value} {a b : Value} (h : ys.length ≤ 5000) : ((ys.toArray.push a).push b).size ≤ sizeLine := by
  rw [Array.size_push, Array.size_push, List.size_toArray]; exact Nat.le_trans (m := 5002) (by omega) (by decide)
/-- an empty list display -/
theorem new_nil {pos : Pos} {Q : Value → Shared → Prop} (h : Q (.ref s.heap.objs.size) { s with heap := s.heap.push { cls := .type "list", data := .seq #[] } }) : wpAny (model PG w) A (eval (.List [] pos) env) Q E s :=
  List_ (spliced_nil (wpAny_newObj_type h))
theorem bt_fr {h₀ h h' : Heap} {L a : Addr} {m : Str → Option Value} (F : Fr h₀ L h m) (k : Bt a h h') (hL : L ≠ a) (hn : h₀.get? a = none) : Fr h₀ L h' m :=
  ⟨F.ns.at' fun o e => k L o hL e, fun b o e => k b o (fun q => by rw [q, hn] at e; cases e) (F.keep b o e), F.above⟩

/-- what holds in b2a_base64 between its turns -/
def B2aAt (h₀ : Heap) (L O : Addr) (st : Int × Int × List Int) (h : Heap) : Prop :=
  ∃ (m : Str → Option Value) (ys : List Value) (tl tb : Tok), Fr h₀ L h m ∧ m (Str.ofString "out") = some (.ref O) ∧ m (Str.ofString "newline") = some (.bool false) ∧ m (Str.ofString "leftchar") = some (.int st.1 tl) ∧
    m (Str.ofString "leftbits") = some (.int st.2.1 tb) ∧ h.PlainList O ys.toArray ∧ IntsAre ys st.2.2

theorem B2aAt.moved {h₀ hb h h' : Heap} {L O : Addr} {st : Int × Int × List Int} (x : B2aAt h₀ L O st h) (g : Gr h₀ hb) (hL : ∃ o, hb.get? L = some o) (hO : ∃ o, hb.get? O = some o) (k : ∀ b o o', hb.get? b = some o' → h.get? b = some o → h'.get? b = some o) : B2aAt h₀ L O st h' := by
  obtain ⟨m, ys, tl, tb, F, a, b, c, d, e, f⟩ := x
  obtain ⟨oL, eL⟩ := hL
  obtain ⟨oO, eO⟩ := hO
  exact ⟨m, ys, tl, tb, ⟨F.ns.at' fun o q => k L o oL eL q, fun b o q => k b o o (g b o q) (F.keep b o q), F.above⟩, a, b, c, d, e.at fun o q => k O o oO eO q, f⟩

theorem c_b2a {b : Array UInt8} {tk : Tok} {Q : Value → Shared → Prop} (t : Tp w s.heap) (hA : A.handled = none) (hroom : A.depth + 1 < recursionLimit) (hb : b.size ≤ 1000)
    (h : ∀ h' t' tk', Gr s.heap h' → Q (.bytes (byteArr (b2aFin (b2aRun (KBw.bInts b)))) t') { s with heap := h', toks := tk' }) :
    wpAny (model PG w) A (call (.ref 57) [.bytes b tk] [(Str.ofString "newline", .bool false)]) Q E s := by
  have hfill : Fill PySem.Challenge.rw_ny0023_01 hd.heap_39 := by (k_fill; trivial)
  refine call_fn (binds := [(Str.ofString "data", .bytes b tk), (Str.ofString "newline", .bool false)]) t (by omega) (by k_is) rfl (by k_is) rfl (BindsTo.of_eq rfl) (by decide) (locs rfl) ?_ rfl rfl rfl
  intro L h₁ hL F t₀
  refine ex_assign (call_nm (t₀.fr F) (gl_buffer w) (by k_is) rfl (args_cons (nm_local F.ns rfl (args_nil ⟨t₀.fr F, c_buffer (t₀.fr F) hroom fun h₂ tk₂ g₂ => ?_⟩))))
  refine st_local (g₂.fr F) fun h₃ F₃ _ => ?_
  refine ex_assign (call_nm (t₀.fr F₃) (gl_truth w) (by k_is) rfl (args_cons (nm_local F₃.ns (upd_ne rfl) (args_nil ⟨t₀.fr F₃, c_truth (t₀.fr F₃) hroom fun h₄ tk₄ g₄ => ?_⟩))))
  clear hfill
  refine st_local (g₄.fr F₃) fun h₅ F₅ _ => ?_
  refine ex_assign (new_nil ?_)
  have F₆ := F₅.push { cls := .type "list", data := .seq #[] }
  have hO : (h₅.push { cls := .type "list", data := .seq #[] }).PlainList h₅.objs.size #[] := ⟨0, Heap.get?_push_size _ rfl⟩
  have hOL : h₅.objs.size ≠ L := Nat.ne_of_gt F₅.ns.lt
  have hOn : s.heap.get? h₅.objs.size = none := Gr.fresh F₅.keep (Nat.le_refl _)
  generalize h₅.objs.size = O at *
  generalize h₅.push { cls := .type "list", data := .seq #[] } = h₆ at *
  refine st_local F₆ fun h₇ F₇ k₇ => ?_
  refine ex_assign (wpAny_Constant_int (st_local F₇ fun h₈ F₈ k₈ => ?_))
  refine ex_assign (wpAny_Constant_int (st_local F₈ fun h₉ F₉ k₉ => ?_))
  have hO₉ : h₉.PlainList O #[] := ((hO.at fun o e => k₇ O o hOL e).at fun o e => k₈ O o hOL e).at fun o e => k₉ O o hOL e
  refine ex_next (for_src (n := b.size) (P := fun i v _ => ∃ c u, b[i]? = some c ∧ v = .int (c.toNat : Int) u) [L, O] (fun i hh => B2aAt s.heap L O (b2aRun ((KBw.bInts b).take i)) hh) ?_ ?_ ?_ ?_ ?_ ?_)
  · refine nm_local F₉.ns (upd_ne (upd_ne (upd_ne (upd_ne upd_eq)))) ?_
    exact it_bytes hA (Gr.refl _) fun it s₂ u hs => ⟨u, hs⟩
  · exact all_two (ns_get F₉.ns) (pl_get hO₉)
  · intro hh g
    exact ⟨_, [], _, _, g.fr F₉, upd_ne (upd_ne upd_eq), upd_ne (upd_ne (upd_ne upd_eq)), upd_eq, upd_ne upd_eq, hO₉.at fun o e => g O o e, .nil⟩
  · intro i hh hh' j k
    exact B2aAt.moved j (hb := h₉) F₉.keep (ns_get F₉.ns) (pl_get hO₉) k
  · -- a turn
    rintro i v hh tkh hi ⟨c, u, hc, rfl⟩ ⟨m, ys, tl, tb, Fm, m1, m2, m3, m4, hOm, hys⟩ hk
    have hok := run_ok ((KBw.bInts b).take i)
    have hlen : ((KBw.bInts b).take i).length ≤ 1000 := by rw [List.length_take, KBw.ints_length]; omega
    have htake : (KBw.bInts b).take (i + 1) = (KBw.bInts b).take i ++ [(c.toNat : Int)] := by rw [List.take_add_one, KBw.ints_get hc]; rfl
    have hst := ex3 (b2aRun ((KBw.bInts b).take i))
    obtain ⟨lc, lb, out, hst⟩ := hst
    have fin : ∀ hh', B2aAt s.heap L O (b2aStep (lc, lb, out) (c.toNat : Int)) hh' → B2aAt s.heap L O (b2aRun ((KBw.bInts b).take (i + 1))) hh' := fun hh' x => by rw [htake, run_snoc, hst]; exact x
    rw [hst] at m3 m4 hys hok
    obtain ⟨⟨q1, q2⟩, ⟨q3, q4⟩, q5, q6⟩ := hok
    dsimp only at m3 m4 hys q1 q2 q3 q4 q5 q6
    clear htake hst
    refine wpAny_assign_Name (st_local Fm fun h₂ F₂ k₂ => ?_)
    refine ex_assign (wpAny_BinOp (wpAny_BinOp (wpAny_BinOp (nm_local F₂.ns (upd_ne m3) (wpAny_Constant_int (lshift_int_small (by decide) (by decide) (by omega) (nm_local F₂.ns upd_eq (or_int (wpAny_Constant_int (and_int ?_)))))))))) 
    refine st_local F₂ fun h₃ F₃ k₃ => ?_
    refine ex_assign (wpAny_BinOp (nm_local F₃.ns (upd_ne (upd_ne m4)) (wpAny_Constant_int (add_int ?_))))
    refine st_local F₃ fun h₄ F₄ k₄ => ?_
    have hO₄ : h₄.PlainList O ys.toArray := ((hOm.at fun o e => k₂ O o hOL e).at fun o e => k₃ O o hOL e).at fun o e => k₄ O o hOL e
    have kk₄ : ∀ x o, x ∉ [L, O] → hh.get? x = some o → h₄.get? x = some o := fun x o hx e => by
      have hxL : x ≠ L := fun q => hx (by simp [q])
      exact k₄ x o hxL (k₃ x o hxL (k₂ x o hxL e))
    have hlc' : ∃ z, z = Builtin.bitAnd (Builtin.bitOr (lc * 2 ^ (8 : Int).toNat) (c.toNat : Int)) 65535 := ⟨_, rfl⟩
    obtain ⟨lc', hlc'⟩ := hlc'
    have hat : B2aAt s.heap L O (lc', lb + 8, out) h₄ := by
      rw [hlc']
      exact ⟨_, ys, _, _, F₄, upd_ne (upd_ne (upd_ne m1)), upd_ne (upd_ne (upd_ne m2)), upd_ne upd_eq, upd_eq, hO₄, hys⟩
    have hstep : b2aStep (lc, lb, out) (c.toNat : Int) = (lc', spill lc' 3 (lb + 8) out) := by rw [hlc']; rfl
    have hlc : 0 ≤ lc' ∧ lc' < 65536 := by rw [hlc', bitAnd_m16]; omega
    rw [hstep] at fin
    clear k₂ k₃ k₄ F₂ F₃ F₄ hO₄ hstep hlc'
    refine ex_next (while_inv (fun n s' => ∃ hw tw lw ow, s' = { s with heap := hw, toks := tw } ∧ B2aAt s.heap L O (lc', lw, ow) hw ∧ spill lc' n lw ow = spill lc' 3 (lb + 8) out ∧ 0 ≤ lw ∧ lw < 6 * n ∧ n ≤ 3 ∧ ow.length + n ≤ out.length + 3 ∧
      ∀ x o, x ∉ [L, O] → hh.get? x = some o → hw.get? x = some o) ?_ 3 ⟨h₄, _, lb + 8, out, rfl, hat, rfl, by omega, by omega, Nat.le_refl _, Nat.le_refl _, kk₄⟩)
    clear hat kk₄
    rintro n s' ⟨hw, tw, lw, ow, rfl, ⟨m', ys', tl', tb', Fw, n1, n2, n3, n4, hOw, hysw⟩, hsp, w0, w1, w2, w3, kw⟩
    dsimp only at n3 n4 hysw
    refine wpAny_isTrue_Compare1 (nm_local Fw.ns n4 (wpAny_Constant_int (PyProof.Rows.ge_int (wpAny_truthy_bool ?_))))
    by_cases h6 : (6 : Int) ≤ lw
    · refine ite_pos (decide_eq_true h6) ?_
      have hn : ∃ k, n = k + 1 := ⟨n - 1, by omega⟩
      obtain ⟨k, rfl⟩ := hn
      have hsp' : spill lc' k (lw - 6) (ow ++ [sext lc' lw]) = spill lc' 3 (lb + 8) out := by rw [← hsp, spill, if_pos h6]
      have hyl := hysw.length
      refine ex_append Fw.ns n1 hOw (b64_at (t₀.fr Fw) (wpAny_BinOp (wpAny_BinOp (nm_local Fw.ns n3 (wpAny_BinOp (nm_local Fw.ns n4 (wpAny_Constant_int (sub_int (rshift_int (by omega) (wpAny_Constant_int (and_int ?_)))))))))))
      refine ⟨_, _, rfl, by rw [bitAnd_m6]; omega, by rw [bitAnd_m6]; omega, fun t' k' => ⟨_, hOw, ?_, fun h₂ hl₂ k₂ => ?_⟩⟩
      · rw [List.size_toArray, hyl]
        exact Nat.le_trans (m := 5000) (by omega) (by decide)
      have Fx := bt_fr Fw k₂ (Ne.symm hOL) hOn
      refine ex_assign (wpAny_BinOp (nm_local Fx.ns n4 (wpAny_Constant_int (sub_int (st_local Fx fun h₃ F₃ k₃ => wpAny_execs_nil ?_)))))
      refine ⟨k, Nat.lt_succ_self _, h₃, _, lw - 6, ow ++ [sext lc' lw], rfl, ⟨_, ys' ++ [.int (sext lc' lw) t'], _, _, F₃, upd_ne n1, upd_ne n2, upd_ne n3, upd_eq, ?_, hysw.append (IntsAre.cons _ _ IntsAre.nil)⟩, hsp', by omega, by push_cast at w1; omega, by omega, ?_, ?_⟩
      · rw [← List.push_toArray]; exact hl₂.at fun o e => k₃ O o hOL e
      · rw [List.length_append, List.length_singleton]; omega
      · intro x o hx e
        have h1 : x ≠ L := fun q => hx (by simp [q])
        have h2 : x ≠ O := fun q => hx (by simp [q])
        exact k₃ x o h1 (k₂ x o h2 (kw x o hx e))
    · refine ite_neg (by rw [decide_eq_false h6]; exact Bool.false_ne_true) ?_
      refine ⟨rfl, wpAny_execs_nil ⟨hw, _, rfl, kw, fin _ ?_⟩⟩
      rw [← hsp, spill_stop h6]
      exact ⟨m', ys', tl', tb', Fw, n1, n2, n3, n4, hOw, hysw⟩
  · -- behind the loop
    intro hh tkh ⟨m, ys, tl, tb, Fm, m1, m2, m3, m4, hOm, hys⟩ hk
    refine ⟨rfl, ?_⟩
    have htk : (KBw.bInts b).take b.size = KBw.bInts b := List.take_of_length_le (by rw [KBw.ints_length]; exact Nat.le_refl _)
    have hok := run_ok (KBw.bInts b)
    have hln : (KBw.bInts b).length ≤ 1000 := by rw [KBw.ints_length]; exact hb
    rw [htk] at m3 m4 hys
    have hst := ex3 (b2aRun (KBw.bInts b))
    obtain ⟨lc, lb, out, hst⟩ := hst
    rw [hst] at m3 m4 hys hok
    have hyl := hys.length
    obtain ⟨⟨q1, q2⟩, ⟨q3, q4⟩, q5, q6⟩ := hok
    dsimp only at m3 m4 hys q1 q2 q3 q4 q5 q6 hyl
    rw [hst] at h
    clear hst htk
    have small : ∀ zs : List Value, zs.length ≤ 3 * (KBw.bInts b).length + 3 → zs.toArray.size ≤ sizeLine := fun zs hz => by
      rw [List.size_toArray]; exact Nat.le_trans (m := 5000) (by omega) (by decide)
    refine ex_mid (fun s' => ∃ h' tk' m' ys', s' = { s with heap := h', toks := tk' } ∧ Fr s.heap L h' m' ∧ m' (Str.ofString "out") = some (.ref O) ∧ m' (Str.ofString "newline") = some (.bool false) ∧ h'.PlainList O ys'.toArray ∧ IntsAre ys' (b2aFin (lc, lb, out)) ∧ ys'.length ≤ 3 * (KBw.bInts b).length + 3) ?_ ?_
    · refine wpAny_If (wpAny_isTrue_Compare1 (nm_local Fm.ns m4 (wpAny_Constant_int (PyProof.Rows.eq_int (wpAny_truthy_bool ?_)))))
      by_cases h2 : lb = 2
      · refine ite_pos (by rw [h2]; rfl) ?_
        refine ex_append Fm.ns m1 hOm (b64_at (t₀.fr Fm) (wpAny_BinOp (wpAny_BinOp (nm_local Fm.ns m3 (wpAny_Constant_int (and_int (wpAny_Constant_int (lshift_int_small (by decide) (by decide) (by rw [bitAnd_m2]; omega) ?_))))))))
        have e16 : Builtin.bitAnd lc 3 * 2 ^ (4 : Int).toNat = (lc % 4) * 16 := by rw [bitAnd_m2]; rfl
        refine ⟨_, _, rfl, by rw [e16]; omega, by rw [e16]; omega, fun t' k' => ⟨_, hOm, small _ (by omega), fun h₂ hl₂ k₂ => ?_⟩⟩
        dsimp only at hl₂ k₂ ⊢
        have F₂ := bt_fr Fm k₂ (Ne.symm hOL) hOn
        refine ex_append F₂.ns m1 hl₂ (wpAny_Constant_int ⟨_, hl₂, ?_, fun h₃ hl₃ k₃ => ?_⟩)
        · exact push1 (by omega)
        dsimp only at hl₃ k₃ ⊢
        have F₃ := bt_fr F₂ k₃ (Ne.symm hOL) hOn
        refine ex_append F₃.ns m1 hl₃ (wpAny_Constant_int ⟨_, hl₃, ?_, fun h₄ hl₄ k₄ => wpAny_execs_nil ?_⟩)
        · exact push2 (by omega)
        dsimp only at hl₄ k₄ ⊢
        have F₄ := bt_fr F₃ k₄ (Ne.symm hOL) hOn
        rw [List.push_toArray, List.push_toArray, List.push_toArray] at hl₄
        refine ⟨rfl, h₄, _, m, _, rfl, F₄, m1, m2, hl₄, ?_, by simp only [List.length_append, List.length_singleton]; omega⟩
        have e : b2aFin (lc, lb, out) = out ++ [sign (Builtin.bitAnd lc 3 * 2 ^ 4)] ++ [61] ++ [61] := by unfold b2aFin; rw [if_pos h2]; simp
        rw [e]
        exact ((hys.append (IntsAre.cons _ _ IntsAre.nil)).append (IntsAre.cons _ _ IntsAre.nil)).append (IntsAre.cons _ _ IntsAre.nil)
      · refine ite_neg (by simpa using h2) ?_
        refine ex_if (wpAny_isTrue_Compare1 (nm_local Fm.ns m4 (wpAny_Constant_int (PyProof.Rows.eq_int (wpAny_truthy_bool ?_)))))
        by_cases h4 : lb = 4
        · refine ite_pos (by rw [h4]; rfl) ?_
          refine ex_append Fm.ns m1 hOm (b64_at (t₀.fr Fm) (wpAny_BinOp (wpAny_BinOp (nm_local Fm.ns m3 (wpAny_Constant_int (and_int (wpAny_Constant_int (lshift_int_small (by decide) (by decide) (by rw [bitAnd_m4]; omega) ?_))))))))
          have e4 : Builtin.bitAnd lc 15 * 2 ^ (2 : Int).toNat = (lc % 16) * 4 := by rw [bitAnd_m4]; rfl
          refine ⟨_, _, rfl, by rw [e4]; omega, by rw [e4]; omega, fun t' k' => ⟨_, hOm, small _ (by omega), fun h₂ hl₂ k₂ => ?_⟩⟩
          dsimp only at hl₂ k₂ ⊢
          have F₂ := bt_fr Fm k₂ (Ne.symm hOL) hOn
          refine ex_append F₂.ns m1 hl₂ (wpAny_Constant_int ⟨_, hl₂, ?_, fun h₃ hl₃ k₃ => wpAny_execs_nil (wpAny_execs_nil ?_)⟩)
          · exact push1 (by omega)
          dsimp only at hl₃ k₃ ⊢
          have F₃ := bt_fr F₂ k₃ (Ne.symm hOL) hOn
          rw [List.push_toArray, List.push_toArray] at hl₃
          refine ⟨rfl, h₃, _, m, _, rfl, F₃, m1, m2, hl₃, ?_, by simp only [List.length_append, List.length_singleton]; omega⟩
          have e : b2aFin (lc, lb, out) = out ++ [sign (Builtin.bitAnd lc 15 * 2 ^ 2)] ++ [61] := by unfold b2aFin; rw [if_neg h2, if_pos h4]; simp
          rw [e]
          exact (hys.append (IntsAre.cons _ _ IntsAre.nil)).append (IntsAre.cons _ _ IntsAre.nil)
        · refine ite_neg (by simpa using h4) (wpAny_execs_nil (wpAny_execs_nil ?_))
          refine ⟨rfl, hh, _, m, ys, rfl, Fm, m1, m2, hOm, ?_, by omega⟩
          have e : b2aFin (lc, lb, out) = out := by unfold b2aFin; rw [if_neg h2, if_neg h4]
          rw [e]; exact hys
    · rintro s' ⟨h', tk', m', ys', rfl, F', p1, p2, p3, p4, p5⟩
      refine ex_if (wpAny_isTrue_value (nm_local F'.ns p2 (wpAny_truthy_bool ?_)))
      refine ite_neg Bool.false_ne_true (wpAny_execs_nil ?_)
      refine ex_ret (Call_ (nm_boot (t₀.fr F') (gl_bytes w) bt_bytes (PyProof.Rows.callWith_type1 (args_cons (nm_local F'.ns p1 (args_nil ?_))))))
      refine call_bytes_ints p3.isList p4 ?_ ?_ hA fun h'' t'' k'' g'' => ?_
      · exact fin_in q6
      · have := small ys' p5; rwa [List.size_toArray] at this
      · exact h h'' t'' k'' (Gr.trans F'.keep g'')
end
end Mine

-- Url
open PySem PySem.W PyProof.Rows PySem.Calls PySem.Spec
set_option Elab.async false
set_option maxRecDepth 100000
set_option maxHeartbeats 1000000
namespace Mine
theorem slot_tr : Slot "bytes" "translate" "bytes.translate" :=
  .of (owner := "bytes") (n := "translate") (by rw [typeLookup_type, builtinLookup_eq_fast]; kernel_rfl) (by decide +kernel) (by decide +kernel) (by decide +kernel)
    (by first | exact .inl (by decide +kernel) | exact .inr (by decide +kernel)) (by rw [isSubtype_type]; kernel_rfl)
theorem type_tr : typeOf (.builtin "bytes.translate") = pure (.type "method_descriptor") := by show builtinType _ = _; rw [builtinType_eq_fast]; kernel_rfl
theorem entry_tr : entryFor table "bytes.translate" = some Builtin.«bytes.translate» := entryFor_of_tree (by kernel_rfl)
theorem args_tr (a b : Value) : argsOk "bytes.translate" ⟨[a, b], []⟩ := by unfold argsOk; kernel_rfl
def trBy (tab b : Array UInt8) : Array UInt8 := b.map fun c => tab.getD c.toNat c
theorem meets_tr {b tab : Array UInt8} {t u : Tok} (ht : tab.size = 256) : Meets (Builtin.«bytes.translate» ⟨[.bytes b t, .bytes tab u], []⟩)
    (fun _ R s => b.size ≤ sizeLine ∧ ∀ t' k, R (.ok (.ret (.bytes (trBy tab b) t'))) { s with toks := k }) := by
  refine .of_wp fun prog w A R s hS => ?_
  obtain ⟨hsz, h⟩ := hS
  unfold Builtin.«bytes.translate» Builtin.Bytes.translateM
  dsimp only [List.length_cons, List.length_nil, List.any_nil, List.head?_nil, List.head?, Option.map_none]
  rw [if_neg (by decide)]
  refine wpAny_bind (wpAny_of_eq KBd.like_eq ?_)
  rw [if_neg (by simp [ht])]
  refine wpAny_bind (wpAny_pure ?_)
  refine wpAny_bind (wpAny_pure ?_)
  refine wpAny_bind (wpAny_of_eq (a := b) rfl ?_)
  have e : (b.filter fun x => !(#[] : Array UInt8).contains x) = b := by simp
  rw [e]
  show wpAny _ _ (if (trBy tab b == b) = true then _ else _) _ _ s
  by_cases hb : trBy tab b = b
  · rw [if_pos (by simp [hb])]
    refine wpAny_bind (wpAny_rule (wpAny_bind (wpAny_of_eq (a := .bytes b t) rfl (wpAny_pure ⟨_, rfl, ?_⟩))))
    have := h t s.toks
    rw [hb] at this
    exact this
  · rw [if_neg (by simp [hb])]
    refine wpAny_bind ?_
    show wpAny _ _ (mkBytes (trBy tab b)) _ _ s
    unfold mkBytes
    rw [if_neg (by unfold trBy; rw [Array.size_map]; omega)]
    exact wpAny_bind (wpAny_fresh (wpAny_pure (wpAny_pure ⟨_, rfl, h _ _⟩)))

section
variable {w : World} {A : Around} {E : Value → Shared → Prop} {s : Shared} {env : Env}
theorem call_tr {b tab : Array UInt8} {t u : Tok} {Q : Value → Shared → Prop} (ht : tab.size = 256) (hsz : b.size ≤ sizeLine) (h : ∀ t' k, Q (.bytes (trBy tab b) t') { s with toks := k }) :
    wpAny (model PG w) A (call (.builtin "bytes.translate") [.bytes b t, .bytes tab u]) Q E s :=
  call_meets slot_tr (PySem.W.typeIs_bytes _ _ _) entry_tr (args_tr _ _) (meets_tr ht) ⟨hsz, h⟩
theorem method_tr {b : Array UInt8} {t : Tok} {pl : Sem Bool} {Q : Value × List Value → Shared → Prop} (h : Q (.builtin "bytes.translate", [.bytes b t]) s) : wpAny (model PG w) A (getMethod (.bytes b t) (Str.ofString "translate") pl) Q E s := by
  with_reducible exact KBd.method_of (.bytes b t) (PySem.W.typeIs_bytes _ _ _) slot_tr type_tr KBd.noRef h

def urlA : Array UInt8 := #[0, 1, 2, 3, 4, 5, 6, 7, 8, 9, 10, 11, 12, 13, 14, 15, 16, 17, 18, 19, 20, 21, 22, 23, 24, 25, 26, 27, 28, 29, 30, 31, 32, 33, 34, 35, 36, 37, 38, 39, 40, 41, 42, 45, 44, 45, 46, 95, 48, 49, 50, 51, 52, 53, 54, 55, 56, 57, 58, 59, 60, 61, 62, 63, 64, 65, 66, 67, 68, 69, 70, 71, 72, 73, 74, 75, 76, 77, 78, 79, 80, 81, 82, 83, 84, 85, 86, 87, 88, 89, 90, 91, 92, 93, 94, 95, 96, 97, 98, 99, 100, 101, 102, 103, 104, 105, 106, 107, 108, 109, 110, 111, 112, 113, 114, 115, 116, 117, 118, 119, 120, 121, 122, 123, 124, 125, 126, 127, 128, 129, 130, 131, 132, 133, 134, 135, 136, 137, 138, 139, 140, 141, 142, 143, 144, 145, 146, 147, 148, 149, 150, 151, 152, 153, 154, 155, 156, 157, 158, 159, 160, 161, 162, 163, 164, 165, 166, 167, 168, 169, 170, 171, 172, 173, 174, 175, 176, 177, 178, 179, 180, 181, 182, 183, 184, 185, 186, 187, 188, 189, 190, 191, 192, 193, 194, 195, 196, 197, 198, 199, 200, 201, 202, 203, 204, 205, 206, 207, 208, 209, 210, 211, 212, 213, 214, 215, 216, 217, 218, 219, 220, 221, 222, 223, 224, 225, 226, 227, 228, 229, 230, 231, 232, 233, 234, 235, 236, 237, 238, 239, 240, 241, 242, 243, 244, 245, 246, 247, 248, 249, 250, 251, 252, 253, 254, 255]
theorem gl_url (w : World) : nsIn (hd.heap_39 w.params) mainGlobals (Str.ofString "_urlsafe_encode_translation") = some (some (.bytes urlA 264)) := by rfl
theorem gl_b64encode (w : World) : nsIn (hd.heap_39 w.params) mainGlobals (Str.ofString "b64encode") = some (some (.ref 65)) := by rfl
theorem gl_b2a (w : World) : nsIn (hd.heap_39 w.params) mainGlobals (Str.ofString "b2a_base64") = some (some (.ref 57)) := by rfl
theorem urlA_size : urlA.size = 256 := by rfl

/-- what b2a_base64 writes of the octets -/
def b2aBytes (b : Array UInt8) : Array UInt8 := byteArr (b2aFin (b2aRun (KBw.bInts b)))
theorem b2aBytes_size {b : Array UInt8} (hb : b.size ≤ 1000) : (b2aBytes b).size ≤ sizeLine := by
  have hok := run_ok (KBw.bInts b)
  have hl : (KBw.bInts b).length = b.size := KBw.ints_length b
  have hst := ex3 (b2aRun (KBw.bInts b))
  obtain ⟨lc, lb, out, hst⟩ := hst
  unfold b2aBytes
  rw [hst] at hok ⊢
  obtain ⟨_, _, q, _⟩ := hok
  dsimp only at q
  rw [byteArr_size]
  have : (b2aFin (lc, lb, out)).length ≤ out.length + 3 := by
    unfold b2aFin; dsimp only; split
    · simp
    · split <;> simp
  exact Nat.le_trans (m := 5000) (by omega) (by decide)

theorem c_b64encode {b : Array UInt8} {tk : Tok} {Q : Value → Shared → Prop} (t : Tp w s.heap) (hA : A.handled = none) (hroom : A.depth + 2 < recursionLimit) (hb : b.size ≤ 1000)
    (h : ∀ h' t' tk', Gr s.heap h' → Q (.bytes (b2aBytes b) t') { s with heap := h', toks := tk' }) :
    wpAny (model PG w) A (call (.ref 65) [.bytes b tk]) Q E s := by
  have hfill : Fill PySem.Challenge.rw_ny0023_01 hd.heap_39 := by (k_fill; trivial)
  refine call_fn (binds := [(Str.ofString "s", .bytes b tk), (Str.ofString "altchars", .none)]) t (by omega) (by k_is) rfl (by k_is) rfl ?_ (by decide) (locs rfl) ?_ rfl rfl rfl
  · exact binds_K t.X rfl (by k_is) rfl rfl rfl
  intro L h₁ hL F t₀
  refine ex_assign (wpAny_Call_Name_kw (nm_glob (t₀.fr F) (gl_b2a w) (callWith_KW (K := hd.heap_39 w.params) t₀.X (by k_is) rfl (args_cons (nm_local F.ns rfl (args_nil (kwAll_cons (wpAny_Constant_bool (kwAll_nil ⟨(t₀.fr F).X, ?_⟩)))))))))
  clear hfill
  refine c_b2a (t₀.fr F) hA (by show A.depth + 1 + 1 < recursionLimit; omega) hb fun h₂ t₂ tk₂ g₂ => ?_
  refine st_local (g₂.fr F) fun h₃ F₃ k₃ => ?_
  refine ex_if (wpAny_isTrue_Compare1 (nm_local F₃.ns (upd_ne rfl) (wpAny_Constant_none (isNot_none (wpAny_truthy_bool ?_)))))
  refine ite_neg (by decide) (wpAny_execs_nil ?_)
  refine ex_ret (nm_local F₃.ns upd_eq ?_)
  exact h h₃ _ _ F₃.keep

/-- urlsafe_b64encode -/
theorem c_url {b : Array UInt8} {tk : Tok} {Q : Value → Shared → Prop} (t : Tp w s.heap) (hA : A.handled = none) (hroom : A.depth + 3 < recursionLimit) (hb : b.size ≤ 1000)
    (h : ∀ h' t' tk', Gr s.heap h' → Q (.bytes (trBy urlA (b2aBytes b)) t') { s with heap := h', toks := tk' }) :
    wpAny (model PG w) A (call (.ref 72) [.bytes b tk]) Q E s := by
  have hfill : Fill PySem.Challenge.rw_ny0023_01 hd.heap_39 := by (k_fill; trivial)
  refine call_fn (binds := [(Str.ofString "s", .bytes b tk)]) t (by omega) (by k_is) rfl (by k_is) rfl (BindsTo.of_eq rfl) (by decide) (locs rfl) ?_ rfl rfl rfl
  intro L h₁ hL F t₀
  refine ex_ret (MethodCall_ (call_nm (t₀.fr F) (gl_b64encode w) (by k_is) rfl (args_cons (nm_local F.ns rfl (args_nil ⟨t₀.fr F, c_b64encode (t₀.fr F) hA (by show A.depth + 1 + 2 < recursionLimit; omega) hb fun h₂ t₂ tk₂ g₂ => ?_⟩)))))
  clear hfill
  have F₂ := g₂.fr F
  refine method_tr (callWith_method1 (args_cons (nm_glob (t₀.fr F₂) (gl_url w) (args_nil (call_tr urlA_size (b2aBytes_size hb) fun t' k => ?_)))))
  exact h h₂ t' k F₂.keep
end
end Mine

-- Text
open PySem PySem.W PyProof.Rows PySem.Calls PySem.Spec
set_option Elab.async false
set_option maxRecDepth 100000
set_option maxHeartbeats 1000000
namespace Mine
section
variable {w : World} {A : Around} {E : Value → Shared → Prop} {s : Shared} {env : Env} {Q : Value → Shared → Prop}

/-- a def with cells of its own is called; it raises nothing -/
theorem call_fc {f : Addr} {o : Obj} {fd : FuncData} {body : List Stmt} {args : List Value} {binds : List (Str × Value)} (t : Tp w s.heap) (hroom : A.depth < recursionLimit)
    (ho : (hd.heap_39 w.params).lookup f = some o) (hdata : o.data = .func fd) (hcd : codeIn (hd.heap_39 w.params) fd.code fd.qualname = true)
    (hbody : fd.body = .stmts body) (hbind : bindArgs fd ⟨args, []⟩ = pure binds) (hclo : fd.closure = [])
    (hkind : (binds.all fun y => fd.scope.names.lookup y.1 == some .local || fd.scope.names.lookup y.1 == some .cell) = true)
    (h : ∀ L h₁ tk, L = s.heap.objs.size → Fr s.heap L h₁ (bindL (callEnvC fd L f).kindOf binds fun _ => none) →
      (∀ n c, (cellsFrom (L + 1) fd.scope.names []).lookup n = some c → h₁.IsCell c (bindC (callEnvC fd L f).kindOf binds (fun _ => none) n)) → Tp w s.heap →
      wpAny (model PG w) (A.deeper (callEnvC fd L f)) (execs body (callEnvC fd L f)) (fun fl s' => Q (match fl with | .ret v => v | _ => .none) s') (fun _ _ => False) { s with heap := h₁, toks := tk })
    (hco : fd.scope.isCoroutine = false) (hgen : fd.scope.isGenerator = false) (hk : fd.scope.kind = .function) :
    wpAny (model PG w) A (call (.ref f) args) Q E s := by
  refine wpAny_call (codeAny_call_cells hroom (t.X _ _ ho) hdata t.nolimit (codeRec_of t.X hcd) hbody hbind hclo (kindsX hkind _) (fun s₁ x => ?_) hco hgen hk)
  obtain ⟨h₁, tk, rfl⟩ := x.toInCall.same
  exact wpAny_mono (h _ h₁ tk rfl ⟨x.toInCall.ns, x.toInCall.keep, x.toInCall.fresh⟩ x.cell t) (fun _ _ q => q) fun _ _ q => q.elim

theorem nm_cell {x : Str} {pos : Pos} {c : Addr} {v : Value} (hc : env.cells.lookup x = some c) (hv : s.heap.IsCell c (some v)) (h : Q v s) (hk : env.scope.kind = .function := by rfl) (hl : env.kindOf x = some .cell := by rfl)
    (hd : (x == ("__debug__" : Str)) = false := by decide) : wpAny (model PG w) A (eval (.Name x pos) env) Q E s := wpAny_Name (wpAny_loadName_cell hk hl hc hv h) hd
theorem st_cell {x : Str} {c : Addr} {v : Value} {v₀ : Option Value} {Q : Unit → Shared → Prop} (hc : env.cells.lookup x = some c) (hv : s.heap.IsCell c v₀)
    (h : ∀ h', h'.IsCell c (some v) → Bt c s.heap h' → Q () { s with heap := h' }) (hk : env.scope.kind = .function := by rfl) (hl : env.kindOf x = some .cell := by rfl) :
    wpAny (model PG w) A (storeName env x v) Q E s :=
  wpAny_storeName_cell hk hl hc hv fun h' hv' hs => h h' hv' fun b o hb e => hs.extBut b o hb e
theorem cell_at {h h' : Heap} {c : Addr} {v : Option Value} (x : h.IsCell c v) (k : ∀ o, h.get? c = some o → h'.get? c = some o) : h'.IsCell c v := let ⟨o, e, d⟩ := x; ⟨o, k o e, d⟩
theorem cell_lt {h : Heap} {c : Addr} {v : Option Value} (x : h.IsCell c v) : ∃ o, h.get? c = some o := let ⟨o, e, _⟩ := x; ⟨o, e⟩

/-- x[::-1] of a list -/
theorem sub_list_rev {value : Expr} {k : Nat} {p1 p2 p3 pos : Pos}
    (h : wpAny (model PG w) A (eval value env) (fun v s₁ => ∃ l vs, v = .ref l ∧ s₁.heap.IsList l (List.toArray vs) ∧ vs.length ≤ sizeLine ∧ ∀ D h' tk, Gr s₁.heap h' → h'.IsList D vs.reverse.toArray → Q (.ref D) { s₁ with heap := h', toks := tk }) E s)
    (ht : ∀ o r, letTemporaryGo value o r = pure () := by intro _ _; rfl) :
    wpAny (model PG w) A (eval (.Subscript value (.Slice none none (some (.UnaryOp .USub (.Constant (.int 1) k p1) p2)) p3) pos) env) Q E s := by
  refine wpAny_Subscript_Slice_step (T := "list") list_getitem_lookup (wpAny_mono h (fun o s₁ h₁ => ?_) fun _ _ e => e) ht
  obtain ⟨l, vs, rfl, hl, hsz, hQ⟩ := h₁
  refine wpAny_Slice ?_
  rw [evalPart_none, evalPart_some]
  refine wpAny_pure (wpAny_pure (wpAny_UnaryOp (wpAny_Constant_int (neg_int ?_))))
  refine ⟨(hl.push _).typeIs, wpAny_getItem_list_slice (lo := none) (hi := none) (st := some (-1)) (hl.push _) ⟨_, Heap.get?_push_size _ rfl, rfl, rfl⟩ IsPart.none IsPart.none (IsPart.int _ _) (by decide) ?_ (by rw [List.size_toArray]; exact hsz)⟩
  refine hQ _ _ _ ((Gr.push _ _).trans (Gr.push _ _)) ?_
  rw [krv_pick]
  exact ⟨_, Heap.get?_push_size _ rfl, rfl, _, rfl⟩

theorem len_list {l : Addr} {items : Array Value} {n : Nat} (hl : s.heap.IsList l items) (hn : items.size = n) (hfit : n ≤ sizeLine) (h : ∀ t' tk', Q (.int (n : Int) t') { s with toks := tk' }) :
    wpAny (model PG w) A (call (.builtin "len") [.ref l]) Q E s := by
  subst hn
  have h2 : items.size ≤ 2 ^ 24 := hfit
  exact call_len_list hl (by omega) (h _ _)

theorem size_down {c : Int} (h : 0 ≤ c) : Builtin.Range.rangeSize (c - 1) (-1) (-1) = ((c.toNat : Nat) : Int) := by
  unfold Builtin.Range.rangeSize
  rw [if_neg (by decide)]
  split
  · rw [show -(-1 : Int) = 1 from rfl, Int.ediv_one]; omega
  · omega
theorem small_down {c : Int} (h : 0 ≤ c) (h2 : c ≤ 1000) : Builtin.Range.small (c - 1) (-1) (-1) = true := by
  unfold Builtin.Range.small
  rw [size_down h]
  unfold Builtin.Range.rangeFitsLong
  rw [if_neg (by decide)]
  simp only [Bool.and_eq_true, Bool.or_eq_true, decide_eq_true_eq]
  omega

theorem it_down {x : Str} {px : Pos} {hb : Heap} {c : Int} {t u v : Tok} (h0 : 0 ≤ c) (h1 : c ≤ 1000) (hA : A.handled = none) (hsz : Gr hb s.heap)
    (h : ∀ it s₂, Upd s s₂ → Src w A (.Name x px) hb c.toNat (fun i v _ => ∃ t, v = .int (c - 1 + i * -1) t) it s₂ → Q it s₂) :
    wpAny (model PG w) A (call (.type "range") [.int (c - 1) t, .int (-1) u, .int (-1) v]) (fun xv s₁ => wpAny (model PG w) A (pyIter xv) Q E s₁) E s := by
  refine call_range_3 (by decide) ?_ (Or.inl (PyProof.noPylong_of_log2 (by decide +kernel)))
  refine it_range (n := c.toNat) hA (hsz.trans (Gr.push _ _)) (Heap.get?_push_size _ rfl) (small_down h0 h1) (size_down h0) fun it s₂ u' hs => h it s₂ ?_ hs.src
  obtain ⟨hu, tku, e, gu⟩ := u'
  exact ⟨hu, tku, e, (Gr.push _ _).trans gu⟩

/-- what _law_text reckons -/
def shortOf (n : Nat) : Int := (-(n : Int)).fmod 3
def octN (ns : List Int) (k : Nat) : List Int := (List.range k).map fun i => ns.reverse.getD i 0 * 256 ^ i
theorem octN_succ (ns : List Int) (k : Nat) : octN ns (k + 1) = octN ns k ++ [ns.reverse.getD k 0 * 256 ^ k] := by unfold octN; rw [List.range_succ, List.map_append]; rfl
def numT (ns : List Int) : Int := (octN ns ns.length).sum * 4 ^ (shortOf ns.length).toNat
def cntT (n : Nat) : Int := (4 * (n : Int) + shortOf n).fdiv 3
def alphaS : Str := Str.ofString "ABCDEFGHIJKLMNOPQRSTUVWXYZabcdefghijklmnopqrstuvwxyz0123456789-_"
def sgnT (N : Int) (k : Nat) : Str := Txt.item alphaS ((N.fdiv (64 ^ k)).fmod 64)
def sgnsT (N : Int) (c k : Nat) : List Str := (List.range k).map fun i => sgnT N (c - 1 - i)
theorem sgnsT_succ (N : Int) (c k : Nat) : sgnsT N c (k + 1) = sgnsT N c k ++ [sgnT N (c - 1 - k)] := by unfold sgnsT; rw [List.range_succ, List.map_append]; rfl
def textOf (ns : List Int) : Str := Txt.join (Str.ofString "") (sgnsT (numT ns) (cntT ns.length).toNat (cntT ns.length).toNat) ++ Txt.mul (Str.ofString "=") (shortOf ns.length)
theorem short_in (n : Nat) : 0 ≤ shortOf n ∧ shortOf n < 3 := ⟨Int.fmod_nonneg_of_pos _ (by decide), Int.fmod_lt_of_pos _ (by decide)⟩
theorem cnt_in {n : Nat} (h : n ≤ 100) : 0 ≤ cntT n ∧ cntT n ≤ 200 := by
  have := short_in n
  unfold cntT
  rw [Int.fdiv_eq_ediv_of_nonneg _ (by decide)]
  omega
theorem alphaS_len : alphaS.length = 64 := by decide +kernel

theorem gl_len (w : World) : nsIn (hd.heap_39 w.params) mainGlobals (Str.ofString "len") = some none := by rfl
theorem bt_len : bootBuiltins (Str.ofString "len") = some (.builtin "len") := by decide +kernel
theorem gl_range (w : World) : nsIn (hd.heap_39 w.params) mainGlobals (Str.ofString "range") = some none := by rfl
theorem bt_range : bootBuiltins (Str.ofString "range") = some (.type "range") := by decide +kernel

theorem log_64 {k : Nat} (h : k < 1000) : ((64 : Int) ^ k).natAbs.log2 < 9000 := by
  have e : ((64 : Int) ^ k).natAbs = 2 ^ (6 * k) := by
    rw [Int.natAbs_pow]
    show 64 ^ k = 2 ^ (6 * k)
    rw [Nat.pow_mul]
  rw [e, Nat.log2_two_pow]
  omega
theorem sgns_len (N : Int) (c : Nat) : ∀ k, ((sgnsT N c k).map (·.length)).sum + (sgnsT N c k).length * (Str.ofString "").length = k + k * 0 := fun k => by
  have e0 : (Str.ofString "").length = 0 := by decide +kernel
  rw [e0]
  induction k with
  | zero => rfl
  | succ k ih =>
    rw [sgnsT_succ, List.map_append, List.sum_append]
    have : (sgnT N (c - 1 - k)).length = 1 := len_item _ _
    simp only [List.map_cons, List.map_nil, List.sum_cons, List.sum_nil, this] at ih ⊢
    omega

theorem join_cps : ∀ ts : List Str, (Str.join (Str.ofString "") ts).cps.toList = (ts.map fun t => t.cps.toList).flatten
  | [] => rfl
  | [x] => by simp [Str.join]
  | x :: y :: r => by
    have ih := join_cps (y :: r)
    have e0 : Str.ofString "" = Str.empty := by decide +kernel
    rw [e0] at ih ⊢
    show (x ++ Str.empty ++ Str.join Str.empty (y :: r)).cps.toList = _
    rw [List.map_cons, List.flatten_cons, ← ih]
    show ((x.cps ++ Str.empty.cps) ++ (Str.join Str.empty (y :: r)).cps).toList = _
    simp [Str.empty]
def codeT (N : Int) (k : Nat) : Nat := (Txt.charAt alphaS ((N.fdiv (64 ^ k)).fmod 64)).getD 0
theorem sgns_cps (N : Int) (c : Nat) : ∀ k, ((sgnsT N c k).map fun t => t.cps.toList).flatten = (List.range k).map fun i => codeT N (c - 1 - i) := fun k => by
  induction k with
  | zero => rfl
  | succ k ih =>
    rw [sgnsT_succ, List.map_append, List.flatten_append, ih, List.range_succ, List.map_append]
    rfl
theorem mul_eq (n : Int) (h0 : 0 ≤ n) (h1 : n < 3) : (Txt.mul (Str.ofString "=") n).cps.toList = List.replicate n.toNat 61 := by
  have : n = 0 ∨ n = 1 ∨ n = 2 := by omega
  rcases this with rfl | rfl | rfl <;> decide +kernel
theorem text_codes (ns : List Int) : (textOf ns).cps.toList = ((List.range (cntT ns.length).toNat).map fun i => codeT (numT ns) ((cntT ns.length).toNat - 1 - i)) ++ List.replicate (shortOf ns.length).toNat 61 := by
  unfold textOf
  show ((Txt.join _ _).cps ++ (Txt.mul _ _).cps).toList = _
  rw [Array.toList_append, mul_eq _ (short_in _).1 (short_in _).2]
  unfold Txt.join
  rw [StrLaws.glued_eq_join, join_cps, sgns_cps]

theorem c_text {l : Addr} {vs : List Value} {ns : List Int} (t : Tp w s.heap) (hA : A.handled = none) (hroom : A.depth < recursionLimit) (hl : s.heap.IsList l vs.toArray) (hi : IntsAre vs ns) (hns : ∀ n ∈ ns, 0 ≤ n ∧ n < 256) (hn : ns.length ≤ 100)
    (h : ∀ h' t' tk', Gr s.heap h' → Q (.str (textOf ns) t') { s with heap := h', toks := tk' }) : wpAny (model PG w) A (call (.ref 84) [.ref l]) Q E s := by
  have hfill : Fill PySem.Challenge.rw_ny0023_01 hd.heap_39 := by (k_fill; trivial)
  refine call_fc (binds := [(Str.ofString "octets", .ref l)]) t hroom (by k_is) rfl (by k_is) rfl rfl rfl rfl ?_ rfl rfl rfl
  intro L h₁ tk₁ hL F hcl t₀
  clear hfill
  have hcA : h₁.IsCell (L + 1) none := hcl (Str.ofString "alphabet") (L + 1) rfl
  have hcN : h₁.IsCell (L + 2) none := hcl (Str.ofString "number") (L + 2) rfl
  have F0 : ∃ m, Fr s.heap L h₁ m ∧ m (Str.ofString "octets") = some (.ref l) := ⟨_, F, rfl⟩
  clear F hcl
  obtain ⟨m, F, hm⟩ := F0
  have nA : s.heap.get? (L + 1) = none := fresh_none (by rw [hL]; exact Nat.le_succ _)
  have nN : s.heap.get? (L + 2) = none := fresh_none (by rw [hL]; exact Nat.le_add_right _ _)
  have hvl : vs.toArray.size = ns.length := by rw [List.size_toArray, hi.length]
  have hsz : ns.length ≤ sizeLine := Nat.le_trans hn (by decide)
  have hsh := short_in ns.length
  have hcn := cnt_in hn
  refine ex_assign (wpAny_Constant_str (st_cell rfl hcA fun h₂ hcA₂ k₂ => ?_))
  have F₂ := bt_fr F k₂ (Nat.ne_of_lt (Nat.lt_succ_self L)) nA
  have hcN₂ : h₂.IsCell (L + 2) none := cell_at hcN fun o e => k₂ (L + 2) o (show L + 2 ≠ L + 1 by omega) e
  clear k₂ hcN hcA F
  refine ex_assign (wpAny_BinOp (wpAny_UnaryOp (Call_ (nm_boot (t₀.fr F₂) (gl_len w) bt_len (PyProof.Rows.callWith_builtin1 (args_cons (nm_local F₂.ns hm (args_nil (len_list (Gr.list F₂.keep hl) hvl hsz fun t' tk' => neg_int (wpAny_Constant_int (mod_int (by decide) (st_local F₂ fun h₃ F₃ k₃ => ?_))))))))))))
  have hcA₃ : h₃.IsCell (L + 1) (some (.str alphaS _)) := cell_at hcA₂ fun o e => k₃ (L + 1) o (show L + 1 ≠ L by omega) e
  have hcN₃ : h₃.IsCell (L + 2) none := cell_at hcN₂ fun o e => k₃ (L + 2) o (show L + 2 ≠ L by omega) e
  dsimp only at hcA₃ F₃ k₃ ⊢
  clear k₃ hcA₂ hcN₂ F₂
  refine ex_assign (wpAny_BinOp (Call_ (nm_boot (t₀.fr F₃) (gl_sum w) bt_sum (PyProof.Rows.callWith_builtin1 (args_cons (lc_pair (n := vs.reverse.toArray.size) (P := fun i v => vs.reverse.toArray[i]? = some v) (fun i ys => IntsAre ys (octN ns i)) hA rfl (by decide) rfl (by decide) rfl rfl (by decide) ?_ ?_ ?_ ?_ ?_))))))
  · rw [List.size_toArray, List.length_reverse, hi.length]; exact hsz
  · refine Call_ (nm_boot (t₀.fr F₃) (gl_enumerate w) bt_enumerate (PyProof.Rows.callWith_type1 (args_cons (sub_list_rev (nm_local F₃.ns (upd_ne hm) ⟨l, vs, rfl, Gr.list F₃.keep hl, ?_, fun D h' tk g hD => args_nil (enum_list hA g hD fun it s₂ u hs => ⟨u.behind g, hs⟩)⟩)))))
    rw [hi.length]; exact hsz
  · exact .nil
  · intro C i v tv ys hh₂ tk₂ mm E' hi' hC hP hnn hmx hmy hR g
    have hP' : vs.reverse[i]? = some v := by simpa using hP
    have hlt : i < ns.reverse.length := by rw [List.size_toArray, List.length_reverse, hi.length] at hi'; rw [List.length_reverse]; exact hi'
    have hg := hi.reverse.get i ns.reverse[i] (List.getElem?_eq_getElem hlt)
    obtain ⟨u, hu⟩ := hg
    rw [hP'] at hu
    cases hu
    have hb := hns ns.reverse[i] (List.mem_reverse.mp (List.getElem_mem hlt))
    have hlt2 : i < ns.length := by rwa [List.length_reverse] at hlt
    refine wpAny_BinOp (nm_local hnn hmy (wpAny_BinOp (wpAny_Constant_int (nm_local hnn hmx (pow_int_small (by omega) (by omega) (by decide) (mul_int ?_ (IntMulOk.of_left (intBits_le_64 (by omega) (by omega)))))))))
    refine ⟨_, _, rfl, Gr.refl _, ?_⟩
    rw [octN_succ]
    refine hR.append ?_
    have e : ns.reverse.getD i 0 = ns.reverse[i] := by rw [List.getD_eq_getElem?_getD, List.getElem?_eq_getElem hlt]; rfl
    rw [e]
    exact IntsAre.cons _ _ IntsAre.nil
  intro D h₄ tk₄ ys hD hlD hR g₄
  have hln : vs.reverse.toArray.size = ns.length := by rw [List.size_toArray, List.length_reverse, hi.length]
  rw [hln] at hR
  refine args_nil (sum_ints hA hlD.isList hR fun h₅ tk₅ t₅ g₅ => ?_)
  have F₅ := (g₄.trans g₅).fr F₃
  dsimp only at F₅ ⊢
  have hp4 : (4 : Int) ^ (shortOf ns.length).toNat ≤ 16 ∧ 0 ≤ (4 : Int) ^ (shortOf ns.length).toNat := by
    have : (shortOf ns.length).toNat = 0 ∨ (shortOf ns.length).toNat = 1 ∨ (shortOf ns.length).toNat = 2 := by omega
    rcases this with e | e | e <;> rw [e] <;> decide
  refine wpAny_BinOp (wpAny_Constant_int (nm_local F₅.ns upd_eq (pow_int_small hsh.1 (by show shortOf ns.length ≤ 1000000; omega) (by decide) (mul_int ?_ (IntMulOk.of_right (intBits_le_64 (by show -(2 ^ 64) < (4 : Int) ^ (shortOf ns.length).toNat; omega) (by show (4 : Int) ^ (shortOf ns.length).toNat < 2 ^ 64; omega)))))))
  have hcN₅ : h₅.IsCell (L + 2) none := cell_at hcN₃ fun o e => g₅ _ o (g₄ _ o e)
  refine st_cell rfl hcN₅ fun h₆ hcN₆ k₆ => ?_
  have F₆ := bt_fr F₅ k₆ (show L ≠ L + 2 by omega) nN
  have hcA₆ : h₆.IsCell (L + 1) (some (.str alphaS _)) := cell_at hcA₃ fun o e => k₆ (L + 1) o (show L + 1 ≠ L + 2 by omega) (g₅ _ o (g₄ _ o e))
  dsimp only at hcA₆ hcN₆ F₆ ⊢
  have hnum : (octN ns ns.length).sum * 4 ^ (shortOf ns.length).toNat = numT ns := rfl
  have hcN₆' : h₆.IsCell (L + 2) (some (.int (numT ns) _)) := hcN₆
  clear hcN₆ hcN₅ hcN₃ hcA₃ F₅ k₆ F₃ hR hlD
  refine ex_assign (wpAny_BinOp (wpAny_BinOp (wpAny_BinOp (wpAny_Constant_int (Call_ (nm_boot (t₀.fr F₆) (gl_len w) bt_len (PyProof.Rows.callWith_builtin1 (args_cons (nm_local F₆.ns (upd_ne hm) (args_nil (len_list (Gr.list F₆.keep hl) hvl hsz fun t' tk' => mul_int (nm_local F₆.ns upd_eq (add_int (wpAny_Constant_int (floordiv_int (by decide) (st_local F₆ fun h₇ F₇ k₇ => ?_) (Or.inl (PyProof.noPylong_of_log2 (by decide +kernel))))))) (IntMulOk.of_left (by decide)))))))))))))
  have hcA₇ : h₇.IsCell (L + 1) (some (.str alphaS _)) := cell_at hcA₆ fun o e => k₇ (L + 1) o (show L + 1 ≠ L by omega) e
  have hcN₇ : h₇.IsCell (L + 2) (some (.int (numT ns) _)) := cell_at hcN₆' fun o e => k₇ (L + 2) o (show L + 2 ≠ L by omega) e
  dsimp only at hcA₇ hcN₇ F₇ ⊢
  have hct : (4 * (ns.length : Int) + (-(ns.length : Int)).fmod 3).fdiv 3 = cntT ns.length := rfl
  rw [hct] at F₇
  clear hcA₆ hcN₆' k₇ F₆ hct
  refine ex_ret (wpAny_BinOp ?_)
  refine MethodCall_ (wpAny_Constant_str ?_)
  refine GM.join ?_
  refine callWith_method1 (args_cons ?_)
  refine lc_name (n := (cntT ns.length).toNat) (P := fun i v => ∃ t, v = .int (cntT ns.length - 1 + i * -1) t) (fun i ys => StrsAre ys (sgnsT (numT ns) (cntT ns.length).toNat i)) rfl (by decide) rfl (by decide) rfl ?_ ?_ ?_ ?_ ?_
  · exact Nat.le_trans (m := 200) (by omega) (by decide)
  · refine Call_ (nm_boot (t₀.fr F₇) (gl_range w) bt_range ?_)
    refine PyProof.Rows.callWith_type1 ?_
    refine args_cons ?_
    refine wpAny_BinOp ?_
    refine nm_local F₇.ns upd_eq (wpAny_Constant_int (sub_int ?_))
    refine args_cons (wpAny_UnaryOp (wpAny_Constant_int (neg_int ?_)))
    refine args_cons (wpAny_UnaryOp (wpAny_Constant_int (neg_int ?_)))
    refine args_nil ?_
    exact it_down hcn.1 (by omega) hA (Gr.refl _) fun it s₂ u hs => ⟨u, hs⟩
  · exact .nil
  · intro C i v ys hh₂ tk₂ mm E' hi' hC hP hnn hmx hR g
    obtain ⟨tv, rfl⟩ := hP
    refine Subscript_ (nm_cell rfl (cell_at hcA₇ fun o e => g _ o e) ?_)
    refine wpAny_BinOp (wpAny_BinOp (nm_cell rfl (cell_at hcN₇ fun o e => g _ o e) ?_))
    refine wpAny_BinOp (wpAny_Constant_int (nm_local hnn hmx ?_))
    refine pow_int_small (by omega) (by omega) (by decide) ?_
    have hk : (cntT ns.length - 1 + (i : Int) * -1).toNat = (cntT ns.length).toNat - 1 - i := by omega
    refine floordiv_int ?_ (wpAny_Constant_int (mod_int (by decide) ?_)) (Or.inl (PyProof.noPylong_of_log2 ?_))
    · exact Int.ne_of_gt (Int.pow_pos (by decide))
    · rw [hk]
      have hb := Int.fmod_nonneg_of_pos ((numT ns).fdiv (64 ^ ((cntT ns.length).toNat - 1 - i))) (b := 64) (by decide)
      have hb2 := Int.fmod_lt_of_pos ((numT ns).fdiv (64 ^ ((cntT ns.length).toNat - 1 - i))) (b := 64) (by decide)
      refine item_str ?_ ?_ ?_ fun _ => ⟨_, _, rfl, Gr.refl _, ?_⟩
      · unfold fitsSsize
        rw [decide_eq_false (by omega), decide_eq_false (by omega)]
        rfl
      · rw [alphaS_len]; omega
      · rw [alphaS_len]; omega
      · rw [sgnsT_succ]
        exact hR.append' (StrsAre.cons _ _ StrsAre.nil)
    · rw [hk]
      exact log_64 (by omega)
  · intro D₈ h₈ tk₈ ys₈ hD₈ hl₈ hR₈ g₈
    refine args_nil ?_
    refine join_list hl₈.isList hR₈ ?_ fun t₉ k₉ => ?_
    · rw [sgns_len]; exact Nat.le_trans (m := 200) (by show _ + _ * 0 ≤ _; omega) (by decide)
    · refine wpAny_BinOp (wpAny_Constant_str (nm_local (g₈.ns F₇.ns) (upd_ne upd_eq) ?_))
      refine SB.mul (mulOk_of 1 3 (by decide +kernel) (by show shortOf ns.length ≤ 3; omega) (by show -2 ^ 63 ≤ shortOf ns.length; omega) (by decide) (by decide)) fun t₁₀ k₁₀ => ?_
      refine SBL.add (fun t₁₁ k₁₁ _ => ?_) ?_
      · exact h h₈ t₁₁ k₁₁ (Gr.trans F₇.keep g₈)
      · have e := congrArg List.length (text_codes ns)
        have e2 : (textOf ns).cps.toList.length = (Txt.join (Str.ofString "") (sgnsT (numT ns) (cntT ns.length).toNat (cntT ns.length).toNat)).length + (Txt.mul (Str.ofString "=") (shortOf ns.length)).length := by
          unfold textOf
          show ((Txt.join _ _).cps ++ (Txt.mul _ _).cps).toList.length = _
          simp [Str.length]
        rw [List.length_append, List.length_map, List.length_range, List.length_replicate] at e
        refine Nat.le_trans (m := 300) ?_ (by decide)
        show (Txt.join (Str.ofString "") (sgnsT (numT ns) (cntT ns.length).toNat (cntT ns.length).toNat)).length + (Txt.mul (Str.ofString "=") (shortOf ns.length)).length ≤ 300
        rw [← e2, e]
        omega
end
end Mine

-- Words
open PySem PySem.W PyProof.Rows PySem.Calls PySem.Spec
set_option Elab.async false
set_option maxRecDepth 100000
set_option maxHeartbeats 1000000
namespace Mine
section
variable {w : World} {A : Around} {E : Value → Shared → Prop} {s : Shared} {env : Env}

theorem setItem_neg {l : Addr} {items : Array Value} {k : Int} {t : Tok} {v : Value} {Q : Unit → Shared → Prop} (hp : s.heap.PlainList l items) (h0 : k < 0) (h1 : -(items.size : Int) ≤ k) (hfit : -(2 ^ 63) ≤ k)
    (hQ : ∀ h', h'.PlainList l (items.setIfInBounds (k + items.size).toNat v) → Bt l s.heap h' → Q () { s with heap := h' }) :
    wpAny (model PG w) A (setItem (.ref l) (.int k t) v) Q E s := by
  obtain ⟨ne, ho⟩ := hp
  refine ki_setBack (n := ne) ho h0 h1 hfit (hQ _ ⟨ne, ?_⟩ fun b o hb e => (Heap.SameBut.update ..).extBut b o hb e)
  rw [Heap.get?_update_self _ ho (by rfl)]
  simp [Obj.mapSeq]

/-- words[-1] of a list met by a name -/
theorem last_of {value slice : Expr} {l : Addr} {ys : List Value} {v : Value} {u : Tok} {Q : Value → Shared → Prop} (hl : s.heap.IsList l (ys ++ [v]).toArray) (h : Q v s)
    (hs : subscripted slice false (.ref l) (.int (-1) u) = operate [.ref l, .int (-1) u] (getItem (.ref l) (.int (-1) u)) := by rfl) (ht : ∀ r, letTemporaryGo value (.ref l) r = pure () := by intro _; rfl) :
    wpAny (model PG w) A (subscriptTail value slice (.ref l) (.int (-1) u)) Q E s := by
  refine tail_of_ItemOn ⟨"list", _, list_getitem_lookup, hl.typeIs, wpAny_getItem_list_neg hl (by decide) ?_ (by decide) ?_ h⟩ hs ht
  · rw [List.size_toArray, List.length_append, List.length_singleton]; omega
  · rw [List.size_toArray, List.length_append, List.length_singleton]
    rw [show ((-1 : Int) + ((ys.length + 1 : Nat) : Int)).toNat = ys.length by omega]
    simp
theorem set_last {ys : List Value} {a b : Value} : (ys ++ [a]).toArray.setIfInBounds ((-1 : Int) + ((ys ++ [a]).toArray.size : Int)).toNat b = (ys ++ [b]).toArray := by
  rw [List.size_toArray, List.length_append, List.length_singleton]
  rw [show ((-1 : Int) + ((ys.length + 1 : Nat) : Int)).toNat = ys.length by omega]
  simp
theorem sa_snoc : ∀ {d : List Str} {ys : List Value} {c : Str}, StrsAre ys (d ++ [c]) → ∃ zs t, ys = zs ++ [.str c t] ∧ StrsAre zs d
  | [], _, c, h => by
    cases h with
    | cons y t r => cases r; exact ⟨[], t, rfl, .nil⟩
  | x :: d, _, c, h => by
    cases h with
    | cons y t r =>
      obtain ⟨zs, u, e, q⟩ := sa_snoc (d := d) r
      exact ⟨.str x t :: zs, u, by rw [e]; rfl, .cons _ _ q⟩
theorem sa_len : ∀ {ys : List Value} {d : List Str}, StrsAre ys d → ys.length = d.length
  | _, _, .nil => rfl
  | _, _, .cons _ _ r => by rw [List.length_cons, List.length_cons, sa_len r]

theorem but_last {zs : List Value} {v : Value} : slicePick (zs ++ [v]).toArray none (some (-1)) none = zs.toArray := by
  have e := slicePick_butLast (zs ++ [v]).toArray 1 (Nat.le_refl _)
  have e2 : (zs ++ [v]).toArray.toList.take ((zs ++ [v]).toArray.size - 1) = zs := by simp
  rw [e2] at e
  exact e
theorem pushed2 (h : Heap) (a b : Obj) (hb : b.isFreed = false) : ((h.push a).push b).get? (h.objs.size + 1) = some b := by
  have := Heap.get?_push_size (h.push a) hb
  rwa [Heap.size_push] at this
theorem ex2 (x : List Str × Str) : ∃ a b, x = (a, b) := ⟨x.1, x.2, rfl⟩
/-- the signs that end a word -/
def isEnd (c : Nat) : Bool := decide (c ∈ (Str.ofString "0123456789-=").cps.toList)
def wStep (st : List Str × Str) (c : Nat) : List Str × Str := if isEnd c = true then (st.1 ++ [st.2 ++ ⟨#[c]⟩], Str.ofString "") else (st.1, st.2 ++ ⟨#[c]⟩)
def wRun (cs : List Nat) : List Str × Str := cs.foldl wStep ([], Str.ofString "")
theorem wRun_snoc (cs : List Nat) (c : Nat) : wRun (cs ++ [c]) = wStep (wRun cs) c := by simp [wRun]
def WOk (k : Nat) (st : List Str × Str) : Prop := st.2.length ≤ k ∧ st.1.length ≤ k ∧ ∀ x ∈ st.1, x.length ≤ k
theorem wStep_ok {k : Nat} {st : List Str × Str} (c : Nat) (h : WOk k st) : WOk (k + 1) (wStep st c) := by
  obtain ⟨h1, h2, h3⟩ := h
  have e : (st.2 ++ ⟨#[c]⟩ : Str).length = st.2.length + 1 := by
    show (st.2.cps ++ #[c]).size = _
    rw [Array.size_append]; rfl
  unfold wStep
  split
  · refine ⟨by show (Str.ofString "").length ≤ _; rw [show (Str.ofString "").length = 0 by decide +kernel]; omega, by simp; omega, fun x hx => ?_⟩
    rcases List.mem_append.mp hx with hx | hx
    · have := h3 x hx; omega
    · rw [List.mem_singleton.mp hx, e]; omega
  · exact ⟨by show (st.2 ++ ⟨#[c]⟩ : Str).length ≤ _; rw [e]; omega, by show st.1.length ≤ _; omega, fun x hx => Nat.le_succ_of_le (h3 x hx)⟩
theorem wFold_ok : ∀ (cs : List Nat) {k : Nat} {st : List Str × Str}, WOk k st → WOk (k + cs.length) (cs.foldl wStep st)
  | [], _, _, h => h
  | c :: cs, k, st, h => by
    have := wFold_ok cs (wStep_ok c h)
    rw [List.length_cons, Nat.add_comm cs.length 1, ← Nat.add_assoc]
    exact this
theorem wRun_ok (cs : List Nat) : WOk cs.length (wRun cs) := by
  have h0 : WOk 0 ([], Str.ofString "") := ⟨by decide +kernel, Nat.le_refl _, fun x hx => nomatch hx⟩
  have := wFold_ok cs h0
  rw [Nat.zero_add] at this
  exact this

def WordsAt (h₀ : Heap) (L W : Addr) (st : List Str × Str) (h : Heap) : Prop :=
  ∃ (m : Str → Option Value) (ys : List Value), Fr h₀ L h m ∧ m (Str.ofString "words") = some (.ref W) ∧ h.PlainList W ys.toArray ∧ StrsAre ys (st.1 ++ [st.2])
theorem WordsAt.moved {h₀ hb h h' : Heap} {L W : Addr} {st : List Str × Str} (x : WordsAt h₀ L W st h) (g : Gr h₀ hb) (hL : ∃ o, hb.get? L = some o) (hW : ∃ o, hb.get? W = some o) (k : ∀ b o o', hb.get? b = some o' → h.get? b = some o → h'.get? b = some o) : WordsAt h₀ L W st h' := by
  obtain ⟨m, ys, F, a, e, f⟩ := x
  obtain ⟨oL, eL⟩ := hL
  obtain ⟨oW, eW⟩ := hW
  exact ⟨m, ys, ⟨F.ns.at' fun o q => k L o oL eL q, fun b o q => k b o o (g b o q) (F.keep b o q), F.above⟩, a, e.at fun o q => k W o oW eW q, f⟩

theorem c_words {x : Str} {tk : Tok} {Q : Value → Shared → Prop} (t : Tp w s.heap) (hA : A.handled = none) (hroom : A.depth < recursionLimit) (hx : x.length ≤ 1000)
    (h : ∀ W h' tk' ys, s.heap.get? W = none → Gr s.heap h' → h'.IsList W (List.toArray ys) → StrsAre ys (wRun x.cps.toList).1 → Q (.ref W) { s with heap := h', toks := tk' }) :
    wpAny (model PG w) A (call (.ref 91) [.str x tk]) Q E s := by
  have hfill : Fill PySem.Challenge.rw_ny0023_01 hd.heap_39 := by (k_fill; trivial)
  refine call_fn (binds := [(Str.ofString "text", .str x tk)]) t hroom (by k_is) rfl (by k_is) rfl (BindsTo.of_eq rfl) (by decide) (locs rfl) ?_ rfl rfl rfl
  intro L h₁ hL F t₀
  clear hfill
  refine ex_assign (List_ (args_cons (wpAny_Constant_str (args_nil (wpAny_newObj_type ?_)))))
  have F₂ := F.push { cls := .type "list", data := .seq #[.str (Str.ofString "") (s.toks + 1)] }
  have hW : (h₁.push { cls := .type "list", data := .seq #[.str (Str.ofString "") (s.toks + 1)] }).PlainList h₁.objs.size #[.str (Str.ofString "") (s.toks + 1)] := ⟨0, Heap.get?_push_size _ rfl⟩
  have hWL : h₁.objs.size ≠ L := Nat.ne_of_gt F.ns.lt
  have hWn : s.heap.get? h₁.objs.size = none := Gr.fresh F.keep (Nat.le_refl _)
  refine st_local F₂ fun h₃ F₃ k₃ => ?_
  have hW₃ : h₃.PlainList h₁.objs.size #[.str (Str.ofString "") (s.toks + 1)] := hW.at fun o e => k₃ h₁.objs.size o hWL e
  dsimp only at F₃ ⊢
  have hex : ∃ W, W = h₁.objs.size := ⟨_, rfl⟩
  obtain ⟨W, eW⟩ := hex
  rw [← eW] at hW₃ hWL hWn F₃
  clear k₃ hW F₂
  refine ex_next (for_src (n := x.cps.size) (P := fun i v _ => SignAt x i v) [L, W] (fun i hh => WordsAt s.heap L W (wRun (x.cps.toList.take i)) hh) ?_ ?_ ?_ ?_ ?_ ?_)
  · exact nm_local F₃.ns (upd_ne rfl) (it_str hA (Gr.refl _) fun it s₂ u hs => ⟨u, hs⟩)
  · exact all_two (ns_get F₃.ns) (pl_get hW₃)
  · intro hh g
    exact ⟨_, [_], g.fr F₃, upd_eq, hW₃.at fun o e => g W o e, StrsAre.cons _ _ StrsAre.nil⟩
  · intro i hh hh' j k
    exact WordsAt.moved j (hb := h₃) F₃.keep (ns_get F₃.ns) (pl_get hW₃) k
  · rintro i v hh tkh hi ⟨c, u, hc, rfl⟩ ⟨m, ys, Fm, m1, hWm, hys⟩ hk
    have hi' : i < x.cps.toList.length := by simpa using hi
    have hok := wRun_ok (x.cps.toList.take i)
    have hlen : (x.cps.toList.take i).length ≤ 1000 := by
      rw [List.length_take]
      have : x.cps.toList.length ≤ 1000 := by simpa [Str.length] using hx
      omega
    have htake : x.cps.toList.take (i + 1) = x.cps.toList.take i ++ [c] := by
      rw [List.take_add_one, show x.cps.toList[i]? = some c by simpa using hc]; rfl
    have hst := ex2 (wRun (x.cps.toList.take i))
    obtain ⟨d, cur, hst⟩ := hst
    have fin : ∀ hh', WordsAt s.heap L W (wStep (d, cur) c) hh' → WordsAt s.heap L W (wRun (x.cps.toList.take (i + 1))) hh' := fun hh' q => by rw [htake, wRun_snoc, hst]; exact q
    rw [hst] at hys hok
    obtain ⟨q1, q2, q3⟩ := hok
    dsimp only at hys q1 q2 q3
    clear htake hst
    have hsn := sa_snoc hys
    obtain ⟨zs, tc, ez, hzs⟩ := hsn
    subst ez
    have hzl := sa_len hzs
    refine wpAny_assign_Name (st_local Fm fun h₂ F₂ k₂ => ?_)
    have hW₂ : h₂.PlainList W (zs ++ [Value.str cur tc]).toArray := hWm.at fun o e => k₂ W o hWL e
    refine ex_next (wpAny_Assign_Subscript (wpAny_BinOp (Subscript_ (nm_local F₂.ns (upd_ne m1) ?_))))
    refine wpAny_UnaryOp (wpAny_Constant_int (neg_int ?_))
    refine last_of hW₂.isList ?_
    refine nm_local F₂.ns upd_eq ?_
    refine SBL.add (fun t₃ k₃' _ => ?_) ?_
    · refine nm_local F₂.ns (upd_ne m1) ?_
      refine wpAny_UnaryOp (wpAny_Constant_int (neg_int ?_))
      refine setItem_neg hW₂ (by decide) ?_ (by decide) fun h₃ hW₃ k₃ => ⟨rfl, ?_⟩
      · rw [List.size_toArray, List.length_append, List.length_singleton]; omega
      rw [set_last] at hW₃
      have F₃ := bt_fr F₂ k₃ (Ne.symm hWL) hWn
      dsimp only at F₃ k₃ ⊢
      have kk₃ : ∀ b o, b ∉ [L, W] → hh.get? b = some o → h₃.get? b = some o := fun b o hb e => by
        have h1 : b ≠ L := fun q => hb (by simp [q])
        have h2 : b ≠ W := fun q => hb (by simp [q])
        exact k₃ b o h2 (k₂ b o h1 e)
      refine ex_if (wpAny_isTrue_Compare1 (nm_local F₃.ns upd_eq (wpAny_Constant_str (P.in_str (wpAny_truthy_bool ?_)))))
      have hfo := StrLaws.found_one (Str.ofString "0123456789-=") c
      by_cases hend : isEnd c = true
      · refine ite_pos (hfo.trans hend) ?_
        refine ex_append F₃.ns (upd_ne m1) hW₃ (wpAny_Constant_str ⟨_, hW₃, ?_, fun h₄ hW₄ k₄ => wpAny_execs_nil (wpAny_execs_nil ?_)⟩)
        · rw [List.size_toArray, List.length_append, List.length_singleton]
          exact Nat.le_trans (m := 2000) (by omega) (by decide)
        rw [List.push_toArray] at hW₄
        refine ⟨h₄, _, rfl, ?_, fin _ ?_⟩
        · intro b o hb e
          have h2 : b ≠ W := fun q => hb (by simp [q])
          exact k₄ b o h2 (kk₃ b o hb e)
        · unfold wStep
          rw [if_pos hend]
          exact ⟨_, _, bt_fr F₃ k₄ (Ne.symm hWL) hWn, upd_ne m1, hW₄, (hzs.append' (StrsAre.cons _ _ StrsAre.nil)).append' (StrsAre.cons _ _ StrsAre.nil)⟩
      · refine ite_neg (by rw [hfo]; exact hend) (wpAny_execs_nil (wpAny_execs_nil ?_))
        refine ⟨h₃, _, rfl, kk₃, fin _ ?_⟩
        unfold wStep
        rw [if_neg hend]
        exact ⟨_, _, F₃, upd_ne m1, hW₃, hzs.append' (StrsAre.cons _ _ StrsAre.nil)⟩
    · refine Nat.le_trans (m := 2000) ?_ (by decide)
      show cur.length + 1 ≤ 2000
      omega
  · intro hh tkh ⟨m, ys, Fm, m1, hWm, hys⟩ hk
    refine ⟨rfl, ?_⟩
    have htk : x.cps.toList.take x.cps.size = x.cps.toList := List.take_of_length_le (by simp)
    rw [htk] at hys
    have hok := wRun_ok x.cps.toList
    have hxl : x.cps.toList.length ≤ 1000 := by simpa [Str.length] using hx
    have hsn := sa_snoc hys
    obtain ⟨zs, tc, ez, hzs⟩ := hsn
    subst ez
    have hzl := sa_len hzs
    refine ex_ret (wpAny_Subscript_list_slice (nm_local Fm.ns m1 ?_))
    rw [evalPart_none]
    refine wpAny_pure ?_
    rw [evalPart_some]
    refine wpAny_UnaryOp (wpAny_Constant_int (neg_int ⟨W, _, none, some (-1), rfl, hWm.isList, ?_, IsPart.none, IsPart.int _ _, ?_⟩))
    · rw [List.size_toArray, List.length_append, List.length_singleton]
      exact Nat.le_trans (m := 2000) (by have := hok.2.1; omega) (by decide)
    · refine h _ _ _ zs ?_ ?_ ?_ hzs
      · exact Gr.fresh Fm.keep (Nat.le_succ _)
      · exact (Gr.trans Fm.keep (Gr.push _ _)).trans (Gr.push _ _)
      · exact ⟨_, pushed2 _ _ _ rfl, rfl, 0, by rw [but_last]⟩
end
end Mine

-- Mx
open PySem PySem.W PyProof.Rows PySem.Calls PySem.Spec
set_option Elab.async false
set_option maxRecDepth 100000
set_option maxHeartbeats 1000000
namespace Mine
section
variable {w : World} {A : Around} {E : Value → Shared → Prop} {s : Shared} {env : Env}

/-- which of two pairs of a number and a text is the greater -/
def pairGt (n m : Int) (x y : Str) : Bool := if n = m then decide (y.cps.toList < x.cps.toList) else decide (m < n)

theorem lt_self (l : List Nat) : decide (l < l) = false := decide_eq_false (List.lt_irrefl l)
theorem tup_gt {a b : Addr} {n m : Int} {x y : Str} {t u t' u' : Tok} {Q : Value → Shared → Prop} (hu : A.units < cLine) (ha : s.heap.IsTuple a #[.int n t, .str x u]) (hb : s.heap.IsTuple b #[.int m t', .str y u'])
    (h : Q (.bool (pairGt n m x y)) s) : wpAny (model PG w) A (richCompare .Gt (.ref a) (.ref b)) Q E s := by
  refine wpAny_richCompare_same_room (op := .Gt) ha.typeIs hb.typeIs F.slot_tuple_gt (wpAny_call_entry F.slot_tuple_gt ha.typeIs F.entry_tuple_gt ?_ (F.args_tuple_gt_2 _ _)) hu
  have hTb := hb.typeIs
  obtain ⟨oa, hoa, hca, na, hda⟩ := ha
  obtain ⟨ob, hob, hcb, nb, hdb⟩ := hb
  show wpAny _ _ (isInstance (.ref b) (.type "tuple") >>= _) _ _ s
  refine wpAny_bind (wpAny_isInstance hTb isSubtype_tuple_tuple ?_)
  simp only [Bool.not_true, Bool.false_eq_true, if_false]
  refine wpAny_bind (wpAny_tupleItemsOf hoa hda ?_)
  refine wpAny_bind (wpAny_tupleItemsOf hob hdb ?_)
  refine wpAny_bind ?_
  show wpAny _ _ (forIn [(Value.int n t, Value.int m t'), (Value.str x u, Value.str y u')] _ _) _ _ s
  simp only [List.forIn_cons, List.forIn_nil]
  refine wpAny_bind (wpAny_bind (wpAny_eqBool_int ?_))
  unfold pairGt at h
  by_cases hnm : n = m
  · subst hnm
    rw [if_pos rfl] at h
    rw [beq_self_eq_true]
    simp only [Bool.not_true, Bool.false_eq_true, if_false]
    refine wpAny_pure ?_
    refine wpAny_bind (wpAny_bind (wpAny_eqBool_str ?_))
    by_cases hxy : x = y
    · subst hxy
      rw [lt_self] at h
      rw [decide_eq_true rfl]
      simp only [Bool.not_true, Bool.false_eq_true, if_false]
      exact wpAny_pure (wpAny_pure (wpAny_pure ⟨_, rfl, (fun e => nomatch e), h⟩))
    · rw [decide_eq_false hxy]
      simp only [Bool.not_false, if_true]
      refine wpAny_bind (wpAny_rule (wpAny_bind ?_))
      show wpAny _ _ (compareOp .Gt (.str x u) (.str y u')) _ _ _
      refine P.gt_str ?_
      exact wpAny_bind (wpAny_pure (wpAny_pure (wpAny_pure (wpAny_pure ⟨_, rfl, (fun e => nomatch e), h⟩))))
  · rw [if_neg hnm] at h
    rw [beq_eq_false_iff_ne.mpr hnm]
    simp only [Bool.not_false, if_true]
    refine wpAny_bind (wpAny_rule (wpAny_bind ?_))
    show wpAny _ _ (compareOp .Gt (.int n t) (.int m t')) _ _ _
    refine gt_int ?_
    exact wpAny_bind (wpAny_pure (wpAny_pure (wpAny_pure (wpAny_pure ⟨_, rfl, (fun e => nomatch e), h⟩))))

def bestObj (b : Option Value) (c : Nat) : Obj := { cls := .type "list", dict := none, data := .seq (match b with | none => #[] | some v => #[v, v]) c, slots := #[] }
def KeptAt (S : Addr) (b : Option Value) (h : Heap) : Prop := ∃ c, h.get? S = some (bestObj b c)

/-- what is asked of a turn of max's loop -/
def MaxTurn (w : World) (A : Around) (it : Value) (S : Addr) (kw : List (Str × Value)) (R : Result → Shared → Prop) (J : Nat → Option Value → Shared → Prop) : Prop :=
  ∀ k b (s : Shared), J k b s → KeptAt S b s.heap → wpAny (model PG w) A.in1 (pyNext it) (fun r s₁ => KeptAt S b s₁.heap ∧ match r with
    | none => (match b with
      | some v => ∀ h', Bt S s₁.heap h' → R (.ok (.ret v)) { s₁ with heap := h' }
      | none => ∃ kd d, kw = [(kd, d)] ∧ R (.ok (.ret d)) s₁)
    | some v => (match b with
      | none => ∀ h', Bt S s₁.heap h' → ∃ k', k' < k ∧ J k' (some v) { s₁ with heap := h' }
      | some vb => wpAny (model PG w) A.in1 (richCompare .Gt v vb) (fun a s₂ => ∃ yes, a = .bool yes ∧ KeptAt S (some vb) s₂.heap ∧ ∀ h', Bt S s₂.heap h' → ∃ k', k' < k ∧ J k' (some (if yes = true then v else vb)) { s₂ with heap := h' }) (fun _ _ => False) s₁)) (fun _ _ => False) s

theorem max_loop {it : Value} {S : Addr} {kw : List (Str × Value)} {R : Result → Shared → Prop} {J : Nat → Option Value → Shared → Prop} (turn : MaxTurn w A it S kw R J) :
    ∀ (N k : Nat) (b : Option Value) (s : Shared), k < N → J k b s → KeptAt S b s.heap → codeAny (model PG w) A (.builtin "max.loop" ⟨[it, .none, .ref S], kw⟩) R s := by
  have hname : (toString "max" ++ toString ".loop" : String) = "max.loop" := by decide
  intro N
  induction N with
  | zero => intro k b s hk; exact absurd hk (Nat.not_lt_zero _)
  | succ N ih =>
    intro k b s hk hJ hS
    have hturn := turn k b s hJ hS
    obtain ⟨c, hS⟩ := hS
    refine codeAny_builtin F.entry_max_loop ?_
    rw [Around.under_plainId F.plain_max_loop _]
    show wpAny _ A.in1 (seqItems? (.ref S) >>= _) _ _ s
    refine wpAny_bind (wpAny_seqItems hS rfl ?_)
    cases b with
    | none =>
      show wpAny _ A.in1 (tryCatch (pyNext it) _ >>= _) _ _ s
      refine wpAny_bind (wpAny_tryCatch (wpAny_mono hturn (fun r s₁ h₁ => ?_) fun _ _ e => e.elim))
      obtain ⟨⟨c₁, hS₁⟩, h₁⟩ := h₁
      cases r with
      | none =>
        obtain ⟨kd, d, rfl, hR⟩ := h₁
        exact wpAny_bind (wpAny_rule (wpAny_pure hR))
      | some v =>
        refine wpAny_bind (wpAny_pure ?_)
        refine wpAny_bind ?_
        refine wpAny_updateSeq hS₁ rfl ?_
        rw [hname]
        have hn := h₁ (s₁.heap.update S (Obj.mapSeq fun _ => #[v, v])) fun b o hb e => (Heap.get?_update_other _ _ (Ne.symm hb)).trans e
        obtain ⟨k', hk', hJ'⟩ := hn
        exact wpAny_pure ⟨plainId_quiet F.plain_max_loop _, ih k' (some v) _ (by omega) hJ' ⟨_, Heap.get?_update_self _ hS₁ rfl⟩⟩
    | some vb =>
      show wpAny _ A.in1 (tryCatch (pyNext it) _ >>= _) _ _ s
      refine wpAny_bind (wpAny_tryCatch (wpAny_mono hturn (fun r s₁ h₁ => ?_) fun _ _ e => e.elim))
      obtain ⟨⟨c₁, hS₁⟩, h₁⟩ := h₁
      cases r with
      | none =>
        show wpAny _ A.in1 (updateSeq S (fun _ => #[]) >>= _) _ _ _
        refine wpAny_bind ?_
        refine wpAny_updateSeq hS₁ rfl (wpAny_bind (wpAny_letGo (wpAny_pure ?_)))
        exact h₁ _ fun b o hb e => (Heap.get?_update_other _ _ (Ne.symm hb)).trans e
      | some v =>
        show wpAny _ A.in1 (tryCatch (holding [v, v] (richCompare .Gt v vb >>= _)) _ >>= _) _ _ _
        refine wpAny_bind (wpAny_tryCatch (wpAny_holding (wpAny_bind (wpAny_mono h₁ (fun a s₂ h₂ => ?_) fun _ _ e => e.elim))))
        obtain ⟨yes, rfl, ⟨c₂, hS₂⟩, h₂⟩ := h₂
        refine wpAny_bind (wpAny_holding (wpAny_truthy_bool ?_))
        refine wpAny_bind (wpAny_letGo (wpAny_pure ?_))
        cases yes with
        | true =>
          simp only [if_true]
          refine wpAny_bind ?_
          refine wpAny_updateSeq hS₂ rfl (wpAny_bind (wpAny_letGo ?_))
          rw [hname]
          have hn := h₂ (s₂.heap.update S (Obj.mapSeq fun _ => #[v, v])) fun b o hb e => (Heap.get?_update_other _ _ (Ne.symm hb)).trans e
          obtain ⟨k', hk', hJ'⟩ := hn
          exact wpAny_pure ⟨plainId_quiet F.plain_max_loop _, ih k' _ _ (by omega) hJ' ⟨_, Heap.get?_update_self _ hS₂ rfl⟩⟩
        | false =>
          simp only [Bool.false_eq_true, if_false]
          refine wpAny_bind (wpAny_letGo ?_)
          rw [hname]
          have hn := h₂ s₂.heap fun b o hb e => e
          obtain ⟨k', hk', hJ'⟩ := hn
          exact wpAny_pure ⟨plainId_quiet F.plain_max_loop _, ih k' _ _ (by omega) hJ' ⟨_, hS₂⟩⟩

/-- max of one argument -/
theorem call_max {x : Value} {Q : Value → Shared → Prop}
    (h : wpAny (model PG w) A.in1 (pyIter x) (fun it s₂ => ∀ h₃ , Gr s₂.heap h₃ → s₂.heap.get? s₂.heap.objs.size = none → KeptAt s₂.heap.objs.size none h₃ → ∃ J k, MaxTurn w A it s₂.heap.objs.size [] (fun r s' => match r with | .ok (.ret v) => Q v s' | _ => False) J ∧ J k none { s₂ with heap := h₃ }) E s) :
    wpAny (model PG w) A (call (.builtin "max") [x]) Q E s := by
  have hname : (toString "max" ++ toString ".loop" : String) = "max.loop" := by decide
  refine call_function_tree F.kind_max F.plain_max F.entry_max (F.args_max1 _) ?_
  show wpAny _ A.in1 (Builtin.Builtins.bindParams "max" ["key", "default"] 0 ⟨[], []⟩ >>= _) _ _ s
  refine wpAny_bind (wpAny_of_eq (show Builtin.Builtins.bindParams "max" ["key", "default"] 0 ⟨[], []⟩ = pure [none, none] from rfl) ?_)
  refine wpAny_bind (wpAny_pure ?_)
  refine wpAny_bind (wpAny_mono h (fun it s₂ h₂ => ?_) fun _ _ e => e)
  refine wpAny_bind (wpAny_newObj_type ?_)
  have hk : KeptAt s₂.heap.objs.size none (s₂.heap.push (bestObj none 0)) := ⟨0, Heap.get?_push_size _ rfl⟩
  have h₃ := h₂ _ (Gr.push _ _) (fresh_none (Nat.le_refl _)) hk
  obtain ⟨J, k, turn, hJ⟩ := h₃
  rw [hname]
  refine wpAny_pure ⟨plainId_quiet F.plain_max_loop _, ?_⟩
  refine codeAny_mono (max_loop turn (k + 1) k none _ (Nat.lt_succ_self _) hJ hk) fun r s' hr => ?_
  match r, hr with
  | .ok (.ret v), hr => exact hr
/-- max of one argument, with a default -/
theorem call_max_default {x d : Value} {Q : Value → Shared → Prop}
    (h : wpAny (model PG w) A.in1 (pyIter x) (fun it s₂ => ∀ h₃ , Gr s₂.heap h₃ → s₂.heap.get? s₂.heap.objs.size = none → KeptAt s₂.heap.objs.size none h₃ → ∃ J k, MaxTurn w A it s₂.heap.objs.size [(Str.ofString "default", d)] (fun r s' => match r with | .ok (.ret v) => Q v s' | _ => False) J ∧ J k none { s₂ with heap := h₃ }) E s) :
    wpAny (model PG w) A (call (.builtin "max") [x] [(Str.ofString "default", d)]) Q E s := by
  have hname : (toString "max" ++ toString ".loop" : String) = "max.loop" := by decide
  refine kmk_tree F.kind_max F.plain_max F.entry_max (by unfold argsOk; kernel_rfl) ?_
  show wpAny _ A.in1 (Builtin.Builtins.bindParams "max" ["key", "default"] 0 ⟨[], [(Str.ofString "default", d)]⟩ >>= _) _ _ s
  refine wpAny_bind (wpAny_of_eq (show Builtin.Builtins.bindParams "max" ["key", "default"] 0 ⟨[], [(Str.ofString "default", d)]⟩ = pure [none, some d] from rfl) ?_)
  refine wpAny_bind (wpAny_pure ?_)
  refine wpAny_bind (wpAny_mono h (fun it s₂ h₂ => ?_) fun _ _ e => e)
  refine wpAny_bind (wpAny_newObj_type ?_)
  have hk : KeptAt s₂.heap.objs.size none (s₂.heap.push (bestObj none 0)) := ⟨0, Heap.get?_push_size _ rfl⟩
  have h₃ := h₂ _ (Gr.push _ _) (fresh_none (Nat.le_refl _)) hk
  obtain ⟨J, k, turn, hJ⟩ := h₃
  rw [hname]
  refine wpAny_pure ⟨plainId_quiet F.plain_max_loop _, ?_⟩
  refine codeAny_mono (max_loop turn (k + 1) k none _ (Nat.lt_succ_self _) hJ hk) fun r s' hr => ?_
  match r, hr with
  | .ok (.ret v), hr => exact hr
end
end Mine

-- Wid
open PySem PySem.W PyProof.Rows PySem.Calls PySem.Spec
set_option Elab.async false
set_option maxRecDepth 100000
set_option maxHeartbeats 1000000
namespace Mine

/-- numbers to the base 64, the last figure first -/
def valR : List Nat → Int
  | [] => 0
  | c :: r => ((c : Nat) : Int).fmod 64 + 64 * valR r
theorem sum_shift (f : Nat → Int) : ∀ n, ((List.range n).map fun i => f i * 64 ^ (i + 1)).sum = 64 * ((List.range n).map fun i => f i * 64 ^ i).sum
  | 0 => rfl
  | n + 1 => by
    have ih := sum_shift f n
    rw [List.range_succ, List.map_append, List.map_append, List.sum_append, List.sum_append, ih]
    simp only [List.map_cons, List.map_nil, List.sum_cons, List.sum_nil]
    rw [Int.pow_succ, Int.mul_add, Int.add_zero, Int.add_zero, ← Int.mul_assoc, Int.mul_comm (f n * 64 ^ n) 64]
theorem figs_valR : ∀ r : List Nat, ((List.range r.length).map fun i => ((r.getD i 0 : Nat) : Int).fmod 64 * 64 ^ i).sum = valR r
  | [] => rfl
  | c :: r => by
    rw [List.length_cons, List.range_succ_eq_map, List.map_cons, List.map_map, List.sum_cons]
    have e : ((fun i => (((c :: r).getD i 0 : Nat) : Int).fmod 64 * 64 ^ i) ∘ Nat.succ) = fun i => ((r.getD i 0 : Nat) : Int).fmod 64 * 64 ^ (i + 1) := by
      funext i; simp
    rw [e, sum_shift, figs_valR r]
    simp [valR]
theorem numOf_valR (cs : List Nat) : numOf cs = valR cs.reverse := by
  rw [← figs_valR]
  unfold numOf figs
  rw [List.length_reverse]
theorem valR_bd : ∀ r : List Nat, 0 ≤ valR r ∧ valR r < 64 ^ r.length
  | [] => by decide
  | c :: r => by
    have ih := valR_bd r
    have hb := Int.fmod_nonneg_of_pos (c : Int) (b := 64) (by decide)
    have hb2 := Int.fmod_lt_of_pos (c : Int) (b := 64) (by decide)
    show 0 ≤ ((c : Nat) : Int).fmod 64 + 64 * valR r ∧ ((c : Nat) : Int).fmod 64 + 64 * valR r < 64 ^ (r.length + 1)
    rw [Int.pow_succ]
    omega
theorem numOf_bd (cs : List Nat) : 0 ≤ numOf cs ∧ numOf cs < 64 ^ cs.length := by
  rw [numOf_valR]
  have := valR_bd cs.reverse
  rwa [List.length_reverse] at this
theorem pow_mono64 {a b : Nat} (h : a ≤ b) : (64 : Int) ^ a ≤ 64 ^ b := by
  have : (64 : Nat) ^ a ≤ 64 ^ b := Nat.pow_le_pow_right (by decide) h
  exact_mod_cast this
theorem numOf_shown {cs : List Nat} (h : cs.length ≤ 100) : (numOf cs).natAbs.log2 < 1920 := by
  have b := numOf_bd cs
  have p := pow_mono64 h
  have e : (64 : Int) ^ 100 = ((2 ^ 600 : Nat) : Int) := by decide +kernel
  rw [e] at p
  have hlt : (numOf cs).natAbs < 2 ^ 600 := by omega
  by_cases h0 : (numOf cs).natAbs = 0
  · rw [h0]; decide +kernel
  · exact Nat.lt_of_lt_of_le ((Nat.log2_lt h0).mpr hlt) (by decide)

/-- a word without = at its end -/
def keepW (x : Str) : Bool := decide (x.cps.toList.getLast? ≠ some 61)
theorem keepW_item {x : Str} (h : 0 < x.length) : ((Txt.item x (-1)).cps.toList != (Str.ofString "=").cps.toList) = keepW x := by
  have e := eq_of_beq (item_closes_neg (x := x) (i := -1) (j := -1 + x.length) (by decide) (by omega) rfl)
  rw [e]
  have e2 : (Str.ofString "=").cps.toList = [61] := by decide +kernel
  rw [e2]
  have hj : (-1 + (x.length : Int)).toNat = x.cps.size - 1 := by
    show (-1 + ((x.cps.size : Nat) : Int)).toNat = _
    omega
  rw [hj]
  have h' : 0 < x.cps.size := h
  have e3 : x.cps.toList.getLast? = some (x.cps.getD (x.cps.size - 1) 0) := by
    rw [List.getLast?_eq_getElem?, Array.length_toList]
    rw [Array.getD_eq_getD_getElem?, Array.getElem?_toList, Array.getElem?_eq_getElem (by omega)]
    rfl
  unfold keepW
  rw [e3]
  generalize x.cps.getD (x.cps.size - 1) 0 = c
  show ([c] != [61]) = decide (some c ≠ some 61)
  by_cases q : c = 61
  · rw [q]; decide
  · have h1 : ([c] != [61]) = true := by
      rw [bne_iff_ne]; intro q'; exact q (by injection q')
    rw [h1]
    have h2 : some c ≠ some 61 := fun q' => q (by injection q')
    simp [q]

/-- the pairs of the words kept, on the heap -/
inductive KL (bad : Addr → Prop) (h : Heap) : List Value → List Str → Prop
  | nil : KL bad h [] []
  | cons {ys xs} (T : Addr) (x : Str) (t u : Tok) (hb : ¬ bad T) (hT : h.IsTuple T #[.int x.length t, .str x u]) (r : KL bad h ys xs) : KL bad h (.ref T :: ys) (x :: xs)
theorem KL.moved {bad bad' : Addr → Prop} {h h' : Heap} (k : ∀ b o, ¬ bad b → h.get? b = some o → h'.get? b = some o) (kb : ∀ b, ¬ bad b → ¬ bad' b) : ∀ {ys xs}, KL bad h ys xs → KL bad' h' ys xs
  | _, _, .nil => .nil
  | _, _, .cons T x t u hb hT r => .cons T x t u (kb T hb) (let ⟨o, e, q⟩ := hT; ⟨o, k T o hb e, q⟩) (r.moved k kb)
theorem KL.snoc {bad : Addr → Prop} {h : Heap} {T : Addr} {x : Str} {t u : Tok} (hb : ¬ bad T) (hT : h.IsTuple T #[.int x.length t, .str x u]) : ∀ {ys xs}, KL bad h ys xs → KL bad h (ys ++ [.ref T]) (xs ++ [x])
  | _, _, .nil => .cons T x t u hb hT .nil
  | _, _, .cons T' x' t' u' hb' hT' r => .cons T' x' t' u' hb' hT' (KL.snoc hb hT r)
theorem KL.len {bad : Addr → Prop} {h : Heap} : ∀ {ys xs}, KL bad h ys xs → ys.length = xs.length
  | _, _, .nil => rfl
  | _, _, .cons _ _ _ _ _ _ r => by rw [List.length_cons, List.length_cons, r.len]
theorem KL.at {bad : Addr → Prop} {h : Heap} : ∀ {ys xs} {i : Nat} {v : Value}, KL bad h ys xs → ys[i]? = some v → ∃ T x t u, v = .ref T ∧ ¬ bad T ∧ xs[i]? = some x ∧ h.IsTuple T #[.int x.length t, .str x u]
  | _, _, _, _, .nil, e => by simp at e
  | _, _, 0, v, .cons T x t u hb hT r, e => by
    simp at e; subst e
    exact ⟨T, x, t, u, rfl, hb, rfl, hT⟩
  | _, _, i + 1, v, .cons T x t u hb hT r, e => by
    have e' : _ := r.at (i := i) (v := v) (by simpa using e)
    obtain ⟨T, x, t, u, a, b, c, d⟩ := e'
    exact ⟨T, x, t, u, a, b, by simpa using c, d⟩
theorem sa_at : ∀ {ys : List Value} {xs : List Str} {i : Nat} {v : Value}, StrsAre ys xs → ys[i]? = some v → ∃ x t, v = .str x t ∧ xs[i]? = some x
  | _, _, _, _, .nil, e => by simp at e
  | _, _, 0, v, .cons x t r, e => by simp at e; subst e; exact ⟨x, t, rfl, rfl⟩
  | _, _, i + 1, v, .cons x t r, e => by
    have e' := sa_at (i := i) (v := v) r (by simpa using e)
    obtain ⟨x, t, a, b⟩ := e'
    exact ⟨x, t, a, by simpa using b⟩

/-- the best of a row of words -/
def bestStep (b : Option Str) (x : Str) : Option Str := match b with
  | none => some x
  | some y => some (if pairGt x.length y.length x y = true then x else y)
def bestOf (xs : List Str) : Option Str := xs.foldl bestStep none
def figures (n : Int) : Nat := (Str.ofString (toString n)).length
def widthOf (words : List Str) : Int := match bestOf (words.filter keepW) with
  | none => 0
  | some x => let k : Int := if 3 < (figures (numOf x.cps.toList) : Int) then figures (numOf x.cps.toList) else 3
    if k = 3 ∧ (words.filter keepW).length < words.length then 4 else k
theorem best_some : ∀ (xs : List Str) (b : Str), ∃ y, xs.foldl bestStep (some b) = some y
  | [], b => ⟨b, rfl⟩
  | _ :: xs, _ => best_some xs _
theorem bestOf_nil {xs : List Str} (h : xs = []) : bestOf xs = none := by rw [h]; rfl
theorem bestOf_mem : ∀ (xs : List Str) (b : Option Str) (y : Str), xs.foldl bestStep b = some y → y ∈ xs ∨ b = some y
  | [], b, y, h => .inr h
  | x :: xs, b, y, h => by
    rcases bestOf_mem xs _ y h with q | q
    · exact .inl (List.mem_cons_of_mem _ q)
    · cases b with
      | none => injection q with q; exact .inl (by rw [← q]; exact List.mem_cons_self)
      | some z =>
        injection q with q
        split at q
        · exact .inl (by rw [← q]; exact List.mem_cons_self)
        · exact .inr (by rw [q])
section
variable {w : World} {A : Around} {E : Value → Shared → Prop} {s : Shared} {env : Env}

def BestIs (h : Heap) (b : Option Value) (q : Option Str) : Prop := match b, q with
  | none, none => True
  | some v, some x => ∃ T t u, v = .ref T ∧ h.IsTuple T #[.int x.length t, .str x u]
  | _, _ => False
theorem tup_gr {h h' : Heap} {T : Addr} {vs : Array Value} (g : Gr h h') (x : h.IsTuple T vs) : h'.IsTuple T vs := let ⟨o, e, q⟩ := x; ⟨o, g T o e, q⟩
theorem bestOf_snoc (xs : List Str) (x : Str) : bestOf (xs ++ [x]) = bestStep (bestOf xs) x := by simp [bestOf]

/-- max of a list of pairs of a length and a text -/
theorem max_pairs {K : Addr} {ys : List Value} {xs : List Str} {Q : Value → Shared → Prop} (hA : A.handled = none) (hu : A.units + 1 < cLine) (hl : s.heap.IsList K ys.toArray) (hk : KL (fun _ => False) s.heap ys xs) (hne : xs ≠ [])
    (h : ∀ T x t u h' tk', bestOf xs = some x → Gr s.heap h' → h'.IsTuple T #[.int x.length t, .str x u] → Q (.ref T) { s with heap := h', toks := tk' }) :
    wpAny (model PG w) A (call (.builtin "max") [.ref K]) Q E s := by
  refine call_max ?_
  have hlt : K < s.heap.objs.size := by obtain ⟨_, e, _⟩ := hl; exact Heap.lt_size e
  refine wpAny_pyIter_list hl ?_
  intro h₃ g₃ hfresh hkept
  have W := Walks.list (prog := PG) (w := w) (A := A.in1) hA s.heap.objs.size K (Nat.ne_of_lt hlt) ys.toArray
  have hlen := hk.len
  have hIn : s.heap.get? s.heap.objs.size = none := fresh_none (Nat.le_refl _)
  have hSn : s.heap.get? (s.heap.objs.size + 1) = none := fresh_none (Nat.le_succ _)
  have hKS : ∀ b ∈ [s.heap.objs.size, K], b ≠ s.heap.objs.size + 1 := all_two (Nat.ne_of_lt (Nat.lt_succ_self _)) (Nat.ne_of_lt (Nat.lt_succ_of_lt hlt))
  have g₀ : Gr s.heap h₃ := (Gr.push _ _).trans g₃
  have st₀ : h₃.IsListIter s.heap.objs.size K 0 ∧ h₃.IsList K ys.toArray := ⟨⟨_, g₃ _ _ (Heap.get?_push_size _ rfl), rfl, rfl⟩, Gr.list g₀ hl⟩
  clear g₃ hfresh hkept
  rw [Heap.size_push]
  generalize hI : s.heap.objs.size = I at *
  refine ⟨fun k b s' => ∃ h' tk i, s' = { s with heap := h', toks := tk } ∧ i ≤ ys.toArray.size ∧ k = ys.toArray.size - i ∧ (h'.IsListIter I K i ∧ h'.IsList K ys.toArray) ∧ Gr s.heap h' ∧ BestIs s.heap b (bestOf (xs.take i)), ys.toArray.size, ?_, h₃, _, 0, rfl, Nat.zero_le _, rfl, st₀, g₀, trivial⟩
  rintro k b s' ⟨h', tk, i, rfl, hi, rfl, hst, g, hb⟩ hkept
  obtain ⟨c, hkept⟩ := hkept
  have upI : ∀ {h₁ h₂ : Heap}, Gr s.heap h₁ → (∀ b o, b ∉ [I] → h₁.get? b = some o → h₂.get? b = some o) → Gr s.heap h₂ := fun g k b o e => k b o (fun hm => by rw [List.mem_singleton.mp hm, hIn] at e; cases e) (g b o e)
  have upS : ∀ {h₁ h₂ : Heap}, Gr s.heap h₁ → Bt (I + 1) h₁ h₂ → Gr s.heap h₂ := fun g k b o e => k b o (fun q => by rw [q, hSn] at e; cases e) (g b o e)
  have hSI : I + 1 ∉ [I] := fun hm => absurd (List.mem_singleton.mp hm) (Nat.succ_ne_self I)
  by_cases hin : i < ys.toArray.size
  · refine W.item i _ _ _ hin hst fun v h₁ tk₁ hv hst₁ hk₁ => ?_
    refine ⟨⟨c, hk₁ _ _ hSI hkept⟩, ?_⟩
    have hv' : ys[i]? = some v := by simpa using hv
    obtain ⟨T, x, t, u, rfl, _, hx, hT⟩ := hk.at hv'
    have htake : xs.take (i + 1) = xs.take i ++ [x] := by rw [List.take_add_one, hx]; rfl
    have g₁ := upI g hk₁
    have next : ∀ (b' : Option Value) (h₂ : Heap) (tk₂ : Nat), Gr s.heap h₂ → (h₂.IsListIter I K (i + 1) ∧ h₂.IsList K ys.toArray) → BestIs s.heap b' (bestStep (bestOf (xs.take i)) x) →
        ∃ k', k' < ys.toArray.size - i ∧ ∃ h' tk i, ({ s with heap := h₂, toks := tk₂ } : Shared) = { s with heap := h', toks := tk } ∧ i ≤ ys.toArray.size ∧ k' = ys.toArray.size - i ∧ (h'.IsListIter I K i ∧ h'.IsList K ys.toArray) ∧ Gr s.heap h' ∧ BestIs s.heap b' (bestOf (xs.take i)) :=
      fun b' h₂ tk₂ g₂ st₂ q => ⟨ys.toArray.size - (i + 1), by omega, h₂, tk₂, i + 1, rfl, hin, rfl, st₂, g₂, by rw [htake, bestOf_snoc]; exact q⟩
    have stS : ∀ h₂, Bt (I + 1) h₁ h₂ → (h₂.IsListIter I K (i + 1) ∧ h₂.IsList K ys.toArray) := fun h₂ q => W.frame _ _ _ hst₁ fun b hb o e => q b o (hKS b hb) e
    cases b with
    | none =>
      cases hq : bestOf (xs.take i) with
      | some y => rw [hq] at hb; exact hb.elim
      | none =>
        rw [hq] at next
        intro h₂ hbt
        exact next _ h₂ tk₁ (upS g₁ hbt) (stS h₂ hbt) ⟨T, t, u, rfl, hT⟩
    | some vb =>
      cases hq : bestOf (xs.take i) with
      | none => rw [hq] at hb; exact hb.elim
      | some y =>
        rw [hq] at hb next
        obtain ⟨T', t', u', rfl, hT'⟩ := hb
        refine tup_gt hu (tup_gr g₁ hT) (tup_gr g₁ hT') ⟨_, rfl, ⟨c, hk₁ _ _ hSI hkept⟩, fun h₂ hbt => ?_⟩
        refine next _ h₂ tk₁ (upS g₁ hbt) (stS h₂ hbt) ?_
        by_cases hp : pairGt x.length y.length x y = true
        · rw [if_pos hp]
          show BestIs s.heap _ (some (if pairGt x.length y.length x y = true then x else y))
          rw [if_pos hp]
          exact ⟨T, t, u, rfl, hT⟩
        · rw [if_neg hp]
          show BestIs s.heap _ (some (if pairGt x.length y.length x y = true then x else y))
          rw [if_neg hp]
          exact ⟨T', t', u', rfl, hT'⟩
  · obtain rfl : i = ys.toArray.size := by omega
    have htk : xs.take ys.toArray.size = xs := List.take_of_length_le (by rw [List.size_toArray, hlen]; exact Nat.le_refl _)
    rw [htk] at hb
    refine W.done _ _ _ hst fun h₁ tk₁ hk₁ => ⟨⟨c, hk₁ _ _ hSI hkept⟩, ?_⟩
    have g₁ := upI g hk₁
    obtain ⟨x, r, rfl⟩ : ∃ x r, xs = x :: r := by
      cases xs with
      | nil => exact absurd rfl hne
      | cons x r => exact ⟨x, r, rfl⟩
    have hbest := best_some r x
    obtain ⟨y, hy⟩ := hbest
    have hy' : bestOf (x :: r) = some y := hy
    rw [hy'] at hb
    cases b with
    | none => exact hb.elim
    | some vb =>
      obtain ⟨T', t', u', rfl, hT'⟩ := hb
      intro h₂ hbt
      exact h T' y t' u' h₂ tk₁ hy' (upS g₁ hbt) (tup_gr (upS g₁ hbt) hT')
end
end Mine

-- Wid2
open PySem PySem.W PyProof.Rows PySem.Calls PySem.Spec
set_option Elab.async false
set_option maxRecDepth 100000
set_option maxHeartbeats 1000000
namespace Mine
theorem gl_max (w : World) : nsIn (hd.heap_39 w.params) mainGlobals (Str.ofString "max") = some none := by rfl
theorem gl_str (w : World) : nsIn (hd.heap_39 w.params) mainGlobals (Str.ofString "str") = some none := by rfl
theorem gl_number (w : World) : nsIn (hd.heap_39 w.params) mainGlobals (Str.ofString "_law_number") = some (some (.ref 96)) := by rfl
theorem bt_max : bootBuiltins (Str.ofString "max") = some (.builtin "max") := by decide +kernel
theorem bt_str : bootBuiltins (Str.ofString "str") = some (.type "str") := by decide +kernel
section
variable {w : World} {A : Around} {E : Value → Shared → Prop} {s : Shared} {env : Env}

theorem eq_nil_list {l b : Addr} {items : Array Value} {Q : Value → Shared → Prop} (hl : s.heap.IsList l items) (hb : s.heap.IsList b #[]) (hu : A.units < cLine) (h : Q (.bool (decide (items.size = 0))) s) :
    wpAny (model PG w) A (compareOp .Eq (.ref l) (.ref b)) Q E s := by
  by_cases h0 : items.size = 0
  · rw [decide_eq_true h0] at h
    refine SeqAt.eq_listAt (e := fun _ => true) hl hb h0 hu ?_ ?_
    · intro j h1 h2
      exact absurd h2 (by simp)
    · have : items = #[] := Array.eq_empty_of_size_eq_zero h0
      subst this
      exact h
  · rw [decide_eq_false h0] at h
    refine SeqAt.eq_list_lengthsAt hl hb (by simp [h0]) hu h

theorem max_three {n : Int} {a b : Tok} {Q : Value → Shared → Prop} (hA : A.handled = none) (h : ∀ h' tk t', Gr s.heap h' → Q (.int (if 3 < n then n else 3) t') { s with heap := h', toks := tk }) :
    wpAny (model PG w) A (call (.builtin "max") [.int 3 a, .int n b]) Q E s := by
  refine Flt.max_two_num hA (.int _ _) (.int _ _) fun h₇ tk₇ g₇ => ?_
  show Q (if decide ((3 : Int) < n) = true then Value.int n b else .int 3 a) _
  by_cases q : (3 : Int) < n
  · rw [if_pos (decide_eq_true q)]
    have := h h₇ tk₇ b g₇
    rwa [if_pos q] at this
  · rw [if_neg (by rw [decide_eq_false q]; decide)]
    have := h h₇ tk₇ a g₇
    rwa [if_neg q] at this

theorem c_width {W : Addr} {ws : List Value} {words : List Str} {Q : Value → Shared → Prop} (t : Tp w s.heap) (hA : A.handled = none) (hroom : A.depth + 1 < recursionLimit) (hu : A.units + 100 < cLine)
    (hl : s.heap.IsList W ws.toArray) (hw : StrsAre ws words) (hlen : words.length ≤ 1000) (hok : ∀ x ∈ words, 0 < x.length ∧ x.length ≤ 100)
    (h : ∀ h' t' tk', Gr s.heap h' → Q (.int (widthOf words) t') { s with heap := h', toks := tk' }) : wpAny (model PG w) A (call (.ref 101) [.ref W]) Q E s := by
  have hfill : Fill PySem.Challenge.rw_ny0023_01 hd.heap_39 := by (k_fill; trivial)
  refine call_fn (binds := [(Str.ofString "words", .ref W)]) t (by omega) (by k_is) rfl (by k_is) rfl (BindsTo.of_eq rfl) (by decide) (locs rfl) ?_ rfl rfl rfl
  intro L h₁ hL F t₀
  have ho96 : ∃ o fd, (hd.heap_39 w.params).lookup 96 = some o ∧ o.data = .func fd := ⟨_, _, by k_is, rfl⟩
  clear hfill
  have hwl := sa_len hw
  have hl₁ : h₁.IsList W ws.toArray := Gr.list F.keep hl
  refine wpAny_execs_cons (lc_assign lcl_name rfl rfl (by decide) rfl (by decide) rfl rfl (nm_local F.ns rfl (it_list (x := Str.ofString "word") (px := ⟨95, 34, 95, 38⟩) (hb := h₁) hA (Gr.refl _) hl₁ ?_)))
  rintro it s₂ ⟨h₂, tk₂, rfl, g₂⟩ ⟨I, fp, wr, Md, St, rfl, Wk, hself, hst, hfp, hwr⟩
  dsimp only at g₂ hst hfp hwr ⊢
  have hLlt : L < h₂.objs.size := (Gr.fr g₂ F).ns.lt
  have hLw : L ∉ wr := fun hm => by
    have e := hwr L hm
    obtain ⟨o, e'⟩ := ns_get F.ns
    rw [e] at e'; cases e'
  refine ⟨I, fp, wr, ws.toArray.size, _, Md, St, fun C D i ys hh => KL (fun T => T ∈ wr ∨ T = L ∨ T = C ∨ T = D) hh ys ((words.take i).filter keepW), rfl, Wk, hself, ?_, hst, hfp, ?_, ?_, ?_, ?_⟩
  · rw [List.size_toArray, hwl]; exact Nat.le_trans hlen (by decide)
  · intro C D hh _ _ _ _
    exact KL.nil
  · intro C D i ys hh hh' j k
    refine KL.moved (fun b o hb e => ?_) (fun _ q => q) j
    exact k b o (fun q => hb (.inl q)) (fun q => hb (.inr (.inl (List.mem_singleton.mp q)))) (fun q => hb (.inr (.inr (.inl q)))) (fun q => hb (.inr (.inr (.inr q)))) e
  · intro C D i v ys hh tk m E' hi hC hD hCD hPv hn hDo hJ hk
    have hPv' : ws[i]? = some v := by simpa using hPv
    have hsa := sa_at hw hPv'
    obtain ⟨x, tx, rfl, hx⟩ := hsa
    have htake : words.take (i + 1) = words.take i ++ [x] := by rw [List.take_add_one, hx]; rfl
    have hxm : x ∈ words := List.mem_of_getElem? hx
    obtain ⟨hx0, hx1⟩ := hok x hxm
    refine wpAny_assign_Name (wpAny_storeName_local (lookup_relabel_local rfl) hn (fun h₃ hn₃ hs₃ => ?_) rfl)
    dsimp only at hn₃ hs₃ ⊢
    have kC : ∀ b o, b ≠ C → hh.get? b = some o → h₃.get? b = some o := fun b o hb e => hs₃.extBut b o hb e
    refine wpAny_tests_one (wpAny_isTrue_Compare1 (Subscript_ (nm_local hn₃ (if_pos rfl) ?_)))
    refine wpAny_UnaryOp (wpAny_Constant_int (neg_int ?_))
    refine item_str (by decide) (by omega) (by omega) fun _ => ?_
    refine wpAny_Constant_str (P.ne_str (wpAny_truthy_bool ?_))
    rw [keepW_item hx0]
    cases hkw : keepW x with
    | false =>
      refine ite_neg (by decide) ?_
      refine ⟨h₃, _, _, rfl, hn₃, kC, ?_⟩
      rw [htake, List.filter_append, show [x].filter keepW = [] by simp [hkw], List.append_nil]
      exact hJ.moved (fun b o hb e => kC b o (fun q => hb (.inr (.inr (.inl q)))) e) fun _ q => q
    | true =>
      refine ite_pos rfl ?_
      have hCn : h₁.get? C = none := g₂.fresh hC
      have g₃ : Gr h₁ h₃ := fun b o e => kC b o (fun q => by rw [q, hCn] at e; cases e) (hk b o (fun hb => by rw [hwr b hb] at e; cases e) (g₂ b o e))
      have tH : Tp w h₃ := (t₀.fr F).keeps g₃
      refine wpAny_Tuple (args_cons (Call_ (nm_boot tH (gl_len w) bt_len (PyProof.Rows.callWith_builtin1 (args_cons (nm_local hn₃ (if_pos rfl) (args_nil ?_)))))))
      dsimp only
      refine P.len_str (by omega) ?_
      refine args_cons (nm_local hn₃ (if_pos rfl) (args_nil ⟨(by decide : (2 : Nat) ≤ sizeLine), ?_⟩))
      dsimp only
      refine ⟨_, _, _, rfl, hn₃.keeps (Gr.push _ _), fun b o hb e => Heap.get?_push_of_some _ (kC b o hb e), ?_⟩
      rw [htake, List.filter_append, show [x].filter keepW = [x] by simp [hkw]]
      have hsz : C < h₃.objs.size := hn₃.lt
      have hDsz : D < h₃.objs.size := by
        obtain ⟨o, e⟩ := hDo
        exact Heap.lt_size (kC D o (Ne.symm hCD) e)
      have hCge : h₂.objs.size ≤ C := hC
      refine KL.snoc (t := _) (u := _) ?_ ⟨_, Heap.get?_push_size _ rfl, rfl, 0, rfl⟩ (KL.moved (fun b o hb e => Heap.get?_push_of_some _ (kC b o (fun q => hb (.inr (.inr (.inl q)))) e)) (fun _ q => q) hJ)
      rintro (q | q | q | q)
      · exact Nat.lt_irrefl _ (Nat.lt_trans (Nat.lt_of_lt_of_le (hfp _ (Wk.sub _ q)) hCge) hsz)
      · exact Nat.lt_irrefl _ (Nat.lt_of_lt_of_le (Nat.lt_of_le_of_lt hCge hsz) (Nat.le_trans (Nat.le_of_eq q) (Nat.le_of_lt hLlt)))
      · exact Nat.lt_irrefl _ (Nat.lt_of_lt_of_le hsz (Nat.le_of_eq q))
      · exact Nat.lt_irrefl _ (Nat.lt_of_lt_of_le hDsz (Nat.le_of_eq q))
  · refine ⟨_, (Gr.fr g₂ F).ns, hLw, ?_⟩
    intro D h₃ tk₃ ys hD hDl hG hn₃ hk₃
    obtain ⟨C, hG⟩ := hG
    have htk : words.take ws.toArray.size = words := List.take_of_length_le (by rw [List.size_toArray, hwl]; exact Nat.le_refl _)
    rw [htk] at hG
    have hG' : KL (fun _ => False) h₃ ys (words.filter keepW) := hG.moved (fun b o _ e => e) fun _ _ q => q
    have g₃ : Gr s.heap h₃ := fun b o e => by
      have hbL : b ≠ L := fun q => by rw [q, hL] at e; exact absurd (Heap.lt_size e) (Nat.lt_irrefl _)
      have e₁ := F.keep b o e
      exact hk₃ b o (fun hb => by rw [hwr b hb] at e₁; cases e₁) hbL (g₂ b o e₁)
    have F₃ : Fr s.heap L h₃ (upd (fun x => List.lookup x [(Str.ofString "words", Value.ref W)].reverse) (Str.ofString "kept") (.ref D)) := ⟨hn₃, g₃, F.above⟩
    have hW₃ : h₃.IsList W ws.toArray := Gr.list g₃ hl
    have hys := hG'.len
    have hLlt' : L < h₂.objs.size := hLlt
    clear hk₃ hG hn₃ hself hst hfp hwr Wk hLw hLlt
    refine ex_if (wpAny_isTrue_Compare1 (nm_local F₃.ns upd_eq (List_ (args_nil (wpAny_newObj_type ?_)))))
    dsimp only
    have F₄ := F₃.push { cls := .type "list", data := .seq #[] }
    have gp : Gr h₃ (h₃.push { cls := .type "list", data := .seq #[] }) := Gr.push _ _
    refine eq_nil_list (hDl.isList.push _) ⟨_, Heap.get?_push_size _ rfl, rfl, 0, rfl⟩ (by show A.units + 3 < cLine; omega) (wpAny_truthy_bool ?_)
    rw [List.size_toArray, hys]
    have t₄ : Tp w (h₃.push { cls := .type "list", data := .seq #[] }) := t₀.fr F₄
    have hD₄ := hDl.isList.push (o := { cls := .type "list", data := .seq #[] })
    have hW₄ := hW₃.push (o := { cls := .type "list", data := .seq #[] })
    have hG₄ := hG'.moved (fun b o _ e => gp b o e) fun _ q => q
    have hex : ∃ h₄, h₄ = h₃.push { cls := .type "list", data := .seq #[] } := ⟨_, rfl⟩
    obtain ⟨h₄, e₄⟩ := hex
    rw [← e₄] at F₄ t₄ hD₄ hW₄ hG₄ ⊢
    by_cases h0 : (words.filter keepW).length = 0
    · refine ite_pos (decide_eq_true h0) (ex_ret (wpAny_Constant_int ?_))
      have hnil : words.filter keepW = [] := List.eq_nil_of_length_eq_zero h0
      have hz : widthOf words = 0 := by unfold widthOf; rw [hnil]; rfl
      rw [hz] at h
      exact h h₄ _ _ F₄.keep
    · refine ite_neg (by rw [decide_eq_false h0]; decide) (wpAny_execs_nil ?_)
      have hne : words.filter keepW ≠ [] := fun q => h0 (by rw [q]; rfl)
      obtain ⟨o96, fd96, ho96, hd96⟩ := ho96
      refine ex_assign (Call_ (nm_boot t₄ (gl_max w) bt_max (PyProof.Rows.callWith_builtin1 (args_cons (wpAny_Constant_int ?_)))))
      refine args_cons (Call_ (nm_boot t₄ (gl_len w) bt_len (PyProof.Rows.callWith_builtin1 (args_cons ?_))))
      refine Call_ (nm_boot t₄ (gl_str w) bt_str (PyProof.Rows.callWith_type1 (args_cons ?_)))
      refine call_nm t₄ (gl_number w) ho96 hd96 (args_cons ?_)
      refine Subscript_ (Call_ (nm_boot t₄ (gl_max w) bt_max (PyProof.Rows.callWith_builtin1 (args_cons (nm_local F₄.ns upd_eq (args_nil ?_))))))
      refine max_pairs hA (by show A.units + 3 + 1 < cLine; omega) hD₄ hG₄ hne fun T x tx ux h₅ tk₅ hbest g₅ hT => ?_
      have hxm : x ∈ words.filter keepW := (bestOf_mem _ none x hbest).resolve_right (fun q => nomatch q)
      have hxo := hok x (List.mem_filter.mp hxm).1
      have t₅ : Tp w h₅ := t₄.keeps g₅
      have F₅ := Gr.fr g₅ F₄
      refine wpAny_Constant_int (item_tupleT (l := [.int x.length tx, .str x ux]) (j := 1) hT (by decide) (by decide) rfl rfl ?_)
      refine args_nil ⟨t₅, ?_⟩
      refine c_number t₅ hA (by show A.depth + 1 < _; omega) (by omega) fun h₆ t₆ tk₆ g₆ => ?_
      have t₆' : Tp w h₆ := t₅.keeps g₆
      have F₆ := Gr.fr g₆ F₅
      refine args_nil (P.str_of_int (numOf_shown (by simpa [Str.length] using hxo.2)) ?_)
      refine args_nil (P.len_str ?_ ?_)
      · have : (Str.ofString (toString (numOf x.cps.toList))).length ≤ sizeLine := int_text_fits (numOf_shown (by simpa [Str.length] using hxo.2))
        have h2 : (Str.ofString (toString (numOf x.cps.toList))).length ≤ 2 ^ 24 := this
        omega
      refine args_nil ?_
      refine max_three hA fun h₇ tk₇ t₇ g₇ => ?_
      have F₇ := Gr.fr g₇ F₆
      refine st_local F₇ fun h₈ F₈ k₈ => ?_
      dsimp only at F₈ k₈ ⊢
      have hW₈ : h₈.IsList W ws.toArray := Gr.list F₈.keep hl
      have hDL : D ≠ L := fun q => Nat.lt_irrefl _ (Nat.lt_of_lt_of_le hLlt' (Nat.le_trans hD (Nat.le_of_eq q)))
      have hD₈ : h₈.IsList D ys.toArray := (Gr.list g₇ (Gr.list g₆ (Gr.list g₅ hD₄))).at fun o e => k₈ D o hDL e
      have t₈ : Tp w h₈ := t₀.fr F₈
      have hfin : ∀ r, widthOf words = r → ∀ t' tk', Q (.int r t') { s with heap := h₈, toks := tk' } := fun r e t' tk' => e ▸ h h₈ t' tk' F₈.keep
      have hwd : widthOf words = (if (if 3 < (figures (numOf x.cps.toList) : Int) then (figures (numOf x.cps.toList) : Int) else 3) = 3 ∧ (words.filter keepW).length < words.length then 4 else (if 3 < (figures (numOf x.cps.toList) : Int) then (figures (numOf x.cps.toList) : Int) else 3)) := by
        unfold widthOf; rw [hbest]
      have hex2 : ∃ k : Int, k = (if 3 < (figures (numOf x.cps.toList) : Int) then (figures (numOf x.cps.toList) : Int) else 3) := ⟨_, rfl⟩
      obtain ⟨k, hk⟩ := hex2
      rw [← hk] at hwd
      have F₉ : Fr s.heap L h₈ (upd (upd (fun x => List.lookup x [(Str.ofString "words", Value.ref W)].reverse) (Str.ofString "kept") (.ref D)) (Str.ofString "width") (.int k t₇)) := by rw [hk]; exact F₈
      clear F₈ hk k₈
      refine ex_ret (wpAny_IfExp (wpAny_isTrue_BoolOp (wpAny_allTrue_And_cons (wpAny_isTrue_Compare1 (nm_local F₉.ns upd_eq (wpAny_Constant_int (eq_int (wpAny_truthy_bool ?_))))))))
      by_cases hk3 : k = 3
      · refine ite_pos (by rw [hk3]; rfl) ?_
        refine wpAny_allTrue_And_cons (wpAny_isTrue_Compare1 (Call_ (nm_boot t₈ (gl_len w) bt_len (PyProof.Rows.callWith_builtin1 (args_cons (nm_local F₉.ns (upd_ne upd_eq) (args_nil ?_)))))))
        refine len_list (n := (words.filter keepW).length) hD₈ (by rw [List.size_toArray, hys]) (Nat.le_trans (List.length_filter_le _ _) (Nat.le_trans hlen (by decide))) fun t₁₀ tk₁₀ => ?_
        refine Call_ (nm_boot t₈ (gl_len w) bt_len (PyProof.Rows.callWith_builtin1 (args_cons (nm_local F₉.ns (upd_ne (upd_ne rfl)) (args_nil ?_)))))
        refine len_list (n := words.length) hW₈ (by rw [List.size_toArray, hwl]) (Nat.le_trans hlen (by decide)) fun t₁₁ tk₁₁ => ?_
        refine lt_int (wpAny_truthy_bool ?_)
        by_cases hlt : (words.filter keepW).length < words.length
        · refine ite_pos (decide_eq_true (by omega)) (wpAny_allTrue_And_nil (ite_pos rfl (wpAny_Constant_int ?_)))
          exact hfin 4 (by rw [hwd, if_pos ⟨hk3, hlt⟩]) _ _
        · refine ite_neg (by rw [decide_eq_false (by omega)]; decide) (ite_neg (by decide) (nm_local F₉.ns upd_eq ?_))
          exact hfin k (by rw [hwd, if_neg (fun q => hlt q.2)]) _ _
      · refine ite_neg (by rw [beq_eq_false_iff_ne.mpr hk3]; decide) (ite_neg (by decide) (nm_local F₉.ns upd_eq ?_))
        exact hfin k (by rw [hwd, if_neg (fun q => hk3 q.1)]) _ _
end
end Mine

-- Fil
open PySem PySem.W PyProof.Rows PySem.Calls PySem.Spec
set_option Elab.async false
set_option maxRecDepth 100000
set_option maxHeartbeats 1000000
namespace Mine
theorem mro_filter : mroOf (.type "filter") = pure [.type "filter", .type "object"] := by rw [mroOf_type]; kernel_rfl
theorem lookup_filter_new : typeLookup (.type "filter") "__new__" = pure (some (.builtin "filter.__new__")) := by rw [typeLookup_type, builtinLookup_eq_fast]; kernel_rfl
theorem slot_filter_init : Slot "filter" "__init__" "object.__init__" :=
  .of (owner := "object") (n := "__init__") (by rw [typeLookup_type, builtinLookup_eq_fast]; kernel_rfl) (by decide +kernel) (by decide +kernel) (by decide +kernel)
    (by first | exact .inl (by decide +kernel) | exact .inr (by decide +kernel)) (by rw [isSubtype_type]; kernel_rfl)
theorem slot_filter_iter : Slot "filter" "__iter__" "filter.__iter__" :=
  .of (owner := "filter") (n := "__iter__") (by rw [typeLookup_type, builtinLookup_eq_fast]; kernel_rfl) (by decide +kernel) (by decide +kernel) (by decide +kernel)
    (by first | exact .inl (by decide +kernel) | exact .inr (by decide +kernel)) (by rw [isSubtype_type]; kernel_rfl)
theorem slot_filter_next : Slot "filter" "__next__" "filter.__next__" :=
  .of (owner := "filter") (n := "__next__") (by rw [typeLookup_type, builtinLookup_eq_fast]; kernel_rfl) (by decide +kernel) (by decide +kernel) (by decide +kernel)
    (by first | exact .inl (by decide +kernel) | exact .inr (by decide +kernel)) (by rw [isSubtype_type]; kernel_rfl)
theorem called_filter : TypeCalled "filter" "filter.__new__" "object.__init__" :=
  ⟨by decide +kernel, by decide +kernel, ⟨_, _, mro_filter⟩, madeBy_type mro_filter lookup_filter_new (by decide +kernel), by decide +kernel, by rw [isSubtype_type]; kernel_rfl, slot_filter_init⟩
theorem typeCall_filter_2 (a b : Value) : checkTypeCall "filter" ⟨[a, b], []⟩ = pure () := by kernel_rfl
theorem newCall_filter_2 (a b : Value) : checkBuiltinCall "filter.__new__" ⟨[.type "filter", a, b], []⟩ = pure () := by kernel_rfl
theorem entry_filter_new : entryFor table "filter.__new__" = some Builtin.«filter.__new__» := entryFor_of_tree (by kernel_rfl)
theorem entry_filter_next : entryFor table "filter.__next__" = some Builtin.«filter.__next__» := entryFor_of_tree (by kernel_rfl)
theorem entry_filter_iter : entryFor table "filter.__iter__" = some Builtin.«dict_keyiterator.__iter__» :=
  entryFor_alias (id' := "dict_keyiterator.__iter__") (by kernel_rfl) (by first | rfl | decide +kernel | (unfold String.splitOn; simp +decide [String.splitOnAux])) (by decide +kernel) (by kernel_rfl)
theorem args_filter_iter (a : Value) : argsOk "filter.__iter__" ⟨[a], []⟩ := by unfold argsOk; kernel_rfl
theorem args_filter_next (a : Value) : argsOk "filter.__next__" ⟨[a], []⟩ := by unfold argsOk; kernel_rfl
theorem plain_filter_next : plainId "filter.__next__" = true := by decide +kernel
theorem sub_filter : isSubtype (.type "filter") (.type "filter") = pure true := by rw [isSubtype_type]; kernel_rfl

abbrev IsFil (h : Heap) (f it : Addr) : Prop := h.get? f = some { cls := .type "filter", dict := none, data := .fields #[.none, .ref it], slots := #[] }

section
variable {w : World} {A : Around} {E : Value → Shared → Prop} {s : Shared} {K : Type} [DecidableEq K] {knd : KeyKind PG w K}

theorem vn_item {it d : Addr} {i ep : Nat} {kvs : List (K × Value)} {k : K} {v : Value} {Q : Option Value → Shared → Prop} (hit : s.heap.IsValIter it d i kvs.length ep)
    (hm : s.heap.DictAt knd d kvs ep) (hx : kvs[i]? = some (k, v))
    (hQ : ∀ h', h'.IsValIter it d (i + 1) kvs.length ep → Heap.SameBut it s.heap h' → Q (some v) { s with heap := h' }) :
    wpAny (model PG w) A (callSpecial? (.ref it) (Str.ofString "__next__")) Q E s := by
  obtain ⟨o, ho, hc, hd⟩ := id hit
  obtain ⟨od, es, hod, hcd, hdd, hk, hp, hn⟩ := id hm
  have hown : Builtin.Dict_items.ownsTuple "dict_valueiterator" = false := by decide
  have hsz : es.size = kvs.length := by rw [← hp.length]; simp
  have hlt : i < kvs.length := (List.getElem?_eq_some_iff.mp hx).1
  have hlt' : i < es.size := by rw [hsz]; exact hlt
  have hval : es[i].val = v := (hp.get? (e := es[i]) (by simp [hlt']) hx).2
  have hit' : (s.heap.update it (Obj.mapFields (·.setIfInBounds 1 (rawInt ((i : Int) + 1))))).IsValIter it d (i + 1) kvs.length ep :=
    ⟨_, Heap.get?_update_self _ ho (Obj.isFreed_of_fields (Obj.data_mapFields hd _)), (Obj.cls_mapFields ..).trans hc, by rw [Obj.data_mapFields hd]; simp [rawInt]⟩
  refine wpAny_callSpecial?_slot (name := Str.ofString "__next__") hit.typeIs F.slot_dict_valueiterator_next (wpAny_call_entry F.slot_dict_valueiterator_next hit.typeIs F.entry_dict_valueiterator_next ?_ (F.args_dict_valueiterator_next_1 _))
  refine wpAny_bind (wpAny_pure (wpAny_bind (wpAny_bind (wpAny_bind ?_))))
  first | refine wpAny_typeNameOfWhole_valiter hit.typeIs (wpAny_pure ?_) | refine wpAny_typeNameOf_valiter hit.typeIs (wpAny_pure ?_)
  refine wpAny_bind (wpAny_fieldsOf ho hd ?_)
  simp only [hown, Bool.false_eq_true, if_false]
  show wpAny _ _ (if (Value.ref d == Value.none) = true then _ else _) _ _ s
  rw [if_neg (show ¬ ((Value.ref d == Value.none) = true) from Bool.false_ne_true)]
  refine wpAny_bind (wpAny_pure (wpAny_bind (wpAny_dictEntries hod hdd ?_)))
  rw [if_neg (by rw [hsz]; simp)]
  refine wpAny_bind (wpAny_pure (wpAny_bind (wpAny_dictEpoch hod hdd ?_)))
  rw [if_neg (by simp)]
  refine wpAny_pure ?_
  simp only [show ¬ ((i : Int) < 0) from by omega, if_false, Int.toNat_natCast, Array.getElem?_eq_getElem hlt']
  refine wpAny_bind (wpAny_bind ?_)
  first | refine wpAny_typeNameOfWhole_valiter hit.typeIs (wpAny_pure ?_) | refine wpAny_typeNameOf_valiter hit.typeIs (wpAny_pure ?_)
  refine wpAny_bind (wpAny_isOneOf_valiter hit.typeIs ?_)
  show wpAny _ _ (setField (.ref it) 1 (rawInt ((i : Int) + 1)) >>= _) _ _ s
  refine wpAny_bind (wpAny_setField ho hd (by simp) ?_)
  refine wpAny_bind (wpAny_holding ?_)
  refine wpAny_bind (wpAny_isOneOf_valiter (s := { s with heap := s.heap.update it (Obj.mapFields (·.setIfInBounds 1 (rawInt ((i : Int) + 1)))) }) hit'.typeIs ?_)
  refine wpAny_bind (wpAny_isOneOf_valiter (s := { s with heap := s.heap.update it (Obj.mapFields (·.setIfInBounds 1 (rawInt ((i : Int) + 1)))) }) hit'.typeIs ?_)
  show wpAny _ _ (pure es[i].val) _ _ _
  exact wpAny_pure (wpAny_pure ⟨_, rfl, hval ▸ hQ _ hit' (Heap.SameBut.update ..)⟩)

theorem vn_end {it d : Addr} {i ep : Nat} {kvs : List (K × Value)} {Q : Option Value → Shared → Prop} (hh : A.handled = none) (hit : s.heap.IsValIter it d i kvs.length ep)
    (hm : s.heap.DictAt knd d kvs ep) (hx : kvs[i]? = none)
    (hE : ∀ h' e, Heap.ExtBut it s.heap h' → (∃ o, h'.get? e = some o ∧ o.cls = .type "StopIteration") → E (.ref e) { s with heap := h' }) :
    wpAny (model PG w) A (callSpecial? (.ref it) (Str.ofString "__next__")) Q E s := by
  obtain ⟨o, ho, hc, hd⟩ := id hit
  obtain ⟨od, es, hod, hcd, hdd, hk, hp, hn⟩ := id hm
  have hown : Builtin.Dict_items.ownsTuple "dict_valueiterator" = false := by decide
  have hsz : es.size = kvs.length := by rw [← hp.length]; simp
  have hge : es.size ≤ i := by rw [hsz]; simpa using hx
  refine wpAny_callSpecial?_slot (name := Str.ofString "__next__") hit.typeIs F.slot_dict_valueiterator_next (wpAny_call_entry F.slot_dict_valueiterator_next hit.typeIs F.entry_dict_valueiterator_next ?_ (F.args_dict_valueiterator_next_1 _))
  refine wpAny_bind (wpAny_pure (wpAny_bind (wpAny_bind (wpAny_bind ?_))))
  first | refine wpAny_typeNameOfWhole_valiter hit.typeIs (wpAny_pure ?_) | refine wpAny_typeNameOf_valiter hit.typeIs (wpAny_pure ?_)
  refine wpAny_bind (wpAny_fieldsOf ho hd ?_)
  simp only [hown, Bool.false_eq_true, if_false]
  show wpAny _ _ (if (Value.ref d == Value.none) = true then _ else _) _ _ s
  rw [if_neg (show ¬ ((Value.ref d == Value.none) = true) from Bool.false_ne_true)]
  refine wpAny_bind (wpAny_pure (wpAny_bind (wpAny_dictEntries hod hdd ?_)))
  rw [if_neg (by rw [hsz]; simp)]
  refine wpAny_bind (wpAny_pure (wpAny_bind (wpAny_dictEpoch hod hdd ?_)))
  rw [if_neg (by simp)]
  refine wpAny_pure ?_
  simp only [show ¬ ((i : Int) < 0) from by omega, if_false, Int.toNat_natCast, Array.getElem?_eq_none hge]
  refine wpAny_bind (wpAny_bind ?_)
  first | refine wpAny_typeNameOfWhole_valiter hit.typeIs (wpAny_pure ?_) | refine wpAny_typeNameOf_valiter hit.typeIs (wpAny_pure ?_)
  show wpAny _ _ (setField (.ref it) 0 .none >>= _) _ _ s
  refine wpAny_bind (wpAny_setField ho hd (by simp) ?_)
  show wpAny _ _ (newExc (.type "StopIteration") [] >>= _) _ _ _
  refine wpAny_bind ?_
  simp only [newExc, newTuple]
  refine wpAny_bind (wpAny_newObj_type ?_ (by size_fits))
  refine wpAny_bind (m := firstArgMember _ _) (wpAny_of_eq (a := Value.none) (by first | rfl | (simp only [firstArgMember]; rfl)) ?_)
  refine wpAny_newObj_type ?_ (by size_fits)
  simp only [raiseNew]
  refine wpAny_bind (wpAny_handled ?_)
  rw [show A.in1.handled = none from hh]
  refine wpAny_bind (wpAny_pure (wpAny_throw ?_))
  exact hE _ _ (((Heap.SameBut.update ..).extBut.push _).push _) ⟨_, Heap.get?_push_size _ rfl, rfl⟩
end
end Mine

-- Fil2
open PySem PySem.W PyProof.Rows PySem.Calls PySem.Spec
set_option Elab.async false
set_option maxRecDepth 100000
set_option maxHeartbeats 1000000
namespace Mine

/-- a line: none or a number -/
inductive LineIs : Value → Option Int → Prop
  | no : LineIs .none none
  | yes (n : Int) (t : Tok) : LineIs (.int n t) (some n)
def lineOn (x : Option Int) : Bool := match x with | none => false | some n => n != 0

section
variable {w : World} {A : Around} {E : Value → Shared → Prop} {s : Shared} {K : Type} [DecidableEq K] {knd : KeyKind PG w K}

theorem truthy_line {v : Value} {x : Option Int} {Q : Bool → Shared → Prop} (hl : LineIs v x) (h : Q (lineOn x) s) : wpAny (model PG w) A (truthy v) Q E s := by
  cases hl with
  | no => exact wpAny_pure h
  | yes n t => exact truthy_int h

/-- the lines that a table tells -/
def LinesOf (kvs : List (K × Value)) (ls : List (Option Int)) : Prop := kvs.length = ls.length ∧ ∀ (i : Nat) k v, kvs[i]? = some (k, v) → ∃ x, ls[i]? = some x ∧ LineIs v x

/-- the state of the filter -/
def FilAt (knd : KeyKind PG w K) (f it d : Addr) (kvs : List (K × Value)) (ep i : Nat) (h : Heap) : Prop := IsFil h f it ∧ h.IsValIter it d i kvs.length ep ∧ h.DictAt knd d kvs ep
theorem FilAt.moved {f it d : Addr} {kvs : List (K × Value)} {ep i : Nat} {h h' : Heap} (x : FilAt knd f it d kvs ep i h) (k : ∀ b ∈ [f, it, d], ∀ o, h.get? b = some o → h'.get? b = some o) : FilAt knd f it d kvs ep i h' :=
  ⟨k f (by simp) _ x.1, x.2.1.at fun o e => k it (by simp) o e, x.2.2.at' fun o e => k d (by simp) o e⟩

theorem fil_loop {f it d : Addr} {kvs : List (K × Value)} {ls : List (Option Int)} {ep : Nat} {R : Result → Shared → Prop} (hh : A.handled = none) (hfi : f ≠ it) (hdi : d ≠ it) (hls : LinesOf kvs ls) :
    ∀ (k i : Nat) (s : Shared), kvs.length - i = k → i ≤ kvs.length → FilAt knd f it d kvs ep i s.heap →
    (∀ h' e, (∀ j, i ≤ j → ∀ x, ls[j]? = some x → lineOn x = false) → Heap.ExtBut it s.heap h' → (∃ o, h'.get? e = some o ∧ o.cls = .type "StopIteration") → R (.error (.ref e)) { s with heap := h' }) →
    (∀ j v x h', i ≤ j → j < kvs.length → ls[j]? = some x → LineIs v x → lineOn x = true → (∀ l, i ≤ l → l < j → ∀ y, ls[l]? = some y → lineOn y = false) → FilAt knd f it d kvs ep (j + 1) h' → Bt it s.heap h' → R (.ok (.ret v)) { s with heap := h' }) →
    codeAny (model PG w) A (.builtin "filter.__next__" ⟨[.ref f], []⟩) R s := by
  intro k
  induction k with
  | zero =>
    intro i s hk hi hst hend _
    obtain ⟨hf, hit, hd⟩ := id hst
    refine codeAny_builtin entry_filter_next ?_
    rw [Around.under_plainId plain_filter_next _]
    show wpAny _ A.in1 (field (.ref f) 0 >>= _) _ _ s
    refine wpAny_bind (wpAny_field hf rfl (x := .none) rfl ?_)
    show wpAny _ A.in1 (field (.ref f) 1 >>= _) _ _ s
    refine wpAny_bind (wpAny_field hf rfl (x := .ref it) rfl ?_)
    refine wpAny_bind (vn_end hh hit hd (List.getElem?_eq_none (by omega)) fun h' e hx he => ?_)
    refine hend h' e (fun j hj x hx => ?_) hx he
    rw [List.getElem?_eq_none (by rw [← hls.1]; omega)] at hx; cases hx
  | succ k ih =>
    intro i s hk hi hst hend hsome
    obtain ⟨hf, hit, hd⟩ := id hst
    have hlt : i < kvs.length := by omega
    refine codeAny_builtin entry_filter_next ?_
    rw [Around.under_plainId plain_filter_next _]
    show wpAny _ A.in1 (field (.ref f) 0 >>= _) _ _ s
    refine wpAny_bind (wpAny_field hf rfl (x := .none) rfl ?_)
    show wpAny _ A.in1 (field (.ref f) 1 >>= _) _ _ s
    refine wpAny_bind (wpAny_field hf rfl (x := .ref it) rfl ?_)
    have hex : ∃ kk v, kvs[i]? = some (kk, v) := ⟨kvs[i].1, kvs[i].2, by simp [hlt]⟩
    obtain ⟨kk, v, hkv⟩ := hex
    obtain ⟨x, hx, hl⟩ := hls.2 i kk v hkv
    refine wpAny_bind (vn_item hit hd hkv fun h₁ hit₁ hs₁ => ?_)
    have hb₁ : Bt it s.heap h₁ := fun b o hb e => hs₁.extBut b o hb e
    have hst₁ : FilAt knd f it d kvs ep (i + 1) h₁ := ⟨hb₁ f _ hfi hf, hit₁, hd.at' fun o e => hb₁ d o hdi e⟩
    show wpAny _ A.in1 (holding [v] (rule _ >>= _) >>= _) _ _ _
    refine wpAny_bind (wpAny_holding (wpAny_bind (wpAny_rule (truthy_line hl ?_))))
    cases hon : lineOn x with
    | true =>
      simp only [if_true]
      exact wpAny_pure (hsome i v x h₁ (Nat.le_refl _) hlt hx hl hon (fun l h1 h2 => by omega) hst₁ hb₁)
    | false =>
      simp only [Bool.false_eq_true, if_false]
      refine wpAny_pure ⟨plainId_quiet plain_filter_next _, ih (i + 1) _ (by omega) hlt hst₁ (fun h' e ha hb he => ?_) fun j v' x' h' h1 h2 h3 h4 h5 h6 h7 h8 => ?_⟩
      · refine hend h' e (fun j hj y hy => ?_) (fun b o hb' e' => hb b o hb' (hb₁ b o hb' e')) he
        by_cases q : j = i
        · subst q; rw [hx] at hy; injection hy with hy; rw [← hy]; exact hon
        · exact ha j (by omega) y hy
      · refine hsome j v' x' h' (by omega) h2 h3 h4 h5 (fun l hl1 hl2 y hy => ?_) h7 (fun b o hb' e' => h8 b o hb' (hb₁ b o hb' e'))
        by_cases q : l = i
        · subst q; rw [hx] at hy; injection hy with hy; rw [← hy]; exact hon
        · exact h6 l (by omega) hl2 y hy

theorem fil_next {f it d : Addr} {kvs : List (K × Value)} {ls : List (Option Int)} {ep i : Nat} {Q : Option Value → Shared → Prop} (hh : A.handled = none) (hfi : f ≠ it) (hdi : d ≠ it) (hls : LinesOf kvs ls)
    (hi : i ≤ kvs.length) (hst : FilAt knd f it d kvs ep i s.heap)
    (hend : ∀ h', (∀ j, i ≤ j → ∀ x, ls[j]? = some x → lineOn x = false) → Bt it s.heap h' → Q none { s with heap := h' })
    (hsome : ∀ j v x h', i ≤ j → j < kvs.length → ls[j]? = some x → LineIs v x → lineOn x = true → (∀ l, i ≤ l → l < j → ∀ y, ls[l]? = some y → lineOn y = false) → FilAt knd f it d kvs ep (j + 1) h' → Bt it s.heap h' → Q (some v) { s with heap := h' }) :
    wpAny (model PG w) A (pyNext (.ref f)) Q E s := by
  have hT : s.TypeIs (.ref f) "filter" := ⟨_, hst.1, rfl⟩
  unfold pyNext
  refine wpAny_bind (wpAny_attempt (wpAny_callSpecial?_slot (name := Str.ofString "__next__") hT slot_filter_next (wpAny_call (codeAny_call_builtin_code (plainId_quiet plain_filter_next _) (slot_filter_next.check _ _ _ _ _ _ _ _ hT (args_filter_next _) ?_)))))
  refine fil_loop hh hfi hdi hls _ i s rfl hi hst (fun h' e ha hb he => ?_) fun j v x h' h1 h2 h3 h4 h5 h6 h7 h8 => ?_
  · refine wpAny_bind (wpAny_isInstance (T := "StopIteration") (b := true) he isSubtype_stop ?_)
    exact wpAny_pure (hend h' ha hb)
  · exact wpAny_pure (hsome j v x h' h1 h2 h3 h4 h5 h6 h7 h8)
end
end Mine

-- Lin
open PySem PySem.W PyProof.Rows PySem.Calls PySem.Spec
set_option Elab.async false
set_option maxRecDepth 100000
set_option maxHeartbeats 1000000
namespace Mine
theorem no_contains : typeLookup (.type "dict_values") "__contains__" = pure none := by rw [typeLookup_type, builtinLookup_eq_fast]; kernel_rfl
theorem plain_cit : plainId "proto.contains_iter" = true := by decide +kernel
theorem entry_cit : entryFor table "proto.contains_iter" = some Builtin.«proto.contains_iter» := entryFor_of_fast (by kernel_rfl)

section
variable {w : World} {A : Around} {E : Value → Shared → Prop} {s : Shared} {env : Env} {K : Type} [DecidableEq K] {knd : KeyKind PG w K}

theorem eq_line_none {v : Value} {x : Option Int} {Q : Bool → Shared → Prop} (hl : LineIs v x) (h : Q x.isNone s) : wpAny (model PG w) A (eqBool v .none) Q E s := by
  cases hl with
  | no => exact SeqAt.EqAt.same .none PG w E Q h
  | yes n t => exact SeqAt.EqAt.int_none n t PG w E Q h

theorem cit_loop {it d : Addr} {kvs : List (K × Value)} {ls : List (Option Int)} {ep : Nat} {R : Result → Shared → Prop} (hh : A.handled = none) (hdi : d ≠ it) (hls : LinesOf kvs ls) :
    ∀ (k i : Nat) (s : Shared), kvs.length - i = k → i ≤ kvs.length → s.heap.IsValIter it d i kvs.length ep → s.heap.DictAt knd d kvs ep →
    (∀ h', Bt it s.heap h' → R (.ok (.ret (.bool ((ls.drop i).any (·.isNone))))) { s with heap := h' }) →
    codeAny (model PG w) A (.builtin "proto.contains_iter" ⟨[.ref it, .none], []⟩) R s := by
  intro k
  induction k with
  | zero =>
    intro i s hk hi hit hd hR
    refine codeAny_builtin entry_cit ?_
    rw [Around.under_plainId plain_cit _]
    refine wpAny_bind (wpAny_pyNext_values_end hh hit hd (List.getElem?_eq_none (by omega)) fun h' hx => ?_)
    have e : ls.drop i = [] := List.drop_eq_nil_of_le (by rw [← hls.1]; omega)
    rw [e] at hR
    exact wpAny_bind (wpAny_rule (wpAny_pure (hR h' hx)))
  | succ k ih =>
    intro i s hk hi hit hd hR
    have hlt : i < kvs.length := by omega
    have hex : ∃ kk v, kvs[i]? = some (kk, v) := ⟨kvs[i].1, kvs[i].2, by simp [hlt]⟩
    obtain ⟨kk, v, hkv⟩ := hex
    obtain ⟨x, hx, hl⟩ := hls.2 i kk v hkv
    have hdr : ls.drop i = x :: ls.drop (i + 1) := by
      have hlt' : i < ls.length := (List.getElem?_eq_some_iff.mp hx).1
      rw [List.drop_eq_getElem_cons hlt', (List.getElem?_eq_some_iff.mp hx).2]
    rw [hdr, List.any_cons] at hR
    refine codeAny_builtin entry_cit ?_
    rw [Around.under_plainId plain_cit _]
    refine wpAny_bind (wpAny_pyNext_values_item hit hd hkv fun h₁ hit₁ hs₁ => ?_)
    have hb₁ : Bt it s.heap h₁ := fun b o hb e => hs₁.extBut b o hb e
    refine wpAny_bind (eq_line_none hl ?_)
    cases hn : x.isNone with
    | true =>
      rw [hn] at hR
      simp only [if_true]
      exact wpAny_bind (wpAny_rule (wpAny_pure (hR h₁ hb₁)))
    | false =>
      rw [hn, Bool.false_or] at hR
      simp only [Bool.false_eq_true, if_false]
      exact wpAny_pure ⟨plainId_quiet plain_cit _, ih (i + 1) _ (by omega) hlt hit₁ (hd.at' fun o e => hb₁ d o hdi e) fun h' hb => hR h' fun b o hb' e => hb b o hb' (hb₁ b o hb' e)⟩

theorem none_in {v d : Addr} {kvs : List (K × Value)} {ls : List (Option Int)} {ep : Nat} {Q : Value → Shared → Prop} (hh : A.handled = none) (hls : LinesOf kvs ls) (hv : s.heap.IsValuesView v d) (hd : s.heap.DictAt knd d kvs ep)
    (h : ∀ h', Gr s.heap h' → Q (.bool (ls.any (·.isNone))) { s with heap := h' }) : wpAny (model PG w) A (compareOp .In .none (.ref v)) Q E s := by
  show wpAny _ _ (contains (.ref v) .none >>= _) _ _ s
  refine wpAny_bind ?_
  unfold contains
  refine wpAny_holding ?_
  show wpAny _ _ (specialOf (.ref v) (Str.ofString "__contains__") >>= _) _ _ s
  refine wpAny_bind (wpAny_specialOf hv.typeIs no_contains ?_)
  refine wpAny_bind (wpAny_callSpecialUnlessNone?_none hv.typeIs no_contains ?_)
  refine wpAny_bind (wpAny_rule ?_)
  refine wpAny_bind (wpAny_tryCatch (wpAny_pyIter_values hv hd ?_))
  have hlt := hd.lt_size
  refine wpAny_bind (wpAny_runValue (cit_loop hh (Nat.ne_of_lt hlt) hls _ 0 _ rfl (Nat.zero_le _) ⟨_, Heap.get?_push_size _ rfl, rfl, rfl⟩ (hd.push _) fun h' hb => wpAny_pure (wpAny_pure (h h' ?_))))
  exact fun b o e => hb b o (Nat.ne_of_lt (Heap.lt_size e)) (Heap.get?_push_of_some _ e)

/-- d.values() of a local -/
theorem values_of {x : Str} {px pa pc : Pos} {d : Addr} {kvs : List (K × Value)} {m : Str → Option Value} {Q : Value → Shared → Prop} (hn : s.heap.Ns env.locals m) (hx : m x = some (.ref d)) (hm : s.heap.DictOf knd d kvs) (hds : (d == sysModules) = false)
    (h : Q (.ref s.heap.objs.size) { s with heap := s.heap.push { cls := .type "dict_values", data := .fields #[.ref d] } })
    (hk : env.scope.kind = .function := by rfl) (hl : env.kindOf x = some .local := by rfl) (hdb : (x == ("__debug__" : Str)) = false := by decide)
    (hc : eval (.Call (.Attribute (.Name x px) (Str.ofString "values") pa) [] [] pc) env = (do
      let ov ← eval (.Name x px) env
      standAt pa.atName
      let (f, first) ← holding [ov] (getMethod ov (Str.ofString "values") (do return (← importBound (.Name x px) env).getD true))
      callWith pc f first (backTo pc (starEach [] env)) []) := by rfl) :
    wpAny (model PG w) A (eval (.Call (.Attribute (.Name x px) (Str.ofString "values") pa) [] [] pc) env) Q E s := by
  refine MethodCall_ ?_ hc
  refine nm_local hn hx ?_ hk hl hdb
  refine getMethod_builtin hm.typeIs PySem.F.plainAttrs_dict F.slot_dict_values F.type_dict_values hm.mapOf.noDict ?_
  refine callWith_method0 ?_
  exact call_meetsIn F.slot_dict_values hm.typeIs F.entry_dict_values (F.args_dict_values_1 _) (meets_dict_values knd d hds) ⟨⟨_, hm⟩, h⟩

theorem call_filter {v d : Addr} {kvs : List (K × Value)} {ep : Nat} {Q : Value → Shared → Prop} (hv : s.heap.IsValuesView v d) (hd : s.heap.DictAt knd d kvs ep)
    (h : ∀ h', FilAt knd (s.heap.objs.size + 1) s.heap.objs.size d kvs ep 0 h' → Gr s.heap h' → Q (.ref (s.heap.objs.size + 1)) { s with heap := h' }) :
    wpAny (model PG w) A (call (.type "filter") [.none, .ref v]) Q E s := by
  refine callType_newIn (S := fun _ R s' => s' = s ∧ ∀ h', FilAt knd (s.heap.objs.size + 1) s.heap.objs.size d kvs ep 0 h' → Gr s.heap h' → R (.ok (.ret (.ref (s.heap.objs.size + 1)))) { s with heap := h' }) called_filter (by decide) (typeCall_filter_2 _ _) (newCall_filter_2 _ _) (fun obj => F.args_object_init_3 obj _ _) entry_filter_new ?_ ⟨rfl, fun h' hf g => ⟨⟨_, hf.1, rfl⟩, h h' hf g⟩⟩
  refine MeetsIn.of_wp fun A R s' hS => ?_
  obtain ⟨rfl, hR⟩ := hS
  have hlt := hd.lt_size
  have e : Builtin.«filter.__new__» ⟨[.type "filter", .none, .ref v], []⟩ = (do
      let it ← pyIter (.ref v)
      ret (← newObj (.type "filter") (.fields #[.none, it]))) := by
    have hsub := sub_filter
    unfold Builtin.«filter.__new__» Builtin.SmallTypes.newClass
    show (isSubtype (.type "filter") (.type "filter") >>= _) >>= _ = _
    rw [hsub]
    rfl
  rw [e]
  refine wpAny_bind (wpAny_pyIter_values hv hd (wpAny_bind (wpAny_newObj_type (wpAny_pure ?_))))
  rw [Heap.size_push]
  refine ⟨_, rfl, hR _ ⟨?_, ⟨_, Heap.get?_push_of_some _ (Heap.get?_push_size _ rfl), rfl, rfl⟩, (hd.push _).push _⟩ ((Gr.push _ _).trans (Gr.push _ _))⟩
  exact pushed2 _ _ _ rfl
end
end Mine

-- Lino
open PySem PySem.W PyProof.Rows PySem.Calls PySem.Spec
set_option Elab.async false
set_option maxRecDepth 100000
set_option maxHeartbeats 1000000
namespace Mine
/-- the greatest of the lines told -/
def stepL (b : Option Int) (x : Option Int) : Option Int := match x with
  | none => b
  | some n => if (n != 0) = true then (match b with | none => some n | some m => some (if m < n then n else m)) else b
def bestL (ls : List (Option Int)) : Option Int := ls.foldl stepL none
theorem bestL_snoc (ls : List (Option Int)) (x : Option Int) : bestL (ls ++ [x]) = stepL (bestL ls) x := by simp [bestL]
theorem stepL_off {b x : Option Int} (h : lineOn x = false) : stepL b x = b := by
  cases x with
  | none => rfl
  | some n =>
    have h' : (n != 0) = false := h
    unfold stepL
    simp only [h', Bool.false_eq_true, if_false]
theorem bestL_skip {ls : List (Option Int)} {i : Nat} : ∀ (k : Nat), (∀ l, i ≤ l → l < i + k → ∀ y, ls[l]? = some y → lineOn y = false) → bestL (ls.take (i + k)) = bestL (ls.take i)
  | 0, _ => rfl
  | k + 1, h => by
    have ih := bestL_skip k fun l h1 h2 => h l h1 (by omega)
    cases hy : ls[i + k]? with
    | none =>
      rw [← Nat.add_assoc, List.take_add_one, hy]
      simpa using ih
    | some y =>
      rw [← Nat.add_assoc, List.take_add_one, hy]
      show bestL (ls.take (i + k) ++ [y]) = _
      rw [bestL_snoc, stepL_off (h (i + k) (by omega) (by omega) y hy), ih]
theorem bestL_mem : ∀ (ls : List (Option Int)) (b : Option Int) (n : Int), ls.foldl stepL b = some n → some n ∈ ls ∨ b = some n
  | [], b, n, h => .inr h
  | x :: ls, b, n, h => by
    rcases bestL_mem ls _ n h with q | q
    · exact .inl (List.mem_cons_of_mem _ q)
    · cases x with
      | none => exact .inr q
      | some k =>
        unfold stepL at q
        simp only at q
        split at q
        · cases b with
          | none => exact .inl (by simp only at q; rw [q]; exact List.mem_cons_self)
          | some z =>
            simp only at q
            split at q
            · exact .inl (by rw [q]; exact List.mem_cons_self)
            · exact .inr q
        · exact .inr q

section
variable {w : World} {A : Around} {E : Value → Shared → Prop} {s : Shared} {env : Env} {K : Type} [DecidableEq K] {knd : KeyKind PG w K}

theorem max_fil {f it d : Addr} {kvs : List (K × Value)} {ls : List (Option Int)} {ep : Nat} {t : Tok} {Q : Value → Shared → Prop} (hh : A.handled = none) (hfi : f ≠ it) (hdi : d ≠ it) (hls : LinesOf kvs ls)
    (hst : FilAt knd f it d kvs ep 0 s.heap)
    (h : ∀ h' t', Bt it s.heap h' → Q (.int ((bestL ls).getD (-1)) t') { s with heap := h' }) :
    wpAny (model PG w) A (call (.builtin "max") [.ref f] [(Str.ofString "default", .int (-1) t)]) Q E s := by
  have hT : s.TypeIs (.ref f) "filter" := ⟨_, hst.1, rfl⟩
  have hlf : f < s.heap.objs.size := Heap.lt_size hst.1
  have hli : it < s.heap.objs.size := by obtain ⟨o, e, _⟩ := hst.2.1; exact Heap.lt_size e
  have hld : d < s.heap.objs.size := hst.2.2.lt_size
  refine call_max_default ?_
  refine wpAny_pyIter_slot hT slot_filter_iter (wpAny_call_entry slot_filter_iter hT entry_filter_iter ?_ (args_filter_iter _))
  show wpAny _ _ (ret (.ref f)) _ _ s
  refine wpAny_pure ⟨_, rfl, "filter", _, hT, slot_filter_next.lookup, ?_⟩
  intro h₃ g₃ hfresh hkept
  have hall : ∀ b ∈ [f, it, d], b < s.heap.objs.size := fun b hb => by
    rcases List.mem_cons.mp hb with e | hb
    · rw [e]; exact hlf
    · rcases List.mem_cons.mp hb with e | hb
      · rw [e]; exact hli
      · rw [List.mem_singleton.mp hb]; exact hld
  have hSi : s.heap.objs.size ≠ it := Nat.ne_of_gt hli
  have hout : ∀ (n : Int) (t' : Tok) (h₁ h₂ : Heap), bestL ls = some n → Bt it s.heap h₁ → Bt s.heap.objs.size h₁ h₂ → Q (.int n t') { s with heap := h₂ } := fun n t' h₁ h₂ e b1 b2 => by
    have := h h₂ t' fun b o hb e => b2 b o (Nat.ne_of_lt (Heap.lt_size e)) (b1 b o hb e)
    rw [e] at this
    exact this
  refine ⟨fun k b s' => ∃ h' i, s' = { s with heap := h' } ∧ i ≤ kvs.length ∧ k = kvs.length - i ∧ FilAt knd f it d kvs ep i h' ∧ Bt it s.heap h' ∧ (match b, bestL (ls.take i) with | none, none => True | some v, some n => ∃ t, v = .int n t | _, _ => False), kvs.length, ?_, h₃, 0, rfl, Nat.zero_le _, rfl, hst.moved (fun b _ o e => g₃ b o e), fun b o _ e => g₃ b o e, trivial⟩
  rintro k b s' ⟨h', i, rfl, hi, rfl, hst', hbt, hb⟩ hkept'
  obtain ⟨c, hkept'⟩ := hkept'
  refine fil_next (A := A.in1) hh hfi hdi hls hi hst' (fun h₁ hoff hb₁ => ?_) fun j v x h₁ hij hj hx hl hon hoff hst₁ hb₁ => ?_
  · have hsk : bestL ls = bestL (ls.take i) := by
      have := bestL_skip (ls := ls) (i := i) (ls.length - i) fun l h1 _ => hoff l h1
      rw [List.take_of_length_le (by omega)] at this
      exact this
    refine ⟨⟨c, hb₁ _ _ hSi hkept'⟩, ?_⟩
    cases b with
    | none =>
      cases hq : bestL (ls.take i) with
      | some n => rw [hq] at hb; exact hb.elim
      | none =>
        refine ⟨_, _, rfl, ?_⟩
        have := h h₁ t fun b o hb e => hb₁ b o hb (hbt b o hb e)
        rw [hsk, hq] at this
        exact this
    | some vb =>
      cases hq : bestL (ls.take i) with
      | none => rw [hq] at hb; exact hb.elim
      | some n =>
        rw [hq] at hb
        obtain ⟨t', rfl⟩ := hb
        intro h₂ hb₂
        exact hout n t' h₁ h₂ (hsk.trans hq) (fun b o hb e => hb₁ b o hb (hbt b o hb e)) hb₂
  · have hsk : bestL (ls.take j) = bestL (ls.take i) := by
      have := bestL_skip (ls := ls) (i := i) (j - i) fun l h1 h2 => hoff l h1 (by omega)
      rwa [show i + (j - i) = j by omega] at this
    have htk : bestL (ls.take (j + 1)) = stepL (bestL (ls.take i)) x := by
      rw [List.take_add_one, hx]
      show bestL (ls.take j ++ [x]) = _
      rw [bestL_snoc, hsk]
    cases hl with
    | no => exact absurd hon (by decide)
    | yes n tn =>
      have hon' : (n != 0) = true := hon
      have hb₁' : Bt it s.heap h₁ := fun b o hb e => hb₁ b o hb (hbt b o hb e)
      refine ⟨⟨c, hb₁ _ _ hSi hkept'⟩, ?_⟩
      have next : ∀ (b' : Value) (h₂ : Heap), Bt s.heap.objs.size h₁ h₂ → (∃ n' t', stepL (bestL (ls.take i)) (some n) = some n' ∧ b' = .int n' t') →
          ∃ k', k' < kvs.length - i ∧ ∃ h' i, ({ s with heap := h₂ } : Shared) = { s with heap := h' } ∧ i ≤ kvs.length ∧ k' = kvs.length - i ∧ FilAt knd f it d kvs ep i h' ∧ Bt it s.heap h' ∧ (match some b', bestL (ls.take i) with | none, none => True | some v, some n => ∃ t, v = .int n t | _, _ => False) := by
        rintro b' h₂ hb₂ ⟨n', t', e1, rfl⟩
        refine ⟨kvs.length - (j + 1), by omega, h₂, j + 1, rfl, hj, rfl, hst₁.moved (fun b hb o e => hb₂ b o (Nat.ne_of_lt (hall b hb)) e), fun b o hb e => hb₂ b o (Nat.ne_of_lt (Heap.lt_size e)) (hb₁' b o hb e), ?_⟩
        rw [htk, e1]
        exact ⟨t', rfl⟩
      cases b with
      | none =>
        cases hq : bestL (ls.take i) with
        | some m => rw [hq] at hb; exact hb.elim
        | none =>
          intro h₂ hb₂
          exact next _ h₂ hb₂ ⟨n, tn, by rw [hq]; unfold stepL; simp only [hon', if_true], rfl⟩
      | some vb =>
        cases hq : bestL (ls.take i) with
        | none => rw [hq] at hb; exact hb.elim
        | some m =>
          rw [hq] at hb
          obtain ⟨t', rfl⟩ := hb
          show wpAny _ _ (compareOp .Gt (.int n tn) (.int m t')) _ _ _
          refine gt_int ⟨_, rfl, ⟨c, hb₁ _ _ hSi hkept'⟩, fun h₂ hb₂ => ?_⟩
          refine next _ h₂ hb₂ ?_
          by_cases hmn : m < n
          · exact ⟨n, tn, by rw [hq]; unfold stepL; simp only [hon', if_true, if_pos hmn], by rw [if_pos (decide_eq_true hmn)]⟩
          · exact ⟨m, t', by rw [hq]; unfold stepL; simp only [hon', if_true, if_neg hmn], by rw [if_neg (by rw [decide_eq_false hmn]; decide)]⟩
end
end Mine

-- Lino2
open PySem PySem.W PyProof.Rows PySem.Calls PySem.Spec
set_option Elab.async false
set_option maxRecDepth 100000
set_option maxHeartbeats 1000000
namespace Mine
theorem gl_filter (w : World) : nsIn (hd.heap_39 w.params) mainGlobals (Str.ofString "filter") = some none := by rfl
theorem bt_filter : bootBuiltins (Str.ofString "filter") = some (.type "filter") := by decide +kernel
theorem gl_nolino (w : World) : ∃ t, nsIn (hd.heap_39 w.params) mainGlobals (Str.ofString "_NO_LINENO") = some (some (.str (Str.ofString "  --") t)) := ⟨_, by rfl⟩
def linoOf (ls : List (Option Int)) : Int := match bestL ls with
  | none => 0
  | some n => if n = -1 then 0 else
    let k : Int := if 3 < (figures n : Int) then (figures n : Int) else 3
    if k < 4 ∧ ls.any (·.isNone) = true then 4 else k
section
variable {w : World} {A : Around} {E : Value → Shared → Prop} {s : Shared} {env : Env} {K : Type} [DecidableEq K] {knd : KeyKind PG w K}

theorem c_lineno {d : Addr} {kvs : List (K × Value)} {ls : List (Option Int)} {Q : Value → Shared → Prop} (t : Tp w s.heap) (hA : A.handled = none) (hroom : A.depth < recursionLimit)
    (hds : (d == sysModules) = false) (hd₀ : s.heap.DictOf knd d kvs) (hls : LinesOf kvs ls) (hok : ∀ n, some n ∈ ls → n.natAbs.log2 < 1920)
    (h : ∀ h' t' tk', Gr s.heap h' → Q (.int (linoOf ls) t') { s with heap := h', toks := tk' }) : wpAny (model PG w) A (call (.ref 35) [.ref d]) Q E s := by
  have hfill : Fill PySem.Challenge.rw_ny0023_01 hd.heap_39 := by (k_fill; trivial)
  refine call_fn (binds := [(Str.ofString "linestarts", .ref d)]) t hroom (by k_is) rfl (by k_is) rfl (BindsTo.of_eq rfl) (by decide) (locs rfl) ?_ rfl rfl rfl
  intro L h₁ hL F t₀
  clear hfill
  have hno := gl_nolino w
  obtain ⟨tn, hno⟩ := hno
  have hda := hd₀.dictAt
  obtain ⟨ep, hda⟩ := hda
  have hda₁ : h₁.DictAt knd d kvs ep := hda.keep F.keep
  refine ex_if (wpAny_isTrue_Compare1 (nm_local F.ns rfl (wpAny_Constant_none (is_none (wpAny_truthy_bool (ite_neg Bool.false_ne_true (wpAny_execs_nil ?_)))))))
  refine ex_assign ?_
  refine wpAny_Call_Name_kw (nm_boot (t₀.fr F) (gl_max w) bt_max ?_)
  refine callWith_kw ?_
  refine args_cons ?_
  refine Call_ (nm_boot (t₀.fr F) (gl_filter w) bt_filter (PyProof.Rows.callWith_type1 (args_cons (wpAny_Constant_none ?_))))
  refine args_cons (values_of F.ns rfl hda₁.dictOf hds (args_nil ?_))
  have F₂ := F.push { cls := .type "dict_values", data := .fields #[.ref d] }
  have hda₂ := hda₁.push { cls := .type "dict_values", data := .fields #[.ref d] }
  refine call_filter (s := { s with heap := h₁.push { cls := .type "dict_values", data := .fields #[.ref d] }, toks := _ }) ⟨_, Heap.get?_push_size _ rfl, rfl, rfl⟩ hda₂ fun h₃ hfil g₃ => ?_
  refine args_nil ?_
  refine kws_cons (wpAny_UnaryOp (wpAny_Constant_int (neg_int ?_)))
  refine kws_nil ?_
  have hd₂ := hda₂.lt_size
  refine max_fil (f := (h₁.push { cls := .type "dict_values", data := .fields #[.ref d] }).objs.size + 1) hA (Nat.succ_ne_self _) (Nat.ne_of_lt hd₂) hls hfil fun h₄ t₄ hb₄ => ?_
  have g₄ : Gr (h₁.push { cls := .type "dict_values", data := .fields #[.ref d] }) h₄ := fun b o e => hb₄ b o (Nat.ne_of_lt (Heap.lt_size e)) (g₃ b o e)
  have F₄ := Gr.fr g₄ F₂
  refine st_local F₄ fun h₅ F₅ k₅ => ?_
  dsimp only at F₅ k₅ ⊢
  clear k₅ F₄ g₄ hb₄ hfil g₃ hda₂ F₂ hd₂
  have t₅ : Tp w h₅ := t₀.fr F₅
  have hda₅ : h₅.DictAt knd d kvs ep := hda.keep F₅.keep
  have hfin : ∀ r, linoOf ls = r → ∀ h' t' tk', Gr s.heap h' → Q (.int r t') { s with heap := h', toks := tk' } := fun r e h' t' tk' g => e ▸ h h' t' tk' g
  refine ex_if (wpAny_isTrue_Compare1 (nm_local F₅.ns upd_eq (wpAny_UnaryOp (wpAny_Constant_int (neg_int (eq_int (wpAny_truthy_bool ?_)))))))
  by_cases hm1 : (bestL ls).getD (-1) = -1
  · refine ite_pos (by rw [hm1]; rfl) (ex_ret (wpAny_Constant_int ?_))
    refine hfin 0 ?_ h₅ _ _ F₅.keep
    unfold linoOf
    cases hb : bestL ls with
    | none => rfl
    | some n =>
      rw [hb] at hm1
      have : n = -1 := hm1
      rw [this]; rfl
  · refine ite_neg (by rw [beq_eq_false_iff_ne.mpr hm1]; decide) (wpAny_execs_nil ?_)
    have hex : ∃ n, bestL ls = some n := by
      cases hb : bestL ls with
      | none => rw [hb] at hm1; exact absurd rfl hm1
      | some n => exact ⟨n, rfl⟩
    obtain ⟨n, hn⟩ := hex
    have hn1 : n ≠ -1 := by rw [hn] at hm1; exact hm1
    have hmem : some n ∈ ls := (bestL_mem ls none n hn).resolve_right (fun q => nomatch q)
    have hlog := hok n hmem
    have hfit : (Str.ofString (toString n)).length ≤ sizeLine := int_text_fits hlog
    have hfit2 : (Str.ofString (toString n)).length ≤ 2 ^ 24 := hfit
    have F₆ : Fr s.heap L h₅ (upd (fun x => List.lookup x [(Str.ofString "linestarts", Value.ref d)].reverse) (Str.ofString "maxlineno") (.int n t₄)) := by
      rw [hn] at F₅; exact F₅
    clear F₅
    refine ex_assign (Call_ (nm_boot t₅ (gl_max w) bt_max (PyProof.Rows.callWith_builtin1 (args_cons (wpAny_Constant_int ?_)))))
    refine args_cons (Call_ (nm_boot t₅ (gl_len w) bt_len (PyProof.Rows.callWith_builtin1 (args_cons ?_))))
    refine Call_ (nm_boot t₅ (gl_str w) bt_str (PyProof.Rows.callWith_type1 (args_cons (nm_local F₆.ns upd_eq (args_nil ?_)))))
    refine P.str_of_int hlog ?_
    refine args_nil (P.len_str (by omega) ?_)
    refine args_nil ?_
    refine max_three hA fun h₇ tk₇ t₇ g₇ => ?_
    have hwd : linoOf ls = (if (if 3 < (figures n : Int) then (figures n : Int) else 3) < 4 ∧ ls.any (·.isNone) = true then 4 else (if 3 < (figures n : Int) then (figures n : Int) else 3)) := by
      unfold linoOf; rw [hn]; simp only [if_neg hn1]
    have hex2 : ∃ k : Int, k = (if 3 < (figures n : Int) then (figures n : Int) else 3) := ⟨_, rfl⟩
    obtain ⟨k, hk⟩ := hex2
    rw [← hk] at hwd
    have F₇ := Gr.fr g₇ F₆
    refine st_local F₇ fun h₈ F₈ k₈ => ?_
    dsimp only at F₈ k₈ ⊢
    have F₉ : Fr s.heap L h₈ (upd (upd (fun x => List.lookup x [(Str.ofString "linestarts", Value.ref d)].reverse) (Str.ofString "maxlineno") (.int n t₄)) (Str.ofString "lineno_width") (.int k t₇)) := by rw [hk]; exact F₈
    clear F₈ hk k₈ F₇
    have t₉ : Tp w h₈ := t₀.fr F₉
    have hda₉ : h₈.DictAt knd d kvs ep := hda.keep F₉.keep
    have h4 : (Str.ofString "  --").length = 4 := by decide +kernel
    refine ex_if (wpAny_isTrue_BoolOp (wpAny_allTrue_And_cons (wpAny_isTrue_Compare1 (nm_local F₉.ns upd_eq (Call_ (nm_boot t₉ (gl_len w) bt_len (PyProof.Rows.callWith_builtin1 (args_cons (nm_glob t₉ hno (args_nil ?_))))))))))
    refine P.len_str (by rw [h4]; decide) ?_
    refine lt_int (wpAny_truthy_bool ?_)
    rw [h4]
    by_cases hk4 : k < 4
    · refine ite_pos (decide_eq_true hk4) ?_
      refine wpAny_allTrue_And_cons (wpAny_isTrue_Compare1 (wpAny_Constant_none (values_of F₉.ns (upd_ne (upd_ne rfl)) hda₉.dictOf hds ?_)))
      have F₁₀ := F₉.push { cls := .type "dict_values", data := .fields #[.ref d] }
      refine none_in hA hls (d := d) (knd := knd) (ep := ep) ⟨_, Heap.get?_push_size _ rfl, rfl, rfl⟩ (hda₉.push _) fun h₁₁ g₁₁ => wpAny_truthy_bool ?_
      have F₁₁ := Gr.fr g₁₁ F₁₀
      cases hany : ls.any (·.isNone) with
      | true =>
        refine ite_pos rfl (wpAny_allTrue_And_nil (ite_pos rfl ?_))
        refine ex_assign (Call_ (nm_boot (t₀.fr F₁₁) (gl_len w) bt_len (PyProof.Rows.callWith_builtin1 (args_cons (nm_glob (t₀.fr F₁₁) hno (args_nil ?_))))))
        refine P.len_str (by rw [h4]; decide) ?_
        refine st_local F₁₁ fun h₁₂ F₁₂ k₁₂ => wpAny_execs_nil ?_
        refine ex_ret (nm_local F₁₂.ns upd_eq ?_)
        rw [h4]
        exact hfin 4 (by rw [hwd, if_pos ⟨hk4, hany⟩]) h₁₂ _ _ F₁₂.keep
      | false =>
        refine ite_neg Bool.false_ne_true (ite_neg Bool.false_ne_true (wpAny_execs_nil (ex_ret (nm_local F₁₁.ns upd_eq ?_))))
        exact hfin k (by rw [hwd, if_neg (fun q => by rw [hany] at q; exact Bool.false_ne_true q.2)]) h₁₁ _ _ F₁₁.keep
    · refine ite_neg (fun q => hk4 (of_decide_eq_true q)) (ite_neg Bool.false_ne_true (wpAny_execs_nil (ex_ret (nm_local F₉.ns upd_eq ?_))))
      exact hfin k (by rw [hwd, if_neg (fun q => hk4 q.1)]) h₈ _ _ F₉.keep
end
end Mine

-- Nxt
open PySem PySem.W PyProof.Rows PySem.Calls PySem.Spec
set_option Elab.async false
set_option maxRecDepth 100000
set_option maxHeartbeats 1000000
namespace Mine
theorem kind_next : builtinKind "next" = none := by decide +kernel
theorem plain_next : plainId "next" = true := by decide +kernel
theorem kind_iter : builtinKind "iter" = none := by decide +kernel
theorem plain_iter : plainId "iter" = true := by decide +kernel

/-- a new exception, not yet traced -/
def NewStop (h h' : Heap) (e : Addr) : Prop := h.get? e = none ∧ ∃ oe vs, h'.get? e = some oe ∧ oe.cls = .type "StopIteration" ∧ oe.data = .fields vs ∧ vs[1]? = some .none

section
variable {w : World} {A : Around} {E : Value → Shared → Prop} {s : Shared} {env : Env}

theorem ln_item {it l : Addr} {i : Nat} {items : Array Value} {x : Value} {Q : Option Value → Shared → Prop} (hit : s.heap.IsListIter it l i)
    (hl : s.heap.IsList l items) (hx : items[i]? = some x) (hQ : ∀ h', h'.IsListIter it l (i + 1) → Bt it s.heap h' → Q (some x) { s with heap := h' }) :
    wpAny (model PG w) A (callSpecial? (.ref it) (Str.ofString "__next__")) Q E s := by
  obtain ⟨o, ho, hc, hd⟩ := id hit
  obtain ⟨ol, hol, _, nl, hdl⟩ := hl
  refine wpAny_callSpecial?_slot (name := Str.ofString "__next__") hit.typeIs slot_listiter_next (wpAny_call_entry slot_listiter_next hit.typeIs entry_listiter_next ?_ (args_listiter_next _))
  show wpAny _ _ (field (.ref it) 0 >>= _) _ _ s
  refine wpAny_bind (wpAny_field ho hd (x := .ref l) rfl ?_)
  show wpAny _ _ (if (Value.ref l == Value.none) = true then _ else _) _ _ s
  rw [if_neg (show ¬ ((Value.ref l == Value.none) = true) from Bool.false_ne_true)]
  show wpAny _ _ (field (.ref it) 1 >>= _) _ _ s
  refine wpAny_bind (wpAny_field ho hd (x := .int i 0) rfl ?_)
  show wpAny _ _ (seqItems? (.ref l) >>= _) _ _ s
  refine wpAny_bind (wpAny_seqItems hol hdl ?_)
  simp only [Int.toNat_natCast, hx]
  refine wpAny_bind (wpAny_setField ho hd (by simp) (wpAny_pure ⟨x, rfl, hQ _ ?_ fun b o hb e => (Heap.SameBut.update ..).extBut b o hb e⟩))
  exact ⟨_, Heap.get?_update_self _ ho (Obj.isFreed_of_fields (Obj.data_mapFields hd _)), (Obj.cls_mapFields ..).trans hc, by
    rw [Obj.data_mapFields hd]; simp [rawInt]⟩

theorem ln_end {it l : Addr} {i : Nat} {items : Array Value} {Q : Option Value → Shared → Prop} (hh : A.handled = none) (hit : s.heap.IsListIter it l i)
    (hl : s.heap.IsList l items) (hx : items[i]? = none) (hE : ∀ h' e, Bt it s.heap h' → NewStop s.heap h' e → E (.ref e) { s with heap := h' }) :
    wpAny (model PG w) A (callSpecial? (.ref it) (Str.ofString "__next__")) Q E s := by
  obtain ⟨o, ho, hc, hd⟩ := id hit
  obtain ⟨ol, hol, _, nl, hdl⟩ := hl
  refine wpAny_callSpecial?_slot (name := Str.ofString "__next__") hit.typeIs slot_listiter_next (wpAny_call_entry slot_listiter_next hit.typeIs entry_listiter_next ?_ (args_listiter_next _))
  show wpAny _ _ (field (.ref it) 0 >>= _) _ _ s
  refine wpAny_bind (wpAny_field ho hd (x := .ref l) rfl ?_)
  show wpAny _ _ (if (Value.ref l == Value.none) = true then _ else _) _ _ s
  rw [if_neg (show ¬ ((Value.ref l == Value.none) = true) from Bool.false_ne_true)]
  show wpAny _ _ (field (.ref it) 1 >>= _) _ _ s
  refine wpAny_bind (wpAny_field ho hd (x := .int i 0) rfl ?_)
  show wpAny _ _ (seqItems? (.ref l) >>= _) _ _ s
  refine wpAny_bind (wpAny_seqItems hol hdl ?_)
  simp only [Int.toNat_natCast, hx]
  refine wpAny_bind (wpAny_rule (wpAny_bind (wpAny_setField ho hd (by simp) ?_)))
  show wpAny _ _ (newExc (.type "StopIteration") [] >>= _) _ _ _
  refine wpAny_bind ?_
  simp only [newExc, newTuple]
  refine wpAny_bind (wpAny_newObj_type ?_ (by size_fits))
  refine wpAny_bind (m := firstArgMember _ _) (wpAny_of_eq (a := Value.none) (by first | rfl | (simp only [firstArgMember]; rfl)) ?_)
  refine wpAny_newObj_type ?_ (by size_fits)
  simp only [raiseNew]
  refine wpAny_bind (wpAny_handled ?_)
  first | rw [show A.in1.handled = none from hh] | rw [hh]
  refine wpAny_bind (wpAny_pure (wpAny_throw ?_))
  refine hE _ _ (fun b o hb e => (((Heap.SameBut.update ..).extBut.push _).push _) b o hb e) ⟨?_, _, _, Heap.get?_push_size _ rfl, rfl, rfl, rfl⟩
  refine fresh_none ?_
  rw [Heap.size_push, Heap.size_after_update]
  exact Nat.le_succ _

theorem next_item {it l : Addr} {i : Nat} {items : Array Value} {x : Value} {Q : Value → Shared → Prop} (hit : s.heap.IsListIter it l i)
    (hl : s.heap.IsList l items) (hx : items[i]? = some x) (hQ : ∀ h', h'.IsListIter it l (i + 1) → Bt it s.heap h' → Q x { s with heap := h' }) :
    wpAny (model PG w) A (call (.builtin "next") [.ref it]) Q E s := by
  refine call_function_entry kind_next plain_next kdk_entry_next (kdk_args_next _) ?_
  unfold Builtin.«next»
  refine wpAny_bind (m := someArgs "next" 1 2 _) (wpAny_of_eq (a := [Value.ref it]) (by first | rfl | kernel_rfl!) ?_)
  dsimp only
  refine wpAny_bind (wpAny_specialOf (name := Str.ofString "__next__") hit.typeIs slot_listiter_next.lookup ?_)
  refine wpAny_ite_split (fun hab => absurd hab (by decide)) (fun _ => ?_)
  exact wpAny_bind (ln_item hit hl hx fun h' hit' hb => wpAny_pure ⟨_, rfl, hQ h' hit' hb⟩)
theorem next_end {it l : Addr} {i : Nat} {items : Array Value} {Q : Value → Shared → Prop} (hh : A.handled = none) (hit : s.heap.IsListIter it l i)
    (hl : s.heap.IsList l items) (hx : items[i]? = none) (hE : ∀ h' e, Bt it s.heap h' → NewStop s.heap h' e → E (.ref e) { s with heap := h' }) :
    wpAny (model PG w) A (call (.builtin "next") [.ref it]) Q E s := by
  refine call_function_entry kind_next plain_next kdk_entry_next (kdk_args_next _) ?_
  unfold Builtin.«next»
  refine wpAny_bind (m := someArgs "next" 1 2 _) (wpAny_of_eq (a := [Value.ref it]) (by first | rfl | kernel_rfl!) ?_)
  dsimp only
  refine wpAny_bind (wpAny_specialOf (name := Str.ofString "__next__") hit.typeIs slot_listiter_next.lookup ?_)
  refine wpAny_ite_split (fun hab => absurd hab (by decide)) (fun _ => ?_)
  exact wpAny_bind (ln_end (A := A.in1) hh hit hl hx hE)
theorem iter_list {l : Addr} {items : Array Value} {Q : Value → Shared → Prop} (hl : s.heap.IsList l items)
    (hQ : Q (.ref s.heap.objs.size) { s with heap := s.heap.push { cls := .type "list_iterator", data := .fields #[.ref l, .int 0 0] } }) :
    wpAny (model PG w) A (call (.builtin "iter") [.ref l]) Q E s := by
  refine call_function_entry kind_iter plain_iter kdk_entry_iter (kdk_args_iter _) ?_
  unfold Builtin.«iter»
  refine wpAny_bind (m := someArgs "iter" 1 2 _) (wpAny_of_eq (a := [Value.ref l]) (by first | rfl | kernel_rfl!) ?_)
  dsimp only
  exact wpAny_bind (wpAny_pyIter_list hl (wpAny_pure ⟨_, rfl, hQ⟩))
end
end Mine

-- Exn
open PySem PySem.W PyProof.Rows PySem.Calls PySem.Spec
set_option Elab.async false
set_option maxRecDepth 100000
set_option maxHeartbeats 1000000
namespace Mine
/-- a StopIteration on its way: untraced, or with an entry in flight at fl -/
def ExcAt (base : Heap) (e : Addr) (st : Option Value) (h : Heap) : Prop :=
  base.get? e = none ∧ ∃ oe vs, h.get? e = some oe ∧ oe.cls = .type "StopIteration" ∧ oe.data = .fields vs ∧ (match st with
    | none => vs[1]? = some .none
    | some fl => ∃ T oT ts, vs[1]? = some (.ref T) ∧ base.get? T = none ∧ T ≠ e ∧ h.get? T = some oT ∧ oT.data = .fields ts ∧ ts[3]? = some fl)
/-- what the passing of an exception leaves of the heap -/
def Thru (base h h' : Heap) : Prop := Gr base h' ∧ ∀ b o, h.get? b = some o → (∀ vs, o.data ≠ .fields vs) → ∃ sl, h'.get? b = some { o with slots := sl }
theorem Thru.trans {base h h' h'' : Heap} (x : Thru base h h') (y : Thru base h' h'') : Thru base h h'' :=
  ⟨y.1, fun b o e hn => let ⟨_, e'⟩ := x.2 b o e hn; let ⟨sl, e''⟩ := y.2 b _ e' hn; ⟨sl, e''⟩⟩
theorem Thru.refl {base h : Heap} (g : Gr base h) : Thru base h h := ⟨g, fun _ o e _ => ⟨o.slots, e⟩⟩
theorem Thru.frames {base h h' : Heap} (x : Thru base h h') {l : List Env} (hl : h.FunFrames base l) : h'.FunFrames base l :=
  hl.of_keeps fun b o ho hn => let ⟨_, e⟩ := x.2 b o ho hn; ⟨_, e, rfl⟩
theorem Thru.ns {base h h' : Heap} (x : Thru base h h') {a : Addr} {m : Str → Option Value} (hn : h.Ns a m) : h'.Ns a m := by
  obtain ⟨o, es, ep, ho, hd, r⟩ := hn
  obtain ⟨sl, e⟩ := x.2 a o ho (fun vs q => by rw [hd] at q; cases q)
  exact ⟨_, es, ep, e, hd, r⟩
theorem Thru.list {base h h' : Heap} (x : Thru base h h') {a : Addr} {its : Array Value} (hn : h.IsList a its) : h'.IsList a its := by
  obtain ⟨o, ho, hc, n, hd⟩ := hn
  obtain ⟨sl, e⟩ := x.2 a o ho (fun vs q => by rw [hd] at q; cases q)
  exact ⟨_, e, hc, n, hd⟩
theorem Thru.cell {base h h' : Heap} (x : Thru base h h') {a : Addr} {v : Option Value} (hn : h.IsCell a v) : h'.IsCell a v := by
  obtain ⟨o, ho, hd⟩ := hn
  obtain ⟨sl, e⟩ := x.2 a o ho (fun vs q => by rw [hd] at q; cases q)
  exact ⟨_, e, hd⟩

section
variable {M : Model} {A : Around} {E : Value → Shared → Prop} {s : Shared} {env : Env}

theorem flight {base : Heap} {e : Addr} {fl : Value} {f : Option Addr} {Q : Unit → Shared → Prop} (he : ExcAt base e (some fl) s.heap) (hb : Gr base s.heap)
    (h : ∀ h', Thru base s.heap h' → ExcAt base e (some (f.elim .none fun f => rawInt f)) h' → Q () { s with heap := h' }) : wpAny M A (setFlight (.ref e) f) Q E s := by
  obtain ⟨hen, oe, vs, ho, hc, hd, T, oT, ts, h1, hT0, hTe, hT, hTd, h3⟩ := he
  unfold setFlight
  refine wpAny_bind (wpAny_field ho hd h1 ?_)
  rw [if_pos (show (Value.ref T != Value.none) = true from by simp)]
  have hsz : 3 < ts.size := (Array.getElem?_eq_some_iff.mp h3).1
  refine wpAny_setField hT hTd hsz (h _ ⟨fun b o e => ?_, fun b o e hn => ?_⟩ ⟨hen, oe, vs, ?_, hc, hd, T, _, _, h1, hT0, hTe, Heap.get?_update_self _ hT (Obj.isFreed_of_fields (Obj.data_mapFields hTd _)), Obj.data_mapFields hTd _, by simp [hsz]⟩)
  · exact (Heap.get?_update_other _ _ (fun q => by rw [← q, hT0] at e; cases e)).trans (hb b o e)
  · refine ⟨o.slots, (Heap.get?_update_other _ _ (fun q => ?_)).trans e⟩
    rw [← q, hT] at e; injection e with e; exact hn ts (e ▸ hTd)
  · exact (Heap.get?_update_other _ _ hTe).trans ho

theorem note_new {base : Heap} {outer : List Env} {L e : Addr} {oe : Obj} {vs : Array Value} {head : Value} {hadNext : Bool} {Q : Unit → Shared → Prop}
    (hfr : A.frames = some (env :: outer)) (hl : s.heap.FunFrames base (env :: outer)) (hf : env.frame = some L) (hb : Gr base s.heap) (hen : base.get? e = none)
    (he : s.heap.get? e = some oe) (hc : oe.cls = .type "StopIteration") (hd : oe.data = .fields vs) (hsz : 1 < vs.size)
    (h : ∀ h', Thru base s.heap h' → ExcAt base e (some (rawInt L)) h' → Q () { s with heap := h' }) :
    wpAny M A (do let a ← frameOf env; let pl ← entryPlaceOf L hadNext; let b ← EntryCells.newEntry head a .none (rawInt L) .none pl; setField (.ref e) 1 b) Q E s := by
  have hene : e ∉ (env :: outer).filterMap (·.frame) := fun hm => by
    obtain ⟨_, o, ho, hnf⟩ := hl.mem hm
    rw [he] at ho; injection ho with ho; subst ho; exact hnf vs hd
  refine wpAny_bind (wpAny_frameOf_fun hfr hl hf fun h₁ hs₁ => ?_)
  refine wpAny_bind (wpAny_entryPlaceOf fun pl hpl => ?_)
  unfold EntryCells.newEntry newFields
  refine wpAny_bind (wpAny_newObj_type ?_ (hpl.sizeOk5 _ _ _ _ _))
  have he₁ : h₁.get? e = some oe := (hs₁.2.1 e hene).trans he
  have hb₁ : Gr base h₁ := fun b o q => (hs₁.2.1 b fun hm => by rw [(hl.mem hm).1] at q; cases q).trans (hb b o q)
  have hTe : h₁.objs.size ≠ e := Nat.ne_of_gt (Heap.lt_size he₁)
  have hT0 : base.get? h₁.objs.size = none := hb₁.fresh (Nat.le_refl _)
  have he₂ := Heap.get?_push_of_some (h := h₁) { cls := .type "traceback", dict := none, data := .fields ([head, .ref L, .none, rawInt L, .none] ++ (if pl.isEmpty then List.replicate 6 Value.none else pl)).toArray } he₁
  have hd₃ := Obj.data_mapFields hd (·.setIfInBounds 1 (Value.ref h₁.objs.size))
  refine wpAny_setField he₂ hd hsz (h _ ⟨fun b o q => ?_, fun b o q hn => ?_⟩ ⟨hen, _, _, Heap.get?_update_self _ he₂ (Obj.isFreed_of_fields hd₃), (Obj.cls_mapFields ..).trans hc, hd₃, h₁.objs.size, _, _, by simp [hsz], hT0, hTe, (Heap.get?_update_other _ _ (Ne.symm hTe)).trans (Heap.get?_push_size h₁ rfl), rfl, by simp⟩)
  · exact (Heap.get?_update_other _ _ (fun q' => by rw [← q', hen] at q; cases q)).trans (Heap.get?_push_of_some _ (hb₁ b o q))
  · obtain ⟨sl, q₁⟩ := hs₁.2.2 b o q
    exact ⟨sl, (Heap.get?_update_other _ _ (fun q' => by rw [← q', he] at q; injection q with q; exact hn vs (q ▸ hd))).trans (Heap.get?_push_of_some _ q₁)⟩

theorem note {base : Heap} {outer : List Env} {L e : Addr} {st : Option Value} {Q : Unit → Shared → Prop}
    (hfr : A.frames = some (env :: outer)) (hl : s.heap.FunFrames base (env :: outer)) (hf : env.frame = some L) (hb : Gr base s.heap) (he : ExcAt base e st s.heap)
    (hst : st = none ∨ st = some .none ∨ st = some (rawInt L)) (h : ∀ h', Thru base s.heap h' → ExcAt base e (some (rawInt L)) h' → Q () { s with heap := h' }) : wpAny M A (noteFrame (.ref e) env) Q E s := by
  rcases hst with rfl | rfl | rfl
  · obtain ⟨hen, oe, vs, ho, hc, hd, h1⟩ := he
    unfold noteFrame
    simp only [hf]
    refine wpAny_bind (wpAny_field ho hd h1 ?_)
    rw [if_neg (by decide)]
    exact note_new hfr hl hf hb hen ho hc hd (Array.getElem?_eq_some_iff.mp h1).1 h
  · obtain ⟨hen, oe, vs, ho, hc, hd, T, oT, ts, h1, hT0, hTe, hT, hTd, h3⟩ := he
    unfold noteFrame
    simp only [hf]
    refine wpAny_bind (wpAny_field ho hd h1 ?_)
    rw [if_pos (show (Value.ref T != Value.none) = true from by simp)]
    refine wpAny_bind (wpAny_field hT hTd h3 ?_)
    rw [if_neg (show ¬ ((Value.none == rawInt L) = true) from by simp [rawInt])]
    refine wpAny_bind (wpAny_setField hT hTd (Array.getElem?_eq_some_iff.mp h3).1 ?_)
    have th : Thru base s.heap (s.heap.update T (Obj.mapFields (·.setIfInBounds 3 Value.none))) := by
      refine ⟨fun b o e => (Heap.get?_update_other _ _ (fun q => by rw [← q, hT0] at e; cases e)).trans (hb b o e), fun b o e hn => ⟨o.slots, (Heap.get?_update_other _ _ (fun q => ?_)).trans e⟩⟩
      rw [← q, hT] at e; injection e with e; exact hn ts (e ▸ hTd)
    exact note_new hfr (th.frames hl) hf th.1 hen ((Heap.get?_update_other _ _ hTe).trans ho) hc hd (Array.getElem?_eq_some_iff.mp h1).1 fun h' th' he' => h h' (th.trans th') he'
  · obtain ⟨hen, oe, vs, ho, hc, hd, T, oT, ts, h1, hT0, hTe, hT, hTd, h3⟩ := id he
    exact wpAny_noteFrame_inFlight hf ho hd h1 hT hTd h3 (h s.heap (Thru.refl hb) he)

/-- an exception at large in the frame of env -/
def Fly (base : Heap) (env : Env) (outer : List Env) (L : Addr) (K : Heap → Prop) (s : Shared) (v : Value) (s' : Shared) : Prop :=
  ∃ e st h' tk, v = .ref e ∧ s' = { s with heap := h', toks := tk } ∧ (st = none ∨ st = some .none ∨ st = some (rawInt L)) ∧ ExcAt base e st h' ∧ Gr base h' ∧ h'.FunFrames base (env :: outer) ∧ K h'

theorem fly_note {base : Heap} {outer : List Env} {L : Addr} {K : Heap → Prop} {s₀ : Shared} {v : Value} {Q : Unit → Shared → Prop} (hfr : A.frames = some (env :: outer)) (hf : env.frame = some L) (hK : ∀ h h', K h → Thru base h h' → K h')
    (x : Fly base env outer L K s₀ v s) (h : ∀ e h' tk, v = .ref e → ExcAt base e (some (rawInt L)) h' → Gr base h' → h'.FunFrames base (env :: outer) → K h' → Q () { s₀ with heap := h', toks := tk }) : wpAny M A (noteFrame v env) Q E s := by
  obtain ⟨e, st, h', tk, rfl, rfl, hst, he, hb, hl, hk⟩ := x
  exact note hfr hl hf hb he hst fun h'' th he' => h e h'' tk rfl he' th.1 (th.frames hl) (hK _ _ hk th)

/-- a while whose body may let an exception fly -/
theorem while_fly {prog : Program} {w : World} {base : Heap} {outer : List Env} {L : Addr} {K : Heap → Prop} {s₀ : Shared} {test : Expr} {body : List Stmt} {pos : Pos} {Q : Flow → Shared → Prop} (hfr : A.frames = some (env :: outer)) (hf : env.frame = some L) (hK : ∀ h h', K h → Thru base h h' → K h')
    (I : Nat → Shared → Prop)
    (turn : ∀ n s, I n s → wpAny (model prog w) A (isTrue test env (eval test env)) (fun b s₂ =>
      if b = true then wpAny (model prog w) A (execs body env) (fun f s₃ => match f with
        | .next | .cont => ∃ k, k < n ∧ I k s₃
        | .brk => Q .next s₃
        | .ret v => Q (.ret v) s₃) (Fly base env outer L K s₀) s₂
      else Q .next s₂) (Fly base env outer L K s₀) s)
    (n : Nat) (h : I n s) : wpAny (model prog w) A (exec (.While test body [] pos) env) Q (Fly base env outer L K s₀) s := by
  have up : ∀ v s', Fly base env outer L K s₀ v s' → notedBy (model prog w) A env (fun e s' => cameBackBy (model prog w) A env (Fly base env outer L K s₀) e s') v s' := fun v s' x => by
    refine fly_note hfr hf hK x fun e h' tk hv he hb hl hk => ?_
    subst hv
    show wpAny _ A (do if (← field (.ref e) 1) == .none then unsupported "frame.own-activation:exception-without-traceback"
                       setFlight (.ref e) env.frame) _ _ _
    obtain ⟨hen, oe, vs, ho, hc, hd, T, oT, ts, h1, r⟩ := id he
    refine wpAny_bind (wpAny_field ho hd h1 ?_)
    rw [if_neg (show ¬ ((Value.ref T == Value.none) = true) from Bool.false_ne_true)]
    rw [hf]
    exact flight (s := { s₀ with heap := h', toks := tk }) he hb fun h'' th he' => ⟨e, _, h'', tk, rfl, rfl, .inr (.inr rfl), he', th.1, th.frames hl, hK _ _ hk th⟩
  refine wpAny_While (codeAny_whileLoop I (fun n s hI => ?_) n h)
  refine wpAny_mono (turn n s hI) (fun b s₂ h₂ => ?_) fun v s' x => up v s' x
  cases b with
  | true =>
    simp only [if_true] at h₂ ⊢
    refine wpAny_mono h₂ (fun f s₃ h₃ => ?_) fun v s' x => up v s' x
    cases f <;> exact h₃
  | false =>
    simp only [Bool.false_eq_true, if_false] at h₂ ⊢
    exact wpAny_execs_nil h₂

/-- an exception leaves the frame -/
theorem fly_leave {base : Heap} {outer : List Env} {L : Addr} {K : Heap → Prop} {s₀ : Shared} {v : Value} {Q : Unit → Shared → Prop} (hfr : A.frames = some (env :: outer)) (hf : env.frame = some L) (hK : ∀ h h', K h → Thru base h h' → K h')
    (x : Fly base env outer L K s₀ v s) (h : ∀ e h' tk, v = .ref e → ExcAt base e (some .none) h' → Gr base h' → h'.FunFrames base (env :: outer) → K h' → Q () { s₀ with heap := h', toks := tk }) : wpAny M A (leaving env v) Q E s := by
  unfold leaving
  refine wpAny_bind (fly_note hfr hf hK x fun e h' tk hv he hb hl hk => ?_)
  subst hv
  exact flight (f := none) (s := { s₀ with heap := h', toks := tk }) he hb fun h'' th he' => h e h'' tk rfl he' th.1 (th.frames hl) (hK _ _ hk th)
end
end Mine

-- Var
open PySem PySem.W PyProof.Rows PySem.Calls PySem.Spec
set_option Elab.async false
set_option maxRecDepth 100000
set_option maxHeartbeats 1000000
namespace Mine
def bit6 (c : Nat) : Bool := c / 64 % 2 == 1
def tStep (st : List Int × Int) (c : Nat) : List Int × Int := if bit6 c = true then (st.1, st.2 * 64 + ((c % 64 : Nat) : Int)) else (st.1 ++ [st.2 * 64 + ((c % 64 : Nat) : Int)], 0)
def tRun (cs : List Nat) : List Int × Int := cs.foldl tStep ([], 0)
theorem tRun_snoc (cs : List Nat) (c : Nat) : tRun (cs ++ [c]) = tStep (tRun cs) c := by simp [tRun]
theorem tRun_take {cs : List Nat} {i c : Nat} (h : cs[i]? = some c) : tRun (cs.take (i + 1)) = tStep (tRun (cs.take i)) c := by
  rw [List.take_add_one, h]; exact tRun_snoc _ _
theorem and64 {c : Nat} (h : c < 256) : (Builtin.bitAnd (c : Int) 64 != 0) = bit6 c := by
  have : ∀ c : Fin 256, (Builtin.bitAnd ((c.val : Nat) : Int) 64 != 0) = bit6 c.val := by decide +kernel
  exact this ⟨c, h⟩
theorem and63 (c : Nat) : Builtin.bitAnd (c : Int) 63 = ((c % 64 : Nat) : Int) := by
  rw [bitAnd_m6]; omega
theorem or_low {v : Int} {k : Nat} (hv : 0 ≤ v) (hk : k < 64) : Builtin.bitOr (v * 2 ^ (6 : Int).toNat) (k : Int) = v * 64 + k := by
  have e : v * 2 ^ (6 : Int).toNat = v * 64 := rfl
  rw [e, bitOr_and]
  have h0 : Builtin.bitAnd (v * 64) (k : Int) = 0 := by
    rw [bitAnd_pp (by omega) (by omega)]
    have e1 : (v * 64).toNat = v.toNat <<< 6 := by rw [Nat.shiftLeft_eq]; omega
    rw [e1, Int.toNat_natCast]
    have : v.toNat <<< 6 &&& k = 0 := by
      apply Nat.eq_of_testBit_eq
      intro j
      rw [Nat.testBit_and, Nat.testBit_shiftLeft, Nat.zero_testBit]
      by_cases hj : 6 ≤ j
      · have : k.testBit j = false := Nat.testBit_lt_two_pow (Nat.lt_of_lt_of_le hk (Nat.pow_le_pow_right (n := 2) (by decide) hj))
        rw [this, Bool.and_false]
      · rw [decide_eq_false (by omega)]; rfl
    rw [this]; rfl
  rw [h0]; omega
def CodesAre (vs : List Value) (cs : List Nat) : Prop := vs.length = cs.length ∧ ∀ (i : Nat) v, vs[i]? = some v → ∃ c t, cs[i]? = some c ∧ v = .int (c : Int) t
theorem gl_next (w : World) : nsIn (hd.heap_39 w.params) mainGlobals (Str.ofString "next") = some none := by rfl
theorem bt_next : bootBuiltins (Str.ofString "next") = some (.builtin "next") := by decide +kernel

section
variable {w : World} {A : Around} {E : Value → Shared → Prop} {s : Shared} {env : Env} {x : Str} {pos : Pos} {v : Value} {Q : Value → Shared → Prop} {m : Str → Option Value}

/-- a def of the top is called; it may raise -/
theorem call_fnE {f : Addr} {o : Obj} {fd : FuncData} {body : List Stmt} {args : List Value} {kw : List (Str × Value)} {binds : List (Str × Value)} (t : Tp w s.heap) (hroom : A.depth < recursionLimit)
    (ho : (hd.heap_39 w.params).lookup f = some o) (hdata : o.data = .func fd) (hcd : codeIn (hd.heap_39 w.params) fd.code fd.qualname = true)
    (hbody : fd.body = .stmts body) (hbind : BindsTo s fd ⟨args, kw⟩ binds)
    (hcell : ∀ x ∈ fd.scope.names, x.2 ≠ .cell) (hloc : ∀ x ∈ binds, fd.scope.names.lookup x.1 = some .local)
    (h : ∀ L h₁, L = s.heap.objs.size → Fr s.heap L h₁ (fun x => binds.reverse.lookup x) → Tp w s.heap →
      wpAny (model PG w) (A.deeper (callEnv fd L f)) (execs body (callEnv fd L f)) (fun fl s' => Q (match fl with | .ret v => v | _ => .none) s')
        (fun e s' => wpAny (model PG w) (A.deeper (callEnv fd L f)) (leaving (callEnv fd L f) e) (fun _ s'' => E e s'') (fun e' s'' => E e' s'') s') { s with heap := h₁, toks := s.toks + binds.length })
    (hco : fd.scope.isCoroutine = false) (hgen : fd.scope.isGenerator = false) (hk : fd.scope.kind = .function) :
    wpAny (model PG w) A (call (.ref f) args kw) Q E s := by
  refine wpAny_call (codeAny_call_def hroom (t.X _ _ ho) hdata t.nolimit (codeRec_of t.X hcd) hbody hbind hcell hloc (fun h₁ hn hk₁ => ?_) hco hgen hk)
  exact h _ h₁ rfl ⟨hn, hk₁, Nat.le_refl _⟩ t

theorem raise_here {base : Heap} {env : Env} {outer : List Env} {L it : Addr} {s₀ : Shared} {hc h' : Heap} {m : Str → Option Value} {e : Addr} {tk : Nat} {P : Prop}
    (hf : env.frame = some L) (hk : env.scope.kind = .function) (F : Fr base L hc m) (hit0 : base.get? it = none) (hLit : L ≠ it) (hL0 : base.get? L = none)
    (hff : s₀.heap.FunFrames base outer) (hitf : ∃ o vs, s₀.heap.get? it = some o ∧ o.data = .fields vs) (kI : Bt it s₀.heap hc) (kb : Bt it hc h') (hn : NewStop hc h' e) (hP : P) :
    Fly base env outer L (fun h' => Thru base s₀.heap h' ∧ P) s₀ (.ref e) { s₀ with heap := h', toks := tk } := by
  have g' : Gr base h' := fun b o q => kb b o (fun q' => by rw [q', hit0] at q; cases q) (F.keep b o q)
  have th : Thru base s₀.heap h' := ⟨g', fun b o q hd => ⟨o.slots, by
    have hne : b ≠ it := fun q' => by
      obtain ⟨o', vs, e', hd'⟩ := hitf
      rw [q', e'] at q; injection q with q; exact hd vs (q ▸ hd')
    exact kb b o hne (kI b o hne q)⟩⟩
  obtain ⟨hen, oe, vs, ho, hc', hd, h1⟩ := hn
  exact ⟨e, none, h', tk, rfl, rfl, .inl rfl, ⟨Gr.no F.keep hen, oe, vs, ho, hc', hd, h1⟩, g', .cons (by rw [hk]; decide) hf (F.ns.at' fun o q => kb L o hLit q) hL0 (th.frames hff), th, hP⟩

theorem c_varint {base : Heap} {outer : List Env} {it l : Addr} {vs : List Value} {cs : List Nat} {i : Nat} {dn : List Int} {Q : Value → Shared → Prop} (t : Tp w base) (hA : A.handled = none) (hroom : A.depth < recursionLimit)
    (hfr : A.frames = some outer) (hb : Gr base s.heap) (hbs : base.objs.size ≤ s.heap.objs.size) (hff : s.heap.FunFrames base outer) (hit0 : base.get? it = none)
    (hit : s.heap.IsListIter it l i) (hli : l ≠ it) (hl : s.heap.IsList l vs.toArray) (hcs : CodesAre vs cs) (h256 : ∀ c ∈ cs, c < 256) (hlen : cs.length ≤ 1000) (hi : i ≤ cs.length) (hT : tRun (cs.take i) = (dn, 0))
    (h : ∀ j v h' t' tk', i < j → j ≤ cs.length → tRun (cs.take j) = (dn ++ [v], 0) → h'.IsListIter it l j → Bt it s.heap h' → Q (.int v t') { s with heap := h', toks := tk' })
    (hE : ∀ e h' tk', (tRun cs).1 = dn → ExcAt base e (some .none) h' → Thru base s.heap h' → E (.ref e) { s with heap := h', toks := tk' }) :
    wpAny (model PG w) A (call (.ref 28) [.ref it]) Q E s := by
  have hfill : Fill PySem.Challenge.rw_ny0023_01 hd.heap_39 := by (k_fill; trivial)
  refine call_fnE (binds := [(Str.ofString "iterator", .ref it)]) (t.keeps hb) hroom (by k_is) rfl (by k_is) rfl (BindsTo.of_eq rfl) (by decide) (locs rfl) ?_ rfl rfl rfl
  intro L h₁ hL F t₀
  clear hfill
  have hitlt : it < s.heap.objs.size := by obtain ⟨o, e, _⟩ := hit; exact Heap.lt_size e
  have hLit : L ≠ it := by rw [hL]; exact Nat.ne_of_gt hitlt
  have hL0 : base.get? L = none := fresh_none (by rw [hL]; exact hbs)
  have Fb : Fr base L h₁ (fun x => List.lookup x [(Str.ofString "iterator", Value.ref it)].reverse) := ⟨F.ns, hb.trans F.keep, by rw [hL]; exact hbs⟩
  have k₁ : Bt it s.heap h₁ := fun b o _ e => F.keep b o e
  have hit₁ : h₁.IsListIter it l i := by obtain ⟨o, e, r⟩ := hit; exact ⟨o, F.keep _ _ e, r⟩
  have hlk : ∀ hc, Bt it s.heap hc → hc.IsList l vs.toArray := fun hc k => hl.at fun o e => k l o hli e
  clear F
  refine wpAny_mono (?_ : wpAny _ _ _ _ (Fly base _ outer L (fun h' => Thru base s.heap h' ∧ (tRun cs).1 = dn) s) _) (fun _ _ q => q) (fun v s' x => fly_leave (Around.frames_deeper hfr) rfl ?_ x fun e h' tk hv he hb' hl' hk => ?_)
  rotate_left
  · exact fun a b q th => ⟨q.1.trans th, q.2⟩
  · rw [hv]
    exact hE e h' tk hk.2 he hk.1
  have hitf : ∃ o vs, s.heap.get? it = some o ∧ o.data = .fields vs := let ⟨o, e, _, hd⟩ := hit; ⟨o, _, e, hd⟩
  refine ex_assign (Call_ (nm_boot (t.keeps Fb.keep) (gl_next w) bt_next (PyProof.Rows.callWith_builtin1 (args_cons (nm_local Fb.ns rfl (args_nil ?_))))))
  by_cases hin : i < cs.length
  · have hin' : i < vs.length := by rw [hcs.1]; exact hin
    have hci := hcs.2 i vs[i] (by simp [hin'])
    obtain ⟨c, tc, hc, hv⟩ := hci
    refine next_item hit₁ (hlk h₁ k₁) (x := .int (c : Int) tc) (by rw [← hv]; simp [hin']) fun h₂ hit₂ hb₂ => ?_
    have k₂ : Bt it s.heap h₂ := fun b o hb' e => hb₂ b o hb' (k₁ b o hb' e)
    have F₂ := bt_fr Fb hb₂ hLit hit0
    refine st_local F₂ fun h₃ F₃ b₃ => ?_
    dsimp only at F₃ b₃ ⊢
    have upL : ∀ {ha hb' : Heap}, Bt it s.heap ha → Bt L ha hb' → Bt it s.heap hb' := fun ka kb b o hb' e => kb b o (fun q => by rw [q, hL] at e; exact absurd (Heap.lt_size e) (Nat.lt_irrefl _)) (ka b o hb' e)
    have upI : ∀ {ha hb' : Heap} {j}, ha.IsListIter it l j → Bt L ha hb' → hb'.IsListIter it l j := fun x kb => let ⟨o, e, r⟩ := x; ⟨o, kb it o (Ne.symm hLit) e, r⟩
    refine ex_assign (wpAny_BinOp (nm_local F₃.ns upd_eq (wpAny_Constant_int (and_int ?_))))
    refine st_local F₃ fun h₄ F₄ b₄ => ?_
    dsimp only at F₄ b₄ ⊢
    rw [and63] at F₄
    refine wpAny_execs_cons (while_fly (Around.frames_deeper hfr) rfl (fun a b q th => ⟨q.1.trans th, q.2⟩)
      (fun n s' => ∃ h' tk j b v0 m tb tv, s' = { s with heap := h', toks := tk } ∧ n = cs.length - j ∧ i ≤ j ∧ j < cs.length ∧ cs[j]? = some b ∧ tRun (cs.take j) = (dn, v0) ∧ 0 ≤ v0 ∧ v0 < 64 ^ j ∧ Fr base L h' m ∧
        m (Str.ofString "iterator") = some (.ref it) ∧ m (Str.ofString "b") = some (.int ((b : Nat) : Int) tb) ∧ m (Str.ofString "val") = some (.int (v0 * 64 + ((b % 64 : Nat) : Int)) tv) ∧ h'.IsListIter it l (j + 1) ∧ Bt it s.heap h') ?_ (cs.length - i)
      ⟨h₄, _, i, c, 0, _, _, _, rfl, rfl, Nat.le_refl _, hin, hc, hT, Int.le_refl _, Int.pow_pos (by decide), F₄, upd_ne (upd_ne rfl), upd_ne upd_eq, by rw [Int.zero_mul, Int.zero_add]; exact upd_eq, upI (upI hit₂ b₃) b₄, upL (upL k₂ b₃) b₄⟩)
    rintro n s' ⟨h₅, tk₅, j, b, v0, m, tb, tv, rfl, rfl, hij, hj, hbj, hTj, hv0, hv1, F₅, m1, m2, m3, hit₅, k₅⟩
    have hb256 : b < 256 := h256 b (List.mem_of_getElem? hbj)
    refine wpAny_isTrue_value (wpAny_BinOp (nm_local F₅.ns m2 (wpAny_Constant_int (and_int ?_))))
    refine truthy_int ?_
    rw [and64 hb256]
    have hstep := tRun_take hbj
    rw [hTj] at hstep
    unfold tStep at hstep
    cases h6 : bit6 b with
    | false =>
      rw [h6] at hstep
      simp only [Bool.false_eq_true, if_false] at hstep
      refine ite_neg Bool.false_ne_true ?_
      refine ex_ret (nm_local F₅.ns m3 ?_)
      exact h (j + 1) _ h₅ _ _ (by omega) hj hstep hit₅ k₅
    | true =>
      rw [h6] at hstep
      simp only [if_true] at hstep
      refine ite_pos rfl ?_
      have hex : ∃ v : Int, v = v0 * 64 + ((b % 64 : Nat) : Int) := ⟨_, rfl⟩
      obtain ⟨v, hv'⟩ := hex
      rw [← hv'] at m3 hstep
      have hvb : 0 ≤ v ∧ v < 64 ^ (j + 1) := by
        rw [Int.pow_succ, hv']
        have : b % 64 < 64 := Nat.mod_lt _ (by decide)
        omega
      clear hv'
      have hbits : (Builtin.Int.intBits v : Int) + 6 ≤ 2 ^ 27 := by
        have e64 : (64 : Int) ^ (j + 1) = ((2 ^ (6 * (j + 1)) : Nat) : Int) := by
          rw [Nat.pow_mul]; simp
        have hlt : v.natAbs < 2 ^ (6 * (j + 1)) := by
          have := hvb.2
          rw [e64] at this
          omega
        have := intBits_le hlt
        omega
      refine wpAny_execs_cons (wpAny_AugAssign_Name (wpAny_loadName_local rfl rfl F₅.ns m3 (wpAny_Constant_int (ilshift_int (by decide) hbits ?_))))
      refine st_local F₅ fun h₆ F₆ b₆ => ?_
      dsimp only at F₆ b₆ ⊢
      refine ex_assign (Call_ (nm_boot (t.keeps F₆.keep) (gl_next w) bt_next (PyProof.Rows.callWith_builtin1 (args_cons (nm_local F₆.ns (upd_ne m1) (args_nil ?_))))))
      have k₆ := upL k₅ b₆
      have hit₆ := upI hit₅ b₆
      by_cases hjn : j + 1 < cs.length
      · have hjn' : j + 1 < vs.length := by rw [hcs.1]; exact hjn
        have hcj := hcs.2 (j + 1) vs[j + 1] (by simp [hjn'])
        obtain ⟨c', tc', hc', hvc'⟩ := hcj
        refine next_item hit₆ (hlk h₆ k₆) (x := .int (c' : Int) tc') (by rw [← hvc']; simp [hjn']) fun h₇ hit₇ hb₇ => ?_
        have k₇ : Bt it s.heap h₇ := fun b o hb' e => hb₇ b o hb' (k₆ b o hb' e)
        have F₇ := bt_fr F₆ hb₇ hLit hit0
        refine st_local F₇ fun h₈ F₈ b₈ => ?_
        dsimp only at F₈ b₈ ⊢
        refine wpAny_execs_cons (wpAny_AugAssign_Name (wpAny_loadName_local rfl rfl F₈.ns (upd_ne upd_eq) (wpAny_BinOp (nm_local F₈.ns upd_eq (wpAny_Constant_int (and_int ?_))))))
        rw [and63]
        refine ior_int ?_
        rw [or_low hvb.1 (Nat.mod_lt _ (by decide))]
        refine st_local F₈ fun h₉ F₉ b₉ => wpAny_execs_nil ?_
        refine ⟨cs.length - (j + 1), by omega, h₉, _, j + 1, c', v, _, _, _, rfl, rfl, by omega, hjn, hc', hstep, hvb.1, hvb.2, F₉, upd_ne (upd_ne (upd_ne m1)), upd_ne upd_eq, upd_eq, upI (upI hit₇ b₈) b₉, upL (upL k₇ b₈) b₉⟩
      · refine next_end (A := _) hA hit₆ (hlk h₆ k₆) (by rw [List.getElem?_toArray]; exact List.getElem?_eq_none (by rw [hcs.1]; omega)) fun h' e hb' hn => ?_
        refine raise_here rfl rfl F₆ hit0 hLit hL0 hff hitf k₆ hb' hn ?_
        have : cs.take (j + 1) = cs := List.take_of_length_le (by omega)
        rw [this] at hstep
        rw [hstep]
  · have hi' : i = cs.length := by omega
    refine next_end (A := _) hA hit₁ (hlk h₁ k₁) (by rw [List.getElem?_toArray]; exact List.getElem?_eq_none (by rw [hcs.1]; omega)) fun h' e hb' hn => ?_
    refine raise_here rfl rfl Fb hit0 hLit hL0 hff hitf k₁ hb' hn ?_
    rw [hi', List.take_of_length_le (Nat.le_refl _)] at hT
    rw [hT]
end
end Mine

-- Told
open PySem PySem.W PyProof.Rows PySem.Calls PySem.Spec
set_option Elab.async false
set_option maxRecDepth 100000
set_option maxHeartbeats 1000000
namespace Mine
theorem gl_iter (w : World) : nsIn (hd.heap_39 w.params) mainGlobals (Str.ofString "iter") = some none := by rfl
theorem bt_iter : bootBuiltins (Str.ofString "iter") = some (.builtin "iter") := by decide +kernel
theorem gl_stop (w : World) : nsIn (hd.heap_39 w.params) mainGlobals (Str.ofString "StopIteration") = some none := by rfl
theorem bt_stop : bootBuiltins (Str.ofString "StopIteration") = some (.type "StopIteration") := by decide +kernel
theorem gl_varint (w : World) : nsIn (hd.heap_39 w.params) mainGlobals (Str.ofString "_parse_varint") = some (some (.ref 28)) := by rfl
theorem stop_exc : isSubtype (.type "StopIteration") (.type "BaseException") = pure true := by rw [isSubtype_type]; kernel_rfl
theorem stop_nt : isSubtype (.type ((Manifest.find? "StopIteration").elim "type" fun x => x.metatype)) (.type "tuple") = pure false := by
  rw [isSubtype_type]; kernel_rfl
theorem stop_sub : isSubtype (.type "StopIteration") (.type "StopIteration") = pure true := by rw [isSubtype_type]; kernel_rfl
theorem tFold_len : ∀ (cs : List Nat) (st : List Int × Int), (cs.foldl tStep st).1.length ≤ st.1.length + cs.length
  | [], _ => Nat.le_refl _
  | c :: cs, st => by
    have ih := tFold_len cs (tStep st c)
    have h1 : (tStep st c).1.length ≤ st.1.length + 1 := by
      unfold tStep
      split
      · show st.1.length ≤ _; omega
      · show (st.1 ++ [_]).length ≤ _; rw [List.length_append, List.length_singleton]; omega
    rw [List.foldl_cons, List.length_cons]
    omega
theorem tRun_len (cs : List Nat) : (tRun cs).1.length ≤ cs.length := by
  have := tFold_len cs ([], 0)
  simpa [tRun] using this

section
variable {w : World} {A : Around} {E : Value → Shared → Prop} {s : Shared} {env : Env}

theorem Thru.of_gr {base h h' : Heap} (gb : Gr base h) (g : Gr h h') : Thru base h h' := ⟨gb.trans g, fun b o e _ => ⟨o.slots, g b o e⟩⟩

theorem c_told {base : Heap} {outer : List Env} {l : Addr} {vs : List Value} {cs : List Nat} {Q : Value → Shared → Prop} (t : Tp w base) (hA : A.handled = none) (hroom : A.depth + 1 < recursionLimit)
    (hfr : A.frames = some outer) (hb : Gr base s.heap) (hbs : base.objs.size ≤ s.heap.objs.size) (hff : s.heap.FunFrames base outer)
    (hl : s.heap.IsList l vs.toArray) (hcs : CodesAre vs cs) (h256 : ∀ c ∈ cs, c < 256) (hlen : cs.length ≤ 1000)
    (h : ∀ O h' tk' ys, Thru base s.heap h' → h'.IsList O (List.toArray ys) → IntsAre ys (tRun cs).1 → Q (.ref O) { s with heap := h', toks := tk' }) :
    wpAny (model PG w) A (call (.ref 79) [.ref l]) Q E s := by
  have hfill : Fill PySem.Challenge.rw_ny0023_01 hd.heap_39 := by (k_fill; trivial)
  refine call_fn (binds := [(Str.ofString "signs", .ref l)]) (t.keeps hb) (by omega) (by k_is) rfl (by k_is) rfl (BindsTo.of_eq rfl) (by decide) (locs rfl) ?_ rfl rfl rfl
  intro L h₁ hL F t₀
  have ho28 : ∃ o fd, (hd.heap_39 w.params).lookup 28 = some o ∧ o.data = .func fd := ⟨_, _, by k_is, rfl⟩
  obtain ⟨o28, fd28, ho28, hd28⟩ := ho28
  clear hfill
  have hllt : l < s.heap.objs.size := by obtain ⟨_, e, _⟩ := hl; exact Heap.lt_size e
  have hL0 : base.get? L = none := fresh_none (by rw [hL]; exact hbs)
  refine ex_assign (List_ (args_nil (wpAny_newObj_type ?_)))
  have F₂ := F.push { cls := .type "list", data := .seq #[] }
  have hO : (h₁.push { cls := .type "list", data := .seq #[] }).PlainList h₁.objs.size #[] := ⟨0, Heap.get?_push_size _ rfl⟩
  have hOL : h₁.objs.size ≠ L := Nat.ne_of_gt F.ns.lt
  have hOn : s.heap.get? h₁.objs.size = none := Gr.fresh F.keep (Nat.le_refl _)
  refine st_local F₂ fun h₃ F₃ k₃ => ?_
  have hO₃ : h₃.PlainList h₁.objs.size #[] := hO.at fun o e => k₃ h₁.objs.size o hOL e
  dsimp only at F₃ ⊢
  have hex : ∃ O, O = h₁.objs.size := ⟨_, rfl⟩
  obtain ⟨O, eO⟩ := hex
  rw [← eO] at hO₃ hOL hOn F₃
  clear k₃ hO F₂
  refine ex_assign (Call_ (nm_boot (t₀.fr F₃) (gl_iter w) bt_iter (PyProof.Rows.callWith_builtin1 (args_cons (nm_local F₃.ns (upd_ne rfl) (args_nil ?_))))))
  refine iter_list (Gr.list F₃.keep hl) ?_
  have F₄ := F₃.push { cls := .type "list_iterator", data := .fields #[.ref l, .int 0 0] }
  have hI₄ : (h₃.push { cls := .type "list_iterator", data := .fields #[.ref l, .int 0 0] }).IsListIter h₃.objs.size l 0 := ⟨_, Heap.get?_push_size _ rfl, rfl, rfl⟩
  have hIL : h₃.objs.size ≠ L := Nat.ne_of_gt F₃.ns.lt
  have hIO : h₃.objs.size ≠ O := Nat.ne_of_gt (by obtain ⟨_, e⟩ := pl_get hO₃; exact Heap.lt_size e)
  have hIn : s.heap.get? h₃.objs.size = none := Gr.fresh F₃.keep (Nat.le_refl _)
  have hO₄ := hO₃.at (h' := h₃.push { cls := .type "list_iterator", data := .fields #[.ref l, .int 0 0] }) fun o e => Heap.get?_push_of_some _ e
  dsimp only
  have hex2 : ∃ it, it = h₃.objs.size := ⟨_, rfl⟩
  obtain ⟨it, eI⟩ := hex2
  rw [← eI] at hI₄ hIL hIO hIn
  refine st_local F₄ fun h₅ F₅ k₅ => ?_
  have hO₅ : h₅.PlainList O #[] := hO₄.at fun o e => k₅ O o hOL e
  have hI₅ : h₅.IsListIter it l 0 := by obtain ⟨o, e, r⟩ := hI₄; exact ⟨o, k₅ it o hIL e, r⟩
  dsimp only at F₅ ⊢
  rw [← eI] at F₅
  clear k₅ hO₄ hI₄ F₄ hO₃ F₃
  have hli : l ≠ it := fun q => by rw [q] at hllt; obtain ⟨o, e, _⟩ := hl; rw [q, hIn] at e; cases e
  have hit0 : base.get? it = none := Gr.no hb hIn
  refine wpAny_execs_cons (wpAny_Try_except ?_)
  refine wpAny_mono (E := Fly base _ outer L (fun h' => ∃ m ys, h'.Ns L m ∧ m (Str.ofString "told") = some (.ref O) ∧ h'.IsList O (List.toArray ys) ∧ IntsAre ys (tRun cs).1 ∧ Thru base s.heap h') s) (wpAny_execs_cons (while_fly (Around.frames_deeper hfr) rfl ?hK
    (fun n s' => ∃ h' tk i m ys, s' = { s with heap := h', toks := tk } ∧ n = cs.length - i ∧ i ≤ cs.length ∧ Fr s.heap L h' m ∧ m (Str.ofString "told") = some (.ref O) ∧ m (Str.ofString "left") = some (.ref it) ∧ h'.PlainList O (List.toArray ys) ∧ IntsAre ys (tRun (cs.take i)).1 ∧ (tRun (cs.take i)).2 = 0 ∧ h'.IsListIter it l i) ?turn cs.length
    ⟨h₅, _, 0, _, [], rfl, rfl, Nat.zero_le _, F₅, upd_ne upd_eq, upd_eq, hO₅, IntsAre.nil, rfl, hI₅⟩)) (fun _ _ q => q) (fun v s' x => ?land)
  case hK =>
    rintro a b ⟨m, ys, x1, x2, x3, x4, x5⟩ th
    exact ⟨m, ys, th.ns x1, x2, th.list x3, x4, x5.trans th⟩
  case turn =>
    rintro n s' ⟨hc, tkc, i, m, ys, rfl, rfl, hi, Fc, m1, m2, hOc, hys, hz, hic⟩
    refine wpAny_isTrue_value (wpAny_Constant_bool (wpAny_truthy_bool (ite_pos rfl ?_)))
    have gc : Gr base hc := hb.trans Fc.keep
    have hff' : hc.FunFrames base outer := hff.of_keeps fun b o e _ => ⟨o, Fc.keep b o e, rfl⟩
    have hex3 : ∃ dn, dn = (tRun (cs.take i)).1 := ⟨_, rfl⟩
    obtain ⟨dn, hdn⟩ := hex3
    have hT : tRun (cs.take i) = (dn, 0) := by rw [hdn, ← hz]
    rw [← hdn] at hys
    have hyl : ys.length ≤ 1000 := by
      rw [hys.length, hdn]
      have := tRun_len (cs.take i)
      rw [List.length_take] at this
      omega
    refine ex_append Fc.ns m1 hOc (call_nm (t.keeps gc) (gl_varint w) ho28 hd28 (args_cons (nm_local Fc.ns m2 (args_nil ⟨t.keeps gc, ?_⟩))))
    refine c_varint (base := base) t hA (by show A.depth + 1 < _; omega) (Around.frames_deeper hfr) gc (Nat.le_of_lt (Nat.lt_of_le_of_lt (by rw [hL]; exact hbs) Fc.ns.lt)) (.cons ?_ rfl Fc.ns hL0 hff') hit0 hic hli (Gr.list Fc.keep hl) hcs h256 hlen hi hT ?_ ?_
    · exact fun q => nomatch q
    · intro j v h₆ t₆ tk₆ hij hj hTj hi₆ b₆
      have hO₆ : h₆.PlainList O ys.toArray := hOc.at fun o e => b₆ O o (Ne.symm hIO) e
      have F₆ := bt_fr Fc b₆ (Ne.symm hIL) hIn
      refine ⟨_, hO₆, ?_, fun h₇ hO₇ b₇ => wpAny_execs_nil ?_⟩
      · rw [List.size_toArray]; exact Nat.le_trans hyl (by decide)
      · rw [List.push_toArray] at hO₇
        refine ⟨cs.length - j, by omega, h₇, _, j, m, ys ++ [.int v t₆], rfl, rfl, hj, bt_fr F₆ b₇ (Ne.symm hOL) hOn, m1, m2, hO₇, ?_, by rw [hTj], ?_⟩
        · rw [hTj]; exact hys.append (IntsAre.cons _ _ IntsAre.nil)
        · obtain ⟨o, e, r⟩ := hi₆; exact ⟨o, b₇ it o hIO e, r⟩
    · intro e h₆ tk₆ hend he th
      refine ⟨e, some .none, h₆, tk₆, rfl, rfl, .inr (.inl rfl), he, th.1, th.frames (.cons (fun q => nomatch q) rfl Fc.ns hL0 hff'), m, ys, th.ns Fc.ns, m1, th.list hOc.isList, ?_, (Thru.of_gr hb Fc.keep).trans th⟩
      rw [hend]; exact hys
  case land =>
    refine fly_note (Around.frames_deeper hfr) rfl ?_ x fun e h₆ tk₆ hv he hb₆ hl₆ hk₆ => ?_
    · rintro a b ⟨m, ys, x1, x2, x3, x4, x5⟩ th
      exact ⟨m, ys, th.ns x1, x2, th.list x3, x4, x5.trans th⟩
    subst hv
    obtain ⟨m, ys, x1, x2, x3, x4, x5⟩ := hk₆
    refine flight (f := none) (s := { s with heap := h₆, toks := tk₆ }) he hb₆ fun h₇ th₇ he₇ => ?_
    refine wpAny_handleBy_builtin (X := "StopIteration") (T := "StopIteration") (b := true) stop_exc stop_nt stop_sub ?_
    refine nm_boot (t.keeps th₇.1) (gl_stop w) bt_stop ⟨rfl, ?_, ?_⟩
    · obtain ⟨_, oe, _, ho, hc, _⟩ := he₇
      exact ⟨oe, ho, hc⟩
    rw [if_pos rfl]
    refine flight (f := none) (s := { s with heap := h₇, toks := tk₆ }) he₇ th₇.1 fun h₈ th₈ he₈ => ?_
    refine ex_ret (nm_local (th₈.ns (th₇.ns x1)) x2 ?_)
    exact h O h₈ tk₆ ys ((x5.trans th₇).trans th₈) (th₈.list (th₇.list x3)) x4
end
end Mine

-- Law1
open PySem PySem.W PyProof.Rows PySem.Calls PySem.Spec
set_option Elab.async false
set_option maxRecDepth 100000
set_option maxHeartbeats 1000000
namespace Mine
section
variable {w : World} {A : Around} {E : Value → Shared → Prop} {s : Shared} {env : Env}

theorem ints_at {ys : List Value} {ns : List Int} {i : Nat} {v : Value} (h : IntsAre ys ns) (e : ys[i]? = some v) : ∃ n t, ns[i]? = some n ∧ v = .int n t := by
  induction h generalizing i with
  | nil => simp at e
  | cons n t r ih =>
    cases i with
    | zero => simp at e; subst e; exact ⟨n, t, rfl, rfl⟩
    | succ i =>
      obtain ⟨n', t', a, b⟩ := ih (i := i) (by simpa using e)
      exact ⟨n', t', by simpa using a, b⟩

/-- two lists of the same numbers do not differ -/
theorem ne_ints_same {l b : Addr} {ys zs : List Value} {ns : List Int} {Q : Value → Shared → Prop} (hl : s.heap.IsList l ys.toArray) (hb : s.heap.IsList b zs.toArray) (hy : IntsAre ys ns) (hz : IntsAre zs ns) (hu : A.units < cLine)
    (h : Q (.bool false) s) : wpAny (model PG w) A (compareOp .NotEq (.ref l) (.ref b)) Q E s := by
  show wpAny _ _ (richCompare .NotEq _ _) _ _ _
  have hsz : ys.toArray.size = zs.toArray.size := by rw [List.size_toArray, List.size_toArray, hy.length, hz.length]
  refine SeqAt.RcNeAt.lists (e := fun _ => true) hl hb hsz hu (fun j h1 h2 => ?_) PG w E Q ?_
  · obtain ⟨n, t, e1, e2⟩ := ints_at (i := j) hy (v := ys.toArray[j]) (by simp)
    obtain ⟨n', t', e1', e2'⟩ := ints_at (i := j) hz (v := zs.toArray[j]) (by simp)
    rw [e1] at e1'
    injection e1' with e1'
    subst e1'
    rw [e2, e2']
    exact fun prog w E Q h => wpAny_eqBool_int (by rw [beq_self_eq_true]; exact h)
  · have : (List.range ys.toArray.size).all (fun _ => true) = true := by simp
    rw [this]; exact h
/-- two lists put together -/
theorem add_two {l b : Addr} {ys zs : List Value} {Q : Value → Shared → Prop} (hl : s.heap.IsList l ys.toArray) (hb : s.heap.IsList b zs.toArray) (hsz : ys.length + zs.length ≤ sizeLine)
    (h : ∀ D h', s.heap.get? D = none → Gr s.heap h' → h'.IsList D (ys ++ zs).toArray → Q (.ref D) { s with heap := h' }) : wpAny (model PG w) A (binaryOp .Add (.ref l) (.ref b)) Q E s := by
  obtain ⟨⟨cls, dd, data, sl⟩, ho, hc, n, hd⟩ := id hl
  obtain ⟨⟨cls2, dd2, data2, sl2⟩, ho2, hc2, n2, hd2⟩ := id hb
  simp only at hc hd hc2 hd2
  subst hc hd hc2 hd2
  have e : ys.toArray ++ zs.toArray = (ys ++ zs).toArray := by simp
  refine concat_meets ⟨_, ho, rfl⟩ ⟨_, ho2, rfl⟩ noFill_list_add seq_list_add PySem.F.slot_list_add PySem.F.entry_list_add (PySem.F.args_list_add_2 _ _) (list_addW l b ys.toArray zs.toArray n n2 dd dd2 sl sl2 (by simpa using hsz)) ⟨ho, ho2, ?_⟩
  rw [e]
  exact h _ _ (fresh_none (Nat.le_refl _)) (Gr.push _ _) ⟨_, Heap.get?_push_size _ rfl, rfl, 0, rfl⟩

theorem size_up {a b : Int} (h : a ≤ b) : Builtin.Range.rangeSize a b 1 = (((b - a).toNat : Nat) : Int) := by
  unfold Builtin.Range.rangeSize
  rw [if_pos (by decide)]
  split
  · rw [Int.ediv_one]; omega
  · omega
theorem small_up {a b : Int} (h0 : 0 ≤ a) (h : a ≤ b) (h2 : b ≤ 1000) : Builtin.Range.small a b 1 = true := by
  unfold Builtin.Range.small
  rw [size_up h]
  unfold Builtin.Range.rangeFitsLong
  rw [if_pos (by decide)]
  simp only [Bool.and_eq_true, Bool.or_eq_true, decide_eq_true_eq]
  omega
theorem it_up1 {x : Str} {px : Pos} {hb : Heap} {n : Nat} {t : Tok} {Q : Value → Shared → Prop} (h1 : n ≤ 1000) (hA : A.handled = none) (hsz : Gr hb s.heap)
    (h : ∀ it s₂, Upd s s₂ → SrcN w A (.Name x px) hb n (fun i v _ => ∃ t, v = .int (i : Int) t) it s₂ → Q it s₂) :
    wpAny (model PG w) A (call (.type "range") [.int (n : Int) t]) (fun xv s₁ => wpAny (model PG w) A (pyIter xv) Q E s₁) E s := by
  refine call_range_1 ?_
  refine it_range (x := x) (px := px) (n := n) hA (hsz.trans (Gr.push _ _)) (Heap.get?_push_size _ rfl) (small_up (Int.le_refl _) (by omega) (by omega)) (by rw [size_up (by omega)]; simp) fun it s₂ u' hs => h it s₂ ?_ ?_
  · obtain ⟨hu, tku, e, gu⟩ := u'
    exact ⟨hu, tku, e, (Gr.push _ _).trans gu⟩
  · have e : (fun (i : Nat) (v : Value) (_ : Heap) => ∃ t, v = Value.int (0 + (i : Int) * 1) t) = fun i v _ => ∃ t, v = .int (i : Int) t := by
      funext i v _; rw [Int.zero_add, Int.mul_one]
    rw [e] at hs; exact hs
theorem it_up2 {x : Str} {px : Pos} {hb : Heap} {a b : Nat} {t u : Tok} {Q : Value → Shared → Prop} (hab : a ≤ b) (h1 : b ≤ 1000) (hA : A.handled = none) (hsz : Gr hb s.heap)
    (h : ∀ it s₂, Upd s s₂ → SrcN w A (.Name x px) hb (b - a) (fun i v _ => ∃ t, v = .int ((a + i : Nat) : Int) t) it s₂ → Q it s₂) :
    wpAny (model PG w) A (call (.type "range") [.int (a : Int) t, .int (b : Int) u]) (fun xv s₁ => wpAny (model PG w) A (pyIter xv) Q E s₁) E s := by
  refine call_range_2 ?_
  refine it_range (x := x) (px := px) (n := b - a) hA (hsz.trans (Gr.push _ _)) (Heap.get?_push_size _ rfl) (small_up (by omega) (by omega) (by omega)) (by rw [size_up (by omega)]; omega) fun it s₂ u' hs => h it s₂ ?_ ?_
  · obtain ⟨hu, tku, e, gu⟩ := u'
    exact ⟨hu, tku, e, (Gr.push _ _).trans gu⟩
  · have e : (fun (i : Nat) (v : Value) (_ : Heap) => ∃ t, v = Value.int ((a : Int) + (i : Int) * 1) t) = fun i v _ => ∃ t, v = .int ((a + i : Nat) : Int) t := by
      funext i v _; rw [Int.mul_one]; rfl
    rw [e] at hs; exact hs
end
end Mine

-- Law1b
open PySem PySem.W PyProof.Rows PySem.Calls PySem.Spec
set_option Elab.async false
set_option maxRecDepth 100000
set_option maxHeartbeats 1000000
namespace Mine
theorem stored_new {kvs : List (Int × Value)} {k : Int} {y : Value} (h : ∀ p ∈ kvs, p.1 ≠ k) : stored kvs k y = kvs ++ [(k, y)] := by
  unfold stored
  rw [if_neg]
  intro q
  obtain ⟨p, hp, e⟩ := List.any_eq_true.mp q
  exact h p hp (of_decide_eq_true e)
/-- the table of a row of values by 0, 1, 2 and so on -/
theorem stored_row {G : Nat → Value → Prop} {vs : List Value} {kvs : List (Int × Value)} (hs : StoredAll (K := Int) (fun v k => ∃ t, v = .int k t) (fun v y => ∃ (i : Nat) (t : Tok), v = .int (i : Int) t ∧ G i y) vs kvs)
    (hv : ∀ (j : Nat) v, vs[j]? = some v → ∃ t, v = .int (j : Int) t) : kvs.length = vs.length ∧ ∀ (j : Nat) p, kvs[j]? = some p → p.1 = (j : Int) ∧ G j p.2 := by
  induction hs with
  | nil => exact ⟨rfl, fun j p e => by simp at e⟩
  | @snoc l kvs v k y hs hk hy ih =>
    have ih' := ih fun j u e => hv j u (by rw [List.getElem?_append_left (List.getElem?_eq_some_iff.mp e).1]; exact e)
    obtain ⟨h1, h2⟩ := ih'
    obtain ⟨t, ht⟩ := hv l.length v (by simp)
    obtain ⟨t', ht'⟩ := hk
    have hkl : k = (l.length : Int) := by rw [ht] at ht'; injection ht' with a b; exact a.symm
    obtain ⟨i, t'', hi, hG⟩ := hy
    have hil : i = l.length := by rw [ht] at hi; injection hi with a b; omega
    have hnew : ∀ p ∈ kvs, p.1 ≠ k := fun p hp q => by
      obtain ⟨j, hj⟩ := List.getElem?_of_mem hp
      have := (h2 j p hj).1
      have hjl : j < kvs.length := (List.getElem?_eq_some_iff.mp hj).1
      omega
    rw [stored_new hnew]
    refine ⟨by rw [List.length_append, List.length_append, h1]; rfl, fun j p e => ?_⟩
    by_cases q : j < kvs.length
    · rw [List.getElem?_append_left q] at e; exact h2 j p e
    · by_cases q' : j = kvs.length
      · rw [q', List.getElem?_append_right (Nat.le_refl _), Nat.sub_self] at e
        simp at e; subst e
        refine ⟨by show k = _; rw [hkl, q', h1], ?_⟩
        rw [q', h1, ← hil]; exact hG
      · rw [List.getElem?_eq_none (by rw [List.length_append, List.length_singleton]; omega)] at e; cases e
section
variable {w : World} {A : Around} {E : Value → Shared → Prop} {s : Shared} {env : Env}

/-- {k: .. for k in range(n)}, by the library's rule -/
theorem dc_row {vx iter : Expr} {x : Str} {px pk : Pos} {scope : Scope} {cl : List (Str × Addr)} {pos : Pos} {n : Nat} {Q : Value → Shared → Prop} (G : Nat → Value → Prop) (hn : n ≤ 1000)
    (hclos : closureFor scope env = pure cl) (hcell : ∀ y ∈ scope.names, y.2 ≠ .cell) (hkind : scope.kind = .function)
    (hnames : ∀ y ∈ scope.names, y.2 = .local → scope.names.lookup y.1 = some .local) (hx : scope.names.lookup x = some .local) (hxd : (x == ("__debug__" : Str)) = false)
    (h : wpAny (model PG w) A (eval iter env) (fun xv s₁ => wpAny (model PG w) A (pyIter xv) (fun it s₂ => Upd s s₂ ∧ ∃ I fp wr St, it = .ref I ∧ Walks PG w A I fp wr n (fun i v => ∃ t, v = .int (i : Int) t) St ∧ St 0 s₂.heap ∧ (∀ b ∈ fp, b < s₂.heap.objs.size) ∧ (∀ b ∈ wr, s.heap.get? b = none)) E s₁) E s)
    (turn : ∀ C (i : Nat) t (s₃ : Shared) m (E' : Value → Shared → Prop), s₃.heap.Ns C m → m x = some (.int (i : Int) t) → i < n → Gr s.heap s₃.heap → wpAny (model PG w) A (eval vx (compEnvC scope cl C env)) (fun y s₄ => G i y ∧ Keeps s₃ s₄) E' s₃)
    (fin : ∀ D h' tk kvs, s.heap.get? D = none → h'.DictOf (intKind PG w) D kvs → kvs.length = n → (∀ (j : Nat) p, kvs[j]? = some p → G j p.2) → Gr s.heap h' → Q (.ref D) { s with heap := h', toks := tk })
    (hs : ∀ x, foldedSetIterable iter env x = pure x := by intro _; rfl) :
    wpAny (model PG w) A (eval (.DictComp (.Name x pk) vx [⟨.Name x px, iter, [], 0⟩] scope pos) env) Q E s := by
  refine wpAny_DictComp_free (intKind PG w) (fun _ => true) (fun v k => ∃ t, v = .int k t) (fun v y => ∃ (i : Nat) (t : Tok), v = .int (i : Int) t ∧ G i y) hclos hcell hkind hnames hx
    (wpAny_mono h (fun xv s₁ h₁ => wpAny_mono h₁ (fun it s₂ h₂ => ?_) fun _ _ e => e) fun _ _ e => e) hs
  obtain ⟨⟨h₂, tk₂, rfl, g₂⟩, I, fp, wr, St, rfl, W, hst, hfp, hwr⟩ := h₂
  have off : ∀ b o, s.heap.get? b = some o → b ∉ wr := fun b o e hb => by rw [hwr b hb] at e; cases e
  have W' : Walks PG w A I fp wr n (fun i v => (∃ t, v = .int (i : Int) t) ∧ i < n) St :=
    { sub := W.sub, frame := W.frame, done := W.done, self := W.self, item := fun i s Q E hi st hQ => W.item i s Q E hi st fun v h' tk hP => hQ v h' tk ⟨hP, hi⟩ }
  refine ⟨I, fp, wr, n, _, St, rfl, W', Nat.le_trans hn (by decide), hst, hfp, ⟨?_, ?_, ?_⟩, ?_⟩
  · intro C i v s₃ m₃ E' hP hn₃ hm hk
    exact wpAny_tests_nil ⟨rfl, ⟨_, _, rfl, fun _ _ e => e⟩⟩
  · rintro C i v s₃ m₃ E' ⟨⟨t, rfl⟩, _⟩ _ hn₃ hm hk
    refine wpAny_Name (wpAny_loadName_local (by simp [compEnvC, relabel, hkind]) (lookup_relabel_local hx) hn₃ hm ?_) hxd
    exact ⟨⟨(i : Int), intKind_is _ _ _ _, t, rfl⟩, ⟨_, _, rfl, fun _ _ e => e⟩⟩
  · rintro C i v s₃ m₃ E' ⟨⟨t, rfl⟩, hi⟩ _ hn₃ hm hk
    refine wpAny_mono (turn C i t s₃ m₃ E' hn₃ hm hi fun b o e => hk b o (off b o e) (g₂ b o e)) (fun y s₄ q => ⟨⟨i, t, rfl, q.1⟩, q.2⟩) fun _ _ e => e
  · intro D h' tk kvs vs hD hdk hlen hP hst' hk
    have hvs : vs.filter (fun _ => true) = vs := by simp
    rw [hvs] at hst'
    have hr := stored_row hst' fun j v e => (hP j v e).1
    exact fin D h' tk kvs (Gr.no g₂ hD) hdk (hr.1.trans hlen) (fun j p e => (hr.2 j p e).2) fun b o e => hk b o (off b o e) (g₂ b o e)
theorem it_upW {hb : Heap} {n : Nat} {t : Tok} {Q : Value → Shared → Prop} (h1 : n ≤ 1000) (hA : A.handled = none) (hsz : Gr hb s.heap)
    (h : ∀ it s₂, Upd s s₂ → (∃ I fp wr St, it = .ref I ∧ Walks PG w A I fp wr n (fun i v => ∃ t, v = .int (i : Int) t) St ∧ St 0 s₂.heap ∧ (∀ b ∈ fp, b < s₂.heap.objs.size) ∧ (∀ b ∈ wr, hb.get? b = none)) → Q it s₂) :
    wpAny (model PG w) A (call (.type "range") [.int (n : Int) t]) (fun xv s₁ => wpAny (model PG w) A (pyIter xv) Q E s₁) E s := by
  refine call_range_1 ?_
  refine wpAny_pyIter_range (Heap.get?_push_size _ rfl) (small_up (Int.le_refl _) (by omega) (by omega)) (h _ _ ⟨_, _, rfl, (Gr.push _ _).trans (Gr.push _ _)⟩ ?_)
  have W := Walks.range (prog := PG) (w := w) (A := A) hA (s.heap.push { cls := .type "range", data := .fields #[.int 0 s.toks, .int n t, .int 1 (s.toks + 1)] }).objs.size 0 1 n
  have e : (fun (i : Nat) (v : Value) => ∃ t, v = Value.int (0 + (i : Int) * 1) t) = fun i v => ∃ t, v = .int (i : Int) t := by
    funext i v; rw [Int.zero_add, Int.mul_one]
  rw [e] at W
  refine ⟨_, _, _, _, rfl, W, ?_, ?_, ?_⟩
  · show IsRangeIter _ _ _ _ _
    have hsz2 : Builtin.Range.rangeSize 0 (n : Int) 1 = ((n : Nat) : Int) := by rw [size_up (by omega)]; simp
    rw [hsz2]
    exact Heap.get?_push_size _ rfl
  · intro b hb
    rw [List.mem_singleton.mp hb]
    show _ < ((s.heap.push _).push _).objs.size
    exact Nat.lt_of_lt_of_eq (Nat.lt_succ_self _) (Heap.size_push ..).symm
  · intro b hb'
    rw [List.mem_singleton.mp hb']
    exact (hsz.trans (Gr.push _ _)).fresh (Nat.le_refl _)
end
end Mine

-- Law1c
open PySem PySem.W PyProof.Rows PySem.Calls PySem.Spec
set_option Elab.async false
set_option maxRecDepth 100000
set_option maxHeartbeats 1000000
namespace Mine
theorem sa_take : ∀ {ys : List Value} {xs : List Str}, StrsAre ys xs → ∀ k, StrsAre (ys.take k) (xs.take k)
  | _, _, _, 0 => by simpa using StrsAre.nil
  | _, _, .nil, _ + 1 => .nil
  | _, _, .cons n t r, k + 1 => .cons n t (sa_take r k)
theorem sa_drop : ∀ {ys : List Value} {xs : List Str}, StrsAre ys xs → ∀ k, StrsAre (ys.drop k) (xs.drop k)
  | _, _, x, 0 => by simpa using x
  | _, _, .nil, _ + 1 => .nil
  | _, _, .cons n t r, k + 1 => sa_drop r k

theorem str_snoc_cps (x : Str) (c : Nat) : (x ++ ⟨#[c]⟩ : Str).cps.toList = x.cps.toList ++ [c] := by
  show (x.cps ++ #[c]).toList = _
  simp
theorem str_snoc_len (x : Str) (c : Nat) : (x ++ ⟨#[c]⟩ : Str).length = x.length + 1 := by
  show (x.cps ++ #[c]).size = _
  rw [Array.size_append]; rfl

/-- no word is empty -/
theorem wFold_pos : ∀ (cs : List Nat) {st : List Str × Str}, (∀ x ∈ st.1, 0 < x.length) → ∀ x ∈ (cs.foldl wStep st).1, 0 < x.length
  | [], _, h => h
  | c :: cs, st, h => by
    refine wFold_pos cs (st := wStep st c) fun x hx => ?_
    unfold wStep at hx
    split at hx
    · rcases List.mem_append.mp hx with hx | hx
      · exact h x hx
      · rw [List.mem_singleton.mp hx, str_snoc_len]; omega
    · exact h x hx
theorem wRun_pos (cs : List Nat) : ∀ x ∈ (wRun cs).1, 0 < x.length := wFold_pos cs fun x hx => nomatch hx

theorem short_text : ∀ n, n < 10 → (cntT n).toNat + (shortOf n).toNat ≤ 100 := by decide +kernel
theorem text_short {ns : List Int} (h : ns.length ≤ 9) : (textOf ns).length ≤ 100 := by
  have e := congrArg List.length (text_codes ns)
  rw [List.length_append, List.length_map, List.length_range, List.length_replicate, Array.length_toList] at e
  show (textOf ns).cps.size ≤ 100
  rw [e]
  exact short_text _ (by omega)
end Mine

-- Law2
open PySem PySem.W PyProof.Rows PySem.Calls PySem.Spec
set_option Elab.async false
set_option maxRecDepth 100000
set_option maxHeartbeats 1000000
namespace Mine
theorem gl_isinstance (w : World) : nsIn (hd.heap_39 w.params) mainGlobals (Str.ofString "isinstance") = some none := by rfl
theorem bt_isinstance : bootBuiltins (Str.ofString "isinstance") = some (.builtin "isinstance") := by decide +kernel
theorem gl_safe (w : World) : nsIn (hd.heap_39 w.params) mainGlobals (Str.ofString "urlsafe_b64encode") = some (some (.ref 72)) := by rfl
theorem gl_text (w : World) : nsIn (hd.heap_39 w.params) mainGlobals (Str.ofString "_law_text") = some (some (.ref 84)) := by rfl
theorem gl_words (w : World) : nsIn (hd.heap_39 w.params) mainGlobals (Str.ofString "_law_words") = some (some (.ref 91)) := by rfl
theorem gl_told (w : World) : nsIn (hd.heap_39 w.params) mainGlobals (Str.ofString "_law_told") = some (some (.ref 79)) := by rfl
theorem gl_lino (w : World) : nsIn (hd.heap_39 w.params) mainGlobals (Str.ofString "_get_lineno_width") = some (some (.ref 35)) := by rfl
theorem gl_width (w : World) : nsIn (hd.heap_39 w.params) mainGlobals (Str.ofString "_law_width") = some (some (.ref 101)) := by rfl

/-- the row of octets -/
def octs (ns : List Int) : List Int := [1, 173, 62, 208] ++ (ns.take 5).map fun x => x.fmod 256
theorem octs_len (ns : List Int) : (octs ns).length ≤ 9 := by
  unfold octs; rw [List.length_append, List.length_map, List.length_take]; show 4 + _ ≤ 9; omega
theorem octs_in (ns : List Int) : ∀ n ∈ octs ns, 0 ≤ n ∧ n < 256 := by
  intro n hn
  unfold octs at hn
  rcases List.mem_append.mp hn with q | q
  · have : ∀ k ∈ ([1, 173, 62, 208] : List Int), 0 ≤ k ∧ k < 256 := by decide
    exact this n q
  · obtain ⟨x, _, rfl⟩ := List.mem_map.mp q
    exact ⟨Int.fmod_nonneg_of_pos x (by decide), Int.fmod_lt_of_pos x (by decide)⟩
theorem ia_take : ∀ {ys : List Value} {ns : List Int}, IntsAre ys ns → ∀ k, IntsAre (ys.take k) (ns.take k)
  | _, _, _, 0 => by simpa using IntsAre.nil
  | _, _, .nil, _ + 1 => .nil
  | _, _, .cons n t r, k + 1 => .cons n t (ia_take r k)

section
variable {w : World} {A : Around} {E : Value → Shared → Prop} {s : Shared} {env : Env}

/-- the signs written are the signs told -/
def SameSigns (ns : List Int) : Prop := (trBy urlA (b2aBytes (byteArr (octs ns)))).toList.map (fun c => ((c.toNat : Nat) : Int)) = (textOf (octs ns)).cps.toList.map (fun c => ((c : Nat) : Int))

/-- the line of a word -/
def lineOf (x : Str) : Option Int := if keepW x = true then some (numOf x.cps.toList) else none
theorem item_of {value slice : Expr} {l : Addr} {items : Array Value} {k : Nat} {v : Value} {u : Tok} {Q : Value → Shared → Prop} (hl : s.heap.IsList l items) (hk : k ≤ 1000) (hv : items[k]? = some v) (h : Q v s)
    (hs : subscripted slice false (.ref l) (.int (k : Int) u) = operate [.ref l, .int (k : Int) u] (getItem (.ref l) (.int (k : Int) u)) := by rfl) (ht : ∀ r, letTemporaryGo value (.ref l) r = pure () := by intro _; rfl) :
    wpAny (model PG w) A (subscriptTail value slice (.ref l) (.int (k : Int) u)) Q E s :=
  tail_of_ItemOn ⟨"list", _, list_getitem_lookup, hl.typeIs, wpAny_getItem_list hl (by omega) (by omega) (by simpa using hv) h⟩ hs ht
theorem gl_int (w : World) : nsIn (hd.heap_39 w.params) mainGlobals (Str.ofString "int") = some none := by rfl
theorem bt_int : bootBuiltins (Str.ofString "int") = some (.type "int") := by decide +kernel
theorem isnot_int {Q : Value → Shared → Prop} (h : Q (.bool false) s) : wpAny (model PG w) A (compareOp .IsNot (.type "int") (.type "int")) Q E s := wpAny_pure h
theorem keepW_eq {x : Str} (h : 0 < x.length) : ((Txt.item x (-1)).cps.toList == (Str.ofString "=").cps.toList) = !(keepW x) := by
  rw [← keepW_item h]; simp [bne]

/-- what stands in law between the turns of its loops -/
def LawAt (h₀ : Heap) (L W D : Addr) (ws ls : List Value) (st : Option Int) (h : Heap) : Prop :=
  ∃ (m : Str → Option Value) (v₀ : Option Value), Fr h₀ L h m ∧ h.IsCell (L + 1) (some (.ref W)) ∧ h.IsCell (L + 3) (some (.ref D)) ∧ h.IsCell (L + 4) v₀ ∧ h.IsList W ws.toArray ∧ h.IsList D ls.toArray ∧ (∀ n, st = some n → ∃ t, v₀ = some (.int n t))
theorem LawAt.moved {h₀ hb h h' : Heap} {L W D : Addr} {ws ls : List Value} {st st' : Option Int} (x : LawAt h₀ L W D ws ls st h) (y : LawAt h₀ L W D ws ls st' hb) (k : ∀ b o o', hb.get? b = some o' → h.get? b = some o → h'.get? b = some o) : LawAt h₀ L W D ws ls st h' := by
  obtain ⟨m, v₀, F, a, b, c, d, e, f⟩ := x
  obtain ⟨m', v₀', F', a', b', c', d', e', f'⟩ := y
  have isl : ∀ {a : Addr} {its : Array Value}, hb.IsList a its → ∃ o, hb.get? a = some o := fun x => let ⟨o, e, _⟩ := x; ⟨o, e⟩
  obtain ⟨oL, eL⟩ := ns_get F'.ns
  obtain ⟨o1, e1⟩ := cell_lt a'
  obtain ⟨o3, e3⟩ := cell_lt b'
  obtain ⟨o4, e4⟩ := cell_lt c'
  obtain ⟨oW, eW⟩ := isl d'
  obtain ⟨oD, eD⟩ := isl e'
  exact ⟨m, v₀, ⟨F.ns.at' fun o q => k L o oL eL q, fun b o q => k b o o (F'.keep b o q) (F.keep b o q), F.above⟩, cell_at a fun o q => k _ o o1 e1 q, cell_at b fun o q => k _ o o3 e3 q, cell_at c fun o q => k _ o o4 e4 q, d.at fun o q => k _ o oW eW q, e.at fun o q => k _ o oD eD q, f⟩
theorem LawAt.any {h₀ h : Heap} {L W D : Addr} {ws ls : List Value} {st : Option Int} (x : LawAt h₀ L W D ws ls st h) : LawAt h₀ L W D ws ls none h := by
  obtain ⟨m, v₀, a, b, c, d, e, f, _⟩ := x
  exact ⟨m, v₀, a, b, c, d, e, f, fun n q => nomatch q⟩

theorem lc_bytes {x y : Str} {px py pe pos : Pos} {scope : Scope} {cl : List (Str × Addr)} {b : Array UInt8} {tb : Tok} {m : Str → Option Value} {Q : Value → Shared → Prop} (hA : A.handled = none)
    (hn : s.heap.Ns env.locals m) (hm : m y = some (.bytes b tb)) (hb : b.size ≤ sizeLine)
    (hclos : closureFor scope env = pure cl) (hcell : ∀ y ∈ scope.names, y.2 ≠ .cell) (hkind : scope.kind = .function)
    (hnames : ∀ y ∈ scope.names, y.2 = .local → scope.names.lookup y.1 = some .local) (hx : scope.names.lookup x = some .local) (hxd : (x == ("__debug__" : Str)) = false)
    (hk : env.scope.kind = .function) (hl : env.kindOf y = some .local) (hd : (y == ("__debug__" : Str)) = false)
    (fin : ∀ D h' tk ys, s.heap.get? D = none → h'.IsList D (List.toArray ys) → IntsAre ys (b.toList.map fun c => ((c.toNat : Nat) : Int)) → Gr s.heap h' → Q (.ref D) { s with heap := h', toks := tk }) :
    wpAny (model PG w) A (eval (.ListComp (.Name x pe) [⟨.Name x px, .Name y py, [], 0⟩] scope pos) env) Q E s := by
  refine lc_name (n := b.size) (P := fun i v => ∃ c u, b[i]? = some c ∧ v = .int (c.toNat : Int) u) (fun i ys => IntsAre ys ((b.toList.map fun c => ((c.toNat : Nat) : Int)).take i)) hclos hcell hkind hnames hx hb ?_ ?_ ?_ ?_
  · exact nm_local hn hm (it_bytes hA (Gr.refl _) fun it s₂ u hs => ⟨u, hs.src⟩) hk hl hd
  · exact .nil
  · rintro C i v ys hh tk₂ m₂ E' hi hC ⟨c, u, hc, rfl⟩ hn₂ hmx hR g
    refine wpAny_Name (wpAny_loadName_local (by simp [compEnvC, relabel, hkind]) (lookup_relabel_local hx) hn₂ hmx ?_) hxd
    refine ⟨_, _, rfl, Gr.refl _, ?_⟩
    have e2 : (b.toList.map fun c => ((c.toNat : Nat) : Int))[i]? = some ((c.toNat : Nat) : Int) := by rw [List.getElem?_map, Array.getElem?_toList, hc]; rfl
    rw [List.take_add_one, e2]
    exact hR.append (IntsAre.cons _ _ IntsAre.nil)
  · intro D h' tk ys hD hDl hR g
    refine fin D h' tk ys hD hDl.isList ?_ g
    rw [List.take_of_length_le (by simp)] at hR
    exact hR

theorem c_law {S : Addr} {vs : List Value} {ns : List Int} {Q : Value → Shared → Prop} (t : Tp w s.heap) (hA : A.handled = none) (hroom : A.depth + 10 < recursionLimit) (hu : A.units + 200 < cLine) (hfr : A.frames = some [])
    (hl : s.heap.IsList S vs.toArray) (hi : IntsAre vs ns) (hn : ns.length ≤ 63) (p1 : SameSigns ns) (p2 : (tRun (textOf (octs ns)).cps.toList).1 = (wRun (textOf (octs ns)).cps.toList).1.map fun x => numOf x.cps.toList)
    (p3 : ∀ a b, a ≤ b → b ≤ (wRun (textOf (octs ns)).cps.toList).1.length → linoOf ((((wRun (textOf (octs ns)).cps.toList).1.drop a).take (b - a)).map lineOf) = widthOf (((wRun (textOf (octs ns)).cps.toList).1.drop a).take (b - a)))
    (h : ∀ h' tk', Gr s.heap h' → Q (.bool true) { s with heap := h', toks := tk' }) : wpAny (model PG w) A (call (.ref 106) [.ref S]) Q E s := by
  have hfill : Fill PySem.Challenge.rw_ny0023_01 hd.heap_39 := by (k_fill; trivial)
  refine call_fc (binds := [(Str.ofString "script", .ref S)]) t (by omega) (by k_is) rfl (by k_is) rfl rfl rfl rfl ?_ rfl rfl rfl
  intro L h₁ tk₁ hL F hcl t₀
  have ho72 : ∃ o fd, (hd.heap_39 w.params).lookup 72 = some o ∧ o.data = .func fd := ⟨_, _, by k_is, rfl⟩
  have ho84 : ∃ o fd, (hd.heap_39 w.params).lookup 84 = some o ∧ o.data = .func fd := ⟨_, _, by k_is, rfl⟩
  have ho91 : ∃ o fd, (hd.heap_39 w.params).lookup 91 = some o ∧ o.data = .func fd := ⟨_, _, by k_is, rfl⟩
  have ho79 : ∃ o fd, (hd.heap_39 w.params).lookup 79 = some o ∧ o.data = .func fd := ⟨_, _, by k_is, rfl⟩
  have ho35 : ∃ o fd, (hd.heap_39 w.params).lookup 35 = some o ∧ o.data = .func fd := ⟨_, _, by k_is, rfl⟩
  have ho101 : ∃ o fd, (hd.heap_39 w.params).lookup 101 = some o ∧ o.data = .func fd := ⟨_, _, by k_is, rfl⟩
  have ho96 : ∃ o fd, (hd.heap_39 w.params).lookup 96 = some o ∧ o.data = .func fd := ⟨_, _, by k_is, rfl⟩
  clear hfill
  have hcW : h₁.IsCell (L + 1) none := hcl (Str.ofString "words") (L + 1) rfl
  have hcT : h₁.IsCell (L + 2) none := hcl (Str.ofString "told") (L + 2) rfl
  have hcL : h₁.IsCell (L + 3) none := hcl (Str.ofString "lines") (L + 3) rfl
  have hcS : h₁.IsCell (L + 4) none := hcl (Str.ofString "start") (L + 4) rfl
  have F0 : ∃ m, Fr s.heap L h₁ m ∧ m (Str.ofString "script") = some (.ref S) := ⟨_, F, rfl⟩
  clear F hcl
  obtain ⟨m, F, hm⟩ := F0
  have nW : s.heap.get? (L + 1) = none := fresh_none (by rw [hL]; exact Nat.le_succ _)
  have nT : s.heap.get? (L + 2) = none := fresh_none (by rw [hL]; exact Nat.le_add_right _ _)
  have nL : s.heap.get? (L + 3) = none := fresh_none (by rw [hL]; exact Nat.le_add_right _ _)
  have nS : s.heap.get? (L + 4) = none := fresh_none (by rw [hL]; exact Nat.le_add_right _ _)
  have hL0 : s.heap.get? L = none := fresh_none (by rw [hL]; exact Nat.le_refl _)
  -- octets
  refine ex_assign (wpAny_BinOp (List_ (args_cons (wpAny_Constant_int (args_cons (wpAny_Constant_int (args_cons (wpAny_Constant_int (args_cons (wpAny_Constant_int (args_nil (wpAny_newObj_type ?_))))))))))))
  dsimp only
  have F₂ := F.push { cls := .type "list", data := .seq #[.int 1 tk₁, .int 173 (tk₁ + 1), .int 62 (tk₁ + 1 + 1), .int 208 (tk₁ + 1 + 1 + 1)] }
  have hA₂ : (h₁.push { cls := .type "list", data := .seq #[.int 1 tk₁, .int 173 (tk₁ + 1), .int 62 (tk₁ + 1 + 1), .int 208 (tk₁ + 1 + 1 + 1)] }).IsList h₁.objs.size (List.toArray [.int 1 tk₁, .int 173 (tk₁ + 1), .int 62 (tk₁ + 1 + 1), .int 208 (tk₁ + 1 + 1 + 1)]) := ⟨_, Heap.get?_push_size _ rfl, rfl, 0, rfl⟩
  have g₂ : Gr h₁ (h₁.push { cls := .type "list", data := .seq #[.int 1 tk₁, .int 173 (tk₁ + 1), .int 62 (tk₁ + 1 + 1), .int 208 (tk₁ + 1 + 1 + 1)] }) := Gr.push _ _
  have hI4 : IntsAre [.int 1 tk₁, .int 173 (tk₁ + 1), .int 62 (tk₁ + 1 + 1), .int 208 (tk₁ + 1 + 1 + 1)] [1, 173, 62, 208] := .cons _ _ (.cons _ _ (.cons _ _ (.cons _ _ .nil)))
  have hvl := hi.length
  refine lc_name (n := (vs.take 5).toArray.size) (P := fun i v => (vs.take 5).toArray[i]? = some v) (fun i ys => IntsAre ys (((ns.take 5).map fun x => x.fmod 256).take i)) rfl (by decide) rfl (by decide) rfl ?_ ?_ ?_ ?_ ?_
  · rw [List.size_toArray, List.length_take]; exact Nat.le_trans (Nat.min_le_left _ _) (by decide)
  · refine wpAny_Subscript_list_slice (nm_local F₂.ns hm ?_)
    rw [evalPart_none]
    refine wpAny_pure ?_
    rw [evalPart_some]
    refine wpAny_Constant_int ⟨S, _, none, some 5, rfl, Gr.list F₂.keep hl, ?_, IsPart.none, IsPart.int _ _, ?_⟩
    · rw [List.size_toArray, hvl]; exact Nat.le_trans hn (by decide)
    · have e5 := slicePick_upto' vs.toArray 5
      have e5' : slicePick vs.toArray none (some 5) none = (vs.take 5).toArray := e5
      rw [e5']
      refine it_list (hb := _) hA ((Gr.push _ _).trans (Gr.push _ _)) (items := (vs.take 5).toArray) ⟨_, pushed2 _ _ _ rfl, rfl, 0, rfl⟩ fun it s₂ u hs => ⟨?_, hs⟩
      obtain ⟨h', tk', e', g'⟩ := u
      exact ⟨h', tk', e', ((Gr.push _ _).trans (Gr.push _ _)).trans g'⟩
  · exact .nil
  · intro C i v ys hh tk₂ m₂ E' hi' hC hP hn₂ hmx hR g
    have hP' : (vs.take 5)[i]? = some v := by simpa using hP
    have hin := ints_at (ia_take hi 5) hP'
    obtain ⟨n, tn, e1, rfl⟩ := hin
    refine wpAny_BinOp (nm_local hn₂ hmx (wpAny_Constant_int (mod_int (by decide) ?_)))
    refine ⟨_, _, rfl, Gr.refl _, ?_⟩
    have e2 : ((ns.take 5).map fun x => x.fmod 256)[i]? = some (n.fmod 256) := by rw [List.getElem?_map, e1]; rfl
    rw [List.take_add_one, e2]
    exact hR.append (IntsAre.cons _ _ IntsAre.nil)
  intro D h₃ tk₃ ys hD hDl hR g₃
  dsimp only at hDl g₃ ⊢
  have hIy : IntsAre ys ((ns.take 5).map fun x => x.fmod 256) := by
    have e : ((ns.take 5).map fun x => x.fmod 256).take (vs.take 5).toArray.size = (ns.take 5).map fun x => x.fmod 256 := List.take_of_length_le (by rw [List.length_map, List.size_toArray, List.length_take, List.length_take, hvl]; exact Nat.le_refl _)
    rw [e] at hR; exact hR
  have hyl : ys.length ≤ 5 := by rw [hIy.length, List.length_map, List.length_take]; exact Nat.min_le_left _ _
  refine add_two (Gr.list g₃ hA₂) hDl.isList (by show 4 + ys.length ≤ _; exact Nat.le_trans (m := 9) (by omega) (by decide)) fun O h₄ hOn g₄ hO₄ => ?_
  have hIO : IntsAre ([.int 1 tk₁, .int 173 (tk₁ + 1), .int 62 (tk₁ + 1 + 1), .int 208 (tk₁ + 1 + 1 + 1)] ++ ys) (octs ns) := hI4.append hIy
  have hex : ∃ os, os = [.int 1 tk₁, .int 173 (tk₁ + 1), .int 62 (tk₁ + 1 + 1), .int 208 (tk₁ + 1 + 1 + 1)] ++ ys := ⟨_, rfl⟩
  obtain ⟨os, eos⟩ := hex
  rw [← eos] at hIO hO₄
  have gA : Gr h₁ h₄ := (g₂.trans g₃).trans g₄
  have F₄ := Gr.fr gA F
  have hcW₄ := cell_at hcW fun o e => gA _ o e
  have hcT₄ := cell_at hcT fun o e => gA _ o e
  have hcL₄ := cell_at hcL fun o e => gA _ o e
  have hcS₄ := cell_at hcS fun o e => gA _ o e
  have hOL : O ≠ L := fun q => by
    obtain ⟨o, e⟩ := ns_get (Gr.fr g₃ F₂).ns
    rw [← q, hOn] at e; cases e
  clear hcW hcT hcL hcS hA₂ hI4 hIy hDl hR g₂ g₃ g₄ F₂ gA hOn hD hyl eos
  refine st_local F₄ fun h₅ F₅ k₅ => ?_
  have ne : ∀ k, 0 < k → L + k ≠ L := fun k hk => by omega
  have hcW₅ := cell_at hcW₄ fun o e => k₅ (L + 1) o (ne 1 (by decide)) e
  have hcT₅ := cell_at hcT₄ fun o e => k₅ (L + 2) o (ne 2 (by decide)) e
  have hcL₅ := cell_at hcL₄ fun o e => k₅ (L + 3) o (ne 3 (by decide)) e
  have hcS₅ := cell_at hcS₄ fun o e => k₅ (L + 4) o (ne 4 (by decide)) e
  have hO₅ : h₅.IsList O os.toArray := hO₄.at fun o e => k₅ O o hOL e
  clear k₅ hcW₄ hcT₄ hcL₄ hcS₄ hO₄ F₄
  dsimp only at F₅ ⊢
  -- written
  obtain ⟨o72, fd72, ho72, hd72⟩ := ho72
  refine ex_assign (call_nm (t₀.fr F₅) (gl_safe w) ho72 hd72 (args_cons (Call_ (nm_boot (t₀.fr F₅) (gl_bytes w) bt_bytes (PyProof.Rows.callWith_type1 (args_cons (nm_local F₅.ns upd_eq (args_nil ?_))))))))
  have hosl : os.length ≤ 9 := by rw [hIO.length]; exact octs_len ns
  refine call_bytes_ints hO₅ hIO (octs_in ns) (Nat.le_trans hosl (by decide)) hA fun h₆ t₆ k₆ g₆ => ?_
  have t₆' : Tp w h₆ := (t₀.fr F₅).keeps g₆
  refine args_nil ⟨t₆', ?_⟩
  refine c_url t₆' hA (by show A.depth + 1 + 3 < _; omega) (by rw [byteArr_size]; exact Nat.le_trans (octs_len ns) (by decide)) fun h₇ t₇ k₇ g₇ => ?_
  have g₅₇ : Gr h₅ h₇ := Gr.trans g₆ g₇
  have F₇ := Gr.fr g₅₇ F₅
  refine st_local F₇ fun h₈ F₈ k₈ => ?_
  have hOL' := hOL
  have kk : ∀ b o, b ≠ L → h₅.get? b = some o → h₈.get? b = some o := fun b o hb e => k₈ b o hb (g₅₇ b o e)
  have hcW₈ := cell_at hcW₅ fun o e => kk (L + 1) o (ne 1 (by decide)) e
  have hcT₈ := cell_at hcT₅ fun o e => kk (L + 2) o (ne 2 (by decide)) e
  have hcL₈ := cell_at hcL₅ fun o e => kk (L + 3) o (ne 3 (by decide)) e
  have hcS₈ := cell_at hcS₅ fun o e => kk (L + 4) o (ne 4 (by decide)) e
  have hO₈ : h₈.IsList O os.toArray := hO₅.at fun o e => kk O o hOL e
  clear kk k₈ hcW₅ hcT₅ hcL₅ hcS₅ hO₅ F₇ F₅ g₆ g₇ g₅₇ t₆'
  dsimp only at F₈ ⊢
  have hexw : ∃ wr, wr = trBy urlA (b2aBytes (byteArr (octs ns))) := ⟨_, rfl⟩
  obtain ⟨wr, ewr⟩ := hexw
  rw [← ewr] at F₈
  -- text
  obtain ⟨o84, fd84, ho84, hd84⟩ := ho84
  refine ex_assign (call_nm (t₀.fr F₈) (gl_text w) ho84 hd84 (args_cons (nm_local F₈.ns (upd_ne upd_eq) (args_nil ⟨t₀.fr F₈, ?_⟩))))
  refine c_text (t₀.fr F₈) hA (by show A.depth + 1 < _; omega) hO₈ hIO (octs_in ns) (Nat.le_trans (octs_len ns) (by decide)) fun h₉ t₉ k₉ g₉ => ?_
  have F₉ := Gr.fr g₉ F₈
  refine st_local F₉ fun h₁₀ F₁₀ k₁₀ => ?_
  have kk : ∀ b o, b ≠ L → h₈.get? b = some o → h₁₀.get? b = some o := fun b o hb e => k₁₀ b o hb (g₉ b o e)
  have hcW₁₀ := cell_at hcW₈ fun o e => kk (L + 1) o (ne 1 (by decide)) e
  have hcT₁₀ := cell_at hcT₈ fun o e => kk (L + 2) o (ne 2 (by decide)) e
  have hcL₁₀ := cell_at hcL₈ fun o e => kk (L + 3) o (ne 3 (by decide)) e
  have hcS₁₀ := cell_at hcS₈ fun o e => kk (L + 4) o (ne 4 (by decide)) e
  clear kk k₁₀ hcW₈ hcT₈ hcL₈ hcS₈ hO₈ F₈ F₉ g₉ hIO hosl hOL
  dsimp only at F₁₀ ⊢
  have hext : ∃ tx, tx = textOf (octs ns) := ⟨_, rfl⟩
  obtain ⟨tx, etx⟩ := hext
  rw [← etx] at F₁₀
  -- the first question
  refine ex_if (wpAny_isTrue_BoolOp (wpAny_allTrue_Or_cons (wpAny_isTrue_Not (wpAny_isTrue_value (Call_ (nm_boot (t₀.fr F₁₀) (gl_isinstance w) bt_isinstance (PyProof.Rows.callWith_builtin1 (args_cons (nm_local F₁₀.ns (upd_ne upd_eq) (args_cons (nm_boot (t₀.fr F₁₀) (gl_bytes w) bt_bytes (args_nil ?_))))))))))))
  refine call_isinstance_yes (PySem.W.typeIs_bytes _ _ _) (by kernel_rfl) (by rw [isSubtype_type]; kernel_rfl) (wpAny_truthy_bool (ite_neg Bool.false_ne_true ?_))
  refine wpAny_allTrue_Or_cons (wpAny_isTrue_Compare1 ?_)
  have hwl : wr.size ≤ sizeLine := by
    rw [ewr]
    unfold trBy
    rw [Array.size_map]
    exact b2aBytes_size (by rw [byteArr_size]; exact Nat.le_trans (octs_len ns) (by decide))
  have htxl : tx.length ≤ 100 := by
    rw [etx]
    exact text_short (octs_len ns)
  refine lc_bytes hA F₁₀.ns (upd_ne upd_eq) hwl rfl (by decide) rfl (by decide) rfl (by decide) rfl rfl (by decide) fun D₁ h₁₁ tk₁₁ ys₁ hD₁ hDl₁ hI₁ g₁₁ => ?_
  dsimp only at hD₁ g₁₁ ⊢
  have F₁₁ := Gr.fr g₁₁ F₁₀
  refine lc_name (n := tx.cps.size) (P := fun i v => SignAt tx i v) (fun i ys => IntsAre ys ((tx.cps.toList.map fun c => ((c : Nat) : Int)).take i)) rfl (by decide) rfl (by decide) rfl ?_ ?_ ?_ ?_ ?_
  · exact Nat.le_trans (show tx.cps.size ≤ 100 from htxl) (by decide)
  · exact nm_local F₁₁.ns upd_eq (it_str hA (Gr.refl _) fun it s₂ u hs => ⟨u, hs.src⟩)
  · exact .nil
  · rintro C i v ys hh tk₂ m₂ E' hi' hC ⟨c, u, hc, rfl⟩ hn₂ hmx hR g
    refine Call_ (nm_boot (((t₀.fr F₁₁).keeps g)) (gl_ord w) bt_ord (PyProof.Rows.callWith_builtin1 (args_cons (nm_local hn₂ hmx (args_nil (P.ord_of_char ?_))))))
    refine ⟨_, _, rfl, Gr.refl _, ?_⟩
    have e2 : (tx.cps.toList.map fun c => ((c : Nat) : Int))[i]? = some ((c : Nat) : Int) := by rw [List.getElem?_map, Array.getElem?_toList, hc]; rfl
    rw [List.take_add_one, e2]
    exact hR.append (IntsAre.cons _ _ IntsAre.nil)
  intro D₂ h₁₂ tk₁₂ ys₂ hD₂ hDl₂ hR₂ g₁₂
  dsimp only at hD₂ g₁₂ ⊢
  have hI₂ : IntsAre ys₂ (tx.cps.toList.map fun c => ((c : Nat) : Int)) := by
    rw [List.take_of_length_le (by simp)] at hR₂; exact hR₂
  have p1' : (wr.toList.map fun c => ((c.toNat : Nat) : Int)) = (tx.cps.toList.map fun c => ((c : Nat) : Int)) := by rw [ewr, etx]; exact p1
  rw [p1'] at hI₁
  refine ne_ints_same (Gr.list g₁₂ hDl₁) hDl₂.isList hI₁ hI₂ (by show A.units + 3 < cLine; omega) (wpAny_truthy_bool (ite_neg Bool.false_ne_true (wpAny_allTrue_Or_nil (ite_neg Bool.false_ne_true (wpAny_execs_nil ?_)))))
  have gB : Gr h₁₀ h₁₂ := g₁₁.trans g₁₂
  have F₁₂ := Gr.fr gB F₁₀
  have hcW₁₂ := cell_at hcW₁₀ fun o e => gB _ o e
  have hcT₁₂ := cell_at hcT₁₀ fun o e => gB _ o e
  have hcL₁₂ := cell_at hcL₁₀ fun o e => gB _ o e
  have hcS₁₂ := cell_at hcS₁₀ fun o e => gB _ o e
  clear hcW₁₀ hcT₁₀ hcL₁₀ hcS₁₀ hDl₁ hDl₂ hI₁ hI₂ hR₂ hD₁ hD₂ g₁₁ g₁₂ gB F₁₀ F₁₁
  -- words
  obtain ⟨o91, fd91, ho91, hd91⟩ := ho91
  refine ex_assign (call_nm (t₀.fr F₁₂) (gl_words w) ho91 hd91 (args_cons (nm_local F₁₂.ns upd_eq (args_nil ⟨t₀.fr F₁₂, ?_⟩))))
  refine c_words (t₀.fr F₁₂) hA (by show A.depth + 1 < _; omega) (by omega) fun W h₁₃ tk₁₃ ws hW g₁₃ hWl hws => ?_
  have F₁₃ := Gr.fr g₁₃ F₁₂
  have hcW₁₃ := cell_at hcW₁₂ fun o e => g₁₃ _ o e
  refine st_cell rfl hcW₁₃ fun h₁₄ hcW₁₄ k₁₄ => ?_
  dsimp only at hcW₁₄ k₁₄ ⊢
  have F₁₄ := bt_fr F₁₃ k₁₄ (Ne.symm (ne 1 (by decide))) nW
  have hW1 : W ≠ L + 1 := fun q => by
    obtain ⟨o, e⟩ := cell_lt hcW₁₂
    rw [← q, hW] at e; cases e
  have hWl₁₄ : h₁₄.IsList W ws.toArray := hWl.at fun o e => k₁₄ W o hW1 e
  have hcT₁₄ := cell_at hcT₁₂ fun o e => k₁₄ (L + 2) o (show L + 2 ≠ L + 1 by omega) (g₁₃ _ o e)
  have hcL₁₄ := cell_at hcL₁₂ fun o e => k₁₄ (L + 3) o (show L + 3 ≠ L + 1 by omega) (g₁₃ _ o e)
  have hcS₁₄ := cell_at hcS₁₂ fun o e => k₁₄ (L + 4) o (show L + 4 ≠ L + 1 by omega) (g₁₃ _ o e)
  clear hcW₁₂ hcT₁₂ hcL₁₂ hcS₁₂ hcW₁₃ hWl g₁₃ k₁₄ F₁₂ F₁₃ hW
  -- told
  have hcsl : tx.cps.toList.length ≤ 100 := by rw [Array.length_toList]; exact htxl
  have h256 : ∀ c ∈ tx.cps.toList, c < 256 := fun c hc => by
    have h1 : ((c : Nat) : Int) ∈ (tx.cps.toList.map fun c => ((c : Nat) : Int)) := List.mem_map.mpr ⟨c, hc, rfl⟩
    rw [← p1'] at h1
    obtain ⟨b, _, e⟩ := List.mem_map.mp h1
    have := b.toNat_lt
    omega
  obtain ⟨o79, fd79, ho79, hd79⟩ := ho79
  refine ex_assign (call_nm (t₀.fr F₁₄) (gl_told w) ho79 hd79 (args_cons ?_))
  refine lc_bytes hA F₁₄.ns (upd_ne upd_eq) hwl rfl (by decide) rfl (by decide) rfl (by decide) rfl rfl (by decide) fun D₃ h₁₅ tk₁₅ ys₃ hD₃ hDl₃ hI₃ g₁₅ => ?_
  dsimp only at hD₃ g₁₅ ⊢
  have F₁₅ := Gr.fr g₁₅ F₁₄
  rw [p1'] at hI₃
  have hcod : CodesAre ys₃ tx.cps.toList := ⟨by rw [hI₃.length, List.length_map], fun i v e => by
    obtain ⟨n, tn, e1, e2⟩ := ints_at hI₃ e
    rw [List.getElem?_map] at e1
    cases hq : tx.cps.toList[i]? with
    | none => rw [hq] at e1; cases e1
    | some c =>
      rw [hq] at e1
      injection e1 with e1
      exact ⟨c, tn, rfl, by rw [e2, ← e1]⟩⟩
  refine args_nil ⟨t₀.fr F₁₅, ?_⟩
  refine c_told (base := s.heap) t₀ hA (by show A.depth + 1 + 1 < _; omega) (Around.frames_deeper hfr) F₁₅.keep (Nat.le_of_lt (by rw [← hL]; exact F₁₅.ns.lt)) (.cons (fun q => nomatch q) rfl F₁₅.ns hL0 trivial) hDl₃ hcod h256 (by omega) fun T h₁₆ tk₁₆ ts th hTl hts => ?_
  have F₁₆ : Fr s.heap L h₁₆ _ := ⟨th.ns F₁₅.ns, th.1, F₁₅.above⟩
  have hcW₁₆ := th.cell (cell_at hcW₁₄ fun o e => g₁₅ _ o e)
  have hcT₁₆ := th.cell (cell_at hcT₁₄ fun o e => g₁₅ _ o e)
  have hcL₁₆ := th.cell (cell_at hcL₁₄ fun o e => g₁₅ _ o e)
  have hcS₁₆ := th.cell (cell_at hcS₁₄ fun o e => g₁₅ _ o e)
  have hWl₁₆ := th.list (Gr.list g₁₅ hWl₁₄)
  clear hcW₁₄ hcT₁₄ hcL₁₄ hcS₁₄ hWl₁₄ th g₁₅ F₁₄ F₁₅ hDl₃ hcod hI₃ hD₃
  refine st_cell rfl hcT₁₆ fun h₁₇ hcT₁₇ k₁₇ => ?_
  dsimp only at hcT₁₇ k₁₇ ⊢
  have F₁₇ := bt_fr F₁₆ k₁₇ (Ne.symm (ne 2 (by decide))) nT
  have not2 : ∀ {a : Addr} {its : Array Value}, h₁₆.IsList a its → a ≠ L + 2 := fun x q => by
    obtain ⟨o, e, _, n, hd⟩ := x
    obtain ⟨o', e', hd'⟩ := hcT₁₆
    rw [q, e'] at e; injection e with e; rw [← e, hd'] at hd; cases hd
  have hWl₁₇ : h₁₇.IsList W ws.toArray := hWl₁₆.at fun o e => k₁₇ W o (not2 hWl₁₆) e
  have hTl₁₇ : h₁₇.IsList T ts.toArray := hTl.at fun o e => k₁₇ T o (not2 hTl) e
  have hcW₁₇ := cell_at hcW₁₆ fun o e => k₁₇ (L + 1) o (show L + 1 ≠ L + 2 by omega) e
  have hcL₁₇ := cell_at hcL₁₆ fun o e => k₁₇ (L + 3) o (show L + 3 ≠ L + 2 by omega) e
  have hcS₁₇ := cell_at hcS₁₆ fun o e => k₁₇ (L + 4) o (show L + 4 ≠ L + 2 by omega) e
  clear hcW₁₆ hcL₁₆ hcS₁₆ not2 hcT₁₆ hWl₁₆ hTl k₁₇ F₁₆
  -- the second question
  obtain ⟨o96, fd96, ho96, hd96⟩ := ho96
  have hwok := wRun_ok tx.cps.toList
  have hexd : ∃ wd, wd = (wRun tx.cps.toList).1 := ⟨_, rfl⟩
  obtain ⟨wd, ewd⟩ := hexd
  rw [← ewd] at hws
  have hwdl : wd.length ≤ 100 := by rw [ewd]; exact Nat.le_trans hwok.2.1 hcsl
  have hwdx : ∀ x ∈ wd, x.length ≤ 100 := fun x hx => by rw [ewd] at hx; exact Nat.le_trans (hwok.2.2 x hx) hcsl
  have hwsl := sa_len hws
  rw [etx] at hts
  rw [p2] at hts
  rw [← etx, ← ewd] at hts
  refine ex_if (wpAny_isTrue_Compare1 (nm_cell rfl hcT₁₇ ?_))
  refine lc_name (n := ws.toArray.size) (P := fun i v => ws.toArray[i]? = some v) (fun i ys => IntsAre ys ((wd.map fun x => numOf x.cps.toList).take i)) rfl (by decide) rfl (by decide) rfl ?_ ?_ ?_ ?_ ?_
  · rw [List.size_toArray, hwsl]; exact Nat.le_trans hwdl (by decide)
  · exact nm_cell rfl hcW₁₇ (it_list hA (Gr.refl _) hWl₁₇ fun it s₂ u hs => ⟨u, hs⟩)
  · exact .nil
  · intro C i v ys hh tk₂ m₂ E' hi' hC hP hn₂ hmx hR g
    have hP' : ws[i]? = some v := by simpa using hP
    have hsa := sa_at hws hP'
    obtain ⟨x, tx', rfl, hx⟩ := hsa
    have tC : Tp w hh := (t₀.fr F₁₇).keeps g
    refine call_nm tC (gl_number w) ho96 hd96 (args_cons (nm_local hn₂ hmx (args_nil ⟨tC, ?_⟩)))
    refine c_number tC hA (by show A.depth + 1 < _; omega) (Nat.le_trans (hwdx x (List.mem_of_getElem? hx)) (by decide)) fun h' t' tk' g' => ?_
    refine ⟨_, _, rfl, g', ?_⟩
    have e2 : (wd.map fun x => numOf x.cps.toList)[i]? = some (numOf x.cps.toList) := by rw [List.getElem?_map, hx]; rfl
    rw [List.take_add_one, e2]
    exact hR.append (IntsAre.cons _ _ IntsAre.nil)
  intro D₄ h₁₈ tk₁₈ ys₄ hD₄ hDl₄ hR₄ g₁₈
  dsimp only at hD₄ g₁₈ ⊢
  have hI₄ : IntsAre ys₄ (wd.map fun x => numOf x.cps.toList) := by
    rw [List.take_of_length_le (by rw [List.length_map, List.size_toArray, hwsl]; exact Nat.le_refl _)] at hR₄; exact hR₄
  refine ne_ints_same (Gr.list g₁₈ hTl₁₇) hDl₄.isList hts hI₄ (by show A.units + 3 < cLine; omega) (wpAny_truthy_bool (ite_neg Bool.false_ne_true (wpAny_execs_nil ?_)))
  have F₁₈ := Gr.fr g₁₈ F₁₇
  have hcW₁₈ := cell_at hcW₁₇ fun o e => g₁₈ _ o e
  have hcT₁₈ := cell_at hcT₁₇ fun o e => g₁₈ _ o e
  have hcL₁₈ := cell_at hcL₁₇ fun o e => g₁₈ _ o e
  have hcS₁₈ := cell_at hcS₁₇ fun o e => g₁₈ _ o e
  have hWl₁₈ := Gr.list g₁₈ hWl₁₇
  have hTl₁₈ := Gr.list g₁₈ hTl₁₇
  clear hcW₁₇ hcT₁₇ hcL₁₇ hcS₁₇ hWl₁₇ hTl₁₇ g₁₈ F₁₇ hDl₄ hI₄ hR₄ hD₄
  -- lines
  have hw0 : ∀ x ∈ wd, 0 < x.length := fun x hx => by rw [ewd] at hx; exact wRun_pos _ x hx
  have hgl : ∀ {h' : Heap} {C : Addr}, True := trivial
  refine ex_assign ?_
  refine lc_name (n := wd.length) (P := fun i v => ∃ t, v = .int (i : Int) t) (fun i ys => ys.length = i ∧ ∀ (j : Nat) v, ys[j]? = some v → ∃ x, wd[j]? = some x ∧ LineIs v (lineOf x)) rfl (by decide) rfl (by decide) rfl (Nat.le_trans hwdl (by decide)) ?_ ?_ ?_ ?_
  · refine Call_ (nm_boot (t₀.fr F₁₈) (gl_range w) bt_range (PyProof.Rows.callWith_type1 (args_cons (Call_ (nm_boot (t₀.fr F₁₈) (gl_len w) bt_len (PyProof.Rows.callWith_builtin1 (args_cons (nm_cell rfl hcW₁₈ (args_nil ?_)))))))))
    refine len_list (n := wd.length) hWl₁₈ (by rw [List.size_toArray, hwsl]) (Nat.le_trans hwdl (by decide)) fun t' tk' => ?_
    refine args_nil ?_
    exact it_up1 (by omega) hA (Gr.refl _) fun it s₂ u hs => ⟨u, hs.src⟩
  · exact ⟨rfl, fun j v e => by simp at e⟩
  · rintro C i v ys hh tk₂ m₂ E' hi' hC ⟨tv, rfl⟩ hn₂ hmx ⟨hyl, hR⟩ g
    have hWh := Gr.list g hWl₁₈
    have hTh := Gr.list g hTl₁₈
    have hcWh := cell_at hcW₁₈ fun o e => g _ o e
    have hcTh := cell_at hcT₁₈ fun o e => g _ o e
    have hil : i < ws.length := by rw [hwsl]; exact hi'
    have hsa := sa_at hws (i := i) (v := ws[i]) (by simp [hil])
    obtain ⟨x, tx', ex, hx⟩ := hsa
    have hx0 := hw0 x (List.mem_of_getElem? hx)
    have fin : ∀ v, LineIs v (lineOf x) → (ys ++ [v]).length = i + 1 ∧ ∀ (j : Nat) u, (ys ++ [v])[j]? = some u → ∃ x, wd[j]? = some x ∧ LineIs u (lineOf x) := fun v hv => ⟨by rw [List.length_append, List.length_singleton, hyl], fun j u e => by
      by_cases q : j < ys.length
      · rw [List.getElem?_append_left q] at e; exact hR j u e
      · by_cases q' : j = ys.length
        · rw [q', List.getElem?_append_right (Nat.le_refl _), Nat.sub_self] at e
          simp at e; subst e
          exact ⟨x, by rw [q', hyl]; exact hx, hv⟩
        · rw [List.getElem?_eq_none (by rw [List.length_append, List.length_singleton]; omega)] at e; cases e⟩
    refine wpAny_IfExp (wpAny_isTrue_Compare1 (Subscript_ (Subscript_ (nm_cell rfl hcWh (nm_local hn₂ hmx ?_)))))
    refine item_of hWh (by omega) (v := .str x tx') (by rw [← ex]; simp [hil]) ?_
    refine wpAny_UnaryOp (wpAny_Constant_int (neg_int ?_))
    refine item_str (by decide) (by omega) (by omega) fun _ => ?_
    refine wpAny_Constant_str (P.eq_str (wpAny_truthy_bool ?_))
    rw [keepW_eq hx0]
    cases hkw : keepW x with
    | false =>
      refine ite_pos rfl (wpAny_Constant_none ?_)
      refine ⟨_, _, rfl, Gr.refl _, fin _ ?_⟩
      unfold lineOf; rw [hkw]; exact .no
    | true =>
      refine ite_neg (by decide) (Subscript_ (nm_cell rfl hcTh (nm_local hn₂ hmx ?_)))
      have htl : i < ts.length := by rw [hts.length, List.length_map]; exact hi'
      have hia := ints_at hts (i := i) (v := ts[i]) (by simp [htl])
      obtain ⟨n, tn, e1, e2⟩ := hia
      refine item_of hTh (by omega) (v := .int n tn) (by rw [← e2]; simp [htl]) ?_
      refine ⟨_, _, rfl, Gr.refl _, fin _ ?_⟩
      rw [List.getElem?_map, hx] at e1
      injection e1 with e1
      have e1' : numOf x.cps.toList = n := e1
      unfold lineOf; rw [if_pos hkw, e1']; exact .yes _ _
  intro D₅ h₁₉ tk₁₉ ls hD₅ hDl₅ hR₅ g₁₉
  obtain ⟨hll, hlv⟩ := hR₅
  dsimp only at hD₅ g₁₉ ⊢
  have F₁₉ := Gr.fr g₁₉ F₁₈
  have hcL₁₉ := cell_at hcL₁₈ fun o e => g₁₉ _ o e
  refine st_cell rfl hcL₁₉ fun h₂₀ hcL₂₀ k₂₀ => ?_
  dsimp only at hcL₂₀ k₂₀ ⊢
  have notL : ∀ {a : Addr} {its : Array Value}, h₁₉.IsList a its → a ≠ L + 3 := fun x q => by
    obtain ⟨o, e, _, n, hd⟩ := x
    obtain ⟨o', e', hd'⟩ := hcL₁₉
    rw [q, e'] at e; injection e with e; rw [← e, hd'] at hd; cases hd
  have F₂₀ := bt_fr F₁₉ k₂₀ (Ne.symm (ne 3 (by decide))) nL
  have hWl₂₀ : h₂₀.IsList W ws.toArray := (Gr.list g₁₉ hWl₁₈).at fun o e => k₂₀ W o (notL (Gr.list g₁₉ hWl₁₈)) e
  have hLl₂₀ : h₂₀.IsList D₅ ls.toArray := hDl₅.isList.at fun o e => k₂₀ D₅ o (notL hDl₅.isList) e
  have hcW₂₀ := cell_at hcW₁₈ fun o e => k₂₀ (L + 1) o (show L + 1 ≠ L + 3 by omega) (g₁₉ _ o e)
  have hcS₂₀ := cell_at hcS₁₈ fun o e => k₂₀ (L + 4) o (show L + 4 ≠ L + 3 by omega) (g₁₉ _ o e)
  clear hcW₁₈ hcT₁₈ hcL₁₈ hcS₁₈ hWl₁₈ hTl₁₈ hcL₁₉ notL k₂₀ g₁₉ F₁₈ F₁₉ hDl₅ hD₅ hts ts T hgl
  -- the stretches
  have hAt : LawAt s.heap L W D₅ ws ls none h₂₀ := ⟨_, _, F₂₀, hcW₂₀, hcL₂₀, hcS₂₀, hWl₂₀, hLl₂₀, fun n q => nomatch q⟩
  have hch : ∀ b ∈ [L, L + 4], ∃ o, h₂₀.get? b = some o := all_two (ns_get F₂₀.ns) (cell_lt hcS₂₀)
  have tW : ∀ {h'}, Gr s.heap h' → Tp w h' := fun g => t₀.keeps g
  refine ex_next (for_src (n := wd.length + 1) (P := fun i v _ => ∃ t, v = .int (i : Int) t) [L, L + 4] (fun i hh => LawAt s.heap L W D₅ ws ls none hh) ?_ hch ?_ ?_ ?_ ?_)
  · refine Call_ (nm_boot (t₀.fr F₂₀) (gl_range w) bt_range (PyProof.Rows.callWith_type1 (args_cons (wpAny_BinOp (Call_ (nm_boot (t₀.fr F₂₀) (gl_len w) bt_len (PyProof.Rows.callWith_builtin1 (args_cons (nm_cell rfl hcW₂₀ (args_nil ?_))))))))))
    refine len_list (n := wd.length) hWl₂₀ (by rw [List.size_toArray, hwsl]) (Nat.le_trans hwdl (by decide)) fun t' tk' => ?_
    refine wpAny_Constant_int (add_int (args_nil ?_))
    exact it_up1 (n := wd.length + 1) (by omega) hA (Gr.refl _) fun it s₂ u hs => ⟨u, hs⟩
  · intro hh g
    exact hAt.moved hAt fun b o o' e' e => g b o e
  · intro i hh hh' j k
    exact j.moved hAt k
  · rintro i v hh tkh hi' ⟨tv, rfl⟩ ⟨m, v₀, Fm, c1, c3, c4, hWm, hDm, _⟩ hk
    have notS : ∀ {a : Addr} {its : Array Value}, hh.IsList a its → a ≠ L + 4 := fun x q => by
      obtain ⟨o, e, _, n, hd⟩ := x
      obtain ⟨o', e', hd'⟩ := c4
      rw [q, e'] at e; injection e with e; rw [← e, hd'] at hd; cases hd
    refine wpAny_assign_Name (st_cell rfl c4 fun h₂₁ c4' k₂₁ => ?_)
    dsimp only at c4' k₂₁ ⊢
    have Fs := bt_fr Fm k₂₁ (Ne.symm (ne 4 (by decide))) nS
    have c1' := cell_at c1 fun o e => k₂₁ (L + 1) o (show L + 1 ≠ L + 4 by omega) e
    have c3' := cell_at c3 fun o e => k₂₁ (L + 3) o (show L + 3 ≠ L + 4 by omega) e
    have hWs : h₂₁.IsList W ws.toArray := hWm.at fun o e => k₂₁ W o (notS hWm) e
    have hDs : h₂₁.IsList D₅ ls.toArray := hDm.at fun o e => k₂₁ D₅ o (notS hDm) e
    have hAs : LawAt s.heap L W D₅ ws ls (some (i : Int)) h₂₁ := ⟨_, _, Fs, c1', c3', c4', hWs, hDs, fun n q => ⟨tv, by injection q with q; rw [q]⟩⟩
    clear notS
    refine wpAny_execs_cons (for_src (n := wd.length + 1 - i) (P := fun k v _ => ∃ t, v = .int ((i + k : Nat) : Int) t) [L] (fun k hh => LawAt s.heap L W D₅ ws ls (some (i : Int)) hh) ?_ ?_ ?_ ?_ ?_ ?_)
    · refine Call_ (nm_boot (t₀.fr Fs) (gl_range w) bt_range (PyProof.Rows.callWith_type1 (args_cons (nm_cell rfl c4' ?_))))
      refine args_cons (wpAny_BinOp (Call_ (nm_boot (t₀.fr Fs) (gl_len w) bt_len (PyProof.Rows.callWith_builtin1 (args_cons (nm_cell rfl c1' (args_nil ?_)))))))
      refine len_list (n := wd.length) hWs (by rw [List.size_toArray, hwsl]) (Nat.le_trans hwdl (by decide)) fun t' tk' => ?_
      refine wpAny_Constant_int (add_int (args_nil ?_))
      exact it_up2 (a := i) (b := wd.length + 1) (by omega) (by omega) hA (Gr.refl _) fun it s₂ u hs => ⟨u, hs⟩
    · intro b hb
      rw [List.mem_singleton.mp hb]; exact ns_get Fs.ns
    · intro hh' g
      exact hAs.moved hAs fun b o o' e' e => g b o e
    · intro k hh' hh'' j kk
      exact j.moved hAs kk
    · rintro k v hc tkh hkn ⟨tv, rfl⟩ ⟨m, v₀, Fc, d1, d3, d4, hWc, hDc, hst⟩ hkk
      have hstv := hst i rfl
      obtain ⟨tst, hv₀⟩ := hstv
      subst hv₀
      have notL : ∀ {a : Addr} {its : Array Value}, hc.IsList a its → a ≠ L := fun x q => by
        obtain ⟨o, e, _, n, hd⟩ := x
        obtain ⟨o', _, _, e', hd', _⟩ := Fc.ns
        rw [q, e'] at e; injection e with e; rw [← e, hd'] at hd; cases hd
      refine wpAny_assign_Name (st_local Fc fun h₂₂ F₂₂ b₂₂ => ?_)
      dsimp only at F₂₂ b₂₂ ⊢
      have d1' := cell_at d1 fun o e => b₂₂ (L + 1) o (ne 1 (by decide)) e
      have d3' := cell_at d3 fun o e => b₂₂ (L + 3) o (ne 3 (by decide)) e
      have d4' := cell_at d4 fun o e => b₂₂ (L + 4) o (ne 4 (by decide)) e
      have hWd : h₂₂.IsList W ws.toArray := hWc.at fun o e => b₂₂ W o (notL hWc) e
      have hDd : h₂₂.IsList D₅ ls.toArray := hDc.at fun o e => b₂₂ D₅ o (notL hDc) e
      clear notL
      have hik : i + k ≤ wd.length := by omega
      obtain ⟨o35, fd35, ho35, hd35⟩ := ho35
      refine ex_assign (call_nm (t₀.fr F₂₂) (gl_lino w) ho35 hd35 (args_cons ?_))
      refine dc_row (n := k) (fun j y => ∃ x, wd[i + j]? = some x ∧ LineIs y (lineOf x)) (by omega) rfl (by decide) rfl (by decide) rfl (by decide) ?_ ?_ ?_
      · refine Call_ (nm_boot (t₀.fr F₂₂) (gl_range w) bt_range (PyProof.Rows.callWith_type1 (args_cons (wpAny_BinOp (nm_local F₂₂.ns upd_eq (nm_cell rfl d4' (sub_int (args_nil ?_))))))))
        have e : ((i + k : Nat) : Int) - (i : Int) = ((k : Nat) : Int) := by omega
        rw [e]
        exact it_upW (by omega) hA (Gr.refl _) fun it s₂ u hs => ⟨u, hs⟩
      · intro C j tj s₃ m₃ E' hn₃ hm₃ hj g
        have d3h := cell_at d3' fun o e => g _ o e
        have d4h := cell_at d4' fun o e => g _ o e
        have hDh := Gr.list g hDd
        refine Subscript_ (nm_cell rfl d3h (wpAny_BinOp (nm_cell rfl d4h (nm_local hn₃ hm₃ (add_int ?_)))))
        have hjl : i + j < ls.length := by rw [hll]; omega
        have hlv' := hlv (i + j) ls[i + j] (by simp [hjl])
        refine item_of (k := i + j) hDh (by omega) (v := ls[i + j]) (by simp [hjl]) ⟨hlv', ⟨_, _, rfl, fun _ _ e => e⟩⟩
      · intro D h₂₃ tk₂₃ kvs hD hdk hkl hkv g₂₃
        dsimp only at hD g₂₃ ⊢
        have F₂₃ := Gr.fr g₂₃ F₂₂
        have hds : (D == sysModules) = false := by
          refine beq_eq_false_iff_ne.mpr fun q => ?_
          obtain ⟨o, e⟩ := (t₀.fr F₂₂).sm
          rw [← q, hD] at e; cases e
        have hlsl : (((wd.drop i).take k).map lineOf).length = k := by rw [List.length_map, List.length_take, List.length_drop]; omega
        have hls' : LinesOf kvs (((wd.drop i).take k).map lineOf) := ⟨by rw [hkl, hlsl], fun j key v e => by
          obtain ⟨x, hx, hlx⟩ := hkv j (key, v) e
          have hjk : j < k := by rw [← hkl]; exact (List.getElem?_eq_some_iff.mp e).1
          refine ⟨lineOf x, ?_, hlx⟩
          rw [List.getElem?_map, List.getElem?_take_of_lt hjk, List.getElem?_drop, hx]; rfl⟩
        have hok' : ∀ n, some n ∈ (((wd.drop i).take k).map lineOf) → n.natAbs.log2 < 1920 := fun n hn' => by
          obtain ⟨x, hx, e⟩ := List.mem_map.mp hn'
          unfold lineOf at e
          split at e
          · injection e with e
            rw [← e]
            exact numOf_shown (by rw [Array.length_toList]; exact hwdx x (List.mem_of_mem_drop (List.mem_of_mem_take hx)))
          · cases e
        refine args_nil ⟨t₀.fr F₂₃, ?_⟩
        refine c_lineno (t₀.fr F₂₃) hA (by show A.depth + 1 < _; omega) hds hdk hls' hok' fun h₂₄ t₂₄ tk₂₄ g₂₄ => ?_
        have F₂₄ := Gr.fr g₂₄ F₂₃
        refine st_local F₂₄ fun h₂₅ F₂₅ b₂₅ => ?_
        dsimp only at F₂₅ b₂₅ ⊢
        have g₂₄' : Gr h₂₂ h₂₄ := Gr.trans g₂₃ g₂₄
        have notL : ∀ {a : Addr} {its : Array Value}, h₂₂.IsList a its → a ≠ L := fun x q => by
          obtain ⟨o, e, _, n, hd⟩ := x
          have hns : h₂₂.Ns L _ := F₂₂.ns
          obtain ⟨o', _, _, e', hd', _⟩ := hns
          rw [q, e'] at e; injection e with e; rw [← e, hd'] at hd; cases hd
        have e1 := cell_at d1' fun o e => b₂₅ (L + 1) o (ne 1 (by decide)) (g₂₄' _ o e)
        have e3 := cell_at d3' fun o e => b₂₅ (L + 3) o (ne 3 (by decide)) (g₂₄' _ o e)
        have e4 := cell_at d4' fun o e => b₂₅ (L + 4) o (ne 4 (by decide)) (g₂₄' _ o e)
        have hWe : h₂₅.IsList W ws.toArray := hWd.at fun o e => b₂₅ W o (notL hWd) (g₂₄' _ o e)
        have hDe : h₂₅.IsList D₅ ls.toArray := hDd.at fun o e => b₂₅ D₅ o (notL hDd) (g₂₄' _ o e)
        have kfin : ∀ h', Gr h₂₅ h' → (∀ b o, b ∉ [L] → hc.get? b = some o → h'.get? b = some o) ∧ LawAt s.heap L W D₅ ws ls (some (i : Int)) h' := fun h' g => ⟨fun b o hb e => by
            have h1 : b ≠ L := fun q => hb (by simp [q])
            exact g b o (b₂₅ b o h1 (g₂₄' b o (b₂₂ b o h1 e))),
          ⟨_, _, Gr.fr g F₂₅, cell_at e1 fun o e => g _ o e, cell_at e3 fun o e => g _ o e, cell_at e4 fun o e => g _ o e, Gr.list g hWe, Gr.list g hDe, fun n q => ⟨tst, by injection q with q; rw [q]⟩⟩⟩
        have hp3 : linoOf (((wd.drop i).take k).map lineOf) = widthOf ((wd.drop i).take k) := by
          have := p3 i (i + k) (by omega) (by rw [← etx, ← ewd]; exact hik)
          rw [← etx, ← ewd, Nat.add_sub_cancel_left] at this
          exact this
        rw [hp3] at F₂₅
        refine ex_if (wpAny_isTrue_BoolOp (wpAny_allTrue_Or_cons (wpAny_isTrue_Compare1 (Call_ (nm_boot (t₀.fr F₂₅) (gl_type w) bt_type (PyProof.Rows.callWith_type1 (args_cons (nm_local F₂₅.ns upd_eq (args_nil (call_type_of (Tx := "int") (typeIs_int _ _ _) (by decide) ?_))))))))))
        refine nm_boot (t₀.fr F₂₅) (gl_int w) bt_int (isnot_int (wpAny_truthy_bool (ite_neg Bool.false_ne_true ?_)))
        obtain ⟨o101, fd101, ho101, hd101⟩ := ho101
        refine wpAny_allTrue_Or_cons (wpAny_isTrue_Compare1 (nm_local F₂₅.ns upd_eq (call_nm (t₀.fr F₂₅) (gl_width w) ho101 hd101 (args_cons ?_))))
        refine wpAny_Subscript_list_slice (nm_cell rfl e1 ?_)
        rw [evalPart_some]
        refine nm_cell rfl e4 ?_
        rw [evalPart_some]
        refine nm_local F₂₅.ns (upd_ne upd_eq) ⟨W, _, some (i : Int), some ((i + k : Nat) : Int), rfl, hWe, ?_, IsPart.int _ _, IsPart.int _ _, ?_⟩
        · rw [List.size_toArray, hwsl]; exact Nat.le_trans hwdl (by decide)
        have e5 : slicePick ws.toArray (some (i : Int)) (some ((i + k : Nat) : Int)) none = ((ws.drop i).take k).toArray := by
          have := slicePick_run ws.toArray i (i + k) (by rw [List.size_toArray, hwsl]; exact hik) (by omega)
          rw [Nat.add_sub_cancel_left] at this
          exact this
        rw [e5]
        have gp : Gr h₂₅ ((h₂₅.push { cls := .type "slice", data := .fields #[.int (i : Int) tst, .int ((i + k : Nat) : Int) tv, .none] }).push { cls := .type "list", data := .seq ((ws.drop i).take k).toArray }) := (Gr.push _ _).trans (Gr.push _ _)
        refine args_nil ⟨(t₀.fr F₂₅).keeps gp, ?_⟩
        refine c_width ((t₀.fr F₂₅).keeps gp) hA (by show A.depth + 1 + 1 < _; omega) (by show A.units + 3 + 100 < cLine; omega) ⟨_, pushed2 _ _ _ rfl, rfl, 0, rfl⟩ (sa_take (sa_drop hws i) k) ?_ ?_ fun h₂₆ t₂₆ tk₂₆ g₂₆ => ?_
        · rw [List.length_take, List.length_drop]; omega
        · intro x hx
          have hx' := List.mem_of_mem_drop (List.mem_of_mem_take hx)
          exact ⟨hw0 x hx', hwdx x hx'⟩
        refine ne_int ?_
        rw [bne_self_eq_false]
        refine wpAny_truthy_bool (ite_neg Bool.false_ne_true (wpAny_allTrue_Or_nil (ite_neg Bool.false_ne_true (wpAny_execs_nil (wpAny_execs_nil ?_)))))
        have gz := kfin h₂₆ (Gr.trans gp g₂₆)
        exact ⟨_, _, rfl, gz.1, gz.2⟩
    · intro hh' tk' j hk'
      refine wpAny_execs_nil ⟨hh', tk', rfl, fun b o hb e => ?_, j.any⟩
      have h1 : b ≠ L := fun q => hb (by simp [q])
      have h2 : b ≠ L + 4 := fun q => hb (by simp [q])
      exact hk' b o (fun q => h1 (List.mem_singleton.mp q)) (k₂₁ b o h2 e)
  · intro hh tkh j hk
    refine ⟨rfl, ex_ret (wpAny_Constant_bool ?_)⟩
    obtain ⟨m', v₀, F', _⟩ := j
    exact h hh tkh F'.keep
end
end Mine

-- Pl1
open PySem PySem.W PyProof.Rows PySem.Calls PySem.Spec
set_option Elab.async false
set_option maxRecDepth 100000
set_option maxHeartbeats 1000000
namespace Mine
/-- the value of a row of octets -/
def valB (bs : List Int) : Int := bs.foldl (fun a b => a * 256 + b) 0
theorem valB_snoc (bs : List Int) (b : Int) : valB (bs ++ [b]) = valB bs * 256 + b := by simp [valB]
def valRB : List Int → Int
  | [] => 0
  | c :: r => c + 256 * valRB r
theorem sum_shiftB (f : Nat → Int) : ∀ n, ((List.range n).map fun i => f i * 256 ^ (i + 1)).sum = 256 * ((List.range n).map fun i => f i * 256 ^ i).sum
  | 0 => rfl
  | n + 1 => by
    have ih := sum_shiftB f n
    rw [List.range_succ, List.map_append, List.map_append, List.sum_append, List.sum_append, ih]
    simp only [List.map_cons, List.map_nil, List.sum_cons, List.sum_nil]
    rw [Int.pow_succ, Int.mul_add, Int.add_zero, Int.add_zero, ← Int.mul_assoc, Int.mul_comm (f n * 256 ^ n) 256]
theorem octs_valRB : ∀ r : List Int, ((List.range r.length).map fun i => r.getD i 0 * 256 ^ i).sum = valRB r
  | [] => rfl
  | c :: r => by
    rw [List.length_cons, List.range_succ_eq_map, List.map_cons, List.map_map, List.sum_cons]
    have e : ((fun i => ((c :: r).getD i 0) * 256 ^ i) ∘ Nat.succ) = fun i => r.getD i 0 * (256 : Int) ^ (i + 1) := by
      funext i; simp
    rw [e, sum_shiftB, octs_valRB r]
    simp [valRB]
theorem valRB_valB : ∀ r : List Int, valRB r = valB r.reverse
  | [] => rfl
  | c :: r => by rw [List.reverse_cons, valB_snoc, ← valRB_valB r, valRB]; omega
theorem octN_valB (ns : List Int) : (octN ns ns.length).sum = valB ns := by
  have := octs_valRB ns.reverse
  rw [valRB_valB, List.reverse_reverse, List.length_reverse] at this
  exact this
theorem valB_nonneg : ∀ (bs : List Int), (∀ b ∈ bs, 0 ≤ b ∧ b < 256) → 0 ≤ valB bs := fun bs => by
  rw [← List.reverse_reverse bs, ← valRB_valB]
  generalize bs.reverse = r
  intro h
  induction r with
  | nil => exact Int.le_refl _
  | cons c r ih =>
    have h1 := ih fun b hb => h b (by simp at hb ⊢; exact .inl hb)
    have h2 := h c (by simp)
    rw [valRB]; omega

/-- the figures to the base 64, the first first -/
def digs (M : Int) : Nat → List Int
  | 0 => []
  | c + 1 => digs (M / 64) c ++ [M % 64]
theorem digs_in : ∀ (c : Nat) (M : Int), ∀ d ∈ digs M c, 0 ≤ d ∧ d < 64
  | 0, _, d, h => nomatch h
  | c + 1, M, d, h => by
    rcases List.mem_append.mp h with h | h
    · exact digs_in c _ d h
    · rw [List.mem_singleton.mp h]; omega
theorem and_mod (x : Int) : Builtin.bitAnd x 65535 = x % 65536 := bitAnd_m16 x
theorem or_byte {v b : Int} (hv : 0 ≤ v) (h0 : 0 ≤ b) (h1 : b < 256) : Builtin.bitOr (v * 2 ^ 8) b = v * 256 + b := by
  have e : v * 2 ^ 8 = v * 256 := rfl
  rw [e, bitOr_and]
  have h0 : Builtin.bitAnd (v * 256) b = 0 := by
    rw [bitAnd_pp (by omega) (by omega)]
    have e1 : (v * 256).toNat = v.toNat <<< 8 := by rw [Nat.shiftLeft_eq]; omega
    rw [e1]
    have : v.toNat <<< 8 &&& b.toNat = 0 := by
      apply Nat.eq_of_testBit_eq
      intro j
      rw [Nat.testBit_and, Nat.testBit_shiftLeft, Nat.zero_testBit]
      by_cases hj : 8 ≤ j
      · have hb : b.toNat < 2 ^ 8 := by omega
        have : b.toNat.testBit j = false := Nat.testBit_lt_two_pow (Nat.lt_of_lt_of_le hb (Nat.pow_le_pow_right (n := 2) (by decide) hj))
        rw [this, Bool.and_false]
      · rw [decide_eq_false (by omega)]; rfl
    rw [this]; rfl
  rw [h0]; omega
theorem and3 (x : Int) (h : 0 ≤ x) : Builtin.bitAnd x 3 = x % 4 := by
  rw [bitAnd_pp h (by decide)]
  have : x.toNat &&& (3 : Int).toNat = x.toNat % 4 := Nat.and_two_pow_sub_one_eq_mod x.toNat 2
  rw [this]; omega
theorem and15 (x : Int) (h : 0 ≤ x) : Builtin.bitAnd x 15 = x % 16 := by
  rw [bitAnd_pp h (by decide)]
  have : x.toNat &&& (15 : Int).toNat = x.toNat % 16 := Nat.and_two_pow_sub_one_eq_mod x.toNat 4
  rw [this]; omega

/-- where b2a_base64 stands behind n octets of the value N -/
def B2aIs (n : Nat) (N : Int) (st : Int × Int × List Int) : Prop :=
  st.1 = N % 65536 ∧ ((n % 3 = 0 ∧ st.2.1 = 0 ∧ st.2.2 = (digs N (8 * n / 6)).map sign) ∨ (n % 3 = 1 ∧ st.2.1 = 2 ∧ st.2.2 = (digs (N / 4) (8 * n / 6)).map sign) ∨ (n % 3 = 2 ∧ st.2.1 = 4 ∧ st.2.2 = (digs (N / 16) (8 * n / 6)).map sign))
theorem and_six (x : Int) : Builtin.bitAnd x 63 = x % 64 := bitAnd_m6 x
theorem sext_eq (lc : Int) (k : Nat) : sext lc (6 + k) = sign ((lc / 2 ^ k) % 64) := by
  unfold sext
  rw [and_six]
  have e : (6 + (k : Int) - 6).toNat = k := by omega
  rw [e, Int.fdiv_eq_ediv_of_nonneg _ (Int.pow_nonneg (by decide))]
theorem step_is {n : Nat} {N b : Int} {st : Int × Int × List Int} (hN : 0 ≤ N) (h0 : 0 ≤ b) (h1 : b < 256) (h : B2aIs n N st) : B2aIs (n + 1) (N * 256 + b) (b2aStep st b) := by
  obtain ⟨lc, lb, out⟩ := st
  obtain ⟨h2, h3⟩ := h
  dsimp only at h2 h3
  have hlc : Builtin.bitAnd (Builtin.bitOr (lc * 2 ^ 8) b) 65535 = (N * 256 + b) % 65536 := by
    rw [and_mod, or_byte (by omega) h0 h1]; omega
  unfold b2aStep
  dsimp only
  rw [hlc]
  refine ⟨rfl, ?_⟩
  dsimp only
  have hM : ∀ M : Int, M = N * 256 + b → M / 256 = N ∧ M / 1024 = N / 4 ∧ M / 4096 = N / 16 := fun M e => by omega
  generalize hMM : N * 256 + b = M
  obtain ⟨m0, m1, m2⟩ := hM M hMM.symm
  rcases h3 with ⟨a1, a2, a3⟩ | ⟨a1, a2, a3⟩ | ⟨a1, a2, a3⟩
  · refine .inr (.inl ⟨by omega, ?_⟩)
    subst a2 a3
    have e8 : ((0 : Int) + 8) = 6 + ((2 : Nat) : Int) := rfl
    have es : spill (M % 65536) 3 (0 + 8) ((digs N (8 * n / 6)).map sign) = (2, (digs N (8 * n / 6)).map sign ++ [sext (M % 65536) 8]) := rfl
    rw [es]
    refine ⟨rfl, ?_⟩
    have e6 : 8 * (n + 1) / 6 = 8 * n / 6 + 1 := by omega
    rw [e6]
    have e9 : sext (M % 65536) 8 = sign (M / 4 % 64) := by
      have := sext_eq (M % 65536) 2
      rw [show (6 : Int) + ((2 : Nat) : Int) = 8 from rfl] at this
      rw [this]; congr 1; omega
    show _ = (digs (M / 4 / 64) (8 * n / 6) ++ [M / 4 % 64]).map sign
    rw [e9, List.map_append, show M / 4 / 64 = N by omega]
    rfl
  · refine .inr (.inr ⟨by omega, ?_⟩)
    subst a2 a3
    have es : spill (M % 65536) 3 (2 + 8) ((digs (N / 4) (8 * n / 6)).map sign) = (4, (digs (N / 4) (8 * n / 6)).map sign ++ [sext (M % 65536) 10]) := rfl
    rw [es]
    refine ⟨rfl, ?_⟩
    have e6 : 8 * (n + 1) / 6 = 8 * n / 6 + 1 := by omega
    rw [e6]
    have e9 : sext (M % 65536) 10 = sign (M / 16 % 64) := by
      have := sext_eq (M % 65536) 4
      rw [show (6 : Int) + ((4 : Nat) : Int) = 10 from rfl] at this
      rw [this]; congr 1; omega
    show _ = (digs (M / 16 / 64) (8 * n / 6) ++ [M / 16 % 64]).map sign
    rw [e9, List.map_append, show M / 16 / 64 = N / 4 by omega]
    rfl
  · refine .inl ⟨by omega, ?_⟩
    subst a2 a3
    have es : spill (M % 65536) 3 (4 + 8) ((digs (N / 16) (8 * n / 6)).map sign) = (0, (digs (N / 16) (8 * n / 6)).map sign ++ [sext (M % 65536) 12] ++ [sext (M % 65536) 6]) := rfl
    rw [es]
    refine ⟨rfl, ?_⟩
    have e6 : 8 * (n + 1) / 6 = 8 * n / 6 + 1 + 1 := by omega
    rw [e6]
    have e9 : sext (M % 65536) 12 = sign (M / 64 % 64) := by
      have := sext_eq (M % 65536) 6
      rw [show (6 : Int) + ((6 : Nat) : Int) = 12 from rfl] at this
      rw [this]; congr 1; omega
    have e10 : sext (M % 65536) 6 = sign (M % 64) := by
      have := sext_eq (M % 65536) 0
      rw [show (6 : Int) + ((0 : Nat) : Int) = 6 from rfl] at this
      rw [this]; congr 1; omega
    show _ = ((digs (M / 64 / 64) (8 * n / 6) ++ [M / 64 % 64]) ++ [M % 64]).map sign
    rw [e9, e10, List.map_append, List.map_append, show M / 64 / 64 = N / 16 by omega]
    rfl
theorem run_is : ∀ (r : List Int), (∀ b ∈ r, 0 ≤ b ∧ b < 256) → B2aIs r.length (valB r.reverse) (b2aRun r.reverse)
  | [], _ => ⟨rfl, .inl ⟨rfl, rfl, rfl⟩⟩
  | b :: r, h => by
    have ih := run_is r fun x hx => h x (List.mem_cons_of_mem _ hx)
    have hb := h b List.mem_cons_self
    have hN := valB_nonneg r.reverse fun x hx => h x (List.mem_cons_of_mem _ (List.mem_reverse.mp hx))
    rw [List.reverse_cons, run_snoc, valB_snoc, List.length_cons]
    exact step_is hN hb.1 hb.2 ih
/-- what b2a_base64 writes: the figures' signs, and = behind them -/
theorem fin_is {ns : List Int} (h : ∀ b ∈ ns, 0 ≤ b ∧ b < 256) : b2aFin (b2aRun ns) = (digs (numT ns) (cntT ns.length).toNat).map sign ++ List.replicate (shortOf ns.length).toNat 61 := by
  have hr := run_is ns.reverse fun b hb => h b (List.mem_reverse.mp hb)
  rw [List.reverse_reverse, List.length_reverse] at hr
  have hN := valB_nonneg ns h
  unfold numT
  rw [octN_valB]
  obtain ⟨h1, h2⟩ := hr
  generalize b2aRun ns = st at h1 h2 ⊢
  generalize valB ns = N at h1 h2 hN ⊢
  obtain ⟨lc, lb, out⟩ := st
  dsimp only at h1 h2
  have hc : cntT ns.length = (4 * (ns.length : Int) + shortOf ns.length) / 3 := by
    unfold cntT; rw [Int.fdiv_eq_ediv_of_nonneg _ (by decide)]
  have hs : shortOf ns.length = (-(ns.length : Int)) % 3 := by
    unfold shortOf; rw [Int.fmod_eq_emod_of_nonneg _ (by decide)]
  generalize ns.length = n at *
  rcases h2 with ⟨a1, a2, a3⟩ | ⟨a1, a2, a3⟩ | ⟨a1, a2, a3⟩
  · have s0 : shortOf n = 0 := by omega
    have c0 : (cntT n).toNat = 8 * n / 6 := by omega
    rw [s0, c0]
    subst a2 a3
    show (digs N (8 * n / 6)).map sign = (digs (N * 4 ^ 0) (8 * n / 6)).map sign ++ []
    rw [List.append_nil, Int.pow_zero, Int.mul_one]
  · have s0 : shortOf n = 2 := by omega
    have c0 : (cntT n).toNat = 8 * n / 6 + 1 := by omega
    rw [s0, c0]
    subst a2 a3
    show (digs (N / 4) (8 * n / 6)).map sign ++ [sign (Builtin.bitAnd lc 3 * 16), 61, 61] = (digs (N * 16 / 64) (8 * n / 6) ++ [N * 16 % 64]).map sign ++ [61, 61]
    rw [and3 lc (by omega), List.map_append, show N * 16 / 64 = N / 4 by omega, show lc % 4 * 16 = N * 16 % 64 by omega, List.append_assoc]
    rfl
  · have s0 : shortOf n = 1 := by omega
    have c0 : (cntT n).toNat = 8 * n / 6 + 1 := by omega
    rw [s0, c0]
    subst a2 a3
    show (digs (N / 16) (8 * n / 6)).map sign ++ [sign (Builtin.bitAnd lc 15 * 4), 61] = (digs (N * 4 / 64) (8 * n / 6) ++ [N * 4 % 64]).map sign ++ [61]
    rw [and15 lc (by omega), List.map_append, show N * 4 / 64 = N / 16 by omega, show lc % 16 * 4 = N * 4 % 64 by omega, List.append_assoc]
    rfl
/-- the code of a figure in the alphabet of the law -/
def codeD (d : Int) : Nat := (Txt.charAt alphaS d).getD 0
theorem digs_range : ∀ (c : Nat) (M : Int), (digs M c).map codeD = (List.range c).map fun i => codeT M (c - 1 - i)
  | 0, _ => rfl
  | c + 1, M => by
    show (digs (M / 64) c ++ [M % 64]).map codeD = _
    rw [List.map_append, digs_range c, List.range_succ, List.map_append]
    congr 1
    · refine List.map_congr_left fun i hi => ?_
      have hic := List.mem_range.mp hi
      unfold codeT
      have e : c + 1 - 1 - i = (c - 1 - i) + 1 := by omega
      rw [e, Int.fdiv_eq_ediv_of_nonneg _ (Int.pow_nonneg (by decide)), Int.fdiv_eq_ediv_of_nonneg _ (Int.pow_nonneg (by decide)), Int.pow_succ, Int.mul_comm, ← Int.ediv_ediv_of_nonneg (by decide)]
    · show [codeD (M % 64)] = [codeT M (c + 1 - 1 - c)]
      unfold codeT codeD
      have e : c + 1 - 1 - c = 0 := by omega
      rw [e, Int.pow_zero, Int.fdiv_one, Int.fmod_eq_emod_of_nonneg _ (by decide)]
theorem text_digs (ns : List Int) : (textOf ns).cps.toList = (digs (numT ns) (cntT ns.length).toNat).map codeD ++ List.replicate (shortOf ns.length).toNat 61 := by
  rw [text_codes, digs_range]
theorem sign_code (d : Int) (h0 : 0 ≤ d) (h1 : d < 64) : (urlA.getD (sign d).toNat.toUInt8.toNat (sign d).toNat.toUInt8).toNat = codeD d := by
  have : ∀ k : Fin 64, (urlA.getD (sign ((k.val : Nat) : Int)).toNat.toUInt8.toNat (sign ((k.val : Nat) : Int)).toNat.toUInt8).toNat = codeD ((k.val : Nat) : Int) := by decide +kernel
  have := this ⟨d.toNat, by omega⟩
  have e : ((d.toNat : Nat) : Int) = d := by omega
  dsimp only at this
  rw [e] at this
  exact this
theorem p1_holds (ns : List Int) : SameSigns ns := by
  unfold SameSigns
  have hin := octs_in ns
  rw [text_digs]
  have hb : KBw.bInts (byteArr (octs ns)) = octs ns := by
    unfold KBw.bInts byteArr
    rw [List.map_map]
    refine (List.map_congr_left fun n hn => ?_).trans (List.map_id _)
    have := hin n hn
    show ((n.toNat.toUInt8.toNat : Nat) : Int) = n
    have e : n.toNat.toUInt8.toNat = n.toNat % 256 := rfl
    rw [e]; omega
  unfold b2aBytes
  rw [hb, fin_is hin]
  unfold trBy byteArr
  rw [Array.toList_map, List.map_map, List.map_map, List.map_append, List.map_append, List.map_map, List.map_map, List.map_replicate, List.map_replicate]
  congr 1
  refine List.map_congr_left fun d hd => ?_
  have := digs_in _ _ d hd
  exact congrArg (fun n : Nat => (n : Int)) (sign_code d this.1 this.2)
end Mine

-- Pl2
open PySem PySem.W PyProof.Rows PySem.Calls PySem.Spec
set_option Elab.async false
set_option maxRecDepth 100000
set_option maxHeartbeats 1000000
namespace Mine
/-- a sign that goes on, or one that ends a word -/
def SignOk (c : Nat) : Prop := (isEnd c = false ∧ bit6 c = true ∧ 64 < c ∧ c < 128) ∨ (isEnd c = true ∧ bit6 c = false ∧ 0 < c ∧ c < 64)
def signOkB (c : Nat) : Bool := (!isEnd c && bit6 c && decide (64 < c) && decide (c < 128)) || (isEnd c && !bit6 c && decide (0 < c) && decide (c < 64))
theorem signOk_of {c : Nat} (h : signOkB c = true) : SignOk c := by
  unfold signOkB at h
  simp only [Bool.or_eq_true, Bool.and_eq_true, Bool.not_eq_true', decide_eq_true_eq] at h
  rcases h with ⟨⟨⟨a, b⟩, c⟩, d⟩ | ⟨⟨⟨a, b⟩, c⟩, d⟩
  · exact .inl ⟨a, b, c, d⟩
  · exact .inr ⟨a, b, c, d⟩
theorem codeD_ok (d : Int) (h0 : 0 ≤ d) (h1 : d < 64) : SignOk (codeD d) := by
  have : ∀ k : Fin 64, signOkB (codeD ((k.val : Nat) : Int)) = true := by decide +kernel
  have := this ⟨d.toNat, by omega⟩
  have e : ((d.toNat : Nat) : Int) = d := by omega
  dsimp only at this
  rw [e] at this
  exact signOk_of this
theorem text_ok (ns : List Int) : ∀ c ∈ (textOf ns).cps.toList, SignOk c := by
  intro c hc
  rw [text_digs] at hc
  rcases List.mem_append.mp hc with h | h
  · obtain ⟨d, hd, rfl⟩ := List.mem_map.mp h
    have := digs_in _ _ d hd
    exact codeD_ok d this.1 this.2
  · rw [(List.mem_replicate.mp h).2]
    exact signOk_of (by decide +kernel)

theorem numOf_snoc (l : List Nat) (c : Nat) : numOf (l ++ [c]) = numOf l * 64 + ((c % 64 : Nat) : Int) := by
  rw [numOf_valR, numOf_valR, List.reverse_append]
  show ((c : Nat) : Int).fmod 64 + 64 * valR l.reverse = _
  rw [Int.fmod_eq_emod_of_nonneg _ (by decide)]
  omega
theorem empty_cps : (Str.ofString "").cps.toList = [] := by decide +kernel
theorem runs_agree : ∀ (r : List Nat), (∀ c ∈ r, SignOk c) → tRun r.reverse = ((wRun r.reverse).1.map fun x => numOf x.cps.toList, numOf (wRun r.reverse).2.cps.toList)
  | [], _ => by
    show (([], 0) : List Int × Int) = ([], numOf (Str.ofString "").cps.toList)
    rw [empty_cps]; rfl
  | c :: r, h => by
    have ih := runs_agree r fun x hx => h x (List.mem_cons_of_mem _ hx)
    rw [List.reverse_cons, tRun_snoc, wRun_snoc, ih]
    generalize wRun r.reverse = st
    unfold tStep wStep
    rcases h c List.mem_cons_self with ⟨a, b, _⟩ | ⟨a, b, _⟩
    · rw [a, b]
      simp only [Bool.false_eq_true, if_false, if_true]
      rw [str_snoc_cps, numOf_snoc]
    · rw [a, b]
      simp only [Bool.false_eq_true, if_false, if_true]
      rw [List.map_append, empty_cps]
      simp only [List.map_cons, List.map_nil]
      rw [str_snoc_cps, numOf_snoc]
      rfl
theorem p2_holds (ns : List Int) : (tRun (textOf ns).cps.toList).1 = (wRun (textOf ns).cps.toList).1.map fun x => numOf x.cps.toList := by
  have := runs_agree (textOf ns).cps.toList.reverse fun c hc => text_ok ns c (List.mem_reverse.mp hc)
  rw [List.reverse_reverse] at this
  rw [this]

/-- a word: signs that go on, one that ends it -/
def GoodW' (x : List Nat) : Prop := ∃ l c, x = l ++ [c] ∧ (∀ d ∈ l, 64 < d ∧ d < 128) ∧ 0 < c ∧ c < 64
theorem words_good : ∀ (r : List Nat), (∀ c ∈ r, SignOk c) → (∀ x ∈ (wRun r.reverse).1, GoodW' x.cps.toList) ∧ ∀ d ∈ (wRun r.reverse).2.cps.toList, 64 < d ∧ d < 128
  | [], _ => ⟨fun x hx => (List.not_mem_nil hx).elim, fun d hd => by
    have e : (wRun ([] : List Nat).reverse).2.cps.toList = [] := empty_cps
    rw [e] at hd; exact (List.not_mem_nil hd).elim⟩
  | c :: r, h => by
    have ih := words_good r fun x hx => h x (List.mem_cons_of_mem _ hx)
    rw [List.reverse_cons, wRun_snoc]
    generalize wRun r.reverse = st at ih ⊢
    obtain ⟨i1, i2⟩ := ih
    unfold wStep
    rcases h c List.mem_cons_self with ⟨a, _, b1, b2⟩ | ⟨a, _, b1, b2⟩
    · rw [a]
      simp only [Bool.false_eq_true, if_false]
      refine ⟨i1, fun d hd => ?_⟩
      rw [str_snoc_cps] at hd
      rcases List.mem_append.mp hd with hd | hd
      · exact i2 d hd
      · rw [List.mem_singleton.mp hd]; exact ⟨b1, b2⟩
    · rw [a]
      simp only [if_true]
      refine ⟨fun x hx => ?_, fun d hd => by rw [empty_cps] at hd; exact (List.not_mem_nil hd).elim⟩
      rcases List.mem_append.mp hx with hx | hx
      · exact i1 x hx
      · rw [List.mem_singleton.mp hx]
        exact ⟨_, c, str_snoc_cps _ _, i2, b1, b2⟩
theorem text_good (ns : List Int) : ∀ x ∈ (wRun (textOf ns).cps.toList).1, GoodW' x.cps.toList := by
  have := words_good (textOf ns).cps.toList.reverse fun c hc => text_ok ns c (List.mem_reverse.mp hc)
  rw [List.reverse_reverse] at this
  exact this.1

/-- the value, the first figure first -/
def valL : List Nat → Int
  | [] => 0
  | c :: r => ((c % 64 : Nat) : Int) * 64 ^ r.length + valL r
theorem valL_snoc : ∀ (l : List Nat) (c : Nat), valL (l ++ [c]) = valL l * 64 + ((c % 64 : Nat) : Int)
  | [], c => by simp [valL]
  | a :: l, c => by
    show ((a % 64 : Nat) : Int) * 64 ^ (l ++ [c]).length + valL (l ++ [c]) = (((a % 64 : Nat) : Int) * 64 ^ l.length + valL l) * 64 + ((c % 64 : Nat) : Int)
    rw [valL_snoc l c, List.length_append, List.length_singleton, Int.pow_succ, Int.add_mul, Int.mul_assoc, Int.add_assoc]
theorem numOf_valL (l : List Nat) : numOf l = valL l := by
  have : ∀ r : List Nat, numOf r.reverse = valL r.reverse := fun r => by
    induction r with
    | nil => rfl
    | cons c r ih => rw [List.reverse_cons, numOf_snoc, valL_snoc, ih]
  have := this l.reverse
  rwa [List.reverse_reverse] at this
theorem valL_bd (l : List Nat) : 0 ≤ valL l ∧ valL l < 64 ^ l.length := by
  rw [← numOf_valL]; exact numOf_bd l
/-- a word's leading figure is none of nought -/
theorem valL_low {x : List Nat} (h : GoodW' x) : (64 : Int) ^ (x.length - 1) ≤ valL x ∧ 0 < valL x := by
  obtain ⟨l, c, rfl, h1, h2, h3⟩ := h
  have hp : ∀ k : Nat, (0 : Int) < 64 ^ k := fun k => Int.pow_pos (by decide)
  cases l with
  | nil =>
    show (64 : Int) ^ 0 ≤ ((c % 64 : Nat) : Int) * 64 ^ 0 + 0 ∧ 0 < ((c % 64 : Nat) : Int) * 64 ^ 0 + 0
    rw [Int.pow_zero]; omega
  | cons a l =>
    have ha := h1 a List.mem_cons_self
    have hb := valL_bd (l ++ [c])
    show (64 : Int) ^ (l ++ [c]).length ≤ ((a % 64 : Nat) : Int) * 64 ^ (l ++ [c]).length + valL (l ++ [c]) ∧ 0 < ((a % 64 : Nat) : Int) * 64 ^ (l ++ [c]).length + valL (l ++ [c])
    have hk := hp (l ++ [c]).length
    generalize (64 : Int) ^ (l ++ [c]).length = K at *
    have h1 : 1 ≤ ((a % 64 : Nat) : Int) := by omega
    have := Int.mul_le_mul_of_nonneg_right h1 (Int.le_of_lt hk)
    omega
/-- words of one length: the order of texts is that of numbers -/
theorem same_len : ∀ (l l' : List Nat) (c c' : Nat), l.length = l'.length → (∀ d ∈ l, 64 < d ∧ d < 128) → (∀ d ∈ l', 64 < d ∧ d < 128) → c < 64 → c' < 64 → (l ++ [c] < l' ++ [c'] ↔ valL (l ++ [c]) < valL (l' ++ [c']))
  | [], [], c, c', _, _, _, h1, h2 => by
    show [c] < [c'] ↔ ((c % 64 : Nat) : Int) * 64 ^ 0 + 0 < ((c' % 64 : Nat) : Int) * 64 ^ 0 + 0
    rw [List.cons_lt_cons_iff]
    have : ¬ (([] : List Nat) < []) := List.lt_irrefl _
    rw [Int.pow_zero]
    constructor
    · rintro (q | ⟨_, q⟩)
      · omega
      · exact absurd q this
    · intro q; left; omega
  | [], _ :: _, _, _, h, _, _, _, _ => by simp at h
  | _ :: _, [], _, _, h, _, _, _, _ => by simp at h
  | a :: l, a' :: l', c, c', h, h1, h2, h3, h4 => by
    have hl : l.length = l'.length := by simpa using h
    have ih := same_len l l' c c' hl (fun d hd => h1 d (List.mem_cons_of_mem _ hd)) (fun d hd => h2 d (List.mem_cons_of_mem _ hd)) h3 h4
    have ha := h1 a List.mem_cons_self
    have ha' := h2 a' List.mem_cons_self
    show a :: (l ++ [c]) < a' :: (l' ++ [c']) ↔ ((a % 64 : Nat) : Int) * 64 ^ (l ++ [c]).length + valL (l ++ [c]) < ((a' % 64 : Nat) : Int) * 64 ^ (l' ++ [c']).length + valL (l' ++ [c'])
    rw [List.cons_lt_cons_iff, ih]
    have hb := valL_bd (l ++ [c])
    have hb' := valL_bd (l' ++ [c'])
    have e : (l' ++ [c']).length = (l ++ [c]).length := by simp [hl]
    rw [e] at hb' ⊢
    have hk : (0 : Int) < 64 ^ (l ++ [c]).length := Int.pow_pos (by decide)
    generalize (64 : Int) ^ (l ++ [c]).length = K at *
    generalize valL (l ++ [c]) = V at *
    generalize valL (l' ++ [c']) = V' at *
    have ea : ((a % 64 : Nat) : Int) = (a : Int) - 64 := by omega
    have ea' : ((a' % 64 : Nat) : Int) = (a' : Int) - 64 := by omega
    rw [ea, ea']
    rcases Nat.lt_trichotomy a a' with q | q | q
    · have : ((a : Int) - 64) * K + K ≤ ((a' : Int) - 64) * K := by
        have h5 : ((a : Int) - 64) + 1 ≤ ((a' : Int) - 64) := by omega
        have := Int.mul_le_mul_of_nonneg_right h5 (Int.le_of_lt hk)
        rw [Int.add_mul, Int.one_mul] at this
        exact this
      constructor
      · intro _; omega
      · intro _; exact .inl q
    · subst q
      constructor
      · rintro (q | ⟨_, q⟩)
        · omega
        · omega
      · intro q; right; exact ⟨rfl, by omega⟩
    · have : ((a' : Int) - 64) * K + K ≤ ((a : Int) - 64) * K := by
        have h5 : ((a' : Int) - 64) + 1 ≤ ((a : Int) - 64) := by omega
        have := Int.mul_le_mul_of_nonneg_right h5 (Int.le_of_lt hk)
        rw [Int.add_mul, Int.one_mul] at this
        exact this
      constructor
      · rintro (q' | ⟨q', _⟩)
        · omega
        · omega
      · intro q'; omega
/-- the greater pair is the greater number's -/
theorem pair_num {x y : Str} (hx : GoodW' x.cps.toList) (hy : GoodW' y.cps.toList) : pairGt x.length y.length x y = decide (numOf y.cps.toList < numOf x.cps.toList) := by
  rw [numOf_valL, numOf_valL]
  have lx := valL_low hx
  have ly := valL_low hy
  have bx := valL_bd x.cps.toList
  have by' := valL_bd y.cps.toList
  have ex : x.length = x.cps.toList.length := by rw [Array.length_toList]; rfl
  have ey : y.length = y.cps.toList.length := by rw [Array.length_toList]; rfl
  have px : 0 < x.cps.toList.length := by obtain ⟨l, c, e, _⟩ := hx; rw [e]; simp
  have py : 0 < y.cps.toList.length := by obtain ⟨l, c, e, _⟩ := hy; rw [e]; simp
  unfold pairGt
  rw [ex, ey]
  generalize x.cps.toList = a at *
  generalize y.cps.toList = b at *
  by_cases q : (a.length : Int) = (b.length : Int)
  · rw [if_pos q]
    obtain ⟨l, c, rfl, h1, h2, h3⟩ := hx
    obtain ⟨l', c', rfl, h1', h2', h3'⟩ := hy
    have hl : l'.length = l.length := by simp at q; omega
    exact decide_eq_decide.mpr (same_len l' l c' c hl h1' h1 h3' h3)
  · rw [if_neg q]
    refine decide_eq_decide.mpr ?_
    rcases Nat.lt_or_gt_of_ne (fun e => q (by rw [e]) : a.length ≠ b.length) with h | h
    · have := pow_mono64 (a := a.length) (b := b.length - 1) (by omega)
      constructor
      · intro h'; omega
      · intro h'; omega
    · have := pow_mono64 (a := b.length) (b := a.length - 1) (by omega)
      constructor
      · intro h'; omega
      · intro h'; omega
theorem best_is : ∀ (ws : List Str) (b : Option Str), (∀ x ∈ ws, GoodW' x.cps.toList) → (∀ y, b = some y → GoodW' y.cps.toList) →
    (ws.map lineOf).foldl stepL (b.map fun x => numOf x.cps.toList) = ((ws.filter keepW).foldl bestStep b).map fun x => numOf x.cps.toList
  | [], b, _, _ => rfl
  | x :: ws, b, h, hb => by
    have hx := h x List.mem_cons_self
    have hr := fun y hy => h y (List.mem_cons_of_mem _ hy)
    rw [List.map_cons, List.foldl_cons]
    cases hk : keepW x with
    | false =>
      rw [List.filter_cons_of_neg (by rw [hk]; decide)]
      have e : lineOf x = none := by unfold lineOf; rw [hk]; rfl
      rw [e]
      exact best_is ws b hr hb
    | true =>
      rw [List.filter_cons_of_pos hk, List.foldl_cons]
      have e : lineOf x = some (numOf x.cps.toList) := by unfold lineOf; rw [hk]; rfl
      rw [e]
      have hn : (numOf x.cps.toList != 0) = true := by
        rw [bne_iff_ne]
        have := (valL_low hx).2
        rw [← numOf_valL] at this
        omega
      have e2 : stepL (b.map fun x => numOf x.cps.toList) (some (numOf x.cps.toList)) = (bestStep b x).map fun x => numOf x.cps.toList := by
        unfold stepL
        simp only [hn, if_true]
        cases b with
        | none => rfl
        | some y =>
          have hp := pair_num hx (hb y rfl)
          unfold bestStep
          simp only [Option.map_some]
          rw [hp]
          by_cases q : numOf y.cps.toList < numOf x.cps.toList
          · simp [q]
          · simp [q]
      rw [e2]
      refine best_is ws (bestStep b x) hr fun y hy => ?_
      unfold bestStep at hy
      cases b with
      | none => simp at hy; rw [← hy]; exact hx
      | some z =>
        simp only [Option.some.injEq] at hy
        split at hy
        · rw [← hy]; exact hx
        · rw [← hy]; exact hb z rfl
theorem none_any : ∀ (ws : List Str), (ws.map lineOf).any (·.isNone) = true ↔ (ws.filter keepW).length < ws.length
  | [] => by simp
  | x :: ws => by
    have ih := none_any ws
    have hle := List.length_filter_le keepW ws
    rw [List.map_cons, List.any_cons, List.length_cons, Bool.or_eq_true]
    cases hk : keepW x with
    | false =>
      rw [List.filter_cons_of_neg (by rw [hk]; decide)]
      have e : lineOf x = none := by unfold lineOf; rw [hk]; rfl
      rw [e]
      constructor
      · intro _; omega
      · intro _; exact .inl rfl
    | true =>
      rw [List.filter_cons_of_pos hk, List.length_cons]
      have e : lineOf x = some (numOf x.cps.toList) := by unfold lineOf; rw [hk]; rfl
      rw [e, ih]
      constructor
      · rintro (q | q)
        · exact nomatch q
        · omega
      · intro q; right; omega
theorem p3_gen (ws : List Str) (h : ∀ x ∈ ws, GoodW' x.cps.toList) : linoOf (ws.map lineOf) = widthOf ws := by
  have hb : bestL (ws.map lineOf) = (bestOf (ws.filter keepW)).map fun x => numOf x.cps.toList := best_is ws none h fun y hy => nomatch hy
  have ha := none_any ws
  unfold linoOf widthOf
  rw [hb]
  cases hq : bestOf (ws.filter keepW) with
  | none => rfl
  | some x =>
    have hx : GoodW' x.cps.toList := by
      rcases bestOf_mem _ _ x hq with q | q
      · exact h x (List.mem_filter.mp q).1
      · cases q
    have hp := (valL_low hx).2
    rw [← numOf_valL] at hp
    simp only [Option.map_some]
    rw [if_neg (by omega)]
    generalize hk : (if 3 < (figures (numOf x.cps.toList) : Int) then (figures (numOf x.cps.toList) : Int) else 3) = k
    have h3 : 3 ≤ k := by rw [← hk]; split <;> omega
    by_cases q : k = 3 ∧ (ws.filter keepW).length < ws.length
    · rw [if_pos q, if_pos ⟨by omega, ha.mpr q.2⟩]
    · rw [if_neg q, if_neg fun q' => q ⟨by omega, ha.mp q'.2⟩]
theorem p3_holds (ns : List Int) (a b : Nat) : linoOf ((((wRun (textOf ns).cps.toList).1.drop a).take (b - a)).map lineOf) = widthOf (((wRun (textOf ns).cps.toList).1.drop a).take (b - a)) :=
  p3_gen _ fun x hx => text_good ns x (List.mem_of_mem_drop (List.mem_of_mem_take hx))
end Mine

-- Row1
open PySem PySem.W PyProof.Rows PySem.Calls PySem.Spec
set_option Elab.async false
set_option maxRecDepth 100000
set_option maxHeartbeats 8000000
namespace Mine
theorem gl_law (w : World) : nsIn (hd.heap_39 w.params) mainGlobals (Str.ofString "law") = some (some (.ref 106)) := by rfl
theorem sm_of {h : Heap} (x : h.NoSeer) : ∃ o, h.get? sysModules = some o := let ⟨_, e, _⟩ := x.mods; ns_get e
/-- the law's call, from the top's heap -/
theorem law_true {w : World} {S : Addr} {vs : List Value} {ns : List Int} {s : Shared} {Q E : Value → Shared → Prop} (t : Tp w s.heap) (hl : s.heap.IsList S vs.toArray) (hi : IntsAre vs ns) (hn : ns.length ≤ 63)
    (h : ∀ h' tk', Gr s.heap h' → Q (.bool true) { s with heap := h', toks := tk' }) : wpAny (model PG w) callerA (call (.ref 106) [.ref S]) Q E s :=
  c_law t rfl (by decide +kernel) (by decide +kernel) rfl hl hi hn (p1_holds ns) (p2_holds (octs ns)) (fun a b _ _ => p3_holds (octs ns) a b) h
end Mine
set_option maxRecDepth 100000 in
set_option maxHeartbeats 8000000 in
theorem PySem.Challenge.cw_ny0023_01_holds : PySem.Challenge.rw_ny0023_01.Holds := by
  refine Mine.hd ?_
  w_strict (
    intro w s₀ s₁ mg mb G Y fa o pm cd doc dV kV ho hd hcd hD hmg hg args vals as hpre hlay hrd hwl hlo
    have KX := kIn_of Y
    refine Ground.open G ?_
    intro T B D TE TW
    wrow_args hpre hlay hrd hwl hlo
    rename_i ns _ _ _ _ _ _ _ S vs _ hL _ _ _ hI _ hlen _
    have hfa : mg (Str.ofString "law") = some (.ref 106) := mg_of KX T.g (Mine.gl_law w)
    have hfb : mg (Str.ofString "law") = some (.ref fa) := hmg
    have hf : fa = 106 := by rw [hfa] at hfb; injection hfb with e; injection e with e; exact e.symm
    subst hf
    have hlen' : ns.length ≤ 63 := by omega
    have hsm : ∃ o, s₁.heap.get? sysModules = some o := Mine.sm_of (T.seer (by decide +kernel))
    clear ho hd hcd hD hmg hfa hfb
    exact Mine.law_true ⟨KX, ⟨mg, T.g⟩, ⟨mb, T.b, T.builtins⟩, T.nolimit, hsm⟩ hL hI hlen' fun h' tk' g => GoodW.toG ⟨.inl ⟨.bool true, .bool true, [], rfl, fun _ => rfl, .bool true, postW_of rfl rfl (by decide +kernel), fun _ => ⟨List.nodup_nil, fun a ha => nomatch ha⟩⟩, g, rfl, hg⟩)
