import PyProof.Rows.All
import Wide.All
import OpenK.AllK
import Wide.FinOn
import KE.KIntText
import KE.KPairComp
import Lean
import PySem.Challenge.RW_ix0027_01
set_option compiler.extract_closed false
set_option Elab.async false
set_option cleanup.letToHave false
namespace Mine
open Lean Meta
/-- the walk over a proof term: its binders opened, each with a variable of its own -/
structure ShSt where
  lctx : LocalContext
  n : Nat := 1
  opened : Std.HashMap Expr (FVarId × Expr) := {}
  idx : Std.HashMap FVarId Nat := {}
  owner : Std.HashMap Nat Expr := {}
  free : Std.HashMap Expr Nat := {}
  size : Std.HashMap Expr Nat := {}
  order : Array Expr := #[]
def shFree (s : ShSt) (e : Expr) : Nat := if e.hasFVar then s.free.getD e 0 else 0
def shSize (s : ShSt) (e : Expr) : Nat := if e.hasFVar then s.size.getD e 1 else 0
def shBind (s : ShSt) (e : Expr) (n : Name) (t : Expr) (v? : Option Expr) (b : Expr) (bi : BinderInfo) (nd : Bool) : ShSt × Expr :=
  let f : FVarId := ⟨.num `shx s.n⟩
  let b' := b.instantiate1 (.fvar f)
  ({ s with
      n := s.n + 1
      lctx := match v? with
        | none => s.lctx.mkLocalDecl f n t bi
        | some v => s.lctx.mkLetDecl f n t v nd
      opened := s.opened.insert e (f, b'), idx := s.idx.insert f s.n, owner := s.owner.insert s.n e }, b')
/-- postorder, children first; of each term the set of its variables and a guess at its size -/
def shOpen (root : Expr) (s0 : ShSt) : ShSt := Id.run do
  let mut s := s0
  let mut st : Array (Expr × Bool) := #[(root, false)]
  for _ in [0:1000000000] do
    if st.isEmpty then break
    let (e, back) := st.back!
    st := st.pop
    if (!e.hasFVar && !e.isLambda && !e.isApp) || s.free.contains e then continue
    if back then
      let own (b : Expr) (k : Nat) : Nat := let fr := shFree s b; if fr.testBit k then fr - (1 <<< k) else fr
      let (kid, k) := match s.opened[e]? with | some (f, b) => (b, s.idx.getD f 0) | none => (e, 0)
      let (fr, sz) := match e with
        | .app f a => (shFree s f ||| shFree s a, shSize s f + shSize s a)
        | .lam _ d _ _ | .forallE _ d _ _ => (own kid k ||| shFree s d, shSize s kid + shSize s d)
        | .letE _ t v _ _ => (own kid k ||| shFree s t ||| shFree s v, shSize s kid + shSize s t + shSize s v)
        | .mdata _ b | .proj _ _ b => (shFree s b, shSize s b)
        | .fvar f => (1 <<< (s.idx.getD f 0), 0)
        | _ => (0, 0)
      s := { s with free := s.free.insert e fr, size := s.size.insert e (min 64 (sz + 1)), order := s.order.push e }
    else
      st := st.push (e, true)
      match e with
      | .app f a => st := (st.push (a, false)).push (f, false)
      | .lam n d b bi | .forallE n d b bi =>
        if !s.opened.contains e then
          let (s', b') := shBind s e n d none b bi false
          s := s'
          st := (st.push (b', false)).push (d, false)
      | .letE n t v b nd =>
        if !s.opened.contains e then
          let (s', b') := shBind s e n t (some v) b .default nd
          s := s'
          st := ((st.push (b', false)).push (v, false)).push (t, false)
      | .mdata _ b | .proj _ _ b => st := st.push (b, false)
      | _ => pure ()
  return s
def shPop (n : Nat) : Nat := Id.run do
  let mut m := n
  let mut k := 0
  for _ in [0:16] do
    if m == 0 then break
    m := m &&& (m - 1)
    k := k + 1
  return k
/-- which terms get a name, and where -/
def shPick (s : ShSt) (root : Expr) : MetaM (Std.HashMap Expr FVarId × Std.HashMap Nat (Array Expr)) := do
  let mut D : Std.HashMap Expr Nat := {}
  D := D.insert root 1
  let mut names : Std.HashMap Expr FVarId := {}
  let mut scopes : Std.HashMap Nat (Array Expr) := {}
  let mut k := 0
  for j in [0:s.order.size] do
    let e := s.order[s.order.size - 1 - j]!
    let mut d := D.getD e 0
    if e.isApp && e.hasFVar && d != 0 then
      let i := (s.free.getD e 0).log2
      let (ok, m) := if i == 0 then (true, 1) else
        match s.owner[i]? with
        | some o => (!o.isForall, (D.getD o 0) <<< 1)
        | none => (false, 0)
      if ok then
        let a := shPop d
        let b := shPop m
        if a > b && (a - b) * (min 10 (s.size.getD e 1)) ≥ 5 * b then
          let t ← inferType e
          if !t.hasFVar && !t.hasMVar then
            let u ← inferType t
            unless u.isProp do
              k := k + 1
              let f : FVarId := ⟨.num `shy k⟩
              names := names.insert e f
              scopes := scopes.insert i ((scopes.getD i #[]).push e)
              d := m
    let put (D : Std.HashMap Expr Nat) (c : Expr) (x : Nat) : Std.HashMap Expr Nat := if s.free.contains c then D.insert c ((D.getD c 0) ||| x) else D
    match e with
    | .app f a => D := put (put D f d) a d
    | .lam _ t _ _ | .forallE _ t _ _ =>
      D := put D t d
      if let some (_, b) := s.opened[e]? then D := put D b (d <<< 1)
    | .letE _ t v _ _ =>
      D := put (put D t d) v d
      if let some (_, b) := s.opened[e]? then D := put D b (d <<< 1)
    | .mdata _ b | .proj _ _ b => D := put D b d
    | _ => pure ()
  return (names, scopes)
def shBuild (s : ShSt) (names : Std.HashMap Expr FVarId) (scopes : Std.HashMap Nat (Array Expr)) (root : Expr) : MetaM Expr := do
  let mut R : Std.HashMap Expr Expr := {}
  let ref (R : Std.HashMap Expr Expr) (c : Expr) : Expr := match names[c]? with | some f => .fvar f | none => R.getD c c
  let lets (R : Std.HashMap Expr Expr) (x? : Option Expr) (i : Nat) (b : Expr) : MetaM Expr := do
    let hs := (scopes.getD i #[]).reverse
    let ys := hs.map fun h => Expr.fvar (names[h]?.getD default)
    let xs := match x? with | some x => #[x] ++ ys | none => ys
    let mut r := b.abstract xs
    for j in [0:hs.size] do
      let q := hs.size - 1 - j
      let h := hs[q]!
      let t ← inferType h
      let v := (R.getD h h).abstract (xs.extract 0 (xs.size - hs.size + q))
      r := .letE `y t v r false
    return r
  for e in s.order do
    let r ← match e with
      | .app f a => pure (.app (ref R f) (ref R a))
      | .lam n d _ bi => match s.opened[e]? with
        | some (f, b) => pure (.lam n (ref R d) (← lets R (some (.fvar f)) (s.idx.getD f 0) (ref R b)) bi)
        | none => pure e
      | .forallE n d _ bi => match s.opened[e]? with
        | some (f, b) => pure (.forallE n (ref R d) ((ref R b).abstract #[.fvar f]) bi)
        | none => pure e
      | .letE n t v _ nd => match s.opened[e]? with
        | some (f, b) => pure (.letE n (ref R t) (ref R v) (← lets R (some (.fvar f)) (s.idx.getD f 0) (ref R b)) nd)
        | none => pure e
      | .mdata _ b => pure (ref R b)
      | .proj n i b => pure (.proj n i (ref R b))
      | _ => pure e
    R := R.insert e r
  lets R none 0 (ref R root)
/-- the same term, with names for what it writes often -/
def share (v : Expr) : MetaM Expr := do
  let s := shOpen v { lctx := ← getLCtx }
  withLCtx s.lctx (← getLocalInstances) do
    let (names, scopes) ← shPick s v
    shBuild s names scopes v
open Elab Tactic in
/-- marks the goal that a proof begins with -/
def sh0 : TacticM Unit := do
  let g ← getMainGoal
  let _ ← mkFreshExprMVar (some (.mvar g)) .synthetic `zshare
open Elab Tactic in
/-- at the proof's end: puts the shared term in the place of the one found -/
def sh1 : TacticM Unit := do
  let some m := (← getMCtx).findUserName? `zshare | throwError "sh1: no mark"
  let .mvar g := (← m.getDecl).type | throwError "sh1: no goal"
  let v ← instantiateMVars (.mvar g)
  if v.hasExprMVar then return
  g.assign (← g.withContext (share v))
end Mine
open PySem PySem.W PyProof.Rows
set_option Elab.async false
set_option compiler.extract_closed false
set_option maxRecDepth 100000
set_option maxHeartbeats 8000000
set_option linter.unusedVariables false
set_option linter.unusedSimpArgs false
namespace Mine
/-- the library keeps, per constant, whether it lays a quicker twin of it; for the constants that the head is about to lay it is told 'none', for the twins alone would be ten times the lid of a hand-in -/
theorem quiet : True := by
  run_tac do
    let ns : Lean.Name := `Mine.hd
    for i in [0:2000] do
      for s in ["o_", "tree_", "sts_", "heap_", "view_", "env_"] do
        PySem.W.Fast.primed.modify (·.insert (ns.str (s ++ toString i)) none)
    for n in [`PySem.Challenge.pw_ix0027_01, `PySem.Challenge.rw_ix0027_01] do
      PySem.W.Fast.primed.modify (·.insert n none)
  trivial
end Mine
namespace Mine
local macro_rules | `(tactic| o_head (kHook $k $a $f)) => `(tactic| o_head (kmHook $k $a $f [742, 695]))
open_top hd for PySem.Challenge.rw_ix0027_01
end Mine

set_option maxHeartbeats 4000000
namespace Mine
open PySem.Calls PyProof.V PySem.Spec PyProof.Rows.LCg
theorem fresh_1 : True := by
  w_top off
  trivial

section
variable {prog : Program} {w : World} {A : Around} {E : Value → Shared → Prop} {s : Shared} {env : Env}

/-- the block of a comprehension over pairs: what is asked of the element, what comes out -/
theorem zip_block {elt iter : PySem.Expr} {a b : Str} {pa pb tp : Pos} {kk : Nat} {scope : Scope} {cl : List (Str × Addr)} {pos : Pos} {s₂ : Shared} {I : Addr} {fp wr : List Addr} {n : Nat}
    {Pt : Nat → Array Value → Prop} {St : Nat → Heap → Prop} {Mid : Nat → Addr → Heap → Prop} (F : Nat → Value → Prop) {RR : Value → Addr → Result → Shared → Prop}
    (W : WalksU prog w A I fp wr n Pt St Mid) (hh : A.handled = none) (hsz : n ≤ sizeLine) (hPt : ∀ i vals, Pt i vals → ∃ x y, vals = #[x, y])
    (hcell : ∀ y ∈ scope.names, y.2 ≠ .cell) (hkind : scope.kind = .function) (hxa : scope.names.lookup a = some .local) (hxb : scope.names.lookup b = some .local) (hab : ¬ a = b)
    (hst : St 0 s₂.heap) (hfp : ∀ c ∈ fp, c < s₂.heap.objs.size)
    (helt : ∀ C i x y s₃ m₃ E', i < n → s₂.heap.objs.size ≤ C → Pt i #[x, y] → s₃.heap.Ns C m₃ → m₃ a = some x → m₃ b = some y → (∀ c o, c ∉ wr → s₂.heap.get? c = some o → s₃.heap.get? c = some o) →
      wpAny (model prog w) A (eval elt (compEnvC scope cl C env)) (fun v s₄ => F i v ∧ Keeps s₃ s₄) E' s₃)
    (hRR : ∀ D C h' tk m' (vs : List Value), s₂.heap.get? D = none → s₂.heap.get? C = none → D ≠ C → h'.Ns C m' → h'.get? D = some (lst vs) → vs.length = n → (∀ j v, vs[j]? = some v → F j v) →
      (∀ c o, c ∉ wr → s₂.heap.get? c = some o → h'.get? c = some o) → RR (.ref D) C (.ok .next) { s₂ with heap := h', toks := tk }) :
    wpAny (model prog w) A (newList []) (fun acc s₃ => wpAny (model prog w) A (newFunctionEnv scope env.globals cl [] env.qual none .none (some env)) (fun cenv s₄ =>
      codeAny (model prog w) A (.compStart (.ListComp elt [⟨.Tuple [.Name a pa, .Name b pb] kk tp, iter, [], 0⟩] scope pos) 0 (.ref I) acc { cenv with scope := relabel scope env }) (RR acc cenv.locals) s₄) E s₃) E s₂ := by
  (run_tac sh0)
  refine wpAny_newObj_type (wpAny_newFunctionEnv hcell (by intro y hy; simp at hy) (fun h₁ hns₁ hsb₁ => ?_) hkind)
  dsimp only at hns₁ hsb₁ ⊢
  generalize hH2 : s₂.heap.push { cls := .type "list", dict := none, data := .seq ([] : List Value).toArray } = H2 at hns₁ hsb₁ ⊢
  have hC : H2.objs.size = s₂.heap.objs.size + 1 := by rw [← hH2, Heap.size_push]
  have hDC : s₂.heap.objs.size ≠ H2.objs.size := by rw [hC]; exact Nat.ne_of_lt (Nat.lt_succ_self _)
  have hCle : s₂.heap.objs.size ≤ H2.objs.size := by rw [hC]; exact Nat.le_succ _
  have below : ∀ b, b < s₂.heap.objs.size → b ≠ H2.objs.size ∧ b ≠ s₂.heap.objs.size := fun b hb => ⟨by rw [hC]; exact Nat.ne_of_lt (Nat.lt_succ_of_lt hb), Nat.ne_of_lt hb⟩
  have hDf : s₂.heap.objs.size ∉ fp := fun hm => Nat.lt_irrefl _ (hfp _ hm)
  have hCf : H2.objs.size ∉ fp := fun hm => by have := hfp _ hm; rw [hC] at this; exact Nat.lt_irrefl _ (Nat.lt_of_succ_lt this)
  have hDw : s₂.heap.objs.size ∉ wr := fun hm => hDf (W.sub _ hm)
  have hCw : H2.objs.size ∉ wr := fun hm => hCf (W.sub _ hm)
  have old : ∀ b o, s₂.heap.get? b = some o → h₁.get? b = some o := fun b o e => hsb₁.extBut b o (below b (Heap.lt_size e)).1 (Heap.get?_push_of_some _ (hH2 ▸ Heap.get?_push_of_some _ e))
  have hacc : h₁.get? s₂.heap.objs.size = some (lst []) := hsb₁.extBut _ _ hDC (Heap.get?_push_of_some _ (hH2 ▸ Heap.get?_push_size _ rfl))
  have hst₁ : St 0 h₁ := W.frame _ _ _ hst fun b _ o e => old b o e
  have fresh : ∀ a, s₂.heap.objs.size ≤ a → s₂.heap.get? a = none := fun a ha => by
    cases e : s₂.heap.get? a with
    | none => rfl
    | some o' => exact absurd (Heap.lt_size e) (Nat.not_lt.mpr ha)
  have loop : ∀ s₃ : Shared, s₃ = { s₂ with heap := h₁, toks := s₂.toks + ([] : List (Str × Value)).length } →
      codeAny (model prog w) A (.compLoop (.ListComp elt [⟨.Tuple [.Name a pa, .Name b pb] kk tp, iter, [], 0⟩] scope pos) 0 (.ref I) (.ref s₂.heap.objs.size) (compEnvC scope cl H2.objs.size env))
        (RR (.ref s₂.heap.objs.size) H2.objs.size) s₃ := by
    rintro s₃ rfl
    refine kcp_loop
      (fun k s' => ∃ h' tk i vs m', s' = { s₂ with heap := h', toks := tk } ∧ i ≤ n ∧ k = n + 1 - i ∧ vs.length = i ∧ St i h' ∧ h'.Ns H2.objs.size m' ∧
        h'.get? s₂.heap.objs.size = some (lst vs) ∧ (∀ j v, vs[j]? = some v → F j v) ∧ (∀ c o, c ∉ wr → s₂.heap.get? c = some o → h'.get? c = some o)) ?_ (n + 1)
      ⟨h₁, _, 0, [], _, rfl, Nat.zero_le _, rfl, rfl, hst₁, hns₁, hacc, (fun j v e => by simp at e), fun c o _ e => old c o e⟩
    rintro k s' ⟨h', tk, i, vs, m', rfl, hi, rfl, hvl, hst', hn', hD', hF', hk'⟩
    by_cases hlt : i < n
    · refine W.item i _ _ _ hlt hst' fun T vals h₂ tk₂ hP hT hMd hk₂ => ?_
      refine W.go _ _ _ i T _ _ _ hMd fun h₃ hst₃ hk₃ => ?_
      obtain ⟨x, y, rfl⟩ := hPt i vals hP
      have hT₃ : h₃.IsTuple T #[x, y] := hT.at fun o e => hk₃ T o (W.apart i T _ hMd) e
      have up₃ : ∀ c o, c ∉ wr → h'.get? c = some o → h₃.get? c = some o := fun c o hc e => hk₃ c o hc (hk₂ c o hc e)
      refine kcp_assign (env := compEnvC scope cl H2.objs.size env) hh hT₃ (lookup_relabel_local hxa) (lookup_relabel_local hxb) (by simp [compEnvC, relabel, hkind]) (hn'.at' fun o e => up₃ _ o hCw e) fun h₄ tk₄ hn₄ hs₄ => ?_
      have up : ∀ c o, c ∉ wr → c ≠ H2.objs.size → h'.get? c = some o → h₄.get? c = some o := fun c o h1 h2 e => hs₄ c o h2 (up₃ c o h1 e)
      refine wpAny_mono (helt H2.objs.size i x y _ _ _ hlt hCle hP hn₄ (by simp [hab]) (by simp) (fun c o hc e => up c o hc (below c (Heap.lt_size e)).1 (hk' c o hc e))) (fun v s₅ h₅ => ?_) fun _ _ e => e
      obtain ⟨hFv, h₅, tk₅, rfl, hk₅⟩ := h₅
      have hDD : h₅.get? s₂.heap.objs.size = some (lst vs) := hk₅ _ _ (up _ _ hDw hDC hD')
      refine append_at (hsz := by show vs.toArray.size ≤ sizeLine; rw [List.size_toArray, hvl]; exact Nat.le_trans hi hsz) hDD fun h₆ hs₆ hD₆ => ?_
      refine ⟨n + 1 - (i + 1), by omega, h₆, tk₅, i + 1, vs ++ [v], _, rfl, hlt, rfl, by rw [List.length_append, List.length_singleton, hvl], ?_, (hn₄.keeps hk₅).sameBut hs₆ (Ne.symm hDC), hD₆.trans (congrArg some (lst_snoc vs v)), ?_, ?_⟩
      · refine W.frame _ _ _ hst₃ fun c hc o e => hs₆.extBut c o (fun q => hDf (q ▸ hc)) (hk₅ c o (hs₄ c o (fun q => hCf (by have q' : c = H2.objs.size := q; exact q' ▸ hc)) e))
      · intro j u e
        by_cases hj : j < vs.length
        · rw [List.getElem?_append_left hj] at e; exact hF' j u e
        · rw [List.getElem?_append_right (Nat.not_lt.mp hj)] at e
          have hj0 : j - vs.length = 0 := by
            cases hz : j - vs.length with
            | zero => rfl
            | succ q => rw [hz] at e; simp at e
          rw [hj0] at e
          have hji : j = i := by omega
          subst hji
          simp at e; subst e; exact hFv
      · intro c o hc e
        refine hs₆.extBut c o (below c (Heap.lt_size e)).2 (hk₅ c o (up c o hc (below c (Heap.lt_size e)).1 (hk' c o hc e)))
    · have hin : i = n := Nat.le_antisymm hi (Nat.not_lt.mp hlt)
      subst hin
      refine W.done _ _ _ hst' fun h₂ tk₂ hk₂ => ?_
      exact hRR _ _ h₂ tk₂ _ vs (fresh _ (Nat.le_refl _)) (fresh _ (by rw [hC]; exact Nat.le_succ _)) hDC (hn'.at' fun o e => hk₂ _ o hCw e) (hk₂ _ _ hDw hD') hvl hF' fun c o hc e => hk₂ c o hc (hk' c o hc e)
  exact codeAny_compStart_list (loop _ rfl) (W.self 0 _ _ _ hst₁ (loop _ rfl))
  (run_tac sh1)

theorem ints_of_at : ∀ {vs : List Value} {ns : List Int}, vs.length = ns.length → (∀ (i : Nat) (v : Value), vs[i]? = some v → ∃ (n : Int) (t : Tok), ns[i]? = some n ∧ v = Value.int n t) → IntsAre vs ns
  | [], [], _, _ => .nil
  | [], _ :: _, h, _ => by simp at h
  | _ :: _, [], h, _ => by simp at h
  | v :: vs, n :: ns, h, g => by
    obtain ⟨n', t, e1, rfl⟩ := g 0 v (by simp)
    have e2 : n' = n := by simpa using e1.symm
    subst e2
    exact .cons n' t (ints_of_at (by simpa using h) fun i u e => g (i + 1) u (by simpa using e))

/-- what a comprehension over pairs wants of the thing that it goes over -/
inductive ZS (prog : Program) (w : World) (A : Around) (env : Env) (elt : PySem.Expr) (a b : Str) (scope : Scope) (cl : List (Str × Addr)) (Fin : Addr → List Value → Shared → Prop) (xv : Value) (s₁ : Shared) : Prop
  | mk (I : Addr) (fp wr : List Addr) (n : Nat) (Pt : Nat → Array Value → Prop) (St : Nat → Heap → Prop) (Mid : Nat → Addr → Heap → Prop) (F : Nat → Value → Prop) (c0 : xv = .ref I) (c1 : WalksU prog w A I fp wr n Pt St Mid) (c2 : n ≤ sizeLine) (c3 : (∀ i vals, Pt i vals → ∃ x y, vals = #[x, y])) (c4 : St 0 s₁.heap) (c5 : (∀ c ∈ fp, c < s₁.heap.objs.size)) (c6 : (∀ C i x y s₃ m₃ E', i < n → s₁.heap.objs.size ≤ C → Pt i #[x, y] → s₃.heap.Ns C m₃ → m₃ a = some x → m₃ b = some y → (∀ c o, c ∉ wr → s₁.heap.get? c = some o → s₃.heap.get? c = some o) → wpAny (model prog w) A (eval elt (compEnvC scope cl C env)) (fun v s₄ => F i v ∧ Keeps s₃ s₄) E' s₃)) (c7 : (∀ D h' tk (vs : List Value), s₁.heap.get? D = none → h'.get? D = some (lst vs) → vs.length = n → (∀ j v, vs[j]? = some v → F j v) → (∀ c o, c ∉ wr → s₁.heap.get? c = some o → h'.get? c = some o) → Fin D vs { s₁ with heap := h', toks := tk })) : ZS prog w A env elt a b scope cl Fin xv s₁
theorem zip_ListComp {elt iter : PySem.Expr} {a b : Str} {pa pb tp : Pos} {kk : Nat} {scope : Scope} {cl : List (Str × Addr)} {pos : Pos} {Q : Value → Shared → Prop}
    (hh : A.handled = none) (hclos : closureFor scope env = pure cl) (hcell : ∀ y ∈ scope.names, y.2 ≠ .cell) (hkind : scope.kind = .function)
    (hnames : ∀ y ∈ scope.names, y.2 = .local → scope.names.lookup y.1 = some .local) (hxa : scope.names.lookup a = some .local) (hxb : scope.names.lookup b = some .local) (hab : ¬ a = b)
    (h : wpAny (model prog w) A (eval iter env) (ZS prog w A env elt a b scope cl (fun D _ s' => Q (.ref D) s')) E s)
    (hs : ∀ x, foldedSetIterable iter env x = pure x := by intro _; rfl) :
    wpAny (model prog w) A (eval (.ListComp elt [⟨.Tuple [.Name a pa, .Name b pb] kk tp, iter, [], 0⟩] scope pos) env) Q E s := by
  (run_tac sh0)
  rw [eval_ListComp]
  refine wpAny_comprehension_free (use := none) rfl hs hclos hkind hnames (wpAny_mono h (fun xv s₁ h₁ => ?_) fun _ _ e => e)
  obtain ⟨I, fp, wr, n, Pt, St, Mid, F, rfl, W, hsz, hPt, hst, hfp, helt, hQ⟩ := h₁
  refine W.self 0 _ _ _ hst ?_
  refine zip_block (RR := fun acc C => compPost (model prog w) A E none Q acc C) F W hh hsz hPt hcell hkind hxa hxb hab hst hfp helt ?_
  intro D C h' tk m' vs hD hC hDC hn hl hlen hF hk
  exact ⟨m', hn, fun h'' hs'' => hQ D h'' tk vs hD (hs''.extBut _ _ hDC hl) hlen hF fun c o hc e => hs''.extBut c o (by rintro rfl; rw [hC] at e; cases e) (hk c o hc e)⟩
  (run_tac sh1)


inductive ZSA (prog : Program) (w : World) (A : Around) (env : Env) (elt : PySem.Expr) (a b y : Str) (scope : Scope) (cl : List (Str × Addr)) (Fin : Addr → List Value → Shared → Prop) (xv : Value) (s₁ : Shared) : Prop
  | mk (I : Addr) (fp wr : List Addr) (n : Nat) (Pt : Nat → Array Value → Prop) (St : Nat → Heap → Prop) (Mid : Nat → Addr → Heap → Prop) (F : Nat → Value → Prop) (m : Str → Option Value) (c0 : xv = .ref I) (c1 : WalksU prog w A I fp wr n Pt St Mid) (c2 : n ≤ sizeLine) (c3 : (∀ i vals, Pt i vals → ∃ x y, vals = #[x, y])) (c4 : St 0 s₁.heap) (c5 : (∀ c ∈ fp, c < s₁.heap.objs.size)) (c6 : env.locals ∉ wr) (c7 : s₁.heap.Ns env.locals m) (c8 : (∀ C i x y s₃ m₃ E', i < n → s₁.heap.objs.size ≤ C → Pt i #[x, y] → s₃.heap.Ns C m₃ → m₃ a = some x → m₃ b = some y → (∀ c o, c ∉ wr → s₁.heap.get? c = some o → s₃.heap.get? c = some o) → wpAny (model prog w) A (eval elt (compEnvC scope cl C env)) (fun v s₄ => F i v ∧ Keeps s₃ s₄) E' s₃)) (c9 : (∀ D h' tk (vs : List Value), s₁.heap.get? D = none → h'.get? D = some (lst vs) → vs.length = n → (∀ j v, vs[j]? = some v → F j v) → h'.Ns env.locals (fun z => if z = y then some (.ref D) else m z) → (∀ c o, c ≠ env.locals → c ∉ wr → s₁.heap.get? c = some o → h'.get? c = some o) → Fin D vs { s₁ with heap := h', toks := tk })) : ZSA prog w A env elt a b y scope cl Fin xv s₁
theorem zip_Assign {elt iter : PySem.Expr} {a b y : Str} {pa pb tp py : Pos} {kk : Nat} {scope : Scope} {cl : List (Str × Addr)} {pos spos : Pos} {Q : Flow → Shared → Prop}
    (hsw : swapsWith (.ListComp elt [⟨.Tuple [.Name a pa, .Name b pb] kk tp, iter, [], 0⟩] scope pos) (some (.Name y py)) spos.line env = pure true)
    (hh : A.handled = none) (hclos : closureFor scope env = pure cl) (hcell : ∀ y ∈ scope.names, y.2 ≠ .cell) (hkind : scope.kind = .function)
    (hnames : ∀ y ∈ scope.names, y.2 = .local → scope.names.lookup y.1 = some .local) (hxa : scope.names.lookup a = some .local) (hxb : scope.names.lookup b = some .local) (hab : ¬ a = b)
    (hy : env.kindOf y = some .local) (hp : (env.scope.kind == .class || (env.scope.kind == .module && env.locals != env.globals)) = false)
    (h : wpAny (model prog w) A (eval iter env) (ZSA prog w A env elt a b y scope cl (fun _ _ s' => Q .next s')) E s)
    (hs : ∀ x, foldedSetIterable iter env x = pure x := by intro _; rfl) :
    wpAny (model prog w) A (exec (.Assign [.Name y py] (.ListComp elt [⟨.Tuple [.Name a pa, .Name b pb] kk tp, iter, [], 0⟩] scope pos) spos) env) Q E s := by
  (run_tac sh0)
  rw [exec_Assign_Name_used _ _ _ _ hsw]
  refine wpAny_bind (wpAny_standAt (wpAny_bind ?_))
  show wpAny _ A (do let _ ← comprehension (.ListComp elt [⟨.Tuple [.Name a pa, .Name b pb] kk tp, iter, [], 0⟩] scope pos) scope env _ (newList []) false (eval iter env) (some (assign (.Name y py) env))) _ _ s
  refine wpAny_bind (wpAny_mono (wpAny_comprehension_free (use := some (assign (.Name y py) env)) (Q := fun _ s' => Q .next s') rfl hs hclos hkind hnames
    (wpAny_mono h (fun xv s₁ h₁ => ?_) fun _ _ e => e)) (fun _ s' hq => wpAny_pure (wpAny_pure hq)) fun _ _ e => e)
  obtain ⟨I, fp, wr, n, Pt, St, Mid, F, m, rfl, W, hsz, hPt, hst, hfp, hLf, hn, helt, hQ⟩ := h₁
  refine W.self 0 _ _ _ hst ?_
  refine zip_block (RR := fun acc C => compPost (model prog w) A E (some (assign (.Name y py) env)) (fun _ s' => Q .next s') acc C) F W hh hsz hPt hcell hkind hxa hxb hab hst hfp helt ?_
  intro D C h' tk m' vs hD hC hDC hnC hlD hlen hF hk
  have hLC : env.locals ≠ C := by rintro rfl; obtain ⟨o, _, _, ho, _⟩ := hn; rw [hC] at ho; cases ho
  have hLD : env.locals ≠ D := by rintro rfl; obtain ⟨o, _, _, ho, _⟩ := hn; rw [hD] at ho; cases ho
  show wpAny _ A (assign (.Name y py) env (.ref D)) _ _ _
  refine wpAny_assign_Name (wpAny_storeName_local hy (hn.at' fun o e => hk _ o hLf e) (fun h₂ hn₂ hs₂ => ?_) hp)
  refine ⟨m', hnC.sameBut hs₂ (Ne.symm hLC), fun h₃ hs₃ => ?_⟩
  exact hQ D h₃ _ vs hD (hs₃.extBut _ _ hDC (hs₂.extBut _ _ (Ne.symm hLD) hlD)) hlen hF (hn₂.sameBut hs₃ hLC) fun b o hbL hbf e =>
    hs₃.extBut b o (by rintro rfl; rw [hC] at e; cases e) (hs₂.extBut b o hbL (hk b o hbf e))
  (run_tac sh1)

/-- a call of zip on two lists of ints, in a comprehension whose element is an int -/
theorem zip_ints {elt : PySem.Expr} {a b : Str} {scope : Scope} {cl : List (Str × Addr)} {Fin : Addr → List Value → Shared → Prop} {l1 l2 : Addr} {vs1 vs2 : List Value} {ns1 ns2 : List Int} (f : Int → Int → Int)
    (hh : A.handled = none) (hl1 : s.heap.IsList l1 vs1.toArray) (hl2 : s.heap.IsList l2 vs2.toArray) (hi1 : IntsAre vs1 ns1) (hi2 : IntsAre vs2 ns2) (hlen : ns1.length = ns2.length) (hsz : ns1.length ≤ sizeLine)
    (helt : ∀ C x y tx ty s₃ m₃ E', x ∈ ns1 → y ∈ ns2 → s.heap.objs.size ≤ C → s₃.heap.Ns C m₃ → m₃ a = some (.int x tx) → m₃ b = some (.int y ty) → (∀ c o, s.heap.get? c = some o → s₃.heap.get? c = some o) →
      wpAny (model prog w) A (eval elt (compEnvC scope cl C env)) (fun v s₄ => (∃ t, v = .int (f x y) t) ∧ Keeps s₃ s₄) E' s₃)
    (hQ : ∀ D h' tk vs, s.heap.get? D = none → h'.get? D = some (lst vs) → IntsAre vs (List.zipWith f ns1 ns2) → (∀ c o, s.heap.get? c = some o → h'.get? c = some o) → Fin D vs { s with heap := h', toks := tk }) :
    wpAny (model prog w) A (call (.type "zip") [.ref l1, .ref l2]) (ZS prog w A env elt a b scope cl Fin) E s := by
  (run_tac sh0)
  refine call_zip_2 hl1 hl2 fun h' hz hTI hTO h1 h2 hsz' hk => ?_
  have lt1 : l1 < s.heap.objs.size := by obtain ⟨o, ho, _⟩ := hl1; exact Heap.lt_size ho
  have lt2 : l2 < s.heap.objs.size := by obtain ⟨o, ho, _⟩ := hl2; exact Heap.lt_size ho
  have D : ZipApart (s.heap.objs.size + 4) (s.heap.objs.size + 2) (s.heap.objs.size + 3) s.heap.objs.size (s.heap.objs.size + 1) l1 l2 := by
    have q1 : @LT.lt Nat _ l1 s.heap.objs.size := lt1
    have q2 : @LT.lt Nat _ l2 s.heap.objs.size := lt2
    constructor <;> (show @Ne Nat _ _) <;> omega
  have W := (WalksT.zip2 (prog := prog) (w := w) hh _ _ _ _ _ l1 l2 D vs1.toArray vs2.toArray).toU
  have e1 := hi1.length
  have e2 := hi2.length
  have hn : min vs1.toArray.size vs2.toArray.size = ns1.length := by simp; omega
  rw [hn] at W
  have notw : ∀ c o, s.heap.get? c = some o → c ∉ [s.heap.objs.size + 4, s.heap.objs.size + 3, s.heap.objs.size, s.heap.objs.size + 1] := fun c o e hc => by
    have q : @LT.lt Nat _ c s.heap.objs.size := Heap.lt_size e
    simp only [List.mem_cons, List.not_mem_nil, or_false] at hc
    rcases hc with h | h | h | h <;> (have h' : @Eq Nat c _ := h; omega)
  refine ⟨_, _, _, _, _, _, _, fun i v => ∃ x y t, ns1[i]? = some x ∧ ns2[i]? = some y ∧ v = .int (f x y) t, rfl, W, hsz, fun i vals hP => ?_, ⟨hz, hTI, ⟨_, _, hTO⟩, h1, h2, hl1.at fun o e => hk _ o e, hl2.at fun o e => hk _ o e⟩, fun c hc => ?_, ?_, ?_⟩
  · obtain ⟨x, y, _, _, rfl⟩ := hP; exact ⟨x, y, rfl⟩
  · show @LT.lt Nat _ c h'.objs.size
    rw [hsz']
    simp only [List.mem_cons, List.not_mem_nil, or_false] at hc
    have q1 : @LT.lt Nat _ l1 s.heap.objs.size := lt1
    have q2 : @LT.lt Nat _ l2 s.heap.objs.size := lt2
    rcases hc with h | h | h | h | h | h | h <;> (have h' : @Eq Nat c _ := h; omega)
  · intro C i x y s₃ m₃ E' hi hC hP hn₃ ha hb hk₃
    obtain ⟨x', y', hx, hy, e⟩ := hP
    have e' : x = x' ∧ y = y' := by simpa using e
    obtain ⟨rfl, rfl⟩ := e'
    obtain ⟨nx, tx, rfl, hnx⟩ := hi1.at i x (by simpa using hx)
    obtain ⟨ny, ty, rfl, hny⟩ := hi2.at i y (by simpa using hy)
    have hC' : s.heap.objs.size ≤ C := by
      have q : @LE.le Nat _ h'.objs.size C := hC
      rw [hsz'] at q
      show @LE.le Nat _ s.heap.objs.size C
      omega
    refine wpAny_mono (helt C nx ny tx ty s₃ m₃ E' (List.mem_of_getElem? hnx) (List.mem_of_getElem? hny) hC' hn₃ ha hb fun c o e => hk₃ c o (notw c o e) (hk c o e)) (fun v s₄ h₄ => ⟨?_, h₄.2⟩) fun _ _ e => e
    obtain ⟨t, rfl⟩ := h₄.1
    exact ⟨nx, ny, t, hnx, hny, rfl⟩
  · intro D₀ h₁ tk vs hD hl hlen' hF hk₁
    refine hQ D₀ h₁ tk vs ?_ hl (ints_of_at (by rw [hlen', List.length_zipWith]; omega) fun i v e => ?_) fun c o e => hk₁ c o (notw c o e) (hk c o e)
    · cases q : s.heap.get? D₀ with
      | none => rfl
      | some o => have := hk _ _ q; rw [hD] at this; cases this
    · obtain ⟨x, y, t, hx, hy, rfl⟩ := hF i v e
      exact ⟨f x y, t, by rw [List.getElem?_zipWith, hx, hy], rfl⟩
  (run_tac sh1)

theorem zip_intsA {elt : PySem.Expr} {a b y₀ : Str} {scope : Scope} {cl : List (Str × Addr)} {Fin : Addr → List Value → Shared → Prop} {l1 l2 L : Addr} {vs1 vs2 : List Value} {ns1 ns2 : List Int} {h₀ : Heap} {m : Str → Option Value} {news : List (Addr × Obj)} (f : Int → Int → Int)
    (hL : env.locals = L) (F : Fr h₀ L s.heap m) (N : News h₀ L s.heap news)
    (hh : A.handled = none) (hl1 : s.heap.IsList l1 vs1.toArray) (hl2 : s.heap.IsList l2 vs2.toArray) (hi1 : IntsAre vs1 ns1) (hi2 : IntsAre vs2 ns2) (hlen : ns1.length = ns2.length) (hsz : ns1.length ≤ sizeLine)
    (helt : ∀ C x y tx ty s₃ m₃ E', x ∈ ns1 → y ∈ ns2 → s.heap.objs.size ≤ C → s₃.heap.Ns C m₃ → m₃ a = some (.int x tx) → m₃ b = some (.int y ty) → (∀ c o, s.heap.get? c = some o → s₃.heap.get? c = some o) →
      wpAny (model prog w) A (eval elt (compEnvC scope cl C env)) (fun v s₄ => (∃ t, v = .int (f x y) t) ∧ Keeps s₃ s₄) E' s₃)
    (hQ : ∀ D h' tk vs, Fr h₀ L h' (fun z => if z = y₀ then some (.ref D) else m z) → News h₀ L h' ((D, lst vs) :: news) → (∀ p ∈ news, p.1 ≠ D) → IntsAre vs (List.zipWith f ns1 ns2) → Fin D vs { s with heap := h', toks := tk }) :
    wpAny (model prog w) A (call (.type "zip") [.ref l1, .ref l2]) (ZSA prog w A env elt a b y₀ scope cl Fin) E s := by
  (run_tac sh0)
  subst hL
  refine call_zip_2 hl1 hl2 fun h' hz hTI hTO h1 h2 hsz' hk => ?_
  have lt1 : l1 < s.heap.objs.size := by obtain ⟨o, ho, _⟩ := hl1; exact Heap.lt_size ho
  have lt2 : l2 < s.heap.objs.size := by obtain ⟨o, ho, _⟩ := hl2; exact Heap.lt_size ho
  have D : ZipApart (s.heap.objs.size + 4) (s.heap.objs.size + 2) (s.heap.objs.size + 3) s.heap.objs.size (s.heap.objs.size + 1) l1 l2 := by
    have q1 : @LT.lt Nat _ l1 s.heap.objs.size := lt1
    have q2 : @LT.lt Nat _ l2 s.heap.objs.size := lt2
    constructor <;> (show @Ne Nat _ _) <;> omega
  have W := (WalksT.zip2 (prog := prog) (w := w) hh _ _ _ _ _ l1 l2 D vs1.toArray vs2.toArray).toU
  have e1 := hi1.length
  have e2 := hi2.length
  have hn : min vs1.toArray.size vs2.toArray.size = ns1.length := by simp; omega
  rw [hn] at W
  have notw : ∀ c o, s.heap.get? c = some o → c ∉ [s.heap.objs.size + 4, s.heap.objs.size + 3, s.heap.objs.size, s.heap.objs.size + 1] := fun c o e hc => by
    have q : @LT.lt Nat _ c s.heap.objs.size := Heap.lt_size e
    simp only [List.mem_cons, List.not_mem_nil, or_false] at hc
    rcases hc with h | h | h | h <;> (have h' : @Eq Nat c _ := h; omega)
  refine ⟨_, _, _, _, _, _, _, (fun i v => ∃ x y t, ns1[i]? = some x ∧ ns2[i]? = some y ∧ v = .int (f x y) t), m, rfl, W, hsz, fun i vals hP => ?_, ⟨hz, hTI, ⟨_, _, hTO⟩, h1, h2, hl1.at fun o e => hk _ o e, hl2.at fun o e => hk _ o e⟩, fun c hc => ?_, ?_, F.ns.at' fun o e => hk _ o e, ?_, ?_⟩
  · obtain ⟨x, y, _, _, rfl⟩ := hP; exact ⟨x, y, rfl⟩
  · show @LT.lt Nat _ c h'.objs.size
    rw [hsz']
    simp only [List.mem_cons, List.not_mem_nil, or_false] at hc
    have q1 : @LT.lt Nat _ l1 s.heap.objs.size := lt1
    have q2 : @LT.lt Nat _ l2 s.heap.objs.size := lt2
    rcases hc with h | h | h | h | h | h | h <;> (have h' : @Eq Nat c _ := h; omega)
  · intro hm
    obtain ⟨oL, _, _, hoL, _⟩ := F.ns
    exact notw _ _ hoL hm
  · intro C i x y s₃ m₃ E' hi hC hP hn₃ ha hb hk₃
    obtain ⟨x', y', hx, hy, e⟩ := hP
    have e' : x = x' ∧ y = y' := by simpa using e
    obtain ⟨rfl, rfl⟩ := e'
    obtain ⟨nx, tx, rfl, hnx⟩ := hi1.at i x (by simpa using hx)
    obtain ⟨ny, ty, rfl, hny⟩ := hi2.at i y (by simpa using hy)
    have hC' : s.heap.objs.size ≤ C := by
      have q : @LE.le Nat _ h'.objs.size C := hC
      rw [hsz'] at q
      show @LE.le Nat _ s.heap.objs.size C
      omega
    refine wpAny_mono (helt C nx ny tx ty s₃ m₃ E' (List.mem_of_getElem? hnx) (List.mem_of_getElem? hny) hC' hn₃ ha hb fun c o e => hk₃ c o (notw c o e) (hk c o e)) (fun v s₄ h₄ => ⟨?_, h₄.2⟩) fun _ _ e => e
    obtain ⟨t, rfl⟩ := h₄.1
    exact ⟨nx, ny, t, hnx, hny, rfl⟩
  · intro D₀ h₁ tk vs hD hl hlen' hF hns hk₁
    have fresh : s.heap.get? D₀ = none := by
      cases q : s.heap.get? D₀ with
      | none => rfl
      | some o => have := hk _ _ q; rw [hD] at this; cases this
    have kp : ∀ c o, c ≠ env.locals → s.heap.get? c = some o → h₁.get? c = some o := fun c o hc e => hk₁ c o hc (notw c o e) (hk c o e)
    have old : ∀ c o, h₀.get? c = some o → c ≠ env.locals := fun c o e => Nat.ne_of_lt (Nat.lt_of_lt_of_le (Heap.lt_size e) F.above)
    have hDL : D₀ ≠ env.locals := by rintro rfl; obtain ⟨o, _, _, ho, _⟩ := F.ns; rw [fresh] at ho; cases ho
    refine hQ D₀ h₁ tk vs ⟨hns, fun c o e => kp c o (old c o e) (F.keep c o e), F.above⟩ (fun p hp => ?_) (fun p hp q => ?_) (ints_of_at (by rw [hlen', List.length_zipWith]; omega) fun i v e => ?_)
    · rcases List.mem_cons.mp hp with rfl | hp
      · refine ⟨hl, hDL, ?_⟩
        cases q : h₀.get? D₀ with
        | none => rfl
        | some o => rw [F.keep _ _ q] at fresh; cases fresh
      · exact ⟨kp _ _ (N p hp).2.1 (N p hp).1, (N p hp).2⟩
    · have := (N p hp).1; rw [q, fresh] at this; cases this
    · obtain ⟨x, y, t, hx, hy, rfl⟩ := hF i v e
      exact ⟨f x y, t, by rw [List.getElem?_zipWith, hx, hy], rfl⟩
  (run_tac sh1)
end
end Mine
namespace Mine
open PySem.Calls PyProof.V PySem.Spec PyProof.Rows.LCg
theorem fresh_2 : True := by
  w_top off
  trivial
theorem rm0 {a b c : Nat} (h : a ≤ b) (q : Nat.ble b c = true) : a ≤ c := Nat.le_trans h (Nat.le_of_ble_eq_true q)
theorem rm1 {a b c k : Nat} (h : a ≤ b) (q : Nat.ble (b + k) c = true) : a + k ≤ c := Nat.le_trans (Nat.add_le_add_right h k) (Nat.le_of_ble_eq_true q)
theorem rm2 {a b c k l : Nat} (h : a ≤ b) (q : Nat.ble (b + k + l) c = true) : a + k + l ≤ c := Nat.le_trans (Nat.add_le_add_right (Nat.add_le_add_right h k) l) (Nat.le_of_ble_eq_true q)
theorem rm3 {a b c k l m : Nat} (h : a ≤ b) (q : Nat.ble (b + k + l + m) c = true) : a + k + l + m ≤ c := Nat.le_trans (Nat.add_le_add_right (Nat.add_le_add_right (Nat.add_le_add_right h k) l) m) (Nat.le_of_ble_eq_true q)
theorem rl0 {a b c : Nat} (h : a ≤ b) (q : Nat.ble (b + 1) c = true) : a < c := rm1 h q
theorem rl1 {a b c k : Nat} (h : a ≤ b) (q : Nat.ble (b + k + 1) c = true) : a + k < c := rm2 h q
theorem rl2 {a b c k l : Nat} (h : a ≤ b) (q : Nat.ble (b + k + l + 1) c = true) : a + k + l < c := rm3 h q
theorem rn0 {a b c : Nat} (h : a ≤ b := by with_reducible assumption) (q : Nat.ble b c = true := by rfl) : a ≤ c := rm0 h q
theorem rn1 {a b c k : Nat} (h : a ≤ b := by with_reducible assumption) (q : Nat.ble (b + k) c = true := by rfl) : a + k ≤ c := rm1 h q
theorem rn2 {a b c k l : Nat} (h : a ≤ b := by with_reducible assumption) (q : Nat.ble (b + k + l) c = true := by rfl) : a + k + l ≤ c := rm2 h q
theorem rn3 {a b c k l m : Nat} (h : a ≤ b := by with_reducible assumption) (q : Nat.ble (b + k + l + m) c = true := by rfl) : a + k + l + m ≤ c := rm3 h q
theorem rk0 {a b c : Nat} (h : a ≤ b := by with_reducible assumption) (q : Nat.ble (b + 1) c = true := by rfl) : a < c := rl0 h q
theorem rk1 {a b c k : Nat} (h : a ≤ b := by with_reducible assumption) (q : Nat.ble (b + k + 1) c = true := by rfl) : a + k < c := rl1 h q
theorem rk2 {a b c k l : Nat} (h : a ≤ b := by with_reducible assumption) (q : Nat.ble (b + k + l + 1) c = true := by rfl) : a + k + l < c := rl2 h q
theorem nl {a b : Nat} (h : b ≠ a := by with_reducible assumption) : a ≠ b := h.symm
theorem nl0 {a b : Nat} {r : Prop} (h : b ≠ a ∧ r := by with_reducible assumption) : a ≠ b := h.1.symm
theorem nl1 {a b : Nat} {p0 r : Prop} (h : p0 ∧ b ≠ a ∧ r := by with_reducible assumption) : a ≠ b := h.2.1.symm
theorem nr1 {a b : Nat} {p0 : Prop} (h : p0 ∧ b ≠ a := by with_reducible assumption) : a ≠ b := h.2.symm
theorem nl2 {a b : Nat} {p0 p1 r : Prop} (h : p0 ∧ p1 ∧ b ≠ a ∧ r := by with_reducible assumption) : a ≠ b := h.2.2.1.symm
theorem nr2 {a b : Nat} {p0 p1 : Prop} (h : p0 ∧ p1 ∧ b ≠ a := by with_reducible assumption) : a ≠ b := h.2.2.symm
theorem nl3 {a b : Nat} {p0 p1 p2 r : Prop} (h : p0 ∧ p1 ∧ p2 ∧ b ≠ a ∧ r := by with_reducible assumption) : a ≠ b := h.2.2.2.1.symm
theorem nr3 {a b : Nat} {p0 p1 p2 : Prop} (h : p0 ∧ p1 ∧ p2 ∧ b ≠ a := by with_reducible assumption) : a ≠ b := h.2.2.2.symm
theorem nl4 {a b : Nat} {p0 p1 p2 p3 r : Prop} (h : p0 ∧ p1 ∧ p2 ∧ p3 ∧ b ≠ a ∧ r := by with_reducible assumption) : a ≠ b := h.2.2.2.2.1.symm
theorem nr4 {a b : Nat} {p0 p1 p2 p3 : Prop} (h : p0 ∧ p1 ∧ p2 ∧ p3 ∧ b ≠ a := by with_reducible assumption) : a ≠ b := h.2.2.2.2.symm
theorem nl5 {a b : Nat} {p0 p1 p2 p3 p4 r : Prop} (h : p0 ∧ p1 ∧ p2 ∧ p3 ∧ p4 ∧ b ≠ a ∧ r := by with_reducible assumption) : a ≠ b := h.2.2.2.2.2.1.symm
theorem nr5 {a b : Nat} {p0 p1 p2 p3 p4 : Prop} (h : p0 ∧ p1 ∧ p2 ∧ p3 ∧ p4 ∧ b ≠ a := by with_reducible assumption) : a ≠ b := h.2.2.2.2.2.symm
theorem nl6 {a b : Nat} {p0 p1 p2 p3 p4 p5 r : Prop} (h : p0 ∧ p1 ∧ p2 ∧ p3 ∧ p4 ∧ p5 ∧ b ≠ a ∧ r := by with_reducible assumption) : a ≠ b := h.2.2.2.2.2.2.1.symm
theorem nr6 {a b : Nat} {p0 p1 p2 p3 p4 p5 : Prop} (h : p0 ∧ p1 ∧ p2 ∧ p3 ∧ p4 ∧ p5 ∧ b ≠ a := by with_reducible assumption) : a ≠ b := h.2.2.2.2.2.2.symm
theorem nl7 {a b : Nat} {p0 p1 p2 p3 p4 p5 p6 r : Prop} (h : p0 ∧ p1 ∧ p2 ∧ p3 ∧ p4 ∧ p5 ∧ p6 ∧ b ≠ a ∧ r := by with_reducible assumption) : a ≠ b := h.2.2.2.2.2.2.2.1.symm
theorem nr7 {a b : Nat} {p0 p1 p2 p3 p4 p5 p6 : Prop} (h : p0 ∧ p1 ∧ p2 ∧ p3 ∧ p4 ∧ p5 ∧ p6 ∧ b ≠ a := by with_reducible assumption) : a ≠ b := h.2.2.2.2.2.2.2.symm
section
variable {prog : Program} {w : World} {A₀ A : Around} {s : Shared} {base h₀ : Heap} {outer : List Env} {env : Env} {L : Addr} {m : Str → Option Value} {K : Frag} {p : Program} {loose : List Str} {mean : ExcName → Option Value} {mg mb : Str → Option Value}
  {name qual : Str} {params : Arguments} {body : List Stmt} {scope : Scope} {dV kV doc pm cdv ct oc : Value} {an od : Option Addr} {osl : Array (Option Value)} {f : Addr} {pos : List Value} {kw : List (Str × Value)} {binds : List (Str × Value)}
  {Q : Value → Shared → Prop} {E : Value → Shared → Prop}

theorem enterP (B : Below A₀ base outer h₀) (F : Fr h₀ L s.heap m) (X : K.In h₀) (T : Top p loose mean mg mb h₀) (hA : A.frames = some (env :: outer)) (hf : env.frame = some L) (hke : env.scope.kind = .function) (hroom : A.depth < recursionLimit)
    (ho : K.lookup f = some ⟨oc, od, .func (fnOf name qual params body scope dV kV doc pm an cdv ct), osl⟩) (hcd : codeIn K cdv qual = true)
    (hbind : BindsTo s (fnOf name qual params body scope dV kV doc pm an cdv ct) ⟨pos, kw⟩ binds) (hloc : ∀ y ∈ binds, scope.names.lookup y.1 = some .local)
    (hcell : ∀ x ∈ scope.names, x.2 ≠ .cell) (hco : scope.isCoroutine = false) (hgen : scope.isGenerator = false) (hk : scope.kind = .function)
    (h : ∀ L' h₁ tk, Fr s.heap L' h₁ (fun y => binds.reverse.lookup y) → News s.heap L' h₁ [] → Below A base (env :: outer) s.heap → K.In s.heap → Top p loose mean mg mb s.heap →
      wpAny (model prog w) (A.deeper (envOf qual scope L' f cdv)) (execs body (envOf qual scope L' f cdv))
        (fun fl s' => Q (match fl with | .ret v => v | _ => .none) s')
        (fun e s' => wpAny (model prog w) (A.deeper (envOf qual scope L' f cdv)) (leaving (envOf qual scope L' f cdv) e) (fun _ s'' => E e s'') (fun e' s'' => E e' s'') s')
        { s with heap := h₁, toks := tk }) : wpAny (model prog w) A (call (.ref f) pos kw) Q E s := by
  obtain ⟨FG, BG, st, lv⟩ := groundX (news := []) (R := fun _ _ => True) B F News.nil hA hf hke
  refine wpAny_call (codeAny_call_def (fd := fnX name qual params body scope [] dV kV doc pm an cdv ct) (body := body) (binds := binds) hroom ((X.keeps F.keep) _ _ ho) rfl (T.nolimit.keeps F.keep) (codeRec_of (X.keeps F.keep) hcd) rfl hbind hcell hloc (fun h₁ hns hk₁ => ?_) hco hgen hk)
  exact h s.heap.objs.size h₁ _ ⟨hns, fun b o e => hk₁ b o e, Nat.le_refl _⟩ News.nil BG (X.keeps F.keep) (T.keeps F.keep)
theorem enterPc (B : Below A₀ base outer h₀) (F : Fr h₀ L s.heap m) (X : K.In h₀) (T : Top p loose mean mg mb h₀) (hA : A.frames = some (env :: outer)) (hf : env.frame = some L) (hke : env.scope.kind = .function) (hroom : A.depth < recursionLimit)
    (ho : K.lookup f = some ⟨oc, od, .func (fnOf name qual params body scope dV kV doc pm an cdv ct), osl⟩) (hcd : codeIn K cdv qual = true)
    (hbind : BindsTo s (fnOf name qual params body scope dV kV doc pm an cdv ct) ⟨pos, kw⟩ binds) (hloc : ∀ y ∈ binds, scope.names.lookup y.1 = some .local)
    (hcell : ∀ x ∈ scope.names, x.2 ≠ .cell) (hco : scope.isCoroutine = false) (hgen : scope.isGenerator = false) (hk : scope.kind = .function)
    (h : ∀ L' h₁ tk, Fr s.heap L' h₁ (fun y => binds.reverse.lookup y) → News s.heap L' h₁ [] → Below A base (env :: outer) s.heap → K.In s.heap → Top p loose mean mg mb s.heap →
      wpAny (model prog w) (A.deeper (envOf qual scope L' f cdv)) (execs body (envOf qual scope L' f cdv))
        (fun fl s' => Q (match fl with | .ret v => v | _ => .none) s')
        (fun e s' => wpAny (model prog w) (A.deeper (envOf qual scope L' f cdv)) (leaving (envOf qual scope L' f cdv) e) (fun _ s'' => E e s'') (fun e' s'' => E e' s'') s')
        { s with heap := h₁, toks := tk }) : codeAny (model prog w) A (.call (.ref f) ⟨pos, kw⟩) (fun r s' => match r with | .ok (.ret v) => Q v s' | .ok _ => False | .error e => E e s') s := by
  obtain ⟨FG, BG, st, lv⟩ := groundX (news := []) (R := fun _ _ => True) B F News.nil hA hf hke
  refine (codeAny_call_def (fd := fnX name qual params body scope [] dV kV doc pm an cdv ct) (body := body) (binds := binds) hroom ((X.keeps F.keep) _ _ ho) rfl (T.nolimit.keeps F.keep) (codeRec_of (X.keeps F.keep) hcd) rfl hbind hcell hloc (fun h₁ hns hk₁ => ?_) hco hgen hk)
  exact h s.heap.objs.size h₁ _ ⟨hns, fun b o e => hk₁ b o e, Nat.le_refl _⟩ News.nil BG (X.keeps F.keep) (T.keeps F.keep)

theorem enterC (B : Below A₀ base outer h₀) (F : Fr h₀ L s.heap m) (X : K.In h₀) (T : Top p loose mean mg mb h₀) (hA : A.frames = some (env :: outer)) (hf : env.frame = some L) (hke : env.scope.kind = .function) (hroom : A.depth < recursionLimit)
    (ho : K.lookup f = some ⟨oc, od, .func (fnOf name qual params body scope dV kV doc pm an cdv ct), osl⟩) (hcd : codeIn K cdv qual = true)
    (hbind : BindsTo s (fnOf name qual params body scope dV kV doc pm an cdv ct) ⟨pos, kw⟩ binds) (hkind : (binds.all fun y => scope.names.lookup y.1 == some .local || scope.names.lookup y.1 == some .cell) = true)
    (hnd : ((cellsFrom 0 scope.names []).map (·.1)).Nodup) (hco : scope.isCoroutine = false) (hgen : scope.isGenerator = false) (hk : scope.kind = .function)
    (h : ∀ L' h₁ tk cells, Fr s.heap L' h₁ (bindL (envOfC qual scope L' f cdv).kindOf binds fun _ => none) → News s.heap L' h₁ (cells ++ []) →
      CellsAre (bindC (envOfC qual scope L' f cdv).kindOf binds fun _ => none) (cellsFrom (L' + 1) scope.names []) cells → Below A base (env :: outer) s.heap → K.In s.heap → Top p loose mean mg mb s.heap →
      wpAny (model prog w) (A.deeper (envOfC qual scope L' f cdv)) (execs body (envOfC qual scope L' f cdv))
        (fun fl s' => Q (match fl with | .ret v => v | _ => .none) s')
        (fun e s' => wpAny (model prog w) (A.deeper (envOfC qual scope L' f cdv)) (leaving (envOfC qual scope L' f cdv) e) (fun _ s'' => E e s'') (fun e' s'' => E e' s'') s')
        { s with heap := h₁, toks := tk }) : wpAny (model prog w) A (call (.ref f) pos kw) Q E s := by
  (run_tac sh0)
  obtain ⟨FG, BG, st, lv⟩ := groundX (news := []) (R := fun _ _ => True) B F News.nil hA hf hke
  refine wpAny_call (codeAny_call_function (fd := fnX name qual params body scope [] dV kV doc pm an cdv ct) hroom ((X.keeps F.keep) _ _ ho) rfl hco hgen rfl (codeRec_of (X.keeps F.keep) hcd) (hbind _ _ _ _ ?_))
  refine wpAny_newFunctionEnv_cells hk (kindsX hkind _) fun env' he s' x => ?_
  subst he
  refine ⟨(T.nolimit.keeps F.keep).keeps x.toInCall.keep, codeAny_func ?_⟩
  obtain ⟨h₁, tk, rfl, _⟩ := x.done
  have hk₁ := x.toInCall.keep
  obtain ⟨cells, NC, Y⟩ := Cl.news (h₀ := s.heap) (Nat.le_refl _) fun n c hm => ⟨x.cell n c (lookup_of_mem_nodup (cellsFrom_names scope.names 0 (s.heap.objs.size + 1) [] [] rfl ▸ hnd) hm), x.above n c hm⟩
  refine h s.heap.objs.size h₁ tk cells ⟨x.toInCall.ns, fun b o e => hk₁ b o e, Nat.le_refl _⟩ (fun q hq => ?_) Y BG (X.keeps F.keep) (T.keeps F.keep)
  rw [List.append_nil] at hq
  exact ⟨(NC q hq).1, (NC q hq).2.1, (NC q hq).2.2⟩
  (run_tac sh1)
theorem enterCc (B : Below A₀ base outer h₀) (F : Fr h₀ L s.heap m) (X : K.In h₀) (T : Top p loose mean mg mb h₀) (hA : A.frames = some (env :: outer)) (hf : env.frame = some L) (hke : env.scope.kind = .function) (hroom : A.depth < recursionLimit)
    (ho : K.lookup f = some ⟨oc, od, .func (fnOf name qual params body scope dV kV doc pm an cdv ct), osl⟩) (hcd : codeIn K cdv qual = true)
    (hbind : BindsTo s (fnOf name qual params body scope dV kV doc pm an cdv ct) ⟨pos, kw⟩ binds) (hkind : (binds.all fun y => scope.names.lookup y.1 == some .local || scope.names.lookup y.1 == some .cell) = true)
    (hnd : ((cellsFrom 0 scope.names []).map (·.1)).Nodup) (hco : scope.isCoroutine = false) (hgen : scope.isGenerator = false) (hk : scope.kind = .function)
    (h : ∀ L' h₁ tk cells, Fr s.heap L' h₁ (bindL (envOfC qual scope L' f cdv).kindOf binds fun _ => none) → News s.heap L' h₁ (cells ++ []) →
      CellsAre (bindC (envOfC qual scope L' f cdv).kindOf binds fun _ => none) (cellsFrom (L' + 1) scope.names []) cells → Below A base (env :: outer) s.heap → K.In s.heap → Top p loose mean mg mb s.heap →
      wpAny (model prog w) (A.deeper (envOfC qual scope L' f cdv)) (execs body (envOfC qual scope L' f cdv))
        (fun fl s' => Q (match fl with | .ret v => v | _ => .none) s')
        (fun e s' => wpAny (model prog w) (A.deeper (envOfC qual scope L' f cdv)) (leaving (envOfC qual scope L' f cdv) e) (fun _ s'' => E e s'') (fun e' s'' => E e' s'') s')
        { s with heap := h₁, toks := tk }) : codeAny (model prog w) A (.call (.ref f) ⟨pos, kw⟩) (fun r s' => match r with | .ok (.ret v) => Q v s' | .ok _ => False | .error e => E e s') s := by
  (run_tac sh0)
  obtain ⟨FG, BG, st, lv⟩ := groundX (news := []) (R := fun _ _ => True) B F News.nil hA hf hke
  refine (codeAny_call_function (fd := fnX name qual params body scope [] dV kV doc pm an cdv ct) hroom ((X.keeps F.keep) _ _ ho) rfl hco hgen rfl (codeRec_of (X.keeps F.keep) hcd) (hbind _ _ _ _ ?_))
  refine wpAny_newFunctionEnv_cells hk (kindsX hkind _) fun env' he s' x => ?_
  subst he
  refine ⟨(T.nolimit.keeps F.keep).keeps x.toInCall.keep, codeAny_func ?_⟩
  obtain ⟨h₁, tk, rfl, _⟩ := x.done
  have hk₁ := x.toInCall.keep
  obtain ⟨cells, NC, Y⟩ := Cl.news (h₀ := s.heap) (Nat.le_refl _) fun n c hm => ⟨x.cell n c (lookup_of_mem_nodup (cellsFrom_names scope.names 0 (s.heap.objs.size + 1) [] [] rfl ▸ hnd) hm), x.above n c hm⟩
  refine h s.heap.objs.size h₁ tk cells ⟨x.toInCall.ns, fun b o e => hk₁ b o e, Nat.le_refl _⟩ (fun q hq => ?_) Y BG (X.keeps F.keep) (T.keeps F.keep)
  rw [List.append_nil] at hq
  exact ⟨(NC q hq).1, (NC q hq).2.1, (NC q hq).2.2⟩
  (run_tac sh1)
end
/-- how a call hands back: all that stood stands -/
def Ret (s : Shared) (Q : Value → Shared → Prop) (post : Value → Heap → Prop) : Prop :=
  ∀ v h' tk, (∀ b o, s.heap.get? b = some o → h'.get? b = some o) → post v h' → Q v { s with heap := h', toks := tk }
theorem ret_of {s : Shared} {Q : Value → Shared → Prop} {post : Value → Heap → Prop} {L : Addr} {m : Str → Option Value} {h' : Heap} {v : Value} {tk : Nat} (R : Ret s Q post) (F : Fr s.heap L h' m) (hp : post v h') : Q v { s with heap := h', toks := tk } :=
  R v h' tk F.keep hp
theorem instAt_base {h₀ h : Heap} {L x C dx : Addr} {m : Str → Option Value} {od : Obj} {sl : Array (Option Value)} (F : Fr h₀ L h m)
    (h1 : h₀.get? x = some (⟨.ref C, some dx, .plain, sl⟩ : Obj)) (h2 : h₀.get? dx = some od) : InstAt h x ⟨.ref C, some dx, .plain, sl⟩ C (some od) := ⟨F.keep _ _ h1, rfl, rfl, F.keep _ _ h2⟩
theorem keep2 {h0 h1 h : Heap} {L0 L1 : Addr} {m0 m1 : Str → Option Value} {a : Addr} {o : Obj} (F1 : Fr h1 L1 h m1) (F0 : Fr h0 L0 h1 m0) (e : h0.get? a = some o) : h.get? a = some o := F1.keep _ _ (F0.keep _ _ e)
theorem keep3 {h0 h1 h2 h : Heap} {L0 L1 L2 : Addr} {m0 m1 m2 : Str → Option Value} {a : Addr} {o : Obj} (F2 : Fr h2 L2 h m2) (F1 : Fr h1 L1 h2 m1) (F0 : Fr h0 L0 h1 m0) (e : h0.get? a = some o) : h.get? a = some o := F2.keep _ _ (F1.keep _ _ (F0.keep _ _ e))
theorem list1 {h1 h : Heap} {L1 : Addr} {m1 : Str → Option Value} {a : Addr} {o : Array Value} (F1 : Fr h1 L1 h m1) (e : h1.IsList a o) : h.IsList a o := e.at fun x q => F1.keep _ x q
theorem list2 {h0 h1 h : Heap} {L0 L1 : Addr} {m0 m1 : Str → Option Value} {a : Addr} {o : Array Value} (F1 : Fr h1 L1 h m1) (F0 : Fr h0 L0 h1 m0) (e : h0.IsList a o) : h.IsList a o := list1 F1 (list1 F0 e)
theorem frames_in {A : Around} {base h₀ : Heap} {outer : List Env} {e : Env} (B : Below A base outer h₀) : (A.deeper e).frames = some (e :: outer) := Around.frames_deeper B.stack
section
variable {M : Model} {prog : Program} {w : World} {A : Around} {E : Value → Shared → Prop} {s : Shared} {K : Frag} {env : Env} {pos : Pos} {x C : Addr} {ox : Obj} {od : Option Obj} {first : List Value} {Q : Value → Shared → Prop}
theorem own_callWithKW {e : PySem.Expr} {rest : List PySem.Expr} {kws : List Keyword} (_X : K.In s.heap) (_I : InstAt s.heap x ox C od) (hd : ox.data = .plain) (hall : (backToKw pos (keywordEach kws env)).all (·.1.isSome) = true)
    (h : wpAny M A (spliced (backTo pos (starEach (e :: rest) env))) (fun vs s₁ => wpAny M A (evalAll ((backToKw pos (keywordEach kws env)).map (·.2)))
      (fun ks s₂ => kco_P K x C ox od s₂.heap ∧ wpAny M A (call (.ref x) (first ++ vs) (((backToKw pos (keywordEach kws env)).filterMap (·.1)).zip ks)) Q E s₂) E s₁) E s)
    (hplain : ((backTo pos (starEach (e :: rest) env)).any (·.1) || (backToKw pos (keywordEach kws env)).any (·.1.isNone)) = false := by rfl) (he : starEach (e :: rest) env = (false, eval e env) :: starEach rest env := by rfl) :
    wpAny M A (callWith pos (.ref x) first (backTo pos (starEach (e :: rest) env)) (backToKw pos (keywordEach kws env))) Q E s :=
  kco_callWith_of hplain hd (evalArgs_kw2 hall h he)
theorem own_call {f : Addr} {ps : List Value} {kw : List (Str × Value)} (X : K.In s.heap) (I : InstAt s.heap x ox C od) (hd : ox.data = .plain) (hs : findIn K (.ref C) "__call__" = some (some (.ref f))) (hf : isFn K (.ref f) = true) (hfn : fnIn K f = true)
    (h : codeAny (model prog w) A (.call (.ref f) ⟨.ref x :: ps, kw⟩) (fun r s' => match r with | .ok (.ret v) => Q v s' | .ok _ => False | .error e => E e s') s) : wpAny (model prog w) A (call (.ref x) ps kw) Q E s :=
  wpAny_call (kco_code X I hd hs hf hfn h)
end
theorem stop_call {M : Model} {A : Around} {f : Addr} {pos : List Value} {kw : List (Str × Value)} {Q : Value → Shared → Prop} {E : Value → Shared → Prop} {s : Shared} (h : wpAny M A (call (.ref f) pos kw) Q E s) : wpAny M A (call (.ref f) pos kw) Q E s := h
theorem stop_Assign {M : Model} {A : Around} {env : Env} {ts : List PySem.Expr} {elt : PySem.Expr} {gs : List Comprehension} {sc : Scope} {p q : Pos} {Q : Flow → Shared → Prop} {E : Value → Shared → Prop} {s : Shared} (h : wpAny M A (exec (.Assign ts (.ListComp elt gs sc p) q) env) Q E s) : wpAny M A (exec (.Assign ts (.ListComp elt gs sc p) q) env) Q E s := h
theorem stop_Comp {M : Model} {A : Around} {env : Env} {elt : PySem.Expr} {gs : List Comprehension} {sc : Scope} {p : Pos} {Q : Value → Shared → Prop} {E : Value → Shared → Prop} {s : Shared} (h : wpAny M A (eval (.ListComp elt gs sc p) env) Q E s) : wpAny M A (eval (.ListComp elt gs sc p) env) Q E s := h
theorem stop_builtin {M : Model} {A : Around} {f : String} {pos : List Value} {kw : List (Str × Value)} {Q : Value → Shared → Prop} {E : Value → Shared → Prop} {s : Shared} (h : wpAny M A (call (.builtin f) pos kw) Q E s) : wpAny M A (call (.builtin f) pos kw) Q E s := h
theorem stop_getMethod {M : Model} {A : Around} {v : Value} {n : Str} {pl : Sem Bool} {Q : Value × List Value → Shared → Prop} {E : Value → Shared → Prop} {s : Shared} (h : wpAny M A (getMethod v n pl) Q E s) : wpAny M A (getMethod v n pl) Q E s := h
theorem stop_setItem {M : Model} {A : Around} {a b c : Value} {Q : Unit → Shared → Prop} {E : Value → Shared → Prop} {s : Shared} (h : wpAny M A (setItem a b c) Q E s) : wpAny M A (setItem a b c) Q E s := h
theorem stop_type {M : Model} {A : Around} {f : String} {pos : List Value} {kw : List (Str × Value)} {Q : Value → Shared → Prop} {E : Value → Shared → Prop} {s : Shared} (h : wpAny M A (call (.type f) pos kw) Q E s) : wpAny M A (call (.type f) pos kw) Q E s := h
theorem stop_cw {M : Model} {A : Around} {pos : Pos} {f : Value} {first : List Value} {e : PySem.Expr} {rest : List PySem.Expr} {env : Env} {Q : Value → Shared → Prop} {E : Value → Shared → Prop} {s : Shared} (h : wpAny M A (callWith pos f first (backTo pos (starEach (e :: rest) env)) []) Q E s) : wpAny M A (callWith pos f first (backTo pos (starEach (e :: rest) env)) []) Q E s := h
theorem stop_cw0 {M : Model} {A : Around} {pos : Pos} {f : Value} {first : List Value} {as : List (Bool × Sem Value)} {Q : Value → Shared → Prop} {E : Value → Shared → Prop} {s : Shared} (h : wpAny M A (callWith pos f first as []) Q E s) : wpAny M A (callWith pos f first as []) Q E s := h
theorem stop_br {M : Model} {A : Around} {x : Addr} {pl : Sem Bool} {Q : Value × List Value → Shared → Prop} {E : Value → Shared → Prop} {s : Shared} (h : wpAny M A (getMethod (.ref x) (Str.ofString "br") pl) Q E s) : wpAny M A (getMethod (.ref x) (Str.ofString "br") pl) Q E s := h
theorem stop_par {M : Model} {A : Around} {x : Addr} {pl : Sem Bool} {Q : Value × List Value → Shared → Prop} {E : Value → Shared → Prop} {s : Shared} (h : wpAny M A (getMethod (.ref x) (Str.ofString "parent") pl) Q E s) : wpAny M A (getMethod (.ref x) (Str.ofString "parent") pl) Q E s := h
theorem stop_ring {M : Model} {A : Around} {x : Addr} {pl : Sem Bool} {Q : Value × List Value → Shared → Prop} {E : Value → Shared → Prop} {s : Shared} (h : wpAny M A (getMethod (.ref x) (Str.ofString "ring") pl) Q E s) : wpAny M A (getMethod (.ref x) (Str.ofString "ring") pl) Q E s := h
end Mine
namespace Mine
open PySem.Calls PyProof.V PySem.Spec PyProof.Rows.LCg
theorem fresh_3 : True := by
  w_top off
  trivial
section
variable {prog : Program} {w : World} {A₀ A : Around} {s : Shared} {base h₀ : Heap} {outer : List Env} {env : Env} {L : Addr} {m : Str → Option Value} {K : Frag} {p : Program} {loose : List Str} {mean : ExcName → Option Value} {mg mb : Str → Option Value}
  {name qual : Str} {params : Arguments} {body : List Stmt} {scope : Scope} {dV kV doc pm cdv ct oc : Value} {an od : Option Addr} {osl : Array (Option Value)} {f C : Addr} {pos : List Value} {kw : List (Str × Value)} {binds : Addr → List (Str × Value)}
  {Q : Value → Shared → Prop} {E : Value → Shared → Prop}
/-- the call of a class whose __init__ has no cells: what stood before the call stays in the base g of the walk -/
theorem enterI (B : Below A₀ base outer h₀) (F : Fr h₀ L s.heap m) (X : K.In h₀) (T : Top p loose mean mg mb h₀) (hA : A.frames = some (env :: outer)) (hf : env.frame = some L) (hke : env.scope.kind = .function)
    (hm : makesIn K C = true) (hi : findIn K (.ref C) "__init__" = some (some (.ref f))) (hif : isFn K (.ref f) = true) (hroom : (A.under (.builtin "type.__call__" ⟨.ref C :: pos, kw⟩)).depth < recursionLimit)
    (ho : K.lookup f = some ⟨oc, od, .func (fnOf name qual params body scope dV kV doc pm an cdv ct), osl⟩) (hcd : codeIn K cdv qual = true)
    (hbind : ∀ x s', BindsTo s' (fnOf name qual params body scope dV kV doc pm an cdv ct) ⟨.ref x :: pos, kw⟩ (binds x)) (hloc : ∀ x, ∀ y ∈ binds x, scope.names.lookup y.1 = some .local)
    (hcell : ∀ x ∈ scope.names, x.2 ≠ .cell) (hco : scope.isCoroutine = false) (hgen : scope.isGenerator = false) (hk : scope.kind = .function)
    (h : ∀ g L' h₁ tk x dx, Fr g L' h₁ (fun y => (binds x).reverse.lookup y) → News g L' h₁ [(x, instObj C dx), (dx, dictOf [] 0)] → Below (A.under (.builtin "type.__call__" ⟨.ref C :: pos, kw⟩)) base (env :: outer) g → K.In g → Top p loose mean mg mb g →
      (∀ b o, s.heap.get? b = some o → g.get? b = some o) → s.heap.get? x = none → s.heap.get? dx = none → @Ne Nat x dx →
      wpAny (model prog w) ((A.under (.builtin "type.__call__" ⟨.ref C :: pos, kw⟩)).deeper (envOf qual scope L' f cdv)) (execs body (envOf qual scope L' f cdv))
        (fun fl s' => InitBack x (fun r s' => match r with | .ok (.ret v) => Q v s' | .ok _ => False | .error e => E e s') (.ok (.ret (match fl with | .ret v => v | _ => .none))) s')
        (fun e s' => wpAny (model prog w) ((A.under (.builtin "type.__call__" ⟨.ref C :: pos, kw⟩)).deeper (envOf qual scope L' f cdv)) (leaving (envOf qual scope L' f cdv) e) (fun _ s'' => E e s'') (fun e' s'' => E e' s'') s')
        { s with heap := h₁, toks := tk }) : wpAny (model prog w) A (call (.ref C) pos kw) Q E s := by
  (run_tac sh0)
  obtain ⟨hh, gs, dr, t, os⟩ := s
  have X' := X.keeps F.keep
  refine wpAny_call (make_core (makes_of X' hm) (looks_findIn X' hi) (fun self => bind_fn X' self (beq_iff_eq.mp hif)) (.inl rfl) ?_)
  have F' := (F.push emptyDict).push (instObj C hh.objs.size)
  have N' := (News.nil.push F emptyDict).push (F.push _) (instObj C hh.objs.size)
  rw [Heap.size_push] at N'
  have hA' : (A.under (.builtin "type.__call__" ⟨.ref C :: pos, kw⟩)).frames = some (env :: outer) := hA
  obtain ⟨FG, BG, st, lv⟩ := groundX (s := ⟨(hh.push emptyDict).push (instObj C hh.objs.size), gs, dr, t, os⟩) (R := fun _ _ => True) B F' N' hA' hf hke
  refine codeAny_call_def (fd := fnX name qual params body scope [] dV kV doc pm an cdv ct) (body := body) (binds := binds (hh.objs.size + 1)) hroom ((X.keeps F'.keep) _ _ ho) rfl (T.nolimit.keeps F'.keep) (codeRec_of (X.keeps F'.keep) hcd) rfl (hbind _ _) hcell (hloc _) (fun h₁ hns hk₁ => ?_) hco hgen hk
  have n0 : ∀ k, hh.objs.size ≤ k → hh.get? k = none := fun k hk => by
    rcases e : hh.get? k with _ | o
    · rfl
    · exact absurd (Heap.lt_size e) (Nat.not_lt.mpr hk)
  refine h _ _ h₁ _ _ hh.objs.size ⟨hns, fun b o e => hk₁ b o (of_hideAll _ e), Nat.le_of_eq (hideAll_size _ _)⟩
    (fun p hp => ⟨hk₁ _ _ (N' p hp).1, Nat.ne_of_lt (Heap.lt_size (N' p hp).1), hideAll_none _ (List.mem_map_of_mem hp)⟩) BG (X.keeps st) (T.keeps st) (fun b o e => hideAll_get _ (Heap.get?_push_of_some _ (Heap.get?_push_of_some _ e)) fun q => ?_) (n0 _ (Nat.le_succ _)) (n0 _ (Nat.le_refl _)) (Nat.succ_ne_self _)
  have hb := Heap.lt_size e
  rcases List.mem_cons.mp q with rfl | q
  · exact absurd hb (Nat.not_lt.mpr (Nat.le_succ _))
  · rw [List.mem_singleton.mp q] at hb; exact absurd hb (Nat.lt_irrefl _)
  (run_tac sh1)
theorem enterIC (B : Below A₀ base outer h₀) (F : Fr h₀ L s.heap m) (X : K.In h₀) (T : Top p loose mean mg mb h₀) (hA : A.frames = some (env :: outer)) (hf : env.frame = some L) (hke : env.scope.kind = .function)
    (hm : makesIn K C = true) (hi : findIn K (.ref C) "__init__" = some (some (.ref f))) (hif : isFn K (.ref f) = true) (hroom : (A.under (.builtin "type.__call__" ⟨.ref C :: pos, kw⟩)).depth < recursionLimit)
    (ho : K.lookup f = some ⟨oc, od, .func (fnOf name qual params body scope dV kV doc pm an cdv ct), osl⟩) (hcd : codeIn K cdv qual = true)
    (hbind : ∀ x s', BindsTo s' (fnOf name qual params body scope dV kV doc pm an cdv ct) ⟨.ref x :: pos, kw⟩ (binds x)) (hkind : ∀ x, ((binds x).all fun y => scope.names.lookup y.1 == some .local || scope.names.lookup y.1 == some .cell) = true)
    (hnd : ((cellsFrom 0 scope.names []).map (·.1)).Nodup) (hco : scope.isCoroutine = false) (hgen : scope.isGenerator = false) (hk : scope.kind = .function)
    (h : ∀ g L' h₁ tk cells x dx, Fr g L' h₁ (bindL (envOfC qual scope L' f cdv).kindOf (binds x) fun _ => none) → News g L' h₁ (cells ++ [(x, instObj C dx), (dx, dictOf [] 0)]) →
      CellsAre (bindC (envOfC qual scope L' f cdv).kindOf (binds x) fun _ => none) (cellsFrom (L' + 1) scope.names []) cells → Below (A.under (.builtin "type.__call__" ⟨.ref C :: pos, kw⟩)) base (env :: outer) g → K.In g → Top p loose mean mg mb g →
      (∀ b o, s.heap.get? b = some o → g.get? b = some o) → s.heap.get? x = none → s.heap.get? dx = none → @Ne Nat x dx → @LT.lt Nat _ x L' → @LT.lt Nat _ dx L' →
      wpAny (model prog w) ((A.under (.builtin "type.__call__" ⟨.ref C :: pos, kw⟩)).deeper (envOfC qual scope L' f cdv)) (execs body (envOfC qual scope L' f cdv))
        (fun fl s' => InitBack x (fun r s' => match r with | .ok (.ret v) => Q v s' | .ok _ => False | .error e => E e s') (.ok (.ret (match fl with | .ret v => v | _ => .none))) s')
        (fun e s' => wpAny (model prog w) ((A.under (.builtin "type.__call__" ⟨.ref C :: pos, kw⟩)).deeper (envOfC qual scope L' f cdv)) (leaving (envOfC qual scope L' f cdv) e) (fun _ s'' => E e s'') (fun e' s'' => E e' s'') s')
        { s with heap := h₁, toks := tk }) : wpAny (model prog w) A (call (.ref C) pos kw) Q E s := by
  (run_tac sh0)
  obtain ⟨hh, gs, dr, t, os⟩ := s
  have X' := X.keeps F.keep
  refine wpAny_call (make_core (makes_of X' hm) (looks_findIn X' hi) (fun self => bind_fn X' self (beq_iff_eq.mp hif)) (.inl rfl) ?_)
  have F' := (F.push emptyDict).push (instObj C hh.objs.size)
  have N' := (News.nil.push F emptyDict).push (F.push _) (instObj C hh.objs.size)
  rw [Heap.size_push] at N'
  have hA' : (A.under (.builtin "type.__call__" ⟨.ref C :: pos, kw⟩)).frames = some (env :: outer) := hA
  obtain ⟨FG, BG, st, lv⟩ := groundX (s := ⟨(hh.push emptyDict).push (instObj C hh.objs.size), gs, dr, t, os⟩) (R := fun _ _ => True) B F' N' hA' hf hke
  refine codeAny_call_function (fd := fnX name qual params body scope [] dV kV doc pm an cdv ct) hroom ((X.keeps F'.keep) _ _ ho) rfl hco hgen rfl (codeRec_of (X.keeps F'.keep) hcd) ((hbind _ _) _ _ _ _ ?_)
  refine wpAny_newFunctionEnv_cells hk (kindsX (hkind _) _) fun env' he s' x => ?_
  subst he
  refine ⟨(T.nolimit.keeps F'.keep).keeps x.toInCall.keep, codeAny_func ?_⟩
  obtain ⟨h₁, tk, rfl, _⟩ := x.done
  have hk₁ := x.toInCall.keep
  obtain ⟨cells, NC, Y⟩ := Cl.news (h₀ := (hh.push emptyDict).push (instObj C hh.objs.size)) (Nat.le_refl _) fun n c hm => ⟨x.cell n c (lookup_of_mem_nodup (cellsFrom_names scope.names 0 (((hh.push emptyDict).push (instObj C hh.objs.size)).objs.size + 1) [] [] rfl ▸ hnd) hm), x.above n c hm⟩
  have n0 : ∀ k, hh.objs.size ≤ k → hh.get? k = none := fun k hk => by
    rcases e : hh.get? k with _ | o
    · rfl
    · exact absurd (Heap.lt_size e) (Nat.not_lt.mpr hk)
  refine h _ _ h₁ _ cells _ hh.objs.size ⟨x.toInCall.ns, fun b o e => hk₁ b o (of_hideAll _ e), Nat.le_of_eq (hideAll_size _ _)⟩ (fun p hp => ?_) Y BG (X.keeps st) (T.keeps st) (fun b o e => hideAll_get _ (Heap.get?_push_of_some _ (Heap.get?_push_of_some _ e)) fun q => ?_)
    (n0 _ (Nat.le_succ _)) (n0 _ (Nat.le_refl _)) (Nat.succ_ne_self _) (Heap.lt_size (N' _ (.head _)).1) (Heap.lt_size (N' _ (.tail _ (.head _))).1)
  · rcases List.mem_append.mp hp with hp | hp
    · refine ⟨(NC p hp).1, (NC p hp).2.1, ?_⟩
      cases q : (hideAll ((hh.push emptyDict).push (instObj C hh.objs.size)) ([(hh.objs.size + 1, instObj C hh.objs.size), (hh.objs.size, emptyDict)].map (·.1))).get? p.1 with
      | none => rfl
      | some o => have := of_hideAll _ q; rw [(NC p hp).2.2] at this; cases this
    · exact ⟨hk₁ _ _ (N' p hp).1, Nat.ne_of_lt (Heap.lt_size (N' p hp).1), hideAll_none _ (List.mem_map_of_mem hp)⟩
  · have hb := Heap.lt_size e
    rcases List.mem_cons.mp q with rfl | q
    · exact absurd hb (Nat.not_lt.mpr (Nat.le_succ _))
    · rw [List.mem_singleton.mp q] at hb; exact absurd hb (Nat.lt_irrefl _)
  (run_tac sh1)
end
/-- the walk is at the end of an __init__ -/
theorem ret_ofI {s : Shared} {Q : Value → Shared → Prop} {E : Value → Shared → Prop} {post : Value → Heap → Prop} {g : Heap} {L : Addr} {m : Str → Option Value} {h' : Heap} {x : Addr} {tk : Nat} (R : Ret s Q post) (F : Fr g L h' m) (hg : ∀ b o, s.heap.get? b = some o → g.get? b = some o) (hp : post (.ref x) h') :
    InitBack x (fun r s' => match r with | .ok (.ret v) => Q v s' | .ok _ => False | .error e => E e s') (.ok (.ret .none)) { s with heap := h', toks := tk } :=
  ⟨rfl, R _ h' tk (fun b o e => F.keep b o (hg b o e)) hp⟩
end Mine
namespace Mine
open PySem.Calls PyProof.V PySem.Spec PyProof.Rows.LCg
theorem fresh_4 : True := by
  w_top off
  trivial
section
variable {prog : Program} {w : World} {A : Around} {E : Value → Shared → Prop} {s : Shared} {env : Env}

theorem none_of_keeps {h h' : Heap} {a : Addr} (k : ∀ b o, h.get? b = some o → h'.get? b = some o) (e : h'.get? a = none) : h.get? a = none := by
  cases q : h.get? a with
  | none => rfl
  | some o => rw [k _ _ q] at e; cases e
theorem paired_at {F : Value → Value → Prop} : ∀ {l₁ l₂ : List Value}, Paired F l₁ l₂ → ∀ (i : Nat) (y : Value), l₂[i]? = some y → ∃ x, l₁[i]? = some x ∧ F x y
  | _, _, .nil, i, y, e => by simp at e
  | _, _, .cons h t, 0, y, e => by simp at e; exact ⟨_, by simp, e ▸ h⟩
  | _, _, .cons h t, i + 1, y, e => by
    obtain ⟨x, hx, hf⟩ := paired_at t i y (by simpa using e)
    exact ⟨x, by simpa using hx, hf⟩
theorem lst_len {D : Addr} {h : Heap} {ys : Array Value} (e : h.PlainList D ys) : ∃ n, h.get? D = some (listOf ys n) := by
  obtain ⟨n, e⟩ := e
  exact ⟨n, e⟩

/-- what a comprehension over a list of ints wants where its source is known, its answer an int of each -/
inductive MS (prog : Program) (w : World) (A : Around) (env : Env) (elt : PySem.Expr) (x : Str) (scope : Scope) (cl : List (Str × Addr)) (f : Int → Int) (Q : Value → Shared → Prop) (xv : Value) (s : Shared) : Prop
  | mk (l : Addr) (vs : List Value) (ns : List Int) (c0 : xv = .ref l) (c1 : s.heap.IsList l vs.toArray) (c2 : IntsAre vs ns) (c3 : ns.length ≤ sizeLine) (c4 : (∀ C n t s₃ m₃ E', n ∈ ns → s.heap.objs.size ≤ C → s₃.heap.Ns C m₃ → m₃ x = some (.int n t) → (∀ c o, s.heap.get? c = some o → s₃.heap.get? c = some o) → wpAny (model prog w) A (eval elt (compEnvC scope cl C env)) (fun v s₄ => (∃ t, v = .int (f n) t) ∧ Keeps s₃ s₄) E' s₃)) (c5 : (∀ D h' tk ys k, s.heap.get? D = none → h'.get? D = some (listOf (List.toArray ys) k) → IntsAre ys (ns.map f) → (∀ c o, s.heap.get? c = some o → h'.get? c = some o) → Q (.ref D) { s with heap := h', toks := tk })) : MS prog w A env elt x scope cl f Q xv s
inductive MSA (prog : Program) (w : World) (A : Around) (env : Env) (elt : PySem.Expr) (x y : Str) (scope : Scope) (cl : List (Str × Addr)) (f : Int → Int) (Q : Flow → Shared → Prop) (xv : Value) (s : Shared) : Prop
  | mk (l : Addr) (vs : List Value) (ns : List Int) (h₀ : Heap) (m : Str → Option Value) (news : List (Addr × Obj)) (c0 : xv = .ref l) (c1 : s.heap.IsList l vs.toArray) (c2 : IntsAre vs ns) (c3 : ns.length ≤ sizeLine) (c4 : Fr h₀ env.locals s.heap m) (c5 : News h₀ env.locals s.heap news) (c6 : (∀ C n t s₃ m₃ E', n ∈ ns → s.heap.objs.size ≤ C → s₃.heap.Ns C m₃ → m₃ x = some (.int n t) → (∀ c o, s.heap.get? c = some o → s₃.heap.get? c = some o) → wpAny (model prog w) A (eval elt (compEnvC scope cl C env)) (fun v s₄ => (∃ t, v = .int (f n) t) ∧ Keeps s₃ s₄) E' s₃)) (c7 : (∀ D h' tk ys k, Fr h₀ env.locals h' (fun z => if z = y then some (.ref D) else m z) → News h₀ env.locals h' ((D, listOf (List.toArray ys) k) :: news) → (∀ p ∈ news, p.1 ≠ D) → IntsAre ys (ns.map f) → Q .next { s with heap := h', toks := tk })) : MSA prog w A env elt x y scope cl f Q xv s
theorem stop_MS {f : Int → Int} {elt : PySem.Expr} {x : Str} {scope : Scope} {cl : List (Str × Addr)} {Q : Value → Shared → Prop} {xv : Value} (h : MS prog w A env elt x scope cl f Q xv s) : MS prog w A env elt x scope cl f Q xv s := h
theorem stop_MSA {f : Int → Int} {elt : PySem.Expr} {x y : Str} {scope : Scope} {cl : List (Str × Addr)} {Q : Flow → Shared → Prop} {xv : Value} (h : MSA prog w A env elt x y scope cl f Q xv s) : MSA prog w A env elt x y scope cl f Q xv s := h
theorem MS.intro {elt : PySem.Expr} {x : Str} {scope : Scope} {cl : List (Str × Addr)} {Q : Value → Shared → Prop} {l : Addr} {vs : List Value} {ns : List Int} (f : Int → Int) (hl : s.heap.IsList l vs.toArray) (hi : IntsAre vs ns) (hsz : ns.length ≤ sizeLine)
    (helt : ∀ C n t s₃ m₃ E', n ∈ ns → s.heap.objs.size ≤ C → s₃.heap.Ns C m₃ → m₃ x = some (.int n t) → (∀ c o, s.heap.get? c = some o → s₃.heap.get? c = some o) →
      wpAny (model prog w) A (eval elt (compEnvC scope cl C env)) (fun v s₄ => (∃ t, v = .int (f n) t) ∧ Keeps s₃ s₄) E' s₃)
    (hQ : ∀ D h' tk ys k, s.heap.get? D = none → h'.get? D = some (listOf (List.toArray ys) k) → IntsAre ys (ns.map f) → (∀ c o, s.heap.get? c = some o → h'.get? c = some o) → Q (.ref D) { s with heap := h', toks := tk }) :
    MS prog w A env elt x scope cl f Q (.ref l) s := ⟨l, vs, ns, rfl, hl, hi, hsz, helt, hQ⟩
theorem MSA.intro {elt : PySem.Expr} {x y : Str} {scope : Scope} {cl : List (Str × Addr)} {Q : Flow → Shared → Prop} {l L : Addr} {vs : List Value} {ns : List Int} {h₀ : Heap} {m : Str → Option Value} {news : List (Addr × Obj)} (f : Int → Int) (hL : env.locals = L) (F : Fr h₀ L s.heap m) (N : News h₀ L s.heap news) (hl : s.heap.IsList l vs.toArray) (hi : IntsAre vs ns) (hsz : ns.length ≤ sizeLine)
    (helt : ∀ C n t s₃ m₃ E', n ∈ ns → s.heap.objs.size ≤ C → s₃.heap.Ns C m₃ → m₃ x = some (.int n t) → (∀ c o, s.heap.get? c = some o → s₃.heap.get? c = some o) →
      wpAny (model prog w) A (eval elt (compEnvC scope cl C env)) (fun v s₄ => (∃ t, v = .int (f n) t) ∧ Keeps s₃ s₄) E' s₃)
    (hQ : ∀ D h' tk ys k, Fr h₀ L h' (fun z => if z = y then some (.ref D) else m z) → News h₀ L h' ((D, listOf (List.toArray ys) k) :: news) → (∀ p ∈ news, p.1 ≠ D) → IntsAre ys (ns.map f) → Q .next { s with heap := h', toks := tk }) :
    MSA prog w A env elt x y scope cl f Q (.ref l) s := by
  subst hL
  exact ⟨l, vs, ns, h₀, m, news, rfl, hl, hi, hsz, F, N, helt, hQ⟩

theorem ints_map {f : Int → Int} {vs ys : List Value} {ns : List Int} (hi : IntsAre vs ns) (hp : Paired (fun v y => ∃ n t u, v = .int n t ∧ y = .int (f n) u) vs ys) : IntsAre ys (ns.map f) := by
  (run_tac sh0)
  refine ints_of_at (by rw [List.length_map, ← hi.length]; exact hp.length.symm) fun i y e => ?_
  obtain ⟨x, hx, n, t, u, rfl, rfl⟩ := paired_at hp i y e
  obtain ⟨n', t', e', hn⟩ := hi.at i _ hx
  cases e'
  exact ⟨f n, u, by rw [List.getElem?_map, hn]; rfl, rfl⟩
  (run_tac sh1)

theorem map_ListComp {elt iter : PySem.Expr} {x : Str} {px : Pos} {scope : Scope} {cl : List (Str × Addr)} {pos : Pos} {Q : Value → Shared → Prop} (f : Int → Int)
    (hh : A.handled = none) (hclos : closureFor scope env = pure cl) (hcell : ∀ y ∈ scope.names, y.2 ≠ .cell) (hkind : scope.kind = .function)
    (hnames : ∀ y ∈ scope.names, y.2 = .local → scope.names.lookup y.1 = some .local) (hx : scope.names.lookup x = some .local)
    (h : wpAny (model prog w) A (eval iter env) (MS prog w A env elt x scope cl f Q) E s)
    (hs : ∀ x, foldedSetIterable iter env x = pure x := by intro _; rfl) :
    wpAny (model prog w) A (eval (.ListComp elt [⟨.Name x px, iter, [], 0⟩] scope pos) env) Q E s := by
  (run_tac sh0)
  refine wpAny_ListComp_free (fun _ => true) (fun v y => ∃ (n : Int) (t u : Tok), v = .int n t ∧ y = .int (f n) u) hclos hcell hkind hnames hx (wpAny_mono h (fun xv s₁ h₁ => ?_) fun _ _ e => e) hs
  obtain ⟨ax, vs, ns, rfl, hl, hi, hsz, helt, hQ⟩ := h₁
  have hlt : ax < s₁.heap.objs.size := by obtain ⟨_, e, _⟩ := hl; exact Heap.lt_size e
  have up : ∀ (s₃ : Shared), (∀ b o, b ∉ [s₁.heap.objs.size] → (s₁.heap.push { cls := .type "list_iterator", data := .fields #[.ref ax, .int 0 0] }).get? b = some o → s₃.heap.get? b = some o) → ∀ b o, s₁.heap.get? b = some o → s₃.heap.get? b = some o :=
    fun s₃ hk b o e => hk b o (fun hm => by rcases List.mem_cons.mp hm with rfl | hm; exact Nat.lt_irrefl _ (Heap.lt_size e); cases hm) (Heap.get?_push_of_some _ e)
  refine wpAny_pyIter_list hl ⟨s₁.heap.objs.size, [s₁.heap.objs.size, ax], [s₁.heap.objs.size], vs.toArray.size, _, _, rfl, Walks.list hh _ _ (Nat.ne_of_lt hlt) vs.toArray, (by rw [List.size_toArray, hi.length]; exact hsz), ⟨⟨_, Heap.get?_push_size _ rfl, rfl, rfl⟩, hl.push _⟩, ?_, ⟨?_, ?_⟩, ?_⟩
  · intro b hb
    show b < (s₁.heap.push _).objs.size
    rw [Heap.size_push]
    rcases List.mem_cons.mp hb with rfl | hb
    · exact Nat.lt_succ_self _
    · rcases List.mem_cons.mp hb with rfl | hb
      · exact Nat.lt_succ_of_lt hlt
      · cases hb
  · intro C i v s₃ m₃ E' hC hP hn hm hk _
    exact wpAny_tests_nil ⟨rfl, _, _, rfl, fun _ _ e => e⟩
  · intro C i v s₃ m₃ E' hC hP hp hn hm hk _
    obtain ⟨n, t, rfl, hn'⟩ := hi.at i v (by simpa using hP)
    refine wpAny_mono (helt C n t s₃ m₃ E' (List.mem_of_getElem? hn') (Nat.le_of_succ_le (by simpa [Heap.size_push] using hC)) hn hm (up s₃ hk)) (fun y s₄ h₄ => ⟨?_, h₄.2⟩) fun _ _ e => e
    obtain ⟨u, rfl⟩ := h₄.1
    exact ⟨n, t, u, rfl, rfl⟩
  · intro D h' tk ys vs' hnew hlD hplD hlen hP hF hk
    have e : vs' = vs := by simpa using list_of_places hlen hP
    subst e
    obtain ⟨k, hD⟩ := lst_len hplD
    have e2 : vs'.filter (fun _ => true) = vs' := by simp
    rw [e2] at hF
    refine hQ D h' tk ys.toList k (none_of_keeps (fun b o e => Heap.get?_push_of_some _ e) hnew) (by rw [Array.toArray_toList]; exact hD) (ints_map hi hF) (up { s₁ with heap := h' } hk)
  (run_tac sh1)

theorem map_Assign {elt iter : PySem.Expr} {x y : Str} {px py : Pos} {scope : Scope} {cl : List (Str × Addr)} {pos spos : Pos} {Q : Flow → Shared → Prop} (f : Int → Int)
    (hsw : swapsWith (.ListComp elt [⟨.Name x px, iter, [], 0⟩] scope pos) (some (.Name y py)) spos.line env = pure true)
    (hh : A.handled = none) (hclos : closureFor scope env = pure cl) (hcell : ∀ y ∈ scope.names, y.2 ≠ .cell) (hkind : scope.kind = .function)
    (hnames : ∀ y ∈ scope.names, y.2 = .local → scope.names.lookup y.1 = some .local) (hx : scope.names.lookup x = some .local)
    (hy : env.kindOf y = some .local) (hp : (env.scope.kind == .class || (env.scope.kind == .module && env.locals != env.globals)) = false)
    (h : wpAny (model prog w) A (eval iter env) (MSA prog w A env elt x y scope cl f Q) E s)
    (hs : ∀ x, foldedSetIterable iter env x = pure x := by intro _; rfl) :
    wpAny (model prog w) A (exec (.Assign [.Name y py] (.ListComp elt [⟨.Name x px, iter, [], 0⟩] scope pos) spos) env) Q E s := by
  (run_tac sh0)
  refine wpAny_Assign_ListComp_free (fun _ => true) (fun v y => ∃ (n : Int) (t u : Tok), v = .int n t ∧ y = .int (f n) u) hsw hclos hcell hkind hnames hx hy hp (wpAny_mono h (fun xv s₁ h₁ => ?_) fun _ _ e => e) hs
  obtain ⟨ax, vs, ns, h₀, m, news, rfl, hl, hi, hsz, F, N, helt, hQ⟩ := h₁
  have hlt : ax < s₁.heap.objs.size := by obtain ⟨_, e, _⟩ := hl; exact Heap.lt_size e
  have up : ∀ (s₃ : Shared), (∀ b o, b ∉ [s₁.heap.objs.size] → (s₁.heap.push { cls := .type "list_iterator", data := .fields #[.ref ax, .int 0 0] }).get? b = some o → s₃.heap.get? b = some o) → ∀ b o, s₁.heap.get? b = some o → s₃.heap.get? b = some o :=
    fun s₃ hk b o e => hk b o (fun hm => by rcases List.mem_cons.mp hm with rfl | hm; exact Nat.lt_irrefl _ (Heap.lt_size e); cases hm) (Heap.get?_push_of_some _ e)
  refine wpAny_pyIter_list hl ⟨s₁.heap.objs.size, [s₁.heap.objs.size, ax], [s₁.heap.objs.size], vs.toArray.size, _, _, m, rfl, Walks.list hh _ _ (Nat.ne_of_lt hlt) vs.toArray, (by rw [List.size_toArray, hi.length]; exact hsz), ⟨⟨_, Heap.get?_push_size _ rfl, rfl, rfl⟩, hl.push _⟩, ?_, ?_, F.ns.push _, ⟨?_, ?_⟩, ?_⟩
  · intro b hb
    show b < (s₁.heap.push _).objs.size
    rw [Heap.size_push]
    rcases List.mem_cons.mp hb with rfl | hb
    · exact Nat.lt_succ_self _
    · rcases List.mem_cons.mp hb with rfl | hb
      · exact Nat.lt_succ_of_lt hlt
      · cases hb
  · intro hm
    rcases List.mem_cons.mp hm with e | hm
    · exact Nat.lt_irrefl _ (e ▸ F.ns.lt)
    · cases hm
  · intro C i v s₃ m₃ E' hC hP hn hm hk _
    exact wpAny_tests_nil ⟨rfl, _, _, rfl, fun _ _ e => e⟩
  · intro C i v s₃ m₃ E' hC hP hp hn hm hk _
    obtain ⟨n, t, rfl, hn'⟩ := hi.at i v (by simpa using hP)
    refine wpAny_mono (helt C n t s₃ m₃ E' (List.mem_of_getElem? hn') (Nat.le_of_succ_le (by simpa [Heap.size_push] using hC)) hn hm (up s₃ hk)) (fun y s₄ h₄ => ⟨?_, h₄.2⟩) fun _ _ e => e
    obtain ⟨u, rfl⟩ := h₄.1
    exact ⟨n, t, u, rfl, rfl⟩
  · intro D h' tk ys vs' hnew hlD hplD hlen hP hF hn' hk
    have e : vs' = vs := by simpa using list_of_places hlen hP
    subst e
    obtain ⟨k, hD⟩ := lst_len hplD
    have e2 : vs'.filter (fun _ => true) = vs' := by simp
    rw [e2] at hF
    have hD0 : s₁.heap.get? D = none := none_of_keeps (fun b o e => Heap.get?_push_of_some _ e) hnew
    have kp : ∀ c o, c ≠ env.locals → s₁.heap.get? c = some o → h'.get? c = some o := fun c o hc e => hk c o hc (fun hm => by rcases List.mem_cons.mp hm with rfl | hm; exact Nat.lt_irrefl _ (Heap.lt_size e); cases hm) (Heap.get?_push_of_some _ e)
    have old : ∀ c o, h₀.get? c = some o → c ≠ env.locals := fun c o e => Nat.ne_of_lt (Nat.lt_of_lt_of_le (Heap.lt_size e) F.above)
    have hDL : D ≠ env.locals := by rintro rfl; obtain ⟨o, _, _, ho, _⟩ := F.ns; rw [hD0] at ho; cases ho
    refine hQ D h' tk ys.toList k ⟨hn', fun c o e => kp c o (old c o e) (F.keep c o e), F.above⟩ (fun p hp => ?_) (fun p hp q => ?_) (ints_map hi hF)
    · rcases List.mem_cons.mp hp with rfl | hp
      · exact ⟨by rw [Array.toArray_toList]; exact hD, hDL, none_of_keeps F.keep hD0⟩
      · exact ⟨kp _ _ (N p hp).2.1 (N p hp).1, (N p hp).2⟩
    · have := (N p hp).1; rw [q, hD0] at this; cases this
  (run_tac sh1)
end
end Mine
namespace Mine
open PySem.Calls PyProof.V PySem.Spec PyProof.Rows.LCg
theorem fresh_5 : True := by
  w_top off
  trivial
section
variable {prog : Program} {w : World} {A : Around} {E : Value → Shared → Prop} {s : Shared} {env : Env}
/-- a comprehension over range(n) of whose answers nothing is asked but that they come -/
inductive MR (prog : Program) (w : World) (A : Around) (env : Env) (elt : PySem.Expr) (x : Str) (scope : Scope) (cl : List (Str × Addr)) (n : Nat) (Q : Value → Shared → Prop) (xv : Value) (s : Shared) : Prop
  | mk (r : Addr) (t u v : Tok) (c0 : xv = .ref r) (c1 : IsRange s.heap r 0 n 1 t u v) (c2 : Builtin.Range.small 0 (n : Int) 1 = true) (c3 : Builtin.Range.rangeSize 0 (n : Int) 1 = ((n : Nat) : Int)) (c4 : n ≤ sizeLine) (c5 : (∀ C (i : Int) t s₃ m₃ E', 0 ≤ i → i < n → s.heap.objs.size ≤ C → s₃.heap.Ns C m₃ → m₃ x = some (.int i t) → (∀ c o, s.heap.get? c = some o → s₃.heap.get? c = some o) → wpAny (model prog w) A (eval elt (compEnvC scope cl C env)) (fun v s₄ => True ∧ Keeps s₃ s₄) E' s₃)) (c6 : (∀ D h' tk ys k, s.heap.get? D = none → h'.get? D = some (listOf ys k) → (∀ c o, s.heap.get? c = some o → h'.get? c = some o) → Q (.ref D) { s with heap := h', toks := tk })) : MR prog w A env elt x scope cl n Q xv s
theorem stop_MR {n : Nat} {elt : PySem.Expr} {x : Str} {scope : Scope} {cl : List (Str × Addr)} {Q : Value → Shared → Prop} {xv : Value} (h : MR prog w A env elt x scope cl n Q xv s) : MR prog w A env elt x scope cl n Q xv s := h
theorem MR.intro {n : Nat} {elt : PySem.Expr} {x : Str} {scope : Scope} {cl : List (Str × Addr)} {Q : Value → Shared → Prop} {r : Addr} {t u v : Tok} (hr : IsRange s.heap r 0 n 1 t u v) (hs : Builtin.Range.small 0 (n : Int) 1 = true) (hn : Builtin.Range.rangeSize 0 (n : Int) 1 = ((n : Nat) : Int)) (hz : n ≤ sizeLine)
    (helt : ∀ C (i : Int) t s₃ m₃ E', 0 ≤ i → i < n → s.heap.objs.size ≤ C → s₃.heap.Ns C m₃ → m₃ x = some (.int i t) → (∀ c o, s.heap.get? c = some o → s₃.heap.get? c = some o) →
      wpAny (model prog w) A (eval elt (compEnvC scope cl C env)) (fun v s₄ => True ∧ Keeps s₃ s₄) E' s₃)
    (hQ : ∀ D h' tk ys k, s.heap.get? D = none → h'.get? D = some (listOf ys k) → (∀ c o, s.heap.get? c = some o → h'.get? c = some o) → Q (.ref D) { s with heap := h', toks := tk }) :
    MR prog w A env elt x scope cl n Q (.ref r) s := ⟨r, t, u, v, rfl, hr, hs, hn, hz, helt, hQ⟩
theorem rng_ListComp {elt iter : PySem.Expr} {x : Str} {px : Pos} {scope : Scope} {cl : List (Str × Addr)} {pos : Pos} {Q : Value → Shared → Prop} (n : Nat)
    (hh : A.handled = none) (hclos : closureFor scope env = pure cl) (hcell : ∀ y ∈ scope.names, y.2 ≠ .cell) (hkind : scope.kind = .function)
    (hnames : ∀ y ∈ scope.names, y.2 = .local → scope.names.lookup y.1 = some .local) (hx : scope.names.lookup x = some .local)
    (h : wpAny (model prog w) A (eval iter env) (MR prog w A env elt x scope cl n Q) E s)
    (hs : ∀ x, foldedSetIterable iter env x = pure x := by intro _; rfl) :
    wpAny (model prog w) A (eval (.ListComp elt [⟨.Name x px, iter, [], 0⟩] scope pos) env) Q E s := by
  (run_tac sh0)
  refine wpAny_ListComp_free (fun _ => true) (fun _ _ => True) hclos hcell hkind hnames hx (wpAny_mono h (fun xv s₁ h₁ => ?_) fun _ _ e => e) hs
  obtain ⟨r, t, u, v, rfl, hr, hsm, hn, hsz, helt, hQ⟩ := h₁
  have up : ∀ (s₃ : Shared) (o' : Obj), (∀ b o, b ∉ [s₁.heap.objs.size] → (s₁.heap.push o').get? b = some o → s₃.heap.get? b = some o) → ∀ b o, s₁.heap.get? b = some o → s₃.heap.get? b = some o :=
    fun s₃ o' hk b o e => hk b o (fun hm => by rcases List.mem_cons.mp hm with rfl | hm; exact Nat.lt_irrefl _ (Heap.lt_size e); cases hm) (Heap.get?_push_of_some _ e)
  refine wpAny_pyIter_range hr hsm ⟨s₁.heap.objs.size, [s₁.heap.objs.size], [s₁.heap.objs.size], n, _, _, rfl, (Walks.range hh _ 0 1 n).bound, hsz, ?_, ?_, ⟨?_, ?_⟩, ?_⟩
  · show IsRangeIter _ _ _ _ _; rw [hn]; simpa using Heap.get?_push_size _ rfl
  · intro b hb
    show b < (s₁.heap.push _).objs.size
    rw [Heap.size_push]
    rcases List.mem_cons.mp hb with rfl | hb
    · exact Nat.lt_succ_self _
    · cases hb
  · intro C i v s₃ m₃ E' hC hP hn hm hk _
    exact wpAny_tests_nil ⟨rfl, _, _, rfl, fun _ _ e => e⟩
  · intro C i v s₃ m₃ E' hC hP hp hn hm hk _
    obtain ⟨hi, t, rfl⟩ := hP
    refine wpAny_mono (helt C _ t s₃ m₃ E' (by omega) (by omega) (Nat.le_of_succ_le (by simpa [Heap.size_push] using hC)) hn hm (up s₃ _ hk)) (fun y s₄ h₄ => h₄) fun _ _ e => e
  · intro D h' tk ys vs' hnew hlD hplD hlen hP hF hk
    obtain ⟨k, hD⟩ := lst_len hplD
    exact hQ D h' tk _ k (none_of_keeps (fun b o e => Heap.get?_push_of_some _ e) hnew) hD (up { s₁ with heap := h' } _ hk)
  (run_tac sh1)
theorem news_ne {h₀ h : Heap} {L D : Addr} {news : List (Addr × Obj)} (N : News h₀ L h news) (e : h.get? D = none) : ∀ p ∈ news, @Ne Nat p.1 D := fun p hp q => by
  have := (N p hp).1; rw [q, e] at this; cases this
end
end Mine
namespace Mine
open PySem.Calls PyProof.V PySem.Spec PyProof.Rows.LCg
theorem fresh_6 : True := by
  w_top off
  trivial
section
variable {prog : Program} {w : World} {A : Around}

/-- what a generator's element answers: its value, and the heaps before and behind it -/
def EltH (prog : Program) (w : World) (cenv : Env) (fr : List Env) (x : Str) (elt : PySem.Expr) (fp wr : List Addr) (P : Nat → Value → Prop) (F : Nat → Value → Heap → Heap → Prop) (href : Heap) (D U : Nat) : Prop :=
  ∀ (A' : Around) E' i v (s₂ : Shared) m₂, A'.handled = none → A'.depth ≤ D → A'.units ≤ U → A'.frames = some (cenv :: fr) → P i v → s₂.heap.Ns cenv.locals m₂ → m₂ x = some v → (∀ b ∈ fp, b ∉ wr → ∀ o, href.get? b = some o → s₂.heap.get? b = some o) →
    wpAny (model prog w) A' (eval elt cenv) (fun y s₃ => F i y s₂.heap s₃.heap ∧ Keeps s₂ s₃) E' s₂

def protoH (C : Addr) (fp wr : List Addr) (n₀ : Nat) (F : Nat → Value → Heap → Heap → Prop) : Protocol := fun m s₀ v s kap =>
  F (n₀ - 1 - m) v s₀.heap s.heap ∧ GenSince C wr s₀ s ∧ (∀ b ∈ C :: wr, s.heap.get? b ≠ none) ∧
    ∀ s'' : Shared, (∀ b ∈ C :: fp, ∀ o, s.heap.get? b = some o → s''.heap.get? b = some o) → kap (.send .none) s''
/-- what was free later was free earlier -/
def Older (h₀ h : Heap) : Prop := ∀ b, h.get? b = none → h₀.get? b = none
theorem Older.refl (h : Heap) : Older h h := fun _ e => e
theorem Older.trans {a b c : Heap} (x : Older a b) (y : Older b c) : Older a c := fun d e => x d (y d e)
theorem Older.of {h₀ h : Heap} (k : ∀ b o, h₀.get? b = some o → h.get? b = some o) : Older h₀ h := fun b e => none_of_keeps k e
theorem Older.but {h₀ h : Heap} {l : List Addr} (k : ∀ b o, b ∉ l → h₀.get? b = some o → h.get? b = some o) (hl : ∀ b ∈ l, h.get? b ≠ none) : Older h₀ h := fun b e => by
  by_cases hb : b ∈ l
  · exact absurd e (hl b hb)
  · cases q : h₀.get? b with
    | none => rfl
    | some o => rw [k b o hb q] at e; cases e

theorem seg_loopH {elt iter : PySem.Expr} {x : Str} {px : Pos} {scope : Scope} {pos : Pos} {I : Addr} {fp wr : List Addr} {n₀ : Nat} {P : Nat → Value → Prop} {St₀ : Nat → Heap → Prop} {cenv : Env} {fr : List Env}
    (hh : A.handled = none) (hfr : A.frames = some fr) (W₀ : ∀ A' : Around, A'.handled = none → Walks prog w A' I fp wr n₀ P St₀) (F : Nat → Value → Heap → Heap → Prop) (href : Heap)
    (hF : ∀ i v h₀ h₁ h, Older h₀ h₁ → F i v h₁ h → F i v h₀ h) (hwr : ∀ i h b, b ∈ wr → St₀ i h → h.get? b ≠ none)
    (hx : cenv.kindOf x = some .local) (hp : (cenv.scope.kind == .class || (cenv.scope.kind == .module && cenv.locals != cenv.globals)) = false)
    (hco : cenv.scope.isCoroutine = false) (hCf : cenv.locals ∉ fp) (hq : EltH prog w cenv fr x elt fp wr P F href (A.depth + 1) (A.units + 3)) :
    ∀ (k i : Nat) (s₀ s : Shared) (m : Str → Option Value), n₀ - i = k → i ≤ n₀ → St₀ i s.heap → s.heap.Ns cenv.locals m → GenSince cenv.locals wr s₀ s → Older s₀.heap s.heap →
      (∀ b ∈ fp, b ∉ wr → ∀ o, href.get? b = some o → s.heap.get? b = some o) →
      Seg (model prog w) A (fun n s₀ r s₁ => r = .ok .next ∧ (n = 0 ∧ GenSince cenv.locals wr s₀ s₁)) (protoH cenv.locals fp wr n₀ F) (n₀ - i) s₀
        (.compLoop (.GeneratorExp elt [⟨.Name x px, iter, [], 0⟩] scope pos) 0 (.ref I) .none cenv)
        ((model prog w).den (.compLoop (.GeneratorExp elt [⟨.Name x px, iter, [], 0⟩] scope pos) 0 (.ref I) .none cenv)) [] s := by
  (run_tac sh0)
  have hh' : (A.over (.compLoop (.GeneratorExp elt [⟨.Name x px, iter, [], 0⟩] scope pos) 0 (.ref I) .none cenv) []).handled = none := hh
  have hdep' : (A.over (.compLoop (.GeneratorExp elt [⟨.Name x px, iter, [], 0⟩] scope pos) 0 (.ref I) .none cenv) []).depth ≤ A.depth + 1 := Nat.le_of_eq rfl
  have huni' : (A.over (.compLoop (.GeneratorExp elt [⟨.Name x px, iter, [], 0⟩] scope pos) 0 (.ref I) .none cenv) []).units ≤ A.units + 3 := Nat.le_of_eq rfl
  have hcf : Code.envs (.compLoop (.GeneratorExp elt [⟨.Name x px, iter, [], 0⟩] scope pos) 0 (.ref I) .none cenv) = [cenv] := rfl
  have hfra' : (A.over (.compLoop (.GeneratorExp elt [⟨.Name x px, iter, [], 0⟩] scope pos) 0 (.ref I) .none cenv) []).frames = some (cenv :: fr) := by
    simp only [Around.over]
    rw [hcf, hfr]; rfl
  have hCw : cenv.locals ∉ wr := fun h => hCf ((W₀ A hh).sub _ h)
  intro k
  induction k with
  | zero =>
    intro i s₀ s m hk hi hst hn hsince hold hkp
    have hin : i = n₀ := by omega
    subst hin
    show Seg _ A _ _ _ s₀ _ ((compTurn (.GeneratorExp elt [⟨.Name x px, iter, [], 0⟩] scope pos) 0 (.ref I) .none cenv).onRaise (leaving cenv)) [] s
    rw [compTurn_gen, Sem.onRaise_eq_wrap]
    refine seg_bind_wrap (wpAny_standAt ?_)
    refine seg_bind_wrap ((W₀ _ hh').done s _ _ hst fun h' tk hk' => ?_)
    exact seg_end (.ok .next) ⟨rfl, Nat.sub_self _, hsince.step fun b o _ hw e => hk' b o hw e⟩
  | succ k ih =>
    intro i s₀ s m hk hi hst hn hsince hold hkp
    have hlt : i < n₀ := by omega
    show Seg _ A _ _ _ s₀ _ ((compTurn (.GeneratorExp elt [⟨.Name x px, iter, [], 0⟩] scope pos) 0 (.ref I) .none cenv).onRaise (leaving cenv)) [] s
    rw [compTurn_gen, Sem.onRaise_eq_wrap]
    refine seg_bind_wrap (wpAny_standAt ?_)
    refine seg_bind_wrap ((W₀ _ hh').item i s _ _ hlt hst fun v h₁ tk₁ hPv hst₁ hk₁ => ?_)
    refine seg_bind_wrap (wpAny_of_eq (rfl : letOwnedTupleGo (.Name x px) (.ref I) v = pure ()) ?_)
    refine seg_bind_wrap (wpAny_assign_Name (wpAny_storeName_local hx (hn.at' fun o e => hk₁ _ o hCw e) (fun h₂ hn₂ hs₂ => ?_) hp))
    have up₂ : ∀ b o, b ≠ cenv.locals → b ∉ wr → s.heap.get? b = some o → h₂.get? b = some o := fun b o hbC hbw e => hs₂.extBut b o hbC (hk₁ b o hbw e)
    have hst₂ : St₀ (i + 1) h₂ := (W₀ A hh).frame _ _ _ hst₁ fun b hb o e => hs₂.extBut b o (fun h => hCf (h ▸ hb)) e
    have hkp₂ : ∀ b ∈ fp, b ∉ wr → ∀ o, href.get? b = some o → h₂.get? b = some o := fun b hb hbw o e => up₂ b o (fun h => hCf (h ▸ hb)) hbw (hkp b hb hbw o e)
    have hsome : ∀ b ∈ cenv.locals :: wr, h₂.get? b ≠ none := fun b hb => by
      rcases List.mem_cons.mp hb with rfl | hb
      · obtain ⟨o, _, _, e, _⟩ := hn₂; rw [e]; nofun
      · exact hwr _ _ _ hb hst₂
    have hold₂ : Older s₀.heap h₂ := hold.trans (Older.but (l := cenv.locals :: wr) (fun b o hb e => up₂ b o (fun q => hb (q ▸ List.mem_cons_self ..)) (fun q => hb (List.mem_cons_of_mem _ q)) e) hsome)
    refine seg_bind_wrap (wpAny_of_eq (a := true) rfl ?_)
    rw [show n₀ - i = (n₀ - (i + 1)) + 1 by omega]
    simp only [if_true]
    have hy : ∀ v, yieldOut cenv v = yieldValue v := fun v => by simp only [yieldOut, hco, Bool.false_eq_true, if_false]
    simp only [hy]
    rw [Sem.bind_eq_wrap', Sem.bind_eq_wrap', Sem.wrap_wrap, Sem.wrap_wrap]
    refine seg_wrap (wpAny_mono (hq _ _ i v _ _ hh' hdep' huni' hfra' hPv hn₂ (by simp) hkp₂) (fun y s₄ h₄ => ?_) fun _ _ e => e)
    obtain ⟨hFy, h₄, tk₄, rfl, hk₄⟩ := h₄
    have hs4 : GenSince cenv.locals wr s₀ { s with heap := h₄, toks := tk₄ } := hsince.step fun b o hbC hbw e => hk₄ b o (up₂ b o hbC hbw e)
    refine seg_at (seg_yield rfl rfl rfl ⟨?_, hs4, fun b hb q => ?_, fun s'' hal => ?_⟩)
    · rw [show n₀ - 1 - (n₀ - (i + 1)) = i by omega]
      exact hF _ _ _ _ _ hold₂ hFy
    · obtain ⟨o, e⟩ := Option.ne_none_iff_exists'.mp (hsome b hb)
      rw [hk₄ _ _ e] at q; cases q
    · refine seg_again rfl (ih (i + 1) s'' s'' _ (by omega) hlt ((W₀ A hh).frame _ _ _ hst₂ fun b hb o e => hal b (List.mem_cons_of_mem _ hb) o (hk₄ b o e))
        ((hn₂.keeps hk₄).at' fun o e => hal _ (List.mem_cons_self ..) o e) (GenSince.refl _ _ _) (Older.refl _) fun b hb hbw o e => hal b (List.mem_cons_of_mem _ hb) o (hk₄ b o (hkp₂ b hb hbw o e)))
  (run_tac sh1)

theorem seg_startH {elt iter : PySem.Expr} {x : Str} {px : Pos} {scope : Scope} {pos : Pos} {I : Addr} {fp wr : List Addr} {n₀ : Nat} {P : Nat → Value → Prop} {St₀ : Nat → Heap → Prop} {cenv : Env} {fr : List Env}
    (hh : A.handled = none) (hfr : A.frames = some fr) (W₀ : ∀ A' : Around, A'.handled = none → Walks prog w A' I fp wr n₀ P St₀) (F : Nat → Value → Heap → Heap → Prop) (href : Heap)
    (hF : ∀ i v h₀ h₁ h, Older h₀ h₁ → F i v h₁ h → F i v h₀ h) (hwr : ∀ i h b, b ∈ wr → St₀ i h → h.get? b ≠ none)
    (hx : cenv.kindOf x = some .local) (hp : (cenv.scope.kind == .class || (cenv.scope.kind == .module && cenv.locals != cenv.globals)) = false)
    (hco : cenv.scope.isCoroutine = false) (hCf : cenv.locals ∉ fp) (hq : EltH prog w cenv fr x elt fp wr P F href (A.depth + 1) (A.units + 3))
    (s₀ s : Shared) (m : Str → Option Value) (hst : St₀ 0 s.heap) (hn : s.heap.Ns cenv.locals m) (hsince : GenSince cenv.locals wr s₀ s) (hold : Older s₀.heap s.heap)
    (hkp : ∀ b ∈ fp, b ∉ wr → ∀ o, href.get? b = some o → s.heap.get? b = some o) :
    Seg (model prog w) A (fun n s₀ r s₁ => r = .ok .next ∧ (n = 0 ∧ GenSince cenv.locals wr s₀ s₁)) (protoH cenv.locals fp wr n₀ F) n₀ s₀
      (.compStart (.GeneratorExp elt [⟨.Name x px, iter, [], 0⟩] scope pos) 0 (.ref I) .none cenv)
      ((model prog w).den (.compStart (.GeneratorExp elt [⟨.Name x px, iter, [], 0⟩] scope pos) 0 (.ref I) .none cenv)) [] s := by
  (run_tac sh0)
  have hh' : (A.over (.compStart (.GeneratorExp elt [⟨.Name x px, iter, [], 0⟩] scope pos) 0 (.ref I) .none cenv) []).handled = none := hh
  have loop := seg_loopH (iter := iter) (px := px) (scope := scope) (pos := pos) hh hfr W₀ F href hF hwr hx hp hco hCf hq n₀ 0 s₀ s m (Nat.sub_zero _) (Nat.zero_le _) hst hn hsince hold hkp
  show Seg _ A _ _ _ s₀ _ ((compStart (.GeneratorExp elt [⟨.Name x px, iter, [], 0⟩] scope pos) 0 (.ref I) .none cenv).onRaise (leaving cenv)) [] s
  unfold compStart
  rw [Sem.onRaise_eq_wrap]
  show Seg _ A _ _ _ s₀ _ ((ask >>= _).wrap _ _ _ _) [] s
  refine seg_bind_wrap (wpAny_askSetting ?_)
  split
  · exact seg_again rfl loop
  · refine seg_bind_wrap (wpAny_rule ?_)
    show Seg _ A _ _ _ s₀ _ ((standAt iter.pos >>= _).wrap _ _ _ _) [] s
    exact seg_bind_wrap (wpAny_standAt (seg_bind_wrap ((W₀ _ hh').self 0 s _ _ hst (seg_again rfl loop))))
  (run_tac sh1)

/-- a generator in the middle of its work: j answers are given -/
def GenH (prog : Program) (w : World) (A : Around) (a : Addr) (g : Nat) (C : Addr) (fp wr : List Addr) (n₀ : Nat) (F : Nat → Value → Heap → Heap → Prop) (j : Nat) (s : Shared) : Prop :=
  s.heap.IsGen a g ∧ s.heap.NoLimit ∧ (∀ b ∈ C :: wr, s.heap.get? b ≠ none) ∧ ∃ gs, s.gens[g]? = some gs ∧ ∀ s'' : Shared, (∀ b ∈ C :: fp, ∀ o, s.heap.get? b = some o → s''.heap.get? b = some o) →
    gs.Goes (model prog w) A.in1 (fun n s₀ r s₁ => r = .ok .next ∧ (n = 0 ∧ GenSince C wr s₀ s₁)) (protoH C fp wr n₀ F) (n₀ - j) (.send .none) s''

theorem GenH.fresh {elt iter : PySem.Expr} {x : Str} {px : Pos} {scope : Scope} {pos : Pos} {I a : Addr} {g : Nat} {fp wr : List Addr} {n₀ : Nat} {P : Nat → Value → Prop} {St₀ : Nat → Heap → Prop} {cenv : Env} {fr : List Env}
    (hh : A.handled = none) (hfr : A.frames = some fr) (W₀ : ∀ A' : Around, A'.handled = none → Walks prog w A' I fp wr n₀ P St₀) (F : Nat → Value → Heap → Heap → Prop)
    (hF : ∀ i v h₀ h₁ h, Older h₀ h₁ → F i v h₁ h → F i v h₀ h) (hwr : ∀ i h b, b ∈ wr → St₀ i h → h.get? b ≠ none)
    (hx : cenv.kindOf x = some .local) (hp : (cenv.scope.kind == .class || (cenv.scope.kind == .module && cenv.locals != cenv.globals)) = false)
    (hco : cenv.scope.isCoroutine = false) (hCf : cenv.locals ∉ fp) {s : Shared} {m : Str → Option Value} (hq : EltH prog w cenv fr x elt fp wr P F s.heap (A.depth + 1) (A.units + 4))
    (hg : s.heap.IsGen a g) (hgs : s.gens[g]? = some (.fresh (.compStart (.GeneratorExp elt [⟨.Name x px, iter, [], 0⟩] scope pos) 0 (.ref I) .none cenv)))
    (hst : St₀ 0 s.heap) (hn : s.heap.Ns cenv.locals m) (hl : s.heap.NoLimit) : GenH prog w A a g cenv.locals fp wr n₀ F 0 s :=
  ⟨hg, hl, fun b hb => by
      rcases List.mem_cons.mp hb with rfl | hb
      · obtain ⟨o, _, _, e, _⟩ := hn; rw [e]; nofun
      · exact hwr _ _ _ hb hst, _, hgs, fun s'' hal => ⟨rfl, seg_startH (A := A.in1) hh hfr W₀ F s.heap hF hwr hx hp hco hCf hq s'' s'' m ((W₀ A hh).frame _ _ _ hst fun b hb o e => hal b (List.mem_cons_of_mem _ hb) o e)
    (hn.at' fun o e => hal _ (List.mem_cons_self ..) o e) (GenSince.refl _ _ _) (Older.refl _) fun b hb _ o e => hal b (List.mem_cons_of_mem _ hb) o e⟩⟩

section
variable {s : Shared} {a : Addr} {g : Nat} {C : Addr} {fp wr : List Addr} {n₀ : Nat} {F : Nat → Value → Heap → Heap → Prop} {j : Nat}
theorem GenH.item {Q : Option Value → Shared → Prop} {E : Value → Shared → Prop} (hh : A.handled = none) (haC : a ≠ C) (haf : a ∉ fp) (hsub : ∀ b ∈ wr, b ∈ fp) (hroom : A.depth < recursionLimit) (hcC : cStatics ≠ C) (hcw : cStatics ∉ wr)
    (st : GenH prog w A a g C fp wr n₀ F j s) (hj : j < n₀)
    (hQ : ∀ v s', F j v s.heap s'.heap → GenH prog w A a g C fp wr n₀ F (j + 1) s' → Moved (C :: wr) (GenOnlyQ g) s s' → Q (some v) s') : wpAny (model prog w) A (pyNext (.ref a)) Q E s := by
  (run_tac sh0)
  obtain ⟨hg, hl, hs0, gs, hgs, hgo⟩ := st
  obtain ⟨m, hm⟩ : ∃ m, n₀ - j = m + 1 := ⟨n₀ - j - 1, by omega⟩
  rw [hm] at hgo
  refine wpAny_with_toks (Nat.le_refl s.toks) ?_
  refine wpAny_pyNext_genexpQ (P := fun n s₀ s₁ => n = 0 ∧ GenSince C wr s₀ s₁) hh hl hroom hg hgs (hgo _ fun _ _ _ e => e) (fun v s₁ gs' hb hv => ?_) (fun s₁ hp h' hk => ?_)
  · obtain ⟨hF, ⟨h₁, tk₁, rfl, hk₁⟩, hsm, hkap⟩ := hv
    have hidx : n₀ - 1 - (m + 1 - 1) = j := by omega
    rw [hidx] at hF
    have haw : a ∉ wr := fun h => haf (hsub a h)
    intro htk
    refine hQ v _ hF ⟨let ⟨o, nm, qn, ho, r⟩ := hg; ⟨o, nm, qn, hk₁ a o haC haw ho, r⟩, (let ⟨mc, hns, hnn⟩ := hl; ⟨mc, hns.at' fun o e => hk₁ cStatics o hcC hcw e, hnn⟩), hsm, gs', setGen_self (gs := .running) (setGen_self hgs), fun s'' hal => ?_⟩
      ⟨fun b o hb e => hk₁ b o (fun h => hb (h ▸ List.mem_cons_self ..)) (fun h => hb (List.mem_cons_of_mem _ h)) e, GenOnlyQ.of ((GenOnly.setGen s g .running).trans (GenOnly.setGen _ g gs')) (setGen_self (gs := .running) (setGen_self hgs)) hb, rfl, rfl, htk⟩
    rw [show n₀ - (j + 1) = m by omega]
    exact hkap s'' hal
  · exact absurd hp.1 (Nat.succ_ne_zero m)
  (run_tac sh1)
theorem GenH.done {Q : Option Value → Shared → Prop} {E : Value → Shared → Prop} (hh : A.handled = none) (hroom : A.depth < recursionLimit)
    (st : GenH prog w A a g C fp wr n₀ F n₀ s) (hQ : ∀ s', Moved (C :: wr) (GenOnlyQ g) s s' → Q none s') : wpAny (model prog w) A (pyNext (.ref a)) Q E s := by
  (run_tac sh0)
  obtain ⟨hg, hl, _, gs, hgs, hgo⟩ := st
  rw [Nat.sub_self] at hgo
  refine wpAny_with_toks (Nat.le_refl s.toks) ?_
  refine wpAny_pyNext_genexpQ (P := fun n s₀ s₁ => n = 0 ∧ GenSince C wr s₀ s₁) hh hl hroom hg hgs (hgo _ fun _ _ _ e => e) (fun v s₁ gs' hb hv => ?_) (fun s₁ hp h' hk => ?_)
  · obtain ⟨_, _, _, hkap⟩ := hv
    exact False.elim (hkap s₁ fun _ _ _ e => e)
  · obtain ⟨_, h₁, tk₁, rfl, hk₁⟩ := hp
    intro htk
    exact hQ _ ⟨fun b o hb e => hk b o (hk₁ b o (fun h => hb (h ▸ List.mem_cons_self ..)) (fun h => hb (List.mem_cons_of_mem _ h)) e), GenOnlyQ.of ((GenOnly.setGen s g .running).trans (GenOnly.setGen _ g .finished)) (setGen_self (gs := .running) (setGen_self hgs)) rfl, rfl, rfl, htk⟩
  (run_tac sh1)
theorem GenH.frame (st : GenH prog w A a g C fp wr n₀ F j s) {h' : Heap} {tk : Tok} (hcs : cStatics ∈ fp) (hsub : ∀ b ∈ wr, b ∈ fp) (hk : ∀ b ∈ a :: C :: fp, ∀ o, s.heap.get? b = some o → h'.get? b = some o) : GenH prog w A a g C fp wr n₀ F j { s with heap := h', toks := tk } :=
  ⟨let ⟨o, nm, qn, ho, r⟩ := st.1; ⟨o, nm, qn, hk a (List.mem_cons_self ..) o ho, r⟩,
   (let ⟨mc, hns, hnn⟩ := st.2.1; ⟨mc, hns.at' fun o e => hk cStatics (List.mem_cons_of_mem _ (List.mem_cons_of_mem _ hcs)) o e, hnn⟩),
   (fun b hb q => by
      obtain ⟨o, e⟩ := Option.ne_none_iff_exists'.mp (st.2.2.1 b hb)
      have : b ∈ a :: C :: fp := by
        rcases List.mem_cons.mp hb with rfl | hb
        · exact List.mem_cons_of_mem _ (List.mem_cons_self ..)
        · exact List.mem_cons_of_mem _ (List.mem_cons_of_mem _ (hsub _ hb))
      rw [hk b this o e] at q; cases q),
   let ⟨gs, hgs, hgo⟩ := st.2.2.2; ⟨gs, hgs, fun s'' hal => hgo s'' fun b hb o e => hal b hb o (hk b (List.mem_cons_of_mem _ hb) o e)⟩⟩
end
end
end Mine
namespace Mine
open PySem.Calls PyProof.V PySem.Spec PyProof.Rows.LCg
theorem fresh_7 : True := by
  w_top off
  trivial
section
variable {prog : Program} {w : World} {A : Around} {E : Value → Shared → Prop} {s : Shared} {env : Env} {h₀ : Heap} {x : Str} {body : List Stmt} {Q : Flow → Shared → Prop}
/-- how a turn ends: the invariant holds again -/
def TurnJ (h₀ : Heap) (L : Addr) (I : Addr) (o : Obj) (J : (Str → Option Value) → List (Addr × Obj) → Prop) (s₁ : Shared) (Q : Flow → Shared → Prop) (f : Flow) (s₂ : Shared) : Prop :=
  match f with
  | .ret v => Q (.ret v) s₂
  | .brk => Q .next s₂
  | _ => ∃ h' tk m' news', s₂ = { s₁ with heap := h', toks := tk } ∧ Fr h₀ L h' m' ∧ News h₀ L h' ((I, o) :: news') ∧ (∀ p ∈ news', @Ne Nat p.1 I) ∧ J m' news'
theorem rng_loop {r : Addr} {t₀ u₀ v₀ : Tok} {m₀ : Str → Option Value} {news : List (Addr × Obj)} (n : Nat) (J : Nat → (Str → Option Value) → List (Addr × Obj) → Prop)
    (hh : A.handled = none) (hr : IsRange s.heap r 0 n 1 t₀ u₀ v₀) (hsmall : Builtin.Range.small 0 (n : Int) 1 = true) (hn : Builtin.Range.rangeSize 0 (n : Int) 1 = (n : Int)) (F : Fr h₀ env.locals s.heap m₀) (N : News h₀ env.locals s.heap news) (h0 : J 0 m₀ news)
    (turn : ∀ (i : Nat) t m₁ news₁ h tk I o, i < n → J i m₁ news₁ → (∀ p ∈ news₁, @Ne Nat p.1 I) → Fr h₀ env.locals h (fun y => if y = x then some (.int (i : Int) t) else m₁ y) → News h₀ env.locals h ((I, o) :: news₁) →
      wpAny (model prog w) A (execs body env) (TurnJ h₀ env.locals I o (J (i + 1)) { s with heap := h, toks := tk } Q) E { s with heap := h, toks := tk })
    (done : ∀ h tk m' news', Fr h₀ env.locals h m' → News h₀ env.locals h news' → J n m' news' → Q .next { s with heap := h, toks := tk }) :
    wpAny (model prog w) A (pyIter (.ref r)) (fun it s₂ => LoopAtV prog w A h₀ env x body Q E it s₂) E s := by
  (run_tac sh0)
  refine wpAny_pyIter_range hr hsmall ?_
  have W : Walks prog w A s.heap.objs.size [s.heap.objs.size] [s.heap.objs.size] n (fun i v => i < n ∧ ∃ t, v = .int (0 + i * 1) t)
      (fun i h => IsRangeIter h s.heap.objs.size (0 + (i : Nat) * 1) ((n : Int) - (i : Nat)) 1) := (Walks.range hh _ 0 1 n).bound
  have hI0 : h₀.get? s.heap.objs.size = none := next_is_new F
  refine ⟨s.heap.objs.size, [s.heap.objs.size], [s.heap.objs.size], n, _, _, m₀, news, J, rfl, W, ?_, ?_, ?_, (by show IsRangeIter _ _ _ _ _; rw [hn]; simpa using Heap.get?_push_size _ rfl), F.push _, (fun p hp => ⟨Heap.get?_push_of_some _ (N p hp).1, (N p hp).2⟩), h0, ?_, ?_⟩
  · intro hm
    exact absurd F.ns.lt ((List.mem_singleton.mp hm) ▸ Nat.lt_irrefl _)
  · intro b hb
    rw [List.mem_singleton.mp hb]
    exact hI0
  · intro p hp hI
    exact absurd (Heap.lt_size (N p hp).1) ((List.mem_singleton.mp hI) ▸ Nat.lt_irrefl _)
  · rintro i v m₁ news₁ s₁ own ⟨hh', tk', rfl⟩ hin ⟨_, t, hv⟩ hJ hoff hown hat hall hst' F₁ N₁
    obtain ⟨o, ho⟩ : ∃ o, hh'.get? s.heap.objs.size = some o := ⟨_, hst'⟩
    have hio := hall _ (List.mem_singleton.mpr rfl) hI0 _ ho
    have hone := own_one hown (fun b hb => .inl (List.mem_singleton.mp hb)) ho N₁
    have e : (0 + (i : Int) * 1) = (i : Int) := by omega
    rw [hv, e] at F₁
    refine wpAny_mono (turn i t m₁ news₁ hh' tk' _ o hin hJ (fun p hp q => hoff p hp (List.mem_singleton.mpr q)) F₁ (news_one hio N₁)) (fun f s₂ p => ?_) fun _ _ e => e
    have fin : (∃ h' tk m' news', s₂ = { ({ s with heap := hh', toks := tk' } : Shared) with heap := h', toks := tk } ∧ Fr h₀ env.locals h' m' ∧ News h₀ env.locals h' ((s.heap.objs.size, o) :: news') ∧ (∀ p ∈ news', @Ne Nat p.1 s.heap.objs.size) ∧ J (i + 1) m' news') →
        LoopStepU h₀ env.locals [s.heap.objs.size] own (J (i + 1)) { s with heap := hh', toks := tk' } .next s₂ := by
      rintro ⟨h', tk, m', news', e, F', N', hne, hm⟩
      exact ⟨rfl, h', tk, m', news', e, F', fun p hp => N' p (need_one hone (fun q hq => hq) p hp), fun p hp q => hne p hp (List.mem_singleton.mp q), hm⟩
    cases f with
    | ret v => exact .ret p
    | brk => exact .brk p
    | next => exact .next (fin p)
    | cont => exact .cont (fin p)
  · rintro h' tk m' news' F' N' _ hJ
    exact done h' tk m' news' F' N' hJ
  (run_tac sh1)
theorem stop_pyIter {M : Model} {xv : Value} {Q : Value → Shared → Prop} (h : wpAny M A (pyIter xv) Q E s) : wpAny M A (pyIter xv) Q E s := h
end
end Mine
namespace Mine
open PySem.Calls PyProof.V PySem.Spec PyProof.Rows.LCg
theorem fresh_8 : True := by
  w_top off
  trivial
/-- the tables of the two codes that make generators -/
def tabs : List Addr := [742, 695]
theorem ltA {a b : Addr} (h : a < b) : @LT.lt Nat instLTNat a b := h
theorem leA {a b : Addr} (h : a ≤ b) : @LE.le Nat instLENat a b := h
def TabsOk (h : Heap) : Prop := ∀ P ∈ tabs, ∃ ps, h.get? P = some (tabObj ps) ∧ TriplesOk ps.toList
theorem TabsOk.keeps {h h' : Heap} (x : TabsOk h) (k : ∀ b o, h.get? b = some o → h'.get? b = some o) : TabsOk h' := fun P hP => let ⟨ps, e, r⟩ := x P hP; ⟨ps, k _ _ e, r⟩
theorem TabsOk.at {h h' : Heap} (x : TabsOk h) (k : ∀ b ∈ tabs, ∀ o, h.get? b = some o → h'.get? b = some o) : TabsOk h' := fun P hP => let ⟨ps, e, r⟩ := x P hP; ⟨ps, k _ hP _ e, r⟩
theorem TabsOk.lt {h : Heap} (x : TabsOk h) {P : Addr} (hP : P ∈ tabs) : P < h.objs.size := let ⟨_, e, _⟩ := x P hP; Heap.lt_size e
/-- all kept but the tables; generators at rest -/
def KeepsT (s s' : Shared) : Prop := ∃ h' tk gs, s' = { s with heap := h', toks := tk, gens := gs } ∧ (∀ b o, b ∉ tabs → s.heap.get? b = some o → h'.get? b = some o) ∧ TabsOk h' ∧ AllBare gs
theorem KeepsT.of {s s' : Shared} (k : Keeps s s') (ht : TabsOk s.heap) (hg : AllBare s.gens) : KeepsT s s' :=
  let ⟨h', tk, e, hk⟩ := k; ⟨h', tk, s.gens, e, fun b o _ q => hk b o q, ht.keeps hk, hg⟩
section
variable {M : Model} {prog : Program} {w : World} {A : Around} {E : Value → Shared → Prop} {s : Shared} {env : Env}
theorem new_comp_env {scope : Scope} {globals : Addr} {cl : List (Str × Addr)} {qual : Str} {Q : Env → Shared → Prop}
    (h : Q { scope := scope, locals := s.heap.objs.size, globals := globals, cells := cellsFrom (s.heap.objs.size + 1) scope.names cl, qual := qual, func := none, code := env.code, frame := env.frame, builtins := env.builtins }
      { s with heap := pushCells (s.heap.push { cls := .type "dict", data := .dict #[] }) scope.names }) :
    wpAny M A (newFunctionEnv scope globals cl [] qual none .none (some env)) Q E s := by
  (run_tac sh0)
  simp only [newFunctionEnv, Option.isSome_some, if_true]
  refine wpAny_bind (wpAny_alloc ?_)
  refine wpAny_bind (wpAny_layCells _ (fun name kind cells => by cases hkc : kind == NameKind.cell <;> simp) _ _ _ _ ?_)
  rw [show ({ s with heap := s.heap.push { cls := .type "dict", data := .dict #[] } } : Shared).heap.objs.size = s.heap.objs.size + 1 from Heap.size_push ..]
  exact wpAny_bind (wpAny_pure (wpAny_pure h))
  (run_tac sh1)

theorem one_loop {elt iter : PySem.Expr} {x : Str} {px : Pos} {scope : Scope} {pos : Pos} {I D : Addr} {fp wr : List Addr} {P : Nat → Value → Prop} {St : Nat → Heap → Prop} {cenv : Env} {R : Result → Shared → Prop}
    (W : Walks prog w A I fp wr 1 P St) (F : Value → Heap → Heap → Prop) (X : List Addr) (Pre : Heap → Prop) (Post : Value → Heap → Prop)
    (hF : ∀ y g₀ g h h', Older g₀ g → (∀ b o, g.get? b = none → h.get? b = some o → h'.get? b = some o) → F y g h → F y g₀ h')
    (hpre : ∀ h h', Pre h → (∀ b ∈ X, ∀ o, h.get? b = some o → h'.get? b = some o) → Pre h')
    (hpost : ∀ v h h', Post v h → (∀ b ∈ X, ∀ o, h.get? b = some o → h'.get? b = some o) → Post v h')
    (hlive : ∀ v h, Post v h → ∀ b ∈ X, h.get? b ≠ none) (hwl : ∀ i h, St i h → ∀ b ∈ wr, h.get? b ≠ none)
    (hassign : ∀ (s : Shared) v (Q : Unit → Shared → Prop) E, Pre s.heap → (∀ h' tk, Post v h' → (∀ b o, b ∉ X → s.heap.get? b = some o → h'.get? b = some o) → Q () { s with heap := h', toks := tk }) → wpAny (model prog w) A (assign (.Name x px) cenv v) Q E s)
    (hXf : ∀ b ∈ X, b ∉ fp) (hXt : ∀ b ∈ X, b ∉ tabs) (hft : ∀ b ∈ fp, b ∉ tabs) (hDX : D ∉ X) (hDf : D ∉ fp) (hDt : D ∉ tabs)
    (hst : St 0 s.heap) (hacc : s.heap.PlainList D #[]) (hp : Pre s.heap) (ht : TabsOk s.heap) (hg : AllBare s.gens)
    (helt : ∀ v s₂ E', P 0 v → Post v s₂.heap → (∀ b o, b ∉ X → b ∉ wr → s.heap.get? b = some o → s₂.heap.get? b = some o) → TabsOk s₂.heap → AllBare s₂.gens →
      wpAny (model prog w) A (eval elt cenv) (fun y s₃ => F y s₂.heap s₃.heap ∧ KeepsT s₂ s₃) E' s₂)
    (hR : ∀ v y h' tk gs, F y s.heap h' → Post v h' → h'.PlainList D #[y] → (∀ b o, b ∉ X → b ∉ wr → b ≠ D → b ∉ tabs → s.heap.get? b = some o → h'.get? b = some o) → TabsOk h' → AllBare gs →
      R (.ok .next) { s with heap := h', toks := tk, gens := gs }) :
    codeAny (model prog w) A (.compLoop (.ListComp elt [⟨.Name x px, iter, [], 0⟩] scope pos) 0 (.ref I) (.ref D) cenv) R s := by
  (run_tac sh0)
  have hDw : D ∉ wr := fun h => hDf (W.sub _ h)
  have hXw : ∀ b ∈ X, b ∉ wr := fun b hb h => hXf b hb (W.sub _ h)
  have htw : ∀ b ∈ tabs, b ∉ wr := fun b hb h => hft b (W.sub _ h) hb
  have htX : ∀ b ∈ tabs, b ∉ X := fun b hb h => hXt b h hb
  have hwl0 := hwl 0 _ hst
  refine codeAny_compLoop_list (fun k s' => (k = 1 ∧ s' = s) ∨ (k = 0 ∧ ∃ v y h' tk gs, s' = { s with heap := h', toks := tk, gens := gs } ∧ F y s.heap h' ∧ Post v h' ∧ h'.PlainList D #[y] ∧ St 1 h' ∧
    (∀ b o, b ∉ X → b ∉ wr → b ≠ D → b ∉ tabs → s.heap.get? b = some o → h'.get? b = some o) ∧ TabsOk h' ∧ AllBare gs)) ?_ 1 (.inl ⟨rfl, rfl⟩)
  rintro k s' (⟨rfl, rfl⟩ | ⟨rfl, v, y, H, tk, gs, rfl, hFy, hpo, hD, hst1, hk, htH, hgs⟩)
  · refine W.item 0 s' _ _ (by decide) hst fun v h₁ tk₁ hPv hst₁ hk₁ => ?_
    refine hassign _ v _ _ (hpre _ _ hp fun b hb o e => hk₁ b o (hXw b hb) e) fun h₂ tk₂ hpo₂ hk₂ => ?_
    have up₂ : ∀ b o, b ∉ X → b ∉ wr → s'.heap.get? b = some o → h₂.get? b = some o := fun b o hX hw e => hk₂ b o hX (hk₁ b o hw e)
    have ht₂ : TabsOk h₂ := ht.at fun b hb o e => up₂ b o (htX b hb) (htw b hb) e
    have hst₂ : St 1 h₂ := W.frame _ _ _ hst₁ fun b hb o e => hk₂ b o (fun h => hXf b h hb) e
    refine wpAny_mono (helt v { s' with heap := h₂, toks := tk₂ } _ hPv hpo₂ up₂ ht₂ hg) (fun y s₃ h₃ => ?_) fun _ _ e => e
    obtain ⟨hFy, H₃, tk₃, gs₃, rfl, hk₃, ht₃, hg₃⟩ := h₃
    have hst₃ : St 1 H₃ := W.frame _ _ _ hst₂ fun b hb o e => hk₃ b o (hft b hb) e
    have hD₂ : h₂.PlainList D #[] := hacc.at fun o e => up₂ D o hDX hDw e
    have hold : Older s'.heap h₂ := Older.but (l := X ++ wr) (fun b o hb e => up₂ b o (fun q => hb (List.mem_append_left _ q)) (fun q => hb (List.mem_append_right _ q)) e) fun b hb => by
      rcases List.mem_append.mp hb with hb | hb
      · exact hlive _ _ hpo₂ b hb
      · exact hwl _ _ hst₂ b hb
    refine wpAny_list_append_plain (hD₂.at fun o e => hk₃ D o hDt e) fun h₄ hl₄ hs₄ => ?_
    refine ⟨0, by decide, .inr ⟨rfl, v, y, h₄, tk₃, gs₃, rfl, hF _ _ _ _ _ hold (fun b o hn e => hs₄.extBut b o (fun q => ?_) e) hFy, hpost _ _ _ hpo₂ fun b hb o e => hs₄.extBut b o (fun q => hDX (q ▸ hb)) (hk₃ b o (hXt b hb) e),
      hl₄, W.frame _ _ _ hst₃ fun b hb o e => hs₄.extBut b o (fun q => hDf (q ▸ hb)) e, fun b o h1 h2 h3 h4 e => hs₄.extBut b o h3 (hk₃ b o h4 (up₂ b o h1 h2 e)), ht₃.at fun b hb o e => hs₄.extBut b o (fun q => hDt (q ▸ hb)) e, hg₃⟩⟩
    obtain ⟨n, e'⟩ := hD₂
    rw [q, e'] at hn; cases hn
  · refine W.done _ _ _ hst1 fun h₁ tk₁ hk₁ => ?_
    exact hR v y h₁ tk₁ gs (hF _ _ _ _ _ (Older.refl _) (fun b o hn e => hk₁ b o (fun q => hwl0 b q hn) e) hFy) (hpost _ _ _ hpo fun b hb o e => hk₁ b o (hXw b hb) e) (hD.at fun o e => hk₁ D o hDw e)
      (fun b o h1 h2 h3 h4 e => hk₁ b o h2 (hk b o h1 h2 h3 h4 e)) (htH.at fun b hb o e => hk₁ b o (htw b hb) e) hgs
  (run_tac sh1)

theorem one_block {elt iter : PySem.Expr} {x : Str} {px : Pos} {scope : Scope} {cl : List (Str × Addr)} {pos : Pos} {I : Addr} {fp wr : List Addr} {P : Nat → Value → Prop} {St : Nat → Heap → Prop} {RR : Value → Addr → Result → Shared → Prop}
    (W : Walks prog w A I fp wr 1 P St) (F : Value → Heap → Heap → Prop) (cells : Addr → List (Str × Addr)) (X : Addr → List Addr) (Pre : Addr → Heap → Prop) (Post : Value → Addr → Heap → Prop)
    (hcells : ∀ C, cellsFrom (C + 1) scope.names cl = cells C)
    (hF : ∀ y g₀ g h h', Older g₀ g → (∀ b o, g.get? b = none → h.get? b = some o → h'.get? b = some o) → F y g h → F y g₀ h')
    (hnew : ∀ h : Heap, Pre h.objs.size (pushCells (h.push { cls := .type "dict", data := .dict #[] }) scope.names))
    (hX : ∀ C b, b ∈ X C → C ≤ b)
    (hpre : ∀ C h h', Pre C h → (∀ b ∈ X C, ∀ o, h.get? b = some o → h'.get? b = some o) → Pre C h')
    (hpost : ∀ C v h h', Post v C h → (∀ b ∈ X C, ∀ o, h.get? b = some o → h'.get? b = some o) → Post v C h')
    (hlive : ∀ C v h, Post v C h → ∀ b ∈ X C, h.get? b ≠ none) (hwl : ∀ i h, St i h → ∀ b ∈ wr, h.get? b ≠ none)
    (hassign : ∀ C (s : Shared) v (Q : Unit → Shared → Prop) E, Pre C s.heap → (∀ h' tk, Post v C h' → (∀ b o, b ∉ X C → s.heap.get? b = some o → h'.get? b = some o) → Q () { s with heap := h', toks := tk }) → wpAny (model prog w) A (assign (.Name x px) (compEnvC scope (cells C) C env) v) Q E s)
    (hft : ∀ b ∈ fp, b ∉ tabs) (hfp : ∀ b ∈ fp, b < s.heap.objs.size)
    (hst : St 0 s.heap) (ht : TabsOk s.heap) (hg : AllBare s.gens)
    (helt : ∀ C v s₂ E', s.heap.objs.size ≤ C → P 0 v → Post v C s₂.heap → (∀ b o, b ∉ wr → s.heap.get? b = some o → s₂.heap.get? b = some o) → TabsOk s₂.heap → AllBare s₂.gens →
      wpAny (model prog w) A (eval elt (compEnvC scope (cells C) C env)) (fun y s₃ => F y s₂.heap s₃.heap ∧ KeepsT s₂ s₃) E' s₂)
    (hRR : ∀ D C v y h' tk gs, s.heap.get? D = none → s.heap.get? C = none → D ≠ C → C ∉ tabs → Post v C h' → F y s.heap h' → h'.PlainList D #[y] → (∀ b o, b ∉ wr → b ∉ tabs → s.heap.get? b = some o → h'.get? b = some o) → TabsOk h' → AllBare gs →
      (∀ b o, h'.get? b = some o → b ≠ C → True) → (∀ h'', (∀ b o, s.heap.get? b = none → b ≠ C → h'.get? b = some o → h''.get? b = some o) → F y s.heap h'') →
      RR (.ref D) C (.ok .next) { s with heap := h', toks := tk, gens := gs }) :
    wpAny (model prog w) A (newList []) (fun acc s₃ => wpAny (model prog w) A (newFunctionEnv scope env.globals cl [] env.qual none .none (some env)) (fun cenv s₄ =>
      codeAny (model prog w) A (.compStart (.ListComp elt [⟨.Name x px, iter, [], 0⟩] scope pos) 0 (.ref I) acc { cenv with scope := relabel scope env }) (RR acc cenv.locals) s₄) E s₃) E s := by
  (run_tac sh0)
  refine wpAny_newObj_type (new_comp_env ?_)
  dsimp only
  generalize hH2 : s.heap.push { cls := .type "list", dict := none, data := .seq ([] : List Value).toArray } = H2
  have hC : H2.objs.size = s.heap.objs.size + 1 := by rw [← hH2, Heap.size_push]
  have hpr := hnew H2
  generalize hH3 : pushCells (H2.push { cls := .type "dict", data := .dict #[] }) scope.names = H3 at hpr ⊢
  have old2 : ∀ b o, H2.get? b = some o → H3.get? b = some o := fun b o e => hH3 ▸ pushCells_keeps _ _ _ _ (Heap.get?_push_of_some _ e)
  have old : ∀ b o, s.heap.get? b = some o → H3.get? b = some o := fun b o e => old2 b o (hH2 ▸ Heap.get?_push_of_some _ e)
  have hDC : s.heap.objs.size ≠ H2.objs.size := by rw [hC]; exact Nat.ne_of_lt (Nat.lt_succ_self _)
  have hDX : s.heap.objs.size ∉ X H2.objs.size := fun h => by have := leA (hX _ _ h); omega
  have hXlt : ∀ b ∈ X H2.objs.size, @LT.lt Nat instLTNat s.heap.objs.size b := fun b hb => by have := leA (hX _ _ hb); omega
  have hDf : s.heap.objs.size ∉ fp := fun hm => Nat.lt_irrefl _ (hfp _ hm)
  have hacc : H3.PlainList s.heap.objs.size #[] := ⟨_, old2 _ _ (hH2 ▸ Heap.get?_push_size _ rfl)⟩
  have hst₁ : St 0 H3 := W.frame _ _ _ hst fun b _ o e => old b o e
  have fresh : ∀ a, s.heap.objs.size ≤ a → s.heap.get? a = none := fun a ha => Heap.get?_none_of_le ha
  have loop : codeAny (model prog w) A (.compLoop (.ListComp elt [⟨.Name x px, iter, [], 0⟩] scope pos) 0 (.ref I) (.ref s.heap.objs.size) (compEnvC scope (cells H2.objs.size) H2.objs.size env))
        (RR (.ref s.heap.objs.size) H2.objs.size) { s with heap := H3 } := by
    refine one_loop (s := { s with heap := H3 }) W F (X H2.objs.size) (Pre H2.objs.size) (fun v => Post v H2.objs.size) hF (hpre _) (hpost _) (hlive _) hwl (hassign _)
      (fun b hb h => by have := ltA (hfp b h); have := hXlt b hb; omega) (fun b hb h => by have := ltA (ht.lt h); have := hXlt b hb; omega) hft hDX hDf (fun h => Nat.lt_irrefl _ (ht.lt h)) hst₁ hacc hpr (ht.keeps old) hg
      (fun v s₂ E' hP hpo hk ht₂ hg₂ => helt _ v s₂ E' (by omega) hP hpo (fun b o hw e => hk b o (fun h => by have := ltA (Heap.lt_size e); have := hXlt b h; omega) hw (old b o e)) ht₂ hg₂) ?_
    intro v y h' tk gs hFy hpo hD hk ht' hg'
    have hFs : F y s.heap h' := hF _ _ _ _ _ (Older.of old) (fun _ _ _ e => e) hFy
    have hCl : ∀ b, H3.get? b = none → b ≠ H2.objs.size := fun b hb q => by
      subst q
      exact absurd hb (by
        rw [← hH3]
        have e : (H2.push ({ cls := .type "dict", data := .dict #[] } : Obj)).get? H2.objs.size = some _ := Heap.get?_push_size _ rfl
        rw [pushCells_keeps _ _ _ _ e]; nofun)
    refine hRR _ _ v y h' tk gs (fresh _ (Nat.le_refl _)) (fresh _ (by omega)) hDC (fun h => by have := ltA (ht.lt h); omega) hpo hFs hD (fun b o hw ht0 e => ?_) ht' hg' (fun _ _ _ _ => trivial) fun h'' hs => hF _ _ _ _ _ (Older.of old) (fun b o hn e => hs b o (none_of_keeps old hn) (hCl b hn) e) hFy
    have hb := ltA (Heap.lt_size e)
    exact hk b o (fun h => by have := hXlt b h; omega) hw (fun q => by subst q; omega) ht0 (old b o e)
  have e : cellsFrom (H2.objs.size + 1) scope.names cl = cells H2.objs.size := hcells _
  rw [e]
  exact codeAny_compStart_list loop (W.self 0 _ _ _ hst₁ loop)
  (run_tac sh1)

/-- a source of one item -/
def Src1 (prog : Program) (w : World) (A : Around) (xv : Value) (Pv : Value → Prop) (s : Shared) : Prop :=
  ∀ (Q : Value → Shared → Prop) (E : Value → Shared → Prop), (∀ I h' tk fp wr P St, Walks prog w A I fp wr 1 P St → St 0 h' → (∀ v, P 0 v → Pv v) → (∀ i h, St i h → ∀ b ∈ wr, h.get? b ≠ none) → (∀ b ∈ fp, b ∉ tabs) → (∀ b ∈ fp, b < h'.objs.size) →
    (∀ b ∈ wr, s.heap.get? b = none) → s.heap.objs.size ≤ h'.objs.size → (∀ b o, s.heap.get? b = some o → h'.get? b = some o) → Q (.ref I) { s with heap := h', toks := tk }) → wpAny (model prog w) A (pyIter xv) Q E s
theorem Src1.list {l : Addr} {v : Value} (hh : A.handled = none) (hl : s.heap.IsList l #[v]) (ht : TabsOk s.heap) : Src1 prog w A (.ref l) (fun u => u = v) s := by
  (run_tac sh0)
  intro Q E h
  have hlt : l < s.heap.objs.size := by obtain ⟨_, e, _⟩ := hl; exact Heap.lt_size e
  refine wpAny_pyIter_list hl (h s.heap.objs.size _ _ [s.heap.objs.size, l] [s.heap.objs.size] _ _ (Walks.list hh _ _ (Nat.ne_of_lt hlt) #[v]) ⟨⟨_, Heap.get?_push_size _ rfl, rfl, rfl⟩, hl.push _⟩ (fun u hu => ?_) (fun i g hg b hb => ?_) (fun b hb h0 => ?_) (fun b hb => ?_) (fun b hb => ?_) (by rw [Heap.size_push]; exact Nat.le_succ _) fun b o e => Heap.get?_push_of_some _ e)
  · simpa using hu.symm
  · rw [List.mem_singleton.mp hb]
    obtain ⟨o, e, _⟩ := hg.1
    rw [e]; nofun
  · rcases List.mem_cons.mp hb with rfl | hb
    · exact Nat.lt_irrefl _ (ht.lt h0)
    · rw [List.mem_singleton.mp hb] at h0
      obtain ⟨o, e, hc, _⟩ := hl
      obtain ⟨ps, e2, _⟩ := ht _ h0
      rw [e] at e2; cases e2; cases hc
  · show b < (s.heap.push _).objs.size
    rw [Heap.size_push]
    rcases List.mem_cons.mp hb with rfl | hb
    · exact Nat.lt_succ_self _
    · rw [List.mem_singleton.mp hb]; exact Nat.lt_succ_of_lt hlt
  · rw [List.mem_singleton.mp hb]; exact Heap.get?_none_of_le (Nat.le_refl _)
  (run_tac sh1)
theorem Src1.range {r : Addr} {t u v : Tok} (hh : A.handled = none) (hr : IsRange s.heap r 0 (1 : Nat) 1 t u v) (ht : TabsOk s.heap) : Src1 prog w A (.ref r) (fun y => ∃ t, y = .int 0 t) s := by
  (run_tac sh0)
  intro Q E h
  refine wpAny_pyIter_range hr (by decide) (h s.heap.objs.size _ _ [s.heap.objs.size] [s.heap.objs.size] _ _ (Walks.range hh _ 0 1 1).bound ?_ (fun u hu => ?_) (fun i g hg b hb => ?_) (fun b hb h0 => ?_) (fun b hb => ?_) (fun b hb => ?_) (by rw [Heap.size_push]; exact Nat.le_succ _) fun b o e => Heap.get?_push_of_some _ e)
  · show IsRangeIter _ _ _ _ _
    rw [show Builtin.Range.rangeSize 0 ((1 : Nat) : Int) 1 = ((1 : Nat) : Int) from rfl]
    simpa using Heap.get?_push_size _ rfl
  · obtain ⟨hi, t, rfl⟩ := hu
    exact ⟨t, rfl⟩
  · rw [List.mem_singleton.mp hb]
    have e : IsRangeIter _ _ _ _ _ := hg
    unfold IsRangeIter at e
    intro q; rw [e] at q; cases q
  · rw [List.mem_singleton.mp hb] at h0; exact Nat.lt_irrefl _ (ht.lt h0)
  · show b < (s.heap.push _).objs.size
    rw [Heap.size_push, List.mem_singleton.mp hb]
    exact Nat.lt_succ_self _
  · rw [List.mem_singleton.mp hb]; exact Heap.get?_none_of_le (Nat.le_refl _)
  (run_tac sh1)

/-- what a comprehension of one turn wants where its source is known -/
inductive COL (prog : Program) (w : World) (A : Around) (env : Env) (elt : PySem.Expr) (x : Str) (scope : Scope) (cl : List (Str × Addr)) (Q : Value → Shared → Prop) (xv : Value) (s : Shared) : Prop
  | mk (Pv : Value → Prop) (F : Value → Heap → Heap → Prop) (c0 : Src1 prog w A xv Pv s) (c1 : TabsOk s.heap) (c2 : AllBare s.gens) (c3 : (∀ y g₀ g h h', Older g₀ g → (∀ b o, g.get? b = none → h.get? b = some o → h'.get? b = some o) → F y g h → F y g₀ h')) (c4 : (∀ C v s₂ m E', s.heap.objs.size ≤ C → Pv v → s₂.heap.Ns C m → m x = some v → (∀ b o, s.heap.get? b = some o → s₂.heap.get? b = some o) → TabsOk s₂.heap → AllBare s₂.gens → wpAny (model prog w) A (eval elt (compEnvC scope cl C env)) (fun y s₃ => F y s₂.heap s₃.heap ∧ KeepsT s₂ s₃) E' s₂)) (c5 : (∀ D y k h' tk gs, s.heap.get? D = none → h'.get? D = some (listOf #[y] k) → F y s.heap h' → (∀ b o, b ∉ tabs → s.heap.get? b = some o → h'.get? b = some o) → TabsOk h' → AllBare gs → Q (.ref D) { s with heap := h', toks := tk, gens := gs })) : COL prog w A env elt x scope cl Q xv s
inductive COC (prog : Program) (w : World) (A : Around) (env : Env) (elt : PySem.Expr) (x : Str) (scope : Scope) (cl : List (Str × Addr)) (Q : Value → Shared → Prop) (xv : Value) (s : Shared) : Prop
  | mk (Pv : Value → Prop) (F : Value → Heap → Heap → Prop) (c0 : Src1 prog w A xv Pv s) (c1 : TabsOk s.heap) (c2 : AllBare s.gens) (c3 : (∀ y g₀ g h h', Older g₀ g → (∀ b o, g.get? b = none → h.get? b = some o → h'.get? b = some o) → F y g h → F y g₀ h')) (c4 : (∀ (C : Nat) v s₂ m o E', s.heap.objs.size ≤ C → Pv v → s₂.heap.Ns C m → s₂.heap.get? (C + 1) = some o → o.data = .cell (some v) → (∀ b o, s.heap.get? b = some o → s₂.heap.get? b = some o) → TabsOk s₂.heap → AllBare s₂.gens → wpAny (model prog w) A (eval elt (compEnvC scope ((x, C + 1) :: cl) C env)) (fun y s₃ => F y s₂.heap s₃.heap ∧ KeepsT s₂ s₃) E' s₂)) (c5 : (∀ D y k h' tk gs, s.heap.get? D = none → h'.get? D = some (listOf #[y] k) → F y s.heap h' → (∀ b o, b ∉ tabs → s.heap.get? b = some o → h'.get? b = some o) → TabsOk h' → AllBare gs → Q (.ref D) { s with heap := h', toks := tk, gens := gs })) : COC prog w A env elt x scope cl Q xv s
theorem stop_COL {elt : PySem.Expr} {x : Str} {scope : Scope} {cl : List (Str × Addr)} {Q : Value → Shared → Prop} {xv : Value} (h : COL prog w A env elt x scope cl Q xv s) : COL prog w A env elt x scope cl Q xv s := h
theorem stop_COC {elt : PySem.Expr} {x : Str} {scope : Scope} {cl : List (Str × Addr)} {Q : Value → Shared → Prop} {xv : Value} (h : COC prog w A env elt x scope cl Q xv s) : COC prog w A env elt x scope cl Q xv s := h

theorem plain_list {D : Addr} {h : Heap} {ys : Array Value} (x : h.PlainList D ys) : ∃ k, h.get? D = some (listOf ys k) := x
theorem up_wr {h h' : Heap} {wr : List Addr} (hw : ∀ b ∈ wr, h.get? b = none) (k : ∀ b o, b ∉ wr → h.get? b = some o → h'.get? b = some o) : ∀ b o, h.get? b = some o → h'.get? b = some o :=
  fun b o e => k b o (fun q => by rw [hw b q] at e; cases e) e

theorem oneL_ListComp {elt iter : PySem.Expr} {x : Str} {px : Pos} {scope : Scope} {cl : List (Str × Addr)} {pos : Pos} {Q : Value → Shared → Prop}
    (hclos : closureFor scope env = pure cl) (hcl : ∀ C, cellsFrom (C + 1) scope.names cl = cl) (hpc : ∀ h, pushCells h scope.names = h) (hkind : scope.kind = .function)
    (hnames : ∀ y ∈ scope.names, y.2 = .local → scope.names.lookup y.1 = some .local) (hx : scope.names.lookup x = some .local)
    (h : wpAny (model prog w) A (eval iter env) (COL prog w A env elt x scope cl Q) E s)
    (hs : ∀ x, foldedSetIterable iter env x = pure x := by intro _; rfl) :
    wpAny (model prog w) A (eval (.ListComp elt [⟨.Name x px, iter, [], 0⟩] scope pos) env) Q E s := by
  (run_tac sh0)
  rw [eval_ListComp]
  refine wpAny_comprehension_free (use := none) rfl hs hclos hkind hnames (wpAny_mono h (fun xv s₁ h₁ => ?_) fun _ _ e => e)
  obtain ⟨Pv, F, hsrc, ht, hg, hF, helt, hQ⟩ := h₁
  refine hsrc _ _ fun I h₂ tk₂ fp wr P St W hst hP hwl hft hfp hwn hle₂ hk₂ => ?_
  refine one_block (s := { s₁ with heap := h₂, toks := tk₂ }) (RR := fun acc C => compPost (model prog w) A E none Q acc C) W F (fun _ => cl) (fun C => [C]) (fun C h => h.Ns C (fun _ => none)) (fun v C h => ∃ m, h.Ns C m ∧ m x = some v) hcl hF
    (fun h => ?_) (fun C b hb => by rw [List.mem_singleton.mp hb]; exact Nat.le_refl _) (fun C h h' hn hk => hn.at' fun o e => hk C (List.mem_singleton.mpr rfl) o e)
    (fun C v h h' ⟨m, hn, hm⟩ hk => ⟨m, hn.at' fun o e => hk C (List.mem_singleton.mpr rfl) o e, hm⟩) (fun C v h ⟨m, hn, _⟩ b hb => ?_) hwl
    (fun C s v Q E hn k => ?_) hft hfp hst (ht.keeps hk₂) hg (fun C v s₂ E' hC hPv ⟨m, hn, hm⟩ hk ht₂ hg₂ => ?_) ?_
  · rw [hpc]; exact Heap.Ns.new h (.type "dict")
  · obtain ⟨o, _, _, e, _⟩ := hn; rw [List.mem_singleton.mp hb, e]; nofun
  · refine wpAny_assign_Name (wpAny_storeName_local (lookup_relabel_local hx) hn (fun h₂ hn₂ hs₂ => k h₂ _ ⟨_, hn₂, by simp⟩ fun b o hb e => hs₂.extBut b o (fun q => hb (List.mem_singleton.mpr q)) e) (by simp [compEnvC, relabel, hkind]))
  · exact helt C v s₂ m E' (Nat.le_trans hle₂ hC) (hP v hPv) hn hm (fun b o e => hk b o (fun q => by rw [hwn b q] at e; cases e) (hk₂ b o e)) ht₂ hg₂
  · intro D C v y h' tk gs hD hC hDC hCt ⟨m, hn, _⟩ hFy hDl hk ht' hg' _ hFC
    refine ⟨m, hn, fun h'' hs'' => ?_⟩
    obtain ⟨kk, eD⟩ := plain_list (hDl.extBut hs''.extBut hDC)
    exact hQ D y kk h'' tk gs (none_of_keeps hk₂ hD) eD (hF _ _ _ _ _ (Older.of hk₂) (fun _ _ _ e => e) (hFC h'' fun b o _ hb e => hs''.extBut b o hb e))
      (fun b o hb e => hs''.extBut b o (fun q => by rw [q] at e; rw [none_of_keeps hk₂ hC] at e; cases e) (hk b o (fun q => by rw [hwn b q] at e; cases e) hb (hk₂ b o e))) (ht'.at fun b hb o e => hs''.extBut b o (fun q => hCt (q ▸ hb)) e) hg'
  (run_tac sh1)

theorem oneC_ListComp {elt iter : PySem.Expr} {x : Str} {px : Pos} {scope : Scope} {cl : List (Str × Addr)} {pos : Pos} {Q : Value → Shared → Prop}
    (hclos : closureFor scope env = pure cl) (hcl : ∀ C : Nat, cellsFrom (C + 1) scope.names cl = (x, C + 1) :: cl) (hpc : ∀ h, pushCells h scope.names = h.push { cls := .type "cell", data := .cell none }) (hkind : scope.kind = .function)
    (hnames : ∀ y ∈ scope.names, y.2 = .local → scope.names.lookup y.1 = some .local) (hx : ∀ cl' C, (compEnvC scope cl' C env).kindOf x = some .cell)
    (h : wpAny (model prog w) A (eval iter env) (COC prog w A env elt x scope cl Q) E s)
    (hs : ∀ x, foldedSetIterable iter env x = pure x := by intro _; rfl) :
    wpAny (model prog w) A (eval (.ListComp elt [⟨.Name x px, iter, [], 0⟩] scope pos) env) Q E s := by
  (run_tac sh0)
  rw [eval_ListComp]
  refine wpAny_comprehension_free (use := none) rfl hs hclos hkind hnames (wpAny_mono h (fun xv s₁ h₁ => ?_) fun _ _ e => e)
  obtain ⟨Pv, F, hsrc, ht, hg, hF, helt, hQ⟩ := h₁
  refine hsrc _ _ fun I h₂ tk₂ fp wr P St W hst hP hwl hft hfp hwn hle₂ hk₂ => ?_
  have inX : ∀ {C b : Nat}, b ∈ [C, C + 1] → b = C ∨ b = C + 1 := fun hb => by simpa using hb
  refine one_block (s := { s₁ with heap := h₂, toks := tk₂ }) (RR := fun acc C => compPost (model prog w) A E none Q acc C) W F (fun C : Nat => (x, C + 1) :: cl) (fun C : Nat => [C, C + 1]) (fun (C : Nat) h => h.Ns C (fun _ => none) ∧ h.IsCell (C + 1) none) (fun v (C : Nat) h => (∃ m, h.Ns C m) ∧ h.IsCell (C + 1) (some v)) hcl hF
    (fun h => ?_) (fun C b hb => ?_) (fun C h h' hn hk => ⟨hn.1.at' fun o e => hk C (List.mem_cons_self ..) o e, ?_⟩)
    (fun C v h h' hn hk => ⟨let ⟨m, q⟩ := hn.1; ⟨m, q.at' fun o e => hk C (List.mem_cons_self ..) o e⟩, ?_⟩) (fun C v h hn b hb => ?_) hwl
    (fun C s v Q E hn k => ?_) hft hfp hst (ht.keeps hk₂) hg (fun C v s₂ E' hC hPv hn hk ht₂ hg₂ => ?_) ?_
  · rw [hpc]
    refine ⟨(Heap.Ns.new h (.type "dict")).push _, ?_⟩
    have e := Heap.get?_push_size (h.push ({ cls := .type "dict", data := .dict #[] } : Obj)) (o := { cls := .type "cell", data := .cell none }) rfl
    rw [Heap.size_push] at e
    exact ⟨_, e, rfl⟩
  · rcases inX hb with rfl | rfl
    · exact Nat.le_refl _
    · exact Nat.le_succ _
  · obtain ⟨o, e, r⟩ := hn.2
    exact ⟨o, hk _ (by simp) o e, r⟩
  · obtain ⟨o, e, r⟩ := hn.2
    exact ⟨o, hk _ (by simp) o e, r⟩
  · obtain ⟨⟨m, o, _, _, e, _⟩, o', e', _⟩ := hn
    rcases inX hb with rfl | rfl
    · rw [e]; nofun
    · rw [e']; nofun
  · refine wpAny_assign_Name (wpAny_storeName_cell (c := (C : Nat) + 1) (by simp [compEnvC, relabel, hkind]) (hx _ _) (by simp [compEnvC]) hn.2 fun h₂ hc₂ hs₂ => ?_)
    exact k h₂ _ ⟨⟨_, hn.1.sameBut hs₂ (Nat.ne_of_lt (Nat.lt_succ_self C))⟩, hc₂⟩ fun b o hb e => hs₂.extBut b o (fun q => hb (by rw [q]; simp)) e
  · obtain ⟨⟨m, hns⟩, o, e, hd⟩ := hn
    exact helt C v s₂ m o E' (Nat.le_trans hle₂ hC) (hP v hPv) hns e hd (fun b o hb => hk b o (fun q => by rw [hwn b q] at hb; cases hb) (hk₂ b o hb)) ht₂ hg₂
  · intro D C v y h' tk gs hD hC hDC hCt hn hFy hDl hk ht' hg' _ hFC
    obtain ⟨⟨m, hns⟩, _⟩ := hn
    refine ⟨m, hns, fun h'' hs'' => ?_⟩
    obtain ⟨kk, eD⟩ := plain_list (hDl.extBut hs''.extBut hDC)
    exact hQ D y kk h'' tk gs (none_of_keeps hk₂ hD) eD (hF _ _ _ _ _ (Older.of hk₂) (fun _ _ _ e => e) (hFC h'' fun b o _ hb e => hs''.extBut b o hb e))
      (fun b o hb e => hs''.extBut b o (fun q => by rw [q] at e; rw [none_of_keeps hk₂ hC] at e; cases e) (hk b o (fun q => by rw [hwn b q] at e; cases e) hb (hk₂ b o e))) (ht'.at fun b hb o e => hs''.extBut b o (fun q => hCt (q ▸ hb)) e) hg'
  (run_tac sh1)

/-- the same where the answer is stored under a name -/
inductive COA (prog : Program) (w : World) (A : Around) (env : Env) (elt : PySem.Expr) (x y : Str) (scope : Scope) (cl : List (Str × Addr)) (Q : Flow → Shared → Prop) (xv : Value) (s : Shared) : Prop
  | mk (Pv : Value → Prop) (F : Value → Heap → Heap → Prop) (h₀ : Heap) (m : Str → Option Value) (c0 : Src1 prog w A xv Pv s) (c1 : TabsOk s.heap) (c2 : AllBare s.gens) (c3 : Fr h₀ env.locals s.heap m) (c4 : env.locals ∉ tabs) (c5 : (∀ y g₀ g h h', Older g₀ g → (∀ b o, g.get? b = none → h.get? b = some o → h'.get? b = some o) → F y g h → F y g₀ h')) (c6 : (∀ C v s₂ m E', s.heap.objs.size ≤ C → Pv v → s₂.heap.Ns C m → m x = some v → (∀ b o, s.heap.get? b = some o → s₂.heap.get? b = some o) → TabsOk s₂.heap → AllBare s₂.gens → wpAny (model prog w) A (eval elt (compEnvC scope cl C env)) (fun y s₃ => F y s₂.heap s₃.heap ∧ KeepsT s₂ s₃) E' s₂)) (c7 : (∀ D u k h' tk gs, s.heap.get? D = none → h'.get? D = some (listOf #[u] k) → F u s.heap h' → h'.Ns env.locals (fun z => if z = y then some (.ref D) else m z) → (∀ b o, b ∉ tabs → b ≠ env.locals → s.heap.get? b = some o → h'.get? b = some o) → TabsOk h' → AllBare gs → Q .next { s with heap := h', toks := tk, gens := gs })) : COA prog w A env elt x y scope cl Q xv s
theorem stop_COA {elt : PySem.Expr} {x y : Str} {scope : Scope} {cl : List (Str × Addr)} {Q : Flow → Shared → Prop} {xv : Value} (h : COA prog w A env elt x y scope cl Q xv s) : COA prog w A env elt x y scope cl Q xv s := h
theorem oneL_Assign {elt iter : PySem.Expr} {x y : Str} {px py : Pos} {scope : Scope} {cl : List (Str × Addr)} {pos spos : Pos} {Q : Flow → Shared → Prop}
    (hsw : swapsWith (.ListComp elt [⟨.Name x px, iter, [], 0⟩] scope pos) (some (.Name y py)) spos.line env = pure true)
    (hclos : closureFor scope env = pure cl) (hcl : ∀ C, cellsFrom (C + 1) scope.names cl = cl) (hpc : ∀ h, pushCells h scope.names = h) (hkind : scope.kind = .function)
    (hnames : ∀ y ∈ scope.names, y.2 = .local → scope.names.lookup y.1 = some .local) (hx : scope.names.lookup x = some .local)
    (hy : env.kindOf y = some .local) (hp : (env.scope.kind == .class || (env.scope.kind == .module && env.locals != env.globals)) = false)
    (h : wpAny (model prog w) A (eval iter env) (COA prog w A env elt x y scope cl Q) E s)
    (hs : ∀ x, foldedSetIterable iter env x = pure x := by intro _; rfl) :
    wpAny (model prog w) A (exec (.Assign [.Name y py] (.ListComp elt [⟨.Name x px, iter, [], 0⟩] scope pos) spos) env) Q E s := by
  (run_tac sh0)
  rw [exec_Assign_Name_used _ _ _ _ hsw]
  refine wpAny_bind (wpAny_standAt (wpAny_bind ?_))
  show wpAny _ A (do let _ ← comprehension (.ListComp elt [⟨.Name x px, iter, [], 0⟩] scope pos) scope env _ (newList []) false (eval iter env) (some (assign (.Name y py) env))) _ _ s
  refine wpAny_bind (wpAny_mono (wpAny_comprehension_free (use := some (assign (.Name y py) env)) (Q := fun _ s' => Q .next s') rfl hs hclos hkind hnames
    (wpAny_mono h (fun xv s₁ h₁ => ?_) fun _ _ e => e)) (fun _ s' hq => wpAny_pure (wpAny_pure hq)) fun _ _ e => e)
  obtain ⟨Pv, F, h₀, mL, hsrc, ht, hg, hFr, hLt, hF, helt, hQ⟩ := h₁
  refine hsrc _ _ fun I h₂ tk₂ fp wr P St W hst hP hwl hft hfp hwn hle₂ hk₂ => ?_
  have hL2 : h₂.get? env.locals ≠ none := by obtain ⟨o, _, _, e, _⟩ := hFr.ns; rw [hk₂ _ _ e]; nofun
  refine one_block (s := { s₁ with heap := h₂, toks := tk₂ }) (RR := fun acc C => compPost (model prog w) A E (some (assign (.Name y py) env)) (fun _ s' => Q .next s') acc C) W F (fun _ => cl) (fun C => [C]) (fun C h => h.Ns C (fun _ => none)) (fun v C h => ∃ m, h.Ns C m ∧ m x = some v) hcl hF
    (fun h => ?_) (fun C b hb => by rw [List.mem_singleton.mp hb]; exact Nat.le_refl _) (fun C h h' hn hk => hn.at' fun o e => hk C (List.mem_singleton.mpr rfl) o e)
    (fun C v h h' ⟨m, hn, hm⟩ hk => ⟨m, hn.at' fun o e => hk C (List.mem_singleton.mpr rfl) o e, hm⟩) (fun C v h ⟨m, hn, _⟩ b hb => ?_) hwl
    (fun C s v Q E hn k => ?_) hft hfp hst (ht.keeps hk₂) hg (fun C v s₂ E' hC hPv ⟨m, hn, hm⟩ hk ht₂ hg₂ => ?_) ?_
  · rw [hpc]; exact Heap.Ns.new h (.type "dict")
  · obtain ⟨o, _, _, e, _⟩ := hn; rw [List.mem_singleton.mp hb, e]; nofun
  · refine wpAny_assign_Name (wpAny_storeName_local (lookup_relabel_local hx) hn (fun h₂ hn₂ hs₂ => k h₂ _ ⟨_, hn₂, by simp⟩ fun b o hb e => hs₂.extBut b o (fun q => hb (List.mem_singleton.mpr q)) e) (by simp [compEnvC, relabel, hkind]))
  · exact helt C v s₂ m E' (Nat.le_trans hle₂ hC) (hP v hPv) hn hm (fun b o e => hk b o (fun q => by rw [hwn b q] at e; cases e) (hk₂ b o e)) ht₂ hg₂
  · intro D C v u h' tk gs hD hC hDC hCt ⟨m, hn, _⟩ hFy hDl hk ht' hg' _ hFC
    have hLC : env.locals ≠ C := fun q => hL2 (q ▸ hC)
    have hLD : env.locals ≠ D := fun q => hL2 (q ▸ hD)
    have hn' : h'.Ns env.locals mL := hFr.ns.at' fun o e => hk _ o (fun q => by rw [hwn _ q] at e; cases e) hLt (hk₂ _ o e)
    show wpAny _ A (assign (.Name y py) env (.ref D)) _ _ _
    refine wpAny_assign_Name (wpAny_storeName_local hy hn' (fun h₃ hn₃ hs₃ => ?_) hp)
    refine ⟨m, hn.sameBut hs₃ (Ne.symm hLC), fun h'' hs'' => ?_⟩
    obtain ⟨kk, eD⟩ := plain_list ((hDl.extBut hs₃.extBut (Ne.symm hLD)).extBut hs''.extBut hDC)
    have old1 : ∀ b, h₂.get? b = none → b ≠ env.locals := fun b q q2 => hL2 (q2 ▸ q)
    have oldC : ∀ b o, s₁.heap.get? b = some o → b ≠ C := fun b o e q => by rw [q] at e; rw [none_of_keeps hk₂ hC] at e; cases e
    exact hQ D u kk h'' _ gs (none_of_keeps hk₂ hD) eD (hF _ _ _ _ _ (Older.of hk₂) (fun _ _ _ e => e) (hFC h'' fun b o hn hb e => hs''.extBut b o hb (hs₃.extBut b o (old1 b hn) e))) (hn₃.sameBut hs'' hLC)
      (fun b o ht0 hb e => hs''.extBut b o (oldC b o e) (hs₃.extBut b o hb (hk b o (fun q => by rw [hwn b q] at e; cases e) ht0 (hk₂ b o e)))) (ht'.at fun b hb o e => hs''.extBut b o (fun q => hCt (q ▸ hb)) (hs₃.extBut b o (fun q => hLt (q ▸ hb)) e)) hg'
  (run_tac sh1)
end
end Mine
namespace Mine
open PySem.Calls PyProof.V PySem.Spec PyProof.Rows.LCg
theorem fresh_9 : True := by
  w_top off
  trivial
section
variable {prog : Program} {w : World} {A : Around} {E : Value → Shared → Prop} {s : Shared} {env : Env}
/-- a comprehension over a list of anything, its answer related to the item by values alone -/
inductive MV (prog : Program) (w : World) (A : Around) (env : Env) (elt : PySem.Expr) (x : Str) (scope : Scope) (cl : List (Str × Addr)) (Q : Value → Shared → Prop) (xv : Value) (s : Shared) : Prop
  | mk (l : Addr) (vs : List Value) (F : Value → Value → Prop) (c0 : xv = .ref l) (c1 : s.heap.IsList l vs.toArray) (c2 : vs.length ≤ sizeLine) (c3 : (∀ C v s₃ m₃ E', v ∈ vs → s.heap.objs.size ≤ C → s₃.heap.Ns C m₃ → m₃ x = some v → (∀ c o, s.heap.get? c = some o → s₃.heap.get? c = some o) → wpAny (model prog w) A (eval elt (compEnvC scope cl C env)) (fun y s₄ => F v y ∧ Keeps s₃ s₄) E' s₃)) (c4 : (∀ D h' tk ys k, s.heap.get? D = none → h'.get? D = some (listOf (List.toArray ys) k) → Paired F vs ys → (∀ c o, s.heap.get? c = some o → h'.get? c = some o) → Q (.ref D) { s with heap := h', toks := tk })) : MV prog w A env elt x scope cl Q xv s
theorem stop_MV {elt : PySem.Expr} {x : Str} {scope : Scope} {cl : List (Str × Addr)} {Q : Value → Shared → Prop} {xv : Value} (h : MV prog w A env elt x scope cl Q xv s) : MV prog w A env elt x scope cl Q xv s := h
theorem MV.intro {elt : PySem.Expr} {x : Str} {scope : Scope} {cl : List (Str × Addr)} {Q : Value → Shared → Prop} {l : Addr} {vs : List Value} (F : Value → Value → Prop) (hl : s.heap.IsList l vs.toArray) (hsz : vs.length ≤ sizeLine)
    (helt : ∀ C v s₃ m₃ E', v ∈ vs → s.heap.objs.size ≤ C → s₃.heap.Ns C m₃ → m₃ x = some v → (∀ c o, s.heap.get? c = some o → s₃.heap.get? c = some o) →
      wpAny (model prog w) A (eval elt (compEnvC scope cl C env)) (fun y s₄ => F v y ∧ Keeps s₃ s₄) E' s₃)
    (hQ : ∀ D h' tk ys k, s.heap.get? D = none → h'.get? D = some (listOf (List.toArray ys) k) → Paired F vs ys → (∀ c o, s.heap.get? c = some o → h'.get? c = some o) → Q (.ref D) { s with heap := h', toks := tk }) :
    MV prog w A env elt x scope cl Q (.ref l) s := ⟨l, vs, F, rfl, hl, hsz, helt, hQ⟩
theorem mv_ListComp {elt iter : PySem.Expr} {x : Str} {px : Pos} {scope : Scope} {cl : List (Str × Addr)} {pos : Pos} {Q : Value → Shared → Prop}
    (hh : A.handled = none) (hclos : closureFor scope env = pure cl) (hcell : ∀ y ∈ scope.names, y.2 ≠ .cell) (hkind : scope.kind = .function)
    (hnames : ∀ y ∈ scope.names, y.2 = .local → scope.names.lookup y.1 = some .local) (hx : scope.names.lookup x = some .local)
    (h : wpAny (model prog w) A (eval iter env) (MV prog w A env elt x scope cl Q) E s)
    (hs : ∀ x, foldedSetIterable iter env x = pure x := by intro _; rfl) :
    wpAny (model prog w) A (eval (.ListComp elt [⟨.Name x px, iter, [], 0⟩] scope pos) env) Q E s := by
  (run_tac sh0)
  suffices key : ∀ F : Value → Value → Prop, True by
    rw [eval_ListComp]
    refine wpAny_comprehension_free (use := none) rfl hs hclos hkind hnames (wpAny_mono h (fun xv s₁ h₁ => ?_) fun _ _ e => e)
    obtain ⟨ax, vs, F, rfl, hl, hsz, helt, hQ⟩ := h₁
    have hlt : ax < s₁.heap.objs.size := by obtain ⟨_, e, _⟩ := hl; exact Heap.lt_size e
    have up : ∀ (s₃ : Shared), (∀ b o, b ∉ [s₁.heap.objs.size] → (s₁.heap.push { cls := .type "list_iterator", data := .fields #[.ref ax, .int 0 0] }).get? b = some o → s₃.heap.get? b = some o) → ∀ b o, s₁.heap.get? b = some o → s₃.heap.get? b = some o :=
      fun s₃ hk b o e => hk b o (fun hm => by rcases List.mem_cons.mp hm with rfl | hm; exact Nat.lt_irrefl _ (Heap.lt_size e); cases hm) (Heap.get?_push_of_some _ e)
    refine wpAny_pyIter_list hl ?_
    refine comp_block_walkC (RR := fun acc C => compPost (model prog w) A E none Q acc C) (fp := [s₁.heap.objs.size, ax]) (wr := [s₁.heap.objs.size]) (Walks.list hh s₁.heap.objs.size ax (Nat.ne_of_lt hlt) vs.toArray) (by rw [List.size_toArray]; exact hsz) (fun _ => true) F hcell hkind hx ⟨⟨_, Heap.get?_push_size _ rfl, rfl, rfl⟩, hl.push _⟩ ?_ ⟨?_, ?_⟩ ?_
    · intro b hb
      show b < (s₁.heap.push _).objs.size
      rw [Heap.size_push]
      rcases List.mem_cons.mp hb with rfl | hb
      · exact Nat.lt_succ_self _
      · rcases List.mem_cons.mp hb with rfl | hb
        · exact Nat.lt_succ_of_lt hlt
        · cases hb
    · intro C i v s₃ m₃ E' hC hP hn hm hk _
      exact wpAny_tests_nil ⟨rfl, _, _, rfl, fun _ _ e => e⟩
    · intro C i v s₃ m₃ E' hC hP hp hn hm hk _
      have hv : v ∈ vs := by
        have h1 : vs[i]? = some v := by simpa using hP
        exact List.mem_of_getElem? h1
      exact helt C v s₃ m₃ E' hv (Nat.le_of_succ_le (by simpa [Heap.size_push] using hC)) hn hm (up s₃ hk)
    · intro D C h' tk m' ys vs' hD hC hDC hn hlD hplD hlen hP hF hk
      refine ⟨m', hn, fun h'' hs'' => ?_⟩
      have e : vs' = vs := by simpa using list_of_places hlen hP
      subst e
      obtain ⟨k, eD⟩ := lst_len (hplD.extBut hs''.extBut hDC)
      have e2 : vs'.filter (fun _ => true) = vs' := by simp
      rw [e2] at hF
      have hD0 : s₁.heap.get? D = none := none_of_keeps (fun b o e => Heap.get?_push_of_some _ e) hD
      have hC0 : s₁.heap.get? C = none := none_of_keeps (fun b o e => Heap.get?_push_of_some _ e) hC
      exact hQ D h'' tk ys.toList k hD0 (by rw [Array.toArray_toList]; exact eD) hF fun b o e => hs''.extBut b o (fun q => by rw [q, hC0] at e; cases e) (up { s₁ with heap := h' } hk b o e)
  exact fun _ => trivial
  (run_tac sh1)
end
end Mine
namespace Mine
open PySem.Calls PyProof.V PySem.Spec PyProof.Rows.LCg
theorem fresh_10 : True := by
  w_top off
  trivial
section
variable {prog : Program} {w : World} {A : Around} {E : Value → Shared → Prop} {s : Shared} {K : Frag} {x C L : Addr} {h₀ : Heap} {m : Str → Option Value} {ox : Obj} {od : Option Obj} {name : Str}
theorem ifBound_B {M : Model} {id : String} {args : List Value} {Q : Option Value → Shared → Prop} (X : K.In s.heap) (I : InstAt s.heap x ox C od) (hs : findIn K (.ref C) name = some (some (.builtin id))) (S : Slot "object" name id)
    (h : wpAny M A (call (.builtin id) (.ref x :: args)) (fun v => Q (some v)) E s) : wpAny M A (callSpecialIfBound? (.ref x) name args) Q E s := by
  (run_tac sh0)
  simp only [callSpecialIfBound?, bindSpecialIfBound?]
  refine wpAny_holding (wpAny_bind (wpAny_bind (wpAny_bind (I.type.here ((looks_findIn X hs).here ?_)))))
  simp only [S.bind]
  refine wpAny_bind (wpAny_askSetting (wpAny_ite ?_))
  have fin : wpAny M A (call (.builtin id) ([.ref x] ++ args) >>= fun v => pure (some v)) Q E s :=
    wpAny_bind (wpAny_mono h (fun v s' h' => wpAny_pure h') fun _ _ h' => h')
  split
  · exact wpAny_bind (wpAny_pure (wpAny_pure fin))
  · exact wpAny_tryCatch (wpAny_bind (wpAny_pure (wpAny_pure fin)))
  (run_tac sh1)
theorem check_K {M : Model} {id owner n : String} {rest : List Value} {Q : Unit → Shared → Prop} (hk : builtinKind id = some .slot) (hs : splitId id = some (owner, n)) (ha : argsOk id ⟨.ref x :: rest, []⟩) (X : K.In s.heap) (I : InstAt s.heap x ox C od)
    (hsub : subIn K (.ref C) (.type owner) = some true) (hq : Q () s) : wpAny M A (checkBuiltinCall id ⟨.ref x :: rest, []⟩) Q E s := by
  (run_tac sh0)
  simp only [checkBuiltinCall, hk, hs]
  refine wpAny_bind ?_
  unfold isInstance
  refine wpAny_bind (I.type.here ((looks_subIn X hsub).here ?_))
  simp only [Bool.not_true, Bool.false_eq_true, if_false]
  repeat (first | with_reducible refine wpAny_pure ?_ | wp_step)
  cases hsig : Manifest.signature? id with
  | none => exact wpAny_pure hq
  | some sig =>
    simp only [argsOk, hsig] at ha
    have h2 : Bind.checkArgs id sig ⟨.ref x :: rest, []⟩ = pure () := ha
    show wpAny M A (Bind.checkArgs id sig ⟨.ref x :: rest, []⟩) Q E _
    rw [h2]; exact wpAny_pure hq
  (run_tac sh1)
theorem ne_same_K {Q : Value → Shared → Prop} (hu : A.units + 1 < cLine) (F₀ : Fr h₀ L s.heap m) (X₀ : K.In h₀) (I : InstAt s.heap x ox C od) (hne : findIn K (.ref C) "__ne__" = some (some (.builtin "object.__ne__"))) (heq : findIn K (.ref C) "__eq__" = some (some (.builtin "object.__eq__")))
    (hsub : subIn K (.ref C) (.type "object") = some true) (hQ : Q (.bool false) s) : wpAny (model prog w) A (compareOp .NotEq (.ref x) (.ref x)) Q E s := by
  (run_tac sh0)
  have X := X₀.keeps F₀.keep
  have hu0 : A.units < cLine := Nat.lt_of_succ_lt hu
  have eqc : ∀ (A : Around) (Q : Option Value → Shared → Prop), Q (some (.bool true)) s → wpAny (model prog w) A (callSpecialIfBound? (.ref x) "__eq__" [.ref x]) Q E s := fun A Q hq =>
    ifBound_B X I heq F.cmp_object.eq (wpAny_call (codeAny_call_builtin F.cmp_object.eq.plain F.cmpEntry_eq (check_K F.cmpKind_eq F.cmpSplit_eq (F.cmpArgs_eq _ _) X I hsub (objEq_entry_same hq))))
  show wpAny _ A (richCompare .NotEq (.ref x) (.ref x)) Q E s
  unfold richCompare
  simp only [oneThing_ref]
  refine wpAny_holding (wpAny_bind (wpAny_cRoomFor hu0 ?_))
  rw [cmpInfo_NotEq]
  dsimp only
  refine wpAny_bind (I.type.here (wpAny_bind (I.type.here ?_)))
  rw [show (Value.ref C != Value.ref C) = false from by simp]
  simp only [Bool.false_eq_true, if_false]
  refine wpAny_bind (wpAny_pure ?_)
  simp only [Bool.false_eq_true, if_false]
  have one : wpAny (model prog w) A (tryCompare (.ref x) "__ne__" (.ref x)) (fun r s' => r = some (.bool false) ∧ s' = s) E s := by
    simp only [tryCompare]
    refine wpAny_bind (ifBound_B X I hne F.cmp_object.ne (wpAny_call (codeAny_call_builtin F.cmp_object.ne.plain F.cmpEntry_ne (check_K F.cmpKind_ne F.cmpSplit_ne (F.cmpArgs_ne _ _) X I hsub ?_))))
    unfold Builtin.«object.__ne__»
    repeat (first | with_reducible refine wpAny_cRoomFor (show A.in1.units < cLine from hu) ?_ | with_reducible refine eqc _ _ ?_ | wp_step)
    exact ⟨rfl, rfl⟩
  refine wpAny_bind (wpAny_mono one (fun r s' h => ?_) fun _ _ e => e)
  obtain ⟨rfl, rfl⟩ := h
  exact wpAny_pure hQ
  (run_tac sh1)
end
end Mine
namespace Mine
open PySem.Calls PyProof.V PySem.Spec PyProof.Rows.LCg
theorem fresh_11 : True := by
  w_top off
  trivial
open PySem.Calls PyProof.V PySem.Spec PyProof.Rows.LCg PySem.NumText
def binT (n : Int) : PySem.Str := baseText "0b" 2 (Builtin.bitAnd n (2 ^ Int.toNat 8 - 1))
def zT (n : Int) : PySem.Str := Txt.zfill (Txt.slice (binT n) (some 2) none) 8
def rT (n : Int) (k : Tok) : PySem.Str := Txt.sliceBy (zT n) none none (-1, k)
def goodT (x : PySem.Str) : Bool := decide (x.length ≤ 100) && x.cps.all (· < 128) && decide ((x.cps.toList.takeWhile (· != 0)).length ≤ 640) && ((x.cps.toList.takeWhile (· != 0)).length == x.cps.toList.length)
theorem rT_tok (n : Int) (k : Tok) : rT n k = rT n 0 := rfl
theorem bits_small : ∀ n : Fin 256, decide ((binT n.val).length ≤ 100) && decide ((Txt.slice (binT n.val) (some 2) none).length ≤ 100) && decide ((zT n.val).length ≤ 100) && goodT (rT n.val 0) = true := by decide +kernel
def valOf (x : (int_private% "Numeral")) : Option Int := by
  cases x <;> first | exact some (by assumption) | exact none
theorem valOf_eq (x : (int_private% "Numeral")) (n : Int) (h : valOf x = some n) : x = (int_private% "Numeral.value") n := by
  cases x <;> simp [valOf] at h
  subst h; rfl
theorem bits_read : ∀ n : Fin 256, (match valOf ((int_private% "readNumeral") 0 2 ((rT n.val 0).cps.toList.takeWhile (· != 0))) with | some j => decide (0 ≤ j) | none => false) = true := by
  decide +kernel
theorem read_some {i : Int} (h0 : 0 ≤ i) (h1 : i < 256) (k : Tok) : ∃ j : Int, 0 ≤ j ∧ (int_private% "readNumeral") 0 2 ((rT i k).cps.toList.takeWhile (· != 0)) = (int_private% "Numeral.value") j := by
  (run_tac sh0)
  obtain ⟨n, rfl⟩ : ∃ n : Nat, i = n := ⟨i.toNat, by omega⟩
  have hb := bits_read ⟨n, by omega⟩
  rw [rT_tok]
  dsimp only at hb
  generalize (int_private% "readNumeral") 0 2 ((rT n 0).cps.toList.takeWhile (· != 0)) = x at hb ⊢
  cases e : valOf x with
  | none => rw [e] at hb; simp at hb
  | some j => rw [e] at hb; exact ⟨j, by simpa using hb, valOf_eq x j e⟩
  (run_tac sh1)
theorem small_T {i : Int} (h0 : 0 ≤ i) (h1 : i < 256) : (binT i).length ≤ 100 ∧ (Txt.slice (binT i) (some 2) none).length ≤ 100 ∧ (zT i).length ≤ 100 ∧ ∀ k, goodT (rT i k) = true := by
  obtain ⟨n, rfl⟩ : ∃ n : Nat, i = n := ⟨i.toNat, by omega⟩
  have hb := bits_small ⟨n, by omega⟩
  simp only [Bool.and_eq_true, decide_eq_true_eq] at hb
  exact ⟨hb.1.1.1, hb.1.1.2, hb.1.2, fun k => by rw [rT_tok]; exact hb.2⟩
theorem good_T {x : PySem.Str} (h : goodT x = true) : x.length ≤ 100 ∧ x.cps.all (· < 128) = true ∧ (x.cps.toList.takeWhile (· != 0)).length ≤ 640 ∧ ((x.cps.toList.takeWhile (· != 0)).length == x.cps.toList.length) = true := by
  unfold goodT at h
  simp only [Bool.and_eq_true, decide_eq_true_eq] at h
  exact ⟨h.1.1.1, h.1.1.2, h.1.2, h.2⟩
theorem line_100 {n : Nat} (h : n ≤ 100) : n ≤ sizeLine := Nat.le_trans h (by rw [sizeLine_eq]; decide)
end Mine
namespace Mine
open PySem.Calls PyProof.V PySem.Spec PyProof.Rows.LCg
theorem fresh_12 : True := by
  w_top off
  trivial
section
variable {prog : Program} {w : World} {A : Around} {E : Value → Shared → Prop} {s : Shared} {env : Env}
def SrcN (prog : Program) (w : World) (A : Around) (xv : Value) (n : Nat) (Pv : Nat → Value → Prop) (s : Shared) : Prop :=
  ∀ (Q : Value → Shared → Prop) (E : Value → Shared → Prop), (∀ I h' tk fp wr P St, (∀ A' : Around, A'.handled = none → Walks prog w A' I fp wr n P St) → St 0 h' → (∀ i v, P i v → Pv i v) → (∀ i h, St i h → ∀ b ∈ wr, h.get? b ≠ none) → (∀ b ∈ fp, b ∉ tabs) → (∀ b ∈ fp, b < h'.objs.size) →
    (∀ b ∈ wr, s.heap.get? b = none) → s.heap.objs.size ≤ h'.objs.size → (∀ b o, s.heap.get? b = some o → h'.get? b = some o) → Q (.ref I) { s with heap := h', toks := tk }) → wpAny (model prog w) A (pyIter xv) Q E s
theorem SrcN.list {l : Addr} {vs : List Value} (hl : s.heap.IsList l vs.toArray) (ht : TabsOk s.heap) : SrcN prog w A (.ref l) vs.length (fun i u => vs[i]? = some u) s := by
  (run_tac sh0)
  intro Q E h
  have hlt : l < s.heap.objs.size := by obtain ⟨_, e, _⟩ := hl; exact Heap.lt_size e
  have key : ∀ (A' : Around), A'.handled = none → ∀ N, N = vs.toArray.size → Walks prog w A' s.heap.objs.size [s.heap.objs.size, l] [s.heap.objs.size] N (fun i u => vs.toArray[i]? = some u) (fun i h => h.IsListIter s.heap.objs.size l i ∧ h.IsList l vs.toArray) := by
    rintro A' hA' N rfl
    exact Walks.list hA' s.heap.objs.size l (Nat.ne_of_lt hlt) vs.toArray
  refine wpAny_pyIter_list hl (h s.heap.objs.size _ _ [s.heap.objs.size, l] [s.heap.objs.size] (fun i u => vs.toArray[i]? = some u) (fun i h => h.IsListIter s.heap.objs.size l i ∧ h.IsList l vs.toArray) (fun A' hA' => key A' hA' _ (by simp)) ⟨⟨_, Heap.get?_push_size _ rfl, rfl, rfl⟩, hl.push _⟩ (fun i u hu => ?_) (fun i g hg b hb => ?_) (fun b hb h0 => ?_) (fun b hb => ?_) (fun b hb => ?_) (by rw [Heap.size_push]; exact Nat.le_succ _) fun b o e => Heap.get?_push_of_some _ e)
  · simpa using hu
  · rw [List.mem_singleton.mp hb]
    obtain ⟨o, e, _⟩ := hg.1
    rw [e]; nofun
  · rcases List.mem_cons.mp hb with rfl | hb
    · exact Nat.lt_irrefl _ (ht.lt h0)
    · rw [List.mem_singleton.mp hb] at h0
      obtain ⟨o, e, hc, _⟩ := hl
      obtain ⟨ps, e2, _⟩ := ht _ h0
      rw [e] at e2; cases e2; cases hc
  · show b < (s.heap.push _).objs.size
    rw [Heap.size_push]
    rcases List.mem_cons.mp hb with rfl | hb
    · exact Nat.lt_succ_self _
    · rw [List.mem_singleton.mp hb]; exact Nat.lt_succ_of_lt hlt
  · rw [List.mem_singleton.mp hb]; exact Heap.get?_none_of_le (Nat.le_refl _)
  (run_tac sh1)
theorem SrcN.range {r : Addr} {t u v : Tok} (n : Nat) (hr : IsRange s.heap r 0 n 1 t u v) (hsm : Builtin.Range.small 0 (n : Int) 1 = true) (hn : Builtin.Range.rangeSize 0 (n : Int) 1 = ((n : Nat) : Int)) (ht : TabsOk s.heap) : SrcN prog w A (.ref r) n (fun i y => ∃ t, y = .int (i : Nat) t) s := by
  (run_tac sh0)
  intro Q E h
  refine wpAny_pyIter_range hr hsm (h s.heap.objs.size _ _ [s.heap.objs.size] [s.heap.objs.size] _ _ (fun A' hA' => (Walks.range hA' _ 0 1 n).bound) ?_ (fun i u hu => ?_) (fun i g hg b hb => ?_) (fun b hb h0 => ?_) (fun b hb => ?_) (fun b hb => ?_) (by rw [Heap.size_push]; exact Nat.le_succ _) fun b o e => Heap.get?_push_of_some _ e)
  · show IsRangeIter _ _ _ _ _
    rw [hn]
    simpa using Heap.get?_push_size _ rfl
  · obtain ⟨hi, t, rfl⟩ := hu
    exact ⟨t, by simp⟩
  · rw [List.mem_singleton.mp hb]
    have e : IsRangeIter _ _ _ _ _ := hg
    unfold IsRangeIter at e
    intro q; rw [e] at q; cases q
  · rw [List.mem_singleton.mp hb] at h0; exact Nat.lt_irrefl _ (ht.lt h0)
  · show b < (s.heap.push _).objs.size
    rw [Heap.size_push, List.mem_singleton.mp hb]
    exact Nat.lt_succ_self _
  · rw [List.mem_singleton.mp hb]; exact Heap.get?_none_of_le (Nat.le_refl _)
  (run_tac sh1)

/-- a made generator at rest -/
structure GenPk (prog : Program) (w : World) (A : Around) (n : Nat) (F : Nat → Value → Heap → Heap → Prop) (a g : Addr) (C : Addr) (fp wr : List Addr) (j : Nat) (s : Shared) : Prop where
  gen : GenH prog w A a g C fp wr n F j s
  haC : a ≠ C
  haf : a ∉ fp
  sub : ∀ b ∈ wr, b ∈ fp
  hcs : cStatics ∈ fp
  hcC : cStatics ≠ C
  hcw : cStatics ∉ wr
  hlt : ∀ b ∈ a :: C :: fp, b < s.heap.objs.size
  hCt : ∀ b ∈ C :: wr, b ∉ tabs

/-- what a generator expression wants where its source is known -/
inductive GS (prog : Program) (w : World) (A : Around) (env : Env) (elt : PySem.Expr) (x : Str) (scope : Scope) (cl : List (Str × Addr)) (Q : Value → Shared → Prop) (xv : Value) (s : Shared) : Prop
  | mk (n : Nat) (Pv : Nat → Value → Prop) (F : Nat → Value → Heap → Heap → Prop) (fr : List Env) (h₀ : Heap) (c P : Addr) (p : Program) (loose : List Str) (mean : ExcName → Option Value) (mg mb : Str → Option Value) (c0 : SrcN prog w A xv n Pv s) (c1 : TabsOk s.heap) (c2 : AllBare s.gens) (c3 : A.frames = some fr) (c4 : (∀ b o, h₀.get? b = some o → s.heap.get? b = some o)) (c5 : (∀ P ∈ tabs, h₀.get? P = none)) (c6 : P ∈ tabs) (c7 : env.code = .ref c) (c8 : CodeHd h₀ c P) (c9 : env.globals = mainGlobals) (c10 : Top p loose mean mg mb h₀) (c11 : (∀ i v h₀ h₁ h, Older h₀ h₁ → F i v h₁ h → F i v h₀ h)) (c12 : (∀ (hb : Heap) (C : Addr) code i v s₂ m₂ (A' : Around) E', A'.handled = none → A'.depth ≤ A.depth + 1 → A'.units ≤ A.units + 8 → A'.frames = some (genEnv scope cl C code builtinsNs env :: fr) → Pv i v → s.heap.objs.size ≤ C → m₂ x = some v → (∀ b o, b ∉ tabs → s.heap.get? b = some o → hb.get? b = some o) → Fr hb C s₂.heap m₂ → wpAny (model prog w) A' (eval elt (genEnv scope cl C code builtinsNs env)) (fun y s₃ => F i y s₂.heap s₃.heap ∧ Keeps s₂ s₃) E' s₂)) (c13 : (∀ a g C fp wr h' tk gs, GenPk prog w A.in4 n F a g C fp wr 0 { s with heap := h', toks := tk, gens := gs } → (∀ b ∈ C :: wr, s.heap.get? b = none) → (∀ b o, b ∉ tabs → s.heap.get? b = some o → h'.get? b = some o) → TabsOk h' → AllBare gs → Q (.ref a) { s with heap := h', toks := tk, gens := gs })) : GS prog w A env elt x scope cl Q xv s
theorem stop_GS {elt : PySem.Expr} {x : Str} {scope : Scope} {cl : List (Str × Addr)} {Q : Value → Shared → Prop} {xv : Value} (h : GS prog w A env elt x scope cl Q xv s) : GS prog w A env elt x scope cl Q xv s := h

theorem nolimit_but {h h' : Heap} {P : Addr} {o : Obj} (x : h.NoLimit) (hP : h.get? P = some (tabObj #[]) ∨ ∃ ps, h.get? P = some (tabObj ps)) (k : ∀ b o, b ≠ P → h.get? b = some o → h'.get? b = some o) : h'.NoLimit := by
  (run_tac sh0)
  obtain ⟨mc, hns, hnn⟩ := x
  refine ⟨mc, hns.at' fun _ e => k _ _ (fun q => ?_) e, hnn⟩
  obtain ⟨oc, es, ep, e1, e2, _⟩ := hns
  rw [q] at e1
  rcases hP with hP | ⟨ps, hP⟩ <;> (rw [hP] at e1; cases e1; cases e2)
  (run_tac sh1)

theorem gen_make {elt iter : PySem.Expr} {x : Str} {px : Pos} {scope : Scope} {cl : List (Str × Addr)} {pos : Pos} {Q : Value → Shared → Prop}
    (hh : A.handled = none) (hco : scope.isCoroutine = false) (hclos : closureFor scope env = pure cl) (hcell : ∀ y ∈ scope.names, y.2 ≠ .cell) (h0 : scope.names.lookup (".0" : Str) = some NameKind.local)
    (hx : scope.names.lookup x = some .local) (hkind : scope.kind = .function) (hroom : A.depth < recursionLimit)
    (h : wpAny (model prog w) A (eval iter env) (GS prog w A env elt x scope cl Q) E s)
    (hs : ∀ x, genFold iter env x = pure x := by intro _; rfl) :
    wpAny (model prog w) A (eval (.GeneratorExp elt [⟨.Name x px, iter, [], 0⟩] scope pos) env) Q E s := by
  (run_tac sh0)
  refine wpAny_GeneratorExp_make hco hclos hcell h0 hkind hroom (wpAny_mono h (fun xv s₁ h₁ => ?_) fun _ _ e => e) hs
  obtain ⟨n, Pv, F, fr, h₀, c, P, p, loose, mean, mg, mb, hsrc, ht, hg, hfr, hk₀, hn₀, hPt, hcode, hC, hglob, T, hF, helt, hQ⟩ := h₁
  refine hsrc _ _ fun I h₂ tk₂ fp wr Pp St W hst hP hwl hft hfp hwn hle₂ hk₂ => ?_
  have hk₀₂ : ∀ b o, h₀.get? b = some o → h₂.get? b = some o := fun b o e => hk₂ b o (hk₀ b o e)
  refine ⟨T.nolimit.keeps hk₀₂, ?_⟩
  obtain ⟨ps, hps, htr⟩ := (ht.keeps hk₂) P hPt
  have hcd : h₂.IsCode c P ps := (hC.keeps hk₀₂).code hps htr
  have htb : h₂.TableAt c P ps := (hC.keeps hk₀₂).tab hps
  suffices key : ∀ code (h₃ : Heap) tk₃, (∀ b o, b ≠ P → h₂.get? b = some o → h₃.get? b = some o) → TabsOk h₃ → h₂.objs.size ≤ h₃.objs.size →
      wpAny (model prog w) A (builtinsFor env.globals env.builtins) (fun bi s₄ => ∀ h', h'.Ns s₄.heap.objs.size (fun y => if y = ".0" then some (.ref I) else none) → Heap.SameBut s₄.heap.objs.size (s₄.heap.push { cls := .type "frame", data := .dict #[] }) h' →
          Q (.ref h'.objs.size) { s₄ with
            gens := s₄.gens.push (.fresh (.compStart (.GeneratorExp elt [⟨.Name x px, iter, [], 0⟩] scope pos) 0 (.ref I) .none (genEnv scope cl s₄.heap.objs.size code bi env))),
            toks := s₄.toks + 1 + 1 + 1,
            heap := h'.push { cls := .type "generator", data := .fields #[.int s₄.gens.size 0, .str "<genexpr>" (s₄.toks + 1), .str (env.qual ++ "<genexpr>") (s₄.toks + 1 + 1)] } }) E { s₁ with heap := h₃, toks := tk₃ } by
    cases hnf : codeAmong pos ps.toList with
    | some cv => exact wpAny_genexprCode_hit hcode hcd hnf (key cv h₂ tk₂ (fun _ _ _ e => e) (ht.keeps hk₂) (Nat.le_refl _))
    | none =>
      refine wpAny_genexprCodeX hcode hcd htb hnf fun c' h₃ tk₃ hx₃ hge hlt _ _ htb₃ _ => key (.ref c') h₃ tk₃ (fun b o hb e => hx₃ b o hb e) (fun P' hP' => ?_) (Nat.le_of_lt (Nat.lt_of_le_of_lt hge hlt))
      by_cases q : P' = P
      · subst q
        exact ⟨_, htb₃.2, by
          have hl : (ps ++ #[rawInt pos.line, rawInt pos.col, Value.ref c']).toList = ps.toList ++ [rawInt pos.line, rawInt pos.col, .ref c'] := by simp
          rw [hl]; exact TriplesOk_snoc _ _ _ _ htr⟩
      · obtain ⟨ps', e, r⟩ := (ht.keeps hk₂) P' hP'
        exact ⟨ps', hx₃ _ _ q e, r⟩
  intro code h₃ tk₃ hk₃ ht₃ hle₃
  have hnP : ∀ b o, h₀.get? b = some o → b ≠ P := fun b o e q => by rw [q, hn₀ P hPt] at e; cases e
  have hk₀₃ : ∀ b o, h₀.get? b = some o → h₃.get? b = some o := fun b o e => hk₃ b o (hnP b o e) (hk₀₂ b o e)
  obtain ⟨bm, ob, b1, b2, b3, b4, b5, b6⟩ := T.bmain
  rw [hglob]
  refine wpAny_builtinsFor (T.g.keeps hk₀₃) b1 b2 (hk₀₃ _ _ b3) b4 b5 b6 ?_
  intro h' hn' hs'
  dsimp only at hn' hs' ⊢
  have hsz : h'.objs.size = h₃.objs.size + 1 := by rw [hs'.1, Heap.size_push]
  have keep' : ∀ b o, h₃.get? b = some o → h'.get? b = some o := fun b o e => hs'.extBut b o (Nat.ne_of_lt (Heap.lt_size e)) (Heap.get?_push_of_some _ e)
  have keep₅ : ∀ b o, h₃.get? b = some o → (h'.push { cls := .type "generator", data := .fields #[.int s₁.gens.size 0, .str "<genexpr>" (tk₃ + 1), .str (env.qual ++ "<genexpr>") (tk₃ + 1 + 1)] }).get? b = some o :=
    fun b o e => Heap.get?_push_of_some _ (keep' b o e)
  have hfpP : ∀ b ∈ fp, b ≠ P := fun b hb q => hft b hb (q ▸ hPt)
  have hst₃ : St 0 h₃ := (W A hh).frame _ _ _ hst fun b hb o e => hk₃ b o (hfpP b hb) e
  have hfp₃ : ∀ b ∈ fp, b < h₃.objs.size := fun b hb => Nat.lt_of_lt_of_le (hfp b hb) hle₃
  have hsub : ∀ b ∈ wr, b ∈ List.range h₃.objs.size := fun b hb => List.mem_range.mpr (hfp₃ b ((W A hh).sub b hb))
  have haC : h'.objs.size ≠ h₃.objs.size := by rw [hsz]; exact Nat.succ_ne_self _
  have haf : h'.objs.size ∉ List.range h₃.objs.size := fun hm => by have := List.mem_range.mp hm; omega
  have hl₃ : h₃.NoLimit := T.nolimit.keeps hk₀₃
  have hclt : cStatics < h₃.objs.size := let ⟨_, hn, _⟩ := hl₃; hn.lt
  have hcw : cStatics ∉ wr := fun q => by
    obtain ⟨_, ⟨o, _, _, e, _⟩, _⟩ := T.nolimit
    have := hwn _ q
    rw [hk₀ _ _ e] at this; cases this
  have hwt : ∀ b ∈ wr, b ∉ tabs := fun b hb h => hft b ((W A hh).sub b hb) h
  refine hQ h'.objs.size s₁.gens.size h₃.objs.size (List.range h₃.objs.size) wr _ _ _ ⟨?_, haC, haf, hsub, List.mem_range.mpr hclt, Nat.ne_of_lt hclt, hcw, fun b hb => ?_, fun b hb h => ?_⟩ (fun b hb => ?_) (fun b o ht0 e => keep₅ b o (hk₃ b o (fun q => ht0 (q ▸ hPt)) (hk₂ b o e))) (ht₃.keeps keep₅) (AllBare.push hg rfl)
  · refine GenH.fresh (A := A.in4) (cenv := genEnv scope cl h₃.objs.size code builtinsNs env) (m := fun y => if y = ".0" then some (.ref I) else none) hh hfr
      (fun A' hA => (W A' hA).mono_fp fun b hb => List.mem_range.mpr (hfp₃ b hb)) F hF (fun i g b hb hg' => hwl i g hg' b hb) hx (by simp [genEnv, hkind]) hco
      (fun hm => Nat.lt_irrefl _ (List.mem_range.mp hm)) ?_ ⟨_, _, _, Heap.get?_push_size _ rfl, rfl, rfl, rfl⟩ (Array.getElem?_push_size ..) ((W A hh).frame _ _ _ hst₃ fun b _ o e => keep₅ b o e) (hn'.push _) (hl₃.keeps keep₅)
    intro A' E' i v s₂ m₂ hA hD hU hfr' hPv hns hm hkp
    refine helt (hideAll h₃ wr) h₃.objs.size code i v s₂ m₂ A' E' hA hD hU hfr' (hP i v hPv) (Nat.le_trans hle₂ hle₃) hm (fun b o ht0 e => hideAll_get _ (hk₃ b o (fun q => ht0 (q ▸ hPt)) (hk₂ b o e)) fun q => by rw [hwn b q] at e; cases e) ⟨hns, fun b o e => ?_, Nat.le_of_eq (hideAll_size _ _)⟩
    have e' := of_hideAll _ e
    refine hkp b (List.mem_range.mpr (Heap.lt_size e')) (fun q => ?_) o (keep₅ b o e')
    rw [hideAll_none _ q] at e; cases e
  · show b < (h'.push _).objs.size
    rw [Heap.size_push, hsz]
    rcases List.mem_cons.mp hb with rfl | hb
    · rw [hsz]; exact Nat.lt_succ_self _
    · rcases List.mem_cons.mp hb with rfl | hb
      · exact Nat.lt_succ_of_lt (Nat.lt_succ_self _)
      · exact Nat.lt_succ_of_lt (Nat.lt_succ_of_lt (List.mem_range.mp hb))
  · rcases List.mem_cons.mp hb with rfl | hb
    · exact Nat.lt_irrefl _ (ht₃.lt h)
    · exact hwt b hb h
  · rcases List.mem_cons.mp hb with rfl | hb
    · exact Heap.get?_none_of_le (Nat.le_trans hle₂ hle₃)
    · exact hwn b hb
  (run_tac sh1)
end
end Mine
namespace Mine
open PySem.Calls PyProof.V PySem.Spec PyProof.Rows.LCg
theorem fresh_13 : True := by
  w_top off
  trivial
section
variable {prog : Program} {w : World} {A : Around} {E : Value → Shared → Prop} {s : Shared} {env : Env}
theorem moved_eq {wr : List Addr} {g : Nat} {s s' : Shared} (m : Moved wr (GenOnlyQ g) s s') : s' = { s with heap := s'.heap, toks := s'.toks, gens := s'.gens } := by
  obtain ⟨h, gs, d, t, o⟩ := s'
  obtain ⟨_, _, e1, e2, _⟩ := m
  cases e1; cases e2; rfl
theorem GenPk.walks {n : Nat} {F : Nat → Value → Heap → Heap → Prop} {a g C : Addr} {fp wr : List Addr} {Pv : Nat → Value → Prop} (hh : A.handled = none) (hroom : A.depth < recursionLimit) (K : GenPk prog w A n F a g C fp wr 0 s)
    (hF : ∀ i v h h', F i v h h' → Pv i v) : WalksS prog w A a (a :: C :: fp) (C :: wr) (GenOnlyQ g) n Pv (fun j s => GenH prog w A a g C fp wr n F j s) where
  sub := fun b hb => by
    rcases List.mem_cons.mp hb with rfl | hb
    · simp
    · exact List.mem_cons_of_mem _ (List.mem_cons_of_mem _ (K.sub b hb))
  grefl := fun _ => .inl rfl
  gtrans := fun _ _ _ x y => x.trans y
  frame := fun j s h' tk st _ hk => st.frame K.hcs K.sub hk
  item := fun j s Q E hj st hQ => GenH.item hh K.haC K.haf K.sub hroom K.hcC K.hcw st hj fun v s' hf st' m => hQ v s' (hF _ _ _ _ hf) st' m
  done := fun s Q E st hQ => GenH.done hh hroom st hQ
  self := fun _ _ _ _ st hQ => wpAny_pyIter_gen st.1 hQ

theorem all_genH {n : Nat} {F : Nat → Value → Heap → Heap → Prop} {a g C : Addr} {fp wr : List Addr} {Q : Value → Shared → Prop} (hh : A.handled = none) (hroom : A.depth < recursionLimit) (hg : AllBare s.gens) (K : GenPk prog w A.in4 n F a g C fp wr 0 s)
    (hF : ∀ i v h h', F i v h h' → v = .bool true)
    (hQ : ∀ h' tk gs, (∀ b o, b ∉ C :: wr → s.heap.get? b = some o → h'.get? b = some o) → AllBare gs → Q (.bool true) { s with heap := h', toks := tk, gens := gs }) : wpAny (model prog w) A (call (.builtin "all") [.ref a]) Q E s := by
  (run_tac sh0)
  have W := (K.walks (Pv := fun _ v => v = .bool true) (A := A.in4) hh hroom hF).in4_1
  refine call_all_walkS (W.self 0 s _ _ K.gen ⟨a, _, _, _, n, _, _, fun _ => true, rfl, W, K.gen, fun i v s Q E hv hQ => ?_, fun s' m => ?_⟩)
  · subst hv; exact wpAny_truthy_bool hQ
  · rw [moved_eq m]
    have e : ((List.range n).all fun _ => true) = true := by simp
    rw [e]
    exact hQ _ _ _ m.heap (m.gens.bare hg)
  (run_tac sh1)

/-- sum over a generator of two objects -/
theorem sum_gen2 {Fg : Nat → Value → Heap → Heap → Prop} {G0 G1 : Value → Heap → Heap → Prop} {a g C : Addr} {fp wr : List Addr} {Q : Value → Shared → Prop} (hh : A.handled = none) (hroom : A.depth < recursionLimit) (hg : AllBare s.gens) (K : GenPk prog w A.in4 2 Fg a g C fp wr 0 s)
    (hG0 : ∀ y g₀ g h h', Older g₀ g → (∀ b o, g.get? b = none → h.get? b = some o → h'.get? b = some o) → G0 y g h → G0 y g₀ h')
    (hG1 : ∀ y g₀ g h h', Older g₀ g → (∀ b o, g.get? b = none → h.get? b = some o → h'.get? b = some o) → G1 y g h → G1 y g₀ h')
    (hF0 : ∀ y h h', Fg 0 y h h' → ∃ z, y = .ref z) (hF1 : ∀ y h h', Fg 1 y h h' → ∃ z, y = .ref z) (hr0 : ∀ y h h', G0 y h h' → ∃ z, y = .ref z) (hr1 : ∀ y h h', G1 y h h' → ∃ z, y = .ref z)
    (add0 : ∀ v t s₂ h₁ E', Fg 0 v h₁ s₂.heap → (∀ b o, b ∉ C :: wr → s.heap.get? b = some o → s₂.heap.get? b = some o) → AllBare s₂.gens → wpAny (model prog w) A.in1 (binaryOp .Add (.int 0 t) v) (fun r s₃ => G0 r s₂.heap s₃.heap ∧ Keeps s₂ s₃) E' s₂)
    (add1 : ∀ u v s₂ h₁ h₂ E', G0 u h₁ s₂.heap → Fg 1 v h₂ s₂.heap → (∀ b o, b ∉ C :: wr → s.heap.get? b = some o → s₂.heap.get? b = some o) → AllBare s₂.gens → wpAny (model prog w) A.in1 (binaryOp .Add u v) (fun r s₃ => G1 r s₂.heap s₃.heap ∧ Keeps s₂ s₃) E' s₂)
    (hQ : ∀ r h' tk gs, G1 r s.heap h' → (∀ b o, b ∉ C :: wr → s.heap.get? b = some o → h'.get? b = some o) → AllBare gs → Q r { s with heap := h', toks := tk, gens := gs }) : wpAny (model prog w) A (call (.builtin "sum") [.ref a]) Q E s := by
  (run_tac sh0)
  refine call_function_tree F.kind_sum F.plain_sum F.entry_sum (F.args_sum1 _) ?_
  unfold Builtin.«sum»
  simp only [List.length_cons, List.length_nil]
  rw [if_neg (by decide)]
  refine wpAny_bind (wpAny_of_eq (show Builtin.Builtins.bindParams "sum" ["start"] 0 { } = pure [none] from rfl) ?_)
  refine wpAny_bind (wpAny_pyIter_gen K.gen.1 ?_)
  refine wpAny_bind (wpAny_mkInt ?_)
  refine wpAny_bind (wpAny_pure ?_)
  simp only [List.forIn_cons, List.forIn_nil]
  refine wpAny_bind (wpAny_bind (wpAny_bind (wpAny_isInstance (T := "int") (b := false) (typeIs_int _ _ _) PySem.sub_int_str ?_)))
  simp only [Bool.false_eq_true, if_false]
  refine wpAny_pure (wpAny_bind (wpAny_bind (wpAny_isInstance (T := "int") (b := false) (typeIs_int _ _ _) PySem.sub_int_bytes ?_)))
  simp only [Bool.false_eq_true, if_false]
  refine wpAny_pure (wpAny_bind (wpAny_bind (wpAny_isInstance (T := "int") (b := false) (typeIs_int _ _ _) PySem.sub_int_bytearray ?_)))
  simp only [Bool.false_eq_true, if_false]
  refine wpAny_pure (wpAny_pure ?_)
  refine wpAny_bind (wpAny_newObj_type ?_)
  generalize ht0 : s.toks = t0
  refine wpAny_pure ⟨plainId_quiet F.plain_sum_loop _, ?_⟩
  dsimp only
  generalize hH1 : s.heap.push { cls := .type "list", data := .seq [Value.int 0 t0].toArray } = H1
  have hS1 : H1.get? s.heap.objs.size = some { cls := .type "list", data := .seq [Value.int 0 t0].toArray } := hH1 ▸ Heap.get?_push_size _ rfl
  have old1 : ∀ b o, s.heap.get? b = some o → H1.get? b = some o := fun b o e => hH1 ▸ Heap.get?_push_of_some _ e
  have hSn : ∀ b ∈ a :: C :: fp, b ≠ s.heap.objs.size := fun b hb q => by have := K.hlt b hb; rw [q] at this; exact Nat.lt_irrefl _ this
  have hSw : s.heap.objs.size ∉ C :: wr := fun h => by
    rcases List.mem_cons.mp h with q | h
    · exact hSn C (by simp) q.symm
    · exact hSn _ (List.mem_cons_of_mem _ (List.mem_cons_of_mem _ (K.sub _ h))) rfl
  have item : ∀ (j : Nat) (u : Shared) (Q : Option Value → Shared → Prop) (E : Value → Shared → Prop), GenH prog w A.in4 a g C fp wr 2 Fg j u → j < 2 →
      (∀ v s', Fg j v u.heap s'.heap → GenH prog w A.in4 a g C fp wr 2 Fg (j + 1) s' → Moved (C :: wr) (GenOnlyQ g) u s' → Q (some v) s') → wpAny (model prog w) A.in1 (pyNext (.ref a)) Q E u := fun j u Q E st hj k =>
    wpAny_of_in1 (A := A.in1) (wpAny_of_in1 (A := A.in1.in1) (wpAny_of_in1 (A := A.in1.in1.in1) (GenH.item (A := A.in4) hh K.haC K.haf K.sub hroom K.hcC K.hcw st hj k)))
  have fram : ∀ (j : Nat) (u : Shared) (h' : Heap) (tk : Tok), GenH prog w A.in4 a g C fp wr 2 Fg j u → (∀ b o, b ≠ s.heap.objs.size → u.heap.get? b = some o → h'.get? b = some o) → GenH prog w A.in4 a g C fp wr 2 Fg j { u with heap := h', toks := tk } := fun j u h' tk st k =>
    st.frame K.hcs K.sub fun b hb o e => k b o (hSn b hb) e
  have g1 : GenH prog w A.in4 a g C fp wr 2 Fg 0 { s with heap := H1, toks := t0 + 1 } := fram 0 s H1 _ K.gen fun b o _ e => old1 b o e
  refine codeAny_builtin F.entry_sum_loop ?_
  rw [Around.under_plainId F.plain_sum_loop _]
  show wpAny _ A.in1 (seqItems? (.ref s.heap.objs.size) >>= _) _ _ _
  refine wpAny_bind (wpAny_seqItems hS1 rfl ?_)
  show wpAny _ A.in1 (tryCatch (pyNext (.ref a)) _ >>= _) _ _ _
  refine wpAny_bind (wpAny_tryCatch (item 0 _ _ _ g1 (by decide) fun v s2 hF g2 m2 => ?_))
  obtain ⟨z, rfl⟩ := hF0 _ _ _ hF
  show wpAny _ A.in1 (rule "sum.leaves-ints" >>= fun _ => (holding [Value.ref z] (binaryOp .Add (.int 0 t0) (.ref z))).attempt >>= _) _ _ _
  have hS2 := m2.heap _ _ hSw hS1
  have hb2 := m2.gens.bare hg
  refine wpAny_bind (wpAny_rule (wpAny_bind (wpAny_attempt (wpAny_holding (wpAny_mono (add0 _ t0 s2 _ _ hF (fun b o hb e => m2.heap b o hb (old1 b o e)) hb2) (fun r s3 h3 => ?_) fun _ _ e => e)))))
  obtain ⟨hG, H3, tk3, rfl, hk3⟩ := h3
  obtain ⟨y, rfl⟩ := hr0 _ _ _ hG
  have hS3 := hk3 _ _ hS2
  dsimp only
  refine wpAny_bind (wpAny_updateSeq hS3 rfl ?_)
  refine wpAny_bind (wpAny_letGo ?_)
  show wpAny _ A.in1 (updateSeq s.heap.objs.size (fun _ => #[Value.ref y]) >>= _) _ _ _
  generalize hH4 : H3.update s.heap.objs.size (Obj.mapSeq fun _ => #[Value.ref y]) = H4
  have hS4 : ∃ c, H4.get? s.heap.objs.size = some { cls := .type "list", data := .seq #[Value.ref y] c } := ⟨_, hH4 ▸ Heap.get?_update_self _ hS3 rfl⟩
  have old4 : ∀ b o, b ≠ s.heap.objs.size → H3.get? b = some o → H4.get? b = some o := fun b o hb e => hH4 ▸ (Heap.get?_update_other _ _ (Ne.symm hb)).trans e
  obtain ⟨c4, hS4⟩ := hS4
  refine wpAny_bind (wpAny_updateSeq hS4 rfl ?_)
  generalize hH5 : H4.update s.heap.objs.size (Obj.mapSeq fun _ => #[Value.ref y]) = H5
  have hS5 : ∃ c, H5.get? s.heap.objs.size = some { cls := .type "list", data := .seq #[Value.ref y] c } := ⟨_, hH5 ▸ Heap.get?_update_self _ hS4 rfl⟩
  have old5 : ∀ b o, b ≠ s.heap.objs.size → H4.get? b = some o → H5.get? b = some o := fun b o hb e => hH5 ▸ (Heap.get?_update_other _ _ (Ne.symm hb)).trans e
  obtain ⟨c5, hS5⟩ := hS5
  refine wpAny_pure ⟨plainId_quiet F.plain_sum_loop _, ?_⟩
  have g5 : GenH prog w A.in4 a g C fp wr 2 Fg 1 { s2 with heap := H5, toks := tk3 } := fram 1 s2 H5 _ g2 fun b o hb e => old5 b o hb (old4 b o hb (hk3 b o e))
  have hSlive : ∀ b, s2.heap.get? b = none → b ≠ s.heap.objs.size := fun b e q => by rw [q, hS2] at e; cases e
  have hG5 : G0 (.ref y) s2.heap H5 := hG0 _ _ _ _ _ (Older.refl _) (fun b o hn e => old5 b o (hSlive b hn) (old4 b o (hSlive b hn) e)) hG
  refine codeAny_builtin F.entry_sum_loop ?_
  rw [Around.under_plainId F.plain_sum_loop _]
  show wpAny _ A.in1 (seqItems? (.ref s.heap.objs.size) >>= _) _ _ _
  refine wpAny_bind (wpAny_seqItems hS5 rfl ?_)
  show wpAny _ A.in1 (tryCatch (pyNext (.ref a)) _ >>= _) _ _ _
  refine wpAny_bind (wpAny_tryCatch (item 1 _ _ _ g5 (by decide) fun v s6 hF' g6 m6 => ?_))
  obtain ⟨z', rfl⟩ := hF1 _ _ _ hF'
  show wpAny _ A.in1 ((holding [Value.ref z'] (binaryOp .Add (.ref y) (.ref z'))).attempt >>= _) _ _ _
  have hS6 := m6.heap _ _ hSw hS5
  have hb6 := m6.gens.bare hb2
  have hG6 : G0 (.ref y) s2.heap s6.heap := hG0 _ _ _ _ _ (Older.refl _) (fun b o hn e => m6.heap b o (fun q => g2.2.2.1 b q hn) e) hG5
  have up6 : ∀ b o, b ∉ C :: wr → b ≠ s.heap.objs.size → s.heap.get? b = some o → s6.heap.get? b = some o := fun b o hb hbS e => m6.heap b o hb (old5 b o hbS (old4 b o hbS (hk3 b o (m2.heap b o hb (old1 b o e)))))
  have nS : ∀ b o, s.heap.get? b = some o → b ≠ s.heap.objs.size := fun b o e q => Nat.lt_irrefl _ (q ▸ Heap.lt_size e)
  refine wpAny_bind (wpAny_attempt (wpAny_holding (wpAny_mono (add1 _ _ s6 _ _ _ hG6 hF' (fun b o hb e => up6 b o hb (nS b o e) e) hb6) (fun r s7 h7 => ?_) fun _ _ e => e)))
  obtain ⟨hG7, H7, tk7, rfl, hk7⟩ := h7
  obtain ⟨x, rfl⟩ := hr1 _ _ _ hG7
  have hS7 := hk7 _ _ hS6
  dsimp only
  refine wpAny_bind (wpAny_updateSeq hS7 rfl ?_)
  refine wpAny_bind (wpAny_letGo ?_)
  show wpAny _ A.in1 (updateSeq s.heap.objs.size (fun _ => #[Value.ref x]) >>= _) _ _ _
  generalize hH8 : H7.update s.heap.objs.size (Obj.mapSeq fun _ => #[Value.ref x]) = H8
  have hS8 : ∃ c, H8.get? s.heap.objs.size = some { cls := .type "list", data := .seq #[Value.ref x] c } := ⟨_, hH8 ▸ Heap.get?_update_self _ hS7 rfl⟩
  have old8 : ∀ b o, b ≠ s.heap.objs.size → H7.get? b = some o → H8.get? b = some o := fun b o hb e => hH8 ▸ (Heap.get?_update_other _ _ (Ne.symm hb)).trans e
  obtain ⟨c8, hS8⟩ := hS8
  refine wpAny_bind (wpAny_updateSeq hS8 rfl ?_)
  generalize hH9 : H8.update s.heap.objs.size (Obj.mapSeq fun _ => #[Value.ref x]) = H9
  have hS9 : ∃ c, H9.get? s.heap.objs.size = some { cls := .type "list", data := .seq #[Value.ref x] c } := ⟨_, hH9 ▸ Heap.get?_update_self _ hS8 rfl⟩
  have old9 : ∀ b o, b ≠ s.heap.objs.size → H8.get? b = some o → H9.get? b = some o := fun b o hb e => hH9 ▸ (Heap.get?_update_other _ _ (Ne.symm hb)).trans e
  obtain ⟨c9, hS9⟩ := hS9
  refine wpAny_pure ⟨plainId_quiet F.plain_sum_loop _, ?_⟩
  have g9 : GenH prog w A.in4 a g C fp wr 2 Fg 2 { s6 with heap := H9, toks := tk7 } := fram 2 s6 H9 _ g6 fun b o hb e => old9 b o hb (old8 b o hb (hk7 b o e))
  have hSlive6 : ∀ b, s6.heap.get? b = none → b ≠ s.heap.objs.size := fun b e q => by rw [q, hS6] at e; cases e
  have hG9 : G1 (.ref x) s6.heap H9 := hG1 _ _ _ _ _ (Older.refl _) (fun b o hn e => old9 b o (hSlive6 b hn) (old8 b o (hSlive6 b hn) e)) hG7
  refine codeAny_builtin F.entry_sum_loop ?_
  rw [Around.under_plainId F.plain_sum_loop _]
  show wpAny _ A.in1 (seqItems? (.ref s.heap.objs.size) >>= _) _ _ _
  refine wpAny_bind (wpAny_seqItems hS9 rfl ?_)
  show wpAny _ A.in1 (tryCatch (pyNext (.ref a)) _ >>= _) _ _ _
  refine wpAny_bind (wpAny_tryCatch (wpAny_of_in1 (A := A.in1) (wpAny_of_in1 (A := A.in1.in1) (wpAny_of_in1 (A := A.in1.in1.in1) (GenH.done (A := A.in4) hh hroom g9 fun s10 m10 => ?_)))))
  have hlive : ∀ b ∈ C :: wr, s.heap.get? b ≠ none := K.gen.2.2.1
  have hold : Older s.heap s6.heap := Older.but (l := C :: wr) (fun b o hb e => up6 b o hb (nS b o e) e) fun b hb => g6.2.2.1 b hb
  have hG10 : G1 (.ref x) s.heap s10.heap := hG1 _ _ _ _ _ hold (fun b o hn e => m10.heap b o (fun q => g6.2.2.1 b q hn) e) hG9
  have e10 : s10 = { s with heap := s10.heap, toks := s10.toks, gens := s10.gens } := by
    have := moved_eq m10
    have e6 := moved_eq m6
    have e2 := moved_eq m2
    rw [this, e6, e2]
  rw [e10]
  exact wpAny_pure (hQ _ _ _ _ hG10 (fun b o hb e => m10.heap b o hb (old9 b o (nS b o e) (old8 b o (nS b o e) (hk7 b o (up6 b o hb (nS b o e) e))))) (m10.gens.bare hb6))
  (run_tac sh1)
end
end Mine
namespace Mine
open PySem.Calls PyProof.V PySem.Spec PyProof.Rows.LCg
theorem fresh_14 : True := by
  w_top off
  trivial
def KeptT (h h' : Heap) : Prop := ∀ b o, b ∉ tabs → h.get? b = some o → h'.get? b = some o
theorem KeptT.of {h h' : Heap} (k : ∀ b o, h.get? b = some o → h'.get? b = some o) : KeptT h h' := fun b o _ e => k b o e
theorem KeptT.trans {a b c : Heap} (x : KeptT a b) (y : KeptT b c) : KeptT a c := fun d o h e => y d o h (x d o h e)
def RetT (s : Shared) (Q : Value → Shared → Prop) (post : Value → Heap → Prop) : Prop :=
  ∀ v h' tk gs, KeptT s.heap h' → TabsOk h' → AllBare gs → post v h' → Q v { s with heap := h', toks := tk, gens := gs }
theorem off_tabs {h : Heap} (ht : TabsOk h) {b : Addr} {o : Obj} (e : h.get? b = some o) (hc : o.cls ≠ .none) : b ∉ tabs := fun q => by
  obtain ⟨ps, e', _⟩ := ht b q
  rw [e] at e'; cases e'; exact hc rfl
theorem toG {h : Heap} (ht : TabsOk h) {b : Addr} {o : Obj} (e : h.get? b = some o) (hc : o.cls ≠ .none) : (hideAll h tabs).get? b = some o := hideAll_get _ e (off_tabs ht e hc)
theorem TabsOk.of_news {g h : Heap} {L : Addr} {news : List (Addr × Obj)} {ps1 ps2 : Array Value} (N : News g L h news) (h1 : ((742 : Addr), tabObj ps1) ∈ news) (h2 : ((695 : Addr), tabObj ps2) ∈ news) (r1 : TriplesOk ps1.toList) (r2 : TriplesOk ps2.toList) : TabsOk h := fun P hP => by
  rcases List.mem_cons.mp hP with rfl | hP
  · exact ⟨ps1, (N _ h1).1, r1⟩
  · rw [List.mem_singleton.mp hP]; exact ⟨ps2, (N _ h2).1, r2⟩
def NotTab (o : Obj) : Prop := ∀ ps, o ≠ tabObj ps
theorem nt_cls {o : Obj} (h : o.cls ≠ .none) : NotTab o := fun _ e => h (by rw [e])
theorem nt_cell {o : Obj} {v : Option Value} (h : o.data = .cell v) : NotTab o := fun _ e => by rw [e] at h; cases h
theorem off_nt {h : Heap} (ht : TabsOk h) {b : Addr} {o : Obj} (e : h.get? b = some o) (hc : NotTab o) : b ∉ tabs := fun q => by
  obtain ⟨ps, e', _⟩ := ht b q
  rw [e] at e'; cases e'; exact hc ps rfl
noncomputable def InitOff : List (Addr × Obj) → Prop
  | p :: q :: r :: t => NotTab p.2 ∧ InitOff (q :: r :: t)
  | [_, _] => True
  | _ => False
noncomputable def lastTwo : List (Addr × Obj) → List Addr
  | _ :: q :: r :: t => lastTwo (q :: r :: t)
  | [p, q] => [p.1, q.1]
  | _ => []
noncomputable def retab (o1 o2 : Obj) : List (Addr × Obj) → List (Addr × Obj)
  | p :: q :: r :: t => p :: retab o1 o2 (q :: r :: t)
  | [p, q] => [(p.1, o1), (q.1, o2)]
  | l => l
theorem mem_retab {o1 o2 : Obj} {a b : Addr} : ∀ {news : List (Addr × Obj)}, InitOff news → lastTwo news = [a, b] → ∀ p ∈ retab o1 o2 news, (p ∈ news ∧ NotTab p.2) ∨ p = (a, o1) ∨ p = (b, o2)
  | x :: q :: r :: t, hi, hl, p, hp => by
    rcases List.mem_cons.mp (show p ∈ x :: retab o1 o2 (q :: r :: t) from hp) with rfl | hp
    · exact .inl ⟨.head _, hi.1⟩
    · rcases mem_retab hi.2 hl p hp with z | z
      · exact .inl ⟨.tail _ z.1, z.2⟩
      · exact .inr z
  | [x, y], _, hl, p, hp => by
    have e : [x.1, y.1] = [a, b] := hl
    injection e with e1 e2
    injection e2 with e2
    rcases List.mem_cons.mp (show p ∈ [(x.1, o1), (y.1, o2)] from hp) with rfl | hp
    · exact .inr (.inl (by rw [e1]))
    · rw [List.mem_singleton.mp hp]; exact .inr (.inr (by rw [e2]))
section
variable {g h h' : Heap} {L : Addr} {m : Str → Option Value} {news : List (Addr × Obj)}
theorem fr_tab (F : Fr g L h m) (k : KeptT h h') (h0 : ∀ P ∈ tabs, g.get? P = none) (hL : L ∉ tabs) : Fr g L h' m :=
  ⟨F.ns.at' fun o e => k _ o hL e, fun b o e => k b o (fun q => by rw [h0 b q] at e; cases e) (F.keep b o e), F.above⟩
theorem news_tab {ps1 ps2 : Array Value} (N : News g L h news) (ht : TabsOk h) (k : KeptT h h') (h0 : ∀ P ∈ tabs, g.get? P = none) (hL : L ∉ tabs) (hi : InitOff news) (hl : lastTwo news = [742, 695]) (e1 : h'.get? 742 = some (tabObj ps1)) (e2 : h'.get? 695 = some (tabObj ps2)) :
    News g L h' (retab (tabObj ps1) (tabObj ps2) news) := fun p hp => by
  rcases mem_retab hi hl p hp with ⟨q, hb⟩ | rfl | rfl
  · exact ⟨k _ _ (off_nt ht (N p q).1 hb) (N p q).1, (N p q).2⟩
  · exact ⟨e1, fun q => hL (q ▸ List.mem_cons_self ..), h0 _ (List.mem_cons_self ..)⟩
  · exact ⟨e2, fun q => hL (q ▸ List.mem_cons_of_mem _ (List.mem_cons_self ..)), h0 _ (List.mem_cons_of_mem _ (List.mem_cons_self ..))⟩
theorem ret_ofT {s : Shared} {Q : Value → Shared → Prop} {post : Value → Heap → Prop} {v : Value} {tk : Tok} {gs : Array GenState} {ps1 ps2 : Array Value} (R : RetT s Q post) (F : Fr g L h' m) (N : News g L h' news) (hsg : ∀ b o, b ∉ tabs → s.heap.get? b = some o → g.get? b = some o)
    (h1 : ((742 : Addr), tabObj ps1) ∈ news) (h2 : ((695 : Addr), tabObj ps2) ∈ news) (r1 : TriplesOk ps1.toList) (r2 : TriplesOk ps2.toList) (hg : AllBare gs) (hp : post v h') : Q v { s with heap := h', toks := tk, gens := gs } :=
  R v h' tk gs (fun b o hb e => F.keep b o (hsg b o hb e)) (.of_news N h1 h2 r1 r2) hg hp
end
section
variable {prog : Program} {w : World} {A₀ A : Around} {s : Shared} {base h₀ : Heap} {outer : List Env} {env : Env} {L : Addr} {m : Str → Option Value} {K : Frag} {p : Program} {loose : List Str} {mean : ExcName → Option Value} {mg mb : Str → Option Value}
  {name qual : Str} {params : Arguments} {body : List Stmt} {scope : Scope} {dV kV doc pm cdv ct oc : Value} {an od : Option Addr} {osl : Array (Option Value)} {f : Addr} {pos : List Value} {kw : List (Str × Value)} {binds : List (Str × Value)}
  {Q : Value → Shared → Prop} {E : Value → Shared → Prop}
theorem below_hb {h hb : Heap} (s : Shared) (B : Below A₀ base outer h₀) (F : Fr h₀ L h m) (hk : KeptT h hb) (hL : L ∉ tabs) (h0 : ∀ P ∈ tabs, h₀.get? P = none) (hA : A.frames = some (env :: outer)) (hf : env.frame = some L) (hke : env.scope.kind = .function) :
    Below A base (env :: outer) hb ∧ (∀ b o, h₀.get? b = some o → hb.get? b = some o) := by
  have F' := fr_tab F hk h0 hL
  obtain ⟨_, BG, _, _⟩ := groundX (s := { s with heap := hb }) (news := []) (R := fun _ _ => True) B F' News.nil hA hf hke
  exact ⟨BG, F'.keep⟩
theorem tab_ground (B : Below A₀ base outer h₀) (F : Fr h₀ L s.heap m) (h0 : ∀ P ∈ tabs, h₀.get? P = none) (ht : TabsOk s.heap) (hA : A.frames = some (env :: outer)) (hf : env.frame = some L) (hke : env.scope.kind = .function) :
    Below A base (env :: outer) (hideAll s.heap tabs) ∧ ∀ b o, h₀.get? b = some o → (hideAll s.heap tabs).get? b = some o := by
  (run_tac sh0)
  have hL : L ∉ tabs := fun q => by
    obtain ⟨ps, e, _⟩ := ht L q
    obtain ⟨o, es, ep, e1, e2, _⟩ := F.ns
    rw [e] at e1; cases e1; cases e2
  exact below_hb s B F (fun b o hb e => hideAll_get _ e hb) hL h0 hA hf hke
  (run_tac sh1)
theorem enterT (B : Below A₀ base outer h₀) (F : Fr h₀ L s.heap m) (X : K.In h₀) (T : Top p loose mean mg mb h₀) (hA : A.frames = some (env :: outer)) (hf : env.frame = some L) (hke : env.scope.kind = .function) (h0 : ∀ P ∈ tabs, h₀.get? P = none) (ht : TabsOk s.heap) (hroom : A.depth < recursionLimit)
    (ho : K.lookup f = some ⟨oc, od, .func (fnOf name qual params body scope dV kV doc pm an cdv ct), osl⟩) (hcd : codeIn K cdv qual = true)
    (hbind : BindsTo s (fnOf name qual params body scope dV kV doc pm an cdv ct) ⟨pos, kw⟩ binds) (hkind : (binds.all fun y => scope.names.lookup y.1 == some .local || scope.names.lookup y.1 == some .cell) = true)
    (hnd : ((cellsFrom 0 scope.names []).map (·.1)).Nodup) (hco : scope.isCoroutine = false) (hgen : scope.isGenerator = false) (hk : scope.kind = .function)
    (h : ∀ g L' h₁ tk cells ps1 ps2, g = hideAll s.heap tabs → Fr g L' h₁ (bindL (envOfC qual scope L' f cdv).kindOf binds fun _ => none) → News g L' h₁ (cells ++ [(742, tabObj ps1), (695, tabObj ps2)]) →
      CellsAre (bindC (envOfC qual scope L' f cdv).kindOf binds fun _ => none) (cellsFrom (L' + 1) scope.names []) cells → Below A base (env :: outer) g → K.In g → Top p loose mean mg mb g → TriplesOk ps1.toList → TriplesOk ps2.toList → (∀ P ∈ tabs, g.get? P = none) → L' ∉ tabs →
      (∀ b o, b ∉ tabs → s.heap.get? b = some o → g.get? b = some o) →
      wpAny (model prog w) (A.deeper (envOfC qual scope L' f cdv)) (execs body (envOfC qual scope L' f cdv))
        (fun fl s' => Q (match fl with | .ret v => v | _ => .none) s')
        (fun e s' => wpAny (model prog w) (A.deeper (envOfC qual scope L' f cdv)) (leaving (envOfC qual scope L' f cdv) e) (fun _ s'' => E e s'') (fun e' s'' => E e' s'') s')
        { s with heap := h₁, toks := tk }) : codeAny (model prog w) A (.call (.ref f) ⟨pos, kw⟩) (fun r s' => match r with | .ok (.ret v) => Q v s' | .ok _ => False | .error e => E e s') s := by
  (run_tac sh0)
  obtain ⟨BG, st⟩ := tab_ground B F h0 ht hA hf hke
  refine (codeAny_call_function (fd := fnX name qual params body scope [] dV kV doc pm an cdv ct) hroom ((X.keeps F.keep) _ _ ho) rfl hco hgen rfl (codeRec_of (X.keeps F.keep) hcd) (hbind _ _ _ _ ?_))
  refine wpAny_newFunctionEnv_cells hk (kindsX hkind _) fun env' he s' x => ?_
  subst he
  refine ⟨(T.nolimit.keeps F.keep).keeps x.toInCall.keep, codeAny_func ?_⟩
  obtain ⟨h₁, tk, rfl, _⟩ := x.done
  have hk₁ : ∀ b o, s.heap.get? b = some o → h₁.get? b = some o := x.toInCall.keep
  obtain ⟨cells, NC, Y⟩ := Cl.news (h₀ := s.heap) (Nat.le_refl _) fun n c hm => ⟨x.cell n c (lookup_of_mem_nodup (cellsFrom_names scope.names 0 (s.heap.objs.size + 1) [] [] rfl ▸ hnd) hm), x.above n c hm⟩
  obtain ⟨ps1, e1, r1⟩ := ht 742 (List.mem_cons_self ..)
  obtain ⟨ps2, e2, r2⟩ := ht 695 (List.mem_cons_of_mem _ (List.mem_cons_self ..))
  have hLt : s.heap.objs.size ∉ tabs := fun q => Nat.lt_irrefl _ (ht.lt q)
  refine h (hideAll s.heap tabs) s.heap.objs.size h₁ tk cells ps1 ps2 rfl ⟨x.toInCall.ns, fun b o e => hk₁ b o (of_hideAll _ e), Nat.le_of_eq (hideAll_size _ _)⟩ (fun q hq => ?_) Y BG (X.keeps st) (T.keeps st) r1 r2 (fun P hP => hideAll_none _ hP) hLt (fun b o hb e => hideAll_get _ e hb)
  rcases List.mem_append.mp hq with hq | hq
  · refine ⟨(NC q hq).1, (NC q hq).2.1, ?_⟩
    have e := (NC q hq).2.2
    cases q2 : (hideAll s.heap tabs).get? q.1 with
    | none => rfl
    | some o => rw [of_hideAll _ q2] at e; cases e
  · rcases List.mem_cons.mp hq with rfl | hq
    · exact ⟨hk₁ _ _ e1, fun q => hLt (q ▸ List.mem_cons_self ..), hideAll_none _ (List.mem_cons_self ..)⟩
    · rw [List.mem_singleton.mp hq]
      exact ⟨hk₁ _ _ e2, fun q => hLt (q ▸ List.mem_cons_of_mem _ (List.mem_cons_self ..)), hideAll_none _ (List.mem_cons_of_mem _ (List.mem_cons_self ..))⟩
  (run_tac sh1)
end
section
variable {M : Model} {A : Around} {E : Value → Shared → Prop} {s : Shared} {scope : Scope} {cl : List (Str × Addr)} {C c bi : Addr} {code : Value} {env : Env} {x : Str} {pos : Pos} {v : Value} {Q : Value → Shared → Prop} {hb : Heap} {m : Str → Option Value} {o : Obj}
theorem gname_L (F : Fr hb C s.heap m) (hv : m x = some v) (h : Q v s) (hk : scope.kind = .function := by rfl) (hx : (genEnv scope cl C code bi env).kindOf x = some .local := by rfl) (hd : (x == ("__debug__" : Str)) = false := by decide) :
    wpAny M A (eval (.Name x pos) (genEnv scope cl C code bi env)) Q E s := wpAny_Name (wpAny_loadName_local hk hx F.ns hv h) hd
theorem gname_F (hc : cl.lookup x = some c) (hg : s.heap.get? c = some o) (hd : o.data = .cell (some v)) (h : Q v s) (hk : scope.kind = .function := by rfl) (hx : (genEnv scope cl C code bi env).kindOf x = some .free := by rfl) (hb : (x == ("__debug__" : Str)) = false := by decide) (hn : (x == ("__classdict__" : Str)) = false := by decide) :
    wpAny M A (eval (.Name x pos) (genEnv scope cl C code bi env)) Q E s := wpAny_Name (wpAny_loadName_free hk hx hc ⟨o, hg, hd⟩ h hn) hb
end
theorem stop_Name {M : Model} {A : Around} {env : Env} {x : Str} {p : Pos} {Q : Value → Shared → Prop} {E : Value → Shared → Prop} {s : Shared} (h : wpAny M A (eval (.Name x p) env) Q E s) : wpAny M A (eval (.Name x p) env) Q E s := h
theorem stop_Gen {M : Model} {A : Around} {env : Env} {elt : PySem.Expr} {gs : List Comprehension} {sc : Scope} {p : Pos} {Q : Value → Shared → Prop} {E : Value → Shared → Prop} {s : Shared} (h : wpAny M A (eval (.GeneratorExp elt gs sc p) env) Q E s) : wpAny M A (eval (.GeneratorExp elt gs sc p) env) Q E s := h
end Mine
namespace Mine
open PySem.Calls PyProof.V PySem.Spec PyProof.Rows.LCg
theorem fresh_15 : True := by
  w_top off
  trivial
section
variable {prog : Program} {w : World} {A : Around} {E : Value → Shared → Prop} {s : Shared} {env : Env}
/-- how the one turn ends -/
def TurnF (I l : Addr) (v : Value) (o : Obj) (s : Shared) (Q : Flow → Shared → Prop) (f : Flow) (s₃ : Shared) : Prop :=
  match f with
  | .next => ∃ h₃ tk₃ gs₃, s₃ = { s with heap := h₃, toks := tk₃, gens := gs₃ } ∧ h₃.get? I = some o ∧ h₃.IsList l #[v] ∧ ∀ h₄ tk₄, (∀ b o, b ≠ I → h₃.get? b = some o → h₄.get? b = some o) → Q .next { s with heap := h₄, toks := tk₄, gens := gs₃ }
  | _ => False
inductive ForF (prog : Program) (w : World) (A : Around) (env : Env) (x : Str) (body : List Stmt) (Q : Flow → Shared → Prop) (E : Value → Shared → Prop) (xv : Value) (s : Shared) : Prop
  | mk (l : Addr) (v : Value) (g : Heap) (m : Str → Option Value) (news : List (Addr × Obj)) (c0 : xv = .ref l) (c1 : s.heap.IsList l #[v]) (c2 : l ≠ env.locals) (c3 : Fr g env.locals s.heap m) (c4 : News g env.locals s.heap news) (c5 : ∀ I o h₂ tk₂, o.cls ≠ .none → Fr g env.locals h₂ (fun y => if y = x then some v else m y) → News g env.locals h₂ ((I, o) :: news) → (∀ p ∈ news, @Ne Nat p.1 I) → wpAny (model prog w) A (execs body env) (TurnF I l v o { s with heap := h₂, toks := tk₂ } Q) E { s with heap := h₂, toks := tk₂ }) : ForF prog w A env x body Q E xv s
theorem stop_ForF {x : Str} {body : List Stmt} {Q : Flow → Shared → Prop} {xv : Value} (h : ForF prog w A env x body Q E xv s) : ForF prog w A env x body Q E xv s := h
theorem for1 {iter : PySem.Expr} {x : Str} {px pos : Pos} {body : List Stmt} {Q : Flow → Shared → Prop} (hh : A.handled = none)
    (hx : env.kindOf x = some .local) (hp : (env.scope.kind == .class || (env.scope.kind == .module && env.locals != env.globals)) = false)
    (h : wpAny (model prog w) A (eval iter env) (ForF prog w A env x body Q E) E s)
    (hs : ∀ x, foldedSetIterable iter env x = pure x := by intro _; rfl) (hE : PassesOwn (model prog w) A env E := by passes_own) :
    wpAny (model prog w) A (exec (.For (.Name x px) iter body [] pos) env) Q E s := by
  (run_tac sh0)
  refine wpAny_For (wpAny_mono h (fun xv s₁ h₁ => ?_) fun _ _ e => e) hs
  obtain ⟨l, v, g, m, news, rfl, hl, hlL, F, N, hb⟩ := h₁
  have hlt : l < s₁.heap.objs.size := by obtain ⟨_, e, _⟩ := hl; exact Heap.lt_size e
  have hII : ∀ b o, s₁.heap.get? b = some o → b ≠ s₁.heap.objs.size := fun b o e q => Nat.lt_irrefl _ (q ▸ Heap.lt_size e)
  have hLI : env.locals ≠ s₁.heap.objs.size := by obtain ⟨o, _, _, e, _⟩ := F.ns; exact hII _ _ e
  refine wpAny_pyIter_list hl ?_
  generalize hH : s₁.heap.push { cls := .type "list_iterator", data := .fields #[.ref l, .int 0 0] } = H
  have old : ∀ b o, s₁.heap.get? b = some o → H.get? b = some o := fun b o e => hH ▸ Heap.get?_push_of_some _ e
  have hit : H.IsListIter s₁.heap.objs.size l 0 := ⟨_, hH ▸ Heap.get?_push_size _ rfl, rfl, rfl⟩
  have hlH : H.IsList l #[v] := hl.at fun o e => old _ o e
  refine codeAny_forLoop_any (R := fun r s' => match r with | .ok f => Q f s' | .error e => cameBackBy (model prog w) A env E e s')
    (fun k s' => (k = 1 ∧ s' = { s₁ with heap := H }) ∨ (k = 0 ∧ ∃ h₃ tk₃ gs₃, s' = { s₁ with heap := h₃, toks := tk₃, gens := gs₃ } ∧ h₃.IsListIter s₁.heap.objs.size l 1 ∧ h₃.IsList l #[v] ∧
      ∀ h₄ tk₄, (∀ b o, b ≠ s₁.heap.objs.size → h₃.get? b = some o → h₄.get? b = some o) → Q .next { s₁ with heap := h₄, toks := tk₄, gens := gs₃ })) ?_ 1 (.inl ⟨rfl, rfl⟩)
  rintro k s' (⟨rfl, rfl⟩ | ⟨rfl, h₃, tk₃, gs₃, rfl, hit₃, hl₃, hQ⟩)
  · refine wpAny_pyNext_list_item hit hlH (x := v) (by simp) fun h₁ hit₁ hs₁ => ?_
    refine letGo_listiter (E := _) hit₁ ?_
    have F₁ : Fr g env.locals h₁ m := ⟨F.ns.at' fun o e => hs₁.extBut _ o hLI (old _ o e), fun b o e => hs₁.extBut b o (hII b o (F.keep b o e)) (old b o (F.keep b o e)), F.above⟩
    refine wpAny_assign_Name (wpAny_storeName_local hx F₁.ns (fun h₂ hn₂ hs₂ => ?_) hp)
    have oldL : ∀ b o, b ≠ env.locals → b ≠ s₁.heap.objs.size → s₁.heap.get? b = some o → h₂.get? b = some o := fun b o hL hI e => hs₂.extBut b o hL (hs₁.extBut b o hI (old b o e))
    obtain ⟨o, ho, hoc, hod⟩ := hit₁
    have ho₂ : h₂.get? s₁.heap.objs.size = some o := hs₂.extBut _ o (Ne.symm hLI) ho
    have gI : g.get? s₁.heap.objs.size = none := by
      cases q : g.get? s₁.heap.objs.size with
      | none => rfl
      | some o' => exact absurd rfl (hII _ _ (F.keep _ _ q))
    refine wpAny_mono (wpAny_passesOwn hE (hb s₁.heap.objs.size o h₂ _ (by rw [hoc]; nofun) (Fr.set F₁ hn₂ hs₂) (fun p hp => ?_) fun p hp => hII _ _ (N p hp).1)) (fun f s₃ hf => ?_) fun _ _ e => e
    · rcases List.mem_cons.mp hp with rfl | hp
      · exact ⟨ho₂, Ne.symm hLI, gI⟩
      · exact ⟨oldL _ _ (N p hp).2.1 (hII _ _ (N p hp).1) (N p hp).1, (N p hp).2⟩
    · cases f with
      | next =>
        obtain ⟨h₃, tk₃, gs₃, rfl, hI₃, hl₃, hQ⟩ := hf
        exact ⟨0, by decide, .inr ⟨rfl, h₃, tk₃, gs₃, rfl, ⟨o, hI₃, hoc, hod⟩, hl₃, hQ⟩⟩
      | cont => exact hf.elim
      | brk => exact hf.elim
      | ret v => exact hf.elim
  · refine wpAny_pyNext_list_end hh hit₃ hl₃ (by simp) fun h₄ he₄ => ?_
    exact wpAny_execs_nil (hQ h₄ _ he₄)
  (run_tac sh1)
theorem stop_For' {M : Model} {a b : PySem.Expr} {c d : List Stmt} {p : Pos} {Q : Flow → Shared → Prop} (h : wpAny M A (exec (.For a b c d p) env) Q E s) : wpAny M A (exec (.For a b c d p) env) Q E s := h
theorem news_dropI {g h h' : Heap} {L I : Addr} {o : Obj} {news : List (Addr × Obj)} (N : News g L h ((I, o) :: news)) (hne : ∀ p ∈ news, @Ne Nat p.1 I) (k : ∀ b o, b ≠ I → h.get? b = some o → h'.get? b = some o) : News g L h' news :=
  fun p hp => ⟨k _ _ (hne p hp) (N p (.tail _ hp)).1, (N p (.tail _ hp)).2⟩
theorem fr_dropI {g h h' : Heap} {L I : Addr} {o : Obj} {m : Str → Option Value} {news : List (Addr × Obj)} (F : Fr g L h m) (N : News g L h ((I, o) :: news)) (k : ∀ b o, b ≠ I → h.get? b = some o → h'.get? b = some o) : Fr g L h' m :=
  ⟨F.ns.at' fun o e => k _ o (fun q => (N _ (.head _)).2.1 q.symm) e, fun b o e => k b o (fun q => by have := (N _ (.head _)).2.2; rw [← q, e] at this; cases this) (F.keep b o e), F.above⟩
end
end Mine
namespace Mine
open PySem.Calls PyProof.V PySem.Spec PyProof.Rows.LCg
theorem fresh_16 : True := by
  w_top off
  trivial
open PySem.Calls
theorem entry_pow : entryFor table "pow" = some Builtin.«pow» := entryFor_of_tree (by kernel_rfl)
theorem kind_pow : builtinKind "pow" = none := by decide +kernel
theorem plain_pow : plainId "pow" = true := by decide +kernel
theorem args_pow3 (a b c : Value) : argsOk "pow" ⟨[a, b, c], []⟩ := by unfold argsOk; kernel_rfl
section
variable {prog : Program} {w : World} {A : Around} {E : Value → Shared → Prop} {s : Shared}
theorem ipow3_pos {b e m : Int} {t u v : Tok} {Q : Fin → Shared → Prop} (he : 0 ≤ e) (hm : 1 < m) (h : ∀ r k tk, Q (.done (.ret (.int r k))) { s with toks := tk }) :
    wpAny (model prog w) A (Builtin.«int.__pow__» ⟨[.int b t, .int e u, .int m v], []⟩) Q E s := by
  (run_tac sh0)
  obtain ⟨hp, g, d, tk, os⟩ := s
  unfold Builtin.«int.__pow__»
  (repeat (first | (with_reducible first | refine wpAny_pure ?_ | refine wpAny_bind ?_ | refine wpAny_holding ?_ | refine wpAny_standAt ?_ | refine wpAny_of_eq (by assumption) ?_) | wp_delta | wp_step))
  rw [if_neg (by simp; omega)]
  dsimp only
  rw [if_neg (by simp; omega), if_neg (by omega)]
  generalize (if (decide (m < 0) && ((Builtin.powMod (b % (m.natAbs : Int)).toNat e.natAbs m.natAbs : Nat) : Int) != 0) = true then _ else _) = r
  (repeat (first | (with_reducible first | refine wpAny_pure ?_ | refine wpAny_bind ?_ | refine wpAny_holding ?_ | refine wpAny_standAt ?_ | refine wpAny_of_eq (by assumption) ?_) | wp_delta | wp_step))
  exact h r _ _
  (run_tac sh1)
theorem call_pow3 {b e m : Int} {t u v : Tok} {Q : Value → Shared → Prop} (he : 0 ≤ e) (hm : 1 < m) (h : ∀ r k tk, Q (.int r k) { s with toks := tk }) :
    wpAny (model prog w) A (call (.builtin "pow") [.int b t, .int e u, .int m v]) Q E s := by
  (run_tac sh0)
  refine call_function_entry kind_pow plain_pow entry_pow (args_pow3 _ _ _) ?_
  obtain ⟨hp, g, d, tk, os⟩ := s
  unfold Builtin.«pow»
  (repeat (first | (with_reducible first | refine wpAny_pure ?_ | refine wpAny_bind ?_ | refine wpAny_holding ?_ | refine wpAny_standAt ?_ | refine wpAny_of_eq (by assumption) ?_) | wp_delta | wp_step))
  refine wpAny_of_eq PySem.F.slot_int_pow.lookup ?_
  (repeat (first | (with_reducible first | refine wpAny_pure ?_ | refine wpAny_bind ?_ | refine wpAny_holding ?_ | refine wpAny_standAt ?_ | refine wpAny_of_eq (by assumption) ?_) | wp_delta | wp_step))
  refine wpAny_of_eq PySem.F.slot_int_pow.lookup ?_
  dsimp only
  refine wpAny_holding (wpAny_bind (wpAny_of_eq (PySem.F.slot_int_pow.bind _) ?_))
  dsimp only
  refine wpAny_bind ?_
  refine wpAny_call_entry PySem.F.slot_int_pow (typeIs_int _ b t) PySem.F.entry_int_pow ?_ (PySem.F.args_int_pow_3 _ _ _)
  refine ipow3_pos he hm fun r k tk => ⟨_, rfl, ?_⟩
  refine wpAny_pure ?_
  (repeat (first | (with_reducible first | refine wpAny_pure ?_ | refine wpAny_bind ?_ | refine wpAny_holding ?_ | refine wpAny_standAt ?_ | refine wpAny_of_eq (by assumption) ?_) | wp_delta | wp_step))
  exact ⟨_, rfl, h r k tk⟩
  (run_tac sh1)
theorem ipow_inv {t u v : Tok} {Q : Fin → Shared → Prop} (h : ∀ r k tk, Q (.done (.ret (.int r k))) { s with toks := tk }) :
    wpAny (model prog w) A (Builtin.«int.__pow__» ⟨[.int 256 t, .int (-1) u, .int 8380417 v], []⟩) Q E s := by
  obtain ⟨hp, g, d, tk, os⟩ := s
  unfold Builtin.«int.__pow__»
  (repeat (first | (with_reducible first | refine wpAny_pure ?_ | refine wpAny_bind ?_ | refine wpAny_holding ?_ | refine wpAny_standAt ?_ | refine wpAny_of_eq (by assumption) ?_) | wp_delta | wp_step))
  exact h _ _ _
theorem call_pow_inv {t u v : Tok} {Q : Value → Shared → Prop} (h : ∀ r k tk, Q (.int r k) { s with toks := tk }) :
    wpAny (model prog w) A (call (.builtin "pow") [.int 256 t, .int (-1) u, .int 8380417 v]) Q E s := by
  (run_tac sh0)
  refine call_function_entry kind_pow plain_pow entry_pow (args_pow3 _ _ _) ?_
  obtain ⟨hp, g, d, tk, os⟩ := s
  unfold Builtin.«pow»
  (repeat (first | (with_reducible first | refine wpAny_pure ?_ | refine wpAny_bind ?_ | refine wpAny_holding ?_ | refine wpAny_standAt ?_ | refine wpAny_of_eq (by assumption) ?_) | wp_delta | wp_step))
  refine wpAny_of_eq PySem.F.slot_int_pow.lookup ?_
  (repeat (first | (with_reducible first | refine wpAny_pure ?_ | refine wpAny_bind ?_ | refine wpAny_holding ?_ | refine wpAny_standAt ?_ | refine wpAny_of_eq (by assumption) ?_) | wp_delta | wp_step))
  refine wpAny_of_eq PySem.F.slot_int_pow.lookup ?_
  dsimp only
  refine wpAny_holding (wpAny_bind (wpAny_of_eq (PySem.F.slot_int_pow.bind _) ?_))
  dsimp only
  refine wpAny_bind ?_
  refine wpAny_call_entry PySem.F.slot_int_pow (typeIs_int _ 256 t) PySem.F.entry_int_pow ?_ (PySem.F.args_int_pow_3 _ _ _)
  refine ipow_inv fun r k tk => ⟨_, rfl, ?_⟩
  refine wpAny_pure ?_
  (repeat (first | (with_reducible first | refine wpAny_pure ?_ | refine wpAny_bind ?_ | refine wpAny_holding ?_ | refine wpAny_standAt ?_ | refine wpAny_of_eq (by assumption) ?_) | wp_delta | wp_step))
  exact ⟨_, rfl, h r k tk⟩
  (run_tac sh1)
theorem typeCall_int_2 (a b : Value) : checkTypeCall "int" ⟨[a, b], []⟩ = pure () := by kernel_rfl
theorem newCall_int_2 (a b : Value) : checkBuiltinCall "int.__new__" ⟨[.type "int", a, b], []⟩ = pure () := by kernel_rfl
end
open PySem.NumText PySem.W.KIN
theorem wp_text2 {M : Model} {A : Around} {E : Value → Shared → Prop} {s : Shared} {Q : Value → Shared → Prop} {v : Value} {text : List Nat} {n : Int}
    (hs : (text.takeWhile (· != 0)).length ≤ 640) (hr : (int_private% "readNumeral") 0 2 (text.takeWhile (· != 0)) = (int_private% "Numeral.value") n)
    (ha : ((text.takeWhile (· != 0)).length == text.length) = true) (h : Q (.int n s.toks) { s with toks := s.toks + 1 }) :
    wpAny M A ((int_private% "intFromText") v text 2) Q E s := by
  (run_tac sh0)
  obtain ⟨hp, g, d, tk, os⟩ := s
  repeat (any_goals (first
    | assumption
    | (with_reducible refine wpAny_ite_true (decide_eq_true hs) ?_)
    | (with_reducible refine wpAny_ite_true (decide_eq_true ha) ?_)
    | (with_reducible first | refine wpAny_pure ?_ | refine wpAny_bind ?_ | refine wpAny_holding ?_ | refine wpAny_standAt ?_ | refine wpAny_of_eq (by assumption) ?_) | wp_delta | wp_step))
  all_goals (try rw [hr])
  all_goals (try dsimp only)
  repeat (any_goals (first
    | assumption
    | (with_reducible refine wpAny_ite_true (decide_eq_true hs) ?_)
    | (with_reducible refine wpAny_ite_true (decide_eq_true ha) ?_)
    | (with_reducible first | refine wpAny_pure ?_ | refine wpAny_bind ?_ | refine wpAny_holding ?_ | refine wpAny_standAt ?_ | refine wpAny_of_eq (by assumption) ?_) | wp_delta | wp_step))
  (run_tac sh1)
structure Hid (p : Prop) : Prop where
  out : p
/-- an int of a text in base two -/
theorem gives_text2 {x : PySem.Str} {u v : Tok} {n : Int} (h0 : x.cps.all (· < 128) = true) (hs : (x.cps.toList.takeWhile (· != 0)).length ≤ 640) (hr : (int_private% "readNumeral") 0 2 (x.cps.toList.takeWhile (· != 0)) = (int_private% "Numeral.value") n)
    (ha : ((x.cps.toList.takeWhile (· != 0)).length == x.cps.toList.length) = true) : Gives (Builtin.«int.__new__» ⟨[.type "int", .str x u, .int 2 v], []⟩) (.int n) :=
  .of_wp fun M A E s Q h => by
    obtain ⟨hp, g, d, tk, os⟩ := s
    have f1 := F.conv_sub_int
    have f2 := F.madeHere_int
    have f6 : typeOf (.str x u) = pure (.type "str") := rfl
    have hk := Hid.mk (And.intro hs (And.intro hr ha))
    have hz := Hid.mk h0
    clear hs hr ha h0
    repeat (any_goals (first
      | assumption
      | ((with_reducible show wpAny _ _ ((int_private% "intFromText") _ _ _) _ _ _); (try rw [if_pos hz.out]); refine wp_text2 hk.out.1 hk.out.2.1 hk.out.2.2 ?_)
      | (with_reducible first | refine wpAny_pure ?_ | refine wpAny_bind ?_ | refine wpAny_holding ?_ | refine wpAny_standAt ?_ | refine wpAny_of_eq (by assumption) ?_) | wp_delta | wp_step))
    all_goals first | exact ⟨_, rfl, h⟩ | skip
theorem call_int_base2 {prog : Program} {w : World} {A : Around} {E : Value → Shared → Prop} {s : Shared} {Q : Value → Shared → Prop} {x : PySem.Str} {u v : Tok} {n : Int} (h0 : x.cps.all (· < 128) = true) (hs : (x.cps.toList.takeWhile (· != 0)).length ≤ 640) (hr : (int_private% "readNumeral") 0 2 (x.cps.toList.takeWhile (· != 0)) = (int_private% "Numeral.value") n)
    (ha : ((x.cps.toList.takeWhile (· != 0)).length == x.cps.toList.length) = true) (h : Q (.int n s.toks) { s with toks := s.toks + 1 }) : wpAny (model prog w) A (call (.type "int") [.str x u, .int 2 v]) Q E s :=
  callType_new F.called_int F.newNe_int (typeCall_int_2 _ _) (newCall_int_2 _ _) (fun obj => F.args_object_init_3 obj _ _) F.entry_int_new (gives_text2 h0 hs hr ha).meets (show (Made.int n).post _ s from ⟨rfl, h⟩)
end Mine
namespace Mine
open PySem.Calls PyProof.V PySem.Spec PyProof.Rows.LCg
theorem fresh_17 : True := by
  w_top off
  trivial
section
variable {prog : Program} {w : World} {A : Around} {E : Value → Shared → Prop} {s : Shared} {K : Frag} {x C L f : Addr} {h₀ : Heap} {m : Str → Option Value} {ox : Obj} {od : Option Obj}
theorem asInt_ref {M : Model} {Q : Option Int → Shared → Prop} (e : s.heap.get? x = some ox) (hp : ∀ v, ox.data ≠ .prim v) (h : Q none s) : wpAny M A (asInt? (.ref x)) Q E s := by
  (run_tac sh0)
  unfold asInt?
  refine wpAny_bind (wpAny_load e ?_)
  split
  · rename_i q; exact absurd q (hp _)
  · exact wpAny_pure h
  (run_tac sh1)
theorem int_declines {name : String} {g : Int → Int → Sem Fin} {n : Int} {t : Tok} {M : Model} {R : Fin → Shared → Prop} (e : s.heap.get? x = some ox) (hp : ∀ v, ox.data ≠ .prim v)
    (h : R (Fin.done (.ret .notImplemented)) s) : wpAny M A (Builtin.Int.intBinary name g false ⟨[.int n t, .ref x], []⟩) R E s := by
  (run_tac sh0)
  unfold Builtin.Int.intBinary
  refine wpAny_bind (wpAny_of_eq (show slotArgs name 1 ⟨[.int n t, .ref x], []⟩ = pure (.int n t, [.ref x]) from rfl) ?_)
  refine wpAny_bind (wpAny_of_eq (show Builtin.Int.intOfSelf (.int n t) = pure n from rfl) ?_)
  refine wpAny_bind (asInt_ref e hp ?_)
  exact wpAny_bind (wpAny_rule (wpAny_pure h))
  (run_tac sh1)
theorem decl_add {n : Int} {t : Tok} {Q : Option Value → Shared → Prop} (e : s.heap.get? x = some ox) (hp : ∀ v, ox.data ≠ .prim v) (h : Q none s) : wpAny (model prog w) A (tryMethod (.int n t) (PySem.dunder "add") (.ref x)) Q E s := by
  (run_tac sh0)
  have q : Slot "int" (PySem.dunder "add") "int.__add__" := slot_int_add
  refine wpAny_tryMethod_declines (self := .int n t) (other := .ref x) (T := "int") (name := PySem.dunder "add") (id := "int.__add__") (typeIs_int s n t) q ?_
  refine wpAny_call_entry (T := "int") (name := PySem.dunder "add") (id := "int.__add__") q (typeIs_int s n t) entry_int_add ?_ (args_int_add _ _)
  unfold Builtin.«int.__add__»
  refine int_declines (A := A.in1) e hp ?_
  exact ⟨_, rfl, rfl, h⟩
  (run_tac sh1)
theorem decl_mul {n : Int} {t : Tok} {Q : Option Value → Shared → Prop} (e : s.heap.get? x = some ox) (hp : ∀ v, ox.data ≠ .prim v) (h : Q none s) : wpAny (model prog w) A (tryMethod (.int n t) (PySem.dunder "mul") (.ref x)) Q E s := by
  (run_tac sh0)
  have q : Slot "int" (PySem.dunder "mul") "int.__mul__" := F.slot_int_mul
  refine wpAny_tryMethod_declines (self := .int n t) (other := .ref x) (T := "int") (name := PySem.dunder "mul") (id := "int.__mul__") (typeIs_int s n t) q ?_
  refine wpAny_call_entry (T := "int") (name := PySem.dunder "mul") (id := "int.__mul__") q (typeIs_int s n t) F.entry_int_mul ?_ (F.args_int_mul_2 _ _)
  unfold Builtin.«int.__mul__»
  refine int_declines (A := A.in1) e hp ?_
  exact ⟨_, rfl, rfl, h⟩
  (run_tac sh1)
theorem rbin_K {op : Operator} {n : Int} {t : Tok} {fo ro : Option Value} {g : Addr} {Q : Value → Shared → Prop} (F : Fr h₀ L s.heap m) (X₀ : K.In h₀) (I : InstAt s.heap x ox C od) (hc : selfFirst K C = true)
    (hl : findIn K (.ref C) (PySem.dunder op.info.2) = some (some (.ref g)))
    (hs : findIn K (.ref C) (dunderR op.info.2) = some (some (.ref f))) (hf : isFn K (.ref f) = true)
    (h1 : findIn K (.type "int") (PySem.dunder op.info.2) = some fo) (h2 : findIn K (.type "int") (dunderR op.info.2) = some ro) (hsub : subIn K (.ref C) (.type "int") = some false)
    (hd : ∀ (s' : Shared) (Q : Option Value → Shared → Prop) (E : Value → Shared → Prop), s'.heap.get? x = some ox → Q none s' → wpAny (model prog w) A (tryMethod (.int n t) (PySem.dunder op.info.2) (.ref x)) Q E s')
    (hfr : ((fo.isSome && !isSeqSlot fo) || (ro.isSome && !isSeqSlot ro)) = true)
    (h : wpAny (model prog w) A (call (.ref f) [.ref x, .int n t]) (PySem.W.CmpBack Q) E s) : wpAny (model prog w) A (binaryOp op (.int n t) (.ref x)) Q E s := by
  (run_tac sh0)
  have X := X₀.keeps F.keep
  obtain ⟨cd, rest, hcd, hm⟩ := ksp_first hc
  rcases hi : op.info with ⟨sym, nm'⟩
  rw [hi] at hs hl h1 h2 hd
  dsimp only at hs hl h1 h2 hd
  have one := ksp_try X I hs hf h
  have two := fun Q E => hd s Q E I.at_
  obtain ⟨hh, gg, d, tt, os⟩ := s
  have L1 : Looks (model prog w) hh (typeOf (.ref x)) (.ref C) := I.type
  have L2 : Looks (model prog w) hh (typeOf (.int n t)) (.type "int") := Looks.of_pure rfl
  have L3 : Looks (model prog w) hh (fillsNumberSlot (.ref C) nm') true := fills_K X hcd hm hl
  have L4 : Looks (model prog w) hh (fillsNumberSlot (.type "int") nm') ((fo.isSome && !isSeqSlot fo) || (ro.isSome && !isSeqSlot ro)) := ksp_fillsT X h1 h2
  rw [hfr] at L4
  have L5 : Looks (model prog w) hh (isSubtype (.ref C) (.type "int")) false := looks_subIn X hsub
  have hne : (Value.type "int" == Value.ref C) = false := Bool.eq_false_iff.mpr fun q => by cases beq_iff_eq.mp q
  have L7 : Looks (model prog w) hh (numberSlotInPython (.type "int") nm') false := Looks.of_pure rfl
  simp only [binaryOp, hi]
  refine wpAny_holding (wpAny_bind ?_)
  unfold binaryOp1
  refine wpAny_bind (L2.at (wpAny_bind (L1.at (wpAny_bind (L4.at ?_)))))
  simp only [hne, Bool.false_eq_true, if_false]
  ksp_lk
  refine two _ _ ?_
  ksp_lk
  refine wpAny_mono one (fun r s' hr' => ?_) fun _ _ e => e
  obtain ⟨v, rfl, hq⟩ := hr'
  ksp_lk
  exact hq
  (run_tac sh1)
end
end Mine
namespace Mine
open PySem.Calls PyProof.V PySem.Spec PyProof.Rows.LCg
theorem fresh_18 : True := by
  w_top off
  trivial
section
variable {prog : Program} {w : World} {A : Around} {E : Value → Shared → Prop} {s : Shared} {cn : Str} {cs : Scope} {L a c : Addr} {ccd : Value} {cl : List (Str × Addr)}
/-- the end of a turn of a loop over range whose target is a cell -/
def TurnRC (g : Heap) (L : Addr) (I c : Addr) (oI : Obj) (J : (Str → Option Value) → List (Addr × Obj) → Prop) (s : Shared) (f : Flow) (s₃ : Shared) : Prop :=
  match f with
  | .next => ∃ h₃ tk₃ m' news' o'' v'', s₃ = { s with heap := h₃, toks := tk₃ } ∧ o''.data = .cell v'' ∧ Fr g L h₃ m' ∧ News g L h₃ ((I, oI) :: (c, o'') :: news') ∧ (∀ p ∈ news', @Ne Nat p.1 I ∧ @Ne Nat p.1 c) ∧ J m' news'
  | _ => False
inductive ForRC (prog : Program) (w : World) (A : Around) (env : Env) (L c : Addr) (n : Nat) (body : List Stmt) (Q : Flow → Shared → Prop) (E : Value → Shared → Prop) (xv : Value) (s : Shared) : Prop
  | mk (r : Addr) (t u v : Tok) (o : Obj) (v₀ : Option Value) (g : Heap) (m : Str → Option Value) (news : List (Addr × Obj)) (J : Nat → (Str → Option Value) → List (Addr × Obj) → Prop) (c0 : xv = .ref r) (c1 : IsRange s.heap r 0 n 1 t u v) (c2 : Builtin.Range.small 0 (n : Int) 1 = true) (c3 : Builtin.Range.rangeSize 0 (n : Int) 1 = ((n : Nat) : Int)) (c4 : o.data = .cell v₀) (c5 : Fr g L s.heap m) (c6 : News g L s.heap ((c, o) :: news)) (c7 : (∀ p ∈ news, @Ne Nat p.1 c)) (c8 : J 0 m news) (c9 : (∀ (i : Nat) m₁ news₁ I oI o' h₂ tk₂ t, i < n → J i m₁ news₁ → (@Ne Nat c I) → (∀ p ∈ news₁, @Ne Nat p.1 I ∧ @Ne Nat p.1 c) → o'.data = .cell (some (.int (i : Nat) t)) → Fr g L h₂ m₁ → News g L h₂ ((I, oI) :: (c, o') :: news₁) → wpAny (model prog w) A (execs body env) (TurnRC g L I c oI (J (i + 1)) { s with heap := h₂, toks := tk₂ }) E { s with heap := h₂, toks := tk₂ })) (c10 : (∀ h₄ tk₄ m₁ news₁ o' v', J n m₁ news₁ → o'.data = .cell v' → (∀ p ∈ news₁, @Ne Nat p.1 c) → Fr g L h₄ m₁ → News g L h₄ ((c, o') :: news₁) → Q .next { s with heap := h₄, toks := tk₄ })) : ForRC prog w A env L c n body Q E xv s
theorem stop_ForRC {env : Env} {n : Nat} {body : List Stmt} {Q : Flow → Shared → Prop} {xv : Value} (h : ForRC prog w A env L c n body Q E xv s) : ForRC prog w A env L c n body Q E xv s := h
theorem forRC {env : Env} {iter : PySem.Expr} {x : Str} {px pos : Pos} {n : Nat} {body : List Stmt} {Q : Flow → Shared → Prop} (hh : A.handled = none) (henv : env = envX cn cs L a ccd cl) (hc : cl.lookup x = some c)
    (h : wpAny (model prog w) A (eval iter env) (ForRC prog w A env L c n body Q E) E s)
    (hk : cs.kind = .function := by rfl) (hx : env.kindOf x = some .cell := by rfl)
    (hs : ∀ x, foldedSetIterable iter env x = pure x := by intro _; rfl) (hE : PassesOwn (model prog w) A env E := by passes_own) :
    wpAny (model prog w) A (exec (.For (.Name x px) iter body [] pos) env) Q E s := by
  (run_tac sh0)
  subst henv
  refine wpAny_For (wpAny_mono h (fun xv s₁ h₁ => ?_) fun _ _ e => e) hs
  obtain ⟨r, t, u, v, o, v₀, g, m, news, J, rfl, hr, hsmall, hn, ho, F, N, hoff, h0, hb, hd⟩ := h₁
  have hII : ∀ b o, s₁.heap.get? b = some o → b ≠ s₁.heap.objs.size := fun b o e q => Nat.lt_irrefl _ (q ▸ Heap.lt_size e)
  have hLI : L ≠ s₁.heap.objs.size := by obtain ⟨o, _, _, e, _⟩ := F.ns; exact hII _ _ e
  have gI : g.get? s₁.heap.objs.size = none := next_is_new F
  refine wpAny_pyIter_range hr hsmall ?_
  generalize hH : s₁.heap.push _ = H
  have old : ∀ b o, s₁.heap.get? b = some o → H.get? b = some o := fun b o e => hH ▸ Heap.get?_push_of_some _ e
  have hit : IsRangeIter H s₁.heap.objs.size 0 (n : Int) 1 := by rw [← hH, hn]; simpa using Heap.get?_push_size _ rfl
  refine codeAny_forLoop_any (R := fun r s' => match r with | .ok f => Q f s' | .error e => cameBackBy (model prog w) A (envX cn cs L a ccd cl) E e s')
    (fun k s' => ∃ h₃ tk₃ i m₁ news₁ o' v', s' = { s₁ with heap := h₃, toks := tk₃ } ∧ i ≤ n ∧ k = n - i ∧ IsRangeIter h₃ s₁.heap.objs.size (i : Nat) ((n : Int) - (i : Nat)) 1 ∧ J i m₁ news₁ ∧ o'.data = .cell v' ∧ Fr g L h₃ m₁ ∧ News g L h₃ ((c, o') :: news₁) ∧ (@Ne Nat c s₁.heap.objs.size) ∧ (∀ p ∈ news₁, @Ne Nat p.1 s₁.heap.objs.size ∧ @Ne Nat p.1 c)) ?_ n
    ⟨H, _, 0, m, news, o, v₀, rfl, Nat.zero_le _, rfl, (by simpa using hit), h0, ho, F.keeps old, N.grown old, hII _ _ (N _ (.head _)).1, fun p hp => ⟨hII _ _ (N p (.tail _ hp)).1, hoff p hp⟩⟩
  rintro k s' ⟨h₃, tk₃, i, m₁, news₁, o', v', rfl, hi, rfl, hit₃, hJ, ho', F₃, N₃, hcI, hne⟩
  by_cases hlt3 : i < n
  · refine wpAny_pyNext_range_item hit₃ (by omega) fun h₁ hit₁ hs₁ => ?_
    have oldI : ∀ b o, b ≠ s₁.heap.objs.size → h₃.get? b = some o → h₁.get? b = some o := fun b o hb e => hs₁.extBut b o hb e
    have F₁ : Fr g L h₁ m₁ := ⟨F₃.ns.at' fun o e => oldI _ o hLI e, fun b o e => oldI b o (fun q => by rw [q, gI] at e; cases e) (F₃.keep b o e), F₃.above⟩
    have N₁ : News g L h₁ ((s₁.heap.objs.size, (⟨.type "range_iterator", none, .fields #[rawInt ((i : Nat) + 1), rawInt ((n : Int) - (i : Nat) - 1), rawInt 1], #[]⟩ : Obj)) :: (c, o') :: news₁) := fun p hp => by
      rcases List.mem_cons.mp hp with rfl | hp
      · exact ⟨hit₁, Ne.symm hLI, gI⟩
      · refine ⟨oldI _ _ ?_ (N₃ p hp).1, (N₃ p hp).2⟩
        rcases List.mem_cons.mp hp with rfl | hp
        · exact hcI
        · exact (hne p hp).1
    refine wpAny_pure ?_
    refine wpAny_assign_Name (storeX_C (s := { s₁ with heap := h₁, toks := tk₃ + 1 }) F₁ N₁ hc (.tail (Ne.symm hcI) (.head fun p hp => (hne p hp).2)) ho' (fun h₂ o₂ F₂ N₂ d₂ => ?_) hk hx)
    refine wpAny_mono (wpAny_passesOwn hE (hb i m₁ news₁ _ _ o₂ h₂ _ _ hlt3 hJ hcI hne d₂ F₂ N₂)) (fun f s₃ hf => ?_) fun _ _ e => e
    cases f with
    | next =>
      obtain ⟨h₄, tk₄, m', news', o'', v'', rfl, d'', F₄, N₄, hne', hJ'⟩ := hf
      refine ⟨n - (i + 1), by omega, h₄, tk₄, i + 1, m', news', o'', v'', rfl, hlt3, rfl, ?_, hJ', d'', F₄, fun p hp => N₄ p (.tail _ hp), hcI, hne'⟩
      have e1 : ((i + 1 : Nat) : Int) = (i : Nat) + 1 := by push_cast; rfl
      have e2 : (n : Int) - ((i + 1 : Nat) : Int) = (n : Int) - (i : Int) - 1 := by push_cast; omega
      rw [e1] at *
      rw [show (n : Int) - ((i : Nat) + 1) = (n : Int) - (i : Int) - 1 by omega]
      exact (N₄ _ (.head _)).1
    | cont => exact hf.elim
    | brk => exact hf.elim
    | ret v => exact hf.elim
  · obtain rfl : i = n := Nat.le_antisymm hi (Nat.not_lt.mp hlt3)
    refine wpAny_pyNext_range_end hh hit₃ (by omega) fun h₄ he₄ => ?_
    have keep : ∀ b o, b ≠ s₁.heap.objs.size → h₃.get? b = some o → h₄.get? b = some o := fun b o hb e => he₄ b o hb e
    refine wpAny_execs_nil (hd h₄ _ m₁ news₁ o' v' hJ ho' (fun p hp => (hne p hp).2) ⟨F₃.ns.at' fun o e => keep _ o hLI e, fun b o e => keep b o (fun q => by rw [q, gI] at e; cases e) (F₃.keep b o e), F₃.above⟩ fun p hp => ⟨keep _ _ ?_ (N₃ p hp).1, (N₃ p hp).2⟩)
    rcases List.mem_cons.mp hp with rfl | hp
    · exact hcI
    · exact (hne p hp).1
  (run_tac sh1)
end
end Mine
namespace Mine
open PySem.Calls PyProof.V PySem.Spec PyProof.Rows.LCg
theorem fresh_19 : True := by
  w_top off
  trivial
theorem inst_keeps {h h' : Heap} {x C : Addr} {ox : Obj} {od : Option Obj} (I : InstAt h x ox C od) (k : ∀ b o, h.get? b = some o → h'.get? b = some o) : InstAt h' x ox C od := by
  (run_tac sh0)
  refine ⟨k _ _ I.at_, I.cls, I.no, ?_⟩
  have q := I.dict
  split at q
  · exact k _ _ q
  · trivial
  · exact q.elim
  (run_tac sh1)
theorem type_no_getattr' : typeLookup (.type "type") "__getattr__" = pure none := by rw [typeLookup_type, builtinLookup_eq_fast]; kernel_rfl
section
variable {prog : Program} {w : World} {A : Around} {E : Value → Shared → Prop} {s : Shared} {K : Frag}
def AttrErr (h h' : Heap) (e : Addr) : Prop := (∀ b o, h.get? b = some o → h'.get? b = some o) ∧ ∃ ob, h'.get? e = some ob ∧ ob.cls = .type "AttributeError"
theorem raise_attr {α : Type} {v : Value} {Q : α → Shared → Prop} (hh : A.handled = none)
    (h : ∀ h' e, AttrErr s.heap h' e → E (.ref e) { s with heap := h' }) :
    wpAny (model prog w) A (newExc (.type "AttributeError") [v] >>= fun e => (raiseNew e : Sem α)) Q E s := by
  (run_tac sh0)
  unfold newExc newTuple
  refine wpAny_bind (wpAny_bind (wpAny_newObj_type ?_ (by size_fits)))
  refine wpAny_bind (m := firstArgMember _ _) (wpAny_of_eq (a := Value.none) (by simp only [firstArgMember, attrError_no_first]; rfl) ?_)
  rw [ownMembersOf_AttributeError]
  refine wpAny_newObj_type ?_ (by size_fits)
  refine wpAny_raiseNew_none hh (h _ _ ⟨fun b o hb => Heap.get?_push_of_some _ (Heap.get?_push_of_some _ hb), _, Heap.get?_push_size _ rfl, rfl⟩)
  (run_tac sh1)
theorem tga_miss {c : Value} {name : Str} {tk : Tok} {cn : String} {Q : Fin → Shared → Prop} (X : K.In s.heap) (hh : A.handled = none) (ho : Looks (model prog w) s.heap (opaqueClassAbove c) none) (ht : Looks (model prog w) s.heap (typeOf c) (.type "type"))
    (h1 : findIn K (.type "type") name = some none) (h4 : findIn K c name = some none) (hn : Looks (model prog w) s.heap (typeNameCut 100 c) cn) (hl : (Str.ofString (s!"type object '{cn}' has no attribute '") ++ name ++ Str.ofString "'").length ≤ sizeLine)
    (h : ∀ h' e, AttrErr s.heap h' e → E (.ref e) { s with heap := h', toks := s.toks + 1 }) :
    wpAny (model prog w) A (Builtin.«type.__getattribute__» ⟨[c, .str name tk], []⟩) Q E s := by
  (run_tac sh0)
  obtain ⟨hp, g, d, t, os⟩ := s
  dsimp only at X ho ht hn
  have L1 := looks_findIn (M := model prog w) X h1
  have L4 := looks_findIn (M := model prog w) X h4
  unfold Builtin.«type.__getattribute__»
  refine wpAny_bind (wpAny_pure (wpAny_bind (ho.at (wpAny_bind (ht.at (wpAny_bind (L1.at ?_)))))))
  refine wpAny_bind (wpAny_pure (wpAny_bind (L4.at ?_)))
  dsimp only
  refine wpAny_bind (wpAny_rule ?_)
  refine wpAny_bind (hn.at ?_)
  unfold raiseErrorStr
  refine wpAny_bind (wpAny_mkStr ?_ hl)
  exact raise_attr hh h
  (run_tac sh1)
theorem isInst_attr {e : Addr} {ob : Obj} {Q : Bool → Shared → Prop} (he : s.heap.get? e = some ob) (hc : ob.cls = .type "AttributeError") (h : Q true s) : wpAny (model prog w) A (isInstance (.ref e) (.type "AttributeError")) Q E s := by
  unfold isInstance
  have hT : s.TypeIs (.ref e) "AttributeError" := ⟨ob, he, hc⟩
  refine wpAny_isInstance hT sub_AttributeError h
theorem attrBy_miss {C : Addr} {name : Str} {tk : Tok} {cn : String} {Q : Option Value → Shared → Prop} (X : K.In s.heap) (hh : A.handled = none) (hr : readsIn K C (.type "type") = true)
    (h1 : findIn K (.type "type") name = some none) (h4 : findIn K (.ref C) name = some none) (hn : Looks (model prog w) s.heap (typeNameCut 100 (.ref C)) cn) (hl : (Str.ofString (s!"type object '{cn}' has no attribute '") ++ name ++ Str.ofString "'").length ≤ sizeLine)
    (h : ∀ h', (∀ b o, s.heap.get? b = some o → h'.get? b = some o) → Q none { s with heap := h', toks := s.toks + 1 }) :
    wpAny (model prog w) A (getAttrBy? (.ref C) (.str name tk)) Q E s := by
  (run_tac sh0)
  simp only [readsIn, Bool.and_eq_true, beq_iff_eq] at hr
  obtain ⟨⟨⟨⟨a, b⟩, c'⟩, d⟩, f⟩ := hr
  have ho : Looks (model prog w) s.heap (opaqueClassAbove (.ref C)) none := looks_opaque X a
  have ht : Looks (model prog w) s.heap (typeOf (.ref C)) (.type "type") := looks_typeIn X b
  have hbh : Looks (model prog w) s.heap (hookBefore (.type "type")) none := looks_hook X (r := none) (by rfl)
  unfold getAttrBy? getAttrBy
  refine wpAny_bind (wpAny_attempt (wpAny_holding (wpAny_bind (ht _ _ _ _ (fun _ _ e => e) (wpAny_bind (looks_findIn X c' _ _ _ _ (fun _ _ e => e) ?_))))))
  dsimp only
  rw [show (onTheHeap (.type "type") && Value.builtin "type.__getattribute__" == Value.builtin "object.__getattribute__") = false from by rw [show (Value.builtin "type.__getattribute__" == Value.builtin "object.__getattribute__") = false from by decide +kernel, Bool.and_false], if_neg (by decide)]
  refine wpAny_bind (hbh _ _ _ _ (fun _ _ e => e) (wpAny_bind (wpAny_attempt (wpAny_holding ?_))))
  unfold callGetattribute
  rw [show (false && onTheHeap (Value.builtin "type.__getattribute__")) = false from rfl, if_neg (by decide)]
  unfold boundAndCalled
  rw [KF.slot_tga.bind]
  refine wpAny_bind (wpAny_pure ?_)
  show wpAny _ _ (call (.builtin "type.__getattribute__") [.ref C, .str name tk]) _ _ _
  refine wpAny_call ?_
  refine codeAny_call_builtin KF.slot_tga.plain KF.entry_tga ?_
  refine @check_slot (model prog w) _ _ s "type.__getattribute__" "type" "__getattribute__" (.ref C) [.str name tk] [] _ (by decide +kernel) (by decide +kernel) (ht.andThen (looks_subIn X f)) (KF.args_tga (.ref C) (.str name tk)) ?_
  refine tga_miss X hh ho ht h1 h4 hn hl fun h' e he => ?_
  obtain ⟨k, ob, he, hc⟩ := he
  dsimp only
  unfold getattributeRaised
  refine wpAny_bind (isInst_attr he hc ?_)
  rw [if_pos rfl]
  unfold hookBehind
  rw [if_neg (by decide), type_no_getattr']
  refine wpAny_bind (wpAny_pure ?_)
  unfold hookOrError attributeErrorLeaves
  dsimp only
  refine wpAny_throw ?_
  refine wpAny_bind (isInst_attr he hc ?_)
  rw [if_pos rfl]
  exact wpAny_pure (h h' k)
  (run_tac sh1)
theorem refl_same {C C2 : Addr} {op : Operator} {cn : String} {Q : Bool → Shared → Prop} (X : K.In s.heap) (hh : A.handled = none)
    (L1 : Looks (model prog w) s.heap (numberSlotInPython (.ref C) op.info.2) true) (L2 : Looks (model prog w) s.heap (numberSlotInPython (.ref C2) op.info.2) true) (hr : readsIn K C2 (.type "type") = true)
    (h1 : findIn K (.type "type") (dunderR op.info.2) = some none) (h4 : findIn K (.ref C2) (dunderR op.info.2) = some none) (hn : Looks (model prog w) s.heap (typeNameCut 100 (.ref C2)) cn) (hl : (Str.ofString (s!"type object '{cn}' has no attribute '") ++ dunderR op.info.2 ++ Str.ofString "'").length ≤ sizeLine) (hl' : (dunderR op.info.2).length ≤ sizeLine)
    (h : ∀ h', (∀ b o, s.heap.get? b = some o → h'.get? b = some o) → Q false { s with heap := h', toks := s.toks + 2 }) :
    wpAny (model prog w) A (reflectedDiffers (.ref C) (.ref C2) op.info.2) Q E s := by
  (run_tac sh0)
  unfold reflectedDiffers
  refine wpAny_bind (L1.here ?_)
  rw [if_neg (by decide)]
  refine wpAny_bind (L2.here ?_)
  rw [if_neg (by decide)]
  refine wpAny_bind (wpAny_mkStr ?_ hl')
  refine wpAny_bind (attrBy_miss (s := { s with toks := s.toks + 1 }) X hh hr h1 h4 hn hl fun h' k => ?_)
  exact wpAny_pure (h h' k)
  (run_tac sh1)
theorem binop_of {M : Model} {A : Around} {E : Value → Shared → Prop} {s : Shared} {op : Operator} {a b : Value} {Q : Value → Shared → Prop} (h : wpAny M A (binaryOp1 op.info.2 a b) (fun r s' => ∃ v, r = some v ∧ Q v s') E s) : wpAny M A (binaryOp op a b) Q E s := by
  (run_tac sh0)
  unfold binaryOp
  refine wpAny_holding ?_
  rcases hi : op.info with ⟨sym, nm⟩
  rw [hi] at h
  dsimp only at h ⊢
  refine wpAny_bind (wpAny_mono h (fun r s' hr => ?_) fun _ _ e => e)
  obtain ⟨v, rfl, hq⟩ := hr
  exact wpAny_pure hq
  (run_tac sh1)
theorem binopSub_K {x y C C2 L f f2 : Addr} {h₀ : Heap} {m : Str → Option Value} {ox oy : Obj} {od od2 : Option Obj} {op : Operator} {cn : String} {news : List (Addr × Obj)} {Q : Value → Shared → Prop} (F : Fr h₀ L s.heap m) (N : News h₀ L s.heap news) (X₀ : K.In h₀) (I : InstAt s.heap x ox C od) (I2 : InstAt s.heap y oy C2 od2) (hne : C ≠ C2) (hh : A.handled = none) (hc : selfFirst K C = true) (hc2 : selfFirst K C2 = true)
    (hs : findIn K (.ref C) (PySem.dunder op.info.2) = some (some (.ref f))) (hf : isFn K (.ref f) = true) (hr : findIn K (.ref C) (dunderR op.info.2) = some none)
    (hs2 : findIn K (.ref C2) (PySem.dunder op.info.2) = some (some (.ref f2))) (hr2 : findIn K (.ref C2) (dunderR op.info.2) = some none) (hsub : subIn K (.ref C2) (.ref C) = some true)
    (hrd : readsIn K C2 (.type "type") = true) (h1 : findIn K (.type "type") (dunderR op.info.2) = some none) (hn : ∀ h, K.In h → Looks (model prog w) h (typeNameCut 100 (.ref C2)) cn) (hl : (Str.ofString (s!"type object '{cn}' has no attribute '") ++ dunderR op.info.2 ++ Str.ofString "'").length ≤ sizeLine) (hl' : (dunderR op.info.2).length ≤ sizeLine)
    (h : ∀ h', Fr h₀ L h' m → News h₀ L h' news → wpAny (model prog w) A (call (.ref f) [.ref x, .ref y]) (PySem.W.CmpBack Q) E { s with heap := h', toks := s.toks + 2 }) : wpAny (model prog w) A (binaryOp op (.ref x) (.ref y)) Q E s := by
  (run_tac sh0)
  have X := X₀.keeps F.keep
  obtain ⟨cd, rest, hcd, hm⟩ := ksp_first hc
  obtain ⟨cd2, rest2, hcd2, hm2⟩ := ksp_first hc2
  rcases hi : op.info with ⟨sym, nm'⟩
  have hrf := fun (Q : Bool → Shared → Prop) (L1 : Looks (model prog w) s.heap (numberSlotInPython (.ref C) op.info.2) true) (L2 : Looks (model prog w) s.heap (numberSlotInPython (.ref C2) op.info.2) true) => refl_same (prog := prog) (w := w) (A := A) (E := E) (s := s) (Q := Q) (op := op) (C := C) X hh L1 L2 hrd h1 hr2 (hn _ X) hl hl'
  rw [hi] at hs hr hs2 hr2 h1 hl hl' hrf
  dsimp only at hs hr hs2 hr2 h1 hl hl' hrf
  have one := fun h' (F' : Fr h₀ L h' m) (N' : News h₀ L h' news) (k : ∀ b o, s.heap.get? b = some o → h'.get? b = some o) => ksp_try (s := { s with heap := h', toks := s.toks + 2 }) (X₀.keeps F'.keep) (inst_keeps I k) hs hf (h h' F' N')
  obtain ⟨hh', g, d, tt, os⟩ := s
  have L1 : Looks (model prog w) hh' (typeOf (.ref x)) (.ref C) := I.type
  have L2 : Looks (model prog w) hh' (typeOf (.ref y)) (.ref C2) := I2.type
  have L3 : Looks (model prog w) hh' (fillsNumberSlot (.ref C) nm') true := fills_K X hcd hm hs
  have L4 : Looks (model prog w) hh' (fillsNumberSlot (.ref C2) nm') true := fills_K X hcd2 hm2 hs2
  have L5 : Looks (model prog w) hh' (isSubtype (.ref C2) (.ref C)) true := looks_subIn X hsub
  have L6 : Looks (model prog w) hh' (numberSlotInPython (.ref C) nm') true := ksp_inPy X hs hr (.inl rfl)
  have L7 : Looks (model prog w) hh' (numberSlotInPython (.ref C2) nm') true := ksp_inPy X hs2 hr2 (.inl rfl)
  have hq : (Value.ref C == Value.ref C2) = false := Bool.eq_false_iff.mpr fun q => hne (by cases beq_iff_eq.mp q; rfl)
  refine binop_of ?_
  rw [hi]
  dsimp only
  unfold binaryOp1
  refine wpAny_bind (L1.at (wpAny_bind (L2.at (wpAny_bind (L3.at ?_)))))
  simp only [hq, Bool.false_eq_true, if_false]
  refine wpAny_bind (L4.at ?_)
  simp only [Bool.and_self, if_true]
  refine wpAny_bind (L5.at ?_)
  simp only [if_true]
  refine wpAny_bind (hrf _ L6 L7 fun h' k => ?_)
  dsimp only
  have F' : Fr h₀ L h' m := Fr.keeps F k
  have N' : News h₀ L h' news := News.grown N k
  have M6 := L6.keeps k
  have M7 := L7.keeps k
  have M1 := L1.keeps k
  have M2 := L2.keeps k
  have one := one h' F' N' k
  rw [if_neg (by decide)]
  ksp_lk
  refine wpAny_mono one (fun r s' hr' => ?_) fun _ _ e => e
  obtain ⟨v, rfl, hq⟩ := hr'
  ksp_lk
  exact ⟨_, rfl, hq⟩
  (run_tac sh1)
end
end Mine
namespace Mine
open PySem.Calls PyProof.V PySem.Spec PyProof.Rows.LCg
theorem fresh_20 : True := by
  w_top off
  trivial
section
variable {prog : Program} {w : World} {A : Around} {E : Value → Shared → Prop} {s : Shared} {cn : Str} {cs : Scope} {L a : Addr} {ccd : Value} {cl : List (Str × Addr)}
/-- the end of a turn of a loop over range -/
def TurnRL (g : Heap) (L : Addr) (I : Addr) (oI : Obj) (J : (Str → Option Value) → List (Addr × Obj) → Prop) (s : Shared) (f : Flow) (s₃ : Shared) : Prop :=
  match f with
  | .next => ∃ h₃ tk₃ m' news', s₃ = { s with heap := h₃, toks := tk₃ } ∧ Fr g L h₃ m' ∧ News g L h₃ ((I, oI) :: news') ∧ (∀ p ∈ news', @Ne Nat p.1 I) ∧ J m' news'
  | _ => False
theorem stop_TurnRL {g : Heap} {L I : Addr} {oI : Obj} {J : (Str → Option Value) → List (Addr × Obj) → Prop} {s : Shared} {f : Flow} {s₃ : Shared} (h : TurnRL g L I oI J s f s₃) : TurnRL g L I oI J s f s₃ := h
inductive ForRL (prog : Program) (w : World) (A : Around) (env : Env) (x : Str) (L : Addr) (n : Nat) (body : List Stmt) (Q : Flow → Shared → Prop) (E : Value → Shared → Prop) (xv : Value) (s : Shared) : Prop
  | mk (r : Addr) (t u v : Tok) (g : Heap) (m : Str → Option Value) (news : List (Addr × Obj)) (J : Nat → (Str → Option Value) → List (Addr × Obj) → Prop) (c0 : xv = .ref r) (c1 : IsRange s.heap r 0 n 1 t u v) (c2 : Builtin.Range.small 0 (n : Int) 1 = true) (c3 : Builtin.Range.rangeSize 0 (n : Int) 1 = ((n : Nat) : Int)) (c4 : Fr g L s.heap m) (c5 : News g L s.heap news) (c6 : J 0 m news) (c7 : (∀ (i : Nat) m₁ news₁ I oI h₂ tk₂ t, i < n → J i m₁ news₁ → (∀ p ∈ news₁, @Ne Nat p.1 I) → Fr g L h₂ (fun y => if y = x then some (.int (i : Nat) t) else m₁ y) → News g L h₂ ((I, oI) :: news₁) → wpAny (model prog w) A (execs body env) (TurnRL g L I oI (J (i + 1)) { s with heap := h₂, toks := tk₂ }) E { s with heap := h₂, toks := tk₂ })) (c8 : (∀ h₄ tk₄ m₁ news₁, J n m₁ news₁ → Fr g L h₄ m₁ → News g L h₄ news₁ → Q .next { s with heap := h₄, toks := tk₄ })) : ForRL prog w A env x L n body Q E xv s
theorem stop_ForRL {env : Env} {x : Str} {n : Nat} {body : List Stmt} {Q : Flow → Shared → Prop} {xv : Value} (h : ForRL prog w A env x L n body Q E xv s) : ForRL prog w A env x L n body Q E xv s := h
theorem forRL {env : Env} {iter : PySem.Expr} {x : Str} {px pos : Pos} {n : Nat} {body : List Stmt} {Q : Flow → Shared → Prop} (hh : A.handled = none) (henv : env = envX cn cs L a ccd cl)
    (h : wpAny (model prog w) A (eval iter env) (ForRL prog w A env x L n body Q E) E s)
    (hk : cs.kind = .function) (hx : env.kindOf x = some .local)
    (hs : ∀ x, foldedSetIterable iter env x = pure x) (hE : PassesOwn (model prog w) A env E) :
    wpAny (model prog w) A (exec (.For (.Name x px) iter body [] pos) env) Q E s := by
  (run_tac sh0)
  subst henv
  refine wpAny_For (wpAny_mono h (fun xv s₁ h₁ => ?_) fun _ _ e => e) hs
  obtain ⟨r, t, u, v, g, m, news, J, rfl, hr, hsmall, hn, F, N, h0, hb, hd⟩ := h₁
  have hII : ∀ b o, s₁.heap.get? b = some o → b ≠ s₁.heap.objs.size := fun b o e q => Nat.lt_irrefl _ (q ▸ Heap.lt_size e)
  have hLI : L ≠ s₁.heap.objs.size := by obtain ⟨o, _, _, e, _⟩ := F.ns; exact hII _ _ e
  have gI : g.get? s₁.heap.objs.size = none := next_is_new F
  refine wpAny_pyIter_range hr hsmall ?_
  generalize hH : s₁.heap.push _ = H
  have old : ∀ b o, s₁.heap.get? b = some o → H.get? b = some o := fun b o e => hH ▸ Heap.get?_push_of_some _ e
  have hit : IsRangeIter H s₁.heap.objs.size 0 (n : Int) 1 := by rw [← hH, hn]; simpa using Heap.get?_push_size _ rfl
  refine codeAny_forLoop_any (R := fun r s' => match r with | .ok f => Q f s' | .error e => cameBackBy (model prog w) A (envX cn cs L a ccd cl) E e s')
    (fun k s' => ∃ h₃ tk₃ i m₁ news₁, s' = { s₁ with heap := h₃, toks := tk₃ } ∧ i ≤ n ∧ k = n - i ∧ IsRangeIter h₃ s₁.heap.objs.size (i : Nat) ((n : Int) - (i : Nat)) 1 ∧ J i m₁ news₁ ∧ Fr g L h₃ m₁ ∧ News g L h₃ news₁ ∧ (∀ p ∈ news₁, @Ne Nat p.1 s₁.heap.objs.size)) ?_ n
    ⟨H, _, 0, m, news, rfl, Nat.zero_le _, rfl, (by simpa using hit), h0, F.keeps old, N.grown old, fun p hp => hII _ _ (N p hp).1⟩
  rintro k s' ⟨h₃, tk₃, i, m₁, news₁, rfl, hi, rfl, hit₃, hJ, F₃, N₃, hne⟩
  by_cases hlt3 : i < n
  · refine wpAny_pyNext_range_item hit₃ (by omega) fun h₁ hit₁ hs₁ => ?_
    have oldI : ∀ b o, b ≠ s₁.heap.objs.size → h₃.get? b = some o → h₁.get? b = some o := fun b o hb e => hs₁.extBut b o hb e
    have F₁ : Fr g L h₁ m₁ := ⟨F₃.ns.at' fun o e => oldI _ o hLI e, fun b o e => oldI b o (fun q => by rw [q, gI] at e; cases e) (F₃.keep b o e), F₃.above⟩
    have N₁ : News g L h₁ ((s₁.heap.objs.size, (⟨.type "range_iterator", none, .fields #[rawInt ((i : Nat) + 1), rawInt ((n : Int) - (i : Nat) - 1), rawInt 1], #[]⟩ : Obj)) :: news₁) := fun p hp => by
      rcases List.mem_cons.mp hp with rfl | hp
      · exact ⟨hit₁, Ne.symm hLI, gI⟩
      · exact ⟨oldI _ _ (hne p hp) (N₃ p hp).1, (N₃ p hp).2⟩
    refine wpAny_pure ?_
    refine wpAny_assign_Name (storeX_L (s := { s₁ with heap := h₁, toks := tk₃ + 1 }) F₁ N₁ (fun h₂ F₂ N₂ => ?_) hk hx)
    refine wpAny_mono (wpAny_passesOwn hE (hb i m₁ news₁ _ _ h₂ _ _ hlt3 hJ hne F₂ N₂)) (fun f s₃ hf => ?_) fun _ _ e => e
    cases f with
    | next =>
      obtain ⟨h₄, tk₄, m', news', rfl, F₄, N₄, hne', hJ'⟩ := hf
      refine ⟨n - (i + 1), by omega, h₄, tk₄, i + 1, m', news', rfl, hlt3, rfl, ?_, hJ', F₄, fun p hp => N₄ p (.tail _ hp), hne'⟩
      have e1 : ((i + 1 : Nat) : Int) = (i : Nat) + 1 := by push_cast; rfl
      rw [e1] at *
      rw [show (n : Int) - ((i : Nat) + 1) = (n : Int) - (i : Int) - 1 by omega]
      exact (N₄ _ (.head _)).1
    | cont => exact hf.elim
    | brk => exact hf.elim
    | ret v => exact hf.elim
  · obtain rfl : i = n := Nat.le_antisymm hi (Nat.not_lt.mp hlt3)
    refine wpAny_pyNext_range_end hh hit₃ (by omega) fun h₄ he₄ => ?_
    have keep : ∀ b o, b ≠ s₁.heap.objs.size → h₃.get? b = some o → h₄.get? b = some o := fun b o hb e => he₄ b o hb e
    exact wpAny_execs_nil (hd h₄ _ m₁ news₁ hJ ⟨F₃.ns.at' fun o e => keep _ o hLI e, fun b o e => keep b o (fun q => by rw [q, gI] at e; cases e) (F₃.keep b o e), F₃.above⟩ fun p hp => ⟨keep _ _ (hne p hp) (N₃ p hp).1, (N₃ p hp).2⟩)
  (run_tac sh1)
end
end Mine
namespace Mine
open PySem.Calls PyProof.V PySem.Spec PyProof.Rows.LCg
theorem fresh_21 : True := by
  w_top off
  trivial
section
variable {prog : Program} {w : World} {A : Around} {E : Value → Shared → Prop} {s : Shared} {env : Env}
/-- a comprehension over range(n) of which it is asked that its answers are ints -/
inductive MRI (prog : Program) (w : World) (A : Around) (env : Env) (elt : PySem.Expr) (x y : Str) (scope : Scope) (cl : List (Str × Addr)) (n : Nat) (Q : Flow → Shared → Prop) (xv : Value) (s : Shared) : Prop
  | mk (r : Addr) (t u v : Tok) (h₀ : Heap) (m : Str → Option Value) (news : List (Addr × Obj)) (c0 : xv = .ref r) (c1 : IsRange s.heap r 0 n 1 t u v) (c2 : Builtin.Range.small 0 (n : Int) 1 = true) (c3 : Builtin.Range.rangeSize 0 (n : Int) 1 = ((n : Nat) : Int)) (c4 : n ≤ sizeLine) (c5 : Fr h₀ env.locals s.heap m) (c6 : News h₀ env.locals s.heap news) (c7 : (∀ C (i : Int) t s₃ m₃ E', 0 ≤ i → i < n → s.heap.objs.size ≤ C → s₃.heap.Ns C m₃ → m₃ x = some (.int i t) → (∀ c o, s.heap.get? c = some o → s₃.heap.get? c = some o) → wpAny (model prog w) A (eval elt (compEnvC scope cl C env)) (fun v s₄ => (∃ k u, v = .int k u) ∧ Keeps s₃ s₄) E' s₃)) (c8 : (∀ D h' tk (ys : List Value) k, Fr h₀ env.locals h' (fun z => if z = y then some (.ref D) else m z) → News h₀ env.locals h' ((D, listOf ys.toArray k) :: news) → (∀ p ∈ news, @Ne Nat p.1 D) → ys.length = n → (∀ u ∈ ys, ∃ k t, u = .int k t) → Q .next { s with heap := h', toks := tk })) : MRI prog w A env elt x y scope cl n Q xv s
theorem stop_MRI {n : Nat} {elt : PySem.Expr} {x y : Str} {scope : Scope} {cl : List (Str × Addr)} {Q : Flow → Shared → Prop} {xv : Value} (h : MRI prog w A env elt x y scope cl n Q xv s) : MRI prog w A env elt x y scope cl n Q xv s := h
theorem rngI_Assign {elt iter : PySem.Expr} {x y : Str} {px py : Pos} {scope : Scope} {cl : List (Str × Addr)} {pos spos : Pos} {Q : Flow → Shared → Prop} (n : Nat)
    (hsw : swapsWith (.ListComp elt [⟨.Name x px, iter, [], 0⟩] scope pos) (some (.Name y py)) spos.line env = pure true)
    (hh : A.handled = none) (hclos : closureFor scope env = pure cl) (hcell : ∀ y ∈ scope.names, y.2 ≠ .cell) (hkind : scope.kind = .function)
    (hnames : ∀ y ∈ scope.names, y.2 = .local → scope.names.lookup y.1 = some .local) (hx : scope.names.lookup x = some .local)
    (hy : env.kindOf y = some .local) (hp : (env.scope.kind == .class || (env.scope.kind == .module && env.locals != env.globals)) = false)
    (h : wpAny (model prog w) A (eval iter env) (MRI prog w A env elt x y scope cl n Q) E s)
    (hs : ∀ x, foldedSetIterable iter env x = pure x := by intro _; rfl) :
    wpAny (model prog w) A (exec (.Assign [.Name y py] (.ListComp elt [⟨.Name x px, iter, [], 0⟩] scope pos) spos) env) Q E s := by
  (run_tac sh0)
  refine wpAny_Assign_ListComp_free (fun _ => true) (fun _ y => ∃ k u, y = .int k u) hsw hclos hcell hkind hnames hx hy hp (wpAny_mono h (fun xv s₁ h₁ => ?_) fun _ _ e => e) hs
  obtain ⟨r, t, u, v, h₀, m, news, rfl, hr, hsm, hn, hsz, F, N, helt, hQ⟩ := h₁
  have up : ∀ (s₃ : Shared) (o' : Obj), (∀ b o, b ∉ [s₁.heap.objs.size] → (s₁.heap.push o').get? b = some o → s₃.heap.get? b = some o) → ∀ b o, s₁.heap.get? b = some o → s₃.heap.get? b = some o :=
    fun s₃ o' hk b o e => hk b o (fun hm => by rcases List.mem_cons.mp hm with rfl | hm; exact Nat.lt_irrefl _ (Heap.lt_size e); cases hm) (Heap.get?_push_of_some _ e)
  refine wpAny_pyIter_range hr hsm ⟨s₁.heap.objs.size, [s₁.heap.objs.size], [s₁.heap.objs.size], n, _, _, m, rfl, (Walks.range hh _ 0 1 n).bound, hsz, ?_, ?_, ?_, F.ns.push _, ⟨?_, ?_⟩, ?_⟩
  · show IsRangeIter _ _ _ _ _; rw [hn]; simpa using Heap.get?_push_size _ rfl
  · intro b hb
    show b < (s₁.heap.push _).objs.size
    rw [Heap.size_push]
    rcases List.mem_cons.mp hb with rfl | hb
    · exact Nat.lt_succ_self _
    · cases hb
  · intro hm
    rcases List.mem_cons.mp hm with e | hm
    · exact Nat.lt_irrefl _ (e ▸ F.ns.lt)
    · cases hm
  · intro C i v s₃ m₃ E' hC hP hn hm hk _
    exact wpAny_tests_nil ⟨rfl, _, _, rfl, fun _ _ e => e⟩
  · intro C i v s₃ m₃ E' hC hP hp hn hm hk _
    obtain ⟨hi, t, rfl⟩ := hP
    refine wpAny_mono (helt C _ t s₃ m₃ E' (by omega) (by omega) (Nat.le_of_succ_le (by simpa [Heap.size_push] using hC)) hn hm (up s₃ _ hk)) (fun y s₄ h₄ => h₄) fun _ _ e => e
  · intro D h' tk ys vs' hnew hlD hplD hlen hP hF hn' hk
    obtain ⟨k, hD⟩ := lst_len hplD
    have e2 : vs'.filter (fun _ => true) = vs' := by simp
    rw [e2] at hF
    have hD0 : s₁.heap.get? D = none := none_of_keeps (fun b o e => Heap.get?_push_of_some _ e) hnew
    have kp : ∀ c o, c ≠ env.locals → s₁.heap.get? c = some o → h'.get? c = some o := fun c o hc e => hk c o hc (fun hm => by rcases List.mem_cons.mp hm with rfl | hm; exact Nat.lt_irrefl _ (Heap.lt_size e); cases hm) (Heap.get?_push_of_some _ e)
    have old : ∀ c o, h₀.get? c = some o → c ≠ env.locals := fun c o e => Nat.ne_of_lt (Nat.lt_of_lt_of_le (Heap.lt_size e) F.above)
    have hDL : D ≠ env.locals := by rintro rfl; obtain ⟨o, _, _, ho, _⟩ := F.ns; rw [hD0] at ho; cases ho
    refine hQ D h' tk ys.toList k ⟨hn', fun c o e => kp c o (old c o e) (F.keep c o e), F.above⟩ (fun p hp => ?_) (fun p hp q => ?_) (by rw [← hF.length, hlen]) (fun u hu => ?_)
    · rcases List.mem_cons.mp hp with rfl | hp
      · exact ⟨by rw [Array.toArray_toList]; exact hD, hDL, none_of_keeps F.keep hD0⟩
      · exact ⟨kp _ _ (N p hp).2.1 (N p hp).1, (N p hp).2⟩
    · have := (N p hp).1; rw [q, hD0] at this; cases this
    · obtain ⟨_, e⟩ := hF.right u hu; exact e
  (run_tac sh1)
end
end Mine
namespace Mine
open PySem.Calls PyProof.V PySem.Spec PyProof.Rows.LCg
theorem fill : ∀ w : World, (Mine.hd.heap_39 w.params, PySem.Challenge.rw_ix0027_01.row.prog).1 = Mine.hd.heap_39 w.params := by
  k_fill
  intro w
  rfl
local macro_rules | `(tactic| k_room) => `(tactic| ((try simp only [depth_under_make, depth_under_kw, depth_in1, depth_deeper, depth_caller, units_in1, units_deeper, units_under_make, units_caller]); first | with_reducible assumption | exact rn1 | exact rn0 | exact rk1 | exact rk0 | exact rn2 | exact rk2 | exact rn3 | ((try unfold recursionLimit); omega)))
local macro_rules | `(tactic| k_ne) => `(tactic| (refine neN ?_; (try dsimp only); first | with_reducible assumption | exact nl | exact nl0 | exact nl1 | exact nr1 | exact nl2 | exact nr2 | exact nl3 | exact nr3 | exact nl4 | exact nr4 | exact nl5 | exact nr5 | exact nl6 | exact nr6 | exact nl7 | exact nr7 | omega))
local macro_rules | `(tactic| k_enter) => `(tactic| first
  | (refine' code_def ?k1 ?k2 ?k3 ?k4 ?k5 ?kA ?kF ?kK ?k6 ?k7 ?k8 ?k9 ?kB ?_ ?c2 ?c3 ?c4 ?c5; (case k2 => k_asm); (case k1 => with_reducible assumption); (case kA => exact Around.frames_deeper (Below.stack (by with_reducible assumption))); (case kF | kK => exact rfl); (case k3 | k4 | k5 => k_asm); (case k6 | k7 => k_is); (case k8 => k_room); (case k9 => first | exact BindsTo.of_eq rfl | exact binds_K (by k_in) rfl (by k_is) rfl rfl rfl); (case c5 => decide); (case kB => exact locs rfl); (case c2 | c3 | c4 => exact rfl); k_whole; intro g' L' h' FG' F' N' B' X' T'; (try dsimp only); (try k_lift B'); (try k_fold))
  | (refine' code_defC ?k1 ?k2 ?k3 ?k4 ?k5 ?kA ?kF ?kK ?k6 ?k7 ?k8 ?k9 ?kB ?kD ?_ ?c2 ?c3 ?c4; (case k2 => k_asm); (case k1 => with_reducible assumption); (case kA => exact Around.frames_deeper (Below.stack (by with_reducible assumption))); (case kF | kK => exact rfl); (case k3 | k4 | k5 => k_asm); (case k6 | k7 => k_is); (case k8 => k_room); (case k9 => first | exact BindsTo.of_eq rfl | exact binds_K (by k_in) rfl (by k_is) rfl rfl rfl); (case kD => decide +kernel); (case kB | c2 | c3 | c4 => exact rfl); k_whole; intro g' L' h' tk' cells' FG' F' N' Y' B' X' T' l1; (try k_lt l1); k_cells Y'; (try simp only [List.cons_append, List.nil_append] at N'); (try dsimp only); (try k_lift B'); (try k_fold)))
local macro_rules | `(tactic| ks_enter) => `(tactic| (refine' ks_code_super ?k1 ?k2 ?k3 ?k4 ?k5 ?kA ?kF ?kK ?k6 ?k7 ?k8 ?k9 ?kB ?_ ?c1 ?c2 ?c3 ?c4; (case k2 => k_asm); (case k1 => with_reducible assumption); (case kA => exact Around.frames_deeper (Below.stack (by with_reducible assumption))); (case kF | kK => exact rfl); (case k3 | k4 | k5 => k_asm); (case k6 | k7 => k_is); (case k8 => k_room); (case k9 => first | exact BindsTo.of_eq rfl | exact binds_K (by k_in) rfl (by k_is) rfl rfl rfl); (case kB => exact locs rfl); (case c1 => decide); (case c2 | c3 | c4 => exact rfl); intro g' L' h' FG' F' N' B' X' T' l1; (try k_lt l1); (try dsimp only); (try k_lift B')))
local macro_rules | `(tactic| walk_at "callWith ref") => `(tactic| (k_here; kco_here; (with_reducible refine stop_cw ?_); k_dflt (refine' kco_callWith ?k1 ?k2 ?k3 ?k4 ?_; (case k1 => k_in); (case k2 => k_inst); (case k3 => rfl); (case k4 => k_is); k_whole)))
local macro_rules | `(tactic| walk_at "callWith ref") => `(tactic| (k_here; kco_here; (fail_if_success with_reducible refine stop_cw0 ?_); k_dflt (refine' own_callWithKW ?k1 ?k2 ?k3 ?k4 ?_; (case k1 => k_in); (case k2 => k_inst); (case k3 | k4 => exact rfl); k_whole)))
local macro_rules | `(tactic| walk_at "getMethod ref") => `(tactic| (k_here; (with_reducible (first | refine stop_par ?_ | refine stop_ring ?_)); k_dflt (refine' kmu_own ?k1 ?k2 ?k3 ?k4 ?k5 ?_; (case k1 | k2 => k_asm); (case k3 => k_inst); (case k4 | k5 => k_is); k_whole)))
local macro_rules | `(tactic| walk_at "getMethod ref") => `(tactic| (k_here; (with_reducible refine stop_br ?_); k_dflt (refine' kmu_sm ?k1 ?k2 ?k4 ?k5 ?k6 ?k7 ?k8 ?k9 ?k10 ?k11 ?k12 ?k13 ?k14 ?_; (case k1 | k2 => k_asm); (case k4 => k_inst); (case k5 | k6 | k7 | k8 | k9 | k10 => k_is); (case k11 => decide +kernel); (case k12 => k_get); (case k13 => k_is); (case k14 => k_handed); k_whole)))
section
local macro_rules | `(tactic| k_inst) => `(tactic| exact instAt_base (by k_asm) (by assumption) (by assumption))
theorem fresh_22 : True := by
  w_top off
  trivial
abbrev polyD (r : Addr) (l : Value) (e1 e2 : Int) (t1 t2 : Tok) (n : Nat) : Obj := dictOf [⟨e1, .str (Str.ofString "parent") t1, .ref r⟩, ⟨e2, .str (Str.ofString "coeffs") t2, l⟩] n
abbrev ringD (e1 e2 e3 e4 e5 e6 : Int) (t1 t2 t3 t4 t5 t6 u1 u2 : Tok) (v3 v4 v5 v6 : Value) (n : Nat) : Obj := dictOf [⟨e1, .str (Str.ofString "q") t1, .int 8380417 u1⟩, ⟨e2, .str (Str.ofString "n") t2, .int 256 u2⟩,
  ⟨e3, .str (Str.ofString "shake128") t3, v3⟩, ⟨e4, .str (Str.ofString "shake256") t4, v4⟩, ⟨e5, .str (Str.ofString "ntt_zetas") t5, v5⟩, ⟨e6, .str (Str.ofString "ntt_f") t6, v6⟩] n
/-- a ring of the package -/
inductive RingAt (h : Heap) (r : Addr) : Prop
  | mk (dr : Addr) (n2 : Nat) (f1 f2 f3 f4 f5 f6 : Int) (g1 g2 g3 g4 g5 g6 u1 u2 : Tok) (v3 v4 v5 v6 : Value) (a : h.get? r = some (instObj 392 dr)) (b : h.get? dr = some (ringD f1 f2 f3 f4 f5 f6 g1 g2 g3 g4 g5 g6 u1 u2 v3 v4 v5 v6 n2)) : RingAt h r
/-- an element in the transformed form, its coefficients' list made of ints -/
inductive PolyL (h : Heap) (r z l : Addr) (ns : List Int) : Prop
  | mk (dz : Addr) (e1 e2 : Int) (t1 t2 : Tok) (n : Nat) (vs : List Value) (k : Nat) (a : h.get? z = some (instObj 592 dz)) (b : h.get? dz = some (polyD r (.ref l) e1 e2 t1 t2 n)) (c : h.get? l = some (listOf (List.toArray vs) k)) (d : IntsAre vs ns) (e : ns.length = 256) : PolyL h r z l ns
def PolyAt (h : Heap) (r z : Addr) (ns : List Int) : Prop := ∃ l, PolyL h r z l ns
theorem RingAt.mono {h h' : Heap} {r : Addr} (k : ∀ b o, h.get? b = some o → h'.get? b = some o) : RingAt h r → RingAt h' r
  | ⟨dr, n2, f1, f2, f3, f4, f5, f6, g1, g2, g3, g4, g5, g6, u1, u2, v3, v4, v5, v6, a, b⟩ => ⟨dr, n2, f1, f2, f3, f4, f5, f6, g1, g2, g3, g4, g5, g6, u1, u2, v3, v4, v5, v6, k _ _ a, k _ _ b⟩
theorem PolyL.mono {h h' : Heap} {r z l : Addr} {ns : List Int} (k : ∀ b o, h.get? b = some o → h'.get? b = some o) : PolyL h r z l ns → PolyL h' r z l ns
  | ⟨dz, e1, e2, t1, t2, n, vs, j, a, b, c, d, e⟩ => ⟨dz, e1, e2, t1, t2, n, vs, j, k _ _ a, k _ _ b, k _ _ c, d, e⟩
theorem PolyAt.mono {h h' : Heap} {r z : Addr} {ns : List Int} (k : ∀ b o, h.get? b = some o → h'.get? b = some o) : PolyAt h r z ns → PolyAt h' r z ns
  | ⟨l, x⟩ => ⟨l, x.mono k⟩
theorem isList_of {h : Heap} {D : Addr} {vs : List Value} {n : Nat} (e : h.get? D = some (listOf vs.toArray n)) : h.IsList D vs.toArray := ⟨_, e, rfl, _, rfl⟩
/-- a new object onto the ledger -/
theorem news_add {h₀ h h' : Heap} {L D : Addr} {m : Str → Option Value} {news : List (Addr × Obj)} {o : Obj} (F : Fr h₀ L h m) (N' : News h₀ L h' news) (e : h.get? D = none) (e' : h'.get? D = some o) : News h₀ L h' ((D, o) :: news) := fun p hp => by
  rcases List.mem_cons.mp hp with rfl | hp
  · exact ⟨e', fun q => (by obtain ⟨oL, _, _, hL, _⟩ := F.ns; have q' : D = L := q; rw [← q', e] at hL; cases hL), none_of_keeps F.keep e⟩
  · exact N' p hp
section
variable {w : World} {A₀ A : Around} {base h₀ : Heap} {outer : List Env} {env : Env} {L : Addr} {m : Str → Option Value} {p : Program} {loose : List Str} {mean : ExcName → Option Value} {mg mb : Str → Option Value}
    {s : Shared} {Q : Value → Shared → Prop} {E : Value → Shared → Prop}
theorem c_add_mod_q {x dx : Addr} {e1 e2 : Int} {t1 t2 : Tok} {n1 : Nat} {l : Value} {a b : Int} {ta tb : Tok} {r dr : Addr} {n2 : Nat} {f1 f2 f3 f4 f5 f6 : Int} {g1 g2 g3 g4 g5 g6 u1 u2 : Tok} {v3 v4 v5 v6 : Value}
    (B : Below A₀ base outer h₀) (F : Fr h₀ L s.heap m) (X : (Mine.hd.heap_39 w.params).In h₀) (T : Top p loose mean mg mb h₀) (hA : A.frames = some (env :: outer)) (hf : env.frame = some L) (hk : env.scope.kind = .function) (hd : A.depth ≤ 800) (hu : A.units ≤ 8000) (hh : A.handled = none)
    (hx : s.heap.get? x = some (instObj 592 dx)) (hdx : s.heap.get? dx = some (polyD r l e1 e2 t1 t2 n1)) (hr : s.heap.get? r = some (instObj 392 dr)) (hdr : s.heap.get? dr = some (ringD f1 f2 f3 f4 f5 f6 g1 g2 g3 g4 g5 g6 u1 u2 v3 v4 v5 v6 n2))
    (hQ : Ret s Q (fun v h => ∃ t, v = .int ((a + b).fmod 8380417) t)) :
    wpAny (model PySem.Challenge.rw_ix0027_01.row.prog w) A (call (.ref 117) [.ref x, .int a ta, .int b tb] []) Q E s := by
  (run_tac sh0)
  refine' enterP (binds := [(Str.ofString "self", .ref x), (Str.ofString "x", .int a ta), (Str.ofString "y", .int b tb)]) B F X T hA hf hk ?k8 ?k6 ?k7 ?k9 ?kB ?c5 ?c2 ?c3 ?c4 ?_
  case k6 => k_is
  case k7 => k_is
  case k8 => k_room
  case k9 => exact BindsTo.of_eq rfl
  case c5 => decide
  case kB => exact locs rfl
  case c2 => exact rfl
  case c3 => exact rfl
  case c4 => exact rfl
  clear B F X T hA hf hk
  intro L' h' tk' F' N' B' X' T'
  (try dsimp only)
  repeat (first | walk1 | (dsimp only; walk1))
  (try dsimp only)
  exact ret_of hQ (by k_asm) (⟨_, rfl⟩)
  (run_tac sh1)

theorem c_add_ {x y r : Addr} {ns ms : List Int}
    (B : Below A₀ base outer h₀) (F : Fr h₀ L s.heap m) (X : (Mine.hd.heap_39 w.params).In h₀) (T : Top p loose mean mg mb h₀) (hA : A.frames = some (env :: outer)) (hf : env.frame = some L) (hk : env.scope.kind = .function) (hd : A.depth ≤ 790) (hu : A.units ≤ 7900) (hh : A.handled = none)
    (HR : RingAt s.heap r) (HX : PolyAt s.heap r x ns) (HY : PolyAt s.heap r y ms)
    (hQ : Ret s Q (fun v h => ∃ D vs, v = .ref D ∧ s.heap.get? D = none ∧ h.get? D = some (lst vs) ∧ IntsAre vs (List.zipWith (fun a b => (a + b).fmod 8380417) ns ms))) :
    wpAny (model PySem.Challenge.rw_ix0027_01.row.prog w) A (call (.ref 139) [.ref x, .ref y] []) Q E s := by
  (run_tac sh0)
  refine' enterC (binds := [(Str.ofString "self", .ref x), (Str.ofString "other", .ref y)]) B F X T hA hf hk ?k8 ?k6 ?k7 ?k9 ?kB ?c5 ?c2 ?c3 ?c4 ?_
  case k6 => k_is
  case k7 => k_is
  case k8 => k_room
  case k9 => exact BindsTo.of_eq rfl
  case c5 => decide +kernel
  case kB => exact rfl
  case c2 => exact rfl
  case c3 => exact rfl
  case c4 => exact rfl
  clear B F X T hA hf hk
  intro L' h' tk' cells' F' N' Y' B' X' T'
  k_cells Y'
  simp only [List.append_nil, List.cons_append, List.nil_append] at N'
  (try dsimp only)
  obtain ⟨dr, n2, f1, f2, f3, f4, f5, f6, g1, g2, g3, g4, g5, g6, u1, u2, v3, v4, v5, v6, hr, hdr⟩ := HR
  obtain ⟨l1, dx, e1, e2, t1, t2, n1, xs, k1, hx, hdx, hl1, hi1, hn⟩ := HX
  replace hl1 := isList_of hl1
  obtain ⟨l2, dy, e3, e4, t3, t4, n3, ys, k2, hy, hdy, hl2, hi2, hm⟩ := HY
  replace hl2 := isList_of hl2
  repeat ((fail_if_success (with_reducible refine stop_Assign ?_)); (first | walk1 | (dsimp only; walk1)))
  refine' zip_Assign ?hsw ?hh ?hclos ?hcell ?hkind ?hnames ?hxa ?hxb ?hab ?hy ?hp ?_
  case hsw => with_unfolding_all rfl
  case hh => assumption
  case hclos => with_unfolding_all rfl
  case hcell => decide
  case hkind => rfl
  case hnames => decide
  case hxa => rfl
  case hxb => rfl
  case hab => decide
  case hy => rfl
  case hp => rfl
  repeat ((fail_if_success (with_reducible refine stop_type (f := "zip") ?_)); (first | walk1 | (dsimp only; walk1)))
  refine' zip_intsA (fun a b => (a + b).fmod 8380417) ?hL ?F ?N ?hh ?hl1 ?hl2 ?hi1 ?hi2 ?hlen ?hsz ?helt ?hQ
  case hL => rfl
  case F => k_asm
  case N => k_asm
  case hh => assumption
  case hl1 => exact list1 (by k_asm) hl1
  case hl2 => exact list1 (by k_asm) hl2
  case hi1 => exact hi1
  case hi2 => exact hi2
  case hlen => omega
  case hsz => rw [hn]; decide
  case helt =>
    intro C x' y' tx ty s₃ m₃ E' hx' hy' hC hN ha hb hk₃
    have cF := Fr.keeps F' hk₃
    have cN := News.grown N' hk₃
    repeat ((fail_if_success (with_reducible refine stop_call (f := 117) ?_)); (first | walk1 | (dsimp only; walk1)))
    refine' c_add_mod_q ?B ?F ?X ?T (frames_in ?B) ?hf ?hk ?hd ?hu ?hh ?q0 ?q1 ?q2 ?q3 ?ret
    case B => k_asm
    case F => k_asm
    case X => k_asm
    case T => k_asm
    case hf => rfl
    case hk => rfl
    case hd => k_room
    case hu => k_room
    case hh => first | assumption | rfl
    case q0 => exact Fr.keep (by k_asm) _ _ hx
    case q1 => exact Fr.keep (by k_asm) _ _ hdx
    case q2 => exact Fr.keep (by k_asm) _ _ hr
    case q3 => exact Fr.keep (by k_asm) _ _ hdr
    case ret =>
      intro v₄ h₄ tk₄ hk₄ post₄
      have cF₄ := Fr.keeps (by k_asm) hk₄
      have cN₄ := News.grown (by k_asm) hk₄
      k_sweep
      exact ⟨post₄, _, _, rfl, hk₄⟩
  case hQ =>
    intro D h'' tk'' vs cF cN hne hI
    repeat (first | walk1 | (dsimp only; walk1))
    (try dsimp only)
    exact ret_of hQ (by k_asm) (⟨_, _, rfl, (cN _ (.head _)).2.2, (cN _ (.head _)).1, hI⟩)
  (run_tac sh1)

theorem c_sub_mod_q {x dx : Addr} {e1 e2 : Int} {t1 t2 : Tok} {n1 : Nat} {l : Value} {a b : Int} {ta tb : Tok} {r dr : Addr} {n2 : Nat} {f1 f2 f3 f4 f5 f6 : Int} {g1 g2 g3 g4 g5 g6 u1 u2 : Tok} {v3 v4 v5 v6 : Value}
    (B : Below A₀ base outer h₀) (F : Fr h₀ L s.heap m) (X : (Mine.hd.heap_39 w.params).In h₀) (T : Top p loose mean mg mb h₀) (hA : A.frames = some (env :: outer)) (hf : env.frame = some L) (hk : env.scope.kind = .function) (hd : A.depth ≤ 800) (hu : A.units ≤ 8000) (hh : A.handled = none)
    (hx : s.heap.get? x = some (instObj 592 dx)) (hdx : s.heap.get? dx = some (polyD r l e1 e2 t1 t2 n1)) (hr : s.heap.get? r = some (instObj 392 dr)) (hdr : s.heap.get? dr = some (ringD f1 f2 f3 f4 f5 f6 g1 g2 g3 g4 g5 g6 u1 u2 v3 v4 v5 v6 n2))
    (hQ : Ret s Q (fun v h => ∃ t, v = .int ((a - b).fmod 8380417) t)) :
    wpAny (model PySem.Challenge.rw_ix0027_01.row.prog w) A (call (.ref 124) [.ref x, .int a ta, .int b tb] []) Q E s := by
  (run_tac sh0)
  refine' enterP (binds := [(Str.ofString "self", .ref x), (Str.ofString "x", .int a ta), (Str.ofString "y", .int b tb)]) B F X T hA hf hk ?k8 ?k6 ?k7 ?k9 ?kB ?c5 ?c2 ?c3 ?c4 ?_
  case k6 => k_is
  case k7 => k_is
  case k8 => k_room
  case k9 => exact BindsTo.of_eq rfl
  case c5 => decide
  case kB => exact locs rfl
  case c2 => exact rfl
  case c3 => exact rfl
  case c4 => exact rfl
  clear B F X T hA hf hk
  intro L' h' tk' F' N' B' X' T'
  (try dsimp only)
  repeat (first | walk1 | (dsimp only; walk1))
  (try dsimp only)
  exact ret_of hQ (by k_asm) (⟨_, rfl⟩)
  (run_tac sh1)

theorem c_sub_ {x y r : Addr} {ns ms : List Int}
    (B : Below A₀ base outer h₀) (F : Fr h₀ L s.heap m) (X : (Mine.hd.heap_39 w.params).In h₀) (T : Top p loose mean mg mb h₀) (hA : A.frames = some (env :: outer)) (hf : env.frame = some L) (hk : env.scope.kind = .function) (hd : A.depth ≤ 790) (hu : A.units ≤ 7900) (hh : A.handled = none)
    (HR : RingAt s.heap r) (HX : PolyAt s.heap r x ns) (HY : PolyAt s.heap r y ms)
    (hQ : Ret s Q (fun v h => ∃ D vs, v = .ref D ∧ s.heap.get? D = none ∧ h.get? D = some (lst vs) ∧ IntsAre vs (List.zipWith (fun a b => (a - b).fmod 8380417) ns ms))) :
    wpAny (model PySem.Challenge.rw_ix0027_01.row.prog w) A (call (.ref 165) [.ref x, .ref y] []) Q E s := by
  (run_tac sh0)
  refine' enterC (binds := [(Str.ofString "self", .ref x), (Str.ofString "other", .ref y)]) B F X T hA hf hk ?k8 ?k6 ?k7 ?k9 ?kB ?c5 ?c2 ?c3 ?c4 ?_
  case k6 => k_is
  case k7 => k_is
  case k8 => k_room
  case k9 => exact BindsTo.of_eq rfl
  case c5 => decide +kernel
  case kB => exact rfl
  case c2 => exact rfl
  case c3 => exact rfl
  case c4 => exact rfl
  clear B F X T hA hf hk
  intro L' h' tk' cells' F' N' Y' B' X' T'
  k_cells Y'
  simp only [List.append_nil, List.cons_append, List.nil_append] at N'
  (try dsimp only)
  obtain ⟨dr, n2, f1, f2, f3, f4, f5, f6, g1, g2, g3, g4, g5, g6, u1, u2, v3, v4, v5, v6, hr, hdr⟩ := HR
  obtain ⟨l1, dx, e1, e2, t1, t2, n1, xs, k1, hx, hdx, hl1, hi1, hn⟩ := HX
  replace hl1 := isList_of hl1
  obtain ⟨l2, dy, e3, e4, t3, t4, n3, ys, k2, hy, hdy, hl2, hi2, hm⟩ := HY
  replace hl2 := isList_of hl2
  repeat ((fail_if_success (with_reducible refine stop_Assign ?_)); (first | walk1 | (dsimp only; walk1)))
  refine' zip_Assign ?hsw ?hh ?hclos ?hcell ?hkind ?hnames ?hxa ?hxb ?hab ?hy ?hp ?_
  case hsw => with_unfolding_all rfl
  case hh => assumption
  case hclos => with_unfolding_all rfl
  case hcell => decide
  case hkind => rfl
  case hnames => decide
  case hxa => rfl
  case hxb => rfl
  case hab => decide
  case hy => rfl
  case hp => rfl
  repeat ((fail_if_success (with_reducible refine stop_type (f := "zip") ?_)); (first | walk1 | (dsimp only; walk1)))
  refine' zip_intsA (fun a b => (a - b).fmod 8380417) ?hL ?F ?N ?hh ?hl1 ?hl2 ?hi1 ?hi2 ?hlen ?hsz ?helt ?hQ
  case hL => rfl
  case F => k_asm
  case N => k_asm
  case hh => assumption
  case hl1 => exact list1 (by k_asm) hl1
  case hl2 => exact list1 (by k_asm) hl2
  case hi1 => exact hi1
  case hi2 => exact hi2
  case hlen => omega
  case hsz => rw [hn]; decide
  case helt =>
    intro C x' y' tx ty s₃ m₃ E' hx' hy' hC hN ha hb hk₃
    have cF := Fr.keeps F' hk₃
    have cN := News.grown N' hk₃
    repeat ((fail_if_success (with_reducible refine stop_call (f := 124) ?_)); (first | walk1 | (dsimp only; walk1)))
    refine' c_sub_mod_q ?B ?F ?X ?T (frames_in ?B) ?hf ?hk ?hd ?hu ?hh ?q0 ?q1 ?q2 ?q3 ?ret
    case B => k_asm
    case F => k_asm
    case X => k_asm
    case T => k_asm
    case hf => rfl
    case hk => rfl
    case hd => k_room
    case hu => k_room
    case hh => first | assumption | rfl
    case q0 => exact Fr.keep (by k_asm) _ _ hx
    case q1 => exact Fr.keep (by k_asm) _ _ hdx
    case q2 => exact Fr.keep (by k_asm) _ _ hr
    case q3 => exact Fr.keep (by k_asm) _ _ hdr
    case ret =>
      intro v₄ h₄ tk₄ hk₄ post₄
      have cF₄ := Fr.keeps (by k_asm) hk₄
      have cN₄ := News.grown (by k_asm) hk₄
      k_sweep
      exact ⟨post₄, _, _, rfl, hk₄⟩
  case hQ =>
    intro D h'' tk'' vs cF cN hne hI
    repeat (first | walk1 | (dsimp only; walk1))
    (try dsimp only)
    exact ret_of hQ (by k_asm) (⟨_, _, rfl, (cN _ (.head _)).2.2, (cN _ (.head _)).1, hI⟩)
  (run_tac sh1)

end

theorem fresh_23 : True := by
  w_top off
  trivial
/-- what the ring's call makes -/
inductive RingNew (g h : Heap) (r : Addr) (l v : Value) : Prop
  | mk (z dz : Addr) (e1 e2 : Int) (t1 t2 : Tok) (n : Nat) (hv : v = .ref z) (p1 : g.get? z = none) (p2 : g.get? dz = none) (a : h.get? z = some (instObj 592 dz)) (b : h.get? dz = some (polyD r l e1 e2 t1 t2 n)) : RingNew g h r l v
inductive PlainNew (g h : Heap) (r : Addr) (v : Value) : Prop
  | mk (z dz : Addr) (l2 : Value) (e1 e2 : Int) (t1 t2 : Tok) (n : Nat) (hv : v = .ref z) (p1 : g.get? z = none) (p2 : g.get? dz = none) (a : h.get? z = some (instObj 528 dz)) (b : h.get? dz = some (polyD r l2 e1 e2 t1 t2 n)) : PlainNew g h r v
/-- an element in the transformed form, all of it new -/
inductive PolyNew (g h : Heap) (r z : Addr) (ns : List Int) : Prop
  | mk (dz l : Addr) (e1 e2 : Int) (t1 t2 : Tok) (n : Nat) (vs : List Value) (k : Nat) (p1 : g.get? z = none) (p2 : g.get? dz = none) (p3 : g.get? l = none) (a : h.get? z = some (instObj 592 dz)) (b : h.get? dz = some (polyD r (.ref l) e1 e2 t1 t2 n)) (c : h.get? l = some (listOf vs.toArray k)) (d : IntsAre vs ns) (e : ns.length = 256) : PolyNew g h r z ns
theorem PolyNew.at {g h : Heap} {r z : Addr} {ns : List Int} : PolyNew g h r z ns → PolyAt h r z ns
  | ⟨dz, l, e1, e2, t1, t2, n, vs, k, _, _, _, a, b, c, d, e⟩ => ⟨l, dz, e1, e2, t1, t2, n, vs, k, a, b, c, d, e⟩
theorem PolyNew.older {g g' h : Heap} {r z : Addr} {ns : List Int} (k : ∀ b o, g.get? b = some o → g'.get? b = some o) : PolyNew g' h r z ns → PolyNew g h r z ns
  | ⟨dz, l, e1, e2, t1, t2, n, vs, j, p, q, r, a, b, c, d, e⟩ => ⟨dz, l, e1, e2, t1, t2, n, vs, j, none_of_keeps k p, none_of_keeps k q, none_of_keeps k r, a, b, c, d, e⟩
section
variable {w : World} {A₀ A : Around} {base h₀ : Heap} {outer : List Env} {env : Env} {L : Addr} {m : Str → Option Value} {p : Program} {loose : List Str} {mean : ExcName → Option Value} {mg mb : Str → Option Value}
    {s : Shared} {Q : Value → Shared → Prop} {E : Value → Shared → Prop}
theorem c_parse {x dx l r : Addr} {e1 : Int} {t1 : Tok} {n1 : Nat} {xs : List Value} {ns : List Int}
    (B : Below A₀ base outer h₀) (F : Fr h₀ L s.heap m) (X : (Mine.hd.heap_39 w.params).In h₀) (T : Top p loose mean mg mb h₀) (hA : A.frames = some (env :: outer)) (hf : env.frame = some L) (hk : env.scope.kind = .function) (hd : A.depth ≤ 800) (hu : A.units ≤ 8000) (hh : A.handled = none)
    (HR : RingAt s.heap r) (hx : s.heap.get? x = some (instObj 592 dx)) (hdx : s.heap.get? dx = some (dictOf [⟨e1, .str (Str.ofString "parent") t1, .ref r⟩] n1)) (hl : s.heap.IsList l xs.toArray) (hi : IntsAre xs ns) (hn : ns.length = 256)
    (hQ : Ret s Q (fun v h => v = .ref l)) :
    wpAny (model PySem.Challenge.rw_ix0027_01.row.prog w) A (call (.ref 103) [.ref x, .ref l] []) Q E s := by
  (run_tac sh0)
  refine' enterP (binds := [(Str.ofString "self", .ref x), (Str.ofString "coefficients", .ref l)]) B F X T hA hf hk ?k8 ?k6 ?k7 ?k9 ?kB ?c5 ?c2 ?c3 ?c4 ?_
  case k6 => k_is
  case k7 => k_is
  case k8 => k_room
  case k9 => exact BindsTo.of_eq rfl
  case c5 => decide
  case kB => exact locs rfl
  case c2 => exact rfl
  case c3 => exact rfl
  case c4 => exact rfl
  clear B F X T hA hf hk
  intro L' h' tk' F' N' B' X' T'
  (try dsimp only)
  have hlen : xs.length = 256 := by rw [hi.length, hn]
  obtain ⟨dr, n2, f1, f2, f3, f4, f5, f6, g1, g2, g3, g4, g5, g6, u1, u2, v3, v4, v5, v6, hr, hdr⟩ := HR
  repeat (first | walk1 | (dsimp only; walk1))
  (try dsimp only)
  exact ret_of hQ (by k_asm) (rfl)
  (run_tac sh1)

theorem c_ring {l r : Addr} {xs : List Value} {ns : List Int}
    (B : Below A₀ base outer h₀) (F : Fr h₀ L s.heap m) (X : (Mine.hd.heap_39 w.params).In h₀) (T : Top p loose mean mg mb h₀) (hA : A.frames = some (env :: outer)) (hf : env.frame = some L) (hk : env.scope.kind = .function) (hd : A.depth ≤ 780) (hu : A.units ≤ 7800) (hh : A.handled = none)
    (HR : RingAt s.heap r) (hl : s.heap.IsList l xs.toArray) (hi : IntsAre xs ns) (hn : ns.length = 256)
    (hQ : Ret s Q (fun v h => RingNew s.heap h r (.ref l) v)) :
    codeAny (model PySem.Challenge.rw_ix0027_01.row.prog w) A (.call (.ref 382) ⟨[.ref r, .ref l], [(Str.ofString "is_ntt", .bool true)]⟩) (fun r s' => match r with | .ok (.ret v) => Q v s' | .ok _ => False | .error e => E e s') s := by
  (run_tac sh0)
  refine' enterPc (binds := [(Str.ofString "self", .ref r), (Str.ofString "coefficients", .ref l), (Str.ofString "is_ntt", .bool true)]) B F X T hA hf hk ?k8 ?k6 ?k7 ?k9 ?kB ?c5 ?c2 ?c3 ?c4 ?_
  case k6 => k_is
  case k7 => k_is
  case k8 => k_room
  case k9 => exact binds_K (by k_in) rfl (by k_is) rfl rfl rfl
  case c5 => decide
  case kB => exact locs rfl
  case c2 => exact rfl
  case c3 => exact rfl
  case c4 => exact rfl
  clear B F X T hA hf hk
  intro L' h' tk' F' N' B' X' T'
  (try dsimp only)
  have HR' := HR
  obtain ⟨dr, n2, f1, f2, f3, f4, f5, f6, g1, g2, g3, g4, g5, g6, u1, u2, v3, v4, v5, v6, hr, hdr⟩ := HR
  repeat ((fail_if_success (with_reducible refine stop_call (f := 103) ?_)); (first | walk1 | (dsimp only; walk1)))
  refine' c_parse ?B ?F ?X ?T (frames_in ?B) ?hf ?hk ?hd ?hu ?hh ?q0 ?q1 ?q2 ?q3 ?q4 ?q5 ?ret
  case B => k_asm
  case F => k_asm
  case X => k_asm
  case T => k_asm
  case hf => rfl
  case hk => rfl
  case hd => k_room
  case hu => k_room
  case hh => first | assumption | rfl
  case q0 => exact RingAt.mono (fun _ _ q => Fr.keep (by k_asm) _ _ (Fr.keep (by assumption) _ _ q)) HR'
  case q1 => exact (News.get (by k_asm) (by k_mem))
  case q2 => exact (News.get (by k_asm) (by k_mem))
  case q3 => (refine' list2 ?F1 ?F0 hl; (case F1 => k_asm); (case F0 => assumption))
  case q4 => exact hi
  case q5 => exact hn
  case ret =>
    intro v₄ h₄ tk₄ hk₄ post₄
    have cF₄ := Fr.keeps (by k_asm) hk₄
    have cN₄ := News.grown (by k_asm) hk₄
    k_sweep
    subst post₄
    repeat (first | walk1 | (dsimp only; walk1))
    (try dsimp only)
    refine ret_of hQ (by k_asm) ?_
    (rename News _ _ _ _ => NN)
    exact ⟨_, _, _, _, _, _, _, rfl, (NN _ (.head _)).2.2, (NN _ (.tail _ (.head _))).2.2, (NN _ (.head _)).1, (NN _ (.tail _ (.head _))).1⟩
  (run_tac sh1)

theorem c_padd {x y r : Addr} {ns ms : List Int}
    (B : Below A₀ base outer h₀) (F : Fr h₀ L s.heap m) (X : (Mine.hd.heap_39 w.params).In h₀) (T : Top p loose mean mg mb h₀) (hA : A.frames = some (env :: outer)) (hf : env.frame = some L) (hk : env.scope.kind = .function) (hd : A.depth ≤ 760) (hu : A.units ≤ 7600) (hh : A.handled = none)
    (HR : RingAt s.heap r) (HX : PolyAt s.heap r x ns) (HY : PolyAt s.heap r y ms)
    (hQ : Ret s Q (fun v h => ∃ z, v = .ref z ∧ PolyNew s.heap h r z (List.zipWith (fun a b => (a + b).fmod 8380417) ns ms))) :
    wpAny (model PySem.Challenge.rw_ix0027_01.row.prog w) A (call (.ref 577) [.ref x, .ref y] []) Q E s := by
  (run_tac sh0)
  refine' enterP (binds := [(Str.ofString "self", .ref x), (Str.ofString "other", .ref y)]) B F X T hA hf hk ?k8 ?k6 ?k7 ?k9 ?kB ?c5 ?c2 ?c3 ?c4 ?_
  case k6 => k_is
  case k7 => k_is
  case k8 => k_room
  case k9 => exact BindsTo.of_eq rfl
  case c5 => decide
  case kB => exact locs rfl
  case c2 => exact rfl
  case c3 => exact rfl
  case c4 => exact rfl
  clear B F X T hA hf hk
  intro L' h' tk' F' N' B' X' T'
  (try dsimp only)
  have HR' := HR
  have HX' := HX
  obtain ⟨dr, n2, f1, f2, f3, f4, f5, f6, g1, g2, g3, g4, g5, g6, u1, u2, v3, v4, v5, v6, hr, hdr⟩ := HR
  obtain ⟨l1, dx, e1, e2, t1, t2, n1, xs, k1, hx, hdx, hl1, hi1, hn⟩ := HX
  have hm : ms.length = 256 := by obtain ⟨l2, dy, e3, e4, t3, t4, n3, ys, k2, hy, hdy, hl2, hi2, hm⟩ := HY; exact hm
  repeat ((fail_if_success (with_reducible refine stop_call (f := 139) ?_)); (first | walk1 | (dsimp only; walk1)))
  refine' c_add_ ?B ?F ?X ?T (frames_in ?B) ?hf ?hk ?hd ?hu ?hh ?q0 ?q1 ?q2 ?ret
  case B => k_asm
  case F => k_asm
  case X => k_asm
  case T => k_asm
  case hf => rfl
  case hk => rfl
  case hd => k_room
  case hu => k_room
  case hh => first | assumption | rfl
  case q0 => exact RingAt.mono (Fr.keep (by k_asm)) HR'
  case q1 => exact PolyAt.mono (Fr.keep (by k_asm)) HX'
  case q2 => exact PolyAt.mono (Fr.keep (by k_asm)) HY
  case ret =>
    intro v₄ h₄ tk₄ hk₄ post₄
    obtain ⟨D, vs, rfl, hD0, hD, hI⟩ := post₄
    have cF₄ := Fr.keeps (by k_asm) hk₄
    have cN₄ := News.grown (by k_asm) hk₄
    replace cN₄ := news_add (by k_asm) cN₄ hD0 hD
    k_sweep
    repeat ((fail_if_success (with_reducible refine stop_call (f := r) ?_)); (first | walk1 | (dsimp only; walk1)))
    refine' own_call (f := 382) ?X ?I ?k3 ?hs ?hf ?hfn ?_
    case X => k_in
    case I => k_inst
    case k3 => exact rfl
    case hs => k_is
    case hf => k_is
    case hfn => k_is
    refine' c_ring ?B ?F ?X ?T (frames_in ?B) ?hf ?hk ?hd ?hu ?hh ?q0 ?q1 ?q2 ?q3 ?ret
    case B => k_asm
    case F => k_asm
    case X => k_asm
    case T => k_asm
    case hf => rfl
    case hk => rfl
    case hd => k_room
    case hu => k_room
    case hh => first | assumption | rfl
    case q0 => exact RingAt.mono (Fr.keep (by k_asm)) HR'
    case q1 => exact News.isList (by k_asm) (by k_mem)
    case q2 => exact hI
    case q3 => simp [List.length_zipWith, hn, hm]
    case ret =>
      intro v₄ h₄ tk₄ hk₄ post₄
      obtain ⟨z, dz, e5, e6, t5, t6, n5, rfl, hz0, hdz0, hz, hdz⟩ := post₄
      have cF₄ := Fr.keeps (by k_asm) hk₄
      have cN₄ := News.grown (by k_asm) hk₄
      replace cN₄ := news_add (by k_asm) cN₄ hdz0 hdz
      replace cN₄ := news_add (by k_asm) cN₄ hz0 hz
      k_sweep
      repeat (first | walk1 | (dsimp only; walk1))
      (try dsimp only)
      refine ret_of hQ (by k_asm) ?_
      (rename News _ _ _ _ => NN)
      exact ⟨_, rfl, _, D, _, _, _, _, _, vs, _, (NN _ (.head _)).2.2, (NN _ (.tail _ (.head _))).2.2, (NN _ (.tail _ (.tail _ (.head _)))).2.2, (NN _ (.head _)).1, (NN _ (.tail _ (.head _))).1, (NN _ (.tail _ (.tail _ (.head _)))).1, hI, by simp [List.length_zipWith, hn, hm]⟩
  (run_tac sh1)

theorem c_psub {x y r : Addr} {ns ms : List Int}
    (B : Below A₀ base outer h₀) (F : Fr h₀ L s.heap m) (X : (Mine.hd.heap_39 w.params).In h₀) (T : Top p loose mean mg mb h₀) (hA : A.frames = some (env :: outer)) (hf : env.frame = some L) (hk : env.scope.kind = .function) (hd : A.depth ≤ 760) (hu : A.units ≤ 7600) (hh : A.handled = none)
    (HR : RingAt s.heap r) (HX : PolyAt s.heap r x ns) (HY : PolyAt s.heap r y ms)
    (hQ : Ret s Q (fun v h => ∃ z, v = .ref z ∧ PolyNew s.heap h r z (List.zipWith (fun a b => (a - b).fmod 8380417) ns ms))) :
    wpAny (model PySem.Challenge.rw_ix0027_01.row.prog w) A (call (.ref 584) [.ref x, .ref y] []) Q E s := by
  (run_tac sh0)
  refine' enterP (binds := [(Str.ofString "self", .ref x), (Str.ofString "other", .ref y)]) B F X T hA hf hk ?k8 ?k6 ?k7 ?k9 ?kB ?c5 ?c2 ?c3 ?c4 ?_
  case k6 => k_is
  case k7 => k_is
  case k8 => k_room
  case k9 => exact BindsTo.of_eq rfl
  case c5 => decide
  case kB => exact locs rfl
  case c2 => exact rfl
  case c3 => exact rfl
  case c4 => exact rfl
  clear B F X T hA hf hk
  intro L' h' tk' F' N' B' X' T'
  (try dsimp only)
  have HR' := HR
  have HX' := HX
  obtain ⟨dr, n2, f1, f2, f3, f4, f5, f6, g1, g2, g3, g4, g5, g6, u1, u2, v3, v4, v5, v6, hr, hdr⟩ := HR
  obtain ⟨l1, dx, e1, e2, t1, t2, n1, xs, k1, hx, hdx, hl1, hi1, hn⟩ := HX
  have hm : ms.length = 256 := by obtain ⟨l2, dy, e3, e4, t3, t4, n3, ys, k2, hy, hdy, hl2, hi2, hm⟩ := HY; exact hm
  repeat ((fail_if_success (with_reducible refine stop_call (f := 165) ?_)); (first | walk1 | (dsimp only; walk1)))
  refine' c_sub_ ?B ?F ?X ?T (frames_in ?B) ?hf ?hk ?hd ?hu ?hh ?q0 ?q1 ?q2 ?ret
  case B => k_asm
  case F => k_asm
  case X => k_asm
  case T => k_asm
  case hf => rfl
  case hk => rfl
  case hd => k_room
  case hu => k_room
  case hh => first | assumption | rfl
  case q0 => exact RingAt.mono (Fr.keep (by k_asm)) HR'
  case q1 => exact PolyAt.mono (Fr.keep (by k_asm)) HX'
  case q2 => exact PolyAt.mono (Fr.keep (by k_asm)) HY
  case ret =>
    intro v₄ h₄ tk₄ hk₄ post₄
    obtain ⟨D, vs, rfl, hD0, hD, hI⟩ := post₄
    have cF₄ := Fr.keeps (by k_asm) hk₄
    have cN₄ := News.grown (by k_asm) hk₄
    replace cN₄ := news_add (by k_asm) cN₄ hD0 hD
    k_sweep
    repeat ((fail_if_success (with_reducible refine stop_call (f := r) ?_)); (first | walk1 | (dsimp only; walk1)))
    refine' own_call (f := 382) ?X ?I ?k3 ?hs ?hf ?hfn ?_
    case X => k_in
    case I => k_inst
    case k3 => exact rfl
    case hs => k_is
    case hf => k_is
    case hfn => k_is
    refine' c_ring ?B ?F ?X ?T (frames_in ?B) ?hf ?hk ?hd ?hu ?hh ?q0 ?q1 ?q2 ?q3 ?ret
    case B => k_asm
    case F => k_asm
    case X => k_asm
    case T => k_asm
    case hf => rfl
    case hk => rfl
    case hd => k_room
    case hu => k_room
    case hh => first | assumption | rfl
    case q0 => exact RingAt.mono (Fr.keep (by k_asm)) HR'
    case q1 => exact News.isList (by k_asm) (by k_mem)
    case q2 => exact hI
    case q3 => simp [List.length_zipWith, hn, hm]
    case ret =>
      intro v₄ h₄ tk₄ hk₄ post₄
      obtain ⟨z, dz, e5, e6, t5, t6, n5, rfl, hz0, hdz0, hz, hdz⟩ := post₄
      have cF₄ := Fr.keeps (by k_asm) hk₄
      have cN₄ := News.grown (by k_asm) hk₄
      replace cN₄ := news_add (by k_asm) cN₄ hdz0 hdz
      replace cN₄ := news_add (by k_asm) cN₄ hz0 hz
      k_sweep
      repeat (first | walk1 | (dsimp only; walk1))
      (try dsimp only)
      refine ret_of hQ (by k_asm) ?_
      (rename News _ _ _ _ => NN)
      exact ⟨_, rfl, _, D, _, _, _, _, _, vs, _, (NN _ (.head _)).2.2, (NN _ (.tail _ (.head _))).2.2, (NN _ (.tail _ (.tail _ (.head _)))).2.2, (NN _ (.head _)).1, (NN _ (.tail _ (.head _))).1, (NN _ (.tail _ (.tail _ (.head _)))).1, hI, by simp [List.length_zipWith, hn, hm]⟩
  (run_tac sh1)

end

theorem fresh_24 : True := by
  w_top off
  trivial
/-- ints that any product bears -/
def Small (ns : List Int) : Prop := ∀ c ∈ ns, -1099511627776 ≤ c ∧ c ≤ 1099511627776
section
variable {w : World} {A₀ A : Around} {base h₀ : Heap} {outer : List Env} {env : Env} {L : Addr} {m : Str → Option Value} {p : Program} {loose : List Str} {mean : ExcName → Option Value} {mg mb : Str → Option Value}
    {s : Shared} {Q : Value → Shared → Prop} {E : Value → Shared → Prop}
theorem c_ncm {x l1 l2 : Addr} {xs ys : List Value} {ns ms : List Int}
    (B : Below A₀ base outer h₀) (F : Fr h₀ L s.heap m) (X : (Mine.hd.heap_39 w.params).In h₀) (T : Top p loose mean mg mb h₀) (hA : A.frames = some (env :: outer)) (hf : env.frame = some L) (hk : env.scope.kind = .function) (hd : A.depth ≤ 790) (hu : A.units ≤ 7900) (hh : A.handled = none)
    (hl1 : s.heap.IsList l1 xs.toArray) (hl2 : s.heap.IsList l2 ys.toArray) (hi1 : IntsAre xs ns) (hi2 : IntsAre ys ms) (hn : ns.length = 256) (hm : ms.length = 256) (hb : Small ns)
    (hQ : Ret s Q (fun v h => ∃ D vs, v = .ref D ∧ s.heap.get? D = none ∧ h.get? D = some (lst vs) ∧ IntsAre vs (List.zipWith (fun a b => (a * b).fmod 8380417) ns ms))) :
    wpAny (model PySem.Challenge.rw_ix0027_01.row.prog w) A (call (.ref 563) [.ref x, .ref l1, .ref l2] []) Q E s := by
  (run_tac sh0)
  refine' enterP (binds := [(Str.ofString "self", .ref x), (Str.ofString "f_coeffs", .ref l1), (Str.ofString "g_coeffs", .ref l2)]) B F X T hA hf hk ?k8 ?k6 ?k7 ?k9 ?kB ?c5 ?c2 ?c3 ?c4 ?_
  case k6 => k_is
  case k7 => k_is
  case k8 => k_room
  case k9 => exact BindsTo.of_eq rfl
  case c5 => decide
  case kB => exact locs rfl
  case c2 => exact rfl
  case c3 => exact rfl
  case c4 => exact rfl
  clear B F X T hA hf hk
  intro L' h' tk' F' N' B' X' T'
  (try dsimp only)
  repeat ((fail_if_success (with_reducible refine stop_Comp ?_)); (first | walk1 | (dsimp only; walk1)))
  refine' zip_ListComp ?hh ?hclos ?hcell ?hkind ?hnames ?hxa ?hxb ?hab ?_
  case hh => assumption
  case hclos => with_unfolding_all rfl
  case hcell => decide
  case hkind => rfl
  case hnames => decide
  case hxa => rfl
  case hxb => rfl
  case hab => decide
  repeat ((fail_if_success (with_reducible refine stop_type (f := "zip") ?_)); (first | walk1 | (dsimp only; walk1)))
  refine' zip_ints (fun a b => (a * b).fmod 8380417) ?hh ?hl1 ?hl2 ?hi1 ?hi2 ?hlen ?hsz ?helt ?hQ
  case hh => assumption
  case hl1 => exact list1 (by k_asm) hl1
  case hl2 => exact list1 (by k_asm) hl2
  case hi1 => exact hi1
  case hi2 => exact hi2
  case hlen => omega
  case hsz => rw [hn]; decide
  case helt =>
    intro C x' y' tx ty s₃ m₃ E' hx' hy' hC hN ha hb' hk₃
    have cF := Fr.keeps F' hk₃
    have cN := News.grown N' hk₃
    have hs := hb x' hx'
    have hs1 := hs.1
    have hs2 := hs.2
    iterate 7 (first | walk1 | (dsimp only; walk1))
    exact ⟨⟨_, rfl⟩, _, _, rfl, fun _ _ e => e⟩
  case hQ =>
    intro D h'' tk'' vs hD0 hD hI hk''
    have cF := Fr.keeps F' hk''
    have cN := news_add F' (News.grown N' hk'') hD0 hD
    repeat (first | walk1 | (dsimp only; walk1))
    (try dsimp only)
    exact ret_of hQ (by k_asm) (⟨_, _, rfl, (cN _ (.head _)).2.2, (cN _ (.head _)).1, hI⟩)
  (run_tac sh1)

theorem c_nmul {x y r : Addr} {ns ms : List Int}
    (B : Below A₀ base outer h₀) (F : Fr h₀ L s.heap m) (X : (Mine.hd.heap_39 w.params).In h₀) (T : Top p loose mean mg mb h₀) (hA : A.frames = some (env :: outer)) (hf : env.frame = some L) (hk : env.scope.kind = .function) (hd : A.depth ≤ 780) (hu : A.units ≤ 7800) (hh : A.handled = none)
    (HR : RingAt s.heap r) (HX : PolyAt s.heap r x ns) (HY : PolyAt s.heap r y ms) (hb : Small ns)
    (hQ : Ret s Q (fun v h => ∃ D vs, v = .ref D ∧ s.heap.get? D = none ∧ h.get? D = some (lst vs) ∧ IntsAre vs (List.zipWith (fun a b => (a * b).fmod 8380417) ns ms))) :
    wpAny (model PySem.Challenge.rw_ix0027_01.row.prog w) A (call (.ref 570) [.ref x, .ref y] []) Q E s := by
  (run_tac sh0)
  refine' enterP (binds := [(Str.ofString "self", .ref x), (Str.ofString "other", .ref y)]) B F X T hA hf hk ?k8 ?k6 ?k7 ?k9 ?kB ?c5 ?c2 ?c3 ?c4 ?_
  case k6 => k_is
  case k7 => k_is
  case k8 => k_room
  case k9 => exact BindsTo.of_eq rfl
  case c5 => decide
  case kB => exact locs rfl
  case c2 => exact rfl
  case c3 => exact rfl
  case c4 => exact rfl
  clear B F X T hA hf hk
  intro L' h' tk' F' N' B' X' T'
  (try dsimp only)
  obtain ⟨l1, dx, e1, e2, t1, t2, n1, xs, k1, hx, hdx, hl1, hi1, hn⟩ := HX
  replace hl1 := isList_of hl1
  obtain ⟨l2, dy, e3, e4, t3, t4, n3, ys, k2, hy, hdy, hl2, hi2, hm⟩ := HY
  replace hl2 := isList_of hl2
  repeat ((fail_if_success (with_reducible refine stop_call (f := 563) ?_)); (first | walk1 | (dsimp only; walk1)))
  refine' c_ncm ?B ?F ?X ?T (frames_in ?B) ?hf ?hk ?hd ?hu ?hh ?q0 ?q1 ?q2 ?q3 ?q4 ?q5 ?q6 ?ret
  case B => k_asm
  case F => k_asm
  case X => k_asm
  case T => k_asm
  case hf => rfl
  case hk => rfl
  case hd => k_room
  case hu => k_room
  case hh => first | assumption | rfl
  case q0 => exact list1 (by k_asm) hl1
  case q1 => exact list1 (by k_asm) hl2
  case q2 => exact hi1
  case q3 => exact hi2
  case q4 => exact hn
  case q5 => exact hm
  case q6 => exact hb
  case ret =>
    intro v₄ h₄ tk₄ hk₄ post₄
    obtain ⟨D, vs, rfl, hD0, hD, hI⟩ := post₄
    have cF₄ := Fr.keeps (by k_asm) hk₄
    have cN₄ := News.grown (by k_asm) hk₄
    replace cN₄ := news_add (by k_asm) cN₄ hD0 hD
    k_sweep
    repeat (first | walk1 | (dsimp only; walk1))
    (try dsimp only)
    refine ret_of hQ (by k_asm) ?_
    (rename News _ _ _ _ => NN)
    exact ⟨_, _, rfl, (NN _ (.head _)).2.2, (NN _ (.head _)).1, hI⟩
  (run_tac sh1)

theorem c_pmul {x y r : Addr} {ns ms : List Int}
    (B : Below A₀ base outer h₀) (F : Fr h₀ L s.heap m) (X : (Mine.hd.heap_39 w.params).In h₀) (T : Top p loose mean mg mb h₀) (hA : A.frames = some (env :: outer)) (hf : env.frame = some L) (hk : env.scope.kind = .function) (hd : A.depth ≤ 740) (hu : A.units ≤ 7400) (hh : A.handled = none)
    (HR : RingAt s.heap r) (HX : PolyAt s.heap r x ns) (HY : PolyAt s.heap r y ms) (hb : Small ns)
    (hQ : Ret s Q (fun v h => ∃ z, v = .ref z ∧ PolyNew s.heap h r z (List.zipWith (fun a b => (a * b).fmod 8380417) ns ms))) :
    wpAny (model PySem.Challenge.rw_ix0027_01.row.prog w) A (call (.ref 589) [.ref x, .ref y] []) Q E s := by
  (run_tac sh0)
  refine' enterC (binds := [(Str.ofString "self", .ref x), (Str.ofString "other", .ref y)]) B F X T hA hf hk ?k8 ?k6 ?k7 ?k9 ?kB ?c5 ?c2 ?c3 ?c4 ?_
  case k6 => k_is
  case k7 => k_is
  case k8 => k_room
  case k9 => exact BindsTo.of_eq rfl
  case c5 => decide +kernel
  case kB => exact rfl
  case c2 => exact rfl
  case c3 => exact rfl
  case c4 => exact rfl
  clear B F X T hA hf hk
  intro L' h' tk' cells' F' N' Y' B' X' T'
  k_cells Y'
  simp only [List.append_nil, List.cons_append, List.nil_append] at N'
  (try dsimp only)
  have HR' := HR
  have HX' := HX
  have HY' := HY
  obtain ⟨dr, n2, f1, f2, f3, f4, f5, f6, g1, g2, g3, g4, g5, g6, u1, u2, v3, v4, v5, v6, hr, hdr⟩ := HR
  obtain ⟨l1, dx, e1, e2, t1, t2, n1, xs, k1, hx, hdx, hl1, hi1, hn⟩ := HX
  replace hl1 := isList_of hl1
  obtain ⟨l2, dy, e3, e4, t3, t4, n3, ys, k2, hy, hdy, hl2, hi2, hm⟩ := HY
  replace hl2 := isList_of hl2
  repeat ((fail_if_success (with_reducible refine stop_call (f := 570) ?_)); (first | walk1 | (dsimp only; walk1)))
  refine' c_nmul ?B ?F ?X ?T (frames_in ?B) ?hf ?hk ?hd ?hu ?hh ?q0 ?q1 ?q2 ?q3 ?ret
  case B => k_asm
  case F => k_asm
  case X => k_asm
  case T => k_asm
  case hf => rfl
  case hk => rfl
  case hd => k_room
  case hu => k_room
  case hh => first | assumption | rfl
  case q0 => exact RingAt.mono (Fr.keep (by k_asm)) HR'
  case q1 => exact PolyAt.mono (Fr.keep (by k_asm)) HX'
  case q2 => exact PolyAt.mono (Fr.keep (by k_asm)) HY'
  case q3 => exact hb
  case ret =>
    intro v₄ h₄ tk₄ hk₄ post₄
    obtain ⟨D, vs, rfl, hD0, hD, hI⟩ := post₄
    have cF₄ := Fr.keeps (by k_asm) hk₄
    have cN₄ := News.grown (by k_asm) hk₄
    replace cN₄ := news_add (by k_asm) cN₄ hD0 hD
    k_sweep
    repeat ((fail_if_success (with_reducible refine stop_call (f := r) ?_)); (first | walk1 | (dsimp only; walk1)))
    refine' own_call (f := 382) ?X ?I ?k3 ?hs ?hf ?hfn ?_
    case X => k_in
    case I => k_inst
    case k3 => exact rfl
    case hs => k_is
    case hf => k_is
    case hfn => k_is
    refine' c_ring ?B ?F ?X ?T (frames_in ?B) ?hf ?hk ?hd ?hu ?hh ?q0 ?q1 ?q2 ?q3 ?ret
    case B => k_asm
    case F => k_asm
    case X => k_asm
    case T => k_asm
    case hf => rfl
    case hk => rfl
    case hd => k_room
    case hu => k_room
    case hh => first | assumption | rfl
    case q0 => exact RingAt.mono (Fr.keep (by k_asm)) HR'
    case q1 => exact News.isList (by k_asm) (by k_mem)
    case q2 => exact hI
    case q3 => (simp [List.length_zipWith, hn, hm])
    case ret =>
      intro v₄ h₄ tk₄ hk₄ post₄
      obtain ⟨z, dz, e5, e6, t5, t6, n5, rfl, hz0, hdz0, hz, hdz⟩ := post₄
      have cF₄ := Fr.keeps (by k_asm) hk₄
      have cN₄ := News.grown (by k_asm) hk₄
      replace cN₄ := news_add (by k_asm) cN₄ hdz0 hdz
      replace cN₄ := news_add (by k_asm) cN₄ hz0 hz
      k_sweep
      repeat (first | walk1 | (dsimp only; walk1))
      (try dsimp only)
      refine ret_of hQ (by k_asm) ?_
      (rename News _ _ _ _ => NN)
      exact ⟨_, rfl, _, D, _, _, _, _, _, vs, _, (NN _ (.head _)).2.2, (NN _ (.tail _ (.head _))).2.2, (NN _ (.tail _ (.tail _ (.head _)))).2.2, (NN _ (.head _)).1, (NN _ (.tail _ (.head _))).1, (NN _ (.tail _ (.tail _ (.head _)))).1, hI, by simp [List.length_zipWith, hn, hm]⟩
  (run_tac sh1)

theorem c_pmulint {x r : Addr} {k : Int} {tk : Tok} {ns : List Int}
    (B : Below A₀ base outer h₀) (F : Fr h₀ L s.heap m) (X : (Mine.hd.heap_39 w.params).In h₀) (T : Top p loose mean mg mb h₀) (hA : A.frames = some (env :: outer)) (hf : env.frame = some L) (hk : env.scope.kind = .function) (hd : A.depth ≤ 740) (hu : A.units ≤ 7400) (hh : A.handled = none)
    (HR : RingAt s.heap r) (HX : PolyAt s.heap r x ns) (hb : Small ns)
    (hQ : Ret s Q (fun v h => ∃ z, v = .ref z ∧ PolyNew s.heap h r z (ns.map (fun c => (c * k).fmod 8380417)))) :
    wpAny (model PySem.Challenge.rw_ix0027_01.row.prog w) A (call (.ref 589) [.ref x, .int k tk] []) Q E s := by
  (run_tac sh0)
  refine' enterC (binds := [(Str.ofString "self", .ref x), (Str.ofString "other", .int k tk)]) B F X T hA hf hk ?k8 ?k6 ?k7 ?k9 ?kB ?c5 ?c2 ?c3 ?c4 ?_
  case k6 => k_is
  case k7 => k_is
  case k8 => k_room
  case k9 => exact BindsTo.of_eq rfl
  case c5 => decide +kernel
  case kB => exact rfl
  case c2 => exact rfl
  case c3 => exact rfl
  case c4 => exact rfl
  clear B F X T hA hf hk
  intro L' h' tk' cells' F' N' Y' B' X' T'
  k_cells Y'
  simp only [List.append_nil, List.cons_append, List.nil_append] at N'
  (try dsimp only)
  have HR' := HR
  obtain ⟨dr, n2, f1, f2, f3, f4, f5, f6, g1, g2, g3, g4, g5, g6, u1, u2, v3, v4, v5, v6, hr, hdr⟩ := HR
  obtain ⟨l1, dx, e1, e2, t1, t2, n1, xs, k1, hx, hdx, hl1, hi1, hn⟩ := HX
  replace hl1 := isList_of hl1
  repeat ((fail_if_success (with_reducible refine stop_Assign ?_)); (first | walk1 | (dsimp only; walk1)))
  refine' map_Assign (fun c => (c * k).fmod 8380417) ?hsw ?hh ?hclos ?hcell ?hkind ?hnames ?hx ?hy ?hp ?_
  case hsw => with_unfolding_all rfl
  case hh => assumption
  case hclos => with_unfolding_all rfl
  case hcell => decide
  case hkind => rfl
  case hnames => decide
  case hx => rfl
  case hy => rfl
  case hp => rfl
  repeat ((fail_if_success (with_reducible refine stop_MSA ?_)); (first | walk1 | (dsimp only; walk1)))
  refine' MSA.intro (fun c => (c * k).fmod 8380417) ?hL ?F ?N ?hl ?hi ?hsz ?helt ?hQ
  case hL => rfl
  case F => k_asm
  case N => k_asm
  case hl => exact list1 (by k_asm) hl1
  case hi => exact hi1
  case hsz => rw [hn]; decide
  case helt =>
    intro C n' tn s₃ m₃ E' hn' hC hN ha hk₃
    have cF := Fr.keeps (by k_asm) hk₃
    have cN := News.grown (by k_asm) hk₃
    have hs1 := (hb n' hn').1
    have hs2 := (hb n' hn').2
    iterate 7 (first | walk1 | (dsimp only; walk1))
    exact ⟨⟨_, rfl⟩, _, _, rfl, fun _ _ e => e⟩
  case hQ =>
    intro D h'' tk'' vs k'' cF cN hne hI
    repeat ((fail_if_success (with_reducible refine stop_call (f := r) ?_)); (first | walk1 | (dsimp only; walk1)))
    refine' own_call (f := 382) ?X ?I ?k3 ?hs ?hf ?hfn ?_
    case X => k_in
    case I => k_inst
    case k3 => exact rfl
    case hs => k_is
    case hf => k_is
    case hfn => k_is
    refine' c_ring ?B ?F ?X ?T (frames_in ?B) ?hf ?hk ?hd ?hu ?hh ?q0 ?q1 ?q2 ?q3 ?ret
    case B => k_asm
    case F => k_asm
    case X => k_asm
    case T => k_asm
    case hf => rfl
    case hk => rfl
    case hd => k_room
    case hu => k_room
    case hh => first | assumption | rfl
    case q0 => exact RingAt.mono (Fr.keep (by k_asm)) HR'
    case q1 => exact News.isList (by k_asm) (by k_mem)
    case q2 => exact hI
    case q3 => (simp [hn])
    case ret =>
      intro v₄ h₄ tk₄ hk₄ post₄
      obtain ⟨z, dz, e5, e6, t5, t6, n5, rfl, hz0, hdz0, hz, hdz⟩ := post₄
      have cF₄ := Fr.keeps (by k_asm) hk₄
      have cN₄ := News.grown (by k_asm) hk₄
      replace cN₄ := news_add (by k_asm) cN₄ hdz0 hdz
      replace cN₄ := news_add (by k_asm) cN₄ hz0 hz
      k_sweep
      repeat (first | walk1 | (dsimp only; walk1))
      (try dsimp only)
      refine ret_of hQ (by k_asm) ?_
      (rename News _ _ _ _ => NN)
      exact ⟨_, rfl, _, D, _, _, _, _, _, vs, _, (NN _ (.head _)).2.2, (NN _ (.tail _ (.head _))).2.2, (NN _ (.tail _ (.tail _ (.head _)))).2.2, (NN _ (.head _)).1, (NN _ (.tail _ (.head _))).1, (NN _ (.tail _ (.tail _ (.head _)))).1, hI, by simp [hn]⟩
  (run_tac sh1)

theorem c_rmul {x r : Addr} {k : Int} {tk : Tok} {ns : List Int}
    (B : Below A₀ base outer h₀) (F : Fr h₀ L s.heap m) (X : (Mine.hd.heap_39 w.params).In h₀) (T : Top p loose mean mg mb h₀) (hA : A.frames = some (env :: outer)) (hf : env.frame = some L) (hk : env.scope.kind = .function) (hd : A.depth ≤ 720) (hu : A.units ≤ 7200) (hh : A.handled = none)
    (HR : RingAt s.heap r) (HX : PolyAt s.heap r x ns) (hb : Small ns)
    (hQ : Ret s Q (fun v h => ∃ z, v = .ref z ∧ PolyNew s.heap h r z (ns.map (fun c => (c * k).fmod 8380417)))) :
    wpAny (model PySem.Challenge.rw_ix0027_01.row.prog w) A (call (.ref 198) [.ref x, .int k tk] []) Q E s := by
  (run_tac sh0)
  refine' enterP (binds := [(Str.ofString "self", .ref x), (Str.ofString "other", .int k tk)]) B F X T hA hf hk ?k8 ?k6 ?k7 ?k9 ?kB ?c5 ?c2 ?c3 ?c4 ?_
  case k6 => k_is
  case k7 => k_is
  case k8 => k_room
  case k9 => exact BindsTo.of_eq rfl
  case c5 => decide
  case kB => exact locs rfl
  case c2 => exact rfl
  case c3 => exact rfl
  case c4 => exact rfl
  clear B F X T hA hf hk
  intro L' h' tk' F' N' B' X' T'
  (try dsimp only)
  have HR' := HR
  have HX' := HX
  obtain ⟨dr, n2, f1, f2, f3, f4, f5, f6, g1, g2, g3, g4, g5, g6, u1, u2, v3, v4, v5, v6, hr, hdr⟩ := HR
  obtain ⟨l1, dx, e1, e2, t1, t2, n1, xs, k1, hx, hdx, hl1, hi1, hn⟩ := HX
  replace hl1 := isList_of hl1
  repeat ((fail_if_success (with_reducible refine stop_call (f := 589) ?_)); (first | walk1 | (dsimp only; walk1)))
  refine' c_pmulint ?B ?F ?X ?T (frames_in ?B) ?hf ?hk ?hd ?hu ?hh ?q0 ?q1 ?q2 ?ret
  case B => k_asm
  case F => k_asm
  case X => k_asm
  case T => k_asm
  case hf => rfl
  case hk => rfl
  case hd => k_room
  case hu => k_room
  case hh => first | assumption | rfl
  case q0 => exact RingAt.mono (Fr.keep (by k_asm)) HR'
  case q1 => exact PolyAt.mono (Fr.keep (by k_asm)) HX'
  case q2 => exact hb
  case ret =>
    intro v₄ h₄ tk₄ hk₄ post₄
    obtain ⟨z, rfl, post₄⟩ := post₄
    have post₅ := PolyNew.older (Fr.keep (by k_asm)) post₄
    clear post₄
    obtain ⟨dz, lz, e5, e6, t5, t6, n5, zs, kz, hz0, hdz0, hlz0, hz, hdz, hlz, hiz, hnz⟩ := post₅
    have cF₄ := Fr.keeps (by k_asm) hk₄
    have cN₄ := News.grown (by k_asm) hk₄
    k_sweep
    repeat (first | walk1 | (dsimp only; walk1))
    (try dsimp only)
    refine ret_of hQ (by k_asm) ?_
    (rename News _ _ _ _ => NN)
    exact ⟨_, rfl, dz, lz, e5, e6, t5, t6, n5, zs, kz, hz0, hdz0, hlz0, hz, hdz, hlz, hiz, hnz⟩
  (run_tac sh1)

end

theorem fresh_25 : True := by
  w_top off
  trivial
section
variable {w : World} {A₀ A : Around} {base h₀ : Heap} {outer : List Env} {env : Env} {L : Addr} {m : Str → Option Value} {p : Program} {loose : List Str} {mean : ExcName → Option Value} {mg mb : Str → Option Value}
    {s : Shared} {Q : Value → Shared → Prop} {E : Value → Shared → Prop}
theorem c_addi_ {x r : Addr} {k c : Int} {tk : Tok} {ns : List Int}
    (B : Below A₀ base outer h₀) (F : Fr h₀ L s.heap m) (X : (Mine.hd.heap_39 w.params).In h₀) (T : Top p loose mean mg mb h₀) (hA : A.frames = some (env :: outer)) (hf : env.frame = some L) (hk : env.scope.kind = .function) (hd : A.depth ≤ 780) (hu : A.units ≤ 7800) (hh : A.handled = none)
    (HR : RingAt s.heap r) (HX : PolyAt s.heap r x (c :: ns))
    (hQ : Ret s Q (fun v h => ∃ D vs j, v = .ref D ∧ s.heap.get? D = none ∧ h.get? D = some (listOf (List.toArray vs) j) ∧ IntsAre vs ((c + k).fmod 8380417 :: ns))) :
    wpAny (model PySem.Challenge.rw_ix0027_01.row.prog w) A (call (.ref 139) [.ref x, .int k tk] []) Q E s := by
  (run_tac sh0)
  refine' enterC (binds := [(Str.ofString "self", .ref x), (Str.ofString "other", .int k tk)]) B F X T hA hf hk ?k8 ?k6 ?k7 ?k9 ?kB ?c5 ?c2 ?c3 ?c4 ?_
  case k6 => k_is
  case k7 => k_is
  case k8 => k_room
  case k9 => exact BindsTo.of_eq rfl
  case c5 => decide +kernel
  case kB => exact rfl
  case c2 => exact rfl
  case c3 => exact rfl
  case c4 => exact rfl
  clear B F X T hA hf hk
  intro L' h' tk' cells' F' N' Y' B' X' T'
  k_cells Y'
  simp only [List.append_nil, List.cons_append, List.nil_append] at N'
  (try dsimp only)
  have HR' := HR
  obtain ⟨dr, n2, f1, f2, f3, f4, f5, f6, g1, g2, g3, g4, g5, g6, u1, u2, v3, v4, v5, v6, hr, hdr⟩ := HR
  obtain ⟨l1, dx, e1, e2, t1, t2, n1, xs, k1, hx, hdx, hl1, hi1, hn⟩ := HX
  obtain ⟨tc, xs, rfl, hi2⟩ := IntsAre.cons_inv hi1
  have hz0 : (Value.int c tc :: xs).length = 256 := by rw [List.length_cons, hi2.length]; exact hn
  repeat ((fail_if_success (with_reducible refine stop_getMethod (n := Str.ofString "copy") ?_)); (first | walk1 | (dsimp only; walk1)))
  refine' getMethod_list_of PySem.F.slot_list_copy PySem.F.type_list_copy ?hl ?hd ?_
  case hl => exact list1 (by k_asm) (isList_of hl1)
  case hd => exact ⟨_, Fr.keep (by k_asm) _ _ hl1, rfl⟩
  repeat ((fail_if_success (with_reducible refine stop_builtin (f := "list.copy") ?_)); (first | walk1 | (dsimp only; walk1)))
  have hlt := fun p hp => Heap.lt_size (N' p hp).1
  refine' copy_list ?F ?N ?hl ?_ ?hz
  case F => k_asm
  case N => k_asm
  case hl => exact list1 (by k_asm) (isList_of hl1)
  case hz => rw [hz0]; decide
  intro h₅ cF cN
  repeat ((fail_if_success (with_reducible refine stop_call (f := 117) ?_)); (first | walk1 | (dsimp only; walk1)))
  refine' c_add_mod_q ?B ?F ?X ?T (frames_in ?B) ?hf ?hk ?hd ?hu ?hh ?q0 ?q1 ?q2 ?q3 ?ret
  case B => k_asm
  case F => k_asm
  case X => k_asm
  case T => k_asm
  case hf => rfl
  case hk => rfl
  case hd => k_room
  case hu => k_room
  case hh => first | assumption | rfl
  case q0 => exact Fr.keep (by k_asm) _ _ hx
  case q1 => exact Fr.keep (by k_asm) _ _ hdx
  case q2 => exact Fr.keep (by k_asm) _ _ hr
  case q3 => exact Fr.keep (by k_asm) _ _ hdr
  case ret =>
    intro v₄ h₄ tk₄ hk₄ post₄
    obtain ⟨tv, rfl⟩ := post₄
    have cF₄ := Fr.keeps (by k_asm) hk₄
    have cN₄ := News.grown (by k_asm) hk₄
    k_sweep
    repeat ((fail_if_success (with_reducible refine stop_setItem ?_)); (first | walk1 | (dsimp only; walk1)))
    refine' ksa_set (vs := Value.int c tc :: xs) (ns := c :: ns) ?F ?N (Upd.head (fun p hp => Nat.ne_of_lt (hlt p hp))) (IntsAre.cons c tc hi2) ?h0 ?h1 ?hf ?_
    case F => k_asm
    case N => k_asm
    case h0 => decide
    case h1 => rw [hn]; decide
    case hf => decide
    intro h₆ cF₆ cN₆ hI₆ _ _
    (try dsimp only)
    repeat (first | walk1 | (dsimp only; walk1))
    (try dsimp only)
    refine ret_of hQ (by k_asm) ?_
    (rename News _ _ _ _ => NN)
    exact ⟨_, _, _, rfl, (NN _ (.head _)).2.2, (NN _ (.head _)).1, hI₆⟩
  (run_tac sh1)

theorem c_paddi {x r : Addr} {k c : Int} {tk : Tok} {ns : List Int}
    (B : Below A₀ base outer h₀) (F : Fr h₀ L s.heap m) (X : (Mine.hd.heap_39 w.params).In h₀) (T : Top p loose mean mg mb h₀) (hA : A.frames = some (env :: outer)) (hf : env.frame = some L) (hk : env.scope.kind = .function) (hd : A.depth ≤ 740) (hu : A.units ≤ 7400) (hh : A.handled = none)
    (HR : RingAt s.heap r) (HX : PolyAt s.heap r x (c :: ns))
    (hQ : Ret s Q (fun v h => ∃ z, v = .ref z ∧ PolyNew s.heap h r z ((c + k).fmod 8380417 :: ns))) :
    wpAny (model PySem.Challenge.rw_ix0027_01.row.prog w) A (call (.ref 577) [.ref x, .int k tk] []) Q E s := by
  (run_tac sh0)
  refine' enterP (binds := [(Str.ofString "self", .ref x), (Str.ofString "other", .int k tk)]) B F X T hA hf hk ?k8 ?k6 ?k7 ?k9 ?kB ?c5 ?c2 ?c3 ?c4 ?_
  case k6 => k_is
  case k7 => k_is
  case k8 => k_room
  case k9 => exact BindsTo.of_eq rfl
  case c5 => decide
  case kB => exact locs rfl
  case c2 => exact rfl
  case c3 => exact rfl
  case c4 => exact rfl
  clear B F X T hA hf hk
  intro L' h' tk' F' N' B' X' T'
  (try dsimp only)
  have HR' := HR
  have HX' := HX
  obtain ⟨dr, n2, f1, f2, f3, f4, f5, f6, g1, g2, g3, g4, g5, g6, u1, u2, v3, v4, v5, v6, hr, hdr⟩ := HR
  obtain ⟨l1, dx, e1, e2, t1, t2, n1, xs, k1, hx, hdx, hl1, hi1, hn⟩ := HX
  repeat ((fail_if_success (with_reducible refine stop_call (f := 139) ?_)); (first | walk1 | (dsimp only; walk1)))
  refine' c_addi_ ?B ?F ?X ?T (frames_in ?B) ?hf ?hk ?hd ?hu ?hh ?q0 ?q1 ?ret
  case B => k_asm
  case F => k_asm
  case X => k_asm
  case T => k_asm
  case hf => rfl
  case hk => rfl
  case hd => k_room
  case hu => k_room
  case hh => first | assumption | rfl
  case q0 => exact RingAt.mono (Fr.keep (by k_asm)) HR'
  case q1 => exact PolyAt.mono (Fr.keep (by k_asm)) HX'
  case ret =>
    intro v₄ h₄ tk₄ hk₄ post₄
    obtain ⟨D, vs, j, rfl, hD0, hD, hI⟩ := post₄
    have cF₄ := Fr.keeps (by k_asm) hk₄
    have cN₄ := News.grown (by k_asm) hk₄
    replace cN₄ := news_add (by k_asm) cN₄ hD0 hD
    k_sweep
    repeat ((fail_if_success (with_reducible refine stop_call (f := r) ?_)); (first | walk1 | (dsimp only; walk1)))
    refine' own_call (f := 382) ?X ?I ?k3 ?hs ?hf ?hfn ?_
    case X => k_in
    case I => k_inst
    case k3 => exact rfl
    case hs => k_is
    case hf => k_is
    case hfn => k_is
    refine' c_ring ?B ?F ?X ?T (frames_in ?B) ?hf ?hk ?hd ?hu ?hh ?q0 ?q1 ?q2 ?q3 ?ret
    case B => k_asm
    case F => k_asm
    case X => k_asm
    case T => k_asm
    case hf => rfl
    case hk => rfl
    case hd => k_room
    case hu => k_room
    case hh => first | assumption | rfl
    case q0 => exact RingAt.mono (Fr.keep (by k_asm)) HR'
    case q1 => exact News.isList (by k_asm) (by k_mem)
    case q2 => exact hI
    case q3 => (simpa using hn)
    case ret =>
      intro v₄ h₄ tk₄ hk₄ post₄
      obtain ⟨z, dz, e5, e6, t5, t6, n5, rfl, hz0, hdz0, hz, hdz⟩ := post₄
      have cF₄ := Fr.keeps (by k_asm) hk₄
      have cN₄ := News.grown (by k_asm) hk₄
      replace cN₄ := news_add (by k_asm) cN₄ hdz0 hdz
      replace cN₄ := news_add (by k_asm) cN₄ hz0 hz
      k_sweep
      repeat (first | walk1 | (dsimp only; walk1))
      (try dsimp only)
      refine ret_of hQ (by k_asm) ?_
      (rename News _ _ _ _ => NN)
      exact ⟨_, rfl, _, D, _, _, _, _, _, vs, _, (NN _ (.head _)).2.2, (NN _ (.tail _ (.head _))).2.2, (NN _ (.tail _ (.tail _ (.head _)))).2.2, (NN _ (.head _)).1, (NN _ (.tail _ (.head _))).1, (NN _ (.tail _ (.tail _ (.head _)))).1, hI, by simpa using hn⟩
  (run_tac sh1)

theorem c_radd {x r : Addr} {k c : Int} {tk : Tok} {ns : List Int}
    (B : Below A₀ base outer h₀) (F : Fr h₀ L s.heap m) (X : (Mine.hd.heap_39 w.params).In h₀) (T : Top p loose mean mg mb h₀) (hA : A.frames = some (env :: outer)) (hf : env.frame = some L) (hk : env.scope.kind = .function) (hd : A.depth ≤ 720) (hu : A.units ≤ 7200) (hh : A.handled = none)
    (HR : RingAt s.heap r) (HX : PolyAt s.heap r x (c :: ns))
    (hQ : Ret s Q (fun v h => ∃ z, v = .ref z ∧ PolyNew s.heap h r z ((c + k).fmod 8380417 :: ns))) :
    wpAny (model PySem.Challenge.rw_ix0027_01.row.prog w) A (call (.ref 153) [.ref x, .int k tk] []) Q E s := by
  (run_tac sh0)
  refine' enterP (binds := [(Str.ofString "self", .ref x), (Str.ofString "other", .int k tk)]) B F X T hA hf hk ?k8 ?k6 ?k7 ?k9 ?kB ?c5 ?c2 ?c3 ?c4 ?_
  case k6 => k_is
  case k7 => k_is
  case k8 => k_room
  case k9 => exact BindsTo.of_eq rfl
  case c5 => decide
  case kB => exact locs rfl
  case c2 => exact rfl
  case c3 => exact rfl
  case c4 => exact rfl
  clear B F X T hA hf hk
  intro L' h' tk' F' N' B' X' T'
  (try dsimp only)
  have HR' := HR
  have HX' := HX
  obtain ⟨dr, n2, f1, f2, f3, f4, f5, f6, g1, g2, g3, g4, g5, g6, u1, u2, v3, v4, v5, v6, hr, hdr⟩ := HR
  obtain ⟨l1, dx, e1, e2, t1, t2, n1, xs, k1, hx, hdx, hl1, hi1, hn⟩ := HX
  repeat ((fail_if_success (with_reducible refine stop_call (f := 577) ?_)); (first | walk1 | (dsimp only; walk1)))
  refine' c_paddi ?B ?F ?X ?T (frames_in ?B) ?hf ?hk ?hd ?hu ?hh ?q0 ?q1 ?ret
  case B => k_asm
  case F => k_asm
  case X => k_asm
  case T => k_asm
  case hf => rfl
  case hk => rfl
  case hd => k_room
  case hu => k_room
  case hh => first | assumption | rfl
  case q0 => exact RingAt.mono (Fr.keep (by k_asm)) HR'
  case q1 => exact PolyAt.mono (Fr.keep (by k_asm)) HX'
  case ret =>
    intro v₄ h₄ tk₄ hk₄ post₄
    obtain ⟨z, rfl, post₄⟩ := post₄
    have post₅ := PolyNew.older (Fr.keep (by k_asm)) post₄
    clear post₄
    obtain ⟨dz, lz, e5, e6, t5, t6, n5, zs, kz, hz0, hdz0, hlz0, hz, hdz, hlz, hiz, hnz⟩ := post₅
    have cF₄ := Fr.keeps (by k_asm) hk₄
    have cN₄ := News.grown (by k_asm) hk₄
    k_sweep
    repeat (first | walk1 | (dsimp only; walk1))
    (try dsimp only)
    refine ret_of hQ (by k_asm) ?_
    (rename News _ _ _ _ => NN)
    exact ⟨_, rfl, dz, lz, e5, e6, t5, t6, n5, zs, kz, hz0, hdz0, hlz0, hz, hdz, hlz, hiz, hnz⟩
  (run_tac sh1)

end

theorem fresh_26 : True := by
  w_top off
  trivial
section
variable {w : World} {A₀ A : Around} {base h₀ : Heap} {outer : List Env} {env : Env} {L : Addr} {m : Str → Option Value} {p : Program} {loose : List Str} {mean : ExcName → Option Value} {mg mb : Str → Option Value}
    {s : Shared} {Q : Value → Shared → Prop} {E : Value → Shared → Prop}
theorem stop_tail {M : Model} {A : Around} {value slice : PySem.Expr} {x y : Value} {Q : Value → Shared → Prop} {E : Value → Shared → Prop} {s : Shared} (h : wpAny M A (subscriptTail value slice x y) Q E s) : wpAny M A (subscriptTail value slice x y) Q E s := h
theorem c_br {i : Int} {ti tk : Tok}
    (B : Below A₀ base outer h₀) (F : Fr h₀ L s.heap m) (X : (Mine.hd.heap_39 w.params).In h₀) (T : Top p loose mean mg mb h₀) (hA : A.frames = some (env :: outer)) (hf : env.frame = some L) (hk : env.scope.kind = .function) (hd : A.depth ≤ 790) (hu : A.units ≤ 7900) (hh : A.handled = none)
    (hi0 : 0 ≤ i) (hi1 : i < 256)
    (hQ : Ret s Q (fun v h => ∃ j t, 0 ≤ j ∧ v = .int j t)) :
    wpAny (model PySem.Challenge.rw_ix0027_01.row.prog w) A (call (.ref 301) [.int i ti, .int 8 tk] []) Q E s := by
  (run_tac sh0)
  refine' enterP (binds := [(Str.ofString "i", .int i ti), (Str.ofString "k", .int 8 tk)]) B F X T hA hf hk ?k8 ?k6 ?k7 ?k9 ?kB ?c5 ?c2 ?c3 ?c4 ?_
  case k6 => k_is
  case k7 => k_is
  case k8 => k_room
  case k9 => exact BindsTo.of_eq rfl
  case c5 => decide
  case kB => exact locs rfl
  case c2 => exact rfl
  case c3 => exact rfl
  case c4 => exact rfl
  clear B F X T hA hf hk
  intro L' h' tk' F' N' B' X' T'
  (try dsimp only)
  obtain ⟨sT1, sT2, sT3, sT4⟩ := small_T hi0 hi1
  repeat ((fail_if_success (with_reducible refine stop_builtin (f := "bin") ?_)); (first | walk1 | (dsimp only; walk1)))
  refine' P.bin_of_int ?_ ?hsz
  case hsz => exact line_100 sT1
  generalize hx1 : baseText "0b" 2 (Builtin.bitAnd i (2 ^ Int.toNat 8 - 1)) = x1
  have hz1 : x1.length ≤ sizeLine := by rw [← hx1]; exact line_100 sT1
  repeat ((fail_if_success (with_reducible refine stop_tail ?_)); (first | walk1 | (dsimp only; walk1)))
  with_reducible rename Fr _ _ _ _ => F'
  with_reducible rename News _ _ _ _ => N'
  refine slice_strN_sn (hsz := hz1) (s := ⟨_, _, _, _, _⟩) F' N' ?_
  intro _ _ _ _ _
  have hz2 : (Txt.slice x1 (some 2) none).length ≤ sizeLine := by rw [← hx1]; exact line_100 sT2
  generalize hx2 : Txt.slice x1 (some 2) none = x2 at hz2 ⊢
  repeat ((fail_if_success (with_reducible refine stop_tail ?_)); (first | walk1 | (dsimp only; walk1)))
  have hz3 : (Txt.zfill x2 8).length ≤ sizeLine := by rw [← hx2, ← hx1]; exact line_100 sT3
  generalize hx3 : Txt.zfill x2 8 = x3 at hz3 ⊢
  with_reducible rename Fr _ _ _ _ => F'
  with_reducible rename News _ _ _ _ => N'
  refine slice_strK_nn (hsz := hz3) (s := ⟨_, _, _, _, _⟩) F' N' rfl ?_
  intro _ _ _ _ _
  repeat ((fail_if_success (with_reducible refine stop_type (f := "int") ?_)); (first | walk1 | (dsimp only; walk1)))
  rw [← hx3, ← hx2, ← hx1]
  obtain ⟨j, hj, hjr⟩ := read_some hi0 hi1 (s.toks)
  refine call_int_base2 (good_T (sT4 _)).2.1 (good_T (sT4 _)).2.2.1 hjr (good_T (sT4 _)).2.2.2 ?_
  repeat (first | walk1 | (dsimp only; walk1))
  (try dsimp only)
  exact ret_of hQ (by k_asm) (⟨j, _, hj, rfl⟩)
  (run_tac sh1)

end

theorem fresh_27 : True := by
  w_top off
  trivial
section
variable {w : World} {A₀ A : Around} {base h₀ : Heap} {outer : List Env} {env : Env} {L : Addr} {m : Str → Option Value} {p : Program} {loose : List Str} {mean : ExcName → Option Value} {mg mb : Str → Option Value}
    {s : Shared} {Q : Value → Shared → Prop} {E : Value → Shared → Prop}
inductive RowList (g h : Heap) (v : Value) : Prop
  | mk (l : Addr) (vs : List Value) (ns : List Int) (k : Nat) (p : g.get? l = none) (hv : v = .ref l) (a : h.get? l = some (listOf (List.toArray vs) k)) (i : IntsAre vs ns) (e : ns.length = 256) (f : Small ns) : RowList g h v
theorem ints_snoc {ys : List Value} {ns : List Int} {n : Int} {t : Tok} (h : IntsAre ys ns) : IntsAre (ys ++ [.int n t]) (ns ++ [n]) := h.append (by constructor; exact .nil)
def RowJ (i₀ j : Int) (ti tj : Tok) (i : Nat) (m : Str → Option Value) (news : List (Addr × Obj)) : Prop :=
  ∃ (l : Addr) (rest : Int) (tr : Tok) (pv : Option Value) (ys : List Value) (ns : List Int) (k : Nat), 0 ≤ rest ∧ IntsAre ys ns ∧ ns.length = i ∧ Small ns ∧ news = [(l, listOf ys.toArray k)] ∧
    m = fun y => if y = Str.ofString "rest" then some (.int rest tr) else if y = Str.ofString "place" then pv else if y = Str.ofString "row" then some (.ref l) else List.lookup y [(Str.ofString "number", Value.int i₀ ti), (Str.ofString "shift", Value.int j tj)].reverse
theorem RowJ.start {i₀ j : Int} {ti tj : Tok} {l : Addr} {a : Int} {t : Tok} (h : 0 ≤ a) : RowJ i₀ j ti tj 0 (fun y => if y = Str.ofString "rest" then some (.int a t) else if y = Str.ofString "row" then some (.ref l) else List.lookup y [(Str.ofString "number", Value.int i₀ ti), (Str.ofString "shift", Value.int j tj)].reverse) [(l, listOf #[] 0)] := by
  (run_tac sh0)
  refine ⟨l, a, t, none, [], [], 0, h, .nil, rfl, (fun _ h => absurd h List.not_mem_nil), rfl, ?_⟩
  funext y
  by_cases h1 : y = Str.ofString "place"
  · subst h1; rfl
  · simp only [h1, if_false]
  (run_tac sh1)
theorem RowJ.step {i₀ j : Int} {ti tj tr t1 t2 tn : Tok} {n : Nat} {l : Addr} {rest : Int} {pv : Option Value} {ys : List Value} {ns : List Int} {k : Nat} (hr0 : 0 ≤ rest) (hys : IntsAre ys ns) (hlen : ns.length = n) (hsm : Small ns) (hj0 : 0 ≤ j) (hj1 : j ≤ 100) (hn : n < 256) :
    RowJ i₀ j ti tj (n + 1) (fun y => if y = Str.ofString "rest" then some (.int (rest.fdiv 16777216) t1) else if y = Str.ofString "place" then some (.int (n : Int) tn) else if y = Str.ofString "rest" then some (.int rest tr) else if y = Str.ofString "place" then pv else if y = Str.ofString "row" then some (.ref l) else List.lookup y [(Str.ofString "number", Value.int i₀ ti), (Str.ofString "shift", Value.int j tj)].reverse)
      [(l, listOf (ys.toArray.push (.int (rest.fmod 16777216 + (n : Int) * j) t2)) (k + 1))] := by
  (run_tac sh0)
  refine ⟨l, rest.fdiv 16777216, t1, some (.int (n : Int) tn), ys ++ [.int (rest.fmod 16777216 + (n : Int) * j) t2], ns ++ [rest.fmod 16777216 + (n : Int) * j], k + 1, ?_, ints_snoc hys, by rw [List.length_append, hlen]; rfl, ?_, by rw [List.push_toArray], ?_⟩
  · rw [Int.fdiv_eq_ediv_of_nonneg _ (by decide)]; exact Int.ediv_nonneg hr0 (by decide)
  · intro c hc
    rcases List.mem_append.mp hc with hc | hc
    · exact hsm c hc
    · rw [List.mem_singleton.mp hc]
      have h1 := fmod_lo rest (n := 16777216) (by decide)
      have h2 := fmod_hi rest (n := 16777216) (by decide)
      have h3 : (n : Int) * j ≤ 256 * 100 := Int.mul_le_mul (by omega) hj1 hj0 (by decide)
      have h4 : 0 ≤ (n : Int) * j := Int.mul_nonneg (by omega) hj0
      omega
  · funext y
    by_cases h1 : y = Str.ofString "rest"
    · simp only [h1, if_true]
    · by_cases h2 : y = Str.ofString "place"
      · simp only [h1, if_false]
        simp only [h2, if_true]
      · simp only [h1, h2, if_false]
  (run_tac sh1)
theorem c_row {i j : Int} {ti tj : Tok}
    (B : Below A₀ base outer h₀) (F : Fr h₀ L s.heap m) (X : (Mine.hd.heap_39 w.params).In h₀) (T : Top p loose mean mg mb h₀) (hA : A.frames = some (env :: outer)) (hf : env.frame = some L) (hk : env.scope.kind = .function) (hd : A.depth ≤ 790) (hu : A.units ≤ 7900) (hh : A.handled = none)
    (hj0 : 0 ≤ j) (hj1 : j ≤ 100)
    (hQ : Ret s Q (fun v h => RowList s.heap h v)) :
    wpAny (model PySem.Challenge.rw_ix0027_01.row.prog w) A (call (.ref 999) [.int i ti, .int j tj] []) Q E s := by
  (run_tac sh0)
  refine' enterP (binds := [(Str.ofString "number", .int i ti), (Str.ofString "shift", .int j tj)]) B F X T hA hf hk ?k8 ?k6 ?k7 ?k9 ?kB ?c5 ?c2 ?c3 ?c4 ?_
  case k6 => k_is
  case k7 => k_is
  case k8 => k_room
  case k9 => exact BindsTo.of_eq rfl
  case c5 => decide
  case kB => exact locs rfl
  case c2 => exact rfl
  case c3 => exact rfl
  case c4 => exact rfl
  clear B F X T hA hf hk
  intro L' h' tk' F' N' B' X' T'
  (try dsimp only)
  repeat ((fail_if_success (with_reducible refine stop_pyIter ?_)); (first | walk1 | (dsimp only; walk1)))
  refine' rng_loop 256 (RowJ i j ti tj) ?hh ?hr ?hs ?hn ?F ?N ?h0 ?turn ?done
  case hh => assumption
  case hr => assumption
  case hs => decide
  case hn => rfl
  case F => k_asm
  case N => k_asm
  case h0 =>
    exact RowJ.start (by split <;> omega)
  case turn =>
    rintro n tn m₁ news₁ h₁ tk₁ I oI hn ⟨l, rest, tr, pv, ys, ns, k, hr0, hys, hlen, hsm, rfl, rfl⟩ hne F₁ N₁
    have hlI := hne _ (.head _)
    dsimp only at hlI
    k_sweep
    repeat (first | walk1 | (dsimp only; walk1))
    (try dsimp only)
    with_reducible rename Fr _ _ _ _ => F₂
    with_reducible rename News _ _ _ _ => N₂
    exact ⟨_, _, _, _, rfl, F₂, N₂, (fun p hp => by rw [List.mem_singleton.mp hp]; exact hlI), RowJ.step hr0 hys hlen hsm hj0 hj1 hn⟩
  case done =>
    rintro h₁ tk₁ m₁ news₁ F₁ N₁ ⟨l, rest, tr, pv, ys, ns, k, hr0, hys, hlen, hsm, rfl, rfl⟩
    k_sweep
    repeat (first | walk1 | (dsimp only; walk1))
    (try dsimp only)
    exact ret_of hQ (by k_asm) ⟨l, ys, ns, k, (N₁ _ (.head _)).2.2, rfl, (N₁ _ (.head _)).1, hys, hlen, hsm⟩
  (run_tac sh1)

end

section
theorem fresh_28 : True := by
  w_top off
  trivial
abbrev matD (p : Addr) (d : Value) (b : Bool) (e1 e2 e3 : Int) (t1 t2 t3 : Tok) (n : Nat) : Obj := dictOf [⟨e1, .str (Str.ofString "parent") t1, .ref p⟩, ⟨e2, .str (Str.ofString "_data") t2, d⟩, ⟨e3, .str (Str.ofString "_transpose") t3, .bool b⟩] n
inductive MatNew (g h : Heap) (md D : Addr) (b : Bool) (v : Value) : Prop
  | mk (M dM : Addr) (e1 e2 e3 : Int) (t1 t2 t3 : Tok) (n : Nat) (hv : v = .ref M) (p1 : g.get? M = none) (p2 : g.get? dM = none) (a : h.get? M = some (instObj 886 dM)) (c : h.get? dM = some (matD md (.ref D) b e1 e2 e3 t1 t2 t3 n)) : MatNew g h md D b v
inductive VecNew (g h : Heap) (md row : Addr) (v : Value) : Prop
  | mk (M dM D : Addr) (e1 e2 e3 : Int) (t1 t2 t3 : Tok) (n k1 : Nat) (hv : v = .ref M) (p1 : g.get? M = none) (p2 : g.get? dM = none) (p3 : g.get? D = none) (a : h.get? M = some (instObj 907 dM)) (c : h.get? dM = some (matD md (.ref D) true e1 e2 e3 t1 t2 t3 n)) (d : h.get? D = some (listOf #[.ref row] k1)) : VecNew g h md row v
theorem at_MethodCallKW {M : Model} {A : Around} {c : Code} {env : Env} {E : Value → Shared → Prop} {s : Shared} {o : PySem.Expr} {name : Str} {apos pos : Pos} {args : List PySem.Expr} {kw : Keyword} {kws : List Keyword} {pl : Sem Bool} {Q : Value → Shared → Prop}
    (h : PySem.wpAt M A c (attributeBase o name env (eval o env)) (fun ov s₁ => wpAny M A (getMethod ov name pl) (fun fx s₂ => wpAny M A (callWith pos fx.1 fx.2 (backTo pos (starEach args env)) (backToKw pos (keywordEach (kw :: kws) env))) Q E s₂) E s₁) E s)
    (he : eval (.Call (.Attribute o name apos) args (kw :: kws) pos) env = (do
      let ov ← attributeBase o name env (eval o env)
      standAt apos.atName
      let (f, first) ← holding [ov] (getMethod ov name pl)
      callWith pos f first (backTo pos (starEach args env)) (backToKw pos (keywordEach (kw :: kws) env))) := by rfl) :
    PySem.wpAt M A c (eval (.Call (.Attribute o name apos) args (kw :: kws) pos) env) Q E s := by
  rw [he]
  refine PySem.wpAt_bind (PySem.wpAt_mono h (fun ov s₁ h₁ => PySem.wpAt_of_wpAny (wpAny_bind (wpAny_standAt (wpAny_bind (wpAny_holding (wpAny_mono h₁ (fun fx s₂ h₂ => ?_) fun _ _ x => x)))))) fun _ _ x => x)
  exact h₂
theorem callWithM_KW {M : Model} {A : Around} {E : Value → Shared → Prop} {s : Shared} {K : Frag} {env : Env} {pos : Pos} {first : List Value} {Q : Value → Shared → Prop} {h₀ : Heap} {L : Addr} {news : List (Addr × Obj)} {q g : Addr} {self : Value} {e : PySem.Expr} {rest : List PySem.Expr} {kws : List Keyword}
    (_X : K.In h₀) (_N : News h₀ L s.heap news) (_q : (q, methodObj (.ref g) self) ∈ news) (hf : fnIn K g = true) (hall : (backToKw pos (keywordEach kws env)).all (·.1.isSome) = true)
    (h : wpAny M A (spliced (backTo pos (starEach (e :: rest) env))) (fun vs s₁ => wpAny M A (evalAll ((backToKw pos (keywordEach kws env)).map (·.2)))
      (fun ks s₂ => MethP K q g self s₂.heap ∧ wpAny M A (call (.ref q) (first ++ vs) (((backToKw pos (keywordEach kws env)).filterMap (·.1)).zip ks)) Q E s₂) E s₁) E s)
    (hplain : ((backTo pos (starEach (e :: rest) env)).any (·.1) || (backToKw pos (keywordEach kws env)).any (·.1.isNone)) = false := by rfl) (he : starEach (e :: rest) env = (false, eval e env) :: starEach rest env := by rfl) :
    wpAny M A (callWith pos (.ref q) first (backTo pos (starEach (e :: rest) env)) (backToKw pos (keywordEach kws env))) Q E s :=
  callWith_of hplain (keeps_M hf) (evalArgs_kw2 hall h he)
local macro_rules | `(tactic| walk_at "callWith ref") => `(tactic| (k_here; k_dflt (refine' callWithM_KW ?k1 ?k2 ?k3 ?k4 ?k5 ?_; (case k1 => k_asm); (case k2 => k_asm); (case k3 => k_mem); (case k4 => k_is); (case k5 => exact rfl); k_whole)))
theorem stop_setX {M : Model} {A : Around} {f : String} {pos : List Value} {kw : List (Str × Value)} {Q : Value → Shared → Prop} {E : Value → Shared → Prop} {s : Shared} (h : wpAny M A (call (.type f) pos kw) Q E s) : wpAny M A (call (.type f) pos kw) Q E s := h
section
variable {w : World} {A₀ A : Around} {base h₀ : Heap} {outer : List Env} {env : Env} {L : Addr} {m : Str → Option Value} {p : Program} {loose : List Str} {mean : ExcName → Option Value} {mg mb : Str → Option Value}
    {s : Shared} {Q : Value → Shared → Prop} {E : Value → Shared → Prop}
theorem c_matof {md D row : Addr} {vs : List Value} {b : Bool} {k1 k2 : Nat}
    (B : Below A₀ base outer h₀) (F : Fr h₀ L s.heap m) (X : (Mine.hd.heap_39 w.params).In h₀) (T : Top p loose mean mg mb h₀) (hA : A.frames = some (env :: outer)) (hf : env.frame = some L) (hk : env.scope.kind = .function) (hd : A.depth ≤ 780) (hu : A.units ≤ 7800) (hh : A.handled = none)
    (hD : s.heap.get? D = some (listOf #[.ref row] k1)) (hrow : s.heap.get? row = some (listOf vs.toArray k2)) (hlen : vs.length ≤ 2)
    (hQ : Ret s Q (fun v h => MatNew s.heap h md D b v)) :
    wpAny (model PySem.Challenge.rw_ix0027_01.row.prog w) A (call (.ref 931) [.ref md, .ref D] [(Str.ofString "transpose", .bool b)]) Q E s := by
  (run_tac sh0)
  refine' enterP (binds := [(Str.ofString "self", .ref md), (Str.ofString "data", .ref D), (Str.ofString "transpose", .bool b)]) B F X T hA hf hk ?k8 ?k6 ?k7 ?k9 ?kB ?c5 ?c2 ?c3 ?c4 ?_
  case k6 => k_is
  case k7 => k_is
  case k8 => k_room
  case k9 => exact binds_K (X.keeps F.keep) rfl (by k_is) rfl rfl rfl
  case c5 => decide
  case kB => exact locs rfl
  case c2 => exact rfl
  case c3 => exact rfl
  case c4 => exact rfl
  clear B F X T hA hf hk
  intro L' h' tk' F' N' B' X' T'
  (try dsimp only)
  repeat ((fail_if_success (with_reducible refine stop_Comp ?_)); (first | (ks_step "exec Expr"; refine ks_wpAt_Expr_any ?_ (by rfl) (by with_unfolding_all rfl)) | (ks_step "eval Call"; refine at_MethodCallKW ?_ (by with_unfolding_all rfl)) | walk1 | (dsimp only; walk1)))
  refine' mv_ListComp ?hh ?hclos ?hcell ?hkind ?hnames ?hx ?_
  case hh => assumption
  case hclos => with_unfolding_all rfl
  case hcell => decide
  case hkind => rfl
  case hnames => decide
  case hx => rfl
  repeat ((fail_if_success (with_reducible refine stop_MV ?_)); (first | (ks_step "exec Expr"; refine ks_wpAt_Expr_any ?_ (by rfl) (by with_unfolding_all rfl)) | (ks_step "eval Call"; refine at_MethodCallKW ?_ (by with_unfolding_all rfl)) | walk1 | (dsimp only; walk1)))
  refine' MV.intro (fun _ y => ∃ t, y = .int (vs.length : Nat) t) (vs := [.ref row]) ?hl ?hsz ?helt ?hQ
  case hl => exact isList_of (by first | exact hD | exact (Fr.keep (by assumption) _ _ hD) | exact (Fr.keep (by assumption) _ _ (Fr.keep (by assumption) _ _ hD)) | exact (Fr.keep (by assumption) _ _ (Fr.keep (by assumption) _ _ (Fr.keep (by assumption) _ _ hD))) | exact (Fr.keep (by assumption) _ _ (Fr.keep (by assumption) _ _ (Fr.keep (by assumption) _ _ (Fr.keep (by assumption) _ _ hD)))) | exact (Fr.keep (by assumption) _ _ (Fr.keep (by assumption) _ _ (Fr.keep (by assumption) _ _ (Fr.keep (by assumption) _ _ (Fr.keep (by assumption) _ _ hD))))) | exact (Fr.keep (by assumption) _ _ (Fr.keep (by assumption) _ _ (Fr.keep (by assumption) _ _ (Fr.keep (by assumption) _ _ (Fr.keep (by assumption) _ _ (Fr.keep (by assumption) _ _ hD)))))))
  case hsz => exact (by decide : 1 ≤ sizeLine)
  case helt =>
    intro C v' s₃ m₃ E' hv hC hN ha hk₃
    have hv' : v' = .ref row := by simpa using hv
    subst hv'
    have hr₃ := hk₃ _ _ (by first | exact hrow | exact (Fr.keep (by assumption) _ _ hrow) | exact (Fr.keep (by assumption) _ _ (Fr.keep (by assumption) _ _ hrow)) | exact (Fr.keep (by assumption) _ _ (Fr.keep (by assumption) _ _ (Fr.keep (by assumption) _ _ hrow))) | exact (Fr.keep (by assumption) _ _ (Fr.keep (by assumption) _ _ (Fr.keep (by assumption) _ _ (Fr.keep (by assumption) _ _ hrow)))) | exact (Fr.keep (by assumption) _ _ (Fr.keep (by assumption) _ _ (Fr.keep (by assumption) _ _ (Fr.keep (by assumption) _ _ (Fr.keep (by assumption) _ _ hrow))))) | exact (Fr.keep (by assumption) _ _ (Fr.keep (by assumption) _ _ (Fr.keep (by assumption) _ _ (Fr.keep (by assumption) _ _ (Fr.keep (by assumption) _ _ (Fr.keep (by assumption) _ _ hrow)))))))
    have cF := Fr.keeps (by k_asm) hk₃
    have cN := News.grown (by k_asm) hk₃
    repeat ((fail_if_success (with_reducible refine stop_builtin (f := "len") ?_)); (first | (ks_step "exec Expr"; refine ks_wpAt_Expr_any ?_ (by rfl) (by with_unfolding_all rfl)) | (ks_step "eval Call"; refine at_MethodCallKW ?_ (by with_unfolding_all rfl)) | walk1 | (dsimp only; walk1)))
    refine call_len_list (isList_of hr₃) (by simp; omega) ?_
    rw [List.size_toArray]
    exact ⟨⟨_, rfl⟩, _, _, rfl, fun _ _ e => e⟩
  case hQ =>
    intro Dn h'' tk'' ys kk hDn0 hDn hI hk''
    obtain ⟨y, rfl, t, rfl⟩ : ∃ y, ys = [y] ∧ ∃ t, y = .int (vs.length : Nat) t := by
      cases hI with
      | cons h1 h2 => cases h2; exact ⟨_, rfl, h1⟩
    have cF := Fr.keeps (by k_asm) hk''
    have cN := news_add (by k_asm) (News.grown (by k_asm) hk'') hDn0 hDn
    repeat ((fail_if_success (with_reducible refine stop_type (f := "set") ?_)); (first | (ks_step "exec Expr"; refine ks_wpAt_Expr_any ?_ (by rfl) (by with_unfolding_all rfl)) | (ks_step "eval Call"; refine at_MethodCallKW ?_ (by with_unfolding_all rfl)) | walk1 | (dsimp only; walk1)))
    refine' PySem.call_set_list (items := #[.int (vs.length : Nat) t]) (ns := [((vs.length : Nat) : Int)]) ?hh ?hl ?hi ?hb ?_
    case hh => assumption
    case hl => exact isList_of (vs := [_]) hDn
    case hi => exact IntsAre.cons _ _ IntsAre.nil
    case hb => exact (by decide : 1 + 1 < scanBound)
    intro h₅ tk₅ hS hk₅
    obtain ⟨so, hso0, hso⟩ := hS.objOf
    have kk₅ : ∀ b o, h''.get? b = some o → h₅.get? b = some o := fun b o e => hk₅ b o (Heap.lt_size e) e
    have cF₅ := Fr.keeps cF kk₅
    have cN₅ := news_add cF (News.grown cN kk₅) (Heap.get?_none_of_le (Nat.le_refl _)) hso0
    repeat ((fail_if_success (with_reducible refine stop_builtin (f := "len") ?_)); (first | (ks_step "exec Expr"; refine ks_wpAt_Expr_any ?_ (by rfl) (by with_unfolding_all rfl)) | (ks_step "eval Call"; refine at_MethodCallKW ?_ (by with_unfolding_all rfl)) | walk1 | (dsimp only; walk1)))
    refine' len_sl1 (own := []) (n := 1) ?hN hso ?hfit ?_
    case hN => exact cN₅
    case hfit => decide
    k_sweep
    repeat (first | (ks_step "exec Expr"; refine ks_wpAt_Expr_any ?_ (by rfl) (by with_unfolding_all rfl)) | (ks_step "eval Call"; refine at_MethodCallKW ?_ (by with_unfolding_all rfl)) | walk1 | (dsimp only; walk1))
    (try dsimp only)
    refine' ret_of hQ (by k_asm) ⟨_, _, _, _, _, _, _, _, _, rfl, ?n1, ?n2, ?g1, ?g2⟩
    case g1 => exact News.get (by k_asm) (by k_mem)
    case g2 => exact News.get (by k_asm) (by k_mem)
    case n1 => exact News.fresh (o := instObj 886 _) (by k_asm) (by k_mem)
    case n2 => exact News.fresh (o := matD _ _ _ _ _ _ _ _ _ _) (by k_asm) (by k_mem)
  (run_tac sh1)

theorem c_vector {md row : Addr} {vs : List Value} {k2 : Nat}
    (B : Below A₀ base outer h₀) (F : Fr h₀ L s.heap m) (X : (Mine.hd.heap_39 w.params).In h₀) (T : Top p loose mean mg mb h₀) (hA : A.frames = some (env :: outer)) (hf : env.frame = some L) (hk : env.scope.kind = .function) (hd : A.depth ≤ 780) (hu : A.units ≤ 7800) (hh : A.handled = none)
    (hrow : s.heap.get? row = some (listOf vs.toArray k2)) (hlen : vs.length ≤ 2)
    (hQ : Ret s Q (fun v h => VecNew s.heap h md row v)) :
    wpAny (model PySem.Challenge.rw_ix0027_01.row.prog w) A (call (.ref 938) [.ref md, .ref row] []) Q E s := by
  (run_tac sh0)
  refine' enterP (binds := [(Str.ofString "self", .ref md), (Str.ofString "elements", .ref row)]) B F X T hA hf hk ?k8 ?k6 ?k7 ?k9 ?kB ?c5 ?c2 ?c3 ?c4 ?_
  case k6 => k_is
  case k7 => k_is
  case k8 => k_room
  case k9 => exact BindsTo.of_eq rfl
  case c5 => decide
  case kB => exact locs rfl
  case c2 => exact rfl
  case c3 => exact rfl
  case c4 => exact rfl
  clear B F X T hA hf hk
  intro L' h' tk' F' N' B' X' T'
  (try dsimp only)
  repeat ((fail_if_success (with_reducible refine stop_Comp ?_)); (first | (ks_step "exec Expr"; refine ks_wpAt_Expr_any ?_ (by rfl) (by with_unfolding_all rfl)) | (ks_step "eval Call"; refine at_MethodCallKW ?_ (by with_unfolding_all rfl)) | walk1 | (dsimp only; walk1)))
  refine' mv_ListComp ?hh ?hclos ?hcell ?hkind ?hnames ?hx ?_
  case hh => assumption
  case hclos => with_unfolding_all rfl
  case hcell => decide
  case hkind => rfl
  case hnames => decide
  case hx => rfl
  repeat ((fail_if_success (with_reducible refine stop_MV ?_)); (first | (ks_step "exec Expr"; refine ks_wpAt_Expr_any ?_ (by rfl) (by with_unfolding_all rfl)) | (ks_step "eval Call"; refine at_MethodCallKW ?_ (by with_unfolding_all rfl)) | walk1 | (dsimp only; walk1)))
  refine' MV.intro (fun _ y => ∃ t, y = .int (vs.length : Nat) t) (vs := [.ref row]) ?hl ?hsz ?helt ?hQ
  case hl => exact News.isList (by k_asm) (by k_mem)
  case hsz => exact (by decide : 1 ≤ sizeLine)
  case helt =>
    intro C v' s₃ m₃ E' hv hC hN ha hk₃
    have hv' : v' = .ref row := by simpa using hv
    subst hv'
    have hr₃ := hk₃ _ _ (by first | exact hrow | exact (Fr.keep (by assumption) _ _ hrow) | exact (Fr.keep (by assumption) _ _ (Fr.keep (by assumption) _ _ hrow)) | exact (Fr.keep (by assumption) _ _ (Fr.keep (by assumption) _ _ (Fr.keep (by assumption) _ _ hrow))) | exact (Fr.keep (by assumption) _ _ (Fr.keep (by assumption) _ _ (Fr.keep (by assumption) _ _ (Fr.keep (by assumption) _ _ hrow)))) | exact (Fr.keep (by assumption) _ _ (Fr.keep (by assumption) _ _ (Fr.keep (by assumption) _ _ (Fr.keep (by assumption) _ _ (Fr.keep (by assumption) _ _ hrow))))) | exact (Fr.keep (by assumption) _ _ (Fr.keep (by assumption) _ _ (Fr.keep (by assumption) _ _ (Fr.keep (by assumption) _ _ (Fr.keep (by assumption) _ _ (Fr.keep (by assumption) _ _ hrow)))))))
    have cF := Fr.keeps (by k_asm) hk₃
    have cN := News.grown (by k_asm) hk₃
    repeat ((fail_if_success (with_reducible refine stop_builtin (f := "len") ?_)); (first | (ks_step "exec Expr"; refine ks_wpAt_Expr_any ?_ (by rfl) (by with_unfolding_all rfl)) | (ks_step "eval Call"; refine at_MethodCallKW ?_ (by with_unfolding_all rfl)) | walk1 | (dsimp only; walk1)))
    refine call_len_list (isList_of hr₃) (by simp; omega) ?_
    rw [List.size_toArray]
    exact ⟨⟨_, rfl⟩, _, _, rfl, fun _ _ e => e⟩
  case hQ =>
    intro Dn h'' tk'' ys kk hDn0 hDn hI hk''
    obtain ⟨y, rfl, t, rfl⟩ : ∃ y, ys = [y] ∧ ∃ t, y = .int (vs.length : Nat) t := by
      cases hI with
      | cons h1 h2 => cases h2; exact ⟨_, rfl, h1⟩
    have cF := Fr.keeps (by k_asm) hk''
    have cN := news_add (by k_asm) (News.grown (by k_asm) hk'') hDn0 hDn
    repeat ((fail_if_success (with_reducible refine stop_type (f := "set") ?_)); (first | (ks_step "exec Expr"; refine ks_wpAt_Expr_any ?_ (by rfl) (by with_unfolding_all rfl)) | (ks_step "eval Call"; refine at_MethodCallKW ?_ (by with_unfolding_all rfl)) | walk1 | (dsimp only; walk1)))
    refine' PySem.call_set_list (items := #[.int (vs.length : Nat) t]) (ns := [((vs.length : Nat) : Int)]) ?hh ?hl ?hi ?hb ?_
    case hh => assumption
    case hl => exact isList_of (vs := [_]) hDn
    case hi => exact IntsAre.cons _ _ IntsAre.nil
    case hb => exact (by decide : 1 + 1 < scanBound)
    intro h₅ tk₅ hS hk₅
    obtain ⟨so, hso0, hso⟩ := hS.objOf
    have kk₅ : ∀ b o, h''.get? b = some o → h₅.get? b = some o := fun b o e => hk₅ b o (Heap.lt_size e) e
    have cF₅ := Fr.keeps cF kk₅
    have cN₅ := news_add cF (News.grown cN kk₅) (Heap.get?_none_of_le (Nat.le_refl _)) hso0
    repeat ((fail_if_success (with_reducible refine stop_builtin (f := "len") ?_)); (first | (ks_step "exec Expr"; refine ks_wpAt_Expr_any ?_ (by rfl) (by with_unfolding_all rfl)) | (ks_step "eval Call"; refine at_MethodCallKW ?_ (by with_unfolding_all rfl)) | walk1 | (dsimp only; walk1)))
    refine' len_sl1 (own := []) (n := 1) ?hN hso ?hfit ?_
    case hN => exact cN₅
    case hfit => decide
    k_sweep
    repeat (first | (ks_step "exec Expr"; refine ks_wpAt_Expr_any ?_ (by rfl) (by with_unfolding_all rfl)) | (ks_step "eval Call"; refine at_MethodCallKW ?_ (by with_unfolding_all rfl)) | walk1 | (dsimp only; walk1))
    (try dsimp only)
    refine' ret_of hQ (by k_asm) ⟨_, _, _, _, _, _, _, _, _, _, _, rfl, ?n1, ?n2, ?n3, ?g1, ?g2, ?g3⟩
    case g1 => exact News.get (by k_asm) (by k_mem)
    case g2 => exact News.get (by k_asm) (by k_mem)
    case g3 => exact News.get (by k_asm) (by k_mem)
    case n1 => exact News.fresh (o := instObj 907 _) (by k_asm) (by k_mem)
    case n2 => exact News.fresh (o := matD _ _ _ _ _ _ _ _ _ _) (by k_asm) (by k_mem)
    case n3 => exact News.fresh (o := listOf #[.ref row] _) (by k_asm) (by k_mem)
  (run_tac sh1)

end
end

theorem fresh_29 : True := by
  w_top off
  trivial
theorem item_any {prog : Program} {w : World} {A : Around} {E : Value → Shared → Prop} {s : Shared} {value slice : PySem.Expr} {l : Addr} {vs : List Value} {k : Int} {u : Tok} {v : Value} {Q : Value → Shared → Prop}
    (hl : s.heap.IsList l vs.toArray) (h0 : 0 ≤ k) (hhi : k < 2 ^ 63) (hx : vs[k.toNat]? = some v) (h : Q v s)
    (hs : subscripted slice false (.ref l) (.int k u) = operate [.ref l, .int k u] (getItem (.ref l) (.int k u)) := by with_unfolding_all rfl) :
    wpAny (model prog w) A (subscriptTail value slice (.ref l) (.int k u)) Q E s :=
  tail_any hl.typeIs slot_list_getitem.lookup (wpAny_getItem_list hl h0 hhi (by simpa using hx) h) hs
theorem len_any {prog : Program} {w : World} {A : Around} {E : Value → Shared → Prop} {s : Shared} {l : Addr} {vs : List Value} {Q : Value → Shared → Prop} (n : Int) (hl : s.heap.IsList l vs.toArray) (hn : ((vs.length : Nat) : Int) = n) (hfit : n < 2 ^ 63)
    (h : Q (.int n (s.toks + 1)) { s with toks := s.toks + 1 + 1 }) : wpAny (model prog w) A (call (.builtin "len") [.ref l]) Q E s := by
  subst hn
  exact call_len_list hl (by simpa using hfit) (by simpa using h)
theorem len_tup2 {prog : Program} {w : World} {A : Around} {E : Value → Shared → Prop} {s : Shared} {t : Addr} {a b : Value} {Q : Value → Shared → Prop} (ht : IsTup s.heap t #[a, b])
    (h : Q (.int 2 (s.toks + 1)) { s with toks := s.toks + 1 + 1 }) : wpAny (model prog w) A (call (.builtin "len") [.ref t]) Q E s := len_tuple ht (by show ((2 : Nat) : Int) < 2 ^ 63; decide) h
abbrev pairOf (a b : Value) : Obj := { cls := .type "tuple", data := .seq #[a, b] }
inductive DimNew (g h : Heap) (x y : Int) (v : Value) : Prop
  | mk (T : Addr) (ta tb : Tok) (hv : v = .ref T) (p : g.get? T = none) (a : h.get? T = some (pairOf (.int x ta) (.int y tb))) : DimNew g h x y v
section
variable {w : World} {A₀ A : Around} {base h₀ : Heap} {outer : List Env} {env : Env} {L : Addr} {m : Str → Option Value} {p : Program} {loose : List Str} {mean : ExcName → Option Value} {mg mb : Str → Option Value}
    {s : Shared} {Q : Value → Shared → Prop} {E : Value → Shared → Prop}
theorem c_isel {r z dz : Addr} {od : Obj}
    (B : Below A₀ base outer h₀) (F : Fr h₀ L s.heap m) (X : (Mine.hd.heap_39 w.params).In h₀) (T : Top p loose mean mg mb h₀) (hA : A.frames = some (env :: outer)) (hf : env.frame = some L) (hk : env.scope.kind = .function) (hd : A.depth ≤ 790) (hu : A.units ≤ 7900) (hh : A.handled = none)
    (hz : s.heap.get? z = some (instObj 592 dz)) (hdz : s.heap.get? dz = some od)
    (hQ : Ret s Q (fun v h => v = .bool true)) :
    wpAny (model PySem.Challenge.rw_ix0027_01.row.prog w) A (call (.ref 389) [.ref r, .ref z] []) Q E s := by
  (run_tac sh0)
  refine' enterP (binds := [(Str.ofString "self", .ref r), (Str.ofString "value", .ref z)]) B F X T hA hf hk ?k8 ?k6 ?k7 ?k9 ?kB ?c5 ?c2 ?c3 ?c4 ?_
  case k6 => k_is
  case k7 => k_is
  case k8 => k_room
  case k9 => exact BindsTo.of_eq rfl
  case c5 => decide
  case kB => exact locs rfl
  case c2 => exact rfl
  case c3 => exact rfl
  case c4 => exact rfl
  clear B F X T hA hf hk
  intro L' h' tk' F' N' B' X' T'
  (try dsimp only)
  repeat (first | walk1 | (dsimp only; walk1))
  (try dsimp only)
  exact ret_of hQ (by k_asm) (rfl)
  (run_tac sh1)

theorem c_dim886f {M dM md D row : Addr} {e1 e2 e3 : Int} {t1 t2 t3 : Tok} {n k1 k2 : Nat} {vs : List Value}
    (B : Below A₀ base outer h₀) (F : Fr h₀ L s.heap m) (X : (Mine.hd.heap_39 w.params).In h₀) (T : Top p loose mean mg mb h₀) (hA : A.frames = some (env :: outer)) (hf : env.frame = some L) (hk : env.scope.kind = .function) (hd : A.depth ≤ 790) (hu : A.units ≤ 7900) (hh : A.handled = none)
    (hM : s.heap.get? M = some (instObj 886 dM)) (hdM : s.heap.get? dM = some (matD md (.ref D) false e1 e2 e3 t1 t2 t3 n)) (hD : s.heap.get? D = some (listOf #[.ref row] k1)) (hrow : s.heap.get? row = some (listOf vs.toArray k2)) (hlen : vs.length ≤ 2)
    (hQ : Ret s Q (fun v h => DimNew s.heap h 1 (vs.length : Nat) v)) :
    wpAny (model PySem.Challenge.rw_ix0027_01.row.prog w) A (call (.ref 621) [.ref M] []) Q E s := by
  (run_tac sh0)
  refine' enterP (binds := [(Str.ofString "self", .ref M)]) B F X T hA hf hk ?k8 ?k6 ?k7 ?k9 ?kB ?c5 ?c2 ?c3 ?c4 ?_
  case k6 => k_is
  case k7 => k_is
  case k8 => k_room
  case k9 => exact BindsTo.of_eq rfl
  case c5 => decide
  case kB => exact locs rfl
  case c2 => exact rfl
  case c3 => exact rfl
  case c4 => exact rfl
  clear B F X T hA hf hk
  intro L' h' tk' F' N' B' X' T'
  (try dsimp only)
  repeat ((fail_if_success (with_reducible refine stop_builtin (f := "len") ?_)); (first | walk1 | (dsimp only; walk1)))
  refine len_any (vs := [.ref row]) (1) (isList_of (by first | exact hD | exact (Fr.keep (by assumption) _ _ hD) | exact (Fr.keep (by assumption) _ _ (Fr.keep (by assumption) _ _ hD)) | exact (Fr.keep (by assumption) _ _ (Fr.keep (by assumption) _ _ (Fr.keep (by assumption) _ _ hD))) | exact (Fr.keep (by assumption) _ _ (Fr.keep (by assumption) _ _ (Fr.keep (by assumption) _ _ (Fr.keep (by assumption) _ _ hD)))) | exact (Fr.keep (by assumption) _ _ (Fr.keep (by assumption) _ _ (Fr.keep (by assumption) _ _ (Fr.keep (by assumption) _ _ (Fr.keep (by assumption) _ _ hD))))) | exact (Fr.keep (by assumption) _ _ (Fr.keep (by assumption) _ _ (Fr.keep (by assumption) _ _ (Fr.keep (by assumption) _ _ (Fr.keep (by assumption) _ _ (Fr.keep (by assumption) _ _ hD)))))))) (rfl) (by decide) ?_
  repeat ((fail_if_success (with_reducible refine stop_tail ?_)); (first | walk1 | (dsimp only; walk1)))
  refine item_any (vs := [.ref row]) (k := 0) (isList_of (by first | exact hD | exact (Fr.keep (by assumption) _ _ hD) | exact (Fr.keep (by assumption) _ _ (Fr.keep (by assumption) _ _ hD)) | exact (Fr.keep (by assumption) _ _ (Fr.keep (by assumption) _ _ (Fr.keep (by assumption) _ _ hD))) | exact (Fr.keep (by assumption) _ _ (Fr.keep (by assumption) _ _ (Fr.keep (by assumption) _ _ (Fr.keep (by assumption) _ _ hD)))) | exact (Fr.keep (by assumption) _ _ (Fr.keep (by assumption) _ _ (Fr.keep (by assumption) _ _ (Fr.keep (by assumption) _ _ (Fr.keep (by assumption) _ _ hD))))) | exact (Fr.keep (by assumption) _ _ (Fr.keep (by assumption) _ _ (Fr.keep (by assumption) _ _ (Fr.keep (by assumption) _ _ (Fr.keep (by assumption) _ _ (Fr.keep (by assumption) _ _ hD)))))))) (by first | decide | omega) (by first | decide | omega) (by rfl) ?_
  repeat ((fail_if_success (with_reducible refine stop_builtin (f := "len") ?_)); (first | walk1 | (dsimp only; walk1)))
  refine len_any (vs := vs) ((vs.length : Nat)) (isList_of (by first | exact hrow | exact (Fr.keep (by assumption) _ _ hrow) | exact (Fr.keep (by assumption) _ _ (Fr.keep (by assumption) _ _ hrow)) | exact (Fr.keep (by assumption) _ _ (Fr.keep (by assumption) _ _ (Fr.keep (by assumption) _ _ hrow))) | exact (Fr.keep (by assumption) _ _ (Fr.keep (by assumption) _ _ (Fr.keep (by assumption) _ _ (Fr.keep (by assumption) _ _ hrow)))) | exact (Fr.keep (by assumption) _ _ (Fr.keep (by assumption) _ _ (Fr.keep (by assumption) _ _ (Fr.keep (by assumption) _ _ (Fr.keep (by assumption) _ _ hrow))))) | exact (Fr.keep (by assumption) _ _ (Fr.keep (by assumption) _ _ (Fr.keep (by assumption) _ _ (Fr.keep (by assumption) _ _ (Fr.keep (by assumption) _ _ (Fr.keep (by assumption) _ _ hrow)))))))) (rfl) (by omega) ?_
  repeat (first | walk1 | (dsimp only; walk1))
  (try dsimp only)
  refine ret_of hQ (by k_asm) ?_
  (rename News _ _ _ _ => NN)
  exact ⟨_, _, _, rfl, (NN _ (.head _)).2.2, (NN _ (.head _)).1⟩
  (run_tac sh1)

theorem c_get886f {M dM md D row : Addr} {e1 e2 e3 : Int} {t1 t2 t3 : Tok} {n k1 k2 : Nat} {vs : List Value} {ix : Addr} {k : Int} {ti tj : Tok} {u : Value}
    (B : Below A₀ base outer h₀) (F : Fr h₀ L s.heap m) (X : (Mine.hd.heap_39 w.params).In h₀) (T : Top p loose mean mg mb h₀) (hA : A.frames = some (env :: outer)) (hf : env.frame = some L) (hk : env.scope.kind = .function) (hd : A.depth ≤ 790) (hu : A.units ≤ 7900) (hh : A.handled = none)
    (hM : s.heap.get? M = some (instObj 886 dM)) (hdM : s.heap.get? dM = some (matD md (.ref D) false e1 e2 e3 t1 t2 t3 n)) (hD : s.heap.get? D = some (listOf #[.ref row] k1)) (hrow : s.heap.get? row = some (listOf vs.toArray k2)) (hlen : vs.length ≤ 2) (hix : s.heap.get? ix = some (pairOf (.int 0 ti) (.int k tj))) (hk0 : 0 ≤ k) (hk1 : k < 2) (hu' : vs[k.toNat]? = some u)
    (hQ : Ret s Q (fun v h => v = u)) :
    wpAny (model PySem.Challenge.rw_ix0027_01.row.prog w) A (call (.ref 650) [.ref M, .ref ix] []) Q E s := by
  (run_tac sh0)
  refine' enterP (binds := [(Str.ofString "self", .ref M), (Str.ofString "idx", .ref ix)]) B F X T hA hf hk ?k8 ?k6 ?k7 ?k9 ?kB ?c5 ?c2 ?c3 ?c4 ?_
  case k6 => k_is
  case k7 => k_is
  case k8 => k_room
  case k9 => exact BindsTo.of_eq rfl
  case c5 => decide
  case kB => exact locs rfl
  case c2 => exact rfl
  case c3 => exact rfl
  case c4 => exact rfl
  clear B F X T hA hf hk
  intro L' h' tk' F' N' B' X' T'
  (try dsimp only)
  have hT : IsTup h' ix [.int 0 ti, .int k tj].toArray := ⟨_, Fr.keep F' _ _ hix, rfl, _, rfl⟩
  repeat ((fail_if_success (with_reducible refine stop_builtin (f := "isinstance") ?_)); (first | walk1 | (dsimp only; walk1)))
  refine call_isinstance (isinstance_true (Tx := "tuple") (by rfl) (by rfl)) ⟨⟨_, Fr.keep F' _ _ hix, rfl⟩, ?_⟩
  repeat ((fail_if_success (with_reducible refine stop_builtin (f := "len") ?_)); (first | walk1 | (dsimp only; walk1)))
  refine len_tup2 hT ?_
  repeat ((fail_if_success (with_reducible refine stop_tail ?_)); (first | walk1 | (dsimp only; walk1)))
  refine item_tupleT (l := [.int 0 ti, .int k tj]) (j := 0) hT (by decide) (by decide) (by rfl) (by rfl) ?_
  repeat ((fail_if_success (with_reducible refine stop_tail ?_)); (first | walk1 | (dsimp only; walk1)))
  refine item_any (vs := [.ref row]) (k := 0) (isList_of (by first | exact hD | exact (Fr.keep (by assumption) _ _ hD) | exact (Fr.keep (by assumption) _ _ (Fr.keep (by assumption) _ _ hD)) | exact (Fr.keep (by assumption) _ _ (Fr.keep (by assumption) _ _ (Fr.keep (by assumption) _ _ hD))) | exact (Fr.keep (by assumption) _ _ (Fr.keep (by assumption) _ _ (Fr.keep (by assumption) _ _ (Fr.keep (by assumption) _ _ hD)))) | exact (Fr.keep (by assumption) _ _ (Fr.keep (by assumption) _ _ (Fr.keep (by assumption) _ _ (Fr.keep (by assumption) _ _ (Fr.keep (by assumption) _ _ hD))))) | exact (Fr.keep (by assumption) _ _ (Fr.keep (by assumption) _ _ (Fr.keep (by assumption) _ _ (Fr.keep (by assumption) _ _ (Fr.keep (by assumption) _ _ (Fr.keep (by assumption) _ _ hD)))))))) (by first | decide | omega) (by first | decide | omega) (by rfl) ?_
  repeat ((fail_if_success (with_reducible refine stop_tail ?_)); (first | walk1 | (dsimp only; walk1)))
  refine item_tupleT (l := [.int 0 ti, .int k tj]) (j := 1) hT (by decide) (by decide) (by rfl) (by rfl) ?_
  repeat ((fail_if_success (with_reducible refine stop_tail ?_)); (first | walk1 | (dsimp only; walk1)))
  refine item_any (vs := vs) (k := k) (isList_of (by first | exact hrow | exact (Fr.keep (by assumption) _ _ hrow) | exact (Fr.keep (by assumption) _ _ (Fr.keep (by assumption) _ _ hrow)) | exact (Fr.keep (by assumption) _ _ (Fr.keep (by assumption) _ _ (Fr.keep (by assumption) _ _ hrow))) | exact (Fr.keep (by assumption) _ _ (Fr.keep (by assumption) _ _ (Fr.keep (by assumption) _ _ (Fr.keep (by assumption) _ _ hrow)))) | exact (Fr.keep (by assumption) _ _ (Fr.keep (by assumption) _ _ (Fr.keep (by assumption) _ _ (Fr.keep (by assumption) _ _ (Fr.keep (by assumption) _ _ hrow))))) | exact (Fr.keep (by assumption) _ _ (Fr.keep (by assumption) _ _ (Fr.keep (by assumption) _ _ (Fr.keep (by assumption) _ _ (Fr.keep (by assumption) _ _ (Fr.keep (by assumption) _ _ hrow)))))))) (by first | decide | omega) (by first | decide | omega) (hu') ?_
  repeat (first | walk1 | (dsimp only; walk1))
  (try dsimp only)
  exact ret_of hQ (by k_asm) (rfl)
  (run_tac sh1)

theorem c_dim886t {M dM md D row : Addr} {e1 e2 e3 : Int} {t1 t2 t3 : Tok} {n k1 k2 : Nat} {vs : List Value}
    (B : Below A₀ base outer h₀) (F : Fr h₀ L s.heap m) (X : (Mine.hd.heap_39 w.params).In h₀) (T : Top p loose mean mg mb h₀) (hA : A.frames = some (env :: outer)) (hf : env.frame = some L) (hk : env.scope.kind = .function) (hd : A.depth ≤ 790) (hu : A.units ≤ 7900) (hh : A.handled = none)
    (hM : s.heap.get? M = some (instObj 886 dM)) (hdM : s.heap.get? dM = some (matD md (.ref D) true e1 e2 e3 t1 t2 t3 n)) (hD : s.heap.get? D = some (listOf #[.ref row] k1)) (hrow : s.heap.get? row = some (listOf vs.toArray k2)) (hlen : vs.length ≤ 2)
    (hQ : Ret s Q (fun v h => DimNew s.heap h (vs.length : Nat) 1 v)) :
    wpAny (model PySem.Challenge.rw_ix0027_01.row.prog w) A (call (.ref 621) [.ref M] []) Q E s := by
  (run_tac sh0)
  refine' enterP (binds := [(Str.ofString "self", .ref M)]) B F X T hA hf hk ?k8 ?k6 ?k7 ?k9 ?kB ?c5 ?c2 ?c3 ?c4 ?_
  case k6 => k_is
  case k7 => k_is
  case k8 => k_room
  case k9 => exact BindsTo.of_eq rfl
  case c5 => decide
  case kB => exact locs rfl
  case c2 => exact rfl
  case c3 => exact rfl
  case c4 => exact rfl
  clear B F X T hA hf hk
  intro L' h' tk' F' N' B' X' T'
  (try dsimp only)
  repeat ((fail_if_success (with_reducible refine stop_tail ?_)); (first | walk1 | (dsimp only; walk1)))
  refine item_any (vs := [.ref row]) (k := 0) (isList_of (by first | exact hD | exact (Fr.keep (by assumption) _ _ hD) | exact (Fr.keep (by assumption) _ _ (Fr.keep (by assumption) _ _ hD)) | exact (Fr.keep (by assumption) _ _ (Fr.keep (by assumption) _ _ (Fr.keep (by assumption) _ _ hD))) | exact (Fr.keep (by assumption) _ _ (Fr.keep (by assumption) _ _ (Fr.keep (by assumption) _ _ (Fr.keep (by assumption) _ _ hD)))) | exact (Fr.keep (by assumption) _ _ (Fr.keep (by assumption) _ _ (Fr.keep (by assumption) _ _ (Fr.keep (by assumption) _ _ (Fr.keep (by assumption) _ _ hD))))) | exact (Fr.keep (by assumption) _ _ (Fr.keep (by assumption) _ _ (Fr.keep (by assumption) _ _ (Fr.keep (by assumption) _ _ (Fr.keep (by assumption) _ _ (Fr.keep (by assumption) _ _ hD)))))))) (by first | decide | omega) (by first | decide | omega) (by rfl) ?_
  repeat ((fail_if_success (with_reducible refine stop_builtin (f := "len") ?_)); (first | walk1 | (dsimp only; walk1)))
  refine len_any (vs := vs) ((vs.length : Nat)) (isList_of (by first | exact hrow | exact (Fr.keep (by assumption) _ _ hrow) | exact (Fr.keep (by assumption) _ _ (Fr.keep (by assumption) _ _ hrow)) | exact (Fr.keep (by assumption) _ _ (Fr.keep (by assumption) _ _ (Fr.keep (by assumption) _ _ hrow))) | exact (Fr.keep (by assumption) _ _ (Fr.keep (by assumption) _ _ (Fr.keep (by assumption) _ _ (Fr.keep (by assumption) _ _ hrow)))) | exact (Fr.keep (by assumption) _ _ (Fr.keep (by assumption) _ _ (Fr.keep (by assumption) _ _ (Fr.keep (by assumption) _ _ (Fr.keep (by assumption) _ _ hrow))))) | exact (Fr.keep (by assumption) _ _ (Fr.keep (by assumption) _ _ (Fr.keep (by assumption) _ _ (Fr.keep (by assumption) _ _ (Fr.keep (by assumption) _ _ (Fr.keep (by assumption) _ _ hrow)))))))) (rfl) (by omega) ?_
  repeat ((fail_if_success (with_reducible refine stop_builtin (f := "len") ?_)); (first | walk1 | (dsimp only; walk1)))
  refine len_any (vs := [.ref row]) (1) (isList_of (by first | exact hD | exact (Fr.keep (by assumption) _ _ hD) | exact (Fr.keep (by assumption) _ _ (Fr.keep (by assumption) _ _ hD)) | exact (Fr.keep (by assumption) _ _ (Fr.keep (by assumption) _ _ (Fr.keep (by assumption) _ _ hD))) | exact (Fr.keep (by assumption) _ _ (Fr.keep (by assumption) _ _ (Fr.keep (by assumption) _ _ (Fr.keep (by assumption) _ _ hD)))) | exact (Fr.keep (by assumption) _ _ (Fr.keep (by assumption) _ _ (Fr.keep (by assumption) _ _ (Fr.keep (by assumption) _ _ (Fr.keep (by assumption) _ _ hD))))) | exact (Fr.keep (by assumption) _ _ (Fr.keep (by assumption) _ _ (Fr.keep (by assumption) _ _ (Fr.keep (by assumption) _ _ (Fr.keep (by assumption) _ _ (Fr.keep (by assumption) _ _ hD)))))))) (rfl) (by decide) ?_
  repeat (first | walk1 | (dsimp only; walk1))
  (try dsimp only)
  refine ret_of hQ (by k_asm) ?_
  (rename News _ _ _ _ => NN)
  exact ⟨_, _, _, rfl, (NN _ (.head _)).2.2, (NN _ (.head _)).1⟩
  (run_tac sh1)

theorem c_get886t {M dM md D row : Addr} {e1 e2 e3 : Int} {t1 t2 t3 : Tok} {n k1 k2 : Nat} {vs : List Value} {ix : Addr} {k : Int} {ti tj : Tok} {u : Value}
    (B : Below A₀ base outer h₀) (F : Fr h₀ L s.heap m) (X : (Mine.hd.heap_39 w.params).In h₀) (T : Top p loose mean mg mb h₀) (hA : A.frames = some (env :: outer)) (hf : env.frame = some L) (hk : env.scope.kind = .function) (hd : A.depth ≤ 790) (hu : A.units ≤ 7900) (hh : A.handled = none)
    (hM : s.heap.get? M = some (instObj 886 dM)) (hdM : s.heap.get? dM = some (matD md (.ref D) true e1 e2 e3 t1 t2 t3 n)) (hD : s.heap.get? D = some (listOf #[.ref row] k1)) (hrow : s.heap.get? row = some (listOf vs.toArray k2)) (hlen : vs.length ≤ 2) (hix : s.heap.get? ix = some (pairOf (.int k ti) (.int 0 tj))) (hk0 : 0 ≤ k) (hk1 : k < 2) (hu' : vs[k.toNat]? = some u)
    (hQ : Ret s Q (fun v h => v = u)) :
    wpAny (model PySem.Challenge.rw_ix0027_01.row.prog w) A (call (.ref 650) [.ref M, .ref ix] []) Q E s := by
  (run_tac sh0)
  refine' enterP (binds := [(Str.ofString "self", .ref M), (Str.ofString "idx", .ref ix)]) B F X T hA hf hk ?k8 ?k6 ?k7 ?k9 ?kB ?c5 ?c2 ?c3 ?c4 ?_
  case k6 => k_is
  case k7 => k_is
  case k8 => k_room
  case k9 => exact BindsTo.of_eq rfl
  case c5 => decide
  case kB => exact locs rfl
  case c2 => exact rfl
  case c3 => exact rfl
  case c4 => exact rfl
  clear B F X T hA hf hk
  intro L' h' tk' F' N' B' X' T'
  (try dsimp only)
  have hT : IsTup h' ix [.int k ti, .int 0 tj].toArray := ⟨_, Fr.keep F' _ _ hix, rfl, _, rfl⟩
  repeat ((fail_if_success (with_reducible refine stop_builtin (f := "isinstance") ?_)); (first | walk1 | (dsimp only; walk1)))
  refine call_isinstance (isinstance_true (Tx := "tuple") (by rfl) (by rfl)) ⟨⟨_, Fr.keep F' _ _ hix, rfl⟩, ?_⟩
  repeat ((fail_if_success (with_reducible refine stop_builtin (f := "len") ?_)); (first | walk1 | (dsimp only; walk1)))
  refine len_tup2 hT ?_
  repeat ((fail_if_success (with_reducible refine stop_tail ?_)); (first | walk1 | (dsimp only; walk1)))
  refine item_tupleT (l := [.int k ti, .int 0 tj]) (j := 1) hT (by decide) (by decide) (by rfl) (by rfl) ?_
  repeat ((fail_if_success (with_reducible refine stop_tail ?_)); (first | walk1 | (dsimp only; walk1)))
  refine item_any (vs := [.ref row]) (k := 0) (isList_of (by first | exact hD | exact (Fr.keep (by assumption) _ _ hD) | exact (Fr.keep (by assumption) _ _ (Fr.keep (by assumption) _ _ hD)) | exact (Fr.keep (by assumption) _ _ (Fr.keep (by assumption) _ _ (Fr.keep (by assumption) _ _ hD))) | exact (Fr.keep (by assumption) _ _ (Fr.keep (by assumption) _ _ (Fr.keep (by assumption) _ _ (Fr.keep (by assumption) _ _ hD)))) | exact (Fr.keep (by assumption) _ _ (Fr.keep (by assumption) _ _ (Fr.keep (by assumption) _ _ (Fr.keep (by assumption) _ _ (Fr.keep (by assumption) _ _ hD))))) | exact (Fr.keep (by assumption) _ _ (Fr.keep (by assumption) _ _ (Fr.keep (by assumption) _ _ (Fr.keep (by assumption) _ _ (Fr.keep (by assumption) _ _ (Fr.keep (by assumption) _ _ hD)))))))) (by first | decide | omega) (by first | decide | omega) (by rfl) ?_
  repeat ((fail_if_success (with_reducible refine stop_tail ?_)); (first | walk1 | (dsimp only; walk1)))
  refine item_tupleT (l := [.int k ti, .int 0 tj]) (j := 0) hT (by decide) (by decide) (by rfl) (by rfl) ?_
  repeat ((fail_if_success (with_reducible refine stop_tail ?_)); (first | walk1 | (dsimp only; walk1)))
  refine item_any (vs := vs) (k := k) (isList_of (by first | exact hrow | exact (Fr.keep (by assumption) _ _ hrow) | exact (Fr.keep (by assumption) _ _ (Fr.keep (by assumption) _ _ hrow)) | exact (Fr.keep (by assumption) _ _ (Fr.keep (by assumption) _ _ (Fr.keep (by assumption) _ _ hrow))) | exact (Fr.keep (by assumption) _ _ (Fr.keep (by assumption) _ _ (Fr.keep (by assumption) _ _ (Fr.keep (by assumption) _ _ hrow)))) | exact (Fr.keep (by assumption) _ _ (Fr.keep (by assumption) _ _ (Fr.keep (by assumption) _ _ (Fr.keep (by assumption) _ _ (Fr.keep (by assumption) _ _ hrow))))) | exact (Fr.keep (by assumption) _ _ (Fr.keep (by assumption) _ _ (Fr.keep (by assumption) _ _ (Fr.keep (by assumption) _ _ (Fr.keep (by assumption) _ _ (Fr.keep (by assumption) _ _ hrow)))))))) (by first | decide | omega) (by first | decide | omega) (hu') ?_
  repeat (first | walk1 | (dsimp only; walk1))
  (try dsimp only)
  exact ret_of hQ (by k_asm) (rfl)
  (run_tac sh1)

theorem c_dim907t {M dM md D row : Addr} {e1 e2 e3 : Int} {t1 t2 t3 : Tok} {n k1 k2 : Nat} {vs : List Value}
    (B : Below A₀ base outer h₀) (F : Fr h₀ L s.heap m) (X : (Mine.hd.heap_39 w.params).In h₀) (T : Top p loose mean mg mb h₀) (hA : A.frames = some (env :: outer)) (hf : env.frame = some L) (hk : env.scope.kind = .function) (hd : A.depth ≤ 790) (hu : A.units ≤ 7900) (hh : A.handled = none)
    (hM : s.heap.get? M = some (instObj 907 dM)) (hdM : s.heap.get? dM = some (matD md (.ref D) true e1 e2 e3 t1 t2 t3 n)) (hD : s.heap.get? D = some (listOf #[.ref row] k1)) (hrow : s.heap.get? row = some (listOf vs.toArray k2)) (hlen : vs.length ≤ 2)
    (hQ : Ret s Q (fun v h => DimNew s.heap h (vs.length : Nat) 1 v)) :
    wpAny (model PySem.Challenge.rw_ix0027_01.row.prog w) A (call (.ref 621) [.ref M] []) Q E s := by
  (run_tac sh0)
  refine' enterP (binds := [(Str.ofString "self", .ref M)]) B F X T hA hf hk ?k8 ?k6 ?k7 ?k9 ?kB ?c5 ?c2 ?c3 ?c4 ?_
  case k6 => k_is
  case k7 => k_is
  case k8 => k_room
  case k9 => exact BindsTo.of_eq rfl
  case c5 => decide
  case kB => exact locs rfl
  case c2 => exact rfl
  case c3 => exact rfl
  case c4 => exact rfl
  clear B F X T hA hf hk
  intro L' h' tk' F' N' B' X' T'
  (try dsimp only)
  repeat ((fail_if_success (with_reducible refine stop_tail ?_)); (first | walk1 | (dsimp only; walk1)))
  refine item_any (vs := [.ref row]) (k := 0) (isList_of (by first | exact hD | exact (Fr.keep (by assumption) _ _ hD) | exact (Fr.keep (by assumption) _ _ (Fr.keep (by assumption) _ _ hD)) | exact (Fr.keep (by assumption) _ _ (Fr.keep (by assumption) _ _ (Fr.keep (by assumption) _ _ hD))) | exact (Fr.keep (by assumption) _ _ (Fr.keep (by assumption) _ _ (Fr.keep (by assumption) _ _ (Fr.keep (by assumption) _ _ hD)))) | exact (Fr.keep (by assumption) _ _ (Fr.keep (by assumption) _ _ (Fr.keep (by assumption) _ _ (Fr.keep (by assumption) _ _ (Fr.keep (by assumption) _ _ hD))))) | exact (Fr.keep (by assumption) _ _ (Fr.keep (by assumption) _ _ (Fr.keep (by assumption) _ _ (Fr.keep (by assumption) _ _ (Fr.keep (by assumption) _ _ (Fr.keep (by assumption) _ _ hD)))))))) (by first | decide | omega) (by first | decide | omega) (by rfl) ?_
  repeat ((fail_if_success (with_reducible refine stop_builtin (f := "len") ?_)); (first | walk1 | (dsimp only; walk1)))
  refine len_any (vs := vs) ((vs.length : Nat)) (isList_of (by first | exact hrow | exact (Fr.keep (by assumption) _ _ hrow) | exact (Fr.keep (by assumption) _ _ (Fr.keep (by assumption) _ _ hrow)) | exact (Fr.keep (by assumption) _ _ (Fr.keep (by assumption) _ _ (Fr.keep (by assumption) _ _ hrow))) | exact (Fr.keep (by assumption) _ _ (Fr.keep (by assumption) _ _ (Fr.keep (by assumption) _ _ (Fr.keep (by assumption) _ _ hrow)))) | exact (Fr.keep (by assumption) _ _ (Fr.keep (by assumption) _ _ (Fr.keep (by assumption) _ _ (Fr.keep (by assumption) _ _ (Fr.keep (by assumption) _ _ hrow))))) | exact (Fr.keep (by assumption) _ _ (Fr.keep (by assumption) _ _ (Fr.keep (by assumption) _ _ (Fr.keep (by assumption) _ _ (Fr.keep (by assumption) _ _ (Fr.keep (by assumption) _ _ hrow)))))))) (rfl) (by omega) ?_
  repeat ((fail_if_success (with_reducible refine stop_builtin (f := "len") ?_)); (first | walk1 | (dsimp only; walk1)))
  refine len_any (vs := [.ref row]) (1) (isList_of (by first | exact hD | exact (Fr.keep (by assumption) _ _ hD) | exact (Fr.keep (by assumption) _ _ (Fr.keep (by assumption) _ _ hD)) | exact (Fr.keep (by assumption) _ _ (Fr.keep (by assumption) _ _ (Fr.keep (by assumption) _ _ hD))) | exact (Fr.keep (by assumption) _ _ (Fr.keep (by assumption) _ _ (Fr.keep (by assumption) _ _ (Fr.keep (by assumption) _ _ hD)))) | exact (Fr.keep (by assumption) _ _ (Fr.keep (by assumption) _ _ (Fr.keep (by assumption) _ _ (Fr.keep (by assumption) _ _ (Fr.keep (by assumption) _ _ hD))))) | exact (Fr.keep (by assumption) _ _ (Fr.keep (by assumption) _ _ (Fr.keep (by assumption) _ _ (Fr.keep (by assumption) _ _ (Fr.keep (by assumption) _ _ (Fr.keep (by assumption) _ _ hD)))))))) (rfl) (by decide) ?_
  repeat (first | walk1 | (dsimp only; walk1))
  (try dsimp only)
  refine ret_of hQ (by k_asm) ?_
  (rename News _ _ _ _ => NN)
  exact ⟨_, _, _, rfl, (NN _ (.head _)).2.2, (NN _ (.head _)).1⟩
  (run_tac sh1)

theorem c_get907t {M dM md D row : Addr} {e1 e2 e3 : Int} {t1 t2 t3 : Tok} {n k1 k2 : Nat} {vs : List Value} {ix : Addr} {k : Int} {ti tj : Tok} {u : Value}
    (B : Below A₀ base outer h₀) (F : Fr h₀ L s.heap m) (X : (Mine.hd.heap_39 w.params).In h₀) (T : Top p loose mean mg mb h₀) (hA : A.frames = some (env :: outer)) (hf : env.frame = some L) (hk : env.scope.kind = .function) (hd : A.depth ≤ 790) (hu : A.units ≤ 7900) (hh : A.handled = none)
    (hM : s.heap.get? M = some (instObj 907 dM)) (hdM : s.heap.get? dM = some (matD md (.ref D) true e1 e2 e3 t1 t2 t3 n)) (hD : s.heap.get? D = some (listOf #[.ref row] k1)) (hrow : s.heap.get? row = some (listOf vs.toArray k2)) (hlen : vs.length ≤ 2) (hix : s.heap.get? ix = some (pairOf (.int k ti) (.int 0 tj))) (hk0 : 0 ≤ k) (hk1 : k < 2) (hu' : vs[k.toNat]? = some u)
    (hQ : Ret s Q (fun v h => v = u)) :
    wpAny (model PySem.Challenge.rw_ix0027_01.row.prog w) A (call (.ref 650) [.ref M, .ref ix] []) Q E s := by
  (run_tac sh0)
  refine' enterP (binds := [(Str.ofString "self", .ref M), (Str.ofString "idx", .ref ix)]) B F X T hA hf hk ?k8 ?k6 ?k7 ?k9 ?kB ?c5 ?c2 ?c3 ?c4 ?_
  case k6 => k_is
  case k7 => k_is
  case k8 => k_room
  case k9 => exact BindsTo.of_eq rfl
  case c5 => decide
  case kB => exact locs rfl
  case c2 => exact rfl
  case c3 => exact rfl
  case c4 => exact rfl
  clear B F X T hA hf hk
  intro L' h' tk' F' N' B' X' T'
  (try dsimp only)
  have hT : IsTup h' ix [.int k ti, .int 0 tj].toArray := ⟨_, Fr.keep F' _ _ hix, rfl, _, rfl⟩
  repeat ((fail_if_success (with_reducible refine stop_builtin (f := "isinstance") ?_)); (first | walk1 | (dsimp only; walk1)))
  refine call_isinstance (isinstance_true (Tx := "tuple") (by rfl) (by rfl)) ⟨⟨_, Fr.keep F' _ _ hix, rfl⟩, ?_⟩
  repeat ((fail_if_success (with_reducible refine stop_builtin (f := "len") ?_)); (first | walk1 | (dsimp only; walk1)))
  refine len_tup2 hT ?_
  repeat ((fail_if_success (with_reducible refine stop_tail ?_)); (first | walk1 | (dsimp only; walk1)))
  refine item_tupleT (l := [.int k ti, .int 0 tj]) (j := 1) hT (by decide) (by decide) (by rfl) (by rfl) ?_
  repeat ((fail_if_success (with_reducible refine stop_tail ?_)); (first | walk1 | (dsimp only; walk1)))
  refine item_any (vs := [.ref row]) (k := 0) (isList_of (by first | exact hD | exact (Fr.keep (by assumption) _ _ hD) | exact (Fr.keep (by assumption) _ _ (Fr.keep (by assumption) _ _ hD)) | exact (Fr.keep (by assumption) _ _ (Fr.keep (by assumption) _ _ (Fr.keep (by assumption) _ _ hD))) | exact (Fr.keep (by assumption) _ _ (Fr.keep (by assumption) _ _ (Fr.keep (by assumption) _ _ (Fr.keep (by assumption) _ _ hD)))) | exact (Fr.keep (by assumption) _ _ (Fr.keep (by assumption) _ _ (Fr.keep (by assumption) _ _ (Fr.keep (by assumption) _ _ (Fr.keep (by assumption) _ _ hD))))) | exact (Fr.keep (by assumption) _ _ (Fr.keep (by assumption) _ _ (Fr.keep (by assumption) _ _ (Fr.keep (by assumption) _ _ (Fr.keep (by assumption) _ _ (Fr.keep (by assumption) _ _ hD)))))))) (by first | decide | omega) (by first | decide | omega) (by rfl) ?_
  repeat ((fail_if_success (with_reducible refine stop_tail ?_)); (first | walk1 | (dsimp only; walk1)))
  refine item_tupleT (l := [.int k ti, .int 0 tj]) (j := 0) hT (by decide) (by decide) (by rfl) (by rfl) ?_
  repeat ((fail_if_success (with_reducible refine stop_tail ?_)); (first | walk1 | (dsimp only; walk1)))
  refine item_any (vs := vs) (k := k) (isList_of (by first | exact hrow | exact (Fr.keep (by assumption) _ _ hrow) | exact (Fr.keep (by assumption) _ _ (Fr.keep (by assumption) _ _ hrow)) | exact (Fr.keep (by assumption) _ _ (Fr.keep (by assumption) _ _ (Fr.keep (by assumption) _ _ hrow))) | exact (Fr.keep (by assumption) _ _ (Fr.keep (by assumption) _ _ (Fr.keep (by assumption) _ _ (Fr.keep (by assumption) _ _ hrow)))) | exact (Fr.keep (by assumption) _ _ (Fr.keep (by assumption) _ _ (Fr.keep (by assumption) _ _ (Fr.keep (by assumption) _ _ (Fr.keep (by assumption) _ _ hrow))))) | exact (Fr.keep (by assumption) _ _ (Fr.keep (by assumption) _ _ (Fr.keep (by assumption) _ _ (Fr.keep (by assumption) _ _ (Fr.keep (by assumption) _ _ (Fr.keep (by assumption) _ _ hrow)))))))) (by first | decide | omega) (by first | decide | omega) (hu') ?_
  repeat (first | walk1 | (dsimp only; walk1))
  (try dsimp only)
  exact ret_of hQ (by k_asm) (rfl)
  (run_tac sh1)

end

theorem fresh_30 : True := by
  w_top off
  trivial
theorem fr_ne {g h : Heap} {L D : Addr} {m : Str → Option Value} {o : Obj} (F : Fr g L h m) (e : g.get? D = some o) : D ≠ L := Nat.ne_of_lt (Nat.lt_of_lt_of_le (Heap.lt_size e) F.above)
theorem below_gen {A₀ A' : Around} {base h₀ h hb : Heap} {outer : List Env} {e cenv : Env} {L : Addr} {m : Str → Option Value} (s : Shared) (B : Below A₀ base outer h₀) (F : Fr h₀ L h m) (hk : KeptT h hb) (hL : L ∉ tabs) (h0 : ∀ P ∈ tabs, h₀.get? P = none) (_hA : A'.frames = some (cenv :: e :: outer)) (hf : e.frame = some L) (hke : e.scope.kind = .function) :
    Below (A₀.deeper e) base (e :: outer) hb ∧ (∀ b o, h₀.get? b = some o → hb.get? b = some o) := below_hb s B F hk hL h0 (frames_in B) hf hke
theorem fresh_of {s : Shared} {g h : Heap} {L M : Addr} {m : Str → Option Value} (F : Fr g L h m) (hsg : ∀ b o, b ∉ tabs → s.heap.get? b = some o → g.get? b = some o) (ht : TabsOk h) (e : h.get? M = none) : s.heap.get? M = none := by
  (run_tac sh0)
  cases q : s.heap.get? M with
  | none => rfl
  | some o =>
    by_cases hM : M ∈ tabs
    · obtain ⟨ps, e', _⟩ := ht M hM; rw [e] at e'; cases e'
    · rw [F.keep _ _ (hsg _ _ hM q)] at e; cases e
  (run_tac sh1)
abbrev modD (r : Addr) (e : Int) (t : Tok) (n : Nat) : Obj := dictOf [⟨e, .str (Str.ofString "ring") t, .ref r⟩] n
section
variable {w : World} {A₀ A : Around} {base h₀ : Heap} {outer : List Env} {env : Env} {L : Addr} {m : Str → Option Value} {p : Program} {loose : List Str} {mean : ExcName → Option Value} {mg mb : Str → Option Value}
    {s : Shared} {Q : Value → Shared → Prop} {E : Value → Shared → Prop}
theorem c_mcall0 {md dmd r D row : Addr} {e1 : Int} {t1 : Tok} {n1 k1 k2 : Nat} {vs : List Value}
    (B : Below A₀ base outer h₀) (F : Fr h₀ L s.heap m) (X : (Mine.hd.heap_39 w.params).In h₀) (T : Top p loose mean mg mb h₀) (hA : A.frames = some (env :: outer)) (hf : env.frame = some L) (hk : env.scope.kind = .function) (hd : A.depth ≤ 700) (hu : A.units ≤ 7000) (hh : A.handled = none) (h0 : ∀ P ∈ tabs, h₀.get? P = none) (ht : TabsOk s.heap) (hg : AllBare s.gens)
    (hmd : s.heap.get? md = some (instObj 983 dmd)) (hdmd : s.heap.get? dmd = some (modD r e1 t1 n1)) (HR : RingAt s.heap r) (hD : s.heap.get? D = some (listOf #[.ref row] k1)) (hrow : s.heap.get? row = some (listOf vs.toArray k2)) (hlen : vs.length ≤ 2) (hzs : ∀ u ∈ vs, ∃ z dz od, u = .ref z ∧ s.heap.get? z = some (instObj 592 dz) ∧ s.heap.get? dz = some od ∧ od.cls ≠ .none)
    (hQ : RetT s Q (fun v h => MatNew s.heap h md D false v)) :
    codeAny (model PySem.Challenge.rw_ix0027_01.row.prog w) A (.call (.ref 747) ⟨[.ref md, .ref D], []⟩) (fun r s' => match r with | .ok (.ret v) => Q v s' | .ok _ => False | .error e => E e s') s := by
  (run_tac sh0)
  refine' enterT (binds := [(Str.ofString "self", .ref md), (Str.ofString "matrix_elements", .ref D), (Str.ofString "transpose", .bool false)]) B F X T hA hf hk h0 ht ?k8 ?k6 ?k7 ?k9 ?kB ?c5 ?c2 ?c3 ?c4 ?_
  case k6 => k_is
  case k7 => k_is
  case k8 => k_room
  case k9 => exact binds_K (X.keeps F.keep) rfl (by k_is) rfl rfl rfl
  case c5 => decide +kernel
  case kB => exact rfl
  case c2 => exact rfl
  case c3 => exact rfl
  case c4 => exact rfl
  intro g L' h' tk' cells' ps1 ps2 hgdef F' N' Y' B' X' T' r1 r2 hg0 hLt hsg
  replace hmd := hsg _ _ (off_tabs ht hmd (by nofun)) hmd
  replace hdmd := hsg _ _ (off_tabs ht hdmd (by nofun)) hdmd
  replace hD := hsg _ _ (off_tabs ht hD (by nofun)) hD
  replace hrow := hsg _ _ (off_tabs ht hrow (by nofun)) hrow
  have hL7 : @LT.lt Nat instLTNat 742 L' := Nat.lt_of_lt_of_le (ht.lt (List.mem_cons_self ..)) (by have q := F'.above; rw [hgdef, hideAll_size] at q; exact q)
  have hL6 : @LT.lt Nat instLTNat 695 L' := Nat.lt_trans (by decide) hL7
  clear B F X T hA hf hk h0 hgdef
  k_cells Y'
  simp only [List.append_nil, List.cons_append, List.nil_append] at N'
  (try dsimp only)
  replace hzs : ∀ u ∈ vs, ∃ z dz od, u = .ref z ∧ g.get? z = some (instObj 592 dz) ∧ g.get? dz = some od := fun u hu => let ⟨z, dz, od, e, a, b, c⟩ := hzs u hu; ⟨z, dz, od, e, hsg _ _ (off_tabs ht a (by nofun)) a, hsg _ _ (off_tabs ht b c) b⟩
  obtain ⟨dr, n2, f1, f2, f3, f4, f5, f6, g1, g2, g3, g4, g5, g6, u1, u2, v3, v4, v5, v6, hr, hdr⟩ := HR
  replace hr := hsg _ _ (off_tabs ht hr (by nofun)) hr
  replace hdr := hsg _ _ (off_tabs ht hdr (by nofun)) hdr
  have hD' := isList_of (vs := [_]) hD
  have hrow' := isList_of hrow
  repeat ((fail_if_success (with_reducible refine stop_builtin (f := "isinstance") ?_)); (first | (ks_step "exec Expr"; refine ks_wpAt_Expr_any ?_ (by rfl) (by with_unfolding_all rfl)) | (ks_step "eval Call"; refine at_MethodCallKW ?_ (by with_unfolding_all rfl)) | walk1 | (dsimp only; walk1)))
  walk1
  repeat ((fail_if_success (with_reducible refine stop_builtin (f := "isinstance") ?_)); (first | (ks_step "exec Expr"; refine ks_wpAt_Expr_any ?_ (by rfl) (by with_unfolding_all rfl)) | (ks_step "eval Call"; refine at_MethodCallKW ?_ (by with_unfolding_all rfl)) | walk1 | (dsimp only; walk1)))
  walk1
  repeat ((fail_if_success (with_reducible refine stop_For' ?_)); (first | (ks_step "exec Expr"; refine ks_wpAt_Expr_any ?_ (by rfl) (by with_unfolding_all rfl)) | (ks_step "eval Call"; refine at_MethodCallKW ?_ (by with_unfolding_all rfl)) | walk1 | (dsimp only; walk1)))
  refine' for1 ?hh ?hx ?hp ?_
  case hh => assumption
  case hx => rfl
  case hp => rfl
  repeat ((fail_if_success (with_reducible refine stop_ForF ?_)); (first | (ks_step "exec Expr"; refine ks_wpAt_Expr_any ?_ (by rfl) (by with_unfolding_all rfl)) | (ks_step "eval Call"; refine at_MethodCallKW ?_ (by with_unfolding_all rfl)) | walk1 | (dsimp only; walk1)))
  refine' ⟨D, .ref row, g, _, _, rfl, isList_of (vs := [_]) (Fr.keep (by k_asm) _ _ hD), fr_ne (by k_asm) hD, by k_asm, by k_asm, ?_⟩
  intro I oI h₂ tk₂ hoI cF cN hne
  simp only [List.forall_mem_cons, List.not_mem_nil, false_implies, implies_true, and_true] at hne
  k_sweep
  repeat ((fail_if_success (with_reducible refine stop_Gen ?_)); (first | (ks_step "exec Expr"; refine ks_wpAt_Expr_any ?_ (by rfl) (by with_unfolding_all rfl)) | (ks_step "eval Call"; refine at_MethodCallKW ?_ (by with_unfolding_all rfl)) | walk1 | (dsimp only; walk1)))
  refine' gen_make ?hh ?hco ?hclos ?hcell ?h0 ?hx ?hkind ?hroom ?_
  case hh => assumption
  case hco => rfl
  case hclos => with_unfolding_all rfl
  case hcell => decide
  case h0 => rfl
  case hx => rfl
  case hkind => rfl
  case hroom => k_room
  repeat ((fail_if_success (with_reducible refine stop_GS ?_)); (first | (ks_step "exec Expr"; refine ks_wpAt_Expr_any ?_ (by rfl) (by with_unfolding_all rfl)) | (ks_step "eval Call"; refine at_MethodCallKW ?_ (by with_unfolding_all rfl)) | walk1 | (dsimp only; walk1)))
  have ht₀ := TabsOk.of_news (by k_asm) (by k_mem) (by k_mem) r1 r2
  refine' ⟨_, _, fun _ v _ _ => v = .bool true, _, g, 746, 742, p, loose, mean, mg, mb, SrcN.list (isList_of (Fr.keep (by k_asm) _ _ hrow)) ht₀, ht₀, hg, frames_in B', Fr.keep (by k_asm), hg0, List.mem_cons_self .., rfl, codeHd_of_K X' (by kernel_rfl), rfl, T', fun _ _ _ _ _ _ q => q, ?helt, ?hQ⟩
  case helt =>
    intro hb C code i v s₂ m₂ A' E' hA' hD' hU' hfr' hPv hC hm hkb cF
    obtain ⟨z, dz, od, rfl, hz, hdz⟩ := hzs v (List.mem_of_getElem? hPv)
    simp only [depth_deeper, units_deeper] at hD' hU'
    obtain ⟨B₂, hgb⟩ := below_gen s B' (by k_asm) hkb hLt hg0 hfr' rfl rfl
    have X₂ := Frag.In.keeps X' hgb
    have T₂ := Top.keeps T' hgb
    replace hz := hgb _ _ hz
    replace hdz := hgb _ _ hdz
    have hmd₂ := hgb _ _ hmd
    have hdmd₂ := hgb _ _ hdmd
    have hr₂ := hgb _ _ hr
    have hdr₂ := hgb _ _ hdr
    have hc₂ := cF.keep _ _ (hkb _ _ (off_nt ht₀ (News.get (a := L' + 1) (by k_asm) (by k_mem)) (nt_cell (by assumption))) (News.get (a := L' + 1) (by k_asm) (by k_mem)))
    have N₂ : News hb C s₂.heap [] := News.nil
    repeat ((fail_if_success (with_reducible refine stop_Name ?_)); (first | (ks_step "exec Expr"; refine ks_wpAt_Expr_any ?_ (by rfl) (by with_unfolding_all rfl)) | (ks_step "eval Call"; refine at_MethodCallKW ?_ (by with_unfolding_all rfl)) | walk1 | (dsimp only; walk1)))
    refine' gname_F (c := L' + 1) ?c ?g ?d ?_
    case c => rfl
    case g => exact hc₂
    case d => exact (by assumption)
    repeat ((fail_if_success (with_reducible refine stop_Name ?_)); (first | (ks_step "exec Expr"; refine ks_wpAt_Expr_any ?_ (by rfl) (by with_unfolding_all rfl)) | (ks_step "eval Call"; refine at_MethodCallKW ?_ (by with_unfolding_all rfl)) | walk1 | (dsimp only; walk1)))
    refine' gname_L ?F ?v ?_
    case F => k_asm
    case v => exact hm
    repeat ((fail_if_success (with_reducible refine stop_call (f := 389) ?_)); (first | (ks_step "exec Expr"; refine ks_wpAt_Expr_any ?_ (by rfl) (by with_unfolding_all rfl)) | (ks_step "eval Call"; refine at_MethodCallKW ?_ (by with_unfolding_all rfl)) | walk1 | (dsimp only; walk1)))
    refine' c_isel ?B ?F ?X ?T hfr' ?hf ?hk ?hd ?hu ?hh ?q0 ?q1 ?ret
    case B => k_asm
    case F => k_asm
    case X => k_asm
    case T => k_asm
    case hf => rfl
    case hk => rfl
    case hd => k_room
    case hu => k_room
    case hh => first | assumption | rfl
    case q0 => exact cF.keep _ _ hz
    case q1 => exact cF.keep _ _ hdz
    case ret =>
      intro v₄ h₄ tk₄ hk₄ post₄
      have cF₄ := Fr.keeps (by k_asm) hk₄
      have cN₄ := News.grown (by k_asm) hk₄
      k_sweep
      exact ⟨post₄, _, _, rfl, hk₄⟩

  case hQ =>
    intro a gg C fp wr h₃ tk₃ gs₃ hPk hnew hkt htok hgs
    repeat ((fail_if_success (with_reducible refine stop_builtin (f := "all") ?_)); (first | (ks_step "exec Expr"; refine ks_wpAt_Expr_any ?_ (by rfl) (by with_unfolding_all rfl)) | (ks_step "eval Call"; refine at_MethodCallKW ?_ (by with_unfolding_all rfl)) | walk1 | (dsimp only; walk1)))
    refine' all_genH ?hh ?hroom hgs hPk (fun _ _ _ _ q => q) ?_
    case hh => assumption
    case hroom => k_room
    intro h₄ tk₄ gs₄ hk₄ hgs₄
    have hk24 : KeptT _ h₄ := fun b o hb e => hk₄ b o (fun q => by rw [hnew b q] at e; cases e) (hkt b o hb e)
    have ht24 : TabsOk h₄ := htok.at fun b hb o e => hk₄ b o (fun q => hPk.hCt b q hb) e
    obtain ⟨psA, eA, rA⟩ := ht24 742 (List.mem_cons_self ..)
    obtain ⟨psB, eB, rB⟩ := ht24 695 (List.mem_cons_of_mem _ (List.mem_cons_self ..))
    have cF₄ := fr_tab (by k_asm) hk24 (by assumption) (by assumption)
    have cN₄ := news_tab (by k_asm) (TabsOk.of_news (by k_asm) (by k_mem) (by k_mem) (by assumption) (by assumption)) hk24 (by assumption) (by assumption) (by repeat' (first | exact trivial | refine And.intro (by first | exact nt_cls (by assumption) | exact nt_cell (by assumption) | exact nt_cls (fun q => nomatch q)) ?_)) (by rfl) eA eB
    simp only [retab] at cN₄
    k_sweep
    repeat (first | (ks_step "exec Expr"; refine ks_wpAt_Expr_any ?_ (by rfl) (by with_unfolding_all rfl)) | (ks_step "eval Call"; refine at_MethodCallKW ?_ (by with_unfolding_all rfl)) | walk1 | (dsimp only; walk1))
    (try dsimp only)
    refine' ⟨_, _, _, rfl, ?hI, ?hl, ?_⟩
    case hI => exact News.get (by k_asm) (by k_mem)
    case hl => exact isList_of (vs := [_]) (Fr.keep (by k_asm) _ _ hD)
    intro h₅ tk₅ hk₅
    have cF₅ := fr_dropI (by k_asm) cN₄ hk₅
    have cN₅ := news_dropI cN₄ (by simp only [List.forall_mem_cons, List.not_mem_nil, false_implies, implies_true, and_true]; exact hne) hk₅
    k_sweep
    repeat ((fail_if_success (with_reducible refine stop_call (f := 931) ?_)); (first | (ks_step "exec Expr"; refine ks_wpAt_Expr_any ?_ (by rfl) (by with_unfolding_all rfl)) | (ks_step "eval Call"; refine at_MethodCallKW ?_ (by with_unfolding_all rfl)) | walk1 | (dsimp only; walk1)))
    refine' c_matof ?B ?F ?X ?T (frames_in ?B) ?hf ?hk ?hd ?hu ?hh ?q0 ?q1 ?q2 ?ret
    case B => k_asm
    case F => k_asm
    case X => k_asm
    case T => k_asm
    case hf => rfl
    case hk => rfl
    case hd => k_room
    case hu => k_room
    case hh => first | assumption | rfl
    case q0 => exact Fr.keep (by k_asm) _ _ hD
    case q1 => exact Fr.keep (by k_asm) _ _ hrow
    case q2 => exact hlen
    case ret =>
      intro v₄ h₄ tk₄ hk₄ post₄
      obtain ⟨M, dM, a1, a2, a3, b1, b2, b3, nn, rfl, hM0, hdM0, hM, hdM⟩ := post₄
      have sM := fresh_of (by k_asm) hsg (TabsOk.of_news (by k_asm) (by k_mem) (by k_mem) (by assumption) (by assumption)) hM0
      have sdM := fresh_of (by k_asm) hsg (TabsOk.of_news (by k_asm) (by k_mem) (by k_mem) (by assumption) (by assumption)) hdM0
      have cF₄ := Fr.keeps (by k_asm) hk₄
      have cN₄ := News.grown (by k_asm) hk₄
      replace cN₄ := news_add (by k_asm) cN₄ hdM0 hdM
      replace cN₄ := news_add (by k_asm) cN₄ hM0 hM
      k_sweep
      repeat (first | (ks_step "exec Expr"; refine ks_wpAt_Expr_any ?_ (by rfl) (by with_unfolding_all rfl)) | (ks_step "eval Call"; refine at_MethodCallKW ?_ (by with_unfolding_all rfl)) | walk1 | (dsimp only; walk1))
      (try dsimp only)
      refine' ret_ofT hQ (by k_asm) (by k_asm) hsg (by k_mem) (by k_mem) (by assumption) (by assumption) (by assumption) ?_
      exact ⟨_, _, _, _, _, _, _, _, _, rfl, sM, sdM, News.get (by k_asm) (by k_mem), News.get (by k_asm) (by k_mem)⟩
  (run_tac sh1)


theorem c_mcallk {md dmd r D row : Addr} {e1 : Int} {t1 : Tok} {n1 k1 k2 : Nat} {vs : List Value} {b : Bool}
    (B : Below A₀ base outer h₀) (F : Fr h₀ L s.heap m) (X : (Mine.hd.heap_39 w.params).In h₀) (T : Top p loose mean mg mb h₀) (hA : A.frames = some (env :: outer)) (hf : env.frame = some L) (hk : env.scope.kind = .function) (hd : A.depth ≤ 700) (hu : A.units ≤ 7000) (hh : A.handled = none) (h0 : ∀ P ∈ tabs, h₀.get? P = none) (ht : TabsOk s.heap) (hg : AllBare s.gens)
    (hmd : s.heap.get? md = some (instObj 983 dmd)) (hdmd : s.heap.get? dmd = some (modD r e1 t1 n1)) (HR : RingAt s.heap r) (hD : s.heap.get? D = some (listOf #[.ref row] k1)) (hrow : s.heap.get? row = some (listOf vs.toArray k2)) (hlen : vs.length ≤ 2) (hzs : ∀ u ∈ vs, ∃ z dz od, u = .ref z ∧ s.heap.get? z = some (instObj 592 dz) ∧ s.heap.get? dz = some od ∧ od.cls ≠ .none)
    (hQ : RetT s Q (fun v h => MatNew s.heap h md D b v)) :
    codeAny (model PySem.Challenge.rw_ix0027_01.row.prog w) A (.call (.ref 747) ⟨[.ref md, .ref D], [(Str.ofString "transpose", .bool b)]⟩) (fun r s' => match r with | .ok (.ret v) => Q v s' | .ok _ => False | .error e => E e s') s := by
  (run_tac sh0)
  refine' enterT (binds := [(Str.ofString "self", .ref md), (Str.ofString "matrix_elements", .ref D), (Str.ofString "transpose", .bool b)]) B F X T hA hf hk h0 ht ?k8 ?k6 ?k7 ?k9 ?kB ?c5 ?c2 ?c3 ?c4 ?_
  case k6 => k_is
  case k7 => k_is
  case k8 => k_room
  case k9 => exact binds_K (X.keeps F.keep) rfl (by k_is) rfl rfl rfl
  case c5 => decide +kernel
  case kB => exact rfl
  case c2 => exact rfl
  case c3 => exact rfl
  case c4 => exact rfl
  intro g L' h' tk' cells' ps1 ps2 hgdef F' N' Y' B' X' T' r1 r2 hg0 hLt hsg
  replace hmd := hsg _ _ (off_tabs ht hmd (by nofun)) hmd
  replace hdmd := hsg _ _ (off_tabs ht hdmd (by nofun)) hdmd
  replace hD := hsg _ _ (off_tabs ht hD (by nofun)) hD
  replace hrow := hsg _ _ (off_tabs ht hrow (by nofun)) hrow
  have hL7 : @LT.lt Nat instLTNat 742 L' := Nat.lt_of_lt_of_le (ht.lt (List.mem_cons_self ..)) (by have q := F'.above; rw [hgdef, hideAll_size] at q; exact q)
  have hL6 : @LT.lt Nat instLTNat 695 L' := Nat.lt_trans (by decide) hL7
  clear B F X T hA hf hk h0 hgdef
  k_cells Y'
  simp only [List.append_nil, List.cons_append, List.nil_append] at N'
  (try dsimp only)
  replace hzs : ∀ u ∈ vs, ∃ z dz od, u = .ref z ∧ g.get? z = some (instObj 592 dz) ∧ g.get? dz = some od := fun u hu => let ⟨z, dz, od, e, a, b, c⟩ := hzs u hu; ⟨z, dz, od, e, hsg _ _ (off_tabs ht a (by nofun)) a, hsg _ _ (off_tabs ht b c) b⟩
  obtain ⟨dr, n2, f1, f2, f3, f4, f5, f6, g1, g2, g3, g4, g5, g6, u1, u2, v3, v4, v5, v6, hr, hdr⟩ := HR
  replace hr := hsg _ _ (off_tabs ht hr (by nofun)) hr
  replace hdr := hsg _ _ (off_tabs ht hdr (by nofun)) hdr
  have hD' := isList_of (vs := [_]) hD
  have hrow' := isList_of hrow
  repeat ((fail_if_success (with_reducible refine stop_builtin (f := "isinstance") ?_)); (first | (ks_step "exec Expr"; refine ks_wpAt_Expr_any ?_ (by rfl) (by with_unfolding_all rfl)) | (ks_step "eval Call"; refine at_MethodCallKW ?_ (by with_unfolding_all rfl)) | walk1 | (dsimp only; walk1)))
  walk1
  repeat ((fail_if_success (with_reducible refine stop_builtin (f := "isinstance") ?_)); (first | (ks_step "exec Expr"; refine ks_wpAt_Expr_any ?_ (by rfl) (by with_unfolding_all rfl)) | (ks_step "eval Call"; refine at_MethodCallKW ?_ (by with_unfolding_all rfl)) | walk1 | (dsimp only; walk1)))
  walk1
  repeat ((fail_if_success (with_reducible refine stop_For' ?_)); (first | (ks_step "exec Expr"; refine ks_wpAt_Expr_any ?_ (by rfl) (by with_unfolding_all rfl)) | (ks_step "eval Call"; refine at_MethodCallKW ?_ (by with_unfolding_all rfl)) | walk1 | (dsimp only; walk1)))
  refine' for1 ?hh ?hx ?hp ?_
  case hh => assumption
  case hx => rfl
  case hp => rfl
  repeat ((fail_if_success (with_reducible refine stop_ForF ?_)); (first | (ks_step "exec Expr"; refine ks_wpAt_Expr_any ?_ (by rfl) (by with_unfolding_all rfl)) | (ks_step "eval Call"; refine at_MethodCallKW ?_ (by with_unfolding_all rfl)) | walk1 | (dsimp only; walk1)))
  refine' ⟨D, .ref row, g, _, _, rfl, isList_of (vs := [_]) (Fr.keep (by k_asm) _ _ hD), fr_ne (by k_asm) hD, by k_asm, by k_asm, ?_⟩
  intro I oI h₂ tk₂ hoI cF cN hne
  simp only [List.forall_mem_cons, List.not_mem_nil, false_implies, implies_true, and_true] at hne
  k_sweep
  repeat ((fail_if_success (with_reducible refine stop_Gen ?_)); (first | (ks_step "exec Expr"; refine ks_wpAt_Expr_any ?_ (by rfl) (by with_unfolding_all rfl)) | (ks_step "eval Call"; refine at_MethodCallKW ?_ (by with_unfolding_all rfl)) | walk1 | (dsimp only; walk1)))
  refine' gen_make ?hh ?hco ?hclos ?hcell ?h0 ?hx ?hkind ?hroom ?_
  case hh => assumption
  case hco => rfl
  case hclos => with_unfolding_all rfl
  case hcell => decide
  case h0 => rfl
  case hx => rfl
  case hkind => rfl
  case hroom => k_room
  repeat ((fail_if_success (with_reducible refine stop_GS ?_)); (first | (ks_step "exec Expr"; refine ks_wpAt_Expr_any ?_ (by rfl) (by with_unfolding_all rfl)) | (ks_step "eval Call"; refine at_MethodCallKW ?_ (by with_unfolding_all rfl)) | walk1 | (dsimp only; walk1)))
  have ht₀ := TabsOk.of_news (by k_asm) (by k_mem) (by k_mem) r1 r2
  refine' ⟨_, _, fun _ v _ _ => v = .bool true, _, g, 746, 742, p, loose, mean, mg, mb, SrcN.list (isList_of (Fr.keep (by k_asm) _ _ hrow)) ht₀, ht₀, hg, frames_in B', Fr.keep (by k_asm), hg0, List.mem_cons_self .., rfl, codeHd_of_K X' (by kernel_rfl), rfl, T', fun _ _ _ _ _ _ q => q, ?helt, ?hQ⟩
  case helt =>
    intro hb C code i v s₂ m₂ A' E' hA' hD' hU' hfr' hPv hC hm hkb cF
    obtain ⟨z, dz, od, rfl, hz, hdz⟩ := hzs v (List.mem_of_getElem? hPv)
    simp only [depth_deeper, units_deeper] at hD' hU'
    obtain ⟨B₂, hgb⟩ := below_gen s B' (by k_asm) hkb hLt hg0 hfr' rfl rfl
    have X₂ := Frag.In.keeps X' hgb
    have T₂ := Top.keeps T' hgb
    replace hz := hgb _ _ hz
    replace hdz := hgb _ _ hdz
    have hmd₂ := hgb _ _ hmd
    have hdmd₂ := hgb _ _ hdmd
    have hr₂ := hgb _ _ hr
    have hdr₂ := hgb _ _ hdr
    have hc₂ := cF.keep _ _ (hkb _ _ (off_nt ht₀ (News.get (a := L' + 1) (by k_asm) (by k_mem)) (nt_cell (by assumption))) (News.get (a := L' + 1) (by k_asm) (by k_mem)))
    have N₂ : News hb C s₂.heap [] := News.nil
    repeat ((fail_if_success (with_reducible refine stop_Name ?_)); (first | (ks_step "exec Expr"; refine ks_wpAt_Expr_any ?_ (by rfl) (by with_unfolding_all rfl)) | (ks_step "eval Call"; refine at_MethodCallKW ?_ (by with_unfolding_all rfl)) | walk1 | (dsimp only; walk1)))
    refine' gname_F (c := L' + 1) ?c ?g ?d ?_
    case c => rfl
    case g => exact hc₂
    case d => exact (by assumption)
    repeat ((fail_if_success (with_reducible refine stop_Name ?_)); (first | (ks_step "exec Expr"; refine ks_wpAt_Expr_any ?_ (by rfl) (by with_unfolding_all rfl)) | (ks_step "eval Call"; refine at_MethodCallKW ?_ (by with_unfolding_all rfl)) | walk1 | (dsimp only; walk1)))
    refine' gname_L ?F ?v ?_
    case F => k_asm
    case v => exact hm
    repeat ((fail_if_success (with_reducible refine stop_call (f := 389) ?_)); (first | (ks_step "exec Expr"; refine ks_wpAt_Expr_any ?_ (by rfl) (by with_unfolding_all rfl)) | (ks_step "eval Call"; refine at_MethodCallKW ?_ (by with_unfolding_all rfl)) | walk1 | (dsimp only; walk1)))
    refine' c_isel ?B ?F ?X ?T hfr' ?hf ?hk ?hd ?hu ?hh ?q0 ?q1 ?ret
    case B => k_asm
    case F => k_asm
    case X => k_asm
    case T => k_asm
    case hf => rfl
    case hk => rfl
    case hd => k_room
    case hu => k_room
    case hh => first | assumption | rfl
    case q0 => exact cF.keep _ _ hz
    case q1 => exact cF.keep _ _ hdz
    case ret =>
      intro v₄ h₄ tk₄ hk₄ post₄
      have cF₄ := Fr.keeps (by k_asm) hk₄
      have cN₄ := News.grown (by k_asm) hk₄
      k_sweep
      exact ⟨post₄, _, _, rfl, hk₄⟩

  case hQ =>
    intro a gg C fp wr h₃ tk₃ gs₃ hPk hnew hkt htok hgs
    repeat ((fail_if_success (with_reducible refine stop_builtin (f := "all") ?_)); (first | (ks_step "exec Expr"; refine ks_wpAt_Expr_any ?_ (by rfl) (by with_unfolding_all rfl)) | (ks_step "eval Call"; refine at_MethodCallKW ?_ (by with_unfolding_all rfl)) | walk1 | (dsimp only; walk1)))
    refine' all_genH ?hh ?hroom hgs hPk (fun _ _ _ _ q => q) ?_
    case hh => assumption
    case hroom => k_room
    intro h₄ tk₄ gs₄ hk₄ hgs₄
    have hk24 : KeptT _ h₄ := fun b o hb e => hk₄ b o (fun q => by rw [hnew b q] at e; cases e) (hkt b o hb e)
    have ht24 : TabsOk h₄ := htok.at fun b hb o e => hk₄ b o (fun q => hPk.hCt b q hb) e
    obtain ⟨psA, eA, rA⟩ := ht24 742 (List.mem_cons_self ..)
    obtain ⟨psB, eB, rB⟩ := ht24 695 (List.mem_cons_of_mem _ (List.mem_cons_self ..))
    have cF₄ := fr_tab (by k_asm) hk24 (by assumption) (by assumption)
    have cN₄ := news_tab (by k_asm) (TabsOk.of_news (by k_asm) (by k_mem) (by k_mem) (by assumption) (by assumption)) hk24 (by assumption) (by assumption) (by repeat' (first | exact trivial | refine And.intro (by first | exact nt_cls (by assumption) | exact nt_cell (by assumption) | exact nt_cls (fun q => nomatch q)) ?_)) (by rfl) eA eB
    simp only [retab] at cN₄
    k_sweep
    repeat (first | (ks_step "exec Expr"; refine ks_wpAt_Expr_any ?_ (by rfl) (by with_unfolding_all rfl)) | (ks_step "eval Call"; refine at_MethodCallKW ?_ (by with_unfolding_all rfl)) | walk1 | (dsimp only; walk1))
    (try dsimp only)
    refine' ⟨_, _, _, rfl, ?hI, ?hl, ?_⟩
    case hI => exact News.get (by k_asm) (by k_mem)
    case hl => exact isList_of (vs := [_]) (Fr.keep (by k_asm) _ _ hD)
    intro h₅ tk₅ hk₅
    have cF₅ := fr_dropI (by k_asm) cN₄ hk₅
    have cN₅ := news_dropI cN₄ (by simp only [List.forall_mem_cons, List.not_mem_nil, false_implies, implies_true, and_true]; exact hne) hk₅
    k_sweep
    repeat ((fail_if_success (with_reducible refine stop_call (f := 931) ?_)); (first | (ks_step "exec Expr"; refine ks_wpAt_Expr_any ?_ (by rfl) (by with_unfolding_all rfl)) | (ks_step "eval Call"; refine at_MethodCallKW ?_ (by with_unfolding_all rfl)) | walk1 | (dsimp only; walk1)))
    refine' c_matof ?B ?F ?X ?T (frames_in ?B) ?hf ?hk ?hd ?hu ?hh ?q0 ?q1 ?q2 ?ret
    case B => k_asm
    case F => k_asm
    case X => k_asm
    case T => k_asm
    case hf => rfl
    case hk => rfl
    case hd => k_room
    case hu => k_room
    case hh => first | assumption | rfl
    case q0 => exact Fr.keep (by k_asm) _ _ hD
    case q1 => exact Fr.keep (by k_asm) _ _ hrow
    case q2 => exact hlen
    case ret =>
      intro v₄ h₄ tk₄ hk₄ post₄
      obtain ⟨M, dM, a1, a2, a3, b1, b2, b3, nn, rfl, hM0, hdM0, hM, hdM⟩ := post₄
      have sM := fresh_of (by k_asm) hsg (TabsOk.of_news (by k_asm) (by k_mem) (by k_mem) (by assumption) (by assumption)) hM0
      have sdM := fresh_of (by k_asm) hsg (TabsOk.of_news (by k_asm) (by k_mem) (by k_mem) (by assumption) (by assumption)) hdM0
      have cF₄ := Fr.keeps (by k_asm) hk₄
      have cN₄ := News.grown (by k_asm) hk₄
      replace cN₄ := news_add (by k_asm) cN₄ hdM0 hdM
      replace cN₄ := news_add (by k_asm) cN₄ hM0 hM
      k_sweep
      repeat (first | (ks_step "exec Expr"; refine ks_wpAt_Expr_any ?_ (by rfl) (by with_unfolding_all rfl)) | (ks_step "eval Call"; refine at_MethodCallKW ?_ (by with_unfolding_all rfl)) | walk1 | (dsimp only; walk1))
      (try dsimp only)
      refine' ret_ofT hQ (by k_asm) (by k_asm) hsg (by k_mem) (by k_mem) (by assumption) (by assumption) (by assumption) ?_
      exact ⟨_, _, _, _, _, _, _, _, _, rfl, sM, sdM, News.get (by k_asm) (by k_mem), News.get (by k_asm) (by k_mem)⟩
  (run_tac sh1)


theorem c_mcallp {md dmd r D row : Addr} {e1 : Int} {t1 : Tok} {n1 k1 k2 : Nat} {vs : List Value}
    (B : Below A₀ base outer h₀) (F : Fr h₀ L s.heap m) (X : (Mine.hd.heap_39 w.params).In h₀) (T : Top p loose mean mg mb h₀) (hA : A.frames = some (env :: outer)) (hf : env.frame = some L) (hk : env.scope.kind = .function) (hd : A.depth ≤ 700) (hu : A.units ≤ 7000) (hh : A.handled = none) (h0 : ∀ P ∈ tabs, h₀.get? P = none) (ht : TabsOk s.heap) (hg : AllBare s.gens)
    (hmd : s.heap.get? md = some (instObj 983 dmd)) (hdmd : s.heap.get? dmd = some (modD r e1 t1 n1)) (HR : RingAt s.heap r) (hD : s.heap.get? D = some (listOf #[.ref row] k1)) (hrow : s.heap.get? row = some (listOf vs.toArray k2)) (hlen : vs.length ≤ 2) (hzs : ∀ u ∈ vs, ∃ z dz od, u = .ref z ∧ s.heap.get? z = some (instObj 592 dz) ∧ s.heap.get? dz = some od ∧ od.cls ≠ .none)
    (hQ : RetT s Q (fun v h => MatNew s.heap h md D false v)) :
    codeAny (model PySem.Challenge.rw_ix0027_01.row.prog w) A (.call (.ref 747) ⟨[.ref md, .ref D, .bool false], []⟩) (fun r s' => match r with | .ok (.ret v) => Q v s' | .ok _ => False | .error e => E e s') s := by
  (run_tac sh0)
  refine' enterT (binds := [(Str.ofString "self", .ref md), (Str.ofString "matrix_elements", .ref D), (Str.ofString "transpose", .bool false)]) B F X T hA hf hk h0 ht ?k8 ?k6 ?k7 ?k9 ?kB ?c5 ?c2 ?c3 ?c4 ?_
  case k6 => k_is
  case k7 => k_is
  case k8 => k_room
  case k9 => exact binds_K (X.keeps F.keep) rfl (by k_is) rfl rfl rfl
  case c5 => decide +kernel
  case kB => exact rfl
  case c2 => exact rfl
  case c3 => exact rfl
  case c4 => exact rfl
  intro g L' h' tk' cells' ps1 ps2 hgdef F' N' Y' B' X' T' r1 r2 hg0 hLt hsg
  replace hmd := hsg _ _ (off_tabs ht hmd (by nofun)) hmd
  replace hdmd := hsg _ _ (off_tabs ht hdmd (by nofun)) hdmd
  replace hD := hsg _ _ (off_tabs ht hD (by nofun)) hD
  replace hrow := hsg _ _ (off_tabs ht hrow (by nofun)) hrow
  have hL7 : @LT.lt Nat instLTNat 742 L' := Nat.lt_of_lt_of_le (ht.lt (List.mem_cons_self ..)) (by have q := F'.above; rw [hgdef, hideAll_size] at q; exact q)
  have hL6 : @LT.lt Nat instLTNat 695 L' := Nat.lt_trans (by decide) hL7
  clear B F X T hA hf hk h0 hgdef
  k_cells Y'
  simp only [List.append_nil, List.cons_append, List.nil_append] at N'
  (try dsimp only)
  replace hzs : ∀ u ∈ vs, ∃ z dz od, u = .ref z ∧ g.get? z = some (instObj 592 dz) ∧ g.get? dz = some od := fun u hu => let ⟨z, dz, od, e, a, b, c⟩ := hzs u hu; ⟨z, dz, od, e, hsg _ _ (off_tabs ht a (by nofun)) a, hsg _ _ (off_tabs ht b c) b⟩
  obtain ⟨dr, n2, f1, f2, f3, f4, f5, f6, g1, g2, g3, g4, g5, g6, u1, u2, v3, v4, v5, v6, hr, hdr⟩ := HR
  replace hr := hsg _ _ (off_tabs ht hr (by nofun)) hr
  replace hdr := hsg _ _ (off_tabs ht hdr (by nofun)) hdr
  have hD' := isList_of (vs := [_]) hD
  have hrow' := isList_of hrow
  repeat ((fail_if_success (with_reducible refine stop_builtin (f := "isinstance") ?_)); (first | (ks_step "exec Expr"; refine ks_wpAt_Expr_any ?_ (by rfl) (by with_unfolding_all rfl)) | (ks_step "eval Call"; refine at_MethodCallKW ?_ (by with_unfolding_all rfl)) | walk1 | (dsimp only; walk1)))
  walk1
  repeat ((fail_if_success (with_reducible refine stop_builtin (f := "isinstance") ?_)); (first | (ks_step "exec Expr"; refine ks_wpAt_Expr_any ?_ (by rfl) (by with_unfolding_all rfl)) | (ks_step "eval Call"; refine at_MethodCallKW ?_ (by with_unfolding_all rfl)) | walk1 | (dsimp only; walk1)))
  walk1
  repeat ((fail_if_success (with_reducible refine stop_For' ?_)); (first | (ks_step "exec Expr"; refine ks_wpAt_Expr_any ?_ (by rfl) (by with_unfolding_all rfl)) | (ks_step "eval Call"; refine at_MethodCallKW ?_ (by with_unfolding_all rfl)) | walk1 | (dsimp only; walk1)))
  refine' for1 ?hh ?hx ?hp ?_
  case hh => assumption
  case hx => rfl
  case hp => rfl
  repeat ((fail_if_success (with_reducible refine stop_ForF ?_)); (first | (ks_step "exec Expr"; refine ks_wpAt_Expr_any ?_ (by rfl) (by with_unfolding_all rfl)) | (ks_step "eval Call"; refine at_MethodCallKW ?_ (by with_unfolding_all rfl)) | walk1 | (dsimp only; walk1)))
  refine' ⟨D, .ref row, g, _, _, rfl, isList_of (vs := [_]) (Fr.keep (by k_asm) _ _ hD), fr_ne (by k_asm) hD, by k_asm, by k_asm, ?_⟩
  intro I oI h₂ tk₂ hoI cF cN hne
  simp only [List.forall_mem_cons, List.not_mem_nil, false_implies, implies_true, and_true] at hne
  k_sweep
  repeat ((fail_if_success (with_reducible refine stop_Gen ?_)); (first | (ks_step "exec Expr"; refine ks_wpAt_Expr_any ?_ (by rfl) (by with_unfolding_all rfl)) | (ks_step "eval Call"; refine at_MethodCallKW ?_ (by with_unfolding_all rfl)) | walk1 | (dsimp only; walk1)))
  refine' gen_make ?hh ?hco ?hclos ?hcell ?h0 ?hx ?hkind ?hroom ?_
  case hh => assumption
  case hco => rfl
  case hclos => with_unfolding_all rfl
  case hcell => decide
  case h0 => rfl
  case hx => rfl
  case hkind => rfl
  case hroom => k_room
  repeat ((fail_if_success (with_reducible refine stop_GS ?_)); (first | (ks_step "exec Expr"; refine ks_wpAt_Expr_any ?_ (by rfl) (by with_unfolding_all rfl)) | (ks_step "eval Call"; refine at_MethodCallKW ?_ (by with_unfolding_all rfl)) | walk1 | (dsimp only; walk1)))
  have ht₀ := TabsOk.of_news (by k_asm) (by k_mem) (by k_mem) r1 r2
  refine' ⟨_, _, fun _ v _ _ => v = .bool true, _, g, 746, 742, p, loose, mean, mg, mb, SrcN.list (isList_of (Fr.keep (by k_asm) _ _ hrow)) ht₀, ht₀, hg, frames_in B', Fr.keep (by k_asm), hg0, List.mem_cons_self .., rfl, codeHd_of_K X' (by kernel_rfl), rfl, T', fun _ _ _ _ _ _ q => q, ?helt, ?hQ⟩
  case helt =>
    intro hb C code i v s₂ m₂ A' E' hA' hD' hU' hfr' hPv hC hm hkb cF
    obtain ⟨z, dz, od, rfl, hz, hdz⟩ := hzs v (List.mem_of_getElem? hPv)
    simp only [depth_deeper, units_deeper] at hD' hU'
    obtain ⟨B₂, hgb⟩ := below_gen s B' (by k_asm) hkb hLt hg0 hfr' rfl rfl
    have X₂ := Frag.In.keeps X' hgb
    have T₂ := Top.keeps T' hgb
    replace hz := hgb _ _ hz
    replace hdz := hgb _ _ hdz
    have hmd₂ := hgb _ _ hmd
    have hdmd₂ := hgb _ _ hdmd
    have hr₂ := hgb _ _ hr
    have hdr₂ := hgb _ _ hdr
    have hc₂ := cF.keep _ _ (hkb _ _ (off_nt ht₀ (News.get (a := L' + 1) (by k_asm) (by k_mem)) (nt_cell (by assumption))) (News.get (a := L' + 1) (by k_asm) (by k_mem)))
    have N₂ : News hb C s₂.heap [] := News.nil
    repeat ((fail_if_success (with_reducible refine stop_Name ?_)); (first | (ks_step "exec Expr"; refine ks_wpAt_Expr_any ?_ (by rfl) (by with_unfolding_all rfl)) | (ks_step "eval Call"; refine at_MethodCallKW ?_ (by with_unfolding_all rfl)) | walk1 | (dsimp only; walk1)))
    refine' gname_F (c := L' + 1) ?c ?g ?d ?_
    case c => rfl
    case g => exact hc₂
    case d => exact (by assumption)
    repeat ((fail_if_success (with_reducible refine stop_Name ?_)); (first | (ks_step "exec Expr"; refine ks_wpAt_Expr_any ?_ (by rfl) (by with_unfolding_all rfl)) | (ks_step "eval Call"; refine at_MethodCallKW ?_ (by with_unfolding_all rfl)) | walk1 | (dsimp only; walk1)))
    refine' gname_L ?F ?v ?_
    case F => k_asm
    case v => exact hm
    repeat ((fail_if_success (with_reducible refine stop_call (f := 389) ?_)); (first | (ks_step "exec Expr"; refine ks_wpAt_Expr_any ?_ (by rfl) (by with_unfolding_all rfl)) | (ks_step "eval Call"; refine at_MethodCallKW ?_ (by with_unfolding_all rfl)) | walk1 | (dsimp only; walk1)))
    refine' c_isel ?B ?F ?X ?T hfr' ?hf ?hk ?hd ?hu ?hh ?q0 ?q1 ?ret
    case B => k_asm
    case F => k_asm
    case X => k_asm
    case T => k_asm
    case hf => rfl
    case hk => rfl
    case hd => k_room
    case hu => k_room
    case hh => first | assumption | rfl
    case q0 => exact cF.keep _ _ hz
    case q1 => exact cF.keep _ _ hdz
    case ret =>
      intro v₄ h₄ tk₄ hk₄ post₄
      have cF₄ := Fr.keeps (by k_asm) hk₄
      have cN₄ := News.grown (by k_asm) hk₄
      k_sweep
      exact ⟨post₄, _, _, rfl, hk₄⟩

  case hQ =>
    intro a gg C fp wr h₃ tk₃ gs₃ hPk hnew hkt htok hgs
    repeat ((fail_if_success (with_reducible refine stop_builtin (f := "all") ?_)); (first | (ks_step "exec Expr"; refine ks_wpAt_Expr_any ?_ (by rfl) (by with_unfolding_all rfl)) | (ks_step "eval Call"; refine at_MethodCallKW ?_ (by with_unfolding_all rfl)) | walk1 | (dsimp only; walk1)))
    refine' all_genH ?hh ?hroom hgs hPk (fun _ _ _ _ q => q) ?_
    case hh => assumption
    case hroom => k_room
    intro h₄ tk₄ gs₄ hk₄ hgs₄
    have hk24 : KeptT _ h₄ := fun b o hb e => hk₄ b o (fun q => by rw [hnew b q] at e; cases e) (hkt b o hb e)
    have ht24 : TabsOk h₄ := htok.at fun b hb o e => hk₄ b o (fun q => hPk.hCt b q hb) e
    obtain ⟨psA, eA, rA⟩ := ht24 742 (List.mem_cons_self ..)
    obtain ⟨psB, eB, rB⟩ := ht24 695 (List.mem_cons_of_mem _ (List.mem_cons_self ..))
    have cF₄ := fr_tab (by k_asm) hk24 (by assumption) (by assumption)
    have cN₄ := news_tab (by k_asm) (TabsOk.of_news (by k_asm) (by k_mem) (by k_mem) (by assumption) (by assumption)) hk24 (by assumption) (by assumption) (by repeat' (first | exact trivial | refine And.intro (by first | exact nt_cls (by assumption) | exact nt_cell (by assumption) | exact nt_cls (fun q => nomatch q)) ?_)) (by rfl) eA eB
    simp only [retab] at cN₄
    k_sweep
    repeat (first | (ks_step "exec Expr"; refine ks_wpAt_Expr_any ?_ (by rfl) (by with_unfolding_all rfl)) | (ks_step "eval Call"; refine at_MethodCallKW ?_ (by with_unfolding_all rfl)) | walk1 | (dsimp only; walk1))
    (try dsimp only)
    refine' ⟨_, _, _, rfl, ?hI, ?hl, ?_⟩
    case hI => exact News.get (by k_asm) (by k_mem)
    case hl => exact isList_of (vs := [_]) (Fr.keep (by k_asm) _ _ hD)
    intro h₅ tk₅ hk₅
    have cF₅ := fr_dropI (by k_asm) cN₄ hk₅
    have cN₅ := news_dropI cN₄ (by simp only [List.forall_mem_cons, List.not_mem_nil, false_implies, implies_true, and_true]; exact hne) hk₅
    k_sweep
    repeat ((fail_if_success (with_reducible refine stop_call (f := 931) ?_)); (first | (ks_step "exec Expr"; refine ks_wpAt_Expr_any ?_ (by rfl) (by with_unfolding_all rfl)) | (ks_step "eval Call"; refine at_MethodCallKW ?_ (by with_unfolding_all rfl)) | walk1 | (dsimp only; walk1)))
    refine' c_matof ?B ?F ?X ?T (frames_in ?B) ?hf ?hk ?hd ?hu ?hh ?q0 ?q1 ?q2 ?ret
    case B => k_asm
    case F => k_asm
    case X => k_asm
    case T => k_asm
    case hf => rfl
    case hk => rfl
    case hd => k_room
    case hu => k_room
    case hh => first | assumption | rfl
    case q0 => exact Fr.keep (by k_asm) _ _ hD
    case q1 => exact Fr.keep (by k_asm) _ _ hrow
    case q2 => exact hlen
    case ret =>
      intro v₄ h₄ tk₄ hk₄ post₄
      obtain ⟨M, dM, a1, a2, a3, b1, b2, b3, nn, rfl, hM0, hdM0, hM, hdM⟩ := post₄
      have sM := fresh_of (by k_asm) hsg (TabsOk.of_news (by k_asm) (by k_mem) (by k_mem) (by assumption) (by assumption)) hM0
      have sdM := fresh_of (by k_asm) hsg (TabsOk.of_news (by k_asm) (by k_mem) (by k_mem) (by assumption) (by assumption)) hdM0
      have cF₄ := Fr.keeps (by k_asm) hk₄
      have cN₄ := News.grown (by k_asm) hk₄
      replace cN₄ := news_add (by k_asm) cN₄ hdM0 hdM
      replace cN₄ := news_add (by k_asm) cN₄ hM0 hM
      k_sweep
      repeat (first | (ks_step "exec Expr"; refine ks_wpAt_Expr_any ?_ (by rfl) (by with_unfolding_all rfl)) | (ks_step "eval Call"; refine at_MethodCallKW ?_ (by with_unfolding_all rfl)) | walk1 | (dsimp only; walk1))
      (try dsimp only)
      refine' ret_ofT hQ (by k_asm) (by k_asm) hsg (by k_mem) (by k_mem) (by assumption) (by assumption) (by assumption) ?_
      exact ⟨_, _, _, _, _, _, _, _, _, rfl, sM, sdM, News.get (by k_asm) (by k_mem), News.get (by k_asm) (by k_mem)⟩
  (run_tac sh1)


end

theorem fresh_31 : True := by
  w_top off
  trivial
theorem PolyNew.step {g₀ g h h' : Heap} {r z : Addr} {ns : List Int} (hold : Older g₀ g) (k : ∀ b o, g.get? b = none → h.get? b = some o → h'.get? b = some o) : PolyNew g h r z ns → PolyNew g₀ h' r z ns
  | ⟨dz, l, e1, e2, t1, t2, n, vs, j, p, q, u, a, b, c, d, e⟩ => ⟨dz, l, e1, e2, t1, t2, n, vs, j, hold _ p, hold _ q, hold _ u, k _ _ p a, k _ _ q b, k _ _ u c, d, e⟩
theorem PolyAt.lift {h g : Heap} {r z : Addr} {ns : List Int} (ht : TabsOk h) (k : ∀ b o, b ∉ tabs → h.get? b = some o → g.get? b = some o) : PolyAt h r z ns → PolyAt g r z ns
  | ⟨l, dz, e1, e2, t1, t2, n, vs, j, a, b, c, d, e⟩ => ⟨l, dz, e1, e2, t1, t2, n, vs, j, k _ _ (off_tabs ht a (by nofun)) a, k _ _ (off_tabs ht b (by nofun)) b, k _ _ (off_tabs ht c (by nofun)) c, d, e⟩
theorem RingAt.lift {h g : Heap} {r : Addr} (ht : TabsOk h) (k : ∀ b o, b ∉ tabs → h.get? b = some o → g.get? b = some o) : RingAt h r → RingAt g r
  | ⟨dr, n2, f1, f2, f3, f4, f5, f6, g1, g2, g3, g4, g5, g6, u1, u2, v3, v4, v5, v6, a, b⟩ => ⟨dr, n2, f1, f2, f3, f4, f5, f6, g1, g2, g3, g4, g5, g6, u1, u2, v3, v4, v5, v6, k _ _ (off_tabs ht a (by nofun)) a, k _ _ (off_tabs ht b (by nofun)) b⟩
theorem fr_tabL {g h h' : Heap} {L : Addr} {m m' : Str → Option Value} (F : Fr g L h m) (hn : h'.Ns L m') (k : ∀ b o, b ∉ tabs → b ≠ L → h.get? b = some o → h'.get? b = some o) (h0 : ∀ P ∈ tabs, g.get? P = none) : Fr g L h' m' :=
  ⟨hn, fun b o e => k b o (fun q => by rw [h0 b q] at e; cases e) (fr_ne F e) (F.keep b o e), F.above⟩
theorem news_tabL {g h h' : Heap} {L : Addr} {news : List (Addr × Obj)} {ps1 ps2 : Array Value} (N : News g L h news) (ht : TabsOk h) (k : ∀ b o, b ∉ tabs → b ≠ L → h.get? b = some o → h'.get? b = some o) (h0 : ∀ P ∈ tabs, g.get? P = none) (hL : L ∉ tabs) (hi : InitOff news) (hl : lastTwo news = [742, 695]) (e1 : h'.get? 742 = some (tabObj ps1)) (e2 : h'.get? 695 = some (tabObj ps2)) :
    News g L h' (retab (tabObj ps1) (tabObj ps2) news) := fun p hp => by
  rcases mem_retab hi hl p hp with ⟨q, hb⟩ | rfl | rfl
  · exact ⟨k _ _ (off_nt ht (N p q).1 hb) (N p q).2.1 (N p q).1, (N p q).2⟩
  · exact ⟨e1, fun q => hL (q ▸ List.mem_cons_self ..), h0 _ (List.mem_cons_self ..)⟩
  · exact ⟨e2, fun q => hL (q ▸ List.mem_cons_of_mem _ (List.mem_cons_self ..)), h0 _ (List.mem_cons_of_mem _ (List.mem_cons_self ..))⟩
inductive NewMat (g h : Heap) (md r : Addr) (bt : Bool) (v : Value) (ns : List Int) : Prop
  | mk (M dM D row z : Addr) (e1 e2 e3 : Int) (t1 t2 t3 : Tok) (n k1 k2 : Nat) (hv : v = .ref M) (p1 : g.get? M = none) (p2 : g.get? dM = none) (p3 : g.get? D = none) (p4 : g.get? row = none) (a : h.get? M = some (instObj 886 dM)) (b : h.get? dM = some (matD md (.ref D) bt e1 e2 e3 t1 t2 t3 n)) (c : h.get? D = some (listOf #[.ref row] k1)) (d : h.get? row = some (listOf #[.ref z] k2)) (P : PolyNew g h r z ns) : NewMat g h md r bt v ns
theorem PolyAt.insts {h : Heap} {r z : Addr} {ns : List Int} : PolyAt h r z ns → ∃ dz od, h.get? z = some (instObj 592 dz) ∧ h.get? dz = some od ∧ od.cls ≠ .none
  | ⟨l, dz, e1, e2, t1, t2, n, vs, j, a, b, _, _, _⟩ => ⟨dz, _, a, b, by nofun⟩
section
variable {w : World} {A₀ A : Around} {base h₀ : Heap} {outer : List Env} {env : Env} {L : Addr} {m : Str → Option Value} {p : Program} {loose : List Str} {mean : ExcName → Option Value} {mg mb : Str → Option Value}
    {s : Shared} {Q : Value → Shared → Prop} {E : Value → Shared → Prop}
theorem c_scale {md dmd r : Addr} {em : Int} {tm : Tok} {nm : Nat} {M dM D row : Addr} {x1 x2 x3 : Int} {y1 y2 y3 : Tok} {n k1 k2 : Nat} {pz f : Addr} {ns fs : List Int}
    (B : Below A₀ base outer h₀) (F : Fr h₀ L s.heap m) (X : (Mine.hd.heap_39 w.params).In h₀) (T : Top p loose mean mg mb h₀) (hA : A.frames = some (env :: outer)) (hf : env.frame = some L) (hk : env.scope.kind = .function) (hd : A.depth ≤ 680) (hu : A.units ≤ 6800) (hh : A.handled = none) (h0 : ∀ P ∈ tabs, h₀.get? P = none) (ht : TabsOk s.heap) (hg : AllBare s.gens)
    (hmd : s.heap.get? md = some (instObj 983 dmd)) (hdmd : s.heap.get? dmd = some (modD r em tm nm)) (HR : RingAt s.heap r) (hM : s.heap.get? M = some (instObj 907 dM)) (hdM : s.heap.get? dM = some (matD md (.ref D) true x1 x2 x3 y1 y2 y3 n)) (hD : s.heap.get? D = some (listOf #[.ref row] k1)) (hrow : s.heap.get? row = some (listOf #[.ref pz] k2)) (HP : PolyAt s.heap r pz ns) (HF : PolyAt s.heap r f fs) (hsm : Small fs)
    (hQ : RetT s Q (fun v h => NewMat s.heap h md r true v (List.zipWith (fun a b => (a * b).fmod 8380417) fs ns))) :
    wpAny (model PySem.Challenge.rw_ix0027_01.row.prog w) A (call (.ref 703) [.ref M, .ref f] []) Q E s := by
  (run_tac sh0)
  refine wpAny_call ?_
  refine' enterT (binds := [(Str.ofString "self", .ref M), (Str.ofString "other", .ref f)]) B F X T hA hf hk h0 ht ?k8 ?k6 ?k7 ?k9 ?kB ?c5 ?c2 ?c3 ?c4 ?_
  case k6 => k_is
  case k7 => k_is
  case k8 => k_room
  case k9 => exact BindsTo.of_eq rfl
  case c5 => decide +kernel
  case kB => exact rfl
  case c2 => exact rfl
  case c3 => exact rfl
  case c4 => exact rfl
  intro g L' h' tk' cells' ps1 ps2 hgdef F' N' Y' B' X' T' r1 r2 hg0 hLt hsg
  replace hmd := hsg _ _ (off_tabs ht hmd (by nofun)) hmd
  replace hdmd := hsg _ _ (off_tabs ht hdmd (by nofun)) hdmd
  replace hM := hsg _ _ (off_tabs ht hM (by nofun)) hM
  replace hdM := hsg _ _ (off_tabs ht hdM (by nofun)) hdM
  replace hD := hsg _ _ (off_tabs ht hD (by nofun)) hD
  replace hrow := hsg _ _ (off_tabs ht hrow (by nofun)) hrow
  have hL7 : @LT.lt Nat instLTNat 742 L' := Nat.lt_of_lt_of_le (ht.lt (List.mem_cons_self ..)) (by have q := F'.above; rw [hgdef, hideAll_size] at q; exact q)
  have hL6 : @LT.lt Nat instLTNat 695 L' := Nat.lt_trans (by decide) hL7
  clear B F X T hA hf hk h0 hgdef
  k_cells Y'
  simp only [List.append_nil, List.cons_append, List.nil_append] at N'
  (try dsimp only)
  replace HP := PolyAt.lift ht hsg HP
  replace HF := PolyAt.lift ht hsg HF
  replace HR := RingAt.lift ht hsg HR
  have HR' := HR
  obtain ⟨df, fod, hf, hdf, hfc⟩ := PolyAt.insts HF
  obtain ⟨dp, pod, hp, hdp, hpc⟩ := PolyAt.insts HP
  obtain ⟨dr, n2, f1, f2, f3, f4, f5, f6, g1, g2, g3, g4, g5, g6, u1, u2, v3, v4, v5, v6, hr, hdr⟩ := HR
  repeat ((fail_if_success (with_reducible refine stop_call (f := 389) ?_)); (first | walk1 | (dsimp only; walk1)))
  refine' c_isel ?B ?F ?X ?T (frames_in ?B) ?hf ?hk ?hd ?hu ?hh ?q0 ?q1 ?ret
  case B => k_asm
  case F => k_asm
  case X => k_asm
  case T => k_asm
  case hf => rfl
  case hk => rfl
  case hd => k_room
  case hu => k_room
  case hh => first | assumption | rfl
  case q0 => exact Fr.keep (by k_asm) _ _ hf
  case q1 => exact Fr.keep (by k_asm) _ _ hdf
  case ret =>
    intro v₄ h₄ tk₄ hk₄ post₄
    subst post₄
    have cF₄ := Fr.keeps (by k_asm) hk₄
    have cN₄ := News.grown (by k_asm) hk₄
    k_sweep
    repeat ((fail_if_success (with_reducible refine stop_Assign ?_)); (first | walk1 | (dsimp only; walk1)))
    refine' oneL_Assign ?hsw ?hclos ?hcl ?hpc ?hkind ?hnames ?hx ?hy ?hp ?_
    case hsw => with_unfolding_all rfl
    case hclos => with_unfolding_all rfl
    case hcl => exact fun _ => rfl
    case hpc => exact fun _ => rfl
    case hkind => rfl
    case hnames => decide
    case hx => rfl
    case hy => rfl
    case hp => rfl
    repeat ((fail_if_success (with_reducible refine stop_COA ?_)); (first | walk1 | (dsimp only; walk1)))
    have ht₀ := (TabsOk.of_news (by k_asm) (by k_mem) (by k_mem) (by assumption) (by assumption))
    refine' ⟨_, (fun y g₀ h => ∃ rw z k, y = .ref rw ∧ g₀.get? rw = none ∧ h.get? rw = some (listOf #[.ref z] k) ∧ PolyNew g₀ h r z (List.zipWith (fun a b => (a * b).fmod 8380417) fs ns)), g, _, Src1.list ?hh (isList_of (vs := [_]) (Fr.keep (by k_asm) _ _ hD)) ht₀, ht₀, hg, by k_asm, hLt, ?hF, ?helt, ?hQ⟩
    case hh => assumption
    case hF => exact fun y g₀ g h h' ho k ⟨rw', z, j, e, a, b, P⟩ => ⟨rw', z, j, e, ho _ a, k _ _ a b, PolyNew.step ho k P⟩
    case helt =>
      intro C v s₂ m₂ E' hC hPv hN hm hk₂ ht₂ hg₂
      subst hPv
      have cF := Fr.keeps (by k_asm) hk₂
      have cN := News.grown (by k_asm) hk₂
      k_sweep
      repeat ((fail_if_success (with_reducible refine stop_Comp ?_)); (first | walk1 | (dsimp only; walk1)))
      refine' oneL_ListComp ?hclos ?hcl ?hpc ?hkind ?hnames ?hx ?_
      case hclos => with_unfolding_all rfl
      case hcl => exact fun _ => rfl
      case hpc => exact fun _ => rfl
      case hkind => rfl
      case hnames => decide
      case hx => rfl
      repeat ((fail_if_success (with_reducible refine stop_COL ?_)); (first | walk1 | (dsimp only; walk1)))
      refine' ⟨_, (fun y g₀ h => ∃ z, y = .ref z ∧ PolyNew g₀ h r z (List.zipWith (fun a b => (a * b).fmod 8380417) fs ns)), Src1.list (by assumption) (isList_of (vs := [_]) (Fr.keep (by k_asm) _ _ hrow)) ht₂, ht₂, hg₂, ?hFi, ?helti, ?hQi⟩
      case hFi => exact fun y g₀ g h h' ho k ⟨z, e, P⟩ => ⟨z, e, PolyNew.step ho k P⟩
      case helti =>
        intro C' v' s₃ m₃ E'' hC' hPv' hN' hm' hk₃ ht₃ hg₃
        subst hPv'
        have cF' := Fr.keeps (by k_asm) hk₃
        have cN' := News.grown (by k_asm) hk₃
        k_sweep
        repeat ((fail_if_success (with_reducible refine stop_call (f := 589) ?_)); (first | walk1 | (dsimp only; walk1)))
        refine' c_pmul ?B ?F ?X ?T (frames_in ?B) ?hf ?hk ?hd ?hu ?hh ?q0 ?q1 ?q2 ?q3 ?ret
        case B => k_asm
        case F => k_asm
        case X => k_asm
        case T => k_asm
        case hf => rfl
        case hk => rfl
        case hd => k_room
        case hu => k_room
        case hh => first | assumption | rfl
        case q0 => exact RingAt.mono (Fr.keep (by k_asm)) HR'
        case q1 => exact PolyAt.mono (Fr.keep (by k_asm)) HF
        case q2 => exact PolyAt.mono (Fr.keep (by k_asm)) HP
        case q3 => exact hsm
        case ret =>
          intro v₄ h₄ tk₄ hk₄ post₄
          obtain ⟨z, rfl, post₄⟩ := post₄
          have cF₄ := Fr.keeps (by k_asm) hk₄
          have cN₄ := News.grown (by k_asm) hk₄
          k_sweep
          exact ⟨⟨_, rfl, post₄⟩, KeepsT.of ⟨_, _, rfl, hk₄⟩ ht₃ hg₃⟩
      case hQi =>
        intro D' y k' h₄ tk₄ gs₄ hD0 hDn hFy hkt htok hgs
        obtain ⟨z, rfl, HZ⟩ := hFy
        exact ⟨⟨D', z, k', rfl, hD0, hDn, HZ⟩, h₄, tk₄, gs₄, rfl, hkt, htok, hgs⟩
    case hQ =>
      intro D' u k' h₃ tk₃ gs₃ hDn0 hDn hFu hNs hkt htok hgs
      obtain ⟨psA, eA, rA⟩ := htok 742 (List.mem_cons_self ..)
      obtain ⟨psB, eB, rB⟩ := htok 695 (List.mem_cons_of_mem _ (List.mem_cons_self ..))
      obtain ⟨rw₁, z₁, k₁, rfl, hrw0, hrw, HZ⟩ := hFu
      obtain ⟨dz, lz, e5, e6, t5, t6, n5, zs, kz, hz0, hdz0, hlz0, hz, hdz, hlz, hiz, hnz⟩ := HZ
      have sD := fresh_of (by k_asm) hsg ht₀ hDn0
      have srw := fresh_of (by k_asm) hsg ht₀ hrw0
      have sz := fresh_of (by k_asm) hsg ht₀ hz0
      have sdz := fresh_of (by k_asm) hsg ht₀ hdz0
      have slz := fresh_of (by k_asm) hsg ht₀ hlz0
      have cF₃ := fr_tabL (by k_asm) hNs hkt hg0
      have cN₃ := news_tabL (by k_asm) ht₀ hkt hg0 hLt (by repeat' (first | exact trivial | refine And.intro (by first | exact nt_cls (by assumption) | exact nt_cell (by assumption) | exact nt_cls (fun q => nomatch q)) ?_)) (by rfl) eA eB
      simp only [retab] at cN₃
      replace cN₃ := news_add (by k_asm) cN₃ hlz0 hlz
      replace cN₃ := news_add (by k_asm) cN₃ hdz0 hdz
      replace cN₃ := news_add (by k_asm) cN₃ hz0 hz
      replace cN₃ := news_add (by k_asm) cN₃ hrw0 hrw
      replace cN₃ := news_add (by k_asm) cN₃ hDn0 hDn
      k_sweep
      repeat ((fail_if_success (with_reducible refine stop_call (f := md) ?_)); (first | walk1 | (dsimp only; walk1)))
      refine' own_call (f := 747) ?X ?I ?k3 ?hs ?hf ?hfn ?_
      case X => k_in
      case I => k_inst
      case k3 => exact rfl
      case hs => k_is
      case hf => k_is
      case hfn => k_is
      refine' c_mcallk ?B ?F ?X ?T (frames_in ?B) ?hf ?hk ?hd ?hu ?hh ?h0 ?ht ?hg ?q0 ?q1 ?q2 ?q3 ?q4 ?q5 ?q6 ?ret
      case B => k_asm
      case F => k_asm
      case X => k_asm
      case T => k_asm
      case hf => rfl
      case hk => rfl
      case hd => k_room
      case hu => k_room
      case hh => first | assumption | rfl
      case h0 => assumption
      case ht => exact (TabsOk.of_news (by k_asm) (by k_mem) (by k_mem) (by assumption) (by assumption))
      case hg => assumption
      case q0 => exact Fr.keep (by k_asm) _ _ hmd
      case q1 => exact Fr.keep (by k_asm) _ _ hdmd
      case q2 => exact RingAt.mono (Fr.keep (by k_asm)) HR'
      case q3 => exact News.get (by k_asm) (by k_mem)
      case q4 => exact News.get (o := listOf [.ref z₁].toArray _) (by k_asm) (by k_mem)
      case q5 => exact (by decide : 1 ≤ 2)
      case q6 => exact fun u hu => ⟨z₁, dz, _, List.mem_singleton.mp hu, News.get (by k_asm) (by k_mem), News.get (by k_asm) (by k_mem), by nofun⟩
      case ret =>
        intro v₄ h₄ tk₄ gs₄ hk₄ ht₄ hg₄ post₄
        obtain ⟨M', dM', a1, a2, a3, b1, b2, b3, nn, rfl, hM0, hdM0, hM', hdM'⟩ := post₄
        have sM := fresh_of (by k_asm) hsg (TabsOk.of_news (by k_asm) (by k_mem) (by k_mem) (by assumption) (by assumption)) hM0
        have sdM := fresh_of (by k_asm) hsg (TabsOk.of_news (by k_asm) (by k_mem) (by k_mem) (by assumption) (by assumption)) hdM0
        obtain ⟨psA, eA, rA⟩ := ht₄ 742 (List.mem_cons_self ..)
        obtain ⟨psB, eB, rB⟩ := ht₄ 695 (List.mem_cons_of_mem _ (List.mem_cons_self ..))
        have cF₄ := fr_tab (by k_asm) hk₄ (by assumption) (by assumption)
        have cN₄ := news_tab (by k_asm) (TabsOk.of_news (by k_asm) (by k_mem) (by k_mem) (by assumption) (by assumption)) hk₄ (by assumption) (by assumption) (by repeat' (first | exact trivial | refine And.intro (by first | exact nt_cls (by assumption) | exact nt_cell (by assumption) | exact nt_cls (fun q => nomatch q)) ?_)) (by rfl) eA eB
        simp only [retab] at cN₄
        replace cN₄ := news_add (by k_asm) cN₄ hdM0 hdM'
        replace cN₄ := news_add (by k_asm) cN₄ hM0 hM'
        k_sweep
        repeat (first | walk1 | (dsimp only; walk1))
        (try dsimp only)
        refine' ret_ofT hQ (by k_asm) (by k_asm) hsg (by k_mem) (by k_mem) (by assumption) (by assumption) (by assumption) ?_
        have G : ∀ a o, (a, o) ∈ _ → h₄.get? a = some o := fun a o hm => News.get (by k_asm) hm
        exact ⟨_, _, _, _, _, _, _, _, _, _, _, _, _, _, rfl, sM, sdM, sD, srw, G _ _ (by k_mem), G _ _ (by k_mem), G _ _ (by k_mem), G _ _ (by k_mem), dz, lz, e5, e6, t5, t6, n5, zs, kz, sz, sdz, slz, G _ _ (by k_mem), G _ _ (by k_mem), G _ _ (by k_mem), hiz, hnz⟩
  (run_tac sh1)

end

theorem fresh_32 : True := by
  w_top off
  trivial
theorem assign_LC {prog : Program} {w : World} {A : Around} {E : Value → Shared → Prop} {s : Shared} {cn : Str} {cs : Scope} {L a c T : Addr} {ccd : Value} {cl : List (Str × Addr)} {x y : Str} {px py pt : Pos} {kt : Nat} {va vb : Value} {g : Heap} {m : Str → Option Value} {news : List (Addr × Obj)} {o : Obj} {v₀ : Option Value} {gf : Obj → List (Addr × Obj)} {Q : Unit → Shared → Prop}
    (hh : A.handled = none) (F : Fr g L s.heap m) (N : News g L s.heap news) (ht : s.heap.IsTuple T #[va, vb]) (hc : cl.lookup y = some c) (U : UpdF c o news gf) (hd : o.data = .cell v₀)
    (h : ∀ h' o' tk, Fr g L h' (fun z => if z = x then some va else m z) → News g L h' (gf o') → o'.data = .cell (some vb) → Q () { s with heap := h', toks := tk })
    (hk : cs.kind = .function := by rfl) (hx : (envX cn cs L a ccd cl).kindOf x = some .local := by rfl) (hy : (envX cn cs L a ccd cl).kindOf y = some .cell := by rfl) :
    wpAny (model prog w) A (assign (.Tuple [.Name x px, .Name y py] kt pt) (envX cn cs L a ccd cl) (.ref T)) Q E s := by
  (run_tac sh0)
  refine wpAny_assign_Tuple hh ht rfl rfl fun h₁ hx₁ => ?_
  have k₁ : ∀ b o, s.heap.get? b = some o → h₁.get? b = some o := fun b o e => hx₁ b o (Nat.ne_of_lt (Heap.lt_size e)) e
  have F₁ := Fr.keeps F k₁
  have N₁ := News.grown N k₁
  show wpAny _ _ (do holding [vb] (assign (.Name x px) (envX cn cs L a ccd cl) va); do holding [] (assign (.Name y py) (envX cn cs L a ccd cl) vb); pure ()) _ _ _
  refine wpAny_bind (wpAny_holding (wpAny_assign_Name (storeX_L (s := { s with heap := h₁ }) F₁ N₁ (fun h₂ F₂ N₂ => ?_) hk hx)))
  refine wpAny_bind (wpAny_holding (wpAny_assign_Name (storeX_C (s := { s with heap := h₂, toks := s.toks + 1 }) F₂ N₂ hc U hd (fun h₃ o' F₃ N₃ d' => ?_) hk hy)))
  exact wpAny_pure (h h₃ o' _ F₃ N₃ d')
  (run_tac sh1)
theorem newTuple_own {M : Model} {A : Around} {E : Value → Shared → Prop} {s : Shared} {h₀ : Heap} {L : Addr} {m : Str → Option Value} {news : List (Addr × Obj)} {vs : List Value} {Q : Value → Shared → Prop} (F : Fr h₀ L s.heap m) (N : News h₀ L s.heap news)
    (h : ∀ T h', Fr h₀ L h' m → News h₀ L h' ((T, ({ cls := .type "tuple", data := .seq vs.toArray } : Obj)) :: news) → (∀ b o, s.heap.get? b = some o → h'.get? b = some o) → s.heap.get? T = none → Q (.ref T) { s with heap := h' }) (hz : vs.length ≤ sizeLine) :
    wpAny M A (newTuple vs) Q E s := by
  refine wpAny_newObj_type (h s.heap.objs.size _ (F.push _) ?_ (fun b o e => Heap.get?_push_of_some _ e) (Heap.get?_none_of_le (Nat.le_refl _))) (by have : vs.toArray.size = vs.length := List.size_toArray; size_fits)
  exact news_add F (News.grown N fun b o e => Heap.get?_push_of_some _ e) (Heap.get?_none_of_le (Nat.le_refl _)) (Heap.get?_push_size _ rfl)
theorem stop_newTuple {M : Model} {A : Around} {vs : List Value} {Q : Value → Shared → Prop} {E : Value → Shared → Prop} {s : Shared} (h : wpAny M A (newTuple vs) Q E s) : wpAny M A (newTuple vs) Q E s := h
theorem stop_assign {M : Model} {A : Around} {a : PySem.Expr} {env : Env} {v : Value} {Q : Unit → Shared → Prop} {E : Value → Shared → Prop} {s : Shared} (h : wpAny M A (assign a env v) Q E s) : wpAny M A (assign a env v) Q E s := h
theorem stop_cmp {M : Model} {A : Around} {op : CmpOp} {a b : Value} {Q : Value → Shared → Prop} {E : Value → Shared → Prop} {s : Shared} (h : wpAny M A (compareOp op a b) Q E s) : wpAny M A (compareOp op a b) Q E s := h
section
variable {w : World} {A₀ A : Around} {base h₀ : Heap} {outer : List Env} {env : Env} {L : Addr} {m : Str → Option Value} {p : Program} {loose : List Str} {mean : ExcName → Option Value} {mg mb : Str → Option Value}
    {s : Shared} {Q : Value → Shared → Prop} {E : Value → Shared → Prop}
theorem c_msub {md dmd r : Addr} {em : Int} {tm : Tok} {nm : Nat} {M dM D row : Addr} {x1 x2 x3 : Int} {y1 y2 y3 : Tok} {n k1 k2 : Nat} {Mo dMo Do rowo : Addr} {x1o x2o x3o : Int} {y1o y2o y3o : Tok} {no k1o k2o : Nat} {pz f : Addr} {ns fs : List Int}
    (B : Below A₀ base outer h₀) (F : Fr h₀ L s.heap m) (X : (Mine.hd.heap_39 w.params).In h₀) (T : Top p loose mean mg mb h₀) (hA : A.frames = some (env :: outer)) (hf : env.frame = some L) (hk : env.scope.kind = .function) (hd : A.depth ≤ 680) (hu : A.units ≤ 6800) (hh : A.handled = none) (h0 : ∀ P ∈ tabs, h₀.get? P = none) (ht : TabsOk s.heap) (hg : AllBare s.gens)
    (hmd : s.heap.get? md = some (instObj 983 dmd)) (hdmd : s.heap.get? dmd = some (modD r em tm nm)) (HR : RingAt s.heap r) (hM : s.heap.get? M = some (instObj 886 dM)) (hdM : s.heap.get? dM = some (matD md (.ref D) false x1 x2 x3 y1 y2 y3 n)) (hD : s.heap.get? D = some (listOf #[.ref row] k1)) (hrow : s.heap.get? row = some (listOf #[.ref pz] k2)) (hMo : s.heap.get? Mo = some (instObj 886 dMo)) (hdMo : s.heap.get? dMo = some (matD md (.ref Do) true x1o x2o x3o y1o y2o y3o no)) (hDo : s.heap.get? Do = some (listOf #[.ref rowo] k1o)) (hrowo : s.heap.get? rowo = some (listOf #[.ref f] k2o)) (HP : PolyAt s.heap r pz ns) (HF : PolyAt s.heap r f fs)
    (hQ : RetT s Q (fun v h => NewMat s.heap h md r false v (List.zipWith (fun a b => (a - b).fmod 8380417) ns fs))) :
    wpAny (model PySem.Challenge.rw_ix0027_01.row.prog w) A (call (.ref 686) [.ref M, .ref Mo] []) Q E s := by
  (run_tac sh0)
  refine wpAny_call ?_
  refine' enterT (binds := [(Str.ofString "self", .ref M), (Str.ofString "other", .ref Mo)]) B F X T hA hf hk h0 ht ?k8 ?k6 ?k7 ?k9 ?kB ?c5 ?c2 ?c3 ?c4 ?_
  case k6 => k_is
  case k7 => k_is
  case k8 => k_room
  case k9 => exact BindsTo.of_eq rfl
  case c5 => decide +kernel
  case kB => exact rfl
  case c2 => exact rfl
  case c3 => exact rfl
  case c4 => exact rfl
  intro g L' h' tk' cells' ps1 ps2 hgdef F' N' Y' B' X' T' r1 r2 hg0 hLt hsg
  replace hmd := hsg _ _ (off_tabs ht hmd (by nofun)) hmd
  replace hdmd := hsg _ _ (off_tabs ht hdmd (by nofun)) hdmd
  replace hM := hsg _ _ (off_tabs ht hM (by nofun)) hM
  replace hdM := hsg _ _ (off_tabs ht hdM (by nofun)) hdM
  replace hD := hsg _ _ (off_tabs ht hD (by nofun)) hD
  replace hrow := hsg _ _ (off_tabs ht hrow (by nofun)) hrow
  replace hMo := hsg _ _ (off_tabs ht hMo (by nofun)) hMo
  replace hdMo := hsg _ _ (off_tabs ht hdMo (by nofun)) hdMo
  replace hDo := hsg _ _ (off_tabs ht hDo (by nofun)) hDo
  replace hrowo := hsg _ _ (off_tabs ht hrowo (by nofun)) hrowo
  have hL7 : @LT.lt Nat instLTNat 742 L' := Nat.lt_of_lt_of_le (ht.lt (List.mem_cons_self ..)) (by have q := F'.above; rw [hgdef, hideAll_size] at q; exact q)
  have hL6 : @LT.lt Nat instLTNat 695 L' := Nat.lt_trans (by decide) hL7
  clear B F X T hA hf hk h0 hgdef
  k_cells Y'
  simp only [List.append_nil, List.cons_append, List.nil_append] at N'
  (try dsimp only)
  replace HP := PolyAt.lift ht hsg HP
  replace HF := PolyAt.lift ht hsg HF
  replace HR := RingAt.lift ht hsg HR
  have HR' := HR
  obtain ⟨df, fod, hf, hdf, hfc⟩ := PolyAt.insts HF
  obtain ⟨dp, pod, hp, hdp, hpc⟩ := PolyAt.insts HP
  obtain ⟨dr, n2, f1, f2, f3, f4, f5, f6, g1, g2, g3, g4, g5, g6, u1, u2, v3, v4, v5, v6, hr, hdr⟩ := HR
  repeat ((fail_if_success (with_reducible refine stop_cmp (op := .NotEq) ?_)); (first | walk1 | (dsimp only; walk1)))
  refine' ne_same_K ?hu ?F ?X ?I ?ne ?eq ?sub ?_
  case hu => k_room
  case F => k_asm
  case X => k_asm
  case I => k_inst
  case ne => k_is
  case eq => k_is
  case sub => k_is
  repeat ((fail_if_success (with_reducible refine stop_call (f := 621) ?_)); (first | walk1 | (dsimp only; walk1)))
  refine' c_dim886f ?B ?F ?X ?T (frames_in ?B) ?hf ?hk ?hd ?hu ?hh ?q0 ?q1 ?q2 ?q3 ?q4 ?ret
  case B => k_asm
  case F => k_asm
  case X => k_asm
  case T => k_asm
  case hf => rfl
  case hk => rfl
  case hd => k_room
  case hu => k_room
  case hh => first | assumption | rfl
  case q0 => exact Fr.keep (by k_asm) _ _ hM
  case q1 => exact Fr.keep (by k_asm) _ _ hdM
  case q2 => exact Fr.keep (by k_asm) _ _ hD
  case q3 => exact Fr.keep (by k_asm) _ _ hrow
  case q4 => exact (by decide : 1 ≤ 2)
  case ret =>
    intro v₄ h₄ tk₄ hk₄ post₄
    obtain ⟨T, ta, tb, rfl, hT0, hT⟩ := post₄
    have cF₄ := Fr.keeps (by k_asm) hk₄
    have cN₄ := News.grown (by k_asm) hk₄
    have offN := news_ne (by k_asm) hT0
    (simp only [List.forall_mem_cons, List.not_mem_nil, false_implies, implies_true, and_true] at offN)
    replace cN₄ := news_add (by k_asm) cN₄ hT0 hT
    k_sweep
    repeat ((fail_if_success (with_reducible refine stop_call (f := 621) ?_)); (first | walk1 | (dsimp only; walk1)))
    refine' c_dim886t ?B ?F ?X ?T (frames_in ?B) ?hf ?hk ?hd ?hu ?hh ?q0 ?q1 ?q2 ?q3 ?q4 ?ret
    case B => k_asm
    case F => k_asm
    case X => k_asm
    case T => k_asm
    case hf => rfl
    case hk => rfl
    case hd => k_room
    case hu => k_room
    case hh => first | assumption | rfl
    case q0 => exact Fr.keep (by k_asm) _ _ hMo
    case q1 => exact Fr.keep (by k_asm) _ _ hdMo
    case q2 => exact Fr.keep (by k_asm) _ _ hDo
    case q3 => exact Fr.keep (by k_asm) _ _ hrowo
    case q4 => exact (by decide : 1 ≤ 2)
    case ret =>
      intro v₄ h₄ tk₄ hk₄ post₄
      obtain ⟨T, ta, tb, rfl, hT0, hT⟩ := post₄
      have cF₄ := Fr.keeps (by k_asm) hk₄
      have cN₄ := News.grown (by k_asm) hk₄
      have offN := news_ne (by k_asm) hT0
      (simp only [List.forall_mem_cons, List.not_mem_nil, false_implies, implies_true, and_true] at offN)
      replace cN₄ := news_add (by k_asm) cN₄ hT0 hT
      k_sweep
      repeat ((fail_if_success (with_reducible refine stop_cmp (op := .NotEq) ?_)); (first | walk1 | (dsimp only; walk1)))
      walk1
      show wpAny _ _ (truthy (Value.bool false)) _ _ _
      repeat ((fail_if_success (with_reducible refine stop_call (f := 621) ?_)); (first | walk1 | (dsimp only; walk1)))
      refine' c_dim886f ?B ?F ?X ?T (frames_in ?B) ?hf ?hk ?hd ?hu ?hh ?q0 ?q1 ?q2 ?q3 ?q4 ?ret
      case B => k_asm
      case F => k_asm
      case X => k_asm
      case T => k_asm
      case hf => rfl
      case hk => rfl
      case hd => k_room
      case hu => k_room
      case hh => first | assumption | rfl
      case q0 => exact Fr.keep (by k_asm) _ _ hM
      case q1 => exact Fr.keep (by k_asm) _ _ hdM
      case q2 => exact Fr.keep (by k_asm) _ _ hD
      case q3 => exact Fr.keep (by k_asm) _ _ hrow
      case q4 => exact (by decide : 1 ≤ 2)
      case ret =>
        intro v₄ h₄ tk₄ hk₄ post₄
        obtain ⟨T, ta, tb, rfl, hT0, hT⟩ := post₄
        have cF₄ := Fr.keeps (by k_asm) hk₄
        have cN₄ := News.grown (by k_asm) hk₄
        have offN := news_ne (by k_asm) hT0
        (simp only [List.forall_mem_cons, List.not_mem_nil, false_implies, implies_true, and_true] at offN)
        replace cN₄ := news_add (by k_asm) cN₄ hT0 hT
        k_sweep
        repeat ((fail_if_success (with_reducible refine stop_assign ?_)); (first | walk1 | (dsimp only; walk1)))
        refine' assign_LC ?hh ?F ?N ?ht ?hc ?U ?hd ?_
        case hh => assumption
        case F => k_asm
        case N => k_asm
        case ht => exact ⟨_, News.get (a := T) (by k_asm) (by k_mem), rfl, _, rfl⟩
        case hc => rfl
        case U => k_updF
        case hd => assumption
        intro h₅ o₅ tk₅ F₅ N₅ d₅
        (try dsimp only at N₅)
        k_sweep
        repeat ((fail_if_success (with_reducible refine stop_Comp ?_)); (first | walk1 | (dsimp only; walk1)))
        refine' oneC_ListComp ?hclos ?hcl ?hpc ?hkind ?hnames ?hx ?_
        case hclos => with_unfolding_all rfl
        case hcl => exact fun _ => rfl
        case hpc => exact fun _ => rfl
        case hkind => rfl
        case hnames => decide
        case hx => exact fun _ _ => rfl
        repeat ((fail_if_success (with_reducible refine stop_COC ?_)); (first | walk1 | (dsimp only; walk1)))
        have ht₀ := (TabsOk.of_news (by k_asm) (by k_mem) (by k_mem) (by assumption) (by assumption))
        refine' ⟨_, (fun y g₀ h => ∃ rw z k, y = .ref rw ∧ g₀.get? rw = none ∧ h.get? rw = some (listOf #[.ref z] k) ∧ PolyNew g₀ h r z (List.zipWith (fun a b => (a - b).fmod 8380417) ns fs)), Src1.range (by assumption) (by assumption) ht₀, ht₀, hg, ?hF, ?helt, ?hQ⟩
        case hF => exact fun y g₀ g h h' ho k ⟨rw', z, j, e, a, b, P⟩ => ⟨rw', z, j, e, ho _ a, k _ _ a b, PolyNew.step ho k P⟩
        case helt =>
          intro C v s₂ m₂ oc E' hC hPv hN hcl hcd hk₂ ht₂ hg₂
          obtain ⟨ti, rfl⟩ := hPv
          have cF := Fr.keeps (by k_asm) hk₂
          have cN := news_add (by k_asm) (News.grown (by k_asm) hk₂) (Heap.get?_none_of_le (Nat.le_succ_of_le hC)) hcl
          k_sweep
          repeat ((fail_if_success (with_reducible refine stop_Comp ?_)); (first | walk1 | (dsimp only; walk1)))
          refine' oneL_ListComp ?hclos ?hcl ?hpc ?hkind ?hnames ?hx ?_
          case hclos => with_unfolding_all rfl
          case hcl => exact fun _ => rfl
          case hpc => exact fun _ => rfl
          case hkind => rfl
          case hnames => decide
          case hx => rfl
          repeat ((fail_if_success (with_reducible refine stop_COL ?_)); (first | walk1 | (dsimp only; walk1)))
          rename (∀ b o, s₂.heap.get? b = some o → _) => hkr
          replace ht₂ := TabsOk.keeps ht₂ hkr
          refine' ⟨_, (fun y g₀ h => ∃ z, y = .ref z ∧ PolyNew g₀ h r z (List.zipWith (fun a b => (a - b).fmod 8380417) ns fs)), Src1.range (by assumption) (by assumption) ht₂, ht₂, hg₂, ?hFi, ?helti, ?hQi⟩
          case hFi => exact fun y g₀ g h h' ho k ⟨z, e, P⟩ => ⟨z, e, PolyNew.step ho k P⟩
          case helti =>
            intro C' v' s₃ m₃ E'' hC' hPv' hN' hm' hk₃ ht₃ hg₃
            obtain ⟨tj, rfl⟩ := hPv'
            have kk : ∀ b o, s₃.heap.get? b = some o → s₃.heap.get? b = some o := fun _ _ e => e
            have cF' := Fr.keeps (by k_asm) hk₃
            have cN' := News.grown (by k_asm) hk₃
            k_sweep
            repeat ((fail_if_success (with_reducible refine stop_newTuple ?_)); (first | walk1 | (dsimp only; walk1)))
            refine' newTuple_own ?F ?N ?_ ?hz
            case hz => exact (by decide : 2 ≤ sizeLine)
            case F => k_asm
            case N => k_asm
            intro T₆ h₆ F₆ N₆ hk₆ hT₆
            have kk : ∀ b o, s₃.heap.get? b = some o → h₆.get? b = some o := fun b o e => hk₆ b o (kk b o e)
            replace hN' := Heap.Ns.keeps hN' hk₆
            k_sweep
            repeat ((fail_if_success (with_reducible refine stop_call (f := 650) ?_)); (first | walk1 | (dsimp only; walk1)))
            refine' c_get886f ?B ?F ?X ?T (frames_in ?B) ?hf ?hk ?hd ?hu ?hh ?q0 ?q1 ?q2 ?q3 ?q4 ?q5 ?q6 ?q7 ?q8 ?ret
            case B => k_asm
            case F => k_asm
            case X => k_asm
            case T => k_asm
            case hf => rfl
            case hk => rfl
            case hd => k_room
            case hu => k_room
            case hh => first | assumption | rfl
            case q0 => exact Fr.keep (by k_asm) _ _ hM
            case q1 => exact Fr.keep (by k_asm) _ _ hdM
            case q2 => exact Fr.keep (by k_asm) _ _ hD
            case q3 => exact Fr.keep (by k_asm) _ _ hrow
            case q4 => exact (by decide : 1 ≤ 2)
            case q5 => exact News.get (by k_asm) (by k_mem)
            case q6 => decide
            case q7 => decide
            case q8 => rfl
            case ret =>
              intro v₄ h₄ tk₄ hk₄ post₄
              subst post₄
              have kk : ∀ b o, s₃.heap.get? b = some o → h₄.get? b = some o := fun b o e => hk₄ b o (kk b o e)
              replace hN' := Heap.Ns.keeps hN' hk₄
              have cF₄ := Fr.keeps (by k_asm) hk₄
              have cN₄ := News.grown (by k_asm) hk₄
              k_sweep
              repeat ((fail_if_success (with_reducible refine stop_newTuple ?_)); (first | walk1 | (dsimp only; walk1)))
              refine' newTuple_own ?F ?N ?_ ?hz
              case hz => exact (by decide : 2 ≤ sizeLine)
              case F => k_asm
              case N => k_asm
              intro T₆ h₆ F₆ N₆ hk₆ hT₆
              have kk : ∀ b o, s₃.heap.get? b = some o → h₆.get? b = some o := fun b o e => hk₆ b o (kk b o e)
              replace hN' := Heap.Ns.keeps hN' hk₆
              k_sweep
              repeat ((fail_if_success (with_reducible refine stop_call (f := 650) ?_)); (first | walk1 | (dsimp only; walk1)))
              refine' c_get886t ?B ?F ?X ?T (frames_in ?B) ?hf ?hk ?hd ?hu ?hh ?q0 ?q1 ?q2 ?q3 ?q4 ?q5 ?q6 ?q7 ?q8 ?ret
              case B => k_asm
              case F => k_asm
              case X => k_asm
              case T => k_asm
              case hf => rfl
              case hk => rfl
              case hd => k_room
              case hu => k_room
              case hh => first | assumption | rfl
              case q0 => exact Fr.keep (by k_asm) _ _ hMo
              case q1 => exact Fr.keep (by k_asm) _ _ hdMo
              case q2 => exact Fr.keep (by k_asm) _ _ hDo
              case q3 => exact Fr.keep (by k_asm) _ _ hrowo
              case q4 => exact (by decide : 1 ≤ 2)
              case q5 => exact News.get (by k_asm) (by k_mem)
              case q6 => decide
              case q7 => decide
              case q8 => rfl
              case ret =>
                intro v₄ h₄ tk₄ hk₄ post₄
                subst post₄
                have kk : ∀ b o, s₃.heap.get? b = some o → h₄.get? b = some o := fun b o e => hk₄ b o (kk b o e)
                replace hN' := Heap.Ns.keeps hN' hk₄
                have cF₄ := Fr.keeps (by k_asm) hk₄
                have cN₄ := News.grown (by k_asm) hk₄
                k_sweep
                repeat ((fail_if_success (with_reducible refine stop_call (f := 584) ?_)); (first | walk1 | (dsimp only; walk1)))
                refine' c_psub ?B ?F ?X ?T (frames_in ?B) ?hf ?hk ?hd ?hu ?hh ?q0 ?q1 ?q2 ?ret
                case B => k_asm
                case F => k_asm
                case X => k_asm
                case T => k_asm
                case hf => rfl
                case hk => rfl
                case hd => k_room
                case hu => k_room
                case hh => first | assumption | rfl
                case q0 => exact RingAt.mono (Fr.keep (by k_asm)) HR'
                case q1 => exact PolyAt.mono (Fr.keep (by k_asm)) HP
                case q2 => exact PolyAt.mono (Fr.keep (by k_asm)) HF
                case ret =>
                  intro v₄ h₄ tk₄ hk₄ post₄
                  obtain ⟨z, rfl, post₄⟩ := post₄
                  have kk0 := kk
                  have kk : ∀ b o, s₃.heap.get? b = some o → h₄.get? b = some o := fun b o e => hk₄ b o (kk b o e)
                  replace hN' := Heap.Ns.keeps hN' hk₄
                  have cF₄ := Fr.keeps (by k_asm) hk₄
                  have cN₄ := News.grown (by k_asm) hk₄
                  k_sweep
                  exact ⟨⟨_, rfl, PolyNew.older kk0 post₄⟩, KeepsT.of ⟨_, _, rfl, kk⟩ ht₃ hg₃⟩
          case hQi =>
            intro D' y k' h₄ tk₄ gs₄ hD0 hDn hFy hkt htok hgs
            obtain ⟨z, rfl, HZ⟩ := hFy
            exact ⟨⟨D', z, k', rfl, none_of_keeps hkr hD0, hDn, PolyNew.older hkr HZ⟩, h₄, tk₄, gs₄, rfl, fun b o hb e => hkt b o hb (hkr b o e), htok, hgs⟩
        case hQ =>
          intro D' u k' h₃ tk₃ gs₃ hDn0 hDn hFu hkt htok hgs
          obtain ⟨psA, eA, rA⟩ := htok 742 (List.mem_cons_self ..)
          obtain ⟨psB, eB, rB⟩ := htok 695 (List.mem_cons_of_mem _ (List.mem_cons_self ..))
          obtain ⟨rw₁, z₁, k₁, rfl, hrw0, hrw, HZ⟩ := hFu
          obtain ⟨dz, lz, e5, e6, t5, t6, n5, zs, kz, hz0, hdz0, hlz0, hz, hdz, hlz, hiz, hnz⟩ := HZ
          have sD := fresh_of (by k_asm) hsg ht₀ hDn0
          have srw := fresh_of (by k_asm) hsg ht₀ hrw0
          have sz := fresh_of (by k_asm) hsg ht₀ hz0
          have sdz := fresh_of (by k_asm) hsg ht₀ hdz0
          have slz := fresh_of (by k_asm) hsg ht₀ hlz0
          have cF₃ := fr_tab (by k_asm) hkt hg0 hLt
          have cN₃ := news_tab (by k_asm) ht₀ hkt hg0 hLt (by repeat' (first | exact trivial | refine And.intro (by first | exact nt_cls (by assumption) | exact nt_cell (by assumption) | exact nt_cls (fun q => nomatch q)) ?_)) (by rfl) eA eB
          simp only [retab] at cN₃
          replace cN₃ := news_add (by k_asm) cN₃ hlz0 hlz
          replace cN₃ := news_add (by k_asm) cN₃ hdz0 hdz
          replace cN₃ := news_add (by k_asm) cN₃ hz0 hz
          replace cN₃ := news_add (by k_asm) cN₃ hrw0 hrw
          replace cN₃ := news_add (by k_asm) cN₃ hDn0 hDn
          k_sweep
          repeat ((fail_if_success (with_reducible refine stop_call (f := md) ?_)); (first | walk1 | (dsimp only; walk1)))
          refine' own_call (f := 747) ?X ?I ?k3 ?hs ?hf ?hfn ?_
          case X => k_in
          case I => k_inst
          case k3 => exact rfl
          case hs => k_is
          case hf => k_is
          case hfn => k_is
          refine' c_mcallp ?B ?F ?X ?T (frames_in ?B) ?hf ?hk ?hd ?hu ?hh ?h0 ?ht ?hg ?q0 ?q1 ?q2 ?q3 ?q4 ?q5 ?q6 ?ret
          case B => k_asm
          case F => k_asm
          case X => k_asm
          case T => k_asm
          case hf => rfl
          case hk => rfl
          case hd => k_room
          case hu => k_room
          case hh => first | assumption | rfl
          case h0 => assumption
          case ht => exact (TabsOk.of_news (by k_asm) (by k_mem) (by k_mem) (by assumption) (by assumption))
          case hg => assumption
          case q0 => exact Fr.keep (by k_asm) _ _ hmd
          case q1 => exact Fr.keep (by k_asm) _ _ hdmd
          case q2 => exact RingAt.mono (Fr.keep (by k_asm)) HR'
          case q3 => exact News.get (by k_asm) (by k_mem)
          case q4 => exact News.get (o := listOf [.ref z₁].toArray _) (by k_asm) (by k_mem)
          case q5 => exact (by decide : 1 ≤ 2)
          case q6 => exact fun u hu => ⟨z₁, dz, _, List.mem_singleton.mp hu, News.get (by k_asm) (by k_mem), News.get (by k_asm) (by k_mem), by nofun⟩
          case ret =>
            intro v₄ h₄ tk₄ gs₄ hk₄ ht₄ hg₄ post₄
            obtain ⟨M', dM', a1, a2, a3, b1, b2, b3, nn, rfl, hM0, hdM0, hM', hdM'⟩ := post₄
            have sM := fresh_of (by k_asm) hsg (TabsOk.of_news (by k_asm) (by k_mem) (by k_mem) (by assumption) (by assumption)) hM0
            have sdM := fresh_of (by k_asm) hsg (TabsOk.of_news (by k_asm) (by k_mem) (by k_mem) (by assumption) (by assumption)) hdM0
            obtain ⟨psA, eA, rA⟩ := ht₄ 742 (List.mem_cons_self ..)
            obtain ⟨psB, eB, rB⟩ := ht₄ 695 (List.mem_cons_of_mem _ (List.mem_cons_self ..))
            have cF₄ := fr_tab (by k_asm) hk₄ (by assumption) (by assumption)
            have cN₄ := news_tab (by k_asm) (TabsOk.of_news (by k_asm) (by k_mem) (by k_mem) (by assumption) (by assumption)) hk₄ (by assumption) (by assumption) (by repeat' (first | exact trivial | refine And.intro (by first | exact nt_cls (by assumption) | exact nt_cell (by assumption) | exact nt_cls (fun q => nomatch q)) ?_)) (by rfl) eA eB
            simp only [retab] at cN₄
            replace cN₄ := news_add (by k_asm) cN₄ hdM0 hdM'
            replace cN₄ := news_add (by k_asm) cN₄ hM0 hM'
            k_sweep
            repeat (first | walk1 | (dsimp only; walk1))
            (try dsimp only)
            refine' ret_ofT hQ (by k_asm) (by k_asm) hsg (by k_mem) (by k_mem) (by assumption) (by assumption) (by assumption) ?_
            have G : ∀ a o, (a, o) ∈ _ → h₄.get? a = some o := fun a o hm => News.get (by k_asm) hm
            exact ⟨_, _, _, _, _, _, _, _, _, _, _, _, _, _, rfl, sM, sdM, sD, srw, G _ _ (by k_mem), G _ _ (by k_mem), G _ _ (by k_mem), G _ _ (by k_mem), dz, lz, e5, e6, t5, t6, n5, zs, kz, sz, sdz, slz, G _ _ (by k_mem), G _ _ (by k_mem), G _ _ (by k_mem), hiz, hnz⟩
  (run_tac sh1)

end

theorem fresh_33 : True := by
  w_top off
  trivial
theorem SrcN.range' {prog : Program} {w : World} {A : Around} {s : Shared} {r : Addr} {t u v : Tok} (n : Nat) (hr : IsRange s.heap r 0 n 1 t u v) (hsm : Builtin.Range.small 0 (n : Int) 1 = true) (hn : Builtin.Range.rangeSize 0 (n : Int) 1 = ((n : Nat) : Int)) (ht : TabsOk s.heap) : SrcN prog w A (.ref r) n (fun i y => i < n ∧ ∃ t, y = .int (i : Nat) t) s := by
  (run_tac sh0)
  intro Q E h
  refine wpAny_pyIter_range hr hsm (h s.heap.objs.size _ _ [s.heap.objs.size] [s.heap.objs.size] _ _ (fun A' hA' => (Walks.range hA' _ 0 1 n).bound) ?_ (fun i u hu => ?_) (fun i g hg b hb => ?_) (fun b hb h0 => ?_) (fun b hb => ?_) (fun b hb => ?_) (by rw [Heap.size_push]; exact Nat.le_succ _) fun b o e => Heap.get?_push_of_some _ e)
  · show IsRangeIter _ _ _ _ _
    rw [hn]
    simpa using Heap.get?_push_size _ rfl
  · obtain ⟨hi, t, rfl⟩ := hu
    exact ⟨hi, t, by simp⟩
  · rw [List.mem_singleton.mp hb]
    have e : IsRangeIter _ _ _ _ _ := hg
    unfold IsRangeIter at e
    intro q; rw [e] at q; cases q
  · rw [List.mem_singleton.mp hb] at h0; exact Nat.lt_irrefl _ (ht.lt h0)
  · show b < (s.heap.push _).objs.size
    rw [Heap.size_push, List.mem_singleton.mp hb]
    exact Nat.lt_succ_self _
  · rw [List.mem_singleton.mp hb]; exact Heap.get?_none_of_le (Nat.le_refl _)
  (run_tac sh1)
theorem zip_cons {xs ys : List Int} {r z : Addr} {h : Heap} (H : PolyAt h r z (List.zipWith (fun a b => (a * b).fmod 8380417) xs ys)) : ∃ c ns, List.zipWith (fun a b => (a * b).fmod 8380417) xs ys = c :: ns ∧ (c + 0).fmod 8380417 = c := by
  (run_tac sh0)
  obtain ⟨l, dz, e1, e2, t1, t2, n, vs, k, _, _, _, _, hl⟩ := H
  cases xs with
  | nil => simp at hl
  | cons x xs =>
    cases ys with
    | nil => simp at hl
    | cons y ys =>
      refine ⟨_, _, rfl, ?_⟩
      show ((x * y).fmod 8380417 + 0).fmod 8380417 = (x * y).fmod 8380417
      rw [Int.add_zero, Int.fmod_eq_emod_of_nonneg _ (by decide), Int.fmod_eq_emod_of_nonneg _ (by decide), Int.emod_emod]
  (run_tac sh1)
theorem older_tab {h h' : Heap} (k : KeptT h h') (ht : TabsOk h') : Older h h' := fun b e => by
  by_cases q : b ∈ tabs
  · obtain ⟨ps, e', _⟩ := ht b q; rw [e] at e'; cases e'
  · cases e2 : h.get? b with
    | none => rfl
    | some o => rw [k b o q e2] at e; cases e
theorem stop_If {M : Model} {A : Around} {env : Env} {t : PySem.Expr} {b o : List Stmt} {p : Pos} {Q : Flow → Shared → Prop} {E : Value → Shared → Prop} {s : Shared} (h : wpAny M A (exec (.If t b o p) env) Q E s) : wpAny M A (exec (.If t b o p) env) Q E s := h
theorem stop_truthy {M : Model} {A : Around} {v : Value} {Q : Bool → Shared → Prop} {E : Value → Shared → Prop} {s : Shared} (h : wpAny M A (truthy v) Q E s) : wpAny M A (truthy v) Q E s := h
theorem stop_bin {M : Model} {A : Around} {op : Operator} {a b : Value} {Q : Value → Shared → Prop} {E : Value → Shared → Prop} {s : Shared} (h : wpAny M A (binaryOp op a b) Q E s) : wpAny M A (binaryOp op a b) Q E s := h
section
variable {w : World} {A₀ A : Around} {base h₀ : Heap} {outer : List Env} {env : Env} {L : Addr} {m : Str → Option Value} {p : Program} {loose : List Str} {mean : ExcName → Option Value} {mg mb : Str → Option Value}
    {s : Shared} {Q : Value → Shared → Prop} {E : Value → Shared → Prop}
theorem c_matmul {md dmd r : Addr} {em : Int} {tm : Tok} {nm : Nat} {M dM D row : Addr} {x1 x2 x3 : Int} {y1 y2 y3 : Tok} {n k1 k2 : Nat} {Mo dMo Do rowo : Addr} {x1o x2o x3o : Int} {y1o y2o y3o : Tok} {no k1o k2o : Nat} {p0 p1 q0 q1 : Addr} {ns0 ns1 fs0 fs1 : List Int}
    (B : Below A₀ base outer h₀) (F : Fr h₀ L s.heap m) (X : (Mine.hd.heap_39 w.params).In h₀) (T : Top p loose mean mg mb h₀) (hA : A.frames = some (env :: outer)) (hf : env.frame = some L) (hk : env.scope.kind = .function) (hd : A.depth ≤ 680) (hu : A.units ≤ 6800) (hh : A.handled = none) (h0 : ∀ P ∈ tabs, h₀.get? P = none) (ht : TabsOk s.heap) (hg : AllBare s.gens)
    (hmd : s.heap.get? md = some (instObj 983 dmd)) (hdmd : s.heap.get? dmd = some (modD r em tm nm)) (HR : RingAt s.heap r) (hM : s.heap.get? M = some (instObj 886 dM)) (hdM : s.heap.get? dM = some (matD md (.ref D) false x1 x2 x3 y1 y2 y3 n)) (hD : s.heap.get? D = some (listOf #[.ref row] k1)) (hrow : s.heap.get? row = some (listOf #[.ref p0, .ref p1] k2)) (hMo : s.heap.get? Mo = some (instObj 907 dMo)) (hdMo : s.heap.get? dMo = some (matD md (.ref Do) true x1o x2o x3o y1o y2o y3o no)) (hDo : s.heap.get? Do = some (listOf #[.ref rowo] k1o)) (hrowo : s.heap.get? rowo = some (listOf #[.ref q0, .ref q1] k2o)) (HP0 : PolyAt s.heap r p0 ns0) (HP1 : PolyAt s.heap r p1 ns1) (HQ0 : PolyAt s.heap r q0 fs0) (HQ1 : PolyAt s.heap r q1 fs1) (hsm0 : Small ns0) (hsm1 : Small ns1)
    (hQ : RetT s Q (fun v h => NewMat s.heap h md r false v (List.zipWith (fun a b => (a + b).fmod 8380417) (List.zipWith (fun a b => (a * b).fmod 8380417) ns0 fs0) (List.zipWith (fun a b => (a * b).fmod 8380417) ns1 fs1)))) :
    wpAny (model PySem.Challenge.rw_ix0027_01.row.prog w) A (call (.ref 698) [.ref M, .ref Mo] []) Q E s := by
  (run_tac sh0)
  refine wpAny_call ?_
  refine' enterT (binds := [(Str.ofString "self", .ref M), (Str.ofString "other", .ref Mo)]) B F X T hA hf hk h0 ht ?k8 ?k6 ?k7 ?k9 ?kB ?c5 ?c2 ?c3 ?c4 ?_
  case k6 => k_is
  case k7 => k_is
  case k8 => k_room
  case k9 => exact BindsTo.of_eq rfl
  case c5 => decide +kernel
  case kB => exact rfl
  case c2 => exact rfl
  case c3 => exact rfl
  case c4 => exact rfl
  intro g L' h' tk' cells' ps1 ps2 hgdef F' N' Y' B' X' T' r1 r2 hg0 hLt hsg
  replace hmd := hsg _ _ (off_tabs ht hmd (by nofun)) hmd
  replace hdmd := hsg _ _ (off_tabs ht hdmd (by nofun)) hdmd
  replace hM := hsg _ _ (off_tabs ht hM (by nofun)) hM
  replace hdM := hsg _ _ (off_tabs ht hdM (by nofun)) hdM
  replace hD := hsg _ _ (off_tabs ht hD (by nofun)) hD
  replace hrow := hsg _ _ (off_tabs ht hrow (by nofun)) hrow
  replace hMo := hsg _ _ (off_tabs ht hMo (by nofun)) hMo
  replace hdMo := hsg _ _ (off_tabs ht hdMo (by nofun)) hdMo
  replace hDo := hsg _ _ (off_tabs ht hDo (by nofun)) hDo
  replace hrowo := hsg _ _ (off_tabs ht hrowo (by nofun)) hrowo
  have hL7 : @LT.lt Nat instLTNat 742 L' := Nat.lt_of_lt_of_le (ht.lt (List.mem_cons_self ..)) (by have q := F'.above; rw [hgdef, hideAll_size] at q; exact q)
  have hL6 : @LT.lt Nat instLTNat 695 L' := Nat.lt_trans (by decide) hL7
  clear B F X T hA hf hk h0 hgdef
  k_cells Y'
  simp only [List.append_nil, List.cons_append, List.nil_append] at N'
  (try dsimp only)
  replace HP0 := PolyAt.lift ht hsg HP0
  replace HP1 := PolyAt.lift ht hsg HP1
  replace HQ0 := PolyAt.lift ht hsg HQ0
  replace HQ1 := PolyAt.lift ht hsg HQ1
  replace HR := RingAt.lift ht hsg HR
  have HR' := HR
  obtain ⟨dr, n2, f1, f2, f3, f4, f5, f6, g1, g2, g3, g4, g5, g6, u1, u2, v3, v4, v5, v6, hr, hdr⟩ := HR
  repeat ((fail_if_success (with_reducible refine stop_cmp (op := .NotEq) ?_)); (first | walk1 | (dsimp only; walk1)))
  refine' ne_same_K ?hu ?F ?X ?I ?ne ?eq ?sub ?_
  case hu => k_room
  case F => k_asm
  case X => k_asm
  case I => k_inst
  case ne => k_is
  case eq => k_is
  case sub => k_is
  repeat ((fail_if_success (with_reducible refine stop_call (f := 621) ?_)); (first | walk1 | (dsimp only; walk1)))
  refine' c_dim886f ?B ?F ?X ?T (frames_in ?B) ?hf ?hk ?hd ?hu ?hh ?q0 ?q1 ?q2 ?q3 ?q4 ?ret
  case B => k_asm
  case F => k_asm
  case X => k_asm
  case T => k_asm
  case hf => rfl
  case hk => rfl
  case hd => k_room
  case hu => k_room
  case hh => first | assumption | rfl
  case q0 => exact Fr.keep (by k_asm) _ _ hM
  case q1 => exact Fr.keep (by k_asm) _ _ hdM
  case q2 => exact Fr.keep (by k_asm) _ _ hD
  case q3 => exact Fr.keep (by k_asm) _ _ hrow
  case q4 => exact (by decide : 2 ≤ 2)
  case ret =>
    intro v₄ h₄ tk₄ hk₄ post₄
    obtain ⟨T, ta, tb, rfl, hT0, hT⟩ := post₄
    replace hT : h₄.get? T = some (pairOf (.int 1 ta) (.int 2 tb)) := hT
    have cF₄ := Fr.keeps (by k_asm) hk₄
    have cN₄ := News.grown (by k_asm) hk₄
    have offN := news_ne (by k_asm) hT0
    (simp only [List.forall_mem_cons, List.not_mem_nil, false_implies, implies_true, and_true] at offN)
    replace cN₄ := news_add (by k_asm) cN₄ hT0 hT
    k_sweep
    repeat ((fail_if_success (with_reducible refine stop_assign ?_)); (first | walk1 | (dsimp only; walk1)))
    refine' assign_LC ?hh ?F ?N ?ht ?hc ?U ?hd ?_
    case hh => assumption
    case F => k_asm
    case N => k_asm
    case ht => exact ⟨_, News.get (a := T) (by k_asm) (by k_mem), rfl, _, rfl⟩
    case hc => rfl
    case U => k_updF
    case hd => assumption
    intro h₅ o₅ tk₅ F₅ N₅ d₅
    (try dsimp only at N₅)
    k_sweep
    repeat ((fail_if_success (with_reducible refine stop_call (f := 621) ?_)); (first | walk1 | (dsimp only; walk1)))
    refine' c_dim907t ?B ?F ?X ?T (frames_in ?B) ?hf ?hk ?hd ?hu ?hh ?q0 ?q1 ?q2 ?q3 ?q4 ?ret
    case B => k_asm
    case F => k_asm
    case X => k_asm
    case T => k_asm
    case hf => rfl
    case hk => rfl
    case hd => k_room
    case hu => k_room
    case hh => first | assumption | rfl
    case q0 => exact Fr.keep (by k_asm) _ _ hMo
    case q1 => exact Fr.keep (by k_asm) _ _ hdMo
    case q2 => exact Fr.keep (by k_asm) _ _ hDo
    case q3 => exact Fr.keep (by k_asm) _ _ hrowo
    case q4 => exact (by decide : 2 ≤ 2)
    case ret =>
      intro v₄ h₄ tk₄ hk₄ post₄
      obtain ⟨T, ta, tb, rfl, hT0, hT⟩ := post₄
      replace hT : h₄.get? T = some (pairOf (.int 2 ta) (.int 1 tb)) := hT
      have cF₄ := Fr.keeps (by k_asm) hk₄
      have cN₄ := News.grown (by k_asm) hk₄
      have offN := news_ne (by k_asm) hT0
      (simp only [List.forall_mem_cons, List.not_mem_nil, false_implies, implies_true, and_true] at offN)
      replace cN₄ := news_add (by k_asm) cN₄ hT0 hT
      k_sweep
      repeat ((fail_if_success (with_reducible refine stop_assign ?_)); (first | walk1 | (dsimp only; walk1)))
      refine' assign_LC ?hh ?F ?N ?ht ?hc ?U ?hd ?_
      case hh => assumption
      case F => k_asm
      case N => k_asm
      case ht => exact ⟨_, News.get (a := T) (by k_asm) (by k_mem), rfl, _, rfl⟩
      case hc => rfl
      case U => k_updF
      case hd => assumption
      intro h₅ o₅ tk₅ F₅ N₅ d₅
      (try dsimp only at N₅)
      k_sweep
      repeat ((fail_if_success (with_reducible refine stop_If ?_)); (first | walk1 | (dsimp only; walk1)))
      refine wpAny_If ?_
      repeat ((fail_if_success (with_reducible refine stop_truthy ?_)); (first | walk1 | (dsimp only; walk1)))
      show wpAny _ _ (truthy (Value.bool true)) _ _ _
      repeat ((fail_if_success (with_reducible refine stop_Comp ?_)); (first | walk1 | (dsimp only; walk1)))
      refine' oneC_ListComp ?hclos ?hcl ?hpc ?hkind ?hnames ?hx ?_
      case hclos => with_unfolding_all rfl
      case hcl => exact fun _ => rfl
      case hpc => exact fun _ => rfl
      case hkind => rfl
      case hnames => decide
      case hx => exact fun _ _ => rfl
      repeat ((fail_if_success (with_reducible refine stop_COC ?_)); (first | walk1 | (dsimp only; walk1)))
      have ht₀ := (TabsOk.of_news (by k_asm) (by k_mem) (by k_mem) (by assumption) (by assumption))
      refine' ⟨_, (fun y g₀ h => ∃ rw z k, y = .ref rw ∧ g₀.get? rw = none ∧ h.get? rw = some (listOf #[.ref z] k) ∧ PolyNew g₀ h r z (List.zipWith (fun a b => (a + b).fmod 8380417) (List.zipWith (fun a b => (a * b).fmod 8380417) ns0 fs0) (List.zipWith (fun a b => (a * b).fmod 8380417) ns1 fs1))), Src1.range (by assumption) (by assumption) ht₀, ht₀, hg, ?hF, ?helt, ?hQ⟩
      case hF => exact fun y g₀ g h h' ho k ⟨rw', z, j, e, a, b, P⟩ => ⟨rw', z, j, e, ho _ a, k _ _ a b, PolyNew.step ho k P⟩
      case helt =>
        intro C v s₂ m₂ oc E' hC hPv hN hcl hcd hk₂ ht₂ hg₂
        obtain ⟨ti, rfl⟩ := hPv
        have cF := Fr.keeps (by k_asm) hk₂
        have cN := news_add (by k_asm) (News.grown (by k_asm) hk₂) (Heap.get?_none_of_le (Nat.le_succ_of_le hC)) hcl
        k_sweep
        repeat ((fail_if_success (with_reducible refine stop_Comp ?_)); (first | walk1 | (dsimp only; walk1)))
        refine' oneC_ListComp ?hclos ?hcl ?hpc ?hkind ?hnames ?hx ?_
        case hclos => with_unfolding_all rfl
        case hcl => exact fun _ => rfl
        case hpc => exact fun _ => rfl
        case hkind => rfl
        case hnames => decide
        case hx => exact fun _ _ => rfl
        repeat ((fail_if_success (with_reducible refine stop_COC ?_)); (first | walk1 | (dsimp only; walk1)))
        rename (∀ b o, s₂.heap.get? b = some o → _) => hkr
        replace ht₂ := TabsOk.keeps ht₂ hkr
        refine' ⟨_, (fun y g₀ h => ∃ z, y = .ref z ∧ PolyNew g₀ h r z (List.zipWith (fun a b => (a + b).fmod 8380417) (List.zipWith (fun a b => (a * b).fmod 8380417) ns0 fs0) (List.zipWith (fun a b => (a * b).fmod 8380417) ns1 fs1))), Src1.range (by assumption) (by assumption) ht₂, ht₂, hg₂, ?hFi, ?helti, ?hQi⟩
        case hFi => exact fun y g₀ g h h' ho k ⟨z, e, P⟩ => ⟨z, e, PolyNew.step ho k P⟩
        case helti =>
          intro C' v' s₃ m₃ oc' E'' hC' hPv' hN' hcl' hcd' hk₃ ht₃ hg₃
          obtain ⟨tj, rfl⟩ := hPv'
          have cF' := Fr.keeps (by k_asm) hk₃
          have cN' := news_add (by k_asm) (News.grown (by k_asm) hk₃) (Heap.get?_none_of_le (Nat.le_succ_of_le hC')) hcl'
          k_sweep
          repeat ((fail_if_success (with_reducible refine stop_Gen ?_)); (first | walk1 | (dsimp only; walk1)))
          refine' gen_make ?hh ?hco ?hclos ?hcell ?h0 ?hx ?hkind ?hroom ?_
          case hh => assumption
          case hco => rfl
          case hclos => with_unfolding_all rfl
          case hcell => decide
          case h0 => rfl
          case hx => rfl
          case hkind => rfl
          case hroom => k_room
          repeat ((fail_if_success (with_reducible refine stop_GS ?_)); (first | walk1 | (dsimp only; walk1)))
          rename (∀ b o, s₃.heap.get? b = some o → _) => hkr₃
          replace ht₃ := TabsOk.keeps ht₃ hkr₃
          have s₄ := s₃
          refine' ⟨2, _, fun i y h h' => ∃ z, y = .ref z ∧ ((i = 0 ∧ PolyNew h h' r z (List.zipWith (fun a b => (a * b).fmod 8380417) ns0 fs0)) ∨ (i = 1 ∧ PolyNew h h' r z (List.zipWith (fun a b => (a * b).fmod 8380417) ns1 fs1))), _, g, 697, 695, p, loose, mean, mg, mb, SrcN.range' 2 (by assumption) (by decide) (by decide) ht₃, ht₃, hg₃, frames_in B', Fr.keep (by k_asm), hg0, List.mem_cons_of_mem _ (List.mem_cons_self ..), rfl, codeHd_of_K X' (by kernel_rfl), rfl, T', ?hFg, ?heltg, ?hQg⟩
          case hFg => exact fun i v h₀ h₁ h ho ⟨z, e, P⟩ => ⟨z, e, P.imp (fun q => ⟨q.1, PolyNew.step ho (fun _ _ _ e => e) q.2⟩) fun q => ⟨q.1, PolyNew.step ho (fun _ _ _ e => e) q.2⟩⟩
          case heltg =>
                intro hb Cg code i v s₅ m₅ A' E₅ hA' hD' hU' hfr' hPv hCg hm hkb cF
                obtain ⟨hi2, tk9, rfl⟩ := hPv
                simp only [depth_deeper, units_deeper] at hD' hU'
                obtain ⟨B₂, hgb⟩ := below_gen s₄ B' (by k_asm) hkb hLt hg0 hfr' rfl rfl
                have X₂ := Frag.In.keeps X' hgb
                have T₂ := Top.keeps T' hgb
                have HR₂ := RingAt.mono hgb HR'
                have HI : ∃ pi qi nsi fsi, [Value.ref p0, .ref p1][i]? = some (.ref pi) ∧ [Value.ref q0, .ref q1][i]? = some (.ref qi) ∧ PolyAt hb r pi nsi ∧ PolyAt hb r qi fsi ∧ Small nsi ∧ (∀ y a b, PolyNew a b r y (List.zipWith (fun a b => (a * b).fmod 8380417) nsi fsi) → (i = 0 ∧ PolyNew a b r y (List.zipWith (fun a b => (a * b).fmod 8380417) ns0 fs0)) ∨ (i = 1 ∧ PolyNew a b r y (List.zipWith (fun a b => (a * b).fmod 8380417) ns1 fs1))) := by
                  rcases Nat.lt_succ_iff_lt_or_eq.mp hi2 with h | h
                  · obtain rfl : i = 0 := by omega
                    exact ⟨p0, q0, ns0, fs0, rfl, rfl, PolyAt.mono hgb HP0, PolyAt.mono hgb HQ0, hsm0, fun y a b z => .inl ⟨rfl, z⟩⟩
                  · subst h
                    exact ⟨p1, q1, ns1, fs1, rfl, rfl, PolyAt.mono hgb HP1, PolyAt.mono hgb HQ1, hsm1, fun y a b z => .inr ⟨rfl, z⟩⟩
                obtain ⟨pi, qi, nsi, fsi, hpi, hqi, HPi, HQi, hsmi, hfin⟩ := HI
                obtain ⟨dpi, odpi, hpii, hdpi, hdpc⟩ := PolyAt.insts HPi
                obtain ⟨dqi, odqi, hqii, hdqi, hdqc⟩ := PolyAt.insts HQi
                have hmd₂ := hgb _ _ hmd
                have hdmd₂ := hgb _ _ hdmd
                have hr₂ := hgb _ _ hr
                have hdr₂ := hgb _ _ hdr
                have hM₂ := hgb _ _ hM
                have hdM₂ := hgb _ _ hdM
                have hD₂ := hgb _ _ hD
                have hrow₂ := hgb _ _ hrow
                have hMo₂ := hgb _ _ hMo
                have hdMo₂ := hgb _ _ hdMo
                have hDo₂ := hgb _ _ hDo
                have hrowo₂ := hgb _ _ hrowo
                have cS := hkb _ _ (off_nt ht₃ (News.get (a := L' + 1) (by k_asm) (by k_mem)) (nt_cell (by assumption))) (News.get (a := L' + 1) (by k_asm) (by k_mem))
                have cO := hkb _ _ (off_nt ht₃ (News.get (a := L' + 2) (by k_asm) (by k_mem)) (nt_cell (by assumption))) (News.get (a := L' + 2) (by k_asm) (by k_mem))
                have cI := hkb _ _ (off_nt ht₃ (News.get (a := C + 1) (by k_asm) (by k_mem)) (nt_cell (by assumption))) (News.get (a := C + 1) (by k_asm) (by k_mem))
                have cJ := hkb _ _ (off_nt ht₃ (News.get (a := C' + 1) (by k_asm) (by k_mem)) (nt_cell (by assumption))) (News.get (a := C' + 1) (by k_asm) (by k_mem))
                have N₂ : News hb Cg s₅.heap [] := News.nil
                have kk : ∀ b o, s₅.heap.get? b = some o → s₅.heap.get? b = some o := fun _ _ e => e
                repeat ((fail_if_success (with_reducible refine stop_Name ?_)); (first | walk1 | (dsimp only; walk1)))
                refine' gname_F (c := L' + 1) ?c ?g ?d ?_
                case c => rfl
                case g => exact Fr.keep (by k_asm) _ _ cS
                case d => exact (by assumption)
                repeat ((fail_if_success (with_reducible refine stop_Name ?_)); (first | walk1 | (dsimp only; walk1)))
                refine' gname_F (c := C + 1) ?c ?g ?d ?_
                case c => rfl
                case g => exact Fr.keep (by k_asm) _ _ cI
                case d => exact (by assumption)
                repeat ((fail_if_success (with_reducible refine stop_Name ?_)); (first | walk1 | (dsimp only; walk1)))
                refine' gname_L ?F ?v ?_
                case F => k_asm
                case v => exact hm
                repeat ((fail_if_success (with_reducible refine stop_newTuple ?_)); (first | walk1 | (dsimp only; walk1)))
                refine' newTuple_own ?F ?N ?_ ?hz
                case hz => exact (by decide : 2 ≤ sizeLine)
                case F => k_asm
                case N => k_asm
                intro T₆ h₆ F₆ N₆ hk₆ hT₆
                have kk : ∀ b o, s₅.heap.get? b = some o → h₆.get? b = some o := fun b o e => hk₆ b o (kk b o e)
                k_sweep
                repeat ((fail_if_success (with_reducible refine stop_call (f := 650) ?_)); (first | walk1 | (dsimp only; walk1)))
                refine' c_get886f ?B ?F ?X ?T hfr' ?hf ?hk ?hd ?hu ?hh ?q0 ?q1 ?q2 ?q3 ?q4 ?q5 ?q6 ?q7 ?q8 ?ret
                case B => k_asm
                case F => k_asm
                case X => k_asm
                case T => k_asm
                case hf => rfl
                case hk => rfl
                case hd => k_room
                case hu => k_room
                case hh => first | assumption | rfl
                case q0 => exact Fr.keep (by k_asm) _ _ hM₂
                case q1 => exact Fr.keep (by k_asm) _ _ hdM₂
                case q2 => exact Fr.keep (by k_asm) _ _ hD₂
                case q3 => exact Fr.keep (by k_asm) _ _ hrow₂
                case q4 => exact (by decide : 2 ≤ 2)
                case q5 => exact News.get (by k_asm) (by k_mem)
                case q6 => omega
                case q7 => omega
                case q8 => exact hpi
                case ret =>
                  intro v₄ h₄ tk₄ hk₄ post₄
                  subst post₄
                  have kk : ∀ b o, s₅.heap.get? b = some o → h₄.get? b = some o := fun b o e => hk₄ b o (kk b o e)
                  have cF₄ := Fr.keeps (by k_asm) hk₄
                  have cN₄ := News.grown (by k_asm) hk₄
                  k_sweep
                  repeat ((fail_if_success (with_reducible refine stop_Name ?_)); (first | walk1 | (dsimp only; walk1)))
                  refine' gname_F (c := L' + 2) ?c ?g ?d ?_
                  case c => rfl
                  case g => exact Fr.keep (by k_asm) _ _ cO
                  case d => exact (by assumption)
                  repeat ((fail_if_success (with_reducible refine stop_Name ?_)); (first | walk1 | (dsimp only; walk1)))
                  refine' gname_L ?F ?v ?_
                  case F => k_asm
                  case v => exact hm
                  repeat ((fail_if_success (with_reducible refine stop_Name ?_)); (first | walk1 | (dsimp only; walk1)))
                  refine' gname_F (c := C' + 1) ?c ?g ?d ?_
                  case c => rfl
                  case g => exact Fr.keep (by k_asm) _ _ cJ
                  case d => exact (by assumption)
                  repeat ((fail_if_success (with_reducible refine stop_newTuple ?_)); (first | walk1 | (dsimp only; walk1)))
                  refine' newTuple_own ?F ?N ?_ ?hz
                  case hz => exact (by decide : 2 ≤ sizeLine)
                  case F => k_asm
                  case N => k_asm
                  intro T₆ h₆ F₆ N₆ hk₆ hT₆
                  have kk : ∀ b o, s₅.heap.get? b = some o → h₆.get? b = some o := fun b o e => hk₆ b o (kk b o e)
                  k_sweep
                  repeat ((fail_if_success (with_reducible refine stop_call (f := 650) ?_)); (first | walk1 | (dsimp only; walk1)))
                  refine' c_get907t ?B ?F ?X ?T hfr' ?hf ?hk ?hd ?hu ?hh ?q0 ?q1 ?q2 ?q3 ?q4 ?q5 ?q6 ?q7 ?q8 ?ret
                  case B => k_asm
                  case F => k_asm
                  case X => k_asm
                  case T => k_asm
                  case hf => rfl
                  case hk => rfl
                  case hd => k_room
                  case hu => k_room
                  case hh => first | assumption | rfl
                  case q0 => exact Fr.keep (by k_asm) _ _ hMo₂
                  case q1 => exact Fr.keep (by k_asm) _ _ hdMo₂
                  case q2 => exact Fr.keep (by k_asm) _ _ hDo₂
                  case q3 => exact Fr.keep (by k_asm) _ _ hrowo₂
                  case q4 => exact (by decide : 2 ≤ 2)
                  case q5 => exact News.get (by k_asm) (by k_mem)
                  case q6 => omega
                  case q7 => omega
                  case q8 => exact hqi
                  case ret =>
                    intro v₄ h₄ tk₄ hk₄ post₄
                    subst post₄
                    have kk : ∀ b o, s₅.heap.get? b = some o → h₄.get? b = some o := fun b o e => hk₄ b o (kk b o e)
                    have cF₄ := Fr.keeps (by k_asm) hk₄
                    have cN₄ := News.grown (by k_asm) hk₄
                    k_sweep
                    repeat ((fail_if_success (with_reducible refine stop_call (f := 589) ?_)); (first | walk1 | (dsimp only; walk1)))
                    refine' c_pmul ?B ?F ?X ?T hfr' ?hf ?hk ?hd ?hu ?hh ?q0 ?q1 ?q2 ?q3 ?ret
                    case B => k_asm
                    case F => k_asm
                    case X => k_asm
                    case T => k_asm
                    case hf => rfl
                    case hk => rfl
                    case hd => k_room
                    case hu => k_room
                    case hh => first | assumption | rfl
                    case q0 => exact RingAt.mono (Fr.keep (by k_asm)) HR₂
                    case q1 => exact PolyAt.mono (Fr.keep (by k_asm)) HPi
                    case q2 => exact PolyAt.mono (Fr.keep (by k_asm)) HQi
                    case q3 => exact hsmi
                    case ret =>
                      intro v₄ h₄ tk₄ hk₄ post₄
                      obtain ⟨z, rfl, post₄⟩ := post₄
                      have kk0 := kk
                      have kk : ∀ b o, s₅.heap.get? b = some o → h₄.get? b = some o := fun b o e => hk₄ b o (kk b o e)
                      have cF₄ := Fr.keeps (by k_asm) hk₄
                      have cN₄ := News.grown (by k_asm) hk₄
                      k_sweep
                      exact ⟨⟨_, rfl, hfin _ _ _ (PolyNew.older kk0 post₄)⟩, _, _, rfl, kk⟩
          case hQg =>
            intro a gg Cg fp wr h₇ tk₇ gs₇ hPk hnew hkt htok hgs
            repeat ((fail_if_success (with_reducible refine stop_builtin (f := "sum") ?_)); (first | walk1 | (dsimp only; walk1)))
            refine' sum_gen2 (G0 := (fun y h h' => ∃ z, y = .ref z ∧ PolyNew h h' r z (List.zipWith (fun a b => (a * b).fmod 8380417) ns0 fs0))) (G1 := (fun y h h' => ∃ z, y = .ref z ∧ PolyNew h h' r z (List.zipWith (fun a b => (a + b).fmod 8380417) (List.zipWith (fun a b => (a * b).fmod 8380417) ns0 fs0) (List.zipWith (fun a b => (a * b).fmod 8380417) ns1 fs1)))) ?hh ?hroom hgs hPk ?hG0 ?hG1 ?hF0 ?hF1 ?hr0 ?hr1 ?add0 ?add1 ?hQs
            case hh => assumption
            case hroom => k_room
            case hG0 => exact fun y g₀ g h h' ho k ⟨z, e, P⟩ => ⟨z, e, PolyNew.step ho k P⟩
            case hG1 => exact fun y g₀ g h h' ho k ⟨z, e, P⟩ => ⟨z, e, PolyNew.step ho k P⟩
            case hF0 => exact fun y h h' ⟨z, e, _⟩ => ⟨z, e⟩
            case hF1 => exact fun y h h' ⟨z, e, _⟩ => ⟨z, e⟩
            case hr0 => exact fun y h h' ⟨z, e, _⟩ => ⟨z, e⟩
            case hr1 => exact fun y h h' ⟨z, e, _⟩ => ⟨z, e⟩
            case add0 =>
                intro v t s₅ h₁ E₅ hFv hk₅ hg₅
                obtain ⟨z, rfl, ⟨_, HZ⟩ | ⟨q, _⟩⟩ := hFv
                case inr => exact absurd q (by decide)
                have kb : KeptT _ s₅.heap := fun b o hb e => hk₅ b o (fun q => by rw [hnew b q] at e; cases e) (hkt b o hb e)
                have cF₅ := fr_tab (by k_asm) kb hg0 hLt
                obtain ⟨dz, l5, e15, e25, t15, t25, n5, vs5, j5, hz0, hdz0, hl0, hz, hdz, hl5, hI5, hn5⟩ := id HZ
                obtain ⟨c5, ns5, hc5, hc0⟩ := zip_cons HZ.at
                refine' rbin_K (f := 153) (g := 577) ?F ?X (InstAt.mk (od := some _) hz rfl rfl hdz) ?hc ?hl ?hs ?hf ?h1 ?h2 ?hsub ?hd ?hfr ?_
                case F => exact cF₅
                case X => k_in
                case hc => k_is
                case hl => k_is
                case hs => k_is
                case hf => k_is
                case h1 => k_is
                case h2 => k_is
                case hsub => k_is
                case hd => exact fun s' Q E e h => decl_add e (by nofun) h
                case hfr => decide +kernel
                have HZ' := HZ.at
                rw [hc5] at HZ'
                have cN₅ : News g L' s₅.heap [] := News.nil
                refine' c_radd ?B ?F ?X ?T (frames_in ?B) ?hf ?hk ?hd ?hu ?hh ?q0 ?q1 ?ret
                case B => k_asm
                case F => k_asm
                case X => k_asm
                case T => k_asm
                case hf => rfl
                case hk => rfl
                case hd => k_room
                case hu => k_room
                case hh => first | assumption | rfl
                case q0 => exact RingAt.mono (Fr.keep (by k_asm)) HR'
                case q1 => exact HZ'
                case ret =>
                  intro v₄ h₄ tk₄ hk₄ post₄
                  obtain ⟨z', rfl, post₄⟩ := post₄
                  have cF₄ := Fr.keeps (by k_asm) hk₄
                  have cN₄ := News.grown (by k_asm) hk₄
                  k_sweep
                  rw [hc0, ← hc5] at post₄
                  exact ⟨⟨z', rfl, post₄⟩, _, _, rfl, hk₄⟩
            case add1 =>
                intro u v s₅ h₁ h₂' E₅ hGu hFv hk₅ hg₅
                obtain ⟨z, rfl, ⟨q, _⟩ | ⟨_, HZ⟩⟩ := hFv
                case inl => exact absurd q (by decide)
                obtain ⟨x, rfl, HX⟩ := hGu
                have kb : KeptT _ s₅.heap := fun b o hb e => hk₅ b o (fun q => by rw [hnew b q] at e; cases e) (hkt b o hb e)
                have cF₅ := fr_tab (by k_asm) kb hg0 hLt
                obtain ⟨dz, l5, e15, e25, t15, t25, n5, vs5, j5, hz0, hdz0, hl0, hz, hdz, hl5, hI5, hn5⟩ := id HZ
                obtain ⟨dx, l6, e16, e26, t16, t26, n6, vs6, j6, hx0, hdx0, hl60, hx, hdx, hl6, hI6, hn6⟩ := id HX
                have Iz : InstAt s₅.heap z _ 592 (some _) := InstAt.mk hz rfl rfl hdz
                refine' binop_K (f := 577) ?F ?X (InstAt.mk (od := some _) hx rfl rfl hdx) Iz.type ?hc ?hs ?hf ?_
                case F => exact cF₅
                case X => k_in
                case hc => k_is
                case hs => k_is
                case hf => k_is
                have cN₅ : News g L' s₅.heap [] := News.nil
                refine' c_padd ?B ?F ?X ?T (frames_in ?B) ?hf ?hk ?hd ?hu ?hh ?q0 ?q1 ?q2 ?ret
                case B => k_asm
                case F => k_asm
                case X => k_asm
                case T => k_asm
                case hf => rfl
                case hk => rfl
                case hd => k_room
                case hu => k_room
                case hh => first | assumption | rfl
                case q0 => exact RingAt.mono (Fr.keep (by k_asm)) HR'
                case q1 => exact HX.at
                case q2 => exact HZ.at
                case ret =>
                  intro v₄ h₄ tk₄ hk₄ post₄
                  obtain ⟨z', rfl, post₄⟩ := post₄
                  have cF₄ := Fr.keeps (by k_asm) hk₄
                  have cN₄ := News.grown (by k_asm) hk₄
                  k_sweep
                  exact ⟨⟨z', rfl, post₄⟩, _, _, rfl, hk₄⟩
            case hQs =>
              intro r' h₈ tk₈ gs₈ hG1 hk₈ hgs₈
              obtain ⟨z, rfl, HZ⟩ := hG1
              have kb : KeptT _ h₈ := fun b o hb e => hk₈ b o (fun q => by rw [hnew b q] at e; cases e) (hkt b o hb e)
              have ht₈ : TabsOk h₈ := htok.at fun b hb o e => hk₈ b o (fun q => hPk.hCt b q hb) e
              have ho : Older s₃.heap h₇ := (Older.of hkr₃).trans (older_tab hkt htok)
              exact ⟨⟨_, rfl, PolyNew.step ho (fun _ _ _ e => e) HZ⟩, _, _, _, rfl, fun b o hb e => kb b o hb (hkr₃ b o e), ht₈, hgs₈⟩
        case hQi =>
          intro D' y k' h₄ tk₄ gs₄ hD0 hDn hFy hkt htok hgs
          obtain ⟨z, rfl, HZ⟩ := hFy
          exact ⟨⟨D', z, k', rfl, none_of_keeps hkr hD0, hDn, PolyNew.older hkr HZ⟩, h₄, tk₄, gs₄, rfl, fun b o hb e => hkt b o hb (hkr b o e), htok, hgs⟩
      case hQ =>
        intro D' u k' h₃ tk₃ gs₃ hDn0 hDn hFu hkt htok hgs
        obtain ⟨psA, eA, rA⟩ := htok 742 (List.mem_cons_self ..)
        obtain ⟨psB, eB, rB⟩ := htok 695 (List.mem_cons_of_mem _ (List.mem_cons_self ..))
        obtain ⟨rw₁, z₁, k₁, rfl, hrw0, hrw, HZ⟩ := hFu
        obtain ⟨dz, lz, e5, e6, t5, t6, n5, zs, kz, hz0, hdz0, hlz0, hz, hdz, hlz, hiz, hnz⟩ := HZ
        have sD := fresh_of (by k_asm) hsg ht₀ hDn0
        have srw := fresh_of (by k_asm) hsg ht₀ hrw0
        have sz := fresh_of (by k_asm) hsg ht₀ hz0
        have sdz := fresh_of (by k_asm) hsg ht₀ hdz0
        have slz := fresh_of (by k_asm) hsg ht₀ hlz0
        have cF₃ := fr_tab (by k_asm) hkt hg0 hLt
        have cN₃ := news_tab (by k_asm) ht₀ hkt hg0 hLt (by repeat' (first | exact trivial | refine And.intro (by first | exact nt_cls (by assumption) | exact nt_cell (by assumption) | exact nt_cls (fun q => nomatch q)) ?_)) (by rfl) eA eB
        simp only [retab] at cN₃
        replace cN₃ := news_add (by k_asm) cN₃ hlz0 hlz
        replace cN₃ := news_add (by k_asm) cN₃ hdz0 hdz
        replace cN₃ := news_add (by k_asm) cN₃ hz0 hz
        replace cN₃ := news_add (by k_asm) cN₃ hrw0 hrw
        replace cN₃ := news_add (by k_asm) cN₃ hDn0 hDn
        k_sweep
        repeat ((fail_if_success (with_reducible refine stop_call (f := md) ?_)); (first | walk1 | (dsimp only; walk1)))
        refine' own_call (f := 747) ?X ?I ?k3 ?hs ?hf ?hfn ?_
        case X => k_in
        case I => k_inst
        case k3 => exact rfl
        case hs => k_is
        case hf => k_is
        case hfn => k_is
        refine' c_mcall0 ?B ?F ?X ?T (frames_in ?B) ?hf ?hk ?hd ?hu ?hh ?h0 ?ht ?hg ?q0 ?q1 ?q2 ?q3 ?q4 ?q5 ?q6 ?ret
        case B => k_asm
        case F => k_asm
        case X => k_asm
        case T => k_asm
        case hf => rfl
        case hk => rfl
        case hd => k_room
        case hu => k_room
        case hh => first | assumption | rfl
        case h0 => assumption
        case ht => exact (TabsOk.of_news (by k_asm) (by k_mem) (by k_mem) (by assumption) (by assumption))
        case hg => assumption
        case q0 => exact Fr.keep (by k_asm) _ _ hmd
        case q1 => exact Fr.keep (by k_asm) _ _ hdmd
        case q2 => exact RingAt.mono (Fr.keep (by k_asm)) HR'
        case q3 => exact News.get (by k_asm) (by k_mem)
        case q4 => exact News.get (o := listOf [.ref z₁].toArray _) (by k_asm) (by k_mem)
        case q5 => exact (by decide : 1 ≤ 2)
        case q6 => exact fun u hu => ⟨z₁, dz, _, List.mem_singleton.mp hu, News.get (by k_asm) (by k_mem), News.get (by k_asm) (by k_mem), by nofun⟩
        case ret =>
          intro v₄ h₄ tk₄ gs₄ hk₄ ht₄ hg₄ post₄
          obtain ⟨M', dM', a1, a2, a3, b1, b2, b3, nn, rfl, hM0, hdM0, hM', hdM'⟩ := post₄
          have sM := fresh_of (by k_asm) hsg (TabsOk.of_news (by k_asm) (by k_mem) (by k_mem) (by assumption) (by assumption)) hM0
          have sdM := fresh_of (by k_asm) hsg (TabsOk.of_news (by k_asm) (by k_mem) (by k_mem) (by assumption) (by assumption)) hdM0
          obtain ⟨psA, eA, rA⟩ := ht₄ 742 (List.mem_cons_self ..)
          obtain ⟨psB, eB, rB⟩ := ht₄ 695 (List.mem_cons_of_mem _ (List.mem_cons_self ..))
          have cF₄ := fr_tab (by k_asm) hk₄ (by assumption) (by assumption)
          have cN₄ := news_tab (by k_asm) (TabsOk.of_news (by k_asm) (by k_mem) (by k_mem) (by assumption) (by assumption)) hk₄ (by assumption) (by assumption) (by repeat' (first | exact trivial | refine And.intro (by first | exact nt_cls (by assumption) | exact nt_cell (by assumption) | exact nt_cls (fun q => nomatch q)) ?_)) (by rfl) eA eB
          simp only [retab] at cN₄
          replace cN₄ := news_add (by k_asm) cN₄ hdM0 hdM'
          replace cN₄ := news_add (by k_asm) cN₄ hM0 hM'
          k_sweep
          repeat (first | walk1 | (dsimp only; walk1))
          (try dsimp only)
          refine' ret_ofT hQ (by k_asm) (by k_asm) hsg (by k_mem) (by k_mem) (by assumption) (by assumption) (by assumption) ?_
          have G : ∀ a o, (a, o) ∈ _ → h₄.get? a = some o := fun a o hm => News.get (by k_asm) hm
          exact ⟨_, _, _, _, _, _, _, _, _, _, _, _, _, _, rfl, sM, sdM, sD, srw, G _ _ (by k_mem), G _ _ (by k_mem), G _ _ (by k_mem), G _ _ (by k_mem), dz, lz, e5, e6, t5, t6, n5, zs, kz, sz, sdz, slz, G _ _ (by k_mem), G _ _ (by k_mem), G _ _ (by k_mem), hiz, hnz⟩
  (run_tac sh1)

end

theorem fresh_34 : True := by
  w_top off
  trivial
/-- how a call hands back behind an exception that it took: the caller's own frame has other slots -/
def RetS (s : Shared) (L : Addr) (Q : Value → Shared → Prop) (post : Value → Prop) : Prop :=
  ∀ v h' tk, (∀ b o, b ≠ L → s.heap.get? b = some o → h'.get? b = some o) → (∀ o, s.heap.get? L = some o → ∃ sl, h'.get? L = some { o with slots := sl }) → post v → Q v { s with heap := h', toks := tk }
theorem fr_slots {h₀ h h' : Heap} {L : Addr} {m : Str → Option Value} (F : Fr h₀ L h m) (k : ∀ b o, b ≠ L → h.get? b = some o → h'.get? b = some o) (kl : ∀ o, h.get? L = some o → ∃ sl, h'.get? L = some { o with slots := sl }) : Fr h₀ L h' m := by
  refine ⟨?_, fun b o e => k b o (fun q => by rw [q, kts_self F] at e; cases e) (F.keep b o e), F.above⟩
  obtain ⟨oL, es, ep, hL, hLd, hLk, hLf⟩ := F.ns
  obtain ⟨sl, hs⟩ := kl _ hL
  exact ⟨_, es, ep, hs, hLd, hLk, hLf⟩
theorem news_slots {h₀ h h' : Heap} {L : Addr} {news : List (Addr × Obj)} (N : News h₀ L h news) (k : ∀ b o, b ≠ L → h.get? b = some o → h'.get? b = some o) : News h₀ L h' news := fun p hp => ⟨k _ _ (N p hp).2.1 (N p hp).1, (N p hp).2⟩
theorem ret_ofS {s : Shared} {Q : Value → Shared → Prop} {post : Value → Prop} {L L' : Addr} {g' h' : Heap} {m' : Str → Option Value} {v : Value} {tk : Tok} {env : Env} (R : RetS s L Q post) (hf : env.frame = some L) (F : Fr g' L' h' m') (T : KtsTurn ([env].filterMap (·.frame)) s.heap g') (hp : post v) : Q v { s with heap := h', toks := tk } := by
  (run_tac sh0)
  have hl : [env].filterMap (·.frame) = [L] := by simp [hf]
  rw [hl] at T
  refine R v h' tk (fun b o hb e => F.keep _ _ (T.other b o e (fun q => hb (List.mem_singleton.mp q)))) (fun o e => ?_) hp
  obtain ⟨sl, hs⟩ := T.frame L o e (List.mem_singleton.mpr rfl)
  exact ⟨sl, F.keep _ _ hs⟩
  (run_tac sh1)
theorem binop2_K {prog : Program} {w : World} {A : Around} {E : Value → Shared → Prop} {s : Shared} {K : Frag} {x y C C2 L f f2 : Addr} {h₀ : Heap} {m : Str → Option Value} {ox oy : Obj} {od od2 : Option Obj} {op : Operator} {rc rc2 : Option Value} {Q : Value → Shared → Prop} (F : Fr h₀ L s.heap m) (X₀ : K.In h₀) (I : InstAt s.heap x ox C od) (I2 : InstAt s.heap y oy C2 od2) (hne : C ≠ C2) (hc : selfFirst K C = true) (hc2 : selfFirst K C2 = true)
    (hs : findIn K (.ref C) (PySem.dunder op.info.2) = some (some (.ref f))) (hf : isFn K (.ref f) = true) (hr : findIn K (.ref C) (dunderR op.info.2) = some rc) (hp : rc = none ∨ ∃ g : Addr, rc = some (.ref g))
    (hs2 : findIn K (.ref C2) (PySem.dunder op.info.2) = some (some (.ref f2))) (hr2 : findIn K (.ref C2) (dunderR op.info.2) = some rc2) (hp2 : rc2 = none ∨ ∃ g : Addr, rc2 = some (.ref g)) (hsub : subIn K (.ref C2) (.ref C) = some false)
    (h : wpAny (model prog w) A (call (.ref f) [.ref x, .ref y]) (PySem.W.CmpBack Q) E s) : wpAny (model prog w) A (binaryOp op (.ref x) (.ref y)) Q E s := by
  (run_tac sh0)
  have X := X₀.keeps F.keep
  obtain ⟨cd, rest, hcd, hm⟩ := ksp_first hc
  obtain ⟨cd2, rest2, hcd2, hm2⟩ := ksp_first hc2
  rcases hi : op.info with ⟨sym, nm'⟩
  rw [hi] at hs hr hs2 hr2
  dsimp only at hs hr hs2 hr2
  have one := ksp_try X I hs hf h
  obtain ⟨hh, g, d, tt, os⟩ := s
  have L1 : Looks (model prog w) hh (typeOf (.ref x)) (.ref C) := I.type
  have L2 : Looks (model prog w) hh (typeOf (.ref y)) (.ref C2) := I2.type
  have L3 : Looks (model prog w) hh (fillsNumberSlot (.ref C) nm') true := fills_K X hcd hm hs
  have L4 : Looks (model prog w) hh (fillsNumberSlot (.ref C2) nm') true := fills_K X hcd2 hm2 hs2
  have L5 : Looks (model prog w) hh (isSubtype (.ref C2) (.ref C)) false := looks_subIn X hsub
  have L6 : Looks (model prog w) hh (numberSlotInPython (.ref C) nm') true := ksp_inPy X hs hr hp
  have L7 : Looks (model prog w) hh (numberSlotInPython (.ref C2) nm') true := ksp_inPy X hs2 hr2 hp2
  have hq : (Value.ref C == Value.ref C2) = false := Bool.eq_false_iff.mpr fun q => hne (by cases beq_iff_eq.mp q; rfl)
  simp only [binaryOp, hi]
  refine wpAny_holding (wpAny_bind ?_)
  unfold binaryOp1
  refine wpAny_bind (L1.at (wpAny_bind (L2.at (wpAny_bind (L3.at ?_)))))
  simp only [hq, Bool.false_eq_true, if_false]
  ksp_lk
  refine wpAny_mono one (fun r s' hr' => ?_) fun _ _ e => e
  obtain ⟨v, rfl, hq⟩ := hr'
  ksp_lk
  exact hq
  (run_tac sh1)
theorem leave_newSX {M : Model} {A : Around} {E : Value → Shared → Prop} {s' : Shared} {base g h : Heap} {outer : List Env} {L e : Addr} {m : Str → Option Value} {env : Env} {Q : Unit → Shared → Prop} {news : List (Addr × Obj)} {cls : String} (hf : env.frame = some L) (hk : env.scope.kind = .function) (K : Below A base outer g) (hx : Heap.NewExc h s'.heap e cls) (F : Fr g L h m) (N : News g L h news)
    (hQ : ∀ h', RaisedSN base g outer e (.type cls) news h' → RaisedN base outer e (.type cls) news h' → g.UpToSlots h' → Q () { s' with heap := h' }) :
    wpAny M (A.deeper env) (leaving env (.ref e)) Q E s' := by
  (run_tac sh0)
  have K' : Below (A.deeper env) base (env :: outer) h := (groundX (s := { s' with heap := h }) (news := []) (R := fun _ _ => True) K F News.nil (frames_in K (e := env)) hf hk).2.1
  have hin : ∀ v ∈ (env :: outer), ∀ b, v.frame = some b → b ∈ (env :: outer).filterMap (·.frame) := fun v he b hb => List.mem_filterMap.mpr ⟨v, he, hb⟩
  have memx : ∀ b, b ∈ (env :: outer).filterMap (·.frame) → b = L ∨ b ∈ outer.filterMap (·.frame) := fun b hm => by
    obtain ⟨v, he, hq⟩ := List.mem_filterMap.mp hm
    rcases List.mem_cons.mp he with rfl | he
    · exact .inl (Option.some.inj (hf.symm.trans hq)).symm
    · exact .inr (List.mem_filterMap.mpr ⟨v, he, hq⟩)
  have st : base.StaysIn (hideAll h ((env :: outer).filterMap (·.frame))) := fun b o q => hideAll_get _ (K'.stays b o q) fun hm => by
    rw [(K'.frames.mem hm).1] at q; cases q
  have sg : ∀ b o, g.get? b = some o → b ∉ outer.filterMap (·.frame) → (hideAll h ((env :: outer).filterMap (·.frame))).get? b = some o := fun b o q nm => hideAll_get _ (F.keep b o q) fun hm => by
    rcases memx b hm with z | z
    · rw [z, kts_self F] at q
      cases q
    · exact nm z
  have hl : ∀ q ∈ news, (hideAll h ((env :: outer).filterMap (·.frame))).get? q.1 = some q.2 ∧ g.get? q.1 = none ∧ base.get? q.1 = none := fun q hq => by
    refine ⟨hideAll_get _ (N q hq).1 fun hm => ?_, (N q hq).2.2, fresh_of_stays K.stays (N q hq).2.2⟩
    rcases memx _ hm with z | z
    · exact (N q hq).2.1 z
    · obtain ⟨o, ho, _⟩ := (K.frames.mem z).2
      rw [(N q hq).2.2] at ho; cases ho
  obtain ⟨ob, tp, he, hcls, hd⟩ := hx.there
  have hen : (hideAll h ((env :: outer).filterMap (·.frame))).get? e = none := by
    cases q : (hideAll h ((env :: outer).filterMap (·.frame))).get? e with
    | none => rfl
    | some o => have := of_hideAll _ q; rw [hx.new] at this; cases this
  refine wpAny_leaving_firstW (a0 := tp) K'.stack ((funFrames_hide K'.frames hin).of_keeps fun b o hb _ => ⟨o, hx.keeps b o hb, rfl⟩) hf he (fun b o hb => hx.keeps b o (of_hideAll _ hb)) hen hd rfl rfl fun h' hL => ?_
  obtain ⟨k1, ⟨_, _, k2⟩, k3, k4⟩ := hL
  have R : RaisedSN base g outer e (.type cls) news h' := ⟨_, tp, st, sg, hl, k1, hen, k2, by rw [← hcls]; exact k3⟩
  exact hQ h' R R.toN (((Heap.UpToSlots.of_keeps F.keep).trans (Heap.UpToSlots.of_keeps hx.keeps)).trans k4)
  (run_tac sh1)
theorem stop_leaving {M : Model} {A : Around} {env : Env} {e : Value} {Q : Unit → Shared → Prop} {E : Value → Shared → Prop} {s : Shared} (h : wpAny M A (leaving env e) Q E s) : wpAny M A (leaving env e) Q E s := h
theorem stop_getM {M : Model} {A : Around} {a : Value} {n : Str} {c : Sem Bool} {Q : Value × List Value → Shared → Prop} {E : Value → Shared → Prop} {s : Shared} (h : wpAny M A (getMethod a n c) Q E s) : wpAny M A (getMethod a n c) Q E s := h
theorem stop_bin2 {M : Model} {A : Around} {op : Operator} {a b : Value} {Q : Value → Shared → Prop} {E : Value → Shared → Prop} {s : Shared} (h : wpAny M A (binaryOp op a b) Q E s) : wpAny M A (binaryOp op a b) Q E s := h
theorem dicts_of {h₀ h : Heap} {L : Addr} {m : Str → Option Value} {env : Env} (F : Fr h₀ L h m) (hf : env.frame = some L) : KtsDicts ([env].filterMap (·.frame)) h := fun b hb => by
  have hl : [env].filterMap (·.frame) = [L] := by simp [hf]
  rw [hl] at hb
  rw [List.mem_singleton.mp hb]
  obtain ⟨oL, es, ep, hL, hLd, _⟩ := F.ns
  exact ⟨oL, es, ep, hL, hLd⟩
section
variable {w : World} {A₀ A : Around} {base h₀ : Heap} {outer : List Env} {env : Env} {L : Addr} {m : Str → Option Value} {p : Program} {loose : List Str} {mean : ExcName → Option Value} {mg mb : Str → Option Value}
    {s : Shared} {Q : Value → Shared → Prop} {E : Value → Shared → Prop}
theorem c_ref0 {z dz r : Addr} {l : Value} {e1 e2 : Int} {t1 t2 k0 : Tok} {n : Nat}
    (B : Below A₀ base [] h₀) (F : Fr h₀ L s.heap m) (X : (Mine.hd.heap_39 w.params).In h₀) (T : Top p loose mean mg mb h₀) (hA : A.frames = some (env :: [])) (hf : env.frame = some L) (hk : env.scope.kind = .function) (hd : A.depth ≤ 700) (hu : A.units ≤ 7000) (hh : A.handled = none) (XB : (Mine.hd.heap_39 w.params).In base) (TB : Top p loose mean mg mb base)
    (hz : s.heap.get? z = some (instObj 592 dz)) (hdz : s.heap.get? dz = some (polyD r l e1 e2 t1 t2 n))
    (hQ : RetS s L Q (fun v => ∃ t, v = .str (Str.ofString "type") t)) :
    wpAny (model PySem.Challenge.rw_ix0027_01.row.prog w) A (call (.ref 1011) [.int 0 k0, .ref z, .none] []) Q E s := by
  (run_tac sh0)
  have D' := dicts_of F hf
  refine' enterP (binds := [(Str.ofString "which", .int 0 k0), (Str.ofString "here", .ref z), (Str.ofString "there", .none)]) B F X T hA hf hk ?k8 ?k6 ?k7 ?k9 ?kB ?c5 ?c2 ?c3 ?c4 ?_
  case k6 => k_is
  case k7 => k_is
  case k8 => k_room
  case k9 => exact BindsTo.of_eq rfl
  case c5 => decide
  case kB => exact locs rfl
  case c2 => exact rfl
  case c3 => exact rfl
  case c4 => exact rfl
  clear B F X T hA hk
  intro L' h' tk' F' N' B' X' T'
  (try dsimp only)
  repeat (first | ((with_reducible refine' Raise_new ?hh ?_); (case hh => first | exact hh | rfl)) | walk1 | (dsimp only; walk1) | ((refine' wpAny_Expr_any ?_ ?hi ?hs); (case hi => rfl); (case hs => with_unfolding_all rfl)))
  (try dsimp only)
  exact ret_ofS hQ hf (by k_asm) (by first | assumption | exact KtsTurn.refl) ⟨_, rfl⟩
  (run_tac sh1)

theorem c_ref1 {z dz y dy r : Addr} {l l2 : Value} {e1 e2 e3 e4 : Int} {t1 t2 t3 t4 k0 : Tok} {n n2 : Nat}
    (B : Below A₀ base [] h₀) (F : Fr h₀ L s.heap m) (X : (Mine.hd.heap_39 w.params).In h₀) (T : Top p loose mean mg mb h₀) (hA : A.frames = some (env :: [])) (hf : env.frame = some L) (hk : env.scope.kind = .function) (hd : A.depth ≤ 700) (hu : A.units ≤ 7000) (hh : A.handled = none) (XB : (Mine.hd.heap_39 w.params).In base) (TB : Top p loose mean mg mb base)
    (hz : s.heap.get? z = some (instObj 592 dz)) (hdz : s.heap.get? dz = some (polyD r l e1 e2 t1 t2 n)) (hy : s.heap.get? y = some (instObj 528 dy)) (hdy : s.heap.get? dy = some (polyD r l2 e3 e4 t3 t4 n2))
    (hQ : RetS s L Q (fun v => ∃ t, v = .str (Str.ofString "kind") t)) :
    wpAny (model PySem.Challenge.rw_ix0027_01.row.prog w) A (call (.ref 1011) [.int 1 k0, .ref z, .ref y] []) Q E s := by
  (run_tac sh0)
  have D' := dicts_of F hf
  refine' enterP (binds := [(Str.ofString "which", .int 1 k0), (Str.ofString "here", .ref z), (Str.ofString "there", .ref y)]) B F X T hA hf hk ?k8 ?k6 ?k7 ?k9 ?kB ?c5 ?c2 ?c3 ?c4 ?_
  case k6 => k_is
  case k7 => k_is
  case k8 => k_room
  case k9 => exact BindsTo.of_eq rfl
  case c5 => decide
  case kB => exact locs rfl
  case c2 => exact rfl
  case c3 => exact rfl
  case c4 => exact rfl
  clear B F X T hA hk
  intro L' h' tk' F' N' B' X' T'
  (try dsimp only)
  repeat ((fail_if_success (with_reducible refine stop_bin2 ?_)); (first | ((with_reducible refine' Raise_new ?hh ?_); (case hh => first | exact hh | rfl)) | walk1 | (dsimp only; walk1) | ((refine' wpAny_Expr_any ?_ ?hi ?hs); (case hi => rfl); (case hs => with_unfolding_all rfl))))
  refine' binop2_K (f := 577) ?F ?X ?I ?I2 ?hne ?hc ?hc2 ?hs ?hf ?hr ?hp ?hs2 ?hr2 ?hp2 ?hsub ?_
  case F => k_asm
  case X => k_in
  case I => exact InstAt.mk (od := some _) (Fr.keep (by k_asm) _ _ hz) rfl rfl (Fr.keep (by k_asm) _ _ hdz)
  case I2 => exact InstAt.mk (od := some _) (Fr.keep (by k_asm) _ _ hy) rfl rfl (Fr.keep (by k_asm) _ _ hdy)
  case hne => decide
  case hc => k_is
  case hc2 => k_is
  case hs => k_is
  case hf => k_is
  case hr => k_is
  case hs2 => k_is
  case hr2 => k_is
  case hp => first | exact .inl rfl | exact .inr ⟨_, rfl⟩
  case hp2 => first | exact .inl rfl | exact .inr ⟨_, rfl⟩
  case hsub => k_is
  repeat ((fail_if_success (with_reducible refine stop_getM ?_)); (first | ((with_reducible refine' Raise_new ?hh ?_); (case hh => first | exact hh | rfl)) | walk1 | (dsimp only; walk1) | ((refine' wpAny_Expr_any ?_ ?hi ?hs); (case hi => rfl); (case hs => with_unfolding_all rfl))))
  have hz1 := Fr.keep (by assumption) _ _ hz
  have hdz1 := Fr.keep (by assumption) _ _ hdz
  have hy1 := Fr.keep (by assumption) _ _ hy
  have hdy1 := Fr.keep (by assumption) _ _ hdy
  repeat ((fail_if_success (with_reducible refine stop_builtin (f := "isinstance") ?_)); (first | ((with_reducible refine' Raise_new ?hh ?_); (case hh => first | exact hh | rfl)) | walk1 | (dsimp only; walk1) | ((refine' wpAny_Expr_any ?_ ?hi ?hs); (case hi => rfl); (case hs => with_unfolding_all rfl))))
  have hz2 := Fr.keep (by assumption) _ _ hz1
  have hdz2 := Fr.keep (by assumption) _ _ hdz1
  have hy2 := Fr.keep (by assumption) _ _ hy1
  have hdy2 := Fr.keep (by assumption) _ _ hdy1
  repeat ((fail_if_success (with_reducible refine stop_leaving ?_)); (first | ((with_reducible refine' Raise_new ?hh ?_); (case hh => first | exact hh | rfl)) | walk1 | (dsimp only; walk1) | ((refine' wpAny_Expr_any ?_ ?hi ?hs); (case hi => rfl); (case hs => with_unfolding_all rfl))))
  refine' leave_newSX ?lf ?lk ?lB ?lx ?lF ?lN ?_
  case lf => rfl
  case lk => rfl
  case lB => assumption
  case lx => assumption
  case lF => assumption
  case lN => k_asm
  intro h₅ S₅ R₅ U₅
  (try dsimp only at S₅ R₅ U₅ ⊢)
  repeat (first | ((with_reducible refine' Raise_new ?hh ?_); (case hh => first | exact hh | rfl)) | walk1 | (dsimp only; walk1) | ((refine' wpAny_Expr_any ?_ ?hi ?hs); (case hi => rfl); (case hs => with_unfolding_all rfl)))
  (try dsimp only)
  exact ret_ofS hQ hf (by k_asm) (by first | assumption | exact KtsTurn.refl) ⟨_, rfl⟩
  (run_tac sh1)

theorem c_ref2 {z dz y dy r : Addr} {l l2 : Value} {e1 e2 e3 e4 : Int} {t1 t2 t3 t4 k0 : Tok} {n n2 : Nat}
    (B : Below A₀ base [] h₀) (F : Fr h₀ L s.heap m) (X : (Mine.hd.heap_39 w.params).In h₀) (T : Top p loose mean mg mb h₀) (hA : A.frames = some (env :: [])) (hf : env.frame = some L) (hk : env.scope.kind = .function) (hd : A.depth ≤ 700) (hu : A.units ≤ 7000) (hh : A.handled = none) (XB : (Mine.hd.heap_39 w.params).In base) (TB : Top p loose mean mg mb base)
    (hz : s.heap.get? z = some (instObj 592 dz)) (hdz : s.heap.get? dz = some (polyD r l e1 e2 t1 t2 n)) (hy : s.heap.get? y = some (instObj 528 dy)) (hdy : s.heap.get? dy = some (polyD r l2 e3 e4 t3 t4 n2))
    (hQ : RetS s L Q (fun v => ∃ t, v = .str (Str.ofString "kind") t)) :
    wpAny (model PySem.Challenge.rw_ix0027_01.row.prog w) A (call (.ref 1011) [.int 2 k0, .ref z, .ref y] []) Q E s := by
  (run_tac sh0)
  have D' := dicts_of F hf
  refine' enterP (binds := [(Str.ofString "which", .int 2 k0), (Str.ofString "here", .ref z), (Str.ofString "there", .ref y)]) B F X T hA hf hk ?k8 ?k6 ?k7 ?k9 ?kB ?c5 ?c2 ?c3 ?c4 ?_
  case k6 => k_is
  case k7 => k_is
  case k8 => k_room
  case k9 => exact BindsTo.of_eq rfl
  case c5 => decide
  case kB => exact locs rfl
  case c2 => exact rfl
  case c3 => exact rfl
  case c4 => exact rfl
  clear B F X T hA hk
  intro L' h' tk' F' N' B' X' T'
  (try dsimp only)
  repeat ((fail_if_success (with_reducible refine stop_bin2 ?_)); (first | ((with_reducible refine' Raise_new ?hh ?_); (case hh => first | exact hh | rfl)) | walk1 | (dsimp only; walk1) | ((refine' wpAny_Expr_any ?_ ?hi ?hs); (case hi => rfl); (case hs => with_unfolding_all rfl))))
  refine' binop2_K (f := 584) ?F ?X ?I ?I2 ?hne ?hc ?hc2 ?hs ?hf ?hr ?hp ?hs2 ?hr2 ?hp2 ?hsub ?_
  case F => k_asm
  case X => k_in
  case I => exact InstAt.mk (od := some _) (Fr.keep (by k_asm) _ _ hz) rfl rfl (Fr.keep (by k_asm) _ _ hdz)
  case I2 => exact InstAt.mk (od := some _) (Fr.keep (by k_asm) _ _ hy) rfl rfl (Fr.keep (by k_asm) _ _ hdy)
  case hne => decide
  case hc => k_is
  case hc2 => k_is
  case hs => k_is
  case hf => k_is
  case hr => k_is
  case hs2 => k_is
  case hr2 => k_is
  case hp => first | exact .inl rfl | exact .inr ⟨_, rfl⟩
  case hp2 => first | exact .inl rfl | exact .inr ⟨_, rfl⟩
  case hsub => k_is
  repeat ((fail_if_success (with_reducible refine stop_getM ?_)); (first | ((with_reducible refine' Raise_new ?hh ?_); (case hh => first | exact hh | rfl)) | walk1 | (dsimp only; walk1) | ((refine' wpAny_Expr_any ?_ ?hi ?hs); (case hi => rfl); (case hs => with_unfolding_all rfl))))
  have hz1 := Fr.keep (by assumption) _ _ hz
  have hdz1 := Fr.keep (by assumption) _ _ hdz
  have hy1 := Fr.keep (by assumption) _ _ hy
  have hdy1 := Fr.keep (by assumption) _ _ hdy
  repeat ((fail_if_success (with_reducible refine stop_builtin (f := "isinstance") ?_)); (first | ((with_reducible refine' Raise_new ?hh ?_); (case hh => first | exact hh | rfl)) | walk1 | (dsimp only; walk1) | ((refine' wpAny_Expr_any ?_ ?hi ?hs); (case hi => rfl); (case hs => with_unfolding_all rfl))))
  have hz2 := Fr.keep (by assumption) _ _ hz1
  have hdz2 := Fr.keep (by assumption) _ _ hdz1
  have hy2 := Fr.keep (by assumption) _ _ hy1
  have hdy2 := Fr.keep (by assumption) _ _ hdy1
  repeat ((fail_if_success (with_reducible refine stop_leaving ?_)); (first | ((with_reducible refine' Raise_new ?hh ?_); (case hh => first | exact hh | rfl)) | walk1 | (dsimp only; walk1) | ((refine' wpAny_Expr_any ?_ ?hi ?hs); (case hi => rfl); (case hs => with_unfolding_all rfl))))
  refine' leave_newSX ?lf ?lk ?lB ?lx ?lF ?lN ?_
  case lf => rfl
  case lk => rfl
  case lB => assumption
  case lx => assumption
  case lF => assumption
  case lN => k_asm
  intro h₅ S₅ R₅ U₅
  (try dsimp only at S₅ R₅ U₅ ⊢)
  repeat (first | ((with_reducible refine' Raise_new ?hh ?_); (case hh => first | exact hh | rfl)) | walk1 | (dsimp only; walk1) | ((refine' wpAny_Expr_any ?_ ?hi ?hs); (case hi => rfl); (case hs => with_unfolding_all rfl)))
  (try dsimp only)
  exact ret_ofS hQ hf (by k_asm) (by first | assumption | exact KtsTurn.refl) ⟨_, rfl⟩
  (run_tac sh1)

theorem c_ref3 {z dz y dy r : Addr} {l l2 : Value} {e1 e2 e3 e4 : Int} {t1 t2 t3 t4 k0 : Tok} {n n2 : Nat}
    (B : Below A₀ base [] h₀) (F : Fr h₀ L s.heap m) (X : (Mine.hd.heap_39 w.params).In h₀) (T : Top p loose mean mg mb h₀) (hA : A.frames = some (env :: [])) (hf : env.frame = some L) (hk : env.scope.kind = .function) (hd : A.depth ≤ 700) (hu : A.units ≤ 7000) (hh : A.handled = none) (XB : (Mine.hd.heap_39 w.params).In base) (TB : Top p loose mean mg mb base)
    (hz : s.heap.get? z = some (instObj 592 dz)) (hdz : s.heap.get? dz = some (polyD r l e1 e2 t1 t2 n)) (hy : s.heap.get? y = some (instObj 528 dy)) (hdy : s.heap.get? dy = some (polyD r l2 e3 e4 t3 t4 n2))
    (hQ : RetS s L Q (fun v => ∃ t, v = .str (Str.ofString "kind") t)) :
    wpAny (model PySem.Challenge.rw_ix0027_01.row.prog w) A (call (.ref 1011) [.int 3 k0, .ref z, .ref y] []) Q E s := by
  (run_tac sh0)
  have D' := dicts_of F hf
  refine' enterP (binds := [(Str.ofString "which", .int 3 k0), (Str.ofString "here", .ref z), (Str.ofString "there", .ref y)]) B F X T hA hf hk ?k8 ?k6 ?k7 ?k9 ?kB ?c5 ?c2 ?c3 ?c4 ?_
  case k6 => k_is
  case k7 => k_is
  case k8 => k_room
  case k9 => exact BindsTo.of_eq rfl
  case c5 => decide
  case kB => exact locs rfl
  case c2 => exact rfl
  case c3 => exact rfl
  case c4 => exact rfl
  clear B F X T hA hk
  intro L' h' tk' F' N' B' X' T'
  (try dsimp only)
  repeat ((fail_if_success (with_reducible refine stop_bin2 ?_)); (first | ((with_reducible refine' Raise_new ?hh ?_); (case hh => first | exact hh | rfl)) | walk1 | (dsimp only; walk1) | ((refine' wpAny_Expr_any ?_ ?hi ?hs); (case hi => rfl); (case hs => with_unfolding_all rfl))))
  refine' binop2_K (f := 589) ?F ?X ?I ?I2 ?hne ?hc ?hc2 ?hs ?hf ?hr ?hp ?hs2 ?hr2 ?hp2 ?hsub ?_
  case F => k_asm
  case X => k_in
  case I => exact InstAt.mk (od := some _) (Fr.keep (by k_asm) _ _ hz) rfl rfl (Fr.keep (by k_asm) _ _ hdz)
  case I2 => exact InstAt.mk (od := some _) (Fr.keep (by k_asm) _ _ hy) rfl rfl (Fr.keep (by k_asm) _ _ hdy)
  case hne => decide
  case hc => k_is
  case hc2 => k_is
  case hs => k_is
  case hf => k_is
  case hr => k_is
  case hs2 => k_is
  case hr2 => k_is
  case hp => first | exact .inl rfl | exact .inr ⟨_, rfl⟩
  case hp2 => first | exact .inl rfl | exact .inr ⟨_, rfl⟩
  case hsub => k_is
  repeat ((fail_if_success (with_reducible refine stop_builtin (f := "isinstance") ?_)); (first | ((with_reducible refine' Raise_new ?hh ?_); (case hh => first | exact hh | rfl)) | walk1 | (dsimp only; walk1) | ((refine' wpAny_Expr_any ?_ ?hi ?hs); (case hi => rfl); (case hs => with_unfolding_all rfl))))
  have hz2 := Fr.keep (by assumption) _ _ hz
  have hdz2 := Fr.keep (by assumption) _ _ hdz
  have hy2 := Fr.keep (by assumption) _ _ hy
  have hdy2 := Fr.keep (by assumption) _ _ hdy
  repeat ((fail_if_success (with_reducible refine stop_leaving ?_)); (first | ((with_reducible refine' Raise_new ?hh ?_); (case hh => first | exact hh | rfl)) | walk1 | (dsimp only; walk1) | ((refine' wpAny_Expr_any ?_ ?hi ?hs); (case hi => rfl); (case hs => with_unfolding_all rfl))))
  refine' leave_newSX ?lf ?lk ?lB ?lx ?lF ?lN ?_
  case lf => rfl
  case lk => rfl
  case lB => assumption
  case lx => assumption
  case lF => assumption
  case lN => k_asm
  intro h₅ S₅ R₅ U₅
  (try dsimp only at S₅ R₅ U₅ ⊢)
  repeat (first | ((with_reducible refine' Raise_new ?hh ?_); (case hh => first | exact hh | rfl)) | walk1 | (dsimp only; walk1) | ((refine' wpAny_Expr_any ?_ ?hi ?hs); (case hi => rfl); (case hs => with_unfolding_all rfl)))
  (try dsimp only)
  exact ret_ofS hQ hf (by k_asm) (by first | assumption | exact KtsTurn.refl) ⟨_, rfl⟩
  (run_tac sh1)

end

theorem fresh_35 : True := by
  w_top off
  trivial
/-- a row of the law: its numbers and its element -/
inductive RowAt (h : Heap) (r : Addr) (u : Value) (ns : List Int) : Prop
  | mk (T l z : Addr) (k : Nat) (ls : List Value) (e : u = .ref T) (a : h.get? T = some (pairOf (.ref l) (.ref z))) (b : h.get? l = some (listOf ls.toArray k)) (c : IntsAre ls ns) (d : ns.length = 256) (f : Small ns) (g : PolyAt h r z ns) : RowAt h r u ns
theorem RowAt.mono {h h' : Heap} {r : Addr} {u : Value} {ns : List Int} (k : ∀ b o, h.get? b = some o → h'.get? b = some o) : RowAt h r u ns → RowAt h' r u ns
  | ⟨T, l, z, j, ls, e, a, b, c, d, f, g⟩ => ⟨T, l, z, j, ls, e, k _ _ a, k _ _ b, c, d, f, PolyAt.mono k g⟩
inductive RowNew (g h : Heap) (r : Addr) (u : Value) (ns : List Int) : Prop
  | mk (T l z : Addr) (k : Nat) (ls : List Value) (e : u = .ref T) (p1 : g.get? T = none) (p2 : g.get? l = none) (a : h.get? T = some (pairOf (.ref l) (.ref z))) (b : h.get? l = some (listOf ls.toArray k)) (c : IntsAre ls ns) (d : ns.length = 256) (f : Small ns) (q : PolyNew g h r z ns) : RowNew g h r u ns
theorem small_one (x : Int) : -1099511627776 ≤ x.fmod 8380417 ∧ x.fmod 8380417 ≤ 1099511627776 := by
  have h1 := fmod_lo x (n := 8380417) (by decide)
  have h2 := fmod_hi x (n := 8380417) (by decide)
  omega
theorem small_zip (f : Int → Int → Int) : ∀ (xs ys : List Int), Small (List.zipWith (fun a b => (f a b).fmod 8380417) xs ys)
  | [], _, c, h => by simp at h
  | _ :: _, [], c, h => by simp at h
  | x :: xs, y :: ys, c, h => by
    rcases List.mem_cons.mp (show c ∈ (f x y).fmod 8380417 :: List.zipWith (fun a b => (f a b).fmod 8380417) xs ys from h) with rfl | h
    · exact small_one _
    · exact small_zip f xs ys c h
theorem small_map (f : Int → Int) (xs : List Int) : Small (xs.map fun a => (f a).fmod 8380417) := fun c h => by
  obtain ⟨a, _, rfl⟩ := List.mem_map.mp h
  exact small_one _
theorem unpack_LL {prog : Program} {w : World} {A : Around} {E : Value → Shared → Prop} {s : Shared} {cn : Str} {cs : Scope} {L a T : Addr} {ccd : Value} {cl : List (Str × Addr)} {x y : Str} {names : List Str} {va vb : Value} {g : Heap} {m : Str → Option Value} {news : List (Addr × Obj)} {Q : Unit → Shared → Prop}
    (hns : names = [x, y]) (hh : A.handled = none) (F : Fr g L s.heap m) (N : News g L s.heap news) (ht : s.heap.IsTuple T #[va, vb])
    (h : ∀ h' tk, Fr g L h' (fun z => if z = x then some va else if z = y then some vb else m z) → News g L h' news → Q () { s with heap := h', toks := tk })
    (hk : cs.kind = .function) (hx : (envX cn cs L a ccd cl).kindOf x = some .local) (hy : (envX cn cs L a ccd cl).kindOf y = some .local) :
    wpAny (model prog w) A (unpackItems (.ref T) names.length none) (fun items s₂ => wpAny (model prog w) A (assignInOrder (names.reverse.map fun n => bindName (envX cn cs L a ccd cl) n) items.reverse) Q E s₂) E s := by
  (run_tac sh0)
  subst hns
  refine wpAny_unpackItems_tuple (items := #[va, vb]) hh ht fun h₁ hx₁ => ?_
  have k₁ : ∀ b o, s.heap.get? b = some o → h₁.get? b = some o := fun b o e => hx₁ b o (Nat.ne_of_lt (Heap.lt_size e)) e
  have F₁ := Fr.keeps F k₁
  have N₁ := News.grown N k₁
  show wpAny _ _ (do holding [va] (bindName (envX cn cs L a ccd cl) y vb); (do holding [] (bindName (envX cn cs L a ccd cl) x va); pure ())) _ _ _
  refine wpAny_bind (wpAny_holding (bindName_ (storeX_L (s := { s with heap := h₁ }) F₁ N₁ (fun h₂ F₂ N₂ => ?_) hk hy)))
  refine wpAny_bind (wpAny_holding (bindName_ (storeX_L (s := { s with heap := h₂, toks := s.toks + 1 }) F₂ N₂ (fun h₃ F₃ N₃ => ?_) hk hx)))
  exact wpAny_pure (h h₃ _ F₃ N₃)
  (run_tac sh1)
theorem stop_Keep {a : Prop} {b : Prop} (h : a ∧ b) : a ∧ b := h
theorem stop_unpack {M : Model} {A : Around} {v : Value} {n : Nat} {o : Option Nat} {Q : List Value → Shared → Prop} {E : Value → Shared → Prop} {s : Shared} (h : wpAny M A (unpackItems v n o) Q E s) : wpAny M A (unpackItems v n o) Q E s := h
theorem pick {vs : List Value} (h0 : 0 < vs.length) (j : Int) : 0 ≤ j.fmod ((vs.length : Nat) : Int) ∧ j.fmod ((vs.length : Nat) : Int) < ((vs.length : Nat) : Int) ∧ ∃ u, vs[(j.fmod ((vs.length : Nat) : Int)).toNat]? = some u ∧ u ∈ vs := by
  have h1 := fmod_lo j (n := ((vs.length : Nat) : Int)) (by omega)
  have h2 := fmod_hi j (n := ((vs.length : Nat) : Int)) (by omega)
  refine ⟨h1, h2, vs[(j.fmod ((vs.length : Nat) : Int)).toNat]'(by omega), List.getElem?_eq_getElem _, List.getElem_mem _⟩
section
variable {w : World} {A₀ A : Around} {base h₀ : Heap} {outer : List Env} {env : Env} {L : Addr} {m : Str → Option Value} {p : Program} {loose : List Str} {mean : ExcName → Option Value} {mg mb : Str → Option Value}
    {s : Shared} {Q : Value → Shared → Prop} {E : Value → Shared → Prop}
theorem c_deed {R r : Addr} {vs : List Value} {kR : Nat} {i : Int} {ti : Tok}
    (B : Below A₀ base outer h₀) (F : Fr h₀ L s.heap m) (X : (Mine.hd.heap_39 w.params).In h₀) (T : Top p loose mean mg mb h₀) (hA : A.frames = some (env :: outer)) (hf : env.frame = some L) (hk : env.scope.kind = .function) (hd : A.depth ≤ 700) (hu : A.units ≤ 7000) (hh : A.handled = none)
    (HR : RingAt s.heap r) (hR : s.heap.get? R = some (listOf vs.toArray kR)) (hl0 : 0 < vs.length) (hl1 : vs.length ≤ 100) (hall : ∀ u ∈ vs, ∃ ns, RowAt s.heap r u ns) (hi : 0 ≤ i)
    (hQ : Ret s Q (fun v h => ∃ ns, RowNew s.heap h r v ns)) :
    wpAny (model PySem.Challenge.rw_ix0027_01.row.prog w) A (call (.ref 1004) [.ref R, .int i ti] []) Q E s := by
  (run_tac sh0)
  refine' enterC (binds := [(Str.ofString "rows", .ref R), (Str.ofString "number", .int i ti)]) B F X T hA hf hk ?k8 ?k6 ?k7 ?k9 ?kB ?c5 ?c2 ?c3 ?c4 ?_
  case k6 => k_is
  case k7 => k_is
  case k8 => k_room
  case k9 => exact BindsTo.of_eq rfl
  case c5 => decide +kernel
  case kB => exact rfl
  case c2 => exact rfl
  case c3 => exact rfl
  case c4 => exact rfl
  clear B F X T hA hf hk
  intro L' h' tk' cells' F' N' Y' B' X' T'
  k_cells Y'
  simp only [List.append_nil, List.cons_append, List.nil_append] at N'
  (try dsimp only)
  obtain ⟨ha0, ha1, a, ha, hma⟩ := pick hl0 (i.fdiv 5)
  obtain ⟨hb0, hb1, b, hb, hmb⟩ := pick hl0 (i.fdiv 35)
  obtain ⟨nsa, Ta, la, za, ka, lsa, rfl, hTa, hla, hIa, hna, hsa, HPa⟩ := hall a hma
  obtain ⟨nsb, Tb, lb, zb, kb, lsb, rfl, hTb, hlb, hIb, hnb, hsb, HPb⟩ := hall b hmb
  obtain ⟨dza, oda, hza, hdza, _⟩ := PolyAt.insts HPa
  obtain ⟨dzb, odb, hzb, hdzb, _⟩ := PolyAt.insts HPb
  repeat ((fail_if_success (with_reducible refine stop_builtin (f := "len") ?_)); (first | walk1 | (dsimp only; walk1)))
  refine len_any (vs := vs) ((vs.length : Nat) : Int) (isList_of (Fr.keep (by k_asm) _ _ hR)) rfl (by omega) ?_
  repeat ((fail_if_success (with_reducible refine stop_tail ?_)); (first | walk1 | (dsimp only; walk1)))
  refine item_any (vs := vs) (k := (i.fdiv 5).fmod ((vs.length : Nat) : Int)) (isList_of (Fr.keep (by k_asm) _ _ hR)) ha0 (by omega) ha ?_
  repeat ((fail_if_success (with_reducible refine stop_builtin (f := "len") ?_)); (first | walk1 | (dsimp only; walk1)))
  refine len_any (vs := vs) ((vs.length : Nat) : Int) (isList_of (Fr.keep (by k_asm) _ _ hR)) rfl (by omega) ?_
  repeat ((fail_if_success (with_reducible refine stop_tail ?_)); (first | walk1 | (dsimp only; walk1)))
  refine item_any (vs := vs) (k := (i.fdiv 35).fmod ((vs.length : Nat) : Int)) (isList_of (Fr.keep (by k_asm) _ _ hR)) hb0 (by omega) hb ?_
  repeat ((fail_if_success (with_reducible refine stop_newTuple ?_)); (first | walk1 | (dsimp only; walk1)))
  refine' newTuple_own ?F ?N ?_ ?hz
  case hz => exact (by decide : 2 ≤ sizeLine)
  case F => k_asm
  case N => k_asm
  intro T₆ h₆ F₆ N₆ hk₆ hT₆
  have offN := news_ne (by k_asm) hT₆
  (simp only [List.forall_mem_cons, List.not_mem_nil, false_implies, implies_true, and_true] at offN)
  k_sweep
  repeat ((fail_if_success (with_reducible refine stop_unpack ?_)); (first | walk1 | (dsimp only; walk1)))
  refine' unpack_LL (x := Str.ofString "here") (y := Str.ofString "there") ?hns ?hh ?F ?N ?ht ?_ ?hk ?hx ?hy
  case hns => rfl
  case hk => rfl
  case hx => rfl
  case hy => rfl
  case hh => assumption
  case F => k_asm
  case N => k_asm
  case ht => exact ⟨_, News.get (by k_asm) (.head _), rfl, _, rfl⟩
  intro h₅ tk₅ F₅ N₅
  (try dsimp only at N₅)
  k_sweep
  repeat ((fail_if_success (with_reducible refine stop_newTuple ?_)); (first | walk1 | (dsimp only; walk1)))
  refine' newTuple_own ?F ?N ?_ ?hz
  case hz => exact (by decide : 2 ≤ sizeLine)
  case F => k_asm
  case N => k_asm
  intro T₆ h₆ F₆ N₆ hk₆ hT₆
  have offN := news_ne (by k_asm) hT₆
  (simp only [List.forall_mem_cons, List.not_mem_nil, false_implies, implies_true, and_true] at offN)
  k_sweep
  (try dsimp only)
  repeat ((fail_if_success (with_reducible refine stop_assign ?_)); (first | walk1 | (dsimp only; walk1)))
  refine' assign_LC ?hh ?F ?N ?ht ?hc ?U ?hd ?_
  case hh => assumption
  case F => k_asm
  case N => k_asm
  case ht => exact ⟨_, News.get (by k_asm) (.head _), rfl, _, rfl⟩
  case hc => rfl
  case U => k_updF
  case hd => assumption
  intro h₅ o₅ tk₅ F₅ N₅ d₅
  (try dsimp only at N₅)
  k_sweep
  repeat ((fail_if_success (with_reducible refine stop_Comp ?_)); (first | walk1 | (dsimp only; walk1)))
  ·
    refine' zip_ListComp ?hh ?hclos ?hcell ?hkind ?hnames ?hxa ?hxb ?hab ?_
    case hh => assumption
    case hclos => with_unfolding_all rfl
    case hcell => decide
    case hkind => rfl
    case hnames => decide
    case hxa => rfl
    case hxb => rfl
    case hab => decide
    repeat ((fail_if_success (with_reducible refine stop_tail ?_)); (first | walk1 | (dsimp only; walk1)))
    refine item_tupleT (l := [.ref la, .ref za]) (j := 0) ⟨_, Fr.keep (by k_asm) _ _ hTa, rfl, _, rfl⟩ (by decide) (by decide) (by rfl) (by rfl) ?_
    repeat ((fail_if_success (with_reducible refine stop_tail ?_)); (first | walk1 | (dsimp only; walk1)))
    refine item_tupleT (l := [.ref lb, .ref zb]) (j := 0) ⟨_, Fr.keep (by k_asm) _ _ hTb, rfl, _, rfl⟩ (by decide) (by decide) (by rfl) (by rfl) ?_
    repeat ((fail_if_success (with_reducible refine stop_type (f := "zip") ?_)); (first | walk1 | (dsimp only; walk1)))
    have KF : ∀ b o, s.heap.get? b = some o → _ := Fr.keep (by k_asm)
    have HF := Fr.keeps (by k_asm) (fun b o e => e)
    refine' zip_ints (fun a b => (a + b).fmod 8380417) ?hh ?hl1 ?hl2 ?hi1 ?hi2 ?hlen ?hsz ?helt ?hQ
    case hh => assumption
    case hl1 => exact isList_of (Fr.keep (by k_asm) _ _ hla)
    case hl2 => exact isList_of (Fr.keep (by k_asm) _ _ hlb)
    case hi1 => exact hIa
    case hi2 => exact hIb
    case hlen => omega
    case hsz => rw [hna]; decide
    case helt =>
      intro C x' y' tx ty s₃ m₃ E' hx' hy' hC hN ha' hb' hk₃
      have cF := Fr.keeps (by k_asm) hk₃
      have cN := News.grown (by k_asm) hk₃
      have hs1 := (hsa x' hx').1
      have hs2 := (hsa x' hx').2
      repeat ((fail_if_success (with_reducible refine stop_Keep ?_)); (first | walk1 | (dsimp only; walk1)))
      exact ⟨⟨_, rfl⟩, _, _, rfl, fun _ _ e => e⟩
    case hQ =>
      intro D h'' tk'' vs' hD0 hD hI hk''
      have cF := Fr.keeps (by k_asm) hk''
      have cN := news_add (by k_asm) (News.grown (by k_asm) hk'') hD0 hD
      k_sweep
      repeat ((fail_if_success (with_reducible refine stop_tail ?_)); (first | walk1 | (dsimp only; walk1)))
      refine item_tupleT (l := [.ref la, .ref za]) (j := 1) ⟨_, Fr.keep (by k_asm) _ _ hTa, rfl, _, rfl⟩ (by decide) (by decide) (by rfl) (by rfl) ?_
      repeat ((fail_if_success (with_reducible refine stop_tail ?_)); (first | walk1 | (dsimp only; walk1)))
      refine item_tupleT (l := [.ref lb, .ref zb]) (j := 1) ⟨_, Fr.keep (by k_asm) _ _ hTb, rfl, _, rfl⟩ (by decide) (by decide) (by rfl) (by rfl) ?_
      repeat ((fail_if_success (with_reducible refine stop_call (f := 577) ?_)); (first | walk1 | (dsimp only; walk1)))
      refine' c_padd ?B ?F ?X ?T (frames_in ?B) ?hf ?hk ?hd ?hu ?hh ?q0 ?q1 ?q2 ?ret
      case B => k_asm
      case F => k_asm
      case X => k_asm
      case T => k_asm
      case hf => rfl
      case hk => rfl
      case hd => k_room
      case hu => k_room
      case hh => first | assumption | rfl
      case q0 => exact RingAt.mono (Fr.keep (by k_asm)) HR
      case q1 => exact PolyAt.mono (Fr.keep (by k_asm)) HPa
      case q2 => exact PolyAt.mono (Fr.keep (by k_asm)) HPb
      case ret =>
        intro v₄ h₄ tk₄ hk₄ post₄
        obtain ⟨z, rfl, post₄⟩ := post₄
        have post₅ := PolyNew.older (Fr.keep (by k_asm)) post₄
        clear post₄
        have cF₄ := Fr.keeps (by k_asm) hk₄
        have cN₄ := News.grown (by k_asm) hk₄
        k_sweep
        (try dsimp only [PySem.W.CmpBack])
        repeat ((fail_if_success (with_reducible refine stop_newTuple ?_)); (first | walk1 | (dsimp only; walk1)))
        refine' newTuple_own ?F ?N ?_ ?hz
        case hz => exact (by decide : 2 ≤ sizeLine)
        case F => k_asm
        case N => k_asm
        intro T₆ h₆ F₆ N₆ hk₆ hT₆
        have offN := news_ne (by k_asm) hT₆
        (simp only [List.forall_mem_cons, List.not_mem_nil, false_implies, implies_true, and_true] at offN)
        k_sweep
        have P₆ := PolyNew.step (Older.refl _) (fun _ _ _ e => hk₆ _ _ e) post₅
        repeat (first | walk1 | (dsimp only; walk1))
        (try dsimp only)
        refine ret_of hQ (by k_asm) ?_
        (rename News _ _ _ _ => NN)
        exact ⟨_, _, D, z, _, _, rfl, (NN _ (.head _)).2.2, (NN _ (.tail _ (.head _))).2.2, (NN _ (.head _)).1, (NN _ (.tail _ (.head _))).1, hI, by simp [hna, hnb], small_zip (fun a b => a + b) _ _, P₆⟩
  repeat ((fail_if_success (with_reducible refine stop_Comp ?_)); (first | walk1 | (dsimp only; walk1)))
  ·
    refine' zip_ListComp ?hh ?hclos ?hcell ?hkind ?hnames ?hxa ?hxb ?hab ?_
    case hh => assumption
    case hclos => with_unfolding_all rfl
    case hcell => decide
    case hkind => rfl
    case hnames => decide
    case hxa => rfl
    case hxb => rfl
    case hab => decide
    repeat ((fail_if_success (with_reducible refine stop_tail ?_)); (first | walk1 | (dsimp only; walk1)))
    refine item_tupleT (l := [.ref la, .ref za]) (j := 0) ⟨_, Fr.keep (by k_asm) _ _ hTa, rfl, _, rfl⟩ (by decide) (by decide) (by rfl) (by rfl) ?_
    repeat ((fail_if_success (with_reducible refine stop_tail ?_)); (first | walk1 | (dsimp only; walk1)))
    refine item_tupleT (l := [.ref lb, .ref zb]) (j := 0) ⟨_, Fr.keep (by k_asm) _ _ hTb, rfl, _, rfl⟩ (by decide) (by decide) (by rfl) (by rfl) ?_
    repeat ((fail_if_success (with_reducible refine stop_type (f := "zip") ?_)); (first | walk1 | (dsimp only; walk1)))
    have KF : ∀ b o, s.heap.get? b = some o → _ := Fr.keep (by k_asm)
    have HF := Fr.keeps (by k_asm) (fun b o e => e)
    refine' zip_ints (fun a b => (a - b).fmod 8380417) ?hh ?hl1 ?hl2 ?hi1 ?hi2 ?hlen ?hsz ?helt ?hQ
    case hh => assumption
    case hl1 => exact isList_of (Fr.keep (by k_asm) _ _ hla)
    case hl2 => exact isList_of (Fr.keep (by k_asm) _ _ hlb)
    case hi1 => exact hIa
    case hi2 => exact hIb
    case hlen => omega
    case hsz => rw [hna]; decide
    case helt =>
      intro C x' y' tx ty s₃ m₃ E' hx' hy' hC hN ha' hb' hk₃
      have cF := Fr.keeps (by k_asm) hk₃
      have cN := News.grown (by k_asm) hk₃
      have hs1 := (hsa x' hx').1
      have hs2 := (hsa x' hx').2
      repeat ((fail_if_success (with_reducible refine stop_Keep ?_)); (first | walk1 | (dsimp only; walk1)))
      exact ⟨⟨_, rfl⟩, _, _, rfl, fun _ _ e => e⟩
    case hQ =>
      intro D h'' tk'' vs' hD0 hD hI hk''
      have cF := Fr.keeps (by k_asm) hk''
      have cN := news_add (by k_asm) (News.grown (by k_asm) hk'') hD0 hD
      k_sweep
      repeat ((fail_if_success (with_reducible refine stop_tail ?_)); (first | walk1 | (dsimp only; walk1)))
      refine item_tupleT (l := [.ref la, .ref za]) (j := 1) ⟨_, Fr.keep (by k_asm) _ _ hTa, rfl, _, rfl⟩ (by decide) (by decide) (by rfl) (by rfl) ?_
      repeat ((fail_if_success (with_reducible refine stop_tail ?_)); (first | walk1 | (dsimp only; walk1)))
      refine item_tupleT (l := [.ref lb, .ref zb]) (j := 1) ⟨_, Fr.keep (by k_asm) _ _ hTb, rfl, _, rfl⟩ (by decide) (by decide) (by rfl) (by rfl) ?_
      repeat ((fail_if_success (with_reducible refine stop_call (f := 584) ?_)); (first | walk1 | (dsimp only; walk1)))
      refine' c_psub ?B ?F ?X ?T (frames_in ?B) ?hf ?hk ?hd ?hu ?hh ?q0 ?q1 ?q2 ?ret
      case B => k_asm
      case F => k_asm
      case X => k_asm
      case T => k_asm
      case hf => rfl
      case hk => rfl
      case hd => k_room
      case hu => k_room
      case hh => first | assumption | rfl
      case q0 => exact RingAt.mono (Fr.keep (by k_asm)) HR
      case q1 => exact PolyAt.mono (Fr.keep (by k_asm)) HPa
      case q2 => exact PolyAt.mono (Fr.keep (by k_asm)) HPb
      case ret =>
        intro v₄ h₄ tk₄ hk₄ post₄
        obtain ⟨z, rfl, post₄⟩ := post₄
        have post₅ := PolyNew.older (Fr.keep (by k_asm)) post₄
        clear post₄
        have cF₄ := Fr.keeps (by k_asm) hk₄
        have cN₄ := News.grown (by k_asm) hk₄
        k_sweep
        (try dsimp only [PySem.W.CmpBack])
        repeat ((fail_if_success (with_reducible refine stop_newTuple ?_)); (first | walk1 | (dsimp only; walk1)))
        refine' newTuple_own ?F ?N ?_ ?hz
        case hz => exact (by decide : 2 ≤ sizeLine)
        case F => k_asm
        case N => k_asm
        intro T₆ h₆ F₆ N₆ hk₆ hT₆
        have offN := news_ne (by k_asm) hT₆
        (simp only [List.forall_mem_cons, List.not_mem_nil, false_implies, implies_true, and_true] at offN)
        k_sweep
        have P₆ := PolyNew.step (Older.refl _) (fun _ _ _ e => hk₆ _ _ e) post₅
        repeat (first | walk1 | (dsimp only; walk1))
        (try dsimp only)
        refine ret_of hQ (by k_asm) ?_
        (rename News _ _ _ _ => NN)
        exact ⟨_, _, D, z, _, _, rfl, (NN _ (.head _)).2.2, (NN _ (.tail _ (.head _))).2.2, (NN _ (.head _)).1, (NN _ (.tail _ (.head _))).1, hI, by simp [hna, hnb], small_zip (fun a b => a - b) _ _, P₆⟩
  repeat ((fail_if_success (with_reducible refine stop_Comp ?_)); (first | walk1 | (dsimp only; walk1)))
  ·
    refine' zip_ListComp ?hh ?hclos ?hcell ?hkind ?hnames ?hxa ?hxb ?hab ?_
    case hh => assumption
    case hclos => with_unfolding_all rfl
    case hcell => decide
    case hkind => rfl
    case hnames => decide
    case hxa => rfl
    case hxb => rfl
    case hab => decide
    repeat ((fail_if_success (with_reducible refine stop_tail ?_)); (first | walk1 | (dsimp only; walk1)))
    refine item_tupleT (l := [.ref la, .ref za]) (j := 0) ⟨_, Fr.keep (by k_asm) _ _ hTa, rfl, _, rfl⟩ (by decide) (by decide) (by rfl) (by rfl) ?_
    repeat ((fail_if_success (with_reducible refine stop_tail ?_)); (first | walk1 | (dsimp only; walk1)))
    refine item_tupleT (l := [.ref lb, .ref zb]) (j := 0) ⟨_, Fr.keep (by k_asm) _ _ hTb, rfl, _, rfl⟩ (by decide) (by decide) (by rfl) (by rfl) ?_
    repeat ((fail_if_success (with_reducible refine stop_type (f := "zip") ?_)); (first | walk1 | (dsimp only; walk1)))
    have KF : ∀ b o, s.heap.get? b = some o → _ := Fr.keep (by k_asm)
    have HF := Fr.keeps (by k_asm) (fun b o e => e)
    refine' zip_ints (fun a b => (a * b).fmod 8380417) ?hh ?hl1 ?hl2 ?hi1 ?hi2 ?hlen ?hsz ?helt ?hQ
    case hh => assumption
    case hl1 => exact isList_of (Fr.keep (by k_asm) _ _ hla)
    case hl2 => exact isList_of (Fr.keep (by k_asm) _ _ hlb)
    case hi1 => exact hIa
    case hi2 => exact hIb
    case hlen => omega
    case hsz => rw [hna]; decide
    case helt =>
      intro C x' y' tx ty s₃ m₃ E' hx' hy' hC hN ha' hb' hk₃
      have cF := Fr.keeps (by k_asm) hk₃
      have cN := News.grown (by k_asm) hk₃
      have hs1 := (hsa x' hx').1
      have hs2 := (hsa x' hx').2
      repeat ((fail_if_success (with_reducible refine stop_Keep ?_)); (first | walk1 | (dsimp only; walk1)))
      exact ⟨⟨_, rfl⟩, _, _, rfl, fun _ _ e => e⟩
    case hQ =>
      intro D h'' tk'' vs' hD0 hD hI hk''
      have cF := Fr.keeps (by k_asm) hk''
      have cN := news_add (by k_asm) (News.grown (by k_asm) hk'') hD0 hD
      k_sweep
      repeat ((fail_if_success (with_reducible refine stop_tail ?_)); (first | walk1 | (dsimp only; walk1)))
      refine item_tupleT (l := [.ref la, .ref za]) (j := 1) ⟨_, Fr.keep (by k_asm) _ _ hTa, rfl, _, rfl⟩ (by decide) (by decide) (by rfl) (by rfl) ?_
      repeat ((fail_if_success (with_reducible refine stop_tail ?_)); (first | walk1 | (dsimp only; walk1)))
      refine item_tupleT (l := [.ref lb, .ref zb]) (j := 1) ⟨_, Fr.keep (by k_asm) _ _ hTb, rfl, _, rfl⟩ (by decide) (by decide) (by rfl) (by rfl) ?_
      repeat ((fail_if_success (with_reducible refine stop_call (f := 589) ?_)); (first | walk1 | (dsimp only; walk1)))
      refine' c_pmul ?B ?F ?X ?T (frames_in ?B) ?hf ?hk ?hd ?hu ?hh ?q0 ?q1 ?q2 ?q3 ?ret
      case B => k_asm
      case F => k_asm
      case X => k_asm
      case T => k_asm
      case hf => rfl
      case hk => rfl
      case hd => k_room
      case hu => k_room
      case hh => first | assumption | rfl
      case q0 => exact RingAt.mono (Fr.keep (by k_asm)) HR
      case q1 => exact PolyAt.mono (Fr.keep (by k_asm)) HPa
      case q2 => exact PolyAt.mono (Fr.keep (by k_asm)) HPb
      case q3 => exact hsa
      case ret =>
        intro v₄ h₄ tk₄ hk₄ post₄
        obtain ⟨z, rfl, post₄⟩ := post₄
        have post₅ := PolyNew.older (Fr.keep (by k_asm)) post₄
        clear post₄
        have cF₄ := Fr.keeps (by k_asm) hk₄
        have cN₄ := News.grown (by k_asm) hk₄
        k_sweep
        (try dsimp only [PySem.W.CmpBack])
        repeat ((fail_if_success (with_reducible refine stop_newTuple ?_)); (first | walk1 | (dsimp only; walk1)))
        refine' newTuple_own ?F ?N ?_ ?hz
        case hz => exact (by decide : 2 ≤ sizeLine)
        case F => k_asm
        case N => k_asm
        intro T₆ h₆ F₆ N₆ hk₆ hT₆
        have offN := news_ne (by k_asm) hT₆
        (simp only [List.forall_mem_cons, List.not_mem_nil, false_implies, implies_true, and_true] at offN)
        k_sweep
        have P₆ := PolyNew.step (Older.refl _) (fun _ _ _ e => hk₆ _ _ e) post₅
        repeat (first | walk1 | (dsimp only; walk1))
        (try dsimp only)
        refine ret_of hQ (by k_asm) ?_
        (rename News _ _ _ _ => NN)
        exact ⟨_, _, D, z, _, _, rfl, (NN _ (.head _)).2.2, (NN _ (.tail _ (.head _))).2.2, (NN _ (.head _)).1, (NN _ (.tail _ (.head _))).1, hI, by simp [hna, hnb], small_zip (fun a b => a * b) _ _, P₆⟩
  repeat ((fail_if_success (with_reducible refine stop_Comp ?_)); (first | walk1 | (dsimp only; walk1)))
  ·
    refine' map_ListComp (fun a => (a * (i.fdiv 35 - 50)).fmod 8380417) ?hh ?hclos ?hcell ?hkind ?hnames ?hx ?_
    case hh => assumption
    case hclos => with_unfolding_all rfl
    case hcell => decide
    case hkind => rfl
    case hnames => decide
    case hx => rfl
    repeat ((fail_if_success (with_reducible refine stop_tail ?_)); (first | walk1 | (dsimp only; walk1)))
    refine item_tupleT (l := [.ref la, .ref za]) (j := 0) ⟨_, Fr.keep (by k_asm) _ _ hTa, rfl, _, rfl⟩ (by decide) (by decide) (by rfl) (by rfl) ?_
    repeat ((fail_if_success (with_reducible refine stop_MS ?_)); (first | walk1 | (dsimp only; walk1)))
    refine' MS.intro (fun a => (a * (i.fdiv 35 - 50)).fmod 8380417) ?hl ?hi ?hsz ?helt ?hQ
    case hl => exact isList_of (Fr.keep (by k_asm) _ _ hla)
    case hi => exact hIa
    case hsz => rw [hna]; decide
    case helt =>
      intro C n' tn s₃ m₃ E' hn' hC hN ha hk₃
      have cF := Fr.keeps (by k_asm) hk₃
      have cN := News.grown (by k_asm) hk₃
      have hs1 := (hsa n' hn').1
      have hs2 := (hsa n' hn').2
      repeat ((fail_if_success (with_reducible refine stop_Keep ?_)); (first | walk1 | (dsimp only; walk1)))
      exact ⟨⟨_, rfl⟩, _, _, rfl, fun _ _ e => e⟩
    case hQ =>
      intro D h'' tk'' vs k'' hD0 hD hI hk''
      have cF := Fr.keeps (by k_asm) hk''
      have cN := news_add (by k_asm) (News.grown (by k_asm) hk'') hD0 hD
      k_sweep
      repeat ((fail_if_success (with_reducible refine stop_tail ?_)); (first | walk1 | (dsimp only; walk1)))
      refine item_tupleT (l := [.ref la, .ref za]) (j := 1) ⟨_, Fr.keep (by k_asm) _ _ hTa, rfl, _, rfl⟩ (by decide) (by decide) (by rfl) (by rfl) ?_
      repeat ((fail_if_success (with_reducible refine stop_call (f := 589) ?_)); (first | walk1 | (dsimp only; walk1)))
      refine' c_pmulint ?B ?F ?X ?T (frames_in ?B) ?hf ?hk ?hd ?hu ?hh ?q0 ?q1 ?q2 ?ret
      case B => k_asm
      case F => k_asm
      case X => k_asm
      case T => k_asm
      case hf => rfl
      case hk => rfl
      case hd => k_room
      case hu => k_room
      case hh => first | assumption | rfl
      case q0 => exact RingAt.mono (Fr.keep (by k_asm)) HR
      case q1 => exact PolyAt.mono (Fr.keep (by k_asm)) HPa
      case q2 => exact hsa
      case ret =>
        intro v₄ h₄ tk₄ hk₄ post₄
        obtain ⟨z, rfl, post₄⟩ := post₄
        have post₅ := PolyNew.older (Fr.keep (by k_asm)) post₄
        clear post₄
        have cF₄ := Fr.keeps (by k_asm) hk₄
        have cN₄ := News.grown (by k_asm) hk₄
        k_sweep
        (try dsimp only [PySem.W.CmpBack])
        repeat ((fail_if_success (with_reducible refine stop_newTuple ?_)); (first | walk1 | (dsimp only; walk1)))
        refine' newTuple_own ?F ?N ?_ ?hz
        case hz => exact (by decide : 2 ≤ sizeLine)
        case F => k_asm
        case N => k_asm
        intro T₆ h₆ F₆ N₆ hk₆ hT₆
        have offN := news_ne (by k_asm) hT₆
        (simp only [List.forall_mem_cons, List.not_mem_nil, false_implies, implies_true, and_true] at offN)
        k_sweep
        have P₆ := PolyNew.step (Older.refl _) (fun _ _ _ e => hk₆ _ _ e) post₅
        repeat (first | walk1 | (dsimp only; walk1))
        (try dsimp only)
        refine ret_of hQ (by k_asm) ?_
        (rename News _ _ _ _ => NN)
        exact ⟨_, _, D, z, _, _, rfl, (NN _ (.head _)).2.2, (NN _ (.tail _ (.head _))).2.2, (NN _ (.head _)).1, (NN _ (.tail _ (.head _))).1, hI, by simp [hna], small_map (fun a => a * (i.fdiv 35 - 50)) _, P₆⟩
  repeat ((fail_if_success (with_reducible refine stop_Comp ?_)); (first | walk1 | (dsimp only; walk1)))
  refine' map_ListComp (fun a => (a * (i.fdiv 35 - 50)).fmod 8380417) ?hh ?hclos ?hcell ?hkind ?hnames ?hx ?_
  case hh => assumption
  case hclos => with_unfolding_all rfl
  case hcell => decide
  case hkind => rfl
  case hnames => decide
  case hx => rfl
  repeat ((fail_if_success (with_reducible refine stop_tail ?_)); (first | walk1 | (dsimp only; walk1)))
  refine item_tupleT (l := [.ref la, .ref za]) (j := 0) ⟨_, Fr.keep (by k_asm) _ _ hTa, rfl, _, rfl⟩ (by decide) (by decide) (by rfl) (by rfl) ?_
  repeat ((fail_if_success (with_reducible refine stop_MS ?_)); (first | walk1 | (dsimp only; walk1)))
  refine' MS.intro (fun a => (a * (i.fdiv 35 - 50)).fmod 8380417) ?hl ?hi ?hsz ?helt ?hQ
  case hl => exact isList_of (Fr.keep (by k_asm) _ _ hla)
  case hi => exact hIa
  case hsz => rw [hna]; decide
  case helt =>
    intro C n' tn s₃ m₃ E' hn' hC hN ha hk₃
    have cF := Fr.keeps (by k_asm) hk₃
    have cN := News.grown (by k_asm) hk₃
    have hs1 := (hsa n' hn').1
    have hs2 := (hsa n' hn').2
    repeat ((fail_if_success (with_reducible refine stop_Keep ?_)); (first | walk1 | (dsimp only; walk1)))
    exact ⟨⟨_, rfl⟩, _, _, rfl, fun _ _ e => e⟩
  case hQ =>
    intro D h'' tk'' vs k'' hD0 hD hI hk''
    have cF := Fr.keeps (by k_asm) hk''
    have cN := news_add (by k_asm) (News.grown (by k_asm) hk'') hD0 hD
    k_sweep
    repeat ((fail_if_success (with_reducible refine stop_tail ?_)); (first | walk1 | (dsimp only; walk1)))
    refine item_tupleT (l := [.ref la, .ref za]) (j := 1) ⟨_, Fr.keep (by k_asm) _ _ hTa, rfl, _, rfl⟩ (by decide) (by decide) (by rfl) (by rfl) ?_
    repeat ((fail_if_success (with_reducible refine stop_bin2 ?_)); (first | walk1 | (dsimp only; walk1)))
    refine' rbin_K (f := 198) (g := 589) ?F ?X (InstAt.mk (od := some _) (Fr.keep (by k_asm) _ _ hza) rfl rfl (Fr.keep (by k_asm) _ _ hdza)) ?hc ?hl ?hs ?hf ?h1 ?h2 ?hsub ?hd ?hfr ?_
    case F => k_asm
    case X => k_in
    case hc => k_is
    case hl => k_is
    case hs => k_is
    case hf => k_is
    case h1 => k_is
    case h2 => k_is
    case hsub => k_is
    case hd => exact fun s' Q E e h => decl_mul e (by nofun) h
    case hfr => decide +kernel
    repeat ((fail_if_success (with_reducible refine stop_call (f := 198) ?_)); (first | walk1 | (dsimp only; walk1)))
    refine' c_rmul ?B ?F ?X ?T (frames_in ?B) ?hf ?hk ?hd ?hu ?hh ?q0 ?q1 ?q2 ?ret
    case B => k_asm
    case F => k_asm
    case X => k_asm
    case T => k_asm
    case hf => rfl
    case hk => rfl
    case hd => k_room
    case hu => k_room
    case hh => first | assumption | rfl
    case q0 => exact RingAt.mono (Fr.keep (by k_asm)) HR
    case q1 => exact PolyAt.mono (Fr.keep (by k_asm)) HPa
    case q2 => exact hsa
    case ret =>
      intro v₄ h₄ tk₄ hk₄ post₄
      obtain ⟨z, rfl, post₄⟩ := post₄
      have post₅ := PolyNew.older (Fr.keep (by k_asm)) post₄
      clear post₄
      have cF₄ := Fr.keeps (by k_asm) hk₄
      have cN₄ := News.grown (by k_asm) hk₄
      k_sweep
      (try dsimp only [PySem.W.CmpBack])
      repeat ((fail_if_success (with_reducible refine stop_newTuple ?_)); (first | walk1 | (dsimp only; walk1)))
      refine' newTuple_own ?F ?N ?_ ?hz
      case hz => exact (by decide : 2 ≤ sizeLine)
      case F => k_asm
      case N => k_asm
      intro T₆ h₆ F₆ N₆ hk₆ hT₆
      have offN := news_ne (by k_asm) hT₆
      (simp only [List.forall_mem_cons, List.not_mem_nil, false_implies, implies_true, and_true] at offN)
      k_sweep
      have P₆ := PolyNew.step (Older.refl _) (fun _ _ _ e => hk₆ _ _ e) post₅
      repeat (first | walk1 | (dsimp only; walk1))
      (try dsimp only)
      refine ret_of hQ (by k_asm) ?_
      (rename News _ _ _ _ => NN)
      exact ⟨_, _, D, z, _, _, rfl, (NN _ (.head _)).2.2, (NN _ (.tail _ (.head _))).2.2, (NN _ (.head _)).1, (NN _ (.tail _ (.head _))).1, hI, by simp [hna], small_map (fun a => a * (i.fdiv 35 - 50)) _, P₆⟩
  (run_tac sh1)

end

theorem fresh_36 : True := by
  w_top off
  trivial
section
variable {prog : Program} {w : World} {A : Around} {E : Value → Shared → Prop} {s : Shared} {env : Env}
/-- a comprehension over range(n) of whose answers nothing is asked but that they come -/
inductive MRN (prog : Program) (w : World) (A : Around) (env : Env) (elt : PySem.Expr) (x : Str) (scope : Scope) (cl : List (Str × Addr)) (n : Nat) (Q : Value → Shared → Prop) (xv : Value) (s : Shared) : Prop
  | mk (r : Addr) (t u v : Tok) (c0 : xv = .ref r) (c1 : IsRange s.heap r 0 n 1 t u v) (c2 : Builtin.Range.small 0 (n : Int) 1 = true) (c3 : Builtin.Range.rangeSize 0 (n : Int) 1 = ((n : Nat) : Int)) (c4 : n ≤ sizeLine) (c5 : (∀ C (i : Int) t s₃ m₃ E', 0 ≤ i → i < n → s.heap.objs.size ≤ C → s₃.heap.Ns C m₃ → m₃ x = some (.int i t) → (∀ c o, s.heap.get? c = some o → s₃.heap.get? c = some o) → wpAny (model prog w) A (eval elt (compEnvC scope cl C env)) (fun v s₄ => True ∧ Keeps s₃ s₄) E' s₃)) (c6 : (∀ D h' tk ys k, s.heap.get? D = none → h'.get? D = some (listOf ys k) → ys.size = n → (∀ c o, s.heap.get? c = some o → h'.get? c = some o) → Q (.ref D) { s with heap := h', toks := tk })) : MRN prog w A env elt x scope cl n Q xv s
theorem stop_MRN {n : Nat} {elt : PySem.Expr} {x : Str} {scope : Scope} {cl : List (Str × Addr)} {Q : Value → Shared → Prop} {xv : Value} (h : MRN prog w A env elt x scope cl n Q xv s) : MRN prog w A env elt x scope cl n Q xv s := h
theorem MRN.intro {n : Nat} {elt : PySem.Expr} {x : Str} {scope : Scope} {cl : List (Str × Addr)} {Q : Value → Shared → Prop} {r : Addr} {t u v : Tok} (hr : IsRange s.heap r 0 n 1 t u v) (hs : Builtin.Range.small 0 (n : Int) 1 = true) (hn : Builtin.Range.rangeSize 0 (n : Int) 1 = ((n : Nat) : Int)) (hz : n ≤ sizeLine)
    (helt : ∀ C (i : Int) t s₃ m₃ E', 0 ≤ i → i < n → s.heap.objs.size ≤ C → s₃.heap.Ns C m₃ → m₃ x = some (.int i t) → (∀ c o, s.heap.get? c = some o → s₃.heap.get? c = some o) →
      wpAny (model prog w) A (eval elt (compEnvC scope cl C env)) (fun v s₄ => True ∧ Keeps s₃ s₄) E' s₃)
    (hQ : ∀ D h' tk ys k, s.heap.get? D = none → h'.get? D = some (listOf ys k) → ys.size = n → (∀ c o, s.heap.get? c = some o → h'.get? c = some o) → Q (.ref D) { s with heap := h', toks := tk }) :
    MRN prog w A env elt x scope cl n Q (.ref r) s := ⟨r, t, u, v, rfl, hr, hs, hn, hz, helt, hQ⟩
theorem rngN_ListComp {elt iter : PySem.Expr} {x : Str} {px : Pos} {scope : Scope} {cl : List (Str × Addr)} {pos : Pos} {Q : Value → Shared → Prop} (n : Nat)
    (hh : A.handled = none) (hclos : closureFor scope env = pure cl) (hcell : ∀ y ∈ scope.names, y.2 ≠ .cell) (hkind : scope.kind = .function)
    (hnames : ∀ y ∈ scope.names, y.2 = .local → scope.names.lookup y.1 = some .local) (hx : scope.names.lookup x = some .local)
    (h : wpAny (model prog w) A (eval iter env) (MRN prog w A env elt x scope cl n Q) E s)
    (hs : ∀ x, foldedSetIterable iter env x = pure x := by intro _; rfl) :
    wpAny (model prog w) A (eval (.ListComp elt [⟨.Name x px, iter, [], 0⟩] scope pos) env) Q E s := by
  (run_tac sh0)
  refine wpAny_ListComp_free (fun _ => true) (fun _ _ => True) hclos hcell hkind hnames hx (wpAny_mono h (fun xv s₁ h₁ => ?_) fun _ _ e => e) hs
  obtain ⟨r, t, u, v, rfl, hr, hsm, hn, hsz, helt, hQ⟩ := h₁
  have up : ∀ (s₃ : Shared) (o' : Obj), (∀ b o, b ∉ [s₁.heap.objs.size] → (s₁.heap.push o').get? b = some o → s₃.heap.get? b = some o) → ∀ b o, s₁.heap.get? b = some o → s₃.heap.get? b = some o :=
    fun s₃ o' hk b o e => hk b o (fun hm => by rcases List.mem_cons.mp hm with rfl | hm; exact Nat.lt_irrefl _ (Heap.lt_size e); cases hm) (Heap.get?_push_of_some _ e)
  refine wpAny_pyIter_range hr hsm ⟨s₁.heap.objs.size, [s₁.heap.objs.size], [s₁.heap.objs.size], n, _, _, rfl, (Walks.range hh _ 0 1 n).bound, hsz, ?_, ?_, ⟨?_, ?_⟩, ?_⟩
  · show IsRangeIter _ _ _ _ _; rw [hn]; simpa using Heap.get?_push_size _ rfl
  · intro b hb
    show b < (s₁.heap.push _).objs.size
    rw [Heap.size_push]
    rcases List.mem_cons.mp hb with rfl | hb
    · exact Nat.lt_succ_self _
    · cases hb
  · intro C i v s₃ m₃ E' hC hP hn hm hk _
    exact wpAny_tests_nil ⟨rfl, _, _, rfl, fun _ _ e => e⟩
  · intro C i v s₃ m₃ E' hC hP hp hn hm hk _
    obtain ⟨hi, t, rfl⟩ := hP
    refine wpAny_mono (helt C _ t s₃ m₃ E' (by omega) (by omega) (Nat.le_of_succ_le (by simpa [Heap.size_push] using hC)) hn hm (up s₃ _ hk)) (fun y s₄ h₄ => h₄) fun _ _ e => e
  · intro D h' tk ys vs' hnew hlD hplD hlen hP hF hk
    obtain ⟨k, hD⟩ := lst_len hplD
    exact hQ D h' tk _ k (none_of_keeps (fun b o e => Heap.get?_push_of_some _ e) hnew) hD (by have z := hF.length; rw [filter_tt, hlen, Array.length_toList] at z; exact z.symm) (up { s₁ with heap := h' } _ hk)
  (run_tac sh1)
end
section
variable {w : World} {A₀ A : Around} {base h₀ : Heap} {outer : List Env} {env : Env} {L : Addr} {m : Str → Option Value} {p : Program} {loose : List Str} {mean : ExcName → Option Value} {mg mb : Str → Option Value}
    {s : Shared} {Q : Value → Shared → Prop} {E : Value → Shared → Prop}
theorem c_parse2 {x dx l r : Addr} {e1 : Int} {t1 ta tb : Tok} {n1 k : Nat} {a b : Int}
    (B : Below A₀ base outer h₀) (F : Fr h₀ L s.heap m) (X : (Mine.hd.heap_39 w.params).In h₀) (T : Top p loose mean mg mb h₀) (hA : A.frames = some (env :: outer)) (hf : env.frame = some L) (hk : env.scope.kind = .function) (hd : A.depth ≤ 790) (hu : A.units ≤ 7900) (hh : A.handled = none)
    (HR : RingAt s.heap r) (hx : s.heap.get? x = some (instObj 528 dx)) (hdx : s.heap.get? dx = some (dictOf [⟨e1, .str (Str.ofString "parent") t1, .ref r⟩] n1)) (hl : s.heap.get? l = some (listOf [.int a ta, .int b tb].toArray k))
    (hQ : Ret s Q (fun v h => ∃ l2, v = .ref l2)) :
    wpAny (model PySem.Challenge.rw_ix0027_01.row.prog w) A (call (.ref 103) [.ref x, .ref l] []) Q E s := by
  (run_tac sh0)
  refine' enterP (binds := [(Str.ofString "self", .ref x), (Str.ofString "coefficients", .ref l)]) B F X T hA hf hk ?k8 ?k6 ?k7 ?k9 ?kB ?c5 ?c2 ?c3 ?c4 ?_
  case k6 => k_is
  case k7 => k_is
  case k8 => k_room
  case k9 => exact BindsTo.of_eq rfl
  case c5 => decide
  case kB => exact locs rfl
  case c2 => exact rfl
  case c3 => exact rfl
  case c4 => exact rfl
  clear B F X T hA hf hk
  intro L' h' tk' F' N' B' X' T'
  (try dsimp only)
  obtain ⟨dr, n2, f1, f2, f3, f4, f5, f6, g1, g2, g3, g4, g5, g6, u1, u2, v3, v4, v5, v6, hr, hdr⟩ := HR
  repeat ((fail_if_success (with_reducible refine stop_builtin (f := "len") ?_)); (first | walk1 | dsimp only))
  refine len_any (vs := [.int a ta, .int b tb]) 2 (isList_of (Fr.keep (by k_asm) _ _ hl)) rfl (by decide) ?_
  repeat ((fail_if_success (with_reducible refine stop_Comp ?_)); (first | walk1 | dsimp only))
  refine' rngN_ListComp 254 ?hh ?hclos ?hcell ?hkind ?hnames ?hx ?_
  case hh => assumption
  case hclos => with_unfolding_all rfl
  case hcell => decide
  case hkind => rfl
  case hnames => decide
  case hx => rfl
  repeat ((fail_if_success (with_reducible refine stop_MRN ?_)); (first | walk1 | dsimp only))
  refine' MRN.intro ?hr ?hs ?hn ?hz ?helt ?hQ
  case hr => assumption
  case hs => decide
  case hn => rfl
  case hz => exact Nat.le_of_ble_eq_true rfl
  case helt =>
    intro C n' tn s₃ m₃ E' hi0 hi1 hC hN ha hk₃
    have cF := Fr.keeps (by k_asm) hk₃
    have cN := News.grown (by k_asm) hk₃
    repeat ((fail_if_success (with_reducible refine stop_Keep ?_)); (first | walk1 | dsimp only))
    exact ⟨trivial, _, _, rfl, fun _ _ e => e⟩
  case hQ =>
    intro D h'' tk'' vs k'' hD0 hD hsz hk''
    have cF := Fr.keeps (by k_asm) hk''
    have cN := news_add (by k_asm) (News.grown (by k_asm) hk'') hD0 hD
    k_sweep
    repeat ((fail_if_success (with_reducible refine stop_bin2 ?_)); (first | walk1 | dsimp only))
    refine' kmk_add_lit ?F ?N ?a ?b ?e ?_ ?z
    case F => k_asm
    case N => k_asm
    case a => exact isList_of (Fr.keep (by k_asm) _ _ hl)
    case b => exact ⟨_, News.get (by k_asm) (by k_mem), rfl, _, rfl⟩
    case e => rfl
    case z => rw [Array.length_toList, Array.length_toList, hsz]; exact (by decide : 256 ≤ sizeLine)
    intro D₂ h₂ cF₂ cN₂ l₂
    k_sweep
    repeat (first | walk1 | dsimp only)
    (try dsimp only)
    exact ret_of hQ (by k_asm) (⟨_, rfl⟩)
  (run_tac sh1)

theorem c_ringp {l r : Addr} {ta tb : Tok} {k : Nat} {a b : Int}
    (B : Below A₀ base outer h₀) (F : Fr h₀ L s.heap m) (X : (Mine.hd.heap_39 w.params).In h₀) (T : Top p loose mean mg mb h₀) (hA : A.frames = some (env :: outer)) (hf : env.frame = some L) (hk : env.scope.kind = .function) (hd : A.depth ≤ 780) (hu : A.units ≤ 7800) (hh : A.handled = none)
    (HR : RingAt s.heap r) (hl : s.heap.get? l = some (listOf [.int a ta, .int b tb].toArray k))
    (hQ : Ret s Q (fun v h => PlainNew s.heap h r v)) :
    codeAny (model PySem.Challenge.rw_ix0027_01.row.prog w) A (.call (.ref 382) ⟨[.ref r, .ref l], []⟩) (fun r s' => match r with | .ok (.ret v) => Q v s' | .ok _ => False | .error e => E e s') s := by
  (run_tac sh0)
  refine' enterPc (binds := [(Str.ofString "self", .ref r), (Str.ofString "coefficients", .ref l), (Str.ofString "is_ntt", .bool false)]) B F X T hA hf hk ?k8 ?k6 ?k7 ?k9 ?kB ?c5 ?c2 ?c3 ?c4 ?_
  case k6 => k_is
  case k7 => k_is
  case k8 => k_room
  case k9 => exact binds_K (X.keeps F.keep) rfl (by k_is) rfl rfl rfl
  case c5 => decide
  case kB => exact locs rfl
  case c2 => exact rfl
  case c3 => exact rfl
  case c4 => exact rfl
  clear B F X T hA hf hk
  intro L' h' tk' F' N' B' X' T'
  (try dsimp only)
  have HR' := HR
  have hl' := isList_of hl
  obtain ⟨dr, n2, f1, f2, f3, f4, f5, f6, g1, g2, g3, g4, g5, g6, u1, u2, v3, v4, v5, v6, hr, hdr⟩ := HR
  repeat ((fail_if_success (with_reducible refine stop_call (f := 103) ?_)); (first | walk1 | dsimp only))
  refine' c_parse2 ?B ?F ?X ?T (frames_in ?B) ?hf ?hk ?hd ?hu ?hh ?q0 ?q1 ?q2 ?q3 ?ret
  case B => k_asm
  case F => k_asm
  case X => k_asm
  case T => k_asm
  case hf => rfl
  case hk => rfl
  case hd => k_room
  case hu => k_room
  case hh => first | assumption | rfl
  case q0 => exact RingAt.mono (fun _ _ q => Fr.keep (by k_asm) _ _ (Fr.keep (by assumption) _ _ q)) HR'
  case q1 => exact (News.get (by k_asm) (by k_mem))
  case q2 => exact (News.get (by k_asm) (by k_mem))
  case q3 => exact Fr.keep (by k_asm) _ _ (Fr.keep (by assumption) _ _ hl)
  case ret =>
    intro v₄ h₄ tk₄ hk₄ post₄
    have cF₄ := Fr.keeps (by k_asm) hk₄
    have cN₄ := News.grown (by k_asm) hk₄
    k_sweep
    obtain ⟨l2, rfl⟩ := post₄
    repeat (first | walk1 | dsimp only)
    (try dsimp only)
    refine ret_of hQ (by k_asm) ?_
    (rename News _ _ _ _ => NN)
    exact ⟨_, _, _, _, _, _, _, _, rfl, (NN _ (.head _)).2.2, (NN _ (.tail _ (.head _))).2.2, (NN _ (.head _)).1, (NN _ (.tail _ (.head _))).1⟩
  (run_tac sh1)

end

theorem fresh_37 : True := by
  w_top off
  trivial
/-- a new ring -/
inductive NewRing (g h : Heap) : Value → Prop
  | mk (r dr : Addr) (n2 : Nat) (f1 f2 f3 f4 f5 f6 : Int) (g1 g2 g3 g4 g5 g6 u1 u2 : Tok) (v3 v4 v5 v6 : Value) (p1 : g.get? r = none) (p2 : g.get? dr = none) (a : h.get? r = some (instObj 392 dr)) (b : h.get? dr = some (ringD f1 f2 f3 f4 f5 f6 g1 g2 g3 g4 g5 g6 u1 u2 v3 v4 v5 v6 n2)) : NewRing g h (.ref r)
/-- a new module over a new ring -/
inductive NewMod (g h : Heap) : Value → Prop
  | mk (md dmd r dr : Addr) (em : Int) (tm : Tok) (nm n2 : Nat) (f1 f2 f3 f4 f5 f6 : Int) (g1 g2 g3 g4 g5 g6 u1 u2 : Tok) (v3 v4 v5 v6 : Value) (p1 : g.get? md = none) (p2 : g.get? dmd = none) (p3 : g.get? r = none) (p4 : g.get? dr = none)
    (q : md ≠ dmd) (a : h.get? md = some (instObj 983 dmd)) (b : h.get? dmd = some (modD r em tm nm)) (c : h.get? r = some (instObj 392 dr)) (d : h.get? dr = some (ringD f1 f2 f3 f4 f5 f6 g1 g2 g3 g4 g5 g6 u1 u2 v3 v4 v5 v6 n2)) : NewMod g h (.ref md)
theorem inst_ne {h : Heap} {r dr C : Addr} {es : List DictEntry} {n : Nat} (a : h.get? r = some (instObj C dr)) (b : h.get? dr = some (dictOf es n)) : @Ne Nat dr r := fun e => by
  rw [e, a] at b; cases b
section
variable {w : World} {A₀ A : Around} {base h₀ : Heap} {outer : List Env} {env : Env} {L : Addr} {m : Str → Option Value} {p : Program} {loose : List Str} {mean : ExcName → Option Value} {mg mb : Str → Option Value}
    {s : Shared} {Q : Value → Shared → Prop} {E : Value → Shared → Prop}
theorem c_shake {a : Value} {n : Int} {tn : Tok}
    (B : Below A₀ base outer h₀) (F : Fr h₀ L s.heap m) (X : (Mine.hd.heap_39 w.params).In h₀) (T : Top p loose mean mg mb h₀) (hA : A.frames = some (env :: outer)) (hf : env.frame = some L) (hk : env.scope.kind = .function) (hd : A.depth ≤ 700) (hu : A.units ≤ 7000) (hh : A.handled = none)
    (hQ : Ret s Q (fun v h => ∃ x, v = .ref x)) :
    wpAny (model PySem.Challenge.rw_ix0027_01.row.prog w) A (call (.ref 278) [a, .int n tn] []) Q E s := by
  (run_tac sh0)
  refine' enterI (f := 247) (binds := fun x => [(Str.ofString "self", .ref x), (Str.ofString "algorithm", a), (Str.ofString "block_length", .int n tn)]) B F X T hA hf hk ?m ?i ?fi ?k8 ?k6 ?k7 ?k9 ?kB ?c5 ?c2 ?c3 ?c4 ?_
  case m | i | fi | k6 | k7 => k_is
  case k8 => k_room
  case k9 => exact fun _ _ => BindsTo.of_eq rfl
  case c5 => decide
  case kB => exact fun _ => locs rfl
  case c2 | c3 | c4 => exact rfl
  clear B F X T hA hf hk
  intro g L' h' tk' x dx F' N' B' X' T' hsg hx0 hd0 hne
  (try dsimp only)
  repeat (first | walk1 | (dsimp only; walk1) | (leave1; try dsimp only))
  (try dsimp only)
  refine ret_ofI hQ (by k_asm) hsg ?_
  (with_reducible rename News _ _ _ _ => NN)
  exact ⟨_, rfl⟩
  (run_tac sh1)

theorem stop_pow {M : Model} {A : Around} {pos : List Value} {kw : List (Str × Value)} {Q : Value → Shared → Prop} {E : Value → Shared → Prop} {s : Shared} (h : wpAny M A (call (.builtin "pow") pos kw) Q E s) : wpAny M A (call (.builtin "pow") pos kw) Q E s := h
theorem c_ringmk {a b : Value}
    (B : Below A₀ base outer h₀) (F : Fr h₀ L s.heap m) (X : (Mine.hd.heap_39 w.params).In h₀) (T : Top p loose mean mg mb h₀) (hA : A.frames = some (env :: outer)) (hf : env.frame = some L) (hk : env.scope.kind = .function) (hd : A.depth ≤ 640) (hu : A.units ≤ 6400) (hh : A.handled = none)
    (hQ : Ret s Q (fun v h => NewRing s.heap h v)) :
    wpAny (model PySem.Challenge.rw_ix0027_01.row.prog w) A (call (.ref 392) [a, b] []) Q E s := by
  (run_tac sh0)
  refine' enterIC (f := 294) (binds := fun x => [(Str.ofString "self", .ref x), (Str.ofString "shake_128", a), (Str.ofString "shake_256", b)]) B F X T hA hf hk ?m ?i ?fi ?k8 ?k6 ?k7 ?k9 ?kB ?c5 ?c2 ?c3 ?c4 ?_
  case m | i | fi | k6 | k7 => k_is
  case k8 => k_room
  case k9 => exact fun _ _ => BindsTo.of_eq rfl
  case c5 => decide +kernel
  case kB => exact fun _ => rfl
  case c2 | c3 | c4 => exact rfl
  clear B F X T hA hf hk
  intro g L' h' tk' cells' x dx F' N' Y' B' X' T' hsg hx0 hd0 hne hl1 hl2
  k_cells Y'
  simp only [List.append_nil, List.cons_append, List.nil_append] at N'
  (try dsimp only)
  repeat ((fail_if_success (with_reducible refine stop_call (f := 278) ?_)); (first | walk1 | (dsimp only; walk1) | (leave1; try dsimp only)))
  refine' c_shake ?B ?F ?X ?T (frames_in ?B) ?hf ?hk ?hd ?hu ?hh  ?ret
  case B => k_asm
  case F => k_asm
  case X => k_asm
  case T => k_asm
  case hf => rfl
  case hk => rfl
  case hd => k_room
  case hu => k_room
  case hh => first | assumption | rfl
  case ret =>
    intro v₄ h₄ tk₄ hk₄ post₄
    obtain ⟨y1, rfl⟩ := post₄
    have cF₄ := Fr.keeps (by k_asm) hk₄
    have cN₄ := News.grown (by k_asm) hk₄
    k_sweep
    repeat ((fail_if_success (with_reducible refine stop_call (f := 278) ?_)); (first | walk1 | (dsimp only; walk1) | (leave1; try dsimp only)))
    refine' c_shake ?B ?F ?X ?T (frames_in ?B) ?hf ?hk ?hd ?hu ?hh  ?ret
    case B => k_asm
    case F => k_asm
    case X => k_asm
    case T => k_asm
    case hf => rfl
    case hk => rfl
    case hd => k_room
    case hu => k_room
    case hh => first | assumption | rfl
    case ret =>
      intro v₄ h₄ tk₄ hk₄ post₄
      obtain ⟨y2, rfl⟩ := post₄
      have cF₄ := Fr.keeps (by k_asm) hk₄
      have cN₄ := News.grown (by k_asm) hk₄
      k_sweep
      repeat ((fail_if_success (with_reducible refine stop_Comp ?_)); (first | walk1 | (dsimp only; walk1) | (leave1; try dsimp only)))
      refine' rng_ListComp 256 ?hh ?hclos ?hcell ?hkind ?hnames ?hx ?_
      case hh => first | assumption | rfl
      case hclos => rfl
      case hcell => decide
      case hkind => rfl
      case hnames => decide
      case hx => rfl
      repeat ((fail_if_success (with_reducible refine stop_MR ?_)); (first | walk1 | (dsimp only; walk1) | (leave1; try dsimp only)))
      refine' MR.intro ?hr ?hs ?hn ?hz ?helt ?hQ
      case hr => assumption
      case hs => decide
      case hn => rfl
      case hz => exact Nat.le_of_ble_eq_true rfl
      case helt =>
        intro C n' tn s₃ m₃ E' hi0 hi1 hC hN ha hk₃
        have cF := Fr.keeps (by k_asm) hk₃
        have cN := News.grown (by k_asm) hk₃
        repeat ((fail_if_success (with_reducible refine stop_call (f := 301) ?_)); (first | walk1 | (dsimp only; walk1) | (leave1; try dsimp only)))
        refine' c_br ?B ?F ?X ?T (frames_in ?B) ?hf ?hk ?hd ?hu ?hh ?q0 ?q1 ?ret
        case B => k_asm
        case F => k_asm
        case X => k_asm
        case T => k_asm
        case hf => rfl
        case hk => rfl
        case hd => k_room
        case hu => k_room
        case hh => first | assumption | rfl
        case q0 => exact hi0
        case q1 => exact hi1
        case ret =>
          intro v₄ h₄ tk₄ hk₄ post₄
          have cF₄ := Fr.keeps (by k_asm) hk₄
          have cN₄ := News.grown (by k_asm) hk₄
          k_sweep
          obtain ⟨j, tj, hj, rfl⟩ := post₄
          repeat ((fail_if_success (with_reducible refine stop_pow ?_)); (first | walk1 | (dsimp only; walk1) | (leave1; try dsimp only)))
          refine' call_pow3 hj (by decide) ?_
          intro r k tk
          exact ⟨trivial, _, _, rfl, hk₄⟩
      case hQ =>
        intro D h'' tk'' vs k'' hD0 hD hk''
        have cF := Fr.keeps (by k_asm) hk''
        have cN := News.grown (by k_asm) hk''
        k_sweep
        repeat ((fail_if_success (with_reducible refine stop_pow ?_)); (first | walk1 | (dsimp only; walk1) | (leave1; try dsimp only)))
        refine' call_pow_inv ?_
        intro r k tk
        repeat (first | walk1 | (dsimp only; walk1) | (leave1; try dsimp only))
        (try dsimp only)
        refine ret_ofI hQ (by k_asm) hsg ?_
        (with_reducible rename News _ _ _ _ => NN)
        exact ⟨_, _, _, _, _, _, _, _, _, _, _, _, _, _, _, _, _, _, _, _, _, hx0, hd0, News.get (a := x) NN (by k_mem), News.get (a := dx) NN (by k_mem)⟩
  (run_tac sh1)

theorem c_module {a b : Value}
    (B : Below A₀ base outer h₀) (F : Fr h₀ L s.heap m) (X : (Mine.hd.heap_39 w.params).In h₀) (T : Top p loose mean mg mb h₀) (hA : A.frames = some (env :: outer)) (hf : env.frame = some L) (hk : env.scope.kind = .function) (hd : A.depth ≤ 600) (hu : A.units ≤ 6000) (hh : A.handled = none)
    (hQ : Ret s Q (fun v h => NewMod s.heap h v)) :
    wpAny (model PySem.Challenge.rw_ix0027_01.row.prog w) A (call (.ref 983) [a, b] []) Q E s := by
  (run_tac sh0)
  refine' enterI (f := 923) (binds := fun x => [(Str.ofString "self", .ref x), (Str.ofString "shake_128", a), (Str.ofString "shake_256", b)]) B F X T hA hf hk ?m ?i ?fi ?k8 ?k6 ?k7 ?k9 ?kB ?c5 ?c2 ?c3 ?c4 ?_
  case m | i | fi | k6 | k7 => k_is
  case k8 => k_room
  case k9 => exact fun _ _ => BindsTo.of_eq rfl
  case c5 => decide
  case kB => exact fun _ => locs rfl
  case c2 | c3 | c4 => exact rfl
  clear B F X T hA hf hk
  intro g L' h' tk' x dx F' N' B' X' T' hsg hx0 hd0 hne
  (try dsimp only)
  repeat ((fail_if_success (with_reducible refine stop_call (f := 392) ?_)); (first | walk1 | (dsimp only; walk1) | (leave1; try dsimp only)))
  refine' c_ringmk ?B ?F ?X ?T (frames_in ?B) ?hf ?hk ?hd ?hu ?hh  ?ret
  case B => k_asm
  case F => k_asm
  case X => k_asm
  case T => k_asm
  case hf => rfl
  case hk => rfl
  case hd => k_room
  case hu => k_room
  case hh => first | assumption | rfl
  case ret =>
    intro v₄ h₄ tk₄ hk₄ post₄
    obtain ⟨r, dr, n2, f1, f2, f3, f4, f5, f6, g1, g2, g3, g4, g5, g6, u1, u2, v3, v4, v5, v6, p1, p2, pa, pb⟩ := post₄
    have offN := news_ne (by k_asm) p1
    have offM := news_ne (by k_asm) p2
    (simp only [List.forall_mem_cons, List.not_mem_nil, false_implies, implies_true, and_true] at offN offM)
    (with_reducible rename Fr _ _ _ _ => F0)
    have q1 := none_of_keeps hsg (none_of_keeps F0.keep p1)
    have q2 := none_of_keeps hsg (none_of_keeps F0.keep p2)
    have cF₄ := Fr.keeps (by k_asm) hk₄
    have cN₄ := News.grown (by k_asm) hk₄
    replace cN₄ := news_add (by k_asm) cN₄ p2 pb
    replace cN₄ := news_add (by k_asm) cN₄ p1 pa
    k_sweep
    repeat (first | walk1 | (dsimp only; walk1) | (leave1; try dsimp only))
    (try dsimp only)
    refine ret_ofI hQ (by k_asm) hsg ?_
    (with_reducible rename News _ _ _ _ => NN)
    exact ⟨_, _, _, _, _, _, _, _, _, _, _, _, _, _, _, _, _, _, _, _, _, _, _, _, _, _, hx0, hd0, q1, q2, hne, News.get (a := x) NN (by k_mem), News.get (a := dx) NN (by k_mem), News.get (a := r) NN (by k_mem), News.get (a := dr) NN (by k_mem)⟩
  (run_tac sh1)

end

def lawP : Params := { strHash := fun _ => 0, shareClass := fun _ => 0, mergeTok := fun t => t, idOf := fun _ => 0, idOfShared := fun _ _ => 0, followText := fun _ => false, idOfImm := fun _ => 0 }
abbrev lawPick {P : Params} {oc dV kV doc pm cdv ct : Value} {od an : Option Addr} {name qual : Str} {params : Arguments} {body : List Stmt} {scope : Scope} {osl : Array (Option Value)} (_ : (Mine.hd.heap_39 P).lookup 1016 = some ⟨oc, od, .func (fnOf name qual params body scope dV kV doc pm an cdv ct), osl⟩) : List Stmt := body
abbrev lawPickS {P : Params} {oc dV kV doc pm cdv ct : Value} {od an : Option Addr} {name qual : Str} {params : Arguments} {body : List Stmt} {scope : Scope} {osl : Array (Option Value)} (_ : (Mine.hd.heap_39 P).lookup 1016 = some ⟨oc, od, .func (fnOf name qual params body scope dV kV doc pm an cdv ct), osl⟩) : Scope := scope
noncomputable abbrev lawRest0 : List Stmt := lawPick (P := lawP) (by k_is)
noncomputable abbrev lawScope : Scope := lawPickS (P := lawP) (by k_is)
abbrev lawTl {s : Stmt} {r : List Stmt} (l : List Stmt) (_ : l = s :: r) : List Stmt := r
noncomputable abbrev lawRest1 : List Stmt := lawTl lawRest0 rfl
noncomputable abbrev lawRest2 : List Stmt := lawTl lawRest1 rfl
noncomputable abbrev lawRest3 : List Stmt := lawTl lawRest2 rfl
noncomputable abbrev lawRest4 : List Stmt := lawTl lawRest3 rfl
noncomputable abbrev lawRest5 : List Stmt := lawTl lawRest4 rfl
noncomputable abbrev lawRest6 : List Stmt := lawTl lawRest5 rfl
noncomputable abbrev lawRest7 : List Stmt := lawTl lawRest6 rfl
noncomputable abbrev lawRest8 : List Stmt := lawTl lawRest7 rfl
noncomputable abbrev lawRest9 : List Stmt := lawTl lawRest8 rfl
noncomputable abbrev lawRest10 : List Stmt := lawTl lawRest9 rfl
noncomputable abbrev lawRest11 : List Stmt := lawTl lawRest10 rfl
noncomputable abbrev lawRest12 : List Stmt := lawTl lawRest11 rfl
noncomputable abbrev lawRest13 : List Stmt := lawTl lawRest12 rfl
end
section
local macro_rules | `(tactic| k_inst) => `(tactic| exact InstAt.mk (od := some _) (by assumption) (by exact rfl) (by exact rfl) (by assumption))
theorem fresh_38 : True := by
  w_top off
  trivial
theorem paired_true {vs ys : List Value} (hl : vs.length = 7) (P : Paired (fun _ y => y = Value.bool true) vs ys) : ys = [.bool true, .bool true, .bool true, .bool true, .bool true, .bool true, .bool true] := by
  have h1 := P.length
  have h2 := P.right
  have h3 : ys = List.replicate 7 (Value.bool true) := List.eq_replicate_iff.mpr ⟨by omega, fun b hb => let ⟨_, e⟩ := h2 b hb; e⟩
  exact h3
/-- the frame of the law -/
noncomputable abbrev lawEnv (L : Addr) : Env := envOfC (Str.ofString "law") lawScope L 1016 (.ref 1015)
def LawQ (h₀ : Heap) (L : Addr) (s : Shared) (Q : Flow → Shared → Prop) : Prop := ∀ h' tk gs m', Fr h₀ L h' m' → AllBare gs → ∀ t, t = Value.bool true → Q (.ret t) { s with heap := h', toks := tk, gens := gs }
def Holds (h : Heap) (l : List (Addr × Obj)) : Prop := ∀ p ∈ l, h.get? p.1 = some p.2
theorem holds_of {h₀ h : Heap} {L : Addr} {news rest : List (Addr × Obj)} (N : News h₀ L h news) (hs : ∀ p ∈ rest, p ∈ news) : Holds h rest := fun p hp => (N p (hs p hp)).1
theorem news_sub {h₀ h : Heap} {L : Addr} {news news' : List (Addr × Obj)} (N : News h₀ L h news) (hs : ∀ p ∈ news', p ∈ news) : News h₀ L h news' := fun p hp => N p (hs p hp)
theorem stop_ex {M : Model} {A : Around} {env : Env} {b : Stmt} {r : List Stmt} {Q : Flow → Shared → Prop} {E : Value → Shared → Prop} {s : Shared} (h : wpAny M A (execs (b :: r) env) Q E s) : wpAny M A (execs (b :: r) env) Q E s := h
theorem stop_store {M : Model} {A : Around} {env : Env} {x : Str} {v : Value} {Q : Unit → Shared → Prop} {E : Value → Shared → Prop} {s : Shared} (h : wpAny M A (storeName env x v) Q E s) : wpAny M A (storeName env x v) Q E s := h
def OffC (L : Addr) (rest : List (Addr × Obj)) : Prop := ∀ p ∈ rest, @Ne Nat p.1 (L+4) ∧ @Ne Nat p.1 (L+3) ∧ @Ne Nat p.1 (L+2) ∧ @Ne Nat p.1 (L+1)
theorem stop_kco {K : Frag} {x C : Addr} {ox : Obj} {od : Option Obj} {h : Heap} (q : kco_P K x C ox od h) : kco_P K x C ox od h := q
def RowsIn (rest : List (Addr × Obj)) (r : Addr) (vs : List Value) : Prop := ∀ h, Holds h rest → RingAt h r ∧ ∀ u ∈ vs, ∃ ns, RowAt h r u ns
section
variable {w : World} {A₀ A : Around} {base h₀ : Heap} {outer : List Env} {env : Env} {L : Addr} {m : Str → Option Value} {p : Program} {loose : List Str} {mean : ExcName → Option Value} {mg mb : Str → Option Value}
    {s : Shared} {Q : Value → Shared → Prop} {E : Value → Shared → Prop}
theorem law13 {R r : Addr} {vs : List Value} {kR : Nat} {o1 o2 o3 o4 : Obj} {rest : List (Addr × Obj)}
    (B : Below A₀ h₀ [] h₀) (F : Fr h₀ L s.heap m) (X : (Mine.hd.heap_39 w.params).In h₀) (T : Top p loose mean mg mb h₀) (hd : A₀.depth ≤ 310) (hu : A₀.units ≤ 3100) (hh : A₀.handled = none) (hg : AllBare s.gens)
    (N : News h₀ L s.heap ((R, listOf vs.toArray kR) :: (L+4, o4) :: (L+3, o3) :: (L+2, o2) :: (L+1, o1) :: rest)) (d2 : o2.data = .cell (some (.ref R))) (hrest : RowsIn rest r vs) (hlen : vs.length = 7)
    {QF : Flow → Shared → Prop} (hQ : LawQ h₀ L s QF) :
    wpAny (model PySem.Challenge.rw_ix0027_01.row.prog w) (A₀.deeper (lawEnv L)) (execs lawRest13 (lawEnv L)) QF E s := by
  (run_tac sh0)
  obtain ⟨hp, gs, drw, tk, os⟩ := s
  (try dsimp only at *)
  have hh' : (A₀.deeper (lawEnv L)).handled = none := by first | exact hh | rfl
  unfold lawRest13 lawEnv lawScope lawPickS lawTl
  repeat ((fail_if_success (with_reducible refine stop_Comp ?_)); (first | walk1 | (dsimp only; walk1)))
  refine' mv_ListComp ?hh ?hclos ?hcell ?hkind ?hnames ?hx ?_
  case hh => assumption
  case hclos => with_unfolding_all rfl
  case hcell => decide
  case hkind => rfl
  case hnames => decide
  case hx => rfl
  repeat ((fail_if_success (with_reducible refine stop_MV ?_)); (first | walk1 | (dsimp only; walk1)))
  refine' MV.intro (fun _ y => y = .bool true) ?hl ?hsz ?helt ?hQ
  case hl => exact News.isList (by k_asm) (by k_mem)
  case hsz => rw [hlen]; decide
  case helt =>
    intro C v s₃ m₃ E' hv hC hN ha hk₃
    have cF := Fr.keeps (by k_asm) hk₃
    have cN := News.grown (by k_asm) hk₃
    obtain ⟨HR, HW⟩ := hrest _ (holds_of (rest := rest) (by ((with_reducible rename News _ _ _ _ => nwst); exact nwst)) (fun p hp => by repeat (first | exact hp | apply List.mem_cons_of_mem)))
    obtain ⟨ns, Tu, lu, zu, ku, lsu, rfl, hTu, hlu, hIu, hnu, hsu, HPu⟩ := HW v hv
    obtain ⟨lz, dz, e1, e2, t1, t2, nz, zs, kz, hz, hdz, hlz, hiz, hnz⟩ := HPu
    k_sweep
    repeat ((fail_if_success (with_reducible refine stop_tail ?_)); (first | walk1 | (dsimp only; walk1)))
    refine' item_tupleT (l := [.ref lu, .ref zu]) (j := 1) ?hT ?h0 ?h1 ?h2 ?h3 ?_
    case hT => exact ⟨_, hTu, rfl, _, rfl⟩
    case h0 => decide
    case h1 => decide
    case h2 => rfl
    case h3 => rfl
    repeat ((fail_if_success (with_reducible refine stop_tail ?_)); (first | walk1 | (dsimp only; walk1)))
    refine' item_tupleT (l := [.ref lu, .ref zu]) (j := 0) ?hT ?h0 ?h1 ?h2 ?h3 ?_
    case hT => exact ⟨_, hTu, rfl, _, rfl⟩
    case h0 => decide
    case h1 => decide
    case h2 => rfl
    case h3 => rfl
    repeat ((fail_if_success (with_reducible refine stop_cmp (op := .Eq) ?_)); (first | walk1 | (dsimp only; walk1)))
    refine' eq_intsK (isList_of hlz) hiz (isList_of hlu) hIu ?hu ?_
    case hu => k_room
    (simp only [decide_true])
    exact ⟨trivial, _, _, rfl, fun _ _ e => e⟩
  case hQ =>
    intro D h'' tk'' ys k'' hD0 hD hP hk''
    have cF := Fr.keeps (by k_asm) hk''
    have cN := news_add (by k_asm) (News.grown (by k_asm) hk'') hD0 hD
    obtain rfl : ys = [.bool true, .bool true, .bool true, .bool true, .bool true, .bool true, .bool true] := paired_true hlen hP
    k_sweep
    repeat ((fail_if_success (with_reducible refine stop_bin2 ?_)); (first | walk1 | (dsimp only; walk1)))
    refine' KMa.mul (vs := [.bool true]) (ws := [.bool true, .bool true, .bool true, .bool true, .bool true, .bool true, .bool true]) ?F ?N ?kml ?kmlo ?kmhi ?kmsz ?kme ?_
    case F => k_asm
    case N => k_asm
    case kml => exact News.isList (by k_asm) (by k_mem)
    case kmlo => decide
    case kmhi => decide
    case kmsz => decide
    case kme => rfl
    intro D₂ h₂ cF₂ cN₂ l₂
    k_sweep
    repeat (first | walk1 | (dsimp only; walk1))
    (try dsimp only)
    exact hQ _ _ _ _ (by k_asm) hg _ rfl
  (run_tac sh1)

end

theorem fresh_39 : True := by
  w_top off
  trivial
section
variable {prog : Program} {w : World} {A : Around} {E : Value → Shared → Prop} {s : Shared} {h₀ : Heap} {L : Addr} {m : Str → Option Value} {env : Env}
inductive TC (prog : Program) (w : World) (A : Around) (h₀ : Heap) (L : Addr) (m : Str → Option Value) (env : Env) (elt : PySem.Expr) (x : Str) (scope : Scope) (cl : List (Str × Addr)) (Fin : Shared → List Value → List (Addr × Obj) → Prop) (xv : Value) (s₁ : Shared) : Prop
  | mk (ax : Addr) (its : Array Value) (oT : Obj) (k : Nat) (news : List (Addr × Obj)) (c0 : xv = .ref ax) (c1 : A.handled = none) (c2 : Fr h₀ L s₁.heap m) (c3 : News h₀ L s₁.heap news) (c4 : (ax, oT) ∈ news) (c5 : oT.cls = .type "tuple") (c6 : oT.data = .seq its k) (c7 : its.size ≤ sizeLine) (c8 : ∀ g, CompRest prog w A h₀ L m env elt x scope cl { s₁ with heap := g } (fun nw => (ax, oT) ∈ nw) (fun i v => its[i]? = some v) (Fin { s₁ with heap := g }) its.size 0 [] news) : TC prog w A h₀ L m env elt x scope cl Fin xv s₁
theorem stop_TC {elt : PySem.Expr} {x : Str} {scope : Scope} {cl : List (Str × Addr)} {Fin : Shared → List Value → List (Addr × Obj) → Prop} {xv : Value} (h : TC prog w A h₀ L m env elt x scope cl Fin xv s) : TC prog w A h₀ L m env elt x scope cl Fin xv s := h
theorem tup_ListComp {elt iter : PySem.Expr} {x : Str} {px : Pos} {scope : Scope} {cl : List (Str × Addr)} {pos : Pos} {Q : Value → Shared → Prop} (F₀ : Fr h₀ L s.heap m)
    (hclos : closureFor scope env = pure cl) (hcell : ∀ y ∈ scope.names, y.2 ≠ .cell) (hkind : scope.kind = .function)
    (hnames : ∀ y ∈ scope.names, y.2 = .local → scope.names.lookup y.1 = some .local) (hx : scope.names.lookup x = some .local)
    (h : wpAny (model prog w) A (eval iter env) (TC prog w A h₀ L m env elt x scope cl (fun s₂ => FinE h₀ L m s₂ Q)) E s)
    (hs : ∀ x, foldedSetIterable iter env x = pure x := by intro _; rfl) :
    wpAny (model prog w) A (eval (.ListComp elt [⟨.Name x px, iter, [], 0⟩] scope pos) env) Q E s := by
  (run_tac sh0)
  rw [eval_ListComp]
  refine wpAny_comprehension_free (use := none) rfl hs hclos hkind hnames (wpAny_mono h (fun xv s₁ h₁ => ?_) fun _ _ e => e)
  obtain ⟨ax, its, oT, k, news, rfl, hh, F, N, hm, hc, hd, hsz, R⟩ := h₁
  have hl : s₁.heap.IsTuple ax its := ⟨_, (N _ hm).1, hc, _, hd⟩
  have hlt : ax < s₁.heap.objs.size := by obtain ⟨_, e, _⟩ := hl; exact Heap.lt_size e
  refine wpAny_pyIter_tuple hl ?_
  have up : ∀ b o, s₁.heap.get? b = some o → (s₁.heap.push { cls := .type "tuple_iterator", data := .fields #[.ref ax, .int 0 0] }).get? b = some o := fun b o e => Heap.get?_push_of_some _ e
  refine block_U (S := fun nw => (ax, oT) ∈ nw) (Walks.tuple hh s₁.heap.objs.size ax (Nat.ne_of_lt hlt) its) hsz (fun i h st => by obtain ⟨o, e, _⟩ := st.1; exact ⟨o, e⟩) (fun i h h' o nw st e e' k' N' S' => ?_) hcell hkind hx ⟨⟨_, Heap.get?_push_size _ rfl, rfl, rfl⟩, hl.push _⟩ (fun b hb => ?_)
    (F.keeps up) (N.grown up) (Nat.ne_of_lt F.ns.lt) (next_is_new F) (fun p hp => Nat.ne_of_lt (Heap.lt_size (N p hp).1)) hm (R _) ?_
  · exact ⟨by obtain ⟨o', q, r⟩ := st.1; rw [e] at q; cases q; exact ⟨o, e', r⟩, ⟨_, (N' _ S').1, hc, _, hd⟩⟩
  · show b < (s₁.heap.push _).objs.size
    rw [Heap.size_push]
    rcases List.mem_cons.mp hb with rfl | hb
    · exact Nat.lt_succ_self _
    · rw [List.mem_singleton.mp hb]; exact Nat.lt_succ_of_lt hlt
  · intro D C h tk m' ys news' F' N' o1 hn hC₀ hD₀ hCL hDL hCD offC fin
    refine ⟨m', hn, fun h'' hs'' => fin D h'' tk (F'.change hs'' hCL hC₀) (fun p hp => ?_) o1⟩
    refine ⟨hs''.extBut _ _ ?_ (N' p hp).1, (N' p hp).2⟩
    rcases List.mem_cons.mp hp with rfl | hp
    · exact Ne.symm hCD
    · exact offC p hp
  (run_tac sh1)
end
section
variable {w : World} {A₀ A : Around} {base h₀ : Heap} {outer : List Env} {env : Env} {L : Addr} {m : Str → Option Value} {p : Program} {loose : List Str} {mean : ExcName → Option Value} {mg mb : Str → Option Value}
    {s : Shared} {Q : Value → Shared → Prop} {E : Value → Shared → Prop}
theorem law12 {R r pl : Addr} {u5 : Value} {vs : List Value} {kR : Nat} {o1 o2 o3 o4 : Obj} {rest : List (Addr × Obj)}
    (B : Below A₀ h₀ [] h₀) (F : Fr h₀ L s.heap m) (X : (Mine.hd.heap_39 w.params).In h₀) (T : Top p loose mean mg mb h₀) (hd : A₀.depth ≤ 310) (hu : A₀.units ≤ 3100) (hh : A₀.handled = none) (hg : AllBare s.gens)
    (N : News h₀ L s.heap ((R, listOf vs.toArray kR) :: (L+4, o4) :: (L+3, o3) :: (L+2, o2) :: (L+1, o1) :: rest)) (d2 : o2.data = .cell (some (.ref R))) (d4 : o4.data = .cell (some (.ref pl))) (hrest : RowsIn rest r vs) (hlen : vs.length = 7) (hv5 : vs[5]? = some u5) (hplain : ∀ h, Holds h rest → ∃ dpl l2 e3 e4 t3 t4 npl, h.get? pl = some (instObj 528 dpl) ∧ h.get? dpl = some (polyD r l2 e3 e4 t3 t4 npl))
    {QF : Flow → Shared → Prop} (hQ : LawQ h₀ L s QF) :
    wpAny (model PySem.Challenge.rw_ix0027_01.row.prog w) (A₀.deeper (lawEnv L)) (execs lawRest12 (lawEnv L)) QF E s := by
  (run_tac sh0)
  obtain ⟨hp, gs, drw, tk, os⟩ := s
  (try dsimp only at *)
  have hh' : (A₀.deeper (lawEnv L)).handled = none := by first | exact hh | rfl
  unfold lawRest12 lawEnv lawScope lawPickS lawTl
  repeat ((fail_if_success (with_reducible refine stop_Comp ?_)); (first | walk1 | (dsimp only; walk1)))
  refine' tup_ListComp ?F0 ?hclos ?hcell ?hkind ?hnames ?hx ?_
  case F0 => k_asm
  case hclos => with_unfolding_all rfl
  case hcell => decide
  case hkind => rfl
  case hnames => decide
  case hx => rfl
  repeat ((fail_if_success (with_reducible refine stop_TC ?_)); (first | walk1 | (dsimp only; walk1)))
  refine' ⟨_, #[.int 1 _, .int 2 _, .int 3 _], _, _, _, rfl, ?th, ?tF, ?tN, ?tm, ?tc, ?td, ?tz, ?_⟩
  case th => assumption
  case tF => k_asm
  case tN => k_asm
  case tm => k_mem
  case tc => rfl
  case td => rfl
  case tz => exact (by decide : 3 ≤ sizeLine)
  intro g
  refine CompRest.succ ?_
  intro v I oI C oC D m₂ h tk E' hP hoC hm F₂ N₂ off3 ne3
  obtain rfl : Value.int 1 _ = v := Option.some.inj hP
  obtain ⟨HR, HW⟩ := hrest _ (holds_of (rest := rest) N₂ (fun p hp => by repeat (first | exact hp | apply List.mem_cons_of_mem)))
  obtain ⟨dpl, l2, e3, e4, t3, t4, npl, hpl, hdpl⟩ := hplain _ (holds_of (rest := rest) N₂ (fun p hp => by repeat (first | exact hp | apply List.mem_cons_of_mem)))
  obtain ⟨ns, T5, l5, z5, k5, ls5, eu, hT5, hl5, hI5, hn5, hs5, HP5⟩ := HW u5 (List.mem_of_getElem? hv5)
  have hv5' : vs[5]? = some (.ref T5) := eu ▸ hv5
  obtain ⟨lz, dz, e1, e2, t1, t2, nz, zs, kz, hz, hdz, hlz, hiz, hnz⟩ := HP5
  repeat ((fail_if_success (with_reducible refine stop_tail ?_)); (first | walk1 | (dsimp only; walk1)))
  refine item_any (vs := vs) (k := 5) (News.isList (by k_asm) (by k_mem)) (by decide) (by decide) hv5' ?_
  repeat ((fail_if_success (with_reducible refine stop_tail ?_)); (first | walk1 | (dsimp only; walk1)))
  refine' item_tupleT (l := [.ref l5, .ref z5]) (j := 1) ?hT ?h0 ?h1 ?h2 ?h3 ?_
  case hT => exact ⟨_, hT5, rfl, _, rfl⟩
  case h0 => decide
  case h1 => decide
  case h2 => rfl
  case h3 => rfl
  repeat ((fail_if_success (with_reducible refine stop_call (f := 1011) ?_)); (first | walk1 | (dsimp only; walk1)))
  refine' c_ref1 ?B ?F ?X ?T (frames_in ?B) ?hf ?hk ?hd ?hu ?hh ?XB ?TB ?q0 ?q1 ?q2 ?q3 ?ret
  case B => k_asm
  case F => k_asm
  case X => k_asm
  case T => k_asm
  case hf => rfl
  case hk => rfl
  case hd => k_room
  case hu => k_room
  case hh => first | assumption | rfl
  case XB => assumption
  case TB => assumption
  case q0 => exact hz
  case q1 => exact hdz
  case q2 => exact hpl
  case q3 => exact hdpl
  case ret =>
    intro v₄ h₄ tk₄ hk₄ hl₄ post₄
    obtain ⟨tq, rfl⟩ := post₄
    have cF₄ := fr_slots (by k_asm) hk₄ hl₄
    have cN₄ := news_slots (by k_asm) hk₄
    k_sweep
    refine' CompEnd.intro ?cF ?cN _ (fun p hp => hp) off3 ?cS ?_
    case cF => k_asm
    case cN => k_asm
    case cS => k_mem
    refine CompRest.succ ?_
    intro v I oI C oC D m₂ h tk E' hP hoC hm F₂ N₂ off3 ne3
    obtain rfl : Value.int 2 _ = v := Option.some.inj hP
    obtain ⟨HR, HW⟩ := hrest _ (holds_of (rest := rest) N₂ (fun p hp => by repeat (first | exact hp | apply List.mem_cons_of_mem)))
    obtain ⟨dpl, l2, e3, e4, t3, t4, npl, hpl, hdpl⟩ := hplain _ (holds_of (rest := rest) N₂ (fun p hp => by repeat (first | exact hp | apply List.mem_cons_of_mem)))
    obtain ⟨ns, T5, l5, z5, k5, ls5, eu, hT5, hl5, hI5, hn5, hs5, HP5⟩ := HW u5 (List.mem_of_getElem? hv5)
    have hv5' : vs[5]? = some (.ref T5) := eu ▸ hv5
    obtain ⟨lz, dz, e1, e2, t1, t2, nz, zs, kz, hz, hdz, hlz, hiz, hnz⟩ := HP5
    repeat ((fail_if_success (with_reducible refine stop_tail ?_)); (first | walk1 | (dsimp only; walk1)))
    refine item_any (vs := vs) (k := 5) (News.isList (by k_asm) (by k_mem)) (by decide) (by decide) hv5' ?_
    repeat ((fail_if_success (with_reducible refine stop_tail ?_)); (first | walk1 | (dsimp only; walk1)))
    refine' item_tupleT (l := [.ref l5, .ref z5]) (j := 1) ?hT ?h0 ?h1 ?h2 ?h3 ?_
    case hT => exact ⟨_, hT5, rfl, _, rfl⟩
    case h0 => decide
    case h1 => decide
    case h2 => rfl
    case h3 => rfl
    repeat ((fail_if_success (with_reducible refine stop_call (f := 1011) ?_)); (first | walk1 | (dsimp only; walk1)))
    refine' c_ref2 ?B ?F ?X ?T (frames_in ?B) ?hf ?hk ?hd ?hu ?hh ?XB ?TB ?q0 ?q1 ?q2 ?q3 ?ret
    case B => k_asm
    case F => k_asm
    case X => k_asm
    case T => k_asm
    case hf => rfl
    case hk => rfl
    case hd => k_room
    case hu => k_room
    case hh => first | assumption | rfl
    case XB => assumption
    case TB => assumption
    case q0 => exact hz
    case q1 => exact hdz
    case q2 => exact hpl
    case q3 => exact hdpl
    case ret =>
      intro v₄ h₄ tk₄ hk₄ hl₄ post₄
      obtain ⟨tq, rfl⟩ := post₄
      have cF₄ := fr_slots (by k_asm) hk₄ hl₄
      have cN₄ := news_slots (by k_asm) hk₄
      k_sweep
      refine' CompEnd.intro ?cF ?cN _ (fun p hp => hp) off3 ?cS ?_
      case cF => k_asm
      case cN => k_asm
      case cS => k_mem
      refine CompRest.succ ?_
      intro v I oI C oC D m₂ h tk E' hP hoC hm F₂ N₂ off3 ne3
      obtain rfl : Value.int 3 _ = v := Option.some.inj hP
      obtain ⟨HR, HW⟩ := hrest _ (holds_of (rest := rest) N₂ (fun p hp => by repeat (first | exact hp | apply List.mem_cons_of_mem)))
      obtain ⟨dpl, l2, e3, e4, t3, t4, npl, hpl, hdpl⟩ := hplain _ (holds_of (rest := rest) N₂ (fun p hp => by repeat (first | exact hp | apply List.mem_cons_of_mem)))
      obtain ⟨ns, T5, l5, z5, k5, ls5, eu, hT5, hl5, hI5, hn5, hs5, HP5⟩ := HW u5 (List.mem_of_getElem? hv5)
      have hv5' : vs[5]? = some (.ref T5) := eu ▸ hv5
      obtain ⟨lz, dz, e1, e2, t1, t2, nz, zs, kz, hz, hdz, hlz, hiz, hnz⟩ := HP5
      repeat ((fail_if_success (with_reducible refine stop_tail ?_)); (first | walk1 | (dsimp only; walk1)))
      refine item_any (vs := vs) (k := 5) (News.isList (by k_asm) (by k_mem)) (by decide) (by decide) hv5' ?_
      repeat ((fail_if_success (with_reducible refine stop_tail ?_)); (first | walk1 | (dsimp only; walk1)))
      refine' item_tupleT (l := [.ref l5, .ref z5]) (j := 1) ?hT ?h0 ?h1 ?h2 ?h3 ?_
      case hT => exact ⟨_, hT5, rfl, _, rfl⟩
      case h0 => decide
      case h1 => decide
      case h2 => rfl
      case h3 => rfl
      repeat ((fail_if_success (with_reducible refine stop_call (f := 1011) ?_)); (first | walk1 | (dsimp only; walk1)))
      refine' c_ref3 ?B ?F ?X ?T (frames_in ?B) ?hf ?hk ?hd ?hu ?hh ?XB ?TB ?q0 ?q1 ?q2 ?q3 ?ret
      case B => k_asm
      case F => k_asm
      case X => k_asm
      case T => k_asm
      case hf => rfl
      case hk => rfl
      case hd => k_room
      case hu => k_room
      case hh => first | assumption | rfl
      case XB => assumption
      case TB => assumption
      case q0 => exact hz
      case q1 => exact hdz
      case q2 => exact hpl
      case q3 => exact hdpl
      case ret =>
        intro v₄ h₄ tk₄ hk₄ hl₄ post₄
        obtain ⟨tq, rfl⟩ := post₄
        have cF₄ := fr_slots (by k_asm) hk₄ hl₄
        have cN₄ := news_slots (by k_asm) hk₄
        k_sweep
        refine' CompEnd.intro ?cF ?cN _ (fun p hp => hp) off3 ?cS ?_
        case cF => k_asm
        case cN => k_asm
        case cS => k_mem
        refine CompRest.zero ?_
        intro D h₅ tk₅ F₅ N₅ o5
        k_sweep
        repeat ((fail_if_success (with_reducible refine stop_ex (b := .Return _ _) (r := []) ?_)); (first | walk1 | (dsimp only; walk1)))
        (try dsimp only)
        exact law13 (rest := rest) B (by k_asm) X T hd hu hh hg (news_sub (by k_asm) (fun p hp => by repeat (first | exact hp | apply List.mem_cons_of_mem))) d2 hrest hlen (fun h' tk gs m' a b t e => hQ h' tk gs m' a b t e)
  (run_tac sh1)

end

theorem fresh_40 : True := by
  w_top off
  trivial
section
variable {w : World} {A₀ A : Around} {base h₀ : Heap} {outer : List Env} {env : Env} {L : Addr} {m : Str → Option Value} {p : Program} {loose : List Str} {mean : ExcName → Option Value} {mg mb : Str → Option Value}
    {s : Shared} {Q : Value → Shared → Prop} {E : Value → Shared → Prop}
theorem law11 {R : Addr} {r md dmd : Addr} {em : Int} {tm : Tok} {nm : Nat} {dr : Addr} {n2 : Nat} {f1 f2 f3 f4 f5 f6 : Int} {g1 g2 g3 g4 g5 g6 u1 u2 : Tok} {v3 v4 v5 v6 : Value} {u5 : Value} {vs : List Value} {kR : Nat} {o1 o2 o3 o4 : Obj} {c4 : Option Value} {rest : List (Addr × Obj)}
    (B : Below A₀ h₀ [] h₀) (F : Fr h₀ L s.heap m) (X : (Mine.hd.heap_39 w.params).In h₀) (T : Top p loose mean mg mb h₀) (hd : A₀.depth ≤ 310) (hu : A₀.units ≤ 3100) (hh : A₀.handled = none) (hg : AllBare s.gens)
    (N : News h₀ L s.heap ((R, listOf vs.toArray kR) :: (L+4, o4) :: (L+3, o3) :: (L+2, o2) :: (L+1, o1) :: rest)) (hm : m (Str.ofString "module") = some (.ref md)) (d2 : o2.data = .cell (some (.ref R))) (d4 : o4.data = .cell c4) (hrest : RowsIn rest r vs) (hmod : ∀ h, Holds h rest → (h.get? md = some (instObj 983 dmd) ∧ h.get? dmd = some (modD r em tm nm)) ∧ h.get? r = some (instObj 392 dr) ∧ h.get? dr = some (ringD f1 f2 f3 f4 f5 f6 g1 g2 g3 g4 g5 g6 u1 u2 v3 v4 v5 v6 n2)) (hoff : OffC L rest) (hRo : @Ne Nat R (L+4) ∧ @Ne Nat R (L+3) ∧ @Ne Nat R (L+2) ∧ @Ne Nat R (L+1)) (hlen : vs.length = 7) (hv5 : vs[5]? = some u5)
    {QF : Flow → Shared → Prop} (hQ : LawQ h₀ L s QF) :
    wpAny (model PySem.Challenge.rw_ix0027_01.row.prog w) (A₀.deeper (lawEnv L)) (execs lawRest11 (lawEnv L)) QF E s := by
  (run_tac sh0)
  obtain ⟨hp, gs, drw, tk, os⟩ := s
  (try dsimp only at *)
  have hh' : (A₀.deeper (lawEnv L)).handled = none := by first | exact hh | rfl
  unfold lawRest11 lawEnv lawScope lawPickS lawTl
  obtain ⟨⟨hmd, hdmd⟩, hr, hdr⟩ := hmod _ (holds_of (rest := rest) (by ((with_reducible rename News _ _ _ _ => nwst); exact nwst)) (fun p hp => by repeat (first | exact hp | apply List.mem_cons_of_mem)))
  have HR' : RingAt _ r := ⟨dr, n2, f1, f2, f3, f4, f5, f6, g1, g2, g3, g4, g5, g6, u1, u2, v3, v4, v5, v6, hr, hdr⟩
  repeat ((fail_if_success (with_reducible refine stop_Name ?_)); (first | walk1 | dsimp only))
  refine' nameX_L ?F hm ?_
  case F => k_asm
  repeat ((fail_if_success (with_reducible refine stop_kco ?_)); (first | walk1 | dsimp only))
  obtain ⟨⟨hmd, hdmd⟩, hr, hdr⟩ := hmod _ (holds_of (rest := rest) (by ((with_reducible rename News _ _ _ _ => nwst); exact nwst)) (fun p hp => by repeat (first | exact hp | apply List.mem_cons_of_mem)))
  have HR' : RingAt _ r := ⟨dr, n2, f1, f2, f3, f4, f5, f6, g1, g2, g3, g4, g5, g6, u1, u2, v3, v4, v5, v6, hr, hdr⟩
  repeat ((fail_if_success (with_reducible refine stop_call (f := r) ?_)); (first | walk1 | dsimp only))
  obtain ⟨⟨hmd, hdmd⟩, hr, hdr⟩ := hmod _ (holds_of (rest := rest) (by ((with_reducible rename News _ _ _ _ => nwst); exact nwst)) (fun p hp => by repeat (first | exact hp | apply List.mem_cons_of_mem)))
  have HR' : RingAt _ r := ⟨dr, n2, f1, f2, f3, f4, f5, f6, g1, g2, g3, g4, g5, g6, u1, u2, v3, v4, v5, v6, hr, hdr⟩
  repeat ((fail_if_success (with_reducible refine stop_call (f := r) ?_)); (first | walk1 | dsimp only))
  refine' own_call (f := 382) ?X ?I ?k3 ?hs ?hf ?hfn ?_
  case X => k_in
  case I => exact InstAt.mk (od := some _) hr rfl rfl hdr
  case k3 => exact rfl
  case hs => k_is
  case hf => k_is
  case hfn => k_is
  refine' c_ringp ?B ?F ?X ?T (frames_in ?B) ?hf ?hk ?hd ?hu ?hh ?q0 ?q1 ?ret
  case B => k_asm
  case F => k_asm
  case X => k_asm
  case T => k_asm
  case hf => rfl
  case hk => rfl
  case hd => k_room
  case hu => k_room
  case hh => first | assumption | rfl
  case q0 => exact HR'
  case q1 => exact News.get (by k_asm) (by k_mem)
  case ret =>
    intro v₄ h₄ tk₄ hk₄ post₄
    obtain ⟨z, dz, l2, e1, e2, t1, t2, n5, rfl, hz0, hdz0, hz, hdz⟩ := post₄
    have cF₄ := Fr.keeps (by k_asm) hk₄
    have cN₄ := News.grown (by k_asm) hk₄
    have offN := news_ne (by k_asm) hdz0
    (simp only [List.forall_mem_cons, List.not_mem_nil, false_implies, implies_true, and_true] at offN)
    replace cN₄ := news_add (by k_asm) cN₄ hdz0 hdz
    have offN := news_ne (by k_asm) hz0
    (simp only [List.forall_mem_cons, List.not_mem_nil, false_implies, implies_true, and_true] at offN)
    replace cN₄ := news_add (by k_asm) cN₄ hz0 hz
    k_sweep
    repeat ((fail_if_success (with_reducible refine stop_store ?_)); (first | walk1 | dsimp only))
    have N₉ := (news_sub (news' := (L+4, o4) :: (z, _) :: (dz, _) :: (R, _) :: (L+3, o3) :: (L+2, o2) :: (L+1, o1) :: rest) (by ((with_reducible rename News _ _ _ _ => nwst); exact nwst)) (fun p hp => by
      rcases List.mem_cons.mp hp with rfl | hp; · k_mem
      rcases List.mem_cons.mp hp with rfl | hp; · k_mem
      rcases List.mem_cons.mp hp with rfl | hp; · k_mem
      rcases List.mem_cons.mp hp with rfl | hp; · k_mem
      rcases List.mem_cons.mp hp with rfl | hp; · k_mem
      rcases List.mem_cons.mp hp with rfl | hp; · k_mem
      rcases List.mem_cons.mp hp with rfl | hp; · k_mem
      repeat (first | exact hp | apply List.mem_cons_of_mem)))
    refine' storeX_C ?scF N₉ ?scc (UpdF.head (fun p hp => ?scn)) ?scd ?_
    case scF => k_asm
    case scc => rfl
    case scn =>
      rcases List.mem_cons.mp hp with rfl | hp; · show @Ne Nat _ _; omega
      rcases List.mem_cons.mp hp with rfl | hp; · show @Ne Nat _ _; omega
      rcases List.mem_cons.mp hp with rfl | hp; · show @Ne Nat _ _; omega
      rcases List.mem_cons.mp hp with rfl | hp; · show @Ne Nat _ _; omega
      rcases List.mem_cons.mp hp with rfl | hp; · show @Ne Nat _ _; omega
      rcases List.mem_cons.mp hp with rfl | hp; · show @Ne Nat _ _; omega
      have hx := hoff p hp
      show @Ne Nat _ _
      omega
    case scd => assumption
    intro h₅ o₅ F₅ N₅ d₅
    (try dsimp only at N₅)
    k_sweep
    repeat ((fail_if_success (with_reducible refine stop_ex ?_)); (first | walk1 | dsimp only))
    exact law12 (rest := (z, _) :: (dz, _) :: rest) (u5 := u5) B (by k_asm) X T hd hu hh hg (news_sub (by k_asm) (fun p hp => by
      rcases List.mem_cons.mp hp with rfl | hp; · k_mem
      rcases List.mem_cons.mp hp with rfl | hp; · k_mem
      rcases List.mem_cons.mp hp with rfl | hp; · k_mem
      rcases List.mem_cons.mp hp with rfl | hp; · k_mem
      rcases List.mem_cons.mp hp with rfl | hp; · k_mem
      rcases List.mem_cons.mp hp with rfl | hp; · k_mem
      rcases List.mem_cons.mp hp with rfl | hp; · k_mem
      repeat (first | exact hp | apply List.mem_cons_of_mem))) d2 (by assumption) (fun h H => hrest h (fun p hp => H p (List.mem_cons_of_mem _ (List.mem_cons_of_mem _ hp)))) hlen hv5 (fun h H => ⟨dz, _, _, _, _, _, _, H _ (.head _), H _ (.tail _ (.head _))⟩) (fun h' tk gs m' a b t e => hQ h' tk gs m' a b t e)
  (run_tac sh1)

end

theorem fresh_41 : True := by
  w_top off
  trivial
section
variable {prog : Program} {w : World} {A : Around} {E : Value → Shared → Prop} {s : Shared} {env : Env}
def TurnL (g : Heap) (L : Addr) (I : Addr) (oI : Obj) (l : Addr) (ol : Obj) (J : (Str → Option Value) → List (Addr × Obj) → Prop) (s : Shared) (f : Flow) (s₃ : Shared) : Prop :=
  match f with
  | .next => ∃ h₃ tk₃ m' news', s₃ = { s with heap := h₃, toks := tk₃ } ∧ Fr g L h₃ m' ∧ News g L h₃ ((I, oI) :: (l, ol) :: news') ∧ (∀ p ∈ news', @Ne Nat p.1 I) ∧ J m' news'
  | _ => False
inductive ForL (prog : Program) (w : World) (A : Around) (env : Env) (x : Str) (body : List Stmt) (Q : Flow → Shared → Prop) (E : Value → Shared → Prop) (xv : Value) (s : Shared) : Prop
  | mk (l : Addr) (vs : List Value) (kl : Nat) (g : Heap) (m : Str → Option Value) (news : List (Addr × Obj)) (J : Nat → (Str → Option Value) → List (Addr × Obj) → Prop) (c0 : xv = .ref l) (c1 : Fr g env.locals s.heap m) (c2 : News g env.locals s.heap ((l, listOf vs.toArray kl) :: news)) (c3 : J 0 m news) (c4 : (∀ i v m₁ news₁ I oI h₂ tk₂, vs[i]? = some v → J i m₁ news₁ → (@Ne Nat l I) → (∀ p ∈ news₁, @Ne Nat p.1 I) → Fr g env.locals h₂ (fun y => if y = x then some v else m₁ y) → News g env.locals h₂ ((I, oI) :: (l, listOf vs.toArray kl) :: news₁) → wpAny (model prog w) A (execs body env) (TurnL g env.locals I oI l (listOf vs.toArray kl) (J (i + 1)) { s with heap := h₂, toks := tk₂ }) E { s with heap := h₂, toks := tk₂ })) (c5 : (∀ h₄ tk₄ m₁ news₁, J vs.length m₁ news₁ → Fr g env.locals h₄ m₁ → News g env.locals h₄ ((l, listOf vs.toArray kl) :: news₁) → Q .next { s with heap := h₄, toks := tk₄ })) : ForL prog w A env x body Q E xv s
theorem stop_ForL {x : Str} {body : List Stmt} {Q : Flow → Shared → Prop} {xv : Value} (h : ForL prog w A env x body Q E xv s) : ForL prog w A env x body Q E xv s := h
theorem forL {iter : PySem.Expr} {x : Str} {px pos : Pos} {body : List Stmt} {Q : Flow → Shared → Prop} (hh : A.handled = none)
    (hx : env.kindOf x = some .local) (hp : (env.scope.kind == .class || (env.scope.kind == .module && env.locals != env.globals)) = false)
    (h : wpAny (model prog w) A (eval iter env) (ForL prog w A env x body Q E) E s)
    (hs : ∀ x, foldedSetIterable iter env x = pure x := by intro _; rfl) (hE : PassesOwn (model prog w) A env E := by passes_own) :
    wpAny (model prog w) A (exec (.For (.Name x px) iter body [] pos) env) Q E s := by
  (run_tac sh0)
  refine wpAny_For (wpAny_mono h (fun xv s₁ h₁ => ?_) fun _ _ e => e) hs
  obtain ⟨l, vs, kl, g, m, news, J, rfl, F, N, h0, hb, hd⟩ := h₁
  have hl : s₁.heap.IsList l vs.toArray := isList_of (N _ (.head _)).1
  have hlt : l < s₁.heap.objs.size := by obtain ⟨_, e, _⟩ := hl; exact Heap.lt_size e
  have hII : ∀ b o, s₁.heap.get? b = some o → b ≠ s₁.heap.objs.size := fun b o e q => Nat.lt_irrefl _ (q ▸ Heap.lt_size e)
  have hLI : env.locals ≠ s₁.heap.objs.size := by obtain ⟨o, _, _, e, _⟩ := F.ns; exact hII _ _ e
  have gI : g.get? s₁.heap.objs.size = none := by
    cases q : g.get? s₁.heap.objs.size with
    | none => rfl
    | some o' => exact absurd rfl (hII _ _ (F.keep _ _ q))
  have hlI : @Ne Nat l s₁.heap.objs.size := Nat.ne_of_lt hlt
  refine wpAny_pyIter_list hl ?_
  generalize hH : s₁.heap.push { cls := .type "list_iterator", data := .fields #[.ref l, .int 0 0] } = H
  have old : ∀ b o, s₁.heap.get? b = some o → H.get? b = some o := fun b o e => hH ▸ Heap.get?_push_of_some _ e
  have hit : H.IsListIter s₁.heap.objs.size l 0 := ⟨_, hH ▸ Heap.get?_push_size _ rfl, rfl, rfl⟩
  refine codeAny_forLoop_any (R := fun r s' => match r with | .ok f => Q f s' | .error e => cameBackBy (model prog w) A env E e s')
    (fun k s' => ∃ h₃ tk₃ i m₁ news₁, s' = { s₁ with heap := h₃, toks := tk₃ } ∧ i ≤ vs.length ∧ k = vs.length - i ∧ h₃.IsListIter s₁.heap.objs.size l i ∧ J i m₁ news₁ ∧ Fr g env.locals h₃ m₁ ∧ News g env.locals h₃ ((l, listOf vs.toArray kl) :: news₁) ∧ (∀ p ∈ news₁, @Ne Nat p.1 s₁.heap.objs.size)) ?_ vs.length
    ⟨H, _, 0, m, news, rfl, Nat.zero_le _, rfl, hit, h0, F.keeps old, N.grown old, fun p hp => hII _ _ (N p (.tail _ hp)).1⟩
  rintro k s' ⟨h₃, tk₃, i, m₁, news₁, rfl, hi, rfl, hit₃, hJ, F₃, N₃, hne⟩
  have hl₃ : h₃.IsList l vs.toArray := isList_of (N₃ _ (.head _)).1
  by_cases hlt3 : i < vs.length
  · refine wpAny_pyNext_list_item hit₃ hl₃ (x := vs[i]) (by simp [hlt3]) fun h₁ hit₁ hs₁ => ?_
    refine letGo_listiter (E := _) hit₁ ?_
    have oldI : ∀ b o, b ≠ s₁.heap.objs.size → h₃.get? b = some o → h₁.get? b = some o := fun b o hb e => hs₁.extBut b o hb e
    have F₁ : Fr g env.locals h₁ m₁ := ⟨F₃.ns.at' fun o e => oldI _ o hLI e, fun b o e => oldI b o (fun q => by rw [q, gI] at e; cases e) (F₃.keep b o e), F₃.above⟩
    refine wpAny_assign_Name (wpAny_storeName_local hx F₁.ns (fun h₂ hn₂ hs₂ => ?_) hp)
    obtain ⟨o, ho, hoc, hod⟩ := hit₁
    have ho₂ : h₂.get? s₁.heap.objs.size = some o := hs₂.extBut _ o (Ne.symm hLI) ho
    refine wpAny_mono (wpAny_passesOwn hE (hb i vs[i] m₁ news₁ s₁.heap.objs.size o h₂ _ (List.getElem?_eq_getElem hlt3) hJ hlI hne (Fr.set F₁ hn₂ hs₂) (fun p hp => ?_))) (fun f s₃ hf => ?_) fun _ _ e => e
    · rcases List.mem_cons.mp hp with rfl | hp
      · exact ⟨ho₂, Ne.symm hLI, gI⟩
      · refine ⟨hs₂.extBut _ _ (N₃ p hp).2.1 (oldI _ _ ?_ (N₃ p hp).1), (N₃ p hp).2⟩
        rcases List.mem_cons.mp hp with rfl | hp
        · exact hlI
        · exact hne p hp
    · cases f with
      | next =>
        obtain ⟨h₄, tk₄, m', news', rfl, F₄, N₄, hne', hJ'⟩ := hf
        exact ⟨vs.length - (i + 1), by omega, h₄, tk₄, i + 1, m', news', rfl, hlt3, rfl, ⟨o, (N₄ _ (.head _)).1, hoc, hod⟩, hJ', F₄, fun p hp => N₄ p (.tail _ hp), hne'⟩
      | cont => exact hf.elim
      | brk => exact hf.elim
      | ret v => exact hf.elim
  · obtain rfl : i = vs.length := Nat.le_antisymm hi (Nat.not_lt.mp hlt3)
    refine wpAny_pyNext_list_end hh hit₃ hl₃ (by simp) fun h₄ he₄ => ?_
    have keep : ∀ b o, b ≠ s₁.heap.objs.size → h₃.get? b = some o → h₄.get? b = some o := fun b o hb e => he₄ b o hb e
    refine wpAny_execs_nil (hd h₄ _ m₁ news₁ hJ ⟨F₃.ns.at' fun o e => keep _ o hLI e, fun b o e => keep b o (fun q => by rw [q, gI] at e; cases e) (F₃.keep b o e), F₃.above⟩ fun p hp => ⟨keep _ _ ?_ (N₃ p hp).1, (N₃ p hp).2⟩)
    rcases List.mem_cons.mp hp with rfl | hp
    · exact hlI
    · exact hne p hp
  (run_tac sh1)
end

theorem fresh_42 : True := by
  w_top off
  trivial
theorem stop_TurnL {g : Heap} {L I : Addr} {oI : Obj} {l : Addr} {ol : Obj} {J : (Str → Option Value) → List (Addr × Obj) → Prop} {s : Shared} {f : Flow} {s₃ : Shared} (h : TurnL g L I oI l ol J s f s₃) : TurnL g L I oI l ol J s f s₃ := h
inductive LawJ (L R r md dmd : Addr) (o1 o2 o3 o4 om : Obj) (dr : Addr) (or : Obj) (i : Nat) (m : Str → Option Value) (news : List (Addr × Obj)) : Prop
  | mk (vs : List Value) (kR : Nat) (rest : List (Addr × Obj)) (c0 : m (Str.ofString "module") = some (.ref md)) (c1 : news = (R, listOf vs.toArray kR) :: (L+4, o4) :: (L+3, o3) :: (L+2, o2) :: (L+1, o1) :: rest) (c2 : RowsIn rest r vs) (c3 : (∀ h, Holds h rest → (h.get? md = some (instObj 983 dmd) ∧ h.get? dmd = some om) ∧ h.get? r = some (instObj 392 dr) ∧ h.get? dr = some or)) (c4 : OffC L rest) (c5 : (∀ p ∈ rest, @Ne Nat p.1 R)) (c6 : vs.length = 5 + i) : LawJ L R r md dmd o1 o2 o3 o4 om dr or i m news
section
variable {w : World} {A₀ A : Around} {base h₀ : Heap} {outer : List Env} {env : Env} {L : Addr} {m : Str → Option Value} {p : Program} {loose : List Str} {mean : ExcName → Option Value} {mg mb : Str → Option Value}
    {s : Shared} {Q : Value → Shared → Prop} {E : Value → Shared → Prop}
theorem law10 {R : Addr} {r md dmd : Addr} {em : Int} {tm : Tok} {nm : Nat} {dr : Addr} {n2 : Nat} {f1 f2 f3 f4 f5 f6 : Int} {g1 g2 g3 g4 g5 g6 u1 u2 : Tok} {v3 v4 v5 v6 : Value} {gl : Addr} {kG : Nat} {i0 i1 i2 i3 i4 i5 i6 : Int} {j0 j1 j2 j3 j4 j5 j6 : Tok} {vs : List Value} {kR : Nat} {o1 o2 o3 o4 : Obj} {c4 : Option Value} {rest : List (Addr × Obj)}
    (B : Below A₀ h₀ [] h₀) (F : Fr h₀ L s.heap m) (X : (Mine.hd.heap_39 w.params).In h₀) (T : Top p loose mean mg mb h₀) (hd : A₀.depth ≤ 310) (hu : A₀.units ≤ 3100) (hh : A₀.handled = none) (hg : AllBare s.gens)
    (N : News h₀ L s.heap ((R, listOf vs.toArray kR) :: (L+4, o4) :: (L+3, o3) :: (L+2, o2) :: (L+1, o1) :: rest)) (hE : PassesOwn (model PySem.Challenge.rw_ix0027_01.row.prog w) (A₀.deeper (lawEnv L)) (lawEnv L) E) (hm : m (Str.ofString "module") = some (.ref md)) (hmg : m (Str.ofString "given") = some (.ref gl)) (d2 : o2.data = .cell (some (.ref R))) (d4 : o4.data = .cell c4) (hrest : RowsIn rest r vs) (hmod : ∀ h, Holds h rest → (h.get? md = some (instObj 983 dmd) ∧ h.get? dmd = some (modD r em tm nm)) ∧ h.get? r = some (instObj 392 dr) ∧ h.get? dr = some (ringD f1 f2 f3 f4 f5 f6 g1 g2 g3 g4 g5 g6 u1 u2 v3 v4 v5 v6 n2)) (hgv : ∀ h, Holds h rest → h.get? gl = some (listOf (List.toArray [.int i0 j0, .int i1 j1, .int i2 j2, .int i3 j3, .int i4 j4, .int i5 j5, .int i6 j6]) kG)) (hoff : OffC L rest) (hRo : @Ne Nat R (L+4) ∧ @Ne Nat R (L+3) ∧ @Ne Nat R (L+2) ∧ @Ne Nat R (L+1)) (hRr : ∀ p ∈ rest, @Ne Nat p.1 R) (hlen : vs.length = 5)
    {QF : Flow → Shared → Prop} (hQ : LawQ h₀ L s QF) :
    wpAny (model PySem.Challenge.rw_ix0027_01.row.prog w) (A₀.deeper (lawEnv L)) (execs lawRest10 (lawEnv L)) QF E s := by
  (run_tac sh0)
  obtain ⟨hp, gs, drw, tk, os⟩ := s
  (try dsimp only at *)
  have hh' : (A₀.deeper (lawEnv L)).handled = none := by first | exact hh | rfl
  unfold lawRest10 lawEnv lawScope lawPickS lawTl
  obtain ⟨⟨hmd, hdmd⟩, hr, hdr⟩ := hmod _ (holds_of (rest := rest) (by ((with_reducible rename News _ _ _ _ => nwst); exact nwst)) (fun p hp => by repeat (first | exact hp | apply List.mem_cons_of_mem)))
  have HR' : RingAt _ r := ⟨dr, n2, f1, f2, f3, f4, f5, f6, g1, g2, g3, g4, g5, g6, u1, u2, v3, v4, v5, v6, hr, hdr⟩
  have hgl := isList_of (hgv _ (holds_of (rest := rest) (by ((with_reducible rename News _ _ _ _ => nwst); exact nwst)) (fun p hp => by repeat (first | exact hp | apply List.mem_cons_of_mem))))
  repeat ((fail_if_success (with_reducible refine stop_For' ?_)); (first | walk1 | dsimp only))
  refine' forL (hE := hE) ?hh ?hx ?hp ?_
  case hh => assumption
  case hx => rfl
  case hp => rfl
  repeat ((fail_if_success (with_reducible refine stop_Name ?_)); (first | walk1 | dsimp only))
  refine' nameX_L ?F hmg ?_
  case F => k_asm
  repeat ((fail_if_success (with_reducible refine stop_tail ?_)); (first | walk1 | dsimp only))
  refine' kmk_slice_lit (zs := [.int i5 j5, .int i6 j6]) ?F ?N ?kl ?kp ?kq ?ke ?_ ?ks ?kt ?kz
  case F => k_asm
  case N => k_asm
  case kl => exact hgl
  case kp => exact IsPart.int _ _
  case kq => exact IsPart.int _ _
  case ke => rfl
  case ks => with_unfolding_all rfl
  case kt => kmk_pure
  case kz => exact (by decide : 7 ≤ sizeLine)
  intro D' h' F' N' l1
  (try k_lt l1)
  k_sweep
  repeat ((fail_if_success (with_reducible refine stop_ForL ?_)); (first | walk1 | dsimp only))
  refine' ⟨D', [.int i5 j5, .int i6 j6], 0, h₀, m, _, LawJ L R r md dmd o1 o2 o3 o4 (modD r em tm nm) dr (ringD f1 f2 f3 f4 f5 f6 g1 g2 g3 g4 g5 g6 u1 u2 v3 v4 v5 v6 n2), rfl, ?F, ?N, ?J0, ?turn, ?done⟩
  case F => k_asm
  case N => k_asm
  case J0 => exact ⟨vs, kR, rest, hm, rfl, hrest, hmod, hoff, hRr, by omega⟩
  case turn =>
    rintro i v m₁ news₁ I oI h₂ tk₂ hv ⟨vs', kR', rest', hm', rfl, hrest', hmod', hoff', hRr', hlen'⟩ hDI hne F₂ N₂
    have hi2 : i < 2 := by
      by_cases q : i < 2
      · exact q
      · rw [List.getElem?_eq_none (by simpa using q)] at hv; cases hv
    obtain ⟨n9, t9, rfl⟩ : ∃ n t, v = .int n t := by
      rcases Nat.lt_succ_iff_lt_or_eq.mp hi2 with q | q
      · obtain rfl : i = 0 := by omega
        exact ⟨_, _, (Option.some.inj hv).symm⟩
      · subst q
        exact ⟨_, _, (Option.some.inj hv).symm⟩
    have hne' := hne
    simp only [List.forall_mem_cons] at hne'
    obtain ⟨hn1, hn2, hn3, hn4, hn5, hn6⟩ := hne'
    obtain ⟨hRo1, hRo2, hRo3, hRo4⟩ := id hRo
    clear hne
    obtain ⟨⟨hmd, hdmd⟩, hr, hdr⟩ := hmod' _ (holds_of (rest := rest') (by ((with_reducible rename News _ _ _ _ => nwst); exact nwst)) (fun p hp => by repeat (first | exact hp | apply List.mem_cons_of_mem)))
    have HR' : RingAt _ r := ⟨dr, n2, f1, f2, f3, f4, f5, f6, g1, g2, g3, g4, g5, g6, u1, u2, v3, v4, v5, v6, hr, hdr⟩
    obtain ⟨_, HW⟩ := hrest' _ (holds_of (rest := rest') (by ((with_reducible rename News _ _ _ _ => nwst); exact nwst)) (fun p hp => by repeat (first | exact hp | apply List.mem_cons_of_mem)))
    repeat ((fail_if_success (with_reducible refine stop_call (f := 1004) ?_)); (first | walk1 | dsimp only))
    refine' c_deed ?B ?F ?X ?T (frames_in ?B) ?hf ?hk ?hd ?hu ?hh ?q0 ?q1 ?q2 ?q3 ?q4 ?q5 ?ret
    case B => k_asm
    case F => k_asm
    case X => k_asm
    case T => k_asm
    case hf => rfl
    case hk => rfl
    case hd => k_room
    case hu => k_room
    case hh => first | assumption | rfl
    case q0 => exact HR'
    case q1 => exact News.get (by k_asm) (by k_mem)
    case q2 => omega
    case q3 => omega
    case q4 => exact HW
    case q5 => omega
    case ret =>
      intro v₄ h₄ tk₄ hk₄ post₄
      obtain ⟨ns9, T9, l9, z9, k9, ls9, rfl, hT0, hl0, hT, hl, hI9, hn9, hs9, HP9⟩ := post₄
      obtain ⟨dz9, lz9, e1, e2, t1, t2, nz, zs, kz, hz0, hdz0, hlz0, hz, hdz, hlz, hiz, hnz⟩ := HP9
      have cF₄ := Fr.keeps (by k_asm) hk₄
      have cN₄ := News.grown (by k_asm) hk₄
      have offN := news_ne (by k_asm) hlz0
      (simp only [List.forall_mem_cons, List.not_mem_nil, false_implies, implies_true, and_true] at offN); (repeat (obtain ⟨_, offN⟩ := offN))
      replace cN₄ := news_add (by k_asm) cN₄ hlz0 hlz
      have offN := news_ne (by k_asm) hdz0
      (simp only [List.forall_mem_cons, List.not_mem_nil, false_implies, implies_true, and_true] at offN); (repeat (obtain ⟨_, offN⟩ := offN))
      replace cN₄ := news_add (by k_asm) cN₄ hdz0 hdz
      have offN := news_ne (by k_asm) hz0
      (simp only [List.forall_mem_cons, List.not_mem_nil, false_implies, implies_true, and_true] at offN); (repeat (obtain ⟨_, offN⟩ := offN))
      replace cN₄ := news_add (by k_asm) cN₄ hz0 hz
      have offN := news_ne (by k_asm) hl0
      (simp only [List.forall_mem_cons, List.not_mem_nil, false_implies, implies_true, and_true] at offN); (repeat (obtain ⟨_, offN⟩ := offN))
      replace cN₄ := news_add (by k_asm) cN₄ hl0 hl
      have offN := news_ne (by k_asm) hT0
      (simp only [List.forall_mem_cons, List.not_mem_nil, false_implies, implies_true, and_true] at offN); (repeat (obtain ⟨_, offN⟩ := offN))
      replace cN₄ := news_add (by k_asm) cN₄ hT0 hT
      k_sweep
      repeat ((fail_if_success (with_reducible refine stop_tail ?_)); (first | walk1 | dsimp only))
      refine' item_tupleT (l := [.ref l9, .ref z9]) (j := 1) ?hT ?h0 ?h1 ?h2 ?h3 ?_
      case hT => exact ⟨_, News.get (a := T9) (o := pairOf (.ref l9) (.ref z9)) (by ((with_reducible rename News _ _ _ _ => nwst); exact nwst)) (by k_mem), rfl, _, rfl⟩
      case h0 => decide
      case h1 => decide
      case h2 => rfl
      case h3 => rfl
      repeat ((fail_if_success (with_reducible refine stop_tail ?_)); (first | walk1 | dsimp only))
      refine' item_tupleT (l := [.ref l9, .ref z9]) (j := 0) ?hT ?h0 ?h1 ?h2 ?h3 ?_
      case hT => exact ⟨_, News.get (a := T9) (o := pairOf (.ref l9) (.ref z9)) (by ((with_reducible rename News _ _ _ _ => nwst); exact nwst)) (by k_mem), rfl, _, rfl⟩
      case h0 => decide
      case h1 => decide
      case h2 => rfl
      case h3 => rfl
      repeat ((fail_if_success (with_reducible refine stop_cmp (op := .NotEq) ?_)); (first | walk1 | dsimp only))
      refine' ne_intsK (isList_of (News.get (a := lz9) (o := listOf zs.toArray _) (by ((with_reducible rename News _ _ _ _ => nwst); exact nwst)) (by k_mem))) hiz (isList_of (News.get (a := l9) (o := listOf ls9.toArray k9) (by ((with_reducible rename News _ _ _ _ => nwst); exact nwst)) (by k_mem))) hI9 ?hu ?_
      case hu => k_room
      (simp only [decide_true, Bool.not_true])
      repeat ((fail_if_success (with_reducible refine stop_tail ?_)); (first | walk1 | dsimp only))
      refine' item_tupleT (l := [.ref l9, .ref z9]) (j := 1) ?hT ?h0 ?h1 ?h2 ?h3 ?_
      case hT => exact ⟨_, News.get (a := T9) (o := pairOf (.ref l9) (.ref z9)) (by ((with_reducible rename News _ _ _ _ => nwst); exact nwst)) (by k_mem), rfl, _, rfl⟩
      case h0 => decide
      case h1 => decide
      case h2 => rfl
      case h3 => rfl
      repeat ((fail_if_success (with_reducible refine stop_call (f := 1011) ?_)); (first | walk1 | dsimp only))
      refine' c_ref0 ?B ?F ?X ?T (frames_in ?B) ?hf ?hk ?hd ?hu ?hh ?XB ?TB ?q0 ?q1 ?ret
      case B => k_asm
      case F => k_asm
      case X => k_asm
      case T => k_asm
      case hf => rfl
      case hk => rfl
      case hd => k_room
      case hu => k_room
      case hh => first | assumption | rfl
      case XB => assumption
      case TB => assumption
      case q0 => exact News.get (by ((with_reducible rename News _ _ _ _ => nwst); exact nwst)) (by k_mem)
      case q1 => exact News.get (by ((with_reducible rename News _ _ _ _ => nwst); exact nwst)) (by k_mem)
      case ret =>
        intro v₄ h₄ tk₄ hk₄ hl₄ post₄
        obtain ⟨tq, rfl⟩ := post₄
        have cF₄ := fr_slots (by k_asm) hk₄ hl₄
        have cN₄ := news_slots (by k_asm) hk₄
        k_sweep
        repeat ((fail_if_success (with_reducible refine (stop_getM (n := Str.ofString "append")) ?_)); (first | walk1 | dsimp only))
        refine' listMethod_K ?gmN ?gmm PySem.F.slot_list_append PySem.F.type_list_append ?_
        case gmN => ((with_reducible rename News _ _ _ _ => nwst); exact nwst)
        case gmm => k_mem
        repeat ((fail_if_success (with_reducible refine stop_builtin (f := "list.append") ?_)); (first | walk1 | dsimp only))
        have N₉ := (news_sub (news' := (R, listOf (List.toArray vs') kR') :: (I, oI) :: (D', _) :: (L+4, o4) :: (L+3, o3) :: (L+2, o2) :: (L+1, o1) :: (T9, pairOf (.ref l9) (.ref z9)) :: (l9, listOf ls9.toArray k9) :: (z9, instObj 592 dz9) :: (dz9, _) :: (lz9, listOf zs.toArray _) :: rest') (by ((with_reducible rename News _ _ _ _ => nwst); exact nwst)) (fun p hp => by
          rcases List.mem_cons.mp hp with rfl | hp; · k_mem
          rcases List.mem_cons.mp hp with rfl | hp; · k_mem
          rcases List.mem_cons.mp hp with rfl | hp; · k_mem
          rcases List.mem_cons.mp hp with rfl | hp; · k_mem
          rcases List.mem_cons.mp hp with rfl | hp; · k_mem
          rcases List.mem_cons.mp hp with rfl | hp; · k_mem
          rcases List.mem_cons.mp hp with rfl | hp; · k_mem
          rcases List.mem_cons.mp hp with rfl | hp; · k_mem
          rcases List.mem_cons.mp hp with rfl | hp; · k_mem
          rcases List.mem_cons.mp hp with rfl | hp; · k_mem
          rcases List.mem_cons.mp hp with rfl | hp; · k_mem
          rcases List.mem_cons.mp hp with rfl | hp; · k_mem
          repeat (first | exact hp | apply List.mem_cons_of_mem)))
        refine' append_K ?apF N₉ (Upd.head (fun p hp => ?apn)) ?_ ?apz
        case apF => k_asm
        case apz => (rw [List.size_toArray]; refine Nat.le_trans (m := 100) ?_ (by decide); omega)
        case apn =>
          rcases List.mem_cons.mp hp with rfl | hp; · (show @Ne Nat _ _; (first | with_reducible assumption | exact Ne.symm (by with_reducible assumption) | exact Nat.ne_of_gt (by with_reducible assumption) | exact Nat.ne_of_lt (by with_reducible assumption) | omega))
          rcases List.mem_cons.mp hp with rfl | hp; · (show @Ne Nat _ _; (first | with_reducible assumption | exact Ne.symm (by with_reducible assumption) | exact Nat.ne_of_gt (by with_reducible assumption) | exact Nat.ne_of_lt (by with_reducible assumption) | omega))
          rcases List.mem_cons.mp hp with rfl | hp; · (show @Ne Nat _ _; (first | with_reducible assumption | exact Ne.symm (by with_reducible assumption) | exact Nat.ne_of_gt (by with_reducible assumption) | exact Nat.ne_of_lt (by with_reducible assumption) | omega))
          rcases List.mem_cons.mp hp with rfl | hp; · (show @Ne Nat _ _; (first | with_reducible assumption | exact Ne.symm (by with_reducible assumption) | exact Nat.ne_of_gt (by with_reducible assumption) | exact Nat.ne_of_lt (by with_reducible assumption) | omega))
          rcases List.mem_cons.mp hp with rfl | hp; · (show @Ne Nat _ _; (first | with_reducible assumption | exact Ne.symm (by with_reducible assumption) | exact Nat.ne_of_gt (by with_reducible assumption) | exact Nat.ne_of_lt (by with_reducible assumption) | omega))
          rcases List.mem_cons.mp hp with rfl | hp; · (show @Ne Nat _ _; (first | with_reducible assumption | exact Ne.symm (by with_reducible assumption) | exact Nat.ne_of_gt (by with_reducible assumption) | exact Nat.ne_of_lt (by with_reducible assumption) | omega))
          rcases List.mem_cons.mp hp with rfl | hp; · (show @Ne Nat _ _; (first | with_reducible assumption | exact Ne.symm (by with_reducible assumption) | exact Nat.ne_of_gt (by with_reducible assumption) | exact Nat.ne_of_lt (by with_reducible assumption) | omega))
          rcases List.mem_cons.mp hp with rfl | hp; · (show @Ne Nat _ _; (first | with_reducible assumption | exact Ne.symm (by with_reducible assumption) | exact Nat.ne_of_gt (by with_reducible assumption) | exact Nat.ne_of_lt (by with_reducible assumption) | omega))
          rcases List.mem_cons.mp hp with rfl | hp; · (show @Ne Nat _ _; (first | with_reducible assumption | exact Ne.symm (by with_reducible assumption) | exact Nat.ne_of_gt (by with_reducible assumption) | exact Nat.ne_of_lt (by with_reducible assumption) | omega))
          rcases List.mem_cons.mp hp with rfl | hp; · (show @Ne Nat _ _; (first | with_reducible assumption | exact Ne.symm (by with_reducible assumption) | exact Nat.ne_of_gt (by with_reducible assumption) | exact Nat.ne_of_lt (by with_reducible assumption) | omega))
          rcases List.mem_cons.mp hp with rfl | hp; · (show @Ne Nat _ _; (first | with_reducible assumption | exact Ne.symm (by with_reducible assumption) | exact Nat.ne_of_gt (by with_reducible assumption) | exact Nat.ne_of_lt (by with_reducible assumption) | omega))
          have hx := hRr' p hp
          show @Ne Nat _ _
          omega
        intro h₅ F₅ N₅
        (try rw [List.push_toArray] at N₅)
        k_sweep
        repeat ((fail_if_success (with_reducible refine stop_TurnL ?_)); (first | walk1 | dsimp only))
        refine' ⟨_, _, _, _, rfl, ?tF, ?tN, ?tI, vs' ++ [.ref T9], _, (T9, pairOf (.ref l9) (.ref z9)) :: (l9, listOf ls9.toArray k9) :: (z9, instObj 592 dz9) :: (dz9, _) :: (lz9, listOf zs.toArray _) :: rest', ?tm, rfl, ?tR, ?tM, ?tO, ?tE, ?tL⟩ --(R, listOf (List.toArray (vs' ++ [.ref T9])) _) :: (L+4, o4) :: (L+3, o3) :: (L+2, o2) :: (L+1, o1) :: (T9, pairOf (.ref l9) (.ref z9)) :: (l9, listOf ls9.toArray k9) :: (z9, instObj 592 dz9) :: (dz9, _) :: (lz9, listOf zs.toArray _) :: rest', rfl, ?tF, ?tN, ?tI, vs' ++ [.ref T9], _, (T9, pairOf (.ref l9) (.ref z9)) :: (l9, listOf ls9.toArray k9) :: (z9, instObj 592 dz9) :: (dz9, _) :: (lz9, listOf zs.toArray _) :: rest', ?tm, rfl, ?tR, ?tM, ?tO, ?tE, ?tL⟩
        case tF => k_asm
        case tN => exact (news_sub (by ((with_reducible rename News _ _ _ _ => nwst); exact nwst)) (fun p hp => by
          rcases List.mem_cons.mp hp with rfl | hp; · k_mem
          rcases List.mem_cons.mp hp with rfl | hp; · k_mem
          rcases List.mem_cons.mp hp with rfl | hp; · k_mem
          rcases List.mem_cons.mp hp with rfl | hp; · k_mem
          rcases List.mem_cons.mp hp with rfl | hp; · k_mem
          rcases List.mem_cons.mp hp with rfl | hp; · k_mem
          rcases List.mem_cons.mp hp with rfl | hp; · k_mem
          rcases List.mem_cons.mp hp with rfl | hp; · k_mem
          rcases List.mem_cons.mp hp with rfl | hp; · k_mem
          rcases List.mem_cons.mp hp with rfl | hp; · k_mem
          rcases List.mem_cons.mp hp with rfl | hp; · k_mem
          rcases List.mem_cons.mp hp with rfl | hp; · k_mem
          repeat (first | exact hp | apply List.mem_cons_of_mem)))
        case tm => exact hm'
        case tI =>
          intro p hp
          rcases List.mem_cons.mp hp with rfl | hp; · (show @Ne Nat _ _; (first | with_reducible assumption | exact Ne.symm (by with_reducible assumption) | exact Nat.ne_of_gt (by with_reducible assumption) | exact Nat.ne_of_lt (by with_reducible assumption) | omega))
          rcases List.mem_cons.mp hp with rfl | hp; · (show @Ne Nat _ _; (first | with_reducible assumption | exact Ne.symm (by with_reducible assumption) | exact Nat.ne_of_gt (by with_reducible assumption) | exact Nat.ne_of_lt (by with_reducible assumption) | omega))
          rcases List.mem_cons.mp hp with rfl | hp; · (show @Ne Nat _ _; (first | with_reducible assumption | exact Ne.symm (by with_reducible assumption) | exact Nat.ne_of_gt (by with_reducible assumption) | exact Nat.ne_of_lt (by with_reducible assumption) | omega))
          rcases List.mem_cons.mp hp with rfl | hp; · (show @Ne Nat _ _; (first | with_reducible assumption | exact Ne.symm (by with_reducible assumption) | exact Nat.ne_of_gt (by with_reducible assumption) | exact Nat.ne_of_lt (by with_reducible assumption) | omega))
          rcases List.mem_cons.mp hp with rfl | hp; · (show @Ne Nat _ _; (first | with_reducible assumption | exact Ne.symm (by with_reducible assumption) | exact Nat.ne_of_gt (by with_reducible assumption) | exact Nat.ne_of_lt (by with_reducible assumption) | omega))
          rcases List.mem_cons.mp hp with rfl | hp; · (show @Ne Nat _ _; (first | with_reducible assumption | exact Ne.symm (by with_reducible assumption) | exact Nat.ne_of_gt (by with_reducible assumption) | exact Nat.ne_of_lt (by with_reducible assumption) | omega))
          rcases List.mem_cons.mp hp with rfl | hp; · (show @Ne Nat _ _; (first | with_reducible assumption | exact Ne.symm (by with_reducible assumption) | exact Nat.ne_of_gt (by with_reducible assumption) | exact Nat.ne_of_lt (by with_reducible assumption) | omega))
          rcases List.mem_cons.mp hp with rfl | hp; · (show @Ne Nat _ _; (first | with_reducible assumption | exact Ne.symm (by with_reducible assumption) | exact Nat.ne_of_gt (by with_reducible assumption) | exact Nat.ne_of_lt (by with_reducible assumption) | omega))
          rcases List.mem_cons.mp hp with rfl | hp; · (show @Ne Nat _ _; (first | with_reducible assumption | exact Ne.symm (by with_reducible assumption) | exact Nat.ne_of_gt (by with_reducible assumption) | exact Nat.ne_of_lt (by with_reducible assumption) | omega))
          rcases List.mem_cons.mp hp with rfl | hp; · (show @Ne Nat _ _; (first | with_reducible assumption | exact Ne.symm (by with_reducible assumption) | exact Nat.ne_of_gt (by with_reducible assumption) | exact Nat.ne_of_lt (by with_reducible assumption) | omega))
          exact hn6 p hp
        case tR =>
          intro h H
          obtain ⟨H1, H2⟩ := hrest' h (fun p hp => H p (.tail _ (.tail _ (.tail _ (.tail _ (.tail _ hp))))))
          refine ⟨H1, fun u hu => ?_⟩
          rcases List.mem_append.mp hu with hu | hu
          · exact H2 u hu
          · rw [List.mem_singleton.mp hu]
            exact ⟨ns9, T9, l9, z9, _, ls9, rfl, H _ (.head _), H _ (.tail _ (.head _)), hI9, hn9, hs9, lz9, dz9, _, _, _, _, _, zs, _, H _ (.tail _ (.tail _ (.head _))), H _ (.tail _ (.tail _ (.tail _ (.head _)))), H _ (.tail _ (.tail _ (.tail _ (.tail _ (.head _))))), hiz, hnz⟩
        case tM => exact fun h H => hmod' h (fun p hp => H p (.tail _ (.tail _ (.tail _ (.tail _ (.tail _ hp))))))
        case tO =>
          intro p hp
          rcases List.mem_cons.mp hp with rfl | hp; · (refine ⟨?_, ?_, ?_, ?_⟩ <;> (show @Ne Nat _ _; (first | with_reducible assumption | exact Ne.symm (by with_reducible assumption) | exact Nat.ne_of_gt (by with_reducible assumption) | exact Nat.ne_of_lt (by with_reducible assumption) | omega)))
          rcases List.mem_cons.mp hp with rfl | hp; · (refine ⟨?_, ?_, ?_, ?_⟩ <;> (show @Ne Nat _ _; (first | with_reducible assumption | exact Ne.symm (by with_reducible assumption) | exact Nat.ne_of_gt (by with_reducible assumption) | exact Nat.ne_of_lt (by with_reducible assumption) | omega)))
          rcases List.mem_cons.mp hp with rfl | hp; · (refine ⟨?_, ?_, ?_, ?_⟩ <;> (show @Ne Nat _ _; (first | with_reducible assumption | exact Ne.symm (by with_reducible assumption) | exact Nat.ne_of_gt (by with_reducible assumption) | exact Nat.ne_of_lt (by with_reducible assumption) | omega)))
          rcases List.mem_cons.mp hp with rfl | hp; · (refine ⟨?_, ?_, ?_, ?_⟩ <;> (show @Ne Nat _ _; (first | with_reducible assumption | exact Ne.symm (by with_reducible assumption) | exact Nat.ne_of_gt (by with_reducible assumption) | exact Nat.ne_of_lt (by with_reducible assumption) | omega)))
          rcases List.mem_cons.mp hp with rfl | hp; · (refine ⟨?_, ?_, ?_, ?_⟩ <;> (show @Ne Nat _ _; (first | with_reducible assumption | exact Ne.symm (by with_reducible assumption) | exact Nat.ne_of_gt (by with_reducible assumption) | exact Nat.ne_of_lt (by with_reducible assumption) | omega)))
          exact hoff' p hp
        case tE =>
          intro p hp
          rcases List.mem_cons.mp hp with rfl | hp; · (show @Ne Nat _ _; (first | with_reducible assumption | exact Ne.symm (by with_reducible assumption) | exact Nat.ne_of_gt (by with_reducible assumption) | exact Nat.ne_of_lt (by with_reducible assumption) | omega))
          rcases List.mem_cons.mp hp with rfl | hp; · (show @Ne Nat _ _; (first | with_reducible assumption | exact Ne.symm (by with_reducible assumption) | exact Nat.ne_of_gt (by with_reducible assumption) | exact Nat.ne_of_lt (by with_reducible assumption) | omega))
          rcases List.mem_cons.mp hp with rfl | hp; · (show @Ne Nat _ _; (first | with_reducible assumption | exact Ne.symm (by with_reducible assumption) | exact Nat.ne_of_gt (by with_reducible assumption) | exact Nat.ne_of_lt (by with_reducible assumption) | omega))
          rcases List.mem_cons.mp hp with rfl | hp; · (show @Ne Nat _ _; (first | with_reducible assumption | exact Ne.symm (by with_reducible assumption) | exact Nat.ne_of_gt (by with_reducible assumption) | exact Nat.ne_of_lt (by with_reducible assumption) | omega))
          rcases List.mem_cons.mp hp with rfl | hp; · (show @Ne Nat _ _; (first | with_reducible assumption | exact Ne.symm (by with_reducible assumption) | exact Nat.ne_of_gt (by with_reducible assumption) | exact Nat.ne_of_lt (by with_reducible assumption) | omega))
          exact hRr' p hp
        case tL => simp [hlen']; omega
  case done =>
    rintro h₄ tk₄ m₁ news₁ ⟨vs', kR', rest', hm', rfl, hrest', hmod', hoff', hRr', hlen'⟩ F₄ N₄
    have hlen7 : vs'.length = 7 := by simpa using hlen'
    repeat ((fail_if_success (with_reducible refine stop_ex ?_)); (first | walk1 | dsimp only))
    exact law11 (rest := rest') (u5 := vs'[5]) B F₄ X T hd hu hh hg (news_sub N₄ (fun p hp => .tail _ hp)) hm' d2 d4 hrest' hmod' hoff' hRo hlen7 (List.getElem?_eq_getElem _) (fun h' tk gs m' a b t e => hQ h' tk gs m' a b t e)
  (run_tac sh1)

end

theorem fresh_43 : True := by
  w_top off
  trivial
section
variable {w : World} {A₀ A : Around} {base h₀ : Heap} {outer : List Env} {env : Env} {L : Addr} {m : Str → Option Value} {p : Program} {loose : List Str} {mean : ExcName → Option Value} {mg mb : Str → Option Value}
    {s : Shared} {Q : Value → Shared → Prop} {E : Value → Shared → Prop}
theorem law9 {R : Addr} {r md dmd : Addr} {em : Int} {tm : Tok} {nm : Nat} {dr : Addr} {n2 : Nat} {f1 f2 f3 f4 f5 f6 : Int} {g1 g2 g3 g4 g5 g6 u1 u2 : Tok} {v3 v4 v5 v6 : Value} {gl : Addr} {kG : Nat} {i0 i1 i2 i3 i4 i5 i6 : Int} {j0 j1 j2 j3 j4 j5 j6 : Tok} {Mf dMf Df rowf zf dzf lzf Du : Addr} {x1 x2 x3 e1 e2 : Int} {y1 y2 y3 t1 t2 : Tok} {nf k1f k2f nzf kzf kdu : Nat} {zsf dsu : List Value} {ns : List Int} {vs : List Value} {kR : Nat} {o1 o2 o3 o4 : Obj} {c4 : Option Value} {rest : List (Addr × Obj)}
    (B : Below A₀ h₀ [] h₀) (F : Fr h₀ L s.heap m) (X : (Mine.hd.heap_39 w.params).In h₀) (T : Top p loose mean mg mb h₀) (hd : A₀.depth ≤ 310) (hu : A₀.units ≤ 3100) (hh : A₀.handled = none) (hg : AllBare s.gens)
    (N : News h₀ L s.heap ((R, listOf vs.toArray kR) :: (L+4, o4) :: (L+3, o3) :: (L+2, o2) :: (L+1, o1) :: rest)) (hE : PassesOwn (model PySem.Challenge.rw_ix0027_01.row.prog w) (A₀.deeper (lawEnv L)) (lawEnv L) E) (hm : m (Str.ofString "module") = some (.ref md)) (hmg : m (Str.ofString "given") = some (.ref gl)) (hmf : m (Str.ofString "found") = some (.ref Mf)) (hmdue : m (Str.ofString "due") = some (.ref Du)) (d2 : o2.data = .cell (some (.ref R))) (d4 : o4.data = .cell c4) (hrest : RowsIn rest r vs) (hmod : ∀ h, Holds h rest → (h.get? md = some (instObj 983 dmd) ∧ h.get? dmd = some (modD r em tm nm)) ∧ h.get? r = some (instObj 392 dr) ∧ h.get? dr = some (ringD f1 f2 f3 f4 f5 f6 g1 g2 g3 g4 g5 g6 u1 u2 v3 v4 v5 v6 n2)) (hgv : ∀ h, Holds h rest → h.get? gl = some (listOf (List.toArray [.int i0 j0, .int i1 j1, .int i2 j2, .int i3 j3, .int i4 j4, .int i5 j5, .int i6 j6]) kG)) (hoff : OffC L rest) (hRo : @Ne Nat R (L+4) ∧ @Ne Nat R (L+3) ∧ @Ne Nat R (L+2) ∧ @Ne Nat R (L+1)) (hRr : ∀ p ∈ rest, @Ne Nat p.1 R) (hlen : vs.length = 5) (hF1 : (Mf, instObj 886 dMf) ∈ rest) (hF2 : (dMf, matD md (.ref Df) false x1 x2 x3 y1 y2 y3 nf) ∈ rest) (hF3 : (Df, listOf #[.ref rowf] k1f) ∈ rest) (hF4 : (rowf, listOf #[.ref zf] k2f) ∈ rest) (hF5 : (zf, instObj 592 dzf) ∈ rest) (hF6 : (dzf, polyD r (.ref lzf) e1 e2 t1 t2 nzf) ∈ rest) (hF7 : (lzf, listOf zsf.toArray kzf) ∈ rest) (hiz : IntsAre zsf ns) (hDu : (Du, listOf dsu.toArray kdu) ∈ rest) (hiu : IntsAre dsu ns)
    {QF : Flow → Shared → Prop} (hQ : LawQ h₀ L s QF) :
    wpAny (model PySem.Challenge.rw_ix0027_01.row.prog w) (A₀.deeper (lawEnv L)) (execs lawRest9 (lawEnv L)) QF E s := by
  (run_tac sh0)
  obtain ⟨hp, gs, drw, tk, os⟩ := s
  (try dsimp only at *)
  have hh' : (A₀.deeper (lawEnv L)).handled = none := by first | exact hh | rfl
  unfold lawRest9 lawEnv lawScope lawPickS lawTl
  repeat ((fail_if_success (with_reducible refine (stop_Name (x := Str.ofString "found")) ?_)); (first | walk1 | dsimp only))
  refine' nameX_L ?F hmf ?_
  case F => k_asm
  have hMf := ((holds_of (rest := rest) (by ((with_reducible rename News _ _ _ _ => nwst); exact nwst)) (fun p hp => by repeat (first | exact hp | apply List.mem_cons_of_mem))) _ hF1)
  have hdMf := ((holds_of (rest := rest) (by ((with_reducible rename News _ _ _ _ => nwst); exact nwst)) (fun p hp => by repeat (first | exact hp | apply List.mem_cons_of_mem))) _ hF2)
  repeat ((fail_if_success (with_reducible refine stop_call (f := 621) ?_)); (first | walk1 | dsimp only))
  refine' c_dim886f ?B ?F ?X ?T (frames_in ?B) ?hf ?hk ?hd ?hu ?hh ?q0 ?q1 ?q2 ?q3 ?q4 ?ret
  case B => k_asm
  case F => k_asm
  case X => k_asm
  case T => k_asm
  case hf => rfl
  case hk => rfl
  case hd => k_room
  case hu => k_room
  case hh => first | assumption | rfl
  case q0 => exact ((holds_of (rest := rest) (by ((with_reducible rename News _ _ _ _ => nwst); exact nwst)) (fun p hp => by repeat (first | exact hp | apply List.mem_cons_of_mem))) _ hF1)
  case q1 => exact ((holds_of (rest := rest) (by ((with_reducible rename News _ _ _ _ => nwst); exact nwst)) (fun p hp => by repeat (first | exact hp | apply List.mem_cons_of_mem))) _ hF2)
  case q2 => exact ((holds_of (rest := rest) (by ((with_reducible rename News _ _ _ _ => nwst); exact nwst)) (fun p hp => by repeat (first | exact hp | apply List.mem_cons_of_mem))) _ hF3)
  case q3 => exact (show _ = some (listOf (List.toArray [Value.ref zf]) k2f) from ((holds_of (rest := rest) (by ((with_reducible rename News _ _ _ _ => nwst); exact nwst)) (fun p hp => by repeat (first | exact hp | apply List.mem_cons_of_mem))) _ hF4))
  case q4 => exact (by decide : 1 ≤ 2)
  case ret =>
    intro v₄ h₄ tk₄ hk₄ post₄
    obtain ⟨T₁, ta, tb, rfl, hT0, hT⟩ := post₄
    replace hT : h₄.get? T₁ = some (pairOf (.int 1 ta) (.int 1 tb)) := hT
    have cF₄ := Fr.keeps (by k_asm) hk₄
    have cN₄ := News.grown (by k_asm) hk₄
    have offN := news_ne (by k_asm) hT0
    (simp only [List.forall_mem_cons, List.not_mem_nil, false_implies, implies_true, and_true] at offN)
    replace cN₄ := news_add (by k_asm) cN₄ hT0 hT
    k_sweep
    repeat ((fail_if_success (with_reducible refine (stop_Name (x := Str.ofString "found")) ?_)); (first | walk1 | dsimp only))
    refine' nameX_L ?F hmf ?_
    case F => k_asm
    repeat ((fail_if_success (with_reducible refine stop_tail ?_)); (first | walk1 | dsimp only))
    have hMf := ((holds_of (rest := rest) (by ((with_reducible rename News _ _ _ _ => nwst); exact nwst)) (fun p hp => by repeat (first | exact hp | apply List.mem_cons_of_mem))) _ hF1)
    have hdMf := ((holds_of (rest := rest) (by ((with_reducible rename News _ _ _ _ => nwst); exact nwst)) (fun p hp => by repeat (first | exact hp | apply List.mem_cons_of_mem))) _ hF2)
    repeat ((fail_if_success (with_reducible refine stop_call (f := 650) ?_)); (first | walk1 | dsimp only))
    refine' c_get886f ?B ?F ?X ?T (frames_in ?B) ?hf ?hk ?hd ?hu ?hh ?q0 ?q1 ?q2 ?q3 ?q4 ?q5 ?q6 ?q7 ?q8 ?ret
    case B => k_asm
    case F => k_asm
    case X => k_asm
    case T => k_asm
    case hf => rfl
    case hk => rfl
    case hd => k_room
    case hu => k_room
    case hh => first | assumption | rfl
    case q0 => exact ((holds_of (rest := rest) (by ((with_reducible rename News _ _ _ _ => nwst); exact nwst)) (fun p hp => by repeat (first | exact hp | apply List.mem_cons_of_mem))) _ hF1)
    case q1 => exact ((holds_of (rest := rest) (by ((with_reducible rename News _ _ _ _ => nwst); exact nwst)) (fun p hp => by repeat (first | exact hp | apply List.mem_cons_of_mem))) _ hF2)
    case q2 => exact ((holds_of (rest := rest) (by ((with_reducible rename News _ _ _ _ => nwst); exact nwst)) (fun p hp => by repeat (first | exact hp | apply List.mem_cons_of_mem))) _ hF3)
    case q3 => exact (show _ = some (listOf (List.toArray [Value.ref zf]) k2f) from ((holds_of (rest := rest) (by ((with_reducible rename News _ _ _ _ => nwst); exact nwst)) (fun p hp => by repeat (first | exact hp | apply List.mem_cons_of_mem))) _ hF4))
    case q4 => exact (by decide : 1 ≤ 2)
    case q5 => exact News.get (by ((with_reducible rename News _ _ _ _ => nwst); exact nwst)) (by k_mem)
    case q6 => decide
    case q7 => decide
    case q8 => rfl
    case ret =>
      intro v₄ h₄ tk₄ hk₄ post₄
      subst post₄
      have cF₄ := Fr.keeps (by k_asm) hk₄
      have cN₄ := News.grown (by k_asm) hk₄
      k_sweep
      have hz := ((holds_of (rest := rest) (by ((with_reducible rename News _ _ _ _ => nwst); exact nwst)) (fun p hp => by repeat (first | exact hp | apply List.mem_cons_of_mem))) _ hF5)
      have hdz := ((holds_of (rest := rest) (by ((with_reducible rename News _ _ _ _ => nwst); exact nwst)) (fun p hp => by repeat (first | exact hp | apply List.mem_cons_of_mem))) _ hF6)
      repeat ((fail_if_success (with_reducible refine (stop_Name (x := Str.ofString "due")) ?_)); (first | walk1 | dsimp only))
      refine' nameX_L ?F hmdue ?_
      case F => k_asm
      repeat ((fail_if_success (with_reducible refine stop_cmp (op := .NotEq) ?_)); (first | walk1 | dsimp only))
      refine' ne_intsK (isList_of ((holds_of (rest := rest) (by ((with_reducible rename News _ _ _ _ => nwst); exact nwst)) (fun p hp => by repeat (first | exact hp | apply List.mem_cons_of_mem))) _ hF7)) hiz (isList_of ((holds_of (rest := rest) (by ((with_reducible rename News _ _ _ _ => nwst); exact nwst)) (fun p hp => by repeat (first | exact hp | apply List.mem_cons_of_mem))) _ hDu)) hiu ?hu ?_
      case hu => k_room
      (simp only [decide_true, Bool.not_true])
      repeat ((fail_if_success (with_reducible refine (stop_Name (x := Str.ofString "found")) ?_)); (first | walk1 | dsimp only))
      refine' nameX_L ?F hmf ?_
      case F => k_asm
      repeat ((fail_if_success (with_reducible refine stop_tail ?_)); (first | walk1 | dsimp only))
      have hMf := ((holds_of (rest := rest) (by ((with_reducible rename News _ _ _ _ => nwst); exact nwst)) (fun p hp => by repeat (first | exact hp | apply List.mem_cons_of_mem))) _ hF1)
      have hdMf := ((holds_of (rest := rest) (by ((with_reducible rename News _ _ _ _ => nwst); exact nwst)) (fun p hp => by repeat (first | exact hp | apply List.mem_cons_of_mem))) _ hF2)
      repeat ((fail_if_success (with_reducible refine stop_call (f := 650) ?_)); (first | walk1 | dsimp only))
      refine' c_get886f ?B ?F ?X ?T (frames_in ?B) ?hf ?hk ?hd ?hu ?hh ?q0 ?q1 ?q2 ?q3 ?q4 ?q5 ?q6 ?q7 ?q8 ?ret
      case B => k_asm
      case F => k_asm
      case X => k_asm
      case T => k_asm
      case hf => rfl
      case hk => rfl
      case hd => k_room
      case hu => k_room
      case hh => first | assumption | rfl
      case q0 => exact ((holds_of (rest := rest) (by ((with_reducible rename News _ _ _ _ => nwst); exact nwst)) (fun p hp => by repeat (first | exact hp | apply List.mem_cons_of_mem))) _ hF1)
      case q1 => exact ((holds_of (rest := rest) (by ((with_reducible rename News _ _ _ _ => nwst); exact nwst)) (fun p hp => by repeat (first | exact hp | apply List.mem_cons_of_mem))) _ hF2)
      case q2 => exact ((holds_of (rest := rest) (by ((with_reducible rename News _ _ _ _ => nwst); exact nwst)) (fun p hp => by repeat (first | exact hp | apply List.mem_cons_of_mem))) _ hF3)
      case q3 => exact (show _ = some (listOf (List.toArray [Value.ref zf]) k2f) from ((holds_of (rest := rest) (by ((with_reducible rename News _ _ _ _ => nwst); exact nwst)) (fun p hp => by repeat (first | exact hp | apply List.mem_cons_of_mem))) _ hF4))
      case q4 => exact (by decide : 1 ≤ 2)
      case q5 => exact News.get (by ((with_reducible rename News _ _ _ _ => nwst); exact nwst)) (by k_mem)
      case q6 => decide
      case q7 => decide
      case q8 => rfl
      case ret =>
        intro v₄ h₄ tk₄ hk₄ post₄
        subst post₄
        have cF₄ := Fr.keeps (by k_asm) hk₄
        have cN₄ := News.grown (by k_asm) hk₄
        k_sweep
        have hz := ((holds_of (rest := rest) (by ((with_reducible rename News _ _ _ _ => nwst); exact nwst)) (fun p hp => by repeat (first | exact hp | apply List.mem_cons_of_mem))) _ hF5)
        have hdz := ((holds_of (rest := rest) (by ((with_reducible rename News _ _ _ _ => nwst); exact nwst)) (fun p hp => by repeat (first | exact hp | apply List.mem_cons_of_mem))) _ hF6)
        repeat ((fail_if_success (with_reducible refine stop_call (f := 1011) ?_)); (first | walk1 | dsimp only))
        refine' c_ref0 ?B ?F ?X ?T (frames_in ?B) ?hf ?hk ?hd ?hu ?hh ?XB ?TB ?q0 ?q1 ?ret
        case B => k_asm
        case F => k_asm
        case X => k_asm
        case T => k_asm
        case hf => rfl
        case hk => rfl
        case hd => k_room
        case hu => k_room
        case hh => first | assumption | rfl
        case XB => assumption
        case TB => assumption
        case q0 => exact ((holds_of (rest := rest) (by ((with_reducible rename News _ _ _ _ => nwst); exact nwst)) (fun p hp => by repeat (first | exact hp | apply List.mem_cons_of_mem))) _ hF5)
        case q1 => exact ((holds_of (rest := rest) (by ((with_reducible rename News _ _ _ _ => nwst); exact nwst)) (fun p hp => by repeat (first | exact hp | apply List.mem_cons_of_mem))) _ hF6)
        case ret =>
          intro v₄ h₄ tk₄ hk₄ hl₄ post₄
          obtain ⟨tq, rfl⟩ := post₄
          have cF₄ := fr_slots (by k_asm) hk₄ hl₄
          have cN₄ := news_slots (by k_asm) hk₄
          k_sweep
          repeat ((fail_if_success (with_reducible refine stop_ex ?_)); (first | walk1 | dsimp only))
          exact law10 (rest := rest) (hE := hE) B (by k_asm) X T hd hu hh hg (news_sub (by k_asm) (fun p hp => by repeat (first | exact hp | apply List.mem_cons_of_mem))) hm hmg d2 d4 hrest hmod hgv hoff hRo hRr hlen (fun h' tk gs m' a b t e => hQ h' tk gs m' a b t e)
  (run_tac sh1)

end

theorem fresh_44 : True := by
  w_top off
  trivial
/-- a row of the law, its objects among those of a ledger -/
inductive RowM (rest : List (Addr × Obj)) (r : Addr) (u : Value) (ns : List Int) : Prop
  | mk (T l z dz lz : Addr) (k kz nz : Nat) (ls zs : List Value) (e1 e2 : Int) (t1 t2 : Tok) (hu : u = .ref T) (a : (T, pairOf (.ref l) (.ref z)) ∈ rest) (b : (l, listOf ls.toArray k) ∈ rest) (c : (z, instObj 592 dz) ∈ rest) (d : (dz, polyD r (.ref lz) e1 e2 t1 t2 nz) ∈ rest) (e : (lz, listOf zs.toArray kz) ∈ rest) (f : IntsAre ls ns) (g : IntsAre zs ns) (hl : ns.length = 256) (hs : Small ns) : RowM rest r u ns
theorem RowM.at {rest : List (Addr × Obj)} {r : Addr} {u : Value} {ns : List Int} {h : Heap} (H : Holds h rest) : RowM rest r u ns → RowAt h r u ns
  | ⟨T, l, z, dz, lz, k, kz, nz, ls, zs, e1, e2, t1, t2, a, b, c, d, e, f, i1, i2, hl, hs⟩ => ⟨T, l, z, k, ls, a, H _ b, H _ c, i1, hl, hs, lz, dz, e1, e2, t1, t2, nz, zs, kz, H _ d, H _ e, H _ f, i2, hl⟩
theorem RowM.sub {rest rest' : List (Addr × Obj)} {r : Addr} {u : Value} {ns : List Int} (k : ∀ p ∈ rest, p ∈ rest') : RowM rest r u ns → RowM rest' r u ns
  | ⟨T, l, z, dz, lz, k', kz, nz, ls, zs, e1, e2, t1, t2, a, b, c, d, e, f, i1, i2, hl, hs⟩ => ⟨T, l, z, dz, lz, k', kz, nz, ls, zs, e1, e2, t1, t2, a, k _ b, k _ c, k _ d, k _ e, k _ f, i1, i2, hl, hs⟩
theorem ints_one {ls : List Value} {ns ms : List Int} (a : IntsAre ls ns) : IntsAre ls ms → ns = ms := by
  induction a generalizing ms with
  | nil => intro b; cases b; rfl
  | cons n t x ih => intro b; cases b with | cons n t y => rw [ih y]
theorem ints_at {ls : List Value} {ns : List Int} (a : IntsAre ls ns) : ∀ i, i < ns.length → ∃ t, ls[i]? = some (.int (ns.getD i 0) t) := by
  (run_tac sh0)
  induction a with
  | nil => intro i h; exact absurd h (Nat.not_lt_zero _)
  | cons n t x ih =>
    intro i h
    cases i with
    | zero => exact ⟨t, rfl⟩
    | succ i => exact ih i (Nat.lt_of_succ_lt_succ h)
  (run_tac sh1)
theorem RowM.one {rest : List (Addr × Obj)} {r : Addr} {u : Value} {ns ms : List Int} {h : Heap} (H : Holds h rest) : RowM rest r u ns → RowM rest r u ms → ns = ms := by
  (run_tac sh0)
  rintro ⟨T, l, z, dz, lz, k, kz, nz, ls, zs, e1, e2, t1, t2, rfl, b, c, d, e, f, i1, i2, hl, hs⟩ ⟨T', l', z', dz', lz', k', kz', nz', ls', zs', e1', e2', t1', t2', a', b', c', d', e', f', i1', i2', hl', hs'⟩
  cases a'
  have qa := H _ b
  have qb := H _ b'
  have q := qa.symm.trans qb
  clear qa qb
  dsimp only at q
  obtain ⟨rfl, rfl⟩ : l = l' ∧ z = z' := by
    injection q with q
    injection q with q1 q2 q3 q4
    injection q3 with q5 q6
    injection q5 with q5
    injection q5 with q7 q8
    injection q8 with q8 q9
    injection q7 with q7
    injection q8 with q8
    exact ⟨q7, q8⟩
  have qa := H _ c
  have qb := H _ c'
  have q := qa.symm.trans qb
  clear qa qb
  dsimp only at q
  obtain rfl : ls = ls' := by
    injection q with q
    injection q with q1 q2 q3 q4
    injection q3 with q5 q6
    have := congrArg Array.toList q5
    simpa using this
  exact ints_one i1 i1'
  (run_tac sh1)
theorem small_at {ns : List Int} (h : Small ns) (hl : ns.length = 256) (i : Nat) (hi : i < 256) : -1099511627776 ≤ ns.getD i 0 ∧ ns.getD i 0 ≤ 1099511627776 := by
  have hi' : i < ns.length := by omega
  have e : ns.getD i 0 = ns[i] := by simp [List.getD, hi']
  rw [e]
  exact h _ (List.getElem_mem hi')
theorem paired5 {F : Value → Value → Prop} {a b c d e : Value} {ys : List Value} (P : Paired F [a, b, c, d, e] ys) : ∃ y0 y1 y2 y3 y4, ys = [y0, y1, y2, y3, y4] ∧ F a y0 ∧ F b y1 ∧ F c y2 ∧ F d y3 ∧ F e y4 := by
  cases P with | cons h0 P => cases P with | cons h1 P => cases P with | cons h2 P => cases P with | cons h3 P => cases P with | cons h4 P => cases P; exact ⟨_, _, _, _, _, rfl, h0, h1, h2, h3, h4⟩
theorem RowM.sm {rest : List (Addr × Obj)} {r : Addr} {u : Value} {ns : List Int} : RowM rest r u ns → Small ns ∧ ns.length = 256
  | ⟨_, _, _, _, _, _, _, _, _, _, _, _, _, _, _, _, _, _, _, _, _, _, hl, hs⟩ => ⟨hs, hl⟩
theorem name_head {D : Addr} {ob : Obj} {l : List (Addr × Obj)} {g : Heap} {L : Addr} {h : Heap} (_N : News g L h ((D, ob) :: l)) : ∃ D', D' = D := ⟨D, rfl⟩
def DueJ (L R Du md gl Mf : Addr) (oR o4 o2 o1 : Obj) (rest : List (Addr × Obj)) (f : Nat → Int) (i : Nat) (m : Str → Option Value) (news : List (Addr × Obj)) : Prop :=
  ∃ (ys : List Value) (k : Nat), m (Str.ofString "module") = some (.ref md) ∧ m (Str.ofString "given") = some (.ref gl) ∧ m (Str.ofString "found") = some (.ref Mf) ∧ m (Str.ofString "due") = some (.ref Du) ∧
    IntsAre ys ((List.range i).map f) ∧ ys.length = i ∧ news = (Du, listOf ys.toArray k) :: (R, oR) :: (L+4, o4) :: (L+2, o2) :: (L+1, o1) :: rest
theorem stop_TurnRC {g : Heap} {L I c : Addr} {oI : Obj} {J : (Str → Option Value) → List (Addr × Obj) → Prop} {s : Shared} {f : Flow} {s₃ : Shared} (h : TurnRC g L I c oI J s f s₃) : TurnRC g L I c oI J s f s₃ := h
section
variable {w : World} {A₀ A : Around} {base h₀ : Heap} {outer : List Env} {env : Env} {L : Addr} {m : Str → Option Value} {p : Program} {loose : List Str} {mean : ExcName → Option Value} {mg mb : Str → Option Value}
    {s : Shared} {Q : Value → Shared → Prop} {E : Value → Shared → Prop}
theorem law7 {R : Addr} {r md dmd : Addr} {em : Int} {tm : Tok} {nm : Nat} {dr : Addr} {n2 : Nat} {f1 f2 f3 f4 f5 f6 : Int} {g1 g2 g3 g4 g5 g6 u1 u2 : Tok} {v3 v4 v5 v6 : Value} {gl : Addr} {kG : Nat} {i0 i1 i2 i3 i4 i5 i6 : Int} {j0 j1 j2 j3 j4 j5 j6 : Tok} {Mf dMf Df rowf zf dzf lzf : Addr} {x1 x2 x3 e1 e2 : Int} {y1 y2 y3 t1 t2 : Tok} {nf k1f k2f nzf kzf : Nat} {zsf : List Value} {ns : List Int} {U0 U1 U2 U3 U4 : Value} {N0 N1 N2 N3 N4 : List Int} {kR : Nat} {o1 o2 o3 o4 : Obj} {c3 c4 : Option Value} {rest : List (Addr × Obj)}
    (B : Below A₀ h₀ [] h₀) (F : Fr h₀ L s.heap m) (X : (Mine.hd.heap_39 w.params).In h₀) (T : Top p loose mean mg mb h₀) (hd : A₀.depth ≤ 310) (hu : A₀.units ≤ 3100) (hh : A₀.handled = none) (hg : AllBare s.gens)
    (N : News h₀ L s.heap ((R, listOf (List.toArray [U0, U1, U2, U3, U4]) kR) :: (L+4, o4) :: (L+3, o3) :: (L+2, o2) :: (L+1, o1) :: rest)) (hE : PassesOwn (model PySem.Challenge.rw_ix0027_01.row.prog w) (A₀.deeper (lawEnv L)) (lawEnv L) E) (hm : m (Str.ofString "module") = some (.ref md)) (hmg : m (Str.ofString "given") = some (.ref gl)) (hmf : m (Str.ofString "found") = some (.ref Mf)) (d2 : o2.data = .cell (some (.ref R))) (d3 : o3.data = .cell c3) (d4 : o4.data = .cell c4) (hmod : ∀ h, Holds h rest → (h.get? md = some (instObj 983 dmd) ∧ h.get? dmd = some (modD r em tm nm)) ∧ h.get? r = some (instObj 392 dr) ∧ h.get? dr = some (ringD f1 f2 f3 f4 f5 f6 g1 g2 g3 g4 g5 g6 u1 u2 v3 v4 v5 v6 n2)) (hgv : ∀ h, Holds h rest → h.get? gl = some (listOf (List.toArray [.int i0 j0, .int i1 j1, .int i2 j2, .int i3 j3, .int i4 j4, .int i5 j5, .int i6 j6]) kG)) (hoff : OffC L rest) (hRo : @Ne Nat R (L+4) ∧ @Ne Nat R (L+3) ∧ @Ne Nat R (L+2) ∧ @Ne Nat R (L+1)) (hRr : ∀ p ∈ rest, @Ne Nat p.1 R) (hF1 : (Mf, instObj 886 dMf) ∈ rest) (hF2 : (dMf, matD md (.ref Df) false x1 x2 x3 y1 y2 y3 nf) ∈ rest) (hF3 : (Df, listOf #[.ref rowf] k1f) ∈ rest) (hF4 : (rowf, listOf #[.ref zf] k2f) ∈ rest) (hF5 : (zf, instObj 592 dzf) ∈ rest) (hF6 : (dzf, polyD r (.ref lzf) e1 e2 t1 t2 nzf) ∈ rest) (hF7 : (lzf, listOf zsf.toArray kzf) ∈ rest) (hiz : IntsAre zsf ns) (hnl : ns.length = 256) (hr0 : RowM rest r U0 N0) (hr1 : RowM rest r U1 N1) (hr2 : RowM rest r U2 N2) (hr3 : RowM rest r U3 N3) (hr4 : RowM rest r U4 N4) (hval : ∀ i, i < 256 → ns.getD i 0 = (fun i => (N0.getD i 0 * N2.getD i 0 + N1.getD i 0 * N3.getD i 0 - N0.getD i 0 * N4.getD i 0).fmod 8380417) i)
    {QF : Flow → Shared → Prop} (hQ : LawQ h₀ L s QF) :
    wpAny (model PySem.Challenge.rw_ix0027_01.row.prog w) (A₀.deeper (lawEnv L)) (execs lawRest7 (lawEnv L)) QF E s := by
  (run_tac sh0)
  obtain ⟨hp, gs, drw, tk, os⟩ := s
  (try dsimp only at *)
  have hh' : (A₀.deeper (lawEnv L)).handled = none := by first | exact hh | rfl
  unfold lawRest7 lawEnv lawScope lawPickS lawTl
  repeat ((fail_if_success (with_reducible refine stop_For' ?_)); (first | walk1 | dsimp only))
  (rename News _ _ _ _ => NN)
  obtain ⟨Du, rfl⟩ := name_head NN
  refine' forRC (c := L+3) (n := 256) (hE := hE) (hk := ?hk) (hx := ?hx) ?hh ?henv ?hc ?_
  case hh => assumption
  case henv => rfl
  case hk => rfl
  case hx => rfl
  case hc => rfl
  repeat ((fail_if_success (with_reducible refine stop_ForRC ?_)); (first | walk1 | dsimp only))
  (rename _ ∧ _ ∧ _ ∧ _ ∧ _ ∧ AllLt _ _ => l1)
  obtain ⟨q1, q2, q3, q4, q5, q6⟩ := l1
  replace q6 := kst_ltOf q6
  refine' ⟨_, _, _, _, o3, c3, h₀, _, (Du, listOf #[] 0) :: (R, listOf (List.toArray [U0, U1, U2, U3, U4]) kR) :: (L+4, o4) :: (L+2, o2) :: (L+1, o1) :: rest, DueJ L R Du md gl Mf (listOf (List.toArray [U0, U1, U2, U3, U4]) kR) o4 o2 o1 rest (fun i => (N0.getD i 0 * N2.getD i 0 + N1.getD i 0 * N3.getD i 0 - N0.getD i 0 * N4.getD i 0).fmod 8380417), rfl, ?qr, ?qs, ?qn, ?qo, ?qF, ?qN, ?qoff, ?J0, ?turn, ?done⟩
  case qF => k_asm
  case J0 => exact ⟨[], 0, hm, hmg, hmf, rfl, .nil, rfl, rfl⟩
  case qr => assumption
  case qs => decide
  case qn => rfl
  case qo => assumption
  case qN => exact (news_sub (by ((with_reducible rename News _ _ _ _ => nwst); exact nwst)) (fun p hp => by
    rcases List.mem_cons.mp hp with rfl | hp; · k_mem
    rcases List.mem_cons.mp hp with rfl | hp; · k_mem
    rcases List.mem_cons.mp hp with rfl | hp; · k_mem
    rcases List.mem_cons.mp hp with rfl | hp; · k_mem
    rcases List.mem_cons.mp hp with rfl | hp; · k_mem
    rcases List.mem_cons.mp hp with rfl | hp; · k_mem
    repeat (first | exact hp | apply List.mem_cons_of_mem)))
  case qoff =>
    intro p hp
    rcases List.mem_cons.mp hp with rfl | hp; · (show @Ne Nat _ _; (first | with_reducible assumption | exact Ne.symm (by with_reducible assumption) | exact Nat.ne_of_gt (by with_reducible assumption) | exact Nat.ne_of_lt (by with_reducible assumption) | omega))
    rcases List.mem_cons.mp hp with rfl | hp; · (show @Ne Nat _ _; (first | with_reducible assumption | exact Ne.symm (by with_reducible assumption) | exact Nat.ne_of_gt (by with_reducible assumption) | exact Nat.ne_of_lt (by with_reducible assumption) | omega))
    rcases List.mem_cons.mp hp with rfl | hp; · (show @Ne Nat _ _; (first | with_reducible assumption | exact Ne.symm (by with_reducible assumption) | exact Nat.ne_of_gt (by with_reducible assumption) | exact Nat.ne_of_lt (by with_reducible assumption) | omega))
    rcases List.mem_cons.mp hp with rfl | hp; · (show @Ne Nat _ _; (first | with_reducible assumption | exact Ne.symm (by with_reducible assumption) | exact Nat.ne_of_gt (by with_reducible assumption) | exact Nat.ne_of_lt (by with_reducible assumption) | omega))
    rcases List.mem_cons.mp hp with rfl | hp; · (show @Ne Nat _ _; (first | with_reducible assumption | exact Ne.symm (by with_reducible assumption) | exact Nat.ne_of_gt (by with_reducible assumption) | exact Nat.ne_of_lt (by with_reducible assumption) | omega))
    exact (hoff p hp).2.1
  case turn =>
    rintro i m₁ news₁ I oI o' h₂ tk₂ ti hi ⟨ys, kd, qm, qmg, qmf, qmd, hys, hyl, rfl⟩ hcI hne do' F₂ N₂
    have hne' := hne
    simp only [List.forall_mem_cons] at hne'
    obtain ⟨⟨x1I, x1c⟩, ⟨x2I, x2c⟩, ⟨x3I, x3c⟩, ⟨x4I, x4c⟩, ⟨x5I, x5c⟩, x6⟩ := hne'
    clear hne
    repeat ((fail_if_success (with_reducible refine stop_Comp ?_)); (first | walk1 | dsimp only))
    refine' mv_ListComp ?hh ?hclos ?hcell ?hkind ?hnames ?hx ?_
    case hh => assumption
    case hclos => with_unfolding_all rfl
    case hcell => decide
    case hkind => rfl
    case hnames => decide
    case hx => rfl
    repeat ((fail_if_success (with_reducible refine stop_MV ?_)); (first | walk1 | dsimp only))
    refine' MV.intro (fun v y => ∃ t, ∀ ms, RowM rest r v ms → y = .int (ms.getD i 0) t) ?hl ?hsz ?helt ?hQ
    case hl => exact News.isList (by k_asm) (by k_mem)
    case hsz => exact (by decide : 5 ≤ sizeLine)
    case helt =>
      intro C v s₃ m₃ E' hv hC hN ha hk₃
      have cF := Fr.keeps (by k_asm) hk₃
      have cN := News.grown (by k_asm) hk₃
      obtain ⟨nv, Hv⟩ : ∃ nv, RowM rest r v nv := by
        simp only [List.mem_cons, List.not_mem_nil, or_false] at hv
        rcases hv with rfl | rfl | rfl | rfl | rfl
        · exact ⟨_, hr0⟩
        · exact ⟨_, hr1⟩
        · exact ⟨_, hr2⟩
        · exact ⟨_, hr3⟩
        · exact ⟨_, hr4⟩
      have HH : Holds s₃.heap rest := (holds_of (rest := rest) (by ((with_reducible rename News _ _ _ _ => nwst); exact nwst)) (fun p hp => by repeat (first | exact hp | apply List.mem_cons_of_mem)))
      obtain ⟨Tv, lv, zv, dzv, lzv, kv, kzv, nzv, lsv, zsv, a1, a2, b1, b2, rfl, m1, m2, m3, m4, m5, iv1, iv2, hvl, hvs⟩ := id Hv
      have hTv := HH _ m1
      have hlv := HH _ m2
      dsimp only at hTv hlv
      obtain ⟨tv, hat⟩ := ints_at iv1 i (by omega)
      k_sweep
      repeat ((fail_if_success (with_reducible refine stop_tail ?_)); (first | walk1 | dsimp only))
      repeat ((fail_if_success (with_reducible refine stop_tail ?_)); (first | walk1 | dsimp only))
      refine' item_tupleT (l := [.ref lv, .ref zv]) (j := 0) ?hT ?h0 ?h1 ?h2 ?h3 ?_
      case hT => exact ⟨_, hTv, rfl, _, rfl⟩
      case h0 => decide
      case h1 => decide
      case h2 => rfl
      case h3 => rfl
      repeat ((fail_if_success (with_reducible refine stop_tail ?_)); (first | walk1 | dsimp only))
      refine item_any (vs := lsv) (k := (i : Int)) (v := .int (nv.getD i 0) tv) (isList_of hlv) ?_ ?_ ?_ ?_
      · omega
      · omega
      · simpa using hat
      exact ⟨⟨tv, fun ms Hm => by rw [RowM.one HH Hm Hv]⟩, _, _, rfl, fun _ _ e => e⟩
    case hQ =>
      intro D h'' tk'' ys' k'' hD0 hD hP hk''
      have cF := Fr.keeps (by k_asm) hk''
      have offN := news_ne (by k_asm) hD0
      (simp only [List.forall_mem_cons, List.not_mem_nil, false_implies, implies_true, and_true] at offN)
      have cN := news_add (by k_asm) (News.grown (by k_asm) hk'') hD0 hD
      obtain ⟨y0, y1, y2, y3, y4, rfl, ⟨s0, p0⟩, ⟨s1, p1⟩, ⟨s2, p2⟩, ⟨s3, p3⟩, ⟨s4, p4⟩⟩ := paired5 hP
      obtain rfl := p0 _ hr0
      obtain rfl := p1 _ hr1
      obtain rfl := p2 _ hr2
      obtain rfl := p3 _ hr3
      obtain rfl := p4 _ hr4
      obtain ⟨b0l, b0h⟩ := small_at hr0.sm.1 hr0.sm.2 i hi
      obtain ⟨b1l, b1h⟩ := small_at hr1.sm.1 hr1.sm.2 i hi
      obtain ⟨b2l, b2h⟩ := small_at hr2.sm.1 hr2.sm.2 i hi
      obtain ⟨b3l, b3h⟩ := small_at hr3.sm.1 hr3.sm.2 i hi
      obtain ⟨b4l, b4h⟩ := small_at hr4.sm.1 hr4.sm.2 i hi
      k_sweep
      refine' kun_list ?k1 ?k2 ?k3 ?k4 ?k5 ?k6 ?_
      case k1 => k_asm
      case k2 => k_asm
      case k3 => kun_lst
      case k4 => assumption
      case k5 => exact rfl
      case k6 => exact rfl
      intro h₅ F₅ N₅
      k_sweep
      repeat ((fail_if_success (with_reducible refine (stop_Name (x := Str.ofString "due")) ?_)); (first | walk1 | dsimp only))
      refine' nameX_L ?F (v := .ref Du) ?hdue ?_
      case F => k_asm
      case hdue => exact qmd
      repeat ((fail_if_success (with_reducible refine stop_builtin (f := "list.append") ?_)); (first | walk1 | dsimp only))
      have N₉ := (news_sub (news' := (Du, listOf (List.toArray ys) kd) :: (I, oI) :: (L+3, o') :: (R, _) :: (L+4, o4) :: (L+2, o2) :: (L+1, o1) :: rest) (by ((with_reducible rename News _ _ _ _ => nwst); exact nwst)) (fun p hp => by
        rcases List.mem_cons.mp hp with rfl | hp; · k_mem
        rcases List.mem_cons.mp hp with rfl | hp; · k_mem
        rcases List.mem_cons.mp hp with rfl | hp; · k_mem
        rcases List.mem_cons.mp hp with rfl | hp; · k_mem
        rcases List.mem_cons.mp hp with rfl | hp; · k_mem
        rcases List.mem_cons.mp hp with rfl | hp; · k_mem
        rcases List.mem_cons.mp hp with rfl | hp; · k_mem
        repeat (first | exact hp | apply List.mem_cons_of_mem)))
      refine' append_K ?apF N₉ (Upd.head (fun p hp => ?apn)) ?_ ?apz
      case apF => k_asm
      case apz => (rw [List.size_toArray, hyl]; exact Nat.le_trans (Nat.le_of_lt hi) (by decide))
      case apn =>
        rcases List.mem_cons.mp hp with rfl | hp; · (show @Ne Nat _ _; (first | with_reducible assumption | exact Ne.symm (by with_reducible assumption) | exact Nat.ne_of_gt (by with_reducible assumption) | exact Nat.ne_of_lt (by with_reducible assumption) | omega))
        rcases List.mem_cons.mp hp with rfl | hp; · (show @Ne Nat _ _; (first | with_reducible assumption | exact Ne.symm (by with_reducible assumption) | exact Nat.ne_of_gt (by with_reducible assumption) | exact Nat.ne_of_lt (by with_reducible assumption) | omega))
        rcases List.mem_cons.mp hp with rfl | hp; · (show @Ne Nat _ _; (first | with_reducible assumption | exact Ne.symm (by with_reducible assumption) | exact Nat.ne_of_gt (by with_reducible assumption) | exact Nat.ne_of_lt (by with_reducible assumption) | omega))
        rcases List.mem_cons.mp hp with rfl | hp; · (show @Ne Nat _ _; (first | with_reducible assumption | exact Ne.symm (by with_reducible assumption) | exact Nat.ne_of_gt (by with_reducible assumption) | exact Nat.ne_of_lt (by with_reducible assumption) | omega))
        rcases List.mem_cons.mp hp with rfl | hp; · (show @Ne Nat _ _; (first | with_reducible assumption | exact Ne.symm (by with_reducible assumption) | exact Nat.ne_of_gt (by with_reducible assumption) | exact Nat.ne_of_lt (by with_reducible assumption) | omega))
        rcases List.mem_cons.mp hp with rfl | hp; · (show @Ne Nat _ _; (first | with_reducible assumption | exact Ne.symm (by with_reducible assumption) | exact Nat.ne_of_gt (by with_reducible assumption) | exact Nat.ne_of_lt (by with_reducible assumption) | omega))
        have hx := q6 p hp
        show @Ne Nat _ _
        exact Nat.ne_of_lt hx
      intro h₆ F₆ N₆
      (try rw [List.push_toArray] at N₆)
      k_sweep
      repeat ((fail_if_success (with_reducible refine stop_TurnRC ?_)); (first | walk1 | dsimp only))
      refine' ⟨_, _, _, (Du, _) :: (R, _) :: (L+4, o4) :: (L+2, o2) :: (L+1, o1) :: rest, o', _, rfl, do', ?yF, ?yN, ?yn, ?yJ⟩
      case yF => k_asm
      case yN => exact (news_sub (by ((with_reducible rename News _ _ _ _ => nwst); exact nwst)) (fun p hp => by
        rcases List.mem_cons.mp hp with rfl | hp; · k_mem
        rcases List.mem_cons.mp hp with rfl | hp; · k_mem
        rcases List.mem_cons.mp hp with rfl | hp; · k_mem
        rcases List.mem_cons.mp hp with rfl | hp; · k_mem
        rcases List.mem_cons.mp hp with rfl | hp; · k_mem
        rcases List.mem_cons.mp hp with rfl | hp; · k_mem
        rcases List.mem_cons.mp hp with rfl | hp; · k_mem
        repeat (first | exact hp | apply List.mem_cons_of_mem)))
      case yn =>
        intro p hp
        rcases List.mem_cons.mp hp with rfl | hp; · exact ⟨x1I, x1c⟩
        rcases List.mem_cons.mp hp with rfl | hp; · exact ⟨x2I, x2c⟩
        rcases List.mem_cons.mp hp with rfl | hp; · exact ⟨x3I, x3c⟩
        rcases List.mem_cons.mp hp with rfl | hp; · exact ⟨x4I, x4c⟩
        rcases List.mem_cons.mp hp with rfl | hp; · exact ⟨x5I, x5c⟩
        exact x6 p hp
      case yJ => exact ⟨_, _, qm, qmg, qmf, qmd, by rw [List.range_succ, List.map_append]; exact ints_snoc hys, by rw [List.length_append, hyl]; rfl, rfl⟩
  case done =>
    rintro h₄ tk₄ m₁ news₁ o' v' ⟨ys, kd, qm, qmg, qmf, qmd, hys, hyl, rfl⟩ do' hne F₄ N₄
    have hns : (List.range 256).map (fun i => (N0.getD i 0 * N2.getD i 0 + N1.getD i 0 * N3.getD i 0 - N0.getD i 0 * N4.getD i 0).fmod 8380417) = ns := by
      apply List.ext_getElem
      · simp [hnl]
      · intro i h1 h2
        have h3 : i < 256 := by simpa using h1
        have h4 := hval i h3
        have h5 : ns.getD i 0 = ns[i] := by simp [List.getD, h2]
        rw [← h5, h4]
        simp
    rw [hns] at hys
    repeat ((fail_if_success (with_reducible refine stop_ex ?_)); (first | walk1 | dsimp only))
    refine' law9 (rest := (Du, listOf ys.toArray kd) :: rest) (vs := [U0, U1, U2, U3, U4]) (hE := hE) B F₄ X T hd hu hh hg (news_sub N₄ (fun p hp => by
      rcases List.mem_cons.mp hp with rfl | hp; · k_mem
      rcases List.mem_cons.mp hp with rfl | hp; · k_mem
      rcases List.mem_cons.mp hp with rfl | hp; · k_mem
      rcases List.mem_cons.mp hp with rfl | hp; · k_mem
      rcases List.mem_cons.mp hp with rfl | hp; · k_mem
      rcases List.mem_cons.mp hp with rfl | hp; · k_mem
      repeat (first | exact hp | apply List.mem_cons_of_mem))) qm qmg qmf qmd d2 d4 ?zr ?zm ?zg ?zo hRo ?zR rfl (.tail _ hF1) (.tail _ hF2) (.tail _ hF3) (.tail _ hF4) (.tail _ hF5) (.tail _ hF6) (.tail _ hF7) hiz (.head _) hys (fun h' tk gs m' a b t e => hQ h' tk gs m' a b t e)
    case zr =>
      intro h H
      have H' : Holds h rest := fun p hp => H p (.tail _ hp)
      refine ⟨⟨dr, n2, f1, f2, f3, f4, f5, f6, g1, g2, g3, g4, g5, g6, u1, u2, v3, v4, v5, v6, (hmod h H').2.1, (hmod h H').2.2⟩, fun u hu => ?_⟩
      simp only [List.mem_cons, List.not_mem_nil, or_false] at hu
      rcases hu with rfl | rfl | rfl | rfl | rfl
      · exact ⟨_, hr0.at H'⟩
      · exact ⟨_, hr1.at H'⟩
      · exact ⟨_, hr2.at H'⟩
      · exact ⟨_, hr3.at H'⟩
      · exact ⟨_, hr4.at H'⟩
    case zm => exact fun h H => hmod h (fun p hp => H p (.tail _ hp))
    case zg => exact fun h H => hgv h (fun p hp => H p (.tail _ hp))
    case zo =>
      intro p hp
      rcases List.mem_cons.mp hp with rfl | hp
      · refine ⟨?_, ?_, ?_, ?_⟩ <;> (show @Ne Nat _ _; omega)
      · exact hoff p hp
    case zR =>
      intro p hp
      rcases List.mem_cons.mp hp with rfl | hp
      · show @Ne Nat _ _; omega
      · exact hRr p hp
  (run_tac sh1)

end

theorem fresh_45 : True := by
  w_top off
  trivial
theorem news_tabM {g h h' : Heap} {L : Addr} {news news' : List (Addr × Obj)} {ps1 ps2 : Array Value} (N : News g L h news) (ht : TabsOk h) (k : KeptT h h') (h0 : ∀ P ∈ tabs, g.get? P = none) (hL : L ∉ tabs)
    (hs : ∀ p ∈ news', p ∈ news ∧ NotTab p.2) (e1 : h'.get? 742 = some (tabObj ps1)) (e2 : h'.get? 695 = some (tabObj ps2)) : News g L h' ((742, tabObj ps1) :: (695, tabObj ps2) :: news') := fun p hp => by
  rcases List.mem_cons.mp hp with rfl | hp
  · exact ⟨e1, fun q => hL (q ▸ List.mem_cons_self ..), h0 _ (List.mem_cons_self ..)⟩
  rcases List.mem_cons.mp hp with rfl | hp
  · exact ⟨e2, fun q => hL (q ▸ List.mem_cons_of_mem _ (List.mem_cons_self ..)), h0 _ (List.mem_cons_of_mem _ (List.mem_cons_self ..))⟩
  obtain ⟨q, nt⟩ := hs p hp
  exact ⟨k _ _ (off_nt ht (N p q).1 nt) (N p q).1, (N p q).2⟩
def LawQT (h₀ : Heap) (L : Addr) (s : Shared) (Q : Flow → Shared → Prop) : Prop := ∀ h' tk gs m', Fr h₀ L h' m' → AllBare gs → (∃ pa pb, h'.get? 742 = some (tabObj pa) ∧ h'.get? 695 = some (tabObj pb)) → ∀ t, t = Value.bool true → Q (.ret t) { s with heap := h', toks := tk, gens := gs }
theorem get_put {h : Heap} {a : Addr} {o : Obj} (lt : @LT.lt Nat instLTNat a h.objs.size) (ho : o.data ≠ .freed) : (h.update a fun _ => o).get? a = some o := by
  (run_tac sh0)
  obtain ⟨objs, l⟩ := h
  have e : (objs.modify a fun _ => o)[a]? = some o := by
    have lt' : a < objs.size := lt
    rw [Array.getElem?_modify, if_pos rfl, Array.getElem?_eq_getElem lt']
    rfl
  show (match (objs.modify a fun _ => o)[a]? with | some ⟨_, _, .freed, _⟩ => none | x => x) = some o
  rw [e]
  obtain ⟨c, d, dt, sl⟩ := o
  cases dt <;> first | rfl | exact absurd rfl ho
  (run_tac sh1)
theorem rebase {h₀ h : Heap} {L : Addr} {m : Str → Option Value} {news news' : List (Addr × Obj)} {psA psB : Array Value} {A₀ : Around} {K : Frag} {p : Program} {loose : List Str} {mean : ExcName → Option Value} {mg mb : Str → Option Value}
    (hz : @LT.lt Nat instLTNat 742 h₀.objs.size) (h0 : ∀ P ∈ tabs, h₀.get? P = none) (B : Below A₀ h₀ [] h₀) (X : K.In h₀) (T : Top p loose mean mg mb h₀) (F : Fr h₀ L h m) (N : News h₀ L h news) (ht : TabsOk h)
    (m1 : (742, tabObj psA) ∈ news) (m2 : (695, tabObj psB) ∈ news) (hs : ∀ p ∈ news', p ∈ news ∧ NotTab p.2) :
    ∃ g, Below A₀ g [] g ∧ K.In g ∧ Top p loose mean mg mb g ∧ Fr g L h m ∧ News g L h news' ∧
      (∀ h' m', Fr g L h' m' → Fr h₀ L h' m' ∧ ∃ pa pb, h'.get? 742 = some (tabObj pa) ∧ h'.get? 695 = some (tabObj pb)) := by
  (run_tac sh0)
  generalize hg1 : h₀.update 742 (fun _ => tabObj psA) = g1
  generalize hg : g1.update 695 (fun _ => tabObj psB) = g
  have s1 : g1.objs.size = h₀.objs.size := by rw [← hg1]; obtain ⟨objs, l⟩ := h₀; show (objs.modify _ _).size = objs.size; simp
  have s2 : g.objs.size = h₀.objs.size := by rw [← s1, ← hg]; obtain ⟨objs, l⟩ := g1; show (objs.modify _ _).size = objs.size; simp
  have e1 : g1.get? 742 = some (tabObj psA) := hg1 ▸ get_put hz (fun q => nomatch q)
  have e2 : g.get? 695 = some (tabObj psB) := hg ▸ get_put (by rw [s1]; exact Nat.lt_trans (by decide) hz) (fun q => nomatch q)
  have e3 : g.get? 742 = some (tabObj psA) := by rw [← hg, Heap.get?_update_ne _ _ _ _ (by decide)]; exact e1
  have ne : ∀ b, b ∉ tabs → g.get? b = h₀.get? b := fun b hb => by
    have b1 : b ≠ 742 := fun q => hb (q ▸ List.mem_cons_self ..)
    have b2 : b ≠ 695 := fun q => hb (q ▸ List.mem_cons_of_mem _ (List.mem_cons_self ..))
    rw [← hg, Heap.get?_update_ne _ _ _ _ b2, ← hg1, Heap.get?_update_ne _ _ _ _ b1]
  have k : ∀ b o, h₀.get? b = some o → g.get? b = some o := fun b o e => by
    rw [ne b (fun q => by rw [h0 b q] at e; cases e)]; exact e
  have up : ∀ b o, g.get? b = some o → h.get? b = some o := fun b o e => by
    by_cases hb : b ∈ tabs
    · rcases List.mem_cons.mp hb with rfl | hb
      · rw [e3] at e; cases e; exact (N _ m1).1
      · rw [List.mem_singleton.mp hb] at e ⊢
        rw [e2] at e; cases e; exact (N _ m2).1
    · rw [ne b hb] at e; exact F.keep b o e
  refine ⟨g, ⟨B.stack, fun _ _ e => e, trivial⟩, X.keeps k, T.keeps k, ⟨F.ns, up, by rw [s2]; exact F.above⟩, fun p hp => ?_, fun h' m' F' => ⟨⟨F'.ns, fun b o e => F'.keep b o (k b o e), by rw [← s2]; exact F'.above⟩, psA, psB, F'.keep _ _ e3, F'.keep _ _ e2⟩⟩
  obtain ⟨q, nt⟩ := hs p hp
  exact ⟨(N p q).1, (N p q).2.1, by rw [ne _ (off_nt ht (N p q).1 nt)]; exact (N p q).2.2⟩
  (run_tac sh1)
/-- an element in the transformed form, its objects among those of a ledger -/
inductive PolyM (rest : List (Addr × Obj)) (r z : Addr) (ns : List Int) : Prop
  | mk (dz lz : Addr) (e1 e2 : Int) (t1 t2 : Tok) (n k : Nat) (vs : List Value) (a : (z, instObj 592 dz) ∈ rest) (b : (dz, polyD r (.ref lz) e1 e2 t1 t2 n) ∈ rest) (c : (lz, listOf vs.toArray k) ∈ rest) (d : IntsAre vs ns) (e : ns.length = 256) : PolyM rest r z ns
theorem PolyM.at {rest : List (Addr × Obj)} {r z : Addr} {ns : List Int} {h : Heap} (H : Holds h rest) : PolyM rest r z ns → PolyAt h r z ns
  | ⟨dz, lz, e1, e2, t1, t2, n, k, vs, a, b, c, i, l⟩ => ⟨lz, dz, e1, e2, t1, t2, n, vs, k, H _ a, H _ b, H _ c, i, l⟩
theorem PolyM.sub {rest rest' : List (Addr × Obj)} {r z : Addr} {ns : List Int} (k : ∀ p ∈ rest, p ∈ rest') : PolyM rest r z ns → PolyM rest' r z ns
  | ⟨dz, lz, e1, e2, t1, t2, n, k', vs, a, b, c, i, l⟩ => ⟨dz, lz, e1, e2, t1, t2, n, k', vs, k _ a, k _ b, k _ c, i, l⟩
theorem off5 {g h : Heap} {L R a : Addr} {news : List (Addr × Obj)} {oR o4 o3 o2 o1 : Obj} (N : News g L h news) (e : h.get? a = none) (hR : (R, oR) ∈ news) (h4 : (L+4, o4) ∈ news) (h3 : (L+3, o3) ∈ news) (h2 : (L+2, o2) ∈ news) (h1 : (L+1, o1) ∈ news) :
    (@Ne Nat a (L+4) ∧ @Ne Nat a (L+3) ∧ @Ne Nat a (L+2) ∧ @Ne Nat a (L+1)) ∧ @Ne Nat a R :=
  have q := news_ne N e
  ⟨⟨Ne.symm (q _ h4), Ne.symm (q _ h3), Ne.symm (q _ h2), Ne.symm (q _ h1)⟩, Ne.symm (q _ hR)⟩
theorem getD_zip (f : Int → Int → Int) : ∀ (xs ys : List Int) (i : Nat), i < xs.length → i < ys.length → (List.zipWith f xs ys).getD i 0 = f (xs.getD i 0) (ys.getD i 0)
  | [], _, _, h, _ => absurd h (Nat.not_lt_zero _)
  | _ :: _, [], _, _, h => absurd h (Nat.not_lt_zero _)
  | x :: xs, y :: ys, 0, _, _ => rfl
  | x :: xs, y :: ys, i + 1, h, h' => getD_zip f xs ys i (Nat.lt_of_succ_lt_succ h) (Nat.lt_of_succ_lt_succ h')
theorem due_int (x y z : Int) : (((x.fmod 8380417 + y.fmod 8380417).fmod 8380417) - z.fmod 8380417).fmod 8380417 = (x + y - z).fmod 8380417 := by
  simp only [Int.fmod_eq_emod_of_nonneg _ (by decide : (0 : Int) ≤ 8380417)]
  omega
theorem due_at {N0 N1 N2 N3 N4 : List Int} (h0 : N0.length = 256) (h1 : N1.length = 256) (h2 : N2.length = 256) (h3 : N3.length = 256) (h4 : N4.length = 256) (i : Nat) (hi : i < 256) :
    (List.zipWith (fun a b => (a - b).fmod 8380417) (List.zipWith (fun a b => (a + b).fmod 8380417) (List.zipWith (fun a b => (a * b).fmod 8380417) N0 N2) (List.zipWith (fun a b => (a * b).fmod 8380417) N1 N3)) (List.zipWith (fun a b => (a * b).fmod 8380417) N4 N0)).getD i 0 =
      (N0.getD i 0 * N2.getD i 0 + N1.getD i 0 * N3.getD i 0 - N0.getD i 0 * N4.getD i 0).fmod 8380417 := by
  rw [getD_zip _ _ _ i (by simp only [List.length_zipWith]; omega) (by simp only [List.length_zipWith]; omega), getD_zip _ _ _ i (by simp only [List.length_zipWith]; omega) (by simp only [List.length_zipWith]; omega),
    getD_zip _ _ _ i (by omega) (by omega), getD_zip _ _ _ i (by omega) (by omega), getD_zip _ _ _ i (by omega) (by omega), due_int, Int.mul_comm (N4.getD i 0)]
section
variable {w : World} {A₀ A : Around} {base h₀ : Heap} {outer : List Env} {env : Env} {L : Addr} {m : Str → Option Value} {p : Program} {loose : List Str} {mean : ExcName → Option Value} {mg mb : Str → Option Value}
    {s : Shared} {Q : Value → Shared → Prop} {E : Value → Shared → Prop}
theorem law6 {R : Addr} {r md dmd : Addr} {em : Int} {tm : Tok} {nm : Nat} {dr : Addr} {n2 : Nat} {f1 f2 f3 f4 f5 f6 : Int} {g1 g2 g3 g4 g5 g6 u1 u2 : Tok} {v3 v4 v5 v6 : Value} {gl : Addr} {kG : Nat} {i0 i1 i2 i3 i4 i5 i6 : Int} {j0 j1 j2 j3 j4 j5 j6 : Tok} {U0 U1 U2 U3 U4 : Value} {N0 N1 N2 N3 N4 : List Int} {ps1 ps2 : Array Value} {kR : Nat} {o1 o2 o3 o4 : Obj} {c1 c3 c4 : Option Value} {rest : List (Addr × Obj)} {Ma dMa Da rowa Ve dVe Dv rowv p0 p1 p2 p3 : Addr} {a1 a2 a3 a4 a5 a6 : Int} {b1 b2 b3 b4 b5 b6 : Tok} {na nv ka1 ka2 kv1 kv2 : Nat}
    (B : Below A₀ h₀ [] h₀) (F : Fr h₀ L s.heap m) (X : (Mine.hd.heap_39 w.params).In h₀) (T : Top p loose mean mg mb h₀) (hd : A₀.depth ≤ 310) (hu : A₀.units ≤ 3100) (hh : A₀.handled = none) (hg : AllBare s.gens)
    (N : News h₀ L s.heap ((742, tabObj ps1) :: (695, tabObj ps2) :: (R, listOf (List.toArray [U0, U1, U2, U3, U4]) kR) :: (L+4, o4) :: (L+3, o3) :: (L+2, o2) :: (L+1, o1) :: rest)) (hE : PassesOwn (model PySem.Challenge.rw_ix0027_01.row.prog w) (A₀.deeper (lawEnv L)) (lawEnv L) E) (hm : m (Str.ofString "module") = some (.ref md)) (hmg : m (Str.ofString "given") = some (.ref gl)) (d1 : o1.data = .cell c1) (d2 : o2.data = .cell (some (.ref R))) (d3 : o3.data = .cell c3) (d4 : o4.data = .cell c4) (hmod : ∀ h, Holds h rest → (h.get? md = some (instObj 983 dmd) ∧ h.get? dmd = some (modD r em tm nm)) ∧ h.get? r = some (instObj 392 dr) ∧ h.get? dr = some (ringD f1 f2 f3 f4 f5 f6 g1 g2 g3 g4 g5 g6 u1 u2 v3 v4 v5 v6 n2)) (hgv : ∀ h, Holds h rest → h.get? gl = some (listOf (List.toArray [.int i0 j0, .int i1 j1, .int i2 j2, .int i3 j3, .int i4 j4, .int i5 j5, .int i6 j6]) kG)) (hoff : OffC L rest) (hRo : @Ne Nat R (L+4) ∧ @Ne Nat R (L+3) ∧ @Ne Nat R (L+2) ∧ @Ne Nat R (L+1)) (hRr : ∀ p ∈ rest, @Ne Nat p.1 R) (h0 : ∀ P ∈ tabs, h₀.get? P = none) (hLt : L ∉ tabs) (hz7 : @LT.lt Nat instLTNat 742 h₀.objs.size) (r1 : TriplesOk ps1.toList) (r2 : TriplesOk ps2.toList) (hNT : ∀ p ∈ rest, NotTab p.2) (hma : m (Str.ofString "matrix") = some (.ref Ma)) (hve : m (Str.ofString "vector") = some (.ref Ve)) (hA1 : (Ma, instObj 886 dMa) ∈ rest) (hA2 : (dMa, matD md (.ref Da) false a1 a2 a3 b1 b2 b3 na) ∈ rest) (hA3 : (Da, listOf #[.ref rowa] ka1) ∈ rest) (hA4 : (rowa, listOf #[.ref p0, .ref p1] ka2) ∈ rest) (hV1 : (Ve, instObj 907 dVe) ∈ rest) (hV2 : (dVe, matD md (.ref Dv) true a4 a5 a6 b4 b5 b6 nv) ∈ rest) (hV3 : (Dv, listOf #[.ref rowv] kv1) ∈ rest) (hV4 : (rowv, listOf #[.ref p2, .ref p3] kv2) ∈ rest) (hp0 : PolyM rest r p0 N0) (hp1 : PolyM rest r p1 N1) (hp2 : PolyM rest r p2 N2) (hp3 : PolyM rest r p3 N3) (hr0 : RowM rest r U0 N0) (hr1 : RowM rest r U1 N1) (hr2 : RowM rest r U2 N2) (hr3 : RowM rest r U3 N3) (hr4 : RowM rest r U4 N4)
    {QF : Flow → Shared → Prop} (hQ : LawQT h₀ L s QF) :
    wpAny (model PySem.Challenge.rw_ix0027_01.row.prog w) (A₀.deeper (lawEnv L)) (execs lawRest6 (lawEnv L)) QF E s := by
  (run_tac sh0)
  obtain ⟨hp, gs, drw, tk, os⟩ := s
  (try dsimp only at *)
  have hh' : (A₀.deeper (lawEnv L)).handled = none := by first | exact hh | rfl
  unfold lawRest6 lawEnv lawScope lawPickS lawTl
  obtain ⟨T0, l0, zz0, dzz0, lzz0, kk0, kkz0, nnz0, lls0, zzs0, ee0, ff0, tt0, uu0, rfl, hT0, hl0, hzz0, hdzz0, hlzz0, hi0, hiz0, hnl0, hsm0⟩ := id hr0
  obtain ⟨T4, l4, zz4, dzz4, lzz4, kk4, kkz4, nnz4, lls4, zzs4, ee4, ff4, tt4, uu4, rfl, hT4, hl4, hzz4, hdzz4, hlzz4, hi4, hiz4, hnl4, hsm4⟩ := id hr4
  repeat ((fail_if_success (with_reducible refine (stop_Name (x := Str.ofString "matrix")) ?_)); (first | walk1 | dsimp only))
  refine' nameX_L ?F hma ?_
  case F => k_asm
  repeat ((fail_if_success (with_reducible refine (stop_Name (x := Str.ofString "vector")) ?_)); (first | walk1 | dsimp only))
  refine' nameX_L ?F hve ?_
  case F => k_asm
  repeat ((fail_if_success (with_reducible refine stop_bin2 (op := .MatMult) ?_)); (first | walk1 | dsimp only))
  have hMa := ((holds_of (rest := rest) (by ((with_reducible rename News _ _ _ _ => nwst); exact nwst)) (fun p hp => by repeat (first | exact hp | apply List.mem_cons_of_mem))) _ hA1)
  (try dsimp only at hMa)
  have hdMa := ((holds_of (rest := rest) (by ((with_reducible rename News _ _ _ _ => nwst); exact nwst)) (fun p hp => by repeat (first | exact hp | apply List.mem_cons_of_mem))) _ hA2)
  (try dsimp only at hdMa)
  have hVe := ((holds_of (rest := rest) (by ((with_reducible rename News _ _ _ _ => nwst); exact nwst)) (fun p hp => by repeat (first | exact hp | apply List.mem_cons_of_mem))) _ hV1)
  (try dsimp only at hVe)
  have hdVe := ((holds_of (rest := rest) (by ((with_reducible rename News _ _ _ _ => nwst); exact nwst)) (fun p hp => by repeat (first | exact hp | apply List.mem_cons_of_mem))) _ hV2)
  (try dsimp only at hdVe)
  refine' binopSub_K (op := .MatMult) (f := 698) ?F ?N ?X ?I ?I2 ?hne ?hh ?hc ?hc2 ?hs ?hf ?hr ?hs2 ?hr2 ?hsub ?hrd ?h1 ?hn ?hl ?hl' ?_
  case F => k_asm
  case N => ((with_reducible rename News _ _ _ _ => nwst); exact nwst)
  case X => assumption
  case I => exact InstAt.mk (od := some _) hMa rfl rfl hdMa
  case I2 => exact InstAt.mk (od := some _) hVe rfl rfl hdVe
  case hne => decide
  case hh => assumption
  case hc => k_is
  case hc2 => k_is
  case hs => k_is
  case hf => k_is
  case hr => k_is
  case hs2 => k_is
  case hr2 => k_is
  case hsub => k_is
  case hrd => k_is
  case h1 => k_is
  case hn => exact fun h X => Looks.of_peek X (by rfl)
  case hl => decide
  case hl' => decide
  intro h₅ F₅ N₅
  k_sweep
  repeat ((fail_if_success (with_reducible refine stop_call (f := 698) ?_)); (first | walk1 | dsimp only))
  refine' c_matmul ?B ?F ?X ?T (frames_in ?B) ?hf ?hk ?hd ?hu ?hh ?h0 ?ht ?hg ?q0 ?q1 ?q2 ?q3 ?q4 ?q5 ?q6 ?q7 ?q8 ?q9 ?q10 ?q11 ?q12 ?q13 ?q14 ?q15 ?q16 ?ret
  case B => k_asm
  case F => k_asm
  case X => k_asm
  case T => k_asm
  case hf => rfl
  case hk => rfl
  case hd => k_room
  case hu => k_room
  case hh => first | assumption | rfl
  case h0 => assumption
  case ht => exact (TabsOk.of_news (by k_asm) (by k_mem) (by k_mem) (by assumption) (by assumption))
  case hg => assumption
  case q0 => exact (hmod _ (holds_of (rest := rest) (by ((with_reducible rename News _ _ _ _ => nwst); exact nwst)) (fun p hp => by repeat (first | exact hp | apply List.mem_cons_of_mem)))).1.1
  case q1 => exact (hmod _ (holds_of (rest := rest) (by ((with_reducible rename News _ _ _ _ => nwst); exact nwst)) (fun p hp => by repeat (first | exact hp | apply List.mem_cons_of_mem)))).1.2
  case q2 => exact ⟨dr, n2, f1, f2, f3, f4, f5, f6, g1, g2, g3, g4, g5, g6, u1, u2, v3, v4, v5, v6, (hmod _ (holds_of (rest := rest) (by ((with_reducible rename News _ _ _ _ => nwst); exact nwst)) (fun p hp => by repeat (first | exact hp | apply List.mem_cons_of_mem)))).2.1, (hmod _ (holds_of (rest := rest) (by ((with_reducible rename News _ _ _ _ => nwst); exact nwst)) (fun p hp => by repeat (first | exact hp | apply List.mem_cons_of_mem)))).2.2⟩
  case q3 => exact ((holds_of (rest := rest) (by ((with_reducible rename News _ _ _ _ => nwst); exact nwst)) (fun p hp => by repeat (first | exact hp | apply List.mem_cons_of_mem))) _ hA1)
  case q4 => exact ((holds_of (rest := rest) (by ((with_reducible rename News _ _ _ _ => nwst); exact nwst)) (fun p hp => by repeat (first | exact hp | apply List.mem_cons_of_mem))) _ hA2)
  case q5 => exact ((holds_of (rest := rest) (by ((with_reducible rename News _ _ _ _ => nwst); exact nwst)) (fun p hp => by repeat (first | exact hp | apply List.mem_cons_of_mem))) _ hA3)
  case q6 => exact ((holds_of (rest := rest) (by ((with_reducible rename News _ _ _ _ => nwst); exact nwst)) (fun p hp => by repeat (first | exact hp | apply List.mem_cons_of_mem))) _ hA4)
  case q7 => exact ((holds_of (rest := rest) (by ((with_reducible rename News _ _ _ _ => nwst); exact nwst)) (fun p hp => by repeat (first | exact hp | apply List.mem_cons_of_mem))) _ hV1)
  case q8 => exact ((holds_of (rest := rest) (by ((with_reducible rename News _ _ _ _ => nwst); exact nwst)) (fun p hp => by repeat (first | exact hp | apply List.mem_cons_of_mem))) _ hV2)
  case q9 => exact ((holds_of (rest := rest) (by ((with_reducible rename News _ _ _ _ => nwst); exact nwst)) (fun p hp => by repeat (first | exact hp | apply List.mem_cons_of_mem))) _ hV3)
  case q10 => exact ((holds_of (rest := rest) (by ((with_reducible rename News _ _ _ _ => nwst); exact nwst)) (fun p hp => by repeat (first | exact hp | apply List.mem_cons_of_mem))) _ hV4)
  case q11 => exact hp0.at (holds_of (rest := rest) (by ((with_reducible rename News _ _ _ _ => nwst); exact nwst)) (fun p hp => by repeat (first | exact hp | apply List.mem_cons_of_mem)))
  case q12 => exact hp1.at (holds_of (rest := rest) (by ((with_reducible rename News _ _ _ _ => nwst); exact nwst)) (fun p hp => by repeat (first | exact hp | apply List.mem_cons_of_mem)))
  case q13 => exact hp2.at (holds_of (rest := rest) (by ((with_reducible rename News _ _ _ _ => nwst); exact nwst)) (fun p hp => by repeat (first | exact hp | apply List.mem_cons_of_mem)))
  case q14 => exact hp3.at (holds_of (rest := rest) (by ((with_reducible rename News _ _ _ _ => nwst); exact nwst)) (fun p hp => by repeat (first | exact hp | apply List.mem_cons_of_mem)))
  case q15 => exact hsm0
  case q16 => exact hr1.sm.1
  case ret =>
    intro v₄ h₄ tk₄ gs₄ hk₄ ht₄ hg₄ post₄
    obtain ⟨Mp, dMp, Dp, rowp, zp, gap, gbp, gcp, qap, qbp, qcp, wap, wbp, wcp, rfl, hM0, hdM0, hD0, hrow0, hMp, hdMp, hDp, hrowp, HZ⟩ := post₄
    obtain ⟨dzp, lzp, eap, ebp, tap, tbp, nnp, zsp, kzp, hz0, hdz0, hlz0, hzp, hdzp, hlzp, hizp, hnzp⟩ := HZ
    obtain ⟨psA, eA, rA⟩ := ht₄ 742 (List.mem_cons_self ..)
    obtain ⟨psB, eB, rB⟩ := ht₄ 695 (List.mem_cons_of_mem _ (List.mem_cons_self ..))
    have cF₄ := fr_tab (by k_asm) hk₄ (by assumption) (by assumption)
    have cN₄ := news_tabM (news' := (R, listOf (List.toArray [.ref T0, U1, U2, U3, .ref T4]) kR) :: (L+4, o4) :: (L+3, o3) :: (L+2, o2) :: (L+1, o1) :: rest) (by ((with_reducible rename News _ _ _ _ => nwst); exact nwst)) (TabsOk.of_news (by k_asm) (by k_mem) (by k_mem) (by assumption) (by assumption)) hk₄ (by assumption) (by assumption) (fun p hp => by
      rcases List.mem_cons.mp hp with rfl | hp; · exact ⟨by k_mem, (by first | exact nt_cls (by assumption) | exact nt_cell (by assumption) | exact nt_cls (fun q => nomatch q))⟩
      rcases List.mem_cons.mp hp with rfl | hp; · exact ⟨by k_mem, (by first | exact nt_cls (by assumption) | exact nt_cell (by assumption) | exact nt_cls (fun q => nomatch q))⟩
      rcases List.mem_cons.mp hp with rfl | hp; · exact ⟨by k_mem, (by first | exact nt_cls (by assumption) | exact nt_cell (by assumption) | exact nt_cls (fun q => nomatch q))⟩
      rcases List.mem_cons.mp hp with rfl | hp; · exact ⟨by k_mem, (by first | exact nt_cls (by assumption) | exact nt_cell (by assumption) | exact nt_cls (fun q => nomatch q))⟩
      rcases List.mem_cons.mp hp with rfl | hp; · exact ⟨by k_mem, (by first | exact nt_cls (by assumption) | exact nt_cell (by assumption) | exact nt_cls (fun q => nomatch q))⟩
      exact ⟨by repeat (first | exact hp | apply List.mem_cons_of_mem), hNT p hp⟩) eA eB
    replace cN₄ := news_add (by k_asm) cN₄ hlz0 hlzp
    replace cN₄ := news_add (by k_asm) cN₄ hdz0 hdzp
    replace cN₄ := news_add (by k_asm) cN₄ hz0 hzp
    replace cN₄ := news_add (by k_asm) cN₄ hrow0 hrowp
    replace cN₄ := news_add (by k_asm) cN₄ hD0 hDp
    replace cN₄ := news_add (by k_asm) cN₄ hdM0 hdMp
    replace cN₄ := news_add (by k_asm) cN₄ hM0 hMp
    k_sweep
    (try dsimp only [PySem.W.CmpBack])
    repeat ((fail_if_success (with_reducible refine (stop_Name (x := Str.ofString "module")) ?_)); (first | walk1 | dsimp only))
    refine' nameX_L ?F hm ?_
    case F => k_asm
    obtain ⟨⟨hmd, hdmd⟩, hr, hdr⟩ := hmod _ (holds_of (rest := rest) (by ((with_reducible rename News _ _ _ _ => nwst); exact nwst)) (fun p hp => by repeat (first | exact hp | apply List.mem_cons_of_mem)))
    repeat ((fail_if_success (with_reducible refine stop_tail ?_)); (first | walk1 | dsimp only))
    refine item_any (vs := [.ref T0, U1, U2, U3, .ref T4]) (k := 0) (v := .ref T0) (News.isList (by ((with_reducible rename News _ _ _ _ => nwst); exact nwst)) (by k_mem)) (by decide) (by decide) rfl ?_
    have hTT0 := ((holds_of (rest := rest) (by ((with_reducible rename News _ _ _ _ => nwst); exact nwst)) (fun p hp => by repeat (first | exact hp | apply List.mem_cons_of_mem))) _ hT0)
    (try dsimp only at hTT0)
    repeat ((fail_if_success (with_reducible refine stop_tail ?_)); (first | walk1 | dsimp only))
    refine' item_tupleT (l := [.ref l0, .ref zz0]) (j := 1) ?hT ?h0 ?h1 ?h2 ?h3 ?_
    case hT => exact ⟨_, hTT0, rfl, _, rfl⟩
    case h0 => decide
    case h1 => decide
    case h2 => rfl
    case h3 => rfl
    repeat ((fail_if_success (with_reducible refine stop_call (f := 938) ?_)); (first | walk1 | dsimp only))
    refine' c_vector ?B ?F ?X ?T (frames_in ?B) ?hf ?hk ?hd ?hu ?hh ?q0 ?q1 ?ret
    case B => k_asm
    case F => k_asm
    case X => k_asm
    case T => k_asm
    case hf => rfl
    case hk => rfl
    case hd => k_room
    case hu => k_room
    case hh => first | assumption | rfl
    case q0 => exact News.get (o := listOf (List.toArray [Value.ref zz0]) _) (by ((with_reducible rename News _ _ _ _ => nwst); exact nwst)) (by k_mem)
    case q1 => exact (by decide : 1 ≤ 2)
    case ret =>
      intro v₄ h₄ tk₄ hk₄ post₄
      obtain ⟨M₂, dM₂, D₂, x1, x2, x3, y1, y2, y3, n₂, k₂, rfl, hM0, hdM0, hD0, hM₂, hdM₂, hD₂⟩ := post₄
      have cF₄ := Fr.keeps (by k_asm) hk₄
      have cN₄ := News.grown (by k_asm) hk₄
      replace cN₄ := news_add (by k_asm) cN₄ hD0 hD₂
      replace cN₄ := news_add (by k_asm) cN₄ hdM0 hdM₂
      replace cN₄ := news_add (by k_asm) cN₄ hM0 hM₂
      k_sweep
      repeat ((fail_if_success (with_reducible refine stop_tail ?_)); (first | walk1 | dsimp only))
      refine item_any (vs := [.ref T0, U1, U2, U3, .ref T4]) (k := 4) (v := .ref T4) (News.isList (by ((with_reducible rename News _ _ _ _ => nwst); exact nwst)) (by k_mem)) (by decide) (by decide) rfl ?_
      have hTT4 := ((holds_of (rest := rest) (by ((with_reducible rename News _ _ _ _ => nwst); exact nwst)) (fun p hp => by repeat (first | exact hp | apply List.mem_cons_of_mem))) _ hT4)
      (try dsimp only at hTT4)
      repeat ((fail_if_success (with_reducible refine stop_tail ?_)); (first | walk1 | dsimp only))
      refine' item_tupleT (l := [.ref l4, .ref zz4]) (j := 1) ?hT ?h0 ?h1 ?h2 ?h3 ?_
      case hT => exact ⟨_, hTT4, rfl, _, rfl⟩
      case h0 => decide
      case h1 => decide
      case h2 => rfl
      case h3 => rfl
      repeat ((fail_if_success (with_reducible refine stop_call (f := 703) ?_)); (first | walk1 | dsimp only))
      refine' c_scale ?B ?F ?X ?T (frames_in ?B) ?hf ?hk ?hd ?hu ?hh ?h0 ?ht ?hg ?q0 ?q1 ?q2 ?q3 ?q4 ?q5 ?q6 ?q7 ?q8 ?q9 ?ret
      case B => k_asm
      case F => k_asm
      case X => k_asm
      case T => k_asm
      case hf => rfl
      case hk => rfl
      case hd => k_room
      case hu => k_room
      case hh => first | assumption | rfl
      case h0 => assumption
      case ht => exact (TabsOk.of_news (by k_asm) (by k_mem) (by k_mem) (by assumption) (by assumption))
      case hg => assumption
      case q0 => exact (hmod _ (holds_of (rest := rest) (by ((with_reducible rename News _ _ _ _ => nwst); exact nwst)) (fun p hp => by repeat (first | exact hp | apply List.mem_cons_of_mem)))).1.1
      case q1 => exact (hmod _ (holds_of (rest := rest) (by ((with_reducible rename News _ _ _ _ => nwst); exact nwst)) (fun p hp => by repeat (first | exact hp | apply List.mem_cons_of_mem)))).1.2
      case q2 => exact ⟨dr, n2, f1, f2, f3, f4, f5, f6, g1, g2, g3, g4, g5, g6, u1, u2, v3, v4, v5, v6, (hmod _ (holds_of (rest := rest) (by ((with_reducible rename News _ _ _ _ => nwst); exact nwst)) (fun p hp => by repeat (first | exact hp | apply List.mem_cons_of_mem)))).2.1, (hmod _ (holds_of (rest := rest) (by ((with_reducible rename News _ _ _ _ => nwst); exact nwst)) (fun p hp => by repeat (first | exact hp | apply List.mem_cons_of_mem)))).2.2⟩
      case q3 => exact News.get (by ((with_reducible rename News _ _ _ _ => nwst); exact nwst)) (by k_mem)
      case q4 => exact News.get (by ((with_reducible rename News _ _ _ _ => nwst); exact nwst)) (by k_mem)
      case q5 => exact News.get (by ((with_reducible rename News _ _ _ _ => nwst); exact nwst)) (by k_mem)
      case q6 => exact News.get (o := listOf #[.ref zz0] _) (by ((with_reducible rename News _ _ _ _ => nwst); exact nwst)) (by k_mem)
      case q7 => exact (PolyM.at (holds_of (rest := rest) (by ((with_reducible rename News _ _ _ _ => nwst); exact nwst)) (fun p hp => by repeat (first | exact hp | apply List.mem_cons_of_mem))) ⟨dzz0, lzz0, _, _, _, _, _, _, _, hzz0, hdzz0, hlzz0, hiz0, hnl0⟩)
      case q8 => exact (PolyM.at (holds_of (rest := rest) (by ((with_reducible rename News _ _ _ _ => nwst); exact nwst)) (fun p hp => by repeat (first | exact hp | apply List.mem_cons_of_mem))) ⟨dzz4, lzz4, _, _, _, _, _, _, _, hzz4, hdzz4, hlzz4, hiz4, hnl4⟩)
      case q9 => exact hsm4
      case ret =>
        intro v₄ h₄ tk₄ gs₄ hk₄ ht₄ hg₄ post₄
        obtain ⟨Ms, dMs, Ds, rows, zs, gas, gbs, gcs, qas, qbs, qcs, was, wbs, wcs, rfl, hM0, hdM0, hD0, hrow0, hMs, hdMs, hDs, hrows, HZ⟩ := post₄
        obtain ⟨dzs, lzs, eas, ebs, tas, tbs, nns, zss, kzs, hz0, hdz0, hlz0, hzs, hdzs, hlzs, hizs, hnzs⟩ := HZ
        obtain ⟨psA, eA, rA⟩ := ht₄ 742 (List.mem_cons_self ..)
        obtain ⟨psB, eB, rB⟩ := ht₄ 695 (List.mem_cons_of_mem _ (List.mem_cons_self ..))
        have cF₄ := fr_tab (by k_asm) hk₄ (by assumption) (by assumption)
        have cN₄ := news_tabM (news' := (R, listOf (List.toArray [.ref T0, U1, U2, U3, .ref T4]) kR) :: (L+4, o4) :: (L+3, o3) :: (L+2, o2) :: (L+1, o1) :: (Mp, instObj 886 dMp) :: (dMp, matD md (.ref Dp) false _ _ _ _ _ _ _) :: (Dp, listOf #[.ref rowp] _) :: (rowp, listOf #[.ref zp] _) :: (zp, instObj 592 dzp) :: (dzp, polyD r (.ref lzp) _ _ _ _ _) :: (lzp, listOf zsp.toArray _) :: rest) (by ((with_reducible rename News _ _ _ _ => nwst); exact nwst)) (TabsOk.of_news (by k_asm) (by k_mem) (by k_mem) (by assumption) (by assumption)) hk₄ (by assumption) (by assumption) (fun p hp => by
          rcases List.mem_cons.mp hp with rfl | hp; · exact ⟨by k_mem, (by first | exact nt_cls (by assumption) | exact nt_cell (by assumption) | exact nt_cls (fun q => nomatch q))⟩
          rcases List.mem_cons.mp hp with rfl | hp; · exact ⟨by k_mem, (by first | exact nt_cls (by assumption) | exact nt_cell (by assumption) | exact nt_cls (fun q => nomatch q))⟩
          rcases List.mem_cons.mp hp with rfl | hp; · exact ⟨by k_mem, (by first | exact nt_cls (by assumption) | exact nt_cell (by assumption) | exact nt_cls (fun q => nomatch q))⟩
          rcases List.mem_cons.mp hp with rfl | hp; · exact ⟨by k_mem, (by first | exact nt_cls (by assumption) | exact nt_cell (by assumption) | exact nt_cls (fun q => nomatch q))⟩
          rcases List.mem_cons.mp hp with rfl | hp; · exact ⟨by k_mem, (by first | exact nt_cls (by assumption) | exact nt_cell (by assumption) | exact nt_cls (fun q => nomatch q))⟩
          rcases List.mem_cons.mp hp with rfl | hp; · exact ⟨by k_mem, (by first | exact nt_cls (by assumption) | exact nt_cell (by assumption) | exact nt_cls (fun q => nomatch q))⟩
          rcases List.mem_cons.mp hp with rfl | hp; · exact ⟨by k_mem, (by first | exact nt_cls (by assumption) | exact nt_cell (by assumption) | exact nt_cls (fun q => nomatch q))⟩
          rcases List.mem_cons.mp hp with rfl | hp; · exact ⟨by k_mem, (by first | exact nt_cls (by assumption) | exact nt_cell (by assumption) | exact nt_cls (fun q => nomatch q))⟩
          rcases List.mem_cons.mp hp with rfl | hp; · exact ⟨by k_mem, (by first | exact nt_cls (by assumption) | exact nt_cell (by assumption) | exact nt_cls (fun q => nomatch q))⟩
          rcases List.mem_cons.mp hp with rfl | hp; · exact ⟨by k_mem, (by first | exact nt_cls (by assumption) | exact nt_cell (by assumption) | exact nt_cls (fun q => nomatch q))⟩
          rcases List.mem_cons.mp hp with rfl | hp; · exact ⟨by k_mem, (by first | exact nt_cls (by assumption) | exact nt_cell (by assumption) | exact nt_cls (fun q => nomatch q))⟩
          rcases List.mem_cons.mp hp with rfl | hp; · exact ⟨by k_mem, (by first | exact nt_cls (by assumption) | exact nt_cell (by assumption) | exact nt_cls (fun q => nomatch q))⟩
          exact ⟨by repeat (first | exact hp | apply List.mem_cons_of_mem), hNT p hp⟩) eA eB
        replace cN₄ := news_add (by k_asm) cN₄ hlz0 hlzs
        replace cN₄ := news_add (by k_asm) cN₄ hdz0 hdzs
        replace cN₄ := news_add (by k_asm) cN₄ hz0 hzs
        replace cN₄ := news_add (by k_asm) cN₄ hrow0 hrows
        replace cN₄ := news_add (by k_asm) cN₄ hD0 hDs
        replace cN₄ := news_add (by k_asm) cN₄ hdM0 hdMs
        replace cN₄ := news_add (by k_asm) cN₄ hM0 hMs
        k_sweep
        repeat ((fail_if_success (with_reducible refine stop_bin2 (op := .Sub) ?_)); (first | walk1 | dsimp only))
        have hMp : _ = some (instObj 886 dMp) := News.get (a := Mp) (by ((with_reducible rename News _ _ _ _ => nwst); exact nwst)) (by k_mem)
        have hdMp : _ = some (matD md (.ref Dp) false _ _ _ _ _ _ _) := News.get (a := dMp) (by ((with_reducible rename News _ _ _ _ => nwst); exact nwst)) (by k_mem)
        repeat ((fail_if_success (with_reducible refine stop_call (f := 686) ?_)); (first | walk1 | dsimp only))
        refine' c_msub ?B ?F ?X ?T (frames_in ?B) ?hf ?hk ?hd ?hu ?hh ?h0 ?ht ?hg ?q0 ?q1 ?q2 ?q3 ?q4 ?q5 ?q6 ?q7 ?q8 ?q9 ?q10 ?q11 ?q12 ?ret
        case B => k_asm
        case F => k_asm
        case X => k_asm
        case T => k_asm
        case hf => rfl
        case hk => rfl
        case hd => k_room
        case hu => k_room
        case hh => first | assumption | rfl
        case h0 => assumption
        case ht => exact (TabsOk.of_news (by k_asm) (by k_mem) (by k_mem) (by assumption) (by assumption))
        case hg => assumption
        case q0 => exact (hmod _ (holds_of (rest := rest) (by ((with_reducible rename News _ _ _ _ => nwst); exact nwst)) (fun p hp => by repeat (first | exact hp | apply List.mem_cons_of_mem)))).1.1
        case q1 => exact (hmod _ (holds_of (rest := rest) (by ((with_reducible rename News _ _ _ _ => nwst); exact nwst)) (fun p hp => by repeat (first | exact hp | apply List.mem_cons_of_mem)))).1.2
        case q2 => exact ⟨dr, n2, f1, f2, f3, f4, f5, f6, g1, g2, g3, g4, g5, g6, u1, u2, v3, v4, v5, v6, (hmod _ (holds_of (rest := rest) (by ((with_reducible rename News _ _ _ _ => nwst); exact nwst)) (fun p hp => by repeat (first | exact hp | apply List.mem_cons_of_mem)))).2.1, (hmod _ (holds_of (rest := rest) (by ((with_reducible rename News _ _ _ _ => nwst); exact nwst)) (fun p hp => by repeat (first | exact hp | apply List.mem_cons_of_mem)))).2.2⟩
        case q3 => exact News.get (a := Mp) (o := instObj 886 dMp) (by ((with_reducible rename News _ _ _ _ => nwst); exact nwst)) (by k_mem)
        case q4 => exact News.get (a := dMp) (o := matD md (.ref Dp) false _ _ _ _ _ _ _) (by ((with_reducible rename News _ _ _ _ => nwst); exact nwst)) (by k_mem)
        case q5 => exact News.get (a := Dp) (o := listOf #[.ref rowp] _) (by ((with_reducible rename News _ _ _ _ => nwst); exact nwst)) (by k_mem)
        case q6 => exact News.get (a := rowp) (o := listOf #[.ref zp] _) (by ((with_reducible rename News _ _ _ _ => nwst); exact nwst)) (by k_mem)
        case q7 => exact News.get (a := Ms) (o := instObj 886 dMs) (by ((with_reducible rename News _ _ _ _ => nwst); exact nwst)) (by k_mem)
        case q8 => exact News.get (a := dMs) (o := matD md (.ref Ds) true _ _ _ _ _ _ _) (by ((with_reducible rename News _ _ _ _ => nwst); exact nwst)) (by k_mem)
        case q9 => exact News.get (a := Ds) (o := listOf #[.ref rows] _) (by ((with_reducible rename News _ _ _ _ => nwst); exact nwst)) (by k_mem)
        case q10 => exact News.get (a := rows) (o := listOf #[.ref zs] _) (by ((with_reducible rename News _ _ _ _ => nwst); exact nwst)) (by k_mem)
        case q11 => exact ⟨lzp, dzp, _, _, _, _, _, zsp, _, News.get (by ((with_reducible rename News _ _ _ _ => nwst); exact nwst)) (by k_mem), News.get (by ((with_reducible rename News _ _ _ _ => nwst); exact nwst)) (by k_mem), News.get (by ((with_reducible rename News _ _ _ _ => nwst); exact nwst)) (by k_mem), hizp, hnzp⟩
        case q12 => exact ⟨lzs, dzs, _, _, _, _, _, zss, _, News.get (by ((with_reducible rename News _ _ _ _ => nwst); exact nwst)) (by k_mem), News.get (by ((with_reducible rename News _ _ _ _ => nwst); exact nwst)) (by k_mem), News.get (by ((with_reducible rename News _ _ _ _ => nwst); exact nwst)) (by k_mem), hizs, hnzs⟩
        case ret =>
          intro v₄ h₄ tk₄ gs₄ hk₄ ht₄ hg₄ post₄
          obtain ⟨Mf, dMf, Df, rowf, zf, gaf, gbf, gcf, qaf, qbf, qcf, waf, wbf, wcf, rfl, hM0, hdM0, hD0, hrow0, hMf, hdMf, hDf, hrowf, HZ⟩ := post₄
          obtain ⟨dzf, lzf, eaf, ebf, taf, tbf, nnf, zsf, kzf, hz0, hdz0, hlz0, hzf, hdzf, hlzf, hizf, hnzf⟩ := HZ
          have n_M := off5 (R := R) (L := L) (by ((with_reducible rename News _ _ _ _ => nwst); exact nwst)) hM0 (by k_mem) (by k_mem) (by k_mem) (by k_mem) (by k_mem)
          have n_dM := off5 (R := R) (L := L) (by ((with_reducible rename News _ _ _ _ => nwst); exact nwst)) hdM0 (by k_mem) (by k_mem) (by k_mem) (by k_mem) (by k_mem)
          have n_D := off5 (R := R) (L := L) (by ((with_reducible rename News _ _ _ _ => nwst); exact nwst)) hD0 (by k_mem) (by k_mem) (by k_mem) (by k_mem) (by k_mem)
          have n_row := off5 (R := R) (L := L) (by ((with_reducible rename News _ _ _ _ => nwst); exact nwst)) hrow0 (by k_mem) (by k_mem) (by k_mem) (by k_mem) (by k_mem)
          have n_z := off5 (R := R) (L := L) (by ((with_reducible rename News _ _ _ _ => nwst); exact nwst)) hz0 (by k_mem) (by k_mem) (by k_mem) (by k_mem) (by k_mem)
          have n_dz := off5 (R := R) (L := L) (by ((with_reducible rename News _ _ _ _ => nwst); exact nwst)) hdz0 (by k_mem) (by k_mem) (by k_mem) (by k_mem) (by k_mem)
          have n_lz := off5 (R := R) (L := L) (by ((with_reducible rename News _ _ _ _ => nwst); exact nwst)) hlz0 (by k_mem) (by k_mem) (by k_mem) (by k_mem) (by k_mem)
          obtain ⟨psA, eA, rA⟩ := ht₄ 742 (List.mem_cons_self ..)
          obtain ⟨psB, eB, rB⟩ := ht₄ 695 (List.mem_cons_of_mem _ (List.mem_cons_self ..))
          have cF₄ := fr_tab (by k_asm) hk₄ (by assumption) (by assumption)
          have cN₄ := news_tabM (news' := (R, listOf (List.toArray [.ref T0, U1, U2, U3, .ref T4]) kR) :: (L+4, o4) :: (L+3, o3) :: (L+2, o2) :: (L+1, o1) :: rest) (by ((with_reducible rename News _ _ _ _ => nwst); exact nwst)) (TabsOk.of_news (by k_asm) (by k_mem) (by k_mem) (by assumption) (by assumption)) hk₄ (by assumption) (by assumption) (fun p hp => by
            rcases List.mem_cons.mp hp with rfl | hp; · exact ⟨by k_mem, (by first | exact nt_cls (by assumption) | exact nt_cell (by assumption) | exact nt_cls (fun q => nomatch q))⟩
            rcases List.mem_cons.mp hp with rfl | hp; · exact ⟨by k_mem, (by first | exact nt_cls (by assumption) | exact nt_cell (by assumption) | exact nt_cls (fun q => nomatch q))⟩
            rcases List.mem_cons.mp hp with rfl | hp; · exact ⟨by k_mem, (by first | exact nt_cls (by assumption) | exact nt_cell (by assumption) | exact nt_cls (fun q => nomatch q))⟩
            rcases List.mem_cons.mp hp with rfl | hp; · exact ⟨by k_mem, (by first | exact nt_cls (by assumption) | exact nt_cell (by assumption) | exact nt_cls (fun q => nomatch q))⟩
            rcases List.mem_cons.mp hp with rfl | hp; · exact ⟨by k_mem, (by first | exact nt_cls (by assumption) | exact nt_cell (by assumption) | exact nt_cls (fun q => nomatch q))⟩
            exact ⟨by repeat (first | exact hp | apply List.mem_cons_of_mem), hNT p hp⟩) eA eB
          replace cN₄ := news_add (by k_asm) cN₄ hlz0 hlzf
          replace cN₄ := news_add (by k_asm) cN₄ hdz0 hdzf
          replace cN₄ := news_add (by k_asm) cN₄ hz0 hzf
          replace cN₄ := news_add (by k_asm) cN₄ hrow0 hrowf
          replace cN₄ := news_add (by k_asm) cN₄ hD0 hDf
          replace cN₄ := news_add (by k_asm) cN₄ hdM0 hdMf
          replace cN₄ := news_add (by k_asm) cN₄ hM0 hMf
          k_sweep
          (try dsimp only [PySem.W.CmpBack])
          repeat ((fail_if_success (with_reducible refine stop_ex ?_)); (first | walk1 | dsimp only))
          (with_reducible rename Fr _ _ _ _ => FF)
          (with_reducible rename News _ _ _ _ => NN)
          obtain ⟨g₀, gB, gX, gT, gF, gN, gb⟩ := rebase (news' := (R, listOf (List.toArray [.ref T0, U1, U2, U3, .ref T4]) kR) :: (L+4, o4) :: (L+3, o3) :: (L+2, o2) :: (L+1, o1) :: (Mf, instObj 886 dMf) :: (dMf, matD md (.ref Df) false _ _ _ _ _ _ _) :: (Df, listOf #[.ref rowf] _) :: (rowf, listOf #[.ref zf] _) :: (zf, instObj 592 dzf) :: (dzf, polyD r (.ref lzf) _ _ _ _ _) :: (lzf, listOf zsf.toArray _) :: rest) hz7 h0 B X T FF NN (TabsOk.of_news NN (by k_mem) (by k_mem) (by assumption) (by assumption)) (by k_mem) (by k_mem) (fun p hp => by
            rcases List.mem_cons.mp hp with rfl | hp; · exact ⟨by k_mem, (by first | exact nt_cls (by assumption) | exact nt_cell (by assumption) | exact nt_cls (fun q => nomatch q))⟩
            rcases List.mem_cons.mp hp with rfl | hp; · exact ⟨by k_mem, (by first | exact nt_cls (by assumption) | exact nt_cell (by assumption) | exact nt_cls (fun q => nomatch q))⟩
            rcases List.mem_cons.mp hp with rfl | hp; · exact ⟨by k_mem, (by first | exact nt_cls (by assumption) | exact nt_cell (by assumption) | exact nt_cls (fun q => nomatch q))⟩
            rcases List.mem_cons.mp hp with rfl | hp; · exact ⟨by k_mem, (by first | exact nt_cls (by assumption) | exact nt_cell (by assumption) | exact nt_cls (fun q => nomatch q))⟩
            rcases List.mem_cons.mp hp with rfl | hp; · exact ⟨by k_mem, (by first | exact nt_cls (by assumption) | exact nt_cell (by assumption) | exact nt_cls (fun q => nomatch q))⟩
            rcases List.mem_cons.mp hp with rfl | hp; · exact ⟨by k_mem, (by first | exact nt_cls (by assumption) | exact nt_cell (by assumption) | exact nt_cls (fun q => nomatch q))⟩
            rcases List.mem_cons.mp hp with rfl | hp; · exact ⟨by k_mem, (by first | exact nt_cls (by assumption) | exact nt_cell (by assumption) | exact nt_cls (fun q => nomatch q))⟩
            rcases List.mem_cons.mp hp with rfl | hp; · exact ⟨by k_mem, (by first | exact nt_cls (by assumption) | exact nt_cell (by assumption) | exact nt_cls (fun q => nomatch q))⟩
            rcases List.mem_cons.mp hp with rfl | hp; · exact ⟨by k_mem, (by first | exact nt_cls (by assumption) | exact nt_cell (by assumption) | exact nt_cls (fun q => nomatch q))⟩
            rcases List.mem_cons.mp hp with rfl | hp; · exact ⟨by k_mem, (by first | exact nt_cls (by assumption) | exact nt_cell (by assumption) | exact nt_cls (fun q => nomatch q))⟩
            rcases List.mem_cons.mp hp with rfl | hp; · exact ⟨by k_mem, (by first | exact nt_cls (by assumption) | exact nt_cell (by assumption) | exact nt_cls (fun q => nomatch q))⟩
            rcases List.mem_cons.mp hp with rfl | hp; · exact ⟨by k_mem, (by first | exact nt_cls (by assumption) | exact nt_cell (by assumption) | exact nt_cls (fun q => nomatch q))⟩
            exact ⟨by repeat (first | exact hp | apply List.mem_cons_of_mem), hNT p hp⟩)
          refine' law7 (h₀ := g₀) (rest := (Mf, instObj 886 dMf) :: (dMf, matD md (.ref Df) false _ _ _ _ _ _ _) :: (Df, listOf #[.ref rowf] _) :: (rowf, listOf #[.ref zf] _) :: (zf, instObj 592 dzf) :: (dzf, polyD r (.ref lzf) _ _ _ _ _) :: (lzf, listOf zsf.toArray _) :: rest) (hE := hE) (m := fun y => if y = Str.ofString "found" then some (.ref Mf) else m y) gB gF gX gT hd hu hh ?hgs gN hm hmg rfl d2 d3 d4 ?zm ?zg ?zo hRo ?zR (.head _) (.tail _ (.head _)) (.tail _ (.tail _ (.head _))) (.tail _ (.tail _ (.tail _ (.head _)))) (.tail _ (.tail _ (.tail _ (.tail _ (.head _))))) (.tail _ (.tail _ (.tail _ (.tail _ (.tail _ (.head _)))))) (.tail _ (.tail _ (.tail _ (.tail _ (.tail _ (.tail _ (.head _))))))) hizf hnzf (hr0.sub ?zs) (hr1.sub ?zs) (hr2.sub ?zs) (hr3.sub ?zs) (hr4.sub ?zs) (fun i hi => due_at hnl0 hr1.sm.2 hr2.sm.2 hr3.sm.2 hnl4 i hi) (fun h' tk gs m' a b t e => hQ h' tk gs m' (gb h' m' a).1 b (gb h' m' a).2 t e)
          case hgs => assumption
          case zs => exact fun p hp => .tail _ (.tail _ (.tail _ (.tail _ (.tail _ (.tail _ (.tail _ (hp)))))))
          case zm => exact fun h H => hmod h (fun p hp => H p (.tail _ (.tail _ (.tail _ (.tail _ (.tail _ (.tail _ (.tail _ (hp)))))))))
          case zg => exact fun h H => hgv h (fun p hp => H p (.tail _ (.tail _ (.tail _ (.tail _ (.tail _ (.tail _ (.tail _ (hp)))))))))
          case zo =>
            intro p hp
            rcases List.mem_cons.mp hp with rfl | hp; · exact n_M.1
            rcases List.mem_cons.mp hp with rfl | hp; · exact n_dM.1
            rcases List.mem_cons.mp hp with rfl | hp; · exact n_D.1
            rcases List.mem_cons.mp hp with rfl | hp; · exact n_row.1
            rcases List.mem_cons.mp hp with rfl | hp; · exact n_z.1
            rcases List.mem_cons.mp hp with rfl | hp; · exact n_dz.1
            rcases List.mem_cons.mp hp with rfl | hp; · exact n_lz.1
            exact hoff p hp
          case zR =>
            intro p hp
            rcases List.mem_cons.mp hp with rfl | hp; · exact n_M.2
            rcases List.mem_cons.mp hp with rfl | hp; · exact n_dM.2
            rcases List.mem_cons.mp hp with rfl | hp; · exact n_D.2
            rcases List.mem_cons.mp hp with rfl | hp; · exact n_row.2
            rcases List.mem_cons.mp hp with rfl | hp; · exact n_z.2
            rcases List.mem_cons.mp hp with rfl | hp; · exact n_dz.2
            rcases List.mem_cons.mp hp with rfl | hp; · exact n_lz.2
            exact hRr p hp
  (run_tac sh1)

end

theorem fresh_46 : True := by
  w_top off
  trivial
theorem two_insts {h : Heap} {rest : List (Addr × Obj)} {r a b da db la lb : Addr} {e1 e2 e3 e4 : Int} {t1 t2 t3 t4 : Tok} {n k : Nat} (H : Holds h rest) (ha : (a, instObj 592 da) ∈ rest) (hda : (da, polyD r (.ref la) e1 e2 t1 t2 n) ∈ rest) (hb : (b, instObj 592 db) ∈ rest) (hdb : (db, polyD r (.ref lb) e3 e4 t3 t4 k) ∈ rest) :
    ∀ u ∈ [Value.ref a, Value.ref b], ∃ z dz od, u = .ref z ∧ h.get? z = some (instObj 592 dz) ∧ h.get? dz = some od ∧ od.cls ≠ .none := fun u hu => by
  rcases List.mem_cons.mp hu with rfl | hu
  · exact ⟨a, da, _, rfl, H _ ha, H _ hda, by nofun⟩
  · rw [List.mem_singleton.mp hu]; exact ⟨b, db, _, rfl, H _ hb, H _ hdb, by nofun⟩
section
variable {w : World} {A₀ A : Around} {base h₀ : Heap} {outer : List Env} {env : Env} {L : Addr} {m : Str → Option Value} {p : Program} {loose : List Str} {mean : ExcName → Option Value} {mg mb : Str → Option Value}
    {s : Shared} {Q : Value → Shared → Prop} {E : Value → Shared → Prop}
theorem law5 {R : Addr} {r md dmd : Addr} {em : Int} {tm : Tok} {nm : Nat} {dr : Addr} {n2 : Nat} {f1 f2 f3 f4 f5 f6 : Int} {g1 g2 g3 g4 g5 g6 u1 u2 : Tok} {v3 v4 v5 v6 : Value} {gl : Addr} {kG : Nat} {i0 i1 i2 i3 i4 i5 i6 : Int} {j0 j1 j2 j3 j4 j5 j6 : Tok} {U0 U1 U2 U3 U4 : Value} {N0 N1 N2 N3 N4 : List Int} {ps1 ps2 : Array Value} {kR : Nat} {o1 o2 o3 o4 : Obj} {c1 c3 c4 : Option Value} {rest : List (Addr × Obj)} {Ma dMa Da rowa p0 p1 : Addr} {a1 a2 a3 : Int} {b1 b2 b3 : Tok} {na ka1 ka2 : Nat}
    (B : Below A₀ h₀ [] h₀) (F : Fr h₀ L s.heap m) (X : (Mine.hd.heap_39 w.params).In h₀) (T : Top p loose mean mg mb h₀) (hd : A₀.depth ≤ 310) (hu : A₀.units ≤ 3100) (hh : A₀.handled = none) (hg : AllBare s.gens)
    (N : News h₀ L s.heap ((742, tabObj ps1) :: (695, tabObj ps2) :: (R, listOf (List.toArray [U0, U1, U2, U3, U4]) kR) :: (L+4, o4) :: (L+3, o3) :: (L+2, o2) :: (L+1, o1) :: rest)) (hE : PassesOwn (model PySem.Challenge.rw_ix0027_01.row.prog w) (A₀.deeper (lawEnv L)) (lawEnv L) E) (hm : m (Str.ofString "module") = some (.ref md)) (hmg : m (Str.ofString "given") = some (.ref gl)) (d1 : o1.data = .cell c1) (d2 : o2.data = .cell (some (.ref R))) (d3 : o3.data = .cell c3) (d4 : o4.data = .cell c4) (hmod : ∀ h, Holds h rest → (h.get? md = some (instObj 983 dmd) ∧ h.get? dmd = some (modD r em tm nm)) ∧ h.get? r = some (instObj 392 dr) ∧ h.get? dr = some (ringD f1 f2 f3 f4 f5 f6 g1 g2 g3 g4 g5 g6 u1 u2 v3 v4 v5 v6 n2)) (hgv : ∀ h, Holds h rest → h.get? gl = some (listOf (List.toArray [.int i0 j0, .int i1 j1, .int i2 j2, .int i3 j3, .int i4 j4, .int i5 j5, .int i6 j6]) kG)) (hoff : OffC L rest) (hRo : @Ne Nat R (L+4) ∧ @Ne Nat R (L+3) ∧ @Ne Nat R (L+2) ∧ @Ne Nat R (L+1)) (hRr : ∀ p ∈ rest, @Ne Nat p.1 R) (h0 : ∀ P ∈ tabs, h₀.get? P = none) (hLt : L ∉ tabs) (hz7 : @LT.lt Nat instLTNat 742 h₀.objs.size) (r1 : TriplesOk ps1.toList) (r2 : TriplesOk ps2.toList) (hNT : ∀ p ∈ rest, NotTab p.2) (hma : m (Str.ofString "matrix") = some (.ref Ma)) (hA1 : (Ma, instObj 886 dMa) ∈ rest) (hA2 : (dMa, matD md (.ref Da) false a1 a2 a3 b1 b2 b3 na) ∈ rest) (hA3 : (Da, listOf #[.ref rowa] ka1) ∈ rest) (hA4 : (rowa, listOf #[.ref p0, .ref p1] ka2) ∈ rest) (hp0 : PolyM rest r p0 N0) (hp1 : PolyM rest r p1 N1) (hr0 : RowM rest r U0 N0) (hr1 : RowM rest r U1 N1) (hr2 : RowM rest r U2 N2) (hr3 : RowM rest r U3 N3) (hr4 : RowM rest r U4 N4)
    {QF : Flow → Shared → Prop} (hQ : LawQT h₀ L s QF) :
    wpAny (model PySem.Challenge.rw_ix0027_01.row.prog w) (A₀.deeper (lawEnv L)) (execs lawRest5 (lawEnv L)) QF E s := by
  (run_tac sh0)
  obtain ⟨hp, gs, drw, tk, os⟩ := s
  (try dsimp only at *)
  have hh' : (A₀.deeper (lawEnv L)).handled = none := by first | exact hh | rfl
  unfold lawRest5 lawEnv lawScope lawPickS lawTl
  obtain ⟨T2, l2, zz2, dzz2, lzz2, kk2, kkz2, nnz2, lls2, zzs2, ee2, ff2, tt2, uu2, rfl, hT2, hl2, hzz2, hdzz2, hlzz2, hi2, hiz2, hnl2, hsm2⟩ := id hr2
  obtain ⟨T3, l3, zz3, dzz3, lzz3, kk3, kkz3, nnz3, lls3, zzs3, ee3, ff3, tt3, uu3, rfl, hT3, hl3, hzz3, hdzz3, hlzz3, hi3, hiz3, hnl3, hsm3⟩ := id hr3
  repeat ((fail_if_success (with_reducible refine (stop_Name (x := Str.ofString "module")) ?_)); (first | walk1 | dsimp only))
  refine' nameX_L ?F hm ?_
  case F => k_asm
  obtain ⟨⟨hmd, hdmd⟩, hr, hdr⟩ := hmod _ (holds_of (rest := rest) (by ((with_reducible rename News _ _ _ _ => nwst); exact nwst)) (fun p hp => by repeat (first | exact hp | apply List.mem_cons_of_mem)))
  repeat ((fail_if_success (with_reducible refine stop_tail ?_)); (first | walk1 | dsimp only))
  refine item_any (vs := [U0, U1, .ref T2, .ref T3, U4]) (k := 2) (v := .ref T2) (News.isList (by ((with_reducible rename News _ _ _ _ => nwst); exact nwst)) (by k_mem)) (by decide) (by decide) rfl ?_
  have hTT2 := ((holds_of (rest := rest) (by ((with_reducible rename News _ _ _ _ => nwst); exact nwst)) (fun p hp => by repeat (first | exact hp | apply List.mem_cons_of_mem))) _ hT2)
  (try dsimp only at hTT2)
  repeat ((fail_if_success (with_reducible refine stop_tail ?_)); (first | walk1 | dsimp only))
  refine' item_tupleT (l := [.ref l2, .ref zz2]) (j := 1) ?hT ?h0 ?h1 ?h2 ?h3 ?_
  case hT => exact ⟨_, hTT2, rfl, _, rfl⟩
  case h0 => decide
  case h1 => decide
  case h2 => rfl
  case h3 => rfl
  repeat ((fail_if_success (with_reducible refine stop_tail ?_)); (first | walk1 | dsimp only))
  refine item_any (vs := [U0, U1, .ref T2, .ref T3, U4]) (k := 3) (v := .ref T3) (News.isList (by ((with_reducible rename News _ _ _ _ => nwst); exact nwst)) (by k_mem)) (by decide) (by decide) rfl ?_
  have hTT3 := ((holds_of (rest := rest) (by ((with_reducible rename News _ _ _ _ => nwst); exact nwst)) (fun p hp => by repeat (first | exact hp | apply List.mem_cons_of_mem))) _ hT3)
  (try dsimp only at hTT3)
  repeat ((fail_if_success (with_reducible refine stop_tail ?_)); (first | walk1 | dsimp only))
  refine' item_tupleT (l := [.ref l3, .ref zz3]) (j := 1) ?hT ?h0 ?h1 ?h2 ?h3 ?_
  case hT => exact ⟨_, hTT3, rfl, _, rfl⟩
  case h0 => decide
  case h1 => decide
  case h2 => rfl
  case h3 => rfl
  repeat ((fail_if_success (with_reducible refine stop_call (f := 938) ?_)); (first | walk1 | dsimp only))
  (rename News _ _ _ _ => NN)
  obtain ⟨rowv, rfl⟩ := name_head NN
  (rename _ ∧ _ ∧ _ ∧ _ ∧ _ ∧ _ ∧ _ ∧ AllLt _ _ => l1)
  obtain ⟨q742, q695, qR, q4, q3, q2, q1, qr⟩ := l1
  refine' c_vector ?B ?F ?X ?T (frames_in ?B) ?hf ?hk ?hd ?hu ?hh ?q0 ?q1 ?ret
  case B => k_asm
  case F => k_asm
  case X => k_asm
  case T => k_asm
  case hf => rfl
  case hk => rfl
  case hd => k_room
  case hu => k_room
  case hh => first | assumption | rfl
  case q0 => exact News.get (o := listOf (List.toArray [Value.ref zz2, Value.ref zz3]) _) (by ((with_reducible rename News _ _ _ _ => nwst); exact nwst)) (by k_mem)
  case q1 => exact (by decide : 2 ≤ 2)
  case ret =>
    intro v₄ h₄ tk₄ hk₄ post₄
    obtain ⟨Ve, dVe, Dv, x1, x2, x3, y1, y2, y3, nv, kv, rfl, hM0, hdM0, hD0, hVe, hdVe, hDv⟩ := post₄
    have n_M := off5 (R := R) (L := L) (by ((with_reducible rename News _ _ _ _ => nwst); exact nwst)) hM0 (by k_mem) (by k_mem) (by k_mem) (by k_mem) (by k_mem)
    have n_dM := off5 (R := R) (L := L) (by ((with_reducible rename News _ _ _ _ => nwst); exact nwst)) hdM0 (by k_mem) (by k_mem) (by k_mem) (by k_mem) (by k_mem)
    have n_D := off5 (R := R) (L := L) (by ((with_reducible rename News _ _ _ _ => nwst); exact nwst)) hD0 (by k_mem) (by k_mem) (by k_mem) (by k_mem) (by k_mem)
    have cF₄ := Fr.keeps (by k_asm) hk₄
    have cN₄ := News.grown (by k_asm) hk₄
    replace cN₄ := news_add (by k_asm) cN₄ hD0 hDv
    replace cN₄ := news_add (by k_asm) cN₄ hdM0 hdVe
    replace cN₄ := news_add (by k_asm) cN₄ hM0 hVe
    k_sweep
    repeat ((fail_if_success (with_reducible refine stop_ex ?_)); (first | walk1 | dsimp only))
    (with_reducible rename Fr _ _ _ _ => FF)
    refine' law6 (rest := (Ve, instObj 907 dVe) :: (dVe, matD md (.ref Dv) true _ _ _ _ _ _ _) :: (Dv, listOf #[.ref rowv] _) :: (rowv, listOf #[.ref zz2, .ref zz3] _) :: rest) (hE := hE) (m := fun y => if y = Str.ofString "vector" then some (.ref Ve) else m y) B FF X T hd hu hh ?hgs (news_sub (by ((with_reducible rename News _ _ _ _ => nwst); exact nwst)) (fun p hp => by
      rcases List.mem_cons.mp hp with rfl | hp; · k_mem
      rcases List.mem_cons.mp hp with rfl | hp; · k_mem
      rcases List.mem_cons.mp hp with rfl | hp; · k_mem
      rcases List.mem_cons.mp hp with rfl | hp; · k_mem
      rcases List.mem_cons.mp hp with rfl | hp; · k_mem
      rcases List.mem_cons.mp hp with rfl | hp; · k_mem
      rcases List.mem_cons.mp hp with rfl | hp; · k_mem
      rcases List.mem_cons.mp hp with rfl | hp; · k_mem
      rcases List.mem_cons.mp hp with rfl | hp; · k_mem
      rcases List.mem_cons.mp hp with rfl | hp; · k_mem
      rcases List.mem_cons.mp hp with rfl | hp; · k_mem
      repeat (first | exact hp | apply List.mem_cons_of_mem))) hm hmg d1 d2 d3 d4 ?zm ?zg ?zo hRo ?zR h0 hLt hz7 r1 r2 ?zN hma rfl (.tail _ (.tail _ (.tail _ (.tail _ (hA1))))) (.tail _ (.tail _ (.tail _ (.tail _ (hA2))))) (.tail _ (.tail _ (.tail _ (.tail _ (hA3))))) (.tail _ (.tail _ (.tail _ (.tail _ (hA4))))) (.head _) (.tail _ (.head _)) (.tail _ (.tail _ (.head _))) (.tail _ (.tail _ (.tail _ (.head _)))) (hp0.sub ?zs) (hp1.sub ?zs) ⟨dzz2, lzz2, _, _, _, _, _, _, _, .tail _ (.tail _ (.tail _ (.tail _ (hzz2)))), .tail _ (.tail _ (.tail _ (.tail _ (hdzz2)))), .tail _ (.tail _ (.tail _ (.tail _ (hlzz2)))), hiz2, hnl2⟩ ⟨dzz3, lzz3, _, _, _, _, _, _, _, .tail _ (.tail _ (.tail _ (.tail _ (hzz3)))), .tail _ (.tail _ (.tail _ (.tail _ (hdzz3)))), .tail _ (.tail _ (.tail _ (.tail _ (hlzz3)))), hiz3, hnl3⟩ (hr0.sub ?zs) (hr1.sub ?zs) (hr2.sub ?zs) (hr3.sub ?zs) (hr4.sub ?zs) (fun h' tk gs m' a b c t e => hQ h' tk gs m' a b c t e)
    case hgs => assumption
    case zs => exact fun p hp => .tail _ (.tail _ (.tail _ (.tail _ (hp))))
    case zm => exact fun h H => hmod h (fun p hp => H p (.tail _ (.tail _ (.tail _ (.tail _ (hp))))))
    case zg => exact fun h H => hgv h (fun p hp => H p (.tail _ (.tail _ (.tail _ (.tail _ (hp))))))
    case zo =>
      intro p hp
      rcases List.mem_cons.mp hp with rfl | hp; · exact n_M.1
      rcases List.mem_cons.mp hp with rfl | hp; · exact n_dM.1
      rcases List.mem_cons.mp hp with rfl | hp; · exact n_D.1
      rcases List.mem_cons.mp hp with rfl | hp; · exact ⟨Nat.ne_of_gt q4, Nat.ne_of_gt q3, Nat.ne_of_gt q2, Nat.ne_of_gt q1⟩
      exact hoff p hp
    case zR =>
      intro p hp
      rcases List.mem_cons.mp hp with rfl | hp; · exact n_M.2
      rcases List.mem_cons.mp hp with rfl | hp; · exact n_dM.2
      rcases List.mem_cons.mp hp with rfl | hp; · exact n_D.2
      rcases List.mem_cons.mp hp with rfl | hp; · exact Nat.ne_of_gt qR
      exact hRr p hp
    case zN =>
      intro p hp
      rcases List.mem_cons.mp hp with rfl | hp; · exact nt_cls (fun q => nomatch q)
      rcases List.mem_cons.mp hp with rfl | hp; · exact nt_cls (fun q => nomatch q)
      rcases List.mem_cons.mp hp with rfl | hp; · exact nt_cls (fun q => nomatch q)
      rcases List.mem_cons.mp hp with rfl | hp; · exact nt_cls (fun q => nomatch q)
      exact hNT p hp
  (run_tac sh1)

theorem law4 {R : Addr} {r md dmd : Addr} {em : Int} {tm : Tok} {nm : Nat} {dr : Addr} {n2 : Nat} {f1 f2 f3 f4 f5 f6 : Int} {g1 g2 g3 g4 g5 g6 u1 u2 : Tok} {v3 v4 v5 v6 : Value} {gl : Addr} {kG : Nat} {i0 i1 i2 i3 i4 i5 i6 : Int} {j0 j1 j2 j3 j4 j5 j6 : Tok} {U0 U1 U2 U3 U4 : Value} {N0 N1 N2 N3 N4 : List Int} {ps1 ps2 : Array Value} {kR : Nat} {o1 o2 o3 o4 : Obj} {c1 c3 c4 : Option Value} {rest : List (Addr × Obj)}
    (B : Below A₀ h₀ [] h₀) (F : Fr h₀ L s.heap m) (X : (Mine.hd.heap_39 w.params).In h₀) (T : Top p loose mean mg mb h₀) (hd : A₀.depth ≤ 310) (hu : A₀.units ≤ 3100) (hh : A₀.handled = none) (hg : AllBare s.gens)
    (N : News h₀ L s.heap ((742, tabObj ps1) :: (695, tabObj ps2) :: (R, listOf (List.toArray [U0, U1, U2, U3, U4]) kR) :: (L+4, o4) :: (L+3, o3) :: (L+2, o2) :: (L+1, o1) :: rest)) (hE : PassesOwn (model PySem.Challenge.rw_ix0027_01.row.prog w) (A₀.deeper (lawEnv L)) (lawEnv L) E) (hm : m (Str.ofString "module") = some (.ref md)) (hmg : m (Str.ofString "given") = some (.ref gl)) (d1 : o1.data = .cell c1) (d2 : o2.data = .cell (some (.ref R))) (d3 : o3.data = .cell c3) (d4 : o4.data = .cell c4) (hmod : ∀ h, Holds h rest → (h.get? md = some (instObj 983 dmd) ∧ h.get? dmd = some (modD r em tm nm)) ∧ h.get? r = some (instObj 392 dr) ∧ h.get? dr = some (ringD f1 f2 f3 f4 f5 f6 g1 g2 g3 g4 g5 g6 u1 u2 v3 v4 v5 v6 n2)) (hgv : ∀ h, Holds h rest → h.get? gl = some (listOf (List.toArray [.int i0 j0, .int i1 j1, .int i2 j2, .int i3 j3, .int i4 j4, .int i5 j5, .int i6 j6]) kG)) (hoff : OffC L rest) (hRo : @Ne Nat R (L+4) ∧ @Ne Nat R (L+3) ∧ @Ne Nat R (L+2) ∧ @Ne Nat R (L+1)) (hRr : ∀ p ∈ rest, @Ne Nat p.1 R) (h0 : ∀ P ∈ tabs, h₀.get? P = none) (hLt : L ∉ tabs) (hz7 : @LT.lt Nat instLTNat 742 h₀.objs.size) (r1 : TriplesOk ps1.toList) (r2 : TriplesOk ps2.toList) (hNT : ∀ p ∈ rest, NotTab p.2) (hr0 : RowM rest r U0 N0) (hr1 : RowM rest r U1 N1) (hr2 : RowM rest r U2 N2) (hr3 : RowM rest r U3 N3) (hr4 : RowM rest r U4 N4)
    {QF : Flow → Shared → Prop} (hQ : LawQT h₀ L s QF) :
    wpAny (model PySem.Challenge.rw_ix0027_01.row.prog w) (A₀.deeper (lawEnv L)) (execs lawRest4 (lawEnv L)) QF E s := by
  (run_tac sh0)
  obtain ⟨hp, gs, drw, tk, os⟩ := s
  (try dsimp only at *)
  have hh' : (A₀.deeper (lawEnv L)).handled = none := by first | exact hh | rfl
  unfold lawRest4 lawEnv lawScope lawPickS lawTl
  obtain ⟨T0, l0, zz0, dzz0, lzz0, kk0, kkz0, nnz0, lls0, zzs0, ee0, ff0, tt0, uu0, rfl, hT0, hl0, hzz0, hdzz0, hlzz0, hi0, hiz0, hnl0, hsm0⟩ := id hr0
  obtain ⟨T1, l1, zz1, dzz1, lzz1, kk1, kkz1, nnz1, lls1, zzs1, ee1, ff1, tt1, uu1, rfl, hT1, hl1, hzz1, hdzz1, hlzz1, hi1, hiz1, hnl1, hsm1⟩ := id hr1
  repeat ((fail_if_success (with_reducible refine (stop_Name (x := Str.ofString "module")) ?_)); (first | walk1 | dsimp only))
  refine' nameX_L ?F hm ?_
  case F => k_asm
  obtain ⟨⟨hmd, hdmd⟩, hr, hdr⟩ := hmod _ (holds_of (rest := rest) (by ((with_reducible rename News _ _ _ _ => nwst); exact nwst)) (fun p hp => by repeat (first | exact hp | apply List.mem_cons_of_mem)))
  repeat ((fail_if_success (with_reducible refine stop_tail ?_)); (first | walk1 | dsimp only))
  refine item_any (vs := [.ref T0, .ref T1, U2, U3, U4]) (k := 0) (v := .ref T0) (News.isList (by ((with_reducible rename News _ _ _ _ => nwst); exact nwst)) (by k_mem)) (by decide) (by decide) rfl ?_
  have hTT0 := ((holds_of (rest := rest) (by ((with_reducible rename News _ _ _ _ => nwst); exact nwst)) (fun p hp => by repeat (first | exact hp | apply List.mem_cons_of_mem))) _ hT0)
  (try dsimp only at hTT0)
  repeat ((fail_if_success (with_reducible refine stop_tail ?_)); (first | walk1 | dsimp only))
  refine' item_tupleT (l := [.ref l0, .ref zz0]) (j := 1) ?hT ?h0 ?h1 ?h2 ?h3 ?_
  case hT => exact ⟨_, hTT0, rfl, _, rfl⟩
  case h0 => decide
  case h1 => decide
  case h2 => rfl
  case h3 => rfl
  repeat ((fail_if_success (with_reducible refine stop_tail ?_)); (first | walk1 | dsimp only))
  refine item_any (vs := [.ref T0, .ref T1, U2, U3, U4]) (k := 1) (v := .ref T1) (News.isList (by ((with_reducible rename News _ _ _ _ => nwst); exact nwst)) (by k_mem)) (by decide) (by decide) rfl ?_
  have hTT1 := ((holds_of (rest := rest) (by ((with_reducible rename News _ _ _ _ => nwst); exact nwst)) (fun p hp => by repeat (first | exact hp | apply List.mem_cons_of_mem))) _ hT1)
  (try dsimp only at hTT1)
  repeat ((fail_if_success (with_reducible refine stop_tail ?_)); (first | walk1 | dsimp only))
  refine' item_tupleT (l := [.ref l1, .ref zz1]) (j := 1) ?hT ?h0 ?h1 ?h2 ?h3 ?_
  case hT => exact ⟨_, hTT1, rfl, _, rfl⟩
  case h0 => decide
  case h1 => decide
  case h2 => rfl
  case h3 => rfl
  repeat ((fail_if_success (with_reducible refine stop_kco ?_)); (first | walk1 | dsimp only))
  obtain ⟨⟨hmd, hdmd⟩, hr, hdr⟩ := hmod _ (holds_of (rest := rest) (by ((with_reducible rename News _ _ _ _ => nwst); exact nwst)) (fun p hp => by repeat (first | exact hp | apply List.mem_cons_of_mem)))
  repeat ((fail_if_success (with_reducible refine stop_call (f := md) ?_)); (first | walk1 | dsimp only))
  obtain ⟨⟨hmd, hdmd⟩, hr, hdr⟩ := hmod _ (holds_of (rest := rest) (by ((with_reducible rename News _ _ _ _ => nwst); exact nwst)) (fun p hp => by repeat (first | exact hp | apply List.mem_cons_of_mem)))
  (rename News _ _ _ _ => NN)
  obtain ⟨Da, rfl⟩ := name_head NN
  obtain ⟨rowa, rfl⟩ := name_head (news_sub (news' := _ :: _) NN (fun p hp => .tail _ hp))
  (rename _ ∧ _ ∧ _ ∧ _ ∧ _ ∧ _ ∧ _ ∧ _ ∧ AllLt _ _ => l2)
  (rename _ ∧ _ ∧ _ ∧ _ ∧ _ ∧ _ ∧ _ ∧ AllLt _ _ => l1)
  obtain ⟨q742, q695, qR, q4, q3, q2, q1, qr⟩ := l1
  obtain ⟨qq, q742', q695', qR', q4', q3', q2', q1', qr'⟩ := l2
  repeat ((fail_if_success (with_reducible refine stop_call (f := md) ?_)); (first | walk1 | dsimp only))
  refine' own_call (f := 747) ?X ?I ?k3 ?hs ?hf ?hfn ?_
  case X => k_in
  case I => exact InstAt.mk (od := some _) hmd rfl rfl hdmd
  case k3 => exact rfl
  case hs => k_is
  case hf => k_is
  case hfn => k_is
  refine' c_mcall0 ?B ?F ?X ?T (frames_in ?B) ?hf ?hk ?hd ?hu ?hh ?h0 ?ht ?hg ?q0 ?q1 ?q2 ?q3 ?q4 ?q5 ?q6 ?ret
  case B => k_asm
  case F => k_asm
  case X => k_asm
  case T => k_asm
  case hf => rfl
  case hk => rfl
  case hd => k_room
  case hu => k_room
  case hh => first | assumption | rfl
  case h0 => assumption
  case ht => exact (TabsOk.of_news (by k_asm) (by k_mem) (by k_mem) (by assumption) (by assumption))
  case hg => assumption
  case q0 => exact (hmod _ (holds_of (rest := rest) (by ((with_reducible rename News _ _ _ _ => nwst); exact nwst)) (fun p hp => by repeat (first | exact hp | apply List.mem_cons_of_mem)))).1.1
  case q1 => exact (hmod _ (holds_of (rest := rest) (by ((with_reducible rename News _ _ _ _ => nwst); exact nwst)) (fun p hp => by repeat (first | exact hp | apply List.mem_cons_of_mem)))).1.2
  case q2 => exact ⟨dr, n2, f1, f2, f3, f4, f5, f6, g1, g2, g3, g4, g5, g6, u1, u2, v3, v4, v5, v6, (hmod _ (holds_of (rest := rest) (by ((with_reducible rename News _ _ _ _ => nwst); exact nwst)) (fun p hp => by repeat (first | exact hp | apply List.mem_cons_of_mem)))).2.1, (hmod _ (holds_of (rest := rest) (by ((with_reducible rename News _ _ _ _ => nwst); exact nwst)) (fun p hp => by repeat (first | exact hp | apply List.mem_cons_of_mem)))).2.2⟩
  case q3 => exact News.get (by ((with_reducible rename News _ _ _ _ => nwst); exact nwst)) (by k_mem)
  case q4 => exact News.get (o := listOf (List.toArray [Value.ref zz0, Value.ref zz1]) _) (by ((with_reducible rename News _ _ _ _ => nwst); exact nwst)) (by k_mem)
  case q5 => exact (by decide : 2 ≤ 2)
  case q6 => exact two_insts (holds_of (rest := rest) (by ((with_reducible rename News _ _ _ _ => nwst); exact nwst)) (fun p hp => by repeat (first | exact hp | apply List.mem_cons_of_mem))) hzz0 hdzz0 hzz1 hdzz1
  case ret =>
    intro v₄ h₄ tk₄ gs₄ hk₄ ht₄ hg₄ post₄
    obtain ⟨Ma, dMa, x1, x2, x3, y1, y2, y3, nv, rfl, hM0, hdM0, hMa, hdMa⟩ := post₄
    have n_M := off5 (R := R) (L := L) (by ((with_reducible rename News _ _ _ _ => nwst); exact nwst)) hM0 (by k_mem) (by k_mem) (by k_mem) (by k_mem) (by k_mem)
    have n_dM := off5 (R := R) (L := L) (by ((with_reducible rename News _ _ _ _ => nwst); exact nwst)) hdM0 (by k_mem) (by k_mem) (by k_mem) (by k_mem) (by k_mem)
    obtain ⟨psA, eA, rA⟩ := ht₄ 742 (List.mem_cons_self ..)
    obtain ⟨psB, eB, rB⟩ := ht₄ 695 (List.mem_cons_of_mem _ (List.mem_cons_self ..))
    have cF₄ := fr_tab (by k_asm) hk₄ (by assumption) (by assumption)
    have cN₄ := news_tabM (news' := (Da, listOf #[.ref rowa] _) :: (rowa, listOf #[.ref zz0, .ref zz1] _) :: (R, listOf (List.toArray [.ref T0, .ref T1, U2, U3, U4]) kR) :: (L+4, o4) :: (L+3, o3) :: (L+2, o2) :: (L+1, o1) :: rest) (by ((with_reducible rename News _ _ _ _ => nwst); exact nwst)) (TabsOk.of_news (by k_asm) (by k_mem) (by k_mem) (by assumption) (by assumption)) hk₄ (by assumption) (by assumption) (fun p hp => by
      rcases List.mem_cons.mp hp with rfl | hp; · exact ⟨by k_mem, (by first | exact nt_cls (by assumption) | exact nt_cell (by assumption) | exact nt_cls (fun q => nomatch q))⟩
      rcases List.mem_cons.mp hp with rfl | hp; · exact ⟨by k_mem, (by first | exact nt_cls (by assumption) | exact nt_cell (by assumption) | exact nt_cls (fun q => nomatch q))⟩
      rcases List.mem_cons.mp hp with rfl | hp; · exact ⟨by k_mem, (by first | exact nt_cls (by assumption) | exact nt_cell (by assumption) | exact nt_cls (fun q => nomatch q))⟩
      rcases List.mem_cons.mp hp with rfl | hp; · exact ⟨by k_mem, (by first | exact nt_cls (by assumption) | exact nt_cell (by assumption) | exact nt_cls (fun q => nomatch q))⟩
      rcases List.mem_cons.mp hp with rfl | hp; · exact ⟨by k_mem, (by first | exact nt_cls (by assumption) | exact nt_cell (by assumption) | exact nt_cls (fun q => nomatch q))⟩
      rcases List.mem_cons.mp hp with rfl | hp; · exact ⟨by k_mem, (by first | exact nt_cls (by assumption) | exact nt_cell (by assumption) | exact nt_cls (fun q => nomatch q))⟩
      rcases List.mem_cons.mp hp with rfl | hp; · exact ⟨by k_mem, (by first | exact nt_cls (by assumption) | exact nt_cell (by assumption) | exact nt_cls (fun q => nomatch q))⟩
      exact ⟨by repeat (first | exact hp | apply List.mem_cons_of_mem), hNT p hp⟩) eA eB
    replace cN₄ := news_add (by k_asm) cN₄ hdM0 hdMa
    replace cN₄ := news_add (by k_asm) cN₄ hM0 hMa
    k_sweep
    repeat ((fail_if_success (with_reducible refine stop_ex ?_)); (first | walk1 | dsimp only))
    (with_reducible rename Fr _ _ _ _ => FF)
    refine' law5 (rest := (Ma, instObj 886 dMa) :: (dMa, matD md (.ref Da) false _ _ _ _ _ _ _) :: (Da, listOf #[.ref rowa] _) :: (rowa, listOf #[.ref zz0, .ref zz1] _) :: rest) (hE := hE) (m := fun y => if y = Str.ofString "matrix" then some (.ref Ma) else m y) B FF X T hd hu hh ?hgs (news_sub (by ((with_reducible rename News _ _ _ _ => nwst); exact nwst)) (fun p hp => by
      rcases List.mem_cons.mp hp with rfl | hp; · k_mem
      rcases List.mem_cons.mp hp with rfl | hp; · k_mem
      rcases List.mem_cons.mp hp with rfl | hp; · k_mem
      rcases List.mem_cons.mp hp with rfl | hp; · k_mem
      rcases List.mem_cons.mp hp with rfl | hp; · k_mem
      rcases List.mem_cons.mp hp with rfl | hp; · k_mem
      rcases List.mem_cons.mp hp with rfl | hp; · k_mem
      rcases List.mem_cons.mp hp with rfl | hp; · k_mem
      rcases List.mem_cons.mp hp with rfl | hp; · k_mem
      rcases List.mem_cons.mp hp with rfl | hp; · k_mem
      rcases List.mem_cons.mp hp with rfl | hp; · k_mem
      repeat (first | exact hp | apply List.mem_cons_of_mem))) hm hmg d1 d2 d3 d4 ?zm ?zg ?zo hRo ?zR h0 hLt hz7 (by assumption) (by assumption) ?zN rfl (.head _) (.tail _ (.head _)) (.tail _ (.tail _ (.head _))) (.tail _ (.tail _ (.tail _ (.head _)))) ⟨dzz0, lzz0, _, _, _, _, _, _, _, .tail _ (.tail _ (.tail _ (.tail _ (hzz0)))), .tail _ (.tail _ (.tail _ (.tail _ (hdzz0)))), .tail _ (.tail _ (.tail _ (.tail _ (hlzz0)))), hiz0, hnl0⟩ ⟨dzz1, lzz1, _, _, _, _, _, _, _, .tail _ (.tail _ (.tail _ (.tail _ (hzz1)))), .tail _ (.tail _ (.tail _ (.tail _ (hdzz1)))), .tail _ (.tail _ (.tail _ (.tail _ (hlzz1)))), hiz1, hnl1⟩ (hr0.sub ?zs) (hr1.sub ?zs) (hr2.sub ?zs) (hr3.sub ?zs) (hr4.sub ?zs) (fun h' tk gs m' a b c t e => hQ h' tk gs m' a b c t e)
    case hgs => assumption
    case zs => exact fun p hp => .tail _ (.tail _ (.tail _ (.tail _ (hp))))
    case zm => exact fun h H => hmod h (fun p hp => H p (.tail _ (.tail _ (.tail _ (.tail _ (hp))))))
    case zg => exact fun h H => hgv h (fun p hp => H p (.tail _ (.tail _ (.tail _ (.tail _ (hp))))))
    case zo =>
      intro p hp
      rcases List.mem_cons.mp hp with rfl | hp; · exact n_M.1
      rcases List.mem_cons.mp hp with rfl | hp; · exact n_dM.1
      rcases List.mem_cons.mp hp with rfl | hp; · exact ⟨Nat.ne_of_gt q4', Nat.ne_of_gt q3', Nat.ne_of_gt q2', Nat.ne_of_gt q1'⟩
      rcases List.mem_cons.mp hp with rfl | hp; · exact ⟨Nat.ne_of_gt q4, Nat.ne_of_gt q3, Nat.ne_of_gt q2, Nat.ne_of_gt q1⟩
      exact hoff p hp
    case zR =>
      intro p hp
      rcases List.mem_cons.mp hp with rfl | hp; · exact n_M.2
      rcases List.mem_cons.mp hp with rfl | hp; · exact n_dM.2
      rcases List.mem_cons.mp hp with rfl | hp; · exact Nat.ne_of_gt qR'
      rcases List.mem_cons.mp hp with rfl | hp; · exact Nat.ne_of_gt qR
      exact hRr p hp
    case zN =>
      intro p hp
      rcases List.mem_cons.mp hp with rfl | hp; · exact nt_cls (fun q => nomatch q)
      rcases List.mem_cons.mp hp with rfl | hp; · exact nt_cls (fun q => nomatch q)
      rcases List.mem_cons.mp hp with rfl | hp; · exact nt_cls (fun q => nomatch q)
      rcases List.mem_cons.mp hp with rfl | hp; · exact nt_cls (fun q => nomatch q)
      exact hNT p hp
  (run_tac sh1)

end

theorem fresh_47 : True := by
  w_top off
  trivial
theorem offI {g h : Heap} {L I a : Addr} {news : List (Addr × Obj)} {oI : Obj} (N : News g L h news) (e : h.get? a = none) (hI : (I, oI) ∈ news) : @Ne Nat a I := Ne.symm (news_ne N e _ hI)
inductive KJ (L R md gl r dr dmd : Addr) (om or og o1 o2 o3 o4 t1 t2 : Obj) (i : Nat) (m : Str → Option Value) (news : List (Addr × Obj)) : Prop
  | mk (vs : List Value) (kR : Nat) (rest : List (Addr × Obj)) (c0 : m (Str.ofString "module") = some (.ref md)) (c1 : m (Str.ofString "given") = some (.ref gl)) (c2 : news = (742, t1) :: (695, t2) :: (R, listOf vs.toArray kR) :: (L+4, o4) :: (L+3, o3) :: (L+2, o2) :: (L+1, o1) :: rest) (c3 : vs.length = i) (c4 : (∀ u ∈ vs, ∃ ns, RowM rest r u ns)) (c5 : (∀ h, Holds h rest → (h.get? md = some (instObj 983 dmd) ∧ h.get? dmd = some om) ∧ h.get? r = some (instObj 392 dr) ∧ h.get? dr = some or)) (c6 : (∀ h, Holds h rest → h.get? gl = some og)) (c7 : OffC L rest) (c8 : (∀ p ∈ rest, @Ne Nat p.1 R)) (c9 : (∀ p ∈ rest, NotTab p.2)) : KJ L R md gl r dr dmd om or og o1 o2 o3 o4 t1 t2 i m news
theorem int_at5 {i0 i1 i2 i3 i4 i5 i6 : Int} {j0 j1 j2 j3 j4 j5 j6 : Tok} (i : Nat) (hi : i < 5) : ∃ n, ∃ t, ([.int i0 j0, .int i1 j1, .int i2 j2, .int i3 j3, .int i4 j4, .int i5 j5, .int i6 j6] : List Value)[i]? = some (.int n t) := by
  (run_tac sh0)
  match i, hi with
  | 0, _ => exact ⟨_, _, rfl⟩
  | 1, _ => exact ⟨_, _, rfl⟩
  | 2, _ => exact ⟨_, _, rfl⟩
  | 3, _ => exact ⟨_, _, rfl⟩
  | 4, _ => exact ⟨_, _, rfl⟩
  (run_tac sh1)
theorem five {α : Type} (l : List α) (h : l.length = 5) : ∃ a b c d e, l = [a, b, c, d, e] := by
  match l, h with
  | [a, b, c, d, e], _ => exact ⟨a, b, c, d, e, rfl⟩
section
variable {w : World} {A₀ A : Around} {base h₀ : Heap} {outer : List Env} {env : Env} {L : Addr} {m : Str → Option Value} {p : Program} {loose : List Str} {mean : ExcName → Option Value} {mg mb : Str → Option Value}
    {s : Shared} {Q : Value → Shared → Prop} {E : Value → Shared → Prop}
theorem law3 {R : Addr} {r md dmd : Addr} {em : Int} {tm : Tok} {nm : Nat} {dr : Addr} {n2 : Nat} {f1 f2 f3 f4 f5 f6 : Int} {g1 g2 g3 g4 g5 g6 u1 u2 : Tok} {v3 v4 v5 v6 : Value} {gl : Addr} {kG : Nat} {i0 i1 i2 i3 i4 i5 i6 : Int} {j0 j1 j2 j3 j4 j5 j6 : Tok} {ps1 ps2 : Array Value} {kR : Nat} {o1 o2 o3 o4 : Obj} {c1 c3 c4 : Option Value} {rest : List (Addr × Obj)}
    (B : Below A₀ h₀ [] h₀) (F : Fr h₀ L s.heap m) (X : (Mine.hd.heap_39 w.params).In h₀) (T : Top p loose mean mg mb h₀) (hd : A₀.depth ≤ 310) (hu : A₀.units ≤ 3100) (hh : A₀.handled = none) (hg : AllBare s.gens)
    (N : News h₀ L s.heap ((742, tabObj ps1) :: (695, tabObj ps2) :: (R, listOf #[] kR) :: (L+4, o4) :: (L+3, o3) :: (L+2, o2) :: (L+1, o1) :: rest)) (hE : PassesOwn (model PySem.Challenge.rw_ix0027_01.row.prog w) (A₀.deeper (lawEnv L)) (lawEnv L) E) (hm : m (Str.ofString "module") = some (.ref md)) (hmg : m (Str.ofString "given") = some (.ref gl)) (d1 : o1.data = .cell c1) (d2 : o2.data = .cell (some (.ref R))) (d3 : o3.data = .cell c3) (d4 : o4.data = .cell c4) (hmod : ∀ h, Holds h rest → (h.get? md = some (instObj 983 dmd) ∧ h.get? dmd = some (modD r em tm nm)) ∧ h.get? r = some (instObj 392 dr) ∧ h.get? dr = some (ringD f1 f2 f3 f4 f5 f6 g1 g2 g3 g4 g5 g6 u1 u2 v3 v4 v5 v6 n2)) (hgv : ∀ h, Holds h rest → h.get? gl = some (listOf (List.toArray [.int i0 j0, .int i1 j1, .int i2 j2, .int i3 j3, .int i4 j4, .int i5 j5, .int i6 j6]) kG)) (hoff : OffC L rest) (hRo : @Ne Nat R (L+4) ∧ @Ne Nat R (L+3) ∧ @Ne Nat R (L+2) ∧ @Ne Nat R (L+1)) (hRr : ∀ p ∈ rest, @Ne Nat p.1 R) (h0 : ∀ P ∈ tabs, h₀.get? P = none) (hLt : L ∉ tabs) (hz7 : @LT.lt Nat instLTNat 742 h₀.objs.size) (r1 : TriplesOk ps1.toList) (r2 : TriplesOk ps2.toList) (hNT : ∀ p ∈ rest, NotTab p.2) (hRt : @Ne Nat 742 R ∧ @Ne Nat 695 R)
    {QF : Flow → Shared → Prop} (hQ : LawQT h₀ L s QF) :
    wpAny (model PySem.Challenge.rw_ix0027_01.row.prog w) (A₀.deeper (lawEnv L)) (execs lawRest3 (lawEnv L)) QF E s := by
  (run_tac sh0)
  obtain ⟨hp, gs, drw, tk, os⟩ := s
  (try dsimp only at *)
  have hh' : (A₀.deeper (lawEnv L)).handled = none := by first | exact hh | rfl
  unfold lawRest3 lawEnv lawScope lawPickS lawTl
  repeat ((fail_if_success (with_reducible refine stop_For' ?_)); (first | walk1 | dsimp only))
  refine' forRL (L := L) (n := 5) (hE := hE) (hk := ?hk) (hx := ?hx) (hs := ?hs) ?hh ?henv ?_
  case hh => assumption
  case henv => rfl
  case hk => rfl
  case hx => rfl
  case hs => (intro _; rfl)
  repeat ((fail_if_success (with_reducible refine stop_ForRL ?_)); (first | walk1 | dsimp only))
  refine' ⟨_, _, _, _, h₀, _, (742, tabObj ps1) :: (695, tabObj ps2) :: (R, listOf #[] kR) :: (L+4, o4) :: (L+3, o3) :: (L+2, o2) :: (L+1, o1) :: rest, KJ L R md gl r dr dmd (modD r em tm nm) (ringD f1 f2 f3 f4 f5 f6 g1 g2 g3 g4 g5 g6 u1 u2 v3 v4 v5 v6 n2) (listOf (List.toArray [.int i0 j0, .int i1 j1, .int i2 j2, .int i3 j3, .int i4 j4, .int i5 j5, .int i6 j6]) kG) o1 o2 o3 o4 (tabObj ps1) (tabObj ps2), rfl, ?qr, ?qs, ?qn, ?qF, ?qN, ?J0, ?turn, ?done⟩
  case qr => assumption
  case qs => decide
  case qn => rfl
  case qF => k_asm
  case qN => exact (news_sub (by ((with_reducible rename News _ _ _ _ => nwst); exact nwst)) (fun p hp => hp))
  case J0 => exact ⟨[], kR, rest, hm, hmg, rfl, rfl, (fun u hu => nomatch hu), hmod, hgv, hoff, hRr, hNT⟩
  case turn =>
    rintro i m₁ news₁ I oI h₂ tk₂ ti hi ⟨vs, kR', rest', qm, qmg, rfl, hvl, hvs, qmod, qgv, qoff, qRr, qNT⟩ hne F₂ N₂
    obtain ⟨nI, hgi⟩ := int_at5 (i0 := i0) (i1 := i1) (i2 := i2) (i3 := i3) (i4 := i4) (i5 := i5) (i6 := i6) (j0 := j0) (j1 := j1) (j2 := j2) (j3 := j3) (j4 := j4) (j5 := j5) (j6 := j6) i hi
    obtain ⟨tI, hgi⟩ := hgi
    have hgl := isList_of (qgv _ (holds_of (rest := rest') (by ((with_reducible rename News _ _ _ _ => nwst); exact nwst)) (fun p hp => by repeat (first | exact hp | apply List.mem_cons_of_mem))))
    repeat ((fail_if_success (with_reducible refine (stop_Name (x := Str.ofString "given")) ?_)); (first | walk1 | dsimp only))
    refine' nameX_L ?F (v := .ref gl) ?hgm ?_
    case F => k_asm
    case hgm => exact qmg
    repeat ((fail_if_success (with_reducible refine stop_tail ?_)); (first | walk1 | dsimp only))
    refine item_any (vs := [.int i0 j0, .int i1 j1, .int i2 j2, .int i3 j3, .int i4 j4, .int i5 j5, .int i6 j6]) (k := (i : Int)) (v := .int nI tI) hgl (by omega) (by omega) (by simpa using hgi) ?_
    repeat ((fail_if_success (with_reducible refine stop_call (f := 999) ?_)); (first | walk1 | dsimp only))
    refine' c_row ?B ?F ?X ?T (frames_in ?B) ?hf ?hk ?hd ?hu ?hh ?q0 ?q1 ?ret
    case B => k_asm
    case F => k_asm
    case X => k_asm
    case T => k_asm
    case hf => rfl
    case hk => rfl
    case hd => k_room
    case hu => k_room
    case hh => first | assumption | rfl
    case q0 => omega
    case q1 => omega
    case ret =>
      intro v₄ h₄ tk₄ hk₄ post₄
      obtain ⟨l₁, vs₁, ns₁, k₁, hl0, rfl, hl, hI₁, hlen₁, hsm₁⟩ := post₄
      have n_l := off5 (R := R) (L := L) (by ((with_reducible rename News _ _ _ _ => nwst); exact nwst)) hl0 (by k_mem) (by k_mem) (by k_mem) (by k_mem) (by k_mem)
      have i_l := offI (I := I) (by ((with_reducible rename News _ _ _ _ => nwst); exact nwst)) hl0 (by k_mem)
      have cF₄ := Fr.keeps (by k_asm) hk₄
      have cN₄ := News.grown (by k_asm) hk₄
      replace cN₄ := news_add (by k_asm) cN₄ hl0 hl
      k_sweep
      repeat ((fail_if_success (with_reducible refine (stop_getM (n := Str.ofString "append")) ?_)); (first | walk1 | dsimp only))
      refine' listMethod_K ?gmN ?gmm PySem.F.slot_list_append PySem.F.type_list_append ?_
      case gmN => ((with_reducible rename News _ _ _ _ => nwst); exact nwst)
      case gmm => k_mem
      repeat ((fail_if_success (with_reducible refine (stop_Name (x := Str.ofString "module")) ?_)); (first | walk1 | dsimp only))
      refine' nameX_L ?F (v := .ref md) ?hmm ?_
      case F => k_asm
      case hmm => exact qm
      obtain ⟨⟨hmd, hdmd⟩, hr, hdr⟩ := qmod _ (holds_of (rest := rest') (by ((with_reducible rename News _ _ _ _ => nwst); exact nwst)) (fun p hp => by repeat (first | exact hp | apply List.mem_cons_of_mem)))
      repeat ((fail_if_success (with_reducible refine stop_tail ?_)); (first | walk1 | dsimp only))
      refine' kmk_slice_ints (ns := ns₁) (ms := ns₁) (c := 256) ?ksF ?ksN ?ksl ?ksp ?ksq ?ksi ?ksm ?ksc ?_ ?kss ?kst ?ksz
      case ksF => k_asm
      case ksN => ((with_reducible rename News _ _ _ _ => nwst); exact nwst)
      case ksl => exact News.isList (by ((with_reducible rename News _ _ _ _ => nwst); exact nwst)) (by k_mem)
      case ksp => exact IsPart.none
      case ksq => exact IsPart.none
      case ksi => exact hI₁
      case ksm => exact kmk_all hI₁
      case ksc => exact hlen₁
      case kss => with_unfolding_all rfl
      case kst => kmk_pure
      case ksz => exact kmk_sz hI₁ (by rw [hlen₁]; decide)
      intro Dz wz hz' Fz Nz lz₁ hIz hCz hLz
      k_lt lz₁
      k_sweep
      repeat ((fail_if_success (with_reducible refine stop_kco ?_)); (first | walk1 | dsimp only))
      obtain ⟨⟨hmd, hdmd⟩, hr, hdr⟩ := qmod _ (holds_of (rest := rest') (by ((with_reducible rename News _ _ _ _ => nwst); exact nwst)) (fun p hp => by repeat (first | exact hp | apply List.mem_cons_of_mem)))
      repeat ((fail_if_success (with_reducible refine stop_call (f := r) ?_)); (first | walk1 | dsimp only))
      obtain ⟨⟨hmd, hdmd⟩, hr, hdr⟩ := qmod _ (holds_of (rest := rest') (by ((with_reducible rename News _ _ _ _ => nwst); exact nwst)) (fun p hp => by repeat (first | exact hp | apply List.mem_cons_of_mem)))
      repeat ((fail_if_success (with_reducible refine stop_call (f := r) ?_)); (first | walk1 | dsimp only))
      refine' own_call (f := 382) ?X ?I ?k3 ?hs ?hf ?hfn ?_
      case X => k_in
      case I => exact InstAt.mk (od := some _) hr rfl rfl hdr
      case k3 => exact rfl
      case hs => k_is
      case hf => k_is
      case hfn => k_is
      refine' c_ring ?B ?F ?X ?T (frames_in ?B) ?hf ?hk ?hd ?hu ?hh ?q0 ?q1 ?q2 ?q3 ?ret
      case B => k_asm
      case F => k_asm
      case X => k_asm
      case T => k_asm
      case hf => rfl
      case hk => rfl
      case hd => k_room
      case hu => k_room
      case hh => first | assumption | rfl
      case q0 => exact ⟨dr, n2, f1, f2, f3, f4, f5, f6, g1, g2, g3, g4, g5, g6, u1, u2, v3, v4, v5, v6, hr, hdr⟩
      case q1 => exact News.isList (by ((with_reducible rename News _ _ _ _ => nwst); exact nwst)) (by k_mem)
      case q2 => exact hIz
      case q3 => exact hlen₁
      case ret =>
        intro v₄ h₄ tk₄ hk₄ post₄
        obtain ⟨z₁, dz₁, e1, e2, t1, t2, n5, rfl, hz0, hdz0, hz, hdz⟩ := post₄
        have n_z := off5 (R := R) (L := L) (by ((with_reducible rename News _ _ _ _ => nwst); exact nwst)) hz0 (by k_mem) (by k_mem) (by k_mem) (by k_mem) (by k_mem)
        have i_z := offI (I := I) (by ((with_reducible rename News _ _ _ _ => nwst); exact nwst)) hz0 (by k_mem)
        have n_d := off5 (R := R) (L := L) (by ((with_reducible rename News _ _ _ _ => nwst); exact nwst)) hdz0 (by k_mem) (by k_mem) (by k_mem) (by k_mem) (by k_mem)
        have i_d := offI (I := I) (by ((with_reducible rename News _ _ _ _ => nwst); exact nwst)) hdz0 (by k_mem)
        have cF₄ := Fr.keeps (by k_asm) hk₄
        have cN₄ := News.grown (by k_asm) hk₄
        replace cN₄ := news_add (by k_asm) cN₄ hdz0 hdz
        replace cN₄ := news_add (by k_asm) cN₄ hz0 hz
        k_sweep
        have hneR : @Ne Nat R I := hne _ (.tail _ (.tail _ (.head _)))
        have hner : ∀ p ∈ rest', @Ne Nat p.1 I := fun p hp => hne p (.tail _ (.tail _ (.tail _ (.tail _ (.tail _ (.tail _ (.tail _ hp)))))))
        obtain ⟨⟨n_l1, n_l2, n_l3, n_l4⟩, n_l5⟩ := n_l
        obtain ⟨⟨n_z1, n_z2, n_z3, n_z4⟩, n_z5⟩ := n_z
        obtain ⟨⟨n_d1, n_d2, n_d3, n_d4⟩, n_d5⟩ := n_d
        obtain ⟨hRo1, hRo2, hRo3, hRo4⟩ := id hRo
        obtain ⟨hRt1, hRt2⟩ := id hRt
        repeat (obtain ⟨_, lz₁⟩ := lz₁)
        repeat ((fail_if_success (with_reducible refine stop_builtin (f := "list.append") ?_)); (first | walk1 | dsimp only))
        (rename News _ _ _ _ => NN)
        obtain ⟨T₁, rfl⟩ := name_head NN
        (rename _ < _ ∧ _ => lqa)
        repeat (obtain ⟨_, lqa⟩ := lqa)
        replace lqa := kst_ltOf lqa
        have N₉ := (news_sub (news' := (R, listOf (List.toArray vs) kR') :: (I, oI) :: (742, _) :: (695, _) :: (L+4, o4) :: (L+3, o3) :: (L+2, o2) :: (L+1, o1) :: (T₁, pairOf (.ref l₁) (.ref z₁)) :: (l₁, listOf (List.toArray vs₁) _) :: (z₁, instObj 592 dz₁) :: (dz₁, polyD r (.ref Dz) _ _ _ _ _) :: (Dz, listOf (List.toArray wz) _) :: rest') (by ((with_reducible rename News _ _ _ _ => nwst); exact nwst)) (fun p hp => by
          rcases List.mem_cons.mp hp with rfl | hp; · k_mem
          rcases List.mem_cons.mp hp with rfl | hp; · k_mem
          rcases List.mem_cons.mp hp with rfl | hp; · k_mem
          rcases List.mem_cons.mp hp with rfl | hp; · k_mem
          rcases List.mem_cons.mp hp with rfl | hp; · k_mem
          rcases List.mem_cons.mp hp with rfl | hp; · k_mem
          rcases List.mem_cons.mp hp with rfl | hp; · k_mem
          rcases List.mem_cons.mp hp with rfl | hp; · k_mem
          rcases List.mem_cons.mp hp with rfl | hp; · k_mem
          rcases List.mem_cons.mp hp with rfl | hp; · k_mem
          rcases List.mem_cons.mp hp with rfl | hp; · k_mem
          rcases List.mem_cons.mp hp with rfl | hp; · k_mem
          rcases List.mem_cons.mp hp with rfl | hp; · k_mem
          repeat (first | exact hp | apply List.mem_cons_of_mem)))
        refine' append_K ?apF N₉ (Upd.head (fun p hp => ?apn)) ?_ ?apz
        case apF => k_asm
        case apz => (rw [List.size_toArray, hvl]; exact Nat.le_trans (Nat.le_of_lt hi) (by decide))
        case apn =>
          rcases List.mem_cons.mp hp with rfl | hp; · (show @Ne Nat _ _; (first | with_reducible assumption | exact Ne.symm (by with_reducible assumption) | exact Nat.ne_of_gt (by with_reducible assumption) | exact Nat.ne_of_lt (by with_reducible assumption) | omega))
          rcases List.mem_cons.mp hp with rfl | hp; · (show @Ne Nat _ _; (first | with_reducible assumption | exact Ne.symm (by with_reducible assumption) | exact Nat.ne_of_gt (by with_reducible assumption) | exact Nat.ne_of_lt (by with_reducible assumption) | omega))
          rcases List.mem_cons.mp hp with rfl | hp; · (show @Ne Nat _ _; (first | with_reducible assumption | exact Ne.symm (by with_reducible assumption) | exact Nat.ne_of_gt (by with_reducible assumption) | exact Nat.ne_of_lt (by with_reducible assumption) | omega))
          rcases List.mem_cons.mp hp with rfl | hp; · (show @Ne Nat _ _; (first | with_reducible assumption | exact Ne.symm (by with_reducible assumption) | exact Nat.ne_of_gt (by with_reducible assumption) | exact Nat.ne_of_lt (by with_reducible assumption) | omega))
          rcases List.mem_cons.mp hp with rfl | hp; · (show @Ne Nat _ _; (first | with_reducible assumption | exact Ne.symm (by with_reducible assumption) | exact Nat.ne_of_gt (by with_reducible assumption) | exact Nat.ne_of_lt (by with_reducible assumption) | omega))
          rcases List.mem_cons.mp hp with rfl | hp; · (show @Ne Nat _ _; (first | with_reducible assumption | exact Ne.symm (by with_reducible assumption) | exact Nat.ne_of_gt (by with_reducible assumption) | exact Nat.ne_of_lt (by with_reducible assumption) | omega))
          rcases List.mem_cons.mp hp with rfl | hp; · (show @Ne Nat _ _; (first | with_reducible assumption | exact Ne.symm (by with_reducible assumption) | exact Nat.ne_of_gt (by with_reducible assumption) | exact Nat.ne_of_lt (by with_reducible assumption) | omega))
          rcases List.mem_cons.mp hp with rfl | hp; · (show @Ne Nat _ _; (first | with_reducible assumption | exact Ne.symm (by with_reducible assumption) | exact Nat.ne_of_gt (by with_reducible assumption) | exact Nat.ne_of_lt (by with_reducible assumption) | omega))
          rcases List.mem_cons.mp hp with rfl | hp; · (show @Ne Nat _ _; (first | with_reducible assumption | exact Ne.symm (by with_reducible assumption) | exact Nat.ne_of_gt (by with_reducible assumption) | exact Nat.ne_of_lt (by with_reducible assumption) | omega))
          rcases List.mem_cons.mp hp with rfl | hp; · (show @Ne Nat _ _; (first | with_reducible assumption | exact Ne.symm (by with_reducible assumption) | exact Nat.ne_of_gt (by with_reducible assumption) | exact Nat.ne_of_lt (by with_reducible assumption) | omega))
          rcases List.mem_cons.mp hp with rfl | hp; · (show @Ne Nat _ _; (first | with_reducible assumption | exact Ne.symm (by with_reducible assumption) | exact Nat.ne_of_gt (by with_reducible assumption) | exact Nat.ne_of_lt (by with_reducible assumption) | omega))
          rcases List.mem_cons.mp hp with rfl | hp; · (show @Ne Nat _ _; (first | with_reducible assumption | exact Ne.symm (by with_reducible assumption) | exact Nat.ne_of_gt (by with_reducible assumption) | exact Nat.ne_of_lt (by with_reducible assumption) | omega))
          exact qRr p hp
        intro h₆ F₆ N₆
        (try rw [List.push_toArray] at N₆)
        k_sweep
        repeat ((fail_if_success (with_reducible refine stop_TurnRL ?_)); (first | walk1 | dsimp only))
        refine' ⟨_, _, _, _, rfl, ?yF, ?yN, ?yn, vs ++ [.ref T₁], _, (T₁, pairOf (.ref l₁) (.ref z₁)) :: (l₁, listOf (List.toArray vs₁) _) :: (z₁, instObj 592 dz₁) :: (dz₁, polyD r (.ref Dz) _ _ _ _ _) :: (Dz, listOf (List.toArray wz) _) :: rest', ?ym, ?yg, rfl, ?yl, ?yv, ?yM, ?yG, ?yO, ?yR, ?yT⟩
        case yF => k_asm
        case yN => exact (news_sub (by ((with_reducible rename News _ _ _ _ => nwst); exact nwst)) (fun p hp => by
          rcases List.mem_cons.mp hp with rfl | hp; · k_mem
          rcases List.mem_cons.mp hp with rfl | hp; · k_mem
          rcases List.mem_cons.mp hp with rfl | hp; · k_mem
          rcases List.mem_cons.mp hp with rfl | hp; · k_mem
          rcases List.mem_cons.mp hp with rfl | hp; · k_mem
          rcases List.mem_cons.mp hp with rfl | hp; · k_mem
          rcases List.mem_cons.mp hp with rfl | hp; · k_mem
          rcases List.mem_cons.mp hp with rfl | hp; · k_mem
          rcases List.mem_cons.mp hp with rfl | hp; · k_mem
          rcases List.mem_cons.mp hp with rfl | hp; · k_mem
          rcases List.mem_cons.mp hp with rfl | hp; · k_mem
          rcases List.mem_cons.mp hp with rfl | hp; · k_mem
          rcases List.mem_cons.mp hp with rfl | hp; · k_mem
          repeat (first | exact hp | apply List.mem_cons_of_mem)))
        case ym => exact qm
        case yg => exact qmg
        case yl => (rw [List.length_append, hvl]; rfl)
        case yv =>
          intro u hu
          rcases List.mem_append.mp hu with hu | hu
          · obtain ⟨ns, H⟩ := hvs u hu
            exact ⟨ns, H.sub fun p hp => .tail _ (.tail _ (.tail _ (.tail _ (.tail _ (hp)))))⟩
          · rw [List.mem_singleton.mp hu]
            exact ⟨ns₁, T₁, l₁, z₁, dz₁, Dz, _, _, _, vs₁, wz, _, _, _, _, rfl, .head _, .tail _ (.head _), .tail _ (.tail _ (.head _)), .tail _ (.tail _ (.tail _ (.head _))), .tail _ (.tail _ (.tail _ (.tail _ (.head _)))), hI₁, hIz, hlen₁, hsm₁⟩
        case yM => exact fun h H => qmod h (fun p hp => H p (.tail _ (.tail _ (.tail _ (.tail _ (.tail _ (hp)))))))
        case yG => exact fun h H => qgv h (fun p hp => H p (.tail _ (.tail _ (.tail _ (.tail _ (.tail _ (hp)))))))
        case yn =>
          intro p hp
          rcases List.mem_cons.mp hp with rfl | hp; · exact hne _ (by k_mem)
          rcases List.mem_cons.mp hp with rfl | hp; · exact hne _ (by k_mem)
          rcases List.mem_cons.mp hp with rfl | hp; · exact hneR
          rcases List.mem_cons.mp hp with rfl | hp; · exact hne _ (by k_mem)
          rcases List.mem_cons.mp hp with rfl | hp; · exact hne _ (by k_mem)
          rcases List.mem_cons.mp hp with rfl | hp; · exact hne _ (by k_mem)
          rcases List.mem_cons.mp hp with rfl | hp; · exact hne _ (by k_mem)
          rcases List.mem_cons.mp hp with rfl | hp; · (show @Ne Nat _ _; (first | with_reducible assumption | exact Ne.symm (by with_reducible assumption) | exact Nat.ne_of_gt (by with_reducible assumption) | exact Nat.ne_of_lt (by with_reducible assumption) | omega))
          rcases List.mem_cons.mp hp with rfl | hp; · (show @Ne Nat _ _; (first | with_reducible assumption | exact Ne.symm (by with_reducible assumption) | exact Nat.ne_of_gt (by with_reducible assumption) | exact Nat.ne_of_lt (by with_reducible assumption) | omega))
          rcases List.mem_cons.mp hp with rfl | hp; · (show @Ne Nat _ _; (first | with_reducible assumption | exact Ne.symm (by with_reducible assumption) | exact Nat.ne_of_gt (by with_reducible assumption) | exact Nat.ne_of_lt (by with_reducible assumption) | omega))
          rcases List.mem_cons.mp hp with rfl | hp; · (show @Ne Nat _ _; (first | with_reducible assumption | exact Ne.symm (by with_reducible assumption) | exact Nat.ne_of_gt (by with_reducible assumption) | exact Nat.ne_of_lt (by with_reducible assumption) | omega))
          rcases List.mem_cons.mp hp with rfl | hp; · (show @Ne Nat _ _; (first | with_reducible assumption | exact Ne.symm (by with_reducible assumption) | exact Nat.ne_of_gt (by with_reducible assumption) | exact Nat.ne_of_lt (by with_reducible assumption) | omega))
          exact hner p hp
        case yO =>
          intro p hp
          rcases List.mem_cons.mp hp with rfl | hp; · (refine ⟨?_, ?_, ?_, ?_⟩ <;> (show @Ne Nat _ _; (first | with_reducible assumption | exact Ne.symm (by with_reducible assumption) | exact Nat.ne_of_gt (by with_reducible assumption) | exact Nat.ne_of_lt (by with_reducible assumption) | omega)))
          rcases List.mem_cons.mp hp with rfl | hp; · (refine ⟨?_, ?_, ?_, ?_⟩ <;> (show @Ne Nat _ _; (first | with_reducible assumption | exact Ne.symm (by with_reducible assumption) | exact Nat.ne_of_gt (by with_reducible assumption) | exact Nat.ne_of_lt (by with_reducible assumption) | omega)))
          rcases List.mem_cons.mp hp with rfl | hp; · (refine ⟨?_, ?_, ?_, ?_⟩ <;> (show @Ne Nat _ _; (first | with_reducible assumption | exact Ne.symm (by with_reducible assumption) | exact Nat.ne_of_gt (by with_reducible assumption) | exact Nat.ne_of_lt (by with_reducible assumption) | omega)))
          rcases List.mem_cons.mp hp with rfl | hp; · (refine ⟨?_, ?_, ?_, ?_⟩ <;> (show @Ne Nat _ _; (first | with_reducible assumption | exact Ne.symm (by with_reducible assumption) | exact Nat.ne_of_gt (by with_reducible assumption) | exact Nat.ne_of_lt (by with_reducible assumption) | omega)))
          rcases List.mem_cons.mp hp with rfl | hp; · (refine ⟨?_, ?_, ?_, ?_⟩ <;> (show @Ne Nat _ _; (first | with_reducible assumption | exact Ne.symm (by with_reducible assumption) | exact Nat.ne_of_gt (by with_reducible assumption) | exact Nat.ne_of_lt (by with_reducible assumption) | omega)))
          exact qoff p hp
        case yR =>
          intro p hp
          rcases List.mem_cons.mp hp with rfl | hp; · (show @Ne Nat _ _; (first | with_reducible assumption | exact Ne.symm (by with_reducible assumption) | exact Nat.ne_of_gt (by with_reducible assumption) | exact Nat.ne_of_lt (by with_reducible assumption) | omega))
          rcases List.mem_cons.mp hp with rfl | hp; · (show @Ne Nat _ _; (first | with_reducible assumption | exact Ne.symm (by with_reducible assumption) | exact Nat.ne_of_gt (by with_reducible assumption) | exact Nat.ne_of_lt (by with_reducible assumption) | omega))
          rcases List.mem_cons.mp hp with rfl | hp; · (show @Ne Nat _ _; (first | with_reducible assumption | exact Ne.symm (by with_reducible assumption) | exact Nat.ne_of_gt (by with_reducible assumption) | exact Nat.ne_of_lt (by with_reducible assumption) | omega))
          rcases List.mem_cons.mp hp with rfl | hp; · (show @Ne Nat _ _; (first | with_reducible assumption | exact Ne.symm (by with_reducible assumption) | exact Nat.ne_of_gt (by with_reducible assumption) | exact Nat.ne_of_lt (by with_reducible assumption) | omega))
          rcases List.mem_cons.mp hp with rfl | hp; · (show @Ne Nat _ _; (first | with_reducible assumption | exact Ne.symm (by with_reducible assumption) | exact Nat.ne_of_gt (by with_reducible assumption) | exact Nat.ne_of_lt (by with_reducible assumption) | omega))
          exact qRr p hp
        case yT =>
          intro p hp
          rcases List.mem_cons.mp hp with rfl | hp; · exact nt_cls (fun q => nomatch q)
          rcases List.mem_cons.mp hp with rfl | hp; · exact nt_cls (fun q => nomatch q)
          rcases List.mem_cons.mp hp with rfl | hp; · exact nt_cls (fun q => nomatch q)
          rcases List.mem_cons.mp hp with rfl | hp; · exact nt_cls (fun q => nomatch q)
          rcases List.mem_cons.mp hp with rfl | hp; · exact nt_cls (fun q => nomatch q)
          exact qNT p hp
  case done =>
    rintro h₄ tk₄ m₁ news₁ ⟨vs, kR', rest', qm, qmg, rfl, hvl, hvs, qmod, qgv, qoff, qRr, qNT⟩ F₄ N₄
    obtain ⟨U0, U1, U2, U3, U4, rfl⟩ := five vs hvl
    obtain ⟨N0, hr0⟩ := hvs U0 (by simp)
    obtain ⟨N1, hr1⟩ := hvs U1 (by simp)
    obtain ⟨N2, hr2⟩ := hvs U2 (by simp)
    obtain ⟨N3, hr3⟩ := hvs U3 (by simp)
    obtain ⟨N4, hr4⟩ := hvs U4 (by simp)
    repeat ((fail_if_success (with_reducible refine stop_ex ?_)); (first | walk1 | dsimp only))
    exact law4 (rest := rest') (hE := hE) B F₄ X T hd hu hh hg N₄ qm qmg d1 d2 d3 d4 qmod qgv qoff hRo qRr h0 hLt hz7 r1 r2 qNT hr0 hr1 hr2 hr3 hr4 (fun h' tk gs m' a b c t e => hQ h' tk gs m' a b c t e)
  (run_tac sh1)

end

theorem fresh_48 : True := by
  w_top off
  trivial
section
variable {w : World} {A₀ A : Around} {base h₀ : Heap} {outer : List Env} {env : Env} {L : Addr} {m : Str → Option Value} {p : Program} {loose : List Str} {mean : ExcName → Option Value} {mg mb : Str → Option Value}
    {s : Shared} {Q : Value → Shared → Prop} {E : Value → Shared → Prop}
theorem law2 {r md dmd : Addr} {em : Int} {tm : Tok} {nm : Nat} {dr : Addr} {n2 : Nat} {f1 f2 f3 f4 f5 f6 : Int} {g1 g2 g3 g4 g5 g6 u1 u2 : Tok} {v3 v4 v5 v6 : Value} {gl : Addr} {kG : Nat} {i0 i1 i2 i3 i4 i5 i6 : Int} {j0 j1 j2 j3 j4 j5 j6 : Tok} {ps1 ps2 : Array Value} {o1 o2 o3 o4 : Obj} {c1 c2 c3 c4 : Option Value} {rest : List (Addr × Obj)}
    (B : Below A₀ h₀ [] h₀) (F : Fr h₀ L s.heap m) (X : (Mine.hd.heap_39 w.params).In h₀) (T : Top p loose mean mg mb h₀) (hd : A₀.depth ≤ 310) (hu : A₀.units ≤ 3100) (hh : A₀.handled = none) (hg : AllBare s.gens)
    (N : News h₀ L s.heap ((742, tabObj ps1) :: (695, tabObj ps2) :: (L+4, o4) :: (L+3, o3) :: (L+2, o2) :: (L+1, o1) :: rest)) (hE : PassesOwn (model PySem.Challenge.rw_ix0027_01.row.prog w) (A₀.deeper (lawEnv L)) (lawEnv L) E) (hm : m (Str.ofString "module") = some (.ref md)) (hmg : m (Str.ofString "given") = some (.ref gl)) (d1 : o1.data = .cell c1) (d2 : o2.data = .cell c2) (d3 : o3.data = .cell c3) (d4 : o4.data = .cell c4) (hmod : ∀ h, Holds h rest → (h.get? md = some (instObj 983 dmd) ∧ h.get? dmd = some (modD r em tm nm)) ∧ h.get? r = some (instObj 392 dr) ∧ h.get? dr = some (ringD f1 f2 f3 f4 f5 f6 g1 g2 g3 g4 g5 g6 u1 u2 v3 v4 v5 v6 n2)) (hgv : ∀ h, Holds h rest → h.get? gl = some (listOf (List.toArray [.int i0 j0, .int i1 j1, .int i2 j2, .int i3 j3, .int i4 j4, .int i5 j5, .int i6 j6]) kG)) (hoff : OffC L rest) (h0 : ∀ P ∈ tabs, h₀.get? P = none) (hLt : L ∉ tabs) (hz7 : @LT.lt Nat instLTNat 742 h₀.objs.size) (r1 : TriplesOk ps1.toList) (r2 : TriplesOk ps2.toList) (hNT : ∀ p ∈ rest, NotTab p.2) (hL7 : @LT.lt Nat instLTNat 742 L)
    {QF : Flow → Shared → Prop} (hQ : LawQT h₀ L s QF) :
    wpAny (model PySem.Challenge.rw_ix0027_01.row.prog w) (A₀.deeper (lawEnv L)) (execs lawRest2 (lawEnv L)) QF E s := by
  (run_tac sh0)
  obtain ⟨hp, gs, drw, tk, os⟩ := s
  (try dsimp only at *)
  have hh' : (A₀.deeper (lawEnv L)).handled = none := by first | exact hh | rfl
  unfold lawRest2 lawEnv lawScope lawPickS lawTl
  repeat ((fail_if_success (with_reducible refine stop_store ?_)); (first | walk1 | dsimp only))
  (rename News _ _ _ _ => NN)
  obtain ⟨R, rfl⟩ := name_head NN
  (rename _ < _ ∧ _ => lq)
  obtain ⟨q742, q695, q4, q3, q2, q1, lq⟩ := lq
  replace lq := kst_ltOf lq
  have N₉ := (news_sub (news' := (L+2, o2) :: (R, listOf #[] 0) :: (742, tabObj ps1) :: (695, tabObj ps2) :: (L+4, o4) :: (L+3, o3) :: (L+1, o1) :: rest) NN (fun p hp => by
    rcases List.mem_cons.mp hp with rfl | hp; · k_mem
    rcases List.mem_cons.mp hp with rfl | hp; · k_mem
    rcases List.mem_cons.mp hp with rfl | hp; · k_mem
    rcases List.mem_cons.mp hp with rfl | hp; · k_mem
    rcases List.mem_cons.mp hp with rfl | hp; · k_mem
    rcases List.mem_cons.mp hp with rfl | hp; · k_mem
    rcases List.mem_cons.mp hp with rfl | hp; · k_mem
    repeat (first | exact hp | apply List.mem_cons_of_mem)))
  refine' storeX_C ?scF N₉ ?scc (UpdF.head (fun p hp => ?scn)) ?scd ?_
  case scF => k_asm
  case scc => rfl
  case scn =>
    rcases List.mem_cons.mp hp with rfl | hp; · (show @Ne Nat _ _; omega)
    rcases List.mem_cons.mp hp with rfl | hp; · (show @Ne Nat _ _; omega)
    rcases List.mem_cons.mp hp with rfl | hp; · (show @Ne Nat _ _; omega)
    rcases List.mem_cons.mp hp with rfl | hp; · (show @Ne Nat _ _; omega)
    rcases List.mem_cons.mp hp with rfl | hp; · (show @Ne Nat _ _; omega)
    rcases List.mem_cons.mp hp with rfl | hp; · (show @Ne Nat _ _; omega)
    have hx := hoff p hp
    show @Ne Nat _ _
    omega
  case scd => assumption
  intro h₅ o₅ F₅ N₅ d₅
  (try dsimp only at N₅)
  k_sweep
  repeat ((fail_if_success (with_reducible refine stop_ex ?_)); (first | walk1 | dsimp only))
  refine' law3 (rest := rest) (hE := hE) B F₅ X T hd hu hh hg (news_sub (news' := (742, tabObj ps1) :: (695, tabObj ps2) :: (R, listOf #[] 0) :: (L+4, o4) :: (L+3, o3) :: (L+2, o₅) :: (L+1, o1) :: rest) N₅ (fun p hp => by
    rcases List.mem_cons.mp hp with rfl | hp; · k_mem
    rcases List.mem_cons.mp hp with rfl | hp; · k_mem
    rcases List.mem_cons.mp hp with rfl | hp; · k_mem
    rcases List.mem_cons.mp hp with rfl | hp; · k_mem
    rcases List.mem_cons.mp hp with rfl | hp; · k_mem
    rcases List.mem_cons.mp hp with rfl | hp; · k_mem
    rcases List.mem_cons.mp hp with rfl | hp; · k_mem
    repeat (first | exact hp | apply List.mem_cons_of_mem))) hm hmg d1 d₅ d3 d4 hmod hgv hoff ?zo ?zR h0 hLt hz7 r1 r2 hNT ?zt (fun h' tk gs m' a b c t e => hQ h' tk gs m' a b c t e)
  case zo => (refine ⟨?_, ?_, ?_, ?_⟩ <;> (show @Ne Nat _ _; omega))
  case zR => exact fun p hp => Nat.ne_of_lt (lq p hp)
  case zt => (refine ⟨?_, ?_⟩ <;> (show @Ne Nat _ _; omega))
  (run_tac sh1)

end

theorem fresh_49 : True := by
  w_top off
  trivial
section
variable {w : World} {A₀ A : Around} {base h₀ : Heap} {outer : List Env} {env : Env} {L : Addr} {m : Str → Option Value} {p : Program} {loose : List Str} {mean : ExcName → Option Value} {mg mb : Str → Option Value}
    {s : Shared} {Q : Value → Shared → Prop} {E : Value → Shared → Prop}
theorem law1 {gl : Addr} {kG : Nat} {i0 i1 i2 i3 i4 i5 i6 : Int} {j0 j1 j2 j3 j4 j5 j6 : Tok} {ps1 ps2 : Array Value} {o1 o2 o3 o4 : Obj} {c1 c2 c3 c4 : Option Value}
    (B : Below A₀ h₀ [] h₀) (F : Fr h₀ L s.heap m) (X : (Mine.hd.heap_39 w.params).In h₀) (T : Top p loose mean mg mb h₀) (hd : A₀.depth ≤ 310) (hu : A₀.units ≤ 3100) (hh : A₀.handled = none) (hg : AllBare s.gens)
    (N : News h₀ L s.heap ((742, tabObj ps1) :: (695, tabObj ps2) :: (L+4, o4) :: (L+3, o3) :: (L+2, o2) :: (L+1, o1) :: [(gl, listOf (List.toArray [.int i0 j0, .int i1 j1, .int i2 j2, .int i3 j3, .int i4 j4, .int i5 j5, .int i6 j6]) kG)])) (hE : PassesOwn (model PySem.Challenge.rw_ix0027_01.row.prog w) (A₀.deeper (lawEnv L)) (lawEnv L) E) (hmg : m (Str.ofString "given") = some (.ref gl)) (d1 : o1.data = .cell c1) (d2 : o2.data = .cell c2) (d3 : o3.data = .cell c3) (d4 : o4.data = .cell c4) (hgo : @Ne Nat gl (L+4) ∧ @Ne Nat gl (L+3) ∧ @Ne Nat gl (L+2) ∧ @Ne Nat gl (L+1)) (h0 : ∀ P ∈ tabs, h₀.get? P = none) (hLt : L ∉ tabs) (hz7 : @LT.lt Nat instLTNat 742 h₀.objs.size) (r1 : TriplesOk ps1.toList) (r2 : TriplesOk ps2.toList) (hL7 : @LT.lt Nat instLTNat 742 L)
    {QF : Flow → Shared → Prop} (hQ : LawQT h₀ L s QF) :
    wpAny (model PySem.Challenge.rw_ix0027_01.row.prog w) (A₀.deeper (lawEnv L)) (execs lawRest1 (lawEnv L)) QF E s := by
  (run_tac sh0)
  obtain ⟨hp, gs, drw, tk, os⟩ := s
  (try dsimp only at *)
  have hh' : (A₀.deeper (lawEnv L)).handled = none := by first | exact hh | rfl
  unfold lawRest1 lawEnv lawScope lawPickS lawTl
  repeat ((fail_if_success (with_reducible refine stop_call (f := 983) ?_)); (first | walk1 | (dsimp only; walk1) | (leave1; try dsimp only)))
  refine' c_module ?B ?F ?X ?T (frames_in ?B) ?hf ?hk ?hd ?hu ?hh  ?ret
  case B => k_asm
  case F => k_asm
  case X => k_asm
  case T => k_asm
  case hf => rfl
  case hk => rfl
  case hd => k_room
  case hu => k_room
  case hh => first | assumption | rfl
  case ret =>
    intro v₄ h₄ tk₄ hk₄ post₄
    obtain ⟨md, dmd, r, dr, em, tm, nm, n2, f1, f2, f3, f4, f5, f6, g1, g2, g3, g4, g5, g6, u1, u2, v3, v4, v5, v6, p1, p2, p3, p4, pq, pa, pb, pc, pd⟩ := post₄
    have ne1 := news_ne (by k_asm) p1
    have ne2 := news_ne (by k_asm) p2
    have ne3 := news_ne (by k_asm) p3
    have ne4 := news_ne (by k_asm) p4
    (simp only [List.forall_mem_cons, List.not_mem_nil, false_implies, implies_true, and_true] at ne1 ne2 ne3 ne4)
    have cF₄ := Fr.keeps (by k_asm) hk₄
    have cN₄ := News.grown (by k_asm) hk₄
    replace cN₄ := news_add (by k_asm) cN₄ p4 pd
    replace cN₄ := news_add (by k_asm) cN₄ p3 pc
    replace cN₄ := news_add (by k_asm) cN₄ p2 pb
    replace cN₄ := news_add (by k_asm) cN₄ p1 pa
    k_sweep
    repeat ((fail_if_success (with_reducible refine stop_ex ?_)); (first | walk1 | (dsimp only; walk1) | (leave1; try dsimp only)))
    (with_reducible rename Fr _ _ _ _ => FF)
    (with_reducible rename News _ _ _ _ => NN)
    refine' law2 (rest := [(_, instObj 983 _), (_, modD _ _ _ _), (_, instObj 392 _), (_, ringD _ _ _ _ _ _ _ _ _ _ _ _ _ _ _ _ _ _ _), (gl, listOf (List.toArray [.int i0 j0, .int i1 j1, .int i2 j2, .int i3 j3, .int i4 j4, .int i5 j5, .int i6 j6]) kG)]) (hE := hE) B FF X T hd hu hh ?hgs ?zN ?hm ?hmg d1 d2 d3 d4 ?zm ?zg ?zo h0 hLt hz7 r1 r2 ?zt hL7 (fun h' tk gs m' a b c t e => hQ h' tk gs m' a b c t e)
    case hm => exact rfl
    case hmg => exact hmg
    case zN =>
      refine news_sub NN (fun p hp => ?_)
      rcases List.mem_cons.mp hp with rfl | hp; · k_mem
      rcases List.mem_cons.mp hp with rfl | hp; · k_mem
      rcases List.mem_cons.mp hp with rfl | hp; · k_mem
      rcases List.mem_cons.mp hp with rfl | hp; · k_mem
      rcases List.mem_cons.mp hp with rfl | hp; · k_mem
      rcases List.mem_cons.mp hp with rfl | hp; · k_mem
      rcases List.mem_cons.mp hp with rfl | hp; · k_mem
      rcases List.mem_cons.mp hp with rfl | hp; · k_mem
      rcases List.mem_cons.mp hp with rfl | hp; · k_mem
      rcases List.mem_cons.mp hp with rfl | hp; · k_mem
      rcases List.mem_cons.mp hp with rfl | hp; · k_mem
      cases hp
    case hgs => assumption
    case zm => exact fun h H => ⟨⟨H _ (.head _), H _ (.tail _ (.head _))⟩, H _ (.tail _ (.tail _ (.head _))), H _ (.tail _ (.tail _ (.tail _ (.head _))))⟩
    case zg => exact fun h H => H _ (.tail _ (.tail _ (.tail _ (.tail _ (.head _)))))
    case zo =>
      intro p hp
      rcases List.mem_cons.mp hp with rfl | hp; · (refine ⟨?_, ?_, ?_, ?_⟩ <;> k_ne)
      rcases List.mem_cons.mp hp with rfl | hp; · (refine ⟨?_, ?_, ?_, ?_⟩ <;> k_ne)
      rcases List.mem_cons.mp hp with rfl | hp; · (refine ⟨?_, ?_, ?_, ?_⟩ <;> k_ne)
      rcases List.mem_cons.mp hp with rfl | hp; · (refine ⟨?_, ?_, ?_, ?_⟩ <;> k_ne)
      rw [List.mem_singleton.mp hp]
      exact hgo
    case zt =>
      intro p hp
      rcases List.mem_cons.mp hp with rfl | hp; · exact nt_cls (fun q => nomatch q)
      rcases List.mem_cons.mp hp with rfl | hp; · exact nt_cls (fun q => nomatch q)
      rcases List.mem_cons.mp hp with rfl | hp; · exact nt_cls (fun q => nomatch q)
      rcases List.mem_cons.mp hp with rfl | hp; · exact nt_cls (fun q => nomatch q)
      rw [List.mem_singleton.mp hp]
      exact nt_cls (fun q => nomatch q)
  (run_tac sh1)

end

theorem fresh_50 : True := by
  w_top off
  trivial
theorem seven (ws : List Value) (h : ws.length = 7) (hi : ∀ u ∈ ws, ∃ k t, u = Value.int k t) : ∃ i0 i1 i2 i3 i4 i5 i6 j0 j1 j2 j3 j4 j5 j6, ws = [.int i0 j0, .int i1 j1, .int i2 j2, .int i3 j3, .int i4 j4, .int i5 j5, .int i6 j6] := by
  (run_tac sh0)
  match ws, h, hi with
  | [a, b, c, d, e, f, g], _, hi =>
    obtain ⟨i0, j0, rfl⟩ := hi a (by simp)
    obtain ⟨i1, j1, rfl⟩ := hi b (by simp)
    obtain ⟨i2, j2, rfl⟩ := hi c (by simp)
    obtain ⟨i3, j3, rfl⟩ := hi d (by simp)
    obtain ⟨i4, j4, rfl⟩ := hi e (by simp)
    obtain ⟨i5, j5, rfl⟩ := hi f (by simp)
    obtain ⟨i6, j6, rfl⟩ := hi g (by simp)
    exact ⟨_, _, _, _, _, _, _, _, _, _, _, _, _, _, rfl⟩
  (run_tac sh1)
section
variable {w : World} {A₀ A : Around} {base h₀ : Heap} {outer : List Env} {env : Env} {L : Addr} {m : Str → Option Value} {p : Program} {loose : List Str} {mean : ExcName → Option Value} {mg mb : Str → Option Value}
    {s : Shared} {Q : Value → Shared → Prop} {E : Value → Shared → Prop}
theorem law0 {ps1 ps2 : Array Value} {o1 o2 o3 o4 : Obj} {c2 c3 c4 : Option Value} {S : Addr} {ys : List Value} {ks : List Int}
    (B : Below A₀ h₀ [] h₀) (F : Fr h₀ L s.heap m) (X : (Mine.hd.heap_39 w.params).In h₀) (T : Top p loose mean mg mb h₀) (hd : A₀.depth ≤ 310) (hu : A₀.units ≤ 3100) (hh : A₀.handled = none) (hg : AllBare s.gens)
    (N : News h₀ L s.heap ((742, tabObj ps1) :: (695, tabObj ps2) :: (L+4, o4) :: (L+3, o3) :: (L+2, o2) :: (L+1, o1) :: [])) (hE : PassesOwn (model PySem.Challenge.rw_ix0027_01.row.prog w) (A₀.deeper (lawEnv L)) (lawEnv L) E) (d1 : o1.data = .cell (some (.ref S))) (d2 : o2.data = .cell c2) (d3 : o3.data = .cell c3) (d4 : o4.data = .cell c4) (h0 : ∀ P ∈ tabs, h₀.get? P = none) (hLt : L ∉ tabs) (hz7 : @LT.lt Nat instLTNat 742 h₀.objs.size) (r1 : TriplesOk ps1.toList) (r2 : TriplesOk ps2.toList) (hL7 : @LT.lt Nat instLTNat 742 L) (hS : h₀.IsList S ys.toArray) (hSi : IntsAre ys ks) (hSl : ks.length ≤ 63)
    {QF : Flow → Shared → Prop} (hQ : LawQT h₀ L s QF) :
    wpAny (model PySem.Challenge.rw_ix0027_01.row.prog w) (A₀.deeper (lawEnv L)) (execs lawRest0 (lawEnv L)) QF E s := by
  (run_tac sh0)
  obtain ⟨hp, gs, drw, tk, os⟩ := s
  (try dsimp only at *)
  have hh' : (A₀.deeper (lawEnv L)).handled = none := by first | exact hh | rfl
  unfold lawRest0 lawEnv lawScope lawPickS lawPick
  repeat ((fail_if_success (with_reducible refine stop_Assign ?_)); (first | walk1 | dsimp only))
  refine' rngI_Assign 7 ?hsw ?hh ?hclos ?hcell ?hkind ?hnames ?hx ?hy ?hp ?_
  case hsw => with_unfolding_all rfl
  case hh => assumption
  case hclos => with_unfolding_all rfl
  case hcell => decide
  case hkind => rfl
  case hnames => decide
  case hx => rfl
  case hy => rfl
  case hp => rfl
  repeat ((fail_if_success (with_reducible refine stop_MRI ?_)); (first | walk1 | dsimp only))
  refine' ⟨_, _, _, _, h₀, m, (742, tabObj ps1) :: (695, tabObj ps2) :: (L+4, o4) :: (L+3, o3) :: (L+2, o2) :: (L+1, o1) :: [], rfl, ?qr, ?qs, ?qn, ?qz, ?qF, ?qN, ?helt, ?hQ⟩
  case qr => assumption
  case qs => decide
  case qn => rfl
  case qz => exact Nat.le_of_ble_eq_true rfl
  case qF => k_asm
  case qN => exact (news_sub (by ((with_reducible rename News _ _ _ _ => nwst); exact nwst)) (fun p hp => hp))
  case helt =>
    intro C i t s₃ m₃ E' hi0 hi1 hC hN ha hk₃
    have cF := Fr.keeps (by k_asm) hk₃
    have cN := News.grown (by k_asm) hk₃
    have hS' : s₃.heap.IsList S ys.toArray := list1 cF hS
    k_sweep
    repeat ((fail_if_success (with_reducible refine stop_builtin (f := "len") ?_)); (first | walk1 | dsimp only))
    refine len_any (ks.length : Nat) hS' (by rw [hSi.length]) (by omega) ?_
    by_cases hik : i < ((ks.length : Nat) : Int)
    · obtain ⟨tv, hat⟩ := ints_at hSi i.toNat (by omega)
      have hik' : decide (i < ((ks.length : Nat) : Int)) = true := decide_eq_true hik
      repeat ((fail_if_success (with_reducible refine stop_tail ?_)); (first | walk1 | dsimp only))
      refine item_any (vs := ys) (k := i) (v := .int (ks.getD i.toNat 0) tv) hS' hi0 (by omega) hat ?_
      repeat ((fail_if_success (with_reducible refine stop_Keep ?_)); (first | walk1 | dsimp only))
      exact ⟨⟨_, _, rfl⟩, _, _, rfl, fun _ _ e => e⟩
    · have hik' : decide (i < ((ks.length : Nat) : Int)) = false := decide_eq_false hik
      repeat ((fail_if_success (with_reducible refine stop_Keep ?_)); (first | walk1 | dsimp only))
      exact ⟨⟨_, _, rfl⟩, _, _, rfl, fun _ _ e => e⟩
  case hQ =>
    intro D h'' tk'' ws k'' cF cN hne hl hint
    obtain ⟨i0, i1, i2, i3, i4, i5, i6, j0, j1, j2, j3, j4, j5, j6, rfl⟩ := seven ws hl hint
    simp only [List.forall_mem_cons] at hne
    obtain ⟨n1, n2, n3, n4, n5, n6, n7⟩ := hne
    repeat ((fail_if_success (with_reducible refine stop_ex ?_)); (first | walk1 | dsimp only))
    exact law1 (hE := hE) B cF X T hd hu hh hg (news_sub cN (fun p hp => by
      rcases List.mem_cons.mp hp with rfl | hp; · k_mem
      rcases List.mem_cons.mp hp with rfl | hp; · k_mem
      rcases List.mem_cons.mp hp with rfl | hp; · k_mem
      rcases List.mem_cons.mp hp with rfl | hp; · k_mem
      rcases List.mem_cons.mp hp with rfl | hp; · k_mem
      rcases List.mem_cons.mp hp with rfl | hp; · k_mem
      rw [List.mem_singleton.mp hp]; exact .head _)) rfl d1 d2 d3 d4 ⟨Ne.symm n3, Ne.symm n4, Ne.symm n5, Ne.symm n6⟩ h0 hLt hz7 r1 r2 hL7 (fun h' tk gs m' a b c t e => hQ h' tk gs m' a b c t e)
  (run_tac sh1)

end

end
end Mine
namespace Mine
open PySem.Calls PyProof.V PySem.Spec PyProof.Rows.LCg
theorem fresh_51 : True := by
  w_top off
  trivial
theorem law_post {M : Model} {A : Around} {cd : Code} {s s₁ : Shared} {cw : ClaimW} {cl : Str → Option Addr} {mean : ExcName → Option Value} {args : List WData} {tb : List (Addr × Addr)} {d : WData} (hT : TabsAt tb s₁.heap) (hr : ∀ x, cw.raises args x = false)
    (hd : ∀ h, ReadsW cw.records cl h (.bool true) d []) (hp : cw.post args d args = true)
    (h : codeAny M A cd (fun r s' => r = .ok (.ret (.bool true)) ∧ (∀ b o, (ghostOf s₁.heap tb).get? b = some o → s'.heap.get? b = some o) ∧ s'.os = s₁.os ∧ AllBare s'.gens ∧ GrownAll tb s'.heap) s) : codeAny M A cd (GoodWG cw cl mean args s₁) s :=
  codeAny_mono h fun r s' ⟨hr', hk, hos, hg, hgr⟩ => by
    subst hr'
    have keep : ∀ b o, b ∉ tb.map (·.2) → s₁.heap.get? b = some o → s'.heap.get? b = some o := fun b o hb e => hk b o (ghost_ne e hb)
    have grown : ∀ b o, b ∈ tb.map (·.2) → s₁.heap.get? b = some o → isCodeTable s₁.heap b ∧ o = tabObj #[] ∧ ∃ ps, s'.heap.get? b = some (tabObj ps) := fun b o hb e => by
      obtain ⟨q, hq, rfl⟩ := List.mem_map.mp hb
      have e2 := (hT q hq).2
      rw [e] at e2
      exact ⟨((hT q hq).1.tab (hT q hq).2).isCodeTable, Option.some.inj e2, hgr.get q hq⟩
    refine ⟨.inl ⟨_, d, [], rfl, hr, hd _, hp, fun _ => ⟨List.nodup_nil, fun a ha => nomatch ha⟩⟩, ⟨fun b o e => ?_, fun b o e => ?_⟩, hos, hg⟩
    · by_cases hb : b ∈ tb.map (·.2)
      · obtain ⟨ht, rfl, ps, hP⟩ := grown b o hb e
        exact .inr (.inl ⟨ht, rfl, #[], ps, rfl, by rw [Array.empty_append]; exact hP⟩)
      · exact .inl (keep b o hb e)
    · by_cases hb : b ∈ tb.map (·.2)
      · obtain ⟨_, _, ps, hP⟩ := grown b o hb e
        exact ⟨_, hP⟩
      · exact ⟨o, keep b o hb e⟩
theorem law_holds : PySem.Challenge.rw_ix0027_01.Holds := Mine.hd (by
  k_fill
  intro w s₀ s₁ mg mb G Y fa o pm cd doc dV kV ho hd hcd hD hmg hg args vals as hpre hlay hrd hwl hlo
  have KX := km_in_of Y
  have hT8 := km_tabs_of Y
  have X := (Ground.X G).1
  have V := (Ground.X G).2
  refine Ground.open G ?_
  intro T B D TE TW
  try (refine guard_noD D (by decide +kernel) ?_; clear D)
  have hT9 : TabsAt ([(746, 742), (697, 695)] : List (Addr × Addr)) _ := List.forall_mem_cons.mpr ⟨⟨codeHd_of_K (c := 746) (P := 742) KX (by kernel_rfl), hT8 742 (by k_mem)⟩, List.forall_mem_cons.mpr ⟨⟨codeHd_of_K (c := 697) (P := 695) KX (by kernel_rfl), hT8 695 (by k_mem)⟩, fun _ h => nomatch h⟩⟩
  wrow_args hpre hlay hrd hwl hlo
  have e1 : mg (Str.ofString "law") = some (.ref 1016) := mg_of KX (Top.g T) (by k_is)
  obtain rfl : fa = 1016 := by
    have q : some (Value.ref fa) = some (Value.ref 1016) := hmg.symm.trans e1
    injection q with q
    injection q with q
  clear hmg
  have hcd' : cd = .ref 1015 := by
    have e2 := KX 1016 _ (by k_is)
    rw [ho] at e2
    cases e2
    injection hd with q
    have q2 := congrArg FuncData.code q
    exact q2.symm
  subst hcd'
  refine enter_call ?_
  refine law_post (d := .bool true) hT9 ?raises ?reads ?post ?_
  case raises => intro x; rfl
  case reads => intro h; exact ReadsW.bool true
  case post => wrow_post
  w_call any ho hd hcd hD T F
  clear hd
  kn_ghosts F T
  k_drop
  (rename IntsAre _ _ => hI)
  (rename ¬ _ < _ => hc)
  (rename Heap.IsList _ _ _ => hS)
  (rename News _ _ _ _ => N₀)
  (rename Fr _ _ _ _ => F₀)
  (rename Below _ _ _ _ => B₀)
  (rename Top _ _ _ _ _ _ => T₀)
  (rename Frag.In _ _ => X₀)
  (rename _ < _ ∧ _ < _ => hlt)
  refine' law0 (A₀ := callerA) (h₀ := ghostOf s₁.heap [(746, 742), (697, 695)]) (L := s₁.heap.objs.size) (hE := ?hE) B₀ F₀ X₀ T₀ ?hd ?hu ?hh ?hgs ?hN ?d1 ?d2 ?d3 ?d4 ?h0 ?hLt ?hz ?r1 ?r2 ?h7 hS hI ?hl ?hQ
  case hN =>
    refine news_sub N₀ (fun p hp => ?_)
    rcases List.mem_cons.mp hp with rfl | hp; · k_mem
    rcases List.mem_cons.mp hp with rfl | hp; · k_mem
    rcases List.mem_cons.mp hp with rfl | hp; · k_mem
    rcases List.mem_cons.mp hp with rfl | hp; · k_mem
    rcases List.mem_cons.mp hp with rfl | hp; · k_mem
    rcases List.mem_cons.mp hp with rfl | hp; · k_mem
    cases hp
  case hE => passes_own
  case hd => decide
  case hu => decide
  case hh => rfl
  case hgs => exact AllBare.of_eq hg
  case d1 => assumption
  case d2 => assumption
  case d3 => assumption
  case d4 => assumption
  case h0 => exact fun P hP => hideAll_none _ hP
  case hLt =>
    intro hm
    rcases List.mem_cons.mp hm with q | hm
    · exact Nat.ne_of_gt hlt.1 q
    · exact Nat.ne_of_gt hlt.2 (List.mem_singleton.mp hm)
  case hz =>
    show @LT.lt Nat instLTNat 742 (hideAll s₁.heap _).objs.size
    rw [hideAll_size]
    omega
  case r1 => trivial
  case r2 => trivial
  case h7 => omega
  case hl => omega
  case hQ =>
    intro h' tk gs m' F hb ⟨pa, pb, a, b⟩ t ht
    subst ht
    exact ⟨rfl, F.keep, rfl, hb, ⟨pa, a⟩, ⟨pb, b⟩, trivial⟩)
end Mine
theorem PySem.Challenge.cw_ix0027_01_holds : PySem.Challenge.rw_ix0027_01.Holds := by
  exact Mine.law_holds
