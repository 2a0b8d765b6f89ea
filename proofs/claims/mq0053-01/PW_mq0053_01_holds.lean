import PyProof.Rows.All
import Wide.All
import OpenK.AllK
import Wide.FinOn
import Lean
import PySem.Challenge.RW_mq0053_01
open PySem PySem.W PyProof.Rows PySem.Calls
set_option Elab.async false
set_option maxRecDepth 100000
set_option maxHeartbeats 8000000
local macro_rules | `(tactic| walk_at "m.ok") => `(tactic| (
  (fail_if_success (with_reducible show wpAny _ _ (exec (Stmt.For _ _ _ _ _) _) _ _ _));
  (fail_if_success (with_reducible show wpAny _ _ (exec (Stmt.If _ _ _ _) _) _ _ _));
  (fail_if_success (with_reducible show wpAny _ _ (exec (Stmt.While _ _ _ _) _) _ _ _));
  (fail_if_success (with_reducible show wpAny _ _ (exec (Stmt.Try _ _ _ _ _) _) _ _ _));
  (fail_if_success (with_reducible show wpAny _ _ (eval (Expr.ListComp _ _ _ _) _) _ _ _));
  (fail_if_success (with_reducible show wpAny _ _ (subscriptTail _ _ _ _) _ _ _));
  (fail_if_success (with_reducible show wpAny _ _ (compareOp _ _ _) _ _ _));
  (fail_if_success (with_reducible show wpAny _ _ (call _ _) _ _ _));
  (fail_if_success (with_reducible show wpAny _ _ (call _ _ _) _ _ _));
  (fail_if_success (with_reducible show wpAny _ _ (pyIter _) _ _ _));
  (with_reducible show wpAny _ _ _ _ _ _)))
local macro_rules | `(tactic| walk_at "m1") => `(tactic| first | (k_unfold; (try dsimp only)) | with_reducible refine ite_pos (rfl : true = true) ?_ | with_reducible refine ite_neg Bool.false_ne_true ?_ | with_reducible refine ite_pos True.intro ?_ | with_reducible refine ite_neg not_false ?_)
local macro_rules | `(tactic| walk_at "go") => `(tactic| repeat' (first | walk_at "m1" | (walk_at "m.ok"; walk1)))
local macro_rules | `(tactic| walk_at "gm") => `(tactic| repeat' (first | walk_at "m1" | ((fail_if_success (with_reducible show wpAny _ _ (exec (Stmt.Assign [Expr.Name (Str.ofString "menu") _] _ _) _) _ _ _)); walk_at "m.ok"; walk1)))
local macro_rules | `(tactic| walk_at "gl") => `(tactic| repeat' (first | walk_at "m1" | ((fail_if_success (with_reducible show wpAny _ _ (exec (Stmt.Assign [Expr.Name _ _] (Expr.ListComp _ _ _ _) _) _) _ _ _)); walk_at "m.ok"; walk1)))
local macro_rules | `(tactic| walk_at "gi") => `(tactic| repeat' (first | walk_at "m1" | ((fail_if_success (with_reducible show wpAny _ _ (exec (Stmt.Assign [Expr.Name _ _] (Expr.ListComp _ _ _ _) _) _) _ _ _)); (fail_if_success (with_reducible show wpAny _ _ (exec (Stmt.Assign [Expr.Name _ _] (Expr.IfExp _ _ _ _) _) _) _ _ _)); walk_at "m.ok"; walk1)))
namespace Mine
open_top hd for PySem.Challenge.rw_mq0053_01
/-- the walk as it goes in a text of its own -/
theorem calm : True := by
  w_top off
  trivial
end Mine

section
namespace Mine


/-- the surroundings at which the contracts are shown -/
noncomputable abbrev AA (dp un : Nat) (fr : Option (List Env)) : Around := { handled := none, depth := dp, frames := fr, guards := none, units := un }

theorem in_mono {Γ : Ctx} {A : Around} {dp un : Nat} (h : Γ.In A) (hh : A.handled = none) (hd : A.depth ≤ dp) (hu : A.units ≤ un) : Γ.In (AA dp un none) :=
  ⟨h.1.trans hh, Nat.le_trans h.2.1 hd, (fun l hl => nomatch hl), (fun l hl => nomatch hl), Nat.le_trans h.2.2.2.2 hu⟩

theorem wpAny_lower {α : Type} {M : Model} {A : Around} {t : Sem α} {Q : α → Shared → Prop} {E : Value → Shared → Prop} {s : Shared} {dp un : Nat}
    (h : wpAny M (AA dp un none) t Q E s) (hh : A.handled = none) (hd : A.depth ≤ dp) (hu : A.units ≤ un) : wpAny M A t Q E s :=
  fun Γ p hΓ => h Γ p (in_mono hΓ hh hd hu)

theorem enterK {w : World} {s : Shared} {A : Around} {mean : ExcName → Option Value} {mg mb : Str → Option Value} {R : Result → Shared → Prop} {name qual : Str} {params : Arguments} {body : List Stmt} {scope : Scope} {dV kV doc pm cdv ct oc : Value} {an od : Option Addr} {osl : Array (Option Value)} {f : Addr} {args : Args} {binds : List (Str × Value)}
    (X : (hd.heap_39 w.params).In s.heap) (T : Top hd.view_39 (looseW hd.view_39 [Str.ofString "_norm_version", Str.ofString "b2a_base64", Str.ofString "b64encode"]) mean mg mb s.heap)
    (ho : (hd.heap_39 w.params).lookup f = some ⟨oc, od, .func (fnOf name qual params body scope dV kV doc pm an cdv ct), osl⟩) (hcd : codeIn (hd.heap_39 w.params) cdv qual = true) (hroom : A.depth < recursionLimit)
    (hbind : BindsTo s (fnOf name qual params body scope dV kV doc pm an cdv ct) args binds) (hloc : ∀ y ∈ binds, scope.names.lookup y.1 = some .local)
    (h : ∀ h₁, Fr s.heap s.heap.objs.size h₁ (fun y => binds.reverse.lookup y) → News s.heap s.heap.objs.size h₁ [] →
      wpAny (model PySem.Challenge.rw_mq0053_01.row.prog w) (A.deeper (envOf qual scope s.heap.objs.size f cdv)) (execs body (envOf qual scope s.heap.objs.size f cdv))
        (fun fl s' => R (.ok (.ret (match fl with | .ret v => v | _ => .none))) s')
        (fun e s' => wpAny (model PySem.Challenge.rw_mq0053_01.row.prog w) (A.deeper (envOf qual scope s.heap.objs.size f cdv)) (leaving (envOf qual scope s.heap.objs.size f cdv) e) (fun _ s'' => R (.error e) s'') (fun e' s'' => R (.error e') s'') s')
        { s with heap := h₁, toks := s.toks + binds.length })
    (hco : scope.isCoroutine = false) (hgen : scope.isGenerator = false) (hk : scope.kind = .function)
    (hcell : ∀ x ∈ scope.names, x.2 ≠ .cell) : codeAny (model PySem.Challenge.rw_mq0053_01.row.prog w) A (.call (.ref f) args) R s := by
  refine codeAny_call_def (fd := fnOf name qual params body scope dV kV doc pm an cdv ct) (body := body) (binds := binds) hroom (X _ _ ho) rfl T.nolimit (codeRec_of X hcd) rfl hbind hcell hloc (fun h₁ hns hk₁ => ?_) hco hgen hk
  exact h h₁ ⟨hns, fun b o e => hk₁ b o e, Nat.le_refl _⟩ News.nil


theorem strs_take {vs : List Value} {ys : List Str} (h : StrsAre vs ys) : ∀ n, StrsAre (vs.take n) (ys.take n) := by
  induction h with
  | nil => intro n; simp; exact .nil
  | cons y t _ ih =>
    intro n
    cases n with
    | zero => exact .nil
    | succ n => exact .cons y t (ih n)
theorem strs_drop {vs : List Value} {ys : List Str} (h : StrsAre vs ys) : ∀ n, StrsAre (vs.drop n) (ys.drop n) := by
  induction h with
  | nil => intro n; simp; exact .nil
  | cons y t h' ih =>
    intro n
    cases n with
    | zero => exact .cons y t h'
    | succ n => exact ih n
theorem strs_length {vs : List Value} {ys : List Str} (h : StrsAre vs ys) : vs.length = ys.length := by
  induction h with
  | nil => rfl
  | cons _ _ _ ih => simp [ih]
theorem strs_append {vs vs' : List Value} {ys ys' : List Str} (h : StrsAre vs ys) (h' : StrsAre vs' ys') : StrsAre (vs ++ vs') (ys ++ ys') := by
  induction h with
  | nil => exact h'
  | cons y t _ ih => exact .cons y t ih

theorem pick_to {l : List Value} {k : Int} (h : 0 ≤ k) : kms_pick l none (some k) = l.take k.toNat := by
  unfold kms_pick kms_hi kms_lo
  simp only [List.drop_zero, Nat.sub_zero]
  rw [if_neg (by omega)]
  rw [List.take_eq_take_iff]
  omega
theorem pick_from {l : List Value} {k : Int} (h : 0 ≤ k) : kms_pick l (some k) none = l.drop k.toNat := by
  unfold kms_pick kms_hi kms_lo
  dsimp only
  rw [if_neg (by omega)]
  by_cases hk : k.toNat ≤ l.length
  · have e : min k.toNat l.length = k.toNat := by omega
    first | rw [e] | skip
    rw [List.take_of_length_le (by simp)]
  · rw [List.drop_of_length_le (by omega : l.length ≤ k.toNat)]
    simp
    omega

noncomputable abbrev frH {h₀ : Heap} {L : Addr} {h : Heap} {m : Str → Option Value} (_ : Fr h₀ L h m) : Heap := h
noncomputable abbrev frM {h₀ : Heap} {L : Addr} {h : Heap} {m : Str → Option Value} (_ : Fr h₀ L h m) : Str → Option Value := m
end Mine
end

section
namespace Mine

section
variable {prog : Program} {w : World} {A : Around} {E : Value → Shared → Prop} {s : Shared} {env : Env} {K : Frag} {h₀ : Heap} {p : Program} {loose : List Str} {mean : ExcName → Option Value} {mg mb : Str → Option Value}

theorem gname_B {x : Str} {pos : Pos} {v : Value} {Q : Value → Shared → Prop} (kp : ∀ b o, h₀.get? b = some o → s.heap.get? b = some o) (X : K.In h₀) (T : Top p loose mean mg mb h₀) (e : nsIn K mainGlobals x = some none) (hv : bootBuiltins x = some v) (hn : x ≠ "__name__") (h : Q v s)
    (hk : env.scope.kind = .function := by rfl) (hx : env.kindOf x = some .globalImplicit := by rfl) (hg : env.globals = mainGlobals := by rfl) (hb : env.builtins = builtinsNs := by rfl) (hd : (x == ("__debug__" : Str)) = false := by decide) :
    wpAny (model prog w) A (eval (.Name x pos) env) Q E s :=
  Name_function_global hk hx (loadGlobal_builtin (mg := mg) (mb := mb) (by rw [hg]; exact T.g.keeps kp) (mg_none_of X T.g e) (by rw [hb]; exact T.b.keeps kp) ((T.builtins x hn).trans hv) h) hd
theorem gname_K {x : Str} {pos : Pos} {v : Value} {Q : Value → Shared → Prop} (kp : ∀ b o, h₀.get? b = some o → s.heap.get? b = some o) (X : K.In h₀) (T : Top p loose mean mg mb h₀) (e : nsIn K mainGlobals x = some (some v)) (h : Q v s)
    (hk : env.scope.kind = .function := by rfl) (hx : env.kindOf x = some .globalImplicit := by rfl) (hg : env.globals = mainGlobals := by rfl) (hd : (x == ("__debug__" : Str)) = false := by decide) :
    wpAny (model prog w) A (eval (.Name x pos) env) Q E s :=
  Name_function_global hk hx (loadGlobal_global (mg := mg) (by rw [hg]; exact T.g.keeps kp) (mg_of X T.g e) h) hd

/-- a list comprehension over any walked source whose iterator is the next object -/
theorem comp_gen {elt iter : Expr} {x : Str} {px : Pos} {scope : Scope} {cl : List (Str × Addr)} {pos : Pos} {Q : Value → Shared → Prop} (F : Value → Value → Prop)
    (h : wpAny (model prog w) A (eval iter env) (fun xv s₁ => ∃ n P, n ≤ sizeLine ∧
      (∀ Q', (∀ (o : Obj) (fp : List Addr) (St : Nat → Heap → Prop), Walks prog w A s₁.heap.objs.size fp [s₁.heap.objs.size] n P St → (∀ b ∈ fp, b < s₁.heap.objs.size + 1) → St 0 (s₁.heap.push o) → Q' (.ref s₁.heap.objs.size) { s₁ with heap := s₁.heap.push o }) → wpAny (model prog w) A (pyIter xv) Q' E s₁) ∧
      (∀ C i v s₃ m₃ E', s₁.heap.objs.size < C → P i v → s₃.heap.Ns C m₃ → m₃ x = some v → (∀ b o, s₁.heap.get? b = some o → s₃.heap.get? b = some o) → wpAny (model prog w) A (eval elt (compEnvC scope cl C env)) (fun y s₄ => F v y ∧ Keeps s₃ s₄) E' s₃) ∧
      (∀ D h' tk ys (vs : List Value), s₁.heap.get? D = none → h'.PlainList D ys → vs.length = n → (∀ (j : Nat) (v : Value), vs[j]? = some v → P j v) → Paired F vs ys.toList → (∀ b o, s₁.heap.get? b = some o → h'.get? b = some o) → Q (.ref D) { s₁ with heap := h', toks := tk })) E s)
    (hclos : closureFor scope env = pure cl) (hcell : ∀ y ∈ scope.names, y.2 ≠ .cell) (hkind : scope.kind = .function) (hnames : ∀ y ∈ scope.names, y.2 = .local → scope.names.lookup y.1 = some .local) (hx : scope.names.lookup x = some .local)
    (hs : ∀ x, foldedSetIterable iter env x = pure x := by intro _; rfl) :
    wpAny (model prog w) A (eval (.ListComp elt [⟨.Name x px, iter, [], 0⟩] scope pos) env) Q E s := by
  refine wpAny_ListComp_free (fun _ => true) F hclos hcell hkind hnames hx (wpAny_mono h (fun xv s₁ h₁ => ?_) fun _ _ e => e) hs
  obtain ⟨n, P, hn, hit, helt, hQ⟩ := h₁
  refine hit _ fun o fp St W hfp hst => ?_
  have old : ∀ b o', s₁.heap.get? b = some o' → b ∉ [s₁.heap.objs.size] := fun b o' e hm => absurd (Heap.lt_size e) (by rw [List.mem_singleton.mp hm]; exact Nat.lt_irrefl _)
  refine ⟨_, fp, _, n, P, St, rfl, W, hn, hst, fun b hb => ?_, ⟨fun C i v s₃ m₃ E' hC hP hn hm hk htk => ?_, fun C i v s₃ m₃ E' hC hP _ hn hm hk htk => ?_⟩, fun D h' tk ys vs hD _ hPl hlen hvs hF hk => ?_⟩
  · have := hfp b hb; rw [Heap.size_push]; omega
  · exact wpAny_pure ⟨rfl, s₃.heap, s₃.toks, rfl, fun _ _ e => e⟩
  · refine helt C i v s₃ m₃ E' ?_ hP hn hm fun b o' e => hk b o' (old b o' e) (Heap.get?_push_of_some _ e)
    rw [Heap.size_push] at hC; omega
  · refine hQ D h' tk ys vs ?_ hPl hlen hvs (by rw [List.filter_eq_self.mpr (fun _ _ => rfl)] at hF; exact hF) fun b o' e => hk b o' (old b o' e) (Heap.get?_push_of_some _ e)
    cases e : s₁.heap.get? D with
    | none => rfl
    | some o' => rw [Heap.get?_push_of_some _ e] at hD; cases hD

theorem comp_list {elt iter : Expr} {x : Str} {px : Pos} {scope : Scope} {cl : List (Str × Addr)} {pos : Pos} {Q : Value → Shared → Prop} (F : Value → Value → Prop) (hh : A.handled = none)
    (h : wpAny (model prog w) A (eval iter env) (fun xv s₁ => ∃ l vs, xv = .ref l ∧ s₁.heap.IsList l (List.toArray vs) ∧ vs.length ≤ sizeLine ∧
      (∀ C v s₃ m₃ E', s₁.heap.objs.size < C → v ∈ vs → s₃.heap.Ns C m₃ → m₃ x = some v → (∀ b o, s₁.heap.get? b = some o → s₃.heap.get? b = some o) → wpAny (model prog w) A (eval elt (compEnvC scope cl C env)) (fun y s₄ => F v y ∧ Keeps s₃ s₄) E' s₃) ∧
      (∀ D h' tk ys, s₁.heap.get? D = none → h'.PlainList D ys → Paired F vs ys.toList → (∀ b o, s₁.heap.get? b = some o → h'.get? b = some o) → Q (.ref D) { s₁ with heap := h', toks := tk })) E s)
    (hclos : closureFor scope env = pure cl) (hcell : ∀ y ∈ scope.names, y.2 ≠ .cell) (hkind : scope.kind = .function) (hnames : ∀ y ∈ scope.names, y.2 = .local → scope.names.lookup y.1 = some .local) (hx : scope.names.lookup x = some .local)
    (hs : ∀ x, foldedSetIterable iter env x = pure x := by intro _; rfl) :
    wpAny (model prog w) A (eval (.ListComp elt [⟨.Name x px, iter, [], 0⟩] scope pos) env) Q E s := by
  refine comp_gen F (wpAny_mono h (fun xv s₁ h₁ => ?_) fun _ _ e => e) hclos hcell hkind hnames hx hs
  obtain ⟨l, vs, rfl, hl, hn, helt, hQ⟩ := h₁
  have hlt : l < s₁.heap.objs.size := by obtain ⟨o, ho, _⟩ := hl; exact Heap.lt_size ho
  refine ⟨vs.length, fun i v => vs[i]? = some v, hn, fun Q' hQ' => ?_, fun C i v s₃ m₃ E' hC hP hn hm hk => ?_, fun D h' tk ys us hD hPl hlen hus hF hk => ?_⟩
  · refine wpAny_pyIter_list hl ?_
    have W := Walks.list (prog := prog) (w := w) hh s₁.heap.objs.size l (Nat.ne_of_lt hlt) vs.toArray
    have e1 : vs.toArray.size = vs.length := by simp
    have e2 : (fun (i : Nat) (v : Value) => vs.toArray[i]? = some v) = fun i v => vs[i]? = some v := by funext i v; simp
    rw [e2] at W
    rw [e1] at W
    refine hQ' _ _ _ W (fun b hb => ?_) ⟨⟨_, Heap.get?_push_size _ rfl, rfl, rfl⟩, hl.at fun o e => Heap.get?_push_of_some _ e⟩
    rcases List.mem_cons.mp hb with rfl | hb
    · exact Nat.lt_succ_self _
    · rw [List.mem_singleton.mp hb]; exact Nat.lt_succ_of_lt hlt
  · exact helt C v s₃ m₃ E' hC (List.mem_of_getElem? hP) hn hm hk
  · have e : us = vs := by
      refine List.ext_getElem? fun j => ?_
      by_cases hj : j < us.length
      · have h1 := hus j us[j] (by simp [hj])
        rw [h1]; simp [hj]
      · rw [List.getElem?_eq_none (by omega), List.getElem?_eq_none (by omega)]
    subst e
    exact hQ D h' tk ys hD hPl hF hk
end

end Mine
end

section
namespace Mine

section
variable {prog : Program} {w : World} {A : Around} {E : Value → Shared → Prop} {s : Shared} {env : Env}

theorem tests_one {c : Expr} {cenv : Env} {Q : Bool → Shared → Prop} {E' : Value → Shared → Prop} (h : wpAny (model prog w) A (isTrue c cenv (eval c cenv)) Q E' s) :
    wpAny (model prog w) A (forIn [c] true fun c r => if r = true then do let ok ← isTrue c cenv (eval c cenv); pure (ForInStep.yield ok) else pure (ForInStep.yield r)) Q E' s := by
  rw [List.forIn_cons]
  refine wpAny_bind ?_
  rw [if_pos rfl]
  refine wpAny_bind (wpAny_mono h (fun ok s' h' => wpAny_pure ?_) fun _ _ x => x)
  dsimp only
  rw [List.forIn_nil]
  exact wpAny_pure h'

/-- a filter of a text's signs -/
theorem comp_str_if {iter c : Expr} {x : Str} {px py : Pos} {scope : Scope} {cl : List (Str × Addr)} {pos : Pos} {Q : Value → Shared → Prop} (p : Nat → Bool) (hh : A.handled = none)
    (h : wpAny (model prog w) A (eval iter env) (fun xv s₁ => ∃ y t, xv = .str y t ∧ y.cps.size ≤ sizeLine ∧
      (∀ C n u s₃ m₃ E' Q', s₁.heap.objs.size < C → n ∈ y.cps.toList → s₃.heap.Ns C m₃ → m₃ x = some (.str ⟨#[n]⟩ u) → (∀ b o, s₁.heap.get? b = some o → s₃.heap.get? b = some o) → (∀ tk, Q' (p n) { s₃ with toks := tk }) → wpAny (model prog w) A (isTrue c (compEnvC scope cl C env) (eval c (compEnvC scope cl C env))) Q' E' s₃) ∧
      (∀ C n u s₃ m₃ E' Q', s₃.heap.Ns C m₃ → m₃ x = some (.str ⟨#[n]⟩ u) → Q' (.str ⟨#[n]⟩ u) s₃ → wpAny (model prog w) A (eval (.Name x py) (compEnvC scope cl C env)) Q' E' s₃) ∧
      (∀ D h' tk ys, s₁.heap.get? D = none → h'.PlainList D ys → StrsAre ys.toList ((y.cps.toList.filter p).map fun n => ⟨#[n]⟩) → (∀ b o, s₁.heap.get? b = some o → h'.get? b = some o) → Q (.ref D) { s₁ with heap := h', toks := tk })) E s)
    (hclos : closureFor scope env = pure cl) (hcell : ∀ y ∈ scope.names, y.2 ≠ .cell) (hkind : scope.kind = .function) (hnames : ∀ y ∈ scope.names, y.2 = .local → scope.names.lookup y.1 = some .local) (hx : scope.names.lookup x = some .local)
    (hs : ∀ x, foldedSetIterable iter env x = pure x := by intro _; rfl) :
    wpAny (model prog w) A (eval (.ListComp (.Name x py) [⟨.Name x px, iter, [c], 0⟩] scope pos) env) Q E s := by
  let pv : Value → Bool := fun v => match v with | .str z _ => p (z.cps.getD 0 0) | _ => false
  refine wpAny_ListComp_free pv (fun v y => y = v) hclos hcell hkind hnames hx (wpAny_mono h (fun xv s₁ h₁ => ?_) fun _ _ e => e) hs
  obtain ⟨y, t, rfl, hn, htest, helt, hQ⟩ := h₁
  refine wpAny_pyIter_str fun o St W hst => ?_
  have old : ∀ b o', s₁.heap.get? b = some o' → b ∉ [s₁.heap.objs.size] := fun b o' e hm => absurd (Heap.lt_size e) (by rw [List.mem_singleton.mp hm]; exact Nat.lt_irrefl _)
  refine ⟨_, _, _, _, _, St, rfl, W A hh, hn, hst, fun b hb => ?_, ⟨fun C i v s₃ m₃ E' hC hP hn hm hk htk => ?_, fun C i v s₃ m₃ E' hC hP _ hn hm hk htk => ?_⟩, fun D h' tk ys vs hD _ hPl hlen hvs hF hk => ?_⟩
  · rw [List.mem_singleton.mp hb]; show _ < (s₁.heap.push o).objs.size; rw [Heap.size_push]; exact Nat.lt_succ_self _
  · obtain ⟨n, u, hc, rfl⟩ := hP
    refine tests_one (htest C n u s₃ m₃ E' _ ?_ ?_ hn hm (fun b o' e => hk b o' (old b o' e) (Heap.get?_push_of_some _ e)) fun tk => ⟨?_, s₃.heap, tk, rfl, fun _ _ e => e⟩)
    · have hC' : (s₁.heap.push o).objs.size ≤ C := hC
      rw [Heap.size_push] at hC'; exact hC'
    · have := Array.mem_of_getElem? hc; simpa using this
    · simp [pv]
  · obtain ⟨n, u, hc, rfl⟩ := hP
    exact helt C n u s₃ m₃ E' _ hn hm ⟨rfl, s₃.heap, s₃.toks, rfl, fun _ _ e => e⟩
  · refine hQ D h' tk ys ?_ hPl ?_ fun b o' e => hk b o' (old b o' e) (Heap.get?_push_of_some _ e)
    · cases e : s₁.heap.get? D with
      | none => rfl
      | some o' => have hD' : (s₁.heap.push o).get? D = none := hD
                   rw [Heap.get?_push_of_some _ e] at hD'; cases hD'
    · have e1 : ys.toList = vs.filter pv := by
        have gen : ∀ (us zs : List Value), Paired (fun v y => y = v) us zs → zs = us := by
          intro us zs hp
          induction hp with
          | nil => rfl
          | cons e _ ih => rw [e, ih]
        exact gen _ _ hF
      rw [e1]
      have gen : ∀ (cs : List Nat) (us : List Value), us.length = cs.length → (∀ (j : Nat) (v : Value), us[j]? = some v → ∃ (c : Nat) (u : Tok), cs[j]? = some c ∧ v = Value.str ⟨#[c]⟩ u) → StrsAre (us.filter pv) ((cs.filter p).map fun n => (⟨#[n]⟩ : Str)) := by
        intro cs
        induction cs with
        | nil =>
          intro us hl _
          cases us with
          | nil => exact .nil
          | cons _ _ => simp at hl
        | cons c cs ih =>
          intro us hl hv
          cases us with
          | nil => simp at hl
          | cons v us =>
            obtain ⟨c', u, hc, rfl⟩ := hv 0 v (by simp)
            simp at hc; subst hc
            have ih' := ih us (by simpa using hl) (fun j v hj => hv (j + 1) v (by simpa using hj))
            have e3 : pv (.str ⟨#[c]⟩ u) = p c := by simp [pv]
            rw [List.filter_cons, List.filter_cons, e3]
            cases p c with
            | true => exact .cons _ _ ih'
            | false => exact ih'
      refine gen y.cps.toList vs (by simpa using hlen) fun j v hj => ?_
      obtain ⟨c, u, hc, rfl⟩ := hvs j v hj
      exact ⟨c, u, by simpa using hc, rfl⟩

/-- a for over a text's signs: the ledger stands -/
theorem for_str {x : Str} {px pos : Pos} {iter : Expr} {body : List Stmt} {h₀ : Heap} {m₀ : Str → Option Value} {news : List (Addr × Obj)} {Q : Flow → Shared → Prop} (J : Nat → (Str → Option Value) → Prop) (hh : A.handled = none)
    (F : Fr h₀ env.locals s.heap m₀) (_N : News h₀ env.locals s.heap news) (hx : env.kindOf x = some .local) (hp : (env.scope.kind == .class || (env.scope.kind == .module && env.locals != env.globals)) = false)
    (h : wpAny (model prog w) A (eval iter env) (fun xv s₁ => ∃ y t, xv = .str y t ∧ ∃ h₁ tk₁, s₁ = { s with heap := h₁, toks := tk₁ } ∧ Fr h₀ env.locals h₁ m₀ ∧ News h₀ env.locals h₁ news ∧ J 0 m₀ ∧
      (∀ i n u m₁ h tk own, y.cps.toList[i]? = some n → J i m₁ → OwnOff own (news.map (·.1)) → Fr h₀ env.locals h (fun y => if y = x then some (.str ⟨#[n]⟩ u) else m₁ y) → News h₀ env.locals h (news ++ own) →
        wpAny (model prog w) A (execs body env) (InvPostN h₀ env.locals (fun m' nx => nx = news ∧ J (i + 1) m') own (news.map (·.1)) { s with heap := h, toks := tk } Q) E { s with heap := h, toks := tk }) ∧
      (∀ m₁ h tk, J y.cps.size m₁ → Fr h₀ env.locals h m₁ → News h₀ env.locals h news → Q .next { s with heap := h, toks := tk })) E s)
    (hs : ∀ x, foldedSetIterable iter env x = pure x := by intro _; rfl) (hE : PassesOwn (model prog w) A env E := by passes_own) :
    wpAny (model prog w) A (exec (.For (.Name x px) iter body [] pos) env) Q E s := by
  refine For_invVF F hx hp (wpAny_mono h (fun xv s₁ h₁ => ?_) fun _ _ e => e) hs hE
  obtain ⟨y, t, rfl, h₁, tk₁, rfl, F₁, N₁, hj, turn, done⟩ := h₁
  refine wpAny_pyIter_str fun o St W hst => ?_
  refine loop_invN (s := { s with heap := h₁.push o, toks := tk₁ }) (fun i m nx => nx = news ∧ J i m) (W A hh) ?_ ?_ ?_ ?_ hst (F₁.push _) (fun p hp => ⟨Heap.get?_push_of_some _ (N₁ p hp).1, (N₁ p hp).2⟩) ⟨rfl, hj⟩ ?_ ?_
  · intro hm
    exact absurd F₁.ns.lt ((List.mem_singleton.mp hm) ▸ Nat.lt_irrefl _)
  · intro b' hb
    rw [List.mem_singleton.mp hb]
    exact next_is_new F₁
  · intro p hp hI
    exact absurd (Heap.lt_size (N₁ p hp).1) ((List.mem_singleton.mp hI) ▸ Nat.lt_irrefl _)
  · intro p hp hI
    exact absurd (Heap.lt_size (N₁ p hp).1) ((List.mem_singleton.mp hI) ▸ Nat.lt_irrefl _)
  · rintro i v m₁ news₁ h2 tk own hi ⟨c, u, hc, rfl⟩ _ hoff ⟨e, hJ⟩ F₂ N₂
    rw [e] at N₂
    exact turn i c u m₁ h2 tk own (by simpa using hc) hJ hoff F₂ N₂
  · rintro m₁ news₁ h2 tk ⟨e, hJ⟩ F₂ N₂
    rw [e] at N₂
    exact done m₁ h2 tk hJ F₂ N₂
end
theorem frag2 (p : Params) : ∃ o es ep, (hd.heap_39 p).lookup 2 = some o ∧ o.data = .dict es ep ∧ nsFind es sharingNotToldKey = none :=
  ⟨_, _, _, rfl, rfl, by with_unfolding_all rfl⟩
theorem noneBooked {w : World} {h h' : Heap} {mean : ExcName → Option Value} {mg mb : Str → Option Value} (X : (hd.heap_39 w.params).In h) (T : Top hd.view_39 (looseW hd.view_39 [Str.ofString "_norm_version", Str.ofString "b2a_base64", Str.ofString "b64encode"]) mean mg mb h) (kp : ∀ b o, h.get? b = some o → h'.get? b = some o) : NoneBooked h' := by
  obtain ⟨mc, hn, _⟩ := T.nodigits
  refine ⟨mc, hn.keeps kp, ?_⟩
  obtain ⟨o, es, ep, hl, hd, hf⟩ := frag2 w.params
  obtain ⟨o', es', ep', ho', hd', _, hf'⟩ := hn
  have e := X _ _ hl
  rw [show (2 : Addr) = cStatics from rfl, ho'] at e
  cases e
  rw [hd] at hd'
  cases hd'
  rw [← hf', hf]

theorem strs_reads {h : Heap} {vs : List Value} {ys : List Str} (x : StrsAre vs ys) : ReadsAll h vs (ys.map PyData.str) [] := by
  induction x with
  | nil => exact .nil
  | cons y t _ ih => exact .cons (as := []) (bs := []) (.str y t) ih
theorem reads_list {h : Heap} {l : Addr} {vs : List Value} {ds : List PyData} (hl : h.IsList l vs.toArray) (hr : ReadsAll h vs ds []) : Reads h (.ref l) (.list ds) [l] := by
  obtain ⟨o, ho, hc, n, hd⟩ := hl
  exact .list ho hc hd (by simpa using hr)
theorem canLay_strs : ∀ ys : List Str, (∀ y ∈ ys, PyData.strOk y = true) → PyData.canLayAll0 (ys.map PyData.str) = true
  | [], _ => rfl
  | y :: r, h => by
    have := canLay_strs r fun z hz => h z (List.mem_cons_of_mem _ hz)
    simp [PyData.canLayAll0, PyData.canLay0, h y (List.mem_cons_self ..), this]
/-- a list of texts against the empty list -/
theorem ne_nil_strs {prog : Program} {w : World} {A : Around} {E : Value → Shared → Prop} {s : Shared} {a b : Addr} {vs : List Value} {ys : List Str} {Q : Value → Shared → Prop}
    (ha : s.heap.IsList a vs.toArray) (hs : StrsAre vs ys) (hb : s.heap.IsList b #[]) (hok : ∀ y ∈ ys, PyData.strOk y = true) (hu : A.units + 10 < cLine) (h : Q (.bool (!ys.isEmpty)) s) : wpAny (model prog w) A (compareOp .NotEq (.ref a) (.ref b)) Q E s := by
  have rb : Reads s.heap (.ref b) (.list []) [b] := reads_list (vs := []) hb .nil
  refine SeqAt.compareNe_reads (reads_list ha (strs_reads hs)) rb (by simpa [PyData.canLay0] using canLay_strs ys hok) rfl ?_ ?_
  · have : (PyData.list []).depth ≤ 5 := by decide
    omega
  · cases ys with
    | nil => simpa [PyData.eqv, PyData.eqvAll] using h
    | cons y ys => simpa [PyData.eqv, PyData.eqvAll] using h
theorem map_eq1 {m m₀ : Str → Option Value} {a x : Str} {v : Value} (h1 : m a = some v) (h2 : ∀ y, y ≠ a → y ≠ x → m y = m₀ y) : m = fun y => if y = a then some v else if y = x then m y else m₀ y := by
  funext y
  by_cases e1 : y = a
  · rw [if_pos e1, e1, h1]
  · rw [if_neg e1]
    by_cases e2 : y = x
    · rw [if_pos e2]
    · rw [if_neg e2]; exact h2 y e1 e2
end Mine
end

section
namespace Mine
noncomputable abbrev nwB {h₀ : Heap} {L : Addr} {h : Heap} {a : Addr} {o : Obj} {r : List (Addr × Obj)} (_ : News h₀ L h ((a, o) :: r)) : Addr := a
theorem inv_end2 {h₀ : Heap} {L D : Addr} {o : Obj} {p : Addr × Obj} {own : List (Addr × Obj)} {h' : Heap} {tk : Nat} {m : Str → Option Value} {J : (Str → Option Value) → List (Addr × Obj) → Prop} {s : Shared}
    (F : Fr h₀ L h' m) (N : News h₀ L h' (p :: (D, o) :: own)) (hJ : J m [(D, o)]) : InvEndN h₀ L J own [D] s { s with heap := h', toks := tk } :=
  InvEndN.intro (nx := [(D, o)]) F N hJ rfl (fun q hq => by rw [List.mem_singleton.mp hq]; simp) (fun q hq => by simp [hq])
theorem range_small {a b c : Int} (ha : 0 ≤ a ∧ a ≤ 16777216) (hb : 0 ≤ b ∧ b ≤ 16777216) (hc : 0 < c ∧ c ≤ 4) : Builtin.Range.small a b c = true := by
  have hs : 0 ≤ Builtin.Range.rangeSize a b c ∧ Builtin.Range.rangeSize a b c ≤ 33554432 := by
    unfold Builtin.Range.rangeSize
    rw [if_pos hc.1]
    split
    · have h1 : 0 ≤ (b - a - 1) / c := Int.ediv_nonneg (by omega) (by omega)
      have h2 : (b - a - 1) / c ≤ b - a - 1 := Int.ediv_le_self _ (by omega)
      omega
    · omega
  unfold Builtin.Range.small Builtin.Range.rangeFitsLong
  simp only [Bool.and_eq_true, Bool.or_eq_true, decide_eq_true_eq]
  rw [if_pos hc.1]
  simp only [Bool.and_eq_true, decide_eq_true_eq]
  omega
section
variable {prog : Program} {w : World} {A : Around} {E : Value → Shared → Prop} {s : Shared} {env : Env} {h₀ : Heap} {x : Str} {body : List Stmt} {Q : Flow → Shared → Prop} {m₀ : Str → Option Value} {news : List (Addr × Obj)}

theorem iter_rangeN {r : Addr} {a b c : Int} {t u v : Tok} {n : Nat} (J : Nat → (Str → Option Value) → List (Addr × Obj) → Prop)
    (hh : A.handled = none) (hr : IsRange s.heap r a b c t u v) (hsmall : Builtin.Range.small a b c = true) (hn : Builtin.Range.rangeSize a b c = (n : Int)) (F : Fr h₀ env.locals s.heap m₀) (N : News h₀ env.locals s.heap news) (hj : J 0 m₀ news)
    (turn : ∀ (i : Nat) t m₁ news₁ h tk own, i < n → OwnOff own (news.map (·.1)) → J i m₁ news₁ → Fr h₀ env.locals h (fun y => if y = x then some (.int (a + i * c) t) else m₁ y) → News h₀ env.locals h (news₁ ++ own) →
      wpAny (model prog w) A (execs body env) (InvPostN h₀ env.locals (J (i + 1)) own (news.map (·.1)) { s with heap := h, toks := tk } Q) E { s with heap := h, toks := tk })
    (done : ∀ m₁ news₁ h tk, J n m₁ news₁ → Fr h₀ env.locals h m₁ → News h₀ env.locals h news₁ → Q .next { s with heap := h, toks := tk }) :
    wpAny (model prog w) A (pyIter (.ref r)) (fun it s₂ => LoopAtV prog w A h₀ env x body Q E it s₂) E s := by
  refine wpAny_pyIter_range hr hsmall ?_
  have W := Walks.range (prog := prog) (w := w) hh s.heap.objs.size a c n
  have hst : IsRangeIter (s.heap.push { cls := .type "range_iterator", data := .fields #[rawInt a, rawInt (Builtin.Range.rangeSize a b c), rawInt c] }) s.heap.objs.size (a + (0 : Nat) * c) ((n : Int) - (0 : Nat)) c := by
    rw [hn]
    have e1 : a + ((0 : Nat) : Int) * c = a := by simp
    have e2 : (n : Int) - ((0 : Nat) : Int) = n := by simp
    rw [e1, e2]
    exact Heap.get?_push_size _ rfl
  refine loop_invN J W ?_ ?_ ?_ ?_ hst (F.push _) (fun p hp => ⟨Heap.get?_push_of_some _ (N p hp).1, (N p hp).2⟩) hj ?_ ?_
  · intro hm
    exact absurd F.ns.lt ((List.mem_singleton.mp hm) ▸ Nat.lt_irrefl _)
  · intro b' hb
    rw [List.mem_singleton.mp hb]
    exact next_is_new F
  · intro p hp hI
    exact absurd (Heap.lt_size (N p hp).1) ((List.mem_singleton.mp hI) ▸ Nat.lt_irrefl _)
  · intro p hp hI
    exact absurd (Heap.lt_size (N p hp).1) ((List.mem_singleton.mp hI) ▸ Nat.lt_irrefl _)
  · rintro i v m₁ news₁ h tk own hi ⟨u, rfl⟩ _ hoff hJ F₁ N₁
    exact turn i u m₁ news₁ h tk own hi hoff hJ F₁ N₁
  · intro m₁ news₁ h tk hJ F₁ N₁
    exact done m₁ news₁ h tk hJ F₁ N₁

theorem iter_listN {l : Addr} {vs : List Value} (J : Nat → (Str → Option Value) → List (Addr × Obj) → Prop)
    (hh : A.handled = none) (hl : h₀.IsList l vs.toArray) (F : Fr h₀ env.locals s.heap m₀) (hL : env.locals ≠ l) (N : News h₀ env.locals s.heap news) (hj : J 0 m₀ news)
    (turn : ∀ (i : Nat) v m₁ news₁ h tk own, vs[i]? = some v → OwnOff own (news.map (·.1)) → J i m₁ news₁ → Fr h₀ env.locals h (fun y => if y = x then some v else m₁ y) → News h₀ env.locals h (news₁ ++ own) →
      wpAny (model prog w) A (execs body env) (InvPostN h₀ env.locals (J (i + 1)) own (news.map (·.1)) { s with heap := h, toks := tk } Q) E { s with heap := h, toks := tk })
    (done : ∀ m₁ news₁ h tk, J vs.length m₁ news₁ → Fr h₀ env.locals h m₁ → News h₀ env.locals h news₁ → Q .next { s with heap := h, toks := tk }) :
    wpAny (model prog w) A (pyIter (.ref l)) (fun it s₂ => LoopAtV prog w A h₀ env x body Q E it s₂) E s := by
  have hl' : s.heap.IsList l vs.toArray := hl.at fun o e => F.keep _ _ e
  have hlt : l < s.heap.objs.size := by obtain ⟨o, ho, _⟩ := hl'; exact Heap.lt_size ho
  refine wpAny_pyIter_list hl' ?_
  have W := Walks.list (prog := prog) (w := w) hh s.heap.objs.size l (Nat.ne_of_lt hlt) vs.toArray
  have e1 : vs.toArray.size = vs.length := by simp
  have e2 : (fun (i : Nat) (v : Value) => vs.toArray[i]? = some v) = fun i v => vs[i]? = some v := by funext i v; simp
  rw [e2] at W
  rw [e1] at W
  refine loop_invN J W ?_ ?_ ?_ ?_ ⟨⟨_, Heap.get?_push_size _ rfl, rfl, rfl⟩, hl'.at fun o e => Heap.get?_push_of_some _ e⟩ (F.push _) (fun p hp => ⟨Heap.get?_push_of_some _ (N p hp).1, (N p hp).2⟩) hj ?_ ?_
  · intro hm
    rcases List.mem_cons.mp hm with e | hm
    · exact absurd F.ns.lt (e ▸ Nat.lt_irrefl _)
    · exact hL (List.mem_singleton.mp hm)
  · intro b' hb
    rw [List.mem_singleton.mp hb]
    exact next_is_new F
  · intro p hp hI
    exact absurd (Heap.lt_size (N p hp).1) ((List.mem_singleton.mp hI) ▸ Nat.lt_irrefl _)
  · intro p hp hI
    rcases List.mem_cons.mp hI with e | hI
    · exact absurd (Heap.lt_size (N p hp).1) (e ▸ Nat.lt_irrefl _)
    · have e := List.mem_singleton.mp hI
      obtain ⟨o, ho, _⟩ := hl
      have := (N p hp).2
      rw [e] at this
      rw [ho] at this
      exact absurd this.2 (by simp)
  · rintro i v m₁ news₁ h tk own hi hv _ hoff hJ F₁ N₁
    exact turn i v m₁ news₁ h tk own hv hoff hJ F₁ N₁
  · intro m₁ news₁ h tk hJ F₁ N₁
    exact done m₁ news₁ h tk hJ F₁ N₁
end
end Mine
end

section
namespace Mine
inductive NumsAre : List Value → List (Option Int) → Prop
  | nil : NumsAre [] []
  | no {vs ns} : NumsAre vs ns → NumsAre (.none :: vs) (none :: ns)
  | yes (n : Int) (t : Tok) {vs ns} : NumsAre vs ns → NumsAre (.int n t :: vs) (some n :: ns)

noncomputable def numD : Option Int → PyData
  | none => .none
  | some n => .int n
theorem NumsAre.reads {h : Heap} {vs : List Value} {ns : List (Option Int)} (x : NumsAre vs ns) : ReadsAll h vs (ns.map numD) [] := by
  induction x with
  | nil => exact .nil
  | no _ ih => exact .cons (as := []) (bs := []) .none ih
  | yes n t _ ih => exact .cons (as := []) (bs := []) (.int n t) ih
theorem canLay_nums : ∀ ns : List (Option Int), PyData.canLayAll0 (ns.map numD) = true
  | [] => rfl
  | none :: r => by simpa [PyData.canLayAll0, PyData.canLay0, numD] using canLay_nums r
  | some n :: r => by simpa [PyData.canLayAll0, PyData.canLay0, numD] using canLay_nums r
theorem any_none : ∀ ns : List (Option Int), ((ns.map numD).any fun y => PyData.eqv y .none) = ns.any (·.isNone)
  | [] => rfl
  | none :: r => by simp [numD, PyData.eqv]
  | some n :: r => by simp [numD, PyData.eqv, any_none r]
theorem depth_nums : ∀ ns : List (Option Int), min (PyData.depthAll (ns.map numD)) PyData.none.depth ≤ 5 := fun ns => by
  have : PyData.none.depth ≤ 5 := by decide
  omega
theorem in_nums {prog : Program} {w : World} {A : Around} {E : Value → Shared → Prop} {s : Shared} {l : Addr} {vs : List Value} {ns : List (Option Int)} {Q : Value → Shared → Prop}
   (hl : s.heap.IsList l vs.toArray) (hx : NumsAre vs ns) (hu : A.units + 10 < cLine) (h : Q (.bool (ns.any (·.isNone))) s) :
   wpAny (model prog w) A (compareOp .In .none (.ref l)) Q E s := by
  refine SeqAt.in_list_reads (reads_list hl hx.reads) .none (canLay_nums ns) rfl ?_ ?_
  · have := depth_nums ns; omega
  · rw [any_none]; exact h


noncomputable def txtInt (n : Int) : Str := Str.ofString (toString n)
noncomputable def normOf (parts : List Str) (nums : List (Option Int)) : Str :=
  if nums.any (·.isNone) then Txt.join (Str.ofString ".") (parts.take 3) else Txt.join (Str.ofString ".") ((nums.take 3).map fun o => txtInt (o.getD 0))

theorem sum_take_le {α : Type} (f : α → Nat) : ∀ (l : List α) (n : Nat), ((l.take n).map f).sum ≤ (l.map f).sum
  | [], n => by simp
  | a :: l, 0 => by simp
  | a :: l, n + 1 => by
    have := sum_take_le f l n
    simp only [List.take_succ_cons, List.map_cons, List.sum_cons]
    omega
theorem nums_take {vs : List Value} {ys : List (Option Int)} (h : NumsAre vs ys) : ∀ n, NumsAre (vs.take n) (ys.take n) := by
  induction h with
  | nil => intro n; simp; exact .nil
  | no _ ih =>
    intro n
    cases n with
    | zero => exact .nil
    | succ n => exact .no (ih n)
  | yes y t _ ih =>
    intro n
    cases n with
    | zero => exact .nil
    | succ n => exact .yes y t (ih n)
theorem nums_length {vs : List Value} {ys : List (Option Int)} (h : NumsAre vs ys) : vs.length = ys.length := by
  induction h with
  | nil => rfl
  | no _ ih => simp [ih]
  | yes _ _ _ ih => simp [ih]
theorem nums_mem {vs : List Value} {ys : List (Option Int)} (h : NumsAre vs ys) {v : Value} (hv : v ∈ vs) (hn : ys.any (·.isNone) = false) : ∃ n t, v = .int n t ∧ some n ∈ ys := by
  induction h with
  | nil => cases hv
  | no _ ih => simp at hn
  | yes n t _ ih =>
    rcases List.mem_cons.mp hv with rfl | hv
    · exact ⟨n, t, rfl, by simp⟩
    · obtain ⟨n', t', e, hm⟩ := ih hv (by simpa using hn)
      exact ⟨n', t', e, by simp [hm]⟩
theorem pair_strs {vs ys : List Value} {ns : List (Option Int)} (h : NumsAre vs ns) (hn : ns.any (·.isNone) = false) (hp : Paired (fun v y => ∀ n t, v = .int n t → ∃ t', y = .str (txtInt n) t') vs ys) : StrsAre ys (ns.map fun o => txtInt (o.getD 0)) := by
  induction h generalizing ys with
  | nil => cases hp; exact .nil
  | no _ ih => simp at hn
  | yes n t _ ih =>
    cases hp with
    | cons h1 h2 =>
      obtain ⟨t', rfl⟩ := h1 n t rfl
      exact .cons _ _ (ih (by simpa using hn) h2)
theorem lawnorm_call {w : World} {s : Shared} {mean : ExcName → Option Value} {mg mb : Str → Option Value} {Q E : Value → Shared → Prop}
   (X : (hd.heap_39 w.params).In s.heap) (T : Top hd.view_39 (looseW hd.view_39 [Str.ofString "_norm_version", Str.ofString "b2a_base64", Str.ofString "b64encode"]) mean mg mb s.heap) {lp ln : Addr} {ps : List Value} {parts : List Str} {ns : List Value} {nums : List (Option Int)}
  (hp : s.heap.IsList lp ps.toArray) (hps : StrsAre ps parts) (hn : s.heap.IsList ln ns.toArray) (hns : NumsAre ns nums)
  (hpl : parts.length ≤ 1000) (hpz : (parts.map (·.length)).sum ≤ 100000) (hnl : nums.length ≤ 1000) (hnz : ∀ n, some n ∈ nums → n.natAbs.log2 < 1920)
  (hQ : ∀ t h' tk, (∀ b o, s.heap.get? b = some o → h'.get? b = some o) → Q (.str (normOf parts nums) t) {s with heap := h', toks := tk}) 
  : wpAny (model PySem.Challenge.rw_mq0053_01.row.prog w) (AA 400 500 none) (call (.ref 83) [.ref lp, .ref ln]) Q E s := by
  refine wpAny_call ?_
  revert X T
  k_fill
  intro X T
  refine' enterK (binds := [(Str.ofString "parts", .ref lp), (Str.ofString "numbers", .ref ln)]) X T ?k6 ?k7 ?k8 ?k9 ?kB ?_ ?c2 ?c3 ?c4 ?c5; (case k6 => k_is); (case k7 => k_is); (case k8 => decide); (case k9 => exact BindsTo.of_eq rfl); (case c5 => decide); (case kB => exact locs rfl); (case c2 => exact rfl); (case c3 => exact rfl); (case c4 => exact rfl)
  intro h₁ F N
  (try dsimp only)
  k_fold
  walk_at "go"
  refine wpAny_If ?_
  walk_at "go"
  refine in_nums (hn.at (F.keep _)) hns (Nat.le_of_ble_eq_true rfl) ?_
  walk_at "go"
  refine split_bool ?_ ?_ <;> intro hb
  · walk_at "go"
    refine' kms_slice_lit (s := {s with heap := h₁, toks := _}) F N (hp.at (F.keep _)) .none (.int 3 _) (pick_to (k := 3) (by decide)) ?_ ?hs ?ht ?hz
    case hs => with_unfolding_all rfl
    case ht => intro _; with_unfolding_all rfl
    case hz => have := strs_length hps; rw [sizeLine_eq]; simp; omega
    intro D h₂ F₂ N₂ _
    dsimp only
    walk_at "go"
    refine join_list (News.isList N₂ (List.mem_cons_self ..)) (by simpa using strs_take hps 3) ?_ ?_
    · have := sum_take_le (·.length) parts 3
      have h2 : (parts.take 3).length ≤ 3 := by simp; omega
      have h3 : (Str.ofString ".").length = 1 := by decide
      rw [h3]; omega
    intro t' k'
    dsimp only
    walk_at "go"
    have e : normOf parts nums = Txt.join (Str.ofString ".") (List.take 3 parts) := by unfold normOf; rw [if_pos hb]
    exact e ▸ hQ t' h₂ k' F₂.keep
  · walk_at "go"
    refine comp_list (fun v y => ∀ n t, v = .int n t → ∃ t', y = .str (txtInt n) t') rfl ?_ rfl (by decide) rfl (by decide) (by decide)
    walk_at "go"
    refine' kms_slice_lit (s := {s with heap := h₁, toks := _}) F N (hn.at (F.keep _)) .none (.int 3 _) (pick_to (k := 3) (by decide)) ?_ ?hs ?ht ?hz
    case hs => with_unfolding_all rfl
    case ht => intro _; with_unfolding_all rfl
    case hz => have := nums_length hns; rw [sizeLine_eq]; simp; omega
    intro D h₂ F₂ N₂ _
    have hns3 := nums_take hns 3
    have hb3 : (nums.take 3).any (·.isNone) = false := by
      rw [List.any_eq_false] at hb ⊢
      exact fun o ho => hb o (List.mem_of_mem_take ho)
    have hz3 : ∀ n, some n ∈ nums.take 3 → n.natAbs.log2 < 1920 := fun n hm => hnz n (List.mem_of_mem_take hm)
    have hl3 : (nums.take 3).length ≤ 3 := by simp; omega
    refine ⟨D, _, rfl, News.isList N₂ (List.mem_cons_self ..), ?_, ?_, ?_⟩
    · have := nums_length hns3
      rw [sizeLine_eq]; simp; omega
    · intro C v s₃ m₃ E' hC hv hnC hm hk
      obtain ⟨n, t, rfl, hmem⟩ := nums_mem (by simpa using hns3) hv hb3
      refine wpAny_Call_NameR (gname_B (fun b o e => hk b o (F₂.keep b o e)) X T ?kn boot_str (by decide) ?_); (case kn => k_is)
      refine PyProof.Rows.callWith_type1 ?_
      refine spliced_more ?_
      refine wpAny_Name (wpAny_loadName_local rfl rfl hnC hm ?_)
      refine spliced_none ?_
      refine PySem.P.str_of_int (hz3 n hmem) ⟨fun n' t' e => ?_, s₃.heap, _, rfl, fun _ _ e => e⟩
      injection e with e1 e2
      subst e1
      exact ⟨_, rfl⟩
    · intro D' h₃ tk₃ ys hD' hPl hF hk
      dsimp only
      walk_at "go"
      have hst := pair_strs (by simpa using hns3) hb3 hF
      refine join_list hPl.isList hst ?_ ?_
      · have h3 : (Str.ofString ".").length = 1 := by decide
        have h4 : ∀ l : List (Option Int), (∀ n, some n ∈ l → n.natAbs.log2 < 1920) → l.any (·.isNone) = false → ((l.map fun o => txtInt (o.getD 0)).map (·.length)).sum ≤ 1921 * l.length := by
          intro l
          induction l with
          | nil => intro _ _; simp
          | cons o l ih =>
            intro h1 h2
            have := ih (fun n hm => h1 n (by simp [hm])) (by simp at h2 ⊢; exact h2.2)
            cases o with
            | none => simp at h2
            | some n =>
              have h6 : (txtInt n).length ≤ 1921 := int_text_len_1921 (h1 n (by simp))
              simp only [List.map_cons, List.sum_cons, List.length_cons, Option.getD_some]
              show (txtInt n).length + _ ≤ _
              omega
        have := h4 _ hz3 hb3
        rw [h3]; simp only [List.length_map]; omega
      intro t' k'
      dsimp only
      walk_at "go"
      have e : normOf parts nums = Txt.join (Str.ofString ".") ((nums.take 3).map fun o => txtInt (o.getD 0)) := by unfold normOf; rw [if_neg (by rw [hb]; decide)]
      exact e ▸ hQ t' h₃ k' fun b o e => hk b o (F₂.keep b o e)
end Mine
end

section
namespace Mine

noncomputable def tilde : Str := Str.ofString "~"
noncomputable def digs : Str := Str.ofString "0123456789"
noncomputable def runsOf (told : Str) : List Str := Txt.split (Txt.stripChars told (Str.ofString "~")) (Str.ofString "~")
noncomputable def joinOf (told : Str) : Str := Txt.join (Str.ofString "") (runsOf told)
noncomputable def badSign (n : Nat) : Bool := !Txt.contains (Str.ofString "0123456789") ⟨#[n]⟩
noncomputable def numFold (l : List Nat) : Int := l.foldl (fun a c => 10 * a + Txt.find (Str.ofString "0123456789") ⟨#[c]⟩) 0
noncomputable def aheadOf (told : Str) : Int := (told.length : Int) - ((Txt.lstripChars told (Str.ofString "~")).length : Int)
noncomputable def behindOf (told : Str) : Int := (told.length : Int) - ((Txt.rstripChars told (Str.ofString "~")).length : Int)
noncomputable def numRest (told mark : Str) : Option Int :=
  if (runsOf told).any (· == Str.ofString "") then none
  else if ((joinOf told).cps.toList.filter badSign) ≠ [] then none
  else if Txt.contains (Str.ofString "+-") mark && (decide (aheadOf told > 1) || decide (behindOf told > 0)) then none
  else if Txt.contains (Str.ofString "_~") mark && decide (aheadOf told + behindOf told > 0) then none
  else if (mark != Str.ofString "_") && decide ((runsOf told).length > 1) then none
  else some (if (mark == Str.ofString "-") && (aheadOf told == 1) then -(numFold (joinOf told).cps.toList) else numFold (joinOf told).cps.toList)
noncomputable def toldOf (part mark : Str) : Str := if mark == Str.ofString "9" then Txt.replace part (Str.ofString "~") (Str.ofString "9") else part
noncomputable def lawNum (part mark : Str) : Option Int := numRest (toldOf part mark) mark
noncomputable def NumIs (v : Value) : Option Int → Prop
  | none => v = .none
  | some n => ∃ t, v = .int n t
theorem numIs_int {n m : Int} {t : Tok} (e : n = m) : NumIs (.int n t) (some m) := ⟨t, by rw [e]⟩
structure TOK (told : Str) : Prop where
  len : told.length ≤ 1000
  runs : (runsOf told).length ≤ 1000
  sum : ((runsOf told).map (·.length)).sum ≤ 1000
  jlen : (joinOf told).cps.size ≤ 1000
  signs : ∀ n ∈ (joinOf told).cps.toList, n < 1114112

theorem number_call {w : World} {s : Shared} {mean : ExcName → Option Value} {mg mb : Str → Option Value} {Q E : Value → Shared → Prop}
   (X : (hd.heap_39 w.params).In s.heap) (T : Top hd.view_39 (looseW hd.view_39 [Str.ofString "_norm_version", Str.ofString "b2a_base64", Str.ofString "b64encode"]) mean mg mb s.heap) {part mark : Str} {t1 t2 : Tok}
  (hp : part.length ≤ 1000) (hok : TOK (toldOf part mark))
  (hQ : ∀ v h' tk, NumIs v (lawNum part mark) → (∀ b o, s.heap.get? b = some o → h'.get? b = some o) → Q v {s with heap := h', toks := tk}) 
  : wpAny (model PySem.Challenge.rw_mq0053_01.row.prog w) (AA 400 500 none) (call (.ref 78) [.str part t1, .str mark t2]) Q E s := by
  refine wpAny_call ?_
  revert X T
  k_fill
  intro X T
  refine' enterK (binds := [(Str.ofString "part", .str part t1), (Str.ofString "mark", .str mark t2)]) X T ?k6 ?k7 ?k8 ?k9 ?kB ?_ ?c2 ?c3 ?c4 ?c5; (case k6 => k_is); (case k7 => k_is); (case k8 => decide); (case k9 => exact BindsTo.of_eq rfl); (case c5 => decide); (case kB => exact locs rfl); (case c2 => exact rfl); (case c3 => exact rfl); (case c4 => exact rfl)
  intro h₁ F N
  (try dsimp only)
  k_fold
  refine wpAny_execs_cons (wpAny_Assign_Name (wpAny_mono (Q := fun v s' => ∃ t h tk, v = .str (toldOf part mark) t ∧ s' = {s with heap := h, toks := tk} ∧ Fr s.heap s.heap.objs.size h (fun y => List.lookup y [(Str.ofString "part", Value.str part t1), (Str.ofString "mark", Value.str mark t2)].reverse) ∧ News s.heap s.heap.objs.size h []) ?_ ?_ (fun _ _ e => e)))
  · refine wpAny_IfExp (wpAny_isTrue_Compare1 ?_)
    refine ld F rfl ?_
    refine Constant_str ?_
    refine P.eq_str ?_
    rw [eq_meets]
    refine wpAny_truthy_bool ?_
    refine split_bool ?_ ?_ <;> intro h9
    · walk_at "go"
      refine SC.replaceA ?_ ?_ ?_ ?_ ?_ (noneBooked X T F.keep)
      · simp
      · simp
      · simp
      · have : (Str.ofString "9").length = 1 := by decide
        rw [this]; omega
      · intro t' k
        exact ⟨t', h₁, _, by unfold toldOf; rw [if_pos h9], rfl, F, N⟩
    · refine ld F rfl ?_
      exact ⟨t1, h₁, _, by unfold toldOf; rw [if_neg (by rw [h9]; decide)], rfl, F, N⟩
  · rintro _ _ ⟨t, h₂, tk₂, rfl, rfl, F₂, N₂⟩
    have hl0 := hok.len
    walk_at "go"
    refine P.len_str (by omega) ?_
    walk_at "go"
    refine SCL.lstripChars ?_ (by rw [sizeLine_eq]; omega)
    intro t4 k4 hl4
    walk_at "go"
    refine P.len_str (by omega) ?_
    walk_at "go"
    refine P.len_str (by omega) ?_
    walk_at "go"
    refine SCL.rstripChars ?_ (by rw [sizeLine_eq]; omega)
    intro t5 k5 hl5
    walk_at "go"
    refine P.len_str (by omega) ?_
    walk_at "go"
    refine SCL.stripChars ?_ (by rw [sizeLine_eq]; omega)
    intro t6 k6 hl6
    walk_at "go"
    (rename Fr _ _ _ _ => F3); (rename News _ _ _ _ => N3)
    refine KSpl.split1 F3 N3 (by decide) ?_ (by rw [sizeLine_eq]; omega)
    intro D l h7 k7 hl hst F7 N7 _
    walk_at "go"
    refine wpAny_If ?_
    walk_at "go"
    (rename Fr _ _ _ _ => F8); (rename News _ _ _ _ => N8)
    have hruns : l.map (·.1) = runsOf (toldOf part mark) := hl
    rw [hruns] at hst
    refine in_list_strs (News.isList N8 (List.mem_cons_self ..)) hst ?_
    walk_at "go"
    refine split_bool ?_ ?_ <;> intro hb1
    · walk_at "go"
      refine hQ .none _ _ ?_ F8.keep
      show NumIs _ (numRest _ _)
      unfold numRest
      rw [if_pos hb1]
      rfl
    walk_at "go"
    refine comp_str_if badSign rfl ?_ rfl (by decide) rfl (by decide) (by decide)
    walk_at "go"
    refine join_list (News.isList N8 (List.mem_cons_self ..)) hst ?_ ?_
    · have h1 := hok.sum
      have h2 : (Str.ofString "").length = 0 := by decide
      rw [h2]; omega
    intro t9 k9
    refine ⟨_, _, rfl, ?_, ?_, ?_, ?_⟩
    · have := hok.jlen
      rw [sizeLine_eq]
      exact Nat.le_trans this (by decide)
    · intro C n u s₃ m₃ E' Q' hC hn hnC hm hk hq
      refine wpAny_isTrue_Compare1 ?_
      refine wpAny_Name (wpAny_loadName_local rfl rfl hnC hm ?_)
      refine Constant_str ?_
      refine SB.notContains ?_
      refine wpAny_truthy_bool ?_
      exact hq _
    · intro C n u s₃ m₃ E' Q' hnC hm hq
      exact wpAny_Name (wpAny_loadName_local rfl rfl hnC hm hq)
    · intro D2 h10 tk10 ys hD2 hPl hys hk
      dsimp only at hk hD2
      have F10 := F8.keeps hk
      have N10 : News s.heap s.heap.objs.size h10 ((D2, _) :: _) := News.more F10 (N8.keepsAll hk) (hPl.choose_spec) (by intro es n q; cases q) (by
        cases e : s.heap.get? D2 with
        | none => rfl
        | some o => rw [F8.keep _ _ e] at hD2; cases hD2)
      dsimp only
      clear F8 N8
      walk_at "go"
      (rename Fr _ _ _ _ => F11); (rename News _ _ _ _ => N11)
      refine ne_nil_strs (vs := ys.toList) (by simpa using News.isList N11 (List.mem_cons_of_mem _ (List.mem_cons_self ..))) hys (News.isList N11 (List.mem_cons_self ..)) ?_ (Nat.le_of_ble_eq_true rfl) ?_
      · intro y hy
        obtain ⟨n, hn, rfl⟩ := List.mem_map.mp hy
        have := hok.signs n ((List.mem_filter.mp hn).1)
        simp [PyData.strOk]; omega
      walk_at "go"
      refine split_bool ?_ ?_ <;> intro hb2
      · walk_at "go"
        refine hQ .none _ _ ?_ F11.keep
        show NumIs _ (numRest _ _)
        unfold numRest
        rw [if_neg (by rw [hb1]; decide), if_pos (by intro e; unfold joinOf at e; rw [e] at hb2; simp at hb2)]
        rfl
      have hgood : (joinOf (toldOf part mark)).cps.toList.filter badSign = [] := by
        have := hb2; simp at this; unfold joinOf; simpa using this
      walk_at "go"
      refine wpAny_If (wpAny_mono (Q := fun b s' => ∃ tk, b = (Txt.contains (Str.ofString "+-") mark && (decide (aheadOf (toldOf part mark) > 1) || decide (behindOf (toldOf part mark) > 0))) ∧ s' = { s with heap := frH F11, toks := tk }) ?_ ?_ (fun _ _ e => e))
      · walk_at "go"
        refine SB.contains ?_
        walk_at "go"
        refine split_bool ?_ ?_ <;> intro c1
        · walk_at "go"
          refine gt_int ?_
          walk_at "go"
          refine split_dec ?_ ?_ <;> intro c2
          · walk_at "go"
            exact ⟨_, by rw [c1]; unfold aheadOf behindOf; simp; omega, rfl⟩
          · walk_at "go"
            refine gt_int ?_
            walk_at "go"
            refine split_dec ?_ ?_ <;> intro c3
            · walk_at "go"
              exact ⟨_, by rw [c1]; unfold aheadOf behindOf; simp; omega, rfl⟩
            · walk_at "go"
              exact ⟨_, by rw [c1]; unfold aheadOf behindOf; simp; omega, rfl⟩
        · walk_at "go"
          exact ⟨_, by rw [c1]; rfl, rfl⟩
      rintro _ _ ⟨tk12, rfl, rfl⟩
      refine split_bool ?_ ?_ <;> intro d1
      · walk_at "go"
        refine hQ .none _ _ ?_ F11.keep
        show NumIs _ (numRest _ _)
        unfold numRest
        rw [if_neg (by rw [hb1]; decide), if_neg (by rw [hgood]; simp), if_pos d1]
        rfl
      walk_at "go"
      dsimp only [frH]
      refine wpAny_If (wpAny_mono (Q := fun b s' => ∃ tk, b = (Txt.contains (Str.ofString "_~") mark && decide (aheadOf (toldOf part mark) + behindOf (toldOf part mark) > 0)) ∧ s' = { s with heap := frH F11, toks := tk }) ?_ ?_ (fun _ _ e => e))
      · walk_at "go"
        refine SB.contains ?_
        walk_at "go"
        refine split_bool ?_ ?_ <;> intro c1
        · walk_at "go"
          refine gt_int ?_
          walk_at "go"
          refine split_dec ?_ ?_ <;> intro c2
          · walk_at "go"
            exact ⟨_, by rw [c1]; unfold aheadOf behindOf; simp; omega, rfl⟩
          · walk_at "go"
            exact ⟨_, by rw [c1]; unfold aheadOf behindOf; simp; omega, rfl⟩
        · walk_at "go"
          exact ⟨_, by rw [c1]; rfl, rfl⟩
      rintro _ _ ⟨tk13, rfl, rfl⟩
      refine split_bool ?_ ?_ <;> intro d2
      · walk_at "go"
        refine hQ .none _ _ ?_ F11.keep
        show NumIs _ (numRest _ _)
        unfold numRest
        rw [if_neg (by rw [hb1]; decide), if_neg (by rw [hgood]; simp), if_neg (by rw [d1]; decide), if_pos d2]
        rfl
      walk_at "go"
      dsimp only [frH]
      refine wpAny_If (wpAny_mono (Q := fun b s' => ∃ tk, b = ((mark != Str.ofString "_") && decide ((runsOf (toldOf part mark)).length > 1)) ∧ s' = { s with heap := frH F11, toks := tk }) ?_ ?_ (fun _ _ e => e))
      · walk_at "go"
        refine ne_str ?_
        walk_at "go"
        refine split_bool ?_ ?_ <;> intro c1
        · walk_at "go"
          refine len_strsA (l := strValues l) (News.isList N11 (List.mem_cons_of_mem _ (List.mem_cons_of_mem _ (List.mem_cons_self ..)))) hst (by have := hok.runs; omega) ?_
          walk_at "go"
          refine gt_int ?_
          walk_at "go"
          refine split_dec ?_ ?_ <;> intro c2
          · walk_at "go"
            exact ⟨_, by rw [c1]; simp; omega, rfl⟩
          · walk_at "go"
            exact ⟨_, by rw [c1]; simp; omega, rfl⟩
        · walk_at "go"
          exact ⟨_, by rw [c1]; rfl, rfl⟩
      rintro _ _ ⟨tk14, rfl, rfl⟩
      refine split_bool ?_ ?_ <;> intro d3
      · walk_at "go"
        refine hQ .none _ _ ?_ F11.keep
        show NumIs _ (numRest _ _)
        unfold numRest
        rw [if_neg (by rw [hb1]; decide), if_neg (by rw [hgood]; simp), if_neg (by rw [d1]; decide), if_neg (by rw [d2]; decide), if_pos d3]
        rfl
      walk_at "go"
      (rename Fr _ _ _ _ => F15); (rename News _ _ _ _ => N15)
      refine for_str (fun i m => (∃ t, m (Str.ofString "number") = some (.int (numFold ((joinOf (toldOf part mark)).cps.toList.take i)) t)) ∧ ∀ y, y ≠ Str.ofString "number" → y ≠ Str.ofString "sign" → m y = frM F15 y) rfl F15 N15 rfl rfl ?_
      walk_at "go"
      refine join_list (News.isList N15 (List.mem_cons_of_mem _ (List.mem_cons_of_mem _ (List.mem_cons_self ..)))) hst ?_ ?_
      · have h1 := hok.sum
        have h2 : (Str.ofString "").length = 0 := by decide
        rw [h2]; omega
      intro t16 k16
      refine ⟨joinOf (toldOf part mark), _, rfl, _, _, rfl, F15, N15, ⟨⟨_, rfl⟩, fun _ _ _ => by first | trivial | rfl⟩, ?_, ?_⟩
      · rintro i n u m₁ h tk own hi ⟨⟨t17, e17⟩, hm17⟩ hoff F17 N17
        rw [map_eq1 e17 hm17] at F17
        walk_at "go"
        have hbad : badSign n = false := by
          cases e : badSign n with
          | false => rfl
          | true =>
            have : n ∈ (joinOf (toldOf part mark)).cps.toList.filter badSign := List.mem_filter.mpr ⟨List.mem_of_getElem? hi, e⟩
            rw [hgood] at this; cases this
        refine index_or rfl (fun _ he => ?_) fun h0 _ => ?_
        · exfalso
          have : Txt.contains (Str.ofString "0123456789") ⟨#[n]⟩ = false := by unfold Txt.contains; rw [he]; rfl
          unfold badSign at hbad; rw [this] at hbad; cases hbad
        walk_at "go"
        (rename Fr _ _ _ _ => F18); (rename News _ _ _ _ => N18)
        refine InvEndN.intro F18 N18 ⟨rfl, ⟨?_, ?_⟩⟩ rfl (fun p hp => List.mem_append_left _ hp) (fun p hp => by first | exact List.mem_append_right _ hp | (simp only [List.mem_cons]; exact .inr (.inr (.inr hp))))
        · apply Exists.intro
          rw [List.take_add_one, hi]
          unfold numFold
          rw [List.foldl_append]
          rfl
        · intro y h1 h2
          show (if y = _ then _ else if y = _ then _ else if y = _ then _ else if y = _ then _ else _) = _
          rw [if_neg h1, if_neg h2, if_neg h1, if_neg h2]
      · rintro m₁ h tk ⟨⟨t17, e17⟩, hm17⟩ F17 N17
        rw [map_eq1 e17 hm17] at F17
        walk_at "go"
        have hnum : numFold (List.take (joinOf (toldOf part mark)).cps.size (joinOf (toldOf part mark)).cps.toList) = numFold (joinOf (toldOf part mark)).cps.toList := by
          rw [List.take_of_length_le (by simp)]
        have key : ∀ v b, b = ((mark == Str.ofString "-") && (aheadOf (toldOf part mark) == 1)) → NumIs v (some (if b then -(numFold (joinOf (toldOf part mark)).cps.toList) else numFold (joinOf (toldOf part mark)).cps.toList)) → NumIs v (lawNum part mark) := by
          intro v b hb hv
          show NumIs _ (numRest _ _)
          unfold numRest
          rw [if_neg (by rw [hb1]; decide), if_neg (by rw [hgood]; simp), if_neg (by rw [d1]; decide), if_neg (by rw [d2]; decide), if_neg (by rw [d3]; decide), ← hb]
          exact hv
        refine eq_str ?_
        walk_at "go"
        refine split_bool ?_ ?_ <;> intro c1
        · walk_at "go"
          refine eq_int ?_
          walk_at "go"
          refine split_bool ?_ ?_ <;> intro c2
          · walk_at "go"
            refine hQ _ _ _ (key _ true ?_ (numIs_int ?_)) F17.keep
            · rw [c1]; unfold aheadOf; rw [c2]; rfl
            · rw [if_pos rfl, hnum]
          · walk_at "go"
            refine hQ _ _ _ (key _ false ?_ (numIs_int ?_)) F17.keep
            · rw [c1]; unfold aheadOf; rw [c2]; rfl
            · rw [if_neg (by decide), hnum]
        · walk_at "go"
          refine hQ _ _ _ (key _ false ?_ (numIs_int ?_)) F17.keep
          · rw [c1]; rfl
          · rw [if_neg (by decide), hnum]
end Mine
end

section
open PySem.NumText
namespace Mine
open Sem (wp)

/-- a map's own step stands in the stack, ahead of every frame -/
noncomputable def MapTop (l : List Code) : Prop := ∃ pre a post, l = pre ++ Code.builtin "map.__next__" a :: post ∧ ∀ c ∈ pre, c.env? = none

theorem MapTop.more {l : List Code} (h : MapTop l) {c : Code} (hc : c.env? = none) : MapTop (c :: l) := by
  obtain ⟨pre, a, post, rfl, hp⟩ := h
  refine ⟨c :: pre, a, post, rfl, fun d hd => ?_⟩
  rcases List.mem_cons.mp hd with rfl | hd
  · exact hc
  · exact hp d hd
theorem MapTop.here {a : Args} {l : List Code} : MapTop (Code.builtin "map.__next__" a :: l) := ⟨[], a, l, rfl, fun _ h => nomatch h⟩

theorem not_made {l : List Code} (h : MapTop l) : pythonCodeMadeTheCall ["int.__new__"] l = false := by
  obtain ⟨pre, a, post, rfl, hp⟩ := h
  unfold pythonCodeMadeTheCall
  rw [Bool.and_eq_false_iff]
  right
  rw [List.all_eq_false]
  refine ⟨Code.builtin "map.__next__" a, ?_, ?_⟩
  · induction pre with
    | nil => simp [Code.env?]
    | cons c pre ih =>
      have hc := hp c (by simp)
      rw [List.cons_append, List.takeWhile_cons, hc]
      simp only [Option.isNone_none, if_true]
      exact List.mem_cons_of_mem _ (ih fun d hd => hp d (List.mem_cons_of_mem _ hd))
  · simp

noncomputable def wpS {α : Type} (M : Model) (A : Around) (t : Sem α) (Q : α → Shared → Prop) (E : Value → Shared → Prop) (s : Shared) : Prop :=
  ∀ Γ p, Γ.In A → MapTop (Γ.code :: Γ.below.map (·.1)) → wp M Γ t (fun a _ s' => Q a s') (fun e _ s' => E e s') p s
noncomputable def codeS (M : Model) (A : Around) (c : Code) (R : Result → Shared → Prop) (s : Shared) : Prop :=
  ∀ Γ p, Γ.code = c → Γ.Below A → MapTop (Γ.below.map (·.1)) → wpCode M Γ R p s

section
variable {α β : Type} {M : Model} {A : Around} {E : Value → Shared → Prop} {s : Shared}
theorem wpS_any {t : Sem α} {Q : α → Shared → Prop} (h : wpAny M A t Q E s) : wpS M A t Q E s := fun Γ p hΓ _ => h Γ p hΓ
theorem wpS_mono {t : Sem α} {Q Q' : α → Shared → Prop} {E' : Value → Shared → Prop} (h : wpS M A t Q E s)
    (hQ : ∀ a s, Q a s → Q' a s) (hE : ∀ e s, E e s → E' e s) : wpS M A t Q' E' s :=
  fun Γ p hΓ hS => Sem.wp_mono M Γ t (fun a _ s => hQ a s) (fun e _ s => hE e s) p s (h Γ p hΓ hS)
theorem wpS_bind {m : Sem α} {f : α → Sem β} {Q : β → Shared → Prop} (h : wpS M A m (fun a s' => wpS M A (f a) Q E s') E s) :
    wpS M A (m >>= f) Q E s := fun Γ p hΓ hS => by
  rw [Sem.wp_bind']
  exact Sem.wp_mono M Γ m (fun a p' s' h' => h' Γ p' hΓ hS) (fun _ _ _ h' => h') p s (h Γ p hΓ hS)
theorem wpS_conv {t t' : Sem α} {Q : α → Shared → Prop} (e : t = t') (h : wpS M A t' Q E s) : wpS M A t Q E s := e ▸ h
theorem wpS_holding {vs : List Value} {m : Sem α} {Q : α → Shared → Prop} (h : wpS M A m Q E s) : wpS M A (holding vs m) Q E s :=
  fun Γ p hΓ hS => by rw [Sem.wp_holding]; exact h Γ p hΓ hS
theorem wpS_stack {Q : List (Code × Pos) → Shared → Prop} (h : ∀ st : List (Code × Pos), MapTop (st.map (·.1)) → Q st s) : wpS M A stack Q E s := fun Γ p _ hS => by
  show Q ((Γ.code, p) :: Γ.below) s
  exact h _ hS
theorem wpS_call {f : Value} {pos : List Value} {kw : List (Str × Value)} {Q : Value → Shared → Prop}
    (hc : codeS M A (.call f ⟨pos, kw⟩) (fun r s' => match r with | .ok (.ret v) => Q v s' | .ok _ => False | .error e => E e s') s) :
    wpS M A (call f pos kw) Q E s := fun Γ p hΓ hS => by
  show wp M Γ (runValue (.call f ⟨pos, kw⟩)) _ _ p s
  rw [Sem.wp_runValue]
  exact hc _ p rfl (hΓ.enter _ none p (by intro x; cases x)) hS
theorem codeS_of_tree {c : Code} {R : Result → Shared → Prop} (hce : c.env? = none)
    (h : wpS M (A.under c) (M.den c) (fun fin s' => match fin with | .done f => R (.ok f) s' | .again c' => c'.quiet = true ∧ codeS M A c' R s')
      (fun e s' => R (.error e) s') s) : codeS M A c R s := fun Γ p hc hΓ hS => by
  rw [wpCode_iff_wp, hc]
  refine Sem.wp_mono M Γ _ (fun fin p' s' h' => ?_) (fun _ _ _ h' => h') p s (h Γ p (hc ▸ hΓ.in) (hS.more (by rw [hc]; exact hce)))
  cases fin with
  | done f => exact h'
  | again c' => exact ⟨h'.1, h'.2 (Γ.goto c') p' rfl (hΓ.goto c') hS⟩
end
section
variable {prog : Program} {w : World} {A : Around} {s : Shared} {R : Result → Shared → Prop}
theorem codeS_builtin {id : String} {args : Args} {b : Builtin} (hb : entryFor table id = some b)
    (h : wpS (model prog w) (A.under (.builtin id args)) (b args)
      (fun fin s' => match fin with | .done f => R (.ok f) s' | .again c' => c'.quiet = true ∧ codeS (model prog w) A c' R s') (fun e s' => R (.error e) s') s) :
    codeS (model prog w) A (.builtin id args) R s := by
  refine codeS_of_tree rfl ?_
  show wpS _ _ (match entryFor table id with | some b => b args | none => unsupported ((withoutEnding? id "#data").getD id)) _ _ s
  rw [hb]; exact h
end

theorem typeCall_shape (x : Value) : ∃ f, Builtin.«type.__call__» ⟨[.type "int", x], []⟩ = (holding [.builtin "int.__new__"] (call (.builtin "int.__new__") [.type "int", x] [])) >>= f := by
  have h1 := F.called_int.notType
  have h2 := F.called_int.canCreate
  obtain ⟨c, tl, h3⟩ := F.called_int.mro
  have h4 := F.called_int.made
  have h5 := F.typeCall_int_1 x
  apply Exists.intro
  unfold Builtin.«type.__call__»
  dsimp only
  rw [if_neg (by rw [h1]; decide)]
  rw [if_neg (by rw [h2]; decide), h5, h3, h4]
  simp only [pure_bind]
  rfl
theorem intObj_shape (x : Str) (u : Tok) : (int_private% "intFromObject") (.str x u) = (int_private% "intFromText") (.str x u) (numTextOf x) 10 := by
  have f3 := KIN.str_int
  have f4 := KIN.str_idx
  have f5 := KIN.str_trunc
  have f6 : typeOf (.str x u) = pure (.type "str") := rfl
  have g3 : callSpecial? (.str x u) "__int__" = pure none := by
    unfold callSpecial? specialOf
    rw [f6, pure_bind, f3, pure_bind]
  have g4 : specialOf (.str x u) "__index__" = pure none := by
    unfold specialOf
    rw [f6, pure_bind, f4]
  have g5 : specialOf (.str x u) "__trunc__" = pure none := by
    unfold specialOf
    rw [f6, pure_bind, f5]
  refine Eq.trans (b := callSpecial? (.str x u) "__int__" >>= _) rfl ?_
  rw [g3, pure_bind]
  refine Eq.trans (b := specialOf (.str x u) "__index__" >>= _) rfl ?_
  rw [g4, pure_bind]
  refine Eq.trans (b := specialOf (.str x u) "__trunc__" >>= _) rfl ?_
  rw [g5, pure_bind]
  rfl
theorem intNew_shape (x : Str) (u : Tok) : ∃ f, Builtin.«int.__new__» ⟨[.type "int", .str x u], []⟩ = ((int_private% "intFromText") (.str x u) (numTextOf x) 10) >>= f := by
  have f1 := F.conv_sub_int
  have f2 := F.madeHere_int
  have f7 : isType (.type "int") = pure true := rfl
  have hf := intObj_shape x u
  apply Exists.intro
  unfold Builtin.«int.__new__»
  dsimp only
  rw [f7, pure_bind, if_neg (by decide), f1, pure_bind, if_neg (by decide), f2, pure_bind, if_neg (by simp), if_neg (by simp), List.forIn_nil, pure_bind]
  refine Eq.trans (b := (int_private% "intFromObject") (.str x u) >>= _) rfl ?_
  rw [hf]

theorem text_bad {prog : Program} {w : World} {A : Around} {E : Value → Shared → Prop} {s : Shared} {Q : Value → Shared → Prop} {x : Str} {u : Tok} (hs : (numSeenOf x).length ≤ 640)
   (hr : (int_private% "readNumeral") 0 10 (numSeenOf x) = int_private% "Numeral.invalid") (hh : A.handled = none) (hx : ∀ c ∈ x.cps.toList, c < 16 ^ 8) (hl : x.length ≤ 640)
   (hE : ∀ h' e tk m, Heap.MadeExc s.heap h' e "ValueError" [m] → E (.ref e) { s with heap := h', toks := tk }) :
   wpS (model prog w) A ((int_private% "intFromText") (.str x u) (numTextOf x) 10) Q E s := by
  refine wpS_conv (t' := if (numSeenOf x).length ≤ 640 then _ else _) rfl ?_
  rw [if_pos hs]
  rw [pure_bind]
  dsimp only
  rw [show (int_private% "readNumeral") 0 10 (List.takeWhile (fun x => x != 0) (numTextOf x)) = int_private% "Numeral.invalid" from hr]
  refine wpS_conv (t' := (int_private% "bytesOf?") (.str x u) >>= _) rfl ?_
  have hb : (int_private% "bytesOf?") (.str x u) = pure none := rfl
  rw [hb, pure_bind]
  refine wpS_conv (t' := rule "int.__new__.invalid-literal" >>= fun _ => (int_private% "bytesOf?") (.str x u) >>= _) rfl ?_
  refine wpS_bind (wpS_any (wpAny_rule ?_))
  rw [hb, pure_bind]
  have h1 := StrLaws.reprText_len x hx
  dsimp only
  refine wpS_bind (wpS_any (wpAny_pyRepr_str ?_ (by rw [sizeLine_eq]; omega)))
  refine wpS_bind (wpS_any (wpAny_mkStr ?_ ?_))
  · refine wpS_bind (wpS_any (wpAny_newExc_plain plainExc_ValueError fun h' e hm => ?_))
    refine wpS_bind ?_
    unfold markTheRefusal
    refine wpS_bind (wpS_stack fun st hst => ?_)
    rw [not_made hst]
    refine wpS_any (wpAny_pure ?_)
    exact wpS_any (wpAny_raiseNew_none hh (hE h' e _ _ hm))
  · have e1 : (Str.ofString (toString "invalid literal for int() with base " ++ toString 10 ++ toString ": ")).length ≤ 60 := by decide +kernel
    rw [Str.length_append, sizeLine_eq]
    have e2 : (⟨(reprText x).cps.extract 0 200⟩ : Str).length ≤ 200 := by
      show (Array.extract _ 0 200).size ≤ 200
      rw [Array.size_extract]; omega
    omega

theorem int_bad {prog : Program} {w : World} {A : Around} {E : Value → Shared → Prop} {s : Shared} {Q : Value → Shared → Prop} {x : Str} {u : Tok}
   (hn : PySem.intText? x = none) (hz : numSeenOf x = numTextOf x) (hh : A.handled = none) (hx : ∀ c ∈ x.cps.toList, c < 16 ^ 8) (hl : x.length ≤ 640)
   (hE : ∀ h' e tk m, Heap.MadeExc s.heap h' e "ValueError" [m] → E (.ref e) { s with heap := h', toks := tk }) :
   wpS (model prog w) A (call (.type "int") [.str x u]) Q E s := by
  have hs : (numSeenOf x).length ≤ 640 := Nat.le_trans (seen_length x) hl
  have hr : (int_private% "readNumeral") 0 10 (numSeenOf x) = int_private% "Numeral.invalid" := by
    rcases read0 x hs with ⟨m, h1, _, _⟩ | ⟨_, h1 | ⟨i, _, h2⟩⟩
    · rw [hn] at h1; cases h1
    · exact h1
    · rw [hz] at h2; simp at h2
  refine wpS_call (codeS_of_tree rfl ?_)
  show wpS _ _ (callAny (.type "int") _) _ _ _
  refine wpS_any (wpAny_pure ⟨Code.quiet_builtin _ (by decide +kernel), codeS_builtin F.entry_type_call ?_⟩)
  obtain ⟨f, hf⟩ := typeCall_shape (.str x u)
  refine wpS_conv hf ?_
  refine wpS_bind (wpS_holding (wpS_call (codeS_of_tree rfl ?_)))
  show wpS _ _ (do checkBuiltinCall "int.__new__" ⟨[.type "int", .str x u], []⟩; again (.builtin "int.__new__" ⟨[.type "int", .str x u], []⟩)) _ _ s
  rw [F.newCall_int_1, pure_bind]
  refine wpS_any (wpAny_pure ⟨plainId_quiet F.called_int.plain _, codeS_builtin F.entry_int_new ?_⟩)
  obtain ⟨g, hg⟩ := intNew_shape x u
  refine wpS_conv hg ?_
  exact wpS_bind (text_bad hs hr hh hx hl hE)
end Mine
end

section
namespace Mine
namespace MF
theorem mro_map : mroOf (.type "map") = pure [.type "map", .type "object"] := by rw [mroOf_type]; kernel_rfl
theorem lookup_map_new : typeLookup (.type "map") "__new__" = pure (some (.builtin "map.__new__")) := by rw [typeLookup_type, builtinLookup_eq_fast]; kernel_rfl
theorem sub_map : isSubtype (.type "map") (.type "map") = pure true := by rw [isSubtype_type]; kernel_rfl
theorem slot_map_init : Slot "map" "__init__" "object.__init__" :=
  .of (owner := "object") (n := "__init__") (by rw [typeLookup_type, builtinLookup_eq_fast]; kernel_rfl) (by decide +kernel) (by decide +kernel) (by decide +kernel)
    (by first | exact .inl (by decide +kernel) | exact .inr (by decide +kernel)) (by rw [isSubtype_type]; kernel_rfl)
theorem called_map : TypeCalled "map" "map.__new__" "object.__init__" :=
  ⟨by decide +kernel, by decide +kernel, ⟨_, _, mro_map⟩, madeBy_type mro_map lookup_map_new (by decide +kernel), by decide +kernel, sub_map, slot_map_init⟩
theorem typeCall_map (a b : Value) : checkTypeCall "map" ⟨[a, b], []⟩ = pure () := by kernel_rfl
theorem newCall_map (a b : Value) : checkBuiltinCall "map.__new__" ⟨[.type "map", a, b], []⟩ = pure () := by kernel_rfl
theorem entry_map_new : entryFor table "map.__new__" = some Builtin.«map.__new__» := entryFor_of_tree (by kernel_rfl)
theorem newNe_map : (some "map.__new__" != some "object.__new__") = true := by decide +kernel
theorem args_init (a b c : Value) : argsOk "object.__init__" ⟨[a, b, c], []⟩ := by
  unfold argsOk; kernel_rfl
theorem slot_map_next : Slot "map" "__next__" "map.__next__" :=
  .of (owner := "map") (n := "__next__") (by rw [typeLookup_type, builtinLookup_eq_fast]; kernel_rfl) (by decide +kernel) (by decide +kernel) (by decide +kernel)
    (by first | exact .inl (by decide +kernel) | exact .inr (by decide +kernel)) (by rw [isSubtype_type]; kernel_rfl)
theorem entry_map_next : entryFor table "map.__next__" = some Builtin.«map.__next__» := entryFor_of_tree (by kernel_rfl)
theorem args_map_next (a : Value) : argsOk "map.__next__" ⟨[a], []⟩ := by
  unfold argsOk; kernel_rfl
theorem slot_map_iter : Slot "map" "__iter__" "map.__iter__" :=
  .of (owner := "map") (n := "__iter__") (by rw [typeLookup_type, builtinLookup_eq_fast]; kernel_rfl) (by decide +kernel) (by decide +kernel) (by decide +kernel)
    (by first | exact .inl (by decide +kernel) | exact .inr (by decide +kernel)) (by rw [isSubtype_type]; kernel_rfl)
theorem args_map_iter (a : Value) : argsOk "map.__iter__" ⟨[a], []⟩ := by
  unfold argsOk; kernel_rfl
theorem no_len : typeLookup (.type "map") "__len__" = pure none := by rw [typeLookup_type, builtinLookup_eq_fast]; kernel_rfl
theorem no_hint : typeLookup (.type "map") "__length_hint__" = pure none := by rw [typeLookup_type, builtinLookup_eq_fast]; kernel_rfl
end MF
end Mine
end

section
namespace Mine

noncomputable def IsMap (h : Heap) (m tup it : Addr) (f : Value) : Prop :=
  h.get? m = some { cls := .type "map", data := .fields #[.ref tup, f] } ∧ h.get? tup = some { cls := .type "tuple", data := .seq #[.ref it] }
theorem IsMap.typeIs {s : Shared} {m tup it : Addr} {f : Value} (x : IsMap s.heap m tup it f) : s.TypeIs (.ref m) "map" := ⟨_, x.1, rfl⟩
theorem IsMap.at {h h' : Heap} {m tup it : Addr} {f : Value} (x : IsMap h m tup it f) (k1 : ∀ o, h.get? m = some o → h'.get? m = some o) (k2 : ∀ o, h.get? tup = some o → h'.get? tup = some o) : IsMap h' m tup it f := ⟨k1 _ x.1, k2 _ x.2⟩

theorem it_none : fastTable "map.__iter__" = none := by rw [fastTable_eq_tree]; kernel_rfl
theorem it_canon : Manifest.canonical (String.map (fun c => if (c.isAlphanum || c == '_' || c == '.') = true then c else '_') "map.__iter__") ++ "" = "dict_keyiterator.__iter__" := by decide +kernel
theorem it_some : fastTable "dict_keyiterator.__iter__" = some Builtin.«dict_keyiterator.__iter__» := by rw [fastTable_eq_tree]; kernel_rfl
theorem entry_map_iter : entryFor table "map.__iter__" = some Builtin.«dict_keyiterator.__iter__» :=
  entryFor_alias it_none rfl it_canon it_some

section
variable {prog : Program} {w : World} {A : Around} {E : Value → Shared → Prop} {s : Shared}

theorem pyIter_map {m tup it : Addr} {f : Value} {Q : Value → Shared → Prop} (hm : IsMap s.heap m tup it f) (h : Q (.ref m) s) : wpAny (model prog w) A (pyIter (.ref m)) Q E s := by
  refine wpAny_pyIter_slot hm.typeIs MF.slot_map_iter (wpAny_call_entry MF.slot_map_iter hm.typeIs entry_map_iter ?_ (MF.args_map_iter _))
  show wpAny _ _ (ret (.ref m)) _ _ s
  exact wpAny_pure ⟨_, rfl, "map", _, hm.typeIs, MF.slot_map_next.lookup, h⟩

/-- map over something whose iterator is known -/
theorem meets_map_new {f x : Value} {S : Shared → Addr → Shared → Prop}
    (hit : ∀ (A : Around) (E : Value → Shared → Prop) (s : Shared) (Q : Value → Shared → Prop), (∃ it s₁, S s it s₁ ∧ Q (.ref it) s₁) → wpAny (model prog w) A (pyIter x) Q E s) :
    MeetsIn prog w (Builtin.«map.__new__» ⟨[.type "map", f, x], []⟩) (fun _ R s => ∃ it s₁, S s it s₁ ∧
      R (.ok (.ret (.ref (s₁.heap.objs.size + 1)))) { s₁ with heap := (s₁.heap.push { cls := .type "tuple", data := .seq #[.ref it] }).push { cls := .type "map", data := .fields #[.ref s₁.heap.objs.size, f] } }) :=
  .of_wp fun A R s h => by
    obtain ⟨it, s₁, hS, h⟩ := h
    have hsub := MF.sub_map
    have h7 : isType (.type "map") = pure true := rfl
    unfold Builtin.«map.__new__» Builtin.SmallTypes.newClass Builtin.SmallTypes.refuseKeywords Builtin.SmallTypes.iterAll Builtin.SmallTypes.newRecord
    dsimp only
    rw [h7, pure_bind, if_neg (by decide), hsub, pure_bind, if_neg (by decide), pure_bind]
    dsimp only [List.isEmpty_nil, List.length_cons, List.length_nil, List.drop_succ_cons, List.drop_zero, List.headD_cons]
    rw [if_pos rfl, pure_bind, if_neg (by decide), show List.drop 1 [f, x] = [x] from rfl, List.forIn_cons]
    refine wpAny_bind (wpAny_bind (wpAny_bind (wpAny_bind (wpAny_holding (hit _ _ _ _ ⟨it, s₁, hS, wpAny_pure ?_⟩)))))
    dsimp only
    rw [List.forIn_nil]
    refine wpAny_pure (wpAny_pure ?_)
    refine wpAny_bind (wpAny_newObj_type ?_ (by show (1 : Nat) ≤ sizeLine; rw [sizeLine_eq]; decide))
    refine wpAny_bind (wpAny_newObj_type ?_)
    refine wpAny_pure ⟨_, rfl, ?_⟩
    have e : (s₁.heap.push { cls := .type "tuple", data := .seq #[.ref it] }).objs.size = s₁.heap.objs.size + 1 := Heap.size_push ..
    show R (.ok (.ret (.ref (s₁.heap.push { cls := .type "tuple", data := .seq #[.ref it] }).objs.size))) { s₁ with heap := (s₁.heap.push { cls := .type "tuple", data := .seq #[.ref it] }).push { cls := .type "map", data := .fields #[.ref s₁.heap.objs.size, f] } }
    rw [e]; exact h

theorem map_there {h : Heap} {it : Addr} {f : Value} : IsMap ((h.push { cls := .type "tuple", data := .seq #[.ref it] }).push { cls := .type "map", data := .fields #[.ref h.objs.size, f] }) (h.objs.size + 1) h.objs.size it f := by
  have e : (h.push { cls := .type "tuple", data := .seq #[.ref it] }).objs.size = h.objs.size + 1 := Heap.size_push ..
  refine ⟨?_, Heap.get?_push_of_some _ (Heap.get?_push_size _ rfl)⟩
  rw [← e]; exact Heap.get?_push_size _ rfl

theorem call_map_list {f : Value} {l : Addr} {items : Array Value} {Q : Value → Shared → Prop} (hl : s.heap.IsList l items)
    (h : ∀ h', IsMap h' (s.heap.objs.size + 2) (s.heap.objs.size + 1) s.heap.objs.size f → h'.IsListIter s.heap.objs.size l 0 → h'.objs.size = s.heap.objs.size + 3 → (∀ b o, s.heap.get? b = some o → h'.get? b = some o) → Q (.ref (s.heap.objs.size + 2)) { s with heap := h' }) :
    wpAny (model prog w) A (call (.type "map") [f, .ref l]) Q E s := by
  refine callType_newIn MF.called_map MF.newNe_map (MF.typeCall_map _ _) (MF.newCall_map _ _) (fun obj => MF.args_init obj _ _) MF.entry_map_new
    (meets_map_new (S := fun s it s₁ => s.heap.IsList l items ∧ it = s.heap.objs.size ∧ s₁ = { s with heap := s.heap.push { cls := .type "list_iterator", data := .fields #[.ref l, .int 0 0] } })
      fun A E s Q ⟨it, s₁, ⟨hl, e1, e2⟩, hq⟩ => wpAny_pyIter_list hl (by rw [e1, e2] at hq; exact hq)) ⟨_, _, ⟨hl, rfl, rfl⟩, ?_⟩
  have e : (s.heap.push { cls := .type "list_iterator", data := .fields #[.ref l, .int 0 0] }).objs.size = s.heap.objs.size + 1 := Heap.size_push ..
  have hm := map_there (h := s.heap.push { cls := .type "list_iterator", data := .fields #[.ref l, .int 0 0] }) (it := s.heap.objs.size) (f := f)
  show _ ∧ _
  rw [e] at hm
  dsimp only
  rw [e]
  refine ⟨⟨_, hm.1, rfl⟩, h _ hm ⟨_, Heap.get?_push_of_some _ (Heap.get?_push_of_some _ (Heap.get?_push_size _ rfl)), rfl, rfl⟩ ?_ fun b o x => Heap.get?_push_of_some _ (Heap.get?_push_of_some _ (Heap.get?_push_of_some _ x))⟩
  rw [Heap.size_push, Heap.size_push, e]

theorem call_map_map {f g : Value} {m tup it : Addr} {Q : Value → Shared → Prop} (hm : IsMap s.heap m tup it g)
    (h : ∀ h', IsMap h' (s.heap.objs.size + 1) s.heap.objs.size m f → h'.objs.size = s.heap.objs.size + 2 → (∀ b o, s.heap.get? b = some o → h'.get? b = some o) → Q (.ref (s.heap.objs.size + 1)) { s with heap := h' }) :
    wpAny (model prog w) A (call (.type "map") [f, .ref m]) Q E s := by
  refine callType_newIn MF.called_map MF.newNe_map (MF.typeCall_map _ _) (MF.newCall_map _ _) (fun obj => MF.args_init obj _ _) MF.entry_map_new
    (meets_map_new (S := fun s it' s₁ => IsMap s.heap m tup it g ∧ it' = m ∧ s₁ = s)
      fun A E s Q ⟨it', s₁, ⟨hl, e1, e2⟩, hq⟩ => pyIter_map hl (by rw [e1, e2] at hq; exact hq)) ⟨_, _, ⟨hm, rfl, rfl⟩, ?_⟩
  have hm2 := map_there (h := s.heap) (it := m) (f := f)
  show _ ∧ _
  refine ⟨⟨_, hm2.1, rfl⟩, h _ hm2 ?_ fun b o x => Heap.get?_push_of_some _ (Heap.get?_push_of_some _ x)⟩
  rw [Heap.size_push, Heap.size_push]
end
end Mine
end

section
namespace Mine
open Sem (wp)
section
variable {prog : Program} {w : World} {A : Around} {E : Value → Shared → Prop} {s : Shared}

theorem codeAny_builtinS {id : String} {args : Args} {b : Builtin} {R : Result → Shared → Prop} (hb : entryFor table id = some b) (hid : id = "map.__next__")
    (h : wpS (model prog w) (A.under (.builtin id args)) (b args)
      (fun fin s' => match fin with | .done f => R (.ok f) s' | .again c' => c'.quiet = true ∧ codeAny (model prog w) A c' R s') (fun e s' => R (.error e) s') s) :
    codeAny (model prog w) A (.builtin id args) R s := fun Γ p hc hΓ => by
  rw [wpCode_iff_wp, hc]
  have hden : (model prog w).den (.builtin id args) = b args := by
    show (match entryFor table id with | some b => b args | none => unsupported ((withoutEnding? id "#data").getD id)) = _
    rw [hb]
  rw [hden]
  refine Sem.wp_mono _ Γ _ (fun fin p' s' h' => ?_) (fun _ _ _ h' => h') p s (h Γ p (hc ▸ hΓ.in) (by rw [hc, hid]; exact MapTop.here))
  cases fin with
  | done f => exact h'
  | again c' => exact ⟨h'.1, h'.2 (Γ.goto c') p' rfl (hΓ.goto c')⟩

theorem map_next_tree {m tup it : Addr} {f : Value} {Q : Fin → Shared → Prop} (hm : IsMap s.heap m tup it f)
    (hn : wpAny (model prog w) A (Builtin.SmallTypes.nextOf (.ref it)) (fun v s₁ => IsMap s₁.heap m tup it f ∧ wpS (model prog w) A (call f [v]) (fun r s₂ => Q (.done (.ret r)) s₂) E s₁) E s) :
    wpS (model prog w) A (Builtin.«map.__next__» ⟨[.ref m], []⟩) Q E s := by
  unfold Builtin.«map.__next__»
  refine wpS_bind (wpS_any (wpAny_pure ?_))
  dsimp only
  refine wpS_bind (wpS_any (wpAny_field (x := .ref tup) hm.1 rfl rfl ?_))
  refine wpS_bind (wpS_any ?_)
  unfold seqItems?
  refine wpAny_bind (wpAny_load hm.2 (wpAny_pure ?_))
  dsimp only
  rw [show (#[Value.ref it] : Array Value) = [Value.ref it].toArray from rfl, List.forIn_toArray, List.forIn_cons]
  refine wpS_bind (wpS_bind (wpS_bind (wpS_any (wpAny_holding (wpAny_mono hn (fun v s₁ h₁ => ?_) fun _ _ e => e)))))
  refine wpS_any (wpAny_pure ?_)
  dsimp only
  rw [List.forIn_nil]
  refine wpS_any (wpAny_pure ?_)
  refine wpS_bind (wpS_any (wpAny_field (x := f) h₁.1.1 rfl rfl ?_))
  refine wpS_bind (wpS_holding (wpS_mono h₁.2 (fun r s₂ h₂ => ?_) fun _ _ e => e))
  exact wpS_bind (wpS_any (wpAny_letGo (wpS_any (wpAny_pure h₂))))
end
end Mine
end

section
namespace Mine
open Sem (wp)
theorem sub_stop : isSubtype (.type "StopIteration") (.type "StopIteration") = pure true := by rw [isSubtype_type]; kernel_rfl
theorem sub_value : isSubtype (.type "ValueError") (.type "StopIteration") = pure false := by rw [isSubtype_type]; kernel_rfl
section
variable {prog : Program} {w : World} {A : Around} {E : Value → Shared → Prop} {s : Shared}

theorem special_map {m tup it : Addr} {f : Value} {Q : Option Value → Shared → Prop} (hm : IsMap s.heap m tup it f)
    (hn : wpAny (model prog w) A.in1 (Builtin.SmallTypes.nextOf (.ref it)) (fun v s₁ => IsMap s₁.heap m tup it f ∧ wpS (model prog w) A.in1 (call f [v]) (fun r s₂ => Q (some r) s₂) E s₁) E s) :
    wpAny (model prog w) A (callSpecial? (.ref m) "__next__") Q E s := by
  refine wpAny_callSpecial?_slot (name := Str.ofString "__next__") hm.typeIs MF.slot_map_next (wpAny_call ?_)
  refine codeAny_call_builtin_code (plainId_quiet MF.slot_map_next.plain _) (MF.slot_map_next.check _ _ _ _ _ _ _ _ hm.typeIs (MF.args_map_next _) ?_)
  refine codeAny_builtinS MF.entry_map_next rfl ?_
  rw [Around.under_plainId MF.slot_map_next.plain _]
  exact map_next_tree hm hn
theorem next_map {m tup it : Addr} {f : Value} {Q : Value → Shared → Prop} (hm : IsMap s.heap m tup it f)
    (hn : wpAny (model prog w) A.in1 (Builtin.SmallTypes.nextOf (.ref it)) (fun v s₁ => IsMap s₁.heap m tup it f ∧ wpS (model prog w) A.in1 (call f [v]) Q E s₁) E s) :
    wpAny (model prog w) A (Builtin.SmallTypes.nextOf (.ref m)) Q E s := by
  unfold Builtin.SmallTypes.nextOf
  refine wpAny_bind (special_map hm (wpAny_mono hn (fun v s₁ h₁ => ⟨h₁.1, wpS_mono h₁.2 (fun r s₂ h₂ => wpAny_pure h₂) fun _ _ e => e⟩) fun _ _ e => e))
theorem pyNext_map {m tup it : Addr} {f : Value} {Q : Option Value → Shared → Prop} (hm : IsMap s.heap m tup it f)
    (hn : wpAny (model prog w) A.in1 (Builtin.SmallTypes.nextOf (.ref it)) (fun v s₁ => IsMap s₁.heap m tup it f ∧ wpS (model prog w) A.in1 (call f [v]) (fun r s₂ => Q (some r) s₂)
      (fun e s₂ => (s₂.TypeIs e "StopIteration" ∧ Q none s₂) ∨ (s₂.TypeIs e "ValueError" ∧ E e s₂)) s₁) (fun e s₂ => (s₂.TypeIs e "StopIteration" ∧ Q none s₂) ∨ (s₂.TypeIs e "ValueError" ∧ E e s₂)) s) :
    wpAny (model prog w) A (pyNext (.ref m)) Q E s := by
  unfold pyNext
  refine wpAny_bind (wpAny_attempt (special_map hm (wpAny_mono hn (fun v s₁ h₁ => ⟨h₁.1, wpS_mono h₁.2 (fun r s₂ h₂ => wpAny_pure h₂) fun e s₂ h₂ => ?_⟩) fun e s₂ h₂ => ?_)))
  all_goals
    dsimp only
    rcases h₂ with ⟨hT, hq⟩ | ⟨hT, hq⟩
    · refine wpAny_bind (wpAny_isInstance hT sub_stop ?_)
      rw [if_pos rfl]
      exact wpAny_pure hq
    · refine wpAny_bind (wpAny_isInstance hT sub_value ?_)
      rw [if_neg (by decide)]
      exact wpAny_throw hq
end

structure MS (h : Heap) (M2 t2 M1 t1 I l : Addr) (vs : List Value) (i : Nat) : Prop where
  m2 : IsMap h M2 t2 M1 (.type "str")
  m1 : IsMap h M1 t1 I (.type "int")
  it : h.IsListIter I l i
  ls : h.IsList l vs.toArray
structure Apart (M2 t2 M1 t1 I l : Addr) : Prop where
  a : M2 ≠ I
  b : t2 ≠ I
  c : M1 ≠ I
  d : t1 ≠ I
  e : l ≠ I

theorem MS.next {h h' : Heap} {M2 t2 M1 t1 I l : Addr} {vs : List Value} {i : Nat} (x : MS h M2 t2 M1 t1 I l vs i) (p : Apart M2 t2 M1 t1 I l) (hi : h'.IsListIter I l (i + 1)) (k : ∀ b o, b ≠ I → h.get? b = some o → h'.get? b = some o) : MS h' M2 t2 M1 t1 I l vs (i + 1) :=
  ⟨x.m2.at (fun o e => k _ o p.a e) fun o e => k _ o p.b e, x.m1.at (fun o e => k _ o p.c e) fun o e => k _ o p.d e, hi, x.ls.at fun o e => k _ o p.e e⟩
theorem MS.keep {h h' : Heap} {M2 t2 M1 t1 I l : Addr} {vs : List Value} {i : Nat} (x : MS h M2 t2 M1 t1 I l vs i) (k : ∀ b o, b = M2 ∨ b = t2 ∨ b = M1 ∨ b = t1 ∨ b = I ∨ b = l → h.get? b = some o → h'.get? b = some o) : MS h' M2 t2 M1 t1 I l vs i :=
  ⟨x.m2.at (fun o e => k _ o (by simp) e) fun o e => k _ o (by simp) e, x.m1.at (fun o e => k _ o (by simp) e) fun o e => k _ o (by simp) e, x.it.at fun o e => k _ o (by simp) e, x.ls.at fun o e => k _ o (by simp) e⟩

section
variable {prog : Program} {w : World} {A : Around} {E : Value → Shared → Prop} {s : Shared} {M2 t2 M1 t1 I l : Addr} {vs : List Value} {i : Nat}

theorem step_ok {x : Str} {t : Tok} {n : Int} {Q : Option Value → Shared → Prop} (ms : MS s.heap M2 t2 M1 t1 I l vs i) (p : Apart M2 t2 M1 t1 I l) (hi : vs[i]? = some (.str x t)) (hx : PySem.intText? x = some n) (hl : x.length ≤ 640) (hn : n.natAbs.log2 < 1920)
    (hQ : ∀ t' h' tk, MS h' M2 t2 M1 t1 I l vs (i + 1) → (∀ b o, b ≠ I → s.heap.get? b = some o → h'.get? b = some o) → Q (some (.str (txtInt n) t')) { s with heap := h', toks := tk }) :
    wpAny (model prog w) A (pyNext (.ref M2)) Q E s := by
  refine pyNext_map ms.m2 (next_map ms.m1 (wpAny_nextOf_list_item ms.it ms.ls (x := .str x t) (by simpa using hi) fun h' hit' hs' => ?_))
  have k : ∀ b o, b ≠ I → s.heap.get? b = some o → h'.get? b = some o := fun b o hb e => hs'.extBut b o hb e
  have ms' := ms.next p hit' k
  refine ⟨ms'.m1, wpS_any (KIN.call_text hx hl ⟨ms'.m2, wpS_any (P.str_of_int hn ?_)⟩)⟩
  exact hQ _ h' _ ms' k
theorem step_bad {x : Str} {t : Tok} {Q : Option Value → Shared → Prop} (hh : A.handled = none) (ms : MS s.heap M2 t2 M1 t1 I l vs i) (p : Apart M2 t2 M1 t1 I l) (hi : vs[i]? = some (.str x t)) (hx : PySem.intText? x = none) (hz : numSeenOf x = numTextOf x) (hc : ∀ c ∈ x.cps.toList, c < 16 ^ 8) (hl : x.length ≤ 640)
    (hE : ∀ h₁ h' e tk m, (∀ b o, b ≠ I → s.heap.get? b = some o → h₁.get? b = some o) → (∃ o, h₁.get? I = some o) → Heap.MadeExc h₁ h' e "ValueError" [m] → E (.ref e) { s with heap := h', toks := tk }) :
    wpAny (model prog w) A (pyNext (.ref M2)) Q E s := by
  refine pyNext_map ms.m2 (next_map ms.m1 (wpAny_nextOf_list_item ms.it ms.ls (x := .str x t) (by simpa using hi) fun h' hit' hs' => ?_))
  have k : ∀ b o, b ≠ I → s.heap.get? b = some o → h'.get? b = some o := fun b o hb e => hs'.extBut b o hb e
  have ms' := ms.next p hit' k
  refine ⟨ms'.m1, int_bad hx hz hh hc hl fun h₂ e tk m hm => .inr ⟨?_, hE h' h₂ e tk m k ?_ hm⟩⟩
  · obtain ⟨t, h1, _⟩ := hm.there; exact ⟨_, h1, rfl⟩
  · obtain ⟨o, ho, _⟩ := hit'; exact ⟨o, ho⟩
theorem step_end {Q : Option Value → Shared → Prop} (hh : A.handled = none) (ms : MS s.heap M2 t2 M1 t1 I l vs i) (hi : vs[i]? = none)
    (hQ : ∀ h' tk, (∀ b o, b ≠ I → s.heap.get? b = some o → h'.get? b = some o) → Q none { s with heap := h', toks := tk }) :
    wpAny (model prog w) A (pyNext (.ref M2)) Q E s := by
  refine pyNext_map ms.m2 (next_map ms.m1 (wpAny_nextOf_list_end hh ms.it ms.ls (by simpa using hi) fun h' e hx ho => .inl ⟨?_, hQ h' _ fun b o hb e => hx b o hb e⟩))
  obtain ⟨o, ho, hc⟩ := ho
  exact ⟨o, ho, hc⟩
end
end Mine
end

section
namespace Mine

noncomputable def outsOf (xs : List Str) : List Str := xs.map fun x => txtInt ((PySem.intText? x).getD 0)
/-- what the step asks of a text -/
structure TextOk (x : Str) : Prop where
  len : x.length ≤ 640
  seen : numSeenOf x = numTextOf x
  small : ∀ c ∈ x.cps.toList, c < 16 ^ 8
  fits : ∀ n, PySem.intText? x = some n → n.natAbs.log2 < 1920

theorem strs_get {vs : List Value} {xs : List Str} (h : StrsAre vs xs) : ∀ i : Nat, (∃ (x : Str) (t : Tok), xs[i]? = some x ∧ vs[i]? = some (Value.str x t)) ∨ (xs[i]? = none ∧ vs[i]? = none) := by
  induction h with
  | nil => intro i; right; simp
  | cons y t _ ih =>
    intro i
    cases i with
    | zero => left; exact ⟨y, t, rfl, rfl⟩
    | succ i => simpa using ih i

section
variable {prog : Program} {w : World} {A : Around} {E : Value → Shared → Prop} {M2 t2 M1 t1 I l S : Addr} {vs : List Value} {xs : List Str} {R : Result → Shared → Prop}

theorem extend_loop (hh : A.handled = none) (hvs : StrsAre vs xs) (hxs : ∀ x ∈ xs, TextOk x) (hsz : xs.length ≤ 1000) (p : Apart M2 t2 M1 t1 I l) (hS : S ≠ M2 ∧ S ≠ t2 ∧ S ≠ M1 ∧ S ≠ t1 ∧ S ≠ I ∧ S ≠ l) (res : Value) :
    ∀ (k i : Nat) (s : Shared) (acc : Array Value) (c : Nat), xs.length - i = k → i ≤ xs.length → MS s.heap M2 t2 M1 t1 I l vs i → s.heap.get? S = some { cls := .type "list", dict := none, data := .seq acc c, slots := #[] } → StrsAre acc.toList (outsOf (xs.take i)) →
    ((∀ x ∈ xs.drop i, (PySem.intText? x).isSome) → ∀ h' tk acc' c', (∀ b o, b ≠ I → b ≠ S → s.heap.get? b = some o → h'.get? b = some o) → h'.get? S = some { cls := .type "list", dict := none, data := .seq acc' c', slots := #[] } → StrsAre acc'.toList (outsOf xs) → R (.ok (.ret res)) { s with heap := h', toks := tk }) →
    ((∃ x ∈ xs.drop i, PySem.intText? x = none) → ∀ h₁ h' e tk m, (∀ b o, b ≠ I → b ≠ S → s.heap.get? b = some o → h₁.get? b = some o) → (∃ o, h₁.get? I = some o) → (∃ o, h₁.get? S = some o) → Heap.MadeExc h₁ h' e "ValueError" [m] → R (.error (.ref e)) { s with heap := h', toks := tk }) →
    codeAny (model prog w) A (.builtin "list.extend.loop" ⟨[.ref S, .ref M2, res], []⟩) R s := by
  intro k
  induction k with
  | zero =>
    intro i s acc c hk hi hms hSs hacc hR _
    have hin : i = xs.length := by omega
    subst hin
    have hend : vs[xs.length]? = none := by
      have := strs_length hvs
      exact List.getElem?_eq_none (by omega)
    refine codeAny_builtin PySem.F.entry_extend_loop ?_
    rw [Around.under_plainId PySem.F.plain_extend_loop _]
    show wpAny _ A.in1 (pyNext (.ref M2) >>= _) _ _ s
    refine wpAny_bind (step_end hh hms hend fun h' tk hk' => wpAny_pure ?_)
    refine hR (by simp) h' tk acc c (fun b o hb _ e => hk' b o hb e) (hk' _ _ hS.2.2.2.2.1 hSs) ?_
    rw [List.take_length] at hacc
    exact hacc
  | succ k ih =>
    intro i s acc c hk hi hms hSs hacc hR hE
    have hlt : i < xs.length := by omega
    have hsplit : xs.drop i = xs[i] :: xs.drop (i + 1) := List.drop_eq_getElem_cons hlt
    obtain ⟨t, hv⟩ : ∃ t, vs[i]? = some (.str xs[i] t) := by
      rcases strs_get hvs i with ⟨x, t, h1, h2⟩ | ⟨h1, _⟩
      · rw [List.getElem?_eq_getElem hlt] at h1
        cases h1
        exact ⟨t, h2⟩
      · rw [List.getElem?_eq_getElem hlt] at h1; cases h1
    have hok := hxs xs[i] (List.getElem_mem hlt)
    refine codeAny_builtin PySem.F.entry_extend_loop ?_
    rw [Around.under_plainId PySem.F.plain_extend_loop _]
    show wpAny _ A.in1 (pyNext (.ref M2) >>= _) _ _ s
    cases hx : PySem.intText? xs[i] with
    | none =>
      refine wpAny_bind (step_bad hh hms p hv hx hok.seen hok.small hok.len fun h₁ h' e tk m hk' hI hm => ?_)
      exact hE ⟨xs[i], by rw [hsplit]; exact List.mem_cons_self .., hx⟩ h₁ h' e tk m (fun b o hb _ e => hk' b o hb e) hI ⟨_, hk' _ _ hS.2.2.2.2.1 hSs⟩ hm
    | some n =>
      refine wpAny_bind (step_ok hms p hv hx hok.len (hok.fits n hx) fun t' h' tk hms' hk' => ?_)
      have hSs' := hk' _ _ hS.2.2.2.2.1 hSs
      have hsize : acc.size = i := by
        have := strs_length hacc
        simp [outsOf] at this
        omega
      show wpAny _ A.in1 (updateSeq S (·.push (.str (txtInt n) t')) >>= _) _ _ _
      refine wpAny_bind ?_
      have oth : ∀ b o, b ≠ S → h'.get? b = some o → (h'.update S (Obj.mapSeq (·.push (Value.str (txtInt n) t')))).get? b = some o := fun b o hb e => (Heap.get?_update_other _ _ (Ne.symm hb)).trans e
      refine wpAny_updateSeq hSs' rfl (wpAny_pure ⟨plainId_quiet PySem.F.plain_extend_loop _, ih (i + 1) _ (acc.push (.str (txtInt n) t')) _ (by omega) (by omega) (hms'.keep fun b o hb e => oth b o ?_ e) (Heap.get?_update_self _ hSs' rfl) ?_ ?_ ?_⟩) ?_ ?_
      · intro e
        subst e
        rcases hb with h | h | h | h | h | h
        · exact hS.1 h
        · exact hS.2.1 h
        · exact hS.2.2.1 h
        · exact hS.2.2.2.1 h
        · exact hS.2.2.2.2.1 h
        · exact hS.2.2.2.2.2 h
      · have e1 : outsOf (xs.take (i + 1)) = outsOf (xs.take i) ++ [txtInt n] := by
          rw [List.take_add_one, List.getElem?_eq_getElem hlt]
          unfold outsOf
          rw [List.map_append]
          simp only [Option.toList_some, List.map_cons, List.map_nil, hx, Option.getD_some]
        rw [e1, Array.toList_push]
        exact strs_append hacc (.cons _ _ .nil)
      · intro hall h'' tk'' acc' c' hk'' hSs'' hacc'
        exact hR (by
          intro x hxm
          rw [hsplit] at hxm
          rcases List.mem_cons.mp hxm with rfl | hxm
          · rw [hx]; rfl
          · exact hall x hxm) h'' tk'' acc' c' (fun b o hb hbS e => hk'' b o hb hbS (oth b o hbS (hk' b o hb e))) hSs'' hacc'
      · rintro ⟨x, hxm, hxn⟩ h₁ h'' e tk'' m hk'' hI hSS hm
        exact hE ⟨x, by rw [hsplit]; exact List.mem_cons_of_mem _ hxm, hxn⟩ h₁ h'' e tk'' m (fun b o hb hbS e => hk'' b o hb hbS (oth b o hbS (hk' b o hb e))) hI hSS hm
      · rw [hsize, sizeLine_eq]; omega
      · show (acc.push _).size ≤ sizeLine + 1
        rw [Array.size_push, hsize, sizeLine_eq]; omega
end
end Mine
end

section
namespace Mine
section
variable {prog : Program} {w : World} {A : Around} {E : Value → Shared → Prop} {s : Shared} {M2 t2 M1 t1 I l S : Addr} {vs : List Value} {xs : List Str} {R : Result → Shared → Prop}

theorem extend_map (hh : A.handled = none) (hvs : StrsAre vs xs) (hxs : ∀ x ∈ xs, TextOk x) (hsz : xs.length ≤ 1000) (p : Apart M2 t2 M1 t1 I l) (hS : S ≠ M2 ∧ S ≠ t2 ∧ S ≠ M1 ∧ S ≠ t1 ∧ S ≠ I ∧ S ≠ l) (res : Value) (c₀ : Nat)
    (ms : MS s.heap M2 t2 M1 t1 I l vs 0) (hSs : s.heap.get? S = some { cls := .type "list", data := .seq #[] c₀ })
    (hR : (∀ x ∈ xs, (PySem.intText? x).isSome) → ∀ h' tk acc' c', (∀ b o, b ≠ I → b ≠ S → s.heap.get? b = some o → h'.get? b = some o) → h'.get? S = some { cls := .type "list", dict := none, data := .seq acc' c', slots := #[] } → StrsAre acc'.toList (outsOf xs) → R (.ok (.ret res)) { s with heap := h', toks := tk })
    (hE : (∃ x ∈ xs, PySem.intText? x = none) → ∀ h₁ h' e tk m, (∀ b o, b ≠ I → b ≠ S → s.heap.get? b = some o → h₁.get? b = some o) → (∃ o, h₁.get? I = some o) → (∃ o, h₁.get? S = some o) → Heap.MadeExc h₁ h' e "ValueError" [m] → R (.error (.ref e)) { s with heap := h', toks := tk }) :
    wpAny (model prog w) A.in1 (Builtin.List.listExtendWith (.ref S) (.ref M2) res)
      (fun fin s' => match fin with | .done f => R (.ok f) s' | .again c' => c'.quiet = true ∧ codeAny (model prog w) A c' R s') (fun e s' => R (.error e) s') s := by
  have hT : s.TypeIs (.ref M2) "map" := ms.m2.typeIs
  unfold Builtin.List.listExtendWith
  refine wpAny_bind (wpAny_typeOf hT ?_)
  have h1 : Builtin.List.listSameRef (.ref S) (.ref M2) = false := by simp [Builtin.List.listSameRef, hS.1]
  have h2 : (Value.type "map" == Value.type "list") = false := by decide
  have h3 : (Value.type "map" == Value.type "tuple") = false := by decide
  simp only [h1, h2, h3, Bool.or_false, Bool.false_eq_true, if_false]
  refine wpAny_bind (pyIter_map ms.m2 ?_)
  refine wpAny_bind (wpAny_holding ?_)
  unfold Builtin.List.listLengthHint
  refine wpAny_bind (wpAny_specialOf hT MF.no_len ?_)
  show wpAny _ A.in1 (specialOf (Value.ref M2) (Str.ofString "__length_hint__") >>= _) _ _ _
  refine wpAny_bind (wpAny_specialOf hT MF.no_hint ?_)
  refine wpAny_pure ?_
  show wpAny _ A.in1 (rule "list.extend.makes-room" >>= fun _ => Builtin.List.listTouch (.ref S) >>= fun _ =>
    again (.builtin "list.extend.loop" ⟨[.ref S, .ref M2, res], []⟩)) _ _ _
  refine wpAny_bind (wpAny_rule ?_)
  refine wpAny_bind ?_
  show wpAny _ A.in1 (updateSeq S (·.push .none) >>= fun _ => updateSeq S (·.pop)) _ _ _
  refine wpAny_bind (wpAny_updateSeq hSs rfl ?_)
  have hS₂ := Heap.get?_update_self (Obj.mapSeq (·.push Value.none)) hSs rfl
  refine wpAny_updateSeq (hz := by seq_fits) hS₂ rfl ?_
  have hS₃ := Heap.get?_update_self (Obj.mapSeq (·.pop)) hS₂ rfl
  have oth : ∀ b o, b ≠ S → s.heap.get? b = some o → ((s.heap.update S (Obj.mapSeq (·.push Value.none))).update S (Obj.mapSeq (·.pop))).get? b = some o :=
    fun b o hb e => (Heap.get?_update_other _ _ (Ne.symm hb)).trans ((Heap.get?_update_other _ _ (Ne.symm hb)).trans e)
  refine wpAny_pure ⟨plainId_quiet PySem.F.plain_extend_loop _, extend_loop hh hvs hxs hsz p hS res _ 0 _ _ _ rfl (Nat.zero_le _) (ms.keep fun b o hb e => oth b o ?_ e) hS₃ .nil ?_ ?_⟩
  · intro e
    subst e
    rcases hb with h | h | h | h | h | h
    · exact hS.1 h
    · exact hS.2.1 h
    · exact hS.2.2.1 h
    · exact hS.2.2.2.1 h
    · exact hS.2.2.2.2.1 h
    · exact hS.2.2.2.2.2 h
  · intro hall h' tk acc' c' hk h4 h5
    exact hR (by simpa using hall) h' tk acc' c' (fun b o hb hbS e => hk b o hb hbS (oth b o hbS e)) h4 h5
  · intro hbad h₁ h' e tk m hk h4 h5 h6
    exact hE (by simpa using hbad) h₁ h' e tk m (fun b o hb hbS e => hk b o hb hbS (oth b o hbS e)) h4 h5 h6

theorem list_init_map (hh : A.handled = none) (hvs : StrsAre vs xs) (hxs : ∀ x ∈ xs, TextOk x) (hsz : xs.length ≤ 1000) (p : Apart M2 t2 M1 t1 I l) (hS : S ≠ M2 ∧ S ≠ t2 ∧ S ≠ M1 ∧ S ≠ t1 ∧ S ≠ I ∧ S ≠ l)
    (ms : MS s.heap M2 t2 M1 t1 I l vs 0) (hSs : s.heap.get? S = some { cls := .type "list", data := .seq #[] })
    (hR : (∀ x ∈ xs, (PySem.intText? x).isSome) → ∀ h' tk acc' c', (∀ b o, b ≠ I → b ≠ S → s.heap.get? b = some o → h'.get? b = some o) → h'.get? S = some { cls := .type "list", dict := none, data := .seq acc' c', slots := #[] } → StrsAre acc'.toList (outsOf xs) → R (.ok (.ret .none)) { s with heap := h', toks := tk })
    (hE : (∃ x ∈ xs, PySem.intText? x = none) → ∀ h₁ h' e tk m, (∀ b o, b ≠ I → b ≠ S → s.heap.get? b = some o → h₁.get? b = some o) → (∃ o, h₁.get? I = some o) → (∃ o, h₁.get? S = some o) → Heap.MadeExc h₁ h' e "ValueError" [m] → R (.error (.ref e)) { s with heap := h', toks := tk }) :
    wpAny (model prog w) A.in1 (Builtin.«list.__init__» ⟨[.ref S, .ref M2], []⟩)
      (fun fin s' => match fin with | .done f => R (.ok f) s' | .again c' => c'.quiet = true ∧ codeAny (model prog w) A c' R s') (fun e s' => R (.error e) s') s := by
  show wpAny _ A.in1 (do let old ← Builtin.List.listItems (.ref S); Builtin.List.listUpdate (.ref S) (fun _ => #[]); letGo old.toList.reverse; Builtin.List.listExtendWith (.ref S) (.ref M2) .none) _ _ s
  refine wpAny_bind ?_
  unfold Builtin.List.listItems
  refine wpAny_bind (wpAny_seqItems hSs rfl (wpAny_pure ?_))
  show wpAny _ A.in1 (updateSeq S (fun _ => #[]) >>= fun _ => letGo (#[] : Array Value).toList.reverse >>= fun _ => Builtin.List.listExtendWith (.ref S) (.ref M2) .none) _ _ s
  refine wpAny_bind (wpAny_updateSeq hSs rfl ?_)
  have hS₂ := Heap.get?_update_self (Obj.mapSeq (fun _ => (#[] : Array Value))) hSs rfl
  have oth : ∀ b o, b ≠ S → s.heap.get? b = some o → (s.heap.update S (Obj.mapSeq (fun _ => (#[] : Array Value)))).get? b = some o :=
    fun b o hb e => (Heap.get?_update_other _ _ (Ne.symm hb)).trans e
  refine wpAny_bind (wpAny_letGo ?_)
  refine extend_map hh hvs hxs hsz p hS .none _ (ms.keep fun b o hb e => oth b o ?_ e) hS₂ ?_ ?_
  · intro e
    subst e
    rcases hb with h | h | h | h | h | h
    · exact hS.1 h
    · exact hS.2.1 h
    · exact hS.2.2.1 h
    · exact hS.2.2.2.1 h
    · exact hS.2.2.2.2.1 h
    · exact hS.2.2.2.2.2 h
  · intro hall h' tk acc' c' hk h4 h5
    exact hR hall h' tk acc' c' (fun b o hb hbS e => hk b o hb hbS (oth b o hbS e)) h4 h5
  · intro hbad h₁ h' e tk m hk h4 h5 h6
    exact hE hbad h₁ h' e tk m (fun b o hb hbS e => hk b o hb hbS (oth b o hbS e)) h4 h5 h6

/-- list(map(str, map(int, l))) from the two maps on -/
theorem call_list_map {Q : Value → Shared → Prop} (hh : A.handled = none) (hvs : StrsAre vs xs) (hxs : ∀ x ∈ xs, TextOk x) (hsz : xs.length ≤ 1000) (p : Apart M2 t2 M1 t1 I l)
    (ms : MS s.heap M2 t2 M1 t1 I l vs 0)
    (hQ : (∀ x ∈ xs, (PySem.intText? x).isSome) → ∀ D h' tk acc' c', s.heap.get? D = none → (∀ b o, b ≠ I → s.heap.get? b = some o → h'.get? b = some o) → h'.get? D = some { cls := .type "list", dict := none, data := .seq acc' c', slots := #[] } → StrsAre acc'.toList (outsOf xs) → Q (.ref D) { s with heap := h', toks := tk })
    (hE : (∃ x ∈ xs, PySem.intText? x = none) → ∀ h₁ h' e tk m, (∀ b o, b ≠ I → s.heap.get? b = some o → h₁.get? b = some o) → (∃ o, h₁.get? I = some o) → Heap.MadeExc h₁ h' e "ValueError" [m] → E (.ref e) { s with heap := h', toks := tk }) :
    wpAny (model prog w) A (call (.type "list") [.ref M2]) Q E s := by
  have lt : ∀ a o, s.heap.get? a = some o → s.heap.objs.size ≠ a := fun a o e => Nat.ne_of_gt (Heap.lt_size e)
  obtain ⟨oI, hI, _⟩ := id ms.it
  obtain ⟨ol, hl, _⟩ := id ms.ls
  have hS := And.intro (lt _ _ ms.m2.1) (And.intro (lt _ _ ms.m2.2) (And.intro (lt _ _ ms.m1.1) (And.intro (lt _ _ ms.m1.2) (And.intro (lt _ _ hI) (lt _ _ hl)))))
  refine callType_codes (Q₁ := fun obj s₁ => obj = .ref s.heap.objs.size ∧ s₁ = { s with heap := s.heap.push { cls := .type "list", data := .seq #[] } }) F.called_list (F.typeCall_list_1 _) PySem.F.entry_list_init
    (code_list_new _ ⟨rfl, rfl⟩) fun obj s₁ h₁ => ?_
  obtain ⟨rfl, rfl⟩ := h₁
  have hSs : (s.heap.push { cls := .type "list", data := .seq #[] }).get? s.heap.objs.size = some { cls := .type "list", data := .seq #[] } := Heap.get?_push_size _ rfl
  refine ⟨⟨_, hSs, rfl⟩, PySem.F.args_list_init_2 _ _, list_init_map hh hvs hxs hsz p hS (ms.keep fun b o _ e => Heap.get?_push_of_some _ e) hSs ?_ ?_⟩
  · intro hall h' tk acc' c' hk h4 h5
    refine ⟨rfl, hQ hall _ h' tk acc' c' ?_ (fun b o hb e => hk b o hb (Ne.symm (lt b o e)) (Heap.get?_push_of_some _ e)) h4 h5⟩
    cases e : s.heap.get? s.heap.objs.size with
    | none => rfl
    | some o => exact absurd rfl (lt _ _ e)
  · intro hbad h₁ h' e tk m hk h4 _ h6
    exact hE hbad h₁ h' e tk m (fun b o hb e => hk b o hb (Ne.symm (lt b o e)) (Heap.get?_push_of_some _ e)) h4 h6
end
end Mine
end

section
namespace Mine

theorem wpAny_lowerF {α : Type} {M : Model} {A : Around} {t : Sem α} {Q : α → Shared → Prop} {E : Value → Shared → Prop} {s : Shared} {dp un : Nat} {l : List Env}
    (h : wpAny M (AA dp un (some l)) t Q E s) (hh : A.handled = none) (hd : A.depth ≤ dp) (hu : A.units ≤ un) (hf : A.frames = some l) : wpAny M A t Q E s :=
  fun Γ p hΓ => h Γ p ⟨hΓ.1.trans hh, Nat.le_trans hΓ.2.1 hd, (fun l' hl => hΓ.2.2.1 l' (by rw [hf]; exact hl)), (fun l' hl => nomatch hl), Nat.le_trans hΓ.2.2.2.2 hu⟩

noncomputable def verParts (version build : Str) : List Str := if build.length = 0 then Txt.split version (Str.ofString ".") else Txt.split version (Str.ofString ".") ++ [build]
noncomputable def normVer (version build : Str) : Str :=
  if (verParts version build).all (fun x => (PySem.intText? x).isSome) then Txt.join (Str.ofString ".") ((outsOf (verParts version build)).take 3) else Txt.join (Str.ofString ".") ((verParts version build).take 3)

structure VerOk (version build : Str) : Prop where
  len : version.length ≤ 1000
  blen : build.length ≤ 1000
  parts : (verParts version build).length ≤ 100
  each : ∀ x ∈ verParts version build, TextOk x

theorem fr_but {h₀ h h' : Heap} {L I : Addr} {m : Str → Option Value} (F : Fr h₀ L h m) (k : ∀ b o, b ≠ I → h.get? b = some o → h'.get? b = some o) (hI : L < I) : Fr h₀ L h' m :=
  ⟨F.ns.at' fun o e => k _ o (Nat.ne_of_lt hI) e, fun b o e => k b o (Nat.ne_of_lt (Nat.lt_trans (Nat.lt_of_lt_of_le (Heap.lt_size e) F.above) hI)) (F.keep b o e), F.above⟩
theorem news_but {h₀ h h' : Heap} {L I : Addr} {news : List (Addr × Obj)} (N : News h₀ L h news) (k : ∀ b o, b ≠ I → h.get? b = some o → h'.get? b = some o) (hI : ∀ p ∈ news, p.1 ≠ I) : News h₀ L h' news :=
  fun p hp => ⟨k _ _ (hI p hp) (N p hp).1, (N p hp).2⟩
theorem newExc_of {h h' : Heap} {e : Addr} {c : String} {vs : List Value} (x : Heap.MadeExc h h' e c vs) : Heap.NewExc h h' e c :=
  ⟨x.keeps, x.new, let ⟨_, h1, _⟩ := x.there; ⟨_, _, h1, rfl, rfl⟩⟩

theorem normver_call {w : World} {s : Shared} {mean : ExcName → Option Value} {mg mb : Str → Option Value} {Q E : Value → Shared → Prop} {env : Env} {oL : Obj} {L : Addr}
   (Fs : TI.Frs [env] [(L, oL)]) (hL : s.heap.get? L = some oL)
   (X : (hd.heap_39 w.params).In (hideAll s.heap [L])) (T : Top hd.view_39 (looseW hd.view_39 [Str.ofString "_norm_version", Str.ofString "b2a_base64", Str.ofString "b64encode"]) mean mg mb (hideAll s.heap [L]))
   (X' : (hd.heap_39 w.params).In s.heap) (T' : Top hd.view_39 (looseW hd.view_39 [Str.ofString "_norm_version", Str.ofString "b2a_base64", Str.ofString "b64encode"]) mean mg mb s.heap)
   {version build : Str} {t1 t2 : Tok} {pos : List Value} (hpos : pos = [.str version t1, .str build t2] ∨ (pos = [.str version t1] ∧ build = Str.ofString "" ∧ t2 = 196))
   (hok : VerOk version build)
  (hQ : ∀ t h' tk sl, (∀ b o, b ≠ L → s.heap.get? b = some o → h'.get? b = some o) → h'.get? L = some { oL with slots := sl } → Q (.str (normVer version build) t) {s with heap := h', toks := tk}) 
  : wpAny (model PySem.Challenge.rw_mq0053_01.row.prog w) (AA 400 500 (some [env])) (call (.ref 29) pos) Q E s := by
  refine wpAny_call ?_
  revert X T
  k_fill
  intro X T
  refine' enterK (binds := [(Str.ofString "version", .str version t1), (Str.ofString "build", .str build t2)]) X' T' ?k6 ?k7 ?k8 ?k9 ?kB ?_ ?c2 ?c3 ?c4 ?c5; (case k6 => k_is); (case k7 => k_is); (case k8 => (show 400 < recursionLimit; decide)); (case c5 => decide); (case kB => exact locs rfl); (case c2 => exact rfl); (case c3 => exact rfl); (case c4 => exact rfl)
  case k9 =>
    rcases hpos with rfl | ⟨rfl, rfl, rfl⟩
    · exact binds_K X' rfl (by k_is) rfl rfl rfl
    · exact binds_K X' rfl (by k_is) rfl rfl rfl
  intro h₁ F₀ N₀
  clear X' T' N₀
  have F : Fr (hideAll s.heap [L]) s.heap.objs.size h₁ (fun y => List.lookup y [(Str.ofString "version", Value.str version t1), (Str.ofString "build", Value.str build t2)].reverse) :=
    ⟨F₀.ns, fun b o e => F₀.keep b o (of_hideAll _ e), Nat.le_of_eq (hideAll_size _ _)⟩
  have N : News (hideAll s.heap [L]) s.heap.objs.size h₁ [(L, oL)] := fun p hp => by
    rw [List.mem_singleton.mp hp]
    exact ⟨F₀.keep _ _ hL, Nat.ne_of_lt (Heap.lt_size hL), hideAll_none _ (List.mem_singleton.mpr rfl)⟩
  clear F₀
  (try dsimp only)
  show wpAny _ _ _ _ _ _
  k_fold
  have hlen := hok.len
  have hblen := hok.blen
  walk_at "go"
  (rename Fr _ _ _ _ => F3); (rename News _ _ _ _ => N3)
  refine KSpl.split1 F3 N3 (by decide) ?_ (by rw [sizeLine_eq]; omega)
  intro D l h7 k7 hl hst F7 N7 hlt
  k_lt hlt
  walk_at "go"
  (rename Fr _ _ _ _ => F8); (rename News _ _ _ _ => N8)
  refine wpAny_mono (Q := fun f s' => f = .next ∧ ∃ h tk vs n, s' = { s with heap := h, toks := tk } ∧ Fr (hideAll s.heap [L]) s.heap.objs.size h (frM F8) ∧ News (hideAll s.heap [L]) s.heap.objs.size h [(D, W.listOf (List.toArray vs) n), (L, oL)] ∧ StrsAre vs (verParts version build)) ?_ ?_ (fun _ _ e => e)
  · refine wpAny_If ?_
    walk_at "go"
    rw [hl] at hst
    refine split_bool ?_ ?_ <;> intro hb
    · have hb' : ¬ build.length = 0 := by simpa using hb
      walk_at "go"
      refine append_K (its := (strValues l).toArray) (n := 0) (news' := [(D, W.listOf ((strValues l).toArray.push (.str build t2)) 1), (L, oL)]) F8 N8 ?_ ?_ ?_
      · k_upd
      · intro h10 F10 N10
        walk_at "go"
        refine ⟨rfl, h10, _, strValues l ++ [.str build t2], 1, rfl, F10, ?_, ?_⟩
        · simpa using N10
        · unfold verParts
          rw [if_neg hb']
          exact strs_append hst (.cons _ _ .nil)
      · have := strs_length hst
        rw [sizeLine_eq]; simp; omega
    · have hb' : build.length = 0 := by simpa using hb
      walk_at "go"
      refine ⟨rfl, _, _, strValues l, 0, rfl, F8, N8, ?_⟩
      unfold verParts
      rw [if_pos hb']
      exact hst
  · rintro _ _ ⟨rfl, h9, tk9, vs9, n9, rfl, F9, N9, hvs9⟩
    dsimp only [frM] at F9
    clear F8 N8
    walk_at "go"
    refine wpAny_Try_except ?_
    walk_at "go"
    refine call_map_list (items := vs9.toArray) (News.isList N9 (List.mem_cons_self ..)) ?_
    intro h11 m11 i11 z11 k11
    walk_at "go"
    refine call_map_map m11 ?_
    intro h12 m12 z12 k12
    walk_at "go"
    dsimp only at z11 z12 m11 m12 i11 k11 k12
    have hD : h9.IsList D vs9.toArray := News.isList N9 (List.mem_cons_self ..)
    have hDlt : D < h9.objs.size := by obtain ⟨o, ho, _⟩ := hD; exact Heap.lt_size ho
    have ms : MS h12 (h11.objs.size + 1) h11.objs.size (h9.objs.size + 2) (h9.objs.size + 1) h9.objs.size D vs9 0 :=
      ⟨m12, m11.at (fun o e => k12 _ o e) (fun o e => k12 _ o e), i11.at (fun o e => k12 _ o e), (hD.at (fun o e => k11 _ o e)).at (fun o e => k12 _ o e)⟩
    have ap : Apart (h11.objs.size + 1) h11.objs.size (h9.objs.size + 2) (h9.objs.size + 1) h9.objs.size D := by
      constructor <;> (refine neN ?_; try omega)
      exact Nat.ne_of_lt hDlt
    have F12 := (F9.keeps k11).keeps k12
    have N12 := (N9.keepsAll k11).keepsAll k12
    have hL9 : s.heap.objs.size < h9.objs.size := F9.ns.lt
    have hapart : ∀ p ∈ [(D, W.listOf vs9.toArray n9), (L, oL)], p.1 ≠ h9.objs.size := by
      intro p hp
      rcases List.mem_cons.mp hp with rfl | hp
      · exact Nat.ne_of_lt hDlt
      · rw [List.mem_singleton.mp hp]; exact Nat.ne_of_lt (Nat.lt_trans hlt hDlt)
    clear F9 N9
    refine call_list_map (xs := verParts version build) rfl hvs9 hok.each (Nat.le_trans hok.parts (by decide)) ap ms ?_ ?_
    · intro hall D2 h13 tk13 acc c hD2 k13 hD13 hacc
      have F13 := fr_but F12 k13 hL9
      have N13 := News.more F13 (news_but N12 k13 hapart) hD13 (by intro es n q; cases q) (by
        cases e : (hideAll s.heap [L]).get? D2 with
        | none => rfl
        | some o => rw [F12.keep _ _ e] at hD2; cases hD2)
      clear F12 N12
      walk_at "go"
      (rename Fr _ _ _ _ => F14); (rename News _ _ _ _ => N14)
      refine' kms_slice_lit (s := {s with heap := frH F14, toks := _}) F14 N14 (News.isList N14 (List.mem_cons_self ..)) .none (.int 3 _) (pick_to (k := 3) (by decide)) ?_ ?hs ?ht ?hz
      case hs => with_unfolding_all rfl
      case ht => intro _; with_unfolding_all rfl
      case hz => have h1 := strs_length hacc; have h2 := hok.parts; simp [outsOf] at h1; rw [sizeLine_eq]; omega
      intro D3 h15 F15 N15 _
      dsimp only
      walk_at "go"
      refine join_list (News.isList N15 (List.mem_cons_self ..)) (by simpa using strs_take hacc 3) ?_ ?_
      · have h0 : ∀ (l : List Str), l.length ≤ 3 → (∀ y ∈ l, y.length ≤ 1921) → (l.map (·.length)).sum ≤ 5763 := by
          intro l h1 h2
          have gen : ∀ (l : List Str), (∀ y ∈ l, y.length ≤ 1921) → (l.map (·.length)).sum ≤ 1921 * l.length := by
            intro l
            induction l with
            | nil => intro _; simp
            | cons y l ih =>
              intro h
              have h3 := ih fun z hz => h z (List.mem_cons_of_mem _ hz)
              have h4 := h y (List.mem_cons_self ..)
              simp only [List.map_cons, List.sum_cons, List.length_cons]
              omega
          have := gen l h2
          omega
        have h1 := h0 ((outsOf (verParts version build)).take 3) (by simp; omega) (by
          intro y hy
          obtain ⟨x, hx, rfl⟩ := List.mem_map.mp (List.mem_of_mem_take hy)
          have hs := hall x hx
          cases hn : PySem.intText? x with
          | none => rw [hn] at hs; cases hs
          | some n => exact int_text_len_1921 ((hok.each x hx).fits n hn))
        have h2 : ((outsOf (verParts version build)).take 3).length ≤ 3 := by simp; omega
        have h3 : (Str.ofString ".").length = 1 := by decide
        rw [h3]; omega
      intro t16 k16
      dsimp only
      walk_at "go"
      have e : normVer version build = Txt.join (Str.ofString ".") ((outsOf (verParts version build)).take 3) := by
        unfold normVer
        rw [if_pos (List.all_eq_true.mpr hall)]
      (rename Fr _ _ _ _ => F17); (rename News _ _ _ _ => N17)
      dsimp only
      walk_at "go"
      refine e ▸ hQ t16 _ _ oL.slots (fun b o hb q => F17.keep b o (hideAll_get _ q (by simpa using hb))) ?_
      exact (N17 _ (List.mem_cons_of_mem _ (List.mem_cons_of_mem _ (List.mem_cons_of_mem _ (List.mem_cons_self ..))))).1
    · intro hbad h13 h14 e tk14 m14 k13 hI hm
      have F13 := fr_but F12 k13 hL9
      have N13 := news_but N12 k13 hapart
      clear F12 N12
      refine TLg.noted_newA (new := [(D, W.listOf vs9.toArray n9)]) (frs := [(L, oL)]) (l := [env]) rfl Fs (newExc_of hm) F13 N13 ?_ ?_
      · intro p hp
        rw [List.mem_singleton.mp hp]
        intro hq
        rcases List.mem_cons.mp hq with hq | hq
        · exact (N13 _ (List.mem_cons_self ..)).2.1 hq
        · exact Nat.ne_of_gt hlt (List.mem_singleton.mp hq)
      · intro h15 frs hsame hfrs H
        refine H.land fun h16 H16 => ?_
        refine TT.clause_hitTN (x := Str.ofString "ValueError") (X := "ValueError") H16 T (k := ?_)
        intro h17 F17 N17
        obtain ⟨⟨L', o'⟩, rfl⟩ : ∃ p, frs = [p] := by
          cases frs with
          | nil => exact hsame.elim
          | cons p r =>
            cases r with
            | nil => exact ⟨p, rfl⟩
            | cons q r => exact hsame.2.2.elim
        obtain ⟨e1, ⟨sl, e2⟩, _⟩ := hsame
        dsimp only at e1 e2
        subst e1 e2
        dsimp only [List.cons_append, List.nil_append] at N17
        clear F13 N13
        walk_at "go"
        (rename Fr _ _ _ _ => F18); (rename News _ _ _ _ => N18)
        refine' kms_slice_lit (s := {s with heap := frH F18, toks := _}) F18 N18 (News.isList N18 (List.mem_cons_self ..)) .none (.int 3 _) (pick_to (k := 3) (by decide)) ?_ ?hs ?ht ?hz
        case hs => with_unfolding_all rfl
        case ht => intro _; with_unfolding_all rfl
        case hz => have h1 := strs_length hvs9; have h2 := hok.parts; rw [sizeLine_eq]; simp; omega
        intro D3 h19 F19 N19 _
        dsimp only
        walk_at "go"
        refine join_list (News.isList N19 (List.mem_cons_self ..)) (by simpa using strs_take hvs9 3) ?_ ?_
        · have gen : ∀ (l : List Str), (∀ y ∈ l, y.length ≤ 640) → (l.map (·.length)).sum ≤ 640 * l.length := by
            intro l
            induction l with
            | nil => intro _; simp
            | cons y l ih =>
              intro h
              have h3 := ih fun z hz => h z (List.mem_cons_of_mem _ hz)
              have h4 := h y (List.mem_cons_self ..)
              simp only [List.map_cons, List.sum_cons, List.length_cons]
              omega
          have h1 := gen ((verParts version build).take 3) fun y hy => (hok.each y (List.mem_of_mem_take hy)).len
          have h2 : ((verParts version build).take 3).length ≤ 3 := by simp; omega
          have h3 : (Str.ofString ".").length = 1 := by decide
          rw [h3]; omega
        intro t20 k20
        dsimp only
        walk_at "go"
        have e : normVer version build = Txt.join (Str.ofString ".") ((verParts version build).take 3) := by
          unfold normVer
          rw [if_neg]
          intro hall
          obtain ⟨x, hx, hn⟩ := hbad
          have := List.all_eq_true.mp hall x hx
          rw [hn] at this; cases this
        (rename Fr _ _ _ _ => F21); (rename News _ _ _ _ => N21)
        dsimp only
        walk_at "go"
        refine e ▸ hQ t20 _ _ sl (fun b o hb q => F21.keep b o (hideAll_get _ q (by simpa using hb))) ?_
        exact (N21 _ (List.mem_cons_of_mem _ (List.mem_cons_of_mem _ (List.mem_cons_self ..)))).1
end Mine
end

section
namespace Mine

theorem is_types {M : Model} {A : Around} {E : Value → Shared → Prop} {s : Shared} {X Y : String} {Q : Value → Shared → Prop} (h : Q (.bool (Value.type X == Value.type Y)) s) : wpAny M A (compareOp .Is (.type X) (.type Y)) Q E s :=
  wpAny_pure (a := Value.bool (Value.type X == Value.type Y)) h

theorem buffer_call {w : World} {s : Shared} {mean : ExcName → Option Value} {mg mb : Str → Option Value} {Q E : Value → Shared → Prop}
   (X : (hd.heap_39 w.params).In s.heap) (T : Top hd.view_39 (looseW hd.view_39 [Str.ofString "_norm_version", Str.ofString "b2a_base64", Str.ofString "b64encode"]) mean mg mb s.heap) {b : Array UInt8} {t : Tok}
  (hQ : ∀ h' tk, (∀ b o, s.heap.get? b = some o → h'.get? b = some o) → Q (.bytes b t) {s with heap := h', toks := tk}) 
  : wpAny (model PySem.Challenge.rw_mq0053_01.row.prog w) (AA 402 510 none) (call (.ref 36) [.bytes b t]) Q E s := by
  refine wpAny_call ?_
  revert X T
  k_fill
  intro X T
  refine' enterK (binds := [(Str.ofString "data", .bytes b t)]) X T ?k6 ?k7 ?k8 ?k9 ?kB ?_ ?c2 ?c3 ?c4 ?c5; (case k6 => k_is); (case k7 => k_is); (case k8 => decide); (case k9 => exact BindsTo.of_eq rfl); (case c5 => decide); (case kB => exact locs rfl); (case c2 => exact rfl); (case c3 => exact rfl); (case c4 => exact rfl)
  intro h₁ F N
  (try dsimp only)
  k_fold
  walk_at "go"
  refine call_type_of (Tx := "bytes") rfl (by decide) ?_
  walk_at "go"
  refine wpAny_If ?_
  walk_at "go"
  refine is_types ?_
  rw [show (Value.type "bytes" == Value.type "bytes") = true from rfl]
  walk_at "go"
  (rename Fr _ _ _ _ => F2)
  exact hQ _ _ F2.keep
theorem truth_call {w : World} {s : Shared} {mean : ExcName → Option Value} {mg mb : Str → Option Value} {Q E : Value → Shared → Prop}
   (X : (hd.heap_39 w.params).In s.heap) (T : Top hd.view_39 (looseW hd.view_39 [Str.ofString "_norm_version", Str.ofString "b2a_base64", Str.ofString "b64encode"]) mean mg mb s.heap)
  (hQ : ∀ h' tk, (∀ b o, s.heap.get? b = some o → h'.get? b = some o) → Q (.bool false) {s with heap := h', toks := tk}) 
  : wpAny (model PySem.Challenge.rw_mq0053_01.row.prog w) (AA 402 510 none) (call (.ref 43) [.bool false]) Q E s := by
  refine wpAny_call ?_
  revert X T
  k_fill
  intro X T
  refine' enterK (binds := [(Str.ofString "x", .bool false)]) X T ?k6 ?k7 ?k8 ?k9 ?kB ?_ ?c2 ?c3 ?c4 ?c5; (case k6 => k_is); (case k7 => k_is); (case k8 => decide); (case k9 => exact BindsTo.of_eq rfl); (case c5 => decide); (case kB => exact locs rfl); (case c2 => exact rfl); (case c3 => exact rfl); (case c4 => exact rfl)
  intro h₁ F N
  (try dsimp only)
  k_fold
  walk_at "go"
  refine call_type_of (Tx := "bool") rfl (by decide) ?_
  walk_at "go"
  refine wpAny_If ?_
  walk_at "go"
  refine is_bool_none ?_
  walk_at "go"
  refine is_types ?_
  rw [show (Value.type "bool" == Value.type "bool") = true from rfl]
  walk_at "go"
  (rename Fr _ _ _ _ => F2)
  exact hQ _ _ F2.keep
end Mine
end

section
namespace Mine

noncomputable abbrev nwA {h₀ : Heap} {L : Addr} {h : Heap} {a : Addr} {o : Obj} {r : List (Addr × Obj)} (_ : News h₀ L h ((a, o) :: r)) : Addr := a
theorem bitOr_small {a b : Int} (ha : 0 ≤ a) (hb : 0 ≤ b) (hb2 : b < 256) : Builtin.bitOr (a * 2 ^ (8 : Int).toNat) b = a * 256 + b := by
  obtain ⟨n, rfl⟩ := Int.eq_ofNat_of_zero_le ha
  obtain ⟨k, rfl⟩ := Int.eq_ofNat_of_zero_le hb
  have e1 : ((n : Int) * 2 ^ (8 : Int).toNat) = ((n * 256 : Nat) : Int) := by
    have : ((2 : Int) ^ (8 : Int).toNat) = 256 := by decide
    rw [this]; omega
  rw [e1]
  have h1 : Builtin.bitOr ((n * 256 : Nat) : Int) ((k : Nat) : Int) = (((n * 256) ||| k : Nat) : Int) := by
    unfold Builtin.bitOr Builtin.bitAnd Builtin.bitNot
    have d1 : decide ((0 : Int) ≤ -((n * 256 : Nat) : Int) - 1) = false := decide_eq_false (by omega)
    have d2 : decide ((0 : Int) ≤ -((k : Nat) : Int) - 1) = false := decide_eq_false (by omega)
    rw [d1, d2]
    have t1 : (-(-((n * 256 : Nat) : Int) - 1) - 1).toNat = n * 256 := by omega
    have t2 : (-(-((k : Nat) : Int) - 1) - 1).toNat = k := by omega
    dsimp only
    rw [t1, t2]
    omega
  rw [h1]
  have hk : k < 2 ^ 8 := by omega
  have h2 := Nat.shiftLeft_add_eq_or_of_lt hk n
  rw [Nat.shiftLeft_eq] at h2
  have e3 : (2 : Nat) ^ 8 = 256 := by decide
  rw [e3] at h2
  rw [← h2]
  omega

noncomputable def b64L : List Int := [65, 66, 67, 68, 69, 70, 71, 72, 73, 74, 75, 76, 77, 78, 79, 80, 81, 82, 83, 84, 85, 86, 87, 88, 89, 90, 97, 98, 99, 100, 101, 102, 103, 104, 105, 106, 107, 108, 109, 110, 111, 112, 113, 114, 115, 116, 117, 118, 119, 120, 121, 122, 48, 49, 50, 51, 52, 53, 54, 55, 56, 57, 43, 47]
noncomputable def b64At (i : Int) : Int := b64L.getD i.toNat 0
/-- one octet: what is left, how many bits of it, what is written -/
noncomputable def encStep (p : Int × Int × List Int) (b : Int) : Int × Int × List Int :=
  let lc := (p.1 * 256 + b) % 65536
  if p.2.1 = 0 then (lc, 2, p.2.2 ++ [b64At (lc / 4 % 64)])
  else if p.2.1 = 2 then (lc, 4, p.2.2 ++ [b64At (lc / 16 % 64)])
  else (lc, 0, p.2.2 ++ [b64At (lc / 64 % 64), b64At (lc % 64)])
noncomputable def encSt (ks : List Int) : Int × Int × List Int := ks.foldl encStep (0, 0, [])

theorem idx_eq {lc : Int} (h : 0 ≤ lc) (n : Nat) : Builtin.bitAnd (lc.fdiv (2 ^ n)) 63 = lc / 2 ^ n % 64 := by
  rw [bitAnd_m6, Int.fdiv_eq_ediv_of_nonneg _ (Int.le_of_lt (Int.pow_pos (by decide)))]
theorem ints_append {vs vs' : List Value} {ys ys' : List Int} (h : IntsAre vs ys) (h' : IntsAre vs' ys') : IntsAre (vs ++ vs') (ys ++ ys') := by
  induction h with
  | nil => exact h'
  | cons y t _ ih => exact .cons y t ih
theorem ints_len {vs : List Value} {ys : List Int} (h : IntsAre vs ys) : vs.length = ys.length := by
  induction h with
  | nil => rfl
  | cons _ _ _ ih => simp [ih]

theorem encStep_inv {p : Int × Int × List Int} {b : Int} (hb : 0 ≤ b ∧ b < 256) (h : (0 ≤ p.1 ∧ p.1 < 65536) ∧ (p.2.1 = 0 ∨ p.2.1 = 2 ∨ p.2.1 = 4)) :
    ((0 ≤ (encStep p b).1 ∧ (encStep p b).1 < 65536) ∧ ((encStep p b).2.1 = 0 ∨ (encStep p b).2.1 = 2 ∨ (encStep p b).2.1 = 4)) ∧ (encStep p b).2.2.length ≤ p.2.2.length + 2 := by
  obtain ⟨lc, lb, outs⟩ := p
  obtain ⟨_, rfl | rfl | rfl⟩ := h
  all_goals (unfold encStep; simp; omega)
theorem encSt_inv : ∀ (ks : List Int) (p : Int × Int × List Int), (∀ k ∈ ks, 0 ≤ k ∧ k < 256) → ((0 ≤ p.1 ∧ p.1 < 65536) ∧ (p.2.1 = 0 ∨ p.2.1 = 2 ∨ p.2.1 = 4)) →
    ((0 ≤ (ks.foldl encStep p).1 ∧ (ks.foldl encStep p).1 < 65536) ∧ ((ks.foldl encStep p).2.1 = 0 ∨ (ks.foldl encStep p).2.1 = 2 ∨ (ks.foldl encStep p).2.1 = 4)) ∧ (ks.foldl encStep p).2.2.length ≤ p.2.2.length + 2 * ks.length
  | [], p, _, h => ⟨h, by simp⟩
  | k :: ks, p, hk, h => by
    have h1 := encStep_inv (hk k (List.mem_cons_self ..)) h
    have h2 := encSt_inv ks (encStep p k) (fun j hj => hk j (List.mem_cons_of_mem _ hj)) h1.1
    refine ⟨h2.1, ?_⟩
    have := h2.2
    have := h1.2
    simp only [List.foldl_cons, List.length_cons]
    omega

theorem b64At_byte (i : Int) : 0 ≤ b64At i ∧ b64At i < 256 := by
  unfold b64At
  have h : ∀ n : Nat, n < 64 → 0 ≤ b64L.getD n 0 ∧ b64L.getD n 0 < 256 := by decide
  by_cases hn : i.toNat < 64
  · exact h _ hn
  · rw [List.getD_eq_getElem?_getD, List.getElem?_eq_none (by show 64 ≤ i.toNat; omega)]; decide
theorem encStep_bytes {p : Int × Int × List Int} {b : Int} (h : ∀ n ∈ p.2.2, 0 ≤ n ∧ n < 256) : ∀ n ∈ (encStep p b).2.2, 0 ≤ n ∧ n < 256 := by
  intro n hn
  unfold encStep at hn
  dsimp only at hn
  split at hn
  · rcases List.mem_append.mp hn with hn | hn
    · exact h n hn
    · rw [List.mem_singleton.mp hn]; exact b64At_byte _
  · split at hn
    · rcases List.mem_append.mp hn with hn | hn
      · exact h n hn
      · rw [List.mem_singleton.mp hn]; exact b64At_byte _
    · rcases List.mem_append.mp hn with hn | hn
      · exact h n hn
      · rcases List.mem_cons.mp hn with rfl | hn
        · exact b64At_byte _
        · rw [List.mem_singleton.mp hn]; exact b64At_byte _
theorem encSt_bytes : ∀ (ks : List Int) (p : Int × Int × List Int), (∀ n ∈ p.2.2, 0 ≤ n ∧ n < 256) → ∀ n ∈ (ks.foldl encStep p).2.2, 0 ≤ n ∧ n < 256
  | [], _, h => h
  | k :: ks, _, h => encSt_bytes ks _ (encStep_bytes h)

theorem bInts_byteArr {ns : List Int} (h : ∀ n ∈ ns, 0 ≤ n ∧ n < 256) : KBw.bInts (byteArr ns) = ns := by
  unfold KBw.bInts byteArr
  induction ns with
  | nil => rfl
  | cons n ns ih =>
    have h1 := h n (List.mem_cons_self ..)
    have h2 := ih fun k hk => h k (List.mem_cons_of_mem _ hk)
    simp only [List.map_cons]
    refine List.cons_eq_cons.mpr ⟨?_, by simpa using h2⟩
    have : n.toNat < 256 := by omega
    simp
    omega

theorem b2a_call {w : World} {s : Shared} {mean : ExcName → Option Value} {mg mb : Str → Option Value} {Q E : Value → Shared → Prop}
   (X : (hd.heap_39 w.params).In s.heap) (T : Top hd.view_39 (looseW hd.view_39 [Str.ofString "_norm_version", Str.ofString "b2a_base64", Str.ofString "b64encode"]) mean mg mb s.heap) {b : Array UInt8} {t : Tok}
  (hb : b.size ≤ 10000) (h3 : (encSt (KBw.bInts b)).2.1 = 0)
  (hQ : ∀ r t' h' tk, KBw.bInts r = (encSt (KBw.bInts b)).2.2 → (∀ b o, s.heap.get? b = some o → h'.get? b = some o) → Q (.bytes r t') {s with heap := h', toks := tk}) 
  : wpAny (model PySem.Challenge.rw_mq0053_01.row.prog w) (AA 401 505 none) (call (.ref 51) [.bytes b t] [(Str.ofString "newline", .bool false)]) Q E s := by
  refine wpAny_call ?_
  revert X T
  k_fill
  intro X T
  refine' enterK (binds := [(Str.ofString "data", .bytes b t), (Str.ofString "newline", .bool false)]) X T ?k6 ?k7 ?k8 ?k9 ?kB ?_ ?c2 ?c3 ?c4 ?c5; (case k6 => k_is); (case k7 => k_is); (case k8 => decide); (case k9 => exact BindsTo.of_eq rfl); (case c5 => decide); (case kB => exact locs rfl); (case c2 => exact rfl); (case c3 => exact rfl); (case c4 => exact rfl)
  intro h₁ F N
  (try dsimp only)
  k_fold
  walk_at "go"
  refine ⟨X.keeps F.keep, ?_⟩
  refine wpAny_lower (buffer_call (X.keeps F.keep) (T.keeps F.keep) ?_) rfl (Nat.le_of_ble_eq_true rfl) (Nat.le_of_ble_eq_true rfl)
  intro h₂ tk₂ k₂
  have F₂ := F.keeps k₂
  have N₂ := N.keepsAll k₂
  clear F N
  walk_at "go"
  (rename Fr _ _ _ _ => F₃); (rename News _ _ _ _ => N₃)
  refine ⟨X.keeps F₃.keep, ?_⟩
  refine wpAny_lower (truth_call (X.keeps F₃.keep) (T.keeps F₃.keep) ?_) rfl (Nat.le_of_ble_eq_true rfl) (Nat.le_of_ble_eq_true rfl)
  intro h₄ tk₄ k₄
  have F₄ := F₃.keeps k₄
  have N₄ := N₃.keepsAll k₄
  clear F₃ N₃
  walk_at "go"
  (rename Fr _ _ _ _ => F₅); (rename News _ _ _ _ => N₅)
  refine For_invVF F₅ rfl rfl ?_
  walk_at "go"
  refine KBmo.iter_bytesN (ks := KBw.bInts b) (fun i m nx => ∃ vs n t1 t2, nx = [(nwA N₅, W.listOf (List.toArray vs) n)] ∧ IntsAre vs (encSt ((KBw.bInts b).take i)).2.2 ∧
    m (Str.ofString "leftchar") = some (.int (encSt ((KBw.bInts b).take i)).1 t1) ∧ m (Str.ofString "leftbits") = some (.int (encSt ((KBw.bInts b).take i)).2.1 t2) ∧
    ∀ y, y ≠ Str.ofString "leftchar" → y ≠ Str.ofString "leftbits" → y ≠ Str.ofString "b" → m y = frM F₅ y) rfl rfl F₅ N₅ ?_ ?_ ?_
  · exact ⟨[], 0, _, _, rfl, .nil, rfl, rfl, fun _ _ _ _ => rfl⟩
  · rintro i k t3 m₁ nx h tk own hi h0 h1 hoff ⟨vs, n, t1, t2, rfl, hvs, e1, e2, hm⟩ F₆ N₆
    have e : m₁ = fun y => if y = Str.ofString "leftchar" then some (.int (encSt ((KBw.bInts b).take i)).1 t1) else if y = Str.ofString "leftbits" then some (.int (encSt ((KBw.bInts b).take i)).2.1 t2) else if y = Str.ofString "b" then m₁ y else frM F₅ y := by
      funext y
      by_cases q1 : y = Str.ofString "leftchar"
      · rw [if_pos q1, q1, e1]
      · rw [if_neg q1]
        by_cases q2 : y = Str.ofString "leftbits"
        · rw [if_pos q2, q2, e2]
        · rw [if_neg q2]
          by_cases q3 : y = Str.ofString "b"
          · rw [if_pos q3]
          · rw [if_neg q3]; exact hm y q1 q2 q3
    rw [e] at F₆
    dsimp only [frM] at F₆
    have hst : encSt ((KBw.bInts b).take (i + 1)) = encStep (encSt ((KBw.bInts b).take i)) k := by
      unfold encSt
      rw [List.take_add_one, hi, List.foldl_append]
      rfl
    rw [hst]
    have hinv := encSt_inv ((KBw.bInts b).take i) (0, 0, []) (fun k hk => KBw.ints_in (List.mem_of_mem_take hk)) ⟨⟨by decide, by decide⟩, .inl rfl⟩
    have hlen2 : ((KBw.bInts b).take i).length ≤ b.size := by
      rw [List.length_take, KBw.ints_length]; omega
    change ((0 ≤ (encSt ((KBw.bInts b).take i)).1 ∧ (encSt ((KBw.bInts b).take i)).1 < 65536) ∧ ((encSt ((KBw.bInts b).take i)).2.1 = 0 ∨ (encSt ((KBw.bInts b).take i)).2.1 = 2 ∨ (encSt ((KBw.bInts b).take i)).2.1 = 4)) ∧ (encSt ((KBw.bInts b).take i)).2.2.length ≤ 0 + 2 * ((KBw.bInts b).take i).length at hinv
    generalize hS : encSt ((KBw.bInts b).take i) = S at *
    obtain ⟨lc, lb, outs⟩ := S
    dsimp only at *
    obtain ⟨⟨hlc, hlb⟩, hsz0⟩ := hinv
    have hsz : outs.length ≤ 100000 := by omega
    have hval : Builtin.bitAnd (Builtin.bitOr (lc * 2 ^ (8 : Int).toNat) k) 65535 = (lc * 256 + k) % 65536 := by
      rw [bitOr_small hlc.1 h0 h1, bitAnd_m16]
    walk_at "go"
    (rename Fr _ _ _ _ => F₇); (rename News _ _ _ _ => N₇)
    rw [hval] at F₇
    generalize hlc' : (lc * 256 + k) % 65536 = lc' at *
    have hlc2 : 0 ≤ lc' ∧ lc' < 65536 := by omega
    rcases hlb with rfl | rfl | rfl
    · have hstep : encStep (lc, 0, outs) k = (lc', 2, outs ++ [b64At (lc' / 4 % 64)]) := by unfold encStep; simp [hlc']
      rw [hstep]
      clear F₆ N₆
      refine whl_start 100 ?_
      refine whl_turn (by first | passes_own | with_unfolding_all passes_own) ?_
      walk_at "go"
      refine ge_int ?_
      walk_at "go"
      refine WhlIf.yes (by decide) ?_
      walk_at "go"
      rw [idx_eq hlc2.1, show (2 : Int) ^ (0 + 8 - 6 : Int).toNat = 4 from by decide]
      refine KBw.item_K (ks := b64L) (by first | rfl | decide) (by decide) (by omega) (by show _ < (64 : Int); omega) ?_
      intro u1 k1 _ _
      walk_at "go"
      (rename Fr _ _ _ _ => F₈); (rename News _ _ _ _ => N₈)
      refine append_K (its := vs.toArray) (n := n) (news' := (nwA N₅, W.listOf ((vs.toArray).push _) (n + 1)) :: own) F₈ N₈ (Upd.head (hoff.ne (by simp))) ?_ (by have := ints_len hvs; rw [sizeLine_eq]; simp; omega)
      intro h1 F₉ N₉
      clear F₈ N₈
      walk_at "go"
      dsimp only [WhlPost]
      refine whl_turn (by first | passes_own | with_unfolding_all passes_own) ?_
      walk_at "go"
      refine ge_int ?_
      walk_at "go"
      refine WhlIf.no (by decide) ?_
      walk_at "go"
      (rename Fr _ _ _ _ => F₈); (rename News _ _ _ _ => N₈)
      refine InvEndN.intro (nx := [(nwA N₅, W.listOf (vs ++ [Value.int (b64At (lc' / 4 % 64)) u1]).toArray (n + 1))]) F₈ N₈ ⟨_, _, _, _, rfl, ints_append hvs (.cons _ _ .nil), rfl, (show _ = some (Value.int 2 _) from rfl), ?_⟩ rfl (by intro p hp; rw [List.mem_singleton.mp hp]; simp [b64At]) (fun p hp => List.mem_cons_of_mem _ hp)
      intro y q1 q2 q3
      dsimp only [frM]
      simp only [if_neg q1, if_neg q2, if_neg q3]
    · have hstep : encStep (lc, 2, outs) k = (lc', 4, outs ++ [b64At (lc' / 16 % 64)]) := by unfold encStep; simp [hlc']
      rw [hstep]
      clear F₆ N₆
      refine whl_start 100 ?_
      refine whl_turn (by first | passes_own | with_unfolding_all passes_own) ?_
      walk_at "go"
      refine ge_int ?_
      walk_at "go"
      refine WhlIf.yes (by decide) ?_
      walk_at "go"
      rw [idx_eq hlc2.1, show (2 : Int) ^ (2 + 8 - 6 : Int).toNat = 16 from by decide]
      refine KBw.item_K (ks := b64L) (by first | rfl | decide) (by decide) (by omega) (by show _ < (64 : Int); omega) ?_
      intro u1 k1 _ _
      walk_at "go"
      (rename Fr _ _ _ _ => F₈); (rename News _ _ _ _ => N₈)
      refine append_K (its := vs.toArray) (n := n) (news' := (nwA N₅, W.listOf ((vs.toArray).push _) (n + 1)) :: own) F₈ N₈ (Upd.head (hoff.ne (by simp))) ?_ (by have := ints_len hvs; rw [sizeLine_eq]; simp; omega)
      intro h1 F₉ N₉
      clear F₈ N₈
      walk_at "go"
      dsimp only [WhlPost]
      refine whl_turn (by first | passes_own | with_unfolding_all passes_own) ?_
      walk_at "go"
      refine ge_int ?_
      walk_at "go"
      refine WhlIf.no (by decide) ?_
      walk_at "go"
      (rename Fr _ _ _ _ => F₈); (rename News _ _ _ _ => N₈)
      refine InvEndN.intro (nx := [(nwA N₅, W.listOf (vs ++ [Value.int (b64At (lc' / 16 % 64)) u1]).toArray (n + 1))]) F₈ N₈ ⟨_, _, _, _, rfl, ints_append hvs (.cons _ _ .nil), rfl, (show _ = some (Value.int 4 _) from rfl), ?_⟩ rfl (by intro p hp; rw [List.mem_singleton.mp hp]; simp [b64At]) (fun p hp => List.mem_cons_of_mem _ hp)
      intro y q1 q2 q3
      dsimp only [frM]
      simp only [if_neg q1, if_neg q2, if_neg q3]
    · have hstep : encStep (lc, 4, outs) k = (lc', 0, outs ++ [b64At (lc' / 64 % 64), b64At (lc' % 64)]) := by unfold encStep; simp [hlc']
      rw [hstep]
      clear F₆ N₆
      refine whl_start 100 ?_
      refine whl_turn (by first | passes_own | with_unfolding_all passes_own) ?_
      walk_at "go"
      refine ge_int ?_
      walk_at "go"
      refine WhlIf.yes (by decide) ?_
      walk_at "go"
      rw [idx_eq hlc2.1, show (2 : Int) ^ (4 + 8 - 6 : Int).toNat = 64 from by decide]
      refine KBw.item_K (ks := b64L) (by first | rfl | decide) (by decide) (by omega) (by show _ < (64 : Int); omega) ?_
      intro u1 k1 _ _
      walk_at "go"
      (rename Fr _ _ _ _ => F₈); (rename News _ _ _ _ => N₈)
      refine append_K (its := vs.toArray) (n := n) (news' := (nwA N₅, W.listOf ((vs.toArray).push _) (n + 1)) :: own) F₈ N₈ (Upd.head (hoff.ne (by simp))) ?_ (by have := ints_len hvs; rw [sizeLine_eq]; simp; omega)
      intro h1 F₉ N₉
      clear F₈ N₈
      walk_at "go"
      dsimp only [WhlPost]
      refine whl_turn (by first | passes_own | with_unfolding_all passes_own) ?_
      walk_at "go"
      refine ge_int ?_
      walk_at "go"
      refine WhlIf.yes (by decide) ?_
      walk_at "go"
      rw [idx_eq hlc2.1, show (2 : Int) ^ (4 + 8 - 6 - 6 : Int).toNat = 1 from by decide]
      refine KBw.item_K (ks := b64L) (by first | rfl | decide) (by decide) (by omega) (by show _ < (64 : Int); omega) ?_
      intro u2 k2 _ _
      walk_at "go"
      (rename Fr _ _ _ _ => F₈); (rename News _ _ _ _ => N₈)
      refine append_K (its := vs.toArray.push (.int (b64At (lc' / 64 % 64)) u1)) (n := n + 1) (news' := (nwA N₅, W.listOf ((vs.toArray.push (.int (b64At (lc' / 64 % 64)) u1)).push _) (n + 1 + 1)) :: own) F₈ N₈ (Upd.head (hoff.ne (by simp))) ?_ (by have := ints_len hvs; rw [sizeLine_eq]; simp; omega)
      intro h2 F₉ N₉
      clear F₈ N₈
      walk_at "go"
      dsimp only [WhlPost]
      refine whl_turn (by first | passes_own | with_unfolding_all passes_own) ?_
      walk_at "go"
      refine ge_int ?_
      walk_at "go"
      refine WhlIf.no (by decide) ?_
      walk_at "go"
      (rename Fr _ _ _ _ => F₈); (rename News _ _ _ _ => N₈)
      refine InvEndN.intro (nx := [(nwA N₅, W.listOf (vs ++ [Value.int (b64At (lc' / 64 % 64)) u1, Value.int (b64At (lc' / 1 % 64)) u2]).toArray (n + 1 + 1))]) F₈ N₈ ⟨_, _, _, _, rfl, ints_append hvs (.cons _ _ (by rw [Int.ediv_one]; exact .cons _ _ .nil)), rfl, (show _ = some (Value.int 0 _) from rfl), ?_⟩ rfl (by intro p hp; rw [List.mem_singleton.mp hp]; simp [b64At]) (fun p hp => List.mem_cons_of_mem _ hp)
      intro y q1 q2 q3
      dsimp only [frM]
      simp only [if_neg q1, if_neg q2, if_neg q3]
  · rintro m₁ nx h tk ⟨vs, n, t1, t2, rfl, hvs, e1, e2, hm⟩ F₆ N₆
    rw [List.take_length] at hvs e1 e2
    rw [h3] at e2
    have e : m₁ = fun y => if y = Str.ofString "leftchar" then some (.int (encSt (KBw.bInts b)).1 t1) else if y = Str.ofString "leftbits" then some (.int 0 t2) else if y = Str.ofString "b" then m₁ y else frM F₅ y := by
      funext y
      by_cases q1 : y = Str.ofString "leftchar"
      · rw [if_pos q1, q1, e1]
      · rw [if_neg q1]
        by_cases q2 : y = Str.ofString "leftbits"
        · rw [if_pos q2, q2, e2]
        · rw [if_neg q2]
          by_cases q3 : y = Str.ofString "b"
          · rw [if_pos q3]
          · rw [if_neg q3]; exact hm y q1 q2 q3
    rw [e] at F₆
    dsimp only [frM] at F₆
    have hinv := encSt_inv (KBw.bInts b) (0, 0, []) (fun k hk => KBw.ints_in hk) ⟨⟨by decide, by decide⟩, .inl rfl⟩
    have hsz : (encSt (KBw.bInts b)).2.2.length ≤ 20000 := by
      have h1 := hinv.2
      rw [KBw.ints_length] at h1
      change (encSt (KBw.bInts b)).2.2.length ≤ 0 + 2 * b.size at h1
      omega
    have hin : ∀ n ∈ (encSt (KBw.bInts b)).2.2, 0 ≤ n ∧ n < 256 := encSt_bytes _ _ (fun _ hn => nomatch hn)
    walk_at "go"
    refine wpAny_If ?_
    walk_at "go"
    refine eq_int ?_
    rw [show ((0 : Int) == 2) = false from rfl]
    walk_at "go"
    refine wpAny_If ?_
    walk_at "go"
    refine eq_int ?_
    rw [show ((0 : Int) == 4) = false from rfl]
    walk_at "go"
    refine wpAny_If ?_
    walk_at "go"
    (rename Fr _ _ _ _ => F₈); (rename News _ _ _ _ => N₈)
    refine call_bytes_ints (vs := vs) (News.isList N₈ (List.mem_cons_self ..)) hvs hin (by have := ints_len hvs; rw [sizeLine_eq]; omega) rfl ?_
    intro h9 t9 k9 hk9
    walk_at "go"
    refine hQ _ _ _ _ ?_ (fun b o q => hk9 b o (F₈.keep b o q))
    exact bInts_byteArr hin
end Mine
end

section
namespace Mine
open Builtin

theorem slot_translate : Slot "bytes" "translate" "bytes.translate" :=
  .of (owner := "bytes") (n := "translate") (by rw [typeLookup_type, builtinLookup_eq_fast]; kernel_rfl) (by decide +kernel) (by decide +kernel) (by decide +kernel)
    (by first | exact .inl (by decide +kernel) | exact .inr (by decide +kernel)) (by rw [isSubtype_type]; kernel_rfl)
theorem type_translate : typeOf (.builtin "bytes.translate") = pure (.type "method_descriptor") := by show builtinType _ = _; rw [builtinType_eq_fast]; kernel_rfl
theorem entry_translate : entryFor table "bytes.translate" = some Builtin.«bytes.translate» := entryFor_of_tree (by kernel_rfl)
theorem args_translate (a b : Value) : argsOk "bytes.translate" ⟨[a, b], []⟩ := by unfold argsOk; kernel_rfl
theorem plain_mtr : plainId "bytes.maketrans" = true := by decide +kernel
theorem entry_mtr : entryFor table "bytes.maketrans" = some Builtin.«bytes.maketrans» := entryFor_of_tree (by kernel_rfl)
theorem check_mtr (a b : Value) : checkBuiltinCall "bytes.maketrans" ⟨[a, b], []⟩ = pure () := by kernel_rfl

noncomputable def idTab : Array UInt8 := (Array.range 256).map (·.toUInt8)
noncomputable def trTab (x y : UInt8) : Array UInt8 := (idTab.setIfInBounds 43 x).setIfInBounds 47 y
theorem nk {id : String} {l : List Value} : noKeywords id ⟨l, []⟩ = pure () := rfl
theorem cc : checkCount "maketrans" 2 2 (0 + 1 + 1) = pure () := rfl
theorem f43 : (43 : UInt8).toNat = 43 := rfl
theorem f47 : (47 : UInt8).toNat = 47 := rfl
theorem mtr_1 {args : Args} : Builtin.«bytes.maketrans» args = Bytes.maketransM .bytes args := rfl
theorem mtr_2 {args : Args} : Bytes.maketransM .bytes args = (do
  noKeywords (s!"{Bytes.Kind.bytes.name}.maketrans") args
  checkCount "maketrans" 2 2 args.pos.length
  let frm ← Bytes.bytesLike (s!"{Bytes.Kind.bytes.name}.maketrans") (args.pos.headD .none)
  let to ← Bytes.bytesLike (s!"{Bytes.Kind.bytes.name}.maketrans") (args.pos.getD 1 .none)
  if frm.size != to.size then rule s!"{s!"{Bytes.Kind.bytes.name}.maketrans"}.sizes"; raiseError "ValueError" "maketrans arguments must have same length"
  ret (← mkBytes ((frm.toList.zip to.toList).foldl (fun t (f, x) => t.setIfInBounds f.toNat x) idTab))) := rfl
theorem mtr_3 {id : String} {b1 b2 : Array UInt8} {t1 t2 : Tok} {f : Array UInt8 → Array UInt8 → Sem Fin} : (do
  noKeywords id ⟨[.bytes b1 t1, .bytes b2 t2], []⟩
  checkCount "maketrans" 2 2 [Value.bytes b1 t1, .bytes b2 t2].length
  let frm ← Bytes.bytesLike id (.bytes b1 t1)
  let to ← Bytes.bytesLike id (.bytes b2 t2)
  f frm to) = f b1 b2 := by
  rw [nk, pure_bind, KBd.like_eq, KBd.like_eq]
  rfl
theorem mtr_4 {x y : UInt8} {id : String} (t : Array UInt8) : (do
  if (#[43, 47] : Array UInt8).size != #[x, y].size then rule id; raiseError "ValueError" "maketrans arguments must have same length"
  ret (← mkBytes (((#[43, 47] : Array UInt8).toList.zip (#[x, y] : Array UInt8).toList).foldl (fun t (f, x) => t.setIfInBounds f.toNat x) t))) = (mkBytes ((t.setIfInBounds 43 x).setIfInBounds 47 y) >>= fun v => ret v) := rfl
theorem mtr_eq {x y : UInt8} {t1 t2 : Tok} : Builtin.«bytes.maketrans» ⟨[.bytes #[43, 47] t1, .bytes #[x, y] t2], []⟩ = (mkBytes (trTab x y) >>= fun v => ret v) := by
  rw [mtr_1, mtr_2]
  refine Eq.trans mtr_3 ?_
  exact mtr_4 idTab
theorem trTab_size (x y : UInt8) : (trTab x y).size = 256 := by unfold trTab idTab; simp
theorem tr_at (t : Array UInt8) (hn : ∀ n (h : n < t.size), t[n] = n.toUInt8) (x y : UInt8) (n : Nat) (h : n < ((t.setIfInBounds 43 x).setIfInBounds 47 y).size) :
    ((t.setIfInBounds 43 x).setIfInBounds 47 y)[n] = if 47 = n then y else if 43 = n then x else n.toUInt8 := by
  rw [Array.getElem_setIfInBounds (by simpa using h), Array.getElem_setIfInBounds (by simpa using h), hn]
theorem id_at (n : Nat) (h : n < idTab.size) : idTab[n] = n.toUInt8 := by simp only [idTab, Array.getElem_map, Array.getElem_range]
theorem trTab_get (x y c : UInt8) : (trTab x y).getD c.toNat c = if c = 43 then x else if c = 47 then y else c := by
  have hc : c.toNat < 256 := c.toNat_lt
  have hs : (trTab x y).size = 256 := trTab_size x y
  have hl : c.toNat < (trTab x y).size := by rw [hs]; exact hc
  rw [Array.getD, dif_pos hl]
  refine (tr_at idTab id_at x y c.toNat hl).trans ?_
  have k47 : (47 = c.toNat) = (c = 47) := propext ⟨fun h => UInt8.toNat.inj (h.symm.trans f47.symm), fun h => by rw [h, f47]⟩
  have k43 : (43 = c.toNat) = (c = 43) := propext ⟨fun h => UInt8.toNat.inj (h.symm.trans f43.symm), fun h => by rw [h, f43]⟩
  simp only [k47, k43, UInt8.ofNat_toNat, Nat.toUInt8_eq]
  by_cases h1 : c = 43
  · rw [if_neg (fun h => by rw [h1] at h; exact absurd h (by decide)), if_pos h1, if_pos h1]
  · rw [if_neg h1, if_neg h1]
section
variable {prog : Program} {w : World} {A : Around} {E : Value → Shared → Prop} {s : Shared}
theorem meets_mtr {x y : UInt8} {t1 t2 : Tok} : Meets (Builtin.«bytes.maketrans» ⟨[.bytes #[43, 47] t1, .bytes #[x, y] t2], []⟩) (fun _ R s => ∀ t' k, R (.ok (.ret (.bytes (trTab x y) t'))) { s with toks := k }) := by
  refine .of_wp fun prog w A R s hS => ?_
  rw [mtr_eq]
  exact wpAny_bind (wpAny_mkBytes (wpAny_pure ⟨_, rfl, hS _ _⟩) (by rw [trTab_size]; decide))
theorem call_mtr {x y : UInt8} {t1 t2 : Tok} {Q : Value → Shared → Prop} (h : ∀ t' k, Q (.bytes (trTab x y) t') { s with toks := k }) :
    wpAny (model prog w) A (call (.builtin "bytes.maketrans") [.bytes #[43, 47] t1, .bytes #[x, y] t2]) Q E s :=
  wpAny_call (codeAny_call_builtin plain_mtr entry_mtr (wpAny_of_eq (check_mtr _ _) (meets_mtr prog w A (wants Q E) s h)))
theorem meets_tr {b tab : Array UInt8} {t1 t2 : Tok} (hs : tab.size = 256) : Meets (Builtin.«bytes.translate» ⟨[.bytes b t1, .bytes tab t2], []⟩) (fun _ R s => b.size ≤ sizeLine ∧ ∀ t' k, R (.ok (.ret (.bytes (b.map fun c => tab.getD c.toNat c) t'))) { s with toks := k }) := by
  refine .of_wp fun prog w A R s hS => ?_
  obtain ⟨hz, hS⟩ := hS
  show wpAny _ _ (Bytes.bytesLike _ (.bytes tab t2) >>= fun t => _) _ _ s
  refine wpAny_bind (wpAny_of_eq KBd.like_eq ?_)
  dsimp only
  rw [show (tab.size != 256) = false by rw [hs]; rfl]
  refine KFB.if_not rfl ?_
  refine wpAny_bind (wpAny_pure ?_)
  show wpAny _ _ (pure #[] >>= fun _ => _) _ _ _
  refine wpAny_bind (wpAny_pure ?_)
  refine wpAny_bind (wpAny_of_eq (a := b) (by rfl) ?_)
  dsimp only
  have e : (Array.map (fun c => tab.getD c.toNat c) (Array.filter (fun x => !(#[] : Array UInt8).contains x) b)) = b.map fun c => tab.getD c.toNat c := by
    congr 1
    simp
  rw [e]
  split
  · next hb =>
    have hb := eq_of_beq hb
    refine wpAny_bind (wpAny_rule ?_)
    refine wpAny_bind (wpAny_of_eq (a := .bytes b t1) (by rfl) ?_)
    refine wpAny_pure ⟨_, rfl, ?_⟩
    have := hS t1 s.toks
    rw [hb] at this
    exact this
  · show wpAny _ _ (mkBytes _ >>= fun v => ret v) _ _ s
    exact wpAny_bind (wpAny_mkBytes (wpAny_pure ⟨_, rfl, hS _ _⟩) (by simpa using hz))
theorem call_tr {b tab : Array UInt8} {t1 t2 : Tok} {Q : Value → Shared → Prop} (hs : tab.size = 256) (hz : b.size ≤ sizeLine) (h : ∀ t' k, Q (.bytes (b.map fun c => tab.getD c.toNat c) t') { s with toks := k }) :
    wpAny (model prog w) A (call (.builtin "bytes.translate") [.bytes b t1, .bytes tab t2]) Q E s :=
  call_meets slot_translate (typeIs_bytes _ _ _) entry_translate (args_translate _ _) (meets_tr hs) ⟨hz, h⟩
theorem method_tr {M : Model} {b : Array UInt8} {t : Tok} {pl : Sem Bool} {Q : Value × List Value → Shared → Prop} (h : Q (.builtin "bytes.translate", [.bytes b t]) s) : wpAny M A (getMethod (.bytes b t) "translate" pl) Q E s := by
  with_reducible exact KBd.method_of (.bytes b t) (typeIs_bytes _ _ _) slot_translate type_translate KBd.noRef h
theorem getm_mtr {K : Frag} {pl : Sem Bool} {Q : Value × List Value → Shared → Prop} (X : K.In s.heap)
    (e : findCls K (.type "bytes") (.type "type") (PySem.Str.ofString "maketrans") = some (.val (.builtin "bytes.maketrans")))
    (h : ∀ k, Q (.builtin "bytes.maketrans", []) { s with toks := k }) :
    wpAny (model prog w) A (getMethod (.type "bytes") (PySem.Str.ofString "maketrans") pl) Q E s := by
  have hstub : opaqueClassAbove (.type "bytes") = pure none := by unfold opaqueClassAbove; dsimp only; rw [show Manifest.isStub "bytes" = false by decide +kernel]; rfl
  have ht : typeOf (.type "bytes") = pure (.type "type") := by first | rfl | kernel_rfl
  have L0 : Looks (model prog w) s.heap (typeOf (.type "bytes")) (.type "type") := Looks.of_pure ht
  have hg : findIn K (.type "type") "__getattribute__" = some (some (.builtin "type.__getattribute__")) := type_tga
  unfold getMethod specialOf
  refine wpAny_bind (wpAny_bind (L0.here ((looks_findIn X hg).here ?_)))
  dsimp only
  rw [if_pos canon_tga]
  refine wpAny_bind (wpAny_mono (Q := fun v => Q (v, [])) (E := E) ?_ (fun _ _ z => wpAny_pure z) fun _ _ z => z)
  have LO : Looks (model prog w) s.heap (opaqueClassAbove (.type "bytes")) none := Looks.of_pure hstub
  refine cls_open X LO L0 hg (looks_hook X (r := none) (by rfl)) (by show subIn K _ _ = _; rfl) e ?_
  show wpAny _ _ (ret (.builtin "bytes.maketrans")) _ _ _
  exact wpAny_pure (handed_on (by decide +kernel) (h _))
end
theorem trInts (x y : UInt8) (b : Array UInt8) : KBw.bInts (b.map fun c => (trTab x y).getD c.toNat c) = (KBw.bInts b).map (fun c => if c = 43 then (x.toNat : Int) else if c = 47 then (y.toNat : Int) else c) := by
  unfold KBw.bInts
  simp only [Array.toList_map, List.map_map]
  apply List.map_congr_left
  intro c _
  simp only [Function.comp, trTab_get]
  by_cases h1 : c = 43
  · subst h1; rfl
  · have h1' : ¬ ((c.toNat : Int) = 43) := fun e => h1 (by apply UInt8.toNat.inj; exact_mod_cast e)
    by_cases h2 : c = 47
    · subst h2; rfl
    · have h2' : ¬ ((c.toNat : Int) = 47) := fun e => h2 (by apply UInt8.toNat.inj; exact_mod_cast e)
      rw [if_neg h1, if_neg h2, if_neg h1', if_neg h2']
end Mine
end

section
namespace Mine

theorem b64_call {w : World} {s : Shared} {mean : ExcName → Option Value} {mg mb : Str → Option Value} {Q E : Value → Shared → Prop}
   (X : (hd.heap_39 w.params).In s.heap) (T : Top hd.view_39 (looseW hd.view_39 [Str.ofString "_norm_version", Str.ofString "b2a_base64", Str.ofString "b64encode"]) mean mg mb s.heap) {b : Array UInt8} {t t2 : Tok} {x y : UInt8}
  (hb : b.size ≤ 10000) (h3 : (encSt (KBw.bInts b)).2.1 = 0)
  (hQ : ∀ r t' h' tk, KBw.bInts r = (encSt (KBw.bInts b)).2.2.map (fun c => if c = 43 then (x.toNat : Int) else if c = 47 then (y.toNat : Int) else c) → (∀ b o, s.heap.get? b = some o → h'.get? b = some o) → Q (.bytes r t') {s with heap := h', toks := tk}) 
  : wpAny (model PySem.Challenge.rw_mq0053_01.row.prog w) (AA 400 500 none) (call (.ref 59) [.bytes b t, .bytes #[x, y] t2]) Q E s := by
  refine wpAny_call ?_
  revert X T
  k_fill
  intro X T
  refine' enterK (binds := [(Str.ofString "s", .bytes b t), (Str.ofString "altchars", .bytes #[x, y] t2)]) X T ?k6 ?k7 ?k8 ?k9 ?kB ?_ ?c2 ?c3 ?c4 ?c5; (case k6 => k_is); (case k7 => k_is); (case k8 => decide); (case k9 => exact binds_K X rfl (by k_is) rfl rfl rfl); (case c5 => decide); (case kB => exact locs rfl); (case c2 => exact rfl); (case c3 => exact rfl); (case c4 => exact rfl)
  intro h₁ F N
  (try dsimp only)
  show wpAny _ _ _ _ _ _
  k_fold
  walk_at "go"
  refine ⟨X.keeps F.keep, ?_⟩
  walk_at "go"
  refine wpAny_lower (b2a_call (X.keeps F.keep) (T.keeps F.keep) hb h3 ?_) rfl (Nat.le_of_ble_eq_true rfl) (Nat.le_of_ble_eq_true rfl)
  intro r t4 h₄ tk₄ hr k₄
  have F₄ := F.keeps k₄
  have N₄ := N.keepsAll k₄
  clear F N
  walk_at "go"
  refine wpAny_If ?_
  walk_at "go"
  refine isNot_none ?_
  rw [show (!(Value.bytes #[x, y] t2 == Value.none)) = true from rfl]
  walk_at "go"
  refine len_bytes (by show (2 : Nat) ≤ _; decide) ?_
  walk_at "go"
  refine eq_int ?_
  rw [show (((#[x, y] : Array UInt8).size : Int) == 2) = true from rfl]
  walk_at "go"
  refine method_tr ?_
  walk_at "go"
  rename Fr _ _ _ _ => F5
  refine getm_mtr (X.keeps F5.keep) (by rfl) ?_
  intro k2
  walk_at "go"
  refine call_mtr ?_
  intro t5 k5
  walk_at "go"
  have hsz : r.size ≤ 20000 := by
    have h1 := (encSt_inv (KBw.bInts b) (0, 0, []) (fun k hk => KBw.ints_in hk) ⟨⟨by decide, by decide⟩, .inl rfl⟩).2
    have h9 := congrArg List.length hr
    change _ = ((KBw.bInts b).foldl encStep (0, 0, [])).2.2.length at h9
    rw [← h9] at h1
    unfold KBw.bInts at h1
    simp at h1
    omega
  refine call_tr (trTab_size _ _) (by rw [sizeLine_eq]; omega) ?_
  intro t6 k6
  walk_at "go"
  refine hQ _ _ _ _ (by rw [trInts, hr]) F5.keep
end Mine
end

section
namespace Mine

noncomputable def alpha : Str := Str.ofString "ABCDEFGHIJKLMNOPQRSTUVWXYZabcdefghijklmnopqrstuvwxyz0123456789"
noncomputable def sIdx (last : Str) (c : Nat) : Int := Txt.find (alpha ++ last) ⟨#[c]⟩
noncomputable def grpN (last : Str) (cs : List Nat) : Int := cs.foldl (fun n c => 64 * n + sIdx last c) 0
noncomputable def grp3 (n : Int) : List Int := [n / 65536, n / 256 % 256, n % 256]
noncomputable def octUp (last : Str) (cs : List Nat) (k : Nat) : List Int := (List.range k).flatMap fun j => grp3 (grpN last ((cs.drop (4 * j)).take 4))
theorem octUp_len (last : Str) (cs : List Nat) : ∀ k, (octUp last cs k).length = 3 * k
  | 0 => rfl
  | k + 1 => by
    unfold octUp
    rw [List.range_succ, List.flatMap_append, List.length_append]
    have := octUp_len last cs k
    unfold octUp at this
    rw [this]
    rfl
theorem octUp_succ (last : Str) (cs : List Nat) (k : Nat) : octUp last cs (k + 1) = octUp last cs k ++ grp3 (grpN last ((cs.drop (4 * k)).take 4)) := by
  unfold octUp
  rw [List.range_succ, List.flatMap_append]
  simp
theorem grpN_range {last : Str} : ∀ (cs : List Nat) (a : Int) (B : Int), (∀ c ∈ cs, 0 ≤ sIdx last c ∧ sIdx last c < 64) → 0 ≤ a → a < B → 0 ≤ cs.foldl (fun n c => 64 * n + sIdx last c) a ∧ cs.foldl (fun n c => 64 * n + sIdx last c) a < B * 64 ^ cs.length
  | [], a, B, _, h1, h2 => by simp; omega
  | c :: cs, a, B, h, h1, h2 => by
    have hc := h c (List.mem_cons_self ..)
    have ih := grpN_range cs (64 * a + sIdx last c) (B * 64) (fun d hd => h d (List.mem_cons_of_mem _ hd)) (by omega) (by omega)
    rw [List.foldl_cons, List.length_cons, Int.pow_succ]
    refine ⟨ih.1, ?_⟩
    have e : B * (64 ^ cs.length * 64) = B * 64 * 64 ^ cs.length := by rw [Int.mul_comm (64 ^ cs.length) 64, Int.mul_assoc]
    rw [e]
    exact ih.2
theorem octUp_bytes {last : Str} {cs : List Nat} (h : ∀ c ∈ cs, 0 ≤ sIdx last c ∧ sIdx last c < 64) : ∀ k, ∀ n ∈ octUp last cs k, 0 ≤ n ∧ n < 256
  | 0, n, hn => nomatch hn
  | k + 1, n, hn => by
    rw [octUp_succ] at hn
    rcases List.mem_append.mp hn with hn | hn
    · exact octUp_bytes h k n hn
    · have hm : ∀ c ∈ (cs.drop (4 * k)).take 4, 0 ≤ sIdx last c ∧ sIdx last c < 64 := fun c hc => h c (List.mem_of_mem_drop (List.mem_of_mem_take hc))
      have hg := grpN_range _ 0 1 hm (Int.le_refl _) (by decide)
      have hl : ((cs.drop (4 * k)).take 4).length ≤ 4 := by rw [List.length_take]; omega
      have hp : (64 : Int) ^ ((cs.drop (4 * k)).take 4).length ≤ 16777216 := by
        generalize ((cs.drop (4 * k)).take 4).length = q at hl
        have : q = 0 ∨ q = 1 ∨ q = 2 ∨ q = 3 ∨ q = 4 := by omega
        rcases this with rfl | rfl | rfl | rfl | rfl <;> decide
      change 0 ≤ grpN last _ ∧ grpN last _ < _ at hg
      generalize grpN last ((cs.drop (4 * k)).take 4) = g at *
      unfold grp3 at hn
      simp at hn
      rcases hn with rfl | rfl | rfl <;> omega
theorem octets_call {w : World} {s : Shared} {mean : ExcName → Option Value} {mg mb : Str → Option Value} {Q E : Value → Shared → Prop}
   (X : (hd.heap_39 w.params).In s.heap) (T : Top hd.view_39 (looseW hd.view_39 [Str.ofString "_norm_version", Str.ofString "b2a_base64", Str.ofString "b64encode"]) mean mg mb s.heap) {text last : Str} {t t2 : Tok}
  (hb : text.length ≤ 10000) (h4 : text.length % 4 = 0) (hl : last.length = 2) (hin : ∀ c ∈ text.cps.toList, Txt.contains (alpha ++ last) ⟨#[c]⟩ = true ∧ 0 ≤ sIdx last c ∧ sIdx last c < 64)
  (hQ : ∀ r t' h' tk, KBw.bInts r = octUp last text.cps.toList (text.length / 4) → (∀ b o, s.heap.get? b = some o → h'.get? b = some o) → Q (.bytes r t') {s with heap := h', toks := tk})
  : wpAny (model PySem.Challenge.rw_mq0053_01.row.prog w) (AA 400 500 none) (call (.ref 73) [.str text t, .str last t2]) Q E s := by
  refine wpAny_call ?_
  revert X T
  k_fill
  intro X T
  refine' enterK (binds := [(Str.ofString "text", .str text t), (Str.ofString "last", .str last t2)]) X T ?k6 ?k7 ?k8 ?k9 ?kB ?_ ?c2 ?c3 ?c4 ?c5; (case k6 => k_is); (case k7 => k_is); (case k8 => decide); (case k9 => exact BindsTo.of_eq rfl); (case c5 => decide); (case kB => exact locs rfl); (case c2 => exact rfl); (case c3 => exact rfl); (case c4 => exact rfl)
  intro h₁ F N
  (try dsimp only)
  show wpAny _ _ _ _ _ _
  k_fold
  walk_at "go"
  (rename Fr _ _ _ _ => F2); (rename News _ _ _ _ => N2)
  refine For_invVF F2 rfl rfl ?_
  walk_at "go"
  refine len_str (by omega) ?_
  walk_at "go"
  refine range3_rows F2 N2 (by decide) ?_
  intro h₃ tk₃ ta tb tc hr F3 N3 k3
  clear F2 N2
  walk_at "go"
  refine iter_rangeN (n := text.length / 4) (fun i m nx => ∃ vs n, nx = [(nwB N3, W.listOf (List.toArray vs) n)] ∧ IntsAre vs (octUp last text.cps.toList i) ∧
    ∀ y, y ≠ Str.ofString "number" → y ≠ Str.ofString "start" → y ≠ Str.ofString "sign" → m y = frM F3 y) rfl hr ?_ ?_ F3 N3 ?_ ?_ ?_
  · exact range_small (by omega) (by omega) (by omega)
  · unfold Builtin.Range.rangeSize
    rw [if_pos (by decide)]
    split <;> omega
  · exact ⟨[], 0, rfl, .nil, fun _ _ _ _ => rfl⟩
  · rintro i t4 m₁ nx h tk own hi hoff ⟨vs, n, rfl, hvs, hm⟩ F₆ N₆
    have e : m₁ = fun y => if y = Str.ofString "number" then m₁ y else if y = Str.ofString "start" then m₁ y else if y = Str.ofString "sign" then m₁ y else frM F3 y := by
      funext y
      by_cases q1 : y = Str.ofString "number"
      · rw [if_pos q1]
      · rw [if_neg q1]
        by_cases q2 : y = Str.ofString "start"
        · rw [if_pos q2]
        · rw [if_neg q2]
          by_cases q3 : y = Str.ofString "sign"
          · rw [if_pos q3]
          · rw [if_neg q3]; exact hm y q1 q2 q3
    rw [e] at F₆
    dsimp only [frM] at F₆
    walk_at "go"
    (rename Fr _ _ _ _ => F7); (rename News _ _ _ _ => N7)
    clear F₆ N₆
    refine for_str (fun j m => (∃ t5, m (Str.ofString "number") = some (.int (grpN last (((text.cps.toList.drop (4 * i)).take 4).take j)) t5)) ∧ ∀ y, y ≠ Str.ofString "number" → y ≠ Str.ofString "sign" → m y = frM F7 y) rfl F7 N7 rfl rfl ?_ (hE := by first | passes_own | with_unfolding_all passes_own)
    walk_at "go"
    refine slice_strN_ss F7 N7 ?_ (hsz := by rw [sizeLine_eq]; omega)
    intro h8 t8 k8 F8 N8
    have hlen0 : text.cps.toList.length = text.length := by unfold Str.length; simp
    have hsl : (Txt.slice text (some (0 + ↑i * 4)) (some (0 + ↑i * 4 + 4))) = ⟨((text.cps.toList.drop (4 * i)).take 4).toArray⟩ := by
      have h9 := eq_of_beq (slice_closesL (x := text) (i := 0 + (i : Int) * 4) (j := 0 + (i : Int) * 4 + 4) (by omega) (by omega) (by omega))
      rw [h9, show (0 + (i : Int) * 4).toNat = 4 * i by omega, show (0 + (i : Int) * 4 + 4 - (0 + (i : Int) * 4)).toNat = 4 by omega]
    have hgl : ((text.cps.toList.drop (4 * i)).take 4).length = 4 := by rw [List.length_take, List.length_drop, hlen0]; omega
    rw [hsl]
    refine ⟨_, _, rfl, _, _, rfl, F8, N8, ⟨⟨_, rfl⟩, fun _ _ _ => rfl⟩, ?_, ?_⟩
    · rintro j c u9 m₂ h9 tk9 own9 hj ⟨⟨t9, e9⟩, hm9⟩ hoff9 F9 N9
      rw [map_eq1 e9 hm9] at F9
      walk_at "go"
      have hcm := hin c (List.mem_of_mem_drop (List.mem_of_mem_take (List.mem_of_getElem? hj)))
      refine index_or rfl (fun _ he => ?_) fun h0 _ => ?_
      · exfalso
        have h1 := hcm.1
        unfold Txt.contains alpha at h1
        rw [he] at h1; cases h1
      walk_at "go"
      (rename Fr _ _ _ _ => F18); (rename News _ _ _ _ => N18)
      refine InvEndN.intro F18 N18 ⟨rfl, ⟨?_, ?_⟩⟩ rfl (fun p hp => List.mem_append_left _ hp) (fun p hp => by first | exact List.mem_append_right _ hp | (simp only [List.mem_cons]; exact .inr (.inr (.inr hp))))
      · apply Exists.intro
        rw [List.take_add_one (i := j)]
        rw [show (List.take 4 (List.drop (4 * i) text.cps.toList))[j]? = some c from hj]
        unfold grpN
        rw [List.foldl_append]
        rfl
      · intro y h1 h2
        show (if y = _ then _ else if y = _ then _ else if y = _ then _ else if y = _ then _ else _) = _
        rw [if_neg h1, if_neg h2, if_neg h1, if_neg h2]
    · rintro m₂ h9 tk9 ⟨⟨t9, e9⟩, hm9⟩ F9 N9
      rw [map_eq1 e9 hm9] at F9
      walk_at "go"
      have hvl := ints_len hvs
      rw [octUp_len] at hvl
      (rename Fr _ _ _ _ => F18); (rename News _ _ _ _ => N18)
      rename ∀ p : Addr × Obj, p ∈ [_] ++ own → p.1 < _ => l18
      refine kl_extend F18 N18 (List.mem_cons_self ..) rfl (by simp) (.tail (Nat.ne_of_gt (l18 _ (List.mem_cons_self ..))) (.head (hoff.ne (by simp)))) (by have hz := sizeLine_eq; unfold Builtin.List.listTooLong; simp; omega) (by rw [sizeLine_eq]; simp; omega) (by rw [sizeLine_eq]; simp; omega) ?_
      intro h19 F19 N19
      walk_at "go"
      refine inv_end2 F19 N19 ⟨_, _, rfl, ?_, ?_⟩
      · rw [octUp_succ]
        refine ints_append hvs ?_
        have e5 : List.take (List.take 4 (List.drop (4 * i) text.cps.toList)).toArray.size (List.take 4 (List.drop (4 * i) text.cps.toList)) = List.take 4 (List.drop (4 * i) text.cps.toList) := List.take_of_length_le (by simp)
        unfold grp3
        dsimp only
        rw [e5]
        rw [Int.fdiv_eq_ediv_of_nonneg _ (by decide), Int.fdiv_eq_ediv_of_nonneg _ (by decide), Int.fmod_eq_emod_of_nonneg _ (by decide), Int.fmod_eq_emod_of_nonneg _ (by decide)]
        exact .cons _ _ (.cons _ _ (.cons _ _ .nil))
      · intro y q1 q2 q3
        show (if y = _ then _ else if y = _ then _ else frM F7 y) = _
        rw [if_neg q1, if_neg q3]
        show (if y = _ then _ else if y = _ then _ else if y = _ then _ else if y = _ then _ else if y = _ then _ else _) = _
        rw [if_neg q1, if_neg q2, if_neg q1, if_neg q2, if_neg q3]
  · rintro m₁ nx h tk ⟨vs, n, rfl, hvs, hm⟩ F₆ N₆
    have e : m₁ = fun y => if y = Str.ofString "number" then m₁ y else if y = Str.ofString "start" then m₁ y else if y = Str.ofString "sign" then m₁ y else frM F3 y := by
      funext y
      by_cases q1 : y = Str.ofString "number"
      · rw [if_pos q1]
      · rw [if_neg q1]
        by_cases q2 : y = Str.ofString "start"
        · rw [if_pos q2]
        · rw [if_neg q2]
          by_cases q3 : y = Str.ofString "sign"
          · rw [if_pos q3]
          · rw [if_neg q3]; exact hm y q1 q2 q3
    rw [e] at F₆
    dsimp only [frM] at F₆
    walk_at "go"
    have hin3 := octUp_bytes (fun c hc => (hin c hc).2) (text.length / 4)
    have hlen : vs.length = 3 * (text.length / 4) := by rw [← octUp_len last text.cps.toList]; exact ints_len hvs
    refine call_bytes_ints (vs := vs) (News.isList N₆ (List.mem_cons_self ..)) hvs hin3 (by rw [sizeLine_eq]; omega) rfl ?_
    intro h9 t9 k9 hk9
    walk_at "go"
    refine hQ _ _ _ _ ?_ (fun b o q => hk9 b o (F₆.keep b o q))
    exact bInts_byteArr hin3
end Mine
end

section
namespace Mine

theorem keepMap {m m₀ : Str → Option Value} (names : List Str) (h : ∀ y, (∀ n ∈ names, y ≠ n) → m y = m₀ y) : m = fun y => names.foldr (fun n r => if y = n then m y else r) (m₀ y) := by
  funext y
  by_cases e : ∃ n ∈ names, y = n
  · have gen : ∀ (l : List Str) (z : Option Value), (∃ n ∈ l, y = n) → l.foldr (fun n r => if y = n then m y else r) z = m y := by
      intro l z
      induction l with
      | nil => rintro ⟨n, hn, _⟩; cases hn
      | cons a l ih =>
        intro hl
        show (if y = a then m y else l.foldr _ z) = m y
        by_cases q : y = a
        · rw [if_pos q]
        · rw [if_neg q]
          obtain ⟨n, hn, e⟩ := hl
          rcases List.mem_cons.mp hn with rfl | hn
          · exact absurd e q
          · exact ih ⟨n, hn, e⟩
    exact (gen names _ e).symm
  · have hne : ∀ n ∈ names, y ≠ n := fun n hn q => e ⟨n, hn, q⟩
    have gen : ∀ (l : List Str) (z : Option Value), (∀ n ∈ l, y ≠ n) → l.foldr (fun n r => if y = n then m y else r) z = z := by
      intro l z
      induction l with
      | nil => intro _; rfl
      | cons a l ih =>
        intro hl
        show (if y = a then m y else l.foldr _ z) = z
        rw [if_neg (hl a (List.mem_cons_self ..))]
        exact ih fun n hn => hl n (List.mem_cons_of_mem _ hn)
    rw [gen names _ hne, h y hne]
theorem ints_get {vs : List Value} {xs : List Int} (h : IntsAre vs xs) : ∀ {i : Nat} {v : Value}, vs[i]? = some v → ∃ x u, xs[i]? = some x ∧ v = .int x u := by
  induction h with
  | nil => intro i v h; simp at h
  | cons x u _ ih =>
    intro i v h
    cases i with
    | zero => simp at h; exact ⟨x, u, by simp, h.symm⟩
    | succ i => simp at h; simpa using ih h
theorem log2_small {a : Int} (h : 0 ≤ a ∧ a < 1000) : a.natAbs.log2 < 1920 := by
  have := Nat.log2_le_self a.natAbs
  omega
theorem menu_cut {h₀ : Heap} {L : Addr} {h : Heap} {p1 p2 p3 p4 p5 : Addr × Obj} {r : List (Addr × Obj)} (N : News h₀ L h (p1 :: p2 :: p3 :: p4 :: p5 :: r)) : News h₀ L h (p1 :: p5 :: r) :=
  fun p hp => N p (by simp only [List.mem_cons] at hp ⊢; rcases hp with h | h | h <;> simp [h])
theorem menu_cut2 {h₀ : Heap} {L : Addr} {h : Heap} {q p1 p2 p3 p4 p5 p6 p7 : Addr × Obj} {r : List (Addr × Obj)} (N : News h₀ L h (p1 :: p2 :: p3 :: p4 :: p5 :: p6 :: p7 :: r)) (hq : q ∈ p1 :: p2 :: p3 :: p4 :: p5 :: p6 :: p7 :: r) : News h₀ L h (q :: r) :=
  fun p hp => by
    rcases List.mem_cons.mp hp with rfl | hp
    · exact N _ hq
    · exact N p (by simp [hp])
noncomputable def insideG (p : Str) : List Str := [Str.ofString "1~" ++ p, p ++ Str.ofString "~0~" ++ p]
noncomputable def shapesG (p mk : Str) : List Str := [p, mk ++ p, p ++ Str.ofString "~", Str.ofString "~" ++ p ++ Str.ofString "~~"] ++ insideG p ++ [Str.ofString "1~~" ++ p, Str.ofString "~", Str.ofString "", p ++ Str.ofString "c"]
noncomputable def menuG (p mk : Str) (way : Int) : List Str :=
  if way = 0 then (shapesG p mk).take 2 else if way = 1 then (shapesG p mk).take 4 else if way = 2 then (shapesG p mk).take 1 ++ insideG p else shapesG p mk
noncomputable def plainOf (x : Int) : Str := Txt.mul (Str.ofString "0") ((x.fdiv 10).fmod 3) ++ Str.ofString (toString ((x.fdiv 30).fmod 1000))
noncomputable def menuOf (x way : Int) : List Str := menuG (plainOf x) (Txt.mul (Str.ofString "~") (1 + (x.fdiv 30000).fmod 2)) way
noncomputable def cellOf (way x : Int) : Str := (menuOf x way).getD (x.fmod (menuOf x way).length).toNat Str.empty
noncomputable def partsOf (way : Int) (xs : List Int) : List Str := xs.map (cellOf way)
theorem menuG_len (p mk : Str) (way : Int) : 0 < (menuG p mk way).length ∧ (menuG p mk way).length ≤ 10 := by
  unfold menuG shapesG insideG
  split
  · simp
  · split
    · simp
    · split <;> simp
theorem menu_pick {h₀ : Heap} {L : Addr} {h : Heap} {l' D' D10 D9 DS D : Addr} {p3 p7 : Addr × Obj} {r : List (Addr × Obj)} {A B : Array Value} {k0 k1 k2 k3 k4 : Nat} {p mk : Str} {way : Int}
    (N : News h₀ L h ((l', W.listOf #[.ref D9, .ref D10, .ref D', .ref DS] k0) :: (D', W.listOf B k1) :: p3 :: (D10, W.listOf (List.toArray (List.take (Int.toNat 4) A.toList)) k2) :: (D9, W.listOf (List.toArray (List.take (Int.toNat 2) A.toList)) k3) :: (DS, W.listOf A k4) :: p7 :: r))
    (hw : 0 ≤ way ∧ way < 4) (hne : DS ≠ D ∧ D' ≠ D ∧ D9 ≠ D ∧ D10 ≠ D) (hA : StrsAre A.toList (shapesG p mk)) (hB : StrsAre B.toList ((shapesG p mk).take 1 ++ insideG p)) :
    ∃ M mv mk', (#[Value.ref D9, Value.ref D10, Value.ref D', Value.ref DS] : Array Value)[way.toNat]? = some (.ref M) ∧ News h₀ L h ((M, W.listOf (List.toArray mv) mk') :: r) ∧ StrsAre mv (menuG p mk way) ∧ M ≠ D := by
  have hw4 : way = 0 ∨ way = 1 ∨ way = 2 ∨ way = 3 := by omega
  rcases hw4 with rfl | rfl | rfl | rfl
  · exact ⟨D9, _, _, rfl, menu_cut2 N (List.mem_cons_of_mem _ (List.mem_cons_of_mem _ (List.mem_cons_of_mem _ (List.mem_cons_of_mem _ (List.mem_cons_self ..))))), strs_take hA 2, hne.2.2.1⟩
  · exact ⟨D10, _, _, rfl, menu_cut2 N (List.mem_cons_of_mem _ (List.mem_cons_of_mem _ (List.mem_cons_of_mem _ (List.mem_cons_self ..)))), strs_take hA 4, hne.2.2.2⟩
  · exact ⟨D', B.toList, k1, rfl, menu_cut2 N (by simp), hB, hne.2.1⟩
  · exact ⟨DS, A.toList, k4, rfl, menu_cut2 N (by simp), hA, hne.1⟩
theorem cat_len (x y : Str) : (x ++ y).length = x.length + y.length := by
  show (x.cps ++ y.cps).size = _
  rw [Array.size_append]
  rfl
theorem menuG_short {p mk : Str} {way : Int} (hp : p.length ≤ 12) (hm : mk.length ≤ 2) : ∀ y ∈ menuG p mk way, y.length ≤ 40 := by
  have hs : ∀ y ∈ shapesG p mk, y.length ≤ 40 := by
    intro y hy
    unfold shapesG insideG at hy
    simp only [List.mem_append, List.mem_cons, List.not_mem_nil, or_false] at hy
    have e1 : (Str.ofString "~").length = 1 := rfl
    have e2 : (Str.ofString "~~").length = 2 := rfl
    have e3 : (Str.ofString "1~").length = 2 := rfl
    have e4 : (Str.ofString "~0~").length = 3 := rfl
    have e5 : (Str.ofString "1~~").length = 3 := rfl
    have e6 : (Str.ofString "").length = 0 := rfl
    have e7 : (Str.ofString "c").length = 1 := rfl
    rcases hy with ((rfl | rfl | rfl | rfl) | rfl | rfl) | rfl | rfl | rfl | rfl <;> (try simp only [cat_len, e1, e2, e3, e4, e5, e6, e7]) <;> omega
  intro y hy
  unfold menuG at hy
  split at hy
  · exact hs y (List.mem_of_mem_take hy)
  · split at hy
    · exact hs y (List.mem_of_mem_take hy)
    · split at hy
      · rcases List.mem_append.mp hy with hy | hy
        · exact hs y (List.mem_of_mem_take hy)
        · exact hs y (by unfold shapesG; simp [hy])
      · exact hs y hy
theorem plainOf_len (x : Int) : (plainOf x).length ≤ 12 := by
  have hd3 : 0 ≤ (x.fdiv 10).fmod 3 ∧ (x.fdiv 10).fmod 3 < 3 := ⟨Int.fmod_nonneg_of_pos _ (by decide), Int.fmod_lt_of_pos _ (by decide)⟩
  have hd1000 : 0 ≤ (x.fdiv 30).fmod 1000 ∧ (x.fdiv 30).fmod 1000 < 1000 := ⟨Int.fmod_nonneg_of_pos _ (by decide), Int.fmod_lt_of_pos _ (by decide)⟩
  have hA : (Str.ofString (toString ((x.fdiv 30).fmod 1000))).length ≤ 10 := KT.len_num hd1000.1 (by omega)
  have h9 := len_mul_k1 (x := Str.ofString "0") (n := (x.fdiv 10).fmod 3) rfl
  rw [if_neg (by omega)] at h9
  unfold plainOf
  rw [cat_len]
  omega
theorem cellOf_len (way x : Int) : (cellOf way x).length ≤ 40 := by
  have hd2 : 0 ≤ (x.fdiv 30000).fmod 2 ∧ (x.fdiv 30000).fmod 2 < 2 := ⟨Int.fmod_nonneg_of_pos _ (by decide), Int.fmod_lt_of_pos _ (by decide)⟩
  have h9 := len_mul_k1 (x := Str.ofString "~") (n := 1 + (x.fdiv 30000).fmod 2) rfl
  rw [if_neg (by omega)] at h9
  have hs := menuG_short (way := way) (plainOf_len x) (mk := Txt.mul (Str.ofString "~") (1 + (x.fdiv 30000).fmod 2)) (by omega)
  unfold cellOf
  rw [List.getD_eq_getElem?_getD]
  cases e : (menuOf x way)[(x.fmod (menuOf x way).length).toNat]? with
  | none => simp [Str.empty, Str.length]
  | some y => exact hs y (List.mem_of_getElem? e)
noncomputable def headOf (ps : List Str) : Str := Txt.mul (Str.ofString "0") ((-((Txt.join (Str.ofString ".") ([Str.ofString "7"] ++ ps)).length : Int)).fmod 4) ++ Str.ofString "7"
noncomputable def cellsOf (way : Int) (xs : List Int) : List Str := headOf (partsOf way xs) :: partsOf way xs
theorem sum_len_le {ps : List Str} {B : Nat} (h : ∀ y ∈ ps, y.length ≤ B) : (ps.map (·.length)).sum ≤ B * ps.length := by
  induction ps with
  | nil => simp
  | cons a r ih =>
    have h1 := h a (List.mem_cons_self ..)
    have h2 := ih fun y hy => h y (List.mem_cons_of_mem _ hy)
    simp only [List.map_cons, List.sum_cons, List.length_cons, Nat.mul_add]
    omega
theorem parts_len {way : Int} {xs : List Int} : ∀ y ∈ partsOf way xs, y.length ≤ 40 := by
  intro y hy
  obtain ⟨x, _, rfl⟩ := List.mem_map.mp hy
  exact cellOf_len way x
theorem join_le : ∀ l : List Str, (Txt.join (Str.ofString ".") l).length ≤ (l.map (·.length)).sum + l.length
  | [] => Nat.zero_le _
  | a :: r => by
    have e : Txt.join (Str.ofString ".") (a :: r) = Str.join (Str.ofString ".") (a :: r) := StrLaws.glued_eq_join _ _
    rw [e, len_join_cons, show (Str.ofString ".").length = 1 from rfl, List.length_cons]
    omega
noncomputable def partNames : List Str := [Str.ofString "x", Str.ofString "plain", Str.ofString "marked", Str.ofString "inside", Str.ofString "shapes", Str.ofString "menu"]
theorem parts_call {w : World} {s : Shared} {mean : ExcName → Option Value} {mg mb : Str → Option Value} {Q E : Value → Shared → Prop}
   (X : (hd.heap_39 w.params).In s.heap) (T : Top hd.view_39 (looseW hd.view_39 [Str.ofString "_norm_version", Str.ofString "b2a_base64", Str.ofString "b64encode"]) mean mg mb s.heap) {l : Addr} {vs : List Value} {xs : List Int} {way : Int} {t : Tok}
  (hl : s.heap.IsList l vs.toArray) (hvs : IntsAre vs xs) (hlen : xs.length ≤ 5) (hw : 0 ≤ way ∧ way < 4)
  (hQ : ∀ D us n h' tk, h'.get? D = some (W.listOf (List.toArray us) n) → s.heap.get? D = none → StrsAre us (cellsOf way xs) → (∀ b o, s.heap.get? b = some o → h'.get? b = some o) → Q (.ref D) {s with heap := h', toks := tk})
  : wpAny (model PySem.Challenge.rw_mq0053_01.row.prog w) (AA 400 500 none) (call (.ref 66) [.ref l, .int way t]) Q E s := by
  refine wpAny_call ?_
  revert X T
  k_fill
  intro X T
  refine' enterK (binds := [(Str.ofString "numbers", .ref l), (Str.ofString "way", .int way t)]) X T ?k6 ?k7 ?k8 ?k9 ?kB ?_ ?c2 ?c3 ?c4 ?c5; (case k6 => k_is); (case k7 => k_is); (case k8 => decide); (case k9 => exact BindsTo.of_eq rfl); (case c5 => decide); (case kB => exact locs rfl); (case c2 => exact rfl); (case c3 => exact rfl); (case c4 => exact rfl)
  intro h₁ F N
  (try dsimp only)
  show wpAny _ _ _ _ _ _
  k_fold
  walk_at "go"
  (rename Fr _ _ _ _ => F2); (rename News _ _ _ _ => N2)
  refine For_invVF F2 rfl rfl ?_
  walk_at "go"
  have hL : s.heap.objs.size ≠ l := by
    obtain ⟨o, ho, _⟩ := hl
    exact Nat.ne_of_gt (Heap.lt_size ho)
  refine iter_listN (fun i m nx => ∃ us n, nx = [(nwB N2, W.listOf (List.toArray us) n)] ∧ StrsAre us (partsOf way (xs.take i)) ∧
    ∀ y, (∀ n ∈ partNames, y ≠ n) → m y = frM F2 y) rfl hl F2 hL N2 ?_ ?_ ?_
  · exact ⟨[], 0, rfl, .nil, fun _ _ => rfl⟩
  · rintro i v m₁ nx h tk own hi hoff ⟨us, n, rfl, hus, hm⟩ F₆ N₆
    obtain ⟨x, u, hx, rfl⟩ := ints_get hvs hi
    rw [keepMap partNames hm] at F₆
    dsimp only [frM, partNames, List.foldr] at F₆
    walk_at "go"
    have hd3 : 0 ≤ (x.fdiv 10).fmod 3 ∧ (x.fdiv 10).fmod 3 < 3 := ⟨Int.fmod_nonneg_of_pos _ (by decide), Int.fmod_lt_of_pos _ (by decide)⟩
    have hd1000 : 0 ≤ (x.fdiv 30).fmod 1000 ∧ (x.fdiv 30).fmod 1000 < 1000 := ⟨Int.fmod_nonneg_of_pos _ (by decide), Int.fmod_lt_of_pos _ (by decide)⟩
    refine str_of_int_fit (N := 1000) (by split <;> omega) (by decide) ?_ 
    intro _
    have hd2 : 0 ≤ (x.fdiv 30000).fmod 2 ∧ (x.fdiv 30000).fmod 2 < 2 := ⟨Int.fmod_nonneg_of_pos _ (by decide), Int.fmod_lt_of_pos _ (by decide)⟩
    have hA : (Str.ofString (toString ((x.fdiv 30).fmod 1000))).length ≤ 10 := KT.len_num hd1000.1 (by omega)
    have hz : (Txt.mul (Str.ofString "0") ((x.fdiv 10).fmod 3)).length ≤ 2 := by
      have h9 := len_mul_k1 (x := Str.ofString "0") (n := (x.fdiv 10).fmod 3) rfl
      rw [if_neg (by omega)] at h9
      omega
    have hm2 : (Txt.mul (Str.ofString "~") (1 + (x.fdiv 30000).fmod 2)).length ≤ 2 := by
      have h9 := len_mul_k1 (x := Str.ofString "~") (n := 1 + (x.fdiv 30000).fmod 2) rfl
      rw [if_neg (by omega)] at h9
      omega
    generalize hds : Str.ofString (toString ((x.fdiv 30).fmod 1000)) = ds at hA ⊢
    generalize hzs : Txt.mul (Str.ofString "0") ((x.fdiv 10).fmod 3) = zs at hz ⊢
    walk_at "gm"
    (rename Fr _ _ _ _ => F7); (rename News _ _ _ _ => N7)
    rename (_ ∧ _ ∧ _ ∧ _ ∧ AllLt _ _) => qS
    have hneS := Nat.ne_of_gt qS.2.2.2.2.1
    have N8 := menu_cut N7
    clear N7
    walk_at "go"
    refine' kms_slice_lit (s := {s with heap := frH F7, toks := _}) F7 N8 (News.isList N8 (List.mem_cons_self ..)) .none (.int 2 _) (pick_to (k := 2) (by decide)) ?_ ?hs ?ht ?hz
    case hs => with_unfolding_all rfl
    case ht => intro _; with_unfolding_all rfl
    case hz => rw [sizeLine_eq]; simp
    intro D9 h9 F9 N9 l9
    dsimp only
    walk_at "go"
    refine' kms_slice_lit (s := {s with heap := frH F9, toks := _}) F9 N9 (News.isList N9 (List.mem_cons_of_mem _ (List.mem_cons_self ..))) .none (.int 4 _) (pick_to (k := 4) (by decide)) ?_ ?hs ?ht ?hz
    case hs => with_unfolding_all rfl
    case ht => intro _; with_unfolding_all rfl
    case hz => rw [sizeLine_eq]; simp
    intro D10 h10 F10 N10 l10
    dsimp only
    walk_at "go"
    refine' kms_slice_lit (s := {s with heap := frH F10, toks := _}) F10 N10 (News.isList N10 (List.mem_cons_of_mem _ (List.mem_cons_of_mem _ (List.mem_cons_self ..)))) .none (.int 1 _) (pick_to (k := 1) (by decide)) ?_ ?hs ?ht ?hz
    case hs => with_unfolding_all rfl
    case ht => intro _; with_unfolding_all rfl
    case hz => rw [sizeLine_eq]; simp
    intro D11 h11 F11 N11 l11
    dsimp only
    walk_at "go"
    (rename Fr _ _ _ _ => F12); (rename News _ _ _ _ => N12)
    rename (_ ∧ _ ∧ _ ∧ _ ∧ _ ∧ AllLt _ _) => qT
    have hneT := Nat.ne_of_gt qT.2.2.2.2.2.1
    have hne9 := Nat.ne_of_gt (l9 _ (List.mem_cons_of_mem _ (List.mem_cons_of_mem _ (List.mem_cons_self ..))))
    have hne10 := Nat.ne_of_gt (l10 _ (List.mem_cons_of_mem _ (List.mem_cons_of_mem _ (List.mem_cons_of_mem _ (List.mem_cons_self ..)))))
    obtain ⟨M, mv, mk, hM, N13, hmv, hneM⟩ := menu_pick N12 hw ⟨hneS, hneT, hne9, hne10⟩ (p := zs ++ ds) (mk := Txt.mul (Str.ofString "~") (1 + (x.fdiv 30000).fmod 2)) (.cons _ _ (.cons _ _ (.cons _ _ (.cons _ _ (.cons _ _ (.cons _ _ (.cons _ _ (.cons _ _ (.cons _ _ (.cons _ _ .nil)))))))))) (.cons _ _ (.cons _ _ (.cons _ _ .nil)))
    refine item_listR (News.isList N12 (List.mem_cons_self ..)) hw.1 (by omega) hM ?_
    clear N12
    walk_at "go"
    (rename Fr _ _ _ _ => F14); (rename News _ _ _ _ => N14)
    have hml := strs_length hmv
    have hmG := menuG_len (zs ++ ds) (Txt.mul (Str.ofString "~") (1 + (x.fdiv 30000).fmod 2)) way
    refine len_list (News.isList N14 (List.mem_cons_self ..)) ?_ ?_
    · simp; omega
    have hcs : ((List.toArray mv).size : Int) = ((menuG (zs ++ ds) (Txt.mul (Str.ofString "~") (1 + (x.fdiv 30000).fmod 2)) way).length : Int) := by simp [hml]
    rw [hcs]
    walk_at "go"
    have hx0 : 0 ≤ x.fmod ((menuG (zs ++ ds) (Txt.mul (Str.ofString "~") (1 + (x.fdiv 30000).fmod 2)) way).length : Int) := Int.fmod_nonneg_of_pos _ (by omega)
    have hx1 : x.fmod ((menuG (zs ++ ds) (Txt.mul (Str.ofString "~") (1 + (x.fdiv 30000).fmod 2)) way).length : Int) < ((menuG (zs ++ ds) (Txt.mul (Str.ofString "~") (1 + (x.fdiv 30000).fmod 2)) way).length : Int) := Int.fmod_lt_of_pos _ (by omega)
    refine item_strsR (News.isList N14 (List.mem_cons_self ..)) hmv hx0 hx1 (by omega) ?_
    intro t15
    walk_at "go"
    have hul := strs_length hus
    have hil : i < vs.length := (List.getElem?_eq_some_iff.mp hi).1
    have hvl := ints_len hvs
    refine append_K (its := us.toArray) (n := n) (news' := (M, W.listOf mv.toArray mk) :: (nwB N2, W.listOf ((us.toArray).push _) (n + 1)) :: own) F14 N14 (Upd.tail hneM (Upd.head (hoff.ne (by simp)))) ?_ (by rw [sizeLine_eq]; simp [hul, partsOf]; omega)
    intro h16 F16 N16
    walk_at "go"
    refine inv_end2 F16 N16 ?_
    rw [List.push_toArray]
    refine ⟨_, _, rfl, ?_, ?_⟩
    · rw [List.take_add_one, hx]
      unfold partsOf
      rw [List.map_append]
      refine strs_append hus ?_
      show StrsAre _ [cellOf way x]
      unfold cellOf menuOf plainOf
      rw [hds, hzs]
      exact .cons _ _ .nil
    · intro y hy
      have q : ∀ n ∈ partNames, ¬ y = n := hy
      unfold partNames at q
      simp only [List.mem_cons, List.not_mem_nil, or_false, forall_eq_or_imp, forall_eq] at q
      obtain ⟨q1, q2, q3, q4, q5, q6⟩ := q
      simp only [if_neg q1, if_neg q2, if_neg q3, if_neg q4, if_neg q5, if_neg q6]
      try rfl
  · rintro m₁ nx h tk ⟨us, n, rfl, hus, hm⟩ F₆ N₆
    rw [keepMap partNames hm] at F₆
    dsimp only [frM, partNames, List.foldr] at F₆
    walk_at "go"
    have hvl := ints_len hvs
    have hus' : StrsAre us (partsOf way xs) := by rw [hvl, List.take_length] at hus; exact hus
    have hul := strs_length hus'
    have hpl : (partsOf way xs).length ≤ 5 := by unfold partsOf; rw [List.length_map]; exact hlen
    have hsum := sum_len_le (parts_len (way := way) (xs := xs))
    (rename Fr _ _ _ _ => F7); (rename News _ _ _ _ => N7)
    refine kmk_add_lit F7 N7 (News.isList N7 (List.mem_cons_self ..)) (News.isList N7 (List.mem_cons_of_mem _ (List.mem_cons_self ..))) rfl ?_ (by rw [sizeLine_eq]; simp; omega)
    intro D8 h8 F8 N8 l8
    walk_at "go"
    refine join_list (ys := [Str.ofString "7"] ++ partsOf way xs) (News.isList N8 (List.mem_cons_self ..)) (by simpa using strs_append (.cons _ _ .nil) hus') (by rw [show (Str.ofString ".").length = 1 from rfl]; simp [show (Str.ofString "7").length = 1 from rfl]; omega) ?_
    intro t9 k9
    walk_at "go"
    have hjl : (Txt.join (Str.ofString ".") (Str.ofString "7" :: partsOf way xs)).length ≤ 300 := by
      have h9 := join_le (Str.ofString "7" :: partsOf way xs)
      simp only [List.map_cons, List.sum_cons, List.length_cons] at h9
      rw [show (Str.ofString "7").length = 1 from rfl] at h9
      omega
    refine len_str (by omega) ?_
    generalize hgen : Txt.join (Str.ofString ".") (Str.ofString "7" :: partsOf way xs) = jn at hjl ⊢
    have hd4 : 0 ≤ (-(jn.length : Int)).fmod 4 ∧ (-(jn.length : Int)).fmod 4 < 4 := ⟨Int.fmod_nonneg_of_pos _ (by decide), Int.fmod_lt_of_pos _ (by decide)⟩
    walk_at "go"
    (rename Fr _ _ _ _ => F10); (rename News _ _ _ _ => N10)
    refine hQ _ _ _ _ _ (N10 _ (List.mem_cons_self ..)).1 (N10 _ (List.mem_cons_self ..)).2.2 ?_ F10.keep
    show StrsAre _ (headOf (partsOf way xs) :: partsOf way xs)
    unfold headOf
    rw [show ([Str.ofString "7"] ++ partsOf way xs) = Str.ofString "7" :: partsOf way xs from rfl, hgen]
    exact .cons _ _ (by assumption)
end Mine
end

section
namespace Mine
section
variable {prog : Program} {w : World} {A : Around} {E : Value → Shared → Prop} {s : Shared} {env : Env}

/-- a for over a text's signs whose name is a cell -/
theorem for_strC {x : Str} {c : Addr} {px pos : Pos} {iter : Expr} {body : List Stmt} {h₀ : Heap} {m₀ : Str → Option Value} {rest : List (Addr × Obj)} {o₀ : Obj} {v₀ : Option Value} {y : Str} {Q : Flow → Shared → Prop}
    (J : Nat → (Str → Option Value) → List (Addr × Obj) → Prop) (hh : A.handled = none)
    (hx : env.kindOf x = some .cell) (hc : env.cells.lookup x = some c) (hk : env.scope.kind = .function)
    (hne : ∀ p ∈ rest, p.1 ≠ c)
    (hasc : y.cps.all (· < 128) = true)
    (h : wpAny (model prog w) A (eval iter env) (fun xv s₁ => ∃ t h₁ tk₁, 1 ≤ tk₁ ∧ xv = .str y t ∧ s₁ = { s with heap := h₁, toks := tk₁ } ∧ Fr h₀ env.locals h₁ m₀ ∧ News h₀ env.locals h₁ ((c, o₀) :: rest)) E s)
    (ho : o₀.data = .cell v₀) (hj : J 0 m₀ rest)
    (turn : ∀ i n u m₁ r₁ o h own, 1 ≤ u → y.cps.toList[i]? = some n → OwnOff own (c :: rest.map (·.1)) → r₁.map (·.1) = rest.map (·.1) → J i m₁ r₁ → o.data = .cell (some (.str ⟨#[n]⟩ u)) → Fr h₀ env.locals h m₁ → News h₀ env.locals h ((c, o) :: r₁ ++ own) →
      wpAny (model prog w) A (execs body env) (InvPostN h₀ env.locals (fun m' nx => ∃ o v r, nx = (c, o) :: r ∧ o.data = .cell v ∧ J (i + 1) m' r) own (c :: rest.map (·.1)) { s with heap := h, toks := u + 1 } Q) E { s with heap := h, toks := u + 1 })
    (done : ∀ m₁ r₁ o v h tk, J y.cps.size m₁ r₁ → o.data = .cell v → Fr h₀ env.locals h m₁ → News h₀ env.locals h ((c, o) :: r₁) → Q .next { s with heap := h, toks := tk })
    (hs : ∀ x, foldedSetIterable iter env x = pure x := by intro _; rfl) (hE : PassesOwn (model prog w) A env E := by passes_own) :
    wpAny (model prog w) A (exec (.For (.Name x px) iter body [] pos) env) Q E s := by
  refine wpAny_For (wpAny_mono h (fun xv s₁ h₁ => ?_) fun _ _ e => e) hs
  obtain ⟨t, h₁, tk₁, htk₁, rfl, rfl, F, N⟩ := h₁
  refine wpAny_pyIter_ascii hasc ?_
  generalize hob : ({ cls := .type "str_ascii_iterator", data := .fields #[.str y t, .int 0 0] } : Obj) = ob
  have hst : (h₁.push ob).IsStrIter h₁.objs.size "str_ascii_iterator" y t 0 := ⟨_, Heap.get?_push_size _ (by rw [← hob]; rfl), by rw [← hob], by rw [← hob]; rfl⟩
  generalize hSt : (fun (i : Nat) (h : Heap) => h.IsStrIter h₁.objs.size "str_ascii_iterator" y t i) = St
  have hW : ∀ i h h', St i h → (∀ b ∈ [h₁.objs.size], ∀ o, h.get? b = some o → h'.get? b = some o) → St i h' := by
    rw [← hSt]
    rintro i h h' ⟨o, ho, r⟩ hk
    exact ⟨o, hk _ (by simp) o ho, r⟩
  have hst : St 0 (h₁.push ob) := by rw [← hSt]; exact hst
  have hIL : env.locals ∉ [h₁.objs.size] := fun hm => absurd F.ns.lt ((List.mem_singleton.mp hm) ▸ Nat.lt_irrefl _)
  have hI0 : h₀.get? h₁.objs.size = none := next_is_new F
  have old : ∀ b o, h₀.get? b = some o → b ∉ [h₁.objs.size] := fun b o e hb => by rw [List.mem_singleton.mp hb, hI0] at e; cases e
  have hap : ∀ p ∈ (c, o₀) :: rest, p.1 ≠ h₁.objs.size := fun p hp => Nat.ne_of_lt (Heap.lt_size (N p hp).1)
  have hap' : ∀ {o : Obj} {r : List (Addr × Obj)}, r.map (·.1) = rest.map (·.1) → ∀ p ∈ (c, o) :: r, p.1 ∉ [h₁.objs.size] := by
    intro o r e p hp hq
    have hq := List.mem_singleton.mp hq
    rcases List.mem_cons.mp hp with rfl | hp
    · exact hap _ (List.mem_cons_self ..) hq
    · have h1 : p.1 ∈ rest.map (·.1) := e ▸ List.mem_map_of_mem hp
      obtain ⟨q, hq1, hq2⟩ := List.mem_map.mp h1
      exact hap q (List.mem_cons_of_mem _ hq1) (hq2.trans hq)
  have hne' : ∀ {r : List (Addr × Obj)}, r.map (·.1) = rest.map (·.1) → ∀ p ∈ r, p.1 ≠ c := by
    intro r e p hp hq
    have h1 : p.1 ∈ rest.map (·.1) := e ▸ List.mem_map_of_mem hp
    obtain ⟨q, hq1, hq2⟩ := List.mem_map.mp h1
    exact hne q hq1 (hq2.trans hq)
  refine codeAny_forLoop
    (fun k s' => ∃ h' tk m' o v r i, s' = { s with heap := h', toks := tk } ∧ St i h' ∧ Fr h₀ env.locals h' m' ∧ News h₀ env.locals h' ((c, o) :: r) ∧ o.data = .cell v ∧ r.map (·.1) = rest.map (·.1) ∧ J i m' r ∧ i ≤ y.cps.size ∧ 1 ≤ tk ∧ k = y.cps.size + 1 - i) ?_ (y.cps.size + 1)
    ⟨h₁.push ob, tk₁, m₀, o₀, v₀, rest, 0, rfl, hst, F.push _, fun p hp => ⟨Heap.get?_push_of_some _ (N p hp).1, (N p hp).2⟩, ho, rfl, hj, Nat.zero_le _, htk₁, rfl⟩
  rintro k s' ⟨h', tk, m', o, v, r, i, rfl, hst', F', N', hd, hadr, hJ, hi, htk, rfl⟩
  have next : ∀ h₂ : Heap, (∀ b o, b ∉ [h₁.objs.size] → h'.get? b = some o → h₂.get? b = some o) → Fr h₀ env.locals h₂ m' ∧ News h₀ env.locals h₂ ((c, o) :: r) := fun h₂ hk₂ =>
    ⟨⟨F'.ns.at' fun o e => hk₂ _ o hIL e, fun b o e => hk₂ b o (old b o e) (F'.keep b o e), F'.above⟩, fun p hp => ⟨hk₂ _ _ (hap' hadr p hp) (N' p hp).1, (N' p hp).2⟩⟩
  by_cases hlt : i < y.cps.size
  · refine wpAny_pyNext_ascii_item (i := i) (by rw [← hSt] at hst'; exact hst') (c := y.cps[i]) (by simp [hlt]) fun h₂ hit₂ hs₂ => ?_
    have hn : y.cps[i]? = some y.cps[i] := by simp [hlt]
    generalize y.cps[i] = n at hn
    have hst₂ : St (i + 1) h₂ := by rw [← hSt]; exact hit₂
    have hk₂ : ∀ b o, b ∉ [h₁.objs.size] → h'.get? b = some o → h₂.get? b = some o := fun b o hb e => hs₂.extBut b o (fun h => hb (by simp [h])) e
    obtain ⟨F₂, N₂⟩ := next h₂ hk₂
    have hmem := N₂ (c, o) (List.mem_cons_self ..)
    refine wpAny_assign_Name (wpAny_storeName_cell hk hx hc ⟨o, hmem.1, hd⟩ fun h₃ hc₃ hs₃ => ?_)
    obtain ⟨o', ho', hd'⟩ := hc₃
    have F₃ : Fr h₀ env.locals h₃ m' := ⟨F₂.ns.sameBut hs₃ (Ne.symm hmem.2.1), fun b ob e => (hs₃.2 b (fun q => by rw [q, hmem.2.2] at e; cases e)).trans (F₂.keep b ob e), F₂.above⟩
    have N₃ : News h₀ env.locals h₃ ((c, o') :: r) := News.setAt (own := []) N₂ (fun _ hp => nomatch hp) (hne' hadr) hs₃ ho'
    have hcI : c ≠ h₁.objs.size := fun q => hap' (o := o) hadr (c, o) (List.mem_cons_self ..) (List.mem_singleton.mpr q)
    have hst₃ : St (i + 1) h₃ := hW _ _ _ hst₂ fun b hb o e => (hs₃.2 b fun q => hcI (q.symm.trans (List.mem_singleton.mp hb))).trans e
    have Nown : News h₀ env.locals h₃ (ownOf h₀ [h₁.objs.size] h₃) := news_ownOf hIL
    have hoff : OwnOff (ownOf h₀ [h₁.objs.size] h₃) (c :: rest.map (·.1)) := by
      intro p hp b hb e
      have h1 := List.mem_singleton.mp (ownOf_sub p hp)
      have h2 : b ∈ ((c, o₀) :: rest).map (·.1) := hb
      obtain ⟨q, hq1, hq2⟩ := List.mem_map.mp h2
      exact hap q hq1 (hq2.trans (e.symm.trans h1))
    refine wpAny_mono (wpAny_toks (wpAny_passesOwn hE (turn i n tk m' r o' h₃ (ownOf h₀ [h₁.objs.size] h₃) htk (by simpa using hn) hoff hadr hJ hd' F₃ (fun p hp => (List.mem_append.mp hp).elim (N₃ p) (Nown p))))) (fun f s₃ hf => ?_) fun _ _ e => e.2
    have fin : InvEndN h₀ env.locals (fun m' nx => ∃ o v r, nx = (c, o) :: r ∧ o.data = .cell v ∧ J (i + 1) m' r) (ownOf h₀ [h₁.objs.size] h₃) (c :: rest.map (·.1)) { s with heap := h₃, toks := tk + 1 } s₃ → 1 ≤ s₃.toks →
        ∃ m, m < y.cps.size + 1 - i ∧ ∃ h' tk m' o v r j, s₃ = { s with heap := h', toks := tk } ∧ St j h' ∧ Fr h₀ env.locals h' m' ∧ News h₀ env.locals h' ((c, o) :: r) ∧ o.data = .cell v ∧ r.map (·.1) = rest.map (·.1) ∧ J j m' r ∧ j ≤ y.cps.size ∧ 1 ≤ tk ∧ m = y.cps.size + 1 - j := by
      rintro ⟨h₄, tk₄, m₄, n₄, nx, rfl, F₄, N₄, hnx, hown, hadr₄, o₄, v₄, r₄, rfl, hd₄, hJ₄⟩ htk₄
      refine ⟨y.cps.size + 1 - (i + 1), by omega, h₄, tk₄, m₄, o₄, v₄, r₄, i + 1, rfl, ?_, F₄, fun p hp => N₄ p (hnx p hp), hd₄, (List.cons.inj hadr₄).2, hJ₄, hlt, htk₄, rfl⟩
      refine hW _ _ _ hst₃ fun b hb o e => ?_
      have hb0 : h₀.get? b = none := by rw [List.mem_singleton.mp hb]; exact hI0
      exact (N₄ _ (hown _ (mem_ownOf hb hb0 e))).1
    cases f with
    | ret v => exact hf.2
    | brk => exact hf.2
    | cont => exact fin hf.2 (Nat.le_trans (Nat.le_add_left 1 tk) hf.1)
    | next => exact fin hf.2 (Nat.le_trans (Nat.le_add_left 1 tk) hf.1)
  · have hin : i = y.cps.size := by omega
    subst hin
    refine wpAny_pyNext_ascii_end (i := y.cps.size) hh (by rw [← hSt] at hst'; exact hst') (by simp) fun h₂ he₂ => wpAny_execs_nil ?_
    obtain ⟨F₂, N₂⟩ := next h₂ fun b o hb e => he₂ b o (fun h => hb (by simp [h])) e
    exact done m' r o v h₂ tk hJ hd F₂ N₂

noncomputable def turnNames : List Str := [Str.ofString "pair", Str.ofString "shown", Str.ofString "known", Str.ofString "texts", Str.ofString "k", Str.ofString "build", Str.ofString "more", Str.ofString "due"]
/-- the law's own loop -/
theorem for_law {x : Str} {c c2 Dc : Addr} {px pos p0 : Pos} {k0 : Nat} {body : List Stmt} {h₀ : Heap} {m₀ : Str → Option Value} {q q' : Addr × Obj} {oc o₀ o2 : Obj} {v₀ v2 : Option Value} {y : Str} {Q : Flow → Shared → Prop}
    (F : Fr h₀ env.locals s.heap m₀) (N : News h₀ env.locals s.heap [q, (Dc, oc), q', (c2, o2), (c, o₀)]) (ho : o₀.data = .cell v₀) (ho2 : o2.data = .cell v2) (hcd : c ≠ c2 ∧ Dc ≠ c ∧ Dc ≠ c2) (hh : A.handled = none)
    (hx : env.kindOf x = some .cell) (hc : env.cells.lookup x = some c) (hk : env.scope.kind = .function)
    (hasc : y.cps.all (· < 128) = true)
    (turn : ∀ n u (m₁ : Str → Option Value) o o2 v2 h own, 1 ≤ u → n ∈ y.cps.toList → OwnOff own [c, c2, Dc] → o.data = .cell (some (.str ⟨#[n]⟩ u)) → o2.data = .cell v2 →
      Fr h₀ env.locals h (fun z => turnNames.foldr (fun n r => if z = n then m₁ z else r) (m₀ z)) → News h₀ env.locals h ((c, o) :: (c2, o2) :: (Dc, oc) :: own) →
      wpAny (model prog w) A (execs body env) (InvPostN h₀ env.locals (fun m' nx => ∃ o v o2 v2, nx = [(c, o), (c2, o2), (Dc, oc)] ∧ o.data = .cell v ∧ o2.data = .cell v2 ∧ ∀ z, (∀ n ∈ turnNames, z ≠ n) → m' z = m₀ z) own [c, c2, Dc] { s with heap := h, toks := u + 1 } Q) E { s with heap := h, toks := u + 1 })
    (done : ∀ (m₁ : Str → Option Value) h tk, Fr h₀ env.locals h (fun z => turnNames.foldr (fun n r => if z = n then m₁ z else r) (m₀ z)) → News h₀ env.locals h [(Dc, oc)] → Q .next { s with heap := h, toks := tk })
    (hE : PassesOwn (model prog w) A env E := by passes_own) :
    wpAny (model prog w) A (exec (.For (.Name x px) (.Constant (.str y) k0 p0) body [] pos) env) Q E s := by
  refine for_strC (h₀ := h₀) (y := y) (c := c) (rest := [(c2, o2), (Dc, oc)]) (m₀ := m₀) (fun i m r => ∃ o v, r = [(c2, o), (Dc, oc)] ∧ o.data = .cell v ∧ ∀ z, (∀ n ∈ turnNames, z ≠ n) → m z = m₀ z) hh hx hc hk ?_ hasc ?_ ho ⟨_, _, rfl, ho2, fun _ _ => rfl⟩ ?_ ?_ (hE := hE)
  · intro p hp
    rcases List.mem_cons.mp hp with rfl | hp
    · exact Ne.symm hcd.1
    · rw [List.mem_singleton.mp hp]; exact hcd.2.1
  · refine Constant_str ?_
    exact ⟨_, _, _, Nat.le_add_left 1 _, rfl, rfl, F, fun p hp => N p (by simp only [List.mem_cons] at hp ⊢; rcases hp with h | h | h | h <;> simp [h] at *)⟩
  · rintro i n u m₁ r₁ o h own hu hi hoff _ ⟨o2, v2, rfl, d2, hm⟩ d1 F₁ N₁
    rw [keepMap turnNames hm] at F₁
    refine wpAny_mono (turn n u m₁ o o2 v2 h own hu (List.mem_of_getElem? hi) hoff d1 d2 F₁ N₁) (fun f s' hf => ?_) fun _ _ e => e
    have fin : ∀ s', InvEndN h₀ env.locals (fun m' nx => ∃ o v o2 v2, nx = [(c, o), (c2, o2), (Dc, oc)] ∧ o.data = .cell v ∧ o2.data = .cell v2 ∧ ∀ z, (∀ n ∈ turnNames, z ≠ n) → m' z = m₀ z) own [c, c2, Dc] { s with heap := h, toks := u + 1 } s' →
        InvEndN h₀ env.locals (fun m' nx => ∃ o v r, nx = (c, o) :: r ∧ o.data = .cell v ∧ ∃ o v, r = [(c2, o), (Dc, oc)] ∧ o.data = .cell v ∧ ∀ z, (∀ n ∈ turnNames, z ≠ n) → m' z = m₀ z) own [c, c2, Dc] { s with heap := h, toks := u + 1 } s' := by
      rintro s' ⟨h4, tk4, m4, n4, nx, e, F4, N4, h5, h6, h7, o4, v4, o5, v5, rfl, h8, h9, h10⟩
      exact ⟨h4, tk4, m4, n4, _, e, F4, N4, h5, h6, h7, o4, v4, _, rfl, h8, o5, v5, rfl, h9, h10⟩
    cases f with
    | ret v => exact hf
    | brk => exact hf
    | next => exact fin s' hf
    | cont => exact fin s' hf
  · rintro m₁ r₁ o v h tk ⟨o2, v2, rfl, d2, hm⟩ d1 F₁ N₁
    rw [keepMap turnNames hm] at F₁
    exact done m₁ h tk F₁ fun p hp => N₁ p (List.mem_cons_of_mem _ (List.mem_cons_of_mem _ hp))
end
end Mine
end

section
namespace Mine
section
variable {prog : Program} {w : World} {A : Around} {E : Value → Shared → Prop} {s : Shared} {env : Env}

theorem execs_toks {M : Model} {st : Stmt} {rest : List Stmt} {Q : Flow → Shared → Prop} {n : Nat} (hn : n ≤ s.toks)
    (h : wpAny M A (exec st env) (fun f s' => n ≤ s'.toks → match f with | .next => wpAny M A (execs rest env) Q E s' | f => Q f s') E s) : wpAny M A (execs (st :: rest) env) Q E s :=
  wpAny_execs_cons (wpAny_with_toks hn (wpAny_mono h (fun _ _ x => x) fun _ _ e _ => e))

/-- signs of a bytes' ints -/
theorem comp_bytes {elt iter : Expr} {x : Str} {px : Pos} {scope : Scope} {cl : List (Str × Addr)} {pos : Pos} {Q : Value → Shared → Prop} (hh : A.handled = none)
    (h : wpAny (model prog w) A (eval iter env) (fun xv s₁ => ∃ b t, xv = .bytes b t ∧ b.size ≤ sizeLine ∧
      (∀ C k u s₃ m₃ E' Q', s₁.heap.objs.size < C → 0 ≤ k → k < 256 → s₃.heap.Ns C m₃ → m₃ x = some (.int k u) → (∀ b o, s₁.heap.get? b = some o → s₃.heap.get? b = some o) → (∀ t tk, Q' (.str ⟨#[k.toNat]⟩ t) { s₃ with toks := tk }) → wpAny (model prog w) A (eval elt (compEnvC scope cl C env)) Q' E' s₃) ∧
      (∀ D h' tk ys, s₁.heap.get? D = none → h'.PlainList D ys → StrsAre ys.toList ((KBw.bInts b).map fun k => ⟨#[k.toNat]⟩) → (∀ b o, s₁.heap.get? b = some o → h'.get? b = some o) → Q (.ref D) { s₁ with heap := h', toks := tk })) E s)
    (hclos : closureFor scope env = pure cl) (hcell : ∀ y ∈ scope.names, y.2 ≠ .cell) (hkind : scope.kind = .function) (hnames : ∀ y ∈ scope.names, y.2 = .local → scope.names.lookup y.1 = some .local) (hx : scope.names.lookup x = some .local)
    (hs : ∀ x, foldedSetIterable iter env x = pure x := by intro _; rfl) :
    wpAny (model prog w) A (eval (.ListComp elt [⟨.Name x px, iter, [], 0⟩] scope pos) env) Q E s := by
  refine comp_gen (fun v y => ∀ k u, v = .int k u → ∃ t, y = .str ⟨#[k.toNat]⟩ t) (wpAny_mono h (fun xv s₁ h₁ => ?_) fun _ _ e => e) hclos hcell hkind hnames hx hs
  obtain ⟨b, t, rfl, hn, helt, hQ⟩ := h₁
  refine ⟨b.size, (fun i v => ∃ c u, b[i]? = some c ∧ v = .int (c.toNat : Int) u), hn, fun Q' hQ' => ?_, fun C i v s₃ m₃ E' hC hP hn hm hk => ?_, fun D h' tk ys us hD hPl hlen hus hF hk => ?_⟩
  · refine KBw.pyIter_bytes ?_
    exact hQ' _ _ _ (KBw.walks hh s₁.heap.objs.size b t) (fun b hb => by rw [List.mem_singleton.mp hb]; exact Nat.lt_succ_self _) ⟨_, Heap.get?_push_size _ rfl, rfl, rfl⟩
  · obtain ⟨c, u, hc, rfl⟩ := hP
    refine helt C _ u s₃ m₃ E' _ hC (by omega) (by have := c.toNat_lt; omega) hn hm hk fun t tk => ⟨fun k' u' e => ?_, s₃.heap, tk, rfl, fun _ _ e => e⟩
    injection e with e1 e2
    exact ⟨t, by rw [e1]⟩
  · refine hQ D h' tk ys hD hPl ?_ hk
    have gen : ∀ (bs : List UInt8) (us zs : List Value), us.length = bs.length → (∀ (j : Nat) (v : Value), us[j]? = some v → ∃ (c : UInt8) (u : Tok), bs[j]? = some c ∧ v = .int (c.toNat : Int) u) → Paired (fun v y => ∀ k u, v = Value.int k u → ∃ t, y = Value.str ⟨#[k.toNat]⟩ t) us zs → StrsAre zs ((bs.map fun c => (c.toNat : Int)).map fun k => (⟨#[k.toNat]⟩ : Str)) := by
      intro bs
      induction bs with
      | nil =>
        intro us zs hl _ hp
        have := List.length_eq_zero_iff.mp hl
        subst this
        cases hp
        exact .nil
      | cons c bs ih =>
        intro us zs hl hv hp
        cases hp with
        | nil => cases hl
        | cons h1 h2 =>
          obtain ⟨c', u, hc', rfl⟩ := hv 0 _ rfl
          obtain rfl : c = c' := by simpa using hc'
          obtain ⟨t, rfl⟩ := h1 _ _ rfl
          exact .cons _ _ (ih _ _ (by simpa using hl) (fun j v hj => by simpa using hv (j + 1) v (by simpa using hj)) h2)
    refine gen b.toList us ys.toList (by simpa using hlen) (fun j v hj => ?_) hF
    obtain ⟨c, u, hc, rfl⟩ := hus j v hj
    exact ⟨c, u, by simpa using hc, rfl⟩

/-- numbers of a text's signs -/
theorem comp_ord {elt iter : Expr} {x : Str} {px : Pos} {scope : Scope} {cl : List (Str × Addr)} {pos : Pos} {Q : Value → Shared → Prop} (hh : A.handled = none)
    (h : wpAny (model prog w) A (eval iter env) (fun xv s₁ => ∃ y t, xv = .str y t ∧ y.cps.size ≤ sizeLine ∧
      (∀ C n u s₃ m₃ E' Q', s₁.heap.objs.size < C → s₃.heap.Ns C m₃ → m₃ x = some (.str ⟨#[n]⟩ u) → (∀ b o, s₁.heap.get? b = some o → s₃.heap.get? b = some o) → (∀ t tk, Q' (.int n t) { s₃ with toks := tk }) → wpAny (model prog w) A (eval elt (compEnvC scope cl C env)) Q' E' s₃) ∧
      (∀ D h' tk ys, s₁.heap.get? D = none → h'.PlainList D ys → IntsAre ys.toList (y.cps.toList.map fun n : Nat => (n : Int)) → (∀ b o, s₁.heap.get? b = some o → h'.get? b = some o) → Q (.ref D) { s₁ with heap := h', toks := tk })) E s)
    (hclos : closureFor scope env = pure cl) (hcell : ∀ y ∈ scope.names, y.2 ≠ .cell) (hkind : scope.kind = .function) (hnames : ∀ y ∈ scope.names, y.2 = .local → scope.names.lookup y.1 = some .local) (hx : scope.names.lookup x = some .local)
    (hs : ∀ x, foldedSetIterable iter env x = pure x := by intro _; rfl) :
    wpAny (model prog w) A (eval (.ListComp elt [⟨.Name x px, iter, [], 0⟩] scope pos) env) Q E s := by
  refine comp_gen (fun v y => ∀ n u, v = .str ⟨#[n]⟩ u → ∃ t, y = .int n t) (wpAny_mono h (fun xv s₁ h₁ => ?_) fun _ _ e => e) hclos hcell hkind hnames hx hs
  obtain ⟨y, t, rfl, hn, helt, hQ⟩ := h₁
  refine ⟨y.cps.size, SignAt y, hn, fun Q' hQ' => ?_, fun C i v s₃ m₃ E' hC hP hn hm hk => ?_, fun D h' tk ys us hD hPl hlen hus hF hk => ?_⟩
  · refine wpAny_pyIter_str fun o St W hst => ?_
    exact hQ' _ _ _ (W A hh) (fun b hb => by rw [List.mem_singleton.mp hb]; exact Nat.lt_succ_self _) hst
  · obtain ⟨c, u, hc, rfl⟩ := hP
    refine helt C c u s₃ m₃ E' _ hC hn hm hk fun t tk => ⟨fun n' u' e => ?_, s₃.heap, tk, rfl, fun _ _ e => e⟩
    injection e with e1 e2
    injection e1 with e1
    have : c = n' := by simpa using e1
    exact ⟨t, by rw [this]⟩
  · refine hQ D h' tk ys hD hPl ?_ hk
    have gen : ∀ (cs : List Nat) (us zs : List Value), us.length = cs.length → (∀ (j : Nat) (v : Value), us[j]? = some v → ∃ (c : Nat) (u : Tok), cs[j]? = some c ∧ v = .str ⟨#[c]⟩ u) → Paired (fun v y => ∀ n u, v = Value.str ⟨#[n]⟩ u → ∃ t, y = Value.int n t) us zs → IntsAre zs (cs.map fun n : Nat => (n : Int)) := by
      intro cs
      induction cs with
      | nil =>
        intro us zs hl _ hp
        have := List.length_eq_zero_iff.mp hl
        subst this
        cases hp
        exact .nil
      | cons c cs ih =>
        intro us zs hl hv hp
        cases hp with
        | nil => cases hl
        | cons h1 h2 =>
          obtain ⟨c', u, hc', rfl⟩ := hv 0 _ rfl
          obtain rfl : c = c' := by simpa using hc'
          obtain ⟨t, rfl⟩ := h1 _ _ rfl
          exact .cons _ _ (ih _ _ (by simpa using hl) (fun j v hj => by simpa using hv (j + 1) v (by simpa using hj)) h2)
    refine gen y.cps.toList us ys.toList (by simpa using hlen) (fun j v hj => ?_) hF
    obtain ⟨c, u, hc, rfl⟩ := hus j v hj
    exact ⟨c, u, by simpa using hc, rfl⟩
end
end Mine
end

section
namespace Mine
noncomputable def moreOf (b : Str) : List Str := if b.length = 0 then [] else [b]
theorem sum_drop_le {α : Type} (f : α → Nat) : ∀ (l : List α) (n : Nat), ((l.drop n).map f).sum ≤ (l.map f).sum
  | [], n => by simp
  | a :: l, 0 => by simp
  | a :: l, n + 1 => by
    have := sum_drop_le f l n
    simp only [List.drop_succ_cons, List.map_cons, List.sum_cons]
    omega
theorem apartOr_all {c : Addr} : ∀ {l : List (Addr × Obj)}, (∀ p ∈ l, p.1 ≠ c) → ApartOr c l
  | [], _ => trivial
  | p :: _, h => ⟨.inl (h p (List.mem_cons_self ..)), apartOr_all fun q hq => h q (List.mem_cons_of_mem _ hq)⟩
theorem store_value {M : Model} {A : Around} {E : Value → Shared → Prop} {s : Shared} {name : Str} {scope : Scope} {L a : Addr} {cd : Value} {h₀ : Heap} {m : Str → Option Value} {x : Str} {c a1 a2 a3 a4 a5 : Addr} {o o5 : Obj} {b1 b2 b3 b4 : Array Value} {k1 k2 k3 k4 : Nat} {v₀ : Option Value} {v : Value} {rest : List (Addr × Obj)} {Q : Unit → Shared → Prop}
    (F : Fr h₀ L s.heap m) (N : News h₀ L s.heap ((a1, W.listOf b1 k1) :: (a2, W.listOf b2 k2) :: (a3, W.listOf b3 k3) :: (a4, W.listOf b4 k4) :: (a5, o5) :: (c, o) :: rest))
    (hc : (cellsFrom (L + 1) scope.names []).lookup x = some c) (hd : o.data = .cell v₀) (h5 : a5 ≠ c) (h6 : ∀ p ∈ rest, p.1 ≠ c)
    (h : ∀ h' o', Fr h₀ L h' m → News h₀ L h' ((a1, W.listOf b1 k1) :: (a2, W.listOf b2 k2) :: (a3, W.listOf b3 k3) :: (a4, W.listOf b4 k4) :: (a5, o5) :: (c, o') :: rest) → o'.data = .cell (some v) → Q () { s with heap := h' })
    (hk : scope.kind = .function := by rfl) (hl : (envOfC name scope L a cd).kindOf x = some .cell := by rfl) :
    wpAny M A (storeName (envOfC name scope L a cd) x v) Q E s :=
  stCNk (own := [(a1, W.listOf b1 k1), (a2, W.listOf b2 k2), (a3, W.listOf b3 k3), (a4, W.listOf b4 k4), (a5, o5)]) F N hc hd
    ⟨.inr (fun _ e => nomatch e), .inr (fun _ e => nomatch e), .inr (fun _ e => nomatch e), .inr (fun _ e => nomatch e), .inl h5, trivial⟩ (apartOr_all h6) h hk hl
theorem nums_get {vs : List Value} {ns : List (Option Int)} (h : NumsAre vs ns) : ∀ {i : Nat}, i < ns.length → ∃ v, vs[i]? = some v ∧ NumIs v (ns.getD i none) := by
  induction h with
  | nil => intro i hi; simp at hi
  | no _ ih =>
    intro i hi
    cases i with
    | zero => exact ⟨_, rfl, rfl⟩
    | succ i => simpa using ih (i := i) (by simpa using hi)
  | yes n t _ ih =>
    intro i hi
    cases i with
    | zero => exact ⟨_, rfl, t, rfl⟩
    | succ i => simpa using ih (i := i) (by simpa using hi)
theorem mem6 {α : Type} {a b c d e f p : α} {r : List α} : p ∈ a :: b :: c :: d :: e :: f :: p :: r :=
  List.mem_cons_of_mem _ (List.mem_cons_of_mem _ (List.mem_cons_of_mem _ (List.mem_cons_of_mem _ (List.mem_cons_of_mem _ (List.mem_cons_of_mem _ (List.mem_cons_self ..))))))
theorem mem3 {α : Type} {a b c p : α} {r : List α} : p ∈ a :: b :: c :: p :: r :=
  List.mem_cons_of_mem _ (List.mem_cons_of_mem _ (List.mem_cons_of_mem _ (List.mem_cons_self ..)))
theorem numIs_nums {v : Value} {k : Option Int} (h : NumIs v k) {vs : List Value} {ns : List (Option Int)} (hs : NumsAre vs ns) : NumsAre (v :: vs) (k :: ns) := by
  cases k with
  | none => obtain rfl : v = Value.none := h; exact .no hs
  | some n => obtain ⟨t, rfl⟩ := h; exact .yes n t hs
theorem pair_same {v : Value} {k : Option Int} {ms ys : List Value} {bs : List Str} (h : StrsAre ms bs) (hv : NumIs v k) (hp : Paired (fun _ y => y = v) ms ys) : NumsAre ys (bs.map fun _ => k) := by
  induction h generalizing ys with
  | nil => cases hp; exact .nil
  | cons x t _ ih =>
    cases hp with
    | cons h1 h2 => rw [h1]; exact numIs_nums hv (ih h2)
theorem nums_append {vs vs' : List Value} {ys ys' : List (Option Int)} (h : NumsAre vs ys) (h' : NumsAre vs' ys') : NumsAre (vs ++ vs') (ys ++ ys') := by
  induction h with
  | nil => exact h'
  | no _ ih => exact .no ih
  | yes n t _ ih => exact .yes n t ih
theorem news_drop {h₀ h : Heap} {L : Addr} {news : List (Addr × Obj)} (N : News h₀ L h news) (k : Nat) : News h₀ L h (news.drop k) := fun p hp => N p (List.mem_of_mem_drop hp)
noncomputable def innerNames : List Str := [Str.ofString "k", Str.ofString "build", Str.ofString "more", Str.ofString "due"]
theorem str_inj {x y : Str} {t u : Tok} (e : Value.str x t = Value.str y u) : x = y := by injection e
noncomputable abbrev nwL {h₀ : Heap} {L : Addr} {h : Heap} {l : List (Addr × Obj)} (_ : News h₀ L h l) : List (Addr × Obj) := l
theorem strs_mem {vs : List Value} {xs : List Str} (h : StrsAre vs xs) {v : Value} (hv : v ∈ vs) : ∃ x t, v = .str x t ∧ x ∈ xs := by
  induction h with
  | nil => cases hv
  | cons y t _ ih =>
    rcases List.mem_cons.mp hv with rfl | hv
    · exact ⟨y, t, rfl, List.mem_cons_self ..⟩
    · obtain ⟨x, u, e, hx⟩ := ih hv
      exact ⟨x, u, e, List.mem_cons_of_mem _ hx⟩
theorem pair_nums {f : Str → Option Int} {vs ys : List Value} {xs : List Str} (h : StrsAre vs xs) (hp : Paired (fun v y => ∀ x t, v = Value.str x t → NumIs y (f x)) vs ys) : NumsAre ys (xs.map f) := by
  induction h generalizing ys with
  | nil => cases hp; exact .nil
  | cons x t _ ih =>
    cases hp with
    | cons h1 h2 =>
      have h3 := h1 x t rfl
      have h4 := ih h2
      rw [List.map_cons]
      cases e : f x with
      | none => rw [e] at h3; obtain rfl : _ = Value.none := h3; exact .no h4
      | some n => rw [e] at h3; obtain ⟨u, rfl⟩ := h3; exact .yes n u h4
section
variable {prog : Program} {w : World} {A : Around} {E : Value → Shared → Prop} {s : Shared} {env : Env}
/-- a name given a list comprehension over a list -/
theorem assign_comp_list {elt iter : Expr} {x y : Str} {px py : Pos} {scope : Scope} {cl : List (Str × Addr)} {pos spos : Pos} {Q : Flow → Shared → Prop} (F : Value → Value → Prop) (hh : A.handled = none)
    (hsw : swapsWith (.ListComp elt [⟨.Name x px, iter, [], 0⟩] scope pos) (some (.Name y py)) spos.line env = pure true)
    (h : wpAny (model prog w) A (eval iter env) (fun xv s₁ => ∃ h₀ m news l vs, xv = .ref l ∧ s₁.heap.IsList l (List.toArray vs) ∧ vs.length ≤ sizeLine ∧ Fr h₀ env.locals s₁.heap m ∧ News h₀ env.locals s₁.heap news ∧
      (∀ C v s₃ m₃ E', s₁.heap.objs.size < C → v ∈ vs → s₃.heap.Ns C m₃ → m₃ x = some v → (∀ b o, s₁.heap.get? b = some o → s₃.heap.get? b = some o) → wpAny (model prog w) A (eval elt (compEnvC scope cl C env)) (fun y s₄ => F v y ∧ Keeps s₃ s₄) E' s₃) ∧
      (∀ D n h' tk ys, Fr h₀ env.locals h' (fun z => if z = y then some (.ref D) else m z) → News h₀ env.locals h' ((D, W.listOf (List.toArray ys) n) :: news) → (∀ p ∈ news, D ≠ p.1) → Paired F vs ys → Q .next { s₁ with heap := h', toks := tk })) E s)
    (hclos : closureFor scope env = pure cl) (hcell : ∀ y ∈ scope.names, y.2 ≠ .cell) (hkind : scope.kind = .function) (hnames : ∀ y ∈ scope.names, y.2 = .local → scope.names.lookup y.1 = some .local) (hx : scope.names.lookup x = some .local)
    (hy : env.kindOf y = some .local) (hp : (env.scope.kind == .class || (env.scope.kind == .module && env.locals != env.globals)) = false)
    (hs : ∀ x, foldedSetIterable iter env x = pure x := by intro _; rfl) :
    wpAny (model prog w) A (exec (.Assign [.Name y py] (.ListComp elt [⟨.Name x px, iter, [], 0⟩] scope pos) spos) env) Q E s := by
  refine wpAny_Assign_ListComp_free (fun _ => true) F hsw hclos hcell hkind hnames hx hy hp (wpAny_mono h (fun xv s₁ h₁ => ?_) fun _ _ e => e) hs
  obtain ⟨h₀, m, news, l, vs, rfl, hl, hn, Fm, N, helt, hQ⟩ := h₁
  have hlt : l < s₁.heap.objs.size := by obtain ⟨o, ho, _⟩ := hl; exact Heap.lt_size ho
  have old : ∀ b o', s₁.heap.get? b = some o' → b ∉ [s₁.heap.objs.size] := fun b o' e hm => absurd (Heap.lt_size e) (by rw [List.mem_singleton.mp hm]; exact Nat.lt_irrefl _)
  refine wpAny_pyIter_list hl ?_
  have W := Walks.list (prog := prog) (w := w) hh s₁.heap.objs.size l (Nat.ne_of_lt hlt) vs.toArray
  have e1 : vs.toArray.size = vs.length := by simp
  have e2 : (fun (i : Nat) (v : Value) => vs.toArray[i]? = some v) = fun i v => vs[i]? = some v := by funext i v; simp
  rw [e2] at W
  rw [e1] at W
  refine ⟨_, _, _, _, _, _, m, rfl, W, hn, ⟨⟨_, Heap.get?_push_size _ rfl, rfl, rfl⟩, hl.at fun o e => Heap.get?_push_of_some _ e⟩, fun b hb => ?_, fun hm => ?_, Fm.ns.push _, ⟨fun C i v s₃ m₃ E' hC hP hn hm hk htk => ?_, fun C i v s₃ m₃ E' hC hP _ hn hm hk htk => ?_⟩, fun D h' tk ys us hD _ hPl hlen hus hF hn' hk => ?_⟩
  · show b < (s₁.heap.push _).objs.size
    rw [Heap.size_push]
    rcases List.mem_cons.mp hb with rfl | hb
    · exact Nat.lt_succ_self _
    · rw [List.mem_singleton.mp hb]; exact Nat.lt_succ_of_lt hlt
  · exact absurd Fm.ns.lt ((List.mem_singleton.mp hm) ▸ Nat.lt_irrefl _)
  · exact wpAny_pure ⟨rfl, s₃.heap, s₃.toks, rfl, fun _ _ e => e⟩
  · refine helt C v s₃ m₃ E' ?_ (List.mem_of_getElem? hP) hn hm fun b o' e => hk b o' (old b o' e) (Heap.get?_push_of_some _ e)
    have hC' : (s₁.heap.push _).objs.size ≤ C := hC
    rw [Heap.size_push] at hC'; exact hC'
  · have e : us = vs := by
      refine List.ext_getElem? fun j => ?_
      by_cases hj : j < us.length
      · have h1 := hus j us[j] (by simp [hj])
        rw [h1]; simp [hj]
      · rw [List.getElem?_eq_none (by omega), List.getElem?_eq_none (by omega)]
    subst e
    rw [List.filter_eq_self.mpr (fun _ _ => rfl)] at hF
    have keep : ∀ b o, b ≠ env.locals → s₁.heap.get? b = some o → h'.get? b = some o := fun b o hb e => hk b o hb (old b o e) (Heap.get?_push_of_some _ e)
    have F' : Fr h₀ env.locals h' (fun z => if z = y then some (.ref D) else m z) := ⟨hn', fun b o e => keep b o (Nat.ne_of_lt (Nat.lt_of_lt_of_le (Heap.lt_size e) Fm.above)) (Fm.keep b o e), Fm.above⟩
    have hDn : ∀ b o, s₁.heap.get? b = some o → D ≠ b := fun b o e q => by
      have hD' : (s₁.heap.push _).get? D = none := hD
      rw [q, Heap.get?_push_of_some _ e] at hD'; cases hD'
    obtain ⟨n, hDo⟩ := hPl
    refine hQ D n h' tk ys.toList F' (fun p hp => ?_) (fun p hp => hDn _ _ (N p hp).1) hF
    rcases List.mem_cons.mp hp with rfl | hp
    · refine ⟨by simpa using hDo, ?_, ?_⟩
      · obtain ⟨o, es, ep, ho, _⟩ := Fm.ns
        exact hDn _ _ ho
      · cases q : h₀.get? D with
        | none => rfl
        | some o => exact absurd rfl (hDn _ _ (Fm.keep _ _ q))
    · exact ⟨keep _ _ (N p hp).2.1 (N p hp).1, (N p hp).2⟩
end
theorem normver_in {w : World} {s : Shared} {mean : ExcName → Option Value} {mg mb : Str → Option Value} {Q E : Value → Shared → Prop} {env : Env} {L : Addr} {A : Around} {h₀ : Heap} {m : Str → Option Value} {news : List (Addr × Obj)}
   (F : Fr h₀ L s.heap m) (N : News h₀ L s.heap news)
   (X : (hd.heap_39 w.params).In h₀) (T : Top hd.view_39 (looseW hd.view_39 [Str.ofString "_norm_version", Str.ofString "b2a_base64", Str.ofString "b64encode"]) mean mg mb h₀)
   (hk : env.scope.kind = .function) (hf : env.frame = some L) (hA : A.frames = some [env]) (hh : A.handled = none) (hdp : A.depth ≤ 400) (hu : A.units ≤ 500)
   {version build : Str} {t1 t2 : Tok} {pos : List Value} (hpos : pos = [.str version t1, .str build t2] ∨ (pos = [.str version t1] ∧ build = Str.ofString "" ∧ t2 = 196))
   (hok : VerOk version build)
  (hQ : ∀ t h' tk, Fr h₀ L h' m → News h₀ L h' news → Q (.str (normVer version build) t) {s with heap := h', toks := tk}) 
  : wpAny (model PySem.Challenge.rw_mq0053_01.row.prog w) A (call (.ref 29) pos) Q E s := by
  obtain ⟨oL, es, ep, hL, hLd, hLk, hLf⟩ := id F.ns
  have h0L : h₀.get? L = none := Heap.get?_none_of_le F.above
  have kp : ∀ b o, h₀.get? b = some o → (hideAll s.heap [L]).get? b = some o := fun b o e => hideAll_get _ (F.keep b o e) (fun hb => by rw [List.mem_singleton.mp hb, h0L] at e; cases e)
  refine wpAny_lowerF (normver_call (env := env) (oL := oL) (L := L) ⟨by rw [hk]; decide, hf, ⟨es, ep, hLd⟩, trivial⟩ hL (X.keeps kp) (T.keeps kp) (X.keeps F.keep) (T.keeps F.keep) hpos hok ?_) hh hdp hu hA
  intro t h' tk sl kb hL'
  refine hQ t h' tk ⟨⟨_, es, ep, hL', hLd, hLk, hLf⟩, fun b o e => kb b o (fun hb => by rw [hb, h0L] at e; cases e) (F.keep b o e), F.above⟩ fun p hp => ⟨kb _ _ (N p hp).2.1 (N p hp).1, (N p hp).2⟩
end Mine
end

section
namespace Mine
noncomputable def repC (n c : Nat) : Nat := if c = 126 then n else c
noncomputable def repS (n : Nat) (x : Str) : Str := ⟨(x.cps.toList.map (repC n)).toArray⟩
theorem repS_len (n : Nat) (x : Str) : (repS n x).length = x.length := by
  unfold repS Str.length
  simp
noncomputable def isMark (n : Nat) : Prop := n = 43 ∨ n = 45 ∨ n = 32 ∨ n = 95 ∨ n = 126 ∨ n = 57
theorem mark_of {n : Nat} (h : n ∈ (Str.ofString "+- _~9").cps.toList) : isMark n := by
  rw [show (Str.ofString "+- _~9").cps.toList = [43, 45, 32, 95, 126, 57] from by decide +kernel] at h
  simpa [isMark] using h
theorem mark_lt {n : Nat} (h : isMark n) : n < 127 := by unfold isMark at h; omega
theorem byte_pair {a b : Nat} : byteArr [(a : Int), (b : Int)] = #[a.toUInt8, b.toUInt8] := rfl
theorem toUInt8_nat {a : Nat} (h : a < 256) : (a.toUInt8.toNat : Int) = a := by
  have : a.toUInt8.toNat = a := by simp; omega
  rw [this]
theorem size_of {n k : Nat} (h : n ≤ k) (hk : k ≤ 16777216) : n ≤ sizeLine := by rw [sizeLine_eq]; exact Nat.le_trans h hk
theorem last_cast {k n : Nat} (h : 1 ≤ n) : (k : Int) = (n : Int) - 1 ↔ k = n - 1 := by omega
theorem range_one {n : Nat} (h : 1 ≤ n) : Builtin.Range.rangeSize 1 (n : Int) 1 = ((n - 1 : Nat) : Int) := by
  unfold Builtin.Range.rangeSize
  rw [if_pos (by decide)]
  split <;> omega
theorem small63 {k n : Nat} (h : k < n) (hn : n ≤ 6) : (k : Int) < 2 ^ 63 := by omega
theorem cast_small {n : Nat} (hn : n ≤ 6) : (n : Int) < 9223372036854775808 := by omega
theorem rep_sum {cells : List Str} {n : Nat} (hcl : cells.length ≤ 6) (hsum : (cells.map (·.length)).sum ≤ 40 * cells.length) : (cells.map (repS n)).length ≤ 6 ∧ ((cells.map (repS n)).map (·.length)).sum ≤ 240 := by
  have e : ((cells.map (repS n)).map (·.length)).sum = (cells.map (·.length)).sum := by
    rw [List.map_map]
    congr 1
    apply List.map_congr_left
    intro c _
    exact repS_len n c
  rw [e, List.length_map]
  omega
theorem take_cut {ps : List Str} (h : ps.length ≤ 6 ∧ (ps.map (·.length)).sum ≤ 240) (k : Nat) : (ps.take k).length ≤ 6 ∧ ((ps.take k).map (·.length)).sum ≤ 240 :=
  ⟨by rw [List.length_take]; omega, Nat.le_trans (sum_take_le _ _ _) h.2⟩
theorem drop_cut {ps : List Str} (h : ps.length ≤ 6 ∧ (ps.map (·.length)).sum ≤ 240) (k : Nat) : (ps.drop k).length ≤ 6 ∧ ((ps.drop k).map (·.length)).sum ≤ 240 :=
  ⟨by rw [List.length_drop]; omega, Nat.le_trans (sum_drop_le _ _ _) h.2⟩
theorem cut_fit {ps : List Str} (h : ps.length ≤ 6 ∧ (ps.map (·.length)).sum ≤ 240) : (Txt.join (Str.ofString ".") ps).length ≤ 300 ∧ (ps.map (·.length)).sum + ps.length * (Str.ofString ".").length ≤ 16777216 := by
  have h1 := join_le ps
  have h2 : (Str.ofString ".").length = 1 := rfl
  rw [h2]
  omega
theorem more_len (b : Str) : (moreOf b).length ≤ 1 := by unfold moreOf; split <;> simp
theorem more_sum {b : Str} (h : b.length ≤ 300) : ((moreOf b).map (·.length)).sum ≤ 300 := by unfold moreOf; split <;> simp; exact h
theorem both_sum {ps qs : List Str} (h : ps.length ≤ 6 ∧ (ps.map (·.length)).sum ≤ 240) (h1 : qs.length ≤ 1) (h2 : (qs.map (·.length)).sum ≤ 300) : (ps ++ qs).length ≤ 1000 ∧ ((ps ++ qs).map (·.length)).sum ≤ 100000 := by
  rw [List.length_append, List.map_append, List.sum_append]
  omega
theorem nums_len {ns : List (Option Int)} {k : Nat} {f : Str → Option Int} {b : List Str} (h : ns.length ≤ 6) (h1 : b.length ≤ 1) : (ns.take k ++ b.map f).length ≤ 1000 := by
  rw [List.length_append, List.length_take, List.length_map]
  omega
end Mine
end

section
namespace Mine

/-- a list cut at a sign -/
noncomputable def splitL (c : Nat) : List Nat → List (List Nat)
  | [] => [[]]
  | a :: r => if a = c then [] :: splitL c r else match splitL c r with
    | [] => [[a]]
    | p :: q => (a :: p) :: q
noncomputable def joinL (c : Nat) : List (List Nat) → List Nat
  | [] => []
  | [p] => p
  | p :: q :: r => p ++ c :: joinL c (q :: r)
theorem splitL_ne (c : Nat) : ∀ l, ∃ p q, splitL c l = p :: q
  | [] => ⟨_, _, rfl⟩
  | a :: r => by
    unfold splitL
    split
    · exact ⟨_, _, rfl⟩
    · split <;> exact ⟨_, _, rfl⟩
theorem splitL_free {c : Nat} : ∀ {p : List Nat}, c ∉ p → splitL c p = [p]
  | [], _ => rfl
  | a :: r, h => by
    have h1 : ¬ a = c := fun e => h (e ▸ List.mem_cons_self ..)
    have h2 := splitL_free (c := c) (p := r) fun m => h (List.mem_cons_of_mem _ m)
    unfold splitL
    rw [if_neg h1, h2]
theorem splitL_cat {c : Nat} : ∀ {p : List Nat}, c ∉ p → ∀ l, splitL c (p ++ c :: l) = p :: splitL c l
  | [], _, l => by
    show splitL c (c :: l) = _
    rw [splitL, if_pos rfl]
  | a :: r, h, l => by
    have h1 : ¬ a = c := fun e => h (e ▸ List.mem_cons_self ..)
    have h2 := splitL_cat (c := c) (p := r) (fun m => h (List.mem_cons_of_mem _ m)) l
    show splitL c (a :: (r ++ c :: l)) = _
    rw [splitL, if_neg h1, h2]
theorem splitL_joinL {c : Nat} : ∀ parts : List (List Nat), parts ≠ [] → (∀ p ∈ parts, c ∉ p) → splitL c (joinL c parts) = parts
  | [], h, _ => absurd rfl h
  | [p], _, hf => splitL_free (hf p (List.mem_cons_self ..))
  | p :: q :: r, _, hf => by
    show splitL c (p ++ c :: joinL c (q :: r)) = _
    rw [splitL_cat (hf p (List.mem_cons_self ..)), splitL_joinL (q :: r) (by simp) fun a ha => hf a (List.mem_cons_of_mem _ ha)]
theorem join_toList (c : Nat) : ∀ parts : List Str, (Str.join ⟨#[c]⟩ parts).cps.toList = joinL c (parts.map (·.cps.toList))
  | [] => rfl
  | [p] => rfl
  | p :: q :: r => by
    have ih := join_toList c (q :: r)
    show (p ++ ⟨#[c]⟩ ++ Str.join ⟨#[c]⟩ (q :: r)).cps.toList = p.cps.toList ++ c :: joinL c ((q :: r).map (·.cps.toList))
    rw [← ih]
    simp only [Str.cps_append, Array.toList_append, List.append_assoc]
    rfl
theorem str_ext {x y : Str} (h : x.cps.toList = y.cps.toList) : x = y := Str.ext' (Array.toList_inj.mp h)
theorem strs_ext : ∀ {a b : List Str}, a.map (·.cps.toList) = b.map (·.cps.toList) → a = b
  | [], [], _ => rfl
  | [], _ :: _, h => by simp at h
  | _ :: _, [], h => by simp at h
  | x :: a, y :: b, h => by
    simp only [List.map_cons, List.cons.injEq] at h
    rw [str_ext h.1, strs_ext h.2]
theorem split_toList (x : Str) (c : Nat) : (Txt.split x ⟨#[c]⟩).map (·.cps.toList) = splitL c x.cps.toList := by
  have h1 : (Str.join ⟨#[c]⟩ (Txt.split x ⟨#[c]⟩)).cps.toList = x.cps.toList := by rw [StrLaws.join_split]
  rw [join_toList] at h1
  rw [← h1, splitL_joinL]
  · have := split_pos x ⟨#[c]⟩
    intro e
    rw [List.map_eq_nil_iff] at e
    rw [e] at this
    exact absurd this (by decide)
  · intro p hp
    obtain ⟨y, hy, rfl⟩ := List.mem_map.mp hp
    exact StrLaws.split_free x c y hy
/-- a text that was glued from parts without the sign, cut again -/
theorem split_join {c : Nat} {parts : List Str} (hne : parts ≠ []) (hf : ∀ p ∈ parts, c ∉ p.cps.toList) : Txt.split (Str.join ⟨#[c]⟩ parts) ⟨#[c]⟩ = parts := by
  apply strs_ext
  rw [split_toList, join_toList, splitL_joinL]
  · intro e
    exact hne (List.map_eq_nil_iff.mp e)
  · intro p hp
    obtain ⟨y, hy, rfl⟩ := List.mem_map.mp hp
    exact hf y hy
theorem splitL_flat (c : Nat) : ∀ l, (splitL c l).flatten = l.filter (· != c)
  | [] => rfl
  | a :: r => by
    have ih := splitL_flat c r
    unfold splitL
    by_cases h : a = c
    · rw [if_pos h, List.filter_cons, if_neg (by simp [h]), ← ih]; rfl
    · rw [if_neg h, List.filter_cons, if_pos (by simp [h]), ← ih]
      split
      · next e => rw [e]; rfl
      · next p q e => rw [e]; rfl
theorem join_empty : ∀ parts : List Str, (Str.join (Str.ofString "") parts).cps.toList = (parts.map (·.cps.toList)).flatten
  | [] => rfl
  | [p] => by simp [Str.join]
  | p :: q :: r => by
    have ih := join_empty (q :: r)
    show (p ++ Str.ofString "" ++ Str.join (Str.ofString "") (q :: r)).cps.toList = _
    simp only [Str.cps_append, Array.toList_append, ih]
    rw [show (Str.ofString "").cps.toList = [] from rfl]
    simp
theorem glue {sep : Str} {parts : List Str} : Txt.join sep parts = Str.join sep parts := StrLaws.glued_eq_join _ _
theorem map_free {c n : Nat} {p : List Nat} (h : c ∉ p) : p.map (fun k => if k = c then n else k) = p := by
  induction p with
  | nil => rfl
  | cons a r ih =>
    have h1 : ¬ a = c := fun e => h (e ▸ List.mem_cons_self ..)
    rw [List.map_cons, if_neg h1, ih fun m => h (List.mem_cons_of_mem _ m)]
/-- another sign in a glued text's place -/
theorem map_joinL {c n : Nat} : ∀ parts : List (List Nat), (∀ p ∈ parts, c ∉ p) → (joinL c parts).map (fun k => if k = c then n else k) = joinL n parts
  | [], _ => rfl
  | [p], h => by
    show p.map _ = p
    exact map_free (h p (List.mem_cons_self ..))
  | p :: q :: r, h => by
    have hp := h p (List.mem_cons_self ..)
    have ih := map_joinL (c := c) (n := n) (q :: r) fun a ha => h a (List.mem_cons_of_mem _ ha)
    show (p ++ c :: joinL c (q :: r)).map _ = p ++ n :: joinL n (q :: r)
    rw [List.map_append, List.map_cons, ih, if_pos rfl, map_free hp]
theorem replace_rep (x : Str) (n : Nat) : Txt.replace x (Str.ofString "~") ⟨#[n]⟩ = repS n x := by
  show Txt.replace x ⟨#[126]⟩ ⟨#[n]⟩ = _
  apply str_ext
  rw [StrLaws.replace_one, join_toList]
  have h1 : (Str.join ⟨#[126]⟩ (Txt.split x ⟨#[126]⟩)).cps.toList = x.cps.toList := by rw [StrLaws.join_split]
  rw [join_toList] at h1
  show _ = x.cps.toList.map (repC n)
  rw [← h1]
  exact (map_joinL _ fun p hp => by
    obtain ⟨y, hy, rfl⟩ := List.mem_map.mp hp
    exact StrLaws.split_free x 126 y hy).symm
theorem join_singles (n : Nat) (page : Str) : Txt.join (Str.ofString "") (page.cps.toList.map (fun c => (⟨#[repC n c]⟩ : Str))) = repS n page := by
  rw [glue]
  apply str_ext
  rw [join_empty, List.map_map]
  show (page.cps.toList.map fun c => [repC n c]).flatten = page.cps.toList.map (repC n)
  generalize page.cps.toList = l
  induction l with
  | nil => rfl
  | cons a l ih => simp [ih]
/-- the law's text cut at its dots -/
theorem split_rep {n : Nat} (hn : n ≠ 46) {cells : List Str} (hne : cells ≠ []) (hf : ∀ x ∈ cells, 46 ∉ x.cps.toList) : Txt.split (repS n (Txt.join (Str.ofString ".") cells)) (Str.ofString ".") = cells.map (repS n) := by
  have hmap : ∀ parts : List (List Nat), (joinL 46 parts).map (repC n) = joinL 46 (parts.map fun p => p.map (repC n)) := by
    intro parts
    induction parts with
    | nil => rfl
    | cons p r ih =>
      cases r with
      | nil => rfl
      | cons q r =>
        show (p ++ 46 :: joinL 46 (q :: r)).map (repC n) = p.map (repC n) ++ 46 :: joinL 46 ((q :: r).map fun p => p.map (repC n))
        rw [List.map_append, List.map_cons, ih]
        rfl
  have e : repS n (Txt.join (Str.ofString ".") cells) = Str.join ⟨#[46]⟩ (cells.map (repS n)) := by
    rw [glue]
    apply str_ext
    rw [join_toList]
    show (Str.join ⟨#[46]⟩ cells).cps.toList.map (repC n) = _
    rw [join_toList, hmap]
    simp only [List.map_map]
    congr 1
  rw [e]
  show Txt.split _ ⟨#[46]⟩ = _
  refine split_join (by simpa using hne) fun p hp => ?_
  obtain ⟨x, hx, rfl⟩ := List.mem_map.mp hp
  show 46 ∉ x.cps.toList.map (repC n)
  intro hm
  obtain ⟨c, hc, ec⟩ := List.mem_map.mp hm
  unfold repC at ec
  split at ec
  · exact hn ec
  · exact hf x hx (ec ▸ hc)
end Mine
end

section
namespace Mine

noncomputable def okC (c : Nat) : Prop := (48 ≤ c ∧ c ≤ 57) ∨ c = 126 ∨ c = 99
noncomputable def OkS (x : Str) : Prop := ∀ c ∈ x.cps.toList, okC c
theorem ok_append {x y : Str} (hx : OkS x) (hy : OkS y) : OkS (x ++ y) := by
  intro c hc
  rw [Str.cps_append, Array.toList_append] at hc
  rcases List.mem_append.mp hc with hc | hc
  · exact hx c hc
  · exact hy c hc
theorem mul_chars {k : Nat} {n : Int} : ∀ c ∈ (Txt.mul ⟨#[k]⟩ n).cps.toList, c = k := by
  intro c hc
  unfold Txt.mul at hc
  split at hc
  · simp [Str.empty] at hc
  · split at hc
    · simpa using hc
    · have gen : ∀ (j : Nat) (acc : Array Nat), (∀ c ∈ acc.toList, c = k) → ∀ c ∈ ((List.replicate j (#[k] : Array Nat)).foldl (· ++ ·) acc).toList, c = k := by
        intro j
        induction j with
        | zero => intro acc h; exact h
        | succ j ih =>
          intro acc h
          rw [List.replicate_succ, List.foldl_cons]
          refine ih _ fun c hc => ?_
          rw [Array.toList_append] at hc
          rcases List.mem_append.mp hc with hc | hc
          · exact h c hc
          · simpa using hc
      exact gen _ #[] (by simp) c hc
theorem num_chars {n : Int} (h : 0 ≤ n) : ∀ c ∈ (Str.ofString (toString n)).cps.toList, 48 ≤ c ∧ c ≤ 57 := by
  obtain ⟨m, rfl⟩ := Int.eq_ofNat_of_zero_le h
  intro c hc
  rw [KIN.signs_num] at hc
  obtain ⟨ch, hch, e⟩ := List.mem_map.mp hc
  have r := digit_range (Nat.isDigit_of_mem_toDigits (by decide) (by decide) hch)
  rw [← e]
  exact r
theorem ok_lit {x : Str} (l : List Nat) (e : x.cps.toList = l) (h : ∀ c ∈ l, okC c) : OkS x := by
  intro c hc
  rw [e] at hc
  exact h c hc
theorem plain_digits (x : Int) : ∀ c ∈ (plainOf x).cps.toList, 48 ≤ c ∧ c ≤ 57 := by
  intro c hc
  unfold plainOf at hc
  rw [Str.cps_append, Array.toList_append] at hc
  rcases List.mem_append.mp hc with hc | hc
  · rw [show Str.ofString "0" = ⟨#[48]⟩ from rfl] at hc
    rw [mul_chars c hc]; decide
  · exact num_chars (Int.fmod_nonneg_of_pos _ (by decide)) c hc
theorem ok_plain (x : Int) : OkS (plainOf x) := fun c hc => .inl (plain_digits x c hc)
theorem ok_mul {n : Int} : OkS (Txt.mul (Str.ofString "~") n) := by
  intro c hc
  rw [show Str.ofString "~" = ⟨#[126]⟩ from rfl] at hc
  rw [mul_chars c hc]
  exact .inr (.inl rfl)
theorem ok_menu {p mk : Str} {way : Int} (hp : OkS p) (hm : OkS mk) : ∀ y ∈ menuG p mk way, OkS y := by
  have t1 : OkS (Str.ofString "~") := ok_lit [126] rfl (by intro c hc; simp at hc; unfold okC; omega)
  have t2 : OkS (Str.ofString "~~") := ok_lit [126, 126] rfl (by intro c hc; simp at hc; unfold okC; omega)
  have t3 : OkS (Str.ofString "1~") := ok_lit [49, 126] rfl (by intro c hc; simp at hc; unfold okC; omega)
  have t4 : OkS (Str.ofString "~0~") := ok_lit [126, 48, 126] rfl (by intro c hc; simp at hc; unfold okC; omega)
  have t5 : OkS (Str.ofString "1~~") := ok_lit [49, 126, 126] rfl (by intro c hc; simp at hc; unfold okC; omega)
  have t6 : OkS (Str.ofString "") := ok_lit [] rfl (by intro c hc; cases hc)
  have t7 : OkS (Str.ofString "c") := ok_lit [99] rfl (by intro c hc; simp at hc; unfold okC; omega)
  have hs : ∀ y ∈ shapesG p mk, OkS y := by
    intro y hy
    unfold shapesG insideG at hy
    simp only [List.mem_append, List.mem_cons, List.not_mem_nil, or_false] at hy
    rcases hy with ((rfl | rfl | rfl | rfl) | rfl | rfl) | rfl | rfl | rfl | rfl
    · exact hp
    · exact ok_append hm hp
    · exact ok_append hp t1
    · exact ok_append (ok_append t1 hp) t2
    · exact ok_append t3 hp
    · exact ok_append (ok_append hp t4) hp
    · exact ok_append t5 hp
    · exact t1
    · exact t6
    · exact ok_append hp t7
  intro y hy
  unfold menuG at hy
  split at hy
  · exact hs y (List.mem_of_mem_take hy)
  · split at hy
    · exact hs y (List.mem_of_mem_take hy)
    · split at hy
      · rcases List.mem_append.mp hy with hy | hy
        · exact hs y (List.mem_of_mem_take hy)
        · exact hs y (by unfold shapesG; simp [hy])
      · exact hs y hy
theorem ok_cell (way x : Int) : OkS (cellOf way x) := by
  unfold cellOf
  rw [List.getD_eq_getElem?_getD]
  cases e : (menuOf x way)[(x.fmod (menuOf x way).length).toNat]? with
  | none => intro c hc; simp [Str.empty] at hc
  | some y => exact ok_menu (ok_plain x) ok_mul y (List.mem_of_getElem? e)
theorem ok_head (ps : List Str) : OkS (headOf ps) := by
  unfold headOf
  refine ok_append ?_ (ok_lit [55] rfl (by intro c hc; simp at hc; unfold okC; omega))
  intro c hc
  rw [show Str.ofString "0" = ⟨#[48]⟩ from rfl] at hc
  rw [mul_chars c hc]
  exact .inl (by decide)
theorem cells_ok {way : Int} {xs : List Int} : ∀ y ∈ cellsOf way xs, OkS y := by
  intro y hy
  unfold cellsOf at hy
  rcases List.mem_cons.mp hy with rfl | hy
  · exact ok_head _
  · obtain ⟨x, _, rfl⟩ := List.mem_map.mp hy
    exact ok_cell way x
theorem ok_nodot {y : Str} (h : OkS y) : 46 ∉ y.cps.toList := fun hm => by
  have := h 46 hm
  unfold okC at this
  omega
/-- the writing's length is a whole number of fours -/
theorem page_fours (way : Int) (xs : List Int) : (Txt.join (Str.ofString ".") (cellsOf way xs)).length % 4 = 0 := by
  unfold cellsOf
  generalize partsOf way xs = ps
  rw [glue, len_join_cons]
  have h1 : (Txt.join (Str.ofString ".") ([Str.ofString "7"] ++ ps)).length = 1 + (ps.map (·.length)).sum + ps.length := by
    show (Txt.join (Str.ofString ".") (Str.ofString "7" :: ps)).length = _
    rw [glue, len_join_cons]
    simp only [List.map_cons, List.sum_cons]
    rw [show (Str.ofString "7").length = 1 from rfl, show (Str.ofString ".").length = 1 from rfl]
    omega
  have h2 : (headOf ps).length = ((-((Txt.join (Str.ofString ".") ([Str.ofString "7"] ++ ps)).length : Int)).fmod 4).toNat + 1 := by
    unfold headOf
    rw [cat_len]
    generalize ((Txt.join (Str.ofString ".") ([Str.ofString "7"] ++ ps)).length : Int) = n
    have hd4 : 0 ≤ (-n).fmod 4 ∧ (-n).fmod 4 < 4 := ⟨Int.fmod_nonneg_of_pos _ (by decide), Int.fmod_lt_of_pos _ (by decide)⟩
    have h9 := len_mul_k1 (x := Str.ofString "0") (n := (-n).fmod 4) rfl
    rw [if_neg (by omega)] at h9
    have : (Str.ofString "7").length = 1 := rfl
    omega
  simp only [List.map_cons, List.sum_cons]
  rw [h2, h1, show (Str.ofString ".").length = 1 from rfl]
  rw [Int.fmod_eq_emod_of_nonneg _ (by decide)]
  omega
theorem page_chars {cells : List Str} (h : ∀ y ∈ cells, OkS y) : ∀ c ∈ (Txt.join (Str.ofString ".") cells).cps.toList, okC c ∨ c = 46 := by
  rw [glue]
  show ∀ c ∈ (Str.join ⟨#[46]⟩ cells).cps.toList, _
  rw [join_toList]
  have gen : ∀ parts : List (List Nat), (∀ p ∈ parts, ∀ c ∈ p, okC c) → ∀ c ∈ joinL 46 parts, okC c ∨ c = 46 := by
    intro parts
    induction parts with
    | nil => intro _ c hc; cases hc
    | cons p r ih =>
      intro hp c hc
      cases r with
      | nil => exact .inl (hp p (List.mem_cons_self ..) c hc)
      | cons q r =>
        rcases List.mem_append.mp (show c ∈ p ++ 46 :: joinL 46 (q :: r) from hc) with hc | hc
        · exact .inl (hp p (List.mem_cons_self ..) c hc)
        · rcases List.mem_cons.mp hc with hc | hc
          · exact .inr hc
          · exact ih (fun a ha => hp a (List.mem_cons_of_mem _ ha)) c hc
  refine gen _ fun p hp => ?_
  obtain ⟨y, hy, rfl⟩ := List.mem_map.mp hp
  exact h y hy
noncomputable def lastOf (turned : Int) : Str := [Str.ofString ".~", Str.ofString "~."].getD turned.toNat Str.empty
theorem last_two {turned : Int} (h : 0 ≤ turned ∧ turned < 2) : (turned = 0 ∧ lastOf turned = Str.ofString ".~") ∨ (turned = 1 ∧ lastOf turned = Str.ofString "~.") := by
  have : turned = 0 ∨ turned = 1 := by omega
  rcases this with rfl | rfl
  · exact .inl ⟨rfl, rfl⟩
  · exact .inr ⟨rfl, rfl⟩
noncomputable def signList : List Nat := [48, 49, 50, 51, 52, 53, 54, 55, 56, 57, 99, 126, 46]
theorem sign_mem {c : Nat} (h : okC c ∨ c = 46) : c ∈ signList := by
  have tab : ∀ k, k < 10 → k + 48 ∈ signList := by decide
  rcases h with (⟨h1, h2⟩ | rfl | rfl) | rfl
  · have := tab (c - 48) (by omega)
    rwa [Nat.sub_add_cancel h1] at this
  · decide
  · decide
  · decide
theorem tab1 : ∀ c ∈ signList, Txt.contains (alpha ++ Str.ofString ".~") ⟨#[c]⟩ = true ∧ 0 ≤ sIdx (Str.ofString ".~") c ∧ sIdx (Str.ofString ".~") c < 64 ∧ b64At (sIdx (Str.ofString ".~") c) = if c = 46 then 43 else if c = 126 then 47 else (c : Int) := by decide +kernel
theorem tab2 : ∀ c ∈ signList, Txt.contains (alpha ++ Str.ofString "~.") ⟨#[c]⟩ = true ∧ 0 ≤ sIdx (Str.ofString "~.") c ∧ sIdx (Str.ofString "~.") c < 64 ∧ b64At (sIdx (Str.ofString "~.") c) = if c = 46 then 47 else if c = 126 then 43 else (c : Int) := by decide +kernel
/-- four signs, three octets, four signs -/
theorem enc_four {i0 i1 i2 i3 lc : Int} {outs : List Int} (h0 : 0 ≤ i0 ∧ i0 < 64) (h1 : 0 ≤ i1 ∧ i1 < 64) (h2 : 0 ≤ i2 ∧ i2 < 64) (h3 : 0 ≤ i3 ∧ i3 < 64) (hl : 0 ≤ lc ∧ lc < 65536) :
    ∃ lc', (0 ≤ lc' ∧ lc' < 65536) ∧ (grp3 (64 * (64 * (64 * (64 * 0 + i0) + i1) + i2) + i3)).foldl encStep (lc, 0, outs) = (lc', 0, outs ++ [b64At i0, b64At i1, b64At i2, b64At i3]) := by
  generalize hg : 64 * (64 * (64 * (64 * 0 + i0) + i1) + i2) + i3 = g
  have hg0 : 0 ≤ g ∧ g < 16777216 := by omega
  unfold grp3
  simp only [List.foldl_cons, List.foldl_nil]
  have e1 : encStep (lc, 0, outs) (g / 65536) = ((lc * 256 + g / 65536) % 65536, 2, outs ++ [b64At i0]) := by
    unfold encStep
    simp only [if_true]
    rw [show (lc * 256 + g / 65536) % 65536 / 4 % 64 = i0 by omega]
  rw [e1]
  generalize hl1 : (lc * 256 + g / 65536) % 65536 = l1
  have e2 : encStep (l1, 2, outs ++ [b64At i0]) (g / 256 % 256) = ((l1 * 256 + g / 256 % 256) % 65536, 4, outs ++ [b64At i0] ++ [b64At i1]) := by
    unfold encStep
    dsimp only
    rw [if_neg (by decide : ¬ (2 : Int) = 0), if_pos rfl]
    rw [show (l1 * 256 + g / 256 % 256) % 65536 / 16 % 64 = i1 by omega]
  rw [e2]
  generalize hl2 : (l1 * 256 + g / 256 % 256) % 65536 = l2
  have e3 : encStep (l2, 4, outs ++ [b64At i0] ++ [b64At i1]) (g % 256) = ((l2 * 256 + g % 256) % 65536, 0, outs ++ [b64At i0] ++ [b64At i1] ++ [b64At i2, b64At i3]) := by
    unfold encStep
    dsimp only
    rw [if_neg (by decide : ¬ (4 : Int) = 0), if_neg (by decide : ¬ (4 : Int) = 2)]
    rw [show (l2 * 256 + g % 256) % 65536 / 64 % 64 = i2 by omega, show (l2 * 256 + g % 256) % 65536 % 64 = i3 by omega]
  rw [e3]
  exact ⟨(l2 * 256 + g % 256) % 65536, ⟨by omega, by omega⟩, by simp⟩
theorem enc_up {last : Str} {cs : List Nat} (hin : ∀ c ∈ cs, 0 ≤ sIdx last c ∧ sIdx last c < 64) : ∀ k, 4 * k ≤ cs.length →
    ∃ lc, (0 ≤ lc ∧ lc < 65536) ∧ encSt (octUp last cs k) = (lc, 0, (cs.take (4 * k)).map fun c => b64At (sIdx last c))
  | 0, _ => ⟨0, by decide, by simp [encSt, octUp]⟩
  | k + 1, h => by
    obtain ⟨lc, hl, e⟩ := enc_up hin k (by omega)
    rw [octUp_succ]
    unfold encSt at e ⊢
    rw [List.foldl_append, e]
    have hlen : ((cs.drop (4 * k)).take 4).length = 4 := by rw [List.length_take, List.length_drop]; omega
    have hin4 : ∀ c ∈ (cs.drop (4 * k)).take 4, 0 ≤ sIdx last c ∧ sIdx last c < 64 := fun c hc => hin c (List.mem_of_mem_drop (List.mem_of_mem_take hc))
    have htk : cs.take (4 * (k + 1)) = cs.take (4 * k) ++ (cs.drop (4 * k)).take 4 := by
      rw [show 4 * (k + 1) = 4 * k + 4 by omega, List.take_add]
    rw [htk, List.map_append]
    generalize (cs.drop (4 * k)).take 4 = q at hlen hin4
    match q, hlen with
    | [c0, c1, c2, c3], _ =>
      obtain ⟨lc', hl', e'⟩ := enc_four (outs := (cs.take (4 * k)).map fun c => b64At (sIdx last c)) (hin4 c0 (by simp)) (hin4 c1 (by simp)) (hin4 c2 (by simp)) (hin4 c3 (by simp)) hl
      exact ⟨lc', hl', e'⟩
end Mine
end

section
namespace Mine
theorem page_in {turned : Int} {page : Str} (ht : 0 ≤ turned ∧ turned < 2) (hch : ∀ c ∈ page.cps.toList, okC c ∨ c = 46) :
    (lastOf turned).length = 2 ∧ ∀ c ∈ page.cps.toList, Txt.contains (alpha ++ lastOf turned) ⟨#[c]⟩ = true ∧ 0 ≤ sIdx (lastOf turned) c ∧ sIdx (lastOf turned) c < 64 := by
  rcases last_two ht with ⟨_, e⟩ | ⟨_, e⟩
  · rw [e]
    refine ⟨rfl, fun c hc => ?_⟩
    have h := tab1 c (sign_mem (hch c hc))
    exact ⟨h.1, h.2.1, h.2.2.1⟩
  · rw [e]
    refine ⟨rfl, fun c hc => ?_⟩
    have h := tab2 c (sign_mem (hch c hc))
    exact ⟨h.1, h.2.1, h.2.2.1⟩
theorem okC_small {c : Nat} (h : okC c) : c ≠ 43 ∧ c ≠ 47 := by unfold okC at h; omega
theorem show_law {turned : Int} {n p0 p1 : Nat} {page : Str} {data : Array UInt8} (ht : 0 ≤ turned ∧ turned < 2) (hpc : (turned = 0 ∧ p0 = 46 ∧ p1 = n) ∨ (turned = 1 ∧ p0 = n ∧ p1 = 46)) (hn : isMark n)
    (hch : ∀ c ∈ page.cps.toList, okC c ∨ c = 46) (h4 : page.length % 4 = 0) (hdata : KBw.bInts data = octUp (lastOf turned) page.cps.toList (page.length / 4)) :
    (encSt (KBw.bInts data)).2.1 = 0 ∧ (encSt (KBw.bInts data)).2.2.map (fun c => if c = 43 then (p0.toUInt8.toNat : Int) else if c = 47 then (p1.toUInt8.toNat : Int) else c) = page.cps.toList.map (fun c => (repC n c : Int)) := by
  have hlen : page.cps.toList.length = page.length := by unfold Str.length; simp
  have hin := (page_in ht hch).2
  obtain ⟨lc, _, e⟩ := enc_up (last := lastOf turned) (cs := page.cps.toList) (fun c hc => (hin c hc).2) (page.length / 4) (by omega)
  rw [hdata, e, show 4 * (page.length / 4) = page.cps.toList.length by omega, List.take_length]
  refine ⟨rfl, ?_⟩
  rw [List.map_map]
  apply List.map_congr_left
  intro c hc
  have hn2 := mark_lt hn
  have hcc := hch c hc
  have hm := sign_mem hcc
  have h8 : ∀ a : Nat, a < 127 → (a.toUInt8.toNat : Int) = a := fun a ha => toUInt8_nat (by omega)
  show (if b64At (sIdx (lastOf turned) c) = 43 then (p0.toUInt8.toNat : Int) else if b64At (sIdx (lastOf turned) c) = 47 then (p1.toUInt8.toNat : Int) else b64At (sIdx (lastOf turned) c)) = (repC n c : Int)
  have key : ∀ v : Int, v = 43 ∨ v = 47 ∨ (v = c ∧ c ≠ 126) → (v = 43 → p0 = repC n c) → (v = 47 → v ≠ 43 → p1 = repC n c) → p0 < 127 → p1 < 127 → (if v = 43 then (p0.toUInt8.toNat : Int) else if v = 47 then (p1.toUInt8.toNat : Int) else v) = (repC n c : Int) := by
    intro v h1 h2 h3 h5 h6
    by_cases q1 : v = 43
    · rw [if_pos q1, h8 _ h5, h2 q1]
    · rw [if_neg q1]
      by_cases q2 : v = 47
      · rw [if_pos q2, h8 _ h6, h3 q2 q1]
      · rw [if_neg q2]
        rcases h1 with h | h | ⟨h, h'⟩
        · exact absurd h q1
        · exact absurd h q2
        · rw [h]; unfold repC; rw [if_neg h']
  have r46 : repC n 46 = 46 := rfl
  have r126 : repC n 126 = n := rfl
  have hnz : c ≠ 46 → c ≠ 126 → (c : Int) ≠ 43 ∧ (c : Int) ≠ 47 := fun h1 h2 => by
    rcases hcc with h | h
    · have := okC_small h; omega
    · exact absurd h h1
  rcases hpc with ⟨rfl, rfl, rfl⟩ | ⟨rfl, rfl, rfl⟩
  · have h := (tab1 c hm).2.2.2
    rw [show lastOf 0 = Str.ofString ".~" from rfl]
    by_cases q1 : c = 46
    · subst q1
      rw [if_pos rfl] at h
      exact key _ (.inl h) (fun _ => rfl) (fun h' _ => by rw [h] at h'; cases h') (by decide) hn2
    · rw [if_neg q1] at h
      by_cases q2 : c = 126
      · subst q2
        rw [if_pos rfl] at h
        exact key _ (.inr (.inl h)) (fun h' => by rw [h] at h'; cases h') (fun _ _ => rfl) (by decide) hn2
      · rw [if_neg q2] at h
        have hz := hnz q1 q2
        exact key _ (.inr (.inr ⟨h, q2⟩)) (fun h' => absurd (h ▸ h') hz.1) (fun h' _ => absurd (h ▸ h') hz.2) (by decide) hn2
  · have h := (tab2 c hm).2.2.2
    rw [show lastOf 1 = Str.ofString "~." from rfl]
    by_cases q1 : c = 46
    · subst q1
      rw [if_pos rfl] at h
      exact key _ (.inr (.inl h)) (fun h' => by rw [h] at h'; cases h') (fun _ _ => rfl) hn2 (by decide)
    · rw [if_neg q1] at h
      by_cases q2 : c = 126
      · subst q2
        rw [if_pos rfl] at h
        exact key _ (.inl h) (fun _ => rfl) (fun h' _ => by rw [h] at h'; cases h') hn2 (by decide)
      · rw [if_neg q2] at h
        have hz := hnz q1 q2
        exact key _ (.inr (.inr ⟨h, q2⟩)) (fun h' => absurd (h ▸ h') hz.1) (fun h' _ => absurd (h ▸ h') hz.2) hn2 (by decide)
end Mine
end

section
open PySem.NumText
namespace Mine

noncomputable def dig (c : Nat) : Bool := decide (48 ≤ c) && decide (c ≤ 57)
theorem dig_iff {c : Nat} : dig c = true ↔ 48 ≤ c ∧ c ≤ 57 := by unfold dig; simp
/-- runs of figures with one sign between two of them; fl: a figure has just gone by -/
noncomputable def good (k : Nat) : Bool → List Nat → Bool
  | fl, [] => fl
  | fl, a :: r => if a = k then fl && good k false r else dig a && good k true r
theorem step_none {p : Array Nat × Bool} {c : Nat} (h1 : c ≠ 95) (h2 : dig c = false) : NumText.step 10 p c = none := by
  have h2' : ¬ (48 ≤ c ∧ c ≤ 57) := fun h => by rw [dig_iff.mpr h] at h2; cases h2
  unfold NumText.step
  rw [if_neg (by rw [beq_iff_eq]; exact h1)]
  unfold digit?
  rw [if_neg (by simp only [Bool.and_eq_true, decide_eq_true_eq]; exact h2')]
  split
  · next d hd =>
    split at hd
    · next hc => simp only [Bool.and_eq_true, decide_eq_true_eq] at hc; cases hd; rw [if_neg (by omega)]
    · split at hd
      · next hc => simp only [Bool.and_eq_true, decide_eq_true_eq] at hc; cases hd; rw [if_neg (by omega)]
      · cases hd
  · rfl
theorem fold_good : ∀ (s : List Nat) (ds : Array Nat) (fl : Bool), ((s.foldlM (NumText.step 10) (ds, fl)).bind fun p => if p.2 then some p.1 else none) =
    if good 95 fl s then some ((s.filter (· != 95)).foldl (fun acc c => acc.push (c - 48)) ds) else none
  | [], ds, fl => by cases fl <;> rfl
  | c :: s, ds, fl => by
    rw [List.foldlM_cons]
    unfold good
    by_cases h : c = 95
    · subst h
      rw [if_pos rfl]
      cases fl with
      | false =>
        show ((NumText.step 10 (ds, false) 95) >>= _).bind _ = _
        rw [show NumText.step 10 (ds, false) 95 = none from rfl]
        rfl
      | true =>
        rw [show NumText.step 10 (ds, true) 95 = some (ds, false) from rfl]
        show (s.foldlM (NumText.step 10) (ds, false)).bind _ = _
        rw [fold_good s ds false]
        simp
    · rw [if_neg h]
      cases hd : dig c with
      | true =>
        rw [step_digit (dig_iff.mp hd)]
        show (s.foldlM (NumText.step 10) (ds.push (c - 48), true)).bind _ = _
        have hf : (c :: s).filter (· != 95) = c :: s.filter (· != 95) := by simp [h]
        rw [fold_good s _ true, hf, Bool.true_and]
        rfl
      | false =>
        rw [step_none h hd]
        rfl
theorem digits_good (s : List Nat) : digits? 10 s = if good 95 false s then some ((s.filter (· != 95)).foldl (fun acc c => acc.push (c - 48)) #[]) else none := fold_good s #[] false
theorem numText_plain {x : Str} (h : ∀ c ∈ x.cps.toList, 0 < c ∧ c < 128) : numTextOf x = x.cps.toList ∧ numSeenOf x = x.cps.toList := by
  have e1 : numTextOf x = x.cps.toList := by
    refine if_pos ?_
    rw [← Array.all_toList, List.all_eq_true]
    intro c hc
    exact decide_eq_true (h c hc).2
  refine ⟨e1, ?_⟩
  show (numTextOf x).takeWhile _ = _
  rw [e1]
  refine NumText.takeWhile_all fun c hc => ?_
  have := h c hc
  exact bne_iff_ne.mpr (by omega)
noncomputable def valOf (neg : Bool) (s : List Nat) : Int := if neg then -((digitsVal s : Nat) : Int) else ((digitsVal s : Nat) : Int)
theorem int_side {x : Str} (h : ∀ c ∈ x.cps.toList, 0 < c ∧ c < 128) (hl : x.length ≤ 4300) :
    PySem.intText? x = if good 95 false (core x.cps.toList) then some (valOf (sign (x.cps.toList.dropWhile blank)).1 ((core x.cps.toList).filter (· != 95))) else none := by
  obtain ⟨e1, e2⟩ := numText_plain h
  have hlen : x.cps.toList.length = x.length := Array.length_toList
  unfold PySem.intText?
  rw [e1, e2, if_pos (beq_self_eq_true _), digits_good]
  cases hg : good 95 false (core x.cps.toList) with
  | false => rfl
  | true =>
    have h1 := push_size ((core x.cps.toList).filter (· != 95)) #[]
    have h2 := core_length x.cps.toList
    have h3 := List.length_filter_le (· != 95) (core x.cps.toList)
    have h4 := push_foldl ((core x.cps.toList).filter (· != 95)) #[]
    rw [if_pos rfl, if_pos rfl]
    dsimp only
    rw [if_pos (by rw [h1]; simp only [Array.size_empty]; omega)]
    unfold worth valOf
    rw [h4]
    rfl

theorem good_free {k : Nat} : ∀ {s : List Nat} {fl : Bool}, k ∉ s → good k fl s = ((fl || !s.isEmpty) && s.all dig)
  | [], fl, _ => by simp [good]
  | a :: r, fl, h => by
    have h1 : ¬ a = k := fun e => h (e ▸ List.mem_cons_self ..)
    have h2 := good_free (k := k) (s := r) (fl := true) fun m => h (List.mem_cons_of_mem _ m)
    unfold good
    rw [if_neg h1, h2]
    simp
theorem good_end {k : Nat} : ∀ (s : List Nat) (fl : Bool), good k fl (s ++ [k]) = false
  | [], fl => by simp [good]
  | a :: r, fl => by
    show good k fl (a :: (r ++ [k])) = false
    unfold good
    split
    · rw [good_end r]; simp
    · rw [good_end r]; simp
theorem good_start {k : Nat} (s : List Nat) : good k false (k :: s) = false := by
  unfold good
  rw [if_pos rfl]; rfl
theorem good_map {n : Nat} (hn : dig n = false) : ∀ (s : List Nat) (fl : Bool), n ∉ s → good n fl (s.map (repC n)) = good 126 fl s
  | [], _, _ => rfl
  | a :: r, fl, h => by
    have h1 : ¬ a = n := fun e => h (e ▸ List.mem_cons_self ..)
    have h2 := fun fl => good_map hn r fl fun m => h (List.mem_cons_of_mem _ m)
    show good n fl (repC n a :: r.map (repC n)) = good 126 fl (a :: r)
    rw [good, good]
    by_cases q : a = 126
    · have e : repC n a = n := by unfold repC; rw [if_pos q]
      rw [e, if_pos rfl, if_pos q, h2]
    · have e : repC n a = a := by unfold repC; rw [if_neg q]
      rw [e, if_neg h1, if_neg q, h2]
theorem split_good {k : Nat} : ∀ (s : List Nat) (fl : Bool), good k fl s = true ↔ (∀ p ∈ (if fl then (splitL k s).tail else splitL k s), p ≠ []) ∧ ∀ c ∈ s, c ≠ k → dig c = true
  | [], fl => by cases fl <;> simp [good, splitL]
  | a :: r, fl => by
    unfold good
    by_cases h : a = k
    · rw [if_pos h]
      have ih := split_good (k := k) r false
      rw [Bool.and_eq_true, ih]
      rw [splitL, if_pos h]
      cases fl with
      | false => simp
      | true =>
        simp only [if_true, List.tail_cons, true_and]
        constructor
        · rintro ⟨h1, h2⟩
          exact ⟨h1, fun c hc hck => by
            rcases List.mem_cons.mp hc with rfl | hc
            · exact absurd h hck
            · exact h2 c hc hck⟩
        · rintro ⟨h1, h2⟩
          exact ⟨h1, fun c hc hck => h2 c (List.mem_cons_of_mem _ hc) hck⟩
    · rw [if_neg h]
      have ih := split_good (k := k) r true
      rw [Bool.and_eq_true, ih]
      obtain ⟨p, q, e⟩ := splitL_ne k r
      rw [splitL, if_neg h, e]
      simp only [if_true, List.tail_cons]
      constructor
      · rintro ⟨h0, h1, h2⟩
        refine ⟨fun z hz => ?_, fun c hc hck => ?_⟩
        · cases fl with
          | true => exact h1 z hz
          | false =>
            rcases List.mem_cons.mp hz with rfl | hz
            · simp
            · exact h1 z hz
        · rcases List.mem_cons.mp hc with rfl | hc
          · exact h0
          · exact h2 c hc hck
      · rintro ⟨h1, h2⟩
        refine ⟨h2 a (List.mem_cons_self ..) h, fun z hz => ?_, fun c hc hck => h2 c (List.mem_cons_of_mem _ hc) hck⟩
        refine h1 z ?_
        cases fl with
        | true => exact hz
        | false => exact List.mem_cons_of_mem _ hz
end Mine
end

section
open PySem.NumText
namespace Mine
open PySem.Builtin.Str in
theorem drop_takeWhile {p : Nat → Bool} : ∀ l : List Nat, l.drop (l.takeWhile p).length = l.dropWhile p
  | [] => rfl
  | a :: r => by
    rw [List.takeWhile_cons, List.dropWhile_cons]
    by_cases h : p a = true
    · rw [if_pos h, if_pos h]
      exact drop_takeWhile r
    · rw [if_neg h, if_neg h]; rfl
theorem take_rev {p : Nat → Bool} (m : List Nat) : m.take (m.length - (m.reverse.takeWhile p).length) = (m.reverse.dropWhile p).reverse := by
  have h := List.takeWhile_append_dropWhile (p := p) (l := m.reverse)
  have h1 : m = (m.reverse.dropWhile p).reverse ++ (m.reverse.takeWhile p).reverse := by
    rw [← List.reverse_append, h, List.reverse_reverse]
  have h2 : m.length = ((m.reverse.dropWhile p).reverse).length + (m.reverse.takeWhile p).length := by
    conv => lhs; rw [h1]
    simp
  rw [show m.length - (m.reverse.takeWhile p).length = ((m.reverse.dropWhile p).reverse).length by omega]
  generalize (m.reverse.dropWhile p).reverse = u at h1 h2 ⊢
  rw [h1]
  exact List.take_left' rfl
theorem goes_tilde : (Str.ofString "~").cps.contains = fun c : Nat => c == 126 := by
  funext c
  show (#[126] : Array Nat).contains c = (c == 126)
  rw [Bool.eq_iff_iff]
  simp
noncomputable def lst (l : List Nat) : List Nat := l.dropWhile (· == 126)
noncomputable def rst (l : List Nat) : List Nat := (l.reverse.dropWhile (· == 126)).reverse
open PySem.Builtin.Str in
theorem lstrip_toList (x : Str) : (Txt.lstripChars x (Str.ofString "~")).cps.toList = lst x.cps.toList := by
  unfold Txt.lstripChars
  rw [goes_tilde, PyProof.Rows.stripBy_eq, StrLaws.strSub_toList]
  simp only [stripLo, stripHi, if_true, Bool.false_eq_true, if_false]
  rw [drop_takeWhile]
  refine List.take_of_length_le ?_
  have h2 : x.cps.toList.length = x.length := by unfold Str.length; simp
  rw [← drop_takeWhile, List.length_drop]
  omega
open PySem.Builtin.Str in
theorem rstrip_toList (x : Str) : (Txt.rstripChars x (Str.ofString "~")).cps.toList = rst x.cps.toList := by
  unfold Txt.rstripChars
  rw [goes_tilde, PyProof.Rows.stripBy_eq, StrLaws.strSub_toList]
  simp only [stripLo, stripHi, if_true, Bool.false_eq_true, if_false, List.drop_zero, Nat.sub_zero]
  have h2 : x.length = x.cps.toList.length := by unfold Str.length; simp
  rw [h2]
  exact take_rev _
open PySem.Builtin.Str in
theorem strip_toList (x : Str) : (Txt.stripChars x (Str.ofString "~")).cps.toList = rst (lst x.cps.toList) := by
  unfold Txt.stripChars
  rw [goes_tilde, PyProof.Rows.stripBy_eq, StrLaws.strSub_toList]
  simp only [stripLo, stripHi, if_true]
  have h2 : x.length = x.cps.toList.length := by unfold Str.length; simp
  rw [drop_takeWhile]
  have h3 : (x.cps.toList.dropWhile (· == 126)).length = x.cps.toList.length - (x.cps.toList.takeWhile (· == 126)).length := by rw [← drop_takeWhile, List.length_drop]
  rw [h2, show x.cps.toList.length - ((x.cps.toList.dropWhile (· == 126)).reverse.takeWhile (· == 126)).length - (x.cps.toList.takeWhile (· == 126)).length = (x.cps.toList.dropWhile (· == 126)).length - ((x.cps.toList.dropWhile (· == 126)).reverse.takeWhile (· == 126)).length by omega]
  exact take_rev _
theorem drop_rep {p : Nat → Bool} {k : Nat} (hk : p k = true) (l : List Nat) : ∀ a, (List.replicate a k ++ l).dropWhile p = l.dropWhile p
  | 0 => rfl
  | a + 1 => by
    show (k :: (List.replicate a k ++ l)).dropWhile p = _
    rw [List.dropWhile_cons, if_pos hk, drop_rep hk l a]
theorem drop_no {p : Nat → Bool} {k : Nat} (hk : p k = false) (l : List Nat) : (k :: l).dropWhile p = k :: l := by
  rw [List.dropWhile_cons, hk]; rfl
/-- what is within the marks at the ends -/
structure Core (m : List Nat) : Prop where
  head : ∃ x r, m = x :: r ∧ x ≠ 126
  last : ∃ y r, m.reverse = y :: r ∧ y ≠ 126
theorem decomp (l : List Nat) : (∃ a, l = List.replicate a 126) ∨ ∃ a m b, l = List.replicate a 126 ++ m ++ List.replicate b 126 ∧ Core m := by
  have key : ∀ l : List Nat, (∃ a, l = List.replicate a 126) ∨ ∃ a x r, l = List.replicate a 126 ++ x :: r ∧ x ≠ 126 := by
    intro l
    induction l with
    | nil => exact .inl ⟨0, rfl⟩
    | cons c l ih =>
      by_cases h : c = 126
      · subst h
        rcases ih with ⟨a, rfl⟩ | ⟨a, x, r, rfl, hx⟩
        · exact .inl ⟨a + 1, rfl⟩
        · exact .inr ⟨a + 1, x, r, rfl, hx⟩
      · exact .inr ⟨0, c, l, rfl, h⟩
  rcases key l with h | ⟨a, x, r, rfl, hx⟩
  · exact .inl h
  · right
    rcases key (x :: r).reverse with ⟨b, hb⟩ | ⟨b, y, s, hs, hy⟩
    · exfalso
      have : x ∈ List.replicate b 126 := by rw [← hb]; simp
      exact hx (List.eq_of_mem_replicate this)
    · have e : x :: r = (y :: s).reverse ++ List.replicate b 126 := by
        have := congrArg List.reverse hs
        rw [List.reverse_reverse, List.reverse_append, List.reverse_replicate] at this
        exact this
      refine ⟨a, (y :: s).reverse, b, by rw [e, List.append_assoc], ⟨?_, ⟨y, s, by simp, hy⟩⟩⟩
      cases q : (y :: s).reverse with
      | nil => simp at q
      | cons z t =>
        rw [q] at e
        have := (List.cons.inj e).1
        exact ⟨z, t, rfl, this ▸ hx⟩
section
variable {m : List Nat} {a b : Nat}
theorem lst_core (h : Core m) : lst (List.replicate a 126 ++ m ++ List.replicate b 126) = m ++ List.replicate b 126 := by
  obtain ⟨x, r, rfl, hx⟩ := h.head
  unfold lst
  rw [List.append_assoc, drop_rep (by rfl)]
  exact drop_no (by simpa using hx) _
theorem rst_core (h : Core m) (pre : List Nat) : rst (pre ++ m ++ List.replicate b 126) = pre ++ m := by
  obtain ⟨y, r, e, hy⟩ := h.last
  have em : m = (y :: r).reverse := by rw [← e, List.reverse_reverse]
  unfold rst
  rw [List.reverse_append, List.reverse_replicate, drop_rep (by rfl), List.reverse_append, e]
  show (List.dropWhile _ (y :: (r ++ pre.reverse))).reverse = _
  rw [drop_no (by simpa using hy), em]
  simp
theorem strip_core (h : Core m) : rst (lst (List.replicate a 126 ++ m ++ List.replicate b 126)) = m := by
  rw [lst_core h]
  exact rst_core h []
end
theorem lst_all (a : Nat) : lst (List.replicate a 126) = [] := by
  have := drop_rep (p := (· == 126)) (k := 126) rfl [] a
  rw [List.append_nil] at this
  exact this
end Mine
end

section
open PySem.NumText
namespace Mine
theorem runs_toList (told : Str) : (runsOf told).map (·.cps.toList) = splitL 126 (rst (lst told.cps.toList)) := by
  unfold runsOf
  rw [← strip_toList]
  exact split_toList _ 126
theorem joinOf_toList (told : Str) : (joinOf told).cps.toList = (rst (lst told.cps.toList)).filter (· != 126) := by
  unfold joinOf
  rw [glue, join_empty, runs_toList, splitL_flat]
theorem runs_any (told : Str) : (runsOf told).any (· == Str.ofString "") = true ↔ [] ∈ splitL 126 (rst (lst told.cps.toList)) := by
  rw [← runs_toList, List.any_eq_true]
  constructor
  · rintro ⟨x, hx, e⟩
    have := eq_of_beq e
    subst this
    exact List.mem_map.mpr ⟨_, hx, rfl⟩
  · intro h
    obtain ⟨x, hx, e⟩ := List.mem_map.mp h
    refine ⟨x, hx, ?_⟩
    have : x = Str.ofString "" := str_ext e
    rw [this]
    exact beq_self_eq_true _
theorem contains_lit {x : Str} {l : List Nat} (e : x.cps.toList = l) (c : Nat) : Txt.contains x ⟨#[c]⟩ = decide (c ∈ l) := by
  subst e
  exact StrLaws.found_one x c
theorem dig_mem {c : Nat} : c ∈ [48, 49, 50, 51, 52, 53, 54, 55, 56, 57] ↔ dig c = true := by
  have tab : ∀ k, k < 10 → k + 48 ∈ [48, 49, 50, 51, 52, 53, 54, 55, 56, 57] := by decide
  have tab2 : ∀ c ∈ [48, 49, 50, 51, 52, 53, 54, 55, 56, 57], dig c = true := by decide
  refine ⟨tab2 c, fun h => ?_⟩
  obtain ⟨h1, h2⟩ := dig_iff.mp h
  have := tab (c - 48) (by omega)
  rwa [Nat.sub_add_cancel h1] at this
theorem bad_dig (c : Nat) : badSign c = !dig c := by
  unfold badSign
  rw [contains_lit (x := Str.ofString "0123456789") (l := [48, 49, 50, 51, 52, 53, 54, 55, 56, 57]) (by decide +kernel)]
  congr 1
  rw [Bool.eq_iff_iff, decide_eq_true_eq]
  exact dig_mem
theorem fold_val : ∀ (s : List Nat), s.all dig = true → numFold s = ((digitsVal s : Nat) : Int) := by
  have tab : ∀ c ∈ [48, 49, 50, 51, 52, 53, 54, 55, 56, 57], Txt.find (Str.ofString "0123456789") ⟨#[c]⟩ = ((c - 48 : Nat) : Int) := by decide +kernel
  have gen : ∀ (s : List Nat) (a : Nat), s.all dig = true → s.foldl (fun a c => 10 * a + Txt.find (Str.ofString "0123456789") ⟨#[c]⟩) (a : Int) = ((s.foldl (fun acc c => acc * 10 + (c - 48)) a : Nat) : Int) := by
    intro s
    induction s with
    | nil => intro a _; rfl
    | cons c s ih =>
      intro a h
      rw [List.all_cons, Bool.and_eq_true] at h
      have hc := dig_iff.mp h.1
      have ht := tab c (dig_mem.mpr h.1)
      rw [List.foldl_cons, List.foldl_cons, ht]
      have := ih (a * 10 + (c - 48)) h.2
      rw [← this]
      congr 1
      omega
  intro s h
  exact gen s 0 h
theorem long_runs {c : Nat} : ∀ l : List Nat, 1 < (splitL c l).length ↔ c ∈ l
  | [] => by simp [splitL]
  | a :: r => by
    have ih := long_runs (c := c) r
    obtain ⟨p, q, e⟩ := splitL_ne c r
    rw [splitL]
    by_cases h : a = c
    · rw [if_pos h, e]
      simp [h]
    · rw [if_neg h, e]
      rw [e] at ih
      have h' : ¬ c = a := fun q => h q.symm
      simp only [List.length_cons, List.mem_cons, h', false_or] at ih ⊢
      exact ih
theorem mark_in {n : Nat} {x : Str} {l : List Nat} (e : x.cps.toList = l) : Txt.contains x ⟨#[n]⟩ = decide (n ∈ l) := contains_lit e n
theorem mark_eq {n k : Nat} : ((⟨#[n]⟩ : Str) == ⟨#[k]⟩) = decide (n = k) := by
  rw [Bool.eq_iff_iff, beq_iff_eq, decide_eq_true_eq]
  constructor
  · intro h
    have := congrArg (fun s : Str => s.cps.toList) h
    simpa using this
  · rintro rfl; rfl
theorem numRest_all {told : Str} {a n : Nat} (h : told.cps.toList = List.replicate a 126) : numRest told ⟨#[n]⟩ = none := by
  unfold numRest
  rw [if_pos]
  rw [runs_any, h, lst_all]
  exact List.mem_singleton.mpr rfl
theorem numRest_core {told : Str} {m : List Nat} {a b n : Nat} (h : told.cps.toList = List.replicate a 126 ++ m ++ List.replicate b 126) (hm : Core m) :
    numRest told ⟨#[n]⟩ = if good 126 false m = true then (if (n = 43 ∨ n = 45) ∧ (1 < a ∨ 0 < b) then none else if (n = 95 ∨ n = 126) ∧ 0 < a + b then none else if n ≠ 95 ∧ 126 ∈ m then none else some (valOf (decide (n = 45 ∧ a = 1)) (m.filter (· != 126)))) else none := by
  have hs : rst (lst told.cps.toList) = m := by rw [h]; exact strip_core hm
  have hlen : told.length = a + m.length + b := by
    have : told.cps.toList.length = told.length := by unfold Str.length; simp
    rw [← this, h]; simp; omega
  have ha : aheadOf told = (a : Int) := by
    unfold aheadOf
    have h1 : (Txt.lstripChars told (Str.ofString "~")).length = m.length + b := by
      have e : (Txt.lstripChars told (Str.ofString "~")).cps.toList.length = (Txt.lstripChars told (Str.ofString "~")).length := by unfold Str.length; simp
      rw [← e, lstrip_toList, h, lst_core hm]; simp
    rw [h1, hlen]; omega
  have hb : behindOf told = (b : Int) := by
    unfold behindOf
    have h1 : (Txt.rstripChars told (Str.ofString "~")).length = a + m.length := by
      have e : (Txt.rstripChars told (Str.ofString "~")).cps.toList.length = (Txt.rstripChars told (Str.ofString "~")).length := by unfold Str.length; simp
      rw [← e, rstrip_toList, h, rst_core hm]; simp
    rw [h1, hlen]; omega
  have hj := joinOf_toList told
  rw [hs] at hj
  have hr := runs_any told
  rw [hs] at hr
  have hrl : decide ((runsOf told).length > 1) = decide (126 ∈ m) := by
    have e := congrArg List.length (runs_toList told)
    rw [hs, List.length_map] at e
    rw [e]
    rw [Bool.eq_iff_iff, decide_eq_true_eq, decide_eq_true_eq]
    exact long_runs m
  have hgood : good 126 false m = true ↔ ¬ [] ∈ splitL 126 m ∧ (joinOf told).cps.toList.filter badSign = [] := by
    rw [split_good, hj]
    simp only [Bool.false_eq_true, if_false]
    refine and_congr ?_ ?_
    · exact ⟨fun h1 h2 => h1 _ h2 rfl, fun h1 p hp e => h1 (e ▸ hp)⟩
    · rw [List.filter_eq_nil_iff]
      constructor
      · intro h1 c hc
        rw [List.mem_filter] at hc
        rw [bad_dig, h1 c hc.1 (by simpa using hc.2)]
        decide
      · intro h1 c hc hne
        have := h1 c (List.mem_filter.mpr ⟨hc, by simpa using hne⟩)
        rw [bad_dig] at this
        simpa using this
  unfold numRest
  by_cases hg : good 126 false m = true
  · obtain ⟨g1, g2⟩ := hgood.mp hg
    rw [if_pos hg]
    rw [if_neg (fun e => g1 (hr.mp e)), if_neg (by rw [g2]; simp)]
    rw [hrl, ha, hb]
    have hall : ((joinOf told).cps.toList).all dig = true := by
      rw [List.all_eq_true]
      intro c hc
      have := List.filter_eq_nil_iff.mp g2 c hc
      rw [bad_dig] at this
      simpa using this
    rw [fold_val _ hall, hj]
    rw [mark_in (x := Str.ofString "+-") (l := [43, 45]) rfl, mark_in (x := Str.ofString "_~") (l := [95, 126]) rfl]
    rw [show Str.ofString "-" = ⟨#[45]⟩ from rfl, show Str.ofString "_" = ⟨#[95]⟩ from rfl, mark_eq]
    rw [show ((⟨#[n]⟩ : Str) != ⟨#[95]⟩) = !decide (n = 95) by rw [← mark_eq]; rfl]
    have c1 : (decide (n ∈ [43, 45]) && (decide ((a : Int) > 1) || decide ((b : Int) > 0))) = true ↔ (n = 43 ∨ n = 45) ∧ (1 < a ∨ 0 < b) := by
      simp only [Bool.and_eq_true, Bool.or_eq_true, decide_eq_true_eq, List.mem_cons, List.not_mem_nil, or_false]
      omega
    have c2 : (decide (n ∈ [95, 126]) && decide ((a : Int) + (b : Int) > 0)) = true ↔ (n = 95 ∨ n = 126) ∧ 0 < a + b := by
      simp only [Bool.and_eq_true, decide_eq_true_eq, List.mem_cons, List.not_mem_nil, or_false]
      omega
    have c3 : ((!decide (n = 95)) && decide (126 ∈ m)) = true ↔ n ≠ 95 ∧ 126 ∈ m := by
      simp
    have c4 : (decide (n = 45) && ((a : Int) == 1)) = decide (n = 45 ∧ a = 1) := by
      rw [Bool.eq_iff_iff, Bool.and_eq_true, decide_eq_true_eq, decide_eq_true_eq, beq_iff_eq]
      omega
    rw [c4]
    simp only [c1, c2, c3]
    rfl
  · rw [if_neg hg]
    by_cases q1 : (runsOf told).any (· == Str.ofString "") = true
    · rw [if_pos q1]
    · rw [if_neg q1, if_pos]
      intro e
      exact hg (hgood.mpr ⟨fun hm => q1 (hr.mpr hm), e⟩)
end Mine
end

section
open PySem.NumText
namespace Mine
theorem drop_nb {s : List Nat} (h : ∀ c ∈ s, 33 ≤ c) : s.dropWhile blank = s := by
  cases s with
  | nil => rfl
  | cons c r => exact dropWhile_of (h c (List.mem_cons_self ..))
theorem sign_mem2 {t : List Nat} {c : Nat} (h : c ∈ (sign t).2) : c ∈ t := by
  unfold sign at h
  split at h
  · exact List.mem_cons_of_mem _ h
  · exact List.mem_cons_of_mem _ h
  · exact h
theorem core_nb {t : List Nat} (h : ∀ c ∈ t, 33 ≤ c) : core t = (sign t).2 ∧ t.dropWhile blank = t := by
  have e := drop_nb h
  refine ⟨?_, e⟩
  unfold core
  rw [e, drop_nb fun c hc => h c (sign_mem2 (List.mem_reverse.mp hc)), List.reverse_reverse]
theorem rep_id {n : Nat} {s : List Nat} (h : 126 ∉ s) : s.map (repC n) = s := by
  unfold repC
  exact map_free h
theorem all_rep {n : Nat} (hn : dig n = false) : ∀ s : List Nat, (s.map (repC n)).all dig = s.all dig
  | [] => rfl
  | c :: s => by
    rw [List.map_cons, List.all_cons, List.all_cons, all_rep hn s]
    by_cases h : c = 126
    · have e : repC n c = n := by unfold repC; rw [if_pos h]
      rw [e, hn, h]; rfl
    · have e : repC n c = c := by unfold repC; rw [if_neg h]
      rw [e]
theorem dig_no {s : List Nat} {k : Nat} (hk : dig k = false) (h : s.all dig = true) : k ∉ s := fun hm => by
  have := List.all_eq_true.mp h k hm
  rw [hk] at this; cases this
theorem filter_id {s : List Nat} {k : Nat} (h : k ∉ s) : s.filter (· != k) = s := by
  rw [List.filter_eq_self]
  intro c hc
  simp only [bne_iff_ne, ne_eq]
  exact fun e => h (e ▸ hc)
theorem all_repl {k : Nat} (hk : dig k = false) : ∀ a, (List.replicate a k).all dig = decide (a = 0)
  | 0 => rfl
  | a + 1 => by
    rw [List.replicate_succ, List.all_cons, hk]; rfl
theorem filter_map_rep {n : Nat} : ∀ {s : List Nat}, n ∉ s → (s.map (repC n)).filter (· != n) = s.filter (· != 126)
  | [], _ => rfl
  | c :: s, h => by
    have h1 : ¬ c = n := fun e => h (e ▸ List.mem_cons_self ..)
    have ih := filter_map_rep (n := n) (s := s) fun m => h (List.mem_cons_of_mem _ m)
    rw [List.map_cons, List.filter_cons, List.filter_cons, ih]
    by_cases q : c = 126
    · have e : repC n c = n := by unfold repC; rw [if_pos q]
      rw [e, if_neg (by simp), if_neg (by simp [q])]
    · have e : repC n c = c := by unfold repC; rw [if_neg q]
      rw [e, if_pos (by simpa using h1), if_pos (by simpa using q)]
/-- the law's number of a part whose marks are no underscores -/
theorem numRest_plain {told : Str} {m : List Nat} {a b n : Nat} (h : told.cps.toList = List.replicate a 126 ++ m ++ List.replicate b 126) (hm : Core m) (hn : n ≠ 95) :
    numRest told ⟨#[n]⟩ = if m.all dig = true ∧ ((n = 43 ∨ n = 45) → a ≤ 1 ∧ b = 0) ∧ (n = 126 → a = 0 ∧ b = 0) then some (valOf (decide (n = 45 ∧ a = 1)) m) else none := by
  rw [numRest_core h hm]
  obtain ⟨x, r, em, _⟩ := hm.head
  by_cases q : 126 ∈ m
  · have hd : ¬ m.all dig = true := fun e => dig_no (k := 126) rfl e q
    have hrhs : ¬ (m.all dig = true ∧ ((n = 43 ∨ n = 45) → a ≤ 1 ∧ b = 0) ∧ (n = 126 → a = 0 ∧ b = 0)) := fun e => hd e.1
    rw [if_neg hrhs]
    split
    · split
      · rfl
      · split
        · rfl
        · rw [if_pos ⟨hn, q⟩]
    · rfl
  · rw [good_free q, filter_id q]
    have hne : m.isEmpty = false := by rw [em]; rfl
    rw [hne]
    simp only [Bool.false_or, Bool.not_false, Bool.true_and]
    by_cases hd : m.all dig = true
    · rw [if_pos hd]
      by_cases q1 : (n = 43 ∨ n = 45) ∧ (1 < a ∨ 0 < b)
      · rw [if_pos q1, if_neg]
        rintro ⟨_, h2, _⟩
        have := h2 q1.1
        omega
      · rw [if_neg q1]
        by_cases q2 : (n = 95 ∨ n = 126) ∧ 0 < a + b
        · rw [if_pos q2, if_neg]
          rintro ⟨_, _, h3⟩
          have := h3 (by rcases q2.1 with h | h <;> omega)
          omega
        · rw [if_neg q2, if_neg (fun e => q e.2), if_pos]
          refine ⟨hd, fun h => ?_, fun h => ?_⟩
          · have : ¬ (1 < a ∨ 0 < b) := fun h' => q1 ⟨h, h'⟩
            omega
          · have : ¬ 0 < a + b := fun h' => q2 ⟨.inr h, h'⟩
            omega
    · rw [if_neg hd, if_neg (fun e => hd e.1)]
theorem okC_ge {c : Nat} (h : okC c) : 48 ≤ c ∧ c < 127 ∧ c ≠ 95 := by
  rcases h with ⟨h1, h2⟩ | rfl | rfl
  · exact ⟨h1, by omega, by omega⟩
  · decide
  · decide
theorem mark_facts {n : Nat} (h : isMark n) : 0 < n ∧ n < 127 ∧ n ≠ 46 := by
  rcases h with rfl | rfl | rfl | rfl | rfl | rfl <;> decide
theorem plain_rep {x : Str} {n : Nat} (h : OkS x) (hn : isMark n) : ∀ c ∈ (repS n x).cps.toList, 0 < c ∧ c < 128 := by
  intro c hc
  obtain ⟨k, hk, rfl⟩ := List.mem_map.mp (show c ∈ x.cps.toList.map (repC n) from hc)
  have h1 := okC_ge (h k hk)
  have h2 := mark_facts hn
  unfold repC
  split
  · exact ⟨h2.1, Nat.lt_succ_of_lt h2.2.1⟩
  · exact ⟨by omega, Nat.lt_succ_of_lt h1.2.1⟩
theorem int_key {x : Str} {s : List Nat} {neg : Bool} {P : Prop} [Decidable P] {v : Int} (hp : ∀ c ∈ x.cps.toList, 0 < c ∧ c < 128) (hl : x.length ≤ 4300) (h1 : core x.cps.toList = s) (h2 : (sign (x.cps.toList.dropWhile blank)).1 = neg)
    (h3 : 95 ∉ s) (h4 : s.isEmpty = false) (h5 : s.all dig = true ↔ P) (h6 : s.all dig = true → valOf neg s = v) : PySem.intText? x = if P then some v else none := by
  rw [int_side hp hl, h1, h2, good_free h3, filter_id h3, h4]
  simp only [Bool.false_or, Bool.not_false, Bool.true_and]
  by_cases q : s.all dig = true
  · rw [if_pos q, if_pos (h5.mp q), h6 q]
  · rw [if_neg q, if_neg (fun e => q (h5.mpr e))]
theorem none_all {a : Nat} : ∀ {n : Nat}, isMark n → (n = 57 → a = 0) → good 95 false (core (List.replicate a n)) = false := by
  intro n hn h57
  have big : 33 ≤ n → core (List.replicate a n) = (sign (List.replicate a n)).2 := fun h33 => (core_nb fun c hc => by rw [List.eq_of_mem_replicate hc]; exact h33).1
  rcases hn with rfl | rfl | rfl | rfl | rfl | rfl
  · rw [big (by decide)]
    cases a with
    | zero => rfl
    | succ a =>
      show good 95 false (List.replicate a 43) = false
      cases a <;> simp [good, List.replicate_succ, dig]
  · rw [big (by decide)]
    cases a with
    | zero => rfl
    | succ a =>
      show good 95 false (List.replicate a 45) = false
      cases a <;> simp [good, List.replicate_succ, dig]
  · have e : (List.replicate a 32).dropWhile blank = [] := by
      have := drop_rep (p := blank) (k := 32) rfl [] a
      rw [List.append_nil] at this
      exact this
    unfold core
    rw [e]
    rfl
  · rw [big (by decide)]
    cases a with
    | zero => rfl
    | succ a => exact good_start _
  · rw [big (by decide)]
    cases a with
    | zero => rfl
    | succ a =>
      show good 95 false (126 :: List.replicate a 126) = false
      simp [good, dig]
  · rw [h57 rfl]
    rfl
noncomputable def mk3 (n a : Nat) (m : List Nat) (b : Nat) : List Nat := List.replicate a n ++ m.map (repC n) ++ List.replicate b n
section
variable {m : List Nat} {a b n : Nat}
theorem mk3_ge (hok : ∀ c ∈ m, okC c) (hn : 33 ≤ n) : ∀ c ∈ mk3 n a m b, 33 ≤ c := by
  intro c hc
  rcases List.mem_append.mp hc with hc | hc
  · rcases List.mem_append.mp hc with hc | hc
    · rw [List.eq_of_mem_replicate hc]; exact hn
    · obtain ⟨k, hk, rfl⟩ := List.mem_map.mp hc
      unfold repC
      split
      · exact hn
      · exact Nat.le_trans (by decide) (okC_ge (hok k hk)).1
  · rw [List.eq_of_mem_replicate hc]; exact hn
theorem map_95 (hok : ∀ c ∈ m, okC c) (hn : n ≠ 95) : 95 ∉ m.map (repC n) := fun h => by
  obtain ⟨k, hk, e⟩ := List.mem_map.mp h
  unfold repC at e
  split at e
  · exact hn e
  · exact (okC_ge (hok k hk)).2.2 e
theorem mk3_95 (hok : ∀ c ∈ m, okC c) (hn : n ≠ 95) : 95 ∉ mk3 n a m b := fun h => by
  rcases List.mem_append.mp h with h | h
  · rcases List.mem_append.mp h with h | h
    · exact hn (List.eq_of_mem_replicate h).symm
    · exact map_95 hok hn h
  · exact hn (List.eq_of_mem_replicate h).symm
theorem mk3_dig (hn : dig n = false) : (mk3 n a m b).all dig = true ↔ a = 0 ∧ m.all dig = true ∧ b = 0 := by
  unfold mk3
  rw [List.all_append, List.all_append, all_repl hn, all_repl hn, all_rep hn]
  simp only [Bool.and_eq_true, decide_eq_true_eq]
  exact and_assoc
theorem mk3_00 (h : m.all dig = true) : mk3 n 0 m 0 = m := by
  unfold mk3
  rw [rep_id (dig_no rfl h)]
  simp
theorem head_map (hm : Core m) (hok : ∀ c ∈ m, okC c) (n : Nat) : ∃ x r, m.map (repC n) = x :: r ∧ okC x ∧ x ≠ 126 := by
  obtain ⟨x, r, em, hx⟩ := hm.head
  refine ⟨x, r.map (repC n), ?_, hok x (by rw [em]; exact List.mem_cons_self ..), hx⟩
  rw [em, List.map_cons]
  unfold repC
  rw [if_neg hx]
theorem sign_ok {x : Nat} {r : List Nat} (h : okC x) : sign (x :: r) = (false, x :: r) := sign_of (fun e => by have := (okC_ge h).1; omega) (fun e => by have := (okC_ge h).1; omega)
theorem mk3_ne (hm : Core m) : (mk3 n a m b).isEmpty = false := by
  obtain ⟨x, r, em, _⟩ := hm.head
  unfold mk3
  rw [em]
  cases a <;> rfl
theorem sign_mk3 (hm : Core m) (hok : ∀ c ∈ m, okC c) (h : n ≠ 45 ∧ n ≠ 43) : sign (mk3 n a m b) = (false, mk3 n a m b) := by
  unfold mk3
  cases a with
  | zero =>
    obtain ⟨x, r, e, hx, _⟩ := head_map hm hok n
    rw [e]
    exact sign_ok hx
  | succ a => exact sign_of h.1 h.2
end
section
variable {told : Str} {m : List Nat} {a b : Nat}
theorem int_95 (hok : OkS told) (hl : told.length ≤ 4300) (h : told.cps.toList = List.replicate a 126 ++ m ++ List.replicate b 126) (hm : Core m) (hmok : ∀ c ∈ m, okC c) (ht : (repS 95 told).cps.toList = mk3 95 a m b) : PySem.intText? (repS 95 told) = numRest told ⟨#[95]⟩ := by
  rw [int_side (plain_rep hok (by simp [isMark])) (by rw [repS_len]; exact hl), ht, numRest_core h hm]
  obtain ⟨e1, e2⟩ := core_nb (mk3_ge (a := a) (b := b) hmok (n := 95) (by decide))
  rw [e1, e2, sign_mk3 hm hmok (by decide)]
  dsimp only
  have h95 : 95 ∉ m := fun h => (okC_ge (hmok 95 h)).2.2 rfl
  unfold mk3
  cases a with
  | succ a =>
    have hg : good 95 false (List.replicate (a + 1) 95 ++ m.map (repC 95) ++ List.replicate b 95) = false := good_start _
    rw [hg, if_neg Bool.false_ne_true]
    split
    · rw [if_neg (by simp), if_pos ⟨.inl rfl, by omega⟩]
    · rfl
  | zero =>
    cases b with
    | succ b =>
      have e : List.replicate 0 95 ++ m.map (repC 95) ++ List.replicate (b + 1) 95 = (List.replicate 0 95 ++ m.map (repC 95) ++ List.replicate b 95) ++ [95] := by
        rw [List.replicate_succ', List.append_assoc, List.append_assoc, List.append_assoc]
      rw [e, good_end, if_neg Bool.false_ne_true]
      split
      · rw [if_neg (by simp), if_pos ⟨.inl rfl, by omega⟩]
      · rfl
    | zero =>
      have e : List.replicate 0 95 ++ m.map (repC 95) ++ List.replicate 0 95 = m.map (repC 95) := by simp
      rw [e, good_map rfl m false h95, filter_map_rep h95]
      split
      · rw [if_neg (by simp), if_neg (by simp), if_neg (by simp)]
        rfl
      · rfl
theorem int_32 (hok : OkS told) (hl : told.length ≤ 4300) (h : told.cps.toList = List.replicate a 126 ++ m ++ List.replicate b 126) (hm : Core m) (hmok : ∀ c ∈ m, okC c) (ht : (repS 32 told).cps.toList = mk3 32 a m b) : PySem.intText? (repS 32 told) = numRest told ⟨#[32]⟩ := by
  rw [numRest_plain h hm (by decide)]
  obtain ⟨x, r, hmm, hx, _⟩ := head_map hm hmok 32
  obtain ⟨y, s, es, hy126⟩ := hm.last
  have hyok : okC y := hmok y (List.mem_reverse.mp (by rw [es]; exact List.mem_cons_self ..))
  have hyr : repC 32 y = y := by unfold repC; rw [if_neg hy126]
  have hx4 := (okC_ge hx).1
  have hy4 := (okC_ge hyok).1
  have e1 : (mk3 32 a m b).dropWhile blank = x :: (r ++ List.replicate b 32) := by
    unfold mk3
    rw [List.append_assoc, drop_rep (by rfl), hmm]
    exact dropWhile_of (by omega)
  refine int_key (s := m.map (repC 32)) (neg := false) (plain_rep hok (by simp [isMark])) (by rw [repS_len]; exact hl) ?_ ?_ (map_95 hmok (by decide)) (by rw [hmm]; rfl) ?_ ?_
  · rw [ht]
    unfold core
    rw [e1, sign_ok hx]
    show (List.dropWhile blank (x :: r ++ List.replicate b 32).reverse).reverse = _
    rw [← hmm, List.reverse_append, List.reverse_replicate, drop_rep (by rfl), ← List.map_reverse, es, List.map_cons, hyr, dropWhile_of (by omega), ← hyr, ← List.map_cons, ← es, ← List.map_reverse, List.reverse_reverse]
  · rw [ht, e1, sign_ok hx]
  · rw [all_rep rfl]
    simp
  · intro h
    rw [all_rep rfl] at h
    rw [rep_id (dig_no rfl h)]
    rfl
theorem int_pm {n : Nat} (hpm : n = 43 ∨ n = 45) (hok : OkS told) (hl : told.length ≤ 4300) (h : told.cps.toList = List.replicate a 126 ++ m ++ List.replicate b 126) (hm : Core m) (hmok : ∀ c ∈ m, okC c) (ht : (repS n told).cps.toList = mk3 n a m b) : PySem.intText? (repS n told) = numRest told ⟨#[n]⟩ := by
  have hdn : dig n = false := by rcases hpm with rfl | rfl <;> rfl
  have hn95 : n ≠ 95 := by rcases hpm with rfl | rfl <;> decide
  have hn126 : n ≠ 126 := by rcases hpm with rfl | rfl <;> decide
  have hmk : isMark n := by rcases hpm with rfl | rfl <;> simp [isMark]
  rw [numRest_plain h hm hn95]
  obtain ⟨e1, e2⟩ := core_nb (mk3_ge (a := a) (b := b) hmok (n := n) (by rcases hpm with rfl | rfl <;> decide))
  cases a with
  | zero =>
    have hsg : sign (mk3 n 0 m b) = (false, mk3 n 0 m b) := by
      obtain ⟨x, r, e, hx, _⟩ := head_map hm hmok n
      unfold mk3
      rw [e]
      exact sign_ok hx
    refine int_key (s := mk3 n 0 m b) (neg := false) (plain_rep hok hmk) (by rw [repS_len]; exact hl) (by rw [ht, e1, hsg]) (by rw [ht, e2, hsg]) (mk3_95 hmok hn95) (mk3_ne hm) ?_ ?_
    · rw [mk3_dig hdn]
      exact ⟨fun ⟨_, h1, h2⟩ => ⟨h1, fun _ => ⟨Nat.zero_le _, h2⟩, fun e => absurd e hn126⟩, fun ⟨h1, h2, _⟩ => ⟨rfl, h1, (h2 hpm).2⟩⟩
    · intro h
      obtain ⟨_, h1, rfl⟩ := (mk3_dig hdn).mp h
      rw [mk3_00 h1]
      simp
  | succ a =>
    have hsg : sign (mk3 n (a + 1) m b) = (decide (n = 45), mk3 n a m b) := by
      rcases hpm with rfl | rfl <;> rfl
    refine int_key (s := mk3 n a m b) (neg := decide (n = 45)) (plain_rep hok hmk) (by rw [repS_len]; exact hl) (by rw [ht, e1, hsg]) (by rw [ht, e2, hsg]) (mk3_95 hmok hn95) (mk3_ne hm) ?_ ?_
    · rw [mk3_dig hdn]
      refine ⟨fun ⟨h0, h1, h2⟩ => ⟨h1, fun _ => ⟨by omega, h2⟩, fun e => absurd e hn126⟩, fun ⟨h1, h2, _⟩ => ⟨?_, h1, (h2 hpm).2⟩⟩
      have := (h2 hpm).1
      omega
    · intro h
      obtain ⟨rfl, h1, rfl⟩ := (mk3_dig hdn).mp h
      rw [mk3_00 h1]
      simp
theorem int_126 (hok : OkS told) (hl : told.length ≤ 4300) (h : told.cps.toList = List.replicate a 126 ++ m ++ List.replicate b 126) (hm : Core m) (hmok : ∀ c ∈ m, okC c) (ht : (repS 126 told).cps.toList = mk3 126 a m b) : PySem.intText? (repS 126 told) = numRest told ⟨#[126]⟩ := by
  rw [numRest_plain h hm (by decide)]
  obtain ⟨e1, e2⟩ := core_nb (mk3_ge (a := a) (b := b) hmok (n := 126) (by decide))
  have hsg := sign_mk3 (a := a) (b := b) hm hmok (n := 126) (by decide)
  refine int_key (s := mk3 126 a m b) (neg := false) (plain_rep hok (by simp [isMark])) (by rw [repS_len]; exact hl) (by rw [ht, e1, hsg]) (by rw [ht, e2, hsg]) (mk3_95 hmok (by decide)) (mk3_ne hm) ?_ ?_
  · rw [mk3_dig rfl]
    exact ⟨fun ⟨h0, h1, h2⟩ => ⟨h1, fun e => by simp at e, fun _ => ⟨h0, h2⟩⟩, fun ⟨h1, _, h3⟩ => ⟨(h3 rfl).1, h1, (h3 rfl).2⟩⟩
  · intro h
    obtain ⟨rfl, h1, rfl⟩ := (mk3_dig rfl).mp h
    rw [mk3_00 h1]
    simp
theorem int_57 (hok : OkS told) (hl : told.length ≤ 4300) (h : told.cps.toList = List.replicate a 126 ++ m ++ List.replicate b 126) (hm : Core m) (hmok : ∀ c ∈ m, okC c) (h126 : 126 ∉ told.cps.toList) : PySem.intText? (repS 57 told) = numRest told ⟨#[57]⟩ := by
  rw [numRest_plain h hm (by decide)]
  rw [h] at h126
  have ha0 : a = 0 := by
    cases a with
    | zero => rfl
    | succ a => exact absurd (by simp [List.replicate_succ]) h126
  have hb0 : b = 0 := by
    cases b with
    | zero => rfl
    | succ b => exact absurd (by simp [List.replicate_succ]) h126
  subst ha0 hb0
  have hx : (repS 57 told).cps.toList = m := by
    show told.cps.toList.map (repC 57) = m
    rw [h]
    rw [rep_id h126]
    simp
  have hm126 : 126 ∉ m := fun h => h126 (by simp [h])
  have hge : ∀ c ∈ m, 33 ≤ c := fun c hc => Nat.le_trans (by decide) (okC_ge (hmok c hc)).1
  obtain ⟨e1, e2⟩ := core_nb hge
  have hsg : sign m = (false, m) := by
    obtain ⟨x, r, em, _⟩ := hm.head
    rw [em]
    exact sign_ok (hmok x (by rw [em]; exact List.mem_cons_self ..))
  refine int_key (s := m) (neg := false) (plain_rep hok (by simp [isMark])) (by rw [repS_len]; exact hl) (by rw [hx, e1, hsg]) (by rw [hx, e2, hsg]) (fun h => (okC_ge (hmok 95 h)).2.2 rfl) ?_ ?_ ?_
  · obtain ⟨x, r, em, _⟩ := hm.head
    rw [em]; rfl
  · simp
  · intro _; simp
end
/-- int() of a part as it is written tells what the law's own reading tells -/
theorem int_law {told : Str} {n : Nat} (hok : OkS told) (hn : isMark n) (h57 : n = 57 → 126 ∉ told.cps.toList) (hl : told.length ≤ 4300) : PySem.intText? (repS n told) = numRest told ⟨#[n]⟩ := by
  have hx : (repS n told).cps.toList = told.cps.toList.map (repC n) := rfl
  rcases decomp told.cps.toList with ⟨a, hA⟩ | ⟨a, m, b, hM, hm⟩
  · have hrep : (List.replicate a 126).map (repC n) = List.replicate a n := by
      rw [List.map_replicate]; rfl
    rw [numRest_all hA, int_side (plain_rep hok hn) (by rw [repS_len]; exact hl), hx, hA, hrep, none_all hn, if_neg Bool.false_ne_true]
    intro e
    have := h57 e
    rw [hA] at this
    cases a with
    | zero => rfl
    | succ a => exact absurd (by simp [List.replicate_succ]) this
  · have hmok : ∀ c ∈ m, okC c := fun c hc => hok c (by rw [hM]; simp [hc])
    have ht : (repS n told).cps.toList = mk3 n a m b := by
      rw [hx, hM, List.map_append, List.map_append, List.map_replicate, List.map_replicate]; rfl
    rcases hn with rfl | rfl | rfl | rfl | rfl | rfl
    · exact int_pm (.inl rfl) hok hl hM hm hmok ht
    · exact int_pm (.inr rfl) hok hl hM hm hmok ht
    · exact int_32 hok hl hM hm hmok ht
    · exact int_95 hok hl hM hm hmok ht
    · exact int_126 hok hl hM hm hmok ht
    · exact int_57 hok hl hM hm hmok (h57 rfl)
end Mine
end

section
open PySem.NumText
namespace Mine
theorem told_eq (x : Str) (n : Nat) : toldOf x ⟨#[n]⟩ = if n = 57 then repS 57 x else x := by
  unfold toldOf
  rw [show Str.ofString "9" = ⟨#[57]⟩ from rfl, mark_eq]
  by_cases h : n = 57
  · rw [if_pos (decide_eq_true h), if_pos h]
    exact replace_rep x 57
  · rw [if_neg (by rw [decide_eq_false h]; decide), if_neg h]
theorem ok_rep57 {x : Str} (h : OkS x) : OkS (repS 57 x) ∧ 126 ∉ (repS 57 x).cps.toList := by
  constructor
  · intro c hc
    obtain ⟨k, hk, rfl⟩ := List.mem_map.mp (show c ∈ x.cps.toList.map (repC 57) from hc)
    have := h k hk
    unfold okC repC at *
    split <;> omega
  · intro hc
    obtain ⟨k, hk, e⟩ := List.mem_map.mp (show 126 ∈ x.cps.toList.map (repC 57) from hc)
    unfold repC at e
    split at e <;> omega
theorem ok_told {x : Str} (h : OkS x) (n : Nat) : OkS (toldOf x ⟨#[n]⟩) := by
  rw [told_eq]
  split
  · exact (ok_rep57 h).1
  · exact h
theorem told_len (x : Str) (n : Nat) : (toldOf x ⟨#[n]⟩).length = x.length := by
  rw [told_eq]
  split
  · exact repS_len 57 x
  · rfl
/-- int() of a written part is the law's number of the part -/
theorem int_num {x : Str} {n : Nat} (h : OkS x) (hn : isMark n) (hl : x.length ≤ 4300) : PySem.intText? (repS n x) = lawNum x ⟨#[n]⟩ := by
  unfold lawNum
  rw [told_eq]
  by_cases q : n = 57
  · subst q
    rw [if_pos rfl]
    have h2 := ok_rep57 h
    have e : repS 57 (repS 57 x) = repS 57 x := str_ext (rep_id h2.2)
    have := int_law h2.1 hn (fun _ => h2.2) (by rw [repS_len]; exact hl)
    rw [e] at this
    exact this
  · rw [if_neg q]
    exact int_law h hn (fun e => absurd e q) hl
theorem mem_strip {c : Nat} {l : List Nat} (h : c ∈ rst (lst l)) : c ∈ l := by
  unfold rst lst at h
  have h1 := (List.dropWhile_sublist _).subset (List.mem_reverse.mp h)
  exact (List.dropWhile_sublist _).subset (List.mem_reverse.mp h1)
theorem tok_of {x : Str} {n : Nat} (h : OkS x) (hl : x.length ≤ 40) : TOK (toldOf x ⟨#[n]⟩) := by
  have hok := ok_told h n
  have htl := told_len x n
  generalize toldOf x ⟨#[n]⟩ = told at hok htl
  have hs : (Txt.stripChars told (Str.ofString "~")).length ≤ told.length := len_stripChars _ _
  have hw := split_weight (Txt.stripChars told (Str.ofString "~")) (Str.ofString "~") (Nat.le_refl 1)
  have hj := joinOf_toList told
  have hjl : (joinOf told).cps.size ≤ told.length := by
    have e : (joinOf told).cps.size = (joinOf told).cps.toList.length := by simp
    rw [e, hj]
    refine Nat.le_trans (List.length_filter_le _ _) ?_
    rw [← strip_toList]
    have e2 : (Txt.stripChars told (Str.ofString "~")).cps.toList.length = (Txt.stripChars told (Str.ofString "~")).length := by unfold Str.length; simp
    omega
  refine ⟨by omega, ?_, ?_, by omega, ?_⟩
  · show (Txt.split _ _).length ≤ 1000
    omega
  · show ((Txt.split _ _).map (·.length)).sum ≤ 1000
    omega
  · intro c hc
    rw [hj] at hc
    have := okC_ge (hok c (mem_strip (List.mem_filter.mp hc).1))
    omega
noncomputable def PlainS (x : Str) : Prop := ∀ c ∈ x.cps.toList, 0 < c ∧ c < 128
theorem val_lt : ∀ (s : List Nat) (a : Nat), s.all dig = true → s.foldl (fun acc c => acc * 10 + (c - 48)) a < (a + 1) * 10 ^ s.length
  | [], a, _ => by simp
  | c :: s, a, h => by
    rw [List.all_cons, Bool.and_eq_true] at h
    have hc := dig_iff.mp h.1
    have ih := val_lt s (a * 10 + (c - 48)) h.2
    rw [List.foldl_cons, List.length_cons, Nat.pow_succ]
    refine Nat.lt_of_lt_of_le ih ?_
    have h1 : (a * 10 + (c - 48) + 1) ≤ (a + 1) * 10 := by omega
    have h2 := Nat.mul_le_mul_right (10 ^ s.length) h1
    have e : (a + 1) * (10 ^ s.length * 10) = (a + 1) * 10 * 10 ^ s.length := by
      rw [Nat.mul_comm (10 ^ s.length) 10, Nat.mul_assoc]
    omega
theorem good_digs {s : List Nat} (h : good 95 false s = true) : (s.filter (· != 95)).all dig = true := by
  have h1 := (split_good s false).mp h
  rw [List.all_eq_true]
  intro c hc
  rw [List.mem_filter] at hc
  exact h1.2 c hc.1 (by simpa using hc.2)
theorem int_fits {x : Str} (h : PlainS x) (hl : x.length ≤ 300) {m : Int} (e : PySem.intText? x = some m) : m.natAbs.log2 < 1920 := by
  rw [int_side h (by omega)] at e
  split at e
  · next hg =>
    have hd := good_digs hg
    have h1 := core_length x.cps.toList
    have h2 := List.length_filter_le (· != 95) (core x.cps.toList)
    have hlen : x.cps.toList.length = x.length := Array.length_toList
    have hv := val_lt _ 0 hd
    injection e with e
    have hm : m.natAbs = digitsVal ((core x.cps.toList).filter (· != 95)) := by
      rw [← e]
      unfold valOf
      split <;> simp
    have hlt : m.natAbs < 10 ^ 300 := by
      rw [hm]
      refine Nat.lt_of_lt_of_le hv ?_
      rw [Nat.zero_add, Nat.one_mul]
      exact Nat.pow_le_pow_right (by decide) (by omega)
    by_cases hz : m.natAbs = 0
    · rw [hz]; decide
    · rw [Nat.log2_lt hz]
      exact Nat.lt_trans hlt (by decide +kernel)
  · cases e
theorem textOk_of {x : Str} (h : PlainS x) (hl : x.length ≤ 300) : TextOk x := by
  obtain ⟨e1, e2⟩ := numText_plain h
  exact ⟨by omega, by rw [e2, e1], fun c hc => Nat.lt_trans (h c hc).2 (by decide), fun n e => int_fits h hl e⟩
theorem plain_join {parts : List Str} (h : ∀ x ∈ parts, PlainS x) : PlainS (Txt.join (Str.ofString ".") parts) := by
  rw [glue]
  show ∀ c ∈ (Str.join ⟨#[46]⟩ parts).cps.toList, _
  rw [join_toList]
  have gen : ∀ ps : List (List Nat), (∀ p ∈ ps, ∀ c ∈ p, 0 < c ∧ c < 128) → ∀ c ∈ joinL 46 ps, 0 < c ∧ c < 128 := by
    intro ps
    induction ps with
    | nil => intro _ c hc; cases hc
    | cons p r ih =>
      intro hp c hc
      cases r with
      | nil => exact hp p (List.mem_cons_self ..) c hc
      | cons q r =>
        rcases List.mem_append.mp (show c ∈ p ++ 46 :: joinL 46 (q :: r) from hc) with hc | hc
        · exact hp p (List.mem_cons_self ..) c hc
        · rcases List.mem_cons.mp hc with rfl | hc
          · decide
          · exact ih (fun a ha => hp a (List.mem_cons_of_mem _ ha)) c hc
  refine gen _ fun p hp => ?_
  obtain ⟨y, hy, rfl⟩ := List.mem_map.mp hp
  exact h y hy
theorem mem_drop_no {p : Nat → Bool} {c : Nat} (hc : p c = false) : ∀ {l : List Nat}, c ∈ l → c ∈ l.dropWhile p
  | a :: r, h => by
    rw [List.dropWhile_cons]
    split
    · next ha =>
      rcases List.mem_cons.mp h with rfl | h
      · rw [hc] at ha; cases ha
      · exact mem_drop_no hc h
    · exact h
theorem mem_sign {c : Nat} (h1 : c ≠ 43) (h2 : c ≠ 45) {l : List Nat} (h : c ∈ l) : c ∈ (sign l).2 := by
  unfold sign
  split
  · rcases List.mem_cons.mp h with e | h
    · exact absurd e h2
    · exact h
  · rcases List.mem_cons.mp h with e | h
    · exact absurd e h1
    · exact h
  · exact h
/-- int() knows no dots -/
theorem int_dot {x : Str} (h : PlainS x) (hl : x.length ≤ 300) (hd : 46 ∈ x.cps.toList) : PySem.intText? x = none := by
  rw [int_side h (by omega), if_neg]
  intro hg
  have h1 : 46 ∈ core x.cps.toList := by
    unfold core
    rw [List.mem_reverse]
    refine mem_drop_no rfl ?_
    rw [List.mem_reverse]
    exact mem_sign (by decide) (by decide) (mem_drop_no rfl hd)
  have := ((split_good _ false).mp hg).2 46 h1 (by decide)
  cases this
/-- both ways to make the version -/
theorem norm_eq {version build : Str} {nums : List (Option Int)} (h : (verParts version build).map PySem.intText? = nums) : normVer version build = normOf (verParts version build) nums := by
  subst h
  unfold normVer normOf
  by_cases q : (verParts version build).all (fun x => (PySem.intText? x).isSome) = true
  · rw [if_pos q, if_neg]
    · unfold outsOf
      simp only [← List.map_take, List.map_map]
      rfl
    · rw [List.any_map]
      intro e
      obtain ⟨x, hx, hn⟩ := List.any_eq_true.mp e
      have := List.all_eq_true.mp q x hx
      dsimp only [Function.comp] at hn
      cases hq : PySem.intText? x with
      | none => rw [hq] at this; cases this
      | some m => rw [hq] at hn; cases hn
  · rw [if_neg q, if_pos]
    rw [List.any_map, List.any_eq_true]
    have q' : (verParts version build).all (fun x => (PySem.intText? x).isSome) = false := by simpa using q
    obtain ⟨x, hx, hn⟩ := List.all_eq_false.mp q'
    refine ⟨x, hx, ?_⟩
    dsimp only [Function.comp]
    cases hq : PySem.intText? x with
    | none => rfl
    | some m => rw [hq] at hn; exact absurd rfl hn
end Mine
end

section
open PySem.NumText
namespace Mine
section
variable {cells : List Str} {n : Nat}
theorem rep_nodot {x : Str} (h : OkS x) (hn : isMark n) : 46 ∉ (repS n x).cps.toList := by
  intro hm
  obtain ⟨k, hk, e⟩ := List.mem_map.mp (show 46 ∈ x.cps.toList.map (repC n) from hm)
  have := h k hk
  have := mark_facts hn
  unfold okC at *
  unfold repC at e
  split at e <;> omega
theorem texts_ints (hok : ∀ x ∈ cells, OkS x) (hl : ∀ x ∈ cells, x.length ≤ 40) (hn : isMark n) : (cells.map (repS n)).map PySem.intText? = cells.map (fun x => lawNum x ⟨#[n]⟩) := by
  rw [List.map_map]
  apply List.map_congr_left
  intro x hx
  exact int_num (hok x hx) hn (Nat.le_trans (hl x hx) (by decide))
theorem law_fits (hok : ∀ x ∈ cells, OkS x) (hl : ∀ x ∈ cells, x.length ≤ 40) (hn : isMark n) : ∀ x ∈ cells, ∀ m, lawNum x ⟨#[n]⟩ = some m → m.natAbs.log2 < 1920 := by
  intro x hx m e
  rw [← int_num (hok x hx) hn (Nat.le_trans (hl x hx) (by decide))] at e
  exact int_fits (plain_rep (hok x hx) hn) (by rw [repS_len]; exact Nat.le_trans (hl x hx) (by decide)) e
theorem whole_parts (hne : cells ≠ []) (hok : ∀ x ∈ cells, OkS x) (hn : isMark n) : verParts (repS n (Txt.join (Str.ofString ".") cells)) (Str.ofString "") = cells.map (repS n) := by
  unfold verParts
  rw [if_pos (show (Str.ofString "").length = 0 from rfl)]
  exact split_rep (mark_facts hn).2.2 hne fun x hx => ok_nodot (hok x hx)
theorem whole_ok (hne : cells ≠ []) (hok : ∀ x ∈ cells, OkS x) (hl : ∀ x ∈ cells, x.length ≤ 40) (hc : cells.length ≤ 6) (hp : (Txt.join (Str.ofString ".") cells).length ≤ 300) (hn : isMark n) : VerOk (repS n (Txt.join (Str.ofString ".") cells)) (Str.ofString "") := by
  refine ⟨by rw [repS_len]; omega, by decide, ?_, ?_⟩
  · rw [whole_parts hne hok hn, List.length_map]; omega
  · rw [whole_parts hne hok hn]
    intro y hy
    obtain ⟨x, hx, rfl⟩ := List.mem_map.mp hy
    exact textOk_of (plain_rep (hok x hx) hn) (by rw [repS_len]; exact Nat.le_trans (hl x hx) (by decide))
theorem whole_law (hne : cells ≠ []) (hok : ∀ x ∈ cells, OkS x) (hl : ∀ x ∈ cells, x.length ≤ 40) (hn : isMark n) :
    normVer (repS n (Txt.join (Str.ofString ".") cells)) (Str.ofString "") = normOf (cells.map (repS n)) (cells.map (fun x => lawNum x ⟨#[n]⟩)) := by
  rw [norm_eq (nums := cells.map (fun x => lawNum x ⟨#[n]⟩)) (by rw [whole_parts hne hok hn]; exact texts_ints hok hl hn), whole_parts hne hok hn]
theorem cut_parts {kk : Nat} {build : Str} (h1 : 1 ≤ kk) (h2 : kk < cells.length) (hok : ∀ x ∈ cells, OkS x) (hn : isMark n) : verParts (Txt.join (Str.ofString ".") ((cells.map (repS n)).take kk)) build = (cells.map (repS n)).take kk ++ moreOf build := by
  have e : Txt.split (Txt.join (Str.ofString ".") ((cells.map (repS n)).take kk)) (Str.ofString ".") = (cells.map (repS n)).take kk := by
    rw [glue]
    show Txt.split (Str.join ⟨#[46]⟩ _) ⟨#[46]⟩ = _
    refine split_join ?_ fun p hp => ?_
    · intro e
      have := congrArg List.length e
      rw [List.length_take, List.length_map] at this
      simp only [List.length_nil] at this
      omega
    · obtain ⟨x, hx, rfl⟩ := List.mem_map.mp (List.mem_of_mem_take hp)
      exact rep_nodot (hok x hx) hn
  unfold verParts moreOf
  rw [e]
  split
  · rw [List.append_nil]
  · rfl
theorem cut_plain {kk : Nat} (hok : ∀ x ∈ cells, OkS x) (hn : isMark n) : PlainS (Txt.join (Str.ofString ".") ((cells.map (repS n)).drop kk)) := by
  refine plain_join fun y hy => ?_
  obtain ⟨x, hx, rfl⟩ := List.mem_map.mp (List.mem_of_mem_drop hy)
  exact plain_rep (hok x hx) hn
theorem cut_ok {kk : Nat} {build : Str} (hbuild : Txt.join (Str.ofString ".") ((cells.map (repS n)).drop kk) = build) (h1 : 1 ≤ kk) (h2 : kk < cells.length) (hok : ∀ x ∈ cells, OkS x) (hl : ∀ x ∈ cells, x.length ≤ 40) (hc : cells.length ≤ 6) (hn : isMark n)
    (hv : (Txt.join (Str.ofString ".") ((cells.map (repS n)).take kk)).length ≤ 300) (hb : build.length ≤ 300) : VerOk (Txt.join (Str.ofString ".") ((cells.map (repS n)).take kk)) build := by
  have hm1 : (moreOf build).length ≤ 1 := by unfold moreOf; split <;> simp
  refine ⟨by omega, by omega, ?_, ?_⟩
  · rw [cut_parts h1 h2 hok hn, List.length_append, List.length_take]; omega
  · rw [cut_parts h1 h2 hok hn]
    intro y hy
    rcases List.mem_append.mp hy with hy | hy
    · obtain ⟨x, hx, rfl⟩ := List.mem_map.mp (List.mem_of_mem_take hy)
      exact textOk_of (plain_rep (hok x hx) hn) (by rw [repS_len]; exact Nat.le_trans (hl x hx) (by decide))
    · have e : y = build := by
        unfold moreOf at hy
        split at hy
        · cases hy
        · exact List.mem_singleton.mp hy
      rw [e, ← hbuild]
      exact textOk_of (cut_plain hok hn) (by rw [hbuild]; exact hb)
theorem cut_law {kk : Nat} {build : Str} {kv : Option Int} (hbuild : Txt.join (Str.ofString ".") ((cells.map (repS n)).drop kk) = build) (hkv : (if kk = cells.length - 1 then ((cells.map (fun x => lawNum x ⟨#[n]⟩)).getD kk none) else none) = kv) (h1 : 1 ≤ kk) (h2 : kk < cells.length)
    (hok : ∀ x ∈ cells, OkS x) (hl : ∀ x ∈ cells, x.length ≤ 40) (hn : isMark n) (hb : build.length ≤ 300) :
    normVer (Txt.join (Str.ofString ".") ((cells.map (repS n)).take kk)) build = normOf ((cells.map (repS n)).take kk ++ moreOf build) ((cells.map (fun x => lawNum x ⟨#[n]⟩)).take kk ++ (moreOf build).map (fun _ => kv)) := by
  rw [norm_eq (nums := (cells.map (fun x => lawNum x ⟨#[n]⟩)).take kk ++ (moreOf build).map (fun _ => kv)), cut_parts h1 h2 hok hn]
  rw [cut_parts h1 h2 hok hn, List.map_append, List.map_take, texts_ints hok hl hn]
  congr 1
  apply List.map_congr_left
  intro y hy
  have e : y = build := by
    unfold moreOf at hy
    split at hy
    · cases hy
    · exact List.mem_singleton.mp hy
  rw [e]
  have hdr : (cells.map (repS n)).drop kk = repS n cells[kk] :: (cells.map (repS n)).drop (kk + 1) := by
    rw [List.drop_eq_getElem_cons (by rw [List.length_map]; exact h2), List.getElem_map]
  rw [hdr] at hbuild
  by_cases q : kk = cells.length - 1
  · rw [if_pos q] at hkv
    have hd2 : (cells.map (repS n)).drop (kk + 1) = [] := List.drop_of_length_le (by rw [List.length_map]; omega)
    rw [hd2] at hbuild
    have hb1 : build = repS n cells[kk] := hbuild.symm
    have hmem : cells[kk] ∈ cells := List.getElem_mem h2
    rw [hb1, int_num (hok _ hmem) hn (Nat.le_trans (hl _ hmem) (by decide)), ← hkv, List.getD_eq_getElem?_getD, List.getElem?_map, List.getElem?_eq_getElem h2]
    rfl
  · rw [if_neg q] at hkv
    rw [← hkv]
    have hd2 : (cells.map (repS n)).drop (kk + 1) = repS n cells[kk + 1] :: (cells.map (repS n)).drop (kk + 1 + 1) := by
      rw [List.drop_eq_getElem_cons (by rw [List.length_map]; omega), List.getElem_map]
    have hpl := cut_plain (kk := kk) hok hn
    rw [hdr, hbuild] at hpl
    refine int_dot hpl hb ?_
    rw [← hbuild, hd2, glue]
    show 46 ∈ (Str.join ⟨#[46]⟩ _).cps.toList
    rw [join_toList]
    show 46 ∈ _ ++ 46 :: _
    simp
end
end Mine
end

namespace Mine
theorem ints_take {vs : List Value} {ys : List Int} (h : IntsAre vs ys) : ∀ n, IntsAre (vs.take n) (ys.take n) := by
  induction h with
  | nil => intro n; simp; exact .nil
  | cons y t _ ih =>
    intro n
    cases n with
    | zero => exact .nil
    | succ n => exact .cons y t (ih n)
theorem news_join {h₀ : Heap} {L D : Addr} {h h' : Heap} {m : Str → Option Value} {o : Obj} {news : List (Addr × Obj)} (F : Fr h₀ L h m) (N : News h₀ L h' news) (hD : h'.get? D = some o) (hn : h.get? D = none) : News h₀ L h' ((D, o) :: news) := by
  intro p hp
  rcases List.mem_cons.mp hp with rfl | hp
  · refine ⟨hD, ?_, ?_⟩
    · rintro rfl
      obtain ⟨o', _, _, ho', _⟩ := F.ns
      rw [ho'] at hn; cases hn
    · cases e : h₀.get? D with
      | none => rfl
      | some o' => rw [F.keep _ _ e] at hn; cases hn
  · exact N p hp
theorem headOf_len (ps : List Str) : (headOf ps).length ≤ 4 := by
  unfold headOf
  rw [cat_len]
  generalize ((Txt.join (Str.ofString ".") ([Str.ofString "7"] ++ ps)).length : Int) = n
  have hd4 : 0 ≤ (-n).fmod 4 ∧ (-n).fmod 4 < 4 := ⟨Int.fmod_nonneg_of_pos _ (by decide), Int.fmod_lt_of_pos _ (by decide)⟩
  have h9 := len_mul_k1 (x := Str.ofString "0") (n := (-n).fmod 4) rfl
  rw [if_neg (by omega)] at h9
  have : (Str.ofString "7").length = 1 := rfl
  omega
theorem cells_short {way : Int} {xs : List Int} : ∀ y ∈ cellsOf way xs, y.length ≤ 40 := by
  intro y hy
  unfold cellsOf at hy
  rcases List.mem_cons.mp hy with rfl | hy
  · have := headOf_len (partsOf way xs); omega
  · exact parts_len y hy
theorem cells_count {way : Int} {xs : List Int} (h : xs.length ≤ 5) : (cellsOf way xs).length ≤ 6 := by
  unfold cellsOf partsOf
  rw [List.length_cons, List.length_map]
  omega
theorem news_ne {h₀ h : Heap} {L D : Addr} {news : List (Addr × Obj)} (N : News h₀ L h news) (hn : h.get? D = none) : ∀ p ∈ news, D ≠ p.1 := fun p hp e => by
  have := (N p hp).1
  rw [← e, hn] at this; cases this
theorem goal : PySem.Challenge.rw_mq0053_01.Holds := by
  refine hd ?_
  k_go0
  all_goals try k_fold
  rename Shared => s₁
  rename Top _ _ _ _ _ _ => T
  rename (hd.heap_39 _).In _ => X
  rename Heap.IsList _ _ _ => hl
  rename IntsAre _ _ => hvs
  walk_at "go"
  (rename Fr _ _ _ _ => F); (rename News _ _ _ _ => N)
  rename CellsAre _ _ _ => XC
  refine LSm.sum_ints F N rfl (hl.at (F.keep _)) hvs ?_
  intro h1 tk1 t1 F1 N1
  walk_at "go"

  (rename Fr _ _ _ _ => F2); (rename News _ _ _ _ => N2)
  rename List Int => script
  have hlen63 : script.length ≤ 63 := by
    rename ¬ ((63 : Nat) : Int) < _ => hc63
    omega
  have hvl := ints_len hvs
  refine' kms_slice_lit F2 N2 (hl.at (F2.keep _)) .none (.int 5 _) (pick_to (k := 5) (by decide)) ?_ ?hs ?ht ?hz
  case hs => with_unfolding_all rfl
  case ht => intro _; with_unfolding_all rfl
  case hz => rw [sizeLine_eq]; simp; omega
  intro D3 h3 F3 N3 l3
  dsimp only
  walk_at "go"
  refine ⟨X.keeps F3.keep, ?_⟩
  walk_at "go"
  have hm4 : 0 ≤ script.sum.fmod 4 ∧ script.sum.fmod 4 < 4 := ⟨Int.fmod_nonneg_of_pos _ (by decide), Int.fmod_lt_of_pos _ (by decide)⟩
  refine wpAny_lower (parts_call (xs := script.take 5) (X.keeps F3.keep) (T.keeps F3.keep) (News.isList N3 (List.mem_cons_self ..)) (ints_take hvs 5) (by rw [List.length_take]; omega) hm4 ?_) rfl (Nat.le_of_ble_eq_true rfl) (Nat.le_of_ble_eq_true rfl)
  intro Dc us nc h4 tk4 hDc hDn hus k4
  have F4 := F3.keeps k4
  have N4 := N3.keepsAll k4
  have hDcne := news_ne N3 hDn
  have N4 := news_join F3 N4 hDc hDn
  clear F3 N3
  walk_at "go"
  (rename Fr _ _ _ _ => F5); (rename News _ _ _ _ => N5)
  have hcl : (cellsOf (script.sum.fmod 4) (List.take 5 script)).length ≤ 6 := cells_count (by rw [List.length_take]; omega)
  have hsum := sum_len_le (cells_short (way := script.sum.fmod 4) (xs := List.take 5 script))
  refine join_list (ys := cellsOf (script.sum.fmod 4) (List.take 5 script)) (News.isList N5 (List.mem_cons_self ..)) (by simpa using hus) (by rw [show (Str.ofString ".").length = 1 from rfl]; omega) ?_
  intro t6 k6
  generalize hcells : cellsOf (script.sum.fmod 4) (List.take 5 script) = cells at hus hcl hsum ⊢
  have hpl : (Txt.join (Str.ofString ".") cells).length ≤ 300 := by have := join_le cells; omega
  generalize hpage : Txt.join (Str.ofString ".") cells = page at hpl ⊢
  walk_at "go"
  have ht2 : 0 ≤ (script.sum.fdiv 4).fmod 2 ∧ (script.sum.fdiv 4).fmod 2 < 2 := ⟨Int.fmod_nonneg_of_pos _ (by decide), Int.fmod_lt_of_pos _ (by decide)⟩
  generalize htn : (script.sum.fdiv 4).fmod 2 = turned at ht2 ⊢
  (rename Fr _ _ _ _ => F7); (rename News _ _ _ _ => N7)
  rw [htn] at F7
  refine item_strsR (ys := [Str.ofString ".~", Str.ofString "~."]) (News.isList N7 (List.mem_cons_self ..)) (.cons _ _ (.cons _ _ .nil)) ht2.1 (by show _ < (2 : Int); omega) (by omega) ?_
  intro t8
  generalize hlast : [Str.ofString ".~", Str.ofString "~."].getD turned.toNat Str.empty = last
  walk_at "go"
  refine ⟨X.keeps F7.keep, ?_⟩
  walk_at "go"
  have hcok : ∀ x ∈ cells, OkS x := by rw [← hcells]; exact cells_ok
  have hlen40 : ∀ x ∈ cells, x.length ≤ 40 := by rw [← hcells]; exact cells_short
  have hcne : cells ≠ [] := by rw [← hcells]; exact List.cons_ne_nil _ _
  have hch : ∀ c ∈ page.cps.toList, okC c ∨ c = 46 := by rw [← hpage]; exact page_chars hcok
  have hp4 : page.length % 4 = 0 := by rw [← hpage, ← hcells]; exact page_fours _ _
  have hpi := page_in ht2 hch
  have hlo : lastOf turned = last := hlast
  rw [hlo] at hpi
  have hl2 := hpi.1
  have hpin := hpi.2
  refine wpAny_lower (octets_call (X.keeps F7.keep) (T.keeps F7.keep) (by omega) hp4 hl2 hpin ?_) rfl (Nat.le_of_ble_eq_true rfl) (Nat.le_of_ble_eq_true rfl)
  intro data td h9 tk9 hdata k9
  have F9 := F7.keeps k9
  have N9 := N7.keepsAll k9
  clear F7 N7
  walk_at "go"
  (rename Fr _ _ _ _ => F11); (rename News _ _ _ _ => N11)
  have hDc2 : Dc ≠ s₁.heap.objs.size + 1 + 1 := hDcne _ (List.mem_cons_of_mem _ (List.mem_cons_self ..))
  refine for_law F11 N11 (by assumption) (by assumption) ?_ rfl rfl rfl rfl (by decide +kernel) ?_ ?_
  · exact ⟨Nat.ne_of_lt (Nat.lt_succ_self _), hDcne _ (List.mem_cons_of_mem _ (List.mem_cons_of_mem _ (List.mem_cons_self ..))), hDcne _ (List.mem_cons_of_mem _ (List.mem_cons_self ..))⟩
  · clear F11 N11
    intro n u m₁ oC o2 v2 h12 own hu hn hoff d1 d2 F12 N12
    have hn6 := mark_of hn
    dsimp only [turnNames, List.foldr] at F12
    refine execs_toks (n := u + 1) (Nat.le_refl _) ?_
    walk_at "go"
    (rename Fr _ _ _ _ => F13); (rename News _ _ _ _ => N13)
    refine item_strsR (ys := [Str.ofString "." ++ ⟨#[n]⟩, ⟨#[n]⟩ ++ Str.ofString "."]) (News.isList N13 (List.mem_cons_self ..)) (.cons _ _ (.cons _ _ .nil)) ht2.1 (by show _ < (2 : Int); omega) (by omega) ?_
    intro t14
    have hpair : ∃ p0 p1, [Str.ofString "." ++ ⟨#[n]⟩, ⟨#[n]⟩ ++ Str.ofString "."].getD turned.toNat Str.empty = ⟨#[p0, p1]⟩ ∧ ((turned = 0 ∧ p0 = 46 ∧ p1 = n) ∨ (turned = 1 ∧ p0 = n ∧ p1 = 46)) := by
      have : turned = 0 ∨ turned = 1 := by omega
      rcases this with rfl | rfl
      · exact ⟨46, n, rfl, .inl ⟨rfl, rfl, rfl⟩⟩
      · exact ⟨n, 46, rfl, .inr ⟨rfl, rfl, rfl⟩⟩
    obtain ⟨p0, p1, hp, hpc⟩ := hpair
    rw [hp]
    walk_at "go"
    intro hle1
    refine execs_toks hle1 ?_
    walk_at "go"
    refine comp_bytes rfl ?_ rfl (by decide) rfl (by decide) (by decide)
    walk_at "go"
    refine comp_ord rfl ?_ rfl (by decide) rfl (by decide) (by decide)
    walk_at "go"
    (rename Fr _ _ _ _ => F15); (rename News _ _ _ _ => N15)
    refine ⟨_, _, rfl, by show (2 : Nat) ≤ _; decide, ?_, ?_⟩
    · intro C c u s₃ m₃ E' Q' hC hnC hm hk hq
      refine wpAny_Call_NameR (gname_B (fun b o e => hk b o (F15.keep b o e)) X T ?kn bootS_ord (by decide) ?_); (case kn => k_is)
      walk_at "go"
      exact P.ord_of_char (hq _ _)
    intro D16 h16 tk16 ys16 hD16 hPl16 hi16 hk16
    have F16 := F15.keeps hk16
    have N16 := N15.keepsAll hk16
    walk_at "go"
    have hp256 : p0 < 127 ∧ p1 < 127 := by
      have := mark_lt hn6
      rcases hpc with ⟨_, rfl, rfl⟩ | ⟨_, rfl, rfl⟩ <;> omega
    have hsl := show_law ht2 hpc hn6 hch hp4 (by rw [hlo]; exact hdata)
    have hb0 := hsl.1
    have hshow := hsl.2
    have hds : data.size ≤ 10000 := by
      have h1 := congrArg List.length hdata
      rw [octUp_len, KBw.ints_length] at h1
      omega
    refine call_bytes_ints (vs := ys16.toList) (ns := [(p0 : Int), (p1 : Int)]) (by simpa using hPl16.isList) hi16 (by intro k hk; simp only [List.mem_cons, List.not_mem_nil, or_false] at hk; omega) (by have := ints_len hi16; rw [this]; show 2 ≤ sizeLine; decide) rfl ?_
    intro h17 t17 k17 hk17
    rw [byte_pair]
    have F17 := F16.keeps hk17
    have N17 := N16.keepsAll hk17
    walk_at "go"
    refine ⟨X.keeps F17.keep, ?_⟩
    walk_at "go"
    refine wpAny_lower (b64_call (X.keeps F17.keep) (T.keeps F17.keep) hds hb0 ?_) rfl (Nat.le_of_ble_eq_true rfl) (Nat.le_of_ble_eq_true rfl)
    intro r tr h18 tk18 hr k18
    rw [hshow] at hr
    have F18 := F17.keeps k18
    have N18 := N17.keepsAll k18
    clear F15 N15 F16 N16 F17 N17
    have hrs : r.size ≤ 400 := by
      have h1 := congrArg List.length hr
      rw [KBw.ints_length, List.length_map] at h1
      have h2 : page.cps.toList.length = page.length := by unfold Str.length; simp
      omega
    refine ⟨_, _, rfl, by rw [sizeLine_eq]; omega, ?_, ?_⟩
    · intro C k u s₃ m₃ E' Q' hC h0 h1 hnC hm hk hq
      refine wpAny_Call_NameR (gname_B (fun b o e => hk b o (F18.keep b o e)) X T ?kn bootS_chr (by decide) ?_); (case kn => k_is)
      walk_at "go"
      exact P.chr_of_int (by rw [decide_eq_false (by omega), decide_eq_false (by omega)]; rfl) (hq _ _)
    intro D19 h19 tk19 ys19 hD19 hPl19 hs19 hk19
    have F19 := F18.keeps hk19
    have N19 := N18.keepsAll hk19
    clear F18 N18
    have hsg : (KBw.bInts r).map (fun k => (⟨#[k.toNat]⟩ : Str)) = page.cps.toList.map (fun c => (⟨#[repC n c]⟩ : Str)) := by
      rw [hr, List.map_map]
      apply List.map_congr_left
      intro c _
      simp
    rw [hsg] at hs19
    walk_at "go"
    refine join_list (ys := page.cps.toList.map (fun c => (⟨#[repC n c]⟩ : Str))) (by simpa using hPl19.isList) hs19 ?_ ?_
    · have h1 : ∀ l : List Nat, ((l.map (fun c => (⟨#[repC n c]⟩ : Str))).map (·.length)).sum = l.length := by
        intro l
        induction l with
        | nil => rfl
        | cons c l ih => simp only [List.map_cons, List.sum_cons, ih, List.length_cons]; show 1 + _ = _; omega
      have h2 : page.cps.toList.length = page.length := by unfold Str.length; simp
      have h3 : (Str.ofString "").length = 0 := rfl
      rw [h1, h3]; omega
    intro t20 k20
    have hjoin := join_singles n page
    rw [hjoin]
    walk_at "go"
    intro hle2
    have hTOK : ∀ x ∈ cells, TOK (toldOf x ⟨#[n]⟩) := fun x hx => tok_of (hcok x hx) (hlen40 x hx)
    have hul := strs_length hus
    (rename Fr _ _ _ _ => F21); (rename News _ _ _ _ => N21)
    refine execs_toks hle2 ?_
    refine assign_comp_list (fun v y => ∀ x t, v = .str x t → NumIs y (lawNum x ⟨#[n]⟩)) rfl (by with_unfolding_all rfl) ?_ rfl (by decide) rfl (by decide) (by decide) rfl rfl
    walk_at "go"
    refine ⟨s₁.heap, _, _, Dc, us, rfl, News.isList N21 (List.mem_cons_of_mem _ (List.mem_cons_of_mem _ (List.mem_cons_of_mem _ (List.mem_cons_self ..)))), by rw [sizeLine_eq]; omega, F21, N21, ?_, ?_⟩
    · intro C v s₃ m₃ E' hC hv hnC hm hk
      have hk21 := fun b o e => hk b o (F21.keep b o e)
      obtain ⟨x, t, rfl, hx⟩ := strs_mem hus hv
      refine wpAny_Call_NameR (gname_K hk21 X T (v := .ref 78) ?kn ?_)
      case kn => k_is
      walk_at "go"
      refine ⟨X.keeps hk21, ?_⟩
      walk_at "go"
      refine wpAny_lower (number_call (X.keeps hk21) (T.keeps hk21) (Nat.le_trans (hlen40 x hx) (by decide)) (hTOK x hx) ?_) rfl (Nat.le_of_ble_eq_true rfl) (Nat.le_of_ble_eq_true rfl)
      intro v' h' tk' hv' k'
      exact ⟨fun x' t' e => str_inj e ▸ hv', h', tk', rfl, k'⟩
    intro D22 n22 h22 tk22 ys22 F22 N22 hne22 hp22
    have hnums22 := pair_nums hus hp22
    clear F21 N21
    intro hle3
    dsimp only at hle3
    refine execs_toks hle3 ?_
    walk_at "gl"
    (rename Fr _ _ _ _ => F23); (rename News _ _ _ _ => N23)
    have hlp : page.cps.toList.length = page.length := by unfold Str.length; simp
    have hrl : (repS n page).length ≤ 300 := by rw [repS_len]; exact hpl
    refine KSpl.split1 F23 N23 (by decide) ?_ (by rw [sizeLine_eq]; omega)
    intro D24 l24 h24 k24 hl24 hst24 F24 N24 hlt24
    have hsplit : Txt.split (repS n page) (Str.ofString ".") = cells.map (repS n) := by rw [← hpage]; exact split_rep (mark_facts hn6).2.2 hcne fun x hx => ok_nodot (hcok x hx)
    rw [hsplit] at hl24
    rw [hl24] at hst24
    walk_at "gl"
    intro hle4
    dsimp only at hle4
    (rename Fr _ _ _ _ => F25); (rename News _ _ _ _ => N25)
    have hrepl : Txt.replace page (Str.ofString "~") ⟨#[n]⟩ = repS n page := replace_rep page n
    have hlaw0 : normVer (repS n page) (Str.ofString "") = normOf (cells.map (repS n)) (cells.map (fun x => lawNum x ⟨#[n]⟩)) := by rw [← hpage]; exact whole_law hcne hcok hlen40 hn6
    refine wpAny_execs_cons ?_
    refine wpAny_If (wpAny_mono (Q := fun b s' => b = false ∧ ∃ h tk, s' = { s₁ with heap := h, toks := tk } ∧ Fr s₁.heap s₁.heap.objs.size h (frM F25) ∧ News s₁.heap s₁.heap.objs.size h (nwL N25)) ?_ ?_ (fun _ _ e => e))
    · walk_at "go"
      refine SC.replaceA ?_ ?_ ?_ ?_ ?_ (noneBooked X T F25.keep)
      · exact Nat.succ_ne_zero _
      · exact Nat.ne_of_gt (Nat.lt_of_lt_of_le Nat.zero_lt_one hu)
      · exact Nat.ne_of_gt hle4
      · show page.length + (page.length + 1) * 1 ≤ 16777216
        omega
      intro t27 k27
      rw [hrepl]
      walk_at "go"
      refine ne_str ?_
      rw [show (repS n page != repS n page) = false from by simp]
      walk_at "go"
      refine ⟨X.keeps F25.keep, ?_⟩
      walk_at "go"
      have hok0 : VerOk (repS n page) (Str.ofString "") := by rw [← hpage]; exact whole_ok hcne hcok hlen40 hcl (by rw [hpage]; exact hpl) hn6
      refine normver_in F25 N25 X T rfl rfl rfl rfl (Nat.le_of_ble_eq_true rfl) (Nat.le_of_ble_eq_true rfl) (.inr ⟨rfl, rfl, rfl⟩) hok0 ?_
      intro t28 h28 tk28 F28 N28
      walk_at "go"
      refine ⟨X.keeps F28.keep, ?_⟩
      walk_at "go"
      have hrs6 := rep_sum (n := n) hcl hsum
      have hnz := law_fits hcok hlen40 hn6
      refine wpAny_lower (lawnorm_call (X.keeps F28.keep) (T.keeps F28.keep) (News.isList N28 (List.mem_cons_self ..)) hst24 (News.isList N28 (List.mem_cons_of_mem _ (List.mem_cons_self ..))) hnums22 (Nat.le_trans hrs6.1 (by decide)) (Nat.le_trans hrs6.2 (by decide)) (Nat.le_trans (Nat.le_trans (Nat.le_of_eq (List.length_map ..)) hcl) (by decide)) ?_ ?_) rfl (Nat.le_of_ble_eq_true rfl) (Nat.le_of_ble_eq_true rfl)
      · intro m hm
        obtain ⟨x, hx, e⟩ := List.mem_map.mp hm
        exact hnz x hx m e
      intro t29 h29 tk29 k29
      walk_at "go"
      refine ne_str ?_
      rw [hlaw0]
      rw [show (normOf (cells.map (repS n)) (cells.map (fun x => lawNum x ⟨#[n]⟩)) != normOf (cells.map (repS n)) (cells.map (fun x => lawNum x ⟨#[n]⟩))) = false from by simp]
      walk_at "go"
      exact ⟨rfl, h29, _, rfl, F28.keeps k29, N28.keepsAll k29⟩
    rintro _ _ ⟨rfl, h26, tk26, rfl, F26, N26⟩
    dsimp only [frM, nwL] at F26 N26
    clear F25 N25
    walk_at "gl"
    have hN27 : News s₁.heap s₁.heap.objs.size h26 ((D24, W.listOf (strValues l24).toArray 0) :: (D22, W.listOf ys22.toArray n22) :: (s₁.heap.objs.size + 1, oC) :: (s₁.heap.objs.size + 1 + 1, o2) :: (Dc, W.listOf us.toArray nc) :: own) := fun p hp => N26 p (by
      simp only [List.mem_cons] at hp ⊢
      rcases hp with h | h | h | h | h | h <;> simp [h])
    have hcpos : 1 ≤ cells.length := by rw [← hcells]; unfold cellsOf; simp
    refine For_invVF F26 rfl rfl ?_
    walk_at "go"
    refine len_strsA (l := us) (News.isList hN27 (List.mem_cons_of_mem _ (List.mem_cons_of_mem _ (List.mem_cons_of_mem _ (List.mem_cons_of_mem _ (List.mem_cons_self ..)))))) hus (cast_small hcl) ?_
    walk_at "go"
    refine range2_rows F26 hN27 ?_
    intro h30 tk30 ta30 tb30 tc30 hr30 F30 N30 k30
    clear F26 N26 hN27
    walk_at "go"
    refine iter_rangeN (n := cells.length - 1) (fun i m nx => ∃ o v, nx = (D24, W.listOf (strValues l24).toArray 0) :: (D22, W.listOf ys22.toArray n22) :: (s₁.heap.objs.size + 1, oC) :: (s₁.heap.objs.size + 1 + 1, o) :: (Dc, W.listOf us.toArray nc) :: own ∧ o.data = Data.cell v ∧ ∀ y, (∀ n ∈ innerNames, y ≠ n) → m y = frM F30 y) rfl hr30 ?_ ?_ F30 N30 ⟨o2, v2, rfl, d2, fun _ _ => rfl⟩ ?_ ?_
    · exact range_small (by omega) (by omega) (by omega)
    · exact range_one hcpos
    · rintro i t31 m₃ nx h31 tk31 own31 hi31 hoff31 ⟨o3, v3, rfl, d3, hm3⟩ F31 N31
      rw [keepMap innerNames hm3] at F31
      dsimp only [frM, innerNames, List.foldr] at F31
      obtain ⟨kk, hkk, hk1, hk2⟩ : ∃ kk : Nat, (1 + (i : Int) * 1) = (kk : Int) ∧ 1 ≤ kk ∧ kk < cells.length := ⟨i + 1, by omega, by omega, by omega⟩
      rw [hkk] at F31
      walk_at "go"
      have htl : (cells.map (repS n)).length = cells.length := List.length_map ..
      have hstl := strs_length hst24
      (rename Fr _ _ _ _ => F32); (rename News _ _ _ _ => N32)
      refine' kms_slice_lit F32 N32 (News.isList N32 (List.mem_cons_self ..)) (.int (kk : Int) _) .none (pick_from (k := (kk : Int)) (Int.natCast_nonneg _)) ?_ ?hs ?ht ?hz
      case hs => with_unfolding_all rfl
      case ht => intro _; with_unfolding_all rfl
      case hz => rw [sizeLine_eq]; simp; omega
      intro D33 h33 F33 N33 l33
      dsimp only
      walk_at "go"
      have hrsum := rep_sum (n := n) hcl hsum
      have hdf := cut_fit (drop_cut hrsum kk)
      have hbl := hdf.1
      refine join_list (ys := (cells.map (repS n)).drop kk) (News.isList N33 (List.mem_cons_self ..)) (by simpa using strs_drop hst24 kk) hdf.2 ?_
      intro t34 k34
      generalize hbuild : Txt.join (Str.ofString ".") ((cells.map (repS n)).drop kk) = build at hbl ⊢
      walk_at "gi"
      (rename Fr _ _ _ _ => F34); (rename News _ _ _ _ => N34)
      refine wpAny_Assign_Name (wpAny_mono (Q := fun v s' => ∃ D vs nn h tk, v = .ref D ∧ s' = { s₁ with heap := h, toks := tk } ∧ Fr s₁.heap s₁.heap.objs.size h (frM F34) ∧ News s₁.heap s₁.heap.objs.size h ((D, W.listOf (List.toArray vs) nn) :: nwL N34) ∧ StrsAre vs (moreOf build)) ?_ ?_ (fun _ _ e => e))
      · refine wpAny_IfExp ?_
        walk_at "go"
        refine eq_str ?_
        walk_at "go"
        refine split_bool ?_ ?_ <;> intro hb
        · have hb' : build = Str.ofString "" := by simpa using hb
          walk_at "go"
          (rename Fr _ _ _ _ => F35); (rename News _ _ _ _ => N35)
          refine ⟨_, [], 0, _, _, rfl, rfl, F35, N35, ?_⟩
          rw [hb']
          exact .nil
        · have hb' : build ≠ Str.ofString "" := by simpa using hb
          have hb2 : ¬ build.length = 0 := fun h => hb' (Str.ext' (by
            have h3 : build.cps.size = 0 := h
            rw [Array.size_eq_zero_iff.mp h3]; rfl))
          walk_at "go"
          (rename Fr _ _ _ _ => F35); (rename News _ _ _ _ => N35)
          refine ⟨_, [_], 0, _, _, rfl, rfl, F35, N35, ?_⟩
          unfold moreOf
          rw [if_neg hb2]
          exact .cons _ _ .nil
      · rintro _ _ ⟨D35, ms, nn, h35, tk35, rfl, rfl, F35, N35, hms⟩
        dsimp only [frM, nwL] at F35 N35
        clear F34 N34
        walk_at "gi"
        (rename Fr _ _ _ _ => F36); (rename News _ _ _ _ => N36)
        have hnl := nums_length hnums22
        have hkl : (cells.map (fun x => lawNum x ⟨#[n]⟩)).length = cells.length := List.length_map ..
        obtain ⟨kv, hkv⟩ : ∃ kv : Option Int, (if kk = cells.length - 1 then ((cells.map (fun x => lawNum x ⟨#[n]⟩)).getD kk none) else none) = kv := ⟨_, rfl⟩
        refine wpAny_Assign_Name (wpAny_mono (Q := fun v s' => ∃ tk, NumIs v kv ∧ s' = { s₁ with heap := frH F36, toks := tk }) ?_ ?_ (fun _ _ e => e))
        · refine wpAny_IfExp ?_
          walk_at "go"
          refine len_strsA (l := us) (News.isList N36 mem6) hus (cast_small hcl) ?_
          walk_at "go"
          refine eq_int ?_
          walk_at "go"
          refine split_bool ?_ ?_ <;> intro hb
          · have hb' : kk = cells.length - 1 := (last_cast (Nat.le_of_lt (Nat.lt_of_le_of_lt hk1 hk2))).mp (eq_of_beq hb)
            walk_at "go"
            obtain ⟨v', hv', hn'⟩ := nums_get hnums22 (i := kk) (by rw [hkl]; exact hk2)
            refine item_listR (News.isList N36 mem3) (Int.natCast_nonneg _) (small63 hk2 hcl) (by simpa using hv') ?_
            walk_at "go"
            exact ⟨_, by rw [← hkv, if_pos hb']; exact hn', rfl⟩
          · have hb' : ¬ kk = cells.length - 1 := fun h => by
              rw [beq_eq_false_iff_ne] at hb
              exact hb ((last_cast (Nat.le_of_lt (Nat.lt_of_le_of_lt hk1 hk2))).mpr h)
            walk_at "go"
            exact ⟨_, by rw [← hkv, if_neg hb']; rfl, rfl⟩
        · rintro v37 _ ⟨tk37, hv37, rfl⟩
          dsimp only [frH]
          walk_at "gi"
          have hoff9 : ∀ p ∈ (Dc, W.listOf us.toArray nc) :: (own ++ own31), p.1 ≠ s₁.heap.objs.size + 1 + 1 := by
            intro p hp
            rcases List.mem_cons.mp hp with rfl | hp
            · exact hDc2
            · rcases List.mem_append.mp hp with hp | hp
              · exact hoff p hp _ (by simp)
              · exact hoff31 p hp _ (by simp)
          refine store_value F36 N36 rfl d3 (Nat.ne_of_lt (Nat.lt_succ_self _)) hoff9 ?_
          intro h38 o38 F38 N38 d38
          clear F36 N36
          walk_at "gi"
          refine' kms_slice_lit F38 N38 (News.isList N38 (List.mem_cons_of_mem _ (List.mem_cons_of_mem _ (List.mem_cons_self ..)))) .none (.int (kk : Int) _) (pick_to (k := (kk : Int)) (Int.natCast_nonneg _)) ?_ ?hs ?ht ?hz
          case hs => with_unfolding_all rfl
          case ht => intro _; with_unfolding_all rfl
          case hz => rw [sizeLine_eq]; simp; omega
          intro D39 h39 F39 N39 l39
          dsimp only
          walk_at "gi"
          have hml := strs_length hms
          have hmore1 : (moreOf build).length ≤ 1 := by unfold moreOf; split <;> simp
          refine kmk_add_lit F39 N39 (News.isList N39 (List.mem_cons_self ..)) (News.isList N39 (List.mem_cons_of_mem _ (List.mem_cons_self ..))) rfl ?_ (by rw [sizeLine_eq]; simp; omega)
          intro D40 h40 F40 N40 l40
          walk_at "gi"
          refine' kms_slice_lit F40 N40 (News.isList N40 (List.mem_cons_of_mem _ (List.mem_cons_of_mem _ (List.mem_cons_of_mem _ (List.mem_cons_of_mem _ (List.mem_cons_of_mem _ (List.mem_cons_self ..))))))) .none (.int (kk : Int) _) (pick_to (k := (kk : Int)) (Int.natCast_nonneg _)) ?_ ?hs ?ht ?hz
          case hs => with_unfolding_all rfl
          case ht => intro _; with_unfolding_all rfl
          case hz => rw [sizeLine_eq]; simp; omega
          intro D41 h41 F41 N41 l41
          dsimp only
          walk_at "gi"
          refine comp_list (fun _ y => y = v37) rfl ?_ rfl (by decide) rfl (by decide) (by decide)
          walk_at "gi"
          refine ⟨D35, ms, rfl, News.isList N41 mem3, by rw [sizeLine_eq]; omega, ?_, ?_⟩
          · intro C v s₃ m₃ E' hC hv hnC hm hk
            have F41' := F41.keeps hk
            have N41' := N41.keepsAll hk
            walk_at "go"
            exact ⟨rfl, s₃.heap, s₃.toks, rfl, fun _ _ e => e⟩
          intro D42 h42 tk42 ys42 hD42 hPl42 hp42 hk42
          have F42 := F41.keeps hk42
          obtain ⟨n42, hD42'⟩ := hPl42
          have N42 : News s₁.heap s₁.heap.objs.size h42 ((D42, W.listOf (List.toArray ys42.toList) n42) :: _) := News.more F42 (N41.keepsAll hk42) (by simpa using hD42') (by intro es n q; cases q) (by
            cases e : s₁.heap.get? D42 with
            | none => rfl
            | some o' => have := F41.keep _ _ e; dsimp only at hD42; rw [this] at hD42; cases hD42)
          have hn42 := pair_same hms hv37 hp42
          have hn42l := nums_length hn42
          rw [List.length_map] at hn42l
          have hn42s : ys42.size ≤ 1 := by
            have : ys42.toList.length = ys42.size := by simp
            omega
          clear F41 N41
          walk_at "gi"
          refine kmk_add_lit F42 N42 (News.isList N42 (List.mem_cons_of_mem _ (List.mem_cons_self ..))) (News.isList N42 (List.mem_cons_self ..)) rfl ?_ (by rw [sizeLine_eq]; simp; omega)
          intro D43 h43 F43 N43 l43
          walk_at "gi"
          refine ⟨X.keeps F43.keep, ?_⟩
          walk_at "gi"
          have hnz := law_fits hcok hlen40 hn6
          have hst40 : StrsAre (List.take kk (strValues l24) ++ ms) ((cells.map (repS n)).take kk ++ moreOf build) := strs_append (strs_take hst24 kk) hms
          have hnm43 : NumsAre (List.take kk ys22 ++ ys42.toList) ((cells.map (fun x => lawNum x ⟨#[n]⟩)).take kk ++ (moreOf build).map (fun _ => kv)) := nums_append (nums_take hnums22 kk) hn42
          have htc := take_cut hrsum kk
          have hbs := both_sum htc (more_len build) (more_sum hbl)
          refine wpAny_lower (lawnorm_call (X.keeps F43.keep) (T.keeps F43.keep) (by simpa using News.isList N43 mem3) hst40 (by simpa using News.isList N43 (List.mem_cons_self ..)) hnm43 hbs.1 hbs.2 (nums_len (Nat.le_trans (Nat.le_of_eq (List.length_map ..)) hcl) (more_len build)) ?_ ?_) rfl (Nat.le_of_ble_eq_true rfl) (Nat.le_of_ble_eq_true rfl)
          · intro m hm
            have known : some m ∈ cells.map (fun x => lawNum x ⟨#[n]⟩) → m.natAbs.log2 < 1920 := fun hm => by
              obtain ⟨x, hx, e⟩ := List.mem_map.mp hm
              exact hnz x hx m e
            rcases List.mem_append.mp hm with hm | hm
            · exact known (List.mem_of_mem_take hm)
            · obtain ⟨_, _, e⟩ := List.mem_map.mp hm
              rw [e] at hkv
              split at hkv
              · rw [List.getD_eq_getElem?_getD] at hkv
                cases q : (cells.map (fun x => lawNum x ⟨#[n]⟩))[kk]? with
                | none => rw [q] at hkv; cases hkv
                | some y => rw [q] at hkv; exact known (List.mem_of_getElem? (by rw [q]; exact congrArg some hkv))
              · cases hkv
          intro t44 h44 tk44 k44
          have F44 := F43.keeps k44
          have N44 := news_drop (N43.keepsAll k44) 7
          dsimp only [List.drop] at N44
          clear F43 N43
          generalize hdue : normOf ((cells.map (repS n)).take kk ++ moreOf build) ((cells.map (fun x => lawNum x ⟨#[n]⟩)).take kk ++ (moreOf build).map (fun _ => kv)) = due
          walk_at "gi"
          refine wpAny_If ?_
          walk_at "gi"
          (rename Fr _ _ _ _ => F45); (rename News _ _ _ _ => N45)
          refine' kms_slice_lit F45 N45 (News.isList N45 (List.mem_cons_self ..)) .none (.int (kk : Int) _) (pick_to (k := (kk : Int)) (Int.natCast_nonneg _)) ?_ ?hs ?ht ?hz
          case hs => with_unfolding_all rfl
          case ht => intro _; with_unfolding_all rfl
          case hz => rw [sizeLine_eq]; simp; omega
          intro D46 h46 F46 N46 l46
          dsimp only
          clear F45 N45
          walk_at "gi"
          have htf := cut_fit htc
          have hvl := htf.1
          refine join_list (ys := (cells.map (repS n)).take kk) (News.isList N46 (List.mem_cons_self ..)) (by simpa using strs_take hst24 kk) htf.2 ?_
          intro t47 k47
          walk_at "gi"
          have hok1 := cut_ok hbuild hk1 hk2 hcok hlen40 hcl hn6 hvl hbl
          have hlaw1 := (cut_law hbuild hkv hk1 hk2 hcok hlen40 hn6 hbl).trans hdue
          refine ⟨X.keeps F46.keep, ?_⟩
          walk_at "gi"
          refine normver_in F46 N46 X T rfl rfl rfl rfl (Nat.le_of_ble_eq_true rfl) (Nat.le_of_ble_eq_true rfl) (.inl rfl) hok1 ?_
          intro t48 h48 tk48 F48 N48
          walk_at "gi"
          refine ne_str ?_
          rw [hlaw1, show (due != due) = false from by simp]
          walk_at "gi"
          refine InvEndN.intro (nx := (D24, W.listOf (strValues l24).toArray 0) :: (D22, W.listOf ys22.toArray n22) :: (s₁.heap.objs.size + 1, oC) :: (s₁.heap.objs.size + 1 + 1, o38) :: (Dc, W.listOf us.toArray nc) :: own) F48 N48 ⟨o38, _, rfl, d38, ?_⟩ rfl (fun p hp => List.mem_cons_of_mem _ (List.mem_append_left own31 hp)) (fun p hp => List.mem_cons_of_mem _ (List.mem_append_right ((D24, W.listOf (strValues l24).toArray 0) :: (D22, W.listOf ys22.toArray n22) :: (s₁.heap.objs.size + 1, oC) :: (s₁.heap.objs.size + 1 + 1, o38) :: (Dc, W.listOf us.toArray nc) :: own) hp))
          intro z hz
          have q : ∀ n ∈ innerNames, ¬ z = n := hz
          unfold innerNames at q
          simp only [List.mem_cons, List.not_mem_nil, or_false, forall_eq_or_imp, forall_eq] at q
          obtain ⟨q1, q2, q3, q4⟩ := q
          dsimp only [frM]
          simp only [if_neg q1, if_neg q2, if_neg q3, if_neg q4]
    · rintro m₃ nx h31 tk31 ⟨o3, v3, rfl, d3, hm3⟩ F31 N31
      rw [keepMap innerNames hm3] at F31
      dsimp only [frM, innerNames, List.foldr] at F31
      walk_at "go"
      refine InvEndN.intro (nx := [(s₁.heap.objs.size + 1, oC), (s₁.heap.objs.size + 1 + 1, o3), (Dc, W.listOf us.toArray nc)]) F31 N31 ⟨_, _, _, _, rfl, d1, d3, ?_⟩ rfl ?_ ?_
      · intro z hz
        have q : ∀ n ∈ turnNames, ¬ z = n := hz
        unfold turnNames at q
        simp only [List.mem_cons, List.not_mem_nil, or_false, forall_eq_or_imp, forall_eq] at q
        obtain ⟨q1, q2, q3, q4, q5, q6, q7, q8⟩ := q
        simp only [if_neg q1, if_neg q2, if_neg q3, if_neg q4, if_neg q5, if_neg q6, if_neg q7, if_neg q8]
      · intro p hp
        simp only [List.mem_cons, List.not_mem_nil, or_false] at hp ⊢
        rcases hp with h | h | h <;> simp [h]
      · intro p hp
        simp only [List.mem_cons]
        simp [hp]
  · clear F11 N11
    intro m₁ h12 tk12 F12 N12
    dsimp only [turnNames, List.foldr] at F12
    walk_at "go"
    dsimp only
    walk_at "go"
    k_end; wrow_close
end Mine

theorem PySem.Challenge.cw_mq0053_01_holds : PySem.Challenge.rw_mq0053_01.Holds :=
  Mine.goal
