import PyProof.Rows.All
import Wide.All
import OpenK.AllK
import Wide.FinOn
import PyProof.ListNew
import PyProof.Rows.SetFrom
import PyProof.ZipIter
import PySem.Challenge.RW_fq5033_01
section
local macro_rules | `(tactic| walk_at "pad") => `(tactic| skip)
open PySem PySem.W PyProof.Rows
set_option Elab.async false
set_option maxRecDepth 100000
set_option maxHeartbeats 8000000
namespace Mine
open_top hd for PySem.Challenge.rw_fq5033_01
end Mine
end

section
open PySem PySem.W PySem.W.X PyProof.Rows PySem.Calls PySem.Spec
set_option Elab.async false
set_option maxRecDepth 100000
set_option maxHeartbeats 8000000
namespace Mine

structure Env0 (w : World) (p : Program) (loose : List Str) (mg mb : Str → Option Value) (bm : Addr) (ob : Obj) (h : Heap) : Prop where
  k : (hd.heap_39 w.params).In h
  t : TopRead p loose mg mb h
  b : BMod h mainGlobals mg bm ob

def Tab (h : Heap) : Prop := ∃ ps, h.get? 194 = some (tableObj ps) ∧ TriplesOk ps.toList

structure Gd (w : World) (p : Program) (loose : List Str) (mg mb : Str → Option Value) (bm : Addr) (ob : Obj) (s : Shared) : Prop where
  e : Env0 w p loose mg mb bm ob s.heap
  tab : Tab s.heap
  bare : AllBare s.gens

structure To (s s' : Shared) : Prop where
  keep : ∀ b o, b ≠ 194 → s.heap.get? b = some o → s'.heap.get? b = some o
  tab : Tab s'.heap
  bare : AllBare s'.gens
  os : s'.os = s.os

section
variable {w : World} {p : Program} {loose : List Str} {mg mb : Str → Option Value} {bm : Addr} {ob : Obj} {h h' h₀ : Heap} {s s' s'' : Shared} {L : Addr} {m : Str → Option Value} {news : List (Addr × Obj)} {g : Obj → List (Addr × Obj)} {ps : Array Value}

theorem To.trans (a : To s s') (b : To s' s'') : To s s'' := ⟨fun x o n e => b.keep x o n (a.keep x o n e), b.tab, b.bare, b.os.trans a.os⟩

theorem Env0.keeps (E : Env0 w p loose mg mb bm ob h) (k : ∀ b o, h.get? b = some o → h'.get? b = some o) : Env0 w p loose mg mb bm ob h' := ⟨E.k.keeps k, E.t.keeps k, E.b.keeps k⟩

theorem notin (w : World) : (hd.heap_39 w.params).lookup 194 = none := rfl

theorem ns_but {a : Addr} {m : Str → Option Value} (x : h.Ns a m) (ha : a ≠ 194) (k : ∀ b o, b ≠ 194 → h.get? b = some o → h'.get? b = some o) : h'.Ns a m := by
  obtain ⟨o, es, ep, ho, r⟩ := x
  exact ⟨o, es, ep, k _ _ ha ho, r⟩

theorem Env0.but (E : Env0 w p loose mg mb bm ob h) (hb : bm ≠ 194) (k : ∀ b o, b ≠ 194 → h.get? b = some o → h'.get? b = some o) : Env0 w p loose mg mb bm ob h' := by
  refine ⟨fun a o e => ?_, ⟨ns_but E.t.g (by decide) k, ns_but E.t.b (by decide) k, ?_, E.t.builtins, E.t.free⟩, ⟨ns_but E.b.ns (by decide) k, E.b.name, E.b.ne, k _ _ hb E.b.obj, E.b.cls, E.b.dict, E.b.data⟩⟩
  · refine k _ _ (fun q => ?_) (E.k a o e)
    rw [q, notin] at e; cases e
  · obtain ⟨mc, h1, h2⟩ := E.t.nolimit
    exact ⟨mc, ns_but h1 (by decide) k, h2⟩

theorem tab_ne (E : Env0 w p loose mg mb bm ob h) (T : Tab h) : bm ≠ 194 := fun q => by
  obtain ⟨ps, hp, _⟩ := T
  have := E.b.obj
  rw [q, hp] at this; cases this
  exact absurd E.b.cls (by simp [tableObj])

theorem Gd.step (G : Gd w p loose mg mb bm ob s) (T : To s s') : Gd w p loose mg mb bm ob s' := ⟨G.e.but (tab_ne G.e G.tab) T.keep, T.tab, T.bare⟩

theorem Gd.base (G : Gd w p loose mg mb bm ob s) : Env0 w p loose mg mb bm ob (s.heap.hide 194) :=
  G.e.but (tab_ne G.e G.tab) fun _ _ n e => (Heap.hide_ne _ n).trans e

theorem Gd.of (E : Env0 w p loose mg mb bm ob h₀) (F : Fr h₀ L s.heap m) (N : News h₀ L s.heap news) (hm : (194, tableObj ps) ∈ news) (ht : TriplesOk ps.toList) (G : AllBare s.gens) : Gd w p loose mg mb bm ob s :=
  ⟨E.keeps F.keep, ⟨ps, N.get hm, ht⟩, G⟩

theorem UpdF.mem {o : Obj} {d : Addr} (U : UpdF d o news g) : (d, o) ∈ news := by
  obtain ⟨pre, post, rfl, _, _, _⟩ := U.split
  simp

theorem After {h₀ : Heap} (F : Fr h₀ L s.heap m) (N : News h₀ L s.heap news) (U : UpdF 194 (tableObj ps) news g) (T : To s s') :
    ∃ ps', TriplesOk ps'.toList ∧ Fr h₀ L s'.heap m ∧ News h₀ L s'.heap (g (tableObj ps')) := by
  obtain ⟨ps', hp, ht⟩ := T.tab
  obtain ⟨pre, post, rfl, hg, h1, h2⟩ := U.split
  have hm := N (194, tableObj ps) (by simp)
  have hL : L ≠ 194 := fun e => hm.2.1 e.symm
  refine ⟨ps', ht, ⟨ns_but F.ns hL T.keep, fun b o e => T.keep b o (fun q => ?_) (F.keep b o e), F.above⟩, fun q hq => ?_⟩
  · rw [q, hm.2.2] at e; cases e
  · rw [hg] at hq
    rcases List.mem_append.mp hq with hq | hq
    · exact ⟨T.keep _ _ (h1 q hq) (N q (by simp [hq])).1, (N q (by simp [hq])).2⟩
    · rcases List.mem_cons.mp hq with rfl | hq
      · exact ⟨hp, hm.2⟩
      · exact ⟨T.keep _ _ (h2 q hq) (N q (by simp [hq])).1, (N q (by simp [hq])).2⟩
end

/-- a contract's result: a value told by P, behind a step -/
def Gives (s : Shared) (P : Value → Shared → Prop) (r : Result) (s' : Shared) : Prop := ∃ v, r = .ok (.ret v) ∧ P v s' ∧ To s s'

theorem call_by {M : Model} {A : Around} {E : Value → Shared → Prop} {s : Shared} {f : Value} {pos : List Value} {P Q : Value → Shared → Prop} (c : codeAny M A (.call f ⟨pos, []⟩) (Gives s P) s)
    (h : ∀ v s', P v s' → To s s' → Q v s') : wpAny M A (call f pos) Q E s := by
  refine wpAny_call (codeAny_mono c fun r s' g => ?_)
  obtain ⟨v, rfl, hp, ht⟩ := g
  exact h v s' hp ht

/-- what a walked body must end in -/
def Ends (s : Shared) (L : Addr) (P : Value → Shared → Prop) (v : Value) (s' : Shared) : Prop :=
  P v s' ∧ ∃ m' ps' news', Fr (s.heap.hide 194) L s'.heap m' ∧ (194, tableObj ps') ∈ news' ∧ News (s.heap.hide 194) L s'.heap news' ∧ TriplesOk ps'.toList ∧ AllBare s'.gens ∧ s'.os = s.os

theorem Ends.to {s s' : Shared} {L : Addr} {P : Value → Shared → Prop} {v : Value} (e : Ends s L P v s') : Gives s P (.ok (.ret v)) s' := by
  obtain ⟨hp, m', ps', news', F, hm, N, ht, hg, ho⟩ := e
  exact ⟨v, rfl, hp, fun b o n e => F.keep b o ((Heap.hide_ne _ n).trans e), ⟨ps', N.get hm, ht⟩, hg, ho⟩

theorem Ends.of {s s' : Shared} {L : Addr} {P : Value → Shared → Prop} {v : Value} {m' : Str → Option Value} {news' : List (Addr × Obj)} {ps' : Array Value} (F : Fr (s.heap.hide 194) L s'.heap m') (N : News (s.heap.hide 194) L s'.heap news')
    (hm : (194, tableObj ps') ∈ news') (ht : TriplesOk ps'.toList) (hg : AllBare s'.gens) (hp : P v s') (ho : s'.os = s.os := by rfl) : Ends s L P v s' := ⟨hp, m', ps', news', F, hm, N, ht, hg, ho⟩

abbrev prog : Program := PySem.Challenge.rw_fq5033_01.row.prog

section
variable {w : World} {p : Program} {loose : List Str} {mg mb : Str → Option Value} {bm : Addr} {ob : Obj} {s : Shared} {A : Around}
  {name qual : Str} {params : Arguments} {body : List Stmt} {scope : Scope} {dV kV doc pm cdv ct oc : Value} {an od : Option Addr} {osl : Array (Option Value)} {f : Addr} {args : Args} {P : Value → Shared → Prop}

theorem enterC {binds : List (Str × Value)} (G : Gd w p loose mg mb bm ob s)
    (ho : (hd.heap_39 w.params).lookup f = some ⟨oc, od, .func (fnOf name qual params body scope dV kV doc pm an cdv ct), osl⟩)
    (hcd : codeIn (hd.heap_39 w.params) cdv qual = true) (hroom : A.depth < recursionLimit)
    (hbind : BindsTo s (fnOf name qual params body scope dV kV doc pm an cdv ct) args binds)
    (hkind : (binds.all fun y => scope.names.lookup y.1 == some .local || scope.names.lookup y.1 == some .cell) = true)
    (hnd : ((cellsFrom 0 scope.names []).map (·.1)).Nodup)
    (h : ∀ ps L' h₁ tk cells, TriplesOk ps.toList → Env0 w p loose mg mb bm ob (s.heap.hide 194) → s.heap.objs.size ≤ L' →
      Fr (s.heap.hide 194) L' h₁ (bindL (envOfC qual scope L' f cdv).kindOf binds fun _ => none) →
      News (s.heap.hide 194) L' h₁ (cells ++ [(194, tableObj ps)]) →
      CellsAre (bindC (envOfC qual scope L' f cdv).kindOf binds fun _ => none) (cellsFrom (L' + 1) scope.names []) cells →
      194 < L' → AllBare s.gens →
      wpAny (model prog w) (A.deeper (envOfC qual scope L' f cdv)) (execs body (envOfC qual scope L' f cdv))
        (fun fl s' => Ends s L' P (match fl with | .ret v => v | _ => .none) s') (fun _ _ => False) { s with heap := h₁, toks := tk })
    (hco : scope.isCoroutine = false := by rfl) (hgen : scope.isGenerator = false := by rfl) (hk : scope.kind = .function := by rfl) :
    codeAny (model prog w) A (.call (.ref f) args) (Gives s P) s := by
  refine codeAny_call_function hroom (G.e.k _ _ ho) rfl hco hgen rfl (codeRec_of G.e.k hcd) (hbind _ _ _ _ ?_)
  refine wpAny_newFunctionEnv_cells hk (kindsX hkind _) fun env' he s' x => ?_
  subst he
  refine ⟨G.e.t.nolimit.keeps x.toInCall.keep, codeAny_func ?_⟩
  obtain ⟨h₁, tk, rfl, _⟩ := x.done
  have hk₁ := x.toInCall.keep
  obtain ⟨ps, hp, ht⟩ := G.tab
  have h194 : 194 < s.heap.objs.size := Heap.lt_size hp
  obtain ⟨cells, NC, Y⟩ := Cl.news (h₀ := s.heap) (Nat.le_refl _) fun n c hm => ⟨x.cell n c (lookup_of_mem_nodup (cellsFrom_names scope.names 0 (s.heap.objs.size + 1) [] [] rfl ▸ hnd) hm), x.above n c hm⟩
  refine wpAny_mono (h ps s.heap.objs.size h₁ tk cells ht G.base (Nat.le_refl _) ⟨x.toInCall.ns, fun b o e => hk₁ b o (Heap.of_hide e), Nat.le_of_eq (Heap.hide_size _ _)⟩ (fun q hq => ?_) Y h194 G.bare) (fun fl s' hl => hl.to) fun _ _ y => y.elim
  · rcases List.mem_append.mp hq with hq | hq
    · refine ⟨(NC q hq).1, (NC q hq).2.1, ?_⟩
      cases e : (s.heap.hide 194).get? q.1 with
      | none => rfl
      | some o => have := Heap.of_hide e; rw [(NC q hq).2.2] at this; cases this
    · rw [List.mem_singleton.mp hq]
      exact ⟨hk₁ _ _ hp, Nat.ne_of_lt h194, Heap.hide_self _ _⟩

theorem wp_peek {α : Type} {K : Frag} {M : Model} {A : Around} {E : Value → Shared → Prop} {Q : α → Shared → Prop} {s : Shared} {o : Obj} {r : Addr → α} (X : K.In s.heap)
    (q : Q (r s.heap.objs.size) { s with heap := s.heap.push o }) :
    ∀ (t : Sem α) (g : Addr → Option α), peek1 K ⟨M.prog, M.w.params⟩ t = some (o, g) → (∀ D, g D = some (r D)) → wpAny M A t Q E s := by
  intro t
  induction t with
  | rule _ k ih => intro g e hg Γ p hΓ; exact ih () g e hg Γ p hΓ
  | point _ k ih => intro g e hg Γ p hΓ; exact ih () g e hg Γ p hΓ
  | ask k ih => intro g e hg Γ p hΓ; exact ih _ g e hg Γ p hΓ
  | load a _ k ih =>
    intro g e hg Γ p hΓ
    simp only [peek1] at e
    split at e
    · rename_i ob ho; exact ⟨ob, X _ _ ho, ih ob g e hg Γ p hΓ⟩
    · cases e
  | alloc ob k _ =>
    intro g e hg
    have e : some (ob, fun D => peek K ⟨M.prog, M.w.params⟩ (k D)) = some (o, g) := e
    obtain ⟨e1, e2⟩ := Prod.mk.inj (Option.some.inj e)
    subst e1
    subst e2
    have X' : K.In (s.heap.push ob) := X.keeps fun b x hb => Heap.get?_push_of_some _ hb
    show wpAny M A (alloc ob >>= k) Q E s
    refine wpAny_bind (wpAny_alloc ?_)
    exact (Looks.of_peek (M := M) (h := s.heap.push ob) X' (hg s.heap.objs.size)).here (s := { s with heap := s.heap.push ob }) q
  | _ => intro g e; cases e

/-- a def with *rest, cells allowed: the rest's tuple at D -/
theorem enterR {vs : List Value} {g₁ : Addr → Option (List (Str × Value))} {binds : Addr → List (Str × Value)} (G : Gd w p loose mg mb bm ob s)
    (ho : (hd.heap_39 w.params).lookup f = some ⟨oc, od, .func (fnOf name qual params body scope dV kV doc pm an cdv ct), osl⟩)
    (hcd : codeIn (hd.heap_39 w.params) cdv qual = true) (hroom : A.depth < recursionLimit)
    (hp : peek1 (hd.heap_39 w.params) ⟨prog, w.params⟩ (bindArgs (fnOf name qual params body scope dV kV doc pm an cdv ct) args) = some (({ cls := .type "tuple", data := .seq vs.toArray } : Obj), g₁))
    (hg : ∀ D, g₁ D = some (binds D))
    (hkind : ∀ D, ((binds D).all fun y => scope.names.lookup y.1 == some .local || scope.names.lookup y.1 == some .cell) = true)
    (hnd : ((cellsFrom 0 scope.names []).map (·.1)).Nodup)
    (h : ∀ ps D L' h₁ tk cells, TriplesOk ps.toList → s.heap.get? 194 = some (tableObj ps) → Env0 w p loose mg mb bm ob (s.heap.hide 194) → s.heap.objs.size ≤ D → D < L' →
      Fr (s.heap.hide 194) L' h₁ (bindL (envOfC qual scope L' f cdv).kindOf (binds D) fun _ => none) →
      News (s.heap.hide 194) L' h₁ (cells ++ [(D, ({ cls := .type "tuple", data := .seq vs.toArray } : Obj)), (194, tableObj ps)]) →
      CellsAre (bindC (envOfC qual scope L' f cdv).kindOf (binds D) fun _ => none) (cellsFrom (L' + 1) scope.names []) cells →
      194 < D → AllBare s.gens →
      wpAny (model prog w) (A.deeper (envOfC qual scope L' f cdv)) (execs body (envOfC qual scope L' f cdv))
        (fun fl s' => Ends s L' P (match fl with | .ret v => v | _ => .none) s') (fun _ _ => False) { s with heap := h₁, toks := tk })
    (hco : scope.isCoroutine = false := by rfl) (hgen : scope.isGenerator = false := by rfl) (hk : scope.kind = .function := by rfl) :
    codeAny (model prog w) A (.call (.ref f) args) (Gives s P) s := by
  refine codeAny_call_function hroom (G.e.k _ _ ho) rfl hco hgen rfl (codeRec_of G.e.k hcd) ?_
  refine wp_peek (o := ({ cls := .type "tuple", data := .seq vs.toArray } : Obj)) (r := binds) G.e.k ?_ _ g₁ hp hg
  refine wpAny_newFunctionEnv_cells hk (kindsX (hkind _) _) fun env' he s' x => ?_
  subst he
  refine ⟨(G.e.t.nolimit.push _).keeps x.toInCall.keep, codeAny_func ?_⟩
  obtain ⟨h₁, tk, rfl, _⟩ := x.done
  have hk₁ := x.toInCall.keep
  obtain ⟨ps, hp, ht⟩ := G.tab
  have h194 : 194 < s.heap.objs.size := Heap.lt_size hp
  have hsz : ({ s with heap := s.heap.push ({ cls := .type "tuple", data := .seq vs.toArray } : Obj) } : Shared).heap.objs.size = s.heap.objs.size + 1 := Heap.size_push ..
  obtain ⟨cells, NC, Y⟩ := Cl.news (h₀ := s.heap.push ({ cls := .type "tuple", data := .seq vs.toArray } : Obj)) (Nat.le_refl _) fun n c hm => ⟨x.cell n c (lookup_of_mem_nodup (cellsFrom_names scope.names 0 _ [] [] rfl ▸ hnd) hm), x.above n c hm⟩
  refine wpAny_mono (h ps s.heap.objs.size _ h₁ tk cells ht hp G.base (Nat.le_refl _) (by rw [hsz]; exact Nat.lt_succ_self _) ⟨x.toInCall.ns, fun b o e => hk₁ b o (Heap.get?_push_of_some _ (Heap.of_hide e)), by rw [Heap.hide_size, hsz]; exact Nat.le_succ _⟩ (fun q hq => ?_) Y h194 G.bare) (fun fl s' hl => hl.to) fun _ _ y => y.elim
  rcases List.mem_append.mp hq with hq | hq
  · refine ⟨(NC q hq).1, (NC q hq).2.1, ?_⟩
    cases e : (s.heap.hide 194).get? q.1 with
    | none => rfl
    | some o => have := Heap.get?_push_of_some ({ cls := .type "tuple", data := .seq vs.toArray } : Obj) (Heap.of_hide e); rw [(NC q hq).2.2] at this; cases this
  · rcases List.mem_cons.mp hq with rfl | hq
    · refine ⟨hk₁ _ _ (Heap.get?_push_size _ rfl), by rw [hsz]; exact Nat.ne_of_lt (Nat.lt_succ_self _), ?_⟩
      cases e : (s.heap.hide 194).get? s.heap.objs.size with
      | none => rfl
      | some o => exact absurd (Heap.lt_size (Heap.of_hide e)) (Nat.lt_irrefl _)
    · rw [List.mem_singleton.mp hq]
      exact ⟨hk₁ _ _ (Heap.get?_push_of_some _ hp), Nat.ne_of_lt (by rw [hsz]; exact Nat.lt_succ_of_lt h194), Heap.hide_self _ _⟩

end
end Mine
end

section
open PySem PySem.W PySem.W.X PyProof.Rows PySem.Calls PySem.Spec
namespace Mine
/-- what the law ends in -/
def LawEnd (h₀ : Heap) (os₀ : OsState) (f : Flow) (s' : Shared) : Prop := f = .ret (.bool true) ∧ (∀ b o, h₀.get? b = some o → s'.heap.get? b = some o) ∧ Tab s'.heap ∧ AllBare s'.gens ∧ s'.os = os₀
end Mine
end

section
open PySem PySem.W PySem.W.X PyProof.Rows PySem.Calls PySem.Spec
set_option Elab.async false
set_option maxRecDepth 100000
set_option maxHeartbeats 8000000
namespace Mine
section
variable {prog : Program} {w : World} {A : Around} {E : Value → Shared → Prop} {s : Shared} {h₀ : Heap} {env : Env} {v : Str} {body : List Stmt} {Q : Flow → Shared → Prop} {m : Str → Option Value} {news : List (Addr × Obj)}

theorem new_none (F : Fr h₀ env.locals s.heap m) : h₀.get? s.heap.objs.size = none := by
  cases e : h₀.get? s.heap.objs.size with
  | none => rfl
  | some o => exact absurd (Heap.lt_size (F.keep _ _ e)) (Nat.lt_irrefl _)

/-- a turn's end: the frame's names by a word, the ledger as it was -/
def TurnEnd (h₀ : Heap) (L : Addr) (J : (Str → Option Value) → Prop) (led : List (Addr × Obj)) (s₁ : Shared) (f : Flow) (s₂ : Shared) : Prop :=
  f = .next ∧ ∃ h' tk m₂, s₂ = { s₁ with heap := h', toks := tk } ∧ Fr h₀ L h' m₂ ∧ News h₀ L h' led ∧ J m₂
theorem TurnEnd.intro {h₀ h' : Heap} {L : Addr} {J : (Str → Option Value) → Prop} {led : List (Addr × Obj)} {s₁ : Shared} {tk : Nat} {m₂ : Str → Option Value} (F : Fr h₀ L h' m₂) (N : News h₀ L h' led) (j : J m₂) :
    TurnEnd h₀ L J led s₁ .next { s₁ with heap := h', toks := tk } := ⟨rfl, h', tk, m₂, rfl, F, N, j⟩

/-- for v in TEXT: a word of the frame's names, the ledger as it was -/
theorem for_str {x : Str} {t : Tok} (hh : A.handled = none) (F : Fr h₀ env.locals s.heap m) (N : News h₀ env.locals s.heap news) (J : Nat → (Str → Option Value) → Prop) (h0 : J 0 m)
    (turn : ∀ (i c : Nat) (u : Tok) m₁ s₁ own, i < x.cps.size → x.cps[i]? = some c → J i m₁ → Fr h₀ env.locals s₁.heap (fun y => if y = v then some (.str ⟨#[c]⟩ u) else m₁ y) → News h₀ env.locals s₁.heap (own ++ news) →
      wpAny (model prog w) A (execs body env) (TurnEnd h₀ env.locals (J (i + 1)) (own ++ news) s₁) E s₁)
    (done : ∀ h' tk m', J x.cps.size m' → Fr h₀ env.locals h' m' → News h₀ env.locals h' news → Q .next { s with heap := h', toks := tk }) :
    wpAny (model prog w) A (pyIter (.str x t)) (fun it s₂ => LoopAtU prog w A h₀ env v body Q E it s₂) E s := by
  refine wpAny_pyIter_str fun o St W hst => ?_
  have hlt : ∀ q ∈ news, q.1 ∉ [s.heap.objs.size] := fun q hq hm => by
    have := Heap.lt_size (N q hq).1
    rw [List.mem_singleton.mp hm] at this
    exact Nat.lt_irrefl _ this
  refine ⟨_, _, _, _, _, St, m, news, (fun i m₁ news₁ => news₁ = news ∧ J i m₁), rfl, W _ hh, ?_, ?_, hlt, hst, F.push _, (fun p hp => ⟨Heap.get?_push_of_some _ (N p hp).1, (N p hp).2⟩), ⟨rfl, h0⟩, ?_, ?_⟩
  · intro hm
    have := F.ns.lt
    rw [List.mem_singleton.mp hm] at this
    exact Nat.lt_irrefl _ this
  · intro b hb
    rw [List.mem_singleton.mp hb]
    exact new_none F
  · rintro i v' m₁ news₁ s₁ own hi ⟨c, u, hc, rfl⟩ ⟨rfl, hJ⟩ hoff _ _ _ _ F₁ N₁
    refine wpAny_mono (turn i c u m₁ s₁ own hi hc hJ F₁ N₁) (fun f s₂ h₂ => ?_) fun _ _ e => e
    obtain ⟨rfl, h', tk, m₂, rfl, F₂, N₂, hJ₂⟩ := h₂
    exact .intro F₂ N₂ hoff ⟨rfl, hJ₂⟩
  · rintro h' tk m' news' F' N' _ ⟨rfl, hJ⟩
    exact done h' tk m' hJ F' N'
end
end Mine
end

section
open PySem PySem.W PySem.W.X PyProof.Rows PySem.Calls PySem.Spec
set_option Elab.async false
set_option maxRecDepth 100000
set_option maxHeartbeats 8000000
set_option linter.all false
namespace Mine
open PyProof.Rows.LCg (NsObj lst lst_snoc ns_obj)
abbrev Led := List (Addr × Obj)
/-- the state by a ledger -/
structure OK (h₀ : Heap) (L : Addr) (m : Str → Option Value) (led : Led) (os₀ : OsState) (s : Shared) : Prop where
  F : Fr h₀ L s.heap m
  N : News h₀ L s.heap led
  g : AllBare s.gens
  o : s.os = os₀
structure CAt (h₀ : Heap) (L C D : Addr) (led : Led) : Prop where
  cl : C ≠ L
  c0 : h₀.get? C = none
  cd : C ≠ D
  off : ∀ q ∈ led, q.1 ≠ C ∧ q.1 ≠ D

section
variable {prog : Program} {w : World} {A : Around} {E : Value → Shared → Prop} {s : Shared} {h₀ : Heap} {L : Addr} {m : Str → Option Value} {env : Env} {os₀ : OsState} {led : Led}

theorem OK.weak {led' : Led} (k : OK h₀ L m led os₀ s) (h : ∀ q ∈ led', q ∈ led) : OK h₀ L m led' os₀ s := ⟨k.F, fun q hq => k.N q (h q hq), k.g, k.o⟩
theorem OK.keeps {h' : Heap} {tk : Nat} (k : OK h₀ L m led os₀ s) (hk : ∀ b o, s.heap.get? b = some o → h'.get? b = some o) : OK h₀ L m led os₀ { s with heap := h', toks := tk } :=
  ⟨k.F.keeps hk, fun q hq => ⟨hk _ _ (k.N q hq).1, (k.N q hq).2⟩, k.g, k.o⟩
theorem OK.new (k : OK h₀ L m led os₀ s) : h₀.get? s.heap.objs.size = none := by
  cases e : h₀.get? s.heap.objs.size with
  | none => rfl
  | some o => exact absurd (Heap.lt_size (k.F.keep _ _ e)) (Nat.lt_irrefl _)
theorem OK.fresh {b : Addr} (k : OK h₀ L m led os₀ s) (hb : s.heap.objs.size ≤ b) : h₀.get? b = none := by
  cases e : h₀.get? b with
  | none => rfl
  | some o => exact absurd (Heap.lt_size (k.F.keep _ _ e)) (Nat.not_lt.mpr hb)
theorem OK.newL {b : Addr} (k : OK h₀ L m led os₀ s) (hb : s.heap.objs.size ≤ b) : b ≠ L := fun e => absurd k.F.ns.lt (by rw [← e]; exact Nat.not_lt.mpr hb)
theorem OK.lt (k : OK h₀ L m led os₀ s) {q : Addr × Obj} (hq : q ∈ led) : q.1 < s.heap.objs.size := Heap.lt_size (k.N q hq).1
theorem OK.push {o : Obj} (k : OK h₀ L m led os₀ s) (ho : o.isFreed = false := by rfl) : OK h₀ L m ((s.heap.objs.size, o) :: led) os₀ { s with heap := s.heap.push o } := by
  refine ⟨k.F.push o, fun q hq => ?_, k.g, k.o⟩
  rcases List.mem_cons.mp hq with rfl | hq
  · exact ⟨Heap.get?_push_size _ ho, k.newL (Nat.le_refl _), k.new⟩
  · exact ⟨Heap.get?_push_of_some _ (k.N q hq).1, (k.N q hq).2⟩
/-- one object of the ledger is changed -/
theorem OK.change {d : Addr} {o : Obj} {h' : Heap} {tk : Nat} (k : OK h₀ L m led os₀ s) (hs : Heap.SameBut d s.heap h') (ho : h'.get? d = some o) (hL : d ≠ L) (h0 : h₀.get? d = none) (off : ∀ q ∈ led, q.1 ≠ d) :
    OK h₀ L m ((d, o) :: led) os₀ { s with heap := h', toks := tk } := by
  refine ⟨k.F.change hs hL h0, fun q hq => ?_, k.g, k.o⟩
  rcases List.mem_cons.mp hq with rfl | hq
  · exact ⟨ho, hL, h0⟩
  · exact ⟨hs.extBut _ _ (off q hq) (k.N q hq).1, (k.N q hq).2⟩
/-- an object outside the ledger is changed -/
theorem OK.aside {d : Addr} {h' : Heap} {tk : Nat} (k : OK h₀ L m led os₀ s) (hs : Heap.SameBut d s.heap h') (hL : d ≠ L) (h0 : h₀.get? d = none) (off : ∀ q ∈ led, q.1 ≠ d) :
    OK h₀ L m led os₀ { s with heap := h', toks := tk } :=
  ⟨k.F.change hs hL h0, fun q hq => ⟨hs.extBut _ _ (off q hq) (k.N q hq).1, (k.N q hq).2⟩, k.g, k.o⟩

theorem block_core {elt iter target : Expr} {scope : Scope} {cl : List (Str × Addr)} {pos : Pos} {s₂ : Shared} {I : Addr} {n : Nat} {J : Nat → List Value → Led → Prop} {Fin : List Value → Led → Prop}
    {RR : Value → Addr → Result → Shared → Prop} (hsz : n ≤ sizeLine)
    (hcell : ∀ y ∈ scope.names, y.2 ≠ .cell) (hkind : scope.kind = .function)
    (k : OK h₀ L m led os₀ s₂) (h0 : J 0 [] led) (hlen : ∀ i ys led, J i ys led → ys.length ≤ i)
    (turn : ∀ i ys led C D mC s E, i < n → J i ys led → OK h₀ L m ((D, lst ys) :: led) os₀ s → s.heap.Ns C mC → CAt h₀ L C D led →
      wpAny (model prog w) A (pyNext (.ref I)) (fun r s₁ => ∃ v, r = some v ∧ wpAny (model prog w) A (letOwnedTupleGo target (.ref I) v) (fun _ s₁' => wpAny (model prog w) A (assign target (compEnvC scope cl C env) v) (fun _ s₂ =>
        wpAny (model prog w) A (eval elt (compEnvC scope cl C env)) (fun y s₃ => ∃ led' mC', OK h₀ L m ((D, lst ys) :: led') os₀ s₃ ∧ s₃.heap.Ns C mC' ∧ CAt h₀ L C D led' ∧ J (i + 1) (ys ++ [y]) led') E s₂) E s₁') E s₁) E s)
    (done : ∀ ys led C D mC s E, J n ys led → OK h₀ L m ((D, lst ys) :: led) os₀ s → s.heap.Ns C mC → CAt h₀ L C D led →
      wpAny (model prog w) A (pyNext (.ref I)) (fun r s₁ => r = none ∧ ∃ led' mC', OK h₀ L m ((D, lst ys) :: led') os₀ s₁ ∧ s₁.heap.Ns C mC' ∧ CAt h₀ L C D led' ∧ Fin ys led') E s)
    (self : ∀ led s E (Q : Value → Shared → Prop), J 0 [] led → OK h₀ L m led os₀ s → Q (.ref I) s → wpAny (model prog w) A (pyIter (.ref I)) Q E s)
    (hRR : ∀ D C s' mC ys led', OK h₀ L m ((D, lst ys) :: led') os₀ s' → s'.heap.Ns C mC → CAt h₀ L C D led' → D ≠ L → h₀.get? D = none → Fin ys led' → RR (.ref D) C (.ok .next) s') :
    wpAny (model prog w) A (newList []) (fun acc s₃ => wpAny (model prog w) A (newFunctionEnv scope env.globals cl [] env.qual none .none (some env)) (fun cenv s₄ =>
      codeAny (model prog w) A (.compStart (.ListComp elt [⟨target, iter, [], 0⟩] scope pos) 0 (.ref I) acc { cenv with scope := relabel scope env }) (RR acc cenv.locals) s₄) E s₃) E s₂ := by
  refine wpAny_newObj_type (wpAny_newFunctionEnv hcell (by intro y hy; simp at hy) (fun h₁ hns₁ hsb₁ => ?_) hkind)
  dsimp only at hns₁ hsb₁ ⊢
  generalize hH2 : s₂.heap.push { cls := .type "list", dict := none, data := .seq ([] : List Value).toArray } = H2 at hns₁ hsb₁ ⊢
  have hC : H2.objs.size = s₂.heap.objs.size + 1 := by rw [← hH2, Heap.size_push]
  have hDC : H2.objs.size ≠ s₂.heap.objs.size := by rw [hC]; exact Nat.succ_ne_self _
  have below : ∀ b, b < s₂.heap.objs.size → b ≠ H2.objs.size ∧ b ≠ s₂.heap.objs.size := fun b hb => ⟨by rw [hC]; exact Nat.ne_of_lt (Nat.lt_succ_of_lt hb), Nat.ne_of_lt hb⟩
  have old : ∀ b o, s₂.heap.get? b = some o → h₁.get? b = some o := fun b o e => hsb₁.extBut b o (below b (Heap.lt_size e)).1 (Heap.get?_push_of_some _ (hH2 ▸ Heap.get?_push_of_some _ e))
  have hacc : h₁.get? s₂.heap.objs.size = some (lst []) := hsb₁.extBut _ _ (Ne.symm hDC) (Heap.get?_push_of_some _ (hH2 ▸ Heap.get?_push_size _ rfl))
  have hD₀ : h₀.get? s₂.heap.objs.size = none := k.new
  have hC₀ : h₀.get? H2.objs.size = none := k.fresh (by rw [hC]; exact Nat.le_succ _)
  have hDL : s₂.heap.objs.size ≠ L := k.newL (Nat.le_refl _)
  have hCL : H2.objs.size ≠ L := k.newL (by rw [hC]; exact Nat.le_succ _)
  have cat₀ : CAt h₀ L H2.objs.size s₂.heap.objs.size led := ⟨hCL, hC₀, hDC, fun q hq => below _ (k.lt hq)⟩
  have k₁ : ∀ tk, OK h₀ L m ((s₂.heap.objs.size, lst []) :: led) os₀ { s₂ with heap := h₁, toks := tk } := fun tk => by
    have k' := k.keeps (tk := tk) old
    refine ⟨k'.F, fun q hq => ?_, k'.g, k'.o⟩
    rcases List.mem_cons.mp hq with rfl | hq
    · exact ⟨hacc, hDL, hD₀⟩
    · exact k'.N q hq
  have loop : ∀ s₃ : Shared, s₃ = { s₂ with heap := h₁, toks := s₂.toks + ([] : List (Str × Value)).length } →
      codeAny (model prog w) A (.compLoop (.ListComp elt [⟨target, iter, [], 0⟩] scope pos) 0 (.ref I) (.ref s₂.heap.objs.size) (compEnvC scope cl H2.objs.size env))
        (RR (.ref s₂.heap.objs.size) H2.objs.size) s₃ := by
    rintro s₃ rfl
    refine codeAny_loop rfl (fun c s' => ∃ i ys led' mC, i ≤ n ∧ c = n + 1 - i ∧ OK h₀ L m ((s₂.heap.objs.size, lst ys) :: led') os₀ s' ∧ s'.heap.Ns H2.objs.size mC ∧ CAt h₀ L H2.objs.size s₂.heap.objs.size led' ∧ J i ys led')
      (fun c s' hI => ?_) (n + 1) ⟨0, [], led, _, Nat.zero_le _, rfl, k₁ _, hns₁, cat₀, h0⟩
    obtain ⟨i, ys, led', mC, hi, rfl, k', hn', cat', hJ⟩ := hI
    show wpAny _ A ((compTurn (.ListComp elt [⟨target, iter, [], 0⟩] scope pos) 0 (.ref I) (.ref s₂.heap.objs.size) (compEnvC scope cl H2.objs.size env)).onRaise (fun x => do noteFrame x (compEnvC scope cl H2.objs.size env); theTreesLotGoes x)) _ _ s'
    refine wpAny_noted ?_
    rw [compTurn_list]
    refine wpAny_bind (wpAny_standAt (wpAny_bind ?_))
    by_cases hlt : i < n
    · refine wpAny_mono (turn i ys led' _ _ mC s' _ hlt hJ k' hn' cat') (fun r s₁ h₁' => ?_) fun _ _ e => e
      obtain ⟨v, rfl, hv⟩ := h₁'
      refine wpAny_bind (wpAny_mono hv (fun _ s₁' h₂ => ?_) fun _ _ e => e)
      refine wpAny_bind (wpAny_mono h₂ (fun _ s₂' h₃ => wpAny_bind (wpAny_mono (wpAny_tests_nil (Q := fun ok s₃ => ok = true ∧ s₃ = s₂') ⟨rfl, rfl⟩) (fun ok s₃ h₅ => ?_) fun _ _ e => e)) fun _ _ e => e)
      obtain ⟨rfl, rfl⟩ := h₅
      refine wpAny_bind (wpAny_bind (wpAny_mono h₃ (fun y s₄ h₄ => ?_) fun _ _ e => e))
      obtain ⟨led₄, m₄, k₄, hn₄, cat₄, hJ₄⟩ := h₄
      have hys : ys.length ≤ i := hlen _ _ _ hJ
      refine wpAny_bind (append_at (hsz := by show ys.toArray.size ≤ sizeLine; rw [List.size_toArray]; omega) (k₄.N _ List.mem_cons_self).1 fun h₅ hs₅ hD₅ => ?_)
      refine wpAny_pure (wpAny_pure ⟨rfl, n + 1 - (i + 1), by omega, i + 1, ys ++ [y], led₄, m₄, hlt, rfl, ?_, hn₄.sameBut hs₅ hDC, cat₄, hJ₄⟩)
      have := (k₄.weak (led' := led₄) fun q hq => List.mem_cons_of_mem _ hq).change (tk := s₄.toks) hs₅ (hD₅.trans (congrArg some (lst_snoc ys y))) hDL hD₀ fun q hq => (cat₄.off q hq).2
      exact this
    · obtain rfl : i = n := Nat.le_antisymm hi (Nat.not_lt.mp hlt)
      refine wpAny_mono (done ys led' _ _ mC s' _ hJ k' hn' cat') (fun r s₁ h₁' => ?_) fun _ _ e => e
      obtain ⟨rfl, led'', m'', k'', hn'', cat'', hF⟩ := h₁'
      exact wpAny_pure (hRR _ _ _ _ _ _ k'' hn'' cat'' hDL hD₀ hF)
  exact codeAny_compStart_list (loop _ rfl) (self _ _ _ _ h0 ((k₁ _).weak fun q hq => List.mem_cons_of_mem _ hq) (loop _ rfl))

/-- what stands behind the source of a comprehension -/
def CompAt (prog : Program) (w : World) (A : Around) (h₀ : Heap) (L : Addr) (m : Str → Option Value) (env : Env) (elt target : Expr) (scope : Scope) (cl : List (Str × Addr)) (K : OsState → List Value → Led → Prop) (it : Value) (s₂ : Shared) : Prop :=
  ∃ (I : Addr) (n : Nat) (J : Nat → List Value → Led → Prop) (Fin : List Value → Led → Prop) (led : Led) (os₀ : OsState), it = .ref I ∧ n ≤ sizeLine ∧ OK h₀ L m led os₀ s₂ ∧ J 0 [] led ∧ (∀ i ys led, J i ys led → ys.length ≤ i) ∧
    (∀ i ys led C D mC s (E : Value → Shared → Prop), i < n → J i ys led → OK h₀ L m ((D, lst ys) :: led) os₀ s → s.heap.Ns C mC → CAt h₀ L C D led →
      wpAny (model prog w) A (pyNext (.ref I)) (fun r s₁ => ∃ v, r = some v ∧ wpAny (model prog w) A (letOwnedTupleGo target (.ref I) v) (fun _ s₁' => wpAny (model prog w) A (assign target (compEnvC scope cl C env) v) (fun _ s₂ =>
        wpAny (model prog w) A (eval elt (compEnvC scope cl C env)) (fun y s₃ => ∃ led' mC', OK h₀ L m ((D, lst ys) :: led') os₀ s₃ ∧ s₃.heap.Ns C mC' ∧ CAt h₀ L C D led' ∧ J (i + 1) (ys ++ [y]) led') E s₂) E s₁') E s₁) E s) ∧
    (∀ ys led C D mC s (E : Value → Shared → Prop), J n ys led → OK h₀ L m ((D, lst ys) :: led) os₀ s → s.heap.Ns C mC → CAt h₀ L C D led →
      wpAny (model prog w) A (pyNext (.ref I)) (fun r s₁ => r = none ∧ ∃ led' mC', OK h₀ L m ((D, lst ys) :: led') os₀ s₁ ∧ s₁.heap.Ns C mC' ∧ CAt h₀ L C D led' ∧ Fin ys led') E s) ∧
    (∀ led s (E : Value → Shared → Prop) (Q : Value → Shared → Prop), J 0 [] led → OK h₀ L m led os₀ s → Q (.ref I) s → wpAny (model prog w) A (pyIter (.ref I)) Q E s) ∧
    ∀ ys led, Fin ys led → K os₀ ys led

theorem comp_core {elt iter target : Expr} {scope : Scope} {cl : List (Str × Addr)} {pos : Pos} {Q : Value → Shared → Prop}
    (hclos : closureFor scope env = pure cl) (hcell : ∀ y ∈ scope.names, y.2 ≠ .cell) (hkind : scope.kind = .function)
    (hnames : ∀ y ∈ scope.names, y.2 = .local → scope.names.lookup y.1 = some .local)
    (h : wpAny (model prog w) A (eval iter env) (fun xv s₁ => wpAny (model prog w) A (pyIter xv) (CompAt prog w A h₀ L m env elt target scope cl
      (fun os₀ ys led => ∀ D s', OK h₀ L m ((D, lst ys) :: led) os₀ s' → (∀ q ∈ led, q.1 ≠ D) → Q (.ref D) s')) E s₁) E s)
    (hs : ∀ x, foldedSetIterable iter env x = pure x := by intro _; rfl) :
    wpAny (model prog w) A (eval (.ListComp elt [⟨target, iter, [], 0⟩] scope pos) env) Q E s := by
  rw [eval_ListComp]
  refine wpAny_comprehension_free (use := none) rfl hs hclos hkind hnames (wpAny_mono h (fun xv s₁ h₁ => wpAny_mono h₁ (fun it s₂ h₂ => ?_) fun _ _ e => e) fun _ _ e => e)
  obtain ⟨I, n, J, Fin, led, os₀, rfl, hsz, k, h0, hlen, turn, done, self, hK⟩ := h₂
  refine block_core hsz hcell hkind k h0 hlen turn done self fun D C s' mC ys led' k' hn cat hDL hD₀ hF => ?_
  refine ⟨mC, hn, fun h'' hs'' => hK ys led' hF D _ (k'.aside hs'' cat.cl cat.c0 fun q hq => ?_) fun q hq => (cat.off q hq).2⟩
  rcases List.mem_cons.mp hq with rfl | hq
  · exact Ne.symm cat.cd
  · exact (cat.off q hq).1

theorem assign_core {elt iter target : Expr} {y : Str} {py : Pos} {scope : Scope} {cl : List (Str × Addr)} {pos spos : Pos} {Q : Flow → Shared → Prop} (hLe : env.locals = L)
    (hsw : swapsWith (.ListComp elt [⟨target, iter, [], 0⟩] scope pos) (some (.Name y py)) spos.line env = pure true)
    (hclos : closureFor scope env = pure cl) (hcell : ∀ y ∈ scope.names, y.2 ≠ .cell) (hkind : scope.kind = .function)
    (hnames : ∀ y ∈ scope.names, y.2 = .local → scope.names.lookup y.1 = some .local)
    (hy : env.kindOf y = some .local) (hp : (env.scope.kind == .class || (env.scope.kind == .module && env.locals != env.globals)) = false)
    (h : wpAny (model prog w) A (eval iter env) (fun xv s₁ => wpAny (model prog w) A (pyIter xv) (CompAt prog w A h₀ L m env elt target scope cl
      (fun os₀ ys led => ∀ D s', OK h₀ L (fun z => if z = y then some (.ref D) else m z) ((D, lst ys) :: led) os₀ s' → (∀ q ∈ led, q.1 ≠ D) → Q .next s')) E s₁) E s)
    (hs : ∀ x, foldedSetIterable iter env x = pure x := by intro _; rfl) :
    wpAny (model prog w) A (exec (.Assign [.Name y py] (.ListComp elt [⟨target, iter, [], 0⟩] scope pos) spos) env) Q E s := by
  subst hLe
  rw [exec_Assign_Name_used _ _ _ _ hsw]
  refine wpAny_bind (wpAny_standAt (wpAny_bind ?_))
  show wpAny _ A (do let _ ← comprehension (.ListComp elt [⟨target, iter, [], 0⟩] scope pos) scope env _ (newList []) false (eval iter env) (some (assign (.Name y py) env))) _ _ s
  refine wpAny_bind (wpAny_mono (wpAny_comprehension_free (use := some (assign (.Name y py) env)) (Q := fun _ s' => Q .next s') rfl hs hclos hkind hnames
    (wpAny_mono h (fun xv s₁ h₁ => wpAny_mono h₁ (fun it s₂ h₂ => ?_) fun _ _ e => e) fun _ _ e => e)) (fun _ s' hq => wpAny_pure (wpAny_pure hq)) fun _ _ e => e)
  obtain ⟨I, n, J, Fin, led, os₀, rfl, hsz, k, h0, hlen, turn, done, self, hK⟩ := h₂
  refine block_core hsz hcell hkind k h0 hlen turn done self fun D C s' mC ys led' k' hn cat hDL hD₀ hF => ?_
  show wpAny _ A (assign (.Name y py) env (.ref D)) _ _ _
  refine wpAny_assign_Name (wpAny_storeName_local hy k'.F.ns (fun h₂ hn₂ hs₂ => ?_) hp)
  have hL₀ : h₀.get? env.locals = none := Heap.get?_none_of_le k'.F.above
  have F₂ : Fr h₀ env.locals h₂ (fun z => if z = y then some (.ref D) else m z) := ⟨hn₂, fun b o e => hs₂.extBut b o (fun q => by rw [q, hL₀] at e; cases e) (k'.F.keep b o e), k'.F.above⟩
  have k₂ : ∀ tk, OK h₀ env.locals (fun z => if z = y then some (.ref D) else m z) ((D, lst ys) :: led') os₀ { s' with heap := h₂, toks := tk } := fun tk => ⟨F₂, fun q hq => ⟨hs₂.extBut _ _ (k'.N q hq).2.1 (k'.N q hq).1, (k'.N q hq).2⟩, k'.g, k'.o⟩
  refine ⟨mC, hn.sameBut hs₂ cat.cl, fun h'' hs'' => hK ys led' hF D _ ((k₂ _).aside hs'' cat.cl cat.c0 fun q hq => ?_) fun q hq => (cat.off q hq).2⟩
  rcases List.mem_cons.mp hq with rfl | hq
  · exact Ne.symm cat.cd
  · exact (cat.off q hq).1

/-- the target is a name -/
theorem bind_name {x : Str} {px : Pos} {scope : Scope} {cl : List (Str × Addr)} {C D : Addr} {mC : Str → Option Value} {v : Value} {ys : List Value} {Q : Unit → Shared → Prop} (hx : scope.names.lookup x = some .local) (hkind : scope.kind = .function)
    (k : OK h₀ L m ((D, lst ys) :: led) os₀ s) (hn : s.heap.Ns C mC) (cat : CAt h₀ L C D led)
    (hQ : ∀ h' tk, OK h₀ L m ((D, lst ys) :: led) os₀ { s with heap := h', toks := tk } → h'.Ns C (fun z => if z = x then some v else mC z) → h'.objs.size = s.heap.objs.size → Q () { s with heap := h', toks := tk }) :
    wpAny (model prog w) A (assign (.Name x px) (compEnvC scope cl C env) v) Q E s := by
  refine wpAny_assign_Name (wpAny_storeName_local (lookup_relabel_local hx) hn (fun h₃ hn₃ hs₃ => ?_) (by simp [compEnvC, relabel, hkind]))
  refine hQ h₃ _ (k.aside hs₃ cat.cl cat.c0 fun q hq => ?_) hn₃ hs₃.1
  rcases List.mem_cons.mp hq with rfl | hq
  · exact Ne.symm cat.cd
  · exact (cat.off q hq).1
theorem CAt.mono {C D : Addr} {led' : Led} (c : CAt h₀ L C D led) (h : ∀ q ∈ led', q ∈ led ∨ (q.1 ≠ C ∧ q.1 ≠ D)) : CAt h₀ L C D led' :=
  ⟨c.cl, c.c0, c.cd, fun q hq => (h q hq).elim (c.off q) id⟩
end
end Mine
end

section
open PySem PySem.W PySem.W.X PyProof.Rows PySem.Calls PySem.Spec
set_option Elab.async false
set_option maxRecDepth 100000
set_option maxHeartbeats 8000000
set_option linter.all false
namespace Mine
open PyProof.Rows.LCg (NsObj lst lst_snoc ns_obj)
def Ap (st led : Led) : Prop := ∀ p ∈ st, ∀ q ∈ led, q.1 ≠ p.1
/-- what an iterator hands out, by the ledger: st its own objects -/
structure Feed (prog : Program) (w : World) (A : Around) (h₀ : Heap) (L : Addr) (I : Addr) (n : Nat) (P : Nat → Value → Led → Prop) (O : Nat → Led → Prop) (S : Led → Prop) : Prop where
  next : ∀ i st led m os₀ s (E : Value → Shared → Prop) (Q : Option Value → Shared → Prop), i < n → S led → O i st → OK h₀ L m (st ++ led) os₀ s → Ap st led →
    (∀ v ex st' h' tk, P i v ex → O (i + 1) st' → st'.map (·.1) = st.map (·.1) → OK h₀ L m (st' ++ (ex ++ led)) os₀ { s with heap := h', toks := tk } → (∀ q ∈ ex, s.heap.get? q.1 = none) →
      (∀ b o, (∀ p ∈ st, b ≠ p.1) → s.heap.get? b = some o → h'.get? b = some o) → Q (some v) { s with heap := h', toks := tk }) →
    wpAny (model prog w) A (pyNext (.ref I)) Q E s
  stop : ∀ st led m os₀ s (E : Value → Shared → Prop) (Q : Option Value → Shared → Prop), S led → O n st → OK h₀ L m (st ++ led) os₀ s → Ap st led →
    (∀ h' tk, (∀ b o, (∀ p ∈ st, b ≠ p.1) → s.heap.get? b = some o → h'.get? b = some o) → Q none { s with heap := h', toks := tk }) →
    wpAny (model prog w) A (pyNext (.ref I)) Q E s
  self : ∀ st led m os₀ s (E : Value → Shared → Prop) (Q : Value → Shared → Prop), O 0 st → S led → OK h₀ L m (st ++ led) os₀ s → Q (.ref I) s → wpAny (model prog w) A (pyIter (.ref I)) Q E s
  mono : ∀ a b, (∀ q ∈ a, q ∈ b) → S a → S b

section
variable {prog : Program} {w : World} {A : Around} {E : Value → Shared → Prop} {s : Shared} {h₀ : Heap} {L : Addr} {m : Str → Option Value} {env : Env} {os₀ : OsState} {led : Led}

theorem OK.perm {led' : Led} (k : OK h₀ L m led os₀ s) (h : ∀ q ∈ led', q ∈ led) : OK h₀ L m led' os₀ s := k.weak h
/-- objects aside of the ledger may change -/
theorem OK.but {h' : Heap} {tk : Nat} {st : Led} (k : OK h₀ L m (st ++ led) os₀ s) (hk : ∀ b o, (∀ p ∈ st, b ≠ p.1) → s.heap.get? b = some o → h'.get? b = some o) (ap : Ap st led) : OK h₀ L m led os₀ { s with heap := h', toks := tk } := by
  refine ⟨⟨k.F.ns.at' fun o e => hk _ o (fun p hp => ?_) e, fun b o e => hk b o (fun p hp q => ?_) (k.F.keep b o e), k.F.above⟩, fun q hq => ⟨hk _ _ (fun p hp => ap p hp q hq) (k.N q (List.mem_append_right _ hq)).1, (k.N q (List.mem_append_right _ hq)).2⟩, k.g, k.o⟩
  · exact Ne.symm (k.N p (List.mem_append_left _ hp)).2.1
  · have := (k.N p (List.mem_append_left _ hp)).2.2
    rw [← q, e] at this; cases this

def TupAt (h₀ : Heap) (ax : Addr) (its : Array Value) (news : Led) : Prop := IsTup h₀ ax its ∨ ∃ o, (ax, o) ∈ news ∧ o.cls = .type "tuple" ∧ ∃ n, o.data = .seq its n
theorem TupAt.tup {h : Heap} {ax : Addr} {its : Array Value} {news : Led} (x : TupAt h₀ ax its news) (k : ∀ b o, h₀.get? b = some o → h.get? b = some o) (N : News h₀ L h news) : IsTup h ax its := by
  rcases x with ⟨o, e, r⟩ | ⟨o, hm, r1, r2⟩
  · exact ⟨o, k _ _ e, r⟩
  · exact ⟨o, (N _ hm).1, r1, r2⟩

theorem feed_list (hh : A.handled = none) {I ax : Addr} {its : Array Value} (hne : ax ≠ I) :
    Feed prog w A h₀ L I its.size (fun i v ex => its[i]? = some v ∧ ex = []) (fun i st => ∃ o, st = [(I, o)] ∧ ∀ h : Heap, h.get? I = some o → h.IsListIter I ax i) (LCg.SrcAt h₀ ax its) where
  next := fun i st led m os₀ s E Q hi hS hO k ap hQ => by
    obtain ⟨o, rfl, hO⟩ := hO
    have hit := hO s.heap (k.N _ (List.mem_append_left _ List.mem_cons_self)).1
    refine (Walks.list hh I ax hne its).item i s Q E hi ⟨hit, hS.list k.F.keep (k.weak fun q hq => List.mem_append_right _ hq).N⟩ fun v h' tk hP hst hk => ?_
    obtain ⟨o', e', r'⟩ := hst.1
    have hk' : ∀ b o₁, (∀ p ∈ [(I, o)], b ≠ p.1) → s.heap.get? b = some o₁ → h'.get? b = some o₁ := fun b o₁ hb e => hk b o₁ (by simpa using hb) e
    have k' := k.but (tk := tk) hk' ap
    refine hQ v [] [(I, o')] h' tk ⟨hP, rfl⟩ ⟨o', rfl, fun h e => ⟨o', e, r'⟩⟩ rfl ⟨k'.F, fun q hq => ?_, k'.g, k'.o⟩ (fun q hq => nomatch hq) hk'
    rcases List.mem_cons.mp hq with rfl | hq
    · exact ⟨e', (k.N _ (List.mem_append_left _ List.mem_cons_self)).2⟩
    · exact k'.N q hq
  stop := fun st led m os₀ s E Q hS hO k ap hQ => by
    obtain ⟨o, rfl, hO⟩ := hO
    have hit := hO s.heap (k.N _ (List.mem_append_left _ List.mem_cons_self)).1
    exact (Walks.list hh I ax hne its).done s Q E ⟨hit, hS.list k.F.keep (k.weak fun q hq => List.mem_append_right _ hq).N⟩ fun h' tk hk => hQ h' tk fun b o₁ hb e => hk b o₁ (by simpa using hb) e
  self := fun st led m os₀ s E Q hO hS k hQ => by
    obtain ⟨o, rfl, hO⟩ := hO
    have hit := hO s.heap (k.N _ (List.mem_append_left _ List.mem_cons_self)).1
    exact (Walks.list hh I ax hne its).self 0 s Q E ⟨hit, hS.list k.F.keep (k.weak fun q hq => List.mem_append_right _ hq).N⟩ hQ
  mono := fun a b h S => S.imp id fun ⟨o, hm, r⟩ => ⟨o, h _ hm, r⟩

theorem feed_tuple (hh : A.handled = none) {I ax : Addr} {its : Array Value} (hne : ax ≠ I) :
    Feed prog w A h₀ L I its.size (fun i v ex => its[i]? = some v ∧ ex = []) (fun i st => ∃ o, st = [(I, o)] ∧ ∀ h : Heap, h.get? I = some o → IsTupIter h I ax i) (TupAt h₀ ax its) where
  next := fun i st led m os₀ s E Q hi hS hO k ap hQ => by
    obtain ⟨o, rfl, hO⟩ := hO
    have hit := hO s.heap (k.N _ (List.mem_append_left _ List.mem_cons_self)).1
    refine (Walks.tuple hh I ax hne its).item i s Q E hi ⟨hit, hS.tup k.F.keep (k.weak fun q hq => List.mem_append_right _ hq).N⟩ fun v h' tk hP hst hk => ?_
    obtain ⟨o', e', r'⟩ := hst.1
    have hk' : ∀ b o₁, (∀ p ∈ [(I, o)], b ≠ p.1) → s.heap.get? b = some o₁ → h'.get? b = some o₁ := fun b o₁ hb e => hk b o₁ (by simpa using hb) e
    have k' := k.but (tk := tk) hk' ap
    refine hQ v [] [(I, o')] h' tk ⟨hP, rfl⟩ ⟨o', rfl, fun h e => ⟨o', e, r'⟩⟩ rfl ⟨k'.F, fun q hq => ?_, k'.g, k'.o⟩ (fun q hq => nomatch hq) hk'
    rcases List.mem_cons.mp hq with rfl | hq
    · exact ⟨e', (k.N _ (List.mem_append_left _ List.mem_cons_self)).2⟩
    · exact k'.N q hq
  stop := fun st led m os₀ s E Q hS hO k ap hQ => by
    obtain ⟨o, rfl, hO⟩ := hO
    have hit := hO s.heap (k.N _ (List.mem_append_left _ List.mem_cons_self)).1
    exact (Walks.tuple hh I ax hne its).done s Q E ⟨hit, hS.tup k.F.keep (k.weak fun q hq => List.mem_append_right _ hq).N⟩ fun h' tk hk => hQ h' tk fun b o₁ hb e => hk b o₁ (by simpa using hb) e
  self := fun st led m os₀ s E Q hO hS k hQ => by
    obtain ⟨o, rfl, hO⟩ := hO
    have hit := hO s.heap (k.N _ (List.mem_append_left _ List.mem_cons_self)).1
    exact (Walks.tuple hh I ax hne its).self 0 s Q E ⟨hit, hS.tup k.F.keep (k.weak fun q hq => List.mem_append_right _ hq).N⟩ hQ
  mono := fun a b h S => S.imp id fun ⟨o, hm, r⟩ => ⟨o, h _ hm, r⟩

theorem feed_range (hh : A.handled = none) {I : Addr} (a : Int) (n : Nat) :
    Feed prog w A h₀ L I n (fun i v ex => (∃ t, v = .int (a + (i : Int)) t) ∧ ex = []) (fun i st => ∃ o, st = [(I, o)] ∧ ∀ h : Heap, h.get? I = some o → IsRangeIter h I (a + (i : Nat) * 1) ((n : Int) - (i : Nat)) 1) (fun _ => True) where
  next := fun i st led m os₀ s E Q hi hS hO k ap hQ => by
    obtain ⟨o, rfl, hO⟩ := hO
    have hit := hO s.heap (k.N _ (List.mem_append_left _ List.mem_cons_self)).1
    refine (LCg.range_walks hh a n).item i s Q E hi hit fun v h' tk hP hst hk => ?_
    have e' : h'.get? I = some _ := hst
    have hk' : ∀ b o₁, (∀ p ∈ [(I, o)], b ≠ p.1) → s.heap.get? b = some o₁ → h'.get? b = some o₁ := fun b o₁ hb e => hk b o₁ (by simpa using hb) e
    have k' := k.but (tk := tk) hk' ap
    refine hQ v [] [(I, _)] h' tk ⟨hP, rfl⟩ ⟨_, rfl, fun h e => e⟩ rfl ⟨k'.F, fun q hq => ?_, k'.g, k'.o⟩ (fun q hq => nomatch hq) hk'
    rcases List.mem_cons.mp hq with rfl | hq
    · exact ⟨e', (k.N _ (List.mem_append_left _ List.mem_cons_self)).2⟩
    · exact k'.N q hq
  stop := fun st led m os₀ s E Q hS hO k ap hQ => by
    obtain ⟨o, rfl, hO⟩ := hO
    have hit := hO s.heap (k.N _ (List.mem_append_left _ List.mem_cons_self)).1
    exact (LCg.range_walks hh a n).done s Q E hit fun h' tk hk => hQ h' tk fun b o₁ hb e => hk b o₁ (by simpa using hb) e
  self := fun st led m os₀ s E Q hO hS k hQ => by
    obtain ⟨o, rfl, hO⟩ := hO
    have hit := hO s.heap (k.N _ (List.mem_append_left _ List.mem_cons_self)).1
    exact (LCg.range_walks hh a n).self 0 s Q E hit hQ
  mono := fun a b h S => trivial

def Ap2 (C D : Addr) (led : Led) : Prop := ∀ q ∈ led, q.1 ≠ C ∧ q.1 ≠ D
/-- what an element's evaluation must end in -/
def EltEnd (h₀ : Heap) (L : Addr) (m : Str → Option Value) (os₀ : OsState) (S : Led → Prop) (JE : List Value → Led → Prop) (C : Addr) (oC : Obj) (D : Addr) (ys : List Value) (st : Led) (y : Value) (s' : Shared) : Prop :=
  ∃ rest', OK h₀ L m ((C, oC) :: (D, lst ys) :: (st ++ rest')) os₀ s' ∧ Ap2 C D rest' ∧ Ap st rest' ∧ S rest' ∧ JE (ys ++ [y]) rest'
/-- what a turn's body must end in -/
def BodyEnd (h₀ : Heap) (L : Addr) (os₀ : OsState) (S : Led → Prop) (JE : (Str → Option Value) → Led → Prop) (st : Led) (f : Flow) (s' : Shared) : Prop :=
  f = .next ∧ ∃ m' rest', OK h₀ L m' (st ++ rest') os₀ s' ∧ Ap st rest' ∧ S rest' ∧ JE m' rest'
theorem EltEnd.intro {S : Led → Prop} {JE : List Value → Led → Prop} {C : Addr} {oC : Obj} {D : Addr} {ys : List Value} {st : Led} {y : Value} {s' : Shared} {all : Led} (rest' : Led) (F : Fr h₀ L s'.heap m) (N : News h₀ L s'.heap all) (g : AllBare s'.gens) (o : s'.os = os₀)
    (sub : ∀ q ∈ (C, oC) :: (D, lst ys) :: (st ++ rest'), q ∈ all) (a : Ap2 C D rest') (b : Ap st rest') (hS : S rest') (j : JE (ys ++ [y]) rest') : EltEnd h₀ L m os₀ S JE C oC D ys st y s' :=
  ⟨rest', ⟨F, fun q hq => N q (sub q hq), g, o⟩, a, b, hS, j⟩
theorem BodyEnd.intro {S : Led → Prop} {JE : (Str → Option Value) → Led → Prop} {st : Led} {s' : Shared} {all : Led} {m' : Str → Option Value} (rest' : Led) (F : Fr h₀ L s'.heap m') (N : News h₀ L s'.heap all) (g : AllBare s'.gens) (o : s'.os = os₀)
    (sub : ∀ q ∈ st ++ rest', q ∈ all) (b : Ap st rest') (hS : S rest') (j : JE m' rest') : BodyEnd h₀ L os₀ S JE st .next s' :=
  ⟨rfl, m', rest', ⟨F, fun q hq => N q (sub q hq), g, o⟩, b, hS, j⟩

/-- a comprehension over a feed, the target a name -/
theorem comp_feed {elt : Expr} {x : Str} {px : Pos} {scope : Scope} {cl : List (Str × Addr)} {K : OsState → List Value → Led → Prop} {I : Addr} {n : Nat} {P : Nat → Value → Led → Prop} {O : Nat → Led → Prop} {S : Led → Prop} {st₀ led₀ : Led}
    (JE : Nat → List Value → Led → Prop) (hx : scope.names.lookup x = some .local) (hkind : scope.kind = .function)
    (FD : Feed prog w A h₀ L I n P O S) (hsz : n ≤ sizeLine) (k : OK h₀ L m (st₀ ++ led₀) os₀ s) (hO : O 0 st₀) (hS : S led₀) (hap : Ap st₀ led₀) (h0 : JE 0 [] led₀) (hlen : ∀ i ys led, JE i ys led → ys.length ≤ i)
    (elt_ok : ∀ i v ex st ys led C D oC mC s (E : Value → Shared → Prop), i < n → P i v ex → JE i ys led → NsObj oC mC → mC x = some v → OK h₀ L m ((C, oC) :: (D, lst ys) :: (ex ++ (st ++ led))) os₀ s → C ≠ D → Ap2 C D (ex ++ (st ++ led)) → Ap st (ex ++ led) → S led →
      wpAny (model prog w) A (eval elt (compEnvC scope cl C env)) (EltEnd h₀ L m os₀ S (JE (i + 1)) C oC D ys st) E s)
    (fin : ∀ ys led, JE n ys led → K os₀ ys led) :
    CompAt prog w A h₀ L m env elt (.Name x px) scope cl K (.ref I) s := by
  refine ⟨I, n, fun i ys led => ∃ st rest, led = st ++ rest ∧ O i st ∧ S rest ∧ Ap st rest ∧ JE i ys rest, fun ys led => JE n ys led, st₀ ++ led₀, os₀, rfl, hsz, k, ⟨st₀, led₀, rfl, hO, hS, hap, h0⟩, ?_, ?_, ?_, ?_, fun ys led hj => fin ys led hj⟩
  · rintro i ys led ⟨st, rest, rfl, _, _, _, hj⟩
    exact hlen i ys rest hj
  · rintro i ys led C D mC s E hi ⟨st, rest, rfl, hO, hS, hap, hj⟩ k hn cat
    have hS' : S ((D, lst ys) :: rest) := FD.mono _ _ (fun q hq => List.mem_cons_of_mem _ hq) hS
    have hap' : Ap st ((D, lst ys) :: rest) := fun p hp q hq => by
      rcases List.mem_cons.mp hq with rfl | hq
      · exact Ne.symm (cat.off p (List.mem_append_left _ hp)).2
      · exact hap p hp q hq
    refine FD.next i st ((D, lst ys) :: rest) m os₀ s E _ hi hS' hO (k.perm fun q hq => ?_) hap' fun v ex st' h' tk hP hO' hst k' hex hk => ?_
    · rcases List.mem_append.mp hq with h | h
      · exact List.mem_cons_of_mem _ (List.mem_append_left _ h)
      · rcases List.mem_cons.mp h with rfl | h
        · exact List.mem_cons_self
        · exact List.mem_cons_of_mem _ (List.mem_append_right _ h)
    have hstm : ∀ p ∈ st', ∃ q ∈ st, q.1 = p.1 := fun p hp => by
      have := List.mem_map_of_mem (f := (·.1)) hp
      rw [hst] at this
      obtain ⟨q, hq, e⟩ := List.mem_map.mp this
      exact ⟨q, hq, e⟩
    refine ⟨v, rfl, wpAny_pure ?_⟩
    have hCst : ∀ p ∈ st, C ≠ p.1 := fun p hp => Ne.symm (cat.off p (List.mem_append_left _ hp)).1
    have hn' : Heap.Ns h' C mC := hn.at' fun o e => hk C o hCst e
    obtain ⟨oC0, hC0, hCo0⟩ := ns_obj hn
    have cat' : CAt h₀ L C D (st' ++ (ex ++ rest)) := ⟨cat.cl, cat.c0, cat.cd, fun q hq => by
      rcases List.mem_append.mp hq with h | h
      · obtain ⟨p, hp, e⟩ := hstm q h
        rw [← e]; exact cat.off p (List.mem_append_left _ hp)
      · rcases List.mem_append.mp h with h | h
        · refine ⟨fun e => ?_, fun e => ?_⟩
          · have := hex q h; rw [e, hC0] at this; cases this
          · have := hex q h; rw [e, (k.N _ List.mem_cons_self).1] at this; cases this
        · exact cat.off q (List.mem_append_right _ h)⟩
    have k₂ : OK h₀ L m ((D, lst ys) :: (st' ++ (ex ++ rest))) os₀ { s with heap := h', toks := tk } := k'.perm fun q hq => by
      rcases List.mem_cons.mp hq with rfl | h
      · simp
      · rcases List.mem_append.mp h with h | h
        · simp [h]
        · rcases List.mem_append.mp h with h | h <;> simp [h]
    refine bind_name hx hkind k₂ hn' cat' fun h₃ tk₃ k₃ hn₃ hz₃ => ?_
    obtain ⟨oC, hC, hCo⟩ := ns_obj hn₃
    have k₄ : OK h₀ L m ((C, oC) :: (D, lst ys) :: (ex ++ (st' ++ rest))) os₀ { s with heap := h₃, toks := tk₃ } := ⟨k₃.F, fun q hq => by
      rcases List.mem_cons.mp hq with rfl | h
      · exact ⟨hC, cat.cl, cat.c0⟩
      · refine k₃.N q ?_
        rcases List.mem_cons.mp h with rfl | h
        · simp
        · rcases List.mem_append.mp h with h | h
          · simp [h]
          · rcases List.mem_append.mp h with h | h <;> simp [h], k₃.g, k₃.o⟩
    have ap₄ : Ap st' (ex ++ rest) := fun p hp q hq => by
      obtain ⟨p', hp', e⟩ := hstm p hp
      rw [← e]
      rcases List.mem_append.mp hq with h | h
      · intro e'
        have := hex q h
        rw [e', (k.N p' (List.mem_cons_of_mem _ (List.mem_append_left _ hp'))).1] at this; cases this
      · exact hap p' hp' q h
    refine wpAny_mono (elt_ok i v ex st' ys rest C D oC _ _ _ hi hP hj hCo (by simp) k₄ cat.cd (fun q hq => cat'.off q (by
      rcases List.mem_append.mp hq with h | h
      · simp [h]
      · rcases List.mem_append.mp h with h | h <;> simp [h])) ap₄ hS) (fun y s₅ h₅ => ?_) fun _ _ e => e
    obtain ⟨rest', k₅, a₅, ap₅, hS₅, hj₅⟩ := h₅
    refine ⟨st' ++ rest', _, k₅.perm fun q hq => List.mem_cons_of_mem _ hq, hCo.ns (k₅.N _ List.mem_cons_self).1, ⟨cat.cl, cat.c0, cat.cd, fun q hq => ?_⟩, st', rest', rfl, hO', hS₅, ap₅, hj₅⟩
    rcases List.mem_append.mp hq with h | h
    · exact cat'.off q (by simp [h])
    · exact a₅ q h
  · rintro ys led C D mC s E ⟨st, rest, rfl, hO, hS, hap, hj⟩ k hn cat
    have hS' : S ((D, lst ys) :: rest) := FD.mono _ _ (fun q hq => List.mem_cons_of_mem _ hq) hS
    have hap' : Ap st ((D, lst ys) :: rest) := fun p hp q hq => by
      rcases List.mem_cons.mp hq with rfl | hq
      · exact Ne.symm (cat.off p (List.mem_append_left _ hp)).2
      · exact hap p hp q hq
    have k1 : OK h₀ L m (st ++ ((D, lst ys) :: rest)) os₀ s := k.perm fun q hq => by
      rcases List.mem_append.mp hq with h | h
      · exact List.mem_cons_of_mem _ (List.mem_append_left _ h)
      · rcases List.mem_cons.mp h with rfl | h
        · exact List.mem_cons_self
        · exact List.mem_cons_of_mem _ (List.mem_append_right _ h)
    refine FD.stop st ((D, lst ys) :: rest) m os₀ s E _ hS' hO k1 hap' fun h' tk hk => ?_
    refine ⟨rfl, rest, mC, k1.but hk hap', hn.at' fun o e => hk C o (fun p hp => Ne.symm (cat.off p (List.mem_append_left _ hp)).1) e, cat.mono fun q hq => .inl (List.mem_append_right _ hq), hj⟩
  · rintro led s E Q ⟨st, rest, rfl, hO, hS, hap, hj⟩ k hQ
    exact FD.self st rest m os₀ s E Q hO hS k hQ

def NoE : Value → Shared → Prop := fun _ _ => False
/-- what stands behind the source of a for -/
def ForAt (prog : Program) (w : World) (A : Around) (h₀ : Heap) (env : Env) (x : Str) (body : List Stmt) (Q : Flow → Shared → Prop) (it : Value) (s : Shared) : Prop :=
  ∃ (I : Addr) (n : Nat) (P : Nat → Value → Led → Prop) (O : Nat → Led → Prop) (S : Led → Prop) (st₀ led₀ : Led) (m₀ : Str → Option Value) (os₀ : OsState) (JE : Nat → (Str → Option Value) → Led → Prop),
    it = .ref I ∧ Feed prog w A h₀ env.locals I n P O S ∧ OK h₀ env.locals m₀ (st₀ ++ led₀) os₀ s ∧ O 0 st₀ ∧ S led₀ ∧ Ap st₀ led₀ ∧ JE 0 m₀ led₀ ∧
    (∀ i v ex st m led s, i < n → P i v ex → JE i m led → OK h₀ env.locals (fun y => if y = x then some v else m y) (ex ++ (st ++ led)) os₀ s → Ap st (ex ++ led) → Ap ex led → S led →
      wpAny (model prog w) A (execs body env) (BodyEnd h₀ env.locals os₀ S (JE (i + 1)) st) (fun _ _ => False) s) ∧
    ∀ m led s', JE n m led → OK h₀ env.locals m led os₀ s' → Q .next s'

theorem for_core {x : Str} {px pos : Pos} {iter : Expr} {body : List Stmt} {Q : Flow → Shared → Prop} (h₀ : Heap) (hx : env.kindOf x = some .local)
    (hp : (env.scope.kind == .class || (env.scope.kind == .module && env.locals != env.globals)) = false)
    (h : wpAny (model prog w) A (eval iter env) (fun xv s₁ => wpAny (model prog w) A (pyIter xv) (ForAt prog w A h₀ env x body Q) E s₁) E s)
    (hs : ∀ x, foldedSetIterable iter env x = pure x := by intro _; rfl) :
    wpAny (model prog w) A (exec (.For (.Name x px) iter body [] pos) env) Q E s := by
  refine wpAny_For (wpAny_mono h (fun xv s₁ h₁ => wpAny_mono h₁ (fun it s₂ h₂ => ?_) fun _ _ e => e) fun _ _ e => e) hs
  obtain ⟨I, n, P, O, S, st₀, led₀, m₀, os₀, JE, rfl, FD, k, hO, hS, hap, h0, body_ok, fin⟩ := h₂
  refine codeAny_forLoop_any (fun c s' => ∃ i st m led, i ≤ n ∧ c = n + 1 - i ∧ OK h₀ env.locals m (st ++ led) os₀ s' ∧ O i st ∧ S led ∧ Ap st led ∧ JE i m led) ?_ (n + 1)
    ⟨0, st₀, m₀, led₀, Nat.zero_le _, rfl, k, hO, hS, hap, h0⟩
  rintro c s' ⟨i, st, m, led, hi, rfl, k, hO, hS, hap, hj⟩
  by_cases hlt : i < n
  · refine FD.next i st led m os₀ s' _ _ hlt hS hO k hap fun v ex st' h' tk hP hO' hst k' hex hk => ?_
    refine wpAny_pure ?_
    have hstm : ∀ p ∈ st', ∃ q ∈ st, q.1 = p.1 := fun p hp => by
      have := List.mem_map_of_mem (f := (·.1)) hp
      rw [hst] at this
      obtain ⟨q, hq, e⟩ := List.mem_map.mp this
      exact ⟨q, hq, e⟩
    have ap₄ : Ap st' (ex ++ led) := fun p hp q hq => by
      obtain ⟨p', hp', e⟩ := hstm p hp
      rw [← e]
      rcases List.mem_append.mp hq with h | h
      · intro e'
        have := hex q h
        rw [e', (k.N p' (List.mem_append_left _ hp')).1] at this; cases this
      · exact hap p' hp' q h
    refine wpAny_assign_Name (wpAny_storeName_local hx k'.F.ns (fun h₂ hn₂ hs₂ => ?_) hp)
    have F₂ := k'.F.set hn₂ hs₂
    have k₂ : ∀ tk, OK h₀ env.locals (fun y => if y = x then some v else m y) (ex ++ (st' ++ led)) os₀ { s' with heap := h₂, toks := tk } := fun tk => ⟨F₂, fun q hq => by
      have hq' : q ∈ st' ++ (ex ++ led) := by
        rcases List.mem_append.mp hq with h | h
        · simp [h]
        · rcases List.mem_append.mp h with h | h <;> simp [h]
      exact ⟨hs₂.extBut _ _ (k'.N q hq').2.1 (k'.N q hq').1, (k'.N q hq').2⟩, k'.g, k'.o⟩
    refine wpAny_mono (wpAny_noRaise (body_ok i v ex st' m led _ hlt hP hj (k₂ _) ap₄ (fun p hp q hq e => by
      have := hex p hp
      rw [← e, (k.N q (List.mem_append_right _ hq)).1] at this; cases this) hS)) (fun f s₃ h₃ => ?_) fun _ _ e => e
    obtain ⟨rfl, m', rest', k₃, ap₃, hS₃, hj₃⟩ := h₃
    exact ⟨n + 1 - (i + 1), by omega, i + 1, st', m', rest', hlt, rfl, k₃, hO', hS₃, ap₃, hj₃⟩
  · obtain rfl : i = n := Nat.le_antisymm hi (Nat.not_lt.mp hlt)
    refine FD.stop st led m os₀ s' _ _ hS hO k hap fun h' tk hk => wpAny_execs_nil ?_
    exact fin m led _ hj (k.but hk hap)
end
end Mine
end

section
open PySem PySem.W PySem.W.X PyProof.Rows PySem.Calls PySem.Spec
set_option Elab.async false
set_option maxRecDepth 100000
set_option maxHeartbeats 8000000
set_option linter.all false
namespace Mine

def sdd (σ : List Str) (v : Str) : List Str := if σ.any (· == v) then σ else σ ++ [v]
def sfirst (val : Nat → Str) (i : Nat) : List Str := ((List.range i).map val).foldl sdd []
theorem sfirst_succ (val : Nat → Str) (i : Nat) : sfirst val (i + 1) = sdd (sfirst val i) (val i) := by
  unfold sfirst; rw [List.range_succ, List.map_append, List.foldl_append]; rfl
theorem sfirst_le (val : Nat → Str) : ∀ i, (sfirst val i).length ≤ i
  | 0 => Nat.le_refl _
  | i + 1 => by
    rw [sfirst_succ]; unfold sdd
    have ih := sfirst_le val i
    split
    · omega
    · rw [List.length_append, List.length_singleton]; omega
theorem sdd_any (σ : List Str) (v k : Str) : (sdd σ v).any (· == k) = (σ.any (· == k) || decide (k = v)) := by
  unfold sdd
  by_cases h : σ.any (· == v) = true
  · rw [if_pos h]
    by_cases e : k = v
    · subst e; rw [h]; simp
    · simp [e]
  · rw [if_neg h, List.any_append]
    by_cases e : k = v
    · subst e; simp
    · have hb : (v == k) = false := by simpa [beq_iff_eq] using (fun h' : v = k => e h'.symm)
      simp [hb, e]
theorem sdd_len (σ : List Str) (v : Str) : (sdd σ v).length = if σ.any (· == v) then σ.length else σ.length + 1 := by
  unfold sdd; split <;> simp

section
variable {prog : Program} {w : World} {A : Around} {R : Result → Shared → Prop} {I : Addr} {fp wr : List Addr} {G : Array GenState → Array GenState → Prop} {n : Nat} {P : Nat → Value → Prop} {St : Nat → Shared → Prop}
theorem set_loop (W : WalksS prog w A.in1 I fp wr G n P St) (S : Addr) (hSf : S ∉ fp)
    (val : Nat → Str) (hval : ∀ i v, P i v → ∃ t, v = .str (val i) t) (hb : n + 1 < scanBound) :
    ∀ (k i : Nat) (s : Shared), n - i = k → i ≤ n → St i s →
      s.heap.SetOf (strKind prog w) S (fun k' => (sfirst val i).any (· == k')) (sfirst val i).length →
      (∀ s', Moved (S :: wr) G s s' → s'.heap.SetOf (strKind prog w) S (fun k' => (sfirst val n).any (· == k')) (sfirst val n).length → R (.ok (.ret .none)) s') →
      codeAny (model prog w) A (.builtin "set.update.loop" ⟨[.ref S, .ref I], []⟩) R s := by
  have hSw : S ∉ wr := fun h => hSf (W.sub _ h)
  have hsub : ∀ b ∈ wr, b ∈ S :: wr := fun b hb => List.mem_cons_of_mem _ hb
  intro k
  induction k with
  | zero =>
    intro i s hk hi hst hS hR
    have hin : i = n := by omega
    subst hin
    refine codeAny_builtin PyProof.Rows.F.entry_set_update_loop ?_
    rw [Around.under_plainId PyProof.Rows.F.plain_set_update_loop _]
    show wpAny _ A.in1 (pyNext (.ref I) >>= _) _ _ s
    refine wpAny_bind (W.done s _ _ hst fun s' hm => ?_)
    show wpAny _ A.in1 (ret Value.none) _ _ s'
    exact wpAny_pure (hR s' (hm.mono hsub) (by
      obtain ⟨o, es, ep, t, ho, rest⟩ := hS
      exact ⟨o, es, ep, t, hm.heap S _ hSw ho, rest⟩))
  | succ k ih =>
    intro i s hk hi hst hS hR
    have hlt : i < n := by omega
    refine codeAny_builtin PyProof.Rows.F.entry_set_update_loop ?_
    rw [Around.under_plainId PyProof.Rows.F.plain_set_update_loop _]
    show wpAny _ A.in1 (pyNext (.ref I) >>= _) _ _ s
    refine wpAny_bind (W.item i s _ _ hlt hst fun v s' hP hst' hm => ?_)
    obtain ⟨t, rfl⟩ := hval i v hP
    have hS' : s'.heap.SetOf (strKind prog w) S (fun k' => (sfirst val i).any (· == k')) (sfirst val i).length := by
      obtain ⟨o, es, ep, tb, ho, rest⟩ := hS
      exact ⟨o, es, ep, tb, hm.heap S _ hSw ho, rest⟩
    show wpAny _ A.in1 (holding [Value.str (val i) t] (setAdd S (.str (val i) t)) >>= _) _ _ s'
    refine wpAny_bind (wpAny_holding ?_)
    unfold setAdd
    refine wpAny_holding ?_
    refine wpAny_bind ((strKind prog w).pyHash (k := val i) (strKind_is _ _ _ _) ?_)
    have hroom : (sfirst val i).length + 1 < scanBound := by have := sfirst_le val i; omega
    refine wpAny_setAddHashed_of (knd := strKind prog w) (s := { s' with toks := s'.toks + 1 }) (strKind_is _ _ _ _) rfl hS' hroom fun h' hsb hS2 => ?_

    have hSi : h'.SetOf (strKind prog w) S (fun k' => (sfirst val (i + 1)).any (· == k')) (sfirst val (i + 1)).length :=
      SetOf_congr hS2 (fun k' => by rw [sfirst_succ, sdd_any]) (by rw [sfirst_succ, sdd_len])
    refine wpAny_pure ⟨plainId_quiet PyProof.Rows.F.plain_set_update_loop _, ih (i + 1) _ (by omega) hlt (W.frame _ s' _ _ hst' (Nat.le_succ _) fun b hb o e => ?_) hSi fun s'' hm'' hS'' => ?_⟩
    · rw [hsb.2 b (fun h : b = S => hSf (by rw [← h]; exact hb))]; exact e
    · refine hR s'' (Moved.trans W.gtrans ((hm.mono hsub).then_heap (Nat.le_succ _) fun b o hb e => ?_) hm'') hS''
      rw [hsb.2 b (fun h : b = S => hb (by rw [h]; exact List.mem_cons_self))]; exact e

end
theorem sub_tuple_set : isSubtype (.type "tuple") (.type "set") = pure false := by rw [isSubtype_type]; kernel_rfl
theorem sub_tuple_frozenset : isSubtype (.type "tuple") (.type "frozenset") = pure false := by rw [isSubtype_type]; kernel_rfl
theorem strs_at : ∀ {vs : List Value} {ns : List Str}, StrsAre vs ns → ∀ (i : Nat) (v : Value), vs[i]? = some v → ∃ t, v = .str (ns.getD i Str.empty) t
  | _, _, .nil, i, v, h => by simp at h
  | _, _, .cons n t hr, 0, v, h => by simp at h; exact ⟨t, by rw [← h]; rfl⟩
  | _, _, .cons n t hr, i + 1, v, h => by
    simp only [List.getElem?_cons_succ] at h
    obtain ⟨t', e⟩ := strs_at hr i v h
    exact ⟨t', by rw [e]; rfl⟩
section
variable {prog : Program} {w : World} {A : Around} {E : Value → Shared → Prop} {s : Shared}
theorem call_set_tup {l : Addr} {items : Array Value} {ns : List Str} {Q : Value → Shared → Prop}
    (hh : A.handled = none) (hl : IsTup s.heap l items) (hi : StrsAre items.toList ns) (hb : items.size + 1 < scanBound)
    (h : ∀ (h' : Heap) (tk : Nat), h'.SetOf (strKind prog w) s.heap.objs.size (fun k' => (sfirst (fun i => ns.getD i Str.empty) items.size).any (· == k')) (sfirst (fun i => ns.getD i Str.empty) items.size).length →
      (∀ b o, b < s.heap.objs.size → s.heap.get? b = some o → h'.get? b = some o) → Q (.ref s.heap.objs.size) { s with heap := h', toks := tk }) :
    wpAny (model prog w) A (call (.type "set") [.ref l]) Q E s := by
  obtain ⟨c, tl, hmro⟩ := F.called_set.mro
  have hmade := F.called_set.made
  have hsub := F.called_set.sub
  refine wpAny_call (codeAny_of_tree ?_)
  show wpAny _ _ (callAny (.type "set") _) _ _ _
  refine wpAny_pure ⟨Code.quiet_builtin _ (by decide +kernel), codeAny_builtin F.entry_type_call ?_⟩
  rw [Around.under_plain (weight_type_call_type "set" [.ref l] []) rfl]
  have h1 := F.called_set.notType
  have h2 := F.called_set.canCreate
  have hct := F.typeCall_set_1 (.ref l)
  repeat (any_goals (first | assumption | wp_step))

  refine codeAny_mono (code_set_new_1 (.ref l) (E := E) (Q₁ := fun obj s₁ => ∃ led : Bool, obj = .ref s.heap.objs.size ∧ s₁ = { s with heap := s.heap.push { cls := .type "set", dict := none, data := .set #[] 0 (.fresh 0 0 led) } }) fun led => ⟨led, rfl, rfl⟩) fun r s₁ hr => ?_
  cases r with
  | error e => exact hr
  | ok fl =>
    cases fl with
    | ret obj =>
      obtain ⟨led, rfl, rfl⟩ := hr
      have hS : (s.heap.push { cls := .type "set", dict := none, data := .set #[] 0 (.fresh 0 0 led) }).get? s.heap.objs.size = some { cls := .type "set", dict := none, data := .set #[] 0 (.fresh 0 0 led) } := Heap.get?_push_size _ rfl
      have hT : Shared.TypeIs { s with heap := s.heap.push { cls := .type "set", dict := none, data := .set #[] 0 (.fresh 0 0 led) } } (.ref s.heap.objs.size) "set" := ⟨_, hS, rfl⟩
      have hli := F.called_set.init.lookup
      have hbi := F.called_set.init.bind (.ref s.heap.objs.size)
      repeat (any_goals (first | assumption | wp_step))

      refine codeAny_mono (codeAny_call_builtin (R := wants (fun r s₂ => r = .none ∧ ∃ h' tk, s₂ = { s with heap := h', toks := tk } ∧
          h'.SetOf (strKind prog w) s.heap.objs.size (fun k' => (sfirst (fun i => ns.getD i Str.empty) items.size).any (· == k')) (sfirst (fun i => ns.getD i Str.empty) items.size).length ∧
          (∀ b o, b < s.heap.objs.size → s.heap.get? b = some o → h'.get? b = some o)) E) F.called_set.init.plain F.entry_set_init (check_set_init_1 hT ?_)) fun r₂ s₂ hr₂ => ?_
      · obtain ⟨ol, hol, hcl, nl, hdl⟩ := hl
        obtain ⟨ocls, odict, odata, oslots⟩ := ol
        simp only at hcl hdl
        subst hcl; subst hdl
        have hol' : (s.heap.push { cls := .type "set", dict := none, data := .set #[] 0 (.fresh 0 0 led) }).get? l = some { cls := .type "tuple", dict := odict, data := .seq items nl, slots := oslots } := Heap.get?_push_of_some _ hol
        have hsls := sub_tuple_set
        have hslf := sub_tuple_frozenset
        have hne : (Value.type "tuple" == Value.type "dict") = false := by decide
        have hl1 : IsTup (s.heap.push { cls := .type "set", dict := none, data := .set #[] 0 (.fresh 0 0 led) }) l items := ⟨_, hol', rfl, nl, rfl⟩
        unfold Builtin.«set.__init__» noKeywords Builtin.Frozenset.updateFrom
        generalize hPI : pyIter = PI
        wp_walk
        subst hPI

        refine iter_tuple hl1 ?_
        refine wpAny_bind (wpAny_runValue ?_)
        have hlS : l < s.heap.objs.size := Heap.lt_size hol
        have hh3 : A.in1.in1.in1.handled = none := by simp [hh]
        have hneI : l ≠ (s.heap.push { cls := .type "set", dict := none, data := .set #[] 0 (.fresh 0 0 led) }).objs.size := by
          rw [Heap.size_push]; exact Nat.ne_of_lt (Nat.lt_succ_of_lt hlS)
        have hSf : s.heap.objs.size ∉ [(s.heap.push { cls := .type "set", dict := none, data := .set #[] 0 (.fresh 0 0 led) }).objs.size, l] := by
          rw [Heap.size_push]; simp only [List.mem_cons, List.mem_singleton, List.not_mem_nil, or_false, not_or]
          exact ⟨Nat.ne_of_lt (Nat.lt_succ_self _), Nat.ne_of_gt hlS⟩
        have hval : ∀ (i : Nat) (v : Value), items[i]? = some v → ∃ t, v = .str ((fun i => ns.getD i Str.empty) i) t := fun i v hv =>
          strs_at hi i v (by rw [Array.getElem?_toList]; exact hv)
        refine set_loop ((Walks.tuple hh3 _ l hneI items).toS) s.heap.objs.size
          hSf (fun i => ns.getD i Str.empty) hval hb (items.size - 0) 0 _ (by omega) (Nat.zero_le _)
          ⟨⟨_, Heap.get?_push_size _ rfl, rfl, rfl⟩, (hl1.push _)⟩ ?hS0 ?hR
        case hS0 =>
          have hget : ((s.heap.push { cls := .type "set", dict := none, data := .set #[] 0 (.fresh 0 0 led) }).push { cls := .type "tuple_iterator", data := .fields #[.ref l, .int 0 0] }).get? s.heap.objs.size
              = some { cls := .type "set", dict := none, data := .set #[] 0 (.fresh 0 0 led) } := Heap.get?_push_of_some _ hS
          exact SetOf_congr ((setObjOf_fresh (knd := strKind prog w) led).setOf hget (by unfold scanBound; omega)) (fun _ => rfl) rfl
        case hR =>
          intro s' hm hS'
          obtain ⟨h', g', d', tk', os'⟩ := s'
          have eg : g' = s.gens := hm.gens
          have ed : d' = s.drawn := hm.drawn
          have eo : os' = s.os := hm.os
          subst eg; subst ed; subst eo
          show wpAny _ _ _ _ _ _
          refine wpAny_pure ?_
          show wpAny _ _ (ret Value.none) _ _ _
          refine wpAny_pure ⟨rfl, h', tk', rfl, hS', fun b o hb e => ?_⟩
          have hb1 : b ≠ s.heap.objs.size := Nat.ne_of_lt hb
          have hb2 : b ≠ (s.heap.push { cls := .type "set", dict := none, data := .set #[] 0 (.fresh 0 0 led) }).objs.size := by
            rw [Heap.size_push]; exact Nat.ne_of_lt (Nat.lt_succ_of_lt hb)
          exact hm.heap b o (by simp only [List.mem_cons, List.mem_singleton, List.not_mem_nil, or_false, not_or]; exact ⟨hb1, hb2⟩) (Heap.get?_push_of_some _ (Heap.get?_push_of_some _ e))

      · cases r₂ with
        | error e => exact hr₂
        | ok fl₂ =>
          cases fl₂ with
          | ret r =>
            obtain ⟨rfl, h', tk, rfl, hS', hk'⟩ := hr₂
            repeat (any_goals (first | assumption | wp_step))
            exact h _ _ hS' hk'
          | _ => exact hr₂.elim
    | _ => exact hr.elim

variable {h₀ : Heap} {L : Addr} {m : Str → Option Value} {news : List (Addr × Obj)}
theorem set_tup {l : Addr} {vs : List Value} {ns : List Str} {Q : Value → Shared → Prop} (F : Fr h₀ L s.heap m) (N : News h₀ L s.heap news)
    (hh : A.handled = none) (hl : IsTup s.heap l vs.toArray) (hi : StrsAre vs ns) (hb : ns.length + 1 < scanBound) (hlen : vs.length = ns.length)
    (h : ∀ h' (tk : Nat) o, Fr h₀ L h' m → News h₀ L h' ((s.heap.objs.size, o) :: news) → (∀ q ∈ news, q.1 < s.heap.objs.size) →
      o.SetObjOf (strKind prog w) (fun k' => (sfirst (fun i => ns.getD i Str.empty) vs.length).any (· == k')) (sfirst (fun i => ns.getD i Str.empty) vs.length).length → Q (.ref s.heap.objs.size) { s with heap := h', toks := tk }) :
    wpAny (model prog w) A (call (.type "set") [.ref l]) Q E s := by
  refine call_set_tup hh hl (by simpa using hi) (by simpa [hlen] using hb) fun h' tk hS hk => ?_
  obtain ⟨o, ho, hso⟩ := hS.objOf
  have hk' : ∀ b o, s.heap.get? b = some o → h'.get? b = some o := fun b o e => hk b o (Heap.lt_size e) e
  have hnone : h₀.get? s.heap.objs.size = none := by
    cases e : h₀.get? s.heap.objs.size with
    | none => rfl
    | some o => exact absurd (Heap.lt_size (F.keep _ _ e)) (Nat.lt_irrefl _)
  refine h h' tk o (F.keeps hk') (fun q hq => ?_) (fun q hq => Heap.lt_size (N q hq).1) (by simpa using hso)
  rcases List.mem_cons.mp hq with rfl | hq
  · exact ⟨ho, fun e => absurd F.ns.lt (by rw [← e]; exact Nat.lt_irrefl _), hnone⟩
  · exact ⟨hk' _ _ (N q hq).1, (N q hq).2⟩
/-- one value alone, or not -/
theorem sfirst_one {val : Nat → Str} : ∀ {n : Nat}, 0 < n → ((sfirst val n).length = 1 ↔ ∀ i, i < n → val i = val 0)
  | 0, h => absurd h (Nat.lt_irrefl _)
  | 1, _ => by
    refine ⟨fun _ i hi => by rw [Nat.lt_one_iff.mp hi], fun _ => ?_⟩
    rfl
  | n + 2, _ => by
    have ih := sfirst_one (val := val) (n := n + 1) (Nat.succ_pos _)
    have hpos : ∀ k, 0 < (sfirst val (k + 1)).length := by
      intro k
      induction k with
      | zero => exact Nat.zero_lt_one
      | succ k ih => rw [sfirst_succ, sdd_len]; split <;> omega
    have hmem : ∀ k x, (sfirst val k).any (· == x) = true ↔ ∃ i, i < k ∧ val i = x := by
      intro k x
      induction k with
      | zero => simp [sfirst]
      | succ k ih =>
        rw [sfirst_succ, sdd_any, Bool.or_eq_true, ih, decide_eq_true_eq]
        constructor
        · rintro (⟨i, h1, h2⟩ | rfl)
          · exact ⟨i, Nat.lt_succ_of_lt h1, h2⟩
          · exact ⟨k, Nat.lt_succ_self _, rfl⟩
        · rintro ⟨i, h1, h2⟩
          rcases Nat.lt_succ_iff_lt_or_eq.mp h1 with h | rfl
          · exact .inl ⟨i, h, h2⟩
          · exact .inr h2.symm
    rw [sfirst_succ, sdd_len]
    constructor
    · intro h
      split at h
      · rename_i hm
        have h0 := ih.mp h
        intro i hi
        rcases Nat.lt_succ_iff_lt_or_eq.mp hi with hlt | rfl
        · exact h0 i hlt
        · obtain ⟨j, hj, e⟩ := (hmem _ _).mp hm
          rw [← e]; exact h0 j hj
      · have := hpos n; omega
    · intro h
      have h0 : (sfirst val (n + 1)).length = 1 := ih.mpr fun i hi => h i (Nat.lt_succ_of_lt hi)
      rw [if_pos ((hmem _ _).mpr ⟨0, Nat.succ_pos _, (h (n + 1) (Nat.lt_succ_self _)).symm⟩)]
      exact h0
end
end Mine
end

section
open PySem PySem.W PySem.W.X PyProof.Rows PySem.Calls PySem.Spec
set_option Elab.async false
set_option maxRecDepth 100000
set_option maxHeartbeats 8000000
set_option linter.all false
namespace Mine
open PyProof.Rows.LCg (NsObj lst lst_snoc ns_obj)
/-- the ledger below an address -/
def Above (D : Addr) (led : Led) : Prop := ∀ q ∈ led, q.1 < D
def IsMax (M : Nat) (l : List Nat) : Prop := M ∈ l ∧ ∀ x ∈ l, x ≤ M
def IsMin (M : Nat) (l : List Nat) : Prop := M ∈ l ∧ ∀ x ∈ l, M ≤ x
/-- values that are signs -/
def Ones (vs : List Value) (l : List Nat) : Prop := vs.length = l.length ∧ ∀ (j : Nat) (v : Value), vs[j]? = some v → ∃ u, v = Value.str ⟨#[l.getD j 0]⟩ u
abbrev lob (zs : List Value) (c : Nat) : Obj := { cls := .type "list", data := .seq zs.toArray c }
/-- a list of rows: refs to lists of signs -/
def RowsL (led : Led) (ys : List Value) (ls : List (List Nat)) : Prop := ys.length = ls.length ∧ ∀ (j : Nat) (v : Value), ys[j]? = some v → ∃ a zs c, v = Value.ref a ∧ (a, lob zs c) ∈ led ∧ Ones zs (ls.getD j [])
theorem RowsL.nil (led : Led) : RowsL led [] [] := ⟨rfl, fun j v h => by simp at h⟩
theorem RowsL.mono {led led' : Led} {ys : List Value} {ls : List (List Nat)} (h : ∀ q ∈ led, q ∈ led') (x : RowsL led ys ls) : RowsL led' ys ls :=
  ⟨x.1, fun j v hv => let ⟨a, zs, c, e, hm, o⟩ := x.2 j v hv; ⟨a, zs, c, e, h _ hm, o⟩⟩
theorem RowsL.snoc {led : Led} {ys : List Value} {ls : List (List Nat)} {a : Addr} {zs : List Value} {c : Nat} {l : List Nat} (x : RowsL led ys ls) (o : Ones zs l) : RowsL ((a, lob zs c) :: led) (ys ++ [.ref a]) (ls ++ [l]) := by
  refine ⟨by simp [x.1], fun j v hv => ?_⟩
  by_cases hj : j < ys.length
  · rw [List.getElem?_append_left hj] at hv
    obtain ⟨a', zs', c', e, hm, o'⟩ := x.2 j v hv
    refine ⟨a', zs', c', e, List.mem_cons_of_mem _ hm, ?_⟩
    rw [List.getD_eq_getElem?_getD, List.getElem?_append_left (by rw [← x.1]; exact hj), ← List.getD_eq_getElem?_getD]
    exact o'
  · have hj' : j = ys.length := by
      rcases Nat.lt_or_ge j (ys ++ [Value.ref a]).length with h | h
      · simp at h; omega
      · rw [List.getElem?_eq_none h] at hv; cases hv
    subst hj'
    simp at hv
    subst hv
    refine ⟨a, zs, c, rfl, List.mem_cons_self, ?_⟩
    rw [x.1]; simpa using o
section
variable {prog : Program} {w : World} {A : Around} {E : Value → Shared → Prop} {s : Shared} {h₀ : Heap} {L : Addr} {m : Str → Option Value} {news : List (Addr × Obj)} {env : Env} {os₀ : OsState} {led : Led}
theorem list_ones {x : Str} {t : Tok} {Q : Value → Shared → Prop} (F : Fr h₀ L s.heap m) (N : News h₀ L s.heap news) (hh : A.handled = none) (hx : x.length ≤ 1000)
    (h : ∀ D c zs h' tk, Fr h₀ L h' m → News h₀ L h' ((D, lob zs c) :: news) → Above D news → Ones zs x.cps.toList → Q (.ref D) { s with heap := h', toks := tk }) :
    wpAny (model prog w) A (call (.type "list") [.str x t]) Q E s := by
  refine call_list_str hh x t (hn := by show x.length ≤ sizeLine; rw [sizeLine_eq]; omega) fun h' tk acc' c' hk hS' hacc => ?_
  have hnone : h₀.get? s.heap.objs.size = none := by
    cases e : h₀.get? s.heap.objs.size with
    | none => rfl
    | some o => exact absurd (Heap.lt_size (F.keep _ _ e)) (Nat.lt_irrefl _)
  refine h _ c' acc'.toList h' tk (F.keeps hk) (fun q hq => ?_) (fun q hq => Heap.lt_size (N q hq).1) ⟨by simp [hacc.1], fun j v hv => ?_⟩
  · rcases List.mem_cons.mp hq with rfl | hq
    · exact ⟨by simpa using hS', fun e => absurd F.ns.lt (by rw [← e]; exact Nat.lt_irrefl _), hnone⟩
    · exact ⟨hk _ _ (N q hq).1, (N q hq).2⟩
  · obtain ⟨c, u, hc, rfl⟩ := hacc.2 j v (by simpa using hv)
    exact ⟨u, by simp [List.getD_eq_getElem?_getD, hc]⟩
end
section
variable {w : World} {p : Program} {loose : List Str} {mg mb : Str → Option Value} {bm : Addr} {ob : Obj} {s : Shared} {A : Around} {E : Value → Shared → Prop} {h₀ : Heap} {L : Addr} {m : Str → Option Value} {news : List (Addr × Obj)} {g : Obj → List (Addr × Obj)} {ps : Array Value} {os₀ : OsState}
/-- a contract called in the walk -/
theorem call_K {f : Value} {pos : List Value} {P Q : Value → Shared → Prop} (E0 : Env0 w p loose mg mb bm ob h₀) (F : Fr h₀ L s.heap m) (N : News h₀ L s.heap news) (U : UpdF 194 (tableObj ps) news g) (ht : TriplesOk ps.toList) (hg : AllBare s.gens)
    (c : Gd w p loose mg mb bm ob s → codeAny (model prog w) A (.call f ⟨pos, []⟩) (Gives s P) s)
    (h : ∀ v s' ps', P v s' → TriplesOk ps'.toList → Fr h₀ L s'.heap m → News h₀ L s'.heap (g (tableObj ps')) → AllBare s'.gens → s'.os = s.os → Q v s') : wpAny (model prog w) A (call f pos) Q E s := by
  refine call_by (c (Gd.of E0 F N (UpdF.mem U) ht hg)) fun v s' hp T => ?_
  obtain ⟨ps', ht', F', N'⟩ := After F N U T
  exact h v s' ps' hp ht' F' N' T.bare T.os
theorem UpdF.own {d : Addr} {o : Obj} {own rest : List (Addr × Obj)} {g : Obj → List (Addr × Obj)} (h : ∀ q ∈ own, q.1 ≠ d) (U : UpdF d o rest g) : UpdF d o (own ++ rest) (fun o' => own ++ g o') := by
  induction own with
  | nil => exact U
  | cons q r ih => exact .tail (h q List.mem_cons_self) (ih fun p hp => h p (List.mem_cons_of_mem _ hp))
end

section
open PyProof.Rows.LCg (NsObj)
variable {M : Model} {A : Around} {E : Value → Shared → Prop} {s : Shared} {K : Frag} {h₀ : Heap} {L C c : Addr} {m m₂ mg mb : Str → Option Value} {news : List (Addr × Obj)} {scope : Scope} {cl : List (Str × Addr)} {env : Env} {p : Program} {loose : List Str} {x : Str} {pos : Pos} {v : Value} {o oC : Obj} {Q : Value → Shared → Prop}
theorem ce_own (N : News h₀ L s.heap news) (hm : (C, oC) ∈ news) (hC : NsObj oC m₂) (hx : m₂ x = some v) (h : Q v s)
    (hk : (compEnvC scope cl C env).scope.kind = .function) (hl : (compEnvC scope cl C env).kindOf x = some .local) (hd : (x == ("__debug__" : Str)) = false := by decide) :
    wpAny M A (eval (.Name x pos) (compEnvC scope cl C env)) Q E s := ldVarK (hC.ns (N _ hm).1) hx h hk hl hd
theorem ce_global (F : Fr h₀ L s.heap m) (X : K.In h₀) (T : TopRead p loose mg mb h₀) (e : nsIn K mainGlobals x = some (some v)) (h : Q v s) (hg : env.globals = mainGlobals)
    (hk : (compEnvC scope cl C env).scope.kind = .function) (hx : (compEnvC scope cl C env).kindOf x = some .globalImplicit) (hd : (x == ("__debug__" : Str)) = false := by decide) :
    wpAny M A (eval (.Name x pos) (compEnvC scope cl C env)) Q E s :=
  Name_function_global hk hx (loadGlobal_global (env := compEnvC scope cl C env) (show s.heap.Ns env.globals mg from hg ▸ (T.keeps F.keep).g) (mg_of X T.g e) h) hd
theorem ce_built (F : Fr h₀ L s.heap m) (X : K.In h₀) (T : TopRead p loose mg mb h₀) (e : nsIn K mainGlobals x = some none) (hv : bootBuiltins x = some v) (hn : x ≠ "__name__") (h : Q v s) (hg : env.globals = mainGlobals) (hb : env.builtins = builtinsNs)
    (hk : (compEnvC scope cl C env).scope.kind = .function) (hx : (compEnvC scope cl C env).kindOf x = some .globalImplicit) (hd : (x == ("__debug__" : Str)) = false := by decide) :
    wpAny M A (eval (.Name x pos) (compEnvC scope cl C env)) Q E s :=
  Name_function_global hk hx (loadGlobal_builtin (env := compEnvC scope cl C env) (show s.heap.Ns env.globals mg from hg ▸ (T.keeps F.keep).g) (mg_none_of X T.g e) (show s.heap.Ns env.builtins mb from hb ▸ (T.keeps F.keep).b) ((T.builtins x hn).trans hv) h) hd
theorem ce_cell (N : News h₀ L s.heap news) (hc : cl.lookup x = some c) (hm : (c, o) ∈ news) (hd : o.data = .cell (some v)) (h : Q v s)
    (hk : (compEnvC scope cl C env).scope.kind = .function) (hx : (compEnvC scope cl C env).kindOf x = some .cell) (hb : (x == ("__debug__" : Str)) = false := by decide) :
    wpAny M A (eval (.Name x pos) (compEnvC scope cl C env)) Q E s := wpAny_Name (wpAny_loadName_cell hk hx hc ⟨o, N.get hm, hd⟩ h) hb
end
end Mine
end

section
open PySem PySem.W PySem.W.X PyProof.Rows PySem.Calls PySem.Spec
set_option Elab.async false
set_option maxRecDepth 100000
set_option maxHeartbeats 8000000
set_option linter.all false
namespace Mine
open Sem (wp)
section
variable {prog : Program} {w : World} {A : Around} {E : Value → Shared → Prop} {s : Shared}

theorem nextOf_tuple_item {it t : Addr} {i : Nat} {items} {x : Value} {Q : Value → Shared → Prop} (hit : IsTupIter s.heap it t i)
    (ht : IsTup s.heap t items) (hx : items[i]? = some x)
    (hQ : ∀ h', IsTupIter h' it t (i + 1) → Heap.SameBut it s.heap h' → Q x { s with heap := h' }) :
    wpAny (model prog w) A (Builtin.SmallTypes.nextOf (.ref it)) Q E s := by
  obtain ⟨o, ho, hc, hd⟩ := id hit
  obtain ⟨ol, hol, _, nl, hdl⟩ := ht
  unfold Builtin.SmallTypes.nextOf
  refine wpAny_bind (wpAny_callSpecial?_slot (name := Str.ofString "__next__") hit.typeIs slot_tupleiter_next
    (wpAny_call_entry slot_tupleiter_next hit.typeIs entry_tupleiter_next ?_ (args_tupleiter_next _)))
  show wpAny _ _ (field (.ref it) 0 >>= _) _ _ s
  refine wpAny_bind (wpAny_field ho hd (x := .ref t) rfl ?_)
  show wpAny _ _ (if (Value.ref t == Value.none) = true then _ else _) _ _ s
  rw [if_neg (show ¬ ((Value.ref t == Value.none) = true) from Bool.false_ne_true)]
  show wpAny _ _ (field (.ref it) 1 >>= _) _ _ s
  refine wpAny_bind (wpAny_field ho hd (x := .int i 0) rfl ?_)
  show wpAny _ _ (seqItems? (.ref t) >>= _) _ _ s
  refine wpAny_bind (wpAny_seqItems hol hdl ?_)
  simp only [Int.toNat_natCast, hx]
  refine wpAny_bind (wpAny_setField ho hd (by simp) (wpAny_pure ⟨x, rfl, wpAny_pure (hQ _ ?_ (Heap.SameBut.update ..))⟩))
  exact ⟨_, Heap.get?_update_self _ ho (Obj.isFreed_of_fields (Obj.data_mapFields hd _)), (Obj.cls_mapFields ..).trans hc, by
    rw [Obj.data_mapFields hd]; simp [rawInt]⟩

theorem nextOf_tuple_end {it t : Addr} {i : Nat} {items} {Q : Value → Shared → Prop} (hh : A.handled = none)
    (hit : IsTupIter s.heap it t i) (ht : IsTup s.heap t items) (hx : items[i]? = none)
    (hE : ∀ h' e, Heap.ExtBut it s.heap h' → (∃ o, h'.get? e = some o ∧ o.cls = .type "StopIteration") → E (.ref e) { s with heap := h' }) :
    wpAny (model prog w) A (Builtin.SmallTypes.nextOf (.ref it)) Q E s := by
  obtain ⟨o, ho, hc, hd⟩ := id hit
  obtain ⟨ol, hol, _, nl, hdl⟩ := ht
  unfold Builtin.SmallTypes.nextOf
  refine wpAny_bind (wpAny_callSpecial?_slot (name := Str.ofString "__next__") hit.typeIs slot_tupleiter_next
    (wpAny_call_entry slot_tupleiter_next hit.typeIs entry_tupleiter_next ?_ (args_tupleiter_next _)))
  show wpAny _ _ (field (.ref it) 0 >>= _) _ _ s
  refine wpAny_bind (wpAny_field ho hd (x := .ref t) rfl ?_)
  show wpAny _ _ (if (Value.ref t == Value.none) = true then _ else _) _ _ s
  rw [if_neg (show ¬ ((Value.ref t == Value.none) = true) from Bool.false_ne_true)]
  show wpAny _ _ (field (.ref it) 1 >>= _) _ _ s
  refine wpAny_bind (wpAny_field ho hd (x := .int i 0) rfl ?_)
  show wpAny _ _ (seqItems? (.ref t) >>= _) _ _ s
  refine wpAny_bind (wpAny_seqItems hol hdl ?_)
  simp only [Int.toNat_natCast, hx]
  refine wpAny_bind (wpAny_rule (wpAny_bind (wpAny_setField ho hd (by simp) ?_)))
  show wpAny _ _ (newExc (.type "StopIteration") [] >>= _) _ _ _
  refine wpAny_bind ?_
  simp only [newExc, newTuple]
  refine wpAny_bind (wpAny_newObj_type ?_ (by size_fits))
  refine wpAny_bind (m := firstArgMember _ _) (wpAny_of_eq (a := Value.none) (by first | rfl | (simp only [firstArgMember]; rfl)) ?_)
  refine wpAny_newObj_type ?_ (by size_fits)
  simp only [raiseNew]
  refine wpAny_bind (wpAny_handled ?_)
  first | rw [show A.in1.handled = none from hh] | rw [hh]
  refine wpAny_bind (wpAny_pure (wpAny_throw ?_))
  refine hE _ _ (((Heap.SameBut.update ..).extBut.push _).push _) ⟨_, Heap.get?_push_size _ rfl, rfl⟩

structure ZSub where
  it : Addr
  ax : Addr
  items : Array Value
  tup : Bool
def ZSub.At (u : ZSub) (i : Nat) (h : Heap) : Prop := if u.tup = true then IsTupIter h u.it u.ax i ∧ IsTup h u.ax u.items else h.IsListIter u.it u.ax i ∧ h.IsList u.ax u.items
def ZSub.val (u : ZSub) (i : Nat) : Value := u.items.getD i .none
theorem ZSub.At.keep {u : ZSub} {i : Nat} {h h' : Heap} (x : u.At i h) (h1 : ∀ o, h.get? u.it = some o → h'.get? u.it = some o) (h2 : ∀ o, h.get? u.ax = some o → h'.get? u.ax = some o) : u.At i h' := by
  unfold ZSub.At at *
  cases ht : u.tup
  · rw [ht] at x
    simp only [Bool.false_eq_true, if_false] at *
    exact ⟨x.1.at h1, x.2.at h2⟩
  · rw [ht] at x
    simp only [if_true] at *
    obtain ⟨⟨o, e, r⟩, ⟨o', e', r'⟩⟩ := x
    exact ⟨⟨o, h1 o e, r⟩, ⟨o', h2 o' e', r'⟩⟩
theorem ZSub.At.live {u : ZSub} {i : Nat} {h : Heap} (x : u.At i h) : (∃ o, h.get? u.it = some o) ∧ ∃ o, h.get? u.ax = some o := by
  unfold ZSub.At at x
  split at x
  · obtain ⟨⟨o, e, r⟩, ⟨o', e', r'⟩⟩ := x
    exact ⟨⟨o, e⟩, ⟨o', e'⟩⟩
  · obtain ⟨⟨o, e, r⟩, ⟨o', e', r'⟩⟩ := x
    exact ⟨⟨o, e⟩, ⟨o', e'⟩⟩
theorem ZSub.item {u : ZSub} {i : Nat} {Q : Value → Shared → Prop} (x : u.At i s.heap) (hne : u.ax ≠ u.it) (hi : i < u.items.size)
    (hQ : ∀ h', u.At (i + 1) h' → Heap.SameBut u.it s.heap h' → Q (u.val i) { s with heap := h' }) : wpAny (model prog w) A (Builtin.SmallTypes.nextOf (.ref u.it)) Q E s := by
  have hx : u.items[i]? = some (u.val i) := by simp [ZSub.val, Array.getD_eq_getD_getElem?, hi]
  unfold ZSub.At at x hQ
  split at x
  · rename_i ht
    simp only [ht, if_true] at hQ
    exact nextOf_tuple_item x.1 x.2 hx fun h' a b => hQ h' ⟨a, x.2.extBut b.extBut hne⟩ b
  · rename_i ht
    simp only [ht, if_false] at hQ
    exact wpAny_nextOf_list_item x.1 x.2 hx fun h' a b => hQ h' ⟨a, x.2.extBut b.extBut hne⟩ b
theorem ZSub.done {u : ZSub} {i : Nat} {Q : Value → Shared → Prop} (hh : A.handled = none) (x : u.At i s.heap) (hi : u.items.size ≤ i)
    (hE : ∀ h' e, Heap.ExtBut u.it s.heap h' → (∃ o, h'.get? e = some o ∧ o.cls = .type "StopIteration") → E (.ref e) { s with heap := h' }) : wpAny (model prog w) A (Builtin.SmallTypes.nextOf (.ref u.it)) Q E s := by
  have hx : u.items[i]? = none := Array.getElem?_eq_none hi
  unfold ZSub.At at x
  split at x
  · exact nextOf_tuple_end hh x.1 x.2 hx hE
  · exact wpAny_nextOf_list_end hh x.1 x.2 hx hE

theorem forIn_inv {α β : Type} {body : α → β → Sem (ForInStep β)} {Q : β → Shared → Prop} (Inv : List α → β → Shared → Prop)
    (turn : ∀ x r b s, Inv (x :: r) b s → wpAny (model prog w) A (body x b) (fun st s' => ∃ b', st = .yield b' ∧ Inv r b' s') E s) (hQ : ∀ b s, Inv [] b s → Q b s) :
    ∀ (l : List α) (b : β) (s : Shared), Inv l b s → wpAny (model prog w) A (forIn l b body) Q E s := by
  intro l
  induction l with
  | nil => intro b s h; rw [List.forIn_nil]; exact wpAny_pure (hQ b s h)
  | cons x r ih =>
    intro b s h
    rw [List.forIn_cons]
    refine wpAny_bind (wpAny_mono (turn x r b s h) (fun st s' h' => ?_) fun _ _ e => e)
    obtain ⟨b', rfl, h'⟩ := h'
    exact ih b' s' h'

abbrev zobj (f0 f1 : Value) (TI TO : Addr) : Obj := { cls := .type "zip", dict := none, data := .fields #[f0, f1, .bool false, .ref TI, .ref TO], slots := #[] }
abbrev tobj (vs : List Value) : Obj := { cls := .type "tuple", data := .seq vs.toArray }
structure ZAp (z TI TO : Addr) (subs : List ZSub) : Prop where
  TIz : TI ≠ z
  TOz : TO ≠ z
  TITO : TI ≠ TO
  iz : ∀ u ∈ subs, u.it ≠ z
  iTO : ∀ u ∈ subs, u.it ≠ TO
  iTI : ∀ u ∈ subs, u.it ≠ TI
  az : ∀ u ∈ subs, u.ax ≠ z
  aTO : ∀ u ∈ subs, u.ax ≠ TO
  ai : ∀ u ∈ subs, ∀ v ∈ subs, u.ax ≠ v.it
  nd : subs.Pairwise fun u v => u.it ≠ v.it

/-- the state of a zip at turn i -/
structure ZAt (z TI TO : Addr) (subs : List ZSub) (i : Nat) (h : Heap) : Prop where
  z : ∃ f0 f1, h.get? z = some (zobj f0 f1 TI TO) ∧ (f0 = .none ∨ ∃ T : Nat, f0 = rawInt T)
  ti : h.get? TI = some (tobj (subs.map fun u => .ref u.it))
  to : ∃ vs, h.get? TO = some (tobj vs) ∧ vs.length = subs.length
  at_ : ∀ u ∈ subs, u.At i h

/-- one draw of each iterator -/
theorem sub_step {u : ZSub} {z TI TO : Addr} {subs done r : List ZSub} {i : Nat} {h : Heap} (D : ZAp z TI TO subs) (hsp : subs = done ++ u :: r) {h' : Heap}
    (hd : ∀ v ∈ done, v.At (i + 1) h) (hr : ∀ v ∈ u :: r, v.At i h) (hu : u.At (i + 1) h') (hs : Heap.SameBut u.it h h') : (∀ v ∈ done ++ [u], v.At (i + 1) h') ∧ ∀ v ∈ r, v.At i h' := by
  have hnd := D.nd
  rw [hsp, List.pairwise_append] at hnd
  obtain ⟨_, h2, h3⟩ := hnd
  have hmu : u ∈ subs := by rw [hsp]; simp
  refine ⟨fun v hv => ?_, fun v hv => ?_⟩
  · rcases List.mem_append.mp hv with hv | hv
    · have hne : v.it ≠ u.it := h3 v hv u List.mem_cons_self
      exact (hd v hv).keep (fun o e => hs.extBut _ _ hne e) fun o e => hs.extBut _ _ (D.ai v (by rw [hsp]; simp [hv]) u hmu) e
    · rw [List.mem_singleton.mp hv]; exact hu
  · have hne : v.it ≠ u.it := fun e => (List.pairwise_cons.mp h2).1 v hv e.symm
    exact (hr v (List.mem_cons_of_mem _ hv)).keep (fun o e => hs.extBut _ _ hne e) fun o e => hs.extBut _ _ (D.ai v (by rw [hsp]; simp [hv]) u hmu) e

theorem wp_alive {a : Addr} {Q : Option Obj → Shared → Prop} (h : Q (s.heap.get? a) s) : wpAny (model prog w) A (loadIfAlive a) Q E s := fun Γ p hΓ => h
theorem upd_tuple {T : Addr} {vs : List Value} {x : Value} {k : Nat} {Q : Unit → Shared → Prop} (hT : s.heap.get? T = some (tobj vs))
    (hsz : vs.length ≤ sizeLine) (h : ∀ h', h'.get? T = some (tobj (vs.set k x)) → Heap.SameBut T s.heap h' → Q () { s with heap := h' }) :
    wpAny (model prog w) A (updateSeq T (·.setIfInBounds k x)) Q E s := by
  refine wpAny_updateSeq hT rfl (h _ ?_ (Heap.SameBut.update ..)) (by show vs.toArray.size ≤ _; simpa using hsz) (by show (vs.toArray.setIfInBounds k x).size ≤ _; simp; omega)
  rw [Heap.get?_update_self _ hT rfl]
  simp [Obj.mapSeq]

theorem zip_step {z TI TO : Addr} {subs : List ZSub} {i : Nat} {Q : Value → Shared → Prop} (hh : A.handled = none) (D : ZAp z TI TO subs) (Z : ZAt z TI TO subs i s.heap) (hne : subs ≠ []) (hsz : subs.length ≤ sizeLine)
    (hQ : (∀ u ∈ subs, i < u.items.size) → ∀ h' T, ZAt z TI TO subs (i + 1) h' → h'.get? T = some (tobj (subs.map (·.val i))) → s.heap.get? T = none → (∀ c o, c ≠ z → c ≠ TO → (∀ u ∈ subs, c ≠ u.it) → s.heap.get? c = some o → h'.get? c = some o) → Q (.ref T) { s with heap := h' })
    (hE : (∃ u ∈ subs, u.items.size ≤ i) → ∀ h' e, (∀ c o, c ≠ z → c ≠ TO → (∀ u ∈ subs, c ≠ u.it) → s.heap.get? c = some o → h'.get? c = some o) → (∃ o, h'.get? e = some o ∧ o.cls = .type "StopIteration") → E (.ref e) { s with heap := h' }) :
    wpAny (model prog w) A (Builtin.«zip.__next__» ⟨[.ref z], []⟩) (fun fin s' => ∃ v, fin = .done (.ret v) ∧ Q v s') E s := by
  obtain ⟨⟨f0, f1, hz, hf⟩, hTI, ⟨vs, hTO, hvl⟩, hat⟩ := Z
  show wpAny _ _ (field (.ref z) 2 >>= _) _ _ _
  refine wpAny_bind (wpAny_field hz rfl (x := .bool false) rfl ?_)
  show wpAny _ _ (field (.ref z) 3 >>= _) _ _ _
  refine wpAny_bind (wpAny_field hz rfl (x := .ref TI) rfl ?_)
  refine wpAny_bind (wpAny_seqItems hTI rfl ?_)
  dsimp only
  rw [if_neg (by simpa using hne)]
  have hfree : ∀ (K : Bool → Sem Fin) (R : Fin → Shared → Prop), wpAny (model prog w) A (K true) R E s → (∀ h' f1', h'.get? z = some (zobj f0 f1' TI TO) → Heap.SameBut z s.heap h' → wpAny (model prog w) A (K false) R E { s with heap := h' }) →
      wpAny (model prog w) A (Builtin.SmallTypes.ownedTupleIsFree (.ref z) >>= K) R E s := fun K R h1 h2 => by
    refine wpAny_bind ?_
    unfold Builtin.SmallTypes.ownedTupleIsFree
    refine wpAny_bind (wpAny_field hz rfl (x := f0) rfl ?_)
    rcases hf with rfl | ⟨T, rfl⟩
    · exact wpAny_pure h1
    · show wpAny _ _ (loadIfAlive (Int.toNat (T : Int)) >>= _) _ _ _
      refine wpAny_bind (wp_alive ?_)
      by_cases hT : (s.heap.get? (Int.toNat (T : Int))).isNone = true
      · rw [if_pos hT]; exact wpAny_pure h1
      · rw [if_neg hT]
        refine wpAny_bind (wpAny_field hz rfl (x := f1) rfl ?_)
        by_cases hf1 : (f1 != Value.bool true) = true
        · simp only [hf1, if_true]
          refine wpAny_bind (wpAny_setField_rec hz (by simp) fun h' hz' hs' => ?_)
          exact wpAny_pure (h2 h' _ hz' hs')
        · simp only [hf1, if_false]
          exact wpAny_pure (h2 s.heap f1 hz (Heap.SameBut.refl ..))
  have kz : ∀ {h h' : Heap} {c o}, Heap.SameBut z h h' → c ≠ z → h.get? c = some o → h'.get? c = some o := fun hs hc e => hs.extBut _ _ hc e
  refine hfree _ _ ?_ ?_
  · simp only [if_true]
    refine wpAny_bind (wpAny_rule ?_)
    refine wpAny_bind (wpAny_field hz rfl (x := .ref TO) rfl ?_)
    dsimp only
    refine wpAny_bind (wpAny_setField_rec hz (by simp) fun h₁ hz₁ hs₁ => ?_)
    replace hz₁ : h₁.get? z = some (zobj .ellipsis f1 TI TO) := hz₁
    refine wpAny_bind ?_
    refine forIn_inv (fun l b s' => ∃ done rest h', subs = done ++ rest ∧ l = (rest.map fun u => Value.ref u.it).zipIdx done.length ∧ b = (none, ()) ∧ s' = { s with heap := h' } ∧ h'.get? z = some (zobj .ellipsis f1 TI TO) ∧
      (∃ vs', h'.get? TO = some (tobj vs') ∧ vs'.length = subs.length ∧ vs'.take done.length = done.map (·.val i)) ∧ (∀ v ∈ done, v.At (i + 1) h') ∧ (∀ v ∈ rest, v.At i h') ∧ (∀ v ∈ done, i < v.items.size) ∧ h'.objs.size = s.heap.objs.size ∧
      ∀ c o, c ≠ z → c ≠ TO → (∀ u ∈ subs, c ≠ u.it) → s.heap.get? c = some o → h'.get? c = some o) ?_ ?_ _ _ _
      ⟨[], subs, h₁, rfl, rfl, rfl, rfl, hz₁, ⟨vs, kz hs₁ D.TOz hTO, hvl, rfl⟩, (fun _ h => nomatch h), (fun v hv => (hat v hv).keep (fun o e => kz hs₁ (D.iz v hv) e) fun o e => kz hs₁ (D.az v hv) e), (fun _ h => nomatch h), hs₁.1, fun c o hc _ _ e => kz hs₁ hc e⟩
    · rintro x r b s' ⟨done, rest, h', hsp, hl, rfl, rfl, hz', ⟨vs', hTO', hvl', htk⟩, hd, hr, hdi, hsz', hk⟩
      cases rest with
      | nil => cases hl
      | cons u rest =>
        simp only [List.map_cons, List.zipIdx_cons, List.cons.injEq] at hl
        obtain ⟨rfl, rfl⟩ := hl
        have hmu : u ∈ subs := by rw [hsp]; simp
        refine wpAny_bind (wpAny_onRaise ?_)
        show wpAny _ _ (Builtin.SmallTypes.nextOf (.ref u.it) >>= _) _ _ _
        refine wpAny_bind ?_
        rcases Nat.lt_or_ge i u.items.size with hlt | hge
        · refine ZSub.item (hr u List.mem_cons_self) (D.ai u hmu u hmu) hlt fun h₂ hu₂ hs₂ => wpAny_pure ?_
          have hTO₂ : h₂.get? TO = some (tobj vs') := hs₂.extBut _ _ (Ne.symm (D.iTO u hmu)) hTO'
          refine wpAny_bind (wpAny_seqItems hTO₂ rfl ?_)
          refine wpAny_bind (upd_tuple hTO₂ (by rw [hvl']; exact hsz) fun h₃ hTO₃ hs₃ => ?_)
          refine wpAny_bind (wpAny_letGo (wpAny_pure ?_))
          obtain ⟨hd₂, hr₂⟩ := sub_step D hsp hd hr hu₂ hs₂
          have kt : ∀ v ∈ subs, ∀ j, v.At j h₂ → v.At j h₃ := fun v hv j x => x.keep (fun o e => hs₃.extBut _ _ (D.iTO v hv) e) fun o e => hs₃.extBut _ _ (D.aTO v hv) e
          refine ⟨_, rfl, done ++ [u], rest, h₃, by rw [hsp]; simp, by simp, rfl, rfl, hs₃.extBut _ _ (Ne.symm D.TOz) (hs₂.extBut _ _ (Ne.symm (D.iz u hmu)) hz'), ⟨_, hTO₃, by simp [hvl'], ?_⟩, fun v hv => kt v (by rw [hsp]; rcases List.mem_append.mp hv with h | h; simp [h]; rw [List.mem_singleton.mp h]; simp) _ (hd₂ v hv),
            fun v hv => kt v (by rw [hsp]; simp [hv]) _ (hr₂ v hv), fun v hv => ?_, by rw [hs₃.1, hs₂.1]; exact hsz', fun c o h1 h2 h3 e => hs₃.extBut _ _ h2 (hs₂.extBut _ _ (h3 u hmu) (hk c o h1 h2 h3 e))⟩
          · have hlen : done.length < vs'.length := by rw [hvl', hsp]; simp
            rw [List.length_append, List.length_singleton, List.take_add_one, List.map_append, ← htk]
            congr 1
            · rw [List.take_set_of_le (Nat.le_refl _)]
            · simp [List.getElem?_set, hlen]
          · rcases List.mem_append.mp hv with h | h
            · exact hdi v h
            · rw [List.mem_singleton.mp h]; exact hlt
        · refine ZSub.done hh (hr u List.mem_cons_self) hge fun h₂ e hs₂ he => ?_
          obtain ⟨oe, hoe, hce⟩ := he
          have hz₂ : h₂.get? z = some (zobj .ellipsis f1 TI TO) := hs₂ _ _ (Ne.symm (D.iz u hmu)) hz'
          have hez : e ≠ z := fun x => by subst x; rw [hz₂] at hoe; cases hoe; simp at hce
          refine wpAny_setField_rec hz₂ (by simp) fun h₃ _ hs₃ => hE ⟨u, hmu, hge⟩ h₃ e (fun c o h1 h2 h3 x => hs₃.extBut _ _ h1 (hs₂ _ _ (h3 u hmu) (hk c o h1 h2 h3 x))) ⟨oe, hs₃.extBut _ _ hez hoe, hce⟩
    · rintro b s' ⟨done, rest, h', hsp, hl, rfl, rfl, hz', ⟨vs', hTO', hvl', htk⟩, hd, hr, hdi, hsz', hk⟩
      cases rest with
      | cons u rest => cases hl
      | nil =>
        rw [List.append_nil] at hsp
        subst hsp
        have hvs : vs' = subs.map (·.val i) := by rw [← htk, ← hvl', List.take_length]
        dsimp only
        refine wpAny_bind (wpAny_seqItems hTO' rfl ?_)
        dsimp only
        refine wpAny_bind (wpAny_newTuple ?_ (by simpa [hvl'] using hsz))
        show wpAny _ _ (Builtin.SmallTypes.ownedTupleHandOut (.ref z) (.ref h'.objs.size) >>= _) _ _ _
        refine wpAny_bind ?_
        unfold Builtin.SmallTypes.ownedTupleHandOut
        have hz₆ : (h'.push { cls := .type "tuple", data := .seq vs'.toArray.toList.toArray }).get? z = some (zobj .ellipsis f1 TI TO) := Heap.get?_push_of_some _ hz'
        refine wpAny_bind (wpAny_setField_rec hz₆ (by simp) fun h₇ hz₇ hs₇ => ?_)
        replace hz₇ : h₇.get? z = some (zobj (rawInt h'.objs.size) f1 TI TO) := hz₇
        refine wpAny_setField_rec hz₇ (by simp) fun h₈ hz₈ hs₈ => ?_
        replace hz₈ : h₈.get? z = some (zobj (rawInt h'.objs.size) (.bool false) TI TO) := hz₈
        have up : ∀ c o, c ≠ z → h'.get? c = some o → h₈.get? c = some o := fun c o c1 e => hs₈.extBut _ _ c1 (hs₇.extBut _ _ c1 (Heap.get?_push_of_some _ e))
        have hzlt : z < h'.objs.size := Heap.lt_size hz'
        have hT₈ : h₈.get? h'.objs.size = some (tobj vs') := by
          have := hs₈.extBut _ _ (Nat.ne_of_gt hzlt) (hs₇.extBut _ _ (Nat.ne_of_gt hzlt) (Heap.get?_push_size h' (o := { cls := .type "tuple", data := .seq vs'.toArray.toList.toArray }) rfl))
          simpa using this
        refine wpAny_pure ⟨_, rfl, ?_⟩
        have hnone : s.heap.get? h'.objs.size = none := by
          cases e : s.heap.get? h'.objs.size with
          | none => rfl
          | some o => have := Heap.lt_size e; rw [hsz'] at this; exact absurd this (Nat.lt_irrefl _)
        refine hQ hdi h₈ h'.objs.size ⟨⟨_, _, hz₈, .inr ⟨_, rfl⟩⟩, up _ _ D.TIz (hk _ _ D.TIz D.TITO (fun u hu => Ne.symm (D.iTI u hu)) hTI), ⟨_, up _ _ D.TOz hTO', hvl'⟩, fun u hu => (hd u hu).keep (fun o e => up _ _ (D.iz u hu) e) fun o e => up _ _ (D.az u hu) e⟩ (by rw [← hvs]; exact hT₈) hnone fun c o h1 h2 h3 e => up c o h1 (hk c o h1 h2 h3 e)
  · intro h₁ f1' hz₁ hs₁
    simp only [Bool.false_eq_true, if_false, List.forIn_toArray]
    refine wpAny_bind ?_
    refine forIn_inv (fun l b s' => ∃ done rest h', subs = done ++ rest ∧ l = (rest.map fun u => Value.ref u.it) ∧ b = (none, (done.map (·.val i)).toArray) ∧ s' = { s with heap := h' } ∧ h'.get? z = some (zobj f0 f1' TI TO) ∧
      h'.get? TO = some (tobj vs) ∧ (∀ v ∈ done, v.At (i + 1) h') ∧ (∀ v ∈ rest, v.At i h') ∧ (∀ v ∈ done, i < v.items.size) ∧ h'.objs.size = s.heap.objs.size ∧
      ∀ c o, c ≠ z → c ≠ TO → (∀ u ∈ subs, c ≠ u.it) → s.heap.get? c = some o → h'.get? c = some o) ?_ ?_ _ _ _
      ⟨[], subs, h₁, rfl, rfl, rfl, rfl, hz₁, kz hs₁ D.TOz hTO, (fun _ h => nomatch h), (fun v hv => (hat v hv).keep (fun o e => kz hs₁ (D.iz v hv) e) fun o e => kz hs₁ (D.az v hv) e), (fun _ h => nomatch h), hs₁.1, fun c o hc _ _ e => kz hs₁ hc e⟩
    · rintro x r b s' ⟨done, rest, h', hsp, hl, rfl, rfl, hz', hTO', hd, hr, hdi, hsz', hk⟩
      cases rest with
      | nil => cases hl
      | cons u rest =>
        simp only [List.map_cons, List.cons.injEq] at hl
        obtain ⟨rfl, rfl⟩ := hl
        have hmu : u ∈ subs := by rw [hsp]; simp
        refine wpAny_bind (wpAny_holding ?_)
        show wpAny _ _ (Builtin.SmallTypes.nextOf (.ref u.it) >>= _) _ _ _
        refine wpAny_bind ?_
        rcases Nat.lt_or_ge i u.items.size with hlt | hge
        · refine ZSub.item (hr u List.mem_cons_self) (D.ai u hmu u hmu) hlt fun h₂ hu₂ hs₂ => wpAny_pure ?_
          refine wpAny_pure ?_
          obtain ⟨hd₂, hr₂⟩ := sub_step D hsp hd hr hu₂ hs₂
          refine ⟨_, rfl, done ++ [u], rest, h₂, by rw [hsp]; simp, rfl, by simp, rfl, hs₂.extBut _ _ (Ne.symm (D.iz u hmu)) hz', hs₂.extBut _ _ (Ne.symm (D.iTO u hmu)) hTO', hd₂, hr₂, fun v hv => ?_, by rw [hs₂.1]; exact hsz', fun c o h1 h2 h3 e => hs₂.extBut _ _ (h3 u hmu) (hk c o h1 h2 h3 e)⟩
          rcases List.mem_append.mp hv with h | h
          · exact hdi v h
          · rw [List.mem_singleton.mp h]; exact hlt
        · exact ZSub.done hh (hr u List.mem_cons_self) hge fun h₂ e hs₂ he => hE ⟨u, hmu, hge⟩ h₂ e (fun c o h1 h2 h3 x => hs₂ _ _ (h3 u hmu) (hk c o h1 h2 h3 x)) he
    · rintro b s' ⟨done, rest, h', hsp, hl, rfl, rfl, hz', hTO', hd, hr, hdi, hsz', hk⟩
      cases rest with
      | cons u rest => cases hl
      | nil =>
        rw [List.append_nil] at hsp
        subst hsp
        dsimp only
        refine wpAny_bind (wpAny_newTuple ?_ (by simpa using hsz))
        refine wpAny_pure ⟨_, rfl, ?_⟩
        have up : ∀ c o, h'.get? c = some o → (h'.push { cls := .type "tuple", data := .seq (subs.map (·.val i)).toArray.toList.toArray }).get? c = some o := fun c o e => Heap.get?_push_of_some _ e
        have hnone : s.heap.get? h'.objs.size = none := by
          cases e : s.heap.get? h'.objs.size with
          | none => rfl
          | some o => have := Heap.lt_size e; rw [hsz'] at this; exact absurd this (Nat.lt_irrefl _)
        refine hQ hdi _ h'.objs.size ⟨⟨_, _, up _ _ hz', hf⟩, up _ _ (hk _ _ D.TIz D.TITO (fun u hu => Ne.symm (D.iTI u hu)) hTI), ⟨_, up _ _ hTO', hvl⟩, fun u hu => (hd u hu).keep (fun o e => up _ _ e) fun o e => up _ _ e⟩ ?_ hnone fun c o h1 h2 h3 e => up c o (hk c o h1 h2 h3 e)
        exact Heap.get?_push_size h' rfl
end
end Mine
end

section
open PySem PySem.W PySem.W.X PyProof.Rows PySem.Calls PySem.Spec
set_option Elab.async false
set_option maxRecDepth 100000
set_option maxHeartbeats 8000000
set_option linter.all false
namespace Mine
theorem zip_tc : ∀ args : List Value, args.length ≤ 6 → checkTypeCall "zip" ⟨args, []⟩ = pure ()
  | [], _ => by kernel_rfl
  | [a], _ => by kernel_rfl
  | [a, b], _ => by kernel_rfl
  | [a, b, c], _ => by kernel_rfl
  | [a, b, c, d], _ => by kernel_rfl
  | [a, b, c, d, e], _ => by kernel_rfl
  | [a, b, c, d, e, f], _ => by kernel_rfl
  | _ :: _ :: _ :: _ :: _ :: _ :: _ :: _, h => by simp at h
theorem zip_nc : ∀ args : List Value, args.length ≤ 6 → checkBuiltinCall "zip.__new__" ⟨.type "zip" :: args, []⟩ = pure ()
  | [], _ => by kernel_rfl
  | [a], _ => by kernel_rfl
  | [a, b], _ => by kernel_rfl
  | [a, b, c], _ => by kernel_rfl
  | [a, b, c, d], _ => by kernel_rfl
  | [a, b, c, d, e], _ => by kernel_rfl
  | [a, b, c, d, e, f], _ => by kernel_rfl
  | _ :: _ :: _ :: _ :: _ :: _ :: _ :: _, h => by simp at h
theorem zip_in (obj : Value) : ∀ args : List Value, args.length ≤ 6 → argsOk "object.__init__" ⟨obj :: args, []⟩ := by
  intro args h
  unfold argsOk
  rw [signature?_of (id := "object.__init__") (n := ['_', '_', 't', 'i', 'n', 'i', '_', '_']) (o := ['t', 'c', 'e', 'j', 'b', 'o']) (by kernel_rfl) F.owner_object]
  match args, h with
  | [], _ => kernel_rfl
  | [a], _ => kernel_rfl
  | [a, b], _ => kernel_rfl
  | [a, b, c], _ => kernel_rfl
  | [a, b, c, d], _ => kernel_rfl
  | [a, b, c, d, e], _ => kernel_rfl
  | [a, b, c, d, e, f], _ => kernel_rfl
  | _ :: _ :: _ :: _ :: _ :: _ :: _ :: _, h => simp at h
structure ZSrc where
  ax : Addr
  items : Array Value
  tup : Bool
def ZSrc.Is (q : ZSrc) (h : Heap) : Prop := if q.tup = true then IsTup h q.ax q.items else h.IsList q.ax q.items
theorem ZSrc.Is.keep {q : ZSrc} {h h' : Heap} (x : q.Is h) (k : ∀ b o, h.get? b = some o → h'.get? b = some o) : q.Is h' := by
  unfold ZSrc.Is at *
  split at x
  · rename_i e; rw [if_pos e]; obtain ⟨o, e, r⟩ := x; exact ⟨o, k _ _ e, r⟩
  · rename_i e; rw [if_neg e]; obtain ⟨o, e, r⟩ := x; exact ⟨o, k _ _ e, r⟩
theorem ZSrc.Is.lt {q : ZSrc} {h : Heap} (x : q.Is h) : q.ax < h.objs.size := by
  unfold ZSrc.Is at *
  split at x
  · obtain ⟨o, e, r⟩ := x; exact Heap.lt_size e
  · obtain ⟨o, e, r⟩ := x; exact Heap.lt_size e
def mkSubs : Nat → List ZSrc → List ZSub
  | _, [] => []
  | b, q :: r => ⟨b, q.ax, q.items, q.tup⟩ :: mkSubs (b + 1) r
theorem mkSubs_len : ∀ (b : Nat) (l : List ZSrc), (mkSubs b l).length = l.length
  | _, [] => rfl
  | b, q :: r => by simp [mkSubs, mkSubs_len (b + 1) r]
theorem mkSubs_snoc : ∀ (b : Nat) (l : List ZSrc) (q : ZSrc), mkSubs b (l ++ [q]) = mkSubs b l ++ [⟨b + l.length, q.ax, q.items, q.tup⟩]
  | _, [], _ => rfl
  | b, p :: r, q => by simp only [mkSubs, List.cons_append, mkSubs_snoc (b + 1) r q, List.length_cons]; congr 3; simp [Nat.add_assoc, Nat.add_comm 1]
theorem mkSubs_mem : ∀ (b : Nat) (l : List ZSrc) (u : ZSub), u ∈ mkSubs b l → b ≤ u.it ∧ u.it < b + l.length ∧ ∃ q ∈ l, u.ax = q.ax
  | _, [], _, h => nomatch h
  | b, p :: r, u, h => by
    rcases List.mem_cons.mp h with rfl | h
    · exact ⟨Nat.le_refl _, by simp, p, List.mem_cons_self, rfl⟩
    · obtain ⟨h1, h2, q, hq, e⟩ := mkSubs_mem (b + 1) r u h
      exact ⟨Nat.le_of_succ_le h1, by rw [List.length_cons, show b + (r.length + 1) = b + 1 + r.length by omega]; exact h2, q, List.mem_cons_of_mem _ hq, e⟩
theorem mkSubs_src : ∀ (b : Nat) (l : List ZSrc) (u : ZSub), u ∈ mkSubs b l → ∃ q ∈ l, u.ax = q.ax ∧ u.items = q.items ∧ u.tup = q.tup
  | _, [], _, h => nomatch h
  | b, p :: r, u, h => by
    rcases List.mem_cons.mp h with rfl | h
    · exact ⟨p, List.mem_cons_self, rfl, rfl, rfl⟩
    · obtain ⟨q, hq, e⟩ := mkSubs_src (b + 1) r u h
      exact ⟨q, List.mem_cons_of_mem _ hq, e⟩
theorem mkSubs_items : ∀ (b : Nat) (l : List ZSrc), (mkSubs b l).map (·.items) = l.map (·.items)
  | _, [] => rfl
  | b, p :: r => by simp [mkSubs, mkSubs_items (b + 1) r]
theorem mkSubs_nd : ∀ (b : Nat) (l : List ZSrc), (mkSubs b l).Pairwise fun u v => u.it ≠ v.it
  | _, [] => List.Pairwise.nil
  | b, p :: r => List.pairwise_cons.mpr ⟨fun v hv => by
      have := (mkSubs_mem (b + 1) r v hv).1
      show b ≠ v.it
      exact Nat.ne_of_lt this, mkSubs_nd (b + 1) r⟩
section
variable {prog : Program} {w : World} {A : Around} {E : Value → Shared → Prop} {s : Shared}
theorem new_class {T : String} {rest : List Value} {Q : Value × List Value → Shared → Prop} (hs : isSubtype (.type T) (.type T) = pure true) (h : Q (.type T, rest) s) : wpAny (model prog w) A (Builtin.SmallTypes.newClass T ⟨.type T :: rest, []⟩) Q E s := by
  unfold Builtin.SmallTypes.newClass
  dsimp only
  refine wpAny_bind (m := isType _) (wpAny_of_eq (a := true) rfl ?_)
  simp only [Bool.not_true, Bool.false_eq_true, if_false]
  rw [hs]
  refine wpAny_bind (wpAny_pure ?_)
  simp only [Bool.not_true, Bool.false_eq_true, if_false]
  exact wpAny_pure h
theorem pyIter_src {q : ZSrc} {Q : Value → Shared → Prop} (x : q.Is s.heap)
    (h : ∀ h', h'.objs.size = s.heap.objs.size + 1 → (∀ b o, s.heap.get? b = some o → h'.get? b = some o) → ZSub.At ⟨s.heap.objs.size, q.ax, q.items, q.tup⟩ 0 h' → Q (.ref s.heap.objs.size) { s with heap := h' }) : wpAny (model prog w) A (pyIter (.ref q.ax)) Q E s := by
  have hk := x
  unfold ZSrc.Is at x
  split at x
  · rename_i ht
    refine iter_tuple x (h _ (Heap.size_push ..) (fun b o e => Heap.get?_push_of_some _ e) ?_)
    unfold ZSub.At
    rw [if_pos ht]
    exact ⟨⟨_, Heap.get?_push_size _ rfl, rfl, rfl⟩, x.push _⟩
  · rename_i ht
    refine wpAny_pyIter_list x (h _ (Heap.size_push ..) (fun b o e => Heap.get?_push_of_some _ e) ?_)
    unfold ZSub.At
    rw [if_neg ht]
    exact ⟨⟨_, Heap.get?_push_size _ rfl, rfl, rfl⟩, x.push _⟩
theorem iter_all {srcs : List ZSrc} {Q : List Value → Shared → Prop} (hs : ∀ q ∈ srcs, q.Is s.heap)
    (h : ∀ h', h'.objs.size = s.heap.objs.size + srcs.length → (∀ b o, s.heap.get? b = some o → h'.get? b = some o) → (∀ u ∈ mkSubs s.heap.objs.size srcs, u.At 0 h') → Q ((mkSubs s.heap.objs.size srcs).map fun u => .ref u.it) { s with heap := h' }) :
    wpAny (model prog w) A (Builtin.SmallTypes.iterAll (srcs.map fun q => .ref q.ax)) Q E s := by
  unfold Builtin.SmallTypes.iterAll
  dsimp only
  refine wpAny_bind ?_
  refine forIn_inv (fun l b s' => ∃ done rest h', srcs = done ++ rest ∧ l = (rest.map fun q => Value.ref q.ax) ∧ b = ((mkSubs s.heap.objs.size done).map fun u => Value.ref u.it).toArray ∧ s' = { s with heap := h' } ∧ h'.objs.size = s.heap.objs.size + done.length ∧
    (∀ b o, s.heap.get? b = some o → h'.get? b = some o) ∧ ∀ u ∈ mkSubs s.heap.objs.size done, u.At 0 h') ?_ ?_ _ _ _ ⟨[], srcs, s.heap, rfl, rfl, rfl, rfl, rfl, fun _ _ e => e, fun _ h => nomatch h⟩
  · rintro x r b s' ⟨done, rest, h', hsp, hl, rfl, rfl, hz, hk, hd⟩
    cases rest with
    | nil => cases hl
    | cons q rest =>
      simp only [List.map_cons, List.cons.injEq] at hl
      obtain ⟨rfl, rfl⟩ := hl
      refine wpAny_bind (wpAny_holding (pyIter_src ((hs q (by rw [hsp]; simp)).keep hk) fun h₂ hz₂ hk₂ hu => ?_))
      refine wpAny_pure ⟨_, rfl, done ++ [q], rest, h₂, by rw [hsp]; simp, rfl, ?_, rfl, by rw [hz₂]; simp only [hz, List.length_append, List.length_singleton]; omega, fun b o e => hk₂ _ _ (hk b o e), ?_⟩
      · rw [mkSubs_snoc]
        simp [hz]
      · intro u hu'
        rw [mkSubs_snoc] at hu'
        rcases List.mem_append.mp hu' with h1 | h1
        · exact (hd u h1).keep (fun o e => hk₂ _ _ e) fun o e => hk₂ _ _ e
        · rw [List.mem_singleton.mp h1, ← hz]; exact hu
  · rintro b s' ⟨done, rest, h', hsp, hl, rfl, rfl, hz, hk, hd⟩
    cases rest with
    | cons q rest => cases hl
    | nil =>
      rw [List.append_nil] at hsp
      subst hsp
      refine wpAny_pure ?_
      simpa using h h' hz hk hd

abbrev zT1 (h : Heap) (subs : List ZSub) : Heap := h.push (tobj (subs.map fun u => .ref u.it))
abbrev zT2 (h : Heap) (subs : List ZSub) : Heap := (zT1 h subs).push (tobj ((subs.map fun u => Value.ref u.it).map fun _ => .none))
abbrev zT3 (h : Heap) (subs : List ZSub) : Heap := (zT2 h subs).push (zobj .none (.bool false) h.objs.size (zT1 h subs).objs.size)
theorem call_zip {srcs : List ZSrc} {Q : Value → Shared → Prop} (hs : ∀ q ∈ srcs, q.Is s.heap) (hn : srcs.length ≤ 6)
    (h : ∀ h' z TI TO subs, ZAt z TI TO subs 0 h' → ZAp z TI TO subs → subs.length = srcs.length → (∀ u ∈ subs, s.heap.get? u.it = none ∧ ∃ q ∈ srcs, u.ax = q.ax ∧ u.items = q.items ∧ u.tup = q.tup) → subs.map (·.items) = srcs.map (·.items) → s.heap.get? z = none → s.heap.get? TI = none → s.heap.get? TO = none →
      (∀ b o, s.heap.get? b = some o → h'.get? b = some o) → Q (.ref z) { s with heap := h' }) :
    wpAny (model prog w) A (call (.type "zip") (srcs.map fun q => .ref q.ax)) Q E s := by
  refine callType_new F.called_zip (by decide) (zip_tc _ (by simpa using hn)) (zip_nc _ (by simpa using hn)) (fun obj => zip_in obj _ (by simpa using hn)) F.entry_zip_new
    (S := fun A R s => (∀ q ∈ srcs, q.Is s.heap) ∧ ∀ h', h'.objs.size = s.heap.objs.size + srcs.length → (∀ b o, s.heap.get? b = some o → h'.get? b = some o) → (∀ u ∈ mkSubs s.heap.objs.size srcs, u.At 0 h') → 
      R (.ok (.ret (.ref (zT2 h' (mkSubs s.heap.objs.size srcs)).objs.size))) { s with heap := zT3 h' (mkSubs s.heap.objs.size srcs) }) ?_ ⟨hs, ?_⟩
  · refine .of_wp fun prog w A R s hS => ?_
    obtain ⟨hs, hR⟩ := hS
    unfold Builtin.«zip.__new__»
    refine wpAny_bind (new_class F.called_zip.sub ?_)
    show wpAny _ _ (Builtin.SmallTypes.iterAll (srcs.map fun q => Value.ref q.ax) >>= _) _ _ _
    refine wpAny_bind (iter_all hs fun h' hz hk hat => ?_)
    have hl6 : ((mkSubs s.heap.objs.size srcs).map fun u => Value.ref u.it).length ≤ sizeLine := by rw [List.length_map, mkSubs_len, sizeLine_eq]; omega
    refine wpAny_bind (wpAny_newTuple ?_ hl6)
    refine wpAny_bind (wpAny_newTuple ?_ (by simpa using hl6))
    refine wpAny_bind ?_
    show wpAny _ _ (newObj (.type "zip") (.fields #[.none, .bool false, .bool false, _, _])) _ _ _
    refine wpAny_newObj_type ?_ (by size_fits)
    refine wpAny_pure ?_
    exact ⟨_, rfl, hR h' hz hk hat⟩
  · intro h' hz hk hat
    generalize hsubs : mkSubs s.heap.objs.size srcs = subs at hat
    have hm : ∀ u ∈ subs, s.heap.objs.size ≤ u.it ∧ u.it < h'.objs.size ∧ ∃ q ∈ srcs, u.ax = q.ax := fun u hu => by
      rw [← hsubs] at hu
      obtain ⟨h1, h2, q, hq, e⟩ := mkSubs_mem _ _ u hu
      exact ⟨h1, by rw [hz]; exact h2, q, hq, e⟩
    have hax : ∀ u ∈ subs, u.ax < s.heap.objs.size := fun u hu => by
      obtain ⟨_, _, q, hq, e⟩ := hm u hu
      rw [e]; exact (hs q hq).lt
    have hz1 : (zT1 h' subs).objs.size = h'.objs.size + 1 := Heap.size_push ..
    have hz2 : (zT2 h' subs).objs.size = h'.objs.size + 2 := by rw [Heap.size_push, hz1]
    have none_ : ∀ b, s.heap.objs.size ≤ b → s.heap.get? b = none := fun b hb => by
      cases e : s.heap.get? b with
      | none => rfl
      | some o => exact absurd (Heap.lt_size e) (Nat.not_lt.mpr hb)
    have hle : s.heap.objs.size ≤ h'.objs.size := by rw [hz]; exact Nat.le_add_right ..
    have hzget : (zT3 h' subs).get? (zT2 h' subs).objs.size = some (zobj .none (.bool false) h'.objs.size (zT1 h' subs).objs.size) := Heap.get?_push_size _ rfl
    have up : ∀ b o, h'.get? b = some o → (zT3 h' subs).get? b = some o := fun b o e =>
      Heap.get?_push_of_some _ (Heap.get?_push_of_some _ (Heap.get?_push_of_some _ e))
    refine ⟨⟨_, hzget, rfl⟩, h _ _ h'.objs.size (zT1 h' subs).objs.size subs ⟨⟨_, _, hzget, .inl rfl⟩, Heap.get?_push_of_some _ (Heap.get?_push_of_some _ (Heap.get?_push_size _ rfl)), ⟨_, Heap.get?_push_of_some _ (Heap.get?_push_size _ rfl), by simp⟩, fun u hu => (hat u hu).keep (fun o e => up _ _ e) fun o e => up _ _ e⟩ ?_ (by rw [← hsubs, mkSubs_len]) (fun u hu => ⟨none_ _ (hm u hu).1, ?_⟩) ?_ (none_ _ (by rw [hz2]; exact Nat.le_add_right_of_le hle)) (none_ _ hle) (none_ _ (by rw [hz1]; exact Nat.le_add_right_of_le hle)) fun b o e => up b o (hk b o e)⟩
    · rw [hz1, hz2]
      exact ⟨Nat.ne_of_lt (Nat.lt_add_of_pos_right (by decide)), Nat.ne_of_lt (Nat.lt_succ_self _), Nat.ne_of_lt (Nat.lt_succ_self _), fun u hu => Nat.ne_of_lt (Nat.lt_add_right _ (hm u hu).2.1), fun u hu => Nat.ne_of_lt (Nat.lt_add_right _ (hm u hu).2.1), fun u hu => Nat.ne_of_lt (hm u hu).2.1,
        fun u hu => Nat.ne_of_lt (Nat.lt_add_right _ (Nat.lt_of_lt_of_le (hax u hu) hle)), fun u hu => Nat.ne_of_lt (Nat.lt_add_right _ (Nat.lt_of_lt_of_le (hax u hu) hle)), fun u hu v hv => Nat.ne_of_lt (Nat.lt_of_lt_of_le (hax u hu) (hm v hv).1), by rw [← hsubs]; exact mkSubs_nd _ _⟩
    · rw [← hsubs] at hu
      exact mkSubs_src _ _ u hu
    · rw [← hsubs]; exact mkSubs_items _ _
end
end Mine
end

section
open PySem PySem.W PySem.W.X PyProof.Rows PySem.Calls PySem.Spec
set_option Elab.async false
set_option maxRecDepth 100000
set_option maxHeartbeats 8000000
set_option linter.all false
namespace Mine
open Sem (wp)
namespace MF
open PySem.F
theorem owner_map : Manifest.owners.lookup (String.ofList ['p', 'a', 'm'].reverse) = some Manifest.sig_map := by kernel_rfl
theorem slot_map_iter : Slot "map" "__iter__" "map.__iter__" :=
  .of (owner := "map") (n := "__iter__") (by rw [typeLookup_type, builtinLookup_eq_fast]; kernel_rfl) (by decide +kernel) (by decide +kernel) (by decide +kernel)
    (by first | exact .inl (by decide +kernel) | exact .inr (by decide +kernel)) (by rw [isSubtype_type]; kernel_rfl)
theorem args_map_iter_1 (a : Value) : argsOk "map.__iter__" ⟨[a], []⟩ := by
  unfold argsOk; rw [signature?_of (id := "map.__iter__") (n := ['_', '_', 'r', 'e', 't', 'i', '_', '_']) (o := ['p', 'a', 'm']) (by kernel_rfl) owner_map]; kernel_rfl
theorem slot_map_next : Slot "map" "__next__" "map.__next__" :=
  .of (owner := "map") (n := "__next__") (by rw [typeLookup_type, builtinLookup_eq_fast]; kernel_rfl) (by decide +kernel) (by decide +kernel) (by decide +kernel)
    (by first | exact .inl (by decide +kernel) | exact .inr (by decide +kernel)) (by rw [isSubtype_type]; kernel_rfl)
theorem args_map_next_1 (a : Value) : argsOk "map.__next__" ⟨[a], []⟩ := by
  unfold argsOk; rw [signature?_of (id := "map.__next__") (n := ['_', '_', 't', 'x', 'e', 'n', '_', '_']) (o := ['p', 'a', 'm']) (by kernel_rfl) owner_map]; kernel_rfl
theorem entry_map_next : entryFor table "map.__next__" = some Builtin.«map.__next__» := entryFor_of_tree (by kernel_rfl)
theorem entry_map_iter : entryFor table "map.__iter__" = some Builtin.«dict_keyiterator.__iter__» :=
  entryFor_alias (id' := "dict_keyiterator.__iter__") (by kernel_rfl) (by first | rfl | decide +kernel | (unfold String.splitOn; simp +decide [String.splitOnAux])) (by decide +kernel) (by kernel_rfl)
theorem slot_map_init : Slot "map" "__init__" "object.__init__" :=
  .of (owner := "object") (n := "__init__") (by rw [typeLookup_type, builtinLookup_eq_fast]; kernel_rfl) (by decide +kernel) (by decide +kernel) (by decide +kernel)
    (by first | exact .inl (by decide +kernel) | exact .inr (by decide +kernel)) (by rw [isSubtype_type]; kernel_rfl)
theorem mro_map : mroOf (.type "map") = pure [.type "map", .type "object"] := by rw [mroOf_type]; kernel_rfl
theorem lookup_map_new : typeLookup (.type "map") "__new__" = pure (some (.builtin "map.__new__")) := by rw [typeLookup_type, builtinLookup_eq_fast]; kernel_rfl
theorem called_map : TypeCalled "map" "map.__new__" "object.__init__" :=
  ⟨by decide +kernel, by decide +kernel, ⟨_, _, mro_map⟩, madeBy_type mro_map lookup_map_new (by decide +kernel), by decide +kernel, by rw [isSubtype_type]; kernel_rfl, slot_map_init⟩
theorem typeCall_map_2 (a b : Value) : checkTypeCall "map" ⟨[a, b], []⟩ = pure () := by kernel_rfl
theorem newCall_map_2 (a b : Value) : checkBuiltinCall "map.__new__" ⟨[.type "map", a, b], []⟩ = pure () := by kernel_rfl
theorem entry_map_new : entryFor table "map.__new__" = some Builtin.«map.__new__» := entryFor_of_tree (by kernel_rfl)
theorem map_no_len : typeLookup (.type "map") "__len__" = pure none := by rw [typeLookup_type, builtinLookup_eq_fast]; kernel_rfl
theorem map_no_hint : typeLookup (.type "map") "__length_hint__" = pure none := by rw [typeLookup_type, builtinLookup_eq_fast]; kernel_rfl
end MF
end Mine
end

section
open PySem PySem.W PySem.W.X PyProof.Rows PySem.Calls PySem.Spec
set_option Elab.async false
set_option maxRecDepth 100000
set_option maxHeartbeats 8000000
set_option linter.all false
namespace Mine
open Sem (wp)
structure MRow where
  a : Addr
  items : Array Value
abbrev mobj (TI : Addr) : Obj := { cls := .type "map", dict := none, data := .fields #[.ref TI, .builtin "len"], slots := #[] }
def rowVals (rows : List MRow) : Array Value := (rows.map fun r => Value.ref r.a).toArray
structure MAt (I TI it l : Addr) (rows : List MRow) (i : Nat) (h : Heap) : Prop where
  o : h.get? I = some (mobj TI)
  ti : h.get? TI = some (tobj [.ref it])
  it : h.IsListIter it l i
  l : h.IsList l (rowVals rows)
  r : ∀ r ∈ rows, h.IsList r.a r.items
def rowLen (rows : List MRow) (i : Nat) : Int := (((rows.map fun r => r.items.size).getD i 0 : Nat) : Int)
section
variable {prog : Program} {w : World} {A : Around} {E : Value → Shared → Prop} {s : Shared}
theorem map_walks {I TI it l : Addr} {rows : List MRow} (hh : A.handled = none) (hne : it ≠ I ∧ it ≠ TI ∧ it ≠ l ∧ ∀ r ∈ rows, r.a ≠ it) (hfit : ∀ r ∈ rows, (r.items.size : Int) < 2 ^ 63) :
    Walks prog w A I (I :: TI :: it :: l :: rows.map (·.a)) [it] rows.length (fun i v => ∃ t, v = .int (rowLen rows i) t) (MAt I TI it l rows) where
  sub := fun b hb => by rw [List.mem_singleton.mp hb]; simp
  frame := fun i h h' M hk => ⟨hk I (by simp) _ M.o, hk TI (by simp) _ M.ti, M.it.at fun o e => hk it (by simp) o e, M.l.at fun o e => hk l (by simp) o e, fun r hr => (M.r r hr).at fun o e => hk r.a (by simp only [List.mem_cons, List.mem_map]; exact .inr (.inr (.inr (.inr ⟨r, hr, rfl⟩)))) o e⟩
  item := fun i s Q E hi M hQ => by
    obtain ⟨h1, h2, h3, h4⟩ := hne
    have hT : s.TypeIs (.ref I) "map" := ⟨_, M.o, rfl⟩
    unfold pyNext
    refine wpAny_bind (wpAny_attempt (wpAny_callSpecial?_slot (name := Str.ofString "__next__") hT MF.slot_map_next
      (wpAny_call_entry MF.slot_map_next hT MF.entry_map_next ?_ (MF.args_map_next_1 _))))
    show wpAny _ _ (field (.ref I) 0 >>= _) _ _ _
    refine wpAny_bind (wpAny_field M.o rfl (x := .ref TI) rfl ?_)
    refine wpAny_bind (wpAny_seqItems M.ti rfl ?_)
    dsimp only
    simp only [List.forIn_toArray, List.forIn_cons, List.forIn_nil]
    refine wpAny_bind (wpAny_bind (wpAny_bind (wpAny_holding ?_)))
    have hx : (rowVals rows)[i]? = some (.ref (rows[i]).a) := by simp [rowVals, hi]
    refine wpAny_nextOf_list_item M.it M.l hx fun h' hit hs => ?_
    refine wpAny_pure (wpAny_pure ?_)
    refine wpAny_bind (wpAny_field (hs.extBut _ _ (Ne.symm h1) M.o) rfl (x := .builtin "len") rfl ?_)
    refine wpAny_bind (wpAny_holding ?_)
    have hr : rows[i] ∈ rows := List.getElem_mem hi
    have hl' := (M.r _ hr).extBut hs.extBut (h4 _ hr)
    refine call_len_list (s := { s with heap := h' }) hl' (hfit _ hr) ?_
    refine wpAny_bind (wpAny_letGo ?_)
    refine wpAny_pure ⟨_, rfl, wpAny_pure ?_⟩
    have e : rowLen rows i = (rows[i]).items.size := by simp [rowLen, hi]
    rw [← e]
    exact hQ _ h' _ ⟨_, rfl⟩ ⟨hs.extBut _ _ (Ne.symm h1) M.o, hs.extBut _ _ (Ne.symm h2) M.ti, hit, M.l.extBut hs.extBut (Ne.symm h3), fun r hr => (M.r r hr).extBut hs.extBut (h4 r hr)⟩ fun b o hb e => hs.extBut b o (by simpa using hb) e
  done := fun s Q E M hQ => by
    obtain ⟨h1, h2, h3, h4⟩ := hne
    have hT : s.TypeIs (.ref I) "map" := ⟨_, M.o, rfl⟩
    unfold pyNext
    refine wpAny_bind (wpAny_attempt (wpAny_callSpecial?_slot (name := Str.ofString "__next__") hT MF.slot_map_next
      (wpAny_call_entry MF.slot_map_next hT MF.entry_map_next ?_ (MF.args_map_next_1 _))))
    show wpAny _ _ (field (.ref I) 0 >>= _) _ _ _
    refine wpAny_bind (wpAny_field M.o rfl (x := .ref TI) rfl ?_)
    refine wpAny_bind (wpAny_seqItems M.ti rfl ?_)
    dsimp only
    simp only [List.forIn_toArray, List.forIn_cons, List.forIn_nil]
    refine wpAny_bind (wpAny_bind (wpAny_bind (wpAny_holding ?_)))
    have hx : (rowVals rows)[rows.length]? = none := by simp [rowVals]
    refine wpAny_nextOf_list_end (A := A.in1) hh M.it M.l hx fun h' e hs he => ?_
    obtain ⟨o, ho, hc⟩ := he
    refine wpAny_bind (wpAny_isInstance (T := "StopIteration") (b := true) ⟨o, ho, hc⟩ isSubtype_stop ?_)
    exact wpAny_pure (hQ h' s.toks fun b o hb e => hs b o (by simpa using hb) e)
  self := fun i s Q E M hQ => by
    have hT : s.TypeIs (.ref I) "map" := ⟨_, M.o, rfl⟩
    refine wpAny_pyIter_slot hT MF.slot_map_iter (wpAny_call_entry MF.slot_map_iter hT MF.entry_map_iter ?_ (MF.args_map_iter_1 _))
    show wpAny _ _ (ret (.ref I)) _ _ s
    exact wpAny_pure ⟨_, rfl, "map", _, hT, MF.slot_map_next.lookup, hQ⟩

theorem call_map {l : Addr} {rows : List MRow} {Q : Value → Shared → Prop} (hl : s.heap.IsList l (rowVals rows)) (hr : ∀ r ∈ rows, s.heap.IsList r.a r.items)
    (h : ∀ h' I TI it, MAt I TI it l rows 0 h' → it ≠ I ∧ it ≠ TI ∧ it ≠ l ∧ (∀ r ∈ rows, r.a ≠ it) → s.heap.get? it = none → (∀ b ∈ (I :: TI :: it :: l :: rows.map (·.a)), b < h'.objs.size) → (∀ b o, s.heap.get? b = some o → h'.get? b = some o) → Q (.ref I) { s with heap := h' }) :
    wpAny (model prog w) A (call (.type "map") [.builtin "len", .ref l]) Q E s := by
  refine callType_new MF.called_map (by decide) (MF.typeCall_map_2 _ _) (MF.newCall_map_2 _ _) (fun obj => F.args_object_init_3 obj _ _) MF.entry_map_new
    (S := fun A R s => s.heap.IsList l (rowVals rows) ∧ R (.ok (.ret (.ref ((s.heap.push { cls := .type "list_iterator", data := .fields #[.ref l, .int 0 0] }).push (tobj [.ref s.heap.objs.size])).objs.size)))
       { s with heap := ((s.heap.push { cls := .type "list_iterator", data := .fields #[.ref l, .int 0 0] }).push (tobj [.ref s.heap.objs.size])).push (mobj (s.heap.push { cls := .type "list_iterator", data := .fields #[.ref l, .int 0 0] }).objs.size) }) ?_ ⟨hl, ?_⟩
  · refine .of_wp fun prog w A R s hS => ?_
    obtain ⟨hl, hR⟩ := hS
    unfold Builtin.«map.__new__»
    refine wpAny_bind (new_class MF.called_map.sub ?_)
    show wpAny _ _ (Builtin.SmallTypes.iterAll [Value.ref l] >>= _) _ _ _
    refine wpAny_bind ?_
    unfold Builtin.SmallTypes.iterAll
    simp only [List.forIn_cons, List.forIn_nil]
    refine wpAny_bind (wpAny_bind (wpAny_bind (wpAny_holding ?_)))
    refine wpAny_pyIter_list hl ?_
    refine wpAny_pure (wpAny_pure (wpAny_pure ?_))
    refine wpAny_bind (wpAny_newTuple ?_ (by show 1 ≤ sizeLine; rw [sizeLine_eq]; decide))
    refine wpAny_bind ?_
    show wpAny _ _ (newObj (.type "map") (.fields #[_, _])) _ _ _
    refine wpAny_newObj_type ?_ (by size_fits)
    refine wpAny_pure ?_
    exact ⟨_, rfl, hR⟩
  · have z1 : (s.heap.push { cls := .type "list_iterator", data := .fields #[.ref l, .int 0 0] }).objs.size = s.heap.objs.size + 1 := Heap.size_push ..
    have z2 : ((s.heap.push { cls := .type "list_iterator", data := .fields #[.ref l, .int 0 0] }).push (tobj [.ref s.heap.objs.size])).objs.size = s.heap.objs.size + 2 := by rw [Heap.size_push, z1]
    have hI : (((s.heap.push { cls := .type "list_iterator", data := .fields #[.ref l, .int 0 0] }).push (tobj [.ref s.heap.objs.size])).push (mobj (s.heap.push { cls := .type "list_iterator", data := .fields #[.ref l, .int 0 0] }).objs.size)).get? ((s.heap.push { cls := .type "list_iterator", data := .fields #[.ref l, .int 0 0] }).push (tobj [.ref s.heap.objs.size])).objs.size = some (mobj (s.heap.push { cls := .type "list_iterator", data := .fields #[.ref l, .int 0 0] }).objs.size) := Heap.get?_push_size _ rfl
    have up : ∀ b o, s.heap.get? b = some o → (((s.heap.push { cls := .type "list_iterator", data := .fields #[.ref l, .int 0 0] }).push (tobj [.ref s.heap.objs.size])).push (mobj (s.heap.push { cls := .type "list_iterator", data := .fields #[.ref l, .int 0 0] }).objs.size)).get? b = some o := fun b o e => Heap.get?_push_of_some _ (Heap.get?_push_of_some _ (Heap.get?_push_of_some _ e))
    have llt : l < s.heap.objs.size := by obtain ⟨_, e, _⟩ := hl; exact Heap.lt_size e
    have rlt : ∀ r ∈ rows, r.a < s.heap.objs.size := fun r hr' => by obtain ⟨_, e, _⟩ := hr r hr'; exact Heap.lt_size e
    refine ⟨⟨_, hI, rfl⟩, h _ _ _ s.heap.objs.size ⟨hI, Heap.get?_push_of_some _ (Heap.get?_push_size _ rfl), ⟨_, Heap.get?_push_of_some _ (Heap.get?_push_of_some _ (Heap.get?_push_size _ rfl)), rfl, rfl⟩, hl.at fun o e => up _ o e, fun r hr' => (hr r hr').at fun o e => up _ o e⟩
      ⟨by rw [z2]; exact Nat.ne_of_lt (Nat.lt_add_of_pos_right (by decide)), by rw [z1]; exact Nat.ne_of_lt (Nat.lt_succ_self _), Nat.ne_of_gt llt, fun r hr' => Nat.ne_of_lt (rlt r hr')⟩ ?_ ?_ up⟩
    · cases e : s.heap.get? s.heap.objs.size with
      | none => rfl
      | some o => exact absurd (Heap.lt_size e) (Nat.lt_irrefl _)
    · have z3 : (((s.heap.push { cls := .type "list_iterator", data := .fields #[.ref l, .int 0 0] }).push (tobj [.ref s.heap.objs.size])).push (mobj (s.heap.push { cls := .type "list_iterator", data := .fields #[.ref l, .int 0 0] }).objs.size)).objs.size = s.heap.objs.size + 3 := by rw [Heap.size_push, z2]
      intro b hb
      rw [z3]
      simp only [List.mem_cons, List.mem_map] at hb
      rcases hb with rfl | rfl | rfl | rfl | ⟨r, hr', rfl⟩
      · rw [z2]; exact Nat.lt_succ_self _
      · rw [z1]; exact Nat.add_lt_add_left (show 1 < 3 by decide) _
      · exact Nat.lt_add_of_pos_right (show 0 < 3 by decide)
      · exact Nat.lt_add_right _ llt
      · exact Nat.lt_add_right _ (rlt r hr')

theorem map_ext {I TI it l S : Addr} {rows : List MRow} {c₀ : Nat} {res : Value} {R : Result → Shared → Prop} (hh : A.handled = none) (hne : it ≠ I ∧ it ≠ TI ∧ it ≠ l ∧ ∀ r ∈ rows, r.a ≠ it) (hfit : ∀ r ∈ rows, (r.items.size : Int) < 2 ^ 63)
    (M : MAt I TI it l rows 0 s.heap) (hSf : S ∉ (I :: TI :: it :: l :: rows.map (·.a))) (hS : s.heap.get? S = some { cls := .type "list", data := .seq #[] c₀ }) (hn : rows.length ≤ sizeLine)
    (hR : ∀ s' acc' c', Moved [S, it] (fun a b => b = a) s s' → s'.heap.get? S = some { cls := .type "list", dict := none, data := .seq acc' c', slots := #[] } → ItemsOf (fun i v => ∃ t, v = .int (rowLen rows i) t) acc' rows.length → R (.ok (.ret res)) s') :
    wpAny (model prog w) A.in1 (Builtin.List.listExtendWith (.ref S) (.ref I) res)
      (fun fin s' => match fin with | .done f => R (.ok f) s' | .again c' => c'.quiet = true ∧ codeAny (model prog w) A c' R s') (fun e s' => R (.error e) s') s := by
  have W := (map_walks (prog := prog) (w := w) (A := A.in1) (I := I) (TI := TI) (it := it) (l := l) (rows := rows) hh hne hfit).toS
  have hSI : S ≠ I := fun e => hSf (by rw [e]; simp)
  have hT : s.TypeIs (.ref I) "map" := ⟨_, M.o, rfl⟩
  unfold Builtin.List.listExtendWith
  refine wpAny_bind (wpAny_typeOf hT ?_)
  have h1 : Builtin.List.listSameRef (.ref S) (.ref I) = false := by simp [Builtin.List.listSameRef, hSI]
  have h2 : (Value.type "map" == Value.type "list") = false := by decide
  have h3 : (Value.type "map" == Value.type "tuple") = false := by decide
  simp only [h1, h2, h3, Bool.or_false, Bool.false_eq_true, if_false]
  refine wpAny_bind (W.self 0 _ _ _ M ?_)
  refine wpAny_bind (wpAny_holding ?_)
  unfold Builtin.List.listLengthHint
  refine wpAny_bind (wpAny_specialOf hT MF.map_no_len ?_)
  show wpAny _ A.in1 (specialOf (Value.ref I) (Str.ofString "__length_hint__") >>= _) _ _ _
  refine wpAny_bind (wpAny_specialOf hT MF.map_no_hint ?_)
  refine wpAny_pure ?_
  show wpAny _ A.in1 (rule "list.extend.makes-room" >>= fun _ => Builtin.List.listTouch (.ref S) >>= fun _ =>
    again (.builtin "list.extend.loop" ⟨[.ref S, .ref I, res], []⟩)) _ _ _
  refine wpAny_bind (wpAny_rule ?_)
  refine wpAny_bind ?_
  show wpAny _ A.in1 (updateSeq S (·.push .none) >>= fun _ => updateSeq S (·.pop)) _ _ _
  refine wpAny_bind (wpAny_updateSeq hS rfl ?_)
  have hS₂ := Heap.get?_update_self (Obj.mapSeq (·.push Value.none)) hS rfl
  refine wpAny_updateSeq (hz := by seq_fits) hS₂ rfl ?_
  have hS₃ := Heap.get?_update_self (Obj.mapSeq (·.pop)) hS₂ rfl
  have oth : ∀ b o, b ≠ S → s.heap.get? b = some o → ((s.heap.update S (Obj.mapSeq (·.push Value.none))).update S (Obj.mapSeq (·.pop))).get? b = some o :=
    fun b o hb e => (Heap.get?_update_other _ _ (Ne.symm hb)).trans ((Heap.get?_update_other _ _ (Ne.symm hb)).trans e)
  refine wpAny_pure ⟨plainId_quiet F.plain_extend_loop _, codeAny_extend_loopS W hn _ hSf _ rows.length 0 _ _ _ rfl (Nat.zero_le _)
    (W.frame 0 s _ s.toks M (Nat.le_refl _) fun b hb o e => oth b o (fun h => hSf (h ▸ hb)) e) hS₃ (ItemsOf.nil _) fun s' acc' c' hm hS' hacc => ?_⟩
  exact hR s' acc' c' (Moved.trans (fun _ _ _ h1 h2 => h2.trans h1) ((Moved.refl (wr := [S, it]) (G := fun a b => b = a) (s := s) (fun _ => rfl)).then_heap (Nat.le_refl _) fun b o hb e => oth b o (fun h => hb (by rw [h]; simp)) e) hm) hS' hacc

theorem map_init {I TI it l S : Addr} {rows : List MRow} {R : Result → Shared → Prop} (hh : A.handled = none) (hne : it ≠ I ∧ it ≠ TI ∧ it ≠ l ∧ ∀ r ∈ rows, r.a ≠ it) (hfit : ∀ r ∈ rows, (r.items.size : Int) < 2 ^ 63)
    (M : MAt I TI it l rows 0 s.heap) (hSf : S ∉ (I :: TI :: it :: l :: rows.map (·.a))) (hS : s.heap.get? S = some { cls := .type "list", data := .seq #[] }) (hn : rows.length ≤ sizeLine)
    (hR : ∀ s' acc' c', Moved [S, it] (fun a b => b = a) s s' → s'.heap.get? S = some { cls := .type "list", dict := none, data := .seq acc' c', slots := #[] } → ItemsOf (fun i v => ∃ t, v = .int (rowLen rows i) t) acc' rows.length → R (.ok (.ret .none)) s') :
    wpAny (model prog w) A.in1 (Builtin.«list.__init__» ⟨[.ref S, .ref I], []⟩)
      (fun fin s' => match fin with | .done f => R (.ok f) s' | .again c' => c'.quiet = true ∧ codeAny (model prog w) A c' R s') (fun e s' => R (.error e) s') s := by
  show wpAny _ A.in1 (do let old ← Builtin.List.listItems (.ref S); Builtin.List.listUpdate (.ref S) (fun _ => #[]); letGo old.toList.reverse; Builtin.List.listExtendWith (.ref S) (.ref I) .none) _ _ s
  refine wpAny_bind ?_
  unfold Builtin.List.listItems
  refine wpAny_bind (wpAny_seqItems hS rfl (wpAny_pure ?_))
  show wpAny _ A.in1 (updateSeq S (fun _ => #[]) >>= fun _ => letGo (#[] : Array Value).toList.reverse >>= fun _ => Builtin.List.listExtendWith (.ref S) (.ref I) .none) _ _ s
  refine wpAny_bind (wpAny_updateSeq hS rfl ?_)
  have hS₂ := Heap.get?_update_self (Obj.mapSeq (fun _ => (#[] : Array Value))) hS rfl
  have oth : ∀ b o, b ≠ S → s.heap.get? b = some o → (s.heap.update S (Obj.mapSeq (fun _ => (#[] : Array Value)))).get? b = some o :=
    fun b o hb e => (Heap.get?_update_other _ _ (Ne.symm hb)).trans e
  refine wpAny_bind (wpAny_letGo ?_)
  have W := (map_walks (prog := prog) (w := w) (A := A.in1) (I := I) (TI := TI) (it := it) (l := l) (rows := rows) hh hne hfit)
  refine map_ext hh hne hfit (W.frame 0 s.heap _ M fun b hb o e => oth b o (fun h => hSf (h ▸ hb)) e) hSf hS₂ hn fun s' acc' c' hm hS' hacc => ?_
  exact hR s' acc' c' (Moved.trans (fun _ _ _ h1 h2 => h2.trans h1) ((Moved.refl (wr := [S, it]) (G := fun a b => b = a) (s := s) (fun _ => rfl)).then_heap (Nat.le_refl _) fun b o hb e => oth b o (fun h => hb (by rw [h]; simp)) e) hm) hS' hacc

theorem list_map {I TI it l : Addr} {rows : List MRow} {Q : Value → Shared → Prop} (hh : A.handled = none) (hne : it ≠ I ∧ it ≠ TI ∧ it ≠ l ∧ ∀ r ∈ rows, r.a ≠ it) (hfit : ∀ r ∈ rows, (r.items.size : Int) < 2 ^ 63)
    (M : MAt I TI it l rows 0 s.heap) (hlt : ∀ b ∈ (I :: TI :: it :: l :: rows.map (·.a)), b < s.heap.objs.size) (hn : rows.length ≤ sizeLine)
    (hQ : ∀ h' tk acc' c', h'.get? s.heap.objs.size = some { cls := .type "list", dict := none, data := .seq acc' c', slots := #[] } → ItemsOf (fun i v => ∃ t, v = .int (rowLen rows i) t) acc' rows.length → (∀ b o, b ≠ it → s.heap.get? b = some o → h'.get? b = some o) → Q (.ref s.heap.objs.size) { s with heap := h', toks := tk }) :
    wpAny (model prog w) A (call (.type "list") [.ref I]) Q E s := by
  have hSf : s.heap.objs.size ∉ (I :: TI :: it :: l :: rows.map (·.a)) := fun hm => Nat.lt_irrefl _ (hlt _ hm)
  refine callType_codes (Q₁ := fun obj s₁ => obj = .ref s.heap.objs.size ∧ s₁ = { s with heap := s.heap.push { cls := .type "list", data := .seq #[] } }) F.called_list (F.typeCall_list_1 _) F.entry_list_init
    (code_list_new _ ⟨rfl, rfl⟩) fun obj s₁ h₁ => ?_
  obtain ⟨rfl, rfl⟩ := h₁
  have hS : (s.heap.push { cls := .type "list", data := .seq #[] }).get? s.heap.objs.size = some { cls := .type "list", data := .seq #[] } := Heap.get?_push_size _ rfl
  have W := (map_walks (prog := prog) (w := w) (A := A) (I := I) (TI := TI) (it := it) (l := l) (rows := rows) hh hne hfit)
  refine ⟨⟨_, hS, rfl⟩, F.args_list_init_2 _ _, map_init (A := A.in1) hh hne hfit (W.frame 0 s.heap _ M fun b _ o e => Heap.get?_push_of_some _ e) hSf hS hn fun s' acc' c' hm hS' hacc => ?_⟩
  refine ⟨rfl, ?_⟩
  obtain ⟨h', g', d', tk', os'⟩ := s'
  have eg : g' = s.gens := hm.gens
  have ed : d' = s.drawn := hm.drawn
  have eo : os' = s.os := hm.os
  subst eg ed eo
  exact hQ h' tk' acc' c' hS' hacc fun b o hb e => hm.heap b o (by simp only [List.mem_cons, List.not_mem_nil, or_false, not_or]; exact ⟨Nat.ne_of_lt (Heap.lt_size e), hb⟩) (Heap.get?_push_of_some _ e)

theorem max_map {I TI it l : Addr} {rows : List MRow} {Q : Value → Shared → Prop} (hh : A.handled = none) (hne : it ≠ I ∧ it ≠ TI ∧ it ≠ l ∧ ∀ r ∈ rows, r.a ≠ it) (hfit : ∀ r ∈ rows, (r.items.size : Int) < 2 ^ 63)
    (M : MAt I TI it l rows 0 s.heap) (hlt : ∀ b ∈ (I :: TI :: it :: l :: rows.map (·.a)), b < s.heap.objs.size) (hn : 0 < rows.length)
    (hQ : ∀ h' tk j t, j < rows.length → (∀ i, i < rows.length → rowLen rows i ≤ rowLen rows j) → (∀ b o, b ≠ it → s.heap.get? b = some o → h'.get? b = some o) → Q (.int (rowLen rows j) t) { s with heap := h', toks := tk }) :
    wpAny (model prog w) A (call (.builtin "max") [.ref I]) Q E s := by
  have W := (map_walks (prog := prog) (w := w) (A := A.in1) (I := I) (TI := TI) (it := it) (l := l) (rows := rows) hh hne hfit)
  refine call_max_walk (W.self 0 _ _ _ M ⟨I, _, _, _, _, _, _, rfl, W, M, hlt, hn, CmpOf.ints_gt (rowLen rows) (fun j v hv => hv), fun v h' tk hv hk => ?_⟩)
  obtain ⟨t, rfl⟩ := hv
  have hb := argBest_gt (rowLen rows) (rows.length - 1)
  exact hQ h' tk _ t (by omega) (fun i hi => hb.2 i (by omega)) fun b o hb e => hk b o (by simpa using hb) e
end
end Mine
end

section
open PySem PySem.W PySem.W.X PyProof.Rows PySem.Calls PySem.Spec
set_option Elab.async false
set_option maxRecDepth 100000
set_option maxHeartbeats 8000000
set_option linter.all false
namespace Mine
open PyProof.Rows.LCg (NsObj lst lst_snoc ns_obj)
theorem rows_of {led : Led} : ∀ {ys : List Value} {ls : List (List Nat)}, RowsL led ys ls → ∃ rows : List MRow, rows.map (fun r => Value.ref r.a) = ys ∧ (∀ r ∈ rows, ∃ zs c, (r.a, lob zs c) ∈ led ∧ r.items = zs.toArray) ∧ rows.map (·.items.size) = ls.map (·.length)
  | [], [], _ => ⟨[], rfl, (fun _ h => nomatch h), rfl⟩
  | [], _ :: _, h => by simp [RowsL] at h
  | _ :: _, [], h => by simp [RowsL] at h
  | y :: ys, l :: ls, h => by
    obtain ⟨a, zs, c, e, hm, o⟩ := h.2 0 y rfl
    have h' : RowsL led ys ls := ⟨by simpa using h.1, fun j v hv => by simpa using h.2 (j + 1) v (by simpa using hv)⟩
    obtain ⟨rows, h1, h2, h3⟩ := rows_of h'
    refine ⟨⟨a, zs.toArray⟩ :: rows, by simp [h1, e], fun r hr => ?_, ?_⟩
    · rcases List.mem_cons.mp hr with rfl | hr
      · exact ⟨zs, c, hm, rfl⟩
      · exact h2 r hr
    · simp only [List.map_cons, h3, List.size_toArray, o.1]
      rfl
theorem ints_of : ∀ {vs : List Value} {ns : List Int}, vs.length = ns.length → (∀ (j : Nat) (v : Value), vs[j]? = some v → ∃ t, v = Value.int (ns.getD j 0) t) → IntsAre vs ns
  | [], [], _, _ => .nil
  | [], _ :: _, h, _ => by simp at h
  | _ :: _, [], h, _ => by simp at h
  | v :: vs, n :: ns, h, h2 => by
    obtain ⟨t, e⟩ := h2 0 v rfl
    rw [e]
    exact .cons _ _ (ints_of (by simpa using h) fun j v hv => by simpa using h2 (j + 1) v (by simpa using hv))
def MapIs (h₀ : Heap) (L : Addr) (news : Led) (I : Addr) (ls : List (List Nat)) (h : Heap) : Prop :=
  ∃ TI it l rows, MAt I TI it l rows 0 h ∧ (it ≠ I ∧ it ≠ TI ∧ it ≠ l ∧ ∀ r ∈ rows, r.a ≠ it) ∧ (∀ r ∈ rows, (r.items.size : Int) < 2 ^ 63) ∧ (∀ b ∈ (I :: TI :: it :: l :: rows.map (·.a)), b < h.objs.size) ∧
    rows.map (·.items.size) = ls.map (·.length) ∧ h₀.get? it = none ∧ it ≠ L ∧ ∀ q ∈ news, q.1 ≠ it
section
variable {prog : Program} {w : World} {A : Around} {E : Value → Shared → Prop} {s : Shared} {h₀ : Heap} {L : Addr} {m : Str → Option Value} {news : List (Addr × Obj)}
theorem map_led {l : Addr} {ys : List Value} {ls : List (List Nat)} {Q : Value → Shared → Prop} (F : Fr h₀ L s.heap m) (N : News h₀ L s.heap news) (hl : (l, lst ys) ∈ news) (hR : RowsL news ys ls) (hsz : ∀ l ∈ ls, l.length ≤ 1000)
    (h : ∀ h' I, Fr h₀ L h' m → News h₀ L h' news → MapIs h₀ L news I ls h' → Q (.ref I) { s with heap := h' }) : wpAny (model prog w) A (call (.type "map") [.builtin "len", .ref l]) Q E s := by
  obtain ⟨rows, h1, h2, h3⟩ := rows_of hR
  have hl' : s.heap.IsList l (rowVals rows) := ⟨_, (N _ hl).1, rfl, _, by rw [rowVals, h1]⟩
  refine call_map hl' (fun r hr => ?_) fun h' I TI it M hne hit hlt hk => ?_
  · obtain ⟨zs, c, hm, e⟩ := h2 r hr
    exact ⟨_, (N _ hm).1, rfl, _, by rw [e]⟩
  · refine h h' I (F.keeps hk) (fun q hq => ⟨hk _ _ (N q hq).1, (N q hq).2⟩) ⟨TI, it, l, rows, M, hne, fun r hr => ?_, hlt, h3, ?_, fun e => ?_, fun q hq e => ?_⟩
    · have : r.items.size ∈ ls.map (·.length) := by rw [← h3]; exact List.mem_map_of_mem hr
      obtain ⟨l, hl, e⟩ := List.mem_map.mp this
      have := hsz l hl
      omega
    · cases e : h₀.get? it with
      | none => rfl
      | some o => have := F.keep _ _ e; rw [hit] at this; cases this
    · obtain ⟨o, _, _, ho, _⟩ := F.ns
      rw [e] at hit; rw [hit] at ho; cases ho
    · have := (N q hq).1
      rw [e, hit] at this; cases this
theorem rowLen_eq {rows : List MRow} {ls : List (List Nat)} (h : rows.map (·.items.size) = ls.map (·.length)) (i : Nat) : rowLen rows i = (((ls.map (·.length)).getD i 0 : Nat) : Int) := by unfold rowLen; rw [h]
theorem kept_led {it : Addr} {h' : Heap} (F : Fr h₀ L s.heap m) (N : News h₀ L s.heap news) (h0 : h₀.get? it = none) (hL : it ≠ L) (off : ∀ q ∈ news, q.1 ≠ it) (hk : ∀ b o, b ≠ it → s.heap.get? b = some o → h'.get? b = some o) : Fr h₀ L h' m ∧ News h₀ L h' news :=
  ⟨⟨F.ns.at' fun o e => hk _ o (Ne.symm hL) e, fun b o e => hk b o (fun q => by rw [q, h0] at e; cases e) (F.keep b o e), F.above⟩, fun q hq => ⟨hk _ _ (off q hq) (N q hq).1, (N q hq).2⟩⟩
theorem max_map_led {I : Addr} {ls : List (List Nat)} {Q : Value → Shared → Prop} (F : Fr h₀ L s.heap m) (N : News h₀ L s.heap news) (hh : A.handled = none) (X : MapIs h₀ L news I ls s.heap) (hn : 0 < ls.length)
    (h : ∀ h' M t tk, Fr h₀ L h' m → News h₀ L h' news → M ∈ ls.map (·.length) → (∀ l ∈ ls, l.length ≤ M) → Q (.int (M : Nat) t) { s with heap := h', toks := tk }) : wpAny (model prog w) A (call (.builtin "max") [.ref I]) Q E s := by
  obtain ⟨TI, it, l, rows, M, hne, hfit, hlt, h3, h0, hL, off⟩ := X
  have hlen : rows.length = ls.length := by simpa using congrArg List.length h3
  refine max_map hh hne hfit M hlt (by omega) fun h' tk j t hj hall hk => ?_
  obtain ⟨F', N'⟩ := kept_led F N h0 hL off hk
  rw [rowLen_eq h3]
  have hj' : j < (ls.map (·.length)).length := by simp; omega
  refine h h' _ t tk F' N' ?_ fun l hl => ?_
  · rw [List.getD_eq_getElem?_getD, List.getElem?_eq_getElem hj', Option.getD_some]; exact List.getElem_mem hj'
  · obtain ⟨i, hi, rfl⟩ := List.getElem_of_mem hl
    have := hall i (by omega)
    rw [rowLen_eq h3, rowLen_eq h3] at this
    have e : (ls.map (·.length)).getD i 0 = ls[i].length := by simp [List.getD_eq_getElem?_getD, hi]
    rw [e] at this
    omega
theorem list_map_led {I : Addr} {ls : List (List Nat)} {Q : Value → Shared → Prop} (F : Fr h₀ L s.heap m) (N : News h₀ L s.heap news) (hh : A.handled = none) (X : MapIs h₀ L news I ls s.heap) (hn : ls.length ≤ 1000)
    (h : ∀ h' D zs c tk, Fr h₀ L h' m → News h₀ L h' ((D, lob zs c) :: news) → (∀ q ∈ news, q.1 < D) → IntsAre zs (ls.map fun l => (l.length : Int)) → Q (.ref D) { s with heap := h', toks := tk }) : wpAny (model prog w) A (call (.type "list") [.ref I]) Q E s := by
  obtain ⟨TI, it, l, rows, M, hne, hfit, hlt, h3, h0, hL, off⟩ := X
  have hlen : rows.length = ls.length := by simpa using congrArg List.length h3
  refine list_map hh hne hfit M hlt (by rw [sizeLine_eq]; omega) fun h' tk acc' c' hD hacc hk => ?_
  obtain ⟨F', N'⟩ := kept_led F N h0 hL off hk
  have hnone : h₀.get? s.heap.objs.size = none := by
    cases e : h₀.get? s.heap.objs.size with
    | none => rfl
    | some o => exact absurd (Heap.lt_size (F.keep _ _ e)) (Nat.lt_irrefl _)
  refine h h' _ acc'.toList c' tk F' (fun q hq => ?_) (fun q hq => Heap.lt_size (N q hq).1) ?_
  · rcases List.mem_cons.mp hq with rfl | hq
    · exact ⟨by simpa using hD, fun e => absurd F.ns.lt (by rw [← e]; exact Nat.lt_irrefl _), hnone⟩
    · exact N' q hq
  · refine ints_of (by simp [hacc.1, hlen]) fun j v hv => ?_
    obtain ⟨t, e⟩ := hacc.2 j v (by simpa using hv)
    refine ⟨t, ?_⟩
    rw [e, rowLen_eq h3]
    congr 1
    have hj : j < ls.length := by
      rcases Nat.lt_or_ge j acc'.size with h | h
      · rw [hacc.1] at h; omega
      · rw [List.getElem?_eq_none (by simpa using h)] at hv; cases hv
    simp [List.getD_eq_getElem?_getD, hj]

theorem elt_row {os₀ : OsState} {C Dl D D' : Addr} {oC : Obj} {ys vs zs : List Value} {st own : Led} (fx : Led) {ps₁ ps' : Array Value} {c : Nat} {l : List Nat} {ls ls' : List (List Nat)} {s' : Shared} (hD : (D, tobj vs) ∈ fx)
    (F9 : Fr h₀ L s'.heap m) (N9 : News h₀ L s'.heap ((D', lob zs c) :: (C, oC) :: (Dl, lst ys) :: (fx ++ (194, tableObj ps') :: (st ++ own)))) (g9 : AllBare s'.gens) (o9 : s'.os = os₀)
    (l9 : Above D' ((C, oC) :: (Dl, lst ys) :: (fx ++ (194, tableObj ps') :: (st ++ own)))) (z9 : Ones zs l) (t9 : TriplesOk ps'.toList)
    (ap2 : Ap2 C Dl ([] ++ (st ++ (own ++ (fx ++ [(194, tableObj ps₁)]))))) (ap : Ap st ([] ++ (own ++ (fx ++ [(194, tableObj ps₁)])))) (hR : RowsL own ys ls) (hown : ∀ q ∈ own, q.1 ≠ 194) (hls : ls' = ls ++ [l]) :
    EltEnd h₀ L m os₀ (TupAt h₀ D vs.toArray) (fun ys led => ∃ ps own, led = own ++ (fx ++ [(194, tableObj ps)]) ∧ TriplesOk ps.toList ∧ RowsL own ys ls' ∧ ∀ q ∈ own, q.1 ≠ 194) C oC Dl ys st (.ref D') s' := by
  have back : ∀ q ∈ own ++ (fx ++ [(194, tableObj ps')]), ∃ q' ∈ own ++ (fx ++ [(194, tableObj ps₁)]), q'.1 = q.1 := fun q hq => by
    simp only [List.mem_append, List.mem_singleton] at hq
    rcases hq with h | h | h
    · exact ⟨q, by simp [h], rfl⟩
    · exact ⟨q, by simp [h], rfl⟩
    · exact ⟨(194, tableObj ps₁), by simp, by rw [h]⟩
  refine EltEnd.intro ((D', lob zs c) :: (own ++ (fx ++ [(194, tableObj ps')]))) F9 N9 g9 o9 ?_ ?_ ?_ (.inr ⟨_, List.mem_cons_of_mem _ (List.mem_append_right _ (List.mem_append_left _ hD)), rfl, _, rfl⟩) ⟨_, (D', lob zs c) :: own, rfl, t9, ?_, ?_⟩
  · intro q hq
    simp only [List.mem_cons, List.mem_append, List.not_mem_nil, or_false] at hq ⊢
    rcases hq with h | h | h | h | h | h | h <;> simp [h]
  · intro q hq
    rcases List.mem_cons.mp hq with rfl | hq
    · exact ⟨Nat.ne_of_gt (l9 (C, oC) (by simp)), Nat.ne_of_gt (l9 (Dl, lst ys) (by simp))⟩
    · obtain ⟨q', hq', e⟩ := back q hq
      rw [← e]; exact ap2 q' (by simp only [List.nil_append]; exact List.mem_append_right _ hq')
  · intro p hp q hq
    rcases List.mem_cons.mp hq with rfl | hq
    · exact Nat.ne_of_gt (l9 p (by simp [hp]))
    · obtain ⟨q', hq', e⟩ := back q hq
      rw [← e]; exact ap p hp q' hq'
  · rw [hls]; exact hR.snoc z9
  · intro q hq
    rcases List.mem_cons.mp hq with rfl | hq
    · exact Nat.ne_of_gt (l9 (194, tableObj ps') (by simp))
    · exact hown q hq
end
end Mine
end

section
open PySem PySem.W PySem.W.X PyProof.Rows PySem.Calls PySem.Spec
set_option Elab.async false
set_option maxRecDepth 100000
set_option maxHeartbeats 8000000
set_option linter.all false
namespace Mine
def ZSub.src (u : ZSub) : ZSrc := ⟨u.ax, u.items, u.tup⟩
def ZSrc.In (q : ZSrc) (h₀ : Heap) (led : Led) : Prop := if q.tup = true then TupAt h₀ q.ax q.items led else LCg.SrcAt h₀ q.ax q.items led
theorem ZSrc.In.is {q : ZSrc} {h₀ h : Heap} {L : Addr} {led : Led} (x : q.In h₀ led) (k : ∀ b o, h₀.get? b = some o → h.get? b = some o) (N : News h₀ L h led) : q.Is h := by
  unfold ZSrc.In at x
  unfold ZSrc.Is
  split at x
  · rename_i e; rw [if_pos e]; exact x.tup k N
  · rename_i e; rw [if_neg e]; exact x.list k N
theorem ZSrc.In.mono {q : ZSrc} {h₀ : Heap} {a b : Led} (h : ∀ p ∈ a, p ∈ b) (x : q.In h₀ a) : q.In h₀ b := by
  unfold ZSrc.In at *
  split at x
  · rename_i e; rw [if_pos e]; exact x.imp id fun ⟨o, hm, r⟩ => ⟨o, h _ hm, r⟩
  · rename_i e; rw [if_neg e]; exact x.imp id fun ⟨o, hm, r⟩ => ⟨o, h _ hm, r⟩
theorem ZSub.At.re {u : ZSub} {i : Nat} {h h' : Heap} (x : u.At i h) (h1 : ∀ o, h.get? u.it = some o → h'.get? u.it = some o) (h2 : u.src.Is h') : u.At i h' := by
  unfold ZSub.At at *
  unfold ZSrc.Is ZSub.src at h2
  cases ht : u.tup
  · rw [ht] at x h2
    simp only [Bool.false_eq_true, if_false] at *
    exact ⟨x.1.at h1, h2⟩
  · rw [ht] at x h2
    simp only [if_true] at *
    obtain ⟨⟨o, e, r⟩, _⟩ := x
    exact ⟨⟨o, h1 o e, r⟩, h2⟩
theorem ZSub.At.src {u : ZSub} {i : Nat} {h : Heap} (x : u.At i h) : u.src.Is h := by
  unfold ZSub.At at x
  unfold ZSrc.Is ZSub.src
  split at x
  · rename_i e; rw [if_pos e]; exact x.2
  · rename_i e; rw [if_neg e]; exact x.2
theorem objs_of (h : Heap) : ∀ as : List Addr, (∀ a ∈ as, ∃ o, h.get? a = some o) → ∃ st : Led, st.map (·.1) = as ∧ ∀ q ∈ st, h.get? q.1 = some q.2
  | [], _ => ⟨[], rfl, fun _ h => nomatch h⟩
  | a :: r, h1 => by
    obtain ⟨st, e, hs⟩ := objs_of h r fun b hb => h1 b (List.mem_cons_of_mem _ hb)
    obtain ⟨o, ho⟩ := h1 a List.mem_cons_self
    refine ⟨(a, o) :: st, by simp [e], fun q hq => ?_⟩
    rcases List.mem_cons.mp hq with rfl | hq
    · exact ho
    · exact hs q hq
def zadd (z TI TO : Addr) (subs : List ZSub) : List Addr := z :: TO :: TI :: subs.map (·.it)
def ZO (z TI TO : Addr) (subs : List ZSub) (i : Nat) (st : Led) : Prop := st.map (·.1) = zadd z TI TO subs ∧ ∀ h : Heap, (∀ q ∈ st, h.get? q.1 = some q.2) → (∀ u ∈ subs, u.src.Is h) → ZAt z TI TO subs i h
def ZS (h₀ : Heap) (subs : List ZSub) (led : Led) : Prop := ∀ u ∈ subs, u.src.In h₀ led
section
variable {prog : Program} {w : World} {A : Around} {E : Value → Shared → Prop} {s : Shared}

theorem ZO.of {z TI TO : Addr} {subs : List ZSub} {i : Nat} {h : Heap} (Z : ZAt z TI TO subs i h) : ∃ st, ZO z TI TO subs i st ∧ ∀ q ∈ st, h.get? q.1 = some q.2 := by
  obtain ⟨⟨f0, f1, hz, hf⟩, hTI, ⟨vs, hTO, hvl⟩, hat⟩ := Z
  obtain ⟨st, e, hs⟩ := objs_of h (zadd z TI TO subs) fun a ha => by
    simp only [zadd, List.mem_cons, List.mem_map] at ha
    rcases ha with rfl | rfl | rfl | ⟨u, hu, rfl⟩
    · exact ⟨_, hz⟩
    · exact ⟨_, hTO⟩
    · exact ⟨_, hTI⟩
    · exact (hat u hu).live.1
  have key : ∀ a ∈ zadd z TI TO subs, ∀ (h' : Heap), (∀ q ∈ st, h'.get? q.1 = some q.2) → ∀ o, h.get? a = some o → h'.get? a = some o := fun a ha h' hs' o ho => by
    rw [← e] at ha
    obtain ⟨q, hq, rfl⟩ := List.mem_map.mp ha
    rw [hs q hq] at ho
    rw [hs' q hq]; exact ho
  refine ⟨st, ⟨e, fun h' hs' hsrc => ⟨⟨f0, f1, key z (by simp [zadd]) h' hs' _ hz, hf⟩, key TI (by simp [zadd]) h' hs' _ hTI, ⟨vs, key TO (by simp [zadd]) h' hs' _ hTO, hvl⟩, fun u hu => (hat u hu).re (key u.it (by simp only [zadd, List.mem_cons, List.mem_map]; exact .inr (.inr (.inr ⟨u, hu, rfl⟩))) h' hs') (hsrc u hu)⟩⟩, hs⟩

theorem pyNext_zip {z TI TO : Addr} {subs : List ZSub} {i : Nat} {Q : Option Value → Shared → Prop} (hh : A.handled = none) (D : ZAp z TI TO subs) (Z : ZAt z TI TO subs i s.heap) (hne : subs ≠ []) (hsz : subs.length ≤ sizeLine)
    (hQ : (∀ u ∈ subs, i < u.items.size) → ∀ h' T, ZAt z TI TO subs (i + 1) h' → h'.get? T = some (tobj (subs.map (·.val i))) → s.heap.get? T = none → (∀ c o, c ≠ z → c ≠ TO → (∀ u ∈ subs, c ≠ u.it) → s.heap.get? c = some o → h'.get? c = some o) → Q (some (.ref T)) { s with heap := h' })
    (hE : (∃ u ∈ subs, u.items.size ≤ i) → ∀ h', (∀ c o, c ≠ z → c ≠ TO → (∀ u ∈ subs, c ≠ u.it) → s.heap.get? c = some o → h'.get? c = some o) → Q none { s with heap := h' }) :
    wpAny (model prog w) A (pyNext (.ref z)) Q E s := by
  obtain ⟨f0, f1, hz, hf⟩ := Z.z
  have hT : s.TypeIs (.ref z) "zip" := ⟨_, hz, rfl⟩
  unfold pyNext
  refine wpAny_bind (wpAny_attempt (wpAny_callSpecial?_slot (name := Str.ofString "__next__") hT F.slot_zip_next
    (wpAny_call_entry F.slot_zip_next hT F.entry_zip_next
      (zip_step (A := A.in1) hh D Z hne hsz (fun hi h' T a1 a2 a3 a4 => wpAny_pure (hQ hi h' T a1 a2 a3 a4)) fun hi h' e hk he => ?_) (F.args_zip_next_1 _))))
  obtain ⟨o, ho, hc⟩ := he
  refine wpAny_bind (wpAny_isInstance (T := "StopIteration") (b := true) ⟨o, ho, hc⟩ isSubtype_stop ?_)
  exact wpAny_pure (hE hi _ hk)

variable {h₀ : Heap} {L : Addr}
theorem feed_zip {z TI TO : Addr} {subs : List ZSub} {n : Nat} (hh : A.handled = none) (D : ZAp z TI TO subs) (hne : subs ≠ []) (hsz : subs.length ≤ sizeLine) (hn : ∀ u ∈ subs, n ≤ u.items.size) (hx : ∃ u ∈ subs, u.items.size ≤ n) :
    Feed prog w A h₀ L z n (fun i v ex => ∃ T, v = .ref T ∧ ex = [(T, tobj (subs.map (·.val i)))]) (ZO z TI TO subs) (ZS h₀ subs) where
  next := fun i st led m os₀ s E Q hi hS hO k ap hQ => by
    have Z : ZAt z TI TO subs i s.heap := hO.2 s.heap (fun q hq => (k.N q (List.mem_append_left _ hq)).1) fun u hu => (hS u hu).is k.F.keep (k.weak fun q hq => List.mem_append_right _ hq).N
    refine pyNext_zip hh D Z hne hsz (fun _ h' T Z' hT hTn hk => ?_) fun hx' => ?_
    · obtain ⟨st', hO', hs'⟩ := ZO.of Z'
      have hadd : ∀ p ∈ st, p.1 ∈ zadd z TI TO subs := fun p hp => by rw [← hO.1]; exact List.mem_map_of_mem hp
      have hback : ∀ a ∈ zadd z TI TO subs, ∃ p ∈ st, p.1 = a := fun a ha => by rw [← hO.1] at ha; obtain ⟨p, hp, e⟩ := List.mem_map.mp ha; exact ⟨p, hp, e⟩
      have hk' : ∀ b o, (∀ p ∈ st, b ≠ p.1) → s.heap.get? b = some o → h'.get? b = some o := fun b o hb e => by
        refine hk b o (fun x => ?_) (fun x => ?_) (fun u hu x => ?_) e
        · obtain ⟨p, hp, e'⟩ := hback z (by simp [zadd]); exact hb p hp (x.trans e'.symm)
        · obtain ⟨p, hp, e'⟩ := hback TO (by simp [zadd]); exact hb p hp (x.trans e'.symm)
        · obtain ⟨p, hp, e'⟩ := hback u.it (by simp only [zadd, List.mem_cons, List.mem_map]; exact .inr (.inr (.inr ⟨u, hu, rfl⟩))); exact hb p hp (x.trans e'.symm)
      have k' := k.but (tk := s.toks) hk' ap
      refine hQ _ [(T, tobj (subs.map (·.val i)))] st' h' s.toks ⟨T, rfl, rfl⟩ hO' (hO'.1.trans hO.1.symm) ⟨k'.F, fun q hq => ?_, k'.g, k'.o⟩ (fun q hq => by rw [List.mem_singleton.mp hq]; exact hTn) hk'
      rcases List.mem_append.mp hq with hq | hq
      · have : q.1 ∈ zadd z TI TO subs := by rw [← hO'.1]; exact List.mem_map_of_mem hq
        obtain ⟨p, hp, e⟩ := hback _ this
        have hp' := k.N p (List.mem_append_left _ hp)
        rw [e] at hp'
        exact ⟨hs' q hq, hp'.2⟩
      · rcases List.mem_append.mp hq with hq | hq
        · rw [List.mem_singleton.mp hq]
          refine ⟨hT, fun e => ?_, ?_⟩
          · obtain ⟨oL, _, _, hoL, _⟩ := k.F.ns
            have hTn' : s.heap.get? T = none := hTn
            have e' : T = L := e
            rw [e', hoL] at hTn'; cases hTn'
          · show h₀.get? T = none
            cases e : h₀.get? T with
            | none => rfl
            | some o => have := k.F.keep _ _ e; rw [hTn] at this; cases this
        · exact k'.N q hq
    · obtain ⟨u, hu, hle⟩ := hx'
      exact absurd (Nat.lt_of_lt_of_le hi (hn u hu)) (Nat.not_lt.mpr hle)
  stop := fun st led m os₀ s E Q hS hO k ap hQ => by
    have Z : ZAt z TI TO subs n s.heap := hO.2 s.heap (fun q hq => (k.N q (List.mem_append_left _ hq)).1) fun u hu => (hS u hu).is k.F.keep (k.weak fun q hq => List.mem_append_right _ hq).N
    refine pyNext_zip hh D Z hne hsz (fun hlt => ?_) fun _ h' hk => ?_
    · obtain ⟨u, hu, hle⟩ := hx
      exact absurd (hlt u hu) (Nat.not_lt.mpr hle)
    · have hback : ∀ a ∈ zadd z TI TO subs, ∃ p ∈ st, p.1 = a := fun a ha => by rw [← hO.1] at ha; obtain ⟨p, hp, e⟩ := List.mem_map.mp ha; exact ⟨p, hp, e⟩
      refine hQ h' s.toks fun b o hb e => ?_
      refine hk b o (fun x => ?_) (fun x => ?_) (fun u hu x => ?_) e
      · obtain ⟨p, hp, e'⟩ := hback z (by simp [zadd]); exact hb p hp (x.trans e'.symm)
      · obtain ⟨p, hp, e'⟩ := hback TO (by simp [zadd]); exact hb p hp (x.trans e'.symm)
      · obtain ⟨p, hp, e'⟩ := hback u.it (by simp only [zadd, List.mem_cons, List.mem_map]; exact .inr (.inr (.inr ⟨u, hu, rfl⟩))); exact hb p hp (x.trans e'.symm)
  self := fun st led m os₀ s E Q hO hS k hQ => by
    have Z : ZAt z TI TO subs 0 s.heap := hO.2 s.heap (fun q hq => (k.N q (List.mem_append_left _ hq)).1) fun u hu => (hS u hu).is k.F.keep (k.weak fun q hq => List.mem_append_right _ hq).N
    obtain ⟨f0, f1, hz, _⟩ := Z.z
    have hT : s.TypeIs (.ref z) "zip" := ⟨_, hz, rfl⟩
    refine wpAny_pyIter_slot hT F.slot_zip_iter (wpAny_call_entry F.slot_zip_iter hT F.entry_zip_iter ?_ (F.args_zip_iter_1 _))
    show wpAny _ _ (ret (.ref z)) _ _ s
    exact wpAny_pure ⟨_, rfl, "zip", _, hT, F.slot_zip_next.lookup, hQ⟩
  mono := fun a b h S u hu => (S u hu).mono h
end
end Mine
end

section
open PySem PySem.W PySem.W.X PyProof.Rows PySem.Calls PySem.Spec
set_option Elab.async false
set_option maxRecDepth 100000
set_option maxHeartbeats 8000000
set_option linter.all false
namespace Mine
open PyProof.Rows.LCg (NsObj lst lst_snoc ns_obj)
def lensI (ls : List (List Nat)) : List Int := ls.map fun l => (l.length : Int)
section
variable {prog : Program} {w : World} {A : Around} {E : Value → Shared → Prop} {s : Shared} {h₀ : Heap} {L : Addr} {m : Str → Option Value} {news : List (Addr × Obj)}
def TruthT (prog : Program) (w : World) (A : Around) (P : Nat → Value → Prop) (tr : Nat → Bool) : Prop :=
  ∀ i v (s : Shared) (Q : Bool → Shared → Prop) (E : Value → Shared → Prop), P i v → (∀ tk, Q (tr i) { s with toks := tk }) → wpAny (model prog w) A (truthy v) Q E s
theorem all_loopT {R : Result → Shared → Prop} {I : Addr} {fp wr : List Addr} {n : Nat} {P : Nat → Value → Prop} {St : Nat → Heap → Prop} (W : Walks prog w A.in1 I fp wr n P St) (tr : Nat → Bool) (htr : TruthT prog w A.in1 P tr) : ∀ (k i : Nat) (s : Shared), n - i = k → i ≤ n → St i s.heap →
    (∀ h' tk, (∀ b o, b ∉ wr → s.heap.get? b = some o → h'.get? b = some o) → R (.ok (.ret (.bool (((List.range n).drop i).all tr)))) { s with heap := h', toks := tk }) →
    codeAny (model prog w) A (.builtin "all.loop" ⟨[.ref I], []⟩) R s := by
  intro k
  induction k with
  | zero =>
    intro i s hk hi hst hR
    have hin : i = n := by omega
    subst hin
    refine codeAny_builtin F.entry_all_loop ?_
    rw [Around.under_plainId F.plain_all_loop _]
    show wpAny _ A.in1 (pyNext (.ref I) >>= _) _ _ s
    refine wpAny_bind (W.done s _ _ hst fun h' tk hk' => ?_)
    refine wpAny_bind (wpAny_rule (wpAny_pure ?_))
    have := hR h' tk hk'
    rw [List.drop_of_length_le (by simp)] at this
    exact this
  | succ k ih =>
    intro i s hk hi hst hR
    have hlt : i < n := by omega
    have hd : (List.range n).drop i = i :: (List.range n).drop (i + 1) := by
      rw [List.drop_eq_getElem_cons (by simpa using hlt)]; simp
    refine codeAny_builtin F.entry_all_loop ?_
    rw [Around.under_plainId F.plain_all_loop _]
    show wpAny _ A.in1 (pyNext (.ref I) >>= _) _ _ s
    refine wpAny_bind (W.item i s _ _ hlt hst fun v h' tk hP hst' hk' => ?_)
    refine wpAny_bind (wpAny_holding (htr i v _ _ _ hP fun tk2 => ?_))
    refine wpAny_bind (wpAny_letGo ?_)
    cases hb : tr i with
    | true =>
      simp only [if_true]
      refine wpAny_pure ⟨plainId_quiet F.plain_all_loop _, ih (i + 1) _ (by omega) hlt hst' fun h'' tk'' hk'' => ?_⟩
      have := hR h'' tk'' fun b o hbw e => hk'' b o hbw (hk' b o hbw e)
      rw [hd, List.all_cons, hb, Bool.true_and] at this
      exact this
    | false =>
      simp only [Bool.false_eq_true, if_false]
      refine wpAny_bind (wpAny_rule (wpAny_pure ?_))
      have := hR h' tk2 hk'
      rw [hd, List.all_cons, hb, Bool.false_and] at this
      exact this
theorem call_allT {x : Value} {Q : Value → Shared → Prop}
    (h : wpAny (model prog w) A.in1 (pyIter x) (fun it s₂ => ∃ I fp wr n P St tr, it = .ref I ∧ Walks prog w A.in1 I fp wr n P St ∧ St 0 s₂.heap ∧ TruthT prog w A.in1 P tr ∧
      ∀ h' tk, (∀ b o, b ∉ wr → s₂.heap.get? b = some o → h'.get? b = some o) → Q (.bool ((List.range n).all tr)) { s₂ with heap := h', toks := tk }) E s) :
    wpAny (model prog w) A (call (.builtin "all") [x]) Q E s := by
  refine call_function_tree F.kind_all F.plain_all F.entry_all (F.args_all1 _) ?_
  unfold Builtin.«all»
  refine wpAny_bind (m := oneArg "all" _) (wpAny_pure ?_)
  refine wpAny_bind (wpAny_mono h (fun it s₂ h₂ => ?_) fun _ _ e => e)
  obtain ⟨I, fp, wr, n, P, St, tr, rfl, W, hst, htr, hQ⟩ := h₂
  exact wpAny_pure ⟨plainId_quiet F.plain_all_loop _, all_loopT W tr htr n 0 s₂ rfl (Nat.zero_le _) hst fun h' tk hk => by simpa using hQ h' tk hk⟩
theorem all_tup {D : Addr} {vs : List Value} {ns : List Str} {Q : Value → Shared → Prop} (F : Fr h₀ L s.heap m) (N : News h₀ L s.heap news) (hh : A.handled = none) (hm : (D, tobj vs) ∈ news) (hi : StrsAre vs ns) (hlen : ∀ x ∈ ns, x.length ≤ 1000)
    (h : ∀ h' tk, Fr h₀ L h' m → News h₀ L h' news → Q (.bool (ns.all fun x => !(x == Str.ofString ""))) { s with heap := h', toks := tk }) : wpAny (model prog w) A (call (.builtin "all") [.ref D]) Q E s := by
  have ht : IsTup s.heap D vs.toArray := ⟨_, (N _ hm).1, rfl, _, rfl⟩
  have hvl : vs.length = ns.length := StrsAre.length hi
  refine call_allT (iter_tuple ht ?_)
  have hne : D ≠ s.heap.objs.size := Nat.ne_of_lt (Heap.lt_size (N _ hm).1)
  refine ⟨_, _, _, _, _, _, (fun i => !(ns.getD i Str.empty == Str.ofString "")), rfl, Walks.tuple (A := A.in1) hh s.heap.objs.size D hne vs.toArray, ⟨⟨_, Heap.get?_push_size _ rfl, rfl, rfl⟩, ht.push _⟩, ?_, fun h' tk hk => ?_⟩
  · intro i v s Q E hv hQ
    obtain ⟨t, rfl⟩ := strs_at hi i v (by simpa using hv)
    have hl : (ns.getD i Str.empty).length ≤ 1000 := by
      by_cases h : i < ns.length
      · rw [List.getD_eq_getElem?_getD, List.getElem?_eq_getElem h]; exact hlen _ (List.getElem_mem h)
      · rw [List.getD_eq_getElem?_getD, List.getElem?_eq_none (by omega)]; decide
    have e : (!(ns.getD i Str.empty == Str.ofString "")) = (((ns.getD i Str.empty).length : Int) != 0) := by
      generalize ns.getD i Str.empty = x
      have z : Str.ofString "" = ⟨#[]⟩ := by decide +kernel
      rw [z]
      obtain ⟨a⟩ := x
      rw [Bool.eq_iff_iff]
      simp [Str.length]
    have h2 : ∀ tk, Q (((ns.getD i Str.empty).length : Int) != 0) { s with toks := tk } := fun tk => by rw [← e]; exact hQ tk
    exact PySem.P.truthy_str (by omega) (h2 _)
  · have hk' : ∀ b o, b ≠ s.heap.objs.size → (s.heap.push ({ cls := .type "tuple_iterator", data := .fields #[.ref D, .int 0 0] } : Obj)).get? b = some o → h'.get? b = some o := fun b o hb e => hk b o (by simpa using hb) e
    have hk2 : ∀ b o, s.heap.get? b = some o → h'.get? b = some o := fun b o e => hk' b o (Nat.ne_of_lt (Heap.lt_size e)) (Heap.get?_push_of_some _ e)
    have e : ((List.range vs.toArray.size).all fun i => !(ns.getD i Str.empty == Str.ofString "")) = ns.all fun x => !(x == Str.ofString "") := by
      rw [Bool.eq_iff_iff, List.all_eq_true, List.all_eq_true]
      constructor
      · intro h x hx
        obtain ⟨i, hi', rfl⟩ := List.getElem_of_mem hx
        have := h i (by simp; omega)
        simpa [List.getD_eq_getElem?_getD, hi'] using this
      · intro h i hi'
        have hi2 : i < ns.length := by simp at hi'; omega
        have := h ns[i] (List.getElem_mem hi2)
        simpa [List.getD_eq_getElem?_getD, hi2] using this
    rw [e]
    exact h h' tk (F.keeps hk2) fun q hq => ⟨hk2 _ _ (N q hq).1, (N q hq).2⟩
theorem nat_of_lens {ls : List (List Nat)} {M : Int} (h : M ∈ lensI ls) : ∃ k : Nat, M = k ∧ k ∈ ls.map (·.length) := by
  obtain ⟨l, hl, rfl⟩ := List.mem_map.mp h
  exact ⟨_, rfl, List.mem_map_of_mem hl⟩
theorem min_led {l : Addr} {zs : List Value} {c : Nat} {ls : List (List Nat)} {Q : Value → Shared → Prop} (F : Fr h₀ L s.heap m) (N : News h₀ L s.heap news) (hh : A.handled = none) (hm : (l, lob zs c) ∈ news) (hi : IntsAre zs (lensI ls)) (hn : 0 < ls.length)
    (h : ∀ h' M t tk, Fr h₀ L h' m → News h₀ L h' news → IsMin M (ls.map (·.length)) → Q (.int (M : Nat) t) { s with heap := h', toks := tk }) : wpAny (model prog w) A (call (.builtin "min") [.ref l]) Q E s := by
  refine min_list_N hh F N ⟨_, (N _ hm).1, rfl, _, rfl⟩ hi (by simpa [lensI] using hn) fun h' M t tk F' N' h1 h2 => ?_
  obtain ⟨k, rfl, hk⟩ := nat_of_lens h1
  refine h h' k t tk F' N' ⟨hk, fun x hx => ?_⟩
  obtain ⟨l, hl, rfl⟩ := List.mem_map.mp hx
  have := h2 (l.length : Int) (List.mem_map_of_mem hl)
  omega
theorem max_led {l : Addr} {zs : List Value} {c : Nat} {ls : List (List Nat)} {Q : Value → Shared → Prop} (F : Fr h₀ L s.heap m) (N : News h₀ L s.heap news) (hh : A.handled = none) (hm : (l, lob zs c) ∈ news) (hi : IntsAre zs (lensI ls)) (hn : 0 < ls.length)
    (h : ∀ h' M t tk, Fr h₀ L h' m → News h₀ L h' news → IsMax M (ls.map (·.length)) → Q (.int (M : Nat) t) { s with heap := h', toks := tk }) : wpAny (model prog w) A (call (.builtin "max") [.ref l]) Q E s := by
  refine max_list_N hh F N ⟨_, (N _ hm).1, rfl, _, rfl⟩ hi (by simpa [lensI] using hn) fun h' M t tk F' N' h1 h2 => ?_
  obtain ⟨k, rfl, hk⟩ := nat_of_lens h1
  refine h h' k t tk F' N' ⟨hk, fun x hx => ?_⟩
  obtain ⟨l, hl, rfl⟩ := List.mem_map.mp hx
  have := h2 (l.length : Int) (List.mem_map_of_mem hl)
  omega
theorem len_lob {l : Addr} {zs : List Value} {c : Nat} {Q : Value → Shared → Prop} (N : News h₀ L s.heap news) (hm : (l, lob zs c) ∈ news) (hz : zs.length ≤ 1000)
    (h : Q (.int (zs.length : Nat) (s.toks + 1)) { s with toks := s.toks + 1 + 1 }) : wpAny (model prog w) A (call (.builtin "len") [.ref l]) Q E s := by
  refine call_len_list (items := zs.toArray) ⟨_, (N _ hm).1, rfl, _, rfl⟩ (by simp; omega) ?_
  simpa using h
end
end Mine
end

section
open PySem PySem.W PySem.W.X PyProof.Rows PySem.Calls PySem.Spec
set_option Elab.async false
set_option maxRecDepth 100000
set_option maxHeartbeats 8000000
set_option linter.all false
namespace Mine
open PyProof.Rows.LCg (NsObj lst lst_snoc ns_obj)
/-- rows that are tuples -/
def RowsT (led : Led) (ys : List Value) (ls : List (List Nat)) : Prop := ys.length = ls.length ∧ ∀ (j : Nat) (v : Value), ys[j]? = some v → ∃ a zs, v = Value.ref a ∧ (a, tobj zs) ∈ led ∧ Ones zs (ls.getD j [])
def ItemsAre (its : List (Array Value)) (ls : List (List Nat)) : Prop := its.length = ls.length ∧ ∀ (j : Nat) (q : Array Value), its[j]? = some q → ∃ zs, q = zs.toArray ∧ Ones zs (ls.getD j [])
theorem ItemsAre.cons {zs : List Value} {l : List Nat} {its : List (Array Value)} {ls : List (List Nat)} (o : Ones zs l) (x : ItemsAre its ls) : ItemsAre (zs.toArray :: its) (l :: ls) :=
  ⟨by simp [x.1], fun j q h => by
    cases j with
    | zero => exact ⟨zs, by simpa using h.symm, o⟩
    | succ j => simpa using x.2 j q (by simpa using h)⟩
theorem srcs_L {h₀ : Heap} {led : Led} : ∀ {ys : List Value} {ls : List (List Nat)}, RowsL led ys ls → ∃ srcs : List ZSrc, srcs.map (fun q => Value.ref q.ax) = ys ∧ (∀ q ∈ srcs, q.In h₀ led) ∧ ItemsAre (srcs.map (·.items)) ls
  | [], [], _ => ⟨[], rfl, (fun _ h => nomatch h), rfl, fun j q h => by simp at h⟩
  | [], _ :: _, h => by simp [RowsL] at h
  | _ :: _, [], h => by simp [RowsL] at h
  | y :: ys, l :: ls, h => by
    obtain ⟨a, zs, c, e, hm, o⟩ := h.2 0 y rfl
    have h' : RowsL led ys ls := ⟨by simpa using h.1, fun j v hv => by simpa using h.2 (j + 1) v (by simpa using hv)⟩
    obtain ⟨srcs, h1, h2, h3⟩ := srcs_L (h₀ := h₀) h'
    refine ⟨⟨a, zs.toArray, false⟩ :: srcs, by simp [h1, e], fun r hr => ?_, ItemsAre.cons o h3⟩
    rcases List.mem_cons.mp hr with rfl | hr
    · exact .inr ⟨_, hm, rfl, _, rfl⟩
    · exact h2 r hr
theorem srcs_T {h₀ : Heap} {led : Led} : ∀ {ys : List Value} {ls : List (List Nat)}, RowsT led ys ls → ∃ srcs : List ZSrc, srcs.map (fun q => Value.ref q.ax) = ys ∧ (∀ q ∈ srcs, q.In h₀ led) ∧ ItemsAre (srcs.map (·.items)) ls
  | [], [], _ => ⟨[], rfl, (fun _ h => nomatch h), rfl, fun j q h => by simp at h⟩
  | [], _ :: _, h => by simp [RowsT] at h
  | _ :: _, [], h => by simp [RowsT] at h
  | y :: ys, l :: ls, h => by
    obtain ⟨a, zs, e, hm, o⟩ := h.2 0 y rfl
    have h' : RowsT led ys ls := ⟨by simpa using h.1, fun j v hv => by simpa using h.2 (j + 1) v (by simpa using hv)⟩
    obtain ⟨srcs, h1, h2, h3⟩ := srcs_T (h₀ := h₀) h'
    refine ⟨⟨a, zs.toArray, true⟩ :: srcs, by simp [h1, e], fun r hr => ?_, ItemsAre.cons o h3⟩
    rcases List.mem_cons.mp hr with rfl | hr
    · exact .inr ⟨_, hm, rfl, _, rfl⟩
    · exact h2 r hr
theorem ItemsAre.sizes {its : List (Array Value)} {ls : List (List Nat)} (x : ItemsAre its ls) : its.map (·.size) = ls.map (·.length) := by
  apply List.ext_getElem
  · simp [x.1]
  · intro j h1 h2
    simp only [List.length_map] at h1 h2
    obtain ⟨zs, e, o⟩ := x.2 j its[j] (by simp [h1])
    simp only [List.getElem_map]
    rw [e, List.size_toArray, o.1]
    simp [h2]
/-- the signs of a column -/
def colS (ls : List (List Nat)) (i : Nat) : List Str := ls.map fun l => ⟨#[l.getD i 0]⟩
def zval (it : Array Value) (i : Nat) : Value := it.getD i .none
theorem col_strs {its : List (Array Value)} {ls : List (List Nat)} {i : Nat} (x : ItemsAre its ls) (hi : ∀ l ∈ ls, i < l.length) : StrsAre (its.map (zval · i)) (colS ls i) := by
  induction its generalizing ls with
  | nil =>
    cases ls with
    | nil => exact .nil
    | cons l ls => have := x.1; simp at this
  | cons it its ih =>
    cases ls with
    | nil => have := x.1; simp at this
    | cons l ls =>
      obtain ⟨zs, e, o⟩ := x.2 0 it rfl
      have hl : i < zs.length := by rw [o.1]; exact hi l List.mem_cons_self
      have hl' : i < l.length := hi l List.mem_cons_self
      obtain ⟨u, hv⟩ := o.2 i zs[i] (by simp [hl])
      have hz : zval it i = .str ⟨#[l.getD i 0]⟩ u := by
        have : zval it i = zs[i] := by simp [zval, e, Array.getD_eq_getD_getElem?, hl]
        rw [this, hv]
        simp
      simp only [List.map_cons, colS]
      rw [hz]
      refine .cons _ _ (ih ⟨by simpa using x.1, fun j q hq => by simpa using x.2 (j + 1) q (by simpa using hq)⟩ fun l hl => hi l (List.mem_cons_of_mem _ hl))
theorem col_ones {its : List (Array Value)} {ls : List (List Nat)} {i : Nat} (x : ItemsAre its ls) (hi : ∀ l ∈ ls, i < l.length) : Ones (its.map (zval · i)) (ls.map fun l => l.getD i 0) := by
  refine ⟨by simp [x.1], fun j v hv => ?_⟩
  obtain ⟨t, e⟩ := strs_at (col_strs x hi) j v hv
  refine ⟨t, ?_⟩
  rw [e]
  have hj : j < ls.length := by
    rcases Nat.lt_or_ge j ls.length with h | h
    · exact h
    · rw [List.getElem?_eq_none (by simpa [x.1] using h)] at hv; cases hv
  simp [colS, List.getD_eq_getElem?_getD, hj]
section
variable {prog : Program} {w : World} {A : Around} {E : Value → Shared → Prop} {s : Shared} {h₀ : Heap} {L : Addr} {m : Str → Option Value} {news : List (Addr × Obj)}
/-- a zip over rows, at its start -/
structure ZipIs (h₀ : Heap) (z TI TO : Addr) (subs : List ZSub) (st news base : Led) (ls : List (List Nat)) : Prop where
  o : ZO z TI TO subs 0 st
  d : ZAp z TI TO subs
  ap : Ap st news
  s : ZS h₀ subs base
  it : ItemsAre (subs.map (·.items)) ls
theorem zip_led {srcs : List ZSrc} {base : Led} {ls : List (List Nat)} {Q : Value → Shared → Prop} (F : Fr h₀ L s.heap m) (N : News h₀ L s.heap news) (hbase : ∀ q ∈ base, q ∈ news) (hs : ∀ q ∈ srcs, q.In h₀ base) (hi : ItemsAre (srcs.map (·.items)) ls) (hn : srcs.length ≤ 6)
    (h : ∀ h' z TI TO subs st, Fr h₀ L h' m → News h₀ L h' (st ++ news) → ZipIs h₀ z TI TO subs st news base ls → Q (.ref z) { s with heap := h' }) :
    wpAny (model prog w) A (call (.type "zip") (srcs.map fun q => .ref q.ax)) Q E s := by
  refine call_zip (fun q hq => ((hs q hq).mono hbase).is F.keep N) hn fun h' z TI TO subs Z D hlen hsub hit hz hTI hTO hk => ?_
  obtain ⟨st, hO, hst⟩ := ZO.of Z
  have hnew : ∀ a ∈ zadd z TI TO subs, s.heap.get? a = none := fun a ha => by
    simp only [zadd, List.mem_cons, List.mem_map] at ha
    rcases ha with rfl | rfl | rfl | ⟨u, hu, rfl⟩
    · exact hz
    · exact hTO
    · exact hTI
    · exact (hsub u hu).1
  have hstn : ∀ p ∈ st, s.heap.get? p.1 = none := fun p hp => hnew _ (by rw [← hO.1]; exact List.mem_map_of_mem hp)
  refine h h' z TI TO subs st (F.keeps hk) (fun q hq => ?_) ⟨hO, D, fun p hp q hq e => ?_, fun u hu => ?_, by rw [hit]; exact hi⟩
  · rcases List.mem_append.mp hq with hq | hq
    · refine ⟨hst q hq, fun e => ?_, ?_⟩
      · obtain ⟨o, _, _, ho, _⟩ := F.ns
        have := hstn q hq
        rw [e, ho] at this; cases this
      · cases e : h₀.get? q.1 with
        | none => rfl
        | some o => have := F.keep _ _ e; rw [hstn q hq] at this; cases this
    · exact ⟨hk _ _ (N q hq).1, (N q hq).2⟩
  · have := hstn p hp
    rw [← e, (N q hq).1] at this; cases this
  · obtain ⟨q, hq, e1, e2, e3⟩ := (hsub u hu).2
    have : u.src = q := by unfold ZSub.src; rw [e1, e2, e3]
    rw [this]; exact hs q hq

theorem pyNext_zip0 {z TI TO : Addr} {i : Nat} {Q : Option Value → Shared → Prop} (hh : A.handled = none) (Z : ZAt z TI TO [] i s.heap)
    (hE : ∀ h', (∀ c o, s.heap.get? c = some o → h'.get? c = some o) → Q none { s with heap := h' }) : wpAny (model prog w) A (pyNext (.ref z)) Q E s := by
  obtain ⟨⟨f0, f1, hz, hf⟩, hTI, ⟨vs, hTO, hvl⟩, hat⟩ := Z
  have hT : s.TypeIs (.ref z) "zip" := ⟨_, hz, rfl⟩
  unfold pyNext
  refine wpAny_bind (wpAny_attempt (wpAny_callSpecial?_slot (name := Str.ofString "__next__") hT F.slot_zip_next
    (wpAny_call_entry F.slot_zip_next hT F.entry_zip_next ?_ (F.args_zip_next_1 _))))
  show wpAny _ _ (field (.ref z) 2 >>= _) _ _ _
  refine wpAny_bind (wpAny_field hz rfl (x := .bool false) rfl ?_)
  show wpAny _ _ (field (.ref z) 3 >>= _) _ _ _
  refine wpAny_bind (wpAny_field hz rfl (x := .ref TI) rfl ?_)
  refine wpAny_bind (wpAny_seqItems hTI rfl ?_)
  dsimp only
  rw [if_pos (by rfl)]
  refine wpAny_bind (wpAny_rule ?_)
  refine wpAny_bind ?_
  show wpAny _ _ (newExc (.type "StopIteration") [] >>= _) _ _ _
  refine wpAny_bind ?_
  simp only [newExc, newTuple]
  refine wpAny_bind (wpAny_newObj_type ?_ (by size_fits))
  refine wpAny_bind (m := firstArgMember _ _) (wpAny_of_eq (a := Value.none) (by first | rfl | (simp only [firstArgMember]; rfl)) ?_)
  refine wpAny_newObj_type ?_ (by size_fits)
  simp only [raiseNew]
  refine wpAny_bind (wpAny_handled ?_)
  first | rw [show A.in1.handled = none from hh] | rw [hh]
  refine wpAny_bind (wpAny_pure (wpAny_throw ?_))
  refine wpAny_bind (wpAny_isInstance (T := "StopIteration") (b := true) ⟨_, Heap.get?_push_size _ rfl, rfl⟩ isSubtype_stop ?_)
  exact wpAny_pure (hE _ fun c o e => Heap.get?_push_of_some _ (Heap.get?_push_of_some _ e))
theorem feed_zip0 {z TI TO : Addr} (hh : A.handled = none) :
    Feed prog w A h₀ L z 0 (fun i v ex => ∃ T, v = .ref T ∧ ex = [(T, tobj (([] : List ZSub).map (·.val i)))]) (ZO z TI TO []) (ZS h₀ []) where
  next := fun i st led m os₀ s E Q hi => absurd hi (Nat.not_lt_zero _)
  stop := fun st led m os₀ s E Q hS hO k ap hQ => by
    have Z : ZAt z TI TO [] 0 s.heap := hO.2 s.heap (fun q hq => (k.N q (List.mem_append_left _ hq)).1) fun u hu => nomatch hu
    exact pyNext_zip0 hh Z fun h' hk => hQ h' s.toks fun b o _ e => hk b o e
  self := fun st led m os₀ s E Q hO hS k hQ => by
    have Z : ZAt z TI TO [] 0 s.heap := hO.2 s.heap (fun q hq => (k.N q (List.mem_append_left _ hq)).1) fun u hu => nomatch hu
    obtain ⟨f0, f1, hz, _⟩ := Z.z
    have hT : s.TypeIs (.ref z) "zip" := ⟨_, hz, rfl⟩
    refine wpAny_pyIter_slot hT F.slot_zip_iter (wpAny_call_entry F.slot_zip_iter hT F.entry_zip_iter ?_ (F.args_zip_iter_1 _))
    show wpAny _ _ (ret (.ref z)) _ _ s
    exact wpAny_pure ⟨_, rfl, "zip", _, hT, F.slot_zip_next.lookup, hQ⟩
  mono := fun a b h S u hu => nomatch hu
/-- the length of a zip -/
def zlen (ls : List (List Nat)) (n : Nat) : Prop := (ls = [] ∧ n = 0) ∨ IsMin n (ls.map (·.length))
theorem feed_rows {z TI TO : Addr} {subs : List ZSub} {st news base : Led} {ls : List (List Nat)} {n : Nat} (hh : A.handled = none) (X : ZipIs h₀ z TI TO subs st news base ls) (hsz : ls.length ≤ 6) (hn : zlen ls n) :
    Feed prog w A h₀ L z n (fun i v ex => ∃ T, v = .ref T ∧ ex = [(T, tobj ((subs.map (·.items)).map (zval · i)))]) (ZO z TI TO subs) (ZS h₀ subs) := by
  have hl : subs.length = ls.length := by simpa using X.it.1
  have hv : ∀ i, subs.map (·.val i) = (subs.map (·.items)).map (zval · i) := fun i => by rw [List.map_map]; rfl
  have hsizes := X.it.sizes
  rw [List.map_map] at hsizes
  rcases hn with ⟨rfl, rfl⟩ | ⟨h1, h2⟩
  · have : subs = [] := List.eq_nil_of_length_eq_zero hl
    subst this
    exact feed_zip0 hh
  · have hne : subs ≠ [] := fun e => by subst e; simp at hl; rw [List.eq_nil_of_length_eq_zero hl.symm] at h1; cases h1
    have F1 := feed_zip (prog := prog) (w := w) (A := A) (h₀ := h₀) (L := L) (n := n) hh X.d hne (by rw [sizeLine_eq]; omega) (fun u hu => h2 _ (by rw [← hsizes]; exact List.mem_map_of_mem (f := Array.size ∘ (·.items)) hu)) (by
      rw [← hsizes] at h1
      obtain ⟨u, hu, e⟩ := List.mem_map.mp h1
      exact ⟨u, hu, Nat.le_of_eq e⟩)
    simpa only [hv] using F1

theorem for_coreF {env : Env} {x : Str} {px pos : Pos} {iter : Expr} {body : List Stmt} {Q : Flow → Shared → Prop} (F : Fr h₀ env.locals s.heap m) (hx : env.kindOf x = some .local)
    (hp : (env.scope.kind == .class || (env.scope.kind == .module && env.locals != env.globals)) = false)
    (h : wpAny (model prog w) A (eval iter env) (fun xv s₁ => wpAny (model prog w) A (pyIter xv) (ForAt prog w A h₀ env x body Q) E s₁) E s)
    (hs : ∀ x, foldedSetIterable iter env x = pure x) :
    wpAny (model prog w) A (exec (.For (.Name x px) iter body [] pos) env) Q E s := for_core h₀ hx hp h hs
end
end Mine
end

section
open PySem PySem.W PySem.W.X PyProof.Rows PySem.Calls PySem.Spec
set_option Elab.async false
namespace Mine
/-- a text out of its signs -/
abbrev tx (l : List Nat) : Str := ⟨l.toArray⟩
theorem tx_cps (x : Str) : tx x.cps.toList = x := by cases x; simp
theorem tx_eq {x : Str} {l : List Nat} (h : x.cps.toList = l) : x = tx l := by rw [← h]
theorem tx_len (l : List Nat) : (tx l).length = l.length := by simp [Str.length]
theorem len_list (x : Str) : x.length = x.cps.toList.length := by simp [Str.length]

def vow (c : Nat) : Bool := c == 65 || c == 69 || c == 73 || c == 79 || c == 85
theorem aeiou : Str.ofString "AEIOU" = ⟨#[65, 69, 73, 79, 85]⟩ := by decide +kernel
theorem vow_occ (c : Nat) : (Builtin.Str.occurrences (Str.ofString "AEIOU") ⟨#[c]⟩ 0 (Str.ofString "AEIOU").length 1).isEmpty = !vow c := by
  have h := StrLaws.found_one (Str.ofString "AEIOU") c
  rw [aeiou] at h ⊢
  have e : decide (c ∈ (⟨#[65, 69, 73, 79, 85]⟩ : Str).cps.toList) = vow c := by
    unfold vow
    simp only [List.mem_cons, List.not_mem_nil, or_false]
    by_cases h1 : c = 65 <;> by_cases h2 : c = 69 <;> by_cases h3 : c = 73 <;> by_cases h4 : c = 79 <;> by_cases h5 : c = 85 <;> simp_all
  rw [e] at h
  rw [← h, Bool.not_not]

theorem item_first {x : Str} {c : Nat} {r : List Nat} (h : x.cps.toList = c :: r) : Txt.item x 0 = ⟨#[c]⟩ := by
  have hl : 0 < x.cps.size := by
    have := congrArg List.length h; simp at this; omega
  have e : x.cps[0]? = some c := by
    have := congrArg (fun l => l[0]?) h; simpa using this
  have q : seqIndex? 0 x.length = some 0 := by
    unfold seqIndex? Str.length
    have h2 : x.cps ≠ #[] := fun q => by rw [q] at hl; exact absurd hl (by simp)
    simp [h2]
  unfold Txt.item Txt.charAt
  rw [q]
  simp [e]
theorem item_last {x : Str} {c : Nat} (h : x.cps.toList.getLast? = some c) : Txt.item x (-1) = ⟨#[c]⟩ := by
  have hl : 0 < x.cps.size := by
    cases hx : x.cps.toList with
    | nil => rw [hx] at h; cases h
    | cons a r => have := congrArg List.length hx; simp at this; omega
  have e : x.cps[x.cps.size - 1]? = some c := by
    rw [List.getLast?_eq_getElem?] at h
    simpa using h
  have q : seqIndex? (-1) x.length = some (x.cps.size - 1) := by
    unfold seqIndex? Str.length
    have h2 : ¬ ((-1 : Int) + (x.cps.size : Int) < 0) := by omega
    have h3 : ((-1 : Int) + (x.cps.size : Int)).toNat = x.cps.size - 1 := by omega
    simp [h2, h3]
    omega
  unfold Txt.item Txt.charAt
  rw [q]
  simp [e]

theorem slice_tail {x : Str} (h : 1 ≤ x.length) : Txt.slice x (some 1) none = tx (x.cps.toList.drop 1) := by
  rw [slice_from_eq (b := (x.length : Int)) (by omega) (by omega) rfl]
  have : ((x.length : Int) - 1).toNat = (x.cps.toList.drop 1).length := by rw [List.length_drop, len_list]; omega
  show tx _ = _
  rw [show (1 : Int).toNat = 1 from rfl, this, List.take_length]

theorem slice_head {x : Str} {n : Nat} (h : n ≤ x.length) : Txt.slice x none (some (n : Int)) = tx (x.cps.toList.take n) := by
  have q := beq_iff_eq.mp (slice_closes_toL (x := x) (j := (n : Int)) (by omega) (by omega))
  rw [q]
  simp
theorem slice_back {x : Str} {n : Nat} (h : n ≤ x.length) (h0 : 0 < n) : Txt.slice x (some (-(n : Int))) none = tx (x.cps.toList.drop (x.length - n)) := by
  have q := beq_iff_eq.mp (slice_closes_from_neg (x := x) (i := -(n : Int)) (a := ((x.length - n : Nat) : Int)) (b := (x.length : Int)) (by omega) (by omega) (by omega) rfl)
  rw [q]
  have : ((x.length : Int) - ((x.length - n : Nat) : Int)).toNat = (x.cps.toList.drop (x.length - n)).length := by rw [List.length_drop, len_list]; rw [len_list] at h; omega
  show tx _ = _
  rw [this, Int.toNat_natCast, List.take_length]

/-- the law's turn: a letter that is no vowel and not the last kept one is kept -/
def stepK (k : List Nat) (c : Nat) : List Nat := if !vow c && k.getLast? != some c then k ++ [c] else k
/-- of equal neighbours one -/
def dd : Option Nat → List Nat → List Nat
  | _, [] => []
  | p, c :: r => if p = some c then dd p r else c :: dd (some c) r
theorem foldl_stepK : ∀ (r k : List Nat), k ≠ [] → r.foldl stepK k = k ++ dd k.getLast? (r.filter fun c => !vow c)
  | [], k, _ => by simp [dd]
  | c :: r, k, hk => by
    rw [List.foldl_cons]
    by_cases hv : vow c = true
    · have e : stepK k c = k := by simp [stepK, hv]
      rw [e, foldl_stepK r k hk]; simp [hv]
    · by_cases hl : k.getLast? = some c
      · have e : stepK k c = k := by simp [stepK, hl]
        rw [e, foldl_stepK r k hk]
        simp [hv, dd, hl]
      · have e : stepK k c = k ++ [c] := by simp [stepK, hl, hv]
        rw [e, foldl_stepK r _ (by simp)]
        simp [hv, dd, hl]
def cutL (k : List Nat) : List Nat := if 6 < k.length then k.take 3 ++ k.drop (k.length - 3) else k
def squeeze : List Nat → List Nat
  | [] => []
  | c :: r => dd none (c :: r.filter fun c => !vow c)
def codeL (u : List Nat) : List Nat := cutL (squeeze u)
theorem squeeze_fold (c : Nat) (r : List Nat) : squeeze (c :: r) = r.foldl stepK [c] := by
  rw [foldl_stepK r [c] (by simp)]
  simp [squeeze, dd]
theorem dd_len : ∀ (p : Option Nat) (l : List Nat), (dd p l).length ≤ l.length
  | _, [] => Nat.le_refl _
  | p, c :: r => by
    unfold dd
    split
    · exact Nat.le_succ_of_le (dd_len p r)
    · exact Nat.succ_le_succ (dd_len _ r)
theorem squeeze_len (u : List Nat) : (squeeze u).length ≤ u.length := by
  cases u with
  | nil => exact Nat.le_refl _
  | cons c r =>
    refine Nat.le_trans (dd_len _ _) ?_
    simp only [List.length_cons]
    exact Nat.succ_le_succ (List.length_filter_le _ _)
theorem codeL_len (u : List Nat) : (codeL u).length ≤ 6 := by
  unfold codeL cutL
  split
  · simp; omega
  · omega
theorem codeL_nil {u : List Nat} : codeL u = [] ↔ u = [] := by
  constructor
  · intro h
    cases u with
    | nil => rfl
    | cons c r =>
      exfalso
      have e : (squeeze (c :: r)).length ≠ 0 := by simp [squeeze, dd]
      unfold codeL cutL at h
      split at h
      · have := congrArg List.length h; simp at this; omega
      · rw [h] at e; exact e rfl
  · rintro rfl; rfl
/-- the code of a name -/
def codeS (x : Str) : Str := tx (codeL (x.cps.toList.map up1))
theorem code_empty {x : Str} (h : (x == Str.ofString "") = true) : codeS x = Str.ofString "" := by
  have : x = Str.ofString "" := by simpa using h
  subst this
  decide +kernel
theorem code_short {x k : Str} {c : Nat} {r : List Nat} (hu : x.cps.toList.map up1 = c :: r) (hk : k.cps.toList = r.foldl stepK [c]) (h : ¬ (6 : Int) < k.length) : codeS x = k := by
  rw [tx_eq hk, ← squeeze_fold, ← hu]
  unfold codeS codeL cutL
  have e : k.length = (squeeze (x.cps.toList.map up1)).length := by rw [len_list, hk, hu, squeeze_fold]
  rw [if_neg (by omega)]
theorem code_long {x k : Str} {c : Nat} {r : List Nat} (hu : x.cps.toList.map up1 = c :: r) (hk : k.cps.toList = r.foldl stepK [c]) (h : (6 : Int) < k.length) :
    codeS x = Txt.slice k none (some 3) ++ Txt.slice k (some (-3)) none := by
  have e : k.length = (squeeze (x.cps.toList.map up1)).length := by rw [len_list, hk, hu, squeeze_fold]
  have h3 := slice_head (x := k) (n := 3) (by omega)
  have h4 := slice_back (x := k) (n := 3) (by omega) (by omega)
  have h3' : Txt.slice k none (some 3) = tx (k.cps.toList.take 3) := h3
  have h4' : Txt.slice k (some (-3)) none = tx (k.cps.toList.drop (k.length - 3)) := h4
  rw [h3', h4']
  unfold codeS codeL cutL
  rw [if_pos (by omega)]
  rw [e, hk, ← squeeze_fold, ← hu]
  show tx _ = (⟨(_ : Array Nat) ++ _⟩ : Str)
  simp
end Mine
end

section
open PySem PySem.W PySem.W.X PyProof.Rows PySem.Calls PySem.Spec
set_option Elab.async false
namespace Mine
theorem join_tx : ∀ l : List Nat, Txt.join (Str.ofString "") (l.map fun c => (⟨#[c]⟩ : Str)) = tx l := by
  intro l
  show PySem.Builtin.Str.glued (Str.ofString "") (l.map fun c => (⟨#[c]⟩ : Str)) = _
  rw [StrLaws.glued_eq_join]
  have z : Str.ofString "" = ⟨#[]⟩ := by decide +kernel
  rw [z]
  induction l with
  | nil => rfl
  | cons c r ih =>
    cases r with
    | nil => rfl
    | cons d r =>
      show (⟨#[c]⟩ : Str) ++ ⟨#[]⟩ ++ Str.join ⟨#[]⟩ ((d :: r).map fun c => (⟨#[c]⟩ : Str)) = _
      rw [ih]
      show (⟨(#[c] ++ #[] : Array Nat) ++ (d :: r).toArray⟩ : Str) = _
      simp [tx]
theorem ones_ok {l : List Nat} {sep : Str} (h : l.length ≤ 24) (hs : sep.length ≤ 4) : JoinOk sep (l.map fun c => (⟨#[c]⟩ : Str)) = true := by
  refine joinOk_of ?_
  have e : ((l.map fun c => (⟨#[c]⟩ : Str)).map (·.length)).sum = l.length := by
    clear h
    induction l with
    | nil => rfl
    | cons c r ih => simp only [List.map_cons, List.sum_cons, List.length_cons, ih]; show 1 + _ = _; omega
  rw [e, List.length_map]
  have := Nat.mul_le_mul h hs
  omega
/-- keep the places that open a run -/
theorem dd_at (p : Option Nat) (l : List Nat) : (((List.range l.length).filter fun i => if i = 0 then p != l[0]? else l.getD (i-1) 0 != l.getD i 0).map fun i => l.getD i 0) = dd p l := by
  induction l generalizing p with
  | nil => rfl
  | cons c r ih =>
    rw [List.length_cons, List.range_succ_eq_map, List.filter_cons]
    have e : ∀ q : Option Nat, q = some c → ((List.map Nat.succ (List.range r.length)).filter fun i => if i = 0 then p != (c :: r)[0]? else (c :: r).getD (i-1) 0 != (c :: r).getD i 0).map (fun i => (c :: r).getD i 0) = dd q r := by
      intro q hq
      rw [List.filter_map, List.map_map, ← ih q]
      congr 1
      apply List.filter_congr
      intro i hi
      simp only [Function.comp]
      rw [if_neg (Nat.succ_ne_zero i)]
      by_cases h0 : i = 0
      · subst h0
        simp only [if_true, hq]
        cases r with
        | nil => simp at hi
        | cons d r =>
          simp
          by_cases h : c = d
          · subst h; simp
          · have : (some c : Option Nat) ≠ some d := fun q => h (Option.some.inj q)
            rw [bne_iff_ne.mpr h, bne_iff_ne.mpr this]
      · rw [if_neg h0]
        obtain ⟨j, rfl⟩ := Nat.exists_eq_succ_of_ne_zero h0
        simp
    by_cases hp : p = some c
    · simp only [if_true]
      rw [if_neg (by simp [hp])]
      rw [e p hp]
      simp [dd, hp]
    · simp only [if_true]
      rw [if_pos (by simpa using hp), List.map_cons, e (some c) rfl]
      simp [dd, hp]
theorem pass_dd (l : List Nat) {n : Nat} (hn : n = l.length) : ((passing (fun i => i == 0 || l.getD (i-1) 0 != l.getD i 0) n 0).map fun i => l.getD i 0) = dd none l := by
  subst hn
  rw [← dd_at none l]
  unfold passing
  rw [List.drop_zero]
  congr 1
  apply List.filter_congr
  intro i hi
  by_cases h0 : i = 0
  · subst h0
    cases l with
    | nil => simp at hi
    | cons c r => simp
  · simp [h0]
theorem head_join {x : Str} {c : Nat} {r : List Nat} (h : x.cps.toList = c :: r) (l : List Nat) : Txt.item x 0 ++ tx l = tx (c :: l) := by
  rw [item_first h]
  show (⟨#[c] ++ l.toArray⟩ : Str) = _
  simp [tx]
theorem code_shortS {x k : Str} (hk : k.cps.toList = squeeze (x.cps.toList.map up1)) (h : ¬ (6 : Int) < k.length) : codeS x = k := by
  rw [tx_eq hk]
  unfold codeS codeL cutL
  have e : k.length = (squeeze (x.cps.toList.map up1)).length := by rw [len_list, hk]
  rw [if_neg (by omega)]
theorem code_longS {x k : Str} (hk : k.cps.toList = squeeze (x.cps.toList.map up1)) (h : (6 : Int) < k.length) :
    codeS x = Txt.slice k none (some 3) ++ Txt.slice k (some (-3)) none := by
  have e : k.length = (squeeze (x.cps.toList.map up1)).length := by rw [len_list, hk]
  have h3 := slice_head (x := k) (n := 3) (by omega)
  have h4 := slice_back (x := k) (n := 3) (by omega) (by omega)
  have h3' : Txt.slice k none (some 3) = tx (k.cps.toList.take 3) := h3
  have h4' : Txt.slice k (some (-3)) none = tx (k.cps.toList.drop (k.length - 3)) := h4
  rw [h3', h4']
  unfold codeS codeL cutL
  rw [if_pos (by omega)]
  rw [e, hk]
  show tx _ = (⟨(_ : Array Nat) ++ _⟩ : Str)
  simp
end Mine
end

section
local macro_rules | `(tactic| walk_at "pad") => `(tactic| skip)
local macro_rules | `(tactic| walk_at "pad") => `(tactic| skip)
open PySem PySem.W PySem.W.X PyProof.Rows PySem.Calls PySem.Spec
set_option Elab.async false
set_option maxRecDepth 100000
set_option maxHeartbeats 8000000
set_option pp.deepTerms false
set_option pp.deepTerms.threshold 6
set_option pp.structureInstances false
set_option linter.all false
namespace Mine
variable {w : World} {p : Program} {loose : List Str} {mg mb : Str → Option Value} {bm : Addr} {ob : Obj} {s : Shared} {A : Around}

theorem sfirst_all {ns : List Str} (hn : 0 < ns.length) : ((((sfirst (fun i => ns.getD i Str.empty) ns.length).length : Nat) : Int) == 1) = ns.all fun x => x == ns.headD Str.empty := by
  have h := sfirst_one (val := fun i => ns.getD i Str.empty) hn
  have e0 : ns.getD 0 Str.empty = ns.headD Str.empty := by cases ns <;> rfl
  rw [Bool.eq_iff_iff, beq_iff_eq, List.all_eq_true]
  rw [show (((sfirst (fun i => ns.getD i Str.empty) ns.length).length : Nat) : Int) = 1 ↔ (sfirst (fun i => ns.getD i Str.empty) ns.length).length = 1 by omega, h]
  constructor
  · intro h x hx
    obtain ⟨i, hi, rfl⟩ := List.mem_iff_getElem.mp hx
    have := h i hi
    rw [e0] at this
    rw [beq_iff_eq, ← this]
    simp [hi]
  · intro h i hi
    rw [e0]
    have := h ns[i] (List.getElem_mem hi)
    rw [beq_iff_eq] at this
    rw [← this]
    simp [hi]
section
variable {prog : Program} {w : World} {A : Around} {E : Value → Shared → Prop} {s : Shared} {h₀ : Heap} {L : Addr} {m : Str → Option Value} {news : List (Addr × Obj)}
theorem set_tup' {l : Addr} {vs : List Value} {ns : List Str} {Q : Value → Shared → Prop} (F : Fr h₀ L s.heap m) (N : News h₀ L s.heap news)
    (hh : A.handled = none) (hl : IsTup s.heap l vs.toArray) (hi : StrsAre vs ns) (hb : ns.length + 1 < scanBound) (hlen : vs.length = ns.length)
    (h : ∀ D h' (tk : Nat) o n, Fr h₀ L h' m → News h₀ L h' ((D, o) :: news) → (∀ q ∈ news, q.1 < D) → n = (sfirst (fun i => ns.getD i Str.empty) vs.length).length →
      o.SetObjOf (strKind prog w) (fun k' => (sfirst (fun i => ns.getD i Str.empty) vs.length).any (· == k')) n → (n : Int) < 2 ^ 63 → Q (.ref D) { s with heap := h', toks := tk }) :
    wpAny (model prog w) A (call (.type "set") [.ref l]) Q E s :=
  set_tup F N hh hl hi hb hlen fun h' tk o F' N' l' hs => h _ h' tk o _ F' N' l' rfl hs (by
    have := sfirst_le (fun i => ns.getD i Str.empty) vs.length
    have hb' : scanBound ≤ 2 ^ 60 := by decide
    omega)
end
local macro_rules | `(tactic| walk_at "call builtin:len") => `(tactic| (refine' kse_len (knd := PySem.strKind _ _) ?N ?U ?d ?z ?_; (case N => assumption); (case U => k_updF); (case d => assumption); (case z => assumption)))
local macro_rules | `(tactic| walk_at "exec Try") => `(tactic| (refine' wpAny_Try_except ?_))
local macro_rules | `(tactic| walk_at "call type:set") => `(tactic| (refine' set_tup' ?F ?N ?hh ?l ?hi ?b ?len ?_; (case F => assumption); (case N => assumption); (case hh => assumption); (case l => assumption); (case hi => assumption); (case b => assumption); (case len => assumption); intro D' h' tk o n' F' N' l' hn' hs' hz'; k_lt l'))
theorem ident (vs : List Value) (ns : List Str) (hi : StrsAre vs ns) (hn : 0 < ns.length) (h4 : ns.length ≤ 4)
   (G : Gd w p loose mg mb bm ob s) (hh : A.handled = none) (hroom : A.depth < recursionLimit)
   (he : PySem.Challenge.rw_fq5033_01.row.prog = PySem.Challenge.rw_fq5033_01.row.prog ∧ (hd.heap_39 w.params).In s.heap) :
   codeAny (model prog w) A (.call (.ref 95) ⟨vs, []⟩) (Gives s fun v s' => v = .bool (ns.all fun x => x == ns.headD Str.empty) ∧ Keeps s s') s := by
  revert he; k_fill; intro he
  have hvl : vs.length = ns.length := StrsAre.length hi
  refine enterR (vs := vs) (g₁ := fun D => some [(Str.ofString "elements", .ref D)]) (binds := fun D => [(Str.ofString "elements", .ref D)]) G (by k_is) (by k_is) (by omega) ?hp (fun _ => rfl) (fun _ => rfl) (by decide +kernel) ?_ rfl rfl rfl
  case hp =>
    rcases vs with _ | ⟨v1, _ | ⟨v2, _ | ⟨v3, _ | ⟨v4, _ | ⟨v5, vs⟩⟩⟩⟩⟩
    · rfl
    · rfl
    · rfl
    · rfl
    · rfl
    · simp at hvl; omega
  intro ps D L' h₁ tk cells ht htab E0 hD hL F N Y h194 hb
  have X := E0.k
  have T := E0.t
  have M := E0.b
  have hc0 : cells = [] := by cases Y; rfl
  subst hc0
  dsimp only [List.nil_append] at N
  clear Y
  have F1 : Fr (s.heap.hide 194) L' h₁ (fun y => if y = Str.ofString "elements" then some (.ref D) else none) := F
  clear F
  have hT : ∀ h' : Heap, News (s.heap.hide 194) L' h' [(D, { cls := .type "tuple", data := .seq vs.toArray }), (194, tableObj ps)] → IsTup h' D vs.toArray := fun h' N' => ⟨_, (N' _ (.head _)).1, rfl, _, rfl⟩
  have hT1 := hT _ N
  have hscan : ns.length + 1 < scanBound := by unfold scanBound; omega
  k_steps
  rename (_ = (sfirst _ _).length) => hn'
  rename Fr _ _ _ _ => F9
  rename News _ _ _ _ => N9
  refine Ends.of F9 N9 (.tail _ (.tail _ (.head _))) ht hb ⟨?_, _, _, rfl, fun b o e => ?_⟩
  · rw [hn', hvl, sfirst_all hn]
  · by_cases h : b = 194
    · subst h
      rw [htab] at e; cases e
      exact (N9 _ (.tail _ (.tail _ (.head _)))).1
    · exact F9.keep b o ((Heap.hide_ne _ h).trans e)
end Mine
end

section
open PySem PySem.W PySem.W.X PyProof.Rows PySem.Calls PySem.Spec
set_option Elab.async false
set_option linter.all false
namespace Mine
/-- in how many of the first m places all rows are alike -/
def agree (m : Nat) (ls : List (List Nat)) : Nat := ((List.range m).filter fun k => ls.all fun l => l.getD k 0 == (ls.headD []).getD k 0).length
abbrev codesOf (ns : List Str) : List (List Nat) := ns.map fun x => codeL (x.cps.toList.map up1)
def IsDue (ns : List Str) (v : Nat) : Prop := (ns.all (fun x => !(x == Str.ofString "")) = false ∧ v = 0) ∨ (ns.all (fun x => !(x == Str.ofString "")) = true ∧ ∃ M m, IsMax M ((codesOf ns).map (·.length)) ∧ IsMin m ((codesOf ns).map (·.length)) ∧
  ((ns.length < M - m ∧ v = 0) ∨ (¬ ns.length < M - m ∧ v = agree m (codesOf ns))))

def sameAt (ls : List (List Nat)) (k : Nat) : Bool := ls.all fun l => l.getD k 0 == (ls.headD []).getD k 0
def diffK (ls : List (List Nat)) (m : Nat) : List Nat := (List.range m).filter fun k => !sameAt ls k
/-- one round of the class's loop -/
def roundL (ls : List (List Nat)) (m : Nat) : List (List Nat) := ls.map fun l => (diffK ls m).map (fun k => l.getD k 0) ++ l.drop m
/-- the columns that differ, as rows -/
def colsD (ls : List (List Nat)) (m : Nat) : List (List Nat) := (diffK ls m).map fun k => ls.map fun l => l.getD k 0
theorem colsD_succ (ls : List (List Nat)) (m : Nat) : colsD ls (m + 1) = colsD ls m ++ if sameAt ls m then [] else [ls.map fun l => l.getD m 0] := by
  unfold colsD diffK
  rw [List.range_succ, List.filter_append, List.map_append]
  congr 1
  cases h : sameAt ls m <;> simp [List.filter_cons, h]
theorem colsD_len (ls : List (List Nat)) (m : Nat) : (colsD ls m).length ≤ m := by
  unfold colsD diffK
  rw [List.length_map]
  exact Nat.le_trans (List.length_filter_le _ _) (by simp)

/-- the new rows of a round -/
def newR (ls : List (List Nat)) (m : Nat) : List (List Nat) := ls.map fun l => (diffK ls m).map fun k => l.getD k 0
theorem newR_full (ls : List (List Nat)) (m : Nat) : (List.range ls.length).map (fun j => (colsD ls m).map fun l => l.getD j 0) = newR ls m := by
  unfold newR colsD
  apply List.ext_getElem
  · simp
  · intro i h1 h2
    simp only [List.getElem_map, List.getElem_range, List.map_map]
    congr 1
    funext k
    simp only [List.length_map, List.length_range] at h1
    simp [List.getD_eq_getElem?_getD, h1]
theorem newR_none {ls : List (List Nat)} {m : Nat} (h : colsD ls m = []) : List.replicate ls.length [] = newR ls m := by
  have hd : diffK ls m = [] := by
    unfold colsD at h
    exact List.map_eq_nil_iff.mp h
  unfold newR
  rw [hd]
  apply List.ext_getElem
  · simp
  · intro i h1 h2; simp
theorem newR_rows {ls : List (List Nat)} {m zl : Nat} (h : (colsD ls m = [] ∧ zl = 0) ∨ (colsD ls m ≠ [] ∧ zl = ls.length)) :
    (List.range zl).map (fun j => (colsD ls m).map fun l => l.getD j 0) ++ List.replicate (ls.length - zl) [] = newR ls m := by
  rcases h with ⟨h, rfl⟩ | ⟨_, rfl⟩
  · simp only [List.range_zero, List.map_nil, List.nil_append, Nat.sub_zero]
    exact newR_none h
  · rw [Nat.sub_self]
    simp only [List.replicate_zero, List.append_nil]
    exact newR_full ls m
theorem roundL_eq (ls : List (List Nat)) (m : Nat) : roundL ls m = (List.range ls.length).map fun i => (newR ls m).getD i [] ++ (ls.getD i []).drop m := by
  unfold roundL newR
  apply List.ext_getElem
  · simp
  · intro i h1 h2
    simp only [List.length_map] at h1
    simp [List.getD_eq_getElem?_getD, h1]
end Mine
end

section
open PySem PySem.W PySem.W.X PyProof.Rows PySem.Calls PySem.Spec
set_option Elab.async false
set_option maxRecDepth 100000
set_option maxHeartbeats 8000000
set_option linter.all false
namespace Mine
open PyProof.Rows.LCg (NsObj lst lst_snoc ns_obj)
section
variable {M : Model} {A : Around} {E : Value → Shared → Prop} {s : Shared} {env : Env} {pos p : Pos} {T : String} {first : List Value} {Q : Value → Shared → Prop} {e : Expr}
theorem methodCall_S {x name : Str} {opos apos : Pos}
    (h : wpAny M A (eval (.Name x opos) env) (fun ov s₁ => wpAny M A (getAttr ov name true) (fun f s₂ => wpAny M A (callWith pos f [] (backTo pos (starEach [.Starred e p] env)) []) Q E s₂) E s₁) E s)
    (he : starEach [.Starred e p] env = [(true, eval e env)] := by rfl) :
    wpAny M A (eval (.Call (.Attribute (.Name x opos) name apos) [.Starred e p] [] pos) env) Q E s := by
  rw [arm_eval_Call]
  show wpAny _ _ (eval (.Name x opos) env >>= _) _ _ _
  refine wpAny_bind (wpAny_mono h (fun ov s₁ h₁ => ?_) fun _ _ e => e)
  refine wpAny_bind (wpAny_standAt ?_)
  have hform : methodCallForm (1 + ([] : List Keyword).length) (backTo pos (starEach [.Starred e p] env)) (backToKw pos (keywordEach [] env)) = false := by rw [he]; rfl
  unfold methodCall
  show wpAny _ _ (holding [ov] (calleeOf (methodCallForm (1 + ([] : List Keyword).length) (backTo pos (starEach [.Starred e p] env)) (backToKw pos (keywordEach [] env))) (.Name x opos) env ov name) >>= _) _ _ _
  rw [hform]
  refine wpAny_bind (wpAny_holding ?_)
  show wpAny _ _ (getAttr ov name true >>= _) _ _ _
  refine wpAny_bind (wpAny_mono h₁ (fun f s₂ h₂ => wpAny_pure ?_) fun _ _ e => e)
  dsimp only
  refine wpAny_bind (wpAny_of_eq (a := pos) (by unfold methodCallPos; rfl) h₂)
theorem star_type (h : wpAny M A (eval e env) (fun v s₁ => StarOf M A E v (fun vs s₂ => wpAny M A (call (.type T) (first ++ vs)) Q E s₂) s₁) E s)
    (he : starEach [.Starred e p] env = [(true, eval e env)] := by rfl) :
    wpAny M A (callWith pos (.type T) first (backTo pos (starEach [.Starred e p] env)) []) Q E s := by
  rw [he]
  refine ks_call (P := fun _ => True) rfl (fun h _ => ⟨.machine, .inr (.inl rfl), Looks.of_pure rfl⟩) (ks_lone (wpAny_mono h (fun v s₁ h₁ => ?_) fun _ _ x => x))
  unfold StarOf at *
  exact wpAny_mono h₁ (fun b s₂ h₂ => ⟨h₂.1, wpAny_mono h₂.2 (fun vs s₃ h₃ => ⟨trivial, h₃⟩) fun _ _ x => x⟩) fun _ _ x => x
end
section
variable {prog : Program} {w : World} {A : Around} {E : Value → Shared → Prop} {s : Shared} {h₀ : Heap} {L : Addr} {m : Str → Option Value} {news : List (Addr × Obj)}
theorem star_lst {a : Addr} {ys : List Value} {Q : List Value → Shared → Prop} (F : Fr h₀ L s.heap m) (N : News h₀ L s.heap news) (ha : (a, lst ys) ∈ news) (hz : ys.length ≤ 1000)
    (h : ∀ h', Fr h₀ L h' m → News h₀ L h' news → Q ys { s with heap := h' }) : StarOf (model prog w) A E (.ref a) Q s :=
  star_seq F N ha rfl rfl (.inl rfl) (by simp) (by rw [sizeLine_eq]; simp; omega) h
theorem star_tup {a : Addr} {ys : List Value} {Q : List Value → Shared → Prop} (F : Fr h₀ L s.heap m) (N : News h₀ L s.heap news) (ha : (a, tobj ys) ∈ news) (hz : ys.length ≤ 1000)
    (h : ∀ h', Fr h₀ L h' m → News h₀ L h' news → Q ys { s with heap := h' }) : StarOf (model prog w) A E (.ref a) Q s :=
  star_seq F N ha rfl rfl (.inr rfl) (by simp) (by rw [sizeLine_eq]; simp; omega) h
end

section
variable {w : World} {p : Program} {loose : List Str} {mg mb : Str → Option Value} {bm : Addr} {ob : Obj} {s : Shared} {A : Around} {E : Value → Shared → Prop} {h₀ : Heap} {L : Addr} {m : Str → Option Value} {news : List (Addr × Obj)} {ps : Array Value}
theorem IdentStep {vals : List Value} {ns : List Str} {Q : Value → Shared → Prop} (E0 : Env0 w p loose mg mb bm ob h₀) (F : Fr h₀ L s.heap m) (N : News h₀ L s.heap news) (hm : (194, tableObj ps) ∈ news) (ht : TriplesOk ps.toList) (hg : AllBare s.gens)
    (hi : StrsAre vals ns) (hn : 0 < ns.length) (h4 : ns.length ≤ 4) (hh : A.handled = none) (hroom : A.depth < recursionLimit)
    (h : ∀ h' tk, Fr h₀ L h' m → News h₀ L h' news → Q (.bool (ns.all fun x => x == ns.headD Str.empty)) { s with heap := h', toks := tk }) : wpAny (model prog w) A (call (.ref 95) ([] ++ vals)) Q E s := by
  have G : Gd w p loose mg mb bm ob s := Gd.of E0 F N hm ht hg
  refine call_by (ident vals ns hi hn h4 G hh hroom ⟨rfl, G.e.k⟩) fun v s' hp T => ?_
  obtain ⟨rfl, h', tk, rfl, hk⟩ := hp
  exact h h' tk (F.keeps hk) fun q hq => ⟨hk _ _ (N q hq).1, (N q hq).2⟩
theorem AppendStep {a : Addr} {zs : List Value} {c : Nat} {x : Value} {rest : Led} {Q : Value → Shared → Prop} (F : Fr h₀ L s.heap m) (N : News h₀ L s.heap ((a, lob zs c) :: rest)) (off : ∀ q ∈ rest, q.1 ≠ a) (hz : zs.length ≤ 1000)
    (h : ∀ h', Fr h₀ L h' m → News h₀ L h' ((a, lob (zs ++ [x]) (c + 1)) :: rest) → Q .none { s with heap := h' }) : wpAny (model prog w) A (call (.builtin "list.append") [.ref a, x]) Q E s := by
  refine append_at (N _ List.mem_cons_self).1 (fun h' hs hD => ?_) (by rw [sizeLine_eq]; simp; omega)
  have ha := (N _ List.mem_cons_self).2
  refine h h' (F.change hs ha.1 ha.2) fun q hq => ?_
  rcases List.mem_cons.mp hq with rfl | hq
  · exact ⟨by simpa using hD, ha⟩
  · exact ⟨hs.extBut _ _ (off q hq) (N q (List.mem_cons_of_mem _ hq)).1, (N q (List.mem_cons_of_mem _ hq)).2⟩
end
theorem col_same {ls : List (List Nat)} {i : Nat} : ((colS ls i).all fun x => x == (colS ls i).headD Str.empty) = sameAt ls i := by
  unfold colS sameAt
  cases ls with
  | nil => rfl
  | cons l0 ls =>
    simp only [List.map_cons, List.headD_cons]
    rw [← List.map_cons (f := fun l : List Nat => (⟨#[l.getD i 0]⟩ : Str)), List.all_map]
    congr 1
    funext l
    show ((⟨#[l.getD i 0]⟩ : Str) == ⟨#[l0.getD i 0]⟩) = _
    rw [Bool.eq_iff_iff, beq_iff_eq, beq_iff_eq]
    constructor
    · intro h; simpa using h
    · intro h; rw [h]
theorem RowsT.snoc {led : Led} {ys : List Value} {ls : List (List Nat)} {a : Addr} {zs : List Value} {l : List Nat} (x : RowsT led ys ls) (o : Ones zs l) : RowsT ((a, tobj zs) :: led) (ys ++ [.ref a]) (ls ++ [l]) := by
  refine ⟨by simp [x.1], fun j v hv => ?_⟩
  by_cases hj : j < ys.length
  · rw [List.getElem?_append_left hj] at hv
    obtain ⟨a', zs', e, hm, o'⟩ := x.2 j v hv
    refine ⟨a', zs', e, List.mem_cons_of_mem _ hm, ?_⟩
    rw [List.getD_eq_getElem?_getD, List.getElem?_append_left (by rw [← x.1]; exact hj), ← List.getD_eq_getElem?_getD]
    exact o'
  · have hj' : j = ys.length := by
      rcases Nat.lt_or_ge j (ys ++ [Value.ref a]).length with h | h
      · simp at h; omega
      · rw [List.getElem?_eq_none h] at hv; cases hv
    subst hj'
    simp at hv
    subst hv
    refine ⟨a, zs, rfl, List.mem_cons_self, ?_⟩
    rw [x.1]; simpa using o

section
variable {prog : Program} {w : World} {A : Around} {E : Value → Shared → Prop} {s : Shared} {K : Frag} {x C L p : Addr} {ox : Obj} {h₀ : Heap} {m : Str → Option Value} {es : List DictEntry} {n : Nat} {name : Str} {fv : Value} {rest : List Value} {expr : Bool} {Q : Value → Shared → Prop}
theorem get_sm (F : Fr h₀ L s.heap m) (X₀ : K.In h₀) (I : InstAt s.heap x ox C (some (dictOf es n))) (hg : plainGet K C name = true) (hh : hasDictIn K C = true) (ha : findIn K (.ref C) name = some (some (.ref p)))
    (hgf : specialIn K (.ref p) "__get__" = some (some (.builtin "staticmethod.__get__"))) (hts : takesIn K (.ref p) = some false) (hc : copiedNames.contains name = false) (hl : getL name es = some none) (hp : recIn K p "staticmethod" = some (fv :: rest)) (hv : handedIn fv = true)
    (h : Q fv { s with toks := s.toks + 1 }) : wpAny (model prog w) A (getAttr (.ref x) name expr) Q E s :=
  get_bind (X₀.keeps F.keep) I (plainGet_of hg).1 (findObj_fn hh ha hgf hts hc (by show lookIn name (dictOf es n) = _; rw [lookIn_dict, hl])) (plainGet_of hg).2
      (wpAny_call (sm_get (s := { s with toks := s.toks + 1 }) (X₀.keeps F.keep) hp (handed_on hv h)))
end
end Mine
end

section
open PySem PySem.W PySem.W.X PyProof.Rows PySem.Calls PySem.Spec
set_option Elab.async false
set_option maxRecDepth 100000
set_option maxHeartbeats 8000000
set_option linter.all false
namespace Mine
open PyProof.Rows.LCg (NsObj lst lst_snoc ns_obj)
section
variable {prog : Program} {w : World} {A : Around} {E : Value → Shared → Prop} {s : Shared} {h₀ : Heap} {L : Addr} {m : Str → Option Value} {news : List (Addr × Obj)} {env : Env} {os₀ : OsState}
theorem iadd_list {a b : Addr} {xs ys : List Value} {c d : Nat} {rest : Led} {Q : Value → Shared → Prop} (F : Fr h₀ L s.heap m) (N : News h₀ L s.heap ((a, lob xs c) :: rest)) (off : ∀ q ∈ rest, q.1 ≠ a) (hb : (b, lob ys d) ∈ rest) (hx : xs.length ≤ 1000) (hy : ys.length ≤ 1000)
    (h : ∀ h' e, Fr h₀ L h' m → News h₀ L h' ((a, lob (xs ++ ys) e) :: rest) → Q (.ref a) { s with heap := h' }) : wpAny (model prog w) A (inplaceOp .Add (.ref a) (.ref b)) Q E s := by
  have Na := N _ List.mem_cons_self
  have Nb := N _ (List.mem_cons_of_mem _ hb)
  have ha' : s.TypeIs (.ref a) "list" := ⟨_, Na.1, rfl⟩
  have hb' : s.TypeIs (.ref b) "list" := ⟨_, Nb.1, rfl⟩
  unfold inplaceOp
  refine wpAny_holding ?_
  have hsl : isSeqSlot (some (.builtin "list.__iadd__")) = true := by decide +kernel
  have hfi : fillsInplaceSlot (.type "list") "add" (Operator.Add == .Add) = pure false := by
    unfold fillsInplaceSlot
    show (typeLookup (.type "list") (dunderI "add") >>= fun fi => pure (fi.isSome && !isSeqSlot fi)) = pure false
    rw [PySem.F.slot_list_iadd.lookup]
    show (pure ((some (Value.builtin "list.__iadd__")).isSome && !isSeqSlot (some (.builtin "list.__iadd__"))) : Sem Bool) = pure false
    rw [hsl]; rfl
  have hsi : seqSlot? (.type "list") (dunderI "add") = pure (some (.builtin "list.__iadd__")) := PySem.seqSlot_of PySem.F.slot_list_iadd.lookup hsl
  refine wpAny_bind (wpAny_typeOf ha' (wpAny_bind (wpAny_of_eq hfi ?_)))
  show wpAny _ A (if false = true then _ else _) Q E s
  rw [if_neg Bool.false_ne_true]
  refine wpAny_bind (wpAny_binaryOp1_none (nm := "add") ha' hb' noFill_list_add ?_)
  refine wpAny_bind (wpAny_of_eq hsi ?_)
  refine wpAny_bind (wpAny_rule ?_)
  have hz1 : xs.toArray.size ≤ sizeLine := by rw [sizeLine_eq]; simp; omega
  have hz2 : xs.toArray.size + ys.toArray.size ≤ sizeLine + 1 := by rw [sizeLine_eq]; simp; omega
  refine call_meets PySem.F.slot_list_iadd ha' PySem.F.entry_list_iadd (PySem.F.args_list_iadd_2 _ _) (PySem.AutoSeq1.list___iadd___list_list_0 a xs.toArray c b ys.toArray d ?_ hz1 hz2) ⟨Na.1, Nb.1, ?_⟩
  · simp [Builtin.List.listTooLong]; intro _; rw [sizeLine_eq]; omega
  · have hu : (s.heap.update a (Obj.mapSeq fun x => x ++ ys.toArray)).get? a = some (Obj.mapSeq (fun x => x ++ ys.toArray) (lob xs c)) := Heap.get?_update_self _ Na.1 rfl
    have e1 : Obj.mapSeq (fun x => x ++ ys.toArray) (lob xs c) = lob (xs ++ ys) (c + 1) ∨ ∃ e, Obj.mapSeq (fun x => x ++ ys.toArray) (lob xs c) = lob (xs ++ ys) e := by
      right
      exact ⟨_, by simp [Obj.mapSeq, lob]; rfl⟩
    obtain ⟨e, he⟩ : ∃ e, Obj.mapSeq (fun x => x ++ ys.toArray) (lob xs c) = lob (xs ++ ys) e := e1.elim (fun h => ⟨_, h⟩) id
    rw [he] at hu
    have hs : Heap.SameBut a s.heap (s.heap.update a (Obj.mapSeq fun x => x ++ ys.toArray)) := Heap.SameBut.update ..
    refine h _ e (F.change hs Na.2.1 Na.2.2) fun q hq => ?_
    rcases List.mem_cons.mp hq with rfl | hq
    · exact ⟨hu, Na.2⟩
    · exact ⟨hs.extBut _ _ (off q hq) (N q (List.mem_cons_of_mem _ hq)).1, (N q (List.mem_cons_of_mem _ hq)).2⟩
theorem add_lists {a b : Addr} {xs ys : List Value} {c d : Nat} {Q : Value → Shared → Prop} (F : Fr h₀ L s.heap m) (N : News h₀ L s.heap news) (ha : (a, lob xs c) ∈ news) (hb : (b, lob ys d) ∈ news) (hx : xs.length ≤ 1000) (hy : ys.length ≤ 1000)
    (h : ∀ D h', Fr h₀ L h' m → News h₀ L h' ((D, lob (xs ++ ys) 0) :: news) → Above D news → Q (.ref D) { s with heap := h' }) : wpAny (model prog w) A (binaryOp .Add (.ref a) (.ref b)) Q E s := by
  refine PySem.P.add_list (N _ ha).1 (N _ hb).1 ?_ (by rw [sizeLine_eq]; simp; omega)
  have hnone : h₀.get? s.heap.objs.size = none := by
    cases e : h₀.get? s.heap.objs.size with
    | none => rfl
    | some o => exact absurd (Heap.lt_size (F.keep _ _ e)) (Nat.lt_irrefl _)
  refine h _ _ (F.push _) (fun q hq => ?_) fun q hq => Heap.lt_size (N q hq).1
  rcases List.mem_cons.mp hq with rfl | hq
  · refine ⟨?_, fun e => absurd F.ns.lt (by rw [← e]; exact Nat.lt_irrefl _), hnone⟩
    have := Heap.get?_push_size s.heap (o := { cls := .type "list", data := .seq (xs.toArray ++ ys.toArray) }) rfl
    simpa using this
  · exact ⟨Heap.get?_push_of_some _ (N q hq).1, (N q hq).2⟩
/-- an element that is one new object -/
theorem elt_grow {S : Led → Prop} {JE : List Value → Led → Prop} {C Dl D' : Addr} {oC o' : Obj} {ys : List Value} {st rest all : Led} {s' : Shared}
    (F9 : Fr h₀ L s'.heap m) (N9 : News h₀ L s'.heap ((D', o') :: all)) (g9 : AllBare s'.gens) (o9 : s'.os = os₀) (l9 : Above D' all)
    (sub : ∀ q ∈ (C, oC) :: (Dl, lst ys) :: (st ++ rest), q ∈ all) (ap2 : Ap2 C Dl (st ++ rest)) (ap : Ap st rest) (hS : S ((D', o') :: rest)) (j : JE (ys ++ [.ref D']) ((D', o') :: rest)) :
    EltEnd h₀ L m os₀ S JE C oC Dl ys st (.ref D') s' := by
  refine EltEnd.intro ((D', o') :: rest) F9 N9 g9 o9 ?_ ?_ ?_ hS j
  · intro q hq
    simp only [List.mem_cons, List.mem_append] at hq ⊢
    have sub' := sub q
    simp only [List.mem_cons, List.mem_append] at sub'
    rcases hq with h | h | h | h | h
    · exact .inr (sub' (.inl h))
    · exact .inr (sub' (.inr (.inl h)))
    · exact .inr (sub' (.inr (.inr (.inl h))))
    · exact .inl h
    · exact .inr (sub' (.inr (.inr (.inr h))))
  · intro q hq
    rcases List.mem_cons.mp hq with rfl | hq
    · exact ⟨Nat.ne_of_gt (l9 (C, oC) (sub _ List.mem_cons_self)), Nat.ne_of_gt (l9 (Dl, lst ys) (sub _ (List.mem_cons_of_mem _ List.mem_cons_self)))⟩
    · exact ap2 q (List.mem_append_right _ hq)
  · intro p hp q hq
    rcases List.mem_cons.mp hq with rfl | hq
    · exact Nat.ne_of_gt (l9 p (sub p (List.mem_cons_of_mem _ (List.mem_cons_of_mem _ (List.mem_append_left _ hp)))))
    · exact ap p hp q hq

theorem comp_coreF {elt iter target : Expr} {scope : Scope} {cl : List (Str × Addr)} {pos : Pos} {Q : Value → Shared → Prop} (F : Fr h₀ L s.heap m)
    (hclos : closureFor scope env = pure cl) (hcell : ∀ y ∈ scope.names, y.2 ≠ .cell) (hkind : scope.kind = .function)
    (hnames : ∀ y ∈ scope.names, y.2 = .local → scope.names.lookup y.1 = some .local)
    (h : wpAny (model prog w) A (eval iter env) (fun xv s₁ => wpAny (model prog w) A (pyIter xv) (CompAt prog w A h₀ L m env elt target scope cl
      (fun os₀ ys led => ∀ D s', OK h₀ L m ((D, lst ys) :: led) os₀ s' → (∀ q ∈ led, q.1 ≠ D) → Q (.ref D) s')) E s₁) E s)
    (hs : ∀ x, foldedSetIterable iter env x = pure x) :
    wpAny (model prog w) A (eval (.ListComp elt [⟨target, iter, [], 0⟩] scope pos) env) Q E s := comp_core hclos hcell hkind hnames h hs
end

theorem RowsL.append {led : Led} {ys ys' : List Value} {ls ls' : List (List Nat)} (x : RowsL led ys ls) (y : RowsL led ys' ls') : RowsL led (ys ++ ys') (ls ++ ls') := by
  refine ⟨by simp [x.1, y.1], fun j v hv => ?_⟩
  by_cases hj : j < ys.length
  · rw [List.getElem?_append_left hj] at hv
    obtain ⟨a, zs, c, e, hm, o⟩ := x.2 j v hv
    refine ⟨a, zs, c, e, hm, ?_⟩
    rw [List.getD_eq_getElem?_getD, List.getElem?_append_left (by rw [← x.1]; exact hj), ← List.getD_eq_getElem?_getD]
    exact o
  · have hj := Nat.le_of_not_lt hj
    rw [List.getElem?_append_right hj] at hv
    obtain ⟨a, zs, c, e, hm, o⟩ := y.2 _ v hv
    refine ⟨a, zs, c, e, hm, ?_⟩
    rw [List.getD_eq_getElem?_getD, List.getElem?_append_right (by rw [← x.1]; exact hj), ← List.getD_eq_getElem?_getD, ← x.1]
    exact o
theorem Ones.append {a b : List Value} {l k : List Nat} (x : Ones a l) (y : Ones b k) : Ones (a ++ b) (l ++ k) := by
  refine ⟨by simp [x.1, y.1], fun j v hv => ?_⟩
  by_cases hj : j < a.length
  · rw [List.getElem?_append_left hj] at hv
    obtain ⟨u, e⟩ := x.2 j v hv
    refine ⟨u, ?_⟩
    rw [e, List.getD_eq_getElem?_getD, List.getD_eq_getElem?_getD, List.getElem?_append_left (by rw [← x.1]; exact hj)]
  · have hj := Nat.le_of_not_lt hj
    rw [List.getElem?_append_right hj] at hv
    obtain ⟨u, e⟩ := y.2 _ v hv
    refine ⟨u, ?_⟩
    rw [e, List.getD_eq_getElem?_getD, List.getD_eq_getElem?_getD, List.getElem?_append_right (by rw [← x.1]; exact hj), ← x.1]
theorem Ones.drop {a : List Value} {l : List Nat} (n : Nat) (x : Ones a l) : Ones (a.drop n) (l.drop n) := by
  refine ⟨by simp [x.1], fun j v hv => ?_⟩
  rw [List.getElem?_drop] at hv
  obtain ⟨u, e⟩ := x.2 _ v hv
  exact ⟨u, by rw [e]; simp [List.getD_eq_getElem?_getD]⟩
end Mine
end

section
open PySem PySem.W PySem.W.X PyProof.Rows PySem.Calls PySem.Spec
set_option Elab.async false
set_option linter.all false
namespace Mine
theorem filter_two (l : List Nat) (p : Nat → Bool) : (l.filter p).length + (l.filter fun k => !p k).length = l.length := by
  induction l with
  | nil => rfl
  | cons a l ih =>
    simp only [List.filter_cons]
    cases h : p a <;> simp [h] <;> omega
theorem diffK_le (ls : List (List Nat)) (m : Nat) : (diffK ls m).length ≤ m := by
  unfold diffK
  exact Nat.le_trans (List.length_filter_le _ _) (by simp)
theorem agree_add (ls : List (List Nat)) (m : Nat) : agree m ls + (diffK ls m).length = m := by
  unfold agree diffK sameAt
  have h := filter_two (List.range m) (fun k => ls.all fun l => l.getD k 0 == (ls.headD []).getD k 0)
  rw [List.length_range] at h
  exact h
theorem roundL_length (ls : List (List Nat)) (m : Nat) : (roundL ls m).length = ls.length := by simp [roundL]
theorem roundL_row {ls : List (List Nat)} {m : Nat} {r : List Nat} (hr : r ∈ roundL ls m) : ∃ l ∈ ls, r = (diffK ls m).map (fun k => l.getD k 0) ++ l.drop m := by
  obtain ⟨l, hl, rfl⟩ := List.mem_map.mp hr
  exact ⟨l, hl, rfl⟩
theorem roundL_min {ls : List (List Nat)} {m : Nat} (h : IsMin m (ls.map (·.length))) : IsMin (diffK ls m).length ((roundL ls m).map (·.length)) := by
  obtain ⟨h1, h2⟩ := h
  obtain ⟨l, hl, hm⟩ := List.mem_map.mp h1
  refine ⟨List.mem_map.mpr ⟨_, List.mem_map.mpr ⟨l, hl, rfl⟩, ?_⟩, ?_⟩
  · simp only [List.length_append, List.length_map, List.length_drop]
    have : l.length = m := hm
    omega
  · intro x hx
    obtain ⟨r, hr, rfl⟩ := List.mem_map.mp hx
    obtain ⟨l', _, rfl⟩ := roundL_row hr
    simp
theorem roundL_max {ls : List (List Nat)} {m M : Nat} (h : IsMin m (ls.map (·.length))) (hM : IsMax M (ls.map (·.length))) : IsMax ((diffK ls m).length + (M - m)) ((roundL ls m).map (·.length)) := by
  obtain ⟨h1, h2⟩ := hM
  obtain ⟨l, hl, hm⟩ := List.mem_map.mp h1
  refine ⟨List.mem_map.mpr ⟨_, List.mem_map.mpr ⟨l, hl, rfl⟩, ?_⟩, ?_⟩
  · simp only [List.length_append, List.length_map, List.length_drop]
    have : l.length = M := hm
    omega
  · intro x hx
    obtain ⟨r, hr, rfl⟩ := List.mem_map.mp hx
    obtain ⟨l', hl', rfl⟩ := roundL_row hr
    have := h2 _ (List.mem_map.mpr ⟨l', hl', rfl⟩)
    simp only [List.length_append, List.length_map, List.length_drop]
    omega
theorem row_get {A B : List Nat} {k : Nat} (h : k < A.length) : (A ++ B).getD k 0 = A.getD k 0 := by
  simp [List.getD_eq_getElem?_getD, List.getElem?_append_left h]
theorem diffK_diff {ls : List (List Nat)} {m k : Nat} (h : k ∈ diffK ls m) : sameAt ls k = false := by
  unfold diffK at h
  have := (List.mem_filter.mp h).2
  simpa using this
theorem roundL_get {ls : List (List Nat)} {m k : Nat} (hk : k < (diffK ls m).length) (l : List Nat) :
    ((diffK ls m).map (fun k => l.getD k 0) ++ l.drop m).getD k 0 = l.getD ((diffK ls m)[k]) 0 := by
  rw [row_get (by simpa using hk)]
  simp [List.getD_eq_getElem?_getD, hk]
theorem roundL_same {ls : List (List Nat)} {m k : Nat} (hk : k < (diffK ls m).length) : sameAt (roundL ls m) k = false := by
  have hd := diffK_diff (List.getElem_mem hk)
  rcases ls with _ | ⟨l0, ls⟩
  · simp [sameAt] at hd
  · rw [← hd]
    unfold sameAt
    rw [show (roundL (l0 :: ls) m).headD [] = (diffK (l0 :: ls) m).map (fun k => l0.getD k 0) ++ l0.drop m from rfl, roundL_get hk]
    show ((List.map _ (l0 :: ls)).all _) = _
    rw [List.all_map]
    apply List.all_congr rfl
    intro l
    show (_ == _) = (_ == _)
    rw [roundL_get hk]
    rfl
theorem diffK_again (ls : List (List Nat)) (m : Nat) : diffK (roundL ls m) (diffK ls m).length = List.range (diffK ls m).length := by
  rw [diffK]
  apply List.filter_eq_self.mpr
  intro k hk
  rw [roundL_same (List.mem_range.mp hk)]
  rfl
theorem range_get (A B : List Nat) : (List.range A.length).map (fun k => (A ++ B).getD k 0) = A := by
  apply List.ext_getElem
  · simp
  · intro i h1 h2
    simp [List.getD_eq_getElem?_getD, List.getElem?_append_left h2, h2]
theorem roundL_fix {ls : List (List Nat)} {m : Nat} : roundL (roundL ls m) (diffK ls m).length = roundL ls m := by
  conv => lhs; rw [roundL, diffK_again]
  conv => rhs; rw [← List.map_id (roundL ls m)]
  apply List.map_congr_left
  intro r hr
  obtain ⟨l, _, rfl⟩ := roundL_row hr
  have h := range_get ((diffK ls m).map fun k => l.getD k 0) (l.drop m)
  rw [List.length_map] at h
  rw [h]
  simp
theorem IsMin.unique {a b : Nat} {l : List Nat} (x : IsMin a l) (y : IsMin b l) : a = b := Nat.le_antisymm (x.2 _ y.1) (y.2 _ x.1)
theorem IsMax.unique {a b : Nat} {l : List Nat} (x : IsMax a l) (y : IsMax b l) : a = b := Nat.le_antisymm (y.2 _ x.1) (x.2 _ y.1)
end Mine
end

section
open PySem PySem.W PySem.W.X PyProof.Rows PySem.Calls PySem.Spec
set_option Elab.async false
set_option maxRecDepth 100000
set_option maxHeartbeats 8000000
namespace Mine
section
variable {w : World} {p : Program} {loose : List Str} {mg mb : Str → Option Value} {bm : Addr} {ob : Obj} {h h₀ : Heap} {ps : Array Value}

theorem isCode (X : (hd.heap_39 w.params).In h) (hp : h.get? 194 = some (tableObj ps)) (ht : TriplesOk ps.toList) : h.IsCode 198 194 ps := by
  obtain ⟨o, vs, hl, hv, h1, h2, h3, h4, h5⟩ : ∃ o vs, (hd.heap_39 w.params).lookup 198 = some o ∧ o.data = .fields vs ∧ vs.getD 11 .none = .ref 194 ∧ (∃ a b, vs.getD 18 .none = .str a b) ∧ (∃ a b, vs.getD 7 .none = .int a b) ∧ (∃ a, vs.getD 9 .none = .bool a) ∧ (∃ a b, vs.getD 10 .none = .int a b) :=
    ⟨_, _, rfl, rfl, rfl, ⟨_, _, rfl⟩, ⟨_, _, rfl⟩, ⟨_, rfl⟩, ⟨_, _, rfl⟩⟩
  obtain ⟨f, tf, h2⟩ := h2
  obtain ⟨fl, tg, h3⟩ := h3
  obtain ⟨i, h4⟩ := h4
  obtain ⟨x, tt, h5⟩ := h5
  exact ⟨o, vs, f, tf, fl, tg, i, x, tt, tableObj ps, X _ _ hl, hv, h1, h2, h3, h4, h5, hp, rfl, ht, by decide⟩
end

section
variable {w : World} {h : Heap} {ps : Array Value} {M : Model} {A : Around} {E : Value → Shared → Prop} {s : Shared}
theorem tableAt (X : (hd.heap_39 w.params).In h) (hp : h.get? 194 = some (tableObj ps)) : h.TableAt 198 194 ps := by
  obtain ⟨o, vs, hl, hc, hv, h1⟩ : ∃ o vs, (hd.heap_39 w.params).lookup 198 = some o ∧ o.cls = .type "code" ∧ o.data = .fields vs ∧ vs[11]? = some (.ref 194) := ⟨_, _, rfl, rfl, rfl, rfl⟩
  exact ⟨⟨o, vs, X _ _ hl, hc, hv, h1⟩, hp⟩

theorem genCode {env : Env} {pos : Pos} {qn : Str} {scope : Scope} {Q : Value → Shared → Prop} (X : (hd.heap_39 w.params).In s.heap) (hp : s.heap.get? 194 = some (tableObj ps)) (ht : TriplesOk ps.toList) (hc : env.code = .ref 198)
    (hQ : ∀ code h' tk ps', s.heap.objs.size ≤ h'.objs.size → Heap.ExtBut 194 s.heap h' → h'.get? 194 = some (tableObj ps') → TriplesOk ps'.toList → Q code { s with heap := h', toks := tk }) :
    wpAny M A (genexprCode env pos qn scope) Q E s := by
  have hok := isCode X hp ht
  cases hnf : codeAmong pos ps.toList with
  | none =>
    refine wpAny_genexprCodeX hc hok (tableAt X hp) hnf fun c' h' tk hx hz1 hz2 hcode' _ htab _ => ?_
    refine hQ _ h' tk _ (Nat.le_trans hz1 (Nat.le_of_lt hz2)) hx htab.2 ?_
    obtain ⟨_, _, _, _, _, _, _, _, _, op, _, _, _, _, _, _, _, hop, hpd, htr, _⟩ := hcode'
    rw [htab.2] at hop
    cases hop
    cases hpd
    exact htr
  | some cv =>
    obtain ⟨o, vs, file, tf, flags, tg, inF, text, tt, op, ho, hd, h11, h2, h7, h9, h10, hop, hpd, htr, hne⟩ := id hok
    unfold genexprCode codeAt
    rw [hc, if_neg (show ¬ ((Value.ref 198 == Value.none) = true) from Bool.false_ne_true)]
    refine wpAny_bind (wpAny_fieldsOf ho hd ?_)
    rw [h11]
    refine wpAny_bind (wpAny_fieldsOf hop hpd ?_)
    rw [hnf]
    exact wpAny_pure (hQ cv s.heap s.toks ps (Nat.le_refl _) (Heap.ExtBut.refl _ _) hp ht)
end

/-- a generator at a that hands out these texts; what it writes is new -/
def GenIs (w : World) (A : Around) (h₀ : Heap) (L : Addr) (led : List (Addr × Obj)) (a : Addr) (ts : List Str) (s : Shared) : Prop :=
  ∃ fp wr g St F, WalksS prog w A.in4 a fp wr (GenOnlyQ g) ts.length F St ∧ St 0 s ∧ (∀ i s', St i s' → s'.TypeIs (.ref a) "generator") ∧ a ∈ fp ∧ (∀ b ∈ fp, b < s.heap.objs.size) ∧
    (∀ b ∈ wr, h₀.get? b = none ∧ b ≠ L ∧ ∀ q ∈ led, q.1 ≠ b) ∧ ∀ j v, F j v → ∃ u, v = .str (ts.getD j ⟨#[]⟩) u

section
variable {w : World} {A : Around} {E : Value → Shared → Prop} {s : Shared} {h₀ : Heap} {L : Addr} {m : Str → Option Value} {led : List (Addr × Obj)}
theorem join_is {a : Addr} {ts : List Str} {sep : Str} {t : Tok} {Q : Value → Shared → Prop} (F : Fr h₀ L s.heap m) (N : News h₀ L s.heap led) (G : AllBare s.gens) (X : GenIs w A h₀ L led a ts s)
    (hok : JoinOk sep ts = true) (hsz : ts.length ≤ sizeLine)
    (hQ : ∀ s' t', Fr h₀ L s'.heap m → News h₀ L s'.heap led → AllBare s'.gens → s'.os = s.os → Q (.str (Txt.join sep ts) t') s') :
    wpAny (model prog w) A (call (.builtin "str.join") [.str sep t, .ref a]) Q E s := by
  obtain ⟨fp, wr, g, St, FF, W, hst, hT, ha, hfp, hwr, htx⟩ := X
  have W := W.in4_2
  refine SC.joinGen W hT hst hfp ha (fun j v hv => let ⟨u, e⟩ := htx j v hv; ⟨_, u, e⟩) (fun s' lt hm hacc => ?_) hsz
  have hl : lt.map (·.1) = ts := by
    apply List.ext_getElem?
    intro j
    have hsz : lt.length = ts.length := by simpa [strValues] using hacc.1
    by_cases hj : j < ts.length
    · have hj' : j < lt.length := hsz ▸ hj
      obtain ⟨u, hv⟩ := htx j _ (hacc.2 j (.str lt[j].1 lt[j].2) (by simp [strValues, List.getElem?_eq_getElem hj']))
      injection hv with h1 _
      simp [List.getElem?_eq_getElem hj', hj, h1, List.getD_eq_getElem?_getD]
    · rw [List.getElem?_eq_none (by simpa [hsz] using Nat.le_of_not_lt hj), List.getElem?_eq_none (by simpa using Nat.le_of_not_lt hj)]
  rw [hl]
  have f1 : Fr h₀ L s'.heap m := ⟨F.ns.at fun o e => hm.heap L o (fun hL => (hwr L hL).2.1 rfl) e, fun b o e => hm.heap b o (fun hb => by rw [(hwr b hb).1] at e; cases e) (F.keep b o e), F.above⟩
  have n1 : News h₀ L s'.heap led := fun q hq => ⟨hm.heap _ _ (fun hb => (hwr _ hb).2.2 q hq rfl) (N q hq).1, (N q hq).2⟩
  have g1 := G.movedS hm
  have o1 := hm.os
  exact ⟨hok, fun t' k => hQ { s' with toks := k } t' f1 n1 g1 o1⟩
end
/-- what stands behind the evaluation of a generator expression's source, a text -/
def SrcStr (w : World) (p : Program) (loose : List Str) (mg mb : Str → Option Value) (bm : Addr) (ob : Obj) (A : Around) (h₀ : Heap) (L : Addr) (pz : Nat → Bool) (Q : Value → Shared → Prop) (xv : Value) (s : Shared) : Prop :=
  ∃ y t m led g ps, xv = .str y t ∧ Env0 w p loose mg mb bm ob h₀ ∧ Fr h₀ L s.heap m ∧ News h₀ L s.heap led ∧ UpdF 194 (tableObj ps) led g ∧ TriplesOk ps.toList ∧ AllBare s.gens ∧
    ∀ a s₅ ps', TriplesOk ps'.toList → Fr h₀ L s₅.heap m → News h₀ L s₅.heap (g (tableObj ps')) → AllBare s₅.gens → s₅.os = s.os →
      GenIs w A h₀ L (g (tableObj ps')) a ((y.cps.toList.filter pz).map fun c => ⟨#[c]⟩) s₅ → Q (.ref a) s₅

theorem pass_list (l : List Nat) (pz : Nat → Bool) : (passing (fun i => (l[i]?.map pz).getD false) l.length 0).map (fun i => l[i]?) = (l.filter pz).map some := by
  rw [← idx_map l pz]
  simp [passing]

theorem genStr {w : World} {p : Program} {loose : List Str} {mg mb : Str → Option Value} {bm : Addr} {ob : Obj} {A : Around} {E : Value → Shared → Prop} {s : Shared} {h₀ : Heap} {L : Addr} {Q : Value → Shared → Prop}
    {env : Env} {elt iter : Expr} {x : Str} {px : Pos} {ifs : List Expr} {scope : Scope} {cl : List (Str × Addr)} {pos : Pos} (pz : Nat → Bool)
    (hcode : env.code = .ref 198) (hglob : env.globals = mainGlobals)
    (hh : A.handled = none) (hco : scope.isCoroutine = false) (hclos : closureFor scope env = pure cl) (hcell : ∀ y ∈ scope.names, y.2 ≠ .cell) (h0 : scope.names.lookup (".0" : Str) = some NameKind.local)
    (hx : scope.names.lookup x = some .local) (hkind : scope.kind = .function) (hroom : A.depth < recursionLimit)
    (htest : ∀ (A' : Around) E' (c : Nat) (u : Tok) (s₂ : Shared) m₂ C code, s₂.heap.Ns C m₂ → m₂ x = some (.str ⟨#[c]⟩ u) →
      wpAny (model prog w) A' (forIn ifs true fun c r => if r = true then do let ok ← isTrue c (genEnv scope cl C code builtinsNs env) (eval c (genEnv scope cl C code builtinsNs env)); pure (ForInStep.yield ok) else pure (ForInStep.yield r)) (fun ok s₃ => ok = pz c ∧ Keeps s₂ s₃) E' s₂)
    (helt : ∀ (A' : Around) E' (c : Nat) (u : Tok) (s₂ : Shared) m₂ C code, s₂.heap.Ns C m₂ → m₂ x = some (.str ⟨#[c]⟩ u) →
      wpAny (model prog w) A' (eval elt (genEnv scope cl C code builtinsNs env)) (fun y s₃ => (∃ u, y = .str ⟨#[c]⟩ u) ∧ Keeps s₂ s₃) E' s₂)
    (h : wpAny (model prog w) A (eval iter env) (SrcStr w p loose mg mb bm ob A h₀ L pz Q) E s)
    (hs : ∀ x, genFold iter env x = pure x) :
    wpAny (model prog w) A (eval (.GeneratorExp elt [⟨.Name x px, iter, ifs, 0⟩] scope pos) env) Q E s := by
  refine wpAny_GeneratorExp_walksQ hh hco hclos hcell h0 hx hkind hroom (wpAny_mono h (fun xv s₁ h₁ => ?_) fun _ _ e => e) hs
  obtain ⟨y, t, m, led, g, ps, rfl, E0, F, N, U, ht, hb, hQ⟩ := h₁
  have hmem := UpdF.mem U
  have hm194 := N _ hmem
  have X1 := E0.keeps F.keep
  refine wpAny_pyIter_str fun o St W hst => ?_
  have X2 : Env0 w p loose mg mb bm ob (s₁.heap.push o) := X1.keeps fun _ _ e => Heap.get?_push_of_some _ e
  have htab2 : (s₁.heap.push o).get? 194 = some (tableObj ps) := Heap.get?_push_of_some _ hm194.1
  refine ⟨X2.t.nolimit, genCode X2.k htab2 ht hcode fun code h₃ tk₃ ps' hz₃ hx₃ htab₃ ht₃ => ?_⟩
  have hne : bm ≠ 194 := tab_ne X2 ⟨ps, htab2, ht⟩
  have X3 : Env0 w p loose mg mb bm ob h₃ := X2.but hne fun b o n e => hx₃ b o n e
  rw [hglob]
  refine wpAny_builtinsFor X3.b.ns X3.b.name X3.b.ne X3.b.obj X3.b.cls X3.b.dict X3.b.data ?_
  have h194 : 194 < s₁.heap.objs.size := Heap.lt_size hm194.1
  have hI : s₁.heap.objs.size ≠ 194 := Nat.ne_of_gt h194
  have hst3 : St 0 h₃ := (W A hh).frame _ _ _ hst fun b hb o e => by
    rw [List.mem_singleton.mp hb] at e ⊢
    exact hx₃ _ _ hI e
  have hIlt : s₁.heap.objs.size < h₃.objs.size := Nat.lt_of_lt_of_le (by show _ < (s₁.heap.push o).objs.size; rw [Heap.size_push]; exact Nat.lt_succ_self _) hz₃
  have hcs : cStatics < s₁.heap.objs.size := Nat.lt_trans (show cStatics < 194 by decide) h194
  refine ⟨s₁.heap.objs.size, [s₁.heap.objs.size], [s₁.heap.objs.size], y.cps.size, SignAt y, St, (fun i => (y.cps.toList[i]?.map pz).getD false), (fun i v => ∃ c u, y.cps[i]? = some c ∧ v = .str ⟨#[c]⟩ u), rfl, W, hst3, ?_, X3.t.nolimit, ?_, ?_, ?_⟩
  · intro b hb; rw [List.mem_singleton.mp hb]; exact hIlt
  · intro hm; exact absurd hcs (by rw [List.mem_singleton.mp hm]; exact Nat.lt_irrefl _)
  · intro href _
    refine ⟨fun A' E' i v s₂ m₂ hA hP hn hm _ => ?_, fun A' E' i v s₂ m₂ hA hP hp hn hm _ => ?_⟩
    · obtain ⟨c, u, hc, rfl⟩ := hP
      refine wpAny_mono (htest A' E' c u s₂ m₂ _ _ hn hm) (fun ok s₃ r => ⟨?_, r.2⟩) fun _ _ e => e
      rw [r.1]
      have : y.cps.toList[i]? = some c := by simpa using hc
      simp [hc]
    · obtain ⟨c, u, hc, rfl⟩ := hP
      refine wpAny_mono (helt A' E' c u s₂ m₂ _ _ hn hm) (fun r s₃ q => ⟨?_, q.2⟩) fun _ _ e => e
      obtain ⟨⟨u', rfl⟩, _⟩ := q
      exact ⟨c, u', hc, rfl⟩
  · intro a h₅ tk gs hgb hag hsz₅ hk₅ WS hat
    have keep : ∀ b o, b ≠ 194 → s₁.heap.get? b = some o → h₅.get? b = some o := fun b o n e => hk₅ _ _ (hx₃ b o n (Heap.get?_push_of_some _ e))
    obtain ⟨pre, post, rfl, hg', h1, h2⟩ := U.split
    have F5 : Fr h₀ L h₅ m := ⟨ns_but F.ns (fun e => hm194.2.1 e.symm) keep, fun b o e => keep b o (fun q => by rw [q, hm194.2.2] at e; cases e) (F.keep b o e), F.above⟩
    have N5 : News h₀ L h₅ (g (tableObj ps')) := fun q hq => by
      rw [hg'] at hq
      rcases List.mem_append.mp hq with hq | hq
      · exact ⟨keep _ _ (h1 q hq) (N q (by simp [hq])).1, (N q (by simp [hq])).2⟩
      · rcases List.mem_cons.mp hq with rfl | hq
        · exact ⟨hk₅ _ _ htab₃, hm194.2⟩
        · exact ⟨keep _ _ (h2 q hq) (N q (by simp [hq])).1, (N q (by simp [hq])).2⟩
    have hpl := pass_list y.cps.toList pz
    have hyl : y.cps.toList.length = y.cps.size := by simp
    rw [hyl] at hpl
    have hlen : (passing (fun i => (y.cps.toList[i]?.map pz).getD false) y.cps.size 0).length = ((y.cps.toList.filter pz).map fun c => (⟨#[c]⟩ : Str)).length := by
      have := congrArg List.length hpl
      simpa using this
    rw [hlen] at WS
    refine hQ a _ ps' ht₃ F5 N5 (hb.push hgb) rfl ⟨_, _, _, _, _, WS, hat, (fun i s' st => st.1.typeIs), List.mem_cons_self, ?_, ?_, ?_⟩
    · intro b hb
      show b < h₅.objs.size
      rw [hsz₅]
      rcases List.mem_cons.mp hb with rfl | hb
      · exact Nat.lt_succ_self _
      · rcases List.mem_cons.mp hb with rfl | hb
        · exact Nat.lt_succ_of_lt hag
        · exact Nat.lt_succ_of_lt (Nat.lt_trans (List.mem_range.mp hb) hag)
    · intro b hb
      have hge : s₁.heap.objs.size ≤ b := by
        rcases List.mem_cons.mp hb with rfl | hb
        · exact Nat.le_of_lt hIlt
        · rw [List.mem_singleton.mp hb]; exact Nat.le_refl _
      refine ⟨?_, ?_, fun q hq e => ?_⟩
      · cases e : h₀.get? b with
        | none => rfl
        | some o => exact absurd (Heap.lt_size (F.keep _ _ e)) (Nat.not_lt.mpr hge)
      · intro e; exact absurd F.ns.lt (by rw [← e]; exact Nat.not_lt.mpr hge)
      · rw [hg'] at hq
        have : q.1 < s₁.heap.objs.size := by
          rcases List.mem_append.mp hq with hq | hq
          · exact Heap.lt_size (N q (by simp [hq])).1
          · rcases List.mem_cons.mp hq with rfl | hq
            · exact h194
            · exact Heap.lt_size (N q (by simp [hq])).1
        rw [e] at this
        exact absurd this (Nat.not_lt.mpr hge)
    · rintro j v ⟨i, hi, c, u, hc, rfl⟩
      refine ⟨u, ?_⟩
      have hq := congrArg (fun l => l[j]?) hpl
      simp only [List.getElem?_map, hi, Option.map_some] at hq
      have hc' : y.cps.toList[i]? = some c := by simpa using hc
      rw [hc'] at hq
      cases hz : (y.cps.toList.filter pz)[j]? with
      | none => rw [hz] at hq; cases hq
      | some c' =>
        rw [hz] at hq
        simp only [Option.map_some, Option.some.injEq] at hq
        simp [List.getD_eq_getElem?_getD, hz, hq]
/-- what stands behind the evaluation of enumerate(text) -/
def SrcEnum (w : World) (p : Program) (loose : List Str) (mg mb : Str → Option Value) (bm : Addr) (ob : Obj) (A : Around) (h₀ : Heap) (L : Addr) (y : Str) (pz : Nat → Bool) (hs : Heap) (Q : Value → Shared → Prop) (xv : Value) (s : Shared) : Prop :=
  ∃ e it t m led g ps, xv = .ref e ∧ IsEnum s.heap e it 0 .none ∧ s.heap.IsStrIter it (strIterType y) y t 0 ∧ e ≠ it ∧ hs.objs.size ≤ e ∧ hs.objs.size ≤ it ∧ (∀ b o, hs.get? b = some o → s.heap.get? b = some o) ∧ Env0 w p loose mg mb bm ob h₀ ∧ Fr h₀ L hs m ∧ News h₀ L hs led ∧ UpdF 194 (tableObj ps) led g ∧ TriplesOk ps.toList ∧ AllBare s.gens ∧
    ∀ a s₅ ps', TriplesOk ps'.toList → Fr h₀ L s₅.heap m → News h₀ L s₅.heap (g (tableObj ps')) → AllBare s₅.gens → s₅.os = s.os →
      GenIs w A h₀ L (g (tableObj ps')) a ((passing pz y.cps.size 0).map fun i => ⟨#[y.cps.toList.getD i 0]⟩) s₅ → Q (.ref a) s₅

theorem genEnum {w : World} {p : Program} {loose : List Str} {mg mb : Str → Option Value} {bm : Addr} {ob : Obj} {A : Around} {E : Value → Shared → Prop} {s : Shared} {h₀ : Heap} {L : Addr} {Q : Value → Shared → Prop}
    {env : Env} {elt iter : Expr} {xa xb : Str} {pa pb pt : Pos} {kt : Nat} {ifs : List Expr} {scope : Scope} {cl : List (Str × Addr)} {pos : Pos} (y : Str) (pz : Nat → Bool) (hs : Heap)
    (hcode : env.code = .ref 198) (hglob : env.globals = mainGlobals)
    (hh : A.handled = none) (hco : scope.isCoroutine = false) (hclos : closureFor scope env = pure cl) (hcell : ∀ y ∈ scope.names, y.2 ≠ .cell) (h0 : scope.names.lookup (".0" : Str) = some NameKind.local)
    (hxa : scope.names.lookup xa = some .local) (hxb : scope.names.lookup xb = some .local) (hab : xa ≠ xb) (hkind : scope.kind = .function) (hroom : A.depth < recursionLimit)
    (htest : ∀ (A' : Around) E' (i c : Nat) (tk u : Tok) (s₂ : Shared) m₂ C code, y.cps[i]? = some c → s₂.heap.Ns C m₂ → m₂ xa = some (.int i tk) → m₂ xb = some (.str ⟨#[c]⟩ u) →
      (∀ b o, b ≠ 194 → hs.get? b = some o → s₂.heap.get? b = some o) →
      wpAny (model prog w) A' (forIn ifs true fun c r => if r = true then do let ok ← isTrue c (genEnv scope cl C code builtinsNs env) (eval c (genEnv scope cl C code builtinsNs env)); pure (ForInStep.yield ok) else pure (ForInStep.yield r)) (fun ok s₃ => ok = pz i ∧ Keeps s₂ s₃) E' s₂)
    (helt : ∀ (A' : Around) E' (c : Nat) (u : Tok) (s₂ : Shared) m₂ C code, s₂.heap.Ns C m₂ → m₂ xb = some (.str ⟨#[c]⟩ u) →
      wpAny (model prog w) A' (eval elt (genEnv scope cl C code builtinsNs env)) (fun y s₃ => (∃ u, y = .str ⟨#[c]⟩ u) ∧ Keeps s₂ s₃) E' s₂)
    (h : wpAny (model prog w) A (eval iter env) (SrcEnum w p loose mg mb bm ob A h₀ L y pz hs Q) E s)
    (hs' : ∀ x, genFold iter env x = pure x) :
    wpAny (model prog w) A (eval (.GeneratorExp elt [⟨.Tuple [.Name xa pa, .Name xb pb] kt pt, iter, ifs, 0⟩] scope pos) env) Q E s := by
  refine wpAny_GeneratorExp_walksQTD hh hco hclos hcell h0 hxa hxb hab hkind hroom (wpAny_mono h (fun xv s₁ h₁ => ?_) fun _ _ e => e) hs'
  obtain ⟨e, it, t, m, led, g, ps, rfl, he, hit, hne', hee, hii, hkk, E0, F, N, U, ht, hb, hQ⟩ := h₁
  have hmem := UpdF.mem U
  have hm194 := N _ hmem
  have F1 : Fr h₀ L s₁.heap m := F.keeps hkk
  have X1 := E0.keeps F1.keep
  have htab1 : s₁.heap.get? 194 = some (tableObj ps) := hkk _ _ hm194.1
  have h194 : 194 < hs.objs.size := Heap.lt_size hm194.1
  have he194 : e ≠ 194 := Nat.ne_of_gt (Nat.lt_of_lt_of_le h194 hee)
  have hi194 : it ≠ 194 := Nat.ne_of_gt (Nat.lt_of_lt_of_le h194 hii)
  obtain ⟨Di, hD⟩ : ∃ St, (∀ A' : Around, A'.handled = none → Draws prog w A' it [it] y.cps.size (SignAt y) St) ∧ (∀ h : Heap, h.IsStrIter it (strIterType y) y t 0 → St 0 h) := by
    unfold strIterType
    by_cases ha : y.cps.all (· < 128) = true
    · refine ⟨_, fun A' hA => Draws.strAscii hA it y t, fun h x => ?_⟩
      simpa [ha] using x
    · refine ⟨_, fun A' hA => Draws.strWide hA it y t, fun h x => ?_⟩
      simpa [ha] using x
  have W : ∀ A' : Around, A'.handled = none → _ := fun A' hA => (WalksT.enumerateD (hD.1 A'.in1 hA) e hne' (by simpa using hne') (by simp)).toU
  refine (W A hh).self 0 _ _ _ ⟨⟨_, he⟩, hD.2 _ hit⟩ ?_
  refine ⟨X1.t.nolimit, genCode X1.k htab1 ht hcode fun code h₃ tk₃ ps' hz₃ hx₃ htab₃ ht₃ => ?_⟩
  have hne : bm ≠ 194 := tab_ne X1 ⟨ps, htab1, ht⟩
  have X3 : Env0 w p loose mg mb bm ob h₃ := X1.but hne fun b o n e => hx₃ b o n e
  rw [hglob]
  refine wpAny_builtinsFor X3.b.ns X3.b.name X3.b.ne X3.b.obj X3.b.cls X3.b.dict X3.b.data ?_
  have hst3 := (W A hh).frame 0 s₁.heap h₃ ⟨⟨_, he⟩, hD.2 _ hit⟩ fun b hb o x => by
    refine hx₃ _ _ (fun q => ?_) x
    rcases List.mem_cons.mp hb with h | h
    · exact he194 (h.symm.trans q)
    · exact hi194 ((List.mem_singleton.mp h).symm.trans q)
  have hcs : cStatics < hs.objs.size := Nat.lt_trans (show cStatics < 194 by decide) h194
  have hel : e < s₁.heap.objs.size := Heap.lt_size he
  have hil : it < s₁.heap.objs.size := by obtain ⟨_, x, _⟩ := hit; exact Heap.lt_size x
  refine ⟨e, e :: [it], [e, it], y.cps.size, _, _, _, pz, (fun i v => ∃ c u, y.cps[i]? = some c ∧ v = .str ⟨#[c]⟩ u), rfl, W, ?_, hst3, ?_, X3.t.nolimit, ?_, ?_, ?_⟩
  · rintro i vals ⟨t, x, _, rfl⟩; exact ⟨_, _, rfl⟩
  · intro b hb
    refine Nat.lt_of_lt_of_le ?_ hz₃
    rcases List.mem_cons.mp hb with rfl | hb
    · exact hel
    · rw [List.mem_singleton.mp hb]; exact hil
  · intro hm
    rcases List.mem_cons.mp hm with h | h
    · exact absurd (Nat.lt_of_lt_of_le hcs hee) (by rw [h]; exact Nat.lt_irrefl _)
    · exact absurd (Nat.lt_of_lt_of_le hcs hii) (by rw [List.mem_singleton.mp h]; exact Nat.lt_irrefl _)
  · intro href hhref
    have kp : ∀ s₂ : Shared, (∀ b ∈ List.range h₃.objs.size, b ∉ [e, it] → ∀ o, href.get? b = some o → s₂.heap.get? b = some o) → ∀ b o, b ≠ 194 → hs.get? b = some o → s₂.heap.get? b = some o := fun s₂ hk b o n x => by
      have x3 := hx₃ b o n (hkk _ _ x)
      refine hk b (List.mem_range.mpr (Heap.lt_size x3)) (fun hm => ?_) o (hhref _ _ x3)
      have hlt := Heap.lt_size x
      rcases List.mem_cons.mp hm with h | h
      · exact absurd hlt (by rw [h]; exact Nat.not_lt.mpr hee)
      · exact absurd hlt (by rw [List.mem_singleton.mp h]; exact Nat.not_lt.mpr hii)
    refine ⟨fun A' E' i va vb s₂ m₂ hA _ _ hP hn hma hmb hk => ?_, fun A' E' i va vb s₂ m₂ hA _ _ hP hp hn hma hmb hk => ?_⟩
    · obtain ⟨t', x, ⟨c, u, hc, rfl⟩, hv⟩ := hP
      injection hv with hv; injection hv with h1 h2; injection h2 with h2 _
      subst h1 h2
      exact htest A' E' i c t' u s₂ m₂ _ _ hc hn hma hmb (kp s₂ hk)
    · obtain ⟨t', x, ⟨c, u, hc, rfl⟩, hv⟩ := hP
      injection hv with hv; injection hv with h1 h2; injection h2 with h2 _
      subst h1 h2
      refine wpAny_mono (helt A' E' c u s₂ m₂ _ _ hn hmb) (fun r s₃ q => ⟨?_, q.2⟩) fun _ _ e => e
      obtain ⟨⟨u', rfl⟩, _⟩ := q
      exact ⟨c, u', hc, rfl⟩
  · intro a h₅ tk gs hgb hag hsz₅ hk₅ WS hat
    have keep : ∀ b o, b ≠ 194 → hs.get? b = some o → h₅.get? b = some o := fun b o n e => hk₅ _ _ (hx₃ b o n (hkk _ _ e))
    obtain ⟨pre, post, rfl, hg', h1, h2⟩ := U.split
    have F5 : Fr h₀ L h₅ m := ⟨ns_but F.ns (fun e => hm194.2.1 e.symm) keep, fun b o e => keep b o (fun q => by rw [q, hm194.2.2] at e; cases e) (F.keep b o e), F.above⟩
    have N5 : News h₀ L h₅ (g (tableObj ps')) := fun q hq => by
      rw [hg'] at hq
      rcases List.mem_append.mp hq with hq | hq
      · exact ⟨keep _ _ (h1 q hq) (N q (by simp [hq])).1, (N q (by simp [hq])).2⟩
      · rcases List.mem_cons.mp hq with rfl | hq
        · exact ⟨hk₅ _ _ htab₃, hm194.2⟩
        · exact ⟨keep _ _ (h2 q hq) (N q (by simp [hq])).1, (N q (by simp [hq])).2⟩
    have hlen : (passing pz y.cps.size 0).length = ((passing pz y.cps.size 0).map fun i => (⟨#[y.cps.toList.getD i 0]⟩ : Str)).length := by simp
    rw [hlen] at WS
    refine hQ a _ ps' ht₃ F5 N5 (hb.push hgb) rfl ⟨_, _, _, _, _, WS, hat, (fun i s' st => st.1.typeIs), List.mem_cons_self, ?_, ?_, ?_⟩
    · intro b hb
      show b < h₅.objs.size
      rw [hsz₅]
      rcases List.mem_cons.mp hb with rfl | hb
      · exact Nat.lt_succ_self _
      · rcases List.mem_cons.mp hb with rfl | hb
        · exact Nat.lt_succ_of_lt hag
        · exact Nat.lt_succ_of_lt (Nat.lt_trans (List.mem_range.mp hb) hag)
    · intro b hb
      have hge : hs.objs.size ≤ b := by
        rcases List.mem_cons.mp hb with rfl | hb
        · exact Nat.le_of_lt (Nat.lt_of_lt_of_le (Nat.lt_of_le_of_lt hee hel) hz₃)
        · rcases List.mem_cons.mp hb with rfl | hb
          · exact hee
          · rw [List.mem_singleton.mp hb]; exact hii
      refine ⟨?_, ?_, fun q hq e => ?_⟩
      · cases e : h₀.get? b with
        | none => rfl
        | some o => exact absurd (Heap.lt_size (F.keep _ _ e)) (Nat.not_lt.mpr hge)
      · intro e; exact absurd F.ns.lt (by rw [← e]; exact Nat.not_lt.mpr hge)
      · rw [hg'] at hq
        have : q.1 < hs.objs.size := by
          rcases List.mem_append.mp hq with hq | hq
          · exact Heap.lt_size (N q (by simp [hq])).1
          · rcases List.mem_cons.mp hq with rfl | hq
            · exact h194
            · exact Heap.lt_size (N q (by simp [hq])).1
        rw [e] at this
        exact absurd this (Nat.not_lt.mpr hge)
    · rintro j v ⟨i, hi, c, u, hc, rfl⟩
      refine ⟨u, ?_⟩
      simp [List.getD_eq_getElem?_getD, hi, hc]
end Mine
end

section
local macro_rules | `(tactic| walk_at "pad") => `(tactic| skip)
local macro_rules | `(tactic| walk_at "pad") => `(tactic| skip)
local macro_rules | `(tactic| walk_at "pad") => `(tactic| skip)
local macro_rules | `(tactic| walk_at "pad") => `(tactic| skip)
local macro_rules | `(tactic| walk_at "pad") => `(tactic| skip)
local macro_rules | `(tactic| walk_at "pad") => `(tactic| skip)
open PySem PySem.W PySem.W.X PyProof.Rows PySem.Calls PySem.Spec
set_option Elab.async false
set_option maxRecDepth 100000
set_option maxHeartbeats 8000000
namespace Mine
section
variable {w : World} {A : Around} {E : Value → Shared → Prop} {s : Shared} {cenv : Env} {m : Str → Option Value}

theorem item_list {y : Str} {j c : Nat} : ((Str.mk #[y.cps.getD j 0]) != Str.mk #[c]) = (y.cps.toList.getD j 0 != c) := by
  have e : y.cps.getD j 0 = y.cps.toList.getD j 0 := by simp [List.getD_eq_getElem?_getD, Array.getD_eq_getD_getElem?]
  rw [e]
  by_cases h : y.cps.toList.getD j 0 = c
  · rw [h]; simp
  · have : Str.mk #[y.cps.toList.getD j 0] ≠ Str.mk #[c] := fun q => h (by simpa using q)
    rw [bne_iff_ne.mpr this, bne_iff_ne.mpr h]

theorem one_test {cenv : Env} {c : Expr} {Q : Bool → Shared → Prop} (h : wpAny (model prog w) A (isTrue c cenv (eval c cenv)) Q E s) :
    wpAny (model prog w) A (forIn [c] true fun c r => if r = true then do let ok ← isTrue c cenv (eval c cenv); pure (ForInStep.yield ok) else pure (ForInStep.yield r)) Q E s := by
  rw [List.forIn_cons]
  simp only [if_true]
  refine wpAny_bind (wpAny_bind (wpAny_mono h (fun b s₁ h₁ => wpAny_pure ?_) fun _ _ e => e))
  show wpAny _ _ (pure b) Q E s₁
  exact wpAny_pure h₁

theorem name_l {x : Str} {pos : Pos} {v : Value} {Q : Value → Shared → Prop} (hk : cenv.scope.kind = .function) (hl : cenv.kindOf x = some .local) (hd : (x == ("__debug__" : Str)) = false) (hn : s.heap.Ns cenv.locals m) (hv : m x = some v) (h : Q v s) :
    wpAny (model prog w) A (eval (.Name x pos) cenv) Q E s := wpAny_Name (wpAny_loadName_local hk hl hn hv h) hd

theorem Keeps.toks' {s : Shared} (t : Nat) : Keeps s { s with toks := t } := ⟨s.heap, t, rfl, fun _ _ e => e⟩

theorem test_vow {x : Str} {p1 p2 p3 : Pos} {k : Nat} {c : Nat} {u : Tok} (hk : cenv.scope.kind = .function) (hl : cenv.kindOf x = some .local) (hd : (x == ("__debug__" : Str)) = false) (hn : s.heap.Ns cenv.locals m) (hv : m x = some (.str ⟨#[c]⟩ u)) :
    wpAny (model prog w) A (isTrue (.Compare (.Name x p1) [.NotIn] [.Constant (.str (Str.ofString "AEIOU")) k p2] p3) cenv (eval (.Compare (.Name x p1) [.NotIn] [.Constant (.str (Str.ofString "AEIOU")) k p2] p3) cenv)) (fun ok s₃ => ok = (!vow c) ∧ Keeps s s₃) E s := by
  refine wpAny_isTrue_Compare1 (name_l hk hl hd hn hv ?_)
  show wpAny _ _ (mkText _) _ _ _
  refine wpAny_mkText ?_
  refine notIn_str (wpAny_truthy_bool ⟨?_, _, _, rfl, fun _ _ e => e⟩)
  rw [vow_occ]
  cases vow c <;> rfl
theorem name_f {x : Str} {pos : Pos} {v : Value} {c : Addr} {Q : Value → Shared → Prop} (hk : cenv.scope.kind = .function) (hl : cenv.kindOf x = some .free) (hd : (x == ("__debug__" : Str)) = false) (hn : (x == ("__classdict__" : Str)) = false)
    (hc : cenv.cells.lookup x = some c) (hv : s.heap.IsCell c (some v)) (h : Q v s) : wpAny (model prog w) A (eval (.Name x pos) cenv) Q E s := wpAny_Name (wpAny_loadName_free hk hl hc hv h hn) hd

def IsCellAt (h : Heap) (c : Addr) (v : Value) : Prop := h.IsCell c (some v)

def TestIs (b : Bool) (s : Shared) (ok : Bool) (s₃ : Shared) : Prop := ok = b ∧ Keeps s s₃
theorem TestIs.intro {b ok : Bool} {s : Shared} {t : Nat} (h : ok = b) : TestIs b s ok { s with toks := t } := ⟨h, s.heap, t, rfl, fun _ _ e => e⟩
local macro_rules | `(tactic| walk_at "eval Name") => `(tactic| (refine' name_f ?a ?b ?c ?d ?e ?f ?_; (case a => assumption); (case b => assumption); (case c => decide); (case d => decide); (case e => assumption); (case f => assumption)))
local macro_rules | `(tactic| walk_at "eval Name") => `(tactic| (refine' name_l ?a ?b ?c ?d ?e ?_; (case a => assumption); (case b => assumption); (case c => decide); (case d => assumption); (case e => assumption)))
/-- the second generator's test, k == 0 or word[k - 1] != char -/
theorem test_dd {p0 p1 p2 p3 p4 p5 p6 p7 p8 p9 p10 : Pos} {y : Str} {ty tk u : Tok} {i c : Nat} {cl : Addr} (hk : cenv.scope.kind = .function) (hl1 : cenv.kindOf (Str.ofString "k") = some .local) (hl2 : cenv.kindOf (Str.ofString "char") = some .local)
    (hl3 : cenv.kindOf (Str.ofString "word") = some .free) (hc : cenv.cells.lookup (Str.ofString "word") = some cl)
    (hn : s.heap.Ns cenv.locals m) (hv1 : m (Str.ofString "k") = some (.int i tk)) (hv2 : m (Str.ofString "char") = some (.str ⟨#[c]⟩ u)) (hcell : s.heap.IsCell cl (some (.str y ty))) (hi : i < y.cps.size) (hsz : y.length ≤ 24) :
    wpAny (model prog w) A (isTrue
      (.BoolOp .Or [.Compare (.Name (Str.ofString "k") p1) [.Eq] [.Constant (.int 0) 0 p2] p3, .Compare (.Subscript (.Name (Str.ofString "word") p4) (.BinOp (.Name (Str.ofString "k") p5) .Sub (.Constant (.int 1) 0 p6) p7) p8) [.NotEq] [.Name (Str.ofString "char") p9] p10] p0) cenv
      (eval (.BoolOp .Or [.Compare (.Name (Str.ofString "k") p1) [.Eq] [.Constant (.int 0) 0 p2] p3, .Compare (.Subscript (.Name (Str.ofString "word") p4) (.BinOp (.Name (Str.ofString "k") p5) .Sub (.Constant (.int 1) 0 p6) p7) p8) [.NotEq] [.Name (Str.ofString "char") p9] p10] p0) cenv))
      (fun ok s₃ => ok = (i == 0 || y.cps.toList.getD (i - 1) 0 != c) ∧ Keeps s s₃) E s := by
  refine wpAny_mono (Q := TestIs (i == 0 || y.cps.toList.getD (i - 1) 0 != c) s) ?_ (fun _ _ e => e) fun _ _ e => e
  have hi' : (i : Int) < y.length := by show (i : Int) < y.cps.size; omega
  k_steps
  · have h0 : (i : Int) = 0 := by assumption
    refine .intro ?_
    have : i = 0 := by omega
    subst this; rfl
  · have h0 : ¬ (i : Int) = 0 := by assumption
    refine .intro ?_
    have hne : (Txt.item y ((i : Int) - 1) != Str.mk #[c]) = true := by assumption
    rw [item_meets ⟨by omega, by omega⟩] at hne
    have e : ((i : Int) - 1).toNat = i - 1 := by omega
    rw [e, item_list] at hne
    simp only [beq_eq_false_iff_ne.mpr (show i ≠ 0 by omega), Bool.false_or]
    rw [hne]
  · have h0 : ¬ (i : Int) = 0 := by assumption
    refine .intro ?_
    have hne : (Txt.item y ((i : Int) - 1) != Str.mk #[c]) = false := by assumption
    rw [item_meets ⟨by omega, by omega⟩] at hne
    have e : ((i : Int) - 1).toNat = i - 1 := by omega
    rw [e, item_list] at hne
    simp only [beq_eq_false_iff_ne.mpr (show i ≠ 0 by omega), Bool.false_or]
    rw [hne]
end
end Mine
end

section
open PySem PySem.W PySem.W.X PyProof.Rows PySem.Calls PySem.Spec
set_option Elab.async false
set_option maxRecDepth 100000
set_option maxHeartbeats 8000000
set_option pp.deepTerms false
set_option pp.deepTerms.threshold 6
set_option pp.structureInstances false
set_option linter.all false
namespace Mine
open PyProof.Rows.LCg (NsObj lst lst_snoc ns_obj)
section
variable {w : World} {A : Around} {E : Value → Shared → Prop} {s : Shared} {cenv : Env} {m : Str → Option Value}
theorem name_c {x : Str} {pos : Pos} {v : Value} {c : Addr} {Q : Value → Shared → Prop} (hk : cenv.scope.kind = .function) (hl : cenv.kindOf x = some .cell) (hd : (x == ("__debug__" : Str)) = false)
    (hc : cenv.cells.lookup x = some c) (hv : s.heap.IsCell c (some v)) (h : Q v s) : wpAny (model prog w) A (eval (.Name x pos) cenv) Q E s := wpAny_Name (wpAny_loadName_cell hk hl hc hv h) hd
theorem item_one {x : Str} {i : Nat} (hi : i < x.length) : Txt.item x (i : Int) = ⟨#[x.cps.toList.getD i 0]⟩ := by
  rw [item_meets ⟨by omega, by omega⟩]
  simp [item_list]
theorem ne_one (a b : Nat) : ((⟨#[a]⟩ : Str) != ⟨#[b]⟩) = (a != b) := by
  rw [Bool.eq_iff_iff, bne_iff_ne, bne_iff_ne]
  constructor
  · intro h e; exact h (by rw [e])
  · intro h e; exact h (by simpa using e)
theorem item0_list {l : Addr} {vs : List Value} {v : Value} {value slice : PySem.Expr} {u : Tok} {Q : Value → Shared → Prop} (hl : s.heap.IsList l vs.toArray) (hx : vs[0]? = some v) (h : Q v s)
    (hs : subscripted slice false (.ref l) (.int 0 u) = operate [.ref l, .int 0 u] (getItem (.ref l) (.int 0 u)) := by with_unfolding_all rfl) :
    wpAny (model prog w) A (subscriptTail value slice (.ref l) (.int 0 u)) Q E s :=
  tail_any hl.typeIs slot_list_getitem.lookup (wpAny_getItem_list hl (by decide) (by decide) (by simpa using hx) h) hs
local macro_rules | `(tactic| walk_at "eval Name") => `(tactic| (refine' name_c ?a ?b ?c ?e ?f ?_; (case a => assumption); (case b => assumption); (case c => decide); (case e => assumption); (case f => assumption)))
local macro_rules | `(tactic| walk_at "eval Name") => `(tactic| (refine' name_l ?a ?b ?c ?d ?e ?_; (case a => assumption); (case b => assumption); (case c => decide); (case d => assumption); (case e => assumption)))
local macro_rules | `(tactic| walk_at "subscriptTail") => `(tactic| ((with_reducible show wpAny _ _ (subscriptTail _ _ (Value.ref _) (Value.int _ _)) _ _ _); (with_unfolding_all refine' item0_list ?k1 ?k4 ?_ ?k6; (case k1 => assumption); (case k4 => assumption); (case k6 => with_unfolding_all rfl))))
local macro_rules | `(tactic| walk_at "subscriptTail") => `(tactic| ((with_reducible show wpAny _ _ (subscriptTail _ _ (Value.str _ _) (Value.int _ _)) _ _ _); (refine item_str (fitsSsize_of (N := 9223372036854775808) (by omega) (by omega) (Int.le_refl _)) (by omega) (by omega) ?_; intro _)))
/-- the inner test, code[k] != codes[0][k] -/
theorem test_ne {p1 p2 p3 p4 p5 p6 p7 p8 p9 p10 : Pos} {x y : Str} {tx ty tk : Tok} {i : Nat} {c1 c2 b : Addr} {vb : List Value} (hk : cenv.scope.kind = .function) (hl1 : cenv.kindOf (Str.ofString "code") = some .local) (hl2 : cenv.kindOf (Str.ofString "codes") = some .cell)
    (hl3 : cenv.kindOf (Str.ofString "k") = some .cell) (hc1 : cenv.cells.lookup (Str.ofString "codes") = some c1) (hc2 : cenv.cells.lookup (Str.ofString "k") = some c2)
    (hn : s.heap.Ns cenv.locals m) (hv1 : m (Str.ofString "code") = some (.str x tx)) (hx1 : s.heap.IsCell c1 (some (.ref b))) (hx2 : s.heap.IsCell c2 (some (.int i tk))) (hb : s.heap.IsList b vb.toArray) (h0 : vb[0]? = some (.str y ty))
    (hix : i < x.length) (hiy : i < y.length) (hxs : x.length ≤ 24) (hys : y.length ≤ 24) :
    wpAny (model prog w) A (isTrue
      (.Compare (.Subscript (.Name (Str.ofString "code") p1) (.Name (Str.ofString "k") p2) p3) [.NotEq] [.Subscript (.Subscript (.Name (Str.ofString "codes") p4) (.Constant (.int 0) 0 p5) p6) (.Name (Str.ofString "k") p7) p8] p9) cenv
      (eval (.Compare (.Subscript (.Name (Str.ofString "code") p1) (.Name (Str.ofString "k") p2) p3) [.NotEq] [.Subscript (.Subscript (.Name (Str.ofString "codes") p4) (.Constant (.int 0) 0 p5) p6) (.Name (Str.ofString "k") p7) p8] p9) cenv))
      (fun ok s₃ => ok = (x.cps.toList.getD i 0 != y.cps.toList.getD i 0) ∧ Keeps s s₃) E s := by
  refine wpAny_mono (Q := TestIs (x.cps.toList.getD i 0 != y.cps.toList.getD i 0) s) ?_ (fun _ _ e => e) fun _ _ e => e
  have hix' : (i : Int) < x.length := by omega
  have hiy' : (i : Int) < y.length := by omega
  k_steps
  exact .intro (by rw [item_one hix, item_one hiy, ne_one])
end
end Mine
end

section
open PySem PySem.W PySem.W.X PyProof.Rows PySem.Calls PySem.Spec
set_option Elab.async false
set_option maxRecDepth 100000
set_option maxHeartbeats 8000000
set_option pp.deepTerms false
set_option pp.deepTerms.threshold 6
set_option pp.structureInstances false
set_option linter.all false
namespace Mine
open PyProof.Rows.LCg (NsObj lst lst_snoc ns_obj)
theorem paired_len {p : Value → Bool} {vs ys : List Value} {F : Value → Value → Prop} (h : Paired F (vs.filter p) ys) : ys.length = (vs.filter p).length := h.length.symm
def pNe (i c : Nat) (v : Value) : Bool := match v with | .str x _ => x.cps.toList.getD i 0 != c | _ => false
theorem filter_ne {vb : List Value} {cs : List Str} (h : StrsAre vb cs) (i c : Nat) : (vb.filter (pNe i c)).length = 0 ↔ (cs.all fun x => x.cps.toList.getD i 0 == c) = true := by
  induction h with
  | nil => simp
  | cons y t _ ih =>
    rw [List.filter_cons, List.all_cons, Bool.and_eq_true, ← ih]
    have e : pNe i c (.str y t) = (y.cps.toList.getD i 0 != c) := rfl
    rw [e]
    by_cases hc : y.cps.toList.getD i 0 = c
    · rw [hc]; simp
    · rw [bne_iff_ne.mpr hc, if_pos rfl]
      have hb : (y.cps.toList.getD i 0 == c) = false := beq_eq_false_iff_ne.mpr hc
      rw [hb]
      simp
section
variable {w : World} {A : Around} {E : Value → Shared → Prop} {s : Shared} {env : Env} {m : Str → Option Value}
theorem Keeps.refl' (s : Shared) : Keeps s s := ⟨s.heap, s.toks, rfl, fun _ _ e => e⟩
theorem list_eq_of {vs : List Value} {its : List Value} (h1 : vs.length = its.length) (h2 : ∀ (j : Nat) (v : Value), vs[j]? = some v → its[j]? = some v) : vs = its := by
  apply List.ext_getElem h1
  intro i a b
  have := h2 i vs[i] (by simp [a])
  simpa [b] using this.symm
theorem inner_comp {scope : Scope} {cl : List (Str × Addr)} {p0 p1 p2 q1 q2 q3 q4 q5 q6 q7 q8 q9 pos : Pos} {cs : List Str} {y : Str} {tk : Tok} {i : Nat} {c1 c2 b : Addr} {vb : List Value}
    (hclos : closureFor scope env = pure cl) (hcell : ∀ z ∈ scope.names, z.2 ≠ .cell) (hkind : scope.kind = .function) (hnames : ∀ z ∈ scope.names, z.2 = .local → scope.names.lookup z.1 = some .local) (hx : scope.names.lookup (Str.ofString "code") = some .local)
    (hk2 : ∀ C, (compEnvC scope cl C env).kindOf (Str.ofString "codes") = some .cell) (hk3 : ∀ C, (compEnvC scope cl C env).kindOf (Str.ofString "k") = some .cell)
    (hc1 : cl.lookup (Str.ofString "codes") = some c1) (hc2 : cl.lookup (Str.ofString "k") = some c2)
    (ek : env.scope.kind = .function) (e2 : env.kindOf (Str.ofString "codes") = some .cell) (ec1 : env.cells.lookup (Str.ofString "codes") = some c1)
    (hh : A.handled = none) (hx1 : s.heap.IsCell c1 (some (.ref b))) (hx2 : s.heap.IsCell c2 (some (.int i tk))) (hb : s.heap.IsList b vb.toArray) (hi : StrsAre vb cs) (h4 : cs.length ≤ 4) (h0 : cs.headD Str.empty = y) (hlen : ∀ x ∈ cs, i < x.length ∧ x.length ≤ 24)
    (hs : ∀ x, foldedSetIterable (.Name (Str.ofString "codes") p2) env x = pure x) :
    wpAny (model prog w) A (eval (.ListComp (.Name (Str.ofString "code") p0) [⟨.Name (Str.ofString "code") p1, .Name (Str.ofString "codes") p2,
      [.Compare (.Subscript (.Name (Str.ofString "code") q1) (.Name (Str.ofString "k") q2) q3) [.NotEq] [.Subscript (.Subscript (.Name (Str.ofString "codes") q4) (.Constant (.int 0) 0 q5) q6) (.Name (Str.ofString "k") q7) q8] q9], 0⟩] scope pos) env)
      (fun v s' => ∃ D ys, v = .ref D ∧ s'.heap.IsList D ys ∧ (ys.size = 0 ↔ (cs.all fun x => x.cps.toList.getD i 0 == y.cps.toList.getD i 0) = true) ∧ Keeps s s') E s := by
  refine wpAny_ListComp_free (pNe i (y.cps.toList.getD i 0)) (fun _ _ => True) hclos hcell hkind hnames hx ?_ hs
  refine name_c ek e2 (by decide) ec1 hx1 ?_
  refine wpAny_pyIter_list hb ?_
  have hlt : b < s.heap.objs.size := by obtain ⟨_, e, _⟩ := hb; exact Heap.lt_size e
  have hvl : vb.length = cs.length := StrsAre.length hi
  have up : ∀ a o, s.heap.get? a = some o → (s.heap.push { cls := .type "list_iterator", data := .fields #[.ref b, .int 0 0] }).get? a = some o := fun a o e => Heap.get?_push_of_some _ e
  refine ⟨s.heap.objs.size, _, _, _, _, _, rfl, Walks.list hh s.heap.objs.size b (Nat.ne_of_lt hlt) vb.toArray, ?_, ⟨⟨_, Heap.get?_push_size _ rfl, rfl, rfl⟩, hb.push _⟩, ?_, ⟨?_, ?_⟩, ?_⟩
  · rw [sizeLine_eq]; simp; omega
  · intro c hc
    show c < (s.heap.push _).objs.size
    rw [Heap.size_push]
    rcases List.mem_cons.mp hc with rfl | hc
    · exact Nat.lt_succ_self _
    · rw [List.mem_singleton.mp hc]; exact Nat.lt_succ_of_lt hlt
  · intro C j v s₃ m₃ E' hC hv hn hm hk htk
    refine one_test ?_
    have hv' : vb[j]? = some v := by simpa using hv
    obtain ⟨t, rfl⟩ := strs_at hi j v hv'
    have hjl : j < cs.length := by
      rcases Nat.lt_or_ge j vb.length with h | h
      · omega
      · rw [List.getElem?_eq_none h] at hv'; cases hv'
    have hmem : cs.getD j Str.empty ∈ cs := by rw [List.getD_eq_getElem?_getD, List.getElem?_eq_getElem hjl]; exact List.getElem_mem hjl
    have hk' : ∀ a o, s.heap.get? a = some o → s₃.heap.get? a = some o := fun a o e => hk a o (by simpa using Nat.ne_of_lt (Heap.lt_size e)) (up a o e)
    obtain ⟨v0, hv0⟩ : ∃ v0, vb[0]? = some v0 := ⟨_, List.getElem?_eq_getElem (by omega : 0 < vb.length)⟩
    obtain ⟨t0, rfl⟩ := strs_at hi 0 v0 hv0
    have e0 : cs.getD 0 Str.empty = y := by rw [← h0]; cases cs <;> rfl
    have hym : y ∈ cs := by rw [← e0, List.getD_eq_getElem?_getD, List.getElem?_eq_getElem (by omega : 0 < cs.length)]; exact List.getElem_mem _
    rw [e0] at hv0
    refine wpAny_mono (test_ne (p10 := pos) (cenv := compEnvC scope cl C env) (by exact hkind) (lookup_relabel_local hx) (hk2 C) (hk3 C) hc1 hc2 hn hm (hx1.keeps hk') (hx2.keeps hk') (hb.at fun o e => hk' _ o e) hv0 (hlen _ hmem).1 (hlen _ hym).1 (hlen _ hmem).2 (hlen _ hym).2) (fun ok s₄ h => ?_) fun _ _ e => e
    exact ⟨h.1, h.2⟩
  · intro C j v s₃ m₃ E' hC hv hp hn hm hk htk
    exact name_l (cenv := compEnvC scope cl C env) (by exact hkind) (lookup_relabel_local hx) (by decide) hn hm ⟨trivial, Keeps.refl' _⟩
  · intro D h' tk' ys vs hD hl _ hvs hP hF hk
    have e : vs = vb := list_eq_of (by simpa using hvs) fun j v hv => by simpa using hP j v hv
    subst e
    refine ⟨D, ys, rfl, hl, ?_, h', tk', rfl, fun a o e => hk a o (by simpa using Nat.ne_of_lt (Heap.lt_size e)) (up a o e)⟩
    have := paired_len hF
    rw [← filter_ne hi, ← this]
    simp
/-- the outer test: no code differs at place k -/
theorem outer_test {scope : Scope} {cl : List (Str × Addr)} {p0 p1 p2 q1 q2 q3 q4 q5 q6 q7 q8 q9 pos r1 r2 : Pos} {cs : List Str} {y : Str} {tk : Tok} {i : Nat} {c1 c2 b : Addr} {vb : List Value} {whole : Sem Value}
    (hclos : closureFor scope env = pure cl) (hcell : ∀ z ∈ scope.names, z.2 ≠ .cell) (hkind : scope.kind = .function) (hnames : ∀ z ∈ scope.names, z.2 = .local → scope.names.lookup z.1 = some .local) (hx : scope.names.lookup (Str.ofString "code") = some .local)
    (hk2 : ∀ C, (compEnvC scope cl C env).kindOf (Str.ofString "codes") = some .cell) (hk3 : ∀ C, (compEnvC scope cl C env).kindOf (Str.ofString "k") = some .cell)
    (hc1 : cl.lookup (Str.ofString "codes") = some c1) (hc2 : cl.lookup (Str.ofString "k") = some c2)
    (ek : env.scope.kind = .function) (e2 : env.kindOf (Str.ofString "codes") = some .cell) (ec1 : env.cells.lookup (Str.ofString "codes") = some c1)
    (hh : A.handled = none) (hu : A.units < cLine) (hx1 : s.heap.IsCell c1 (some (.ref b))) (hx2 : s.heap.IsCell c2 (some (.int i tk))) (hb : s.heap.IsList b vb.toArray) (hi : StrsAre vb cs) (h4 : cs.length ≤ 4) (h0 : cs.headD Str.empty = y) (hlen : ∀ x ∈ cs, i < x.length ∧ x.length ≤ 24)
    (hs : ∀ x, foldedSetIterable (.Name (Str.ofString "codes") p2) env x = pure x) :
    wpAny (model prog w) A (isTrue (.Compare (.ListComp (.Name (Str.ofString "code") p0) [⟨.Name (Str.ofString "code") p1, .Name (Str.ofString "codes") p2,
      [.Compare (.Subscript (.Name (Str.ofString "code") q1) (.Name (Str.ofString "k") q2) q3) [.NotEq] [.Subscript (.Subscript (.Name (Str.ofString "codes") q4) (.Constant (.int 0) 0 q5) q6) (.Name (Str.ofString "k") q7) q8] q9], 0⟩] scope pos) [.Eq] [.List [] r1] r2) env whole)
      (fun ok s' => ok = (cs.all fun x => x.cps.toList.getD i 0 == y.cps.toList.getD i 0) ∧ Keeps s s') E s := by
  refine wpAny_isTrue_Compare1 (wpAny_mono (inner_comp hclos hcell hkind hnames hx hk2 hk3 hc1 hc2 ek e2 ec1 hh hx1 hx2 hb hi h4 h0 hlen hs) (fun v s₁ h₁ => ?_) fun _ _ e => e)
  obtain ⟨D, ys, rfl, hl, hz, h', tk', rfl, hk⟩ := h₁
  refine wpAny_List (spliced_nil ⟨by decide, ?_⟩)
  have hl' : (h'.push ({ cls := .type "list", data := .seq ([] : List Value).toArray } : Obj)).IsList D ys := hl.push _
  have hl2 : (h'.push ({ cls := .type "list", data := .seq ([] : List Value).toArray } : Obj)).IsList h'.objs.size #[] := ⟨_, Heap.get?_push_size _ rfl, rfl, _, rfl⟩
  have keep : ∀ a o, s.heap.get? a = some o → (h'.push ({ cls := .type "list", data := .seq ([] : List Value).toArray } : Obj)).get? a = some o := fun a o e => Heap.get?_push_of_some _ (hk a o e)
  by_cases he : ys.size = 0
  · refine PySem.SeqAt.eq_listAt (e := fun _ => true) hl' hl2 (by simpa using he) hu (fun j h1 h2 => absurd h2 (by simp)) (wpAny_truthy_bool ⟨?_, _, _, rfl, keep⟩)
    rw [hz.mp he, he]; rfl
  · refine PySem.SeqAt.eq_list_lengthsAt hl' hl2 (by simpa using he) hu (wpAny_truthy_bool ⟨?_, _, _, rfl, keep⟩)
    cases hc : (cs.all fun x => x.cps.toList.getD i 0 == y.cps.toList.getD i 0)
    · rfl
    · exact absurd (hz.mpr hc) he
end
end Mine
end

section
open PySem PySem.W PySem.W.X PyProof.Rows PySem.Calls PySem.Spec
set_option Elab.async false
set_option maxRecDepth 100000
set_option maxHeartbeats 8000000
set_option pp.deepTerms false
set_option pp.deepTerms.threshold 6
set_option pp.structureInstances false
set_option linter.all false
namespace Mine
open PyProof.Rows.LCg (NsObj lst lst_snoc ns_obj)
abbrev cellO (v : Option Value) : Obj := { cls := .type "cell", data := .cell v }
section
variable {prog : Program} {w : World} {A : Around} {E : Value → Shared → Prop} {s : Shared} {h₀ : Heap} {L : Addr} {m : Str → Option Value} {env : Env} {os₀ : OsState} {led : Led}
/-- a comprehension's frame with one cell of its own -/
theorem newEnv_cell {M : Model} {scope : Scope} {globals : Addr} {cl : List (Str × Addr)} {qual : Str} {x : Str} {Q : Env → Shared → Prop}
    (hcells : ∀ b acc, cellsFrom b scope.names acc = (x, b) :: acc) (hpush : ∀ h, pushCells h scope.names = h.push (cellO none))
    (hQ : Q (newEnv scope s.heap.objs.size globals ((x, s.heap.objs.size + 1) :: cl) qual none .none (some env) builtinsNs) { s with heap := (s.heap.push { cls := .type "dict", data := .dict #[] }).push (cellO none) }) :
    wpAny M A (newFunctionEnv scope globals cl [] qual none .none (some env)) Q E s := by
  simp only [newFunctionEnv, Option.isSome_some, if_true]
  refine wpAny_bind (wpAny_alloc ?_)
  refine wpAny_bind (wpAny_layCells _ (fun name kind cells => by cases hkc : kind == NameKind.cell <;> simp [hkc]) _ _ _ _ ?_)
  rw [hcells, hpush]
  rw [show ({ s with heap := s.heap.push { cls := .type "dict", data := .dict #[] } } : Shared).heap.objs.size = s.heap.objs.size + 1 from Heap.size_push ..]
  refine wpAny_bind ?_
  rw [List.forIn_nil]
  exact wpAny_pure (wpAny_pure hQ)

theorem range_filter_succ (n : Nat) (p : Nat → Bool) : ((List.range (n + 1)).filter p).length = ((List.range n).filter p).length + (if p n then 1 else 0) := by
  rw [List.range_succ, List.filter_append, List.length_append]
  congr 1
  cases h : p n <;> simp [List.filter_cons, h]

theorem nsObj_empty (h : Heap) : NsObj ({ cls := .type "dict", data := .dict #[] } : Obj) (fun _ => none) := by
  obtain ⟨o, es, ep, ho, hd, h1, h2⟩ := Heap.Ns.new h (.type "dict")
  have e : (h.push ({ cls := .type "dict", data := .dict #[] } : Obj)).get? h.objs.size = some ({ cls := .type "dict", data := .dict #[] } : Obj) := Heap.get?_push_size _ rfl
  have e' : some o = some ({ cls := .type "dict", data := .dict #[] } : Obj) := ho.symm.trans e
  cases e'
  exact ⟨es, ep, hd, h1, h2⟩
/-- [x for x in FEED if TEST], x a cell -/
theorem comp_cellT {ct iter : Expr} {x : Str} {px px' : Pos} {scope : Scope} {cl : List (Str × Addr)} {pos : Pos} {Q : Value → Shared → Prop}
    (hclos : closureFor scope env = pure cl) (hkind : scope.kind = .function) (hnames : ∀ y ∈ scope.names, y.2 = .local → scope.names.lookup y.1 = some .local)
    (hcells : ∀ b acc, cellsFrom b scope.names acc = (x, b) :: acc) (hpush : ∀ h, pushCells h scope.names = h.push (cellO none))
    (hkx : (relabel scope env).names.lookup x = some .cell) (hd : (x == ("__debug__" : Str)) = false)
    (h : wpAny (model prog w) A (eval iter env) (fun xv s₁ => wpAny (model prog w) A (pyIter xv) (fun it s₂ => ∃ I n P O S st₀ led₀ os₀ tst, it = .ref I ∧ Feed prog w A h₀ L I n P O S ∧ n ≤ sizeLine ∧ OK h₀ L m (st₀ ++ led₀) os₀ s₂ ∧ O 0 st₀ ∧ S led₀ ∧ Ap st₀ led₀ ∧
      (∀ i v ex, P i v ex → ex = []) ∧
      (∀ i v led C Kc oK s (E' : Value → Shared → Prop), i < n → P i v [] → oK.data = .cell (some v) → OK h₀ L m ((Kc, oK) :: led) os₀ s → (∀ q ∈ led₀, q ∈ led) →
        wpAny (model prog w) A (isTrue ct (compEnvC scope ((x, Kc) :: cl) C env) (eval ct (compEnvC scope ((x, Kc) :: cl) C env))) (fun b s' => b = tst i ∧ OK h₀ L m ((Kc, oK) :: led) os₀ s') E' s) ∧
      (∀ D ys s', ys.length = ((List.range n).filter tst).length → OK h₀ L m ((D, lst ys) :: led₀) os₀ s' → (∀ q ∈ led₀, q.1 ≠ D) → Q (.ref D) s')) E s₁) E s)
    (hs : ∀ x, foldedSetIterable iter env x = pure x) :
    wpAny (model prog w) A (eval (.ListComp (.Name x px') [⟨.Name x px, iter, [ct], 0⟩] scope pos) env) Q E s := by
  rw [eval_ListComp]
  refine wpAny_comprehension_free (use := none) rfl hs hclos hkind hnames (wpAny_mono h (fun xv s₁ h₁ => wpAny_mono h₁ (fun it s₂ h₂ => ?_) fun _ _ e => e) fun _ _ e => e)
  obtain ⟨I, n, P, O, S, st₀, led₀, os₀, tst, rfl, FD, hsz, k, hO, hS, hap, hex, test, fin⟩ := h₂
  refine wpAny_newObj_type (newEnv_cell hcells hpush ?_)
  have k1 := k.push (o := ({ cls := .type "list", dict := none, data := .seq ([] : List Value).toArray } : Obj)) rfl
  have hlt0 : ∀ q ∈ st₀ ++ led₀, q.1 < s₂.heap.objs.size := fun q hq => k.lt hq
  dsimp only
  generalize hD : s₂.heap.objs.size = D at k1 hlt0 ⊢
  generalize hH1 : s₂.heap.push { cls := .type "list", dict := none, data := .seq ([] : List Value).toArray } = H1 at k1 ⊢
  have hC1 : H1.objs.size = D + 1 := by rw [← hH1, Heap.size_push, hD]
  have k2 := k1.push (o := ({ cls := .type "dict", data := .dict #[] } : Obj)) rfl
  have k3 := k2.push (o := cellO none) rfl
  have hK1 : (H1.push ({ cls := .type "dict", data := .dict #[] } : Obj)).objs.size = D + 1 + 1 := by rw [Heap.size_push, hC1]
  dsimp only at k3
  rw [hK1, hC1] at k3
  rw [hC1]
  have hN := k3.N
  have nK := (hN _ List.mem_cons_self).2
  have nC := (hN _ (List.mem_cons_of_mem _ List.mem_cons_self)).2
  have nD := (hN _ (List.mem_cons_of_mem _ (List.mem_cons_of_mem _ List.mem_cons_self))).2
  dsimp only at nK nC nD
  have hled : ∀ q ∈ led₀, q.1 < D := fun q hq => hlt0 q (List.mem_append_right _ hq)
  have offD : ∀ q ∈ led₀, q.1 ≠ D := fun q hq => Nat.ne_of_lt (hled q hq)
  have offC : ∀ q ∈ led₀, q.1 ≠ D + 1 := fun q hq => Nat.ne_of_lt (Nat.lt_succ_of_lt (hled q hq))
  have offK : ∀ q ∈ led₀, q.1 ≠ D + 1 + 1 := fun q hq => Nat.ne_of_lt (Nat.lt_succ_of_lt (Nat.lt_succ_of_lt (hled q hq)))
  have hCK : D + 1 ≠ D + 1 + 1 := Nat.ne_of_lt (Nat.lt_succ_self _)
  have hDK : D ≠ D + 1 + 1 := Nat.ne_of_lt (Nat.lt_succ_of_lt (Nat.lt_succ_self _))
  have hDC : D ≠ D + 1 := Nat.ne_of_lt (Nat.lt_succ_self _)
  have loop : ∀ s₃ : Shared, OK h₀ L m (st₀ ++ ((D + 1 + 1, cellO none) :: (D + 1, ({ cls := .type "dict", data := .dict #[] } : Obj)) :: (D, lst []) :: led₀)) os₀ s₃ →
      codeAny (model prog w) A (.compLoop (.ListComp (.Name x px') [⟨.Name x px, iter, [ct], 0⟩] scope pos) 0 (.ref I) (.ref D) (compEnvC scope ((x, D + 1 + 1) :: cl) (D + 1) env))
        (compPost (model prog w) A E none Q (.ref D) (D + 1)) s₃ := by
    intro s₃ kk
    refine codeAny_compLoop_tests (fun c s' => ∃ i st ys oK vK, i ≤ n ∧ c = n + 1 - i ∧ O i st ∧ oK.data = .cell vK ∧ Ap st ((D + 1 + 1, oK) :: (D + 1, ({ cls := .type "dict", data := .dict #[] } : Obj)) :: (D, lst ys) :: led₀) ∧
      OK h₀ L m (st ++ ((D + 1 + 1, oK) :: (D + 1, ({ cls := .type "dict", data := .dict #[] } : Obj)) :: (D, lst ys) :: led₀)) os₀ s' ∧ ys.length = ((List.range i).filter tst).length) ?_ (n + 1)
      ⟨0, st₀, [], cellO none, none, Nat.zero_le _, rfl, hO, rfl, ?_, kk, rfl⟩
    · rintro c s' ⟨i, st, ys, oK, vK, hi, rfl, hO, hoK, ap, kq, hyl⟩
      have hS' : S ((D + 1 + 1, oK) :: (D + 1, ({ cls := .type "dict", data := .dict #[] } : Obj)) :: (D, lst ys) :: led₀) := FD.mono _ _ (fun q hq => by simp [hq]) hS
      by_cases hlt : i < n
      · refine FD.next i st _ m os₀ s' _ _ hlt hS' hO kq ap fun v ex st' h' tk hP hO' hst k' hexn hk => ?_
        obtain rfl := hex _ _ _ hP
        have hstm : ∀ p ∈ st', ∃ q ∈ st, q.1 = p.1 := fun p hp => by
          have := List.mem_map_of_mem (f := (·.1)) hp
          rw [hst] at this
          obtain ⟨q, hq, e⟩ := List.mem_map.mp this
          exact ⟨q, hq, e⟩
        rw [List.nil_append] at k'
        have kK := k'.N (D + 1 + 1, oK) (List.mem_append_right _ List.mem_cons_self)
        refine wpAny_assign_Name (wpAny_storeName_cell (c := D + 1 + 1) (v₀ := vK) (by simp [compEnvC, relabel, hkind]) hkx (by simp [compEnvC]) ⟨oK, kK.1, hoK⟩ fun h₃ hc₃ hs₃ => ?_)
        obtain ⟨oK', ho', hd'⟩ := hc₃
        have apK : ∀ q ∈ st' ++ ((D + 1, ({ cls := .type "dict", data := .dict #[] } : Obj)) :: (D, lst ys) :: led₀), q.1 ≠ D + 1 + 1 := fun q hq => by
          rcases List.mem_append.mp hq with h | h
          · obtain ⟨p, hp, e⟩ := hstm q h
            rw [← e]; exact Ne.symm (ap p hp (D + 1 + 1, oK) List.mem_cons_self)
          · rcases List.mem_cons.mp h with rfl | h
            · exact hCK
            · rcases List.mem_cons.mp h with rfl | h
              · exact hDK
              · exact offK q h
        have k4 : ∀ tk', OK h₀ L m ((D + 1 + 1, oK') :: (st' ++ ((D + 1, ({ cls := .type "dict", data := .dict #[] } : Obj)) :: (D, lst ys) :: led₀))) os₀ { s' with heap := h₃, toks := tk' } := fun tk' =>
          (k'.weak (led' := st' ++ ((D + 1, ({ cls := .type "dict", data := .dict #[] } : Obj)) :: (D, lst ys) :: led₀)) fun q hq => by
            rcases List.mem_append.mp hq with h | h
            · simp [h]
            · exact List.mem_append_right _ (List.mem_cons_of_mem _ h)).change hs₃ ho' nK.1 nK.2 apK
        refine wpAny_tests_one (wpAny_mono (test i v _ (D + 1) (D + 1 + 1) oK' _ _ hlt hP hd' (k4 _) fun q hq => by simp [hq]) (fun b s₄ h₄ => ?_) fun _ _ e => e)
        obtain ⟨rfl, k5⟩ := h₄
        have ap' : ∀ (oK'' : Obj) ys', Ap st' ((D + 1 + 1, oK'') :: (D + 1, ({ cls := .type "dict", data := .dict #[] } : Obj)) :: (D, lst ys') :: led₀) := fun oK'' ys' p hp q hq => by
          obtain ⟨p', hp', e⟩ := hstm p hp
          rw [← e]
          rcases List.mem_cons.mp hq with rfl | hq
          · exact ap p' hp' (D + 1 + 1, oK) (by simp)
          · rcases List.mem_cons.mp hq with rfl | hq
            · exact ap p' hp' _ (List.mem_cons_of_mem _ List.mem_cons_self)
            · rcases List.mem_cons.mp hq with rfl | hq
              · exact ap p' hp' (D, lst ys) (by simp)
              · exact ap p' hp' q (by simp [hq])
        have hperm : ∀ q ∈ st' ++ ((D + 1 + 1, oK') :: (D + 1, ({ cls := .type "dict", data := .dict #[] } : Obj)) :: (D, lst ys) :: led₀), q ∈ (D + 1 + 1, oK') :: (st' ++ ((D + 1, ({ cls := .type "dict", data := .dict #[] } : Obj)) :: (D, lst ys) :: led₀)) := fun q hq => by
          rcases List.mem_append.mp hq with h | h
          · simp [h]
          · rcases List.mem_cons.mp h with rfl | h
            · exact List.mem_cons_self
            · exact List.mem_cons_of_mem _ (List.mem_append_right _ h)
        cases htst : tst i with
        | false =>
          simp only [Bool.false_eq_true, if_false]
          refine ⟨n + 1 - (i + 1), by omega, i + 1, st', ys, oK', some v, hlt, rfl, hO', hd', ap' _ _, k5.weak hperm, ?_⟩
          rw [range_filter_succ, htst, hyl]; rfl
        | true =>
          simp only [if_true]
          have kc := k5.N (D + 1 + 1, oK') List.mem_cons_self
          refine wpAny_Name (wpAny_loadName_cell (c := D + 1 + 1) (by simp [compEnvC, relabel, hkind]) hkx (by simp [compEnvC]) ⟨oK', kc.1, hd'⟩ ?_) hd
          have kd := k5.N (D, lst ys) (List.mem_cons_of_mem _ (List.mem_append_right _ (List.mem_cons_of_mem _ List.mem_cons_self)))
          have hys : ys.length ≤ i := by rw [hyl]; exact Nat.le_trans (List.length_filter_le _ _) (by simp)
          refine append_at (hsz := by show ys.toArray.size ≤ sizeLine; rw [List.size_toArray]; omega) kd.1 fun h₅ hs₅ hD₅ => ?_
          refine ⟨n + 1 - (i + 1), by omega, i + 1, st', ys ++ [v], oK', some v, hlt, rfl, hO', hd', ap' _ _, ?_, ?_⟩
          · have := (k5.weak (led' := st' ++ ((D + 1 + 1, oK') :: (D + 1, ({ cls := .type "dict", data := .dict #[] } : Obj)) :: led₀)) fun q hq => by
              refine hperm q ?_
              rcases List.mem_append.mp hq with h | h
              · exact List.mem_append_left _ h
              · refine List.mem_append_right _ ?_
                rcases List.mem_cons.mp h with rfl | h
                · exact List.mem_cons_self
                · rcases List.mem_cons.mp h with rfl | h
                  · simp
                  · simp [h]).change (tk := s₄.toks) hs₅ (hD₅.trans (congrArg some (lst_snoc ys v))) nD.1 nD.2 fun q hq => by
                    rcases List.mem_append.mp hq with h | h
                    · obtain ⟨p, hp, e⟩ := hstm q h
                      rw [← e]; exact Ne.symm (ap p hp (D, lst ys) (by simp))
                    · rcases List.mem_cons.mp h with rfl | h
                      · exact Ne.symm hDK
                      · rcases List.mem_cons.mp h with rfl | h
                        · exact Ne.symm hDC
                        · exact offD q h
            refine this.weak fun q hq => ?_
            rcases List.mem_append.mp hq with h | h
            · simp [h]
            · rcases List.mem_cons.mp h with rfl | h
              · simp
              · rcases List.mem_cons.mp h with rfl | h
                · simp
                · rcases List.mem_cons.mp h with rfl | h
                  · simp
                  · simp [h]
          · rw [range_filter_succ, htst, List.length_append, hyl]; rfl
      · obtain rfl : i = n := Nat.le_antisymm hi (Nat.not_lt.mp hlt)
        refine FD.stop st _ m os₀ s' _ _ hS' hO kq ap fun h' tk hk => ?_
        have k6 := kq.but (tk := tk) hk ap
        refine ⟨_, (nsObj_empty s'.heap).ns (k6.N (D + 1, _) (List.mem_cons_of_mem _ List.mem_cons_self)).1, fun h'' hs'' => fin D ys _ hyl ?_ offD⟩
        exact (k6.weak (led' := (D, lst ys) :: led₀) fun q hq => List.mem_cons_of_mem _ (List.mem_cons_of_mem _ hq)).aside hs'' nC.1 nC.2 fun q hq => by
          rcases List.mem_cons.mp hq with rfl | hq
          · exact hDC
          · exact offC q hq
    · intro p hp q hq
      have hp' := hlt0 p (List.mem_append_left _ hp)
      rcases List.mem_cons.mp hq with rfl | hq
      · exact Ne.symm (Nat.ne_of_lt (Nat.lt_succ_of_lt (Nat.lt_succ_of_lt hp')))
      · rcases List.mem_cons.mp hq with rfl | hq
        · exact Ne.symm (Nat.ne_of_lt (Nat.lt_succ_of_lt hp'))
        · rcases List.mem_cons.mp hq with rfl | hq
          · exact Ne.symm (Nat.ne_of_lt hp')
          · exact hap p hp q hq
  have k4 : OK h₀ L m (st₀ ++ ((D + 1 + 1, cellO none) :: (D + 1, ({ cls := .type "dict", data := .dict #[] } : Obj)) :: (D, lst []) :: led₀)) os₀ _ := k3.weak fun q hq => by
    rcases List.mem_append.mp hq with h | h
    · simp [h]
    · rcases List.mem_cons.mp h with rfl | h
      · simp
      · rcases List.mem_cons.mp h with rfl | h
        · simp
        · rcases List.mem_cons.mp h with rfl | h
          · simp
          · simp [h]
  refine codeAny_compStart_list (loop _ k4) ?_
  exact FD.self st₀ ((D + 1 + 1, cellO none) :: (D + 1, ({ cls := .type "dict", data := .dict #[] } : Obj)) :: (D, lst []) :: led₀) m os₀ _ _ _ hO (FD.mono _ _ (fun q hq => by simp [hq]) hS) k4 (loop _ k4)
end
end Mine
end

section
local macro_rules | `(tactic| walk_at "pad") => `(tactic| skip)
local macro_rules | `(tactic| walk_at "pad") => `(tactic| skip)
local macro_rules | `(tactic| walk_at "pad") => `(tactic| skip)
local macro_rules | `(tactic| walk_at "pad") => `(tactic| skip)
local macro_rules | `(tactic| walk_at "pad") => `(tactic| skip)
open PySem PySem.W PySem.W.X PyProof.Rows PySem.Calls PySem.Spec
set_option Elab.async false
set_option maxRecDepth 100000
set_option maxHeartbeats 8000000
set_option pp.deepTerms false
set_option pp.deepTerms.threshold 6
set_option pp.structureInstances false
set_option linter.all false
namespace Mine
open PyProof.Rows.LCg (NsObj lst lst_snoc ns_obj)
section
variable {prog : Program} {w : World} {A : Around} {E : Value → Shared → Prop} {s : Shared} {h₀ : Heap} {m : Str → Option Value} {env : Env}
theorem assign_coreF {elt iter target : Expr} {y : Str} {py : Pos} {scope : Scope} {cl : List (Str × Addr)} {pos spos : Pos} {Q : Flow → Shared → Prop} (F : Fr h₀ env.locals s.heap m)
    (hsw : swapsWith (.ListComp elt [⟨target, iter, [], 0⟩] scope pos) (some (.Name y py)) spos.line env = pure true)
    (hclos : closureFor scope env = pure cl) (hcell : ∀ y ∈ scope.names, y.2 ≠ .cell) (hkind : scope.kind = .function)
    (hnames : ∀ y ∈ scope.names, y.2 = .local → scope.names.lookup y.1 = some .local)
    (hy : env.kindOf y = some .local) (hp : (env.scope.kind == .class || (env.scope.kind == .module && env.locals != env.globals)) = false)
    (h : wpAny (model prog w) A (eval iter env) (fun xv s₁ => wpAny (model prog w) A (pyIter xv) (CompAt prog w A h₀ env.locals m env elt target scope cl
      (fun os₀ ys led => ∀ D s', OK h₀ env.locals (fun z => if z = y then some (.ref D) else m z) ((D, lst ys) :: led) os₀ s' → (∀ q ∈ led, q.1 ≠ D) → Q .next s')) E s₁) E s)
    (hs : ∀ x, foldedSetIterable iter env x = pure x) :
    wpAny (model prog w) A (exec (.Assign [.Name y py] (.ListComp elt [⟨target, iter, [], 0⟩] scope pos) spos) env) Q E s := assign_core rfl hsw hclos hcell hkind hnames hy hp h hs
end
variable {w : World} {p : Program} {loose : List Str} {mg mb : Str → Option Value} {bm : Addr} {ob : Obj} {s : Shared} {A : Around}
def Stopped (P : Prop) : Prop := P
theorem Stopped.mk {P : Prop} (h : Stopped P) : P := h
local macro_rules | `(tactic| walk_at "exec Assign cons ListComp") => `(tactic| ((with_reducible rename Fr _ _ _ _ => kF); k_dflt (refine' assign_coreF kF ?z1 ?z2 ?z3 ?z4 ?z5 ?z6 ?z7 ?_ ?z8; (case z1 => first | exact rfl | with_unfolding_all rfl); (case z2 => first | exact rfl | with_unfolding_all rfl); (case z3 => decide); (case z4 => exact rfl); (case z5 => decide); (case z6 => exact rfl); (case z7 => exact rfl); (case z8 => (intro _; first | exact rfl | with_unfolding_all rfl)))))
open PyProof.Rows.LCg (NsObj lst lst_snoc ns_obj)
local macro_rules | `(tactic| walk_at "eval Name") => `(tactic| ((with_reducible show wpAny _ _ (eval (Expr.Name _ _) (compEnvC _ _ _ _)) _ _ _); k_dflt (first
  | (refine' ce_own ?N ?m ?C ?x ?_ ?a ?b; (case a => rfl); (case b => rfl); (case N => assumption); (case m => k_mem); (case C => assumption); (case x => assumption))
  | (refine' ce_cell ?N ?c ?m ?d ?_ ?a ?b; (case a => rfl); (case b => rfl); (case N => assumption); (case c => rfl); (case m => k_mem); (case d => assumption))
  | (refine' ce_global ?F ?X ?T ?e ?_ ?g ?a ?b; (case a => rfl); (case b => rfl); (case g => rfl); (case F => assumption); (case X => assumption); (case T => assumption); (case e => k_is))
  | (refine' ce_built ?F ?X ?T ?e ?v ?n ?_ ?g ?g2 ?a ?b; (case a => rfl); (case b => rfl); (case g => rfl); (case g2 => rfl); (case F => assumption); (case X => assumption); (case T => assumption); (case e => k_is); (case v => boot_by_name); (case n => decide)))))
local macro_rules | `(tactic| walk_at "call builtin:max") => `(tactic| (refine' max_led ?F ?N ?hh ?m ?i ?n ?_; (case F => assumption); (case N => assumption); (case hh => assumption); (case m => k_mem); (case i => assumption); (case n => assumption); intro h' M' t' tk' F' N' m1))
local macro_rules | `(tactic| walk_at "call builtin:min") => `(tactic| (refine' min_led ?F ?N ?hh ?m ?i ?n ?_; (case F => assumption); (case N => assumption); (case hh => assumption); (case m => k_mem); (case i => assumption); (case n => assumption); intro h' M' t' tk' F' N' m1))
theorem IsMin.unique2 {a b : Nat} {l : List Nat} (x : IsMin a l) (y : IsMin b l) : a = b := Nat.le_antisymm (x.2 _ y.1) (y.2 _ x.1)
local macro_rules | `(tactic| walk_at "call builtin:len") => `(tactic| (refine' len_lob ?N ?m ?z ?_; (case N => assumption); (case m => k_mem); (case z => assumption)))
theorem OK.mk' {h₀ : Heap} {L : Addr} {m : Str → Option Value} {led : Led} {os₀ os : OsState} {h : Heap} {tk : Nat} {gens drawn} (F : Fr h₀ L h m) (N : News h₀ L h led) (g : AllBare gens) (o : os = os₀) : OK h₀ L m led os₀ (Shared.mk h gens drawn tk os) := ⟨F, N, g, o⟩
theorem agree_codes (n : Nat) (cs : List Str) : agree n (cs.map fun x => x.cps.toList) = ((List.range n).filter fun i => cs.all fun x => x.cps.toList.getD i 0 == (cs.headD Str.empty).cps.toList.getD i 0).length := by
  unfold agree
  congr 2
  funext i
  rw [List.all_map]
  cases cs with
  | nil => rfl
  | cons c cs => rfl
def RatedIs (ns cs : List Str) (r : Nat) : Prop := (ns.any (fun x => x == Str.ofString "") = true ∧ r = 0) ∨ (ns.any (fun x => x == Str.ofString "") = false ∧ ∃ M m, IsMax M (cs.map fun x => x.cps.toList.length) ∧ IsMin m (cs.map fun x => x.cps.toList.length) ∧
  ((cs.length < M - m ∧ r = 0) ∨ (¬ cs.length < M - m ∧ r = agree m (cs.map fun x => x.cps.toList))))
theorem rated (a b : Addr) (va vb : List Value) (ns cs : List Str) (hia : StrsAre va ns) (hib : StrsAre vb cs) (hc0 : 0 < cs.length) (hc4 : cs.length ≤ 4) (hl : ∀ x ∈ cs, x.length ≤ 6)
   (hna : (s.heap.hide 194).IsList a va.toArray) (hnb : (s.heap.hide 194).IsList b vb.toArray)
   (G : Gd w p loose mg mb bm ob s) (hh : A.handled = none) (hu : A.units + 3 < cLine) (hroom : A.depth + 3 < recursionLimit)
   (he : PySem.Challenge.rw_fq5033_01.row.prog = PySem.Challenge.rw_fq5033_01.row.prog ∧ (hd.heap_39 w.params).In s.heap) : codeAny (model prog w) A (.call (.ref 221) ⟨[.ref a, .ref b], []⟩) (Gives s fun v _ => ∃ (r : Nat) (t : Tok), v = .int r t ∧ RatedIs ns cs r) s := by
  revert he; k_fill; intro he
  refine enterC G (by k_is) (by k_is) (by omega) (BindsTo.of_eq rfl) rfl (by decide +kernel) ?_ rfl rfl rfl
  intro ps L' h₁ tk cells ht E0 hL F N Y h194 hb
  have X := E0.k
  have T := E0.t
  have M := E0.b
  obtain ⟨oc, hE, d1'⟩ := CellsAre.one Y
  subst hE
  clear Y
  dsimp only [List.nil_append, List.cons_append] at N
  have F1 : Fr (s.heap.hide 194) L' h₁ (fun y => if y = Str.ofString "names" then some (.ref a) else none) := F
  clear F
  have d1 : oc.data = .cell (some (.ref b)) := d1'
  clear d1'
  k_steps
  · refine Ends.of (by assumption) (by assumption) (.tail _ (.head _)) ht hb ⟨0, _, rfl, .inl ⟨by assumption, rfl⟩⟩
  rename Fr _ _ _ _ => F1
  have hvl : vb.length = cs.length := StrsAre.length hib
  have hany : (ns.any fun x => x == Str.ofString "") = false := by assumption
  have hnb1 : h₁.IsList b vb.toArray := hnb.at fun o e => F1.keep _ _ e
  refine wpAny_pyIter_list hnb1 ?_
  have k0 : OK (s.heap.hide 194) L' _ _ s.os (Shared.mk h₁ s.gens s.drawn tk s.os) := ⟨F1, N, hb, rfl⟩
  have k1 := k0.push (o := { cls := .type "list_iterator", data := .fields #[.ref b, .int 0 0] })
  have hbI : b ≠ h₁.objs.size := by obtain ⟨_, e, _⟩ := hnb1; exact Nat.ne_of_lt (Heap.lt_size e)
  refine comp_feed (st₀ := [(h₁.objs.size, { cls := .type "list_iterator", data := .fields #[.ref b, .int 0 0] })]) (led₀ := [(L' + 1, oc), (194, tableObj ps)])
    (fun i ys led => led = [(L' + 1, oc), (194, tableObj ps)] ∧ IntsAre ys ((cs.take i).map fun x => (x.length : Int)))
    rfl rfl (feed_list (A := A.deeper _) (ax := b) (its := vb.toArray) hh hbI) ?_ k1 ⟨_, rfl, fun h e => ⟨_, e, rfl, rfl⟩⟩ (.inl hnb) ?_ ⟨rfl, .nil⟩ ?_ ?_ ?_
  · rw [sizeLine_eq]; show vb.toArray.size ≤ _; simp; omega
  · intro p hp q hq
    rw [List.mem_singleton.mp hp]
    exact Nat.ne_of_lt (k0.lt hq)
  · rintro i ys led ⟨rfl, hI⟩
    rw [hI.length]; simp; omega
  · rintro i v ex st ys led C Dl oC mC s₁ E hi1 ⟨hv, rfl⟩ ⟨rfl, hI⟩ hC hx k hCD ap2 ap hS
    obtain ⟨t, rfl⟩ := strs_at hib i v (by simpa using hv)
    have hil : i < cs.length := by simp at hi1; omega
    have hxx : cs.getD i Str.empty ∈ cs := by rw [List.getD_eq_getElem?_getD, List.getElem?_eq_getElem hil]; exact List.getElem_mem hil
    have hlast : (cs.take (i + 1)).map (fun x => (x.length : Int)) = (cs.take i).map (fun x => (x.length : Int)) ++ [((cs.getD i Str.empty).length : Int)] := by
      rw [List.take_add_one, List.map_append, List.getElem?_eq_getElem hil]
      simp [List.getD_eq_getElem?_getD, hil]
    generalize hxd : cs.getD i Str.empty = x at hx hxx hlast
    have hxl := hl x hxx
    have F2 := k.F
    have N2 : News (s.heap.hide 194) L' s₁.heap ((C, oC) :: (Dl, lst ys) :: (L' + 1, oc) :: (194, tableObj ps) :: st) := fun q hq => k.N q (by
      simp only [List.mem_cons, List.mem_append, List.nil_append] at hq ⊢
      rcases hq with h | h | h | h | h <;> simp [h])
    have g2 := k.g
    have o2 := k.o
    k_steps
    exact EltEnd.intro [(L' + 1, oc), (194, tableObj ps)] F2 N2 g2 o2 (fun q hq => by
      simp only [List.mem_cons, List.mem_append, List.not_mem_nil, or_false] at hq ⊢
      rcases hq with h | h | h | h | h <;> simp [h]) (fun q hq => ap2 q (by simp only [List.nil_append]; exact List.mem_append_right _ hq)) (fun q hq p hp => ap q hq p (by simpa using hp)) hS ⟨rfl, by rw [hlast]; exact hI.append (.cons _ _ .nil)⟩
  · rintro ys led ⟨rfl, hI⟩ Sz s₂ k offS
    have hI2 : IntsAre ys (lensI (cs.map fun x => x.cps.toList)) := by
      rw [List.take_of_length_le (by simp; omega)] at hI
      have e : lensI (cs.map fun x => x.cps.toList) = cs.map (fun x => (x.length : Int)) := by
        unfold lensI
        rw [List.map_map]
        exact List.map_congr_left fun x _ => by simp [Str.length]
      rw [e]; exact hI
    have F2 := k.F
    have N2 : News (s.heap.hide 194) L' s₂.heap [(Sz, lob ys ys.length), (L' + 1, oc), (194, tableObj ps)] := k.N
    have g2 := k.g
    have o2 := k.o
    have hpos : 0 < (cs.map fun x => x.cps.toList).length := by simpa using hc0
    k_steps
    · rename IsMax _ _ => mMax
      rename IsMin _ _ => mMin
      rename ((_ : Int) < _ - _) => hlt
      refine Ends.of (by assumption) (by assumption) (.tail _ (.tail _ (.head _))) ht g2 ⟨0, _, rfl, .inr ⟨hany, _, _, by rw [List.map_map] at mMax; exact mMax, by rw [List.map_map] at mMin; exact mMin, .inl ⟨by omega, rfl⟩⟩⟩ o2
    rename IsMax _ _ => mMax
    rename IsMin _ _ => mMin
    rename (¬ (_ : Int) < _ - _) => hlt
    rename Fr _ _ _ _ => F3
    rename News _ _ _ _ => N3
    refine comp_cellT (h₀ := s.heap.hide 194) (L := L') (m := (fun z => if z = Str.ofString "sizes" then some (.ref Sz) else if z = Str.ofString "names" then some (.ref a) else none)) (by rfl) rfl (by decide) (fun _ _ => rfl) (fun _ => rfl) (by rfl) (by decide) ?_ (by intro _; rfl)
    k_steps
    rename IsMin _ _ => mMin2
    rename IsRange _ _ _ _ _ _ _ _ => rg
    rename Fr _ _ _ _ => F4
    rename News _ _ _ _ => N4
    obtain ⟨Mn, hMn⟩ : ∃ M, IsMin M (List.map (fun x => x.length) (List.map (fun x => x.cps.toList) cs)) := ⟨_, mMin⟩
    rw [IsMin.unique2 mMin hMn] at hlt
    rw [IsMin.unique2 mMin2 hMn] at rg
    clear mMin mMin2
    rw [List.map_map] at mMax hMn
    have hmin : ∀ x ∈ cs, Mn ≤ x.length := fun x hx => by
      have := hMn.2 _ (List.mem_map_of_mem hx)
      simpa [Str.length] using this
    have hMn6 : Mn ≤ 6 := by
      obtain ⟨x, hx, e⟩ := List.mem_map.mp hMn.1
      have := hl x hx
      simp [Str.length] at this e; omega
    refine wpAny_pyIter_range rg (small_one (by omega) (by omega) (by omega) (by omega)) ?_
    have hnn : Builtin.Range.rangeSize 0 ((Mn : Nat) : Int) 1 = ((Mn : Nat) : Int) := by
      rw [rangeSize_one]
      split <;> omega
    have F5 : Fr (s.heap.hide 194) L' _ (fun z => if z = Str.ofString "sizes" then some (.ref Sz) else if z = Str.ofString "names" then some (.ref a) else none) := F4
    have N5 : News (s.heap.hide 194) L' _ [(Sz, lob ys ys.length), (L' + 1, oc), (194, tableObj ps)] := fun q hq => N4 q (by simpa using hq)
    refine ⟨_, Mn, _, _, _, [(_, _)], [(Sz, lob ys ys.length), (L' + 1, oc), (194, tableObj ps)], s.os, (fun i => cs.all fun x => x.cps.toList.getD i 0 == (cs.headD Str.empty).cps.toList.getD i 0), rfl, feed_range (A := A.deeper _) hh 0 Mn, by rw [sizeLine_eq]; omega, (OK.mk' F5 N5 g2 o2).push, ⟨_, rfl, fun h e => by rw [hnn] at e; simpa using e⟩, trivial, ?_, (fun _ _ _ h => h.2), ?_, ?_⟩
    · intro p hp q hq
      rw [List.mem_singleton.mp hp]
      exact Nat.ne_of_lt (Heap.lt_size (N5 q hq).1)
    · rintro i v led C Kc oK s4 E' hi ⟨⟨t, rfl⟩, _⟩ hoK kk hsub
      rw [Int.zero_add] at hoK
      have hcell := kk.N (L' + 1, oc) (List.mem_cons_of_mem _ (hsub _ (.tail _ (.head _))))
      refine wpAny_mono (outer_test (c1 := L' + 1) (c2 := Kc) (b := b) (vb := vb) (cs := cs) (i := i) (by rfl) (by decide) rfl (by decide) rfl (fun _ => rfl) (fun _ => rfl) rfl rfl rfl rfl rfl hh (by show A.units + 3 < cLine; exact hu) ⟨oc, hcell.1, d1⟩ ⟨oK, (kk.N _ List.mem_cons_self).1, hoK⟩ (hnb.at fun o e => kk.F.keep _ _ e) (by assumption) hc4 rfl (fun x hx => ⟨Nat.lt_of_lt_of_le hi (hmin x hx), Nat.le_trans (hl x hx) (by decide)⟩) (by intro _; rfl)) (fun ok s' h => ?_) fun _ _ e => e
      obtain ⟨e, h', tk', rfl, hk⟩ := h
      exact ⟨e, kk.keeps hk⟩
    · intro D yl s' hyl kD hoff
      have F6 := kD.F
      have N6 : News (s.heap.hide 194) L' s'.heap [(D, lob yl yl.length), (Sz, lob ys ys.length), (L' + 1, oc), (194, tableObj ps)] := kD.N
      have g6 := kD.g
      have o6 := kD.o
      have hyz : yl.length ≤ 1000 := by
        rw [hyl]
        refine Nat.le_trans (List.length_filter_le _ _) ?_
        simp; omega
      have hag : yl.length = agree Mn (cs.map fun x => x.cps.toList) := by rw [hyl, agree_codes]
      clear F5 N5 F4 N4 F3 N3 k F2 N2
      k_steps
      refine Ends.of (by assumption) (by assumption) (.tail _ (.tail _ (.tail _ (.head _)))) ht g6 ⟨_, _, rfl, .inr ⟨hany, _, _, mMax, hMn, .inr ⟨by omega, hag⟩⟩⟩ o6
end Mine
end

section
open PySem PySem.W PySem.W.X PyProof.Rows PySem.Calls PySem.Spec
set_option Elab.async false
set_option linter.all false
namespace Mine
theorem codeS_list (x : Str) : (codeS x).cps.toList = codeL (x.cps.toList.map up1) := by unfold codeS; simp [tx]
theorem any_all (ns : List Str) : ns.any (fun x => x == Str.ofString "") = !(ns.all fun x => !(x == Str.ofString "")) := by
  induction ns with
  | nil => rfl
  | cons x r ih => simp only [List.any_cons, List.all_cons, ih, Bool.not_and, Bool.not_not]
theorem codes_map (ns : List Str) : (ns.map codeS).map (fun x => x.cps.toList) = codesOf ns := by
  unfold codesOf
  rw [List.map_map]
  exact List.map_congr_left fun x _ => codeS_list x
theorem codes_len (ns : List Str) : (ns.map codeS).map (fun x => x.cps.toList.length) = (codesOf ns).map (·.length) := by
  rw [← codes_map, List.map_map, List.map_map, List.map_map]
  rfl
theorem due_rated {ns : List Str} {r r' : Nat} (a : IsDue ns r) (b : RatedIs ns (ns.map codeS) r') : r = r' := by
  unfold RatedIs at b
  rw [any_all, codes_len, codes_map, List.length_map] at b
  rcases a with ⟨a1, a2⟩ | ⟨a1, M, m, hM, hm, a2⟩ <;> rcases b with ⟨b1, b2⟩ | ⟨b1, M', m', hM', hm', b2⟩
  · rw [a2, b2]
  · rw [a1] at b1; cases b1
  · rw [a1] at b1; cases b1
  · have e1 := hM.unique hM'
    have e2 := hm.unique hm'
    subst e1 e2
    rcases a2 with ⟨x, y⟩ | ⟨x, y⟩ <;> rcases b2 with ⟨z, u⟩ | ⟨z, u⟩
    · rw [y, u]
    · exact absurd x z
    · exact absurd z x
    · rw [y, u]
theorem due_unique {ns : List Str} {r r' : Nat} (a : IsDue ns r) (b : IsDue ns r') : r = r' := by
  rcases a with ⟨a1, a2⟩ | ⟨a1, M, m, hM, hm, a2⟩ <;> rcases b with ⟨b1, b2⟩ | ⟨b1, M', m', hM', hm', b2⟩
  · rw [a2, b2]
  · rw [a1] at b1; cases b1
  · rw [a1] at b1; cases b1
  · have e1 := hM.unique hM'
    have e2 := hm.unique hm'
    subst e1 e2
    rcases a2 with ⟨x, y⟩ | ⟨x, y⟩ <;> rcases b2 with ⟨z, u⟩ | ⟨z, u⟩
    · rw [y, u]
    · exact absurd x z
    · exact absurd z x
    · rw [y, u]
theorem due_one {x : Str} {r : Nat} (a : IsDue [x] r) : r = (codeS x).length := by
  have hc : (codeS x).length = (codeL (x.cps.toList.map up1)).length := by rw [len_list, codeS_list]
  rcases a with ⟨a1, a2⟩ | ⟨a1, M, m, hM, hm, a2⟩
  · rw [a2, hc]
    have hx : x = Str.ofString "" := by simpa using a1
    subst hx
    decide +kernel
  · have hm' : m = (codeL (x.cps.toList.map up1)).length := by simpa using hm.1
    have hM' : M = (codeL (x.cps.toList.map up1)).length := by simpa using hM.1
    rw [hc, ← hm']
    rcases a2 with ⟨z, u⟩ | ⟨z, u⟩
    · exfalso; omega
    · rw [u]
      unfold agree
      simp
      have e : List.filter (fun _ : Nat => true) (List.range m) = List.range m := List.filter_eq_self.mpr fun _ _ => rfl
      rw [e, List.length_range]
theorem IsMax.unique3 {a b : Nat} {l : List Nat} (x : IsMax a l) (y : IsMax b l) : a = b := x.unique y
end Mine
end

section
open PySem PySem.W PySem.W.X PyProof.Rows PySem.Calls PySem.Spec
set_option Elab.async false
set_option maxRecDepth 100000
set_option maxHeartbeats 8000000
set_option pp.deepTerms false
set_option pp.deepTerms.threshold 6
set_option pp.structureInstances false
set_option linter.all false
namespace Mine
variable {w : World} {p : Program} {loose : List Str} {mg mb : Str → Option Value} {bm : Addr} {ob : Obj} {s : Shared} {A : Around}

abbrev heapOf {h₀ : Heap} {L : Addr} {h : Heap} {m : Str → Option Value} (_ : Fr h₀ L h m) : Heap := h
section
variable {w : World} {A : Around} {E : Value → Shared → Prop} {s : Shared} {h₀ : Heap} {L : Addr} {m : Str → Option Value} {led : List (Addr × Obj)}
theorem join_sign {a : Addr} {l : List Nat} {t : Tok} {Q : Value → Shared → Prop} (F : Fr h₀ L s.heap m) (N : News h₀ L s.heap led) (G : AllBare s.gens) (X : GenIs w A h₀ L led a (l.map fun c => (⟨#[c]⟩ : Str)) s)
    (hl : l.length ≤ 24)
    (hQ : ∀ s' t', Fr h₀ L s'.heap m → News h₀ L s'.heap led → AllBare s'.gens → s'.os = s.os → Q (.str (tx l) t') s') :
    wpAny (model prog w) A (call (.builtin "str.join") [.str (Str.ofString "") t, .ref a]) Q E s := by
  refine join_is F N G X (ones_ok hl (by decide +kernel)) (by rw [List.length_map, sizeLine_eq]; omega) ?_
  rw [join_tx]
  exact hQ
end
local macro_rules | `(tactic| walk_at "call builtin:str.join") => `(tactic| (refine' join_sign ?F ?N ?G ?X ?l ?_; (case F => assumption) ; (case N => assumption); (case G => assumption); (case X => assumption); (case l => omega); intro s' t' F' N' G' o'))
local macro_rules | `(tactic| walk_at "call type:enumerate") => `(tactic| (refine' call_enumerate_str ?_; intro h' ie ii hz hk))
theorem calc_mra (x : Str) (t : Tok) (self : Value) (hx : ∀ c ∈ x.cps.toList, c < 128) (hl : x.length ≤ 8)
   (G : Gd w p loose mg mb bm ob s) (hh : A.handled = none) (hroom : A.depth + 3 < recursionLimit)
   (he : PySem.Challenge.rw_fq5033_01.row.prog = PySem.Challenge.rw_fq5033_01.row.prog ∧ (hd.heap_39 w.params).In s.heap) : codeAny (model prog w) A (.call (.ref 199) ⟨[self, .str x t], []⟩) (Gives s fun v _ => ∃ u, v = .str (codeS x) u) s := by
  have hU0 := upper_ascii hx
  have hUl : (Txt.upper x).length = x.length := by rw [hU0]; simp [Str.length]
  revert he; k_fill; intro he
  refine enterC G (by k_is) (by k_is) (by omega) (BindsTo.of_eq rfl) rfl (by decide +kernel) ?_ rfl rfl rfl
  intro ps L' h₁ tk cells ht E0 hL F N Y h194 hb
  have X := E0.k
  have T := E0.t
  have M := E0.b
  obtain ⟨oc, hE, d1'⟩ := CellsAre.one Y
  subst hE
  clear Y
  dsimp only [List.nil_append, List.cons_append] at N
  have F1 : Fr (s.heap.hide 194) L' h₁ (fun y => if y = Str.ofString "self" then some self else none) := F
  clear F
  have d1 : oc.data = .cell (some (.str x t)) := d1'
  clear d1'
  k_steps
  · rename Fr _ _ _ _ => F2
    rename News _ _ _ _ => N2
    skip
    have hp1 : 1 ≤ x.length := by
      have : ((x.length : Int) ≠ 0) := by assumption
      omega
    obtain ⟨c0, r0, hcr⟩ : ∃ c r, (Txt.upper x).cps.toList = c :: r := by
      cases q : (Txt.upper x).cps.toList with
      | nil => rw [len_list, q] at hUl; simp at hUl; omega
      | cons c r => exact ⟨c, r, rfl⟩
    have hup : x.cps.toList.map up1 = c0 :: r0 := by rw [← hcr, hU0]; simp
    have hsl : Txt.slice (Txt.upper x) (some 1) none = tx r0 := by rw [slice_tail (by omega), hcr]; rfl
    have hr8 : r0.length ≤ 7 := by rw [len_list, hcr, List.length_cons] at hUl; omega
    refine genStr (p := p) (loose := loose) (mg := mg) (mb := mb) (bm := bm) (ob := ob) (h₀ := s.heap.hide 194) (L := L') (fun c => !vow c) rfl rfl hh rfl rfl (by decide) rfl rfl rfl (by show A.depth + 1 < _; omega)
      (fun A' E' c u s₂ m₂ C code hn hm => one_test (test_vow rfl rfl rfl hn hm))
      (fun A' E' c u s₂ m₂ C code hn hm => name_l rfl rfl rfl hn hm ⟨⟨_, rfl⟩, s₂.heap, s₂.toks, rfl, fun _ _ e => e⟩) ?_ (fun _ => rfl)
    k_steps
    refine ⟨_, _, _, _, _, ps, rfl, E0, (by assumption), (by assumption), .tail (by show L' + 1 ≠ 194; omega) (.head (by simp)), ht, hb, fun a s₅ ps₁ ht₁ F5 N5 hb5 hos GI => ?_⟩
    skip
    have hl1 : (tx r0).cps.toList = r0 := by simp
    rw [hsl, hl1] at GI
    generalize hq1 : r0.filter (fun c => !vow c) = q1 at GI
    have hq8 : q1.length ≤ 7 := by rw [← hq1]; exact Nat.le_trans (List.length_filter_le _ _) hr8
    have hql : (tx q1).length ≤ 7 := by rw [tx_len]; exact hq8
    have hx1 : (Str.mk #[c0]).length ≤ 1 := Nat.le_refl _
    rw [item_first hcr]
    k_steps
    rename Fr _ _ _ _ => F6
    rename News _ _ _ _ => N6
    rename (_ = Data.cell _) => d6
    rename (AllBare (Shared.gens _)) => g6
    rename (Shared.os _ = Shared.os s₅) => os6
    generalize hy : (Str.mk #[c0] ++ tx q1) = y at d6
    have hyl : y.cps.toList = c0 :: q1 := by rw [← hy]; show ((#[c0] : Array Nat) ++ q1.toArray).toList = _; simp
    have hyn : y.length ≤ 8 := by rw [len_list, hyl, List.length_cons]; omega
    refine genEnum (p := p) (loose := loose) (mg := mg) (mb := mb) (bm := bm) (ob := ob) (h₀ := s.heap.hide 194) (L := L') y (fun i => i == 0 || y.cps.toList.getD (i-1) 0 != y.cps.toList.getD i 0) (heapOf F6) rfl rfl hh rfl rfl (by decide) rfl rfl rfl (by decide) rfl (by show A.depth + 1 < _; omega)
      (fun A' E' i c t' u s₂ m₂ C code hc hn hma hmb kp => one_test ?_)
      (fun A' E' c u s₂ m₂ C code hn hm => name_l rfl rfl rfl hn hm ⟨⟨_, rfl⟩, s₂.heap, s₂.toks, rfl, fun _ _ e => e⟩) ?_ (fun _ => rfl)
    · have hic : i < y.cps.size := by
        rcases Nat.lt_or_ge i y.cps.size with h | h
        · exact h
        · rw [Array.getElem?_eq_none h] at hc; cases hc
      have e : y.cps.toList.getD i 0 = c := by simp [List.getD_eq_getElem?_getD, hc]
      rw [e]
      refine test_dd rfl rfl rfl rfl rfl hn hma hmb ⟨_, kp _ _ ?_ (N6 _ (.head _)).1, d6⟩ hic (by omega)
      show L' + 1 ≠ 194
      omega
    k_steps
    rename (IsEnum _ _ _ _ _) => ie
    rename (Heap.IsStrIter _ _ _ _ _ _) => ii
    rename (Heap.objs _ |>.size) = _ => hz
    rename (∀ b o, _ = some o → _ = some o) => hk
    refine ⟨_, _, _, _, _, _, ps₁, rfl, ie, ii, Nat.succ_ne_self _, Nat.le_succ _, Nat.le_refl _, hk, E0, F6, N6, .tail (by show L' + 1 ≠ 194; omega) (.head (by simp)), ht₁, g6, fun a s₈ ps₂ ht₂ F8 N8 g8 os8 GI2 => ?_⟩
    have hsq : dd none y.cps.toList = squeeze (x.cps.toList.map up1) := by rw [hyl, hup, ← hq1]; rfl
    have hmm := congrArg (List.map fun c => (⟨#[c]⟩ : Str)) (pass_dd y.cps.toList (n := y.cps.size) (by simp))
    rw [List.map_map] at hmm
    rw [show ((passing (fun i => i == 0 || y.cps.toList.getD (i-1) 0 != y.cps.toList.getD i 0) y.cps.size 0).map fun i => (⟨#[y.cps.toList.getD i 0]⟩ : Str)) = (squeeze (x.cps.toList.map up1)).map (fun c => (⟨#[c]⟩ : Str)) from hmm.trans (by rw [hsq])] at GI2
    generalize hq2 : squeeze (x.cps.toList.map up1) = q2 at GI2 hsq
    have hq28 : q2.length ≤ 8 := by rw [← hq2]; refine Nat.le_trans (squeeze_len _) ?_; rw [List.length_map, ← len_list]; exact hl
    have hq2l : (tx q2).length ≤ 8 := by rw [tx_len]; exact hq28
    have hk2 : (tx q2).cps.toList = squeeze (x.cps.toList.map up1) := by rw [hq2]
    have osA : s₈.os = s.os := by rw [os8]; show Shared.os _ = _; rw [os6, hos]
    k_steps
    · have h6 : (6 : Int) < (tx q2).length := by assumption
      show Ends s L' _ (.str _ _) _
      refine Ends.of (by assumption) (by assumption) (.tail _ (.head _)) ht₂ (by assumption) (by rw [code_longS hk2 h6]; exact ⟨_, rfl⟩) ?_
      show Shared.os _ = _
      rw [← osA]; assumption
    · have h6 : ¬ (6 : Int) < (tx q2).length := by assumption
      show Ends s L' _ (.str _ _) _
      refine Ends.of (by assumption) (by assumption) (.tail _ (.head _)) ht₂ (by assumption) (by rw [code_shortS hk2 h6]; exact ⟨_, rfl⟩) ?_
      show Shared.os _ = _
      rw [← osA]; assumption
  · have he' : (x == Str.ofString "") = true := by
      have : ((x.length : Int) = 0) := by assumption
      have h0 : x.cps.toList = [] := by rw [len_list] at this; exact List.eq_nil_of_length_eq_zero (by omega)
      rw [tx_eq h0]; decide +kernel
    show Ends s L' _ (.str x _) _
    refine Ends.of (by assumption) (by assumption) (.tail _ (.head _)) ht hb (by rw [code_empty he']; exact ⟨_, by rw [beq_iff_eq.mp he']⟩)
end Mine
end

section
local macro_rules | `(tactic| walk_at "pad") => `(tactic| skip)
local macro_rules | `(tactic| walk_at "pad") => `(tactic| skip)
local macro_rules | `(tactic| walk_at "pad") => `(tactic| skip)
open PySem PySem.W PySem.W.X PyProof.Rows PySem.Calls PySem.Spec
set_option Elab.async false
set_option maxRecDepth 100000
set_option maxHeartbeats 8000000
set_option pp.deepTerms false
set_option pp.deepTerms.threshold 6
set_option pp.structureInstances false
set_option linter.all false
namespace Mine
variable {w : World} {p : Program} {loose : List Str} {mg mb : Str → Option Value} {bm : Addr} {ob : Obj} {s : Shared} {A : Around}
abbrev ownD (g1 g2 : Int) (a1 a2 a3 : Tok) (n : Nat) : Obj := dictOf [⟨g1, .str (Str.ofString "qval") a1, .int 1 a2⟩, ⟨g2, .str (Str.ofString "external") a3, .bool true⟩] n
theorem InstAt.up {h₀ h : Heap} {L x C : Addr} {m : Str → Option Value} {ox : Obj} {od : Option Obj} (F : Fr h₀ L h m) (I : InstAt h₀ x ox C od) : InstAt h x ox C od := by
  obtain ⟨a, b, c, d⟩ := I
  refine ⟨F.keep _ _ a, b, c, ?_⟩
  revert d
  cases ox.dict <;> cases od <;> intro d
  · exact d
  · exact d
  · exact d
  · exact F.keep _ _ d
local macro_rules | `(tactic| k_inst) => `(tactic| (exact InstAt.up (by assumption) (by assumption)))
open PyProof.Rows.LCg (NsObj lst lst_snoc ns_obj)
theorem CalcStep {w : World} {p : Program} {loose : List Str} {mg mb : Str → Option Value} {bm : Addr} {ob : Obj} {s : Shared} {A : Around} {E : Value → Shared → Prop} {h₀ : Heap} {L : Addr} {m : Str → Option Value} {news : List (Addr × Obj)} {g : Obj → List (Addr × Obj)} {ps : Array Value}
  {x : Str} {t : Tok} {self : Value} {Q : Value → Shared → Prop} (E0 : Env0 w p loose mg mb bm ob h₀) (F : Fr h₀ L s.heap m) (N : News h₀ L s.heap news) (U : UpdF 194 (tableObj ps) news g) (ht : TriplesOk ps.toList) (hg : AllBare s.gens)
  (hx : (∀ c ∈ x.cps.toList, c < 128) ∧ x.length ≤ 8) (hh : A.handled = none) (hroom : A.depth + 3 < recursionLimit)
  (h : ∀ v t' s' ps', v = .str (codeS x) t' → TriplesOk ps'.toList → Fr h₀ L s'.heap m → News h₀ L s'.heap (g (tableObj ps')) → AllBare s'.gens → s'.os = s.os → Q v s') : wpAny (model prog w) A (call (.ref 199) [self, .str x t]) Q E s :=
  call_K E0 F N U ht hg (fun G => calc_mra x t self hx.1 hx.2 G hh hroom ⟨rfl, G.e.k⟩) fun v s' ps' hp h1 h2 h3 h4 h5 => let ⟨u, e⟩ := hp; h v u s' ps' e h1 h2 h3 h4 h5
local macro_rules | `(tactic| walk_at "eval Name") => `(tactic| ((with_reducible show wpAny _ _ (eval (Expr.Name _ _) (compEnvC _ _ _ _)) _ _ _); k_dflt (first
  | (refine' ce_own ?N ?m ?C ?x ?_ ?a ?b; (case a => rfl); (case b => rfl); (case N => assumption); (case m => k_mem); (case C => assumption); (case x => assumption))
  | (refine' ce_cell ?N ?c ?m ?d ?_ ?a ?b; (case a => rfl); (case b => rfl); (case N => assumption); (case c => rfl); (case m => k_mem); (case d => assumption))
  | (refine' ce_global ?F ?X ?T ?e ?_ ?g ?a ?b; (case a => rfl); (case b => rfl); (case g => rfl); (case F => assumption); (case X => assumption); (case T => assumption); (case e => k_is))
  | (refine' ce_built ?F ?X ?T ?e ?v ?n ?_ ?g ?g2 ?a ?b; (case a => rfl); (case b => rfl); (case g => rfl); (case g2 => rfl); (case F => assumption); (case X => assumption); (case T => assumption); (case e => k_is); (case v => boot_by_name); (case n => decide)))))
local macro_rules | `(tactic| walk_at "call ref") => `(tactic| (refine' CalcStep ?E0 ?F ?N ?U ?ht ?hg ?hx ?hh ?room ?_; (case E0 => assumption); (case F => assumption); (case N => assumption); (case U => assumption); (case ht => assumption); (case hg => assumption); (case hx => assumption); (case hh => assumption); (case room => (show A.depth + 1 + 3 < recursionLimit; omega)); intro v' t' s' ps' hv' ht' F' N' g' o'; subst hv'))
local macro_rules | `(tactic| walk_at "call type:list") => `(tactic| ((with_reducible show wpAny _ _ (call (Value.type "list") [Value.str _ _]) _ _ _); refine' list_ones ?F ?N ?hh ?x ?_; (case F => assumption); (case N => assumption); (case hh => assumption); (case x => assumption); intro D' c' zs' h' tk' F' N' l' z'))
local macro_rules | `(tactic| walk_at "call type:map") => `(tactic| (refine' map_led ?F ?N ?l ?R ?z ?_; (case F => assumption); (case N => assumption); (case l => assumption); (case R => assumption); (case z => assumption); intro h' I' F' N' X'))
local macro_rules | `(tactic| walk_at "call builtin:max") => `(tactic| (refine' max_map_led ?F ?N ?hh ?X ?n ?_; (case F => assumption); (case N => assumption); (case hh => assumption); (case X => assumption); (case n => assumption); intro h' M' t' tk' F' N' m1 m2))
theorem code_len (x : Str) : (codeS x).length ≤ 6 := by
  have := codeL_len (x.cps.toList.map up1)
  unfold codeS
  rw [tx_len]; exact this
theorem maxi (vs : List Value) (ns : List Str) (hi : StrsAre vs ns) (hn : 0 < ns.length) (h4 : ns.length ≤ 4) (hasc : ∀ x ∈ ns, (∀ c ∈ x.cps.toList, c < 128) ∧ x.length ≤ 8)
   (P dx : Addr) (g1 g2 : Int) (a1 a2 a3 : Tok) (n : Nat) (hI : InstAt (s.heap.hide 194) P (instObj 207 dx) 207 (some (ownD g1 g2 a1 a2 a3 n)))
   (G : Gd w p loose mg mb bm ob s) (hh : A.handled = none) (hroom : A.depth + 6 < recursionLimit)
   (he : PySem.Challenge.rw_fq5033_01.row.prog = PySem.Challenge.rw_fq5033_01.row.prog ∧ (hd.heap_39 w.params).In s.heap) :
   codeAny (model prog w) A (.call (.ref 192) ⟨.ref P :: vs, []⟩) (Gives s fun v s' => ∃ (M : Nat) (t : Tok), v = .int (M : Int) t ∧ IsMax M (ns.map fun x => (codeL (x.cps.toList.map up1)).length)) s := by
  revert he; k_fill; intro he
  have hvl : vs.length = ns.length := StrsAre.length hi
  refine enterR (vs := vs) (g₁ := fun D => some [(Str.ofString "self", .ref P), (Str.ofString "sequences", .ref D)]) (binds := fun D => [(Str.ofString "self", .ref P), (Str.ofString "sequences", .ref D)]) G (by k_is) (by k_is) (by omega) ?hp (fun _ => rfl) (fun _ => rfl) (by decide +kernel) ?_ rfl rfl rfl
  case hp =>
    rcases vs with _ | ⟨v1, _ | ⟨v2, _ | ⟨v3, _ | ⟨v4, _ | ⟨v5, vs⟩⟩⟩⟩⟩
    · rfl
    · rfl
    · rfl
    · rfl
    · rfl
    · simp at hvl; omega
  intro ps D L' h₁ tk cells ht htab E0 hD hL F N Y h194 hb
  have X := E0.k
  have T := E0.t
  have M := E0.b
  obtain ⟨oc, hE, d1'⟩ := CellsAre.one Y
  subst hE
  clear Y
  dsimp only [List.nil_append, List.cons_append] at N
  have F1 : Fr (s.heap.hide 194) L' h₁ (fun y => if y = Str.ofString "sequences" then some (.ref D) else none) := F
  clear F
  have d1 : oc.data = .cell (some (.ref P)) := d1'
  clear d1'
  refine wpAny_execs_cons ?_
  refine assign_core (h₀ := s.heap.hide 194) (L := L') (m := fun y => if y = Str.ofString "sequences" then some (.ref D) else none) rfl (by rfl) (by with_unfolding_all rfl) (by decide) rfl (by decide) rfl rfl ?_
  k_steps
  have ht1 : IsTup h₁ D vs.toArray := ⟨_, (N _ (.tail _ (.head _))).1, rfl, _, rfl⟩
  refine iter_tuple ht1 ?_
  have k0 : OK (s.heap.hide 194) L' _ _ s.os (Shared.mk h₁ s.gens s.drawn tk s.os) := ⟨F1, N, hb, rfl⟩
  have k1 := k0.push (o := { cls := .type "tuple_iterator", data := .fields #[.ref D, .int 0 0] })
  have hD194 : 194 ≠ D := Nat.ne_of_lt h194
  refine comp_feed (st₀ := [(h₁.objs.size, { cls := .type "tuple_iterator", data := .fields #[.ref D, .int 0 0] })]) (led₀ := [(L' + 1, oc), (D, tobj vs), (194, tableObj ps)])
    (fun i ys led => ∃ ps own, led = own ++ [(L' + 1, oc), (D, tobj vs), (194, tableObj ps)] ∧ TriplesOk ps.toList ∧ RowsL own ys ((ns.take i).map fun x => codeL (x.cps.toList.map up1)) ∧ ∀ q ∈ own, q.1 ≠ 194)
    rfl rfl (feed_tuple (A := A.deeper _) (ax := D) (its := vs.toArray) hh (Nat.ne_of_lt (k0.lt (q := (D, tobj vs)) (.tail _ (.head _))))) ?_ k1 ⟨_, rfl, fun h e => ⟨_, e, rfl, rfl⟩⟩ (.inr ⟨_, .tail _ (.head _), rfl, _, rfl⟩) ?_ ⟨ps, [], rfl, ht, RowsL.nil _, fun _ h => nomatch h⟩ ?_ ?_ ?_
  · rw [sizeLine_eq]; show vs.toArray.size ≤ _; simp; omega
  · intro p hp q hq
    rw [List.mem_singleton.mp hp]
    exact Nat.ne_of_lt (k0.lt hq)
  · rintro i ys led ⟨ps, own, rfl, _, hR, _⟩
    rw [hR.1]; simp; omega
  · rintro i v ex st ys led C Dl oC mC s₁ E hi1 ⟨hv, rfl⟩ ⟨ps₁, own, rfl, ht₁, hR, hown⟩ hC hx k hCD ap2 ap hS
    obtain ⟨t, rfl⟩ := strs_at hi i v (by simpa using hv)
    have hil : i < ns.length := by simp at hi1; omega
    have hxx : ns.getD i Str.empty ∈ ns := by rw [List.getD_eq_getElem?_getD, List.getElem?_eq_getElem hil]; exact List.getElem_mem hil
    generalize hxd : ns.getD i Str.empty = x at hx hxx
    have hxa := hasc x hxx
    have hcl : (codeS x).length ≤ 1000 := Nat.le_trans (code_len x) (by decide)
    have F2 := k.F
    have N2 : News (s.heap.hide 194) L' s₁.heap ((C, oC) :: (Dl, lst ys) :: (L' + 1, oc) :: (D, tobj vs) :: (194, tableObj ps₁) :: (st ++ own)) := fun q hq => k.N q (by
      simp only [List.mem_cons, List.mem_append, List.nil_append] at hq ⊢
      rcases hq with h | h | h | h | h | h | h <;> simp [h])
    have g2 := k.g
    have U2 : UpdF 194 (tableObj ps₁) ((C, oC) :: (Dl, lst ys) :: (L' + 1, oc) :: (D, tobj vs) :: (194, tableObj ps₁) :: (st ++ own)) _ := .tail ?a1 (.tail ?a2 (.tail ?a5 (.tail ?a6 (.head ?a7))))
    case a1 => exact Ne.symm (ap2 (194, tableObj ps₁) (by simp)).1
    case a2 => exact Ne.symm (ap2 (194, tableObj ps₁) (by simp)).2
    case a5 => show L' + 1 ≠ 194; omega
    case a6 => exact Ne.symm hD194
    case a7 =>
      intro q hq
      rcases List.mem_append.mp hq with h | h
      · exact Ne.symm (ap q h (194, tableObj ps₁) (by simp))
      · exact hown q h
    k_steps
    rename Fr _ _ _ _ => F9
    rename News _ _ _ _ => N9
    rename (AllBare _) => g9
    rename (_ = s₁.os) => o9
    rename Above _ _ => l9
    rename (Ones _ _) => z9
    rename (TriplesOk _) => t9
    have hlast : (ns.take (i + 1)).map (fun x => codeL (x.cps.toList.map up1)) = (ns.take i).map (fun x => codeL (x.cps.toList.map up1)) ++ [(codeS x).cps.toList] := by
      rw [List.take_add_one, List.map_append, List.getElem?_eq_getElem hil]
      have : ns[i] = x := by rw [← hxd]; simp [hil]
      simp [this, codeS]
    exact elt_row [(L' + 1, oc), (D, tobj vs)] (.tail _ (.head _)) F9 N9 g9 (o9.trans k.o) l9 z9 t9 ap2 ap hR hown hlast
  · rintro ys led ⟨ps₂, own, rfl, ht₂, hR, hown⟩ Sq s₂ k offS
    have hall : (ns.take vs.toArray.size).map (fun x => codeL (x.cps.toList.map up1)) = ns.map (fun x => codeL (x.cps.toList.map up1)) := by
      rw [List.take_of_length_le]; simp; omega
    rw [hall] at hR
    have F2 := k.F
    have N2 : News (s.heap.hide 194) L' s₂.heap ((Sq, lst ys) :: (L' + 1, oc) :: (D, tobj vs) :: (194, tableObj ps₂) :: own) := fun q hq => k.N q (by
      simp only [List.mem_cons, List.mem_append, List.not_mem_nil, or_false] at hq ⊢
      rcases hq with h | h | h | h | h <;> simp [h])
    have g2 := k.g
    have o2 := k.o
    have hR2 : RowsL ((Sq, lst ys) :: (L' + 1, oc) :: (D, tobj vs) :: (194, tableObj ps₂) :: own) ys (ns.map (fun x => codeL (x.cps.toList.map up1))) := hR.mono fun q hq => by simp [hq]
    have hmem : (Sq, lst ys) ∈ ((Sq, lst ys) :: (L' + 1, oc) :: (D, tobj vs) :: (194, tableObj ps₂) :: own) := .head _
    have hsz : ∀ l ∈ ns.map (fun x => codeL (x.cps.toList.map up1)), l.length ≤ 1000 := fun l hl => by
      obtain ⟨x, _, rfl⟩ := List.mem_map.mp hl
      exact Nat.le_trans (codeL_len _) (by decide)
    have hpos : 0 < (ns.map (fun x => codeL (x.cps.toList.map up1))).length := by simpa using hn
    k_steps
    rename (_ ∈ List.map _ _) => m1
    rename (∀ l ∈ List.map _ _, _) => m2
    refine Ends.of (by assumption) (by assumption) (.tail _ (.tail _ (.tail _ (.head _)))) ht₂ g2 ⟨_, _, rfl, ?_, ?_⟩ o2
    · rw [List.map_map] at m1; exact m1
    · intro x hx
      obtain ⟨y, hy, rfl⟩ := List.mem_map.mp hx
      exact m2 _ (List.mem_map_of_mem hy)
end Mine
end

section
open PySem PySem.W PySem.W.X PyProof.Rows PySem.Calls PySem.Spec
set_option Elab.async false
set_option maxRecDepth 100000
set_option maxHeartbeats 8000000
set_option linter.all false
namespace Mine
open PyProof.Rows.LCg (NsObj lst lst_snoc ns_obj)
/-- the call's loop, between two turns -/
def LoopLed (L D : Addr) (oc : Obj) (vs : List Value) (Mx : Nat) (tMx : Tok) (cnt : Int) (tC : Tok) (ls : List (List Nat)) (m : Str → Option Value) (led : Led) : Prop :=
  ∃ (u0 u1 u3 : Option Value) (Ln Sq : Addr) (zs : List Value) (cz : Nat) (ys : List Value) (om : Obj) (ps : Array Value) (own : Led),
    m = (fun y => if y = Str.ofString "chars" then u3 else if y = Str.ofString "new_sequences" then u1 else if y = Str.ofString "_" then u0 else if y = Str.ofString "lengths" then some (.ref Ln) else if y = Str.ofString "sequences" then some (.ref Sq) else if y = Str.ofString "max_length" then some (.int Mx tMx) else if y = Str.ofString "count" then some (.int cnt tC) else none) ∧
    led = (Ln, lob zs cz) :: (Sq, lst ys) :: (L + 1 + 1, om) :: (L + 1, oc) :: (D, tobj vs) :: (194, tableObj ps) :: own ∧ TriplesOk ps.toList ∧ (∃ v, om.data = .cell v) ∧ RowsL own ys ls ∧ IntsAre zs (lensI ls) ∧
    (Ln, lob zs cz).1 ≠ L + 1 + 1 ∧ (Sq, lst ys).1 ≠ L + 1 + 1 ∧ ∀ q ∈ (L + 1, oc) :: (D, tobj vs) :: (194, tableObj ps) :: own, q.1 ≠ L + 1 + 1

theorem round_end {s' : Shared} {h₀ : Heap} {L D Dn S6 Ns Ln Sq : Addr} {oc om : Obj} {vs zs ys : List Value} {c Mx : Nat} {tMx tC : Tok} {cnt : Int} {ps : Array Value} {own st own4 : Led} {ls : List (List Nat)} {u0 : Value} {u : Option Value} {os₀ : OsState}
    (F : Fr h₀ L s'.heap (fun y => if y = Str.ofString "lengths" then some (.ref Dn) else if y = Str.ofString "sequences" then some (.ref S6) else if y = Str.ofString "chars" then u else if y = Str.ofString "new_sequences" then some (.ref Ns) else if y = Str.ofString "_" then some u0 else if y = Str.ofString "lengths" then some (.ref Ln) else if y = Str.ofString "sequences" then some (.ref Sq) else if y = Str.ofString "max_length" then some (.int Mx tMx) else if y = Str.ofString "count" then some (.int cnt tC) else none))
    (N : News h₀ L s'.heap ((Dn, lob zs c) :: (S6, lst ys) :: (L + 1 + 1, om) :: (L + 1, oc) :: (D, tobj vs) :: (194, tableObj ps) :: (own4 ++ (st ++ own))))
    (l : ∀ q ∈ (S6, lst ys) :: (L + 1 + 1, om) :: (L + 1, oc) :: (D, tobj vs) :: (194, tableObj ps) :: (own4 ++ (st ++ own)), q.1 < Dn) (z : IntsAre zs (lensI ls)) (g : AllBare s'.gens) (o : s'.os = os₀) (ht : TriplesOk ps.toList) (d2 : ∃ v, om.data = .cell v)
    (hR : RowsL own4 ys ls) (hap : ∀ q ∈ (L + 1, oc) :: (D, tobj vs) :: (194, tableObj ps) :: own, q.1 ≠ L + 1 + 1) (hst : Ap st ((L + 1 + 1, om) :: (L + 1, oc) :: (D, tobj vs) :: (194, tableObj ps) :: own))
    (h4a : ∀ q ∈ own4, q.1 ≠ L + 1 + 1) (h4b : Ap st own4) (hS : ∀ q ∈ (L + 1 + 1, om) :: st, q.1 ≠ S6) :
    BodyEnd h₀ L os₀ (fun _ => True) (LoopLed L D oc vs Mx tMx cnt tC ls) st .next s' := by
  refine BodyEnd.intro ((Dn, lob zs c) :: (S6, lst ys) :: (L + 1 + 1, om) :: (L + 1, oc) :: (D, tobj vs) :: (194, tableObj ps) :: (own4 ++ own)) F N g o ?_ ?_ trivial ⟨some u0, some (.ref Ns), u, Dn, S6, zs, c, ys, om, ps, own4 ++ own, ?_, rfl, ht, d2, hR.mono fun q hq => by simp [hq], z, ?_, ?_, ?_⟩
  · intro q hq
    simp only [List.mem_cons, List.mem_append] at hq ⊢
    rcases hq with h | h | h | h | h | h | h | h | h <;> simp [h]
  · intro p hp q hq
    have hl := l p (by simp [hp])
    rcases List.mem_cons.mp hq with rfl | hq
    · exact Nat.ne_of_gt hl
    rcases List.mem_cons.mp hq with rfl | hq
    · exact Ne.symm (hS p (List.mem_cons_of_mem _ hp))
    · simp only [List.mem_cons, List.mem_append] at hq
      rcases hq with h | h | h | h | h | h
      iterate 4 (· exact hst p hp q (by simp [h]))
      · exact h4b p hp q h
      · exact hst p hp q (by simp [h])
  · funext y
    by_cases c1 : y = Str.ofString "lengths"
    · subst c1; rfl
    by_cases c2 : y = Str.ofString "sequences"
    · subst c2; rfl
    simp only [if_neg c1, if_neg c2]
  · exact Nat.ne_of_gt (l (L + 1 + 1, om) (by simp))
  · exact Ne.symm (hS _ List.mem_cons_self)
  · intro q hq
    simp only [List.mem_cons, List.mem_append] at hq
    rcases hq with h | h | h | h | h
    iterate 3 (· exact hap q (by simp [h]))
    · exact h4a q h
    · exact hap q (by simp [h])
end Mine
end

section
open PySem PySem.W PySem.W.X PyProof.Rows PySem.Calls PySem.Spec
set_option Elab.async false
set_option maxRecDepth 100000
set_option maxHeartbeats 8000000
set_option linter.all false
namespace Mine
open PyProof.Rows.LCg (NsObj lst lst_snoc ns_obj)
section
variable {prog : Program} {w : World} {A : Around} {E : Value → Shared → Prop} {s : Shared} {h₀ : Heap} {L : Addr} {m : Str → Option Value} {news : List (Addr × Obj)} {env : Env} {os₀ : OsState}
theorem star_lob {a : Addr} {ys : List Value} {c : Nat} {Q : List Value → Shared → Prop} (F : Fr h₀ L s.heap m) (N : News h₀ L s.heap news) (ha : (a, lob ys c) ∈ news) (hz : ys.length ≤ 1000)
    (h : ∀ h', Fr h₀ L h' m → News h₀ L h' news → Q ys { s with heap := h' }) : StarOf (model prog w) A E (.ref a) Q s :=
  star_seq F N ha rfl rfl (.inl rfl) (by simp) (by rw [sizeLine_eq]; simp; omega) h
theorem list_tup {a : Addr} {zs : List Value} {Q : Value → Shared → Prop} (F : Fr h₀ L s.heap m) (N : News h₀ L s.heap news) (hm : (a, tobj zs) ∈ news) (hz : zs.length ≤ 1000)
    (h : ∀ D c h', Fr h₀ L h' m → News h₀ L h' ((D, lob zs c) :: news) → Above D news → Q (.ref D) { s with heap := h' }) : wpAny (model prog w) A (call (.type "list") [.ref a]) Q E s :=
  kup_listOfT F N hm (by simp) (fun D c h' F' N' l' => h D c h' F' N' l') (by rw [sizeLine_eq]; simp; omega)
theorem go_zip {elts : List Expr} {x1} {pos : Pos} {z TI TO T : Addr} {f0 f1 : Value} {Q : Unit → Shared → Prop} (hz : s.heap.get? z = some (zobj f0 f1 TI TO)) (hf : f0 = .none ∨ ∃ T : Nat, f0 = rawInt T)
    (hQ : ∀ h' f0', h'.get? z = some (zobj f0' f1 TI TO) → (f0' = .none ∨ ∃ T : Nat, f0' = rawInt T) → Heap.SameBut z s.heap h' → Q () { s with heap := h' }) :
    wpAny (model prog w) A (letOwnedTupleGo (.Tuple elts x1 pos) (.ref z) (.ref T)) Q E s := by
  unfold letOwnedTupleGo
  refine wpAny_bind (wpAny_load hz ?_)
  show wpAny _ _ (if (["enumerate", "zip", "dict_itemiterator", "dict_reverseitemiterator", "odict_iterator", "itertools.zip_longest", "itertools.pairwise"].contains "zip" &&
      (#[f0, f1, .bool false, .ref TI, .ref TO] : Array Value)[0]? == some (rawInt T)) = true then _ else _) Q E s
  split
  · refine wpAny_bind (wpAny_rule ?_)
    show wpAny _ _ (setField (.ref z) 0 .none) Q E s
    exact wpAny_setField_rec hz (by simp) fun h' hz' hs' => hQ h' _ hz' (.inl rfl) hs'
  · exact wpAny_pure (hQ s.heap f0 hz hf (Heap.SameBut.refl ..))

theorem bind_pair {x x₂ : Str} {px px₂ tp : Pos} {tk : Nat} {scope : Scope} {cl : List (Str × Addr)} {C D T : Addr} {mC : Str → Option Value} {v₁ v₂ : Value} {ys : List Value} {led : Led} {Q : Unit → Shared → Prop} (hh : A.handled = none)
    (hx : scope.names.lookup x = some .local) (hx₂ : scope.names.lookup x₂ = some .local) (hxx : x ≠ x₂) (hkind : scope.kind = .function)
    (k : OK h₀ L m ((D, lst ys) :: led) os₀ s) (hn : s.heap.Ns C mC) (cat : CAt h₀ L C D led) (hT : (T, tobj [v₁, v₂]) ∈ led)
    (hQ : ∀ h' tk mC', OK h₀ L m ((D, lst ys) :: led) os₀ { s with heap := h', toks := tk } → h'.Ns C mC' → mC' x = some v₁ → mC' x₂ = some v₂ → Q () { s with heap := h', toks := tk }) :
    wpAny (model prog w) A (assign (.Tuple [.Name x px, .Name x₂ px₂] tk tp) (compEnvC scope cl C env) (.ref T)) Q E s := by
  have ht : IsTup s.heap T #[v₁, v₂] := ⟨_, (k.N _ (List.mem_cons_of_mem _ hT)).1, rfl, _, rfl⟩
  have offC : ∀ q ∈ (D, lst ys) :: led, q.1 ≠ C := fun q hq => by
    rcases List.mem_cons.mp hq with rfl | hq
    · exact Ne.symm cat.cd
    · exact (cat.off q hq).1
  refine assign_Tuple_tuple hh ht rfl rfl fun h₅ he => ?_
  have he' : ∀ b o, s.heap.get? b = some o → h₅.get? b = some o := fun b o e => he b o (Nat.ne_of_lt (Heap.lt_size e)) e
  have k5 : ∀ tk, OK h₀ L m ((D, lst ys) :: led) os₀ { s with heap := h₅, toks := tk } := fun tk => k.keeps he'
  refine assignInOrder_cons (wpAny_assign_Name (wpAny_storeName_local (lookup_relabel_local hx) (hn.at' fun o e => he' _ o e) (fun h₆ hn₆ hs₆ => ?_) (by simp [compEnvC, relabel, hkind])))
  refine assignInOrder_cons (wpAny_assign_Name (wpAny_storeName_local (lookup_relabel_local hx₂) hn₆ (fun h₃ hn₃ hs₃ => ?_) (by simp [compEnvC, relabel, hkind])))
  refine assignInOrder_nil ?_
  have k6 : ∀ tk, OK h₀ L m ((D, lst ys) :: led) os₀ { s with heap := h₆, toks := tk } := fun tk => (k5 tk).aside (tk := tk) hs₆ cat.cl cat.c0 offC
  exact hQ h₃ _ _ ((k6 _).aside hs₃ cat.cl cat.c0 offC) hn₃ (by simp [hxx]) (by simp)

theorem comp_zip2 {elt : Expr} {x x₂ : Str} {px px₂ tp : Pos} {tkk : Nat} {scope : Scope} {cl : List (Str × Addr)} {K : OsState → List Value → Led → Prop} {z TI TO : Addr} {subs : List ZSub} {n : Nat} {st₀ led₀ : Led} {vals : Nat → List Value} {V1 V2 : Nat → Value}
    (JE : Nat → List Value → Led → Prop) (hx : scope.names.lookup x = some .local) (hx₂ : scope.names.lookup x₂ = some .local) (hxx : x ≠ x₂) (hkind : scope.kind = .function) (hh : A.handled = none)
    (FD : Feed prog w A h₀ L z n (fun i v ex => ∃ T, v = .ref T ∧ ex = [(T, tobj (vals i))]) (ZO z TI TO subs) (ZS h₀ subs)) (DD : ZAp z TI TO subs) (hv : ∀ i, i < n → vals i = [V1 i, V2 i])
    (hsz : n ≤ sizeLine) (k : OK h₀ L m (st₀ ++ led₀) os₀ s) (hO : ZO z TI TO subs 0 st₀) (hS : ZS h₀ subs led₀) (hap : Ap st₀ led₀) (h0 : JE 0 [] led₀) (hlen : ∀ i ys led, JE i ys led → ys.length ≤ i)
    (elt_ok : ∀ i st ys led C D oC mC s (E : Value → Shared → Prop), i < n → JE i ys led → NsObj oC mC → mC x = some (V1 i) → mC x₂ = some (V2 i) → OK h₀ L m ((C, oC) :: (D, lst ys) :: (st ++ led)) os₀ s → C ≠ D → Ap2 C D (st ++ led) → Ap st led → ZS h₀ subs led →
      wpAny (model prog w) A (eval elt (compEnvC scope cl C env)) (EltEnd h₀ L m os₀ (ZS h₀ subs) (JE (i + 1)) C oC D ys st) E s)
    (fin : ∀ ys led, JE n ys led → K os₀ ys led) :
    CompAt prog w A h₀ L m env elt (.Tuple [.Name x px, .Name x₂ px₂] tkk tp) scope cl K (.ref z) s := by
  refine ⟨z, n, fun i ys led => ∃ st rest, led = st ++ rest ∧ ZO z TI TO subs i st ∧ ZS h₀ subs rest ∧ Ap st rest ∧ JE i ys rest, fun ys led => JE n ys led, st₀ ++ led₀, os₀, rfl, hsz, k, ⟨st₀, led₀, rfl, hO, hS, hap, h0⟩, ?_, ?_, ?_, ?_, fun ys led hj => fin ys led hj⟩
  · rintro i ys led ⟨st, rest, rfl, _, _, _, hj⟩
    exact hlen i ys rest hj
  · rintro i ys led C D mC s E hi ⟨st, rest, rfl, hO, hS, hap, hj⟩ k hn cat
    have hS' : ZS h₀ subs ((D, lst ys) :: rest) := FD.mono _ _ (fun q hq => List.mem_cons_of_mem _ hq) hS
    have hap' : Ap st ((D, lst ys) :: rest) := fun p hp q hq => by
      rcases List.mem_cons.mp hq with rfl | hq
      · exact Ne.symm (cat.off p (List.mem_append_left _ hp)).2
      · exact hap p hp q hq
    refine FD.next i st ((D, lst ys) :: rest) m os₀ s E _ hi hS' hO (k.perm fun q hq => ?_) hap' fun v ex st' h' tk hP hO' hst k' hex hk => ?_
    · rcases List.mem_append.mp hq with h | h
      · exact List.mem_cons_of_mem _ (List.mem_append_left _ h)
      · rcases List.mem_cons.mp h with rfl | h
        · exact List.mem_cons_self
        · exact List.mem_cons_of_mem _ (List.mem_append_right _ h)
    obtain ⟨T, rfl, rfl⟩ := hP
    have hstm : ∀ p ∈ st', ∃ q ∈ st, q.1 = p.1 := fun p hp => by
      have := List.mem_map_of_mem (f := (·.1)) hp
      rw [hst] at this
      obtain ⟨q, hq, e⟩ := List.mem_map.mp this
      exact ⟨q, hq, e⟩
    refine ⟨_, rfl, ?_⟩
    have Z' : ZAt z TI TO subs (i + 1) h' := hO'.2 h' (fun q hq => (k'.N q (List.mem_append_left _ hq)).1) fun u hu => (hS u hu).is k'.F.keep (k'.weak fun q hq => List.mem_append_right _ (List.mem_append_right _ (List.mem_cons_of_mem _ hq))).N
    obtain ⟨f0, f1, hz, hf⟩ := Z'.z
    refine go_zip hz hf fun h2 f0' hz2 hf2 hs2 => ?_
    have kz : ∀ c o, c ≠ z → h'.get? c = some o → h2.get? c = some o := fun c o hc e => hs2.extBut _ _ hc e
    have Z2 : ZAt z TI TO subs (i + 1) h2 := by
      obtain ⟨vs, hTO, hvl⟩ := Z'.to
      exact ⟨⟨f0', f1, hz2, hf2⟩, kz _ _ DD.TIz Z'.ti, ⟨vs, kz _ _ DD.TOz hTO, hvl⟩, fun u hu => (Z'.at_ u hu).keep (fun o e => kz _ _ (DD.iz u hu) e) fun o e => kz _ _ (DD.az u hu) e⟩
    obtain ⟨st2, hO2, hs2'⟩ := ZO.of Z2
    have hadd : st2.map (·.1) = st'.map (·.1) := hO2.1.trans hO'.1.symm
    have hzst : z ∈ st'.map (·.1) := by rw [hO'.1]; simp [zadd]
    obtain ⟨pz, hpz, epz⟩ := List.mem_map.mp hzst
    have hzl := k'.N pz (List.mem_append_left _ hpz)
    rw [epz] at hzl
    have hst2m : ∀ p ∈ st2, ∃ q ∈ st', q.1 = p.1 := fun p hp => by
      have := List.mem_map_of_mem (f := (·.1)) hp
      rw [hadd] at this
      obtain ⟨q, hq, e⟩ := List.mem_map.mp this
      exact ⟨q, hq, e⟩
    have hst2s : ∀ p ∈ st2, ∃ q ∈ st, q.1 = p.1 := fun p hp => by
      obtain ⟨q, hq, e⟩ := hst2m p hp
      obtain ⟨q', hq', e'⟩ := hstm q hq
      exact ⟨q', hq', e'.trans e⟩
    obtain ⟨pz', hpz', epz'⟩ := hstm pz hpz
    have hapx : Ap st' ([(T, tobj (vals i))] ++ ((D, lst ys) :: rest)) := fun p hp q hq => by
      obtain ⟨p', hp', e⟩ := hstm p hp
      rw [← e]
      rcases List.mem_append.mp hq with h | h
      · intro e'
        have := hex q h
        rw [e', (k.N p' (List.mem_cons_of_mem _ (List.mem_append_left _ hp'))).1] at this; cases this
      · exact hap' p' hp' q h
    have k2 : OK h₀ L m (st2 ++ ([(T, tobj (vals i))] ++ ((D, lst ys) :: rest))) os₀ { s with heap := h2, toks := tk } := by
      refine ⟨k'.F.change hs2 hzl.2.1 hzl.2.2, fun q hq => ?_, k'.g, k'.o⟩
      rcases List.mem_append.mp hq with h | h
      · obtain ⟨q', hq', e⟩ := hst2m q h
        have := k'.N q' (List.mem_append_left _ hq')
        rw [e] at this
        exact ⟨hs2' q h, this.2⟩
      · have := k'.N q (List.mem_append_right _ h)
        exact ⟨kz _ _ (fun e => hapx pz hpz q h (e.trans epz.symm)) this.1, this.2⟩
    have hCst : ∀ p ∈ st, C ≠ p.1 := fun p hp => Ne.symm (cat.off p (List.mem_append_left _ hp)).1
    have hn2 : Heap.Ns h2 C mC := (hn.at' (h' := h') fun o e => hk C o hCst e).at' fun o e => kz C o (fun q => hCst pz' hpz' (q.trans (epz'.trans epz).symm)) e
    obtain ⟨oC0, hC0, hCo0⟩ := ns_obj hn
    have cat' : CAt h₀ L C D (st2 ++ ([(T, tobj (vals i))] ++ rest)) := ⟨cat.cl, cat.c0, cat.cd, fun q hq => by
      rcases List.mem_append.mp hq with h | h
      · obtain ⟨p, hp, e⟩ := hst2s q h
        rw [← e]; exact cat.off p (List.mem_append_left _ hp)
      · rcases List.mem_append.mp h with h | h
        · refine ⟨fun e => ?_, fun e => ?_⟩
          · have := hex q h; rw [e, hC0] at this; cases this
          · have := hex q h; rw [e, (k.N _ List.mem_cons_self).1] at this; cases this
        · exact cat.off q (List.mem_append_right _ h)⟩
    have k3 : OK h₀ L m ((D, lst ys) :: (st2 ++ ([(T, tobj (vals i))] ++ rest))) os₀ { s with heap := h2, toks := tk } := k2.perm fun q hq => by
      simp only [List.mem_cons, List.mem_append, List.not_mem_nil, or_false] at hq ⊢
      rcases hq with h | h | h | h <;> simp [h]
    refine bind_pair (v₁ := V1 i) (v₂ := V2 i) hh hx hx₂ hxx hkind k3 hn2 cat' (by rw [← hv i hi]; simp) fun h₃ tk₃ mC' k₃ hn₃ e1 e2 => ?_
    obtain ⟨oC, hC, hCo⟩ := ns_obj hn₃
    have k₄ : OK h₀ L m ((C, oC) :: (D, lst ys) :: (st2 ++ rest)) os₀ { s with heap := h₃, toks := tk₃ } := ⟨k₃.F, fun q hq => by
      rcases List.mem_cons.mp hq with rfl | h
      · exact ⟨hC, cat.cl, cat.c0⟩
      · refine k₃.N q ?_
        simp only [List.mem_cons, List.mem_append, List.not_mem_nil, or_false] at h ⊢
        rcases h with h | h | h <;> simp [h], k₃.g, k₃.o⟩
    have ap₄ : Ap st2 rest := fun p hp q hq => by
      obtain ⟨p', hp', e⟩ := hst2s p hp
      rw [← e]; exact hap p' hp' q hq
    refine wpAny_mono (elt_ok i st2 ys rest C D oC _ _ _ hi hj hCo e1 e2 k₄ cat.cd (fun q hq => cat'.off q (by
      rcases List.mem_append.mp hq with h | h <;> simp [h])) ap₄ hS) (fun y s₅ h₅ => ?_) fun _ _ e => e
    obtain ⟨rest', k₅, a₅, ap₅, hS₅, hj₅⟩ := h₅
    refine ⟨st2 ++ rest', _, k₅.perm fun q hq => List.mem_cons_of_mem _ hq, hCo.ns (k₅.N _ List.mem_cons_self).1, ⟨cat.cl, cat.c0, cat.cd, fun q hq => ?_⟩, st2, rest', rfl, hO2, hS₅, ap₅, hj₅⟩
    rcases List.mem_append.mp hq with h | h
    · exact cat'.off q (by simp [h])
    · exact a₅ q h
  · rintro ys led C D mC s E ⟨st, rest, rfl, hO, hS, hap, hj⟩ k hn cat
    have hS' : ZS h₀ subs ((D, lst ys) :: rest) := FD.mono _ _ (fun q hq => List.mem_cons_of_mem _ hq) hS
    have hap' : Ap st ((D, lst ys) :: rest) := fun p hp q hq => by
      rcases List.mem_cons.mp hq with rfl | hq
      · exact Ne.symm (cat.off p (List.mem_append_left _ hp)).2
      · exact hap p hp q hq
    have k1 : OK h₀ L m (st ++ ((D, lst ys) :: rest)) os₀ s := k.perm fun q hq => by
      rcases List.mem_append.mp hq with h | h
      · exact List.mem_cons_of_mem _ (List.mem_append_left _ h)
      · rcases List.mem_cons.mp h with rfl | h
        · exact List.mem_cons_self
        · exact List.mem_cons_of_mem _ (List.mem_append_right _ h)
    refine FD.stop st ((D, lst ys) :: rest) m os₀ s E _ hS' hO k1 hap' fun h' tk hk => ?_
    refine ⟨rfl, rest, mC, k1.but hk hap', hn.at' fun o e => hk C o (fun p hp => Ne.symm (cat.off p (List.mem_append_left _ hp)).1) e, cat.mono fun q hq => .inl (List.mem_append_right _ hq), hj⟩
  · rintro led s E Q ⟨st, rest, rfl, hO, hS, hap, hj⟩ k hQ
    exact FD.self st rest m os₀ s E Q hO hS k hQ

/-- calling zip on two lists of one length -/
theorem zip_two {a b : Addr} {xs ys : List Value} {c d : Nat} {base : Led} {Q : Value → Shared → Prop} (F : Fr h₀ L s.heap m) (N : News h₀ L s.heap news) (hbase : ∀ q ∈ base, q ∈ news) (ha : (a, lob xs c) ∈ base) (hb : (b, lob ys d) ∈ base) (hl : xs.length = ys.length) (hne : 0 < xs.length)
    (h : ∀ h' z TI TO subs st, Fr h₀ L h' m → News h₀ L h' (st ++ news) → ZO z TI TO subs 0 st → ZAp z TI TO subs → Ap st news → ZS h₀ subs base →
      (∀ A' : Around, A'.handled = none → Feed prog w A' h₀ L z xs.length (fun i v ex => ∃ T, v = .ref T ∧ ex = [(T, tobj [xs.getD i .none, ys.getD i .none])]) (ZO z TI TO subs) (ZS h₀ subs)) → Q (.ref z) { s with heap := h' }) :
    wpAny (model prog w) A (call (.type "zip") [.ref a, .ref b]) Q E s := by
  have hin : ∀ q ∈ [(⟨a, xs.toArray, false⟩ : ZSrc), ⟨b, ys.toArray, false⟩], q.In h₀ base := fun q hq => by
    simp only [List.mem_cons, List.not_mem_nil, or_false] at hq
    rcases hq with rfl | rfl
    · exact .inr ⟨_, ha, rfl, _, rfl⟩
    · exact .inr ⟨_, hb, rfl, _, rfl⟩
  refine call_zip (srcs := [(⟨a, xs.toArray, false⟩ : ZSrc), ⟨b, ys.toArray, false⟩]) (fun q hq => ((hin q hq).mono hbase).is F.keep N) (by simp) fun h' z TI TO subs Z D hlen hsub hit hz hTI hTO hk => ?_
  obtain ⟨st, hO, hst⟩ := ZO.of Z
  have hnew : ∀ a ∈ zadd z TI TO subs, s.heap.get? a = none := fun a ha => by
    simp only [zadd, List.mem_cons, List.mem_map] at ha
    rcases ha with rfl | rfl | rfl | ⟨u, hu, rfl⟩
    · exact hz
    · exact hTO
    · exact hTI
    · exact (hsub u hu).1
  have hstn : ∀ p ∈ st, s.heap.get? p.1 = none := fun p hp => hnew _ (by rw [← hO.1]; exact List.mem_map_of_mem hp)
  have hlen2 : subs.length = 2 := hlen
  refine h h' z TI TO subs st (F.keeps hk) (fun q hq => ?_) hO D (fun p hp q hq e => ?_) (fun u hu => ?_) fun A' hA => ?_
  · rcases List.mem_append.mp hq with hq | hq
    · refine ⟨hst q hq, fun e => ?_, ?_⟩
      · obtain ⟨o, _, _, ho, _⟩ := F.ns
        have := hstn q hq
        rw [e, ho] at this; cases this
      · cases e : h₀.get? q.1 with
        | none => rfl
        | some o => have := F.keep _ _ e; rw [hstn q hq] at this; cases this
    · exact ⟨hk _ _ (N q hq).1, (N q hq).2⟩
  · have := hstn p hp
    rw [← e, (N q hq).1] at this; cases this
  · obtain ⟨q, hq, e1, e2, e3⟩ := (hsub u hu).2
    have : u.src = q := by unfold ZSub.src; rw [e1, e2, e3]
    rw [this]; exact hin q hq
  · have hne2 : subs ≠ [] := fun e => by rw [e] at hlen2; cases hlen2
    have hsz : ∀ u ∈ subs, u.items.size = xs.length := fun u hu => by
      have : u.items ∈ [xs.toArray, ys.toArray] := by
        rw [show [xs.toArray, ys.toArray] = subs.map (·.items) from hit.symm]; exact List.mem_map_of_mem hu
      simp only [List.mem_cons, List.not_mem_nil, or_false] at this
      rcases this with e | e <;> rw [e]
      · simp
      · simp [hl]
    have F1 := feed_zip (prog := prog) (w := w) (A := A') (h₀ := h₀) (L := L) (n := xs.length) hA D hne2 (by rw [sizeLine_eq]; omega) (fun u hu => Nat.le_of_eq (hsz u hu).symm) (by
      obtain ⟨u, hu⟩ := List.exists_mem_of_ne_nil _ hne2
      exact ⟨u, hu, Nat.le_of_eq (hsz u hu)⟩)
    have hv : ∀ i, subs.map (·.val i) = [xs.getD i .none, ys.getD i .none] := fun i => by
      have e : subs.map (·.val i) = (subs.map (·.items)).map (zval · i) := by rw [List.map_map]; rfl
      rw [e, hit]
      simp [zval, List.getD_eq_getElem?_getD, Array.getD_eq_getD_getElem?]
    simpa only [hv] using F1
end
end Mine
end

section
local macro_rules | `(tactic| walk_at "pad") => `(tactic| skip)
local macro_rules | `(tactic| walk_at "pad") => `(tactic| skip)
local macro_rules | `(tactic| walk_at "pad") => `(tactic| skip)
local macro_rules | `(tactic| walk_at "pad") => `(tactic| skip)
local macro_rules | `(tactic| walk_at "pad") => `(tactic| skip)
local macro_rules | `(tactic| walk_at "pad") => `(tactic| skip)
local macro_rules | `(tactic| walk_at "pad") => `(tactic| skip)
local macro_rules | `(tactic| walk_at "pad") => `(tactic| skip)
local macro_rules | `(tactic| walk_at "pad") => `(tactic| skip)
local macro_rules | `(tactic| walk_at "pad") => `(tactic| skip)
open PySem PySem.W PySem.W.X PyProof.Rows PySem.Calls PySem.Spec
set_option Elab.async false
set_option maxRecDepth 100000
set_option maxHeartbeats 8000000
set_option pp.deepTerms false
set_option pp.deepTerms.threshold 6
set_option pp.structureInstances false
set_option linter.all false
namespace Mine
variable {w : World} {p : Program} {loose : List Str} {mg mb : Str → Option Value} {bm : Addr} {ob : Obj} {s : Shared} {A : Around}
local macro_rules | `(tactic| k_inst) => `(tactic| (exact InstAt.up (by assumption) (by assumption)))
open PyProof.Rows.LCg (NsObj lst lst_snoc ns_obj)
local macro_rules | `(tactic| walk_at "eval Name") => `(tactic| ((with_reducible show wpAny _ _ (eval (Expr.Name _ _) (compEnvC _ _ _ _)) _ _ _); k_dflt (first
  | (refine' ce_own ?N ?m ?C ?x ?_ ?a ?b; (case a => rfl); (case b => rfl); (case N => assumption); (case m => k_mem); (case C => assumption); (case x => assumption))
  | (refine' ce_cell ?N ?c ?m ?d ?_ ?a ?b; (case a => rfl); (case b => rfl); (case N => assumption); (case c => rfl); (case m => k_mem); (case d => assumption))
  | (refine' ce_global ?F ?X ?T ?e ?_ ?g ?a ?b; (case a => rfl); (case b => rfl); (case g => rfl); (case F => assumption); (case X => assumption); (case T => assumption); (case e => k_is))
  | (refine' ce_built ?F ?X ?T ?e ?v ?n ?_ ?g ?g2 ?a ?b; (case a => rfl); (case b => rfl); (case g => rfl); (case g2 => rfl); (case F => assumption); (case X => assumption); (case T => assumption); (case e => k_is); (case v => boot_by_name); (case n => decide)))))
local macro_rules | `(tactic| walk_at "call type:list") => `(tactic| ((with_reducible show wpAny _ _ (call (Value.type "list") [Value.str _ _]) _ _ _); refine' list_ones ?F ?N ?hh ?x ?_; (case F => assumption); (case N => assumption); (case hh => assumption); (case x => assumption); intro D' c' zs' h' tk' F' N' l' z'))
local macro_rules | `(tactic| walk_at "call type:map") => `(tactic| (refine' map_led ?F ?N ?l ?R ?z ?_; (case F => assumption); (case N => assumption); (case l => assumption); (case R => assumption); (case z => assumption); intro h' I' F' N' X'))
local macro_rules | `(tactic| walk_at "call builtin:max") => `(tactic| (refine' max_led ?F ?N ?hh ?m ?i ?n ?_; (case F => assumption); (case N => assumption); (case hh => assumption); (case m => k_mem); (case i => assumption); (case n => assumption); intro h' M' t' tk' F' N' m1))
local macro_rules | `(tactic| walk_at "call builtin:min") => `(tactic| (refine' min_led ?F ?N ?hh ?m ?i ?n ?_; (case F => assumption); (case N => assumption); (case hh => assumption); (case m => k_mem); (case i => assumption); (case n => assumption); intro h' M' t' tk' F' N' m1))
local macro_rules | `(tactic| walk_at "call builtin:len") => `(tactic| (refine' len_lob ?N ?m ?z ?_; (case N => assumption); (case m => k_mem); (case z => assumption)))
local macro_rules | `(tactic| walk_at "call type:list") => `(tactic| ((with_reducible rename MapIs _ _ _ _ _ _ => mX); refine' list_map_led ?F ?N ?hh mX ?n ?_; (case F => assumption); (case N => assumption); (case hh => assumption); (case n => assumption); intro h' D' zs' c' tk' F' N' l' z'))
local macro_rules | `(tactic| walk_at "call builtin:all") => `(tactic| (refine' all_tup ?F ?N ?hh ?m ?i ?n ?_; (case F => assumption); (case N => assumption); (case hh => assumption); (case m => k_mem); (case i => assumption); (case n => assumption); intro h' tk' F' N'))
local macro_rules | `(tactic| walk_at "exec For Name Call cons nil") => `(tactic| ((with_reducible rename Fr _ _ _ _ => kF); refine' for_coreF kF ?hx ?hp ?_ ?hs; (case hx => first | exact rfl | with_unfolding_all rfl); (case hp => first | exact rfl | with_unfolding_all rfl); (case hs => (intro _; first | exact rfl | with_unfolding_all rfl))))

local macro_rules | `(tactic| walk_at "eval Call Attribute") => `(tactic| ((with_reducible show wpAny _ _ (eval (Expr.Call (Expr.Attribute _ _ _) [Expr.Starred _ _] [] _) _) _ _ _); refine methodCall_S ?_))
local macro_rules | `(tactic| walk_at "getAttr ref") => `(tactic| (k_dflt (refine' get_sm ?k1 ?k2 ?k4 ?k5 ?k6 ?k7 ?k9 ?k10 ?k11 ?k12 ?k13 ?k14 ?_; (case k1 => k_asm); (case k2 => k_asm); (case k4 => k_inst); (case k5 => k_is); (case k6 => k_is); (case k7 => k_is); (case k9 => k_is); (case k10 => k_is); (case k11 => decide +kernel); (case k12 => k_get); (case k13 => k_is); (case k14 => k_handed))))
local macro_rules | `(tactic| walk_at "call ref") => `(tactic| (refine' IdentStep ?E0 ?F ?N ?m ?t ?g ?i ?n ?n4 ?hh ?room ?_; (case E0 => assumption); (case F => assumption); (case N => assumption); (case m => assumption); (case t => assumption); (case g => assumption); (case i => assumption); (case n => assumption); (case n4 => assumption); (case hh => assumption); (case room => (show _ + 1 < recursionLimit; omega)); intro h' tk' F' N'))
local macro_rules | `(tactic| walk_at "call type:list") => `(tactic| ((with_reducible show wpAny _ _ (call (Value.type "list") [Value.ref _]) _ _ _); refine' list_tup ?F ?N ?m ?z ?_; (case F => assumption); (case N => assumption); (case m => k_mem); (case z => assumption); intro D' c' h' F' N' l'))

local macro_rules | `(tactic| walk_at "call builtin:len") => `(tactic| (refine' len_lob ?N ?m ?z ?_; (case N => assumption); (case m => k_mem); (case z => assumption)))
theorem pick_drop (zs : List Value) (n : Nat) : slicePick zs.toArray (some (n : Int)) none none = (zs.drop n).toArray := by
  have e : sliceBounds (some (n : Int)) none none zs.toArray.size = (((min n zs.length : Nat) : Int), ((zs.length : Nat) : Int), 1) := by
    simp only [sliceBounds, Option.getD_none, show (1 : Int) > 0 by decide, if_true, if_neg (show ¬ ((n : Int) < 0) by omega)]
    simp only [List.size_toArray]
    congr 1
    omega
  rw [kmk_pick_nat _ e]
  show ((zs.drop (min n zs.length)).take (zs.length - min n zs.length)).toArray = _
  rw [kmk_drop_min, List.take_of_length_le]
  rw [List.length_drop]; omega
theorem round3 {whole body : List Stmt} {scope : Scope} {name qual : Str} {params : Arguments} {dV kV doc pm cdv ct oc' : Value} {an od' : Option Addr} {osl : Array (Option Value)} {t it : Expr} {pos : Pos}
   (hfn : (hd.heap_39 w.params).lookup 204 = some ⟨oc', od', .func (fnOf name qual params whole scope dV kV doc pm an cdv ct), osl⟩) (hb : whole[6]? = some (.For t it body [] pos))
   {P dx : Addr} {g1 g2 : Int} {a1 a2 a3 : Tok} {n : Nat} {h₀ : Heap} {L D Ln Sq Ns : Addr} {oc om : Obj} {vs zs ys Nr : List Value} {cz Mx Mn cN : Nat} {tMx tC tMn : Tok} {cnt : Int} {ps : Array Value} {own st ownN : Led} {ls : List (List Nat)} {u0 : Value} {u : Option Value} {os₀ : OsState}
   (hI : InstAt h₀ P (instObj 207 dx) 207 (some (ownD g1 g2 a1 a2 a3 n))) (hh : A.handled = none) (hroom : A.depth + 6 < recursionLimit)
   (he : PySem.Challenge.rw_fq5033_01.row.prog = PySem.Challenge.rw_fq5033_01.row.prog ∧ (hd.heap_39 w.params).In s.heap)
   (E0 : Env0 w p loose mg mb bm ob h₀) (F : Fr h₀ L s.heap (fun y => if y = Str.ofString "chars" then u else if y = Str.ofString "new_sequences" then some (.ref Ns) else if y = Str.ofString "_" then some u0 else if y = Str.ofString "lengths" then some (.ref Ln) else if y = Str.ofString "sequences" then some (.ref Sq) else if y = Str.ofString "max_length" then some (.int Mx tMx) else if y = Str.ofString "count" then some (.int cnt tC) else none))
   (N : News h₀ L s.heap ((Ns, lob Nr cN) :: (Ln, lob zs cz) :: (Sq, lst ys) :: (L + 1 + 1, om) :: (L + 1, oc) :: (D, tobj vs) :: (194, tableObj ps) :: (ownN ++ (st ++ own)))) (hg : AllBare s.gens) (ho : s.os = os₀) (ht : TriplesOk ps.toList)
   (d1 : oc.data = .cell (some (.ref P))) (d2 : om.data = .cell (some (.int Mn tMn))) (hR : RowsL own ys ls) (hN : RowsL ownN Nr (newR ls Mn)) (h1 : 0 < ls.length) (h4 : ls.length ≤ 4) (h6 : ∀ l ∈ ls, l.length ≤ 6) (mMin : IsMin Mn (ls.map (·.length)))
   (hapL : ∀ q ∈ (L + 1, oc) :: (D, tobj vs) :: (194, tableObj ps) :: own, q.1 ≠ L + 1 + 1) (hst : Ap st ((L + 1 + 1, om) :: (L + 1, oc) :: (D, tobj vs) :: (194, tableObj ps) :: own)) :
   wpAny (model prog w) (A.deeper (envOfC qual scope L 204 cdv)) (execs (body.drop 5) (envOfC qual scope L 204 cdv)) (BodyEnd h₀ L os₀ (fun _ => True) (LoopLed L D oc vs Mx tMx cnt tC (roundL ls Mn)) st) (fun _ _ => False) s := by
  have e := (show (hd.heap_39 w.params).lookup 204 = some _ from rfl).symm.trans hfn
  injection e with e
  injection e with e1 e2 e3 e4
  injection e3 with e3
  unfold fnOf at e3
  injection e3 with k1 k2 k3 k4 k5 k6 k7 k8 k9 k10 k11 k12 k13
  injection k4 with k4
  subst k2 k5 k4 k13
  have hb2 := (rfl : _ = _).symm.trans hb
  clear hb
  dsimp only [List.getElem?_cons_succ, List.getElem?_cons_zero] at hb2
  injection hb2 with hb2
  injection hb2 with q1 q2 q3 q4 q5
  subst q3
  rename_i ctE biE
  clear ctE biE
  clear hfn q1 q2 q4 q5 e1 e2 e4 k1 k3 k6 k7 k8 k9 k10 k11 k12
  dsimp only [List.drop]
  revert he; k_fill; intro he
  have X := E0.k
  have T := E0.t
  have M := E0.b
  have hMn6 : Mn ≤ 6 := by
    obtain ⟨l, hl, e⟩ := List.mem_map.mp mMin.1
    rw [← e]; exact h6 l hl
  have hyl : ys.length = ls.length := hR.1
  have hNl : Nr.length = ls.length := by rw [hN.1]; simp [newR]
  refine wpAny_execs_cons ?_
  refine assign_core (h₀ := h₀) (L := L) (m := (fun y => if y = Str.ofString "chars" then u else if y = Str.ofString "new_sequences" then some (.ref Ns) else if y = Str.ofString "_" then some u0 else if y = Str.ofString "lengths" then some (.ref Ln) else if y = Str.ofString "sequences" then some (.ref Sq) else if y = Str.ofString "max_length" then some (.int Mx tMx) else if y = Str.ofString "count" then some (.int cnt tC) else none)) rfl (by rfl) (by with_unfolding_all rfl) (by decide) rfl (by decide) rfl rfl ?_
  iterate 8 walk1
  refine zip_two F N (base := ((Ns, lob Nr cN) :: (Ln, lob zs cz) :: (Sq, lst ys) :: (L + 1 + 1, om) :: (L + 1, oc) :: (D, tobj vs) :: (194, tableObj ps) :: (ownN ++ (st ++ own)))) (fun q hq => hq) (.head _) (.tail _ (.tail _ (.head _))) (hNl.trans hyl.symm) (by omega) fun h2 z TI TO subs st2 F2 N2 hO hD hap hZS FD => ?_
  have kz : OK h₀ L _ (st2 ++ ((Ns, lob Nr cN) :: (Ln, lob zs cz) :: (Sq, lst ys) :: (L + 1 + 1, om) :: (L + 1, oc) :: (D, tobj vs) :: (194, tableObj ps) :: (ownN ++ (st ++ own)))) os₀ (Shared.mk h2 s.gens s.drawn s.toks s.os) := ⟨F2, N2, hg, ho⟩
  refine (FD (A.deeper _) hh).self st2 _ _ os₀ (Shared.mk h2 s.gens s.drawn s.toks s.os) _ _ hO hZS kz ?_
  refine comp_zip2 (fun i ys4 led => ∃ own4, led = own4 ++ ((Ns, lob Nr cN) :: (Ln, lob zs cz) :: (Sq, lst ys) :: (L + 1 + 1, om) :: (L + 1, oc) :: (D, tobj vs) :: (194, tableObj ps) :: (ownN ++ (st ++ own))) ∧ RowsL own4 ys4 ((List.range i).map fun j => (newR ls Mn).getD j [] ++ (ls.getD j []).drop Mn) ∧ Ap ((Ns, lob Nr cN) :: (Ln, lob zs cz) :: (Sq, lst ys) :: (L + 1 + 1, om) :: (L + 1, oc) :: (D, tobj vs) :: (194, tableObj ps) :: (ownN ++ (st ++ own))) own4)
    (by rfl) (by rfl) (by decide) rfl hh (FD _ hh) hD (V1 := fun i => Nr.getD i .none) (V2 := fun i => ys.getD i .none) (fun i hi => rfl) (by rw [sizeLine_eq]; omega) kz hO hZS hap ⟨[], rfl, ⟨rfl, fun j v h => by simp at h⟩, fun p _ q hq => nomatch hq⟩ ?_ ?_ ?_
  · rintro i ys4 led ⟨own4, rfl, hR4, _⟩
    rw [hR4.1]; simp
  · rintro i st3 ys4 led C Dl oC mC s₁ E hi1 ⟨own4, rfl, hR4, hap4⟩ hC e1 e2 k hCD ap2 ap hS
    have hin : i < Nr.length := hi1
    have hiy : i < ys.length := by omega
    obtain ⟨x1, z1, c1, hx1, hm1, o1⟩ := hN.2 i (Nr.getD i .none) (by simp [List.getD_eq_getElem?_getD, hin])
    obtain ⟨x2, z2, c2, hx2, hm2, o2⟩ := hR.2 i (ys.getD i .none) (by simp [List.getD_eq_getElem?_getD, hiy])
    rw [hx1] at e1
    rw [hx2] at e2
    have F9 := k.F
    have N9 : News h₀ L s₁.heap ((C, oC) :: (Dl, lst ys4) :: (x1, lob z1 c1) :: (x2, lob z2 c2) :: (L + 1 + 1, om) :: (st3 ++ (own4 ++ ((Ns, lob Nr cN) :: (Ln, lob zs cz) :: (Sq, lst ys) :: (L + 1 + 1, om) :: (L + 1, oc) :: (D, tobj vs) :: (194, tableObj ps) :: (ownN ++ (st ++ own)))))) := fun q hq => k.N q (by
      simp only [List.mem_cons, List.mem_append] at hq ⊢
      rcases hq with h | h | h | h | h | h
      · simp [h]
      · simp [h]
      · subst h; simp [hm1]
      · subst h; simp [hm2]
      · simp [h]
      · exact .inr (.inr h))
    have g9 := k.g
    have o9 := k.o
    k_steps
    have hz1 : z1.length ≤ 6 := by
      rw [o1.1]
      have hmem : (newR ls Mn).getD i [] ∈ newR ls Mn := by
        have : i < (newR ls Mn).length := by simp [newR]; omega
        rw [List.getD_eq_getElem?_getD, List.getElem?_eq_getElem this]; exact List.getElem_mem this
      obtain ⟨l, _, e⟩ := List.mem_map.mp hmem
      rw [← e, List.length_map]
      have := List.length_filter_le (fun k => !sameAt ls k) (List.range Mn)
      simp only [List.length_range] at this
      unfold diffK; omega
    have hz2 : z2.length ≤ 6 := by
      rw [o2.1]
      have : i < ls.length := by omega
      rw [List.getD_eq_getElem?_getD, List.getElem?_eq_getElem this]
      exact h6 _ (List.getElem_mem this)
    refine kmk_slice (its := z2.toArray) (lo := some (Mn : Int)) (hi := none) F9 N9 ⟨_, (N9 _ (.tail _ (.tail _ (.tail _ (.head _))))).1, rfl, _, rfl⟩ (.int _ _) .none (fun D3 h3 F3 N3 l3 => ?_) ?hs ?ht ?hz
    case hs => rfl
    case ht => intro _; rfl
    case hz => rw [sizeLine_eq]; simp; omega
    rw [pick_drop] at N3
    refine add_lists F3 N3 (.tail _ (.tail _ (.tail _ (.head _)))) (.head _) (by omega) (by simp; omega) fun D4 h4 F4 N4 l4 => ?_
    have hrow : (List.range (i + 1)).map (fun j => (newR ls Mn).getD j [] ++ (ls.getD j []).drop Mn) = (List.range i).map (fun j => (newR ls Mn).getD j [] ++ (ls.getD j []).drop Mn) ++ [(newR ls Mn).getD i [] ++ (ls.getD i []).drop Mn] := by
      rw [List.range_succ, List.map_append]; rfl
    refine elt_grow (C := C) (Dl := Dl) (oC := oC) (ys := ys4) (st := st3) (rest := own4 ++ ((Ns, lob Nr cN) :: (Ln, lob zs cz) :: (Sq, lst ys) :: (L + 1 + 1, om) :: (L + 1, oc) :: (D, tobj vs) :: (194, tableObj ps) :: (ownN ++ (st ++ own)))) F4 N4 g9 o9 l4 (fun q hq => ?_) ap2 ap ((FD _ hh).mono _ _ (fun q hq => List.mem_cons_of_mem _ hq) hS) ⟨(D4, lob _ 0) :: own4, rfl, ?_, ?_⟩
    · rcases List.mem_cons.mp hq with h | h
      · rw [h]; simp
      rcases List.mem_cons.mp h with h | h
      · rw [h]; simp
      · exact .tail _ (.tail _ (.tail _ (.tail _ (.tail _ (.tail _ h)))))
    · rw [hrow]; exact hR4.snoc (o1.append (o2.drop Mn))
    · intro p hp q hq
      rcases List.mem_cons.mp hq with rfl | hq
      · exact Nat.ne_of_gt (l4 p (.tail _ (.tail _ (.tail _ (.tail _ (.tail _ (.tail _ (List.mem_append_right _ (List.mem_append_right _ hp)))))))))
      · exact hap4 p hp q hq
  · rintro ys4 led ⟨own4, rfl, hR4, hap4⟩ S6 s6 k6 off6
    have hrr : (List.range Nr.length).map (fun j => (newR ls Mn).getD j [] ++ (ls.getD j []).drop Mn) = roundL ls Mn := by
      rw [roundL_eq, hNl]
    rw [hrr] at hR4
    have F7 := k6.F
    have N7 : News h₀ L s6.heap ((S6, lst ys4) :: (L + 1 + 1, om) :: (L + 1, oc) :: (D, tobj vs) :: (194, tableObj ps) :: (own4 ++ (st ++ own))) := fun q hq => k6.N q (by
      simp only [List.mem_cons, List.mem_append] at hq ⊢
      rcases hq with h | h | h | h | h | h | h | h <;> simp [h])
    have g7 := k6.g
    have o7 := k6.o
    have hR7 : RowsL ((S6, lst ys4) :: (L + 1 + 1, om) :: (L + 1, oc) :: (D, tobj vs) :: (194, tableObj ps) :: (own4 ++ (st ++ own))) ys4 (roundL ls Mn) := hR4.mono fun q hq => by simp [hq]
    have hm7 : (S6, lst ys4) ∈ ((S6, lst ys4) :: (L + 1 + 1, om) :: (L + 1, oc) :: (D, tobj vs) :: (194, tableObj ps) :: (own4 ++ (st ++ own))) := .head _
    have hz7 : ∀ l ∈ roundL ls Mn, l.length ≤ 1000 := fun l hl => by
      obtain ⟨x, hx, rfl⟩ := List.mem_map.mp hl
      have h1' := h6 x hx
      have h2' := List.length_filter_le (fun k => !sameAt ls k) (List.range Mn)
      simp only [List.length_range] at h2'
      simp only [List.length_append, List.length_map, List.length_drop]
      unfold diffK; omega
    have hn7 : (roundL ls Mn).length ≤ 1000 := by simp [roundL]; omega
    show wpAny _ _ (execs _ _) _ _ _
    clear F2 N2 kz F N
    k_steps
    exact round_end (by assumption) (by assumption) (by assumption) (by assumption) g7 o7 ht ⟨_, d2⟩ hR4 hapL hst (fun q hq => hap4 (L + 1 + 1, om) (by simp) q hq) (fun p hp q hq => hap4 p (by simp [hp]) q hq) (fun q hq => off6 q (by
      rcases List.mem_cons.mp hq with h | h <;> simp [h]))
end Mine
end

section
local macro_rules | `(tactic| walk_at "pad") => `(tactic| skip)
local macro_rules | `(tactic| walk_at "pad") => `(tactic| skip)
local macro_rules | `(tactic| walk_at "pad") => `(tactic| skip)
local macro_rules | `(tactic| walk_at "pad") => `(tactic| skip)
local macro_rules | `(tactic| walk_at "pad") => `(tactic| skip)
local macro_rules | `(tactic| walk_at "pad") => `(tactic| skip)
local macro_rules | `(tactic| walk_at "pad") => `(tactic| skip)
local macro_rules | `(tactic| walk_at "pad") => `(tactic| skip)
local macro_rules | `(tactic| walk_at "pad") => `(tactic| skip)
local macro_rules | `(tactic| walk_at "pad") => `(tactic| skip)
local macro_rules | `(tactic| walk_at "pad") => `(tactic| skip)
local macro_rules | `(tactic| walk_at "pad") => `(tactic| skip)
local macro_rules | `(tactic| walk_at "pad") => `(tactic| skip)
local macro_rules | `(tactic| walk_at "pad") => `(tactic| skip)
local macro_rules | `(tactic| walk_at "pad") => `(tactic| skip)
local macro_rules | `(tactic| walk_at "pad") => `(tactic| skip)
local macro_rules | `(tactic| walk_at "pad") => `(tactic| skip)
local macro_rules | `(tactic| walk_at "pad") => `(tactic| skip)
local macro_rules | `(tactic| walk_at "pad") => `(tactic| skip)
local macro_rules | `(tactic| walk_at "pad") => `(tactic| skip)
local macro_rules | `(tactic| walk_at "pad") => `(tactic| skip)
local macro_rules | `(tactic| walk_at "pad") => `(tactic| skip)
local macro_rules | `(tactic| walk_at "pad") => `(tactic| skip)
local macro_rules | `(tactic| walk_at "pad") => `(tactic| skip)
local macro_rules | `(tactic| walk_at "pad") => `(tactic| skip)
local macro_rules | `(tactic| walk_at "pad") => `(tactic| skip)
open PySem PySem.W PySem.W.X PyProof.Rows PySem.Calls PySem.Spec
set_option Elab.async false
set_option maxRecDepth 100000
set_option maxHeartbeats 8000000
set_option pp.deepTerms false
set_option pp.deepTerms.threshold 6
set_option pp.structureInstances false
set_option linter.all false
namespace Mine
variable {w : World} {p : Program} {loose : List Str} {mg mb : Str → Option Value} {bm : Addr} {ob : Obj} {s : Shared} {A : Around}
local macro_rules | `(tactic| k_inst) => `(tactic| (exact InstAt.up (by assumption) (by assumption)))
open PyProof.Rows.LCg (NsObj lst lst_snoc ns_obj)
local macro_rules | `(tactic| walk_at "eval Name") => `(tactic| ((with_reducible show wpAny _ _ (eval (Expr.Name _ _) (compEnvC _ _ _ _)) _ _ _); k_dflt (first
  | (refine' ce_own ?N ?m ?C ?x ?_ ?a ?b; (case a => rfl); (case b => rfl); (case N => assumption); (case m => k_mem); (case C => assumption); (case x => assumption))
  | (refine' ce_cell ?N ?c ?m ?d ?_ ?a ?b; (case a => rfl); (case b => rfl); (case N => assumption); (case c => rfl); (case m => k_mem); (case d => assumption))
  | (refine' ce_global ?F ?X ?T ?e ?_ ?g ?a ?b; (case a => rfl); (case b => rfl); (case g => rfl); (case F => assumption); (case X => assumption); (case T => assumption); (case e => k_is))
  | (refine' ce_built ?F ?X ?T ?e ?v ?n ?_ ?g ?g2 ?a ?b; (case a => rfl); (case b => rfl); (case g => rfl); (case g2 => rfl); (case F => assumption); (case X => assumption); (case T => assumption); (case e => k_is); (case v => boot_by_name); (case n => decide)))))
local macro_rules | `(tactic| walk_at "call type:list") => `(tactic| ((with_reducible show wpAny _ _ (call (Value.type "list") [Value.str _ _]) _ _ _); refine' list_ones ?F ?N ?hh ?x ?_; (case F => assumption); (case N => assumption); (case hh => assumption); (case x => assumption); intro D' c' zs' h' tk' F' N' l' z'))
local macro_rules | `(tactic| walk_at "call type:map") => `(tactic| (refine' map_led ?F ?N ?l ?R ?z ?_; (case F => assumption); (case N => assumption); (case l => assumption); (case R => assumption); (case z => assumption); intro h' I' F' N' X'))
local macro_rules | `(tactic| walk_at "call builtin:max") => `(tactic| (refine' max_led ?F ?N ?hh ?m ?i ?n ?_; (case F => assumption); (case N => assumption); (case hh => assumption); (case m => k_mem); (case i => assumption); (case n => assumption); intro h' M' t' tk' F' N' m1))
local macro_rules | `(tactic| walk_at "call builtin:min") => `(tactic| (refine' min_led ?F ?N ?hh ?m ?i ?n ?_; (case F => assumption); (case N => assumption); (case hh => assumption); (case m => k_mem); (case i => assumption); (case n => assumption); intro h' M' t' tk' F' N' m1))
local macro_rules | `(tactic| walk_at "call builtin:len") => `(tactic| (refine' len_lob ?N ?m ?z ?_; (case N => assumption); (case m => k_mem); (case z => assumption)))
local macro_rules | `(tactic| walk_at "call type:list") => `(tactic| ((with_reducible rename MapIs _ _ _ _ _ _ => mX); refine' list_map_led ?F ?N ?hh mX ?n ?_; (case F => assumption); (case N => assumption); (case hh => assumption); (case n => assumption); intro h' D' zs' c' tk' F' N' l' z'))
local macro_rules | `(tactic| walk_at "call builtin:all") => `(tactic| (refine' all_tup ?F ?N ?hh ?m ?i ?n ?_; (case F => assumption); (case N => assumption); (case hh => assumption); (case m => k_mem); (case i => assumption); (case n => assumption); intro h' tk' F' N'))
local macro_rules | `(tactic| walk_at "exec For Name Call cons nil") => `(tactic| ((with_reducible rename Fr _ _ _ _ => kF); refine' for_coreF kF ?hx ?hp ?_ ?hs; (case hx => first | exact rfl | with_unfolding_all rfl); (case hp => first | exact rfl | with_unfolding_all rfl); (case hs => (intro _; first | exact rfl | with_unfolding_all rfl))))

local macro_rules | `(tactic| walk_at "eval Call Attribute") => `(tactic| ((with_reducible show wpAny _ _ (eval (Expr.Call (Expr.Attribute _ _ _) [Expr.Starred _ _] [] _) _) _ _ _); refine methodCall_S ?_))
local macro_rules | `(tactic| walk_at "getAttr ref") => `(tactic| (k_dflt (refine' get_sm ?k1 ?k2 ?k4 ?k5 ?k6 ?k7 ?k9 ?k10 ?k11 ?k12 ?k13 ?k14 ?_; (case k1 => k_asm); (case k2 => k_asm); (case k4 => k_inst); (case k5 => k_is); (case k6 => k_is); (case k7 => k_is); (case k9 => k_is); (case k10 => k_is); (case k11 => decide +kernel); (case k12 => k_get); (case k13 => k_is); (case k14 => k_handed))))
local macro_rules | `(tactic| walk_at "StarOf") => `(tactic| (refine' star_lob ?F ?N ?m ?z ?_; (case F => assumption); (case N => assumption); (case m => k_mem); (case z => assumption); intro h' F' N'))
local macro_rules | `(tactic| walk_at "call ref") => `(tactic| (refine' IdentStep ?E0 ?F ?N ?m ?t ?g ?i ?n ?n4 ?hh ?room ?_; (case E0 => assumption); (case F => assumption); (case N => assumption); (case m => assumption); (case t => assumption); (case g => assumption); (case i => assumption); (case n => assumption); (case n4 => assumption); (case hh => assumption); (case room => (show _ + 1 < recursionLimit; omega)); intro h' tk' F' N'))
local macro_rules | `(tactic| walk_at "call type:list") => `(tactic| ((with_reducible show wpAny _ _ (call (Value.type "list") [Value.ref _]) _ _ _); refine' list_tup ?F ?N ?m ?z ?_; (case F => assumption); (case N => assumption); (case m => k_mem); (case z => assumption); intro D' c' h' F' N' l'))

local macro_rules | `(tactic| walk_at "eval ListComp") => `(tactic| ((with_reducible rename Fr _ _ _ _ => kF); refine' comp_coreF kF ?a ?b ?c ?d ?_ ?e; (case a => first | exact rfl | with_unfolding_all rfl); (case b => decide); (case c => exact rfl); (case d => decide); (case e => (intro _; first | exact rfl | with_unfolding_all rfl))))
local macro_rules | `(tactic| walk_at "call builtin:len") => `(tactic| (refine' len_lob ?N ?m ?z ?_; (case N => assumption); (case m => k_mem); (case z => assumption)))
theorem allLt_mem {d : Nat} : ∀ {l : List (Addr × Obj)}, AllLt d l → ∀ q ∈ l, q.1 < d
  | [], _, _, h => nomatch h
  | _ :: _, x, q, h => by
    rcases List.mem_cons.mp h with rfl | h
    · exact x.1
    · exact allLt_mem x.2 q h
theorem above_of {d : Addr} {p : Addr × Obj} {l : Led} (h : @LT.lt Nat _ p.1 d) (x : Above d l) : Above d (p :: l) := fun q hq => by
  rcases List.mem_cons.mp hq with rfl | hq
  · exact h
  · exact x q hq
theorem round2 {whole body : List Stmt} {scope : Scope} {name qual : Str} {params : Arguments} {dV kV doc pm cdv ct oc' : Value} {an od' : Option Addr} {osl : Array (Option Value)} {t it : Expr} {pos : Pos}
   (hfn : (hd.heap_39 w.params).lookup 204 = some ⟨oc', od', .func (fnOf name qual params whole scope dV kV doc pm an cdv ct), osl⟩) (hb : whole[6]? = some (.For t it body [] pos))
   {P dx : Addr} {g1 g2 : Int} {a1 a2 a3 : Tok} {n : Nat} {h₀ : Heap} {L D Ln Sq Ns : Addr} {oc om : Obj} {vs zs ys Nl : List Value} {cz Mx Mn cN : Nat} {tMx tC tMn : Tok} {cnt : Int} {ps : Array Value} {own st tups : Led} {ls : List (List Nat)} {u0 : Value} {u : Option Value} {os₀ : OsState}
   (hI : InstAt h₀ P (instObj 207 dx) 207 (some (ownD g1 g2 a1 a2 a3 n))) (hh : A.handled = none) (hroom : A.depth + 6 < recursionLimit)
   (he : PySem.Challenge.rw_fq5033_01.row.prog = PySem.Challenge.rw_fq5033_01.row.prog ∧ (hd.heap_39 w.params).In s.heap)
   (E0 : Env0 w p loose mg mb bm ob h₀) (F : Fr h₀ L s.heap (fun y => if y = Str.ofString "chars" then u else if y = Str.ofString "new_sequences" then some (.ref Ns) else if y = Str.ofString "_" then some u0 else if y = Str.ofString "lengths" then some (.ref Ln) else if y = Str.ofString "sequences" then some (.ref Sq) else if y = Str.ofString "max_length" then some (.int Mx tMx) else if y = Str.ofString "count" then some (.int cnt tC) else none))
   (N : News h₀ L s.heap ((Ns, lob Nl cN) :: (Ln, lob zs cz) :: (Sq, lst ys) :: (L + 1 + 1, om) :: (L + 1, oc) :: (D, tobj vs) :: (194, tableObj ps) :: (tups ++ (st ++ own)))) (hg : AllBare s.gens) (ho : s.os = os₀) (ht : TriplesOk ps.toList)
   (d1 : oc.data = .cell (some (.ref P))) (d2 : om.data = .cell (some (.int Mn tMn))) (hR : RowsL own ys ls) (hT : RowsT tups Nl (colsD ls Mn)) (h1 : 0 < ls.length) (h4 : ls.length ≤ 4) (h6 : ∀ l ∈ ls, l.length ≤ 6) (mMin : IsMin Mn (ls.map (·.length)))
   (hapL : ∀ q ∈ (L + 1, oc) :: (D, tobj vs) :: (194, tableObj ps) :: own, q.1 ≠ L + 1 + 1) (hst : Ap st ((L + 1 + 1, om) :: (L + 1, oc) :: (D, tobj vs) :: (194, tableObj ps) :: own)) :
   wpAny (model prog w) (A.deeper (envOfC qual scope L 204 cdv)) (execs (body.drop 3) (envOfC qual scope L 204 cdv)) (BodyEnd h₀ L os₀ (fun _ => True) (LoopLed L D oc vs Mx tMx cnt tC (roundL ls Mn)) st) (fun _ _ => False) s := by
  have hfn' := hfn
  have hb' := hb
  have e := (show (hd.heap_39 w.params).lookup 204 = some _ from rfl).symm.trans hfn
  injection e with e
  injection e with e1 e2 e3 e4
  injection e3 with e3
  unfold fnOf at e3
  injection e3 with k1 k2 k3 k4 k5 k6 k7 k8 k9 k10 k11 k12 k13
  injection k4 with k4
  subst k2 k5 k4 k13
  have hb2 := (rfl : _ = _).symm.trans hb
  clear hb
  dsimp only [List.getElem?_cons_succ, List.getElem?_cons_zero] at hb2
  injection hb2 with hb2
  injection hb2 with q1 q2 q3 q4 q5
  subst q3
  rename_i ctE biE
  clear ctE biE
  clear hfn q1 q2 q4 q5 e1 e2 e4 k1 k3 k6 k7 k8 k9 k10 k11 k12
  dsimp only [List.drop]
  revert he; k_fill; intro he
  have X := E0.k
  have T := E0.t
  have M := E0.b
  have hMn6 : Mn ≤ 6 := by
    obtain ⟨l, hl, e⟩ := List.mem_map.mp mMin.1
    rw [← e]; exact h6 l hl
  have hNl : Nl.length ≤ 6 := by
    have := colsD_len ls Mn
    rw [hT.1]; omega
  have hNl' : Nl.length ≤ 1000 := by omega
  refine wpAny_execs_cons ?_
  refine assign_core (h₀ := h₀) (L := L) (m := (fun y => if y = Str.ofString "chars" then u else if y = Str.ofString "new_sequences" then some (.ref Ns) else if y = Str.ofString "_" then some u0 else if y = Str.ofString "lengths" then some (.ref Ln) else if y = Str.ofString "sequences" then some (.ref Sq) else if y = Str.ofString "max_length" then some (.int Mx tMx) else if y = Str.ofString "count" then some (.int cnt tC) else none)) rfl (by rfl) (by with_unfolding_all rfl) (by decide) rfl (by decide) rfl rfl ?_
  k_steps
  refine star_type ?_
  k_steps
  rename_i hq1 F1 N1
  obtain ⟨srcs, hys, hIn, hIt⟩ := srcs_T (h₀ := h₀) hT
  rw [← hys]
  refine zip_led F1 N1 (fun q hq => by simp [hq]) hIn hIt (by rw [← List.length_map (f := (·.items)), hIt.1]; have := colsD_len ls Mn; omega) fun h2 z TI TO subs st2 F2 N2 ZI => ?_
  have hZS : ∀ led : Led, (∀ q ∈ tups, q ∈ led) → ZS h₀ subs led := fun led h u hu => (ZI.s u hu).mono h
  have hcolen : ∀ l ∈ colsD ls Mn, l.length = ls.length := fun l hl => by
    obtain ⟨k, _, rfl⟩ := List.mem_map.mp hl
    simp
  obtain ⟨zl, hzl, hzle, hz4⟩ : ∃ zl, zlen (colsD ls Mn) zl ∧ ((colsD ls Mn = [] ∧ zl = 0) ∨ (colsD ls Mn ≠ [] ∧ zl = ls.length)) ∧ zl ≤ 4 := by
    cases hc : colsD ls Mn with
    | nil => exact ⟨0, .inl ⟨rfl, rfl⟩, .inl ⟨rfl, rfl⟩, by decide⟩
    | cons c r =>
      refine ⟨ls.length, .inr ⟨?_, fun x hx => ?_⟩, .inr ⟨by simp, rfl⟩, h4⟩
      · rw [← hcolen c (by rw [hc]; simp)]; simp
      · obtain ⟨l, hl, rfl⟩ := List.mem_map.mp hx
        exact Nat.le_of_eq (hcolen l (by rw [hc]; exact hl)).symm
  have hcl6 := colsD_len ls Mn
  have FD := fun (A' : Around) (hA : A'.handled = none) => feed_rows (prog := prog) (w := w) (A := A') (L := L) (n := zl) hA ZI (by omega) hzl
  have kz : OK h₀ L _ (st2 ++ ((Ns, lob Nl cN) :: (Ln, lob zs cz) :: (Sq, lst ys) :: (L + 1 + 1, om) :: (L + 1, oc) :: (D, tobj vs) :: (194, tableObj ps) :: (tups ++ (st ++ own)))) os₀ (Shared.mk h2 s.gens s.drawn s.toks s.os) := ⟨F2, N2, hg, ho⟩
  refine (FD (A.deeper _) hh).self st2 _ _ os₀ (Shared.mk h2 s.gens s.drawn s.toks s.os) _ _ ZI.o (hZS _ fun q hq => by simp [hq]) kz ?_
  refine comp_feed (fun i ys4 led => ∃ own4, led = own4 ++ ((Ns, lob Nl cN) :: (Ln, lob zs cz) :: (Sq, lst ys) :: (L + 1 + 1, om) :: (L + 1, oc) :: (D, tobj vs) :: (194, tableObj ps) :: (tups ++ (st ++ own))) ∧
      RowsL own4 ys4 ((List.range i).map fun j => (colsD ls Mn).map fun l => l.getD j 0) ∧ Ap ((Ns, lob Nl cN) :: (Ln, lob zs cz) :: (Sq, lst ys) :: (L + 1 + 1, om) :: (L + 1, oc) :: (D, tobj vs) :: (194, tableObj ps) :: (tups ++ (st ++ own))) own4)
    (by rfl) rfl (FD _ hh) (by rw [sizeLine_eq]; omega) kz ZI.o (hZS _ fun q hq => by simp [hq]) ZI.ap ⟨[], rfl, ⟨rfl, fun j v h => by simp at h⟩, fun p _ q hq => nomatch hq⟩ ?_ ?_ ?_
  · rintro i ys4 led ⟨own4, rfl, hR4, _⟩
    rw [hR4.1]; simp
  · rintro i v ex st3 ys4 led C Dl oC mC s₁ E hi1 ⟨Tp, rfl, rfl⟩ ⟨own4, rfl, hR4, hap4⟩ hC hx k hCD ap2 ap hS
    have him : ∀ l ∈ colsD ls Mn, i < l.length := fun l hl => by
      rw [hcolen l hl]
      rcases hzle with ⟨e1, e2⟩ | ⟨e1, e2⟩
      · rw [e1] at hl; cases hl
      · omega
    have hco := col_ones ZI.it him
    generalize hvals : (subs.map (·.items)).map (zval · i) = vals at hco k ap2 ap
    have hvl : vals.length ≤ 1000 := by rw [hco.1]; simp; omega
    have F9 := k.F
    have N9 : News h₀ L s₁.heap ((C, oC) :: (Dl, lst ys4) :: (Tp, tobj vals) :: (st3 ++ (own4 ++ ((Ns, lob Nl cN) :: (Ln, lob zs cz) :: (Sq, lst ys) :: (L + 1 + 1, om) :: (L + 1, oc) :: (D, tobj vs) :: (194, tableObj ps) :: (tups ++ (st ++ own)))))) := fun q hq => k.N q (by simpa using hq)
    have g9 := k.g
    have o9 := k.o
    k_steps
    rename Fr _ _ _ _ => F10
    rename News _ _ _ _ => N10
    rename (_ ∧ _ ∧ _ ∧ AllLt _ _) => l10
    have hrow : (List.range (i + 1)).map (fun j => (colsD ls Mn).map fun l => l.getD j 0) = (List.range i).map (fun j => (colsD ls Mn).map fun l => l.getD j 0) ++ [(colsD ls Mn).map fun l => l.getD i 0] := by
      rw [List.range_succ, List.map_append]; rfl
    have A10 := above_of (p := (C, oC)) l10.1 (above_of (p := (Dl, lst ys4)) l10.2.1 (above_of (p := (Tp, tobj vals)) l10.2.2.1 fun q hq => allLt_mem l10.2.2.2 q hq))
    refine elt_grow (C := C) (Dl := Dl) (oC := oC) (ys := ys4) (st := st3) (rest := own4 ++ ((Ns, lob Nl cN) :: (Ln, lob zs cz) :: (Sq, lst ys) :: (L + 1 + 1, om) :: (L + 1, oc) :: (D, tobj vs) :: (194, tableObj ps) :: (tups ++ (st ++ own)))) F10 N10 g9 o9 A10 ?_ ?_ ?_ (hZS _ fun q hq => by simp [hq]) ⟨(_, lob vals _) :: own4, rfl, ?_, ?_⟩
    · intro q hq
      simp only [List.mem_cons, List.mem_append] at hq ⊢
      rcases hq with h | h | h
      · simp [h]
      · simp [h]
      · exact .inr (.inr (.inr h))
    · intro q hq
      exact ap2 q (List.mem_append_right _ hq)
    · intro p hp q hq
      exact ap p hp q (List.mem_append_right _ hq)
    · rw [hrow]; exact hR4.snoc hco
    · intro p hp q hq
      rcases List.mem_cons.mp hq with rfl | hq
      · exact Nat.ne_of_gt (A10 p (by simp only [List.mem_cons, List.mem_append] at hp ⊢; exact .inr (.inr (.inr (.inr (.inr hp))))))
      · exact hap4 p hp q hq
  · rintro ys4 led ⟨own4, rfl, hR4, hap4⟩ S4 s4 k4 off4
    have hyl : ys.length ≤ 1000 := by rw [hR.1]; omega
    have hyl4 : ys4.length = zl := by rw [hR4.1]; simp
    have hyl4' : ys4.length ≤ 1000 := by omega
    have F9 := k4.F
    have N9 : News h₀ L s4.heap ((S4, lst ys4) :: (Ns, lob Nl cN) :: (Ln, lob zs cz) :: (Sq, lst ys) :: (L + 1 + 1, om) :: (L + 1, oc) :: (D, tobj vs) :: (194, tableObj ps) :: (own4 ++ (tups ++ (st ++ own)))) := fun q hq => k4.N q (by
      simp only [List.mem_cons, List.mem_append] at hq ⊢
      rcases hq with h | h | h | h | h | h | h | h | h | h | h | h <;> simp [h])
    have g9 := k4.g
    have o9 := k4.o
    show wpAny _ _ (execs _ _) _ _ _
    k_steps
    rename_i hr5 tk5 t51 u51 v51 rg F5 N5 hk5
    have hle5 : ys4.length ≤ ys.length := by rw [hyl4, hR.1]; rcases hzle with h | h <;> omega
    have hdf : ((ys.length : Int) - (ys4.length : Int)) = ((ys.length - ys4.length : Nat) : Int) := by omega
    rw [hdf] at rg
    have hys4 : ys.length ≤ 4 := by rw [hR.1]; exact h4
    have hn5 : Builtin.Range.rangeSize 0 ((ys.length - ys4.length : Nat) : Int) 1 = ((ys.length - ys4.length : Nat) : Int) := by
      rw [rangeSize_one]
      split <;> omega
    have hsm5 : Builtin.Range.small 0 ((ys.length - ys4.length : Nat) : Int) 1 = true := small_one (by omega) (by omega) (by omega) (by omega)
    refine wpAny_pyIter_range rg hsm5 ?_
    have k5 : OK h₀ L _ _ os₀ (Shared.mk hr5 s4.gens s4.drawn tk5 s4.os) := ⟨F5, N5, g9, o9⟩
    refine comp_feed (st₀ := [(_, _)]) (fun i ys5 led => ∃ own5, led = own5 ++ ((S4, lst ys4) :: (Ns, lob Nl cN) :: (Ln, lob zs cz) :: (Sq, lst ys) :: (L + 1 + 1, om) :: (L + 1, oc) :: (D, tobj vs) :: (194, tableObj ps) :: (own4 ++ (tups ++ (st ++ own)))) ∧
      RowsL own5 ys5 (List.replicate i []) ∧ Ap ((S4, lst ys4) :: (Ns, lob Nl cN) :: (Ln, lob zs cz) :: (Sq, lst ys) :: (L + 1 + 1, om) :: (L + 1, oc) :: (D, tobj vs) :: (194, tableObj ps) :: (own4 ++ (tups ++ (st ++ own)))) own5)
      (n := ys.length - ys4.length) (by rfl) rfl (feed_range (A := A.deeper _) hh 0 (ys.length - ys4.length)) (by rw [sizeLine_eq]; omega) k5.push ⟨_, rfl, fun h e => by rw [hn5] at e; simpa using e⟩ trivial ?_ ⟨[], rfl, ⟨rfl, fun j v h => by simp at h⟩, fun p _ q hq => nomatch hq⟩ ?_ ?_ ?_
    · intro p hp q hq
      rw [List.mem_singleton.mp hp]
      exact Nat.ne_of_lt (k5.lt hq)
    · rintro i ys5 led ⟨own5, rfl, hR5, _⟩
      rw [hR5.1]; simp
    · rintro i v ex st6 ys5 led C Dl oC mC s₁ E hi1 ⟨hv, rfl⟩ ⟨own5, rfl, hR5, hap5⟩ hC hx k hCD ap2 ap hS
      have F9 := k.F
      have N9 : News h₀ L s₁.heap ((C, oC) :: (Dl, lst ys5) :: (st6 ++ (own5 ++ ((S4, lst ys4) :: (Ns, lob Nl cN) :: (Ln, lob zs cz) :: (Sq, lst ys) :: (L + 1 + 1, om) :: (L + 1, oc) :: (D, tobj vs) :: (194, tableObj ps) :: (own4 ++ (tups ++ (st ++ own))))))) := fun q hq => k.N q (by simpa using hq)
      have g9 := k.g
      have o9 := k.o
      k_steps
      rename Fr _ _ _ _ => F10
      rename News _ _ _ _ => N10
      have hrow : List.replicate (i + 1) ([] : List Nat) = List.replicate i [] ++ [[]] := by rw [List.replicate_succ']
      have A10 : Above s₁.heap.objs.size ((C, oC) :: (Dl, lst ys5) :: (st6 ++ (own5 ++ ((S4, lst ys4) :: (Ns, lob Nl cN) :: (Ln, lob zs cz) :: (Sq, lst ys) :: (L + 1 + 1, om) :: (L + 1, oc) :: (D, tobj vs) :: (194, tableObj ps) :: (own4 ++ (tups ++ (st ++ own))))))) := fun q hq => k.lt (by simpa using hq)
      refine elt_grow (C := C) (Dl := Dl) (oC := oC) (ys := ys5) (st := st6) (rest := own5 ++ ((S4, lst ys4) :: (Ns, lob Nl cN) :: (Ln, lob zs cz) :: (Sq, lst ys) :: (L + 1 + 1, om) :: (L + 1, oc) :: (D, tobj vs) :: (194, tableObj ps) :: (own4 ++ (tups ++ (st ++ own))))) F10 N10 g9 o9 A10 (fun q hq => hq) ap2 ap trivial ⟨(_, lob [] 0) :: own5, rfl, ?_, ?_⟩
      · rw [hrow]; exact hR5.snoc ⟨rfl, fun j v h => by simp at h⟩
      · intro p hp q hq
        rcases List.mem_cons.mp hq with rfl | hq
        · exact Nat.ne_of_gt (A10 p (List.mem_cons_of_mem _ (List.mem_cons_of_mem _ (List.mem_append_right _ (List.mem_append_right _ hp)))))
        · exact hap5 p hp q hq
    · rintro ys5 led ⟨own5, rfl, hR5, hap5⟩ S5 s5 k6 off5
      k_steps
      have F7 := k6.F
      have N7 : News h₀ L s5.heap ((S4, lob ys4 ys4.length) :: ((S5, lst ys5) :: (Ns, lob Nl cN) :: (Ln, lob zs cz) :: (Sq, lst ys) :: (L + 1 + 1, om) :: (L + 1, oc) :: (D, tobj vs) :: (194, tableObj ps) :: (own5 ++ (own4 ++ (tups ++ (st ++ own)))))) := fun q hq => k6.N q (by
        simp only [List.mem_cons, List.mem_append] at hq ⊢
        rcases hq with h | h | h | h | h | h | h | h | h | h | h | h | h | h <;> simp [h])
      have hoff7 : ∀ q ∈ ((S5, lst ys5) :: (Ns, lob Nl cN) :: (Ln, lob zs cz) :: (Sq, lst ys) :: (L + 1 + 1, om) :: (L + 1, oc) :: (D, tobj vs) :: (194, tableObj ps) :: (own5 ++ (own4 ++ (tups ++ (st ++ own))))), q.1 ≠ S4 := fun q hq => by
        simp only [List.mem_cons, List.mem_append] at hq
        rcases hq with h | h | h | h | h | h | h | h | h | h | h | h | h
        · rw [h]; exact Ne.symm (off5 (S4, lst ys4) (by simp))
        iterate 7 (· exact off4 q (by simp [h]))
        · exact hap5 (S4, lst ys4) (by simp) q h
        all_goals exact off4 q (by simp [h])
      refine iadd_list F7 N7 hoff7 (.head _) hyl4' (by rw [hR5.1]; simp; omega) fun h8 e8 F8 N8 => ?_
      have hRn : RowsL (own5 ++ own4) (ys4 ++ ys5) (newR ls Mn) := by
        have := (hR4.mono (led' := own5 ++ own4) fun q hq => by simp [hq]).append (hR5.mono (led' := own5 ++ own4) fun q hq => by simp [hq])
        rw [show ys.length - ys4.length = ls.length - zl by rw [hyl4, hR.1], newR_rows hzle] at this
        exact this
      have g8 := k6.g
      have o8 := k6.o
      clear N7 F7
      walk1
      rename_i h9 F9' N9'
      have F10 : Fr h₀ L h9 (fun y => if y = Str.ofString "chars" then u else if y = Str.ofString "new_sequences" then some (Value.ref S4) else if y = Str.ofString "_" then some u0 else if y = Str.ofString "lengths" then some (Value.ref Ln) else if y = Str.ofString "sequences" then some (Value.ref Sq) else if y = Str.ofString "max_length" then some (Value.int Mx tMx) else if y = Str.ofString "count" then some (Value.int cnt tC) else none) := by
        have e : (fun y => if y = Str.ofString "chars" then u else if y = Str.ofString "new_sequences" then some (Value.ref S4) else if y = Str.ofString "_" then some u0 else if y = Str.ofString "lengths" then some (Value.ref Ln) else if y = Str.ofString "sequences" then some (Value.ref Sq) else if y = Str.ofString "max_length" then some (Value.int Mx tMx) else if y = Str.ofString "count" then some (Value.int cnt tC) else none) = (fun z => if z = Str.ofString "new_sequences" then some (Value.ref S4) else (fun z => if z = Str.ofString "new_sequences" then some (Value.ref S4) else (fun y => if y = Str.ofString "chars" then u else if y = Str.ofString "new_sequences" then some (Value.ref Ns) else if y = Str.ofString "_" then some u0 else if y = Str.ofString "lengths" then some (Value.ref Ln) else if y = Str.ofString "sequences" then some (Value.ref Sq) else if y = Str.ofString "max_length" then some (Value.int Mx tMx) else if y = Str.ofString "count" then some (Value.int cnt tC) else none) z) z) := by
          funext y
          by_cases c1 : y = Str.ofString "new_sequences"
          · subst c1; rfl
          simp only [if_neg c1]
        rw [e]; exact F9'
      have N10 : News h₀ L h9 ((S4, lob (ys4 ++ ys5) e8) :: (Ln, lob zs cz) :: (Sq, lst ys) :: (L + 1 + 1, om) :: (L + 1, oc) :: (D, tobj vs) :: (194, tableObj ps) :: ((own5 ++ own4) ++ (st ++ own))) := fun q hq => N9' q (by
        simp only [List.mem_cons, List.mem_append] at hq ⊢
        rcases hq with h | h | h | h | h | h | h | (h | h) | h | h <;> simp [h])
      exact round3 hfn' hb' hI hh hroom ⟨rfl, E0.k.keeps F10.keep⟩ E0 F10 N10 g8 o8 ht d1 d2 hR hRn h1 h4 h6 mMin hapL hst
end Mine
end

section
open PySem PySem.W PySem.W.X PyProof.Rows PySem.Calls PySem.Spec
set_option Elab.async false
set_option maxRecDepth 100000
set_option maxHeartbeats 8000000
set_option pp.deepTerms false
set_option pp.deepTerms.threshold 6
set_option pp.structureInstances false
set_option linter.all false
namespace Mine
variable {w : World} {p : Program} {loose : List Str} {mg mb : Str → Option Value} {bm : Addr} {ob : Obj} {s : Shared} {A : Around}
local macro_rules | `(tactic| k_inst) => `(tactic| (exact InstAt.up (by assumption) (by assumption)))
open PyProof.Rows.LCg (NsObj lst lst_snoc ns_obj)
local macro_rules | `(tactic| walk_at "eval Name") => `(tactic| ((with_reducible show wpAny _ _ (eval (Expr.Name _ _) (compEnvC _ _ _ _)) _ _ _); k_dflt (first
  | (refine' ce_own ?N ?m ?C ?x ?_ ?a ?b; (case a => rfl); (case b => rfl); (case N => assumption); (case m => k_mem); (case C => assumption); (case x => assumption))
  | (refine' ce_cell ?N ?c ?m ?d ?_ ?a ?b; (case a => rfl); (case b => rfl); (case N => assumption); (case c => rfl); (case m => k_mem); (case d => assumption))
  | (refine' ce_global ?F ?X ?T ?e ?_ ?g ?a ?b; (case a => rfl); (case b => rfl); (case g => rfl); (case F => assumption); (case X => assumption); (case T => assumption); (case e => k_is))
  | (refine' ce_built ?F ?X ?T ?e ?v ?n ?_ ?g ?g2 ?a ?b; (case a => rfl); (case b => rfl); (case g => rfl); (case g2 => rfl); (case F => assumption); (case X => assumption); (case T => assumption); (case e => k_is); (case v => boot_by_name); (case n => decide)))))
local macro_rules | `(tactic| walk_at "call ref") => `(tactic| (refine' CalcStep ?E0 ?F ?N ?U ?ht ?hg ?hx ?hh ?room ?_; (case E0 => assumption); (case F => assumption); (case N => assumption); (case U => assumption); (case ht => assumption); (case hg => assumption); (case hx => assumption); (case hh => assumption); (case room => (show A.depth + 1 + 3 < recursionLimit; omega)); intro v' t' s' ps' hv' ht' F' N' g' o'; subst hv'))
local macro_rules | `(tactic| walk_at "call type:list") => `(tactic| ((with_reducible show wpAny _ _ (call (Value.type "list") [Value.str _ _]) _ _ _); refine' list_ones ?F ?N ?hh ?x ?_; (case F => assumption); (case N => assumption); (case hh => assumption); (case x => assumption); intro D' c' zs' h' tk' F' N' l' z'))
local macro_rules | `(tactic| walk_at "call type:map") => `(tactic| (refine' map_led ?F ?N ?l ?R ?z ?_; (case F => assumption); (case N => assumption); (case l => assumption); (case R => assumption); (case z => assumption); intro h' I' F' N' X'))
local macro_rules | `(tactic| walk_at "call builtin:max") => `(tactic| (refine' max_led ?F ?N ?hh ?m ?i ?n ?_; (case F => assumption); (case N => assumption); (case hh => assumption); (case m => k_mem); (case i => assumption); (case n => assumption); intro h' M' t' tk' F' N' m1))
local macro_rules | `(tactic| walk_at "call builtin:min") => `(tactic| (refine' min_led ?F ?N ?hh ?m ?i ?n ?_; (case F => assumption); (case N => assumption); (case hh => assumption); (case m => k_mem); (case i => assumption); (case n => assumption); intro h' M' t' tk' F' N' m1))
local macro_rules | `(tactic| walk_at "call builtin:len") => `(tactic| (refine' len_lob ?N ?m ?z ?_; (case N => assumption); (case m => k_mem); (case z => assumption)))
local macro_rules | `(tactic| walk_at "call type:list") => `(tactic| ((with_reducible rename MapIs _ _ _ _ _ _ => mX); refine' list_map_led ?F ?N ?hh mX ?n ?_; (case F => assumption); (case N => assumption); (case hh => assumption); (case n => assumption); intro h' D' zs' c' tk' F' N' l' z'))
local macro_rules | `(tactic| walk_at "call builtin:all") => `(tactic| (refine' all_tup ?F ?N ?hh ?m ?i ?n ?_; (case F => assumption); (case N => assumption); (case hh => assumption); (case m => k_mem); (case i => assumption); (case n => assumption); intro h' tk' F' N'))
local macro_rules | `(tactic| walk_at "exec For Name Call cons nil") => `(tactic| ((with_reducible rename Fr _ _ _ _ => kF); refine' for_coreF kF ?hx ?hp ?_ ?hs; (case hx => first | exact rfl | with_unfolding_all rfl); (case hp => first | exact rfl | with_unfolding_all rfl); (case hs => (intro _; first | exact rfl | with_unfolding_all rfl))))

local macro_rules | `(tactic| walk_at "eval Call Attribute") => `(tactic| ((with_reducible show wpAny _ _ (eval (Expr.Call (Expr.Attribute _ _ _) [Expr.Starred _ _] [] _) _) _ _ _); refine methodCall_S ?_))
local macro_rules | `(tactic| walk_at "getAttr ref") => `(tactic| (k_dflt (refine' get_sm ?k1 ?k2 ?k4 ?k5 ?k6 ?k7 ?k9 ?k10 ?k11 ?k12 ?k13 ?k14 ?_; (case k1 => k_asm); (case k2 => k_asm); (case k4 => k_inst); (case k5 => k_is); (case k6 => k_is); (case k7 => k_is); (case k9 => k_is); (case k10 => k_is); (case k11 => decide +kernel); (case k12 => k_get); (case k13 => k_is); (case k14 => k_handed))))
local macro_rules | `(tactic| walk_at "StarOf") => `(tactic| (refine' star_tup ?F ?N ?m ?z ?_; (case F => assumption); (case N => assumption); (case m => k_mem); (case z => assumption); intro h' F' N'))
local macro_rules | `(tactic| walk_at "call ref") => `(tactic| (refine' IdentStep ?E0 ?F ?N ?m ?t ?g ?i ?n ?n4 ?hh ?room ?_; (case E0 => assumption); (case F => assumption); (case N => assumption); (case m => assumption); (case t => assumption); (case g => assumption); (case i => assumption); (case n => assumption); (case n4 => assumption); (case hh => assumption); (case room => (show _ + 1 < recursionLimit; omega)); intro h' tk' F' N'))
local macro_rules | `(tactic| walk_at "call builtin:list.append") => `(tactic| (refine' AppendStep ?F ?N ?o ?z ?_; (case F => assumption); (case N => assumption); (case o => assumption); (case z => assumption); intro h' F' N'))
theorem round {whole body : List Stmt} {scope : Scope} {name qual : Str} {params : Arguments} {dV kV doc pm cdv ct oc' : Value} {an od' : Option Addr} {osl : Array (Option Value)} {t it : Expr} {pos : Pos}
   (hfn : (hd.heap_39 w.params).lookup 204 = some ⟨oc', od', .func (fnOf name qual params whole scope dV kV doc pm an cdv ct), osl⟩) (hb : whole[6]? = some (.For t it body [] pos))
   {P dx : Addr} {g1 g2 : Int} {a1 a2 a3 : Tok} {n : Nat} {h₀ : Heap} {L D Ln Sq : Addr} {oc om : Obj} {vs zs ys : List Value} {cz Mx : Nat} {tMx tC : Tok} {cnt : Int} {ps : Array Value} {own st : Led} {ls : List (List Nat)} {u0 : Value} {u1 u3 : Option Value} {os₀ : OsState}
   (hI : InstAt h₀ P (instObj 207 dx) 207 (some (ownD g1 g2 a1 a2 a3 n))) (hh : A.handled = none) (hroom : A.depth + 6 < recursionLimit)
   (he : PySem.Challenge.rw_fq5033_01.row.prog = PySem.Challenge.rw_fq5033_01.row.prog ∧ (hd.heap_39 w.params).In s.heap)
   (E0 : Env0 w p loose mg mb bm ob h₀) (F : Fr h₀ L s.heap (fun y => if y = Str.ofString "_" then some u0 else if y = Str.ofString "chars" then u3 else if y = Str.ofString "new_sequences" then u1 else if y = Str.ofString "lengths" then some (.ref Ln) else if y = Str.ofString "sequences" then some (.ref Sq) else if y = Str.ofString "max_length" then some (.int Mx tMx) else if y = Str.ofString "count" then some (.int cnt tC) else none))
   (N : News h₀ L s.heap ((Ln, lob zs cz) :: (Sq, lst ys) :: (L + 1 + 1, om) :: (L + 1, oc) :: (D, tobj vs) :: (194, tableObj ps) :: (st ++ own))) (hg : AllBare s.gens) (ho : s.os = os₀) (ht : TriplesOk ps.toList)
   (d1 : oc.data = .cell (some (.ref P))) (d2 : ∃ v, om.data = .cell v) (hR : RowsL own ys ls) (z3 : IntsAre zs (lensI ls)) (h1 : 0 < ls.length) (h4 : ls.length ≤ 4) (h6 : ∀ l ∈ ls, l.length ≤ 6)
   (hLn : (Ln, lob zs cz).1 ≠ L + 1 + 1) (hSq : (Sq, lst ys).1 ≠ L + 1 + 1) (hap : ∀ q ∈ (L + 1, oc) :: (D, tobj vs) :: (194, tableObj ps) :: (st ++ own), q.1 ≠ L + 1 + 1)
   (hst : Ap st ((L + 1 + 1, om) :: (L + 1, oc) :: (D, tobj vs) :: (194, tableObj ps) :: own)) :
   wpAny (model prog w) (A.deeper (envOfC qual scope L 204 cdv)) (execs body (envOfC qual scope L 204 cdv)) (BodyEnd h₀ L os₀ (fun _ => True) (fun m led => ∃ Mn, IsMin Mn (ls.map (·.length)) ∧ LoopLed L D oc vs Mx tMx cnt tC (roundL ls Mn) m led) st) (fun _ _ => False) s := by
  have hfn' := hfn
  have hb' := hb
  have e := (show (hd.heap_39 w.params).lookup 204 = some _ from rfl).symm.trans hfn
  injection e with e
  injection e with e1 e2 e3 e4
  injection e3 with e3
  unfold fnOf at e3
  injection e3 with k1 k2 k3 k4 k5 k6 k7 k8 k9 k10 k11 k12 k13
  injection k4 with k4
  subst k2 k5 k4 k13
  have hb2 := (rfl : _ = _).symm.trans hb
  clear hb
  dsimp only [List.getElem?_cons_succ, List.getElem?_cons_zero] at hb2
  injection hb2 with hb2
  injection hb2 with q1 q2 q3 q4 q5
  subst q3
  rename_i ctE biE
  clear ctE biE
  clear hfn q1 q2 q4 q5 e1 e2 e4 k1 k3 k6 k7 k8 k9 k10 k11 k12
  revert he; k_fill; intro he
  have X := E0.k
  have T := E0.t
  have M := E0.b
  obtain ⟨ov, d2⟩ := d2
  k_steps
  rename_i Ns h2 l1 h3 F2 N2 h4' Mn tMn tk4 F3 N3 mMin
  refine storeX_C F3 N3 rfl (.tail ?x1 (.tail hLn (.tail hSq (.head hap)))) d2 ?_ ?a ?b
  case a => rfl
  case b => rfl
  case x1 => show Ns ≠ L + 1 + 1; exact Nat.ne_of_gt l1.2.2.1
  intro h5 om5 F5 N5 d5
  k_steps
  rename_i kF5
  refine star_type ?_
  k_steps
  have hyl : ys.length ≤ 1000 := by rw [hR.1]; omega
  refine star_lst (by assumption) N5 (.tail _ (.tail _ (.head _))) hyl fun hp6 F6 N6 => ?_
  obtain ⟨srcs, hys, hIn, hIt⟩ := srcs_L (h₀ := h₀) hR
  rw [← hys]
  refine zip_led F6 N6 (fun q hq => by simp [hq]) hIn hIt (by rw [← List.length_map (f := (·.items)), hIt.1]; omega) fun h7 z TI TO subs st2 F7 N7 ZI => ?_
  have hNsOff : ∀ q ∈ (Ln, lob zs cz) :: (Sq, lst ys) :: (L + 1 + 1, om5) :: (L + 1, oc) :: (D, tobj vs) :: (194, tableObj ps) :: ([] ++ (st ++ own)), q.1 ≠ Ns := fun q hq => by
    obtain ⟨x1, x2, x3, x4, x5, x6, x7⟩ := l1
    simp only [List.mem_cons, List.nil_append] at hq
    rcases hq with rfl | rfl | rfl | rfl | rfl | rfl | h
    · exact Nat.ne_of_lt x1
    · exact Nat.ne_of_lt x2
    · exact Nat.ne_of_lt x3
    · exact Nat.ne_of_lt x4
    · exact Nat.ne_of_lt x5
    · exact Nat.ne_of_lt x6
    · exact Nat.ne_of_lt (allLt_mem x7 q h)
  have hMn6 : Mn ≤ 6 := by
    obtain ⟨l, hl, e⟩ := List.mem_map.mp mMin.1
    rw [← e]; exact h6 l hl
  have hoc := ZI.it
  have hZS : ∀ led : Led, (∀ q ∈ own, q ∈ led) → ZS h₀ subs led := fun led h u hu => (ZI.s u hu).mono h
  have FD := fun (A' : Around) (hA : A'.handled = none) => feed_rows (prog := prog) (w := w) (A := A') (L := L) (n := Mn) hA ZI (by omega) (.inr mMin)
  have k7 : OK h₀ L (fun y => if y = Str.ofString "chars" then u3 else if y = Str.ofString "new_sequences" then some (.ref Ns) else if y = Str.ofString "_" then some u0 else if y = Str.ofString "lengths" then some (.ref Ln) else if y = Str.ofString "sequences" then some (.ref Sq) else if y = Str.ofString "max_length" then some (.int Mx tMx) else if y = Str.ofString "count" then some (.int cnt tC) else none)
      (st2 ++ ((Ns, lob [] 0) :: (Ln, lob zs cz) :: (Sq, lst ys) :: (L + 1 + 1, om5) :: (L + 1, oc) :: (D, tobj vs) :: (194, tableObj ps) :: (st ++ own))) os₀ (Shared.mk h7 s.gens s.drawn tk s.os) := by
    refine ⟨?_, N7, hg, ho⟩
    have e : (fun y => if y = Str.ofString "chars" then u3 else if y = Str.ofString "new_sequences" then some (Value.ref Ns) else if y = Str.ofString "_" then some u0 else if y = Str.ofString "lengths" then some (Value.ref Ln) else if y = Str.ofString "sequences" then some (Value.ref Sq) else if y = Str.ofString "max_length" then some (Value.int Mx tMx) else if y = Str.ofString "count" then some (Value.int cnt tC) else none) =
      (fun y => if y = Str.ofString "new_sequences" then some (Value.ref Ns) else if y = Str.ofString "_" then some u0 else if y = Str.ofString "chars" then u3 else if y = Str.ofString "new_sequences" then u1 else if y = Str.ofString "lengths" then some (Value.ref Ln) else if y = Str.ofString "sequences" then some (Value.ref Sq) else if y = Str.ofString "max_length" then some (Value.int Mx tMx) else if y = Str.ofString "count" then some (Value.int cnt tC) else none) := by
      funext y
      by_cases c1 : y = Str.ofString "chars"
      · subst c1; rfl
      by_cases c2 : y = Str.ofString "new_sequences"
      · subst c2; rfl
      by_cases c3 : y = Str.ofString "_"
      · subst c3; rfl
      simp only [if_neg c1, if_neg c2, if_neg c3]
    rw [e]; exact F7
  refine (FD (A.deeper _) hh).self st2 _ _ os₀ (Shared.mk h7 s.gens s.drawn tk s.os) _ _ ZI.o (hZS _ fun q hq => by simp [hq]) k7 ?_
  refine ⟨z, Mn, _, _, _, st2, _, _, os₀, fun i m led => ∃ u Nl cN tups, m = (fun y => if y = Str.ofString "chars" then u else if y = Str.ofString "new_sequences" then some (.ref Ns) else if y = Str.ofString "_" then some u0 else if y = Str.ofString "lengths" then some (.ref Ln) else if y = Str.ofString "sequences" then some (.ref Sq) else if y = Str.ofString "max_length" then some (.int Mx tMx) else if y = Str.ofString "count" then some (.int cnt tC) else none) ∧
      led = (Ns, lob Nl cN) :: (Ln, lob zs cz) :: (Sq, lst ys) :: (L + 1 + 1, om5) :: (L + 1, oc) :: (D, tobj vs) :: (194, tableObj ps) :: (tups ++ (st ++ own)) ∧ RowsT tups Nl (colsD ls i) ∧ (∀ q ∈ (Ln, lob zs cz) :: (Sq, lst ys) :: (L + 1 + 1, om5) :: (L + 1, oc) :: (D, tobj vs) :: (194, tableObj ps) :: (tups ++ (st ++ own)), q.1 ≠ Ns),
    rfl, FD _ hh, k7, ZI.o, hZS _ (fun q hq => by simp [hq]), ZI.ap, ?_, ?_, ?_⟩
  · exact ⟨u3, [], 0, [], rfl, rfl, ⟨rfl, fun j v h => by simp at h⟩, hNsOff⟩
  · rintro i v ex st3 m led s8 hi1 ⟨Tp, rfl, rfl⟩ ⟨u, Nl, cN, tups, rfl, rfl, hT, hoffN⟩ k8 ap8 apx hS8
    have him : ∀ l ∈ ls, i < l.length := fun l hl => Nat.lt_of_lt_of_le hi1 (mMin.2 _ (List.mem_map_of_mem hl))
    have hcs := col_strs hoc him
    have hco := col_ones hoc him
    have hcl : 0 < (colS ls i).length := by simp [colS]; exact h1
    have hcl4 : (colS ls i).length ≤ 4 := by simp [colS]; exact h4
    have F8 : Fr h₀ L s8.heap (fun y => if y = Str.ofString "chars" then some (.ref Tp) else if y = Str.ofString "new_sequences" then some (.ref Ns) else if y = Str.ofString "_" then some u0 else if y = Str.ofString "lengths" then some (.ref Ln) else if y = Str.ofString "sequences" then some (.ref Sq) else if y = Str.ofString "max_length" then some (.int Mx tMx) else if y = Str.ofString "count" then some (.int cnt tC) else none) := by
      have e : (fun y => if y = Str.ofString "chars" then some (Value.ref Tp) else if y = Str.ofString "new_sequences" then some (Value.ref Ns) else if y = Str.ofString "_" then some u0 else if y = Str.ofString "lengths" then some (Value.ref Ln) else if y = Str.ofString "sequences" then some (Value.ref Sq) else if y = Str.ofString "max_length" then some (Value.int Mx tMx) else if y = Str.ofString "count" then some (Value.int cnt tC) else none) =
        (fun y => if y = Str.ofString "chars" then some (Value.ref Tp) else (fun y => if y = Str.ofString "chars" then u else if y = Str.ofString "new_sequences" then some (Value.ref Ns) else if y = Str.ofString "_" then some u0 else if y = Str.ofString "lengths" then some (Value.ref Ln) else if y = Str.ofString "sequences" then some (Value.ref Sq) else if y = Str.ofString "max_length" then some (Value.int Mx tMx) else if y = Str.ofString "count" then some (Value.int cnt tC) else none) y) := by
        funext y
        by_cases c1 : y = Str.ofString "chars"
        · subst c1; rfl
        simp only [if_neg c1]
      rw [e]; exact k8.F
    generalize hvals : (subs.map (·.items)).map (zval · i) = vals at hcs hco k8 ap8
    have N8 : News h₀ L s8.heap ((Ns, lob Nl cN) :: (Tp, tobj vals) :: (Ln, lob zs cz) :: (Sq, lst ys) :: (L + 1 + 1, om5) :: (L + 1, oc) :: (D, tobj vs) :: (194, tableObj ps) :: (st3 ++ (tups ++ (st ++ own)))) := fun q hq => k8.N q (by
      simp only [List.mem_cons, List.mem_append, List.nil_append, List.cons_append, List.not_mem_nil, or_false] at hq ⊢
      rcases hq with h | h | h | h | h | h | h | h | h | h | h | h <;> simp [h])
    have g8 := k8.g
    have o8 := k8.o
    have hvl : vals.length ≤ 1000 := by rw [StrsAre.length hcs]; omega
    have hm8 : (194, tableObj ps) ∈ ((Ns, lob Nl cN) :: (Tp, tobj vals) :: (Ln, lob zs cz) :: (Sq, lst ys) :: (L + 1 + 1, om5) :: (L + 1, oc) :: (D, tobj vs) :: (194, tableObj ps) :: (st3 ++ (tups ++ (st ++ own)))) := by simp
    have hNl : Nl.length ≤ 1000 := by
      have := colsD_len ls i
      rw [hT.1]; omega
    have hoff8 : ∀ q ∈ (Tp, tobj vals) :: (Ln, lob zs cz) :: (Sq, lst ys) :: (L + 1 + 1, om5) :: (L + 1, oc) :: (D, tobj vs) :: (194, tableObj ps) :: (st3 ++ (tups ++ (st ++ own))), q.1 ≠ Ns := fun q hq => by
      rcases List.mem_cons.mp hq with rfl | hq
      · exact Ne.symm (apx _ (List.mem_singleton.mpr rfl) (Ns, lob Nl cN) (by simp))
      · simp only [List.mem_cons, List.mem_append] at hq
        rcases hq with h | h | h | h | h | h | h | h | h | h
        iterate 6 (· exact hoffN q (by simp [h]))
        · exact Ne.symm (ap8 q h (Ns, lob Nl cN) (by simp))
        all_goals exact hoffN q (by simp [h])
    k_steps
    · rename Fr _ _ _ _ => F9
      rename News _ _ _ _ => N9
      have hsame : ((colS ls i).all fun x => x == (colS ls i).headD Str.empty) = true := by assumption
      rw [col_same] at hsame
      refine BodyEnd.intro ((Ns, lob Nl cN) :: (Ln, lob zs cz) :: (Sq, lst ys) :: (L + 1 + 1, om5) :: (L + 1, oc) :: (D, tobj vs) :: (194, tableObj ps) :: (tups ++ (st ++ own))) F9 N9 g8 o8 ?_ ?_ (hZS _ fun q hq => by simp [hq]) ⟨_, _, _, tups, rfl, rfl, ?_, hoffN⟩
      · intro q hq
        simp only [List.mem_cons, List.mem_append, List.cons_append] at hq ⊢
        rcases hq with h | h | h | h | h | h | h | h | h | h | h <;> simp [h]
      · intro p hp q hq
        exact ap8 p hp q (by
          simp only [List.mem_cons, List.mem_append, List.cons_append] at hq ⊢
          rcases hq with h | h | h | h | h | h | h | h | h | h <;> simp [h])
      · rw [colsD_succ, hsame]
        simpa using hT
    · rename Fr _ _ _ _ => F9
      rename News _ _ _ _ => N9
      have hsame : ((colS ls i).all fun x => x == (colS ls i).headD Str.empty) = false := by assumption
      rw [col_same] at hsame
      refine BodyEnd.intro ((Ns, lob (Nl ++ [.ref Tp]) (cN + 1)) :: (Ln, lob zs cz) :: (Sq, lst ys) :: (L + 1 + 1, om5) :: (L + 1, oc) :: (D, tobj vs) :: (194, tableObj ps) :: (((Tp, tobj vals) :: tups) ++ (st ++ own))) F9 N9 g8 o8 ?_ ?_ (hZS _ fun q hq => by simp [hq]) ⟨_, _, _, (Tp, tobj vals) :: tups, rfl, rfl, ?_, ?_⟩
      · intro q hq
        simp only [List.mem_cons, List.mem_append, List.cons_append] at hq ⊢
        rcases hq with h | h | h | h | h | h | h | h | h | h | h | h <;> simp [h]
      · intro p hp q hq
        simp only [List.mem_cons, List.mem_append, List.cons_append] at hq
        rcases hq with rfl | h | h | h | h | h | h | h | h | h | h
        · exact ap8 p hp (Ns, lob Nl cN) (by simp)
        all_goals exact ap8 p hp q (by simp [h])
      · rw [colsD_succ, hsame]
        exact hT.snoc hco
      · intro q hq
        exact hoff8 q (by
          simp only [List.mem_cons, List.mem_append, List.cons_append] at hq ⊢
          rcases hq with h | h | h | h | h | h | h | h | h | h <;> simp [h])
  · rintro mfr led s9 ⟨u, Nl, cN, tups, rfl, rfl, hT, hoffN⟩ k9
    have r2 := round2 hfn' hb' hI hh hroom ⟨rfl, E0.k.keeps k9.F.keep⟩ E0 k9.F k9.N k9.g k9.o ht d1 d5 hR hT h1 h4 h6 mMin (fun q hq => hap q (List.mem_cons.mpr ((List.mem_cons.mp hq).imp id fun hq => List.mem_cons.mpr ((List.mem_cons.mp hq).imp id fun hq => List.mem_cons.mpr ((List.mem_cons.mp hq).imp id fun hq => List.mem_append_right _ hq))))) (fun p hp q hq => by
      rcases List.mem_cons.mp hq with rfl | hq
      · exact hst p hp (L + 1 + 1, om) (by simp)
      · exact hst p hp q (List.mem_cons_of_mem _ hq))
    exact wpAny_mono r2 (fun f s' hb => by
      obtain ⟨rfl, m', rest', hk, ha, hS, hj⟩ := hb
      exact ⟨rfl, m', rest', hk, ha, hS, Mn, mMin, hj⟩) fun _ _ e => e
end Mine
end

section
local macro_rules | `(tactic| walk_at "pad") => `(tactic| skip)
local macro_rules | `(tactic| walk_at "pad") => `(tactic| skip)
local macro_rules | `(tactic| walk_at "pad") => `(tactic| skip)
local macro_rules | `(tactic| walk_at "pad") => `(tactic| skip)
local macro_rules | `(tactic| walk_at "pad") => `(tactic| skip)
local macro_rules | `(tactic| walk_at "pad") => `(tactic| skip)
local macro_rules | `(tactic| walk_at "pad") => `(tactic| skip)
local macro_rules | `(tactic| walk_at "pad") => `(tactic| skip)
local macro_rules | `(tactic| walk_at "pad") => `(tactic| skip)
local macro_rules | `(tactic| walk_at "pad") => `(tactic| skip)
local macro_rules | `(tactic| walk_at "pad") => `(tactic| skip)
local macro_rules | `(tactic| walk_at "pad") => `(tactic| skip)
local macro_rules | `(tactic| walk_at "pad") => `(tactic| skip)
local macro_rules | `(tactic| walk_at "pad") => `(tactic| skip)
local macro_rules | `(tactic| walk_at "pad") => `(tactic| skip)
local macro_rules | `(tactic| walk_at "pad") => `(tactic| skip)
local macro_rules | `(tactic| walk_at "pad") => `(tactic| skip)
open PySem PySem.W PySem.W.X PyProof.Rows PySem.Calls PySem.Spec
set_option Elab.async false
set_option maxRecDepth 100000
set_option maxHeartbeats 8000000
set_option pp.deepTerms false
set_option pp.deepTerms.threshold 6
set_option pp.structureInstances false
set_option linter.all false
namespace Mine
variable {w : World} {p : Program} {loose : List Str} {mg mb : Str → Option Value} {bm : Addr} {ob : Obj} {s : Shared} {A : Around}
open PyProof.Rows.LCg (NsObj lst lst_snoc ns_obj)
section
variable {prog : Program} {w : World} {A : Around} {E : Value → Shared → Prop} {s : Shared} {h₀ : Heap} {L : Addr} {m : Str → Option Value} {news : List (Addr × Obj)}
theorem truthy_led {l : Addr} {zs : List Value} {c : Nat} {ls : List (List Nat)} {Q : Bool → Shared → Prop} (N : News h₀ L s.heap news) (hm : (l, lob zs c) ∈ news) (hi : IntsAre zs (lensI ls)) (hn : 0 < ls.length) (h4 : ls.length ≤ 1000)
    (h : Q true { s with toks := s.toks + 1 + 1 }) : wpAny (model prog w) A (truthy (.ref l)) Q E s := by
  have hl : zs.length = ls.length := by rw [hi.length]; simp [lensI]
  refine wpAny_truthy_list (items := zs.toArray) ⟨_, (N _ hm).1, rfl, _, rfl⟩ (by simp; omega) ?_
  cases zs with
  | nil => simp at hl; omega
  | cons _ _ => exact h
end
local macro_rules | `(tactic| walk_at "truthy ref") => `(tactic| (refine' truthy_led ?N ?m ?i ?n ?n4 ?_; (case N => assumption); (case m => k_mem); (case i => assumption); (case n => assumption); (case n4 => assumption)))
local macro_rules | `(tactic| walk_at "call builtin:max") => `(tactic| (refine' max_led ?F ?N ?hh ?m ?i ?n ?_; (case F => assumption); (case N => assumption); (case hh => assumption); (case m => k_mem); (case i => assumption); (case n => assumption); intro h' M' t' tk' F' N' m1))
theorem call_end {whole : List Stmt} {scope : Scope} {name qual : Str} {params : Arguments} {dV kV doc pm cdv ct oc' : Value} {an od' : Option Addr} {osl : Array (Option Value)}
   (hfn : (hd.heap_39 w.params).lookup 204 = some ⟨oc', od', .func (fnOf name qual params whole scope dV kV doc pm an cdv ct), osl⟩)
   {s0 : Shared} {L D Ln Sq : Addr} {oc om : Obj} {vs zs ys : List Value} {cz Mx : Nat} {tMx tC : Tok} {cnt : Int} {ps : Array Value} {own : Led} {ls : List (List Nat)} {u0 u1 u3 : Option Value} {G : Nat → Prop}
   (hh : A.handled = none) (hroom : A.depth + 6 < recursionLimit)
   (he : PySem.Challenge.rw_fq5033_01.row.prog = PySem.Challenge.rw_fq5033_01.row.prog ∧ (hd.heap_39 w.params).In s.heap)
   (E0 : Env0 w p loose mg mb bm ob (s0.heap.hide 194)) (F : Fr (s0.heap.hide 194) L s.heap (fun y => if y = Str.ofString "chars" then u3 else if y = Str.ofString "new_sequences" then u1 else if y = Str.ofString "_" then u0 else if y = Str.ofString "lengths" then some (.ref Ln) else if y = Str.ofString "sequences" then some (.ref Sq) else if y = Str.ofString "max_length" then some (.int Mx tMx) else if y = Str.ofString "count" then some (.int cnt tC) else none))
   (N : News (s0.heap.hide 194) L s.heap ((Ln, lob zs cz) :: (Sq, lst ys) :: (L + 1 + 1, om) :: (L + 1, oc) :: (D, tobj vs) :: (194, tableObj ps) :: own)) (hg : AllBare s.gens) (ho : s.os = s0.os) (ht : TriplesOk ps.toList)
   (z3 : IntsAre zs (lensI ls)) (h1 : 0 < ls.length) (h4 : ls.length ≤ 1000) (hMx : Mx ≤ 1000) (hG : ∀ M, IsMax M (ls.map (·.length)) → M ≤ Mx ∧ G (Mx - M)) :
   wpAny (model prog w) (A.deeper (envOfC qual scope L 204 cdv)) (execs (whole.drop 7) (envOfC qual scope L 204 cdv)) (fun fl s' => Ends s0 L (fun v s' => ∃ (r : Nat) (t : Tok), v = .int (r : Int) t ∧ G r) (match fl with | .ret v => v | _ => .none) s') (fun _ _ => False) s := by
  have e := (show (hd.heap_39 w.params).lookup 204 = some _ from rfl).symm.trans hfn
  injection e with e
  injection e with e1 e2 e3 e4
  injection e3 with e3
  unfold fnOf at e3
  injection e3 with k1 k2 k3 k4 k5 k6 k7 k8 k9 k10 k11 k12 k13
  injection k4 with k4
  subst k2 k5 k4 k13
  clear hfn e1 e2 e4 k1 k3 k6 k7 k8 k9 k10 k11 k12
  dsimp only [List.drop]
  revert he; k_fill; intro he
  have X := E0.k
  have T := E0.t
  have M := E0.b
  k_steps
  rename Fr _ _ _ _ => F9
  rename News _ _ _ _ => N9
  rename IsMax _ _ => m9
  obtain ⟨hle, hg9⟩ := hG _ m9
  dsimp only at F9 N9 ⊢
  refine Ends.of F9 N9 (.tail _ (.tail _ (.tail _ (.tail _ (.tail _ (.head _)))))) ht hg ⟨_, _, by rw [Int.ofNat_sub hle], hg9⟩ ho
end Mine
end

section
open PySem PySem.W PySem.W.X PyProof.Rows PySem.Calls PySem.Spec
set_option Elab.async false
set_option maxRecDepth 100000
set_option maxHeartbeats 8000000
set_option pp.deepTerms false
set_option pp.deepTerms.threshold 6
set_option pp.structureInstances false
set_option linter.all false
namespace Mine
variable {w : World} {p : Program} {loose : List Str} {mg mb : Str → Option Value} {bm : Addr} {ob : Obj} {s : Shared} {A : Around}
local macro_rules | `(tactic| k_inst) => `(tactic| (exact InstAt.up (by assumption) (by assumption)))
open PyProof.Rows.LCg (NsObj lst lst_snoc ns_obj)
local macro_rules | `(tactic| walk_at "eval Name") => `(tactic| ((with_reducible show wpAny _ _ (eval (Expr.Name _ _) (compEnvC _ _ _ _)) _ _ _); k_dflt (first
  | (refine' ce_own ?N ?m ?C ?x ?_ ?a ?b; (case a => rfl); (case b => rfl); (case N => assumption); (case m => k_mem); (case C => assumption); (case x => assumption))
  | (refine' ce_cell ?N ?c ?m ?d ?_ ?a ?b; (case a => rfl); (case b => rfl); (case N => assumption); (case c => rfl); (case m => k_mem); (case d => assumption))
  | (refine' ce_global ?F ?X ?T ?e ?_ ?g ?a ?b; (case a => rfl); (case b => rfl); (case g => rfl); (case F => assumption); (case X => assumption); (case T => assumption); (case e => k_is))
  | (refine' ce_built ?F ?X ?T ?e ?v ?n ?_ ?g ?g2 ?a ?b; (case a => rfl); (case b => rfl); (case g => rfl); (case g2 => rfl); (case F => assumption); (case X => assumption); (case T => assumption); (case e => k_is); (case v => boot_by_name); (case n => decide)))))
local macro_rules | `(tactic| walk_at "call ref") => `(tactic| (refine' CalcStep ?E0 ?F ?N ?U ?ht ?hg ?hx ?hh ?room ?_; (case E0 => assumption); (case F => assumption); (case N => assumption); (case U => assumption); (case ht => assumption); (case hg => assumption); (case hx => assumption); (case hh => assumption); (case room => (show A.depth + 1 + 3 < recursionLimit; omega)); intro v' t' s' ps' hv' ht' F' N' g' o'; subst hv'))
local macro_rules | `(tactic| walk_at "call type:list") => `(tactic| ((with_reducible show wpAny _ _ (call (Value.type "list") [Value.str _ _]) _ _ _); refine' list_ones ?F ?N ?hh ?x ?_; (case F => assumption); (case N => assumption); (case hh => assumption); (case x => assumption); intro D' c' zs' h' tk' F' N' l' z'))
local macro_rules | `(tactic| walk_at "call type:map") => `(tactic| (refine' map_led ?F ?N ?l ?R ?z ?_; (case F => assumption); (case N => assumption); (case l => assumption); (case R => assumption); (case z => assumption); intro h' I' F' N' X'))
local macro_rules | `(tactic| walk_at "call builtin:max") => `(tactic| (refine' max_led ?F ?N ?hh ?m ?i ?n ?_; (case F => assumption); (case N => assumption); (case hh => assumption); (case m => k_mem); (case i => assumption); (case n => assumption); intro h' M' t' tk' F' N' m1))
local macro_rules | `(tactic| walk_at "call builtin:min") => `(tactic| (refine' min_led ?F ?N ?hh ?m ?i ?n ?_; (case F => assumption); (case N => assumption); (case hh => assumption); (case m => k_mem); (case i => assumption); (case n => assumption); intro h' M' t' tk' F' N' m1))
local macro_rules | `(tactic| walk_at "call builtin:len") => `(tactic| (refine' len_lob ?N ?m ?z ?_; (case N => assumption); (case m => k_mem); (case z => assumption)))
local macro_rules | `(tactic| walk_at "call type:list") => `(tactic| ((with_reducible rename MapIs _ _ _ _ _ _ => mX); refine' list_map_led ?F ?N ?hh mX ?n ?_; (case F => assumption); (case N => assumption); (case hh => assumption); (case n => assumption); intro h' D' zs' c' tk' F' N' l' z'))
local macro_rules | `(tactic| walk_at "call builtin:all") => `(tactic| (refine' all_tup ?F ?N ?hh ?m ?i ?n ?_; (case F => assumption); (case N => assumption); (case hh => assumption); (case m => k_mem); (case i => assumption); (case n => assumption); intro h' tk' F' N'))
local macro_rules | `(tactic| walk_at "exec For Name Call cons nil") => `(tactic| ((with_reducible rename Fr _ _ _ _ => kF); refine' for_coreF kF ?hx ?hp ?_ ?hs; (case hx => first | exact rfl | with_unfolding_all rfl); (case hp => first | exact rfl | with_unfolding_all rfl); (case hs => (intro _; first | exact rfl | with_unfolding_all rfl))))
theorem callm (vs : List Value) (ns : List Str) (hi : StrsAre vs ns) (hn : 0 < ns.length) (h4 : ns.length ≤ 4) (hasc : ∀ x ∈ ns, (∀ c ∈ x.cps.toList, c < 128) ∧ x.length ≤ 8)
   (P dx : Addr) (g1 g2 : Int) (a1 a2 a3 : Tok) (n : Nat) (hI : InstAt (s.heap.hide 194) P (instObj 207 dx) 207 (some (ownD g1 g2 a1 a2 a3 n)))
   (G : Gd w p loose mg mb bm ob s) (hh : A.handled = none) (hroom : A.depth + 6 < recursionLimit)
   (he : PySem.Challenge.rw_fq5033_01.row.prog = PySem.Challenge.rw_fq5033_01.row.prog ∧ (hd.heap_39 w.params).In s.heap) :
   codeAny (model prog w) A (.call (.ref 204) ⟨.ref P :: vs, []⟩) (Gives s fun v s' => ∃ (r : Nat) (t : Tok), v = .int (r : Int) t ∧ IsDue ns r) s := by
  revert he; k_fill; intro he
  have hvl : vs.length = ns.length := StrsAre.length hi
  refine enterR (vs := vs) (g₁ := fun D => some [(Str.ofString "self", .ref P), (Str.ofString "sequences", .ref D)]) (binds := fun D => [(Str.ofString "self", .ref P), (Str.ofString "sequences", .ref D)]) G (by k_is) (by k_is) (by omega) ?hp (fun _ => rfl) (fun _ => rfl) (by decide +kernel) ?_ rfl rfl rfl
  case hp =>
    rcases vs with _ | ⟨v1, _ | ⟨v2, _ | ⟨v3, _ | ⟨v4, _ | ⟨v5, vs⟩⟩⟩⟩⟩
    · rfl
    · rfl
    · rfl
    · rfl
    · rfl
    · simp at hvl; omega
  intro ps D L' h₁ tk cells ht htab E0 hD hL F N Y h194 hb
  have X := E0.k
  have T := E0.t
  have M := E0.b
  obtain ⟨om, oc, hE, d2', d1'⟩ := CellsAre.two Y
  subst hE
  clear Y
  dsimp only [List.nil_append, List.cons_append] at N
  have F1 : Fr (s.heap.hide 194) L' h₁ (fun y => if y = Str.ofString "sequences" then some (.ref D) else none) := F
  clear F
  have d1 : oc.data = .cell (some (.ref P)) := d1'
  clear d1'
  have d2 : om.data = .cell none := d2'
  clear d2'
  have hlen : ∀ x ∈ ns, x.length ≤ 1000 := fun x hx => Nat.le_trans (hasc x hx).2 (by decide)
  k_steps
  rotate_left
  · have hemp : (ns.all fun x => !x == Str.ofString "") = false := by assumption
    show Ends s L' _ (.int 0 _) _
    refine Ends.of (by assumption) (by assumption) (.tail _ (.tail _ (.tail _ (.head _)))) ht hb ⟨0, _, rfl, .inl ⟨hemp, rfl⟩⟩
  rename_i hq tq Fq Nq hfull
  refine assign_core (h₀ := s.heap.hide 194) (L := L') (m := fun y => if y = Str.ofString "sequences" then some (.ref D) else none) rfl (by rfl) (by with_unfolding_all rfl) (by decide) rfl (by decide) rfl rfl ?_
  k_steps
  have ht1 : IsTup hq D vs.toArray := ⟨_, (Nq _ (.tail _ (.tail _ (.head _)))).1, rfl, _, rfl⟩
  refine iter_tuple ht1 ?_
  have k0 : OK (s.heap.hide 194) L' _ _ s.os (Shared.mk hq s.gens s.drawn tq s.os) := ⟨Fq, Nq, hb, rfl⟩
  have k1 := k0.push (o := { cls := .type "tuple_iterator", data := .fields #[.ref D, .int 0 0] })
  have hD194 : 194 ≠ D := Nat.ne_of_lt h194
  refine comp_feed (st₀ := [(hq.objs.size, { cls := .type "tuple_iterator", data := .fields #[.ref D, .int 0 0] })]) (led₀ := [(L' + 1 + 1, om), (L' + 1, oc), (D, tobj vs), (194, tableObj ps)])
    (fun i ys led => ∃ ps own, led = own ++ [(L' + 1 + 1, om), (L' + 1, oc), (D, tobj vs), (194, tableObj ps)] ∧ TriplesOk ps.toList ∧ RowsL own ys ((ns.take i).map fun x => codeL (x.cps.toList.map up1)) ∧ ∀ q ∈ own, q.1 ≠ 194)
    rfl rfl (feed_tuple (A := A.deeper _) (ax := D) (its := vs.toArray) hh (Nat.ne_of_lt (k0.lt (q := (D, tobj vs)) (.tail _ (.tail _ (.head _)))))) ?_ k1 ⟨_, rfl, fun h e => ⟨_, e, rfl, rfl⟩⟩ (.inr ⟨_, .tail _ (.tail _ (.head _)), rfl, _, rfl⟩) ?_ ⟨ps, [], rfl, ht, RowsL.nil _, fun _ h => nomatch h⟩ ?_ ?_ ?_
  · rw [sizeLine_eq]; show vs.toArray.size ≤ _; simp; omega
  · intro p hp q hq
    rw [List.mem_singleton.mp hp]
    exact Nat.ne_of_lt (k0.lt hq)
  · rintro i ys led ⟨ps, own, rfl, _, hR, _⟩
    rw [hR.1]; simp; omega
  · rintro i v ex st ys led C Dl oC mC s₁ E hi1 ⟨hv, rfl⟩ ⟨ps₁, own, rfl, ht₁, hR, hown⟩ hC hx k hCD ap2 ap hS
    obtain ⟨t, rfl⟩ := strs_at hi i v (by simpa using hv)
    have hil : i < ns.length := by simp at hi1; omega
    have hxx : ns.getD i Str.empty ∈ ns := by rw [List.getD_eq_getElem?_getD, List.getElem?_eq_getElem hil]; exact List.getElem_mem hil
    generalize hxd : ns.getD i Str.empty = x at hx hxx
    have hxa := hasc x hxx
    have hcl : (codeS x).length ≤ 1000 := Nat.le_trans (code_len x) (by decide)
    have F2 := k.F
    have N2 : News (s.heap.hide 194) L' s₁.heap ((C, oC) :: (Dl, lst ys) :: (L' + 1 + 1, om) :: (L' + 1, oc) :: (D, tobj vs) :: (194, tableObj ps₁) :: (st ++ own)) := fun q hq => k.N q (by
      simp only [List.mem_cons, List.mem_append, List.nil_append] at hq ⊢
      rcases hq with h | h | h | h | h | h | h | h <;> simp [h])
    have g2 := k.g
    have U2 : UpdF 194 (tableObj ps₁) ((C, oC) :: (Dl, lst ys) :: (L' + 1 + 1, om) :: (L' + 1, oc) :: (D, tobj vs) :: (194, tableObj ps₁) :: (st ++ own)) _ := .tail ?a1 (.tail ?a2 (.tail ?a8 (.tail ?a5 (.tail ?a6 (.head ?a7)))))
    case a1 => exact Ne.symm (ap2 (194, tableObj ps₁) (by simp)).1
    case a2 => exact Ne.symm (ap2 (194, tableObj ps₁) (by simp)).2
    case a8 => show L' + 1 + 1 ≠ 194; omega
    case a5 => show L' + 1 ≠ 194; omega
    case a6 => exact Ne.symm hD194
    case a7 =>
      intro q hq
      rcases List.mem_append.mp hq with h | h
      · exact Ne.symm (ap q h (194, tableObj ps₁) (by simp))
      · exact hown q h
    k_steps
    rename Fr _ _ _ _ => F9
    rename News _ _ _ _ => N9
    rename (AllBare _) => g9
    rename (_ = s₁.os) => o9
    rename Above _ _ => l9
    rename (Ones _ _) => z9
    rename (TriplesOk _) => t9
    have hlast : (ns.take (i + 1)).map (fun x => codeL (x.cps.toList.map up1)) = (ns.take i).map (fun x => codeL (x.cps.toList.map up1)) ++ [(codeS x).cps.toList] := by
      rw [List.take_add_one, List.map_append, List.getElem?_eq_getElem hil]
      have : ns[i] = x := by rw [← hxd]; simp [hil]
      simp [this, codeS]
    exact elt_row [(L' + 1 + 1, om), (L' + 1, oc), (D, tobj vs)] (.tail _ (.tail _ (.head _))) F9 N9 g9 (o9.trans k.o) l9 z9 t9 ap2 ap hR hown hlast
  · rintro ys led ⟨ps₂, own, rfl, ht₂, hR, hown⟩ Sq s₂ k offS
    have hall : (ns.take vs.toArray.size).map (fun x => codeL (x.cps.toList.map up1)) = ns.map (fun x => codeL (x.cps.toList.map up1)) := by
      rw [List.take_of_length_le]; simp; omega
    rw [hall] at hR
    have F2 := k.F
    have N2 : News (s.heap.hide 194) L' s₂.heap ((Sq, lst ys) :: (L' + 1 + 1, om) :: (L' + 1, oc) :: (D, tobj vs) :: (194, tableObj ps₂) :: own) := fun q hq => k.N q (by
      simp only [List.mem_cons, List.mem_append, List.not_mem_nil, or_false] at hq ⊢
      rcases hq with h | h | h | h | h | h <;> simp [h])
    have g2 := k.g
    have o2 := k.o
    have hR2 : RowsL ((Sq, lst ys) :: (L' + 1 + 1, om) :: (L' + 1, oc) :: (D, tobj vs) :: (194, tableObj ps₂) :: own) ys (ns.map (fun x => codeL (x.cps.toList.map up1))) := hR.mono fun q hq => by simp [hq]
    have hlens : lensI (ns.map (fun x => codeL (x.cps.toList.map up1))) = lensI (codesOf ns) := rfl
    have hmem : (Sq, lst ys) ∈ ((Sq, lst ys) :: (L' + 1 + 1, om) :: (L' + 1, oc) :: (D, tobj vs) :: (194, tableObj ps₂) :: own) := .head _
    have hsz : ∀ l ∈ ns.map (fun x => codeL (x.cps.toList.map up1)), l.length ≤ 1000 := fun l hl => by
      obtain ⟨x, _, rfl⟩ := List.mem_map.mp hl
      exact Nat.le_trans (codeL_len _) (by decide)
    have hpos : 0 < (ns.map (fun x => codeL (x.cps.toList.map up1))).length := by simpa using hn
    have hk1 : (ns.map (fun x => codeL (x.cps.toList.map up1))).length ≤ 1000 := by simp; omega
    k_steps
    · rename IsMax _ _ => mMax
      rename IsMin _ _ => mMin
      rename ((_ : Int) < ite _ _ _) => hlt
      show Ends s L' _ (.int 0 _) _
      refine Ends.of (by assumption) (by assumption) (.tail _ (.tail _ (.tail _ (.tail _ (.tail _ (.head _)))))) ht₂ g2 ⟨0, _, rfl, .inr ⟨hfull, _, _, mMax, mMin, .inl ⟨?_, rfl⟩⟩⟩ o2
      simp only [List.length_map] at hlt
      have := mMax.2 _ mMin.1
      split at hlt <;> omega
    · rename_i h7 I7 mX h6 Ln zs cz tk6 lz z3 h5 tk5 h4' tk4 h3 Mx tMx tk3 mMax h2 F2' N2' h1' Mn tMn tk1 F1' N1' mMin u1 tkb hle hq4 tq4 t41 u41 v41 rg F4 N4 hk4
      have hln : (List.map (fun l => (List.length l : Int)) (List.map (fun x => codeL (List.map up1 x.cps.toList)) ns)).length = ns.length := by simp
      rw [hln] at rg hle F4
      have hnn : Builtin.Range.rangeSize 0 ((ns.length : Nat) : Int) 1 = ((ns.length : Nat) : Int) := by
        rw [rangeSize_one]
        split <;> omega
      have hsm : Builtin.Range.small 0 ((ns.length : Nat) : Int) 1 = true := small_one (by omega) (by omega) (by omega) (by omega)
      refine wpAny_pyIter_range rg hsm ?_
      -- own rows apart from the cell
      let own' : Led := own.filter fun q => !(q.1 == L' + 1 + 1)
      have hown' : ∀ q ∈ own', q ∈ own ∧ q.1 ≠ L' + 1 + 1 := fun q hq => by
        have := List.mem_filter.mp hq
        exact ⟨this.1, by simpa using this.2⟩
      have hRown : RowsL own' ys (codesOf ns) := by
        refine ⟨hR.1, fun j v hv => ?_⟩
        obtain ⟨a, zs', c, e, hm, o⟩ := hR.2 j v hv
        refine ⟨a, zs', c, e, List.mem_filter.mpr ⟨hm, ?_⟩, o⟩
        have hne : a ≠ L' + 1 + 1 := fun h => by
          have e1 := (N4 (a, lob zs' c) (by simp [hm])).1
          have e2 := (N4 (L' + 1 + 1, om) (by simp)).1
          have e3 : hq4.get? (L' + 1 + 1) = some (lob zs' c) := h ▸ e1
          rw [e2] at e3
          injection e3 with e3
          have e4 : (lob zs' c).data = .cell none := (show om = lob zs' c from e3) ▸ d2
          exact nomatch e4
        simpa using hne
      have k5 : OK (s.heap.hide 194) L' _ ((Ln, lob zs cz) :: (Sq, lst ys) :: (L' + 1 + 1, om) :: (L' + 1, oc) :: (D, tobj vs) :: (194, tableObj ps₂) :: own') s.os (Shared.mk hq4 s₂.gens s₂.drawn tq4 s₂.os) := ⟨F4, fun q hq => N4 q (by
        simp only [List.mem_cons] at hq ⊢
        rcases hq with h | h | h | h | h | h | h
        iterate 6 (· simp [h])
        · simp [(hown' q h).1]), g2, o2⟩
      refine ⟨_, ns.length, _, _, _, [(_, _)], _, _, _, fun i m led => ∃ ls, ((i = 0 ∧ ls = codesOf ns) ∨ (0 < i ∧ ls = roundL (codesOf ns) Mn)) ∧ LoopLed L' D oc vs Mx tMx ns.length (tk5 + 1) ls m led, rfl, feed_range (A := A.deeper _) hh 0 ns.length, k5.push, ⟨_, rfl, fun h e => by rw [hnn] at e; simpa using e⟩, trivial, ?_, ?_, ?_, ?_⟩
      · intro p hp q hq
        rw [List.mem_singleton.mp hp]
        exact Nat.ne_of_lt (k5.lt hq)
      · refine ⟨_, .inl ⟨rfl, rfl⟩, none, none, none, Ln, Sq, zs, cz, ys, om, ps₂, own', ?_, rfl, ht₂, ⟨_, d2⟩, hRown, z3, ?_, ?_, ?_⟩
        · funext y
          by_cases c1 : y = Str.ofString "chars"
          · subst c1; rfl
          by_cases c2 : y = Str.ofString "new_sequences"
          · subst c2; rfl
          by_cases c3 : y = Str.ofString "_"
          · subst c3; rfl
          by_cases c4 : y = Str.ofString "lengths"
          · subst c4; rfl
          by_cases c5 : y = Str.ofString "sequences"
          · subst c5; rfl
          simp only [if_neg c1, if_neg c2, if_neg c3, if_neg c4, if_neg c5]
        · exact Ne.symm (Nat.ne_of_lt (lz (L' + 1 + 1, om) (by simp)))
        · exact Ne.symm (offS (L' + 1 + 1, om) (by simp))
        · intro q hq
          simp only [List.mem_cons] at hq
          rcases hq with h | h | h | h
          · rw [h]; show L' + 1 ≠ L' + 1 + 1; omega
          · rw [h]; show D ≠ L' + 1 + 1; omega
          · rw [h]; show 194 ≠ L' + 1 + 1; omega
          · exact (hown' q h).2
      · rintro i v ex st m led s₃ hi1 ⟨hv, rfl⟩ ⟨ls, hls, hL1⟩ k7 ap7 _ _
        obtain ⟨u0, u1', u3, Ln1, Sq1, zs1, cz1, ys1, om1, ps1, own1, rfl, rfl, ht1', d2', hR1, z1, hLn1, hSq1, hap1⟩ := hL1
        have hlsl : ls.length = ns.length := by rcases hls with ⟨_, rfl⟩ | ⟨_, rfl⟩ <;> simp [roundL_length]
        have hls6 : ∀ l ∈ ls, l.length ≤ 6 := by
          have h0 : ∀ l ∈ codesOf ns, l.length ≤ 6 := fun l hl => by
            obtain ⟨x, _, rfl⟩ := List.mem_map.mp hl
            exact codeL_len _
          rcases hls with ⟨_, rfl⟩ | ⟨_, rfl⟩
          · exact h0
          · intro r hr
            obtain ⟨l, hl, rfl⟩ := roundL_row hr
            have h1 := h0 l hl
            have h2 := diffK_le (codesOf ns) Mn
            have h3 := mMin.2 _ (List.mem_map.mpr ⟨l, hl, rfl⟩)
            simp only [List.length_append, List.length_map, List.length_drop]
            omega
        have F7 : Fr (s.heap.hide 194) L' s₃.heap (fun y => if y = Str.ofString "_" then some v else if y = Str.ofString "chars" then u3 else if y = Str.ofString "new_sequences" then u1' else if y = Str.ofString "lengths" then some (.ref Ln1) else if y = Str.ofString "sequences" then some (.ref Sq1) else if y = Str.ofString "max_length" then some (.int Mx tMx) else if y = Str.ofString "count" then some (.int ns.length (tk5 + 1)) else none) := by
          refine Eq.mp (congrArg (fun m => Fr (s.heap.hide 194) L' s₃.heap m) (funext fun y => ?_)) k7.F
          by_cases c1 : y = Str.ofString "_"
          · subst c1; rfl
          by_cases c2 : y = Str.ofString "chars"
          · subst c2; rfl
          by_cases c3 : y = Str.ofString "new_sequences"
          · subst c3; rfl
          simp only [if_neg c1, if_neg c2, if_neg c3]
        have N7 : News (s.heap.hide 194) L' s₃.heap ((Ln1, lob zs1 cz1) :: (Sq1, lst ys1) :: (L' + 1 + 1, om1) :: (L' + 1, oc) :: (D, tobj vs) :: (194, tableObj ps1) :: (st ++ own1)) := fun q hq => k7.N q (by
          simp only [List.mem_cons, List.mem_append, List.nil_append] at hq ⊢
          rcases hq with h | h | h | h | h | h | h | h <;> simp [h])
        have hst7 : Ap st ((L' + 1 + 1, om1) :: (L' + 1, oc) :: (D, tobj vs) :: (194, tableObj ps1) :: own1) := fun p hp q hq => ap7 p hp q (by
          simp only [List.mem_cons, List.nil_append] at hq ⊢
          rcases hq with h | h | h | h | h <;> simp [h])
        have hap7 : ∀ q ∈ (L' + 1, oc) :: (D, tobj vs) :: (194, tableObj ps1) :: (st ++ own1), q.1 ≠ L' + 1 + 1 := fun q hq => by
          simp only [List.mem_cons, List.mem_append] at hq
          rcases hq with h | h | h | h | h
          · exact hap1 q (by simp [h])
          · exact hap1 q (by simp [h])
          · exact hap1 q (by simp [h])
          · exact Ne.symm (ap7 q h (L' + 1 + 1, om1) (by simp))
          · exact hap1 q (by simp [h])
        refine wpAny_mono (round (A := A) (hfn := rfl) (hb := rfl) hI hh hroom ⟨rfl, X.keeps F7.keep⟩ E0 F7 N7 k7.g k7.o ht1' d1 d2' hR1 z1 (by omega) (by omega) hls6 hLn1 hSq1 hap7 hst7) ?_ fun _ _ h => h
        rintro fl s₄ ⟨rfl, m', rest', k8, ap8, hs8, Mn', hMn', hL8⟩
        refine ⟨rfl, m', rest', k8, ap8, trivial, roundL ls Mn', .inr ⟨by omega, ?_⟩, hL8⟩
        rcases hls with ⟨_, rfl⟩ | ⟨_, rfl⟩
        · rw [IsMin.unique hMn' mMin]
        · rw [IsMin.unique hMn' (roundL_min mMin)]
          exact roundL_fix
      · rintro m led s₃ ⟨ls, hls, hL1⟩ k7
        obtain ⟨u0, u1', u3, Ln1, Sq1, zs1, cz1, ys1, om1, ps1, own1, rfl, rfl, ht1', d2', hR1, z1, hLn1, hSq1, hap1⟩ := hL1
        have hle6 : Mx ≤ 6 := by
          obtain ⟨l, hl, e⟩ := List.mem_map.mp mMax.1
          obtain ⟨x, _, rfl⟩ := List.mem_map.mp hl
          rw [← e]; exact codeL_len _
        have hls1 : ls = roundL (codesOf ns) Mn := by
          rcases hls with ⟨h, _⟩ | ⟨_, h⟩
          · omega
          · exact h
        refine call_end (hfn := rfl) (G := IsDue ns) hh hroom ⟨rfl, X.keeps k7.F.keep⟩ E0 k7.F k7.N k7.g k7.o ht1' z1 (by rw [hls1, roundL_length]; simpa using hn) (by rw [hls1, roundL_length]; simpa using hk1) (by omega) ?_
        intro M9 m9
        rw [hls1] at m9
        have hq := IsMax.unique m9 (roundL_max mMin mMax)
        have hmM := mMax.2 _ mMin.1
        have hag := agree_add (codesOf ns) Mn
        have hdk := diffK_le (codesOf ns) Mn
        refine ⟨by omega, .inr ⟨hfull, Mx, Mn, mMax, mMin, .inr ⟨?_, ?_⟩⟩⟩
        · have h9 := hle
          split at h9 <;> omega
        · omega
end Mine
end

section
local macro_rules | `(tactic| walk_at "pad") => `(tactic| skip)
local macro_rules | `(tactic| walk_at "pad") => `(tactic| skip)
local macro_rules | `(tactic| walk_at "pad") => `(tactic| skip)
local macro_rules | `(tactic| walk_at "pad") => `(tactic| skip)
local macro_rules | `(tactic| walk_at "pad") => `(tactic| skip)
local macro_rules | `(tactic| walk_at "pad") => `(tactic| skip)
local macro_rules | `(tactic| walk_at "pad") => `(tactic| skip)
local macro_rules | `(tactic| walk_at "pad") => `(tactic| skip)
local macro_rules | `(tactic| walk_at "pad") => `(tactic| skip)
local macro_rules | `(tactic| walk_at "pad") => `(tactic| skip)
local macro_rules | `(tactic| walk_at "pad") => `(tactic| skip)
local macro_rules | `(tactic| walk_at "pad") => `(tactic| skip)
open PySem PySem.W PySem.W.X PyProof.Rows PySem.Calls PySem.Spec
set_option Elab.async false
set_option maxRecDepth 100000
set_option maxHeartbeats 8000000
set_option linter.all false
namespace Mine
open PyProof.Rows.LCg (NsObj lst lst_snoc ns_obj)
section
variable {M : Model} {A : Around} {E : Value → Shared → Prop} {s : Shared} {K : Frag} {env : Env} {pos p : Pos} {x C : Addr} {ox : Obj} {od : Option Obj} {first : List Value} {Q : Value → Shared → Prop} {e : Expr}
/-- own object called with a star -/
theorem star_inst {f : Addr} (_X : K.In s.heap) (_I : InstAt s.heap x ox C od) (hd : ox.data = .plain) (_hs : findIn K (.ref C) "__call__" = some (some (.ref f)))
    (h : wpAny M A (eval e env) (fun v s₁ => StarOf M A E v (fun vs s₂ => kco_P K x C ox od s₂.heap ∧ wpAny M A (call (.ref x) (first ++ vs)) Q E s₂) s₁) E s)
    (he : starEach [.Starred e p] env = [(true, eval e env)] := by rfl) :
    wpAny M A (callWith pos (.ref x) first (backTo pos (starEach [.Starred e p] env)) []) Q E s := by
  rw [he]
  unfold callWith
  refine wpAny_bind (wpAny_holding (wpAny_mono (ks_lone (Q := fun a s₂ => kco_P K x C ox od s₂.heap ∧ wpAny M A (call (.ref x) (first ++ a.pos) a.kw) Q E s₂) h) (fun a s₁ h₁ => wpAny_bind (wpAny_standAt ?_)) fun _ _ y => y))
  have L := kco_keeper (M := M) h₁.1.2 hd
  refine wpAny_bind (L.here ?_)
  have tail : ∀ {t : Sem Value}, wpAny M A t Q E s₁ → wpAny M A (t >>= fun r => holding [r] point >>= fun _ => pure r) Q E s₁ :=
    fun ht => wpAny_bind (wpAny_mono ht (fun r s₂ hr => wpAny_bind (wpAny_holding (wpAny_point (wpAny_pure hr)))) fun _ _ y => y)
  exact tail (wpAny_operateT h₁.2)
/-- a method object called with a star -/
theorem star_meth {h₀ : Heap} {L : Addr} {news : List (Addr × Obj)} {q g : Addr} {self : Value} (_X : K.In h₀) (_N : News h₀ L s.heap news) (_q : (q, methodObj (.ref g) self) ∈ news) (hf : fnIn K g = true)
    (h : wpAny M A (eval e env) (fun v s₁ => StarOf M A E v (fun vs s₂ => MethP K q g self s₂.heap ∧ wpAny M A (call (.ref q) (first ++ vs)) Q E s₂) s₁) E s)
    (he : starEach [.Starred e p] env = [(true, eval e env)] := by rfl) :
    wpAny M A (callWith pos (.ref q) first (backTo pos (starEach [.Starred e p] env)) []) Q E s := by
  rw [he]
  exact ks_call rfl (keeps_M hf) (ks_lone h)
end
section
variable {w : World} {p : Program} {loose : List Str} {mg mb : Str → Option Value} {bm : Addr} {ob : Obj} {s : Shared} {A : Around} {E : Value → Shared → Prop} {h₀ : Heap} {L : Addr} {m : Str → Option Value} {news : List (Addr × Obj)} {g : Obj → List (Addr × Obj)} {ps : Array Value}
theorem call_MK {q f : Addr} {self : Value} {pos : List Value} {P Q : Value → Shared → Prop} (E0 : Env0 w p loose mg mb bm ob h₀) (F : Fr h₀ L s.heap m) (N : News h₀ L s.heap news) (U : UpdF 194 (tableObj ps) news g) (ht : TriplesOk ps.toList) (hg : AllBare s.gens)
    (hq : (q, methodObj (.ref f) self) ∈ news) (c : Gd w p loose mg mb bm ob s → codeAny (model prog w) A (.call (.ref f) ⟨self :: pos, []⟩) (Gives s P) s)
    (h : ∀ v s' ps', P v s' → TriplesOk ps'.toList → Fr h₀ L s'.heap m → News h₀ L s'.heap (g (tableObj ps')) → AllBare s'.gens → s'.os = s.os → Q v s') : wpAny (model prog w) A (call (.ref q) pos) Q E s :=
  call_K E0 F N U ht hg (fun G => method_call (N _ hq).1 (c G)) h
theorem call_IK {q f C : Addr} {ox : Obj} {od : Option Obj} {pos : List Value} {P Q : Value → Shared → Prop} (E0 : Env0 w p loose mg mb bm ob h₀) (F : Fr h₀ L s.heap m) (N : News h₀ L s.heap news) (U : UpdF 194 (tableObj ps) news g) (ht : TriplesOk ps.toList) (hg : AllBare s.gens)
    (I : InstAt s.heap q ox C od) (hd' : ox.data = .plain) (hs : findIn (hd.heap_39 w.params) (.ref C) "__call__" = some (some (.ref f))) (hf : isFn (hd.heap_39 w.params) (.ref f) = true) (hfn : fnIn (hd.heap_39 w.params) f = true)
    (c : Gd w p loose mg mb bm ob s → codeAny (model prog w) A (.call (.ref f) ⟨.ref q :: pos, []⟩) (Gives s P) s)
    (h : ∀ v s' ps', P v s' → TriplesOk ps'.toList → Fr h₀ L s'.heap m → News h₀ L s'.heap (g (tableObj ps')) → AllBare s'.gens → s'.os = s.os → Q v s') : wpAny (model prog w) A (call (.ref q) pos) Q E s :=
  call_K E0 F N U ht hg (fun G => kco_code G.e.k I hd' hs hf hfn (c G)) h
/-- an MRA at P -/
def MraAt (h : Heap) (P : Addr) : Prop := ∃ dx g1 g2 a1 a2 a3 n, InstAt h P (instObj 207 dx) 207 (some (ownD g1 g2 a1 a2 a3 n))
theorem MraAt.hide {h : Heap} {P : Addr} {ps : Array Value} (x : MraAt h P) (h194 : h.get? 194 = some (tableObj ps)) : MraAt (h.hide 194) P := by
  obtain ⟨dx, g1, g2, a1, a2, a3, n, I⟩ := x
  refine ⟨dx, g1, g2, a1, a2, a3, n, (Heap.hide_ne _ ?_).trans I.at_, I.cls, I.no, ?_⟩
  · intro e
    have := I.at_
    rw [e, h194] at this
    injection this with this
    injection this with c
    exact nomatch c
  · refine (Heap.hide_ne _ ?_).trans (show h.get? dx = _ from I.dict)
    intro e
    have := (show h.get? dx = _ from I.dict)
    rw [e, h194] at this
    injection this with this
    injection this with c
    exact nomatch c
theorem MraAt.up {h h' : Heap} {P : Addr} (x : MraAt h P) (k : ∀ b o, h.get? b = some o → h'.get? b = some o) : MraAt h' P := by
  obtain ⟨dx, g1, g2, a1, a2, a3, n, I⟩ := x
  exact ⟨dx, g1, g2, a1, a2, a3, n, k _ _ I.at_, I.cls, I.no, k _ _ (show h.get? dx = _ from I.dict)⟩
theorem MraAt.of {h : Heap} {P dx : Addr} {g1 g2 : Int} {a1 a2 a3 : Tok} {n : Nat} (I : InstAt h P (instObj 207 dx) 207 (some (ownD g1 g2 a1 a2 a3 n))) : MraAt h P := ⟨dx, g1, g2, a1, a2, a3, n, I⟩
/-- names that the contracts speak of -/
structure Names (vs : List Value) (ns : List Str) : Prop where
  are : StrsAre vs ns
  pos : 0 < ns.length
  four : ns.length ≤ 4
  asc : ∀ x ∈ ns, (∀ c ∈ x.cps.toList, c < 128) ∧ x.length ≤ 8
theorem CallStep {q : Addr} {vs : List Value} {ns : List Str} {Q : Value → Shared → Prop} (E0 : Env0 w p loose mg mb bm ob h₀) (F : Fr h₀ L s.heap m) (N : News h₀ L s.heap news) (U : UpdF 194 (tableObj ps) news g) (ht : TriplesOk ps.toList) (hg : AllBare s.gens)
    (I : MraAt s.heap q) (hi : Names vs ns) (hh : A.handled = none) (hroom : A.depth + 6 < recursionLimit)
    (h : ∀ v t s' ps', IsDue ns v → TriplesOk ps'.toList → Fr h₀ L s'.heap m → News h₀ L s'.heap (g (tableObj ps')) → AllBare s'.gens → s'.os = s.os → Q (.int (v : Nat) t) s') : wpAny (model prog w) A (call (.ref q) vs) Q E s := by
  obtain ⟨dx, g1, g2, a1, a2, a3, n, I0⟩ := I
  have he : PySem.Challenge.rw_fq5033_01.row.prog = PySem.Challenge.rw_fq5033_01.row.prog ∧ (hd.heap_39 w.params).In h₀ := ⟨rfl, E0.k⟩
  revert he; k_fill; intro he
  refine call_IK (f := 204) (P := fun v s' => ∃ (r : Nat) (t : Tok), v = .int (r : Int) t ∧ IsDue ns r) E0 F N U ht hg I0 rfl (by k_is) (by k_is) (by k_is) (fun G => ?_) fun v s' ps' hp h1 h2 h3 h4 h5 => ?_
  · obtain ⟨ps, hps, _⟩ := G.tab
    obtain ⟨dx', g1', g2', a1', a2', a3', n', I'⟩ := (MraAt.of I0).hide hps
    exact callm vs ns hi.are hi.pos hi.four hi.asc q dx' g1' g2' a1' a2' a3' n' I' G hh hroom ⟨rfl, G.e.k⟩
  · obtain ⟨r, t, rfl, hd⟩ := hp
    exact h r t s' ps' hd h1 h2 h3 h4 h5
theorem MaxStep {q f : Addr} {vs : List Value} {ns : List Str} {Q : Value → Shared → Prop} (E0 : Env0 w p loose mg mb bm ob h₀) (F : Fr h₀ L s.heap m) (N : News h₀ L s.heap news) (U : UpdF 194 (tableObj ps) news g) (ht : TriplesOk ps.toList) (hg : AllBare s.gens)
    (hq : (q, methodObj (.ref 192) (.ref f)) ∈ news) (I : MraAt s.heap f) (hi : Names vs ns) (hh : A.handled = none) (hroom : A.depth + 6 < recursionLimit)
    (h : ∀ M t s' ps', IsMax M ((codesOf ns).map (·.length)) → TriplesOk ps'.toList → Fr h₀ L s'.heap m → News h₀ L s'.heap (g (tableObj ps')) → AllBare s'.gens → s'.os = s.os → Q (.int (M : Nat) t) s') : wpAny (model prog w) A (call (.ref q) vs) Q E s := by
  obtain ⟨dx, g1, g2, a1, a2, a3, n, I0⟩ := I
  refine call_MK (P := fun v s' => ∃ (M : Nat) (t : Tok), v = .int (M : Int) t ∧ IsMax M (ns.map fun x => (codeL (x.cps.toList.map up1)).length)) E0 F N U ht hg hq (fun G => ?_) fun v s' ps' hp h1 h2 h3 h4 h5 => ?_
  · obtain ⟨ps, hps, _⟩ := G.tab
    obtain ⟨dx', g1', g2', a1', a2', a3', n', I'⟩ := (MraAt.of I0).hide hps
    exact maxi vs ns hi.are hi.pos hi.four hi.asc f dx' g1' g2' a1' a2' a3' n' I' G hh hroom ⟨rfl, G.e.k⟩
  · obtain ⟨M, t, rfl, hm⟩ := hp
    refine h M t s' ps' ?_ h1 h2 h3 h4 h5
    rw [List.map_map]; exact hm
end
end Mine
end

section
open PySem PySem.W PySem.W.X PyProof.Rows PySem.Calls PySem.Spec
set_option Elab.async false
set_option maxRecDepth 100000
set_option maxHeartbeats 8000000
set_option pp.deepTerms false
set_option pp.deepTerms.threshold 6
set_option pp.structureInstances false
set_option linter.all false
namespace Mine
variable {w : World} {p : Program} {loose : List Str} {mg mb : Str → Option Value} {bm : Addr} {ob : Obj} {s : Shared} {A : Around}
theorem len_app1 (k : Str) (c : Nat) : (k ++ (⟨#[c]⟩ : Str)).length = k.length + 1 := by rw [Str.length_append]; rfl
theorem law_turn {r0 : List Nat} {c0 c i : Nat} {k : Str} (hc : (tx r0).cps[i]? = some c) (hk : k.cps.toList = (r0.take i).foldl stepK [c0]) (hk1 : 1 ≤ k.length)
    (hv : (Builtin.Str.occurrences (Str.ofString "AEIOU") (Str.mk #[c]) 0 (Str.ofString "AEIOU").length 1).isEmpty = true) (hne : (Str.mk #[c] != Txt.item k (-1)) = true) :
    (k ++ Str.mk #[c]).cps.toList = (r0.take (i + 1)).foldl stepK [c0] := by
  have hc' : r0[i]? = some c := by simpa using hc
  rw [List.take_add_one, hc', List.foldl_append, ← hk]
  have hl : k.cps.toList.getLast? = some (k.cps.toList.getLast (by intro q; rw [len_list, q] at hk1; simp at hk1)) := List.getLast?_eq_some_getLast _
  rw [item_last hl] at hne
  rw [vow_occ] at hv
  have : (k ++ Str.mk #[c]).cps.toList = k.cps.toList ++ [c] := by show (k.cps ++ #[c]).toList = _; simp
  rw [this]
  have hne' : ¬ (k.cps.toList.getLast? = some c) := by
    rw [hl]; intro q; rw [Option.some.inj q] at hne; simp at hne
  have hv' : vow c = false := by simpa using hv
  simp only [List.foldl_cons, List.foldl_nil, Option.toList_some, stepK, hv', Bool.not_false, Bool.true_and]
  rw [if_pos]
  simpa using hne'
theorem law_same {r0 : List Nat} {c0 c i : Nat} {k : Str} (hc : (tx r0).cps[i]? = some c) (hk : k.cps.toList = (r0.take i).foldl stepK [c0]) (hk1 : 1 ≤ k.length)
    (h : (Builtin.Str.occurrences (Str.ofString "AEIOU") (Str.mk #[c]) 0 (Str.ofString "AEIOU").length 1).isEmpty = false ∨ (Str.mk #[c] != Txt.item k (-1)) = false) :
    k.cps.toList = (r0.take (i + 1)).foldl stepK [c0] := by
  have hc' : r0[i]? = some c := by simpa using hc
  rw [List.take_add_one, hc', List.foldl_append, ← hk]
  have hl : k.cps.toList.getLast? = some (k.cps.toList.getLast (by intro q; rw [len_list, q] at hk1; simp at hk1)) := List.getLast?_eq_some_getLast _
  rw [item_last hl, vow_occ] at h
  simp only [List.foldl_cons, List.foldl_nil, Option.toList_some, stepK]
  rw [if_neg]
  rw [hl]
  rcases h with h | h
  · have hv' : vow c = true := by simpa using h
    simp [hv']
  · have : c = k.cps.toList.getLast (by intro q; rw [len_list, q] at hk1; simp at hk1) := by simpa using h
    simp [← this]
theorem reg (h : PySem.Challenge.rw_fq5033_01 = PySem.Challenge.rw_fq5033_01) : True := trivial

theorem law_code (x : Str) (t : Tok) (hx : ∀ c ∈ x.cps.toList, c < 128) (hl : x.length ≤ 8)
   (G : Gd w p loose mg mb bm ob s) (hh : A.handled = none) (hroom : A.depth < recursionLimit)
   (he : PySem.Challenge.rw_fq5033_01.row.prog = PySem.Challenge.rw_fq5033_01.row.prog ∧ (hd.heap_39 w.params).In s.heap) : codeAny (model prog w) A (.call (.ref 216) ⟨[.str x t], []⟩) (Gives s fun v _ => ∃ u, v = .str (codeS x) u) s := by
  have hU0 := upper_ascii hx
  have hUl : (Txt.upper x).length = x.length := by rw [hU0]; simp [Str.length]
  revert he; k_fill; intro he
  refine enterC G (by k_is) (by k_is) hroom (BindsTo.of_eq rfl) rfl (by decide +kernel) ?_ rfl rfl rfl
  intro ps L' h₁ tk cells ht E0 hL F N Y h194 hb
  have X := E0.k
  have T := E0.t
  have M := E0.b
  have hc0 : cells = [] := by cases Y; rfl
  subst hc0
  dsimp only [List.nil_append] at N
  have F1 : Fr (s.heap.hide 194) L' h₁ (fun y => if y = Str.ofString "name" then some (.str x t) else none) := F
  clear F
  clear Y
  k_steps
  rotate_left
  · rename Fr _ _ _ _ => Fk
    rename News _ _ _ _ => Nk
    have hp1 : 1 ≤ x.length := by assumption
    obtain ⟨c0, r0, hcr⟩ : ∃ c r, (Txt.upper x).cps.toList = c :: r := by
      cases q : (Txt.upper x).cps.toList with
      | nil => rw [len_list, q] at hUl; simp at hUl; omega
      | cons c r => exact ⟨c, r, rfl⟩
    have hup : x.cps.toList.map up1 = c0 :: r0 := by rw [← hcr, hU0]; simp
    have hsl : Txt.slice (Txt.upper x) (some 1) none = tx r0 := by rw [slice_tail (by omega), hcr]; rfl
    have hr8 : r0.length ≤ 7 := by rw [len_list, hcr, List.length_cons] at hUl; omega
    rw [hsl]
    rw [item_first hcr] at Fk
    refine for_str hh Fk Nk (fun i m₁ => ∃ (k : Str) (u : Tok) (lv : Option Value), m₁ = (fun y => if y = Str.ofString "letter" then lv else if y = Str.ofString "kept" then some (.str k u) else if y = Str.ofString "word" then some (.str (Txt.upper x) tk) else if y = Str.ofString "name" then some (Value.str x t) else none) ∧
      k.cps.toList = (r0.take i).foldl stepK [c0] ∧ 1 ≤ k.length ∧ k.length ≤ 1 + i) ?_ ?_ ?_
    rotate_left
    · rintro i c u m₁ s₁ own hi hc ⟨k, u2, lv, rfl, hk, hk1, hk2⟩ F₁ N₁
      have hk8 : k.length ≤ 8 := by simp at hi; omega
      clear Fk Nk
      k_steps
      · rename Fr _ _ _ _ => F2
        rename News _ _ _ _ => N2
        have hv : (Builtin.Str.occurrences (Str.ofString "AEIOU") (Str.mk #[c]) 0 (Str.ofString "AEIOU").length 1).isEmpty = true := by assumption
        have hne : (Str.mk #[c] != Txt.item k (-1)) = true := by assumption
        refine TurnEnd.intro F2 N2 ⟨k ++ ⟨#[c]⟩, ?u, some (.str ⟨#[c]⟩ u), ?h1, law_turn hc hk hk1 hv hne, by rw [len_app1]; omega, by rw [len_app1]; omega⟩
        case h1 =>
          funext y
          by_cases hletter : y = Str.ofString "letter"
          · subst hletter; rfl
          simp only [if_neg hletter]
          by_cases hkept : y = Str.ofString "kept"
          · subst hkept; rfl
          simp only [if_neg hkept]
      · have hne : (Str.mk #[c] != Txt.item k (-1)) = false := by assumption
        refine TurnEnd.intro F₁ N₁ ⟨k, u2, some (.str ⟨#[c]⟩ u), ?_, law_same hc hk hk1 (.inr hne), hk1, Nat.le_succ_of_le hk2⟩
        funext y
        by_cases hletter : y = Str.ofString "letter"
        · subst hletter; rfl
        simp only [if_neg hletter]
      · have hv : (Builtin.Str.occurrences (Str.ofString "AEIOU") (Str.mk #[c]) 0 (Str.ofString "AEIOU").length 1).isEmpty = false := by assumption
        refine TurnEnd.intro F₁ N₁ ⟨k, u2, some (.str ⟨#[c]⟩ u), ?_, law_same hc hk hk1 (.inl hv), hk1, Nat.le_succ_of_le hk2⟩
        funext y
        by_cases hletter : y = Str.ofString "letter"
        · subst hletter; rfl
        simp only [if_neg hletter]
    · rintro h' tk' m' ⟨k, u, lv, rfl, hk, hk1, hk2⟩ F₁ N₁
      rw [List.take_of_length_le (by simp)] at hk
      have hk8 : k.length ≤ 8 := by simp at hk2; omega
      clear Fk Nk
      k_steps
      · have h6 : (6 : Int) < k.length := by assumption
        refine Ends.of (by assumption) (by assumption) (List.mem_singleton.mpr rfl) ht hb (by rw [code_long hup hk h6]; exact ⟨_, rfl⟩)
      · have h6 : ¬ (6 : Int) < k.length := by assumption
        refine Ends.of (by assumption) (by assumption) (List.mem_singleton.mpr rfl) ht hb (by rw [code_short hup hk h6]; exact ⟨_, rfl⟩)
    · refine ⟨⟨#[c0]⟩, ?u3, none, ?h3, rfl, Nat.le_refl _, Nat.le_refl _⟩
      case h3 =>
        funext y
        by_cases hletter : y = Str.ofString "letter"
        · subst hletter; rfl
        simp only [if_neg hletter]
        by_cases hkept : y = Str.ofString "kept"
        · subst hkept; rfl
        simp only [if_neg hkept]
  · have he' : (x == Str.ofString "") = true := by assumption
    show Ends s L' _ (.str (Str.ofString "") _) _
    refine Ends.of (by assumption) (by assumption) (List.mem_singleton.mpr rfl) ht hb (by rw [code_empty he']; exact ⟨_, rfl⟩)
end Mine
end

section
local macro_rules | `(tactic| walk_at "pad") => `(tactic| skip)
open PySem PySem.W PySem.W.X PyProof.Rows PySem.Calls PySem.Spec
set_option Elab.async false
set_option maxRecDepth 100000
set_option maxHeartbeats 8000000
set_option pp.deepTerms false
set_option pp.deepTerms.threshold 6
set_option pp.structureInstances false
set_option linter.all false
namespace Mine
variable {w : World} {p : Program} {loose : List Str} {mg mb : Str → Option Value} {bm : Addr} {ob : Obj} {s : Shared} {A : Around}
local macro_rules | `(tactic| k_inst) => `(tactic| (exact InstAt.up (by assumption) (by assumption)))
open PyProof.Rows.LCg (NsObj lst lst_snoc ns_obj)
local macro_rules | `(tactic| walk_at "eval Call Attribute") => `(tactic| ((with_reducible show wpAny _ _ (eval (Expr.Call (Expr.Attribute _ _ _) [Expr.Starred _ _] [] _) _) _ _ _); refine methodCall_S ?_))
local macro_rules | `(tactic| walk_at "StarOf") => `(tactic| (refine' star_tup ?F ?N ?m ?z ?_; (case F => assumption); (case N => assumption); (case m => k_mem); (case z => assumption); intro h' F' N'))
local macro_rules | `(tactic| walk_at "callWith ref") => `(tactic| ((with_reducible show wpAny _ _ (callWith _ (Value.ref _) _ (backTo _ (starEach [Expr.Starred _ _] _)) []) _ _ _); k_dflt (first
  | (refine' star_meth ?z1 ?z2 ?z3 ?z4 ?_; (case z1 => k_asm); (case z2 => k_asm); (case z3 => k_mem); (case z4 => k_is))
  | (refine' star_inst ?z1 ?z2 ?z3 ?z4 ?_; (case z1 => k_in); (case z2 => k_inst); (case z3 => rfl); (case z4 => k_is)))))
local macro_rules | `(tactic| walk_at "call ref") => `(tactic| (refine' CallStep ?z1 ?z2 ?z3 ?z4 ?z5 ?z6 ?z7 ?z8 ?z9 ?za ?_; (case z1 => assumption); (case z2 => assumption); (case z3 => assumption); (case z4 => k_updF); (case z5 => assumption); (case z6 => assumption); (case z7 => exact MraAt.of (by k_inst)); (case z8 => assumption); (case z9 => assumption); (case za => (show _ + 1 + 6 < recursionLimit; omega)); intro v' t' s' ps' hv' ht' F' N' g' o'))
local macro_rules | `(tactic| walk_at "call ref") => `(tactic| (refine' MaxStep ?z1 ?z2 ?z3 ?z4 ?z5 ?z6 ?zb ?z7 ?z8 ?z9 ?za ?_; (case z1 => assumption); (case z2 => assumption); (case z3 => assumption); (case z4 => k_updF); (case z5 => assumption); (case z6 => assumption); (case zb => k_mem); (case z7 => exact MraAt.of (by k_inst)); (case z8 => assumption); (case z9 => assumption); (case za => (show _ + 1 + 6 < recursionLimit; omega)); intro v' t' s' ps' hv' ht' F' N' g' o'))
theorem sim (vs : List Value) (ns : List Str) (hi : StrsAre vs ns) (hn : 0 < ns.length) (h4 : ns.length ≤ 4) (hasc : ∀ x ∈ ns, (∀ c ∈ x.cps.toList, c < 128) ∧ x.length ≤ 8)
   (P dx : Addr) (g1 g2 : Int) (a1 a2 a3 : Tok) (n : Nat) (hI : InstAt (s.heap.hide 194) P (instObj 207 dx) 207 (some (ownD g1 g2 a1 a2 a3 n)))
   (G : Gd w p loose mg mb bm ob s) (hh : A.handled = none) (hroom : A.depth + 7 < recursionLimit)
   (he : PySem.Challenge.rw_fq5033_01.row.prog = PySem.Challenge.rw_fq5033_01.row.prog ∧ (hd.heap_39 w.params).In s.heap) :
   codeAny (model prog w) A (.call (.ref 168) ⟨.ref P :: vs, []⟩) (Gives s fun v s' => ∃ (r : Nat) (t : Tok), v = .int (r : Int) t ∧ IsDue ns r) s := by
  revert he; k_fill; intro he
  have hvl : vs.length = ns.length := StrsAre.length hi
  refine enterR (vs := vs) (g₁ := fun D => some [(Str.ofString "self", .ref P), (Str.ofString "sequences", .ref D)]) (binds := fun D => [(Str.ofString "self", .ref P), (Str.ofString "sequences", .ref D)]) G (by k_is) (by k_is) (by omega) ?hp (fun _ => rfl) (fun _ => rfl) (by decide +kernel) ?_ rfl rfl rfl
  case hp =>
    rcases vs with _ | ⟨v1, _ | ⟨v2, _ | ⟨v3, _ | ⟨v4, _ | ⟨v5, vs⟩⟩⟩⟩⟩
    · rfl
    · rfl
    · rfl
    · rfl
    · rfl
    · simp at hvl; omega
  intro ps D L' h₁ tk cells ht htab E0 hD hL F N Y h194 hb
  have X := E0.k
  have T := E0.t
  have M := E0.b
  have hc0 : cells = [] := by cases Y; rfl
  subst hc0
  dsimp only [List.nil_append] at N
  clear Y
  have F1 : Fr (s.heap.hide 194) L' h₁ (fun y => if y = Str.ofString "sequences" then some (.ref D) else if y = Str.ofString "self" then some (.ref P) else none) := F
  clear F
  have hvz : vs.length ≤ 1000 := by omega
  have hNs : Names vs ns := ⟨hi, hn, h4, hasc⟩
  k_steps
  rename (IsDue _ _) => hv9
  rename TriplesOk _ => ht9
  rename AllBare _ => hg9
  rename (_ = Shared.os _) => ho9
  exact Ends.of (by assumption) (by assumption) (.tail _ (.head _)) ht9 hg9 ⟨_, _, rfl, hv9⟩ ho9
end Mine
end

section
local macro_rules | `(tactic| walk_at "pad") => `(tactic| skip)
local macro_rules | `(tactic| walk_at "pad") => `(tactic| skip)
local macro_rules | `(tactic| walk_at "pad") => `(tactic| skip)
local macro_rules | `(tactic| walk_at "pad") => `(tactic| skip)
local macro_rules | `(tactic| walk_at "pad") => `(tactic| skip)
local macro_rules | `(tactic| walk_at "pad") => `(tactic| skip)
local macro_rules | `(tactic| walk_at "pad") => `(tactic| skip)
local macro_rules | `(tactic| walk_at "pad") => `(tactic| skip)
open PySem PySem.W PySem.W.X PyProof.Rows PySem.Calls PySem.Spec
set_option Elab.async false
set_option maxRecDepth 100000
set_option maxHeartbeats 8000000
set_option pp.deepTerms false
set_option pp.deepTerms.threshold 6
set_option pp.structureInstances false
set_option linter.all false
namespace Mine
variable {w : World} {p : Program} {loose : List Str} {mg mb : Str → Option Value} {bm : Addr} {ob : Obj} {s : Shared} {A : Around}
local macro_rules | `(tactic| k_inst) => `(tactic| (exact InstAt.up (by assumption) (by assumption)))
open PyProof.Rows.LCg (NsObj lst lst_snoc ns_obj)
local macro_rules | `(tactic| walk_at "eval Call Attribute") => `(tactic| ((with_reducible show wpAny _ _ (eval (Expr.Call (Expr.Attribute _ _ _) [Expr.Starred _ _] [] _) _) _ _ _); refine methodCall_S ?_))
local macro_rules | `(tactic| walk_at "StarOf") => `(tactic| (refine' star_tup ?F ?N ?m ?z ?_; (case F => assumption); (case N => assumption); (case m => k_mem); (case z => assumption); intro h' F' N'))
theorem SimStep {E : Value → Shared → Prop} {h₀ : Heap} {L : Addr} {m : Str → Option Value} {news : List (Addr × Obj)} {g : Obj → List (Addr × Obj)} {ps : Array Value} {q f : Addr} {vs : List Value} {ns : List Str} {Q : Value → Shared → Prop} (E0 : Env0 w p loose mg mb bm ob h₀) (F : Fr h₀ L s.heap m) (N : News h₀ L s.heap news) (U : UpdF 194 (tableObj ps) news g) (ht : TriplesOk ps.toList) (hg : AllBare s.gens)
    (hq : (q, methodObj (.ref 168) (.ref f)) ∈ news) (I : MraAt s.heap f) (hi : Names vs ns) (hh : A.handled = none) (hroom : A.depth + 7 < recursionLimit)
    (h : ∀ v t s' ps', IsDue ns v → TriplesOk ps'.toList → Fr h₀ L s'.heap m → News h₀ L s'.heap (g (tableObj ps')) → AllBare s'.gens → s'.os = s.os → Q (.int (v : Nat) t) s') : wpAny (model prog w) A (call (.ref q) vs) Q E s := by
  obtain ⟨dx, g1, g2, a1, a2, a3, n, I0⟩ := I
  refine call_MK (P := fun v s' => ∃ (r : Nat) (t : Tok), v = .int (r : Int) t ∧ IsDue ns r) E0 F N U ht hg hq (fun G => ?_) fun v s' ps' hp h1 h2 h3 h4 h5 => ?_
  · obtain ⟨ps, hps, _⟩ := G.tab
    obtain ⟨dx', g1', g2', a1', a2', a3', n', I'⟩ := (MraAt.of I0).hide hps
    exact sim vs ns hi.are hi.pos hi.four hi.asc f dx' g1' g2' a1' a2' a3' n' I' G hh hroom ⟨rfl, G.e.k⟩
  · obtain ⟨M, t, rfl, hm⟩ := hp
    exact h M t s' ps' hm h1 h2 h3 h4 h5
local macro_rules | `(tactic| walk_at "callWith ref") => `(tactic| ((with_reducible show wpAny _ _ (callWith _ (Value.ref _) _ (backTo _ (starEach [Expr.Starred _ _] _)) []) _ _ _); k_dflt (first
  | (refine' star_meth ?z1 ?z2 ?z3 ?z4 ?_; (case z1 => k_asm); (case z2 => k_asm); (case z3 => k_mem); (case z4 => k_is))
  | (refine' star_inst ?z1 ?z2 ?z3 ?z4 ?_; (case z1 => k_in); (case z2 => k_inst); (case z3 => rfl); (case z4 => k_is)))))
local macro_rules | `(tactic| walk_at "call ref") => `(tactic| (refine' CallStep ?z1 ?z2 ?z3 ?z4 ?z5 ?z6 ?z7 ?z8 ?z9 ?za ?_; (case z1 => assumption); (case z2 => assumption); (case z3 => assumption); (case z4 => k_updF); (case z5 => assumption); (case z6 => assumption); (case z7 => exact MraAt.of (by k_inst)); (case z8 => assumption); (case z9 => assumption); (case za => (show _ + 1 + 6 < recursionLimit; omega)); intro v' t' s' ps' hv' ht' F' N' g' o'))
local macro_rules | `(tactic| walk_at "call ref") => `(tactic| (refine' MaxStep ?z1 ?z2 ?z3 ?z4 ?z5 ?z6 ?zb ?z7 ?z8 ?z9 ?za ?_; (case z1 => assumption); (case z2 => assumption); (case z3 => assumption); (case z4 => k_updF); (case z5 => assumption); (case z6 => assumption); (case zb => k_mem); (case z7 => exact MraAt.of (by k_inst)); (case z8 => assumption); (case z9 => assumption); (case za => (show _ + 1 + 6 < recursionLimit; omega)); intro v' t' s' ps' hv' ht' F' N' g' o'))
local macro_rules | `(tactic| walk_at "call ref") => `(tactic| (refine' SimStep ?z1 ?z2 ?z3 ?z4 ?z5 ?z6 ?zb ?z7 ?z8 ?z9 ?za ?_; (case z1 => assumption); (case z2 => assumption); (case z3 => assumption); (case z4 => k_updF); (case z5 => assumption); (case z6 => assumption); (case zb => k_mem); (case z7 => exact MraAt.of (by k_inst)); (case z8 => assumption); (case z9 => assumption); (case za => (show _ + 1 + 7 < recursionLimit; omega)); intro v' t' s' ps' hv' ht' F' N' g' o'))
theorem dist (vs : List Value) (ns : List Str) (hi : StrsAre vs ns) (hn : 0 < ns.length) (h4 : ns.length ≤ 4) (hasc : ∀ x ∈ ns, (∀ c ∈ x.cps.toList, c < 128) ∧ x.length ≤ 8)
   (P dx : Addr) (g1 g2 : Int) (a1 a2 a3 : Tok) (n : Nat) (hI : InstAt (s.heap.hide 194) P (instObj 207 dx) 207 (some (ownD g1 g2 a1 a2 a3 n)))
   (G : Gd w p loose mg mb bm ob s) (hh : A.handled = none) (hroom : A.depth + 8 < recursionLimit)
   (he : PySem.Challenge.rw_fq5033_01.row.prog = PySem.Challenge.rw_fq5033_01.row.prog ∧ (hd.heap_39 w.params).In s.heap) :
   codeAny (model prog w) A (.call (.ref 161) ⟨.ref P :: vs, []⟩) (Gives s fun v s' => ∃ (M r : Nat) (t : Tok), v = .int ((M : Int) - (r : Int)) t ∧ IsMax M ((codesOf ns).map (·.length)) ∧ IsDue ns r) s := by
  revert he; k_fill; intro he
  have hvl : vs.length = ns.length := StrsAre.length hi
  refine enterR (vs := vs) (g₁ := fun D => some [(Str.ofString "self", .ref P), (Str.ofString "sequences", .ref D)]) (binds := fun D => [(Str.ofString "self", .ref P), (Str.ofString "sequences", .ref D)]) G (by k_is) (by k_is) (by omega) ?hp (fun _ => rfl) (fun _ => rfl) (by decide +kernel) ?_ rfl rfl rfl
  case hp =>
    rcases vs with _ | ⟨v1, _ | ⟨v2, _ | ⟨v3, _ | ⟨v4, _ | ⟨v5, vs⟩⟩⟩⟩⟩
    · rfl
    · rfl
    · rfl
    · rfl
    · rfl
    · simp at hvl; omega
  intro ps D L' h₁ tk cells ht htab E0 hD hL F N Y h194 hb
  have X := E0.k
  have T := E0.t
  have M := E0.b
  have hc0 : cells = [] := by cases Y; rfl
  subst hc0
  dsimp only [List.nil_append] at N
  clear Y
  have F1 : Fr (s.heap.hide 194) L' h₁ (fun y => if y = Str.ofString "sequences" then some (.ref D) else if y = Str.ofString "self" then some (.ref P) else none) := F
  clear F
  have hvz : vs.length ≤ 1000 := by omega
  have hNs : Names vs ns := ⟨hi, hn, h4, hasc⟩
  k_steps
  rename (IsDue _ _) => hv9
  rename (IsMax _ _) => hv8
  rename TriplesOk _ => ht9
  rename AllBare _ => hg9
  refine Ends.of (by assumption) (by assumption) (.tail _ (.tail _ (.tail _ (.head _)))) ht9 hg9 ⟨_, _, _, rfl, hv8, hv9⟩ ?_
  rename (_ = Shared.os _) => ho9
  refine Eq.trans ho9 ?_
  clear ho9
  rename (_ = Shared.os _) => ho8
  exact ho8
end Mine
end

section
open PySem PySem.W PySem.W.X PyProof.Rows PySem.Calls PySem.Spec
set_option Elab.async false
set_option maxRecDepth 100000
set_option maxHeartbeats 8000000
set_option linter.all false
namespace Mine
open PyProof.Rows.LCg (NsObj lst lst_snoc ns_obj)
section
variable {w : World} {p : Program} {loose : List Str} {mg mb : Str → Option Value} {bm : Addr} {ob : Obj} {s : Shared} {A : Around} {E : Value → Shared → Prop} {h₀ : Heap} {L : Addr} {m : Str → Option Value} {news : List (Addr × Obj)} {g : Obj → List (Addr × Obj)} {ps : Array Value}
theorem LawStep {x : Str} {t : Tok} {Q : Value → Shared → Prop} (E0 : Env0 w p loose mg mb bm ob h₀) (F : Fr h₀ L s.heap m) (N : News h₀ L s.heap news) (U : UpdF 194 (tableObj ps) news g) (ht : TriplesOk ps.toList) (hg : AllBare s.gens)
    (hx : (∀ c ∈ x.cps.toList, c < 128) ∧ x.length ≤ 8) (hh : A.handled = none) (hroom : A.depth < recursionLimit)
    (h : ∀ v t' s' ps', v = .str (codeS x) t' → TriplesOk ps'.toList → Fr h₀ L s'.heap m → News h₀ L s'.heap (g (tableObj ps')) → AllBare s'.gens → s'.os = s.os → Q v s') : wpAny (model prog w) A (call (.ref 216) [.str x t]) Q E s :=
  call_K E0 F N U ht hg (fun G => law_code x t hx.1 hx.2 G hh hroom ⟨rfl, G.e.k⟩) fun v s' ps' hp h1 h2 h3 h4 h5 => let ⟨u, e⟩ := hp; h v u s' ps' e h1 h2 h3 h4 h5
theorem hid_list {a c : Addr} {va : List Value} (N : News h₀ L s.heap news) (ha : (a, lob va c) ∈ news) (h194 : s.heap.get? 194 = some (tableObj ps)) : (s.heap.hide 194).IsList a va.toArray := by
  refine ⟨_, (Heap.hide_ne _ ?_).trans (N _ ha).1, rfl, _, rfl⟩
  intro e
  have e' : a = 194 := e
  have := (N _ ha).1
  rw [show ((a, lob va c) : Addr × Obj).1 = a from rfl, e', h194] at this
  injection this with this
  injection this with c
  exact nomatch c
theorem RatedStep {a b : Addr} {va vb : List Value} {ca cb : Nat} {ns cs : List Str} {Q : Value → Shared → Prop} (E0 : Env0 w p loose mg mb bm ob h₀) (F : Fr h₀ L s.heap m) (N : News h₀ L s.heap news) (U : UpdF 194 (tableObj ps) news g) (ht : TriplesOk ps.toList) (hg : AllBare s.gens)
    (ha : (a, lob va ca) ∈ news) (hb : (b, lob vb cb) ∈ news) (hia : StrsAre va ns) (hib : StrsAre vb cs) (hc0 : 0 < cs.length) (hc4 : cs.length ≤ 4) (hl : ∀ x ∈ cs, x.length ≤ 6) (hh : A.handled = none) (hu : A.units + 3 < cLine) (hroom : A.depth + 3 < recursionLimit)
    (h : ∀ r t s' ps', RatedIs ns cs r → TriplesOk ps'.toList → Fr h₀ L s'.heap m → News h₀ L s'.heap (g (tableObj ps')) → AllBare s'.gens → s'.os = s.os → Q (.int (r : Nat) t) s') : wpAny (model prog w) A (call (.ref 221) [.ref a, .ref b]) Q E s := by
  refine call_K (P := fun v _ => ∃ (r : Nat) (t : Tok), v = .int r t ∧ RatedIs ns cs r) E0 F N U ht hg (fun G => ?_) fun v s' ps' hp h1 h2 h3 h4 h5 => ?_
  · obtain ⟨ps2, hps, _⟩ := G.tab
    exact rated a b va vb ns cs hia hib hc0 hc4 hl (hid_list N ha hps) (hid_list N hb hps) G hh hu hroom ⟨rfl, G.e.k⟩
  · obtain ⟨r, t, rfl, hr⟩ := hp
    exact h r t s' ps' hr h1 h2 h3 h4 h5
theorem DistStep {q f : Addr} {vs : List Value} {ns : List Str} {Q : Value → Shared → Prop} (E0 : Env0 w p loose mg mb bm ob h₀) (F : Fr h₀ L s.heap m) (N : News h₀ L s.heap news) (U : UpdF 194 (tableObj ps) news g) (ht : TriplesOk ps.toList) (hg : AllBare s.gens)
    (hq : (q, methodObj (.ref 161) (.ref f)) ∈ news) (I : MraAt s.heap f) (hi : Names vs ns) (hh : A.handled = none) (hroom : A.depth + 8 < recursionLimit)
    (h : ∀ M r t s' ps', IsMax M ((codesOf ns).map (·.length)) → IsDue ns r → TriplesOk ps'.toList → Fr h₀ L s'.heap m → News h₀ L s'.heap (g (tableObj ps')) → AllBare s'.gens → s'.os = s.os → Q (.int ((M : Nat) - (r : Nat) : Int) t) s') : wpAny (model prog w) A (call (.ref q) vs) Q E s := by
  obtain ⟨dx, g1, g2, a1, a2, a3, n, I0⟩ := I
  refine call_MK (P := fun v s' => ∃ (M r : Nat) (t : Tok), v = .int ((M : Int) - (r : Int)) t ∧ IsMax M ((codesOf ns).map (·.length)) ∧ IsDue ns r) E0 F N U ht hg hq (fun G => ?_) fun v s' ps' hp h1 h2 h3 h4 h5 => ?_
  · obtain ⟨ps, hps, _⟩ := G.tab
    obtain ⟨dx', g1', g2', a1', a2', a3', n', I'⟩ := (MraAt.of I0).hide hps
    exact dist vs ns hi.are hi.pos hi.four hi.asc f dx' g1' g2' a1' a2' a3' n' I' G hh hroom ⟨rfl, G.e.k⟩
  · obtain ⟨M, r, t, rfl, hm, hd⟩ := hp
    exact h M r t s' ps' hm hd h1 h2 h3 h4 h5
end
end Mine
end

section
open PySem PySem.W PySem.W.X PyProof.Rows PySem.Calls PySem.Spec
set_option Elab.async false
set_option maxRecDepth 100000
set_option maxHeartbeats 8000000
set_option pp.deepTerms false
set_option pp.deepTerms.threshold 6
set_option pp.structureInstances false
set_option linter.all false
namespace Mine
section
variable {w : World} {p : Program} {loose : List Str} {mg mb : Str → Option Value} {bm : Addr} {ob : Obj} {s : Shared} {A : Around} {E : Value → Shared → Prop} {h₀ : Heap} {L : Addr} {m : Str → Option Value} {news : List (Addr × Obj)}
  {name qual : Str} {params : Arguments} {body : List Stmt} {scope : Scope} {dV kV doc pm cdv ct oc : Value} {an od : Option Addr} {osl : Array (Option Value)} {f : Addr} {args : Args}
/-- a def entered, the caller's frame and ledger as a ledger -/
theorem enterI {binds : List (Str × Value)} {R : Result → Shared → Prop} (E0 : Env0 w p loose mg mb bm ob h₀) (F : Fr h₀ L s.heap m) (N : News h₀ L s.heap news)
    (ho : (hd.heap_39 w.params).lookup f = some ⟨oc, od, .func (fnOf name qual params body scope dV kV doc pm an cdv ct), osl⟩)
    (hcd : codeIn (hd.heap_39 w.params) cdv qual = true) (hroom : A.depth < recursionLimit)
    (hbind : BindsTo s (fnOf name qual params body scope dV kV doc pm an cdv ct) args binds)
    (hkind : (binds.all fun y => scope.names.lookup y.1 == some .local || scope.names.lookup y.1 == some .cell) = true)
    (hnc : cellsFrom 0 scope.names [] = []) (hnc' : ∀ n, cellsFrom n scope.names [] = [])
    (h : ∀ oL L' h₁ tk, s.heap.get? L = some oL → s.heap.objs.size ≤ L' → Fr h₀ L' h₁ (bindL (envOfC qual scope L' f cdv).kindOf binds fun _ => none) → News h₀ L' h₁ ((L, oL) :: news) →
      wpAny (model prog w) (A.deeper (envOfC qual scope L' f cdv)) (execs body (envOfC qual scope L' f cdv))
        (fun fl s' => R (.ok (.ret (match fl with | .ret v => v | _ => .none))) s') (fun _ _ => False) { s with heap := h₁, toks := tk })
    (hco : scope.isCoroutine = false := by rfl) (hgen : scope.isGenerator = false := by rfl) (hk : scope.kind = .function := by rfl) :
    codeAny (model prog w) A (.call (.ref f) args) R s := by
  have X := E0.k.keeps F.keep
  refine codeAny_call_function hroom (X _ _ ho) rfl hco hgen rfl (codeRec_of X hcd) (hbind _ _ _ _ ?_)
  refine wpAny_newFunctionEnv_cells hk (kindsX hkind _) fun env' he s' x => ?_
  subst he
  refine ⟨(E0.t.nolimit.keeps F.keep).keeps x.toInCall.keep, codeAny_func ?_⟩
  obtain ⟨h₁, tk, rfl, _⟩ := x.done
  have hk₁ := x.toInCall.keep
  obtain ⟨oL, es, ep, hoL, hdL⟩ := F.ns
  have hLlt := Heap.lt_size hoL
  refine wpAny_mono (h oL s.heap.objs.size h₁ tk hoL (Nat.le_refl _) ⟨x.toInCall.ns, fun b o e => hk₁ b o (F.keep b o e), ?_⟩ fun q hq => ?_) (fun fl s' hl => hl) fun _ _ y => y.elim
  · refine Nat.le_trans F.above ?_
    exact Nat.le_of_lt hLlt
  · have hL0 : h₀.get? L = none := Heap.get?_none_of_le F.above
    rcases List.mem_cons.mp hq with rfl | hq
    · exact ⟨hk₁ _ _ hoL, Nat.ne_of_lt hLlt, hL0⟩
    · exact ⟨hk₁ _ _ (N q hq).1, Nat.ne_of_lt (Heap.lt_size (N q hq).1), (N q hq).2.2⟩
def Made (h₀ : Heap) (L : Addr) (m : Str → Option Value) (news : List (Addr × Obj)) (s : Shared) (Q : Value → Shared → Prop) : Prop :=
  ∀ x dx g1 g2 a1 a2 a3 n h' tk, Fr h₀ L h' m → News h₀ L h' ((x, instObj 207 dx) :: (dx, ownD g1 g2 a1 a2 a3 n) :: news) → (∀ q ∈ news, q.1 < dx) → dx < x → Q (.ref x) { s with heap := h', toks := tk }
local macro_rules | `(tactic| walk_at "setAttr ref") => `(tactic| (k_dflt (refine' set_dict ?k1 ?k2 ?k3 ?k4 ?k5 ?k6 ?k7 ?k8 ?k9 ?k10 ?k11 ?k12 ?k13 ?_; (case k1 => k_asm); (case k2 => k_asm); (case k3 => k_asm); (case k4 => k_inst); (case k5 => exact rfl); (case k6 => k_is); (case k7 => k_is); (case k8 => k_is); (case k9 => k_is); (case k10 => k_get); (case k11 => k_put); (case k12 => exact .tail (by assumption) (.tail (by assumption) (.head (by assumption)))); (case k13 => exact Nat.le_of_ble_eq_true rfl)); intro h' F' N'))
theorem news_back {h' h9 : Heap} {L' x dx : Addr} {oL ox od od' : Obj} (N9 : News h₀ L' h9 ((L, oL) :: (x, ox) :: (dx, od) :: news)) (N' : News h₀ L h' ((x, ox) :: (dx, od') :: news)) : News h₀ L h9 ((x, ox) :: (dx, od) :: news) := fun q hq => by
  refine ⟨(N9 q (.tail _ hq)).1, ?_, (N9 q (.tail _ hq)).2.2⟩
  rcases List.mem_cons.mp hq with rfl | hq
  · exact (N' (x, ox) (.head _)).2.1
  · rcases List.mem_cons.mp hq with rfl | hq
    · exact (N' (dx, od') (.tail _ (.head _))).2.1
    · exact (N' q (.tail _ (.tail _ hq))).2.1
theorem make_MRA {Q : Value → Shared → Prop} (E0 : Env0 w p loose mg mb bm ob h₀) (F : Fr h₀ L s.heap m) (N : News h₀ L s.heap news) (hroom : A.depth + 3 < recursionLimit) (h : Made h₀ L m news s Q) :
    wpAny (model prog w) A (call (.ref 207) []) Q E s := by
  have he : PySem.Challenge.rw_fq5033_01.row.prog = PySem.Challenge.rw_fq5033_01.row.prog ∧ (hd.heap_39 w.params).In h₀ := ⟨rfl, E0.k⟩
  revert he; k_fill; intro he
  refine call_cls F E0.k N (by k_is) (by k_is) (by k_is) fun x dx h' F' N' l1 l2 => ?_
  refine enterI E0 F' N' (by k_is) (by k_is) (by (try simp only [depth_under_kw]); omega) (binds_K (E0.k.keeps F'.keep) rfl (by k_is) rfl rfl rfl) rfl rfl (fun _ => rfl) ?_ rfl rfl rfl
  intro oL L' h₁ tk hoL hL F2 N2
  have X := E0.k
  have T := E0.t
  have M := E0.b
  obtain ⟨t0, F1⟩ : ∃ t0, Fr h₀ L' h₁ (fun y => if y = Str.ofString "external" then some (.bool true) else if y = Str.ofString "qval" then some (.int 1 t0) else if y = Str.ofString "self" then some (.ref x) else none) := ⟨_, F2⟩
  clear F2
  have q1 : (L, oL).1 ≠ dx := fun e => by
    have a := (N' (dx, dictOf [] 0) (.tail _ (.head _))).2.1
    exact a (Eq.symm e)
  have q2 : (x, instObj 207 dx).1 ≠ dx := Nat.ne_of_gt l2
  have q3 : ∀ q ∈ news, q.1 ≠ dx := fun q hq => Nat.ne_of_lt (l1 q hq)
  k_steps
  rename Fr _ _ _ _ => F9
  rename News _ _ _ _ => N9
  exact ⟨rfl, h x dx _ _ _ _ _ _ _ _ ⟨F'.ns.at' fun o e => by
    have e' : some o = some oL := e.symm.trans hoL
    cases e'
    exact (N9 _ (.head _)).1, F9.keep, F'.above⟩ (news_back N9 N') l1 l2⟩
end
end Mine
end

section
open PySem PySem.W PySem.W.X PyProof.Rows PySem.Calls PySem.Spec
set_option Elab.async false
set_option maxRecDepth 100000
set_option maxHeartbeats 8000000
set_option linter.all false
namespace Mine
open Sem (wp)
theorem entry_unchain : entryFor table "proto.unchain" = some Builtin.«proto.unchain» := entryFor_of_fast (by kernel_rfl)
section
variable {prog : Program} {w : World} {A : Around} {E : Value → Shared → Prop} {s : Shared}
theorem unchain_none {e0 : Addr} {x : Value} {o : Obj} {vs : Array Value} {Q : Value → Shared → Prop} (he : s.heap.get? e0 = some o) (hd : o.data = .fields vs) (h2 : vs[2]? = some .none) (h : Q .none s) :
    wpAny (model prog w) A (runValue (.builtin "proto.unchain" ⟨[x, .ref e0, .ref e0, .bool false], []⟩)) Q E s := by
  refine wpAny_runValue (codeAny_builtin entry_unchain ?_)
  show wpAny _ _ (field (.ref e0) 2 >>= _) _ _ s
  refine wpAny_bind (wpAny_field he hd h2 ?_)
  rw [if_pos (show (Value.none == Value.none) = true from rfl)]
  exact wpAny_pure h
/-- raising while another exception, without a context of its own, is in hand -/
theorem raise_in_hand {α : Type} {ex e0 : Addr} {o ox : Obj} {vs vx : Array Value} {Q : α → Shared → Prop} (hh : A.handled = some (.ref e0)) (he : s.heap.get? e0 = some o) (hd : o.data = .fields vs) (h2 : vs[2]? = some .none)
    (hx : s.heap.get? ex = some ox) (hdx : ox.data = .fields vx) (hsz : 2 < vx.size) (hne : e0 ≠ ex)
    (h : E (.ref ex) { s with heap := s.heap.update ex (Obj.mapFields (·.setIfInBounds 2 (.ref e0))) }) : wpAny (model prog w) A (raiseNew (.ref ex) : Sem α) Q E s := by
  unfold raiseNew
  refine wpAny_bind (wpAny_handled ?_)
  rw [hh]
  dsimp only
  rw [if_pos (show (Value.ref e0 != Value.ref ex) = true from by simp [hne])]
  refine wpAny_bind (wpAny_holding (unchain_none he hd h2 ?_))
  refine wpAny_bind ?_
  show wpAny _ _ (setField (.ref ex) 2 (.ref e0)) _ _ _
  exact wpAny_setField hx hdx hsz (wpAny_throw h)
/-- no exception in hand, or one without a context of its own -/
def InHand (A : Around) (h : Heap) : Prop := A.handled = none ∨ ∃ e0 o vs, A.handled = some (.ref e0) ∧ h.get? e0 = some o ∧ o.data = .fields vs ∧ vs[2]? = some .none
theorem InHand.keeps {h h' : Heap} (H : InHand A h) (k : ∀ e0, A.handled = some (.ref e0) → ∀ o, h.get? e0 = some o → h'.get? e0 = some o) : InHand A h' := by
  rcases H with H | ⟨e0, o, vs, a, b, c, d⟩
  · exact .inl H
  · exact .inr ⟨e0, o, vs, a, k e0 a o b, c, d⟩
theorem InHand.lt {h : Heap} (H : InHand A h) : ∀ e0, A.handled = some (.ref e0) → e0 < h.objs.size := by
  intro e0 he
  rcases H with H | ⟨e1, o, vs, a, b, c, d⟩
  · rw [H] at he; cases he
  · rw [a] at he; cases he; exact Heap.lt_size b
theorem raise_ok {α : Type} {ex : Addr} {ox : Obj} {vx : Array Value} {Q : α → Shared → Prop} (H : InHand A s.heap) (hx : s.heap.get? ex = some ox) (hdx : ox.data = .fields vx) (hsz : 2 < vx.size) (hne : ∀ e0, A.handled = some (.ref e0) → e0 ≠ ex)
    (h : ∀ h' ox', Heap.SameBut ex s.heap h' → h'.get? ex = some ox' → ox'.cls = ox.cls → (∃ c, ox'.data = .fields (vx.setIfInBounds 2 c)) → (A.handled = none → ox'.data = .fields vx) → E (.ref ex) { s with heap := h' }) : wpAny (model prog w) A (raiseNew (.ref ex) : Sem α) Q E s := by
  rcases H with H | ⟨e0, o, vs, a, b, c, d⟩
  · refine wpAny_raiseNew_none H ?_
    refine h s.heap ox (.refl ..) hx rfl ⟨vx[2], ?_⟩ fun _ => hdx
    rw [hdx]
    congr 1
    apply Array.ext
    · simp
    · intro i h1 h2
      rw [Array.getElem_setIfInBounds]
      split
      · rename_i e; subst e; rfl
      · rfl
  · refine raise_in_hand a b c d hx hdx hsz (hne _ a) ?_
    have hd' := Obj.data_mapFields hdx (·.setIfInBounds 2 (Value.ref e0))
    exact h _ _ (Heap.SameBut.update ..) (Heap.get?_update_self _ hx (Obj.isFreed_of_fields hd')) (Obj.cls_mapFields ..) ⟨_, hd'⟩ fun q => by rw [a] at q; cases q
theorem pushed_ge {h : Heap} {o : Obj} {P : Prop} (x : @LT.lt Nat _ (h.push o).objs.size h.objs.size) : P := by
  rw [Heap.size_push] at x
  omega
theorem stop_raised {α : Type} {Q : α → Shared → Prop} (H : InHand A s.heap)
    (h : ∀ h' ex, (∀ b o, s.heap.get? b = some o → h'.get? b = some o) → (∃ o, h'.get? ex = some o ∧ o.cls = .type "StopIteration") → E (.ref ex) { s with heap := h' }) :
    wpAny (model prog w) A (newExc (.type "StopIteration") [] >>= fun e => (raiseNew e : Sem α)) Q E s := by
  refine wpAny_bind ?_
  simp only [newExc, newTuple]
  refine wpAny_bind (wpAny_newObj_type ?_ (by size_fits))
  refine wpAny_bind (m := firstArgMember _ _) (wpAny_of_eq (a := Value.none) (by first | rfl | (simp only [firstArgMember]; rfl)) ?_)
  refine wpAny_newObj_type ?_ (by size_fits)
  have up : ∀ (o1 o2 : Obj) b o, s.heap.get? b = some o → ((s.heap.push o1).push o2).get? b = some o := fun _ _ b o e => Heap.get?_push_of_some _ (Heap.get?_push_of_some _ e)
  refine raise_ok (H.keeps fun e0 _ o e => up _ _ _ _ e) (Heap.get?_push_size _ rfl) rfl (by simp; omega) (fun e0 he e => ?_) fun h' ox' hs ho hc _ _ => ?_
  · have := H.lt e0 he
    rw [e] at this
    exact pushed_ge this
  · refine h h' _ (fun b o e => hs.extBut b o ?_ (up _ _ _ _ e)) ⟨ox', ho, hc⟩
    intro q
    have := Heap.lt_size e
    rw [q] at this
    exact pushed_ge this
theorem tuple_end2 {it t : Addr} {i : Nat} {items : Array Value} {Q : Option Value → Shared → Prop} (H : InHand A s.heap) (hne : ∀ e0, A.handled = some (.ref e0) → e0 ≠ it)
    (hit : IsTupIter s.heap it t i) (ht : IsTup s.heap t items) (hx : items[i]? = none)
    (hQ : ∀ h', Heap.ExtBut it s.heap h' → Q none { s with heap := h' }) : wpAny (model prog w) A (pyNext (.ref it)) Q E s := by
  obtain ⟨o, ho, hc, hd⟩ := id hit
  obtain ⟨ol, hol, _, nl, hdl⟩ := ht
  have hT : s.TypeIs (.ref it) "tuple_iterator" := ⟨o, ho, hc⟩
  unfold pyNext
  refine wpAny_bind (wpAny_attempt (wpAny_callSpecial?_slot (name := Str.ofString "__next__") hT F.slot_tuple_iterator_next
    (wpAny_call_entry F.slot_tuple_iterator_next hT F.entry_tuple_iterator_next ?_ (F.args_tuple_iterator_next_1 _))))
  show wpAny _ _ (field (.ref it) 0 >>= _) _ _ s
  refine wpAny_bind (wpAny_field ho hd (x := .ref t) rfl ?_)
  show wpAny _ _ (if (Value.ref t == Value.none) = true then _ else _) _ _ s
  rw [if_neg (show ¬ ((Value.ref t == Value.none) = true) from Bool.false_ne_true)]
  show wpAny _ _ (field (.ref it) 1 >>= _) _ _ s
  refine wpAny_bind (wpAny_field ho hd (x := .int i 0) rfl ?_)
  show wpAny _ _ (seqItems? (.ref t) >>= _) _ _ s
  refine wpAny_bind (wpAny_seqItems hol hdl ?_)
  simp only [Int.toNat_natCast, hx]
  refine wpAny_bind (wpAny_rule (wpAny_bind (wpAny_setField ho hd (by simp) ?_)))
  have hs1 := Heap.SameBut.update s.heap it (Obj.mapFields (·.setIfInBounds 0 Value.none))
  show wpAny _ _ (newExc (.type "StopIteration") [] >>= fun e => raiseNew e) _ _ _
  refine stop_raised (A := A.in1) (H.keeps fun e0 he o e => hs1.extBut _ _ (hne e0 he) e) fun h' ex hk he => ?_
  obtain ⟨o', ho', hc'⟩ := he
  refine wpAny_bind (wpAny_isInstance (T := "StopIteration") (b := true) ⟨o', ho', hc'⟩ isSubtype_stop ?_)
  exact wpAny_pure (hQ _ fun b o hb e => hk b o (hs1.extBut b o hb e))
theorem nextOf_end2 {it l : Addr} {i : Nat} {items : Array Value} {Q : Value → Shared → Prop} (H : InHand A s.heap) (hne : ∀ e0, A.handled = some (.ref e0) → e0 ≠ it)
    (hit : s.heap.IsListIter it l i) (hl : s.heap.IsList l items) (hx : items[i]? = none)
    (hE : ∀ h' e, Heap.ExtBut it s.heap h' → (∃ o, h'.get? e = some o ∧ o.cls = .type "StopIteration") → E (.ref e) { s with heap := h' }) :
    wpAny (model prog w) A (Builtin.SmallTypes.nextOf (.ref it)) Q E s := by
  obtain ⟨o, ho, hc, hd⟩ := id hit
  obtain ⟨ol, hol, _, nl, hdl⟩ := hl
  unfold Builtin.SmallTypes.nextOf
  refine wpAny_bind (wpAny_callSpecial?_slot (name := Str.ofString "__next__") hit.typeIs slot_listiter_next
    (wpAny_call_entry slot_listiter_next hit.typeIs entry_listiter_next ?_ (args_listiter_next _)))
  show wpAny _ _ (field (.ref it) 0 >>= _) _ _ s
  refine wpAny_bind (wpAny_field ho hd (x := .ref l) rfl ?_)
  show wpAny _ _ (if (Value.ref l == Value.none) = true then _ else _) _ _ s
  rw [if_neg (show ¬ ((Value.ref l == Value.none) = true) from Bool.false_ne_true)]
  show wpAny _ _ (field (.ref it) 1 >>= _) _ _ s
  refine wpAny_bind (wpAny_field ho hd (x := .int i 0) rfl ?_)
  show wpAny _ _ (seqItems? (.ref l) >>= _) _ _ s
  refine wpAny_bind (wpAny_seqItems hol hdl ?_)
  simp only [Int.toNat_natCast, hx]
  refine wpAny_bind (wpAny_rule (wpAny_bind (wpAny_setField ho hd (by simp) ?_)))
  have hs1 := Heap.SameBut.update s.heap it (Obj.mapFields (·.setIfInBounds 0 Value.none))
  show wpAny _ _ (newExc (.type "StopIteration") [] >>= fun e => raiseNew e) _ _ _
  exact stop_raised (A := A.in1) (H.keeps fun e0 he o e => hs1.extBut _ _ (hne e0 he) e) fun h' ex hk he => hE h' ex (fun b o hb e => hk b o (hs1.extBut b o hb e)) he
theorem map_end2 {I TI it l : Addr} {rows : List MRow} {Q : Option Value → Shared → Prop} (H : InHand A s.heap) (hne : ∀ e0, A.handled = some (.ref e0) → e0 ≠ it) (M : MAt I TI it l rows rows.length s.heap)
    (hQ : ∀ h', Heap.ExtBut it s.heap h' → Q none { s with heap := h' }) : wpAny (model prog w) A (pyNext (.ref I)) Q E s := by
  have hT : s.TypeIs (.ref I) "map" := ⟨_, M.o, rfl⟩
  unfold pyNext
  refine wpAny_bind (wpAny_attempt (wpAny_callSpecial?_slot (name := Str.ofString "__next__") hT MF.slot_map_next
    (wpAny_call_entry MF.slot_map_next hT MF.entry_map_next ?_ (MF.args_map_next_1 _))))
  show wpAny _ _ (field (.ref I) 0 >>= _) _ _ _
  refine wpAny_bind (wpAny_field M.o rfl (x := .ref TI) rfl ?_)
  refine wpAny_bind (wpAny_seqItems M.ti rfl ?_)
  dsimp only
  simp only [List.forIn_toArray, List.forIn_cons, List.forIn_nil]
  refine wpAny_bind (wpAny_bind (wpAny_bind (wpAny_holding ?_)))
  have hx : (rowVals rows)[rows.length]? = none := by simp [rowVals]
  refine nextOf_end2 (A := A.in1) H hne M.it M.l hx fun h' e hs he => ?_
  obtain ⟨o, ho, hc⟩ := he
  refine wpAny_bind (wpAny_isInstance (T := "StopIteration") (b := true) ⟨o, ho, hc⟩ isSubtype_stop ?_)
  exact wpAny_pure (hQ h' hs)
theorem value_raised {α : Type} {msg : String} {Q : α → Shared → Prop} (H : InHand A s.heap) (hm : (msg : Str).length ≤ sizeLine)
    (h : ∀ h' e tk, (∀ b o, s.heap.get? b = some o → h'.get? b = some o) → s.heap.get? e = none → (∃ o t c, h'.get? e = some o ∧ o.cls = .type "ValueError" ∧ o.data = .fields #[t, .none, c, .none, .bool false, .none] ∧ (A.handled = none → c = .none)) → E (.ref e) { s with heap := h', toks := tk }) :
    wpAny (model prog w) A (raiseErrorMade "ValueError" msg : Sem α) Q E s := by
  unfold raiseErrorMade
  refine wpAny_bind (wpAny_mkStr ?_ hm)
  refine wpAny_bind (wpAny_newExc_plain plainExc_ValueError fun h1 e x => ?_)
  obtain ⟨t, he, _⟩ := x.there
  refine raise_ok (H.keeps fun e0 _ o q => x.keeps _ _ q) he rfl (by simp) (fun e0 he0 q => ?_) fun h' ox' hs ho hc hd hn => ?_
  · have hl := H.lt e0 he0
    rcases H with H | ⟨e1, o, vs, a, b, c, d⟩
    · rw [H] at he0; cases he0
    · rw [a] at he0; cases he0
      rw [q, x.new] at b; cases b
  · obtain ⟨c, hd⟩ := hd
    refine h h' e _ (fun b o q => hs.extBut b o (fun q' => by rw [q', x.new] at q; cases q) (x.keeps b o q)) x.new ⟨ox', .ref t, c, ho, hc, by rw [hd]; rfl, fun q => ?_⟩
    have := hn q
    rw [hd] at this
    injection this with this
    have e2 := congrArg (fun a : Array Value => a[2]?) this
    simpa using e2
/-- max of what has no item -/
theorem max_empty {x : Value} {Q : Value → Shared → Prop}
    (h : wpAny (model prog w) A.in1 (pyIter x) (fun iv s₂ => ∃ I it, iv = .ref I ∧ it < s₂.heap.objs.size ∧ InHand A s₂.heap ∧ (∀ e0, A.handled = some (.ref e0) → e0 ≠ it) ∧
      (∀ (s' : Shared) (Q' : Option Value → Shared → Prop) (E' : Value → Shared → Prop), (∀ b o, s₂.heap.get? b = some o → s'.heap.get? b = some o) →
        (∀ h', (∀ b o, b ≠ it → s'.heap.get? b = some o → h'.get? b = some o) → Q' none { s' with heap := h' }) → wpAny (model prog w) A.in1 (pyNext (.ref I)) Q' E' s') ∧
      (∀ h' e tk, (∀ b o, b ≠ it → s₂.heap.get? b = some o → h'.get? b = some o) → (e ≠ it → s₂.heap.get? e = none) → (∃ o t c, h'.get? e = some o ∧ o.cls = .type "ValueError" ∧ o.data = .fields #[t, .none, c, .none, .bool false, .none] ∧ (A.handled = none → c = .none)) → E (.ref e) { s₂ with heap := h', toks := tk })) E s) :
    wpAny (model prog w) A (call (.builtin "max") [x]) Q E s := by
  have hname : (toString "max" ++ toString ".loop" : String) = "max.loop" := by decide
  refine call_function_tree F.kind_max F.plain_max F.entry_max (F.args_max1 _) ?_
  show wpAny _ A.in1 (Builtin.Builtins.bindParams "max" ["key", "default"] 0 ⟨[], []⟩ >>= _) _ _ s
  refine wpAny_bind (wpAny_of_eq (show Builtin.Builtins.bindParams "max" ["key", "default"] 0 ⟨[], []⟩ = pure [none, none] from rfl) ?_)
  refine wpAny_bind (wpAny_pure ?_)
  refine wpAny_bind (wpAny_mono h (fun iv s₂ h₂ => ?_) fun _ _ e => e)
  obtain ⟨I, it, rfl, hlt, H, hne, hn, hE⟩ := h₂
  refine wpAny_bind (wpAny_newObj_type ?_)
  rw [hname]
  refine wpAny_pure ⟨plainId_quiet F.plain_max_loop _, ?_⟩
  have hS : (s₂.heap.push ({ cls := .type "list", data := .seq ([] : List Value).toArray } : Obj)).get? s₂.heap.objs.size = some ({ cls := .type "list", data := .seq ([] : List Value).toArray } : Obj) := Heap.get?_push_size _ rfl
  have up : ∀ b o, s₂.heap.get? b = some o → (s₂.heap.push ({ cls := .type "list", data := .seq ([] : List Value).toArray } : Obj)).get? b = some o := fun b o e => Heap.get?_push_of_some _ e
  refine codeAny_builtin F.entry_max_loop ?_
  rw [Around.under_plainId F.plain_max_loop _]
  show wpAny _ A.in1 (seqItems? (.ref s₂.heap.objs.size) >>= _) _ _ _
  refine wpAny_bind (wpAny_seqItems hS rfl ?_)
  show wpAny _ A.in1 (tryCatch (pyNext (.ref I)) _ >>= _) _ _ _
  refine wpAny_bind (wpAny_tryCatch (hn _ _ _ up fun h' hk => ?_))
  show wpAny _ A.in1 (rule "max.empty" >>= fun _ => raiseErrorMade "ValueError" _) _ _ _
  refine wpAny_bind (wpAny_rule ?_)
  refine value_raised (A := A.in1) (InHand.keeps H fun e0 he o q => hk _ _ (hne e0 he) (up _ _ q)) (by decide) fun h'' e tk hk2 hnew hex => ?_
  refine hE h'' e tk (fun b o hb q => hk2 _ _ (hk b o hb (up _ _ q))) (fun hb => ?_) hex
  cases q : s₂.heap.get? e with
  | none => rfl
  | some o =>
    have := hk e o hb (up _ _ q)
    rw [hnew] at this; cases this
end
end Mine
end

section
open PySem PySem.W PySem.W.X PyProof.Rows PySem.Calls PySem.Spec
set_option Elab.async false
set_option maxRecDepth 100000
set_option maxHeartbeats 8000000
set_option linter.all false
namespace Mine
/-- a ValueError at e, its traceback at T, in flight from fl -/
structure Exc (h : Heap) (e T : Addr) (c fl : Value) : Prop where
  e_ : ∃ o t, h.get? e = some o ∧ o.cls = .type "ValueError" ∧ o.data = .fields #[t, .ref T, c, .none, .bool false, .none]
  t_ : ∃ o ts, h.get? T = some o ∧ o.data = .fields ts ∧ ts[3]? = some fl
  ne : T ≠ e
/-- what stays: all but e, the frames up to their slots -/
structure Stay (fs : List Addr) (e : Addr) (h h' : Heap) : Prop where
  all : ∀ b o, b ≠ e → b ∉ fs → h.get? b = some o → h'.get? b = some o
  fr : ∀ b o, b ≠ e → h.get? b = some o → ∃ sl, h'.get? b = some { o with slots := sl }
abbrev framesOf (l : List Env) : List Addr := l.filterMap (·.frame)
section
variable {M : Model} {A : Around} {E : Value → Shared → Prop} {s : Shared} {base : Heap} {env : Env} {outer : List Env} {L e T : Addr} {c fl : Value}
theorem entry_any {head x1 t : Value} {hn : Bool} {o : Obj} {Q : Unit → Shared → Prop} (hfr : A.frames = some (env :: outer)) (hl : s.heap.FunFrames base (env :: outer)) (hf : env.frame = some L)
    (he : s.heap.get? e = some o) (hcls : o.cls = .type "ValueError") (hd : o.data = .fields #[t, x1, c, .none, .bool false, .none])
    (h : ∀ h' T, Exc h' e T c (rawInt L) → s.heap.get? T = none → Stay (framesOf (env :: outer)) e s.heap h' → Q () { s with heap := h' }) :
    wpAny M A (do let a ← frameOf env; let pl ← entryPlaceOf L hn; let b ← EntryCells.newEntry head a .none (rawInt L) .none pl; setField (.ref e) 1 b) Q E s := by
  have hef : e ∉ framesOf (env :: outer) := fun hm => by
    obtain ⟨_, o', ho', hnf⟩ := hl.mem hm
    rw [he] at ho'; cases ho'
    exact hnf _ hd
  refine wpAny_bind (wpAny_frameOf_fun hfr hl hf fun h1 hs1 => ?_)
  refine wpAny_bind (wpAny_entryPlaceOf fun pl hpl => ?_)
  unfold EntryCells.newEntry newFields
  refine wpAny_bind (wpAny_newObj_type ?_ (hpl.sizeOk5 _ _ _ _ _))
  generalize htb : ({ cls := .type "traceback", dict := none, data := .fields ([head, .ref L, .none, rawInt L, .none] ++ (if pl.isEmpty then List.replicate 6 Value.none else pl)).toArray } : Obj) = tb
  have he1 : h1.get? e = some o := (hs1.2.1 e hef).trans he
  have he2 : (h1.push tb).get? e = some o := Heap.get?_push_of_some _ he1
  have hsz : h1.objs.size = s.heap.objs.size := hs1.1
  have hTe : h1.objs.size ≠ e := Nat.ne_of_gt (Heap.lt_size he1)
  have htf : tb.isFreed = false := by rw [← htb]; rfl
  have hu := Heap.SameBut.update (h1.push tb) e (Obj.mapFields (·.setIfInBounds 1 (Value.ref h1.objs.size)))
  refine wpAny_setField he2 hd (by simp) (h _ h1.objs.size ⟨⟨_, t, Heap.get?_update_self _ he2 (Obj.isFreed_of_fields (Obj.data_mapFields hd _)), (Obj.cls_mapFields ..).trans hcls, (Obj.data_mapFields hd _).trans rfl⟩, ?_, hTe⟩ ?_ ⟨fun b o' hb hbf q => ?_, fun b o' hb q => ?_⟩)
  · refine ⟨tb, ([head, .ref L, .none, rawInt L, .none] ++ (if pl.isEmpty then List.replicate 6 Value.none else pl)).toArray, hu.extBut _ _ hTe (Heap.get?_push_size h1 htf), by rw [← htb], by simp⟩
  · exact Heap.get?_none_of_le (Nat.le_of_eq hsz.symm)
  · exact hu.extBut _ _ hb (Heap.get?_push_of_some _ ((hs1.2.1 b hbf).trans q))
  · obtain ⟨sl, hsl⟩ := hs1.2.2 b o' q
    exact ⟨sl, hu.extBut _ _ hb (Heap.get?_push_of_some _ hsl)⟩
/-- a new exception seen in a frame -/
theorem nf_new {t : Value} {o : Obj} {Q : Unit → Shared → Prop} (hfr : A.frames = some (env :: outer)) (hl : s.heap.FunFrames base (env :: outer)) (hf : env.frame = some L)
    (he : s.heap.get? e = some o) (hcls : o.cls = .type "ValueError") (hd : o.data = .fields #[t, .none, c, .none, .bool false, .none])
    (h : ∀ h' T, Exc h' e T c (rawInt L) → s.heap.get? T = none → Stay (framesOf (env :: outer)) e s.heap h' → Q () { s with heap := h' }) : wpAny M A (noteFrame (.ref e) env) Q E s := by
  unfold noteFrame
  simp only [hf]
  refine wpAny_bind (wpAny_field he hd (x := .none) rfl ?_)
  rw [if_neg (by decide)]
  exact entry_any hfr hl hf he hcls hd h
/-- one that has passed a frame -/
theorem nf_on {Q : Unit → Shared → Prop} (hfr : A.frames = some (env :: outer)) (hl : s.heap.FunFrames base (env :: outer)) (hf : env.frame = some L) (x : Exc s.heap e T c .none)
    (h : ∀ h' T', Exc h' e T' c (rawInt L) → s.heap.get? T' = none → (∀ b o, b ≠ e → b ≠ T → b ∉ framesOf (env :: outer) → s.heap.get? b = some o → h'.get? b = some o) → (∀ b o, b ≠ e → b ≠ T → s.heap.get? b = some o → ∃ sl, h'.get? b = some { o with slots := sl }) → Q () { s with heap := h' }) :
    wpAny M A (noteFrame (.ref e) env) Q E s := by
  obtain ⟨o, t, he, hcls, hd⟩ := x.e_
  obtain ⟨oT, ts, hT, hdT, h3⟩ := x.t_
  have hne := x.ne
  unfold noteFrame
  simp only [hf]
  refine wpAny_bind (wpAny_field he hd (x := .ref T) rfl ?_)
  rw [if_pos (show (Value.ref T != Value.none) = true from by simp)]
  refine wpAny_bind (wpAny_field hT hdT h3 ?_)
  rw [if_neg (show ¬ ((Value.none == rawInt L) = true) from by simp [rawInt])]
  refine wpAny_bind (wpAny_setField hT hdT (Array.getElem?_eq_some_iff.mp h3).1 ?_)
  have hu := Heap.SameBut.update s.heap T (Obj.mapFields (·.setIfInBounds 3 Value.none))
  have hTnf : T ∉ framesOf (env :: outer) := fun hm => by
    obtain ⟨_, o', ho', hnf⟩ := hl.mem hm
    rw [hT] at ho'; cases ho'
    exact hnf _ hdT
  have hl' : (s.heap.update T (Obj.mapFields (·.setIfInBounds 3 Value.none))).FunFrames base (env :: outer) := hl.of_keeps fun b o' ho' hnf => ⟨o', hu.extBut _ _ (fun q => by rw [q, hT] at ho'; cases ho'; exact hnf _ hdT) ho', rfl⟩
  refine entry_any (head := .ref T) hfr hl' hf (hu.extBut _ _ (Ne.symm hne) he) hcls hd fun h' T' x' hn st => ?_
  refine h h' T' x' ?_ (fun b o' h1 h2 h3' q => st.all b o' h1 h3' (hu.extBut _ _ h2 q)) fun b o' h1 h2 q => st.fr b o' h1 (hu.extBut _ _ h2 q)
  cases q : s.heap.get? T' with
  | none => rfl
  | some o' =>
    by_cases hb : T' = T
    · subst hb
      have := Heap.get?_update_self (Obj.mapFields (·.setIfInBounds 3 Value.none)) hT (Obj.isFreed_of_fields (Obj.data_mapFields hdT _))
      rw [hn] at this; cases this
    · rw [hu.extBut _ _ hb q] at hn; cases hn
/-- its flight is over -/
theorem sf {Q : Unit → Shared → Prop} (x : Exc s.heap e T c fl) (h : ∀ h', Exc h' e T c .none → (∀ b o, b ≠ T → s.heap.get? b = some o → h'.get? b = some o) → Q () { s with heap := h' }) : wpAny M A (setFlight (.ref e) none) Q E s := by
  obtain ⟨o, t, he, hcls, hd⟩ := x.e_
  obtain ⟨oT, ts, hT, hdT, h3⟩ := x.t_
  have hsz : 3 < ts.size := (Array.getElem?_eq_some_iff.mp h3).1
  have hu := Heap.SameBut.update s.heap T (Obj.mapFields (·.setIfInBounds 3 Value.none))
  refine wpAny_setFlight_none he hd rfl hT hdT hsz (h _ ⟨⟨o, t, hu.extBut _ _ (Ne.symm x.ne) he, hcls, hd⟩, ⟨_, _, Heap.get?_update_self _ hT (Obj.isFreed_of_fields (Obj.data_mapFields hdT _)), Obj.data_mapFields hdT _, by simp [hsz]⟩, x.ne⟩ fun b o' hb q => hu.extBut _ _ hb q)
/-- a new exception leaves a frame -/
theorem leave_new {t : Value} {o : Obj} {Q : Unit → Shared → Prop} (hfr : A.frames = some (env :: outer)) (hl : s.heap.FunFrames base (env :: outer)) (hf : env.frame = some L)
    (he : s.heap.get? e = some o) (hcls : o.cls = .type "ValueError") (hd : o.data = .fields #[t, .none, c, .none, .bool false, .none])
    (h : ∀ h' T, Exc h' e T c .none → s.heap.get? T = none → Stay (framesOf (env :: outer)) e s.heap h' → Q () { s with heap := h' }) : wpAny M A (leaving env (.ref e)) Q E s := by
  unfold leaving
  refine wpAny_bind (nf_new hfr hl hf he hcls hd fun h1 T x hn st => ?_)
  refine sf x fun h2 x2 hk => ?_
  exact h h2 T x2 hn ⟨fun b o' h1 h2 q => hk _ _ (fun e' => by rw [e', hn] at q; cases q) (st.all b o' h1 h2 q), fun b o' h1 q => by
    obtain ⟨sl, hs⟩ := st.fr b o' h1 q
    exact ⟨sl, hk _ _ (fun e' => by rw [e', hn] at q; cases q) hs⟩⟩
end
end Mine
end

section
local macro_rules | `(tactic| walk_at "pad") => `(tactic| skip)
local macro_rules | `(tactic| walk_at "pad") => `(tactic| skip)
open PySem PySem.W PySem.W.X PyProof.Rows PySem.Calls PySem.Spec
set_option Elab.async false
set_option maxRecDepth 100000
set_option maxHeartbeats 8000000
set_option pp.deepTerms false
set_option pp.deepTerms.threshold 6
set_option pp.structureInstances false
set_option linter.all false
namespace Mine
open PyProof.Rows.LCg (NsObj lst lst_snoc ns_obj)
abbrev noHeap : Heap := { objs := #[] }
theorem noHeap_get (b : Addr) : noHeap.get? b = none := Heap.get?_none_of_le (by simp)
section
variable {w : World} {p : Program} {loose : List Str} {mg mb : Str → Option Value} {bm : Addr} {ob : Obj} {s : Shared} {A : Around}
  {name qual : Str} {params : Arguments} {body : List Stmt} {scope : Scope} {dV kV doc pm cdv ct oc : Value} {an od : Option Addr} {osl : Array (Option Value)} {f : Addr} {args : Args}
/-- a def with *rest entered over the whole heap -/
theorem enterW {vs : List Value} {g₁ : Addr → Option (List (Str × Value))} {binds : Addr → List (Str × Value)} {R : Result → Shared → Prop} (E1 : Env0 w p loose mg mb bm ob s.heap)
    (ho : (hd.heap_39 w.params).lookup f = some ⟨oc, od, .func (fnOf name qual params body scope dV kV doc pm an cdv ct), osl⟩)
    (hcd : codeIn (hd.heap_39 w.params) cdv qual = true) (hroom : A.depth < recursionLimit)
    (hp : peek1 (hd.heap_39 w.params) ⟨prog, w.params⟩ (bindArgs (fnOf name qual params body scope dV kV doc pm an cdv ct) args) = some (({ cls := .type "tuple", data := .seq vs.toArray } : Obj), g₁))
    (hg : ∀ D, g₁ D = some (binds D))
    (hkind : ∀ D, ((binds D).all fun y => scope.names.lookup y.1 == some .local || scope.names.lookup y.1 == some .cell) = true)
    (hnd : ((cellsFrom 0 scope.names []).map (·.1)).Nodup)
    (h : ∀ D L' h₁ tk cells, D = s.heap.objs.size → D < L' →
      Fr s.heap L' h₁ (bindL (envOfC qual scope L' f cdv).kindOf (binds D) fun _ => none) →
      News s.heap L' h₁ (cells ++ [(D, ({ cls := .type "tuple", data := .seq vs.toArray } : Obj))]) →
      CellsAre (bindC (envOfC qual scope L' f cdv).kindOf (binds D) fun _ => none) (cellsFrom (L' + 1) scope.names []) cells →
      wpAny (model prog w) (A.deeper (envOfC qual scope L' f cdv)) (execs body (envOfC qual scope L' f cdv))
        (fun fl s' => R (.ok (.ret (match fl with | .ret v => v | _ => .none))) s')
        (fun e s' => wpAny (model prog w) (A.deeper (envOfC qual scope L' f cdv)) (leaving (envOfC qual scope L' f cdv) e) (fun _ s'' => R (.error e) s'') (fun e' s'' => R (.error e') s'') s') { s with heap := h₁, toks := tk })
    (hco : scope.isCoroutine = false := by rfl) (hgen : scope.isGenerator = false := by rfl) (hk : scope.kind = .function := by rfl) :
    codeAny (model prog w) A (.call (.ref f) args) R s := by
  refine codeAny_call_function hroom (E1.k _ _ ho) rfl hco hgen rfl (codeRec_of E1.k hcd) ?_
  refine wp_peek (o := ({ cls := .type "tuple", data := .seq vs.toArray } : Obj)) (r := binds) E1.k ?_ _ g₁ hp hg
  refine wpAny_newFunctionEnv_cells hk (kindsX (hkind _) _) fun env' he s' x => ?_
  subst he
  refine ⟨(E1.t.nolimit.push _).keeps x.toInCall.keep, codeAny_func ?_⟩
  obtain ⟨h₁, tk, rfl, _⟩ := x.done
  have hk₁ := x.toInCall.keep
  have hsz : ({ s with heap := s.heap.push ({ cls := .type "tuple", data := .seq vs.toArray } : Obj) } : Shared).heap.objs.size = s.heap.objs.size + 1 := Heap.size_push ..
  obtain ⟨cells, NC, Y⟩ := Cl.news (h₀ := s.heap.push ({ cls := .type "tuple", data := .seq vs.toArray } : Obj)) (Nat.le_refl _) fun n c hm => ⟨x.cell n c (lookup_of_mem_nodup (cellsFrom_names scope.names 0 _ [] [] rfl ▸ hnd) hm), x.above n c hm⟩
  refine h s.heap.objs.size _ h₁ tk cells rfl (by rw [hsz]; exact Nat.lt_succ_self _) ⟨x.toInCall.ns, fun b o e => hk₁ b o (Heap.get?_push_of_some _ e), by rw [hsz]; exact Nat.le_succ _⟩ (fun q hq => ?_) Y
  rcases List.mem_append.mp hq with hq | hq
  · refine ⟨(NC q hq).1, (NC q hq).2.1, ?_⟩
    cases e : s.heap.get? q.1 with
    | none => rfl
    | some o => have := Heap.get?_push_of_some ({ cls := .type "tuple", data := .seq vs.toArray } : Obj) e; rw [(NC q hq).2.2] at this; cases this
  · rw [List.mem_singleton.mp hq]
    refine ⟨hk₁ _ _ (Heap.get?_push_size _ rfl), by rw [hsz]; exact Nat.ne_of_lt (Nat.lt_succ_self _), ?_⟩
    exact Heap.get?_none_of_le (Nat.le_refl _)
/-- what a raising callee leaves -/
def Raised (s : Shared) (outer : List Env) (C : Value → Prop) (R : Result → Shared → Prop) : Prop :=
  ∀ s' e T c, C c → Exc s'.heap e T c .none → s.heap.get? e = none → s.heap.get? T = none → (∀ b o, b ∉ framesOf outer → s.heap.get? b = some o → s'.heap.get? b = some o) →
    (∀ b o, s.heap.get? b = some o → ∃ sl, s'.heap.get? b = some { o with slots := sl }) → AllBare s'.gens → s'.os = s.os → R (.error (.ref e)) s'
theorem raise_out {M : Model} {s₁ : Shared} {E : Value → Shared → Prop} {env : Env} {outer : List Env} {C : Value → Prop} {R : Result → Shared → Prop} {L' e : Addr} {m : Str → Option Value} {o : Obj} {t c : Value}
    (F : Fr s.heap L' s₁.heap m) (hef : env.frame = some L') (hek : env.scope.kind = .function) (hfr : A.frames = some outer) (hF : s.heap.FunFrames noHeap outer) (hR : Raised s outer C R) (hc : C c)
    (he : s₁.heap.get? e = some o) (hcls : o.cls = .type "ValueError") (hd : o.data = .fields #[t, .none, c, .none, .bool false, .none]) (hnew : s.heap.get? e = none) (hg : AllBare s₁.gens) (hos : s₁.os = s.os) :
    wpAny M (A.deeper env) (leaving env (.ref e)) (fun _ s'' => R (.error (.ref e)) s'') E s₁ := by
  have hl : s₁.heap.FunFrames noHeap (env :: outer) := .cons (by rw [hek]; decide) hef F.ns (noHeap_get _) (hF.of_keeps fun b o e _ => ⟨o, F.keep b o e, rfl⟩)
  have hL : s.heap.get? L' = none := Heap.get?_none_of_le F.above
  refine leave_new (Around.frames_deeper hfr) hl hef he hcls hd fun h' T x hn st => ?_
  have hT : s.heap.get? T = none := by
    cases q : s.heap.get? T with
    | none => rfl
    | some o' => rw [F.keep _ _ q] at hn; cases hn
  have hbe : ∀ b o, s.heap.get? b = some o → b ≠ e := fun b o q q' => by rw [q', hnew] at q; cases q
  refine hR _ e T c hc x hnew hT (fun b o hb q => st.all b o (hbe b o q) ?_ (F.keep _ _ q)) (fun b o q => st.fr b o (hbe b o q) (F.keep _ _ q)) hg hos
  intro hm
  have hm' : b ∈ (env :: outer).filterMap (·.frame) := hm
  rw [List.filterMap_cons, hef] at hm'
  rcases List.mem_cons.mp hm' with h | h
  · rw [h, hL] at q; cases q
  · exact hb h
end
section
variable {prog : Program} {w : World} {A : Around} {E : Value → Shared → Prop} {s : Shared} {h₀ : Heap} {L : Addr} {m : Str → Option Value} {news : List (Addr × Obj)}
theorem ints_nil {vs : List Value} (x : IntsAre vs []) : vs = [] := by cases x; rfl
theorem fr_but1 {h h' : Heap} {it : Addr} (F : Fr h₀ L h m) (h0 : h₀.get? it = none) (hL : L ≠ it) (hk : ∀ b o, b ≠ it → h.get? b = some o → h'.get? b = some o) : Fr h₀ L h' m :=
  ⟨F.ns.at' fun o e => hk _ o hL e, fun b o e => hk b o (fun q => by rw [q, h0] at e; cases e) (F.keep b o e), F.above⟩
theorem max_raise_list {l : Addr} {zs : List Value} {c : Nat} {Q : Value → Shared → Prop} (F : Fr h₀ L s.heap m) (N : News h₀ L s.heap news) (hh : A.handled = none) (hm : (l, lob zs c) ∈ news) (hz : zs = [])
    (hE : ∀ h' e tk o t, Fr h₀ L h' m → h₀.get? e = none → h'.get? e = some o → o.cls = .type "ValueError" → o.data = .fields #[t, .none, .none, .none, .bool false, .none] → E (.ref e) { s with heap := h', toks := tk }) :
    wpAny (model prog w) A (call (.builtin "max") [.ref l]) Q E s := by
  subst hz
  have hl : s.heap.IsList l ([] : List Value).toArray := ⟨_, (N _ hm).1, rfl, _, rfl⟩
  have hlt : l < s.heap.objs.size := Heap.lt_size (N _ hm).1
  have h0 : h₀.get? s.heap.objs.size = none := by
    cases e : h₀.get? s.heap.objs.size with
    | none => rfl
    | some o => exact absurd (Heap.lt_size (F.keep _ _ e)) (Nat.lt_irrefl _)
  have hL : L ≠ s.heap.objs.size := Nat.ne_of_lt F.ns.lt
  refine max_empty (wpAny_pyIter_list hl ?_)
  refine ⟨s.heap.objs.size, s.heap.objs.size, rfl, by dsimp only; rw [Heap.size_push]; exact Nat.lt_succ_self _, .inl hh, (fun e0 q => by rw [hh] at q; cases q), fun s' Q' E' hk hQ => ?_, fun h' e tk hk hne hex => ?_⟩
  · refine wpAny_pyNext_list_end (A := A.in1) hh (i := 0) (it := s.heap.objs.size) (l := l) ⟨_, hk _ _ (Heap.get?_push_size _ rfl), rfl, rfl⟩ (hl.at fun o e => hk _ _ (Heap.get?_push_of_some _ e)) rfl fun h' he => hQ h' fun b o hb q => he b o hb q
  · obtain ⟨o, t, c, ho, hc, hd, hn⟩ := hex
    have hcn := hn hh
    subst hcn
    refine hE h' e tk o t (fr_but1 F h0 hL fun b o hb q => hk b o hb (Heap.get?_push_of_some _ q)) ?_ ho hc hd
    by_cases hb : e = s.heap.objs.size
    · rw [hb]; exact h0
    · have := hne hb
      cases q : h₀.get? e with
      | none => rfl
      | some o' => rw [Heap.get?_push_of_some _ (F.keep _ _ q)] at this; cases this
theorem max_raise_map {I : Addr} {Q : Value → Shared → Prop} (F : Fr h₀ L s.heap m) (N : News h₀ L s.heap news) (H : InHand A h₀) (X : MapIs h₀ L news I [] s.heap)
    (hE : ∀ h' e tk o t c, Fr h₀ L h' m → h₀.get? e = none → h'.get? e = some o → o.cls = .type "ValueError" → o.data = .fields #[t, .none, c, .none, .bool false, .none] → E (.ref e) { s with heap := h', toks := tk }) :
    wpAny (model prog w) A (call (.builtin "max") [.ref I]) Q E s := by
  obtain ⟨TI, it, l, rows, M, hne, hfit, hlt, h3, h0, hL, off⟩ := X
  have hrows : rows = [] := by simpa using h3
  subst hrows
  have hH : InHand A s.heap := H.keeps fun e0 _ o q => F.keep _ _ q
  have hne0 : ∀ e0, A.handled = some (.ref e0) → e0 ≠ it := fun e0 q q' => by
    rcases H with H | ⟨e1, o, vs, a, b, _, _⟩
    · rw [H] at q; cases q
    · rw [a] at q; cases q
      rw [q', h0] at b; cases b
  have hT : s.TypeIs (.ref I) "map" := ⟨_, M.o, rfl⟩
  refine max_empty (wpAny_pyIter_slot hT MF.slot_map_iter (wpAny_call_entry MF.slot_map_iter hT MF.entry_map_iter ?_ (MF.args_map_iter_1 _)))
  show wpAny _ _ (ret (.ref I)) _ _ s
  refine wpAny_pure ⟨_, rfl, "map", _, hT, MF.slot_map_next.lookup, ?_⟩
  refine ⟨I, it, rfl, hlt it (by simp), hH, hne0, fun s' Q' E' hk hQ => ?_, fun h' e tk hk hne hex => ?_⟩
  · refine map_end2 (A := A.in1) (I := I) (TI := TI) (it := it) (l := l) (rows := []) (hH.keeps fun e0 _ o q => hk _ _ q) hne0 ⟨hk _ _ M.o, hk _ _ M.ti, M.it.at fun o q => hk _ _ q, M.l.at fun o q => hk _ _ q, fun r h => nomatch h⟩ fun h' he => hQ h' fun b o hb q => he b o hb q
  · obtain ⟨o, t, c, ho, hc, hd, hn⟩ := hex
    refine hE h' e tk o t c (fr_but1 F h0 (Ne.symm hL) hk) ?_ ho hc hd
    by_cases hb : e = it
    · rw [hb]; exact h0
    · have := hne hb
      cases q : h₀.get? e with
      | none => rfl
      | some o' => rw [F.keep _ _ q] at this; cases this
end
local macro_rules | `(tactic| k_inst) => `(tactic| (exact InstAt.up (by assumption) (by assumption)))
local macro_rules | `(tactic| walk_at "eval Name") => `(tactic| ((with_reducible show wpAny _ _ (eval (Expr.Name _ _) (compEnvC _ _ _ _)) _ _ _); k_dflt (first
  | (refine' ce_own ?N ?m ?C ?x ?_ ?a ?b; (case a => rfl); (case b => rfl); (case N => assumption); (case m => k_mem); (case C => assumption); (case x => assumption))
  | (refine' ce_cell ?N ?c ?m ?d ?_ ?a ?b; (case a => rfl); (case b => rfl); (case N => assumption); (case c => rfl); (case m => k_mem); (case d => assumption))
  | (refine' ce_global ?F ?X ?T ?e ?_ ?g ?a ?b; (case a => rfl); (case b => rfl); (case g => rfl); (case F => assumption); (case X => assumption); (case T => assumption); (case e => k_is))
  | (refine' ce_built ?F ?X ?T ?e ?v ?n ?_ ?g ?g2 ?a ?b; (case a => rfl); (case b => rfl); (case g => rfl); (case g2 => rfl); (case F => assumption); (case X => assumption); (case T => assumption); (case e => k_is); (case v => boot_by_name); (case n => decide)))))
local macro_rules | `(tactic| walk_at "call type:map") => `(tactic| (refine' map_led ?F ?N ?l ?R ?z ?_; (case F => assumption); (case N => assumption); (case l => assumption); (case R => assumption); (case z => assumption); intro h' I' F' N' X'))
local macro_rules | `(tactic| walk_at "call builtin:len") => `(tactic| (refine' len_lob ?N ?m ?z ?_; (case N => assumption); (case m => k_mem); (case z => assumption)))
local macro_rules | `(tactic| walk_at "call type:list") => `(tactic| ((with_reducible rename MapIs _ _ _ _ _ _ => mX); refine' list_map_led ?F ?N ?hh mX ?n ?_; (case F => assumption); (case N => assumption); (case hh => assumption); (case n => assumption); intro h' D' zs' c' tk' F' N' l' z'))
local macro_rules | `(tactic| walk_at "call builtin:all") => `(tactic| (refine' all_tup ?F ?N ?hh ?m ?i ?n ?_; (case F => assumption); (case N => assumption); (case hh => assumption); (case m => k_mem); (case i => assumption); (case n => assumption); intro h' tk' F' N'))
local macro_rules | `(tactic| walk_at "exec Assign cons ListComp") => `(tactic| ((with_reducible rename Fr _ _ _ _ => kF); k_dflt (refine' assign_coreF kF ?z1 ?z2 ?z3 ?z4 ?z5 ?z6 ?z7 ?_ ?z8; (case z1 => first | exact rfl | with_unfolding_all rfl); (case z2 => first | exact rfl | with_unfolding_all rfl); (case z3 => decide); (case z4 => exact rfl); (case z5 => decide); (case z6 => exact rfl); (case z7 => exact rfl); (case z8 => (intro _; first | exact rfl | with_unfolding_all rfl)))))
theorem callm0 {P : Addr} {outer : List Env} {R : Result → Shared → Prop} (E1 : Env0 w p loose mg mb bm ob s.heap) (hh : A.handled = none) (hroom : A.depth + 6 < recursionLimit) (hfr : A.frames = some outer) (hF : s.heap.FunFrames noHeap outer) (hb : AllBare s.gens)
    (hR : Raised s outer (· = .none) R) : codeAny (model prog w) A (.call (.ref 204) ⟨[.ref P], []⟩) R s := by
  have he : PySem.Challenge.rw_fq5033_01.row.prog = PySem.Challenge.rw_fq5033_01.row.prog ∧ (hd.heap_39 w.params).In s.heap := ⟨rfl, E1.k⟩
  revert he; k_fill; intro he
  refine enterW (vs := []) (g₁ := fun D => some [(Str.ofString "self", .ref P), (Str.ofString "sequences", .ref D)]) (binds := fun D => [(Str.ofString "self", .ref P), (Str.ofString "sequences", .ref D)]) E1 (by k_is) (by k_is) (by omega) rfl (fun _ => rfl) (fun _ => rfl) (by decide +kernel) ?_ rfl rfl rfl
  intro D L' h₁ tk cells hD hL F N Y
  have X := E1.k
  have T := E1.t
  have M := E1.b
  obtain ⟨om, oc, hE, d2', d1'⟩ := CellsAre.two Y
  subst hE
  clear Y
  dsimp only [List.nil_append, List.cons_append] at N
  have F1 : Fr s.heap L' h₁ (fun y => if y = Str.ofString "sequences" then some (.ref D) else none) := F
  clear F
  have hi0 : StrsAre [] [] := .nil
  have hlen0 : ∀ x ∈ ([] : List Str), x.length ≤ 1000 := fun _ h => nomatch h
  k_steps
  rename_i hq tq F2 N2
  have ht1 : IsTup hq D ([] : List Value).toArray := ⟨_, (N2 _ (.tail _ (.tail _ (.head _)))).1, rfl, _, rfl⟩
  refine iter_tuple ht1 ?_
  have k0 : OK s.heap L' _ _ s.os (Shared.mk hq s.gens s.drawn tq s.os) := ⟨F2, N2, hb, rfl⟩
  have k1 := k0.push (o := { cls := .type "tuple_iterator", data := .fields #[.ref D, .int 0 0] })
  have hDlt := Heap.lt_size (N2 _ (.tail _ (.tail _ (.head _)))).1
  refine comp_feed (st₀ := [(hq.objs.size, { cls := .type "tuple_iterator", data := .fields #[.ref D, .int 0 0] })]) (led₀ := [(L' + 1 + 1, om), (L' + 1, oc), (D, tobj [])])
    (fun i ys led => ys = [] ∧ led = [(L' + 1 + 1, om), (L' + 1, oc), (D, tobj [])])
    rfl rfl (feed_tuple (A := A.deeper _) (ax := D) (its := ([] : List Value).toArray) hh (Nat.ne_of_lt hDlt)) (by decide) k1 ⟨_, rfl, fun h e => ⟨_, e, rfl, rfl⟩⟩ (.inr ⟨_, .tail _ (.tail _ (.head _)), rfl, _, rfl⟩) ?_ ⟨rfl, rfl⟩ ?_ ?_ ?_
  · intro p hp q hq
    rw [List.mem_singleton.mp hp]
    exact Nat.ne_of_lt (Heap.lt_size (N2 q hq).1)
  · rintro i ys led ⟨rfl, rfl⟩; exact Nat.zero_le _
  · intro i v ex st ys led C Dl oC mC s₁ E hi1
    exact absurd hi1 (Nat.not_lt_zero _)
  · rintro ys led ⟨rfl, rfl⟩ Sq s₂ k offS
    have F3 := k.F
    have N3 : News s.heap L' s₂.heap [(Sq, lst []), (L' + 1 + 1, om), (L' + 1, oc), (D, tobj [])] := k.N
    have g3 := k.g
    have o3 := k.o
    have hR3 : RowsL [(Sq, lst []), (L' + 1 + 1, om), (L' + 1, oc), (D, tobj [])] [] [] := RowsL.nil _
    have hmem : (Sq, lst []) ∈ [(Sq, lst []), (L' + 1 + 1, om), (L' + 1, oc), (D, tobj [])] := .head _
    have hsz : ∀ l ∈ ([] : List (List Nat)), l.length ≤ 1000 := fun _ h => nomatch h
    have hz0 : ([] : List (List Nat)).length ≤ 1000 := by decide
    k_steps
    rename (IntsAre _ _) => z9
    rename Fr _ _ _ _ => F9
    rename News _ _ _ _ => N9
    have hz9 : _ = [] := ints_nil (show IntsAre _ [] from z9)
    refine max_raise_list F9 N9 hh (.head _) hz9 fun h' e tk o t F' h0' ho hc hd => ?_
    exact raise_out F' rfl rfl hfr hF hR rfl ho hc hd h0' g3 o3
end Mine
end

section
local macro_rules | `(tactic| walk_at "pad") => `(tactic| skip)
local macro_rules | `(tactic| walk_at "pad") => `(tactic| skip)
local macro_rules | `(tactic| walk_at "pad") => `(tactic| skip)
local macro_rules | `(tactic| walk_at "pad") => `(tactic| skip)
local macro_rules | `(tactic| walk_at "pad") => `(tactic| skip)
local macro_rules | `(tactic| walk_at "pad") => `(tactic| skip)
local macro_rules | `(tactic| walk_at "pad") => `(tactic| skip)
local macro_rules | `(tactic| walk_at "pad") => `(tactic| skip)
local macro_rules | `(tactic| walk_at "pad") => `(tactic| skip)
local macro_rules | `(tactic| walk_at "pad") => `(tactic| skip)
open PySem PySem.W PySem.W.X PyProof.Rows PySem.Calls PySem.Spec
set_option Elab.async false
set_option maxRecDepth 100000
set_option maxHeartbeats 8000000
set_option pp.deepTerms false
set_option pp.deepTerms.threshold 6
set_option pp.structureInstances false
set_option linter.all false
namespace Mine
open PyProof.Rows.LCg (NsObj lst lst_snoc ns_obj)
variable {w : World} {p : Program} {loose : List Str} {mg mb : Str → Option Value} {bm : Addr} {ob : Obj} {s : Shared} {A : Around}
local macro_rules | `(tactic| k_inst) => `(tactic| (exact InstAt.up (by assumption) (by assumption)))
local macro_rules | `(tactic| walk_at "eval Name") => `(tactic| ((with_reducible show wpAny _ _ (eval (Expr.Name _ _) (compEnvC _ _ _ _)) _ _ _); k_dflt (first
  | (refine' ce_own ?N ?m ?C ?x ?_ ?a ?b; (case a => rfl); (case b => rfl); (case N => assumption); (case m => k_mem); (case C => assumption); (case x => assumption))
  | (refine' ce_cell ?N ?c ?m ?d ?_ ?a ?b; (case a => rfl); (case b => rfl); (case N => assumption); (case c => rfl); (case m => k_mem); (case d => assumption))
  | (refine' ce_global ?F ?X ?T ?e ?_ ?g ?a ?b; (case a => rfl); (case b => rfl); (case g => rfl); (case F => assumption); (case X => assumption); (case T => assumption); (case e => k_is))
  | (refine' ce_built ?F ?X ?T ?e ?v ?n ?_ ?g ?g2 ?a ?b; (case a => rfl); (case b => rfl); (case g => rfl); (case g2 => rfl); (case F => assumption); (case X => assumption); (case T => assumption); (case e => k_is); (case v => boot_by_name); (case n => decide)))))
local macro_rules | `(tactic| walk_at "call type:map") => `(tactic| (refine' map_led ?F ?N ?l ?R ?z ?_; (case F => assumption); (case N => assumption); (case l => assumption); (case R => assumption); (case z => assumption); intro h' I' F' N' X'))
local macro_rules | `(tactic| walk_at "call builtin:len") => `(tactic| (refine' len_lob ?N ?m ?z ?_; (case N => assumption); (case m => k_mem); (case z => assumption)))
local macro_rules | `(tactic| walk_at "call type:list") => `(tactic| ((with_reducible rename MapIs _ _ _ _ _ _ => mX); refine' list_map_led ?F ?N ?hh mX ?n ?_; (case F => assumption); (case N => assumption); (case hh => assumption); (case n => assumption); intro h' D' zs' c' tk' F' N' l' z'))
local macro_rules | `(tactic| walk_at "call builtin:all") => `(tactic| (refine' all_tup ?F ?N ?hh ?m ?i ?n ?_; (case F => assumption); (case N => assumption); (case hh => assumption); (case m => k_mem); (case i => assumption); (case n => assumption); intro h' tk' F' N'))
local macro_rules | `(tactic| walk_at "exec Assign cons ListComp") => `(tactic| ((with_reducible rename Fr _ _ _ _ => kF); k_dflt (refine' assign_coreF kF ?z1 ?z2 ?z3 ?z4 ?z5 ?z6 ?z7 ?_ ?z8; (case z1 => first | exact rfl | with_unfolding_all rfl); (case z2 => first | exact rfl | with_unfolding_all rfl); (case z3 => decide); (case z4 => exact rfl); (case z5 => decide); (case z6 => exact rfl); (case z7 => exact rfl); (case z8 => (intro _; first | exact rfl | with_unfolding_all rfl)))))
theorem feed_tup0 {h₀ : Heap} {L : Addr} (H : InHand A h₀) {I ax : Addr} :
    Feed prog w A h₀ L I 0 (fun i v ex => (([] : List Value).toArray)[i]? = some v ∧ ex = []) (fun i st => ∃ o, st = [(I, o)] ∧ ∀ h : Heap, h.get? I = some o → IsTupIter h I ax i) (TupAt h₀ ax ([] : List Value).toArray) where
  next := fun i st led m os₀ s E Q hi => absurd hi (Nat.not_lt_zero _)
  stop := fun st led m os₀ s E Q hS hO k ap hQ => by
    obtain ⟨o, rfl, hO⟩ := hO
    have hI := k.N (I, o) (List.mem_append_left _ List.mem_cons_self)
    refine tuple_end2 (H.keeps fun e0 _ o q => k.F.keep _ _ q) (fun e0 q q' => ?_) (hO s.heap hI.1) (hS.tup k.F.keep (k.weak fun q hq => List.mem_append_right _ hq).N) rfl fun h' he => hQ h' _ fun b o₁ hb e => he b o₁ (by simpa using hb) e
    rcases H with H | ⟨e1, o1, vs, a, b, _, _⟩
    · rw [H] at q; cases q
    · rw [a] at q; cases q
      rw [q', hI.2.2] at b; cases b
  self := fun st led m os₀ s E Q hO hS k hQ => by
    obtain ⟨o, rfl, hO⟩ := hO
    have hit := hO s.heap (k.N _ (List.mem_append_left _ List.mem_cons_self)).1
    exact wpAny_pyIter_tupleiter hit hQ
  mono := fun a b h S => S.imp id fun ⟨o, hm, r⟩ => ⟨o, h _ hm, r⟩
local macro_rules | `(tactic| walk_at "call builtin:max") => `(tactic| (refine Stopped.mk ?_))
theorem maxi0 {P : Addr} {outer : List Env} {R : Result → Shared → Prop} (E1 : Env0 w p loose mg mb bm ob s.heap) (H : InHand A s.heap) (hroom : A.depth + 6 < recursionLimit) (hfr : A.frames = some outer) (hF : s.heap.FunFrames noHeap outer) (hb : AllBare s.gens)
    (hR : Raised s outer (fun _ => True) R) : codeAny (model prog w) A (.call (.ref 192) ⟨[.ref P], []⟩) R s := by
  have he : PySem.Challenge.rw_fq5033_01.row.prog = PySem.Challenge.rw_fq5033_01.row.prog ∧ (hd.heap_39 w.params).In s.heap := ⟨rfl, E1.k⟩
  revert he; k_fill; intro he
  refine enterW (vs := []) (g₁ := fun D => some [(Str.ofString "self", .ref P), (Str.ofString "sequences", .ref D)]) (binds := fun D => [(Str.ofString "self", .ref P), (Str.ofString "sequences", .ref D)]) E1 (by k_is) (by k_is) (by omega) rfl (fun _ => rfl) (fun _ => rfl) (by decide +kernel) ?_ rfl rfl rfl
  intro D L' h₁ tk cells hD hL F N Y
  have X := E1.k
  have T := E1.t
  have M := E1.b
  obtain ⟨oc, hE, d1'⟩ := CellsAre.one Y
  subst hE
  clear Y
  dsimp only [List.nil_append, List.cons_append] at N
  have F1 : Fr s.heap L' h₁ (fun y => if y = Str.ofString "sequences" then some (.ref D) else none) := F
  clear F
  k_steps
  rename Fr _ _ _ _ => F2
  rename News _ _ _ _ => N2
  have ht1 : IsTup h₁ D ([] : List Value).toArray := ⟨_, (N2 _ (.tail _ (.head _))).1, rfl, _, rfl⟩
  refine iter_tuple ht1 ?_
  have k0 : OK s.heap L' _ _ s.os (Shared.mk h₁ s.gens s.drawn tk s.os) := ⟨F2, N2, hb, rfl⟩
  have k1 := k0.push (o := { cls := .type "tuple_iterator", data := .fields #[.ref D, .int 0 0] })
  refine comp_feed (st₀ := [(h₁.objs.size, { cls := .type "tuple_iterator", data := .fields #[.ref D, .int 0 0] })]) (led₀ := [(L' + 1, oc), (D, tobj [])])
    (fun i ys led => ys = [] ∧ led = [(L' + 1, oc), (D, tobj [])])
    rfl rfl (feed_tup0 (A := A.deeper _) (ax := D) H) (by decide) k1 ⟨_, rfl, fun h e => ⟨_, e, rfl, rfl⟩⟩ (.inr ⟨_, .tail _ (.head _), rfl, _, rfl⟩) ?_ ⟨rfl, rfl⟩ ?_ ?_ ?_
  · intro p hp q hq
    rw [List.mem_singleton.mp hp]
    exact Nat.ne_of_lt (Heap.lt_size (N2 q hq).1)
  · rintro i ys led ⟨rfl, rfl⟩; exact Nat.zero_le _
  · intro i v ex st ys led C Dl oC mC s₁ E hi1
    exact absurd hi1 (Nat.not_lt_zero _)
  · rintro ys led ⟨rfl, rfl⟩ Sq s₂ k offS
    have F3 := k.F
    have N3 : News s.heap L' s₂.heap [(Sq, lst []), (L' + 1, oc), (D, tobj [])] := k.N
    have g3 := k.g
    have o3 := k.o
    have hR3 : RowsL [(Sq, lst []), (L' + 1, oc), (D, tobj [])] [] [] := RowsL.nil _
    have hmem : (Sq, lst []) ∈ [(Sq, lst []), (L' + 1, oc), (D, tobj [])] := .head _
    have hsz : ∀ l ∈ ([] : List (List Nat)), l.length ≤ 1000 := fun _ h => nomatch h
    k_steps
    unfold Stopped
    rename Fr _ _ _ _ => F9
    rename News _ _ _ _ => N9
    rename MapIs _ _ _ _ _ _ => X9
    refine max_raise_map F9 N9 H X9 fun h' e tk o t c F' h0' ho hc hd => ?_
    exact raise_out F' rfl rfl hfr hF hR trivial ho hc hd h0' g3 o3
end Mine
end

section
open PySem PySem.W PySem.W.X PyProof.Rows PySem.Calls PySem.Spec
set_option Elab.async false
set_option maxRecDepth 100000
set_option maxHeartbeats 8000000
set_option pp.deepTerms false
set_option pp.deepTerms.threshold 6
set_option pp.structureInstances false
set_option linter.all false
namespace Mine
open PyProof.Rows.LCg (NsObj lst lst_snoc ns_obj)
variable {w : World} {p : Program} {loose : List Str} {mg mb : Str → Option Value} {bm : Addr} {ob : Obj} {s : Shared} {A : Around}
theorem isSub_VB : isSubtype (.type "ValueError") (.type "BaseException") = pure true := isSubtype_of_subB (by decide +kernel)
theorem isSub_VV : isSubtype (.type "ValueError") (.type "ValueError") = pure true := isSubtype_of_subB (by decide +kernel)
theorem isSub_VT : isSubtype (.type ((Manifest.find? "ValueError").elim "type" fun x => x.metatype)) (.type "tuple") = pure false := isSubtype_of_subB (by decide +kernel)
theorem fr_slots {h₀ h h' : Heap} {L : Addr} {m : Str → Option Value} (F : Fr h₀ L h m) (k : ∀ b o, h₀.get? b = some o → h'.get? b = some o) (sl : ∀ b o, h.get? b = some o → ∃ sl, h'.get? b = some { o with slots := sl }) : Fr h₀ L h' m := by
  obtain ⟨o, es, ep, ho, hd, r⟩ := F.ns
  obtain ⟨s1, hs⟩ := sl _ _ ho
  exact ⟨⟨_, es, ep, hs, hd, r⟩, k, F.above⟩
/-- what the handlers lean on -/
structure Keep3 (h₀ : Heap) (L' L : Addr) (m : Str → Option Value) (ps : Array Value) (h : Heap) : Prop where
  kb : ∀ b o, h₀.get? b = some o → h.get? b = some o
  ns : h.Ns L' m
  l : ∃ o, h.get? L = some o ∧ ∀ vs, o.data ≠ .fields vs
  t : h.get? 194 = some (tableObj ps)
structure Apart3 (h₀ : Heap) (L' L : Addr) : Prop where
  a : h₀.get? L' = none
  b : h₀.get? L = none
  c : 194 ≠ L'
  d : 194 ≠ L
theorem Keep3.go {h₀ h2 h h' : Heap} {L' L x y : Addr} {m : Str → Option Value} {ps : Array Value} (Z : Apart3 h₀ L' L) (K2 : Keep3 h₀ L' L m ps h2) (K : Keep3 h₀ L' L m ps h) (hx : h2.get? x = none) (hy : h2.get? y = none)
    (all : ∀ b o, b ∉ [L', L] → b ≠ x → b ≠ y → h.get? b = some o → h'.get? b = some o) (sl : ∀ b o, b ≠ x → b ≠ y → h.get? b = some o → ∃ sl, h'.get? b = some { o with slots := sl }) : Keep3 h₀ L' L m ps h' := by
  have ne : ∀ b o, h2.get? b = some o → b ≠ x ∧ b ≠ y := fun b o q => ⟨(fun e => by rw [e, hx] at q; cases q), (fun e => by rw [e, hy] at q; cases q)⟩
  obtain ⟨o, es, ep, ho, hd, r⟩ := K.ns
  obtain ⟨o2, _, _, ho2, _⟩ := K2.ns
  obtain ⟨oL, hoL, hdL⟩ := K.l
  obtain ⟨oL2, hoL2, _⟩ := K2.l
  refine ⟨fun b o q => ?_, ?_, ?_, ?_⟩
  · have h1 := ne b o (K2.kb b o q)
    refine all b o (fun hm => ?_) h1.1 h1.2 (K.kb b o q)
    rcases List.mem_cons.mp hm with e | hm
    · rw [e, Z.a] at q; cases q
    · rw [List.mem_singleton.mp hm, Z.b] at q; cases q
  · obtain ⟨s1, hs⟩ := sl L' o (ne _ _ ho2).1 (ne _ _ ho2).2 ho
    exact ⟨_, es, ep, hs, hd, r⟩
  · obtain ⟨s1, hs⟩ := sl L oL (ne _ _ hoL2).1 (ne _ _ hoL2).2 hoL
    exact ⟨_, hs, hdL⟩
  · refine all 194 _ (fun hm => ?_) (ne _ _ K2.t).1 (ne _ _ K2.t).2 K.t
    rcases List.mem_cons.mp hm with e | hm
    · exact Z.c e
    · exact Z.d (List.mem_singleton.mp hm)
abbrev refScope : Scope := Scope.mk .function [(Str.ofString "told", .local), (Str.ofString "MRA", .globalImplicit), (Str.ofString "ValueError", .globalImplicit)] false false []
abbrev refEnv (L' : Addr) : Env := envOfC (Str.ofString "_law_refused") refScope L' 228 (Value.ref 227)
theorem Keep3.ff {h₀ h : Heap} {L' L : Addr} {m : Str → Option Value} {ps : Array Value} {lawEnv : Env} (hef : lawEnv.frame = some L) (hek : lawEnv.scope.kind = .function) (K : Keep3 h₀ L' L m ps h) : h.FunFrames noHeap [refEnv L', lawEnv] := by
  obtain ⟨o, ho, hd⟩ := K.l
  exact .cons (by show ScopeKind.function ≠ _; decide) rfl K.ns (noHeap_get _) ⟨by rw [hek]; decide, ⟨L, o, hef, noHeap_get _, ho, hd⟩, trivial⟩
/-- an exception from a callee lands in the frame's except clause -/
theorem lands {h₀ : Heap} {L' L e T : Addr} {m : Str → Option Value} {ps : Array Value} {lawEnv : Env} {s₂ s' : Shared} {c : Value} {E : Value → Shared → Prop} {t : Expr} {b₀ : Stmt} {suite : List Stmt} {pos : Pos} {rest : List ExceptHandler} {Q : Flow → Shared → Prop}
    (hef : lawEnv.frame = some L) (hek : lawEnv.scope.kind = .function) (hfr : A.frames = some [refEnv L', lawEnv]) (Z : Apart3 h₀ L' L) (K2 : Keep3 h₀ L' L m ps s₂.heap)
    (x : Exc s'.heap e T c .none) (he : s₂.heap.get? e = none) (hT : s₂.heap.get? T = none) (hk : ∀ b o, b ∉ framesOf [refEnv L', lawEnv] → s₂.heap.get? b = some o → s'.heap.get? b = some o) (hsl : ∀ b o, s₂.heap.get? b = some o → ∃ sl, s'.heap.get? b = some { o with slots := sl })
    (hev : ∀ h1 (Q' : Value → Shared → Prop) (E' : Value → Shared → Prop), Keep3 h₀ L' L m ps h1 → Q' (.type "ValueError") { s' with heap := h1 } → wpAny (model prog w) (A.mark (some (.ref e))) (eval t (refEnv L')) Q' E' { s' with heap := h1 })
    (hbody : ∀ h2 T2, Keep3 h₀ L' L m ps h2 → Exc h2 e T2 c .none → h₀.get? e = none → e ≠ L' → e ≠ 194 → wpAny (model prog w) (A.mark (some (.ref e))) (execs (b₀ :: suite) (refEnv L')) Q (notedBy (model prog w) (A.mark (some (.ref e))) (refEnv L') (cameBackBy (model prog w) A (refEnv L') E)) { s' with heap := h2 }) :
    wpAny (model prog w) A (noteFrame (.ref e) (refEnv L')) (fun _ s₂ => wpAny (model prog w) A (setFlight (.ref e) none) (fun _ s₃ => wpAny (model prog w) A (handleBy (.ref e) (refEnv L') (.ExceptHandler (some t) none (b₀ :: suite) pos :: rest)) Q E s₃) E s₂) E s' := by
  have hfs : framesOf [refEnv L', lawEnv] = [L', L] := by
    show List.filterMap _ _ = _
    rw [List.filterMap_cons, show (refEnv L').frame = some L' from rfl, List.filterMap_cons, hef]
    rfl
  rw [hfs] at hk
  have ne : ∀ b o, s₂.heap.get? b = some o → b ≠ e ∧ b ≠ T := fun b o q => ⟨(fun q' => by rw [q', he] at q; cases q), (fun q' => by rw [q', hT] at q; cases q)⟩
  have K1 : Keep3 h₀ L' L m ps s'.heap := K2.go Z K2 he hT (fun b o hb _ _ q => hk b o hb q) fun b o _ _ q => hsl b o q
  refine nf_on hfr (K1.ff hef hek) rfl x fun h3 T3 x3 hT3 hk3 hsl3 => ?_
  rw [hfs] at hk3
  have K3 : Keep3 h₀ L' L m ps h3 := K2.go Z K1 he hT (fun b o hb h1 h2 q => hk3 b o h1 h2 hb q) fun b o h1 h2 q => hsl3 b o h1 h2 q
  refine sf x3 fun h4 x4 hk4 => ?_
  have K4 : Keep3 h₀ L' L m ps h4 := K1.go Z K3 hT3 hT3 (fun b o _ h1 _ q => hk4 b o h1 q) fun b o h1 _ q => ⟨o.slots, hk4 b o h1 q⟩
  obtain ⟨oe, te, hoe, hce, hde⟩ := x4.e_
  refine wpAny_handleBy_builtin (X := "ValueError") (T := "ValueError") (b := true) isSub_VB isSub_VT isSub_VV (hev h4 _ _ K4 ⟨rfl, ⟨oe, hoe, hce⟩, ?_⟩)
  rw [if_pos rfl]
  refine sf x4 fun h5 x5 hk5 => ?_
  have K5 : Keep3 h₀ L' L m ps h5 := K1.go Z K4 hT3 hT3 (fun b o _ h1 _ q => hk5 b o h1 q) fun b o h1 _ q => ⟨o.slots, hk5 b o h1 q⟩
  refine hbody h5 T3 K5 x5 ?_ (fun q => ?_) fun q => ?_
  · cases q : h₀.get? e with
    | none => rfl
    | some o => exact absurd rfl (ne e o (K2.kb _ _ q)).1
  · obtain ⟨o, _, _, ho, _⟩ := K2.ns
    rw [← q, he] at ho; cases ho
  · have := K2.t
    rw [← q, he] at this; cases this
local macro_rules | `(tactic| walk_at "exec Try") => `(tactic| (refine' wpAny_Try_except ?_))
local macro_rules | `(tactic| walk_at "call ref") => `(tactic| ((with_reducible show wpAny _ _ (call (Value.ref _) ([] ++ [])) _ _ _); k_dflt (refine' make_MRA ?z1 ?z2 ?z3 ?z4 ?_; (case z1 => assumption); (case z2 => assumption); (case z3 => assumption); (case z4 => (show _ + 1 + 3 < recursionLimit; omega))); intro x' dx' g1' g2' a1' a2' a3' n' h' tk' F' N' l1' l2'))
theorem refused {h₀ : Heap} {L : Addr} {m : Str → Option Value} {news : Led} {ps : Array Value} {lawEnv : Env} {R : Result → Shared → Prop} (E0 : Env0 w p loose mg mb bm ob h₀) (F : Fr h₀ L s.heap m) (N : News h₀ L s.heap news) (h194 : (194, tableObj ps) ∈ news)
    (hh : A.handled = none) (hroom : A.depth + 8 < recursionLimit) (hef : lawEnv.frame = some L) (hek : lawEnv.scope.kind = .function) (hfr : A.frames = some [lawEnv]) (hb : AllBare s.gens)
    (hR : ∀ s', (∀ b o, h₀.get? b = some o → s'.heap.get? b = some o) → s'.heap.get? 194 = some (tableObj ps) → AllBare s'.gens → s'.os = s.os → R (.ok (.ret (.bool true))) s') :
    codeAny (model prog w) A (.call (.ref 228) ⟨[], []⟩) R s := by
  have he : PySem.Challenge.rw_fq5033_01.row.prog = PySem.Challenge.rw_fq5033_01.row.prog ∧ (hd.heap_39 w.params).In h₀ := ⟨rfl, E0.k⟩
  revert he; k_fill; intro he
  refine enterI E0 F N (by k_is) (by k_is) (by omega) (BindsTo.of_eq rfl) rfl rfl (fun _ => rfl) ?_ rfl rfl rfl
  intro oL L' h₁ tk hoL hL F1' N1'
  have X := E0.k
  have T := E0.t
  have M := E0.b
  have F1 : Fr h₀ L' h₁ (fun _ => none) := F1'
  have N1 : News h₀ L' h₁ [(L, oL), (194, tableObj ps)] := fun q hq => N1' q (by
    rcases List.mem_cons.mp hq with rfl | hq
    · exact .head _
    · rw [List.mem_singleton.mp hq]; exact .tail _ h194)
  clear F1' N1'
  k_steps
  rename_i P dx g1 g2 a1 a2 a3 n h2 tk2 F2 N2 l1 l2
  have hA1 : (A.deeper (refEnv L')).frames = some [refEnv L', lawEnv] := Around.frames_deeper hfr
  have hoLd : ∀ vs, oL.data ≠ .fields vs := by
    obtain ⟨o, es, ep, ho, hd, _⟩ := F.ns
    have e : some o = some oL := ho.symm.trans hoL
    cases e
    intro vs q
    rw [hd] at q; cases q
  have Z : Apart3 h₀ L' L := ⟨Heap.get?_none_of_le F2.above, Heap.get?_none_of_le F.above, (N1 (194, tableObj ps) (.tail _ (.head _))).2.1, (N _ h194).2.1⟩
  have K2 : Keep3 h₀ L' L (fun _ => none) ps h2 := ⟨F2.keep, F2.ns, ⟨oL, (N2 _ (.tail _ (.tail _ (.head _)))).1, hoLd⟩, (N2 _ (.tail _ (.tail _ (.tail _ (.head _))))).1⟩
  refine wpAny_call (kco_code (X.keeps F2.keep) (InstAt.of_news N2 (.head _) (.tail _ (.head _))) rfl (by k_is) (by k_is) (by k_is) (callm0 (E0.keeps F2.keep) hh (by show _ + 1 + 6 < _; omega) hA1 (K2.ff hef hek) hb ?_))
  intro s' e T1 c hc x he1 hT1 hk hsl hg' ho'
  subst hc
  dsimp only
  refine lands (lawEnv := lawEnv) (s₂ := { s with heap := h2, toks := tk2 }) hef hek hA1 Z K2 x he1 hT1 hk hsl ?_ ?_
  · intro h1' Q' E' K1 hq
    have F' : Fr h₀ L' h1' (fun _ => none) := ⟨K1.ns, K1.kb, F2.above⟩
    k_steps
    exact hq
  intro h5 T5 K5 x5 he0 heL he194
  obtain ⟨oe, te, hoe, hce, hde⟩ := x5.e_
  have F5 : Fr h₀ L' h5 (fun _ => none) := ⟨K5.ns, K5.kb, F2.above⟩
  obtain ⟨oL5, hoL5, hdL5⟩ := K5.l
  have hLL : L ≠ L' := (N1 (L, oL) (.head _)).2.1
  have h1940 : h₀.get? 194 = none := (N1 (194, tableObj ps) (.tail _ (.head _))).2.2
  have N5 : News h₀ L' h5 [(e, oe), (L, oL5), (194, tableObj ps)] := fun q hq => by
    rcases List.mem_cons.mp hq with rfl | hq
    · exact ⟨hoe, heL, he0⟩
    · rcases List.mem_cons.mp hq with rfl | hq
      · exact ⟨hoL5, hLL, Z.b⟩
      · rw [List.mem_singleton.mp hq]
        exact ⟨K5.t, Z.c, h1940⟩
  clear F2 N2 F1 N1 l1 l2
  k_steps
  rename_i P2 dx2 k1 k2 k3 k4 k5 k6 h6 tk6 F6 N6 l6 l7
  have K6 : Keep3 h₀ L' L (fun _ => none) ps h6 := ⟨F6.keep, F6.ns, ⟨oL5, (N6 _ (.tail _ (.tail _ (.tail _ (.head _))))).1, hdL5⟩, (N6 _ (.tail _ (.tail _ (.tail _ (.tail _ (.head _)))))).1⟩
  refine wpAny_call (maxi0 (E0.keeps F6.keep) (.inr ⟨e, oe, _, rfl, (N6 _ (.tail _ (.tail _ (.head _)))).1, hde, rfl⟩) (by show _ + 1 + 6 < _; omega) hA1 (K6.ff hef hek) hg' ?_)
  intro s'' e2 T6 c2 hc2 x6 he2 hT6 hk6 hsl6 hg6 ho6
  dsimp only
  refine lands (A := (A.deeper (refEnv L')).mark (some (.ref e))) (lawEnv := lawEnv) (s₂ := Shared.mk h6 s'.gens s'.drawn tk6 s'.os) hef hek hA1 Z K6 x6 he2 hT6 hk6 hsl6 ?_ ?_
  · intro h1' Q' E' K1 hq
    have F' : Fr h₀ L' h1' (fun _ => none) := ⟨K1.ns, K1.kb, F6.above⟩
    k_steps
    exact hq
  intro h7 T7 K7 x7 he7 heL7 he1947
  have F7 : Fr h₀ L' h7 (fun _ => none) := ⟨K7.ns, K7.kb, F6.above⟩
  clear F6 N6
  k_steps
  exact hR _ K7.kb K7.t hg6 (ho6.trans ho')
end Mine
end

section
open PySem PySem.W PySem.W.X PyProof.Rows PySem.Calls PySem.Spec
set_option Elab.async false
set_option maxRecDepth 100000
set_option maxHeartbeats 8000000
set_option linter.all false
namespace Mine
open PyProof.Rows.LCg (NsObj lst lst_snoc ns_obj)
variable {w : World} {A : Around} {E : Value → Shared → Prop} {s : Shared}
theorem ne_strs {l b : Addr} {ys vb : List Value} {ns : List Str} {Q : Value → Shared → Prop} (hl : s.heap.IsList l ys.toArray) (hb : s.heap.IsList b vb.toArray) (a1 : StrsAre ys ns) (a2 : StrsAre vb ns) (hu : A.units < cLine) (h : Q (.bool false) s) :
    wpAny (model prog w) A (compareOp .NotEq (.ref l) (.ref b)) Q E s := by
  have e1 := StrsAre.length a1
  have e2 := StrsAre.length a2
  refine cmp_ofNotEq (PySem.SeqAt.RcNeAt.lists (e := fun _ => true) hl hb (by simp; omega) hu (fun j h1 h2 => ?_) prog w E Q ?_)
  · obtain ⟨t, x⟩ := strs_at a1 j ys[j] (by simp at h1 ⊢)
    obtain ⟨u, y⟩ := strs_at a2 j vb[j] (by simp at h2 ⊢)
    simp only [List.getElem_toArray, x, y]
    have := PySem.SeqAt.EqAt.str_str (A := A.in1) (s := s) (ns.getD j Str.empty) t (ns.getD j Str.empty) u
    rwa [beq_self_eq_true] at this
  · have e : (List.range ys.toArray.size).all (fun _ => true) = true := List.all_eq_true.mpr fun _ _ => rfl
    rw [e]; exact h
theorem strs_append1 : ∀ {vs : List Value} {ns : List Str} (x : Str) (t : Tok), StrsAre vs ns → StrsAre (vs ++ [.str x t]) (ns ++ [x])
  | _, _, x, t, .nil => .cons x t .nil
  | _, _, x, t, .cons y u h => .cons y u (strs_append1 x t h)
theorem two_front {m3 : Str → Option Value} {k1 k2 : Str} {a b : Value} (ha : m3 k1 = some a) (hb : m3 k2 = some b) : m3 = (fun y => if y = k1 then some a else if y = k2 then some b else m3 y) := by
  funext y
  by_cases h1 : y = k1
  · rw [h1, if_pos rfl]; exact ha
  · rw [if_neg h1]
    by_cases h2 : y = k2
    · rw [h2, if_pos rfl]; exact hb
    · rw [if_neg h2]
theorem fr_front {h₀ h : Heap} {L : Addr} {m3 : Str → Option Value} {k1 k2 : Str} {a b : Value} (F : Fr h₀ L h m3) (ha : m3 k1 = some a) (hb : m3 k2 = some b) : Fr h₀ L h (fun y => if y = k1 then some a else if y = k2 then some b else m3 y) :=
  two_front ha hb ▸ F
theorem names_one {vs : List Value} {ns : List Str} (h : Names vs ns) : ∃ v t r ws, vs = .str v t :: ws ∧ ns = v :: r ∧ Names [.str v t] [v] := by
  obtain ⟨hia, hn0, hn4, ha⟩ := h
  cases hia with
  | nil => simp at hn0
  | cons v t hr => exact ⟨v, t, _, _, rfl, rfl, .cons v t .nil, by simp, by simp, fun x hx => ha x (by rw [List.mem_singleton.mp hx]; exact .head _)⟩
end Mine
end

section
open PySem PySem.W PySem.W.X PyProof.Rows PySem.Calls PySem.Spec
set_option Elab.async false
set_option maxRecDepth 100000
set_option maxHeartbeats 8000000
set_option linter.all false
namespace Mine
variable {w : World} {p : Program} {loose : List Str} {mg mb : Str → Option Value} {bm : Addr} {ob : Obj} {s : Shared} {A : Around}
section
variable {E : Value → Shared → Prop} {h₀ : Heap} {L : Addr} {m : Str → Option Value} {news : List (Addr × Obj)} {g : Obj → List (Addr × Obj)} {ps : Array Value} {due most : Nat}
theorem CallStepD {q : Addr} {vs : List Value} {ns : List Str} {Q : Value → Shared → Prop} (hdue : RatedIs ns (ns.map codeS) due) (E0 : Env0 w p loose mg mb bm ob h₀) (F : Fr h₀ L s.heap m) (N : News h₀ L s.heap news) (U : UpdF 194 (tableObj ps) news g) (ht : TriplesOk ps.toList) (hg : AllBare s.gens)
    (I : MraAt s.heap q) (hi : Names vs ns) (hh : A.handled = none) (hroom : A.depth + 6 < recursionLimit)
    (h : ∀ t s' ps', TriplesOk ps'.toList → Fr h₀ L s'.heap m → News h₀ L s'.heap (g (tableObj ps')) → AllBare s'.gens → s'.os = s.os → Q (.int (due : Nat) t) s') : wpAny (model prog w) A (call (.ref q) vs) Q E s :=
  CallStep E0 F N U ht hg I hi hh hroom fun v t s' ps' hv a b c d e => due_rated hv hdue ▸ h t s' ps' a b c d e
theorem SimStepD {q f : Addr} {vs : List Value} {ns : List Str} {Q : Value → Shared → Prop} (hdue : RatedIs ns (ns.map codeS) due) (E0 : Env0 w p loose mg mb bm ob h₀) (F : Fr h₀ L s.heap m) (N : News h₀ L s.heap news) (U : UpdF 194 (tableObj ps) news g) (ht : TriplesOk ps.toList) (hg : AllBare s.gens)
    (hq : (q, methodObj (.ref 168) (.ref f)) ∈ news) (I : MraAt s.heap f) (hi : Names vs ns) (hh : A.handled = none) (hroom : A.depth + 7 < recursionLimit)
    (h : ∀ t s' ps', TriplesOk ps'.toList → Fr h₀ L s'.heap m → News h₀ L s'.heap (g (tableObj ps')) → AllBare s'.gens → s'.os = s.os → Q (.int (due : Nat) t) s') : wpAny (model prog w) A (call (.ref q) vs) Q E s :=
  SimStep E0 F N U ht hg hq I hi hh hroom fun v t s' ps' hv a b c d e => due_rated hv hdue ▸ h t s' ps' a b c d e
theorem MaxStepD {q f : Addr} {vs : List Value} {ns : List Str} {Q : Value → Shared → Prop} (hmost : IsMax most ((codesOf ns).map (·.length))) (E0 : Env0 w p loose mg mb bm ob h₀) (F : Fr h₀ L s.heap m) (N : News h₀ L s.heap news) (U : UpdF 194 (tableObj ps) news g) (ht : TriplesOk ps.toList) (hg : AllBare s.gens)
    (hq : (q, methodObj (.ref 192) (.ref f)) ∈ news) (I : MraAt s.heap f) (hi : Names vs ns) (hh : A.handled = none) (hroom : A.depth + 6 < recursionLimit)
    (h : ∀ t s' ps', TriplesOk ps'.toList → Fr h₀ L s'.heap m → News h₀ L s'.heap (g (tableObj ps')) → AllBare s'.gens → s'.os = s.os → Q (.int (most : Nat) t) s') : wpAny (model prog w) A (call (.ref q) vs) Q E s :=
  MaxStep E0 F N U ht hg hq I hi hh hroom fun v t s' ps' hv a b c d e => (IsMax.unique hv hmost) ▸ h t s' ps' a b c d e
theorem DistStepD {q f : Addr} {vs : List Value} {ns : List Str} {Q : Value → Shared → Prop} (hmost : IsMax most ((codesOf ns).map (·.length))) (hdue : RatedIs ns (ns.map codeS) due) (E0 : Env0 w p loose mg mb bm ob h₀) (F : Fr h₀ L s.heap m) (N : News h₀ L s.heap news) (U : UpdF 194 (tableObj ps) news g) (ht : TriplesOk ps.toList) (hg : AllBare s.gens)
    (hq : (q, methodObj (.ref 161) (.ref f)) ∈ news) (I : MraAt s.heap f) (hi : Names vs ns) (hh : A.handled = none) (hroom : A.depth + 8 < recursionLimit)
    (h : ∀ t s' ps', TriplesOk ps'.toList → Fr h₀ L s'.heap m → News h₀ L s'.heap (g (tableObj ps')) → AllBare s'.gens → s'.os = s.os → Q (.int ((most : Nat) - (due : Nat) : Int) t) s') : wpAny (model prog w) A (call (.ref q) vs) Q E s :=
  DistStep E0 F N U ht hg hq I hi hh hroom fun M r t s' ps' hm hv a b c d e => by
    obtain rfl := IsMax.unique hm hmost
    obtain rfl := due_rated hv hdue
    exact h t s' ps' a b c d e
end
end Mine
end

section
local macro_rules | `(tactic| walk_at "pad") => `(tactic| skip)
local macro_rules | `(tactic| walk_at "pad") => `(tactic| skip)
local macro_rules | `(tactic| walk_at "pad") => `(tactic| skip)
open PySem PySem.W PySem.W.X PyProof.Rows PySem.Calls PySem.Spec
set_option Elab.async false
set_option maxRecDepth 100000
set_option maxHeartbeats 8000000
set_option pp.deepTerms false
set_option pp.deepTerms.threshold 6
set_option pp.structureInstances false
set_option linter.all false
namespace Mine
open PyProof.Rows.LCg (NsObj lst lst_snoc ns_obj)
variable {w : World} {p : Program} {loose : List Str} {mg mb : Str → Option Value} {bm : Addr} {ob : Obj} {s : Shared} {A : Around}
local macro_rules | `(tactic| walk_at "exec Assign cons ListComp") => `(tactic| ((with_reducible rename Fr _ _ _ _ => kF); k_dflt (refine' assign_coreF kF ?z1 ?z2 ?z3 ?z4 ?z5 ?z6 ?z7 ?_ ?z8; (case z1 => first | exact rfl | with_unfolding_all rfl); (case z2 => first | exact rfl | with_unfolding_all rfl); (case z3 => decide); (case z4 => exact rfl); (case z5 => decide); (case z6 => exact rfl); (case z7 => exact rfl); (case z8 => (intro _; first | exact rfl | with_unfolding_all rfl)))))
local macro_rules | `(tactic| walk_at "eval ListComp") => `(tactic| ((with_reducible rename Fr _ _ _ _ => kF); k_dflt (refine' comp_coreF kF ?z1 ?z2 ?z3 ?z4 ?_ ?z5; (case z1 => first | exact rfl | with_unfolding_all rfl); (case z2 => decide); (case z3 => exact rfl); (case z4 => decide); (case z5 => (intro _; first | exact rfl | with_unfolding_all rfl)))))
local macro_rules | `(tactic| walk_at "eval Name") => `(tactic| ((with_reducible show wpAny _ _ (eval (Expr.Name _ _) (compEnvC _ _ _ _)) _ _ _); k_dflt (first
  | (refine' ce_own ?N ?m ?C ?x ?_ ?a ?b; (case a => rfl); (case b => rfl); (case N => assumption); (case m => k_mem); (case C => assumption); (case x => assumption))
  | (refine' ce_cell ?N ?c ?m ?d ?_ ?a ?b; (case a => rfl); (case b => rfl); (case N => assumption); (case c => rfl); (case m => k_mem); (case d => assumption))
  | (refine' ce_global ?F ?X ?T ?e ?_ ?g ?a ?b; (case a => rfl); (case b => rfl); (case g => rfl); (case F => assumption); (case X => assumption); (case T => assumption); (case e => k_is))
  | (refine' ce_built ?F ?X ?T ?e ?v ?n ?_ ?g ?g2 ?a ?b; (case a => rfl); (case b => rfl); (case g => rfl); (case g2 => rfl); (case F => assumption); (case X => assumption); (case T => assumption); (case e => k_is); (case v => boot_by_name); (case n => decide)))))
local macro_rules | `(tactic| walk_at "call ref") => `(tactic| (refine' LawStep ?E0 ?F ?N ?U ?ht ?hg ?hx ?hh ?room ?_; (case E0 => assumption); (case F => assumption); (case N => assumption); (case U => assumption); (case ht => assumption); (case hg => assumption); (case hx => assumption); (case hh => assumption); (case room => (show A.depth + 1 < recursionLimit; omega)); intro v' t' s' ps' hv' ht' F' N' g' o'; subst hv'))
local macro_rules | `(tactic| walk_at "call ref") => `(tactic| (refine' RatedStep ?z1 ?z2 ?z3 ?z4 ?z5 ?z6 ?zp ?zq ?z7 ?z8 ?z9 ?za ?zb ?zc ?zd ?ze ?_; (case z1 => assumption); (case z2 => assumption); (case z3 => assumption); (case z4 => k_updF); (case z5 => assumption); (case z6 => assumption); (case zp => k_mem); (case zq => k_mem); (case z7 => assumption); (case z8 => assumption); (case z9 => assumption); (case za => assumption); (case zb => assumption); (case zc => assumption); (case zd => (show _ + 3 + 3 < cLine; omega)); (case ze => (show _ + 1 + 3 < recursionLimit; omega)); intro v' t' s' ps' hv' ht' F' N' g' o'))
local macro_rules | `(tactic| walk_at "call builtin:max") => `(tactic| (refine' max_led ?F ?N ?hh ?m ?i ?n ?_; (case F => assumption); (case N => assumption); (case hh => assumption); (case m => k_mem); (case i => assumption); (case n => assumption); intro h' M' t' tk' F' N' m1))
local macro_rules | `(tactic| walk_at "eval Call Attribute") => `(tactic| ((with_reducible show wpAny _ _ (eval (Expr.Call (Expr.Attribute _ _ _) [Expr.Starred _ _] [] _) _) _ _ _); refine methodCall_S ?_))
local macro_rules | `(tactic| walk_at "StarOf") => `(tactic| (refine' star_lob ?F ?N ?m ?z ?_; (case F => assumption); (case N => assumption); (case m => k_mem); (case z => assumption); intro h' F' N'))
local macro_rules | `(tactic| walk_at "callWith ref") => `(tactic| ((with_reducible show wpAny _ _ (callWith _ (Value.ref _) _ (backTo _ (starEach [Expr.Starred _ _] _)) []) _ _ _); k_dflt (first
  | (refine' star_meth ?z1 ?z2 ?z3 ?z4 ?_; (case z1 => k_asm); (case z2 => k_asm); (case z3 => k_mem); (case z4 => k_is))
  | (refine' star_inst ?z1 ?z2 ?z3 ?z4 ?_; (case z1 => k_in); (case z2 => k_inst); (case z3 => rfl); (case z4 => k_is)))))
local macro_rules | `(tactic| walk_at "call ref") => `(tactic| (refine' CallStep ?z1 ?z2 ?z3 ?z4 ?z5 ?z6 ?z7 ?z8 ?z9 ?za ?_; (case z1 => assumption); (case z2 => assumption); (case z3 => assumption); (case z4 => k_updF); (case z5 => assumption); (case z6 => assumption); (case z7 => exact MraAt.of (by k_inst)); (case z8 => assumption); (case z9 => assumption); (case za => (show _ + 1 + 6 < recursionLimit; omega)); intro v' t' s' ps' hv' ht' F' N' g' o'))
local macro_rules | `(tactic| walk_at "call refX") => `(tactic| (refine' CallStepD ?y1 ?z1 ?z2 ?z3 ?z4 ?z5 ?z6  ?z7 ?z8 ?z9 ?za ?_; (case y1 => assumption); (case z1 => assumption); (case z2 => assumption); (case z3 => assumption); (case z4 => k_updF); (case z5 => assumption); (case z6 => assumption); (case z7 => exact MraAt.of (by k_inst)); (case z8 => assumption); (case z9 => assumption); (case za => (show _ + 1 + 6 < recursionLimit; omega)); intro t' s' ps' ht' F' N' g' o'))
local macro_rules | `(tactic| walk_at "call ref") => `(tactic| (refine' MaxStepD ?y1 ?z1 ?z2 ?z3 ?z4 ?z5 ?z6 ?zb ?z7 ?z8 ?z9 ?za ?_; (case y1 => assumption); (case z1 => assumption); (case z2 => assumption); (case z3 => assumption); (case z4 => k_updF); (case z5 => assumption); (case z6 => assumption); (case zb => k_mem); (case z7 => exact MraAt.of (by k_inst)); (case z8 => assumption); (case z9 => assumption); (case za => (show _ + 1 + 6 < recursionLimit; omega)); intro t' s' ps' ht' F' N' g' o'))
local macro_rules | `(tactic| walk_at "call ref") => `(tactic| (refine' SimStepD ?y1 ?z1 ?z2 ?z3 ?z4 ?z5 ?z6 ?zb ?z7 ?z8 ?z9 ?za ?_; (case y1 => assumption); (case z1 => assumption); (case z2 => assumption); (case z3 => assumption); (case z4 => k_updF); (case z5 => assumption); (case z6 => assumption); (case zb => k_mem); (case z7 => exact MraAt.of (by k_inst)); (case z8 => assumption); (case z9 => assumption); (case za => (show _ + 1 + 7 < recursionLimit; omega)); intro t' s' ps' ht' F' N' g' o'))
local macro_rules | `(tactic| walk_at "call ref") => `(tactic| (refine' DistStepD ?y1 ?y2 ?z1 ?z2 ?z3 ?z4 ?z5 ?z6 ?zb ?z7 ?z8 ?z9 ?za ?_; (case y1 => assumption); (case y2 => assumption); (case z1 => assumption); (case z2 => assumption); (case z3 => assumption); (case z4 => k_updF); (case z5 => assumption); (case z6 => assumption); (case zb => k_mem); (case z7 => exact MraAt.of (by k_inst)); (case z8 => assumption); (case z9 => assumption); (case za => (show _ + 1 + 8 < recursionLimit; omega)); intro t' s' ps' ht' F' N' g' o'))
local macro_rules | `(tactic| walk_at "call ref") => `(tactic| ((with_reducible show wpAny _ _ (call (Value.ref 207) ([] ++ [])) _ _ _); k_dflt (refine' make_MRA ?z1 ?z2 ?z3 ?z4 ?_; (case z1 => assumption); (case z2 => assumption); (case z3 => assumption); (case z4 => (show _ + 1 + 3 < recursionLimit; omega))); intro x' dx' g1' g2' a1' a2' a3' n' h' tk' F' N' l1' l2'; k_lt l1'; k_lt2 l2'))
local macro_rules | `(tactic| walk_at "call ref") => `(tactic| (refine' CalcStep ?E0 ?F ?N ?U ?ht ?hg ?hx ?hh ?room ?_; (case E0 => assumption); (case F => assumption); (case N => assumption); (case U => assumption); (case ht => assumption); (case hg => assumption); (case hx => assumption); (case hh => assumption); (case room => (show A.depth + 1 + 3 < recursionLimit; omega)); intro v' t' s' ps' hv' ht' F' N' g' o'; subst hv'))
local macro_rules | `(tactic| walk_at "compareOp NotEq ref ref") => `(tactic| ((with_reducible show wpAny _ _ (compareOp CmpOp.NotEq (Value.ref _) (Value.ref _)) _ _ _); refine Stopped.mk ?_))
local macro_rules | `(tactic| walk_at "subscriptTail") => `(tactic| ((with_reducible show wpAny _ _ (subscriptTail _ _ (Value.ref _) (Value.int _ _)) _ _ _); (with_unfolding_all refine' item0_list ?k1 ?k4 ?_ ?k6; (case k1 => k_is); (case k4 => assumption); (case k6 => with_unfolding_all rfl))))
local macro_rules | `(tactic| walk_at "call ref") => `(tactic| ((with_reducible show wpAny _ _ (call (Value.ref 228) _) _ _ _); refine Stopped.mk ?_))
theorem law11 {body : List Stmt} {scope : Scope} {name qual : Str} {params : Arguments} {dV kV doc pm cdv ct oc' : Value} {an od' : Option Addr} {osl : Array (Option Value)}
   (hfn : (hd.heap_39 w.params).lookup 233 = some ⟨oc', od', .func (fnOf name qual params body scope dV kV doc pm an cdv ct), osl⟩)
   {fa : Addr} {cd : Value} {h₀ : Heap} {L Nm Cd P dx : Addr} {m : Str → Option Value} {oc : Obj} {vs vb : List Value} {c cb : Nat} {ns : List Str} {ps : Array Value} {g1 g2 : Int} {a1 a2 a3 : Tok} {n : Nat}
   (hh : A.handled = none) (hroom : A.depth + 10 < recursionLimit) (hu : A.units + 10 < cLine) (hfr : A.frames = some [])
   (he : PySem.Challenge.rw_fq5033_01.row.prog = PySem.Challenge.rw_fq5033_01.row.prog ∧ (hd.heap_39 w.params).In s.heap)
   (E0 : Env0 w p loose mg mb bm ob h₀) (F : Fr h₀ L s.heap (fun y => if y = Str.ofString "codes" then some (.ref Cd) else if y = Str.ofString "names" then some (.ref Nm) else m y))
   (N : News h₀ L s.heap [(P, instObj 207 dx), (dx, ownD g1 g2 a1 a2 a3 n), (Cd, lob vb cb), (Nm, lob vs c), (L + 1, oc), (194, tableObj ps)])
   (hP1 : @Ne Nat P dx) (hP2 : @Ne Nat P Cd) (hP3 : @Ne Nat P Nm) (hP4 : @Ne Nat P (L + 1)) (hP5 : @Ne Nat P 194) (hD2 : @Ne Nat dx Cd) (hD3 : @Ne Nat dx Nm) (hD4 : @Ne Nat dx (L + 1)) (hD5 : @Ne Nat dx 194)
   (hC1 : @Ne Nat Cd Nm) (hC2 : @Ne Nat Cd (L + 1)) (hC3 : @Ne Nat Cd 194) (hN1 : @Ne Nat Nm (L + 1)) (hN2 : @Ne Nat Nm 194) (hN3 : @Ne Nat (L + 1) 194) (d1 : oc.data = .cell (some (.ref P))) (hg : AllBare s.gens) (ht : TriplesOk ps.toList) (hNs : Names vs ns) (hib : StrsAre vb (ns.map codeS)) :
   wpAny (model prog w) (A.deeper (envOfC qual scope L fa cd)) (execs (body.drop 11) (envOfC qual scope L fa cd))
     (LawEnd h₀ s.os) (fun _ _ => False) s := by
  have e := (show (hd.heap_39 w.params).lookup 233 = some _ from rfl).symm.trans hfn
  injection e with e
  injection e with e1 e2 e3 e4
  injection e3 with e3
  unfold fnOf at e3
  injection e3 with k1 k2 k3 k4 k5 k6 k7 k8 k9 k10 k11 k12 k13
  injection k4 with k4
  subst k2 k5 k4
  clear hfn e1 e2 e4 k1 k3 k6 k7 k8 k9 k10 k11 k12
  dsimp only [List.drop]
  revert he; k_fill; intro he
  have X := E0.k
  have T := E0.t
  have M := E0.b
  have hia := hNs.are
  have hvl : vs.length = ns.length := StrsAre.length hia
  have hn4 := hNs.four
  have hn0 := hNs.pos
  k_steps
  rename Fr _ _ _ _ => F
  refine wpAny_pyIter_list (items := vs.toArray) ⟨_, (N _ (.tail _ (.tail _ (.tail _ (.head _))))).1, rfl, _, rfl⟩ ?_
  have k0 : OK h₀ L _ _ s.os s := ⟨F, N, hg, rfl⟩
  have k1 := k0.push (o := { cls := .type "list_iterator", data := .fields #[.ref Nm, .int 0 0] })
  have hNI : Nm ≠ s.heap.objs.size := Nat.ne_of_lt (Heap.lt_size (N _ (.tail _ (.tail _ (.tail _ (.head _))))).1)
  refine comp_feed (st₀ := [(s.heap.objs.size, { cls := .type "list_iterator", data := .fields #[.ref Nm, .int 0 0] })]) (led₀ := [(P, instObj 207 dx), (dx, ownD g1 g2 a1 a2 a3 n), (Cd, lob vb cb), (Nm, lob vs c), (L + 1, oc), (194, tableObj ps)])
    (fun i ys led => ∃ ps, led = [(P, instObj 207 dx), (dx, ownD g1 g2 a1 a2 a3 n), (Cd, lob vb cb), (Nm, lob vs c), (L + 1, oc), (194, tableObj ps)] ∧ TriplesOk ps.toList ∧ StrsAre ys ((ns.take i).map codeS))
    rfl rfl (feed_list (A := A.deeper _) (ax := Nm) (its := vs.toArray) hh hNI) ?_ k1 ⟨_, rfl, fun h e => ⟨_, e, rfl, rfl⟩⟩ (.inr ⟨_, .tail _ (.tail _ (.tail _ (.head _))), rfl, _, rfl⟩) ?_ ⟨ps, rfl, ht, .nil⟩ ?_ ?_ ?_
  · rw [sizeLine_eq]; show vs.toArray.size ≤ _; simp; omega
  · intro p hp q hq
    rw [List.mem_singleton.mp hp]
    exact Nat.ne_of_lt (k0.lt hq)
  · rintro i ys led ⟨ps1, rfl, _, hI⟩
    rw [StrsAre.length hI]; simp; omega
  · rintro i v ex st ys led C Dl oC mC s₁ E hi1 ⟨hv, rfl⟩ ⟨ps1, rfl, ht1, hI⟩ hC hx k hCD ap2 ap hS
    obtain ⟨t, rfl⟩ := strs_at hia i v (by simpa using hv)
    have hil : i < ns.length := by simp at hi1; omega
    have hxx : ns.getD i Str.empty ∈ ns := by rw [List.getD_eq_getElem?_getD, List.getElem?_eq_getElem hil]; exact List.getElem_mem hil
    have hlast : (ns.take (i + 1)).map codeS = (ns.take i).map codeS ++ [codeS (ns.getD i Str.empty)] := by
      rw [List.take_add_one, List.map_append, List.getElem?_eq_getElem hil]
      simp [List.getD_eq_getElem?_getD, hil]
    generalize hxd : ns.getD i Str.empty = x at hx hxx hlast
    have hxa := hNs.asc x hxx
    have F2 := k.F
    have N2 : News h₀ L s₁.heap ((C, oC) :: (Dl, lst ys) :: (P, instObj 207 dx) :: (dx, ownD g1 g2 a1 a2 a3 n) :: (Cd, lob vb cb) :: (Nm, lob vs c) :: (L + 1, oc) :: (194, tableObj ps1) :: st) := fun q hq => k.N q (by
      simp only [List.mem_cons, List.mem_append, List.nil_append] at hq ⊢
      rcases hq with h | h | h | h | h | h | h | h | h <;> simp [h])
    have hb2 := k.g
    have U2 : UpdF 194 (tableObj ps1) ((C, oC) :: (Dl, lst ys) :: (P, instObj 207 dx) :: (dx, ownD g1 g2 a1 a2 a3 n) :: (Cd, lob vb cb) :: (Nm, lob vs c) :: (L + 1, oc) :: (194, tableObj ps1) :: st) _ := .tail ?a1 (.tail ?a2 (.tail hP5 (.tail hD5 (.tail hC3 (.tail hN2 (.tail hN3 (.head ?a7)))))))
    case a1 => exact Ne.symm (ap2 (194, tableObj ps1) (by simp)).1
    case a2 => exact Ne.symm (ap2 (194, tableObj ps1) (by simp)).2
    case a7 =>
      intro q hq
      exact Ne.symm (ap q hq (194, tableObj ps1) (by simp))
    clear N k0 k1 F
    k_steps
    rename Fr _ _ _ _ => F9
    rename News _ _ _ _ => N9
    rename (AllBare _) => g9
    rename (_ = s₁.os) => o9
    rename (TriplesOk _) => t9
    refine EltEnd.intro [(P, instObj 207 dx), (dx, ownD g1 g2 a1 a2 a3 n), (Cd, lob vb cb), (Nm, lob vs c), (L + 1, oc), (194, tableObj _)] F9 N9 g9 (o9.trans k.o) (fun q hq => ?_) (fun q hq => ?_) (fun p hp q hq => ?_) (.inr ⟨_, .tail _ (.tail _ (.tail _ (.head _))), rfl, _, rfl⟩) ⟨_, rfl, t9, by rw [hlast]; exact strs_append1 _ _ hI⟩
    · simp only [List.mem_cons, List.mem_append, List.not_mem_nil, or_false] at hq ⊢
      rcases hq with h | h | h | h | h | h | h | h | h <;> simp [h]
    · simp only [List.mem_cons, List.not_mem_nil, or_false] at hq
      rcases hq with rfl | rfl | rfl | rfl | rfl | rfl
      · exact ap2 (P, instObj 207 dx) (by simp)
      · exact ap2 (dx, ownD g1 g2 a1 a2 a3 n) (by simp)
      · exact ap2 (Cd, lob vb cb) (by simp)
      · exact ap2 (Nm, lob vs c) (by simp)
      · exact ap2 (L + 1, oc) (by simp)
      · exact ap2 (194, tableObj ps1) (by simp)
    · simp only [List.mem_cons, List.not_mem_nil, or_false] at hq
      rcases hq with rfl | rfl | rfl | rfl | rfl | rfl
      · exact ap p hp (P, instObj 207 dx) (by simp)
      · exact ap p hp (dx, ownD g1 g2 a1 a2 a3 n) (by simp)
      · exact ap p hp (Cd, lob vb cb) (by simp)
      · exact ap p hp (Nm, lob vs c) (by simp)
      · exact ap p hp (L + 1, oc) (by simp)
      · exact ap p hp (194, tableObj ps1) (by simp)
  · rintro ys led ⟨ps2, rfl, ht2, hI⟩ Cn s₂ k offC
    have hic : StrsAre ys (ns.map codeS) := by
      rw [List.take_of_length_le (by simp; omega)] at hI; exact hI
    have F2 := k.F
    have N2 : News h₀ L s₂.heap [(Cn, lob ys ys.length), (P, instObj 207 dx), (dx, ownD g1 g2 a1 a2 a3 n), (Cd, lob vb cb), (Nm, lob vs c), (L + 1, oc), (194, tableObj ps2)] := k.N
    have hb2 := k.g
    have o2 := k.o
    clear N k0 k1 F
    k_steps
    unfold Stopped
    refine ne_strs (ys := ys) (vb := vb) ⟨_, (N2 _ (.head _)).1, rfl, _, rfl⟩ ⟨_, (N2 _ (.tail _ (.tail _ (.tail _ (.head _))))).1, rfl, _, rfl⟩ hic hib (by show _ + 3 < cLine; omega) ?_
    obtain ⟨x, tx, rs, ws, hvs, hns, hone⟩ := names_one hNs
    subst hvs hns
    have hdx : ∃ y ty us, vb = .str y ty :: us ∧ y = codeS x := by
      cases hib with
      | cons y ty hr => exact ⟨_, ty, _, rfl, rfl⟩
    obtain ⟨y, ty, us, hvb, hy⟩ := hdx
    subst hvb
    have hy6 : y.length ≤ 6 := by rw [hy]; exact code_len x
    have hCn : @Ne Nat Cn 194 := fun e => offC (194, tableObj ps2) (by simp) e.symm
    have hi0 : (Value.str x tx :: ws)[0]? = some (.str x tx) := rfl
    have hi1 : (Value.str y ty :: us)[0]? = some (.str y ty) := rfl
    k_steps
    · unfold Stopped
      rename Fr _ _ _ _ => F8
      rename News _ _ _ _ => N8
      rename (AllBare _) => g8
      rename (TriplesOk _) => t8
      rename (_ = Shared.os _) => o8
      refine wpAny_call (refused E0 F8 N8 (.tail _ (.tail _ (.tail _ (.tail _ (.tail _ (.tail _ (.head _))))))) hh (by show A.depth + 1 + 8 < _; omega) ?hef ?hek (Around.frames_deeper hfr) g8 ?_)
      case hef => rfl
      case hek => rfl
      intro s' hk h194 hg' ho'
      exact ⟨rfl, hk, ⟨_, h194, t8⟩, hg', ho'.trans (o8.trans o2)⟩
    · exfalso
      rename (@Ne Int _ _) => hbad
      rename IsDue _ _ => hd8
      exact hbad (by rw [due_one hd8, hy])
end Mine
end

section
local macro_rules | `(tactic| walk_at "pad") => `(tactic| skip)
local macro_rules | `(tactic| walk_at "pad") => `(tactic| skip)
local macro_rules | `(tactic| walk_at "pad") => `(tactic| skip)
local macro_rules | `(tactic| walk_at "pad") => `(tactic| skip)
local macro_rules | `(tactic| walk_at "pad") => `(tactic| skip)
local macro_rules | `(tactic| walk_at "pad") => `(tactic| skip)
local macro_rules | `(tactic| walk_at "pad") => `(tactic| skip)
local macro_rules | `(tactic| walk_at "pad") => `(tactic| skip)
local macro_rules | `(tactic| walk_at "pad") => `(tactic| skip)
local macro_rules | `(tactic| walk_at "pad") => `(tactic| skip)
local macro_rules | `(tactic| walk_at "pad") => `(tactic| skip)
local macro_rules | `(tactic| walk_at "pad") => `(tactic| skip)
local macro_rules | `(tactic| walk_at "pad") => `(tactic| skip)
local macro_rules | `(tactic| walk_at "pad") => `(tactic| skip)
local macro_rules | `(tactic| walk_at "pad") => `(tactic| skip)
local macro_rules | `(tactic| walk_at "pad") => `(tactic| skip)
local macro_rules | `(tactic| walk_at "pad") => `(tactic| skip)
local macro_rules | `(tactic| walk_at "pad") => `(tactic| skip)
local macro_rules | `(tactic| walk_at "pad") => `(tactic| skip)
local macro_rules | `(tactic| walk_at "pad") => `(tactic| skip)
local macro_rules | `(tactic| walk_at "pad") => `(tactic| skip)
local macro_rules | `(tactic| walk_at "pad") => `(tactic| skip)
local macro_rules | `(tactic| walk_at "pad") => `(tactic| skip)
open PySem PySem.W PySem.W.X PyProof.Rows PySem.Calls PySem.Spec
set_option Elab.async false
set_option maxRecDepth 100000
set_option maxHeartbeats 8000000
set_option pp.deepTerms false
set_option pp.deepTerms.threshold 6
set_option pp.structureInstances false
set_option linter.all false
namespace Mine
open PyProof.Rows.LCg (NsObj lst lst_snoc ns_obj)
variable {w : World} {p : Program} {loose : List Str} {mg mb : Str → Option Value} {bm : Addr} {ob : Obj} {s : Shared} {A : Around}
local macro_rules | `(tactic| walk_at "exec Assign cons ListComp") => `(tactic| ((with_reducible rename Fr _ _ _ _ => kF); k_dflt (refine' assign_coreF kF ?z1 ?z2 ?z3 ?z4 ?z5 ?z6 ?z7 ?_ ?z8; (case z1 => first | exact rfl | with_unfolding_all rfl); (case z2 => first | exact rfl | with_unfolding_all rfl); (case z3 => decide); (case z4 => exact rfl); (case z5 => decide); (case z6 => exact rfl); (case z7 => exact rfl); (case z8 => (intro _; first | exact rfl | with_unfolding_all rfl)))))
local macro_rules | `(tactic| walk_at "eval ListComp") => `(tactic| ((with_reducible rename Fr _ _ _ _ => kF); k_dflt (refine' comp_coreF kF ?z1 ?z2 ?z3 ?z4 ?_ ?z5; (case z1 => first | exact rfl | with_unfolding_all rfl); (case z2 => decide); (case z3 => exact rfl); (case z4 => decide); (case z5 => (intro _; first | exact rfl | with_unfolding_all rfl)))))
local macro_rules | `(tactic| walk_at "eval Name") => `(tactic| ((with_reducible show wpAny _ _ (eval (Expr.Name _ _) (compEnvC _ _ _ _)) _ _ _); k_dflt (first
  | (refine' ce_own ?N ?m ?C ?x ?_ ?a ?b; (case a => rfl); (case b => rfl); (case N => assumption); (case m => k_mem); (case C => assumption); (case x => assumption))
  | (refine' ce_cell ?N ?c ?m ?d ?_ ?a ?b; (case a => rfl); (case b => rfl); (case N => assumption); (case c => rfl); (case m => k_mem); (case d => assumption))
  | (refine' ce_global ?F ?X ?T ?e ?_ ?g ?a ?b; (case a => rfl); (case b => rfl); (case g => rfl); (case F => assumption); (case X => assumption); (case T => assumption); (case e => k_is))
  | (refine' ce_built ?F ?X ?T ?e ?v ?n ?_ ?g ?g2 ?a ?b; (case a => rfl); (case b => rfl); (case g => rfl); (case g2 => rfl); (case F => assumption); (case X => assumption); (case T => assumption); (case e => k_is); (case v => boot_by_name); (case n => decide)))))
local macro_rules | `(tactic| walk_at "call ref") => `(tactic| (refine' LawStep ?E0 ?F ?N ?U ?ht ?hg ?hx ?hh ?room ?_; (case E0 => assumption); (case F => assumption); (case N => assumption); (case U => assumption); (case ht => assumption); (case hg => assumption); (case hx => assumption); (case hh => assumption); (case room => (show A.depth + 1 < recursionLimit; omega)); intro v' t' s' ps' hv' ht' F' N' g' o'; subst hv'))
local macro_rules | `(tactic| walk_at "call ref") => `(tactic| (refine' RatedStep ?z1 ?z2 ?z3 ?z4 ?z5 ?z6 ?zp ?zq ?z7 ?z8 ?z9 ?za ?zb ?zc ?zd ?ze ?_; (case z1 => assumption); (case z2 => assumption); (case z3 => assumption); (case z4 => k_updF); (case z5 => assumption); (case z6 => assumption); (case zp => k_mem); (case zq => k_mem); (case z7 => assumption); (case z8 => assumption); (case z9 => assumption); (case za => assumption); (case zb => assumption); (case zc => assumption); (case zd => (show _ + 3 + 3 < cLine; omega)); (case ze => (show _ + 1 + 3 < recursionLimit; omega)); intro v' t' s' ps' hv' ht' F' N' g' o'))
local macro_rules | `(tactic| walk_at "call builtin:max") => `(tactic| (refine' max_led ?F ?N ?hh ?m ?i ?n ?_; (case F => assumption); (case N => assumption); (case hh => assumption); (case m => k_mem); (case i => assumption); (case n => assumption); intro h' M' t' tk' F' N' m1))
local macro_rules | `(tactic| walk_at "eval Call Attribute") => `(tactic| ((with_reducible show wpAny _ _ (eval (Expr.Call (Expr.Attribute _ _ _) [Expr.Starred _ _] [] _) _) _ _ _); refine methodCall_S ?_))
local macro_rules | `(tactic| walk_at "StarOf") => `(tactic| (refine' star_lob ?F ?N ?m ?z ?_; (case F => assumption); (case N => assumption); (case m => k_mem); (case z => assumption); intro h' F' N'))
local macro_rules | `(tactic| walk_at "callWith ref") => `(tactic| ((with_reducible show wpAny _ _ (callWith _ (Value.ref _) _ (backTo _ (starEach [Expr.Starred _ _] _)) []) _ _ _); k_dflt (first
  | (refine' star_meth ?z1 ?z2 ?z3 ?z4 ?_; (case z1 => k_asm); (case z2 => k_asm); (case z3 => k_mem); (case z4 => k_is))
  | (refine' star_inst ?z1 ?z2 ?z3 ?z4 ?_; (case z1 => k_in); (case z2 => k_inst); (case z3 => rfl); (case z4 => k_is)))))
local macro_rules | `(tactic| walk_at "call ref") => `(tactic| (refine' CallStepD ?y1 ?z1 ?z2 ?z3 ?z4 ?z5 ?z6  ?z7 ?z8 ?z9 ?za ?_; (case y1 => assumption); (case z1 => assumption); (case z2 => assumption); (case z3 => assumption); (case z4 => k_updF); (case z5 => assumption); (case z6 => assumption); (case z7 => exact MraAt.of (by k_inst)); (case z8 => assumption); (case z9 => assumption); (case za => (show _ + 1 + 6 < recursionLimit; omega)); intro t' s' ps' ht' F' N' g' o'))
local macro_rules | `(tactic| walk_at "call ref") => `(tactic| (refine' MaxStepD ?y1 ?z1 ?z2 ?z3 ?z4 ?z5 ?z6 ?zb ?z7 ?z8 ?z9 ?za ?_; (case y1 => assumption); (case z1 => assumption); (case z2 => assumption); (case z3 => assumption); (case z4 => k_updF); (case z5 => assumption); (case z6 => assumption); (case zb => k_mem); (case z7 => exact MraAt.of (by k_inst)); (case z8 => assumption); (case z9 => assumption); (case za => (show _ + 1 + 6 < recursionLimit; omega)); intro t' s' ps' ht' F' N' g' o'))
local macro_rules | `(tactic| walk_at "call ref") => `(tactic| (refine' SimStepD ?y1 ?z1 ?z2 ?z3 ?z4 ?z5 ?z6 ?zb ?z7 ?z8 ?z9 ?za ?_; (case y1 => assumption); (case z1 => assumption); (case z2 => assumption); (case z3 => assumption); (case z4 => k_updF); (case z5 => assumption); (case z6 => assumption); (case zb => k_mem); (case z7 => exact MraAt.of (by k_inst)); (case z8 => assumption); (case z9 => assumption); (case za => (show _ + 1 + 7 < recursionLimit; omega)); intro t' s' ps' ht' F' N' g' o'))
local macro_rules | `(tactic| walk_at "call ref") => `(tactic| (refine' DistStepD ?y1 ?y2 ?z1 ?z2 ?z3 ?z4 ?z5 ?z6 ?zb ?z7 ?z8 ?z9 ?za ?_; (case y1 => assumption); (case y2 => assumption); (case z1 => assumption); (case z2 => assumption); (case z3 => assumption); (case z4 => k_updF); (case z5 => assumption); (case z6 => assumption); (case zb => k_mem); (case z7 => exact MraAt.of (by k_inst)); (case z8 => assumption); (case z9 => assumption); (case za => (show _ + 1 + 8 < recursionLimit; omega)); intro t' s' ps' ht' F' N' g' o'))
local macro_rules | `(tactic| walk_at "call ref") => `(tactic| ((with_reducible show wpAny _ _ (call (Value.ref 207) ([] ++ [])) _ _ _); k_dflt (refine' make_MRA ?z1 ?z2 ?z3 ?z4 ?_; (case z1 => assumption); (case z2 => assumption); (case z3 => assumption); (case z4 => (show _ + 1 + 3 < recursionLimit; omega))); intro x' dx' g1' g2' a1' a2' a3' n' h' tk' F' N' l1' l2'; k_lt l1'; k_lt2 l2'))
local macro_rules | `(tactic| walk_at "call ref") => `(tactic| (refine' CalcStep ?E0 ?F ?N ?U ?ht ?hg ?hx ?hh ?room ?_; (case E0 => assumption); (case F => assumption); (case N => assumption); (case U => assumption); (case ht => assumption); (case hg => assumption); (case hx => assumption); (case hh => assumption); (case room => (show A.depth + 1 + 3 < recursionLimit; omega)); intro v' t' s' ps' hv' ht' F' N' g' o'; subst hv'))
local macro_rules | `(tactic| walk_at "execs cons") => `(tactic| ((with_reducible show wpAny _ _ (execs [Stmt.If (Expr.Compare (Expr.ListComp _ _ _ _) _ _ _) _ _ _, Stmt.Return _ _] _) _ _ _); refine Stopped.mk ?_))
theorem news_tail3 {h₀ h : Heap} {L : Addr} {a b c : Addr × Obj} {l : List (Addr × Obj)} (N : News h₀ L h (a :: b :: c :: l)) : News h₀ L h l := fun q hq => N q (.tail _ (.tail _ (.tail _ hq)))
theorem law8 {body : List Stmt} {scope : Scope} {name qual : Str} {params : Arguments} {dV kV doc pm cdv ct oc' : Value} {an od' : Option Addr} {osl : Array (Option Value)}
   (hfn : (hd.heap_39 w.params).lookup 233 = some ⟨oc', od', .func (fnOf name qual params body scope dV kV doc pm an cdv ct), osl⟩)
   {fa : Addr} {cd : Value} {h₀ : Heap} {L Nm Cd : Addr} {m : Str → Option Value} {oc : Obj} {vs vb : List Value} {c cb : Nat} {ns : List Str} {ps : Array Value} {most due : Nat} {tm td : Tok}
   (hh : A.handled = none) (hroom : A.depth + 10 < recursionLimit) (hu : A.units + 10 < cLine) (hfr : A.frames = some [])
   (he : PySem.Challenge.rw_fq5033_01.row.prog = PySem.Challenge.rw_fq5033_01.row.prog ∧ (hd.heap_39 w.params).In s.heap)
   (E0 : Env0 w p loose mg mb bm ob h₀) (F : Fr h₀ L s.heap (fun y => if y = Str.ofString "most" then some (.int (most : Nat) tm) else if y = Str.ofString "due" then some (.int (due : Nat) td) else if y = Str.ofString "codes" then some (.ref Cd) else if y = Str.ofString "names" then some (.ref Nm) else m y))
   (N : News h₀ L s.heap [(Cd, lob vb cb), (Nm, lob vs c), (L + 1, oc), (194, tableObj ps)]) (hC1 : @Ne Nat Cd Nm) (hC2 : @Ne Nat Cd (L + 1)) (hC3 : @Ne Nat Cd 194) (hN1 : @Ne Nat Nm (L + 1)) (hN2 : @Ne Nat Nm 194) (hN3 : @Ne Nat (L + 1) 194) (d1 : oc.data = .cell none) (hg : AllBare s.gens) (ht : TriplesOk ps.toList) (hNs : Names vs ns) (hib : StrsAre vb (ns.map codeS))
   (hmost : IsMax most ((codesOf ns).map (·.length))) (hdue : RatedIs ns (ns.map codeS) due) :
   wpAny (model prog w) (A.deeper (envOfC qual scope L fa cd)) (execs (body.drop 8) (envOfC qual scope L fa cd))
     (LawEnd h₀ s.os) (fun _ _ => False) s := by
  have e := (show (hd.heap_39 w.params).lookup 233 = some _ from rfl).symm.trans hfn
  injection e with e
  injection e with e1 e2 e3 e4
  injection e3 with e3
  unfold fnOf at e3
  injection e3 with k1 k2 k3 k4 k5 k6 k7 k8 k9 k10 k11 k12 k13
  injection k4 with k4
  subst k2 k5 k4
  clear hfn e1 e2 e4 k1 k3 k6 k7 k8 k9 k10 k11 k12
  dsimp only [List.drop]
  revert he; k_fill; intro he
  have X := E0.k
  have T := E0.t
  have M := E0.b
  have hia := hNs.are
  have hvl : vs.length = ns.length := StrsAre.length hia
  have hn4 := hNs.four
  have hn0 := hNs.pos
  have hvz : vs.length ≤ 1000 := by omega
  k_steps
  all_goals first
    | (exfalso; rename (@Ne Int _ _) => hbad; exact hbad rfl)
    | skip
  rename Fr _ _ _ _ => F3
  rename News _ _ _ _ => N3
  rename (AllBare _) => g3
  rename (TriplesOk _) => t3
  rename (_ = Shared.os _) => e1
  dsimp only at e1
  revert e1
  rename (_ = Shared.os _) => e1
  dsimp only at e1
  revert e1
  rename (_ = Shared.os _) => e1
  dsimp only at e1
  revert e1
  rename (_ = Shared.os _) => e1
  dsimp only at e1
  intro e2 e3 e4
  have o3 := e4.trans (e3.trans (e2.trans e1))
  clear e1 e2 e3 e4
  unfold Stopped
  rw [← o3]
  have F4 := fr_front (k1 := Str.ofString "codes") (k2 := Str.ofString "names") (a := .ref Cd) (b := .ref Nm) F3 (by rfl) (by rfl)
  have N4 := news_tail3 N3
  rename (_ < _ ∧ _ < _ ∧ _ < _ ∧ _ < _) => l1q
  rename (_ < _) => l2q
  obtain ⟨b1, b2, b3, b4⟩ := l1q
  refine law11 (hfn := rfl) hh hroom hu hfr ⟨rfl, X.keeps F3.keep⟩ E0 F4 N4 (Nat.ne_of_gt l2q) (Nat.ne_of_gt (Nat.lt_trans b1 l2q)) (Nat.ne_of_gt (Nat.lt_trans b2 l2q)) (Nat.ne_of_gt (Nat.lt_trans b3 l2q)) (Nat.ne_of_gt (Nat.lt_trans b4 l2q)) (Nat.ne_of_gt b1) (Nat.ne_of_gt b2) (Nat.ne_of_gt b3) (Nat.ne_of_gt b4) hC1 hC2 hC3 hN1 hN2 hN3 (by assumption) g3 t3 hNs hib
end Mine
end

section
open PySem PySem.W PySem.W.X PyProof.Rows PySem.Calls PySem.Spec
set_option Elab.async false
set_option maxRecDepth 100000
set_option maxHeartbeats 8000000
set_option pp.deepTerms false
set_option pp.deepTerms.threshold 6
set_option pp.structureInstances false
set_option linter.all false
namespace Mine
open PyProof.Rows.LCg (NsObj lst lst_snoc ns_obj)
variable {w : World} {p : Program} {loose : List Str} {mg mb : Str → Option Value} {bm : Addr} {ob : Obj} {s : Shared} {A : Around}
local macro_rules | `(tactic| walk_at "exec Assign cons ListComp") => `(tactic| ((with_reducible rename Fr _ _ _ _ => kF); k_dflt (refine' assign_coreF kF ?z1 ?z2 ?z3 ?z4 ?z5 ?z6 ?z7 ?_ ?z8; (case z1 => first | exact rfl | with_unfolding_all rfl); (case z2 => first | exact rfl | with_unfolding_all rfl); (case z3 => decide); (case z4 => exact rfl); (case z5 => decide); (case z6 => exact rfl); (case z7 => exact rfl); (case z8 => (intro _; first | exact rfl | with_unfolding_all rfl)))))
local macro_rules | `(tactic| walk_at "eval ListComp") => `(tactic| ((with_reducible rename Fr _ _ _ _ => kF); k_dflt (refine' comp_coreF kF ?z1 ?z2 ?z3 ?z4 ?_ ?z5; (case z1 => first | exact rfl | with_unfolding_all rfl); (case z2 => decide); (case z3 => exact rfl); (case z4 => decide); (case z5 => (intro _; first | exact rfl | with_unfolding_all rfl)))))
local macro_rules | `(tactic| walk_at "eval Name") => `(tactic| ((with_reducible show wpAny _ _ (eval (Expr.Name _ _) (compEnvC _ _ _ _)) _ _ _); k_dflt (first
  | (refine' ce_own ?N ?m ?C ?x ?_ ?a ?b; (case a => rfl); (case b => rfl); (case N => assumption); (case m => k_mem); (case C => assumption); (case x => assumption))
  | (refine' ce_cell ?N ?c ?m ?d ?_ ?a ?b; (case a => rfl); (case b => rfl); (case N => assumption); (case c => rfl); (case m => k_mem); (case d => assumption))
  | (refine' ce_global ?F ?X ?T ?e ?_ ?g ?a ?b; (case a => rfl); (case b => rfl); (case g => rfl); (case F => assumption); (case X => assumption); (case T => assumption); (case e => k_is))
  | (refine' ce_built ?F ?X ?T ?e ?v ?n ?_ ?g ?g2 ?a ?b; (case a => rfl); (case b => rfl); (case g => rfl); (case g2 => rfl); (case F => assumption); (case X => assumption); (case T => assumption); (case e => k_is); (case v => boot_by_name); (case n => decide)))))
local macro_rules | `(tactic| walk_at "call ref") => `(tactic| (refine' LawStep ?E0 ?F ?N ?U ?ht ?hg ?hx ?hh ?room ?_; (case E0 => assumption); (case F => assumption); (case N => assumption); (case U => assumption); (case ht => assumption); (case hg => assumption); (case hx => assumption); (case hh => assumption); (case room => (show A.depth + 1 < recursionLimit; omega)); intro v' t' s' ps' hv' ht' F' N' g' o'; subst hv'))
local macro_rules | `(tactic| walk_at "call ref") => `(tactic| (refine' RatedStep ?z1 ?z2 ?z3 ?z4 ?z5 ?z6 ?zp ?zq ?z7 ?z8 ?z9 ?za ?zb ?zc ?zd ?ze ?_; (case z1 => assumption); (case z2 => assumption); (case z3 => assumption); (case z4 => k_updF); (case z5 => assumption); (case z6 => assumption); (case zp => k_mem); (case zq => k_mem); (case z7 => assumption); (case z8 => assumption); (case z9 => assumption); (case za => assumption); (case zb => assumption); (case zc => assumption); (case zd => (show _ + 3 + 3 < cLine; omega)); (case ze => (show _ + 1 + 3 < recursionLimit; omega)); intro v' t' s' ps' hv' ht' F' N' g' o'))
local macro_rules | `(tactic| walk_at "call builtin:max") => `(tactic| (refine' max_led ?F ?N ?hh ?m ?i ?n ?_; (case F => assumption); (case N => assumption); (case hh => assumption); (case m => k_mem); (case i => assumption); (case n => assumption); intro h' M' t' tk' F' N' m1))
local macro_rules | `(tactic| walk_at "execs cons") => `(tactic| ((with_reducible show wpAny _ _ (execs (Stmt.Assign [Expr.Name _ _] (Expr.Call (Expr.Name _ _) [] [] _) _ :: _) _) _ _ _); refine Stopped.mk ?_))
theorem law6 {body : List Stmt} {scope : Scope} {name qual : Str} {params : Arguments} {dV kV doc pm cdv ct oc' : Value} {an od' : Option Addr} {osl : Array (Option Value)}
   (hfn : (hd.heap_39 w.params).lookup 233 = some ⟨oc', od', .func (fnOf name qual params body scope dV kV doc pm an cdv ct), osl⟩)
   {fa : Addr} {cd : Value} {h₀ : Heap} {L Nm Cd : Addr} {m : Str → Option Value} {oc : Obj} {vs vb : List Value} {c cb : Nat} {ns : List Str} {ps : Array Value}
   (hh : A.handled = none) (hroom : A.depth + 10 < recursionLimit) (hu : A.units + 10 < cLine) (hfr : A.frames = some [])
   (he : PySem.Challenge.rw_fq5033_01.row.prog = PySem.Challenge.rw_fq5033_01.row.prog ∧ (hd.heap_39 w.params).In s.heap)
   (E0 : Env0 w p loose mg mb bm ob h₀) (F : Fr h₀ L s.heap (fun y => if y = Str.ofString "codes" then some (.ref Cd) else if y = Str.ofString "names" then some (.ref Nm) else m y))
   (N : News h₀ L s.heap [(Cd, lob vb cb), (Nm, lob vs c), (L + 1, oc), (194, tableObj ps)]) (hC1 : @Ne Nat Cd Nm) (hC2 : @Ne Nat Cd (L + 1)) (hC3 : @Ne Nat Cd 194) (hN1 : @Ne Nat Nm (L + 1)) (hN2 : @Ne Nat Nm 194) (hN3 : @Ne Nat (L + 1) 194) (d1 : oc.data = .cell none) (hg : AllBare s.gens) (ht : TriplesOk ps.toList) (hNs : Names vs ns) (hib : StrsAre vb (ns.map codeS)) :
   wpAny (model prog w) (A.deeper (envOfC qual scope L fa cd)) (execs (body.drop 6) (envOfC qual scope L fa cd))
     (LawEnd h₀ s.os) (fun _ _ => False) s := by
  have e := (show (hd.heap_39 w.params).lookup 233 = some _ from rfl).symm.trans hfn
  injection e with e
  injection e with e1 e2 e3 e4
  injection e3 with e3
  unfold fnOf at e3
  injection e3 with k1 k2 k3 k4 k5 k6 k7 k8 k9 k10 k11 k12 k13
  injection k4 with k4
  subst k2 k5 k4
  clear hfn e1 e2 e4 k1 k3 k6 k7 k8 k9 k10 k11 k12
  dsimp only [List.drop]
  revert he; k_fill; intro he
  have X := E0.k
  have T := E0.t
  have M := E0.b
  have hia := hNs.are
  have hvl : vs.length = ns.length := StrsAre.length hia
  have hn4 := hNs.four
  have hn0 := hNs.pos
  have hc0 : 0 < (ns.map codeS).length := by simpa using hn0
  have hc4 : (ns.map codeS).length ≤ 4 := by simpa using hn4
  have hcl : ∀ x ∈ ns.map codeS, x.length ≤ 6 := fun x hx => by
    obtain ⟨y, _, rfl⟩ := List.mem_map.mp hx
    exact code_len y
  have hcv : vb.length = (ns.map codeS).length := StrsAre.length hib
  have hcv' : vb.length = ns.length := by simpa using hcv
  k_steps
  rename Fr _ _ _ _ => F3
  rename News _ _ _ _ => N3
  rename (AllBare _) => g3
  rename (_ = s.os) => o3
  rename (TriplesOk _) => t3
  rename (RatedIs _ _ _) => hdue
  rename_i due tdue s1 ps1 h3
  refine wpAny_pyIter_list (items := vb.toArray) ⟨_, (N3 _ (.head _)).1, rfl, _, rfl⟩ ?_
  refine comp_feed (st₀ := [(_, _)]) (led₀ := [(Cd, lob vb cb), (Nm, lob vs c), (L + 1, oc), (194, tableObj ps1)])
    (fun i ys led => led = [(Cd, lob vb cb), (Nm, lob vs c), (L + 1, oc), (194, tableObj ps1)] ∧ IntsAre ys (((ns.map codeS).take i).map fun x => (x.length : Int)))
    rfl rfl (feed_list (A := A.deeper _) (ax := Cd) (its := vb.toArray) hh (Nat.ne_of_lt (Heap.lt_size (N3 _ (.head _)).1))) ?_ (OK.push (OK.mk' F3 N3 g3 o3)) ⟨_, rfl, fun h e => ⟨_, e, rfl, rfl⟩⟩ (.inr ⟨_, .head _, rfl, _, rfl⟩) ?_ ⟨rfl, .nil⟩ ?_ ?_ ?_
  · rw [sizeLine_eq]; show vb.toArray.size ≤ _; simp; omega
  · intro p hp q hq
    rw [List.mem_singleton.mp hp]
    exact Nat.ne_of_lt (Heap.lt_size (N3 q hq).1)
  · rintro i ys led ⟨rfl, hI⟩
    rw [hI.length]; simp; omega
  · rintro i v ex st ys led C Dl oC mC s₁ E hi1 ⟨hv, rfl⟩ ⟨rfl, hI⟩ hC hx k hCD ap2 ap hS
    obtain ⟨t, rfl⟩ := strs_at hib i v (by simpa using hv)
    have hil : i < (ns.map codeS).length := by simp at hi1; omega
    have hxx : (ns.map codeS).getD i Str.empty ∈ ns.map codeS := by rw [List.getD_eq_getElem?_getD, List.getElem?_eq_getElem hil]; exact List.getElem_mem hil
    have hlast : ((ns.map codeS).take (i + 1)).map (fun x => (x.length : Int)) = ((ns.map codeS).take i).map (fun x => (x.length : Int)) ++ [(((ns.map codeS).getD i Str.empty).length : Int)] := by
      rw [List.take_add_one, List.map_append, List.getElem?_eq_getElem hil]
      rw [List.getD_eq_getElem?_getD, List.getElem?_eq_getElem hil]
      rfl
    generalize hxd : (ns.map codeS).getD i Str.empty = x at hx hxx hlast
    have hxl := hcl x hxx
    have F2 := k.F
    have N2 : News h₀ L s₁.heap ((C, oC) :: (Dl, lst ys) :: (Cd, lob vb cb) :: (Nm, lob vs c) :: (L + 1, oc) :: (194, tableObj ps1) :: st) := fun q hq => k.N q (by
      simp only [List.mem_cons, List.mem_append, List.nil_append] at hq ⊢
      rcases hq with h | h | h | h | h | h | h <;> simp [h])
    have g2 := k.g
    have o2 := k.o
    clear F3 N3
    k_steps
    refine EltEnd.intro [(Cd, lob vb cb), (Nm, lob vs c), (L + 1, oc), (194, tableObj ps1)] F2 N2 g2 o2 (fun q hq => ?_) (fun q hq => ap2 q (by simp only [List.nil_append]; exact List.mem_append_right _ hq)) (fun p hp q hq => ap p hp q (by simpa using hq)) hS ⟨rfl, by rw [hlast]; exact hI.append (.cons _ _ .nil)⟩
    simp only [List.mem_cons, List.mem_append, List.not_mem_nil, or_false] at hq ⊢
    rcases hq with h | h | h | h | h | h | h <;> simp [h]
  · rintro ys led ⟨rfl, hI⟩ Sz s₂ k offS
    have hI2 : IntsAre ys (lensI ((ns.map codeS).map fun x => x.cps.toList)) := by
      rw [List.take_of_length_le (by simp; omega)] at hI
      have e : lensI ((ns.map codeS).map fun x => x.cps.toList) = (ns.map codeS).map (fun x => (x.length : Int)) := by
        unfold lensI
        rw [List.map_map]
        exact List.map_congr_left fun x _ => by simp [Str.length]
      rw [e]; exact hI
    have F2 := k.F
    have N2 : News h₀ L s₂.heap [(Sz, lob ys ys.length), (Cd, lob vb cb), (Nm, lob vs c), (L + 1, oc), (194, tableObj ps1)] := k.N
    have g2 := k.g
    have o2 := k.o
    have hpos : 0 < ((ns.map codeS).map fun x => x.cps.toList).length := by simpa using hn0
    clear F3 N3
    k_steps
    unfold Stopped
    rename Fr _ _ _ _ => F5
    rename News _ _ _ _ => N5
    rename IsMax _ _ => hm5
    rw [codes_map] at hm5
    rw [← o2]
    exact law8 (hfn := rfl) hh hroom hu hfr ⟨rfl, X.keeps F5.keep⟩ E0 F5 (fun q hq => N5 q (.tail _ hq)) hC1 hC2 hC3 hN1 hN2 hN3 d1 g2 t3 hNs hib hm5 hdue
end Mine
end

section
local macro_rules | `(tactic| walk_at "pad") => `(tactic| skip)
local macro_rules | `(tactic| walk_at "pad") => `(tactic| skip)
local macro_rules | `(tactic| walk_at "pad") => `(tactic| skip)
local macro_rules | `(tactic| walk_at "pad") => `(tactic| skip)
local macro_rules | `(tactic| walk_at "pad") => `(tactic| skip)
local macro_rules | `(tactic| walk_at "pad") => `(tactic| skip)
local macro_rules | `(tactic| walk_at "pad") => `(tactic| skip)
local macro_rules | `(tactic| walk_at "pad") => `(tactic| skip)
open PySem PySem.W PySem.W.X PyProof.Rows PySem.Calls PySem.Spec
set_option Elab.async false
set_option maxRecDepth 100000
set_option maxHeartbeats 8000000
set_option pp.deepTerms false
set_option pp.deepTerms.threshold 6
set_option pp.structureInstances false
set_option linter.all false
namespace Mine
open PyProof.Rows.LCg (NsObj lst lst_snoc ns_obj)
variable {w : World} {p : Program} {loose : List Str} {mg mb : Str → Option Value} {bm : Addr} {ob : Obj} {s : Shared} {A : Around}
local macro_rules | `(tactic| walk_at "exec Assign cons ListComp") => `(tactic| ((with_reducible rename Fr _ _ _ _ => kF); k_dflt (refine' assign_coreF kF ?z1 ?z2 ?z3 ?z4 ?z5 ?z6 ?z7 ?_ ?z8; (case z1 => first | exact rfl | with_unfolding_all rfl); (case z2 => first | exact rfl | with_unfolding_all rfl); (case z3 => decide); (case z4 => exact rfl); (case z5 => decide); (case z6 => exact rfl); (case z7 => exact rfl); (case z8 => (intro _; first | exact rfl | with_unfolding_all rfl)))))
local macro_rules | `(tactic| walk_at "eval ListComp") => `(tactic| ((with_reducible rename Fr _ _ _ _ => kF); k_dflt (refine' comp_coreF kF ?z1 ?z2 ?z3 ?z4 ?_ ?z5; (case z1 => first | exact rfl | with_unfolding_all rfl); (case z2 => decide); (case z3 => exact rfl); (case z4 => decide); (case z5 => (intro _; first | exact rfl | with_unfolding_all rfl)))))
local macro_rules | `(tactic| walk_at "eval Name") => `(tactic| ((with_reducible show wpAny _ _ (eval (Expr.Name _ _) (compEnvC _ _ _ _)) _ _ _); k_dflt (first
  | (refine' ce_own ?N ?m ?C ?x ?_ ?a ?b; (case a => rfl); (case b => rfl); (case N => assumption); (case m => k_mem); (case C => assumption); (case x => assumption))
  | (refine' ce_cell ?N ?c ?m ?d ?_ ?a ?b; (case a => rfl); (case b => rfl); (case N => assumption); (case c => rfl); (case m => k_mem); (case d => assumption))
  | (refine' ce_global ?F ?X ?T ?e ?_ ?g ?a ?b; (case a => rfl); (case b => rfl); (case g => rfl); (case F => assumption); (case X => assumption); (case T => assumption); (case e => k_is))
  | (refine' ce_built ?F ?X ?T ?e ?v ?n ?_ ?g ?g2 ?a ?b; (case a => rfl); (case b => rfl); (case g => rfl); (case g2 => rfl); (case F => assumption); (case X => assumption); (case T => assumption); (case e => k_is); (case v => boot_by_name); (case n => decide)))))
local macro_rules | `(tactic| walk_at "call ref") => `(tactic| (refine' LawStep ?E0 ?F ?N ?U ?ht ?hg ?hx ?hh ?room ?_; (case E0 => assumption); (case F => assumption); (case N => assumption); (case U => assumption); (case ht => assumption); (case hg => assumption); (case hx => assumption); (case hh => assumption); (case room => (show A.depth + 1 < recursionLimit; omega)); intro v' t' s' ps' hv' ht' F' N' g' o'; subst hv'))
local macro_rules | `(tactic| walk_at "execs cons") => `(tactic| ((with_reducible show wpAny _ _ (execs (Stmt.Assign [Expr.Name _ _] (Expr.Call (Expr.Name _ _) [Expr.Name _ _, Expr.Name _ _] [] _) _ :: _) _) _ _ _); refine Stopped.mk ?_))
theorem law5 {body : List Stmt} {scope : Scope} {name qual : Str} {params : Arguments} {dV kV doc pm cdv ct oc' : Value} {an od' : Option Addr} {osl : Array (Option Value)}
   (hfn : (hd.heap_39 w.params).lookup 233 = some ⟨oc', od', .func (fnOf name qual params body scope dV kV doc pm an cdv ct), osl⟩)
   {fa : Addr} {cd : Value} {h₀ : Heap} {L Nm : Addr} {m : Str → Option Value} {oc : Obj} {vs : List Value} {c : Nat} {ns : List Str} {ps : Array Value}
   (hh : A.handled = none) (hroom : A.depth + 10 < recursionLimit) (hu : A.units + 10 < cLine) (hfr : A.frames = some [])
   (he : PySem.Challenge.rw_fq5033_01.row.prog = PySem.Challenge.rw_fq5033_01.row.prog ∧ (hd.heap_39 w.params).In s.heap)
   (E0 : Env0 w p loose mg mb bm ob h₀) (F : Fr h₀ L s.heap (fun y => if y = Str.ofString "names" then some (.ref Nm) else m y))
   (N : News h₀ L s.heap [(Nm, lob vs c), (L + 1, oc), (194, tableObj ps)]) (hN1 : Nm ≠ L + 1) (hN2 : Nm ≠ 194) (hN3 : L + 1 ≠ 194) (d1 : oc.data = .cell none) (hg : AllBare s.gens) (ht : TriplesOk ps.toList) (hNs : Names vs ns) :
   wpAny (model prog w) (A.deeper (envOfC qual scope L fa cd)) (execs (body.drop 5) (envOfC qual scope L fa cd))
     (LawEnd h₀ s.os) (fun _ _ => False) s := by
  have e := (show (hd.heap_39 w.params).lookup 233 = some _ from rfl).symm.trans hfn
  injection e with e
  injection e with e1 e2 e3 e4
  injection e3 with e3
  unfold fnOf at e3
  injection e3 with k1 k2 k3 k4 k5 k6 k7 k8 k9 k10 k11 k12 k13
  injection k4 with k4
  subst k2 k5 k4
  clear hfn e1 e2 e4 k1 k3 k6 k7 k8 k9 k10 k11 k12
  dsimp only [List.drop]
  revert he; k_fill; intro he
  have X := E0.k
  have T := E0.t
  have M := E0.b
  have hia := hNs.are
  have hvl : vs.length = ns.length := StrsAre.length hia
  have hn4 := hNs.four
  have hn0 := hNs.pos
  have hos0 : ∃ o0, s.os = o0 := ⟨_, rfl⟩
  k_steps
  rename Fr _ _ _ _ => F
  refine wpAny_pyIter_list (items := vs.toArray) ⟨_, (N _ (.head _)).1, rfl, _, rfl⟩ ?_
  have k0 : OK h₀ L _ _ s.os s := ⟨F, N, hg, rfl⟩
  have k1 := k0.push (o := { cls := .type "list_iterator", data := .fields #[.ref Nm, .int 0 0] })
  have hNI : Nm ≠ s.heap.objs.size := Nat.ne_of_lt (Heap.lt_size (N _ (.head _)).1)
  refine comp_feed (st₀ := [(s.heap.objs.size, { cls := .type "list_iterator", data := .fields #[.ref Nm, .int 0 0] })]) (led₀ := [(Nm, lob vs c), (L + 1, oc), (194, tableObj ps)])
    (fun i ys led => ∃ ps, led = [(Nm, lob vs c), (L + 1, oc), (194, tableObj ps)] ∧ TriplesOk ps.toList ∧ StrsAre ys ((ns.take i).map codeS))
    rfl rfl (feed_list (A := A.deeper _) (ax := Nm) (its := vs.toArray) hh hNI) ?_ k1 ⟨_, rfl, fun h e => ⟨_, e, rfl, rfl⟩⟩ (.inr ⟨_, .head _, rfl, _, rfl⟩) ?_ ⟨ps, rfl, ht, .nil⟩ ?_ ?_ ?_
  · rw [sizeLine_eq]; show vs.toArray.size ≤ _; simp; omega
  · intro p hp q hq
    rw [List.mem_singleton.mp hp]
    exact Nat.ne_of_lt (k0.lt hq)
  · rintro i ys led ⟨ps1, rfl, _, hI⟩
    rw [StrsAre.length hI]; simp; omega
  · rintro i v ex st ys led C Dl oC mC s₁ E hi1 ⟨hv, rfl⟩ ⟨ps1, rfl, ht1, hI⟩ hC hx k hCD ap2 ap hS
    obtain ⟨t, rfl⟩ := strs_at hia i v (by simpa using hv)
    have hil : i < ns.length := by simp at hi1; omega
    have hxx : ns.getD i Str.empty ∈ ns := by rw [List.getD_eq_getElem?_getD, List.getElem?_eq_getElem hil]; exact List.getElem_mem hil
    have hlast : (ns.take (i + 1)).map codeS = (ns.take i).map codeS ++ [codeS (ns.getD i Str.empty)] := by
      rw [List.take_add_one, List.map_append, List.getElem?_eq_getElem hil]
      simp [List.getD_eq_getElem?_getD, hil]
    generalize hxd : ns.getD i Str.empty = x at hx hxx hlast
    have hxa := hNs.asc x hxx
    have F2 := k.F
    have N2 : News h₀ L s₁.heap ((C, oC) :: (Dl, lst ys) :: (Nm, lob vs c) :: (L + 1, oc) :: (194, tableObj ps1) :: st) := fun q hq => k.N q (by
      simp only [List.mem_cons, List.mem_append, List.nil_append] at hq ⊢
      rcases hq with h | h | h | h | h | h <;> simp [h])
    have g2 := k.g
    have U2 : UpdF 194 (tableObj ps1) ((C, oC) :: (Dl, lst ys) :: (Nm, lob vs c) :: (L + 1, oc) :: (194, tableObj ps1) :: st) _ := .tail ?a1 (.tail ?a2 (.tail hN2 (.tail hN3 (.head ?a7))))
    case a1 => exact Ne.symm (ap2 (194, tableObj ps1) (by simp)).1
    case a2 => exact Ne.symm (ap2 (194, tableObj ps1) (by simp)).2
    case a7 =>
      intro q hq
      exact Ne.symm (ap q hq (194, tableObj ps1) (by simp))
    clear N k0 k1 F
    k_steps
    rename Fr _ _ _ _ => F9
    rename News _ _ _ _ => N9
    rename (AllBare _) => g9
    rename (_ = s₁.os) => o9
    rename (TriplesOk _) => t9
    refine EltEnd.intro [(Nm, lob vs c), (L + 1, oc), (194, tableObj _)] F9 N9 g9 (o9.trans k.o) (fun q hq => ?_) (fun q hq => ?_) (fun p hp q hq => ?_) (.inr ⟨_, .head _, rfl, _, rfl⟩) ⟨_, rfl, t9, by rw [hlast]; exact strs_append1 _ _ hI⟩
    · simp only [List.mem_cons, List.mem_append, List.not_mem_nil, or_false] at hq ⊢
      rcases hq with h | h | h | h | h | h <;> simp [h]
    · simp only [List.mem_cons, List.not_mem_nil, or_false] at hq
      rcases hq with rfl | rfl | rfl
      · exact ap2 (Nm, lob vs c) (by simp)
      · exact ap2 (L + 1, oc) (by simp)
      · exact ap2 (194, tableObj ps1) (by simp)
    · simp only [List.mem_cons, List.not_mem_nil, or_false] at hq
      rcases hq with rfl | rfl | rfl
      · exact ap p hp (Nm, lob vs c) (by simp)
      · exact ap p hp (L + 1, oc) (by simp)
      · exact ap p hp (194, tableObj ps1) (by simp)
  · rintro ys led ⟨ps2, rfl, ht2, hI⟩ Cd s₂ k offC
    have hib : StrsAre ys (ns.map codeS) := by
      rw [List.take_of_length_le (by simp; omega)] at hI; exact hI
    have F2 := k.F
    have N2 : News h₀ L s₂.heap [(Cd, lob ys ys.length), (Nm, lob vs c), (L + 1, oc), (194, tableObj ps2)] := k.N
    have g2 := k.g
    have o2 := k.o
    k_steps
    unfold Stopped
    rw [← o2]
    have oC : ∀ q ∈ [(Nm, lob vs c), (L + 1, oc), (194, tableObj ps2)], q.1 ≠ Cd := offC
    exact law6 (hfn := rfl) hh hroom hu hfr ⟨rfl, X.keeps F2.keep⟩ E0 F2 N2 (Ne.symm (oC (Nm, lob vs c) (by simp))) (Ne.symm (oC (L + 1, oc) (by simp))) (Ne.symm (oC (194, tableObj ps2) (by simp))) hN1 hN2 hN3 d1 g2 ht2 hNs hib
end Mine
end

section
open PySem PySem.W PySem.W.X PyProof.Rows PySem.Calls PySem.Spec
set_option Elab.async false
set_option maxRecDepth 100000
set_option maxHeartbeats 8000000
set_option pp.deepTerms false
set_option pp.deepTerms.threshold 6
set_option pp.structureInstances false
set_option linter.all false
namespace Mine
open PyProof.Rows.LCg (NsObj lst lst_snoc ns_obj)
variable {w : World} {p : Program} {loose : List Str} {mg mb : Str → Option Value} {bm : Addr} {ob : Obj} {s : Shared} {A : Around}
local macro_rules | `(tactic| walk_at "exec Assign cons ListComp") => `(tactic| ((with_reducible rename Fr _ _ _ _ => kF); k_dflt (refine' assign_coreF kF ?z1 ?z2 ?z3 ?z4 ?z5 ?z6 ?z7 ?_ ?z8; (case z1 => first | exact rfl | with_unfolding_all rfl); (case z2 => first | exact rfl | with_unfolding_all rfl); (case z3 => decide); (case z4 => exact rfl); (case z5 => decide); (case z6 => exact rfl); (case z7 => exact rfl); (case z8 => (intro _; first | exact rfl | with_unfolding_all rfl)))))
local macro_rules | `(tactic| walk_at "eval ListComp") => `(tactic| ((with_reducible rename Fr _ _ _ _ => kF); k_dflt (refine' comp_coreF kF ?z1 ?z2 ?z3 ?z4 ?_ ?z5; (case z1 => first | exact rfl | with_unfolding_all rfl); (case z2 => decide); (case z3 => exact rfl); (case z4 => decide); (case z5 => (intro _; first | exact rfl | with_unfolding_all rfl)))))
local macro_rules | `(tactic| walk_at "eval Name") => `(tactic| ((with_reducible show wpAny _ _ (eval (Expr.Name _ _) (compEnvC _ _ _ _)) _ _ _); k_dflt (first
  | (refine' ce_own ?N ?m ?C ?x ?_ ?a ?b; (case a => rfl); (case b => rfl); (case N => assumption); (case m => k_mem); (case C => assumption); (case x => assumption))
  | (refine' ce_cell ?N ?c ?m ?d ?_ ?a ?b; (case a => rfl); (case b => rfl); (case N => assumption); (case c => rfl); (case m => k_mem); (case d => assumption))
  | (refine' ce_global ?F ?X ?T ?e ?_ ?g ?a ?b; (case a => rfl); (case b => rfl); (case g => rfl); (case F => assumption); (case X => assumption); (case T => assumption); (case e => k_is))
  | (refine' ce_built ?F ?X ?T ?e ?v ?n ?_ ?g ?g2 ?a ?b; (case a => rfl); (case b => rfl); (case g => rfl); (case g2 => rfl); (case F => assumption); (case X => assumption); (case T => assumption); (case e => k_is); (case v => boot_by_name); (case n => decide)))))
local macro_rules | `(tactic| walk_at "call ref") => `(tactic| (refine' LawStep ?E0 ?F ?N ?U ?ht ?hg ?hx ?hh ?room ?_; (case E0 => assumption); (case F => assumption); (case N => assumption); (case U => assumption); (case ht => assumption); (case hg => assumption); (case hx => assumption); (case hh => assumption); (case room => (show A.depth + 1 < recursionLimit; omega)); intro v' t' s' ps' hv' ht' F' N' g' o'; subst hv'))
local macro_rules | `(tactic| walk_at "execs cons") => `(tactic| ((with_reducible show wpAny _ _ (execs (Stmt.Assign [Expr.Name _ _] (Expr.ListComp (Expr.Call (Expr.Name _ _) _ _ _) _ _ _) _ :: _) _) _ _ _); refine Stopped.mk ?_))
theorem low_names {vs ys : List Value} {ns : List Str} (h : Names vs ns) (hI : StrsAre ys (ns.map Txt.lower)) : Names ys (ns.map Txt.lower) := by
  obtain ⟨hia, hn0, hn4, ha⟩ := h
  refine ⟨hI, by simpa using hn0, by simpa using hn4, fun x hx => ?_⟩
  obtain ⟨y, hy, rfl⟩ := List.mem_map.mp hx
  obtain ⟨h1, h2⟩ := ha y hy
  rw [lower_ascii h1]
  refine ⟨fun c hc => ?_, by simpa [Str.length] using h2⟩
  simp only [Array.toList_map, List.mem_map] at hc
  obtain ⟨d, hd, rfl⟩ := hc
  have := h1 d hd
  unfold lo1; split <;> omega
theorem law4 {body : List Stmt} {scope : Scope} {name qual : Str} {params : Arguments} {dV kV doc pm cdv ct oc' : Value} {an od' : Option Addr} {osl : Array (Option Value)}
   (hfn : (hd.heap_39 w.params).lookup 233 = some ⟨oc', od', .func (fnOf name qual params body scope dV kV doc pm an cdv ct), osl⟩)
   {fa : Addr} {cd : Value} {h₀ : Heap} {L Nm : Addr} {m : Str → Option Value} {oc : Obj} {vs : List Value} {c : Nat} {ns : List Str} {ps : Array Value} {b : Bool}
   (hh : A.handled = none) (hroom : A.depth + 10 < recursionLimit) (hu : A.units + 10 < cLine) (hfr : A.frames = some [])
   (he : PySem.Challenge.rw_fq5033_01.row.prog = PySem.Challenge.rw_fq5033_01.row.prog ∧ (hd.heap_39 w.params).In s.heap)
   (E0 : Env0 w p loose mg mb bm ob h₀) (F : Fr h₀ L s.heap (fun y => if y = Str.ofString "names" then some (.ref Nm) else if y = Str.ofString "small" then some (.bool b) else m y))
   (N : News h₀ L s.heap [(Nm, lob vs c), (L + 1, oc), (194, tableObj ps)]) (hN1 : @Ne Nat Nm (L + 1)) (hN2 : @Ne Nat Nm 194) (hN3 : @Ne Nat (L + 1) 194) (d1 : oc.data = .cell none) (hg : AllBare s.gens) (ht : TriplesOk ps.toList) (hNs : Names vs ns) :
   wpAny (model prog w) (A.deeper (envOfC qual scope L fa cd)) (execs (body.drop 4) (envOfC qual scope L fa cd))
     (LawEnd h₀ s.os) (fun _ _ => False) s := by
  have e := (show (hd.heap_39 w.params).lookup 233 = some _ from rfl).symm.trans hfn
  injection e with e
  injection e with e1 e2 e3 e4
  injection e3 with e3
  unfold fnOf at e3
  injection e3 with k1 k2 k3 k4 k5 k6 k7 k8 k9 k10 k11 k12 k13
  injection k4 with k4
  subst k2 k5 k4
  clear hfn e1 e2 e4 k1 k3 k6 k7 k8 k9 k10 k11 k12
  dsimp only [List.drop]
  revert he; k_fill; intro he
  have X := E0.k
  have T := E0.t
  have M := E0.b
  have hia := hNs.are
  have hvl : vs.length = ns.length := StrsAre.length hia
  have hn4 := hNs.four
  have hn0 := hNs.pos
  have k0 : OK h₀ L _ _ s.os s := ⟨F, N, hg, rfl⟩
  cases b
  · k_steps
    unfold Stopped
    exact law5 (hfn := rfl) hh hroom hu hfr ⟨rfl, X.keeps F.keep⟩ E0 F N hN1 hN2 hN3 d1 hg ht hNs
  k_steps
  rename Fr _ _ _ _ => F
  refine wpAny_pyIter_list (items := vs.toArray) ⟨_, (N _ (.head _)).1, rfl, _, rfl⟩ ?_
  refine comp_feed (st₀ := [(_, _)]) (led₀ := [(Nm, lob vs c), (L + 1, oc), (194, tableObj ps)])
    (fun i ys led => led = [(Nm, lob vs c), (L + 1, oc), (194, tableObj ps)] ∧ StrsAre ys ((ns.take i).map Txt.lower))
    rfl rfl (feed_list (A := A.deeper _) (ax := Nm) (its := vs.toArray) hh (Nat.ne_of_lt (Heap.lt_size (N _ (.head _)).1))) ?_ (OK.push k0) ⟨_, rfl, fun h e => ⟨_, e, rfl, rfl⟩⟩ (.inr ⟨_, .head _, rfl, _, rfl⟩) ?_ ⟨rfl, .nil⟩ ?_ ?_ ?_
  · rw [sizeLine_eq]; show vs.toArray.size ≤ _; simp; omega
  · intro p hp q hq
    rw [List.mem_singleton.mp hp]
    exact Nat.ne_of_lt (Heap.lt_size (N q hq).1)
  · rintro i ys led ⟨rfl, hI⟩
    rw [StrsAre.length hI]; simp; omega
  · rintro i v ex st ys led C Dl oC mC s₁ E hi1 ⟨hv, rfl⟩ ⟨rfl, hI⟩ hC hx k hCD ap2 ap hS
    obtain ⟨t, rfl⟩ := strs_at hia i v (by simpa using hv)
    have hil : i < ns.length := by simp at hi1; omega
    have hxx : ns.getD i Str.empty ∈ ns := by rw [List.getD_eq_getElem?_getD, List.getElem?_eq_getElem hil]; exact List.getElem_mem hil
    have hlast : (ns.take (i + 1)).map Txt.lower = (ns.take i).map Txt.lower ++ [Txt.lower (ns.getD i Str.empty)] := by
      rw [List.take_add_one, List.map_append, List.getElem?_eq_getElem hil]
      simp [List.getD_eq_getElem?_getD, hil]
    generalize hxd : ns.getD i Str.empty = x at hx hxx hlast
    have hxa := hNs.asc x hxx
    have F2 := k.F
    have N2 : News h₀ L s₁.heap ((C, oC) :: (Dl, lst ys) :: (Nm, lob vs c) :: (L + 1, oc) :: (194, tableObj ps) :: st) := fun q hq => k.N q (by
      simp only [List.mem_cons, List.mem_append, List.nil_append] at hq ⊢
      rcases hq with h | h | h | h | h | h <;> simp [h])
    have g2 := k.g
    have o2 := k.o
    clear F N k0
    k_steps
    refine EltEnd.intro [(Nm, lob vs c), (L + 1, oc), (194, tableObj ps)] F2 N2 g2 o2 (fun q hq => ?_) (fun q hq => ap2 q (by simp only [List.nil_append]; exact List.mem_append_right _ hq)) (fun p hp q hq => ap p hp q (by simpa using hq)) hS ⟨rfl, by rw [hlast]; exact strs_append1 _ _ hI⟩
    simp only [List.mem_cons, List.mem_append, List.not_mem_nil, or_false] at hq ⊢
    rcases hq with h | h | h | h | h | h <;> simp [h]
  · rintro ys led ⟨rfl, hI⟩ Lo s₂ k offC
    have hib : StrsAre ys (ns.map Txt.lower) := by
      rw [List.take_of_length_le (by simp; omega)] at hI; exact hI
    have F2 := k.F
    have N2 : News h₀ L s₂.heap [(Lo, lob ys ys.length), (Nm, lob vs c), (L + 1, oc), (194, tableObj ps)] := k.N
    have g2 := k.g
    have o2 := k.o
    clear F N k0
    k_steps
    unfold Stopped
    rename Fr _ _ _ _ => F5
    rename News _ _ _ _ => N5
    rw [← o2]
    have oC : ∀ q ∈ [(Nm, lob vs c), (L + 1, oc), (194, tableObj ps)], q.1 ≠ Lo := offC
    refine law5 (hfn := rfl) (c := ys.length) hh hroom hu hfr ⟨rfl, X.keeps F5.keep⟩ E0 F5 (fun q hq => N5 q ?_) (Ne.symm (oC (L + 1, oc) (by simp))) (Ne.symm (oC (194, tableObj ps) (by simp))) hN3 d1 g2 ht (low_names hNs hib)
    rcases List.mem_cons.mp hq with h | h
    · rw [h]; exact .head _
    · exact .tail _ (.tail _ h)
end Mine
end

section
open PySem PySem.W PySem.W.X PyProof.Rows PySem.Calls PySem.Spec
set_option Elab.async false
set_option maxRecDepth 100000
set_option maxHeartbeats 8000000
set_option linter.all false
namespace Mine
open PyProof.Rows.LCg (NsObj lst lst_snoc ns_obj)
variable {w : World} {A : Around} {E : Value → Shared → Prop} {s : Shared} {h₀ : Heap} {L : Addr} {m : Str → Option Value} {news news' : List (Addr × Obj)}
theorem set_strs {l : Addr} {vs : List Value} {c : Nat} {k : Int} {t u : Tok} {x : Str} {Q : Unit → Shared → Prop} (F : Fr h₀ L s.heap m) (Nw : News h₀ L s.heap news)
    (U : Upd l (lob vs c) (lob (vs.set k.toNat (.str x u)) c) news news') (h0 : 0 ≤ k) (h1 : k < vs.length) (hz : vs.length ≤ 1000)
    (h : ∀ h', Fr h₀ L h' m → News h₀ L h' news' → Q () { s with heap := h' }) : wpAny (model prog w) A (setItem (.ref l) (.int k t) (.str x u)) Q E s := by
  obtain ⟨pre, post, rfl, rfl, a, b⟩ := U.split
  have z := Nw (l, lob vs c) (List.mem_append.mpr (.inr (.head _)))
  refine ki_setAt z.1 h0 (by omega) (by simpa using h1) (h _ (F.change (Heap.SameBut.update ..) z.2.1 z.2.2) (ki_turn _ Nw a b ?_ ?_))
  · show vs.toArray.setIfInBounds k.toNat (.str x u) = _
    simp
  · simp
theorem getk_list {l : Addr} {vs : List Value} {k : Int} {v : Value} {u : Tok} {Q : Value → Shared → Prop} (hl : s.heap.IsList l vs.toArray) (h0 : 0 ≤ k) (hz : k < 1000) (hx : vs[k.toNat]? = some v) (h : Q v s) :
    wpAny (model prog w) A (getItem (.ref l) (.int k u)) Q E s := wpAny_getItem_list hl h0 (by omega) (by simpa using hx) h
theorem itemk_list {l : Addr} {vs : List Value} {k : Int} {v : Value} {value slice : PySem.Expr} {u : Tok} {Q : Value → Shared → Prop} (hl : s.heap.IsList l vs.toArray) (h0 : 0 ≤ k) (hz : k < 1000) (hx : vs[k.toNat]? = some v) (h : Q v s)
    (hs : subscripted slice false (.ref l) (.int k u) = operate [.ref l, .int k u] (getItem (.ref l) (.int k u)) := by with_unfolding_all rfl) :
    wpAny (model prog w) A (subscriptTail value slice (.ref l) (.int k u)) Q E s :=
  tail_any hl.typeIs slot_list_getitem.lookup (getk_list hl h0 hz hx h) hs
theorem strs_set : ∀ {vs : List Value} {ns : List Str} (i : Nat) (x : Str) (t : Tok), StrsAre vs ns → StrsAre (vs.set i (.str x t)) (ns.set i x)
  | _, _, _, x, t, .nil => .nil
  | _, _, 0, x, t, .cons y u h => .cons x t h
  | _, _, i + 1, x, t, .cons y u h => .cons y u (strs_set i x t h)
theorem names_set {vs : List Value} {ns : List Str} {i : Nat} {x : Str} {t : Tok} (h : Names vs ns) (hx : (∀ c ∈ x.cps.toList, c < 128) ∧ x.length ≤ 8) : Names (vs.set i (.str x t)) (ns.set i x) := by
  obtain ⟨hia, hn0, hn4, ha⟩ := h
  refine ⟨strs_set i x t hia, by simpa using hn0, by simpa using hn4, fun y hy => ?_⟩
  rcases List.mem_or_eq_of_mem_set hy with h | rfl
  · exact ha y h
  · exact hx
theorem names_at {vs : List Value} {ns : List Str} {k : Int} (h : Names vs ns) (h0 : 0 ≤ k) (h1 : k < ns.length) : ∃ x t, vs[k.toNat]? = some (.str x t) ∧ (∀ c ∈ x.cps.toList, c < 128) ∧ x.length ≤ 8 := by
  have hl := StrsAre.length h.are
  have hi : k.toNat < vs.length := by omega
  obtain ⟨t, e⟩ := strs_at h.are k.toNat vs[k.toNat] (List.getElem?_eq_getElem hi)
  refine ⟨_, t, (List.getElem?_eq_getElem hi).trans (congrArg some e), h.asc _ ?_⟩
  have hi2 : k.toNat < ns.length := by omega
  rw [List.getD_eq_getElem?_getD, List.getElem?_eq_getElem hi2]
  exact List.getElem_mem hi2
end Mine
end

section
local macro_rules | `(tactic| walk_at "pad") => `(tactic| skip)
local macro_rules | `(tactic| walk_at "pad") => `(tactic| skip)
local macro_rules | `(tactic| walk_at "pad") => `(tactic| skip)
local macro_rules | `(tactic| walk_at "pad") => `(tactic| skip)
local macro_rules | `(tactic| walk_at "pad") => `(tactic| skip)
local macro_rules | `(tactic| walk_at "pad") => `(tactic| skip)
open PySem PySem.W PySem.W.X PyProof.Rows PySem.Calls PySem.Spec
set_option Elab.async false
set_option maxRecDepth 100000
set_option maxHeartbeats 8000000
set_option pp.deepTerms false
set_option pp.deepTerms.threshold 6
set_option pp.structureInstances false
set_option linter.all false
namespace Mine
open PyProof.Rows.LCg (NsObj lst lst_snoc ns_obj)
variable {w : World} {p : Program} {loose : List Str} {mg mb : Str → Option Value} {bm : Addr} {ob : Obj} {s : Shared} {A : Around}
local macro_rules | `(tactic| walk_at "subscriptTail") => `(tactic| ((with_reducible show wpAny _ _ (subscriptTail _ _ (Value.ref _) (Value.int _ _)) _ _ _); refine Stopped.mk ?_))
local macro_rules | `(tactic| walk_at "subscriptTail") => `(tactic| ((with_reducible show wpAny _ _ (subscriptTail _ _ (Value.str _ _) (Value.int _ _)) _ _ _); refine Stopped.mk ?_))
local macro_rules | `(tactic| walk_at "getItem") => `(tactic| (refine Stopped.mk ?_))
local macro_rules | `(tactic| walk_at "setItem ref int") => `(tactic| (refine Stopped.mk ?_))
theorem letter_at {q : Int} (h0 : 0 ≤ q) (h1 : q < 8) : (∀ c ∈ (Txt.item (Str.ofString "BLSTAEOU") q).cps.toList, c < 128) ∧ (Txt.item (Str.ofString "BLSTAEOU") q).length = 1 := by
  have e : q = (q.toNat : Int) := by omega
  have hl : (Str.ofString "BLSTAEOU").length = 8 := by decide +kernel
  rw [e, item_one (by omega)]
  refine ⟨fun c hc => ?_, rfl⟩
  have ha : ∀ i < 8, (Str.ofString "BLSTAEOU").cps.toList.getD i 0 < 128 := by decide +kernel
  have hc2 : c ∈ [(Str.ofString "BLSTAEOU").cps.toList.getD q.toNat 0] := hc
  rw [List.mem_singleton.mp hc2]
  exact ha q.toNat (by omega)
def Body3End (h₀ : Heap) (L Nm : Addr) (K z : Int) (tK tz : Tok) (m : Str → Option Value) (c : Nat) (led : List (Addr × Obj)) (s : Shared) (f : Flow) (s' : Shared) : Prop :=
  f = .next ∧ ∃ kv vs' ns', Names vs' ns' ∧ (ns'.length : Int) = K ∧ Fr h₀ L s'.heap (fun y => if y = Str.ofString "k" then some kv else if y = Str.ofString "number" then some (.int z tz) else if y = Str.ofString "names" then some (.ref Nm) else if y = Str.ofString "many" then some (.int K tK) else m y) ∧ News h₀ L s'.heap ((Nm, lob vs' c) :: led) ∧ s'.gens = s.gens ∧ s'.os = s.os
theorem body3 {whole body : List Stmt} {scope : Scope} {name qual : Str} {params : Arguments} {dV kV doc pm cdv ct oc' : Value} {an od' : Option Addr} {osl : Array (Option Value)} {t it : Expr} {pos : Pos}
   (hfn : (hd.heap_39 w.params).lookup 233 = some ⟨oc', od', .func (fnOf name qual params whole scope dV kV doc pm an cdv ct), osl⟩) (hb : whole[3]? = some (.For t it body [] pos))
   {fa : Addr} {cd : Value} {h₀ : Heap} {L Nm : Addr} {m : Str → Option Value} {vs : List Value} {c : Nat} {ns : List Str} {K z : Int} {tK tz : Tok} {led : List (Addr × Obj)}
   (hh : A.handled = none) (hroom : A.depth + 10 < recursionLimit) (hu : A.units + 10 < cLine)
   (he : PySem.Challenge.rw_fq5033_01.row.prog = PySem.Challenge.rw_fq5033_01.row.prog ∧ (hd.heap_39 w.params).In s.heap)
   (E0 : Env0 w p loose mg mb bm ob h₀) (F : Fr h₀ L s.heap (fun y => if y = Str.ofString "number" then some (.int z tz) else if y = Str.ofString "names" then some (.ref Nm) else if y = Str.ofString "many" then some (.int K tK) else m y))
   (N : News h₀ L s.heap ((Nm, lob vs c) :: led)) (hap : ∀ q ∈ led, q.1 ≠ Nm) (hNs : Names vs ns) (hK : K = 3 ∨ K = 4) (hlen : (ns.length : Int) = K) :
   wpAny (model prog w) (A.deeper (envOfC qual scope L fa cd)) (execs body (envOfC qual scope L fa cd))
     (Body3End h₀ L Nm K z tK tz m c led s) (fun _ _ => False) s := by
  have e := (show (hd.heap_39 w.params).lookup 233 = some _ from rfl).symm.trans hfn
  injection e with e
  injection e with e1 e2 e3 e4
  injection e3 with e3
  unfold fnOf at e3
  injection e3 with k1 k2 k3 k4 k5 k6 k7 k8 k9 k10 k11 k12 k13
  injection k4 with k4
  subst k2 k5 k4
  have hb2 := (rfl : _ = _).symm.trans hb
  clear hb
  dsimp only [List.getElem?_cons_succ, List.getElem?_cons_zero] at hb2
  injection hb2 with hb2
  injection hb2 with q1 q2 q3 q4 q5
  subst q3
  clear hfn q1 q2 q4 q5 e1 e2 e4 k1 k3 k6 k7 k8 k9 k10 k11 k12
  revert he; k_fill; intro he
  have X := E0.k
  have T := E0.t
  have M := E0.b
  have hia := hNs.are
  have hvl : vs.length = ns.length := StrsAre.length hia
  have hn4 := hNs.four
  have hn0 := hNs.pos
  have hK1 : 3 ≤ K := by omega
  have hK2 : K ≤ 4 := by omega
  have hK0 : K ≠ 0 := by omega
  k_steps
  have hk0 : 0 ≤ z.fmod K := Int.fmod_nonneg_of_pos z (by omega)
  have hk1 : z.fmod K < K := Int.fmod_lt_of_pos z (by omega)
  unfold Stopped
  generalize z.fmod K = kk at *
  obtain ⟨x, tx, hx, hxa, hxl⟩ := names_at (k := kk) hNs hk0 (by omega)
  rename Fr _ _ _ _ => F2
  rename News _ _ _ _ => N2
  refine itemk_list (vs := vs) ⟨_, (N2 _ (.head _)).1, rfl, _, rfl⟩ hk0 (by omega) hx ?_
  k_steps
  · rename Fr _ _ _ _ => F3
    unfold Stopped
    refine getk_list (vs := vs) ⟨_, (N2 _ (.head _)).1, rfl, _, rfl⟩ hk0 (by omega) hx ?_
    k_steps
    unfold Stopped
    have g0 : 0 ≤ (z.fdiv K).fmod 8 := Int.fmod_nonneg_of_pos _ (by omega)
    have g1 : (z.fdiv K).fmod 8 < 8 := Int.fmod_lt_of_pos _ (by omega)
    generalize (z.fdiv K).fmod 8 = q at *
    have hl8 : (Str.ofString "BLSTAEOU").length = 8 := by decide +kernel
    obtain ⟨hla, hl1⟩ := letter_at g0 g1
    refine item_str (fitsSsize_of (N := 9223372036854775808) (by omega) (by omega) (Int.le_refl _)) (by omega) (by omega) ?_
    intro _
    generalize Txt.item (Str.ofString "BLSTAEOU") q = ch at *
    k_steps
    unfold Stopped
    have hnew : (∀ c ∈ (x ++ ch).cps.toList, c < 128) ∧ (x ++ ch).length ≤ 8 := by
      refine ⟨fun c hc => ?_, by omega⟩
      have e : (x ++ ch).cps.toList = x.cps.toList ++ ch.cps.toList := by
        show (x.cps ++ ch.cps).toList = _
        simp
      rw [e] at hc
      rcases List.mem_append.mp hc with h | h
      · exact hxa c h
      · exact hla c h
    refine set_strs (u := _) F3 N2 (.head hap) hk0 (by omega) (by omega) fun h3 F4 N4 => ?_
    k_steps
    exact ⟨rfl, _, _, _, names_set hNs hnew, by simpa using hlen, F4, N4, rfl, rfl⟩
  · exact ⟨rfl, _, vs, ns, hNs, hlen, by assumption, by assumption, rfl, rfl⟩
end Mine
end

section
open PySem PySem.W PySem.W.X PyProof.Rows PySem.Calls PySem.Spec
set_option Elab.async false
set_option maxRecDepth 100000
set_option maxHeartbeats 8000000
set_option pp.deepTerms false
set_option pp.deepTerms.threshold 6
set_option pp.structureInstances false
set_option linter.all false
namespace Mine
open PyProof.Rows.LCg (NsObj lst lst_snoc ns_obj)
variable {w : World} {p : Program} {loose : List Str} {mg mb : Str → Option Value} {bm : Addr} {ob : Obj} {s : Shared} {A : Around}
theorem ints_at : ∀ {vs : List Value} {ns : List Int}, IntsAre vs ns → ∀ (i : Nat) (v : Value), vs[i]? = some v → ∃ z t, v = .int z t
  | _, _, .nil, i, v, h => by simp at h
  | _, _, .cons n t hr, 0, v, h => by simp at h; exact ⟨n, t, h.symm⟩
  | _, _, .cons n t hr, i + 1, v, h => by
    simp only [List.getElem?_cons_succ] at h
    exact ints_at hr i v h
theorem fr_front1 {h₀ h : Heap} {L : Addr} {m3 : Str → Option Value} {k0 k1 k2 : Str} {a b : Value} {v : Option Value} (F : Fr h₀ L h (fun y => if y = k0 then v else m3 y)) (ha : m3 k1 = some a) (hb : m3 k2 = some b) : Fr h₀ L h (fun y => if y = k0 then v else if y = k1 then some a else if y = k2 then some b else m3 y) :=
  (congrArg (fun g => Fr h₀ L h (fun y => if y = k0 then v else g y)) (two_front ha hb)).mp F
theorem list_keep {h₀ h : Heap} {l : Addr} {its : Array Value} (hl : h₀.IsList l its) (k : ∀ b o, h₀.get? b = some o → h.get? b = some o) : h.IsList l its := by
  obtain ⟨o, e, r⟩ := hl
  exact ⟨o, k _ _ e, r⟩
local macro_rules | `(tactic| walk_at "subscriptTail") => `(tactic| ((with_reducible show wpAny _ _ (subscriptTail _ _ (Value.ref _) (Value.ref _)) _ _ _); refine Stopped.mk ?_))
theorem law3 {body : List Stmt} {scope : Scope} {name qual : Str} {params : Arguments} {dV kV doc pm cdv ct oc' : Value} {an od' : Option Addr} {osl : Array (Option Value)}
   (hfn : (hd.heap_39 w.params).lookup 233 = some ⟨oc', od', .func (fnOf name qual params body scope dV kV doc pm an cdv ct), osl⟩)
   {fa : Addr} {cd : Value} {h₀ : Heap} {L Nm sc : Addr} {m : Str → Option Value} {oc : Obj} {vs zs : List Value} {is : List Int} {c : Nat} {ns : List Str} {ps : Array Value} {b : Bool} {K : Int} {tK : Tok}
   (hh : A.handled = none) (hroom : A.depth + 10 < recursionLimit) (hu : A.units + 10 < cLine) (hfr : A.frames = some [])
   (he : PySem.Challenge.rw_fq5033_01.row.prog = PySem.Challenge.rw_fq5033_01.row.prog ∧ (hd.heap_39 w.params).In s.heap)
   (E0 : Env0 w p loose mg mb bm ob h₀) (F : Fr h₀ L s.heap (fun y => if y = Str.ofString "names" then some (.ref Nm) else if y = Str.ofString "small" then some (.bool b) else if y = Str.ofString "many" then some (.int K tK) else if y = Str.ofString "script" then some (.ref sc) else m y))
   (N : News h₀ L s.heap [(Nm, lob vs c), (L + 1, oc), (194, tableObj ps)]) (hN1 : @Ne Nat Nm (L + 1)) (hN2 : @Ne Nat Nm 194) (hN3 : @Ne Nat (L + 1) 194) (d1 : oc.data = .cell none) (hg : AllBare s.gens) (ht : TriplesOk ps.toList) (hNs : Names vs ns)
   (hK : K = 3 ∨ K = 4) (hlen : (ns.length : Int) = K) (hS : h₀.IsList sc zs.toArray) (hI : IntsAre zs is) (hz : zs.length ≤ 63) :
   wpAny (model prog w) (A.deeper (envOfC qual scope L fa cd)) (execs (body.drop 3) (envOfC qual scope L fa cd))
     (LawEnd h₀ s.os) (fun _ _ => False) s := by
  have e := (show (hd.heap_39 w.params).lookup 233 = some _ from rfl).symm.trans hfn
  injection e with e
  injection e with e1 e2 e3 e4
  injection e3 with e3
  unfold fnOf at e3
  injection e3 with k1 k2 k3 k4 k5 k6 k7 k8 k9 k10 k11 k12 k13
  injection k4 with k4
  subst k2 k5 k4
  clear hfn e1 e2 e4 k1 k3 k6 k7 k8 k9 k10 k11 k12
  dsimp only [List.drop]
  revert he; k_fill; intro he
  have X := E0.k
  have T := E0.t
  have M := E0.b
  refine wpAny_execs_cons ?_
  refine for_coreF F rfl rfl ?_ (fun _ => by with_unfolding_all rfl)
  k_steps
  rename_i D2 ws h2 F2 N2 hws hC hle l2
  have hwl : ws.length ≤ 63 := by rw [hws.length]; omega
  obtain ⟨l3, l4, l5⟩ := l2
  have n3 := Nat.ne_of_gt l3
  have n4 := Nat.ne_of_gt l4
  have n5 := Nat.ne_of_gt l5
  have hDI : D2 ≠ h2.objs.size := Nat.ne_of_lt (Heap.lt_size (N2 _ (.head _)).1)
  refine wpAny_pyIter_list (items := ws.toArray) ⟨_, (N2 _ (.head _)).1, rfl, _, rfl⟩ ?_
  refine ⟨_, ws.toArray.size, _, _, _, [(_, _)], [(D2, lob ws 0), (Nm, lob vs c), (L + 1, oc), (194, tableObj ps)], _, s.os,
    fun i m' led => ∃ vs ns, led = [(D2, lob ws 0), (Nm, lob vs c), (L + 1, oc), (194, tableObj ps)] ∧ Names vs ns ∧ (ns.length : Int) = K ∧ m' (Str.ofString "names") = some (.ref Nm) ∧ m' (Str.ofString "many") = some (.int K tK) ∧ m' (Str.ofString "small") = some (.bool b),
    rfl, feed_list (A := A.deeper _) (ax := D2) (its := ws.toArray) hh hDI, OK.push (OK.mk' F2 N2 hg rfl), ⟨_, rfl, fun h e => ⟨_, e, rfl, rfl⟩⟩, .inr ⟨_, .head _, rfl, _, rfl⟩, ?_, ⟨vs, ns, rfl, hNs, hlen, rfl, rfl, rfl⟩, ?_, ?_⟩
  · intro p hp q hq
    rw [List.mem_singleton.mp hp]
    exact Nat.ne_of_lt (Heap.lt_size (N2 q hq).1)
  · rintro i v ex st m' led s₁ hi1 ⟨hv, rfl⟩ ⟨vs1, ns1, rfl, hNs1, hlen1, hm1, hm2, hm3⟩ k hap1 hap2 hS1
    obtain ⟨z, tz, rfl⟩ := ints_at hws i v (by simpa using hv)
    have F3 := fr_front1 k.F hm1 hm2
    have N3 : News h₀ L s₁.heap ((Nm, lob vs1 c) :: ((L + 1, oc) :: (194, tableObj ps) :: (D2, lob ws 0) :: st)) := fun q hq => k.N q (by
      simp only [List.mem_cons, List.mem_append, List.nil_append] at hq ⊢
      rcases hq with h | h | h | h | h <;> simp [h])
    refine wpAny_mono (body3 (hfn := rfl) (hb := rfl) hh hroom hu ⟨rfl, X.keeps F3.keep⟩ E0 F3 N3 (fun q hq => ?_) hNs1 hK hlen1) (fun f s' hB => ?_) (fun _ _ e => e)
    · simp only [List.mem_cons] at hq
      rcases hq with rfl | rfl | rfl | h
      · exact hN1.symm
      · exact hN2.symm
      · exact n3
      · exact Ne.symm (hap1 q h (Nm, lob vs1 c) (by simp))
    · obtain ⟨rfl, kv, vs2, ns2, hNs2, hlen2, F4, N4, g4, o4⟩ := hB
      refine BodyEnd.intro [(D2, lob ws 0), (Nm, lob vs2 c), (L + 1, oc), (194, tableObj ps)] F4 N4 (g4 ▸ k.g) (o4.trans k.o) (fun q hq => ?_) (fun p hp q hq => ?_) (.inr ⟨_, .head _, rfl, _, rfl⟩) ⟨vs2, ns2, rfl, hNs2, hlen2, rfl, rfl, hm3⟩
      · simp only [List.mem_cons, List.mem_append, List.not_mem_nil, or_false] at hq ⊢
        rcases hq with h | h | h | h | h <;> simp [h]
      · simp only [List.mem_cons, List.not_mem_nil, or_false] at hq
        rcases hq with rfl | rfl | rfl | rfl
        · exact hap1 p hp (D2, lob ws 0) (by simp)
        · exact hap1 p hp (Nm, lob vs1 c) (by simp)
        · exact hap1 p hp (L + 1, oc) (by simp)
        · exact hap1 p hp (194, tableObj ps) (by simp)
  · rintro m' led s' ⟨vs1, ns1, rfl, hNs1, hlen1, hm1, hm2, hm3⟩ k
    have F5 := fr_front k.F hm1 hm3
    show wpAny _ _ (execs _ _) (LawEnd h₀ s.os) _ s'
    rw [← k.o]
    exact law4 (hfn := rfl) hh hroom hu hfr ⟨rfl, X.keeps F5.keep⟩ E0 F5 (fun q hq => k.N q (.tail _ hq)) hN1 hN2 hN3 d1 k.g ht hNs1
end Mine
end

section
local macro_rules | `(tactic| walk_at "pad") => `(tactic| skip)
local macro_rules | `(tactic| walk_at "pad") => `(tactic| skip)
open PySem PySem.W PySem.W.X PyProof.Rows PySem.Calls PySem.Spec
set_option Elab.async false
set_option maxRecDepth 100000
set_option maxHeartbeats 8000000
set_option pp.deepTerms false
set_option pp.deepTerms.threshold 6
set_option pp.structureInstances false
set_option linter.all false
namespace Mine
open PyProof.Rows.LCg (NsObj lst lst_snoc ns_obj)
variable {w : World} {p : Program} {loose : List Str} {mg mb : Str → Option Value} {bm : Addr} {ob : Obj} {s : Shared} {A : Around}
local macro_rules | `(tactic| walk_at "exec Assign cons ListComp") => `(tactic| ((with_reducible rename Fr _ _ _ _ => kF); k_dflt (refine' assign_coreF kF ?z1 ?z2 ?z3 ?z4 ?z5 ?z6 ?z7 ?_ ?z8; (case z1 => first | exact rfl | with_unfolding_all rfl); (case z2 => first | exact rfl | with_unfolding_all rfl); (case z3 => decide); (case z4 => exact rfl); (case z5 => decide); (case z6 => exact rfl); (case z7 => exact rfl); (case z8 => (intro _; first | exact rfl | with_unfolding_all rfl)))))
local macro_rules | `(tactic| walk_at "eval ListComp") => `(tactic| ((with_reducible rename Fr _ _ _ _ => kF); k_dflt (refine' comp_coreF kF ?z1 ?z2 ?z3 ?z4 ?_ ?z5; (case z1 => first | exact rfl | with_unfolding_all rfl); (case z2 => decide); (case z3 => exact rfl); (case z4 => decide); (case z5 => (intro _; first | exact rfl | with_unfolding_all rfl)))))
local macro_rules | `(tactic| walk_at "eval Name") => `(tactic| ((with_reducible show wpAny _ _ (eval (Expr.Name _ _) (compEnvC _ _ _ _)) _ _ _); k_dflt (first
  | (refine' ce_own ?N ?m ?C ?x ?_ ?a ?b; (case a => rfl); (case b => rfl); (case N => assumption); (case m => k_mem); (case C => assumption); (case x => assumption))
  | (refine' ce_cell ?N ?c ?m ?d ?_ ?a ?b; (case a => rfl); (case b => rfl); (case N => assumption); (case c => rfl); (case m => k_mem); (case d => assumption))
  | (refine' ce_global ?F ?X ?T ?e ?_ ?g ?a ?b; (case a => rfl); (case b => rfl); (case g => rfl); (case F => assumption); (case X => assumption); (case T => assumption); (case e => k_is))
  | (refine' ce_built ?F ?X ?T ?e ?v ?n ?_ ?g ?g2 ?a ?b; (case a => rfl); (case b => rfl); (case g => rfl); (case g2 => rfl); (case F => assumption); (case X => assumption); (case T => assumption); (case e => k_is); (case v => boot_by_name); (case n => decide)))))
theorem strs_rep : ∀ {ys : List Value} {n : Nat} (x : Str) (t : Tok), StrsAre ys (List.replicate n x) → StrsAre (ys ++ [.str x t]) (List.replicate (n + 1) x) := by
  intro ys n x t h
  rw [List.replicate_succ']
  exact strs_append1 x t h
theorem names_rep {ys : List Value} {n : Nat} (h : StrsAre ys (List.replicate n (Str.ofString ""))) (hn : n = 3 ∨ n = 4) : Names ys (List.replicate n (Str.ofString "")) := by
  refine ⟨h, by simp; omega, by simp; omega, fun x hx => ?_⟩
  rw [List.eq_of_mem_replicate hx]
  exact ⟨fun c hc => (nomatch hc), by decide⟩
theorem law2 {body : List Stmt} {scope : Scope} {name qual : Str} {params : Arguments} {dV kV doc pm cdv ct oc' : Value} {an od' : Option Addr} {osl : Array (Option Value)}
   (hfn : (hd.heap_39 w.params).lookup 233 = some ⟨oc', od', .func (fnOf name qual params body scope dV kV doc pm an cdv ct), osl⟩)
   {fa : Addr} {cd : Value} {h₀ : Heap} {L sc : Addr} {m : Str → Option Value} {oc : Obj} {zs : List Value} {is : List Int} {ps : Array Value} {b : Bool} {K : Nat} {tK : Tok}
   (hh : A.handled = none) (hroom : A.depth + 10 < recursionLimit) (hu : A.units + 10 < cLine) (hfr : A.frames = some [])
   (he : PySem.Challenge.rw_fq5033_01.row.prog = PySem.Challenge.rw_fq5033_01.row.prog ∧ (hd.heap_39 w.params).In s.heap)
   (E0 : Env0 w p loose mg mb bm ob h₀) (F : Fr h₀ L s.heap (fun y => if y = Str.ofString "small" then some (.bool b) else if y = Str.ofString "many" then some (.int (K : Int) tK) else if y = Str.ofString "script" then some (.ref sc) else m y))
   (N : News h₀ L s.heap [(L + 1, oc), (194, tableObj ps)]) (hN3 : @Ne Nat (L + 1) 194) (d1 : oc.data = .cell none) (hg : AllBare s.gens) (ht : TriplesOk ps.toList)
   (hK : K = 3 ∨ K = 4) (hS : h₀.IsList sc zs.toArray) (hI : IntsAre zs is) (hz : zs.length ≤ 63) :
   wpAny (model prog w) (A.deeper (envOfC qual scope L fa cd)) (execs (body.drop 2) (envOfC qual scope L fa cd))
     (LawEnd h₀ s.os) (fun _ _ => False) s := by
  have e := (show (hd.heap_39 w.params).lookup 233 = some _ from rfl).symm.trans hfn
  injection e with e
  injection e with e1 e2 e3 e4
  injection e3 with e3
  unfold fnOf at e3
  injection e3 with k1 k2 k3 k4 k5 k6 k7 k8 k9 k10 k11 k12 k13
  injection k4 with k4
  subst k2 k5 k4
  clear hfn e1 e2 e4 k1 k3 k6 k7 k8 k9 k10 k11 k12
  dsimp only [List.drop]
  revert he; k_fill; intro he
  have X := E0.k
  have T := E0.t
  have M := E0.b
  have hK3 : (3 : Int) ≤ (K : Int) := by omega
  have hK4 : (K : Int) ≤ 4 := by omega
  k_steps
  rename IsRange _ _ _ _ _ _ _ _ => rg
  rename Fr _ _ _ _ => F4
  rename News _ _ _ _ => N4
  refine wpAny_pyIter_range rg (small_one (by omega) (by omega) (by omega) (by omega)) ?_
  have hnn : Builtin.Range.rangeSize 0 ((K : Nat) : Int) 1 = ((K : Nat) : Int) := by
    rw [rangeSize_one]
    split <;> omega
  refine comp_feed (st₀ := [(_, _)]) (led₀ := [(L + 1, oc), (194, tableObj ps)]) (n := K)
    (fun i ys led => led = [(L + 1, oc), (194, tableObj ps)] ∧ StrsAre ys (List.replicate i (Str.ofString "")))
    rfl rfl (feed_range (A := A.deeper _) hh 0 K) (by rw [sizeLine_eq]; omega) (OK.push (OK.mk' F4 N4 hg rfl)) ⟨_, rfl, fun h e => by rw [hnn] at e; simpa using e⟩ trivial ?_ ⟨rfl, .nil⟩ ?_ ?_ ?_
  · intro p hp q hq
    rw [List.mem_singleton.mp hp]
    exact Nat.ne_of_lt (Heap.lt_size (N4 q hq).1)
  · rintro i ys led ⟨rfl, hJ⟩
    rw [StrsAre.length hJ]; simp
  · rintro i v ex st ys led C Dl oC mC s₁ E hi1 ⟨⟨t, rfl⟩, rfl⟩ ⟨rfl, hJ⟩ hC hx k hCD ap2 ap hS
    have F2 := k.F
    have N2 : News h₀ L s₁.heap ((C, oC) :: (Dl, lst ys) :: (L + 1, oc) :: (194, tableObj ps) :: st) := fun q hq => k.N q (by
      simp only [List.mem_cons, List.mem_append, List.nil_append] at hq ⊢
      rcases hq with h | h | h | h | h <;> simp [h])
    have g2 := k.g
    have o2 := k.o
    clear F4 N4
    k_steps
    refine EltEnd.intro [(L + 1, oc), (194, tableObj ps)] F2 N2 g2 o2 (fun q hq => ?_) (fun q hq => ap2 q (by simp only [List.nil_append]; exact List.mem_append_right _ hq)) (fun p hp q hq => ap p hp q (by simpa using hq)) trivial ⟨rfl, strs_rep _ _ hJ⟩
    simp only [List.mem_cons, List.mem_append, List.not_mem_nil, or_false] at hq ⊢
    rcases hq with h | h | h | h | h <;> simp [h]
  · rintro ys led ⟨rfl, hJ⟩ Nm s₂ k offC
    have F2 := k.F
    have N2 : News h₀ L s₂.heap [(Nm, lob ys ys.length), (L + 1, oc), (194, tableObj ps)] := k.N
    have g2 := k.g
    have o2 := k.o
    have oC : ∀ q ∈ [(L + 1, oc), (194, tableObj ps)], q.1 ≠ Nm := offC
    show wpAny _ _ (execs _ _) (LawEnd h₀ s.os) _ s₂
    rw [← o2]
    exact law3 (hfn := rfl) hh hroom hu hfr ⟨rfl, X.keeps F2.keep⟩ E0 F2 N2 (Ne.symm (oC (L + 1, oc) (by simp))) (Ne.symm (oC (194, tableObj ps) (by simp))) hN3 d1 g2 ht (names_rep hJ hK) (by omega) (by simp) hS hI hz
end Mine
end

section
local macro_rules | `(tactic| walk_at "pad") => `(tactic| skip)
local macro_rules | `(tactic| walk_at "pad") => `(tactic| skip)
local macro_rules | `(tactic| walk_at "pad") => `(tactic| skip)
local macro_rules | `(tactic| walk_at "pad") => `(tactic| skip)
local macro_rules | `(tactic| walk_at "pad") => `(tactic| skip)
local macro_rules | `(tactic| walk_at "pad") => `(tactic| skip)
open PySem PySem.W PySem.W.X PyProof.Rows PySem.Calls PySem.Spec
set_option Elab.async false
set_option maxRecDepth 100000
set_option maxHeartbeats 8000000
set_option pp.deepTerms false
set_option pp.deepTerms.threshold 6
set_option pp.structureInstances false
set_option linter.all false
namespace Mine
open PyProof.Rows.LCg (NsObj lst lst_snoc ns_obj)
variable {w : World} {p : Program} {loose : List Str} {mg mb : Str → Option Value} {bm : Addr} {ob : Obj} {s : Shared} {A : Around}
theorem fr_front3 {h₀ h : Heap} {L : Addr} {m3 : Str → Option Value} {k1 k2 k3 : Str} {a b c : Value} (F : Fr h₀ L h m3) (ha : m3 k1 = some a) (hb : m3 k2 = some b) (hc : m3 k3 = some c) : Fr h₀ L h (fun y => if y = k1 then some a else if y = k2 then some b else if y = k3 then some c else m3 y) := by
  have e : m3 = (fun y => if y = k1 then some a else if y = k2 then some b else if y = k3 then some c else m3 y) := by
    funext y
    by_cases h1 : y = k1
    · rw [h1, if_pos rfl]; exact ha
    · rw [if_neg h1]
      by_cases h2 : y = k2
      · rw [h2, if_pos rfl]; exact hb
      · rw [if_neg h2]
        by_cases h3 : y = k3
        · rw [h3, if_pos rfl]; exact hc
        · rw [if_neg h3]
  rw [← e]; exact F
local macro_rules | `(tactic| walk_at "unpackItems ref") => `(tactic| (k_dflt (refine' unpackItemsN_ ?k1 ?k2 ?k3 ?k4 ?k5 ?_; (case k1 => k_asm); (case k2 => k_asm); (case k3 => kun_tup); (case k4 => assumption); (case k5 => exact rfl)); intro h' F' N'))
local macro_rules | `(tactic| walk_at "execs cons") => `(tactic| ((with_reducible show wpAny _ _ (execs (Stmt.Assign [Expr.Name _ _] (Expr.ListComp (Expr.Constant _ _ _) _ _ _) _ :: _) _) _ _ _); refine Stopped.mk ?_))
theorem law1 {body : List Stmt} {scope : Scope} {name qual : Str} {params : Arguments} {dV kV doc pm cdv ct oc' : Value} {an od' : Option Addr} {osl : Array (Option Value)}
   (hfn : (hd.heap_39 w.params).lookup 233 = some ⟨oc', od', .func (fnOf name qual params body scope dV kV doc pm an cdv ct), osl⟩)
   {fa : Addr} {cd : Value} {h₀ : Heap} {L sc : Addr} {m : Str → Option Value} {oc : Obj} {zs : List Value} {is : List Int} {ps : Array Value} {z : Int} {tz : Tok}
   (hh : A.handled = none) (hroom : A.depth + 10 < recursionLimit) (hu : A.units + 10 < cLine) (hfr : A.frames = some [])
   (he : PySem.Challenge.rw_fq5033_01.row.prog = PySem.Challenge.rw_fq5033_01.row.prog ∧ (hd.heap_39 w.params).In s.heap)
   (E0 : Env0 w p loose mg mb bm ob h₀) (F : Fr h₀ L s.heap (fun y => if y = Str.ofString "head" then some (.int z tz) else if y = Str.ofString "script" then some (.ref sc) else m y))
   (N : News h₀ L s.heap [(L + 1, oc), (194, tableObj ps)]) (hN3 : @Ne Nat (L + 1) 194) (d1 : oc.data = .cell none) (hg : AllBare s.gens) (ht : TriplesOk ps.toList)
   (hS : h₀.IsList sc zs.toArray) (hI : IntsAre zs is) (hz : zs.length ≤ 63) :
   wpAny (model prog w) (A.deeper (envOfC qual scope L fa cd)) (execs (body.drop 1) (envOfC qual scope L fa cd))
     (LawEnd h₀ s.os) (fun _ _ => False) s := by
  have e := (show (hd.heap_39 w.params).lookup 233 = some _ from rfl).symm.trans hfn
  injection e with e
  injection e with e1 e2 e3 e4
  injection e3 with e3
  unfold fnOf at e3
  injection e3 with k1 k2 k3 k4 k5 k6 k7 k8 k9 k10 k11 k12 k13
  injection k4 with k4
  subst k2 k5 k4
  clear hfn e1 e2 e4 k1 k3 k6 k7 k8 k9 k10 k11 k12
  try dsimp only [List.drop]
  revert he; k_fill; intro he
  have X := E0.k
  have T := E0.t
  have M := E0.b
  k_steps
  unfold Stopped
  rename Fr _ _ _ _ => F2
  rename News _ _ _ _ => N2
  have hz0 : 0 ≤ z.fmod 2 := Int.fmod_nonneg_of_pos z (by decide)
  have hz1 : z.fmod 2 < 2 := Int.fmod_lt_of_pos z (by decide)
  obtain ⟨K, hK, eK⟩ : ∃ K : Nat, (K = 3 ∨ K = 4) ∧ 3 + z.fmod 2 = (K : Int) := ⟨(3 + z.fmod 2).toNat, by omega, by omega⟩
  rw [eK] at F2
  have F3 := fr_front3 (k1 := Str.ofString "small") (k2 := Str.ofString "many") (k3 := Str.ofString "script") (c := .ref sc) F2 (by rfl) (by rfl) (by rfl)
  exact law2 (hfn := rfl) hh hroom hu hfr ⟨rfl, X.keeps F3.keep⟩ E0 F3 (fun q hq => N2 q (.tail _ hq)) hN3 d1 hg ht hK hS hI hz
local macro_rules | `(tactic| walk_at "execs cons") => `(tactic| ((with_reducible show wpAny _ _ (execs (Stmt.Assign [Expr.Tuple _ _ _] _ _ :: _) _) _ _ _); refine Stopped.mk ?_))
theorem law0 {body : List Stmt} {scope : Scope} {name qual : Str} {params : Arguments} {dV kV doc pm cdv ct oc' : Value} {an od' : Option Addr} {osl : Array (Option Value)}
   (hfn : (hd.heap_39 w.params).lookup 233 = some ⟨oc', od', .func (fnOf name qual params body scope dV kV doc pm an cdv ct), osl⟩)
   {fa : Addr} {cd : Value} {h₀ : Heap} {L sc : Addr} {m : Str → Option Value} {oc : Obj} {zs : List Value} {is : List Int} {ps : Array Value} 
   (hh : A.handled = none) (hroom : A.depth + 10 < recursionLimit) (hu : A.units + 10 < cLine) (hfr : A.frames = some [])
   (he : PySem.Challenge.rw_fq5033_01.row.prog = PySem.Challenge.rw_fq5033_01.row.prog ∧ (hd.heap_39 w.params).In s.heap)
   (E0 : Env0 w p loose mg mb bm ob h₀) (F : Fr h₀ L s.heap (fun y => if y = Str.ofString "script" then some (.ref sc) else m y))
   (N : News h₀ L s.heap [(L + 1, oc), (194, tableObj ps)]) (hN3 : @Ne Nat (L + 1) 194) (d1 : oc.data = .cell none) (hg : AllBare s.gens) (ht : TriplesOk ps.toList)
   (hS : h₀.IsList sc zs.toArray) (hI : IntsAre zs is) (hz : zs.length ≤ 63) :
   wpAny (model prog w) (A.deeper (envOfC qual scope L fa cd)) (execs body (envOfC qual scope L fa cd))
     (LawEnd h₀ s.os) (fun _ _ => False) s := by
  have e := (show (hd.heap_39 w.params).lookup 233 = some _ from rfl).symm.trans hfn
  injection e with e
  injection e with e1 e2 e3 e4
  injection e3 with e3
  unfold fnOf at e3
  injection e3 with k1 k2 k3 k4 k5 k6 k7 k8 k9 k10 k11 k12 k13
  injection k4 with k4
  subst k2 k5 k4
  clear hfn e1 e2 e4 k1 k3 k6 k7 k8 k9 k10 k11 k12
  try dsimp only [List.drop]
  revert he; k_fill; intro he
  have X := E0.k
  have T := E0.t
  have M := E0.b
  have hl := list_keep hS F.keep
  have hzl : zs.length ≤ 100 := by omega
  cases hI with
  | nil =>
    k_steps
    unfold Stopped
    rename Fr _ _ _ _ => F2
    rename News _ _ _ _ => N2
    exact law1 (hfn := rfl) hh hroom hu hfr ⟨rfl, X.keeps F2.keep⟩ E0 F2 N2 hN3 d1 hg ht hS .nil hz
  | cons z0 t0 hr =>
    k_steps
    unfold Stopped
    rename Fr _ _ _ _ => F2
    rename News _ _ _ _ => N2
    exact law1 (hfn := rfl) hh hroom hu hfr ⟨rfl, X.keeps F2.keep⟩ E0 F2 N2 hN3 d1 hg ht hS (.cons z0 t0 hr) hz
end Mine
end

section
open PySem PySem.W PySem.W.X PyProof.Rows PySem.Calls PySem.Spec
set_option Elab.async false
set_option maxRecDepth 100000
set_option maxHeartbeats 8000000
set_option linter.all false
namespace Mine
noncomputable def frag (P : Params) : Frag := (194, tableObj #[]) :: hd.heap_39 P
variable {w : World} {p : Program} {loose : List Str} {mg mb : Str → Option Value} {bm : Addr} {ob : Obj} {h h' : Heap}
theorem frag_in (K : (frag w.params).In h) : (hd.heap_39 w.params).In h ∧ h.get? 194 = some (tableObj #[]) := by
  refine ⟨fun a o e => K a o ?_, K 194 _ rfl⟩
  have hne : a ≠ 194 := fun q => by
    rw [q, notin] at e; cases e
  show List.lookup a ((194, tableObj #[]) :: hd.heap_39 w.params) = some o
  rw [List.lookup_cons]
  have : (a == 194) = false := by simpa using hne
  rw [this]; exact e
theorem tab_code (K : (hd.heap_39 w.params).In h) : isCodeTable h 194 := by
  obtain ⟨o, vs, e, r⟩ : ∃ o vs, (hd.heap_39 w.params).lookup 198 = some o ∧ o.cls = .type "code" ∧ o.data = .fields vs ∧ vs[11]? = some (.ref 194) := ⟨_, _, rfl, rfl, rfl, rfl⟩
  exact ⟨198, o, vs, K _ _ e, r⟩
theorem old_end {ps : Array Value} (K : (hd.heap_39 w.params).In h) (h0 : h.get? 194 = some (tableObj #[])) (hk : ∀ b o, (h.hide 194).get? b = some o → h'.get? b = some o) (h1 : h'.get? 194 = some (tableObj ps)) : OldK h h' := by
  refine ⟨fun b o e => ?_, fun b o e => ?_⟩
  · by_cases hb : b = 194
    · subst hb
      obtain rfl := Option.some.inj (h0.symm.trans e)
      refine .inr (.inl ⟨tab_code K, rfl, #[], ps, rfl, ?_⟩)
      rw [h1]
      simp [tableObj]
    · exact .inl (hk b o ((Heap.hide_ne _ hb).trans e))
  · by_cases hb : b = 194
    · exact ⟨_, hb ▸ h1⟩
    · exact ⟨o, hk b o ((Heap.hide_ne _ hb).trans e)⟩
theorem law_all {body : List Stmt} {scope : Scope} {name qual : Str} {params : Arguments} {dV kV doc pm cdv ct oc' : Value} {an od' : Option Addr} {osl : Array (Option Value)}
   (hfn : (hd.heap_39 w.params).lookup 233 = some ⟨oc', od', .func (fnOf name qual params body scope dV kV doc pm an cdv ct), osl⟩)
   {fa sc : Addr} {cd : Value} {s₁ : Shared} {h₁ : Heap} {tk : Nat} {m : Str → Option Value} {oc : Obj} {zs : List Value} {is : List Int}
   (K1 : (hd.heap_39 w.params).In s₁.heap) (h0 : s₁.heap.get? 194 = some (tableObj #[])) (E1 : Env0 w p loose mg mb bm ob s₁.heap)
   (F : Fr s₁.heap s₁.heap.objs.size h₁ (fun y => if y = Str.ofString "script" then some (.ref sc) else m y))
   (N0 : News s₁.heap s₁.heap.objs.size h₁ [(s₁.heap.objs.size + 1, oc)]) (d1 : oc.data = .cell none) (hg : s₁.gens = #[]) (hL : s₁.heap.IsList sc zs.toArray) (hI : IntsAre zs is) (hz : ¬ (63 : Int) < is.length) :
   wpAny (model prog w) (callerA.deeper (envOfC qual scope s₁.heap.objs.size fa cd)) (execs body (envOfC qual scope s₁.heap.objs.size fa cd))
     (fun f s' => f = .ret (.bool true) ∧ OldK s₁.heap s'.heap ∧ s'.os = s₁.os ∧ AllBare s'.gens) (fun _ _ => False) (Shared.mk h₁ s₁.gens s₁.drawn tk s₁.os) := by
  have hlt := Heap.lt_size h0
  have hne : sc ≠ 194 := fun q => by
    obtain ⟨o, e, hc, r⟩ := hL
    rw [q, h0] at e; cases e
    exact nomatch hc
  have hS : (s₁.heap.hide 194).IsList sc zs.toArray := by
    obtain ⟨o, e, r⟩ := hL
    exact ⟨o, (Heap.hide_ne _ hne).trans e, r⟩
  have E2 : Env0 w p loose mg mb bm ob (s₁.heap.hide 194) := E1.but (tab_ne E1 ⟨_, h0, trivial⟩) fun _ _ n e => (Heap.hide_ne _ n).trans e
  have F2 : Fr (s₁.heap.hide 194) s₁.heap.objs.size h₁ _ := ⟨F.ns, fun b o e => F.keep b o (Heap.of_hide e), by rw [Heap.hide_size]; exact F.above⟩
  have N2 : News (s₁.heap.hide 194) s₁.heap.objs.size h₁ [(s₁.heap.objs.size + 1, oc), (194, tableObj #[])] := fun q hq => by
    rcases List.mem_cons.mp hq with rfl | hq
    · refine ⟨(N0 _ (.head _)).1, (N0 _ (.head _)).2.1, ?_⟩
      cases e : (s₁.heap.hide 194).get? (s₁.heap.objs.size + 1) with
      | none => rfl
      | some o =>
        have := Heap.of_hide e
        rw [(N0 _ (.head _)).2.2] at this; cases this
    · rw [List.mem_singleton.mp hq]
      exact ⟨F.keep _ _ h0, Nat.ne_of_lt hlt, Heap.hide_self _ _⟩
  have hb : AllBare s₁.gens := .of_eq hg
  refine wpAny_mono (law0 (A := callerA) (s := Shared.mk h₁ s₁.gens s₁.drawn tk s₁.os) (hfn := hfn) rfl (by decide) (by decide) rfl ⟨rfl, K1.keeps F.keep⟩ E2 F2 N2 (Nat.ne_of_gt (Nat.lt_succ_of_lt hlt)) d1 hb trivial hS hI (by rw [hI.length]; omega)) (fun f s' h => ?_) (fun _ _ e => e)
  obtain ⟨rfl, hk, ⟨ps, hp, _⟩, hg', ho⟩ := h
  exact ⟨rfl, old_end K1 h0 hk hp, ho, hg'⟩
end Mine
end

open Mine
open PySem PySem.W PySem.W.X PyProof.Rows PySem.Calls PySem.Spec
set_option Elab.async false
set_option maxRecDepth 100000
set_option maxHeartbeats 0
set_option pp.deepTerms false
set_option pp.deepTerms.threshold 4
set_option pp.structureInstances false
set_option linter.all false
theorem PySem.Challenge.cw_fq5033_01_holds : PySem.Challenge.rw_fq5033_01.Holds := by
  w_on; o_law; o_head (kHook frag [194, 2, 3, 15, 17, 18, 20, 21, 29, 30, 32, 33, 35, 36, 37, 39, 40, 42, 43, 44, 46, 47, 49, 50, 51, 52, 53, 54, 56, 57, 59, 60, 61, 63, 64, 66, 67, 68, 70, 71, 73, 74, 75, 77, 78, 80, 81, 82, 84, 85, 87, 88, 89, 91, 92, 94, 95, 96, 97, 98, 99, 101, 102, 104, 105, 106, 108, 109, 111, 112, 113, 115, 116, 118, 119, 120, 122, 123, 125, 126, 127, 129, 130, 132, 133, 134, 136, 137, 139, 140, 141, 142, 143, 144, 145, 148, 155, 157, 158, 160, 161, 162, 164, 165, 167, 168, 169, 171, 172, 174, 175, 176, 177, 178, 181, 188, 191, 192, 193, 195, 196, 198, 199, 200, 203, 204, 205, 206, 207, 210, 212, 213, 215, 216, 217, 220, 221, 222, 224, 225, 227, 228, 229, 232, 233] (fun _ => by kernel_rfl)); (case hw => w_witness2)
  w_strict (lge_go0
            (rename Frag.In _ _ => KX)
            (rename Top _ _ _ _ _ _ => T)
            (rename BMod _ _ _ _ _ => M)
            (rename Heap.IsList _ _ _ => hL)
            (rename IntsAre _ _ => hI)
            (rename Fr _ _ _ _ => F)
            (rename News _ _ _ _ => N0)
            (rename (_ = Data.cell _) => d1)
            (rename (¬ (_ : Int) < _) => hz)
            (rename (_ = #[]) => hg)
            (obtain ⟨K1, h0⟩ := frag_in KX)
            (refine wpAny_mono (law_all (hfn := rfl) (m := fun _ => none) K1 h0 ⟨K1, topRead_of T, M⟩ F N0 ?_ hg hL hI hz) (fun f s' h => ?_) (fun _ _ e => e.elim))
            · exact d1
            · obtain ⟨rfl, hO, ho, hb⟩ := h
              exact ⟨.inl ⟨_, _, [], rfl, fun _ => rfl, .bool true, postW_of (by wrow_shape) (by wtm_val) (by str_meet; first | done | w_fin), fun _ => ⟨.nil, fun a ha => nomatch ha⟩⟩, hO, ho, hb⟩)
