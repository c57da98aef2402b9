import PyProof.Rows.All
import Wide.All
import OpenK.AllK
import Wide.FinOn
import PySem.Challenge.RW_wr0027_01
/-! part H1 -/
set_option Elab.async false
section partH1
open PySem PySem.W PyProof.Rows
set_option Elab.async false
set_option maxRecDepth 100000
namespace Mine
/-- what is left behind the text, from the state in which every text without modules opens -/
theorem left_of_boot {p q : Program} {loose : List Str} {Xt : Shared → Bool} {α : Type} {Yf : Shared → α} {Ya : World → α} {N : Nat} {g0 : Bool} (e : opening p = plainProg p.main.scope.names) (hN : Nat.ble 600 N = true) (f : ∀ s, fenceModules? p s = some s)
    (h : ∀ (w : World) (os : OsState), (topFrom treeTable p w N ⟨boot_heap w.params, Array.mk [], boot_drawn, boot_toks, os⟩).map (fun s => (openSeen q loose (importedModules p.main.body) Xt g0 s, Yf s)) = some (openGood q loose, Ya w)) : LeftO p q loose Xt Yf Ya N g0 := fun w => by
  obtain ⟨⟨hp, gs, dr, tk, os⟩, hs, hv⟩ := Option.map_eq_some_iff.mp (boot_open e hN f w)
  unfold openEnds
  rw [hs]
  cases hv
  exact h w os
theorem law_said : PySem.Challenge.rw_wr0027_01.wellSaid = true := by
  unfold OpenLaw.wellSaid
  repeat' (first | with_reducible refine look_both ?_ ?_ | unfold OpenRow.wellSaid | unfold OpenRow.partSaid | unfold OpenScript.wellSaid | unfold looksOpen)
  all_goals decide +kernel
noncomputable def q : Program := view PySem.Challenge.pw_wr0027_01 [1,2,4,5,6,8,10,11,12,13,15,16,17,18,19,20,21]
local macro_rules | `(tactic| o_head $H) => `(tactic| (
  refine holds_open (q := Mine.q) (loose := []) (Xt := fun s => xlAt Mine.q [] s && recOk (RowW.records PySem.Challenge.rw_wr0027_01.row.toRowW) s) (XP := XL Mine.q []) (Yf := Hook.obs $H) (Ya := Hook.val $H) (YP := Hook.says $H) (N := 1206) ?hl (Hook.of $H) (Hook.keeps $H) (fun s e => xl_of s (Bool.and_eq_true_iff.mp e).1) XL.keeps (by rfl) (by rfl) (by rfl) (fun s e => recFacts_of (Bool.and_eq_true_iff.mp e).2) (by rfl) (by assumption) (by decide +kernel) ⟨rfl, rfl, rfl, rfl, rfl, by decide +kernel⟩ ?hw ?hc
  case' hl => exact left_of_boot (by rfl) (by decide) (fun s => by rfl) (fun w os => by kernel_rfl)))
local macro_rules | `(tactic| o_law) => `(tactic| refine holds_law Mine.law_said fun said => ?_)
set_option maxHeartbeats 8000000 in
open_top hd for PySem.Challenge.rw_wr0027_01
end Mine
end partH1
/-! part I1 -/
section partI1
open PySem PySem.W PyProof.Rows PySem.Calls
set_option Elab.async false
set_option maxRecDepth 100000
set_option linter.all false
noncomputable section
namespace Mine
abbrev PR : Program := PySem.Challenge.rw_wr0027_01.prog

abbrev Tp (mean : ExcName → Option Value) (mg mb : Str → Option Value) (h : Heap) : Prop := Top Mine.q (looseW Mine.q []) mean mg mb h
abbrev At (dp un : Nat) (fr : Option (List Env)) (gd : Option (List Code)) : Around := { handled := none, depth := dp, frames := fr, guards := gd, units := un }

/-- what holds of a state behind the state in which the function was entered -/
structure Cal (s₀ s : Shared) : Prop where
  os : s.os = s₀.os
  size : s₀.gens.size ≤ s.gens.size
  gens : ∀ k, k < s₀.gens.size → s.gens[k]? = s₀.gens[k]?
  bare : AllBare s₀.gens → AllBare s.gens
theorem Cal.refl (s : Shared) : Cal s s := ⟨rfl, Nat.le_refl _, fun _ _ => rfl, id⟩
theorem Cal.trans {a b c : Shared} (x : Cal a b) (y : Cal b c) : Cal a c :=
  ⟨y.os.trans x.os, Nat.le_trans x.size y.size, fun k hk => (y.gens k (Nat.lt_of_lt_of_le hk x.size)).trans (x.gens k hk), fun g => y.bare (x.bare g)⟩
theorem Cal.heap {a b : Shared} (x : Cal a b) (h : Heap) (t : Nat) : Cal a { b with heap := h, toks := t } := ⟨x.os, x.size, x.gens, x.bare⟩
theorem Cal.of_eq {s₀ s s' : Shared} (c : Cal s₀ s) (h : s'.gens = s.gens ∧ s'.os = s.os) : Cal s₀ s' := ⟨h.2.trans c.os, h.1 ▸ c.size, fun k hk => h.1 ▸ c.gens k hk, fun b => h.1 ▸ c.bare b⟩

structure Ext (s s' : Shared) : Prop where
  heap : ∀ b o, s.heap.get? b = some o → s'.heap.get? b = some o
  cal : Cal s s'
theorem Ext.refl (s : Shared) : Ext s s := ⟨fun _ _ e => e, Cal.refl s⟩
theorem Ext.trans {a b c : Shared} (x : Ext a b) (y : Ext b c) : Ext a c := ⟨fun _ _ e => y.heap _ _ (x.heap _ _ e), x.cal.trans y.cal⟩

/-- what every call of a function of the text gives, whatever calls it -/
noncomputable def Spec (w : World) (k : Nat) (f : Addr) (vs : List Value) (s : Shared) (P : Value → Shared → Prop) : Prop :=
  ∀ (dp un : Nat) (fr : Option (List Env)) (gd : Option (List Code)) (Q E : Value → Shared → Prop), dp + k < recursionLimit → un + 8 * k < cLine →
    (∀ v s', Ext s s' → P v s' → Q v s') → wpAny (model PR w) (At dp un fr gd) (call (.ref f) vs) Q E s

/-- the end of a function's body -/
noncomputable def Done (s : Shared) (P : Value → Shared → Prop) (fl : Flow) (s' : Shared) : Prop := Ext s s' ∧ P (match fl with | .ret v => v | _ => .none) s'

theorem spec_of {w : World} {k : Nat} {mean : ExcName → Option Value} {mg mb : Str → Option Value} {f : Addr} {vs : List Value} {s : Shared} {P : Value → Shared → Prop}
    {name qual : Str} {params : Arguments} {body : List Stmt} {scope : Scope} {dV kV doc pm cdv ct oc : Value} {an od : Option Addr} {osl : Array (Option Value)} {binds : List (Str × Value)}
    (X : (hd.heap_1 w.params).In s.heap) (T : Tp mean mg mb s.heap)
    (ho : (hd.heap_1 w.params).lookup f = some ⟨oc, od, .func (fnOf name qual params body scope dV kV doc pm an cdv ct), osl⟩) (hcd : codeIn (hd.heap_1 w.params) cdv qual = true)
    (hbind : bindArgs (fnOf name qual params body scope dV kV doc pm an cdv ct) ⟨vs, []⟩ = pure binds) (hloc : ∀ y ∈ binds, scope.names.lookup y.1 = some .local)
    (hco : scope.isCoroutine = false) (hgen : scope.isGenerator = false) (hk : scope.kind = .function)
    (hcell : ∀ x ∈ scope.names, x.2 ≠ .cell)
    (h : ∀ (dp un : Nat) (fr : Option (List Env)) (gd : Option (List Code)) (L' : Addr) (h₁ : Heap) (tk : Nat), dp + k < recursionLimit → un + 8 * k < cLine → Fr s.heap L' h₁ (fun y => binds.reverse.lookup y) → News s.heap L' h₁ [] →
      wpAny (model PR w) ((At dp un fr gd).deeper (envOf qual scope L' f cdv)) (execs body (envOf qual scope L' f cdv)) (Done s P) (fun _ _ => False) { s with heap := h₁, toks := tk }) :
    Spec w k f vs s P := by
  intro dp un fr gd Q E hd hu hQ
  refine wpAny_call ?_
  refine codeAny_call_def (fd := fnOf name qual params body scope dV kV doc pm an cdv ct) (body := body) (binds := binds) (Nat.lt_of_le_of_lt (by show dp ≤ dp + k; omega) hd) (X _ _ ho) rfl T.nolimit (codeRec_of X hcd) rfl (BindsTo.of_eq hbind) hcell hloc (fun h₁ hns hk₁ => ?_) hco hgen hk
  refine wpAny_mono (h dp un fr gd s.heap.objs.size h₁ _ hd hu ⟨hns, hk₁, Nat.le_refl _⟩ News.nil) (fun fl s' hl => ?_) fun _ _ y => y.elim
  exact hQ _ _ hl.1 hl.2

theorem done_of {s s' : Shared} {L : Addr} {m : Str → Option Value} {P : Value → Shared → Prop} {fl : Flow} (F : Fr s.heap L s'.heap m) (C : Cal s s') (h : P (match fl with | .ret v => v | _ => .none) s') : Done s P fl s' := ⟨⟨F.keep, C⟩, h⟩
end Mine
end
end partI1
/-! part I2 -/
section partI2
open PySem PySem.W PyProof.Rows PySem.Calls
set_option Elab.async false
set_option maxRecDepth 100000
set_option linter.all false
noncomputable section
namespace Mine

/-- an iterator's road -/
structure Road (w : World) (A : Around) (target : Expr) (I : Addr) (fp wr : List Addr) (n : Nat) (P : Nat → Value → Heap → Prop) (St : Nat → Shared → Prop) (Gf : Shared → Shared → Prop) (Cl : Shared → Shared → Prop) : Prop where
  sub : ∀ b ∈ wr, b ∈ fp
  frame : ∀ i s s', St i s → Gf s s' → (∀ b ∈ fp, ∀ o, s.heap.get? b = some o → s'.heap.get? b = some o) → St i s'
  item : ∀ i (s : Shared) (Q : Value → Shared → Prop), i < n → St i s →
    (∀ v s', P i v s'.heap → St (i + 1) s' → (∀ b o, b ∉ wr → s.heap.get? b = some o → s'.heap.get? b = some o) → Cl s s' → Q v s') →
    wpAny (model PR w) A (pyNext (.ref I)) (fun r s₁ => ∃ v, r = some v ∧ wpAny (model PR w) A (letOwnedTupleGo target (.ref I) v) (fun _ s₂ => Q v s₂) (fun _ _ => False) s₁) (fun _ _ => False) s
  done : ∀ (s : Shared) (Q : Option Value → Shared → Prop), St n s →
    (∀ s', (∀ b o, b ∉ wr → s.heap.get? b = some o → s'.heap.get? b = some o) → Cl s s' → Q none s') → wpAny (model PR w) A (pyNext (.ref I)) Q (fun _ _ => False) s

inductive TurnOk (h₀ : Heap) (L : Addr) (s₀ : Shared) (Gf : Shared → Shared → Prop) (own : List (Addr × Obj)) (J : (Str → Option Value) → List (Addr × Obj) → Prop) (s₁ s₃ : Shared) : Prop
  | mk (c : Cal s₀ s₃) (g : Gf s₁ s₃) (m' : Str → Option Value) (news' : List (Addr × Obj)) (F : Fr h₀ L s₃.heap m') (N : News h₀ L s₃.heap (news' ++ own)) (j : J m' news')

theorem turn_lt {l j : Nat} (h : j < l) : l + 1 - (j + 1) < l + 1 - j := Nat.sub_lt_sub_left (Nat.lt_succ_of_lt h) (Nat.lt_succ_self j)
theorem turn_end {l j : Nat} (h : j ≤ l) (n : ¬ j < l) : j = l := Nat.le_antisymm h (Nat.not_lt.mp n)
noncomputable def TurnEnd (h₀ : Heap) (L : Addr) (s₀ : Shared) (Gf : Shared → Shared → Prop) (own : List (Addr × Obj)) (J : (Str → Option Value) → List (Addr × Obj) → Prop) (s₁ : Shared) (Q : Flow → Shared → Prop) (f : Flow) (s₃ : Shared) : Prop :=
  match f with
  | .ret v => Q (.ret v) s₃
  | .brk => Q .next s₃
  | _ => TurnOk h₀ L s₀ Gf own J s₁ s₃

inductive LoopR (w : World) (A : Around) (h₀ : Heap) (s₀ : Shared) (env : Env) (target : Expr) (body : List Stmt) (Q : Flow → Shared → Prop) (it : Value) (s₂ : Shared) : Prop
  | mk (I : Addr) (fp wr : List Addr) (n : Nat) (P : Nat → Value → Heap → Prop) (St : Nat → Shared → Prop) (Gf : Shared → Shared → Prop) (Cl : Shared → Shared → Prop) (m : Str → Option Value) (news : List (Addr × Obj)) (J : Nat → (Str → Option Value) → List (Addr × Obj) → Prop)
    (e : it = .ref I) (W : Road w A target I fp wr n P St Gf Cl) (hCl : ∀ s s', Cal s₀ s → Cl s s' → Cal s₀ s') (hLf : env.locals ∉ fp) (hwr : ∀ b ∈ wr, h₀.get? b = none) (hnw : ∀ p ∈ news, p.1 ∉ wr) (hst : St 0 s₂) (F : Fr h₀ env.locals s₂.heap m) (N : News h₀ env.locals s₂.heap news) (hc : Cal s₀ s₂) (h0 : J 0 m news)
    (hJw : ∀ i m news, J i m news → ∀ p ∈ news, p.1 ∉ wr)
    (step : ∀ i v m₁ news₁ s₁ own, i < n → P i v s₁.heap → Cal s₀ s₁ → J i m₁ news₁ → (∀ p ∈ own, p.1 ∈ fp) → (∀ b ∈ fp, h₀.get? b = none → ∀ o, s₁.heap.get? b = some o → (b, o) ∈ own) →
      Fr h₀ env.locals s₁.heap m₁ → News h₀ env.locals s₁.heap (news₁ ++ own) →
      wpAny (model PR w) A (assign target env v) (fun _ s₂' => wpAny (model PR w) A (execs body env) (fun f s₃ => TurnEnd h₀ env.locals s₀ Gf own (J (i + 1)) s₁ Q f s₃) (fun _ _ => False) s₂') (fun _ _ => False) s₁)
    (hQ : ∀ s' m' news', Cal s₀ s' → Fr h₀ env.locals s'.heap m' → News h₀ env.locals s'.heap news' → J n m' news' → Q .next s')

inductive RoadInv (h₀ : Heap) (L : Addr) (s₀ : Shared) (n : Nat) (St : Nat → Shared → Prop) (J : Nat → (Str → Option Value) → List (Addr × Obj) → Prop) (k : Nat) (s' : Shared) : Prop
  | mk (m' : Str → Option Value) (news' : List (Addr × Obj)) (i : Nat) (st : St i s') (F : Fr h₀ L s'.heap m') (N : News h₀ L s'.heap news') (c : Cal s₀ s') (j : J i m' news') (hi : i ≤ n) (hk : k = n + 1 - i)
inductive RoadItem (Pi : Value → Heap → Prop) (Si : Shared → Prop) (Cl : Shared → Prop) (wr : List Addr) (h : Heap) (v : Value) (s₁ : Shared) : Prop
  | mk (hP : Pi v s₁.heap) (st : Si s₁) (k : ∀ b o, b ∉ wr → h.get? b = some o → s₁.heap.get? b = some o) (cl : Cl s₁)

theorem News.app {h₀ h : Heap} {L : Addr} {a b : List (Addr × Obj)} (x : News h₀ L h a) (y : News h₀ L h b) : News h₀ L h (a ++ b) := fun p hp => (List.mem_append.mp hp).elim (x p) (y p)

theorem for_road {w : World} {A : Around} {h₀ : Heap} {s₀ s : Shared} {env : Env} {target iter : Expr} {body : List Stmt} {pos : Pos} {Q : Flow → Shared → Prop}
    (h : wpAny (model PR w) A (eval iter env) (fun xv s₁ => wpAny (model PR w) A (pyIter xv) (fun it s₂ => LoopR w A h₀ s₀ env target body Q it s₂) (fun _ _ => False) s₁) (fun _ _ => False) s)
    (hs : ∀ x, foldedSetIterable iter env x = pure x := by intro _; rfl) :
    wpAny (model PR w) A (exec (.For target iter body [] pos) env) Q (fun _ _ => False) s := by
  refine wpAny_For (wpAny_mono h (fun xv s₁ h₁ => wpAny_mono h₁ (fun it s₂ h₂ => ?_) fun _ _ e => e) fun _ _ e => e) hs
  obtain ⟨I, fp, wr, n, P, St, Gf, Cl, m, news, J, rfl, W, hCl, hLf, hwr, hnw, hst, F, N, hc, h0, hJw, step, hQ⟩ := h₂
  have hLw : env.locals ∉ wr := fun h => hLf (W.sub _ h)
  have old : ∀ b o, h₀.get? b = some o → b ∉ wr := fun b o e hb => by rw [hwr b hb] at e; cases e
  refine codeAny_forLoop_any
    (RoadInv h₀ env.locals s₀ n St J) ?_ (n + 1)
    ⟨m, news, 0, hst, F, N, hc, h0, Nat.zero_le _, rfl⟩
  rintro k s' ⟨m', news', i, hst', F', N', hc', hJ, hi, rfl⟩
  have hnw' := hJw _ _ _ hJ
  have next : ∀ h₁ : Heap, (∀ b o, b ∉ wr → s'.heap.get? b = some o → h₁.get? b = some o) → Fr h₀ env.locals h₁ m' ∧ News h₀ env.locals h₁ news' := fun h₁ hk₁ =>
    ⟨⟨F'.ns.at' fun o e => hk₁ _ o hLw e, fun b o e => hk₁ b o (old b o e) (F'.keep b o e), F'.above⟩, fun p hp => ⟨hk₁ _ _ (hnw' p hp) (N' p hp).1, (N' p hp).2⟩⟩
  by_cases hlt : i < n
  · refine wpAny_noRaise (wpAny_mono (W.item i s' (RoadItem (P i) (St (i + 1)) (Cl s') wr s'.heap) hlt hst' (fun v s₁ a b c d => ⟨a, b, c, d⟩)) (fun r s₁ hr => ?_) fun _ _ e => e)
    obtain ⟨v, rfl, hv⟩ := hr
    refine wpAny_noRaise (wpAny_mono hv (fun _ s₁ hv => ?_) fun _ _ e => e)
    obtain ⟨hP, hst₁, hk₁, hcl⟩ := hv
    obtain ⟨F₁, N₁⟩ := next s₁.heap hk₁
    have hc₁ := hCl _ _ hc' hcl
    have Nown : News h₀ env.locals s₁.heap (ownOf h₀ fp s₁.heap) := news_ownOf hLf
    refine wpAny_noRaise (wpAny_mono (step i v m' news' s₁ (ownOf h₀ fp s₁.heap) hlt hP hc₁ hJ ownOf_sub (fun b hb hn o e => mem_ownOf hb hn e) F₁ (News.app N₁ Nown)) (fun _ s₂' h₂' => wpAny_noRaise (wpAny_mono h₂' (fun f s₃ h₃ => ?_) fun _ _ e => e)) fun _ _ e => e)
    have again : TurnOk h₀ env.locals s₀ Gf (ownOf h₀ fp s₁.heap) (J (i + 1)) s₁ s₃ →
        ∃ k', k' < n + 1 - i ∧ RoadInv h₀ env.locals s₀ n St J k' s₃ := by
      rintro ⟨hc₃, hG, m₂, news₂, F₃, N₃, hJ₃⟩
      refine ⟨n + 1 - (i + 1), turn_lt hlt, m₂, news₂, i + 1, ?_, F₃, fun p hp => N₃ p (List.mem_append_left _ hp), hc₃, hJ₃, hlt, rfl⟩
      refine W.frame _ _ _ hst₁ hG fun b hb o e => ?_
      cases hn : h₀.get? b with
      | some o₀ =>
        have : o₀ = o := by have q := F₁.keep b o₀ hn; rw [e] at q; exact (Option.some.inj q).symm
        exact this ▸ F₃.keep b o₀ hn
      | none => exact (N₃ _ (List.mem_append_right _ (mem_ownOf hb hn e))).1
    cases f with
    | ret v => exact h₃
    | brk => exact h₃
    | cont => exact again h₃
    | next => exact again h₃
  · have hin : i = n := turn_end hi hlt
    subst hin
    refine wpAny_noRaise (W.done s' _ hst' fun s₁ hk₁ hcl => wpAny_execs_nil ?_)
    obtain ⟨F₁, N₁⟩ := next s₁.heap hk₁
    exact hQ s₁ m' news' (hCl _ _ hc' hcl) F₁ N₁ hJ

/-- the plain iterators -/
theorem Road.ofWalks {w : World} {A : Around} {target : Expr} {I : Addr} {fp wr : List Addr} {n : Nat} {P : Nat → Value → Prop} {St : Nat → Heap → Prop} (W : Walks PR w A I fp wr n P St)
    (hgo : ∀ i v (s : Shared) (Q : Unit → Shared → Prop), St i s.heap → Q () s → wpAny (model PR w) A (letOwnedTupleGo target (.ref I) v) Q (fun _ _ => False) s) :
    Road w A target I fp wr n (fun i v _ => P i v) (fun i s => St i s.heap) (fun _ _ => True) (fun s s' => s'.gens = s.gens ∧ s'.os = s.os) where
  sub := W.sub
  frame := fun i s s' st _ hk => W.frame i _ _ st hk
  item := fun i s Q hi st hQ => W.item i s _ _ hi st fun v h' tk hP st' hk => ⟨v, rfl, hgo (i + 1) v _ _ st' (hQ v _ hP st' hk ⟨rfl, rfl⟩)⟩
  done := fun s Q st hQ => W.done s _ _ st fun h' tk hk => hQ _ hk ⟨rfl, rfl⟩

section
variable {w : World} {A : Around} {h₀ : Heap} {s₀ s : Shared} {env : Env} {target : Expr} {body : List Stmt} {Q : Flow → Shared → Prop} {m : Str → Option Value} {news : List (Addr × Obj)}
noncomputable def SameAdr (news news' : List (Addr × Obj)) : Prop := news'.map (·.1) = news.map (·.1)
theorem SameAdr.refl (news : List (Addr × Obj)) : SameAdr news news := rfl
theorem SameAdr.mem {news news' : List (Addr × Obj)} (h : SameAdr news news') {p : Addr × Obj} (hp : p ∈ news') : ∃ q ∈ news, q.1 = p.1 := by
  have : p.1 ∈ news.map (·.1) := h ▸ List.mem_map_of_mem hp
  obtain ⟨q, hq, e⟩ := List.mem_map.mp this
  exact ⟨q, hq, e⟩

/-- the turn of a loop over a plain iterator, as the body's walk meets it -/
noncomputable def TurnR (w : World) (A : Around) (h₀ : Heap) (s₀ : Shared) (env : Env) (target : Expr) (body : List Stmt) (Q : Flow → Shared → Prop) (fp : List Addr) (n : Nat) (P : Nat → Value → Prop) (news : List (Addr × Obj)) (J : Nat → (Str → Option Value) → List (Addr × Obj) → Prop) : Prop :=
  ∀ i v m₁ news₁ s₁ own, i < n → P i v → Cal s₀ s₁ → SameAdr news news₁ → J i m₁ news₁ → (∀ p ∈ own, p.1 ∈ fp) → Fr h₀ env.locals s₁.heap m₁ → News h₀ env.locals s₁.heap (news₁ ++ own) →
      wpAny (model PR w) A (assign target env v) (fun _ s₂' => wpAny (model PR w) A (execs body env) (fun f s₃ => TurnEnd h₀ env.locals s₀ (fun _ _ => True) own (fun m' news' => SameAdr news news' ∧ J (i + 1) m' news') s₁ Q f s₃) (fun _ _ => False) s₂') (fun _ _ => False) s₁

theorem loop_walks {I : Addr} {fp : List Addr} {n : Nat} {P : Nat → Value → Prop} {St : Nat → Heap → Prop} (J : Nat → (Str → Option Value) → List (Addr × Obj) → Prop) (W : Walks PR w A I fp [I] n P St)
    (hgo : ∀ i v (s : Shared) (Q : Unit → Shared → Prop), St i s.heap → Q () s → wpAny (model PR w) A (letOwnedTupleGo target (.ref I) v) Q (fun _ _ => False) s)
    (hL : env.locals ∉ fp) (hI : h₀.get? I = none) (hn : ∀ p ∈ news, p.1 ≠ I) (hst : St 0 s.heap) (F : Fr h₀ env.locals s.heap m) (N : News h₀ env.locals s.heap news) (C : Cal s₀ s) (h0 : J 0 m news)
    (turn : TurnR w A h₀ s₀ env target body Q fp n P news J)
    (done : ∀ s' m' news', Cal s₀ s' → SameAdr news news' → J n m' news' → Fr h₀ env.locals s'.heap m' → News h₀ env.locals s'.heap news' → Q .next s') : LoopR w A h₀ s₀ env target body Q (.ref I) s :=
  ⟨I, fp, [I], n, _, _, _, _, m, news, fun i m' news' => SameAdr news news' ∧ J i m' news', rfl, Road.ofWalks W hgo, fun _ _ c h => c.of_eq h, hL, fun b hb => by rw [List.mem_singleton.mp hb]; exact hI, fun p hp h => hn p hp (List.mem_singleton.mp h), hst, F, N, C, ⟨rfl, h0⟩,
    fun _ _ _ hJ p hp h => by obtain ⟨q, hq, e⟩ := hJ.1.mem hp; exact hn q hq (e.trans (List.mem_singleton.mp h)),
    fun i v m₁ news₁ s₁ own hi hP hc hJ hown _ F₁ N₁ => turn i v m₁ news₁ s₁ own hi hP hc hJ.1 hJ.2 hown F₁ N₁,
    fun s' m' news' hc F' N' hJ => done s' m' news' hc hJ.1 hJ.2 F' N'⟩

theorem News.lt {h₀ h : Heap} {L : Addr} (N : News h₀ L h news) : ∀ p ∈ news, p.1 < h.objs.size := fun p hp => Heap.lt_size (N p hp).1
theorem Fr.base_none {h₀ h : Heap} {L a : Addr} (F : Fr h₀ L h m) (ha : h.objs.size ≤ a) : h₀.get? a = none := by
  cases q : h₀.get? a with
  | none => rfl
  | some o => exact absurd (Heap.lt_size (F.keep _ _ q)) (Nat.not_lt.mpr ha)

/-- a loop over a list that stands (in the base or in the ledger) -/
theorem loop_list {l : Addr} {vs : List Value} {x : Str} {px : Pos} (J : Nat → (Str → Option Value) → List (Addr × Obj) → Prop) (hh : A.handled = none) (hl : s.heap.IsList l vs.toArray) (hlL : l ≠ env.locals) (F : Fr h₀ env.locals s.heap m) (N : News h₀ env.locals s.heap news) (C : Cal s₀ s) (h0 : J 0 m news)
    (turn : ∀ I, s.heap.objs.size = I → TurnR w A h₀ s₀ env (.Name x px) body Q [I, l] vs.length (fun i v => vs[i]? = some v) news J)
    (done : ∀ s' m' news', Cal s₀ s' → SameAdr news news' → J vs.length m' news' → Fr h₀ env.locals s'.heap m' → News h₀ env.locals s'.heap news' → Q .next s') :
    wpAny (model PR w) A (pyIter (.ref l)) (fun it s₂ => LoopR w A h₀ s₀ env (.Name x px) body Q it s₂) (fun _ _ => False) s := by
  obtain ⟨ol, hol, _⟩ := id hl
  have hne : l ≠ s.heap.objs.size := Nat.ne_of_lt (Heap.lt_size hol)
  refine wpAny_pyIter_list hl ?_
  have W := Walks.list (prog := PR) (w := w) hh s.heap.objs.size l hne vs.toArray
  have hv : (fun (i : Nat) (v : Value) => vs.toArray[i]? = some v) = fun i v => vs[i]? = some v := by funext i v; simp
  rw [hv, List.size_toArray] at W
  refine loop_walks (fp := [s.heap.objs.size, l]) J W (fun _ _ _ _ _ h => wpAny_pure h) ?_ (Fr.base_none F (Nat.le_refl _)) (fun p hp => Nat.ne_of_lt (News.lt N p hp)) ⟨⟨_, Heap.get?_push_size _ rfl, rfl, rfl⟩, hl.push _⟩ (F.push _) (fun p hp => ⟨Heap.get?_push_of_some _ (N p hp).1, (N p hp).2⟩) (C.heap _ _) h0 (turn _ rfl) done
  intro h
  rcases List.mem_cons.mp h with h | h
  · exact absurd F.ns.lt (h ▸ Nat.lt_irrefl _)
  · exact hlL (List.mem_singleton.mp h).symm
end
end Mine
end
end partI2
/-! part R1 -/
section partR1
open PySem PySem.W PyProof.Rows PySem.Calls Builtin Builtin.Str
set_option Elab.async false
set_option maxRecDepth 100000
set_option linter.all false
noncomputable section
namespace Mine
local macro_rules | `(tactic| omega) => `(tactic| lia)

theorem fillR1 : PySem.Challenge.rw_wr0027_01.prog = PySem.Challenge.rw_wr0027_01.prog ∧ hd.heap_1 = hd.heap_1 := by
  k_fill
  exact ⟨rfl, rfl⟩

/-! frames -/
noncomputable def over (r : List (Str × Value)) (m : Str → Option Value) : Str → Option Value := fun y => match r.lookup y with | some v => some v | none => m y
noncomputable def Agree (m : Str → Option Value) : List (Str × Value) → Prop
  | [] => True
  | (x, v) :: r => m x = some v ∧ Agree m r
theorem over_eq {m : Str → Option Value} : ∀ {r : List (Str × Value)}, Agree m r → over r m = m
  | [], _ => rfl
  | (x, v) :: r, ⟨h, hr⟩ => by
    funext y
    have ih := congrFun (over_eq hr) y
    unfold over at ih ⊢
    rw [List.lookup_cons]
    by_cases q : y = x
    · subst q; simp [h]
    · have : (y == x) = false := by simpa using q
      simp only [this]; exact ih
theorem fr_over {h₀ h : Heap} {L : Addr} {m : Str → Option Value} (F : Fr h₀ L h m) {r : List (Str × Value)} (a : Agree m r) : Fr h₀ L h (over r m) := by rw [over_eq a]; exact F

section
variable {w : World} {A : Around} {s : Shared} {env : Env} {Q : Flow → Shared → Prop}
/-- a statement, and what holds between it and the rest -/
theorem cut {st : Stmt} {rest : List Stmt} (J : Shared → Prop) (h : wpAny (model PR w) A (exec st env) (fun f s' => match f with | .next => J s' | f => Q f s') (fun _ _ => False) s)
    (k : ∀ s', J s' → wpAny (model PR w) A (execs rest env) Q (fun _ _ => False) s') : wpAny (model PR w) A (execs (st :: rest) env) Q (fun _ _ => False) s :=
  wpAny_execs_cons (wpAny_mono h (fun f s' hf => by cases f <;> first | exact k _ hf | exact hf) fun _ _ e => e)
end

noncomputable def Held (P : Prop) : Prop := P
noncomputable def Stop (P : Prop) : Prop := P
theorem stop {P : Prop} (h : Stop P) : P := h
theorem sz_lt : sizeLine < 2 ^ 62 := by rw [sizeLine_eq]; decide
/-! texts -/
noncomputable def findIn (x y : Str) (lo hi : Nat) : Int := match occurrences x y lo hi 1 with | i :: _ => (i : Int) | [] => -1
theorem toNat_back (n : Nat) : ((-1 : Int) + (n : Int)).toNat = n - 1 := by
  cases n with
  | zero => rfl
  | succ n =>
    show ((-1 : Int) + ((n + 1 : Nat) : Int)).toNat = n
    rw [Int.natCast_succ, Int.add_comm (n : Int) 1, Int.neg_add_cancel_left, Int.toNat_natCast]
theorem fromIndex_nat (n k : Nat) : fromIndex n (k : Int) = k := by
  unfold fromIndex
  rw [if_neg (Int.not_lt.mpr (Int.natCast_nonneg k))]; exact Int.toNat_natCast k
theorem args_str_find_4 (a b c d : Value) : argsOk "str.find" ⟨[a, b, c, d], []⟩ := by
  unfold argsOk; rw [signature?_of (id := "str.find") (n := ['d', 'n', 'i', 'f']) (o := ['r', 't', 's']) (by kernel_rfl) F.owner_str]; kernel_rfl
theorem gives_find4 (x y : Str) (i j : Int) (t u v v' : Tok) : Gives («str.find» ⟨[.str x t, .str y u, .int i v, .int j v'], []⟩) (.int (findIn x y (fromIndex x.length i) (min (fromIndex x.length j) x.length))) := by
  show Gives (match occurrences x y (fromIndex x.length i) (min (fromIndex x.length j) x.length) 1 with | k :: _ => retInt k | [] => (do rule "str.find.not-found"; retInt (-1))) _
  unfold findIn
  cases occurrences x y (fromIndex x.length i) (min (fromIndex x.length j) x.length) 1 with
  | nil => exact .rule (.of_eq rfl)
  | cons k _ => exact .of_eq rfl
section
variable {prog : Program} {w : World} {A : Around} {E : Value → Shared → Prop} {s : Shared}
theorem call_find4 {x y : Str} {lo hi : Nat} {t u v v' : Tok} {Q : Value → Shared → Prop} (hle : hi ≤ x.length) (h : Q (.int (findIn x y lo hi) s.toks) { s with toks := s.toks + 1 }) :
    wpAny (model prog w) A (call (.builtin "str.find") [.str x t, .str y u, .int (lo : Int) v, .int (hi : Int) v']) Q E s := by
  refine call_gives F.slot_str_find (typeIs_str _ _ _) F.entry_str_find (args_str_find_4 _ _ _ _) (gives_find4 x y lo hi t u v v') ?_
  rw [fromIndex_nat, fromIndex_nat, Nat.min_eq_left hle]
  exact h

/-! lists of the ledger -/
variable {h₀ : Heap} {L D : Addr} {m : Str → Option Value} {news news' : List (Addr × Obj)} {vs : List Value} {n : Nat}
theorem led_list (N : News h₀ L s.heap news) (hm : (D, listOf vs.toArray n) ∈ news) : s.heap.IsList D vs.toArray := ⟨_, (N _ hm).1, rfl, n, rfl⟩
theorem len_N {Q : Value → Shared → Prop} (N : News h₀ L s.heap news) (hm : (D, listOf vs.toArray n) ∈ news) (hz : vs.length ≤ sizeLine) (h : Q (.int (vs.length : Nat) (s.toks + 1)) { s with toks := s.toks + 1 + 1 }) :
    wpAny (model prog w) A (call (.builtin "len") [.ref D]) Q E s :=
  call_len_list (led_list N hm) (by rw [sizeLine_eq] at hz; simp only [List.size_toArray]; omega) (by simpa using h)
theorem item_N {value slice : Expr} {k : Int} {u : Tok} {x : Value} {Q : Value → Shared → Prop} (N : News h₀ L s.heap news) (hm : (D, listOf vs.toArray n) ∈ news) (h0 : 0 ≤ k) (hfit : k < 2 ^ 63) (hx : vs[k.toNat]? = some x) (h : Q x s)
    (hs : subscripted slice false (.ref D) (.int k u) = operate [.ref D, .int k u] (getItem (.ref D) (.int k u)) := by with_unfolding_all rfl) (hg : ∀ r, letTemporaryGo value (.ref D) r = pure () := by intro _; with_unfolding_all rfl) :
    wpAny (model prog w) A (subscriptTail value slice (.ref D) (.int k u)) Q E s := kim_list N hm rfl rfl h0 hfit hx h hs hg
theorem last_N {value slice : Expr} {u : Tok} {x : Value} {Q : Value → Shared → Prop} (N : News h₀ L s.heap news) (hm : (D, listOf vs.toArray n) ∈ news) (hx : vs.getLast? = some x) (h : Q x s)
    (hs : subscripted slice false (.ref D) (.int (-1) u) = operate [.ref D, .int (-1) u] (getItem (.ref D) (.int (-1) u)) := by with_unfolding_all rfl) (hg : ∀ r, letTemporaryGo value (.ref D) r = pure () := by intro _; with_unfolding_all rfl) :
    wpAny (model prog w) A (subscriptTail value slice (.ref D) (.int (-1) u)) Q E s := by
  have hne : vs ≠ [] := by rintro rfl; simp at hx
  have h1 : 0 < vs.length := List.length_pos_iff.mpr hne
  refine kim_back N hm rfl rfl (by decide) (by omega) (by decide) ?_ h hs hg
  have := toNat_back vs.length
  rw [this, ← hx, List.getLast?_eq_getElem?]
theorem delItem_N {i : Int} {u : Tok} {k : Nat} {Q : Unit → Shared → Prop} (F : Fr h₀ L s.heap m) (N : News h₀ L s.heap news) (hfit : Builtin.List.listFitsIndex i = true) (hk : seqIndex? i vs.length = some k) (U : Upd D (listOf vs.toArray n) (listOf (vs.eraseIdx k).toArray (n + 1)) news news')
    (h : ∀ h', Fr h₀ L h' m → News h₀ L h' news' → Q () { s with heap := h' }) (hsz : vs.length ≤ sizeLine) : wpAny (model prog w) A (delItem (.ref D) (.int i u)) Q E s := by
  obtain ⟨pre, post, rfl, rfl, a, b⟩ := U.split
  have z := N (D, listOf vs.toArray n) (List.mem_append.mpr (.inr (.head _)))
  refine delItem_at (its := vs.toArray) (k := k) z.1 hfit (by simpa using hk) (fun h' hs ho' => h h' (F.change hs z.2.1 z.2.2) (news_set N a b hs (by simpa using ho'))) (by simpa using hsz)
end
/-- what holds behind a statement: the frame, up to some tokens -/
inductive Js0 (s₀ : Shared) (L : Addr) (news : List (Addr × Obj)) (r : List (Str × Value)) (s' : Shared) : Prop
  | mk (c : Cal s₀ s') (m : Str → Option Value) (F : Fr s₀.heap L s'.heap m) (a : Agree m r) (N : News s₀.heap L s'.heap news)
inductive Js1 (s₀ : Shared) (L : Addr) (news : List (Addr × Obj)) (r : Tok → List (Str × Value)) (s' : Shared) : Prop
  | mk (c : Cal s₀ s') (m : Str → Option Value) (t : Tok) (F : Fr s₀.heap L s'.heap m) (a : Agree m (r t)) (N : News s₀.heap L s'.heap news)
inductive Js2 (s₀ : Shared) (L : Addr) (news : List (Addr × Obj)) (r : Tok → Tok → List (Str × Value)) (s' : Shared) : Prop
  | mk (c : Cal s₀ s') (m : Str → Option Value) (t u : Tok) (F : Fr s₀.heap L s'.heap m) (a : Agree m (r t u)) (N : News s₀.heap L s'.heap news)
inductive La0 (r : List (Str × Value)) (X : List (Addr × Obj)) (m : Str → Option Value) (news : List (Addr × Obj)) : Prop
  | mk (a : Agree m r) (e : news = X)
inductive La1 (r : Tok → List (Str × Value)) (X : List (Addr × Obj)) (m : Str → Option Value) (news : List (Addr × Obj)) : Prop
  | mk (t : Tok) (a : Agree m (r t)) (e : news = X)
end Mine
end
end partR1
/-! part E1 -/
section partE1
open PySem PySem.W PyProof.Rows PySem.Calls Builtin Builtin.Str
set_option Elab.async false
set_option maxRecDepth 100000
set_option linter.all false
noncomputable section
namespace Mine
local macro_rules | `(tactic| omega) => `(tactic| lia)
theorem fillE1 : PySem.Challenge.rw_wr0027_01.prog = PySem.Challenge.rw_wr0027_01.prog ∧ hd.heap_1 = hd.heap_1 := by
  k_fill
  exact ⟨rfl, rfl⟩
local macro_rules | `(tactic| k_steps) => `(tactic| repeat' (first | walk1 | (dsimp only; walk1)))
local macro_rules | `(tactic| walk_at "exec For Name Name cons nil") => `(tactic| refine stop ?_)

local macro_rules | `(tactic| walk_at "call builtin:str.split") => `(tactic| (k_here; (with_reducible show wpAny _ _ (call (Value.builtin "str.split") _) _ _ _); (refine KSpl.split1 (by k_asm) (by k_asm) (by decide) ?_ (by assumption)); (intro D' l' h' k' e' a' F' N' l1)))
local macro_rules | `(tactic| walk_at "subscriptTail Name Constant ref int") => `(tactic| (k_here; (with_unfolding_all refine' item_N ?k1 ?k2 ?k3 ?k4 ?k5 ?_; (case k1 => k_asm); (case k2 => k_mem); (case k3 => decide); (case k4 => decide); (case k5 => exact rfl))))
local macro_rules | `(tactic| walk_at "subscriptTail Name UnaryOp ref int") => `(tactic| refine stop ?_)
local macro_rules | `(tactic| walk_at "call builtin:str.find") => `(tactic| refine stop ?_)
local macro_rules | `(tactic| walk_at "pyIter ref") => `(tactic| refine stop ?_)
local macro_rules | `(tactic| walk_at "delItem ref int") => `(tactic| refine stop ?_)
local macro_rules | `(tactic| walk_at "call builtin:len") => `(tactic| ((with_reducible show wpAny _ _ (call (Value.builtin "len") [Value.str _ _]) _ _ _); (refine len_str (by have hSz := sz_lt; omega) ?_)))
local macro_rules | `(tactic| walk_at "truthy str") => `(tactic| (refine P.truthy_str (by have hSz := sz_lt; omega) ?_))
noncomputable def ellLoop (got : Str) (hi : Nat) : List Str → Nat → Bool
  | [], _ => true
  | w :: ws, lo => match occurrences got w lo hi 1 with
    | i :: _ => ellLoop got hi ws (i + w.length)
    | [] => false
noncomputable def ellTail (got : Str) (ws : List Str) (lo hi : Nat) : Bool := if lo > hi then false else ellLoop got hi ws lo
noncomputable def ellLast (got : Str) (ws : List Str) (lo : Nat) : Bool :=
  let w := ws.getLast?.getD ⟨#[]⟩
  if w.length = 0 then ellTail got ws lo got.length else if Txt.endswith got w then ellTail got ws.dropLast lo (got.length - w.length) else false
noncomputable def ellHead (got : Str) (ws : List Str) : Bool :=
  let w := ws.head?.getD ⟨#[]⟩
  if w.length = 0 then ellLast got ws 0 else if Txt.startswith got w then ellLast got ws.tail w.length else false
noncomputable def dots : Str := Str.ofString "..."
noncomputable def ellB (want got : Str) : Bool := if (occurrences want dots 0 want.length 1).isEmpty = true then want == got else ellHead got (Txt.split want dots)

theorem ws_of {l : List (Str × Tok)} {x : Str} {r : List Str} (e : l.map (·.1) = x :: r) : ∃ t l', l = (x, t) :: l' ∧ l'.map (·.1) = r := KSpl.cons_of e

inductive EllA (s₀ : Shared) (L D : Addr) (want got : Str) (t2 : Tok) (xs : List Str) (s' : Shared) : Prop
  | mk (c : Cal s₀ s') (vs : List (Str × Tok)) (n lo : Nat) (t t' : Tok) (m : Str → Option Value) (he : ellHead got xs = ellLast got (vs.map (·.1)) lo) (hne : vs ≠ []) (hz : vs.length ≤ sizeLine) (hlo : lo ≤ sizeLine) (hvs : ∀ p ∈ vs, p.1.length ≤ want.length)
      (F : Fr s₀.heap L s'.heap (over [(Str.ofString "got", .str got t2), (Str.ofString "ws", .ref D), (Str.ofString "startpos", .int (lo : Int) t), (Str.ofString "endpos", .int (got.length : Nat) t')] m)) (N : News s₀.heap L s'.heap [(D, listOf (strValues vs).toArray n)])
inductive EllZ (s₀ : Shared) (L D : Addr) (want got : Str) (t2 : Tok) (xs : List Str) (lo : Nat) (s' : Shared) : Prop
  | mk (c : Cal s₀ s') (vs2 : List (Str × Tok)) (n lo3 hi : Nat) (t t' : Tok) (m : Str → Option Value) (he : ellLast got xs lo = ellTail got (vs2.map (·.1)) lo3 hi) (hz : vs2.length ≤ sizeLine) (hlo : lo3 ≤ sizeLine) (hhi : hi ≤ got.length) (hvs : ∀ p ∈ vs2, p.1.length ≤ want.length)
      (F : Fr s₀.heap L s'.heap (over [(Str.ofString "got", .str got t2), (Str.ofString "ws", .ref D), (Str.ofString "startpos", .int (lo3 : Int) t), (Str.ofString "endpos", .int (hi : Int) t')] m)) (N : News s₀.heap L s'.heap [(D, listOf (strValues vs2).toArray n)])
inductive EllI (got : Str) (t2 : Tok) (hi2 : Nat) (b : Bool) (xs : List Str) (m : Str → Option Value) : Prop
  | mk (lo : Nat) (t t' : Tok) (ag : Agree m [(Str.ofString "got", .str got t2), (Str.ofString "startpos", .int (lo : Int) t), (Str.ofString "endpos", .int (hi2 : Int) t')]) (e : ellLoop got hi2 xs lo = b)

set_option maxHeartbeats 8000000 in
theorem ell_spec : ∀ {w : World} {mean : ExcName → Option Value} {mg mb : Str → Option Value} (want got : Str) (t1 t2 : Tok) (s₀ : Shared)
   (KX : (hd.heap_1 w.params).In s₀.heap) (T : Tp mean mg mb s₀.heap) (hw : want.length + 2 ≤ sizeLine) (hg : got.length + 2 ≤ sizeLine) (hsp : (occurrences want dots 0 want.length 1).isEmpty = false → 2 ≤ (Txt.split want dots).length) (hsz : (Txt.split want dots).length ≤ sizeLine),
   Spec w 1 21 [.str want t1, .str got t2] s₀ (fun v _ => v = .bool (ellB want got)) := by
  intro w mean mg mb want got t1 t2 s₀ KX T hw hg hsp hsz
  refine' spec_of (binds := [(Str.ofString "want", .str want t1), (Str.ofString "got", .str got t2)]) KX T ?ho ?hcd ?hb ?hl ?c1 ?c2 ?c3 ?c4 ?_
  case ho => k_is
  case hcd => k_is
  case hb => rfl
  case hl => exact locs rfl
  case c1 => exact rfl
  case c2 => exact rfl
  case c3 => exact rfl
  case c4 => decide
  intro dp un fr gd L h₁ tk hdp hun F N
  try dsimp only
  k_steps
  rotate_left
  · rename_i hocc D l h1 k1 el al l1 h2 F2 N2
    have hl0 := congrArg List.length el
    rw [List.length_map] at hl0
    have hl : (strValues l).length = l.length := by simp [strValues]
    have h2' := hsp hocc
    unfold dots at h2' hsz
    refine len_N (by k_asm) (by k_mem) (by omega) ?_
    dsimp only
    obtain ⟨⟨x0, tx0⟩, l', rfl⟩ : ∃ p l', l = p :: l' := by
      cases l with
      | nil => simp at hl0; omega
      | cons p l' => exact ⟨p, l', rfl⟩
    have hx0 : x0.length ≤ want.length := part_short (y := Str.ofString "...") (by rw [← el]; simp)
    repeat' ((fail_if_success (with_reducible show wpAny _ _ (execs (Stmt.If (PySem.Expr.Name _ _) _ _ _ :: _) _) _ _ _)); first | walk1 | (dsimp only))
    refine cut (EllA s₀ L D want got t2 (((x0, tx0) :: l').map (·.1))) ?_ ?_
    · k_steps
      · rename_i hx _ hst _ _ _
        refine delItem_N (vs := strValues ((x0, tx0) :: l')) (n := 0) (by k_asm) (by k_asm) (k := 0) (by decide) (by simp [seqIndex?, strValues]) (by k_upd) ?_ (by omega)
        intro h3 F3 N3
        k_steps
        refine ⟨⟨rfl, Nat.le_refl _, fun _ _ => rfl, id⟩, l', 1, x0.length, _, _, _, ?_, ?_, ?_, ?_, ?_, fr_over F3 ⟨rfl, rfl, rfl, rfl, trivial⟩, fun p hp => N3 p (by rw [List.mem_singleton.mp hp]; simp [strValues])⟩
        · unfold ellHead
          simp only [List.map_cons, List.head?_cons, Option.getD_some, List.tail_cons]
          rw [if_neg (by omega), if_pos hst]
        · rintro rfl; simp at hl0; omega
        · simp at hl0; omega
        · omega
        · intro p hp; exact part_short (y := Str.ofString "...") (by rw [← el]; exact List.mem_map_of_mem (List.mem_cons_of_mem _ hp))
      · rename_i hx _ hst
        refine done_of (by assumption) ⟨rfl, Nat.le_refl _, fun _ _ => rfl, id⟩ ?_
        show Value.bool false = Value.bool (ellB want got)
        unfold ellB dots
        rw [if_neg (by rw [hocc]; decide), ← el]
        unfold ellHead
        simp only [List.map_cons, List.head?_cons, Option.getD_some, List.tail_cons]
        rw [if_neg (by omega), if_neg (by rw [show Txt.startswith got x0 = false by assumption]; decide)]
      · rename_i hx
        refine ⟨⟨rfl, Nat.le_refl _, fun _ _ => rfl, id⟩, (x0, tx0) :: l', 0, 0, _, _, _, ?_, ?_, ?_, ?_, ?_, fr_over (by assumption) ⟨rfl, rfl, rfl, rfl, trivial⟩, fun p hp => (by assumption : News _ _ _ [_, _]) p (by rw [List.mem_singleton.mp hp]; simp)⟩
        · unfold ellHead
          simp only [List.map_cons, List.head?_cons, Option.getD_some, List.tail_cons]
          rw [if_pos (by omega)]
        · simp
        · rw [← hl]; omega
        · omega
        · intro p hp; exact part_short (y := Str.ofString "...") (by rw [← el]; exact List.mem_map_of_mem hp)
    · rintro s1 ⟨C1, vs, n, lo, t, t', m, he, hne, hz, hlo, hvs, F1, N1⟩
      obtain ⟨vs', y, ty, rfl⟩ : ∃ vs' y ty, vs = vs' ++ [(y, ty)] := ⟨vs.dropLast, (vs.getLast hne).1, (vs.getLast hne).2, (List.dropLast_concat_getLast hne).symm⟩
      have hyl : y.length ≤ want.length := hvs _ (List.mem_append_right _ List.mem_cons_self)
      have hzl : (strValues (vs' ++ [(y, ty)])).length = vs'.length + 1 := by simp [strValues]
      rw [List.length_append, List.length_singleton] at hz
      k_steps
      refine last_N (vs := strValues (vs' ++ [(y, ty)])) (x := .str y ty) N1 List.mem_cons_self (by simp [strValues]) ?_
      dsimp only
      repeat' ((fail_if_success (with_reducible show wpAny _ _ (execs (Stmt.If (PySem.Expr.Name _ _) _ _ _ :: _) _) _ _ _)); first | walk1 | (dsimp only))
      refine cut (EllZ s₀ L D want got t2 ((vs' ++ [(y, ty)]).map (·.1)) lo) ?_ ?_
      · k_steps
        · rename_i hx _ hst _ _ _
          refine delItem_N (vs := strValues (vs' ++ [(y, ty)])) (n := n) (by k_asm) (by k_asm) (k := vs'.length) (by decide) ?_ (by k_upd) ?_ (by omega)
          · rw [hzl, PyProof.Rows.seqIndex_back (by decide) (by omega)]; congr 1; omega
          intro h3 F3 N3
          k_steps
          have hle : y.length ≤ got.length := by
            have := hst
            simp only [Txt.endswith, Bool.and_eq_true, decide_eq_true_eq] at this
            omega
          have hcast : (got.length : Int) - (y.length : Int) = ((got.length - y.length : Nat) : Int) := by omega
          refine ⟨⟨C1.os, C1.size, C1.gens, C1.bare⟩, vs', n + 1, lo, got.length - y.length, _, _, _, ?_, ?_, ?_, ?_, ?_, fr_over F3 ⟨rfl, rfl, rfl, (by rw [← hcast]; rfl), trivial⟩, ?_⟩
          · unfold ellLast
            simp only [List.map_append, List.map_cons, List.map_nil, List.getLast?_append, List.getLast?_singleton, Option.some_or, Option.getD_some]
            rw [if_neg (by omega), if_pos hst]
            simp
          · omega
          · omega
          · omega
          · exact fun p hp => hvs p (List.mem_append_left _ hp)
          · have e : (strValues (vs' ++ [(y, ty)])).eraseIdx vs'.length = strValues vs' := by
              simp only [strValues, List.map_append, List.map_cons, List.map_nil]
              rw [List.eraseIdx_append_of_length_le (by simp)]
              simp
            rw [e] at N3
            exact N3
        · rename_i hx _ hst
          refine done_of (by assumption) ⟨C1.os, C1.size, C1.gens, C1.bare⟩ ?_
          show Value.bool false = Value.bool (ellB want got)
          unfold ellB dots
          rw [if_neg (by rw [hocc]; decide), ← el, he]
          unfold ellLast
          simp only [List.map_append, List.map_cons, List.map_nil, List.getLast?_append, List.getLast?_singleton, Option.some_or, Option.getD_some]
          rw [if_neg (by omega), if_neg (by rw [show Txt.endswith got y = false by assumption]; decide)]
        · rename_i hx
          refine ⟨⟨C1.os, C1.size, C1.gens, C1.bare⟩, vs' ++ [(y, ty)], n, lo, got.length, _, _, _, ?_, ?_, ?_, ?_, ?_, fr_over (by assumption) ⟨rfl, rfl, rfl, rfl, trivial⟩, by assumption⟩
          · unfold ellLast
            simp only [List.map_append, List.map_cons, List.map_nil, List.getLast?_append, List.getLast?_singleton, Option.some_or, Option.getD_some]
            rw [if_pos (by omega)]
          · simpa using hz
          · omega
          · omega
          · exact hvs
      · rintro s2 ⟨C2, vs2, n2, lo2, hi2, t3, t4, m2, he2, hz2, hlo2, hhi2, hvs2, F2, N2⟩
        have hres : ellB want got = ellTail got (vs2.map (·.1)) lo2 hi2 := by
          unfold ellB dots
          rw [if_neg (by rw [hocc]; decide), ← el, he, he2]
        unfold ellTail at hres
        k_steps
        · rename_i hgt
          refine done_of (by assumption) ⟨C2.os, C2.size, C2.gens, C2.bare⟩ ?_
          show Value.bool false = Value.bool (ellB want got)
          rw [hres, if_pos (by omega)]
        · rename_i hgt
          rw [if_neg (by omega)] at hres
          unfold Stop
          refine for_road (h₀ := s₀.heap) (s₀ := s₀) ?_
          k_steps
          unfold Stop
          refine loop_list (fun i m news => EllI got t2 hi2 (ellB want got) ((vs2.map (fun p : Str × Tok => p.1)).drop i) m) rfl (vs := strValues vs2) (led_list N2 List.mem_cons_self) ?_ F2 N2 C2 ⟨lo2, t3, t4, ⟨rfl, rfl, rfl, trivial⟩, hres.symm⟩ ?_ ?_
          · exact (N2 _ List.mem_cons_self).2.1
          · rintro I hI i v m3 news3 s3 own hi hv C3 hadr ⟨lo, t, t', hag, hell⟩ hown F3 N3
            have F3' := fr_over F3 hag
            have hi' : i < vs2.length := by simpa [strValues] using hi
            obtain ⟨⟨x, tx⟩, hx⟩ : ∃ p, vs2[i]? = some p := ⟨_, List.getElem?_eq_getElem hi'⟩
            have hve : v = .str x tx := by
              have : (strValues vs2)[i]? = some (.str x tx) := by simp [strValues, hx]
              rw [this] at hv; exact (Option.some.inj hv).symm
            subst hve
            have hxl : x.length ≤ want.length := hvs2 _ (List.mem_of_getElem? hx)
            have hdrop : (vs2.map (·.1)).drop i = x :: (vs2.map (·.1)).drop (i + 1) := by
              rw [List.drop_eq_getElem_cons (by simpa using hi')]
              congr 1
              have := List.getElem?_eq_getElem hi'
              rw [hx] at this
              simp [← Option.some.inj this]
            rw [hdrop] at hell
            unfold ellLoop at hell
            clear N2 F2
            k_steps
            unfold Stop
            refine call_find4 hhi2 ?_
            dsimp only
            cases hoc : occurrences got x lo hi2 1 with
            | nil =>
              rw [hoc] at hell
              have hf : findIn got x lo hi2 = -1 := by unfold findIn; rw [hoc]
              rw [hf]
              k_steps
              change Done s₀ (fun v _ => v = .bool (ellB want got)) (.ret (.bool false)) _
              refine done_of (by assumption) ⟨C3.os, C3.size, C3.gens, C3.bare⟩ ?_
              show Value.bool false = Value.bool (ellB want got)
              rw [← hell]
            | cons j r =>
              rw [hoc] at hell
              have hf : findIn got x lo hi2 = (j : Int) := by unfold findIn; rw [hoc]
              rw [hf]
              k_steps
              refine ⟨⟨C3.os, C3.size, C3.gens, C3.bare⟩, trivial, _, news3, by assumption, by assumption, hadr, j + x.length, _, _, ⟨rfl, by rw [Int.natCast_add]; rfl, rfl, trivial⟩, hell⟩
          · rintro s3 m3 news3 C3 hadr ⟨lo, t, t', hag, hell⟩ F3 N3
            have F3' := fr_over F3 hag
            rw [List.drop_eq_nil_of_le (by simp [strValues])] at hell
            k_steps
            refine done_of F3 C3 ?_
            show Value.bool true = Value.bool (ellB want got)
            rw [← hell]; rfl
  · -- no dots
    rename_i hocc
    refine done_of (by assumption) ((Cal.refl s₀).heap _ _) ?_
    show Value.bool (want == got) = Value.bool (ellB want got)
    unfold ellB
    rw [if_pos (by exact hocc)]
end Mine
end
end partE1
/-! part G1 -/
section partG1
open PySem PySem.W PyProof.Rows PySem.Calls Builtin Builtin.Str
set_option Elab.async false
set_option maxRecDepth 100000
set_option linter.all false
noncomputable section
namespace Mine
section
variable {M : Model} {A : Around} {R : GenEnd} {Y : Protocol} {n : Nat} {s₀ : Shared} {c : Code} {fs : List Frame} {s : Shared} {env : Env}
  {K : Flow → Sem Fin} {H : Value → Sem Fin} {gd : Bool → Bool} {lv : List Value → List Value}

theorem wpAny_never {α : Type} {t : Sem α} {Q : α → Shared → Prop} {E : Value → Shared → Prop} (h : wpAny M A t Q (fun _ _ => False) s) : wpAny M A t Q E s := wpAny_mono h (fun _ _ x => x) fun _ _ x => x.elim

theorem seg_wrapF {α : Type} {m : Sem α} {K : α → Sem Fin} {H : Value → Sem Fin} {gd lv} (h : wpAny M (A.over c fs) m (fun a s' => Seg M A R Y n s₀ c (K a) fs s') (fun _ _ => False) s) : Seg M A R Y n s₀ c (m.wrap K H gd lv) fs s := seg_wrap (wpAny_never h)

theorem seg_stmt {st : Stmt} {rest : List Stmt} (h : wpAny M (A.over c fs) (exec st env) (fun f s' => match f with | .next => Seg M A R Y n s₀ c ((execs rest env).wrap K H gd lv) fs s' | f => Seg M A R Y n s₀ c (K f) fs s') (fun _ _ => False) s) :
    Seg M A R Y n s₀ c ((execs (st :: rest) env).wrap K H gd lv) fs s := by
  rw [execs_cons_wrap]
  refine seg_wrapF (wpAny_mono h (fun f s' hf => ?_) fun _ _ x => x)
  cases f <;> exact hf

theorem seg_If {test : Expr} {body orelse : List Stmt} {pos : Pos} (h : wpAny M (A.over c fs) (isTrue test env (eval test env)) (fun b s' => if b = true then Seg M A R Y n s₀ c ((execs body env).wrap K H gd lv) fs s' else Seg M A R Y n s₀ c ((execs orelse env).wrap K H gd lv) fs s') (fun _ _ => False) s) :
    Seg M A R Y n s₀ c ((exec (.If test body orelse pos) env).wrap K H gd lv) fs s := by
  rw [exec_If]
  refine seg_at ?_
  show Seg M A R Y n s₀ c ((isTrue test env (eval test env) >>= fun b => if b = true then execs body env else execs orelse env).wrap K H gd lv) fs s
  rw [Sem.bind_eq_wrap', Sem.wrap_wrap]
  refine seg_wrapF (wpAny_mono h (fun b s' hb => ?_) fun _ _ x => x)
  cases b with
  | true => rw [if_pos rfl] at hb; show Seg M A R Y n s₀ c (Sem.wrap _ _ _ _ (if true = true then _ else _)) fs s'; rw [if_pos rfl]; exact hb
  | false => rw [if_neg Bool.false_ne_true] at hb; show Seg M A R Y n s₀ c (Sem.wrap _ _ _ _ (if false = true then _ else _)) fs s'; rw [if_neg Bool.false_ne_true]; exact hb

/-- the frame that waits behind a loop -/
noncomputable def loopFrame (K : Flow → Sem Fin) (H : Value → Sem Fin) (gd : Bool → Bool) (lv : List Value → List Value) (env : Env) (c : Code) (p : Pos) : Frame :=
  .ret (fun r => ((match r with | .ok f => (.pure f : Sem Flow) | .error e => .raise e).onRaise fun (x : Value) => do
        if (← field x 1) == Value.none then unsupported "frame.own-activation:exception-without-traceback"
        setFlight x env.frame).wrap K H gd lv) none (gd false) (lv []) c p []

theorem seg_For {target iter : Expr} {body orelse : List Stmt} {pos : Pos}
    (h : wpAny M (A.over c fs) (eval iter env) (fun x s₁ => wpAny M (A.over c fs) (pyIter x) (fun it s₂ => ∀ p, Seg M A R Y n s₀ (.forLoop target it body orelse env) (M.den (.forLoop target it body orelse env)) (loopFrame K H gd lv env c p :: fs) s₂) (fun _ _ => False) s₁) (fun _ _ => False) s)
    (hs : ∀ x, foldedSetIterable iter env x = pure x := by intro _; rfl) :
    Seg M A R Y n s₀ c ((exec (.For target iter body orelse pos) env).wrap K H gd lv) fs s := by
  rw [exec_For]
  refine seg_at ?_
  show Seg M A R Y n s₀ c ((eval iter env >>= fun x => foldedSetIterable iter env x >>= fun x => standAt iter.pos >>= fun _ => holding [x] (pyIter x) >>= fun it => runOwn (.forLoop target it body orelse env) env).wrap K H gd lv) fs s
  rw [Sem.bind_eq_wrap', Sem.wrap_wrap]
  refine seg_wrapF (wpAny_mono h (fun x s₁ h₁ => ?_) fun _ _ x => x)
  rw [Sem.bind_eq_wrap', Sem.wrap_wrap, hs x]
  show Seg M A R Y n s₀ c ((standAt iter.pos >>= fun _ => holding [x] (pyIter x) >>= fun it => runOwn (.forLoop target it body orelse env) env).wrap K H _ _) fs s₁
  refine seg_at ?_
  show Seg M A R Y n s₀ c ((holding [x] (pyIter x) >>= fun it => runOwn (.forLoop target it body orelse env) env).wrap K H _ _) fs s₁
  rw [Sem.bind_eq_wrap', Sem.wrap_wrap]
  refine seg_wrapF (wpAny_holding (wpAny_mono h₁ (fun it s₂ h₂ => ?_) fun _ _ x => x))
  exact seg_call h₂

theorem seg_end_ret {r : Result} (h : R n s₀ r s) : Seg M A R Y n s₀ c (leafOf r) [] s := seg_end r h
end

section
variable {prog : Program} {w : World} {A : Around} {R : GenEnd} {Y : Protocol} {n : Nat} {s₀ : Shared} {fs : List Frame} {s : Shared} {env : Env}

theorem seg_forLoop {target : Expr} {it : Value} {body : List Stmt}
    (h : wpAny (model prog w) (A.over (.forLoop target it body [] env) fs) (pyNext it) (fun r s₁ => match r with
        | none => Seg (model prog w) A R Y n s₀ (.forLoop target it body [] env) (.pure (.again (.block [] env))) fs s₁
        | some v => wpAny (model prog w) (A.over (.forLoop target it body [] env) fs) (letOwnedTupleGo target it v) (fun _ s₂ =>
            wpAny (model prog w) (A.over (.forLoop target it body [] env) fs) (assign target env v) (fun _ s₃ =>
              ∀ (K : Flow → Sem Fin) (H : Value → Sem Fin), (K .next = .pure (.again (.forLoop target it body [] env))) → (K .cont = .pure (.again (.forLoop target it body [] env))) →
              Seg (model prog w) A R Y n s₀ (.forLoop target it body [] env) ((execs body env).wrap K H id id) fs s₃) (fun _ _ => False) s₂) (fun _ _ => False) s₁) (fun _ _ => False) s) :
    Seg (model prog w) A R Y n s₀ (.forLoop target it body [] env) ((model prog w).den (.forLoop target it body [] env)) fs s := by
  show Seg _ A R Y n s₀ _ ((forTurn target it body [] env).onRaise (fun x => do noteFrame x env; theTreesLotGoes x)) fs s
  unfold forTurn
  rw [Sem.onRaise_eq_wrap]
  refine seg_at ?_
  show Seg _ A R Y n s₀ _ (Sem.wrap _ _ _ _ ((pyNext it).onRaise (fun _ => standAt { target.pos with line := 0 }) >>= _)) fs s
  rw [Sem.bind_eq_wrap', Sem.wrap_wrap]
  refine seg_wrapF (wpAny_onRaise (wpAny_mono h (fun r s₁ h₁ => ?_) fun _ _ x => x.elim))
  cases r with
  | none => exact h₁
  | some v =>
    show Seg _ A R Y n s₀ _ (Sem.wrap _ _ _ _ (letOwnedTupleGo target it v >>= _)) fs s₁
    rw [Sem.bind_eq_wrap', Sem.wrap_wrap]
    refine seg_wrapF (wpAny_mono h₁ (fun _ s₂ h₂ => ?_) fun _ _ x => x)
    rw [Sem.bind_eq_wrap', Sem.wrap_wrap]
    refine seg_wrapF (wpAny_mono h₂ (fun _ s₃ h₃ => ?_) fun _ _ x => x)
    rw [Sem.bind_eq_wrap', Sem.wrap_wrap]
    exact h₃ _ _ rfl rfl

/-- the loop is through: back to what waits behind it -/
theorem seg_loopDone {K : Flow → Sem Fin} {H : Value → Sem Fin} {gd : Bool → Bool} {lv : List Value → List Value} {c c' : Code} {p : Pos}
    (h : Seg (model prog w) A R Y n s₀ c (K .next) fs s) : Seg (model prog w) A R Y n s₀ c' (.pure (.again (.block [] env))) (loopFrame K H gd lv env c p :: fs) s := by
  refine seg_again rfl ?_
  show Seg _ A R Y n s₀ _ (leafOf (.ok .next)) _ s
  exact seg_leaf (.ok .next) h
end
end Mine
end
end partG1
/-! part G2 -/
section partG2
open PySem PySem.W PyProof.Rows PySem.Calls Builtin Builtin.Str
set_option Elab.async false
set_option maxRecDepth 100000
set_option linter.all false
noncomputable section
namespace Mine
local macro_rules | `(tactic| omega) => `(tactic| lia)
theorem fillG2 : PySem.Challenge.rw_wr0027_01.prog = PySem.Challenge.rw_wr0027_01.prog ∧ hd.heap_1 = hd.heap_1 := by
  k_fill
  exact ⟨rfl, rfl⟩
local macro_rules | `(tactic| k_steps) => `(tactic| repeat' (first | walk1 | (dsimp only; walk1)))
local macro_rules | `(tactic| walk_at "call type:enumerate") => `(tactic| refine stop ?_)

/-- what _iter_escaped_chars tells: places and texts -/
noncomputable def escL : Nat → Bool → List Nat → List (Nat × List Nat)
  | i, true, [] => [(i - 1, [92])]
  | _, false, [] => []
  | i, true, c :: r => (i, [92, c]) :: escL (i + 1) false r
  | i, false, c :: r => if c = 92 then escL (i + 1) true r else (i, [c]) :: escL (i + 1) false r

noncomputable def othOf (h₀ : Heap) (C : Addr) (h : Heap) : List (Addr × Obj) := ownOf h₀ ((List.range h.objs.size).filter (· ≠ C)) h
theorem oth_news {h₀ h : Heap} {C : Addr} : News h₀ C h (othOf h₀ C h) := news_ownOf (by simp)
theorem oth_keep {h₀ h h' : Heap} {C : Addr} {m m' : Str → Option Value} (F : Fr h₀ C h m) (F' : Fr h₀ C h' m') (N' : ∀ p ∈ othOf h₀ C h, h'.get? p.1 = some p.2) : ∀ b o, b ≠ C → h.get? b = some o → h'.get? b = some o := fun b o hb e => by
  cases hn : h₀.get? b with
  | some o₀ =>
    have : o₀ = o := by have q := F.keep b o₀ hn; rw [e] at q; exact (Option.some.inj q).symm
    exact this ▸ F'.keep b o₀ hn
  | none => exact N' _ (mem_ownOf (List.mem_filter.mpr ⟨List.mem_range.mpr (Heap.lt_size e), by simpa using hb⟩) hn e)

theorem oth_mem {h₀ h : Heap} {C : Addr} {b : Addr} {o : Obj} (hb : b ≠ C) (hn : h₀.get? b = none) (e : h.get? b = some o) : (b, o) ∈ othOf h₀ C h :=
  mem_ownOf (List.mem_filter.mpr ⟨List.mem_range.mpr (Heap.lt_size e), by simpa using hb⟩) hn e
theorem oth_fresh {h₀ h h' : Heap} {C T : Addr} {o : Obj} {r : List (Addr × Obj)} (l : ∀ p ∈ othOf h₀ C h, p.1 < T) (N : News h₀ C h' ((T, o) :: r)) : h.get? T = none := by
  have z := (N _ List.mem_cons_self).2
  cases q : h.get? T with
  | none => rfl
  | some o' => exact absurd (l _ (oth_mem z.1 z.2 q)) (Nat.lt_irrefl _)
inductive GSince (fp : List Addr) (s₀ s : Shared) : Prop
  | mk (h' : Heap) (tk : Nat) (e : s = { s₀ with heap := h', toks := tk }) (k : ∀ b o, b ∉ fp → s₀.heap.get? b = some o → h'.get? b = some o)
theorem GSince.refl (fp : List Addr) (s : Shared) : GSince fp s s := ⟨s.heap, s.toks, rfl, fun _ _ _ e => e⟩
theorem GSince.step {fp : List Addr} {s₀ s : Shared} (x : GSince fp s₀ s) {h' : Heap} {tk : Nat} (hk : ∀ b o, b ∉ fp → s.heap.get? b = some o → h'.get? b = some o) : GSince fp s₀ { s with heap := h', toks := tk } := by
  obtain ⟨h₁, tk₁, rfl, hk₁⟩ := x
  exact ⟨h', tk, rfl, fun b o hb e => hk b o hb (hk₁ b o hb e)⟩

noncomputable def tupObj (p : Nat) (t : Tok) (x : List Nat) (t' : Tok) : Obj := { cls := .type "tuple", data := .seq #[.int (p : Int) t, .str ⟨x.toArray⟩ t'] }
inductive GItem (fp : List Addr) (its : List (Nat × List Nat)) (m : Nat) (s₀ : Shared) (v : Value) (s : Shared) : Prop
  | mk (p : Nat) (x : List Nat) (T : Addr) (t t' : Tok) (hi : its[its.length - 1 - m]? = some (p, x)) (e : v = .ref T) (hT : s.heap.get? T = some (tupObj p t x t')) (hn : s₀.heap.get? T = none) (hf : T ∉ fp)
inductive GYield (h₀ : Heap) (fp : List Addr) (its : List (Nat × List Nat)) (m : Nat) (s₀ : Shared) (v : Value) (s : Shared) (kap : Resume → Shared → Prop) : Prop
  | mk (i : GItem fp its m s₀ v s) (c : GSince fp s₀ s) (k : ∀ s'' : Shared, (∀ b ∈ fp, ∀ o, s.heap.get? b = some o → s''.heap.get? b = some o) → (∀ b o, h₀.get? b = some o → s''.heap.get? b = some o) → kap (.send .none) s'')
noncomputable def genY (h₀ : Heap) (fp : List Addr) (its : List (Nat × List Nat)) : Protocol := fun m s₀ v s kap => GYield h₀ fp its m s₀ v s kap
noncomputable def genR (fp : List Addr) : GenEnd := fun n s₀ r s₁ => r = .ok (.ret .none) ∧ (n = 0 ∧ GSince fp s₀ s₁)

theorem gen_of {w : World} {A : Around} {f : Addr} {vs : List Value} {s : Shared} {Q E : Value → Shared → Prop}
    {name qual : Str} {params : Arguments} {body : List Stmt} {scope : Scope} {dV kV doc pm cdv ct oc : Value} {an od : Option Addr} {osl : Array (Option Value)} {binds : List (Str × Value)}
    (X : (hd.heap_1 w.params).In s.heap) (hlim : s.heap.NoLimit) (hroom : A.depth < recursionLimit)
    (ho : (hd.heap_1 w.params).lookup f = some ⟨oc, od, .func (fnOf name qual params body scope dV kV doc pm an cdv ct), osl⟩) (hcd : codeIn (hd.heap_1 w.params) cdv qual = true)
    (hbind : bindArgs (fnOf name qual params body scope dV kV doc pm an cdv ct) ⟨vs, []⟩ = pure binds) (hloc : ∀ y ∈ binds, scope.names.lookup y.1 = some .local)
    (hco : scope.isCoroutine = false) (hgen : scope.isGenerator = true) (hk : scope.kind = .function)
    (hcell : ∀ x ∈ scope.names, x.2 ≠ .cell)
    (hQ : ∀ h' tk, h'.objs.size = s.heap.objs.size + 2 → (∀ b o, s.heap.get? b = some o → h'.get? b = some o) → h'.IsGen (s.heap.objs.size + 1) s.gens.size → h'.Ns s.heap.objs.size (fun y => binds.reverse.lookup y) →
      Q (.ref (s.heap.objs.size + 1)) { s with heap := h', toks := tk, gens := s.gens.push (.fresh (.func body (envOf qual scope s.heap.objs.size f cdv))) }) :
    wpAny (model PR w) A (call (.ref f) vs) Q E s := by
  refine wpAny_call (codeAny_call_generator hroom (X _ _ ho) rfl hco hgen rfl (codeRec_of X hcd) ?_)
  rw [hbind]
  refine wpAny_pure (wpAny_newFunctionEnv hcell hloc (fun h₁ hns hsb => ?_) hk)
  have hsz : h₁.objs.size = s.heap.objs.size + 1 := by rw [hsb.1]; exact Heap.size_push ..
  have hk₁ : ∀ b o, s.heap.get? b = some o → h₁.get? b = some o := fun b o e => hsb.extBut b o (Nat.ne_of_lt (Heap.lt_size e)) (Heap.get?_push_of_some _ e)
  refine ⟨hlim.fresh _ hsb, ?_⟩
  have q := hQ (h₁.push { cls := .type "generator", data := .fields #[.int s.gens.size 0, .str name (s.toks + binds.length), .str qual (s.toks + binds.length + 1)] }) (s.toks + binds.length + 1 + 1)
    (by rw [Heap.size_push, hsz]) (fun b o e => Heap.get?_push_of_some _ (hk₁ b o e)) (by rw [← hsz]; exact ⟨_, _, _, Heap.get?_push_size _ rfl, rfl, rfl, rfl⟩) (hns.push _)
  rw [← hsz] at q
  exact q

theorem str1_bs (a : Nat) : ((⟨#[a]⟩ : Str) == Str.ofString "\\") = decide (a = 92) := by
  rw [show Str.ofString "\\" = ⟨#[92]⟩ from by decide]
  by_cases h : a = 92
  · subst h; simp
  · simp [h]
theorem nin2 {b e it C : Nat} (h : b < C) (h1 : C < it) (h2 : it + 1 = e) : b ∉ [e, it] := by
  simp only [List.mem_cons, List.not_mem_nil, or_false]; omega
theorem idp {P : Prop} (h : P) : P := h
theorem fp_ne {b e it C : Addr} (h1 : C ≠ e) (h2 : C ≠ it) (hb : b ∈ [e, it]) : b ≠ C := by
  rintro rfl
  rcases List.mem_cons.mp hb with h | h
  · exact h1 h
  · exact h2 (List.mem_singleton.mp h)
theorem fp_c {e it C : Addr} (h1 : C ≠ e) (h2 : C ≠ it) : C ∉ [e, it] := fun hb => fp_ne h1 h2 hb rfl
theorem fp_sw {b e it : Addr} (hb : b ∈ [e, it]) : b ∈ [it, e] := by
  rcases List.mem_cons.mp hb with h | h
  · exact h ▸ List.mem_cons_of_mem _ List.mem_cons_self
  · exact List.mem_singleton.mp h ▸ List.mem_cons_self
noncomputable def EnP (x : Str) (i : Nat) (vals : Array Value) : Prop := ∃ u v, (∃ c u', x.cps[i]? = some c ∧ v = .str ⟨#[c]⟩ u') ∧ vals = #[.int (i : Int) u, v]
noncomputable def EnS (e it : Addr) (x : Str) (t : Tok) (i : Nat) (h : Heap) : Prop := (∃ old, IsEnum h e it i old) ∧ h.IsStrIter it (strIterType x) x t i
noncomputable def EnM (e it : Addr) (x : Str) (t : Tok) (i : Nat) (T : Addr) (h : Heap) : Prop := (∃ y, IsEnumOut h e it ((i : Int) + 1) y T) ∧ h.IsStrIter it (strIterType x) x t (i + 1) ∧ T ≠ e ∧ T ≠ it
theorem enumW {w : World} (e it : Addr) (x : Str) (t : Tok) (hei : e ≠ it) (A : Around) (hh : A.handled = none) : WalksT PR w A e [e, it] [e, it] x.cps.size (EnP x) (EnS e it x t) (EnM e it x t) := by
  unfold EnP EnS EnM
  cases ha : x.cps.all (· < 128)
  · have q : strIterType x = "str_iterator" := by simp [strIterType, ha]
    rw [q]; exact WalksT.enumerateD (Draws.strWide (A := A.in1) hh it x t) e hei (by simpa using hei) (by simp)
  · have q : strIterType x = "str_ascii_iterator" := by simp [strIterType, ha]
    rw [q]; exact WalksT.enumerateD (Draws.strAscii (A := A.in1) hh it x t) e hei (by simpa using hei) (by simp)

theorem enumDone {w : World} {e it : Addr} {x : Str} {t : Tok} {A : Around} {s : Shared} {Q : Option Value → Shared → Prop} {E : Value → Shared → Prop} (hh : A.handled = none)
    (hst : EnS e it x t x.cps.size s.heap) (hQ : ∀ h', Heap.ExtBut it s.heap h' → Q none { s with heap := h' }) : wpAny (model PR w) A (pyNext (.ref e)) Q E s := by
  obtain ⟨⟨old, he⟩, hit⟩ := hst
  cases ha : x.cps.all (· < 128)
  · have q : strIterType x = "str_iterator" := by simp [strIterType, ha]
    rw [q] at hit; exact wpAny_pyNext_enum_endD (Draws.strWide (A := A.in1) hh it x t) he hit hQ
  · have q : strIterType x = "str_ascii_iterator" := by simp [strIterType, ha]
    rw [q] at hit; exact wpAny_pyNext_enum_endD (Draws.strAscii (A := A.in1) hh it x t) he hit hQ

set_option maxHeartbeats 8000000 in
theorem gen_call : ∀ {w : World} {mean : ExcName → Option Value} {mg mb : Str → Option Value} (x : Str) (t : Tok) (h₀ : Heap) (s : Shared) (dp un : Nat) (fr : Option (List Env)) (gd : Option (List Code)) (Q E : Value → Shared → Prop)
   (KX : (hd.heap_1 w.params).In h₀) (T : Tp mean mg mb h₀) (hk : ∀ b o, h₀.get? b = some o → s.heap.get? b = some o) (hsz : h₀.objs.size ≤ s.heap.objs.size) (hdep : dp + 1 < recursionLimit) (hu : un + 8 < cLine)
   (hQ : ∀ h' tk gs, h'.objs.size = s.heap.objs.size + 2 → (∀ b o, s.heap.get? b = some o → h'.get? b = some o) → h'.IsGen (s.heap.objs.size + 1) s.gens.size → gs.bare = true →
     (∀ (dp un : Nat) (fr : Option (List Env)) (gd : Option (List Code)) s'' , (∀ o, h'.get? s.heap.objs.size = some o → s''.heap.get? s.heap.objs.size = some o) → (∀ b o, h₀.get? b = some o → s''.heap.get? b = some o) → dp + 1 < recursionLimit → un + 8 < cLine →
        ∃ fp, (∀ b ∈ fp, b = s.heap.objs.size ∨ s''.heap.objs.size ≤ b) ∧ gs.Goes (model PR w) (At dp un fr gd) (genR fp) (genY h₀ fp (escL 0 false x.cps.toList)) (escL 0 false x.cps.toList).length (.send .none) s'') →
     Q (.ref (s.heap.objs.size + 1)) { s with heap := h', toks := tk, gens := s.gens.push gs }),
   wpAny (model PR w) (At dp un fr gd) (call (.ref 28) [.str x t]) Q E s := by
  intro w mean mg mb x t h₀ s dp un fr gd Q E KX T hk hsz hdep hu hQ
  refine' gen_of (binds := [(Str.ofString "addr", .str x t)]) (KX.keeps hk) (T.nolimit.keeps hk) (by show dp < _; omega) ?ho ?hcd ?hb ?hl ?c1 ?c2 ?c3 ?c4 ?_
  case ho => k_is
  case hcd => k_is
  case hb => rfl
  case hl => exact locs rfl
  case c1 => exact rfl
  case c2 => exact rfl
  case c3 => exact rfl
  case c4 => decide
  intro h' tk hz hk' hg hns
  refine hQ h' tk _ hz hk' hg rfl ?_
  clear hQ hu hdep
  generalize hC : s.heap.objs.size = C at *
  intro dp un fr gd s₀ hkC hk0 hdep hun
  have hsz1 : h₀.objs.size ≤ C := by first | exact hsz | omega
  have hCs : C < s₀.heap.objs.size := by
    obtain ⟨oL, _, _, hL, _⟩ := hns
    exact Heap.lt_size (hkC _ hL)
  refine ⟨[C, s₀.heap.objs.size, s₀.heap.objs.size + 1], ?_, rfl, ?_⟩
  · intro b hb
    simp only [List.mem_cons, List.not_mem_nil, or_false] at hb
    rcases hb with rfl | rfl | rfl
    · exact .inl rfl
    · exact .inr (Nat.le_refl _)
    · exact .inr (Nat.le_succ _)
  refine seg_func ?_
  have F : Fr h₀ C s₀.heap (fun y => [(Str.ofString "addr", Value.str x t)].reverse.lookup y) := ⟨hns.at' hkC, hk0, hsz1⟩
  refine seg_stmt ?_
  walk1
  walk1
  refine wpAny_storeName_local (by rfl) F.ns (fun h1 hn1 hs1 => ?_) (by rfl)
  have F1 := F.set hn1 hs1
  show Seg _ _ _ _ _ _ _ ((execs (_ :: _) _).wrap _ _ _ _) _ _
  refine seg_stmt ?_
  walk1
  walk1
  refine wpAny_storeName_local (by rfl) F1.ns (fun h2 hn2 hs2 => ?_) (by rfl)
  have F2 := F1.set hn2 hs2
  show Seg _ _ _ _ _ _ _ ((execs (_ :: _) _).wrap _ _ _ _) _ _
  refine seg_execs_cons ?_
  refine seg_For ?_
  k_steps
  unfold Stop
  refine call_enumerate_str fun h3 he hit hz3 hk3 => ?_
  have e0 : h2.objs.size = s₀.heap.objs.size := hs2.1.trans hs1.1
  dsimp only at he hit hz3 hk3 ⊢
  rw [e0] at he hit hz3 ⊢
  refine wpAny_pyIter_enum he ?_
  intro p
  have hfp : ∀ b o, b ∉ [C, s₀.heap.objs.size, s₀.heap.objs.size + 1] → s₀.heap.get? b = some o → h3.get? b = some o := fun b o hb e => by
    simp only [List.mem_cons, List.not_mem_nil, or_false, not_or] at hb
    exact hk3 b o (hs2.extBut b o hb.1 (hs1.extBut b o hb.1 e))
  generalize hits : escL 0 false x.cps.toList = its
  generalize hit0 : s₀.heap.objs.size = it at *
  generalize hee : it + 1 = e at *
  generalize hc : Code.forLoop _ _ _ _ _ = c
  generalize hfs : [loopFrame _ _ _ _ _ _ _] = fs
  have F3 := Fr.mk (F2.ns.keeps hk3) (fun b o e => hk3 b o (F2.keep b o e)) F2.above
  have hei : e ≠ it := fun q => Nat.succ_ne_self it (hee.trans q)
  have hCe : C ≠ e := Nat.ne_of_lt (hee ▸ Nat.lt_succ_of_lt hCs)
  have hCi : C ≠ it := Nat.ne_of_lt hCs
  have hlow : ∀ (b : Nat) (o : Obj), h₀.get? b = some o → b < C := fun b o q => Nat.lt_of_lt_of_le (Heap.lt_size q) hsz1
  clear hk3 hz3 e0 F2 hs2 hn2 F1 hs1 hn1 F hz hk' hg hsz hk
  revert fs c e it its C
  refine idp ?_
  intro C hC hns hkC hsz1 its hits it hit0 hCs hit e hee he hfp c hc fs hfs F3 hei hCe hCi hlow
  have loop : ∀ (k i : Nat) (esc : Bool) (sY s : Shared) (m : Str → Option Value) (tp : Tok), x.cps.size - i = k → i ≤ x.cps.size → EnS e it x t i s.heap → Fr h₀ C s.heap m →
      Agree m [(Str.ofString "pos", .int ((i - 1 : Nat) : Int) tp), (Str.ofString "escape", .bool esc)] → GSince [C, it, e] sY s → (∃ pre, its = pre ++ escL i esc (x.cps.toList.drop i)) →
      Seg (model PR w) (At dp un fr gd) (genR [C, it, e]) (genY h₀ [C, it, e] its) (escL i esc (x.cps.toList.drop i)).length sY c ((model PR w).den c) fs s := by
    intro k
    induction k with
    | zero =>
      intro i esc sY s m tp hki hi hst F hag hsi hpre
      have hin : i = x.cps.size := Nat.le_antisymm hi (Nat.le_of_sub_eq_zero hki)
      have hdr : x.cps.toList.drop i = [] := List.drop_eq_nil_of_le (by simp [hin])
      rw [hdr] at hpre ⊢
      subst hc
      subst hfs
      refine seg_forLoop ?_
      have hst' := hst
      rw [hin] at hst'
      refine enumDone (x := x) (t := t) rfl hst' fun h4 hx4 => ?_
      have hk4 : ∀ b o, b ∉ [e, it] → s.heap.get? b = some o → h4.get? b = some o := fun b o hb q => hx4 b o (fun h => hb (h ▸ List.mem_cons_of_mem _ List.mem_cons_self)) q
      have he4 : ∃ o, h4.get? e = some o := by
        obtain ⟨⟨old, g1⟩, _⟩ := hst
        exact ⟨_, hx4 _ _ hei g1⟩
      dsimp only
      refine seg_loopDone ?_
      have F4 : Fr h₀ C h4 (over [(Str.ofString "pos", .int ((i - 1 : Nat) : Int) tp), (Str.ofString "escape", .bool esc)] m) := fr_over ⟨F.ns.at' fun o q => hk4 C o (fp_c hCe hCi) q, (fun b o q => hk4 b o (nin2 (hlow b o q) hCs hee) (F.keep b o q)), F.above⟩ hag
      have hsi4 : GSince [C, it, e] sY { s with heap := h4, toks := s.toks } := hsi.step fun b o hb q => hk4 b o (fun h => hb (List.mem_cons_of_mem _ (fp_sw h))) q
      have N4 := oth_news (h₀ := h₀) (C := C) (h := h4)
      have K4 : ∀ h' m', Fr h₀ C h' m' → (∀ p ∈ othOf h₀ C h4, h'.get? p.1 = some p.2) → ∀ b o, b ≠ C → h4.get? b = some o → h'.get? b = some o := fun h' m' F' N' => oth_keep F4 F' N'
      show Seg _ _ _ _ _ _ _ ((execs (_ :: _) _).wrap _ _ _ _) _ _
      refine seg_execs_cons ?_
      refine seg_If ?_
      cases esc with
      | false =>
        k_steps
        exact seg_end (.ok (.ret .none)) ⟨rfl, rfl, hsi4⟩
      | true =>
        k_steps
        show Seg _ _ _ _ _ _ _ ((execs (_ :: _) _).wrap _ _ _ _) _ _
        refine seg_execs_cons ?_
        refine seg_Expr_Yield rfl rfl rfl ?_
        k_steps
        rename_i T5 h5 F5 N5 l5 kap hkap
        have hk5 := K4 _ _ F5 (fun p hp => (N5 p (List.mem_cons_of_mem _ hp)).1)
        have hf5 := oth_fresh l5 N5
        have T5n : T5 ∉ [C, it, e] := by
          have z := (N5 _ List.mem_cons_self).2.1
          obtain ⟨oe, g4⟩ := he4
          have hen : h₀.get? e = none := by
            cases q : h₀.get? e with
            | none => rfl
            | some o => exact absurd (hlow e o q) (by rw [← hee]; exact Nat.not_lt.mpr (Nat.le_of_lt (Nat.lt_succ_of_lt hCs)))
          have hlt : e < T5 := l5 _ (oth_mem (Ne.symm hCe) hen g4)
          intro hm
          simp only [List.mem_cons, List.not_mem_nil, or_false] at hm
          rcases hm with q | q | q
          · exact z q
          · exact absurd hlt (Nat.not_lt.mpr (by rw [q, ← hee]; exact Nat.le_succ it))
          · exact absurd hlt (by rw [q]; exact Nat.lt_irrefl _)
        refine ⟨⟨i - 1, [92], T5, tp, _, ?_, rfl, (N5 _ List.mem_cons_self).1, ?_, T5n⟩, hsi4.step fun b o hb q => hk5 b o (fun h => hb (h ▸ List.mem_cons_self)) q, fun s'' hal hal0 => ?_⟩
        · obtain ⟨pre, rfl⟩ := hpre
          simp [escL]
        · obtain ⟨h9, tk9, e9, k9⟩ := hsi4
          cases q : sY.heap.get? T5 with
          | none => rfl
          | some o =>
            have := k9 _ _ T5n q
            have e10 : h4 = h9 := congrArg Shared.heap e9
            rw [← e10, hf5] at this; cases this
        · refine hkap .none s'' ?_
          exact seg_end (.ok (.ret .none)) ⟨rfl, rfl, GSince.refl _ _⟩
    | succ k ih =>
      intro i esc sY s m tp hki hi hst F hag hsi hpre
      have hlt : i < x.cps.size := Nat.lt_of_sub_eq_succ hki
      obtain ⟨ch, hch⟩ : ∃ ch, x.cps[i]? = some ch := ⟨_, Array.getElem?_eq_getElem hlt⟩
      have hdr : x.cps.toList.drop i = ch :: x.cps.toList.drop (i + 1) := by
        rw [List.drop_eq_getElem_cons (by simpa using hlt)]
        congr 1
        rw [Array.getElem?_eq_getElem hlt] at hch
        simpa using Option.some.inj hch
      rw [hdr] at hpre ⊢
      have hc' := hc
      subst hc
      subst hfs
      refine seg_forLoop ?_
      refine (enumW e it x t hei _ rfl).item i s _ _ hlt hst fun T0 vals h4 tk4 hP hTs hT hMid hk4 => ?_
      obtain ⟨u0, v0, ⟨c0, u1, hc0, rfl⟩, rfl⟩ := hP
      rw [hch] at hc0
      cases hc0
      dsimp only
      refine (enumW e it x t hei _ rfl).go _ _ _ i T0 { s with heap := h4, toks := tk4 } _ _ hMid fun h5 hst5 hk5 => ?_
      have hT5 : h5.IsTuple T0 #[.int (i : Int) u0, .str ⟨#[ch]⟩ u1] := hT.at fun o q => hk5 _ _ ((enumW (w := w) e it x t hei (At dp un fr gd) rfl).apart i T0 _ hMid) q
      have hk45 : ∀ b o, b ∉ [e, it] → s.heap.get? b = some o → h5.get? b = some o := fun b o hb q => hk5 b o hb (hk4 b o hb q)
      have F5 : Fr h₀ C h5 (over [(Str.ofString "pos", .int ((i - 1 : Nat) : Int) tp), (Str.ofString "escape", .bool esc)] m) := fr_over ⟨F.ns.at' fun o q => hk45 C o (fp_c hCe hCi) q, (fun b o q => hk45 b o (nin2 (hlow b o q) hCs hee) (F.keep b o q)), F.above⟩ hag
      have hsi5 : GSince [C, it, e] sY { s with heap := h5, toks := tk4 } := hsi.step fun b o hb q => hk45 b o (fun h => hb (List.mem_cons_of_mem _ (fp_sw h))) q
      have hTC : T0 ≠ C := by
        intro q
        obtain ⟨oL, _, _, hL, _⟩ := F.ns
        exact absurd (Heap.lt_size hL) (by rw [← q]; exact Nat.not_lt.mpr hTs)
      obtain ⟨oT, hgT, hcT, nT, hdT⟩ := hT5
      have hTn : h₀.get? T0 = none := by
        cases q : h₀.get? T0 with
        | none => rfl
        | some o => exact absurd (Heap.lt_size (F.keep _ _ q)) (Nat.not_lt.mpr hTs)
      have N5 : News h₀ C h5 ((T0, oT) :: othOf h₀ C h5) := fun p hp => by
        rcases List.mem_cons.mp hp with rfl | hp
        · exact ⟨hgT, hTC, hTn⟩
        · exact oth_news p hp
      have K5 : ∀ h' m', Fr h₀ C h' m' → (∀ p ∈ othOf h₀ C h5, h'.get? p.1 = some p.2) → ∀ b o, b ≠ C → h5.get? b = some o → h'.get? b = some o := fun h' m' F' N' => oth_keep F5 F' N'
      refine unpackN_ F5 N5 ⟨oT, hgT, hcT, nT, hdT⟩ rfl rfl rfl ?_
      intro h6 F6 N6
      k_steps
      rename_i h7a h7 F7 N7 K H hKn hKc
      have hag7 : Agree (fun y => if y = Str.ofString "ch" then some (Value.str ⟨#[ch]⟩ u1) else if y = Str.ofString "pos" then some (Value.int (i : Int) u0) else over [(Str.ofString "pos", .int ((i - 1 : Nat) : Int) tp), (Str.ofString "escape", .bool esc)] m y) [(Str.ofString "pos", Value.int (i : Int) u0), (Str.ofString "escape", .bool esc), (Str.ofString "ch", Value.str ⟨#[ch]⟩ u1)] := ⟨rfl, rfl, rfl, trivial⟩
      have hk57 := K5 _ _ F7 (fun p hp => (N7 p (List.mem_cons_of_mem _ hp)).1)
      have hsi7 : ∀ tk, GSince [C, it, e] sY { s with heap := h7, toks := tk } := fun tk => (hsi5.step (tk := tk) fun b o hb q => hk57 b o (fun h => hb (h ▸ List.mem_cons_self)) q)
      have F7' := fr_over F7 hag7
      have hst7 := (enumW (w := w) e it x t hei (At dp un fr gd) rfl).frame _ _ h7 hst5 fun b hb o q => hk57 b o (fp_ne hCe hCi hb) q
      clear N7 F7
      have N7 := oth_news (h₀ := h₀) (C := C) (h := h7)
      have K7 : ∀ h' m', Fr h₀ C h' m' → (∀ p ∈ othOf h₀ C h7, h'.get? p.1 = some p.2) → ∀ b o, b ≠ C → h7.get? b = some o → h'.get? b = some o := fun h' m' F' N' => oth_keep F7' F' N'
      have notfp : ∀ (T8 : Addr) (h8 : Heap) o r, News h₀ C h8 ((T8, o) :: r) → (∀ p ∈ othOf h₀ C h7, p.1 < T8) → h7.get? T8 = none ∧ T8 ∉ [C, it, e] := by
        intro T8 h8 o r N8 l8
        have hf8 := oth_fresh l8 N8
        refine ⟨hf8, ?_⟩
        have z := (N8 _ List.mem_cons_self).2.1
        obtain ⟨⟨old, g1⟩, o2, g2, _⟩ := hst7
        intro hm
        simp only [List.mem_cons, List.not_mem_nil, or_false] at hm
        rcases hm with q | q | q
        · exact z q
        · rw [q, g2] at hf8; cases hf8
        · rw [q, g1] at hf8; cases hf8
      show Seg _ _ _ _ _ _ _ ((execs (_ :: _) _).wrap _ _ _ _) _ _
      refine seg_execs_cons ?_
      refine seg_If ?_
      cases esc with
      | true =>
        k_steps
        show Seg _ _ _ _ ((escL (i + 1) false (List.drop (i + 1) x.cps.toList)).length + 1) _ _ ((execs (_ :: _) _).wrap _ _ _ _) _ _
        refine seg_execs_cons ?_
        refine seg_Expr_Yield rfl rfl rfl ?_
        k_steps
        rename_i T8 h8 F8 N8 l8 kap hkap
        obtain ⟨hf8, hn8⟩ := notfp _ _ _ _ N8 l8
        have hk8 := K7 _ _ F8 (fun p hp => (N8 p (List.mem_cons_of_mem _ hp)).1)
        refine ⟨⟨i, [92, ch], T8, u0, _, ?_, rfl, (N8 _ List.mem_cons_self).1, ?_, hn8⟩, (hsi7 _).step fun b o hb q => hk8 b o (fun h => hb (h ▸ List.mem_cons_self)) q, fun s'' hal hal0 => ?_⟩
        · obtain ⟨pre, rfl⟩ := hpre
          simp [escL]
        · obtain ⟨h9, tk9, e9, k9⟩ := hsi7 0
          cases q : sY.heap.get? T8 with
          | none => rfl
          | some o =>
            have := k9 _ _ hn8 q
            have e10 : h7 = h9 := congrArg Shared.heap e9
            rw [← e10, hf8] at this; cases this
        · refine hkap .none s'' ?_
          have F9 : Fr h₀ C s''.heap _ := ⟨F8.ns.at' (hal C List.mem_cons_self), hal0, F8.above⟩
          have hst9 := (enumW (w := w) e it x t hei (At dp un fr gd) rfl).frame _ _ s''.heap hst7 fun b hb o q => hal b (List.mem_cons_of_mem _ (fp_sw hb)) o (hk8 b o (fp_ne hCe hCi hb) q)
          have N9 := oth_news (h₀ := h₀) (C := C) (h := s''.heap)
          have K9 : ∀ h' m', Fr h₀ C h' m' → (∀ p ∈ othOf h₀ C s''.heap, h'.get? p.1 = some p.2) → ∀ b o, b ≠ C → s''.heap.get? b = some o → h'.get? b = some o := fun h' m' F' N' => oth_keep F9 F' N'
          clear N8 F8
          show Seg _ _ _ _ _ _ _ ((execs (_ :: _) _).wrap _ _ _ _) _ _
          refine seg_stmt ?_
          k_steps
          rename_i h10 F10 N10
          have hk10 := K9 _ _ F10 (fun p hp => (N10 p hp).1)
          change Seg _ _ _ _ _ _ _ (K .next) _ _
          rw [hKn]
          refine seg_again rfl ?_
          refine ih (i + 1) false s'' _ _ u0 (congrArg Nat.pred hki) hlt ?_ F10 ⟨rfl, rfl, trivial⟩ ?_ ?_
          · exact (enumW (w := w) e it x t hei (At dp un fr gd) rfl).frame _ _ h10 hst9 fun b hb o q => hk10 b o (fp_ne hCe hCi hb) q
          · exact ⟨h10, _, rfl, fun b o hb q => hk10 b o (fun h => hb (h ▸ List.mem_cons_self)) q⟩
          · obtain ⟨pre, rfl⟩ := hpre
            exact ⟨pre ++ [(i, [92, ch])], by simp [escL]⟩
      | false =>
        k_steps
        show Seg _ _ _ _ _ _ _ ((execs (_ :: _) _).wrap _ _ _ _) _ _
        refine seg_execs_cons ?_
        refine seg_If ?_
        k_steps
        · rename_i hb
          rw [str1_bs] at hb
          have hb := of_decide_eq_true hb
          subst hb
          have er : escL i false (92 :: List.drop (i + 1) x.cps.toList) = escL (i + 1) true (List.drop (i + 1) x.cps.toList) := by simp [escL]
          rw [er] at hpre ⊢
          show Seg _ _ _ _ _ _ _ ((execs (_ :: _) _).wrap _ _ _ _) _ _
          refine seg_stmt ?_
          k_steps
          rename_i h10 F10 N10
          have hk10 := K7 _ _ F10 (fun p hp => (N10 p hp).1)
          change Seg _ _ _ _ _ _ _ (K .next) _ _
          rw [hKn]
          refine seg_again rfl ?_
          refine ih (i + 1) true sY _ _ u0 (congrArg Nat.pred hki) hlt ?_ F10 ⟨rfl, rfl, trivial⟩ ?_ hpre
          · exact (enumW (w := w) e it x t hei (At dp un fr gd) rfl).frame _ _ h10 hst7 fun b hb o q => hk10 b o (fp_ne hCe hCi hb) q
          · exact (hsi7 _).step fun b o hb q => hk10 b o (fun h => hb (h ▸ List.mem_cons_self)) q
        · rename_i hb
          rw [str1_bs] at hb
          have hb := of_decide_eq_false hb
          have er : escL i false (ch :: List.drop (i + 1) x.cps.toList) = (i, [ch]) :: escL (i + 1) false (List.drop (i + 1) x.cps.toList) := by simp [escL, hb]
          rw [er] at hpre ⊢
          show Seg _ _ _ _ ((escL (i + 1) false (List.drop (i + 1) x.cps.toList)).length + 1) _ _ ((execs (_ :: _) _).wrap _ _ _ _) _ _
          refine seg_execs_cons ?_
          refine seg_Expr_Yield rfl rfl rfl ?_
          k_steps
          rename_i T8 h8 F8 N8 l8 kap hkap
          obtain ⟨hf8, hn8⟩ := notfp _ _ _ _ N8 l8
          have hk8 := K7 _ _ F8 (fun p hp => (N8 p (List.mem_cons_of_mem _ hp)).1)
          refine ⟨⟨i, [ch], T8, u0, u1, ?_, rfl, (N8 _ List.mem_cons_self).1, ?_, hn8⟩, (hsi7 _).step fun b o hb q => hk8 b o (fun h => hb (h ▸ List.mem_cons_self)) q, fun s'' hal hal0 => ?_⟩
          · obtain ⟨pre, rfl⟩ := hpre
            simp
          · obtain ⟨h9, tk9, e9, k9⟩ := hsi7 0
            cases q : sY.heap.get? T8 with
            | none => rfl
            | some o =>
              have := k9 _ _ hn8 q
              have e10 : h7 = h9 := congrArg Shared.heap e9
              rw [← e10, hf8] at this; cases this
          · refine hkap .none s'' ?_
            have F9 : Fr h₀ C s''.heap _ := ⟨F8.ns.at' (hal C List.mem_cons_self), hal0, F8.above⟩
            have hst9 := (enumW (w := w) e it x t hei (At dp un fr gd) rfl).frame _ _ s''.heap hst7 fun b hb o q => hal b (List.mem_cons_of_mem _ (fp_sw hb)) o (hk8 b o (fp_ne hCe hCi hb) q)
            change Seg _ _ _ _ _ _ _ (K .next) _ _
            rw [hKn]
            refine seg_again rfl ?_
            refine ih (i + 1) false s'' s'' _ u0 (congrArg Nat.pred hki) hlt hst9 F9 ⟨rfl, rfl, trivial⟩ (GSince.refl _ _) ?_
            obtain ⟨pre, rfl⟩ := hpre
            exact ⟨pre ++ [(i, [ch])], by simp⟩
  have el : its.length = (escL 0 false (x.cps.toList.drop 0)).length := by rw [List.drop_zero, hits]
  rw [el]
  exact loop x.cps.size 0 false s₀ _ _ _ (Nat.sub_zero _) (Nat.zero_le _) ⟨⟨_, he⟩, hit⟩ F3 ⟨rfl, rfl, trivial⟩ ⟨h3, _, rfl, hfp⟩ ⟨[], by rw [← hits]; rfl⟩
end Mine
end
end partG2
/-! part G3 -/
section partG3
open PySem PySem.W PyProof.Rows PySem.Calls Builtin Builtin.Str
set_option Elab.async false
set_option maxRecDepth 100000
set_option linter.all false
noncomputable section
namespace Mine

section
variable {prog : Program} {w : World} {A : Around} {E : Value → Shared → Prop} {s : Shared}
/-- a generator that has come to its end raises StopIteration -/
theorem raise_stop {α : Type} {Q : α → Shared → Prop} (hh : A.handled = none) (hE : ∀ x h', s.heap.objs.size ≤ x → (∃ o, h'.get? x = some o ∧ o.cls = .type "StopIteration") → (∀ b o, s.heap.get? b = some o → h'.get? b = some o) → E (.ref x) { s with heap := h' }) :
    wpAny (model prog w) A (do raiseNew (← newExc (.type "StopIteration") []) : Sem α) Q E s := by
  simp only [newExc, newTuple]
  refine wpAny_bind (wpAny_bind (wpAny_newObj_type ?_ (by size_fits)))
  refine wpAny_bind (m := firstArgMember _ _) (wpAny_of_eq (a := Value.none) (by first | rfl | (simp only [firstArgMember]; rfl)) ?_)
  refine wpAny_newObj_type ?_ (by size_fits)
  simp only [raiseNew]
  refine wpAny_bind (wpAny_bind (wpAny_handled ?_))
  rw [hh]
  refine wpAny_pure ?_
  refine wpAny_bind (wpAny_pure ?_)
  refine wpAny_throw (hE _ _ ?_ ?_ ?_)
  · rw [Heap.size_push]; exact Nat.le_succ _
  · exact ⟨_, Heap.get?_push_size _ rfl, rfl⟩
  · exact fun b o hb => Heap.get?_push_of_some _ (Heap.get?_push_of_some _ hb)

/-- next() of a generator function's generator; the state it is left in is bare -/
theorem next_gen {a : Addr} {g n : Nat} {gs : GenState} {P : Nat → Shared → Shared → Prop} {Y : Protocol} {Q : Option Value → Shared → Prop} (hh : A.handled = none)
    (hl : s.heap.NoLimit) (hroom : A.depth < recursionLimit) (hg : s.heap.IsGen a g) (hgs : s.gens[g]? = some gs)
    (hgo : gs.Goes (model prog w) A.in1 (fun n s₀ r s₁ => r = .ok (.ret .none) ∧ P n s₀ s₁) Y n (.send .none) (s.setGen g .running))
    (hY : ∀ v s₁ gs', gs'.bare = true → Y (n - 1) (s.setGen g .running) v s₁ (fun r' s'' => match n with
        | 0 => False
        | m + 1 => gs'.Goes (model prog w) A.in1 (fun n s₀ r s₁ => r = .ok (.ret .none) ∧ P n s₀ s₁) Y m r' s'') → Q (some v) (s₁.setGen g gs'))
    (hP : ∀ s₁, P n (s.setGen g .running) s₁ → ∀ h', (∀ b o, s₁.heap.get? b = some o → h'.get? b = some o) → Q none { s₁.setGen g .finished with heap := h' }) :
    wpAny (model prog w) A (pyNext (.ref a)) Q E s := by
  have wake : wpAny (model prog w) A.in1 (Builtin.Generator.genWake (.ref a) (.send .none)) (fun fin s' => ∃ v, fin = .done (.ret v) ∧ Q (some v) s')
      (fun x s' => ∃ e h' o, x = .ref e ∧ s'.heap = h' ∧ h'.get? e = some o ∧ o.cls = .type "StopIteration" ∧ Q none s') s := by
    unfold Builtin.Generator.genWake
    refine wpAny_bind (wpAny_holding (wpAny_genNumber hg (wpAny_bind (wpAny_genState hgs ?_))))
    have go : wpAny (model prog w) A.in1 (do
        match ← resume g (.send .none) with
        | .yielded v => ret v
        | .returned v =>
          if v == .none then raiseNew (← newExc (.type "StopIteration") [])
          rule "generator.return-value"; throw (← newExc (.type "StopIteration") [v])
        | .raised e => Builtin.Generator.genLeft (.ref a) e
        | .running => rule "generator.already-executing"; raiseError "ValueError" "generator already executing"
        | .justStarted => rule "generator.send-to-fresh"; raiseError "TypeError" "can't send non-None value to a just-started generator"
        | .finished => raiseNew (← newExc (.type "StopIteration") [])) (fun fin s' => ∃ v, fin = .done (.ret v) ∧ Q (some v) s')
        (fun x s' => ∃ e h' o, x = .ref e ∧ s'.heap = h' ∧ h'.get? e = some o ∧ o.cls = .type "StopIteration" ∧ Q none s') s := by
      show wpAny _ A.in1 (.resume g (.send .none) [] _) _ _ s
      refine wpAny_resumeQ hgs hgo (fun x s₁ hx => ?_) (fun v s₁ gs' hb hv => wpAny_pure ⟨v, rfl, hY v s₁ gs' hb hv⟩)
      obtain ⟨rfl, hp⟩ := hx
      show wpAny _ A.in1 ((do raiseNew (← newExc (.type "StopIteration") [])) >>= _) _ _ _
      refine wpAny_bind (raise_stop (A := A.in1) hh fun e h' _ ⟨o, ho, hc⟩ hk => ⟨e, h', o, rfl, rfl, ho, hc, hP s₁ hp h' hk⟩)
    cases gs with
    | running => exact hgo.elim
    | finished => exact hgo.elim
    | fresh c => exact wpAny_bind (wpAny_roomToWake hl hroom go)
    | suspended k l c p fs cl => exact wpAny_bind (wpAny_roomToWake hl hroom go)
  unfold pyNext
  refine wpAny_bind (wpAny_attempt (wpAny_callSpecial?_slot (name := Str.ofString "__next__") hg.typeIs slot_gen_next
    (wpAny_call_entry slot_gen_next hg.typeIs entry_gen_next (wpAny_mono wake (fun fin s' h => ?_) fun x s' h => ?_) (args_gen_next _))))
  · obtain ⟨v, rfl, hq⟩ := h
    exact ⟨v, rfl, wpAny_pure hq⟩
  · obtain ⟨e, h', o, rfl, rfl, ho, hc, hq⟩ := h
    exact wpAny_bind (wpAny_isInstance (T := "StopIteration") (b := true) ⟨_, ho, hc⟩ isSubtype_stop (wpAny_pure hq))
end

theorem go_gen {w : World} {A : Around} {a T : Addr} {g : Nat} {s : Shared} {elts : List Expr} {k : Nat} {pos : Pos} {Q : Unit → Shared → Prop} {E : Value → Shared → Prop} (hg : s.heap.IsGen a g) (h : Q () s) :
    wpAny (model PR w) A (letOwnedTupleGo (.Tuple elts k pos) (.ref a) (.ref T)) Q E s := by
  obtain ⟨⟨oc, od, odt, osl⟩, nm, qn, ho, hc, hd, hs⟩ := hg
  dsimp only at hc hd
  subst hc
  subst hd
  show wpAny _ A (load a >>= _) _ _ _
  refine wpAny_bind (wpAny_load ho ?_)
  dsimp only
  exact wpAny_pure h

/-- a generator of _iter_escaped_chars behind j of its items -/
structure GenSt (w : World) (A : Around) (h₀ : Heap) (its : List (Nat × List Nat)) (a : Addr) (g j : Nat) (fp : List Addr) (s : Shared) : Prop where
  gen : s.heap.IsGen a g
  goes : ∃ gs, s.gens[g]? = some gs ∧ ∀ s'' : Shared, (∀ b ∈ fp, ∀ o, s.heap.get? b = some o → s''.heap.get? b = some o) → (∀ b o, h₀.get? b = some o → s''.heap.get? b = some o) →
    ∃ fp', (∀ b ∈ fp', b ∈ fp ∨ s''.heap.objs.size ≤ b) ∧ gs.Goes (model PR w) A.in1 (genR fp') (genY h₀ fp' its) (its.length - j) (.send .none) s''

noncomputable def GTurnEnd (h₀ : Heap) (L : Addr) (s₀ : Shared) (own : List (Addr × Obj)) (J : (Str → Option Value) → List (Addr × Obj) → Prop) (s₁ : Shared) (Q : Flow → Shared → Prop) (f : Flow) (s₃ : Shared) : Prop :=
  match f with
  | .ret v => Q (.ret v) s₃
  | .brk => Q .next s₃
  | _ => TurnOk h₀ L s₀ (fun a b => b.gens = a.gens) own J s₁ s₃

theorem cal_setGen {s₀ s : Shared} {g : Nat} {x : GenState} (c : Cal s₀ s) (hg : s₀.gens.size ≤ g) (hb : x.bare = true) : Cal s₀ (s.setGen g x) := by
  refine ⟨c.os, by simpa [Shared.setGen] using c.size, fun k hk => ?_, fun b => ?_⟩
  · have : k ≠ g := Nat.ne_of_lt (Nat.lt_of_lt_of_le hk hg)
    simpa [Shared.setGen, Ne.symm this] using c.gens k hk
  · intro y hy
    simp only [Shared.setGen] at hy
    rcases Array.mem_or_eq_of_mem_setIfInBounds hy with q | q
    · exact c.bare b y q
    · rw [q]; exact hb

noncomputable def GTurn (w : World) (A : Around) (h₀ : Heap) (s₀ : Shared) (env : Env) (elts : List Expr) (kk : Nat) (tpos : Pos) (body : List Stmt) (Q : Flow → Shared → Prop) (its : List (Nat × List Nat)) (news : List (Addr × Obj)) (J : Nat → (Str → Option Value) → List (Addr × Obj) → Prop) : Prop :=
  ∀ j p x T t t' m₁ news₁ s₁ own, its[j]? = some (p, x) → Cal s₀ s₁ → SameAdr news news₁ → J j m₁ news₁ → (∀ q ∈ own, ∀ r ∈ news, r.1 ≠ q.1) → Fr h₀ env.locals s₁.heap m₁ → News h₀ env.locals s₁.heap ((T, tupObj p t x t') :: (news₁ ++ own)) → (∀ q ∈ news, q.1 ≠ T) →
        wpAny (model PR w) A (assign (.Tuple elts kk tpos) env (.ref T)) (fun _ s₂' => wpAny (model PR w) A (execs body env) (fun f s₃ => GTurnEnd h₀ env.locals s₀ own (fun m' news' => SameAdr news news' ∧ J (j + 1) m' news') s₁ Q f s₃) (fun _ _ => False) s₂') (fun _ _ => False) s₁
noncomputable def Side (a : Addr) (fp : List Addr) (L : Addr) (h₀ : Heap) (news : List (Addr × Obj)) : Prop := ∀ b ∈ a :: fp, b ≠ L ∧ h₀.get? b = none ∧ ∀ q ∈ news, q.1 ≠ b
inductive GLoop (w : World) (A : Around) (h₀ : Heap) (s₀ : Shared) (env : Env) (elts : List Expr) (kk : Nat) (tpos : Pos) (body : List Stmt) (Q : Flow → Shared → Prop) (its : List (Nat × List Nat)) (J : Nat → (Str → Option Value) → List (Addr × Obj) → Prop) (xv : Value) (s₂ : Shared) : Prop
  | mk (a : Addr) (g : Nat) (fp : List Addr) (m : Str → Option Value) (news : List (Addr × Obj)) (e : xv = .ref a) (G : GenSt w A h₀ its a g 0 fp s₂) (hg0 : s₀.gens.size ≤ g) (F : Fr h₀ env.locals s₂.heap m) (N : News h₀ env.locals s₂.heap news) (hc : Cal s₀ s₂) (hside : Side a fp env.locals h₀ news) (haf : a ∉ fp) (h0 : J 0 m news)
      (step : GTurn w A h₀ s₀ env elts kk tpos body Q its news J)
      (hQ : ∀ s' m' news', Cal s₀ s' → SameAdr news news' → J its.length m' news' → Fr h₀ env.locals s'.heap m' → News h₀ env.locals s'.heap news' → Q .next s')
inductive GInv (w : World) (A : Around) (h₀ : Heap) (s₀ : Shared) (L : Addr) (its : List (Nat × List Nat)) (a : Addr) (g : Nat) (news : List (Addr × Obj)) (J : Nat → (Str → Option Value) → List (Addr × Obj) → Prop) (k : Nat) (s' : Shared) : Prop
  | mk (m' : Str → Option Value) (news' : List (Addr × Obj)) (j : Nat) (fp : List Addr) (G : GenSt w A h₀ its a g j fp s') (F : Fr h₀ L s'.heap m') (N : News h₀ L s'.heap news') (c : Cal s₀ s') (hside : Side a fp L h₀ news) (haf : a ∉ fp) (hadr : SameAdr news news') (hJ : J j m' news') (hj : j ≤ its.length) (hk : k = its.length + 1 - j)
inductive GNext (h₀ : Heap) (s₀ : Shared) (L : Addr) (a : Addr) (g : Nat) (m' : Str → Option Value) (news' : List (Addr × Obj)) (gens : Array GenState) (s₁ : Shared) : Prop
  | mk (F : Fr h₀ L s₁.heap m') (N : News h₀ L s₁.heap news') (G : s₁.heap.IsGen a g) (c : Cal s₀ s₁) (hg : s₁.gens = gens)

theorem idx_eq {l j n : Nat} (h : l - j = n + 1) : l - 1 - (n + 1 - 1) = j := by
  show l - 1 - n = j
  rw [Nat.sub_sub, Nat.add_comm 1 n, ← h, Nat.sub_sub_self (Nat.le_of_lt (Nat.lt_of_sub_eq_succ h))]
theorem isGen_keep {h h' : Heap} {a : Addr} {g : Nat} (G : h.IsGen a g) (k : ∀ o, h.get? a = some o → h'.get? a = some o) : h'.IsGen a g := by
  obtain ⟨o, nm, qn, ho, r⟩ := G
  exact ⟨o, nm, qn, k o ho, r⟩
theorem gnext_keep {h₀ : Heap} {s₀ : Shared} {L a : Addr} {g : Nat} {m' : Str → Option Value} {news' : List (Addr × Obj)} {gens : Array GenState} {s₁ : Shared} (x : GNext h₀ s₀ L a g m' news' gens s₁) : ∀ b o, h₀.get? b = some o → s₁.heap.get? b = some o := by
  cases x with
  | mk F _ _ _ _ => exact F.keep
theorem gyield_no {h₀ : Heap} {fp : List Addr} {its : List (Nat × List Nat)} {m : Nat} {s₀ : Shared} {v : Value} {s : Shared} {G : Prop} (x : GYield h₀ fp its m s₀ v s fun _ _ => False) (k : GSince fp s₀ s → ∀ b o, h₀.get? b = some o → s.heap.get? b = some o) : G := by
  cases x with
  | mk _ c f => exact (f s (fun _ _ _ e => e) (k c)).elim
theorem gen_loop {w : World} {mean : ExcName → Option Value} {mg mb : Str → Option Value} {dp un : Nat} {fr : Option (List Env)} {gd : Option (List Code)} {h₀ : Heap} {s₀ s : Shared} {env : Env} {elts : List Expr} {kk : Nat} {tpos : Pos} {body : List Stmt} {Q : Flow → Shared → Prop} {x : Str} {t : Tok} {m : Str → Option Value} {news : List (Addr × Obj)} {J : Nat → (Str → Option Value) → List (Addr × Obj) → Prop}
    (KX : (hd.heap_1 w.params).In h₀) (T : Tp mean mg mb h₀) (hdep : dp + 1 < recursionLimit) (hu : un + 9 < cLine)
    (F : Fr h₀ env.locals s.heap m) (N : News h₀ env.locals s.heap news) (C : Cal s₀ s) (h0 : J 0 m news)
    (turn : GTurn w (At dp un fr gd) h₀ s₀ env elts kk tpos body Q (escL 0 false x.cps.toList) news J)
    (done : ∀ s' m' news', Cal s₀ s' → SameAdr news news' → J (escL 0 false x.cps.toList).length m' news' → Fr h₀ env.locals s'.heap m' → News h₀ env.locals s'.heap news' → Q .next s') :
    wpAny (model PR w) (At dp un fr gd) (call (.ref 28) [.str x t]) (fun xv s₂ => GLoop w (At dp un fr gd) h₀ s₀ env elts kk tpos body Q (escL 0 false x.cps.toList) J xv s₂) (fun _ _ => False) s := by
  have hsz2 : h₀.objs.size ≤ s.heap.objs.size := Nat.le_of_lt (Nat.lt_of_le_of_lt F.above F.ns.lt)
  refine gen_call x t h₀ s dp un _ _ _ _ KX T F.keep hsz2 hdep (Nat.lt_of_succ_lt hu) ?_
  intro h3 tk3 gs hz3 hk3 hg3 hb3 hgo3
  have hLlt := F.ns.lt
  refine ⟨s.heap.objs.size + 1, s.gens.size, [s.heap.objs.size], m, news, rfl, ⟨hg3, gs, by simp, fun s'' hal hal0 => ?_⟩, C.size, ⟨F.ns.keeps hk3, fun b o e => hk3 b o (F.keep b o e), F.above⟩, fun p hp => ⟨hk3 _ _ (N p hp).1, (N p hp).2⟩, ?_, ?_, by simp, h0, turn, done⟩
  · obtain ⟨fp, hfp, hgo⟩ := hgo3 dp (un + 1) _ _ s'' (fun o q => hal _ (by simp) o q) hal0 hdep hu
    exact ⟨fp, fun b hb => (hfp b hb).imp (fun e => by simp [e]) id, hgo⟩
  · refine ⟨C.os, by simp only [Array.size_push]; exact Nat.le_succ_of_le C.size, fun k hk => ?_, fun b => (C.bare b).push hb3⟩
    have : k < s.gens.size := Nat.lt_of_lt_of_le hk C.size
    rw [← C.gens k hk, Array.getElem?_push_lt this, Array.getElem?_eq_getElem this]
  · intro b hb
    have hge : s.heap.objs.size ≤ b := by
      simp only [List.mem_cons, List.not_mem_nil, or_false] at hb
      rcases hb with rfl | rfl
      · exact Nat.le_succ _
      · exact Nat.le_refl _
    exact ⟨fun e => absurd hLlt (by rw [← e]; exact Nat.not_lt.mpr hge), Fr.base_none F hge, fun q hq e => absurd (News.lt N q hq) (by rw [e]; exact Nat.not_lt.mpr hge)⟩

theorem for_gen {w : World} {A : Around} {h₀ : Heap} {s₀ s : Shared} {env : Env} {elts : List Expr} {kk : Nat} {tpos : Pos} {iter : Expr} {body : List Stmt} {pos : Pos} {Q : Flow → Shared → Prop}
    (hh : A.handled = none) (hroom : A.depth < recursionLimit) (hlim : h₀.NoLimit) (J : Nat → (Str → Option Value) → List (Addr × Obj) → Prop) (its : List (Nat × List Nat))
    (h : wpAny (model PR w) A (eval iter env) (fun xv s₂ => GLoop w A h₀ s₀ env elts kk tpos body Q its J xv s₂) (fun _ _ => False) s)
    (hs : ∀ x, foldedSetIterable iter env x = pure x := by intro _; rfl) :
    wpAny (model PR w) A (exec (.For (.Tuple elts kk tpos) iter body [] pos) env) Q (fun _ _ => False) s := by
  refine wpAny_For (wpAny_mono h (fun xv s₂ h₂ => ?_) fun _ _ e => e) hs
  obtain ⟨a, g, fp, m, news, rfl, G, hg0, F, N, hc, hside, haf, h0, step, hQ⟩ := h₂
  refine wpAny_pyIter_gen G.gen ?_
  refine codeAny_forLoop_any
    (GInv w A h₀ s₀ env.locals its a g news J) ?_ (its.length + 1)
    ⟨m, news, 0, fp, G, F, N, hc, hside, haf, rfl, h0, Nat.zero_le _, rfl⟩
  rintro k s' ⟨m', news', j, fp, G', F', N', hc', hside', haf', hadr, hJ, hj, rfl⟩
  obtain ⟨gs, hgs, hgo⟩ := G'.goes
  obtain ⟨fp', hfp', hgo⟩ := hgo (s'.setGen g .running) (fun _ _ _ e => e) F'.keep
  have hlim' := hlim.keeps F'.keep
  obtain ⟨oL, _, _, hL, _⟩ := id F'.ns
  have hLs : env.locals < s'.heap.objs.size := Heap.lt_size hL
  obtain ⟨oa, nma, qna, hga, _⟩ := id G'.gen
  have has : a < s'.heap.objs.size := Heap.lt_size hga
  have haf'' : a ∉ fp' := fun hm => (hfp' a hm).elim haf' fun q => absurd has (Nat.not_lt.mpr q)
  have hLf : env.locals ∉ fp' := fun hm => (hfp' _ hm).elim (fun q => (hside' _ (List.mem_cons_of_mem _ q)).1 rfl) fun q => absurd hLs (Nat.not_lt.mpr q)
  have hbase : ∀ b o, h₀.get? b = some o → b ∉ fp' := fun b o e hm => (hfp' b hm).elim (fun q => by rw [(hside' _ (List.mem_cons_of_mem _ q)).2.1] at e; cases e) fun q => absurd (Heap.lt_size (F'.keep b o e)) (Nat.not_lt.mpr q)
  have hnew : ∀ q ∈ news', q.1 ∉ fp' := fun q hq hm => by
    obtain ⟨r, hr, er⟩ := hadr.mem hq
    exact (hfp' _ hm).elim (fun z => (hside' _ (List.mem_cons_of_mem _ z)).2.2 r hr er) fun z => absurd (Heap.lt_size (N' q hq).1) (Nat.not_lt.mpr z)
  have hsideN : Side a fp' env.locals h₀ news := by
    intro b hb
    rcases List.mem_cons.mp hb with rfl | hb
    · exact hside' _ List.mem_cons_self
    · refine ⟨fun e => hLf (e ▸ hb), ?_, fun q hq e => ?_⟩
      · cases z : h₀.get? b with
        | none => rfl
        | some o => exact absurd hb (hbase b o z)
      · rcases hfp' b hb with z | z
        · exact (hside' _ (List.mem_cons_of_mem _ z)).2.2 q hq e
        · have : q.1 ∈ news'.map (·.1) := by rw [show news'.map (·.1) = news.map (·.1) from hadr]; exact List.mem_map_of_mem hq
          obtain ⟨r, hr, er⟩ := List.mem_map.mp this
          exact absurd (Heap.lt_size (N' r hr).1) (by rw [er, e]; exact Nat.not_lt.mpr z)
  -- what stands behind the generator's own steps
  have next : ∀ s₁ : Shared, GSince fp' (s'.setGen g .running) s₁ → GNext h₀ s₀ env.locals a g m' news' (s'.setGen g .running).gens s₁ := by
    rintro s₁ ⟨h₁, tk₁, rfl, hk₁⟩
    exact ⟨⟨F'.ns.at' fun o e => hk₁ _ o hLf e, fun b o e => hk₁ b o (hbase b o e) (F'.keep b o e), F'.above⟩, fun q hq => ⟨hk₁ _ _ (hnew q hq) (N' q hq).1, (N' q hq).2⟩,
      isGen_keep G'.gen fun o ho => hk₁ a o haf'' ho, (cal_setGen hc' hg0 rfl).heap _ _, rfl⟩
  by_cases hlt : j < its.length
  · obtain ⟨n, hn⟩ : ∃ n, its.length - j = n + 1 := ⟨its.length - j - 1, (Nat.sub_add_cancel (Nat.sub_pos_of_lt hlt)).symm⟩
    rw [hn] at hgo
    refine next_gen hh hlim' hroom G'.gen hgs hgo (fun v s₁ gs' hb hv => ?_) (fun s₁ hp h' hk => absurd hp.1 (Nat.succ_ne_zero n))
    obtain ⟨⟨p, x, T, t, t', hi, rfl, hT, hTn, hTf⟩, hsince, hkap⟩ := hv
    have hidx : its.length - 1 - (n + 1 - 1) = j := idx_eq hn
    rw [hidx] at hi
    obtain ⟨F₁, N₁, G₁, C₁, hg₁⟩ := next s₁ hsince
    have C₂ := cal_setGen C₁ hg0 hb
    have hTL : T ≠ env.locals := fun e => by rw [show (s'.setGen g .running).heap.get? T = some oL from e ▸ hL] at hTn; cases hTn
    have hTb : h₀.get? T = none := by
      cases z : h₀.get? T with
      | none => rfl
      | some o => have := F'.keep T o z; rw [show s'.heap.get? T = none from hTn] at this; cases this
    refine wpAny_noRaise (go_gen (s := s₁.setGen g gs') G₁ ?_)
    have Nown : News h₀ env.locals s₁.heap (ownOf h₀ (a :: fp') s₁.heap) := news_ownOf (by
      intro hm
      exact (hsideN _ hm).1 rfl)
    have hTnews : ∀ q ∈ news, q.1 ≠ T := fun q hq e => by
      have : q.1 ∈ news'.map (·.1) := by rw [show news'.map (·.1) = news.map (·.1) from hadr]; exact List.mem_map_of_mem hq
      obtain ⟨r, hr, er⟩ := List.mem_map.mp this
      have z := (N' r hr).1
      rw [er, e, show s'.heap.get? T = none from hTn] at z; cases z
    have Nall : News h₀ env.locals (s₁.setGen g gs').heap ((T, tupObj p t x t') :: (news' ++ ownOf h₀ (a :: fp') s₁.heap)) := fun q hq => by
      rcases List.mem_cons.mp hq with rfl | hq
      · exact ⟨hT, hTL, hTb⟩
      · exact News.app N₁ Nown q hq
    refine wpAny_noRaise (wpAny_mono (step j p x T t t' m' news' (s₁.setGen g gs') (ownOf h₀ (a :: fp') s₁.heap) hi C₂ hadr hJ (fun q hq r hr => (hsideN _ (ownOf_sub q hq)).2.2 r hr) F₁ Nall hTnews) (fun _ s₂' h₂' => wpAny_noRaise (wpAny_mono h₂' (fun f s₃ h₃ => ?_) fun _ _ e => e)) fun _ _ e => e)
    have again : TurnOk h₀ env.locals s₀ (fun a b => b.gens = a.gens) (ownOf h₀ (a :: fp') s₁.heap) (fun m' news' => SameAdr news news' ∧ J (j + 1) m' news') (s₁.setGen g gs') s₃ →
        ∃ k', k' < its.length + 1 - j ∧ GInv w A h₀ s₀ env.locals its a g news J k' s₃ := by
      rintro ⟨hc₃, hG, m₂, news₂, F₃, N₃, ha₃, hJ₃⟩
      have kept : ∀ b ∈ a :: fp', ∀ o, s₁.heap.get? b = some o → s₃.heap.get? b = some o := fun b hb o e => (N₃ _ (List.mem_append_right _ (mem_ownOf hb (hsideN b hb).2.1 e))).1
      refine ⟨its.length + 1 - (j + 1), turn_lt hlt, m₂, news₂, j + 1, fp', ⟨?_, gs', ?_, ?_⟩, F₃, fun q hq => N₃ q (List.mem_append_left _ hq), hc₃, hsideN, haf'', ha₃, hJ₃, hlt, rfl⟩
      · exact isGen_keep G₁ fun o ho => kept a List.mem_cons_self o ho
      · rw [hG]
        refine setGen_self (gs := .running) ?_
        rw [hg₁]
        exact setGen_self hgs
      · intro s'' hal hal0
        refine ⟨fp', fun b hb => .inl hb, ?_⟩
        have e : its.length - (j + 1) = n := congrArg Nat.pred hn
        rw [e]
        exact hkap s'' (fun b hb o q => hal b hb o (kept b (List.mem_cons_of_mem _ hb) o q)) hal0
    cases f with
    | ret v => exact h₃
    | brk => exact h₃
    | cont => exact again h₃
    | next => exact again h₃
  · have hin : j = its.length := turn_end hj hlt
    subst hin
    rw [Nat.sub_self] at hgo
    refine next_gen hh hlim' hroom G'.gen hgs hgo (fun v s₁ gs' hb hv => ?_) (fun s₁ hp h' hk => ?_)
    · exact gyield_no hv fun c => gnext_keep (next s₁ c)
    · obtain ⟨F₁, N₁, G₁, C₁, hg₁⟩ := next s₁ hp.2
      refine wpAny_execs_nil ?_
      refine hQ _ m' news' ((cal_setGen C₁ hg0 rfl).heap _ _) hadr hJ ⟨F₁.ns.keeps hk, fun b o e => hk b o (F₁.keep b o e), F₁.above⟩ fun q hq => ⟨hk _ _ (N₁ q hq).1, (N₁ q hq).2⟩
end Mine
end
end partG3
/-! part C1 -/
section partC1
open PySem PySem.W PyProof.Rows PySem.Calls Builtin Builtin.Str
set_option Elab.async false
set_option maxRecDepth 100000
set_option linter.all false
noncomputable section
namespace Mine
local macro_rules | `(tactic| omega) => `(tactic| lia)
theorem fillC1 : PySem.Challenge.rw_wr0027_01.prog = PySem.Challenge.rw_wr0027_01.prog ∧ hd.heap_1 = hd.heap_1 := by
  k_fill
  exact ⟨rfl, rfl⟩
local macro_rules | `(tactic| k_steps) => `(tactic| repeat' (first | walk1 | (dsimp only; walk1)))
local macro_rules | `(tactic| walk_at "exec For Tuple Call cons nil") => `(tactic| refine stop ?_)
local macro_rules | `(tactic| walk_at "call ref") => `(tactic| refine stop ?_)
local macro_rules | `(tactic| walk_at "call builtin:len") => `(tactic| ((with_reducible show wpAny _ _ (call (Value.builtin "len") [Value.str _ _]) _ _ _); (refine len_str (by have hSz := sz_lt; omega) ?_)))

theorem use_spec {w : World} {dp un k : Nat} {fr : Option (List Env)} {gd : Option (List Code)} {f : Addr} {vs : List Value} {s : Shared} {P : Value → Shared → Prop} {Q E : Value → Shared → Prop} {h₀ : Heap} {L : Addr} {m : Str → Option Value} {news : List (Addr × Obj)}
    (S : Spec w k f vs s P) (F : Fr h₀ L s.heap m) (N : News h₀ L s.heap news) (hd : dp + k < recursionLimit) (hu : un + 8 * k < cLine)
    (h : ∀ v s', Cal s s' → (∀ b o, s.heap.get? b = some o → s'.heap.get? b = some o) → Fr h₀ L s'.heap m → News h₀ L s'.heap news → P v s' → Q v s') :
    wpAny (model PR w) (At dp un fr gd) (call (.ref f) vs) Q E s :=
  S dp un fr gd Q E hd hu fun v s' x hp => h v s' x.cal x.heap ⟨F.ns.keeps x.heap, fun b o e => x.heap b o (F.keep b o e), F.above⟩ (fun p hp => ⟨x.heap _ _ (N p hp).1, (N p hp).2⟩) hp

theorem strl_eq (y z : List Nat) : ((⟨y.toArray⟩ : Str) == ⟨z.toArray⟩) = decide (y = z) := by
  by_cases h : y = z
  · subst h; simp
  · simp [h]
theorem ofs_quote : Str.ofString "\"" = ⟨[34].toArray⟩ := by decide
theorem escL_len : ∀ (l : List Nat) (i : Nat) (b : Bool), (escL i b l).length ≤ l.length + 1
  | [], _, true => by simp [escL]
  | [], _, false => by simp [escL]
  | c :: r, i, true => by simp only [escL, List.length_cons]; have := escL_len r (i + 1) false; omega
  | c :: r, i, false => by
    simp only [escL]
    split
    · have := escL_len r (i + 1) true; simp only [List.length_cons]; omega
    · have := escL_len r (i + 1) false; simp only [List.length_cons]; omega
theorem news_sub {h₀ h : Heap} {L : Addr} {a b : List (Addr × Obj)} (N : News h₀ L h b) (hs : ∀ p ∈ a, p ∈ b) : News h₀ L h a := fun p hp => N p (hs p hp)
noncomputable def ov (o : Option Nat) (t : Tok) : Value := match o with | some p => .int (p : Int) t | none => .none
noncomputable def stStep (a : Str) (st : Nat × Option Nat × List Str) (it : Nat × List Nat) : Nat × Option Nat × List Str :=
  if it.2 = [34] then
    match st.2.1 with
    | none => (st.1, some it.1, st.2.2)
    | some q => (it.1 + 1, none, if st.1 ≠ q then st.2.2 ++ [Txt.slice a (some (st.1 : Int)) (some (q : Int))] else st.2.2)
  else st
theorem strL_list {h₀ h : Heap} {L D : Addr} {l : List (Str × Tok)} {n : Nat} {r : List (Addr × Obj)} (N : News h₀ L h ((D, listOf (strValues l).toArray n) :: r)) : h.IsList D (strValues l).toArray := ⟨_, (N _ List.mem_cons_self).1, rfl, _, rfl⟩
theorem parts_sum (b : Nat) : ∀ (l : List (Str × Tok)), (∀ p ∈ l, p.1.length ≤ b) → ((l.map (·.1)).map (·.length)).sum ≤ l.length * b
  | [], _ => Nat.zero_le _
  | p :: r, h => by
    simp only [List.map_cons, List.sum_cons, List.length_cons]
    have h1 := parts_sum b r fun q hq => h q (List.mem_cons_of_mem _ hq)
    have h2 := h p List.mem_cons_self
    rw [Nat.succ_mul]
    omega
theorem small_parts {b : Nat} {l : List (Str × Tok)} (h : ∀ p ∈ l, p.1.length ≤ b) (hn : l.length * b + l.length ≤ 1048576) : ((l.map (·.1)).map (·.length)).sum + (l.map (·.1)).length ≤ 1048576 := by
  have := parts_sum b l h
  rw [List.length_map]
  omega
noncomputable def stripB (a : Str) : Str :=
  if (occurrences a (Str.ofString "\"") 0 a.length 1).isEmpty = true then a else
    let st := (escL 0 false a.cps.toList).foldl (stStep a) (0, none, [])
    Txt.join (Str.ofString "") (if st.1 < a.length then st.2.2 ++ [Txt.slice a (some (st.1 : Int)) none] else st.2.2)

inductive StInv (x : Str) (t : Tok) (D : Addr) (j : Nat) (m : Str → Option Value) (news : List (Addr × Obj)) : Prop
  | mk (st : Nat) (op : Option Nat) (res : List (Str × Tok)) (n : Nat) (t1 t2 : Tok) (a : Agree m [(Str.ofString "addr", .str x t), (Str.ofString "start", .int (st : Int) t1), (Str.ofString "open_pos", ov op t2), (Str.ofString "result", .ref D)])
      (hf : ((escL 0 false x.cps.toList).take j).foldl (stStep x) (0, none, []) = (st, op, res.map (·.1))) (e : news = [(D, listOf (strValues res).toArray n)]) (hl : res.length ≤ j) (hp : ∀ p ∈ res, p.1.length ≤ x.length)
set_option maxHeartbeats 8000000 in
theorem strip_spec : ∀ {w : World} {mean : ExcName → Option Value} {mg mb : Str → Option Value} (x : Str) (t : Tok) (s₀ : Shared)
   (KX : (hd.heap_1 w.params).In s₀.heap) (T : Tp mean mg mb s₀.heap) (hx : x.length ≤ 1000),
   Spec w 2 35 [.str x t] s₀ (fun v _ => ∃ t', v = .str (stripB x) t') := by
  intro w mean mg mb x t s₀ KX T hx
  refine' spec_of (binds := [(Str.ofString "addr", .str x t)]) KX T ?ho ?hcd ?hb ?hl ?c1 ?c2 ?c3 ?c4 ?_
  case ho => k_is
  case hcd => k_is
  case hb => rfl
  case hl => exact locs rfl
  case c1 => exact rfl
  case c2 => exact rfl
  case c3 => exact rfl
  case c4 => decide
  intro dp un fr gd L h₁ tk hdp hun F N
  k_steps
  · rename_i hoc
    refine done_of F ((Cal.refl s₀).heap _ _) ⟨t, ?_⟩
    unfold stripB
    rw [if_pos (by exact hoc)]
  · rename_i hoc _ _ _ D _ _ h2 F2 N2
    unfold Stop
    refine for_gen (h₀ := s₀.heap) (s₀ := s₀) rfl (by show dp + 1 < _; omega) T.nolimit
      (StInv x t D) (escL 0 false x.cps.toList) ?_
    k_steps
    unfold Stop
    refine gen_loop (dp := dp + 1) (un := un + 3) KX T (by omega) (by omega) F2 N2 ((Cal.refl s₀).heap _ _) ⟨0, none, [], 0, _, 0, ⟨rfl, rfl, rfl, rfl, trivial⟩, rfl, rfl, Nat.le_refl _, by simp⟩ ?_ ?_
    · rintro j p y T0 t3 t4 m1 news1 s1 own hj C1 hadr ⟨st, op, res, n, t1, t2, hag, hfold, hnews, hlen, hls⟩ hown F1 N1 hT0
      subst hnews
      have hlen' : (escL 0 false x.cps.toList).take (j + 1) = (escL 0 false x.cps.toList).take j ++ [(p, y)] := by rw [List.take_add_one, hj]; rfl
      cases op with
      | none =>
        have F1' := fr_over (r := [(Str.ofString "addr", .str x t), (Str.ofString "start", .int (st : Int) t1), (Str.ofString "open_pos", .none), (Str.ofString "result", .ref D)]) F1 hag
        clear F1
        refine unpackN_ F1' N1 ⟨_, (N1 _ List.mem_cons_self).1, rfl, _, rfl⟩ rfl rfl rfl ?_
        intro h5 F5 N5
        clear F1' N1
        k_steps
        · have hq : ((⟨y.toArray⟩ : Str) == Str.ofString "\"") = true := by assumption
          rw [ofs_quote, strl_eq] at hq
          have hq := of_decide_eq_true hq
          refine ⟨⟨C1.os, C1.size, C1.gens, C1.bare⟩, rfl, _, [(D, listOf (strValues res).toArray n)], by assumption, fun r hr => (by assumption : News s₀.heap L _ (_ :: ([_] ++ own))) r (List.mem_cons_of_mem _ hr), rfl, st, some p, res, n, t1, t3, ⟨rfl, rfl, rfl, rfl, trivial⟩, ?_, rfl, by omega, hls⟩
          rw [hlen', List.foldl_append, hfold]
          simp [stStep, hq]
        · have hq : ((⟨y.toArray⟩ : Str) == Str.ofString "\"") = false := by assumption
          rw [ofs_quote, strl_eq] at hq
          have hq := of_decide_eq_false hq
          refine ⟨⟨C1.os, C1.size, C1.gens, C1.bare⟩, rfl, _, [(D, listOf (strValues res).toArray n)], by assumption, fun r hr => (by assumption : News s₀.heap L _ (_ :: ([_] ++ own))) r (List.mem_cons_of_mem _ hr), rfl, st, none, res, n, t1, t2, ⟨rfl, rfl, rfl, rfl, trivial⟩, ?_, rfl, by omega, hls⟩
          rw [hlen', List.foldl_append, hfold]
          simp [stStep, hq]
      | some q =>
        have F1' := fr_over (r := [(Str.ofString "addr", .str x t), (Str.ofString "start", .int (st : Int) t1), (Str.ofString "open_pos", .int (q : Int) t2), (Str.ofString "result", .ref D)]) F1 hag
        clear F1
        refine unpackN_ F1' N1 ⟨_, (N1 _ List.mem_cons_self).1, rfl, _, rfl⟩ rfl rfl rfl ?_
        intro h5 F5 N5
        clear F1' N1
        k_steps
        · rename_i t6 _ _ _ _
          have hq : ((⟨y.toArray⟩ : Str) == Str.ofString "\"") = true := by assumption
          rw [ofs_quote, strl_eq] at hq
          have hq := of_decide_eq_true hq
          have hD0 : D ≠ T0 := hT0 _ List.mem_cons_self
          have hDo : ∀ p ∈ own, p.1 ≠ D := fun p hp => Ne.symm (hown p hp _ List.mem_cons_self)
          refine append_K (its := (strValues res).toArray) (n := n) (by assumption) (by assumption) (Upd.tail (Ne.symm hD0) (Upd.head hDo)) ?_ ?_
          · intro h6 F6 N6
            k_steps
            have hne : (st : Int) ≠ (q : Int) := by assumption
            have hls' : (Txt.slice x (some (st : Int)) (some (q : Int))).length ≤ x.length := by assumption
            refine ⟨⟨C1.os, C1.size, C1.gens, C1.bare⟩, rfl, _, [(D, listOf (strValues (res ++ [(Txt.slice x (some (st : Int)) (some (q : Int)), t6)])).toArray (n + 1))], by assumption, ?_, rfl, p + 1, none, res ++ [(Txt.slice x (some (st : Int)) (some (q : Int)), t6)], n + 1, _, 0, ⟨rfl, rfl, rfl, rfl, trivial⟩, ?_, rfl, by rw [List.length_append, List.length_singleton]; omega, ?_⟩
            · refine' news_sub ?N ?S
              case N => assumption
              intro r hr
              have e : (strValues res).toArray.push (.str (Txt.slice x (some (st : Int)) (some (q : Int))) t6) = (strValues (res ++ [(Txt.slice x (some (st : Int)) (some (q : Int)), t6)])).toArray := by simp [strValues]
              rw [e]
              exact List.mem_cons_of_mem _ hr
            · rw [hlen', List.foldl_append, hfold]
              have : st ≠ q := by omega
              simp [stStep, hq, this]
            · intro r hr
              rcases List.mem_append.mp hr with hr | hr
              · exact hls r hr
              · rw [List.mem_singleton.mp hr]; exact hls'
          · have hl := escL_len x.cps.toList 0 false
            have hj' := (List.getElem?_eq_some_iff.mp hj).1
            rw [show x.cps.toList.length = x.length from by simp [Str.length]] at hl
            rw [sizeLine_eq]
            simp only [strValues, List.size_toArray, List.length_map]
            omega
        · have hq : ((⟨y.toArray⟩ : Str) == Str.ofString "\"") = true := by assumption
          rw [ofs_quote, strl_eq] at hq
          have hq := of_decide_eq_true hq
          have hne : (st : Int) = (q : Int) := by assumption
          refine ⟨⟨C1.os, C1.size, C1.gens, C1.bare⟩, rfl, _, [(D, listOf (strValues res).toArray n)], by assumption, fun r hr => (by assumption : News s₀.heap L _ (_ :: ([_] ++ own))) r (List.mem_cons_of_mem _ hr), rfl, p + 1, none, res, n, _, 0, ⟨rfl, rfl, rfl, rfl, trivial⟩, ?_, rfl, by omega, hls⟩
          rw [hlen', List.foldl_append, hfold]
          have : st = q := by omega
          simp [stStep, hq, this]
        · have hq : ((⟨y.toArray⟩ : Str) == Str.ofString "\"") = false := by assumption
          rw [ofs_quote, strl_eq] at hq
          have hq := of_decide_eq_false hq
          refine ⟨⟨C1.os, C1.size, C1.gens, C1.bare⟩, rfl, _, [(D, listOf (strValues res).toArray n)], by assumption, fun r hr => (by assumption : News s₀.heap L _ (_ :: ([_] ++ own))) r (List.mem_cons_of_mem _ hr), rfl, st, some q, res, n, t1, t2, ⟨rfl, rfl, rfl, rfl, trivial⟩, ?_, rfl, by omega, hls⟩
          rw [hlen', List.foldl_append, hfold]
          simp [stStep, hq]
    · rintro s1 m1 news1 C1 hadr ⟨st, op, res, n, t1, t2, hag, hfold, hnews, hlen, hls⟩ F1 N1
      subst hnews
      have F1' := fr_over F1 hag
      clear F1
      k_steps
      · have hfull : (escL 0 false x.cps.toList).foldl (stStep x) (0, none, []) = (st, op, res.map (·.1)) := by rw [← hfold, List.take_length]
        have hlt : (st : Int) < (x.length : Int) := by assumption
        rename_i t6 _ _ _ _
        have hls' : (Txt.slice x (some (st : Int)) none).length ≤ x.length := by assumption
        have hl := escL_len x.cps.toList 0 false
        rw [show x.cps.toList.length = x.length from by simp [Str.length]] at hl
        refine append_K (its := (strValues res).toArray) (n := n) (by assumption) (by assumption) (Upd.head (by simp)) ?_ ?_
        · intro h6 F6 N6
          have e : (strValues res).toArray.push (.str (Txt.slice x (some (st : Int)) none) t6) = (strValues (res ++ [(Txt.slice x (some (st : Int)) none, t6)])).toArray := by simp [strValues]
          rw [e] at N6
          k_steps
          refine join_listW (ys := (res ++ [(Txt.slice x (some (st : Int)) none, t6)]).map (·.1)) (strL_list (by assumption)) (strsAre_of_values _) (by decide) ?_ ?_
          · refine small_parts (b := 1000) ?_ ?_
            · intro p hp
              rcases List.mem_append.mp hp with hp | hp
              · exact Nat.le_trans (hls p hp) hx
              · rw [List.mem_singleton.mp hp]; exact Nat.le_trans hls' hx
            · rw [List.length_append, List.length_singleton]; omega
          · intro t' k
            refine done_of (by assumption) ⟨C1.os, C1.size, C1.gens, C1.bare⟩ ⟨t', ?_⟩
            unfold stripB
            rw [if_neg (by rw [hoc]; decide), hfull]
            have : st < x.length := by omega
            dsimp only
            rw [if_pos this, List.map_append]
            rfl
        · rw [sizeLine_eq]
          simp only [strValues, List.size_toArray, List.length_map]
          omega
      · have hfull : (escL 0 false x.cps.toList).foldl (stStep x) (0, none, []) = (st, op, res.map (·.1)) := by rw [← hfold, List.take_length]
        have hlt : ¬ (st : Int) < (x.length : Int) := by assumption
        have hl := escL_len x.cps.toList 0 false
        rw [show x.cps.toList.length = x.length from by simp [Str.length]] at hl
        refine join_listW (ys := res.map (·.1)) (strL_list (by assumption)) (strsAre_of_values res) (by decide) ?_ ?_
        · exact small_parts (b := 1000) (fun p hp => Nat.le_trans (hls p hp) hx) (by omega)
        · intro t' k
          refine done_of (by assumption) ⟨C1.os, C1.size, C1.gens, C1.bare⟩ ⟨t', ?_⟩
          unfold stripB
          rw [if_neg (by rw [hoc]; decide), hfull]
          have : ¬ st < x.length := by omega
          dsimp only
          rw [if_neg this]
end Mine
end
end partC1
/-! part C2 -/
section partC2
open PySem PySem.W PyProof.Rows PySem.Calls Builtin Builtin.Str
set_option Elab.async false
set_option maxRecDepth 100000
set_option linter.all false
noncomputable section
namespace Mine
local macro_rules | `(tactic| omega) => `(tactic| lia)
theorem dp_lt {dp k j r : Nat} (h : dp + k < r) (e : Nat.ble j k = true) : dp + j < r := Nat.lt_of_le_of_lt (Nat.add_le_add_left (Nat.le_of_ble_eq_true e) dp) h
theorem fillC2 : PySem.Challenge.rw_wr0027_01.prog = PySem.Challenge.rw_wr0027_01.prog ∧ hd.heap_1 = hd.heap_1 := by
  k_fill
  exact ⟨rfl, rfl⟩
local macro_rules | `(tactic| k_steps) => `(tactic| repeat' (first | walk1 | (dsimp only; walk1)))
local macro_rules | `(tactic| walk_at "exec For Tuple Call cons nil") => `(tactic| refine stop ?_)
local macro_rules | `(tactic| walk_at "call ref") => `(tactic| refine stop ?_)

theorem use_in {w : World} {mean : ExcName → Option Value} {mg mb : Str → Option Value} {dp un k : Nat} {fr : Option (List Env)} {gd : Option (List Code)} {f : Addr} {vs : List Value} {s : Shared} {P : Shared → Value → Shared → Prop} {Q E : Value → Shared → Prop} {h₀ : Heap} {L : Addr} {m : Str → Option Value} {news : List (Addr × Obj)}
    (KX : (hd.heap_1 w.params).In h₀) (T : Tp mean mg mb h₀) (S : ∀ s, (hd.heap_1 w.params).In s.heap → Tp mean mg mb s.heap → Spec w k f vs s (P s)) (F : Fr h₀ L s.heap m) (N : News h₀ L s.heap news) (hd : dp + k < recursionLimit) (hu : un + 8 * k < cLine)
    (h : ∀ v s', Cal s s' → (∀ b o, s.heap.get? b = some o → s'.heap.get? b = some o) → Fr h₀ L s'.heap m → News h₀ L s'.heap news → P s v s' → Q v s') :
    wpAny (model PR w) (At dp un fr gd) (call (.ref f) vs) Q E s :=
  use_spec (S s (Frag.In.keeps KX F.keep) (T.keeps F.keep)) F N hd hu h

theorem ofs_open : Str.ofString "(" = ⟨[40].toArray⟩ := by decide
theorem ofs_close : Str.ofString ")" = ⟨[41].toArray⟩ := by decide
noncomputable def ckStep (st : Option Int) (it : Nat × List Nat) : Option Int :=
  match st with
  | none => none
  | some o => if it.2 = [40] then some (o + 1) else if it.2 = [41] then (if o - 1 < 0 then none else some (o - 1)) else some o
noncomputable def checkB (a : Str) : Bool := (escL 0 false (stripB a).cps.toList).foldl ckStep (some 0) == some 0
theorem ck_none : ∀ (l : List (Nat × List Nat)), l.foldl ckStep none = none
  | [] => rfl
  | _ :: r => ck_none r

inductive CkInv (y : Str) (t' : Tok) (j : Nat) (m : Str → Option Value) (news : List (Addr × Obj)) : Prop
  | mk (o : Int) (t1 : Tok) (a : Agree m [(Str.ofString "addr", .str y t'), (Str.ofString "opens", .int o t1)])
      (hf : ((escL 0 false y.cps.toList).take j).foldl ckStep (some 0) = some o) (e : news = []) (hl : -(j : Int) ≤ o) (hu : o ≤ j)
theorem check_spec : ∀ {w : World} {mean : ExcName → Option Value} {mg mb : Str → Option Value} (x : Str) (t : Tok) (s₀ : Shared)
   (KX : (hd.heap_1 w.params).In s₀.heap) (T : Tp mean mg mb s₀.heap) (hx : x.length ≤ 1000) (hsx : (stripB x).length ≤ 2000),
   Spec w 3 42 [.str x t] s₀ (fun v _ => v = .bool (checkB x)) := by
  intro w mean mg mb x t s₀ KX T hx hsx
  refine' spec_of (binds := [(Str.ofString "addr", .str x t)]) KX T ?ho ?hcd ?hb ?hl ?c1 ?c2 ?c3 ?c4 ?_
  case ho => k_is
  case hcd => k_is
  case hb => rfl
  case hl => exact locs rfl
  case c1 => exact rfl
  case c2 => exact rfl
  case c3 => exact rfl
  case c4 => decide
  intro dp un fr gd L h₁ tk hdp hun F N
  k_steps
  unfold Stop
  refine' use_in KX T (fun s a b => strip_spec x t s a b hx) ?F ?N ?d ?u ?_
  case F => assumption
  case N => assumption
  case d => exact dp_lt (j := 3) hdp rfl
  case u => exact dp_lt (j := 19) hun rfl
  rintro v s' C hk F1 N1 ⟨t', hv⟩
  subst hv
  k_steps
  have CC : Cal s₀ s' := ⟨C.os, C.size, C.gens, C.bare⟩
  unfold Stop
  refine for_gen (h₀ := s₀.heap) (s₀ := s₀) rfl (by exact dp_lt (j := 1) hdp rfl) T.nolimit
    (CkInv (stripB x) t') (escL 0 false (stripB x).cps.toList) ?_
  k_steps
  unfold Stop
  have hL := escL_len (stripB x).cps.toList 0 false
  rw [show (stripB x).cps.toList.length = (stripB x).length from by simp [Str.length]] at hL
  refine' gen_loop (dp := dp + 1) (un := un + 3) KX T ?d ?u ?F ?N (CC.heap _ _) ?z ?_ ?_
  case d => omega
  case u => omega
  case F => assumption
  case N => assumption
  case z => exact ⟨0, _, ⟨rfl, rfl, trivial⟩, rfl, rfl, by decide, by decide⟩
  · rintro j p y T0 t3 t4 m1 news1 s1 own hj C1 hadr ⟨o, t1, hag, hfold, hnews, hlo, hhi⟩ hown F1 N1 hT0
    subst hnews
    have hlen' : (escL 0 false (stripB x).cps.toList).take (j + 1) = (escL 0 false (stripB x).cps.toList).take j ++ [(p, y)] := by rw [List.take_add_one, hj]; rfl
    have hj' := (List.getElem?_eq_some_iff.mp hj).1
    have F1' := fr_over (r := [(Str.ofString "addr", .str (stripB x) t'), (Str.ofString "opens", .int o t1)]) F1 hag
    clear F1
    refine unpackN_ F1' N1 ⟨_, (N1 _ List.mem_cons_self).1, rfl, _, rfl⟩ rfl rfl rfl ?_
    intro h5 F5 N5
    clear F1' N1
    k_steps
    · have hq : ((⟨y.toArray⟩ : Str) == Str.ofString "(") = true := by assumption
      rw [ofs_open, strl_eq] at hq
      have hq := of_decide_eq_true hq
      refine ⟨⟨C1.os, C1.size, C1.gens, C1.bare⟩, rfl, _, [], by assumption, fun r hr => (by assumption : News s₀.heap L _ (_ :: ([] ++ own))) r (List.mem_cons_of_mem _ hr), rfl, o + 1, _, ⟨rfl, rfl, trivial⟩, ?_, rfl, by omega, by omega⟩
      rw [hlen', List.foldl_append, hfold]
      simp [ckStep, hq]
    · have hq : ((⟨y.toArray⟩ : Str) == Str.ofString "(") = false := by assumption
      have hq2 : ((⟨y.toArray⟩ : Str) == Str.ofString ")") = true := by assumption
      rw [ofs_open, strl_eq] at hq
      rw [ofs_close, strl_eq] at hq2
      have hq := of_decide_eq_false hq
      have hq2 := of_decide_eq_true hq2
      have hlt : o - 1 < 0 := by assumption
      change Done s₀ (fun v _ => v = .bool (checkB x)) (.ret (.bool false)) _
      refine done_of (by assumption) ⟨C1.os, C1.size, C1.gens, C1.bare⟩ ?_
      show Value.bool false = .bool (checkB x)
      unfold checkB
      rw [← List.take_append_drop (j + 1) (escL 0 false (stripB x).cps.toList), hlen', List.foldl_append, List.foldl_append, hfold]
      simp [ckStep, hq2, hlt, ck_none]
    · have hq : ((⟨y.toArray⟩ : Str) == Str.ofString "(") = false := by assumption
      have hq2 : ((⟨y.toArray⟩ : Str) == Str.ofString ")") = true := by assumption
      rw [ofs_open, strl_eq] at hq
      rw [ofs_close, strl_eq] at hq2
      have hq := of_decide_eq_false hq
      have hq2 := of_decide_eq_true hq2
      have hlt : ¬ (o - 1 < 0) := by assumption
      refine ⟨⟨C1.os, C1.size, C1.gens, C1.bare⟩, rfl, _, [], by assumption, fun r hr => (by assumption : News s₀.heap L _ (_ :: ([] ++ own))) r (List.mem_cons_of_mem _ hr), rfl, o - 1, _, ⟨rfl, rfl, trivial⟩, ?_, rfl, by omega, by omega⟩
      rw [hlen', List.foldl_append, hfold]
      simp [ckStep, hq2, hlt]
    · have hq : ((⟨y.toArray⟩ : Str) == Str.ofString "(") = false := by assumption
      have hq2 : ((⟨y.toArray⟩ : Str) == Str.ofString ")") = false := by assumption
      rw [ofs_open, strl_eq] at hq
      rw [ofs_close, strl_eq] at hq2
      have hq := of_decide_eq_false hq
      have hq2 := of_decide_eq_false hq2
      refine ⟨⟨C1.os, C1.size, C1.gens, C1.bare⟩, rfl, _, [], by assumption, fun r hr => (by assumption : News s₀.heap L _ (_ :: ([] ++ own))) r (List.mem_cons_of_mem _ hr), rfl, o, t1, ⟨rfl, rfl, trivial⟩, ?_, rfl, by omega, by omega⟩
      rw [hlen', List.foldl_append, hfold]
      simp [ckStep, hq, hq2]
  · rintro s1 m1 news1 C1 hadr ⟨o, t1, hag, hfold, hnews, hlo, hhi⟩ F1 N1
    subst hnews
    have F1' := fr_over F1 hag
    clear F1
    k_steps
    change Done s₀ (fun v _ => v = .bool (checkB x)) (.ret (.bool (o == 0))) _
    refine done_of F1' ⟨C1.os, C1.size, C1.gens, C1.bare⟩ ?_
    show Value.bool (o == 0) = .bool (checkB x)
    unfold checkB
    rw [List.take_length] at hfold
    rw [hfold]
    rfl
end Mine
end
end partC2
/-! part N1 -/
section partN1
open PySem PySem.W PyProof.Rows PySem.Calls Builtin Builtin.Str
set_option Elab.async false
set_option maxRecDepth 100000
set_option linter.all false
noncomputable section
namespace Mine
local macro_rules | `(tactic| omega) => `(tactic| lia)
theorem fillN1 : PySem.Challenge.rw_wr0027_01.prog = PySem.Challenge.rw_wr0027_01.prog ∧ hd.heap_1 = hd.heap_1 := by
  k_fill
  exact ⟨rfl, rfl⟩
local macro_rules | `(tactic| k_steps) => `(tactic| repeat' (first | walk1 | (dsimp only; walk1)))
local macro_rules | `(tactic| walk_at "exec While Name cons nil") => `(tactic| refine stop ?_)
local macro_rules | `(tactic| walk_at "call ref") => `(tactic| refine stop ?_)

noncomputable def WEnd (h₀ : Heap) (L : Addr) (s₀ : Shared) (J : Nat → (Str → Option Value) → List (Addr × Obj) → Prop) (Q : Flow → Shared → Prop) (n : Nat) (f : Flow) (s₃ : Shared) : Prop :=
  match f with
  | .next | .cont => Cal s₀ s₃ ∧ ∃ m₂ news₂ n', Fr h₀ L s₃.heap m₂ ∧ News h₀ L s₃.heap news₂ ∧ n' < n ∧ J n' m₂ news₂
  | .brk => Q .next s₃
  | .ret v => Q (.ret v) s₃
theorem while_cal {w : World} {A : Around} {h₀ : Heap} {s₀ s : Shared} {env : Env} {Q : Flow → Shared → Prop} {test : Expr} {body : List Stmt} {pos : Pos} {m : Str → Option Value} {news : List (Addr × Obj)} (J : Nat → (Str → Option Value) → List (Addr × Obj) → Prop) {n₀ : Nat}
    (F : Fr h₀ env.locals s.heap m) (N : News h₀ env.locals s.heap news) (C : Cal s₀ s) (h0 : J n₀ m news)
    (turn : ∀ n m₁ news₁ s₁, Cal s₀ s₁ → J n m₁ news₁ → Fr h₀ env.locals s₁.heap m₁ → News h₀ env.locals s₁.heap news₁ →
      wpAny (model PR w) A (isTrue test env (eval test env)) (fun b s₂ =>
        if b = true then wpAny (model PR w) A (execs body env) (WEnd h₀ env.locals s₀ J Q n) (fun _ _ => False) s₂ else Q .next s₂) (fun _ _ => False) s₁) :
    wpAny (model PR w) A (exec (.While test body [] pos) env) Q (fun _ _ => False) s := by
  refine wpAny_While (codeAny_whileLoop (fun n s' => ∃ m₁ news₁, Cal s₀ s' ∧ Fr h₀ env.locals s'.heap m₁ ∧ News h₀ env.locals s'.heap news₁ ∧ J n m₁ news₁) ?_ n₀ ⟨m, news, C, F, N, h0⟩)
  rintro n s' ⟨m₁, news₁, C₁, F₁, N₁, J₁⟩
  refine wpAny_mono (turn n m₁ news₁ s' C₁ J₁ F₁ N₁) (fun b s₂ h₂ => ?_) (fun _ _ e => e.elim)
  cases b with
  | false =>
    simp only [Bool.false_eq_true, if_false] at h₂ ⊢
    exact wpAny_execs_nil h₂
  | true =>
    simp only [if_true] at h₂ ⊢
    refine wpAny_mono h₂ (fun f s₃ h₃ => ?_) (fun _ _ e => e.elim)
    cases f with
    | next =>
      obtain ⟨C₂, m₂, news₂, n', F₂, N₂, hn, J₂⟩ := h₃
      exact ⟨n', hn, m₂, news₂, C₂, F₂, N₂, J₂⟩
    | cont =>
      obtain ⟨C₂, m₂, news₂, n', F₂, N₂, hn, J₂⟩ := h₃
      exact ⟨n', hn, m₂, news₂, C₂, F₂, N₂, J₂⟩
    | brk => exact h₃
    | ret v => exact h₃

/-- the digits to the base 16, least first -/
noncomputable def hexL : Nat → Nat → List Nat
  | 0, _ => []
  | k + 1, n => if n = 0 then [] else hexL k (n / 16) ++ [65 + n % 16]

noncomputable def bOf (l : List Nat) : Array UInt8 := (l.map UInt8.ofNat).toArray
theorem bOf_app (a b : List Nat) : bOf (a ++ b) = bOf a ++ bOf b := by simp [bOf]
theorem ap_bits : ∀ k : Fin 16, KBy.whole (bOf [65, 66, 67, 68, 69, 70, 71, 72, 73, 74, 75, 76, 77, 78, 79, 80]) (some ((k.1 : Nat) : Int)) (some (((k.1 : Nat) : Int) + 1)) = false ∧ KBy.picked (bOf [65, 66, 67, 68, 69, 70, 71, 72, 73, 74, 75, 76, 77, 78, 79, 80]) (some ((k.1 : Nat) : Int)) (some (((k.1 : Nat) : Int) + 1)) = bOf [65 + k.1] := by
  decide +kernel
theorem ap_cut (c : Nat) : KBy.whole (bOf [65, 66, 67, 68, 69, 70, 71, 72, 73, 74, 75, 76, 77, 78, 79, 80]) (some ((c : Int).fmod 16)) (some ((c : Int).fmod 16 + 1)) = false ∧ KBy.picked (bOf [65, 66, 67, 68, 69, 70, 71, 72, 73, 74, 75, 76, 77, 78, 79, 80]) (some ((c : Int).fmod 16)) (some ((c : Int).fmod 16 + 1)) = bOf [65 + c % 16] := by
  have h := ap_bits ⟨c % 16, Nat.mod_lt _ (by decide)⟩
  have e : (c : Int).fmod 16 = ((c % 16 : Nat) : Int) := by
    rw [Int.fmod_eq_emod_of_nonneg _ (by decide)]; omega
  rw [e]
  exact h
inductive ApInv (x : Int) (n : Nat) (m : Str → Option Value) (news : List (Addr × Obj)) : Prop
  | mk (c : Nat) (v : List Nat) (t1 t2 t3 : Tok) (a : Agree m [(Str.ofString "num", .int (c : Int) t1), (Str.ofString "val", .bytes (bOf v) t2), (Str.ofString "AP", .bytes (bOf [65, 66, 67, 68, 69, 70, 71, 72, 73, 74, 75, 76, 77, 78, 79, 80]) t3)])
      (hl : v.length + n = 5) (hc : c < 16 ^ n) (hx : hexL n c ++ v = hexL 5 x.natAbs) (e : news = [])
set_option maxHeartbeats 8000000 in
theorem ap_spec : ∀ {w : World} {mean : ExcName → Option Value} {mg mb : Str → Option Value} (x : Int) (t : Tok) (s₀ : Shared)
   (KX : (hd.heap_1 w.params).In s₀.heap) (T : Tp mean mg mb s₀.heap) (hx : x.natAbs < 2 ^ 20),
   Spec w 1 49 [.int x t] s₀ (fun v _ => ∃ t', v = .bytes (bOf (hexL 5 x.natAbs)) t') := by
  intro w mean mg mb x t s₀ KX T hx
  refine' spec_of (binds := [(Str.ofString "num", .int x t)]) KX T ?ho ?hcd ?hb ?hl ?c1 ?c2 ?c3 ?c4 ?_
  case ho => k_is
  case hcd => k_is
  case hb => rfl
  case hl => exact locs rfl
  case c1 => exact rfl
  case c2 => exact rfl
  case c3 => exact rfl
  case c4 => decide
  intro dp un fr gd L h₁ tk hdp hun F N
  k_steps
  rename_i tk1 _ _
  unfold Stop
  refine while_cal (h₀ := s₀.heap) (s₀ := s₀) (n₀ := 5) (ApInv x) (by assumption) (by assumption) ((Cal.refl s₀).heap _ _) ?_ ?_
  · have e : (if x < 0 then -x else x) = (x.natAbs : Int) := by split <;> omega
    rw [e]
    refine ⟨x.natAbs, [], _, _, _, ⟨rfl, rfl, rfl, trivial⟩, rfl, Nat.lt_of_lt_of_le hx (by decide), by simp, rfl⟩
  · rintro n m1 news1 s1 C1 ⟨c, v, t1, t2, t3, hag, hn, hc, hv, hnews⟩ F1 N1
    subst hnews
    have F1' := fr_over F1 hag
    clear F1
    k_steps
    · refine KBy.slice_N (s := ⟨_, _, _, _, _⟩) (by assumption) (by assumption) (by constructor) (by constructor) (ap_cut c).1 (by rw [(ap_cut c).2]; simp [bOf]) ?_
      rw [(ap_cut c).2]
      intro h5 t5 k5 F5 N5
      k_steps
      refine KBy.add_bytes (by simp only [bOf, List.size_toArray, List.length_map, List.length_singleton]; omega) ?_
      rw [← bOf_app]
      intro t6 k6
      k_steps
      have e : (c : Int).fdiv 16 = ((c / 16 : Nat) : Int) := by
        rw [Int.fdiv_eq_ediv_of_nonneg _ (by decide)]; rfl
      have hc0 : (c : Int) ≠ 0 := by assumption
      have hc1 : c ≠ 0 := by omega
      cases n with
      | zero => exact absurd hc (by simpa using hc1)
      | succ n =>
        refine ⟨⟨C1.os, C1.size, C1.gens, C1.bare⟩, _, [], n, by assumption, News.nil, Nat.lt_succ_self n, c / 16, [65 + c % 16] ++ v, _, _, _, ⟨by rw [← e]; rfl, rfl, rfl, trivial⟩, by simp; omega, Nat.div_lt_of_lt_mul (by rw [← Nat.pow_succ']; exact hc), ?_, rfl⟩
        rw [← hv]
        simp [hexL, hc1]
    · have hz : (c : Int) = 0 := by assumption
      change Done s₀ (fun v _ => ∃ t', v = .bytes (bOf (hexL 5 x.natAbs)) t') (.ret (.bytes (bOf v) t2)) _
      refine done_of F1' ⟨C1.os, C1.size, C1.gens, C1.bare⟩ ⟨t2, ?_⟩
      have : c = 0 := by omega
      subst this
      rw [← hv]
      cases n <;> rfl
end Mine
end
end partN1
/-! part W1 -/
section partW1
open PySem PySem.W PyProof.Rows PySem.Calls Builtin Builtin.Str
set_option Elab.async false
set_option maxRecDepth 100000
set_option linter.all false
noncomputable section
namespace Mine
local macro_rules | `(tactic| omega) => `(tactic| lia)
theorem fillW1 : PySem.Challenge.rw_wr0027_01.prog = PySem.Challenge.rw_wr0027_01.prog ∧ hd.heap_1 = hd.heap_1 := by
  k_fill
  exact ⟨rfl, rfl⟩
local macro_rules | `(tactic| k_steps) => `(tactic| repeat' (first | walk1 | (dsimp only; walk1)))

/-- a statement, and what holds between it and the rest, in any setting -/
theorem cutE {w : World} {A : Around} {s : Shared} {env : Env} {Q : Flow → Shared → Prop} {E : Value → Shared → Prop} {st : Stmt} {rest : List Stmt} (J : Shared → Prop)
    (h : wpAny (model PR w) A (exec st env) (fun f s' => match f with | .next => J s' | _ => False) (fun _ _ => False) s)
    (k : ∀ s', J s' → wpAny (model PR w) A (execs rest env) Q E s') : wpAny (model PR w) A (execs (st :: rest) env) Q E s :=
  wpAny_execs_cons (wpAny_mono h (fun f s' hf => by cases f <;> first | exact k _ hf | exact hf.elim) fun _ _ e => e.elim)

noncomputable def escC (y C R : Str) : Str := if (occurrences y C 0 y.length 1).isEmpty = true then y else Txt.replace y C R
theorem escC_no {y C R : Str} (h : ¬ (!(occurrences y C 0 y.length 1).isEmpty) = true) : escC y C R = y := by
  unfold escC
  cases hc : (occurrences y C 0 y.length 1).isEmpty with
  | true => exact if_pos rfl
  | false => rw [hc] at h; exact absurd rfl h
theorem escC_yes {y C R : Str} (h : (!(occurrences y C 0 y.length 1).isEmpty) = true) : escC y C R = Txt.replace y C R := by
  unfold escC
  cases hc : (occurrences y C 0 y.length 1).isEmpty with
  | true => rw [hc] at h; exact absurd h (by decide)
  | false => exact if_neg (by decide)
noncomputable def escB (l : List (Str × Str)) (x : Str) : Str := l.foldl (fun y p => escC y p.1 p.2) x
noncomputable def escTab (k : Int) : List (Str × Str) :=
  if k = 0 then [(Str.ofString "&", Str.ofString "&amp;"), (Str.ofString "<", Str.ofString "&lt;"), (Str.ofString ">", Str.ofString "&gt;")]
  else if k = 1 then [(Str.ofString "&", Str.ofString "&amp;"), (Str.ofString "<", Str.ofString "&lt;"), (Str.ofString ">", Str.ofString "&gt;"), (Str.ofString "\"", Str.ofString "&quot;"), (Str.ofString "\r", Str.ofString "&#13;"), (Str.ofString "\n", Str.ofString "&#10;"), (Str.ofString "\t", Str.ofString "&#09;")]
  else [(Str.ofString "&", Str.ofString "&amp;"), (Str.ofString "<", Str.ofString "&lt;"), (Str.ofString ">", Str.ofString "&gt;"), (Str.ofString "\r", Str.ofString "&#xD;")]
/-- what the texts are in the course of it -/
structure EscAt (h₀ : Heap) (L : Addr) (s₀ : Shared) (y : Str) (s : Shared) : Prop where
  cal : Cal s₀ s
  news : News h₀ L s.heap []
  fr : ∃ m t, Agree m [(Str.ofString "text", .str y t)] ∧ Fr h₀ L s.heap m
local macro_rules | `(tactic| walk_at "call builtin:str.replace") => `(tactic| refine stop ?_)

theorem mcall_eq {env : Env} {id name : Str} {p5 p6 p9 : Pos} {a b : Expr} (hp : (p6.endLine == p9.line) = true) (ha : starEach [a, b] env = [(false, PySem.eval a env), (false, PySem.eval b env)]) :
    PySem.eval (.Call (.Attribute (.Name id p5) name p6) [a, b] [] p9) env = (do
      let ov ← PySem.eval (.Name id p5) env
      standAt p6.atName
      let (f, first) ← holding [ov] (getMethod ov name (do return (← importBound (.Name id p5) env).getD true))
      callWith p9 f first (backTo p9 (starEach [a, b] env)) []) := by
  have e : methodCallPos true (.Name id p5) env p6 p9 = pure p9 := by unfold methodCallPos; rw [hp]; rfl
  have f : methodCallForm 2 (backTo p9 (starEach [a, b] env)) [] = true := by rw [ha]; rfl
  show (do let ov ← PySem.eval (.Name id p5) env; standAt p6.atName; methodCall (.Name id p5) name p6 p9 env ov 2 (backTo p9 (starEach [a, b] env)) []) = _
  unfold methodCall
  rw [f, e]
  rfl
theorem esc_step {w : World} {A : Around} {s₀ s : Shared} {L a : Addr} {qual : Str} {ns : List (Str × NameKind)} {cd : Value} {y C R : Str} {k1 k2 k3 : Nat} {p1 p2 p3 p4 p5 p6 p7 p8 p9 p10 p11 : Pos}
    (KX : (hd.heap_1 w.params).In s₀.heap)
    (J : EscAt s₀.heap L s₀ y s) (hy : y.length ≤ 1048576) (hCR : (C == R) = false) (hR : R.length ≤ 14) (hp : (p6.endLine == p9.line) = true) :
    wpAny (model PR w) A (exec (.If (.Compare (.Constant (.str C) k1 p1) [.In] [.Name (Str.ofString "text") p2] p3) [.Assign [.Name (Str.ofString "text") p4] (.Call (.Attribute (.Name (Str.ofString "text") p5) (Str.ofString "replace") p6) [.Constant (.str C) k2 p7, .Constant (.str R) k3 p8] [] p9) p10] [] p11) (envOf qual { kind := .function, names := (Str.ofString "text", .local) :: ns, isGenerator := false, isCoroutine := false } L a cd))
      (fun f s' => match f with | .next => EscAt s₀.heap L s₀ (escC y C R) s' | _ => False) (fun _ _ => False) s := by
  obtain ⟨C1, N1, m1, t1, hag, F1⟩ := J
  have F1' := fr_over F1 hag
  clear F1
  refine wpAny_If ?_
  refine wpAny_with_toks (n := 0) (Nat.zero_le _) ?_
  repeat' ((fail_if_success (with_reducible show (0 ≤ _ → _))); first | walk1 | (dsimp only))
  intro _
  split
  · rename_i hoc
    have hk : 1 ≤ s.toks + 1 := Nat.le_add_left _ _
    generalize s.toks + 1 = tk1 at hk ⊢
    k_steps
    refine MethodCall_ ?_ (mcall_eq hp rfl)
    k_steps
    unfold Stop
    have hk' : 1 ≤ tk1 := hk
    refine SC.replaceW (by show @Ne Nat _ _; omega) (by show @Ne Nat _ _; omega) (by show @Ne Nat _ _; omega) hCR hy hR ?_
    rw [← escC_yes hoc]
    intro t5 k5
    k_steps
    refine ⟨⟨C1.os, C1.size, C1.gens, C1.bare⟩, by assumption, _, t5, ⟨rfl, trivial⟩, by assumption⟩
  · rename_i hoc
    k_steps
    refine ⟨⟨C1.os, C1.size, C1.gens, C1.bare⟩, by assumption, _, t1, ⟨?_, trivial⟩, by assumption⟩
    rw [escC_no hoc]
    rfl
theorem esc_go {w : World} {A : Around} {s₀ s : Shared} {L a : Addr} {qual : Str} {ns : List (Str × NameKind)} {cd : Value} {y C R : Str} {k1 k2 k3 : Nat} {p1 p2 p3 p4 p5 p6 p7 p8 p9 p10 p11 : Pos}
    (KX : (hd.heap_1 w.params).In s₀.heap)
    (J : EscAt s₀.heap L s₀ y s) (hy : y.length ≤ 1048576) (hCR : (C == R) = false) (hR : R.length ≤ 14) (hp : (p6.endLine == p9.line) = true) {rest : List Stmt} {Q : Flow → Shared → Prop} {E : Value → Shared → Prop}
    (k : ∀ s', EscAt s₀.heap L s₀ (escC y C R) s' → wpAny (model PR w) A (execs rest (envOf qual { kind := .function, names := (Str.ofString "text", .local) :: ns, isGenerator := false, isCoroutine := false } L a cd)) Q E s') :
    wpAny (model PR w) A (execs ((.If (.Compare (.Constant (.str C) k1 p1) [.In] [.Name (Str.ofString "text") p2] p3) [.Assign [.Name (Str.ofString "text") p4] (.Call (.Attribute (.Name (Str.ofString "text") p5) (Str.ofString "replace") p6) [.Constant (.str C) k2 p7, .Constant (.str R) k3 p8] [] p9) p10] [] p11) :: rest) (envOf qual { kind := .function, names := (Str.ofString "text", .local) :: ns, isGenerator := false, isCoroutine := false } L a cd)) Q E s := cutE (EscAt s₀.heap L s₀ (escC y C R)) (esc_step KX J hy hCR hR hp) k
set_option maxHeartbeats 8000000 in
theorem cdata_spec : ∀ {w : World} {mean : ExcName → Option Value} {mg mb : Str → Option Value} (x : Str) (t : Tok) (s₀ : Shared)
   (KX : (hd.heap_1 w.params).In s₀.heap) (T : Tp mean mg mb s₀.heap) (hx : ∀ j, (escB ((escTab 0).take j) x).length ≤ 1048576),
   Spec w 1 63 [.str x t] s₀ (fun v _ => ∃ t', v = .str (escB (escTab 0) x) t') := by
  intro w mean mg mb x t s₀ KX T hx
  refine' spec_of (binds := [(Str.ofString "text", .str x t)]) KX T ?ho ?hcd ?hb ?hl ?c1 ?c2 ?c3 ?c4 ?_
  case ho => k_is
  case hcd => k_is
  case hb => rfl
  case hl => exact locs rfl
  case c1 => exact rfl
  case c2 => exact rfl
  case c3 => exact rfl
  case c4 => decide
  intro dp un fr gd L h₁ tk hdp hun F N
  repeat' ((fail_if_success (with_reducible show wpAny _ _ (execs (Stmt.If _ _ _ _ :: _) _) _ _ _)); first | walk1 | (dsimp only))
  have J0 : EscAt s₀.heap L s₀ x { s₀ with heap := h₁, toks := tk } := ⟨(Cal.refl s₀).heap _ _, N, _, t, ⟨rfl, trivial⟩, F⟩
  have hx0 : x.length ≤ 1048576 := hx 0
  refine esc_go KX J0 hx0 (by decide +kernel) (by decide) rfl fun s1 J1 => ?_
  have hx1 : (escC x (Str.ofString "&") (Str.ofString "&amp;")).length ≤ 1048576 := hx 1
  refine esc_go KX J1 hx1 (by decide +kernel) (by decide) rfl fun s2 J2 => ?_
  have hx2 : (escC (escC x (Str.ofString "&") (Str.ofString "&amp;")) (Str.ofString "<") (Str.ofString "&lt;")).length ≤ 1048576 := hx 2
  refine esc_go KX J2 hx2 (by decide +kernel) (by decide) rfl fun s3 J3 => ?_
  have hx3 : (escC (escC (escC x (Str.ofString "&") (Str.ofString "&amp;")) (Str.ofString "<") (Str.ofString "&lt;")) (Str.ofString ">") (Str.ofString "&gt;")).length ≤ 1048576 := hx 3
  obtain ⟨C1, N1, m1, t1, hag, F1⟩ := J3
  have F1' := fr_over F1 hag
  clear F1
  k_steps
  change Done s₀ (fun v _ => ∃ t', v = .str (escB (escTab 0) x) t') (.ret (.str (escC (escC (escC x (Str.ofString "&") (Str.ofString "&amp;")) (Str.ofString "<") (Str.ofString "&lt;")) (Str.ofString ">") (Str.ofString "&gt;")) t1)) _
  exact done_of F1' ⟨C1.os, C1.size, C1.gens, C1.bare⟩ ⟨t1, rfl⟩

set_option maxHeartbeats 8000000 in
theorem attrib_spec : ∀ {w : World} {mean : ExcName → Option Value} {mg mb : Str → Option Value} (x : Str) (t : Tok) (s₀ : Shared)
   (KX : (hd.heap_1 w.params).In s₀.heap) (T : Tp mean mg mb s₀.heap) (hx : ∀ j, (escB ((escTab 1).take j) x).length ≤ 1048576),
   Spec w 1 70 [.str x t] s₀ (fun v _ => ∃ t', v = .str (escB (escTab 1) x) t') := by
  intro w mean mg mb x t s₀ KX T hx
  refine' spec_of (binds := [(Str.ofString "text", .str x t)]) KX T ?ho ?hcd ?hb ?hl ?c1 ?c2 ?c3 ?c4 ?_
  case ho => k_is
  case hcd => k_is
  case hb => rfl
  case hl => exact locs rfl
  case c1 => exact rfl
  case c2 => exact rfl
  case c3 => exact rfl
  case c4 => decide
  intro dp un fr gd L h₁ tk hdp hun F N
  repeat' ((fail_if_success (with_reducible show wpAny _ _ (execs (Stmt.If _ _ _ _ :: _) _) _ _ _)); first | walk1 | (dsimp only))
  have J0 : EscAt s₀.heap L s₀ x { s₀ with heap := h₁, toks := tk } := ⟨(Cal.refl s₀).heap _ _, N, _, t, ⟨rfl, trivial⟩, F⟩
  have hx0 : x.length ≤ 1048576 := hx 0
  refine esc_go KX J0 hx0 (by decide +kernel) (by decide) rfl fun s1 J1 => ?_
  have hx1 : (escC x (Str.ofString "&") (Str.ofString "&amp;")).length ≤ 1048576 := hx 1
  refine esc_go KX J1 hx1 (by decide +kernel) (by decide) rfl fun s2 J2 => ?_
  have hx2 : (escC (escC x (Str.ofString "&") (Str.ofString "&amp;")) (Str.ofString "<") (Str.ofString "&lt;")).length ≤ 1048576 := hx 2
  refine esc_go KX J2 hx2 (by decide +kernel) (by decide) rfl fun s3 J3 => ?_
  have hx3 : (escC (escC (escC x (Str.ofString "&") (Str.ofString "&amp;")) (Str.ofString "<") (Str.ofString "&lt;")) (Str.ofString ">") (Str.ofString "&gt;")).length ≤ 1048576 := hx 3
  refine esc_go KX J3 hx3 (by decide +kernel) (by decide) rfl fun s4 J4 => ?_
  have hx4 : (escC (escC (escC (escC x (Str.ofString "&") (Str.ofString "&amp;")) (Str.ofString "<") (Str.ofString "&lt;")) (Str.ofString ">") (Str.ofString "&gt;")) (Str.ofString "\"") (Str.ofString "&quot;")).length ≤ 1048576 := hx 4
  refine esc_go KX J4 hx4 (by decide +kernel) (by decide) rfl fun s5 J5 => ?_
  have hx5 : (escC (escC (escC (escC (escC x (Str.ofString "&") (Str.ofString "&amp;")) (Str.ofString "<") (Str.ofString "&lt;")) (Str.ofString ">") (Str.ofString "&gt;")) (Str.ofString "\"") (Str.ofString "&quot;")) (Str.ofString "\r") (Str.ofString "&#13;")).length ≤ 1048576 := hx 5
  refine esc_go KX J5 hx5 (by decide +kernel) (by decide) rfl fun s6 J6 => ?_
  have hx6 : (escC (escC (escC (escC (escC (escC x (Str.ofString "&") (Str.ofString "&amp;")) (Str.ofString "<") (Str.ofString "&lt;")) (Str.ofString ">") (Str.ofString "&gt;")) (Str.ofString "\"") (Str.ofString "&quot;")) (Str.ofString "\r") (Str.ofString "&#13;")) (Str.ofString "\n") (Str.ofString "&#10;")).length ≤ 1048576 := hx 6
  refine esc_go KX J6 hx6 (by decide +kernel) (by decide) rfl fun s7 J7 => ?_
  have hx7 : (escC (escC (escC (escC (escC (escC (escC x (Str.ofString "&") (Str.ofString "&amp;")) (Str.ofString "<") (Str.ofString "&lt;")) (Str.ofString ">") (Str.ofString "&gt;")) (Str.ofString "\"") (Str.ofString "&quot;")) (Str.ofString "\r") (Str.ofString "&#13;")) (Str.ofString "\n") (Str.ofString "&#10;")) (Str.ofString "\t") (Str.ofString "&#09;")).length ≤ 1048576 := hx 7
  obtain ⟨C1, N1, m1, t1, hag, F1⟩ := J7
  have F1' := fr_over F1 hag
  clear F1
  k_steps
  change Done s₀ (fun v _ => ∃ t', v = .str (escB (escTab 1) x) t') (.ret (.str (escC (escC (escC (escC (escC (escC (escC x (Str.ofString "&") (Str.ofString "&amp;")) (Str.ofString "<") (Str.ofString "&lt;")) (Str.ofString ">") (Str.ofString "&gt;")) (Str.ofString "\"") (Str.ofString "&quot;")) (Str.ofString "\r") (Str.ofString "&#13;")) (Str.ofString "\n") (Str.ofString "&#10;")) (Str.ofString "\t") (Str.ofString "&#09;")) t1)) _
  exact done_of F1' ⟨C1.os, C1.size, C1.gens, C1.bare⟩ ⟨t1, rfl⟩

set_option maxHeartbeats 8000000 in
theorem c14n_spec : ∀ {w : World} {mean : ExcName → Option Value} {mg mb : Str → Option Value} (x : Str) (t : Tok) (s₀ : Shared)
   (KX : (hd.heap_1 w.params).In s₀.heap) (T : Tp mean mg mb s₀.heap) (hx : ∀ j, (escB ((escTab 2).take j) x).length ≤ 1048576),
   Spec w 1 77 [.str x t] s₀ (fun v _ => ∃ t', v = .str (escB (escTab 2) x) t') := by
  intro w mean mg mb x t s₀ KX T hx
  refine' spec_of (binds := [(Str.ofString "text", .str x t)]) KX T ?ho ?hcd ?hb ?hl ?c1 ?c2 ?c3 ?c4 ?_
  case ho => k_is
  case hcd => k_is
  case hb => rfl
  case hl => exact locs rfl
  case c1 => exact rfl
  case c2 => exact rfl
  case c3 => exact rfl
  case c4 => decide
  intro dp un fr gd L h₁ tk hdp hun F N
  repeat' ((fail_if_success (with_reducible show wpAny _ _ (execs (Stmt.If _ _ _ _ :: _) _) _ _ _)); first | walk1 | (dsimp only))
  have J0 : EscAt s₀.heap L s₀ x { s₀ with heap := h₁, toks := tk } := ⟨(Cal.refl s₀).heap _ _, N, _, t, ⟨rfl, trivial⟩, F⟩
  have hx0 : x.length ≤ 1048576 := hx 0
  refine esc_go KX J0 hx0 (by decide +kernel) (by decide) rfl fun s1 J1 => ?_
  have hx1 : (escC x (Str.ofString "&") (Str.ofString "&amp;")).length ≤ 1048576 := hx 1
  refine esc_go KX J1 hx1 (by decide +kernel) (by decide) rfl fun s2 J2 => ?_
  have hx2 : (escC (escC x (Str.ofString "&") (Str.ofString "&amp;")) (Str.ofString "<") (Str.ofString "&lt;")).length ≤ 1048576 := hx 2
  refine esc_go KX J2 hx2 (by decide +kernel) (by decide) rfl fun s3 J3 => ?_
  have hx3 : (escC (escC (escC x (Str.ofString "&") (Str.ofString "&amp;")) (Str.ofString "<") (Str.ofString "&lt;")) (Str.ofString ">") (Str.ofString "&gt;")).length ≤ 1048576 := hx 3
  refine esc_go KX J3 hx3 (by decide +kernel) (by decide) rfl fun s4 J4 => ?_
  have hx4 : (escC (escC (escC (escC x (Str.ofString "&") (Str.ofString "&amp;")) (Str.ofString "<") (Str.ofString "&lt;")) (Str.ofString ">") (Str.ofString "&gt;")) (Str.ofString "\r") (Str.ofString "&#xD;")).length ≤ 1048576 := hx 4
  obtain ⟨C1, N1, m1, t1, hag, F1⟩ := J4
  have F1' := fr_over F1 hag
  clear F1
  k_steps
  change Done s₀ (fun v _ => ∃ t', v = .str (escB (escTab 2) x) t') (.ret (.str (escC (escC (escC (escC x (Str.ofString "&") (Str.ofString "&amp;")) (Str.ofString "<") (Str.ofString "&lt;")) (Str.ofString ">") (Str.ofString "&gt;")) (Str.ofString "\r") (Str.ofString "&#xD;")) t1)) _
  exact done_of F1' ⟨C1.os, C1.size, C1.gens, C1.bare⟩ ⟨t1, rfl⟩

local macro_rules | `(tactic| walk_at "call ref") => `(tactic| refine stop ?_)
set_option maxHeartbeats 8000000 in
theorem write_spec : ∀ {w : World} {mean : ExcName → Option Value} {mg mb : Str → Option Value} (k : Int) (u : Tok) (x : Str) (t : Tok) (s₀ : Shared)
   (KX : (hd.heap_1 w.params).In s₀.heap) (T : Tp mean mg mb s₀.heap) (hx : ∀ j, (escB ((escTab k).take j) x).length ≤ 1048576),
   Spec w 2 84 [.int k u, .str x t] s₀ (fun v _ => ∃ t', v = .str (escB (escTab k) x) t') := by
  intro w mean mg mb k u x t s₀ KX T hx
  refine' spec_of (binds := [(Str.ofString "kind", .int k u), (Str.ofString "text", .str x t)]) KX T ?ho ?hcd ?hb ?hl ?c1 ?c2 ?c3 ?c4 ?_
  case ho => k_is
  case hcd => k_is
  case hb => rfl
  case hl => exact locs rfl
  case c1 => exact rfl
  case c2 => exact rfl
  case c3 => exact rfl
  case c4 => decide
  intro dp un fr gd L h₁ tk hdp hun F N
  k_steps
  · have hk : k = 0 := by assumption
    subst hk
    unfold Stop
    refine' use_in KX T (fun s a b => cdata_spec x t s a b hx) ?F ?N ?d ?u ?_
    case F => assumption
    case N => assumption
    case d => exact dp_lt (j := 2) hdp rfl
    case u => exact dp_lt (j := 11) hun rfl
    rintro v s' C hh F1 N1 ⟨t', hv⟩
    subst hv
    k_steps
    change Done s₀ (fun v _ => ∃ t', v = .str (escB (escTab 0) x) t') (.ret (.str _ t')) _
    exact done_of F1 ⟨C.os, C.size, C.gens, C.bare⟩ ⟨t', rfl⟩
  · have hk : k = 1 := by assumption
    subst hk
    unfold Stop
    refine' use_in KX T (fun s a b => attrib_spec x t s a b hx) ?F ?N ?d ?u ?_
    case F => assumption
    case N => assumption
    case d => exact dp_lt (j := 2) hdp rfl
    case u => exact dp_lt (j := 11) hun rfl
    rintro v s' C hh F1 N1 ⟨t', hv⟩
    subst hv
    k_steps
    change Done s₀ (fun v _ => ∃ t', v = .str (escB (escTab 1) x) t') (.ret (.str _ t')) _
    exact done_of F1 ⟨C.os, C.size, C.gens, C.bare⟩ ⟨t', rfl⟩
  · have hk0 : ¬ k = 0 := by assumption
    have hk1 : ¬ k = 1 := by assumption
    have e : escTab k = escTab 2 := by unfold escTab; rw [if_neg hk0, if_neg hk1]; rfl
    unfold Stop
    refine' use_in KX T (fun s a b => c14n_spec x t s a b (by rw [← e]; exact hx)) ?F ?N ?d ?u ?_
    case F => assumption
    case N => assumption
    case d => exact dp_lt (j := 2) hdp rfl
    case u => exact dp_lt (j := 11) hun rfl
    rintro v s' C hh F1 N1 ⟨t', hv⟩
    subst hv
    k_steps
    change Done s₀ (fun v _ => ∃ t', v = .str (escB (escTab k) x) t') (.ret (.str _ t')) _
    rw [e]
    exact done_of F1 ⟨C.os, C.size, C.gens, C.bare⟩ ⟨t', rfl⟩
end Mine
end
end partW1
/-! part P1 -/
section partP1
open PySem PySem.W PyProof.Rows PySem.Calls Builtin Builtin.Str
set_option Elab.async false
set_option maxRecDepth 100000
set_option linter.all false
noncomputable section
namespace Mine
local macro_rules | `(tactic| omega) => `(tactic| lia)
theorem fillP1 : PySem.Challenge.rw_wr0027_01.prog = PySem.Challenge.rw_wr0027_01.prog ∧ hd.heap_1 = hd.heap_1 := by
  k_fill
  exact ⟨rfl, rfl⟩
local macro_rules | `(tactic| k_steps) => `(tactic| repeat' (first | walk1 | (dsimp only; walk1)))

section
variable {w : World} {A : Around} {h₀ : Heap} {s₀ s : Shared} {env : Env} {target : Expr} {body : List Stmt} {Q : Flow → Shared → Prop} {m : Str → Option Value} {news : List (Addr × Obj)}
/-- a loop over a range that the loop's head makes -/
theorem loop_range {r : Addr} {a b : Int} {t u v : Tok} {x : Str} {px : Pos} (J : Nat → (Str → Option Value) → List (Addr × Obj) → Prop) (hh : A.handled = none) (hr : IsRange s.heap r a b 1 t u v)
    (ha : -(2 ^ 62) ≤ a) (ha' : a < 2 ^ 62) (hb : -(2 ^ 62) ≤ b) (hb' : b < 2 ^ 62) (F : Fr h₀ env.locals s.heap m) (N : News h₀ env.locals s.heap news) (C : Cal s₀ s) (h0 : J 0 m news)
    (turn : ∀ I, s.heap.objs.size = I → TurnR w A h₀ s₀ env (.Name x px) body Q [I] (b - a).toNat (fun i v => ∃ t, v = .int (a + (i : Nat)) t) news J)
    (done : ∀ s' m' news', Cal s₀ s' → SameAdr news news' → J (b - a).toNat m' news' → Fr h₀ env.locals s'.heap m' → News h₀ env.locals s'.heap news' → Q .next s') :
    wpAny (model PR w) A (pyIter (.ref r)) (fun it s₂ => LoopR w A h₀ s₀ env (.Name x px) body Q it s₂) (fun _ _ => False) s := by
  refine wpAny_pyIter_range hr (small_one ha ha' hb hb') ?_
  have W := Walks.range (prog := PR) (w := w) hh s.heap.objs.size a 1 (b - a).toNat
  have hv : (fun (i : Nat) (v : Value) => ∃ t, v = .int (a + i * 1) t) = fun i v => ∃ t, v = .int (a + (i : Nat)) t := by funext i v; simp
  rw [hv] at W
  refine loop_walks (fp := [s.heap.objs.size]) J W (fun _ _ _ _ _ h => wpAny_pure h) ?_ (Fr.base_none F (Nat.le_refl _)) (fun p hp => Nat.ne_of_lt (News.lt N p hp)) ?_ (F.push _) (fun p hp => ⟨Heap.get?_push_of_some _ (N p hp).1, (N p hp).2⟩) (C.of_eq ⟨rfl, rfl⟩) h0 (turn _ rfl) done
  · intro h
    exact absurd F.ns.lt (List.mem_singleton.mp h ▸ Nat.lt_irrefl _)
  · show IsRangeIter _ _ _ _ _
    rw [rangeSize_nat]
    simpa using Heap.get?_push_size _ rfl
theorem range_1 {b : Int} {t : Tok} {x : Str} {px : Pos} (J : Nat → (Str → Option Value) → List (Addr × Obj) → Prop) (hh : A.handled = none)
    (hb : -(2 ^ 62) ≤ b) (hb' : b < 2 ^ 62) (F : Fr h₀ env.locals s.heap m) (N : News h₀ env.locals s.heap news) (C : Cal s₀ s) (h0 : J 0 m news)
    (turn : ∀ I, (∀ p ∈ news, p.1 ≠ I) → TurnR w A h₀ s₀ env (.Name x px) body Q [I] b.toNat (fun i v => ∃ t, v = .int (i : Nat) t) news J)
    (done : ∀ s' m' news', Cal s₀ s' → SameAdr news news' → J b.toNat m' news' → Fr h₀ env.locals s'.heap m' → News h₀ env.locals s'.heap news' → Q .next s') :
    wpAny (model PR w) A (call (.type "range") [.int b t]) (fun xv s₁ => wpAny (model PR w) A (pyIter xv) (fun it s₂ => LoopR w A h₀ s₀ env (.Name x px) body Q it s₂) (fun _ _ => False) s₁) (fun _ _ => False) s := by
  refine call_range_1 ?_
  have hv : (fun (i : Nat) (v : Value) => ∃ t, v = .int (0 + (i : Nat)) t) = fun i v => ∃ t, v = .int (i : Nat) t := by funext i v; simp
  refine loop_range J hh (IsRange.new ..) (by decide) (by decide) hb hb' (F.push _) (fun p hp => ⟨Heap.get?_push_of_some _ (N p hp).1, (N p hp).2⟩) (C.of_eq ⟨rfl, rfl⟩) h0 ?_ ?_
  · rw [hv, Int.sub_zero]
    intro I hI
    exact turn I (fun p hp => Nat.ne_of_lt (by rw [← hI]; show p.1 < (s.heap.push _).objs.size; rw [Heap.size_push]; exact Nat.lt_succ_of_lt (News.lt N p hp)))
  · rw [Int.sub_zero]; exact done
theorem range_2 {a b : Int} {t u : Tok} {x : Str} {px : Pos} (J : Nat → (Str → Option Value) → List (Addr × Obj) → Prop) (hh : A.handled = none)
    (ha : -(2 ^ 62) ≤ a) (ha' : a < 2 ^ 62) (hb : -(2 ^ 62) ≤ b) (hb' : b < 2 ^ 62) (F : Fr h₀ env.locals s.heap m) (N : News h₀ env.locals s.heap news) (C : Cal s₀ s) (h0 : J 0 m news)
    (turn : ∀ I, (∀ p ∈ news, p.1 ≠ I) → TurnR w A h₀ s₀ env (.Name x px) body Q [I] (b - a).toNat (fun i v => ∃ t, v = .int (a + (i : Nat)) t) news J)
    (done : ∀ s' m' news', Cal s₀ s' → SameAdr news news' → J (b - a).toNat m' news' → Fr h₀ env.locals s'.heap m' → News h₀ env.locals s'.heap news' → Q .next s') :
    wpAny (model PR w) A (call (.type "range") [.int a t, .int b u]) (fun xv s₁ => wpAny (model PR w) A (pyIter xv) (fun it s₂ => LoopR w A h₀ s₀ env (.Name x px) body Q it s₂) (fun _ _ => False) s₁) (fun _ _ => False) s := by
  refine call_range_2 ?_
  refine loop_range J hh (IsRange.new ..) ha ha' hb hb' (F.push _) (fun p hp => ⟨Heap.get?_push_of_some _ (N p hp).1, (N p hp).2⟩) (C.of_eq ⟨rfl, rfl⟩) h0 ?_ done
  intro I hI
  exact turn I (fun p hp => Nat.ne_of_lt (by rw [← hI]; show p.1 < (s.heap.push _).objs.size; rw [Heap.size_push]; exact Nat.lt_succ_of_lt (News.lt N p hp)))
end

/-! the parts -/
structure Cell where
  a : Addr
  lo : Int
  hi : Int
  x : Str
  t1 : Tok
  t2 : Tok
  t3 : Tok
  n : Nat
noncomputable def Cell.obj (c : Cell) : Obj := listOf #[.int c.lo c.t1, .int c.hi c.t2, .str c.x c.t3] c.n
noncomputable def Cell.val (c : Cell) : Int × Int × Str := (c.lo, c.hi, c.x)
noncomputable def PartsL (D : Addr) (cs : List Cell) (k : Nat) : List (Addr × Obj) := (D, listOf (cs.map fun c => Value.ref c.a).toArray k) :: cs.map fun c => (c.a, c.obj)
noncomputable def Parts (h : Heap) (D : Addr) (cs : List Cell) (k : Nat) : Prop := ∀ p ∈ PartsL D cs k, h.get? p.1 = some p.2
section
variable {w : World} {A : Around} {s : Shared} {h₀ : Heap} {L D : Addr} {m : Str → Option Value} {E : Value → Shared → Prop} {cs : List Cell} {kk : Nat}
theorem Parts.lst {h : Heap} (H : Parts h D cs kk) : h.IsList D (cs.map fun c => Value.ref c.a).toArray := ⟨_, H _ List.mem_cons_self, rfl, kk, rfl⟩
theorem Parts.cel {h : Heap} (H : Parts h D cs kk) {c : Cell} (hc : c ∈ cs) : h.IsList c.a #[.int c.lo c.t1, .int c.hi c.t2, .str c.x c.t3] := ⟨_, H (c.a, c.obj) (List.mem_cons_of_mem _ (List.mem_map_of_mem hc)), rfl, c.n, rfl⟩
theorem Parts.keeps {h h' : Heap} (H : Parts h D cs kk) (k : ∀ b o, h.get? b = some o → h'.get? b = some o) : Parts h' D cs kk := fun p hp => k _ _ (H p hp)
theorem item_any {value slice : Expr} {l : Addr} {items : Array Value} {k : Int} {u : Tok} {x : Value} {Q : Value → Shared → Prop} (hl : s.heap.IsList l items)
    (h0 : 0 ≤ k) (hfit : k < 2 ^ 63) (hx : items[k.toNat]? = some x) (h : Q x s)
    (hs : subscripted slice false (.ref l) (.int k u) = operate [.ref l, .int k u] (getItem (.ref l) (.int k u)) := by with_unfolding_all rfl) :
    wpAny (model PR w) A (subscriptTail value slice (.ref l) (.int k u)) Q E s :=
  tail_any hl.typeIs slot_list_getitem.lookup (wpAny_getItem_list hl h0 hfit hx h) hs
theorem item_out {value slice : Expr} {k : Int} {u : Tok} {c : Cell} {Q : Value → Shared → Prop} (F : Fr h₀ L s.heap m) (H : Parts h₀ D cs kk) (h0 : 0 ≤ k) (hf : k < 2 ^ 63) (hc : cs[k.toNat]? = some c) (h : Q (.ref c.a) s)
    (hs : subscripted slice false (.ref D) (.int k u) = operate [.ref D, .int k u] (getItem (.ref D) (.int k u)) := by with_unfolding_all rfl) :
    wpAny (model PR w) A (subscriptTail value slice (.ref D) (.int k u)) Q E s :=
  item_any (H.keeps F.keep).lst h0 hf (by simp [hc]) h hs
theorem item_in {value slice : Expr} {k : Int} {u : Tok} {c : Cell} {x : Value} {Q : Value → Shared → Prop} (F : Fr h₀ L s.heap m) (H : Parts h₀ D cs kk) (hc : c ∈ cs) (h0 : 0 ≤ k) (hf : k < 2 ^ 63) (hx : #[.int c.lo c.t1, .int c.hi c.t2, .str c.x c.t3][k.toNat]? = some x) (h : Q x s)
    (hs : subscripted slice false (.ref c.a) (.int k u) = operate [.ref c.a, .int k u] (getItem (.ref c.a) (.int k u)) := by with_unfolding_all rfl) :
    wpAny (model PR w) A (subscriptTail value slice (.ref c.a) (.int k u)) Q E s :=
  item_any ((H.keeps F.keep).cel hc) h0 hf hx h hs
theorem item_in0 {value slice : Expr} {u : Tok} {c : Cell} {Q : Value → Shared → Prop} (F : Fr h₀ L s.heap m) (H : Parts h₀ D cs kk) (hc : c ∈ cs) (h : Q (.int c.lo c.t1) s)
    (hs : subscripted slice false (.ref c.a) (.int 0 u) = operate [.ref c.a, .int 0 u] (getItem (.ref c.a) (.int 0 u)) := by with_unfolding_all rfl) :
    wpAny (model PR w) A (subscriptTail value slice (.ref c.a) (.int 0 u)) Q E s :=
  item_in F H hc (by decide) (by decide) rfl h hs
theorem item_in1 {value slice : Expr} {u : Tok} {c : Cell} {Q : Value → Shared → Prop} (F : Fr h₀ L s.heap m) (H : Parts h₀ D cs kk) (hc : c ∈ cs) (h : Q (.int c.hi c.t2) s)
    (hs : subscripted slice false (.ref c.a) (.int 1 u) = operate [.ref c.a, .int 1 u] (getItem (.ref c.a) (.int 1 u)) := by with_unfolding_all rfl) :
    wpAny (model PR w) A (subscriptTail value slice (.ref c.a) (.int 1 u)) Q E s :=
  item_in F H hc (by decide) (by decide) rfl h hs
theorem item_in2 {value slice : Expr} {u : Tok} {c : Cell} {Q : Value → Shared → Prop} (F : Fr h₀ L s.heap m) (H : Parts h₀ D cs kk) (hc : c ∈ cs) (h : Q (.str c.x c.t3) s)
    (hs : subscripted slice false (.ref c.a) (.int 2 u) = operate [.ref c.a, .int 2 u] (getItem (.ref c.a) (.int 2 u)) := by with_unfolding_all rfl) :
    wpAny (model PR w) A (subscriptTail value slice (.ref c.a) (.int 2 u)) Q E s :=
  item_in F H hc (by decide) (by decide) rfl h hs
end
theorem len_out {w : World} {A : Around} {s : Shared} {h₀ : Heap} {L D : Addr} {m : Str → Option Value} {E : Value → Shared → Prop} {cs : List Cell} {kk : Nat} {Q : Value → Shared → Prop} (F : Fr h₀ L s.heap m) (H : Parts h₀ D cs kk) (hz : cs.length ≤ 1000)
    (h : Q (.int (cs.length : Nat) (s.toks + 1)) { s with toks := s.toks + 1 + 1 }) : wpAny (model PR w) A (call (.builtin "len") [.ref D]) Q E s :=
  call_len_list (H.keeps F.keep).lst (by simp only [List.size_toArray, List.length_map]; omega) (by simpa using h)
local macro_rules | `(tactic| walk_at "call builtin:len") => `(tactic| (refine' len_out ?F ?H ?z ?_; (case F => assumption); (case H => assumption); (case z => assumption)))
local macro_rules | `(tactic| walk_at "subscriptTail") => `(tactic| (first
  | ((with_reducible show wpAny _ _ (subscriptTail _ _ (Value.ref _) (Value.int 0 _)) _ _ _); with_unfolding_all (refine' item_in0 ?F ?H ?c ?_; (case F => assumption); (case H => assumption); (case c => assumption)))
  | ((with_reducible show wpAny _ _ (subscriptTail _ _ (Value.ref _) (Value.int 1 _)) _ _ _); with_unfolding_all (refine' item_in1 ?F ?H ?c ?_; (case F => assumption); (case H => assumption); (case c => assumption)))
  | ((with_reducible show wpAny _ _ (subscriptTail _ _ (Value.ref _) (Value.int 2 _)) _ _ _); with_unfolding_all (refine' item_in2 ?F ?H ?c ?_; (case F => assumption); (case H => assumption); (case c => assumption)))
  | with_unfolding_all (refine' item_out ?F ?H ?z ?f ?c ?_; (case F => assumption); (case H => assumption); (case z => omega); (case f => omega); (case c => assumption))))
local macro_rules | `(tactic| walk_at "execs cons Assign cons") => `(tactic| refine wpAny_execs_cons ?_)
local macro_rules | `(tactic| walk_at "call builtin:list.append") => `(tactic| refine stop ?_)
local macro_rules | `(tactic| walk_at "call type:range") => `(tactic| refine stop ?_)
local macro_rules | `(tactic| walk_at "exec For Name Call cons nil") => `(tactic| refine stop ?_)

noncomputable def joinOk (ps : List (Int × Int × Str)) (i : Nat) : Bool :=
  match ps[i]?, ps[i + 1]? with
  | some p, some q => p.2.1 + 1 == q.1 || q.2.1 + 1 == p.1
  | _, _ => false
theorem joinOk_at {cs : List Cell} {i : Nat} {c1 c2 : Cell} (h1 : cs[i]? = some c1) (h2 : cs[i + 1]? = some c2) : joinOk (cs.map Cell.val) i = ((c1.hi + 1 == c2.lo) || (c2.hi + 1 == c1.lo)) := by
  unfold joinOk
  rw [List.getElem?_map, List.getElem?_map, h1, h2]
  rfl
noncomputable def joinL (ps : List (Int × Int × Str)) : List Nat := (List.range (ps.length - 1)).filter (joinOk ps)
noncomputable def natVals (l : List (Nat × Tok)) : List Value := l.map fun p => .int (p.1 : Int) p.2

inductive LaN (r : List (Str × Value)) (S : Addr) (X : Nat → List Nat) (j : Nat) (m : Str → Option Value) (news : List (Addr × Obj)) : Prop
  | mk (l : List (Nat × Tok)) (n : Nat) (a : Agree m r) (e : news = [(S, listOf (natVals l).toArray n)]) (hl : l.length ≤ j) (hx : l.map (·.1) = X j)
inductive PostN (s₀ : Shared) (X : List Nat) (v : Value) (s' : Shared) : Prop
  | mk (S : Addr) (l : List (Nat × Tok)) (n : Nat) (e : v = .ref S) (h : s'.heap.get? S = some (listOf (natVals l).toArray n)) (h0 : s₀.heap.get? S = none) (hx : l.map (·.1) = X)
set_option maxHeartbeats 8000000 in
theorem joinable_spec : ∀ {w : World} {mean : ExcName → Option Value} {mg mb : Str → Option Value} (D : Addr) (cs : List Cell) (kk : Nat) (s₀ : Shared)
   (KX : (hd.heap_1 w.params).In s₀.heap) (T : Tp mean mg mb s₀.heap) (H : Parts s₀.heap D cs kk) (hl : cs.length ≤ 1000),
   Spec w 1 91 [.ref D] s₀ (PostN s₀ (joinL (cs.map Cell.val))) := by
  intro w mean mg mb D cs kk s₀ KX T H hl
  refine' spec_of (binds := [(Str.ofString "parts", .ref D)]) KX T ?ho ?hcd ?hb ?hl ?c1 ?c2 ?c3 ?c4 ?_
  case ho => k_is
  case hcd => k_is
  case hb => rfl
  case hl => exact locs rfl
  case c1 => exact rfl
  case c2 => exact rfl
  case c3 => exact rfl
  case c4 => decide
  intro dp un fr gd L h₁ tk hdp hun F N
  k_steps
  rename_i S _ _ h2 F2 N2
  unfold Stop
  refine for_road (h₀ := s₀.heap) (s₀ := s₀) ?_
  k_steps
  unfold Stop
  refine' range_1 (LaN [(Str.ofString "parts", .ref D), (Str.ofString "spots", .ref S)] S (fun j => (List.range j).filter (joinOk (cs.map Cell.val)))) ?hh ?hb ?hb' ?F ?N ?C ?z ?_ ?_
  case hh => rfl
  case hb => omega
  case hb' => omega
  case F => assumption
  case N => assumption
  case C => exact (Cal.refl s₀).heap _ _
  case z => exact ⟨[], 0, ⟨rfl, rfl, trivial⟩, rfl, Nat.le_refl _, rfl⟩
  · rintro I hI i v m1 news1 s1 own hi ⟨t1, rfl⟩ C1 hadr ⟨l, n, hag, hnews, hlen, hfold⟩ hown F1 N1
    subst hnews
    have F1' := fr_over F1 hag
    clear F1
    have hlt : i + 1 < cs.length := by omega
    obtain ⟨c1, hc1⟩ : ∃ c, cs[i]? = some c := ⟨_, List.getElem?_eq_getElem (by omega)⟩
    obtain ⟨c2, hc2⟩ : ∃ c, cs[i + 1]? = some c := ⟨_, List.getElem?_eq_getElem hlt⟩
    have hm1 : c1 ∈ cs := List.mem_of_getElem? hc1
    have hm2 : c2 ∈ cs := List.mem_of_getElem? hc2
    have hc1' : cs[((i : Nat) : Int).toNat]? = some c1 := hc1
    have hc2' : cs[(((i : Nat) : Int) + 1).toNat]? = some c2 := by rw [show (((i : Nat) : Int) + 1).toNat = i + 1 from by omega]; exact hc2
    repeat' ((fail_if_success (with_reducible show (ite _ _ _))); first | walk1 | (dsimp only; walk1))
    cases hb1 : (c1.hi + 1 == c2.lo)
    · have hh1 : Held ((c1.hi + 1 == c2.lo) = false) := hb1
      clear hb1
      repeat' ((fail_if_success (with_reducible show (ite ((c2.hi + 1 == c1.lo) = true) _ _))); first | walk1 | (dsimp only; walk1))
      dsimp only
      cases hb2 : (c2.hi + 1 == c1.lo)
      · have hh2 : Held ((c2.hi + 1 == c1.lo) = false) := hb2
        clear hb2
        rw [if_neg (by decide)]
        refine isTrue_or_nil ?_
        rw [if_neg (by decide)]
        k_steps
        refine ⟨⟨C1.os, C1.size, C1.gens, C1.bare⟩, trivial, _, [(S, listOf (natVals l).toArray n)], by assumption, by assumption, hadr, l, n, ⟨rfl, rfl, trivial⟩, rfl, Nat.le_succ_of_le hlen, ?_⟩
        rw [List.range_succ, List.filter_append, hfold]
        have : joinOk (cs.map Cell.val) i = false := by
          rw [joinOk_at hc1 hc2, hh1, hh2]; rfl
        simp [this]
      · have hh2 : Held ((c2.hi + 1 == c1.lo) = true) := hb2
        clear hb2
        rw [if_pos rfl, if_pos rfl]
        k_steps
        unfold Stop
        refine append_K (its := (natVals l).toArray) (n := n) (by assumption) (by assumption) (Upd.head (fun p hp e => hI (S, listOf #[] 0) List.mem_cons_self (by rw [← e]; exact (List.mem_singleton.mp (hown p hp)).symm ▸ rfl))) ?_ ?_
        · intro h6 F6 N6
          have e : (natVals l).toArray.push (.int ((i : Nat) : Int) t1) = (natVals (l ++ [(i, t1)])).toArray := by simp [natVals]
          rw [e] at N6
          k_steps
          refine ⟨⟨C1.os, C1.size, C1.gens, C1.bare⟩, trivial, _, [(S, listOf (natVals (l ++ [(i, t1)])).toArray (n + 1))], by assumption, by assumption, rfl, l ++ [(i, t1)], n + 1, ⟨rfl, rfl, trivial⟩, rfl, by rw [List.length_append, List.length_singleton]; omega, ?_⟩
          rw [List.range_succ, List.filter_append, List.map_append, hfold]
          have : joinOk (cs.map Cell.val) i = true := by
            rw [joinOk_at hc1 hc2, hh1, hh2]; rfl
          simp [this]
        · rw [sizeLine_eq]
          simp only [natVals, List.size_toArray, List.length_map]
          omega
    · have hh1 : Held ((c1.hi + 1 == c2.lo) = true) := hb1
      clear hb1
      k_steps
      unfold Stop
      refine append_K (its := (natVals l).toArray) (n := n) (by assumption) (by assumption) (Upd.head (fun p hp e => hI (S, listOf #[] 0) List.mem_cons_self (by rw [← e]; exact (List.mem_singleton.mp (hown p hp)).symm ▸ rfl))) ?_ ?_
      · intro h6 F6 N6
        have e : (natVals l).toArray.push (.int ((i : Nat) : Int) t1) = (natVals (l ++ [(i, t1)])).toArray := by simp [natVals]
        rw [e] at N6
        k_steps
        refine ⟨⟨C1.os, C1.size, C1.gens, C1.bare⟩, trivial, _, [(S, listOf (natVals (l ++ [(i, t1)])).toArray (n + 1))], by assumption, by assumption, rfl, l ++ [(i, t1)], n + 1, ⟨rfl, rfl, trivial⟩, rfl, by rw [List.length_append, List.length_singleton]; omega, ?_⟩
        rw [List.range_succ, List.filter_append, List.map_append, hfold]
        have : joinOk (cs.map Cell.val) i = true := by
          rw [joinOk_at hc1 hc2, hh1]; rfl
        simp [this]
      · rw [sizeLine_eq]
        simp only [natVals, List.size_toArray, List.length_map]
        omega
  · rintro s1 m1 news1 C1 hadr ⟨l, n, hag, hnews, hlen, hfold⟩ F1 N1
    subst hnews
    have F1' := fr_over F1 hag
    clear F1
    k_steps
    have hS := N1 _ List.mem_cons_self
    refine done_of (by assumption) ⟨C1.os, C1.size, C1.gens, C1.bare⟩ ⟨S, l, n, rfl, hS.1, hS.2.2, ?_⟩
    rw [hfold]
    unfold joinL
    rw [List.length_map, show ((cs.length : Int) - 1).toNat = cs.length - 1 from by omega]
end Mine
end
end partP1
/-! part J1 -/
section partJ1
open PySem PySem.W PyProof.Rows PySem.Calls Builtin Builtin.Str
set_option Elab.async false
set_option maxRecDepth 100000
set_option linter.all false
noncomputable section
namespace Mine
local macro_rules | `(tactic| omega) => `(tactic| lia)
theorem fillJ1 : PySem.Challenge.rw_wr0027_01.prog = PySem.Challenge.rw_wr0027_01.prog ∧ hd.heap_1 = hd.heap_1 := by
  k_fill
  exact ⟨rfl, rfl⟩
local macro_rules | `(tactic| k_steps) => `(tactic| repeat' (first | walk1 | (dsimp only; walk1)))

/-- a function whose names are shared with a block of its own -/
theorem spec_ofC {w : World} {k : Nat} {mean : ExcName → Option Value} {mg mb : Str → Option Value} {f : Addr} {vs : List Value} {s : Shared} {P : Value → Shared → Prop}
    {name qual : Str} {params : Arguments} {body : List Stmt} {scope : Scope} {dV kV doc pm cdv ct oc : Value} {an od : Option Addr} {osl : Array (Option Value)} {binds : List (Str × Value)}
    (X : (hd.heap_1 w.params).In s.heap) (T : Tp mean mg mb s.heap)
    (ho : (hd.heap_1 w.params).lookup f = some ⟨oc, od, .func (fnOf name qual params body scope dV kV doc pm an cdv ct), osl⟩) (hcd : codeIn (hd.heap_1 w.params) cdv qual = true)
    (hbind : bindArgs (fnOf name qual params body scope dV kV doc pm an cdv ct) ⟨vs, []⟩ = pure binds)
    (hkind : ∀ n, ∀ x ∈ binds, scope.names.lookup x.1 = some .local ∨ (scope.names.lookup x.1 = some .cell ∧ ((cellsFrom n scope.names []).lookup x.1).isSome = true))
    (hnd : ((cellsFrom 0 scope.names []).map (·.1)).Nodup)
    (hco : scope.isCoroutine = false) (hgen : scope.isGenerator = false) (hk : scope.kind = .function)
    (h : ∀ (dp un : Nat) (fr : Option (List Env)) (gd : Option (List Code)) (L' : Addr) (h₁ : Heap) (tk : Nat) (cells : List (Addr × Obj)), dp + k < recursionLimit → un + 8 * k < cLine →
      Fr s.heap L' h₁ (bindL (envOfC qual scope L' f cdv).kindOf binds fun _ => none) → News s.heap L' h₁ cells →
      CellsAre (bindC (envOfC qual scope L' f cdv).kindOf binds fun _ => none) (cellsFrom (L' + 1) scope.names []) cells →
      wpAny (model PR w) ((At dp un fr gd).deeper (envOfC qual scope L' f cdv)) (execs body (envOfC qual scope L' f cdv)) (Done s P) (fun _ _ => False) { s with heap := h₁, toks := tk }) :
    Spec w k f vs s P := by
  intro dp un fr gd Q E hd hu hQ
  refine wpAny_call ?_
  refine codeAny_call_function (Nat.lt_of_le_of_lt (by show dp ≤ dp + k; omega) hd) (X _ _ ho) rfl hco hgen rfl (codeRec_of X hcd) (BindsTo.of_eq hbind _ _ _ _ ?_)
  refine wpAny_newFunctionEnv_cells hk (hkind _) fun env' he s' x => ?_
  subst he
  refine ⟨T.nolimit.keeps x.toInCall.keep, codeAny_func ?_⟩
  obtain ⟨h₁, tk, rfl, _⟩ := x.done
  have hk₁ := x.toInCall.keep
  obtain ⟨cells, NC, Y⟩ := Cl.news (h₀ := s.heap) (Nat.le_refl _) fun n c hm => ⟨x.cell n c (lookup_of_mem_nodup (cellsFrom_names scope.names 0 (s.heap.objs.size + 1) [] [] rfl ▸ hnd) hm), x.above n c hm⟩
  refine wpAny_mono (h dp un fr gd s.heap.objs.size h₁ tk cells hd hu ⟨x.toInCall.ns, hk₁, Nat.le_refl _⟩ NC Y) (fun fl s' hl => hQ _ _ hl.1 hl.2) fun _ _ y => y.elim

section
variable {w : World} {A : Around} {s : Shared} {h₀ : Heap} {L : Addr} {m : Str → Option Value} {env : Env}
/-- a comprehension's turns, by what holds between them -/
theorem comp_ind {elt : Expr} {x : Str} {scope : Scope} {cl : List (Str × Addr)} {S : List (Addr × Obj) → Prop} {P : Nat → Value → Prop} {Fin : List Value → List (Addr × Obj) → Prop} (G : Nat → List Value → List (Addr × Obj) → Prop) (n : Nat)
    (step : ∀ i ys news, i < n → G i ys news → ∀ v I oI C oC D m₂ h tk (E' : Value → Shared → Prop), P i v → LCg.NsObj oC m₂ → m₂ x = some v → Fr h₀ L h m → News h₀ L h ((I, oI) :: (C, oC) :: (D, LCg.lst ys) :: news) → LCg.Off3 I C D news → ((@Ne Nat I C) ∧ (@Ne Nat I D) ∧ (@Ne Nat C D)) →
      wpAny (model PR w) A (eval elt (compEnvC scope cl C env)) (LCg.CompEnd h₀ L m { s with heap := h, toks := tk } I oI C oC D (LCg.lst ys) S (fun y news' => G (i + 1) (ys ++ [y]) news')) E' { s with heap := h, toks := tk })
    (fin : ∀ ys news, G n ys news → Fin ys news) : ∀ k i ys news, i + k = n → G i ys news → LCg.CompRest PR w A h₀ L m env elt x scope cl s S P Fin k i ys news
  | 0, i, ys, news, e, g => LCg.CompRest.zero (fin ys news (by rw [show n = i from by omega]; exact g))
  | k + 1, i, ys, news, e, g => by
    refine LCg.CompRest.succ ?_
    intro v I oI C oC D m₂ h tk E' hv hC hx F N off ne
    refine wpAny_mono (step i ys news (by omega) g v I oI C oC D m₂ h tk E' hv hC hx F N off ne) (fun y s₂ z => ?_) fun _ _ e => e
    obtain ⟨h', tk', news', rfl, F', N', off', hS, r⟩ := z
    exact ⟨h', tk', news', rfl, F', N', off', hS, comp_ind G n step fin k (i + 1) _ _ (by omega) r⟩
theorem item_base {E : Value → Shared → Prop} {value slice : Expr} {D : Addr} {vs : List Value} {n : Nat} {k : Int} {u : Tok} {x : Value} {Q : Value → Shared → Prop} (F : Fr h₀ L s.heap m) (H : h₀.get? D = some (listOf vs.toArray n)) (hx : vs[k.toNat]? = some x) (h0 : 0 ≤ k) (hf : k < 2 ^ 63) (h : Q x s)
    (hs : subscripted slice false (.ref D) (.int k u) = operate [.ref D, .int k u] (getItem (.ref D) (.int k u)) := by with_unfolding_all rfl) :
    wpAny (model PR w) A (subscriptTail value slice (.ref D) (.int k u)) Q E s :=
  item_any (show s.heap.IsList D vs.toArray from ⟨_, F.keep _ _ H, rfl, n, rfl⟩) h0 hf (by simp [hx]) h hs
theorem nm_cell {E : Value → Shared → Prop} {cs : Scope} {cl : List (Str × Addr)} {C c : Addr} {x : Str} {pos : Pos} {news : List (Addr × Obj)} {o : Obj} {v : Value} {Q : Value → Shared → Prop} (N : News h₀ L s.heap news) (hc : cl.lookup x = some c) (hm : (c, o) ∈ news) (hd : o.data = .cell (some v)) (h : Q v s)
    (hk : (compEnvC cs cl C env).scope.kind = .function := by rfl) (hx : (compEnvC cs cl C env).kindOf x = some .cell := by rfl) (hb : (x == ("__debug__" : Str)) = false := by decide) :
    wpAny (model PR w) A (eval (.Name x pos) (compEnvC cs cl C env)) Q E s := wpAny_Name (wpAny_loadName_cell hk hx hc ⟨o, (N _ hm).1, hd⟩ h) hb
theorem nm_own {E : Value → Shared → Prop} {cs : Scope} {cl : List (Str × Addr)} {C : Addr} {x : Str} {pos : Pos} {news : List (Addr × Obj)} {oC : Obj} {m₂ : Str → Option Value} {v : Value} {Q : Value → Shared → Prop} (N : News h₀ L s.heap news) (hm : (C, oC) ∈ news) (hC : LCg.NsObj oC m₂) (hv : m₂ x = some v) (h : Q v s)
    (hk : (compEnvC cs cl C env).scope.kind = .function := by rfl) (hx : (compEnvC cs cl C env).kindOf x = some .local := by rfl) (hb : (x == ("__debug__" : Str)) = false := by decide) :
    wpAny (model PR w) A (eval (.Name x pos) (compEnvC cs cl C env)) Q E s := wpAny_Name (wpAny_loadName_local hk hx (hC.ns (N _ hm).1) hv h) hb
end
section
variable {w : World} {A : Around} {E : Value → Shared → Prop} {s : Shared} {h₀ : Heap} {L D : Addr} {news : List (Addr × Obj)} {cs : List Cell} {kk : Nat} {value slice : Expr} {u : Tok} {c : Cell} {Q : Value → Shared → Prop}
theorem parts_in {h : Heap} (N : News h₀ L h news) (hm : ∀ p ∈ PartsL D cs kk, p ∈ news) : Parts h D cs kk := fun p hp => (N p (hm p hp)).1
theorem item_lo {k : Int} (N : News h₀ L s.heap news) (hm : ∀ p ∈ PartsL D cs kk, p ∈ news) (hc : cs[k.toNat]? = some c) (h0 : 0 ≤ k) (hf : k < 2 ^ 63) (h : Q (.ref c.a) s)
    (hs : subscripted slice false (.ref D) (.int k u) = operate [.ref D, .int k u] (getItem (.ref D) (.int k u)) := by with_unfolding_all rfl) :
    wpAny (model PR w) A (subscriptTail value slice (.ref D) (.int k u)) Q E s := item_any (parts_in N hm).lst h0 hf (by simp [hc]) h hs
theorem item_l0 (N : News h₀ L s.heap news) (hc : c ∈ cs) (hm : ∀ p ∈ PartsL D cs kk, p ∈ news) (h : Q (.int c.lo c.t1) s)
    (hs : subscripted slice false (.ref c.a) (.int 0 u) = operate [.ref c.a, .int 0 u] (getItem (.ref c.a) (.int 0 u)) := by with_unfolding_all rfl) :
    wpAny (model PR w) A (subscriptTail value slice (.ref c.a) (.int 0 u)) Q E s := item_any ((parts_in N hm).cel hc) (by decide) (by decide) rfl h hs
theorem item_l1 (N : News h₀ L s.heap news) (hc : c ∈ cs) (hm : ∀ p ∈ PartsL D cs kk, p ∈ news) (h : Q (.int c.hi c.t2) s)
    (hs : subscripted slice false (.ref c.a) (.int 1 u) = operate [.ref c.a, .int 1 u] (getItem (.ref c.a) (.int 1 u)) := by with_unfolding_all rfl) :
    wpAny (model PR w) A (subscriptTail value slice (.ref c.a) (.int 1 u)) Q E s := item_any ((parts_in N hm).cel hc) (by decide) (by decide) rfl h hs
theorem item_l2 (N : News h₀ L s.heap news) (hc : c ∈ cs) (hm : ∀ p ∈ PartsL D cs kk, p ∈ news) (h : Q (.str c.x c.t3) s)
    (hs : subscripted slice false (.ref c.a) (.int 2 u) = operate [.ref c.a, .int 2 u] (getItem (.ref c.a) (.int 2 u)) := by with_unfolding_all rfl) :
    wpAny (model PR w) A (subscriptTail value slice (.ref c.a) (.int 2 u)) Q E s := item_any ((parts_in N hm).cel hc) (by decide) (by decide) rfl h hs
end
noncomputable def startL (rl : List (Int × Tok)) (xl : List (Str × Tok)) : List (Int × Int × Str) := (rl.zip xl).map fun p => (p.1.1, p.1.1, p.2.1)
theorem news_new {h₀ h h' : Heap} {L S : Addr} {m : Str → Option Value} {o : Obj} {news : List (Addr × Obj)} (F : Fr h₀ L h m) (hs : h.get? S = none) (h2 : h'.get? S = some o) (N : News h₀ L h' news) : News h₀ L h' ((S, o) :: news) := fun p hp => by
  rcases List.mem_cons.mp hp with rfl | hp
  · refine ⟨h2, ?_, ?_⟩
    · rintro rfl
      obtain ⟨oL, es, ep, hL, _⟩ := F.ns
      have hs' : h.get? S = none := hs
      rw [show h.get? S = some oL from hL] at hs'
      cases hs'
    · cases q : h₀.get? S with
      | none => rfl
      | some ob => have := F.keep _ _ q; rw [hs] at this; cases this
  · exact N p hp
theorem parts_of {h₀ h : Heap} {L D : Addr} {cs : List Cell} {k : Nat} {news : List (Addr × Obj)} (N : News h₀ L h (PartsL D cs k ++ news)) : Parts h D cs k := fun p hp => (N p (List.mem_append_left _ hp)).1
noncomputable def signP (p q : Int × Int × Str) : Str := if p.1 > q.1 then Str.ofString ">" else Str.ofString "<"
theorem nat_ints : ∀ l : List (Nat × Tok), IntsAre (natVals l) (l.map fun p => (p.1 : Int))
  | [] => .nil
  | p :: r => .cons p.1 p.2 (nat_ints r)
noncomputable def wrapP (kind : Int) (t : Str) : Str := if kind = 3 then Str.ofString "(" ++ t ++ Str.ofString ")" else escB (escTab kind) t
noncomputable def joinTwo (kind : Int) (p q : Int × Int × Str) : Int × Int × Str :=
  (min p.1 q.1, max p.2.1 q.2.1, wrapP kind (p.2.2 ++ signP p q ++ q.2.2))
noncomputable def spotAt (choice : Int) (ps : List (Int × Int × Str)) : Nat := (joinL ps).getD (choice.fmod ((joinL ps).length : Int)).toNat 0
noncomputable def joinAt (kind : Int) (ps : List (Int × Int × Str)) (k : Nat) : List (Int × Int × Str) :=
  match ps[k]?, ps[k + 1]? with
  | some p, some q => ps.take k ++ [joinTwo kind p q] ++ ps.drop (k + 2)
  | _, _ => ps
noncomputable def joinAll (kind : Int) : Nat → Int → List (Int × Int × Str) → List (Int × Int × Str)
  | 0, _, ps => ps
  | n + 1, ch, ps => if joinL ps = [] then ps else joinAll kind n (ch.fdiv 5) (joinAt kind ps (spotAt ch ps))
noncomputable def fitsAt (kind : Int) (ps : List (Int × Int × Str)) (k : Nat) : Prop := ∀ p q, ps[k]? = some p → ps[k + 1]? = some q → p.2.2.length ≤ 100000 ∧ q.2.2.length ≤ 100000 ∧ (kind ≠ 3 → ∀ j, (escB ((escTab kind).take j) (p.2.2 ++ signP p q ++ q.2.2)).length ≤ 1048576)
noncomputable def joinFits (kind : Int) : Nat → Int → List (Int × Int × Str) → Prop
  | 0, _, _ => True
  | n + 1, ch, ps => joinL ps = [] ∨ (fitsAt kind ps (spotAt ch ps) ∧ joinFits kind n (ch.fdiv 5) (joinAt kind ps (spotAt ch ps)))
noncomputable def intVals (l : List (Int × Tok)) : List Value := l.map fun p => .int p.1 p.2

local macro_rules | `(tactic| walk_at "exec Assign cons ListComp") => `(tactic| refine stop ?_)
local macro_rules | `(tactic| walk_at "execs cons Assign cons") => `(tactic| refine wpAny_execs_cons ?_)
local macro_rules | `(tactic| walk_at "subscriptTail") => `(tactic| (first
  | ((with_reducible show wpAny _ _ (subscriptTail _ _ (Value.ref _) (Value.int 0 _)) _ _ _); with_unfolding_all (refine' item_l0 ?N ?c ?m ?_; (case N => with_reducible assumption); (case c => with_reducible assumption); (case m => (intro p hp; repeat (first | exact List.mem_append_left _ hp | refine List.mem_cons_of_mem _ ?_)))))
  | ((with_reducible show wpAny _ _ (subscriptTail _ _ (Value.ref _) (Value.int 1 _)) _ _ _); with_unfolding_all (refine' item_l1 ?N ?c ?m ?_; (case N => with_reducible assumption); (case c => with_reducible assumption); (case m => (intro p hp; repeat (first | exact List.mem_append_left _ hp | refine List.mem_cons_of_mem _ ?_)))))
  | ((with_reducible show wpAny _ _ (subscriptTail _ _ (Value.ref _) (Value.int 2 _)) _ _ _); with_unfolding_all (refine' item_l2 ?N ?c ?m ?_; (case N => with_reducible assumption); (case c => with_reducible assumption); (case m => (intro p hp; repeat (first | exact List.mem_append_left _ hp | refine List.mem_cons_of_mem _ ?_)))))
  | with_unfolding_all (refine' item_base ?F ?H ?x ?z ?f ?_; (case F => with_reducible assumption); (case H => with_reducible assumption); (case x => with_reducible assumption); (case z => omega); (case f => omega))
  | with_unfolding_all (refine' item_lo ?N ?m ?c ?z ?f ?_; (case N => with_reducible assumption); (case m => (intro p hp; repeat (first | exact List.mem_append_left _ hp | refine List.mem_cons_of_mem _ ?_))); (case c => with_reducible assumption); (case z => omega); (case f => omega))
  | refine stop ?_))
local macro_rules | `(tactic| walk_at "eval Name") => `(tactic| ((with_reducible show wpAny _ _ (eval (Expr.Name _ _) (compEnvC _ _ _ _)) _ _ _); with_unfolding_all (first
  | (refine' nm_own ?N ?m ?C ?v ?_; (case N => with_reducible assumption); (case m => with_reducible assumption); (case C => with_reducible assumption); (case v => with_reducible assumption))
  | (refine' nm_cell ?N (by rfl) ?m ?d ?_; (case N => with_reducible assumption); (case m => with_reducible assumption); (case d => with_reducible assumption)))))
local macro_rules | `(tactic| walk_at "CompEnd") => `(tactic| refine stop ?_)
local macro_rules | `(tactic| walk_at "CompSrc") => `(tactic| refine stop ?_)
local macro_rules | `(tactic| walk_at "call builtin:len") => `(tactic| refine stop ?_)
local macro_rules | `(tactic| walk_at "binaryOp Add ref ref") => `(tactic| refine stop ?_)
local macro_rules | `(tactic| walk_at "binaryOp Add str str") => `(tactic| refine stop ?_)
local macro_rules | `(tactic| walk_at "compareOp NotEq ref ref") => `(tactic| refine stop ?_)
local macro_rules | `(tactic| walk_at "exec While Compare cons nil") => `(tactic| refine stop ?_)
local macro_rules | `(tactic| walk_at "call ref") => `(tactic| refine stop ?_)
theorem get_pair {α β : Type} {l : List (α × β)} {i : Nat} {G : Prop} (h : i < l.length) (k : ∀ a b, l[i]? = some (a, b) → G) : G := k _ _ (List.getElem?_eq_getElem h)
theorem get_one {α : Type} {l : List α} {i : Nat} {G : Prop} (h : i < l.length) (k : ∀ a, l[i]? = some a → G) : G := k _ (List.getElem?_eq_getElem h)
inductive JA (s₀ : Shared) (L : Addr) (news : List (Addr × Obj)) (r : Tok → Tok → List (Str × Value)) (s' : Shared) : Prop
  | mk (c : Cal s₀ s') (N : News s₀.heap L s'.heap news) (m : Str → Option Value) (t5 t6 : Tok) (a : Agree m (r t5 t6)) (F : Fr s₀.heap L s'.heap m)
inductive JPost (s₀ : Shared) (ys : List (Int × Int × Str)) (v : Value) (s' : Shared) : Prop
  | mk (D : Addr) (cs : List Cell) (kk : Nat) (e : v = .ref D) (hval : cs.map Cell.val = ys) (h : ∀ p ∈ PartsL D cs kk, s'.heap.get? p.1 = some p.2 ∧ s₀.heap.get? p.1 = none)
inductive JInv (kind : Int) (t1 : Tok) (ys : List (Int × Int × Str)) (n : Nat) (m : Str → Option Value) (news : List (Addr × Obj)) : Prop
  | mk (c : Int) (tc : Tok) (D : Addr) (cs : List Cell) (kk : Nat) (S : Addr) (sl : List (Nat × Tok)) (ns : Nat)
     (hag : Agree m [(Str.ofString "kind", .int kind t1), (Str.ofString "choice", .int c tc), (Str.ofString "parts", .ref D), (Str.ofString "spots", .ref S)]) (hnew : news = (S, listOf (natVals sl).toArray ns) :: (PartsL D cs kk ++ [])) (hsl : sl.map (·.1) = joinL (cs.map Cell.val))
      (hcn : cs.length ≤ n) (hn5 : n ≤ 5) (hjoin : joinAll kind n c (cs.map Cell.val) = ys) (hfit : joinFits kind n c (cs.map Cell.val))
inductive JComp (ys5 : List (Int × Int × Str)) (cells : List (Addr × Obj)) (i : Nat) (ys : List Value) (news : List (Addr × Obj)) : Prop
  | mk (cs : List Cell) (hcs : cs.map Cell.val = ys5.take i) (e : ys = cs.map (fun c => .ref c.a)) (hn : news = cs.map (fun c => (c.a, c.obj)) ++ cells)
set_option maxHeartbeats 8000000 in
theorem joined_spec : ∀ {w : World} {mean : ExcName → Option Value} {mg mb : Str → Option Value} (kind choice : Int) (t1 t2 : Tok) (R X : Addr) (rl : List (Int × Tok)) (xl : List (Str × Tok)) (n1 n2 : Nat) (s₀ : Shared)
   (KX : (hd.heap_1 w.params).In s₀.heap) (T : Tp mean mg mb s₀.heap) (hR : s₀.heap.get? R = some (listOf (intVals rl).toArray n1)) (hX : s₀.heap.get? X = some (listOf (strValues xl).toArray n2)) (hrl : rl.length = 5) (hxl : xl.length = 5) (hfit : joinFits kind 5 choice (startL rl xl)),
   Spec w 12 96 [.int kind t1, .ref R, .ref X, .int choice t2] s₀ (JPost s₀ (joinAll kind 5 choice (startL rl xl))) := by
  intro w mean mg mb kind choice t1 t2 R X rl xl n1 n2 s₀ KX T hR hX hrl hxl hfit
  refine' spec_ofC (binds := [(Str.ofString "kind", .int kind t1), (Str.ofString "ranks", .ref R), (Str.ofString "texts", .ref X), (Str.ofString "choice", .int choice t2)]) KX T ?ho ?hcd ?hb ?hl ?hn ?c1 ?c2 ?c3 ?_
  case ho => k_is
  case hcd => k_is
  case hb => rfl
  case hl => intro n; simp [cellsFrom]; decide
  case hn => decide
  case c1 => exact rfl
  case c2 => exact rfl
  case c3 => exact rfl
  intro dp un fr gd L h₁ tk cells hdp hun F N Y
  obtain ⟨o1, o2, hcells, ho1, ho2⟩ : ∃ o1 o2 : Obj, cells = [(L + 2, o2), (L + 1, o1)] ∧ o1.data = .cell (some (.ref R)) ∧ o2.data = .cell (some (.ref X)) := by
    cases Y with
    | cons hd2 Y2 => cases Y2 with
      | cons hd1 Y1 => cases Y1 with
        | nil => exact ⟨_, _, rfl, hd1, hd2⟩
  subst hcells
  clear Y
  have F' := fr_over (r := [(Str.ofString "kind", .int kind t1), (Str.ofString "choice", .int choice t2)]) F ⟨rfl, rfl, trivial⟩
  clear F
  k_steps
  unfold Stop
  refine LCg.Assign_ListComp_U (h₀ := s₀.heap) (cl := [(Str.ofString "texts", L + 2), (Str.ofString "ranks", L + 1)]) F' rfl (by with_unfolding_all rfl) (by rfl) (by decide) (by rfl) (by decide) (by rfl) (by rfl) (by rfl) ?_
  k_steps
  unfold Stop
  refine' LCg.CompSrc.range (n := 5) (news := [(L + 2, o2), (L + 1, o1)]) ?hh ?F ?N ?hr ?sm ?hn ?sz ?_
  case hh => rfl
  case F => assumption
  case N => assumption
  case hr => assumption
  case sm => decide
  case hn => decide
  case sz => rw [sizeLine_eq]; decide
  intro g
  refine comp_ind (JComp (startL rl xl) [(L + 2, o2), (L + 1, o1)]) 5 ?_ ?_ 5 0 [] _ rfl ⟨[], rfl, rfl, rfl⟩
  · rintro i ys news hi ⟨cs, hcs, rfl, rfl⟩ v I oI C oC D m₂ h tk3 E' hv hC hx F5 N5 off ne
    obtain ⟨t5, rfl⟩ := hv
    refine get_pair (l := rl) (i := i) (by omega) fun r tr hr => ?_
    refine get_pair (l := xl) (i := i) (by omega) fun x tx hxx => ?_
    have hr' : (intVals rl)[((0 : Int) + ((i : Nat) : Int)).toNat]? = some (.int r tr) := by rw [show ((0 : Int) + ((i : Nat) : Int)).toNat = i from by omega]; simp [intVals, hr]
    have hmC : (C, oC) ∈ (I, oI) :: (C, oC) :: (D, LCg.lst (cs.map fun c => Value.ref c.a)) :: (cs.map (fun c => (c.a, c.obj)) ++ [(L + 2, o2), (L + 1, o1)]) := by simp
    have hm1 : (L + 1, o1) ∈ (I, oI) :: (C, oC) :: (D, LCg.lst (cs.map fun c => Value.ref c.a)) :: (cs.map (fun c => (c.a, c.obj)) ++ [(L + 2, o2), (L + 1, o1)]) := by simp
    have hm2 : (L + 2, o2) ∈ (I, oI) :: (C, oC) :: (D, LCg.lst (cs.map fun c => Value.ref c.a)) :: (cs.map (fun c => (c.a, c.obj)) ++ [(L + 2, o2), (L + 1, o1)]) := by simp
    have hx' : (strValues xl)[((0 : Int) + ((i : Nat) : Int)).toNat]? = some (.str x tx) := by rw [show ((0 : Int) + ((i : Nat) : Int)).toNat = i from by omega]; simp [strValues, hxx]
    k_steps
    rename_i l h6 F6 N6 l1
    unfold Stop
    refine LCg.CompEnd.intro F6 N6 ((cs ++ [(⟨l, r, r, x, tr, tr, tx, 0⟩ : Cell)]).map (fun c => (c.a, c.obj)) ++ [(L + 2, o2), (L + 1, o1)]) ?_ (LCg.Off3.of ?_) trivial ⟨cs ++ [(⟨l, r, r, x, tr, tr, tx, 0⟩ : Cell)], ?_, ?_, rfl⟩
    · intro p hp
      rw [List.map_append] at hp
      rcases List.mem_cons.mp hp with hp | hp
      · exact List.mem_cons_of_mem _ (hp ▸ List.mem_cons_self)
      rcases List.mem_cons.mp hp with hp | hp
      · exact List.mem_cons_of_mem _ (List.mem_cons_of_mem _ (hp ▸ List.mem_cons_self))
      rcases List.mem_cons.mp hp with hp | hp
      · exact List.mem_cons_of_mem _ (List.mem_cons_of_mem _ (List.mem_cons_of_mem _ (hp ▸ List.mem_cons_self)))
      rcases List.mem_append.mp hp with hp | hp
      · rcases List.mem_append.mp hp with hp | hp
        · exact List.mem_cons_of_mem _ (List.mem_cons_of_mem _ (List.mem_cons_of_mem _ (List.mem_cons_of_mem _ (List.mem_append_left _ hp))))
        · rw [List.mem_singleton.mp hp]; exact List.mem_cons_self
      · exact List.mem_cons_of_mem _ (List.mem_cons_of_mem _ (List.mem_cons_of_mem _ (List.mem_cons_of_mem _ (List.mem_append_right _ hp))))
    · intro p hp
      rw [List.map_append] at hp
      have old := off.mem
      rcases List.mem_append.mp hp with hp | hp
      · rcases List.mem_append.mp hp with hp | hp
        · exact old p (List.mem_append_left _ hp)
        · rw [List.mem_singleton.mp hp]
          exact ⟨Nat.ne_of_gt l1.1, Nat.ne_of_gt l1.2.1, Nat.ne_of_gt l1.2.2.1⟩
      · exact old p (List.mem_append_right _ hp)
    · have : (startL rl xl)[i]? = some (r, r, x) := by
        unfold startL
        rw [List.getElem?_map, (List.getElem?_zip_eq_some (z := ((r, tr), (x, tx)))).mpr ⟨hr, hxx⟩]
        rfl
      rw [List.map_append, hcs, List.take_add_one, this]
      rfl
    · rw [List.map_append]; rfl
  · rintro ys news ⟨cs, hcs, rfl, rfl⟩
    have hcs5 : cs.map Cell.val = startL rl xl := by
      rw [hcs]; refine List.take_of_length_le ?_
      unfold startL; rw [List.length_map, List.length_zip, hrl, hxl]; decide
    have hcl : cs.length = 5 := by
      have := congrArg List.length hcs5
      unfold startL at this; rw [List.length_map, List.length_map, List.length_zip, hrl, hxl] at this; exact this
    k_steps
    unfold Stop
    rename_i D h7 tk7 F7 N7 o7
    have N7' : News s₀.heap L h7 (PartsL D cs cs.length ++ []) := fun p hp => N7 p (by
      rw [List.append_nil] at hp
      rcases List.mem_cons.mp hp with hp | hp
      · rw [hp]; refine List.mem_cons.mpr (.inl ?_); show (D, listOf _ _) = (D, listOf _ _); rw [List.length_map]
      · exact List.mem_cons_of_mem _ (List.mem_append_left _ hp))
    clear N7
    refine' use_spec (joinable_spec D cs cs.length _ (Frag.In.keeps KX F7.keep) (T.keeps F7.keep) (parts_of N7') ?hl) ?F ?N ?d ?u ?_
    case F => exact F7
    case N => exact N7'
    case hl => omega
    case d => exact dp_lt (j := 2) hdp rfl
    case u => exact dp_lt (j := 11) hun rfl
    rintro v s1 C1 hk1 F8 N8 ⟨S, sl, ns, rfl, hS, hS0, hsl⟩
    have N9 := news_new F7 hS0 hS N8
    clear N8 F7 N7'
    have CC : Cal s₀ s1 := ⟨C1.os, C1.size, C1.gens, C1.bare⟩
    have F9 := fr_over (r := [(Str.ofString "kind", .int kind t1), (Str.ofString "choice", .int choice t2), (Str.ofString "parts", .ref D)]) F8 ⟨rfl, rfl, rfl, trivial⟩
    clear F8
    k_steps
    unfold Stop
    refine' while_cal (h₀ := s₀.heap) (s₀ := s₀) (n₀ := 5) (JInv kind t1 (joinAll kind 5 choice (startL rl xl))) ?F ?N ?C ?z ?_
    case F => assumption
    case N => assumption
    case C => exact CC.heap _ _
    case z => exact ⟨choice, t2, D, cs, cs.length, S, sl, ns, ⟨rfl, rfl, rfl, rfl, trivial⟩, rfl, hsl, by omega, Nat.le_refl _, by rw [hcs5], by rw [hcs5]; exact hfit⟩
    rintro n m1 news1 s1 C1 ⟨c, tc, D, cs, kk, S, sl, ns, hag, rfl, hsl, hcn, hn5, hjoin, hfit1⟩ F1 N1
    have F1' := fr_over F1 hag
    clear F1
    k_steps
    rename_i l6 h6 F6 N6 l1
    unfold Stop
    refine' ke_ne_ints (led_list (vs := natVals sl) N6 ?m1) (led_list (vs := []) N6 ?m2) (nat_ints sl) .nil ?u ?_
    case m1 => exact List.mem_cons_of_mem _ List.mem_cons_self
    case m2 => exact List.mem_cons_self
    case u => exact dp_lt (j := 67) hun rfl
    have N5 : News s₀.heap L h6 ((S, listOf (natVals sl).toArray ns) :: (PartsL D cs kk ++ [])) := fun p hp => N6 p (List.mem_cons_of_mem _ hp)
    clear N6
    cases hsp : decide (sl.map (fun p => (p.1 : Int)) = [])
    · have hne : sl ≠ [] := by rintro rfl; exact absurd hsp (by decide)
      have hlen0 : 0 < sl.length := List.length_pos_iff.mpr hne
      have hlenJ : (joinL (cs.map Cell.val)).length = sl.length := by rw [← hsl, List.length_map]
      have hnl : (natVals sl).length = sl.length := by unfold natVals; rw [List.length_map]
      have hs5 : sl.length ≤ 5 := by
        rw [← hlenJ]; unfold joinL
        have := List.length_filter_le (joinOk (cs.map Cell.val)) (List.range ((cs.map Cell.val).length - 1))
        rw [List.length_range, List.length_map] at this
        rw [List.length_map]
        omega
      have hjl : joinL (cs.map Cell.val) ≠ [] := by intro e; rw [e] at hlenJ; simp at hlenJ; omega
      have hi0 : 0 ≤ c.fmod ((natVals sl).length : Int) := Int.fmod_nonneg_of_pos _ (by omega)
      have hi1 : c.fmod ((natVals sl).length : Int) < ((natVals sl).length : Int) := Int.fmod_lt_of_pos _ (by omega)
      refine get_pair (l := sl) (i := (c.fmod ((natVals sl).length : Int)).toNat) (by omega) fun q tq hq => ?_
      have hqv : (natVals sl)[(c.fmod ((natVals sl).length : Int)).toNat]? = some (.int (q : Int) tq) := by
        have : (natVals sl)[(c.fmod ((natVals sl).length : Int)).toNat]? = (sl[(c.fmod ((natVals sl).length : Int)).toNat]?).map fun p => .int (p.1 : Int) p.2 := by
          conv => lhs; unfold natVals
          rw [List.getElem?_map]
          rfl
        rw [this, hq]; rfl
      have hqs : spotAt c (cs.map Cell.val) = q := by
        unfold spotAt
        rw [hlenJ, ← hnl, ← hsl, List.getD_eq_getElem?_getD, List.getElem?_map, hq]; rfl
      have hqm : q ∈ joinL (cs.map Cell.val) := by rw [← hsl]; exact List.mem_map.mpr ⟨(q, tq), List.mem_of_getElem? hq, rfl⟩
      have hq1 : q + 1 < cs.length := by
        unfold joinL at hqm
        have := List.mem_range.mp (List.mem_filter.mp hqm).1
        rw [List.length_map] at this; omega
      refine get_one (l := cs) (i := q) (by omega) fun c1 hc1 => ?_
      refine get_one (l := cs) (i := q + 1) hq1 fun c2 hc2 => ?_
      have hm1 : c1 ∈ cs := List.mem_of_getElem? hc1
      have hm2 : c2 ∈ cs := List.mem_of_getElem? hc2
      have hc1' : cs[((q : Nat) : Int).toNat]? = some c1 := hc1
      have hc2' : cs[(((q : Nat) : Int) + 1).toNat]? = some c2 := by rw [show (((q : Nat) : Int) + 1).toNat = q + 1 from by omega]; exact hc2
      have hlz : ((natVals sl).length : Int) ≠ 0 := by omega
      k_steps
      unfold Stop
      refine' len_N (vs := natVals sl) ?N List.mem_cons_self ?z ?_
      case N => assumption
      case z => rw [sizeLine_eq]; omega
      k_steps
      unfold Stop
      refine' item_N (vs := natVals sl) ?N List.mem_cons_self hi0 (by omega) hqv ?_
      case N => assumption
      repeat' ((fail_if_success (with_reducible show wpAny _ _ (execs (Stmt.If _ _ _ _ :: _) _) _ _ _)); first | walk1 | (dsimp only; walk1))
      dsimp only
      refine cutE (JA s₀ L ((S, listOf (natVals sl).toArray ns) :: (PartsL D cs kk ++ [])) (fun t5 t6 => [(Str.ofString "kind", .int kind t1), (Str.ofString "choice", .int (c.fdiv 5) t5), (Str.ofString "parts", .ref D), (Str.ofString "spots", .ref S), (Str.ofString "spot", .int (q : Int) tq), (Str.ofString "one", .ref c1.a), (Str.ofString "two", .ref c2.a), (Str.ofString "sign", .str (signP c1.val c2.val) t6)])) ?_ ?_
      · k_steps
        · have hlt : c2.lo < c1.lo := by assumption
          have hsg : signP c1.val c2.val = Str.ofString ">" := if_pos hlt
          dsimp only
          rw [hsg]
          exact ⟨⟨C1.os, C1.size, C1.gens, C1.bare⟩, by assumption, _, _, _, ⟨rfl, rfl, rfl, rfl, rfl, rfl, rfl, rfl, trivial⟩, by assumption⟩
        · have hlt : ¬ c2.lo < c1.lo := by assumption
          have hsg : signP c1.val c2.val = Str.ofString "<" := if_neg hlt
          dsimp only
          rw [hsg]
          exact ⟨⟨C1.os, C1.size, C1.gens, C1.bare⟩, by assumption, _, _, _, ⟨rfl, rfl, rfl, rfl, rfl, rfl, rfl, rfl, trivial⟩, by assumption⟩
      rintro s2 ⟨C2, N8, m8, t5, t6, hag8, F8⟩
      have F9 := fr_over F8 hag8
      clear F8
      obtain ⟨n', rfl⟩ : ∃ n', n = n' + 1 := ⟨n - 1, by omega⟩
      obtain ⟨hfa, hfit2⟩ := hfit1.resolve_left hjl
      rw [hqs] at hfa hfit2
      have hv1 : (cs.map Cell.val)[q]? = some c1.val := by rw [List.getElem?_map, hc1]; rfl
      have hv2 : (cs.map Cell.val)[q + 1]? = some c2.val := by rw [List.getElem?_map, hc2]; rfl
      obtain ⟨hz1, hz2, hz3⟩ := hfa _ _ hv1 hv2
      have hz1' : c1.x.length ≤ 100000 := hz1
      have hz2' : c2.x.length ≤ 100000 := hz2
      have hzs : (signP c1.val c2.val).length = 1 := by unfold signP; split <;> decide
      k_steps
      unfold Stop
      refine PyProof.Rows.add_str ?_ (by rw [hzs, sizeLine_eq]; omega)
      intro t9 k9
      k_steps
      unfold Stop
      refine PyProof.Rows.add_str ?_ (by rw [Str.length_append, hzs, sizeLine_eq]; omega)
      intro t10 k10
      repeat' ((fail_if_success (with_reducible show wpAny _ _ (execs (Stmt.If _ _ _ _ :: _) _) _ _ _)); first | walk1 | (dsimp only; walk1))
      dsimp only
      have hlen12 : (c1.x ++ signP c1.val c2.val ++ c2.x).length ≤ 200001 := by rw [Str.length_append, Str.length_append, hzs]; omega
      refine cutE (JA s₀ L ((S, listOf (natVals sl).toArray ns) :: (PartsL D cs kk ++ [])) (fun t5 t6 => [(Str.ofString "kind", .int kind t1), (Str.ofString "choice", .int (c.fdiv 5) t5), (Str.ofString "parts", .ref D), (Str.ofString "spots", .ref S), (Str.ofString "spot", .int (q : Int) tq), (Str.ofString "one", .ref c1.a), (Str.ofString "two", .ref c2.a), (Str.ofString "text", .str (wrapP kind (c1.x ++ signP c1.val c2.val ++ c2.x)) t6)])) ?_ ?_
      · k_steps
        · have hk3 : kind = 3 := by assumption
          unfold Stop
          refine PyProof.Rows.add_str ?_ (by rw [sizeLine_eq]; have : (Str.ofString "(").length = 1 := by decide
                                             omega)
          intro t11 k11
          k_steps
          unfold Stop
          refine PyProof.Rows.add_str ?_ (by rw [Str.length_append, sizeLine_eq]; have : (Str.ofString "(").length = 1 := by decide
                                             have : (Str.ofString ")").length = 1 := by decide
                                             omega)
          intro t12 k12
          k_steps
          dsimp only
          have hw : wrapP kind (c1.x ++ signP c1.val c2.val ++ c2.x) = Str.ofString "(" ++ (c1.x ++ signP c1.val c2.val ++ c2.x) ++ Str.ofString ")" := if_pos hk3
          rw [hw]
          exact ⟨⟨C2.os, C2.size, C2.gens, C2.bare⟩, by assumption, _, _, _, ⟨rfl, rfl, rfl, rfl, rfl, rfl, rfl, rfl, trivial⟩, by assumption⟩
        · have hk3 : ¬ kind = 3 := by assumption
          unfold Stop
          refine' use_in KX T (fun s a b => write_spec kind t1 _ _ s a b (hz3 hk3)) ?F ?N ?d ?u ?_
          case F => assumption
          case N => assumption
          case d => exact dp_lt (j := 3) hdp rfl
          case u => exact dp_lt (j := 19) hun rfl
          rintro v s3 C3 hk3' F12 N12 ⟨t12, rfl⟩
          k_steps
          dsimp only
          have hw : wrapP kind (c1.x ++ signP c1.val c2.val ++ c2.x) = escB (escTab kind) (c1.x ++ signP c1.val c2.val ++ c2.x) := if_neg hk3
          rw [hw]
          exact ⟨(Cal.trans ⟨C2.os, C2.size, C2.gens, C2.bare⟩ ⟨C3.os, C3.size, C3.gens, C3.bare⟩ : Cal s₀ s3).heap _ _, by assumption, _, _, _, ⟨rfl, rfl, rfl, rfl, rfl, rfl, rfl, rfl, trivial⟩, by assumption⟩
      rintro s4 ⟨C4, N14, m14, t15, t16, hag14, F14⟩
      have F15 := fr_over F14 hag14
      clear F14
      k_steps
      unfold Stop
      rename_i A1 A2 A3 A4 A5 A6 A7 A8 A9
      refine' add_lists (vs := (cs.take q).map (fun c => Value.ref c.a)) (ws := [Value.ref A2]) A7 A8 ?hl ?hb ?_ ?sz
      case hl => exact ⟨_, (A8 _ (List.mem_cons_of_mem _ (List.mem_cons_of_mem _ List.mem_cons_self))).1, rfl, 0, by
        show Data.seq _ 0 = Data.seq _ 0
        rw [slicePick_upto', List.map_take]⟩
      case hb => exact ⟨_, (A8 _ List.mem_cons_self).1, rfl, 0, rfl⟩
      case sz => rw [sizeLine_eq]; simp only [List.length_map, List.length_take, List.length_singleton]; omega
      intro h20 F20 N20
      clear A7 A8
      k_steps
      unfold Stop
      refine' kmk_slice (s := ⟨_, _, _, _, _⟩) (its := (cs.map fun c => Value.ref c.a).toArray) ?F ?N ?hl (by constructor) (by constructor) ?_ (by with_unfolding_all rfl) (by intro _; with_unfolding_all rfl) ?hz
      case F => assumption
      case N => assumption
      case hl => exact ⟨_, (N20 _ (by first | exact List.mem_cons_of_mem _ (List.mem_cons_of_mem _ (List.mem_cons_of_mem _ (List.mem_cons_of_mem _ (List.mem_cons_of_mem _ List.mem_cons_self)))))).1, rfl, kk, rfl⟩
      case hz => rw [sizeLine_eq]; simp only [List.size_toArray, List.length_map]; omega
      intro D2 h21 F21 N21 l21
      k_steps
      unfold Stop
      refine' add_lists (vs := (cs.take q).map (fun c => Value.ref c.a) ++ [Value.ref A2]) (ws := (cs.drop (q + 2)).map (fun c => Value.ref c.a)) ?F ?N ?hl ?hb ?_ ?sz
      case F => exact F21
      case N => exact N21
      case hl => exact ⟨_, (N21 _ (List.mem_cons_of_mem _ List.mem_cons_self)).1, rfl, 0, rfl⟩
      case hb => exact ⟨_, (N21 _ List.mem_cons_self).1, rfl, 0, by
        show Data.seq _ 0 = Data.seq _ 0
        rw [show ((q : Nat) : Int) + 2 = ((q + 2 : Nat) : Int) from rfl, slicePick_from', List.map_drop]⟩
      case sz => rw [sizeLine_eq]; simp only [List.length_append, List.length_map, List.length_take, List.length_drop, List.length_singleton]; omega
      intro h22 F22 N22
      generalize hD' : Array.size (Heap.objs _) = D' at N22 ⊢
      obtain ⟨cs', hcs'⟩ : ∃ cs', cs' = cs.take q ++ [(⟨A2, if c2.lo < c1.lo then c2.lo else c1.lo, if c2.hi > c1.hi then c2.hi else c1.hi, wrapP kind (c1.x ++ signP c1.val c2.val ++ c2.x), if c2.lo < c1.lo then c2.t1 else c1.t1, if c2.hi > c1.hi then c2.t2 else c1.t2, t16, 0⟩ : Cell)] ++ cs.drop (q + 2) := ⟨_, rfl⟩
      have N23 : News s₀.heap L h22 (PartsL D' cs' 0 ++ []) := by
        refine news_sub N22 fun p hp => ?_
        rw [List.append_nil] at hp
        rcases List.mem_cons.mp hp with hp | hp
        · refine List.mem_cons.mpr (.inl ?_)
          rw [hp, hcs', List.map_append, List.map_append]; rfl
        · rw [hcs', List.map_append, List.map_append] at hp
          have old : ∀ c ∈ cs, (c.a, c.obj) ∈ PartsL D cs kk ++ [] := fun c hc => List.mem_append_left _ (List.mem_cons_of_mem _ (List.mem_map_of_mem hc))
          rcases List.mem_append.mp hp with hp | hp
          · rcases List.mem_append.mp hp with hp | hp
            · obtain ⟨c', hc', rfl⟩ := List.mem_map.mp hp
              exact List.mem_cons_of_mem _ (List.mem_cons_of_mem _ (List.mem_cons_of_mem _ (List.mem_cons_of_mem _ (List.mem_cons_of_mem _ (List.mem_cons_of_mem _ (List.mem_cons_of_mem _ (old c' (List.mem_of_mem_take hc'))))))))
            · rw [List.mem_singleton.mp hp]
              exact List.mem_cons_of_mem _ (List.mem_cons_of_mem _ (List.mem_cons_of_mem _ (List.mem_cons_of_mem _ List.mem_cons_self)))
          · obtain ⟨c', hc', rfl⟩ := List.mem_map.mp hp
            exact List.mem_cons_of_mem _ (List.mem_cons_of_mem _ (List.mem_cons_of_mem _ (List.mem_cons_of_mem _ (List.mem_cons_of_mem _ (List.mem_cons_of_mem _ (List.mem_cons_of_mem _ (old c' (List.mem_of_mem_drop hc'))))))))
      have hlen' : cs'.length + 1 = cs.length := by
        rw [hcs']; simp only [List.length_append, List.length_take, List.length_drop, List.length_singleton]; omega
      have hval : cs'.map Cell.val = joinAt kind (cs.map Cell.val) q := by
        unfold joinAt
        rw [hv1, hv2, hcs', List.map_append, List.map_append, List.map_take, List.map_drop]
        show _ ++ [((if c2.lo < c1.lo then c2.lo else c1.lo), (if c2.hi > c1.hi then c2.hi else c1.hi), _)] ++ _ = _ ++ [(min c1.lo c2.lo, max c1.hi c2.hi, _)] ++ _
        rw [show (if c2.lo < c1.lo then c2.lo else c1.lo) = min c1.lo c2.lo from by rw [Int.min_def]; split <;> split <;> omega, show (if c2.hi > c1.hi then c2.hi else c1.hi) = max c1.hi c2.hi from by rw [Int.max_def]; split <;> split <;> omega]
        rfl
      clear N22 N21 N20 l21 hD'
      k_steps
      unfold Stop
      rename_i F24 N24
      refine' use_spec (joinable_spec D' cs' 0 _ (Frag.In.keeps KX F24.keep) (T.keeps F24.keep) (parts_of N24) ?hl9) ?F9 ?N9 ?d9 ?u9 ?_
      case F9 => exact F24
      case N9 => exact N24
      case hl9 => omega
      case d9 => exact dp_lt (j := 2) hdp rfl
      case u9 => exact dp_lt (j := 11) hun rfl
      rintro v s5 C5 hk5 F25 N25 ⟨S', sl', ns', rfl, hS', hS0', hsl'⟩
      have N26 := news_new F24 hS0' hS' N25
      clear N25 F24 N24
      have CC5 : Cal s₀ s5 := Cal.trans ⟨C4.os, C4.size, C4.gens, C4.bare⟩ ⟨C5.os, C5.size, C5.gens, C5.bare⟩
      k_steps
      refine ⟨CC5.heap _ _, _, _, n', by assumption, by assumption, Nat.lt_succ_self n', c.fdiv 5, t15, D', cs', 0, S', sl', ns', ⟨rfl, rfl, rfl, rfl, trivial⟩, rfl, hsl', by omega, by omega, ?_, ?_⟩
      · rw [hval, ← hjoin]
        show _ = (if joinL (cs.map Cell.val) = [] then _ else _)
        rw [if_neg hjl, hqs]
      · rw [hval]; exact hfit2
    · k_steps
      have hne : sl = [] := by
        have := of_decide_eq_true hsp
        simpa using this
      have hjl : joinL (cs.map Cell.val) = [] := by rw [← hsl, hne]; rfl
      refine done_of (by assumption) ⟨C1.os, C1.size, C1.gens, C1.bare⟩ ⟨D, cs, kk, rfl, ?_, fun p hp => ?_⟩
      · rw [← hjoin]
        cases n with
        | zero => rfl
        | succ n => show _ = (if joinL (cs.map Cell.val) = [] then _ else _); rw [if_pos hjl]
      · have := N5 p (List.mem_cons_of_mem _ (List.mem_append_left _ hp))
        exact ⟨this.1, this.2.2⟩
end Mine
end
end partJ1
/-! part L1 -/
section partL1
open PySem PySem.W PyProof.Rows PySem.Calls Builtin Builtin.Str
set_option Elab.async false
set_option maxRecDepth 100000
set_option linter.all false
noncomputable section
namespace Mine
theorem fillL1 : PySem.Challenge.rw_wr0027_01.prog = PySem.Challenge.rw_wr0027_01.prog ∧ hd.heap_1 = hd.heap_1 := by
  k_fill
  exact ⟨rfl, rfl⟩
local macro_rules | `(tactic| k_steps) => `(tactic| repeat' (first | walk1 | (dsimp only; walk1)))

/-- the letters of a text, in its order -/
noncomputable def lettersB (x : Str) : List Str := (signs x).filter fun a => !(occurrences (Str.ofString "ABCDEFGHIJKLMNOP") a 0 (Str.ofString "ABCDEFGHIJKLMNOP").length 1).isEmpty

inductive PostS (s₀ : Shared) (X : List Str) (v : Value) (s' : Shared) : Prop
  | mk (D : Addr) (l : List (Str × Tok)) (n : Nat) (e : v = .ref D) (h : s'.heap.get? D = some (listOf (strValues l).toArray n)) (h0 : s₀.heap.get? D = none) (hx : l.map (·.1) = X)
set_option maxHeartbeats 8000000 in
theorem letters_spec : ∀ {w : World} {mean : ExcName → Option Value} {mg mb : Str → Option Value} (x : Str) (t : Tok) (s₀ : Shared)
   (KX : (hd.heap_1 w.params).In s₀.heap) (T : Tp mean mg mb s₀.heap) (hx : x.length ≤ 1000),
   Spec w 1 101 [.str x t] s₀ (PostS s₀ (lettersB x)) := by
  intro w mean mg mb x t s₀ KX T hx
  refine' spec_of (binds := [(Str.ofString "text", .str x t)]) KX T ?ho ?hcd ?hb ?hl ?c1 ?c2 ?c3 ?c4 ?_
  case ho => k_is
  case hcd => k_is
  case hb => rfl
  case hl => exact locs rfl
  case c1 => exact rfl
  case c2 => exact rfl
  case c3 => exact rfl
  case c4 => decide
  intro dp un fr gd L h₁ tk hdp hun F N
  k_steps
  rename_i D ys h' tk' F1 N1 hD hl hp hc
  obtain ⟨⟨n, hp1⟩, _⟩ := hp
  obtain ⟨l, rfl, hl2⟩ := strsAre_values (StrsAre.ofCarried hc)
  exact done_of F1 ((Cal.refl s₀).heap _ _) ⟨D, l, n, rfl, hp1, hD, hl2⟩
end Mine
end
end partL1
/-! part L2 -/
section partL2
open PySem PySem.W PyProof.Rows PySem.Calls Builtin Builtin.Str
set_option Elab.async false
set_option maxRecDepth 100000
set_option linter.all false
noncomputable section
namespace Mine
local macro_rules | `(tactic| omega) => `(tactic| lia)
theorem fillL2 : PySem.Challenge.rw_wr0027_01.prog = PySem.Challenge.rw_wr0027_01.prog ∧ hd.heap_1 = hd.heap_1 := by
  k_fill
  exact ⟨rfl, rfl⟩
local macro_rules | `(tactic| k_steps) => `(tactic| repeat' (first | walk1 | (dsimp only; walk1)))
local macro_rules | `(tactic| walk_at "execs cons Assign cons") => `(tactic| refine wpAny_execs_cons ?_)
local macro_rules | `(tactic| walk_at "call builtin:list.append") => `(tactic| refine stop ?_)
local macro_rules | `(tactic| walk_at "call type:range") => `(tactic| refine stop ?_)
local macro_rules | `(tactic| walk_at "exec For Name Call cons nil") => `(tactic| refine stop ?_)
local macro_rules | `(tactic| walk_at "call ref") => `(tactic| refine stop ?_)

noncomputable def mailAt (x : Str) (i : Nat) : Bool := (!(occurrences (Str.ofString "<>") (Txt.item x (1 + (i : Int))) 0 (Str.ofString "<>").length 1).isEmpty) && checkB (Txt.slice x (some 1) (some (1 + (i : Int))))
noncomputable def mailB (x : Str) : List Nat := ((List.range (x.length - 1)).filter (mailAt x)).map (1 + ·)
theorem mail_no {x : Str} {l : List (Nat × Tok)} {i : Nat} (h : l.map (·.1) = ((List.range i).filter (mailAt x)).map (1 + ·)) (hm : mailAt x i = false) : l.map (·.1) = ((List.range (i + 1)).filter (mailAt x)).map (1 + ·) := by
  rw [List.range_succ, List.filter_append, List.map_append, h]; simp [hm]
theorem mail_yes {x : Str} {l : List (Nat × Tok)} {i : Nat} (t : Tok) (h : l.map (·.1) = ((List.range i).filter (mailAt x)).map (1 + ·)) (hm : mailAt x i = true) : (l ++ [(1 + i, t)]).map (·.1) = ((List.range (i + 1)).filter (mailAt x)).map (1 + ·) := by
  rw [List.range_succ, List.filter_append, List.map_append, List.map_append, h]; simp [hm]

set_option maxHeartbeats 8000000 in
theorem mail_spec : ∀ {w : World} {mean : ExcName → Option Value} {mg mb : Str → Option Value} (x : Str) (t : Tok) (s₀ : Shared)
   (KX : (hd.heap_1 w.params).In s₀.heap) (T : Tp mean mg mb s₀.heap) (hx : x.length ≤ 1000) (hsx : ∀ i : Nat, (stripB (Txt.slice x (some 1) (some (1 + (i : Int))))).length ≤ 2000),
   Spec w 4 108 [.str x t] s₀ (PostN s₀ (mailB x)) := by
  intro w mean mg mb x t s₀ KX T hx hsx
  refine' spec_of (binds := [(Str.ofString "text", .str x t)]) KX T ?ho ?hcd ?hb ?hl ?c1 ?c2 ?c3 ?c4 ?_
  case ho => k_is
  case hcd => k_is
  case hb => rfl
  case hl => exact locs rfl
  case c1 => exact rfl
  case c2 => exact rfl
  case c3 => exact rfl
  case c4 => decide
  intro dp un fr gd L h₁ tk hdp hun F N
  k_steps
  rename_i S _ _ h2 F2 N2
  unfold Stop
  refine for_road (h₀ := s₀.heap) (s₀ := s₀) ?_
  k_steps
  unfold Stop
  refine' range_2 (LaN [(Str.ofString "text", .str x t), (Str.ofString "cuts", .ref S)] S (fun j => ((List.range j).filter (mailAt x)).map (1 + ·))) ?hh ?ha ?ha' ?hb ?hb' ?F ?N ?C ?z ?_ ?_
  case hh => rfl
  case ha => decide
  case ha' => decide
  case hb => omega
  case hb' => omega
  case F => assumption
  case N => assumption
  case C => exact (Cal.refl s₀).heap _ _
  case z => exact ⟨[], 0, ⟨rfl, rfl, trivial⟩, rfl, Nat.le_refl _, rfl⟩
  · rintro I hI i v m1 news1 s1 own hi ⟨t1, rfl⟩ C1 hadr ⟨l, n, hag, hnews, hlen, hfold⟩ hown F1 N1
    subst hnews
    have F1' := fr_over F1 hag
    clear F1
    have hlt : i + 1 < x.length := by omega
    k_steps
    · have hocc : (occurrences (Str.ofString "<>") (Txt.item x (1 + (i : Int))) 0 (Str.ofString "<>").length 1).isEmpty = true := by assumption
      refine ⟨⟨C1.os, C1.size, C1.gens, C1.bare⟩, trivial, _, [(S, listOf (natVals l).toArray n)], by assumption, by assumption, hadr, l, n, ⟨rfl, rfl, trivial⟩, rfl, Nat.le_succ_of_le hlen, mail_no hfold ?_⟩
      unfold mailAt; rw [hocc]; rfl
    · have hocc : (occurrences (Str.ofString "<>") (Txt.item x (1 + (i : Int))) 0 (Str.ofString "<>").length 1).isEmpty = false := by assumption
      have hsl : (Txt.slice x (some 1) (some (1 + (i : Int)))).length ≤ x.length := by assumption
      unfold Stop
      refine' use_in KX T (fun s a b => check_spec _ _ s a b (Nat.le_trans hsl hx) (hsx i)) ?F9 ?N9 ?d9 ?u9 ?_
      case F9 => assumption
      case N9 => assumption
      case d9 => exact dp_lt (j := 4) hdp rfl
      case u9 => exact dp_lt (j := 27) hun rfl
      rintro v s2 C2 hk2 F2' N2' rfl
      have CC : Cal s₀ s2 := Cal.trans C1 ⟨C2.os, C2.size, C2.gens, C2.bare⟩
      cases hck : checkB (Txt.slice x (some 1) (some (1 + (i : Int))))
      · k_steps
        refine ⟨⟨CC.os, CC.size, CC.gens, CC.bare⟩, trivial, _, [(S, listOf (natVals l).toArray n)], by assumption, by assumption, hadr, l, n, ⟨rfl, rfl, trivial⟩, rfl, Nat.le_succ_of_le hlen, mail_no hfold ?_⟩
        unfold mailAt; rw [hck]; exact Bool.and_false _
      · k_steps
        unfold Stop
        refine append_K (its := (natVals l).toArray) (n := n) (by assumption) (by assumption) (Upd.head (fun p hp e => hI (S, listOf #[] 0) List.mem_cons_self (by rw [← e]; exact (List.mem_singleton.mp (hown p hp)).symm ▸ rfl))) ?_ ?_
        · intro h6 F6 N6
          have e : (natVals l).toArray.push (.int (1 + ((i : Nat) : Int)) t1) = (natVals (l ++ [(1 + i, t1)])).toArray := by simp [natVals]
          rw [e] at N6
          k_steps
          refine ⟨⟨CC.os, CC.size, CC.gens, CC.bare⟩, trivial, _, [(S, listOf (natVals (l ++ [(1 + i, t1)])).toArray (n + 1))], by assumption, by assumption, rfl, l ++ [(1 + i, t1)], n + 1, ⟨rfl, rfl, trivial⟩, rfl, by rw [List.length_append, List.length_singleton]; omega, mail_yes t1 hfold ?_⟩
          unfold mailAt; rw [hck, hocc]; rfl
        · rw [sizeLine_eq]
          simp only [natVals, List.size_toArray, List.length_map]
          omega
  · rintro s1 m1 news1 C1 hadr ⟨l, n, hag, hnews, hlen, hfold⟩ F1 N1
    subst hnews
    have F1' := fr_over F1 hag
    clear F1
    k_steps
    have hS := N1 _ List.mem_cons_self
    refine done_of (by assumption) ⟨C1.os, C1.size, C1.gens, C1.bare⟩ ⟨S, l, n, rfl, hS.1, hS.2.2, ?_⟩
    rw [hfold]
    unfold mailB
    rw [show ((x.length : Int) - 1).toNat = x.length - 1 from by omega]
end Mine
end
end partL2
/-! part E2 -/
section partE2
open PySem PySem.W PyProof.Rows PySem.Calls Builtin Builtin.Str
set_option Elab.async false
set_option linter.all false
noncomputable section
namespace Mine
local macro_rules | `(tactic| omega) => `(tactic| lia)
theorem parts_len (x : Str) (cuts : List Nat) (w : Nat) : (partsBetween x cuts w).length = cuts.length + 1 := by
  unfold partsBetween
  simp
theorem split_le (x y : Str) : (Txt.split x y).length ≤ x.length + 2 := by
  unfold Txt.split
  split
  · simp
  · split
    · simp
    · rw [parts_len]
      have := StrLaws.occ_length_le x y 0 x.length (x.length + 1)
      omega
theorem kind_dots (x : Str) : decide (Str.strKind x < Str.strKind dots) = false := by
  have e : Str.strKind dots = 1 := by decide +kernel
  rw [e]
  have : 1 ≤ Str.strKind x := by unfold Str.strKind; split; decide; split <;> decide
  exact decide_eq_false (by omega)
theorem split_eq {x : Str} (h : (occurrences x dots 0 x.length 1).isEmpty = false) : Txt.split x dots = partsBetween x (occurrences x dots 0 x.length (x.length + 1)) 3 ∧ 1 ≤ (occurrences x dots 0 x.length (x.length + 1)).length := by
  rcases StrLaws.occ_head x dots 1 (Nat.le_refl _) with ⟨h0, _⟩ | ⟨i, r, h0, ha, _⟩
  · rw [h0] at h; cases h
  · have hlen : 3 ≤ x.length := by have := ha.1; have e : dots.length = 3 := by decide
                                   omega
    rcases StrLaws.occ_head x dots (x.length + 1) (by omega) with ⟨h1, hn⟩ | ⟨j, r', h1, _, _⟩
    · exact absurd ha (hn i)
    · have e : dots.length = 3 := by decide
      refine ⟨?_, by rw [h1]; simp⟩
      unfold Txt.split
      rw [kind_dots, e, decide_eq_false (show ¬ x.length < 3 by omega), if_neg (by decide), if_neg (by rw [h1]; simp)]
theorem split_ge {x : Str} (h : (occurrences x dots 0 x.length 1).isEmpty = false) : 2 ≤ (Txt.split x dots).length := by
  rw [(split_eq h).1, parts_len]
  have := (split_eq h).2
  omega
/-- the contract of _ellipsis_match for every short text -/
theorem ell_short : ∀ {w : World} {mean : ExcName → Option Value} {mg mb : Str → Option Value} (want got : Str) (t1 t2 : Tok) (s₀ : Shared)
   (KX : (hd.heap_1 w.params).In s₀.heap) (T : Tp mean mg mb s₀.heap) (hw : want.length ≤ 1000000) (hg : got.length ≤ 1000000),
   Spec w 1 21 [.str want t1, .str got t2] s₀ (fun v _ => v = .bool (ellB want got)) := by
  intro w mean mg mb want got t1 t2 s₀ KX T hw hg
  have := split_le want dots
  exact ell_spec want got t1 t2 s₀ KX T (by rw [sizeLine_eq]; omega) (by rw [sizeLine_eq]; omega) split_ge (by rw [sizeLine_eq]; omega)
end Mine
end
end partE2
/-! part Q1 -/
section partQ1
open PySem PySem.W PyProof.Rows PySem.Calls Builtin Builtin.Str
set_option Elab.async false
set_option linter.all false
noncomputable section
namespace Mine
theorem qs_can : ∀ ns : List Str, (∀ x ∈ ns, PyData.strOk x = true) → PyData.canLayAll0 (ns.map PyData.str) = true
  | [], _ => rfl
  | x :: r, h => by simp [PyData.canLayAll0, PyData.canLay0, qs_can r fun y hy => h y (List.mem_cons_of_mem _ hy), h x List.mem_cons_self]
theorem qs_depth : ∀ ns : List Str, PyData.depthAll (ns.map PyData.str) = 0
  | [] => rfl
  | _ :: r => by simp [PyData.depthAll, PyData.depth, qs_depth r]
theorem qs_shaped (ns : List Str) (h : ∀ x ∈ ns, PyData.strOk x = true) : SeqAt.shaped (.list (ns.map PyData.str)) = true := by
  simp [SeqAt.shaped, PyData.canLay0, PyData.depth, qs_can ns h, qs_depth]
theorem str_carried : ∀ {vs : List Value} {ys : List Str}, StrsAre vs ys → CarriedAll vs (ys.map PyData.str)
  | _, _, .nil => .nil
  | _, _, .cons y t r => .cons (.str y t) (str_carried r)
theorem qs_same : ∀ ns : List Str, PySem.Spec.same (.list (ns.map PyData.str)) (.list []) = decide (ns = [])
  | [] => by simp [PySem.Spec.same, PySem.Spec.sameAll]
  | _ :: _ => by simp [PySem.Spec.same, PySem.Spec.sameAll]
theorem ne_strs {w : World} {A : Around} {E : Value → Shared → Prop} {s : Shared} {a b : Addr} {xs : List Value} {ns : List Str} {Q : Value → Shared → Prop} (ha : s.heap.IsList a xs.toArray) (hb : s.heap.IsList b ([] : List Value).toArray) (hi : StrsAre xs ns) (hok : ∀ x ∈ ns, PyData.strOk x = true) (hu : A.units + 64 < cLine) (h : Q (.bool (!decide (ns = []))) s) :
    wpAny (model PR w) A (compareOp .NotEq (.ref a) (.ref b)) Q E s :=
  ne_dataH_same (reads_newData ha (str_carried hi)) (reads_newData hb .nil) (qs_shaped _ hok) (qs_shaped [] (by simp)) hu (SeqAt.noMix_of_shape (.list .str) rfl _ _ (list_map_has (g := PyData.str) fun _ => rfl) rfl) (by rw [qs_same]; exact h)
end Mine
end
end partQ1
/-! part D1 -/
section partD1
open PySem PySem.W PyProof.Rows PySem.Calls Builtin Builtin.Str
set_option Elab.async false
set_option maxRecDepth 100000
set_option linter.all false
noncomputable section
namespace Mine
local macro_rules | `(tactic| omega) => `(tactic| lia)
theorem fillD1 : PySem.Challenge.rw_wr0027_01.prog = PySem.Challenge.rw_wr0027_01.prog ∧ hd.heap_1 = hd.heap_1 := by
  k_fill
  exact ⟨rfl, rfl⟩
local macro_rules | `(tactic| k_steps) => `(tactic| repeat' (first | walk1 | (dsimp only; walk1)))
local macro_rules | `(tactic| walk_at "execs cons Assign cons") => `(tactic| refine wpAny_execs_cons ?_)
local macro_rules | `(tactic| walk_at "call builtin:list.append") => `(tactic| refine stop ?_)
local macro_rules | `(tactic| walk_at "call type:range") => `(tactic| refine stop ?_)
local macro_rules | `(tactic| walk_at "exec For Name Call cons nil") => `(tactic| refine stop ?_)
local macro_rules | `(tactic| walk_at "exec For Name List cons nil") => `(tactic| refine stop ?_)
local macro_rules | `(tactic| walk_at "pyIter ref") => `(tactic| refine stop ?_)
local macro_rules | `(tactic| walk_at "binaryOp Add str str") => `(tactic| ((refine PyProof.Rows.add_str ?_ (by simp only [Str.length_append]; rw [sizeLine_eq]; omega)); intro _ _))
local macro_rules | `(tactic| walk_at "binaryOp Mult str int") => `(tactic| refine stop ?_)
local macro_rules | `(tactic| walk_at "compareOp NotEq ref ref") => `(tactic| refine stop ?_)
local macro_rules | `(tactic| walk_at "call ref") => `(tactic| refine stop ?_)

noncomputable def dotsWant (a b : Str) (i : Nat) (nm : Str) : Str := Str.ofString "..." ++ a ++ Str.ofString "...&" ++ Txt.mul (Str.ofString "amp;") (i : Int) ++ nm ++ Str.ofString "..." ++ b ++ Str.ofString "..."
noncomputable def foundB (a b x : Str) (i : Nat) : List Str := ([Str.ofString "lt;", Str.ofString "gt;"] : List Str).filter (fun nm => ellB (dotsWant a b i nm) x)
noncomputable def dotsFrom (a b x : Str) : Nat → Nat → Str
  | 0, _ => Str.ofString ""
  | k + 1, i => if foundB a b x i = [] then dotsFrom a b x k (i + 1) else Txt.join (Str.ofString "") (foundB a b x i)
noncomputable def dotsB (a b x : Str) : Str := dotsFrom a b x 4 0
theorem found_ok (a b x : Str) (i : Nat) : ∀ y ∈ foundB a b x i, PyData.strOk y = true := by
  intro y hy
  have : y ∈ ([Str.ofString "lt;", Str.ofString "gt;"] : List Str) := (List.mem_filter.mp hy).1
  rcases List.mem_cons.mp this with h | h
  · rw [h]; decide +kernel
  · rw [List.mem_singleton.mp h]; decide +kernel
theorem found_len (a b x : Str) (i : Nat) : ((foundB a b x i).map (·.length)).sum + (foundB a b x i).length ≤ 1048576 := by
  unfold foundB
  have e1 : (Str.ofString "lt;").length = 3 := by decide
  have e2 : (Str.ofString "gt;").length = 3 := by decide
  simp only [List.filter_cons, List.filter_nil]
  split <;> split <;> simp [e1, e2]
theorem amp_ok : ∀ i : Nat, i < 4 → MulOk (Str.ofString "amp;") (i : Int) ∧ (Txt.mul (Str.ofString "amp;") (i : Int)).length ≤ 12 := by
  intro i hi
  match i, hi with
  | 0, _ => exact ⟨by unfold MulOk; decide +kernel, by decide +kernel⟩
  | 1, _ => exact ⟨by unfold MulOk; decide +kernel, by decide +kernel⟩
  | 2, _ => exact ⟨by unfold MulOk; decide +kernel, by decide +kernel⟩
  | 3, _ => exact ⟨by unfold MulOk; decide +kernel, by decide +kernel⟩
inductive DotInv (a b x : Str) (ta tb t : Tok) (j : Nat) (m : Str → Option Value) (news : List (Addr × Obj)) : Prop
  | mk (hag : Agree m [(Str.ofString "ahead", .str a ta), (Str.ofString "behind", .str b tb), (Str.ofString "text", .str x t)]) (e : news = []) (h : dotsFrom a b x (4 - j) j = dotsB a b x)
inductive DotIn (a b x : Str) (ta tb t t1 : Tok) (i : Nat) (S : Addr) (own : List (Addr × Obj)) (j : Nat) (m : Str → Option Value) (news : List (Addr × Obj)) : Prop
  | mk (l : List (Str × Tok)) (n : Nat) (hag : Agree m [(Str.ofString "ahead", .str a ta), (Str.ofString "behind", .str b tb), (Str.ofString "text", .str x t), (Str.ofString "inner", .int (i : Nat) t1), (Str.ofString "found", .ref S)]) (e : news.tail = (S, listOf (strValues l).toArray n) :: ([] ++ own))
      (h : l.map (·.1) = (([Str.ofString "lt;", Str.ofString "gt;"] : List Str).take j).filter (fun nm => ellB (dotsWant a b i nm) x))
set_option maxHeartbeats 8000000 in
theorem dots_spec : ∀ {w : World} {mean : ExcName → Option Value} {mg mb : Str → Option Value} (a b x : Str) (ta tb t : Tok) (s₀ : Shared)
   (KX : (hd.heap_1 w.params).In s₀.heap) (T : Tp mean mg mb s₀.heap) (hx : x.length ≤ 1000) (ha : a.length ≤ 100) (hb : b.length ≤ 100),
   Spec w 12 115 [.str a ta, .str b tb, .str x t] s₀ (fun v s' => ∃ t', v = .str (dotsB a b x) t') := by
  intro w mean mg mb a b x ta tb t s₀ KX T hx ha hb
  refine' spec_of (binds := [(Str.ofString "ahead", .str a ta), (Str.ofString "behind", .str b tb), (Str.ofString "text", .str x t)]) KX T ?ho ?hcd ?hb ?hl ?c1 ?c2 ?c3 ?c4 ?_
  case ho => k_is
  case hcd => k_is
  case hb => rfl
  case hl => exact locs rfl
  case c1 => exact rfl
  case c2 => exact rfl
  case c3 => exact rfl
  case c4 => decide
  intro dp un fr gd L h₁ tk hdp hun F N
  k_steps
  unfold Stop
  have q1 : (Str.ofString "...").length = 3 := by decide
  have q2 : (Str.ofString "...&").length = 4 := by decide
  refine for_road (h₀ := s₀.heap) (s₀ := s₀) ?_
  k_steps
  unfold Stop
  refine' range_1 (DotInv a b x ta tb t) ?hh ?hb ?hb' ?F ?N ?C ?z ?_ ?_
  case hh => rfl
  case hb => decide
  case hb' => decide
  case F => assumption
  case N => assumption
  case C => exact (Cal.refl s₀).heap _ _
  case z => exact ⟨⟨rfl, rfl, rfl, trivial⟩, rfl, rfl⟩
  · rintro I hI i v m1 news1 s1 own hi ⟨t1, rfl⟩ C1 hadr ⟨hag, hnews, hdf⟩ hown F1 N1
    subst hnews
    have F1' := fr_over F1 hag
    clear F1
    k_steps
    rename_i S _ l1 h3 F3 N3
    unfold Stop
    refine for_road (h₀ := s₀.heap) (s₀ := s₀) ?_
    k_steps
    unfold Stop
    rename_i V h4 F4 N4 l2
    refine' loop_list (DotIn a b x ta tb t t1 i S own) rfl (led_list (vs := [_, _]) N4 List.mem_cons_self) ?hlL F4 N4 (C1.heap _ _) ?z ?_ ?_
    case hlL => exact fun e => (N4 _ List.mem_cons_self).2.1 e
    case z => exact ⟨[], 0, ⟨rfl, rfl, rfl, rfl, rfl, trivial⟩, rfl, rfl⟩
    · rintro I2 hI2 j v m2 news2 s2 own2 hj hv C2 hadr2 ⟨l, n, hag2, hnews2, hl⟩ hown2 F5 N5
      have hVS : V ≠ S := Nat.ne_of_gt l2.1
      have hall : ∀ p ∈ ([] ++ own) ++ own2, p.1 ≠ S := by
        intro p hp
        rcases List.mem_append.mp hp with hp | hp
        · exact Nat.ne_of_lt (l1 p hp)
        · rcases List.mem_cons.mp (hown2 p hp) with e | e
          · rw [e, ← hI2]
            exact Nat.ne_of_gt (News.lt N4 (S, listOf #[] 0) (List.mem_cons_of_mem _ List.mem_cons_self))
          · rw [List.mem_singleton.mp e]; exact hVS
      obtain ⟨nm, tn, rfl, hnm, hnl⟩ : ∃ nm tn, v = .str nm tn ∧ ([Str.ofString "lt;", Str.ofString "gt;"] : List Str)[j]? = some nm ∧ nm.length = 3 := by
        match j, hj with
        | 0, _ => exact ⟨_, _, (Option.some.inj hv).symm, rfl, by decide⟩
        | 1, _ => exact ⟨_, _, (Option.some.inj hv).symm, rfl, by decide⟩
      have F5' := fr_over F5 hag2
      clear F5
      obtain ⟨o2, rfl⟩ : ∃ o2, news2 = (V, o2) :: (S, listOf (strValues l).toArray n) :: ([] ++ own) := by
        cases news2 with
        | nil => cases hadr2
        | cons p r =>
          have h1 : p.1 = V := (List.cons.inj hadr2).1
          have h2 : r = _ := hnews2
          exact ⟨p.2, by rw [h2, ← h1]⟩
      have hamp := amp_ok i hi
      have hamp2 := hamp.2
      k_steps
      unfold Stop
      refine SB.mul hamp.1 ?_
      intro t9 k9
      k_steps
      unfold Stop
      refine' use_in KX T (fun s u v => ell_short (dotsWant a b i nm) x _ t s u v ?w1 ?w2) ?F9 ?N9 ?d9 ?u9 ?_
      case w1 => unfold dotsWant; simp only [Str.length_append]; omega
      case w2 => omega
      case F9 => assumption
      case N9 => assumption
      case d9 => exact dp_lt (j := 2) hdp rfl
      case u9 => exact dp_lt (j := 11) hun rfl
      rintro v s3 C3 hk3 F7 N7 rfl
      have CC : Cal s₀ s3 := Cal.trans C2 ⟨C3.os, C3.size, C3.gens, C3.bare⟩
      have htk : ([Str.ofString "lt;", Str.ofString "gt;"] : List Str).take (j + 1) = ([Str.ofString "lt;", Str.ofString "gt;"] : List Str).take j ++ [nm] := by rw [List.take_add_one, hnm]; rfl
      cases hel : ellB (dotsWant a b i nm) x
      · k_steps
        refine ⟨⟨CC.os, CC.size, CC.gens, CC.bare⟩, trivial, _, (V, o2) :: (S, listOf (strValues l).toArray n) :: ([] ++ own), by assumption, by assumption, hadr2, l, n, ⟨rfl, rfl, rfl, rfl, rfl, trivial⟩, rfl, ?_⟩
        rw [htk, List.filter_append, hl]; simp [hel]
      · k_steps
        unfold Stop
        refine append_K (its := (strValues l).toArray) (n := n) (by assumption) (by assumption) (Upd.tail hVS (Upd.head hall)) ?_ ?_
        · intro h6 F6 N6
          have e : (strValues l).toArray.push (.str nm tn) = (strValues (l ++ [(nm, tn)])).toArray := by simp [strValues]
          rw [e] at N6
          k_steps
          refine ⟨⟨CC.os, CC.size, CC.gens, CC.bare⟩, trivial, _, (V, o2) :: (S, listOf (strValues (l ++ [(nm, tn)])).toArray (n + 1)) :: ([] ++ own), by assumption, by assumption, hadr2, l ++ [(nm, tn)], n + 1, ⟨rfl, rfl, rfl, rfl, rfl, trivial⟩, rfl, ?_⟩
          rw [htk, List.filter_append, List.map_append, hl]; simp [hel]
        · have := congrArg List.length hl
          rw [List.length_map] at this
          have h2 := List.length_filter_le (fun nm => ellB (dotsWant a b i nm) x) (([Str.ofString "lt;", Str.ofString "gt;"] : List Str).take j)
          rw [List.length_take] at h2
          rw [sizeLine_eq]
          simp only [strValues, List.size_toArray, List.length_map]
          have h3 : ([Str.ofString "lt;", Str.ofString "gt;"] : List Str).length = 2 := rfl
          omega
    · rintro s2 m2 news2 C2 hadr2 ⟨l, n, hag2, hnews2, hl⟩ F5 N5
      have F5' := fr_over F5 hag2
      clear F5
      obtain ⟨o2, rfl⟩ : ∃ o2, news2 = (V, o2) :: (S, listOf (strValues l).toArray n) :: ([] ++ own) := by
        cases news2 with
        | nil => cases hadr2
        | cons p r =>
          have h1 : p.1 = V := (List.cons.inj hadr2).1
          have h2 : r = _ := hnews2
          exact ⟨p.2, by rw [h2, ← h1]⟩
      have hlf : l.map (·.1) = foundB a b x i := hl
      k_steps
      rename_i U h6 F6 N6 l3
      unfold Stop
      refine' ne_strs (led_list (vs := strValues l) N6 ?m1) (led_list (vs := []) N6 ?m2) (strsAre_of_values l) (by rw [hlf]; exact found_ok a b x i) ?u1 ?_
      case m1 => exact List.mem_cons_of_mem _ (List.mem_cons_of_mem _ List.mem_cons_self)
      case m2 => exact List.mem_cons_self
      case u1 => exact dp_lt (j := 67) hun rfl
      rw [hlf]
      have CC2 : Cal s₀ s2 := C2
      cases hfd : decide (foundB a b x i = [])
      · have hne : foundB a b x i ≠ [] := of_decide_eq_false hfd
        k_steps
        refine join_listW (ys := foundB a b x i) (led_list (vs := strValues l) (by assumption) (List.mem_cons_of_mem _ (List.mem_cons_of_mem _ List.mem_cons_self))) (by rw [← hlf]; exact strsAre_of_values l) (by decide) (found_len a b x i) ?_
        intro t' k
        change Done s₀ (fun v _ => ∃ t', v = .str (dotsB a b x) t') (.ret (.str (Txt.join (Str.ofString "") (foundB a b x i)) t')) _
        refine done_of (by assumption) ⟨CC2.os, CC2.size, CC2.gens, CC2.bare⟩ ⟨t', ?_⟩
        rw [← hdf]
        obtain ⟨k', hk'⟩ : ∃ k', 4 - i = k' + 1 := ⟨4 - i - 1, by have : i < 4 := hi; omega⟩
        rw [hk']
        show _ = Value.str (if foundB a b x i = [] then _ else _) t'
        rw [if_neg hne]
      · have hne : foundB a b x i = [] := of_decide_eq_true hfd
        k_steps
        refine ⟨⟨CC2.os, CC2.size, CC2.gens, CC2.bare⟩, trivial, _, [], F6, fun p hp => N6 p (List.mem_cons_of_mem _ (List.mem_cons_of_mem _ (List.mem_cons_of_mem _ hp))), rfl, ⟨rfl, rfl, rfl, trivial⟩, rfl, ?_⟩
        rw [← hdf]
        obtain ⟨k', hk'⟩ : ∃ k', 4 - i = k' + 1 := ⟨4 - i - 1, by have : i < 4 := hi; omega⟩
        rw [hk', show 4 - (i + 1) = k' from by omega]
        show _ = if foundB a b x i = [] then _ else _
        rw [if_pos hne]
  · rintro s1 m1 news1 C1 hadr ⟨hag, hnews, hdf⟩ F1 N1
    subst hnews
    have F1' := fr_over F1 hag
    clear F1
    k_steps
    change Done s₀ (fun v _ => ∃ t', v = .str (dotsB a b x) t') (.ret (.str (Str.ofString "") s1.toks)) _
    refine done_of (by assumption) ⟨C1.os, C1.size, C1.gens, C1.bare⟩ ⟨s1.toks, ?_⟩
    rw [← hdf]; rfl
end Mine
end
end partD1
/-! part A1 -/
section partA1
open PySem PySem.W PyProof.Rows PySem.Calls Builtin Builtin.Str
set_option Elab.async false
set_option maxRecDepth 100000
set_option linter.all false
noncomputable section
namespace Mine
local macro_rules | `(tactic| omega) => `(tactic| lia)
theorem fillA1 : PySem.Challenge.rw_wr0027_01.prog = PySem.Challenge.rw_wr0027_01.prog ∧ hd.heap_1 = hd.heap_1 := by
  k_fill
  exact ⟨rfl, rfl⟩
/-- the law's own statements -/
noncomputable def lawOf (d : Stmt) : List Stmt × Scope := match d with | .FunctionDef _ _ b _ _ _ sc _ _ _ => (b, sc) | _ => ([], default)
noncomputable def lawD : List Stmt × Scope := lawOf ((PySem.Challenge.pw_wr0027_01.main.body.getLast?).getD (.Pass default))
abbrev lawEnv (L : Addr) : Env := envOfC (Str.ofString "law") lawD.2 L 120 (.ref 119)
abbrev LawAt (dp un : Nat) (fr : Option (List Env)) (gd : Option (List Code)) (L : Addr) : Around := (At dp un fr gd).deeper (lawEnv L)
local macro_rules | `(tactic| k_steps) => `(tactic| repeat' (first | walk1 | (dsimp only; walk1)))
local macro_rules | `(tactic| walk_at "execs cons Assign cons") => `(tactic| refine wpAny_execs_cons ?_)
local macro_rules | `(tactic| walk_at "exec For Name Call cons nil") => `(tactic| refine stop ?_)
local macro_rules | `(tactic| walk_at "call type:list") => `(tactic| refine stop ?_)
local macro_rules | `(tactic| walk_at "call builtin:sum") => `(tactic| refine stop ?_)
local macro_rules | `(tactic| walk_at "call type:range") => `(tactic| ((with_reducible show wpAny _ _ (call _ _) (fun _ _ => wpAny _ _ _ (fun _ _ => LoopR _ _ _ _ _ _ _ _ _ _) _ _) _ _); refine stop ?_))
local macro_rules | `(tactic| walk_at "call builtin:list.append") => `(tactic| refine stop ?_)
local macro_rules | `(tactic| walk_at "call builtin:list.pop") => `(tactic| refine stop ?_)
local macro_rules | `(tactic| walk_at "call builtin:len") => `(tactic| refine stop ?_)

theorem cutX {w : World} {A : Around} {s : Shared} {env : Env} {R : Flow → Shared → Prop} {E : Value → Shared → Prop} {st : Stmt} (J : Shared → Prop)
    (h : wpAny (model PR w) A (exec st env) (fun f s' => match f with | .next => J s' | _ => False) (fun _ _ => False) s)
    (k : ∀ s', J s' → R .next s') : wpAny (model PR w) A (exec st env) R E s :=
  wpAny_mono h (fun f s' hf => by cases f <;> first | exact k _ hf | exact hf.elim) fun _ _ e => e.elim
theorem ints_values : ∀ {vs : List Value} {ns : List Int}, IntsAre vs ns → ∃ l, vs = intVals l ∧ l.map (·.1) = ns
  | _, _, .nil => ⟨[], rfl, rfl⟩
  | _, _, .cons k u h => by
    obtain ⟨l, rfl, hl⟩ := ints_values h
    exact ⟨(k, u) :: l, rfl, by rw [List.map_cons, hl]⟩
theorem ints_of (l : List (Int × Tok)) : IntsAre (intVals l) (l.map (·.1)) := by
  induction l with
  | nil => exact .nil
  | cons p r ih => exact .cons p.1 p.2 ih
theorem news_plain {h₀ h : Heap} {L D : Addr} {m : Str → Option Value} {items : Array Value} {news : List (Addr × Obj)} (F : Fr h₀ L h m) (N : News h₀ L h news) (h0 : h₀.get? D = none) (x : NewPlain h news D items) : ∃ n, News h₀ L h ((D, listOf items n) :: news) := by
  obtain ⟨⟨n, e⟩, _⟩ := id x
  refine ⟨n, fun p hp => ?_⟩
  rcases List.mem_cons.mp hp with rfl | hp
  · exact ⟨e, x.ne_locals F, h0⟩
  · exact N p hp
theorem kl_cut_at : ∀ (l : List Value) (c : Nat) (hc : c < l.length), kl_cut l c = some (l.take c, l[c], l.drop (c + 1))
  | x :: r, 0, _ => rfl
  | x :: r, c + 1, hc => by
    unfold kl_cut
    rw [kl_cut_at r c (by simpa using hc)]
    rfl
theorem fits_small {c : Nat} (h : c < 1000) : Builtin.List.listFitsIndex (c : Int) = true := by
  unfold Builtin.List.listFitsIndex
  simp only [Bool.and_eq_true, decide_eq_true_eq]
  omega
theorem seqIndex_nat {c n : Nat} (h : c < n) : seqIndex? (c : Int) n = some c := by
  unfold seqIndex?
  have : ¬ ((c : Int) < 0) := by omega
  simp [this]
  omega
structure FigInv (j : Nat) (fl ll : List (Int × Tok)) : Prop where
  nf : fl.length = j
  nl : ll.length = 16 - j
  nd : ((fl ++ ll).map (·.1)).Nodup
  bd : ∀ x ∈ (fl ++ ll).map (·.1), 0 ≤ x ∧ x < 16

theorem FigInv.take {j k : Nat} {fl ll : List (Int × Tok)} (h : FigInv j fl ll) (hj : j < 16) (hk : k < ll.length) : FigInv (j + 1) (fl ++ [ll[k]]) (ll.take k ++ ll.drop (k + 1)) := by
  have e : ll = ll.take k ++ ll[k] :: ll.drop (k + 1) := by
    conv => lhs; rw [← List.take_append_drop k ll, List.drop_eq_getElem_cons hk]
  have hp : ((fl ++ [ll[k]]) ++ (ll.take k ++ ll.drop (k + 1))).Perm (fl ++ ll) := by
    conv => rhs; rw [e]
    rw [List.append_assoc]
    refine List.Perm.append_left _ ?_
    rw [List.singleton_append]
    exact List.perm_middle.symm
  refine ⟨?_, ?_, ?_, ?_⟩
  · rw [List.length_append, h.nf]; rfl
  · have := h.nl
    rw [List.length_append, List.length_take, List.length_drop]; omega
  · exact (hp.map _).nodup_iff.mpr h.nd
  · intro x hx
    exact h.bd x ((hp.map _).mem_iff.mp hx)

inductive FigJ (s₀ : Shared) (L R FA : Addr) (o2 : Obj) (s' : Shared) : Prop
  | mk (c : Cal s₀ s') (m1 : Str → Option Value) (fl : List (Int × Tok)) (nF : Nat) (F : Fr s₀.heap L s'.heap m1) (a : Agree m1 [(Str.ofString "script", .ref R)]) (N : News s₀.heap L s'.heap [(FA, listOf (intVals fl).toArray nF), (L + 1, o2)]) (h5 : fl.length = 5) (nd : (fl.map (·.1)).Nodup) (hb : ∀ x ∈ fl.map (·.1), 0 ≤ x ∧ x < 16)
inductive FigLa (R D FA L : Addr) (o2 : Obj) (j : Nat) (m : Str → Option Value) (news : List (Addr × Obj)) : Prop
  | mk (fl ll : List (Int × Tok)) (nF nL : Nat) (a : Agree m [(Str.ofString "script", .ref R), (Str.ofString "left", .ref D)]) (e : news = [(D, listOf (intVals ll).toArray nL), (FA, listOf (intVals fl).toArray nF), (L + 1, o2)]) (h : FigInv j fl ll)
set_option maxHeartbeats 8000000 in
theorem seg1 {w : World} {mean : ExcName → Option Value} {mg mb : Str → Option Value} {s₀ : Shared} {dp un : Nat} {fr : Option (List Env)} {gd : Option (List Code)} {Q : Flow → Shared → Prop} {E : Value → Shared → Prop}
   (KX : (hd.heap_1 w.params).In s₀.heap) (T : Tp mean mg mb s₀.heap) (hdp : dp + 16 < recursionLimit) (hun : un + 8 * 16 < cLine)
   {L R : Addr} {vs : List Value} {ns : List Int} {s : Shared} {m : Str → Option Value} {o1 : Obj} (hl : s₀.heap.IsList R vs.toArray) (hi : IntsAre vs ns) (hlen : ns.length ≤ 63)
   (F : Fr s₀.heap L s.heap m) (hm : Agree m [(Str.ofString "script", .ref R)]) (N : News s₀.heap L s.heap [(L + 1, o1)]) (ho1 : o1.data = .cell none) (C : Cal s₀ s)
   (k : ∀ s1 m1 FA fl nF o2, Cal s₀ s1 → Fr s₀.heap L s1.heap m1 → Agree m1 [(Str.ofString "script", .ref R)] → News s₀.heap L s1.heap [(FA, listOf (intVals fl).toArray nF), (L + 1, o2)] → o2.data = .cell (some (.ref FA)) → L + 1 < FA →
      fl.length = 5 → (fl.map (·.1)).Nodup → (∀ x ∈ fl.map (·.1), 0 ≤ x ∧ x < 16) →
      wpAny (model PR w) (LawAt dp un fr gd L) (execs (lawD.1.drop 3) (lawEnv L)) Q E s1) :
   wpAny (model PR w) (LawAt dp un fr gd L) (execs lawD.1 (lawEnv L)) Q E s := by
  have F' := fr_over F hm
  clear F
  with_unfolding_all show wpAny (model PR w) (LawAt dp un fr gd L) (execs (_ :: _) (lawEnv L)) Q E s
  k_steps
  unfold Stop
  rename_i FA hA lF hB o2 F2 N2 d2 h3 tk3 t3 u3 v3 R3 F3 N3 hk3
  refine' list_rangeD (n := 16) rfl F3 N3 R3 ?sm ?hn ?hl ?_
  case sm => decide
  case hn => decide
  case hl => decide
  intro h4 tk4 ys F4 N4 hk4 h04 _ x4 hc4
  obtain ⟨n4, N5⟩ := news_plain F4 N4 h04 x4
  have hD := x4.2
  have hne : ∀ p ∈ [(FA, listOf #[] 0), (L + 1, o2)], p.1 ≠ _ := x4.2
  generalize Array.size _ = D at N5 hne ⊢
  clear x4 N4 hD hk4 h04 R3 F3 N3
  obtain ⟨ll, rfl, hll⟩ := ints_values (show IntsAre ys (rangeInts 0 1 16) from by
    have := CarriedAll.intsOf (f := id) (as := rangeInts 0 1 16) (by simpa using hc4)
    simpa using this)
  clear hc4
  k_steps
  unfold Stop
  refine cutX (FigJ s₀ L R FA o2) ?_ ?_
  · refine for_road (h₀ := s₀.heap) (s₀ := s₀) ?_
    k_steps
    unfold Stop

    refine' range_1 (FigLa R D FA L o2) ?hh ?hb ?hb' ?F ?N ?C ?z ?_ ?_
    case hh => rfl
    case hb => decide
    case hb' => decide
    case F => assumption
    case N => assumption
    case C => exact C.heap _ _
    case z =>
      refine ⟨[], ll, 0, n4, ⟨rfl, rfl, trivial⟩, rfl, ⟨rfl, ?_, ?_, ?_⟩⟩
      · rw [← List.length_map (f := (·.1)), hll]; decide
      · rw [List.nil_append, hll]; decide
      · rw [List.nil_append, hll]; decide
    · rintro I hI i v m1 news1 s1 own hi' ⟨t1, rfl⟩ C1 hadr ⟨fl, ll, nF, nL, hag, hnews, inv⟩ hown F1 N1
      subst hnews
      have F1' := fr_over F1 hag
      clear F1
      have hi5 : i < 5 := hi'
      have hll1 : (intVals ll).length = 16 - i := by have := inv.nl; unfold intVals; rw [List.length_map]; exact this
      have hlz : ((intVals ll).length : Int) ≠ 0 := by omega
      k_steps
      unfold Stop
      refine' LSm.sum_ints (vs := (slicePick vs.toArray (some (i : Int)) none (some 5)).toList) ?F ?N rfl ?hl (hi.pick _ _ _) ?_
      case F => assumption
      case N => assumption
      case hl =>
        rename_i F5 N5
        exact ⟨_, (N5 _ List.mem_cons_self).1, rfl, 0, by simp⟩
      intro h5 tk5 t5 F5 N5
      k_steps
      unfold Stop
      rename_i F6 N6
      refine' len_N (vs := intVals ll) ?N ?mem ?z ?_
      case N => exact N6
      case mem => exact List.mem_cons_of_mem _ (List.mem_cons_of_mem _ List.mem_cons_self)
      case z => rw [sizeLine_eq]; omega
      k_steps
      unfold Stop
      have hc0 : 0 ≤ (([9, 2, 4, 0, 7] : List Int).getD ((i : Nat) : Int).toNat 0 + (pickNums ns (some ((i : Nat) : Int)) none (some 5)).sum).fmod ((intVals ll).length : Int) := Int.fmod_nonneg_of_pos _ (by omega)
      have hc1 : (([9, 2, 4, 0, 7] : List Int).getD ((i : Nat) : Int).toNat 0 + (pickNums ns (some ((i : Nat) : Int)) none (some 5)).sum).fmod ((intVals ll).length : Int) < ((intVals ll).length : Int) := Int.fmod_lt_of_pos _ (by omega)
      generalize (([9, 2, 4, 0, 7] : List Int).getD ((i : Nat) : Int).toNat 0 + (pickNums ns (some ((i : Nat) : Int)) none (some 5)).sum).fmod ((intVals ll).length : Int) = c at hc0 hc1 ⊢
      obtain ⟨c, rfl⟩ := Int.eq_ofNat_of_zero_le hc0
      have hck : c < ll.length := by have := inv.nl; omega
      have hIo : ∀ p ∈ own, p.1 = I := fun p hp => List.mem_singleton.mp (hown p hp)
      have hDI : D ≠ I := hI _ List.mem_cons_self
      have hFI : FA ≠ I := hI (FA, listOf #[] 0) (List.mem_cons_of_mem _ List.mem_cons_self)
      have hFD : FA ≠ D := hne (FA, listOf #[] 0) List.mem_cons_self
      have hLD : L + 1 ≠ D := hne (L + 1, o2) (List.mem_cons_of_mem _ List.mem_cons_self)
      have N7 := news_sub (a := (D, listOf (intVals ll).toArray nL) :: (FA, listOf (intVals fl).toArray nF) :: (L + 1, o2) :: own) N6 (fun p hp => List.mem_cons_of_mem _ (List.mem_cons_of_mem _ hp))
      clear N6
      refine' kl_popAt (its := (intVals ll).toArray) (n := nL) (k := c) (p := (intVals ll).take c) (y := .int ll[c].1 ll[c].2) (q := (intVals ll).drop (c + 1)) ?F N7 ?f ?k ?e (Upd.head ?U) ?z ?_
      case F => exact F6
      case f => exact fits_small (by omega)
      case k => exact seqIndex_nat (by simpa using hc1)
      case e =>
        have := kl_cut_at (intVals ll) c (by omega)
        rw [this]
        simp [intVals]
      case U =>
        intro p hp
        rcases List.mem_cons.mp hp with rfl | hp
        · exact hFD
        rcases List.mem_cons.mp hp with rfl | hp
        · exact hLD
        · rw [hIo p hp]; exact Ne.symm hDI
      case z => rw [sizeLine_eq]; show (intVals ll).length ≤ _; omega
      intro h8 F8 N8
      k_steps
      unfold Stop
      refine append_K (its := (intVals fl).toArray) (n := nF) F8 N8 (Upd.tail (Ne.symm hFD) (Upd.head ?_)) ?_ ?_
      · intro p hp
        rcases List.mem_cons.mp hp with rfl | hp
        · exact Nat.ne_of_lt lF
        · rw [hIo p hp]; exact Ne.symm hFI
      · intro h9 F9 N9
        have e1 : (intVals fl).toArray.push (.int ll[c].1 ll[c].2) = (intVals (fl ++ [ll[c]])).toArray := by simp [intVals]
        have e2 : (intVals ll).take c ++ (intVals ll).drop (c + 1) = intVals (ll.take c ++ ll.drop (c + 1)) := by simp [intVals, List.map_take, List.map_drop]
        rw [e1, e2] at N9
        k_steps
        exact ⟨⟨C1.os, C1.size, C1.gens, C1.bare⟩, trivial, _, [_, _, _], F9, N9, rfl, fl ++ [ll[c]], ll.take c ++ ll.drop (c + 1), _, _, ⟨rfl, rfl, trivial⟩, rfl, inv.take (by omega) hck⟩
      · have := inv.nf
        rw [sizeLine_eq]; simp only [intVals, List.size_toArray, List.length_map]; omega
    · rintro s1 m1 news1 C1 hadr ⟨fl, ll, nF, nL, hag, hnews, inv⟩ F1 N1
      subst hnews
      have nd := inv.nd
      have bd := inv.bd
      rw [List.map_append] at nd bd
      exact ⟨C1, m1, fl, nF, F1, ⟨hag.1, trivial⟩, fun p hp => N1 p (List.mem_cons_of_mem _ hp), inv.nf, (List.nodup_append.mp nd).1, fun x hx => bd x (List.mem_append_left _ hx)⟩
  · rintro s1 ⟨C1, m1, fl, nF, F1, hm1, N1, h5, hnd, hbd⟩
    exact k s1 m1 FA fl nF o2 C1 F1 hm1 N1 d2 (by assumption) h5 hnd hbd
end Mine
end
end partA1
/-! part A2 -/
section partA2
open PySem PySem.W PyProof.Rows PySem.Calls Builtin Builtin.Str
set_option Elab.async false
set_option maxRecDepth 100000
set_option linter.all false
noncomputable section
namespace Mine
local macro_rules | `(tactic| omega) => `(tactic| lia)
theorem fillA2 : PySem.Challenge.rw_wr0027_01.prog = PySem.Challenge.rw_wr0027_01.prog ∧ hd.heap_1 = hd.heap_1 := by
  k_fill
  exact ⟨rfl, rfl⟩
local macro_rules | `(tactic| k_steps) => `(tactic| repeat' (first | walk1 | (dsimp only; walk1)))
local macro_rules | `(tactic| walk_at "execs cons Assign cons") => `(tactic| refine wpAny_execs_cons ?_)
local macro_rules | `(tactic| walk_at "exec For Name Name cons nil") => `(tactic| refine stop ?_)
local macro_rules | `(tactic| walk_at "pyIter ref") => `(tactic| refine stop ?_)
local macro_rules | `(tactic| walk_at "call builtin:sum") => `(tactic| refine stop ?_)
local macro_rules | `(tactic| walk_at "call ref") => `(tactic| refine stop ?_)
noncomputable def numOf (fs : List Int) : Int := fs.foldl (fun a x => a * 16 + x) 0
theorem numOf_snoc (fs : List Int) (x : Int) : numOf (fs ++ [x]) = numOf fs * 16 + x := by unfold numOf; rw [List.foldl_append]; rfl
theorem numOf_bd (fs : List Int) (h : ∀ x ∈ fs, 0 ≤ x ∧ x < 16) : ∀ n, 0 ≤ numOf (fs.take n) ∧ numOf (fs.take n) < 16 ^ n
  | 0 => by rw [List.take_zero]; exact ⟨by decide, by decide⟩
  | n + 1 => by
    obtain ⟨a, b⟩ := numOf_bd fs h n
    rw [List.take_add_one]
    rw [Int.pow_succ]
    cases hx : fs[n]? with
    | none => simp only [Option.toList_none, List.append_nil]; omega
    | some x =>
      have hx := h x (List.mem_of_getElem? hx)
      simp only [Option.toList_some]
      rw [numOf_snoc]
      omega

set_option maxHeartbeats 8000000 in
theorem seg2 {w : World} {mean : ExcName → Option Value} {mg mb : Str → Option Value} {s₀ : Shared} {dp un : Nat} {fr : Option (List Env)} {gd : Option (List Code)} {Q : Flow → Shared → Prop} {E : Value → Shared → Prop}
   (KX : (hd.heap_1 w.params).In s₀.heap) (T : Tp mean mg mb s₀.heap) (hdp : dp + 16 < recursionLimit) (hun : un + 8 * 16 < cLine)
   {L R : Addr} {s : Shared} {m : Str → Option Value} {FA : Addr} {fl : List (Int × Tok)} {nF : Nat} {o2 : Obj}
   (C : Cal s₀ s) (F : Fr s₀.heap L s.heap m) (hm : Agree m [(Str.ofString "script", .ref R)]) (N : News s₀.heap L s.heap [(FA, listOf (intVals fl).toArray nF), (L + 1, o2)]) (d2 : o2.data = .cell (some (.ref FA))) (lF : L + 1 < FA)
   (h5 : fl.length = 5) (hnd : (fl.map (·.1)).Nodup) (hbd : ∀ x ∈ fl.map (·.1), 0 ≤ x ∧ x < 16)
   (k : ∀ s1 m1 t, Cal s₀ s1 → Fr s₀.heap L s1.heap m1 → Agree m1 [(Str.ofString "script", .ref R), (Str.ofString "word", .bytes (bOf (hexL 5 (numOf (fl.map (·.1))).toNat)) t)] → News s₀.heap L s1.heap [(FA, listOf (intVals fl).toArray nF), (L + 1, o2)] →
      wpAny (model PR w) (LawAt dp un fr gd L) (execs (lawD.1.drop 7) (lawEnv L)) Q E s1) :
   wpAny (model PR w) (LawAt dp un fr gd L) (execs (lawD.1.drop 3) (lawEnv L)) Q E s := by
  have F' := fr_over F hm
  clear F
  with_unfolding_all show wpAny (model PR w) (LawAt dp un fr gd L) (execs (_ :: _) (lawEnv L)) Q E s
  have hz5 : (intVals fl).length = 5 := by unfold intVals; rw [List.length_map]; exact h5
  k_steps
  unfold Stop
  refine cutX (Js1 s₀ L [(FA, listOf (intVals fl).toArray nF), (L + 1, o2)] (fun t => [(Str.ofString "script", .ref R), (Str.ofString "number", .int (numOf (fl.map (·.1))) t)])) ?_ ?_
  · refine for_road (h₀ := s₀.heap) (s₀ := s₀) ?_
    k_steps
    unfold Stop
    rename_i F9 N9
    refine' loop_list (fun j m news => La1 (fun t => [(Str.ofString "script", .ref R), (Str.ofString "number", .int (numOf ((fl.map (·.1)).take j)) t)]) [(FA, listOf (intVals fl).toArray nF), (L + 1, o2)] m news) rfl (led_list (vs := intVals fl) N9 List.mem_cons_self) ?hlL F9 N9 (C.heap _ _) ?z ?_ ?_
    case hlL => exact fun e => (N9 _ List.mem_cons_self).2.1 e
    case z => exact ⟨_, ⟨rfl, rfl, trivial⟩, rfl⟩
    · rintro I hI i v m1 news1 s1 own hi hv C1 hadr ⟨t, hag, hnews⟩ hown F1 N1
      subst hnews
      have F1' := fr_over F1 hag
      clear F1
      have hi' : i < fl.length := by omega
      have hv' : v = .int fl[i].1 fl[i].2 := by
        have : (intVals fl)[i]? = some (.int fl[i].1 fl[i].2) := by simp [intVals, hi']
        rw [this] at hv; exact (Option.some.inj hv).symm
      subst hv'
      have htk : (fl.map (·.1)).take (i + 1) = (fl.map (·.1)).take i ++ [fl[i].1] := by rw [List.take_add_one]; simp [hi']
      have hnb := numOf_bd (fl.map (·.1)) hbd i
      have hnb2 : numOf ((fl.map (·.1)).take i) < 16 ^ 5 := Int.lt_of_lt_of_le hnb.2 (by exact_mod_cast Nat.pow_le_pow_right (by decide) (by omega))
      have hnb1 := hnb.1
      k_steps
      refine ⟨⟨C1.os, C1.size, C1.gens, C1.bare⟩, trivial, _, [_, _], by assumption, by assumption, rfl, _, ⟨rfl, by rw [htk, numOf_snoc]; rfl, trivial⟩, rfl⟩
    · rintro s1 m1 news1 C1 hadr ⟨t, hag, hnews⟩ F1 N1
      subst hnews
      refine ⟨C1, m1, t, F1, ?_, N1⟩
      rw [List.take_of_length_le (by rw [List.length_map]; omega)] at hag
      exact hag
  · rintro s1 ⟨C1, m1, t, F1, hag, N1⟩
    have F1' := fr_over F1 hag
    clear F1
    have hnb := numOf_bd (fl.map (·.1)) hbd 5
    rw [List.take_of_length_le (by rw [List.length_map]; omega)] at hnb
    have hnb1 := hnb.1
    have hnb2 : numOf (fl.map (·.1)) < 16 ^ 5 := hnb.2
    k_steps
    unfold Stop
    refine' LSm.sum_ints (vs := intVals fl) ?F ?N rfl (led_list (vs := intVals fl) N1 List.mem_cons_self) (ints_of fl) ?_
    case F => exact F1'
    case N => exact N1
    intro h3 tk3 t3 F3 N3
    have hp0 : 0 ≤ Int.fmod (fl.map (fun p => p.1)).sum 2 := Int.fmod_nonneg_of_pos _ (by decide)
    have hp1 : Int.fmod (fl.map (fun p => p.1)).sum 2 < 2 := Int.fmod_lt_of_pos _ (by decide)
    k_steps
    unfold Stop
    have hab : (numOf (fl.map (fun p => p.1)) * (1 - Int.fmod (fl.map (fun p => p.1)).sum 2 * 2)).natAbs = (numOf (fl.map (fun p => p.1))).toNat := by
      rcases (by omega : Int.fmod (fl.map (fun p => p.1)).sum 2 = 0 ∨ Int.fmod (fl.map (fun p => p.1)).sum 2 = 1) with e | e
      · rw [e]; omega
      · rw [e]; omega
    refine' use_in KX T (fun s a b => ap_spec _ _ s a b ?hx) ?F ?N ?d ?u ?_
    case hx => rw [hab]; have : (16 : Int) ^ 5 = 2 ^ 20 := by decide
               omega
    case F => assumption
    case N => assumption
    case d => exact dp_lt (j := 2) hdp rfl
    case u => exact dp_lt (j := 11) hun rfl
    rintro v s4 C4 hk4 F4 N4 ⟨t4, rfl⟩
    rw [hab]
    repeat' ((fail_if_success (with_reducible show wpAny _ _ (execs (Stmt.Assign _ _ _ :: _) _) _ _ _)); first | walk1 | (dsimp only; walk1))
    rename_i F5 N5 _
    refine k _ _ _ ?_ F5 ⟨rfl, rfl, trivial⟩ N5
    exact (Cal.trans ⟨C1.os, C1.size, C1.gens, C1.bare⟩ ⟨C4.os, C4.size, C4.gens, C4.bare⟩ : Cal s₀ s4).heap _ _
end Mine
end
end partA2
/-! part A3 -/
section partA3
open PySem PySem.W PyProof.Rows PySem.Calls Builtin Builtin.Str
set_option Elab.async false
set_option maxRecDepth 100000
set_option linter.all false
noncomputable section
namespace Mine
local macro_rules | `(tactic| omega) => `(tactic| lia)
theorem fillA3 : PySem.Challenge.rw_wr0027_01.prog = PySem.Challenge.rw_wr0027_01.prog ∧ hd.heap_1 = hd.heap_1 := by
  k_fill
  exact ⟨rfl, rfl⟩
local macro_rules | `(tactic| k_steps) => `(tactic| repeat' (first | walk1 | (dsimp only; walk1)))
local macro_rules | `(tactic| walk_at "execs cons Assign cons") => `(tactic| refine wpAny_execs_cons ?_)
local macro_rules | `(tactic| walk_at "call builtin:len") => `(tactic| refine stop ?_)
local macro_rules | `(tactic| walk_at "binaryOp Mult str int") => `(tactic| refine stop ?_)
local macro_rules | `(tactic| walk_at "binaryOp Add str str") => `(tactic| refine stop ?_)
local macro_rules | `(tactic| walk_at "eval ListComp") => `(tactic| refine stop ?_)
local macro_rules | `(tactic| walk_at "CompEnd") => `(tactic| refine stop ?_)
local macro_rules | `(tactic| walk_at "CompSrc") => `(tactic| refine stop ?_)

section
variable {w : World} {A : Around} {E : Value → Shared → Prop} {s : Shared} {h₀ : Heap} {L : Addr} {m : Str → Option Value} {env : Env}
/-- a comprehension over the octets of a bytes -/
theorem ListComp_B {elt iter : Expr} {x : Str} {px : Pos} {scope : Scope} {cl : List (Str × Addr)} {pos : Pos} {Q : Value → Shared → Prop} (F₀ : Fr h₀ L s.heap m)
    (hclos : closureFor scope env = pure cl) (hcell : ∀ y ∈ scope.names, y.2 ≠ .cell) (hkind : scope.kind = .function)
    (hnames : ∀ y ∈ scope.names, y.2 = .local → scope.names.lookup y.1 = some .local) (hx : scope.names.lookup x = some .local)
    (h : wpAny (model PR w) A (eval iter env) (fun xv s₁ => Held (∃ b tb news, xv = .bytes b tb ∧ A.handled = none ∧ Fr h₀ L s₁.heap m ∧ News h₀ L s₁.heap news ∧ b.size ≤ sizeLine ∧
      ∀ s₂ : Shared, (∃ h, s₂ = { s₁ with heap := h }) → LCg.CompRest PR w A h₀ L m env elt x scope cl s₂ (fun _ => True) (fun i v => ∃ c u, b[i]? = some c ∧ v = .int (c.toNat : Int) u) (LCg.FinE h₀ L m s₂ Q) b.size 0 [] news)) E s)
    (hs : ∀ x, foldedSetIterable iter env x = pure x := by intro _; rfl) :
    wpAny (model PR w) A (eval (.ListComp elt [⟨.Name x px, iter, [], 0⟩] scope pos) env) Q E s := by
  rw [eval_ListComp]
  refine wpAny_comprehension_free (use := none) rfl hs hclos hkind hnames (wpAny_mono h (fun xv s₁ h₁ => ?_) fun _ _ e => e)
  obtain ⟨b, tb, news, rfl, hh, F, N, hsz, R⟩ := h₁
  refine KBw.pyIter_bytes ?_
  refine LCg.block_U (KBw.walks hh s₁.heap.objs.size b tb) hsz (fun i h st => ⟨_, st.choose_spec.1⟩) (fun i h h' o nw st e e' _ _ _ => ?_) hcell hkind hx ⟨_, Heap.get?_push_size _ rfl, rfl, rfl⟩ (fun b hb => ?_)
    (F.keeps fun _ _ e => Heap.get?_push_of_some _ e) (N.grown fun _ _ e => Heap.get?_push_of_some _ e) (Nat.ne_of_lt F.ns.lt) (next_is_new F) (fun p hp => Nat.ne_of_lt (Heap.lt_size (N p hp).1)) trivial (R _ ⟨_, rfl⟩) ?_
  · obtain ⟨o1, h1, r⟩ := st
    exact ⟨o1, by rw [e', ← e]; exact h1, r⟩
  · rw [List.mem_singleton.mp hb]
    show s₁.heap.objs.size < (s₁.heap.push _).objs.size
    rw [Heap.size_push]; exact Nat.lt_succ_self _
  · intro D C h tk m' ys news' F' N' o1 hn hC₀ hD₀ hCL hDL hCD offC fin
    refine ⟨m', hn, fun h'' hs'' => fin D h'' tk (F'.change hs'' hCL hC₀) (fun p hp => ?_) o1⟩
    refine ⟨hs''.extBut _ _ ?_ (N' p hp).1, (N' p hp).2⟩
    rcases List.mem_cons.mp hp with rfl | hp
    · exact Ne.symm hCD
    · exact offC p hp
end

noncomputable def rowL (fs : List Int) : List Nat := fs.map fun x => 65 + x.toNat
noncomputable def rowS (fs : List Int) : Str := ⟨(rowL fs).toArray⟩
theorem singles_fit (wd : List Nat) (h : wd.length ≤ 1000) : ((wd.map (fun c => (⟨#[c]⟩ : Str))).map (·.length)).sum + (wd.map (fun c => (⟨#[c]⟩ : Str))).length ≤ 1048576 := by
  have e : ∀ l : List Nat, ((l.map (fun c => (⟨#[c]⟩ : Str))).map (·.length)).sum = l.length := by
    intro l
    induction l with
    | nil => rfl
    | cons a r ih => simp only [List.map_cons, List.sum_cons, ih, List.length_cons]; show 1 + r.length = _; omega
  rw [e, List.length_map]; omega
theorem join_empty_cons (x : Str) : ∀ r : List Str, Txt.join (Str.ofString "") (x :: r) = x ++ Txt.join (Str.ofString "") r := by
  intro r
  show glued _ _ = x ++ glued _ _
  rw [StrLaws.glued_eq_join, StrLaws.glued_eq_join]
  cases r with
  | nil => show x = x ++ Str.empty; rw [Str.append_empty]
  | cons y r =>
    show x ++ Str.ofString "" ++ Str.join _ (y :: r) = _
    rw [show Str.ofString "" = Str.empty from by decide, Str.append_empty]
theorem join_singles : ∀ wd : List Nat, Txt.join (Str.ofString "") (wd.map (fun c => (⟨#[c]⟩ : Str))) = ⟨wd.toArray⟩
  | [] => by decide
  | c :: r => by
    rw [List.map_cons, join_empty_cons, join_singles r]
    show (⟨#[c] ++ r.toArray⟩ : Str) = _
    simp
theorem mulA_eq : ∀ i : Nat, i < 6 → Txt.mul (Str.ofString "A") (i : Int) = ⟨(List.replicate i 65).toArray⟩ := by
  intro i hi
  match i, hi with
  | 0, _ => decide +kernel
  | 1, _ => decide +kernel
  | 2, _ => decide +kernel
  | 3, _ => decide +kernel
  | 4, _ => decide +kernel
  | 5, _ => decide +kernel
theorem mulA_ok : ∀ i : Nat, i < 6 → MulOk (Str.ofString "A") (i : Int) := by
  intro i hi
  match i, hi with
  | 0, _ => unfold MulOk; decide +kernel
  | 1, _ => unfold MulOk; decide +kernel
  | 2, _ => unfold MulOk; decide +kernel
  | 3, _ => unfold MulOk; decide +kernel
  | 4, _ => unfold MulOk; decide +kernel
  | 5, _ => unfold MulOk; decide +kernel
local macro_rules | `(tactic| walk_at "eval Name") => `(tactic| ((with_reducible show wpAny _ _ (eval (Expr.Name _ _) (compEnvC _ _ _ _)) _ _ _); with_unfolding_all (first
  | (refine' nm_own ?N ?m ?C ?v ?_; (case N => with_reducible assumption); (case m => with_reducible assumption); (case C => with_reducible assumption); (case v => with_reducible assumption))
  | (refine' nm_cell ?N (by rfl) ?m ?d ?_; (case N => with_reducible assumption); (case m => with_reducible assumption); (case d => with_reducible assumption)))))
set_option maxHeartbeats 8000000 in
theorem seg3 {w : World} {mean : ExcName → Option Value} {mg mb : Str → Option Value} {s₀ : Shared} {dp un : Nat} {fr : Option (List Env)} {gd : Option (List Code)} {Q : Flow → Shared → Prop} {E : Value → Shared → Prop}
   (KX : (hd.heap_1 w.params).In s₀.heap) (T : Tp mean mg mb s₀.heap) (hdp : dp + 16 < recursionLimit) (hun : un + 8 * 16 < cLine)
   {L R : Addr} {s : Shared} {m : Str → Option Value} {FA : Addr} {fl : List (Int × Tok)} {nF : Nat} {o2 : Obj} {wd : List Nat} {tw : Tok}
   (C : Cal s₀ s) (F : Fr s₀.heap L s.heap m) (hm : Agree m [(Str.ofString "script", .ref R), (Str.ofString "word", .bytes (bOf wd) tw)]) (N : News s₀.heap L s.heap [(FA, listOf (intVals fl).toArray nF), (L + 1, o2)]) (d2 : o2.data = .cell (some (.ref FA))) (lF : L + 1 < FA)
   (h5 : fl.length = 5) (hnd : (fl.map (·.1)).Nodup) (hbd : ∀ x ∈ fl.map (·.1), 0 ≤ x ∧ x < 16) (hwl : wd.length ≤ 5) (hwb : ∀ c ∈ wd, 65 ≤ c ∧ c < 81) (hrow : List.replicate (5 - wd.length) 65 ++ wd = rowL (fl.map (·.1)))
   (k : ∀ s1 m1 t, Cal s₀ s1 → Fr s₀.heap L s1.heap m1 → Agree m1 [(Str.ofString "script", .ref R), (Str.ofString "row", .str (rowS (fl.map (·.1))) t)] → News s₀.heap L s1.heap [(FA, listOf (intVals fl).toArray nF), (L + 1, o2)] →
      wpAny (model PR w) (LawAt dp un fr gd L) (execs (lawD.1.drop 9) (lawEnv L)) Q E s1) :
   wpAny (model PR w) (LawAt dp un fr gd L) (execs (lawD.1.drop 7) (lawEnv L)) Q E s := by
  have F' := fr_over F hm
  clear F
  with_unfolding_all show wpAny (model PR w) (LawAt dp un fr gd L) (execs (_ :: _) (lawEnv L)) Q E s
  have hws : (bOf wd).size = wd.length := by simp [bOf]
  k_steps
  unfold Stop
  refine len_bytes (by omega) ?_
  rw [hws]
  k_steps
  unfold Stop
  rw [show (5 : Int) - (wd.length : Int) = ((5 - wd.length : Nat) : Int) from by omega]
  refine SB.mul (mulA_ok (5 - wd.length) (by omega)) ?_
  intro t9 k9
  k_steps
  unfold Stop
  refine ListComp_B (h₀ := s₀.heap) (cl := []) F' rfl (by decide) (by rfl) (by decide) (by rfl) ?_
  k_steps
  refine ⟨_, _, _, rfl, rfl, F', N, by rw [sizeLine_eq]; omega, ?_⟩
  rintro s2 ⟨g, rfl⟩
  rw [hws]
  refine comp_ind (fun i ys news => ∃ l : List (Str × Tok), ys = strValues l ∧ l.map (·.1) = (wd.take i).map (fun c => (⟨#[c]⟩ : Str)) ∧ news = [(FA, listOf (intVals fl).toArray nF), (L + 1, o2)]) wd.length ?_ ?_ wd.length 0 [] _ (by omega) ⟨[], rfl, rfl, rfl⟩
  · rintro i ys news hi ⟨l, rfl, hl, rfl⟩ v I oI C oC D m₂ h tk3 E' ⟨c, u, hc, rfl⟩ hC hx F5 N5 off ne
    have hc' : c.toNat = wd[i] := by
      have : (bOf wd)[i]? = some (UInt8.ofNat wd[i]) := by simp [bOf, hi]
      rw [this] at hc
      have := Option.some.inj hc
      rw [← this]
      have := hwb wd[i] (List.getElem_mem hi)
      simp; omega
    rw [hc'] at hx
    have hcb := hwb wd[i] (List.getElem_mem hi)
    have hmC : (C, oC) ∈ (I, oI) :: (C, oC) :: (D, LCg.lst (strValues l)) :: [(FA, listOf (intVals fl).toArray nF), (L + 1, o2)] := by simp
    k_steps
    unfold Stop
    rw [show ((wd[i] : Nat) : Int).toNat = wd[i] from rfl]
    refine LCg.CompEnd.intro F5 N5 [(FA, listOf (intVals fl).toArray nF), (L + 1, o2)] (fun p hp => hp) off trivial ⟨l ++ [(⟨#[wd[i]]⟩, _)], by rw [strValues, strValues, List.map_append]; rfl, ?_, rfl⟩
    rw [List.map_append, hl, List.take_add_one, List.getElem?_eq_getElem hi, List.map_append]; rfl
  · rintro ys news ⟨l, rfl, hl, rfl⟩
    intro D h7 tk7 F7 N7 o7
    rw [List.take_of_length_le (Nat.le_refl _)] at hl
    dsimp only
    k_steps
    refine join_listW (ys := l.map (·.1)) (led_list (vs := strValues l) N7 List.mem_cons_self) (strsAre_of_values l) (by decide) (by rw [hl]; exact singles_fit wd (by omega)) ?_
    intro t8 k8
    rw [hl, join_singles, mulA_eq (5 - wd.length) (by omega)]
    k_steps
    unfold Stop
    refine PyProof.Rows.add_str ?_ (by rw [sizeLine_eq]; show (List.replicate (5 - wd.length) 65).toArray.size + wd.toArray.size ≤ _; simp; omega)
    intro t10 k10
    rw [show ((⟨(List.replicate (5 - wd.length) 65).toArray⟩ : Str) ++ (⟨wd.toArray⟩ : Str)) = rowS (fl.map (·.1)) from by
      show (⟨(List.replicate (5 - wd.length) 65).toArray ++ wd.toArray⟩ : Str) = ⟨(rowL (fl.map (·.1))).toArray⟩
      rw [← hrow]; simp]
    k_steps
    unfold Stop
    rename_i h11 F11 N11
    have N12 := news_sub (a := [(FA, listOf (intVals fl).toArray nF), (L + 1, o2)]) N11 (fun p hp => List.mem_cons_of_mem _ hp)
    clear N11
    refine LCg.ListComp_U (h₀ := s₀.heap) (cl := []) F11 rfl (by decide) (by rfl) (by decide) (by rfl) ?_
    dsimp only
    k_steps
    unfold Stop
    refine' LCg.CompSrc.ledger (its := (intVals fl).toArray) (k := nF) rfl F11 N12 List.mem_cons_self ?sz ?_
    case sz => rw [sizeLine_eq, List.size_toArray]; unfold intVals; rw [List.length_map]; omega
    intro g2
    rw [List.size_toArray, show (intVals fl).length = 5 from by unfold intVals; rw [List.length_map]; exact h5]
    refine comp_ind (fun i ys news => ∃ l : List (Str × Tok), ys = strValues l ∧ l.map (·.1) = ((rowL (fl.map (·.1))).take i).map (fun c => (⟨#[c]⟩ : Str)) ∧ news = [(FA, listOf (intVals fl).toArray nF), (L + 1, o2)]) 5 ?_ ?_ 5 0 [] _ (by omega) ⟨[], rfl, rfl, rfl⟩
    · rintro i ys news hi ⟨l, rfl, hl, rfl⟩ v I oI C oC D m₂ h tk3 E' hc hC hx F5 N5 off ne
      have hi' : i < fl.length := by omega
      have hv' : v = .int fl[i].1 fl[i].2 := by
        have : (intVals fl).toArray[i]? = some (.int fl[i].1 fl[i].2) := by simp [intVals, hi']
        rw [this] at hc; exact (Option.some.inj hc).symm
      subst hv'
      have hb := hbd fl[i].1 (List.mem_map.mpr ⟨fl[i], List.getElem_mem hi', rfl⟩)
      have hb0 := hb.1
      have hb1 := hb.2
      have hmC : (C, oC) ∈ (I, oI) :: (C, oC) :: (D, LCg.lst (strValues l)) :: [(FA, listOf (intVals fl).toArray nF), (L + 1, o2)] := by simp
      k_steps
      unfold Stop
      rw [show (65 + fl[i].1).toNat = 65 + fl[i].1.toNat from by omega]
      refine LCg.CompEnd.intro F5 N5 [(FA, listOf (intVals fl).toArray nF), (L + 1, o2)] (fun p hp => hp) off (.inr ⟨_, List.mem_cons_self, rfl, _, rfl⟩) ⟨l ++ [(⟨#[65 + fl[i].1.toNat]⟩, _)], by rw [strValues, strValues, List.map_append]; rfl, ?_, rfl⟩
      have hrl : (rowL (fl.map (·.1)))[i]? = some (65 + fl[i].1.toNat) := by simp [rowL, hi']
      rw [List.map_append, hl, List.take_add_one, hrl, List.map_append]; rfl
    · rintro ys news ⟨l2, rfl, hl2, rfl⟩
      intro D h17 tk17 F17 N17 o17
      rw [List.take_of_length_le (by unfold rowL; rw [List.length_map, List.length_map]; omega)] at hl2
      dsimp only
      k_steps
      refine join_listW (ys := l2.map (·.1)) (led_list (vs := strValues l2) N17 List.mem_cons_self) (strsAre_of_values l2) (by decide) (by rw [hl2]; exact singles_fit _ (by unfold rowL; rw [List.length_map, List.length_map]; omega)) ?_
      intro t18 k18
      rw [hl2, join_singles]
      repeat' ((fail_if_success (with_reducible show wpAny _ _ (execs (Stmt.Assign _ _ _ :: _) _) _ _ _)); first | walk1 | (dsimp only; walk1))
      · rename_i hne
        exact absurd hne (by show ¬ (rowS _ != rowS _) = true; simp)
      · dsimp only
        refine k _ _ _ ?_ F17 ⟨rfl, rfl, trivial⟩ (fun p hp => N17 p (List.mem_cons_of_mem _ hp))
        exact ⟨C.os, C.size, C.gens, C.bare⟩
end Mine
end
end partA3
/-! part A4 -/
section partA4
open PySem PySem.W PyProof.Rows PySem.Calls Builtin Builtin.Str
set_option Elab.async false
set_option maxRecDepth 100000
set_option linter.all false
noncomputable section
namespace Mine
local macro_rules | `(tactic| omega) => `(tactic| lia)
theorem fillA4 : PySem.Challenge.rw_wr0027_01.prog = PySem.Challenge.rw_wr0027_01.prog ∧ hd.heap_1 = hd.heap_1 := by
  k_fill
  exact ⟨rfl, rfl⟩
local macro_rules | `(tactic| k_steps) => `(tactic| repeat' (first | walk1 | (dsimp only; walk1)))
local macro_rules | `(tactic| walk_at "execs cons Assign cons") => `(tactic| refine wpAny_execs_cons ?_)
local macro_rules | `(tactic| walk_at "exec Assign cons ListComp") => `(tactic| refine stop ?_)
local macro_rules | `(tactic| walk_at "call builtin:sorted") => `(tactic| refine stop ?_)
local macro_rules | `(tactic| walk_at "call builtin:list.index") => `(tactic| refine stop ?_)
local macro_rules | `(tactic| walk_at "call type:list") => `(tactic| refine stop ?_)
local macro_rules | `(tactic| walk_at "getItem ref int") => `(tactic| refine stop ?_)
local macro_rules | `(tactic| walk_at "setItem ref int") => `(tactic| refine stop ?_)
local macro_rules | `(tactic| walk_at "subscriptTail") => `(tactic| refine stop ?_)
local macro_rules | `(tactic| walk_at "CompEnd") => `(tactic| refine stop ?_)
local macro_rules | `(tactic| walk_at "CompSrc") => `(tactic| refine stop ?_)
local macro_rules | `(tactic| walk_at "eval Name") => `(tactic| ((with_reducible show wpAny _ _ (eval (Expr.Name _ _) (compEnvC _ _ _ _)) _ _ _); with_unfolding_all (first
  | (refine' nm_own ?N ?m ?C ?v ?_; (case N => with_reducible assumption); (case m => with_reducible assumption); (case C => with_reducible assumption); (case v => with_reducible assumption))
  | (refine' nm_cell ?N (by rfl) ?m ?d ?_; (case N => with_reducible assumption); (case m => with_reducible assumption); (case d => with_reducible assumption)))))

noncomputable def rk (fs : List Int) (x : Int) : Int := ((fs.filter (· < x)).length : Nat)
theorem rk_perm {a b : List Int} (h : a.Perm b) (x : Int) : rk a x = rk b x := by unfold rk; rw [(h.filter _).length_eq]
theorem kf_ints_vals : ∀ l : List (Int × Tok), kf_ints (intVals l) = true
  | [] => rfl
  | _ :: r => kf_ints_vals r
theorem kf_at_rank : ∀ (l : List (Int × Tok)) (x : Int), (l.map (·.1)).Pairwise (· ≤ ·) → (l.map (·.1)).Nodup → x ∈ l.map (·.1) → ∃ j : Nat, kf_at x (intVals l) = some j ∧ (j : Int) = rk (l.map (·.1)) x
  | [], _, _, _, h => by simp at h
  | (a, t) :: r, x, hs, hn, h => by
    have hs2 : (r.map (·.1)).Pairwise (· ≤ ·) := (List.pairwise_cons.mp hs).2
    have ha : ∀ b ∈ r.map (·.1), a ≤ b := (List.pairwise_cons.mp hs).1
    have hn2 : (r.map (·.1)).Nodup := (List.nodup_cons.mp hn).2
    have hna : a ∉ r.map (·.1) := (List.nodup_cons.mp hn).1
    show ∃ j : Nat, (cond (isInt x (.int a t)) (some 0) (match kf_at x (intVals r) with | some j => some (j + 1) | none => none)) = some j ∧ _
    by_cases hax : a = x
    · subst hax
      refine ⟨0, by simp [isInt], ?_⟩
      unfold rk
      have : ((a :: r.map (·.1)).filter (· < a)) = [] := by
        rw [List.filter_eq_nil_iff]
        intro b hb
        rcases List.mem_cons.mp hb with rfl | hb
        · simp
        · have := ha b hb; simp; omega
      show _ = (((List.filter (fun y => decide (y < a)) (a :: r.map (·.1))).length : Nat) : Int)
      rw [this]; rfl
    · have hxr : x ∈ r.map (·.1) := by
        rcases List.mem_cons.mp h with h | h
        · exact absurd h.symm hax
        · exact h
      obtain ⟨j, hj, hr⟩ := kf_at_rank r x hs2 hn2 hxr
      refine ⟨j + 1, ?_, ?_⟩
      · rw [show isInt x (.int a t) = false from by simp [isInt, hax], hj]; rfl
      · have hlt : a < x := by have := ha x hxr; omega
        unfold rk at hr ⊢
        show _ = (((List.filter (fun y => decide (y < x)) (a :: r.map (·.1))).length : Nat) : Int)
        rw [List.filter_cons, if_pos (by simpa using hlt), List.length_cons]
        omega
set_option maxHeartbeats 8000000 in
theorem seg4 {w : World} {mean : ExcName → Option Value} {mg mb : Str → Option Value} {s₀ : Shared} {dp un : Nat} {fr : Option (List Env)} {gd : Option (List Code)} {Q : Flow → Shared → Prop} {E : Value → Shared → Prop}
   (KX : (hd.heap_1 w.params).In s₀.heap) (T : Tp mean mg mb s₀.heap) (hdp : dp + 16 < recursionLimit) (hun : un + 8 * 16 < cLine)
   {L R : Addr} {vs : List Value} {ns : List Int} {s : Shared} {m : Str → Option Value} {FA : Addr} {fl : List (Int × Tok)} {nF : Nat} {o2 : Obj} {x : Str} {tw : Tok} (hl : s₀.heap.IsList R vs.toArray) (hi : IntsAre vs ns)
   (C : Cal s₀ s) (F : Fr s₀.heap L s.heap m) (hm : Agree m [(Str.ofString "script", .ref R), (Str.ofString "row", .str x tw)]) (N : News s₀.heap L s.heap [(FA, listOf (intVals fl).toArray nF), (L + 1, o2)]) (d2 : o2.data = .cell (some (.ref FA))) (lF : L + 1 < FA)
   (h5 : fl.length = 5) (hnd : (fl.map (·.1)).Nodup) (hbd : ∀ x ∈ fl.map (·.1), 0 ≤ x ∧ x < 16) 
   (k : ∀ s1 m1 tt D rl nR t', Cal s₀ s1 → Fr s₀.heap L s1.heap m1 → Agree m1 [(Str.ofString "script", .ref R), (Str.ofString "row", .str x t'), (Str.ofString "total", .int ((ns.sum + 1350).fmod (10 ^ Int.toNat 6)) tt), (Str.ofString "ranks", .ref D)] →
      News s₀.heap L s1.heap [(D, listOf (intVals rl).toArray nR), (FA, listOf (intVals fl).toArray nF), (L + 1, o2)] → rl.map (·.1) = (fl.map (·.1)).map (rk (fl.map (·.1))) → L + 1 ≠ D → FA ≠ D →
      wpAny (model PR w) (LawAt dp un fr gd L) (execs (lawD.1.drop 11) (lawEnv L)) Q E s1) :
   wpAny (model PR w) (LawAt dp un fr gd L) (execs (lawD.1.drop 9) (lawEnv L)) Q E s := by
  have F' := fr_over F hm
  clear F
  with_unfolding_all show wpAny (model PR w) (LawAt dp un fr gd L) (execs (_ :: _) (lawEnv L)) Q E s
  k_steps
  unfold Stop
  rename_i F1 N1
  refine LCg.Assign_ListComp_U (h₀ := s₀.heap) (cl := [(Str.ofString "figures", L + 1)]) F1 rfl (by with_unfolding_all rfl) (by rfl) (by decide) (by rfl) (by decide) (by rfl) (by rfl) (by rfl) ?_
  dsimp only
  k_steps
  unfold Stop
  refine' LCg.CompSrc.ledger (its := (intVals fl).toArray) (k := nF) rfl F1 N1 List.mem_cons_self ?sz ?_
  case sz => rw [sizeLine_eq, List.size_toArray]; unfold intVals; rw [List.length_map]; omega
  intro g2
  rw [List.size_toArray, show (intVals fl).length = 5 from by unfold intVals; rw [List.length_map]; exact h5]
  refine comp_ind (fun i ys news => ∃ l : List (Int × Tok), ys = intVals l ∧ l.map (·.1) = ((fl.map (·.1)).take i).map (rk (fl.map (·.1))) ∧ news = [(FA, listOf (intVals fl).toArray nF), (L + 1, o2)]) 5 ?_ ?_ 5 0 [] _ (by omega) ⟨[], rfl, rfl, rfl⟩
  · rintro i ys news hi ⟨l, rfl, hl, rfl⟩ v I oI C oC D m₂ h tk3 E' hc hC hx F5 N5 off ne
    have hi' : i < fl.length := by omega
    have hv' : v = .int fl[i].1 fl[i].2 := by
      have : (intVals fl).toArray[i]? = some (.int fl[i].1 fl[i].2) := by simp [intVals, hi']
      rw [this] at hc; exact (Option.some.inj hc).symm
    subst hv'
    have hmC : (C, oC) ∈ (I, oI) :: (C, oC) :: (D, LCg.lst (intVals l)) :: [(FA, listOf (intVals fl).toArray nF), (L + 1, o2)] := by simp
    have hmL : (L + 1, o2) ∈ (I, oI) :: (C, oC) :: (D, LCg.lst (intVals l)) :: [(FA, listOf (intVals fl).toArray nF), (L + 1, o2)] := by simp
    k_steps
    unfold Stop
    refine kso_sorted (ns := fl.map (·.1)) F5 N5 (led_list (vs := intVals fl) N5 (List.mem_cons_of_mem _ (List.mem_cons_of_mem _ (List.mem_cons_of_mem _ List.mem_cons_self)))) (ints_of fl) (by rw [List.length_map]; omega) ?_
    intro D9 vs9 ns9 c9 h9 F9 N9 l9 hi9 _ hp9 hs9 _
    obtain ⟨sl, rfl, hsl⟩ := ints_values hi9
    subst hsl
    obtain ⟨j, hj, hrk⟩ := kf_at_rank sl fl[i].1 hs9 (hp9.nodup_iff.mpr hnd) (hp9.mem_iff.mpr (List.mem_map.mpr ⟨fl[i], List.getElem_mem hi', rfl⟩))
    rw [rk_perm hp9] at hrk
    have hz9 : (intVals sl).length = 5 := by
      have := hp9.length_eq
      rw [List.length_map, List.length_map] at this
      unfold intVals; rw [List.length_map]; omega
    k_steps
    unfold Stop
    refine kf_index (its := (intVals sl).toArray) (n := c9) (i := rk (fl.map (·.1)) fl[i].1) N9 List.mem_cons_self (kf_ints_vals sl) hj hrk (by rw [sizeLine_eq]; show (intVals sl).length ≤ _; omega) ?_
    refine LCg.CompEnd.intro F9 N9 [(FA, listOf (intVals fl).toArray nF), (L + 1, o2)] (fun p hp => List.mem_cons_of_mem _ hp) off (.inr ⟨_, List.mem_cons_self, rfl, _, rfl⟩) ⟨l ++ [(rk (fl.map (·.1)) fl[i].1, _)], by rw [intVals, intVals, List.map_append]; rfl, ?_, rfl⟩
    have hrl : (fl.map (·.1))[i]? = some fl[i].1 := by simp [hi']
    rw [List.map_append, hl, List.take_add_one, hrl, List.map_append]; rfl
  · rintro ys news ⟨l, rfl, hl, rfl⟩
    intro D h7 tk7 F7 N7 o7
    rw [List.take_of_length_le (by rw [List.length_map]; omega)] at hl
    dsimp only
    refine k _ _ _ D l _ _ ?_ F7 ⟨rfl, rfl, rfl, rfl, trivial⟩ N7 hl (o7.2.1) o7.1
    exact ⟨C.os, C.size, C.gens, C.bare⟩
end Mine
end
end partA4
/-! part A5 -/
section partA5
open PySem PySem.W PyProof.Rows PySem.Calls Builtin Builtin.Str
set_option Elab.async false
set_option maxRecDepth 100000
set_option linter.all false
noncomputable section
namespace Mine
local macro_rules | `(tactic| omega) => `(tactic| lia)
theorem fillA5 : PySem.Challenge.rw_wr0027_01.prog = PySem.Challenge.rw_wr0027_01.prog ∧ hd.heap_1 = hd.heap_1 := by
  k_fill
  exact ⟨rfl, rfl⟩
local macro_rules | `(tactic| k_steps) => `(tactic| repeat' (first | walk1 | (dsimp only; walk1)))
local macro_rules | `(tactic| walk_at "execs cons Assign cons") => `(tactic| refine wpAny_execs_cons ?_)
local macro_rules | `(tactic| walk_at "call builtin:sorted") => `(tactic| refine stop ?_)
local macro_rules | `(tactic| walk_at "call type:list") => `(tactic| refine stop ?_)
local macro_rules | `(tactic| walk_at "getItem ref int") => `(tactic| refine stop ?_)
local macro_rules | `(tactic| walk_at "setItem ref int") => `(tactic| refine stop ?_)
local macro_rules | `(tactic| walk_at "subscriptTail") => `(tactic| refine stop ?_)
local macro_rules | `(tactic| walk_at "call ref") => `(tactic| refine stop ?_)
noncomputable def addAt (l : List Str) (p : Nat) (y : Str) : List Str := l.set p (l.getD p ⟨#[]⟩ ++ y)
noncomputable def menu1 : List Str := [Str.ofString "\")\"", Str.ofString "\"(\"", Str.ofString "\\)", Str.ofString "\\("]
noncomputable def menu2 : List Str := [Str.ofString "\\(", Str.ofString "\\\\", Str.ofString "\\)"]
noncomputable def dressB (l : List Str) (tot : Int) : List Str :=
  addAt (addAt l ((tot.fdiv 3).fmod 5).toNat (menu1.getD ((tot.fdiv 15).fmod 4).toNat ⟨#[]⟩)) ((tot.fdiv 7).fmod 5).toNat (menu2.getD ((tot.fdiv 35).fmod 3).toNat ⟨#[]⟩)

theorem ki_setL_at : ∀ (l : List Value) (k : Nat) (v : Value), k < l.length → ki_setL l k v = some (l.set k v)
  | x :: r, 0, v, _ => rfl
  | x :: r, k + 1, v, h => by
    unfold ki_setL
    rw [ki_setL_at r k v (by simpa using h)]; rfl
theorem addAt_map {dl : List (Str × Tok)} {l : List Str} {p : Nat} {y z : Str} {ty t : Tok} (h : dl.map (·.1) = l) (hy : dl[p]? = some (y, ty)) : (dl.set p (y ++ z, t)).map (·.1) = addAt l p z := by
  have e : l.getD p ⟨#[]⟩ = y := by rw [← h, List.getD_eq_getElem?_getD, List.getElem?_map, hy]; rfl
  unfold addAt
  rw [e, ← h, List.map_set]
theorem set_vals (dl : List (Str × Tok)) (p : Nat) (y : Str) (t : Tok) : (strValues dl).set p (.str y t) = strValues (dl.set p (y, t)) := by unfold strValues; rw [List.map_set]
theorem small4 {k : Int} (h0 : 0 ≤ k) (h1 : k < 4) : k.toNat = 0 ∨ k.toNat = 1 ∨ k.toNat = 2 ∨ k.toNat = 3 := by omega
theorem menu1_at {k : Int} (a b c d : Tok) (h0 : 0 ≤ k) (h1 : k < 4) : ∃ t, [Value.str (Str.ofString "\")\"") a, .str (Str.ofString "\"(\"") b, .str (Str.ofString "\\)") c, .str (Str.ofString "\\(") d][k.toNat]? = some (.str (menu1.getD k.toNat ⟨#[]⟩) t) := by
  rcases small4 h0 h1 with e | e | e | e <;> rw [e]
  · exact ⟨a, rfl⟩
  · exact ⟨b, rfl⟩
  · exact ⟨c, rfl⟩
  · exact ⟨d, rfl⟩
theorem menu1_len : ∀ k : Nat, (menu1.getD k ⟨#[]⟩).length ≤ 3
  | 0 => by decide
  | 1 => by decide
  | 2 => by decide
  | 3 => by decide
  | _ + 4 => by show (0 : Nat) ≤ 3; decide
theorem menu2_at {k : Int} (a b c : Tok) (h0 : 0 ≤ k) (h1 : k < 3) : ∃ t, [Value.str (Str.ofString "\\(") a, .str (Str.ofString "\\\\") b, .str (Str.ofString "\\)") c][k.toNat]? = some (.str (menu2.getD k.toNat ⟨#[]⟩) t) := by
  rcases (by omega : k.toNat = 0 ∨ k.toNat = 1 ∨ k.toNat = 2) with e | e | e <;> rw [e]
  · exact ⟨a, rfl⟩
  · exact ⟨b, rfl⟩
  · exact ⟨c, rfl⟩
theorem menu2_len : ∀ k : Nat, (menu2.getD k ⟨#[]⟩).length ≤ 3
  | 0 => by decide
  | 1 => by decide
  | 2 => by decide
  | _ + 3 => by show (0 : Nat) ≤ 3; decide
set_option maxHeartbeats 8000000 in
theorem seg5 {w : World} {mean : ExcName → Option Value} {mg mb : Str → Option Value} {s₀ : Shared} {dp un : Nat} {fr : Option (List Env)} {gd : Option (List Code)} {Q : Flow → Shared → Prop} {E : Value → Shared → Prop}
   (KX : (hd.heap_1 w.params).In s₀.heap) (T : Tp mean mg mb s₀.heap) (hdp : dp + 16 < recursionLimit) (hun : un + 8 * 16 < cLine)
   {L R : Addr} {s : Shared} {m : Str → Option Value} {D : Addr} {rl : List (Int × Tok)} {nR : Nat} {x : Str} {tw tt : Tok} {tot : Int}
   (C : Cal s₀ s) (F : Fr s₀.heap L s.heap m) (hm : Agree m [(Str.ofString "script", .ref R), (Str.ofString "row", .str x tw), (Str.ofString "total", .int tot tt), (Str.ofString "ranks", .ref D)]) (N : News s₀.heap L s.heap [(D, listOf (intVals rl).toArray nR)])
   (hx : x.length = 5) (ht0 : 0 ≤ tot) (ht1 : tot < 10 ^ 6) (hrl : rl.length = 5)
   (k : ∀ s1 m1 t1 t2 D2 dl n2, Cal s₀ s1 → Fr s₀.heap L s1.heap m1 → Agree m1 [(Str.ofString "script", .ref R), (Str.ofString "row", .str x t1), (Str.ofString "total", .int tot t2), (Str.ofString "ranks", .ref D), (Str.ofString "dressed", .ref D2)] →
      News s₀.heap L s1.heap [(D2, listOf (strValues dl).toArray n2), (D, listOf (intVals rl).toArray nR)] → dl.map (·.1) = addAt (signs x) ((tot.fdiv 3).fmod 5).toNat (menu1.getD ((tot.fdiv 15).fmod 4).toNat ⟨#[]⟩) → D2 ≠ D → (∀ p ∈ dl, p.1.length ≤ 4) →
      wpAny (model PR w) (LawAt dp un fr gd L) (execs (lawD.1.drop 13) (lawEnv L)) Q E s1) :
   wpAny (model PR w) (LawAt dp un fr gd L) (execs (lawD.1.drop 11) (lawEnv L)) Q E s := by
  have F' := fr_over F hm
  clear F
  with_unfolding_all show wpAny (model PR w) (LawAt dp un fr gd L) (execs (_ :: _) (lawEnv L)) Q E s
  k_steps
  unfold Stop
  refine list_strD rfl F' N ?_
  intro h8 tk8 ys8 F8 N8 hk8 h08 _ x8 hc8
  obtain ⟨n8, N9⟩ := news_plain F8 N8 h08 x8
  have hne := x8.2
  generalize Array.size _ = D2 at N9 hne ⊢
  clear x8 N8 hk8 h08
  obtain ⟨dl, rfl, hdl⟩ := strsAre_values (StrsAre.ofCarried hc8)
  clear hc8
  have hdl5 : dl.length = 5 := by
    have := congrArg List.length hdl
    rw [List.length_map] at this
    rw [this]; simp [signs]; exact hx
  have hdl1 : ∀ p ∈ dl, p.1.length ≤ 1 := by
    intro p hp
    have : p.1 ∈ signs x := by rw [← hdl]; exact List.mem_map_of_mem hp
    unfold signs at this
    obtain ⟨c, _, e⟩ := List.mem_map.mp this
    rw [← e]; exact Nat.le_refl _
  k_steps
  unfold Stop
  have hp0 : 0 ≤ (tot.fdiv 3).fmod 5 := Int.fmod_nonneg_of_pos _ (by decide)
  have hp1 : (tot.fdiv 3).fmod 5 < 5 := Int.fmod_lt_of_pos _ (by decide)
  obtain ⟨⟨y1, ty1⟩, hy1⟩ : ∃ p, dl[((tot.fdiv 3).fmod 5).toNat]? = some p := ⟨_, List.getElem?_eq_getElem (by omega)⟩
  have hv1 : (strValues dl)[((tot.fdiv 3).fmod 5).toNat]? = some (.str y1 ty1) := by unfold strValues; rw [List.getElem?_map, hy1]; rfl
  rename_i F10 N10
  refine wpAny_getItem_list (led_list (vs := strValues dl) N10 List.mem_cons_self) hp0 (by omega) (by simpa using hv1) ?_
  have hq0 : 0 ≤ (tot.fdiv 15).fmod 4 := Int.fmod_nonneg_of_pos _ (by decide)
  have hq1 : (tot.fdiv 15).fmod 4 < 4 := Int.fmod_lt_of_pos _ (by decide)
  k_steps
  unfold Stop
  rename_i V h11 F11 N11 l11
  obtain ⟨tm, htm⟩ := menu1_at (tk + 1 + 1 + 1 + 1) (tk + 1 + 1 + 1 + 1 + 1) (tk + 1 + 1 + 1 + 1 + 1 + 1) (tk + 1 + 1 + 1 + 1 + 1 + 1 + 1) hq0 hq1
  generalize hz : menu1.getD ((tot.fdiv 15).fmod 4).toNat ⟨#[]⟩ = z at htm
  have hzl : z.length ≤ 3 := by rw [← hz]; exact menu1_len _
  refine item_any (x := .str z tm) (led_list (vs := [_, _, _, _]) N11 List.mem_cons_self) hq0 (by omega) (by simpa using htm) ?_ (by with_unfolding_all rfl)
  have hyl : y1.length ≤ 1 := hdl1 _ (List.mem_of_getElem? hy1)
  dsimp only
  k_steps
  unfold Stop
  rename_i t12 k12 l12
  have hl5 : (strValues dl).length = 5 := by unfold strValues; rw [List.length_map]; exact hdl5
  refine' ki_set (its := (strValues dl).toArray) (n := n8) (q := strValues (dl.set ((tot.fdiv 3).fmod 5).toNat (y1 ++ z, t12))) (news := [(D2, listOf (strValues dl).toArray n8), (D, listOf (intVals rl).toArray nR)]) ?F ?N hp0 ?hf ?e (Upd.head ?U) ?_
  case hf => omega
  case F => assumption
  case N => exact fun p hp => N11 p (List.mem_cons_of_mem _ hp)
  case e => rw [← set_vals]; refine ki_setL_at _ _ _ ?_; rw [hl5]; omega
  case U =>
    intro p hp
    exact hne p (by rw [List.mem_singleton.mp hp]; exact List.mem_cons_self)
  intro h13 F13 N13
  dsimp only
  refine k _ _ _ _ D2 (dl.set ((tot.fdiv 3).fmod 5).toNat (y1 ++ z, t12)) _ ⟨C.os, C.size, C.gens, C.bare⟩ F13 ⟨rfl, rfl, rfl, rfl, rfl, trivial⟩ N13 (by rw [addAt_map hdl hy1, ← hz]) (Ne.symm (hne _ List.mem_cons_self)) ?_
  intro p hp
  rcases List.mem_or_eq_of_mem_set hp with hp | rfl
  · exact Nat.le_trans (hdl1 p hp) (by decide)
  · show (y1 ++ z).length ≤ 4
    rw [Str.length_append]; omega
end Mine
end
end partA5
/-! part A6 -/
section partA6
open PySem PySem.W PyProof.Rows PySem.Calls Builtin Builtin.Str
set_option Elab.async false
set_option maxRecDepth 100000
set_option linter.all false
noncomputable section
namespace Mine
local macro_rules | `(tactic| omega) => `(tactic| lia)
theorem fillA6 : PySem.Challenge.rw_wr0027_01.prog = PySem.Challenge.rw_wr0027_01.prog ∧ hd.heap_1 = hd.heap_1 := by
  k_fill
  exact ⟨rfl, rfl⟩
local macro_rules | `(tactic| k_steps) => `(tactic| repeat' (first | walk1 | (dsimp only; walk1)))
local macro_rules | `(tactic| walk_at "execs cons Assign cons") => `(tactic| refine wpAny_execs_cons ?_)
local macro_rules | `(tactic| walk_at "getItem ref int") => `(tactic| refine stop ?_)
local macro_rules | `(tactic| walk_at "setItem ref int") => `(tactic| refine stop ?_)
local macro_rules | `(tactic| walk_at "subscriptTail") => `(tactic| refine stop ?_)
local macro_rules | `(tactic| walk_at "call ref") => `(tactic| refine stop ?_)
noncomputable def startV (rs : List Int) (xs : List Str) : List (Int × Int × Str) := (rs.zip xs).map fun p => (p.1, p.1, p.2)
theorem startL_eq : ∀ (rl : List (Int × Tok)) (xl : List (Str × Tok)), startL rl xl = startV (rl.map (·.1)) (xl.map (·.1))
  | [], _ => rfl
  | _ :: _, [] => rfl
  | p :: r, q :: s => by
    have := startL_eq r s
    unfold startL startV at this ⊢
    simp only [List.zip_cons_cons, List.map_cons, this]
theorem news_many {h₀ h h' : Heap} {L : Addr} {m : Str → Option Value} {ps news : List (Addr × Obj)} (F : Fr h₀ L h m) (hp : ∀ p ∈ ps, h'.get? p.1 = some p.2 ∧ h.get? p.1 = none) (N : News h₀ L h' news) : News h₀ L h' (ps ++ news) := fun p hp' => by
  rcases List.mem_append.mp hp' with hq | hq
  · have := hp p hq
    exact news_new (S := p.1) (o := p.2) F this.2 this.1 N (p.1, p.2) List.mem_cons_self
  · exact N p hq
theorem off_old {h₀ h : Heap} {L : Addr} {ps news : List (Addr × Obj)} (N : News h₀ L h news) (hp : ∀ p ∈ ps, h.get? p.1 = none) : ∀ p ∈ ps, ∀ q ∈ news, p.1 ≠ q.1 := fun p hpp q hq e => by
  have := hp p hpp
  rw [e, (N q hq).1] at this; cases this

set_option maxHeartbeats 8000000 in
theorem seg6 {w : World} {mean : ExcName → Option Value} {mg mb : Str → Option Value} {s₀ : Shared} {dp un : Nat} {fr : Option (List Env)} {gd : Option (List Code)} {Q : Flow → Shared → Prop} {E : Value → Shared → Prop}
   (KX : (hd.heap_1 w.params).In s₀.heap) (T : Tp mean mg mb s₀.heap) (hdp : dp + 16 < recursionLimit) (hun : un + 8 * 16 < cLine)
   {L R : Addr} {s : Shared} {m : Str → Option Value} {D D2 : Addr} {rl : List (Int × Tok)} {dl : List (Str × Tok)} {nR n2 : Nat} {x : Str} {tw tt : Tok} {tot : Int}
   (C : Cal s₀ s) (F : Fr s₀.heap L s.heap m) (hm : Agree m [(Str.ofString "script", .ref R), (Str.ofString "row", .str x tw), (Str.ofString "total", .int tot tt), (Str.ofString "ranks", .ref D), (Str.ofString "dressed", .ref D2)])
   (N : News s₀.heap L s.heap [(D2, listOf (strValues dl).toArray n2), (D, listOf (intVals rl).toArray nR)]) (hne : D2 ≠ D)
   (hx : x.length = 5) (ht0 : 0 ≤ tot) (ht1 : tot < 10 ^ 6) (hrl : rl.length = 5) (hdl : dl.length = 5) (hd4 : ∀ p ∈ dl, p.1.length ≤ 4)
   (hfit : joinFits 3 5 tot (startV (rl.map (·.1)) (addAt (dl.map (·.1)) ((tot.fdiv 7).fmod 5).toNat (menu2.getD ((tot.fdiv 35).fmod 3).toNat ⟨#[]⟩))))
   (k : ∀ s1 m1 t1 t2 D3 cs kk n3, Cal s₀ s1 → Fr s₀.heap L s1.heap m1 → Agree m1 [(Str.ofString "row", .str x t1), (Str.ofString "total", .int tot t2), (Str.ofString "ranks", .ref D), (Str.ofString "parts", .ref D3)] →
      News s₀.heap L s1.heap (PartsL D3 cs kk ++ [(D, listOf (intVals rl).toArray n3)]) → cs.map Cell.val = joinAll 3 5 tot (startV (rl.map (·.1)) (addAt (dl.map (·.1)) ((tot.fdiv 7).fmod 5).toNat (menu2.getD ((tot.fdiv 35).fmod 3).toNat ⟨#[]⟩))) → (∀ p ∈ PartsL D3 cs kk, p.1 ≠ D) →
      wpAny (model PR w) (LawAt dp un fr gd L) (execs (lawD.1.drop 15) (lawEnv L)) Q E s1) :
   wpAny (model PR w) (LawAt dp un fr gd L) (execs (lawD.1.drop 13) (lawEnv L)) Q E s := by
  have F' := fr_over F hm
  clear F
  with_unfolding_all show wpAny (model PR w) (LawAt dp un fr gd L) (execs (_ :: _) (lawEnv L)) Q E s
  k_steps
  unfold Stop
  have hp0 : 0 ≤ (tot.fdiv 7).fmod 5 := Int.fmod_nonneg_of_pos _ (by decide)
  have hp1 : (tot.fdiv 7).fmod 5 < 5 := Int.fmod_lt_of_pos _ (by decide)
  obtain ⟨⟨y1, ty1⟩, hy1⟩ : ∃ p, dl[((tot.fdiv 7).fmod 5).toNat]? = some p := ⟨_, List.getElem?_eq_getElem (by omega)⟩
  have hv1 : (strValues dl)[((tot.fdiv 7).fmod 5).toNat]? = some (.str y1 ty1) := by unfold strValues; rw [List.getElem?_map, hy1]; rfl
  refine wpAny_getItem_list (led_list (vs := strValues dl) N List.mem_cons_self) hp0 (by omega) (by simpa using hv1) ?_
  have hq0 : 0 ≤ (tot.fdiv 35).fmod 3 := Int.fmod_nonneg_of_pos _ (by decide)
  have hq1 : (tot.fdiv 35).fmod 3 < 3 := Int.fmod_lt_of_pos _ (by decide)
  dsimp only
  k_steps
  unfold Stop
  rename_i V h11 F11 N11 l11
  obtain ⟨tm, htm⟩ := menu2_at (s.toks + 1 + 1 + 1 + 1) (s.toks + 1 + 1 + 1 + 1 + 1) (s.toks + 1 + 1 + 1 + 1 + 1 + 1) hq0 hq1
  generalize hz : menu2.getD ((tot.fdiv 35).fmod 3).toNat ⟨#[]⟩ = z at htm hfit
  have hzl : z.length ≤ 3 := by rw [← hz]; exact menu2_len _
  refine item_any (x := .str z tm) (led_list (vs := [_, _, _]) N11 List.mem_cons_self) hq0 (by omega) (by simpa using htm) ?_ (by with_unfolding_all rfl)
  have hyl : y1.length ≤ 4 := hd4 _ (List.mem_of_getElem? hy1)
  dsimp only
  k_steps
  unfold Stop
  rename_i t12 k12 l12
  have hl5 : (strValues dl).length = 5 := by unfold strValues; rw [List.length_map]; exact hdl
  refine' ki_set (its := (strValues dl).toArray) (n := n2) (q := strValues (dl.set ((tot.fdiv 7).fmod 5).toNat (y1 ++ z, t12))) (news := [(D2, listOf (strValues dl).toArray n2), (D, listOf (intVals rl).toArray nR)]) ?F ?N hp0 ?hf ?e (Upd.head ?U) ?_
  case hf => omega
  case F => assumption
  case N => exact fun p hp => N11 p (List.mem_cons_of_mem _ hp)
  case e => rw [← set_vals]; refine ki_setL_at _ _ _ ?_; rw [hl5]; omega
  case U =>
    intro p hp
    rw [List.mem_singleton.mp hp]; exact Ne.symm hne
  intro h13 F13 N13
  dsimp only
  have hdm := addAt_map (t := t12) (z := z) rfl hy1
  generalize dl.set ((tot.fdiv 7).fmod 5).toNat (y1 ++ z, t12) = dl' at N13 hdm
  rw [← hdm] at hfit
  have hdl' : dl'.length = 5 := by
    have := congrArg List.length hdm
    unfold addAt at this
    rw [List.length_map, List.length_set, List.length_map] at this
    omega
  clear N11 F11
  k_steps
  unfold Stop
  refine' use_spec (joined_spec 3 tot _ _ D D2 rl dl' nR n2 _ (Frag.In.keeps KX F13.keep) (T.keeps F13.keep) (N13 _ (List.mem_cons_of_mem _ List.mem_cons_self)).1 (N13 _ List.mem_cons_self).1 hrl hdl' ?fit) ?F9 ?N9 ?d9 ?u9 ?_
  case fit => rw [startL_eq]; exact hfit
  case F9 => exact F13
  case N9 => exact N13
  case d9 => exact dp_lt (j := 13) hdp rfl
  case u9 => exact dp_lt (j := 99) hun rfl
  rintro v s5 C5 hk5 F25 N25 ⟨D3, cs, kk, rfl, hval, hcells⟩
  have N26 := news_many F13 hcells N25
  have hoff := off_old N13 (fun p hp => (hcells p hp).2)
  repeat' ((fail_if_success (with_reducible show wpAny _ _ (execs (Stmt.Assign _ _ _ :: _) _) _ _ _)); first | walk1 | (dsimp only; walk1))
  rename_i F27 N27
  have CC : Cal s₀ s5 := Cal.trans ⟨C.os, C.size, C.gens, C.bare⟩ ⟨C5.os, C5.size, C5.gens, C5.bare⟩
  refine k _ _ _ _ D3 cs kk nR ?_ F27 ⟨rfl, rfl, rfl, rfl, trivial⟩ (news_sub N27 ?_) (by rw [hval, startL_eq, hdm, ← hz]) ?_
  · exact ⟨CC.os, CC.size, CC.gens, CC.bare⟩
  · intro p hp
    rcases List.mem_append.mp hp with hp | hp
    · exact List.mem_append_left _ hp
    · rw [List.mem_singleton.mp hp]
      exact List.mem_append_right _ (List.mem_cons_of_mem _ List.mem_cons_self)
  · exact fun p hp => hoff p hp _ (List.mem_cons_of_mem _ List.mem_cons_self)
end Mine
end
end partA6
/-! part S1 -/
section partS1
open PySem PySem.W PyProof.Rows PySem.Calls Builtin Builtin.Str
set_option Elab.async false
set_option maxRecDepth 100000
set_option linter.all false
noncomputable section
namespace Mine
local macro_rules | `(tactic| omega) => `(tactic| lia)
theorem sorted_str {w : World} {A : Around} {E : Value → Shared → Prop} {s : Shared} {h₀ : Heap} {L : Addr} {m : Str → Option Value} {news : List (Addr × Obj)} {x : Str} {t : Tok} {Q : Value → Shared → Prop} (hh : A.handled = none)
    (F : Fr h₀ L s.heap m) (N : News h₀ L s.heap news) (h64 : x.length < 64)
    (h : ∀ D (s2 : Shared) (l : List (Str × Tok)) e, Cal s s2 → Fr h₀ L s2.heap m → News h₀ L s2.heap ((D, listOf (strValues l).toArray e) :: news) → (∀ q ∈ news, q.1 < D) → (l.map (·.1)).Perm (signs x) → sortedS (l.map (·.1)) = true → Q (.ref D) s2) :
    wpAny (model PR w) A (call (.builtin "sorted") [.str x t]) Q E s := by
  refine Calls.call_function_entry kind_sorted plain_sorted entry_sorted (args_sorted1 _) ?_
  unfold Builtin.«sorted»
  refine wpAny_bind (m := checkCount "sorted" 1 1 _) (wpAny_pure ?_)
  have hz : x.cps.size ≤ sizeLine := by rw [sizeLine_eq]; have : x.cps.size < 64 := h64; omega
  refine wpAny_bind (wpAny_collect_str (A := A.in1) hh x t (fun s' acc hk hg hd hos hacc => ?_) hz)
  have hc : CarriedAll acc.toList ((signs x).map .str) := carriedAll_of_get _ _ (by simp [hacc.1, signs]) fun j v hv => by
    obtain ⟨c, u, hc, rfl⟩ := hacc.2 j v (by simpa using hv)
    exact ⟨.str ⟨#[c]⟩, by simp [signs, hc], .str _ _⟩
  have hS := StrsAre.ofCarried hc
  have hlen : acc.toList.length < 64 := by
    have : acc.size = x.cps.size := hacc.1
    have h2 : x.cps.size < 64 := h64
    rw [Array.length_toList]; omega
  refine wpAny_bind (wpAny_newList ?_)
  have hoL : (s'.heap.push (seqObj "list" acc.toList.toArray 0)).get? s'.heap.objs.size = some (seqObj "list" acc.toList.toArray 0) := Heap.get?_push_size _ rfl
  show wpAny _ _ _ _ _ { s' with heap := s'.heap.push (seqObj "list" acc.toList.toArray 0) }
  refine wpAny_bind (wpAny_holding (wpAny_call_entry slot_list_sort ⟨_, hoL, rfl⟩ entry_list_sort (list_sort_treeK strKind_oneLt hoL hS.keysOf (fun v₁ v₂ rest e => keyKind_strs (by rw [← e]; exact hS)) hlen fun st' hp hs => ⟨_, rfl, ?_⟩) (args_list_sort _)))
  obtain ⟨ss', h1, h2, h3⟩ := sorted_out_str hS hp hs
  obtain ⟨l, hl, hl2⟩ := strsAre_values h1
  refine wpAny_pure ⟨_, rfl, ?_⟩
  obtain ⟨e, he⟩ := sortedHeap_at (vs := acc.toList) (out := (arrOf st').map (·.2)) hoL
  have hk2 : ∀ b o, s.heap.get? b = some o → (sortedHeap (s'.heap.push (seqObj "list" acc.toList.toArray 0)) s'.heap.objs.size acc.toList ((arrOf st').map (·.2))).get? b = some o := fun b o q => by
    have q1 := hk b o q
    have hlt := Heap.lt_size q1
    rw [sortedHeap_old (Nat.ne_of_lt hlt) (by rw [Heap.size_push]; exact Nat.lt_succ_of_lt hlt)]
    exact Heap.get?_push_of_some _ q1
  rw [← hl2] at h2 h3
  have he' : (sortedHeap (s'.heap.push (seqObj "list" acc.toList.toArray 0)) s'.heap.objs.size acc.toList ((arrOf st').map (·.2))).get? s'.heap.objs.size = some (listOf (strValues l).toArray e) := by
    rw [he, ← hl, Array.toArray_toList]
  refine h s'.heap.objs.size _ l e ⟨hos, by rw [hg]; exact Nat.le_refl _, fun k _ => by rw [hg], fun b => by rw [hg]; exact b⟩ (F.kept hk2) (news_new (F.kept hk) (Heap.get?_none_of_le (Nat.le_refl _)) he' (fun p hp => ⟨hk2 _ _ (N p hp).1, (N p hp).2⟩)) (fun q hq => Heap.lt_size (hk _ _ (N q hq).1)) h2 h3
end Mine
end
end partS1
/-! part A7 -/
section partA7
open PySem PySem.W PyProof.Rows PySem.Calls Builtin Builtin.Str
set_option Elab.async false
set_option maxRecDepth 100000
set_option linter.all false
noncomputable section
namespace Mine
local macro_rules | `(tactic| omega) => `(tactic| lia)
theorem fillA7 : PySem.Challenge.rw_wr0027_01.prog = PySem.Challenge.rw_wr0027_01.prog ∧ hd.heap_1 = hd.heap_1 := by
  k_fill
  exact ⟨rfl, rfl⟩
local macro_rules | `(tactic| k_steps) => `(tactic| repeat' (first | walk1 | (dsimp only; walk1)))
local macro_rules | `(tactic| walk_at "execs cons Assign cons") => `(tactic| refine wpAny_execs_cons ?_)
local macro_rules | `(tactic| walk_at "call builtin:sorted") => `(tactic| refine stop ?_)
local macro_rules | `(tactic| walk_at "exec For Name Call cons nil") => `(tactic| refine stop ?_)
local macro_rules | `(tactic| walk_at "exec For Name List cons nil") => `(tactic| refine stop ?_)
local macro_rules | `(tactic| walk_at "pyIter ref") => `(tactic| refine stop ?_)
local macro_rules | `(tactic| walk_at "binaryOp Add ref ref") => `(tactic| refine stop ?_)
local macro_rules | `(tactic| walk_at "binaryOp Add str str") => `(tactic| refine stop ?_)
local macro_rules | `(tactic| walk_at "call builtin:str.join") => `(tactic| refine stop ?_)
local macro_rules | `(tactic| walk_at "subscriptTail") => `(tactic| refine stop ?_)
local macro_rules | `(tactic| walk_at "call ref") => `(tactic| refine stop ?_)
local macro_rules | `(tactic| walk_at "call type:range") => `(tactic| ((with_reducible show wpAny _ _ (call _ _) (fun _ _ => wpAny _ _ _ (fun _ _ => LoopR _ _ _ _ _ _ _ _ _ _) _ _) _ _); refine stop ?_))

set_option maxHeartbeats 8000000 in
theorem seg7 {w : World} {mean : ExcName → Option Value} {mg mb : Str → Option Value} {s₀ : Shared} {dp un : Nat} {fr : Option (List Env)} {gd : Option (List Code)} {Q : Flow → Shared → Prop} {E : Value → Shared → Prop}
   (KX : (hd.heap_1 w.params).In s₀.heap) (T : Tp mean mg mb s₀.heap) (hdp : dp + 16 < recursionLimit) (hun : un + 8 * 16 < cLine)
   {L D D3 : Addr} {s : Shared} {m : Str → Option Value} {rl : List (Int × Tok)} {nR kk : Nat} {cs : List Cell} {x : Str} {tw tt : Tok} {tot : Int}
   (C : Cal s₀ s) (F : Fr s₀.heap L s.heap m) (hm : Agree m [(Str.ofString "row", .str x tw), (Str.ofString "total", .int tot tt), (Str.ofString "ranks", .ref D), (Str.ofString "parts", .ref D3)])
   (N : News s₀.heap L s.heap (PartsL D3 cs kk ++ [(D, listOf (intVals rl).toArray nR)])) (hx : x.length = 5)
   (k : ∀ s1 m1 t1 t2 O ol no, Cal s₀ s1 → Fr s₀.heap L s1.heap m1 → Agree m1 [(Str.ofString "row", .str x t1), (Str.ofString "total", .int tot t2), (Str.ofString "ranks", .ref D), (Str.ofString "parts", .ref D3), (Str.ofString "found", .bool false), (Str.ofString "order", .ref O)] →
      News s₀.heap L s1.heap ((O, listOf (strValues ol).toArray no) :: (PartsL D3 cs kk ++ [(D, listOf (intVals rl).toArray nR)])) → (∀ q ∈ PartsL D3 cs kk ++ [(D, listOf (intVals rl).toArray nR)], q.1 < O) → (ol.map (·.1)).Perm (signs x) → sortedS (ol.map (·.1)) = true →
      wpAny (model PR w) (LawAt dp un fr gd L) (execs (lawD.1.drop 17) (lawEnv L)) Q E s1) :
   wpAny (model PR w) (LawAt dp un fr gd L) (execs (lawD.1.drop 15) (lawEnv L)) Q E s := by
  have F' := fr_over F hm
  clear F
  with_unfolding_all show wpAny (model PR w) (LawAt dp un fr gd L) (execs (_ :: _) (lawEnv L)) Q E s
  k_steps
  unfold Stop
  rename_i F1 N1
  refine sorted_str rfl F1 N1 (by omega) ?_
  intro O s2 ol no C2 F2 N2 l2 hperm hsort
  repeat' ((fail_if_success (with_reducible show wpAny _ _ (execs (Stmt.For _ _ _ _ _ :: _) _) _ _ _)); first | walk1 | (dsimp only; walk1))
  rename_i F3 N3
  exact k _ _ _ _ O ol no ((Cal.trans ⟨C.os, C.size, C.gens, C.bare⟩ ⟨C2.os, C2.size, C2.gens, C2.bare⟩ : Cal s₀ s2).heap _ _) F3 ⟨rfl, rfl, rfl, rfl, rfl, rfl, trivial⟩ N3 l2 hperm hsort
/-- the two orders that a row of four letters may not stand in -/
noncomputable def fours (l : List Str) : List (List Str) := match l with | [a, b, c, d] => [[b, d, a, c], [c, a, d, b]] | _ => []
noncomputable def fourWant (q : List Str) : Str := Str.ofString "..." ++ Txt.join (Str.ofString "...") q ++ Str.ofString "..."
noncomputable def foundAt (x : Str) (ys : List Str) (i : Nat) : Bool := (fours (ys.take i ++ ys.drop (i + 1))).any fun q => ellB (fourWant q) x
noncomputable def foundAll (x : Str) (ys : List Str) : Bool := (List.range 5).any (foundAt x ys)
theorem four_of {α : Type} {l : List α} (h : l.length = 4) : ∃ a b c d, l = [a, b, c, d] := by
  match l, h with
  | [a, b, c, d], _ => exact ⟨a, b, c, d, rfl⟩
set_option maxHeartbeats 8000000 in
theorem seg8 {w : World} {mean : ExcName → Option Value} {mg mb : Str → Option Value} {s₀ : Shared} {dp un : Nat} {fr : Option (List Env)} {gd : Option (List Code)} {Q : Flow → Shared → Prop} {E : Value → Shared → Prop}
   (KX : (hd.heap_1 w.params).In s₀.heap) (T : Tp mean mg mb s₀.heap) (hdp : dp + 16 < recursionLimit) (hun : un + 8 * 16 < cLine)
   {L D D3 O : Addr} {s : Shared} {m : Str → Option Value} {ol : List (Str × Tok)} {no : Nat} {x : Str} {tw tt : Tok} {tot : Int} {rest : List (Addr × Obj)}
   (C : Cal s₀ s) (F : Fr s₀.heap L s.heap m) (hm : Agree m [(Str.ofString "row", .str x tw), (Str.ofString "total", .int tot tt), (Str.ofString "ranks", .ref D), (Str.ofString "parts", .ref D3), (Str.ofString "found", .bool false), (Str.ofString "order", .ref O)])
   (N : News s₀.heap L s.heap ((O, listOf (strValues ol).toArray no) :: rest)) (l2 : ∀ q ∈ rest, q.1 < O) (hx : x.length = 5) (hol : ol.length = 5) (ho1 : ∀ p ∈ ol, p.1.length ≤ 1)
   (k : ∀ s1 m1 t1 t2, Cal s₀ s1 → Fr s₀.heap L s1.heap m1 → Agree m1 [(Str.ofString "row", .str x t1), (Str.ofString "total", .int tot t2), (Str.ofString "ranks", .ref D), (Str.ofString "parts", .ref D3), (Str.ofString "found", .bool (foundAll x (ol.map (·.1))))] → News s₀.heap L s1.heap rest →
      wpAny (model PR w) (LawAt dp un fr gd L) (execs (lawD.1.drop 18) (lawEnv L)) Q E s1) :
   wpAny (model PR w) (LawAt dp un fr gd L) (execs (lawD.1.drop 17) (lawEnv L)) Q E s := by
  have F' := fr_over F hm
  clear F
  with_unfolding_all show wpAny (model PR w) (LawAt dp un fr gd L) (execs (_ :: _) (lawEnv L)) Q E s
  k_steps
  unfold Stop
  refine cutX (Js2 s₀ L rest (fun t1 t2 => [(Str.ofString "row", .str x t1), (Str.ofString "total", .int tot t2), (Str.ofString "ranks", .ref D), (Str.ofString "parts", .ref D3), (Str.ofString "found", .bool (foundAll x (ol.map (·.1))))])) ?_ ?_
  · refine for_road (h₀ := s₀.heap) (s₀ := s₀) ?_
    k_steps
    unfold Stop
    refine' range_1 (fun j m news => La0 [(Str.ofString "row", .str x tw), (Str.ofString "total", .int tot tt), (Str.ofString "ranks", .ref D), (Str.ofString "parts", .ref D3), (Str.ofString "found", .bool ((List.range j).any (foundAt x (ol.map (·.1))))), (Str.ofString "order", .ref O)] ((O, listOf (strValues ol).toArray no) :: rest) m news) ?hh ?hb ?hb' ?F ?N ?C ?z ?_ ?_
    case hh => rfl
    case hb => decide
    case hb' => decide
    case F => assumption
    case N => assumption
    case C => exact C.heap _ _
    case z => exact ⟨⟨rfl, rfl, rfl, rfl, rfl, rfl, trivial⟩, rfl⟩
    · rintro I hI i v m1 news1 s1 own hi' ⟨t1, rfl⟩ C1 hadr ⟨hag, hnews⟩ hown F1 N1
      subst hnews
      have F1' := fr_over F1 hag
      clear F1
      have hi5 : i < 5 := hi'
      k_steps
      unfold Stop
      have hz5 : (strValues ol).toArray.size ≤ sizeLine := by rw [sizeLine_eq]; simp only [strValues, List.size_toArray, List.length_map]; omega
      rename_i F3 N3
      refine' kmk_slice (s := ⟨_, _, _, _, _⟩) (its := (strValues ol).toArray) F3 N3 (led_list (s := ⟨_, _, _, _, _⟩) (vs := strValues ol) N3 List.mem_cons_self) (by constructor) (by constructor) ?_ (by with_unfolding_all rfl) (by intro _; with_unfolding_all rfl) hz5
      intro V1 h4 F4 N4 l4
      rw [slicePick_upto'] at N4
      k_steps
      unfold Stop
      rename_i F5 N5
      refine' add_lists (s := ⟨_, _, _, _, _⟩) (vs := (strValues ol).take i) (ws := (strValues ol).drop (i + 1)) F5 N5 ?hl ?hb ?_ ?sz
      case hl => exact led_list (s := ⟨_, _, _, _, _⟩) N5 (List.mem_cons_of_mem _ List.mem_cons_self)
      case hb => exact ⟨_, (N5 _ List.mem_cons_self).1, rfl, 0, by
        show Data.seq _ 0 = Data.seq _ 0
        rw [show ((i : Nat) : Int) + 1 = ((i + 1 : Nat) : Int) from rfl, slicePick_from']⟩
      case sz => rw [sizeLine_eq]; simp only [strValues, List.length_take, List.length_drop, List.length_map]; omega
      intro h6 F6 N6
      obtain ⟨⟨a, ta⟩, ⟨b, tb⟩, ⟨c, tc⟩, ⟨d, td⟩, hq⟩ := four_of (l := ol.take i ++ ol.drop (i + 1)) (by rw [List.length_append, List.length_take, List.length_drop]; omega)
      have hq2 : (strValues ol).take i ++ (strValues ol).drop (i + 1) = [.str a ta, .str b tb, .str c tc, .str d td] := by
        have : (strValues ol).take i ++ (strValues ol).drop (i + 1) = strValues (ol.take i ++ ol.drop (i + 1)) := by simp [strValues, List.map_take, List.map_drop]
        rw [this, hq]; rfl
      have hq3 : (ol.map (·.1)).take i ++ (ol.map (·.1)).drop (i + 1) = [a, b, c, d] := by
        have : (ol.map (·.1)).take i ++ (ol.map (·.1)).drop (i + 1) = (ol.take i ++ ol.drop (i + 1)).map (·.1) := by simp [List.map_take, List.map_drop]
        rw [this, hq]; rfl
      rw [hq2] at N6
      have hqm : ∀ p ∈ [(a, ta), (b, tb), (c, tc), (d, td)], p.1.length ≤ 1 := by
        intro p hp
        rw [← hq] at hp
        rcases List.mem_append.mp hp with hp | hp
        · exact ho1 p (List.mem_of_mem_take hp)
        · exact ho1 p (List.mem_of_mem_drop hp)
      have ha1 : a.length ≤ 1 := hqm (a, ta) (by simp)
      have hb1 : b.length ≤ 1 := hqm (b, tb) (by simp)
      have hc1 : c.length ≤ 1 := hqm (c, tc) (by simp)
      have hd1 : d.length ≤ 1 := hqm (d, td) (by simp)
      k_steps
      unfold Stop
      rename_i F7 N7
      have N8 := news_sub (a := (O, listOf (strValues ol).toArray no) :: rest ++ own) N7 (fun p hp => by
        refine List.mem_cons_of_mem _ (List.mem_cons_of_mem _ (List.mem_cons_of_mem _ hp)))
      clear N7
      refine cutX (Js0 s₀ L ((O, listOf (strValues ol).toArray no) :: rest ++ own) [(Str.ofString "row", .str x tw), (Str.ofString "total", .int tot tt), (Str.ofString "ranks", .ref D), (Str.ofString "parts", .ref D3), (Str.ofString "found", .bool ((List.range (i + 1)).any (foundAt x (ol.map (·.1))))), (Str.ofString "order", .ref O)]) ?_ ?_
      · refine for_road (h₀ := s₀.heap) (s₀ := s₀) ?_
        k_steps
        unfold Stop
        rename_i Va hA lA Vb hB lB V hC F8 N9 lC

        refine' loop_list (fun j m news => La0 [(Str.ofString "row", .str x tw), (Str.ofString "total", .int tot tt), (Str.ofString "ranks", .ref D), (Str.ofString "parts", .ref D3), (Str.ofString "found", .bool ((List.range i).any (foundAt x (ol.map (·.1))) || (([[b, d, a, c], [c, a, d, b]] : List (List Str)).take j).any fun q => ellB (fourWant q) x)), (Str.ofString "order", .ref O)] ((V, listOf #[.ref Va, .ref Vb] 0) :: (Vb, listOf (strValues [(c, tc), (a, ta), (d, td), (b, tb)]).toArray 0) :: (Va, listOf (strValues [(b, tb), (d, td), (a, ta), (c, tc)]).toArray 0) :: ((O, listOf (strValues ol).toArray no) :: rest ++ own)) m news) rfl (led_list (vs := [.ref Va, .ref Vb]) N9 List.mem_cons_self) ?hlL F8 N9 ?C ?z ?_ ?_
        case hlL => exact fun e => (N9 _ List.mem_cons_self).2.1 e
        case C => exact ⟨C1.os, C1.size, C1.gens, C1.bare⟩
        case z => exact ⟨⟨rfl, rfl, rfl, rfl, by show _ = some (Value.bool (_ || false)); rw [Bool.or_false]; rfl, rfl, trivial⟩, rfl⟩
        · rintro I2 hI2 j v m2 news2 s2 own2 hj hv C2 hadr2 ⟨hag2, hnews2⟩ hown2 F10 N10
          subst hnews2
          obtain ⟨Aj, ql, rfl, hmem, hql, hql1, hql4⟩ : ∃ Aj ql, v = .ref Aj ∧ (Aj, listOf (strValues ql).toArray 0) ∈ (V, listOf #[.ref Va, .ref Vb] 0) :: (Vb, listOf (strValues [(c, tc), (a, ta), (d, td), (b, tb)]).toArray 0) :: (Va, listOf (strValues [(b, tb), (d, td), (a, ta), (c, tc)]).toArray 0) :: ((O, listOf (strValues ol).toArray no) :: rest ++ own) ∧ ([[b, d, a, c], [c, a, d, b]] : List (List Str))[j]? = some (ql.map (·.1)) ∧ (∀ p ∈ ql, p.1.length ≤ 1) ∧ ql.length = 4 := by
            match j, hj with
            | 0, _ => exact ⟨_, [(b, tb), (d, td), (a, ta), (c, tc)], (Option.some.inj hv).symm, List.mem_cons_of_mem _ (List.mem_cons_of_mem _ List.mem_cons_self), rfl, by simp [ha1, hb1, hc1, hd1], rfl⟩
            | 1, _ => exact ⟨_, [(c, tc), (a, ta), (d, td), (b, tb)], (Option.some.inj hv).symm, List.mem_cons_of_mem _ List.mem_cons_self, rfl, by simp [ha1, hb1, hc1, hd1], rfl⟩
          have F11 := fr_over F10 hag2
          clear F10
          have hms : ∀ p ∈ ql, p.1.length ≤ 1 := hql1
          have hsum := parts_sum 1 ql hql1
          k_steps
          unfold Stop
          rename_i F12 N12
          refine join_listW (ys := ql.map (·.1)) (led_list (vs := strValues ql) N12 (List.mem_append_left _ hmem)) (strsAre_of_values ql) (by decide) (by rw [List.length_map]; omega) ?_
          intro t12 k12
          have hjl : (Txt.join (Str.ofString "...") (ql.map (·.1))).length ≤ 16 := by
            show (glued _ _).length ≤ 16
            rw [StrLaws.glued_eq_join]
            refine Nat.le_trans (StrLaws.join_length_le _ _) ?_
            rw [List.length_map, show (Str.ofString "...").length = 3 from by decide]
            omega
          have q3 : (Str.ofString "...").length = 3 := by decide
          k_steps
          unfold Stop
          refine PyProof.Rows.add_str ?_ (by rw [sizeLine_eq]; omega)
          intro t13 k13
          k_steps
          unfold Stop
          refine PyProof.Rows.add_str ?_ (by rw [Str.length_append, sizeLine_eq]; omega)
          intro t14 k14
          dsimp only
          generalize hwn : Str.ofString "..." ++ Txt.join (Str.ofString "...") (ql.map (·.1)) ++ Str.ofString "..." = wn
          have hwl : wn.length ≤ 30 := by rw [← hwn]; simp only [Str.length_append]; omega
          replace hwn : fourWant (ql.map (·.1)) = wn := hwn
          k_steps
          unfold Stop
          refine' use_in KX T (fun s u v => ell_short wn x _ _ s u v ?w1 ?w2) ?F9 ?N9 ?d9 ?u9 ?_
          case w1 => omega
          case w2 => omega
          case F9 => exact F12
          case N9 => exact N12
          case d9 => exact dp_lt (j := 2) hdp rfl
          case u9 => exact dp_lt (j := 11) hun rfl
          rintro v s5 C5 hk5 F15 N15 rfl
          have CC : Cal s₀ s5 := Cal.trans ⟨C2.os, C2.size, C2.gens, C2.bare⟩ ⟨C5.os, C5.size, C5.gens, C5.bare⟩
          have htk : ([[b, d, a, c], [c, a, d, b]] : List (List Str)).take (j + 1) = ([[b, d, a, c], [c, a, d, b]] : List (List Str)).take j ++ [ql.map (·.1)] := by rw [List.take_add_one, hql]; rfl
          have hany : (([[b, d, a, c], [c, a, d, b]] : List (List Str)).take (j + 1)).any (fun q => ellB (fourWant q) x) = ((([[b, d, a, c], [c, a, d, b]] : List (List Str)).take j).any (fun q => ellB (fourWant q) x) || ellB wn x) := by
            rw [htk, List.any_append, ← hwn]; simp
          cases hel : ellB wn x
          · k_steps
            refine ⟨⟨CC.os, CC.size, CC.gens, CC.bare⟩, trivial, _, (V, listOf #[.ref Va, .ref Vb] 0) :: (Vb, listOf (strValues [(c, tc), (a, ta), (d, td), (b, tb)]).toArray 0) :: (Va, listOf (strValues [(b, tb), (d, td), (a, ta), (c, tc)]).toArray 0) :: ((O, listOf (strValues ol).toArray no) :: rest ++ own), by assumption, by assumption, rfl, ⟨rfl, rfl, rfl, rfl, by rw [hany, hel, Bool.or_false]; rfl, rfl, trivial⟩, rfl⟩
          · k_steps
            refine ⟨⟨CC.os, CC.size, CC.gens, CC.bare⟩, trivial, _, (V, listOf #[.ref Va, .ref Vb] 0) :: (Vb, listOf (strValues [(c, tc), (a, ta), (d, td), (b, tb)]).toArray 0) :: (Va, listOf (strValues [(b, tb), (d, td), (a, ta), (c, tc)]).toArray 0) :: ((O, listOf (strValues ol).toArray no) :: rest ++ own), by assumption, by assumption, rfl, ⟨rfl, rfl, rfl, rfl, by rw [hany, hel, Bool.or_true, Bool.or_true]; rfl, rfl, trivial⟩, rfl⟩
        · rintro s2 m2 news2 C2 hadr2 ⟨hag2, hnews2⟩ F10 N10
          subst hnews2
          refine ⟨C2, m2, F10, ⟨hag2.1, hag2.2.1, hag2.2.2.1, hag2.2.2.2.1, ?_, hag2.2.2.2.2.2.1, trivial⟩, fun p hp => N10 p (List.mem_cons_of_mem _ (List.mem_cons_of_mem _ (List.mem_cons_of_mem _ hp)))⟩
          have := hag2.2.2.2.2.1
          rw [this, List.range_succ, List.any_append]
          congr 3
          show _ = (foundAt x (ol.map (·.1)) i || false)
          unfold foundAt
          rw [hq3]; simp [fours]
      · rintro s4 ⟨C4, m4, F9, hag4, N9⟩
        k_steps
        exact ⟨C4, trivial, m4, (O, listOf (strValues ol).toArray no) :: rest, F9, N9, rfl, hag4, rfl⟩
    · rintro s1 m1 news1 C1 hadr ⟨hag, hnews⟩ F1 N1
      subst hnews
      exact ⟨C1, m1, _, _, F1, ⟨hag.1, hag.2.1, hag.2.2.1, hag.2.2.2.1, hag.2.2.2.2.1, trivial⟩, fun p hp => N1 p (List.mem_cons_of_mem _ hp)⟩
  · rintro s1 ⟨C1, m1, t1, t2, F1, hag, N1⟩
    exact k s1 m1 t1 t2 C1 F1 hag N1
end Mine
end
end partA7
/-! part A8 -/
section partA8
open PySem PySem.W PyProof.Rows PySem.Calls Builtin Builtin.Str
set_option Elab.async false
set_option maxRecDepth 100000
set_option linter.all false
noncomputable section
namespace Mine
local macro_rules | `(tactic| omega) => `(tactic| lia)
theorem fillA8 : PySem.Challenge.rw_wr0027_01.prog = PySem.Challenge.rw_wr0027_01.prog ∧ hd.heap_1 = hd.heap_1 := by
  k_fill
  exact ⟨rfl, rfl⟩
local macro_rules | `(tactic| k_steps) => `(tactic| repeat' (first | walk1 | (dsimp only; walk1)))
local macro_rules | `(tactic| walk_at "execs cons Assign cons") => `(tactic| refine wpAny_execs_cons ?_)
local macro_rules | `(tactic| walk_at "exec For Name Call cons nil") => `(tactic| refine stop ?_)
local macro_rules | `(tactic| walk_at "exec For Name Tuple cons nil") => `(tactic| refine stop ?_)
local macro_rules | `(tactic| walk_at "exec For Tuple List cons nil") => `(tactic| refine stop ?_)
local macro_rules | `(tactic| walk_at "pyIter ref") => `(tactic| refine stop ?_)
local macro_rules | `(tactic| walk_at "call builtin:len") => `(tactic| refine stop ?_)
local macro_rules | `(tactic| walk_at "binaryOp Add str str") => `(tactic| refine stop ?_)
local macro_rules | `(tactic| walk_at "compareOp IsNot bool bool") => `(tactic| refine stop ?_)
local macro_rules | `(tactic| walk_at "call ref") => `(tactic| refine stop ?_)
local macro_rules | `(tactic| walk_at "call type:range") => `(tactic| ((with_reducible show wpAny _ _ (call _ _) (fun _ _ => wpAny _ _ _ (fun _ _ => LoopR _ _ _ _ _ _ _ _ _ _) _ _) _ _); refine stop ?_))

set_option maxHeartbeats 8000000 in
theorem seg9 {w : World} {mean : ExcName → Option Value} {mg mb : Str → Option Value} {s₀ : Shared} {dp un : Nat} {fr : Option (List Env)} {gd : Option (List Code)} {Q : Flow → Shared → Prop} {E : Value → Shared → Prop}
   (KX : (hd.heap_1 w.params).In s₀.heap) (T : Tp mean mg mb s₀.heap) (hdp : dp + 16 < recursionLimit) (hun : un + 8 * 16 < cLine)
   {L D D3 : Addr} {s : Shared} {m : Str → Option Value} {cs : List Cell} {kk : Nat} {x : Str} {tw tt : Tok} {tot : Int} {rest : List (Addr × Obj)} {fd : Bool}
   (C : Cal s₀ s) (F : Fr s₀.heap L s.heap m) (hm : Agree m [(Str.ofString "row", .str x tw), (Str.ofString "total", .int tot tt), (Str.ofString "ranks", .ref D), (Str.ofString "parts", .ref D3), (Str.ofString "found", .bool fd)])
   (N : News s₀.heap L s.heap (PartsL D3 cs kk ++ rest)) (hc : cs.length ≤ 5) (hfd : fd = decide (cs.length > 1))
   (k : ∀ s1 m1 t1 t2, Cal s₀ s1 → Fr s₀.heap L s1.heap m1 → Agree m1 [(Str.ofString "row", .str x t1), (Str.ofString "total", .int tot t2), (Str.ofString "ranks", .ref D), (Str.ofString "parts", .ref D3)] → News s₀.heap L s1.heap (PartsL D3 cs kk ++ rest) →
      wpAny (model PR w) (LawAt dp un fr gd L) (execs (lawD.1.drop 19) (lawEnv L)) Q E s1) :
   wpAny (model PR w) (LawAt dp un fr gd L) (execs (lawD.1.drop 18) (lawEnv L)) Q E s := by
  have F' := fr_over F hm
  clear F
  with_unfolding_all show wpAny (model PR w) (LawAt dp un fr gd L) (execs (_ :: _) (lawEnv L)) Q E s
  k_steps
  unfold Stop
  refine' len_N (vs := cs.map fun c => Value.ref c.a) N List.mem_cons_self ?z ?_
  case z => rw [sizeLine_eq, List.length_map]; omega
  rw [List.length_map]
  repeat' ((fail_if_success (with_reducible show wpAny _ _ (compareOp CmpOp.NotEq (Value.bool _) (Value.bool _)) _ _ _)); (fail_if_success (with_reducible show wpAny _ _ (execs (Stmt.For _ _ _ _ _ :: _) _) _ _ _)); first | walk1 | (dsimp only; walk1))
  have hb : decide ((1 : Int) < (cs.length : Int)) = fd := by rw [hfd]; apply decide_eq_decide.mpr; omega
  rw [hb]
  have h01 : fd = true ∨ fd = false := by cases fd <;> simp
  clear hfd hb
  rcases h01 with rfl | rfl
  · repeat' ((fail_if_success (with_reducible show Stop _)); (fail_if_success (with_reducible show wpAny _ _ (execs (Stmt.For _ _ _ _ _ :: _) _) _ _ _)); first | walk1 | (dsimp only; walk1))
    dsimp only
    exact k _ _ _ _ ⟨C.os, C.size, C.gens, C.bare⟩ F' ⟨rfl, rfl, rfl, rfl, trivial⟩ N
  · repeat' ((fail_if_success (with_reducible show Stop _)); (fail_if_success (with_reducible show wpAny _ _ (execs (Stmt.For _ _ _ _ _ :: _) _) _ _ _)); first | walk1 | (dsimp only; walk1))
    dsimp only
    exact k _ _ _ _ ⟨C.os, C.size, C.gens, C.bare⟩ F' ⟨rfl, rfl, rfl, rfl, trivial⟩ N
structure SpotOk (x : Str) (i : Nat) : Prop where
  a : ellB (Txt.item x (i : Int) ++ Str.ofString "..." ++ Txt.item x 4) x = ((i : Int) == 0)
  b : ellB (Txt.item x 0 ++ Str.ofString "..." ++ Txt.item x (i : Int)) x = ((i : Int) == 4)
  c : ellB (Txt.slice x (some (i : Int)) none) x = ((i : Int) == 0)
  d : ellB (Txt.slice x none (some (i : Int))) x = false

set_option maxHeartbeats 8000000 in
theorem seg10 {w : World} {mean : ExcName → Option Value} {mg mb : Str → Option Value} {s₀ : Shared} {dp un : Nat} {fr : Option (List Env)} {gd : Option (List Code)} {Q : Flow → Shared → Prop} {E : Value → Shared → Prop}
   (KX : (hd.heap_1 w.params).In s₀.heap) (T : Tp mean mg mb s₀.heap) (hdp : dp + 16 < recursionLimit) (hun : un + 8 * 16 < cLine)
   {L D D3 : Addr} {s : Shared} {m : Str → Option Value} {x : Str} {tw tt : Tok} {tot : Int} {rest : List (Addr × Obj)}
   (C : Cal s₀ s) (F : Fr s₀.heap L s.heap m) (hm : Agree m [(Str.ofString "row", .str x tw), (Str.ofString "total", .int tot tt), (Str.ofString "ranks", .ref D), (Str.ofString "parts", .ref D3)])
   (N : News s₀.heap L s.heap rest) (hx : x.length = 5) (hsp : ∀ i, i < 5 → SpotOk x i)
   (k : ∀ s1 m1 t1 t2, Cal s₀ s1 → Fr s₀.heap L s1.heap m1 → Agree m1 [(Str.ofString "row", .str x t1), (Str.ofString "total", .int tot t2), (Str.ofString "ranks", .ref D), (Str.ofString "parts", .ref D3)] → News s₀.heap L s1.heap rest →
      wpAny (model PR w) (LawAt dp un fr gd L) (execs (lawD.1.drop 20) (lawEnv L)) Q E s1) :
   wpAny (model PR w) (LawAt dp un fr gd L) (execs (lawD.1.drop 19) (lawEnv L)) Q E s := by
  have F' := fr_over F hm
  clear F
  with_unfolding_all show wpAny (model PR w) (LawAt dp un fr gd L) (execs (_ :: _) (lawEnv L)) Q E s
  k_steps
  unfold Stop
  refine cutX (Js0 s₀ L rest [(Str.ofString "row", .str x tw), (Str.ofString "total", .int tot tt), (Str.ofString "ranks", .ref D), (Str.ofString "parts", .ref D3)]) ?_ ?_
  · refine for_road (h₀ := s₀.heap) (s₀ := s₀) ?_
    k_steps
    unfold Stop
    refine' range_1 (fun j m news => La0 [(Str.ofString "row", .str x tw), (Str.ofString "total", .int tot tt), (Str.ofString "ranks", .ref D), (Str.ofString "parts", .ref D3)] rest m news) ?hh ?hb ?hb' ?F ?N ?C ?z ?_ ?_
    case hh => rfl
    case hb => decide
    case hb' => decide
    case F => assumption
    case N => assumption
    case C => exact C.heap _ _
    case z => exact ⟨⟨rfl, rfl, rfl, rfl, trivial⟩, rfl⟩
    · rintro I hI i v m1 news1 s1 own hi' ⟨t1, rfl⟩ C1 hadr ⟨hag, hnews⟩ hown F1 N1
      subst hnews
      have F1' := fr_over F1 hag
      clear F1
      have hi5 : i < 5 := hi'
      obtain ⟨ha, hb, hc, hd⟩ := hsp i hi5
      have q3 : (Str.ofString "...").length = 3 := by decide
      k_steps
      unfold Stop
      refine PyProof.Rows.add_str ?_ (by rw [sizeLine_eq]; omega)
      intro t13 k13
      k_steps
      unfold Stop
      refine PyProof.Rows.add_str ?_ (by rw [Str.length_append, sizeLine_eq]; omega)
      intro t14 k14
      dsimp only
      k_steps
      unfold Stop
      refine' use_in KX T (fun s u v => ell_short (Txt.item x (i : Int) ++ Str.ofString "..." ++ Txt.item x 4) x _ _ s u v ?w1 ?w2) ?F9 ?N9 ?d9 ?u9 ?_
      case w1 => simp only [Str.length_append]; omega
      case w2 => omega
      case F9 => assumption
      case N9 => assumption
      case d9 => exact dp_lt (j := 2) hdp rfl
      case u9 => exact dp_lt (j := 11) hun rfl
      rintro v s5 C5 hk5 F15 N15 rfl
      have CC1 : Cal s₀ s5 := Cal.trans ⟨C1.os, C1.size, C1.gens, C1.bare⟩ ⟨C5.os, C5.size, C5.gens, C5.bare⟩
      clear C1 hk5 C5
      k_steps
      unfold Stop
      rw [ha]
      refine wpAny_isNot_self rfl ?_
      k_steps
      unfold Stop
      refine PyProof.Rows.add_str ?_ (by rw [sizeLine_eq]; omega)
      intro t13 k13
      k_steps
      unfold Stop
      refine PyProof.Rows.add_str ?_ (by rw [Str.length_append, sizeLine_eq]; omega)
      intro t14 k14
      dsimp only
      k_steps
      unfold Stop
      refine' use_in KX T (fun s u v => ell_short (Txt.item x 0 ++ Str.ofString "..." ++ Txt.item x (i : Int)) x _ _ s u v ?w1 ?w2) ?F9 ?N9 ?d9 ?u9 ?_
      case w1 => simp only [Str.length_append]; omega
      case w2 => omega
      case F9 => assumption
      case N9 => assumption
      case d9 => exact dp_lt (j := 2) hdp rfl
      case u9 => exact dp_lt (j := 11) hun rfl
      rintro v s5 C5 hk5 F15 N15 rfl
      have CC2 : Cal s₀ s5 := Cal.trans ⟨CC1.os, CC1.size, CC1.gens, CC1.bare⟩ ⟨C5.os, C5.size, C5.gens, C5.bare⟩
      clear CC1 hk5 C5
      k_steps
      unfold Stop
      rw [hb]
      refine wpAny_isNot_self rfl ?_
      k_steps
      unfold Stop
      refine' use_in KX T (fun s u v => ell_short (Txt.slice x (some (i : Int)) none) x _ _ s u v ?w1 ?w2) ?F9 ?N9 ?d9 ?u9 ?_
      case w1 => omega
      case w2 => omega
      case F9 => assumption
      case N9 => assumption
      case d9 => exact dp_lt (j := 2) hdp rfl
      case u9 => exact dp_lt (j := 11) hun rfl
      rintro v s5 C5 hk5 F15 N15 rfl
      have CC3 : Cal s₀ s5 := Cal.trans ⟨CC2.os, CC2.size, CC2.gens, CC2.bare⟩ ⟨C5.os, C5.size, C5.gens, C5.bare⟩
      clear CC2 hk5 C5
      k_steps
      unfold Stop
      rw [hc]
      refine wpAny_isNot_self rfl ?_
      k_steps
      unfold Stop
      refine' use_in KX T (fun s u v => ell_short (Txt.slice x none (some (i : Int))) x _ _ s u v ?w1 ?w2) ?F9 ?N9 ?d9 ?u9 ?_
      case w1 => omega
      case w2 => omega
      case F9 => assumption
      case N9 => assumption
      case d9 => exact dp_lt (j := 2) hdp rfl
      case u9 => exact dp_lt (j := 11) hun rfl
      rintro v s5 C5 hk5 F15 N15 rfl
      have CC4 : Cal s₀ s5 := Cal.trans ⟨CC3.os, CC3.size, CC3.gens, CC3.bare⟩ ⟨C5.os, C5.size, C5.gens, C5.bare⟩
      clear CC3 hk5 C5
      k_steps
      unfold Stop
      rw [hd]
      refine wpAny_isNot_self rfl ?_
      k_steps
      exact ⟨⟨CC4.os, CC4.size, CC4.gens, CC4.bare⟩, trivial, _, news1, by assumption, by assumption, rfl, ⟨rfl, rfl, rfl, rfl, trivial⟩, rfl⟩
    · rintro s1 m1 news1 C1 hadr ⟨hag, hnews⟩ F1 N1
      subst hnews
      exact ⟨C1, m1, F1, hag, N1⟩
  · rintro s1 ⟨C1, m1, F1, hag, N1⟩
    exact k s1 m1 _ _ C1 F1 hag N1
end Mine
end
end partA8
/-! part A9 -/
section partA9
open PySem PySem.W PyProof.Rows PySem.Calls Builtin Builtin.Str
set_option Elab.async false
set_option maxRecDepth 100000
set_option linter.all false
noncomputable section
namespace Mine
local macro_rules | `(tactic| omega) => `(tactic| lia)
theorem fillA9 : PySem.Challenge.rw_wr0027_01.prog = PySem.Challenge.rw_wr0027_01.prog ∧ hd.heap_1 = hd.heap_1 := by
  k_fill
  exact ⟨rfl, rfl⟩
local macro_rules | `(tactic| k_steps) => `(tactic| repeat' (first | walk1 | (dsimp only; walk1)))
local macro_rules | `(tactic| walk_at "execs cons Assign cons") => `(tactic| refine wpAny_execs_cons ?_)
local macro_rules | `(tactic| walk_at "exec For Name Tuple cons nil") => `(tactic| refine stop ?_)
local macro_rules | `(tactic| walk_at "exec For Tuple List cons nil") => `(tactic| refine stop ?_)
local macro_rules | `(tactic| walk_at "pyIter ref") => `(tactic| refine stop ?_)
local macro_rules | `(tactic| walk_at "binaryOp Add str str") => `(tactic| refine stop ?_)
local macro_rules | `(tactic| walk_at "compareOp IsNot bool bool") => `(tactic| refine stop ?_)
local macro_rules | `(tactic| walk_at "call ref") => `(tactic| refine stop ?_)

section
variable {w : World} {A : Around} {h₀ : Heap} {s₀ s : Shared} {env : Env} {body : List Stmt} {Q : Flow → Shared → Prop} {m : Str → Option Value} {news : List (Addr × Obj)}
/-- a loop over a tuple that stands -/
theorem loop_tuple {l : Addr} {vs : List Value} {x : Str} {px : Pos} (J : Nat → (Str → Option Value) → List (Addr × Obj) → Prop) (hh : A.handled = none) (hl : s.heap.IsTuple l vs.toArray) (hlL : l ≠ env.locals) (F : Fr h₀ env.locals s.heap m) (N : News h₀ env.locals s.heap news) (C : Cal s₀ s) (h0 : J 0 m news)
    (turn : ∀ I, s.heap.objs.size = I → TurnR w A h₀ s₀ env (.Name x px) body Q [I, l] vs.length (fun i v => vs[i]? = some v) news J)
    (done : ∀ s' m' news', Cal s₀ s' → SameAdr news news' → J vs.length m' news' → Fr h₀ env.locals s'.heap m' → News h₀ env.locals s'.heap news' → Q .next s') :
    wpAny (model PR w) A (pyIter (.ref l)) (fun it s₂ => LoopR w A h₀ s₀ env (.Name x px) body Q it s₂) (fun _ _ => False) s := by
  obtain ⟨ol, hol, _⟩ := id hl
  have hne : l ≠ s.heap.objs.size := Nat.ne_of_lt (Heap.lt_size hol)
  refine wpAny_pyIter_tuple hl ?_
  have W := Walks.tuple (prog := PR) (w := w) hh s.heap.objs.size l hne vs.toArray
  have hv : (fun (i : Nat) (v : Value) => vs.toArray[i]? = some v) = fun i v => vs[i]? = some v := by funext i v; simp
  rw [hv, List.size_toArray] at W
  refine loop_walks (fp := [s.heap.objs.size, l]) J W (fun _ _ _ _ _ h => wpAny_pure h) ?_ (Fr.base_none F (Nat.le_refl _)) (fun p hp => Nat.ne_of_lt (News.lt N p hp)) ⟨⟨_, Heap.get?_push_size _ rfl, rfl, rfl⟩, hl.push _⟩ (F.push _) (fun p hp => ⟨Heap.get?_push_of_some _ (N p hp).1, (N p hp).2⟩) (C.heap _ _) h0 (turn _ rfl) done
  intro h
  rcases List.mem_cons.mp h with h | h
  · exact absurd F.ns.lt (h ▸ Nat.lt_irrefl _)
  · exact hlL (List.mem_singleton.mp h).symm
/-- a loop over a list that stands, its items taken apart -/
theorem loop_listT {l : Addr} {vs : List Value} {elts : List Expr} {x1} {px : Pos} (J : Nat → (Str → Option Value) → List (Addr × Obj) → Prop) (hh : A.handled = none) (hl : s.heap.IsList l vs.toArray) (hlL : l ≠ env.locals) (F : Fr h₀ env.locals s.heap m) (N : News h₀ env.locals s.heap news) (C : Cal s₀ s) (h0 : J 0 m news)
    (turn : ∀ I, s.heap.objs.size = I → TurnR w A h₀ s₀ env (.Tuple elts x1 px) body Q [I, l] vs.length (fun i v => vs[i]? = some v) news J)
    (done : ∀ s' m' news', Cal s₀ s' → SameAdr news news' → J vs.length m' news' → Fr h₀ env.locals s'.heap m' → News h₀ env.locals s'.heap news' → Q .next s') :
    wpAny (model PR w) A (pyIter (.ref l)) (fun it s₂ => LoopR w A h₀ s₀ env (.Tuple elts x1 px) body Q it s₂) (fun _ _ => False) s := by
  obtain ⟨ol, hol, _⟩ := id hl
  have hne : l ≠ s.heap.objs.size := Nat.ne_of_lt (Heap.lt_size hol)
  refine wpAny_pyIter_list hl ?_
  have W := Walks.list (prog := PR) (w := w) hh s.heap.objs.size l hne vs.toArray
  have hv : (fun (i : Nat) (v : Value) => vs.toArray[i]? = some v) = fun i v => vs[i]? = some v := by funext i v; simp
  rw [hv, List.size_toArray] at W
  refine loop_walks (fp := [s.heap.objs.size, l]) J W (fun i v s Q st h => ?_) ?_ (Fr.base_none F (Nat.le_refl _)) (fun p hp => Nat.ne_of_lt (News.lt N p hp)) ⟨⟨_, Heap.get?_push_size _ rfl, rfl, rfl⟩, hl.push _⟩ (F.push _) (fun p hp => ⟨Heap.get?_push_of_some _ (N p hp).1, (N p hp).2⟩) (C.heap _ _) h0 (turn _ rfl) done
  · cases v with
    | ref T => exact wpAny_letOwnedTupleGo_listiter st.1 h
    | _ => exact wpAny_pure h
  intro h
  rcases List.mem_cons.mp h with h | h
  · exact absurd F.ns.lt (h ▸ Nat.lt_irrefl _)
  · exact hlL (List.mem_singleton.mp h).symm
end
noncomputable def tup2 (a : Str) (t : Tok) (b : Str) (u : Tok) : Obj := { cls := .type "tuple", data := .seq #[.str a t, .str b u] }
noncomputable def endsOf (x : Str) (sp : Int) : Str := Txt.slice x (some 2) (some sp) ++ Str.ofString "..." ++ Txt.slice x (some 3) none
structure EndsOk (x : Str) (sp : Int) : Prop where
  a : ellB (endsOf x sp) (Txt.slice x (some 2) none) = (sp == 3)
  b : ellB (Str.ofString "..." ++ endsOf x sp) x = (sp == 3)
  c : ellB (Str.ofString "..." ++ endsOf x sp ++ Str.ofString "...") x = (sp == 3)

set_option maxHeartbeats 8000000 in
theorem seg11 {w : World} {mean : ExcName → Option Value} {mg mb : Str → Option Value} {s₀ : Shared} {dp un : Nat} {fr : Option (List Env)} {gd : Option (List Code)} {Q : Flow → Shared → Prop} {E : Value → Shared → Prop}
   (KX : (hd.heap_1 w.params).In s₀.heap) (T : Tp mean mg mb s₀.heap) (hdp : dp + 16 < recursionLimit) (hun : un + 8 * 16 < cLine)
   {L D D3 : Addr} {s : Shared} {m : Str → Option Value} {x : Str} {tw tt : Tok} {tot : Int} {rest : List (Addr × Obj)}
   (C : Cal s₀ s) (F : Fr s₀.heap L s.heap m) (hm : Agree m [(Str.ofString "row", .str x tw), (Str.ofString "total", .int tot tt), (Str.ofString "ranks", .ref D), (Str.ofString "parts", .ref D3)])
   (N : News s₀.heap L s.heap rest) (hx : x.length = 5) (hsp : ∀ sp : Int, sp = 3 ∨ sp = 4 → EndsOk x sp)
   (k : ∀ s1 m1 t1 t2, Cal s₀ s1 → Fr s₀.heap L s1.heap m1 → Agree m1 [(Str.ofString "row", .str x t1), (Str.ofString "total", .int tot t2), (Str.ofString "ranks", .ref D), (Str.ofString "parts", .ref D3)] → News s₀.heap L s1.heap rest →
      wpAny (model PR w) (LawAt dp un fr gd L) (execs (lawD.1.drop 21) (lawEnv L)) Q E s1) :
   wpAny (model PR w) (LawAt dp un fr gd L) (execs (lawD.1.drop 20) (lawEnv L)) Q E s := by
  have F' := fr_over F hm
  clear F
  with_unfolding_all show wpAny (model PR w) (LawAt dp un fr gd L) (execs (_ :: _) (lawEnv L)) Q E s
  k_steps
  unfold Stop
  refine cutX (Js0 s₀ L rest [(Str.ofString "row", .str x tw), (Str.ofString "total", .int tot tt), (Str.ofString "ranks", .ref D), (Str.ofString "parts", .ref D3)]) ?_ ?_
  · refine for_road (h₀ := s₀.heap) (s₀ := s₀) ?_
    k_steps
    unfold Stop
    rename_i V h5 F5 N5 l5
    refine' loop_tuple (fun j m news => Agree m [(Str.ofString "row", .str x tw), (Str.ofString "total", .int tot tt), (Str.ofString "ranks", .ref D), (Str.ofString "parts", .ref D3)] ∧ news.tail = rest) rfl (vs := [.int 3 s.toks, .int 4 (s.toks + 1)]) ⟨_, (N5 _ List.mem_cons_self).1, rfl, _, rfl⟩ (N5 _ List.mem_cons_self).2.1 F5 N5 (C.heap _ _) ⟨⟨rfl, rfl, rfl, rfl, trivial⟩, rfl⟩ ?_ ?_
    · rintro I hI i v m1 news1 s1 own hi hv C1 hadr ⟨hag, hnews⟩ hown F1 N1
      obtain ⟨sp, t1, rfl, hsp34⟩ : ∃ sp t1, v = .int sp t1 ∧ (sp = 3 ∨ sp = 4) := by
        match i, hi with
        | 0, _ => exact ⟨3, _, (Option.some.inj hv).symm, .inl rfl⟩
        | 1, _ => exact ⟨4, _, (Option.some.inj hv).symm, .inr rfl⟩
      obtain ⟨ha, hb, hc⟩ := hsp sp hsp34
      have F1' := fr_over F1 hag
      clear F1
      have hs0 : 0 ≤ sp := by omega
      k_steps
      unfold Stop
      have q3 : (Str.ofString "...").length = 3 := by decide
      refine PyProof.Rows.add_str ?_ (by rw [sizeLine_eq]; omega)
      intro t13 k13
      k_steps
      unfold Stop
      refine PyProof.Rows.add_str ?_ (by rw [Str.length_append, sizeLine_eq]; omega)
      intro t14 k14
      dsimp only
      generalize hen : Txt.slice x (some 2) (some sp) ++ Str.ofString "..." ++ Txt.slice x (some 3) none = en
      have henl : en.length ≤ 13 := by rw [← hen]; simp only [Str.length_append]; omega
      replace hen : endsOf x sp = en := hen
      rw [hen] at ha hb hc
      k_steps
      unfold Stop
      refine cutX (Js0 s₀ L (news1 ++ own) [(Str.ofString "row", .str x tw), (Str.ofString "total", .int tot tt), (Str.ofString "ranks", .ref D), (Str.ofString "parts", .ref D3)]) ?_ ?_
      · refine for_road (h₀ := s₀.heap) (s₀ := s₀) ?_
        k_steps
        unfold Stop
        refine PyProof.Rows.add_str ?_ (by rw [sizeLine_eq]; omega)
        intro t15 k15
        dsimp only
        k_steps
        unfold Stop
        refine PyProof.Rows.add_str ?_ (by rw [sizeLine_eq]; omega)
        intro t16 k16
        dsimp only
        k_steps
        unfold Stop
        refine PyProof.Rows.add_str ?_ (by rw [Str.length_append, sizeLine_eq]; omega)
        intro t17 k17
        dsimp only
        k_steps
        unfold Stop
        rename_i t2 k2 a2 T0 g0 l0 T1 g1 l1 T2 g2 l2 Vl gV F20 N20 lV
        refine' loop_listT (fun j m news => La0 [(Str.ofString "row", .str x tw), (Str.ofString "total", .int tot tt), (Str.ofString "ranks", .ref D), (Str.ofString "parts", .ref D3), (Str.ofString "spot", .int sp t1)] ((Vl, listOf #[.ref T0, .ref T1, .ref T2] 0) :: (T2, tup2 (Str.ofString "..." ++ en ++ Str.ofString "...") t17 x tw) :: (T1, tup2 (Str.ofString "..." ++ en) t15 x tw) :: (T0, tup2 en t14 (Txt.slice x (some 2) none) t2) :: (news1 ++ own)) m news) rfl (led_list (vs := [.ref T0, .ref T1, .ref T2]) N20 List.mem_cons_self) (N20 _ List.mem_cons_self).2.1 F20 N20 ⟨C1.os, C1.size, C1.gens, C1.bare⟩ ⟨⟨rfl, rfl, rfl, rfl, rfl, trivial⟩, rfl⟩ ?_ ?_
        · rintro I2 hI2 j v m2 news2 s2 own2 hj hv C2 hadr2 ⟨hag2, hnews2⟩ hown2 F10 N10
          subst hnews2
          obtain ⟨Tj, wj, gj, tj, uj, rfl, hmem, hell, hwl, hgl⟩ : ∃ Tj wj gj tj uj, v = .ref Tj ∧ (Tj, tup2 wj tj gj uj) ∈ (Vl, listOf #[.ref T0, .ref T1, .ref T2] 0) :: (T2, tup2 (Str.ofString "..." ++ en ++ Str.ofString "...") t17 x tw) :: (T1, tup2 (Str.ofString "..." ++ en) t15 x tw) :: (T0, tup2 en t14 (Txt.slice x (some 2) none) t2) :: (news1 ++ own) ∧ ellB wj gj = (sp == 3) ∧ wj.length ≤ 30 ∧ gj.length ≤ 30 := by
            match j, hj with
            | 0, _ => exact ⟨_, _, _, _, _, (Option.some.inj hv).symm, List.mem_cons_of_mem _ (List.mem_cons_of_mem _ (List.mem_cons_of_mem _ List.mem_cons_self)), ha, by omega, by omega⟩
            | 1, _ => exact ⟨_, _, _, _, _, (Option.some.inj hv).symm, List.mem_cons_of_mem _ (List.mem_cons_of_mem _ List.mem_cons_self), hb, by rw [Str.length_append]; omega, by omega⟩
            | 2, _ => exact ⟨_, _, _, _, _, (Option.some.inj hv).symm, List.mem_cons_of_mem _ List.mem_cons_self, hc, by simp only [Str.length_append]; omega, by omega⟩
          have F11 := fr_over F10 hag2
          clear F10
          refine unpackN_ F11 N10 ⟨_, (N10 _ (List.mem_append_left _ hmem)).1, rfl, _, rfl⟩ rfl rfl rfl ?_
          intro h12 F12 N12
          clear F11 N10
          k_steps
          unfold Stop
          refine' use_in KX T (fun s u v => ell_short wj gj _ _ s u v ?w1 ?w2) ?F9 ?N9 ?d9 ?u9 ?_
          case w1 => omega
          case w2 => omega
          case F9 => assumption
          case N9 => assumption
          case d9 => exact dp_lt (j := 2) hdp rfl
          case u9 => exact dp_lt (j := 11) hun rfl
          rintro v s5 C5 hk5 F15 N15 rfl
          have CC : Cal s₀ s5 := Cal.trans ⟨C2.os, C2.size, C2.gens, C2.bare⟩ ⟨C5.os, C5.size, C5.gens, C5.bare⟩
          k_steps
          unfold Stop
          rw [hell]
          refine wpAny_isNot_self rfl ?_
          k_steps
          exact ⟨⟨CC.os, CC.size, CC.gens, CC.bare⟩, trivial, _, _, by assumption, N15, rfl, ⟨rfl, rfl, rfl, rfl, rfl, trivial⟩, rfl⟩
        · rintro s2 m2 news2 C2 hadr2 ⟨hag2, hnews2⟩ F10 N10
          subst hnews2
          exact ⟨C2, m2, F10, ⟨hag2.1, hag2.2.1, hag2.2.2.1, hag2.2.2.2.1, trivial⟩, fun p hp => N10 p (List.mem_cons_of_mem _ (List.mem_cons_of_mem _ (List.mem_cons_of_mem _ (List.mem_cons_of_mem _ hp))))⟩
      · rintro s4 ⟨C4, m4, F9, hag4, N9⟩
        k_steps
        exact ⟨C4, trivial, m4, news1, F9, N9, hadr, hag4, hnews⟩
    · rintro s1 m1 news1 C1 hadr ⟨hag, hnews⟩ F1 N1
      exact ⟨C1, m1, F1, hag, fun p hp => N1 p (List.mem_of_mem_tail (by rw [hnews]; exact hp))⟩
  · rintro s1 ⟨C1, m1, F1, hag, N1⟩
    exact k s1 m1 _ _ C1 F1 hag N1
end Mine
end
end partA9
/-! part A10 -/
section partA10
open PySem PySem.W PyProof.Rows PySem.Calls Builtin Builtin.Str
set_option Elab.async false
set_option maxRecDepth 100000
set_option linter.all false
noncomputable section
namespace Mine
local macro_rules | `(tactic| omega) => `(tactic| lia)
theorem fillA10 : PySem.Challenge.rw_wr0027_01.prog = PySem.Challenge.rw_wr0027_01.prog ∧ hd.heap_1 = hd.heap_1 := by
  k_fill
  exact ⟨rfl, rfl⟩
local macro_rules | `(tactic| k_steps) => `(tactic| repeat' (first | walk1 | (dsimp only; walk1)))
local macro_rules | `(tactic| walk_at "execs cons Assign cons") => `(tactic| refine wpAny_execs_cons ?_)
local macro_rules | `(tactic| walk_at "exec Assign cons ListComp") => `(tactic| refine stop ?_)
local macro_rules | `(tactic| walk_at "CompEnd") => `(tactic| refine stop ?_)
local macro_rules | `(tactic| walk_at "CompSrc") => `(tactic| refine stop ?_)
local macro_rules | `(tactic| walk_at "exec For Name Name cons nil") => `(tactic| refine stop ?_)
local macro_rules | `(tactic| walk_at "pyIter ref") => `(tactic| refine stop ?_)
local macro_rules | `(tactic| walk_at "binaryOp Add str str") => `(tactic| refine stop ?_)
local macro_rules | `(tactic| walk_at "compareOp IsNot bool bool") => `(tactic| refine stop ?_)
local macro_rules | `(tactic| walk_at "call ref") => `(tactic| refine stop ?_)
local macro_rules | `(tactic| walk_at "subscriptTail Name Constant ref int") => `(tactic| refine stop ?_)
local macro_rules | `(tactic| walk_at "eval Name") => `(tactic| ((with_reducible show wpAny _ _ (eval (Expr.Name _ _) (compEnvC _ _ _ _)) _ _ _); with_unfolding_all (first
  | (refine' nm_own ?N ?m ?C ?v ?_; (case N => with_reducible assumption); (case m => with_reducible assumption); (case C => with_reducible assumption); (case v => with_reducible assumption))
  | (refine' nm_cell ?N (by rfl) ?m ?d ?_; (case N => with_reducible assumption); (case m => with_reducible assumption); (case d => with_reducible assumption)))))

theorem off1_mem {D : Addr} : ∀ {l : List (Addr × Obj)}, LCg.Off1 D l → ∀ p ∈ l, p.1 ≠ D
  | [], _, _, h => nomatch h
  | _ :: _, x, p, h => by
    rcases List.mem_cons.mp h with rfl | h
    · exact x.1
    · exact off1_mem x.2 p h
theorem st_fold (a : Str) : ∀ (l : List (Nat × List Nat)) (st : Nat × Option Nat × List Str), (∀ y ∈ st.2.2, y.length ≤ a.length) →
    (l.foldl (stStep a) st).2.2.length ≤ st.2.2.length + l.length ∧ ∀ y ∈ (l.foldl (stStep a) st).2.2, y.length ≤ a.length
  | [], st, h => ⟨Nat.le_refl _, h⟩
  | it :: r, st, h => by
    have h1 : (∀ y ∈ (stStep a st it).2.2, y.length ≤ a.length) ∧ (stStep a st it).2.2.length ≤ st.2.2.length + 1 := by
      unfold stStep
      split
      · split
        · exact ⟨h, Nat.le_succ _⟩
        · split
          · refine ⟨?_, by simp⟩
            intro y hy
            rcases List.mem_append.mp hy with hy | hy
            · exact h y hy
            · rw [List.mem_singleton.mp hy]; exact Txt.slice_le _ _ _
          · exact ⟨h, Nat.le_succ _⟩
      · exact ⟨h, Nat.le_succ _⟩
    have h2 := st_fold a r (stStep a st it) h1.1
    refine ⟨?_, h2.2⟩
    have := h2.1
    rw [List.foldl_cons, List.length_cons]
    omega
theorem strip_len (a : Str) : (stripB a).length ≤ (a.length + 2) * a.length := by
  unfold stripB
  split
  · rw [Nat.add_mul]; omega
  · have h := st_fold a (escL 0 false a.cps.toList) (0, none, []) (by simp)
    have hL := escL_len a.cps.toList 0 false
    rw [show a.cps.toList.length = a.length from by simp [Str.length]] at hL
    have key : ∀ l : List Str, (∀ y ∈ l, y.length ≤ a.length) → l.length ≤ a.length + 2 → (Txt.join (Str.ofString "") l).length ≤ (a.length + 2) * a.length := by
      intro l h1 h2
      show (glued _ _).length ≤ _
      rw [StrLaws.glued_eq_join]
      refine Nat.le_trans (StrLaws.join_length_le _ _) ?_
      rw [show (Str.ofString "").length = 0 from by decide, Nat.mul_zero, Nat.add_zero]
      exact Nat.le_trans (StrLaws.sumLen_le l h1) (Nat.mul_le_mul_right _ h2)
    have h0 := h.1
    simp only [List.length_nil, Nat.zero_add] at h0
    dsimp only
    split
    · refine key _ ?_ (by rw [List.length_append, List.length_singleton]; omega)
      intro y hy
      rcases List.mem_append.mp hy with hy | hy
      · exact h.2 y hy
      · rw [List.mem_singleton.mp hy]; exact Txt.slice_le _ _ _
    · exact key _ h.2 (by omega)
theorem strip_small {a : Str} (h : a.length ≤ 42) : (stripB a).length ≤ 2000 :=
  Nat.le_trans (strip_len a) (Nat.le_trans (Nat.mul_le_mul (Nat.add_le_add_right h 2) h) (by decide))
structure TopOk (x : Str) : Prop where
  p : 1 ≤ x.length
  l : x.length ≤ 40
  c : Txt.item x 0 = Str.ofString "(" → checkB (Txt.slice x (some 1) none ++ Str.ofString "(") = false

set_option maxHeartbeats 8000000 in
theorem seg12 {w : World} {mean : ExcName → Option Value} {mg mb : Str → Option Value} {s₀ : Shared} {dp un : Nat} {fr : Option (List Env)} {gd : Option (List Code)} {Q : Flow → Shared → Prop} {E : Value → Shared → Prop}
   (KX : (hd.heap_1 w.params).In s₀.heap) (T : Tp mean mg mb s₀.heap) (hdp : dp + 16 < recursionLimit) (hun : un + 8 * 16 < cLine)
   {L D D3 : Addr} {s : Shared} {m : Str → Option Value} {x : Str} {tw tt : Tok} {tot : Int} {cs : List Cell} {kk : Nat} {rest : List (Addr × Obj)}
   (C : Cal s₀ s) (F : Fr s₀.heap L s.heap m) (hm : Agree m [(Str.ofString "row", .str x tw), (Str.ofString "total", .int tot tt), (Str.ofString "ranks", .ref D), (Str.ofString "parts", .ref D3)])
   (N : News s₀.heap L s.heap (PartsL D3 cs kk ++ rest)) (hc : cs.length ≤ 5)
   (k : ∀ s1 m1 t1 t2 W wl nw, Cal s₀ s1 → Fr s₀.heap L s1.heap m1 → Agree m1 [(Str.ofString "row", .str x t1), (Str.ofString "total", .int tot t2), (Str.ofString "ranks", .ref D), (Str.ofString "waiting", .ref W)] → News s₀.heap L s1.heap ((W, listOf (strValues wl).toArray nw) :: rest) →
      wl.map (·.1) = cs.map (·.x) → (∀ p ∈ rest, p.1 ≠ W) →
      wpAny (model PR w) (LawAt dp un fr gd L) (execs (lawD.1.drop 22) (lawEnv L)) Q E s1) :
   wpAny (model PR w) (LawAt dp un fr gd L) (execs (lawD.1.drop 21) (lawEnv L)) Q E s := by
  have F' := fr_over F hm
  clear F
  with_unfolding_all show wpAny (model PR w) (LawAt dp un fr gd L) (execs (_ :: _) (lawEnv L)) Q E s
  k_steps
  unfold Stop
  refine LCg.Assign_ListComp_U (h₀ := s₀.heap) (cl := []) F' rfl (by with_unfolding_all rfl) (by rfl) (by decide) (by rfl) (by decide) (by rfl) (by rfl) (by rfl) ?_
  k_steps
  unfold Stop
  refine' LCg.CompSrc.ledger (its := (cs.map fun c => Value.ref c.a).toArray) (k := kk) rfl F' N List.mem_cons_self ?sz ?_
  case sz => rw [sizeLine_eq, List.size_toArray, List.length_map]; omega
  intro g2
  rw [List.size_toArray, List.length_map]
  refine comp_ind (fun i ys news => ∃ l : List (Str × Tok), ys = strValues l ∧ l.map (·.1) = (cs.take i).map (·.x) ∧ news = PartsL D3 cs kk ++ rest) cs.length ?_ ?_ cs.length 0 [] _ (by omega) ⟨[], rfl, rfl, rfl⟩
  · rintro i ys news hi ⟨l, rfl, hl, rfl⟩ v I oI C oC DD m₂ h tk3 E' hc hC hx F5 N5 off ne
    have hv' : v = .ref cs[i].a := by
      have : (cs.map fun c => Value.ref c.a).toArray[i]? = some (.ref cs[i].a) := by simp [hi]
      rw [this] at hc; exact (Option.some.inj hc).symm
    subst hv'
    have hmC : (C, oC) ∈ (I, oI) :: (C, oC) :: (DD, LCg.lst (strValues l)) :: (PartsL D3 cs kk ++ rest) := by simp
    k_steps
    unfold Stop
    refine item_l2 (D := D3) (kk := kk) N5 (List.getElem_mem hi) (fun p hp => List.mem_cons_of_mem _ (List.mem_cons_of_mem _ (List.mem_cons_of_mem _ (List.mem_append_left _ hp)))) ?_ (by with_unfolding_all rfl)
    refine LCg.CompEnd.intro F5 N5 (PartsL D3 cs kk ++ rest) (fun p hp => hp) off (.inr ⟨_, List.mem_cons_self, rfl, _, rfl⟩) ⟨l ++ [(cs[i].x, cs[i].t3)], by rw [strValues, strValues, List.map_append]; rfl, ?_, rfl⟩
    rw [List.map_append, hl, List.take_add_one, List.getElem?_eq_getElem hi, List.map_append]; rfl
  · rintro ys news ⟨l, rfl, hl, rfl⟩
    intro W h7 tk7 F7 N7 o7
    rw [List.take_of_length_le (Nat.le_refl _)] at hl
    dsimp only
    refine k _ _ _ _ W l (strValues l).length ?_ F7 ⟨rfl, rfl, rfl, rfl, trivial⟩ (news_sub N7 ?_) hl ?_
    · exact ⟨C.os, C.size, C.gens, C.bare⟩
    · intro p hp
      rcases List.mem_cons.mp hp with rfl | hp
      · exact List.mem_cons_self
      · exact List.mem_cons_of_mem _ (List.mem_append_right _ hp)
    · exact fun p hp => off1_mem o7 p (List.mem_append_right _ hp)

set_option maxHeartbeats 8000000 in
theorem seg13 {w : World} {mean : ExcName → Option Value} {mg mb : Str → Option Value} {s₀ : Shared} {dp un : Nat} {fr : Option (List Env)} {gd : Option (List Code)} {Q : Flow → Shared → Prop} {E : Value → Shared → Prop}
   (KX : (hd.heap_1 w.params).In s₀.heap) (T : Tp mean mg mb s₀.heap) (hdp : dp + 16 < recursionLimit) (hun : un + 8 * 16 < cLine)
   {L D W : Addr} {s : Shared} {m : Str → Option Value} {x : Str} {tw tt : Tok} {tot : Int} {wl : List (Str × Tok)} {nw : Nat} {rest : List (Addr × Obj)}
   (C : Cal s₀ s) (F : Fr s₀.heap L s.heap m) (hm : Agree m [(Str.ofString "row", .str x tw), (Str.ofString "total", .int tot tt), (Str.ofString "ranks", .ref D), (Str.ofString "waiting", .ref W)])
   (N : News s₀.heap L s.heap ((W, listOf (strValues wl).toArray nw) :: rest)) (hw : ∀ p ∈ wl, TopOk p.1)
   (k : ∀ s1 m1 t1 t2, Cal s₀ s1 → Fr s₀.heap L s1.heap m1 → Agree m1 [(Str.ofString "row", .str x t1), (Str.ofString "total", .int tot t2), (Str.ofString "ranks", .ref D), (Str.ofString "waiting", .ref W)] → News s₀.heap L s1.heap ((W, listOf (strValues wl).toArray nw) :: rest) →
      wpAny (model PR w) (LawAt dp un fr gd L) (execs (lawD.1.drop 23) (lawEnv L)) Q E s1) :
   wpAny (model PR w) (LawAt dp un fr gd L) (execs (lawD.1.drop 22) (lawEnv L)) Q E s := by
  have F' := fr_over F hm
  clear F
  with_unfolding_all show wpAny (model PR w) (LawAt dp un fr gd L) (execs (_ :: _) (lawEnv L)) Q E s
  k_steps
  unfold Stop
  refine cutX (Js0 s₀ L ((W, listOf (strValues wl).toArray nw) :: rest) [(Str.ofString "row", .str x tw), (Str.ofString "total", .int tot tt), (Str.ofString "ranks", .ref D), (Str.ofString "waiting", .ref W)]) ?_ ?_
  · refine for_road (h₀ := s₀.heap) (s₀ := s₀) ?_
    k_steps
    unfold Stop
    refine' loop_list (fun j m news => La0 [(Str.ofString "row", .str x tw), (Str.ofString "total", .int tot tt), (Str.ofString "ranks", .ref D), (Str.ofString "waiting", .ref W)] ((W, listOf (strValues wl).toArray nw) :: rest) m news) rfl (led_list (vs := strValues wl) N List.mem_cons_self) (N _ List.mem_cons_self).2.1 F' N (C.heap _ _) ⟨⟨rfl, rfl, rfl, rfl, trivial⟩, rfl⟩ ?_ ?_
    · rintro I hI i v m1 news1 s1 own hi hv C1 hadr ⟨hag, hnews⟩ hown F1 N1
      subst hnews
      have F1' := fr_over F1 hag
      clear F1
      have hi' : i < wl.length := by simpa [strValues] using hi
      obtain ⟨⟨y, ty⟩, hy⟩ : ∃ p, wl[i]? = some p := ⟨_, List.getElem?_eq_getElem hi'⟩
      have hve : v = .str y ty := by
        have : (strValues wl)[i]? = some (.str y ty) := by simp [strValues, hy]
        rw [this] at hv; exact (Option.some.inj hv).symm
      subst hve
      obtain ⟨hp, hl, hck⟩ := hw _ (List.mem_of_getElem? hy)
      have hp' : 1 ≤ y.length := hp
      have hl' : y.length ≤ 40 := hl
      k_steps
      · have hit : (Txt.item y 0 == Str.ofString "(") = true := by assumption
        have hck' := hck (by simpa using hit)
        unfold Stop
        have q1 : (Str.ofString "(").length = 1 := by decide
        refine PyProof.Rows.add_str ?_ (by rw [sizeLine_eq]; omega)
        intro t13 k13
        dsimp only
        generalize hz : Txt.slice y (some 1) none ++ Str.ofString "(" = z at hck'
        have hzl : z.length ≤ 42 := by rw [← hz, Str.length_append]; omega
        k_steps
        unfold Stop
        refine' use_in KX T (fun s a b => check_spec z _ s a b (by omega) (strip_small hzl)) ?F9 ?N9 ?d9 ?u9 ?_
        case F9 => assumption
        case N9 => assumption
        case d9 => exact dp_lt (j := 4) hdp rfl
        case u9 => exact dp_lt (j := 27) hun rfl
        rintro v s2 C2 hk2 F2' N2' rfl
        have CC : Cal s₀ s2 := Cal.trans ⟨C1.os, C1.size, C1.gens, C1.bare⟩ ⟨C2.os, C2.size, C2.gens, C2.bare⟩
        rw [hck']
        k_steps
        unfold Stop
        refine wpAny_isNot_self rfl ?_
        k_steps
        exact ⟨⟨CC.os, CC.size, CC.gens, CC.bare⟩, trivial, _, (W, listOf (strValues wl).toArray nw) :: rest, by assumption, by assumption, rfl, ⟨rfl, rfl, rfl, rfl, trivial⟩, rfl⟩
      · exact ⟨⟨C1.os, C1.size, C1.gens, C1.bare⟩, trivial, _, (W, listOf (strValues wl).toArray nw) :: rest, by assumption, by assumption, rfl, ⟨rfl, rfl, rfl, rfl, trivial⟩, rfl⟩
    · rintro s1 m1 news1 C1 hadr ⟨hag, hnews⟩ F1 N1
      subst hnews
      exact ⟨C1, m1, F1, hag, N1⟩
  · rintro s1 ⟨C1, m1, F1, hag, N1⟩
    exact k s1 m1 _ _ C1 F1 hag N1
end Mine
end
end partA10
/-! part S2 -/
section partS2
open PySem PySem.W PyProof.Rows PySem.Calls Builtin Builtin.Str
set_option Elab.async false
set_option maxRecDepth 100000
set_option linter.all false
noncomputable section
namespace Mine
local macro_rules | `(tactic| omega) => `(tactic| lia)
theorem seq_list_iadd : seqSlot? (.type "list") (dunderI "add") = pure (some (.builtin "list.__iadd__")) := PySem.seqSlot_of PySem.F.slot_list_iadd.lookup (by decide +kernel)
theorem iadd_lists {w : World} {A : Around} {E : Value → Shared → Prop} {s : Shared} {h₀ : Heap} {L W V : Addr} {m : Str → Option Value} {news news' : List (Addr × Obj)} {vs ws : List Value} {n n2 : Nat} {Q : Value → Shared → Prop}
    (F : Fr h₀ L s.heap m) (N : News h₀ L s.heap news) (hb : (V, listOf ws.toArray n2) ∈ news) (hne : ws ≠ []) (U : Upd W (listOf vs.toArray n) (listOf (vs ++ ws).toArray (n + 1)) news news') (hz : vs.length + ws.length ≤ 10000)
    (h : ∀ h', Fr h₀ L h' m → News h₀ L h' news' → Q (.ref W) { s with heap := h' }) : wpAny (model PR w) A (inplaceOp .Add (.ref W) (.ref V)) Q E s := by
  obtain ⟨pre, post, rfl, rfl, a, c⟩ := U.split
  have z := N (W, listOf vs.toArray n) (List.mem_append.mpr (.inr (.head _)))
  have zb := N _ hb
  have ha : s.TypeIs (.ref W) "list" := ⟨_, z.1, rfl⟩
  have hbt : s.TypeIs (.ref V) "list" := ⟨_, zb.1, rfl⟩
  unfold inplaceOp
  refine wpAny_holding ?_
  have hfi : fillsInplaceSlot (.type "list") Operator.Add.info.2 (Operator.Add == .Add) = pure false := by
    unfold fillsInplaceSlot
    show (typeLookup (.type "list") (dunderI "add") >>= fun fi => pure (fi.isSome && !isSeqSlot fi)) = pure false
    rw [PySem.F.slot_list_iadd.lookup]
    show (pure _ : Sem Bool) = pure false
    congr 1
  refine wpAny_bind (wpAny_typeOf ha (wpAny_bind (wpAny_of_eq hfi ?_)))
  show wpAny _ A (if false = true then _ else _) Q E s
  rw [if_neg Bool.false_ne_true]
  refine wpAny_bind (wpAny_binaryOp1_none (nm := "add") ha hbt noFill_list_add ?_)
  refine wpAny_bind (wpAny_of_eq seq_list_iadd ?_)
  refine wpAny_bind (wpAny_rule ?_)
  refine wpAny_call_entry PySem.F.slot_list_iadd ha PySem.F.entry_list_iadd ?_ (PySem.F.args_list_iadd_2 _ _)
  show wpAny _ _ (Builtin.List.listExtendWith (.ref W) (.ref V) (.ref W)) _ _ s
  unfold Builtin.List.listExtendWith
  refine wpAny_bind (wpAny_typeOf hbt ?_)
  rw [if_pos (by simp)]
  refine wpAny_bind (listItems_at zb.1 rfl ?_)
  refine wpAny_bind (listItems_at z.1 rfl ?_)
  rw [if_neg (by
    have : Builtin.List.listTooLong (vs.toArray.size + ws.toArray.size) = false := by
      unfold Builtin.List.listTooLong
      rw [sizeLine_eq]; simp; omega
    rw [this]; simp)]
  refine wpAny_bind (listUpdate_at z.1 rfl ?_ (by rw [sizeLine_eq, List.size_toArray]; omega) (by rw [sizeLine_eq]; simp only [Array.size_append, List.size_toArray]; omega))
  refine wpAny_pure ⟨_, rfl, h _ (F.change (Heap.SameBut.update ..) z.2.1 z.2.2) (kl_turn _ N a c ?_ ?_)⟩
  · simp
  · rw [List.size_toArray, List.size_toArray, List.length_append]
    have := List.length_pos_iff.mpr hne
    omega
theorem kl_last_snoc (l : List Value) (y : Value) : kl_last (l ++ [y]) = some (l, y) := by
  induction l with
  | nil => rfl
  | cons x r ih => rw [List.cons_append]; unfold kl_last; rw [ih]
end Mine
end
end partS2
/-! part A11 -/
section partA11
open PySem PySem.W PyProof.Rows PySem.Calls Builtin Builtin.Str
set_option Elab.async false
set_option maxRecDepth 100000
set_option linter.all false
noncomputable section
namespace Mine
local macro_rules | `(tactic| omega) => `(tactic| lia)
theorem fillA11 : PySem.Challenge.rw_wr0027_01.prog = PySem.Challenge.rw_wr0027_01.prog ∧ hd.heap_1 = hd.heap_1 := by
  k_fill
  exact ⟨rfl, rfl⟩
local macro_rules | `(tactic| k_steps) => `(tactic| repeat' (first | walk1 | (dsimp only; walk1)))
local macro_rules | `(tactic| walk_at "execs cons Assign cons") => `(tactic| refine wpAny_execs_cons ?_)
local macro_rules | `(tactic| walk_at "exec While Compare cons nil") => `(tactic| refine stop ?_)
local macro_rules | `(tactic| walk_at "exec For Name Call cons nil") => `(tactic| refine stop ?_)
local macro_rules | `(tactic| walk_at "pyIter ref") => `(tactic| refine stop ?_)
local macro_rules | `(tactic| walk_at "call builtin:list.pop") => `(tactic| refine stop ?_)
local macro_rules | `(tactic| walk_at "call builtin:len") => `(tactic| refine stop ?_)
local macro_rules | `(tactic| walk_at "compareOp NotEq ref ref") => `(tactic| refine stop ?_)
local macro_rules | `(tactic| walk_at "compareOp IsNot bool bool") => `(tactic| refine stop ?_)
local macro_rules | `(tactic| walk_at "compareOp Lt str str") => `(tactic| refine stop ?_)
local macro_rules | `(tactic| walk_at "compareOp NotEq bool bool") => `(tactic| refine stop ?_)
local macro_rules | `(tactic| walk_at "call ref") => `(tactic| refine stop ?_)
local macro_rules | `(tactic| walk_at "inplaceOp Add ref ref") => `(tactic| refine stop ?_)
local macro_rules | `(tactic| walk_at "subscriptTail Name Constant ref int") => `(tactic| refine stop ?_)

inductive MailOk : Nat → Str → Prop
  | leaf {y : Str} (q : 1 ≤ y.length) (l : y.length ≤ 40) (o : PyData.strOk y = true) (h : (Txt.item y 0 == Str.ofString "(") = false) : MailOk 1 y
  | node {y : Str} {p a b : Nat} (q : 1 ≤ y.length) (l : y.length ≤ 40) (o : PyData.strOk y = true) (h : (Txt.item y 0 == Str.ofString "(") = true) (cut : mailB y = [p]) (pl : p < y.length) (ck : checkB (Txt.slice y (some ((p : Int) + 1)) (some (-1))) = true)
      (lt : ∀ u ∈ lettersB (Txt.slice y (some 1) (some (p : Int))), ∀ v ∈ lettersB (Txt.slice y (some ((p : Int) + 1)) none), decide (u.cps.toList < v.cps.toList) = (Txt.item y (p : Int) == Str.ofString "<"))
      (ha : MailOk a (Txt.slice y (some 1) (some (p : Int)))) (hb : MailOk b (Txt.slice y (some ((p : Int) + 1)) (some (-1)))) : MailOk (a + b + 1) y
theorem MailOk.base {n : Nat} {y : Str} (h : MailOk n y) : 1 ≤ n ∧ 1 ≤ y.length ∧ y.length ≤ 40 ∧ PyData.strOk y = true := by
  cases h with
  | leaf p l o h => exact ⟨Nat.le_refl _, p, l, o⟩
  | node p l o h => exact ⟨Nat.succ_le_succ (Nat.zero_le _), p, l, o⟩
inductive Wait : Nat → List Str → Prop
  | nil : Wait 0 []
  | snoc {n k : Nat} {l : List Str} {y : Str} (h : Wait n l) (hy : MailOk k y) : Wait (n + k) (l ++ [y])
theorem Wait.len {n : Nat} {l : List Str} (h : Wait n l) : l.length ≤ n ∧ ∀ y ∈ l, PyData.strOk y = true := by
  induction h with
  | nil => exact ⟨Nat.le_refl _, by simp⟩
  | snoc h hy ih =>
    have := hy.base
    refine ⟨by rw [List.length_append, List.length_singleton]; omega, fun y hy' => ?_⟩
    rcases List.mem_append.mp hy' with q | q
    · exact ih.2 y q
    · rw [List.mem_singleton.mp q]; exact this.2.2.2

theorem str_item_any {w : World} {A : Around} {E : Value → Shared → Prop} {s : Shared} {value slice : Expr} {y : Str} {t : Tok} {i : Int} {u : Tok} {Q : Value → Shared → Prop} (h0 : 0 ≤ i) (h1 : i < y.length) (h2 : y.length ≤ 100000) (h : Q (.str (Txt.item y i) s.toks) { s with toks := s.toks + 1 })
    (hs : subscripted slice false (.str y t) (.int i u) = operate [.str y t, .int i u] (getItem (.str y t) (.int i u)) := by with_unfolding_all rfl) :
    wpAny (model PR w) A (subscriptTail value slice (.str y t) (.int i u)) Q E s :=
  tail_any (typeIs_str _ _ _) PySem.F.slot_str_getitem.lookup (SB.getItem (fitsSsize_of (N := 9223372036854775808) (by omega) (by omega) (Int.le_refl _)) (charAt_isSome (by omega) (by omega)) h) hs
inductive MailInv (x : Str) (tw : Tok) (tot : Int) (tt : Tok) (D W : Addr) (rest : List (Addr × Obj)) (n : Nat) (m : Str → Option Value) (news : List (Addr × Obj)) : Prop
  | mk (wl : List (Str × Tok)) (nw : Nat) (a : Agree m [(Str.ofString "row", .str x tw), (Str.ofString "total", .int tot tt), (Str.ofString "ranks", .ref D), (Str.ofString "waiting", .ref W)]) (e : news = (W, listOf (strValues wl).toArray nw) :: rest) (hw : Wait n (wl.map (·.1))) (hn : n ≤ 1000)
set_option maxHeartbeats 8000000 in
theorem seg14 {w : World} {mean : ExcName → Option Value} {mg mb : Str → Option Value} {s₀ : Shared} {dp un : Nat} {fr : Option (List Env)} {gd : Option (List Code)} {Q : Flow → Shared → Prop} {E : Value → Shared → Prop}
   (KX : (hd.heap_1 w.params).In s₀.heap) (T : Tp mean mg mb s₀.heap) (hdp : dp + 16 < recursionLimit) (hun : un + 8 * 16 < cLine)
   {L D W : Addr} {s : Shared} {m : Str → Option Value} {x : Str} {tw tt : Tok} {tot : Int} {wl : List (Str × Tok)} {nw n₀ : Nat} {rest : List (Addr × Obj)}
   (C : Cal s₀ s) (F : Fr s₀.heap L s.heap m) (hm : Agree m [(Str.ofString "row", .str x tw), (Str.ofString "total", .int tot tt), (Str.ofString "ranks", .ref D), (Str.ofString "waiting", .ref W)])
   (N : News s₀.heap L s.heap ((W, listOf (strValues wl).toArray nw) :: rest)) (hrest : ∀ p ∈ rest, p.1 ≠ W) (hw : Wait n₀ (wl.map (·.1))) (hn : n₀ ≤ 1000)
   (k : ∀ s1 m1 t1 t2, Cal s₀ s1 → Fr s₀.heap L s1.heap m1 → Agree m1 [(Str.ofString "row", .str x t1), (Str.ofString "total", .int tot t2), (Str.ofString "ranks", .ref D)] → News s₀.heap L s1.heap rest →
      wpAny (model PR w) (LawAt dp un fr gd L) (execs (lawD.1.drop 24) (lawEnv L)) Q E s1) :
   wpAny (model PR w) (LawAt dp un fr gd L) (execs (lawD.1.drop 23) (lawEnv L)) Q E s := by
  have F' := fr_over F hm
  clear F
  with_unfolding_all show wpAny (model PR w) (LawAt dp un fr gd L) (execs (_ :: _) (lawEnv L)) Q E s
  k_steps
  unfold Stop
  refine cutX (Js0 s₀ L rest [(Str.ofString "row", .str x tw), (Str.ofString "total", .int tot tt), (Str.ofString "ranks", .ref D)]) ?_ ?_
  · refine while_cal (h₀ := s₀.heap) (s₀ := s₀) (n₀ := n₀) (MailInv x tw tot tt D W rest) F' N (C.heap _ _) ⟨wl, nw, ⟨rfl, rfl, rfl, rfl, trivial⟩, rfl, hw, hn⟩ ?_
    rintro n m1 news1 s1 C1 ⟨wl, nw, hag, rfl, hw, hn⟩ F1 N1
    have F1' := fr_over F1 hag
    clear F1
    k_steps
    unfold Stop
    rename_i V h6 F6 N6 l6
    have hwl := hw.len
    refine' ne_strs (led_list (vs := strValues wl) N6 (List.mem_cons_of_mem _ List.mem_cons_self)) (led_list (vs := []) N6 List.mem_cons_self) (strsAre_of_values wl) hwl.2 ?u1 ?_
    case u1 => exact dp_lt (j := 67) hun rfl
    have N7 := news_sub (a := (W, listOf (strValues wl).toArray nw) :: rest) N6 (fun p hp => List.mem_cons_of_mem _ hp)
    clear N6
    cases hnil : decide (wl.map (·.1) = [])
    · have hne : wl.map (·.1) ≠ [] := of_decide_eq_false hnil
      generalize hwm : wl.map (·.1) = ws at hw hne hwl
      cases hw with
      | nil => exact absurd rfl hne
      | snoc hw hy =>
        rename_i n1 k1 l y
        obtain ⟨wl', ty, rfl, hwl'⟩ : ∃ wl' ty, wl = wl' ++ [(y, ty)] ∧ wl'.map (·.1) = l := by
          have hwne : wl ≠ [] := by rintro rfl; simp at hwm
          have e := List.dropLast_concat_getLast hwne
          rw [← e, List.map_append, List.map_singleton] at hwm
          obtain ⟨h1, h2⟩ := List.append_inj' hwm rfl
          refine ⟨wl.dropLast, (wl.getLast hwne).2, ?_, h1⟩
          have h3 : (wl.getLast hwne).1 = y := by simpa using h2
          rw [← h3]; exact e.symm
        have hyb := hy.base
        have hwl2 := hw.len.1
        rw [← hwl', List.length_map] at hwl2
        k_steps
        unfold Stop
        refine' kl_pop (its := (strValues (wl' ++ [(y, ty)])).toArray) (n := nw) (p := strValues wl') (y := .str y ty) F6 N7 ?e (Upd.head hrest) ?z ?_
        case e => show kl_last (strValues (wl' ++ [(y, ty)])) = _; rw [show strValues (wl' ++ [(y, ty)]) = strValues wl' ++ [.str y ty] from by simp [strValues]]; exact kl_last_snoc _ _
        case z => rw [sizeLine_eq]; show (strValues (wl' ++ [(y, ty)])).length ≤ _; unfold strValues; rw [List.length_map, List.length_append, List.length_singleton]; omega
        intro h8 F8 N8
        have hy1 := hyb.2.1
        have hy40 := hyb.2.2.1
        cases hy with
        | leaf q l o hpar =>
          k_steps
          exact ⟨⟨C1.os, C1.size, C1.gens, C1.bare⟩, _, (W, listOf (strValues wl').toArray (nw + 1)) :: rest, n1, by assumption, by assumption, Nat.lt_succ_self _, wl', nw + 1, ⟨rfl, rfl, rfl, rfl, trivial⟩, rfl, by rw [hwl']; exact hw, by omega⟩
        | node q l o hpar cut pl ck lt ha hb =>
          rename_i p a b
          have hsl : ∀ lo hi, (Txt.slice y lo hi).length ≤ 40 := fun lo hi => Nat.le_trans (Txt.slice_le y lo hi) hy40
          k_steps
          unfold Stop
          rename_i F9 N9 _
          refine' use_in KX T (fun s a b => mail_spec y _ s a b (by omega) (fun i => strip_small (Nat.le_trans (hsl _ _) (by decide)))) ?F9 ?N9 ?d9 ?u9 ?_
          case F9 => exact F9
          case N9 => exact N9
          case d9 => exact dp_lt (j := 5) hdp rfl
          case u9 => exact dp_lt (j := 35) hun rfl
          rintro v s2 C2 hk2 F10 N10 ⟨DM, cl, nm, rfl, hDM, hDM0, hcl⟩
          have N11 := news_new F9 hDM0 hDM N10
          have CC : Cal s₀ s2 := Cal.trans ⟨C1.os, C1.size, C1.gens, C1.bare⟩ ⟨C2.os, C2.size, C2.gens, C2.bare⟩
          rw [cut] at hcl
          obtain ⟨tc, rfl⟩ : ∃ tc, cl = [(p, tc)] := by
            match cl, hcl with
            | [(p', tc)], h => exact ⟨tc, by have := List.map_eq_singleton_iff.mp h; simpa using this⟩
          have hDMW : DM ≠ W := fun e => by
            have := (N9 _ List.mem_cons_self).1
            rw [← e] at this
            rw [show _ = none from hDM0] at this; cases this
          clear N10 F9 N9
          k_steps
          unfold Stop
          rename_i F12 N12
          refine' len_N (vs := natVals [(p, tc)]) N12 List.mem_cons_self ?z ?_
          case z => rw [sizeLine_eq]; show 1 ≤ _; decide
          rw [show (natVals [(p, tc)]).length = 1 from rfl]
          k_steps
          unfold Stop
          refine item_N (vs := natVals [(p, tc)]) (x := .int (p : Int) tc) N12 List.mem_cons_self (by decide) (by decide) rfl ?_
          k_steps
          unfold Stop
          refine' use_in KX T (fun s a b => check_spec _ _ s a b ?w1 (strip_small (Nat.le_trans (hsl (some ((p : Int) + 1)) (some (-1))) (by decide)))) ?F9 ?N9 ?d9 ?u9 ?_
          case w1 => have := hsl (some ((p : Int) + 1)) (some (-1)); omega
          case F9 => assumption
          case N9 => assumption
          case d9 => exact dp_lt (j := 4) hdp rfl
          case u9 => exact dp_lt (j := 27) hun rfl
          rintro v s3 C3 hk3 F13 N13 rfl
          have CC3 : Cal s₀ s3 := Cal.trans ⟨CC.os, CC.size, CC.gens, CC.bare⟩ ⟨C3.os, C3.size, C3.gens, C3.bare⟩
          rw [ck]
          k_steps
          unfold Stop
          refine wpAny_isNot_self rfl ?_
          k_steps
          unfold Stop
          clear hk2 hk3 C2 C3 CC
          rename_i F14 N14 _
          refine cutX (Js0 s₀ L ((DM, listOf (natVals [(p, tc)]).toArray nm) :: (W, listOf (strValues wl').toArray (nw + 1)) :: rest) [(Str.ofString "row", .str x tw), (Str.ofString "total", .int tot tt), (Str.ofString "ranks", .ref D), (Str.ofString "waiting", .ref W), (Str.ofString "text", .str y ty), (Str.ofString "cuts", .ref DM)]) ?_ ?_
          · refine for_road (h₀ := s₀.heap) (s₀ := s₀) ?_
            k_steps
            unfold Stop
            refine item_N (vs := natVals [(p, tc)]) (x := .int (p : Int) tc) N13 List.mem_cons_self (by decide) (by decide) rfl ?_
            k_steps
            unfold Stop
            rename_i F17 N17 _
            have hs17 := hsl (some 1) (some (p : Int))
            refine' use_in KX T (fun s a b => letters_spec (Txt.slice y (some 1) (some (p : Int))) _ s a b (by omega)) ?F9 ?N9 ?d9 ?u9 ?_
            case F9 => exact F17
            case N9 => exact N17
            case d9 => exact dp_lt (j := 2) hdp rfl
            case u9 => exact dp_lt (j := 11) hun rfl
            rintro v s5 C5 hk5 F18 N18 ⟨DL, ll, nl, rfl, hDL, hDL0, hll⟩
            have N19 := news_new F17 hDL0 hDL N18
            have CC5 : Cal s₀ s5 := Cal.trans ⟨CC3.os, CC3.size, CC3.gens, CC3.bare⟩ ⟨C5.os, C5.size, C5.gens, C5.bare⟩
            clear hk5 C5 N18 F17 N17
            k_steps
            unfold Stop
            refine' loop_list (fun j m news => La0 [(Str.ofString "row", .str x tw), (Str.ofString "total", .int tot tt), (Str.ofString "ranks", .ref D), (Str.ofString "waiting", .ref W), (Str.ofString "text", .str y ty), (Str.ofString "cuts", .ref DM)] ((DL, listOf (strValues ll).toArray nl) :: (DM, listOf (natVals [(p, tc)]).toArray nm) :: (W, listOf (strValues wl').toArray (nw + 1)) :: rest) m news) rfl (led_list (vs := strValues ll) N19 List.mem_cons_self) (N19 _ List.mem_cons_self).2.1 F18 N19 CC5 ⟨⟨rfl, rfl, rfl, rfl, rfl, rfl, trivial⟩, rfl⟩ ?_ ?_
            · rintro I hI i v m2 news2 s6 own hi hv C6 hadr ⟨hag2, hnews2⟩ hown F19 N20
              subst hnews2
              have hi' : i < ll.length := by simpa [strValues] using hi
              obtain ⟨⟨u, tu⟩, hu⟩ : ∃ p, ll[i]? = some p := ⟨_, List.getElem?_eq_getElem hi'⟩
              have hve : v = .str u tu := by
                have : (strValues ll)[i]? = some (.str u tu) := by simp [strValues, hu]
                rw [this] at hv; exact (Option.some.inj hv).symm
              subst hve
              have hul : u ∈ lettersB (Txt.slice y (some 1) (some (p : Int))) := by rw [← hll]; exact List.mem_map_of_mem (List.mem_of_getElem? hu)
              have F20 := fr_over F19 hag2
              clear F19
              k_steps
              unfold Stop
              refine cutX (Js0 s₀ L (((DL, listOf (strValues ll).toArray nl) :: (DM, listOf (natVals [(p, tc)]).toArray nm) :: (W, listOf (strValues wl').toArray (nw + 1)) :: rest) ++ own) [(Str.ofString "row", .str x tw), (Str.ofString "total", .int tot tt), (Str.ofString "ranks", .ref D), (Str.ofString "waiting", .ref W), (Str.ofString "text", .str y ty), (Str.ofString "cuts", .ref DM)]) ?_ ?_
              · refine for_road (h₀ := s₀.heap) (s₀ := s₀) ?_
                k_steps
                unfold Stop
                rename_i F21 N21
                refine item_N (vs := natVals [(p, tc)]) (x := .int (p : Int) tc) N21 (List.mem_cons_of_mem _ List.mem_cons_self) (by decide) (by decide) rfl ?_
                k_steps
                unfold Stop
                rename_i F22 N22 _
                have hs22 := hsl (some ((p : Int) + 1)) none
                refine' use_in KX T (fun s a b => letters_spec (Txt.slice y (some ((p : Int) + 1)) none) _ s a b (by omega)) ?F9 ?N9 ?d9 ?u9 ?_
                case F9 => exact F22
                case N9 => exact N22
                case d9 => exact dp_lt (j := 2) hdp rfl
                case u9 => exact dp_lt (j := 11) hun rfl
                rintro v s7 C7 hk7 F23 N23 ⟨DL2, ll2, nl2, rfl, hDL2, hDL20, hll2⟩
                have N24 := news_new F22 hDL20 hDL2 N23
                have CC7 : Cal s₀ s7 := Cal.trans ⟨C6.os, C6.size, C6.gens, C6.bare⟩ ⟨C7.os, C7.size, C7.gens, C7.bare⟩
                clear hk7 C7 N23 F22 N22
                k_steps
                unfold Stop
                refine' loop_list (fun j m news => La0 [(Str.ofString "row", .str x tw), (Str.ofString "total", .int tot tt), (Str.ofString "ranks", .ref D), (Str.ofString "waiting", .ref W), (Str.ofString "text", .str y ty), (Str.ofString "cuts", .ref DM), (Str.ofString "one", .str u tu)] ((DL2, listOf (strValues ll2).toArray nl2) :: (((DL, listOf (strValues ll).toArray nl) :: (DM, listOf (natVals [(p, tc)]).toArray nm) :: (W, listOf (strValues wl').toArray (nw + 1)) :: rest) ++ own)) m news) rfl (led_list (vs := strValues ll2) N24 List.mem_cons_self) (N24 _ List.mem_cons_self).2.1 F23 N24 CC7 ⟨⟨rfl, rfl, rfl, rfl, rfl, rfl, rfl, trivial⟩, rfl⟩ ?_ ?_
                · rintro I2 hI2 j v m3 news3 s8 own2 hj hv2 C8 hadr3 ⟨hag3, hnews3⟩ hown2 F24 N25
                  subst hnews3
                  have hj' : j < ll2.length := by simpa [strValues] using hj
                  obtain ⟨⟨z, tz⟩, hz⟩ : ∃ p, ll2[j]? = some p := ⟨_, List.getElem?_eq_getElem hj'⟩
                  have hve2 : v = .str z tz := by
                    have : (strValues ll2)[j]? = some (.str z tz) := by simp [strValues, hz]
                    rw [this] at hv2; exact (Option.some.inj hv2).symm
                  subst hve2
                  have hzl : z ∈ lettersB (Txt.slice y (some ((p : Int) + 1)) none) := by rw [← hll2]; exact List.mem_map_of_mem (List.mem_of_getElem? hz)
                  have hlt := lt u hul z hzl
                  have F25 := fr_over F24 hag3
                  clear F24
                  k_steps
                  unfold Stop
                  refine PyProof.Rows.lt_str ?_
                  rw [hlt]
                  k_steps
                  unfold Stop
                  rename_i F26 N26
                  refine item_N (vs := natVals [(p, tc)]) (x := .int (p : Int) tc) N26 (List.mem_append_left _ (List.mem_cons_of_mem _ (List.mem_cons_of_mem _ List.mem_cons_self))) (by decide) (by decide) rfl ?_
                  refine str_item_any (by omega) (by omega) (by omega) ?_
                  k_steps
                  unfold Stop
                  refine ne_bool ?_
                  rw [bne_self_eq_false]
                  k_steps
                  exact ⟨⟨C8.os, C8.size, C8.gens, C8.bare⟩, trivial, _, _, by assumption, by assumption, rfl, ⟨rfl, rfl, rfl, rfl, rfl, rfl, rfl, trivial⟩, rfl⟩
                · rintro s8 m3 news3 C8 hadr3 ⟨hag3, hnews3⟩ F24 N25
                  subst hnews3
                  exact ⟨C8, m3, F24, ⟨hag3.1, hag3.2.1, hag3.2.2.1, hag3.2.2.2.1, hag3.2.2.2.2.1, hag3.2.2.2.2.2.1, trivial⟩, fun p hp => N25 p (List.mem_cons_of_mem _ hp)⟩
              · rintro s7 ⟨C7, m7, F27, hag7, N27⟩
                k_steps
                exact ⟨C7, trivial, m7, _, F27, N27, rfl, hag7, rfl⟩
            · rintro s6 m2 news2 C6 hadr ⟨hag2, hnews2⟩ F19 N20
              subst hnews2
              exact ⟨C6, m2, F19, hag2, fun p hp => N20 p (List.mem_cons_of_mem _ hp)⟩
          · rintro s4 ⟨C4, m4, F15, hag4, N15⟩
            have F16 := fr_over F15 hag4
            clear F15
            k_steps
            unfold Stop
            refine item_N (vs := natVals [(p, tc)]) (x := .int (p : Int) tc) N15 List.mem_cons_self (by decide) (by decide) rfl ?_
            k_steps
            unfold Stop
            rename_i F17 N17 _
            refine item_N (vs := natVals [(p, tc)]) (x := .int (p : Int) tc) N17 List.mem_cons_self (by decide) (by decide) rfl ?_
            k_steps
            unfold Stop
            rename_i t21 _ _ _ t22 _ _ V2 h20 F20 N20 l20
            refine iadd_lists (vs := strValues wl') (ws := [.str (Txt.slice y (some 1) (some (p : Int))) t21, .str (Txt.slice y (some ((p : Int) + 1)) (some (-1))) t22]) (n := nw + 1) F20 N20 List.mem_cons_self (by simp) (Upd.tail (Nat.ne_of_gt l20.2.1) (Upd.tail hDMW (Upd.head hrest))) (by unfold strValues; rw [List.length_map]; simp only [List.length_cons, List.length_nil]; omega) ?_
            intro h21 F21 N21
            have e : strValues wl' ++ [.str (Txt.slice y (some 1) (some (p : Int))) t21, .str (Txt.slice y (some ((p : Int) + 1)) (some (-1))) t22] = strValues (wl' ++ [(Txt.slice y (some 1) (some (p : Int)), t21), (Txt.slice y (some ((p : Int) + 1)) (some (-1)), t22)]) := by simp [strValues]
            rw [e] at N21
            have hwait : Wait (n1 + a + b) ((wl' ++ [(Txt.slice y (some 1) (some (p : Int)), t21), (Txt.slice y (some ((p : Int) + 1)) (some (-1)), t22)]).map (·.1)) := by
              have := Wait.snoc (Wait.snoc hw ha) hb
              rw [← hwl'] at this
              simpa using this
            have N22 := news_sub (a := (W, listOf (strValues (wl' ++ [(Txt.slice y (some 1) (some (p : Int)), t21), (Txt.slice y (some ((p : Int) + 1)) (some (-1)), t22)])).toArray (nw + 1 + 1)) :: rest) N21 (fun p hp => List.mem_cons_of_mem _ (List.mem_cons_of_mem _ hp))
            clear N21 N20 F20
            k_steps
            rename_i F23 N23
            exact ⟨⟨C4.os, C4.size, C4.gens, C4.bare⟩, _, _, n1 + a + b, F23, N23, by omega, _, _, ⟨rfl, rfl, rfl, rfl, trivial⟩, rfl, hwait, by omega⟩
    · have hne : wl.map (·.1) = [] := of_decide_eq_true hnil
      k_steps
      exact ⟨⟨C1.os, C1.size, C1.gens, C1.bare⟩, _, F6, ⟨rfl, rfl, rfl, trivial⟩, fun p hp => N7 p (List.mem_cons_of_mem _ hp)⟩
  · rintro s1 ⟨C1, m1, F1, hag, N1⟩
    exact k s1 m1 _ _ C1 F1 hag N1
end Mine
end
end partA11
/-! part T1 -/
section partT1
open PySem PySem.W PyProof.Rows PySem.Calls Builtin Builtin.Str
set_option Elab.async false
set_option maxRecDepth 100000
set_option linter.all false
noncomputable section
namespace Mine
/-- a statement, what holds behind it, and the tokens, which only grow -/
theorem cutXT {w : World} {A : Around} {s : Shared} {env : Env} {R : Flow → Shared → Prop} {E : Value → Shared → Prop} {st : Stmt} {n : Nat} (hn : n ≤ s.toks) (J : Shared → Prop)
    (h : wpAny (model PR w) A (exec st env) (fun f s' => match f with | .next => J s' | _ => False) (fun _ _ => False) s)
    (k : ∀ s', n ≤ s'.toks → J s' → R .next s') : wpAny (model PR w) A (exec st env) R E s :=
  wpAny_with_toks hn (wpAny_mono h (fun f s' hf => by cases f <;> first | exact fun ht => k _ ht hf | exact hf.elim) fun _ _ e => e.elim)
theorem add_str_tok {w : World} {A : Around} {E : Value → Shared → Prop} {s : Shared} {x y : Str} {t u : Tok} {Q : Value → Shared → Prop} (hx : x.length ≠ 0) (hy : y.length ≠ 0) (hz : x.length + y.length ≤ 1000000)
    (h : Q (.str (x ++ y) s.toks) { s with toks := s.toks + 1 }) : wpAny (model PR w) A (binaryOp .Add (.str x t) (.str y u)) Q E s := by
  refine P.add_str ?_
  rw [if_neg (by simpa using hx), if_neg (by simpa using hy)]
  refine ⟨?_, h⟩
  show (x.cps ++ y.cps).size ≤ sizeLine
  rw [sizeLine_eq, Array.size_append]
  exact Nat.le_trans hz (by decide)

section
variable {w : World} {A : Around} {h₀ : Heap} {s₀ s : Shared} {env : Env} {body : List Stmt} {Q : Flow → Shared → Prop} {m : Str → Option Value} {news : List (Addr × Obj)} {n₁ : Nat}
noncomputable def TurnRT (w : World) (A : Around) (h₀ : Heap) (s₀ : Shared) (env : Env) (target : Expr) (body : List Stmt) (Q : Flow → Shared → Prop) (fp : List Addr) (n : Nat) (P : Nat → Value → Prop) (news : List (Addr × Obj)) (J : Nat → (Str → Option Value) → List (Addr × Obj) → Prop) (n₁ : Nat) : Prop :=
  ∀ i v m₁ news₁ s₁ own, i < n → P i v → n₁ ≤ s₁.toks → Cal s₀ s₁ → SameAdr news news₁ → J i m₁ news₁ → (∀ p ∈ own, p.1 ∈ fp) → Fr h₀ env.locals s₁.heap m₁ → News h₀ env.locals s₁.heap (news₁ ++ own) →
      wpAny (model PR w) A (assign target env v) (fun _ s₂' => wpAny (model PR w) A (execs body env) (fun f s₃ => TurnEnd h₀ env.locals s₀ (fun _ _ => True) own (fun m' news' => SameAdr news news' ∧ J (i + 1) m' news') s₁ Q f s₃) (fun _ _ => False) s₂') (fun _ _ => False) s₁

inductive ListT (w : World) (A : Around) (h₀ : Heap) (s₀ : Shared) (env : Env) (body : List Stmt) (Q : Flow → Shared → Prop) (n₁ : Nat) (x : Str) (px : Pos) (xv : Value) (s₁ : Shared) : Prop
  | mk (l : Addr) (vs : List Value) (m : Str → Option Value) (news : List (Addr × Obj)) (J : Nat → (Str → Option Value) → List (Addr × Obj) → Prop) (e : xv = .ref l) (hl : s₁.heap.IsList l vs.toArray) (hlL : l ≠ env.locals) (F : Fr h₀ env.locals s₁.heap m) (N : News h₀ env.locals s₁.heap news) (hc : Cal s₀ s₁) (h0 : J 0 m news)
      (turn : ∀ I, TurnRT w A h₀ s₀ env (.Name x px) body Q [I, l] vs.length (fun i v => vs[i]? = some v) news J n₁)
      (hQ : ∀ s' m' news', Cal s₀ s' → SameAdr news news' → J vs.length m' news' → Fr h₀ env.locals s'.heap m' → News h₀ env.locals s'.heap news' → Q .next s')
inductive TInv (h₀ : Heap) (s₀ : Shared) (L : Addr) (n₁ : Nat) (I l : Addr) (vs : List Value) (news : List (Addr × Obj)) (J : Nat → (Str → Option Value) → List (Addr × Obj) → Prop) (k : Nat) (s' : Shared) : Prop
  | mk (m' : Str → Option Value) (news' : List (Addr × Obj)) (i : Nat) (ht : n₁ ≤ s'.toks) (hst : s'.heap.IsListIter I l i ∧ s'.heap.IsList l vs.toArray) (F : Fr h₀ L s'.heap m') (N : News h₀ L s'.heap news') (c : Cal s₀ s') (hadr : SameAdr news news') (hJ : J i m' news') (hi : i ≤ vs.length) (hk : k = vs.length + 1 - i)
inductive TItem (s' : Shared) (I l : Addr) (vs : List Value) (i : Nat) (r : Option Value) (s₂ : Shared) : Prop
  | mk (v : Value) (e : r = some v) (hv : vs[i]? = some v) (hst : s₂.heap.IsListIter I l (i + 1) ∧ s₂.heap.IsList l vs.toArray) (hk : ∀ b o, b ∉ [I] → s'.heap.get? b = some o → s₂.heap.get? b = some o) (hcl : s₂.gens = s'.gens ∧ s₂.os = s'.os)
/-- a loop over a list that stands, with the tokens told -/
theorem for_listT {x : Str} {px : Pos} {iter : Expr} {pos : Pos} (hn : n₁ ≤ s.toks) (hh : A.handled = none)
    (h : wpAny (model PR w) A (eval iter env) (fun xv s₁ => ListT w A h₀ s₀ env body Q n₁ x px xv s₁) (fun _ _ => False) s)
    (hs : ∀ x, foldedSetIterable iter env x = pure x := by intro _; rfl) :
    wpAny (model PR w) A (exec (.For (.Name x px) iter body [] pos) env) Q (fun _ _ => False) s := by
  refine wpAny_For (wpAny_mono (wpAny_toks_of hn h) (fun xv s₁ h₁ => ?_) fun _ _ e => e.2) hs
  obtain ⟨ht₁, h₁⟩ := h₁
  obtain ⟨l, vs, m, news, J, rfl, hl, hlL, F, N, hc, h0, turn, hQ⟩ := h₁
  obtain ⟨ol, hol, _⟩ := id hl
  have hne : l ≠ s₁.heap.objs.size := Nat.ne_of_lt (Heap.lt_size hol)
  refine wpAny_pyIter_list hl ?_
  have W := Walks.list (prog := PR) (w := w) hh s₁.heap.objs.size l hne vs.toArray
  have hv : (fun (i : Nat) (v : Value) => vs.toArray[i]? = some v) = fun i v => vs[i]? = some v := by funext i v; simp
  rw [hv, List.size_toArray] at W
  have hnI : ∀ p ∈ news, p.1 ≠ s₁.heap.objs.size := fun p hp => Nat.ne_of_lt (News.lt N p hp)
  have hI0 : h₀.get? s₁.heap.objs.size = none := Fr.base_none F (Nat.le_refl _)
  have hLI : env.locals ≠ s₁.heap.objs.size := Nat.ne_of_lt F.ns.lt
  have hLf : env.locals ∉ [s₁.heap.objs.size, l] := by
    intro h
    rcases List.mem_cons.mp h with h | h
    · exact hLI h
    · exact hlL (List.mem_singleton.mp h).symm
  refine codeAny_forLoop_any
    (TInv h₀ s₀ env.locals n₁ s₁.heap.objs.size l vs news J) ?_ (vs.length + 1)
    ⟨m, news, 0, ht₁, ⟨⟨_, Heap.get?_push_size _ rfl, rfl, rfl⟩, hl.push _⟩, F.push _, fun p hp => ⟨Heap.get?_push_of_some _ (N p hp).1, (N p hp).2⟩, hc.heap _ _, SameAdr.refl _, h0, Nat.zero_le _, rfl⟩
  rintro k s' ⟨m', news', i, ht', hst', F', N', hc', hadr, hJ, hi, rfl⟩
  have hnw' : ∀ p ∈ news', p.1 ∉ [s₁.heap.objs.size] := fun p hp h => by obtain ⟨q, hq, e⟩ := hadr.mem hp; exact hnI q hq (e.trans (List.mem_singleton.mp h))
  have hLw : env.locals ∉ [s₁.heap.objs.size] := fun h => hLI (List.mem_singleton.mp h)
  have old : ∀ b o, h₀.get? b = some o → b ∉ [s₁.heap.objs.size] := fun b o e hb => by rw [List.mem_singleton.mp hb, hI0] at e; cases e
  have next : ∀ h₁ : Heap, (∀ b o, b ∉ [s₁.heap.objs.size] → s'.heap.get? b = some o → h₁.get? b = some o) → Fr h₀ env.locals h₁ m' ∧ News h₀ env.locals h₁ news' := fun h₁ hk₁ =>
    ⟨⟨F'.ns.at' fun o e => hk₁ _ o hLw e, fun b o e => hk₁ b o (old b o e) (F'.keep b o e), F'.above⟩, fun p hp => ⟨hk₁ _ _ (hnw' p hp) (N' p hp).1, (N' p hp).2⟩⟩
  by_cases hlt : i < vs.length
  · have key : wpAny (model PR w) A (pyNext (.ref s₁.heap.objs.size)) (TItem s' s₁.heap.objs.size l vs i) (fun _ _ => False) s' :=
      W.item i s' _ _ hlt hst' fun v h' tk hP st' hk => ⟨v, rfl, hP, st', hk, rfl, rfl⟩
    refine wpAny_noRaise (wpAny_mono (wpAny_toks_of ht' key) (fun r s₂ hr => ?_) fun _ _ e => e.2)
    obtain ⟨ht₂, hr⟩ := hr
    obtain ⟨v, rfl, hv₂, hst₂, hk₂, hcl⟩ := hr
    refine wpAny_noRaise (wpAny_pure ?_)
    obtain ⟨F₂, N₂⟩ := next s₂.heap hk₂
    have hc₂ := hc'.of_eq hcl
    have Nown : News h₀ env.locals s₂.heap (ownOf h₀ [s₁.heap.objs.size, l] s₂.heap) := news_ownOf hLf
    refine wpAny_noRaise (wpAny_mono (wpAny_toks_of ht₂ (turn s₁.heap.objs.size i v m' news' s₂ (ownOf h₀ [s₁.heap.objs.size, l] s₂.heap) hlt hv₂ ht₂ hc₂ hadr hJ ownOf_sub F₂ (News.app N₂ Nown))) (fun _ s₂' h₂' => wpAny_noRaise (wpAny_mono (wpAny_toks_of h₂'.1 h₂'.2) (fun f s₃ h₃ => ?_) fun _ _ e => e.2)) fun _ _ e => e.2)
    obtain ⟨ht₃, h₃⟩ := h₃
    have again : TurnOk h₀ env.locals s₀ (fun _ _ => True) (ownOf h₀ [s₁.heap.objs.size, l] s₂.heap) (fun m' news' => SameAdr news news' ∧ J (i + 1) m' news') s₂ s₃ →
        ∃ k', k' < vs.length + 1 - i ∧ TInv h₀ s₀ env.locals n₁ s₁.heap.objs.size l vs news J k' s₃ := by
      rintro ⟨hc₃, _, m₂, news₂, F₃, N₃, hadr₃, hJ₃⟩
      refine ⟨vs.length + 1 - (i + 1), turn_lt hlt, m₂, news₂, i + 1, ht₃, ?_, F₃, fun p hp => N₃ p (List.mem_append_left _ hp), hc₃, hadr₃, hJ₃, hlt, rfl⟩
      refine W.frame _ _ _ hst₂ fun b hb o e => ?_
      cases hnn : h₀.get? b with
      | some o₀ =>
        have : o₀ = o := by have q := F₂.keep b o₀ hnn; rw [e] at q; exact (Option.some.inj q).symm
        exact this ▸ F₃.keep b o₀ hnn
      | none => exact (N₃ _ (List.mem_append_right _ (mem_ownOf hb hnn e))).1
    cases f with
    | ret v => exact h₃
    | brk => exact h₃
    | cont => exact again h₃
    | next => exact again h₃
  · have hin : i = vs.length := turn_end hi hlt
    subst hin
    refine wpAny_noRaise (W.done s' _ _ hst' fun h' tk hk => wpAny_execs_nil ?_)
    obtain ⟨F₁, N₁⟩ := next h' hk
    exact hQ { s' with heap := h', toks := tk } m' news' (hc'.of_eq ⟨rfl, rfl⟩) hadr hJ F₁ N₁
end
end Mine
end
end partT1
/-! part A12 -/
section partA12
open PySem PySem.W PyProof.Rows PySem.Calls Builtin Builtin.Str
set_option Elab.async false
set_option maxRecDepth 100000
set_option linter.all false
noncomputable section
namespace Mine
local macro_rules | `(tactic| omega) => `(tactic| lia)
theorem fillA12 : PySem.Challenge.rw_wr0027_01.prog = PySem.Challenge.rw_wr0027_01.prog ∧ hd.heap_1 = hd.heap_1 := by
  k_fill
  exact ⟨rfl, rfl⟩
local macro_rules | `(tactic| k_steps) => `(tactic| repeat' (first | walk1 | (dsimp only; walk1)))
local macro_rules | `(tactic| walk_at "execs cons Assign cons") => `(tactic| refine wpAny_execs_cons ?_)
local macro_rules | `(tactic| walk_at "call type:list") => `(tactic| refine stop ?_)
local macro_rules | `(tactic| walk_at "getItem ref int") => `(tactic| refine stop ?_)
local macro_rules | `(tactic| walk_at "setItem ref int") => `(tactic| refine stop ?_)
local macro_rules | `(tactic| walk_at "call ref") => `(tactic| refine stop ?_)
local macro_rules | `(tactic| walk_at "exec For Name Call cons nil") => `(tactic| refine stop ?_)

set_option maxHeartbeats 8000000 in
theorem seg15 {w : World} {mean : ExcName → Option Value} {mg mb : Str → Option Value} {s₀ : Shared} {dp un : Nat} {fr : Option (List Env)} {gd : Option (List Code)} {Q : Flow → Shared → Prop} {E : Value → Shared → Prop}
   (KX : (hd.heap_1 w.params).In s₀.heap) (T : Tp mean mg mb s₀.heap) (hdp : dp + 16 < recursionLimit) (hun : un + 8 * 16 < cLine)
   {L D : Addr} {s : Shared} {m : Str → Option Value} {rl : List (Int × Tok)} {nR : Nat} {x : Str} {tw tt : Tok} {tot : Int}
   (C : Cal s₀ s) (F : Fr s₀.heap L s.heap m) (hm : Agree m [(Str.ofString "row", .str x tw), (Str.ofString "total", .int tot tt), (Str.ofString "ranks", .ref D)]) (N : News s₀.heap L s.heap [(D, listOf (intVals rl).toArray nR)])
   (hx : x.length = 5) (ht0 : 0 ≤ tot) (ht1 : tot < 10 ^ 6) (hrl : rl.length = 5)
   (k : ∀ s1 m1 t1 t2 t3 t4 D4 tl n4, 1 ≤ t3 → t3 + 1 ≤ s1.toks → Cal s₀ s1 → Fr s₀.heap L s1.heap m1 → Agree m1 [(Str.ofString "row", .str x t1), (Str.ofString "total", .int tot t2), (Str.ofString "ranks", .ref D), (Str.ofString "marked", .str (Txt.item x ((tot.fdiv 11).fmod 5)) t3), (Str.ofString "texts", .ref D4), (Str.ofString "at", .int 0 t4)] →
      News s₀.heap L s1.heap [(D4, listOf (strValues tl).toArray n4), (D, listOf (intVals rl).toArray nR)] → tl.map (·.1) = addAt (signs x) ((tot.fdiv 11).fmod 5).toNat (Str.ofString "\"") →
      wpAny (model PR w) (LawAt dp un fr gd L) (execs (lawD.1.drop 28) (lawEnv L)) Q E s1) :
   wpAny (model PR w) (LawAt dp un fr gd L) (execs (lawD.1.drop 24) (lawEnv L)) Q E s := by
  have F' := fr_over F hm
  clear F
  with_unfolding_all show wpAny (model PR w) (LawAt dp un fr gd L) (execs (_ :: _) (lawEnv L)) Q E s
  have hp0 : 0 ≤ (tot.fdiv 11).fmod 5 := Int.fmod_nonneg_of_pos _ (by decide)
  have hp1 : (tot.fdiv 11).fmod 5 < 5 := Int.fmod_lt_of_pos _ (by decide)
  refine wpAny_execs_cons ?_
  repeat' ((fail_if_success (with_reducible show wpAny _ _ (execs (Stmt.Assign _ _ _ :: _) _) _ _ _)); first | walk1 | (dsimp only; walk1))
  dsimp only
  rename_i h1 F1 N1
  obtain ⟨t3, ht3, hn, m2, hag2, F2⟩ : ∃ t3 : Nat, 1 ≤ t3 ∧ t3 + 1 ≤ ({ heap := h1, gens := s.gens, drawn := s.drawn, toks := s.toks + 1 + 1 + 1 + 1 + 1 + 1, os := s.os } : Shared).toks ∧ ∃ m2, Agree m2 [(Str.ofString "row", .str x tw), (Str.ofString "total", .int tot tt), (Str.ofString "ranks", .ref D), (Str.ofString "marked", .str (Txt.item x ((tot.fdiv 11).fmod 5)) t3)] ∧ Fr s₀.heap L h1 m2 := by
    refine' ⟨_, ?a, ?b, _, ⟨rfl, rfl, rfl, rfl, trivial⟩, F1⟩
    case a => exact Nat.le_add_left _ _
    case b => dsimp only; omega
  clear F1
  have F1 := fr_over F2 hag2
  clear F2
  refine wpAny_execs_cons (wpAny_with_toks hn ?_)
  k_steps
  unfold Stop
  refine list_strD rfl F1 N1 ?_
  intro h8 tk8 ys8 F8 N8 hk8 h08 _ x8 hc8
  obtain ⟨n8, N9⟩ := news_plain F8 N8 h08 x8
  have hne := x8.2
  generalize Array.size _ = D2 at N9 hne ⊢
  clear x8 N8 hk8 h08
  obtain ⟨dl, rfl, hdl⟩ := strsAre_values (StrsAre.ofCarried hc8)
  clear hc8
  have hdl5 : dl.length = 5 := by
    have := congrArg List.length hdl
    rw [List.length_map] at this
    rw [this]; simp [signs]; exact hx
  have hdl1 : ∀ p ∈ dl, p.1.length ≤ 1 := by
    intro p hp
    have : p.1 ∈ signs x := by rw [← hdl]; exact List.mem_map_of_mem hp
    unfold signs at this
    obtain ⟨c, _, e⟩ := List.mem_map.mp this
    rw [← e]; exact Nat.le_refl _
  repeat' ((fail_if_success (with_reducible show (t3 + 1 ≤ _ → _))); first | walk1 | (dsimp only; walk1))
  intro hn2
  try dsimp only at hn2 ⊢
  refine wpAny_execs_cons (wpAny_with_toks hn2 ?_)
  k_steps
  unfold Stop
  obtain ⟨⟨y1, ty1⟩, hy1⟩ : ∃ p, dl[((tot.fdiv 11).fmod 5).toNat]? = some p := ⟨_, List.getElem?_eq_getElem (by omega)⟩
  have hv1 : (strValues dl)[((tot.fdiv 11).fmod 5).toNat]? = some (.str y1 ty1) := by unfold strValues; rw [List.getElem?_map, hy1]; rfl
  rename_i F10 N10
  refine wpAny_getItem_list (led_list (vs := strValues dl) N10 List.mem_cons_self) hp0 (by omega) (by simpa using hv1) ?_
  have hyl : y1.length ≤ 1 := hdl1 _ (List.mem_of_getElem? hy1)
  dsimp only
  k_steps
  unfold Stop
  rename_i t12 k12 l12
  have hl5 : (strValues dl).length = 5 := by unfold strValues; rw [List.length_map]; exact hdl5
  refine' ki_set (its := (strValues dl).toArray) (n := n8) (q := strValues (dl.set ((tot.fdiv 11).fmod 5).toNat (y1 ++ Str.ofString "\"", t12))) (news := [(D2, listOf (strValues dl).toArray n8), (D, listOf (intVals rl).toArray nR)]) ?F ?N hp0 ?hf ?e (Upd.head ?U) ?_
  case hf => omega
  case F => assumption
  case N => assumption
  case e => rw [← set_vals]; refine ki_setL_at _ _ _ ?_; rw [hl5]; omega
  case U =>
    intro p hp
    exact hne p (by rw [List.mem_singleton.mp hp]; exact List.mem_cons_self)
  intro h13 F13 N13
  dsimp only
  have hdm := addAt_map (t := t12) (z := Str.ofString "\"") hdl hy1
  generalize dl.set ((tot.fdiv 11).fmod 5).toNat (y1 ++ Str.ofString "\"", t12) = dl' at N13 hdm

  repeat' ((fail_if_success (with_reducible show (t3 + 1 ≤ _ → _))); first | walk1 | (dsimp only; walk1))
  intro hn3
  try dsimp only at hn3 ⊢
  refine wpAny_execs_cons (wpAny_with_toks hn3 ?_)
  repeat' ((fail_if_success (with_reducible show (t3 + 1 ≤ _ → _))); first | walk1 | (dsimp only; walk1))
  intro hn4
  rename_i F14 N14
  exact k _ _ _ _ t3 _ D2 dl' n8 ht3 hn4 ⟨C.os, C.size, C.gens, C.bare⟩ F14 ⟨rfl, rfl, rfl, rfl, rfl, rfl, trivial⟩ N14 hdm
end Mine
end
end partA12
/-! part A13 -/
section partA13
open PySem PySem.W PyProof.Rows PySem.Calls Builtin Builtin.Str
set_option Elab.async false
set_option maxRecDepth 100000
set_option linter.all false
noncomputable section
namespace Mine
local macro_rules | `(tactic| omega) => `(tactic| lia)
theorem fillA13 : PySem.Challenge.rw_wr0027_01.prog = PySem.Challenge.rw_wr0027_01.prog ∧ hd.heap_1 = hd.heap_1 := by
  k_fill
  exact ⟨rfl, rfl⟩
local macro_rules | `(tactic| k_steps) => `(tactic| repeat' (first | walk1 | (dsimp only; walk1)))
local macro_rules | `(tactic| walk_at "execs cons Assign cons") => `(tactic| refine wpAny_execs_cons ?_)
local macro_rules | `(tactic| walk_at "exec For Name Call cons nil") => `(tactic| refine stop ?_)
local macro_rules | `(tactic| walk_at "exec For Name Subscript cons nil") => `(tactic| refine stop ?_)
local macro_rules | `(tactic| walk_at "pyIter ref") => `(tactic| refine stop ?_)
local macro_rules | `(tactic| walk_at "pyIter str") => `(tactic| refine stop ?_)
local macro_rules | `(tactic| walk_at "binaryOp Add str str") => `(tactic| refine stop ?_)
local macro_rules | `(tactic| walk_at "inplaceOp Add str str") => `(tactic| refine stop ?_)
local macro_rules | `(tactic| walk_at "compareOp Lt str str") => `(tactic| refine stop ?_)
local macro_rules | `(tactic| walk_at "compareOp NotEq str str") => `(tactic| refine stop ?_)
local macro_rules | `(tactic| walk_at "call ref") => `(tactic| refine stop ?_)
local macro_rules | `(tactic| walk_at "call builtin:str.replace") => `(tactic| refine stop ?_)
local macro_rules | `(tactic| walk_at "subscriptTail Name Constant ref int") => `(tactic| refine stop ?_)
local macro_rules | `(tactic| walk_at "call type:range") => `(tactic| ((with_reducible show wpAny _ _ (call _ _) (fun _ _ => wpAny _ _ _ (fun _ _ => LoopR _ _ _ _ _ _ _ _ _ _) _ _) _ _); refine stop ?_))

section
variable {w : World} {A : Around} {h₀ : Heap} {s₀ s : Shared} {env : Env} {body : List Stmt} {Q : Flow → Shared → Prop} {m : Str → Option Value} {news : List (Addr × Obj)}
theorem loop_str {y : Str} {t : Tok} {x : Str} {px : Pos} (J : Nat → (Str → Option Value) → List (Addr × Obj) → Prop) (hh : A.handled = none) (F : Fr h₀ env.locals s.heap m) (N : News h₀ env.locals s.heap news) (C : Cal s₀ s) (h0 : J 0 m news)
    (turn : ∀ I, (∀ p ∈ news, p.1 ≠ I) → TurnR w A h₀ s₀ env (.Name x px) body Q [I] y.cps.size (SignAt y) news J)
    (done : ∀ s' m' news', Cal s₀ s' → SameAdr news news' → J y.cps.size m' news' → Fr h₀ env.locals s'.heap m' → News h₀ env.locals s'.heap news' → Q .next s') :
    wpAny (model PR w) A (pyIter (.str y t)) (fun it s₂ => LoopR w A h₀ s₀ env (.Name x px) body Q it s₂) (fun _ _ => False) s := by
  refine wpAny_pyIter_str fun o St W hst => ?_
  have hnI : ∀ p ∈ news, p.1 ≠ s.heap.objs.size := fun p hp => Nat.ne_of_lt (News.lt N p hp)
  refine loop_walks (fp := [s.heap.objs.size]) J (W A hh) (fun _ _ _ _ _ h => wpAny_pure h) ?_ (Fr.base_none F (Nat.le_refl _)) hnI hst (F.push _) (fun p hp => ⟨Heap.get?_push_of_some _ (N p hp).1, (N p hp).2⟩) (C.heap _ _) h0 (turn _ hnI) done
  intro h
  exact absurd F.ns.lt (List.mem_singleton.mp h ▸ Nat.lt_irrefl _)
end
noncomputable def dueS (a b : Str) : Str := if a.cps.toList < b.cps.toList then Str.ofString "lt;" else Str.ofString "gt;"
noncomputable def preOf (ls : Str) (i : Nat) : Str := Txt.slice ls none (some (1 + (i : Int)))
noncomputable def lastDue (ls : Str) (i : Nat) : Str := dueS ⟨#[(preOf ls i).cps.getD ((preOf ls i).cps.size - 1) 0]⟩ (Txt.item ls (1 + (i : Int)))
noncomputable def wholeOf (ls : Str) : Nat → Str
  | 0 => Txt.item ls 0
  | n + 1 => wholeOf ls n ++ (Str.ofString "&" ++ lastDue ls n ++ Txt.item ls (1 + (n : Int)))
noncomputable def markOf (kind : Int) (n : Nat) : Str := if kind = 1 ∧ 1 < n then Str.ofString "&quot;" else Str.ofString "\""
structure PartGood (ls marked : Str) (kind : Int) (t : Str) : Prop where
  p : 1 ≤ ls.length
  l : ls.length ≤ 5
  tl : t.length ≤ 1000
  pre : ∀ i, i + 1 < ls.length → 1 ≤ (preOf ls i).cps.size
  dots : ∀ i, i + 1 < ls.length → ∀ c ∈ (preOf ls i).cps.toList, dotsB ⟨#[c]⟩ (Txt.item ls (1 + (i : Int))) t = dueS ⟨#[c]⟩ (Txt.item ls (1 + (i : Int)))
  rep : Txt.replace t (Str.ofString "amp;") (Str.ofString "") = Txt.replace (wholeOf ls (ls.length - 1)) marked (marked ++ markOf kind ls.length)
noncomputable def lettersOf (x : Str) (at' : Int) (v : Int × Int × Str) : Str := Txt.slice x (some at') (some (at' + 1 + v.2.1 - v.1))
noncomputable def DotsOk (x marked : Str) (kind : Int) : Int → List (Int × Int × Str) → Prop
  | _, [] => True
  | at', v :: r => PartGood (lettersOf x at' v) marked kind v.2.2 ∧ DotsOk x marked kind (at' + (lettersOf x at' v).length) r
theorem due_len (a b : Str) : (dueS a b).length = 3 := by unfold dueS; split <;> decide
theorem whole_len (ls : Str) : ∀ n, (wholeOf ls n).length ≤ 1 + 5 * n
  | 0 => by show (1 : Nat) ≤ _; omega
  | n + 1 => by
    have h := whole_len ls n
    unfold wholeOf lastDue
    simp only [Str.length_append, due_len]
    have h1 : (Str.ofString "&").length = 1 := by decide
    have h2 : (Txt.item ls (1 + (n : Int))).length = 1 := rfl
    omega

inductive DotLa (x : Str) (tw : Tok) (tot : Int) (tt : Tok) (mk : Str) (t3 : Tok) (D3 : Addr) (cs : List Cell) (kk : Nat) (j : Nat) (m : Str → Option Value) (news : List (Addr × Obj)) : Prop
  | mk (at' : Int) (ta : Tok) (a : Agree m [(Str.ofString "row", .str x tw), (Str.ofString "total", .int tot tt), (Str.ofString "marked", .str mk t3), (Str.ofString "at", .int at' ta)]) (e : news = PartsL D3 cs kk) (h : DotsOk x mk (tot.fmod 3) at' ((cs.drop j).map Cell.val)) (h0 : 0 ≤ at') (h5 : at' ≤ 5 * j)
inductive DueLa (r : List (Str × Value)) (ls : Str) (i : Nat) (X : List (Addr × Obj)) (j : Nat) (m : Str → Option Value) (news : List (Addr × Obj)) : Prop
  | mk (t11 : Tok) (a : Agree m r) (h : 1 ≤ j → m (Str.ofString "due") = some (.str (dueS ⟨#[(preOf ls i).cps.getD (j - 1) 0]⟩ (Txt.item ls (1 + (i : Int)))) t11)) (e : news = X)
set_option maxHeartbeats 8000000 in
theorem seg16 {w : World} {mean : ExcName → Option Value} {mg mb : Str → Option Value} {s₀ : Shared} {dp un : Nat} {fr : Option (List Env)} {gd : Option (List Code)} {Q : Flow → Shared → Prop}
   (KX : (hd.heap_1 w.params).In s₀.heap) (T : Tp mean mg mb s₀.heap) (hdp : dp + 16 < recursionLimit) (hun : un + 8 * 16 < cLine)
   {L D D4 : Addr} {s : Shared} {m : Str → Option Value} {rl : List (Int × Tok)} {nR n4 : Nat} {x mk : Str} {tw tt t3 t4 : Tok} {tot : Int} {tl : List (Str × Tok)}
   (ht3 : 1 ≤ t3) (hn : t3 + 1 ≤ s.toks)
   (C : Cal s₀ s) (F : Fr s₀.heap L s.heap m) (hm : Agree m [(Str.ofString "row", .str x tw), (Str.ofString "total", .int tot tt), (Str.ofString "ranks", .ref D), (Str.ofString "marked", .str mk t3), (Str.ofString "texts", .ref D4), (Str.ofString "at", .int 0 t4)])
   (N : News s₀.heap L s.heap [(D4, listOf (strValues tl).toArray n4), (D, listOf (intVals rl).toArray nR)])
   (hx : x.length = 5) (hmk : mk.length = 1) (ht0 : 0 ≤ tot) (ht1 : tot < 10 ^ 6) (hrl : rl.length = 5) (htl : tl.length = 5)
   (hfit : joinFits (tot.fmod 3) 5 (-1) (startV (rl.map (·.1)) (tl.map (·.1)))) (hlen : (joinAll (tot.fmod 3) 5 (-1) (startV (rl.map (·.1)) (tl.map (·.1)))).length ≤ 5)
   (hok : DotsOk x mk (tot.fmod 3) 0 (joinAll (tot.fmod 3) 5 (-1) (startV (rl.map (·.1)) (tl.map (·.1)))))
   (k : ∀ s1 m1, Cal s₀ s1 → Fr s₀.heap L s1.heap m1 → Q (.ret (.bool true)) s1) :
   wpAny (model PR w) (LawAt dp un fr gd L) (execs (lawD.1.drop 28) (lawEnv L)) Q (fun _ _ => False) s := by
  have F' := fr_over F hm
  clear F
  with_unfolding_all show wpAny (model PR w) (LawAt dp un fr gd L) (execs (_ :: _) (lawEnv L)) Q _ s
  k_steps
  unfold Stop
  refine cutX (fun s' => Held (Cal s₀ s' ∧ ∃ m1, Fr s₀.heap L s'.heap m1)) ?_ ?_
  · refine for_listT (h₀ := s₀.heap) (s₀ := s₀) (n₁ := t3 + 1) hn rfl ?_
    k_steps
    unfold Stop
    refine' use_spec (joined_spec (tot.fmod 3) (-1) _ _ D D4 rl tl nR n4 _ (Frag.In.keeps KX F'.keep) (T.keeps F'.keep) (N _ (List.mem_cons_of_mem _ List.mem_cons_self)).1 (N _ List.mem_cons_self).1 hrl htl ?fit) ?F9 ?N9 ?d9 ?u9 ?_
    case fit => rw [startL_eq]; exact hfit
    case F9 => exact F'
    case N9 => exact N
    case d9 => exact dp_lt (j := 13) hdp rfl
    case u9 => exact dp_lt (j := 99) hun rfl
    rintro v s5 C5 hk5 F25 N25 ⟨D3, cs, kk, rfl, hval, hcells⟩
    have N26 := news_sub (a := PartsL D3 cs kk) (news_many F' hcells N25) (fun p hp => List.mem_append_left _ hp)
    have CC : Cal s₀ s5 := Cal.trans ⟨C.os, C.size, C.gens, C.bare⟩ ⟨C5.os, C5.size, C5.gens, C5.bare⟩
    rw [startL_eq] at hval
    rw [← hval] at hok hlen
    rw [List.length_map] at hlen
    refine ⟨D3, cs.map fun c => Value.ref c.a, _, PartsL D3 cs kk, DotLa x tw tot tt mk t3 D3 cs kk, rfl, led_list N26 List.mem_cons_self, (N26 _ List.mem_cons_self).2.1, F25, N26, CC, ⟨0, _, ⟨rfl, rfl, rfl, rfl, trivial⟩, rfl, hok, by decide, by decide⟩, ?_, ?_⟩
    · rintro I j v m1 news1 s1 own hj hv hn1 C1 hadr ⟨at', ta, hag, rfl, hdo, ha0, ha5⟩ hown F1 N1
      have hj' : j < cs.length := by simpa using hj
      have hve : v = .ref cs[j].a := by
        have : (cs.map fun c => Value.ref c.a)[j]? = some (.ref cs[j].a) := by simp [hj']
        rw [this] at hv; exact (Option.some.inj hv).symm
      subst hve
      rw [List.drop_eq_getElem_cons hj', List.map_cons] at hdo
      obtain ⟨hpg, hdo⟩ := hdo
      have hcm : cs[j] ∈ cs := List.getElem_mem hj'
      generalize hcc : cs[j] = c at hpg hdo hcm
      have F1' := fr_over F1 hag
      clear F1
      repeat' ((fail_if_success (with_reducible show wpAny _ _ (execs (Stmt.Assign _ _ _ :: _) _) _ _ _)); first | walk1 | (dsimp only; walk1))
      refine wpAny_execs_cons (wpAny_with_toks (n := t3 + 1) (Nat.le_trans hn1 (by dsimp only; omega)) ?_)
      repeat' ((fail_if_success (with_reducible show (t3 + 1 ≤ _ → _))); first | walk1 | (dsimp only; walk1))
      unfold Stop
      rename_i F2 N2
      refine item_l1 (D := D3) (kk := kk) N2 hcm (fun p hp => List.mem_append_left _ hp) ?_ (by with_unfolding_all rfl)
      repeat' ((fail_if_success (with_reducible show (t3 + 1 ≤ _ → _))); first | walk1 | (dsimp only; walk1))
      unfold Stop
      refine item_l0 (D := D3) (kk := kk) N2 hcm (fun p hp => List.mem_append_left _ hp) ?_ (by with_unfolding_all rfl)
      repeat' ((fail_if_success (with_reducible show (t3 + 1 ≤ _ → _))); first | walk1 | (dsimp only; walk1))
      intro hn2
      dsimp only at hn2 ⊢
      have hps : (Txt.slice x (some at') (some (at' + 1 + c.hi - c.lo))) = lettersOf x at' c.val := rfl
      rename_i t5 k5 hsl5 h5 F3 N3
      rw [hps] at F3 hsl5
      generalize hls : lettersOf x at' c.val = ls at hpg hdo F3 hsl5
      obtain ⟨pp, pl, ptl, ppre, pdots, prep⟩ := hpg
      have ptl' : c.x.length ≤ 1000 := ptl
      refine wpAny_execs_cons (wpAny_with_toks hn2 ?_)
      repeat' ((fail_if_success (with_reducible show (t3 + 1 ≤ _ → _))); first | walk1 | (dsimp only; walk1))
      intro hn3
      dsimp only at hn3 ⊢
      refine wpAny_execs_cons (wpAny_with_toks hn3 ?_)
      repeat' ((fail_if_success (with_reducible show (t3 + 1 ≤ _ → _))); first | walk1 | (dsimp only; walk1))
      intro hn4
      dsimp only at hn4 ⊢
      refine wpAny_execs_cons ?_
      rename_i h6 l6 h7 F4 N4
      obtain ⟨tm6, m6, hag6, F5⟩ : ∃ tm6 m6, Agree m6 [(Str.ofString "row", .str x tw), (Str.ofString "total", .int tot tt), (Str.ofString "marked", .str mk t3), (Str.ofString "at", .int (at' + (ls.length : Int)) tm6), (Str.ofString "part", .ref c.a), (Str.ofString "letters", .str ls t5)] ∧ ∃ t8, m6 (Str.ofString "whole") = some (.str (wholeOf ls 0) t8) ∧ Fr s₀.heap L h7 m6 := ⟨_, _, ⟨rfl, rfl, rfl, rfl, rfl, rfl, trivial⟩, _, rfl, F4⟩
      obtain ⟨t8, hag8, F5⟩ := F5
      have F6 := fr_over (r := [(Str.ofString "row", .str x tw), (Str.ofString "total", .int tot tt), (Str.ofString "marked", .str mk t3), (Str.ofString "at", .int (at' + (ls.length : Int)) tm6), (Str.ofString "part", .ref c.a), (Str.ofString "letters", .str ls t5), (Str.ofString "whole", .str (wholeOf ls 0) t8)]) F5 ⟨hag6.1, hag6.2.1, hag6.2.2.1, hag6.2.2.2.1, hag6.2.2.2.2.1, hag6.2.2.2.2.2.1, hag8, trivial⟩
      clear F4 F5
      refine cutXT hn4 (Js1 s₀ L (PartsL D3 cs kk ++ own) (fun t9 => [(Str.ofString "row", .str x tw), (Str.ofString "total", .int tot tt), (Str.ofString "marked", .str mk t3), (Str.ofString "at", .int (at' + (ls.length : Int)) tm6), (Str.ofString "part", .ref c.a), (Str.ofString "letters", .str ls t5), (Str.ofString "whole", .str (wholeOf ls (ls.length - 1)) t9)])) ?_ ?_
      · refine for_road (h₀ := s₀.heap) (s₀ := s₀) ?_
        k_steps
        unfold Stop
        refine' range_2 (fun i m news => La1 (fun t9 => [(Str.ofString "row", .str x tw), (Str.ofString "total", .int tot tt), (Str.ofString "marked", .str mk t3), (Str.ofString "at", .int (at' + (ls.length : Int)) tm6), (Str.ofString "part", .ref c.a), (Str.ofString "letters", .str ls t5), (Str.ofString "whole", .str (wholeOf ls i) t9)]) (PartsL D3 cs kk ++ own) m news) ?hh ?ha ?ha' ?hb ?hb' ?F ?N ?C ?z ?_ ?_
        case hh => rfl
        case ha => decide
        case ha' => decide
        case hb => omega
        case hb' => omega
        case F => exact F6
        case N => assumption
        case C => exact ⟨C1.os, C1.size, C1.gens, C1.bare⟩
        case z => exact ⟨t8, ⟨rfl, rfl, rfl, rfl, rfl, rfl, rfl, trivial⟩, rfl⟩
        · rintro I2 hI2 i v m2 news2 s2 own2 hi ⟨t10, rfl⟩ C2 hadr2 ⟨t9, hag2, rfl⟩ hown2 F7 N7
          have F8 := fr_over F7 hag2
          clear F7
          have hi1 : i + 1 < ls.length := by omega
          k_steps
          unfold Stop
          refine cutX (Js1 s₀ L (PartsL D3 cs kk ++ own ++ own2) (fun t11 => [(Str.ofString "row", .str x tw), (Str.ofString "total", .int tot tt), (Str.ofString "marked", .str mk t3), (Str.ofString "at", .int (at' + (ls.length : Int)) tm6), (Str.ofString "part", .ref c.a), (Str.ofString "letters", .str ls t5), (Str.ofString "whole", .str (wholeOf ls i) t9), (Str.ofString "place", .int (1 + (i : Int)) t10), (Str.ofString "due", .str (lastDue ls i) t11)])) ?_ ?_
          · refine for_road (h₀ := s₀.heap) (s₀ := s₀) ?_
            k_steps
            unfold Stop
            rename_i F9 N9 hpl
            have hpre := ppre i hi1
            refine' loop_str (fun j m news => DueLa [(Str.ofString "row", .str x tw), (Str.ofString "total", .int tot tt), (Str.ofString "marked", .str mk t3), (Str.ofString "at", .int (at' + (ls.length : Int)) tm6), (Str.ofString "part", .ref c.a), (Str.ofString "letters", .str ls t5), (Str.ofString "whole", .str (wholeOf ls i) t9), (Str.ofString "place", .int (1 + (i : Int)) t10)] ls i (PartsL D3 cs kk ++ own ++ own2) j m news) rfl F9 N9 ?C ?z ?_ ?_
            case C => exact ⟨C2.os, C2.size, C2.gens, C2.bare⟩
            case z => exact ⟨0, ⟨rfl, rfl, rfl, rfl, rfl, rfl, rfl, rfl, trivial⟩, fun h => absurd h (by decide), rfl⟩
            · rintro I3 hI3 j2 v m3 news3 s3 own3 hj2 ⟨ch, tch, hch, rfl⟩ C3 hadr3 ⟨t11, hag3, _, rfl⟩ hown3 F10 N10
              have F11 := fr_over F10 hag3
              clear F10
              have hcm2 : ch ∈ (preOf ls i).cps.toList := by
                have : (preOf ls i).cps[j2]? = some ch := hch
                exact Array.mem_toList_iff.mpr (Array.mem_of_getElem? this)
              have hdots := pdots i hi1 ch hcm2
              repeat' ((fail_if_success (with_reducible show wpAny _ _ (execs (Stmt.If _ _ _ _ :: _) _) _ _ _)); first | walk1 | (dsimp only; walk1))
              refine wpAny_execs_cons ?_
              refine cutX (Js1 s₀ L (PartsL D3 cs kk ++ own ++ own2 ++ own3) (fun t11 => [(Str.ofString "row", .str x tw), (Str.ofString "total", .int tot tt), (Str.ofString "marked", .str mk t3), (Str.ofString "at", .int (at' + (ls.length : Int)) tm6), (Str.ofString "part", .ref c.a), (Str.ofString "letters", .str ls t5), (Str.ofString "whole", .str (wholeOf ls i) t9), (Str.ofString "place", .int (1 + (i : Int)) t10), (Str.ofString "one", .str ⟨#[ch]⟩ tch), (Str.ofString "due", .str (dueS ⟨#[ch]⟩ (Txt.item ls (1 + (i : Int)))) t11)])) ?_ ?_
              · k_steps
                unfold Stop
                refine PyProof.Rows.lt_str ?_
                k_steps
                · have hlt : ([ch] : List Nat) < (Txt.item ls (1 + (i : Int))).cps.toList := by assumption
                  have hdu : dueS ⟨#[ch]⟩ (Txt.item ls (1 + (i : Int))) = Str.ofString "lt;" := if_pos hlt
                  exact ⟨⟨C3.os, C3.size, C3.gens, C3.bare⟩, _, _, by assumption, ⟨rfl, rfl, rfl, rfl, rfl, rfl, rfl, rfl, rfl, (by rw [hdu]; rfl), trivial⟩, by assumption⟩
                · have hlt : ¬ ([ch] : List Nat) < (Txt.item ls (1 + (i : Int))).cps.toList := by assumption
                  have hdu : dueS ⟨#[ch]⟩ (Txt.item ls (1 + (i : Int))) = Str.ofString "gt;" := if_neg hlt
                  exact ⟨⟨C3.os, C3.size, C3.gens, C3.bare⟩, _, _, by assumption, ⟨rfl, rfl, rfl, rfl, rfl, rfl, rfl, rfl, rfl, (by rw [hdu]; rfl), trivial⟩, by assumption⟩
              · rintro s4 ⟨C4, m4, t11, F12, hag4, N12⟩
                have F13 := fr_over F12 hag4
                clear F12
                k_steps
                unfold Stop
                refine item_l2 (D := D3) (kk := kk) N12 hcm (fun p hp => List.mem_append_left _ (List.mem_append_left _ (List.mem_append_left _ hp))) ?_ (by with_unfolding_all rfl)
                k_steps
                unfold Stop
                refine' use_in KX T (fun s a b => dots_spec ⟨#[ch]⟩ (Txt.item ls (1 + (i : Int))) c.x _ _ _ s a b ptl' ?w1 ?w2) ?F9 ?N9 ?d9 ?u9 ?_
                case w1 => show 1 ≤ 100; decide
                case w2 => show 1 ≤ 100; decide
                case F9 => exact F13
                case N9 => exact N12
                case d9 => exact dp_lt (j := 13) hdp rfl
                case u9 => exact dp_lt (j := 99) hun rfl
                rintro v s6 C6 hk6 F14 N14 ⟨t14, rfl⟩
                have CC6 : Cal s₀ s6 := Cal.trans ⟨C4.os, C4.size, C4.gens, C4.bare⟩ ⟨C6.os, C6.size, C6.gens, C6.bare⟩
                have hdots' : dotsB ⟨#[ch]⟩ (Txt.item ls (1 + (i : Int))) c.x = dueS ⟨#[ch]⟩ (Txt.item ls (1 + (i : Int))) := hdots
                rw [hdots']
                k_steps
                unfold Stop
                refine PyProof.Rows.ne_str ?_
                rw [bne_self_eq_false]
                k_steps
                have hg : (preOf ls i).cps.getD j2 0 = ch := by
                  have : (preOf ls i).cps[j2]? = some ch := hch
                  rw [Array.getD_eq_getD_getElem?, this]; rfl
                refine ⟨⟨CC6.os, CC6.size, CC6.gens, CC6.bare⟩, trivial, _, _, by assumption, by assumption, rfl, t11, ⟨rfl, rfl, rfl, rfl, rfl, rfl, rfl, rfl, trivial⟩, fun _ => ?_, rfl⟩
                rw [Nat.add_sub_cancel, hg]; rfl
            · rintro s3 m3 news3 C3 hadr3 ⟨t11, hag3, hdue, rfl⟩ F10 N10
              exact ⟨C3, m3, t11, F10, ⟨hag3.1, hag3.2.1, hag3.2.2.1, hag3.2.2.2.1, hag3.2.2.2.2.1, hag3.2.2.2.2.2.1, hag3.2.2.2.2.2.2.1, hag3.2.2.2.2.2.2.2.1, hdue hpre, trivial⟩, N10⟩
          · rintro s3 ⟨C3, m3, t11, F10, hag3, N10⟩
            have F11 := fr_over F10 hag3
            clear F10
            have q1 : (Str.ofString "&").length = 1 := by decide
            have q2 : (lastDue ls i).length = 3 := due_len _ _
            have q3 := whole_len ls i
            have q4 : (Txt.item ls (1 + (i : Int))).length = 1 := rfl
            k_steps
            unfold Stop
            refine PyProof.Rows.add_str ?_ (by rw [sizeLine_eq]; omega)
            intro t13 k13
            k_steps
            unfold Stop
            refine PyProof.Rows.add_str ?_ (by rw [Str.length_append, sizeLine_eq]; omega)
            intro t14 k14
            dsimp only
            k_steps
            unfold Stop
            refine PyProof.Rows.iadd_str ?_ (by simp only [Str.length_append]; rw [sizeLine_eq]; omega)
            intro t15 k15
            dsimp only
            k_steps
            exact ⟨⟨C3.os, C3.size, C3.gens, C3.bare⟩, trivial, _, _, by assumption, by assumption, rfl, t15, ⟨rfl, rfl, rfl, rfl, rfl, rfl, rfl, trivial⟩, rfl⟩
        · rintro s2 m2 news2 C2 hadr2 ⟨t9, hag2, rfl⟩ F7 N7
          rw [show ((ls.length : Int) - 1).toNat = ls.length - 1 from by omega] at hag2
          exact ⟨C2, m2, t9, F7, hag2, N7⟩
      · rintro s2 hn5 ⟨C2, m2, t9, F7, hag7, N7⟩
        have F8 := fr_over F7 hag7
        clear F7
        refine wpAny_execs_cons (wpAny_with_toks hn5 ?_)
        repeat' ((fail_if_success (with_reducible show (t3 + 1 ≤ _ → _))); first | walk1 | (dsimp only; walk1))
        intro hn6
        try dsimp only at hn6 ⊢
        refine wpAny_execs_cons ?_
        rename_i F9 N9
        refine cutXT hn6 (Js2 s₀ L (PartsL D3 cs kk ++ own) (fun t9 t12 => [(Str.ofString "row", .str x tw), (Str.ofString "total", .int tot tt), (Str.ofString "marked", .str mk t3), (Str.ofString "at", .int (at' + (ls.length : Int)) tm6), (Str.ofString "part", .ref c.a), (Str.ofString "whole", .str (wholeOf ls (ls.length - 1)) t9), (Str.ofString "mark", .str (markOf (tot.fmod 3) ls.length) t12)])) ?_ ?_
        · k_steps
          · have hm1 : markOf (tot.fmod 3) ls.length = Str.ofString "&quot;" := if_pos ⟨by assumption, by omega⟩
            exact ⟨⟨C2.os, C2.size, C2.gens, C2.bare⟩, _, _, _, by assumption, ⟨rfl, rfl, rfl, rfl, rfl, rfl, (by rw [hm1]; rfl), trivial⟩, by assumption⟩
          · have hm1 : markOf (tot.fmod 3) ls.length = Str.ofString "\"" := if_neg fun h => by omega
            exact ⟨⟨C2.os, C2.size, C2.gens, C2.bare⟩, _, _, _, by assumption, ⟨rfl, rfl, rfl, rfl, rfl, rfl, (by rw [hm1]; rfl), trivial⟩, by assumption⟩
          · have hm1 : markOf (tot.fmod 3) ls.length = Str.ofString "\"" := if_neg fun h => absurd h.1 (by assumption)
            exact ⟨⟨C2.os, C2.size, C2.gens, C2.bare⟩, _, _, _, by assumption, ⟨rfl, rfl, rfl, rfl, rfl, rfl, (by rw [hm1]; rfl), trivial⟩, by assumption⟩
        · rintro s3 hn7 ⟨C3, m3, t10, t12, F10, hag10, N10⟩
          have F11 := fr_over F10 hag10
          clear F10
          have hml : (markOf (tot.fmod 3) ls.length).length ≤ 6 ∧ (markOf (tot.fmod 3) ls.length).length ≠ 0 := by unfold markOf; split <;> decide
          have q3 := whole_len ls (ls.length - 1)
          k_steps
          unfold Stop
          refine item_l2 (D := D3) (kk := kk) N10 hcm (fun p hp => List.mem_append_left _ hp) ?_ (by with_unfolding_all rfl)
          k_steps
          unfold Stop
          refine wpAny_with_toks (n := t3 + 1) (Nat.le_trans hn7 (by dsimp only; omega)) ?_
          refine SC.replaceW (by show @Ne Nat _ _; omega) (by show @Ne Nat _ _; omega) (by show @Ne Nat _ _; omega) (by decide +kernel) (by omega) (by decide) ?_
          intro t16 k16 hn8
          dsimp only at hn8 ⊢
          k_steps
          unfold Stop
          refine add_str_tok (by omega) hml.2 (by omega) ?_
          k_steps
          unfold Stop
          have hbe : (mk == mk ++ markOf (tot.fmod 3) ls.length) = false := by
            rw [beq_eq_false_iff_ne]
            intro e
            have := congrArg Str.length e
            rw [Str.length_append] at this
            omega
          refine' SC.replaceW ?hu ?hv ?huv hbe (by omega) (by rw [Str.length_append]; omega) ?_
          case hu => intro e; rw [e] at ht3; exact absurd ht3 (by decide)
          case hv => intro e; have e' : k16 = 0 := e; rw [e'] at hn8; exact absurd hn8 (Nat.not_succ_le_zero _)
          case huv => intro e; have e' : t3 = k16 := e; rw [e'] at hn8; exact absurd hn8 (Nat.not_succ_le_self _)
          intro t17 k17
          dsimp only
          k_steps
          unfold Stop
          refine PyProof.Rows.ne_str ?_
          rw [show c.x = c.val.2.2 from rfl, prep, bne_self_eq_false]
          k_steps
          refine ⟨⟨C3.os, C3.size, C3.gens, C3.bare⟩, trivial, _, _, F11, N10, rfl, at' + (ls.length : Int), _, ⟨rfl, rfl, rfl, rfl, trivial⟩, rfl, hdo, by omega, by omega⟩
    · rintro s1 m1 news1 C1 hadr ⟨at', ta, hag, rfl, hdo, ha0, ha5⟩ F1 N1
      exact ⟨C1, m1, F1⟩
  · rintro s1 ⟨C1, m1, F1⟩
    k_steps
    exact k _ _ ⟨C1.os, C1.size, C1.gens, C1.bare⟩ F1
end Mine
end
end partA13
/-! part B1 -/
section partB1
open PySem PySem.W PyProof.Rows PySem.Calls Builtin Builtin.Str
set_option Elab.async false
set_option maxRecDepth 100000
set_option linter.all false
noncomputable section
namespace Mine
local macro_rules | `(tactic| omega) => `(tactic| lia)
theorem fillB1 : PySem.Challenge.rw_wr0027_01.prog = PySem.Challenge.rw_wr0027_01.prog ∧ hd.heap_1 = hd.heap_1 := by
  k_fill
  exact ⟨rfl, rfl⟩
structure FigOk (fs : List Int) : Prop where
  len : fs.length = 5
  nd : fs.Nodup
  bd : ∀ x ∈ fs, 0 ≤ x ∧ x < 16
noncomputable def rksOf (fs : List Int) : List Int := fs.map (rk fs)
noncomputable def partsOf (fs : List Int) (tot : Int) : List (Int × Int × Str) := joinAll 3 5 tot (startV (rksOf fs) (dressB (signs (rowS fs)) tot))
noncomputable def markAt (tot : Int) : Int := (tot.fdiv 11).fmod 5
noncomputable def textsOf (fs : List Int) (tot : Int) : List Str := addAt (signs (rowS fs)) (markAt tot).toNat (Str.ofString "\"")
noncomputable def parts2Of (fs : List Int) (tot : Int) : List (Int × Int × Str) := joinAll (tot.fmod 3) 5 (-1) (startV (rksOf fs) (textsOf fs tot))
/-- what the plain law says of a word and a total -/
structure PlainOk (fs : List Int) (tot : Int) : Prop where
  hex : List.replicate (5 - (hexL 5 (numOf fs).toNat).length) 65 ++ hexL 5 (numOf fs).toNat = rowL fs ∧ (hexL 5 (numOf fs).toNat).length ≤ 5
  fit : joinFits 3 5 tot (startV (rksOf fs) (dressB (signs (rowS fs)) tot))
  cnt : (partsOf fs tot).length ≤ 5
  found : ∀ ys : List Str, ys.Perm (signs (rowS fs)) → sortedS ys = true → foundAll (rowS fs) ys = decide ((partsOf fs tot).length > 1)
  spot : ∀ i, i < 5 → SpotOk (rowS fs) i
  ends : ∀ sp : Int, sp = 3 ∨ sp = 4 → EndsOk (rowS fs) sp
  top : ∀ v ∈ partsOf fs tot, TopOk v.2.2
  mail : ∃ n, n ≤ 1000 ∧ Wait n ((partsOf fs tot).map (·.2.2))
  fit2 : joinFits (tot.fmod 3) 5 (-1) (startV (rksOf fs) (textsOf fs tot))
  cnt2 : (parts2Of fs tot).length ≤ 5
  dots : DotsOk (rowS fs) (Txt.item (rowS fs) (markAt tot)) (tot.fmod 3) 0 (parts2Of fs tot)
theorem hexL_bd : ∀ (k n : Nat), ∀ c ∈ hexL k n, 65 ≤ c ∧ c < 81
  | 0, _, c, h => by simp [hexL] at h
  | k + 1, n, c, h => by
    unfold hexL at h
    split at h
    · simp at h
    · rcases List.mem_append.mp h with h | h
      · exact hexL_bd k _ c h
      · rw [List.mem_singleton.mp h]; omega
theorem signs_one {x y : Str} (h : y ∈ signs x) : y.length ≤ 1 := by
  unfold signs at h
  obtain ⟨c, _, e⟩ := List.mem_map.mp h
  rw [← e]; exact Nat.le_refl _
theorem rowS_len {fs : List Int} (h : FigOk fs) : (rowS fs).length = 5 := by
  show (rowL fs).toArray.size = 5
  rw [List.size_toArray]; unfold rowL; rw [List.length_map]; exact h.len

set_option maxHeartbeats 8000000 in
theorem law_body (plain : ∀ fs tot, FigOk fs → 0 ≤ tot → tot < 10 ^ 6 → PlainOk fs tot) {w : World} {mean : ExcName → Option Value} {mg mb : Str → Option Value} {s₀ : Shared} {dp un : Nat} {fr : Option (List Env)} {gd : Option (List Code)}
   (KX : (hd.heap_1 w.params).In s₀.heap) (T : Tp mean mg mb s₀.heap) (hdp : dp + 16 < recursionLimit) (hun : un + 8 * 16 < cLine)
   {L R : Addr} {vs : List Value} {ns : List Int} {s : Shared} {m : Str → Option Value} {o1 : Obj} (hl : s₀.heap.IsList R vs.toArray) (hi : IntsAre vs ns) (hlen : ns.length ≤ 63)
   (F : Fr s₀.heap L s.heap m) (hm : Agree m [(Str.ofString "script", .ref R)]) (N : News s₀.heap L s.heap [(L + 1, o1)]) (ho1 : o1.data = .cell none) (C : Cal s₀ s) :
   wpAny (model PR w) (LawAt dp un fr gd L) (execs lawD.1 (lawEnv L)) (Done s₀ (fun v _ => v = .bool true)) (fun _ _ => False) s := by
  refine seg1 KX T hdp hun hl hi hlen F hm N ho1 C ?_
  intro s1 m1 FA fl nF o2 C1 F1 hm1 N1 d2 lF h5 hnd hbd
  have fo : FigOk (fl.map (·.1)) := ⟨by rw [List.length_map]; exact h5, hnd, hbd⟩
  have hx := rowS_len fo
  have hx0 : (0 : Int) ≤ (ns.sum + 1350).fmod (10 ^ Int.toNat 6) := Int.fmod_nonneg_of_pos _ (by decide)
  have hx1 : (ns.sum + 1350).fmod (10 ^ Int.toNat 6) < 10 ^ 6 := Int.fmod_lt_of_pos _ (by decide)
  have po := plain _ _ fo hx0 hx1
  refine seg2 KX T hdp hun C1 F1 hm1 N1 d2 lF h5 hnd hbd ?_
  intro s2 m2 t2 C2 F2 hm2 N2
  refine seg3 KX T hdp hun C2 F2 hm2 N2 d2 lF h5 hnd hbd po.hex.2 (hexL_bd 5 _) po.hex.1 ?_
  intro s3 m3 t3 C3 F3 hm3 N3
  refine seg4 KX T hdp hun hl hi C3 F3 hm3 N3 d2 lF h5 hnd hbd ?_
  intro s4 m4 tt D rl nR t4 C4 F4 hm4 N4 hrl hLD hFD
  generalize (ns.sum + 1350).fmod (10 ^ Int.toNat 6) = tot at hx0 hx1 po hm4
  have hrl5 : rl.length = 5 := by
    have := congrArg List.length hrl
    rw [List.length_map, List.length_map, List.length_map] at this; omega
  refine seg5 KX T hdp hun C4 F4 hm4 (news_sub N4 (fun p hp => by rw [List.mem_singleton.mp hp]; exact List.mem_cons_self)) hx hx0 hx1 hrl5 ?_
  intro s5 m5 t51 t52 D2 dl n2 C5 F5 hm5 N5 hdl hD2 hd4
  have hdl5 : dl.length = 5 := by
    have := congrArg List.length hdl
    unfold addAt at this
    rw [List.length_map, List.length_set] at this
    rw [this]; simp [signs]; exact hx
  refine seg6 KX T hdp hun C5 F5 hm5 N5 hD2 hx hx0 hx1 hrl5 hdl5 hd4 ?_ ?_
  · rw [hrl, hdl]; exact po.fit
  intro s6 m6 t61 t62 D3 cs kk n3 C6 F6 hm6 N6 hval hoff
  rw [hrl, hdl] at hval
  have hval' : cs.map Cell.val = partsOf (fl.map (·.1)) tot := hval
  have hcl : cs.length = (partsOf (fl.map (·.1)) tot).length := by rw [← hval', List.length_map]
  have hc5 : cs.length ≤ 5 := by rw [hcl]; exact po.cnt
  have hcx : cs.map (·.x) = (partsOf (fl.map (·.1)) tot).map (·.2.2) := by rw [← hval', List.map_map]; rfl
  refine seg7 KX T hdp hun C6 F6 hm6 N6 hx ?_
  intro s7 m7 t71 t72 O ol no C7 F7 hm7 N7 hO hperm hsort
  have hol5 : ol.length = 5 := by
    have := hperm.length_eq
    rw [List.length_map] at this
    rw [this]; simp [signs]; exact hx
  refine seg8 KX T hdp hun C7 F7 hm7 N7 hO hx hol5 (fun p hp => signs_one (hperm.mem_iff.mp (List.mem_map_of_mem hp))) ?_
  intro s8 m8 t81 t82 C8 F8 hm8 N8
  refine seg9 KX T hdp hun C8 F8 hm8 N8 hc5 (by rw [po.found _ hperm hsort, hcl]) ?_
  intro s9 m9 t91 t92 C9 F9 hm9 N9
  refine seg10 KX T hdp hun C9 F9 hm9 N9 hx po.spot ?_
  intro s10 m10 ta tb C10 F10 hm10 N10
  refine seg11 KX T hdp hun C10 F10 hm10 N10 hx po.ends ?_
  intro s11 m11 tc td C11 F11 hm11 N11
  refine seg12 KX T hdp hun C11 F11 hm11 N11 hc5 ?_
  intro s12 m12 te tf W wl nw C12 F12 hm12 N12 hwl hW
  rw [hcx] at hwl
  refine seg13 KX T hdp hun C12 F12 hm12 N12 (fun p hp => ?_) ?_
  · have : p.1 ∈ wl.map (·.1) := List.mem_map_of_mem hp
    rw [hwl] at this
    obtain ⟨v, hv, e⟩ := List.mem_map.mp this
    rw [← e]; exact po.top v hv
  intro s13 m13 tg th C13 F13 hm13 N13
  obtain ⟨n0, hn0, hwait⟩ := po.mail
  refine seg14 KX T hdp hun C13 F13 hm13 N13 hW (by rw [hwl]; exact hwait) hn0 ?_
  intro s14 m14 ti tj C14 F14 hm14 N14
  refine seg15 KX T hdp hun C14 F14 hm14 N14 hx hx0 hx1 hrl5 ?_
  intro s15 m15 t151 t152 t153 t154 D4 tl n4 ht3 hn C15 F15 hm15 N15 htl
  have htl5 : tl.length = 5 := by
    have := congrArg List.length htl
    unfold addAt at this
    rw [List.length_map, List.length_set] at this
    rw [this]; simp [signs]; exact hx
  refine seg16 KX T hdp hun ht3 hn C15 F15 hm15 N15 hx rfl hx0 hx1 hrl5 htl5 ?_ ?_ ?_ ?_
  · rw [hrl, htl]; exact po.fit2
  · rw [hrl, htl]; exact po.cnt2
  · rw [hrl, htl]; exact po.dots
  · intro s16 m16 C16 F16
    exact done_of (fl := .ret (.bool true)) F16 C16 rfl
end Mine
end
end partB1
/-! part X1 -/
section partX1
open PySem PySem.W PyProof.Rows PySem.Calls Builtin Builtin.Str
set_option Elab.async false
set_option linter.all false
namespace Mine
local macro_rules | `(tactic| omega) => `(tactic| lia)
abbrev ofL (l : List Nat) : Str := ⟨l.toArray⟩
theorem ofL_app (a b : List Nat) : ofL a ++ ofL b = ofL (a ++ b) := by
  show (⟨a.toArray ++ b.toArray⟩ : Str) = _; simp
theorem ofL_len (a : List Nat) : (ofL a).length = a.length := by simp [Str.length]
theorem ofL_list (a : List Nat) : (ofL a).cps.toList = a := rfl
theorem ofL_inj {a b : List Nat} (h : ofL a = ofL b) : a = b := by
  have := congrArg (fun s => s.cps.toList) h
  exact this
theorem ofL_of (x : Str) : x = ofL x.cps.toList := by cases x; simp
theorem at_iff (x y : List Nat) (n i : Nat) : StrLaws.At (ofL x) (ofL y) n i ↔ i + y.length ≤ n ∧ (x.drop i).take y.length = y := by
  unfold StrLaws.At
  rw [StrLaws.subAt_eq, ofL_len, ofL_list, ofL_list, beq_iff_eq]
theorem strSub_ofL (x : List Nat) (i j : Nat) : strSub (ofL x) i j = ofL ((x.drop i).take (j - i)) := by
  rw [ofL_of (strSub (ofL x) i j), StrLaws.strSub_toList]
/-- replacing on lists -/
noncomputable def repS (y z : List Nat) : Nat → List Nat → List Nat
  | _, [] => []
  | k + 1, _ :: r => repS y z k r
  | 0, c :: r => if y.isPrefixOf (c :: r) then z ++ repS y z (y.length - 1) r else c :: repS y z 0 r
theorem repS_skip (y z : List Nat) : ∀ (k : Nat) (l : List Nat), repS y z k l = repS y z 0 (l.drop k)
  | 0, l => by rw [List.drop_zero]
  | k + 1, [] => by cases k <;> rfl
  | k + 1, _ :: r => by
    show repS y z k r = _
    rw [repS_skip y z k r, List.drop_succ_cons]
theorem pre_iff {y l : List Nat} : y.isPrefixOf l = true ↔ l.take y.length = y := by
  rw [List.isPrefixOf_iff_prefix, List.prefix_iff_eq_take]
  exact ⟨fun h => h.symm, fun h => h.symm⟩
theorem repS_hit {y z l : List Nat} (hy : y ≠ []) (h : l.take y.length = y) : repS y z 0 l = z ++ repS y z 0 (l.drop y.length) := by
  cases l with
  | nil => simp at h; exact absurd h hy
  | cons c r =>
    have hp : y.isPrefixOf (c :: r) = true := pre_iff.mpr h
    obtain ⟨n, hn⟩ : ∃ n, y.length = n + 1 := ⟨y.length - 1, by have := List.length_pos_iff.mpr hy; omega⟩
    show (if y.isPrefixOf (c :: r) then z ++ repS y z (y.length - 1) r else c :: repS y z 0 r) = _
    rw [if_pos hp, repS_skip, hn, List.drop_succ_cons, Nat.add_sub_cancel]
theorem repS_miss {y z l : List Nat} {c : Nat} (h : (c :: l).take y.length ≠ y) : repS y z 0 (c :: l) = c :: repS y z 0 l := by
  show (if y.isPrefixOf (c :: l) then _ else _) = _
  rw [if_neg (fun hp => h (pre_iff.mp hp))]
theorem repS_run (y z x : List Nat) : ∀ (n a : Nat), (∀ k, a ≤ k → k < a + n → (x.drop k).take y.length ≠ y) → a + n ≤ x.length → repS y z 0 (x.drop a) = (x.drop a).take n ++ repS y z 0 (x.drop (a + n))
  | 0, a, _, _ => by simp
  | n + 1, a, h, hl => by
    have hlt : a < x.length := by omega
    rw [List.drop_eq_getElem_cons hlt, List.take_succ_cons, List.cons_append]
    have h0 := h a (Nat.le_refl _) (by omega)
    rw [List.drop_eq_getElem_cons hlt] at h0
    rw [repS_miss h0, repS_run y z x n (a + 1) (fun k h1 h2 => h k (by omega) (by omega)) (by omega)]
    congr 2
    rw [show a + 1 + n = a + (n + 1) from by omega]
theorem repS_none (y z x : List Nat) (a : Nat) (h : ∀ k, a ≤ k → (x.drop k).take y.length ≠ y) : repS y z 0 (x.drop a) = x.drop a := by
  by_cases ha : a ≤ x.length
  · have := repS_run y z x (x.length - a) a (fun k h1 _ => h k h1) (by omega)
    rw [this, show a + (x.length - a) = x.length from by omega, List.drop_length]
    rw [List.take_of_length_le (by rw [List.length_drop]; omega)]
    simp [repS]
  · rw [List.drop_eq_nil_of_le (by omega)]; rfl
theorem rep_chain (x y z : List Nat) (hy : y ≠ []) : ∀ (cuts : List Nat) (a f : Nat), StrLaws.ChainG (ofL x) (ofL y) (ofL x).length a cuts f → (∀ k, f ≤ k → ¬ StrLaws.At (ofL x) (ofL y) (ofL x).length k) → a ≤ x.length →
    Str.join (ofL z) (StrLaws.partsFrom (ofL x) (ofL y).length a cuts) = ofL (repS y z 0 (x.drop a))
  | [], a, f, h, hn, ha => by
    have e : f = a := h
    subst e
    show strSub (ofL x) f (ofL x).length = _
    rw [strSub_ofL, repS_none, ofL_len, List.take_of_length_le (by rw [List.length_drop]; omega)]
    intro k hk he
    refine hn k hk ((at_iff _ _ _ _).mpr ⟨?_, he⟩)
    have := congrArg List.length he
    rw [List.length_take, List.length_drop] at this
    have := List.length_pos_iff.mpr hy
    rw [ofL_len]; omega
  | c :: r, a, f, h, hn, ha => by
    obtain ⟨hac, hAt, hno, hch⟩ := h
    obtain ⟨hA1, hA2⟩ := (at_iff _ _ _ _).mp hAt
    rw [ofL_len] at hA1
    have ih := rep_chain x y z hy r (c + (ofL y).length) f hch hn (by rw [ofL_len]; omega)
    obtain ⟨p, q, hpq⟩ := StrLaws.partsFrom_ne (ofL x) (ofL y).length (c + (ofL y).length) r
    show Str.join (ofL z) (strSub (ofL x) a c :: StrLaws.partsFrom (ofL x) (ofL y).length (c + (ofL y).length) r) = _
    rw [hpq] at ih ⊢
    show strSub (ofL x) a c ++ ofL z ++ Str.join (ofL z) (p :: q) = _
    rw [ih, strSub_ofL, ofL_app, ofL_app, ofL_len]
    have hrun := repS_run y z x (c - a) a (fun k h1 h2 he => hno k h1 (by omega) ((at_iff _ _ _ _).mpr ⟨by
      have := congrArg List.length he
      rw [List.length_take, List.length_drop] at this
      have := List.length_pos_iff.mpr hy
      rw [ofL_len]; omega, he⟩)) (by omega)
    rw [hrun, show a + (c - a) = c from by omega, repS_hit hy hA2, List.drop_drop, List.append_assoc]
theorem replace_ofL (x y z : List Nat) (hy : y ≠ []) : Txt.replace (ofL x) (ofL y) (ofL z) = ofL (repS y z 0 x) := by
  have hlen := List.length_pos_iff.mpr hy
  obtain ⟨f, hch, hn⟩ := StrLaws.occ_tight (ofL x) (ofL y) (by rw [ofL_len]; omega)
  have key := rep_chain x y z hy _ 0 f hch hn (Nat.zero_le _)
  rw [List.drop_zero] at key
  unfold Txt.replace
  split
  · rename_i hc
    have h0 : ((ofL y).length == 0) = false := by rw [ofL_len]; simp; exact hy
    rw [h0, Bool.false_and, Bool.or_false, List.isEmpty_iff] at hc
    rw [hc] at key
    rw [← key]
    show _ = strSub (ofL x) 0 (ofL x).length
    rw [strSub_ofL, List.drop_zero, ofL_len, Nat.sub_zero, List.take_length]
  · rw [StrLaws.glued_eq_join, StrLaws.partsBetween_eq]
    exact key
end Mine
end partX1
/-! part X2 -/
section partX2
open PySem PySem.W PyProof.Rows PySem.Calls Builtin Builtin.Str
set_option Elab.async false
set_option linter.all false
namespace Mine
local macro_rules | `(tactic| omega) => `(tactic| lia)
noncomputable def dotL : List Nat := [46, 46, 46]
theorem dots_ofL : dots = ofL dotL := by decide +kernel
theorem dots3 : Str.ofString "..." = ofL dotL := by decide +kernel
/-- texts joined by dots -/
noncomputable def joinD : List (List Nat) → List Nat
  | [] => []
  | [w] => w
  | w :: v :: r => w ++ dotL ++ joinD (v :: r)
theorem no_at {x w rest : List Nat} {pre : List Nat} (hx : x = pre ++ w ++ rest) (hw : 46 ∉ w) {k : Nat} (h1 : pre.length ≤ k) (h2 : k < pre.length + w.length) : ¬ (x.drop k).take dotL.length = dotL := by
  intro h
  have hk : (x.drop k)[0]? = some 46 := by
    have : ((x.drop k).take dotL.length)[0]? = some 46 := by rw [h]; rfl
    rwa [List.getElem?_take_of_lt (by decide)] at this
  rw [List.getElem?_drop, Nat.add_zero, hx, List.append_assoc, List.getElem?_append_right h1, List.getElem?_append_left (by omega)] at hk
  exact hw (List.mem_of_getElem? hk)
theorem split_chain (x : List Nat) : ∀ (ws : List (List Nat)), ws ≠ [] → (∀ w ∈ ws, 46 ∉ w) → ∀ (pre : List Nat), x = pre ++ joinD ws → ∀ (cuts : List Nat) (f : Nat),
    StrLaws.ChainG (ofL x) (ofL dotL) (ofL x).length pre.length cuts f → (∀ k, f ≤ k → ¬ StrLaws.At (ofL x) (ofL dotL) (ofL x).length k) → StrLaws.partsFrom (ofL x) 3 pre.length cuts = ws.map ofL
  | [], h, _, _, _, _, _, _, _ => absurd rfl h
  | [w], _, hw, pre, hx, cuts, f, hch, hn => by
    have hw0 := hw w List.mem_cons_self
    have hx' : x = pre ++ w ++ [] := by rw [List.append_nil]; exact hx
    cases cuts with
    | nil =>
      show [strSub (ofL x) pre.length (ofL x).length] = _
      rw [strSub_ofL, ofL_len, List.take_of_length_le (by rw [List.length_drop]; exact Nat.le_refl _), hx, List.drop_left]; rfl
    | cons c r =>
      obtain ⟨h1, h2, _⟩ := hch
      obtain ⟨ha, hb⟩ := (at_iff _ _ _ _).mp h2
      rw [ofL_len, hx', List.append_nil, List.length_append] at ha
      have : dotL.length = 3 := rfl
      exact absurd hb (no_at hx' hw0 h1 (by omega))
  | w :: v :: r, _, hw, pre, hx, cuts, f, hch, hn => by
    have hw0 := hw w List.mem_cons_self
    have hx' : x = pre ++ w ++ (dotL ++ joinD (v :: r)) := by rw [hx]; simp [joinD]
    have hxl : x.length = pre.length + w.length + 3 + (joinD (v :: r)).length := by rw [hx']; simp [dotL]; omega
    have hAt : StrLaws.At (ofL x) (ofL dotL) (ofL x).length (pre.length + w.length) := by
      refine (at_iff _ _ _ _).mpr ⟨by rw [ofL_len]; have : dotL.length = 3 := rfl; omega, ?_⟩
      rw [hx', ← List.length_append, List.drop_left, List.take_left]
    have hno : ∀ k, pre.length ≤ k → k < pre.length + w.length → ¬ StrLaws.At (ofL x) (ofL dotL) (ofL x).length k := fun k h1 h2 h => no_at hx' hw0 h1 h2 ((at_iff _ _ _ _).mp h).2
    cases cuts with
    | nil =>
      have e : f = pre.length := hch
      exact absurd hAt (hn _ (by omega))
    | cons c q =>
      obtain ⟨h1, h2, h3, h4⟩ := hch
      have hc : c = pre.length + w.length := by
        rcases Nat.lt_trichotomy c (pre.length + w.length) with h | h | h
        · exact absurd h2 (hno c h1 h)
        · exact h
        · exact absurd hAt (h3 _ (by omega) h)
      subst hc
      have ih := split_chain x (v :: r) (by simp) (fun y hy => hw y (List.mem_cons_of_mem _ hy)) (pre ++ w ++ dotL) (by rw [hx']; simp) q f (by
        have e : (pre ++ w ++ dotL).length = pre.length + w.length + (ofL dotL).length := by simp [ofL_len]; omega
        rw [e]; exact h4) hn
      show strSub (ofL x) pre.length (pre.length + w.length) :: StrLaws.partsFrom (ofL x) 3 (pre.length + w.length + 3) q = _
      have e : (pre ++ w ++ dotL).length = pre.length + w.length + 3 := by simp [dotL]; omega
      rw [e] at ih
      rw [ih, strSub_ofL, hx', List.append_assoc, List.drop_left, Nat.add_sub_cancel_left, List.take_left]
      rfl
theorem split_join (ws : List (List Nat)) (h2 : 2 ≤ ws.length) (hw : ∀ w ∈ ws, 46 ∉ w) : (occurrences (ofL (joinD ws)) dots 0 (ofL (joinD ws)).length 1).isEmpty = false ∧ Txt.split (ofL (joinD ws)) dots = ws.map ofL := by
  have hne : ws ≠ [] := by rintro rfl; simp at h2
  obtain ⟨f, hch, hn⟩ := StrLaws.occ_tight (ofL (joinD ws)) (ofL dotL) (by decide)
  have key := split_chain (joinD ws) ws hne hw [] rfl _ f hch hn
  have hoc : (occurrences (ofL (joinD ws)) dots 0 (ofL (joinD ws)).length 1).isEmpty = false := by
    rw [dots_ofL]
    match ws, h2 with
    | w :: v :: r, _ =>
      have := (StrLaws.found_iff (ofL (joinD (w :: v :: r))) (ofL dotL)).mpr ⟨w.length, (at_iff _ _ _ _).mpr ⟨by rw [ofL_len]; simp [joinD, dotL], by simp [joinD]⟩⟩
      simpa using this
  refine ⟨hoc, ?_⟩
  rw [(split_eq hoc).1, StrLaws.partsBetween_eq, dots_ofL]
  exact key
theorem ell_join (ws : List (List Nat)) (h2 : 2 ≤ ws.length) (hw : ∀ w ∈ ws, 46 ∉ w) (got : Str) : ellB (ofL (joinD ws)) got = ellHead got (ws.map ofL) := by
  have h := split_join ws h2 hw
  unfold ellB
  rw [h.2, h.1]; rfl
end Mine
end partX2
/-! part X3 -/
section partX3
open PySem PySem.W PyProof.Rows PySem.Calls Builtin Builtin.Str
set_option Elab.async false
set_option linter.all false
namespace Mine
local macro_rules | `(tactic| omega) => `(tactic| lia)
noncomputable def Hit (x w : List Nat) (i : Nat) : Prop := i + w.length ≤ x.length ∧ (x.drop i).take w.length = w
theorem hit_at {x w : List Nat} {i : Nat} : StrLaws.At (ofL x) (ofL w) (ofL x).length i ↔ Hit x w i := by rw [at_iff, ofL_len]; exact Iff.rfl
theorem ell_none {x w : List Nat} {ws : List Str} {lo : Nat} (h : ∀ i, lo ≤ i → ¬ Hit x w i) : ellLoop (ofL x) (ofL x).length (ofL w :: ws) lo = false := by
  rcases StrLaws.occ_head_from (ofL x) (ofL w) lo 1 (Nat.le_refl _) with ⟨h0, _⟩ | ⟨i, r, _, hlo, ha, _⟩
  · unfold ellLoop; rw [h0]
  · exact absurd (hit_at.mp ha) (h i hlo)
theorem ell_first {x w : List Nat} {ws : List Str} {lo i : Nat} (hlo : lo ≤ i) (hi : Hit x w i) (hn : ∀ k, lo ≤ k → k < i → ¬ Hit x w k) : ellLoop (ofL x) (ofL x).length (ofL w :: ws) lo = ellLoop (ofL x) (ofL x).length ws (i + w.length) := by
  rcases StrLaws.occ_head_from (ofL x) (ofL w) lo 1 (Nat.le_refl _) with ⟨_, h1⟩ | ⟨k, r, h0, hk, ha, hm⟩
  · exact absurd (hit_at.mpr hi) (h1 i hlo)
  · have e : k = i := by
      rcases Nat.lt_trichotomy k i with h | h | h
      · exact absurd (hit_at.mp ha) (hn k hk h)
      · exact h
      · exact absurd (hit_at.mpr hi) (hm i hlo h)
    subst e
    conv => lhs; unfold ellLoop
    rw [h0]
    show ellLoop (ofL x) (ofL x).length ws (k + (ofL w).length) = _
    rw [ofL_len w]
theorem ell_cases (x w : List Nat) (lo : Nat) : (∀ i, lo ≤ i → ¬ Hit x w i) ∨ ∃ i, lo ≤ i ∧ Hit x w i ∧ ∀ k, lo ≤ k → k < i → ¬ Hit x w k := by
  rcases StrLaws.occ_head_from (ofL x) (ofL w) lo 1 (Nat.le_refl _) with ⟨_, h1⟩ | ⟨k, r, _, hk, ha, hm⟩
  · exact .inl fun i hi h => h1 i hi (hit_at.mpr h)
  · exact .inr ⟨k, hk, hit_at.mp ha, fun i h1 h2 h => hm i h1 h2 (hit_at.mpr h)⟩
theorem ell_empty {x : List Nat} {ws : List Str} {lo : Nat} (h : lo ≤ x.length) : ellLoop (ofL x) (ofL x).length (ofL [] :: ws) lo = ellLoop (ofL x) (ofL x).length ws lo :=
  ell_first (Nat.le_refl _) ⟨h, rfl⟩ (fun k h1 h2 => absurd h2 (by omega))
theorem hit_one {x : List Nat} {p i : Nat} : Hit x [p] i ↔ x[i]? = some p := by
  unfold Hit
  constructor
  · rintro ⟨h1, h2⟩
    have : ((x.drop i).take 1)[0]? = some p := by rw [show (1 : Nat) = [p].length from rfl, h2]; rfl
    rwa [List.getElem?_take_of_lt (by decide), List.getElem?_drop] at this
  · intro h
    obtain ⟨hl, he⟩ := List.getElem?_eq_some_iff.mp h
    refine ⟨hl, ?_⟩
    rw [List.drop_eq_getElem_cons hl, he]; rfl
/-- a pattern within a row, in its order -/
noncomputable def subS : List Nat → List Nat → Bool
  | [], _ => true
  | _ :: _, [] => false
  | p :: ps, c :: t => if c = p then subS ps t else subS (p :: ps) t
theorem loop_subS (x : List Nat) : ∀ (n : Nat) (ps : List Nat) (lo : Nat), lo ≤ x.length → x.length - lo + ps.length ≤ n → ellLoop (ofL x) (ofL x).length (ps.map (fun p => ofL [p]) ++ [ofL []]) lo = subS ps (x.drop lo)
  | 0, [], lo, h, _ => by rw [List.map_nil, List.nil_append, ell_empty h]; simp [ellLoop, subS]
  | n + 1, [], lo, h, _ => by rw [List.map_nil, List.nil_append, ell_empty h]; simp [ellLoop, subS]
  | 0, p :: ps, lo, h, hn => by simp at hn
  | n + 1, p :: ps, lo, h, hn => by
    rw [List.map_cons, List.cons_append]
    by_cases hlt : lo < x.length
    · rw [List.drop_eq_getElem_cons hlt]
      by_cases hc : x[lo] = p
      · rw [ell_first (Nat.le_refl _) (hit_one.mpr (by rw [List.getElem?_eq_getElem hlt, hc])) (fun k h1 h2 => absurd h2 (by omega))]
        show _ = if x[lo] = p then _ else _
        rw [if_pos hc]
        exact loop_subS x n ps (lo + 1) (by omega) (by simp at hn; omega)
      · have ih := loop_subS x n (p :: ps) (lo + 1) (by omega) (by simp at hn ⊢; omega)
        rw [List.map_cons, List.cons_append] at ih
        show _ = if x[lo] = p then _ else subS (p :: ps) (x.drop (lo + 1))
        rw [if_neg hc, ← ih]
        have hno : ¬ Hit x [p] lo := fun hh => by rw [hit_one, List.getElem?_eq_getElem hlt] at hh; exact hc (Option.some.inj hh)
        rcases ell_cases x [p] (lo + 1) with h1 | ⟨i, h1, h2, h3⟩
        · rw [ell_none h1, ell_none (fun i hi hh => by
            rcases Nat.lt_or_ge lo i with q | q
            · exact h1 i q hh
            · have : i = lo := by omega
              exact hno (this ▸ hh))]
        · rw [ell_first h1 h2 h3, ell_first (by omega) h2 (fun k h4 h5 hh => by
            rcases Nat.lt_or_ge lo k with q | q
            · exact h3 k q h5 hh
            · have : k = lo := by omega
              exact hno (this ▸ hh))]
    · have e : x.drop lo = [] := List.drop_eq_nil_of_le (by omega)
      rw [e, ell_none (fun i hi hh => by have := hh.1; simp at this; omega)]
      rfl
theorem head_open (x : Str) (mid : List Str) : ellHead x (ofL [] :: (mid ++ [ofL []])) = ellLoop x x.length (ofL [] :: (mid ++ [ofL []])) 0 := by
  have h1 : ellHead x (ofL [] :: (mid ++ [ofL []])) = ellLast x (ofL [] :: (mid ++ [ofL []])) 0 := by unfold ellHead; exact if_pos rfl
  have hl : (ofL [] :: (mid ++ [ofL []])).getLast? = some (ofL []) := by rw [← List.cons_append, List.getLast?_append]; rfl
  have h2 : ellLast x (ofL [] :: (mid ++ [ofL []])) 0 = ellTail x (ofL [] :: (mid ++ [ofL []])) 0 x.length := by
    unfold ellLast
    exact if_pos (by rw [hl]; rfl)
  rw [h1, h2]
  unfold ellTail
  exact if_neg (by omega)
theorem ell_subS (x ps : List Nat) (hp : 46 ∉ ps) : ellB (ofL (joinD ([] :: (ps.map (fun p => [p]) ++ [[]])))) (ofL x) = subS ps x := by
  rw [ell_join _ (by simp) (by
    intro w hw
    rcases List.mem_cons.mp hw with rfl | hw
    · simp
    · rcases List.mem_append.mp hw with hw | hw
      · obtain ⟨p, hp', rfl⟩ := List.mem_map.mp hw
        intro h; rw [List.mem_singleton.mp h] at hp; exact hp hp'
      · rw [List.mem_singleton.mp hw]; simp)]
  have e : ([] :: (ps.map (fun p => [p]) ++ [[]])).map ofL = ofL [] :: (ps.map (fun p => ofL [p]) ++ [ofL []]) := by simp
  rw [e, head_open, ell_empty (Nat.zero_le _)]
  exact loop_subS x _ ps 0 (Nat.zero_le _) (Nat.le_refl _)
theorem ell_abc (P M Q S : List Nat) (a b : Nat) (hPa : a ∉ P) (hb1 : b ∉ P) (hba : b ≠ a) (hb2 : b ∉ M) (hb3 : b ∉ Q) (hd : 46 ∉ [a, b]) (hS : 46 ∉ S) :
    ellB (ofL (joinD [[], [a], S, [b], []])) (ofL (P ++ a :: (M ++ b :: Q))) = true ↔ ∃ j, Hit M S j := by
  rw [ell_join _ (by simp) (by
    intro w hw
    simp only [List.mem_cons, List.mem_singleton, List.not_mem_nil, or_false] at hw
    have h1 : (46 : Nat) ≠ a := fun e => hd (by simp [e])
    have h2 : (46 : Nat) ≠ b := fun e => hd (by simp [e])
    rcases hw with rfl | rfl | rfl | rfl | rfl
    · simp
    · simpa using h1
    · exact hS
    · simpa using h2
    · simp)]
  generalize hx : P ++ a :: (M ++ b :: Q) = x
  have hxl : x.length = P.length + 1 + M.length + 1 + Q.length := by rw [← hx]; simp; omega
  show ellHead (ofL x) (ofL [] :: ([ofL [a], ofL S, ofL [b]] ++ [ofL []])) = true ↔ _
  rw [head_open, ell_empty (Nat.zero_le _)]
  show ellLoop (ofL x) (ofL x).length (ofL [a] :: ofL S :: ofL [b] :: [ofL []]) 0 = true ↔ _
  have hpa : Hit x [a] P.length := hit_one.mpr (by rw [← hx, List.getElem?_append_right (Nat.le_refl _)]; simp)
  rw [ell_first (Nat.zero_le _) hpa (fun k _ h2 hh => by
    rw [hit_one, ← hx, List.getElem?_append_left h2] at hh
    exact hPa (List.mem_of_getElem? hh))]
  show ellLoop (ofL x) (ofL x).length (ofL S :: ofL [b] :: [ofL []]) (P.length + 1) = true ↔ _
  have hx2 : x = (P ++ [a]) ++ (M ++ b :: Q) := by rw [← hx]; simp
  have hPl : (P ++ [a]).length = P.length + 1 := by simp
  -- M's part of x
  have hM : ∀ j, j + S.length ≤ M.length → (x.drop (P.length + 1 + j)).take S.length = (M.drop j).take S.length := by
    intro j hj
    rw [hx2, ← hPl, ← List.drop_drop, List.drop_left, List.drop_append_of_le_length (by omega), List.take_append_of_le_length (by rw [List.length_drop]; omega)]
  have hbh : ∀ k, Hit x [b] k ↔ k = P.length + 1 + M.length := by
    intro k
    rw [hit_one]
    constructor
    · intro hh
      rw [hx2] at hh
      rcases Nat.lt_or_ge k (P ++ [a]).length with q | q
      · rw [List.getElem?_append_left q] at hh
        have := List.mem_of_getElem? hh
        rcases List.mem_append.mp this with h | h
        · exact absurd h hb1
        · exact absurd (List.mem_singleton.mp h) hba
      · rw [List.getElem?_append_right q] at hh
        rcases Nat.lt_or_ge (k - (P ++ [a]).length) M.length with q2 | q2
        · rw [List.getElem?_append_left q2] at hh
          exact absurd (List.mem_of_getElem? hh) hb2
        · rw [List.getElem?_append_right q2] at hh
          cases hz : k - (P ++ [a]).length - M.length with
          | zero => omega
          | succ z =>
            rw [hz] at hh
            exact absurd (List.mem_of_getElem? (show Q[z]? = some b from hh)) hb3
    · rintro rfl
      rw [hx2, List.getElem?_append_right (by omega), List.getElem?_append_right (by omega), show P.length + 1 + M.length - (P ++ [a]).length - M.length = 0 from by omega]
      rfl
  rcases ell_cases x S (P.length + 1) with h1 | ⟨i, h1, h2, h3⟩
  · rw [ell_none h1]
    refine ⟨fun h => by simp at h, fun ⟨j, hj⟩ => absurd ?_ (h1 (P.length + 1 + j) (by omega))⟩
    exact ⟨by have := hj.1; omega, by rw [hM j hj.1]; exact hj.2⟩
  · rw [ell_first h1 h2 h3]
    by_cases hle : i + S.length ≤ P.length + 1 + M.length
    · rw [ell_first hle ((hbh _).mpr rfl) (fun k _ q hh => by have := (hbh k).mp hh; omega), ell_empty (by simp; omega)]
      refine ⟨fun _ => ⟨i - (P.length + 1), by omega, ?_⟩, fun _ => rfl⟩
      have := hM (i - (P.length + 1)) (by omega)
      rw [← this, show P.length + 1 + (i - (P.length + 1)) = i from by omega]
      exact h2.2
    · rw [ell_none (fun k q hh => by have := (hbh k).mp hh; omega)]
      refine ⟨fun h => by simp at h, fun ⟨j, hj⟩ => ?_⟩
      have hit : Hit x S (P.length + 1 + j) := ⟨by have := hj.1; omega, by rw [hM j hj.1]; exact hj.2⟩
      rcases Nat.lt_or_ge (P.length + 1 + j) i with q | q
      · exact absurd hit (h3 _ (by omega) q)
      · have := hj.1; omega
end Mine
end partX3
/-! part X5 -/
section partX5
open PySem PySem.W PyProof.Rows PySem.Calls Builtin Builtin.Str
set_option Elab.async false
set_option linter.all false
set_option maxRecDepth 100000
namespace Mine
inductive Tree
  | leaf (i : Nat)
  | node (g : Bool) (l r : Tree)
abbrev PT := Nat × Nat × Tree
noncomputable def okT (ps : List PT) (i : Nat) : Bool :=
  match ps[i]?, ps[i + 1]? with
  | some p, some q => p.2.1 + 1 == q.1 || q.2.1 + 1 == p.1
  | _, _ => false
noncomputable def spotsT (ps : List PT) : List Nat := (List.range (ps.length - 1)).filter (okT ps)
noncomputable def joinT (ps : List PT) (k : Nat) : List PT :=
  match ps[k]?, ps[k + 1]? with
  | some p, some q => ps.take k ++ [(min p.1 q.1, max p.2.1 q.2.1, Tree.node (decide (q.1 < p.1)) p.2.2 q.2.2)] ++ ps.drop (k + 2)
  | _, _ => ps
noncomputable def reach : Nat → List PT → List (List PT)
  | 0, ps => [ps]
  | n + 1, ps => match spotsT ps with
    | [] => [ps]
    | k :: ks => (k :: ks).flatMap fun k => reach n (joinT ps k)
noncomputable def startT (r : List Nat) : List PT := r.zipIdx.map fun p => (p.1, p.1, Tree.leaf p.2)
/-! what is asked of the trees -/
noncomputable def Tree.leaves : Tree → List Nat
  | .leaf i => [i]
  | .node _ l r => l.leaves ++ r.leaves
noncomputable def Tree.valid (r : List Nat) : Tree → Bool
  | .leaf _ => true
  | .node g a b => a.valid r && b.valid r && a.leaves.all fun i => b.leaves.all fun j => (r.getD i 0 < r.getD j 0) == !g
noncomputable def Tree.nodes : Tree → Nat
  | .leaf _ => 0
  | .node _ a b => a.nodes + b.nodes + 1
/-- letters (with how often they are written) and signs (likewise), in the order of the text -/
abbrev Item := Sum (Nat × Nat) (Bool × Nat)
noncomputable def Tree.items : Nat → Tree → List Item
  | d, .leaf i => [.inl (i, d)]
  | d, .node g a b => a.items (d + 1) ++ [.inr (g, d + 1)] ++ b.items (d + 1)
noncomputable def signsIn (l : List Item) : List (Bool × Nat) := l.filterMap fun | .inr s => some s | .inl _ => none
noncomputable def dirOk (want : Bool) (sg : List (Bool × Nat)) : Bool :=
  (List.range 4).any fun i => (List.range i).all (fun k => sg.all fun s => s.2 != k + 1) && sg.any (fun s => s == (want, i + 1)) && sg.all fun s => s.2 != i + 1 || s.1 == want
noncomputable def isLeaf (o : Option Item) (a : Nat) : Bool := match o with | some (.inl (i, _)) => i == a | _ => false
noncomputable def altOk (r : List Nat) (n : Nat) : Nat → Nat → List Item → Bool
  | 0, i, [.inl (j, d)] => j == i && (decide (1 ≤ d) == decide (1 < n)) && decide (d ≤ 5)
  | k + 1, i, .inl (j, d) :: .inr (g, m) :: rest => j == i && (decide (1 ≤ d) == decide (1 < n)) && decide (d ≤ 5) && g == decide (r.getD (i + 1) 0 < r.getD i 0) && decide (1 ≤ m) && decide (m ≤ 5) && altOk r n k (i + 1) rest
  | _, _, _ => false
noncomputable def noLf (j : Nat) (its : List Item) : Bool := its.all fun | .inl (i, _) => i != j | .inr (_, m) => decide (1 ≤ m)
noncomputable def pairOk (r : List Nat) (a : Nat) (its : List Item) (q p : Nat) : Bool :=
  isLeaf its[2 * p]? (a + p) && isLeaf its[2 * q]? (a + q) && noLf (a + p) (its.take (2 * p)) && noLf (a + q) (its.take (2 * p)) && noLf (a + q) ((its.drop (2 * p + 1)).take (2 * (q - p) - 1)) && noLf (a + q) (its.drop (2 * q + 1)) &&
    dirOk (decide (r.getD (a + q) 0 < r.getD (a + p) 0)) (signsIn ((its.drop (2 * p + 1)).take (2 * (q - p) - 1)))
noncomputable def dotsOkT (r : List Nat) (a n : Nat) (its : List Item) : Bool :=
  its.length == 2 * n - 1 && altOk r n (n - 1) a its && (List.range n).all fun q => (List.range q).all fun p => pairOk r a its q p
noncomputable def treeOk (r : List Nat) (a : Nat) (p : PT) : Bool :=
  p.2.1 + 1 - p.1 == p.2.2.leaves.length && decide (p.1 ≤ p.2.1) && p.2.2.leaves == List.range' a (p.2.1 + 1 - p.1) && p.2.2.valid r && decide (p.2.2.nodes ≤ 4) && dotsOkT r a (p.2.1 + 1 - p.1) (p.2.2.items 0)
noncomputable def partsOk (r : List Nat) : Nat → List PT → Bool
  | a, [] => a == 5
  | a, p :: ps => treeOk r a p && partsOk r (a + (p.2.1 + 1 - p.1)) ps
noncomputable def foursN (l : List Nat) : List (List Nat) := match l with | [a, b, c, d] => [[b, d, a, c], [c, a, d, b]] | _ => []
noncomputable def patB (r : List Nat) : Bool := (List.range 5).any fun i => (foursN ((List.range 5).take i ++ (List.range 5).drop (i + 1))).any fun q => subS q r
noncomputable def goodR (r : List Nat) : Bool := (reach 5 (startT r)).all fun ps => partsOk r 0 ps && (decide (ps.length > 1) == patB r) && decide (ps.length ≤ 5)
noncomputable def distinct5 (a b c d e : Nat) : Bool := a != b && a != c && a != d && a != e && b != c && b != d && b != e && c != d && c != e && d != e
theorem good_all0 : ∀ b < 5, ∀ c < 5, ∀ d < 5, ∀ e < 5, distinct5 0 b c d e = true → goodR [0, b, c, d, e] = true := by decide +kernel
end Mine
end partX5
/-! part X6 -/
section partX6
open PySem PySem.W PyProof.Rows PySem.Calls Builtin Builtin.Str
set_option Elab.async false
set_option linter.all false
set_option maxRecDepth 100000
namespace Mine
local macro_rules | `(tactic| omega) => `(tactic| lia)
theorem good_all1 : ∀ b < 5, ∀ c < 5, ∀ d < 5, ∀ e < 5, distinct5 1 b c d e = true → goodR [1, b, c, d, e] = true := by decide +kernel
theorem good_all2 : ∀ b < 5, ∀ c < 5, ∀ d < 5, ∀ e < 5, distinct5 2 b c d e = true → goodR [2, b, c, d, e] = true := by decide +kernel
theorem good_all3 : ∀ b < 5, ∀ c < 5, ∀ d < 5, ∀ e < 5, distinct5 3 b c d e = true → goodR [3, b, c, d, e] = true := by decide +kernel
theorem good_all4 : ∀ b < 5, ∀ c < 5, ∀ d < 5, ∀ e < 5, distinct5 4 b c d e = true → goodR [4, b, c, d, e] = true := by decide +kernel
theorem good_all {a b c d e : Nat} (ha : a < 5) (hb : b < 5) (hc : c < 5) (hd : d < 5) (he : e < 5) (h : distinct5 a b c d e = true) : goodR [a, b, c, d, e] = true := by
  match a, ha with
  | 0, _ => exact good_all0 b hb c hc d hd e he h
  | 1, _ => exact good_all1 b hb c hc d hd e he h
  | 2, _ => exact good_all2 b hb c hc d hd e he h
  | 3, _ => exact good_all3 b hb c hc d hd e he h
  | 4, _ => exact good_all4 b hb c hc d hd e he h
noncomputable def val (f : Tree → Str) (p : PT) : Int × Int × Str := ((p.1 : Int), (p.2.1 : Int), f p.2.2)
noncomputable def sgnS (g : Bool) : Str := if g then Str.ofString ">" else Str.ofString "<"
section
variable {kind : Int} {f : Tree → Str}
theorem ok_val (ps : List PT) (i : Nat) : joinOk (ps.map (val f)) i = okT ps i := by
  unfold joinOk okT
  rw [List.getElem?_map, List.getElem?_map]
  cases ps[i]? with
  | none => rfl
  | some p => cases ps[i + 1]? with
    | none => rfl
    | some q =>
      show (((p.2.1 : Int) + 1 == (q.1 : Int)) || ((q.2.1 : Int) + 1 == (p.1 : Int))) = (p.2.1 + 1 == q.1 || q.2.1 + 1 == p.1)
      rw [Bool.eq_iff_iff]
      simp only [Bool.or_eq_true, beq_iff_eq]
      omega
theorem spots_val (ps : List PT) : joinL (ps.map (val f)) = spotsT ps := by
  unfold joinL spotsT
  rw [List.length_map]
  congr 1
  funext i
  exact ok_val ps i
theorem join_val (hf : ∀ g l r, f (.node g l r) = wrapP kind (f l ++ sgnS g ++ f r)) (ps : List PT) (k : Nat) : joinAt kind (ps.map (val f)) k = (joinT ps k).map (val f) := by
  unfold joinAt joinT
  rw [List.getElem?_map, List.getElem?_map]
  cases ps[k]? with
  | none => rfl
  | some p => cases ps[k + 1]? with
    | none => rfl
    | some q =>
      simp only [Option.map_some, List.map_append, List.map_take, List.map_drop, List.map_cons, List.map_nil]
      congr 2
      unfold joinTwo
      have hs : signP (val f p) (val f q) = sgnS (decide (q.1 < p.1)) := by
        unfold signP sgnS
        show (if (p.1 : Int) > (q.1 : Int) then _ else _) = _
        by_cases h : q.1 < p.1
        · rw [if_pos (by omega), if_pos (by simpa using h)]
        · rw [if_neg (by omega), if_neg (by simpa using h)]
      rw [hs]
      show [(min (p.1 : Int) (q.1 : Int), max (p.2.1 : Int) (q.2.1 : Int), wrapP kind (f p.2.2 ++ sgnS _ ++ f q.2.2))] = [(((min p.1 q.1 : Nat) : Int), ((max p.2.1 q.2.1 : Nat) : Int), f (.node _ p.2.2 q.2.2))]
      have e1 : min (p.1 : Int) (q.1 : Int) = ((min p.1 q.1 : Nat) : Int) := by omega
      have e2 : max (p.2.1 : Int) (q.2.1 : Int) = ((max p.2.1 q.2.1 : Nat) : Int) := by omega
      rw [hf, e1, e2]
theorem joinAll_reach (hf : ∀ g l r, f (.node g l r) = wrapP kind (f l ++ sgnS g ++ f r)) : ∀ (n : Nat) (ch : Int) (ps : List PT), ∃ ps' ∈ reach n ps, joinAll kind n ch (ps.map (val f)) = ps'.map (val f)
  | 0, _, ps => ⟨ps, List.mem_cons_self, rfl⟩
  | n + 1, ch, ps => by
    show ∃ ps' ∈ reach (n + 1) ps, (if joinL (ps.map (val f)) = [] then _ else joinAll kind n (ch.fdiv 5) (joinAt kind (ps.map (val f)) (spotAt ch (ps.map (val f))))) = _
    have hj : joinL (ps.map (val f)) = spotsT ps := spots_val ps
    cases hs : spotsT ps with
    | nil =>
      rw [hj, hs, if_pos rfl]
      refine ⟨ps, ?_, rfl⟩
      unfold reach; rw [hs]; exact List.mem_cons_self
    | cons k ks =>
      rw [hj, hs, if_neg (by simp), join_val hf]
      have hm : spotAt ch (ps.map (val f)) ∈ k :: ks := by
        unfold spotAt
        rw [hj, hs]
        have h0 : 0 ≤ ch.fmod (((k :: ks).length : Nat) : Int) := Int.fmod_nonneg_of_pos _ (by simp)
        have h1 : ch.fmod (((k :: ks).length : Nat) : Int) < (((k :: ks).length : Nat) : Int) := Int.fmod_lt_of_pos _ (by simp)
        rw [List.getD_eq_getElem?_getD, List.getElem?_eq_getElem (by omega), Option.getD_some]
        exact List.getElem_mem _
      obtain ⟨ps', hp, he⟩ := joinAll_reach hf n (ch.fdiv 5) (joinT ps (spotAt ch (ps.map (val f))))
      refine ⟨ps', ?_, he⟩
      unfold reach; rw [hs]
      exact List.mem_flatMap.mpr ⟨_, hm, hp⟩
end
/-! sizes -/
noncomputable def szP (ps : List (Int × Int × Str)) : Nat := (ps.map fun v => v.2.2.length + 1).sum
theorem sz_mem {ps : List (Int × Int × Str)} {v} (h : v ∈ ps) : v.2.2.length + 1 ≤ szP ps := by
  unfold szP
  induction ps with
  | nil => simp at h
  | cons p r ih =>
    rw [List.map_cons, List.sum_cons]
    rcases List.mem_cons.mp h with rfl | h
    · omega
    · have := ih h; omega
theorem sz_app (a b : List (Int × Int × Str)) : szP (a ++ b) = szP a + szP b := by unfold szP; rw [List.map_append, List.sum_append]
theorem sz_join {kind : Int} {ps : List (Int × Int × Str)} {k B : Nat} (h0 : szP ps ≤ B) (h : ∀ p q, p ∈ ps → q ∈ ps → ∀ c, szP ps = c + (p.2.2.length + 1 + (q.2.2.length + 1)) → c + szP [joinTwo kind p q] ≤ B) : szP (joinAt kind ps k) ≤ B := by
  unfold joinAt
  split
  · rename_i p q hp hq
    have hd : ps = ps.take k ++ [p, q] ++ ps.drop (k + 2) := by
      have e1 : ps.drop k = p :: ps.drop (k + 1) := by
        obtain ⟨hl, he⟩ := List.getElem?_eq_some_iff.mp hp
        rw [List.drop_eq_getElem_cons hl, he]
      have e2 : ps.drop (k + 1) = q :: ps.drop (k + 1 + 1) := by
        obtain ⟨hl, he⟩ := List.getElem?_eq_some_iff.mp hq
        rw [List.drop_eq_getElem_cons hl, he]
      conv => lhs; rw [← List.take_append_drop k ps, e1, e2]
      rw [List.append_assoc]; rfl
    have hs : szP ps = szP (ps.take k) + szP (ps.drop (k + 2)) + (p.2.2.length + 1 + (q.2.2.length + 1)) := by
      conv => lhs; rw [hd]
      rw [sz_app, sz_app, Nat.add_right_comm]; rfl
    have := h p q (List.mem_of_getElem? hp) (List.mem_of_getElem? hq) _ hs
    rw [sz_app, sz_app, Nat.add_right_comm]
    exact this
  · exact h0
theorem fits_all {kind : Int} (hw : ∀ t : Str, 1 ≤ t.length → (wrapP kind t).length ≤ 6 * t.length) (hj : kind ≠ 3 → ∀ j (t : Str), (escB ((escTab kind).take j) t).length ≤ 6 * t.length) :
    ∀ (n : Nat) (ch : Int) (ps : List (Int × Int × Str)), szP ps * 6 ^ n ≤ 100000 → joinFits kind n ch ps
  | 0, _, _, _ => trivial
  | n + 1, ch, ps, h => by
    show joinL ps = [] ∨ _
    have hpos : 1 ≤ 6 ^ n := Nat.pow_pos (by decide)
    have hle : szP ps * 6 ≤ 100000 := Nat.le_trans (by rw [Nat.pow_succ]; exact Nat.mul_le_mul_left _ (by omega)) h
    have hsg : ∀ p q, (signP p q).length = 1 := fun p q => by unfold signP; split <;> decide
    by_cases hnil : joinL ps = []
    · exact .inl hnil
    refine .inr ⟨?_, fits_all hw hj n _ _ ?_⟩
    · intro p q hp hq
      have h1 := sz_mem (List.mem_of_getElem? hp)
      have h2 := sz_mem (List.mem_of_getElem? hq)
      refine ⟨by omega, by omega, fun hk j => Nat.le_trans (hj hk j _) ?_⟩
      rw [Str.length_append, Str.length_append, hsg]
      omega
    · have key : szP (joinAt kind ps (spotAt ch ps)) ≤ 6 * szP ps := by
        refine sz_join (Nat.le_mul_of_pos_left _ (by decide)) fun p q _ _ c hc => ?_
        have hx : szP [joinTwo kind p q] ≤ 6 * (p.2.2.length + 1 + q.2.2.length) + 1 := by
          have h1 : (p.2.2 ++ signP p q ++ q.2.2).length = p.2.2.length + 1 + q.2.2.length := by rw [Str.length_append, Str.length_append, hsg]
          have := hw (p.2.2 ++ signP p q ++ q.2.2) (by rw [h1, Nat.add_right_comm]; exact Nat.le_add_left _ _)
          rw [h1] at this
          exact Nat.succ_le_succ this
        rw [hc]
        clear hc h hle hpos hw hj hsg
        omega
      refine Nat.le_trans (Nat.mul_le_mul_right _ key) ?_
      rw [Nat.pow_succ] at h
      rw [Nat.mul_comm 6, Nat.mul_assoc, Nat.mul_comm 6]
      exact h
end Mine
end partX6
/-! part X7 -/
section partX7
open PySem PySem.W PyProof.Rows PySem.Calls Builtin Builtin.Str
set_option Elab.async false
set_option linter.all false
set_option maxRecDepth 100000
namespace Mine
local macro_rules | `(tactic| omega) => `(tactic| lia)
/-! slices and items on lists -/
theorem slice_ss (x : List Nat) {a b : Nat} (hab : a ≤ b) (hb : b ≤ x.length) : Txt.slice (ofL x) (some (a : Int)) (some (b : Int)) = ofL ((x.drop a).take (b - a)) :=
  StrLaws.sliceText_nat (ofL x) hab (by rw [ofL_len]; exact hb)
theorem slice_to (x : List Nat) {b : Nat} (hb : b ≤ x.length) : Txt.slice (ofL x) none (some (b : Int)) = ofL (x.take b) := by
  have h := StrLaws.sliceText_to (x := ofL x) (j := (b : Int)) ⟨by omega, by rw [ofL_list]; omega⟩
  refine Eq.trans h ?_
  rw [ofL_list, List.drop_zero, show ((b : Int) - 0).toNat = b from by omega]
theorem slice_from (x : List Nat) {a : Nat} (ha : a ≤ x.length) : Txt.slice (ofL x) (some (a : Int)) none = ofL (x.drop a) := by
  have h := StrLaws.sliceText_from (x := ofL x) (i := (a : Int)) ⟨by omega, by rw [ofL_list]; omega⟩
  refine Eq.trans h ?_
  rw [ofL_list, show ((a : Int)).toNat = a from by omega, List.take_of_length_le (by rw [List.length_drop]; omega)]
theorem slice_in (x : List Nat) {a : Nat} (ha : a + 1 ≤ x.length) : Txt.slice (ofL x) (some (a : Int)) (some (-1)) = ofL ((x.drop a).take (x.length - 1 - a)) := by
  have h := StrLaws.sliceText_neg_hi (ofL x) (some (a : Int)) (j := -1) (by decide) (by rw [ofL_len]; omega)
  refine Eq.trans h ?_
  rw [ofL_len, show (-1 : Int) + (x.length : Int) = ((x.length - 1 : Nat) : Int) from by omega]
  exact slice_ss x (by omega) (by omega)
theorem item_ofL (x : List Nat) {i : Nat} (hi : i < x.length) : Txt.item (ofL x) (i : Int) = ofL [x.getD i 0] := by
  unfold Txt.item Txt.charAt
  have e : seqIndex? (i : Int) (ofL x).length = some i := by
    rw [ofL_len]
    unfold seqIndex?
    have h1 : ¬ ((i : Int) < 0) := by omega
    simp only [h1, if_false]
    rw [if_pos (by simp; omega)]
    simp
  rw [e]
  show (⟨#[((ofL x).cps[i]?).getD 0]⟩ : Str) = _
  rw [List.getD_eq_getElem?_getD]
  simp
theorem signs_ofL (x : List Nat) : signs (ofL x) = x.map fun c => ofL [c] := rfl
/-! ranks -/
theorem count_lt (x y : Int) (h : x < y) : ∀ l : List Int, (l.filter (· < x)).length + (l.filter (· = x)).length ≤ (l.filter (· < y)).length
  | [] => Nat.le_refl _
  | c :: r => by
    have ih := count_lt x y h r
    simp only [List.filter_cons]
    by_cases h1 : c < x
    · have h2 : ¬ c = x := by omega
      have h3 : c < y := by omega
      simp [h1, h2, h3]; omega
    · by_cases h2 : c = x
      · have h3 : c < y := by omega
        simp [h1, h2, h3, h, show ¬ x < x from by omega]; omega
      · by_cases h3 : c < y
        · simp [h1, h2, h3]; omega
        · simp [h1, h2, h3]; omega
theorem count_le (x : Int) : ∀ l : List Int, (l.filter (· < x)).length + (l.filter (· = x)).length ≤ l.length
  | [] => Nat.le_refl _
  | c :: r => by
    have ih := count_le x r
    simp only [List.filter_cons, List.length_cons]
    by_cases h1 : c < x
    · have h2 : ¬ c = x := by omega
      simp [h1, h2]; omega
    · by_cases h2 : c = x
      · simp [h1, h2, show ¬ x < x from by omega]; omega
      · simp [h1, h2]; omega
noncomputable def rkN (fs : List Int) (x : Int) : Nat := (fs.filter (· < x)).length
theorem eq_pos {x : Int} {l : List Int} (h : x ∈ l) : 1 ≤ (l.filter (· = x)).length :=
  List.length_pos_iff.mpr fun e => by
    have : x ∈ l.filter (· = x) := List.mem_filter.mpr ⟨h, by simp⟩
    rw [e] at this; simp at this
theorem rk_lt_len {fs : List Int} {x : Int} (h : x ∈ fs) : rkN fs x < fs.length := by
  have := count_le x fs; have := eq_pos h; unfold rkN; omega
theorem rk_lt {fs : List Int} {x y : Int} (hx : x ∈ fs) (h : x < y) : rkN fs x < rkN fs y := by
  have := count_lt x y h fs; have := eq_pos hx; unfold rkN; omega
theorem rk_iff {fs : List Int} {x y : Int} (hx : x ∈ fs) (hy : y ∈ fs) : rkN fs x < rkN fs y ↔ x < y := by
  refine ⟨fun h => ?_, rk_lt hx⟩
  rcases Int.lt_trichotomy x y with q | q | q
  · exact q
  · subst q; omega
  · have := rk_lt hy q; omega
noncomputable def rksN (fs : List Int) : List Nat := fs.map (rkN fs)
theorem rksOf_eq (fs : List Int) : rksOf fs = (rksN fs).map (fun n : Nat => (n : Int)) := by
  unfold rksOf rksN; rw [List.map_map]; rfl
/-- what is used of a row: its letters, its ranks, and that both are ordered alike -/
structure RowOk (fs : List Int) (l r : List Nat) : Prop where
  row : rowL fs = l
  rks : rksOf fs = r.map (fun n : Nat => (n : Int))
  len : l.length = 5
  rlen : r.length = 5
  bd : ∀ c ∈ l, 65 ≤ c ∧ c < 81
  rbd : ∀ c ∈ r, c < 5
  nd : l.Nodup
  ord : ∀ i j, i < 5 → j < 5 → (r.getD i 0 < r.getD j 0 ↔ l.getD i 0 < l.getD j 0)
  cnt : r = l.map fun c => (l.filter (· < c)).length
  good : goodR r = true
theorem rks_cnt {fs : List Int} (hb : ∀ x ∈ fs, 0 ≤ x ∧ x < 16) : rksN fs = (rowL fs).map fun c => ((rowL fs).filter (· < c)).length := by
  unfold rksN rowL rkN
  rw [List.map_map]
  refine List.map_congr_left fun x hx => ?_
  show _ = ((fs.map fun x => 65 + x.toNat).filter (· < 65 + x.toNat)).length
  rw [List.filter_map, List.length_map]
  refine congrArg List.length (List.filter_congr fun y hy => ?_)
  have := hb x hx; have := hb y hy
  show decide (y < x) = decide (65 + y.toNat < 65 + x.toNat)
  rw [decide_eq_decide]; omega
theorem row_ok {fs : List Int} (h : FigOk fs) : ∃ r, RowOk fs (rowL fs) r := by
  obtain ⟨hl, hn, hb⟩ := h
  match fs, hl with
  | [a, b, c, d, e], _ =>
    refine ⟨rksN [a, b, c, d, e], rfl, rksOf_eq _, rfl, rfl, ?_, ?_, ?_, ?_, rks_cnt hb, ?_⟩
    · intro x hx
      obtain ⟨y, hy, rfl⟩ := List.mem_map.mp hx
      have := hb y hy
      omega
    · intro x hx
      obtain ⟨y, hy, rfl⟩ := List.mem_map.mp hx
      exact rk_lt_len hy
    · refine List.Pairwise.map _ (R := fun x y : Int => x ≠ y ∧ 0 ≤ x ∧ 0 ≤ y) (fun x y hxy => ?_) ?_
      · intro he
        have : 65 + x.toNat = 65 + y.toNat := he
        omega
      · exact hn.imp_of_mem fun {x y} hx hy hne => ⟨hne, (hb x hx).1, (hb y hy).1⟩
    · intro i j hi hj
      have gr : ∀ k, k < 5 → ∃ x ∈ [a, b, c, d, e], (rksN [a, b, c, d, e]).getD k 0 = rkN [a, b, c, d, e] x ∧ (rowL [a, b, c, d, e]).getD k 0 = 65 + x.toNat := by
        intro k hk
        match k, hk with
        | 0, _ => exact ⟨a, by simp, rfl, rfl⟩
        | 1, _ => exact ⟨b, by simp, rfl, rfl⟩
        | 2, _ => exact ⟨c, by simp, rfl, rfl⟩
        | 3, _ => exact ⟨d, by simp, rfl, rfl⟩
        | 4, _ => exact ⟨e, by simp, rfl, rfl⟩
      obtain ⟨x, hx, h1, h2⟩ := gr i hi
      obtain ⟨y, hy, h3, h4⟩ := gr j hj
      rw [h1, h2, h3, h4, rk_iff hx hy]
      have := hb x hx; have := hb y hy
      omega
    · have q : ∀ x ∈ [a, b, c, d, e], rkN [a, b, c, d, e] x < 5 := fun x hx => rk_lt_len hx
      have ne : ∀ x ∈ [a, b, c, d, e], ∀ y ∈ [a, b, c, d, e], x ≠ y → rkN [a, b, c, d, e] x ≠ rkN [a, b, c, d, e] y := by
        intro x hx y hy hxy he
        rcases Int.lt_trichotomy x y with q | q | q
        · have := rk_lt hx q; omega
        · exact hxy q
        · have := rk_lt hy q; omega
      simp only [List.nodup_cons, List.mem_cons, List.not_mem_nil, or_false, not_or] at hn
      refine good_all (q a (by simp)) (q b (by simp)) (q c (by simp)) (q d (by simp)) (q e (by simp)) ?_
      unfold distinct5
      simp only [Bool.and_eq_true, bne_iff_ne, ne_eq]
      refine ⟨⟨⟨⟨⟨⟨⟨⟨⟨ne a (by simp) b (by simp) ?_, ne a (by simp) c (by simp) ?_⟩, ne a (by simp) d (by simp) ?_⟩, ne a (by simp) e (by simp) ?_⟩, ne b (by simp) c (by simp) ?_⟩, ne b (by simp) d (by simp) ?_⟩, ne b (by simp) e (by simp) ?_⟩, ne c (by simp) d (by simp) ?_⟩, ne c (by simp) e (by simp) ?_⟩, ne d (by simp) e (by simp) ?_⟩
      all_goals first | exact hn.1.1 | exact hn.1.2.1 | exact hn.1.2.2.1 | exact hn.1.2.2.2 | exact hn.2.1.1 | exact hn.2.1.2.1 | exact hn.2.1.2.2 | exact hn.2.2.1.1 | exact hn.2.2.1.2 | exact hn.2.2.2.1
end Mine
end partX7
/-! part X8 -/
section partX8
open PySem PySem.W PyProof.Rows PySem.Calls Builtin Builtin.Str
set_option Elab.async false
set_option linter.all false
set_option maxRecDepth 100000
namespace Mine
local macro_rules | `(tactic| omega) => `(tactic| lia)
abbrev one (c : Nat) : Str := ofL [c]
theorem lt_one (a b : Nat) : PySem.Spec.ltCps (one a).cps.toList (one b).cps.toList = decide (a < b) := by
  show PySem.Spec.ltCps [a] [b] = _
  rw [PyProof.Rows.ltCps_eq, decide_eq_decide]
  simp [List.cons_lt_cons_iff]
theorem fours_map (m : List Nat) : fours (m.map one) = (foursN m).map (·.map one) := by
  match m with
  | [] | [_] | [_, _] | [_, _, _] | [_, _, _, _] | _ :: _ :: _ :: _ :: _ :: _ => rfl
theorem foursN_map (g : Nat → Nat) (m : List Nat) : foursN (m.map g) = (foursN m).map (·.map g) := by
  match m with
  | [] | [_] | [_, _] | [_, _, _] | [_, _, _, _] | _ :: _ :: _ :: _ :: _ :: _ => rfl
theorem foursN_four {m q : List Nat} (h : q ∈ foursN m) : ∃ a b c d, q = [a, b, c, d] ∧ ∀ x ∈ q, x ∈ m := by
  match m with
  | [] | [_] | [_, _] | [_, _, _] | _ :: _ :: _ :: _ :: _ :: _ => exact absurd h (by simp [foursN])
  | [a, b, c, d] =>
    simp only [foursN, List.mem_cons, List.not_mem_nil, or_false] at h
    rcases h with rfl | rfl
    · exact ⟨b, d, a, c, rfl, by simp⟩
    · exact ⟨c, a, d, b, rfl, by simp⟩
theorem four_want (a b c d : Nat) : fourWant ([a, b, c, d].map one) = ofL (joinD ([] :: ([a, b, c, d].map (fun p => [p]) ++ [[]]))) := by
  unfold fourWant Txt.join
  rw [StrLaws.glued_eq_join, dots3]
  show ofL dotL ++ (one a ++ ofL dotL ++ (one b ++ ofL dotL ++ (one c ++ ofL dotL ++ one d))) ++ ofL dotL = _
  simp only [ofL_app]
  rfl
theorem subS_map (g : Nat → Nat) : ∀ (r q : List Nat), (∀ x ∈ q, ∀ y ∈ r, g y = g x → y = x) → subS (q.map g) (r.map g) = subS q r
  | _, [], _ => by cases ‹List Nat› <;> rfl
  | [], _ :: _, _ => rfl
  | c :: t, p :: ps, h => by
    show (if g c = g p then subS (ps.map g) (t.map g) else subS ((p :: ps).map g) (t.map g)) = if c = p then subS ps t else subS (p :: ps) t
    rw [subS_map g t ps (fun x hx y hy => h x (List.mem_cons_of_mem _ hx) y (List.mem_cons_of_mem _ hy)), subS_map g t (p :: ps) (fun x hx y hy => h x hx y (List.mem_cons_of_mem _ hy))]
    by_cases e : c = p
    · rw [if_pos e, if_pos (by rw [e])]
    · rw [if_neg e, if_neg (fun q => e (h p List.mem_cons_self c List.mem_cons_self q))]
theorem sorted_row {l : List Nat} (hl : l.length = 5) (hn : l.Nodup) {ys : List Str} (hp : ys.Perm (signs (ofL l))) (hs : sortedS ys = true) : ∃ w0 w1 w2 w3 w4, ys = [w0, w1, w2, w3, w4].map one ∧ [w0, w1, w2, w3, w4].Perm l ∧ w0 < w1 ∧ w1 < w2 ∧ w2 < w3 ∧ w3 < w4 := by
  have hw : (ys.map fun y => y.cps.toList.headD 0).Perm l := by
    have := hp.map fun y : Str => y.cps.toList.headD 0
    rw [signs_ofL, List.map_map] at this
    rwa [show ((fun y : Str => y.cps.toList.headD 0) ∘ fun c => ofL [c]) = _root_.id from rfl, List.map_id] at this
  have hy : ys = (ys.map fun y => y.cps.toList.headD 0).map one := by
    rw [List.map_map]
    conv => lhs; rw [← List.map_id ys]
    refine List.map_congr_left fun y hy => ?_
    obtain ⟨c, _, e⟩ := List.mem_map.mp (hp.mem_iff.mp hy)
    rw [← e]; rfl
  generalize (ys.map fun y => y.cps.toList.headD 0) = w at hw hy
  have hwl : w.length = 5 := by rw [hw.length_eq, hl]
  have hwn := hw.nodup_iff.mpr hn
  match w, hwl with
  | [w0, w1, w2, w3, w4], _ =>
    refine ⟨w0, w1, w2, w3, w4, hy, hw, ?_⟩
    rw [hy] at hs
    have hs' : (!PySem.Spec.ltCps (one w1).cps.toList (one w0).cps.toList && (!PySem.Spec.ltCps (one w2).cps.toList (one w1).cps.toList && (!PySem.Spec.ltCps (one w3).cps.toList (one w2).cps.toList && (!PySem.Spec.ltCps (one w4).cps.toList (one w3).cps.toList && true)))) = true := hs
    rw [lt_one, lt_one, lt_one, lt_one] at hs'
    simp only [Bool.and_eq_true, Bool.not_eq_true', decide_eq_false_iff_not, and_true] at hs'
    simp only [List.nodup_cons, List.mem_cons, List.not_mem_nil, or_false, not_or] at hwn
    exact ⟨Nat.lt_of_le_of_ne (Nat.not_lt.mp hs'.1) hwn.1.1, Nat.lt_of_le_of_ne (Nat.not_lt.mp hs'.2.1) hwn.2.1.1, Nat.lt_of_le_of_ne (Nat.not_lt.mp hs'.2.2.1) hwn.2.2.1.1, Nat.lt_of_le_of_ne (Nat.not_lt.mp hs'.2.2.2) hwn.2.2.2.1⟩
theorem found_law {fs : List Int} {l r : List Nat} (R : RowOk fs l r) {ys : List Str} (hp : ys.Perm (signs (ofL l))) (hs : sortedS ys = true) : foundAll (ofL l) ys = patB r := by
  obtain ⟨w0, w1, w2, w3, w4, rfl, hw, h1, h2, h3, h4⟩ := sorted_row R.len R.nd hp hs
  let g : Nat → Nat := fun k => [w0, w1, w2, w3, w4].getD k 0
  have hg : ∀ i, i < 5 → ∀ j, j < 5 → g i = g j → i = j := by
    intro i hi j hj
    match i, hi, j, hj with
    | 0, _, 0, _ | 1, _, 1, _ | 2, _, 2, _ | 3, _, 3, _ | 4, _, 4, _ => intro _; rfl
    | 0, _, 1, _ => intro (e : w0 = w1); omega
    | 0, _, 2, _ => intro (e : w0 = w2); omega
    | 0, _, 3, _ => intro (e : w0 = w3); omega
    | 0, _, 4, _ => intro (e : w0 = w4); omega
    | 1, _, 0, _ => intro (e : w1 = w0); omega
    | 1, _, 2, _ => intro (e : w1 = w2); omega
    | 1, _, 3, _ => intro (e : w1 = w3); omega
    | 1, _, 4, _ => intro (e : w1 = w4); omega
    | 2, _, 0, _ => intro (e : w2 = w0); omega
    | 2, _, 1, _ => intro (e : w2 = w1); omega
    | 2, _, 3, _ => intro (e : w2 = w3); omega
    | 2, _, 4, _ => intro (e : w2 = w4); omega
    | 3, _, 0, _ => intro (e : w3 = w0); omega
    | 3, _, 1, _ => intro (e : w3 = w1); omega
    | 3, _, 2, _ => intro (e : w3 = w2); omega
    | 3, _, 4, _ => intro (e : w3 = w4); omega
    | 4, _, 0, _ => intro (e : w4 = w0); omega
    | 4, _, 1, _ => intro (e : w4 = w1); omega
    | 4, _, 2, _ => intro (e : w4 = w2); omega
    | 4, _, 3, _ => intro (e : w4 = w3); omega
  have hlr : l = r.map g := by
    rw [R.cnt, List.map_map]
    conv => lhs; rw [← List.map_id l]
    refine List.map_congr_left fun c hc => ?_
    have hcw : c ∈ [w0, w1, w2, w3, w4] := hw.mem_iff.mpr hc
    show c = g (l.filter (· < c)).length
    rw [← (hw.filter _).length_eq]
    simp only [List.mem_cons, List.not_mem_nil, or_false] at hcw
    rcases hcw with rfl | rfl | rfl | rfl | rfl
    · rw [show [c, w1, w2, w3, w4].filter (· < c) = [] by simp; omega]; rfl
    · rw [show [w0, c, w2, w3, w4].filter (· < c) = [w0] by simp [h1, show ¬ c < c by omega, show ¬ w2 < c by omega, show ¬ w3 < c by omega, show ¬ w4 < c by omega]]; rfl
    · rw [show [w0, w1, c, w3, w4].filter (· < c) = [w0, w1] by simp [show w0 < c by omega, h2, show ¬ c < c by omega, show ¬ w3 < c by omega, show ¬ w4 < c by omega]]; rfl
    · rw [show [w0, w1, w2, c, w4].filter (· < c) = [w0, w1, w2] by simp [show w0 < c by omega, show w1 < c by omega, h3, show ¬ w4 < c by omega]]; rfl
    · rw [show [w0, w1, w2, w3, c].filter (· < c) = [w0, w1, w2, w3] by simp [show w0 < c by omega, show w1 < c by omega, show w2 < c by omega, h4]]; rfl
  have hwr : [w0, w1, w2, w3, w4] = (List.range 5).map g := rfl
  unfold foundAll patB
  refine congrArg (fun p => (List.range 5).any p) (funext fun i => ?_)
  unfold foundAt
  rw [← List.map_take, ← List.map_drop, ← List.map_append, hwr, ← List.map_take, ← List.map_drop, ← List.map_append]
  have hm : ∀ x ∈ (List.range 5).take i ++ (List.range 5).drop (i + 1), x < 5 := by
    intro x hx
    rcases List.mem_append.mp hx with h | h
    · exact List.mem_range.mp (List.mem_of_mem_take h)
    · exact List.mem_range.mp (List.mem_of_mem_drop h)
  generalize (List.range 5).take i ++ (List.range 5).drop (i + 1) = m at hm
  rw [fours_map, foursN_map, List.any_map, List.any_map, Bool.eq_iff_iff, List.any_eq_true, List.any_eq_true]
  have key : ∀ q ∈ foursN m, ellB (fourWant ((q.map g).map one)) (ofL l) = subS q r := by
    intro q hq
    obtain ⟨a, b, c, d, rfl, hin⟩ := foursN_four hq
    have h46 : 46 ∉ [a, b, c, d].map g := by
      intro h
      obtain ⟨x, hx, e⟩ := List.mem_map.mp h
      have hx5 := hm x (hin x hx)
      have : g x ∈ l := by
        refine hw.mem_iff.mp ?_
        show [w0, w1, w2, w3, w4].getD x 0 ∈ _
        rw [List.getD_eq_getElem?_getD, List.getElem?_eq_getElem (by simpa using hx5), Option.getD_some]
        exact List.getElem_mem _
      have := R.bd _ this
      omega
    rw [show ([a, b, c, d].map g).map one = [g a, g b, g c, g d].map one from rfl, four_want, show [g a, g b, g c, g d] = [a, b, c, d].map g from rfl, ell_subS _ _ h46, hlr]
    exact subS_map g r _ fun x hx y hy e => hg y (R.rbd y hy) x (hm x (hin x hx)) e
  constructor
  · rintro ⟨q, hq, h⟩; exact ⟨q, hq, by rw [← key q hq]; exact h⟩
  · rintro ⟨q, hq, h⟩; exact ⟨q, hq, by rw [← key q hq] at h; exact h⟩
end Mine
end partX8
/-! part X9 -/
section partX9
open PySem PySem.W PyProof.Rows PySem.Calls Builtin Builtin.Str
set_option Elab.async false
set_option linter.all false
set_option maxRecDepth 100000
namespace Mine
local macro_rules | `(tactic| omega) => `(tactic| lia)
theorem starts_ofL (x y : List Nat) : Txt.startswith (ofL x) (ofL y) = decide (x.take y.length = y) := by
  unfold Txt.startswith
  rw [StrLaws.subAt_eq, ofL_len, ofL_len, ofL_list, ofL_list, List.drop_zero, Bool.eq_iff_iff, Bool.and_eq_true, beq_iff_eq, decide_eq_true_eq, decide_eq_true_eq]
  refine ⟨fun h => h.2, fun h => ⟨?_, h⟩⟩
  have := congrArg List.length h
  rw [List.length_take] at this
  omega
theorem ends_ofL (x y : List Nat) (hl : y.length ≤ x.length) : Txt.endswith (ofL x) (ofL y) = decide (x.drop (x.length - y.length) = y) := by
  unfold Txt.endswith
  rw [StrLaws.subAt_eq, ofL_len, ofL_len, ofL_list, ofL_list, Bool.eq_iff_iff, Bool.and_eq_true, beq_iff_eq, decide_eq_true_eq, decide_eq_true_eq, List.take_of_length_le (by rw [List.length_drop]; omega)]
  exact ⟨fun h => h.2, fun h => ⟨by omega, h⟩⟩
/-- a word at a place, below a bound -/
noncomputable def HitH (x w : List Nat) (hi i : Nat) : Prop := i + w.length ≤ hi ∧ (x.drop i).take w.length = w
theorem hitH_at {x w : List Nat} {hi i : Nat} : StrLaws.At (ofL x) (ofL w) hi i ↔ HitH x w hi i := at_iff x w hi i
theorem occ_hd (x w : List Nat) (lo hi : Nat) (hlo : lo ≤ hi + 1) : (occurrences (ofL x) (ofL w) lo hi 1 = [] ∧ ∀ i, lo ≤ i → ¬ HitH x w hi i) ∨ ∃ i r, occurrences (ofL x) (ofL w) lo hi 1 = i :: r ∧ lo ≤ i ∧ HitH x w hi i ∧ ∀ k, lo ≤ k → k < i → ¬ HitH x w hi k := by
  rw [StrLaws.occ_eq]
  rcases StrLaws.occ_first (ofL x) (ofL w) hi 1 (Nat.le_refl _) (List.range' lo (hi + 1 - lo)) lo (fun i h => (List.mem_range'_1.mp h).1) with ⟨h0, hn⟩ | ⟨pre, a, post, e, h0, ha, hn⟩
  · refine .inl ⟨by rw [h0], fun i h1 h2 => hn i (List.mem_range'_1.mpr ⟨h1, by have := h2.1; omega⟩) (hitH_at.mpr h2)⟩
  · have hs := StrLaws.range'_split_from e
    generalize (forIn (List.range' lo (hi + 1 - lo)) ((#[] : Array Nat), lo) (StrLaws.occBody (ofL x) (ofL w) hi 1)).run.fst = arr at h0
    refine .inr ⟨a, arr.toList.tail, ?_, hs.1, hitH_at.mp ha, fun k h1 h2 h => hn k (hs.2 k h1 h2) (hitH_at.mpr h)⟩
    have h1 : arr.toList[0]? = some a := by simpa using h0
    cases hL : arr.toList with
    | nil => rw [hL] at h1; cases h1
    | cons b t => rw [hL] at h1; simp at h1; rw [h1]; rfl
theorem ellH_none {x w : List Nat} {ws : List Str} {lo hi : Nat} (hl : lo ≤ hi + 1) (h : ∀ i, lo ≤ i → ¬ HitH x w hi i) : ellLoop (ofL x) hi (ofL w :: ws) lo = false := by
  rcases occ_hd x w lo hi hl with ⟨h0, _⟩ | ⟨i, r, _, hlo, ha, _⟩
  · unfold ellLoop; rw [h0]
  · exact absurd ha (h i hlo)
theorem ellH_first {x w : List Nat} {ws : List Str} {lo hi i : Nat} (hl : lo ≤ hi + 1) (hlo : lo ≤ i) (hi' : HitH x w hi i) (hn : ∀ k, lo ≤ k → k < i → ¬ HitH x w hi k) : ellLoop (ofL x) hi (ofL w :: ws) lo = ellLoop (ofL x) hi ws (i + w.length) := by
  rcases occ_hd x w lo hi hl with ⟨_, h1⟩ | ⟨k, r, h0, hk, ha, hm⟩
  · exact absurd hi' (h1 i hlo)
  · have e : k = i := by
      rcases Nat.lt_trichotomy k i with h | h | h
      · exact absurd ha (hn k hk h)
      · exact h
      · exact absurd hi' (hm i hlo h)
    subst e
    conv => lhs; unfold ellLoop
    rw [h0]
    show ellLoop (ofL x) hi ws (k + (ofL w).length) = _
    rw [ofL_len w]
theorem ell_nodots (x w : List Nat) (h : 46 ∉ w) : ellB (ofL w) (ofL x) = decide (w = x) := by
  have : (occurrences (ofL w) dots 0 (ofL w).length 1).isEmpty = true := by
    rw [dots_ofL]
    cases hc : (occurrences (ofL w) (ofL dotL) 0 (ofL w).length 1).isEmpty with
    | true => rfl
    | false =>
      obtain ⟨i, hi⟩ := (StrLaws.found_iff (ofL w) (ofL dotL)).mp (by rw [hc]; rfl)
      have := ((at_iff w dotL _ i).mp hi).2
      have h1 : ((w.drop i).take dotL.length)[0]? = some 46 := by rw [this]; rfl
      rw [List.getElem?_take_of_lt (by decide), List.getElem?_drop] at h1
      exact absurd (List.mem_of_getElem? h1) h
  unfold ellB
  rw [if_pos this, Bool.eq_iff_iff, beq_iff_eq, decide_eq_true_eq]
  exact ⟨ofL_inj, fun h => by rw [h]⟩
theorem words2 (x p q : List Nat) (hp : p ≠ []) (hq : q ≠ []) : ellHead (ofL x) ([p, q].map ofL) = if Txt.startswith (ofL x) (ofL p) then (if Txt.endswith (ofL x) (ofL q) then (if p.length > x.length - q.length then false else true) else false) else false := by
  have h1 : ¬ (ofL p).length = 0 := by rw [ofL_len]; exact fun h => hp (List.length_eq_zero_iff.mp h)
  have h2 : ¬ (ofL q).length = 0 := by rw [ofL_len]; exact fun h => hq (List.length_eq_zero_iff.mp h)
  unfold ellHead
  refine Eq.trans (if_neg h1) ?_
  show (if Txt.startswith (ofL x) (ofL p) then _ else false) = _
  congr 1
  unfold ellLast
  refine Eq.trans (if_neg h2) ?_
  rw [← ofL_len x, ← ofL_len p, ← ofL_len q]
  rfl
theorem words3 (x p q : List Nat) (hq : q ≠ []) : ellHead (ofL x) ([[], p, q].map ofL) = if Txt.endswith (ofL x) (ofL q) then ellLoop (ofL x) (x.length - q.length) [ofL [], ofL p] 0 else false := by
  have h2 : ¬ (ofL q).length = 0 := by rw [ofL_len]; exact fun h => hq (List.length_eq_zero_iff.mp h)
  unfold ellHead
  refine Eq.trans (if_pos (by rfl)) ?_
  unfold ellLast
  refine Eq.trans (if_neg h2) ?_
  rw [← ofL_len x, ← ofL_len q]
  have : ∀ ws hi, ellTail (ofL x) ws 0 hi = ellLoop (ofL x) hi ws 0 := fun ws hi => if_neg (by omega)
  rw [this]
  rfl
theorem words4 (x p q : List Nat) : ellHead (ofL x) ([[], p, q, []].map ofL) = ellLoop (ofL x) x.length [ofL p, ofL q, ofL []] 0 := by
  have h := head_open (ofL x) [ofL p, ofL q]
  have h2 := ell_empty (x := x) (ws := [ofL p, ofL q, ofL []]) (lo := 0) (Nat.zero_le _)
  refine Eq.trans h (Eq.trans ?_ h2)
  rw [ofL_len]; rfl
section
variable {a b c d e : Nat}
theorem ell_two (a b c d e p q : Nat) (hp : 46 ≠ p) (hq : 46 ≠ q) : ellB (ofL (joinD [[p], [q]])) (ofL [a, b, c, d, e]) = (decide (a = p) && decide (e = q)) := by
  rw [ell_join _ (by simp) (by
    intro w hw
    simp only [List.mem_cons, List.not_mem_nil, or_false] at hw
    rcases hw with rfl | rfl
    · simpa using hp
    · simpa using hq)]
  rw [words2 _ _ _ (by simp) (by simp)]
  rw [starts_ofL, ends_ofL _ _ (by simp)]
  simp only [List.length_cons, List.length_nil, List.take_succ_cons, List.take_zero, List.cons.injEq, and_true, List.drop_succ_cons, List.drop_zero, Nat.zero_add, Nat.reduceAdd, Nat.reduceSub]
  by_cases h1 : a = p <;> by_cases h2 : e = q <;> simp [h1, h2]
theorem spot_law {l : List Nat} (h5 : l.length = 5) (hn : l.Nodup) (hb : ∀ c ∈ l, 65 ≤ c) (i : Nat) (hi : i < 5) : SpotOk (ofL l) i := by
  match l, h5 with
  | [a, b, c, d, e], _ =>
    have h46 : ∀ k, k < 5 → 46 ≠ [a, b, c, d, e].getD k 0 := by
      intro k hk he
      have : [a, b, c, d, e].getD k 0 ∈ [a, b, c, d, e] := by
        rw [List.getD_eq_getElem?_getD, List.getElem?_eq_getElem (by simpa using hk), Option.getD_some]
        exact List.getElem_mem _
      have := hb _ this
      omega
    have hno : 46 ∉ [a, b, c, d, e] := fun h => by have := hb _ h; omega
    have it : ∀ k : Nat, k < 5 → Txt.item (ofL [a, b, c, d, e]) (k : Int) = ofL [[a, b, c, d, e].getD k 0] := fun k hk => item_ofL _ (by simpa using hk)
    have i0 : Txt.item (ofL [a, b, c, d, e]) 0 = ofL [a] := it 0 (by decide)
    have i4 : Txt.item (ofL [a, b, c, d, e]) 4 = ofL [e] := it 4 (by decide)
    simp only [List.nodup_cons, List.mem_cons, List.not_mem_nil, or_false, not_or] at hn
    refine ⟨?_, ?_, ?_, ?_⟩
    · rw [it i hi, i4, dots3, ofL_app, ofL_app]
      refine Eq.trans (ell_two a b c d e ([a, b, c, d, e].getD i 0) e (h46 i hi) (h46 4 (by decide))) ?_
      match i, hi with
      | 0, _ => simp
      | 1, _ => simpa using hn.1.1
      | 2, _ => simpa using hn.1.2.1
      | 3, _ => simpa using hn.1.2.2.1
      | 4, _ => simpa using hn.1.2.2.2
    · rw [it i hi, i0, dots3, ofL_app, ofL_app]
      refine Eq.trans (ell_two a b c d e a ([a, b, c, d, e].getD i 0) (h46 0 (by decide)) (h46 i hi)) ?_
      match i, hi with
      | 0, _ => simp; exact fun h => hn.1.2.2.2 h.symm
      | 1, _ => simp; exact fun h => hn.2.1.2.2 h.symm
      | 2, _ => simp; exact fun h => hn.2.2.1.2 h.symm
      | 3, _ => simp; exact fun h => hn.2.2.2.1 h.symm
      | 4, _ => simp
    · rw [slice_from _ (by simp; omega), ell_nodots _ _ (fun h => hno (List.mem_of_mem_drop h))]
      match i, hi with
      | 0, _ => simp
      | 1, _ | 2, _ | 3, _ | 4, _ => rw [decide_eq_false (fun h => by have := congrArg List.length h; simp at this)]; rfl
    · rw [slice_to _ (by simp; omega), ell_nodots _ _ (fun h => hno (List.mem_of_mem_take h))]
      rw [decide_eq_false (fun h => by have := congrArg List.length h; simp at this; omega)]
theorem ends_law {l : List Nat} (h5 : l.length = 5) (hn : l.Nodup) (hb : ∀ c ∈ l, 65 ≤ c) (sp : Int) (hs : sp = 3 ∨ sp = 4) : EndsOk (ofL l) sp := by
  match l, h5 with
  | [a, b, c, d, e], _ =>
    have hno : 46 ∉ [a, b, c, d, e] := fun h => by have := hb _ h; omega
    have s2 : Txt.slice (ofL [a, b, c, d, e]) (some 2) none = ofL [c, d, e] := slice_from [a, b, c, d, e] (a := 2) (by simp)
    have s3 : Txt.slice (ofL [a, b, c, d, e]) (some 3) none = ofL [d, e] := slice_from [a, b, c, d, e] (a := 3) (by simp)
    have s23 : Txt.slice (ofL [a, b, c, d, e]) (some 2) (some 3) = ofL [c] := slice_ss [a, b, c, d, e] (a := 2) (b := 3) (by decide) (by simp)
    have s24 : Txt.slice (ofL [a, b, c, d, e]) (some 2) (some 4) = ofL [c, d] := slice_ss [a, b, c, d, e] (a := 2) (b := 4) (by decide) (by simp)
    simp only [List.mem_cons, List.not_mem_nil, or_false, not_or] at hno
    simp only [List.nodup_cons, List.mem_cons, List.not_mem_nil, or_false, not_or] at hn
    have dts : ∀ ws : List (List Nat), (∀ w ∈ ws, ∀ x ∈ w, x = c ∨ x = d ∨ x = e) → ∀ w ∈ ws, 46 ∉ w := fun ws h w hw h' =>
      (h w hw _ h').elim hno.2.2.1 fun q => q.elim hno.2.2.2.1 hno.2.2.2.2
    have e3 : endsOf (ofL [a, b, c, d, e]) 3 = ofL (joinD [[c], [d, e]]) := by unfold endsOf; rw [s23, s3, dots3, ofL_app, ofL_app]; rfl
    have e4 : endsOf (ofL [a, b, c, d, e]) 4 = ofL (joinD [[c, d], [d, e]]) := by unfold endsOf; rw [s24, s3, dots3, ofL_app, ofL_app]; rfl
    have hl : (ofL [d, e]).length = 2 := rfl
    rcases hs with rfl | rfl
    · suffices h : ellB (endsOf (ofL [a, b, c, d, e]) 3) (Txt.slice (ofL [a, b, c, d, e]) (some 2) none) = true ∧ ellB (Str.ofString "..." ++ endsOf (ofL [a, b, c, d, e]) 3) (ofL [a, b, c, d, e]) = true ∧ ellB (Str.ofString "..." ++ endsOf (ofL [a, b, c, d, e]) 3 ++ Str.ofString "...") (ofL [a, b, c, d, e]) = true from ⟨h.1, h.2.1, h.2.2⟩
      refine ⟨?_, ?_, ?_⟩
      · rw [e3, s2, ell_join _ (by simp) (dts _ (by simp))]
        rw [words2 _ _ _ (by simp) (by simp)]
        rw [starts_ofL, ends_ofL _ _ (by simp)]; simp
      · rw [e3, dots3, ofL_app, show dotL ++ joinD [[c], [d, e]] = joinD [[], [c], [d, e]] from rfl, ell_join _ (by simp) (dts _ (by simp))]
        rw [words3 _ _ _ (by simp)]
        rw [ends_ofL _ _ (by simp), if_pos (by simp), ellH_first (i := 0) (by simp) (Nat.le_refl _) ⟨by simp, rfl⟩ (fun k h1 h2 => by omega)]
        rw [ellH_first (i := 2) (by simp) (by simp) ⟨by simp, rfl⟩ (fun k h1 h2 hh => ?_)]
        · rfl
        · match k, h2 with
          | 0, _ => have := hh.2; simp at this; exact hn.1.2.1 this
          | 1, _ => have := hh.2; simp at this; exact hn.2.1.1 this
      · rw [e3, dots3, ofL_app, ofL_app, show dotL ++ joinD [[c], [d, e]] ++ dotL = joinD [[], [c], [d, e], []] from by simp [joinD], ell_join _ (by simp) (dts _ (by simp))]
        rw [words4]
        rw [ellH_first (i := 2) (by simp) (by simp) ⟨by simp, rfl⟩ (fun k h1 h2 hh => ?_), ellH_first (i := 3) (by simp) (by simp) ⟨by simp, rfl⟩ (fun k h1 h2 hh => by simp at h1; omega), ellH_first (i := 5) (by simp) (by simp) ⟨by simp, rfl⟩ (fun k h1 h2 hh => by simp at h1; omega)]
        · rfl
        · match k, h2 with
          | 0, _ => have := hh.2; simp at this; exact hn.1.2.1 this
          | 1, _ => have := hh.2; simp at this; exact hn.2.1.1 this
    · suffices h : ellB (endsOf (ofL [a, b, c, d, e]) 4) (Txt.slice (ofL [a, b, c, d, e]) (some 2) none) = false ∧ ellB (Str.ofString "..." ++ endsOf (ofL [a, b, c, d, e]) 4) (ofL [a, b, c, d, e]) = false ∧ ellB (Str.ofString "..." ++ endsOf (ofL [a, b, c, d, e]) 4 ++ Str.ofString "...") (ofL [a, b, c, d, e]) = false from ⟨h.1, h.2.1, h.2.2⟩
      refine ⟨?_, ?_, ?_⟩
      · rw [e4, s2, ell_join _ (by simp) (dts _ (by simp))]
        rw [words2 _ _ _ (by simp) (by simp)]
        split
        · split <;> rfl
        · rfl
      · rw [e4, dots3, ofL_app, show dotL ++ joinD [[c, d], [d, e]] = joinD [[], [c, d], [d, e]] from rfl, ell_join _ (by simp) (dts _ (by simp))]
        rw [words3 _ _ _ (by simp)]
        rw [ends_ofL _ _ (by simp), if_pos (by simp), ellH_first (i := 0) (by simp) (Nat.le_refl _) ⟨by simp, rfl⟩ (fun k h1 h2 => by omega)]
        refine ellH_none (by simp) fun i h1 hh => ?_
        have hlt := hh.1
        simp at hlt
        match i, hlt with
        | 0, _ => have := hh.2; simp at this; exact hn.1.2.1 this.1
        | 1, _ => have := hh.2; simp at this; exact hn.2.1.1 this.1
      · rw [e4, dots3, ofL_app, ofL_app, show dotL ++ joinD [[c, d], [d, e]] ++ dotL = joinD [[], [c, d], [d, e], []] from by simp [joinD], ell_join _ (by simp) (dts _ (by simp))]
        rw [words4]
        rw [ellH_first (i := 2) (by simp) (by simp) ⟨by simp, rfl⟩ (fun k h1 h2 hh => ?_)]
        · exact ellH_none (by simp) fun i h1 hh => by have := hh.1; simp at this h1; omega
        · match k, h2 with
          | 0, _ => have := hh.2; simp at this; exact hn.1.2.1 this.1
          | 1, _ => have := hh.2; simp at this; exact hn.2.1.1 this.1
end
end Mine
end partX9
/-! part X10 -/
section partX10
open PySem PySem.W PyProof.Rows PySem.Calls Builtin Builtin.Str
set_option Elab.async false
set_option linter.all false
set_option maxRecDepth 100000
namespace Mine
local macro_rules | `(tactic| omega) => `(tactic| lia)
noncomputable def digL : Nat → Nat → List Nat
  | 0, _ => []
  | k + 1, n => digL k (n / 16) ++ [65 + n % 16]
theorem hexL_dig : ∀ k n, (hexL k n).length ≤ k ∧ List.replicate (k - (hexL k n).length) 65 ++ hexL k n = digL k n
  | 0, _ => ⟨Nat.le_refl _, rfl⟩
  | k + 1, n => by
    by_cases h : n = 0
    · have e : hexL (k + 1) n = [] := if_pos h
      have e0 : hexL k 0 = [] := by cases k with | zero => rfl | succ k => exact if_pos rfl
      have ih := hexL_dig k 0
      rw [e0] at ih
      rw [e]
      refine ⟨Nat.zero_le _, ?_⟩
      subst h
      show List.replicate (k + 1) 65 ++ [] = digL k (0 / 16) ++ [65 + 0 % 16]
      have ih2 : List.replicate k 65 ++ [] = digL k 0 := ih.2
      rw [show 0 / 16 = 0 from rfl, ← ih2, List.replicate_succ']
      simp
    · have e : hexL (k + 1) n = hexL k (n / 16) ++ [65 + n % 16] := if_neg h
      have ih := hexL_dig k (n / 16)
      rw [e, List.length_append]
      refine ⟨by simp; exact ih.1, ?_⟩
      show _ = digL k (n / 16) ++ [65 + n % 16]
      rw [← ih.2, ← List.append_assoc]
      congr 3
      simp
theorem dig_step (k m : Nat) {d : Nat} (h : d < 16) : digL (k + 1) (m * 16 + d) = digL k m ++ [65 + d] := by
  show digL k ((m * 16 + d) / 16) ++ [65 + (m * 16 + d) % 16] = _
  rw [Nat.mul_comm, Nat.mul_add_div (by decide), Nat.div_eq_of_lt h, Nat.add_zero, Nat.mul_add_mod, Nat.mod_eq_of_lt h]
theorem fold_cast : ∀ (fs : List Int) (acc : Nat), (∀ x ∈ fs, 0 ≤ x) → fs.foldl (fun a x => a * 16 + x) (acc : Int) = ((fs.foldl (fun a x => a * 16 + x.toNat) acc : Nat) : Int)
  | [], _, _ => rfl
  | x :: r, acc, h => by
    have hx := h x List.mem_cons_self
    have e : (acc : Int) * 16 + x = ((acc * 16 + x.toNat : Nat) : Int) := by clear h; omega
    rw [List.foldl_cons, List.foldl_cons, e]
    exact fold_cast r _ fun y hy => h y (List.mem_cons_of_mem _ hy)
theorem hex_law {fs : List Int} (h : FigOk fs) : List.replicate (5 - (hexL 5 (numOf fs).toNat).length) 65 ++ hexL 5 (numOf fs).toNat = rowL fs ∧ (hexL 5 (numOf fs).toNat).length ≤ 5 := by
  refine ⟨?_, (hexL_dig 5 _).1⟩
  rw [(hexL_dig 5 _).2]
  obtain ⟨hl, hn, hb⟩ := h
  have hc : numOf fs = ((fs.foldl (fun a x => a * 16 + x.toNat) 0 : Nat) : Int) := fold_cast fs 0 fun x hx => (hb x hx).1
  rw [hc, Int.toNat_natCast]
  have ht : ∀ x ∈ fs, x.toNat < 16 := fun x hx => by have := hb x hx; clear hc hl hn hb; omega
  obtain ⟨a, b, c, d, e, rfl⟩ : ∃ a b c d e, fs = [a, b, c, d, e] := by
    match fs, hl with
    | [a, b, c, d, e], _ => exact ⟨a, b, c, d, e, rfl⟩
  have ha := ht a (by simp)
  have hb' := ht b (by simp)
  have hc' := ht c (by simp)
  have hd := ht d (by simp)
  have he := ht e (by simp)
  show digL 5 (((((0 * 16 + a.toNat) * 16 + b.toNat) * 16 + c.toNat) * 16 + d.toNat) * 16 + e.toNat) = _
  rw [dig_step _ _ he, dig_step _ _ hd, dig_step _ _ hc', dig_step _ _ hb', dig_step _ _ ha]
  rfl
end Mine
end partX10
/-! part Y1 -/
section partY1
open PySem PySem.W PyProof.Rows PySem.Calls Builtin Builtin.Str
set_option Elab.async false
set_option linter.all false
set_option maxRecDepth 100000
namespace Mine
local macro_rules | `(tactic| omega) => `(tactic| lia)
/-! escaping on lists -/
noncomputable def sub1 (c : Nat) (R : List Nat) (x : Nat) : List Nat := if x = c then R else [x]
theorem repS_one (c : Nat) (R : List Nat) : ∀ y : List Nat, repS [c] R 0 y = y.flatMap (sub1 c R)
  | [] => rfl
  | x :: r => by
    rw [List.flatMap_cons, ← repS_one c R r]
    unfold sub1
    by_cases h : x = c
    · rw [if_pos h, repS_hit (by simp) (by simp [h])]; rfl
    · rw [if_neg h, repS_miss (by simpa using h)]; rfl
theorem sub1_none {c : Nat} {R y : List Nat} (h : c ∉ y) : y.flatMap (sub1 c R) = y := by
  induction y with
  | nil => rfl
  | cons x r ih =>
    rw [List.flatMap_cons, ih (fun q => h (List.mem_cons_of_mem _ q))]
    unfold sub1
    rw [if_neg (fun e => h (by rw [e]; exact List.mem_cons_self))]; rfl
theorem escC_ofL (y R : List Nat) (c : Nat) : escC (ofL y) (ofL [c]) (ofL R) = ofL (y.flatMap (sub1 c R)) := by
  unfold escC
  split
  · rename_i h
    have hf := StrLaws.found_one (ofL y) c
    rw [show (⟨#[c]⟩ : Str) = ofL [c] from rfl, h] at hf
    have : c ∉ y := by simpa using hf
    rw [sub1_none this]
  · rw [replace_ofL _ _ _ (by simp), repS_one]
abbrev Tab := List (Nat × List Nat)
noncomputable def escF (tab : Tab) (y : List Nat) : List Nat := tab.foldl (fun y p => y.flatMap (sub1 p.1 p.2)) y
noncomputable def tabS (tab : Tab) : List (Str × Str) := tab.map fun p => (ofL [p.1], ofL p.2)
theorem escB_ofL : ∀ (tab : Tab) (y : List Nat), escB (tabS tab) (ofL y) = ofL (escF tab y)
  | [], _ => rfl
  | p :: r, y => by
    show escB (tabS r) (escC (ofL y) (ofL [p.1]) (ofL p.2)) = ofL (escF r (y.flatMap (sub1 p.1 p.2)))
    rw [escC_ofL, escB_ofL r]
theorem escF_app : ∀ (tab : Tab) (a b : List Nat), escF tab (a ++ b) = escF tab a ++ escF tab b
  | [], _, _ => rfl
  | p :: r, a, b => by
    show escF r ((a ++ b).flatMap _) = escF r (a.flatMap _) ++ escF r (b.flatMap _)
    rw [List.flatMap_append, escF_app r]
theorem escF_nil : ∀ tab : Tab, escF tab [] = []
  | [] => rfl
  | _ :: r => escF_nil r
theorem escF_keep : ∀ (tab : Tab) (y : List Nat), (∀ p ∈ tab, p.1 ∉ y) → escF tab y = y
  | [], _, _ => rfl
  | p :: r, y, h => by
    show escF r (y.flatMap (sub1 p.1 p.2)) = y
    rw [sub1_none (h p List.mem_cons_self)]
    exact escF_keep r y fun q hq => h q (List.mem_cons_of_mem _ hq)
theorem escF_len {tab : Tab} {n : Nat} (h : ∀ c, (escF tab [c]).length ≤ n) : ∀ y : List Nat, (escF tab y).length ≤ n * y.length
  | [] => by rw [escF_nil]; exact Nat.zero_le _
  | c :: r => by
    have := escF_len h r
    have := h c
    rw [show c :: r = [c] ++ r from rfl, escF_app, List.length_append, List.length_append, Nat.mul_add]
    simp only [List.length_singleton]; omega
noncomputable def tab0 : Tab := [(38, [38, 97, 109, 112, 59]), (60, [38, 108, 116, 59]), (62, [38, 103, 116, 59])]
noncomputable def tab1 : Tab := tab0 ++ [(34, [38, 113, 117, 111, 116, 59]), (13, [38, 35, 49, 51, 59]), (10, [38, 35, 49, 48, 59]), (9, [38, 35, 48, 57, 59])]
noncomputable def tab2 : Tab := tab0 ++ [(13, [38, 35, 120, 68, 59])]
noncomputable def tabK (k : Int) : Tab := if k = 0 then tab0 else if k = 1 then tab1 else tab2
theorem tab_eq0 : escTab 0 = tabS tab0 := by decide +kernel
theorem tab_eq1 : escTab 1 = tabS tab1 := by decide +kernel
theorem tab_eq2 : escTab 2 = tabS tab2 := by decide +kernel
theorem tabK_eq {k : Int} (h : k = 0 ∨ k = 1 ∨ k = 2) : escTab k = tabS (tabK k) := by
  rcases h with rfl | rfl | rfl
  · exact tab_eq0
  · exact tab_eq1
  · exact tab_eq2
theorem tabK_keys {k : Int} {p} (h : p ∈ tabK k) : p.1 = 38 ∨ p.1 = 60 ∨ p.1 = 62 ∨ p.1 = 34 ∨ p.1 = 13 ∨ p.1 = 10 ∨ p.1 = 9 := by
  unfold tabK at h
  split at h
  · simp only [tab0, List.mem_cons, List.not_mem_nil, or_false] at h
    rcases h with rfl | rfl | rfl <;> simp
  split at h
  · simp only [tab1, tab0, List.cons_append, List.nil_append, List.mem_cons, List.not_mem_nil, or_false] at h
    rcases h with rfl | rfl | rfl | rfl | rfl | rfl | rfl <;> simp
  · simp only [tab2, tab0, List.cons_append, List.nil_append, List.mem_cons, List.not_mem_nil, or_false] at h
    rcases h with rfl | rfl | rfl | rfl <;> simp
theorem tab_len1 : ∀ t ∈ [tab0, tab1, tab2], ∀ j < 8, ∀ c ∈ [38, 60, 62, 34, 13, 10, 9], (escF (t.take j) [c]).length ≤ 6 := by decide +kernel
theorem tabK_in (k : Int) : tabK k ∈ [tab0, tab1, tab2] := by unfold tabK; split; · simp
                                                              split <;> simp
theorem tabK_small (k : Int) (j : Nat) (c : Nat) : (escF ((tabK k).take j) [c]).length ≤ 6 := by
  by_cases h : c ∈ [38, 60, 62, 34, 13, 10, 9]
  · by_cases hj : j < 8
    · exact tab_len1 _ (tabK_in k) j hj c h
    · have hl : (tabK k).length ≤ 7 := by
        have : ∀ t ∈ [tab0, tab1, tab2], t.length ≤ 7 := by decide
        exact this _ (tabK_in k)
      rw [List.take_of_length_le (by omega), ← List.take_of_length_le (l := tabK k) (i := 7) hl]
      exact tab_len1 _ (tabK_in k) 7 (by decide) c h
  · rw [escF_keep]
    · show 1 ≤ 6; decide
    · intro p hp he
      have := tabK_keys (List.mem_of_mem_take hp)
      rw [List.mem_singleton.mp he] at this
      simp only [List.mem_cons, List.not_mem_nil, or_false] at h
      exact h this
theorem take_tabS (t : Tab) (j : Nat) : (tabS t).take j = tabS (t.take j) := by unfold tabS; rw [List.map_take]
theorem esc_len {k : Int} (h : k = 0 ∨ k = 1 ∨ k = 2) (j : Nat) (t : Str) : (escB ((escTab k).take j) t).length ≤ 6 * t.length := by
  rw [tabK_eq h, take_tabS, ofL_of t, escB_ofL, ofL_len, ofL_len]
  exact escF_len (tabK_small k j) _
theorem wrap_eq {k : Int} (h : k = 0 ∨ k = 1 ∨ k = 2) (y : List Nat) : wrapP k (ofL y) = ofL (escF (tabK k) y) := by
  unfold wrapP
  rw [if_neg (by omega), tabK_eq h, escB_ofL]
theorem wrap_len {k : Int} (h : k = 0 ∨ k = 1 ∨ k = 2) (t : Str) : (wrapP k t).length ≤ 6 * t.length := by
  have hl : (tabK k).length ≤ 7 := by
    have : ∀ t ∈ [tab0, tab1, tab2], t.length ≤ 7 := by decide
    exact this _ (tabK_in k)
  rw [ofL_of t, wrap_eq h, ofL_len, ofL_len]
  refine escF_len (fun c => ?_) _
  have := tabK_small k 7 c
  rwa [List.take_of_length_le hl] at this
/-! the n-th escape -/
noncomputable def escN (k : Int) : Nat → List Nat → List Nat
  | 0, y => y
  | n + 1, y => escN k n (escF (tabK k) y)
theorem escN_app (k : Int) : ∀ (n : Nat) (a b : List Nat), escN k n (a ++ b) = escN k n a ++ escN k n b
  | 0, _, _ => rfl
  | n + 1, a, b => by show escN k n _ = _; rw [escF_app, escN_app k n]; rfl
theorem escN_out (k : Int) : ∀ (n : Nat) (y : List Nat), escN k (n + 1) y = escF (tabK k) (escN k n y)
  | 0, _ => rfl
  | n + 1, y => by show escN k (n + 1) (escF (tabK k) y) = _; rw [escN_out k n]; rfl
theorem escF_plain {k : Int} {y : List Nat} (h : ∀ c ∈ y, c ≠ 38 ∧ c ≠ 60 ∧ c ≠ 62 ∧ c ≠ 34 ∧ c ≠ 13 ∧ c ≠ 10 ∧ c ≠ 9) : escF (tabK k) y = y :=
  escF_keep _ _ fun p hp hc => by
    obtain ⟨h1, h2, h3, h4, h5, h6, h7⟩ := h _ hc
    rcases tabK_keys hp with e | e | e | e | e | e | e
    · exact h1 e
    · exact h2 e
    · exact h3 e
    · exact h4 e
    · exact h5 e
    · exact h6 e
    · exact h7 e
theorem escN_plain {k : Int} {y : List Nat} (h : ∀ c ∈ y, c ≠ 38 ∧ c ≠ 60 ∧ c ≠ 62 ∧ c ≠ 34 ∧ c ≠ 13 ∧ c ≠ 10 ∧ c ≠ 9) : ∀ n, escN k n y = y
  | 0 => rfl
  | n + 1 => by show escN k n (escF _ y) = y; rw [escF_plain h]; exact escN_plain h n
noncomputable def ampL : Nat → List Nat
  | 0 => []
  | n + 1 => [97, 109, 112, 59] ++ ampL n
theorem ampL_plain : ∀ n, ∀ c ∈ ampL n, c = 97 ∨ c = 109 ∨ c = 112 ∨ c = 59
  | n + 1, c, h => by
    rcases List.mem_append.mp h with h | h
    · simpa using h
    · exact ampL_plain n c h
theorem esc_amp (k : Int) : escF (tabK k) [38] = [38, 97, 109, 112, 59] := by
  have : ∀ t ∈ [tab0, tab1, tab2], escF t [38] = [38, 97, 109, 112, 59] := by decide +kernel
  exact this _ (tabK_in k)
theorem esc_ent (k : Int) (n : Nat) {nm : List Nat} (h : ∀ c ∈ nm, 97 ≤ c ∨ c = 59) : escF (tabK k) (38 :: (ampL n ++ nm)) = 38 :: (ampL (n + 1) ++ nm) := by
  rw [show 38 :: (ampL n ++ nm) = [38] ++ (ampL n ++ nm) from rfl, escF_app, esc_amp, escF_plain]
  · simp [ampL]
  · intro c hc
    rcases List.mem_append.mp hc with hc | hc
    · have := ampL_plain n c hc; omega
    · have := h c hc; omega
theorem escN_ent (k : Int) (y : List Nat) {nm : List Nat} (h : ∀ c ∈ nm, 97 ≤ c ∨ c = 59) (h0 : escF (tabK k) y = 38 :: nm) : ∀ n, escN k (n + 1) y = 38 :: (ampL n ++ nm)
  | 0 => by show escF (tabK k) y = _; rw [h0]; rfl
  | n + 1 => by rw [escN_out, escN_ent k y h h0 n, esc_ent k n h]
theorem esc_lt (k : Int) : escF (tabK k) [60] = [38, 108, 116, 59] := by
  have : ∀ t ∈ [tab0, tab1, tab2], escF t [60] = [38, 108, 116, 59] := by decide +kernel
  exact this _ (tabK_in k)
theorem esc_gt (k : Int) : escF (tabK k) [62] = [38, 103, 116, 59] := by
  have : ∀ t ∈ [tab0, tab1, tab2], escF t [62] = [38, 103, 116, 59] := by decide +kernel
  exact this _ (tabK_in k)
theorem esc_quot1 : escF (tabK 1) [34] = [38, 113, 117, 111, 116, 59] := by decide +kernel
theorem esc_quot {k : Int} (h : k = 0 ∨ k = 2) : escF (tabK k) [34] = [34] := by
  rcases h with rfl | rfl <;> decide +kernel
theorem escN_quot {k : Int} (h : k = 0 ∨ k = 2) : ∀ n, escN k n [34] = [34]
  | 0 => rfl
  | n + 1 => by show escN k n (escF _ [34]) = _; rw [esc_quot h]; exact escN_quot h n
end Mine
end partY1
/-! part Y2 -/
section partY2
open PySem PySem.W PyProof.Rows PySem.Calls Builtin Builtin.Str
set_option Elab.async false
set_option linter.all false
set_option maxRecDepth 100000
namespace Mine
local macro_rules | `(tactic| omega) => `(tactic| lia)
/-! the text of a tree, and its tokens -/
inductive Tk
  | ch (c : Nat)
  | ent (n : Nat) (nm : Nat)
deriving DecidableEq
noncomputable def nmL (nm : Nat) : List Nat := if nm = 0 then [108, 116, 59] else if nm = 1 then [103, 116, 59] else [113, 117, 111, 116, 59]
noncomputable def Tk.tx : Tk → List Nat
  | .ch c => [c]
  | .ent n nm => 38 :: (ampL n ++ nmL nm)
noncomputable def txL (ts : List Tk) : List Nat := ts.flatMap Tk.tx
theorem txL_app (a b : List Tk) : txL (a ++ b) = txL a ++ txL b := List.flatMap_append
theorem txL_cons (t : Tk) (b : List Tk) : txL (t :: b) = t.tx ++ txL b := List.flatMap_cons
section
variable (k : Int) (l : List Nat) (p : Nat)
noncomputable def markTk (i d : Nat) : List Tk := if i = p then (if k = 1 ∧ 1 ≤ d then [.ent (d - 1) 2] else [.ch 34]) else []
noncomputable def itemTk : Item → List Tk
  | .inl (i, d) => .ch (l.getD i 0) :: markTk k p i d
  | .inr (g, m) => [.ent (m - 1) (if g then 1 else 0)]
noncomputable def treeL : Tree → List Nat
  | .leaf i => l.getD i 0 :: (if i = p then [34] else [])
  | .node g a b => escF (tabK k) (treeL a ++ [if g then 62 else 60] ++ treeL b)
end
noncomputable def PlainL (l : List Nat) : Prop := ∀ i, l.getD i 0 = 0 ∨ (65 ≤ l.getD i 0 ∧ l.getD i 0 < 81)
theorem plain_of {l : List Nat} (h : ∀ c ∈ l, 65 ≤ c ∧ c < 81) : PlainL l := by
  intro i
  rw [List.getD_eq_getElem?_getD]
  cases hc : l[i]? with
  | none => exact .inl rfl
  | some c => exact .inr (h c (List.mem_of_getElem? hc))
theorem nm_plain (nm : Nat) : ∀ c ∈ nmL nm, 97 ≤ c ∨ c = 59 := by
  unfold nmL
  split
  · decide
  split <;> decide
theorem escN_mark {k : Int} (hk : k = 0 ∨ k = 1 ∨ k = 2) (p i d : Nat) : escN k d (if i = p then [34] else []) = txL (markTk k p i d) := by
  unfold markTk
  by_cases h : i = p
  · rw [if_pos h, if_pos h]
    by_cases h1 : k = 1
    · subst h1
      cases d with
      | zero => rfl
      | succ d =>
        rw [if_pos ⟨rfl, by omega⟩, escN_ent 1 [34] (by decide) esc_quot1 d]
        simp [txL, Tk.tx, nmL]
    · rw [if_neg (fun q => h1 q.1), escN_quot (by omega)]; rfl
  · rw [if_neg h, if_neg h]
    exact escN_plain (by simp) d
theorem tree_text {k : Int} (hk : k = 0 ∨ k = 1 ∨ k = 2) {l : List Nat} (hl : PlainL l) (p : Nat) : ∀ (t : Tree) (d : Nat), escN k d (treeL k l p t) = txL ((t.items d).flatMap (itemTk k l p))
  | .leaf i, d => by
    show escN k d ([l.getD i 0] ++ (if i = p then [34] else [])) = txL (itemTk k l p (.inl (i, d)) ++ [])
    rw [escN_app, escN_mark hk, escN_plain, List.append_nil]
    · rfl
    · intro c hc
      rw [List.mem_singleton.mp hc]
      have := hl i; omega
  | .node g a b, d => by
    show escN k (d + 1) (treeL k l p a ++ [if g then 62 else 60] ++ treeL k l p b) = txL ((a.items (d + 1) ++ [Sum.inr (g, d + 1)] ++ b.items (d + 1)).flatMap (itemTk k l p))
    rw [escN_app, escN_app, tree_text hk hl p a, tree_text hk hl p b, List.flatMap_append, List.flatMap_append, txL_app, txL_app]
    congr 2
    cases g
    · exact (escN_ent k [60] (by decide) (esc_lt k) d).trans (by simp [txL, Tk.tx, nmL, itemTk])
    · exact (escN_ent k [62] (by decide) (esc_gt k) d).trans (by simp [txL, Tk.tx, nmL, itemTk])
/-! without the amp; -/
noncomputable def flat0 : Tk → Tk
  | .ch c => .ch c
  | .ent _ nm => .ent 0 nm
theorem rep_clean {y z x : List Nat} {c : Nat} (rest : List Nat) (h : c ∉ x) : repS (c :: y) z 0 (x ++ rest) = x ++ repS (c :: y) z 0 rest := by
  induction x with
  | nil => rfl
  | cons b r ih =>
    rw [List.cons_append, repS_miss, ih (fun q => h (List.mem_cons_of_mem _ q))]; · rfl
    intro e
    have : b = c := by simpa using (List.cons.inj (by simpa using e)).1
    exact h (by rw [this]; exact List.mem_cons_self)
theorem rep_amp (rest : List Nat) : ∀ n, repS [97, 109, 112, 59] [] 0 (ampL n ++ rest) = repS [97, 109, 112, 59] [] 0 rest
  | 0 => rfl
  | n + 1 => by
    rw [show ampL (n + 1) ++ rest = [97, 109, 112, 59] ++ (ampL n ++ rest) from by simp [ampL], repS_hit (by simp) (by simp)]
    exact rep_amp rest n
theorem rep_toks : ∀ ts : List Tk, (∀ c, Tk.ch c ∈ ts → c ≠ 97) → repS [97, 109, 112, 59] [] 0 (txL ts) = txL (ts.map flat0)
  | [], _ => rfl
  | .ch c :: r, h => by
    rw [txL_cons, List.map_cons, txL_cons, rep_clean (c := 97) (txL r), rep_toks r (fun c hc => h c (List.mem_cons_of_mem _ hc))]; · rfl
    exact fun q => h c List.mem_cons_self (List.mem_singleton.mp q).symm
  | .ent n nm :: r, h => by
    rw [txL_cons, List.map_cons, txL_cons]
    show repS _ _ 0 ([38] ++ (ampL n ++ nmL nm) ++ txL r) = _
    have h97 : 97 ∉ nmL nm := by
      unfold nmL
      split
      · decide
      split <;> decide
    rw [List.append_assoc, rep_clean (c := 97) _ (by decide), List.append_assoc, rep_amp, rep_clean (c := 97) _ h97, rep_toks r (fun c hc => h c (List.mem_cons_of_mem _ hc))]
    simp [flat0, Tk.tx, ampL]
/-! the whole of the letters -/
noncomputable def dueN (l : List Nat) (i : Nat) : Nat := if l.getD (i + 1) 0 < l.getD i 0 then 1 else 0
noncomputable def wlI (l : List Nat) : Nat → Nat → List Nat
  | 0, i => [l.getD i 0]
  | k + 1, i => l.getD i 0 :: 38 :: (nmL (dueN l i) ++ wlI l k (i + 1))
theorem wlI_out (l : List Nat) : ∀ k i, wlI l (k + 1) i = wlI l k i ++ (38 :: (nmL (dueN l (i + k)) ++ [l.getD (i + k + 1) 0]))
  | 0, i => rfl
  | k + 1, i => by
    show l.getD i 0 :: 38 :: (nmL (dueN l i) ++ wlI l (k + 1) (i + 1)) = l.getD i 0 :: 38 :: (nmL (dueN l i) ++ wlI l k (i + 1)) ++ _
    rw [wlI_out l k (i + 1), show i + 1 + k = i + (k + 1) from by omega]
    simp
theorem flat_items {k : Int} {l r : List Nat} {p n : Nat} (hl : PlainL l) (h5 : ∀ i, l.getD i 0 = l.getD p 0 → i = p) (hp : 65 ≤ l.getD p 0) (hrl : ∀ i, i < 4 → (r.getD (i + 1) 0 < r.getD i 0 ↔ l.getD (i + 1) 0 < l.getD i 0)) {mk : List Nat} (hmk : mk = if k = 1 ∧ 1 < n then 38 :: nmL 2 else [34]) :
    ∀ (m i : Nat) (its : List Item), i + m < 5 → altOk r n m i its = true → txL ((its.flatMap (itemTk k l p)).map flat0) = (wlI l m i).flatMap (sub1 (l.getD p 0) (l.getD p 0 :: mk)) := by
  have lf : ∀ (i d : Nat), decide (1 ≤ d) = decide (1 < n) → txL ((itemTk k l p (.inl (i, d))).map flat0) = sub1 (l.getD p 0) (l.getD p 0 :: mk) (l.getD i 0) := by
    intro i d hd
    have hd' : 1 ≤ d ↔ 1 < n := by simpa using hd
    show txL ((Tk.ch (l.getD i 0) :: markTk k p i d).map flat0) = _
    unfold sub1 markTk
    by_cases h : i = p
    · subst h
      rw [if_pos rfl, if_pos rfl, hmk]
      by_cases hk : k = 1 ∧ 1 ≤ d
      · rw [if_pos hk, if_pos ⟨hk.1, hd'.mp hk.2⟩]; simp [txL, Tk.tx, flat0, ampL]
      · rw [if_neg hk, if_neg (fun q => hk ⟨q.1, hd'.mpr q.2⟩)]; rfl
    · rw [if_neg h, if_neg (fun e => h (h5 i e))]; rfl
  intro m
  induction m with
  | zero =>
    intro i its hi h
    match its, h with
    | [.inl (j, d)], h =>
      simp only [altOk, Bool.and_eq_true, beq_iff_eq] at h
      obtain ⟨⟨rfl, hd⟩, _⟩ := h
      show txL ((itemTk k l p (.inl (j, d)) ++ []).map flat0) = sub1 _ _ (l.getD j 0) ++ []
      rw [List.append_nil, List.append_nil, lf j d hd]
  | succ m ih =>
    intro i its hi h
    match its, h with
    | .inl (j, d) :: .inr (g, e) :: rest, h =>
      simp only [altOk, Bool.and_eq_true, beq_iff_eq] at h
      obtain ⟨⟨⟨⟨⟨⟨rfl, hd⟩, _⟩, hg⟩, _⟩, _⟩, hr⟩ := h
      have := ih (j + 1) rest (by omega) hr
      show txL ((itemTk k l p (.inl (j, d)) ++ (itemTk k l p (.inr (g, e)) ++ rest.flatMap (itemTk k l p))).map flat0) = (l.getD j 0 :: (38 :: (nmL (dueN l j) ++ wlI l m (j + 1)))).flatMap _
      rw [List.map_append, List.map_append, txL_app, txL_app, this, lf j d hd, List.flatMap_cons]
      congr 1
      rw [show (38 :: (nmL (dueN l j) ++ wlI l m (j + 1))) = (38 :: nmL (dueN l j)) ++ wlI l m (j + 1) from rfl, List.flatMap_append]
      congr 1
      have hdue : (if g = true then 1 else 0 : Nat) = dueN l j := by
        unfold dueN
        rw [hg]
        by_cases q : l.getD (j + 1) 0 < l.getD j 0
        · rw [if_pos q, if_pos (by simpa using (hrl j (by omega)).mpr q)]
        · rw [if_neg q, if_neg (by simpa using fun e => q ((hrl j (by omega)).mp e))]
      rw [sub1_none]
      · show txL [Tk.ent 0 (if g = true then 1 else 0)] = _
        rw [hdue]; simp [txL, Tk.tx, ampL]
      · intro hc
        rcases List.mem_cons.mp hc with hc | hc
        · omega
        · have := nm_plain _ _ hc
          have := hl p
          omega
end Mine
end partY2
/-! part Y3 -/
section partY3
open PySem PySem.W PyProof.Rows PySem.Calls Builtin Builtin.Str
set_option Elab.async false
set_option linter.all false
set_option maxRecDepth 100000
namespace Mine
local macro_rules | `(tactic| omega) => `(tactic| lia)
theorem hit_infix (M S : List Nat) : (∃ j, Hit M S j) ↔ S <:+: M := by
  constructor
  · rintro ⟨j, h1, h2⟩
    refine ⟨M.take j, (M.drop j).drop S.length, ?_⟩
    conv => lhs; arg 1; arg 2; rw [← h2]
    rw [List.append_assoc, List.take_append_drop, List.take_append_drop]
  · rintro ⟨s, t, rfl⟩
    refine ⟨s.length, by simp, ?_⟩
    rw [List.append_assoc, List.drop_left, List.take_left]
theorem skip38 {y z S : List Nat} (h : 38 ∉ y) : (38 :: S) <:+: (y ++ z) ↔ (38 :: S) <:+: z := by
  induction y with
  | nil => exact Iff.rfl
  | cons c r ih =>
    rw [List.cons_append, List.infix_cons_iff, ih (fun q => h (List.mem_cons_of_mem _ q))]
    refine ⟨fun q => q.elim (fun q => ?_) (fun q => q), .inr⟩
    exact absurd (List.cons_prefix_cons.mp q).1 (fun e => h (by rw [e]; exact List.mem_cons_self))
theorem pre_amp {a b : Nat} (ha : a < 2) (hb : b < 3) (rest : List Nat) : ∀ i m, (ampL i ++ nmL a) <+: (ampL m ++ nmL b ++ rest) ↔ (i = m ∧ a = b)
  | 0, 0 => by
    match a, ha, b, hb with
    | 0, _, 0, _ | 1, _, 1, _ => simp [ampL, nmL, List.cons_prefix_cons]
    | 0, _, 1, _ | 0, _, 2, _ | 1, _, 0, _ | 1, _, 2, _ => simp [ampL, nmL, List.cons_prefix_cons]
  | 0, m + 1 => by
    match a, ha with
    | 0, _ | 1, _ => simp [ampL, nmL, List.cons_prefix_cons]
  | i + 1, 0 => by
    match b, hb with
    | 0, _ | 1, _ | 2, _ => simp [ampL, nmL, List.cons_prefix_cons]
  | i + 1, m + 1 => by
    have ih := pre_amp ha hb rest i m
    rw [show (i + 1 = m + 1 ∧ a = b) = (i = m ∧ a = b) by simp, ← ih]
    simp [ampL, List.cons_prefix_cons]
theorem infix_tok {i a : Nat} (ha : a < 2) : ∀ ts : List Tk, (∀ c, Tk.ch c ∈ ts → c ≠ 38) → (∀ n b, Tk.ent n b ∈ ts → b < 3) → ((38 :: (ampL i ++ nmL a)) <:+: txL ts ↔ Tk.ent i a ∈ ts)
  | [], _, _ => by simp [txL]
  | .ch c :: r, h1, h2 => by
    have ih := infix_tok (i := i) ha r (fun c hc => h1 c (List.mem_cons_of_mem _ hc)) (fun n b hb => h2 n b (List.mem_cons_of_mem _ hb))
    rw [txL_cons]
    show _ <:+: c :: txL r ↔ _
    rw [List.infix_cons_iff, ih]
    have : ¬ (38 :: (ampL i ++ nmL a)) <+: (c :: txL r) := fun q => h1 c List.mem_cons_self (List.cons_prefix_cons.mp q).1.symm
    simp [this]
  | .ent m b :: r, h1, h2 => by
    have ih := infix_tok (i := i) ha r (fun c hc => h1 c (List.mem_cons_of_mem _ hc)) (fun n b hb => h2 n b (List.mem_cons_of_mem _ hb))
    have hb := h2 m b List.mem_cons_self
    rw [txL_cons]
    show _ <:+: 38 :: (ampL m ++ nmL b ++ txL r) ↔ _
    rw [List.infix_cons_iff, skip38, ih, List.cons_prefix_cons, pre_amp ha hb]
    · simp
    · intro q
      rcases List.mem_append.mp q with q | q
      · have := ampL_plain m _ q; omega
      · have := nm_plain b _ q; omega
theorem mul_amp : ∀ i < 4, Txt.mul (Str.ofString "amp;") ((i : Nat) : Int) = ofL (ampL i) := by decide +kernel
theorem s_dots_amp : Str.ofString "...&" = ofL [46, 46, 46, 38] := by decide +kernel
theorem s_lt : Str.ofString "lt;" = ofL (nmL 0) := by decide +kernel
theorem s_gt : Str.ofString "gt;" = ofL (nmL 1) := by decide +kernel
theorem dots_want (ca cb i z : Nat) (hi : i < 4) : dotsWant (ofL [ca]) (ofL [cb]) i (ofL (nmL z)) = ofL (joinD [[], [ca], 38 :: (ampL i ++ nmL z), [cb], []]) := by
  unfold dotsWant
  rw [dots3, s_dots_amp, mul_amp i hi]
  simp only [ofL_app]
  congr 1
  simp [joinD, dotL]
theorem from_hit {a b x w : Str} {i : Nat} (hw : foundB a b x i = [w]) : ∀ k j, j ≤ i → i < j + k → (∀ m, j ≤ m → m < i → foundB a b x m = []) → dotsFrom a b x k j = w
  | 0, j, h1, h2, _ => by omega
  | k + 1, j, h1, h2, hn => by
    show (if foundB a b x j = [] then dotsFrom a b x k (j + 1) else Txt.join (Str.ofString "") (foundB a b x j)) = w
    by_cases h : j = i
    · subst h
      rw [hw, if_neg (by simp)]; rfl
    · rw [if_pos (hn j (Nat.le_refl _) (by omega))]
      exact from_hit hw k (j + 1) (by omega) (by omega) (fun m q1 q2 => hn m (by omega) q2)
theorem dots_hit {P Q : List Nat} {mt : List Tk} {ca cb : Nat} {want : Bool} {sg : List (Bool × Nat)} (hPa : ca ∉ P) (hb1 : cb ∉ P) (hba : cb ≠ ca) (hb2 : cb ∉ txL mt) (hb3 : cb ∉ Q) (hd : 46 ≠ ca ∧ 46 ≠ cb)
    (h1 : ∀ c, Tk.ch c ∈ mt → c ≠ 38) (h2 : ∀ n b, Tk.ent n b ∈ mt → b < 3) (lk : ∀ i g, Tk.ent i (if g then 1 else 0) ∈ mt ↔ (g, i + 1) ∈ sg) (hdir : dirOk want sg = true) :
    dotsB (ofL [ca]) (ofL [cb]) (ofL (P ++ ca :: (txL mt ++ cb :: Q))) = ofL (nmL (if want then 1 else 0)) := by
  have he : ∀ i, i < 4 → ∀ g : Bool, ellB (dotsWant (ofL [ca]) (ofL [cb]) i (ofL (nmL (if g then 1 else 0)))) (ofL (P ++ ca :: (txL mt ++ cb :: Q))) = decide ((g, i + 1) ∈ sg) := by
    intro i hi g
    have hz : (if g then 1 else 0 : Nat) < 2 := by cases g <;> decide
    have h46 : 46 ∉ 38 :: (ampL i ++ nmL (if g then 1 else 0)) := by
      intro h
      rcases List.mem_cons.mp h with h | h
      · omega
      rcases List.mem_append.mp h with h | h
      · have := ampL_plain i _ h; omega
      · have := nm_plain _ _ h; omega
    rw [dots_want _ _ _ _ hi, Bool.eq_iff_iff, decide_eq_true_eq, ell_abc P (txL mt) Q _ ca cb hPa hb1 hba hb2 hb3 (by simp [hd.1, hd.2]) h46, hit_infix, infix_tok hz mt h1 h2, lk]
  obtain ⟨i, hi, hh⟩ := List.any_eq_true.mp hdir
  have hi4 := List.mem_range.mp hi
  rw [Bool.and_eq_true, Bool.and_eq_true] at hh
  obtain ⟨⟨q1, q2⟩, q3⟩ := hh
  have f : ∀ m, m < 4 → foundB (ofL [ca]) (ofL [cb]) (ofL (P ++ ca :: (txL mt ++ cb :: Q))) m = (if (false, m + 1) ∈ sg then [ofL (nmL 0)] else []) ++ (if (true, m + 1) ∈ sg then [ofL (nmL 1)] else []) := by
    intro m hm
    unfold foundB
    have e0 := he m hm false
    have e1 := he m hm true
    rw [s_lt, s_gt, List.filter_cons, List.filter_cons, List.filter_nil]
    rw [show ellB (dotsWant (ofL [ca]) (ofL [cb]) m (ofL (nmL 0))) (ofL (P ++ ca :: (txL mt ++ cb :: Q))) = decide ((false, m + 1) ∈ sg) from e0, show ellB (dotsWant (ofL [ca]) (ofL [cb]) m (ofL (nmL 1))) (ofL (P ++ ca :: (txL mt ++ cb :: Q))) = decide ((true, m + 1) ∈ sg) from e1]
    by_cases a0 : (false, m + 1) ∈ sg <;> by_cases a1 : (true, m + 1) ∈ sg <;> simp [a0, a1]
  refine from_hit (i := i) ?_ 4 0 (Nat.zero_le _) (by omega) (fun m _ hm => ?_)
  · rw [f i hi4]
    obtain ⟨s, hs, e⟩ := List.any_eq_true.mp q2
    have e' : s = (want, i + 1) := by simpa using e
    subst e'
    have no : (!want, i + 1) ∉ sg := fun q => by
      have := List.all_eq_true.mp q3 _ q
      cases want <;> simp at this
    cases want
    · have : (true, i + 1) ∉ sg := no
      rw [if_pos hs, if_neg this]; rfl
    · have : (false, i + 1) ∉ sg := no
      rw [if_neg this, if_pos hs]; rfl
  · have no : ∀ g : Bool, (g, m + 1) ∉ sg := fun g q => by
      have := List.all_eq_true.mp (List.all_eq_true.mp q1 m (List.mem_range.mpr hm)) _ q
      simp at this
    rw [f m (by omega), if_neg (no _), if_neg (no _)]; rfl
/-! letters in a text -/
theorem ent_chars {n nm c : Nat} (h : c ∈ (Tk.ent n nm).tx) : c = 38 ∨ 97 ≤ c ∨ c = 59 := by
  rcases List.mem_cons.mp h with h | h
  · exact .inl h
  rcases List.mem_append.mp h with h | h
  · have := ampL_plain n _ h; omega
  · have := nm_plain nm _ h; omega
theorem mark_chars {k : Int} {p i d c : Nat} (h : c ∈ txL (markTk k p i d)) : c = 34 ∨ c = 38 ∨ 97 ≤ c ∨ c = 59 := by
  unfold markTk at h
  split at h
  · split at h
    · obtain ⟨t, ht, hc⟩ := List.mem_flatMap.mp h
      rw [List.mem_singleton.mp ht] at hc
      exact .inr (ent_chars hc)
    · obtain ⟨t, ht, hc⟩ := List.mem_flatMap.mp h
      rw [List.mem_singleton.mp ht] at hc
      exact .inl (List.mem_singleton.mp hc)
  · simp [txL] at h
theorem no_letter {k : Int} {l : List Nat} {p j : Nat} (hj : 65 ≤ l.getD j 0 ∧ l.getD j 0 < 81) (inj : ∀ i, l.getD i 0 = l.getD j 0 → i = j) {its : List Item} (h : noLf j its = true) : l.getD j 0 ∉ txL (its.flatMap (itemTk k l p)) := by
  intro hc
  obtain ⟨t, ht, hc⟩ := List.mem_flatMap.mp hc
  obtain ⟨it, hit, ht⟩ := List.mem_flatMap.mp ht
  have hno := List.all_eq_true.mp h it hit
  match it, ht, hno with
  | .inl (i, d), ht, hno =>
    rcases List.mem_cons.mp ht with rfl | ht
    · have := inj i (List.mem_singleton.mp hc).symm
      simp [this] at hno
    · have := mark_chars (List.mem_flatMap.mpr ⟨t, ht, hc⟩)
      omega
  | .inr (g, m), ht, _ =>
    rw [List.mem_singleton.mp ht] at hc
    have := ent_chars hc
    omega
end Mine
end partY3
/-! part Y4 -/
section partY4
open PySem PySem.W PyProof.Rows PySem.Calls Builtin Builtin.Str
set_option Elab.async false
set_option linter.all false
set_option maxRecDepth 100000
namespace Mine
local macro_rules | `(tactic| omega) => `(tactic| lia)
theorem leaf_at {o : Option Item} {a : Nat} (h : isLeaf o a = true) : ∃ d, o = some (.inl (a, d)) := by
  match o, h with
  | some (.inl (i, d)), h => exact ⟨d, by rw [show i = a from by simpa [isLeaf] using h]⟩
theorem RowOk.at' {fs : List Int} {l r : List Nat} (R : RowOk fs l r) {j : Nat} (hj : j < 5) : 65 ≤ l.getD j 0 ∧ l.getD j 0 < 81 := by
  rw [List.getD_eq_getElem?_getD, List.getElem?_eq_getElem (by rw [R.len]; exact hj), Option.getD_some]
  exact R.bd _ (List.getElem_mem _)
theorem RowOk.inj {fs : List Int} {l r : List Nat} (R : RowOk fs l r) {j : Nat} (hj : j < 5) (i : Nat) (h : l.getD i 0 = l.getD j 0) : i = j := by
  by_cases hi : i < 5
  · have hil : i < l.length := by rw [R.len]; exact hi
    have hjl : j < l.length := by rw [R.len]; exact hj
    rw [List.getD_eq_getElem?_getD, List.getD_eq_getElem?_getD, List.getElem?_eq_getElem hil, List.getElem?_eq_getElem hjl] at h
    have h' : l[i] = l[j] := h
    rcases Nat.lt_trichotomy i j with q | q | q
    · exact absurd h' (List.pairwise_iff_getElem.mp R.nd i j hil hjl q)
    · exact q
    · exact absurd h'.symm (List.pairwise_iff_getElem.mp R.nd j i hjl hil q)
  · have h0 : l.getD i 0 = 0 := by
      rw [List.getD_eq_getElem?_getD, List.getElem?_eq_none (by rw [R.len]; omega)]; rfl
    have := (R.at' hj).1
    omega
theorem RowOk.tri {fs : List Int} {l r : List Nat} (R : RowOk fs l r) {i j : Nat} (hi : i < 5) (hj : j < 5) (h : i ≠ j) : l.getD i 0 ≠ l.getD j 0 := fun e => h (R.inj hj i e)
theorem due_eq {x y : Nat} (h : x ≠ y) : dueS (ofL [x]) (ofL [y]) = ofL (nmL (if y < x then 1 else 0)) := by
  unfold dueS
  by_cases q : x < y
  · rw [if_pos (show (ofL [x]).cps.toList < (ofL [y]).cps.toList from by show [x] < [y]; simpa [List.cons_lt_cons_iff] using q), if_neg (by omega), s_lt]
  · rw [if_neg (show ¬ (ofL [x]).cps.toList < (ofL [y]).cps.toList from by show ¬ [x] < [y]; simpa [List.cons_lt_cons_iff] using q), if_pos (by omega), s_gt]
theorem pair_law {fs : List Int} {l r : List Nat} (R : RowOk fs l r) {k : Int} {p : Nat} {a n q p' : Nat} {its : List Item} (hlen : its.length = 2 * n - 1) (hq : q < n) (hp : p' < q) (ha : a + n ≤ 5) (h : pairOk r a its q p' = true) :
    dotsB (ofL [l.getD (a + p') 0]) (ofL [l.getD (a + q) 0]) (ofL (txL (its.flatMap (itemTk k l p)))) = dueS (ofL [l.getD (a + p') 0]) (ofL [l.getD (a + q) 0]) := by
  unfold pairOk at h
  simp only [Bool.and_eq_true] at h
  obtain ⟨⟨⟨⟨⟨⟨h1, h2⟩, h3⟩, h4⟩, h5⟩, h6⟩, h7⟩ := h
  obtain ⟨d1, e1⟩ := leaf_at h1
  obtain ⟨d2, e2⟩ := leaf_at h2
  generalize hB : (its.drop (2 * p' + 1)).take (2 * (q - p') - 1) = B at h5 h7
  have hs : its = its.take (2 * p') ++ (Sum.inl (a + p', d1)) :: (B ++ (Sum.inl (a + q, d2)) :: its.drop (2 * q + 1)) := by
    obtain ⟨hl1, g1⟩ := List.getElem?_eq_some_iff.mp e1
    obtain ⟨hl2, g2⟩ := List.getElem?_eq_some_iff.mp e2
    have x1 : its.drop (2 * p') = (Sum.inl (a + p', d1)) :: its.drop (2 * p' + 1) := by rw [List.drop_eq_getElem_cons hl1, g1]
    have x2 : its.drop (2 * q) = (Sum.inl (a + q, d2)) :: its.drop (2 * q + 1) := by rw [List.drop_eq_getElem_cons hl2, g2]
    have x3 : its.drop (2 * p' + 1) = B ++ its.drop (2 * q) := by
      conv => lhs; rw [← List.take_append_drop (2 * (q - p') - 1) (its.drop (2 * p' + 1))]
      rw [hB, List.drop_drop, show 2 * p' + 1 + (2 * (q - p') - 1) = 2 * q from by omega]
    conv => lhs; rw [← List.take_append_drop (2 * p') its, x1, x3, x2]
  have ja := R.at' (show a + p' < 5 by omega)
  have jb := R.at' (show a + q < 5 by omega)
  have ia := R.inj (show a + p' < 5 by omega)
  have ib := R.inj (show a + q < 5 by omega)
  have nP := no_letter (k := k) (p := p) ja ia h3
  have nP2 := no_letter (k := k) (p := p) jb ib h4
  have nB := no_letter (k := k) (p := p) jb ib h5
  have nQ := no_letter (k := k) (p := p) jb ib h6
  have ht : txL (its.flatMap (itemTk k l p)) = txL ((its.take (2 * p')).flatMap (itemTk k l p)) ++ l.getD (a + p') 0 :: (txL (markTk k p (a + p') d1 ++ B.flatMap (itemTk k l p)) ++ l.getD (a + q) 0 :: (txL (markTk k p (a + q) d2) ++ txL ((its.drop (2 * q + 1)).flatMap (itemTk k l p)))) := by
    conv => lhs; rw [hs]
    rw [List.flatMap_append, List.flatMap_cons, List.flatMap_append, List.flatMap_cons]
    show txL (_ ++ (Tk.ch _ :: markTk k p (a + p') d1 ++ (B.flatMap (itemTk k l p) ++ (Tk.ch _ :: markTk k p (a + q) d2 ++ _)))) = _
    simp only [txL_app, txL_cons, List.cons_append, Tk.tx, List.append_assoc, List.nil_append]
  rw [ht]
  have hne : l.getD (a + q) 0 ≠ l.getD (a + p') 0 := R.tri (by omega) (by omega) (by omega)
  have mk : ∀ i d, Mine.PlainL l → ∀ t ∈ markTk k p i d, t = Tk.ch 34 ∨ ∃ n, t = Tk.ent n 2 := by
    intro i d _ t ht
    unfold markTk at ht
    split at ht
    · split at ht
      · exact .inr ⟨_, List.mem_singleton.mp ht⟩
      · exact .inl (List.mem_singleton.mp ht)
    · simp at ht
  have hpl := plain_of R.bd
  have hmt : ∀ t ∈ markTk k p (a + p') d1 ++ B.flatMap (itemTk k l p), (∃ i, t = Tk.ch (l.getD i 0)) ∨ t = Tk.ch 34 ∨ (∃ n, t = Tk.ent n 2) ∨ ∃ g m, (Sum.inr (g, m)) ∈ B ∧ t = Tk.ent (m - 1) (if g then 1 else 0) := by
    intro t ht
    rcases List.mem_append.mp ht with ht | ht
    · rcases mk _ _ hpl t ht with h | h
      · exact .inr (.inl h)
      · exact .inr (.inr (.inl h))
    · obtain ⟨it, hit, ht⟩ := List.mem_flatMap.mp ht
      match it, hit, ht with
      | .inl (i, d), hit, ht =>
        rcases List.mem_cons.mp ht with h | ht
        · exact .inl ⟨i, h⟩
        · rcases mk _ _ hpl t ht with h | h
          · exact .inr (.inl h)
          · exact .inr (.inr (.inl h))
      | .inr (g, m), hit, ht => exact .inr (.inr (.inr ⟨g, m, hit, List.mem_singleton.mp ht⟩))
  refine (dots_hit nP nP2 hne ?_ ?_ ⟨by omega, by omega⟩ ?_ ?_ ?_ h7).trans ?_
  · rw [txL_app]
    intro hc
    rcases List.mem_append.mp hc with hc | hc
    · have := mark_chars hc; omega
    · exact nB hc
  · intro hc
    rcases List.mem_append.mp hc with hc | hc
    · have := mark_chars hc; omega
    · exact nQ hc
  · intro c hc
    rcases hmt _ hc with ⟨i, h⟩ | h | ⟨n, h⟩ | ⟨g, m, _, h⟩
    · cases h; have := hpl i; omega
    · cases h; decide
    · cases h
    · cases h
  · intro n b hc
    rcases hmt _ hc with ⟨i, h⟩ | h | ⟨n, h⟩ | ⟨g, m, _, h⟩
    · cases h
    · cases h
    · cases h; decide
    · cases h; cases g <;> decide
  · intro i g
    constructor
    · intro hc
      rcases hmt _ hc with ⟨i, h⟩ | h | ⟨n, h⟩ | ⟨g', m, hm, h⟩
      · cases h
      · cases h
      · injection h with _ h; cases g <;> simp at h
      · injection h with ha hb
        have hm1 : 1 ≤ m := by simpa using List.all_eq_true.mp h5 _ hm
        have hg : g = g' := by cases g <;> cases g' <;> simp at hb <;> rfl
        refine List.mem_filterMap.mpr ⟨_, hm, ?_⟩
        show some (g', m) = some (g, i + 1)
        rw [hg, show m = i + 1 from by omega]
    · intro hc
      obtain ⟨it, hm, e⟩ := List.mem_filterMap.mp hc
      match it, hm, e with
      | .inr s, hm, e =>
        have e' : s = (g, i + 1) := by simpa using e
        subst e'
        exact List.mem_append_right _ (List.mem_flatMap.mpr ⟨_, hm, List.mem_singleton.mpr rfl⟩)
  · rw [due_eq (Ne.symm hne)]
    congr 2
    by_cases q' : l.getD (a + q) 0 < l.getD (a + p') 0
    · rw [if_pos q', if_pos (by simpa using (R.ord (a + q) (a + p') (by omega) (by omega)).mpr q')]
    · rw [if_neg q', if_neg (by simpa using fun e => q' ((R.ord (a + q) (a + p') (by omega) (by omega)).mp e))]
end Mine
end partY4
/-! part Y5 -/
section partY5
open PySem PySem.W PyProof.Rows PySem.Calls Builtin Builtin.Str
set_option Elab.async false
set_option linter.all false
set_option maxRecDepth 100000
namespace Mine
local macro_rules | `(tactic| omega) => `(tactic| lia)
theorem seg_get {l : List Nat} {a n j : Nat} (hj : j < n) : ((l.drop a).take n).getD j 0 = l.getD (a + j) 0 := by
  rw [List.getD_eq_getElem?_getD, List.getElem?_take_of_lt hj, List.getElem?_drop, ← List.getD_eq_getElem?_getD]
theorem s_amp1 : Str.ofString "&" = ofL [38] := by decide +kernel
theorem s_ampT : Str.ofString "amp;" = ofL [97, 109, 112, 59] := by decide +kernel
theorem s_none : Str.ofString "" = ofL [] := by decide +kernel
theorem s_quot : Str.ofString "\"" = ofL [34] := by decide +kernel
theorem s_quotE : Str.ofString "&quot;" = ofL (38 :: nmL 2) := by decide +kernel
section
variable {fs : List Int} {l r : List Nat}
theorem seg_len (R : RowOk fs l r) {a n : Nat} (h : a + n ≤ 5) : ((l.drop a).take n).length = n := by rw [List.length_take, List.length_drop, R.len]; omega
theorem pre_of {ls : List Nat} {j : Nat} (h : j < ls.length) : preOf (ofL ls) j = ofL (ls.take (j + 1)) := by
  unfold preOf
  rw [show (1 + (j : Int)) = ((j + 1 : Nat) : Int) from by omega, slice_to _ (by omega)]
theorem item1 {ls : List Nat} {j : Nat} (h : j + 1 < ls.length) : Txt.item (ofL ls) (1 + (j : Int)) = ofL [ls.getD (j + 1) 0] := by
  rw [show (1 + (j : Int)) = ((j + 1 : Nat) : Int) from by omega, item_ofL _ h]
theorem whole_eq (R : RowOk fs l r) {a n : Nat} (h : a + n ≤ 5) : ∀ j, j < n → wholeOf (ofL ((l.drop a).take n)) j = ofL (wlI l j a)
  | 0, hj => by
    show Txt.item _ 0 = ofL [l.getD a 0]
    have := item_ofL ((l.drop a).take n) (i := 0) (by rw [seg_len R h]; exact hj)
    rw [seg_get hj] at this
    exact this
  | j + 1, hj => by
    have hl := seg_len R h
    show wholeOf _ j ++ (Str.ofString "&" ++ lastDue _ j ++ Txt.item _ (1 + (j : Int))) = _
    rw [whole_eq R h j (by omega), wlI_out, item1 (by omega), seg_get hj]
    unfold lastDue
    rw [pre_of (by omega), item1 (by omega), seg_get hj]
    have hg : (ofL (((l.drop a).take n).take (j + 1))).cps.getD ((ofL (((l.drop a).take n).take (j + 1))).cps.size - 1) 0 = l.getD (a + j) 0 := by
      have hs : (ofL (((l.drop a).take n).take (j + 1))).cps.size = j + 1 := by simp [hl]; have := R.len; omega
      rw [hs, Nat.add_sub_cancel]
      rw [← seg_get (l := l) (a := a) (n := n) (j := j) (by omega)]
      rw [List.getD_eq_getElem?_getD]
      show (((l.drop a).take n).take (j + 1)).toArray.getD j 0 = _
      rw [Array.getD_eq_getD_getElem?, List.getElem?_toArray, List.getElem?_take_of_lt (by omega)]
    rw [hg, s_amp1, show (⟨#[l.getD (a + j) 0]⟩ : Str) = ofL [l.getD (a + j) 0] from rfl, due_eq (R.tri (by omega) (by omega) (by omega))]
    simp only [ofL_app]
    congr 1
theorem mark_eq (k : Int) (n : Nat) : markOf k n = ofL (if k = 1 ∧ 1 < n then 38 :: nmL 2 else [34]) := by
  unfold markOf
  by_cases h : k = 1 ∧ 1 < n
  · rw [if_pos h, if_pos h, s_quotE]
  · rw [if_neg h, if_neg h, s_quot]
theorem alt_deep {r : List Nat} {n : Nat} : ∀ (m i : Nat) (its : List Item), altOk r n m i its = true → ∀ it ∈ its, match it with | .inl (_, d) => d ≤ 5 | .inr (_, d) => d ≤ 5
  | 0, i, [.inl (j, d)], h => by
    simp only [altOk, Bool.and_eq_true, decide_eq_true_eq] at h
    intro it hit
    rw [List.mem_singleton.mp hit]
    exact h.2
  | m + 1, i, .inl (j, d) :: .inr (g, e) :: rest, h => by
    simp only [altOk, Bool.and_eq_true, decide_eq_true_eq] at h
    intro it hit
    rcases List.mem_cons.mp hit with rfl | hit
    · exact h.1.1.1.1.2
    rcases List.mem_cons.mp hit with rfl | hit
    · exact h.1.2
    · exact alt_deep m (i + 1) rest h.2 it hit
theorem ampL_len : ∀ n, (ampL n).length = 4 * n
  | 0 => rfl
  | n + 1 => by
    show ([97, 109, 112, 59] ++ ampL n).length = _
    rw [List.length_append, ampL_len n]; simp; omega
theorem ent_len (n nm : Nat) : (Tk.ent n nm).tx.length ≤ 4 * n + 6 := by
  show (38 :: (ampL n ++ nmL nm)).length ≤ _
  have : (nmL nm).length ≤ 5 := by
    unfold nmL
    split
    · decide
    split <;> decide
  rw [List.length_cons, List.length_append, ampL_len]; omega
theorem item_len {k : Int} {p : Nat} (it : Item) (h : match it with | .inl (_, d) => d ≤ 5 | .inr (_, d) => d ≤ 5) : (txL (itemTk k l p it)).length ≤ 40 := by
  match it, h with
  | .inl (i, d), h =>
    show (txL (Tk.ch (l.getD i 0) :: markTk k p i d)).length ≤ 40
    rw [txL_cons, List.length_append]
    have : (txL (markTk k p i d)).length ≤ 30 := by
      unfold markTk
      split
      · split
        · have := ent_len (d - 1) 2
          show ((Tk.ent (d - 1) 2).tx ++ []).length ≤ 30
          have h' : d ≤ 5 := h
          rw [List.append_nil]; omega
        · show (1 : Nat) ≤ 30; decide
      · show (0 : Nat) ≤ 30; decide
    have h1 : (Tk.ch (l.getD i 0)).tx.length = 1 := rfl
    omega
  | .inr (g, m), h =>
    show ((Tk.ent (m - 1) (if g then 1 else 0)).tx ++ []).length ≤ 40
    have := ent_len (m - 1) (if g then 1 else 0)
    have h' : m ≤ 5 := h
    rw [List.append_nil]; omega
theorem items_len {k : Int} {p : Nat} : ∀ its : List Item, (∀ it ∈ its, match it with | .inl (_, d) => d ≤ 5 | .inr (_, d) => d ≤ 5) → (txL (its.flatMap (itemTk k l p))).length ≤ 40 * its.length
  | [], _ => Nat.zero_le _
  | it :: rest, h => by
    have := item_len (k := k) (p := p) (l := l) it (h it List.mem_cons_self)
    have := items_len (k := k) (p := p) rest fun x hx => h x (List.mem_cons_of_mem _ hx)
    rw [List.flatMap_cons, txL_app, List.length_append, List.length_cons]; omega
theorem alt_ch {k : Int} {p : Nat} (hpl : PlainL l) (its : List Item) : ∀ c, Tk.ch c ∈ its.flatMap (itemTk k l p) → c ≠ 97 := by
  intro c hc
  obtain ⟨it, _, ht⟩ := List.mem_flatMap.mp hc
  match it, ht with
  | .inl (i, d), ht =>
    rcases List.mem_cons.mp ht with h | ht
    · cases h; have := hpl i; omega
    · unfold markTk at ht
      split at ht
      · split at ht
        · cases List.mem_singleton.mp ht
        · cases List.mem_singleton.mp ht; decide
      · simp at ht
  | .inr (g, m), ht => cases List.mem_singleton.mp ht
theorem part_good (R : RowOk fs l r) {k : Int} (hk : k = 0 ∨ k = 1 ∨ k = 2) {p : Nat} (hp : p < 5) {a : Nat} {q : PT} (h : treeOk r a q = true) (ha : a + (q.2.1 + 1 - q.1) ≤ 5) :
    lettersOf (ofL l) (a : Int) (val (fun t => ofL (treeL k l p t)) q) = ofL ((l.drop a).take (q.2.1 + 1 - q.1)) ∧ PartGood (ofL ((l.drop a).take (q.2.1 + 1 - q.1))) (ofL [l.getD p 0]) k (ofL (treeL k l p q.2.2)) := by
  unfold treeOk at h
  simp only [Bool.and_eq_true, decide_eq_true_eq] at h
  obtain ⟨⟨⟨⟨⟨_, hle⟩, _⟩, _⟩, _⟩, hd⟩ := h
  generalize hn : q.2.1 + 1 - q.1 = n at hd ha
  have hn1 : 1 ≤ n := by omega
  have hl := seg_len R ha
  constructor
  · show Txt.slice (ofL l) (some (a : Int)) (some ((a : Int) + 1 + (q.2.1 : Int) - (q.1 : Int))) = _
    rw [show (a : Int) + 1 + (q.2.1 : Int) - (q.1 : Int) = ((a + n : Nat) : Int) from by omega, slice_ss _ (by omega) (by rw [R.len]; omega), show a + n - a = n from by omega]
  unfold dotsOkT at hd
  simp only [Bool.and_eq_true, beq_iff_eq] at hd
  obtain ⟨⟨hlen, halt⟩, hpair⟩ := hd
  have hpl := plain_of R.bd
  have ht : treeL k l p q.2.2 = txL ((q.2.2.items 0).flatMap (itemTk k l p)) := tree_text hk hpl p q.2.2 0
  rw [ht]
  refine ⟨?_, ?_, ?_, ?_, ?_, ?_⟩
  · rw [ofL_len, hl]; exact hn1
  · rw [ofL_len, hl]; omega
  · rw [ofL_len]
    have := items_len (k := k) (p := p) (l := l) (q.2.2.items 0) (alt_deep _ _ _ halt)
    omega
  · intro i hi
    rw [ofL_len] at hi
    rw [pre_of (by omega)]
    show 1 ≤ (((l.drop a).take n).take (i + 1)).toArray.size
    rw [List.size_toArray, List.length_take]; omega
  · intro i hi c hc
    rw [ofL_len, hl] at hi
    rw [pre_of (by omega), ofL_list] at hc
    obtain ⟨p', hp', e⟩ := List.mem_iff_getElem.mp hc
    rw [List.length_take] at hp'
    have hc' : c = l.getD (a + p') 0 := by
      rw [← seg_get (l := l) (a := a) (n := n) (j := p') (by omega), ← e, List.getD_eq_getElem?_getD]
      rw [List.getElem_take, List.getElem?_eq_getElem (by omega)]; rfl
    rw [item1 (by omega), seg_get hi, hc', show (⟨#[l.getD (a + p') 0]⟩ : Str) = ofL [l.getD (a + p') 0] from rfl]
    exact pair_law R hlen (by omega) (by omega) ha (List.all_eq_true.mp (List.all_eq_true.mp hpair (i + 1) (List.mem_range.mpr (by omega))) p' (List.mem_range.mpr (by omega)))
  · rw [s_ampT, s_none, replace_ofL _ _ _ (by simp), rep_toks _ (alt_ch hpl _), ofL_len, hl, whole_eq R ha (n - 1) (by omega), mark_eq, ofL_app, replace_ofL _ _ _ (by simp), repS_one]
    refine congrArg ofL ?_
    exact flat_items hpl (R.inj hp) (R.at' hp).1 (fun i hi => R.ord _ _ (by omega) (by omega)) rfl (n - 1) a _ (by omega) halt
theorem parts_le {r : List Nat} : ∀ (ps : List PT) (a : Nat), partsOk r a ps = true → a ≤ 5
  | [], a, h => by have : a = 5 := by simpa [partsOk] using h
                   omega
  | p :: ps, a, h => by
    have h2 := (Bool.and_eq_true _ _ ▸ h : treeOk r a p = true ∧ partsOk r (a + (p.2.1 + 1 - p.1)) ps = true).2
    have := parts_le ps _ h2
    omega
theorem dots_ok (R : RowOk fs l r) {k : Int} (hk : k = 0 ∨ k = 1 ∨ k = 2) {p : Nat} (hp : p < 5) : ∀ (ps : List PT) (a : Nat), partsOk r a ps = true → DotsOk (ofL l) (ofL [l.getD p 0]) k (a : Int) (ps.map (val fun t => ofL (treeL k l p t)))
  | [], _, _ => trivial
  | q :: ps, a, h => by
    have h2 := (Bool.and_eq_true _ _ ▸ h : treeOk r a q = true ∧ partsOk r (a + (q.2.1 + 1 - q.1)) ps = true)
    have hle := parts_le ps _ h2.2
    have g := part_good R hk hp h2.1 hle
    show PartGood (lettersOf (ofL l) (a : Int) (val _ q)) _ k _ ∧ DotsOk _ _ k ((a : Int) + (lettersOf (ofL l) (a : Int) (val _ q)).length) _
    rw [g.1]
    refine ⟨g.2, ?_⟩
    rw [ofL_len, seg_len R hle, show (a : Int) + ((q.2.1 + 1 - q.1 : Nat) : Int) = ((a + (q.2.1 + 1 - q.1) : Nat) : Int) from by omega]
    exact dots_ok R hk hp ps _ h2.2
end
end Mine
end partY5
/-! part Y6 -/
section partY6
open PySem PySem.W PyProof.Rows PySem.Calls Builtin Builtin.Str
set_option Elab.async false
set_option linter.all false
set_option maxRecDepth 100000
namespace Mine
local macro_rules | `(tactic| omega) => `(tactic| lia)
theorem start_val {r : List Nat} (h : r.length = 5) (f : Tree → Str) {xs : List Str} (hx : xs = [f (.leaf 0), f (.leaf 1), f (.leaf 2), f (.leaf 3), f (.leaf 4)]) : startV (r.map (fun n : Nat => (n : Int))) xs = (startT r).map (val f) := by
  subst hx
  match r, h with
  | [a, b, c, d, e], _ => rfl
theorem texts_eq {l : List Nat} (h : l.length = 5) (k : Int) {p : Nat} (hp : p < 5) : addAt (signs (ofL l)) p (Str.ofString "\"") = [ofL (treeL k l p (.leaf 0)), ofL (treeL k l p (.leaf 1)), ofL (treeL k l p (.leaf 2)), ofL (treeL k l p (.leaf 3)), ofL (treeL k l p (.leaf 4))] := by
  rw [s_quot, signs_ofL]
  unfold addAt
  match l, h with
  | [a, b, c, d, e], _ =>
    match p, hp with
    | 0, _ => show [ofL [a] ++ ofL [34], ofL [b], ofL [c], ofL [d], ofL [e]] = _; rw [ofL_app]; rfl
    | 1, _ => show [ofL [a], ofL [b] ++ ofL [34], ofL [c], ofL [d], ofL [e]] = _; rw [ofL_app]; rfl
    | 2, _ => show [ofL [a], ofL [b], ofL [c] ++ ofL [34], ofL [d], ofL [e]] = _; rw [ofL_app]; rfl
    | 3, _ => show [ofL [a], ofL [b], ofL [c], ofL [d] ++ ofL [34], ofL [e]] = _; rw [ofL_app]; rfl
    | 4, _ => show [ofL [a], ofL [b], ofL [c], ofL [d], ofL [e] ++ ofL [34]] = _; rw [ofL_app]; rfl
theorem mark_bd (tot : Int) : ∃ p : Nat, p < 5 ∧ markAt tot = (p : Int) ∧ (markAt tot).toNat = p := by
  have h0 : 0 ≤ markAt tot := Int.fmod_nonneg_of_pos _ (by decide)
  have h1 : markAt tot < 5 := Int.fmod_lt_of_pos _ (by decide)
  exact ⟨(markAt tot).toNat, by omega, by omega, rfl⟩
theorem kind_bd (tot : Int) : tot.fmod 3 = 0 ∨ tot.fmod 3 = 1 ∨ tot.fmod 3 = 2 := by
  have h0 : 0 ≤ tot.fmod 3 := Int.fmod_nonneg_of_pos _ (by decide)
  have h1 : tot.fmod 3 < 3 := Int.fmod_lt_of_pos _ (by decide)
  omega
theorem start_sz {r : List Nat} (h : r.length = 5) (k : Int) (l : List Nat) {p : Nat} (hp : p < 5) : szP ((startT r).map (val fun t => ofL (treeL k l p t))) = 11 := by
  match r, h with
  | [a, b, c, d, e], _ =>
    match p, hp with
    | 0, _ | 1, _ | 2, _ | 3, _ | 4, _ => rfl
theorem node_wrap {k : Int} (hk : k = 0 ∨ k = 1 ∨ k = 2) (l : List Nat) (p : Nat) (g : Bool) (a b : Tree) : ofL (treeL k l p (.node g a b)) = wrapP k (ofL (treeL k l p a) ++ sgnS g ++ ofL (treeL k l p b)) := by
  have hs : sgnS g = ofL [if g then 62 else 60] := by cases g <;> decide +kernel
  rw [hs, ofL_app, ofL_app, wrap_eq hk]; rfl
theorem part2_law {fs : List Int} {l r : List Nat} (R : RowOk fs l r) (tot : Int) :
    joinFits (tot.fmod 3) 5 (-1) (startV (rksOf fs) (textsOf fs tot)) ∧ (parts2Of fs tot).length ≤ 5 ∧ DotsOk (rowS fs) (Txt.item (rowS fs) (markAt tot)) (tot.fmod 3) 0 (parts2Of fs tot) := by
  have hk := kind_bd tot
  obtain ⟨p, hp, hm, hm2⟩ := mark_bd tot
  have hrow : rowS fs = ofL l := by rw [← R.row]; rfl
  have hst : startV (rksOf fs) (textsOf fs tot) = (startT r).map (val fun t => ofL (treeL (tot.fmod 3) l p t)) := by
    rw [R.rks]
    refine start_val R.rlen _ ?_
    unfold textsOf
    rw [hrow, hm2]
    exact texts_eq R.len _ hp
  refine ⟨?_, ?_⟩
  · rw [hst]
    refine fits_all (fun t _ => wrap_len hk t) (fun _ j t => esc_len hk j t) 5 (-1) _ ?_
    rw [start_sz R.rlen _ _ hp]; decide
  · obtain ⟨ps', hps, e⟩ := joinAll_reach (kind := tot.fmod 3) (f := fun t => ofL (treeL (tot.fmod 3) l p t)) (fun g a b => node_wrap hk l p g a b) 5 (-1) (startT r)
    have e' : parts2Of fs tot = ps'.map (val fun t => ofL (treeL (tot.fmod 3) l p t)) := by unfold parts2Of; rw [hst, e]
    have g := List.all_eq_true.mp R.good ps' hps
    simp only [Bool.and_eq_true, decide_eq_true_eq] at g
    rw [e']
    refine ⟨by rw [List.length_map]; exact g.2, ?_⟩
    rw [hrow, hm, item_ofL _ (by rw [R.len]; exact hp)]
    exact dots_ok R hk hp ps' 0 g.1.1
end Mine
end partY6
/-! part Z1 -/
section partZ1
open PySem PySem.W PyProof.Rows PySem.Calls Builtin Builtin.Str
set_option Elab.async false
set_option linter.all false
set_option maxRecDepth 100000
namespace Mine
local macro_rules | `(tactic| omega) => `(tactic| lia)
/-! quotes and brackets -/
noncomputable def IsAt (a : List Nat) : Prop := (∃ c, c ≠ 92 ∧ a = [c]) ∨ ∃ c, a = [92, c]
theorem escL_ats : ∀ (ats : List (List Nat)), (∀ a ∈ ats, IsAt a) → ∀ (i : Nat) (rest : List Nat), ∃ its : List (Nat × List Nat), its.map (·.2) = ats ∧ escL i false (ats.flatten ++ rest) = its ++ escL (i + ats.flatten.length) false rest
  | [], _, i, rest => ⟨[], rfl, rfl⟩
  | a :: r, h, i, rest => by
    rcases h a List.mem_cons_self with ⟨c, hc, rfl⟩ | ⟨c, rfl⟩
    · obtain ⟨its, h1, h2⟩ := escL_ats r (fun x hx => h x (List.mem_cons_of_mem _ hx)) (i + 1) rest
      refine ⟨(i, [c]) :: its, by rw [List.map_cons, h1], ?_⟩
      show (if c = 92 then _ else (i, [c]) :: escL (i + 1) false (r.flatten ++ rest)) = _
      rw [if_neg hc, h2]
      show _ = (i, [c]) :: (its ++ escL (i + ([c] ++ r.flatten).length) false rest)
      rw [List.length_append, List.length_singleton, Nat.add_assoc]
    · obtain ⟨its, h1, h2⟩ := escL_ats r (fun x hx => h x (List.mem_cons_of_mem _ hx)) (i + 2) rest
      refine ⟨(i + 1, [92, c]) :: its, by rw [List.map_cons, h1], ?_⟩
      show (i + 1, [92, c]) :: escL (i + 1 + 1) false (r.flatten ++ rest) = _
      rw [show i + 1 + 1 = i + 2 from rfl, h2]
      show _ = (i + 1, [92, c]) :: (its ++ escL (i + ([92, c] ++ r.flatten).length) false rest)
      rw [List.length_append, show ([92, c] : List Nat).length = 2 from rfl, Nat.add_assoc]
theorem st_same (a : Str) : ∀ (its : List (Nat × List Nat)) (st), (∀ it ∈ its, it.2 ≠ [34]) → its.foldl (stStep a) st = st
  | [], _, _ => rfl
  | it :: r, st, h => by
    rw [List.foldl_cons]
    have : stStep a st it = st := if_neg (h it List.mem_cons_self)
    rw [this]
    exact st_same a r st fun x hx => h x (List.mem_cons_of_mem _ hx)
theorem strip_plain {x : List Nat} (h : 34 ∉ x) : stripB (ofL x) = ofL x := by
  have hf := StrLaws.found_one (ofL x) 34
  have : (occurrences (ofL x) (Str.ofString "\"") 0 (ofL x).length 1).isEmpty = true := by
    rw [s_quot]
    have h' : decide (34 ∈ (ofL x).cps.toList) = false := by simpa using h
    rw [h'] at hf
    simpa using hf
  exact if_pos this
theorem strip_quote {A B : List (List Nat)} {c : Nat} (hA : ∀ a ∈ A, IsAt a ∧ a ≠ [34]) (hB : ∀ a ∈ B, IsAt a ∧ a ≠ [34]) (hA0 : A.flatten ≠ []) (hc : c ≠ 92) (hc2 : c ≠ 34) :
    stripB (ofL (A.flatten ++ [34, c, 34] ++ B.flatten)) = ofL (A.flatten ++ B.flatten) := by
  generalize hX : A.flatten ++ [34, c, 34] ++ B.flatten = X
  have hocc : ¬ (occurrences (ofL X) (Str.ofString "\"") 0 (ofL X).length 1).isEmpty = true := by
    have hf := StrLaws.found_one (ofL X) 34
    rw [show decide (34 ∈ (ofL X).cps.toList) = true from by rw [← hX]; simp] at hf
    rw [s_quot]
    intro q
    rw [show (⟨#[34]⟩ : Str) = ofL [34] from rfl, q] at hf
    simp at hf
  obtain ⟨ia, a1, a2⟩ := escL_ats A (fun a h => (hA a h).1) 0 ([34, c, 34] ++ B.flatten)
  obtain ⟨ib, b1, b2⟩ := escL_ats B (fun a h => (hB a h).1) (A.flatten.length + 3) []
  have na : ∀ it ∈ ia, it.2 ≠ [34] := fun it hi => (hA it.2 (by rw [← a1]; exact List.mem_map_of_mem hi)).2
  have nb : ∀ it ∈ ib, it.2 ≠ [34] := fun it hi => (hB it.2 (by rw [← b1]; exact List.mem_map_of_mem hi)).2
  have hpos : 0 < A.flatten.length := List.length_pos_iff.mpr hA0
  have hlen : X.length = A.flatten.length + 3 + B.flatten.length := by rw [← hX]; simp; omega
  have hesc : escL 0 false X = ia ++ ((A.flatten.length, [34]) :: (A.flatten.length + 1, [c]) :: (A.flatten.length + 2, [34]) :: ib) := by
    rw [← hX, List.append_assoc, a2, Nat.zero_add]
    show ia ++ (if 34 = 92 then _ else (A.flatten.length, [34]) :: (if c = 92 then _ else (A.flatten.length + 1, [c]) :: (if 34 = 92 then _ else (A.flatten.length + 1 + 1, [34]) :: escL (A.flatten.length + 1 + 1 + 1) false B.flatten))) = _
    rw [if_neg (by decide), if_neg hc, if_neg (by decide)]
    rw [List.append_nil] at b2
    rw [show A.flatten.length + 1 + 1 + 1 = A.flatten.length + 3 from rfl, b2]
    simp [escL]
  have hs : (escL 0 false (ofL X).cps.toList).foldl (stStep (ofL X)) (0, none, []) = (A.flatten.length + 3, none, [ofL A.flatten]) := by
    rw [ofL_list, hesc, List.foldl_append, st_same _ ia _ na, List.foldl_cons, List.foldl_cons, List.foldl_cons]
    have e1 : stStep (ofL X) (0, none, []) (A.flatten.length, [34]) = (0, some A.flatten.length, []) := if_pos rfl
    have e2 : stStep (ofL X) (0, some A.flatten.length, []) (A.flatten.length + 1, [c]) = (0, some A.flatten.length, []) := if_neg (by simpa using hc2)
    have e3 : stStep (ofL X) (0, some A.flatten.length, []) (A.flatten.length + 2, [34]) = (A.flatten.length + 3, none, [ofL A.flatten]) := by
      refine (if_pos rfl).trans ?_
      show (A.flatten.length + 2 + 1, none, if 0 ≠ A.flatten.length then [] ++ [Txt.slice (ofL X) (some ((0 : Nat) : Int)) (some (A.flatten.length : Int))] else []) = _
      rw [if_pos (by omega), slice_ss X (a := 0) (by omega) (by omega), ← hX]
      simp
    rw [e1, e2, e3, st_same _ ib _ nb]
  unfold stripB
  rw [if_neg hocc]
  simp only [hs]
  show Txt.join (Str.ofString "") (if A.flatten.length + 3 < (ofL X).length then _ else _) = _
  unfold Txt.join
  rw [StrLaws.glued_eq_join, ofL_len, s_none]
  by_cases hlt : A.flatten.length + 3 < X.length
  · rw [if_pos hlt, slice_from X (a := A.flatten.length + 3) (by omega)]
    show ofL A.flatten ++ ofL [] ++ ofL (X.drop (A.flatten.length + 3)) = _
    rw [ofL_app, ofL_app, List.append_nil, ← hX, List.drop_append_of_le_length (by simp), show A.flatten.length + 3 = (A.flatten ++ [34, c, 34]).length from by simp, List.drop_length, List.nil_append]
  · rw [if_neg hlt]
    show ofL A.flatten = _
    have : B.flatten = [] := List.length_eq_zero_iff.mp (by omega)
    rw [this, List.append_nil]
noncomputable def ckA (st : Option Int) (a : List Nat) : Option Int := ckStep st (0, a)
theorem check_ats {X : Str} {ats : List (List Nat)} (h : ∀ a ∈ ats, IsAt a) (hs : stripB X = ofL ats.flatten) : checkB X = (ats.foldl ckA (some 0) == some 0) := by
  unfold checkB
  rw [hs, ofL_list]
  obtain ⟨its, h1, h2⟩ := escL_ats ats h 0 []
  rw [List.append_nil] at h2
  rw [h2, show escL (0 + ats.flatten.length) false [] = [] from by simp [escL], List.append_nil, ← h1, List.foldl_map]
  rfl
/-! tokens -/
inductive T3
  | op
  | cl
  | sg (g : Bool)
  | lf (i : Nat)
noncomputable def ck3 (st : Option Int) : T3 → Option Int
  | .op => match st with | none => none | some o => some (o + 1)
  | .cl => match st with | none => none | some o => if o - 1 < 0 then none else some (o - 1)
  | _ => st
noncomputable def lfs (ts : List T3) : List Nat := ts.filterMap fun | .lf i => some i | _ => none
structure Dress where
  l : List Nat
  i1 : Nat
  i2 : Nat
  m1 : List Nat
  m2 : List Nat
structure DressOk (D : Dress) : Prop where
  pl : ∀ i, D.l.getD i 0 = 0 ∨ (65 ≤ D.l.getD i 0 ∧ D.l.getD i 0 < 81)
  m1 : D.m1 ∈ ([[34, 41, 34], [34, 40, 34], [92, 41], [92, 40]] : List (List Nat))
  m2 : D.m2 ∈ ([[92, 40], [92, 92], [92, 41]] : List (List Nat))
noncomputable def Dress.lx (D : Dress) (i : Nat) : List Nat := D.l.getD i 0 :: ((if i = D.i1 then D.m1 else []) ++ (if i = D.i2 then D.m2 else []))
noncomputable def Dress.tx (D : Dress) : T3 → List Nat
  | .op => [40]
  | .cl => [41]
  | .sg g => [if g then 62 else 60]
  | .lf i => D.lx i
noncomputable def Dress.txt (D : Dress) (ts : List T3) : List Nat := ts.flatMap D.tx
/-- what is left of a token when quotes are gone, in atoms -/
noncomputable def Dress.at3 (D : Dress) : T3 → List (List Nat)
  | .op => [[40]]
  | .cl => [[41]]
  | .sg g => [[if g then 62 else 60]]
  | .lf i => [D.l.getD i 0] :: ((if i = D.i1 then (if D.m1.length = 2 then [D.m1] else []) else []) ++ (if i = D.i2 then [D.m2] else []))
theorem at3_ok {D : Dress} (h : DressOk D) (t : T3) : ∀ a ∈ D.at3 t, IsAt a ∧ a ≠ [34] ∧ 34 ∉ a := by
  have h2 : ∀ a : List Nat, a = D.m2 → IsAt a ∧ a ≠ [34] ∧ 34 ∉ a := by
    rintro a rfl
    have := h.m2
    simp only [List.mem_cons, List.not_mem_nil, or_false] at this
    rcases this with e | e | e <;> rw [e] <;> exact ⟨.inr ⟨_, rfl⟩, by decide, by decide⟩
  match t with
  | .op => intro a ha; rw [List.mem_singleton.mp ha]; exact ⟨.inl ⟨40, by decide, rfl⟩, by decide, by decide⟩
  | .cl => intro a ha; rw [List.mem_singleton.mp ha]; exact ⟨.inl ⟨41, by decide, rfl⟩, by decide, by decide⟩
  | .sg g => intro a ha; rw [List.mem_singleton.mp ha]; cases g <;> exact ⟨.inl ⟨_, by decide, rfl⟩, by decide, by decide⟩
  | .lf i =>
    intro a ha
    rcases List.mem_cons.mp ha with rfl | ha
    · have := h.pl i
      exact ⟨.inl ⟨D.l.getD i 0, by omega, rfl⟩, fun e => by have := (List.cons.inj e).1; omega, fun e => by have := List.mem_singleton.mp e; omega⟩
    rcases List.mem_append.mp ha with ha | ha
    · split at ha
      · split at ha
        · rename_i hl
          have := h.m1
          simp only [List.mem_cons, List.not_mem_nil, or_false] at this
          rw [List.mem_singleton.mp ha]
          rcases this with e | e | e | e <;> rw [e] at hl ⊢
          · simp at hl
          · simp at hl
          · exact ⟨.inr ⟨_, rfl⟩, by decide, by decide⟩
          · exact ⟨.inr ⟨_, rfl⟩, by decide, by decide⟩
        · simp at ha
      · simp at ha
    · split at ha
      · exact h2 a (List.mem_singleton.mp ha)
      · simp at ha
end Mine
end partZ1
/-! part Z2 -/
section partZ2
open PySem PySem.W PyProof.Rows PySem.Calls Builtin Builtin.Str
set_option Elab.async false
set_option linter.all false
set_option maxRecDepth 100000
namespace Mine
local macro_rules | `(tactic| omega) => `(tactic| lia)
theorem ckA_other {a : List Nat} (h0 : a ≠ [40]) (h1 : a ≠ [41]) (st : Option Int) : ckA st a = st := by
  cases st with
  | none => rfl
  | some o =>
    show (if a = [40] then some (o + 1) else if a = [41] then _ else some o) = _
    rw [if_neg h0, if_neg h1]
theorem m2_len {D : Dress} (h : DressOk D) : ∃ c, D.m2 = [92, c] := by
  have := h.m2
  simp only [List.mem_cons, List.not_mem_nil, or_false] at this
  rcases this with e | e | e <;> exact ⟨_, e⟩
theorem m1_cases {D : Dress} (h : DressOk D) : (∃ c, D.m1 = [92, c]) ∨ ∃ c, (c = 40 ∨ c = 41) ∧ D.m1 = [34, c, 34] := by
  have := h.m1
  simp only [List.mem_cons, List.not_mem_nil, or_false] at this
  rcases this with e | e | e | e
  · exact .inr ⟨41, .inr rfl, e⟩
  · exact .inr ⟨40, .inl rfl, e⟩
  · exact .inl ⟨_, e⟩
  · exact .inl ⟨_, e⟩
theorem at3_fold {D : Dress} (h : DressOk D) (t : T3) (st : Option Int) : (D.at3 t).foldl ckA st = ck3 st t := by
  match t with
  | .op => cases st <;> rfl
  | .cl => cases st <;> rfl
  | .sg g =>
    show ckA st [if g then 62 else 60] = st
    exact ckA_other (by cases g <;> decide) (by cases g <;> decide) st
  | .lf i =>
    obtain ⟨c2, e2⟩ := m2_len h
    show ((if i = D.i1 then (if D.m1.length = 2 then [D.m1] else []) else []) ++ (if i = D.i2 then [D.m2] else [])).foldl ckA (ckA st [D.l.getD i 0]) = st
    have := h.pl i
    rw [ckA_other (fun e => by have := (List.cons.inj e).1; omega) (fun e => by have := (List.cons.inj e).1; omega), List.foldl_append]
    have h1 : (if i = D.i1 then (if D.m1.length = 2 then [D.m1] else []) else []).foldl ckA st = st := by
      split
      · split
        · rename_i hl
          rcases m1_cases h with ⟨c, e⟩ | ⟨c, _, e⟩
          · rw [e]; exact ckA_other (by simp) (by simp) st
          · rw [e] at hl; simp at hl
        · rfl
      · rfl
    rw [h1]
    split
    · rw [e2]; exact ckA_other (by simp) (by simp) st
    · rfl
theorem ats_fold {D : Dress} (h : DressOk D) : ∀ (ts : List T3) (st : Option Int), (ts.flatMap D.at3).foldl ckA st = ts.foldl ck3 st
  | [], _ => rfl
  | t :: r, st => by rw [List.flatMap_cons, List.foldl_append, at3_fold h, List.foldl_cons, ats_fold h r]
theorem tx_flat {D : Dress} (h : DressOk D) (t : T3) (ht : D.m1.length = 2 ∨ ∀ i, t = .lf i → i ≠ D.i1) : D.tx t = (D.at3 t).flatten := by
  match t with
  | .op => rfl
  | .cl => rfl
  | .sg g => rfl
  | .lf i =>
    have e1 : (if i = D.i1 then D.m1 else []) = (if i = D.i1 then (if D.m1.length = 2 then [D.m1] else []) else []).flatten := by
      by_cases hi : i = D.i1
      · rw [if_pos hi, if_pos hi]
        rcases ht with hl | hn
        · rw [if_pos hl]; simp
        · exact absurd hi (hn i rfl)
      · rw [if_neg hi, if_neg hi]; rfl
    have e2 : (if i = D.i2 then D.m2 else []) = (if i = D.i2 then [D.m2] else []).flatten := by
      split <;> simp
    show D.l.getD i 0 :: ((if i = D.i1 then D.m1 else []) ++ (if i = D.i2 then D.m2 else [])) = ([D.l.getD i 0] :: ((if i = D.i1 then (if D.m1.length = 2 then [D.m1] else []) else []) ++ (if i = D.i2 then [D.m2] else []))).flatten
    rw [List.flatten_cons, List.flatten_append, ← e1, ← e2]; rfl
theorem txt_flat {D : Dress} (h : DressOk D) : ∀ ts : List T3, (D.m1.length = 2 ∨ D.i1 ∉ lfs ts) → D.txt ts = (ts.flatMap D.at3).flatten
  | [], _ => rfl
  | t :: r, hh => by
    have ih := txt_flat h r (hh.imp (fun q => q) fun q hm => q (by
      obtain ⟨x, hx, e⟩ := List.mem_filterMap.mp hm
      exact List.mem_filterMap.mpr ⟨x, List.mem_cons_of_mem _ hx, e⟩))
    have e1 := tx_flat h t (hh.imp (fun q => q) fun q i e hi => q (by
      subst hi; subst e
      exact List.mem_filterMap.mpr ⟨_, List.mem_cons_self, rfl⟩))
    show D.tx t ++ D.txt r = _
    rw [e1, ih, List.flatMap_cons, List.flatten_append]
theorem lfs_app (a b : List T3) : lfs (a ++ b) = lfs a ++ lfs b := List.filterMap_append
theorem mem_lfs {i : Nat} {ts : List T3} : i ∈ lfs ts ↔ T3.lf i ∈ ts := by
  unfold lfs
  rw [List.mem_filterMap]
  constructor
  · rintro ⟨t, ht, e⟩
    match t, e with
    | .lf j, e => rw [show j = i from Option.some.inj e] at ht; exact ht
  · exact fun ht => ⟨_, ht, rfl⟩
theorem txt_app (D : Dress) (a b : List T3) : D.txt (a ++ b) = D.txt a ++ D.txt b := List.flatMap_append
theorem no34 {D : Dress} (h : DressOk D) (ts : List T3) : 34 ∉ (ts.flatMap D.at3).flatten := by
  intro hm
  obtain ⟨a, ha, h34⟩ := List.mem_flatten.mp hm
  obtain ⟨t, _, ha⟩ := List.mem_flatMap.mp ha
  exact (at3_ok h t a ha).2.2 h34
theorem strip_toks {D : Dress} (h : DressOk D) {ts : List T3} (hn : (lfs ts).Nodup) : stripB (ofL (D.txt ts)) = ofL (ts.flatMap D.at3).flatten := by
  rcases m1_cases h with ⟨c, e⟩ | ⟨c, hc, e⟩
  · have hf := txt_flat h ts (.inl (by rw [e]; rfl))
    rw [hf]
    exact strip_plain (no34 h ts)
  · by_cases hi : D.i1 ∈ lfs ts
    · obtain ⟨T1, T2, rfl⟩ := List.append_of_mem (mem_lfs.mp hi)
      rw [lfs_app] at hn
      have hn' : (lfs T1 ++ D.i1 :: lfs T2).Nodup := hn
      have n1 : D.i1 ∉ lfs T1 := fun q => (List.nodup_append.mp hn').2.2 _ q _ List.mem_cons_self rfl
      have n2 : D.i1 ∉ lfs T2 := (List.nodup_cons.mp (List.nodup_append.mp hn').2.1).1
      have key := strip_quote (A := T1.flatMap D.at3 ++ [[D.l.getD D.i1 0]]) (B := (if D.i1 = D.i2 then [D.m2] else []) ++ T2.flatMap D.at3) (c := c)
        (fun a ha => by
          rcases List.mem_append.mp ha with ha | ha
          · obtain ⟨t, _, ha⟩ := List.mem_flatMap.mp ha
            exact ⟨(at3_ok h t a ha).1, (at3_ok h t a ha).2.1⟩
          · have q := at3_ok h (.lf D.i1) a (List.mem_cons.mpr (.inl (List.mem_singleton.mp ha)))
            exact ⟨q.1, q.2.1⟩)
        (fun a ha => by
          rcases List.mem_append.mp ha with ha | ha
          · have q := at3_ok h (.lf D.i1) a (List.mem_cons_of_mem _ (List.mem_append_right _ ha))
            exact ⟨q.1, q.2.1⟩
          · obtain ⟨t, _, ha⟩ := List.mem_flatMap.mp ha
            exact ⟨(at3_ok h t a ha).1, (at3_ok h t a ha).2.1⟩)
        (by simp) (by omega) (by omega)
      have ex : D.txt (T1 ++ T3.lf D.i1 :: T2) = (T1.flatMap D.at3 ++ [[D.l.getD D.i1 0]]).flatten ++ [34, c, 34] ++ ((if D.i1 = D.i2 then [D.m2] else []) ++ T2.flatMap D.at3).flatten := by
        rw [txt_app, txt_flat h T1 (.inr n1)]
        show _ ++ (D.lx D.i1 ++ D.txt T2) = _
        rw [txt_flat h T2 (.inr n2)]
        unfold Dress.lx
        rw [if_pos rfl, e]
        by_cases q : D.i1 = D.i2
        · rw [if_pos q, if_pos q]; simp
        · rw [if_neg q, if_neg q]; simp
      rw [ex, key, ← List.flatten_append]
      congr 2
      rw [List.flatMap_append, List.flatMap_cons]
      show _ = _ ++ ([D.l.getD D.i1 0] :: ((if D.i1 = D.i1 then (if D.m1.length = 2 then [D.m1] else []) else []) ++ (if D.i1 = D.i2 then [D.m2] else [])) ++ _)
      rw [if_pos rfl, if_neg (show ¬ D.m1.length = 2 by rw [e]; simp)]
      simp
    · rw [txt_flat h ts (.inr hi)]
      exact strip_plain (no34 h ts)
theorem check_toks {D : Dress} (h : DressOk D) {ts : List T3} (hn : (lfs ts).Nodup) : checkB (ofL (D.txt ts)) = (ts.foldl ck3 (some 0) == some 0) := by
  rw [check_ats (fun a ha => ?_) (strip_toks h hn), ats_fold h]
  obtain ⟨t, _, ha⟩ := List.mem_flatMap.mp ha
  exact (at3_ok h t a ha).1
/-! trees -/
noncomputable def toks3 : Tree → List T3
  | .leaf i => [.lf i]
  | .node g a b => .op :: (toks3 a ++ T3.sg g :: (toks3 b ++ [T3.cl]))
theorem lfs_tree : ∀ t : Tree, lfs (toks3 t) = t.leaves
  | .leaf i => rfl
  | .node g a b => by
    show lfs (toks3 a ++ T3.sg g :: (toks3 b ++ [T3.cl])) = a.leaves ++ b.leaves
    rw [lfs_app, lfs_tree a, show lfs (T3.sg g :: (toks3 b ++ [T3.cl])) = lfs (toks3 b ++ [T3.cl]) from rfl, lfs_app, lfs_tree b]
    simp [lfs]
theorem fold_tree : ∀ (t : Tree) (o : Int), 0 ≤ o → (toks3 t).foldl ck3 (some o) = some o
  | .leaf i, o, _ => rfl
  | .node g a b, o, h => by
    show (toks3 a ++ T3.sg g :: (toks3 b ++ [T3.cl])).foldl ck3 (some (o + 1)) = _
    rw [List.foldl_append, fold_tree a _ (by omega), List.foldl_cons]
    show (toks3 b ++ [T3.cl]).foldl ck3 (some (o + 1)) = _
    rw [List.foldl_append, fold_tree b _ (by omega)]
    show (if o + 1 - 1 < 0 then none else some (o + 1 - 1)) = _
    rw [if_neg (by omega), show o + 1 - 1 = o from by omega]
/-- every sign, with the state ahead of it and its place -/
noncomputable def AllSg (D : Dress) (Φ : Option Int → Nat → Prop) : Option Int → Nat → List T3 → Prop
  | _, _, [] => True
  | st, pos, t :: r => ((∃ g, t = .sg g) → Φ st pos) ∧ AllSg D Φ (ck3 st t) (pos + (D.tx t).length) r
theorem all_at {D : Dress} {Φ : Option Int → Nat → Prop} {g : Bool} {V : List T3} : ∀ (U : List T3) (st : Option Int) (pos : Nat), AllSg D Φ st pos (U ++ T3.sg g :: V) → Φ (U.foldl ck3 st) (pos + (D.txt U).length)
  | [], st, pos, h => h.1 ⟨g, rfl⟩
  | t :: r, st, pos, h => by
    have := all_at r _ _ h.2
    rw [List.foldl_cons, show D.txt (t :: r) = D.tx t ++ D.txt r from rfl, List.length_append, ← Nat.add_assoc]
    exact this
theorem all_tree {D : Dress} {Φ : Option Int → Nat → Prop} (hΦ : ∀ o : Int, 1 ≤ o → ∀ p, Φ (some o) p) : ∀ (t : Tree) (o : Int) (pos : Nat) (rest : List T3), 0 ≤ o → AllSg D Φ (some o) (pos + (D.txt (toks3 t)).length) rest → AllSg D Φ (some o) pos (toks3 t ++ rest)
  | .leaf i, o, pos, rest, h, hr => by
    refine ⟨fun ⟨g, e⟩ => (by cases e), ?_⟩
    have : (D.txt (toks3 (.leaf i))).length = (D.tx (.lf i)).length := by show (D.tx (.lf i) ++ []).length = _; rw [List.append_nil]
    rw [this] at hr
    exact hr
  | .node g a b, o, pos, rest, h, hr => by
    have hl : (D.txt (toks3 (.node g a b))).length = 1 + ((D.txt (toks3 a)).length + (1 + ((D.txt (toks3 b)).length + 1))) := by
      show (D.txt (T3.op :: (toks3 a ++ T3.sg g :: (toks3 b ++ [T3.cl])))).length = _
      rw [show D.txt (T3.op :: (toks3 a ++ T3.sg g :: (toks3 b ++ [T3.cl]))) = [40] ++ D.txt (toks3 a ++ T3.sg g :: (toks3 b ++ [T3.cl])) from rfl, List.length_append, txt_app, List.length_append, show D.txt (T3.sg g :: (toks3 b ++ [T3.cl])) = [if g then 62 else 60] ++ D.txt (toks3 b ++ [T3.cl]) from rfl, List.length_append, txt_app, List.length_append]
      rfl
    rw [hl] at hr
    refine ⟨fun ⟨g, e⟩ => (by cases e), ?_⟩
    show AllSg D Φ (some (o + 1)) (pos + 1) ((toks3 a ++ T3.sg g :: (toks3 b ++ [T3.cl])) ++ rest)
    rw [List.append_assoc]
    refine all_tree hΦ a (o + 1) (pos + 1) _ (by omega) ?_
    refine ⟨fun _ => hΦ _ (by omega) _, ?_⟩
    show AllSg D Φ (some (o + 1)) (pos + 1 + (D.txt (toks3 a)).length + 1) ((toks3 b ++ [T3.cl]) ++ rest)
    rw [List.append_assoc]
    refine all_tree hΦ b (o + 1) _ _ (by omega) ?_
    refine ⟨fun ⟨g, e⟩ => (by cases e), ?_⟩
    show AllSg D Φ (if o + 1 - 1 < 0 then none else some (o + 1 - 1)) (pos + 1 + (D.txt (toks3 a)).length + 1 + (D.txt (toks3 b)).length + 1) rest
    rw [if_neg (by omega), show o + 1 - 1 = o from by omega, show pos + 1 + (D.txt (toks3 a)).length + 1 + (D.txt (toks3 b)).length + 1 = pos + (1 + ((D.txt (toks3 a)).length + (1 + ((D.txt (toks3 b)).length + 1)))) from by omega]
    exact hr
theorem menu_chars1 : ∀ m ∈ ([[34, 41, 34], [34, 40, 34], [92, 41], [92, 40]] : List (List Nat)), ∀ c ∈ m, c = 34 ∨ c = 40 ∨ c = 41 ∨ c = 92 := by decide
theorem menu_chars2 : ∀ m ∈ ([[92, 40], [92, 92], [92, 41]] : List (List Nat)), ∀ c ∈ m, c = 34 ∨ c = 40 ∨ c = 41 ∨ c = 92 := by decide
theorem sign_at {D : Dress} (h : DressOk D) : ∀ (ts : List T3) (i c : Nat), (D.txt ts)[i]? = some c → (c = 60 ∨ c = 62) → ∃ U g V, ts = U ++ T3.sg g :: V ∧ i = (D.txt U).length
  | [], i, c, hc, _ => by simp [Dress.txt] at hc
  | t :: r, i, c, hc, h6 => by
    have hc' : (D.tx t ++ D.txt r)[i]? = some c := hc
    rcases Nat.lt_or_ge i (D.tx t).length with hlt | hge
    · rw [List.getElem?_append_left hlt] at hc'
      have hm := List.mem_of_getElem? hc'
      match t, hm, hlt with
      | .op, hm, _ => have := List.mem_singleton.mp hm; omega
      | .cl, hm, _ => have := List.mem_singleton.mp hm; omega
      | .sg g, _, hlt =>
        have h1 : i < 1 := hlt
        exact ⟨[], g, r, rfl, by show i = 0; omega⟩
      | .lf j, hm, _ =>
        exfalso
        have h0 : c ≠ 34 ∧ c ≠ 40 ∧ c ≠ 41 ∧ c ≠ 92 := by rcases h6 with e | e <;> rw [e] <;> decide
        have hno : ¬ (c = 34 ∨ c = 40 ∨ c = 41 ∨ c = 92) := fun q => q.elim h0.1 fun q => q.elim h0.2.1 fun q => q.elim h0.2.2.1 h0.2.2.2
        rcases List.mem_cons.mp hm with e | hm
        · have := h.pl j; omega
        rcases List.mem_append.mp hm with hm | hm
        · split at hm
          · exact hno (menu_chars1 _ h.m1 c hm)
          · cases hm
        · split at hm
          · exact hno (menu_chars2 _ h.m2 c hm)
          · cases hm
    · rw [List.getElem?_append_right hge] at hc'
      obtain ⟨U, g, V, e1, e2⟩ := sign_at h r _ c hc' h6
      refine ⟨t :: U, g, V, by rw [e1]; rfl, ?_⟩
      show i = (D.tx t ++ D.txt U).length
      rw [List.length_append]; omega
end Mine
end partZ2
/-! part Z3 -/
section partZ3
open PySem PySem.W PyProof.Rows PySem.Calls Builtin Builtin.Str
set_option Elab.async false
set_option linter.all false
set_option maxRecDepth 100000
namespace Mine
local macro_rules | `(tactic| omega) => `(tactic| lia)
theorem s_open : Str.ofString "(" = ofL [40] := by decide +kernel
theorem s_close : Str.ofString ")" = ofL [41] := by decide +kernel
theorem s_less : Str.ofString "<" = ofL [60] := by decide +kernel
theorem s_both : Str.ofString "<>" = ofL [60, 62] := by decide +kernel
theorem s_abc : Str.ofString "ABCDEFGHIJKLMNOP" = ofL [65, 66, 67, 68, 69, 70, 71, 72, 73, 74, 75, 76, 77, 78, 79, 80] := by decide +kernel
theorem beq_ofL (a b : List Nat) : (ofL a == ofL b) = decide (a = b) := by
  rw [Bool.eq_iff_iff, beq_iff_eq, decide_eq_true_eq]
  exact ⟨ofL_inj, fun h => by rw [h]⟩
theorem filter_one {pred : Nat → Bool} {k : Nat} : ∀ n, k < n → (∀ i, i < n → (pred i = true ↔ i = k)) → (List.range n).filter pred = [k]
  | n + 1, hk, h => by
    rw [List.range_succ, List.filter_append]
    by_cases e : k = n
    · subst e
      have h0 : (List.range k).filter pred = [] := List.filter_eq_nil_iff.mpr fun i hi q => by
        have hi' := List.mem_range.mp hi
        have := (h i (by omega)).mp q
        omega
      rw [h0, List.filter_cons, if_pos ((h k (by omega)).mpr rfl)]; rfl
    · rw [filter_one n (by omega) fun i hi => h i (by omega)]
      rw [List.filter_cons, if_neg (fun q => e ((h n (by omega)).mp q).symm)]; rfl
/-- the signs of a leaf's text -/
theorem lx_chars {D : Dress} (h : DressOk D) {i c : Nat} (hc : c ∈ D.lx i) : c = D.l.getD i 0 ∨ c = 34 ∨ c = 40 ∨ c = 41 ∨ c = 92 := by
  rcases List.mem_cons.mp hc with e | hc
  · exact .inl e
  rcases List.mem_append.mp hc with hc | hc
  · split at hc
    · exact .inr (menu_chars1 _ h.m1 c hc)
    · cases hc
  · split at hc
    · exact .inr (menu_chars2 _ h.m2 c hc)
    · cases hc
theorem txt_chars {D : Dress} (h : DressOk D) {ts : List T3} {c : Nat} (hc : c ∈ D.txt ts) : (∃ i, T3.lf i ∈ ts ∧ c = D.l.getD i 0) ∨ c = 34 ∨ c = 40 ∨ c = 41 ∨ c = 92 ∨ c = 60 ∨ c = 62 := by
  obtain ⟨t, ht, hc⟩ := List.mem_flatMap.mp hc
  cases t with
  | op => exact .inr (.inr (.inl (List.mem_singleton.mp hc)))
  | cl => exact .inr (.inr (.inr (.inl (List.mem_singleton.mp hc))))
  | sg g =>
    cases g
    · exact .inr (.inr (.inr (.inr (.inr (.inl (List.mem_singleton.mp hc))))))
    · exact .inr (.inr (.inr (.inr (.inr (.inr (List.mem_singleton.mp hc))))))
  | lf i =>
    rcases lx_chars h hc with e | e | e | e | e
    · exact .inl ⟨i, ht, e⟩
    · exact .inr (.inl e)
    · exact .inr (.inr (.inl e))
    · exact .inr (.inr (.inr (.inl e)))
    · exact .inr (.inr (.inr (.inr (.inl e))))
theorem str_ok {D : Dress} (h : DressOk D) (ts : List T3) : PyData.strOk (ofL (D.txt ts)) = true := by
  show (D.txt ts).toArray.all (fun x => decide (x < 1114112)) = true
  rw [List.all_toArray, List.all_eq_true]
  intro c hc
  have hh : c < 1114112 := by
    rcases txt_chars h hc with ⟨i, _, e⟩ | e
    · have := h.pl i; omega
    · omega
  simpa using hh
theorem letters_in {D : Dress} (h : DressOk D) {ts : List T3} {u : Str} (hu : u ∈ lettersB (ofL (D.txt ts))) : ∃ i, T3.lf i ∈ ts ∧ u = ofL [D.l.getD i 0] := by
  unfold lettersB at hu
  obtain ⟨hs, hf⟩ := List.mem_filter.mp hu
  rw [signs_ofL] at hs
  obtain ⟨c, hc, rfl⟩ := List.mem_map.mp hs
  have hf1 := StrLaws.found_one (ofL [65, 66, 67, 68, 69, 70, 71, 72, 73, 74, 75, 76, 77, 78, 79, 80]) c
  rw [s_abc] at hf
  have hf' : (!(occurrences (ofL [65, 66, 67, 68, 69, 70, 71, 72, 73, 74, 75, 76, 77, 78, 79, 80]) (⟨#[c]⟩ : Str) 0 (ofL [65, 66, 67, 68, 69, 70, 71, 72, 73, 74, 75, 76, 77, 78, 79, 80]).length 1).isEmpty) = true := hf
  rw [hf1] at hf'
  have hm : c ∈ [65, 66, 67, 68, 69, 70, 71, 72, 73, 74, 75, 76, 77, 78, 79, 80] := by simpa using hf'
  rcases txt_chars h hc with ⟨i, hi, e⟩ | e
  · exact ⟨i, hi, by rw [e]⟩
  · rcases e with e | e | e | e | e | e <;> rw [e] at hm <;> exact absurd hm (by decide)
/-- what is asked of a tree -/
structure MT (r : List Nat) (t : Tree) : Prop where
  nd : t.leaves.Nodup
  lt : ∀ i ∈ t.leaves, i < 5
  va : t.valid r = true
noncomputable def cntT : Tree → Nat
  | .leaf _ => 1
  | .node _ a b => cntT a + cntT b + 1
theorem mail_tree {D : Dress} (h : DressOk D) {r : List Nat} (ho : ∀ i j, i < 5 → j < 5 → (r.getD i 0 < r.getD j 0 ↔ D.l.getD i 0 < D.l.getD j 0)) (hl0 : ∀ i, i < 5 → 65 ≤ D.l.getD i 0) : ∀ t : Tree, MT r t → (D.txt (toks3 t)).length ≤ 40 → MailOk (cntT t) (ofL (D.txt (toks3 t)))
  | .leaf i, M, hlen => by
    have e : D.txt (toks3 (.leaf i)) = D.lx i := List.append_nil _
    have hpos : 0 < (D.lx i).length := Nat.succ_pos _
    refine .leaf ?_ ?_ (str_ok h _) ?_
    · rw [ofL_len, e]; exact hpos
    · rw [ofL_len]; exact hlen
    · rw [e, show (0 : Int) = ((0 : Nat) : Int) from rfl, item_ofL _ hpos, s_open, beq_ofL]
      have := hl0 i (M.lt i (List.mem_singleton.mpr rfl))
      refine decide_eq_false fun q => ?_
      have q1 : D.l.getD i 0 = 40 := (List.cons.inj q).1
      omega
  | .node g a b, M, hlen => by
    have hM : (a.leaves ++ b.leaves).Nodup := M.nd
    have va : a.valid r = true ∧ b.valid r = true ∧ (a.leaves.all fun i => b.leaves.all fun j => decide (r.getD i 0 < r.getD j 0) == !g) = true := by
      have := M.va
      unfold Tree.valid at this
      simp only [Bool.and_eq_true] at this
      exact ⟨this.1.1, this.1.2, this.2⟩
    have Ma : MT r a := ⟨(List.nodup_append.mp hM).1, fun i hi => M.lt i (List.mem_append_left _ hi), va.1⟩
    have Mb : MT r b := ⟨(List.nodup_append.mp hM).2.1, fun i hi => M.lt i (List.mem_append_right _ hi), va.2.1⟩
    have hbody : lfs (toks3 a ++ T3.sg g :: (toks3 b ++ [T3.cl])) = a.leaves ++ b.leaves := lfs_tree (.node g a b)
    generalize hA : D.txt (toks3 a) = A
    generalize hB : D.txt (toks3 b) = B
    have hx : D.txt (toks3 (.node g a b)) = 40 :: (A ++ (if g then 62 else 60) :: (B ++ [41])) := by
      show [40] ++ D.txt (toks3 a ++ T3.sg g :: (toks3 b ++ [T3.cl])) = _
      rw [txt_app, show D.txt (T3.sg g :: (toks3 b ++ [T3.cl])) = [if g then 62 else 60] ++ D.txt (toks3 b ++ [T3.cl]) from rfl, txt_app, hA, hB]
      rfl
    have hbt : D.txt (toks3 a ++ T3.sg g :: (toks3 b ++ [T3.cl])) = A ++ (if g then 62 else 60) :: (B ++ [41]) := by
      have : 40 :: D.txt (toks3 a ++ T3.sg g :: (toks3 b ++ [T3.cl])) = 40 :: (A ++ (if g then 62 else 60) :: (B ++ [41])) := hx
      exact (List.cons.inj this).2
    rw [hx] at hlen ⊢
    generalize hs : (if g then 62 else 60 : Nat) = s at hlen hbt
    have hxl : (40 :: (A ++ s :: (B ++ [41]))).length = A.length + B.length + 3 := by simp; omega
    rw [hxl] at hlen
    have e1 : Txt.slice (ofL (40 :: (A ++ s :: (B ++ [41])))) (some 1) (some ((1 + A.length : Nat) : Int)) = ofL A := by
      have := slice_ss (40 :: (A ++ s :: (B ++ [41]))) (a := 1) (b := 1 + A.length) (by omega) (by omega)
      refine this.trans ?_
      rw [List.drop_succ_cons, List.drop_zero, show 1 + A.length - 1 = A.length from by omega, List.take_left]
    have dp : (40 :: (A ++ s :: (B ++ [41]))).drop (1 + A.length + 1) = B ++ [41] := by
      rw [show 40 :: (A ++ s :: (B ++ [41])) = (40 :: (A ++ [s])) ++ (B ++ [41]) from by simp, show 1 + A.length + 1 = (40 :: (A ++ [s])).length from by simp; omega, List.drop_left]
    have e2 : Txt.slice (ofL (40 :: (A ++ s :: (B ++ [41])))) (some (((1 + A.length : Nat) : Int) + 1)) (some (-1)) = ofL B := by
      have := slice_in (40 :: (A ++ s :: (B ++ [41]))) (a := 1 + A.length + 1) (by omega)
      refine this.trans ?_
      rw [dp, hxl, show A.length + B.length + 3 - 1 - (1 + A.length + 1) = B.length from by omega, List.take_left]
    have e3 : Txt.slice (ofL (40 :: (A ++ s :: (B ++ [41])))) (some (((1 + A.length : Nat) : Int) + 1)) none = ofL (B ++ [41]) := by
      have := slice_from (40 :: (A ++ s :: (B ++ [41]))) (a := 1 + A.length + 1) (by omega)
      refine this.trans ?_
      rw [dp]
    have e4 : Txt.item (ofL (40 :: (A ++ s :: (B ++ [41])))) ((1 + A.length : Nat) : Int) = ofL [s] := by
      rw [item_ofL _ (by omega)]
      congr 1
      rw [List.getD_eq_getElem?_getD, show 1 + A.length = A.length + 1 from by omega, List.getElem?_cons_succ, List.getElem?_append_right (Nat.le_refl _), Nat.sub_self]
      rfl
    have cA : checkB (ofL A) = true := by
      rw [← hA, check_toks h (by rw [lfs_tree]; exact Ma.nd), fold_tree a 0 (Int.le_refl _)]; rfl
    have cB : checkB (ofL B) = true := by
      rw [← hB, check_toks h (by rw [lfs_tree]; exact Mb.nd), fold_tree b 0 (Int.le_refl _)]; rfl
    have cut : mailB (ofL (40 :: (A ++ s :: (B ++ [41])))) = [1 + A.length] := by
      unfold mailB
      rw [filter_one (k := A.length) _ (by rw [ofL_len, hxl]; omega)]
      · rfl
      intro i hi
      rw [ofL_len, hxl] at hi
      have hit : Txt.item (ofL (40 :: (A ++ s :: (B ++ [41])))) (1 + (i : Int)) = ofL [(A ++ s :: (B ++ [41])).getD i 0] := by
        rw [show (1 + (i : Int)) = ((i + 1 : Nat) : Int) from by omega, item_ofL _ (by omega)]
        rfl
      have hsl : Txt.slice (ofL (40 :: (A ++ s :: (B ++ [41])))) (some 1) (some (1 + (i : Int))) = ofL ((A ++ s :: (B ++ [41])).take i) := by
        have := slice_ss (40 :: (A ++ s :: (B ++ [41]))) (a := 1) (b := 1 + i) (by omega) (by omega)
        rw [show ((1 + i : Nat) : Int) = 1 + (i : Int) from by omega] at this
        refine this.trans ?_
        rw [List.drop_succ_cons, List.drop_zero, show 1 + i - 1 = i from by omega]
      have hil : i < (A ++ s :: (B ++ [41])).length := by simp; omega
      have hf1 := StrLaws.found_one (ofL [60, 62]) ((A ++ s :: (B ++ [41])).getD i 0)
      unfold mailAt
      rw [hit, hsl, s_both, Bool.and_eq_true, show ofL [(A ++ s :: (B ++ [41])).getD i 0] = (⟨#[(A ++ s :: (B ++ [41])).getD i 0]⟩ : Str) from rfl, hf1, decide_eq_true_eq, ofL_list]
      constructor
      · rintro ⟨h6, hck⟩
        have hg : D.txt (toks3 a ++ T3.sg g :: (toks3 b ++ [T3.cl])) = A ++ s :: (B ++ [41]) := hbt
        have hat : (D.txt (toks3 a ++ T3.sg g :: (toks3 b ++ [T3.cl])))[i]? = some ((A ++ s :: (B ++ [41])).getD i 0) := by
          rw [hg, List.getD_eq_getElem?_getD, List.getElem?_eq_getElem hil]; rfl
        obtain ⟨U, g', V, eU, ei⟩ := sign_at h _ i _ hat (by simpa using h6)
        have htk : (A ++ s :: (B ++ [41])).take i = D.txt U := by
          rw [← hg, eU, txt_app, ei, List.take_left]
        have hUn : (lfs U).Nodup := by
          have : (lfs (U ++ T3.sg g' :: V)).Nodup := by rw [← eU, hbody]; exact hM
          rw [lfs_app] at this
          exact (List.nodup_append.mp this).1
        rw [htk, check_toks h hUn, beq_iff_eq] at hck
        have hall : AllSg D (fun st pos => st = some 0 → pos = A.length) (some 0) 0 (toks3 a ++ T3.sg g :: (toks3 b ++ [T3.cl])) := by
          have hΦ : ∀ o : Int, 1 ≤ o → ∀ p : Nat, (some o : Option Int) = some 0 → p = A.length := fun o ho p e => by
            have := Option.some.inj e; omega
          refine all_tree hΦ a 0 0 _ (Int.le_refl _) ?_
          refine ⟨fun _ _ => by rw [hA]; omega, ?_⟩
          refine all_tree hΦ b 0 _ _ (Int.le_refl _) ?_
          exact ⟨fun ⟨g, e⟩ => (by cases e), trivial⟩
        rw [eU] at hall
        have := all_at U _ _ hall hck
        omega
      · rintro rfl
        refine ⟨?_, ?_⟩
        · rw [List.getD_eq_getElem?_getD, List.getElem?_append_right (Nat.le_refl _), Nat.sub_self]
          show s ∈ [60, 62]
          rw [← hs]; cases g <;> simp
        · rw [List.take_left]; exact cA
    refine .node (p := 1 + A.length) (a := cntT a) (b := cntT b) ?_ ?_ ?_ ?_ cut ?_ ?_ ?_ ?_ ?_
    · rw [ofL_len, hxl]; omega
    · rw [ofL_len, hxl]; exact hlen
    · have := str_ok h (toks3 (.node g a b)); rw [hx, hs] at this; exact this
    · rw [show (0 : Int) = ((0 : Nat) : Int) from rfl, item_ofL _ (by omega), s_open, beq_ofL]; rfl
    · rw [ofL_len, hxl]; omega
    · rw [e2]; exact cB
    · rw [e1, e3, e4]
      intro u hu v hv
      rw [← hA] at hu
      have hB' : B ++ [41] = D.txt (toks3 b ++ [T3.cl]) := by rw [txt_app, hB]; rfl
      rw [hB'] at hv
      obtain ⟨i, hi, rfl⟩ := letters_in h hu
      obtain ⟨j, hj, rfl⟩ := letters_in h hv
      have hi' : i ∈ a.leaves := by rw [← lfs_tree]; exact mem_lfs.mpr hi
      have hj' : j ∈ b.leaves := by
        rw [← lfs_tree]
        rcases List.mem_append.mp hj with q | q
        · exact mem_lfs.mpr q
        · cases List.mem_singleton.mp q
      have hv := List.all_eq_true.mp (List.all_eq_true.mp va.2.2 i hi') j hj'
      have hij := ho i j (Ma.lt i hi') (Mb.lt j hj')
      rw [s_less, beq_ofL]
      show decide ([D.l.getD i 0] < [D.l.getD j 0]) = _
      have hlt : ([D.l.getD i 0] < [D.l.getD j 0]) ↔ D.l.getD i 0 < D.l.getD j 0 := by simp [List.cons_lt_cons_iff]
      have hv2 := beq_iff_eq.mp hv
      have hr : r.getD i 0 < r.getD j 0 ↔ g = false := by
        by_cases q : r.getD i 0 < r.getD j 0
        · rw [decide_eq_true q] at hv2
          cases g
          · exact ⟨fun _ => rfl, fun _ => q⟩
          · cases hv2
        · rw [decide_eq_false q] at hv2
          cases g
          · cases hv2
          · exact ⟨fun h => absurd h q, fun h => by cases h⟩
      rw [Bool.eq_iff_iff, decide_eq_true_eq, decide_eq_true_eq, hlt, ← hij, hr, ← hs]
      cases g <;> simp
    · rw [e1, ← hA]; exact mail_tree h ho hl0 a Ma (by rw [hA]; omega)
    · rw [e2, ← hB]; exact mail_tree h ho hl0 b Mb (by rw [hB]; omega)
end Mine
end partZ3
/-! part Z4 -/
section partZ4
open PySem PySem.W PyProof.Rows PySem.Calls Builtin Builtin.Str
set_option Elab.async false
set_option linter.all false
set_option maxRecDepth 100000
namespace Mine
local macro_rules | `(tactic| omega) => `(tactic| lia)
/-! the first parts -/
theorem fits3 : ∀ (n : Nat) (ch : Int) (ps : List (Int × Int × Str)), szP ps + 2 * n ≤ 100000 → joinFits 3 n ch ps
  | 0, _, _, _ => trivial
  | n + 1, ch, ps, h => by
    show joinL ps = [] ∨ _
    have hsg : ∀ p q, (signP p q).length = 1 := fun p q => by unfold signP; split <;> decide
    refine .inr ⟨?_, fits3 n _ _ ?_⟩
    · intro p q hp hq
      have h1 := sz_mem (List.mem_of_getElem? hp)
      have h2 := sz_mem (List.mem_of_getElem? hq)
      exact ⟨by omega, by omega, fun hk => absurd rfl hk⟩
    · have key : szP (joinAt 3 ps (spotAt ch ps)) ≤ szP ps + 2 := by
        refine sz_join (Nat.le_add_right _ _) fun p q _ _ c hc => ?_
        have hx : szP [joinTwo 3 p q] = p.2.2.length + 1 + q.2.2.length + 3 := by
          show (wrapP 3 (p.2.2 ++ signP p q ++ q.2.2)).length + 1 + 0 = _
          unfold wrapP
          rw [if_pos rfl, Str.length_append, Str.length_append, Str.length_append, Str.length_append, hsg]
          have h1 : (Str.ofString "(").length = 1 := by decide
          have h2 : (Str.ofString ")").length = 1 := by decide
          rw [h1, h2]
          clear hc h hsg h1 h2
          omega
        rw [hx, hc]
        clear hc h hsg hx
        omega
      refine Nat.le_trans (Nat.add_le_add_right key _) ?_
      rw [Nat.add_assoc, Nat.add_comm 2, ← Nat.mul_succ]
      exact h
theorem addAt5 (a b c d e y : Str) {p : Nat} (hp : p < 5) : addAt [a, b, c, d, e] p y = [if 0 = p then a ++ y else a, if 1 = p then b ++ y else b, if 2 = p then c ++ y else c, if 3 = p then d ++ y else d, if 4 = p then e ++ y else e] := by
  match p, hp with
  | 0, _ | 1, _ | 2, _ | 3, _ | 4, _ => rfl
theorem menu1_ofL : menu1 = [ofL [34, 41, 34], ofL [34, 40, 34], ofL [92, 41], ofL [92, 40]] := by decide +kernel
theorem menu2_ofL : menu2 = [ofL [92, 40], ofL [92, 92], ofL [92, 41]] := by decide +kernel
theorem menu1_get {k : Nat} (h : k < 4) : ∃ m ∈ ([[34, 41, 34], [34, 40, 34], [92, 41], [92, 40]] : List (List Nat)), menu1.getD k ⟨#[]⟩ = ofL m := by
  rw [menu1_ofL]
  match k, h with
  | 0, _ => exact ⟨_, by simp, rfl⟩
  | 1, _ => exact ⟨_, by simp, rfl⟩
  | 2, _ => exact ⟨_, by simp, rfl⟩
  | 3, _ => exact ⟨_, by simp, rfl⟩
theorem menu2_get {k : Nat} (h : k < 3) : ∃ m ∈ ([[92, 40], [92, 92], [92, 41]] : List (List Nat)), menu2.getD k ⟨#[]⟩ = ofL m := by
  rw [menu2_ofL]
  match k, h with
  | 0, _ => exact ⟨_, by simp, rfl⟩
  | 1, _ => exact ⟨_, by simp, rfl⟩
  | 2, _ => exact ⟨_, by simp, rfl⟩
theorem fmod_lt {t : Int} {k : Int} (hk : 0 < k) : (t.fmod k).toNat < k.toNat := by
  have h0 : 0 ≤ t.fmod k := Int.fmod_nonneg_of_pos _ hk
  have h1 : t.fmod k < k := Int.fmod_lt_of_pos _ hk
  omega
theorem lx_eq (D : Dress) (i : Nat) : (if i = D.i2 then (if i = D.i1 then ofL [D.l.getD i 0] ++ ofL D.m1 else ofL [D.l.getD i 0]) ++ ofL D.m2 else (if i = D.i1 then ofL [D.l.getD i 0] ++ ofL D.m1 else ofL [D.l.getD i 0])) = ofL (D.lx i) := by
  unfold Dress.lx
  by_cases h1 : i = D.i1 <;> by_cases h2 : i = D.i2
  · rw [if_pos h2, if_pos h1, if_pos h1, if_pos h2, ofL_app, ofL_app]; rfl
  · rw [if_neg h2, if_pos h1, if_pos h1, if_neg h2, ofL_app, List.append_nil]; rfl
  · rw [if_pos h2, if_neg h1, if_neg h1, if_pos h2, ofL_app]; rfl
  · rw [if_neg h2, if_neg h1, if_neg h1, if_neg h2]; rfl
theorem dress_eq {fs : List Int} {l r : List Nat} (R : RowOk fs l r) (tot : Int) : ∃ D : Dress, D.l = l ∧ DressOk D ∧ D.i1 < 5 ∧ D.i2 < 5 ∧ dressB (signs (ofL l)) tot = [ofL (D.lx 0), ofL (D.lx 1), ofL (D.lx 2), ofL (D.lx 3), ofL (D.lx 4)] := by
  obtain ⟨m1, h1, e1⟩ := menu1_get (k := ((tot.fdiv 15).fmod 4).toNat) (fmod_lt (by decide))
  obtain ⟨m2, h2, e2⟩ := menu2_get (k := ((tot.fdiv 35).fmod 3).toNat) (fmod_lt (by decide))
  have l1 : ((tot.fdiv 3).fmod 5).toNat < 5 := fmod_lt (by decide)
  have l2 : ((tot.fdiv 7).fmod 5).toNat < 5 := fmod_lt (by decide)
  refine ⟨⟨l, ((tot.fdiv 3).fmod 5).toNat, ((tot.fdiv 7).fmod 5).toNat, m1, m2⟩, rfl, ⟨plain_of R.bd, h1, h2⟩, l1, l2, ?_⟩
  unfold dressB
  rw [e1, e2, signs_ofL]
  have hl := R.len
  generalize hD : (⟨l, ((tot.fdiv 3).fmod 5).toNat, ((tot.fdiv 7).fmod 5).toNat, m1, m2⟩ : Dress) = D
  have d1 : D.i1 = ((tot.fdiv 3).fmod 5).toNat := by rw [← hD]
  have d2 : D.i2 = ((tot.fdiv 7).fmod 5).toNat := by rw [← hD]
  have d3 : D.m1 = m1 := by rw [← hD]
  have d4 : D.m2 = m2 := by rw [← hD]
  have d5 : D.l = l := by rw [← hD]
  rw [← d1] at l1 ⊢
  rw [← d2] at l2 ⊢
  rw [← d3, ← d4]
  have hs : (l.map fun c => ofL [c]) = [ofL [D.l.getD 0 0], ofL [D.l.getD 1 0], ofL [D.l.getD 2 0], ofL [D.l.getD 3 0], ofL [D.l.getD 4 0]] := by
    rw [d5]
    match l, hl with
    | [a, b, c, d, e], _ => rfl
  rw [hs, addAt5 _ _ _ _ _ _ l1, addAt5 _ _ _ _ _ _ l2, lx_eq, lx_eq, lx_eq, lx_eq, lx_eq]
noncomputable def treeS (D : Dress) (t : Tree) : Str := ofL (D.txt (toks3 t))
theorem node3 (D : Dress) (g : Bool) (a b : Tree) : treeS D (.node g a b) = wrapP 3 (treeS D a ++ sgnS g ++ treeS D b) := by
  have hs : sgnS g = ofL [if g then 62 else 60] := by cases g <;> decide +kernel
  unfold wrapP treeS
  rw [if_pos rfl, hs, s_open, s_close, ofL_app, ofL_app, ofL_app, ofL_app]
  congr 1
  show [40] ++ D.txt (toks3 a ++ T3.sg g :: (toks3 b ++ [T3.cl])) = _
  rw [txt_app, show D.txt (T3.sg g :: (toks3 b ++ [T3.cl])) = [if g then 62 else 60] ++ D.txt (toks3 b ++ [T3.cl]) from rfl, txt_app]
  simp [Dress.txt, Dress.tx]
/-! lengths -/
theorem sum_zero : ∀ r : List Nat, (r.map fun _ => (0 : Nat)).sum = 0
  | [] => rfl
  | _ :: r => by rw [List.map_cons, List.sum_cons, sum_zero r]
theorem sum_one (c k : Nat) : ∀ L : List Nat, L.Nodup → (L.map fun i => if i = c then k else 0).sum ≤ k
  | [], _ => Nat.zero_le _
  | x :: r, h => by
    have hn := List.nodup_cons.mp h
    rw [List.map_cons, List.sum_cons]
    by_cases e : x = c
    · subst e
      have : (r.map fun i => if i = x then k else 0).sum = 0 := by
        have e0 : (r.map fun i => if i = x then k else 0) = r.map fun _ => 0 := List.map_congr_left fun i hi => if_neg (fun q => hn.1 (by rw [← q]; exact hi))
        rw [e0]; exact sum_zero r
      rw [if_pos rfl, this]; omega
    · rw [if_neg e]
      have := sum_one c k r hn.2
      omega
theorem lx_len {D : Dress} (h : DressOk D) (i : Nat) : (D.lx i).length ≤ 1 + (if i = D.i1 then 3 else 0) + (if i = D.i2 then 2 else 0) := by
  have a1 : D.m1.length ≤ 3 := by
    rcases m1_cases h with ⟨c, e⟩ | ⟨c, _, e⟩ <;> rw [e] <;> simp
  have a2 : D.m2.length = 2 := by obtain ⟨c, e⟩ := m2_len h; rw [e]; rfl
  unfold Dress.lx
  rw [List.length_cons, List.length_append]
  have b1 : (if i = D.i1 then D.m1 else []).length ≤ (if i = D.i1 then 3 else 0) := by
    split
    · exact a1
    · exact Nat.le_refl 0
  have b2 : (if i = D.i2 then D.m2 else []).length ≤ (if i = D.i2 then 2 else 0) := by
    split
    · omega
    · exact Nat.le_refl 0
  omega
theorem tree_len {D : Dress} (h : DressOk D) : ∀ t : Tree, (D.txt (toks3 t)).length ≤ 3 * t.nodes + t.leaves.length + (t.leaves.map fun i => if i = D.i1 then 3 else 0).sum + (t.leaves.map fun i => if i = D.i2 then 2 else 0).sum
  | .leaf i => by
    have := lx_len h i
    rw [show D.txt (toks3 (.leaf i)) = D.lx i from List.append_nil _]
    simp [Tree.nodes, Tree.leaves]; omega
  | .node g a b => by
    have ha := tree_len h a
    have hb := tree_len h b
    have hx : (D.txt (toks3 (.node g a b))).length = (D.txt (toks3 a)).length + (D.txt (toks3 b)).length + 3 := by
      show ([40] ++ D.txt (toks3 a ++ T3.sg g :: (toks3 b ++ [T3.cl]))).length = _
      rw [txt_app, show D.txt (T3.sg g :: (toks3 b ++ [T3.cl])) = [if g then 62 else 60] ++ D.txt (toks3 b ++ [T3.cl]) from rfl, txt_app]
      simp [Dress.txt, Dress.tx]; omega
    rw [hx]
    simp only [Tree.nodes, Tree.leaves, List.map_append, List.sum_append, List.length_append]
    omega
theorem leaves_nodes : ∀ t : Tree, t.leaves.length = t.nodes + 1 ∧ cntT t = 2 * t.nodes + 1
  | .leaf _ => ⟨rfl, rfl⟩
  | .node _ a b => by
    have ha := leaves_nodes a
    have hb := leaves_nodes b
    simp only [Tree.nodes, Tree.leaves, cntT, List.length_append]
    omega
theorem top_ok {D : Dress} (h : DressOk D) (hl0 : ∀ i, i < 5 → 65 ≤ D.l.getD i 0) {r : List Nat} {t : Tree} (M : MT r t) (hlen : (D.txt (toks3 t)).length ≤ 40) : TopOk (treeS D t) := by
  unfold treeS
  match t, M, hlen with
  | .leaf i, M, hlen =>
    have e : D.txt (toks3 (.leaf i)) = D.lx i := List.append_nil _
    have hpos : 0 < (D.lx i).length := Nat.succ_pos _
    refine ⟨by rw [ofL_len, e]; exact hpos, by rw [ofL_len]; exact hlen, fun q => ?_⟩
    rw [e, show (0 : Int) = ((0 : Nat) : Int) from rfl, item_ofL _ hpos, s_open] at q
    have q1 : D.l.getD i 0 = 40 := (List.cons.inj (ofL_inj q)).1
    have := hl0 i (M.lt i (List.mem_singleton.mpr rfl))
    omega
  | .node g a b, M, hlen =>
    have hb : lfs (toks3 a ++ T3.sg g :: (toks3 b ++ [T3.cl])) = a.leaves ++ b.leaves := lfs_tree (.node g a b)
    have e : D.txt (toks3 (.node g a b)) = 40 :: D.txt (toks3 a ++ T3.sg g :: (toks3 b ++ [T3.cl])) := rfl
    refine ⟨by rw [ofL_len, e]; exact Nat.succ_pos _, by rw [ofL_len]; exact hlen, fun _ => ?_⟩
    have es : Txt.slice (ofL (D.txt (toks3 (.node g a b)))) (some 1) none = ofL (D.txt (toks3 a ++ T3.sg g :: (toks3 b ++ [T3.cl]))) := by
      rw [e]
      exact slice_from (40 :: D.txt (toks3 a ++ T3.sg g :: (toks3 b ++ [T3.cl]))) (a := 1) (by simp)
    rw [es, s_open, ofL_app, show D.txt (toks3 a ++ T3.sg g :: (toks3 b ++ [T3.cl])) ++ [40] = D.txt ((toks3 a ++ T3.sg g :: (toks3 b ++ [T3.cl])) ++ [T3.op]) from by rw [txt_app D (toks3 a ++ T3.sg g :: (toks3 b ++ [T3.cl])) [T3.op]]; rfl]
    rw [check_toks h (by rw [lfs_app, hb]; simp [lfs]; exact M.nd), List.foldl_append, List.foldl_append, fold_tree a 0 (Int.le_refl _), List.foldl_cons]
    show (([T3.op] : List T3).foldl ck3 ((toks3 b ++ [T3.cl]).foldl ck3 (some 0)) == some 0) = false
    rw [List.foldl_append, fold_tree b 0 (Int.le_refl _)]
    rfl
theorem wait_more {P : Str → Prop} (hP : ∀ y, P y → ∃ k ≤ 9, MailOk k y) : ∀ (m l : List Str) (n : Nat), Wait n l → (∀ y ∈ m, P y) → ∃ n' ≤ n + 9 * m.length, Wait n' (l ++ m)
  | [], l, n, h, _ => ⟨n, by simp, by rw [List.append_nil]; exact h⟩
  | y :: m, l, n, h, hm => by
    obtain ⟨k, hk, hy⟩ := hP y (hm y List.mem_cons_self)
    obtain ⟨n', h1, h2⟩ := wait_more hP m (l ++ [y]) (n + k) (.snoc h hy) fun z hz => hm z (List.mem_cons_of_mem _ hz)
    refine ⟨n', by rw [List.length_cons]; omega, ?_⟩
    rw [List.append_assoc] at h2
    exact h2
theorem parts_mt {r : List Nat} : ∀ (ps : List PT) (a : Nat), partsOk r a ps = true → ∀ q ∈ ps, MT r q.2.2 ∧ q.2.2.nodes ≤ 4
  | [], _, _, q, hq => by simp at hq
  | p :: ps, a, h, q, hq => by
    have h2 := (Bool.and_eq_true _ _ ▸ h : treeOk r a p = true ∧ partsOk r (a + (p.2.1 + 1 - p.1)) ps = true)
    have hle := parts_le ps _ h2.2
    rcases List.mem_cons.mp hq with rfl | hq
    · have ht := h2.1
      unfold treeOk at ht
      simp only [Bool.and_eq_true, decide_eq_true_eq, beq_iff_eq] at ht
      obtain ⟨⟨⟨⟨⟨_, _⟩, hlv⟩, hva⟩, hno⟩, _⟩ := ht
      refine ⟨⟨by rw [hlv]; exact List.nodup_range' , fun i hi => ?_, hva⟩, hno⟩
      rw [hlv] at hi
      have := List.mem_range'_1.mp hi
      omega
    · exact parts_mt ps _ h2.2 q hq
theorem part1_law {fs : List Int} {l r : List Nat} (R : RowOk fs l r) (tot : Int) :
    joinFits 3 5 tot (startV (rksOf fs) (dressB (signs (rowS fs)) tot)) ∧ (partsOf fs tot).length ≤ 5 ∧ (decide ((partsOf fs tot).length > 1) = patB r) ∧ (∀ v ∈ partsOf fs tot, TopOk v.2.2) ∧ ∃ n, n ≤ 1000 ∧ Wait n ((partsOf fs tot).map (·.2.2)) := by
  obtain ⟨D, hDl, hD, _, _, hdr⟩ := dress_eq R tot
  have hrow : rowS fs = ofL l := by rw [← R.row]; rfl
  have hl0 : ∀ i, i < 5 → 65 ≤ D.l.getD i 0 := fun i hi => by rw [hDl]; exact (R.at' hi).1
  have ho : ∀ i j, i < 5 → j < 5 → (r.getD i 0 < r.getD j 0 ↔ D.l.getD i 0 < D.l.getD j 0) := fun i j hi hj => by rw [hDl]; exact R.ord i j hi hj
  have hlf : ∀ i, treeS D (.leaf i) = ofL (D.lx i) := fun i => congrArg ofL (List.append_nil _)
  have hst : startV (rksOf fs) (dressB (signs (rowS fs)) tot) = (startT r).map (val (treeS D)) := by
    rw [R.rks]
    refine start_val R.rlen _ ?_
    rw [hrow, hdr, hlf, hlf, hlf, hlf, hlf]
  have hlx : ∀ i, (D.lx i).length ≤ 6 := fun i => by
    have := lx_len hD i
    have a1 : (if i = D.i1 then 3 else 0 : Nat) ≤ 3 := by split <;> omega
    have a2 : (if i = D.i2 then 2 else 0 : Nat) ≤ 2 := by split <;> omega
    omega
  obtain ⟨ps', hps, e⟩ := joinAll_reach (kind := 3) (f := treeS D) (fun g a b => node3 D g a b) 5 tot (startT r)
  have e' : partsOf fs tot = ps'.map (val (treeS D)) := by unfold partsOf; rw [hst, e]
  have g := List.all_eq_true.mp R.good ps' hps
  simp only [Bool.and_eq_true, decide_eq_true_eq, beq_iff_eq] at g
  have hm := parts_mt ps' 0 g.1.1
  have hlen : ∀ q ∈ ps', (D.txt (toks3 q.2.2)).length ≤ 40 := fun q hq => by
    have h1 := tree_len hD q.2.2
    have h2 := leaves_nodes q.2.2
    have h3 := sum_one D.i1 3 _ (hm q hq).1.nd
    have h4 := sum_one D.i2 2 _ (hm q hq).1.nd
    have := (hm q hq).2
    omega
  refine ⟨?_, ?_, ?_, ?_, ?_⟩
  · rw [hst]
    refine fits3 5 tot _ ?_
    have : szP ((startT r).map (val (treeS D))) ≤ 35 := by
      have hr := R.rlen
      have q0 := hlx 0; have q1 := hlx 1; have q2 := hlx 2; have q3 := hlx 3; have q4 := hlx 4
      match r, hr with
      | [a, b, c, d, e], _ =>
        show (treeS D (.leaf 0)).length + 1 + ((treeS D (.leaf 1)).length + 1 + ((treeS D (.leaf 2)).length + 1 + ((treeS D (.leaf 3)).length + 1 + ((treeS D (.leaf 4)).length + 1 + 0)))) ≤ 35
        rw [hlf, hlf, hlf, hlf, hlf, ofL_len, ofL_len, ofL_len, ofL_len, ofL_len]
        omega
    omega
  · rw [e', List.length_map]; exact g.2
  · rw [e', List.length_map]; exact g.1.2
  · rw [e']
    intro v hv
    obtain ⟨q, hq, rfl⟩ := List.mem_map.mp hv
    exact top_ok hD hl0 (hm q hq).1 (hlen q hq)
  · obtain ⟨n, hn, hw⟩ := wait_more (P := fun y => ∃ k ≤ 9, MailOk k y) (fun _ h => h) ((partsOf fs tot).map (·.2.2)) [] 0 .nil (by
      rw [e', List.map_map]
      intro y hy
      obtain ⟨q, hq, rfl⟩ := List.mem_map.mp hy
      have := leaves_nodes q.2.2
      have := (hm q hq).2
      exact ⟨cntT q.2.2, by omega, mail_tree hD ho hl0 q.2.2 (hm q hq).1 (hlen q hq)⟩)
    refine ⟨n, ?_, hw⟩
    rw [List.length_map, e', List.length_map] at hn
    have := g.2
    omega
theorem plain_all : ∀ fs tot, FigOk fs → 0 ≤ tot → tot < 10 ^ 6 → PlainOk fs tot := by
  intro fs tot hf _ _
  obtain ⟨r, R⟩ := row_ok hf
  have hrow : rowS fs = ofL (rowL fs) := rfl
  obtain ⟨f1, f2, f3, f4, f5⟩ := part1_law R tot
  obtain ⟨g1, g2, g3⟩ := part2_law R tot
  have hb : ∀ c ∈ rowL fs, 65 ≤ c := fun c hc => (R.bd c hc).1
  refine ⟨hex_law hf, f1, f2, fun ys hp hs => ?_, fun i hi => ?_, fun sp hs => ?_, f4, f5, g1, g2, g3⟩
  · rw [f3]
    rw [hrow] at hp ⊢
    exact found_law R hp hs
  · rw [hrow]; exact spot_law R.len R.nd hb i hi
  · rw [hrow]; exact ends_law R.len R.nd hb sp hs
end Mine
end partZ4
/-! part B2 -/
section partB2
open PySem PySem.W PyProof.Rows PySem.Calls Builtin Builtin.Str
set_option Elab.async false
set_option maxRecDepth 100000
set_option linter.all false
noncomputable section
namespace Mine
local macro_rules | `(tactic| omega) => `(tactic| lia)
theorem fillB2 : PySem.Challenge.rw_wr0027_01.prog = PySem.Challenge.rw_wr0027_01.prog ∧ hd.heap_1 = hd.heap_1 := by
  k_fill
  exact ⟨rfl, rfl⟩
set_option maxHeartbeats 8000000 in
theorem law_spec (plain : ∀ fs tot, FigOk fs → 0 ≤ tot → tot < 10 ^ 6 → PlainOk fs tot) : ∀ {w : World} {mean : ExcName → Option Value} {mg mb : Str → Option Value} (R : Addr) (vs : List Value) (ns : List Int) (s₀ : Shared)
   (KX : (hd.heap_1 w.params).In s₀.heap) (T : Tp mean mg mb s₀.heap) (hl : s₀.heap.IsList R vs.toArray) (hi : IntsAre vs ns) (hlen : ns.length ≤ 63),
   Spec w 16 120 [.ref R] s₀ (fun v _ => v = .bool true) := by
  intro w mean mg mb R vs ns s₀ KX T hl hi hlen
  refine' spec_ofC (binds := [(Str.ofString "script", .ref R)]) KX T ?ho ?hcd ?hb ?hl ?hn ?c1 ?c2 ?c3 ?_
  case ho => k_is
  case hcd => k_is
  case hb => rfl
  case hl => intro n; simp [cellsFrom]
  case hn => decide
  case c1 => exact rfl
  case c2 => exact rfl
  case c3 => exact rfl
  intro dp un fr gd L h₁ tk cells hdp hun F N Y
  obtain ⟨o1, hcells, ho1⟩ : ∃ o1 : Obj, cells = [(L + 1, o1)] ∧ o1.data = .cell none := by
    cases Y with
    | cons hd1 Y1 => cases Y1 with
      | nil => exact ⟨_, rfl, hd1⟩
  subst hcells
  exact law_body plain KX T hdp hun hl hi hlen F ⟨rfl, trivial⟩ N ho1 ((Cal.refl s₀).heap _ _)
theorem post_true (args : List WData) : Challenge.rw_wr0027_01.row.claim.post args (WData.bool true) args = true := by
  show (WShape.has [] (WData.bool true) .bool && WTm.holds [] (.eq .res (.lit (.bool true))) { args := args, res := some (WData.bool true), after := args }) = true
  rw [Bool.and_eq_true]
  constructor
  · simp [WShape.has, WShape.arms]
  · unfold WTm.holds
    rw [w_eq_bool (k := true) (l := true) (by simp [WTm.value]) (by simp [WTm.value])]
    rfl
set_option maxHeartbeats 8000000 in
theorem fin0 (plain : ∀ fs tot, Mine.FigOk fs → 0 ≤ tot → tot < 10 ^ 6 → Mine.PlainOk fs tot) : PySem.Challenge.rw_wr0027_01.Holds := hd (by
  intro w s₀ s₁ mg mb G Y fa o pm cd doc dV kV ho hd' hcd hD hmg hg args vals as hpre hlay hrd hwl hlo
  have KX := kIn_of Y
  refine Ground.open G ?_
  intro T B D TE TW
  have hfa : mg (Str.ofString "law") = some (.ref 120) := mg_of KX T.g (by k_is)
  have hfa' : mg (Str.ofString "law") = some (.ref fa) := hmg
  have e120 : fa = 120 := by rw [hfa] at hfa'; exact (Value.ref.inj (Option.some.inj hfa')).symm
  subst e120
  clear ho hd' hcd hD hmg hfa hfa' Y B D TE TW
  wrow_args hpre hlay hrd hwl hlo
  rename_i ns _ _ _ _ _ _ _ R vs _ hL _ _ _ hI _ hc _
  have hlen : ns.length ≤ 63 := by omega
  refine Mine.law_spec plain R vs ns s₁ KX T hL hI hlen (1 + claimMargin) 4 (some []) (some []) _ _ (by decide) (by decide) ?_
  rintro v s' X rfl
  refine ⟨.inl ⟨.bool true, .bool true, [], rfl, fun _ => rfl, .bool true, Mine.post_true _, fun _ => ⟨List.nodup_nil, by simp⟩⟩, .of_keep X.heap, X.cal.os, X.cal.bare (.of_eq hg)⟩)
end Mine
end
end partB2
theorem PySem.Challenge.cw_wr0027_01_holds : PySem.Challenge.rw_wr0027_01.Holds :=
  Mine.fin0 Mine.plain_all
