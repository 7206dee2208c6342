import PyProof.Rows.All
import Wide.All
import OpenK.AllK
import Wide.FinOn
import KE.KBytesWalk
import PyProof.DictWalks
import PySem.Challenge.RW_nb0215_01

set_option Elab.async false
set_option maxRecDepth 100000
set_option maxHeartbeats 8000000

section
open PySem PySem.W PyProof.Rows
namespace Mine
abbrev loose : List PySem.Str := [Str.ofString "tspecials", Str.ofString "_name_disallowed_re", Str.ofString "_value_disallowed_re",
      Str.ofString "_formatparam", Str.ofString "b2a_base64", Str.ofString "_NO_SEP", Str.ofString "b2a_hex",
      Str.ofString "hexlify", Str.ofString "b64encode"]
/-- the statements of the top that the head reads -/
noncomputable def vw : PySem.Program := { PySem.Challenge.pw_nb0215_01 with main := { PySem.Challenge.pw_nb0215_01.main with body := [0, 1, 3, 4, 5, 7, 9, 10, 11, 13, 15, 18, 20, 21, 22, 23, 24, 25, 26, 27].filterMap fun i => PySem.Challenge.pw_nb0215_01.main.body[i]? } }
/-- the top's run over a tree of objects -/
noncomputable def topT (p : PySem.Program) (w : World) (n₀ : Nat) (ann : Option Value) : Nat → SharedT → Thread → Option SharedT
  | 0, _, _ => none
  | n + 1, s, t => match through t with
    | true => some s
    | false => match stepOk n₀ ann t with
      | false => none
      | true => match stepT (denote treeTable) p w s t with
        | some (s', t') => topT p w n₀ ann n s' t'
        | none => none
theorem topT_spec {p : PySem.Program} {w : World} {n₀ : Nat} {ann : Option Value} : ∀ {n : Nat} {s s' : SharedT} {t : Thread}, topT p w n₀ ann n s t = some s' → topRun treeTable p w n₀ ann n s.abs t = some s'.abs
  | 0, _, _, _, h => nomatch h
  | n + 1, s, s', t, h => by
    unfold topT at h
    unfold topRun
    cases ht : through t with
    | true => rw [ht] at h; cases h; rfl
    | false =>
      rw [ht] at h
      cases hk : stepOk n₀ ann t with
      | false => rw [hk] at h; cases h
      | true =>
        rw [hk] at h
        cases hs : stepT (denote treeTable) p w s t with
        | none => rw [hs] at h; cases h
        | some r => obtain ⟨s₂, t₂⟩ := r; rw [hs] at h; dsimp only; rw [stepT_spec hs]; exact topT_spec h
/-- the imports' run over a tree of objects -/
noncomputable def impT (p : PySem.Program) (w : World) : Nat → SharedT → Thread → Option SharedT
  | 0, _, _ => none
  | n + 1, s, t => match t.atExitBegin with
    | some [] => some s
    | some (_ :: _) => none
    | none => match stepT (denote treeTable) p w s t with
      | some (s', t') => impT p w n s' t'
      | none => none
theorem impT_spec {p : PySem.Program} {w : World} : ∀ {n : Nat} {s s' : SharedT} {t : Thread}, impT p w n s t = some s' → importEnds treeTable p w n s.abs t = some s'.abs
  | 0, _, _, _, h => nomatch h
  | n + 1, s, s', t, h => by
    unfold impT at h
    unfold importEnds
    cases ht : t.atExitBegin with
    | some l => cases l with
      | nil => rw [ht] at h; cases h; rfl
      | cons a l => rw [ht] at h; cases h
    | none =>
      rw [ht] at h
      cases hs : stepT (denote treeTable) p w s t with
      | none => rw [hs] at h; cases h
      | some r => obtain ⟨s₂, t₂⟩ := r; rw [hs] at h; dsimp only; rw [stepT_spec hs]; exact impT_spec h
/-- a list of objects as a tree -/
noncomputable def fillT : List Obj → BT → Nat → Option BT
  | [], t, _ => some t
  | o :: l, t, n => match ((t.ins n o).get n).isSome with
    | true => fillT l (t.ins n o) (n + 1)
    | false => none
theorem fillT_spec (life : Life) : ∀ {l : List Obj} {t t' : BT} {n : Nat}, fillT l t n = some t' → absHeap t' (n + l.length) life = ⟨(absHeap t n life).objs ++ l.toArray, life⟩
  | [], t, t', n, h => by cases h; simp [absHeap]
  | o :: l, t, t', n, h => by
    unfold fillT at h
    cases hg : ((t.ins n o).get n).isSome with
    | false => rw [hg] at h; cases h
    | true =>
      rw [hg] at h
      have e := fillT_spec life (n := n + 1) h
      rw [absHeap_ins hg] at e
      rw [show n + (o :: l).length = n + 1 + l.length by simp only [List.length_cons]; omega, e]
      show Heap.mk _ _ = Heap.mk _ _
      exact congrArg (Heap.mk · life) (by simp [Heap.push])
noncomputable def asT (s : Shared) : Option SharedT := (fillT s.heap.objs.toList .nil 0).map fun t => ⟨t, s.heap.objs.size, s.heap.life, s.gens, s.drawn, s.toks, s.os⟩
theorem asT_spec {s : Shared} {a : SharedT} (h : asT s = some a) : a.abs = s := by
  obtain ⟨t, ht, rfl⟩ := Option.map_eq_some_iff.mp h
  have e := fillT_spec s.heap.life ht
  obtain ⟨⟨⟨l⟩, life⟩, gens, drawn, toks, os⟩ := s
  show Shared.mk _ _ _ _ _ = _
  have e' : absHeap t l.length life = ⟨⟨l⟩, life⟩ := by
    have z : (absHeap BT.nil 0 life).objs = #[] := rfl
    rw [Nat.zero_add, z, Array.empty_append] at e
    exact e
  exact congrArg (Shared.mk · gens drawn toks os) e'
/-- the whole top, run over trees -/
noncomputable def endsT (p : PySem.Program) (w : World) (N : Nat) : Option Shared :=
  (asT (start (opening p)).1).bind fun a => (impT (opening p) w N a (start (opening p)).2).bind fun b => (fenceModules? p b.abs).bind fun s₀ =>
    match s₀.heap.isNs mainGlobals && s₀.gens.size == 0 with
    | true => (asT s₀).bind fun c => (topT p w s₀.heap.objs.size (s₀.heap.nsMap mainGlobals "__annotations__") N c (topStub p)).bind fun d =>
      match staticsOk (importedModules p.main.body) s₀.heap d.abs.heap && namesBound p d.abs.heap && gensDone d.abs && laidKept s₀.heap d.abs.heap with
      | true => some d.abs
      | false => none
    | false => none
theorem endsT_spec {p : PySem.Program} {w : World} {N : Nat} {s : Shared} (h : endsT p w N = some s) : openEnds treeTable p w N = some s := by
  unfold endsT at h
  obtain ⟨a, ha, h⟩ := Option.bind_eq_some_iff.mp h
  obtain ⟨b, hb, h⟩ := Option.bind_eq_some_iff.mp h
  obtain ⟨s₀, h0, h⟩ := Option.bind_eq_some_iff.mp h
  have hb' := impT_spec hb
  rw [asT_spec ha] at hb'
  unfold openEnds fencedOpening
  rw [hb']
  show (fenceModules? p b.abs).bind _ = _
  rw [h0]
  show topFrom treeTable p w N s₀ = _
  unfold topFrom
  cases hn : s₀.heap.isNs mainGlobals && s₀.gens.size == 0 with
  | false => rw [hn] at h; cases h
  | true =>
    rw [hn] at h
    obtain ⟨c, hc, h⟩ := Option.bind_eq_some_iff.mp h
    obtain ⟨d, hd, h⟩ := Option.bind_eq_some_iff.mp h
    have hd' := topT_spec hd
    rw [asT_spec hc] at hd'
    dsimp only
    rw [hd']
    exact h
theorem left_T {p q : PySem.Program} {loose : List PySem.Str} {Xt : Shared → Bool} {α : Type} {Yf : Shared → α} {Ya : World → α} {N : Nat} {g0 : Bool}
    (h : ∀ w, (endsT p w N).map (fun s => (openSeen q loose (importedModules p.main.body) Xt g0 s, Yf s)) = some (openGood q loose, Ya w)) : LeftO p q loose Xt Yf Ya N g0 := fun w => by
  obtain ⟨s, hs, e⟩ := Option.map_eq_some_iff.mp (h w)
  rw [endsT_spec hs]
  exact congrArg some e
set_option hygiene false in
local macro_rules | `(tactic| o_head $H) => `(tactic| (
  refine holds_open (q := Mine.vw) (loose := Mine.loose) (Xt := fun s => xlAt Mine.vw [] s && recOk (RowW.records (OpenRow.toRowW PySem.Challenge.rw_nb0215_01.row)) s) (XP := XL Mine.vw []) (Yf := Hook.obs $H) (Ya := Hook.val $H) (YP := Hook.says $H) (N := 3170) ?hl (Hook.of $H) (Hook.keeps $H) (fun s e => xl_of s (Bool.and_eq_true_iff.mp e).1) XL.keeps (by rfl) (by rfl) (by rfl) (fun s e => recFacts_of (Bool.and_eq_true_iff.mp e).2) (by rfl) (by first | assumption | decide +kernel) (by decide +kernel) ⟨rfl, rfl, rfl, rfl, rfl, by decide +kernel⟩ ?hw ?hc;
  (case hl => (refine left_T ?_; intro w; kernel_rfl))))
open_top hd for PySem.Challenge.rw_nb0215_01
end Mine
end

section
open PySem PySem.W PyProof.Rows PySem.Calls
namespace Mine

/-- what stands in every heap of the run: the written part, and the top -/
structure Gd (w : World) (h : Heap) : Prop where
  k : (Mine.hd.heap_39 w.params).In h
  t : ∃ mg mb, TopRead Mine.vw (looseW Mine.vw loose) mg mb h

theorem Gd.keeps {w : World} {h h' : Heap} (G : Gd w h) (hk : ∀ b o, h.get? b = some o → h'.get? b = some o) : Gd w h' :=
  ⟨G.k.keeps hk, by obtain ⟨mg, mb, T⟩ := G.t; exact ⟨mg, mb, T.keeps hk⟩⟩

/-- room: nothing is handled, depth and units are far from their lines -/
structure Rm (n : Nat) (A : Around) : Prop where
  h : A.handled = none
  d : A.depth + n < 1000
  u : A.units + 10 * n < 9900

theorem Rm.deep {n : Nat} {A : Around} {env : Env} (R : Rm (n + 1) A) : Rm n (A.deeper env) :=
  ⟨R.h, by have := R.d; show A.depth + 1 + n < 1000; omega, by have := R.u; show A.units + 3 + 10 * n < 9900; omega⟩
theorem Rm.in1 {n : Nat} {A : Around} (R : Rm (n + 1) A) : Rm n A.in1 :=
  ⟨R.h, by have := R.d; show A.depth + n < 1000; omega, by have := R.u; show A.units + 1 + 10 * n < 9900; omega⟩
theorem Rm.le {m n : Nat} {A : Around} (R : Rm n A) (h : m ≤ n) : Rm m A := ⟨R.h, by have := R.d; omega, by have := R.u; omega⟩
theorem Rm.room {n : Nat} {A : Around} (R : Rm n A) : A.depth < recursionLimit := by have := R.d; show A.depth < 1000; omega
theorem Rm.units {n : Nat} {A : Around} (R : Rm n A) : A.units < cLine := by have := R.u; show A.units < 9900; omega

abbrev No : Value → Shared → Prop := fun _ _ => False

theorem Keeps.refl (s : Shared) : Keeps s s := ⟨s.heap, s.toks, rfl, fun _ _ e => e⟩
theorem Keeps.trans {s s' s'' : Shared} (a : Keeps s s') (b : Keeps s' s'') : Keeps s s'' := by
  obtain ⟨h, t, rfl, k⟩ := a
  obtain ⟨h', t', rfl, k'⟩ := b
  exact ⟨h', t', rfl, fun b o e => k' b o (k b o e)⟩

section
variable {prog : Program} {w : World} {A : Around} {E : Value → Shared → Prop} {s : Shared}

theorem noE {α : Type} {M : Model} {t : Sem α} {Q : α → Shared → Prop} (h : wpAny M A t Q No s) : wpAny M A t Q E s :=
  wpAny_mono h (fun _ _ q => q) fun _ _ f => f.elim

theorem enter {Q : Value → Shared → Prop} {name qual : Str} {params : Arguments} {body : List Stmt} {scope : Scope} {dV kV doc pm cdv ct oc : Value} {an od : Option Addr} {osl : Array (Option Value)} {f : Addr} {pos : List Value} {kw : List (Str × Value)} {n : Nat} (binds : List (Str × Value))
    (G : Gd w s.heap) (R : Rm (n + 1) A)
    (ho : (Mine.hd.heap_39 w.params).lookup f = some ⟨oc, od, .func (fnOf name qual params body scope dV kV doc pm an cdv ct), osl⟩) (hcd : codeIn (Mine.hd.heap_39 w.params) cdv qual = true)
    (hbind : BindsTo s (fnOf name qual params body scope dV kV doc pm an cdv ct) ⟨pos, kw⟩ binds) (hloc : ∀ y ∈ binds, scope.names.lookup y.1 = some .local)
    (hcell : ∀ x ∈ scope.names, x.2 ≠ .cell) (hco : scope.isCoroutine = false) (hgen : scope.isGenerator = false) (hk : scope.kind = .function)
    (h : ∀ L h₁ tk A', Rm n A' → Fr s.heap L h₁ (fun y => binds.reverse.lookup y) →
      wpAny (model prog w) A' (execs body (envX qual scope L f cdv []))
        (fun fl s' => Q (match fl with | .ret v => v | _ => .none) s') No
        { s with heap := h₁, toks := tk }) :
    wpAny (model prog w) A (call (.ref f) pos kw) Q E s := by
  obtain ⟨mg, mb, T⟩ := G.t
  refine wpAny_call ?_
  refine codeAny_call_def (fd := fnOf name qual params body scope dV kV doc pm an cdv ct) (body := body) (binds := binds) R.room (G.k _ _ ho) rfl T.nolimit (codeRec_of G.k hcd) rfl hbind hcell hloc (fun h₁ hns hk₁ => ?_) hco hgen hk
  exact wpAny_mono (h s.heap.objs.size h₁ _ _ R.deep ⟨hns, hk₁, Nat.le_refl _⟩) (fun _ _ q => q) fun _ _ q => q.elim

/-- a loop's turns, by an invariant over the turn's number -/
noncomputable def LoopOk (prog : Program) (w : World) (A : Around) (env : Env) (target : Expr) (body : List Stmt) (Q : Flow → Shared → Prop) (it : Value) (s₂ : Shared) : Prop :=
    ∃ (Inv : Nat → Shared → Prop) (n : Nat), Inv 0 s₂ ∧
      (∀ i s, i < n → Inv i s → wpAny (model prog w) A (pyNext it) (fun r s₁ => ∃ v, r = some v ∧ wpAny (model prog w) A (letOwnedTupleGo target it v) (fun _ s₁' => wpAny (model prog w) A (assign target env v) (fun _ s₂ =>
         wpAny (model prog w) A (execs body env) (fun fl s₃ => match fl with | .next | .cont => Inv (i + 1) s₃ | .brk => Q .next s₃ | .ret v => Q (.ret v) s₃) No s₂) No s₁') No s₁) No s) ∧
      (∀ s, Inv n s → wpAny (model prog w) A (pyNext it) (fun r s₁ => r = none ∧ Q .next s₁) No s)

theorem for_rule {env : Env} {target iter : Expr} {body : List Stmt} {pos : Pos} {Q : Flow → Shared → Prop}
    (h : wpAny (model prog w) A (eval iter env) (fun x s₁ => wpAny (model prog w) A (pyIter x) (LoopOk prog w A env target body Q) No s₁) No s)
    (hs : ∀ x, foldedSetIterable iter env x = pure x := by intro _; rfl) :
    wpAny (model prog w) A (exec (.For target iter body [] pos) env) Q E s := by
  refine wpAny_For (wpAny_mono h (fun x s₁ h₁ => wpAny_mono h₁ (fun it s₂ h₂ => ?_) fun _ _ f => f.elim) fun _ _ f => f.elim) hs
  obtain ⟨Inv, n, h0, turn, done⟩ := h₂
  refine codeAny_forLoop_any (fun k s => ∃ i, i ≤ n ∧ k = n + 1 - i ∧ Inv i s) ?_ (n + 1) ⟨0, Nat.zero_le _, rfl, h0⟩
  rintro k s ⟨i, hi, rfl, hI⟩
  by_cases hlt : i < n
  · refine wpAny_mono (turn i s hlt hI) (fun r s₁ hr => ?_) fun _ _ f => f.elim
    obtain ⟨v, rfl, hv⟩ := hr
    refine wpAny_mono hv (fun _ s₁' h' => wpAny_mono h' (fun _ s₂ h'' => wpAny_mono h'' (fun fl s₃ h₃ => ?_) fun _ _ f => f.elim) fun _ _ f => f.elim) fun _ _ f => f.elim
    cases fl with
    | next => exact ⟨n + 1 - (i + 1), by omega, i + 1, hlt, rfl, h₃⟩
    | cont => exact ⟨n + 1 - (i + 1), by omega, i + 1, hlt, rfl, h₃⟩
    | brk => exact h₃
    | ret v => exact h₃
  · have : i = n := by omega
    subst this
    refine wpAny_mono (done s hI) (fun r s₁ hr => ?_) fun _ _ f => f.elim
    obtain ⟨rfl, hq⟩ := hr
    exact wpAny_execs_nil hq

abbrev testsOf (env : Env) (ifs : List Expr) : Sem Bool :=
  forIn ifs true fun c r => if r = true then do let ok ← isTrue c env (eval c env); pure (ForInStep.yield ok) else pure (ForInStep.yield r)

/-- a comprehension over a list, its items handed to a relation that no heap turns -/
theorem lc_list {env : Env} {elt iter : Expr} {x : Str} {px : Pos} {ifs : List Expr} {scope : Scope} {cl : List (Str × Addr)} {pos : Pos} {Q : Value → Shared → Prop} (p : Value → Bool) (F : Value → Value → Prop)
    (hclos : closureFor scope env = pure cl) (hcell : ∀ y ∈ scope.names, y.2 ≠ .cell) (hkind : scope.kind = .function)
    (hnames : ∀ y ∈ scope.names, y.2 = .local → scope.names.lookup y.1 = some .local) (hx : scope.names.lookup x = some .local) (hh : A.handled = none)
    (h : wpAny (model prog w) A (eval iter env) (fun xv s₁ => ∃ ax items, xv = .ref ax ∧ s₁.heap.IsList ax items ∧ items.size ≤ sizeLine ∧
      (∀ C v s₃ m₃, v ∈ items.toList → s₃.heap.Ns C m₃ → m₃ x = some v → (∀ b o, s₁.heap.get? b = some o → s₃.heap.get? b = some o) →
        wpAny (model prog w) A (testsOf (compEnvC scope cl C env) ifs) (fun ok s₄ => ok = p v ∧ Keeps s₃ s₄) No s₃) ∧
      (∀ C v s₃ m₃, v ∈ items.toList → p v = true → s₃.heap.Ns C m₃ → m₃ x = some v → (∀ b o, s₁.heap.get? b = some o → s₃.heap.get? b = some o) →
        wpAny (model prog w) A (eval elt (compEnvC scope cl C env)) (fun y s₄ => F v y ∧ Keeps s₃ s₄) No s₃) ∧
      (∀ D h' tk ys, s₁.heap.get? D = none → h'.IsList D ys → h'.PlainList D ys → Paired F (items.toList.filter p) ys.toList →
        (∀ b o, s₁.heap.get? b = some o → h'.get? b = some o) → Q (.ref D) { s₁ with heap := h', toks := tk })) E s)
    (hs : ∀ x, foldedSetIterable iter env x = pure x := by intro _; rfl) :
    wpAny (model prog w) A (eval (.ListComp elt [⟨.Name x px, iter, ifs, 0⟩] scope pos) env) Q E s := by
  refine wpAny_ListComp_free p F hclos hcell hkind hnames hx (wpAny_mono h (fun xv s₁ h₁ => ?_) fun _ _ e => e) hs
  obtain ⟨ax, items, rfl, hl, hsz, ht, he, hQ⟩ := h₁
  refine wpAny_pyIter_list hl ?_
  have hlt : ax < s₁.heap.objs.size := by obtain ⟨_, e, _⟩ := id hl; exact Heap.lt_size e
  have up : ∀ b o, b ∉ [s₁.heap.objs.size] → s₁.heap.get? b = some o → (s₁.heap.push { cls := .type "list_iterator", data := .fields #[.ref ax, .int 0 0] }).get? b = some o := fun b o _ e => Heap.get?_push_of_some _ e
  have nI : ∀ b o, s₁.heap.get? b = some o → b ∉ [s₁.heap.objs.size] := fun b o e hb => by
    rw [List.mem_singleton.mp hb] at e; exact absurd (Heap.lt_size e) (Nat.lt_irrefl _)
  have mem : ∀ (i : Nat) (v : Value), items[i]? = some v → v ∈ items.toList := fun i v hv => by
    obtain ⟨hi, rfl⟩ := Array.getElem?_eq_some_iff.mp hv; exact Array.getElem_mem_toList hi
  refine ⟨s₁.heap.objs.size, [s₁.heap.objs.size, ax], [s₁.heap.objs.size], items.size, _, _, rfl, Walks.list hh _ ax (Nat.ne_of_lt hlt) items, hsz,
    ⟨⟨_, Heap.get?_push_size _ rfl, rfl, rfl⟩, hl.push _⟩, ?_, ⟨?_, ?_⟩, ?_⟩
  · intro b hb
    show b < (s₁.heap.push _).objs.size
    rw [Heap.size_push]
    rcases List.mem_cons.mp hb with rfl | hb
    · exact Nat.lt_succ_self _
    · rw [List.mem_singleton.mp hb]; exact Nat.lt_succ_of_lt hlt
  · intro C i v s₃ m₃ E' _ hv hn hm hk _
    exact noE (ht C v s₃ m₃ (mem i v hv) hn hm fun b o e => hk b o (nI b o e) (up b o (nI b o e) e))
  · intro C i v s₃ m₃ E' _ hv hp hn hm hk _
    exact noE (he C v s₃ m₃ (mem i v hv) hp hn hm fun b o e => hk b o (nI b o e) (up b o (nI b o e) e))
  · intro D h' tk ys vs hD hlD hpl hlen hP hF hk
    have hvs : vs = items.toList := by
      refine List.ext_getElem? fun j => ?_
      cases hj : vs[j]? with
      | some v => exact ((Array.getElem?_toList ..).trans (hP j v hj)).symm
      | none =>
        have : vs.length ≤ j := List.getElem?_eq_none_iff.mp hj
        exact (List.getElem?_eq_none (by simp; omega)).symm
    subst hvs
    refine hQ D h' tk ys ?_ hlD hpl hF fun b o e => hk b o (nI b o e) (up b o (nI b o e) e)
    cases e : s₁.heap.get? D with
    | none => rfl
    | some o => have := up D o (nI D o e) e; rw [hD] at this; cases this
end
end Mine
end

section
open PySem PySem.W PyProof.Rows PySem.Calls
namespace Mine
section
variable {prog : Program} {w : World} {A : Around} {E : Value → Shared → Prop} {s : Shared} {env : Env} {h₀ : Heap} {L : Addr}

/-- a turn's end -/
noncomputable def TurnEnd (s : Shared) (h₀ : Heap) (L : Addr) (Q : Flow → Shared → Prop) (P : (Str → Option Value) → List (Addr × Obj) → Prop) (I : Addr) (it : Obj) (fl : Flow) (s₃ : Shared) : Prop := match fl with
        | .next | .cont => ∃ h' tk' m' news', s₃ = { s with heap := h', toks := tk' } ∧ Fr h₀ L h' m' ∧ News h₀ L h' ((I, it) :: news') ∧ (∀ p ∈ news', p.1 ≠ I) ∧ P m' news'
        | .brk => Q .next s₃
        | .ret v => Q (.ret v) s₃

/-- the loop over a list, behind the evaluation of its source: P speaks of the frame's map and of the ledger -/
theorem for_list {x : Str} {px : Pos} {body : List Stmt} {Q : Flow → Shared → Prop} {ax : Addr} {items : List Value} {m : Str → Option Value} {news : List (Addr × Obj)}
    (P : Nat → (Str → Option Value) → List (Addr × Obj) → Prop) (hL : env.locals = L) (hx : env.kindOf x = some .local)
    (hp : (env.scope.kind == .class || (env.scope.kind == .module && env.locals != env.globals)) = false) (hh : A.handled = none)
    (hsrc : ∀ i h m news, Fr h₀ L h m → News h₀ L h news → P i m news → h.IsList ax items.toArray)
    (F : Fr h₀ L s.heap m) (N : News h₀ L s.heap news) (hP : P 0 m news)
    (turn : ∀ i v h tk m news I it, items[i]? = some v → Fr h₀ L h (fun y => if y = x then some v else m y) → News h₀ L h ((I, it) :: news) → (∀ p ∈ news, p.1 ≠ I) → P i m news →
      wpAny (model prog w) A (execs body env) (TurnEnd s h₀ L Q (P (i + 1)) I it) No { s with heap := h, toks := tk })
    (done : ∀ h tk m news, Fr h₀ L h m → News h₀ L h news → P items.length m news → Q .next { s with heap := h, toks := tk }) :
    wpAny (model prog w) A (pyIter (.ref ax)) (LoopOk prog w A env (.Name x px) body Q) No s := by
  have hl := hsrc 0 s.heap m news F N hP
  refine wpAny_pyIter_list hl ?_
  have Ipush := N.push F ({ cls := .type "list_iterator", data := .fields #[.ref ax, .int 0 0] } : Obj)
  have hI0 := Ipush (s.heap.objs.size, _) List.mem_cons_self
  have hIL : s.heap.objs.size ≠ L := hI0.2.1
  have hIn : h₀.get? s.heap.objs.size = none := hI0.2.2
  refine ⟨fun i s' => ∃ h tk m news, s' = { s with heap := h, toks := tk } ∧ Fr h₀ L h m ∧ News h₀ L h news ∧ (∀ p ∈ news, p.1 ≠ s.heap.objs.size) ∧ h.IsListIter s.heap.objs.size ax i ∧ P i m news, items.length, ?_, ?_, ?_⟩
  · refine ⟨_, s.toks, m, news, rfl, F.push _, fun p hp => Ipush p (List.mem_cons_of_mem _ hp), fun p hp => Nat.ne_of_lt (Heap.lt_size (N p hp).1), ⟨_, hI0.1, rfl, rfl⟩, hP⟩
  · rintro i s' hi ⟨h, tk, m, news, rfl, F, N, hne, hit, hP⟩
    have hl := hsrc i h m news F N hP
    have hv : items.toArray[i]? = some items[i] := by simp [hi]
    refine wpAny_pyNext_list_item hit hl hv fun h₁ hit₁ hs₁ => ⟨_, rfl, wpAny_of_eq (a := ()) rfl ?_⟩
    have F₁ := F.change hs₁ hIL hIn
    have N₁ : News h₀ L h₁ news := fun p hp => ⟨hs₁.extBut _ _ (hne p hp) (N p hp).1, (N p hp).2⟩
    refine wpAny_assign_Name (wpAny_storeName_local hx (by rw [hL]; exact F₁.ns) (fun h₂ hn₂ hs₂ => ?_) hp)
    rw [hL] at hn₂ hs₂
    have hit₂ : h₂.IsListIter s.heap.objs.size ax (i + 1) := hit₁.extBut hs₂.extBut hIL
    obtain ⟨oit, hoit, hoit'⟩ := id hit₂
    refine wpAny_mono (turn i items[i] h₂ _ m news s.heap.objs.size oit (by simp [hi]) (F₁.set hn₂ hs₂) (fun p hp => ?_) hne hP) (fun fl s₃ h₃ => ?_) fun _ _ e => e
    · rcases List.mem_cons.mp hp with rfl | hp
      · exact ⟨hoit, hIL, hIn⟩
      · exact (N₁.set hs₂) p hp
    · have next : (∃ h' tk' m' news', s₃ = { s with heap := h', toks := tk' } ∧ Fr h₀ L h' m' ∧ News h₀ L h' ((s.heap.objs.size, oit) :: news') ∧ (∀ p ∈ news', p.1 ≠ s.heap.objs.size) ∧ P (i + 1) m' news') →
          ∃ h tk m news, s₃ = { s with heap := h, toks := tk } ∧ Fr h₀ L h m ∧ News h₀ L h news ∧ (∀ p ∈ news, p.1 ≠ s.heap.objs.size) ∧ h.IsListIter s.heap.objs.size ax (i + 1) ∧ P (i + 1) m news := by
        rintro ⟨h', tk', m', news', rfl, F', N', hne', hP'⟩
        exact ⟨h', tk', m', news', rfl, F', fun p hp => N' p (List.mem_cons_of_mem _ hp), hne', ⟨oit, (N' (s.heap.objs.size, oit) List.mem_cons_self).1, hoit'⟩, hP'⟩
      cases fl with
      | next => exact next h₃
      | cont => exact next h₃
      | brk => exact h₃
      | ret v => exact h₃
  · rintro s' ⟨h, tk, m, news, rfl, F, N, hne, hit, hP⟩
    have hl := hsrc _ h m news F N hP
    refine wpAny_pyNext_list_end hh hit hl (by simp) fun h₁ he₁ => ⟨rfl, ?_⟩
    refine done h₁ tk m news ⟨F.ns.extBut he₁ (Ne.symm hIL), fun b o e => he₁ b o (fun q => by rw [q, hIn] at e; cases e) (F.keep b o e), F.above⟩ (fun p hp => ⟨he₁ _ _ (hne p hp) (N p hp).1, (N p hp).2⟩) hP
end
end Mine
end

section
open PySem PySem.W PyProof.Rows PySem.Calls
namespace Mine
section
variable {prog : Program} {w : World} {A : Around} {E : Value → Shared → Prop} {s : Shared} {env : Env} {x : Str} {pos : Pos} {v : Value} {Q : Value → Shared → Prop}

theorem nmG (G : Gd w s.heap) (e : nsIn (Mine.hd.heap_39 w.params) mainGlobals x = some (some v)) (h : Q v s) (hg : env.globals = mainGlobals := by rfl) (hk : env.scope.kind = .function := by rfl)
    (hx : env.kindOf x = some .globalImplicit := by rfl) (hd : (x == ("__debug__" : Str)) = false := by decide) : wpAny (model prog w) A (eval (.Name x pos) env) Q E s := by
  obtain ⟨mg, mb, T⟩ := G.t
  exact Name_function_global hk hx (loadGlobal_global (env := env) (by rw [hg]; exact T.g) (mg_of G.k T.g e) h) hd
theorem nmB (G : Gd w s.heap) (e : nsIn (Mine.hd.heap_39 w.params) mainGlobals x = some none) (hv : bootBuiltins x = some v) (hn : x ≠ "__name__") (h : Q v s) (hg : env.globals = mainGlobals := by rfl) (hb : env.builtins = builtinsNs := by rfl)
    (hk : env.scope.kind = .function := by rfl) (hx : env.kindOf x = some .globalImplicit := by rfl) (hd : (x == ("__debug__" : Str)) = false := by decide) : wpAny (model prog w) A (eval (.Name x pos) env) Q E s := by
  obtain ⟨mg, mb, T⟩ := G.t
  exact Name_function_global hk hx (loadGlobal_builtin (env := env) (by rw [hg]; exact T.g) (mg_none_of G.k T.g e) (by rw [hb]; exact T.b) ((T.builtins x hn).trans hv) h) hd
theorem nmV {m : Str → Option Value} (hn : s.heap.Ns env.locals m) (hv : m x = some v) (h : Q v s) (hk : env.scope.kind = .function := by rfl) (hx : env.kindOf x = some .local := by rfl)
    (hd : (x == ("__debug__" : Str)) = false := by decide) : wpAny (model prog w) A (eval (.Name x pos) env) Q E s := wpAny_Name (wpAny_loadName_local hk hx hn hv h) hd
/-- a cell of an outer frame's -/
theorem nmF {c : Addr} {o : Obj} (hc : env.cells.lookup x = some c) (ho : s.heap.get? c = some o) (hdt : o.data = .cell (some v)) (h : Q v s) (hk : env.scope.kind = .function := by rfl)
    (hx : env.kindOf x = some .cell := by rfl) (hd : (x == ("__debug__" : Str)) = false := by decide) : wpAny (model prog w) A (eval (.Name x pos) env) Q E s :=
  wpAny_Name (wpAny_loadName_cell hk hx hc ⟨o, ho, hdt⟩ h) hd
end

section
variable {prog : Program} {w : World} {A : Around} {E : Value → Shared → Prop} {s : Shared}
/-- the walk of a bytes' iterator -/
theorem walks_bytes (hh : A.handled = none) (I : Addr) (b : Array UInt8) (t : Tok) :
    Walks prog w A I [I] [I] b.size (fun i v => ∃ c u, b[i]? = some c ∧ v = .int (c.toNat : Int) u) (fun i h => KBw.IsBytesIter h I b t i) where
  sub := fun b hb => hb
  frame := fun i h h' st hk => by obtain ⟨o, ho, r⟩ := st; exact ⟨o, hk I List.mem_cons_self o ho, r⟩
  item := fun i s Q E hi st hQ => by
    refine KBw.next_item st (c := b[i]) (by simp [hi]) fun h' hit' hs' => ?_
    exact hQ _ h' _ ⟨_, _, by simp [hi], rfl⟩ hit' fun b o hb e => hs'.extBut b o (fun h => hb (by simp [h])) e
  done := fun s Q E st hQ => KBw.next_end hh st (by simp) fun h' he' => hQ h' s.toks fun b o hb e => he' b o (fun h => hb (by simp [h])) e
  self := fun _ _ _ _ st hQ => KBw.pyIter_self st hQ

/-- a comprehension over a bytes value -/
theorem lc_bytes {env : Env} {elt iter : Expr} {x : Str} {px : Pos} {scope : Scope} {cl : List (Str × Addr)} {pos : Pos} {Q : Value → Shared → Prop} (F : Value → Value → Prop)
    (hclos : closureFor scope env = pure cl) (hcell : ∀ y ∈ scope.names, y.2 ≠ .cell) (hkind : scope.kind = .function)
    (hnames : ∀ y ∈ scope.names, y.2 = .local → scope.names.lookup y.1 = some .local) (hx : scope.names.lookup x = some .local) (hh : A.handled = none)
    (h : wpAny (model prog w) A (eval iter env) (fun xv s₁ => ∃ b t, xv = .bytes b t ∧ b.size ≤ sizeLine ∧
      (∀ C (c : UInt8) u s₃ m₃, c ∈ b.toList → s₃.heap.Ns C m₃ → m₃ x = some (.int (c.toNat : Int) u) → (∀ b o, s₁.heap.get? b = some o → s₃.heap.get? b = some o) →
        wpAny (model prog w) A (eval elt (compEnvC scope cl C env)) (fun y s₄ => F (.int (c.toNat : Int) u) y ∧ Keeps s₃ s₄) No s₃) ∧
      (∀ D h' tk ys (vs : List Value), s₁.heap.get? D = none → h'.IsList D ys → IntsAre vs (KBw.bInts b) → Paired F vs ys.toList →
        (∀ b o, s₁.heap.get? b = some o → h'.get? b = some o) → Q (.ref D) { s₁ with heap := h', toks := tk })) E s)
    (hs : ∀ x, foldedSetIterable iter env x = pure x := by intro _; rfl) :
    wpAny (model prog w) A (eval (.ListComp elt [⟨.Name x px, iter, [], 0⟩] scope pos) env) Q E s := by
  refine wpAny_ListComp_free (fun _ => true) F hclos hcell hkind hnames hx (wpAny_mono h (fun xv s₁ h₁ => ?_) fun _ _ e => e) hs
  obtain ⟨b, t, rfl, hsz, he, hQ⟩ := h₁
  refine KBw.pyIter_bytes ?_
  have up : ∀ a o, a ∉ [s₁.heap.objs.size] → s₁.heap.get? a = some o → (s₁.heap.push { cls := .type "bytes_iterator", data := .fields #[.bytes b t, .int 0 0] }).get? a = some o := fun _ o _ e => Heap.get?_push_of_some _ e
  have nI : ∀ b o, s₁.heap.get? b = some o → b ∉ [s₁.heap.objs.size] := fun b o e hb => by
    rw [List.mem_singleton.mp hb] at e; exact absurd (Heap.lt_size e) (Nat.lt_irrefl _)
  refine ⟨s₁.heap.objs.size, [s₁.heap.objs.size], [s₁.heap.objs.size], b.size, _, _, rfl, walks_bytes hh _ b t, hsz, ⟨_, Heap.get?_push_size _ rfl, rfl, rfl⟩, ?_, ⟨?_, ?_⟩, ?_⟩
  · intro a ha
    show a < (s₁.heap.push _).objs.size
    rw [Heap.size_push, List.mem_singleton.mp ha]; exact Nat.lt_succ_self _
  · intro C i v s₃ m₃ E' _ hv hn hm hk _
    exact wpAny_pure ⟨rfl, Keeps.refl _⟩
  · intro C i v s₃ m₃ E' _ hv _ hn hm hk _
    obtain ⟨c, u, hc, rfl⟩ := hv
    obtain ⟨hi, rfl⟩ := Array.getElem?_eq_some_iff.mp hc
    exact noE (he C _ u s₃ m₃ (Array.getElem_mem_toList hi) hn hm fun b o e => hk b o (nI b o e) (up b o (nI b o e) e))
  · intro D h' tk ys vs hD hlD hpl hlen hP hF hk
    rw [List.filter_eq_self.mpr (fun _ _ => rfl)] at hF
    refine hQ D h' tk ys vs ?_ hlD ?_ hF fun b o e => hk b o (nI b o e) (up b o (nI b o e) e)
    · cases e : s₁.heap.get? D with
      | none => rfl
      | some o => have := up D o (nI D o e) e; rw [hD] at this; cases this
    · have key : ∀ (l : List UInt8) (vs : List Value), vs.length = l.length → (∀ (j : Nat) (v : Value), vs[j]? = some v → ∃ (c : UInt8) (u : Tok), l[j]? = some c ∧ v = Value.int (c.toNat : Int) u) → IntsAre vs (l.map fun c => (c.toNat : Int)) := by
        intro l
        induction l with
        | nil => intro vs hl _; rw [List.length_nil] at hl; rw [List.length_eq_zero_iff.mp hl]; exact .nil
        | cons c l ih =>
          intro vs hl hv
          cases vs with
          | nil => cases hl
          | cons v vs =>
            obtain ⟨c', u, hc', rfl⟩ := hv 0 v rfl
            cases hc'
            exact .cons _ _ (ih vs (by simpa using hl) fun j v hj => by simpa using hv (j + 1) v (by simpa using hj))
      exact key b.toList vs (by rw [hlen]; simp) fun j v hj => by obtain ⟨c, u, hc, e⟩ := hP j v hj; exact ⟨c, u, by rw [Array.getElem?_toList]; exact hc, e⟩
end
end Mine
end

section
open PySem PySem.W PyProof.Rows PySem.Calls
namespace Mine
section
variable {prog : Program} {w : World} {A : Around} {E : Value → Shared → Prop} {s : Shared} {env : Env} {h₀ : Heap} {L : Addr}
/-- the loop over a bytes value, behind the evaluation of its source -/
theorem for_bytes {x : Str} {px : Pos} {body : List Stmt} {Q : Flow → Shared → Prop} {b : Array UInt8} {t : Tok} {m : Str → Option Value} {news : List (Addr × Obj)}
    (P : Nat → (Str → Option Value) → List (Addr × Obj) → Prop) (hL : env.locals = L) (hx : env.kindOf x = some .local)
    (hp : (env.scope.kind == .class || (env.scope.kind == .module && env.locals != env.globals)) = false) (hh : A.handled = none)
    (F : Fr h₀ L s.heap m) (N : News h₀ L s.heap news) (hP : P 0 m news)
    (turn : ∀ i (c : UInt8) u h tk m news I it, b[i]? = some c → Fr h₀ L h (fun y => if y = x then some (.int (c.toNat : Int) u) else m y) → News h₀ L h ((I, it) :: news) → (∀ p ∈ news, p.1 ≠ I) → P i m news →
      wpAny (model prog w) A (execs body env) (TurnEnd s h₀ L Q (P (i + 1)) I it) No { s with heap := h, toks := tk })
    (done : ∀ h tk m news, Fr h₀ L h m → News h₀ L h news → P b.size m news → Q .next { s with heap := h, toks := tk }) :
    wpAny (model prog w) A (pyIter (.bytes b t)) (LoopOk prog w A env (.Name x px) body Q) No s := by
  refine KBw.pyIter_bytes ?_
  have Ipush := N.push F ({ cls := .type "bytes_iterator", data := .fields #[.bytes b t, .int 0 0] } : Obj)
  have hI0 := Ipush (s.heap.objs.size, _) List.mem_cons_self
  have hIL : s.heap.objs.size ≠ L := hI0.2.1
  have hIn : h₀.get? s.heap.objs.size = none := hI0.2.2
  refine ⟨fun i s' => ∃ h tk m news, s' = { s with heap := h, toks := tk } ∧ Fr h₀ L h m ∧ News h₀ L h news ∧ (∀ p ∈ news, p.1 ≠ s.heap.objs.size) ∧ KBw.IsBytesIter h s.heap.objs.size b t i ∧ P i m news, b.size, ?_, ?_, ?_⟩
  · exact ⟨_, s.toks, m, news, rfl, F.push _, fun p hp => Ipush p (List.mem_cons_of_mem _ hp), fun p hp => Nat.ne_of_lt (Heap.lt_size (N p hp).1), ⟨_, hI0.1, rfl, rfl⟩, hP⟩
  · rintro i s' hi ⟨h, tk, m, news, rfl, F, N, hne, hit, hP⟩
    have hv : b[i]? = some b[i] := by simp [hi]
    refine KBw.next_item hit hv fun h₁ hit₁ hs₁ => ⟨_, rfl, wpAny_of_eq (a := ()) rfl ?_⟩
    have F₁ := F.change hs₁ hIL hIn
    have N₁ : News h₀ L h₁ news := fun p hp => ⟨hs₁.extBut _ _ (hne p hp) (N p hp).1, (N p hp).2⟩
    refine wpAny_assign_Name (wpAny_storeName_local hx (by rw [hL]; exact F₁.ns) (fun h₂ hn₂ hs₂ => ?_) hp)
    rw [hL] at hn₂ hs₂
    have hit₂ : KBw.IsBytesIter h₂ s.heap.objs.size b t (i + 1) := by obtain ⟨o, ho, r⟩ := hit₁; exact ⟨o, hs₂.extBut _ _ hIL ho, r⟩
    obtain ⟨oit, hoit, hoit'⟩ := id hit₂
    refine wpAny_mono (turn i b[i] _ h₂ _ m news s.heap.objs.size oit hv (F₁.set hn₂ hs₂) (fun p hp => ?_) hne hP) (fun fl s₃ h₃ => ?_) fun _ _ e => e
    · rcases List.mem_cons.mp hp with rfl | hp
      · exact ⟨hoit, hIL, hIn⟩
      · exact (N₁.set hs₂) p hp
    · have next : (∃ h' tk' m' news', s₃ = { s with heap := h', toks := tk' } ∧ Fr h₀ L h' m' ∧ News h₀ L h' ((s.heap.objs.size, oit) :: news') ∧ (∀ p ∈ news', p.1 ≠ s.heap.objs.size) ∧ P (i + 1) m' news') →
          ∃ h tk m news, s₃ = { s with heap := h, toks := tk } ∧ Fr h₀ L h m ∧ News h₀ L h news ∧ (∀ p ∈ news, p.1 ≠ s.heap.objs.size) ∧ KBw.IsBytesIter h s.heap.objs.size b t (i + 1) ∧ P (i + 1) m news := by
        rintro ⟨h', tk', m', news', rfl, F', N', hne', hP'⟩
        exact ⟨h', tk', m', news', rfl, F', fun p hp => N' p (List.mem_cons_of_mem _ hp), hne', ⟨oit, (N' (s.heap.objs.size, oit) List.mem_cons_self).1, hoit'⟩, hP'⟩
      cases fl with
      | next => exact next h₃
      | cont => exact next h₃
      | brk => exact h₃
      | ret v => exact h₃
  · rintro s' ⟨h, tk, m, news, rfl, F, N, hne, hit, hP⟩
    refine KBw.next_end hh hit (by simp) fun h₁ he₁ => ⟨rfl, ?_⟩
    refine done h₁ tk m news ⟨F.ns.extBut he₁ (Ne.symm hIL), fun b o e => he₁ b o (fun q => by rw [q, hIn] at e; cases e) (F.keep b o e), F.above⟩ (fun p hp => ⟨he₁ _ _ (hne p hp) (N p hp).1, (N p hp).2⟩) hP
end
end Mine
end

section
open PySem PySem.W PyProof.Rows PySem.Calls
namespace Mine
/-- these values are tuples of two texts -/
inductive TupsAre (h : Heap) : List Value → List (Str × Str) → Prop
  | nil : TupsAre h [] []
  | cons {a : Addr} {k v : Str} {t u : Tok} {vs : List Value} {rows : List (Str × Str)} : IsTup h a #[.str k t, .str v u] → TupsAre h vs rows → TupsAre h (.ref a :: vs) ((k, v) :: rows)
theorem TupsAre.keeps {h h' : Heap} (hk : ∀ b o, h.get? b = some o → h'.get? b = some o) : ∀ {vs : List Value} {rows : List (Str × Str)}, TupsAre h vs rows → TupsAre h' vs rows
  | _, _, .nil => .nil
  | _, _, .cons x r => .cons (x.keeps hk) (r.keeps hk)
theorem TupsAre.length {h : Heap} : ∀ {vs : List Value} {rows : List (Str × Str)}, TupsAre h vs rows → vs.length = rows.length
  | _, _, .nil => rfl
  | _, _, .cons _ r => by simp [r.length]
theorem TupsAre.at {h : Heap} : ∀ {vs : List Value} {rows : List (Str × Str)}, TupsAre h vs rows → ∀ (i : Nat) (v : Value), vs[i]? = some v → ∃ a k x t u, v = .ref a ∧ rows[i]? = some (k, x) ∧ IsTup h a #[.str k t, .str x u]
  | _, _, .cons (a := a) (k := k) (v := x) (t := t) (u := u) hx r, 0, v, e => by cases e; exact ⟨a, k, x, t, u, rfl, rfl, hx⟩
  | _, _, .cons _ r, i + 1, v, e => by simpa using r.at i v (by simpa using e)
section
variable {prog : Program} {w : World} {A : Around} {E : Value → Shared → Prop} {s : Shared} {env : Env} {h₀ : Heap} {L : Addr}

noncomputable def PairEnd (s : Shared) (h₀ : Heap) (L : Addr) (Q : Flow → Shared → Prop) (P : (Str → Option Value) → Prop) (I : Addr) (it : Obj) (fl : Flow) (s₃ : Shared) : Prop := match fl with
        | .next | .cont => ∃ h' tk' m', s₃ = { s with heap := h', toks := tk' } ∧ Fr h₀ L h' m' ∧ News h₀ L h' [(I, it)] ∧ P m'
        | .brk => Q .next s₃
        | .ret v => Q (.ret v) s₃

/-- the loop over a list of pairs that stands in the base -/
theorem for_pairs {kx vx : Str} {pk pv pt : Pos} {x1 : Nat} {body : List Stmt} {Q : Flow → Shared → Prop} {ax : Addr} {vs : List Value} {rows : List (Str × Str)} {m : Str → Option Value}
    (P : Nat → (Str → Option Value) → Prop) (hL : env.locals = L) (hkx : env.kindOf kx = some .local) (hvx : env.kindOf vx = some .local)
    (hp : (env.scope.kind == .class || (env.scope.kind == .module && env.locals != env.globals)) = false) (hh : A.handled = none)
    (hl : h₀.IsList ax vs.toArray) (hT : TupsAre h₀ vs rows)
    (F : Fr h₀ L s.heap m) (hP : P 0 m)
    (turn : ∀ i k v t u h tk m I it, rows[i]? = some (k, v) → Fr h₀ L h (fun y => if y = vx then some (.str v u) else if y = kx then some (.str k t) else m y) → News h₀ L h [(I, it)] → P i m →
      wpAny (model prog w) A (execs body env) (PairEnd s h₀ L Q (P (i + 1)) I it) No { s with heap := h, toks := tk })
    (done : ∀ h tk m, Fr h₀ L h m → P rows.length m → Q .next { s with heap := h, toks := tk }) :
    wpAny (model prog w) A (pyIter (.ref ax)) (LoopOk prog w A env (.Tuple [.Name kx pk, .Name vx pv] x1 pt) body Q) No s := by
  refine wpAny_pyIter_list (F.lst hl) ?_
  have N : News h₀ L s.heap [] := News.nil
  have Ipush := N.push F ({ cls := .type "list_iterator", data := .fields #[.ref ax, .int 0 0] } : Obj)
  have hI0 := Ipush (s.heap.objs.size, _) List.mem_cons_self
  have hIL : s.heap.objs.size ≠ L := hI0.2.1
  have hIn : h₀.get? s.heap.objs.size = none := hI0.2.2
  have hlen := hT.length
  refine ⟨fun i s' => ∃ h tk m, s' = { s with heap := h, toks := tk } ∧ Fr h₀ L h m ∧ h.IsListIter s.heap.objs.size ax i ∧ P i m, vs.length, ?_, ?_, ?_⟩
  · exact ⟨_, s.toks, m, rfl, F.push _, ⟨_, hI0.1, rfl, rfl⟩, hP⟩
  · rintro i s' hi ⟨h, tk, m, rfl, F, hit, hP⟩
    have hv : vs.toArray[i]? = some vs[i] := by simp [hi]
    obtain ⟨a, k, v, t, u, hva, hrow, htup⟩ := hT.at i vs[i] (by simp [hi])
    refine wpAny_pyNext_list_item hit (F.lst hl) hv fun h₁ hit₁ hs₁ => ⟨_, rfl, ?_⟩
    rw [hva]
    refine wpAny_letOwnedTupleGo_listiter hit₁ ?_
    have F₁ := F.change hs₁ hIL hIn
    refine assign_Tuple_tuple hh (htup.keeps F₁.keep) rfl rfl fun h₂ he₂ => ?_
    have keep₂ : ∀ b o, h₁.get? b = some o → h₂.get? b = some o := fun b o e => he₂ b o (fun q => by rw [q] at e; exact absurd (Heap.lt_size e) (Nat.lt_irrefl _)) e
    have F₂ := F₁.keeps keep₂
    have hit₂ : h₂.IsListIter s.heap.objs.size ax (i + 1) := hit₁.at fun o e => keep₂ _ o e
    show wpAny _ A (assignInOrder [assign (.Name kx pk) env, assign (.Name vx pv) env] [.str k t, .str v u]) _ _ _
    unfold assignInOrder
    refine wpAny_bind (wpAny_holding ?_)
    refine wpAny_assign_Name (wpAny_storeName_local hkx (by rw [hL]; exact F₂.ns) (fun h₃ hn₃ hs₃ => ?_) hp)
    rw [hL] at hn₃ hs₃
    have F₃ := F₂.set hn₃ hs₃
    have hit₃ := hit₂.extBut hs₃.extBut hIL
    unfold assignInOrder
    refine wpAny_bind (wpAny_holding ?_)
    refine wpAny_assign_Name (wpAny_storeName_local hvx (by rw [hL]; exact F₃.ns) (fun h₄ hn₄ hs₄ => ?_) hp)
    rw [hL] at hn₄ hs₄
    have F₄ := F₃.set hn₄ hs₄
    have hit₄ := hit₃.extBut hs₄.extBut hIL
    obtain ⟨oit, hoit, hoit'⟩ := id hit₄
    unfold assignInOrder
    refine wpAny_pure ?_
    refine wpAny_mono (turn i k v t u h₄ _ m s.heap.objs.size oit hrow F₄ (fun p hp => ?_) hP) (fun fl s₃ h₃ => ?_) fun _ _ e => e
    · rw [List.mem_singleton.mp hp]; exact ⟨hoit, hIL, hIn⟩
    · have next : (∃ h' tk' m', s₃ = { s with heap := h', toks := tk' } ∧ Fr h₀ L h' m' ∧ News h₀ L h' [(s.heap.objs.size, oit)] ∧ P (i + 1) m') →
          ∃ h tk m, s₃ = { s with heap := h, toks := tk } ∧ Fr h₀ L h m ∧ h.IsListIter s.heap.objs.size ax (i + 1) ∧ P (i + 1) m := by
        rintro ⟨h', tk', m', rfl, F', N', hP'⟩
        exact ⟨h', tk', m', rfl, F', ⟨oit, (N' (s.heap.objs.size, oit) List.mem_cons_self).1, hoit'⟩, hP'⟩
      cases fl with
      | next => exact next h₃
      | cont => exact next h₃
      | brk => exact h₃
      | ret v => exact h₃
  · rintro s' ⟨h, tk, m, rfl, F, hit, hP⟩
    refine wpAny_pyNext_list_end hh hit (F.lst hl) (by simp) fun h₁ he₁ => ⟨rfl, ?_⟩
    rw [hlen] at hP
    exact done h₁ tk m ⟨F.ns.extBut he₁ (Ne.symm hIL), fun b o e => he₁ b o (fun q => by rw [q, hIn] at e; cases e) (F.keep b o e), F.above⟩ hP
end
end Mine
end

section
open PySem PySem.W PyProof.Rows PySem.Calls PySem.Spec
namespace Mine
section
variable {prog : Program} {w : World} {A : Around} {E : Value → Shared → Prop} {s : Shared}
/-- a call of a def that has cells -/
theorem enterC {Q : Value → Shared → Prop} {name qual : Str} {params : Arguments} {body : List Stmt} {scope : Scope} {dV kV doc pm cdv ct oc : Value} {an od : Option Addr} {osl : Array (Option Value)} {f : Addr} {pos : List Value} {kw : List (Str × Value)} {n : Nat} (binds : List (Str × Value))
    (G : Gd w s.heap) (R : Rm (n + 1) A)
    (ho : (Mine.hd.heap_39 w.params).lookup f = some ⟨oc, od, .func (fnOf name qual params body scope dV kV doc pm an cdv ct), osl⟩) (hcd : codeIn (Mine.hd.heap_39 w.params) cdv qual = true)
    (hbind : BindsTo s (fnOf name qual params body scope dV kV doc pm an cdv ct) ⟨pos, kw⟩ binds)
    (hkind : (binds.all fun y => scope.names.lookup y.1 == some .local || scope.names.lookup y.1 == some .cell) = true)
    (hnd : ((cellsFrom 0 scope.names []).map (·.1)).Nodup)
    (hco : scope.isCoroutine = false) (hgen : scope.isGenerator = false) (hk : scope.kind = .function)
    (h : ∀ L h₁ tk A' cells, Rm n A' → Fr s.heap L h₁ (bindL (envOfC qual scope L f cdv).kindOf binds fun _ => none) → News s.heap L h₁ cells →
      CellsAre (bindC (envOfC qual scope L f cdv).kindOf binds fun _ => none) (cellsFrom (L + 1) scope.names []) cells →
      wpAny (model prog w) A' (execs body (envOfC qual scope L f cdv))
        (fun fl s' => Q (match fl with | .ret v => v | _ => .none) s') No
        { s with heap := h₁, toks := tk }) :
    wpAny (model prog w) A (call (.ref f) pos kw) Q E s := by
  obtain ⟨mg, mb, T⟩ := G.t
  refine wpAny_call ?_
  refine codeAny_call_function (fd := fnX name qual params body scope [] dV kV doc pm an cdv ct) R.room (G.k _ _ ho) rfl hco hgen rfl (codeRec_of G.k hcd) (hbind _ _ _ _ ?_)
  refine wpAny_newFunctionEnv_cells hk (kindsX hkind _) fun env' he s' x => ?_
  subst he
  refine ⟨T.nolimit.keeps x.toInCall.keep, codeAny_func ?_⟩
  obtain ⟨h₁, tk, rfl, _⟩ := x.done
  have hk₁ := x.toInCall.keep
  obtain ⟨cells, NC, Y⟩ := Cl.news (h₀ := s.heap) (Nat.le_refl _) fun n c hm => ⟨x.cell n c (lookup_of_mem_nodup (cellsFrom_names scope.names 0 (s.heap.objs.size + 1) [] [] rfl ▸ hnd) hm), x.above n c hm⟩
  exact wpAny_mono (h s.heap.objs.size h₁ tk _ cells R.deep ⟨x.toInCall.ns, hk₁, Nat.le_refl _⟩ NC Y) (fun _ _ q => q) fun _ _ q => q.elim
end
end Mine
end

section
open PySem PySem.W PyProof.Rows PySem.Calls PySem.Spec
namespace Mine
theorem mapSeq_plain {f : Array Value → Array Value} {xs ys : Array Value} {n : Nat} (h : f xs = ys) : ∃ n', Obj.mapSeq f ({ cls := .type "list", data := .seq xs n } : Obj) = { cls := .type "list", data := .seq ys n' } := by
  subst h; exact ⟨_, rfl⟩
section
variable {prog : Program} {w : World} {A : Around} {E : Value → Shared → Prop} {s : Shared}
theorem setItem_all {l sl D : Addr} {items new : Array Value} {Q : Unit → Shared → Prop} (hp : s.heap.PlainList l items) (hs : s.heap.IsSliceOf sl .none .none .none) (hD : s.heap.IsList D new) (hne : l ≠ D)
    (hz : items.size + new.size ≤ sizeLine) (h : ∀ h', h'.PlainList l new → Heap.SameBut l s.heap h' → Q () { s with heap := h' }) : wpAny (model prog w) A (setItem (.ref l) (.ref sl) (.ref D)) Q E s := by
  have hl := hp.isList
  obtain ⟨n, ho⟩ := id hp
  obtain ⟨os, hos, hcs, hds⟩ := id hs
  obtain ⟨oD, hoD, hcD, nD, hdD⟩ := id hD
  have hTs : s.TypeIs (.ref sl) "slice" := ⟨os, hos, hcs⟩
  unfold setItem
  refine wpAny_holding ?_
  refine wpAny_bind (wpAny_sequenceKey hl.typeIs (by decide) ?_)
  refine wpAny_bind (wpAny_callSpecial?_slot (name := Str.ofString "__setitem__") hl.typeIs slot_list_setitem
    (wpAny_call_entry slot_list_setitem hl.typeIs entry_list_setitem ?_ (args_list_setitem _ _ _)))
  show wpAny _ _ (Builtin.List.listSubscript? (.ref sl) >>= _) _ _ s
  refine wpAny_bind ?_
  unfold Builtin.List.listSubscript?
  refine wpAny_bind (wpAny_specialOf hTs slice_no_index ?_)
  simp only [Option.isNone_none, if_true]
  refine wpAny_pure ?_
  show wpAny _ _ (typeOf (.ref sl) >>= _) _ _ s
  refine wpAny_bind (wpAny_typeOf hTs ?_)
  rw [if_neg (by decide)]
  rw [listSliceParts_eq]
  refine wpAny_bind (wpAny_bind (wpAny_field hos hds (x := .none) rfl (wpAny_bind (wpAny_listPart .none ?_))))
  rw [if_neg (by decide)]
  refine wpAny_bind (wpAny_field hos hds (x := .none) rfl (wpAny_bind (wpAny_listPart .none ?_)))
  refine wpAny_bind (wpAny_field hos hds (x := .none) rfl (wpAny_bind (wpAny_listPart .none (wpAny_pure ?_))))
  dsimp only
  have hb : Builtin.List.listSameRef (.ref l) (.ref D) = false := by simp [Builtin.List.listSameRef, hne]
  rw [hb, if_neg (by decide)]
  unfold Builtin.List.listAllItems
  refine wpAny_bind (wpAny_bind (wpAny_typeOf hD.typeIs ?_))
  rw [if_pos (by decide)]
  unfold Builtin.List.listItems
  refine wpAny_bind (wpAny_seqItems hoD hdD ?_)
  refine wpAny_pure ?_
  refine wpAny_bind (wpAny_bind (wpAny_seqItems ho rfl (wpAny_pure ?_)))
  refine wpAny_bind (wpAny_of_eq (sliceIndices_raw none none none items.size (by simp)) ?_)
  have e1 : sliceBounds none none none items.size = (0, (items.size : Int), 1) := by simp [sliceBounds]
  rw [e1]
  dsimp only
  rw [if_pos (by decide)]
  refine wpAny_bind (wpAny_rule ?_)
  rw [if_neg (by unfold Builtin.List.listTooLong; simp; omega)]
  unfold Builtin.List.listUpdate
  refine wpAny_bind (wpAny_updateSeq ho rfl ?_)
  refine wpAny_bind (wpAny_letGo (wpAny_pure ⟨.none, rfl, wpAny_pure (h _ ?_ (Heap.SameBut.update ..))⟩))
  have e2 : (items.extract 0 (0 : Int).toNat ++ new ++ items.extract (max (0 : Int) (items.size : Int)).toNat items.size) = new := by
    have : (max (0 : Int) (items.size : Int)).toNat = items.size := by omega
    rw [this]; simp
  obtain ⟨n', e3⟩ := mapSeq_plain (f := fun xs => xs.extract 0 (0 : Int).toNat ++ new ++ xs.extract (max (0 : Int) (items.size : Int)).toNat xs.size) (xs := items) (n := n) e2
  exact ⟨n', by rw [Heap.get?_update_self _ ho rfl]; exact congrArg some e3⟩
end
end Mine
end

section
open PySem PySem.W PyProof.Rows PySem.Calls PySem.Spec
namespace Mine
section
variable {prog : Program} {w : World} {A : Around} {E : Value → Shared → Prop} {s : Shared}
/-- a call of a def that takes **kw and is given none -/
theorem enterK {Q : Value → Shared → Prop} {name qual : Str} {params : Arguments} {body : List Stmt} {scope : Scope} {dV kV doc pm cdv ct oc : Value} {an od : Option Addr} {osl : Array (Option Value)} {f : Addr} {pos : List Value} {n : Nat} (front : List (Str × Value)) (nm : Str)
    (G : Gd w s.heap) (R : Rm (n + 1) A)
    (ho : (Mine.hd.heap_39 w.params).lookup f = some ⟨oc, od, .func (fnOf name qual params body scope dV kV doc pm an cdv ct), osl⟩) (hcd : codeIn (Mine.hd.heap_39 w.params) cdv qual = true)
    (hbind : bindArgs (fnOf name qual params body scope dV kV doc pm an cdv ct) ⟨pos, []⟩ = (alloc { cls := .type "dict", data := .dict #[] } >>= fun D => pure (front ++ [(nm, Value.ref D)])))
    (hloc : ∀ D, ∀ y ∈ front ++ [(nm, Value.ref D)], scope.names.lookup y.1 = some .local)
    (hcell : ∀ x ∈ scope.names, x.2 ≠ .cell) (hco : scope.isCoroutine = false) (hgen : scope.isGenerator = false) (hk : scope.kind = .function)
    (h : ∀ g D L h₁ tk A', Rm n A' → (∀ b o, s.heap.get? b = some o → g.get? b = some o) → g.get? D = some { cls := .type "dict", data := .dict #[] } → s.heap.get? D = none → (D == sysModules) = false →
      Fr g L h₁ (fun y => (front ++ [(nm, Value.ref D)]).reverse.lookup y) →
      wpAny (model prog w) A' (execs body (envX qual scope L f cdv []))
        (fun fl s' => Q (match fl with | .ret v => v | _ => .none) s') No
        { s with heap := h₁, toks := tk }) :
    wpAny (model prog w) A (call (.ref f) pos) Q E s := by
  obtain ⟨mg, mb, T⟩ := G.t
  refine wpAny_call ?_
  refine codeAny_call_function (fd := fnOf name qual params body scope dV kV doc pm an cdv ct) (body := body) R.room (G.k _ _ ho) rfl hco hgen rfl (codeRec_of G.k hcd) ?_
  rw [hbind]
  refine wpAny_bind (wpAny_alloc (wpAny_pure ?_))
  have hk' : ∀ b o, s.heap.get? b = some o → (s.heap.push { cls := .type "dict", data := .dict #[] }).get? b = some o := fun b o e => Heap.get?_push_of_some _ e
  refine wpAny_newFunctionEnv hcell (hloc _) (fun h₀ hns₀ hsb₀ => ⟨(T.nolimit.keeps hk').fresh _ hsb₀, codeAny_func ?_⟩) hk
  refine wpAny_mono (h (s.heap.push { cls := .type "dict", data := .dict #[] }) s.heap.objs.size _ h₀ _ _ R.deep hk' (Heap.get?_push_size _ rfl) ?_ ?_ ⟨hns₀, fun b o e => ?_, Nat.le_refl _⟩) (fun _ _ q => q) fun _ _ q => q.elim
  · cases e : s.heap.get? s.heap.objs.size with
    | none => rfl
    | some o => exact absurd (Heap.lt_size e) (Nat.lt_irrefl _)
  · exact beq_eq_false_iff_ne.mpr fun e => absurd (modules_low T.nolimit) (by rw [← e]; exact Nat.lt_irrefl _)
  · exact hsb₀.extBut b o (Nat.ne_of_lt (Heap.lt_size e)) (Heap.get?_push_of_some _ e)
end
end Mine
end

section
open PySem PySem.W PyProof.Rows PySem.Calls PySem.Spec
namespace Mine
section
variable {prog : Program} {w : World} {A : Around} {E : Value → Shared → Prop} {s : Shared} {env : Env} {h₀ : Heap} {L : Addr}
/-- a turn's end, where P speaks of the heap -/
noncomputable def TurnR (s : Shared) (h₀ : Heap) (L : Addr) (Q : Flow → Shared → Prop) (cs : List (Addr × Obj)) (P : Heap → (Str → Option Value) → Prop) (fl : Flow) (s₃ : Shared) : Prop := match fl with
        | .next | .cont => ∃ h' tk' m', s₃ = { s with heap := h', toks := tk' } ∧ Fr h₀ L h' m' ∧ News h₀ L h' cs ∧ P h' m'
        | .brk => Q .next s₃
        | .ret v => Q (.ret v) s₃
noncomputable def rangeIt (i n : Nat) : Obj := { cls := .type "range_iterator", dict := none, data := .fields #[rawInt i, rawInt (n - i : Int), rawInt 1], slots := #[] }
/-- the loop over range(n), n an int at most 1000 -/
theorem for_range {x : Str} {px : Pos} {body : List Stmt} {Q : Flow → Shared → Prop} {ax : Addr} {n : Nat} {t u v : Tok} {m : Str → Option Value} {cs : List (Addr × Obj)}
    (P : Nat → Heap → (Str → Option Value) → Prop) (hL : env.locals = L) (hx : env.kindOf x = some .local)
    (hp : (env.scope.kind == .class || (env.scope.kind == .module && env.locals != env.globals)) = false) (hh : A.handled = none)
    (hr : IsRange s.heap ax 0 n 1 t u v) (hn : n ≤ 1000)
    (F : Fr h₀ L s.heap m) (N : News h₀ L s.heap cs) (hP : P 0 s.heap m)
    (stab : ∀ i h h' m m', Fr h₀ L h m → (∀ o, h.get? s.heap.objs.size = some o → ∃ k, o = rangeIt k n) → P i h m → (∀ b o, b ≠ s.heap.objs.size → b ≠ L → h.get? b = some o → h'.get? b = some o) → (∀ y, y ≠ x → m' y = m y) → P i h' m')
    (turn : ∀ i h tk m tv, i < n → Fr h₀ L h m → m x = some (.int (i : Nat) tv) → News h₀ L h ((s.heap.objs.size, rangeIt (i + 1) n) :: cs) → P i h m →
      wpAny (model prog w) A (execs body env) (TurnR s h₀ L Q ((s.heap.objs.size, rangeIt (i + 1) n) :: cs) (P (i + 1))) No { s with heap := h, toks := tk })
    (done : ∀ h tk m, Fr h₀ L h m → News h₀ L h cs → P n h m → Q .next { s with heap := h, toks := tk }) :
    wpAny (model prog w) A (pyIter (.ref ax)) (LoopOk prog w A env (.Name x px) body Q) No s := by
  have hsz : Builtin.Range.rangeSize 0 (n : Int) 1 = n := by
    unfold Builtin.Range.rangeSize
    rw [if_pos (by decide)]
    split
    · rw [Int.ediv_one]; omega
    · omega
  have hfit : ∀ i : Int, 0 ≤ i → i ≤ 1000 → Builtin.Range.rangeFitsLong i = true := by
    intro i h1 h2
    unfold Builtin.Range.rangeFitsLong
    rw [Bool.and_eq_true]
    exact ⟨decide_eq_true (by omega), decide_eq_true (by omega)⟩
  have hsm : Builtin.Range.small 0 (n : Int) 1 = true := by
    unfold Builtin.Range.small
    rw [hsz, hfit 0 (by omega) (by omega), hfit n (by omega) (by omega), hfit 1 (by omega) (by omega), if_pos (by decide), hfit _ (by omega) (by omega), Bool.or_true]
    rfl
  refine wpAny_pyIter_range hr hsm ?_
  rw [hsz]
  have e0 : ({ cls := .type "range_iterator", data := .fields #[rawInt 0, rawInt (n : Int), rawInt 1] } : Obj) = rangeIt 0 n := by simp [rangeIt]
  rw [e0]
  have Ipush := N.push F (rangeIt 0 n)
  have hI0 := Ipush (s.heap.objs.size, _) List.mem_cons_self
  have hIL : s.heap.objs.size ≠ L := hI0.2.1
  have hIn : h₀.get? s.heap.objs.size = none := hI0.2.2
  have hne : ∀ p ∈ cs, p.1 ≠ s.heap.objs.size := fun p hp => Nat.ne_of_lt (Heap.lt_size (N p hp).1)
  refine ⟨fun i s' => ∃ h tk m, s' = { s with heap := h, toks := tk } ∧ Fr h₀ L h m ∧ News h₀ L h ((s.heap.objs.size, rangeIt i n) :: cs) ∧ P i h m, n, ?_, ?_, ?_⟩
  · exact ⟨_, s.toks, m, rfl, F.push _, Ipush, stab 0 _ _ m m F (fun o e => absurd (Heap.lt_size e) (Nat.lt_irrefl _)) hP (fun b o _ _ e => Heap.get?_push_of_some _ e) fun _ _ => rfl⟩
  · rintro i s' hi ⟨h, tk, m, rfl, F, N, hP⟩
    have hit : IsRangeIter h s.heap.objs.size i (n - i : Int) 1 := (N _ List.mem_cons_self).1
    refine wpAny_pyNext_range_item (s := { s with heap := h, toks := tk }) hit (by omega) fun h₁ hit₁ hs₁ => ⟨_, rfl, wpAny_of_eq (a := ()) rfl ?_⟩
    have F₁ := F.change hs₁ hIL hIn
    have N₁ : News h₀ L h₁ cs := fun p hp => ⟨hs₁.extBut _ _ (hne p hp) (N p (List.mem_cons_of_mem _ hp)).1, (N p (List.mem_cons_of_mem _ hp)).2⟩
    refine wpAny_assign_Name (wpAny_storeName_local hx (by rw [hL]; exact F₁.ns) (fun h₂ hn₂ hs₂ => ?_) hp)
    rw [hL] at hn₂ hs₂
    have hit₂ : IsRangeIter h₂ s.heap.objs.size (i + 1 : Int) (n - i - 1 : Int) 1 := hs₂.extBut _ _ hIL hit₁
    have e1 : h₂.get? s.heap.objs.size = some (rangeIt (i + 1) n) := by
      have : rangeIt (i + 1) n = { cls := .type "range_iterator", dict := none, data := .fields #[rawInt (i + 1 : Int), rawInt (n - i - 1 : Int), rawInt 1], slots := #[] } := by
        unfold rangeIt
        have q1 : ((i + 1 : Nat) : Int) = (i : Int) + 1 := by omega
        have q2 : (n : Int) - ((i + 1 : Nat) : Int) = n - i - 1 := by omega
        rw [q2, q1]
      rw [this]; exact hit₂
    refine wpAny_mono (turn i h₂ _ (fun y => if y = x then some (.int i tk) else m y) tk hi (F₁.set hn₂ hs₂) (by simp) (fun p hp => ?_) (stab i _ _ m _ F (fun o e => ⟨i, by have := (N _ List.mem_cons_self).1; rw [e] at this; exact Option.some.inj this⟩) hP (fun b o hb hb' e => hs₂.extBut b o hb' (hs₁.extBut b o hb e)) fun y hy => by simp [hy])) (fun fl s₃ h₃ => ?_) fun _ _ e => e
    · rcases List.mem_cons.mp hp with rfl | hp
      · exact ⟨e1, hIL, hIn⟩
      · exact (N₁.set hs₂) p hp
    · cases fl with
      | next => obtain ⟨h', tk', m', rfl, F', N', hP'⟩ := h₃; exact ⟨h', tk', m', rfl, F', N', hP'⟩
      | cont => obtain ⟨h', tk', m', rfl, F', N', hP'⟩ := h₃; exact ⟨h', tk', m', rfl, F', N', hP'⟩
      | brk => exact h₃
      | ret v => exact h₃
  · rintro s' ⟨h, tk, m, rfl, F, N, hP⟩
    have hit : IsRangeIter h s.heap.objs.size n (n - n : Int) 1 := (N _ List.mem_cons_self).1
    refine wpAny_pyNext_range_end (s := { s with heap := h, toks := tk }) hh hit (by omega) fun h₁ he₁ => ⟨rfl, ?_⟩
    refine done h₁ tk m ⟨F.ns.extBut he₁ (Ne.symm hIL), fun b o e => he₁ b o (fun q => by rw [q, hIn] at e; cases e) (F.keep b o e), F.above⟩ (fun p hp => ⟨he₁ _ _ (hne p hp) (N p (List.mem_cons_of_mem _ hp)).1, (N p (List.mem_cons_of_mem _ hp)).2⟩) (stab n _ _ m m F (fun o e => ⟨n, by have := (N _ List.mem_cons_self).1; rw [e] at this; exact Option.some.inj this⟩) hP (fun b o hb _ e => he₁ b o hb e) fun _ _ => rfl)
end
end Mine
end

section
open PySem PySem.W PyProof.Rows PySem.Calls PySem.Spec
namespace Mine
/-- the turn of the outer loop of a comprehension with two clauses -/
theorem turn_outer (elt t1 iter t2 iter2 : PySem.Expr) (scope : Scope) (pos : Pos) (it acc : Value) (env : Env) :
    compTurn (.ListComp elt [⟨t1, iter, [], 0⟩, ⟨t2, iter2, [], 0⟩] scope pos) 0 it acc env = (standAt iter.pos >>= fun _ => pyNext it >>= fun r => match r with
      | none => pure (.done .next)
      | some v => letOwnedTupleGo t1 it v >>= fun _ => assign t1 env v >>= fun _ =>
        eval iter2 env >>= fun x => standAt iter2.pos >>= fun _ => foldedSetIterable iter2 env x >>= fun x =>
          holding [x] (pyIter x) >>= fun j => runOwn (.compStart (.ListComp elt [⟨t1, iter, [], 0⟩, ⟨t2, iter2, [], 0⟩] scope pos) 1 j acc env) env >>= fun _ =>
          again (.compLoop (.ListComp elt [⟨t1, iter, [], 0⟩, ⟨t2, iter2, [], 0⟩] scope pos) 0 it acc env)) := by rfl
theorem turn_inner (elt t1 iter t2 iter2 : PySem.Expr) (scope : Scope) (pos : Pos) (it acc : Value) (env : Env) :
    compTurn (.ListComp elt [⟨t1, iter, [], 0⟩, ⟨t2, iter2, [], 0⟩] scope pos) 1 it acc env = (standAt iter2.pos >>= fun _ => pyNext it >>= fun r => match r with
      | none => pure (.done .next)
      | some v => letOwnedTupleGo t2 it v >>= fun _ => assign t2 env v >>= fun _ =>
        (eval elt env >>= fun x => call (.builtin "list.append") [acc, x] >>= fun _ => pure ()) >>= fun _ =>
          again (.compLoop (.ListComp elt [⟨t1, iter, [], 0⟩, ⟨t2, iter2, [], 0⟩] scope pos) 1 it acc env)) := by rfl
section
variable {prog : Program} {w : World} {A : Around} {E : Value → Shared → Prop} {R : Result → Shared → Prop} {s : Shared}
theorem start_inner {elt t1 iter t2 iter2 : PySem.Expr} {scope : Scope} {pos : Pos} {it acc : Value} {env : Env}
    (h0 : codeAny (model prog w) A (.compLoop (.ListComp elt [⟨t1, iter, [], 0⟩, ⟨t2, iter2, [], 0⟩] scope pos) 1 it acc env) R s)
    (h : wpAny (model prog w) A (pyIter it) (fun it' s' => codeAny (model prog w) A (.compLoop (.ListComp elt [⟨t1, iter, [], 0⟩, ⟨t2, iter2, [], 0⟩] scope pos) 1 it' acc env) R s')
      (notedBy (model prog w) A env fun x s' => R (.error x) s') s) :
    codeAny (model prog w) A (.compStart (.ListComp elt [⟨t1, iter, [], 0⟩, ⟨t2, iter2, [], 0⟩] scope pos) 1 it acc env) R s := by
  refine codeAny_of_tree ?_
  show wpAny _ _ ((compStart (.ListComp elt [⟨t1, iter, [], 0⟩, ⟨t2, iter2, [], 0⟩] scope pos) 1 it acc env).onRaise (fun x => do noteFrame x env; standAt theWindowsPlace)) _ _ s
  refine wpAny_notedAt ?_
  unfold compStart
  show wpAny _ _ (ask >>= _) _ _ s
  refine wpAny_bind (wpAny_askSetting (wpAny_ite ?_))
  split
  · first
      | exact wpAny_bind (wpAny_pure (wpAny_pure (And.intro rfl h0)))
      | exact wpAny_pure (And.intro rfl h0)
  · refine wpAny_bind (wpAny_rule ?_)
    show wpAny _ _ (standAt iter2.pos >>= _) _ _ s
    exact wpAny_bind (wpAny_standAt (wpAny_bind (wpAny_mono h (fun it' s' h' => wpAny_pure (And.intro rfl h')) fun _ _ x => x)))

/-- the inner loop: all items of the list go behind what stands -/
theorem loop_inner {t1 iter iter2 : PySem.Expr} {y : Str} {pe py : Pos} {scope : Scope} {pos : Pos} {J ax D : Addr} {cenv : Env} {items ys : Array Value} {m : Str → Option Value}
    (hh : A.handled = none) (hy : cenv.kindOf y = some .local) (hk : cenv.scope.kind = .function) (hd : (y == ("__debug__" : Str)) = false)
    (hDJ : D ≠ J) (hDC : D ≠ cenv.locals) (hJC : J ≠ cenv.locals) (haJ : ax ≠ J) (haC : ax ≠ cenv.locals) (haD : ax ≠ D)
    (hit : s.heap.IsListIter J ax 0) (hl : s.heap.IsList ax items) (hacc : s.heap.PlainList D ys) (hn : s.heap.Ns cenv.locals m) (hsz : ys.size + items.size ≤ sizeLine)
    (hR : ∀ h' tk m', h'.Ns cenv.locals m' → h'.PlainList D (ys ++ items) → (∀ b o, b ≠ cenv.locals → b ≠ J → b ≠ D → s.heap.get? b = some o → h'.get? b = some o) → R (.ok .next) { s with heap := h', toks := tk }) :
    codeAny (model prog w) A (.compLoop (.ListComp (.Name y pe) [⟨t1, iter, [], 0⟩, ⟨.Name y py, iter2, [], 0⟩] scope pos) 1 (.ref J) (.ref D) cenv) R s := by
  refine codeAny_loop rfl (fun k s' => ∃ h' tk m' i, s' = { s with heap := h', toks := tk } ∧ h'.IsListIter J ax i ∧ h'.IsList ax items ∧ h'.PlainList D (ys ++ items.extract 0 i) ∧ h'.Ns cenv.locals m' ∧ i ≤ items.size ∧ k = items.size + 1 - i ∧
      ∀ b o, b ≠ cenv.locals → b ≠ J → b ≠ D → s.heap.get? b = some o → h'.get? b = some o) (fun k s' hI => ?_) (items.size + 1)
    ⟨s.heap, s.toks, m, 0, rfl, hit, hl, by simpa using hacc, hn, Nat.zero_le _, rfl, fun _ _ _ _ _ e => e⟩
  show wpAny _ A ((compTurn (.ListComp (.Name y pe) [⟨t1, iter, [], 0⟩, ⟨.Name y py, iter2, [], 0⟩] scope pos) 1 (.ref J) (.ref D) cenv).onRaise (fun x => do noteFrame x cenv; theTreesLotGoes x)) _ _ s'
  refine wpAny_noted ?_
  rw [turn_inner]
  obtain ⟨H, tk, m', i, rfl, hit', hl', hacc', hn', hi, rfl, hkp⟩ := hI
  refine wpAny_bind (wpAny_standAt (wpAny_bind ?_))
  cases hv : items[i]? with
  | none =>
    have hie : i = items.size := by have := Array.getElem?_eq_none_iff.mp hv; omega
    subst hie
    refine wpAny_pyNext_list_end hh hit' hl' hv fun h₁ he₁ => wpAny_pure ?_
    refine hR h₁ tk m' (hn'.extBut he₁ (Ne.symm hJC)) ?_ fun b o hbC hbI hbD e => he₁ b o hbI (hkp b o hbC hbI hbD e)
    have := hacc'.extBut he₁ hDJ
    simpa using this
  | some v =>
    have hlt : i < items.size := (Array.getElem?_eq_some_iff.mp hv).1
    refine wpAny_pyNext_list_item hit' hl' hv fun h₁ hit₁ hs₁ => ?_
    refine wpAny_bind (wpAny_of_eq (a := ()) rfl ?_)
    refine wpAny_bind (wpAny_assign_Name (wpAny_storeName_local hy (hn'.sameBut hs₁ (Ne.symm hJC)) (fun h₂ hn₂ hs₂ => ?_) (by simp [hk])))
    have up₂ : ∀ b o, b ≠ cenv.locals → b ≠ J → H.get? b = some o → h₂.get? b = some o := fun b o hbC hbI e => hs₂.extBut b o hbC (hs₁.extBut b o hbI e)
    refine wpAny_bind (wpAny_bind ?_)
    refine wpAny_Name (wpAny_loadName_local (v := v) hk hy hn₂ (by simp) ?_) hd
    have hz : (ys ++ items.extract 0 i).size ≤ sizeLine := by simp; omega
    refine wpAny_bind (wpAny_list_append_plain (hsz := hz) (hacc'.at fun o e => up₂ D o hDC hDJ e) fun h₃ hl₃ hs₃ => ?_)
    refine wpAny_pure (wpAny_pure ⟨rfl, items.size + 1 - (i + 1), by omega, h₃, _, _, i + 1, rfl, ?_, ?_, ?_, hn₂.sameBut hs₃ (Ne.symm hDC), hlt, rfl, ?_⟩)
    · exact (hit₁.extBut hs₂.extBut hJC).extBut hs₃.extBut (Ne.symm hDJ)
    · exact (hl'.at fun o e => up₂ ax o haC haJ e).extBut hs₃.extBut haD
    · have e : (ys ++ items.extract 0 i).push v = ys ++ items.extract 0 (i + 1) := by
        obtain ⟨_, rfl⟩ := Array.getElem?_eq_some_iff.mp hv
        apply Array.toList_inj.mp
        have : items.toList.take (i + 1) = items.toList.take i ++ [items[i]] := by rw [List.take_add_one]; simp [hlt]
        simp [this]
      rw [← e]; exact hl₃
    · exact fun b o hbC hbI hbD e => hs₃.extBut b o hbD (up₂ b o hbC hbI (hkp b o hbC hbI hbD e))

/-- a comprehension with two clauses, over a dict's keys and over the lists under them -/
theorem lc_two {env : Env} {iter iter2 : PySem.Expr} {x y : Str} {pe px py : Pos} {scope : Scope} {cl : List (Str × Addr)} {pos : Pos} {Q : Value → Shared → Prop} (its : Value → Array Value)
    (hclos : closureFor scope env = pure cl) (hcell : ∀ y ∈ scope.names, y.2 ≠ .cell) (hkind : scope.kind = .function)
    (hnames : ∀ y ∈ scope.names, y.2 = .local → scope.names.lookup y.1 = some .local) (hx : scope.names.lookup x = some .local) (hy : scope.names.lookup y = some .local) (hd : (y == ("__debug__" : Str)) = false) (hh : A.handled = none)
    (h : wpAny (model prog w) A (eval iter env) (fun xv s₁ => ∃ d kvs, xv = .ref d ∧ (d == sysModules) = false ∧ s₁.heap.DictOf (intKind prog w) d kvs ∧
      (∀ kv ∈ kvs, ∃ a, kv.2 = .ref a ∧ s₁.heap.IsList a (its kv.2)) ∧ (kvs.flatMap fun kv => (its kv.2).toList).length ≤ sizeLine ∧
      (∀ C k v key s₃ m₃ E', (k, v) ∈ kvs → s₃.heap.Ns C m₃ → (intKind prog w).is k key = true → m₃ x = some key → (∀ b o, s₁.heap.get? b = some o → s₃.heap.get? b = some o) →
        wpAny (model prog w) A (eval iter2 (compEnvC scope cl C env)) (fun z s₄ => z = v ∧ Keeps s₃ s₄) E' s₃) ∧
      (∀ D h' tk, s₁.heap.get? D = none → h'.PlainList D (kvs.flatMap fun kv => (its kv.2).toList).toArray →
        (∀ b o, s₁.heap.get? b = some o → h'.get? b = some o) → Q (.ref D) { s₁ with heap := h', toks := tk })) E s)
    (hs : ∀ x, foldedSetIterable iter env x = pure x := by intro _; rfl) (hs2 : ∀ env' x, foldedSetIterable iter2 env' x = pure x := by intro _ _; rfl) :
    wpAny (model prog w) A (eval (.ListComp (.Name y pe) [⟨.Name x px, iter, [], 0⟩, ⟨.Name y py, iter2, [], 0⟩] scope pos) env) Q E s := by
  rw [eval_ListComp]
  refine wpAny_comprehension_free (use := none) rfl hs hclos hkind hnames (wpAny_mono h (fun xv s₁ h₁ => ?_) fun _ _ e => e)
  obtain ⟨d, kvs, rfl, hdm, hdo, hls, hsz, hi2, hQ⟩ := h₁
  obtain ⟨ep, hda⟩ := hdo.dictAt
  refine wpAny_pyIter_dict hdm hda ?_
  have hI : (s₁.heap.push { cls := .type "dict_keyiterator", data := .fields #[.ref d, .int 0 0, .int kvs.length 0, .int ep 0] }).IsKeyIter s₁.heap.objs.size d 0 kvs.length ep := ⟨_, Heap.get?_push_size _ rfl, rfl, rfl⟩
  have up₂ : ∀ b o, s₁.heap.get? b = some o → (s₁.heap.push { cls := .type "dict_keyiterator", data := .fields #[.ref d, .int 0 0, .int kvs.length 0, .int ep 0] }).get? b = some o := fun b o e => Heap.get?_push_of_some _ e
  have hz₂ : (s₁.heap.push { cls := .type "dict_keyiterator", data := .fields #[.ref d, .int 0 0, .int kvs.length 0, .int ep 0] }).objs.size = s₁.heap.objs.size + 1 := Heap.size_push ..
  generalize s₁.heap.push { cls := .type "dict_keyiterator", data := .fields #[.ref d, .int 0 0, .int kvs.length 0, .int ep 0] } = H₂ at hI up₂ hz₂ ⊢
  refine wpAny_newObj_type (wpAny_newFunctionEnv hcell (by intro y hy; simp at hy) (fun h₁ hns₁ hsb₁ => ?_) hkind)
  dsimp only at hns₁ hsb₁ ⊢
  have hz₃ : (H₂.push { cls := .type "list", dict := none, data := .seq ([] : List Value).toArray }).objs.size = s₁.heap.objs.size + 2 := by rw [Heap.size_push, hz₂]
  have up₃ : ∀ b o, H₂.get? b = some o → (H₂.push { cls := .type "list", dict := none, data := .seq ([] : List Value).toArray }).get? b = some o := fun b o e => Heap.get?_push_of_some _ e
  have hD₃ : (H₂.push { cls := .type "list", dict := none, data := .seq ([] : List Value).toArray }).PlainList H₂.objs.size #[] := ⟨_, Heap.get?_push_size _ rfl⟩
  generalize H₂.push { cls := .type "list", dict := none, data := .seq ([] : List Value).toArray } = H₃ at hns₁ hsb₁ hz₃ up₃ hD₃ ⊢
  rw [hz₂] at hD₃ ⊢
  rw [hz₃] at hns₁ hsb₁ ⊢
  have low : ∀ b o, s₁.heap.get? b = some o → b < s₁.heap.objs.size := fun b o e => Heap.lt_size e
  have none_of : ∀ a, s₁.heap.objs.size ≤ a → s₁.heap.get? a = none := fun a ha => by
    cases e : s₁.heap.get? a with
    | none => rfl
    | some o => exact absurd (low _ _ e) (Nat.not_lt.mpr ha)
  have old : ∀ b o, b ≠ s₁.heap.objs.size + 2 → H₃.get? b = some o → h₁.get? b = some o := fun b o hb e => hsb₁.extBut b o hb (Heap.get?_push_of_some _ e)
  have hI₁ : h₁.IsKeyIter s₁.heap.objs.size d 0 kvs.length ep := by
    obtain ⟨o, ho, r⟩ := hI
    exact ⟨o, old _ _ (by omega) (up₃ _ _ ho), r⟩
  have hD₁ : h₁.PlainList (s₁.heap.objs.size + 1) #[] := hD₃.at fun o e => old _ o (by omega) e
  have old₁ : ∀ b o, s₁.heap.get? b = some o → h₁.get? b = some o := fun b o e => old b o (Nat.ne_of_lt (Nat.lt_of_lt_of_le (low _ _ e) (Nat.le_add_right _ 2))) (up₃ b o (up₂ b o e))
  have hxl : (compEnvC scope cl (s₁.heap.objs.size + 2) env).kindOf x = some .local := lookup_relabel_local hx
  have hyl : (compEnvC scope cl (s₁.heap.objs.size + 2) env).kindOf y = some .local := lookup_relabel_local hy
  have hkl : (compEnvC scope cl (s₁.heap.objs.size + 2) env).scope.kind = .function := hkind
  have hlen : ∀ i, ((kvs.take i).flatMap fun kv => (its kv.2).toList).length ≤ sizeLine := fun i => by
    refine Nat.le_trans ?_ hsz
    conv => rhs; rw [← List.take_append_drop i kvs, List.flatMap_append, List.length_append]
    exact Nat.le_add_right _ _
  have loop : ∀ s₃ : Shared, s₃ = { s₁ with heap := h₁, toks := s₁.toks + ([] : List (Str × Value)).length } →
      codeAny (model prog w) A (.compLoop (.ListComp (.Name y pe) [⟨.Name x px, iter, [], 0⟩, ⟨.Name y py, iter2, [], 0⟩] scope pos) 0 (.ref s₁.heap.objs.size) (.ref (s₁.heap.objs.size + 1)) (compEnvC scope cl (s₁.heap.objs.size + 2) env))
        (compPost (model prog w) A E none Q (.ref (s₁.heap.objs.size + 1)) (s₁.heap.objs.size + 2)) s₃ := by
    rintro s₃ rfl
    refine codeAny_loop rfl (fun k s' => ∃ h' tk m' i, s' = { s₁ with heap := h', toks := tk } ∧ h'.IsKeyIter s₁.heap.objs.size d i kvs.length ep ∧ h'.PlainList (s₁.heap.objs.size + 1) ((kvs.take i).flatMap fun kv => (its kv.2).toList).toArray ∧ h'.Ns (s₁.heap.objs.size + 2) m' ∧ i ≤ kvs.length ∧ k = kvs.length + 1 - i ∧
        ∀ b o, s₁.heap.get? b = some o → h'.get? b = some o) (fun k s' hI => ?_) (kvs.length + 1)
      ⟨h₁, _, _, 0, rfl, hI₁, by simpa using hD₁, hns₁, Nat.zero_le _, rfl, old₁⟩
    show wpAny _ A ((compTurn (.ListComp (.Name y pe) [⟨.Name x px, iter, [], 0⟩, ⟨.Name y py, iter2, [], 0⟩] scope pos) 0 (.ref s₁.heap.objs.size) (.ref (s₁.heap.objs.size + 1)) (compEnvC scope cl (s₁.heap.objs.size + 2) env)).onRaise (fun x => do noteFrame x (compEnvC scope cl (s₁.heap.objs.size + 2) env); theTreesLotGoes x)) _ _ s'
    refine wpAny_noted ?_
    rw [turn_outer]
    obtain ⟨H, tk, m', i, rfl, hit', hacc', hn', hi, rfl, hkp⟩ := hI
    refine wpAny_bind (wpAny_standAt (wpAny_bind ?_))
    have hda' : H.DictAt (intKind prog w) d kvs ep := hda.keep hkp
    cases hv : kvs[i]? with
    | none =>
      have hie : i = kvs.length := by have := List.getElem?_eq_none_iff.mp hv; omega
      subst hie
      refine wpAny_pyNext_dict_end hh hit' hda' hv fun h₂ he₂ => wpAny_pure ?_
      refine ⟨m', hn'.extBut he₂ (by show s₁.heap.objs.size + 2 ≠ s₁.heap.objs.size; omega), fun h₃ hs₃ => ?_⟩
      rw [List.take_length] at hacc'
      refine hQ _ h₃ tk (none_of _ (Nat.le_add_right _ 1)) ((hacc'.extBut he₂ (by show s₁.heap.objs.size + 1 ≠ s₁.heap.objs.size; omega)).extBut hs₃.extBut (by show s₁.heap.objs.size + 1 ≠ s₁.heap.objs.size + 2; omega)) fun b o e => ?_
      have hlt := low _ _ e
      exact hs₃.extBut b o (Nat.ne_of_lt (Nat.lt_of_lt_of_le hlt (Nat.le_add_right _ 2))) (he₂ b o (Nat.ne_of_lt hlt) (hkp b o e))
    | some kv =>
      obtain ⟨kk, kval⟩ := kv
      have hlt : i < kvs.length := (List.getElem?_eq_some_iff.mp hv).1
      have hmem : (kk, kval) ∈ kvs := List.mem_of_getElem? hv
      refine wpAny_pyNext_dict_item hit' hda' hv fun key h₂ hkey hit₂ hs₂ => ?_
      refine wpAny_bind (wpAny_of_eq (a := ()) rfl ?_)
      refine wpAny_bind (wpAny_assign_Name (wpAny_storeName_local hxl (hn'.sameBut hs₂ (by show s₁.heap.objs.size + 2 ≠ s₁.heap.objs.size; omega)) (fun h₃ hn₃ hs₃ => ?_) (by simp [hkl])))
      have up : ∀ b o, b ≠ s₁.heap.objs.size → b ≠ s₁.heap.objs.size + 2 → H.get? b = some o → h₃.get? b = some o := fun b o hb hb' e => hs₃.extBut b o hb' (hs₂.extBut b o hb e)
      have upo : ∀ b o, s₁.heap.get? b = some o → h₃.get? b = some o := fun b o e => up b o (Nat.ne_of_lt (low _ _ e)) (Nat.ne_of_lt (Nat.lt_of_lt_of_le (low _ _ e) (Nat.le_add_right _ 2))) (hkp b o e)
      refine wpAny_bind (wpAny_mono (hi2 _ kk kval key _ _ _ hmem hn₃ hkey (by simp) upo) (fun z s₄ h₄ => ?_) fun _ _ e => e)
      obtain ⟨rfl, h₄, tk₄, rfl, hk₄⟩ := h₄
      refine wpAny_bind (wpAny_standAt (wpAny_bind (wpAny_of_eq (hs2 _ _) ?_)))
      obtain ⟨a, e, hla⟩ := hls _ hmem
      dsimp only at e hla
      subst e
      have hla₄ : h₄.IsList a (its (.ref a)) := hla.at fun o e => hk₄ _ o (upo _ o e)
      have ha : a < s₁.heap.objs.size := by obtain ⟨o, ho, _⟩ := id hla; exact low _ _ ho
      have hz₄ : s₁.heap.objs.size + 2 < h₄.objs.size := by obtain ⟨o, _, _, ho, _⟩ := hn₃; exact Heap.lt_size (hk₄ _ _ ho)
      refine wpAny_bind (wpAny_holding (wpAny_pyIter_list hla₄ (wpAny_bind (wpAny_runOwn ?_))))
      have hit₅ : (h₄.push { cls := .type "list_iterator", data := .fields #[.ref a, .int 0 0] }).IsListIter h₄.objs.size a 0 := ⟨_, Heap.get?_push_size _ rfl, rfl, rfl⟩
      have up₅ : ∀ b o, h₄.get? b = some o → (h₄.push { cls := .type "list_iterator", data := .fields #[.ref a, .int 0 0] }).get? b = some o := fun b o e => Heap.get?_push_of_some _ e
      generalize h₄.push { cls := .type "list_iterator", data := .fields #[.ref a, .int 0 0] } = h₅ at hit₅ up₅ ⊢
      generalize h₄.objs.size = J at hit₅ hz₄ ⊢
      have hJ2 : J ≠ s₁.heap.objs.size + 2 := Nat.ne_of_gt hz₄
      have hJ1 : J ≠ s₁.heap.objs.size + 1 := Nat.ne_of_gt (Nat.lt_trans (Nat.lt_succ_self _) hz₄)
      have hJ0 : J ≠ s₁.heap.objs.size := Nat.ne_of_gt (Nat.lt_trans (Nat.lt_add_of_pos_right (by omega)) hz₄)
      have ha0 : a ≠ s₁.heap.objs.size := Nat.ne_of_lt ha
      have ha1 : a ≠ s₁.heap.objs.size + 1 := Nat.ne_of_lt (Nat.lt_of_lt_of_le ha (Nat.le_add_right _ 1))
      have ha2 : a ≠ s₁.heap.objs.size + 2 := Nat.ne_of_lt (Nat.lt_of_lt_of_le ha (Nat.le_add_right _ 2))
      have haJ : a ≠ J := Nat.ne_of_lt (Nat.lt_trans ha (Nat.lt_of_le_of_lt (Nat.le_add_right _ 2) hz₄))
      have htake : (kvs.take (i + 1)).flatMap (fun kv => (its kv.2).toList) = (kvs.take i).flatMap (fun kv => (its kv.2).toList) ++ (its (.ref a)).toList := by
        rw [List.take_add_one, hv, List.flatMap_append]; simp
      have inner : ∀ (RR : Result → Shared → Prop) (s₅ : Shared), s₅ = { s₁ with heap := h₅, toks := tk₄ } →
          (∀ h₆ tk₆ m₆, h₆.Ns (s₁.heap.objs.size + 2) m₆ → h₆.PlainList (s₁.heap.objs.size + 1) ((kvs.take (i + 1)).flatMap fun kv => (its kv.2).toList).toArray →
            (∀ b o, b ≠ s₁.heap.objs.size + 2 → b ≠ J → b ≠ s₁.heap.objs.size + 1 → h₅.get? b = some o → h₆.get? b = some o) → RR (.ok .next) { s₁ with heap := h₆, toks := tk₆ }) →
          codeAny (model prog w) A (.compLoop (.ListComp (.Name y pe) [⟨.Name x px, iter, [], 0⟩, ⟨.Name y py, iter2, [], 0⟩] scope pos) 1 (.ref J) (.ref (s₁.heap.objs.size + 1)) (compEnvC scope cl (s₁.heap.objs.size + 2) env)) RR s₅ := by
        rintro RR s₅ rfl fin
        refine loop_inner (ax := a) (items := its (.ref a)) (ys := ((kvs.take i).flatMap fun kv => (its kv.2).toList).toArray) hh hyl hkl hd (Ne.symm hJ1) ?_ hJ2 haJ ha2 ha1 hit₅ (hla₄.at fun o e => up₅ _ o e)
          (hacc'.at fun o e => up₅ _ o (hk₄ _ o (up _ o (by omega) (by omega) e))) ((hn₃.keeps hk₄).keeps up₅) ?_ fun h₆ tk₆ m₆ hn₆ hD₆ hk₆ => ?_
        · show s₁.heap.objs.size + 1 ≠ s₁.heap.objs.size + 2; omega
        · have := hlen (i + 1)
          rw [htake, List.length_append] at this
          simpa using this
        · refine fin h₆ tk₆ m₆ hn₆ ?_ hk₆
          have e : ((kvs.take i).flatMap (fun kv => (its kv.2).toList)).toArray ++ its (.ref a) = ((kvs.take i).flatMap (fun kv => (its kv.2).toList) ++ (its (.ref a)).toList).toArray := by apply Array.toList_inj.mp; simp
          rw [htake, ← e]; exact hD₆
      refine (fun fin => start_inner (inner _ _ rfl fin) (wpAny_pyIter_listiter hit₅ (inner _ _ rfl fin))) ?_
      intro h₆ tk₆ m₆ hn₆ hD₆ hk₆
      refine wpAny_pure ⟨rfl, kvs.length + 1 - (i + 1), by omega, h₆, tk₆, m₆, i + 1, rfl, ?_, hD₆, hn₆, hlt, rfl, fun b o e => ?_⟩
      · obtain ⟨o, ho, r⟩ := hit₂
        exact ⟨o, hk₆ _ o (by show s₁.heap.objs.size ≠ s₁.heap.objs.size + 2; omega) (Ne.symm hJ0) (by show s₁.heap.objs.size ≠ s₁.heap.objs.size + 1; omega) (up₅ _ o (hk₄ _ o (hs₃.extBut _ o (by show s₁.heap.objs.size ≠ s₁.heap.objs.size + 2; omega) ho))), r⟩
      · have hb := low _ _ e
        exact hk₆ b o (Nat.ne_of_lt (Nat.lt_of_lt_of_le hb (Nat.le_add_right _ 2))) (Nat.ne_of_lt (Nat.lt_trans hb (Nat.lt_of_le_of_lt (Nat.le_add_right _ 2) hz₄))) (Nat.ne_of_lt (Nat.lt_of_lt_of_le hb (Nat.le_add_right _ 1))) (up₅ b o (hk₄ b o (upo b o e)))
  refine codeAny_compStart_list (loop _ rfl) (wpAny_pyIter_keyiter hI₁ (loop _ rfl))
end
end Mine
end

section
open PySem PySem.W PyProof.Rows PySem.Calls PySem.Spec
namespace Mine
theorem Paired.imp {α β : Type} {F G : α → β → Prop} (h : ∀ a b, F a b → G a b) : ∀ {l₁ : List α} {l₂ : List β}, Paired F l₁ l₂ → Paired G l₁ l₂
  | _, _, .nil => .nil
  | _, _, .cons x r => .cons (h _ _ x) (Paired.imp h r)
section
variable {prog : Program} {w : World} {A : Around} {E : Value → Shared → Prop} {s : Shared}
/-- the block of a comprehension over a list whose items are new objects -/
theorem obj_core {env : Env} {elt iter : PySem.Expr} {x : Str} {px : Pos} {scope : Scope} {cl : List (Str × Addr)} {pos : Pos} {s₁ : Shared} {ax : Addr} {items : Array Value} (G : Value → Obj → Prop) {RR : Value → Addr → Result → Shared → Prop}
    (hcell : ∀ y ∈ scope.names, y.2 ≠ .cell) (hkind : scope.kind = .function) (hx : scope.names.lookup x = some .local) (hh : A.handled = none) (hl : s₁.heap.IsList ax items) (hsz : items.size ≤ sizeLine)
    (helt : ∀ C v s₃ m₃, v ∈ items.toList → s₃.heap.Ns C m₃ → m₃ x = some v → (∀ b o, s₁.heap.get? b = some o → s₃.heap.get? b = some o) →
        wpAny (model prog w) A (eval elt (compEnvC scope cl C env)) (fun y s₄ => (∃ a o, y = .ref a ∧ s₃.heap.get? a = none ∧ s₄.heap.get? a = some o ∧ G v o) ∧ Keeps s₃ s₄) No s₃)
    (hRR : ∀ D C h' tk m' ys, s₁.heap.get? D = none → s₁.heap.get? C = none → D ≠ C → h'.Ns C m' → h'.PlainList D ys → Paired (fun v y => ∃ a o, y = .ref a ∧ s₁.heap.get? a = none ∧ a ≠ D ∧ a ≠ C ∧ h'.get? a = some o ∧ G v o) items.toList ys.toList →
        (∀ b o, s₁.heap.get? b = some o → h'.get? b = some o) → RR (.ref D) C (.ok .next) { s₁ with heap := h', toks := tk }) :
    wpAny (model prog w) A (pyIter (.ref ax)) (fun it s₂ => wpAny (model prog w) A (newList []) (fun acc s₃ => wpAny (model prog w) A (newFunctionEnv scope env.globals cl [] env.qual none .none (some env)) (fun cenv s₄ =>
      codeAny (model prog w) A (.compStart (.ListComp elt [⟨.Name x px, iter, [], 0⟩] scope pos) 0 it acc { cenv with scope := relabel scope env }) (RR acc cenv.locals) s₄) E s₃) E s₂) E s₁ := by
  refine wpAny_pyIter_list hl ?_
  have hI : (s₁.heap.push { cls := .type "list_iterator", data := .fields #[.ref ax, .int 0 0] }).IsListIter s₁.heap.objs.size ax 0 := ⟨_, Heap.get?_push_size _ rfl, rfl, rfl⟩
  have up₂ : ∀ b o, s₁.heap.get? b = some o → (s₁.heap.push { cls := .type "list_iterator", data := .fields #[.ref ax, .int 0 0] }).get? b = some o := fun b o e => Heap.get?_push_of_some _ e
  have hz₂ : (s₁.heap.push { cls := .type "list_iterator", data := .fields #[.ref ax, .int 0 0] }).objs.size = s₁.heap.objs.size + 1 := Heap.size_push ..
  generalize s₁.heap.push { cls := .type "list_iterator", data := .fields #[.ref ax, .int 0 0] } = H₂ at hI up₂ hz₂ ⊢
  refine wpAny_newObj_type (wpAny_newFunctionEnv hcell (by intro y hy; simp at hy) (fun h₁ hns₁ hsb₁ => ?_) hkind)
  dsimp only at hns₁ hsb₁ ⊢
  have hz₃ : (H₂.push { cls := .type "list", dict := none, data := .seq ([] : List Value).toArray }).objs.size = s₁.heap.objs.size + 2 := by rw [Heap.size_push, hz₂]
  have up₃ : ∀ b o, H₂.get? b = some o → (H₂.push { cls := .type "list", dict := none, data := .seq ([] : List Value).toArray }).get? b = some o := fun b o e => Heap.get?_push_of_some _ e
  have hD₃ : (H₂.push { cls := .type "list", dict := none, data := .seq ([] : List Value).toArray }).PlainList H₂.objs.size #[] := ⟨_, Heap.get?_push_size _ rfl⟩
  generalize H₂.push { cls := .type "list", dict := none, data := .seq ([] : List Value).toArray } = H₃ at hns₁ hsb₁ hz₃ up₃ hD₃ ⊢
  rw [hz₂] at hD₃ ⊢
  rw [hz₃] at hns₁ hsb₁ ⊢
  have low : ∀ b o, s₁.heap.get? b = some o → b < s₁.heap.objs.size := fun b o e => Heap.lt_size e
  have none_of : ∀ a, s₁.heap.objs.size ≤ a → s₁.heap.get? a = none := fun a ha => by
    cases e : s₁.heap.get? a with
    | none => rfl
    | some o => exact absurd (low _ _ e) (Nat.not_lt.mpr ha)
  have old : ∀ b o, b ≠ s₁.heap.objs.size + 2 → H₃.get? b = some o → h₁.get? b = some o := fun b o hb e => hsb₁.extBut b o hb (Heap.get?_push_of_some _ e)
  have n01 : s₁.heap.objs.size ≠ s₁.heap.objs.size + 1 := Nat.ne_of_lt (Nat.lt_succ_self _)
  have n02 : s₁.heap.objs.size ≠ s₁.heap.objs.size + 2 := Nat.ne_of_lt (Nat.lt_add_of_pos_right (by omega))
  have n12 : s₁.heap.objs.size + 1 ≠ s₁.heap.objs.size + 2 := Nat.ne_of_lt (Nat.lt_succ_self _)
  have lne : ∀ b o, s₁.heap.get? b = some o → b ≠ s₁.heap.objs.size ∧ b ≠ s₁.heap.objs.size + 1 ∧ b ≠ s₁.heap.objs.size + 2 := fun b o e =>
    ⟨Nat.ne_of_lt (low _ _ e), Nat.ne_of_lt (Nat.lt_of_lt_of_le (low _ _ e) (Nat.le_add_right _ 1)), Nat.ne_of_lt (Nat.lt_of_lt_of_le (low _ _ e) (Nat.le_add_right _ 2))⟩
  have hI₁ : h₁.IsListIter s₁.heap.objs.size ax 0 := by
    obtain ⟨o, ho, r⟩ := hI
    exact ⟨o, old _ _ n02 (up₃ _ _ ho), r⟩
  have hD₁ : h₁.PlainList (s₁.heap.objs.size + 1) #[] := hD₃.at fun o e => old _ o n12 e
  have old₁ : ∀ b o, s₁.heap.get? b = some o → h₁.get? b = some o := fun b o e => old b o (lne _ _ e).2.2 (up₃ b o (up₂ b o e))
  have hax : ax ≠ s₁.heap.objs.size := by obtain ⟨o, ho, _⟩ := id hl; exact (lne _ _ ho).1
  have hxl : (compEnvC scope cl (s₁.heap.objs.size + 2) env).kindOf x = some .local := lookup_relabel_local hx
  have hkl : (compEnvC scope cl (s₁.heap.objs.size + 2) env).scope.kind = .function := hkind
  have loop : ∀ s₃ : Shared, s₃ = { s₁ with heap := h₁, toks := s₁.toks + ([] : List (Str × Value)).length } →
      codeAny (model prog w) A (.compLoop (.ListComp elt [⟨.Name x px, iter, [], 0⟩] scope pos) 0 (.ref s₁.heap.objs.size) (.ref (s₁.heap.objs.size + 1)) (compEnvC scope cl (s₁.heap.objs.size + 2) env))
        (RR (.ref (s₁.heap.objs.size + 1)) (s₁.heap.objs.size + 2)) s₃ := by
    rintro s₃ rfl
    refine codeAny_compLoop_list (fun k s' => ∃ h' tk m' i ys, s' = { s₁ with heap := h', toks := tk } ∧ h'.IsListIter s₁.heap.objs.size ax i ∧ h'.PlainList (s₁.heap.objs.size + 1) ys ∧ h'.Ns (s₁.heap.objs.size + 2) m' ∧ i ≤ items.size ∧ k = items.size + 1 - i ∧
        Paired (fun v y => ∃ a o, y = .ref a ∧ s₁.heap.get? a = none ∧ a ≠ s₁.heap.objs.size ∧ a ≠ s₁.heap.objs.size + 1 ∧ a ≠ s₁.heap.objs.size + 2 ∧ h'.get? a = some o ∧ G v o) (items.toList.take i) ys.toList ∧
        ∀ b o, s₁.heap.get? b = some o → h'.get? b = some o) (fun k s' hI => ?_) (items.size + 1)
      ⟨h₁, _, _, 0, #[], rfl, hI₁, hD₁, hns₁, Nat.zero_le _, rfl, by simpa using Paired.nil, old₁⟩
    obtain ⟨H, tk, m', i, ys, rfl, hit', hacc', hn', hi, rfl, hpd, hkp⟩ := hI
    have hl' : H.IsList ax items := hl.at fun o e => hkp _ o e
    cases hv : items[i]? with
    | none =>
      have hie : i = items.size := by have := Array.getElem?_eq_none_iff.mp hv; omega
      subst hie
      refine wpAny_pyNext_list_end hh hit' hl' hv fun h₂ he₂ => ?_
      refine hRR _ _ h₂ tk m' ys (none_of _ (Nat.le_add_right _ 1)) (none_of _ (Nat.le_add_right _ 2)) n12 (hn'.extBut he₂ (Ne.symm n02)) (hacc'.extBut he₂ (Ne.symm n01)) ?_ fun b o e => he₂ b o (lne _ _ e).1 (hkp b o e)
      have e1 : items.toList.take items.size = items.toList := List.take_of_length_le (by simp)
      rw [e1] at hpd
      refine Paired.imp ?_ hpd
      rintro v y ⟨a, o, rfl, e0, h0, h1, h2, ho, hG⟩
      exact ⟨a, o, rfl, e0, h1, h2, he₂ a o h0 ho, hG⟩
    | some v =>
      have hlt : i < items.size := (Array.getElem?_eq_some_iff.mp hv).1
      have hvl : items.toList[i]? = some v := by simpa using hv
      refine wpAny_pyNext_list_item hit' hl' hv fun h₂ hit₂ hs₂ => ?_
      refine wpAny_assign_Name (wpAny_storeName_local hxl (hn'.sameBut hs₂ (Ne.symm n02)) (fun h₃ hn₃ hs₃ => ?_) (by simp [hkl]))
      have up : ∀ b o, b ≠ s₁.heap.objs.size → b ≠ s₁.heap.objs.size + 2 → H.get? b = some o → h₃.get? b = some o := fun b o hb hb' e => hs₃.extBut b o hb' (hs₂.extBut b o hb e)
      have upo : ∀ b o, s₁.heap.get? b = some o → h₃.get? b = some o := fun b o e => up b o (lne _ _ e).1 (lne _ _ e).2.2 (hkp b o e)
      refine wpAny_mono (noE (helt _ v _ _ (List.mem_of_getElem? hvl) hn₃ (by simp) upo)) (fun y s₄ h₄ => ?_) fun _ _ e => e
      obtain ⟨⟨a, o, rfl, ha, ho, hG⟩, h₄, tk₄, rfl, hk₄⟩ := h₄
      have hacc₃ : h₃.PlainList (s₁.heap.objs.size + 1) ys := hacc'.at fun o e => up _ o (Ne.symm n01) n12 e
      have hit₃ : h₃.IsListIter s₁.heap.objs.size ax (i + 1) := hit₂.extBut hs₃.extBut n02
      dsimp only at ha ho
      have a0 : a ≠ s₁.heap.objs.size := by rintro rfl; obtain ⟨o', e, _⟩ := hit₃; rw [ha] at e; cases e
      have a1 : a ≠ s₁.heap.objs.size + 1 := by rintro rfl; obtain ⟨n', e⟩ := hacc₃; rw [ha] at e; cases e
      have a2 : a ≠ s₁.heap.objs.size + 2 := by
        intro q
        obtain ⟨o', _, _, e, _⟩ := hn₃
        replace e : h₃.get? (s₁.heap.objs.size + 2) = some o' := e
        rw [← q, ha] at e; cases e
      have aN : s₁.heap.get? a = none := by
        cases e : s₁.heap.get? a with
        | none => rfl
        | some o' => have := upo _ _ e; rw [ha] at this; cases this
      have hys : ys.size ≤ sizeLine := by
        have e1 := hpd.length
        have e2 : (items.toList.take i).length ≤ items.size := by simp; omega
        have e4 : ys.toList.length = ys.size := by simp
        omega
      refine wpAny_list_append_plain (hsz := hys) (hacc₃.at fun o e => hk₄ _ o e) fun h₅ hl₅ hs₅ => ?_
      have up₅ : ∀ b o, b ≠ s₁.heap.objs.size + 1 → h₄.get? b = some o → h₅.get? b = some o := fun b o hb e => hs₅.extBut b o hb e
      refine ⟨items.size + 1 - (i + 1), by omega, h₅, tk₄, _, i + 1, ys.push (.ref a), rfl, (hit₃.at fun o e => hk₄ _ o e).extBut hs₅.extBut n01, hl₅, (hn₃.keeps hk₄).sameBut hs₅ (Ne.symm n12), hlt, rfl, ?_, fun b o e => up₅ b o (lne _ _ e).2.1 (hk₄ b o (upo b o e))⟩
      have e1 : items.toList.take (i + 1) = items.toList.take i ++ [v] := by rw [List.take_add_one, hvl]; rfl
      rw [e1, Array.toList_push]
      refine Paired.snoc ?_ ⟨a, o, rfl, aN, a0, a1, a2, up₅ a o a1 ho, hG⟩
      refine Paired.imp ?_ hpd
      rintro v' y' ⟨b, o', rfl, e0, h0, h1, h2, ho', hG'⟩
      exact ⟨b, o', rfl, e0, h0, h1, h2, up₅ b o' h1 (hk₄ b o' (up b o' h0 h2 ho')), hG'⟩
  exact codeAny_compStart_list (loop _ rfl) (wpAny_pyIter_listiter hI₁ (loop _ rfl))
/-- a comprehension over a list whose items are new objects, each told by itself -/
theorem lc_obj {env : Env} {elt iter : PySem.Expr} {x : Str} {px : Pos} {scope : Scope} {cl : List (Str × Addr)} {pos : Pos} {Q : Value → Shared → Prop} (G : Value → Obj → Prop)
    (hclos : closureFor scope env = pure cl) (hcell : ∀ y ∈ scope.names, y.2 ≠ .cell) (hkind : scope.kind = .function)
    (hnames : ∀ y ∈ scope.names, y.2 = .local → scope.names.lookup y.1 = some .local) (hx : scope.names.lookup x = some .local) (hh : A.handled = none)
    (h : wpAny (model prog w) A (eval iter env) (fun xv s₁ => ∃ ax items, xv = .ref ax ∧ s₁.heap.IsList ax items ∧ items.size ≤ sizeLine ∧
      (∀ C v s₃ m₃, v ∈ items.toList → s₃.heap.Ns C m₃ → m₃ x = some v → (∀ b o, s₁.heap.get? b = some o → s₃.heap.get? b = some o) →
        wpAny (model prog w) A (eval elt (compEnvC scope cl C env)) (fun y s₄ => (∃ a o, y = .ref a ∧ s₃.heap.get? a = none ∧ s₄.heap.get? a = some o ∧ G v o) ∧ Keeps s₃ s₄) No s₃) ∧
      (∀ D h' tk ys, s₁.heap.get? D = none → h'.PlainList D ys → Paired (fun v y => ∃ a o, y = .ref a ∧ s₁.heap.get? a = none ∧ a ≠ D ∧ h'.get? a = some o ∧ G v o) items.toList ys.toList →
        (∀ b o, s₁.heap.get? b = some o → h'.get? b = some o) → Q (.ref D) { s₁ with heap := h', toks := tk })) E s)
    (hs : ∀ x, foldedSetIterable iter env x = pure x := by intro _; rfl) :
    wpAny (model prog w) A (eval (.ListComp elt [⟨.Name x px, iter, [], 0⟩] scope pos) env) Q E s := by
  rw [eval_ListComp]
  refine wpAny_comprehension_free (use := none) rfl hs hclos hkind hnames (wpAny_mono h (fun xv s₁ h₁ => ?_) fun _ _ e => e)
  obtain ⟨ax, items, rfl, hl, hsz, helt, hQ⟩ := h₁
  exact obj_core (RR := fun acc C => compPost (model prog w) A E none Q acc C) G hcell hkind hx hh hl hsz helt fun D C h' tk m' ys hD hC hDC hn hpl hP hk =>
    ⟨m', hn, fun h₃ hs₃ => hQ D h₃ tk ys hD (hpl.extBut hs₃.extBut hDC) (Paired.imp (fun v y ⟨a, o, e, e0, h1, h2, ho, hG⟩ => ⟨a, o, e, e0, h1, hs₃.extBut a o h2 ho, hG⟩) hP) fun b o e => hs₃.extBut b o (by rintro rfl; rw [hC] at e; cases e) (hk b o e)⟩
end
end Mine
end

section
open PySem PySem.W PyProof.Rows PySem.Calls PySem.Spec
namespace Mine
theorem range_small {n : Nat} (hn : n ≤ 1000) : Builtin.Range.rangeSize 0 (n : Int) 1 = n ∧ Builtin.Range.small 0 (n : Int) 1 = true := by
  have hsz : Builtin.Range.rangeSize 0 (n : Int) 1 = n := by
    unfold Builtin.Range.rangeSize
    rw [if_pos (by decide)]
    split
    · rw [Int.ediv_one]; omega
    · omega
  have hfit : ∀ i : Int, 0 ≤ i → i ≤ 1000 → Builtin.Range.rangeFitsLong i = true := by
    intro i h1 h2
    unfold Builtin.Range.rangeFitsLong
    rw [Bool.and_eq_true]
    exact ⟨decide_eq_true (by omega), decide_eq_true (by omega)⟩
  refine ⟨hsz, ?_⟩
  unfold Builtin.Range.small
  rw [hsz, hfit 0 (by omega) (by omega), hfit n (by omega) (by omega), hfit 1 (by omega) (by omega), if_pos (by decide), hfit _ (by omega) (by omega), Bool.or_true]
  rfl
section
variable {prog : Program} {w : World} {A : Around} {E : Value → Shared → Prop} {s : Shared}
/-- a comprehension over range(n) -/
theorem lc_range {env : Env} {elt iter : PySem.Expr} {x : Str} {px : Pos} {scope : Scope} {cl : List (Str × Addr)} {pos : Pos} {Q : Value → Shared → Prop} {n : Nat} (F : Value → Value → Prop)
    (hclos : closureFor scope env = pure cl) (hcell : ∀ y ∈ scope.names, y.2 ≠ .cell) (hkind : scope.kind = .function)
    (hnames : ∀ y ∈ scope.names, y.2 = .local → scope.names.lookup y.1 = some .local) (hx : scope.names.lookup x = some .local) (hh : A.handled = none) (hn : n ≤ 1000)
    (h : wpAny (model prog w) A (eval iter env) (fun xv s₁ => ∃ ax t u v, xv = .ref ax ∧ IsRange s₁.heap ax 0 n 1 t u v ∧
      (∀ C (k : Nat) tv s₃ m₃, k < n → s₃.heap.Ns C m₃ → m₃ x = some (.int (k : Nat) tv) → (∀ b o, s₁.heap.get? b = some o → s₃.heap.get? b = some o) →
        wpAny (model prog w) A (eval elt (compEnvC scope cl C env)) (fun y s₄ => F (.int (k : Nat) tv) y ∧ Keeps s₃ s₄) No s₃) ∧
      (∀ D h' tk ys (vs : List Value), h'.PlainList D ys → IntsAre vs ((List.range n).map Int.ofNat) → Paired F vs ys.toList →
        (∀ b o, s₁.heap.get? b = some o → h'.get? b = some o) → Q (.ref D) { s₁ with heap := h', toks := tk })) E s)
    (hs : ∀ x, foldedSetIterable iter env x = pure x := by intro _; rfl) :
    wpAny (model prog w) A (eval (.ListComp elt [⟨.Name x px, iter, [], 0⟩] scope pos) env) Q E s := by
  refine wpAny_ListComp_free (fun _ => true) F hclos hcell hkind hnames hx (wpAny_mono h (fun xv s₁ h₁ => ?_) fun _ _ e => e) hs
  obtain ⟨ax, t, u, v, rfl, hr, he, hQ⟩ := h₁
  obtain ⟨hsz, hsm⟩ := range_small hn
  refine wpAny_pyIter_range hr hsm ?_
  rw [hsz]
  have nI : ∀ b o, s₁.heap.get? b = some o → b ∉ [s₁.heap.objs.size] := fun b o e hb => by
    rw [List.mem_singleton.mp hb] at e; exact absurd (Heap.lt_size e) (Nat.lt_irrefl _)
  have up : ∀ b o, s₁.heap.get? b = some o → (s₁.heap.push { cls := .type "range_iterator", data := .fields #[rawInt 0, rawInt (n : Int), rawInt 1] }).get? b = some o := fun b o e => Heap.get?_push_of_some _ e
  refine ⟨s₁.heap.objs.size, _, _, n, _, _, rfl, (Walks.range hh s₁.heap.objs.size 0 1 n).bound, by simp only [sizeLine]; omega, ?_, ?_, ⟨?_, ?_⟩, ?_⟩
  · show (s₁.heap.push _).get? s₁.heap.objs.size = _
    rw [Heap.get?_push_size _ rfl]
    simp
  · intro a ha
    show a < (s₁.heap.push _).objs.size
    rw [Heap.size_push, List.mem_singleton.mp ha]; exact Nat.lt_succ_self _
  · intro C i v s₃ m₃ E' _ hv hn hm hk _
    exact wpAny_pure ⟨rfl, Keeps.refl _⟩
  · intro C i v s₃ m₃ E' _ hv _ hn hm hk _
    obtain ⟨hi, tv, rfl⟩ := hv
    rw [Int.zero_add, Int.mul_one] at hm ⊢
    exact noE (he C i tv s₃ m₃ hi hn hm fun b o e => hk b o (nI b o e) (up b o e))
  · intro D h' tk ys vs hD hlD hpl hlen hP hF hk
    rw [List.filter_eq_self.mpr (fun _ _ => rfl)] at hF
    refine hQ D h' tk ys vs hpl ?_ hF fun b o e => hk b o (nI b o e) (up b o e)
    have key : ∀ (l : List Nat) (vs : List Value), vs.length = l.length → (∀ (j : Nat) (v : Value), vs[j]? = some v → ∃ (c : Nat) (u : Tok), l[j]? = some c ∧ v = Value.int (c : Nat) u) → IntsAre vs (l.map Int.ofNat) := by
      intro l
      induction l with
      | nil => intro vs hl _; rw [List.length_nil] at hl; rw [List.length_eq_zero_iff.mp hl]; exact .nil
      | cons c l ih =>
        intro vs hl hv
        cases vs with
        | nil => cases hl
        | cons v vs =>
          obtain ⟨c', u, hc', rfl⟩ := hv 0 v rfl
          cases hc'
          exact .cons _ _ (ih vs (by simpa using hl) fun j v hj => by simpa using hv (j + 1) v (by simpa using hj))
    refine key (List.range n) vs (by rw [hlen]; simp) fun j v hj => ?_
    obtain ⟨hi, tv, rfl⟩ := hP j v hj
    exact ⟨j, tv, by simp [hi], by rw [Int.zero_add, Int.mul_one]⟩
end
end Mine
end

section
open PySem PySem.W PyProof.Rows PySem.Calls PySem.Spec
namespace Mine
section
variable {prog : Program} {w : World} {A : Around} {E : Value → Shared → Prop} {s : Shared}
/-- a comprehension over a list, laid under a local name -/
theorem as_list {env : Env} {elt iter : PySem.Expr} {x y : Str} {px py : Pos} {scope : Scope} {cl : List (Str × Addr)} {pos spos : Pos} {Q : Flow → Shared → Prop} (F : Value → Value → Prop)
    (hsw : swapsWith (.ListComp elt [⟨.Name x px, iter, [], 0⟩] scope pos) (some (.Name y py)) spos.line env = pure true)
    (hclos : closureFor scope env = pure cl) (hcell : ∀ y ∈ scope.names, y.2 ≠ .cell) (hkind : scope.kind = .function)
    (hnames : ∀ y ∈ scope.names, y.2 = .local → scope.names.lookup y.1 = some .local) (hx : scope.names.lookup x = some .local)
    (hy : env.kindOf y = some .local) (hp : (env.scope.kind == .class || (env.scope.kind == .module && env.locals != env.globals)) = false) (hh : A.handled = none)
    (h : wpAny (model prog w) A (eval iter env) (fun xv s₁ => ∃ ax items m, xv = .ref ax ∧ s₁.heap.IsList ax items ∧ items.size ≤ sizeLine ∧ s₁.heap.Ns env.locals m ∧
      (∀ C v s₃ m₃, v ∈ items.toList → s₃.heap.Ns C m₃ → m₃ x = some v → (∀ b o, s₁.heap.get? b = some o → s₃.heap.get? b = some o) →
        wpAny (model prog w) A (eval elt (compEnvC scope cl C env)) (fun y s₄ => F v y ∧ Keeps s₃ s₄) No s₃) ∧
      (∀ D h' tk ys, s₁.heap.get? D = none → h'.IsList D ys → h'.Ns env.locals (fun z => if z = y then some (.ref D) else m z) → Paired F items.toList ys.toList →
        (∀ b o, b ≠ env.locals → s₁.heap.get? b = some o → h'.get? b = some o) → Q .next { s₁ with heap := h', toks := tk })) E s)
    (hs : ∀ x, foldedSetIterable iter env x = pure x := by intro _; rfl) :
    wpAny (model prog w) A (exec (.Assign [.Name y py] (.ListComp elt [⟨.Name x px, iter, [], 0⟩] scope pos) spos) env) Q E s := by
  refine wpAny_Assign_ListComp_free (fun _ => true) F hsw hclos hcell hkind hnames hx hy hp (wpAny_mono h (fun xv s₁ h₁ => ?_) fun _ _ e => e) hs
  obtain ⟨ax, items, m, rfl, hl, hsz, hn, he, hQ⟩ := h₁
  refine wpAny_pyIter_list hl ?_
  have hlt : ax < s₁.heap.objs.size := by obtain ⟨_, e, _⟩ := id hl; exact Heap.lt_size e
  have up : ∀ b o, b ∉ [s₁.heap.objs.size] → s₁.heap.get? b = some o → (s₁.heap.push { cls := .type "list_iterator", data := .fields #[.ref ax, .int 0 0] }).get? b = some o := fun b o _ e => Heap.get?_push_of_some _ e
  have nI : ∀ b o, s₁.heap.get? b = some o → b ∉ [s₁.heap.objs.size] := fun b o e hb => by
    rw [List.mem_singleton.mp hb] at e; exact absurd (Heap.lt_size e) (Nat.lt_irrefl _)
  have mem : ∀ (i : Nat) (v : Value), items[i]? = some v → v ∈ items.toList := fun i v hv => by
    obtain ⟨hi, rfl⟩ := Array.getElem?_eq_some_iff.mp hv; exact Array.getElem_mem_toList hi
  refine ⟨s₁.heap.objs.size, [s₁.heap.objs.size, ax], [s₁.heap.objs.size], items.size, _, _, m, rfl, Walks.list hh _ ax (Nat.ne_of_lt hlt) items, hsz,
    ⟨⟨_, Heap.get?_push_size _ rfl, rfl, rfl⟩, hl.push _⟩, ?_, ?_, hn.push _, ⟨?_, ?_⟩, ?_⟩
  · intro b hb
    show b < (s₁.heap.push _).objs.size
    rw [Heap.size_push]
    rcases List.mem_cons.mp hb with rfl | hb
    · exact Nat.lt_succ_self _
    · rw [List.mem_singleton.mp hb]; exact Nat.lt_succ_of_lt hlt
  · obtain ⟨o, _, _, ho, _⟩ := hn
    exact nI _ _ ho
  · intro C i v s₃ m₃ E' _ hv hn hm hk _
    exact wpAny_pure ⟨rfl, Keeps.refl _⟩
  · intro C i v s₃ m₃ E' _ hv _ hn hm hk _
    exact noE (he C v s₃ m₃ (mem i v hv) hn hm fun b o e => hk b o (nI b o e) (up b o (nI b o e) e))
  · intro D h' tk ys vs hD hlD hpl hlen hP hF hns hk
    rw [List.filter_eq_self.mpr (fun _ _ => rfl)] at hF
    have hvs : vs = items.toList := by
      refine List.ext_getElem? fun j => ?_
      cases hj : vs[j]? with
      | some v => exact ((Array.getElem?_toList ..).trans (hP j v hj)).symm
      | none =>
        have : vs.length ≤ j := List.getElem?_eq_none_iff.mp hj
        exact (List.getElem?_eq_none (by simp; omega)).symm
    subst hvs
    refine hQ D h' tk ys ?_ hlD hns hF fun b o hb e => hk b o hb (nI b o e) (up b o (nI b o e) e)
    cases e : s₁.heap.get? D with
    | none => rfl
    | some o => have := up D o (nI D o e) e; rw [hD] at this; cases this
/-- a comprehension of new objects, laid under a local name -/
theorem as_obj {env : Env} {elt iter : PySem.Expr} {x y : Str} {px py : Pos} {scope : Scope} {cl : List (Str × Addr)} {pos spos : Pos} {Q : Flow → Shared → Prop} (G : Value → Obj → Prop)
    (hsw : swapsWith (.ListComp elt [⟨.Name x px, iter, [], 0⟩] scope pos) (some (.Name y py)) spos.line env = pure true)
    (hclos : closureFor scope env = pure cl) (hcell : ∀ y ∈ scope.names, y.2 ≠ .cell) (hkind : scope.kind = .function)
    (hnames : ∀ y ∈ scope.names, y.2 = .local → scope.names.lookup y.1 = some .local) (hx : scope.names.lookup x = some .local)
    (hy : env.kindOf y = some .local) (hp : (env.scope.kind == .class || (env.scope.kind == .module && env.locals != env.globals)) = false) (hh : A.handled = none)
    (h : wpAny (model prog w) A (eval iter env) (fun xv s₁ => ∃ ax items m, xv = .ref ax ∧ s₁.heap.IsList ax items ∧ items.size ≤ sizeLine ∧ s₁.heap.Ns env.locals m ∧
      (∀ C v s₃ m₃, v ∈ items.toList → s₃.heap.Ns C m₃ → m₃ x = some v → (∀ b o, s₁.heap.get? b = some o → s₃.heap.get? b = some o) →
        wpAny (model prog w) A (eval elt (compEnvC scope cl C env)) (fun y s₄ => (∃ a o, y = .ref a ∧ s₃.heap.get? a = none ∧ s₄.heap.get? a = some o ∧ G v o) ∧ Keeps s₃ s₄) No s₃) ∧
      (∀ D h' tk ys, s₁.heap.get? D = none → h'.PlainList D ys → h'.Ns env.locals (fun z => if z = y then some (.ref D) else m z) → Paired (fun v y => ∃ a o, y = .ref a ∧ s₁.heap.get? a = none ∧ a ≠ D ∧ h'.get? a = some o ∧ G v o) items.toList ys.toList →
        (∀ b o, b ≠ env.locals → s₁.heap.get? b = some o → h'.get? b = some o) → Q .next { s₁ with heap := h', toks := tk })) E s)
    (hs : ∀ x, foldedSetIterable iter env x = pure x := by intro _; rfl) :
    wpAny (model prog w) A (exec (.Assign [.Name y py] (.ListComp elt [⟨.Name x px, iter, [], 0⟩] scope pos) spos) env) Q E s := by
  rw [exec_Assign_Name_used _ _ _ _ hsw]
  refine wpAny_bind (wpAny_standAt (wpAny_bind ?_))
  show wpAny _ A (do let _ ← comprehension (.ListComp elt [⟨.Name x px, iter, [], 0⟩] scope pos) scope env _ (newList []) false (eval iter env) (some (assign (.Name y py) env))) _ _ s
  refine wpAny_bind (wpAny_mono (wpAny_comprehension_free (use := some (assign (.Name y py) env)) (Q := fun _ s' => Q .next s') rfl hs hclos hkind hnames
    (wpAny_mono h (fun xv s₁ h₁ => ?_) fun _ _ e => e)) (fun _ s' hq => wpAny_pure (wpAny_pure hq)) fun _ _ e => e)
  obtain ⟨ax, items, m, rfl, hl, hsz, hnL, helt, hQ⟩ := h₁
  obtain ⟨oL, _, _, hoL, _⟩ := id hnL
  refine obj_core (RR := fun acc C => compPost (model prog w) A E (some (assign (.Name y py) env)) (fun _ s' => Q .next s') acc C) G hcell hkind hx hh hl hsz helt fun D C h' tk m' ys hD hC hDC hn hpl hP hk => ?_
  have hLC : env.locals ≠ C := by rintro rfl; rw [hC] at hoL; cases hoL
  have hLD : env.locals ≠ D := by rintro rfl; rw [hD] at hoL; cases hoL
  show wpAny _ A (assign (.Name y py) env (.ref D)) _ _ _
  refine wpAny_assign_Name (wpAny_storeName_local hy (hnL.at' fun o e => hk _ o e) (fun h₃ hn₃ hs₃ => ?_) hp)
  refine ⟨m', hn.sameBut hs₃ (Ne.symm hLC), fun h₄ hs₄ => ?_⟩
  refine hQ D h₄ _ ys hD ((hpl.extBut hs₃.extBut (Ne.symm hLD)).extBut hs₄.extBut hDC) (hn₃.sameBut hs₄ hLC) (Paired.imp (fun v y ⟨a, o, e, e0, h1, h2, ho, hG⟩ => ⟨a, o, e, e0, h1, hs₄.extBut a o h2 (hs₃.extBut a o (by rintro rfl; rw [hoL] at e0; cases e0) ho), hG⟩) hP) fun b o hb e => hs₄.extBut b o (by rintro rfl; rw [hC] at e; cases e) (hs₃.extBut b o hb (hk b o e))
end
end Mine
end

section
open PySem PySem.W PyProof.Rows PySem.Calls
namespace Mine
open Builtin Builtin._codecs
theorem narrow_key {σ : Type} (N : Nat) (z a : σ) (g : σ → Array UInt8) (f : Nat → σ → Sem (ForInStep σ)) (h0 : N = 0 → z = a) (h1 : 0 < N → ∀ k, f k z = pure (.yield a)) (h2 : ∀ k, f k a = pure (.done a)) :
    (do let s ← forIn (List.range' 0 N) z f; pure (g s)) = (pure (g a) : Sem (Array UInt8)) := by
  cases N with
  | zero => rw [h0 rfl]; rfl
  | succ N =>
    have e : List.range' 0 (N + 1) = 0 :: List.range' 1 N := rfl
    rw [e, List.forIn_cons, h1 (Nat.succ_pos _) 0]
    show (do let s ← forIn (List.range' 1 N) a f; pure (g s)) = (pure (g a) : Sem (Array UInt8))
    cases N with
    | zero => rfl
    | succ N =>
      have e : List.range' 1 (N + 1) = 1 :: List.range' 2 N := rfl
      rw [e, List.forIn_cons, h2 1]
      rfl

theorem foldl_bytes (l : List Nat) (a : Array UInt8) : l.foldl (fun acc y => acc ++ (asciiCodec.bytesOf y).toArray) a = a ++ (l.map fun c => c.toUInt8).toArray := by
  induction l generalizing a with
  | nil => simp
  | cons x r ih => rw [List.foldl_cons, ih]; apply Array.toList_inj.mp; simp [asciiCodec]

theorem narrow_ascii (id : String) (self : Value) (x : Str) (hx : ∀ c ∈ x.cps.toList, c < 128) (hz : x.length ≤ 2000) :
    encodeNarrow id asciiCodec none self x = pure (x.cps.map fun c => c.toUInt8) := by
  obtain ⟨⟨l⟩⟩ := x
  have hz' : l.length ≤ 2000 := hz
  have hbad : ∀ c ∈ l, asciiCodec.bad c = false := fun c hc => by
    have := hx c hc
    show decide (c ≥ 128) = false
    simp; omega
  unfold encodeNarrow
  simp only [Std.Legacy.Range.forIn_eq_forIn_range']
  refine (narrow_key _ _ (l.length, (l.map fun c => c.toUInt8).toArray, ({} : Faults)) (fun s => s.2.1) _ ?_ ?_ ?_).trans (by simp)
  · intro h
    have : l.length = 0 := by simpa [Std.Legacy.Range.size, Str.length] using h
    rw [List.length_eq_zero_iff.mp this]; rfl
  · intro h k
    have h' : 0 < l.length := by simpa [Std.Legacy.Range.size, Str.length] using h
    dsimp only
    rw [if_neg (by simp)]
    have e0 : (l.toArray)[0]? = some l[0] := by simp [h']
    rw [e0]
    dsimp only
    rw [hbad _ (List.getElem_mem h')]
    have ef : Array.findIdx? asciiCodec.bad (l.toArray.extract 0) = none := by
      rw [Array.findIdx?_eq_none_iff]
      intro c hc
      exact hbad c (by simpa using hc)
    rw [ef]
    simp only [Bool.not_false, if_true, Option.getD_none]
    have ee : Array.foldl (fun acc y => acc ++ (asciiCodec.bytesOf y).toArray) #[] ((l.toArray.extract 0).extract 0 (l.toArray.extract 0).size) = (l.map fun c => c.toUInt8).toArray := by
      have e1 : (l.toArray.extract 0).extract 0 (l.toArray.extract 0).size = l.toArray := by simp
      rw [e1, ← Array.foldl_toList]
      simpa using foldl_bytes l #[]
    rw [ee]
    simp
  · intro k
    dsimp only
    rw [if_neg (by simp [sizeLine]; omega)]
    have e0 : (l.toArray)[l.length]? = none := by simp
    rw [e0]
theorem road_ascii (id : String) (self : Value) (x : Str) (errors : Option Str) : encodeRoad id self x (Str.ofString "ascii") errors = (do mkBytes (← encodeNarrow id asciiCodec errors self x)) := by
  first | rfl | (unfold encodeRoad; rfl) | (unfold encodeRoad; simp only []; rfl) | decide
theorem encode_tree2 (x : Str) (t t' : Tok) : «str.encode» ⟨[.str x t, .str (Str.ofString "ascii") t'], []⟩ = (do ret (← encodeRoad "str.encode" (.str x t) x (Str.ofString "ascii") none)) := by
  first | rfl | kernel_rfl
noncomputable def hexOut (b : Array UInt8) : Array Nat := (b.toList.map fun c => #[Bytes.hexDigit (c.toNat / 16), Bytes.hexDigit (c.toNat % 16)]).foldl (· ++ ·) #[]
theorem hex_tree (b : Array UInt8) (t : Tok) : «bytes.hex» ⟨[.bytes b t], []⟩ = retStr ⟨b.toList.zipIdx.foldl (fun (out : Array Nat) (c, i) => (out.push (Bytes.hexDigit (c.toNat / 16))).push (Bytes.hexDigit (c.toNat % 16))) #[]⟩ := by
  first | rfl | kernel_rfl
theorem upper_tree (b : Array UInt8) (t : Tok) : «bytes.upper» ⟨[.bytes b t], []⟩ = (do ret (← mkBytes (b.toList.map Bytes.toUpper).toArray)) := by
  first | rfl | kernel_rfl
end Mine
end

section
open PySem PySem.W PyProof.Rows PySem.Calls
namespace Mine
open Builtin
noncomputable def mkTab (p q : UInt8) : Array UInt8 := (((Array.range 256).map (·.toUInt8)).setIfInBounds 43 p).setIfInBounds 47 q
theorem mkTab_size (p q : UInt8) : (mkTab p q).size = 256 := by simp [mkTab]
theorem maketrans_tree (p q : UInt8) (t u : Tok) : «bytes.maketrans» ⟨[.bytes #[43, 47] t, .bytes #[p, q] u], []⟩ = (do ret (← mkBytes (mkTab p q))) := by
  have e1 : ∀ id, Bytes.bytesLike id (.bytes #[43, 47] t) = pure #[43, 47] := fun id => KBd.like_eq
  have e2 : ∀ id, Bytes.bytesLike id (.bytes #[p, q] u) = pure #[p, q] := fun id => KBd.like_eq
  unfold «bytes.maketrans» Bytes.maketransM
  dsimp only [List.headD, List.getD]
  simp only [e1]
  first | rfl | kernel_rfl
noncomputable def trOut (b tb : Array UInt8) : Array UInt8 := b.map fun c => tb.getD c.toNat c
theorem translate_tree (b tb : Array UInt8) (t u : Tok) (h : tb.size = 256) : «bytes.translate» ⟨[.bytes b t, .bytes tb u], []⟩ =
    (if (trOut b tb == b) = true then (do rule "bytes.translate.unchanged"; ret (.bytes b t)) else (do ret (← mkBytes (trOut b tb)))) := by
  have e1 : ∀ id, Bytes.bytesLike id (.bytes tb u) = pure tb := fun id => KBd.like_eq
  unfold «bytes.translate» Bytes.translateM
  simp only [e1]
  have hf : b.filter (fun x => !(#[] : Array UInt8).contains x) = b := by
    rw [Array.filter_eq_self]; intro c _; simp
  show (if (tb.size != 256) = true then _ else (if (((b.filter (fun x => !(#[] : Array UInt8).contains x)).map (fun c => tb.getD c.toNat c)) == b) = true then (do rule _; let v ← Bytes.Kind.same .bytes (.bytes b t); ret v) else
      (do let v ← Bytes.Kind.new .bytes ((b.filter (fun x => !(#[] : Array UInt8).contains x)).map (fun c => tb.getD c.toNat c)); ret v))) = _
  rw [if_neg (by simp [h]), hf]
  rfl
end Mine
namespace Mine
theorem mt_plain : plainId "bytes.maketrans" = true := by decide +kernel
theorem mt_entry : entryFor table "bytes.maketrans" = some Builtin.«bytes.maketrans» := entryFor_of_tree (by kernel_rfl)
theorem mt_check (a b : Value) : checkBuiltinCall "bytes.maketrans" ⟨[a, b], []⟩ = pure () := by first | kernel_rfl | (unfold checkBuiltinCall; kernel_rfl)
theorem maketrans_call {prog : Program} {w : World} {A : Around} {E : Value → Shared → Prop} {s : Shared} (p q : UInt8) (t u : Tok) {Q : Value → Shared → Prop} (hQ : Q (.bytes (mkTab p q) s.toks) { s with toks := s.toks + 1 }) :
    wpAny (model prog w) A (call (.builtin "bytes.maketrans") [.bytes #[43, 47] t, .bytes #[p, q] u]) Q E s := by
  refine wpAny_call (codeAny_call_builtin mt_plain mt_entry ?_)
  rw [mt_check]
  refine wpAny_pure ?_
  rw [maketrans_tree]
  unfold mkBytes
  rw [if_neg (by rw [mkTab_size]; decide)]
  exact wpAny_bind (wpAny_bind (wpAny_fresh (wpAny_pure (wpAny_pure hQ))))
end Mine
end

section
open PySem PySem.W PyProof.Rows PySem.Calls
namespace Mine
noncomputable def codeN : Array Nat := #[14, 10, 4, 1, 1, 22, 0, 31, 16, 127, 0, 13, 7, 22, 0, 31, 16, 127, 0, 1]
noncomputable def codeV : Array Nat := #[14, 14, 4, 1, 1, 9, 4294966783, 0, 0, 2147483648, 0, 0, 0, 0, 0, 13, 11, 9, 4294966783, 0, 0, 2147483648, 0, 0, 0, 0, 0, 1]
open Sre
theorem inSet_N (c : Nat) (h : 31 < c) (h2 : c ≠ 127) (seen : Sre.Seen) : ∃ seen', inSet codeN c codeN.size 5 true seen = .ok (false, seen') := by
  have e1 : (decide ((0 : Nat) ≤ c) && decide (c ≤ 31)) = false := by
    have : decide (c ≤ 31) = false := decide_eq_false (by omega)
    rw [this, Bool.and_false]
  have e2 : (c == 127) = false := by simpa using h2
  refine' ⟨_, ?_⟩
  show inSet codeN c (19 + 1) 5 true seen = _
  rw [inSet]
  show (if (decide ((0 : Nat) ≤ c) && decide (c ≤ 31)) = true then _ else inSet codeN c (18 + 1) 8 true _) = _
  rw [e1, if_neg (by decide), inSet]
  show (if (c == 127) = true then _ else inSet codeN c (17 + 1) 10 true _) = _
  rw [e2, if_neg (by decide), inSet]
  rfl
theorem inSet_V (c : Nat) (h : 31 < c) (h2 : c < 127) (seen : Sre.Seen) : ∃ seen', inSet codeV c codeV.size 5 true seen = .ok (false, seen') := by
  have e1 : ∀ c : Fin 127, 31 < c.val → (decide (c.val < 256) && (codeV.getD (5 + (1 + c.val / 32)) 0).testBit (c.val % 32)) = false := by decide +kernel
  have e2 := e1 ⟨c, h2⟩ h
  refine' ⟨_, ?_⟩
  show inSet codeV c (27 + 1) 5 true seen = _
  rw [inSet]
  show (if (decide (c < 256) && (codeV.getD (5 + (1 + c / 32)) 0).testBit (c % 32)) = true then _ else inSet codeV c (26 + 1) 14 true _) = _
  rw [e2, if_neg (by decide), inSet]
  rfl
theorem admitted_none (m : Sre.M) (hc : ∀ i, i < m.lim → ∀ seen, ∃ seen', inSet m.code (m.text.getD i 0) m.code.size 5 true seen = .ok (false, seen')) :
    ∀ (fuel s : Nat) (seen : Sre.Seen), ∃ seen', M.admitted m fuel s seen = .ok (none, seen') := by
  intro fuel
  induction fuel with
  | zero => intro s seen; exact ⟨seen, rfl⟩
  | succ n ih =>
    intro s seen
    rw [M.admitted]
    by_cases h : s ≥ m.lim
    · rw [if_pos h]; exact ⟨seen, rfl⟩
    · rw [if_neg h]
      obtain ⟨s', e⟩ := hc s (by omega) seen
      rw [e]
      exact ih (s + 1) s'
/-- a machine that says no at once -/
structure SaysNo (m : Sre.M) : Prop where
  a : m.answer = some false
  f : m.frames = []
  o : m.outcome = none
theorem attemptFrom_no (m : Sre.M) (hfs : m.hasFirstSet = true) (hc : ∀ i, i < m.lim → ∀ seen, ∃ seen', inSet m.code (m.text.getD i 0) m.code.size 5 true seen = .ok (false, seen'))
    (hf : m.frames = []) (ho : m.outcome = none) : SaysNo (m.attemptFrom 0 true) := by
  unfold M.attemptFrom
  rw [hfs]
  obtain ⟨s', e⟩ := admitted_none m hc (m.lim + 1 - 0) 0 m.seen
  rw [e]
  exact ⟨rfl, hf, ho⟩
theorem search_no (code text : Array Nat) (hinfo : (header code).1 = 1) (hfs : ∀ m : Sre.M, m.code = code → m.hasFirstSet = true)
    (hc : ∀ c ∈ text.toList, ∀ seen, ∃ seen', inSet code c code.size 5 true seen = .ok (false, seen')) : SaysNo (forSearch code text 0 0 text.size false) := by
  unfold forSearch
  dsimp only
  rw [hinfo]
  by_cases h : (decide (0 > text.size) || decide (text.size - 0 < 1)) = true
  · rw [if_pos h]; exact ⟨rfl, rfl, rfl⟩
  · rw [if_neg h]
    refine attemptFrom_no _ (hfs _ rfl) (fun i hi seen => ?_) rfl rfl
    have hi' : i < text.size := hi
    have hm : text.getD i 0 ∈ text.toList := by
      rw [Array.getD_eq_getD_getElem?, Array.getElem?_eq_getElem hi']; exact Array.getElem_mem_toList hi'
    exact hc _ hm seen
theorem runFor_no {m : Sre.M} (h : SaysNo m) : (m.runFor 4).outcome = some .failed := by
  obtain ⟨code, text, lim, start, ls, wt, ma, pc, pos, handed, om, marks, lm, li, loops, inner, frames, weight, answer, seen, outcome⟩ := m
  obtain ⟨a, f, o⟩ := h
  dsimp only at a f o
  subst a f o
  rfl

section
open Builtin.Re
variable {M : Model} {A : Around} {E : Value → Shared → Prop} {s : Shared}
theorem rules_any {m : Sre.M} {Q : PUnit → Shared → Prop} (hQ : Q ⟨⟩ s) : ∀ l : List Nat,
    wpAny M A (forIn l PUnit.unit fun i r => if m.seen.has i = true then do rule (Sre.names.getD i ""); pure (ForInStep.yield PUnit.unit) else pure (ForInStep.yield PUnit.unit)) Q E s
  | [] => wpAny_pure hQ
  | i :: l => by
    rw [List.forIn_cons]
    refine wpAny_bind ?_
    refine wpAny_ite ?_
    split
    · exact wpAny_bind (wpAny_rule (wpAny_pure (rules_any hQ l)))
    · exact wpAny_pure (rules_any hQ l)
theorem reRun_no {m : Sre.M} (h : SaysNo m) {Q : Option Sre.M → Shared → Prop} (hQ : Q none s) : wpAny M A (reRunToEnd m) Q E s := by
  have hr := runFor_no h
  unfold reRunToEnd
  have e : ∀ n, reDrive (n + 1) m = pure (m.runFor 4) := fun n => by
    rw [reDrive]
    show (if (m.runFor 4).outcome.isSome = true then pure (m.runFor 4) else _) = _
    rw [hr]; rfl
  rw [show (2 ^ 64 : Nat) = (2 ^ 64 - 1) + 1 from by decide, e]
  refine wpAny_bind (wpAny_pure (wpAny_bind (rules_any ?_ _)))
  rw [hr]
  exact wpAny_pure hQ
end
end Mine
end

section
open PySem PySem.W PyProof.Rows PySem.Calls
namespace Mine
theorem plainAttrs_pat : PlainAttrs "re.Pattern" :=
  ⟨⟨"object.__getattribute__", by rw [typeLookup_type, builtinLookup_eq_fast]; kernel_rfl, by decide +kernel⟩, by rw [typeLookup_type, builtinLookup_eq_fast]; kernel_rfl⟩
theorem slot_search : Slot "re.Pattern" "search" "re.Pattern.search" :=
  .of (owner := "re.Pattern") (n := "search") (by rw [typeLookup_type, builtinLookup_eq_fast]; kernel_rfl) (by decide +kernel) (by decide +kernel) (by decide +kernel)
    (by first | exact .inl (by decide +kernel) | exact .inr (by decide +kernel)) (by rw [isSubtype_type]; kernel_rfl)
theorem type_search : typeOf (.builtin "re.Pattern.search") = pure (.type "method_descriptor") := by show builtinType _ = _; rw [builtinType_eq_fast]; kernel_rfl
theorem entry_search : entryFor table "re.Pattern.search" = some Builtin.«re.Pattern.search» := entryFor_of_tree (by kernel_rfl)
theorem args_search (a b : Value) : argsOk "re.Pattern.search" ⟨[a, b], []⟩ := by unfold argsOk; kernel_rfl
open Builtin.Re
variable {prog : Program} {w : World} {A : Around} {E : Value → Shared → Prop} {s : Shared}

theorem named_eq (x : Value) : reNamed "re.Pattern.search" "search" ["string", "pos", "endpos"] 1 [x] [] = pure [some x, none, none] := by first | rfl | kernel_rfl

theorem search_call {P C : Addr} {o oc : Obj} {v0 v1 v2 v3 v4 v6 : Value} {items : Array Value} {k : Nat} {code : Array Nat} (x : Str) (t : Tok) {Q : Value → Shared → Prop}
    (ho : s.heap.get? P = some o) (hcls : o.cls = .type "re.Pattern") (hd : o.data = .fields #[v0, v1, v2, v3, v4, .ref C, v6]) (h2 : reRawNat v2 = 0) (h6 : reRawNat v6 = 0)
    (hoc : s.heap.get? C = some oc) (hdc : oc.data = .seq items k) (hcode : (items.map reRawOf).map (·.toNat) = code)
    (hn : SaysNo (Sre.forSearch code x.cps 0 0 x.cps.size false)) (hz : x.length ≤ 1000) (hQ : Q .none s) :
    wpAny (model prog w) A (call (.builtin "re.Pattern.search") [.ref P, .str x t]) Q E s := by
  refine wpAny_call_entry slot_search ⟨o, ho, hcls⟩ entry_search ?_ (args_search _ _)
  unfold Builtin.«re.Pattern.search»
  refine wpAny_bind (m := reTarget _ _ _) ?_
  unfold reTarget
  dsimp only
  rw [named_eq]
  refine wpAny_bind (wpAny_pure ?_)
  dsimp only
  refine wpAny_bind (wpAny_pure (wpAny_bind (wpAny_pure (wpAny_bind (wpAny_fieldsOf ho hd ?_)))))
  refine wpAny_bind (wpAny_of_eq (a := (x.cps, 0)) rfl ?_)
  dsimp only
  have e6 : reRawNat (#[v0, v1, v2, v3, v4, Value.ref C, v6].getD 6 Value.none) = 0 := h6
  rw [if_neg (by simp), if_neg (by rw [e6]; simp)]
  refine wpAny_bind (wpAny_of_eq (a := ()) rfl ?_)
  refine wpAny_bind (m := reRawItems (.ref C)) ?_
  unfold reRawItems
  refine wpAny_bind (wpAny_seqItems hoc hdc (wpAny_pure (wpAny_pure ?_)))
  have e2 : reRawNat (#[v0, v1, v2, v3, v4, Value.ref C, v6].getD 2 Value.none) = 0 := h2
  have el : min ((2 ^ 63 - 1 : Int)).toNat x.cps.size = x.cps.size := by
    apply Nat.min_eq_right
    have : x.cps.size ≤ 1000 := hz
    have h : (2 ^ 63 - 1 : Int).toNat = 9223372036854775807 := by decide
    omega
  have ep : min (Int.toNat 0) x.cps.size = 0 := Nat.zero_min _
  dsimp only
  rw [show ((some items).getD #[]) = items from rfl, hcode, el, ep]
  unfold reAnswer
  dsimp only
  rw [e2]
  exact wpAny_bind (reRun_no hn (wpAny_pure ⟨_, rfl, hQ⟩))
end Mine
end

section
open PySem PySem.W PyProof.Rows PySem.Calls
namespace Mine
noncomputable def lowC (c : Nat) : Nat := if 65 ≤ c ∧ c ≤ 90 then c + 32 else if 192 ≤ c ∧ c ≤ 222 ∧ c ≠ 215 then c + 32 else c
theorem lowC_of : ∀ c : _root_.Fin 256, Unicode.lowerOf c.val = [lowC c.val] := by decide +kernel
noncomputable def lowF (x : Str) : Str := ⟨x.cps.map lowC⟩
theorem lowerAt_eq (cps : Array Nat) (h : ∀ c ∈ cps.toList, c < 256) (i : Nat) (c : Nat) (hc : cps[i]? = some c) : Unicode.lowerAt cps i = [lowC c] := by
  have hlt : c < 256 := h c (by obtain ⟨hi, rfl⟩ := Array.getElem?_eq_some_iff.mp hc; exact Array.getElem_mem_toList hi)
  unfold Unicode.lowerAt
  rw [hc]
  dsimp only
  have : (c == 0x3A3) = false := by simp; omega
  rw [this, Bool.false_and, if_neg (by decide)]
  exact lowC_of ⟨c, hlt⟩
theorem lower_eq (x : Str) (h : ∀ c ∈ x.cps.toList, c < 256) : Txt.lower x = lowF x := by
  unfold Txt.lower lowF
  congr 1
  unfold placed
  have e : (x.cps.mapIdx fun i c => (Unicode.lowerAt x.cps i).toArray) = x.cps.map fun c => #[lowC c] := by
    apply Array.ext_getElem?
    intro i
    simp only [Array.getElem?_mapIdx, Array.getElem?_map]
    cases hc : x.cps[i]? with
    | none => rfl
    | some c => simp [lowerAt_eq x.cps h i c hc]
  rw [e]
  obtain ⟨⟨l⟩⟩ := x
  apply Array.toList_inj.mp
  simp only [Array.toList_flatten, Array.toList_map, List.map_map]
  clear e h
  induction l with
  | nil => rfl
  | cons a r ih => simpa using ih
theorem lower_fit (x : Str) (h : ∀ c ∈ x.cps.toList, c < 256) (hz : x.length ≤ 1000) : Builtin.Str.tooLong (Txt.lower x).length = false := by
  rw [lower_eq x h]
  have : (lowF x).length = x.length := by simp [lowF, Str.length]
  rw [this]
  exact decide_eq_false (by show ¬ x.length > 2 ^ 24; omega)
end Mine
end

section
open PySem PySem.W PyProof.Rows PySem.Calls
local macro_rules | `(tactic| walk_at "wk1") => `(tactic| (
  (fail_if_success (with_reducible show wpAny _ _ (pyIter _) _ _ _));
  (fail_if_success (with_reducible show wpAny _ _ (call (Value.ref _) _ _) _ _ _));
  (fail_if_success (with_reducible show wpAny _ _ (call (Value.type "bytes") _ _) _ _ _));
  (fail_if_success (with_reducible show wpAny _ _ (getMethod (Value.bytes _ _) _ _) _ _ _));
  (fail_if_success (with_reducible show wpAny _ _ (getMethod (Value.type _) _ _) _ _ _));
  (fail_if_success (with_reducible show wpAny _ _ (getMethod (Value.ref 48) _ _) _ _ _));
  (fail_if_success (with_reducible show wpAny _ _ (getMethod (Value.ref 53) _ _) _ _ _));
  (fail_if_success (with_reducible show wpAny _ _ (call (Value.builtin "re.Pattern.search") _ _) _ _ _));
  (fail_if_success (with_reducible show wpAny _ _ (call (Value.builtin "bytes.maketrans") _ _) _ _ _));
  (fail_if_success (with_reducible show wpAny _ _ (call (Value.builtin "bytes.translate") _ _) _ _ _));
  (fail_if_success (with_reducible show wpAny _ _ (call (Value.builtin "bytes.hex") _ _) _ _ _));
  (fail_if_success (with_reducible show wpAny _ _ (call (Value.builtin "bytes.upper") _ _) _ _ _));
  (fail_if_success (with_reducible show wpAny _ _ (call (Value.builtin "str.encode") _ _) _ _ _));
  (fail_if_success (with_reducible show wpAny _ _ (eval (Expr.ListComp _ _ _ _) _) _ _ _));
  (fail_if_success (with_reducible show wpAny _ _ (exec (Stmt.For _ _ _ _ _) _) _ _ _));
  (fail_if_success (with_reducible show wpAny _ _ (exec (Stmt.While _ _ _ _) _) _ _ _));
  (fail_if_success (with_reducible show wpAny _ _ (exec (Stmt.Assign _ (Expr.ListComp _ _ _ _) _) _) _ _ _));
  first | walk1 | (dsimp only; walk1)))
local macro_rules | `(tactic| walk_at "wk") => `(tactic| repeat' (walk_at "wk1"))
local macro_rules | `(tactic| walk_at "wz1") => `(tactic| (
  (fail_if_success (with_reducible show wpAny _ _ (getMethod (Value.ref _) _ _) _ _ _));
  (fail_if_success (with_reducible show wpAny _ _ (getAttr (Value.ref _) _ _) _ _ _));
  (fail_if_success (with_reducible show wpAny _ _ (setItem (Value.ref _) _ _) _ _ _));
  (fail_if_success (with_reducible show wpAny _ _ (call (Value.builtin "str.lower") _ _) _ _ _));
  (fail_if_success (with_reducible show wpAny _ _ (subscriptTail _ _ (Value.ref _) _) _ _ _));
  walk_at "wk1"))
local macro_rules | `(tactic| walk_at "wz") => `(tactic| repeat' (walk_at "wz1"))
local macro_rules | `(tactic| walk_at "wu1") => `(tactic| (
  (fail_if_success (with_reducible show wpAny _ _ (call (Value.ref _) _ _) _ _ _));
  (fail_if_success (with_reducible show wpAny _ _ (eval (Expr.ListComp _ _ _ _) _) _ _ _));
  first | walk1 | (dsimp only; walk1)))
local macro_rules | `(tactic| walk_at "wu") => `(tactic| repeat' (walk_at "wu1"))
local macro_rules | `(tactic| walk_at "fill") => `(tactic| (
  have hFill : PySem.Challenge.rw_nb0215_01 = PySem.Challenge.rw_nb0215_01 ∧ Mine.hd.heap_39 = Mine.hd.heap_39 := (by k_fill; exact ⟨rfl, rfl⟩)
  clear hFill))
local macro_rules | `(tactic| walk_at "mv") => `(tactic| first | rfl | assumption | (refine (if_neg (by decide)).trans ?_; walk_at "mv"))
local macro_rules | `(tactic| walk_at "mv2") => `(tactic| first | (refine (if_pos (by with_reducible rfl)).trans ?_; exact rfl) | (refine (if_neg (by decide)).trans ?_; walk_at "mv2") | assumption)
local macro_rules | `(tactic| walk_at "nmL") => `(tactic| (refine' nameX_L ?F ?v ?_ ?a ?b; (case F => assumption); (case a => rfl); (case b => rfl); (case v => walk_at "mv")))
local macro_rules | `(tactic| walk_at "eval Name") => `(tactic| (k_here; k_dflt (walk_at "nmL")))
local macro_rules | `(tactic| walk_at "call builtin:list.append") => `(tactic| (k_here; (with_reducible show wpAny _ _ (call (Value.builtin _) [Value.ref _, _]) _ _ _); k_dflt (refine' append_K ?k1 ?k2 ?k3 ?_ ?z; (case k1 => k_asm); (case k2 => k_asm); (case k3 => k_upd); (case z => exact Nat.le_of_ble_eq_true rfl); k_whole); intro h' F' N'; (try k_sweep)))
local macro_rules | `(tactic| walk_at "call type:type") => `(tactic| (k_here; (with_reducible show wpAny _ _ (call (Value.type "type") [Value.bytes _ _]) _ _ _); k_dflt (refine call_type_of (typeIs_bytes _ _ _) (by decide) ?_)))
namespace Mine

section
noncomputable def kindF (c : Int) : Int := if 64 < c ∧ c < 91 then c - 65 else if 96 < c ∧ c < 123 then c - 97 else if 191 < c ∧ c < 223 ∧ c ≠ 215 then c + 32 else c
noncomputable def keyF (l : List Int) : Int := l.foldl (fun k v => 256 * k + v) 0
noncomputable def valueF (p : Int) : Str := if p.fmod 3 = 1 then Str.ofString "" else Str.ofString "v" ++ Str.ofString (toString p)

/-- a way's end: what was made of the state is a growth of it, and the value is as wanted -/
noncomputable def Post (s : Shared) (P : Value → Prop) (v : Value) (s' : Shared) : Prop := Keeps s s' ∧ P v

theorem exInt {a b : Int} {t : Tok} (h : a = b) : ∃ t', Value.int a t = .int b t' := ⟨t, by rw [h]⟩
theorem exStr {a b : Str} {t : Tok} (h : a = b) : ∃ t', Value.str a t = .str b t' := ⟨t, by rw [h]⟩
theorem exBytes {a b : Array UInt8} {t : Tok} (h : a = b) : ∃ t', Value.bytes a t = .bytes b t' := ⟨t, by rw [h]⟩
theorem exSomeInt {o : Option Value} {a b : Int} {t : Tok} (h : o = some (.int a t)) (e : a = b) : ∃ t', o = some (.int b t') := ⟨t, by rw [h, e]⟩
theorem post_fr {s : Shared} {h : Heap} {L : Addr} {m : Str → Option Value} {tk : Nat} {P : Value → Prop} {v : Value} (F : Fr s.heap L h m) (hP : P v) :
    Post s P v { s with heap := h, toks := tk } := ⟨⟨h, tk, rfl, F.keep⟩, hP⟩

theorem keyF_snoc (l : List Int) (k : Int) : keyF (l ++ [k]) = 256 * keyF l + k := by simp [keyF]
theorem take_snoc {α : Type} {l : List α} {i : Nat} {k : α} (h : l[i]? = some k) : l.take (i + 1) = l.take i ++ [k] := by
  rw [List.take_add_one, h]; rfl

section
variable {prog : Program} {w : World} {A : Around} {E : Value → Shared → Prop} {s : Shared} {n : Nat}
theorem kind_call (G : Gd w s.heap) (R : Rm (n + 1) A) (c : Int) (t : Tok) :
    wpAny (model prog w) A (call (.ref 258) [.int c t]) (Post s fun v => ∃ t', v = .int (kindF c) t') E s := by
  walk_at "fill"
  have X : (Mine.hd.heap_39 w.params).In s.heap := G.k
  obtain ⟨mg, mb, T⟩ := G.t
  refine enter [(Str.ofString "code", .int c t)] G R (by k_is) (by k_is) (BindsTo.of_eq rfl) (locs rfl) (by decide) rfl rfl rfl ?_
  intro L h₁ tk A' R' F
  have N : News s.heap L h₁ [] := News.nil
  walk_at "wk"
  all_goals (refine post_fr (by assumption) (exInt ?_); unfold kindF; (repeat' split) <;> omega)

theorem value_call (G : Gd w s.heap) (R : Rm (n + 1) A) (c : Int) (t : Tok) (h0 : 0 ≤ c) (h1 : c < 1000) :
    wpAny (model prog w) A (call (.ref 272) [.int c t]) (Post s fun v => ∃ t', v = .str (valueF c) t') E s := by
  walk_at "fill"
  have X : (Mine.hd.heap_39 w.params).In s.heap := G.k
  obtain ⟨mg, mb, T⟩ := G.t
  refine enter [(Str.ofString "place", .int c t)] G R (by k_is) (by k_is) (BindsTo.of_eq rfl) (locs rfl) (by decide) rfl rfl rfl ?_
  intro L h₁ tk A' R' F
  have N : News s.heap L h₁ [] := News.nil
  walk_at "wk"
  · exact post_fr (by assumption) (exStr (by unfold valueF; rw [if_pos (by assumption)]))
  · exact post_fr (by assumption) (exStr (by unfold valueF; rw [if_neg (by assumption)]))

theorem key_call (G : Gd w s.heap) (R : Rm (n + 1) A) (l : Addr) (ns : List Int) (vs : List Value) (hl : s.heap.IsList l vs.toArray) (hi : IntsAre vs ns) :
    wpAny (model prog w) A (call (.ref 265) [.ref l]) (Post s fun v => ∃ t', v = .int (keyF ns) t') E s := by
  walk_at "fill"
  have X : (Mine.hd.heap_39 w.params).In s.heap := G.k
  obtain ⟨mg, mb, T⟩ := G.t
  refine enter [(Str.ofString "kinds", .ref l)] G R (by k_is) (by k_is) (BindsTo.of_eq rfl) (locs rfl) (by decide) rfl rfl rfl ?_
  intro L h₁ tk A' R' F
  have N : News s.heap L h₁ [] := News.nil
  walk_at "wk"
  refine for_rule ?_
  walk_at "nmL"
  refine' for_list (items := vs) (h₀ := s.heap) (L := L) (fun i m _ => ∃ t, m (Str.ofString "key") = some (.int (keyF (ns.take i)) t)) ?a ?b ?c R'.h (fun _ _ _ _ F _ _ => F.lst hl) ?F ?N ?P ?_ ?_
  case a => rfl
  case b => rfl
  case c => rfl
  case F => assumption
  case N => assumption
  case P => exact ⟨_, rfl⟩
  · intro i v h tk m news I it hv F N hne hP
    obtain ⟨t, hk⟩ := hP
    obtain ⟨k, tv, rfl, hkn⟩ := IntsAre.at hi i v hv
    walk_at "wk"
    refine ⟨_, _, _, _, rfl, by assumption, by assumption, by assumption, exSomeInt (by rfl) ?_⟩
    rw [take_snoc hkn, keyF_snoc]
  · intro h tk m news F N hP
    obtain ⟨t, hk⟩ := hP
    rw [IntsAre.length hi, List.take_length] at hk
    walk_at "wk"
    exact post_fr (by assumption) (exInt rfl)
end
end

section
theorem join_empty (l : List Str) : (Txt.join (Str.ofString "") l).cps = (l.flatMap (fun x => x.cps.toList)).toArray := by
  have key : ∀ (r : List Str) (a : Array Nat), r.foldl (fun acc p => acc ++ (Str.ofString "").cps ++ p.cps) a = a ++ (r.flatMap (fun x => x.cps.toList)).toArray := by
    intro r
    induction r with
    | nil => intro a; simp
    | cons x r ih =>
      intro a
      rw [List.foldl_cons, ih]
      have : (Str.ofString "").cps = #[] := by decide
      rw [this]
      apply Array.toList_inj.mp
      simp
  show ((l.drop 1).foldl (fun acc p => acc ++ (Str.ofString "").cps ++ p.cps) (l.headD Str.empty).cps) = _
  rw [key]
  cases l with
  | nil => rfl
  | cons x r => apply Array.toList_inj.mp; simp

noncomputable def textF (ns : List Int) : Str := ⟨(ns.map Int.toNat).toArray⟩
theorem join_chars (ns : List Int) : Txt.join (Str.ofString "") (ns.map fun k => (⟨#[k.toNat]⟩ : Str)) = textF ns := by
  have h := join_empty (ns.map fun k => (⟨#[k.toNat]⟩ : Str))
  have e : (ns.map fun k => (⟨#[k.toNat]⟩ : Str)).flatMap (fun x => x.cps.toList) = ns.map Int.toNat := by
    induction ns with
    | nil => rfl
    | cons a r ih => simp_all [join_empty]
  rw [e] at h
  cases hx : Txt.join (Str.ofString "") (ns.map fun k => (⟨#[k.toNat]⟩ : Str)) with
  | mk c => rw [hx] at h; simp only at h; rw [h]; rfl

theorem sum_ones {α : Type} (l : List α) : (l.map fun _ => 1).sum = l.length := by
  induction l with
  | nil => rfl
  | cons a r ih => simp [ih]; omega

noncomputable def ChrRel (v y : Value) : Prop := ∃ k t t', v = .int k t ∧ y = .str ⟨#[k.toNat]⟩ t'
theorem chr_strs : ∀ {vs : List Value} {ns : List Int} {ys : List Value}, IntsAre vs ns → Paired ChrRel vs ys → StrsAre ys (ns.map fun k => (⟨#[k.toNat]⟩ : Str))
  | _, _, _, .nil, .nil => .nil
  | _, _, _, .cons _ _ h, .cons ⟨k, t, t', e, e'⟩ r => by cases e; subst e'; exact .cons _ _ (chr_strs h r)

section
variable {prog : Program} {w : World} {A : Around} {E : Value → Shared → Prop} {s : Shared} {n : Nat}

theorem text_call (G : Gd w s.heap) (R : Rm (n + 1) A) (l : Addr) (ns : List Int) (vs : List Value) (hl : s.heap.IsList l vs.toArray) (hi : IntsAre vs ns) (hr : ∀ k ∈ ns, 0 ≤ k ∧ k < 256) (hz : ns.length ≤ 1000) :
    wpAny (model prog w) A (call (.ref 251) [.ref l]) (Post s fun v => ∃ t', v = .str (textF ns) t') E s := by
  walk_at "fill"
  have X : (Mine.hd.heap_39 w.params).In s.heap := G.k
  obtain ⟨mg, mb, T⟩ := G.t
  refine enter [(Str.ofString "octets", .ref l)] G R (by k_is) (by k_is) (BindsTo.of_eq rfl) (locs rfl) (by decide) rfl rfl rfl ?_
  intro L h₁ tk A' R' F
  have N : News s.heap L h₁ [] := News.nil
  walk_at "wk"
  refine lc_list (fun _ => true) ChrRel (closureFor_none (by decide)) (by decide) rfl (by decide) rfl R'.h ?_
  walk_at "nmL"
  refine ⟨l, _, rfl, F.lst hl, ?_, ?_, ?_, ?_⟩
  · have := IntsAre.length hi; simp only [List.size_toArray, sizeLine]; omega
  · intro C v s₃ m₃ hv hn hm hk
    exact wpAny_pure ⟨rfl, Keeps.refl _⟩
  · intro C v s₃ m₃ hv _ hn hm hk
    have G₃ : Gd w s₃.heap := G.keeps fun b o e => hk b o (F.keep b o e)
    obtain ⟨i, hi', e⟩ := List.getElem_of_mem hv
    obtain ⟨k, tv, rfl, hkn⟩ := IntsAre.at hi i v (by simp only [List.toList_toArray] at e hi' ⊢; rw [List.getElem?_eq_getElem hi', e])
    have hr' := hr k (List.mem_of_getElem? hkn)
    refine Call_ ?_
    refine nmB G₃ (by k_is) (by boot_fast) (by decide) ?_
    refine PyProof.Rows.callWith_builtin1 ?_
    refine spliced_more ?_
    refine nmV hn hm ?_
    refine spliced_none ?_
    refine chr_of_range (by omega) (by omega) ?_
    exact ⟨⟨k, tv, _, rfl, rfl⟩, _, _, rfl, fun _ _ e => e⟩
  · intro D h' tk' ys hD hlD _ hP hk
    rw [List.filter_eq_self.mpr (fun _ _ => rfl)] at hP
    have hS := chr_strs hi hP
    refine spliced_none ?_
    refine join_listW (x := Str.ofString "") hlD hS (by decide) ?_ fun t' k' => ?_
    · simp only [List.map_map, List.length_map]
      have : (List.map ((fun x : Str => x.length) ∘ fun k : Int => (⟨#[k.toNat]⟩ : Str)) ns) = ns.map (fun _ => 1) := List.map_congr_left fun _ _ => rfl
      rw [this, sum_ones]
      omega
    · rw [join_chars]
      exact ⟨⟨h', k', rfl, fun b o e => hk b o (F.keep b o e)⟩, t', rfl⟩
theorem textb_call (G : Gd w s.heap) (R : Rm (n + 1) A) (b : Array UInt8) (t : Tok) (hz : b.size ≤ 1000) :
    wpAny (model prog w) A (call (.ref 251) [.bytes b t]) (Post s fun v => ∃ t', v = .str (textF (KBw.bInts b)) t') E s := by
  walk_at "fill"
  have X : (Mine.hd.heap_39 w.params).In s.heap := G.k
  obtain ⟨mg, mb, T⟩ := G.t
  refine enter [(Str.ofString "octets", .bytes b t)] G R (by k_is) (by k_is) (BindsTo.of_eq rfl) (locs rfl) (by decide) rfl rfl rfl ?_
  intro L h₁ tk A' R' F
  have N : News s.heap L h₁ [] := News.nil
  walk_at "wk"
  refine lc_bytes ChrRel (closureFor_none (by decide)) (by decide) rfl (by decide) rfl R'.h ?_
  walk_at "nmL"
  refine ⟨b, t, rfl, ?_, ?_, ?_⟩
  · simp only [sizeLine]; omega
  · intro C c u s₃ m₃ hv hn hm hk
    have G₃ : Gd w s₃.heap := G.keeps fun b o e => hk b o (F.keep b o e)
    have hr' := c.toNat_lt
    refine Call_ ?_
    refine nmB G₃ (by k_is) (by boot_fast) (by decide) ?_
    refine PyProof.Rows.callWith_builtin1 ?_
    refine spliced_more ?_
    refine nmV hn hm ?_
    refine spliced_none ?_
    refine chr_of_range (by omega) (by omega) ?_
    exact ⟨⟨_, u, _, rfl, rfl⟩, _, _, rfl, fun _ _ e => e⟩
  · intro D h' tk' ys vs hD hlD hi hP hk
    have hS := chr_strs hi hP
    refine spliced_none ?_
    refine join_listW (x := Str.ofString "") hlD hS (by decide) ?_ fun t' k' => ?_
    · simp only [List.map_map, List.length_map]
      have : (List.map ((fun x : Str => x.length) ∘ fun k : Int => (⟨#[k.toNat]⟩ : Str)) (KBw.bInts b)) = (KBw.bInts b).map (fun _ => 1) := List.map_congr_left fun _ _ => rfl
      rw [this, sum_ones, KBw.ints_length]
      omega
    · rw [join_chars]
      exact ⟨⟨h', k', rfl, fun b o e => hk b o (F.keep b o e)⟩, t', rfl⟩

end
end

section
section
variable {prog : Program} {w : World} {A : Around} {E : Value → Shared → Prop} {s : Shared} {n : Nat}
theorem plain_noDict {h : Heap} {l : Addr} {items : Array Value} (hp : h.PlainList l items) : h.NoDictAt (.ref l) := by
  obtain ⟨n, ho⟩ := hp
  exact ⟨_, ho, rfl⟩
theorem fr_plain {h₀ h : Heap} {L l : Addr} {m : Str → Option Value} {items : Array Value} (F : Fr h₀ L h m) (hp : h₀.PlainList l items) : h.PlainList l items := by
  obtain ⟨n, ho⟩ := hp
  exact ⟨n, F.keep _ _ ho⟩

noncomputable def numF (ns : List Int) : Int := ns.foldl (fun k v => 64 * k + v.fmod 64) 0
theorem numF_snoc (l : List Int) (k : Int) : numF (l ++ [k]) = 64 * numF l + k.fmod 64 := by simp [numF]

theorem numF_four {ns : List Int} (h : ns.length = 4) : 0 ≤ numF ns ∧ numF ns < 16777216 := by
  match ns, h with
  | [a, b, c, d], _ =>
    have ha := Int.fmod_nonneg_of_pos a (show (0 : Int) < 64 by omega)
    have hb := Int.fmod_nonneg_of_pos b (show (0 : Int) < 64 by omega)
    have hc := Int.fmod_nonneg_of_pos c (show (0 : Int) < 64 by omega)
    have hd := Int.fmod_nonneg_of_pos d (show (0 : Int) < 64 by omega)
    have ha' := Int.fmod_lt_of_pos a (show (0 : Int) < 64 by omega)
    have hb' := Int.fmod_lt_of_pos b (show (0 : Int) < 64 by omega)
    have hc' := Int.fmod_lt_of_pos c (show (0 : Int) < 64 by omega)
    have hd' := Int.fmod_lt_of_pos d (show (0 : Int) < 64 by omega)
    simp only [numF, List.foldl_cons, List.foldl_nil]
    omega

noncomputable def octNums (ns : List Int) : List Int := List.take (3 - ((ns.count 64 : Nat) : Int)).toNat [(numF ns).fdiv 65536, ((numF ns).fdiv 256).fmod 256, (numF ns).fmod 256]
noncomputable def octF (ns : List Int) : Array UInt8 := ((octNums ns).map fun n => n.toNat.toUInt8).toArray
theorem octNums_mem {ns : List Int} (h : ns.length = 4) : ∀ k ∈ octNums ns, 0 ≤ k ∧ k < 256 := by
  intro k hk
  have hN := numF_four h
  have hm := List.mem_of_mem_take hk
  have e1 : (numF ns).fdiv 65536 = numF ns / 65536 := Int.fdiv_eq_ediv_of_nonneg _ (by omega)
  have e2 : (numF ns).fdiv 256 = numF ns / 256 := Int.fdiv_eq_ediv_of_nonneg _ (by omega)
  simp only [List.mem_cons, List.not_mem_nil, or_false] at hm
  rcases hm with rfl | rfl | rfl
  · omega
  · exact ⟨Int.fmod_nonneg_of_pos _ (by omega), Int.fmod_lt_of_pos _ (by omega)⟩
  · exact ⟨Int.fmod_nonneg_of_pos _ (by omega), Int.fmod_lt_of_pos _ (by omega)⟩

theorem octNums_len {ns : List Int} : (octNums ns).length ≤ 3 := by
  unfold octNums
  rw [List.length_take]
  simp only [List.length_cons, List.length_nil]
  omega

theorem oct_call (G : Gd w s.heap) (R : Rm (n + 1) A) (l : Addr) (ns : List Int) (vs : List Value) (hl : s.heap.PlainList l vs.toArray) (hi : IntsAre vs ns) (hz : ns.length = 4) (hc : ns.count 64 ≤ 2) :
    wpAny (model prog w) A (call (.ref 246) [.ref l]) (Post s fun v => ∃ t', v = .bytes (octF ns) t') E s := by
  walk_at "fill"
  have X : (Mine.hd.heap_39 w.params).In s.heap := G.k
  obtain ⟨mg, mb, T⟩ := G.t
  refine enter [(Str.ofString "figures", .ref l)] G R (by k_is) (by k_is) (BindsTo.of_eq rfl) (locs rfl) (by decide) rfl rfl rfl ?_
  intro L h₁ tk A' R' F
  have N : News s.heap L h₁ [] := News.nil
  walk_at "wk"
  refine for_rule ?_
  walk_at "nmL"
  refine' for_list (items := vs) (h₀ := s.heap) (L := L) (fun i m news => news = [] ∧ m (Str.ofString "figures") = some (.ref l) ∧ ∃ t, m (Str.ofString "number") = some (.int (numF (ns.take i)) t)) ?a ?b ?c R'.h (fun _ _ _ _ F _ _ => F.lst hl.isList) ?F ?N ?P ?_ ?_
  case a => rfl
  case b => rfl
  case c => rfl
  case F => assumption
  case N => assumption
  case P => exact ⟨rfl, rfl, _, rfl⟩
  · intro i v h tk m news I it hv F N hne hP
    obtain ⟨rfl, hf, t, hk⟩ := hP
    obtain ⟨k, tv, rfl, hkn⟩ := IntsAre.at hi i v hv
    walk_at "wk"
    refine ⟨_, _, _, _, rfl, by assumption, by assumption, by assumption, rfl, by walk_at "mv", exSomeInt (by rfl) ?_⟩
    rw [take_snoc hkn, numF_snoc]
  · intro h tk m news F N hP
    obtain ⟨rfl, hf, t, hk⟩ := hP
    rw [IntsAre.length hi, List.take_length] at hk
    have hh := R'.h
    walk_at "wk"
    refine getMethod_list_of PySem.F.slot_list_count PySem.F.type_list_count (Fr.lst (by assumption) hl.isList) (plain_noDict (fr_plain (by assumption) hl)) ?_
    dsimp only
    walk_at "wk"
    refine count_list_ints (Fr.lst (by assumption) hl.isList) hi ?_
    walk_at "wk"
    rename_i D₂ ws h₂ F₂ N₂ hI _ _ _
    refine bytes_K F₂ N₂ (vs := ws) (News.isList N₂ (List.Mem.head _)) (ns := octNums ns) hI (octNums_mem hz) ?_ R'.h fun h'' t'' k'' F'' N'' _ => ?_
    · have e := IntsAre.length hI
      rw [e]; exact Nat.le_trans octNums_len (by decide)
    · exact post_fr F'' (exBytes rfl)
end
end

section
noncomputable def swapF (r : Int) (i : Nat) (v : Int) : Int := if (r.fdiv (2 ^ i)).fmod 2 = 1 then (if v < 52 then (v + 26).fmod 52 else if v > 61 then 125 - v else v) else v
noncomputable def rawF (x : Int) : List Int :=
  let r := x.fdiv 12
  if (x.fdiv 4).fmod 3 = 2 then [r.fmod 64, (r.fdiv 64).fmod 64, (r.fdiv 4096).fmod 64, (r.fdiv 262144).fmod 64]
  else if (x.fdiv 4).fmod 3 = 0 then [swapF r 0 16, swapF r 1 58, swapF r 2 62, swapF r 3 3]
  else [swapF r 0 0, swapF r 1 25, swapF r 2 63, swapF r 3 45]
noncomputable def sizeF (x : Int) : Int := if (x.fdiv 4).fmod 3 = 2 then 3 - ((x.fdiv 12).fdiv 16777216).fmod 3 else 3 - ((x.fdiv 12).fdiv 16).fmod 3
noncomputable def cutF (z : Int) : List Int → List Int
  | [a, b, c, d] => if z = 2 then [a, b, c.fdiv 4 * 4, 64] else if z = 1 then [a, b.fdiv 16 * 16, 64, 64] else [a, b, c, d]
  | l => l
noncomputable def figF (x : Int) : List Int := cutF (sizeF x) (rawF x)

noncomputable def PostH (s : Shared) (P : Value → Heap → Prop) (v : Value) (s' : Shared) : Prop := Keeps s s' ∧ P v s'.heap
/-- a new list of these ints -/
noncomputable def NewInts (h₀ : Heap) (ns : List Int) (v : Value) (h : Heap) : Prop := ∃ D vs, v = .ref D ∧ h₀.get? D = none ∧ h.PlainList D vs.toArray ∧ IntsAre vs ns

theorem news_sub2 {h₀ h : Heap} {L : Addr} {news : List (Addr × Obj)} {p q : Addr × Obj} (N : News h₀ L h news) (hp : p ∈ news) (hq : q ∈ news) : News h₀ L h [p, q] := fun r hr => by
  rcases List.mem_cons.mp hr with rfl | hr
  · exact N _ hp
  · rw [List.mem_singleton.mp hr]; exact N _ hq
section
variable {prog : Program} {w : World} {A : Around} {E : Value → Shared → Prop} {s : Shared} {n : Nat}
theorem exNewInts {s : Shared} {h : Heap} {L D : Addr} {m : Str → Option Value} {tk k : Nat} {ns ms : List Int} {vs : List Value} {news : List (Addr × Obj)} (F : Fr s.heap L h m) (N : News s.heap L h news)
    (hm : (D, W.listOf vs.toArray k) ∈ news) (hi : IntsAre vs ms) (e : ns = ms) : PostH s (NewInts s.heap ns) (.ref D) { s with heap := h, toks := tk } :=
  ⟨⟨h, tk, rfl, F.keep⟩, D, vs, rfl, (N _ hm).2.2, ⟨k, (N _ hm).1⟩, e ▸ hi⟩

theorem cut_two {x a b c d : Int} (hz : sizeF x = 2) (hr : rawF x = [a, b, c, d]) : figF x = [a, b, c.fdiv 4 * 4, 64] := by
  unfold figF; rw [hz, hr]; rfl
theorem cut_one {x a b c d : Int} (hz : sizeF x = 1) (hr : rawF x = [a, b, c, d]) : figF x = [a, b.fdiv 16 * 16, 64, 64] := by
  unfold figF; rw [hz, hr]; rfl
theorem cut_full {x a b c d : Int} (h2 : sizeF x ≠ 2) (h1 : sizeF x ≠ 1) (hr : rawF x = [a, b, c, d]) : figF x = [a, b, c, d] := by
  unfold figF; rw [hr]; unfold cutF; dsimp only; rw [if_neg h2, if_neg h1]
theorem get_size (h : Heap) : h.get? h.objs.size = none := by
  cases e : h.get? h.objs.size with
  | none => rfl
  | some o => exact absurd (Heap.lt_size e) (Nat.lt_irrefl _)
theorem new_list {M : Model} {vs : List Value} {Q : Value → Shared → Prop} (hz : vs.length ≤ 1000) (h : ∀ h' D, (∀ b o, s.heap.get? b = some o → h'.get? b = some o) → s.heap.get? D = none → h'.PlainList D vs.toArray → Q (.ref D) { s with heap := h' }) :
    wpAny M A (newList vs) Q E s :=
  wpAny_newList (h _ _ (fun b o e => Heap.get?_push_of_some _ e) (get_size _) ⟨_, Heap.get?_push_size _ rfl⟩) (by simp only [sizeLine]; omega)
theorem pow_two {i : Nat} (hi : i < 4) {t u : Tok} {Q : Value → Shared → Prop} (h : Q (.int (2 ^ i) s.toks) { s with toks := s.toks + 1 }) : wpAny (model prog w) A (binaryOp .Pow (.int 2 t) (.int (i : Nat) u)) Q E s := by
  obtain rfl | rfl | rfl | rfl : i = 0 ∨ i = 1 ∨ i = 2 ∨ i = 3 := by omega
  · exact AutoIntOps.pow_0 (by decide) (by decide) h
  · exact AutoIntOps.pow_4 (by decide) (by decide) (by decide) (by decide) (by decide) h
  · exact AutoIntOps.pow_4 (by decide) (by decide) (by decide) (by decide) (by decide) h
  · exact AutoIntOps.pow_4 (by decide) (by decide) (by decide) (by decide) (by decide) h
theorem half_two {i : Nat} (hi : i < 4) {r : Int} {t u : Tok} {Q : Value → Shared → Prop} (h : Q (.int (r.fdiv (2 ^ i)) s.toks) { s with toks := s.toks + 1 }) : wpAny (model prog w) A (binaryOp .FloorDiv (.int r t) (.int (2 ^ i) u)) Q E s := by
  obtain rfl | rfl | rfl | rfl : i = 0 ∨ i = 1 ∨ i = 2 ∨ i = 3 := by omega
  · exact PyProof.Rows.floordiv_int (b := 1) (by decide) h
  · exact PyProof.Rows.floordiv_int (b := 2) (by decide) h
  · exact PyProof.Rows.floordiv_int (b := 4) (by decide) h
  · exact PyProof.Rows.floordiv_int (b := 8) (by decide) h
theorem intsAre_one {a b : Int} {t : Tok} (e : b = a) : IntsAre [.int a t] [b] := e ▸ .cons _ _ .nil

theorem fig_call (G : Gd w s.heap) (R : Rm (n + 1) A) (x : Int) (t : Tok) :
    wpAny (model prog w) A (call (.ref 239) [.int x t]) (PostH s (NewInts s.heap (figF x))) E s := by
  walk_at "fill"
  have X : (Mine.hd.heap_39 w.params).In s.heap := G.k
  obtain ⟨mg, mb, T⟩ := G.t
  refine enter [(Str.ofString "x", .int x t)] G R (by k_is) (by k_is) (BindsTo.of_eq rfl) (locs rfl) (by decide) rfl rfl rfl ?_
  intro L h₁ tk A' R' F
  have N : News s.heap L h₁ [] := News.nil
  walk_at "wk"
  · refine exNewInts (by assumption) (by assumption) (by k_mem) (.cons _ _ (.cons _ _ (.cons _ _ (.cons _ _ .nil)))) (cut_two ((if_pos (by assumption)).trans (by assumption)) (if_pos (by assumption)))
  · refine exNewInts (by assumption) (by assumption) (by k_mem) (.cons _ _ (.cons _ _ (.cons _ _ (.cons _ _ .nil)))) (cut_one ((if_pos (by assumption)).trans (by assumption)) (if_pos (by assumption)))
  · refine exNewInts (by assumption) (by assumption) (by k_mem) (.cons _ _ (.cons _ _ (.cons _ _ (.cons _ _ .nil)))) (cut_full (by unfold sizeF; rw [if_pos (by assumption)]; assumption) (by unfold sizeF; rw [if_pos (by assumption)]; assumption) (if_pos (by assumption)))
  · rename_i e2 _ D _ _ _ h₂ F₂ N₂
    refine for_rule ?_
    refine Subscript_ ?_
    refine List_ ?_
    refine spliced_more ?_
    refine List_ ?_
    iterate 4 (refine spliced_more ?_; refine wpAny_Constant_int ?_; dsimp only)
    refine spliced_none ?_
    refine new_list (by simp) fun h₃ la hk₃ hna hla => ?_
    obtain ⟨va, hla, hia⟩ : ∃ v : List Value, h₃.PlainList la v.toArray ∧ IntsAre v [16, 58, 62, 3] := by
      refine ⟨_, hla, ?_⟩
      iterate 4 refine .cons _ _ ?_
      exact .nil
    dsimp only at hk₃ hna ⊢
    refine spliced_more ?_
    refine List_ ?_
    iterate 4 (refine spliced_more ?_; refine wpAny_Constant_int ?_; dsimp only)
    refine spliced_none ?_
    refine new_list (by simp) fun h₄ lb hk₄ hnb hlb => ?_
    obtain ⟨vb, hlb, hib⟩ : ∃ v : List Value, h₄.PlainList lb v.toArray ∧ IntsAre v [0, 25, 63, 45] := by
      refine ⟨_, hlb, ?_⟩
      iterate 4 refine .cons _ _ ?_
      exact .nil
    dsimp only at hk₄ hnb ⊢
    refine spliced_none ?_
    refine new_list (by simp) fun h₅ lo hk₅ _ hlo => ?_
    dsimp only at hk₅ ⊢
    have F₃ := F₂.keeps hk₃
    have F₅ := (F₃.keeps hk₄).keeps hk₅
    have N₅ : News s.heap L h₅ [(D, W.listOf #[] 0)] := ((N₂.grown hk₃).grown hk₄).grown hk₅
    have no : ∀ {h : Heap} {m : Str → Option Value} {a : Addr}, Fr s.heap L h m → h.get? a = none → s.heap.get? a = none ∧ a ≠ L := fun {h m a} F e => by
      refine ⟨?_, ?_⟩
      · cases q : s.heap.get? a with
        | none => rfl
        | some o => rw [F.keep _ _ q] at e; cases e
      · rintro rfl
        obtain ⟨o, _, _, ho, _⟩ := F.ns
        rw [ho] at e; cases e
    have neD : ∀ {h : Heap} {a : Addr}, (∀ b o, h₂.get? b = some o → h.get? b = some o) → h.get? a = none → a ≠ D := fun {h a} hk e => by
      rintro rfl
      rw [hk _ _ (N₂ _ (.head _)).1] at e; cases e
    have hidx := Int.fmod_lt_of_pos (x.fdiv 4) (show (0 : Int) < 3 by omega)
    have hidx0 := Int.fmod_nonneg_of_pos (x.fdiv 4) (show (0 : Int) < 3 by omega)
    refine wpAny_BinOp ?_
    refine wpAny_BinOp ?_
    refine nmV F₅.ns (by walk_at "mv") ?_
    refine wpAny_Constant_int ?_
    refine PyProof.Rows.floordiv_int (by decide) ?_
    refine wpAny_Constant_int ?_
    refine mod_int' (by decide) ?_
    obtain ⟨ax, vx, cs, ox, hox, hodx, hnx, hLx, hDx, hix, hcl, hraw, hget⟩ : ∃ (ax : Addr) (vx : List Value) (cs : List Int) (ox : Obj), h₅.get? ax = some ox ∧ (ox.cls = .type "list" ∧ ∃ n, ox.data = .seq vx.toArray n) ∧ s.heap.get? ax = none ∧ ax ≠ L ∧ ax ≠ D ∧ IntsAre vx cs ∧ cs.length = 4 ∧
        rawF x = cs.zipIdx.map (fun p => swapF (x.fdiv 12) p.2 p.1) ∧ [Value.ref la, .ref lb].toArray[((x.fdiv 4).fmod 3).toNat]? = some (.ref ax) := by
      by_cases q : (x.fdiv 4).fmod 3 = 0
      · obtain ⟨n', e⟩ := hla
        exact ⟨la, va, _, _, hk₅ _ _ (hk₄ _ _ e), ⟨rfl, n', rfl⟩, (no F₂ hna).1, (no F₂ hna).2, neD (fun _ _ e => e) hna, hia, rfl, by unfold rawF; dsimp only; rw [if_neg e2, if_pos q]; rfl, by rw [q]; rfl⟩
      · have q1 : (x.fdiv 4).fmod 3 = 1 := by omega
        obtain ⟨n', e⟩ := hlb
        exact ⟨lb, vb, _, _, hk₅ _ _ e, ⟨rfl, n', rfl⟩, (no F₃ hnb).1, (no F₃ hnb).2, neD hk₃ hnb, hib, rfl, by unfold rawF; dsimp only; rw [if_neg e2, if_neg q]; rfl, by rw [q1]; rfl⟩
    refine tail_any (ops := [.ref lo, .int ((x.fdiv 4).fmod 3) _]) (Heap.IsList.typeIs (s := ⟨_, _, _, _, _⟩) hlo.isList) slot_list_getitem.lookup (wpAny_getItem_list hlo.isList (by omega) (by omega) hget ?_) (by with_unfolding_all rfl)
    have N₆ : News s.heap L h₅ [(ax, ox), (D, W.listOf #[] 0)] := by
      intro p hp
      rcases List.mem_cons.mp hp with rfl | hp
      · exact ⟨hox, hLx, hnx⟩
      · exact N₅ p hp
    clear N₅ N₂ F₃ hla hlb hlo hk₃ hk₄ hk₅ hna hnb
    have hzi : ∀ (i : Nat) (k : Int), cs[i]? = some k → (cs.zipIdx.map (fun p => swapF (x.fdiv 12) p.2 p.1))[i]? = some (swapF (x.fdiv 12) i k) := by
      intro i k hk
      rw [List.getElem?_map, List.getElem?_zipIdx, hk]
      simp
    have hswl : (cs.zipIdx.map (fun p => swapF (x.fdiv 12) p.2 p.1)).length = 4 := by simp [hcl]
    generalize cs.zipIdx.map (fun p => swapF (x.fdiv 12) p.2 p.1) = sw at hraw hzi hswl
    refine' for_list (items := vx) (h₀ := s.heap) (L := L) (fun i m news => ∃ vals k, IntsAre vals (sw.take i) ∧ news = [(ax, ox), (D, W.listOf vals.toArray k)] ∧ m (Str.ofString "figures") = some (.ref D) ∧ (∃ t, m (Str.ofString "rest") = some (.int (x.fdiv 12) t)) ∧ ∃ t, m (Str.ofString "size") = some (.int (3 - ((x.fdiv 12).fdiv 16).fmod 3) t)) ?a ?b ?c R'.h ?S ?F ?N ?P ?_ ?_
    case a => rfl
    case b => rfl
    case c => rfl
    case F => exact F₅
    case N => exact N₆
    case S => intro i h m news F N hP; obtain ⟨vals, k, _, rfl, _⟩ := hP; exact ⟨ox, (N _ (.head _)).1, hodx⟩
    case P => exact ⟨[], 0, .nil, rfl, rfl, ⟨_, rfl⟩, ⟨_, rfl⟩⟩
    · intro i v h tk m news I it hv F N hne hP
      obtain ⟨vals, k, hI, rfl, hm1, ⟨tr, hm2⟩, ⟨tz, hm3⟩⟩ := hP
      obtain ⟨c, tc, rfl, hc⟩ := IntsAre.at hix i v hv
      have hi : i < 4 := by have := (List.getElem?_eq_some_iff.mp hc).1; omega
      have hvl : vals.length = i := by rw [hI.length, List.length_take]; omega
      have hDI : D ≠ I := hne (D, _) (.tail _ (.head _))
      have hAI : ax ≠ I := hne (ax, _) (.head _)
      refine wpAny_execs_cons ?_
      refine wpAny_Assign_Name ?_
      refine wpAny_mono (Q := fun v' s' => ∃ t k', v' = .int (if c < 52 then (c + 26).fmod 52 else if c > 61 then 125 - c else c) t ∧ s' = { s with heap := h, toks := k' }) ?_ (fun v' s' hv' => ?_) fun _ _ e => e
      · refine IfExp_ ?_
        refine wpAny_isTrue_Compare1 ?_
        refine nmV F.ns (by walk_at "mv") ?_
        refine wpAny_Constant_int ?_
        refine PySem.P.lt_int ?_
        refine wpAny_truthy_bool ?_
        by_cases q : c < 52
        · rw [if_pos (decide_eq_true q), if_pos q]
          refine wpAny_BinOp ?_
          refine wpAny_BinOp ?_
          refine nmV F.ns (by walk_at "mv") ?_
          refine wpAny_Constant_int ?_
          refine PyProof.Rows.add_int ?_
          refine wpAny_Constant_int ?_
          refine mod_int' (by decide) ?_
          exact ⟨_, _, rfl, rfl⟩
        · rw [if_neg (by simpa using q), if_neg q]
          refine IfExp_ ?_
          refine wpAny_isTrue_Compare1 ?_
          refine nmV F.ns (by walk_at "mv") ?_
          refine wpAny_Constant_int ?_
          refine PySem.P.gt_int ?_
          refine wpAny_truthy_bool ?_
          by_cases q' : c > 61
          · rw [if_pos (decide_eq_true q'), if_pos q']
            refine wpAny_BinOp ?_
            refine wpAny_Constant_int ?_
            refine nmV F.ns (by walk_at "mv") ?_
            refine PySem.P.sub_int ?_
            exact ⟨_, _, rfl, rfl⟩
          · rw [if_neg (by simpa using q'), if_neg q']
            refine nmV F.ns (by walk_at "mv") ?_
            exact ⟨_, _, rfl, rfl⟩
      obtain ⟨t', k', rfl, rfl⟩ := hv'
      refine wpAny_storeName_local rfl F.ns (fun h' hn' hs' => ?_) rfl
      have F' := F.set hn' hs'
      have N' := N.set hs'
      clear F N hn' hs'
      dsimp only
      have hDo := (N' _ (.tail _ (.tail _ (.head _)))).1
      have hDl : h'.IsList D vals.toArray := ⟨_, hDo, rfl, _, rfl⟩
      refine wpAny_execs_cons ?_
      refine wpAny_Expr ?_
      refine MethodCall_ ?_
      refine nmV F'.ns (by walk_at "mv") ?_
      refine getMethod_builtin ⟨_, hDo, rfl⟩ PySem.F.plainAttrs_list PySem.F.slot_list_append PySem.F.type_list_append (fun a e => by cases e; exact ⟨_, hDo, rfl⟩) ?_
      refine callWith_method1 ?_
      refine spliced_more ?_
      refine wpAny_mono (Q := fun v' s' => ∃ t k', v' = .int (swapF (x.fdiv 12) i c) t ∧ s' = { s with heap := h', toks := k' }) ?_ (fun v' s' hv' => ?_) fun _ _ e => e
      · refine IfExp_ ?_
        refine wpAny_isTrue_Compare1 ?_
        refine wpAny_BinOp ?_
        refine wpAny_BinOp ?_
        refine nmV F'.ns (by walk_at "mv") ?_
        refine wpAny_BinOp ?_
        refine wpAny_Constant_int ?_
        refine Call_ ?_
        refine nmB (G.keeps F'.keep) (by k_is) (by boot_fast) (by decide) ?_
        refine PyProof.Rows.callWith_builtin1 ?_
        refine spliced_more ?_
        refine nmV F'.ns (by walk_at "mv") ?_
        refine spliced_none ?_
        refine call_len_list hDl (by rw [List.size_toArray, hvl]; omega) ?_
        rw [List.size_toArray, hvl]
        refine pow_two hi ?_
        refine half_two hi ?_
        refine wpAny_Constant_int ?_
        refine mod_int' (by decide) ?_
        refine wpAny_Constant_int ?_
        refine PyProof.Rows.eq_int ?_
        refine wpAny_truthy_bool ?_
        unfold swapF
        by_cases q : ((x.fdiv 12).fdiv (2 ^ i)).fmod 2 = 1
        · rw [if_pos (by rw [q]; rfl), if_pos q]
          refine nmV F'.ns (by walk_at "mv") ?_
          exact ⟨_, _, rfl, rfl⟩
        · rw [if_neg (by simpa using q), if_neg q]
          refine nmV F'.ns (by walk_at "mv") ?_
          exact ⟨_, _, rfl, rfl⟩
      obtain ⟨t'', k'', rfl, rfl⟩ := hv'
      refine spliced_none ?_
      refine wpAny_list_append_plain (s := Shared.mk h' _ _ _ _) ⟨k, hDo⟩ (fun h'' hp'' hs'' => ?_) (by rw [List.size_toArray, hvl]; simp only [sizeLine]; omega)
      refine wpAny_execs_nil ?_
      obtain ⟨k3, hp3⟩ := hp''
      have hIo := N' _ (.head _)
      have hAo := N' _ (.tail _ (.head _))
      have hDn := (N' _ (.tail _ (.tail _ (.head _)))).2
      refine ⟨h'', _, _, [(ax, ox), (D, W.listOf (vals ++ [Value.int (swapF (x.fdiv 12) i c) t'']).toArray k3)], rfl, F'.change hs'' hDn.1 hDn.2, ?_, ?_, _, k3, ?_, rfl, by walk_at "mv", ⟨_, by walk_at "mv"⟩, ⟨_, by walk_at "mv"⟩⟩
      · intro p hp
        rcases List.mem_cons.mp hp with rfl | hp
        · exact ⟨hs''.extBut _ _ (Ne.symm hDI) hIo.1, hIo.2⟩
        rcases List.mem_cons.mp hp with rfl | hp
        · exact ⟨hs''.extBut _ _ hDx hAo.1, hAo.2⟩
        rcases List.mem_singleton.mp hp with rfl
        refine ⟨?_, hDn⟩
        have e : vals.toArray.push (Value.int (swapF (x.fdiv 12) i c) t'') = (vals ++ [Value.int (swapF (x.fdiv 12) i c) t'']).toArray := by simp
        rw [e] at hp3
        exact hp3
      · intro p hp
        rcases List.mem_cons.mp hp with rfl | hp
        · exact hAI
        rcases List.mem_singleton.mp hp with rfl
        exact hDI
      · rw [take_snoc (hzi i c hc)]
        exact hI.append (.cons _ _ .nil)
    · intro h tk m news F N hP
      obtain ⟨vals, k, hI, rfl, hm1, ⟨tr, hm2⟩, ⟨tz, hm3⟩⟩ := hP
      have hvx : vx.length = 4 := by rw [hix.length, hcl]
      rw [hvx, List.take_of_length_le (by omega)] at hI
      have hz : sizeF x = 3 - ((x.fdiv 12).fdiv 16).fmod 3 := by unfold sizeF; simp [e2]
      match sw, hswl, hI, hraw with
      | [r0, r1, r2, r3], _, hI, hraw =>
        obtain ⟨u0, vals, rfl, hI1⟩ := IntsAre.cons_inv hI
        obtain ⟨u1, vals, rfl, hI2⟩ := IntsAre.cons_inv hI1
        obtain ⟨u2, vals, rfl, hI3⟩ := IntsAre.cons_inv hI2
        obtain ⟨u3, vals, rfl, hI4⟩ := IntsAre.cons_inv hI3
        cases IntsAre.nil_inv hI4
        replace N : News s.heap L h [(D, W.listOf #[Value.int r0 u0, .int r1 u1, .int r2 u2, .int r3 u3] k)] := fun p hp => N p (.tail _ hp)
        clear hI hI1 hI2 hI3 hI4 hzi N₆ F₅ hget hox hodx hix hcl no neD hswl
        walk_at "wk"
        · refine exNewInts (by assumption) (by assumption) (by k_mem) (.cons _ _ (.cons _ _ (.cons _ _ (.cons _ _ .nil)))) (cut_two (hz.trans (by assumption)) hraw)
        · refine exNewInts (by assumption) (by assumption) (by k_mem) (.cons _ _ (.cons _ _ (.cons _ _ (.cons _ _ .nil)))) (cut_one (hz.trans (by assumption)) hraw)
        · refine exNewInts (by assumption) (by assumption) (by k_mem) (.cons _ _ (.cons _ _ (.cons _ _ (.cons _ _ .nil)))) (cut_full (by rw [hz]; assumption) (by rw [hz]; assumption) hraw)
end
end

section
noncomputable def hexStr (b : Array UInt8) : Str := ⟨b.toList.zipIdx.foldl (fun (out : Array Nat) (c, _) => (out.push (Builtin.Bytes.hexDigit (c.toNat / 16))).push (Builtin.Bytes.hexDigit (c.toNat % 16))) #[]⟩
theorem hexFold (l : List (UInt8 × Nat)) (a : Array Nat) : l.foldl (fun (out : Array Nat) (c, _) => (out.push (Builtin.Bytes.hexDigit (c.toNat / 16))).push (Builtin.Bytes.hexDigit (c.toNat % 16))) a =
    a ++ (l.flatMap fun p => [Builtin.Bytes.hexDigit (p.1.toNat / 16), Builtin.Bytes.hexDigit (p.1.toNat % 16)]).toArray := by
  induction l generalizing a with
  | nil => simp
  | cons x r ih => rw [List.foldl_cons, ih]; apply Array.toList_inj.mp; simp
theorem hexStr_eq (b : Array UInt8) : (hexStr b).cps = (b.toList.flatMap fun c => [Builtin.Bytes.hexDigit (c.toNat / 16), Builtin.Bytes.hexDigit (c.toNat % 16)]).toArray := by
  unfold hexStr
  simp only
  rw [hexFold]
  have : ∀ (l : List UInt8) (k : Nat), ((l.zipIdx k).flatMap fun p => [Builtin.Bytes.hexDigit (p.1.toNat / 16), Builtin.Bytes.hexDigit (p.1.toNat % 16)]) = l.flatMap fun c => [Builtin.Bytes.hexDigit (c.toNat / 16), Builtin.Bytes.hexDigit (c.toNat % 16)] := by
    intro l
    induction l with
    | nil => intro k; rfl
    | cons x r ih => intro k; simp [List.zipIdx_cons, ih]
  rw [this]
  simp
theorem hexStr_len (b : Array UInt8) : (hexStr b).length = 2 * b.size := by
  show (hexStr b).cps.size = _
  rw [hexStr_eq]
  obtain ⟨l⟩ := b
  simp only [List.size_toArray]
  induction l with
  | nil => rfl
  | cons x r ih => simp_all; omega
section
variable {prog : Program} {w : World} {A : Around} {E : Value → Shared → Prop} {s : Shared} {n : Nat}
theorem buffer_call (G : Gd w s.heap) (R : Rm (n + 1) A) (b : Array UInt8) (t : Tok) :
    wpAny (model prog w) A (call (.ref 193) [.bytes b t]) (Post s fun v => v = .bytes b t) E s := by
  walk_at "fill"
  have X : (Mine.hd.heap_39 w.params).In s.heap := G.k
  obtain ⟨mg, mb, T⟩ := G.t
  refine enter [(Str.ofString "data", .bytes b t)] G R (by k_is) (by k_is) (BindsTo.of_eq rfl) (locs rfl) (by decide) rfl rfl rfl ?_
  intro L h₁ tk A' R' F
  have N : News s.heap L h₁ [] := News.nil
  walk_at "wk"
  exact post_fr (by assumption) rfl
theorem truth_call (G : Gd w s.heap) (R : Rm (n + 1) A) :
    wpAny (model prog w) A (call (.ref 200) [.bool false]) (Post s fun v => v = .bool false) E s := by
  walk_at "fill"
  have X : (Mine.hd.heap_39 w.params).In s.heap := G.k
  obtain ⟨mg, mb, T⟩ := G.t
  refine enter [(Str.ofString "x", .bool false)] G R (by k_is) (by k_is) (BindsTo.of_eq rfl) (locs rfl) (by decide) rfl rfl rfl ?_
  intro L h₁ tk A' R' F
  have N : News s.heap L h₁ [] := News.nil
  walk_at "wk"
  exact post_fr (by assumption) rfl

theorem hex_call (b : Array UInt8) (t : Tok) (hb : b.size ≤ 1000) {Q : Value → Shared → Prop} (h : Q (.str (hexStr b) s.toks) { s with toks := s.toks + 1 }) :
    wpAny (model prog w) A (call (.builtin "bytes.hex") [.bytes b t]) Q E s := by
  refine wpAny_call_entry FB.slot_bytes_hex (typeIs_bytes _ _ _) FB.entry_bytes_hex ?_ (FB.args_bytes_hex_1 _)
  rw [hex_tree]
  refine wpAny_bind (wpAny_mkStr ?_ ?_)
  · exact wpAny_pure ⟨_, rfl, h⟩
  · have := hexStr_len b
    show (hexStr b).length ≤ sizeLine
    rw [this]; simp only [sizeLine]; omega
theorem encode_call (x : Str) (t t' : Tok) (hx : ∀ c ∈ x.cps.toList, c < 128) (hz : x.length ≤ 2000) {Q : Value → Shared → Prop} (h : Q (.bytes (x.cps.map fun c => c.toUInt8) s.toks) { s with toks := s.toks + 1 }) :
    wpAny (model prog w) A (call (.builtin "str.encode") [.str x t, .str (Str.ofString "ascii") t']) Q E s := by
  refine wpAny_call_entry PySem.F.slot_str_encode (typeIs_str _ _ _) PySem.F.entry_str_encode ?_ (PySem.F.args_str_encode_2 _ _)
  rw [encode_tree2, road_ascii, narrow_ascii _ _ x hx hz]
  refine wpAny_bind (wpAny_bind (wpAny_pure ?_))
  unfold mkBytes
  rw [if_neg (by simp [sizeLine, Str.length] at hz ⊢; omega)]
  exact wpAny_bind (wpAny_fresh (wpAny_pure (wpAny_pure ⟨_, rfl, h⟩)))
theorem slot_bytes_upper : Slot "bytes" "upper" "bytes.upper" :=
  .of (owner := "bytes") (n := "upper") (by rw [typeLookup_type, builtinLookup_eq_fast]; kernel_rfl) (by decide +kernel) (by decide +kernel) (by decide +kernel)
    (by first | exact .inl (by decide +kernel) | exact .inr (by decide +kernel)) (by rw [isSubtype_type]; kernel_rfl)
theorem type_bytes_upper : typeOf (.builtin "bytes.upper") = pure (.type "method_descriptor") := by show builtinType _ = _; rw [builtinType_eq_fast]; kernel_rfl
theorem entry_bytes_upper : entryFor table "bytes.upper" = some Builtin.«bytes.upper» := entryFor_of_tree (by kernel_rfl)
theorem args_bytes_upper_1 (a : Value) : argsOk "bytes.upper" ⟨[a], []⟩ := by unfold argsOk; kernel_rfl
theorem upper_call (b : Array UInt8) (t : Tok) (hz : b.size ≤ 2000) {Q : Value → Shared → Prop} (h : Q (.bytes (b.toList.map Builtin.Bytes.toUpper).toArray s.toks) { s with toks := s.toks + 1 }) :
    wpAny (model prog w) A (call (.builtin "bytes.upper") [.bytes b t]) Q E s := by
  refine wpAny_call_entry slot_bytes_upper (typeIs_bytes _ _ _) entry_bytes_upper ?_ (args_bytes_upper_1 _)
  rw [upper_tree]
  unfold mkBytes
  rw [if_neg (by simp [sizeLine]; omega)]
  exact wpAny_bind (wpAny_bind (wpAny_fresh (wpAny_pure (wpAny_pure ⟨_, rfl, h⟩))))
theorem hexlify_call (G : Gd w s.heap) (R : Rm (n + 2) A) (b : Array UInt8) (t : Tok) (hb : b.size ≤ 1000) :
    wpAny (model prog w) A (call (.ref 217) [.bytes b t]) (Post s fun v => ∃ t', v = .bytes ((hexStr b).cps.map fun c => c.toUInt8) t') E s := by
  walk_at "fill"
  have X : (Mine.hd.heap_39 w.params).In s.heap := G.k
  obtain ⟨mg, mb, T⟩ := G.t
  refine enter [(Str.ofString "data", .bytes b t), (Str.ofString "sep", .ref 209), (Str.ofString "bytes_per_sep", .int 1 588)] G R (by k_is) (by k_is) (binds_K G.k rfl (by k_is) rfl rfl rfl) (locs rfl) (by decide) rfl rfl rfl ?_
  intro L h₁ tk A' R' F
  have N : News s.heap L h₁ [] := News.nil
  walk_at "wk"
  refine wpAny_mono (buffer_call (G.keeps F.keep) R' b t) (fun v s' hv => ?_) fun _ _ e => e
  obtain ⟨⟨h', tk', rfl, hk⟩, rfl⟩ := hv
  have F₂ := F.keeps hk
  have N₂ := N.grown hk
  clear F N
  dsimp only
  walk_at "wk"
  refine getMethod_builtin (typeIs_bytes _ _ _) FB.plainAttrs_bytes FB.slot_bytes_hex FB.type_bytes_hex (fun _ e => nomatch e) ?_
  dsimp only
  walk_at "wk"
  refine hex_call b t hb ?_
  walk_at "wk"
  refine getMethod_builtin (typeIs_str _ _ _) PySem.F.plainAttrs_str PySem.F.slot_str_encode PySem.F.type_str_encode (fun _ e => nomatch e) ?_
  dsimp only
  walk_at "wk"
  refine encode_call _ _ _ ?_ ?_ ?_
  · intro c hc
    rw [hexStr_eq] at hc
    obtain ⟨d, hd, hc⟩ := List.mem_flatMap.mp hc
    have := d.toNat_lt
    simp only [List.mem_cons, List.not_mem_nil, or_false] at hc
    rcases hc with rfl | rfl <;> (unfold Builtin.Bytes.hexDigit; split <;> omega)
  · rw [hexStr_len]; omega
  · exact post_fr (by assumption) (exBytes rfl)

theorem b16_call (G : Gd w s.heap) (R : Rm (n + 3) A) (b : Array UInt8) (t : Tok) (hb : b.size ≤ 400) :
    wpAny (model prog w) A (call (.ref 232) [.bytes b t]) (Post s fun v => ∃ t', v = .bytes (((hexStr b).cps.map fun c => c.toUInt8).toList.map Builtin.Bytes.toUpper).toArray t') E s := by
  walk_at "fill"
  have X : (Mine.hd.heap_39 w.params).In s.heap := G.k
  obtain ⟨mg, mb, T⟩ := G.t
  refine enter [(Str.ofString "s", .bytes b t)] G R (by k_is) (by k_is) (BindsTo.of_eq rfl) (locs rfl) (by decide) rfl rfl rfl ?_
  intro L h₁ tk A' R' F
  have N : News s.heap L h₁ [] := News.nil
  walk_at "wk"
  refine wpAny_mono (hexlify_call (G.keeps F.keep) R' b t (by omega)) (fun v s' hv => ?_) fun _ _ e => e
  obtain ⟨⟨h', tk', rfl, hk⟩, t', rfl⟩ := hv
  have F₂ := F.keeps hk
  have N₂ := N.grown hk
  clear F N
  dsimp only
  walk_at "wk"
  refine getMethod_builtin (typeIs_bytes _ _ _) FB.plainAttrs_bytes slot_bytes_upper type_bytes_upper (fun _ e => nomatch e) ?_
  dsimp only
  walk_at "wk"
  refine upper_call _ _ ?_ ?_
  · have := hexStr_len b
    have e : ((hexStr b).cps.map fun c => c.toUInt8).size = (hexStr b).length := by simp [Str.length]
    rw [e, this]; omega
  · exact post_fr (by assumption) (exBytes rfl)
end
end

section
/-- a fact kept out of the closers' sight -/
structure Hide (p : Prop) : Prop where
  out : p
noncomputable def b64L : List UInt8 := [65, 66, 67, 68, 69, 70, 71, 72, 73, 74, 75, 76, 77, 78, 79, 80, 81, 82, 83, 84, 85, 86, 87, 88, 89, 90, 97, 98, 99, 100, 101, 102, 103, 104, 105, 106, 107, 108, 109, 110, 111, 112, 113, 114, 115, 116, 117, 118, 119, 120, 121, 122, 48, 49, 50, 51, 52, 53, 54, 55, 56, 57, 43, 47]
noncomputable def T64 (i : Int) : Int := ((b64L.getD i.toNat 0).toNat : Int)
theorem T64_lt (i : Int) : 0 ≤ T64 i ∧ T64 i < 256 := by
  unfold T64
  have := (b64L.getD i.toNat 0).toNat_lt
  omega
theorem and63 (x : Int) : 0 ≤ Builtin.bitAnd x 63 ∧ Builtin.bitAnd x 63 < 64 := by rw [bitAnd_m6]; omega
theorem and3 (x : Int) : 0 ≤ Builtin.bitAnd x 3 * 2 ^ Int.toNat 4 ∧ Builtin.bitAnd x 3 * 2 ^ Int.toNat 4 < 64 := by rw [bitAnd_m2]; show 0 ≤ x % 4 * 16 ∧ x % 4 * 16 < 64; omega
theorem and15 (x : Int) : 0 ≤ Builtin.bitAnd x 15 * 2 ^ Int.toNat 2 ∧ Builtin.bitAnd x 15 * 2 ^ Int.toNat 2 < 64 := by rw [bitAnd_m4]; show 0 ≤ x % 16 * 4 ∧ x % 16 * 4 < 64; omega

noncomputable def lcS (a c : Int) : Int := Builtin.bitAnd (Builtin.bitOr (a * 2 ^ 8) c) 65535
noncomputable def ixN (a : Int) (k : Nat) : Int := Builtin.bitAnd (a.fdiv (2 ^ k)) 63
noncomputable def lcN (c : Nat → Int) : Nat → Int
  | 0 => 0
  | i + 1 => lcS (lcN c i) (c i)
noncomputable def lbN : Nat → Int
  | 0 => 0
  | 1 => 2
  | 2 => 4
  | _ => 0
noncomputable def outN (c : Nat → Int) : Nat → List Int
  | 0 => []
  | 1 => [T64 (ixN (lcN c 1) 2)]
  | 2 => [T64 (ixN (lcN c 1) 2), T64 (ixN (lcN c 2) 4)]
  | _ => [T64 (ixN (lcN c 1) 2), T64 (ixN (lcN c 2) 4), T64 (ixN (lcN c 3) 6), T64 (ixN (lcN c 3) 0)]
noncomputable def b64N (c : Nat → Int) : Nat → List Int
  | 1 => outN c 1 ++ [T64 (Builtin.bitAnd (lcN c 1) 3 * 2 ^ 4), 61, 61]
  | 2 => outN c 2 ++ [T64 (Builtin.bitAnd (lcN c 2) 15 * 2 ^ 2), 61]
  | _ => outN c 3
theorem lcN_lt (c : Nat → Int) (i : Nat) : 0 ≤ lcN c i ∧ lcN c i < 65536 := by
  cases i with
  | zero => exact ⟨Int.le_refl 0, (by decide : (0 : Int) < 65536)⟩
  | succ i => show 0 ≤ lcS _ _ ∧ lcS _ _ < 65536; unfold lcS; rw [bitAnd_m16]; omega
theorem lc_eq (a c : Int) : Builtin.bitAnd (Builtin.bitOr (a * 2 ^ Int.toNat 8) c) 65535 = lcS a c := rfl
theorem ix_eq2 (x : Int) : Builtin.bitAnd (x.fdiv (2 ^ (0 + 8 - 6 : Int).toNat)) 63 = ixN x 2 := by unfold ixN; rw [show (2 ^ (0 + 8 - 6 : Int).toNat : Int) = 2 ^ 2 from by decide]
theorem ix_eq4 (x : Int) : Builtin.bitAnd (x.fdiv (2 ^ (2 + 8 - 6 : Int).toNat)) 63 = ixN x 4 := by unfold ixN; rw [show (2 ^ (2 + 8 - 6 : Int).toNat : Int) = 2 ^ 4 from by decide]
theorem ix_eq6 (x : Int) : Builtin.bitAnd (x.fdiv (2 ^ (4 + 8 - 6 : Int).toNat)) 63 = ixN x 6 := by unfold ixN; rw [show (2 ^ (4 + 8 - 6 : Int).toNat : Int) = 2 ^ 6 from by decide]
theorem ix_eq0 (x : Int) : Builtin.bitAnd (x.fdiv (2 ^ (4 + 8 - 6 - 6 : Int).toNat)) 63 = ixN x 0 := by unfold ixN; rw [show (2 ^ (4 + 8 - 6 - 6 : Int).toNat : Int) = 2 ^ 0 from by decide]
theorem lcN_1 (c : Nat → Int) : lcN c 1 = lcS (lcN c 0) (c 0) := rfl
theorem lcN_2 (c : Nat → Int) : lcN c 2 = lcS (lcN c 1) (c 1) := rfl
theorem lcN_3 (c : Nat → Int) : lcN c 3 = lcS (lcN c 2) (c 2) := rfl
theorem outN_1 (c : Nat → Int) : outN c 1 = [T64 (ixN (lcN c 1) 2)] := rfl
theorem outN_2 (c : Nat → Int) : outN c 2 = [T64 (ixN (lcN c 1) 2), T64 (ixN (lcN c 2) 4)] := rfl
theorem outN_3 (c : Nat → Int) : outN c 3 = [T64 (ixN (lcN c 1) 2), T64 (ixN (lcN c 2) 4), T64 (ixN (lcN c 3) 6), T64 (ixN (lcN c 3) 0)] := rfl
noncomputable def b64I (b : Array UInt8) : List Int := b64N (fun j => ((b.getD j 0).toNat : Int)) b.size

section
variable {prog : Program} {w : World} {A : Around} {E : Value → Shared → Prop} {s : Shared} {n : Nat}
theorem b64_item {value slice : PySem.Expr} {i : Int} {u t : Tok} {Q : Value → Shared → Prop} (hi : 0 ≤ i ∧ i < 64) (h : ∀ q, Hide (q = T64 i) → Q (.int q s.toks) { s with toks := s.toks + 1 })
    (hs : subscripted slice false (.bytes b64L.toArray t) (.int i u) = operate [.bytes b64L.toArray t, .int i u] (getItem (.bytes b64L.toArray t) (.int i u)) := by with_unfolding_all rfl) :
    wpAny (model prog w) A (subscriptTail value slice (.bytes b64L.toArray t) (.int i u)) Q E s :=
  tail_any (typeIs_bytes _ _ _) FB.slot_bytes_getitem.lookup (getItem_bytes (by decide) hi.1 (by have := hi.2; show i < 64; exact this) (h _ ⟨rfl⟩)) hs
end
theorem and3_abs (x : Int) : (Builtin.bitAnd x 3).natAbs < 2 ^ 64 := by rw [bitAnd_m2]; omega
theorem and15_abs (x : Int) : (Builtin.bitAnd x 15).natAbs < 2 ^ 64 := by rw [bitAnd_m4]; omega
local macro_rules | `(tactic| walk_at "binaryOp LShift int int") => `(tactic| (k_here; k_dflt (first | refine lshift_int_small (by decide) (by decide) (and3_abs _) ?_ | refine lshift_int_small (by decide) (by decide) (and15_abs _) ?_)))
local macro_rules | `(tactic| walk_at "subscriptTail") => `(tactic| (k_here; (with_reducible show wpAny _ _ (subscriptTail _ _ (Value.bytes _ _) (Value.int _ _)) _ _ _); k_dflt (refine b64_item (by first | exact and63 _ | exact and3 _ | exact and15 _) ?_; intro q hq)))
section
variable {prog : Program} {w : World} {A : Around} {E : Value → Shared → Prop} {s : Shared} {n : Nat}

theorem b2a_call (G : Gd w s.heap) (R : Rm (n + 2) A) (b : Array UInt8) (t : Tok) (hb : b.size = 1 ∨ b.size = 2 ∨ b.size = 3) :
    wpAny (model prog w) A (call (.ref 208) [.bytes b t] [(Str.ofString "newline", .bool false)]) (Post s fun v => ∃ t', v = .bytes ((b64I b).map fun n => n.toNat.toUInt8).toArray t') E s := by
  walk_at "fill"
  have X : (Mine.hd.heap_39 w.params).In s.heap := G.k
  obtain ⟨mg, mb, T⟩ := G.t
  refine enter [(Str.ofString "data", .bytes b t), (Str.ofString "newline", .bool false)] G R (by k_is) (by k_is) (BindsTo.of_eq rfl) (locs rfl) (by decide) rfl rfl rfl ?_
  intro L h₁ tk A' R' F
  have N : News s.heap L h₁ [] := News.nil
  walk_at "wk"
  refine wpAny_mono (buffer_call (G.keeps F.keep) R' _ t) (fun v s' hv => ?_) fun _ _ e => e
  obtain ⟨⟨h', tk', rfl, hk⟩, rfl⟩ := hv
  have F₂ := F.keeps hk
  have N₂ := N.grown hk
  clear F N
  dsimp only
  walk_at "wk"
  refine wpAny_mono (truth_call (G.keeps (Fr.keep (by assumption))) R') (fun v s' hv => ?_) fun _ _ e => e
  obtain ⟨⟨h', tk', rfl, hk⟩, rfl⟩ := hv
  have F₃ := Fr.keeps (by assumption) hk
  have N₃ := News.grown (by assumption) hk
  dsimp only
  have hh := R'.h
  walk_at "wk"
  refine for_rule ?_
  walk_at "nmL"
  rename_i D _ _ _ _ _ F₄ N₄
  obtain ⟨c, hc⟩ : ∃ c : Nat → Int, c = fun j => ((b.getD j 0).toNat : Int) := ⟨_, rfl⟩
  have hcv : ∀ (i : Nat) (v : UInt8), b[i]? = some v → (v.toNat : Int) = c i := fun i v hv => by rw [hc]; simp [Array.getD_eq_getD_getElem?, hv]
  refine' for_bytes (h₀ := s.heap) (L := L) (fun i m news => ∃ (vals : List Value) (k : Nat), IntsAre vals (outN c i) ∧ news = [(D, W.listOf vals.toArray k)] ∧ m (Str.ofString "out") = some (.ref D) ∧ m (Str.ofString "newline") = some (.bool false) ∧ (∃ t, m (Str.ofString "leftbits") = some (.int (lbN i) t)) ∧ ∃ t, m (Str.ofString "leftchar") = some (.int (lcN c i) t)) ?a ?b ?c R'.h ?F ?N ?P ?_ ?_
  case a => rfl
  case b => rfl
  case c => rfl
  case F => exact F₄
  case N => exact N₄
  case P => exact ⟨[], 0, .nil, rfl, rfl, rfl, ⟨_, rfl⟩, ⟨_, rfl⟩⟩
  · intro i v u h tk m news I it hv F N hne hP
    rw [hcv i v hv] at F
    obtain ⟨vals, k, hI, rfl, hm1, hm2, ⟨tr, hm3⟩, ⟨tz, hm4⟩⟩ := hP
    have hD := neN (a := D) (b := I) (hne (D, _) (by k_mem))
    have hi : i < b.size := (Array.getElem?_eq_some_iff.mp hv).1
    have : i = 0 ∨ i = 1 ∨ i = 2 := by omega
    obtain ⟨ha0, ha1⟩ := lcN_lt c i
    obtain ⟨a, ha⟩ : ∃ a, a = lcN c i := ⟨_, rfl⟩
    rw [← ha] at hm4 ha0 ha1
    replace ha := Hide.mk ha
    obtain ⟨ci, hci⟩ : ∃ ci, ci = c i := ⟨_, rfl⟩
    rw [← hci] at F
    replace hci := Hide.mk hci
    rcases this with rfl | rfl | rfl
    · have hm3' : m (Str.ofString "leftbits") = some (.int 0 tr) := hm3
      have hI0 : IntsAre vals [] := hI
      cases IntsAre.nil_inv hI0
      clear hm3 hI
      walk_at "wk"
      walk_at "wu"
      refine ⟨_, _, _, _, rfl, by assumption, by assumption, List.forall_mem_cons.mpr ⟨hD, List.forall_mem_nil _⟩, [Value.int _ _], _, ?_, rfl, ?_, ?_, ?_, ?_⟩
      · with_reducible rename Hide (_ = T64 _) => hq
        replace hq := hq.out
        rw [lc_eq, ix_eq2, ha.out, hci.out, ← lcN_1] at hq
        subst hq
        rw [outN_1]
        exact .cons _ _ (.nil)
      · walk_at "mv"
      · walk_at "mv"
      · exact exSomeInt (a := 0 + 8 - 6) (by walk_at "mv2") (by decide)
      · exact exSomeInt (a := Builtin.bitAnd (Builtin.bitOr (a * 2 ^ Int.toNat 8) ci) 65535) (by walk_at "mv2") (by rw [lc_eq, ha.out, hci.out]; exact (lcN_1 c).symm)
    · have hm3' : m (Str.ofString "leftbits") = some (.int 2 tr) := hm3
      have hI0 : IntsAre vals [T64 (ixN (lcN c 1) 2)] := hI
      obtain ⟨q0, hq0⟩ : ∃ q, q = T64 (ixN (lcN c 1) 2) := ⟨_, rfl⟩
      rw [← hq0] at hI0
      replace hq0 := Hide.mk hq0
      obtain ⟨u0, vals, rfl, hI1⟩ := IntsAre.cons_inv hI0
      cases IntsAre.nil_inv hI1
      clear hm3 hI
      walk_at "wk"
      walk_at "wu"
      refine ⟨_, _, _, _, rfl, by assumption, by assumption, List.forall_mem_cons.mpr ⟨hD, List.forall_mem_nil _⟩, [Value.int q0 u0, Value.int _ _], _, ?_, rfl, ?_, ?_, ?_, ?_⟩
      · with_reducible rename Hide (_ = T64 _) => hq
        replace hq := hq.out
        rw [lc_eq, ix_eq4, ha.out, hci.out, ← lcN_2] at hq
        subst hq
        rw [outN_2, ← hq0.out]
        exact .cons _ _ (.cons _ _ (.nil))
      · walk_at "mv"
      · walk_at "mv"
      · exact exSomeInt (a := 2 + 8 - 6) (by walk_at "mv2") (by decide)
      · exact exSomeInt (a := Builtin.bitAnd (Builtin.bitOr (a * 2 ^ Int.toNat 8) ci) 65535) (by walk_at "mv2") (by rw [lc_eq, ha.out, hci.out]; exact (lcN_2 c).symm)
    · have hm3' : m (Str.ofString "leftbits") = some (.int 4 tr) := hm3
      have hI0 : IntsAre vals [T64 (ixN (lcN c 1) 2), T64 (ixN (lcN c 2) 4)] := hI
      obtain ⟨q0, hq0⟩ : ∃ q, q = T64 (ixN (lcN c 1) 2) := ⟨_, rfl⟩
      obtain ⟨q1, hq1⟩ : ∃ q, q = T64 (ixN (lcN c 2) 4) := ⟨_, rfl⟩
      rw [← hq0, ← hq1] at hI0
      replace hq0 := Hide.mk hq0
      replace hq1 := Hide.mk hq1
      obtain ⟨u0, vals, rfl, hI1⟩ := IntsAre.cons_inv hI0
      obtain ⟨u1, vals, rfl, hI2⟩ := IntsAre.cons_inv hI1
      cases IntsAre.nil_inv hI2
      clear hm3 hI
      walk_at "wk"
      walk_at "wu"
      refine ⟨_, _, _, _, rfl, by assumption, by assumption, List.forall_mem_cons.mpr ⟨hD, List.forall_mem_nil _⟩, [Value.int q0 u0, Value.int q1 u1, Value.int _ _, Value.int _ _], _, ?_, rfl, ?_, ?_, ?_, ?_⟩
      · with_reducible rename Hide (_ = T64 _) => hq
        with_reducible rename Hide (_ = T64 (Builtin.bitAnd (Int.fdiv _ (2 ^ Int.toNat (4 + 8 - 6))) 63)) => hr
        replace hq := hq.out
        replace hr := hr.out
        rw [lc_eq, ix_eq0, ha.out, hci.out, ← lcN_3] at hq
        rw [lc_eq, ix_eq6, ha.out, hci.out, ← lcN_3] at hr
        subst hq hr
        rw [outN_3, ← hq0.out, ← hq1.out]
        exact .cons _ _ (.cons _ _ (.cons _ _ (.cons _ _ (.nil))))
      · walk_at "mv"
      · walk_at "mv"
      · exact exSomeInt (a := 4 + 8 - 6 - 6) (by walk_at "mv2") (by decide)
      · exact exSomeInt (a := Builtin.bitAnd (Builtin.bitOr (a * 2 ^ Int.toNat 8) ci) 65535) (by walk_at "mv2") (by rw [lc_eq, ha.out, hci.out]; exact (lcN_3 c).symm)
  · intro h tk m news F N hP
    obtain ⟨vals, k, hI, rfl, hm1, hm2, ⟨tr, hm3⟩, ⟨tz, hm4⟩⟩ := hP
    have hbI : b64I b = b64N c b.size := by rw [hc]; rfl
    rw [hbI]
    clear hbI hcv hc
    rcases hb with hb | hb | hb
    · rw [hb] at hI hm3 hm4 ⊢
      have hm3' : m (Str.ofString "leftbits") = some (.int 2 tr) := hm3
      have hI0 : IntsAre vals [T64 (ixN (lcN c 1) 2)] := hI
      have hq : ∀ q, Hide (q = T64 (ixN (lcN c 1) 2)) → q = T64 (ixN (lcN c 1) 2) := fun q h => h.out
      obtain ⟨q0, hq0⟩ : ∃ q, q = T64 (ixN (lcN c 1) 2) := ⟨_, rfl⟩
      rw [← hq0] at hI0
      replace hq := trivial
      have hr0 : 0 ≤ q0 ∧ q0 < 256 := hq0 ▸ T64_lt _
      replace hq0 := Hide.mk hq0
      obtain ⟨u0, vals, rfl, hI1⟩ := IntsAre.cons_inv hI0
      cases IntsAre.nil_inv hI1
      obtain ⟨a, ha⟩ : ∃ a, a = lcN c 1 := ⟨_, rfl⟩
      rw [← ha] at hm4
      replace ha := Hide.mk ha
      clear hm3 hI hq
      walk_at "wk"
      with_reducible rename Hide (_ = T64 _) => hq
      rename Int => qz
      have hq' := hq.out
      have hr := T64_lt (Builtin.bitAnd a 3 * 2 ^ Int.toNat 4)
      rw [← hq'] at hr
      have e : b64N c 1 = [q0, qz, 61, 61] := by
        rw [ha.out] at hq'
        rw [hq0.out, hq']; rfl
      rw [e]
      refine bytes_K (by assumption) (by assumption) (vs := [Value.int q0 _, Value.int qz _, Value.int 61 _, Value.int 61 _]) (News.isList (by assumption) (by k_mem)) (ns := [q0, qz, 61, 61]) (.cons _ _ (.cons _ _ (.cons _ _ (.cons _ _ .nil)))) ?_ (by exact Nat.le_of_ble_eq_true rfl) R'.h fun h'' t'' k'' F'' N'' _ => ?_
      · intro z hz
        simp only [List.mem_cons, List.not_mem_nil, or_false] at hz
        rcases hz with rfl | rfl | rfl | rfl <;> omega
      · exact post_fr F'' (exBytes rfl)
    · rw [hb] at hI hm3 hm4 ⊢
      have hm3' : m (Str.ofString "leftbits") = some (.int 4 tr) := hm3
      have hI0 : IntsAre vals [T64 (ixN (lcN c 1) 2), T64 (ixN (lcN c 2) 4)] := hI
      have hq : ∀ q, Hide (q = T64 (ixN (lcN c 1) 2)) → q = T64 (ixN (lcN c 1) 2) := fun q h => h.out
      obtain ⟨q0, hq0⟩ : ∃ q, q = T64 (ixN (lcN c 1) 2) := ⟨_, rfl⟩
      obtain ⟨q1, hq1⟩ : ∃ q, q = T64 (ixN (lcN c 2) 4) := ⟨_, rfl⟩
      rw [← hq0, ← hq1] at hI0
      replace hq := trivial
      have hr0 : 0 ≤ q0 ∧ q0 < 256 := hq0 ▸ T64_lt _
      have hr1 : 0 ≤ q1 ∧ q1 < 256 := hq1 ▸ T64_lt _
      replace hq0 := Hide.mk hq0
      replace hq1 := Hide.mk hq1
      obtain ⟨u0, vals, rfl, hI1⟩ := IntsAre.cons_inv hI0
      obtain ⟨u1, vals, rfl, hI2⟩ := IntsAre.cons_inv hI1
      cases IntsAre.nil_inv hI2
      obtain ⟨a, ha⟩ : ∃ a, a = lcN c 2 := ⟨_, rfl⟩
      rw [← ha] at hm4
      replace ha := Hide.mk ha
      clear hm3 hI hq
      walk_at "wk"
      with_reducible rename Hide (_ = T64 _) => hq
      rename Int => qz
      have hq' := hq.out
      have hr := T64_lt (Builtin.bitAnd a 15 * 2 ^ Int.toNat 2)
      rw [← hq'] at hr
      have e : b64N c 2 = [q0, q1, qz, 61] := by
        rw [ha.out] at hq'
        rw [hq0.out, hq1.out, hq']; rfl
      rw [e]
      refine bytes_K (by assumption) (by assumption) (vs := [Value.int q0 _, Value.int q1 _, Value.int qz _, Value.int 61 _]) (News.isList (by assumption) (by k_mem)) (ns := [q0, q1, qz, 61]) (.cons _ _ (.cons _ _ (.cons _ _ (.cons _ _ .nil)))) ?_ (by exact Nat.le_of_ble_eq_true rfl) R'.h fun h'' t'' k'' F'' N'' _ => ?_
      · intro z hz
        simp only [List.mem_cons, List.not_mem_nil, or_false] at hz
        rcases hz with rfl | rfl | rfl | rfl <;> omega
      · exact post_fr F'' (exBytes rfl)
    · rw [hb] at hI hm3 hm4 ⊢
      have hm3' : m (Str.ofString "leftbits") = some (.int 0 tr) := hm3
      have hI0 : IntsAre vals [T64 (ixN (lcN c 1) 2), T64 (ixN (lcN c 2) 4), T64 (ixN (lcN c 3) 6), T64 (ixN (lcN c 3) 0)] := hI
      have hq : ∀ q, Hide (q = T64 (ixN (lcN c 1) 2)) → q = T64 (ixN (lcN c 1) 2) := fun q h => h.out
      obtain ⟨q0, hq0⟩ : ∃ q, q = T64 (ixN (lcN c 1) 2) := ⟨_, rfl⟩
      obtain ⟨q1, hq1⟩ : ∃ q, q = T64 (ixN (lcN c 2) 4) := ⟨_, rfl⟩
      obtain ⟨q2, hq2⟩ : ∃ q, q = T64 (ixN (lcN c 3) 6) := ⟨_, rfl⟩
      obtain ⟨q3, hq3⟩ : ∃ q, q = T64 (ixN (lcN c 3) 0) := ⟨_, rfl⟩
      rw [← hq0, ← hq1, ← hq2, ← hq3] at hI0
      replace hq := trivial
      have hr0 : 0 ≤ q0 ∧ q0 < 256 := hq0 ▸ T64_lt _
      have hr1 : 0 ≤ q1 ∧ q1 < 256 := hq1 ▸ T64_lt _
      have hr2 : 0 ≤ q2 ∧ q2 < 256 := hq2 ▸ T64_lt _
      have hr3 : 0 ≤ q3 ∧ q3 < 256 := hq3 ▸ T64_lt _
      replace hq0 := Hide.mk hq0
      replace hq1 := Hide.mk hq1
      replace hq2 := Hide.mk hq2
      replace hq3 := Hide.mk hq3
      obtain ⟨u0, vals, rfl, hI1⟩ := IntsAre.cons_inv hI0
      obtain ⟨u1, vals, rfl, hI2⟩ := IntsAre.cons_inv hI1
      obtain ⟨u2, vals, rfl, hI3⟩ := IntsAre.cons_inv hI2
      obtain ⟨u3, vals, rfl, hI4⟩ := IntsAre.cons_inv hI3
      cases IntsAre.nil_inv hI4
      obtain ⟨a, ha⟩ : ∃ a, a = lcN c 3 := ⟨_, rfl⟩
      rw [← ha] at hm4
      replace ha := Hide.mk ha
      clear hm3 hI hq
      walk_at "wk"
      have e : b64N c 3 = [q0, q1, q2, q3] := by rw [hq0.out, hq1.out, hq2.out, hq3.out]; rfl
      rw [e]
      refine bytes_K (by assumption) (by assumption) (vs := [Value.int q0 _, Value.int q1 _, Value.int q2 _, Value.int q3 _]) (News.isList (by assumption) (by k_mem)) (ns := [q0, q1, q2, q3]) (.cons _ _ (.cons _ _ (.cons _ _ (.cons _ _ .nil)))) ?_ (by exact Nat.le_of_ble_eq_true rfl) R'.h fun h'' t'' k'' F'' N'' _ => ?_
      · intro z hz
        simp only [List.mem_cons, List.not_mem_nil, or_false] at hz
        rcases hz with rfl | rfl | rfl | rfl <;> omega
      · exact post_fr F'' (exBytes rfl)
end
end

section
theorem slot_bytes_translate : Slot "bytes" "translate" "bytes.translate" :=
  .of (owner := "bytes") (n := "translate") (by rw [typeLookup_type, builtinLookup_eq_fast]; kernel_rfl) (by decide +kernel) (by decide +kernel) (by decide +kernel)
    (by first | exact .inl (by decide +kernel) | exact .inr (by decide +kernel)) (by rw [isSubtype_type]; kernel_rfl)
theorem type_bytes_translate : typeOf (.builtin "bytes.translate") = pure (.type "method_descriptor") := by show builtinType _ = _; rw [builtinType_eq_fast]; kernel_rfl
theorem entry_bytes_translate : entryFor table "bytes.translate" = some Builtin.«bytes.translate» := entryFor_of_tree (by kernel_rfl)
theorem args_bytes_translate_2 (a b : Value) : argsOk "bytes.translate" ⟨[a, b], []⟩ := by unfold argsOk; kernel_rfl
section
variable {prog : Program} {w : World} {A : Around} {E : Value → Shared → Prop} {s : Shared} {n : Nat}
theorem b64I_size (b : Array UInt8) (hb : b.size = 1 ∨ b.size = 2 ∨ b.size = 3) : ((b64I b).map fun n => n.toNat.toUInt8).toArray.size ≤ 2000 := by
  unfold b64I
  rcases hb with h | h | h <;> rw [h] <;> exact Nat.le_of_ble_eq_true rfl
theorem translate_call (b tb : Array UInt8) (t u : Tok) (h : tb.size = 256) (hz : b.size ≤ 2000) {Q : Value → Shared → Prop} (hQ : ∀ t' k, Q (.bytes (trOut b tb) t') { s with toks := k }) :
    wpAny (model prog w) A (call (.builtin "bytes.translate") [.bytes b t, .bytes tb u]) Q E s := by
  refine wpAny_call_entry slot_bytes_translate (typeIs_bytes _ _ _) entry_bytes_translate ?_ (args_bytes_translate_2 _ _)
  rw [translate_tree b tb t u h]
  by_cases e : (trOut b tb == b) = true
  · rw [if_pos e]
    refine wpAny_bind (wpAny_rule (wpAny_pure ⟨_, rfl, ?_⟩))
    have := hQ t s.toks
    rw [eq_of_beq e] at this
    exact this
  · rw [if_neg e]
    unfold mkBytes
    rw [if_neg (by simp [sizeLine, trOut]; omega)]
    exact wpAny_bind (wpAny_bind (wpAny_fresh (wpAny_pure (wpAny_pure ⟨_, rfl, hQ _ _⟩))))
theorem b64_call (G : Gd w s.heap) (R : Rm (n + 3) A) (b : Array UInt8) (t t2 : Tok) (p q : UInt8) (hb : b.size = 1 ∨ b.size = 2 ∨ b.size = 3) :
    wpAny (model prog w) A (call (.ref 225) [.bytes b t, .bytes #[p, q] t2]) (Post s fun v => ∃ t', v = .bytes (trOut ((b64I b).map fun n => n.toNat.toUInt8).toArray (mkTab p q)) t') E s := by
  walk_at "fill"
  have X : (Mine.hd.heap_39 w.params).In s.heap := G.k
  obtain ⟨mg, mb, T⟩ := G.t
  refine enter [(Str.ofString "s", .bytes b t), (Str.ofString "altchars", .bytes #[p, q] t2)] G R (by k_is) (by k_is) (binds_K G.k rfl (by k_is) rfl rfl rfl) (locs rfl) (by decide) rfl rfl rfl ?_
  intro L h₁ tk A' R' F
  have N : News s.heap L h₁ [] := News.nil
  walk_at "wk"
  refine wpAny_mono (b2a_call (G.keeps F.keep) R' b t hb) (fun v s' hv => ?_) fun _ _ e => e
  obtain ⟨⟨h', tk', rfl, hk⟩, t', rfl⟩ := hv
  have F₂ := F.keeps hk
  have N₂ := N.grown hk
  clear F N
  dsimp only
  have hez : ((b64I b).map fun n => n.toNat.toUInt8).toArray.size ≤ 2000 := b64I_size b hb
  generalize ((b64I b).map fun n => n.toNat.toUInt8).toArray = e at hez
  walk_at "wk"
  with_reducible refine getMethod_builtin (typeIs_bytes _ _ _) FB.plainAttrs_bytes slot_bytes_translate type_bytes_translate (fun _ e => nomatch e) ?_
  dsimp only
  walk_at "wk"
  apply method_type (by assumption) X (by first | rfl | kernel_rfl) (by decide +kernel) (by k_is) (by k_handed)
  dsimp only
  walk_at "wk"
  refine maketrans_call p q _ _ ?_
  walk_at "wk"
  refine translate_call e (mkTab p q) _ _ (mkTab_size p q) hez fun t'' k => ?_
  exact post_fr (by assumption) (exBytes rfl)
end
end

section
/-- a text that a header's name may be -/
noncomputable def NameOk (x : Str) : Prop := (∀ c ∈ x.cps.toList, 31 < c ∧ c ≠ 127 ∧ c < 256) ∧ x.length ≤ 1000
noncomputable def ValOk (x : Str) : Prop := (∀ c ∈ x.cps.toList, 31 < c ∧ c < 127) ∧ x.length ≤ 1000
theorem sayN {x : Str} (h : NameOk x) : SaysNo (Sre.forSearch codeN x.cps 0 0 x.cps.size false) :=
  search_no codeN x.cps rfl (fun m hm => by unfold Sre.M.hasFirstSet; rw [hm]; rfl) fun c hc seen => inSet_N c (h.1 c hc).1 (h.1 c hc).2.1 seen
theorem sayV {x : Str} (h : ValOk x) : SaysNo (Sre.forSearch codeV x.cps 0 0 x.cps.size false) :=
  search_no codeV x.cps rfl (fun m hm => by unfold Sre.M.hasFirstSet; rw [hm]; rfl) fun c hc seen => inSet_V c (h.1 c hc).1 (h.1 c hc).2 seen
section
variable {prog : Program} {w : World} {A : Around} {E : Value → Shared → Prop} {s : Shared} {n : Nat}
theorem convN_call (G : Gd w s.heap) (R : Rm (n + 1) A) (self : Value) (x : Str) (t : Tok) (hx : NameOk x) :
    wpAny (model prog w) A (call (.ref 83) [self, .str x t] [(Str.ofString "name", .bool true)]) (Post s fun v => v = .str x t) E s := by
  walk_at "fill"
  have X : (Mine.hd.heap_39 w.params).In s.heap := G.k
  obtain ⟨mg, mb, T⟩ := G.t
  have hp := G.k 48 _ (by k_is)
  have hc := G.k 47 _ (by k_is)
  refine enter [(Str.ofString "self", self), (Str.ofString "value", .str x t), (Str.ofString "name", .bool true)] G R (by k_is) (by k_is) (BindsTo.of_eq rfl) (locs rfl) (by decide) rfl rfl rfl ?_
  intro L h₁ tk A' R' F
  have N : News s.heap L h₁ [] := News.nil
  walk_at "wk"
  have hp' := Fr.keep (by assumption) _ _ hp
  have hc' := Fr.keep (by assumption) _ _ hc
  refine getMethod_builtin (T := "re.Pattern") ⟨_, hp', rfl⟩ plainAttrs_pat slot_search type_search (fun a e => by cases e; exact ⟨_, hp', rfl⟩) ?_
  dsimp only
  walk_at "wk"
  refine search_call x _ hp' rfl rfl rfl rfl hc' rfl (by decide +kernel) (sayN hx) hx.2 ?_
  walk_at "wk"
  exact post_fr (by assumption) rfl
theorem convV_call (G : Gd w s.heap) (R : Rm (n + 1) A) (self : Value) (x : Str) (t : Tok) (hx : ValOk x) :
    wpAny (model prog w) A (call (.ref 83) [self, .str x t] [(Str.ofString "name", .bool false)]) (Post s fun v => v = .str x t) E s := by
  walk_at "fill"
  have X : (Mine.hd.heap_39 w.params).In s.heap := G.k
  obtain ⟨mg, mb, T⟩ := G.t
  have hp := G.k 53 _ (by k_is)
  have hc := G.k 52 _ (by k_is)
  refine enter [(Str.ofString "self", self), (Str.ofString "value", .str x t), (Str.ofString "name", .bool false)] G R (by k_is) (by k_is) (BindsTo.of_eq rfl) (locs rfl) (by decide) rfl rfl rfl ?_
  intro L h₁ tk A' R' F
  have N : News s.heap L h₁ [] := News.nil
  walk_at "wk"
  have hp' := Fr.keep (by assumption) _ _ hp
  have hc' := Fr.keep (by assumption) _ _ hc
  refine getMethod_builtin (T := "re.Pattern") ⟨_, hp', rfl⟩ plainAttrs_pat slot_search type_search (fun a e => by cases e; exact ⟨_, hp', rfl⟩) ?_
  dsimp only
  walk_at "wk"
  refine search_call x _ hp' rfl rfl rfl rfl hc' rfl (by decide +kernel) (sayV hx) hx.2 ?_
  walk_at "wk"
  exact post_fr (by assumption) rfl
end
end

section
theorem low_ok {x : Str} (h : NameOk x) : NameOk (lowF x) := by
  refine ⟨fun c hc => ?_, by have := h.2; simpa [lowF, Str.length] using this⟩
  obtain ⟨d, hd, rfl⟩ : ∃ d ∈ x.cps.toList, lowC d = c := by simpa [lowF] using hc
  have := h.1 d hd
  unfold lowC
  (repeat' split) <;> omega
theorem name_lt {x : Str} (h : NameOk x) : ∀ c ∈ x.cps.toList, c < 256 := fun c hc => (h.1 c hc).2.2

/-- a table of headers: an object whose list of tuples is at l -/
structure HTab (h : Heap) (tb dx l : Addr) : Prop where
  i : h.get? tb = some (instObj 182 dx)
  d : ∃ n hs tk, h.get? dx = some (dictOf [⟨hs, .str (Str.ofString "_headers") tk, .ref l⟩] n)
theorem HTab.keeps {h h' : Heap} {tb dx l : Addr} (x : HTab h tb dx l) (hk : ∀ b o, h.get? b = some o → h'.get? b = some o) : HTab h' tb dx l := by
  obtain ⟨n, hs, tk, d⟩ := x.d
  exact ⟨hk _ _ x.i, n, hs, tk, hk _ _ d⟩
section
variable {prog : Program} {w : World} {A : Around} {E : Value → Shared → Prop} {s : Shared} {n : Nat}
theorem lower_call (x : Str) (t : Tok) (h : NameOk x) {Q : Value → Shared → Prop} (hQ : Q (.str (lowF x) s.toks) { s with toks := s.toks + 1 }) : wpAny (model prog w) A (call (.builtin "str.lower") [.str x t]) Q E s := by
  refine PySem.SC.lower (lower_fit x (name_lt h) h.2) ?_
  rw [lower_eq x (name_lt h)]
  exact hQ

theorem attr_headers {h₀ : Heap} {L : Addr} {m : Str → Option Value} (X : (Mine.hd.heap_39 w.params).In h₀) (F : Fr h₀ L s.heap m) {tb dx l : Addr} (Tb : HTab s.heap tb dx l) {ex : Bool} {Q : Value → Shared → Prop} (h : Q (.ref l) { s with toks := s.toks + 1 }) :
    wpAny (model prog w) A (getAttr (.ref tb) (Str.ofString "_headers") ex) Q E s := by
  walk_at "fill"
  obtain ⟨n, hs, tk, d⟩ := Tb.d
  exact get_own F X ⟨Tb.i, rfl, rfl, d⟩ (by k_is) (by k_is) (by k_is) (by k_is) rfl (by k_handed) h
theorem meth_headers {h₀ : Heap} {L f : Addr} {m : Str → Option Value} {name : Str} (X : (Mine.hd.heap_39 w.params).In h₀) (F : Fr h₀ L s.heap m) {tb dx l : Addr} (Tb : HTab s.heap tb dx l) {pl : Sem Bool} {Q : Value × List Value → Shared → Prop}
    (hg : plainGet (Mine.hd.heap_39 w.params) 182 name = true) (hf : findIn (Mine.hd.heap_39 w.params) (.ref 182) name = some (some (.ref f))) (ht : isFn (Mine.hd.heap_39 w.params) (.ref f) = true) (hn : (Str.ofString "_headers" == name) = false)
    (h : Q (.ref f, [.ref tb]) s) : wpAny (model prog w) A (getMethod (.ref tb) name pl) Q E s := by
  obtain ⟨n, hs, tk, d⟩ := Tb.d
  refine method_inst F X ⟨Tb.i, rfl, rfl, d⟩ hg hf ht ?_ h
  unfold getL
  simp [Value.isStr, hn, DictEntry.refKey]

theorem items_call (G : Gd w s.heap) (R : Rm (n + 1) A) {tb dx l : Addr} {vs : List Value} (Tb : HTab s.heap tb dx l) (hl : s.heap.IsList l vs.toArray) (hz : vs.length ≤ 1000) :
    wpAny (model prog w) A (call (.ref 146) [.ref tb]) (PostH s fun v h => ∃ D, v = .ref D ∧ s.heap.get? D = none ∧ h.IsList D vs.toArray) E s := by
  walk_at "fill"
  have X : (Mine.hd.heap_39 w.params).In s.heap := G.k
  obtain ⟨mg, mb, T⟩ := G.t
  refine enter [(Str.ofString "self", .ref tb)] G R (by k_is) (by k_is) (BindsTo.of_eq rfl) (locs rfl) (by decide) rfl rfl rfl ?_
  intro L h₁ tk A' R' F
  have N : News s.heap L h₁ [] := News.nil
  refine wpAny_execs_cons ?_
  refine wpAny_Return_some ?_
  refine Subscript_ ?_
  refine Attribute_Name_ ?_
  walk_at "nmL"
  refine attr_headers X F (Tb.keeps F.keep) ?_
  refine wpAny_Slice ?_
  refine evalPart_none_step ?_
  refine evalPart_none_step ?_
  refine evalPart_none_step ?_
  dsimp only
  have hl' : (h₁.push { cls := .type "slice", data := .fields #[.none, .none, .none] }).IsList l vs.toArray := (F.lst hl).push _
  refine tail_any (T := "list") (ops := [.ref h₁.objs.size, .ref l]) (Heap.IsList.typeIs (s := ⟨_, _, _, _, _⟩) hl') slot_list_getitem.lookup (wpAny_getItem_list_slice hl' (Heap.IsSliceOf.new ..) .none .none .none (by simp) ?_ (by simp only [List.size_toArray, sizeLine]; omega)) (by with_unfolding_all rfl)
  rw [slicePick_all]
  dsimp only
  have hk : ∀ b o, h₁.get? b = some o → ((h₁.push { cls := .type "slice", data := .fields #[.none, .none, .none] }).push { cls := .type "list", data := .seq vs.toArray }).get? b = some o :=
    fun b o e => Heap.get?_push_of_some _ (Heap.get?_push_of_some _ e)
  refine ⟨⟨_, _, rfl, fun b o e => hk b o (F.keep b o e)⟩, _, rfl, ?_, ⟨_, Heap.get?_push_size _ rfl, rfl, _, rfl⟩⟩
  cases e : s.heap.get? (h₁.push { cls := .type "slice", data := .fields #[.none, .none, .none] }).objs.size with
  | none => rfl
  | some o => have := Heap.lt_size (Heap.get?_push_of_some { cls := .type "slice", data := .fields #[.none, .none, .none] } (F.keep _ _ e)); exact absurd this (Nat.lt_irrefl _)
end
end

section
/-- what get answers -/
noncomputable def getF (rows : List (Str × Str)) (x : Str) (d : Value) (v : Value) : Prop := match rows.find? (fun r => lowF r.1 == lowF x) with
  | some r => ∃ t, v = .str r.2 t
  | none => v = d
section
variable {prog : Program} {w : World} {A : Around} {E : Value → Shared → Prop} {s : Shared} {n : Nat}
theorem get_call (G : Gd w s.heap) (R : Rm (n + 2) A) {tb dx l : Addr} {vs : List Value} {rows : List (Str × Str)} (Tb : HTab s.heap tb dx l) (hl : s.heap.IsList l vs.toArray) (hT : TupsAre s.heap vs rows) (hN : ∀ r ∈ rows, NameOk r.1)
    (x : Str) (t : Tok) (hx : NameOk x) (d : Value) :
    wpAny (model prog w) A (call (.ref 129) [.ref tb, .str x t, d]) (Post s (getF rows x d)) E s := by
  walk_at "fill"
  have X : (Mine.hd.heap_39 w.params).In s.heap := G.k
  obtain ⟨mg, mb, T⟩ := G.t
  refine enter [(Str.ofString "self", .ref tb), (Str.ofString "name", .str x t), (Str.ofString "default", d)] G R (by k_is) (by k_is) (binds_K G.k rfl (by k_is) rfl rfl rfl) (locs rfl) (by decide) rfl rfl rfl ?_
  intro L h₁ tk A' R' F
  have N : News s.heap L h₁ [] := News.nil
  walk_at "wz"
  refine meth_headers X F (Tb.keeps F.keep) (by k_is) (by k_is) (by k_is) (by decide) ?_
  dsimp only
  walk_at "wz"
  refine lower_call x _ hx ?_
  walk_at "wz"
  refine wpAny_mono (convN_call (G.keeps F.keep) R' _ _ _ (low_ok hx)) (fun v s' hv => ?_) fun _ _ e => e
  obtain ⟨⟨h', tk', rfl, hk⟩, rfl⟩ := hv
  have F₂ := F.keeps hk
  have N₂ := N.grown hk
  clear F N
  dsimp only
  walk_at "wz"
  refine for_rule ?_
  refine Attribute_Name_ ?_
  walk_at "nmL"
  rename_i F₃ N₃
  refine attr_headers X F₃ (Tb.keeps F₃.keep) ?_
  refine' for_pairs (h₀ := s.heap) (L := L) (rows := rows) (fun i m => (∃ t, m (Str.ofString "name") = some (.str (lowF x) t)) ∧ m (Str.ofString "default") = some d ∧ rows.find? (fun r => lowF r.1 == lowF x) = (rows.drop i).find? (fun r => lowF r.1 == lowF x)) ?a ?b ?b2 ?c R'.h hl hT ?F ?P ?_ ?_
  case a => rfl
  case b => rfl
  case b2 => rfl
  case c => rfl
  case F => exact F₃
  case P => exact ⟨⟨_, rfl⟩, rfl, rfl⟩
  · intro i k v tk tv h tk m I it hrow F N hP
    obtain ⟨⟨tn, hm1⟩, hm2, hm3⟩ := hP
    have hk := hN _ (List.mem_of_getElem? hrow)
    have hd : rows.drop i = (k, v) :: rows.drop (i + 1) := by
      obtain ⟨hi, e⟩ := List.getElem?_eq_some_iff.mp hrow
      rw [List.drop_eq_getElem_cons hi, e]
    rw [hd, List.find?_cons] at hm3
    walk_at "wz"
    refine lower_call k _ hk ?_
    walk_at "wz"
    · rename_i hq
      have e : (lowF k == lowF x) = true := by first | exact hq | simpa using hq
      show Post s (getF rows x d) (.str v tv) _
      refine post_fr (by assumption) ?_
      unfold getF
      rw [hm3]
      simp only [e]
      exact ⟨_, rfl⟩
    · rename_i hq
      have e : (lowF k == lowF x) = false := by first | exact hq | simpa using hq
      refine ⟨_, _, _, rfl, by assumption, by assumption, ⟨_, by walk_at "mv"⟩, by walk_at "mv", ?_⟩
      rw [hm3]
      simp only [e]
  · intro h tk m F hP
    obtain ⟨⟨tn, hm1⟩, hm2, hm3⟩ := hP
    rw [List.drop_length, List.find?_nil] at hm3
    have N : News s.heap L h [] := News.nil
    walk_at "wz"
    refine post_fr (by assumption) ?_
    unfold getF
    rw [hm3]
end
end

section
noncomputable def keyOf (h : Heap) : Value → Option Str
  | .ref a => match h.get? a with
    | some o => match o.data with
      | .seq items _ => match items.toList with
        | Value.str k _ :: _ => some k
        | _ => none
      | _ => none
    | none => none
  | _ => none
theorem keyOf_tup {h : Heap} {a : Addr} {k x : Str} {t u : Tok} (ht : IsTup h a #[.str k t, .str x u]) : keyOf h (.ref a) = some k := by
  obtain ⟨o, ho, hc, n, hd⟩ := ht
  simp only [keyOf, ho, hd]
noncomputable def pickP (h : Heap) (y : Str) (v : Value) : Bool := match keyOf h v with
  | some k => lowF k == y
  | none => false
theorem tests_one {M : Model} {A : Around} {E : Value → Shared → Prop} {s : Shared} {env : Env} {c : PySem.Expr} {Q : Bool → Shared → Prop} (h : wpAny M A (isTrue c env (eval c env)) Q E s) : wpAny M A (testsOf env [c]) Q E s := by
  unfold testsOf
  rw [List.forIn_cons]
  refine wpAny_bind ?_
  rw [if_pos rfl]
  refine wpAny_bind (wpAny_mono h (fun b s' hb => wpAny_pure (wpAny_pure hb)) fun _ _ e => e)
noncomputable def SndRel (h : Heap) (v y : Value) : Prop := ∃ a k x t u, v = .ref a ∧ IsTup h a #[.str k t, .str x u] ∧ y = .str x u
theorem isTup_inj {h : Heap} {a : Addr} {xs ys : Array Value} (hx : IsTup h a xs) (hy : IsTup h a ys) : xs = ys := by
  obtain ⟨o, ho, hc, n, hd⟩ := hx
  obtain ⟨o', ho', hc', n', hd'⟩ := hy
  rw [ho] at ho'
  cases ho'
  rw [hd] at hd'
  cases hd'
  rfl
theorem snds {h : Heap} {y : Str} : ∀ {vs : List Value} {rows : List (Str × Str)} {ys : List Value}, TupsAre h vs rows → Paired (SndRel h) (vs.filter (pickP h y)) ys → StrsAre ys ((rows.filter fun r => lowF r.1 == y).map (·.2))
  | _, _, ys, .nil, hp => by cases hp; exact .nil
  | _, _, ys, .cons (a := a) (k := k) (v := v) (t := t) (u := u) (vs := vs) (rows := rows) ht r, hp => by
    have hk := keyOf_tup ht
    cases e : (lowF k == y) with
    | false =>
      have : pickP h y (.ref a) = false := by unfold pickP; rw [hk]; exact e
      rw [List.filter_cons, this] at hp
      rw [List.filter_cons]
      simp only [e, Bool.false_eq_true, if_false] at hp ⊢
      exact snds r hp
    | true =>
      have : pickP h y (.ref a) = true := by unfold pickP; rw [hk]; exact e
      rw [List.filter_cons, this] at hp
      rw [List.filter_cons]
      simp only [e, if_true] at hp ⊢
      cases hp with
      | cons h1 h2 =>
        obtain ⟨a', k', x', t', u', e1, ht', rfl⟩ := h1
        cases e1
        have := isTup_inj ht ht'
        cases this
        exact .cons _ _ (snds r h2)

section
variable {prog : Program} {w : World} {A : Around} {E : Value → Shared → Prop} {s : Shared} {n : Nat}
theorem getall_call (G : Gd w s.heap) (R : Rm (n + 2) A) {tb dx l : Addr} {vs : List Value} {rows : List (Str × Str)} (Tb : HTab s.heap tb dx l) (hl : s.heap.IsList l vs.toArray) (hT : TupsAre s.heap vs rows) (hN : ∀ r ∈ rows, NameOk r.1) (hz : vs.length ≤ 1000)
    (x : Str) (t : Tok) (hx : NameOk x) :
    wpAny (model prog w) A (call (.ref 121) [.ref tb, .str x t]) (PostH s fun v h => ∃ D ys, v = .ref D ∧ s.heap.get? D = none ∧ h.IsList D ys ∧ StrsAre ys.toList ((rows.filter fun r => lowF r.1 == lowF x).map (·.2))) E s := by
  walk_at "fill"
  have X : (Mine.hd.heap_39 w.params).In s.heap := G.k
  obtain ⟨mg, mb, T⟩ := G.t
  refine enterC [(Str.ofString "self", .ref tb), (Str.ofString "name", .str x t)] G R (by k_is) (by k_is) (BindsTo.of_eq rfl) rfl (by decide +kernel) rfl rfl rfl ?_
  intro L h₁ tk A' cells R' F N Y
  obtain ⟨oc, rfl, hoc⟩ := CellsAre.one Y
  clear Y
  walk_at "wz"
  refine meth_headers X F (Tb.keeps F.keep) (by k_is) (by k_is) (by k_is) (by decide) ?_
  dsimp only
  walk_at "wz"
  refine lower_call x _ hx ?_
  walk_at "wz"
  refine wpAny_mono (convN_call (G.keeps F.keep) R' _ _ _ (low_ok hx)) (fun v s' hv => ?_) fun _ _ e => e
  obtain ⟨⟨h', tk', rfl, hk⟩, rfl⟩ := hv
  have F₂ := F.keeps hk
  have N₂ := N.grown hk
  clear F N
  dsimp only
  walk_at "wz"
  rename_i h₃ o₃ F₃ N₃ d₃
  refine lc_list (pickP s.heap (lowF x)) (SndRel s.heap) (by with_unfolding_all rfl) (by decide) rfl (by decide) rfl R'.h ?_
  refine Attribute_Name_ ?_
  walk_at "nmL"
  refine attr_headers X F₃ (Tb.keeps F₃.keep) ?_
  refine ⟨l, _, rfl, F₃.lst hl, ?_, ?_, ?_, ?_⟩
  · simp only [List.size_toArray, sizeLine]; omega
  · intro C v s₃ m₃ hv hn hm hk
    obtain ⟨i, hi', e⟩ := List.getElem_of_mem hv
    obtain ⟨a, k, y, t1, t2, rfl, hrow, htup⟩ := hT.at i v (by simp only [List.toList_toArray] at e hi' ⊢; rw [List.getElem?_eq_getElem hi', e])
    have hk' := hN _ (List.mem_of_getElem? hrow)
    have htup₃ := (htup.keeps F₃.keep).keeps hk
    refine tests_one ?_
    refine wpAny_isTrue_Compare1 ?_
    refine MethodCall_ ?_
    refine Subscript_ ?_
    refine nmV hn hm ?_
    refine wpAny_Constant_int ?_
    refine item_tupleT htup₃ (by decide) (by decide) rfl rfl ?_
    refine getMethod_builtin (typeIs_str _ _ _) PySem.F.plainAttrs_str PySem.F.slot_str_lower PySem.F.type_str_lower (fun _ e => nomatch e) ?_
    refine callWith_method0 ?_
    refine lower_call k _ hk' ?_
    refine nmF (c := L + 1) rfl (hk _ _ (N₃.get (List.Mem.head _))) d₃ ?_
    refine PyProof.Rows.eq_str ?_
    refine wpAny_truthy_bool ?_
    refine ⟨?_, _, _, rfl, fun _ _ e => e⟩
    unfold pickP
    rw [keyOf_tup htup]
  · intro C v s₃ m₃ hv hp hn hm hk
    obtain ⟨i, hi', e⟩ := List.getElem_of_mem hv
    obtain ⟨a, k, y, t1, t2, rfl, hrow, htup⟩ := hT.at i v (by simp only [List.toList_toArray] at e hi' ⊢; rw [List.getElem?_eq_getElem hi', e])
    have htup₃ := (htup.keeps F₃.keep).keeps hk
    refine Subscript_ ?_
    refine nmV hn hm ?_
    refine wpAny_Constant_int ?_
    refine item_tupleT htup₃ (by decide) (by decide) rfl rfl ?_
    exact ⟨⟨a, k, y, t1, t2, rfl, htup, rfl⟩, _, _, rfl, fun _ _ e => e⟩
  · intro D h' tk ys hD hlD _ hP hk
    refine ⟨⟨_, _, rfl, fun b o e => hk b o (F₃.keep b o e)⟩, D, ys, rfl, ?_, hlD, snds hT hP⟩
    cases e : s.heap.get? D with
    | none => rfl
    | some o => have := F₃.keep D o e; rw [hD] at this; cases this
end
end

section
theorem paired_eq : ∀ {vs ys : List Value}, Paired (fun v y => y = v) vs ys → ys = vs
  | _, _, .nil => rfl
  | _, _, .cons h r => by rw [h, paired_eq r]
theorem tups_filter {h : Heap} {y : Str} : ∀ {vs : List Value} {rows : List (Str × Str)}, TupsAre h vs rows → TupsAre h (vs.filter fun v => !pickP h y v) (rows.filter fun r => !(lowF r.1 == y))
  | _, _, .nil => .nil
  | _, _, .cons (a := a) (k := k) ht r => by
    have hk := keyOf_tup ht
    have e : pickP h y (.ref a) = (lowF k == y) := by unfold pickP; rw [hk]
    rw [List.filter_cons, List.filter_cons]
    simp only [e]
    cases (lowF k == y) with
    | true => exact tups_filter r
    | false => exact .cons ht (tups_filter r)
/-- what a change of the list at l leaves -/
noncomputable def Muts (s : Shared) (l : Addr) (vs : List Value) (v : Value) (s' : Shared) : Prop :=
  v = .none ∧ ∃ h' tk, s' = { s with heap := h', toks := tk } ∧ (∀ b o, b ≠ l → s.heap.get? b = some o → h'.get? b = some o) ∧ h'.PlainList l vs.toArray
section
variable {prog : Program} {w : World} {A : Around} {E : Value → Shared → Prop} {s : Shared} {n : Nat}
theorem del_call (G : Gd w s.heap) (R : Rm (n + 2) A) {tb dx l : Addr} {vs : List Value} {rows : List (Str × Str)} (Tb : HTab s.heap tb dx l) (hp : s.heap.PlainList l vs.toArray) (hT : TupsAre s.heap vs rows) (hN : ∀ r ∈ rows, NameOk r.1) (hz : vs.length ≤ 1000)
    (x : Str) (t : Tok) (hx : NameOk x) :
    wpAny (model prog w) A (call (.ref 102) [.ref tb, .str x t]) (Muts s l (vs.filter fun v => !pickP s.heap (lowF x) v)) E s := by
  walk_at "fill"
  have hl := hp.isList
  have X : (Mine.hd.heap_39 w.params).In s.heap := G.k
  obtain ⟨mg, mb, T⟩ := G.t
  refine enterC [(Str.ofString "self", .ref tb), (Str.ofString "name", .str x t)] G R (by k_is) (by k_is) (BindsTo.of_eq rfl) rfl (by decide +kernel) rfl rfl rfl ?_
  intro L h₁ tk A' cells R' F N Y
  obtain ⟨oc, rfl, hoc⟩ := CellsAre.one Y
  clear Y
  walk_at "wz"
  refine meth_headers X F (Tb.keeps F.keep) (by k_is) (by k_is) (by k_is) (by decide) ?_
  dsimp only
  walk_at "wz"
  refine lower_call x _ hx ?_
  walk_at "wz"
  refine wpAny_mono (convN_call (G.keeps F.keep) R' _ _ _ (low_ok hx)) (fun v s' hv => ?_) fun _ _ e => e
  obtain ⟨⟨h', tk', rfl, hk⟩, rfl⟩ := hv
  have F₂ := F.keeps hk
  have N₂ := N.grown hk
  clear F N
  dsimp only
  walk_at "wz"
  rename_i h₃ o₃ F₃ N₃ d₃
  refine wpAny_Assign_Subscript ?_
  refine lc_list (fun v => !pickP s.heap (lowF x) v) (fun v y => y = v) (by with_unfolding_all rfl) (by decide) rfl (by decide) rfl R'.h ?_
  refine Attribute_Name_ ?_
  walk_at "nmL"
  refine attr_headers X F₃ (Tb.keeps F₃.keep) ?_
  refine ⟨l, _, rfl, F₃.lst hl, ?_, ?_, ?_, ?_⟩
  · simp only [List.size_toArray, sizeLine]; omega
  · intro C v s₃ m₃ hv hn hm hk
    obtain ⟨i, hi', e⟩ := List.getElem_of_mem hv
    obtain ⟨a, k, y, t1, t2, rfl, hrow, htup⟩ := hT.at i v (by simp only at e hi' ⊢; rw [List.getElem?_eq_getElem hi', e])
    have hk' := hN _ (List.mem_of_getElem? hrow)
    have htup₃ := (htup.keeps F₃.keep).keeps hk
    refine tests_one ?_
    refine wpAny_isTrue_Compare1 ?_
    refine MethodCall_ ?_
    refine Subscript_ ?_
    refine nmV hn hm ?_
    refine wpAny_Constant_int ?_
    refine item_tupleT htup₃ (by decide) (by decide) rfl rfl ?_
    refine getMethod_builtin (typeIs_str _ _ _) PySem.F.plainAttrs_str PySem.F.slot_str_lower PySem.F.type_str_lower (fun _ e => nomatch e) ?_
    refine callWith_method0 ?_
    refine lower_call k _ hk' ?_
    refine nmF (c := L + 1) rfl (hk _ _ (N₃.get (List.Mem.head _))) d₃ ?_
    refine PyProof.Rows.ne_str ?_
    refine wpAny_truthy_bool ?_
    refine ⟨?_, _, _, rfl, fun _ _ e => e⟩
    unfold pickP
    rw [keyOf_tup htup]
    rfl
  · intro C v s₃ m₃ hv hp hn hm hk
    refine nmV hn hm ?_
    exact ⟨rfl, _, _, rfl, fun _ _ e => e⟩
  · intro D h₄ tk ys hD hlD _ hP hk
    have e := paired_eq hP
    have F₄ := F₃.keeps hk
    dsimp only
    refine Attribute_Name_ ?_
    walk_at "nmL"
    refine attr_headers X F₄ (Tb.keeps F₄.keep) ?_
    refine wpAny_Slice ?_
    refine evalPart_none_step ?_
    refine evalPart_none_step ?_
    refine evalPart_none_step ?_
    dsimp only
    have hp₄ : h₄.PlainList l vs.toArray := hp.at fun o e => F₄.keep _ o e
    have hne : l ≠ D := by
      intro q
      obtain ⟨n, ho⟩ := hp
      have := F₃.keep l _ ho
      rw [q, hD] at this; cases this
    have hup : ∀ b o, h₄.get? b = some o → (h₄.push { cls := .type "slice", data := .fields #[.none, .none, .none] }).get? b = some o := fun b o e => Heap.get?_push_of_some _ e
    refine setItem_all (hp₄.at fun o e => hup _ o e) (Heap.IsSliceOf.new ..) (hlD.at fun o e => hup _ o e) hne ?_ fun h₅ hp₅ hs₅ => ?_
    · have h1 : ys.size ≤ vs.length := by
        have : ys.toList.length ≤ vs.length := by rw [e]; exact List.length_filter_le _ _
        simpa using this
      simp only [List.size_toArray, sizeLine]; omega
    · refine wpAny_execs_nil ?_
      refine ⟨rfl, h₅, _, rfl, fun b o hb eb => hs₅.extBut b o hb (hup b o (F₄.keep b o eb)), ?_⟩
      have : ys = (vs.filter fun v => !pickP s.heap (lowF x) v).toArray := by rw [← e]
      rw [← this]; exact hp₅
end
end

section
/-- texts that a header's value may be -/
theorem hide_keep {h h' : Heap} {l : Addr} (hk : ∀ b o, b ≠ l → h.get? b = some o → h'.get? b = some o) : ∀ b o, (h.hide l).get? b = some o → (h'.hide l).get? b = some o := by
  intro b o e
  by_cases q : b = l
  · subst q; rw [Heap.hide_self] at e; cases e
  · exact (Heap.hide_ne h' q).trans (hk b o q (Heap.of_hide e))
theorem hide_in {h h' : Heap} {l : Addr} (hk : ∀ b o, b ≠ l → h.get? b = some o → h'.get? b = some o) : ∀ b o, (h.hide l).get? b = some o → h'.get? b = some o :=
  fun b o e => Heap.of_hide (hide_keep hk b o e)
theorem fr_hide {h₀ h h' : Heap} {L l : Addr} {m : Str → Option Value} (F : Fr h₀ L h m) (hL : L ≠ l) (hk : ∀ b o, b ≠ l → h.get? b = some o → h'.get? b = some o) : Fr (h₀.hide l) L h' m := by
  obtain ⟨oL, es, ep, ho, r⟩ := F.ns
  refine ⟨⟨oL, es, ep, hk _ _ hL ho, r⟩, fun b o e => ?_, by rw [Heap.hide_size]; exact F.above⟩
  have q : b ≠ l := by intro q; subst q; rw [Heap.hide_self] at e; cases e
  exact hk b o q (F.keep b o (Heap.of_hide e))
theorem HTab.mut {h h' : Heap} {tb dx l : Addr} {items : Array Value} (x : HTab h tb dx l) (hp : h.PlainList l items) (hk : ∀ b o, b ≠ l → h.get? b = some o → h'.get? b = some o) : HTab h' tb dx l := by
  obtain ⟨n, hs, tk, d⟩ := x.d
  obtain ⟨k, hl⟩ := hp
  refine ⟨hk _ _ ?_ x.i, n, hs, tk, hk _ _ ?_ d⟩
  · intro q; have := x.i; rw [q, hl] at this; cases this
  · intro q; rw [q, hl] at d; simp at d
theorem TupsAre.mut {h h' : Heap} {l : Addr} {items : Array Value} (hp : h.PlainList l items) (hk : ∀ b o, b ≠ l → h.get? b = some o → h'.get? b = some o) : ∀ {vs : List Value} {rows : List (Str × Str)}, TupsAre h vs rows → TupsAre h' vs rows
  | _, _, .nil => .nil
  | _, _, .cons (t := t) (u := u) x r => by
    refine TupsAre.cons (t := t) (u := u) ?_ (TupsAre.mut hp hk r)
    obtain ⟨o, ho, hc, n, hd⟩ := x
    refine ⟨o, hk _ _ ?_ ho, hc, n, hd⟩
    obtain ⟨k, hl⟩ := hp
    intro q; rw [q, hl] at ho; cases ho; simp at hc
/-- what an append to the list at l leaves: one more tuple -/
noncomputable def Turned (s : Shared) (l : Addr) (rows : List (Str × Str)) (s' : Shared) : Prop :=
  ∃ h' tk vs, s' = { s with heap := h', toks := tk } ∧ (∀ b o, b ≠ l → s.heap.get? b = some o → h'.get? b = some o) ∧ h'.PlainList l (Array.mk vs) ∧ TupsAre h' vs rows
theorem TupsAre.snoc {h : Heap} {a : Addr} {k v : Str} {t u : Tok} (x : IsTup h a #[.str k t, .str v u]) : ∀ {vs : List Value} {rows : List (Str × Str)}, TupsAre h vs rows → TupsAre h (vs ++ [.ref a]) (rows ++ [(k, v)])
  | _, _, .nil => .cons x .nil
  | _, _, .cons y r => .cons y (TupsAre.snoc x r)
theorem del_own {M : Model} {A : Around} {E : Value → Shared → Prop} {s : Shared} {K : Frag} {x C f : Addr} {ox : Obj} {od : Option Obj} {i : Value} {Q : Unit → Shared → Prop} (X : K.In s.heap) (I : InstAt s.heap x ox C od) (hq : noSeq K C = true) (hs : findIn K (.ref C) "__delitem__" = some (some (.ref f))) (hf : isFn K (.ref f) = true)
    (h : wpAny M A (call (.ref f) [.ref x, i]) (fun _ s' => Q () s') E s) : wpAny M A (delItem (.ref x) i) Q E s := by
  unfold delItem sequenceKey
  refine wpAny_holding (wpAny_bind (wpAny_bind (I.type.here ?_)))
  refine wpAny_bind ((anyM_none X hq).here ?_)
  rw [if_pos (show (!false) = true from rfl)]
  exact wpAny_pure (wpAny_bind (special_fn X I hs (beq_iff_eq.mp hf) (wpAny_mono h (fun _ _ z => wpAny_pure z) fun _ _ z => z)))
section
variable {prog : Program} {w : World} {A : Around} {E : Value → Shared → Prop} {s : Shared} {n : Nat}
theorem set_call {l : Addr} (G : Gd w (s.heap.hide l)) (R : Rm (n + 3) A) {tb dx : Addr} {vs : List Value} {rows : List (Str × Str)} (Tb : HTab s.heap tb dx l) (hp : s.heap.PlainList l vs.toArray) (hT : TupsAre s.heap vs rows) (hN : ∀ r ∈ rows, NameOk r.1) (hz : vs.length ≤ 1000)
    (x : Str) (t : Tok) (hx : NameOk x) (y : Str) (u : Tok) (hy : ValOk y) :
    wpAny (model prog w) A (call (.ref 97) [.ref tb, .str x t, .str y u]) (fun v s' => v = .none ∧ Turned s l ((rows.filter fun r => !(lowF r.1 == lowF x)) ++ [(x, y)]) s') E s := by
  walk_at "fill"
  have G₀ : Gd w s.heap := G.keeps fun b o e => Heap.of_hide e
  have X : (Mine.hd.heap_39 w.params).In s.heap := G₀.k
  have X' : (Mine.hd.heap_39 w.params).In (s.heap.hide l) := G.k
  obtain ⟨mg, mb, T⟩ := G₀.t
  refine enter [(Str.ofString "self", .ref tb), (Str.ofString "name", .str x t), (Str.ofString "val", .str y u)] G₀ R (by k_is) (by k_is) (BindsTo.of_eq rfl) (locs rfl) (by decide) rfl rfl rfl ?_
  intro L h₁ tk A' R' F
  have N : News s.heap L h₁ [] := News.nil
  refine wpAny_execs_cons ?_
  refine wpAny_Delete ?_
  refine wpAny_deleteEach_cons ?_
  refine wpAny_delete_Subscript ?_
  walk_at "nmL"
  walk_at "nmL"
  have X₁ : (Mine.hd.heap_39 w.params).In h₁ := X.keeps F.keep
  obtain ⟨nd, hs, tkd, d⟩ := (Tb.keeps F.keep).d
  refine del_own (od := some _) X₁ ⟨(Tb.keeps F.keep).i, rfl, rfl, d⟩ (by k_is) (by k_is) (by k_is) ?_
  clear d
  refine wpAny_mono (del_call (G₀.keeps F.keep) R' (Tb.keeps F.keep) (hp.at fun o e => F.keep _ o e) (hT.keeps F.keep) hN hz x _ hx) (fun v s' hv => ?_) fun _ _ e => e
  obtain ⟨rfl, h₂, tk₂, rfl, hk₂, hp₂⟩ := hv
  have hLl : L ≠ l := by
    intro q
    subst q
    obtain ⟨nn, ho⟩ := hp
    exact absurd (Heap.lt_size ho) (Nat.not_lt.mpr F.above)
  have F₂ := fr_hide F hLl hk₂
  have Tb₂ := (Tb.keeps F.keep).mut (hp.at fun o e => F.keep _ o e) hk₂
  have hT₂ := TupsAre.mut (hp.at fun o e => F.keep _ o e) hk₂ (tups_filter (y := lowF x) (hT.keeps F.keep))
  have hlen : (vs.filter fun v => !pickP h₁ (lowF x) v).length ≤ vs.length := List.length_filter_le _ _
  have K₂ : ∀ b o, b ≠ l → s.heap.get? b = some o → h₂.get? b = some o := fun b o hb e => hk₂ b o hb (F.keep b o e)
  generalize (vs.filter fun v => !pickP h₁ (lowF x) v) = vs₂ at hp₂ hT₂ hlen ⊢
  clear hk₂ F N X₁
  dsimp only
  refine wpAny_deleteEach_nil ?_
  have N : News (s.heap.hide l) L h₂ [] := News.nil
  refine wpAny_execs_cons ?_
  refine wpAny_Expr ?_
  refine MethodCall_ ?_
  refine Attribute_Name_ ?_
  walk_at "nmL"
  refine attr_headers X' F₂ Tb₂ ?_
  obtain ⟨n₂, hn₂⟩ := id hp₂
  refine getMethod_builtin ⟨_, hn₂, rfl⟩ PySem.F.plainAttrs_list PySem.F.slot_list_append PySem.F.type_list_append (fun a e => by cases e; exact ⟨_, hn₂, rfl⟩) ?_
  walk_at "wz"
  refine meth_headers X' F₂ Tb₂ (by k_is) (by k_is) (by k_is) (by decide) ?_
  dsimp only
  walk_at "wz"
  refine wpAny_mono (convN_call (G.keeps F₂.keep) R' _ _ _ hx) (fun v s' hv => ?_) fun _ _ e => e
  obtain ⟨⟨h₃, tk₃, rfl, hk₃⟩, rfl⟩ := hv
  have F₃ := F₂.keeps hk₃
  have N₃ := N.grown hk₃
  clear F₂ N
  dsimp only
  walk_at "wz"
  refine meth_headers X' F₃ (Tb₂.keeps hk₃) (by k_is) (by k_is) (by k_is) (by decide) ?_
  dsimp only
  walk_at "wz"
  refine wpAny_mono (convV_call (G.keeps F₃.keep) R' _ _ _ hy) (fun v s' hv => ?_) fun _ _ e => e
  obtain ⟨⟨h₄, tk₄, rfl, hk₄⟩, rfl⟩ := hv
  have F₄ := F₃.keeps hk₄
  have N₄ := N₃.grown hk₄
  clear F₃ N₃
  dsimp only
  walk_at "wz1"
  refine wpAny_newTuple ?_
  dsimp only
  have hk₅ : ∀ b o, h₄.get? b = some o → (h₄.push { cls := .type "tuple", data := .seq [Value.str x t, Value.str y u].toArray }).get? b = some o := fun b o e => Heap.get?_push_of_some _ e
  have hnew : (h₄.push { cls := .type "tuple", data := .seq [Value.str x t, Value.str y u].toArray }).get? h₄.objs.size = some { cls := .type "tuple", data := .seq [Value.str x t, Value.str y u].toArray } := Heap.get?_push_size _ rfl
  generalize h₄.push { cls := .type "tuple", data := .seq [Value.str x t, Value.str y u].toArray } = h₅ at hk₅ hnew ⊢
  generalize h₄.objs.size = a at hnew ⊢
  have F₅ := F₄.keeps hk₅
  have N₅ := N₄.grown hk₅
  clear F₄ N₄
  walk_at "wz1"
  refine wpAny_list_append_plain (hp₂.at fun o e => hk₅ _ _ (hk₄ _ _ (hk₃ _ _ e))) (fun h₆ hp₆ hs₆ => ?_) ?_
  · refine wpAny_execs_nil ?_
    have hk₆ : ∀ b o, b ≠ l → h₅.get? b = some o → h₆.get? b = some o := fun b o hb e => hs₆.extBut b o hb e
    have hp₅ : h₅.PlainList l vs₂.toArray := hp₂.at fun o e => hk₅ _ _ (hk₄ _ _ (hk₃ _ _ e))
    have hT₅ : TupsAre h₅ vs₂ _ := hT₂.keeps fun b o e => hk₅ _ _ (hk₄ _ _ (hk₃ _ _ e))
    refine ⟨rfl, h₆, _, vs₂ ++ [.ref a], rfl, fun b o hb e => hk₆ b o hb (hk₅ _ _ (hk₄ _ _ (hk₃ _ _ (K₂ b o hb e)))), ?_, ?_⟩
    · have e : vs₂.toArray.push (Value.ref a) = (vs₂ ++ [Value.ref a]).toArray := by simp
      rw [e] at hp₆; exact hp₆
    · exact (TupsAre.snoc ⟨_, hnew, rfl, _, rfl⟩ hT₅).mut hp₅ hk₆
  · simp only [List.size_toArray, sizeLine]; omega
end
end

section
section
variable {prog : Program} {w : World} {A : Around} {E : Value → Shared → Prop} {s : Shared} {n : Nat}
theorem get2_call (G : Gd w s.heap) (R : Rm (n + 2) A) {tb dx l : Addr} {vs : List Value} {rows : List (Str × Str)} (Tb : HTab s.heap tb dx l) (hl : s.heap.IsList l vs.toArray) (hT : TupsAre s.heap vs rows) (hN : ∀ r ∈ rows, NameOk r.1)
    (x : Str) (t : Tok) (hx : NameOk x) :
    wpAny (model prog w) A (call (.ref 129) [.ref tb, .str x t]) (Post s (getF rows x Value.none)) E s := by
  walk_at "fill"
  have X : (Mine.hd.heap_39 w.params).In s.heap := G.k
  obtain ⟨mg, mb, T⟩ := G.t
  refine enter [(Str.ofString "self", .ref tb), (Str.ofString "name", .str x t), (Str.ofString "default", Value.none)] G R (by k_is) (by k_is) (binds_K G.k rfl (by k_is) rfl rfl rfl) (locs rfl) (by decide) rfl rfl rfl ?_
  intro L h₁ tk A' R' F
  have N : News s.heap L h₁ [] := News.nil
  walk_at "wz"
  refine meth_headers X F (Tb.keeps F.keep) (by k_is) (by k_is) (by k_is) (by decide) ?_
  dsimp only
  walk_at "wz"
  refine lower_call x _ hx ?_
  walk_at "wz"
  refine wpAny_mono (convN_call (G.keeps F.keep) R' _ _ _ (low_ok hx)) (fun v s' hv => ?_) fun _ _ e => e
  obtain ⟨⟨h', tk', rfl, hk⟩, rfl⟩ := hv
  have F₂ := F.keeps hk
  have N₂ := N.grown hk
  clear F N
  dsimp only
  walk_at "wz"
  refine for_rule ?_
  refine Attribute_Name_ ?_
  walk_at "nmL"
  rename_i F₃ N₃
  refine attr_headers X F₃ (Tb.keeps F₃.keep) ?_
  refine' for_pairs (h₀ := s.heap) (L := L) (rows := rows) (fun i m => (∃ t, m (Str.ofString "name") = some (.str (lowF x) t)) ∧ m (Str.ofString "default") = some Value.none ∧ rows.find? (fun r => lowF r.1 == lowF x) = (rows.drop i).find? (fun r => lowF r.1 == lowF x)) ?a ?b ?b2 ?c R'.h hl hT ?F ?P ?_ ?_
  case a => rfl
  case b => rfl
  case b2 => rfl
  case c => rfl
  case F => exact F₃
  case P => exact ⟨⟨_, rfl⟩, rfl, rfl⟩
  · intro i k v tk tv h tk m I it hrow F N hP
    obtain ⟨⟨tn, hm1⟩, hm2, hm3⟩ := hP
    have hk := hN _ (List.mem_of_getElem? hrow)
    have hd : rows.drop i = (k, v) :: rows.drop (i + 1) := by
      obtain ⟨hi, e⟩ := List.getElem?_eq_some_iff.mp hrow
      rw [List.drop_eq_getElem_cons hi, e]
    rw [hd, List.find?_cons] at hm3
    walk_at "wz"
    refine lower_call k _ hk ?_
    walk_at "wz"
    · rename_i hq
      have e : (lowF k == lowF x) = true := by first | exact hq | simpa using hq
      show Post s (getF rows x Value.none) (.str v tv) _
      refine post_fr (by assumption) ?_
      unfold getF
      rw [hm3]
      simp only [e]
      exact ⟨_, rfl⟩
    · rename_i hq
      have e : (lowF k == lowF x) = false := by first | exact hq | simpa using hq
      refine ⟨_, _, _, rfl, by assumption, by assumption, ⟨_, by walk_at "mv"⟩, by walk_at "mv", ?_⟩
      rw [hm3]
      simp only [e]
  · intro h tk m F hP
    obtain ⟨⟨tn, hm1⟩, hm2, hm3⟩ := hP
    rw [List.drop_length, List.find?_nil] at hm3
    have N : News s.heap L h [] := News.nil
    walk_at "wz"
    refine post_fr (by assumption) ?_
    unfold getF
    rw [hm3]
end
end

section
/-- what setdefault leaves -/
noncomputable def setdQ (s : Shared) (l : Addr) (rows : List (Str × Str)) (x y : Str) (v : Value) (s' : Shared) : Prop := match rows.find? (fun r => lowF r.1 == lowF x) with
  | some r => (∃ t, v = .str r.2 t) ∧ Turned s l rows s'
  | none => (∃ t, v = .str y t) ∧ Turned s l (rows ++ [(x, y)]) s'
section
variable {prog : Program} {w : World} {A : Around} {E : Value → Shared → Prop} {s : Shared} {n : Nat}
theorem setd_call {l : Addr} (G : Gd w s.heap) (R : Rm (n + 3) A) {tb dx : Addr} {vs : List Value} {rows : List (Str × Str)} (Tb : HTab s.heap tb dx l) (hp : s.heap.PlainList l vs.toArray) (hT : TupsAre s.heap vs rows) (hN : ∀ r ∈ rows, NameOk r.1) (hz : vs.length ≤ 1000)
    (x : Str) (t : Tok) (hx : NameOk x) (y : Str) (u : Tok) (hy : ValOk y) :
    wpAny (model prog w) A (call (.ref 172) [.ref tb, .str x t, .str y u]) (setdQ s l rows x y) E s := by
  walk_at "fill"
  have X : (Mine.hd.heap_39 w.params).In s.heap := G.k
  obtain ⟨mg, mb, T⟩ := G.t
  refine enter [(Str.ofString "self", .ref tb), (Str.ofString "name", .str x t), (Str.ofString "value", .str y u)] G R (by k_is) (by k_is) (BindsTo.of_eq rfl) (locs rfl) (by decide) rfl rfl rfl ?_
  intro L h₁ tk A' R' F
  have N : News s.heap L h₁ [] := News.nil
  walk_at "wz"
  refine meth_headers X F (Tb.keeps F.keep) (by k_is) (by k_is) (by k_is) (by decide) ?_
  dsimp only
  walk_at "wz"
  refine wpAny_mono (get2_call (G.keeps F.keep) R' (Tb.keeps F.keep) (F.lst hp.isList) (hT.keeps F.keep) hN x _ hx) (fun v s' hv => ?_) fun _ _ e => e
  obtain ⟨⟨h', tk', rfl, hk⟩, hg⟩ := hv
  have F₂ := F.keeps hk
  have N₂ := N.grown hk
  clear F N
  dsimp only
  unfold getF at hg
  unfold setdQ
  split at hg
  · rename_i r hr
    obtain ⟨t', rfl⟩ := hg
    try rw [hr]
    walk_at "wz"
    rename_i h₃ F₃ N₃
    exact ⟨h₃, _, vs, rfl, fun b o _ e => F₃.keep b o e, hp.at fun o e => F₃.keep _ o e, hT.keeps F₃.keep⟩
  · rename_i hr
    subst hg
    try rw [hr]
    walk_at "wz"
    rename_i h₂ F₂ N₂
    have Tb₂ := Tb.keeps F₂.keep
    have hp₂ := hp.at fun o e => F₂.keep _ o e
    refine attr_headers X F₂ Tb₂ ?_
    obtain ⟨n₂, hn₂⟩ := id hp₂
    refine getMethod_builtin ⟨_, hn₂, rfl⟩ PySem.F.plainAttrs_list PySem.F.slot_list_append PySem.F.type_list_append (fun a e => by cases e; exact ⟨_, hn₂, rfl⟩) ?_
    walk_at "wz"
    refine meth_headers X F₂ Tb₂ (by k_is) (by k_is) (by k_is) (by decide) ?_
    dsimp only
    walk_at "wz"
    refine wpAny_mono (convN_call (G.keeps F₂.keep) R' _ _ _ hx) (fun v s' hv => ?_) fun _ _ e => e
    obtain ⟨⟨h₃, tk₃, rfl, hk₃⟩, rfl⟩ := hv
    have F₃ := F₂.keeps hk₃
    have N₃ := N₂.grown hk₃
    clear F₂ N₂
    dsimp only
    walk_at "wz"
    refine meth_headers X F₃ (Tb₂.keeps hk₃) (by k_is) (by k_is) (by k_is) (by decide) ?_
    dsimp only
    walk_at "wz"
    refine wpAny_mono (convV_call (G.keeps F₃.keep) R' _ _ _ hy) (fun v s' hv => ?_) fun _ _ e => e
    obtain ⟨⟨h₄, tk₄, rfl, hk₄⟩, rfl⟩ := hv
    have F₄ := F₃.keeps hk₄
    have N₄ := N₃.grown hk₄
    clear F₃ N₃
    dsimp only
    walk_at "wz1"
    refine wpAny_newTuple ?_
    dsimp only
    have hk₅ : ∀ b o, h₄.get? b = some o → (h₄.push { cls := .type "tuple", data := .seq [Value.str x t, Value.str y u].toArray }).get? b = some o := fun b o e => Heap.get?_push_of_some _ e
    have hnew : (h₄.push { cls := .type "tuple", data := .seq [Value.str x t, Value.str y u].toArray }).get? h₄.objs.size = some { cls := .type "tuple", data := .seq [Value.str x t, Value.str y u].toArray } := Heap.get?_push_size _ rfl
    generalize h₄.push { cls := .type "tuple", data := .seq [Value.str x t, Value.str y u].toArray } = h₅ at hk₅ hnew ⊢
    generalize h₄.objs.size = a at hnew ⊢
    have F₅ := F₄.keeps hk₅
    have N₅ := N₄.grown hk₅
    clear F₄ N₄
    walk_at "wz1"
    have hp₅ := hp.at fun o e => F₅.keep _ o e
    refine wpAny_list_append_plain hp₅ (fun h₆ hp₆ hs₆ => ?_) ?_
    · have hk₆ : ∀ b o, b ≠ l → h₅.get? b = some o → h₆.get? b = some o := fun b o hb e => hs₆.extBut b o hb e
      have hT₅ : TupsAre h₅ vs _ := hT.keeps F₅.keep
      have hLl : L ≠ l := by
        intro q
        subst q
        obtain ⟨nn, ho⟩ := hp
        exact absurd (Heap.lt_size ho) (Nat.not_lt.mpr F₅.above)
      have F₆ := fr_hide F₅ hLl hk₆
      have N₆ : News (s.heap.hide l) L h₆ [] := News.nil
      have hfin : Turned s l (rows ++ [(x, y)]) { s with heap := h₆, toks := tk₄ } := by
        refine ⟨h₆, _, vs ++ [.ref a], rfl, fun b o hb e => hk₆ b o hb (F₅.keep b o e), ?_, ?_⟩
        · have e : vs.toArray.push (Value.ref a) = (vs ++ [Value.ref a]).toArray := by simp
          rw [e] at hp₆; exact hp₆
        · exact (TupsAre.snoc ⟨_, hnew, rfl, _, rfl⟩ hT₅).mut hp₅ hk₆
      dsimp only
      clear F₅ N₅
      walk_at "wz"
      exact hfin
    · simp only [List.size_toArray, sizeLine]; omega
end
end

section
theorem fr_but {h₀ h h' : Heap} {L it : Addr} {m : Str → Option Value} (F : Fr h₀ L h m) (hi : h₀.objs.size ≤ it) (hL : L ≠ it) (hk : ∀ b o, b ≠ it → h.get? b = some o → h'.get? b = some o) : Fr h₀ L h' m := by
  obtain ⟨oL, es, ep, ho, r⟩ := F.ns
  refine ⟨⟨oL, es, ep, hk _ _ hL ho, r⟩, fun b o e => ?_, F.above⟩
  exact hk b o (fun q => absurd (Heap.lt_size e) (by rw [q]; exact Nat.not_lt.mpr hi)) (F.keep b o e)
theorem for_noitems {prog : Program} {w : World} {A : Around} {s : Shared} {h₀ : Heap} {L D : Addr} {m : Str → Option Value} {news : List (Addr × Obj)} {env : Env} {target : PySem.Expr} {body : List Stmt} {Q : Flow → Shared → Prop} (hh : A.handled = none) (F : Fr h₀ L s.heap m) (N : News h₀ L s.heap news)
    (hD : h₀.get? D = some { cls := .type "dict", data := .dict #[] }) (hDm : (D == sysModules) = false) (h : ∀ h', Fr h₀ L h' m → News h₀ L h' news → Q .next { s with heap := h' }) :
    wpAny (model prog w) A (call (.builtin "dict.items") [.ref D]) (fun x s₁ => wpAny (model prog w) A (pyIter x) (LoopOk prog w A env target body Q) No s₁) No s := by
  have hDA : ∀ h : Heap, h.get? D = some { cls := .type "dict", data := .dict #[] } → h.DictAt (strKind prog w) D [] 0 := fun h e =>
    ⟨_, #[], e, ⟨rfl, rfl, rfl⟩, rfl, fun e he => by simp at he, Pairs.nil, List.nodup_nil⟩
  have hD₄ := F.keep _ _ hD
  have hDO : s.heap.DictOf (strKind prog w) D [] := let ⟨o, es, r⟩ := hDA _ hD₄; ⟨o, es, 0, r⟩
  refine call_meetsIn PySem.F.slot_dict_items ⟨_, hD₄, rfl⟩ PySem.F.entry_dict_items (PySem.F.args_dict_items_1 _) (meets_dict_items (strKind prog w) D hDm) ⟨⟨[], hDO⟩, ?_⟩
  have F₁ := F.push { cls := .type "dict_items", data := .fields #[.ref D] }
  have N₁ : News h₀ L (s.heap.push { cls := .type "dict_items", data := .fields #[.ref D] }) news := N.grown fun b o e => Heap.get?_push_of_some _ e
  have V : (s.heap.push { cls := .type "dict_items", data := .fields #[.ref D] }).IsItemsView s.heap.objs.size D := ⟨_, Heap.get?_push_size _ rfl, rfl, rfl⟩
  generalize s.heap.push { cls := .type "dict_items", data := .fields #[.ref D] } = h₁ at F₁ N₁ V ⊢
  refine wpAny_pyIter_items (s := { s with heap := h₁ }) V (hDA _ (F₁.keep _ _ hD)) ?_
  have F₂ := F₁.push { cls := .type "dict_itemiterator", data := .fields #[.none, .bool false, .ref D, .int 0 0, .int 0 0, .int 0 0, .none, .none] }
  have N₂ : News h₀ L (h₁.push { cls := .type "dict_itemiterator", data := .fields #[.none, .bool false, .ref D, .int 0 0, .int 0 0, .int 0 0, .none, .none] }) news := N₁.grown fun b o e => Heap.get?_push_of_some _ e
  have V₂ : IsItemIter (h₁.push { cls := .type "dict_itemiterator", data := .fields #[.none, .bool false, .ref D, .int 0 0, .int 0 0, .int 0 0, .none, .none] }) h₁.objs.size D 0 0 0 .none .none := Heap.get?_push_size _ rfl
  have hit : h₀.objs.size ≤ h₁.objs.size := Nat.le_of_lt (Nat.lt_of_le_of_lt F₁.above F₁.ns.lt)
  have hL : L ≠ h₁.objs.size := Nat.ne_of_lt F₁.ns.lt
  have hlow : ∀ p ∈ news, p.1 ≠ h₁.objs.size := fun p hp => Nat.ne_of_lt (Heap.lt_size (N₁ p hp).1)
  refine ⟨fun _ s' => s' = { s with heap := h₁.push { cls := .type "dict_itemiterator", data := .fields #[.none, .bool false, .ref D, .int 0 0, .int 0 0, .int 0 0, .none, .none] } }, 0, rfl, fun i s' hi _ => absurd hi (Nat.not_lt_zero _), ?_⟩
  intro s' e
  subst e
  refine wpAny_pyNext_items_end (knd := strKind prog w) (kvs := []) (i := 0) hh V₂ (hDA _ (F₂.keep _ _ hD)) rfl fun h' hx => ⟨rfl, ?_⟩
  exact h h' (fr_but F₂ hit hL fun b o hb e => hx b o hb e) fun p hp => ⟨hx _ _ (hlow p hp) (N₂ p hp).1, (N₂ p hp).2⟩
section
variable {prog : Program} {w : World} {A : Around} {E : Value → Shared → Prop} {s : Shared} {n : Nat}
theorem add_call {l : Addr} (G : Gd w s.heap) (R : Rm (n + 3) A) {tb dx : Addr} {vs : List Value} {rows : List (Str × Str)} (Tb : HTab s.heap tb dx l) (hp : s.heap.PlainList l vs.toArray) (hT : TupsAre s.heap vs rows) (hz : vs.length ≤ 1000)
    (x : Str) (t : Tok) (hx : NameOk x) (y : Str) (u : Tok) (hy : ValOk y) :
    wpAny (model prog w) A (call (.ref 179) [.ref tb, .str x t, .str y u]) (fun v s' => v = .none ∧ Turned s l (rows ++ [(x, y)]) s') E s := by
  walk_at "fill"
  refine enterK [(Str.ofString "self", .ref tb), (Str.ofString "_name", .str x t), (Str.ofString "_value", .str y u)] (Str.ofString "_params") G R (by k_is) (by k_is) rfl (fun _ => locs rfl) (by decide) rfl rfl rfl ?_
  intro g D L h₁ tk A' R' hg hD hD0 hDm F
  have Gg : Gd w g := G.keeps hg
  have X : (Mine.hd.heap_39 w.params).In g := Gg.k
  obtain ⟨mg, mb, T⟩ := Gg.t
  have Tg := Tb.keeps hg
  have hpg : g.PlainList l vs.toArray := hp.at fun o e => hg _ o e
  have hTg := hT.keeps hg
  have N : News g L h₁ [] := News.nil
  walk_at "wz"
  rename_i F₁ N₁
  refine meth_headers X F₁ (Tg.keeps F₁.keep) (by k_is) (by k_is) (by k_is) (by decide) ?_
  dsimp only
  walk_at "wz"
  refine wpAny_mono (convV_call (Gg.keeps F₁.keep) R' _ _ _ hy) (fun v s' hv => ?_) fun _ _ e => e
  obtain ⟨⟨h₃, tk₃, rfl, hk₃⟩, rfl⟩ := hv
  have F₃ := F₁.keeps hk₃
  have N₃ := N₁.grown hk₃
  clear F₁ N₁
  dsimp only
  walk_at "wz"
  walk_at "wk"
  rename_i lp _ h₄ _ F₄ N₄
  refine for_rule ?_
  refine MethodCall_ ?_
  walk_at "nmL"
  have hD₄ := F₄.keep _ _ hD
  refine getMethod_builtin ⟨_, hD₄, rfl⟩ PySem.F.plainAttrs_dict PySem.F.slot_dict_items PySem.F.type_dict_items (fun a e => by cases e; exact ⟨_, hD₄, rfl⟩) ?_
  refine callWith_method0 ?_
  refine for_noitems R'.h F₄ N₄ hD hDm fun h₅ F₅ N₅ => ?_
  clear F₄ N₄
  dsimp only
  walk_at "wz"
  have Tb₅ := Tg.keeps F₅.keep
  have hp₅ := hpg.at fun o e => F₅.keep _ o e
  refine attr_headers X F₅ Tb₅ ?_
  obtain ⟨n₅, hn₅⟩ := id hp₅
  refine getMethod_builtin ⟨_, hn₅, rfl⟩ PySem.F.plainAttrs_list PySem.F.slot_list_append PySem.F.type_list_append (fun a e => by cases e; exact ⟨_, hn₅, rfl⟩) ?_
  walk_at "wz"
  refine meth_headers X F₅ Tb₅ (by k_is) (by k_is) (by k_is) (by decide) ?_
  dsimp only
  walk_at "wz"
  refine wpAny_mono (convN_call (Gg.keeps F₅.keep) R' _ _ _ hx) (fun v s' hv => ?_) fun _ _ e => e
  obtain ⟨⟨h₆, tk₆, rfl, hk₆⟩, rfl⟩ := hv
  have F₆ := F₅.keeps hk₆
  have N₆ := N₅.grown hk₆
  clear F₅ N₅
  dsimp only
  iterate 14 (first | (with_reducible show wpAny _ _ (call (Value.builtin "str.join") _) _ _ _) | walk_at "wz1")
  refine join_listW (x := Str.ofString "; ") (ys := [y]) ⟨_, (N₆ _ (.head _)).1, rfl, _, rfl⟩ (.cons _ _ .nil) (by decide) ?_ fun t' k' => ?_
  · simp only [List.map_cons, List.map_nil, List.sum_cons, List.sum_nil, List.length_cons, List.length_nil]
    have := hy.2
    omega
  have ej : Txt.join (Str.ofString "; ") [y] = y := by
    cases y
    simp [Txt.join, Builtin.Str.glued]
  rw [ej]
  dsimp only
  walk_at "wz1"
  refine wpAny_newTuple ?_
  dsimp only
  have hk₇ : ∀ b o, h₆.get? b = some o → (h₆.push { cls := .type "tuple", data := .seq [Value.str x t, Value.str y t'].toArray }).get? b = some o := fun b o e => Heap.get?_push_of_some _ e
  have hnew : (h₆.push { cls := .type "tuple", data := .seq [Value.str x t, Value.str y t'].toArray }).get? h₆.objs.size = some { cls := .type "tuple", data := .seq [Value.str x t, Value.str y t'].toArray } := Heap.get?_push_size _ rfl
  generalize h₆.push { cls := .type "tuple", data := .seq [Value.str x t, Value.str y t'].toArray } = h₇ at hk₇ hnew ⊢
  generalize h₆.objs.size = a at hnew ⊢
  have F₇ := F₆.keeps hk₇
  have N₇ := N₆.grown hk₇
  clear F₆ N₆
  walk_at "wz1"
  have hp₇ := hpg.at fun o e => F₇.keep _ o e
  refine wpAny_list_append_plain hp₇ (fun h₈ hp₈ hs₈ => ?_) ?_
  · have hk₈ : ∀ b o, b ≠ l → h₇.get? b = some o → h₈.get? b = some o := fun b o hb e => hs₈.extBut b o hb e
    have hT₇ : TupsAre h₇ vs _ := hTg.keeps F₇.keep
    refine wpAny_execs_nil ?_
    refine ⟨rfl, h₈, _, vs ++ [.ref a], rfl, fun b o hb e => hk₈ b o hb (F₇.keep b o (hg b o e)), ?_, ?_⟩
    · have e : vs.toArray.push (Value.ref a) = (vs ++ [Value.ref a]).toArray := by simp
      rw [e] at hp₈; exact hp₈
    · exact (TupsAre.snoc ⟨_, hnew, rfl, _, rfl⟩ hT₇).mut hp₇ hk₈
  · simp only [List.size_toArray, sizeLine]; omega
end
end

section
theorem Rm.under {n : Nat} {A : Around} {C : Addr} {vals : List Value} {kw : List (Str × Value)} (R : Rm (n + 1) A) : Rm n (A.under (.builtin "type.__call__" ⟨.ref C :: vals, kw⟩)) :=
  ⟨R.h, by have := R.d; rw [depth_under_kw]; omega, by
    have e2 : (Code.builtin "type.__call__" ⟨.ref C :: vals, kw⟩).cUnits = 1 := by with_unfolding_all rfl
    have := R.u
    show A.units + (Code.builtin "type.__call__" ⟨.ref C :: vals, kw⟩).cUnits + 10 * n < 9900
    rw [e2]; omega⟩
theorem for_emptylist {prog : Program} {w : World} {A : Around} {s : Shared} {h₀ : Heap} {L l : Addr} {m : Str → Option Value} {news : List (Addr × Obj)} {env : Env} {target : PySem.Expr} {body : List Stmt} {Q : Flow → Shared → Prop} (hh : A.handled = none) (F : Fr h₀ L s.heap m) (N : News h₀ L s.heap news)
    (hl : s.heap.IsList l #[]) (h : ∀ h', Fr h₀ L h' m → News h₀ L h' news → Q .next { s with heap := h' }) :
    wpAny (model prog w) A (pyIter (.ref l)) (LoopOk prog w A env target body Q) No s := by
  refine wpAny_pyIter_list hl ?_
  have Ipush := N.push F ({ cls := .type "list_iterator", data := .fields #[.ref l, .int 0 0] } : Obj)
  have hI0 := Ipush (s.heap.objs.size, _) List.mem_cons_self
  have hIL : s.heap.objs.size ≠ L := hI0.2.1
  have hIn : h₀.get? s.heap.objs.size = none := hI0.2.2
  have F₁ := F.push ({ cls := .type "list_iterator", data := .fields #[.ref l, .int 0 0] } : Obj)
  have hl₁ : (s.heap.push ({ cls := .type "list_iterator", data := .fields #[.ref l, .int 0 0] } : Obj)).IsList l #[] := hl.at fun o e => Heap.get?_push_of_some _ e
  refine ⟨fun _ s' => s' = { s with heap := s.heap.push ({ cls := .type "list_iterator", data := .fields #[.ref l, .int 0 0] } : Obj) }, 0, rfl, fun i s' hi _ => absurd hi (Nat.not_lt_zero _), ?_⟩
  intro s' e
  subst e
  refine wpAny_pyNext_list_end hh ⟨_, hI0.1, rfl, rfl⟩ hl₁ (by simp) fun h₁ he₁ => ⟨rfl, ?_⟩
  exact h h₁ ⟨F₁.ns.extBut he₁ (Ne.symm hIL), fun b o e => he₁ b o (fun q => by rw [q, hIn] at e; cases e) (F₁.keep b o e), F₁.above⟩ fun p hp => ⟨he₁ _ _ (Nat.ne_of_lt (Heap.lt_size (N p hp).1)) (Heap.get?_push_of_some _ (N p hp).1), (N p hp).2⟩
section
variable {prog : Program} {w : World} {A : Around} {E : Value → Shared → Prop} {s : Shared} {n : Nat}
theorem enterQ {P : Result → Shared → Prop} {name qual : Str} {params : Arguments} {body : List Stmt} {scope : Scope} {dV kV doc pm cdv ct oc : Value} {an od : Option Addr} {osl : Array (Option Value)} {f : Addr} {pos : List Value} {kw : List (Str × Value)} {n : Nat} (binds : List (Str × Value))
    (G : Gd w s.heap) (R : Rm (n + 1) A)
    (ho : (Mine.hd.heap_39 w.params).lookup f = some ⟨oc, od, .func (fnOf name qual params body scope dV kV doc pm an cdv ct), osl⟩) (hcd : codeIn (Mine.hd.heap_39 w.params) cdv qual = true)
    (hbind : BindsTo s (fnOf name qual params body scope dV kV doc pm an cdv ct) ⟨pos, kw⟩ binds) (hloc : ∀ y ∈ binds, scope.names.lookup y.1 = some .local)
    (hcell : ∀ x ∈ scope.names, x.2 ≠ .cell) (hco : scope.isCoroutine = false) (hgen : scope.isGenerator = false) (hk : scope.kind = .function)
    (h : ∀ h₁ tk A', Rm n A' → Fr s.heap s.heap.objs.size h₁ (fun y => binds.reverse.lookup y) →
      wpAny (model prog w) A' (execs body (envX qual scope s.heap.objs.size f cdv []))
        (fun fl s' => P (.ok (.ret (match fl with | .ret v => v | _ => .none))) s') No
        { s with heap := h₁, toks := tk }) :
    codeAny (model prog w) A (.call (.ref f) ⟨pos, kw⟩) P s := by
  obtain ⟨mg, mb, T⟩ := G.t
  refine codeAny_call_def (fd := fnOf name qual params body scope dV kV doc pm an cdv ct) (body := body) (binds := binds) R.room (G.k _ _ ho) rfl T.nolimit (codeRec_of G.k hcd) rfl hbind hcell hloc (fun h₁ hns hk₁ => ?_) hco hgen hk
  exact wpAny_mono (h h₁ _ _ R.deep ⟨hns, hk₁, Nat.le_refl _⟩) (fun _ _ q => q) fun _ _ q => q.elim
/-- a new table -/
noncomputable def NewTab (s : Shared) (v : Value) (s' : Shared) : Prop := Keeps s s' ∧ ∃ tb dx l, v = .ref tb ∧ HTab s'.heap tb dx l ∧ s'.heap.PlainList l #[] ∧ s.heap.get? l = none
theorem new_call (G : Gd w s.heap) (R : Rm (n + 3) A) : wpAny (model prog w) A (call (.ref 182) []) (NewTab s) E s := by
  walk_at "fill"
  have X : (Mine.hd.heap_39 w.params).In s.heap := G.k
  obtain ⟨mg, mb, T⟩ := G.t
  refine wpAny_call ?_
  obtain ⟨hh, gg, dd, tt, os⟩ := s
  refine make_core (init := .ref 76) (makes_of X (by k_is)) (looks_findIn X (by k_is)) (fun self => bind_fn X self (by k_is)) (.inl rfl) ?_
  have hk : ∀ b o, hh.get? b = some o → ((hh.push emptyDict).push (instObj 182 hh.objs.size)).get? b = some o := fun b o e => Heap.get?_push_of_some _ (Heap.get?_push_of_some _ e)
  refine enterQ [(Str.ofString "self", .ref (hh.objs.size + 1)), (Str.ofString "headers", .none)] (G.keeps hk) R.under (by k_is) (by k_is) (binds_K (X.keeps hk) rfl (by k_is) rfl rfl rfl) (locs rfl) (by decide) rfl rfl rfl ?_
  intro h₁ tk A' R' F₀
  dsimp only at F₀ ⊢
  have F := Fr.mk (h₀ := hh) F₀.ns (fun b o e => F₀.keep b o (hk b o e)) (by have := F₀.above; simp only [Heap.size_push] at this ⊢; omega)
  have N : News hh ((hh.push emptyDict).push (instObj 182 hh.objs.size)).objs.size h₁ [(hh.objs.size + 1, instObj 182 hh.objs.size), (hh.objs.size, emptyDict)] := by
    have hsz : ((hh.push emptyDict).push (instObj 182 hh.objs.size)).objs.size = hh.objs.size + 2 := by simp only [Heap.size_push]
    have hno : ∀ a, hh.objs.size ≤ a → hh.get? a = none := fun a ha => by
      cases e : hh.get? a with
      | none => rfl
      | some o => exact absurd (Heap.lt_size e) (Nat.not_lt.mpr ha)
    rw [hsz]
    intro p hp
    rcases List.mem_cons.mp hp with rfl | hp
    · refine ⟨F₀.keep _ _ ?_, by simp, hno _ (Nat.le_succ _)⟩
      have := Heap.get?_push_size (hh.push emptyDict) (o := instObj 182 hh.objs.size) rfl
      rwa [Heap.size_push] at this
    · rcases List.mem_singleton.mp hp with rfl
      refine ⟨F₀.keep _ _ (Heap.get?_push_of_some _ (Heap.get?_push_size _ rfl)), by simp, hno _ (Nat.le_refl _)⟩
  generalize ((hh.push emptyDict).push (instObj 182 hh.objs.size)).objs.size = L at F N ⊢
  have hlt : hh.objs.size < hh.objs.size + 1 := Nat.lt_succ_self _
  generalize hh.objs.size + 1 = tb at F N hlt ⊢
  generalize hh.objs.size = dx at F N hlt ⊢
  clear F₀ hk
  dsimp only at G X T
  walk_at "wk"
  rename_i l h₄ _ h₅ _ h₆ F₆ N₆
  refine for_rule ?_
  walk_at "nmL"
  refine for_emptylist R'.h F₆ N₆ ⟨_, (N₆ _ (.head _)).1, rfl, _, rfl⟩ fun h₇ F₇ N₇ => ?_
  clear F₆ N₆
  dsimp only
  walk_at "wk"
  refine ⟨rfl, ⟨_, _, rfl, F₇.keep⟩, tb, dx, l, rfl, ⟨(N₇ _ (.tail _ (.head _))).1, _, _, _, (N₇ _ (.tail _ (.tail _ (.head _)))).1⟩, ⟨_, (N₇ _ (.head _)).1⟩, (N₇ _ (.head _)).2.2⟩
end
end

section
theorem strs_reads {h : Heap} : ∀ {vs : List Value} {xs : List Str}, StrsAre vs xs → ReadsAll h vs (xs.map PyData.str) []
  | _, _, .nil => .nil
  | _, _, .cons y t r => ReadsAll.cons (as := []) (bs := []) (.str y t) (strs_reads r)
theorem tups_reads {h : Heap} : ∀ {vs : List Value} {rows : List (Str × Str)}, TupsAre h vs rows → ReadsAll h vs (rows.map fun r => PyData.tuple [.str r.1, .str r.2]) []
  | _, _, .nil => .nil
  | _, _, .cons (t := t) (u := u) x r => by
    obtain ⟨o, ho, hc, n, hd⟩ := x
    refine ReadsAll.cons (as := []) (bs := []) (.tuple ho hc hd ?_) (tups_reads r)
    exact ReadsAll.cons (as := []) (bs := []) (.str _ t) (ReadsAll.cons (as := []) (bs := []) (.str _ u) .nil)
theorem strOk_name {x : Str} (h : ∀ c ∈ x.cps.toList, c < 256) : PyData.canLay0 (.str x) = true := by
  simp only [PyData.canLay0, PyData.strOk, Array.all_eq_true_iff_forall_mem, decide_eq_true_eq]
  intro c hc
  have := h c (by simpa using hc)
  omega
theorem lay_strs : ∀ {xs : List Str}, (∀ x ∈ xs, ∀ c ∈ x.cps.toList, c < 256) → PyData.canLayAll0 (xs.map PyData.str) = true
  | [], _ => by simp [PyData.canLayAll0]
  | x :: r, h => by
    simp only [List.map_cons, PyData.canLayAll0]
    rw [strOk_name (h x (.head _)), lay_strs fun y hy => h y (.tail _ hy)]; rfl
theorem lay_tups : ∀ {rows : List (Str × Str)}, (∀ r ∈ rows, (∀ c ∈ r.1.cps.toList, c < 256) ∧ ∀ c ∈ r.2.cps.toList, c < 256) → PyData.canLayAll0 (rows.map fun r => PyData.tuple [.str r.1, .str r.2]) = true
  | [], _ => by simp [PyData.canLayAll0]
  | x :: r, h => by
    have e1 := strOk_name (h x (.head _)).1
    have e2 := strOk_name (h x (.head _)).2
    have e3 := lay_tups fun y hy => h y (.tail _ hy)
    have e4 : PyData.canLay0 (.tuple [.str x.1, .str x.2]) = true := by
      rw [PyData.canLay0, PyData.canLayAll0, PyData.canLayAll0, PyData.canLayAll0, e1, e2]; rfl
    simp only [List.map_cons, PyData.canLayAll0]
    rw [e4, e3]; rfl
theorem depth_strs : ∀ xs : List Str, PyData.depthAll (xs.map PyData.str) = 0
  | [] => by simp [PyData.depthAll]
  | x :: r => by simp [PyData.depthAll, PyData.depth, depth_strs r]
theorem depth_tups : ∀ rows : List (Str × Str), PyData.depthAll (rows.map fun r => PyData.tuple [.str r.1, .str r.2]) ≤ 1
  | [] => by simp [PyData.depthAll]
  | x :: r => by
    have := depth_tups r
    simp [PyData.depthAll, PyData.depth]
    omega
section
variable {prog : Program} {w : World} {A : Around} {E : Value → Shared → Prop} {s : Shared} {Q : Value → Shared → Prop}
theorem ne_strs {a b : Addr} {va vb : Array Value} {xs : List Str} (ha : s.heap.IsList a va) (hb : s.heap.IsList b vb) (sa : StrsAre va.toList xs) (sb : StrsAre vb.toList xs) (hx : ∀ x ∈ xs, ∀ c ∈ x.cps.toList, c < 256) (hu : A.units + 64 < cLine)
    (h : Q (.bool false) s) : wpAny (model prog w) A (compareOp .NotEq (.ref a) (.ref b)) Q E s := by
  obtain ⟨oa, ga, ca, na, da⟩ := ha
  obtain ⟨ob, gb, cb, nb, db⟩ := hb
  have sh : PyData.canLay0 (.list (xs.map PyData.str)) = true := by rw [PyData.canLay0]; exact lay_strs hx
  have hs : SeqAt.shaped (.list (xs.map PyData.str)) = true := by
    unfold SeqAt.shaped
    rw [sh, PyData.depth, depth_strs]; rfl
  refine ne_dataH (.list ga ca da (strs_reads sa)) (.list gb cb db (strs_reads sb)) hs hs hu ?_
  rw [SeqAt.eqv_refl _ sh]; exact h
theorem eq_tups {a b : Addr} {va vb : Array Value} {rows : List (Str × Str)} (ha : s.heap.IsList a va) (hb : s.heap.IsList b vb) (sa : TupsAre s.heap va.toList rows) (sb : TupsAre s.heap vb.toList rows) (hx : ∀ r ∈ rows, (∀ c ∈ r.1.cps.toList, c < 256) ∧ ∀ c ∈ r.2.cps.toList, c < 256) (hu : A.units + 64 < cLine)
    (h : Q (.bool true) s) : wpAny (model prog w) A (compareOp .Eq (.ref a) (.ref b)) Q E s := by
  obtain ⟨oa, ga, ca, na, da⟩ := ha
  obtain ⟨ob, gb, cb, nb, db⟩ := hb
  have sh : PyData.canLay0 (.list (rows.map fun r => PyData.tuple [.str r.1, .str r.2])) = true := by rw [PyData.canLay0]; exact lay_tups hx
  have hs : SeqAt.shaped (.list (rows.map fun r => PyData.tuple [.str r.1, .str r.2])) = true := by
    unfold SeqAt.shaped
    rw [sh, PyData.depth]
    have := depth_tups rows
    simp; omega
  refine eq_dataH (.list ga ca da (tups_reads sa)) (.list gb cb db (tups_reads sb)) hs hs hu ?_
  rw [SeqAt.eqv_refl _ sh]; exact h
end
end

section
/-- the places of T whose key is k -/
noncomputable def page (key : Nat → Int) (T : List Nat) (k : Int) : List Nat := T.filter fun j => key j == k
noncomputable def PageAt (h : Heap) (l : Addr) (v : Value) (ns : List Nat) : Prop := ∃ a xs, v = .ref a ∧ a ≠ l ∧ h.IsList a (Array.mk xs) ∧ IntsAre xs (ns.map Int.ofNat)
theorem PageAt.keeps {h h' : Heap} {l : Addr} {v : Value} {ns : List Nat} (x : PageAt h l v ns) (hk : ∀ b o, b ≠ l → h.get? b = some o → h'.get? b = some o) : PageAt h' l v ns := by
  obtain ⟨a, xs, rfl, ha, hl, hi⟩ := x
  exact ⟨a, xs, rfl, ha, hl.at fun o e => hk a o ha e, hi⟩
structure Book (prog : Program) (w : World) (h : Heap) (l bk : Addr) (key : Nat → Int) (T : List Nat) (kvs : List (Int × Value)) : Prop where
  d : h.DictOf (intKind prog w) bk kvs
  p : ∀ kv ∈ kvs, PageAt h l kv.2 (page key T kv.1)
  c : ∀ j ∈ T, ∃ kv ∈ kvs, kv.1 = key j
theorem Book.get {prog : Program} {w : World} {h : Heap} {l bk : Addr} {key : Nat → Int} {T : List Nat} {kvs : List (Int × Value)} (B : Book prog w h l bk key T kvs) {k : Int} {d : Value} (hd : PageAt h l d []) : PageAt h l ((valueAt kvs k).getD d) (page key T k) := by
  unfold valueAt
  cases e : kvs.find? (fun kv => kv.1 = k) with
  | some kv =>
    have h1 := List.mem_of_find?_eq_some e
    have h2 := List.find?_some e
    simp only [decide_eq_true_eq] at h2
    have := B.p kv h1
    rw [h2] at this
    exact this
  | none =>
    have : page key T k = [] := by
      unfold page
      rw [List.filter_eq_nil_iff]
      intro j hj hq
      obtain ⟨kv, hkv, hk⟩ := B.c j hj
      have := List.find?_eq_none.mp e kv hkv
      simp only [decide_eq_true_eq] at this
      exact this (hk.trans (by simpa using hq))
    rw [this]
    exact hd
theorem Book.set {prog : Program} {w : World} {h h' : Heap} {l bk : Addr} {key : Nat → Int} {T T' : List Nat} {kvs : List (Int × Value)} (B : Book prog w h l bk key T kvs) {k : Int} {v : Value}
    (hd : h'.DictOf (intKind prog w) bk (stored kvs k v)) (hp : ∀ v ns, PageAt h l v ns → PageAt h' l v ns) (hv : PageAt h' l v (page key T' k)) (ho : ∀ k', k' ≠ k → page key T' k' = page key T k') (hT : ∀ j ∈ T', key j = k ∨ j ∈ T) :
    Book prog w h' l bk key T' (stored kvs k v) := by
  refine ⟨hd, ?_, ?_⟩
  · intro kv hkv
    unfold stored at hkv
    split at hkv
    · obtain ⟨kv', hm, rfl⟩ := List.mem_map.mp hkv
      split
      · rename_i q; dsimp only; rw [q]; exact hv
      · rename_i q; rw [ho _ q]; exact hp _ _ (B.p _ hm)
    · rename_i hany
      rcases List.mem_append.mp hkv with hm | hm
      · have q : kv.1 ≠ k := fun q => hany (List.any_eq_true.mpr ⟨kv, hm, by simpa using q⟩)
        rw [ho _ q]; exact hp _ _ (B.p _ hm)
      · rcases List.mem_singleton.mp hm with rfl
        exact hv
  · intro j hj
    have have_k : ∃ kv ∈ stored kvs k v, kv.1 = k := by
      unfold stored
      split
      · rename_i hany
        obtain ⟨kv, hm, q⟩ := List.any_eq_true.mp hany
        simp only [decide_eq_true_eq] at q
        exact ⟨_, List.mem_map_of_mem hm, by simp [q]⟩
      · exact ⟨(k, v), by simp, rfl⟩
    rcases hT j hj with q | q
    · rw [q]; exact have_k
    · by_cases e : key j = k
      · rw [e]; exact have_k
      · obtain ⟨kv, hm, hk⟩ := B.c j q
        refine ⟨kv, ?_, hk⟩
        unfold stored
        split
        · exact List.mem_map.mpr ⟨kv, hm, by rw [if_neg (by rw [hk]; exact e)]⟩
        · exact List.mem_append_left _ hm
end

section
/-- how a way changes the standing places -/
noncomputable def stepT (key : Nat → Int) (way : Int) (T : List Nat) (i : Nat) : List Nat :=
  if way = 0 then (T.filter fun j => !(key j == key i)) ++ [i]
  else if way = 1 then T ++ [i]
  else if way = 2 then (if page key T (key i) = [] then T ++ [i] else T)
  else T.filter fun j => !(key j == key i)
theorem page_append (key : Nat → Int) (T U : List Nat) (k : Int) : page key (T ++ U) k = page key T k ++ page key U k := by simp [page]
theorem page_cut_self (key : Nat → Int) (T : List Nat) (k : Int) : page key (T.filter fun j => !(key j == k)) k = [] := by
  unfold page
  rw [List.filter_filter, List.filter_eq_nil_iff]
  intro j _ h
  simp at h
theorem page_cut_other (key : Nat → Int) (T : List Nat) {k k' : Int} (h : k' ≠ k) : page key (T.filter fun j => !(key j == k)) k' = page key T k' := by
  unfold page
  rw [List.filter_filter]
  refine List.filter_congr fun j _ => ?_
  by_cases e : key j = k'
  · simp [e, h]
  · simp [e]
theorem page_one_self (key : Nat → Int) (i : Nat) : page key [i] (key i) = [i] := by simp [page]
theorem page_one_other (key : Nat → Int) (i : Nat) {k' : Int} (h : k' ≠ key i) : page key [i] k' = [] := by
  unfold page
  simp [Ne.symm h]
end

section
noncomputable def rowF (nm : Nat → Str) (i : Nat) : Str × Str := (nm i, valueF i)
structure RunIn (h : Heap) (aw an ak : Addr) (N : Nat) (way key : Nat → Int) (nm : Nat → Str) : Prop where
  w : ∃ vs, h.IsList aw (Array.mk vs) ∧ IntsAre vs ((List.range N).map way)
  n : ∃ vs, h.IsList an (Array.mk vs) ∧ StrsAre vs ((List.range N).map nm)
  k : ∃ vs, h.IsList ak (Array.mk vs) ∧ IntsAre vs ((List.range N).map key)
  z : N ≤ 16
  ok : ∀ i, i < N → NameOk (nm i)
  same : ∀ i j, i < N → j < N → (lowF (nm i) = lowF (nm j) ↔ key i = key j)
/-- what stands at the loop's turn -/
structure RunP (prog : Program) (w : World) (h : Heap) (l bk : Addr) (key : Nat → Int) (nm : Nat → Str) (i : Nat) (T : List Nat) (vs : List Value) (kvs : List (Int × Value)) : Prop where
  pl : h.PlainList l vs.toArray
  t : TupsAre h vs (T.map (rowF nm))
  b : Book prog w h l bk key T kvs
  lt : ∀ j ∈ T, j < i
  up : T.Pairwise (· < ·)
  z : kvs.length ≤ i
theorem TupsAre.via {h h' : Heap} (hk : ∀ b o items n, o.data = .seq items n → h.get? b = some o → h'.get? b = some o) : ∀ {vs : List Value} {rows : List (Str × Str)}, TupsAre h vs rows → TupsAre h' vs rows
  | _, _, .nil => .nil
  | _, _, .cons (t := t) (u := u) x r => by
    refine TupsAre.cons (t := t) (u := u) ?_ (TupsAre.via hk r)
    obtain ⟨o, ho, hc, n, hd⟩ := x
    exact ⟨o, hk _ _ _ _ hd ho, hc, n, hd⟩
theorem RunP.via {prog : Program} {w : World} {h h' : Heap} {l bk : Addr} {key : Nat → Int} {nm : Nat → Str} {i : Nat} {T : List Nat} {vs : List Value} {kvs : List (Int × Value)} (x : RunP prog w h l bk key nm i T vs kvs)
    (hk : ∀ b o items n, o.data = .seq items n → h.get? b = some o → h'.get? b = some o) (hb : ∀ o, h.get? bk = some o → h'.get? bk = some o) : RunP prog w h' l bk key nm i T vs kvs := by
  obtain ⟨⟨n, hl⟩, t, ⟨d, p, c⟩, lt, up, z⟩ := x
  refine ⟨⟨n, hk _ _ _ _ rfl hl⟩, t.via hk, ⟨?_, ?_, c⟩, lt, up, z⟩
  · obtain ⟨o, es, ep, ho, r⟩ := d
    exact ⟨o, es, ep, hb _ ho, r⟩
  · intro kv hkv
    obtain ⟨a, xs, e, ha, ⟨o, ho, hc, n, hd⟩, hi⟩ := p kv hkv
    exact ⟨a, xs, e, ha, ⟨o, hk _ _ _ _ hd ho, hc, n, hd⟩, hi⟩
end

section
theorem RunIn.eq {h : Heap} {aw an ak : Addr} {N : Nat} {way key : Nat → Int} {nm : Nat → Str} (I : RunIn h aw an ak N way key nm) {i j : Nat} (hi : i < N) (hj : j < N) : (lowF (nm j) == lowF (nm i)) = (key j == key i) := by
  have := I.same j i hj hi
  by_cases e : key j = key i
  · rw [this.mpr e, e]; simp
  · have e' : ¬ lowF (nm j) = lowF (nm i) := fun q => e (this.mp q)
    rw [beq_eq_false_iff_ne.mpr e, beq_eq_false_iff_ne.mpr e']
theorem rows_same {h : Heap} {aw an ak : Addr} {N : Nat} {way key : Nat → Int} {nm : Nat → Str} (I : RunIn h aw an ak N way key nm) {i : Nat} (hi : i < N) {T : List Nat} (hT : ∀ j ∈ T, j < i) :
    (T.map (rowF nm)).filter (fun r => lowF r.1 == lowF (nm i)) = (page key T (key i)).map (rowF nm) := by
  rw [List.filter_map]
  unfold page
  congr 1
  refine List.filter_congr fun j hj => ?_
  exact I.eq hi (Nat.lt_trans (hT j hj) hi)
theorem rows_other {h : Heap} {aw an ak : Addr} {N : Nat} {way key : Nat → Int} {nm : Nat → Str} (I : RunIn h aw an ak N way key nm) {i : Nat} (hi : i < N) {T : List Nat} (hT : ∀ j ∈ T, j < i) :
    (T.map (rowF nm)).filter (fun r => !(lowF r.1 == lowF (nm i))) = (T.filter fun j => !(key j == key i)).map (rowF nm) := by
  rw [List.filter_map]
  congr 1
  refine List.filter_congr fun j hj => ?_
  show (!(lowF (nm j) == lowF (nm i))) = _
  rw [I.eq hi (Nat.lt_trans (hT j hj) hi)]
theorem rows_find {h : Heap} {aw an ak : Addr} {N : Nat} {way key : Nat → Int} {nm : Nat → Str} (I : RunIn h aw an ak N way key nm) {i : Nat} (hi : i < N) {T : List Nat} (hT : ∀ j ∈ T, j < i) :
    (T.map (rowF nm)).find? (fun r => lowF r.1 == lowF (nm i)) = (page key T (key i)).head?.map (rowF nm) := by
  rw [← List.head?_filter, rows_same I hi hT, List.head?_map]
/-- what a step leaves of the pages -/
theorem stepT_self (key : Nat → Int) (way : Int) (T : List Nat) (i : Nat) : page key (stepT key way T i) (key i) =
    if way = 0 then [i] else if way = 1 then page key T (key i) ++ [i] else if way = 2 then (if page key T (key i) = [] then [i] else page key T (key i)) else [] := by
  unfold stepT
  split
  · rw [page_append, page_cut_self, page_one_self]; rfl
  split
  · rw [page_append, page_one_self]
  split
  · split
    · rename_i e; rw [page_append, page_one_self, e]; rfl
    · rfl
  · rw [page_cut_self]
theorem stepT_other (key : Nat → Int) (way : Int) (T : List Nat) (i : Nat) {k : Int} (h : k ≠ key i) : page key (stepT key way T i) k = page key T k := by
  unfold stepT
  split
  · rw [page_append, page_cut_other key T h, page_one_other key i h, List.append_nil]
  split
  · rw [page_append, page_one_other key i h, List.append_nil]
  split
  · split
    · rw [page_append, page_one_other key i h, List.append_nil]
    · rfl
  · rw [page_cut_other key T h]
theorem stepT_mem (key : Nat → Int) (way : Int) (T : List Nat) (i : Nat) : ∀ j ∈ stepT key way T i, j = i ∨ j ∈ T := by
  intro j hj
  unfold stepT at hj
  split at hj
  · rcases List.mem_append.mp hj with h | h
    · exact .inr (List.mem_filter.mp h).1
    · exact .inl (List.mem_singleton.mp h)
  split at hj
  · rcases List.mem_append.mp hj with h | h
    · exact .inr h
    · exact .inl (List.mem_singleton.mp h)
  split at hj
  · split at hj
    · rcases List.mem_append.mp hj with h | h
      · exact .inr h
      · exact .inl (List.mem_singleton.mp h)
    · exact .inr hj
  · exact .inr (List.mem_filter.mp hj).1
theorem up_snoc {T : List Nat} {i : Nat} (hup : T.Pairwise (· < ·)) (hlt : ∀ j ∈ T, j < i) : (T ++ [i]).Pairwise (· < ·) := by
  rw [List.pairwise_append]
  exact ⟨hup, List.pairwise_singleton _ _, fun a ha b hb => by rw [List.mem_singleton.mp hb]; exact hlt a ha⟩
theorem stepT_up (key : Nat → Int) (way : Int) {T : List Nat} {i : Nat} (hup : T.Pairwise (· < ·)) (hlt : ∀ j ∈ T, j < i) : (stepT key way T i).Pairwise (· < ·) := by
  have hf : (T.filter fun j => !(key j == key i)).Pairwise (· < ·) := hup.filter _
  unfold stepT
  split
  · exact up_snoc hf fun j hj => hlt j (List.mem_filter.mp hj).1
  split
  · exact up_snoc hup hlt
  split
  · split
    · exact up_snoc hup hlt
    · exact hup
  · exact hf
theorem stored_length (kvs : List (Int × Value)) (k : Int) (v : Value) : (stored kvs k v).length ≤ kvs.length + 1 := by
  unfold stored
  split
  · simp
  · simp
theorem RunP.keeps {prog : Program} {w : World} {h h' : Heap} {l bk : Addr} {key : Nat → Int} {nm : Nat → Str} {i : Nat} {T : List Nat} {vs : List Value} {kvs : List (Int × Value)} (x : RunP prog w h l bk key nm i T vs kvs)
    (hk : ∀ b o, h.get? b = some o → h'.get? b = some o) : RunP prog w h' l bk key nm i T vs kvs := x.via (fun b o _ _ _ e => hk b o e) fun o e => hk _ o e
theorem PageAt.keep {h h' : Heap} {l : Addr} {v : Value} {ns : List Nat} (x : PageAt h l v ns) (hk : ∀ b o, h.get? b = some o → h'.get? b = some o) : PageAt h' l v ns := x.keeps fun b o _ e => hk b o e
theorem Book.mut {prog : Program} {w : World} {h h' : Heap} {l bk : Addr} {key : Nat → Int} {T : List Nat} {kvs : List (Int × Value)} (B : Book prog w h l bk key T kvs) (hb : bk ≠ l) (hk : ∀ b o, b ≠ l → h.get? b = some o → h'.get? b = some o) : Book prog w h' l bk key T kvs := by
  obtain ⟨⟨o, es, ep, ho, r⟩, p, c⟩ := B
  exact ⟨⟨o, es, ep, hk _ _ hb ho, r⟩, fun kv hkv => (p kv hkv).keeps hk, c⟩
theorem dict_ne {prog : Program} {w : World} {h : Heap} {bk b : Addr} {kvs : List (Int × Value)} {o : Obj} {items : Array Value} {n : Nat} (d : h.DictOf (intKind prog w) bk kvs) (ho : h.get? b = some o) (hd : o.data = .seq items n) : b ≠ bk := by
  rintro rfl
  obtain ⟨o', es, ep, ho', _, hd', _⟩ := d
  rw [ho] at ho'; cases ho'; rw [hd] at hd'; cases hd'
/-- the turn's end: the table is turned, the book's page is laid -/
theorem run_fin {prog : Program} {w : World} {h h' : Heap} {l bk : Addr} {key : Nat → Int} {nm : Nat → Str} {i : Nat} {T : List Nat} {vs : List Value} {kvs : List (Int × Value)} {way : Int} {v : Value}
    (hp : h.PlainList l (Array.mk vs)) (ht : TupsAre h vs ((stepT key way T i).map (rowF nm))) (B : Book prog w h l bk key T kvs) (hv : PageAt h l v (page key (stepT key way T i) (key i)))
    (lt : ∀ j ∈ T, j < i) (up : T.Pairwise (· < ·)) (z : kvs.length ≤ i)
    (hd : h'.DictOf (intKind prog w) bk (stored kvs (key i) v)) (hs : Heap.SameBut bk h h') : RunP prog w h' l bk key nm (i + 1) (stepT key way T i) vs (stored kvs (key i) v) := by
  have hk : ∀ b o items n, o.data = .seq items n → h.get? b = some o → h'.get? b = some o := fun b o items n hd ho => hs.extBut b o (dict_ne B.d ho hd) ho
  obtain ⟨n, hl⟩ := hp
  have hpg : ∀ v ns, PageAt h l v ns → PageAt h' l v ns := by
    rintro v ns ⟨a, xs, e, ha, ⟨o, ho, hc, n, hd⟩, hi⟩
    exact ⟨a, xs, e, ha, ⟨o, hk _ _ _ _ hd ho, hc, n, hd⟩, hi⟩
  refine ⟨⟨n, hk _ _ _ _ rfl hl⟩, ht.via hk, B.set hd hpg (hpg _ _ hv) (fun k' hk' => stepT_other key way T i hk') ?_, ?_, stepT_up key way up lt, ?_⟩
  · intro j hj
    rcases stepT_mem key way T i j hj with rfl | h
    · exact .inl rfl
    · exact .inr h
  · intro j hj
    rcases stepT_mem key way T i j hj with rfl | h
    · exact Nat.lt_succ_self _
    · exact Nat.lt_succ_of_lt (lt j h)
  · exact Nat.le_trans (stored_length ..) (Nat.succ_le_succ z)
theorem HTab.hid {h : Heap} {tb dx l : Addr} {items : Array Value} (x : HTab h tb dx l) (hp : h.PlainList l items) : HTab (h.hide l) tb dx l :=
  x.mut hp fun b o hb e => (Heap.hide_ne h hb).trans e
end

section
theorem ints_get : ∀ {vs : List Value} {ns : List Int}, IntsAre vs ns → ∀ {j : Nat} {k : Int}, ns[j]? = some k → ∃ t, vs[j]? = some (.int k t)
  | _, _, .cons n t h, 0, k, e => by cases e; exact ⟨t, rfl⟩
  | _, _, .cons _ _ h, j + 1, k, e => by simpa using ints_get h (by simpa using e)
  | _, _, .nil, j, k, e => by simp at e
theorem PageAt.via {h h' : Heap} {l : Addr} {v : Value} {ns : List Nat} (x : PageAt h l v ns) (hk : ∀ b o items n, o.data = .seq items n → h.get? b = some o → h'.get? b = some o) : PageAt h' l v ns := by
  obtain ⟨a, xs, e, ha, ⟨o, ho, hc, n, hd⟩, hi⟩ := x
  exact ⟨a, xs, e, ha, ⟨o, hk _ _ _ _ hd ho, hc, n, hd⟩, hi⟩
theorem seq_ne {h : Heap} {L b : Addr} {m : Str → Option Value} {o : Obj} {items : Array Value} {n : Nat} (x : h.Ns L m) (ho : h.get? b = some o) (hd : o.data = .seq items n) : b ≠ L := by
  rintro rfl
  obtain ⟨o', es, ep, ho', hd', _⟩ := x
  rw [ho] at ho'; cases ho'; rw [hd] at hd'; cases hd'
theorem reads_ints {h : Heap} : ∀ {vs : List Value} {ns : List Int}, IntsAre vs ns → ReadsAll h vs (ns.map PyData.int) []
  | _, _, .nil => .nil
  | _, _, .cons n t r => ReadsAll.cons (as := []) (bs := []) (.int n t) (reads_ints r)
theorem lay_ints : ∀ ns : List Int, PyData.canLayAll0 (ns.map PyData.int) = true
  | [] => by simp [PyData.canLayAll0]
  | n :: r => by simp [PyData.canLayAll0, PyData.canLay0, lay_ints r]
theorem depth_ints : ∀ ns : List Int, PyData.depthAll (ns.map PyData.int) = 0
  | [] => by simp [PyData.depthAll]
  | x :: r => by simp [PyData.depthAll, PyData.depth, depth_ints r]
section
variable {prog : Program} {w : World} {A : Around} {E : Value → Shared → Prop} {s : Shared} {n : Nat}
theorem item_at {value slice : PySem.Expr} {a : Addr} {vs : List Value} {k : Nat} {u : Tok} {x : Value} {Q : Value → Shared → Prop} (hl : s.heap.IsList a (Array.mk vs)) (hk : k < 1000) (hx : vs[k]? = some x) (h : Q x s)
    (hs : subscripted slice false (.ref a) (.int (k : Nat) u) = operate [.ref a, .int (k : Nat) u] (getItem (.ref a) (.int (k : Nat) u)) := by with_unfolding_all rfl) :
    wpAny (model prog w) A (subscriptTail value slice (.ref a) (.int (k : Nat) u)) Q E s :=
  tail_any hl.typeIs slot_list_getitem.lookup (wpAny_getItem_list hl (by omega) (by omega) (by simpa using hx) h) hs
/-- a list of ints is not the empty one -/
theorem ne_empty {a b : Addr} {va : List Value} {ns : List Int} {Q : Value → Shared → Prop} (ha : s.heap.IsList a (Array.mk va)) (hb : s.heap.IsList b #[]) (ia : IntsAre va ns) (hu : A.units + 64 < cLine)
    (h : Q (.bool (!ns.isEmpty)) s) : wpAny (model prog w) A (compareOp .NotEq (.ref a) (.ref b)) Q E s := by
  obtain ⟨oa, ga, ca, na, da⟩ := ha
  obtain ⟨ob, gb, cb, nb, db⟩ := hb
  have hs : ∀ ns : List Int, SeqAt.shaped (.list (ns.map PyData.int)) = true := fun ns => by
    unfold SeqAt.shaped
    rw [PyData.canLay0, lay_ints, PyData.depth, depth_ints]; rfl
  refine ne_dataH (.list ga ca da (reads_ints ia)) (.list (xs := []) gb cb db .nil) (hs ns) (hs []) hu ?_
  have e : PyData.eqv (.list (ns.map PyData.int)) (.list []) = ns.isEmpty := by cases ns <;> simp [PyData.eqv, PyData.eqvAll]
  rw [e]; exact h
theorem val_eval {env : Env} {e : PySem.Expr} {p pos : Pos} {c : Nat} (G : Gd w s.heap) (R : Rm (n + 1) A) (hc : c < 1000) (h : wpAny (model prog w) A (eval e env) (fun v s₁ => (∃ t, v = .int (c : Nat) t) ∧ Keeps s s₁) E s)
    (hg : env.globals = mainGlobals := by rfl) (hk : env.scope.kind = .function := by rfl) (hx : env.kindOf (Str.ofString "_law_value") = some .globalImplicit := by rfl)
    (he : eval (.Call (.Name (Str.ofString "_law_value") p) [e] [] pos) env = (do callWith pos (← eval (.Name (Str.ofString "_law_value") p) env) [] (backTo pos (starEach [e] env)) (backToKw pos (keywordEach [] env))) := by rfl)
    (he' : starEach [e] env = (false, eval e env) :: starEach [] env := by rfl) :
    wpAny (model prog w) A (eval (.Call (.Name (Str.ofString "_law_value") p) [e] [] pos) env) (fun v s' => (∃ t, v = .str (valueF c) t) ∧ Keeps s s') E s := by
  walk_at "fill"
  refine Call_ ?_ he
  refine nmG (v := .ref 272) G (by k_is) ?_ hg hk hx
  refine callWith_K G.k (by k_is) ?_ he'
  refine spliced_more ?_ he'
  refine wpAny_mono h (fun v s₁ h₁ => ?_) fun _ _ e => e
  obtain ⟨⟨t, rfl⟩, K₁⟩ := h₁
  obtain ⟨h₁, tk₁, rfl, hk₁⟩ := id K₁
  refine spliced_none ⟨G.k.keeps hk₁, ?_⟩
  refine wpAny_mono (value_call (s := { s with heap := h₁, toks := tk₁ }) (G.keeps hk₁) R c t (by omega) (by omega)) (fun v s₂ h₂ => ?_) fun _ _ e => e
  exact ⟨h₂.2, Keeps.trans K₁ h₂.1⟩
/-- a local is stored -/
theorem st_set {env : Env} {h₀ : Heap} {L l bk : Addr} {m : Str → Option Value} {cs : List (Addr × Obj)} {key : Nat → Int} {nm : Nat → Str} {i : Nat} {T : List Nat} {vs : List Value} {kvs : List (Int × Value)} {x : Str} {v : Value} {Q : Unit → Shared → Prop}
    (hL : env.locals = L) (hx : env.kindOf x = some .local) (hp : (env.scope.kind == .class || (env.scope.kind == .module && env.locals != env.globals)) = false)
    (F : Fr h₀ L s.heap m) (N : News h₀ L s.heap cs) (RP : RunP prog w s.heap l bk key nm i T vs kvs) (hb : bk ≠ L)
    (h : ∀ h' tk', Fr h₀ L h' (fun y => if y = x then some v else m y) → News h₀ L h' cs → RunP prog w h' l bk key nm i T vs kvs → (∀ b o, b ≠ L → s.heap.get? b = some o → h'.get? b = some o) → Q () { s with heap := h', toks := tk' }) :
    wpAny (model prog w) A (storeName env x v) Q E s := by
  refine wpAny_storeName_local hx (by rw [hL]; exact F.ns) (fun h₂ hn₂ hs₂ => ?_) hp
  rw [hL] at hn₂ hs₂
  have hk : ∀ b o, b ≠ L → s.heap.get? b = some o → h₂.get? b = some o := fun b o hb e => hs₂.extBut b o hb e
  exact h h₂ _ (F.set hn₂ hs₂) (N.set hs₂) (RP.via (fun b o items n hd ho => hk b o (seq_ne F.ns ho hd) ho) fun o e => hk _ o hb e) hk
end
theorem up_len : ∀ {T : List Nat} {i a : Nat}, T.Pairwise (· < ·) → (∀ j ∈ T, j < i) → (∀ j ∈ T, a ≤ j) → T.length ≤ i - a
  | [], _, _, _, _, _ => Nat.zero_le _
  | j :: T, i, a, hp, hl, hg => by
    obtain ⟨h1, h2⟩ := List.pairwise_cons.mp hp
    have := up_len (a := j + 1) h2 (fun k hk => hl k (.tail _ hk)) fun k hk => h1 k hk
    have h3 := hl j (.head _)
    have h4 := hg j (.head _)
    simp only [List.length_cons]
    omega
theorem val_ok {i : Nat} (hi : i < 16) : ValOk (valueF i) := by
  have : ∀ i : Fin 16, (∀ c ∈ (valueF (i.val : Nat)).cps.toList, 31 < c ∧ c < 127) ∧ (valueF (i.val : Nat)).length ≤ 1000 := by decide +kernel
  exact this ⟨i, hi⟩
theorem RunP.len {prog : Program} {w : World} {h : Heap} {l bk : Addr} {key : Nat → Int} {nm : Nat → Str} {i : Nat} {T : List Nat} {vs : List Value} {kvs : List (Int × Value)} (x : RunP prog w h l bk key nm i T vs kvs) : vs.length ≤ i := by
  have h1 := x.t.length
  have h2 := up_len (a := 0) x.up x.lt fun _ _ => Nat.zero_le _
  simp only [List.length_map] at h1
  omega
noncomputable def ValRel (v y : Value) : Prop := ∃ (k : Nat) (t t' : Tok), v = .int (k : Nat) t ∧ y = .str (valueF k) t'
theorem val_strs {vs ys : List Value} (hp : Paired ValRel vs ys) : ∀ {ns : List Nat}, IntsAre vs (ns.map Int.ofNat) → StrsAre ys (ns.map fun (j : Nat) => valueF (j : Int)) := by
  induction hp with
  | nil => intro ns h; cases ns with | nil => exact .nil | cons _ _ => cases h
  | cons hx _ ih =>
    intro ns h
    cases ns with
    | nil => cases h
    | cons j ns =>
      cases h with
      | cons _ _ h =>
        obtain ⟨k, t, t', e, rfl⟩ := hx
        cases e
        exact .cons _ _ (ih h)
theorem page_at {vs : List Value} {ns : List Nat} (h : IntsAre vs (ns.map Int.ofNat)) {v : Value} (hv : v ∈ vs) : ∃ (j : Nat) (t : Tok), j ∈ ns ∧ v = .int (j : Nat) t := by
  obtain ⟨i, hi, e⟩ := List.getElem_of_mem hv
  obtain ⟨k, t, rfl, hk⟩ := IntsAre.at h i v (by rw [List.getElem?_eq_getElem hi, e])
  have := List.mem_of_getElem? hk
  obtain ⟨j, hj, rfl⟩ := List.mem_map.mp this
  exact ⟨j, t, hj, rfl⟩
noncomputable def EqPair (v v' : Value) : Prop := (∃ k t t', v = .int k t ∧ v' = .int k t') ∨ (∃ x t t', v = .str x t ∧ v' = .str x t')
theorem ne_pair {prog : Program} {w : World} {A : Around} {E : Value → Shared → Prop} {s : Shared} {v v' : Value} {Q : Value → Shared → Prop} (hv : EqPair v v') (h : Q (.bool false) s) : wpAny (model prog w) A (compareOp .NotEq v v') Q E s := by
  rcases hv with ⟨k, t, t', rfl, rfl⟩ | ⟨x, t, t', rfl, rfl⟩
  · refine PyProof.Rows.ne_int ?_
    have : (k != k) = false := by simp
    rw [this]; exact h
  · refine PyProof.Rows.ne_str ?_
    have : (x != x) = false := by simp
    rw [this]; exact h
theorem fr_mut {g h h' : Heap} {L l : Addr} {m : Str → Option Value} (F : Fr (g.hide l) L h m) (hL : L ≠ l) (hk : ∀ b o, b ≠ l → h.get? b = some o → h'.get? b = some o) : Fr (g.hide l) L h' m := by
  obtain ⟨oL, es, ep, ho, r⟩ := F.ns
  refine ⟨⟨oL, es, ep, hk _ _ hL ho, r⟩, fun b o e => hk b o (fun q => ?_) (F.keep b o e), F.above⟩
  rw [q, Heap.hide_self] at e; cases e
theorem news_mut {g h h' : Heap} {L l : Addr} {cs : List (Addr × Obj)} (N : News g L h cs) (hc : ∀ p ∈ cs, p.1 ≠ l) (hk : ∀ b o, b ≠ l → h.get? b = some o → h'.get? b = some o) : News g L h' cs :=
  fun p hp => ⟨hk _ _ (hc p hp) (N p hp).1, (N p hp).2⟩
theorem hid_keep {g h : Heap} {l : Addr} (hk : ∀ b o, (g.hide l).get? b = some o → h.get? b = some o) : ∀ b o, (g.hide l).get? b = some o → (h.hide l).get? b = some o := by
  intro b o e
  have q : b ≠ l := by intro q; rw [q, Heap.hide_self] at e; cases e
  exact (Heap.hide_ne h q).trans (hk b o e)
/-- all that a turn keeps, and what may be told of it -/
structure Turn (prog : Program) (w : World) (g : Heap) (L l bk : Addr) (cs : List (Addr × Obj)) (key : Nat → Int) (T : List Nat) (kvs : List (Int × Value)) (pa : Addr) (px : List Value) (m : Str → Option Value) (h : Heap) : Prop where
  F : Fr (g.hide l) L h m
  N : News (g.hide l) L h cs
  B : Book prog w h l bk key T kvs
  pg : h.IsList pa (Array.mk px)
theorem Turn.keeps {prog : Program} {w : World} {g h h' : Heap} {L l bk pa : Addr} {cs : List (Addr × Obj)} {key : Nat → Int} {T : List Nat} {kvs : List (Int × Value)} {px : List Value} {m : Str → Option Value} (x : Turn prog w g L l bk cs key T kvs pa px m h)
    (hb : bk ≠ l) (hk : ∀ b o, h.get? b = some o → h'.get? b = some o) : Turn prog w g L l bk cs key T kvs pa px m h' :=
  ⟨x.F.keeps hk, x.N.grown hk, x.B.mut hb fun b o _ e => hk b o e, x.pg.at fun o e => hk _ o e⟩
theorem Turn.mut {prog : Program} {w : World} {g h h' : Heap} {L l bk pa : Addr} {cs : List (Addr × Obj)} {key : Nat → Int} {T : List Nat} {kvs : List (Int × Value)} {px : List Value} {m : Str → Option Value} (x : Turn prog w g L l bk cs key T kvs pa px m h)
    (hb : bk ≠ l) (hL : L ≠ l) (hc : ∀ p ∈ cs, p.1 ≠ l) (hp : pa ≠ l) (hk : ∀ b o, b ≠ l → h.get? b = some o → h'.get? b = some o) : Turn prog w g L l bk cs key T kvs pa px m h' :=
  ⟨fr_mut x.F hL hk, news_mut x.N hc hk, x.B.mut hb hk, x.pg.at fun o e => hk _ o hp e⟩
theorem book_set {prog : Program} {w : World} {A : Around} {E : Value → Shared → Prop} {s : Shared} {g : Heap} {L l bk pa : Addr} {cs : List (Addr × Obj)} {key : Nat → Int} {nm : Nat → Str} {i : Nat} {T : List Nat} {vs : List Value} {kvs : List (Int × Value)} {px : List Value} {m : Str → Option Value} {way : Int} {v : Value} {tq : Tok} {Q : Unit → Shared → Prop}
    (x : Turn prog w g L l bk cs key T kvs pa px m s.heap) (hp : s.heap.PlainList l (Array.mk vs)) (ht : TupsAre s.heap vs ((stepT key way T i).map (rowF nm))) (hv : PageAt s.heap l v (page key (stepT key way T i) (key i)))
    (lt : ∀ j ∈ T, j < i) (up : T.Pairwise (· < ·)) (z : kvs.length ≤ i) (hi : i ≤ 1000) (hbL : bk ≠ L) (hbn : (g.hide l).get? bk = none) (hcs : ∀ p ∈ cs, ∀ es ep, p.2.data ≠ .dict es ep)
    (hQ : ∀ h' tk', Fr (g.hide l) L h' m → News (g.hide l) L h' cs → (∃ TT vs kvs, RunP prog w h' l bk key nm (i + 1) TT vs kvs) → Q () { s with heap := h', toks := tk' }) :
    wpAny (model prog w) A (setItem (.ref bk) (.int (key i) tq) v) Q E s := by
  refine wpAny_setItem_pairs (intKind_is prog w (key i) tq) x.B.d (fun h' hd hs => ?_) (by simp only [sizeLine]; omega)
  refine hQ h' _ (x.F.change hs hbL hbn) (fun p hp => ⟨hs.extBut _ _ ?_ (x.N p hp).1, (x.N p hp).2⟩) ⟨_, vs, _, run_fin hp ht x.B hv lt up z hd hs⟩
  intro q
  obtain ⟨o', es, ep, ho', _, hd', _⟩ := x.B.d
  rw [← q, (x.N p hp).1] at ho'
  cases ho'
  exact hcs p hp es ep hd'
theorem stepT_0 {key : Nat → Int} {way : Int} {T : List Nat} {i : Nat} (h : way = 0) : stepT key way T i = (T.filter fun j => !(key j == key i)) ++ [i] := by unfold stepT; rw [if_pos h]
theorem stepT_1 {key : Nat → Int} {way : Int} {T : List Nat} {i : Nat} (h : way = 1) : stepT key way T i = T ++ [i] := by unfold stepT; rw [if_neg (by omega), if_pos h]
theorem stepT_2 {key : Nat → Int} {way : Int} {T : List Nat} {i : Nat} (h : way = 2) : stepT key way T i = if page key T (key i) = [] then T ++ [i] else T := by unfold stepT; rw [if_neg (by omega), if_neg (by omega), if_pos h]
theorem stepT_3 {key : Nat → Int} {way : Int} {T : List Nat} {i : Nat} (h0 : way ≠ 0) (h1 : way ≠ 1) (h2 : way ≠ 2) : stepT key way T i = T.filter fun j => !(key j == key i) := by unfold stepT; rw [if_neg h0, if_neg h1, if_neg h2]
section
variable {prog : Program} {w : World} {A : Around} {E : Value → Shared → Prop} {s : Shared}
/-- two lists added -/
theorem add_two {l b : Addr} {vs ws : List Value} {Q : Value → Shared → Prop} (hl : s.heap.IsList l (Array.mk vs)) (hb : s.heap.IsList b (Array.mk ws)) (hsz : vs.length + ws.length ≤ 1000)
    (h : ∀ h' D, (∀ b o, s.heap.get? b = some o → h'.get? b = some o) → s.heap.get? D = none → h'.IsList D (Array.mk (vs ++ ws)) → Q (.ref D) { s with heap := h' }) :
    wpAny (model prog w) A (binaryOp .Add (.ref l) (.ref b)) Q E s := by
  obtain ⟨⟨c1, d1, dt1, s1⟩, g1, q1, n1, r1⟩ := id hl
  obtain ⟨⟨c2, d2, dt2, s2⟩, g2, q2, n2, r2⟩ := id hb
  simp only at q1 r1 q2 r2
  subst q1 r1 q2 r2
  refine concat_meets ⟨_, g1, rfl⟩ ⟨_, g2, rfl⟩ noFill_list_add seq_list_add PySem.F.slot_list_add PySem.F.entry_list_add (PySem.F.args_list_add_2 _ _) (list_addW l b (Array.mk vs) (Array.mk ws) n1 n2 d1 d2 s1 s2 (by simp only [List.size_toArray, sizeLine]; omega)) ⟨g1, g2, ?_⟩
  refine h _ _ (fun b o e => Heap.get?_push_of_some _ e) ?_ ⟨_, Heap.get?_push_size _ rfl, rfl, 0, ?_⟩
  · cases e : s.heap.get? s.heap.objs.size with
    | none => rfl
    | some o => exact absurd (Heap.lt_size e) (Nat.lt_irrefl _)
  · simp
/-- a list of one name -/
theorem one_list {env : Env} {x : Str} {px pos : Pos} {v : Value} {m : Str → Option Value} {Q : Value → Shared → Prop} (hn : s.heap.Ns env.locals m) (hv : m x = some v)
    (h : ∀ h' D, (∀ b o, s.heap.get? b = some o → h'.get? b = some o) → s.heap.get? D = none → h'.IsList D (Array.mk [v]) → Q (.ref D) { s with heap := h' })
    (hk : env.scope.kind = .function := by rfl) (hx : env.kindOf x = some .local := by rfl) (hd : (x == ("__debug__" : Str)) = false := by decide) (he : starEach [.Name x px] env = (false, eval (.Name x px) env) :: starEach [] env := by rfl) :
    wpAny (model prog w) A (eval (.List [.Name x px] pos) env) Q E s := by
  refine List_ ?_
  refine spliced_more ?_ he
  refine nmV hn hv ?_ hk hx hd
  refine spliced_none ?_
  refine wpAny_newList ?_ (by simp only [List.length_singleton, sizeLine]; omega)
  refine h _ _ (fun b o e => Heap.get?_push_of_some _ e) ?_ ⟨_, Heap.get?_push_size _ rfl, rfl, 0, rfl⟩
  cases e : s.heap.get? s.heap.objs.size with
  | none => rfl
  | some o => exact absurd (Heap.lt_size e) (Nat.lt_irrefl _)
theorem no_list {env : Env} {pos : Pos} {Q : Value → Shared → Prop}
    (h : ∀ h' D, (∀ b o, s.heap.get? b = some o → h'.get? b = some o) → s.heap.get? D = none → h'.IsList D (Array.mk []) → Q (.ref D) { s with heap := h' }) :
    wpAny (model prog w) A (eval (.List [] pos) env) Q E s := by
  refine List_ ?_
  refine spliced_none ?_
  refine wpAny_newList ?_ (by decide)
  refine h _ _ (fun b o e => Heap.get?_push_of_some _ e) ?_ ⟨_, Heap.get?_push_size _ rfl, rfl, 0, rfl⟩
  cases e : s.heap.get? s.heap.objs.size with
  | none => rfl
  | some o => exact absurd (Heap.lt_size e) (Nat.lt_irrefl _)
end
/-- what setdefault leaves, in the turn's words -/
theorem setd_turn {h : Heap} {aw an ak : Addr} {N : Nat} {way key : Nat → Int} {nm : Nat → Str} (I : RunIn h aw an ak N way key nm) {i : Nat} (hi : i < N) {T : List Nat} (hT : ∀ j ∈ T, j < i) (h2 : way i = 2) {s : Shared} {l : Addr} {v : Value} {s' : Shared}
    (hq : setdQ s l (T.map (rowF nm)) (nm i) (valueF i) v s') :
    ∃ (k : Nat) (t : Tok), (if page key T (key i) = [] then [i] else page key T (key i)).head? = some k ∧ v = .str (valueF k) t ∧ Turned s l ((stepT key (way i) T i).map (rowF nm)) s' := by
  unfold setdQ at hq
  rw [rows_find I hi hT] at hq
  rw [stepT_2 h2]
  cases hp : page key T (key i) with
  | nil =>
    rw [hp] at hq
    simp only [List.head?_nil, Option.map_none] at hq
    obtain ⟨⟨t, rfl⟩, hT'⟩ := hq
    refine ⟨i, t, rfl, rfl, ?_⟩
    rw [if_pos rfl, List.map_append]
    exact hT'
  | cons j r =>
    rw [hp] at hq
    simp only [List.head?_cons, Option.map_some] at hq
    obtain ⟨⟨t, rfl⟩, hT'⟩ := hq
    refine ⟨j, t, ?_, rfl, ?_⟩
    · rw [if_neg (by simp)]; rfl
    · rw [if_neg (by simp)]; exact hT'
theorem pages_perm {key : Nat → Int} {T : List Nat} : ∀ ks : List Int, ks.Nodup → (ks.flatMap fun k => page key T k).Perm (T.filter fun j => decide (key j ∈ ks))
  | [], _ => by simp
  | k :: ks, h => by
    obtain ⟨h1, h2⟩ := List.nodup_cons.mp h
    have ih := pages_perm (key := key) (T := T) ks h2
    rw [List.flatMap_cons]
    refine (List.Perm.append_left _ ih).trans ?_
    have e := List.filter_append_perm (fun j => key j == k) (T.filter fun j => decide (key j ∈ k :: ks))
    refine List.Perm.trans ?_ e
    rw [List.filter_filter, List.filter_filter]
    have e1 : (T.filter fun j => (key j == k) && decide (key j ∈ k :: ks)) = page key T k := by
      unfold page
      refine List.filter_congr fun j _ => ?_
      by_cases q : key j = k
      · simp [q]
      · simp [q]
    have e2 : (T.filter fun j => (!(key j == k)) && decide (key j ∈ k :: ks)) = T.filter fun j => decide (key j ∈ ks) := by
      refine List.filter_congr fun j _ => ?_
      by_cases q : key j = k
      · simp [q, h1]
      · simp [q]
    rw [e1, e2]
theorem RunP.perm {prog : Program} {w : World} {h : Heap} {l bk : Addr} {key : Nat → Int} {nm : Nat → Str} {i : Nat} {T : List Nat} {vs : List Value} {kvs : List (Int × Value)} (x : RunP prog w h l bk key nm i T vs kvs) :
    (kvs.flatMap fun kv => page key T kv.1).Perm T := by
  have hn : (kvs.map (·.1)).Nodup := let ⟨_, _, _, _, _, _, _, _, hn⟩ := x.b.d; hn
  have := pages_perm (key := key) (T := T) _ hn
  rw [List.flatMap_map] at this
  refine this.trans ?_
  rw [List.filter_eq_self.mpr]
  intro j hj
  obtain ⟨kv, hm, e⟩ := x.b.c j hj
  simp only [decide_eq_true_eq]
  rw [← e]
  exact List.mem_map_of_mem hm
noncomputable def seqAt (h : Heap) : Value → Array Value
  | .ref a => match h.get? a with
    | some o => match o.data with
      | .seq items _ => items
      | _ => #[]
    | none => #[]
  | _ => #[]
theorem seqAt_list {h : Heap} {a : Addr} {items : Array Value} (hl : h.IsList a items) : seqAt h (.ref a) = items := by
  obtain ⟨o, ho, hc, n, hd⟩ := hl
  simp only [seqAt, ho, hd]
theorem flat_ints {h : Heap} {l : Addr} {key : Nat → Int} {T : List Nat} : ∀ {kvs : List (Int × Value)}, (∀ kv ∈ kvs, PageAt h l kv.2 (page key T kv.1)) → IntsAre (kvs.flatMap fun kv => (seqAt h kv.2).toList) ((kvs.flatMap fun kv => page key T kv.1).map Int.ofNat)
  | [], _ => .nil
  | kv :: kvs, hp => by
    obtain ⟨a, xs, e, _, hl, hi⟩ := hp kv (.head _)
    rw [List.flatMap_cons, List.flatMap_cons, List.map_append, e, seqAt_list hl]
    exact hi.append (flat_ints fun kv hkv => hp kv (.tail _ hkv))
theorem sorted_eq {T : List Nat} {ns : List Int} (hT : T.Pairwise (· < ·)) (hs : ns.Pairwise (· ≤ ·)) (hp : ns.Perm (T.map Int.ofNat)) : ns = T.map Int.ofNat := by
  refine List.Perm.eq_of_pairwise (le := (· ≤ ·)) (fun a b _ _ h1 h2 => Int.le_antisymm h1 h2) hs ?_ hp
  rw [List.pairwise_map]
  exact hT.imp fun h => by simp only [Int.ofNat_eq_natCast]; omega
noncomputable def RowRel (nm : Nat → Str) (h : Heap) (v y : Value) : Prop := ∃ (k : Nat) (t t' t'' : Tok) (a : Addr), v = .int (k : Nat) t ∧ y = .ref a ∧ IsTup h a #[.str (nm k) t', .str (valueF k) t'']
theorem valueAt_mem {kvs : List (Int × Value)} {k : Int} {v : Value} (hn : (kvs.map (·.1)).Nodup) (hm : (k, v) ∈ kvs) : valueAt kvs k = some v := by
  unfold valueAt
  induction kvs with
  | nil => cases hm
  | cons kv r ih =>
    simp only [List.map_cons, List.nodup_cons] at hn
    rcases List.mem_cons.mp hm with rfl | hm
    · simp
    · have : kv.1 ≠ k := fun q => hn.1 (q ▸ List.mem_map_of_mem (f := (·.1)) hm)
      rw [List.find?_cons]
      simp only [this, decide_false]
      exact ih hn.2 hm
noncomputable def RowG (nm : Nat → Str) (v : Value) (o : Obj) : Prop := ∃ (k : Nat) (t t' t'' : Tok), v = .int (k : Nat) t ∧ o.cls = .type "tuple" ∧ ∃ n, o.data = .seq #[.str (nm k) t', .str (valueF k) t''] n
theorem rows_tups {nm : Nat → Str} {h g : Heap} {D : Addr} {vs ys : List Value} (hp : Paired (fun v y => ∃ a o, y = .ref a ∧ g.get? a = none ∧ a ≠ D ∧ h.get? a = some o ∧ RowG nm v o) vs ys) : ∀ {T : List Nat}, IntsAre vs (T.map Int.ofNat) → TupsAre h ys (T.map (rowF nm)) := by
  induction hp with
  | nil => intro T h; cases T with | nil => exact .nil | cons _ _ => cases h
  | cons hx _ ih =>
    intro T h
    cases T with
    | nil => cases h
    | cons j T =>
      cases h with
      | cons _ _ h =>
        obtain ⟨a, o, rfl, _, _, ho, k, t, t', t'', ev, hc, n, hd⟩ := hx
        cases ev
        exact .cons ⟨o, ho, hc, n, hd⟩ (ih h)
end

section
section
variable {prog : Program} {w : World} {A : Around} {E : Value → Shared → Prop} {s : Shared} {n : Nat}
theorem run_call {l : Addr} (G : Gd w (s.heap.hide l)) (R : Rm (n + 12) A) {tb dx aw an ak : Addr} {Nn : Nat} {way key : Nat → Int} {nm : Nat → Str} (Tb : HTab s.heap tb dx l) (hp : s.heap.PlainList l #[]) (I : RunIn (s.heap.hide l) aw an ak Nn way key nm) :
    wpAny (model prog w) A (call (.ref 277) [.ref tb, .ref aw, .ref an, .ref ak]) (fun v s' => v = .bool true ∧ ∃ h' tk, s' = { s with heap := h', toks := tk } ∧ ∀ b o, b ≠ l → s.heap.get? b = some o → h'.get? b = some o) E s := by
  walk_at "fill"
  have G₀ : Gd w s.heap := G.keeps fun b o e => Heap.of_hide e
  have X : (Mine.hd.heap_39 w.params).In (s.heap.hide l) := G.k
  obtain ⟨mg, mb, T⟩ := G.t
  have hlow : l < s.heap.objs.size := let ⟨_, e⟩ := hp; Heap.lt_size e
  have Tb₀ : HTab (s.heap.hide l) tb dx l := Tb.hid hp
  refine enterC [(Str.ofString "table", .ref tb), (Str.ofString "ways", .ref aw), (Str.ofString "names", .ref an), (Str.ofString "keys", .ref ak)] G₀ R (by k_is) (by k_is) (BindsTo.of_eq rfl) rfl (by decide +kernel) rfl rfl rfl ?_
  intro L h₁ tk A' cells R' F₀ N₀ Y
  obtain ⟨oc, oc', hce, hoc, hoc'⟩ := CellsAre.two Y
  clear Y
  replace hoc : oc.data = .cell none := hoc
  replace hoc' : oc'.data = .cell (some (.ref an)) := hoc'
  have hlL : l < L := Nat.lt_of_lt_of_le hlow F₀.above
  have hLl : L ≠ l := Ne.symm (Nat.ne_of_lt (Nat.lt_of_lt_of_le hlow F₀.above))
  subst hce
  obtain ⟨nl, hp⟩ := hp
  have hp₁ := F₀.keep _ _ hp
  have F := fr_hide F₀ hLl (h' := h₁) fun b o _ e => e
  have N : News (s.heap.hide l) L h₁ [(L + 1 + 1, oc), (L + 1, oc'), (l, { cls := .type "list", data := .seq #[] nl })] := by
    intro p hp
    rcases List.mem_cons.mp hp with rfl | hp
    · have := N₀ (L + 1 + 1, oc) (.head _)
      refine ⟨this.1, this.2.1, ?_⟩
      cases e : (s.heap.hide l).get? (L + 1 + 1) with
      | none => rfl
      | some o => have q := Heap.of_hide e; rw [this.2.2] at q; cases q
    rcases List.mem_cons.mp hp with rfl | hp
    · have := N₀ (L + 1, oc') (.tail _ (.head _))
      refine ⟨this.1, this.2.1, ?_⟩
      cases e : (s.heap.hide l).get? (L + 1) with
      | none => rfl
      | some o => have q := Heap.of_hide e; rw [this.2.2] at q; cases q
    rcases List.mem_singleton.mp hp with rfl
    exact ⟨hp₁, Ne.symm hLl, Heap.hide_self ..⟩
  clear F₀ N₀ hp₁
  walk_at "wz"
  rename_i bk h₂ ob F₂ N₂ lo _ _ dI _ lows
  refine wpAny_storeName_cell (c := L + 1 + 1) (v₀ := none) rfl rfl rfl ⟨oc, (N₂ (L + 1 + 1, oc) (.tail _ (.head _))).1, hoc⟩ fun h₃ hc₃ hs₃ => ?_
  have hc2 := N₂ (L + 1 + 1, oc) (.tail _ (.head _))
  have F₃ := F₂.change hs₃ hc2.2.1 hc2.2.2
  obtain ⟨ob', hob', hod'⟩ := hc₃
  have N₃ : News (s.heap.hide l) L h₃ [(L + 1 + 1, ob'), (L + 1, oc')] := by
    intro p hp
    rcases List.mem_cons.mp hp with rfl | hp
    · exact ⟨hob', hc2.2⟩
    rcases List.mem_singleton.mp hp with rfl
    have := N₂ (L + 1, oc') (.tail _ (.tail _ (.head _)))
    exact ⟨hs₃.extBut _ _ (Nat.ne_of_lt (Nat.lt_succ_self _)) this.1, this.2⟩
  have hl₃ : h₃.PlainList l #[] := ⟨nl, hs₃.extBut _ _ (Nat.ne_of_lt (Nat.lt_trans hlL (Nat.lt_trans (Nat.lt_succ_self _) (Nat.lt_succ_self _)))) (N₂ _ (.tail _ (.tail _ (.tail _ (.head _))))).1⟩
  have hbo : h₂.get? bk = some ob := (N₂ (bk, ob) (.head _)).1
  have hbL : bk ≠ L := (N₂ (bk, ob) (.head _)).2.1
  have hbn : (s.heap.hide l).get? bk = none := (N₂ (bk, ob) (.head _)).2.2
  have hb₃ : h₃.get? bk = some ob := hs₃.extBut _ _ (Nat.ne_of_gt lows.1) hbo
  have hbl : bk ≠ l := Nat.ne_of_gt lows.2.2
  have dk₃ : h₃.DictOf (intKind prog w) bk [] := by
    obtain ⟨es, ep, r⟩ := dI
    exact ⟨ob, es, ep, hb₃, r⟩
  have RP₃ : RunP prog w h₃ l bk key nm 0 [] [] [] := ⟨hl₃, .nil, ⟨dk₃, fun kv h => (nomatch h), fun j h => (nomatch h)⟩, fun j h => (nomatch h), .nil, Nat.le_refl _⟩
  clear F₂ N₂ hb₃ dk₃ hl₃ hs₃ dI lows hob' hc2 hbo
  dsimp only
  obtain ⟨vw, hw, hwi⟩ := I.w
  refine wpAny_execs_cons ?_
  refine for_rule ?_
  walk_at "wk"
  have hlen : (Array.mk vw).size = Nn := by have := hwi.length; simpa using this
  have hz := I.z
  refine call_len_list (F₃.lst hw) (by omega) ?_
  rw [hlen]
  refine spliced_none ?_
  refine range1_rows F₃ N₃ fun h₄ tk₄ t₁ u₁ v₁ hr F₄ N₄ hk₄ => ?_
  have RP₄ := RP₃.keeps hk₄
  have hl₄ : l < h₄.objs.size := let ⟨_, e⟩ := RP₄.pl; Heap.lt_size e
  clear RP₃ F₃ N₃
  refine' for_range (h₀ := s.heap.hide l) (L := L) (n := Nn) (cs := [(L + 1 + 1, ob'), (L + 1, oc')]) (fun i h m => ∃ TT vs kvs, RunP prog w h l bk key nm i TT vs kvs ∧ m (Str.ofString "table") = some (.ref tb) ∧ m (Str.ofString "ways") = some (.ref aw) ∧ m (Str.ofString "keys") = some (.ref ak)) ?a ?b ?c R'.h hr (by omega) F₄ N₄ ?P ?st ?_ ?_
  case a => rfl
  case b => rfl
  case c => rfl
  case P => exact ⟨[], [], [], RP₄, rfl, rfl, rfl⟩
  case st =>
    rintro i h h' m m' F hI ⟨TT, vs, kvs, RP, m1, m2, m3⟩ hk hm
    refine ⟨TT, vs, kvs, RP.via (fun b o items n hd ho => hk b o ?_ (seq_ne F.ns ho hd) ho) fun o ho => hk _ o ?_ hbL ho, (hm _ (by decide)).trans m1, (hm _ (by decide)).trans m2, (hm _ (by decide)).trans m3⟩
    · intro q
      rw [q] at ho
      obtain ⟨k, e⟩ := hI _ ho
      rw [e] at hd; cases hd
    · intro q
      obtain ⟨o', es, ep, ho', _, hd', _⟩ := RP.b.d
      rw [q] at ho'
      obtain ⟨k, e⟩ := hI _ ho'
      rw [e] at hd'; cases hd'
  · intro i h tk m tv hi F hpl N hP
    obtain ⟨TT, vs, kvs, RP, m1, m2, m3⟩ := hP
    obtain ⟨tw, hwat⟩ := ints_get hwi (j := i) (k := way i) (by simp [hi])
    obtain ⟨vn, hnl, hns⟩ := I.n
    obtain ⟨tn, hnat⟩ := StrsAre.at hns (j := i) (y := nm i) (by simp [hi])
    obtain ⟨vk, hkl, hks⟩ := I.k
    obtain ⟨tq, hkat⟩ := ints_get hks (j := i) (k := key i) (by simp [hi])
    have hNi : NameOk (nm i) := I.ok i hi
    have hVi : ValOk (valueF i) := val_ok (by omega)
    have hrows : ∀ r ∈ TT.map (rowF nm), NameOk r.1 := by
      intro r hr
      obtain ⟨j, hj, rfl⟩ := List.mem_map.mp hr
      exact I.ok j (Nat.lt_trans (RP.lt j hj) hi)
    have hsz : vs.length ≤ 1000 := by have := RP.len; omega
    refine wpAny_execs_cons ?_
    refine wpAny_Assign_Name ?_
    refine Subscript_ ?_
    refine nmF (c := L + 1) rfl (N _ (.tail _ (.tail _ (.head _)))).1 hoc' ?_
    refine nmV F.ns hpl ?_
    refine item_at (F.lst hnl) (by omega) hnat ?_
    refine st_set rfl rfl rfl F N RP hbL fun h₅ tk₅ F₅ N₅ RP₅ hk₅ => ?_
    clear F N RP hk₅
    dsimp only
    refine wpAny_execs_cons ?_
    refine wpAny_Assign_Name ?_
    refine MethodCall_ ?_
    refine nmF (c := L + 1 + 1) rfl (N₅ _ (.tail _ (.head _))).1 hod' ?_
    refine getMethod_builtin RP₅.b.d.typeIs PySem.F.plainAttrs_dict PySem.F.slot_dict_get PySem.F.type_dict_get (fun a e => by cases e; obtain ⟨o, es, ep, ho, he, _⟩ := RP₅.b.d; exact ⟨o, ho, he.2.1⟩) ?_
    refine callWith_method1 ?_
    refine spliced_more ?_
    refine Subscript_ ?_
    refine nmV F₅.ns (by walk_at "mv") ?_
    refine nmV F₅.ns (by walk_at "mv") ?_
    refine item_at (F₅.lst hkl) (by omega) hkat ?_
    refine spliced_more ?_
    refine List_ ?_
    refine spliced_none ?_
    refine wpAny_newList ?_ (by decide)
    refine spliced_none ?_
    dsimp only
    have hk₆ : ∀ b o, h₅.get? b = some o → (h₅.push { cls := .type "list", data := .seq ([] : List Value).toArray }).get? b = some o := fun b o e => Heap.get?_push_of_some _ e
    have hnew : (h₅.push { cls := .type "list", data := .seq ([] : List Value).toArray }).IsList h₅.objs.size #[] := ⟨_, Heap.get?_push_size _ rfl, rfl, _, rfl⟩
    have hnl' : h₅.objs.size ≠ l := by
      obtain ⟨_, e⟩ := RP₅.pl
      exact Nat.ne_of_gt (Heap.lt_size e)
    generalize h₅.push { cls := .type "list", data := .seq ([] : List Value).toArray } = h₆ at hk₆ hnew ⊢
    generalize h₅.objs.size = em at hnew hnl' ⊢
    have F₆ := F₅.keeps hk₆
    have N₆ := N₅.grown hk₆
    have RP₆ := RP₅.keeps hk₆
    clear F₅ N₅ RP₅ hk₆
    refine call_meetsIn PySem.F.slot_dict_get RP₆.b.d.typeIs PySem.F.entry_dict_get (PySem.F.args_dict_get_3 ..) (meets_dict_get_default (intKind prog w) bk (intKind_is prog w (key i) tq) lo _) ⟨valueAt kvs, RP₆.b.d.mapOf, ?_⟩
    have PG : PageAt h₆ l ((valueAt kvs (key i)).getD (.ref em)) (page key TT (key i)) := RP₆.b.get ⟨em, [], rfl, hnl', hnew, .nil⟩
    generalize (valueAt kvs (key i)).getD (.ref em) = pv at PG ⊢
    refine st_set (s := Shared.mk h₆ _ _ _ _) rfl rfl rfl F₆ N₆ RP₆ hbL fun h₇ tk₇ F₇ N₇ RP₇ hk₇ => ?_
    replace PG : PageAt h₇ l pv (page key TT (key i)) := PG.via fun b o items n hd ho => hk₇ b o (seq_ne F₆.ns ho hd) ho
    clear F₆ N₆ RP₆ hk₇ hnew
    dsimp only
    obtain ⟨pa, px, rfl, hpal, hpl₇, hpi⟩ := PG
    refine wpAny_execs_cons ?_
    refine wpAny_If ?_
    refine wpAny_isTrue_Compare1 ?_
    refine MethodCall_ ?_
    refine nmV F₇.ns (by walk_at "mv") ?_
    refine meth_headers X F₇ (Tb₀.keeps F₇.keep) (by k_is) (by k_is) (by k_is) (by decide) ?_
    refine callWith_K X (by k_is) ?_
    refine spliced_more ?_
    refine nmV F₇.ns (by walk_at "mv") ?_
    refine spliced_none ⟨X.keeps F₇.keep, ?_⟩
    refine wpAny_mono (getall_call (G.keeps F₇.keep) (n := n + 9) R' (Tb₀.keeps F₇.keep) RP₇.pl.isList RP₇.t hrows hsz (nm i) _ hNi) (fun v s' hv => ?_) fun _ _ e => e
    obtain ⟨⟨h₈, tk₈, rfl, hk₈⟩, D, ys, rfl, hD, hDl, hDs⟩ := hv
    have F₈ := F₇.keeps hk₈
    have N₈ := N₇.grown hk₈
    have RP₈ := RP₇.keeps hk₈
    have hpl₈ : h₈.IsList pa (Array.mk px) := hpl₇.at fun o e => hk₈ _ o e
    dsimp only at hDl
    clear F₇ N₇ RP₇ hpl₇ hk₈
    dsimp only
    have hpg : ∀ j ∈ page key TT (key i), j < i := fun j hj => RP₈.lt j (List.mem_filter.mp hj).1
    have hps : px.length ≤ 16 := by
      have e1 := hpi.length
      have e2 : (page key TT (key i)).length ≤ TT.length := List.length_filter_le _ _
      have e3 := up_len (a := 0) RP₈.up RP₈.lt fun _ _ => Nat.zero_le _
      simp only [List.length_map] at e1
      omega
    have hsame := rows_same I hi RP₈.lt
    refine lc_list (fun _ => true) ValRel (closureFor_none (by decide)) (by decide) rfl (by decide) rfl R'.h ?_
    refine nmV F₈.ns (by walk_at "mv") ?_
    refine ⟨pa, _, rfl, hpl₈, ?_, ?_, ?_, ?_⟩
    · simp only [sizeLine, List.size_toArray]; omega
    · intro C v s₃ m₃ hv hn hm hk
      exact wpAny_pure ⟨rfl, Keeps.refl _⟩
    · intro C v s₃ m₃ hv _ hn hm hk
      obtain ⟨j, tj, hj, rfl⟩ := page_at hpi hv
      have hj' := hpg j hj
      refine wpAny_mono (val_eval (c := j) (n := n + 10) (G.keeps fun b o e => hk b o (F₈.keep b o e)) R' (by omega) (nmV hn hm ⟨⟨_, rfl⟩, Keeps.refl _⟩)) (fun y s₄ hy => ?_) fun _ _ e => e
      exact ⟨⟨j, tj, _, rfl, hy.1.choose_spec⟩, hy.2⟩
    intro D' h₉ tk₉ ys' hD' hDl' _ hP' hk₉
    rw [List.filter_eq_self.mpr (fun _ _ => rfl)] at hP'
    have hS' := val_strs hP' hpi
    have F₉ := F₈.keeps hk₉
    have N₉ := N₈.grown hk₉
    have RP₉ := RP₈.keeps hk₉
    have hpl₉ : h₉.IsList pa (Array.mk px) := hpl₈.at fun o e => hk₉ _ o e
    have hDl₉ : h₉.IsList D ys := hDl.at fun o e => hk₉ _ o e
    clear F₈ N₈ RP₈ hpl₈ hDl hk₉
    rw [hsame] at hDs
    simp only [List.map_map] at hDs
    have hu : A'.units + 64 < cLine := by have := R'.u; show A'.units + 64 < 9900; omega
    have hval : ∀ j, j < 16 → ∀ c ∈ (valueF (j : Nat)).cps.toList, c < 256 := fun j hj c hc => Nat.lt_trans ((val_ok hj).1 c hc).2 (by decide)
    refine ne_strs hDl₉ hDl' hDs hS' (fun x hx => ?_) hu ?_
    · obtain ⟨j, hj, rfl⟩ := List.mem_map.mp hx
      have := hpg j hj
      exact hval j (by omega)
    refine wpAny_truthy_bool ?_
    rw [if_neg (by decide)]
    refine wpAny_execs_nil ?_
    dsimp only
    clear hDl₉ hDl' hDs hS' hP'
    refine wpAny_execs_cons ?_
    refine wpAny_If ?_
    refine wpAny_isTrue_Compare1 ?_
    refine MethodCall_ ?_
    refine nmV F₉.ns (by walk_at "mv") ?_
    refine meth_headers X F₉ (Tb₀.keeps F₉.keep) (by k_is) (by k_is) (by k_is) (by decide) ?_
    refine callWith_K X (by k_is) ?_
    refine spliced_more ?_
    refine nmV F₉.ns (by walk_at "mv") ?_
    refine spliced_more ?_
    refine nmV F₉.ns (by walk_at "mv") ?_
    refine spliced_none ⟨X.keeps F₉.keep, ?_⟩
    refine wpAny_mono (get_call (G.keeps F₉.keep) (n := n + 9) R' (Tb₀.keeps F₉.keep) RP₉.pl.isList RP₉.t hrows (nm i) _ hNi _) (fun v s' hv => ?_) fun _ _ e => e
    obtain ⟨⟨h₁₀, tk₁₀, rfl, hk₁₀⟩, hgv⟩ := hv
    have F₁₀ := F₉.keeps hk₁₀
    have N₁₀ := N₉.grown hk₁₀
    have RP₁₀ := RP₉.keeps hk₁₀
    have hpl₁₀ : h₁₀.IsList pa (Array.mk px) := hpl₉.at fun o e => hk₁₀ _ o e
    have hfind := rows_find I hi RP₁₀.lt
    clear F₉ N₉ RP₉ hpl₉ hk₁₀
    unfold getF at hgv
    rw [hfind] at hgv
    refine wpAny_mono (Q := fun v' s' => Keeps { s with heap := h₁₀, toks := tk₁₀ } s' ∧ EqPair v v') ?_ (fun v' s' hv' => ?_) fun _ _ e => e
    · refine IfExp_ ?_
      refine wpAny_isTrue_Compare1 ?_
      refine nmV F₁₀.ns (by walk_at "mv") ?_
      refine List_ ?_
      refine spliced_none ?_
      refine wpAny_newList ?_ (by decide)
      dsimp only
      have hk₁₁ : ∀ b o, h₁₀.get? b = some o → (h₁₀.push { cls := .type "list", data := .seq ([] : List Value).toArray }).get? b = some o := fun b o e => Heap.get?_push_of_some _ e
      have hnew : (h₁₀.push { cls := .type "list", data := .seq ([] : List Value).toArray }).IsList h₁₀.objs.size #[] := ⟨_, Heap.get?_push_size _ rfl, rfl, _, rfl⟩
      generalize h₁₀.push { cls := .type "list", data := .seq ([] : List Value).toArray } = h₁₁ at hk₁₁ hnew ⊢
      refine ne_empty (hpl₁₀.at fun o e => hk₁₁ _ o e) hnew hpi hu ?_
      refine wpAny_truthy_bool ?_
      have F₁₁ := F₁₀.keeps hk₁₁
      cases hpage : page key TT (key i) with
      | nil =>
        rw [hpage] at hgv
        simp only [List.map_nil, List.isEmpty_nil, Bool.not_true, Bool.false_eq_true, if_false]
        refine nmV F₁₁.ns (by walk_at "mv") ?_
        exact ⟨⟨_, _, rfl, hk₁₁⟩, .inl ⟨_, _, _, hgv, rfl⟩⟩
      | cons j rest =>
        rw [hpage] at hgv
        simp only [List.map_cons, List.isEmpty_cons, Bool.not_false, if_true]
        obtain ⟨tx, hvx⟩ := hgv
        have hj := hpg j (by rw [hpage]; exact .head _)
        rw [hpage] at hpi
        obtain ⟨tj, hjat⟩ := ints_get hpi (j := 0) (k := Int.ofNat j) rfl
        refine wpAny_mono (val_eval (c := j) (n := n + 10) (G.keeps F₁₁.keep) R' (by omega) ?_) (fun y s₄ hy => ?_) fun _ _ e => e
        · refine Subscript_ ?_
          refine nmV F₁₁.ns (by walk_at "mv") ?_
          refine wpAny_Constant_int ?_
          exact item_at (k := 0) (hpl₁₀.at fun o e => hk₁₁ _ o e) (by decide) hjat ⟨⟨_, rfl⟩, Keeps.refl _⟩
        · obtain ⟨⟨ty, rfl⟩, K⟩ := hy
          exact ⟨Keeps.trans ⟨_, _, rfl, hk₁₁⟩ K, .inr ⟨_, _, _, hvx, rfl⟩⟩
    obtain ⟨⟨h₁₁, tk₁₁, rfl, hk₁₁⟩, hpair⟩ := hv'
    refine ne_pair hpair ?_
    refine wpAny_truthy_bool ?_
    rw [if_neg (by decide)]
    refine wpAny_execs_nil ?_
    dsimp only
    have F₁₁ := F₁₀.keeps hk₁₁
    have N₁₁ := N₁₀.grown hk₁₁
    have RP₁₁ := RP₁₀.keeps hk₁₁
    have hpl₁₁ : h₁₁.IsList pa (Array.mk px) := hpl₁₀.at fun o e => hk₁₁ _ o e
    clear F₁₀ N₁₀ RP₁₀ hpl₁₀ hk₁₁ hpair hgv
    have Z₁₁ : Turn prog w s.heap L l bk _ key TT kvs pa px _ h₁₁ := ⟨F₁₁, N₁₁, RP₁₁.b, hpl₁₁⟩
    have hp₁₁ := RP₁₁.pl
    have ht₁₁ := RP₁₁.t
    have lt := RP₁₁.lt
    have up := RP₁₁.up
    have zk := RP₁₁.z
    clear F₁₁ N₁₁ hpl₁₁
    have hcl : ∀ p ∈ [(h₄.objs.size, rangeIt (i + 1) Nn), (L + 1 + 1, ob'), (L + 1, oc')], p.1 ≠ l := by
      intro p hp
      rcases List.mem_cons.mp hp with rfl | hp
      · exact Nat.ne_of_gt hl₄
      rcases List.mem_cons.mp hp with rfl | hp
      · exact Nat.ne_of_gt (Nat.lt_trans hlL (Nat.lt_trans (Nat.lt_succ_self _) (Nat.lt_succ_self _)))
      rcases List.mem_singleton.mp hp with rfl
      exact Nat.ne_of_gt (Nat.lt_trans hlL (Nat.lt_succ_self _))
    have hcd : ∀ p ∈ [(h₄.objs.size, rangeIt (i + 1) Nn), (L + 1 + 1, ob'), (L + 1, oc')], ∀ es ep, p.2.data ≠ .dict es ep := by
      intro p hp es ep q
      rcases List.mem_cons.mp hp with rfl | hp
      · cases q
      rcases List.mem_cons.mp hp with rfl | hp
      · rw [hod'] at q; cases q
      rcases List.mem_singleton.mp hp with rfl
      rw [hoc'] at q; cases q
    refine wpAny_execs_cons ?_
    refine wpAny_If ?_
    refine wpAny_isTrue_Compare1 ?_
    refine Subscript_ ?_
    refine nmV Z₁₁.F.ns (by walk_at "mv") ?_
    refine nmV Z₁₁.F.ns (by walk_at "mv") ?_
    refine item_at (Z₁₁.F.lst hw) (by omega) hwat ?_
    refine wpAny_Constant_int ?_
    refine PyProof.Rows.eq_int ?_
    refine wpAny_truthy_bool ?_
    by_cases e0 : way i = 0
    · rw [if_pos (by rw [e0]; rfl)]
      refine wpAny_execs_cons ?_
      refine wpAny_Assign_Subscript ?_
      refine wpAny_mono (val_eval (c := i) (n := n + 10) (G.keeps Z₁₁.F.keep) R' (by omega) (nmV Z₁₁.F.ns (by walk_at "mv") ⟨⟨_, rfl⟩, Keeps.refl _⟩)) (fun y s₄ hy => ?_) fun _ _ e => e
      obtain ⟨⟨ty, rfl⟩, h₁₂, tk₁₂, rfl, hk₁₂⟩ := hy
      have Z₁₂ := Z₁₁.keeps hbl hk₁₂
      have hp₁₂ := hp₁₁.at fun o e => hk₁₂ _ o e
      have ht₁₂ := ht₁₁.keeps hk₁₂
      have Tb₁₂ := Tb₀.keeps Z₁₂.F.keep
      clear Z₁₁ hp₁₁ ht₁₁
      dsimp only
      refine nmV Z₁₂.F.ns (by walk_at "mv") ?_
      refine nmV Z₁₂.F.ns (by walk_at "mv") ?_
      obtain ⟨nd, hs, tkd, dd⟩ := Tb₁₂.d
      refine ksp_setItem (od := some _) Z₁₂.F X ⟨Tb₁₂.i, rfl, rfl, dd⟩ (by k_is) (by k_is) (by k_is) ?_
      clear dd
      refine wpAny_mono (set_call (G.keeps (hid_keep Z₁₂.F.keep)) (n := n + 8) R' Tb₁₂ hp₁₂ ht₁₂ hrows hsz (nm i) _ hNi _ _ hVi) (fun v s' hv => ?_) fun _ _ e => e
      obtain ⟨rfl, h₁₃, tk₁₃, vs', rfl, hk₁₃, hp₁₃, ht₁₃⟩ := hv
      have Z₁₃ := Z₁₂.mut hbl hLl hcl hpal hk₁₃
      rw [rows_other I hi lt] at ht₁₃
      have est : (stepT key (way i) TT i).map (rowF nm) = (TT.filter fun j => !(key j == key i)).map (rowF nm) ++ [(nm i, valueF i)] := by rw [stepT_0 e0, List.map_append]; rfl
      rw [← est] at ht₁₃
      clear Z₁₂ hp₁₂ ht₁₂
      dsimp only
      refine wpAny_execs_cons ?_
      refine wpAny_Assign_Subscript ?_
      refine one_list Z₁₃.F.ns (by walk_at "mv") fun h₁₄ D₁₄ hk₁₄ hD₁₄ hl₁₄ => ?_
      have Z₁₄ := Z₁₃.keeps hbl hk₁₄
      have hne₁₄ : D₁₄ ≠ l := by rintro rfl; obtain ⟨_, e⟩ := hp₁₃; rw [hD₁₄] at e; cases e
      refine nmF (c := L + 1 + 1) rfl (Z₁₄.N _ (.tail _ (.head _))).1 hod' ?_
      refine Subscript_ ?_
      refine nmV Z₁₄.F.ns (by walk_at "mv") ?_
      refine nmV Z₁₄.F.ns (by walk_at "mv") ?_
      refine item_at (Z₁₄.F.lst hkl) (by omega) hkat ?_
      refine book_set (way := way i) (vs := vs') Z₁₄ (hp₁₃.at fun o e => hk₁₄ _ o e) (ht₁₃.keeps hk₁₄) ⟨D₁₄, _, rfl, hne₁₄, hl₁₄, ?_⟩ lt up zk (by omega) hbL hbn hcd fun h' tk' F' N' RP' => ?_
      · rw [stepT_self, if_pos e0]; exact .cons _ _ .nil
      · obtain ⟨TT', vs'', kvs', RP'⟩ := RP'
        refine wpAny_execs_nil ?_
        refine wpAny_execs_nil ?_
        exact ⟨h', tk', _, rfl, F', N', TT', vs'', kvs', RP', by walk_at "mv", by walk_at "mv", by walk_at "mv"⟩
    rw [if_neg (by simpa using e0)]
    refine wpAny_execs_cons ?_
    refine wpAny_If ?_
    refine wpAny_isTrue_Compare1 ?_
    refine Subscript_ ?_
    refine nmV Z₁₁.F.ns (by walk_at "mv") ?_
    refine nmV Z₁₁.F.ns (by walk_at "mv") ?_
    refine item_at (Z₁₁.F.lst hw) (by omega) hwat ?_
    refine wpAny_Constant_int ?_
    refine PyProof.Rows.eq_int ?_
    refine wpAny_truthy_bool ?_
    by_cases e1 : way i = 1
    · rw [if_pos (by rw [e1]; rfl)]
      refine wpAny_execs_cons ?_
      refine wpAny_Expr ?_
      refine MethodCall_ ?_
      refine nmV Z₁₁.F.ns (by walk_at "mv") ?_
      refine meth_headers X Z₁₁.F (Tb₀.keeps Z₁₁.F.keep) (by k_is) (by k_is) (by k_is) (by decide) ?_
      refine callWith_K X (by k_is) ?_
      refine spliced_more ?_
      refine nmV Z₁₁.F.ns (by walk_at "mv") ?_
      refine spliced_more ?_
      refine wpAny_mono (val_eval (c := i) (n := n + 10) (G.keeps Z₁₁.F.keep) R' (by omega) (nmV Z₁₁.F.ns (by walk_at "mv") ⟨⟨_, rfl⟩, Keeps.refl _⟩)) (fun y s₄ hy => ?_) fun _ _ e => e
      obtain ⟨⟨ty, rfl⟩, h₁₂, tk₁₂, rfl, hk₁₂⟩ := hy
      have Z₁₂ := Z₁₁.keeps hbl hk₁₂
      have hp₁₂ := hp₁₁.at fun o e => hk₁₂ _ o e
      have ht₁₂ := ht₁₁.keeps hk₁₂
      have Tb₁₂ := Tb₀.keeps Z₁₂.F.keep
      clear Z₁₁ hp₁₁ ht₁₁
      dsimp only
      refine spliced_none ⟨X.keeps Z₁₂.F.keep, ?_⟩
      refine wpAny_mono (add_call (G.keeps Z₁₂.F.keep) (n := n + 8) R' Tb₁₂ hp₁₂ ht₁₂ hsz (nm i) _ hNi _ _ hVi) (fun v s' hv => ?_) fun _ _ e => e
      obtain ⟨rfl, h₁₃, tk₁₃, vs', rfl, hk₁₃, hp₁₃, ht₁₃⟩ := hv
      have Z₁₃ := Z₁₂.mut hbl hLl hcl hpal hk₁₃
      have est : (stepT key (way i) TT i).map (rowF nm) = TT.map (rowF nm) ++ [(nm i, valueF i)] := by rw [stepT_1 e1, List.map_append]; rfl
      rw [← est] at ht₁₃
      clear Z₁₂ hp₁₂ ht₁₂
      dsimp only
      refine wpAny_execs_cons ?_
      refine wpAny_Assign_Subscript ?_
      refine wpAny_BinOp ?_
      refine nmV Z₁₃.F.ns (by walk_at "mv") ?_
      refine one_list Z₁₃.F.ns (by walk_at "mv") fun h₁₅ D₁₅ hk₁₅ hD₁₅ hl₁₅ => ?_
      refine add_two (vs := px) (ws := [.int (i : Nat) tv]) (Z₁₃.pg.at fun o e => hk₁₅ _ o e) hl₁₅ (by simp only [List.length_singleton]; omega) fun h₁₄ D₁₄ hk₁₄ hD₁₄ hl₁₄ => ?_
      have Z₁₄ := (Z₁₃.keeps hbl hk₁₅).keeps hbl hk₁₄
      have hne₁₄ : D₁₄ ≠ l := by rintro rfl; obtain ⟨_, e⟩ := hp₁₃; have := hk₁₅ _ _ e; rw [hD₁₄] at this; cases this
      dsimp only
      refine nmF (c := L + 1 + 1) rfl (Z₁₄.N _ (.tail _ (.head _))).1 hod' ?_
      refine Subscript_ ?_
      refine nmV Z₁₄.F.ns (by walk_at "mv") ?_
      refine nmV Z₁₄.F.ns (by walk_at "mv") ?_
      refine item_at (Z₁₄.F.lst hkl) (by omega) hkat ?_
      refine book_set (way := way i) (vs := vs') Z₁₄ (hp₁₃.at fun o e => hk₁₄ _ o (hk₁₅ _ o e)) ((ht₁₃.keeps hk₁₅).keeps hk₁₄) ⟨D₁₄, _, rfl, hne₁₄, hl₁₄, ?_⟩ lt up zk (by omega) hbL hbn hcd fun h' tk' F' N' RP' => ?_
      · rw [stepT_self, if_neg e0, if_pos e1, List.map_append]; exact hpi.append (.cons _ _ .nil)
      · obtain ⟨TT', vs'', kvs', RP'⟩ := RP'
        refine wpAny_execs_nil ?_
        refine wpAny_execs_nil ?_
        refine wpAny_execs_nil ?_
        exact ⟨h', tk', _, rfl, F', N', TT', vs'', kvs', RP', by walk_at "mv", by walk_at "mv", by walk_at "mv"⟩
    rw [if_neg (by simpa using e1)]
    refine wpAny_execs_cons ?_
    refine wpAny_If ?_
    refine wpAny_isTrue_Compare1 ?_
    refine Subscript_ ?_
    refine nmV Z₁₁.F.ns (by walk_at "mv") ?_
    refine nmV Z₁₁.F.ns (by walk_at "mv") ?_
    refine item_at (Z₁₁.F.lst hw) (by omega) hwat ?_
    refine wpAny_Constant_int ?_
    refine PyProof.Rows.eq_int ?_
    refine wpAny_truthy_bool ?_
    by_cases e2 : way i = 2
    · rw [if_pos (by rw [e2]; rfl)]
      refine wpAny_execs_cons ?_
      refine wpAny_Assign_Name ?_
      refine wpAny_mono (Q := fun v' s' => Keeps { s with heap := h₁₁, toks := tk₁₁ } s' ∧ PageAt s'.heap l v' (if page key TT (key i) = [] then [i] else page key TT (key i))) ?_ (fun v' s' hv' => ?_) fun _ _ e => e
      · refine IfExp_ ?_
        refine wpAny_isTrue_Compare1 ?_
        refine nmV Z₁₁.F.ns (by walk_at "mv") ?_
        refine no_list fun h₁₂ D₁₂ hk₁₂ hD₁₂ hl₁₂ => ?_
        refine ne_empty (Z₁₁.pg.at fun o e => hk₁₂ _ o e) hl₁₂ hpi hu ?_
        refine wpAny_truthy_bool ?_
        have F₁₂ := Z₁₁.F.keeps hk₁₂
        cases hpage : page key TT (key i) with
        | nil =>
          simp only [List.map_nil, List.isEmpty_nil, Bool.not_true, Bool.false_eq_true, if_false]
          refine one_list F₁₂.ns (by walk_at "mv") fun h₁₃ D₁₃ hk₁₃ hD₁₃ hl₁₃ => ?_
          refine ⟨⟨_, _, rfl, fun b o e => hk₁₃ b o (hk₁₂ b o e)⟩, D₁₃, _, rfl, ?_, hl₁₃, ?_⟩
          · rintro rfl; obtain ⟨_, e⟩ := hp₁₁; have := hk₁₂ _ _ e; rw [hD₁₃] at this; cases this
          · rw [if_pos trivial]; exact .cons _ _ .nil
        | cons j rest =>
          simp only [List.map_cons, List.isEmpty_cons, Bool.not_false, if_true]
          refine nmV F₁₂.ns (by walk_at "mv") ?_
          refine ⟨⟨_, _, rfl, hk₁₂⟩, pa, _, rfl, hpal, Z₁₁.pg.at fun o e => hk₁₂ _ o e, ?_⟩
          rw [if_neg (by simp), ← hpage]; exact hpi
      obtain ⟨⟨h₁₂, tk₁₂, rfl, hk₁₂⟩, PG⟩ := hv'
      refine st_set (s := Shared.mk h₁₂ _ _ _ _) rfl rfl rfl (Z₁₁.F.keeps hk₁₂) (Z₁₁.N.grown hk₁₂) (RP₁₁.keeps hk₁₂) hbL fun h₁₃ tk₁₃ F₁₃ N₁₃ RP₁₃ hk₁₃ => ?_
      replace PG : PageAt h₁₃ l v' _ := PG.via fun b o items n hd ho => hk₁₃ b o (seq_ne (Z₁₁.F.keeps hk₁₂).ns ho hd) ho
      clear Z₁₁ hp₁₁ ht₁₁ RP₁₁ hk₁₃
      dsimp only
      obtain ⟨ka, kx, rfl, hkal, hkl₁₃, hki⟩ := PG
      have Z₁₃ : Turn prog w s.heap L l bk _ key TT kvs ka kx _ h₁₃ := ⟨F₁₃, N₁₃, RP₁₃.b, hkl₁₃⟩
      clear F₁₃ N₁₃ hkl₁₃
      refine wpAny_execs_cons ?_
      refine wpAny_If ?_
      refine wpAny_isTrue_Compare1 ?_
      refine MethodCall_ ?_
      refine nmV Z₁₃.F.ns (by walk_at "mv") ?_
      refine meth_headers X Z₁₃.F (Tb₀.keeps Z₁₃.F.keep) (by k_is) (by k_is) (by k_is) (by decide) ?_
      refine callWith_K X (by k_is) ?_
      refine spliced_more ?_
      refine nmV Z₁₃.F.ns (by walk_at "mv") ?_
      refine spliced_more ?_
      refine wpAny_mono (val_eval (c := i) (n := n + 10) (G.keeps Z₁₃.F.keep) R' (by omega) (nmV Z₁₃.F.ns (by walk_at "mv") ⟨⟨_, rfl⟩, Keeps.refl _⟩)) (fun y s₄ hy => ?_) fun _ _ e => e
      obtain ⟨⟨ty, rfl⟩, h₁₅, tk₁₅, rfl, hk₁₅⟩ := hy
      have Z₁₅ := Z₁₃.keeps hbl hk₁₅
      have RP₁₅ := RP₁₃.keeps hk₁₅
      have Tb₁₅ := Tb₀.keeps Z₁₅.F.keep
      clear Z₁₃ RP₁₃
      dsimp only
      refine spliced_none ⟨X.keeps Z₁₅.F.keep, ?_⟩
      refine wpAny_mono (setd_call (G.keeps Z₁₅.F.keep) (n := n + 8) R' Tb₁₅ RP₁₅.pl RP₁₅.t hrows hsz (nm i) _ hNi _ _ hVi) (fun v s' hv => ?_) fun _ _ e => e
      obtain ⟨kh, th, hkh, rfl, h₁₆, tk₁₆, vs', rfl, hk₁₆, hp₁₆, ht₁₆⟩ := setd_turn I hi lt e2 hv
      have Z₁₆ := Z₁₅.mut hbl hLl hcl hkal hk₁₆
      clear Z₁₅ RP₁₅ hv
      dsimp only
      have hkhi : kh < 16 := by
        have hmem := List.mem_of_mem_head? hkh
        split at hmem
        · rcases List.mem_singleton.mp hmem with rfl; omega
        · have := hpg kh hmem; omega
      obtain ⟨tj, hjat⟩ := ints_get hki (j := 0) (k := Int.ofNat kh) (by rw [← List.head?_eq_getElem?, List.head?_map, hkh]; rfl)
      refine wpAny_mono (val_eval (c := kh) (n := n + 10) (G.keeps Z₁₆.F.keep) R' (by omega) ?_) (fun y s₄ hy => ?_) fun _ _ e => e
      · refine Subscript_ ?_
        refine nmV Z₁₆.F.ns (by walk_at "mv") ?_
        refine wpAny_Constant_int ?_
        exact item_at (k := 0) Z₁₆.pg (by decide) hjat ⟨⟨_, rfl⟩, Keeps.refl _⟩
      obtain ⟨⟨ty', rfl⟩, h₁₄, tk₁₄, rfl, hk₁₄⟩ := hy
      have Z₁₄ := Z₁₆.keeps hbl hk₁₄
      refine ne_pair (.inr ⟨_, _, _, rfl, rfl⟩) ?_
      refine wpAny_truthy_bool ?_
      rw [if_neg (by decide)]
      refine wpAny_execs_nil ?_
      dsimp only
      refine wpAny_execs_cons ?_
      refine wpAny_Assign_Subscript ?_
      refine nmV Z₁₄.F.ns (by walk_at "mv") ?_
      refine nmF (c := L + 1 + 1) rfl (Z₁₄.N _ (.tail _ (.head _))).1 hod' ?_
      refine Subscript_ ?_
      refine nmV Z₁₄.F.ns (by walk_at "mv") ?_
      refine nmV Z₁₄.F.ns (by walk_at "mv") ?_
      refine item_at (Z₁₄.F.lst hkl) (by omega) hkat ?_
      refine book_set (way := way i) (vs := vs') Z₁₄ (hp₁₆.at fun o e => hk₁₄ _ o e) (ht₁₆.keeps hk₁₄) ⟨ka, _, rfl, hkal, Z₁₄.pg, ?_⟩ lt up zk (by omega) hbL hbn hcd fun h' tk' F' N' RP' => ?_
      · rw [stepT_self, if_neg e0, if_neg e1, if_pos e2]; exact hki
      · obtain ⟨TT', vs'', kvs', RP'⟩ := RP'
        refine wpAny_execs_nil ?_
        refine wpAny_execs_nil ?_
        refine wpAny_execs_nil ?_
        refine wpAny_execs_nil ?_
        exact ⟨h', tk', _, rfl, F', N', TT', vs'', kvs', RP', by walk_at "mv", by walk_at "mv", by walk_at "mv"⟩
    rw [if_neg (by simpa using e2)]
    refine wpAny_execs_cons ?_
    refine wpAny_Delete ?_
    refine wpAny_deleteEach_cons ?_
    refine wpAny_delete_Subscript ?_
    refine nmV Z₁₁.F.ns (by walk_at "mv") ?_
    refine nmV Z₁₁.F.ns (by walk_at "mv") ?_
    have Tb₁₁ := Tb₀.keeps Z₁₁.F.keep
    obtain ⟨nd, hs, tkd, dd⟩ := Tb₁₁.d
    refine del_own (od := some _) (X.keeps Z₁₁.F.keep) ⟨Tb₁₁.i, rfl, rfl, dd⟩ (by k_is) (by k_is) (by k_is) ?_
    clear dd
    refine wpAny_mono (del_call (G.keeps Z₁₁.F.keep) (n := n + 9) R' Tb₁₁ hp₁₁ ht₁₁ hrows hsz (nm i) _ hNi) (fun v s' hv => ?_) fun _ _ e => e
    obtain ⟨rfl, h₁₃, tk₁₃, rfl, hk₁₃, hp₁₃⟩ := hv
    have ht₁₃ := TupsAre.mut hp₁₁ hk₁₃ (tups_filter (y := lowF (nm i)) ht₁₁)
    have Z₁₃ := Z₁₁.mut hbl hLl hcl hpal hk₁₃
    rw [rows_other I hi lt, ← stepT_3 (way := way i) e0 e1 e2] at ht₁₃
    clear Z₁₁ hp₁₁ ht₁₁
    dsimp only
    refine wpAny_deleteEach_nil ?_
    refine wpAny_execs_cons ?_
    refine wpAny_Assign_Subscript ?_
    refine no_list fun h₁₄ D₁₄ hk₁₄ hD₁₄ hl₁₄ => ?_
    have Z₁₄ := Z₁₃.keeps hbl hk₁₄
    have hne₁₄ : D₁₄ ≠ l := by rintro rfl; obtain ⟨_, e⟩ := hp₁₃; rw [hD₁₄] at e; cases e
    refine nmF (c := L + 1 + 1) rfl (Z₁₄.N _ (.tail _ (.head _))).1 hod' ?_
    refine Subscript_ ?_
    refine nmV Z₁₄.F.ns (by walk_at "mv") ?_
    refine nmV Z₁₄.F.ns (by walk_at "mv") ?_
    refine item_at (Z₁₄.F.lst hkl) (by omega) hkat ?_
    refine book_set (way := way i) Z₁₄ (hp₁₃.at fun o e => hk₁₄ _ o e) (ht₁₃.keeps hk₁₄) ⟨D₁₄, _, rfl, hne₁₄, hl₁₄, ?_⟩ lt up zk (by omega) hbL hbn hcd fun h' tk' F' N' RP' => ?_
    · rw [stepT_self, if_neg e0, if_neg e1, if_neg e2]; exact .nil
    · obtain ⟨TT', vs'', kvs', RP'⟩ := RP'
      refine wpAny_execs_nil ?_
      refine wpAny_execs_nil ?_
      refine wpAny_execs_nil ?_
      refine wpAny_execs_nil ?_
      exact ⟨h', tk', _, rfl, F', N', TT', vs'', kvs', RP', by walk_at "mv", by walk_at "mv", by walk_at "mv"⟩
  · intro h tk m F N hP
    obtain ⟨TT, vs, kvs, RP, m1, m2, m3⟩ := hP
    obtain ⟨vn, hnl, hns⟩ := I.n
    have hperm := RP.perm
    have hlenT : TT.length ≤ Nn := by have := up_len (a := 0) RP.up RP.lt fun _ _ => Nat.zero_le _; omega
    have hflat := flat_ints (kvs := kvs) RP.b.p
    have hfl : (kvs.flatMap fun kv => (seqAt h kv.2).toList).length ≤ 16 := by
      have e1 := hflat.length
      have e2 := hperm.length_eq
      rw [List.length_map] at e1
      omega
    refine wpAny_execs_cons ?_
    refine wpAny_Assign_Name ?_
    refine Call_ ?_
    refine nmB (G.keeps F.keep) (by k_is) (by boot_fast) (by decide) ?_
    refine PyProof.Rows.callWith_builtin1 ?_
    refine spliced_more ?_
    refine lc_two (seqAt h) (cl := [(Str.ofString "book", L + 1 + 1)]) (by with_unfolding_all rfl) (by decide) rfl (by decide) rfl rfl (by decide) R'.h ?_
    refine nmF (c := L + 1 + 1) rfl (N _ (.head _)).1 hod' ?_
    refine ⟨bk, kvs, rfl, lo, RP.b.d, ?_, ?_, ?_, ?_⟩
    · intro kv hkv
      obtain ⟨a, xs, e, _, hl, _⟩ := RP.b.p kv hkv
      exact ⟨a, e, by rw [e, seqAt_list hl]; exact hl⟩
    · simp only [sizeLine]; omega
    · intro C k v key' s₃ m₃ E' hkv hn hkey hm hk
      refine Subscript_ ?_
      refine nmF (c := L + 1 + 1) rfl (hk _ _ (N _ (.head _)).1) hod' ?_
      refine nmV hn hm ?_
      obtain ⟨tk', rfl⟩ := Value.isInt_shape hkey
      have hd₃ : s₃.heap.DictOf (intKind prog w) bk kvs := by
        obtain ⟨o, es, ep, ho, r⟩ := RP.b.d
        exact ⟨o, es, ep, hk _ _ ho, r⟩
      have hnd : (kvs.map (·.1)).Nodup := let ⟨_, _, _, _, _, _, _, _, hn⟩ := RP.b.d; hn
      refine tail_any (ops := [.ref bk, .int k tk']) hd₃.typeIs slot_dict_getitem.lookup (wpAny_getItem_of (intKind_is prog w k tk') hd₃.mapOf (valueAt_mem hnd hkv) ?_) (by with_unfolding_all rfl)
      exact ⟨rfl, _, _, rfl, fun _ _ e => e⟩
    intro D h₅ tk₅ hD hDl hk₅
    refine spliced_none ?_
    refine sorted_ints (vs := kvs.flatMap fun kv => (seqAt h kv.2).toList) hDl.isList hflat (by omega) fun out ns' a1 a2 a3 => ?_
    have hns' : ns' = TT.map Int.ofNat := sorted_eq RP.up a3 (a2.trans (hperm.map _))
    subst hns'
    dsimp only
    have hk₆ : ∀ b o, h.get? b = some o → (sortedAll h₅ (kvs.flatMap fun kv => (seqAt h kv.2).toList) out).get? b = some o := fun b o e => sortedAll_old (hk₅ b o e)
    obtain ⟨e6, hl₆⟩ := sortedAll_at h₅ (kvs.flatMap fun kv => (seqAt h kv.2).toList) out
    generalize sortedAll h₅ (kvs.flatMap fun kv => (seqAt h kv.2).toList) out = h₆ at hk₆ hl₆ ⊢
    generalize h₅.objs.size + 1 = D₆ at hl₆ ⊢
    refine st_set (s := Shared.mk h₆ _ _ _ _) rfl rfl rfl (F.keeps hk₆) (N.grown hk₆) (RP.keeps hk₆) hbL fun h₇ tk₇ F₇ N₇ RP₇ hk₇ => ?_
    have hl₇ : h₇.IsList D₆ out := ⟨_, hk₇ _ _ (seq_ne (F.keeps hk₆).ns hl₆ rfl) hl₆, rfl, _, rfl⟩
    clear hk₇ hl₆ hk₆ hDl hk₅ hflat F N RP
    dsimp only
    refine wpAny_execs_cons ?_
    refine wpAny_Return_some ?_
    refine wpAny_Compare1 ?_
    refine MethodCall_ ?_
    refine nmV F₇.ns (by walk_at "mv") ?_
    refine meth_headers X F₇ (Tb₀.keeps F₇.keep) (by k_is) (by k_is) (by k_is) (by decide) ?_
    refine callWith_K0 (X.keeps F₇.keep) (by k_is) ?_
    have hsz : vs.length ≤ 1000 := by have := RP₇.len; omega
    refine wpAny_mono (items_call (G.keeps F₇.keep) (n := n + 10) R' (Tb₀.keeps F₇.keep) RP₇.pl.isList hsz) (fun v s' hv => ?_) fun _ _ e => e
    obtain ⟨⟨h₈, tk₈, rfl, hk₈⟩, D', rfl, hD', hDl'⟩ := hv
    have F₈ := F₇.keeps hk₈
    have N₈ := N₇.grown hk₈
    have RP₈ := RP₇.keeps hk₈
    have hl₈ : h₈.IsList D₆ out := hl₇.at fun o e => hk₈ _ o e
    dsimp only at hDl'
    clear F₇ N₇ RP₇ hl₇ hk₈
    dsimp only
    refine lc_obj (RowG nm) (cl := [(Str.ofString "names", L + 1)]) (by with_unfolding_all rfl) (by decide) rfl (by decide) rfl R'.h ?_
    refine nmV F₈.ns (by walk_at "mv") ?_
    refine ⟨D₆, out, rfl, hl₈, ?_, ?_, ?_⟩
    · have := a1.length
      simp only [List.length_map, Array.length_toList] at this
      simp only [sizeLine]; omega
    · intro C v s₃ m₃ hv hn hm hk
      obtain ⟨j, tj, hj, rfl⟩ := page_at a1 hv
      have hj' := RP₈.lt j hj
      have K₃ : ∀ b o, (s.heap.hide l).get? b = some o → s₃.heap.get? b = some o := fun b o e => hk b o (F₈.keep b o e)
      obtain ⟨tn, hnat⟩ := StrsAre.at hns (j := j) (y := nm j) (by simp [hj'])
      refine Tuple_ ?_
      refine spliced_more ?_
      refine Subscript_ ?_
      refine nmF (c := L + 1) rfl (hk _ _ (N₈ _ (.tail _ (.head _))).1) hoc' ?_
      refine nmV hn hm ?_
      refine item_at (hnl.at fun o e => K₃ _ o e) (by omega) hnat ?_
      refine spliced_more ?_
      refine wpAny_mono (val_eval (c := j) (n := n + 10) (G.keeps K₃) R' (by omega) (nmV hn hm ⟨⟨_, rfl⟩, Keeps.refl _⟩)) (fun y s₄ hy => ?_) fun _ _ e => e
      obtain ⟨⟨ty, rfl⟩, h₄', tk₄', rfl, hk₄'⟩ := hy
      refine spliced_none ?_
      refine wpAny_newTuple ?_
      refine ⟨⟨_, _, rfl, ?_, Heap.get?_push_size _ rfl, j, tj, tn, ty, rfl, rfl, _, rfl⟩, ⟨_, _, rfl, fun b o e => Heap.get?_push_of_some _ (hk₄' b o e)⟩⟩
      cases e : s₃.heap.get? h₄'.objs.size with
      | none => rfl
      | some o => exact absurd (Heap.lt_size (hk₄' _ _ e)) (Nat.lt_irrefl _)
    intro D₉ h₉ tk₉ ys hD₉ hDl₉ hP₉ hk₉
    have ht₉ := rows_tups hP₉ a1
    have hu : A'.units + 64 < cLine := by have := R'.u; show A'.units + 64 < 9900; omega
    refine eq_tups (rows := TT.map (rowF nm)) (hDl'.at fun o e => hk₉ _ o e) hDl₉.isList ((RP₈.keeps hk₉).t) ht₉ (fun r hr => ?_) hu ?_
    · obtain ⟨j, hj, rfl⟩ := List.mem_map.mp hr
      have hj' := RP₈.lt j hj
      exact ⟨fun c hc => ((I.ok j hj').1 c hc).2.2, fun c hc => Nat.lt_trans ((val_ok (by omega)).1 c hc).2 (by decide)⟩
    · refine ⟨rfl, h₉, tk₉, rfl, fun b o hb e => hk₉ b o (F₈.keep b o ?_)⟩
      exact (Heap.hide_ne s.heap hb).trans e
end
end

section
/-- all objects that are lists or tuples stand -/
noncomputable def SK (h h' : Heap) : Prop := ∀ b o items n, o.data = .seq items n → h.get? b = some o → h'.get? b = some o
theorem SK.of {h h' : Heap} (hk : ∀ b o, h.get? b = some o → h'.get? b = some o) : SK h h' := fun b o _ _ _ e => hk b o e
theorem SK.trans {h h' h'' : Heap} (a : SK h h') (b : SK h' h'') : SK h h'' := fun x o i n d e => b x o i n d (a x o i n d e)
theorem SK.list {h h' : Heap} (k : SK h h') {a : Addr} {items : Array Value} (hl : h.IsList a items) : h'.IsList a items := by
  obtain ⟨o, ho, hc, n, hd⟩ := hl
  exact ⟨o, k _ _ _ _ hd ho, hc, n, hd⟩
theorem SK.plain {h h' : Heap} (k : SK h h') {a : Addr} {items : Array Value} (hl : h.PlainList a items) : h'.PlainList a items := by
  obtain ⟨n, ho⟩ := hl
  exact ⟨n, k _ _ _ _ rfl ho⟩
/-- the frame of the law, its cells, its lists -/
structure LS (g : Heap) (L : Addr) (m : Str → Option Value) (cs : List (Addr × Option Value)) (ls : List (Addr × Array Value)) (rs : List (Addr × Array Value)) (h : Heap) : Prop where
  F : Fr g L h m
  C : ∀ p ∈ cs, p.1 ≠ L ∧ g.get? p.1 = none ∧ h.IsCell p.1 p.2
  S : ∀ p ∈ ls, h.IsList p.1 p.2
  P : ∀ p ∈ rs, h.PlainList p.1 p.2
theorem LS.keeps {g : Heap} {L : Addr} {m : Str → Option Value} {cs : List (Addr × Option Value)} {ls rs : List (Addr × Array Value)} {h h' : Heap} (x : LS g L m cs ls rs h) (hk : ∀ b o, h.get? b = some o → h'.get? b = some o) : LS g L m cs ls rs h' :=
  ⟨x.F.keeps hk, fun p hp => ⟨(x.C p hp).1, (x.C p hp).2.1, let ⟨o, ho, hd⟩ := (x.C p hp).2.2; ⟨o, hk _ _ ho, hd⟩⟩, fun p hp => (SK.of hk).list (x.S p hp), fun p hp => (SK.of hk).plain (x.P p hp)⟩
theorem LS.add {g : Heap} {L : Addr} {m : Str → Option Value} {cs : List (Addr × Option Value)} {ls rs : List (Addr × Array Value)} {h : Heap} (x : LS g L m cs ls rs h) {a : Addr} {items : Array Value} (hl : h.IsList a items) : LS g L m cs ((a, items) :: ls) rs h :=
  ⟨x.F, x.C, fun p hp => by rcases List.mem_cons.mp hp with rfl | hp; exact hl; exact x.S p hp, x.P⟩
section
variable {prog : Program} {w : World} {A : Around} {E : Value → Shared → Prop} {s : Shared}
theorem ls_set {env : Env} {g : Heap} {L : Addr} {m : Str → Option Value} {cs : List (Addr × Option Value)} {ls rs : List (Addr × Array Value)} {x : Str} {v : Value} {Q : Unit → Shared → Prop}
    (hL : env.locals = L) (hx : env.kindOf x = some .local) (hp : (env.scope.kind == .class || (env.scope.kind == .module && env.locals != env.globals)) = false) (Z : LS g L m cs ls rs s.heap)
    (h : ∀ h' tk', LS g L (fun y => if y = x then some v else m y) cs ls rs h' → Q () { s with heap := h', toks := tk' }) :
    wpAny (model prog w) A (storeName env x v) Q E s := by
  refine wpAny_storeName_local hx (by rw [hL]; exact Z.F.ns) (fun h₂ hn₂ hs₂ => ?_) hp
  rw [hL] at hn₂ hs₂
  have hk : ∀ b o, b ≠ L → s.heap.get? b = some o → h₂.get? b = some o := fun b o hb e => hs₂.extBut b o hb e
  have sk : SK s.heap h₂ := fun b o items n hd ho => hk b o (seq_ne Z.F.ns ho hd) ho
  exact h h₂ _ ⟨Z.F.set hn₂ hs₂, fun p hp => ⟨(Z.C p hp).1, (Z.C p hp).2.1, let ⟨o, ho, hd⟩ := (Z.C p hp).2.2; ⟨o, hk _ _ (Z.C p hp).1 ho, hd⟩⟩, fun p hp => sk.list (Z.S p hp), fun p hp => sk.plain (Z.P p hp)⟩
theorem ls_setc {env : Env} {g : Heap} {L c : Addr} {m : Str → Option Value} {cs cs' : List (Addr × Option Value)} {ls rs : List (Addr × Array Value)} {x : Str} {v : Value} {v₀ : Option Value} {Q : Unit → Shared → Prop}
    (hk : env.scope.kind = .function) (hx : env.kindOf x = some .cell) (hc : env.cells.lookup x = some c) (Z : LS g L m cs ls rs s.heap) (hm : (c, v₀) ∈ cs) (hcs : ∀ p ∈ cs', p = (c, some v) ∨ (p ∈ cs ∧ p.1 ≠ c))
    (h : ∀ h', LS g L m cs' ls rs h' → Q () { s with heap := h' }) :
    wpAny (model prog w) A (storeName env x v) Q E s := by
  obtain ⟨hcL, hcn, oc, hoc, hod⟩ := Z.C _ hm
  refine wpAny_storeName_cell hk hx hc ⟨oc, hoc, hod⟩ fun h₃ hc₃ hs₃ => ?_
  have sk : SK s.heap h₃ := fun b o items n hd ho => hs₃.extBut b o (by rintro rfl; rw [ho] at hoc; cases hoc; rw [hd] at hod; cases hod) ho
  refine h h₃ ⟨Z.F.change hs₃ hcL hcn, fun p hp => ?_, fun p hp => sk.list (Z.S p hp), fun p hp => sk.plain (Z.P p hp)⟩
  rcases hcs p hp with rfl | ⟨hq, hne⟩
  · exact ⟨hcL, hcn, hc₃⟩
  · obtain ⟨h1, h2, o, ho, hd⟩ := Z.C p hq
    exact ⟨h1, h2, o, hs₃.extBut _ _ hne ho, hd⟩
/-- a cell's name -/
theorem nmC {env : Env} {g : Heap} {L c : Addr} {m : Str → Option Value} {cs : List (Addr × Option Value)} {ls rs : List (Addr × Array Value)} {x : Str} {pos : Pos} {v : Value} {Q : Value → Shared → Prop} {h : Heap} (Z : LS g L m cs ls rs h) (hm : (c, some v) ∈ cs) (hk' : ∀ b o, h.get? b = some o → s.heap.get? b = some o)
    (hc : env.cells.lookup x = some c) (hQ : Q v s) (hk : env.scope.kind = .function := by rfl) (hx : env.kindOf x = some .cell := by rfl) (hd : (x == ("__debug__" : Str)) = false := by decide) :
    wpAny (model prog w) A (eval (.Name x pos) env) Q E s := by
  obtain ⟨_, _, o, ho, hod⟩ := Z.C _ hm
  exact nmF hc (hk' _ _ ho) hod hQ hk hx hd
theorem sum_all {l : Addr} {vs : List Value} {ns : List Int} {Q : Value → Shared → Prop} (hh : A.handled = none) (hl : s.heap.IsList l vs.toArray) (hi : IntsAre vs ns)
    (h : ∀ h' tk t', (∀ b o, s.heap.get? b = some o → h'.get? b = some o) → Q (.int ns.sum t') { s with heap := h', toks := tk }) : wpAny (model prog w) A (call (.builtin "sum") [.ref l]) Q E s := by
  obtain ⟨xs, hx⟩ := hi.allInts.items
  have hn : numsOf vs.toArray.toList = ns := hi.numsOf
  rw [hx] at hl hn
  refine sum_intListG hh hl fun h' tk t' hk => ?_
  rw [nums_intItems] at hn
  have e2 : preSum (numAt xs) xs.size = ns.sum := by rw [preSum_eq, List.take_of_length_le (by simp), hn]
  rw [e2]
  exact h h' tk t' hk
end
theorem pick_upto (items : Array Value) (b : Nat) : slicePick items none (some (b : Int)) none = (items.toList.take b).toArray := by
  by_cases hb : b ≤ items.size
  · exact slicePick_upto items b hb
  · have e : slicePick items none (some (b : Int)) none = slicePick items none (some (items.size : Int)) none := by
      unfold slicePick
      have : sliceBounds none (some (b : Int)) none items.size = sliceBounds none (some (items.size : Int)) none items.size := by
        have h1 : ¬ ((b : Int) < 0) := by omega
        have h2 : ¬ ((items.size : Int) < 0) := by omega
        have h3 : min (b : Int) items.size = items.size := by omega
        simp only [sliceBounds, h1, h2, if_false]
        simp [h3]
      rw [this]
    rw [e, slicePick_upto items _ (Nat.le_refl _), List.take_of_length_le (by simp), List.take_of_length_le (by simp; omega)]
theorem cells_four {cm : Str → Option Value} {n1 n2 n3 n4 : Str} {c1 c2 c3 c4 : Addr} {cells : List (Addr × Obj)} (x : CellsAre cm [(n1, c1), (n2, c2), (n3, c3), (n4, c4)] cells) :
    ∃ o1 o2 o3 o4, cells = [(c1, o1), (c2, o2), (c3, o3), (c4, o4)] ∧ o1.data = .cell (cm n1) ∧ o2.data = .cell (cm n2) ∧ o3.data = .cell (cm n3) ∧ o4.data = .cell (cm n4) := by
  cases x with
  | cons h r => cases r with
    | cons h' r => obtain ⟨o3, o4, rfl, h3, h4⟩ := r.two; exact ⟨_, _, o3, o4, rfl, h, h', h3, h4⟩
section
variable {prog : Program} {w : World} {A : Around} {E : Value → Shared → Prop} {s : Shared}
theorem slice_six {env : Env} {value : PySem.Expr} {ps pc : Pos} {k : Nat} {sc : Addr} {vs : List Value} {Q : Value → Shared → Prop} (hl : s.heap.IsList sc vs.toArray) (hz : vs.length ≤ 1000)
    (h : ∀ h' D tk, (∀ b o, s.heap.get? b = some o → h'.get? b = some o) → h'.IsList D (vs.take 6).toArray → Q (.ref D) { s with heap := h', toks := tk }) :
    wpAny (model prog w) A (eval (.Slice none (some (.Constant (.int 6) k pc)) none ps) env) (fun i s₂ => wpAny (model prog w) A (subscriptTail value (.Slice none (some (.Constant (.int 6) k pc)) none ps) (.ref sc) i) Q E s₂) E s := by
  refine wpAny_Slice ?_
  refine evalPart_none_step ?_
  refine evalPart_some_step ?_
  refine wpAny_Constant_int ?_
  refine evalPart_none_step ?_
  dsimp only
  have hk : ∀ b o, s.heap.get? b = some o → (s.heap.push { cls := .type "slice", data := .fields #[.none, .int 6 s.toks, .none] }).get? b = some o := fun b o e => Heap.get?_push_of_some _ e
  have hl' : (s.heap.push { cls := .type "slice", data := .fields #[.none, .int 6 s.toks, .none] }).IsList sc vs.toArray := hl.push _
  refine tail_any (T := "list") (ops := [.ref s.heap.objs.size, .ref sc]) (Heap.IsList.typeIs (s := ⟨_, _, _, _, _⟩) hl') slot_list_getitem.lookup (wpAny_getItem_list_slice hl' (Heap.IsSliceOf.new ..) .none (.int _ _) .none (by simp) ?_ (by simp only [List.size_toArray, sizeLine]; omega)) (by with_unfolding_all rfl)
  have e : slicePick vs.toArray none (some 6) none = (vs.take 6).toArray := pick_upto vs.toArray 6
  rw [e]
  exact h _ _ _ (fun b o e => Heap.get?_push_of_some _ (hk b o e)) ⟨_, Heap.get?_push_size _ rfl, rfl, _, rfl⟩
end
section
variable {prog : Program} {w : World} {A : Around} {E : Value → Shared → Prop} {s : Shared}
theorem add_strs {x y : Str} {t u : Tok} {Q : Value → Shared → Prop} (hx : x.length ≠ 0) (hy : y.length ≠ 0) (hz : x.length + y.length ≤ 1000) (h : Q (.str (x ++ y) s.toks) { s with toks := s.toks + 1 }) : wpAny (model prog w) A (binaryOp .Add (.str x t) (.str y u)) Q E s := by
  refine PySem.P.add_str ?_
  rw [if_neg (by simpa using hx), if_neg (by simpa using hy)]
  refine ⟨?_, h⟩
  show (x ++ y).length ≤ sizeLine
  have e : (x ++ y).length = x.length + y.length := Str.length_append x y
  simp only [sizeLine]
  omega
end
end

section
noncomputable def Int1 (f : Int → Value → Prop) (v y : Value) : Prop := ∃ k t, v = .int k t ∧ f k y
inductive RowsAre : List Value → List (Addr × Array Value) → List (List Int) → Prop
  | nil : RowsAre [] [] []
  | cons {a : Addr} {items : Array Value} {f : List Int} {ys : List Value} {rs : List (Addr × Array Value)} {fs : List (List Int)} : IntsAre items.toList f → RowsAre ys rs fs → RowsAre (.ref a :: ys) ((a, items) :: rs) (f :: fs)
noncomputable def RowsG (v : Value) (o : Obj) : Prop := ∃ (k : Int) (t : Tok) (vs : List Value) (n : Nat), v = .int k t ∧ o = { cls := .type "list", data := .seq vs.toArray n } ∧ IntsAre vs (figF k)
theorem rows_are {h g : Heap} {D : Addr} {vs ys : List Value} (hp : Paired (fun v y => ∃ a o, y = .ref a ∧ g.get? a = none ∧ a ≠ D ∧ h.get? a = some o ∧ RowsG v o) vs ys) : ∀ {ds : List Int}, IntsAre vs ds → ∃ rs, RowsAre ys rs (ds.map figF) ∧ ∀ p ∈ rs, h.PlainList p.1 p.2 := by
  induction hp with
  | nil => intro ds hi; cases hi; exact ⟨[], .nil, fun p hp => by cases hp⟩
  | cons hx _ ih =>
    intro ds hi
    cases hi with
    | cons n t hi =>
      obtain ⟨a, o, rfl, _, _, ho, k, t, vs, n, ev, rfl, hI⟩ := hx
      cases ev
      obtain ⟨rs, h1, h2⟩ := ih hi
      refine ⟨(a, vs.toArray) :: rs, .cons (by simpa using hI) h1, fun p hp => ?_⟩
      rcases List.mem_cons.mp hp with rfl | hp
      · exact ⟨n, ho⟩
      · exact h2 p hp
theorem ints_inj {vs : List Value} {ns : List Int} (h : IntsAre vs ns) : ∀ {ms : List Int}, IntsAre vs ms → ns = ms := by
  induction h with
  | nil => intro ms h; cases h; rfl
  | cons n t _ ih => intro ms h; cases h with | cons _ _ h => rw [ih h]
theorem RowsAre.mem {ys : List Value} {rs : List (Addr × Array Value)} {fs : List (List Int)} (x : RowsAre ys rs fs) : ∀ {v : Value}, v ∈ ys → ∃ a items f, v = .ref a ∧ (a, items) ∈ rs ∧ f ∈ fs ∧ IntsAre items.toList f := by
  induction x with
  | nil => intro v hv; cases hv
  | cons hi r ih =>
    intro v hv
    rcases List.mem_cons.mp hv with rfl | hv
    · exact ⟨_, _, _, rfl, .head _, .head _, hi⟩
    · obtain ⟨a, items, f, e, h1, h2, h3⟩ := ih hv
      exact ⟨a, items, f, e, .tail _ h1, .tail _ h2, h3⟩
theorem RowsAre.length {ys : List Value} {rs : List (Addr × Array Value)} {fs : List (List Int)} (x : RowsAre ys rs fs) : ys.length = fs.length := by
  induction x with
  | nil => rfl
  | cons _ _ ih => simp [ih]
/-- what is made of a row -/
noncomputable def RowTo (rs : List (Addr × Array Value)) (f : List Int → Value → Prop) (v y : Value) : Prop := ∃ a items g, v = .ref a ∧ (a, items) ∈ rs ∧ IntsAre items.toList g ∧ f g y
theorem RowsAre.to {rs₀ : List (Addr × Array Value)} (hU : ∀ a i i', (a, i) ∈ rs₀ → (a, i') ∈ rs₀ → i = i') {f : List Int → Value → Prop} {ys : List Value} {rs : List (Addr × Array Value)} {fs : List (List Int)} (x : RowsAre ys rs fs) : ∀ {zs : List Value}, (∀ p ∈ rs, p ∈ rs₀) → Paired (RowTo rs₀ f) ys zs → Paired f fs zs := by
  induction x with
  | nil => intro zs _ hp; cases hp; exact .nil
  | cons hi _ ih =>
    intro zs hs hp
    cases hp with
    | cons hx p =>
      obtain ⟨a, items, g, e, hm, hg, hf⟩ := hx
      cases e
      have := hU _ _ _ hm (hs _ (.head _))
      subst this
      rw [ints_inj hi hg]
      exact .cons hf (ih (fun q hq => hs q (.tail _ hq)) p)
theorem LS.unique {g : Heap} {L : Addr} {m : Str → Option Value} {cs : List (Addr × Option Value)} {ls rs : List (Addr × Array Value)} {h : Heap} (x : LS g L m cs ls rs h) : ∀ a i i', (a, i) ∈ rs → (a, i') ∈ rs → i = i' := by
  intro a i i' h1 h2
  obtain ⟨n, e1⟩ := x.P _ h1
  obtain ⟨n', e2⟩ := x.P _ h2
  rw [e1] at e2
  cases e2
  rfl
theorem LS.addRows {g : Heap} {L : Addr} {m : Str → Option Value} {cs : List (Addr × Option Value)} {ls : List (Addr × Array Value)} {h : Heap} (x : LS g L m cs ls [] h) {rs : List (Addr × Array Value)} (hr : ∀ p ∈ rs, h.PlainList p.1 p.2) : LS g L m cs ls rs h := ⟨x.F, x.C, x.S, hr⟩
noncomputable def BytesAre (zs : List Value) (bs : List (Array UInt8)) : Prop := Paired (fun (b : Array UInt8) z => ∃ t, z = .bytes b t) bs zs
theorem paired_map {α β γ : Type} {F : β → γ → Prop} {f : α → β} : ∀ {l : List α} {zs : List γ}, Paired (fun a z => F (f a) z) l zs → Paired F (l.map f) zs
  | _, _, .nil => .nil
  | _, _, .cons h r => .cons h (paired_map r)
theorem paired_mem {α γ : Type} {F : α → γ → Prop} : ∀ {l : List α} {zs : List γ}, Paired F l zs → ∀ {z : γ}, z ∈ zs → ∃ a ∈ l, F a z
  | _, _, .cons h r, z, hz => by
    rcases List.mem_cons.mp hz with rfl | hz
    · exact ⟨_, .head _, h⟩
    · obtain ⟨a, ha, hf⟩ := paired_mem r hz; exact ⟨a, .tail _ ha, hf⟩
/-- a map of bytes to a text -/
noncomputable def ByTo (f : Array UInt8 → Str) (v y : Value) : Prop := ∃ b t t', v = .bytes b t ∧ y = .str (f b) t'
theorem by_strs {f : Array UInt8 → Str} {zs : List Value} {bs : List (Array UInt8)} (h : Paired (fun (b : Array UInt8) z => ∃ t, z = .bytes b t) bs zs) : ∀ {ys : List Value}, Paired (ByTo f) zs ys → StrsAre ys (bs.map f) := by
  induction h with
  | nil => intro ys h; cases h; exact .nil
  | cons hx _ ih =>
    intro ys h
    cases h with
    | cons hy r =>
      obtain ⟨t, rfl⟩ := hx
      obtain ⟨b, u, u', e', rfl⟩ := hy
      cases e'
      exact .cons _ _ (ih r)
theorem to_ints {f : Int → Int} {vs : List Value} {ns : List Int} (h : IntsAre vs ns) : ∀ {ys : List Value}, Paired (Int1 fun k y => ∃ t, y = .int (f k) t) vs ys → IntsAre ys (ns.map f) := by
  induction h with
  | nil => intro ys h; cases h; exact .nil
  | cons n t _ ih =>
    intro ys h
    cases h with
    | cons hx r =>
      obtain ⟨k, t, e, t', rfl⟩ := hx
      cases e
      exact .cons _ _ (ih r)
theorem to_strs {f : Int → Str} {vs : List Value} {ns : List Int} (h : IntsAre vs ns) : ∀ {ys : List Value}, Paired (Int1 fun k y => ∃ t, y = .str (f k) t) vs ys → StrsAre ys (ns.map f) := by
  induction h with
  | nil => intro ys h; cases h; exact .nil
  | cons n t _ ih =>
    intro ys h
    cases h with
    | cons hx r =>
      obtain ⟨k, t, e, t', rfl⟩ := hx
      cases e
      exact .cons _ _ (ih r)
theorem fs_strs {f : List Int → Str} : ∀ {fs : List (List Int)} {ys : List Value}, Paired (fun g y => ∃ t, y = Value.str (f g) t) fs ys → StrsAre ys (fs.map f)
  | _, _, .nil => .nil
  | _, _, .cons ⟨t, e⟩ r => by subst e; exact .cons _ _ (fs_strs r)
theorem fs_ints {f : List Int → Int} : ∀ {fs : List (List Int)} {ys : List Value}, Paired (fun g y => ∃ t, y = Value.int (f g) t) fs ys → IntsAre ys (fs.map f)
  | _, _, .nil => .nil
  | _, _, .cons ⟨t, e⟩ r => by subst e; exact .cons _ _ (fs_ints r)
theorem ints_mem {vs : List Value} {ns : List Int} (h : IntsAre vs ns) {v : Value} (hv : v ∈ vs) : ∃ k t, v = .int k t ∧ k ∈ ns := by
  obtain ⟨i, hi, e⟩ := List.getElem_of_mem hv
  obtain ⟨k, t, rfl, hk⟩ := IntsAre.at h i v (by rw [List.getElem?_eq_getElem hi, e])
  exact ⟨k, t, rfl, List.mem_of_getElem? hk⟩
theorem LS.assigned {g : Heap} {L : Addr} {m m' : Str → Option Value} {cs : List (Addr × Option Value)} {ls rs : List (Addr × Array Value)} {h h' : Heap} (x : LS g L m cs ls rs h) (hn : h'.Ns L m') (hk : ∀ b o, b ≠ L → h.get? b = some o → h'.get? b = some o) : LS g L m' cs ls rs h' := by
  have sk : SK h h' := fun b o items n hd ho => hk b o (seq_ne x.F.ns ho hd) ho
  refine ⟨⟨hn, fun b o e => hk b o (fun q => ?_) (x.F.keep b o e), x.F.above⟩, fun p hp => ⟨(x.C p hp).1, (x.C p hp).2.1, ?_⟩, fun p hp => sk.list (x.S p hp), fun p hp => sk.plain (x.P p hp)⟩
  · rw [q] at e
    exact absurd (Heap.lt_size e) (Nat.not_lt.mpr x.F.above)
  · obtain ⟨h1, _, o, ho, hd⟩ := x.C p hp
    exact ⟨o, hk _ _ h1 ho, hd⟩
end

section
noncomputable def deedsF (ns : List Int) : List Int := [1, 109, 14, 6, 48, 139, 30, 193, 206, 198029003] ++ ns.take 6
noncomputable def oneF (k : Int) : Int := if k < 95 then 32 + k else 33 + k
noncomputable def d0F (ns : List Int) : Int := oneF ((ns.sum + 11).fmod 223)
noncomputable def d1F (ns : List Int) : Int := oneF (((ns.sum + 15).fmod 224).fmod 223)
noncomputable def OneRel (v y : Value) : Prop := ∃ k t t', v = .int k t ∧ y = .int (oneF k) t'
/-- an octet that a name may have -/
noncomputable def Oct (d : Int) : Prop := 32 ≤ d ∧ d ≤ 255 ∧ d ≠ 127
theorem one_oct {k : Int} (h0 : 0 ≤ k) (h1 : k < 223) : Oct (oneF k) := by
  unfold oneF Oct
  split <;> omega
theorem d0_oct (ns : List Int) : Oct (d0F ns) := one_oct (Int.fmod_nonneg_of_pos _ (by omega)) (Int.fmod_lt_of_pos _ (by omega))
theorem d1_oct (ns : List Int) : Oct (d1F ns) := one_oct (Int.fmod_nonneg_of_pos _ (by omega)) (Int.fmod_lt_of_pos _ (by omega))
theorem deeds_len (ns : List Int) : 10 ≤ (deedsF ns).length ∧ (deedsF ns).length ≤ 16 := by
  simp only [deedsF, List.length_append, List.length_take, List.length_cons, List.length_nil]
  omega
/-- a row of figures as the law makes them -/
noncomputable def Fig (f : List Int) : Prop := ∃ a b c d : Int, (0 ≤ a ∧ a < 64) ∧ (0 ≤ b ∧ b < 64) ∧ (0 ≤ c ∧ c < 64) ∧ (0 ≤ d ∧ d < 64) ∧ (f = [a, b, c, d] ∨ f = [a, b, c / 4 * 4, 64] ∨ f = [a, b / 16 * 16, 64, 64])
theorem swap_fig {r : Int} {i : Nat} {v : Int} (h0 : 0 ≤ v) (h1 : v < 64) : 0 ≤ swapF r i v ∧ swapF r i v < 64 := by
  unfold swapF
  have e1 := Int.fmod_nonneg_of_pos (v + 26) (show (0 : Int) < 52 by omega)
  have e2 := Int.fmod_lt_of_pos (v + 26) (show (0 : Int) < 52 by omega)
  split
  · split
    · omega
    · split <;> omega
  · omega
theorem raw_fig (x : Int) : ∃ a b c d : Int, rawF x = [a, b, c, d] ∧ (0 ≤ a ∧ a < 64) ∧ (0 ≤ b ∧ b < 64) ∧ (0 ≤ c ∧ c < 64) ∧ (0 ≤ d ∧ d < 64) := by
  have m64 : ∀ y : Int, 0 ≤ y.fmod 64 ∧ y.fmod 64 < 64 := fun y => ⟨Int.fmod_nonneg_of_pos _ (by omega), Int.fmod_lt_of_pos _ (by omega)⟩
  unfold rawF
  dsimp only
  split
  · exact ⟨_, _, _, _, rfl, m64 _, m64 _, m64 _, m64 _⟩
  split
  · exact ⟨_, _, _, _, rfl, swap_fig (by omega) (by omega), swap_fig (by omega) (by omega), swap_fig (by omega) (by omega), swap_fig (by omega) (by omega)⟩
  · exact ⟨_, _, _, _, rfl, swap_fig (by omega) (by omega), swap_fig (by omega) (by omega), swap_fig (by omega) (by omega), swap_fig (by omega) (by omega)⟩
theorem fig_ok (x : Int) : Fig (figF x) := by
  obtain ⟨a, b, c, d, e, ha, hb, hc, hd⟩ := raw_fig x
  refine ⟨a, b, c, d, ha, hb, hc, hd, ?_⟩
  unfold figF
  rw [e]
  unfold cutF
  dsimp only
  rw [Int.fdiv_eq_ediv_of_nonneg _ (show (0 : Int) ≤ 4 by omega), Int.fdiv_eq_ediv_of_nonneg _ (show (0 : Int) ≤ 16 by omega)]
  split
  · exact .inr (.inl rfl)
  split
  · exact .inr (.inr rfl)
  · exact .inl rfl
theorem Fig.len {f : List Int} (h : Fig f) : f.length = 4 := by
  obtain ⟨a, b, c, d, _, _, _, _, rfl | rfl | rfl⟩ := h <;> rfl
theorem Fig.range {f : List Int} (h : Fig f) : ∀ k ∈ f, 0 ≤ k ∧ k ≤ 64 := by
  obtain ⟨a, b, c, d, ha, hb, hc, hd, rfl | rfl | rfl⟩ := h <;> (intro k hk; simp only [List.mem_cons, List.not_mem_nil, or_false] at hk; rcases hk with rfl | rfl | rfl | rfl <;> omega)
theorem Fig.count {f : List Int} (h : Fig f) : f.count 64 ≤ 2 := by
  obtain ⟨a, b, c, d, ha, hb, hc, hd, rfl | rfl | rfl⟩ := h
  · have h1 : (a == 64) = false := by simp; omega
    have h2 : (b == 64) = false := by simp; omega
    have h3 : (c == 64) = false := by simp; omega
    have h4 : (d == 64) = false := by simp; omega
    simp [List.count_cons, h1, h2, h3, h4]
  · have h1 : (a == 64) = false := by simp; omega
    have h2 : (b == 64) = false := by simp; omega
    have h3 : (c / 4 * 4 == 64) = false := by simp; omega
    simp [List.count_cons, h1, h2, h3]
  · have h1 : (a == 64) = false := by simp; omega
    have h2 : (b / 16 * 16 == 64) = false := by simp; omega
    simp [List.count_cons, h1, h2]
theorem Fig.oct {f : List Int} (h : Fig f) : (octF f).size = 1 ∨ (octF f).size = 2 ∨ (octF f).size = 3 := by
  have hc := h.count
  have e : (octF f).size = (3 - ((f.count 64 : Nat) : Int)).toNat := by
    simp only [octF, octNums, List.size_toArray, List.length_map, List.length_take, List.length_cons, List.length_nil]
    omega
  rw [e]
  omega
/-- the names -/
noncomputable def b16B (b : Array UInt8) : Array UInt8 := (((hexStr b).cps.map fun c => c.toUInt8).toList.map Builtin.Bytes.toUpper).toArray
noncomputable def narB (b : Array UInt8) : Str := textF (KBw.bInts (b16B b))
noncomputable def oU (d : Int) : UInt8 := d.toNat.toUInt8
noncomputable def b64B (p q : UInt8) (b : Array UInt8) : Array UInt8 := trOut ((b64I b).map fun n => n.toNat.toUInt8).toArray (mkTab p q)
noncomputable def widB (p q : UInt8) (b : Array UInt8) : Str := textF (KBw.bInts (b64B p q b))
noncomputable def abcS : Str := Str.ofString "ABCDEFGHIJKLMNOPQRSTUVWXYZabcdefghijklmnopqrstuvwxyz0123456789"
theorem abc_len : abcS.length = 62 := by decide +kernel
noncomputable def alphaS (d0 d1 : Int) : Str := abcS ++ textF [d0, d1] ++ Str.ofString "="
theorem alpha_len1 (d0 d1 : Int) : (abcS ++ textF [d0, d1]).length = 64 := by rw [Str.length_append, abc_len]; rfl
theorem alpha_len (d0 d1 : Int) : (alphaS d0 d1).length = 65 := by unfold alphaS; rw [Str.length_append, alpha_len1]; decide
noncomputable def hexesS : Str := Str.ofString "0123456789ABCDEF"
noncomputable def keyM (f : Int → Int) (g : List Int) : Int := keyF (g.map f)
end

section
noncomputable def chS (x : Str) (k : Nat) : Str := ⟨#[x.cps.getD k 0]⟩
noncomputable def hexC (c : Int) : Str := chS hexesS (c.fdiv 16).toNat ++ chS hexesS (c.fmod 16).toNat
noncomputable def hexT (b : Array UInt8) : Str := Txt.join (Str.ofString "") ((KBw.bInts b).map hexC)
noncomputable def alT (d0 d1 : Int) (g : List Int) : Str := Txt.join (Str.ofString "") (g.map fun i => chS (alphaS d0 d1) i.toNat)
noncomputable def sortsL (d0 d1 : Int) : List Int := ((List.range 52).map fun i => (Int.ofNat i).fmod 26) ++ [48, 49, 50, 51, 52, 53, 54, 55, 56, 57] ++ [kindF d0, kindF d1] ++ [61]
noncomputable def sortF (d0 d1 : Int) (i : Int) : Int := (sortsL d0 d1).getD i.toNat 0
theorem range_map {α β : Type} (l : List α) (f : α → β) (d : α) : l.map f = (List.range l.length).map fun i => f (l.getD i d) := by
  apply List.ext_getElem
  · simp
  · intro i h1 h2
    simp only [List.length_map] at h1
    simp [h1]
section
variable {prog : Program} {w : World} {A : Around} {E : Value → Shared → Prop} {s : Shared}
theorem item_ch {value slice : PySem.Expr} {x : Str} {t u : Tok} {k : Int} {Q : Value → Shared → Prop} (h0 : 0 ≤ k) (hk : k < x.length) (hz : x.length ≤ 1000) (h : Q (.str (chS x k.toNat) s.toks) { s with toks := s.toks + 1 })
    (hs : subscripted slice false (.str x t) (.int k u) = operate [.str x t, .int k u] (getItem (.str x t) (.int k u)) := by with_unfolding_all rfl) :
    wpAny (model prog w) A (subscriptTail value slice (.str x t) (.int k u)) Q E s := by
  have hlt : k.toNat < x.cps.size := by have : x.length = x.cps.size := rfl; omega
  refine tail_any (typeIs_str _ _ _) PySem.F.slot_str_getitem.lookup (PySem.P.getItem_str (c := x.cps.getD k.toNat 0) ?_ ?_ h) hs
  · rw [Bool.or_eq_false_iff]
    exact ⟨decide_eq_false (by omega), decide_eq_false (by omega)⟩
  · have e : seqIndex? k x.length = some k.toNat := by
      unfold seqIndex?
      dsimp only
      rw [if_neg (show ¬ k < 0 by omega), if_pos (by rw [Bool.and_eq_true]; exact ⟨decide_eq_true h0, decide_eq_true hk⟩)]
    rw [e]
    show x.cps[k.toNat]? = _
    rw [Array.getElem?_eq_getElem hlt, Array.getD, dif_pos hlt]; rfl
theorem fl_16 {a : Int} {t u : Tok} {Q : Value → Shared → Prop} (h : Q (.int (a.fdiv 16) s.toks) { s with toks := s.toks + 1 }) : wpAny (model prog w) A (binaryOp .FloorDiv (.int a t) (.int 16 u)) Q E s :=
  PyProof.Rows.floordiv_int (by decide) h
end
theorem LS.vals {g : Heap} {L : Addr} {m : Str → Option Value} {cs : List (Addr × Option Value)} {ls rs : List (Addr × Array Value)} {h h' : Heap} {l : Addr} (x : LS g L m cs ls rs h) (hl : h.get? l = none) (hk : ∀ b o, b ≠ l → h.get? b = some o → h'.get? b = some o) : LS g L m cs ls rs h' :=
  x.keeps fun b o e => hk b o (by rintro rfl; rw [hl] at e; cases e) e
theorem run_gd {w : World} {g h : Heap} {l : Addr} (G : Gd w g) (hk : ∀ b o, g.get? b = some o → h.get? b = some o) (hl : g.get? l = none) : Gd w (h.hide l) := by
  refine G.keeps fun b o e => ?_
  have q : b ≠ l := by rintro rfl; rw [hl] at e; cases e
  exact (Heap.hide_ne h q).trans (hk b o e)
theorem hide_list {h : Heap} {a l : Addr} {items : Array Value} (hl : h.IsList a items) (hne : a ≠ l) : (h.hide l).IsList a items := by
  obtain ⟨o, ho, r⟩ := hl
  exact ⟨o, (Heap.hide_ne h hne).trans ho, r⟩
theorem list_ne {h : Heap} {a l : Addr} {items : Array Value} (hl : h.IsList a items) (hn : h.get? l = none) : a ≠ l := by
  rintro rfl
  obtain ⟨o, ho, _⟩ := hl
  rw [hn] at ho; cases ho
theorem LS.sub {g : Heap} {L : Addr} {m : Str → Option Value} {cs : List (Addr × Option Value)} {ls ls' rs : List (Addr × Array Value)} {h : Heap} (x : LS g L m cs ls rs h) (hs : ∀ p ∈ ls', p ∈ ls) : LS g L m cs ls' rs h := ⟨x.F, x.C, fun p hp => x.S p (hs p hp), x.P⟩
theorem mk_runin {h : Heap} {aw an ak : Addr} {ya yn yk : Array Value} {ds : List Int} {fs : List (List Int)} {nmF : List Int → Str} {kf : List Int → Int} (ha : h.IsList aw ya) (hn : h.IsList an yn) (hk : h.IsList ak yk)
    (hai : IntsAre ya.toList (ds.map fun k => k.fmod 4)) (hni : StrsAre yn.toList (fs.map nmF)) (hki : IntsAre yk.toList (fs.map kf)) (hz : ds.length ≤ 16) (hdf : ds.length = fs.length) (hfig : ∀ g ∈ fs, Fig g) (hok : ∀ g, Fig g → NameOk (nmF g))
    (hsame : ∀ g g', Fig g → Fig g' → (lowF (nmF g) = lowF (nmF g') ↔ kf g = kf g')) :
    RunIn h aw an ak fs.length (fun i => (ds.getD i 0).fmod 4) (fun i => kf (fs.getD i [])) (fun i => nmF (fs.getD i [])) := by
  have hf : ∀ i, i < fs.length → Fig (fs.getD i []) := fun i hi => by
    have e : fs.getD i [] = fs[i] := by simp [hi]
    rw [e]; exact hfig _ (List.getElem_mem hi)
  refine ⟨⟨ya.toList, ha, ?_⟩, ⟨yn.toList, hn, ?_⟩, ⟨yk.toList, hk, ?_⟩, by omega, fun i hi => hok _ (hf i hi), fun i j hi hj => hsame _ _ (hf i hi) (hf j hj)⟩
  · rw [range_map ds _ 0, hdf] at hai; exact hai
  · rw [range_map fs nmF []] at hni; exact hni
  · rw [range_map fs kf []] at hki; exact hki
end

section
noncomputable def hxN (k : Nat) : Nat := if k < 10 then 48 + k else 55 + k
noncomputable def nn (c : UInt8) : List Nat := [hxN (c.toNat / 16), hxN (c.toNat % 16)]
theorem up_hex : ∀ k : _root_.Fin 16, (Builtin.Bytes.toUpper (Builtin.Bytes.hexDigit k.val).toUInt8).toNat = hxN k.val := by decide +kernel
theorem hx_at : ∀ k : _root_.Fin 16, hexesS.cps.getD k.val 0 = hxN k.val := by decide +kernel
theorem text_bytes (b : Array UInt8) : (textF (KBw.bInts b)).cps.toList = b.toList.map (·.toNat) := by
  simp [textF, KBw.bInts]
theorem nar_cps (b : Array UInt8) : (narB b).cps.toList = b.toList.flatMap nn := by
  unfold narB
  rw [text_bytes]
  unfold b16B
  rw [hexStr_eq]
  simp only [List.map_toArray, List.map_map]
  generalize b.toList = l
  induction l with
  | nil => rfl
  | cons c r ih =>
    have hc := c.toNat_lt
    rw [List.flatMap_cons, List.flatMap_cons, List.map_append, ih]
    have h1 := up_hex ⟨c.toNat / 16, by omega⟩
    have h2 := up_hex ⟨c.toNat % 16, by omega⟩
    dsimp only at h1 h2
    simp [nn, h1, h2]
theorem hexT_cps (b : Array UInt8) : (hexT b).cps.toList = b.toList.flatMap nn := by
  unfold hexT
  rw [join_empty]
  unfold KBw.bInts
  rw [List.map_map]
  generalize b.toList = l
  induction l with
  | nil => rfl
  | cons c r ih =>
    have hc := c.toNat_lt
    have e1 : ((c.toNat : Int).fdiv 16).toNat = c.toNat / 16 := by rw [Int.fdiv_eq_ediv_of_nonneg _ (by omega)]; omega
    have e2 : ((c.toNat : Int).fmod 16).toNat = c.toNat % 16 := by rw [Int.fmod_eq_emod_of_nonneg _ (by omega)]; omega
    have h1 := hx_at ⟨c.toNat / 16, by omega⟩
    have h2 := hx_at ⟨c.toNat % 16, by omega⟩
    dsimp only at h1 h2
    rw [List.map_cons, List.flatMap_cons, List.flatMap_cons]
    have ih' : (List.flatMap (fun x : Str => x.cps.toList) (List.map (hexC ∘ fun c : UInt8 => (c.toNat : Int)) r)) = List.flatMap nn r := by simpa using ih
    rw [ih']
    have e3 : (hexC (c.toNat : Int)).cps.toList = nn c := by
      unfold hexC chS nn
      rw [e1, e2, h1, h2]
      rfl
    show (hexC (c.toNat : Int)).cps.toList ++ _ = _
    rw [e3]
theorem str_ext {x y : Str} (h : x.cps.toList = y.cps.toList) : x = y := by
  obtain ⟨⟨a⟩⟩ := x
  obtain ⟨⟨b⟩⟩ := y
  dsimp only at h
  rw [h]
theorem nar_hex {b : Array UInt8} (_ : b.size ≤ 3) : narB b = hexT b := str_ext (by rw [nar_cps, hexT_cps])
theorem nn_len (l : List UInt8) : (l.flatMap nn).length = 2 * l.length := by
  induction l with
  | nil => rfl
  | cons c r ih => rw [List.flatMap_cons, List.length_append, ih]; simp [nn]; omega
theorem nar_len {b : Array UInt8} (h : b.size ≤ 3) : (b16B b).size ≤ 6 := by
  have e : (b16B b).size = (narB b).cps.toList.length := by unfold narB; rw [text_bytes]; simp
  rw [e, nar_cps, nn_len]
  simp; omega
theorem hxN_range {k : Nat} (h : k < 16) : 48 ≤ hxN k ∧ hxN k ≤ 70 := by unfold hxN; split <;> omega
theorem nar_ok {b : Array UInt8} (h : b.size ≤ 3) : NameOk (narB b) := by
  refine ⟨fun c hc => ?_, ?_⟩
  · rw [nar_cps] at hc
    obtain ⟨u, _, hu⟩ := List.mem_flatMap.mp hc
    have hc := u.toNat_lt
    simp only [nn, List.mem_cons, List.not_mem_nil, or_false] at hu
    have h1 := hxN_range (k := u.toNat / 16) (by omega)
    have h2 := hxN_range (k := u.toNat % 16) (by omega)
    rcases hu with rfl | rfl <;> omega
  · show (narB b).cps.size ≤ 1000
    rw [← Array.length_toList, nar_cps, nn_len]
    simp; omega
theorem low_hx : ∀ j k : _root_.Fin 16, lowC (hxN j.val) = lowC (hxN k.val) → j = k := by decide +kernel
theorem low_hx_inj {j k : Nat} (hj : j < 16) (hk : k < 16) (h : lowC (hxN j) = lowC (hxN k)) : j = k := congrArg (·.val) (low_hx ⟨j, hj⟩ ⟨k, hk⟩ h)
theorem low_cps (x : Str) : (lowF x).cps.toList = x.cps.toList.map lowC := by simp [lowF]
theorem low_nn_inj : ∀ {l l' : List UInt8}, (l.flatMap nn).map lowC = (l'.flatMap nn).map lowC → l = l'
  | [], [], _ => rfl
  | [], c :: r, h => by simp [List.flatMap_cons, nn] at h
  | c :: r, [], h => by simp [List.flatMap_cons, nn] at h
  | c :: r, c' :: r', h => by
    rw [List.flatMap_cons, List.flatMap_cons, List.map_append, List.map_append] at h
    simp only [nn, List.map_cons, List.map_nil, List.cons_append, List.nil_append, List.cons.injEq] at h
    obtain ⟨h1, h2, h3⟩ := h
    have hc := c.toNat_lt
    have hc' := c'.toNat_lt
    have e1 := low_hx_inj (by omega) (by omega) h1
    have e2 := low_hx_inj (by omega) (by omega) h2
    have e : c = c' := UInt8.toNat_inj.mp (by omega)
    rw [e, low_nn_inj h3]
theorem nar_inj {b b' : Array UInt8} (h : lowF (narB b) = lowF (narB b')) : b = b' := by
  have e : (lowF (narB b)).cps.toList = (lowF (narB b')).cps.toList := by rw [h]
  rw [low_cps, low_cps, nar_cps, nar_cps] at e
  exact Array.toList_inj.mp (low_nn_inj e)
/-- the octets of figures -/
theorem cnt3 {a b c d : Int} (ha : 0 ≤ a ∧ a < 64) (hb : 0 ≤ b ∧ b < 64) (hc : 0 ≤ c ∧ c < 64) (hd : 0 ≤ d ∧ d < 64) : [a, b, c, d].count 64 = 0 := by
  have h1 : (a == 64) = false := by simp; omega
  have h2 : (b == 64) = false := by simp; omega
  have h3 : (c == 64) = false := by simp; omega
  have h4 : (d == 64) = false := by simp; omega
  simp [List.count_cons, h1, h2, h3, h4]
theorem num4 {a b c d : Int} (ha : 0 ≤ a ∧ a < 64) (hb : 0 ≤ b ∧ b < 64) (hc : 0 ≤ c ∧ c < 64) (hd : 0 ≤ d ∧ d ≤ 64) : numF [a, b, c, d] = ((a * 64 + b) * 64 + c) * 64 + d % 64 := by
  simp only [numF, List.foldl_cons, List.foldl_nil]
  rw [Int.fmod_eq_emod_of_nonneg a (by omega), Int.fmod_eq_emod_of_nonneg b (by omega), Int.fmod_eq_emod_of_nonneg c (by omega), Int.fmod_eq_emod_of_nonneg d (by omega)]
  omega
theorem oct3 {a b c d : Int} (ha : 0 ≤ a ∧ a < 64) (hb : 0 ≤ b ∧ b < 64) (hc : 0 ≤ c ∧ c < 64) (hd : 0 ≤ d ∧ d < 64) : octNums [a, b, c, d] = [a * 4 + b / 16, b % 16 * 16 + c / 4, c % 4 * 64 + d] := by
  unfold octNums
  rw [cnt3 ha hb hc hd, num4 ha hb hc (by omega)]
  rw [Int.fdiv_eq_ediv_of_nonneg _ (by omega), Int.fdiv_eq_ediv_of_nonneg _ (by omega), Int.fmod_eq_emod_of_nonneg _ (by omega), Int.fmod_eq_emod_of_nonneg _ (by omega)]
  show List.take 3 _ = _
  simp only [List.take_succ_cons, List.take_zero]
  have e1 : (((a * 64 + b) * 64 + c) * 64 + d % 64) / 65536 = a * 4 + b / 16 := by omega
  have e2 : (((a * 64 + b) * 64 + c) * 64 + d % 64) / 256 % 256 = b % 16 * 16 + c / 4 := by omega
  have e3 : (((a * 64 + b) * 64 + c) * 64 + d % 64) % 256 = c % 4 * 64 + d := by omega
  rw [e1, e2, e3]
theorem oct2 {a b c : Int} (ha : 0 ≤ a ∧ a < 64) (hb : 0 ≤ b ∧ b < 64) (hc : 0 ≤ c ∧ c < 64) : octNums [a, b, c / 4 * 4, 64] = [a * 4 + b / 16, b % 16 * 16 + c / 4] := by
  unfold octNums
  have hcnt : [a, b, c / 4 * 4, 64].count 64 = 1 := by
    have h1 : (a == 64) = false := by simp; omega
    have h2 : (b == 64) = false := by simp; omega
    have h3 : (c / 4 * 4 == 64) = false := by simp; omega
    simp [List.count_cons, h1, h2, h3]
  rw [hcnt, num4 ha hb (by omega) (by omega)]
  rw [Int.fdiv_eq_ediv_of_nonneg _ (by omega), Int.fdiv_eq_ediv_of_nonneg _ (by omega), Int.fmod_eq_emod_of_nonneg _ (by omega), Int.fmod_eq_emod_of_nonneg _ (by omega)]
  show List.take 2 _ = _
  simp only [List.take_succ_cons, List.take_zero]
  have e1 : (((a * 64 + b) * 64 + c / 4 * 4) * 64 + 64 % 64) / 65536 = a * 4 + b / 16 := by omega
  have e2 : (((a * 64 + b) * 64 + c / 4 * 4) * 64 + 64 % 64) / 256 % 256 = b % 16 * 16 + c / 4 := by omega
  rw [e1, e2]
theorem oct1 {a b : Int} (ha : 0 ≤ a ∧ a < 64) (hb : 0 ≤ b ∧ b < 64) : octNums [a, b / 16 * 16, 64, 64] = [a * 4 + b / 16] := by
  unfold octNums
  have hcnt : [a, b / 16 * 16, 64, 64].count 64 = 2 := by
    have h1 : (a == 64) = false := by simp; omega
    have h2 : (b / 16 * 16 == 64) = false := by simp; omega
    simp [List.count_cons, h1, h2]
  have hn : numF [a, b / 16 * 16, 64, 64] = (a * 64 + b / 16 * 16) * 64 * 64 := by
    simp only [numF, List.foldl_cons, List.foldl_nil]
    rw [Int.fmod_eq_emod_of_nonneg a (by omega), Int.fmod_eq_emod_of_nonneg (b / 16 * 16) (by omega), Int.fmod_eq_emod_of_nonneg 64 (by omega)]
    omega
  rw [hcnt, hn]
  rw [Int.fdiv_eq_ediv_of_nonneg _ (by omega), Int.fdiv_eq_ediv_of_nonneg _ (by omega), Int.fmod_eq_emod_of_nonneg _ (by omega), Int.fmod_eq_emod_of_nonneg _ (by omega)]
  show List.take 1 _ = _
  simp only [List.take_succ_cons, List.take_zero]
  have e1 : ((a * 64 + b / 16 * 16) * 64 * 64) / 65536 = a * 4 + b / 16 := by omega
  rw [e1]
theorem oU_nat {k : Int} (h : 0 ≤ k ∧ k < 256) : ((oU k).toNat : Int) = k := by
  unfold oU
  have : k.toNat < 256 := by omega
  have e : (k.toNat.toUInt8).toNat = k.toNat := by rw [Nat.toUInt8, UInt8.toNat_ofNat']; omega
  rw [e]; omega
theorem key_inj {f g : List Int} (hf : f.length = 4) (hg : g.length = 4) (hf' : ∀ k ∈ f, 0 ≤ k ∧ k < 256) (hg' : ∀ k ∈ g, 0 ≤ k ∧ k < 256) (h : keyF f = keyF g) : f = g := by
  match f, hf, g, hg with
  | [a, b, c, d], _, [a', b', c', d'], _ =>
    have h1 := hf' a (by simp)
    have h2 := hf' b (by simp)
    have h3 := hf' c (by simp)
    have h4 := hf' d (by simp)
    have h5 := hg' a' (by simp)
    have h6 := hg' b' (by simp)
    have h7 := hg' c' (by simp)
    have h8 := hg' d' (by simp)
    simp only [keyF, List.foldl_cons, List.foldl_nil] at h
    simp only [List.cons.injEq, and_true]
    omega
end

section
theorem or_lo (a c : Nat) (h : c < 256) : (a * 256 &&& c) = 0 := by
  have h1 := PyProof.Rows.nat_or_add_and (a * 256) c
  have h2 : a <<< 8 + c = a <<< 8 ||| c := Nat.shiftLeft_add_eq_or_of_lt (by omega) a
  have h3 : a <<< 8 = a * 256 := by rw [Nat.shiftLeft_eq]
  rw [h3] at h2
  omega
theorem lcS_eq {a c : Int} (ha : 0 ≤ a) (hc : 0 ≤ c ∧ c < 256) : lcS a c = (a * 256 + c) % 65536 := by
  unfold lcS
  rw [bitAnd_m16, PyProof.Rows.bitOr_and]
  have e : Builtin.bitAnd (a * 2 ^ 8) c = 0 := by
    rw [PyProof.Rows.bitAnd_pp (by omega) hc.1]
    have e1 : (a * 2 ^ 8).toNat = a.toNat * 256 := by omega
    rw [e1, or_lo _ _ (by omega)]
    rfl
  rw [e]
  show (a * 256 + c - 0) % 65536 = _
  rw [Int.sub_zero]
theorem ix2 {x : Int} (h : 0 ≤ x) : ixN x 2 = x / 4 % 64 := by unfold ixN; rw [bitAnd_m6, Int.fdiv_eq_ediv_of_nonneg _ (by decide)]; rfl
theorem ix4 {x : Int} (h : 0 ≤ x) : ixN x 4 = x / 16 % 64 := by unfold ixN; rw [bitAnd_m6, Int.fdiv_eq_ediv_of_nonneg _ (by decide)]; rfl
theorem ix6 {x : Int} (h : 0 ≤ x) : ixN x 6 = x / 64 % 64 := by unfold ixN; rw [bitAnd_m6, Int.fdiv_eq_ediv_of_nonneg _ (by decide)]; rfl
theorem ix0 {x : Int} (h : 0 ≤ x) : ixN x 0 = x % 64 := by unfold ixN; rw [bitAnd_m6, Int.fdiv_eq_ediv_of_nonneg _ (by decide)]; show x / 1 % 64 = _; rw [Int.ediv_one]
/-- the sign of a figure, as an int -/
noncomputable def S64 (i : Int) : Int := if i = 64 then 61 else T64 i
theorem lc1 {c : Nat → Int} (h0 : 0 ≤ c 0 ∧ c 0 < 256) : lcN c 1 = c 0 := by show lcS 0 (c 0) = c 0; rw [lcS_eq (Int.le_refl 0) h0]; omega
theorem lc2 {c : Nat → Int} (h0 : 0 ≤ c 0 ∧ c 0 < 256) (h1 : 0 ≤ c 1 ∧ c 1 < 256) : lcN c 2 = c 0 * 256 + c 1 := by rw [lcN_2, lc1 h0, lcS_eq h0.1 h1]; omega
theorem lc3 {c : Nat → Int} (h0 : 0 ≤ c 0 ∧ c 0 < 256) (h1 : 0 ≤ c 1 ∧ c 1 < 256) (h2 : 0 ≤ c 2 ∧ c 2 < 256) : lcN c 3 = c 1 * 256 + c 2 := by rw [lcN_3, lc2 h0 h1, lcS_eq (by omega) h2]; omega
theorem getD_byte {l : List Int} (hl : ∀ k ∈ l, 0 ≤ k ∧ k < 256) (j : Nat) (hj : j < l.length) : (((l.map oU).toArray.getD j 0).toNat : Int) = l.getD j 0 := by
  have e1 : (l.map oU).toArray.getD j 0 = oU l[j] := by simp [Array.getD, hj]
  have e2 : l.getD j 0 = l[j] := by simp [hj]
  rw [e1, e2, oU_nat (hl _ (List.getElem_mem hj))]
theorem ar0 {a b : Int} (ha : 0 ≤ a ∧ a < 64) (hb : 0 ≤ b ∧ b < 64) : (a * 4 + b / 16) / 4 % 64 = a := by omega
theorem ar1 {a b c : Int} (ha : 0 ≤ a ∧ a < 64) (hb : 0 ≤ b ∧ b < 64) (hc : 0 ≤ c ∧ c < 64) : ((a * 4 + b / 16) * 256 + (b % 16 * 16 + c / 4)) / 16 % 64 = b := by omega
theorem rg0 {a b : Int} (ha : 0 ≤ a ∧ a < 64) (hb : 0 ≤ b ∧ b < 64) : 0 ≤ a * 4 + b / 16 ∧ a * 4 + b / 16 < 256 := by omega
theorem rg1 {b c : Int} (hb : 0 ≤ b ∧ b < 64) (hc : 0 ≤ c ∧ c < 64) : 0 ≤ b % 16 * 16 + c / 4 ∧ b % 16 * 16 + c / 4 < 256 := by omega
theorem rg2 {c d : Int} (hc : 0 ≤ c ∧ c < 64) (hd : 0 ≤ d ∧ d < 64) : 0 ≤ c % 4 * 64 + d ∧ c % 4 * 64 + d < 256 := by omega
theorem s64_lt {i : Int} (h : i < 64) : S64 i = T64 i := if_neg (by omega)
theorem s64_64 : S64 64 = 61 := if_pos rfl
theorem pos2 {x y : Int} (hx : 0 ≤ x ∧ x < 256) (hy : 0 ≤ y ∧ y < 256) : 0 ≤ x * 256 + y := by omega
theorem b64_fig {g : List Int} (hg : Fig g) : b64I (octF g) = g.map S64 := by
  have hmem := octNums_mem hg.len
  have hF : octF g = ((octNums g).map oU).toArray := rfl
  unfold b64I
  rw [hF]
  obtain ⟨a, b, c, d, ha, hb, hc, hd, rfl | rfl | rfl⟩ := hg
  · rw [oct3 ha hb hc hd] at hmem ⊢
    have hz : (([a * 4 + b / 16, b % 16 * 16 + c / 4, c % 4 * 64 + d].map oU).toArray).size = 3 := rfl
    rw [hz]
    have g0 := getD_byte hmem 0 (by simp)
    have g1 := getD_byte hmem 1 (by simp)
    have g2 := getD_byte hmem 2 (by simp)
    generalize hcc : (fun j => ((([a * 4 + b / 16, b % 16 * 16 + c / 4, c % 4 * 64 + d].map oU).toArray.getD j 0).toNat : Int)) = cc
    replace g0 : cc 0 = a * 4 + b / 16 := by rw [← hcc]; exact g0
    replace g1 : cc 1 = b % 16 * 16 + c / 4 := by rw [← hcc]; exact g1
    replace g2 : cc 2 = c % 4 * 64 + d := by rw [← hcc]; exact g2
    show outN cc 3 = _
    have r0 := rg0 ha hb
    have r1 := rg1 hb hc
    have r2 := rg2 hc hd
    rw [← g0] at r0
    rw [← g1] at r1
    rw [← g2] at r2
    rw [outN_3, lc1 r0, lc2 r0 r1, lc3 r0 r1 r2, ix2 r0.1, ix4 (pos2 r0 r1), ix6 (pos2 r1 r2), ix0 (pos2 r1 r2), g0, g1, g2]
    have e0 : (a * 4 + b / 16) / 4 % 64 = a := ar0 ha hb
    have e1 : ((a * 4 + b / 16) * 256 + (b % 16 * 16 + c / 4)) / 16 % 64 = b := ar1 ha hb hc
    have e2 : ((b % 16 * 16 + c / 4) * 256 + (c % 4 * 64 + d)) / 64 % 64 = c := by omega
    have e3 : ((b % 16 * 16 + c / 4) * 256 + (c % 4 * 64 + d)) % 64 = d := by omega
    rw [e0, e1, e2, e3]
    simp only [List.map_cons, List.map_nil]
    rw [s64_lt ha.2, s64_lt hb.2, s64_lt hc.2, s64_lt hd.2]
  · rw [oct2 ha hb hc] at hmem ⊢
    have hz : (([a * 4 + b / 16, b % 16 * 16 + c / 4].map oU).toArray).size = 2 := rfl
    rw [hz]
    have g0 := getD_byte hmem 0 (by simp)
    have g1 := getD_byte hmem 1 (by simp)
    generalize hcc : (fun j => ((([a * 4 + b / 16, b % 16 * 16 + c / 4].map oU).toArray.getD j 0).toNat : Int)) = cc
    replace g0 : cc 0 = a * 4 + b / 16 := by rw [← hcc]; exact g0
    replace g1 : cc 1 = b % 16 * 16 + c / 4 := by rw [← hcc]; exact g1
    show outN cc 2 ++ [T64 (Builtin.bitAnd (lcN cc 2) 15 * 2 ^ 2), 61] = _
    have r0 := rg0 ha hb
    have r1 := rg1 hb hc
    rw [← g0] at r0
    rw [← g1] at r1
    rw [outN_2, bitAnd_m4, lc1 r0, lc2 r0 r1, ix2 r0.1, ix4 (pos2 r0 r1), g0, g1]
    have e0 : (a * 4 + b / 16) / 4 % 64 = a := ar0 ha hb
    have e1 : ((a * 4 + b / 16) * 256 + (b % 16 * 16 + c / 4)) / 16 % 64 = b := ar1 ha hb hc
    have e2 : ((a * 4 + b / 16) * 256 + (b % 16 * 16 + c / 4)) % 16 * 2 ^ 2 = c / 4 * 4 := by omega
    rw [e0, e1, e2]
    simp only [List.map_cons, List.map_nil]
    rw [s64_lt ha.2, s64_lt hb.2, s64_lt (i := c / 4 * 4) (by omega), s64_64]
    rfl
  · rw [oct1 ha hb] at hmem ⊢
    have hz : (([a * 4 + b / 16].map oU).toArray).size = 1 := rfl
    rw [hz]
    have g0 := getD_byte hmem 0 (by simp)
    generalize hcc : (fun j => ((([a * 4 + b / 16].map oU).toArray.getD j 0).toNat : Int)) = cc
    replace g0 : cc 0 = a * 4 + b / 16 := by rw [← hcc]; exact g0
    show outN cc 1 ++ [T64 (Builtin.bitAnd (lcN cc 1) 3 * 2 ^ 4), 61, 61] = _
    have r0 := rg0 ha hb
    rw [← g0] at r0
    rw [outN_1, bitAnd_m2, lc1 r0, ix2 r0.1, g0]
    have e0 : (a * 4 + b / 16) / 4 % 64 = a := ar0 ha hb
    have e1 : (a * 4 + b / 16) % 4 * 2 ^ 4 = b / 16 * 16 := by omega
    rw [e0, e1]
    simp only [List.map_cons, List.map_nil]
    rw [s64_lt ha.2, s64_lt (i := b / 16 * 16) (by omega), s64_64]
    rfl
theorem S64_inj' : ∀ i j : _root_.Fin 65, S64 (i.val : Nat) = S64 (j.val : Nat) → i = j := by decide +kernel
theorem S64_inj {i j : Int} (hi : 0 ≤ i ∧ i ≤ 64) (hj : 0 ≤ j ∧ j ≤ 64) (h : S64 i = S64 j) : i = j := by
  obtain ⟨a, rfl⟩ := Int.eq_ofNat_of_zero_le hi.1
  obtain ⟨b, rfl⟩ := Int.eq_ofNat_of_zero_le hj.1
  have := congrArg (·.val) (S64_inj' ⟨a, by omega⟩ ⟨b, by omega⟩ h)
  exact congrArg Int.ofNat this
theorem map_S64_inj : ∀ {f g : List Int}, (∀ k ∈ f, 0 ≤ k ∧ k ≤ 64) → (∀ k ∈ g, 0 ≤ k ∧ k ≤ 64) → f.map S64 = g.map S64 → f = g
  | [], [], _, _, _ => rfl
  | [], _ :: _, _, _, h => by simp at h
  | _ :: _, [], _, _, h => by simp at h
  | a :: f, b :: g, hf, hg, h => by
    simp only [List.map_cons, List.cons.injEq] at h
    rw [S64_inj (hf a (.head _)) (hg b (.head _)) h.1, map_S64_inj (fun k hk => hf k (.tail _ hk)) (fun k hk => hg k (.tail _ hk)) h.2]
theorem oct_inj {f g : List Int} (hf : Fig f) (hg : Fig g) (h : octF f = octF g) : f = g := by
  have e : b64I (octF f) = b64I (octF g) := by rw [h]
  rw [b64_fig hf, b64_fig hg] at e
  exact map_S64_inj hf.range hg.range e
theorem nar_same {g g' : List Int} (hg : Fig g) (hg' : Fig g') : lowF (narB (octF g)) = lowF (narB (octF g')) ↔ keyF g = keyF g' := by
  constructor
  · intro h
    rw [oct_inj hg hg' (nar_inj h)]
  · intro h
    have e := key_inj hg.len hg'.len (fun k hk => by have := hg.range k hk; omega) (fun k hk => by have := hg'.range k hk; omega) h
    rw [e]
end

section
theorem mkTab_get (p q : UInt8) {k : Nat} (hk : k < 256) (d : UInt8) : (mkTab p q).getD k d = if k = 47 then q else if k = 43 then p else k.toUInt8 := by
  rw [Array.getD_eq_getD_getElem?]
  unfold mkTab
  rw [Array.getElem?_setIfInBounds, Array.getElem?_setIfInBounds]
  by_cases h1 : k = 47
  · subst h1; simp
  · rw [if_neg (Ne.symm h1), if_neg h1]
    by_cases h2 : k = 43
    · subst h2; simp
    · rw [if_neg (Ne.symm h2), if_neg h2]
      simp [hk]
/-- the sign of a figure: its code -/
noncomputable def alN (d0 d1 : Int) (i : Nat) : Nat := (alphaS d0 d1).cps.getD i 0
theorem alpha_cps (d0 d1 : Int) : (alphaS d0 d1).cps.toList = abcS.cps.toList ++ [d0.toNat, d1.toNat, 61] := by
  unfold alphaS
  rw [PySem.Str.cps_append, PySem.Str.cps_append]
  simp only [Array.toList_append]
  rw [List.append_assoc]
  rfl
theorem getD_list (a : Array Nat) (i : Nat) : a.getD i 0 = a.toList.getD i 0 := by
  obtain ⟨l⟩ := a
  by_cases h : i < l.length
  · simp [Array.getD, h]
  · simp [Array.getD, h]
theorem abc_list : abcS.cps.toList.length = 62 := by decide +kernel
theorem alN_eq (d0 d1 : Int) (i : Nat) (hi : i ≤ 64) : alN d0 d1 i = if i < 62 then abcS.cps.toList.getD i 0 else if i = 62 then d0.toNat else if i = 63 then d1.toNat else 61 := by
  unfold alN
  rw [getD_list, alpha_cps]
  by_cases h : i < 62
  · rw [if_pos h]
    simp only [List.getD_eq_getElem?_getD]
    rw [List.getElem?_append_left (by rw [abc_list]; exact h)]
  · rw [if_neg h]
    simp only [List.getD_eq_getElem?_getD]
    rw [List.getElem?_append_right (by rw [abc_list]; omega), abc_list]
    obtain rfl | rfl | rfl : i = 62 ∨ i = 63 ∨ i = 64 := by omega
    · rfl
    · rfl
    · rfl
theorem abc_T64 : ∀ i : _root_.Fin 62, (T64 (i.val : Nat)).toNat = abcS.cps.toList.getD i.val 0 ∧ T64 (i.val : Nat) ≠ 43 ∧ T64 (i.val : Nat) ≠ 47 := by decide +kernel
theorem T64_62 : T64 62 = 43 := by decide +kernel
theorem T64_63 : T64 63 = 47 := by decide +kernel
theorem u8_nat {k : Nat} (h : k < 256) : (k.toUInt8).toNat = k := by rw [Nat.toUInt8, UInt8.toNat_ofNat']; omega
theorem tr_sign {d0 d1 : Int} (h0 : Oct d0) (h1 : Oct d1) {i : Int} (hi : 0 ≤ i ∧ i ≤ 64) (d : UInt8) :
    ((mkTab (oU d0) (oU d1)).getD ((S64 i).toNat.toUInt8).toNat d).toNat = alN d0 d1 i.toNat := by
  have hS : 0 ≤ S64 i ∧ S64 i < 256 := by
    unfold S64
    split
    · omega
    · exact T64_lt i
  rw [u8_nat (by omega), mkTab_get _ _ (by omega), alN_eq _ _ _ (by omega)]
  have o0 := oU_nat (k := d0) (by unfold Oct at h0; omega)
  have o1 := oU_nat (k := d1) (by unfold Oct at h1; omega)
  by_cases h : i < 62
  · obtain ⟨j, rfl⟩ := Int.eq_ofNat_of_zero_le hi.1
    have hT := abc_T64 ⟨j, by omega⟩
    dsimp only at hT
    have hs : S64 (j : Nat) = T64 (j : Nat) := by unfold S64; rw [if_neg (by omega)]
    rw [hs] at hS ⊢
    rw [if_neg (by omega), if_neg (by omega), u8_nat (by omega), Int.toNat_natCast, if_pos (by omega), hT.1]
  · obtain rfl | rfl | rfl : i = 62 ∨ i = 63 ∨ i = 64 := by omega
    · have : S64 62 = 43 := by unfold S64; rw [if_neg (by decide), T64_62]
      rw [this]
      show (oU d0).toNat = d0.toNat
      omega
    · have : S64 63 = 47 := by unfold S64; rw [if_neg (by decide), T64_63]
      rw [this]
      show (oU d1).toNat = d1.toNat
      omega
    · have : S64 64 = 61 := by unfold S64; rw [if_pos rfl]
      rw [this]
      rfl
theorem wid_cps {d0 d1 : Int} (h0 : Oct d0) (h1 : Oct d1) {g : List Int} (hg : Fig g) : (widB (oU d0) (oU d1) (octF g)).cps.toList = g.map fun i => alN d0 d1 i.toNat := by
  unfold widB
  rw [text_bytes]
  unfold b64B trOut
  rw [b64_fig hg]
  simp only [List.map_toArray, List.map_map]
  refine List.map_congr_left fun i hi => ?_
  exact tr_sign h0 h1 (hg.range i hi) _
theorem al_cps {d0 d1 : Int} (g : List Int) : (alT d0 d1 g).cps.toList = g.map fun i => alN d0 d1 i.toNat := by
  unfold alT
  rw [join_empty]
  induction g with
  | nil => rfl
  | cons i r ih =>
    have ih' : List.flatMap (fun x : Str => x.cps.toList) (List.map (fun i : Int => chS (alphaS d0 d1) i.toNat) r) = List.map (fun i : Int => alN d0 d1 i.toNat) r := by simpa using ih
    show List.flatMap (fun x : Str => x.cps.toList) (chS (alphaS d0 d1) i.toNat :: List.map (fun i : Int => chS (alphaS d0 d1) i.toNat) r) = _
    rw [List.flatMap_cons, ih']
    rfl
theorem wid_al {d0 d1 : Int} (h0 : Oct d0) (h1 : Oct d1) {g : List Int} (hg : Fig g) : widB (oU d0) (oU d1) (octF g) = alT d0 d1 g := str_ext (by rw [wid_cps h0 h1 hg, al_cps])
theorem b64N_len (c : Nat → Int) {k : Nat} (h : k = 1 ∨ k = 2 ∨ k = 3) : (b64N c k).length = 4 := by rcases h with rfl | rfl | rfl <;> rfl
theorem wid_len {p q : UInt8} {b : Array UInt8} (h : b.size = 1 ∨ b.size = 2 ∨ b.size = 3) : (b64B p q b).size = 4 := by
  unfold b64B trOut b64I
  simp only [Array.size_map, List.size_toArray, List.length_map]
  exact b64N_len _ h
theorem abc_range : ∀ i : _root_.Fin 62, 48 ≤ abcS.cps.toList.getD i.val 0 ∧ abcS.cps.toList.getD i.val 0 ≤ 122 := by decide +kernel
theorem alN_range {d0 d1 : Int} (h0 : Oct d0) (h1 : Oct d1) {i : Nat} (hi : i ≤ 64) : 31 < alN d0 d1 i ∧ alN d0 d1 i ≠ 127 ∧ alN d0 d1 i < 256 := by
  rw [alN_eq _ _ _ hi]
  unfold Oct at h0 h1
  split
  · have := abc_range ⟨i, by omega⟩
    dsimp only at this
    omega
  split
  · omega
  split
  · omega
  · omega
theorem wid_ok {d0 d1 : Int} (h0 : Oct d0) (h1 : Oct d1) {g : List Int} (hg : Fig g) : NameOk (widB (oU d0) (oU d1) (octF g)) := by
  refine ⟨fun c hc => ?_, ?_⟩
  · rw [wid_cps h0 h1 hg] at hc
    obtain ⟨i, hi, rfl⟩ := List.mem_map.mp hc
    have := hg.range i hi
    exact alN_range h0 h1 (by omega)
  · show (widB (oU d0) (oU d1) (octF g)).cps.size ≤ 1000
    rw [← Array.length_toList, wid_cps h0 h1 hg, List.length_map, hg.len]
    decide
/-- the kind of a lowered sign -/
noncomputable def kap (x : Nat) : Int := if 97 ≤ x ∧ x ≤ 122 then (x : Int) - 97 else x
theorem kap_inj {x y : Nat} (hx : 31 < x) (hy : 31 < y) (h : kap x = kap y) : x = y := by
  unfold kap at h
  repeat' split at h
  all_goals omega
noncomputable def pre62 : List Int := ((List.range 52).map fun i => (Int.ofNat i).fmod 26) ++ [48, 49, 50, 51, 52, 53, 54, 55, 56, 57]
theorem pre_len : pre62.length = 62 := by decide +kernel
theorem pre_kap : ∀ i : _root_.Fin 62, pre62.getD i.val 0 = kap (lowC (abcS.cps.toList.getD i.val 0)) := by decide +kernel
theorem kind_kap' : ∀ d : _root_.Fin 256, kindF (d.val : Nat) = kap (lowC d.val) := by decide +kernel
theorem kind_kap {d : Int} (h : Oct d) : kindF d = kap (lowC d.toNat) := by
  unfold Oct at h
  obtain ⟨k, rfl⟩ := Int.eq_ofNat_of_zero_le (show 0 ≤ d by omega)
  exact kind_kap' ⟨k, by omega⟩
theorem sort_kap {d0 d1 : Int} (h0 : Oct d0) (h1 : Oct d1) {i : Nat} (hi : i ≤ 64) : sortF d0 d1 (i : Nat) = kap (lowC (alN d0 d1 i)) := by
  unfold sortF
  rw [Int.toNat_natCast, alN_eq _ _ _ hi]
  have e : sortsL d0 d1 = pre62 ++ [kindF d0, kindF d1, 61] := by
    unfold sortsL pre62
    rw [List.append_assoc]
    rfl
  rw [e]
  simp only [List.getD_eq_getElem?_getD]
  by_cases h : i < 62
  · rw [if_pos h, List.getElem?_append_left (by rw [pre_len]; exact h)]
    have := pre_kap ⟨i, h⟩
    dsimp only at this
    simp only [List.getD_eq_getElem?_getD] at this
    exact this
  · rw [if_neg h, List.getElem?_append_right (by rw [pre_len]; omega), pre_len]
    obtain rfl | rfl | rfl : i = 62 ∨ i = 63 ∨ i = 64 := by omega
    · exact kind_kap h0
    · exact kind_kap h1
    · rfl
theorem low_gt {c : Nat} (h : 31 < c) : 31 < lowC c := by
  unfold lowC
  repeat' split
  all_goals omega
theorem low_lt {c : Nat} (h : c < 256) : lowC c < 256 := by
  unfold lowC
  repeat' split
  all_goals omega
theorem kap_range {x : Nat} (h : x < 256) : 0 ≤ kap x ∧ kap x < 256 := by unfold kap; split <;> omega
theorem map_eq_iff {α β γ : Type} {f : α → β} {h : α → γ} : ∀ {l l' : List α}, (∀ a ∈ l, ∀ b ∈ l', (f a = f b ↔ h a = h b)) → (l.map f = l'.map f ↔ l.map h = l'.map h)
  | [], [], _ => by simp
  | [], b :: r, _ => by simp
  | a :: r, [], _ => by simp
  | a :: r, b :: r', H => by
    have ih := map_eq_iff (l := r) (l' := r') fun x hx y hy => H x (.tail _ hx) y (.tail _ hy)
    have hh := H a (.head _) b (.head _)
    simp only [List.map_cons, List.cons.injEq, hh, ih]
theorem wid_same {d0 d1 : Int} (h0 : Oct d0) (h1 : Oct d1) {g g' : List Int} (hg : Fig g) (hg' : Fig g') :
    lowF (widB (oU d0) (oU d1) (octF g)) = lowF (widB (oU d0) (oU d1) (octF g')) ↔ keyF (g.map (sortF d0 d1)) = keyF (g'.map (sortF d0 d1)) := by
  have hr : ∀ f, Fig f → ∀ k ∈ f.map (sortF d0 d1), 0 ≤ k ∧ k < 256 := by
    intro f hf k hk
    obtain ⟨i, hi, rfl⟩ := List.mem_map.mp hk
    have hi' := hf.range i hi
    obtain ⟨j, rfl⟩ := Int.eq_ofNat_of_zero_le hi'.1
    rw [sort_kap h0 h1 (by omega)]
    exact kap_range (low_lt (alN_range h0 h1 (by omega)).2.2)
  have e1 : lowF (widB (oU d0) (oU d1) (octF g)) = lowF (widB (oU d0) (oU d1) (octF g')) ↔ (g.map fun i => lowC (alN d0 d1 i.toNat)) = g'.map fun i => lowC (alN d0 d1 i.toNat) := by
    constructor
    · intro h
      have e : (lowF (widB (oU d0) (oU d1) (octF g))).cps.toList = (lowF (widB (oU d0) (oU d1) (octF g'))).cps.toList := by rw [h]
      rw [low_cps, low_cps, wid_cps h0 h1 hg, wid_cps h0 h1 hg', List.map_map, List.map_map] at e
      exact e
    · intro h
      refine str_ext ?_
      rw [low_cps, low_cps, wid_cps h0 h1 hg, wid_cps h0 h1 hg', List.map_map, List.map_map]
      exact h
  have e2 : (g.map fun i => lowC (alN d0 d1 i.toNat)) = (g'.map fun i => lowC (alN d0 d1 i.toNat)) ↔ g.map (sortF d0 d1) = g'.map (sortF d0 d1) := by
    refine map_eq_iff fun a ha b hb => ?_
    have ha' := hg.range a ha
    have hb' := hg'.range b hb
    obtain ⟨j, rfl⟩ := Int.eq_ofNat_of_zero_le ha'.1
    obtain ⟨k, rfl⟩ := Int.eq_ofNat_of_zero_le hb'.1
    rw [sort_kap h0 h1 (by omega), sort_kap h0 h1 (by omega), Int.toNat_natCast, Int.toNat_natCast]
    constructor
    · intro h; rw [h]
    · intro h; exact kap_inj (low_gt (alN_range h0 h1 (by omega)).1) (low_gt (alN_range h0 h1 (by omega)).1) h
  rw [e1, e2]
  constructor
  · intro h; rw [h]
  · intro h
    exact key_inj (by rw [List.length_map, hg.len]) (by rw [List.length_map, hg'.len]) (hr g hg) (hr g' hg') h
end

section
section
variable {prog : Program} {w : World} {A : Around} {E : Value → Shared → Prop} {s : Shared} {n : Nat}
theorem law_body {name qual : Str} {params : Arguments} {body : List Stmt} {scope : Scope} {dV kV doc pm cdv₀ ct oc : Value} {an od : Option Addr} {osl : Array (Option Value)} {f : Addr} {cdv : Value}
    (ho : (Mine.hd.heap_39 w.params).lookup 282 = some ⟨oc, od, .func (fnOf name qual params body scope dV kV doc pm an cdv₀ ct), osl⟩)
    (G : Gd w s.heap) (R : Rm (n + 20) A) {sc : Addr} {ns : List Int} {vs : List Value} (hl : s.heap.IsList sc vs.toArray) (hi : IntsAre vs ns) (hz : ns.length ≤ 63) :
    ∀ L h₁ tk cells, Fr s.heap L h₁ (bindL (envOfC qual scope L f cdv).kindOf [(Str.ofString "script", .ref sc)] fun _ => none) → News s.heap L h₁ cells →
      CellsAre (bindC (envOfC qual scope L f cdv).kindOf [(Str.ofString "script", .ref sc)] fun _ => none) (cellsFrom (L + 1) scope.names []) cells →
      wpAny (model prog w) A (execs body (envOfC qual scope L f cdv)) (fun fl s' => (match fl with | .ret v => v | _ => .none) = .bool true ∧ ∃ h' tk', s' = { s with heap := h', toks := tk' } ∧ ∀ b o, s.heap.get? b = some o → h'.get? b = some o) No { s with heap := h₁, toks := tk } := by
  walk_at "fill"
  have e := ho.symm.trans (by k_is : (Mine.hd.heap_39 w.params).lookup 282 = some _)
  unfold fnOf at e
  injection e with e
  injection e with e1 e2 e3 e4
  injection e3 with e3
  injection e3
  rename FuncBody.stmts body = _ => hb
  injection hb with hb
  subst_vars
  clear ho
  intro L h₁ tk cells F N Y
  have X : (Mine.hd.heap_39 w.params).In s.heap := G.k
  obtain ⟨o4, o3, o2, o1, rfl, q4, q3, q2, q1⟩ := cells_four Y
  clear Y
  replace q1 : o1.data = .cell none := q1
  replace q2 : o2.data = .cell none := q2
  replace q3 : o3.data = .cell none := q3
  replace q4 : o4.data = .cell none := q4
  obtain ⟨m, hsm, F⟩ : ∃ m : Str → Option Value, m (Str.ofString "script") = some (.ref sc) ∧ Fr s.heap L h₁ m := ⟨_, rfl, F⟩
  have Z : LS s.heap L m [(L + 1 + 1 + 1 + 1, none), (L + 1 + 1 + 1, none), (L + 1 + 1, none), (L + 1, none)] [(sc, vs.toArray)] [] h₁ := by
    refine ⟨F, ?_, ?_, fun p hp => by cases hp⟩
    · intro p hp
      simp only [List.mem_cons, List.not_mem_nil, or_false] at hp
      rcases hp with rfl | rfl | rfl | rfl
      · exact ⟨(N _ (.head _)).2.1, (N _ (.head _)).2.2, _, (N _ (.head _)).1, q4⟩
      · exact ⟨(N _ (.tail _ (.head _))).2.1, (N _ (.tail _ (.head _))).2.2, _, (N _ (.tail _ (.head _))).1, q3⟩
      · exact ⟨(N _ (.tail _ (.tail _ (.head _)))).2.1, (N _ (.tail _ (.tail _ (.head _)))).2.2, _, (N _ (.tail _ (.tail _ (.head _)))).1, q2⟩
      · exact ⟨(N _ (.tail _ (.tail _ (.tail _ (.head _))))).2.1, (N _ (.tail _ (.tail _ (.tail _ (.head _))))).2.2, _, (N _ (.tail _ (.tail _ (.tail _ (.head _))))).1, q1⟩
    · intro p hp
      rcases List.mem_singleton.mp hp with rfl
      exact F.lst hl
  clear N F q1 q2 q3 q4
  have hc12 : L + 1 ≠ L + 1 + 1 := Nat.ne_of_lt (Nat.lt_succ_self _)
  have hc13 : L + 1 ≠ L + 1 + 1 + 1 := Nat.ne_of_lt (Nat.lt_trans (Nat.lt_succ_self _) (Nat.lt_succ_self _))
  have hc23 : L + 1 + 1 ≠ L + 1 + 1 + 1 := Nat.ne_of_lt (Nat.lt_succ_self _)
  have hc14 : L + 1 ≠ L + 1 + 1 + 1 + 1 := Nat.ne_of_lt (Nat.lt_trans (Nat.lt_succ_self _) (Nat.lt_trans (Nat.lt_succ_self _) (Nat.lt_succ_self _)))
  have hc24 : L + 1 + 1 ≠ L + 1 + 1 + 1 + 1 := Nat.ne_of_lt (Nat.lt_trans (Nat.lt_succ_self _) (Nat.lt_succ_self _))
  have hc34 : L + 1 + 1 + 1 ≠ L + 1 + 1 + 1 + 1 := Nat.ne_of_lt (Nat.lt_succ_self _)
  -- deeds
  refine wpAny_execs_cons ?_
  refine wpAny_Assign_Name ?_
  refine wpAny_BinOp ?_
  refine List_ ?_
  iterate 10 (refine spliced_more ?_; refine wpAny_Constant_int ?_; dsimp only)
  refine spliced_none ?_
  refine new_list (by simp only [List.length_cons, List.length_nil]; omega) fun h₂ a10 hk₂ _ hl₂ => ?_
  obtain ⟨v10, hv10, hten⟩ : ∃ v : List Value, h₂.IsList a10 v.toArray ∧ IntsAre v [1, 109, 14, 6, 48, 139, 30, 193, 206, 198029003] := by
    refine ⟨_, hl₂.isList, ?_⟩
    iterate 10 refine .cons _ _ ?_
    exact .nil
  have Z₂ := (Z.keeps hk₂).add hv10
  clear Z hk₂ hl₂ hv10
  dsimp only
  refine Subscript_ ?_
  refine nmV Z₂.F.ns hsm ?_
  refine slice_six (Z₂.S _ (.tail _ (.head _))) (by have := hi.length; omega) fun h₃ a6 tk₃ hk₃ hl₃ => ?_
  have Z₃ := Z₂.keeps hk₃
  clear Z₂ hk₃
  refine add_two (Z₃.S _ (.head _)) hl₃ (by have := hten.length; have := hi.length; simp only [List.length_take, List.length_cons, List.length_nil] at *; omega) fun h₄ ad hk₄ _ hl₄ => ?_
  have hdi : IntsAre (v10 ++ vs.take 6) (deedsF ns) := hten.append (hi.take 6)
  have Z₄ := (Z₃.keeps hk₄).add hl₄
  clear Z₃ hk₄ hl₃ hl₄
  dsimp only
  refine ls_set rfl rfl rfl Z₄ fun h₅ tk₅ Z₅ => ?_
  clear Z₄
  generalize v10 ++ vs.take 6 = vd at hdi Z₅
  dsimp only
  -- total
  refine wpAny_execs_cons ?_
  refine wpAny_Assign_Name ?_
  refine Call_ ?_
  refine nmB (G.keeps Z₅.F.keep) (by k_is) (by boot_fast) (by decide) ?_
  refine PyProof.Rows.callWith_builtin1 ?_
  refine spliced_more ?_
  refine nmV Z₅.F.ns (by walk_at "mv") ?_
  refine spliced_none ?_
  refine sum_all R.h (Z₅.S _ (.tail _ (.tail _ (.head _)))) hi fun h₆ tk₆ t₆ hk₆ => ?_
  refine ls_set (s := Shared.mk h₆ _ _ _ _) rfl rfl rfl (Z₅.keeps hk₆) fun h₇ tk₇ Z₇ => ?_
  clear Z₅ hk₆
  dsimp only
  -- duo
  refine wpAny_execs_cons ?_
  refine wpAny_Assign_Name ?_
  refine lc_list (fun _ => true) OneRel (closureFor_none (by decide)) (by decide) rfl (by decide) rfl R.h ?_
  refine List_ ?_
  refine spliced_more ?_
  refine wpAny_BinOp ?_
  refine wpAny_BinOp ?_
  refine nmV Z₇.F.ns (by walk_at "mv") ?_
  refine wpAny_Constant_int ?_
  refine PyProof.Rows.add_int ?_
  refine wpAny_Constant_int ?_
  refine mod_int' (by decide) ?_
  dsimp only
  refine spliced_more ?_
  refine wpAny_BinOp ?_
  refine wpAny_BinOp ?_
  refine wpAny_BinOp ?_
  refine nmV Z₇.F.ns (by walk_at "mv") ?_
  refine wpAny_Constant_int ?_
  refine PyProof.Rows.add_int ?_
  refine wpAny_Constant_int ?_
  refine mod_int' (by decide) ?_
  refine wpAny_Constant_int ?_
  refine mod_int' (by decide) ?_
  dsimp only
  refine spliced_none ?_
  refine new_list (by simp only [List.length_cons, List.length_nil]; omega) fun h₈ a2 hk₈ _ hl₈ => ?_
  have Z₈ := Z₇.keeps hk₈
  clear Z₇ hk₈
  refine ⟨a2, _, rfl, hl₈.isList, by simp [sizeLine], ?_, ?_, ?_⟩
  · intro C v s₃ m₃ hv hn hm hk
    exact wpAny_pure ⟨rfl, Keeps.refl _⟩
  · intro C v s₃ m₃ hv _ hn hm hk
    obtain ⟨k, tv, rfl⟩ : ∃ k t, v = .int k t := by
      simp only [List.toList_toArray, List.mem_cons, List.not_mem_nil, or_false] at hv
      rcases hv with rfl | rfl
      · exact ⟨_, _, rfl⟩
      · exact ⟨_, _, rfl⟩
    refine IfExp_ ?_
    refine wpAny_isTrue_Compare1 ?_
    refine nmV hn hm ?_
    refine wpAny_Constant_int ?_
    refine PySem.P.lt_int ?_
    refine wpAny_truthy_bool ?_
    by_cases q : k < 95
    · rw [if_pos (decide_eq_true q)]
      refine wpAny_BinOp ?_
      refine wpAny_Constant_int ?_
      refine nmV hn hm ?_
      refine PyProof.Rows.add_int ?_
      exact ⟨⟨k, tv, _, rfl, by unfold oneF; rw [if_pos q]⟩, ⟨_, _, rfl, fun _ _ e => e⟩⟩
    · rw [if_neg (by simpa using q)]
      refine wpAny_BinOp ?_
      refine wpAny_Constant_int ?_
      refine nmV hn hm ?_
      refine PyProof.Rows.add_int ?_
      exact ⟨⟨k, tv, _, rfl, by unfold oneF; rw [if_neg q]⟩, ⟨_, _, rfl, fun _ _ e => e⟩⟩
  intro au h₉ tk₉ ys hau hau' _ hP₉ hk₉
  rw [List.filter_eq_self.mpr (fun _ _ => rfl)] at hP₉
  obtain ⟨tu, tu', hys⟩ : ∃ t t', ys.toList = [.int (d0F ns) t, .int (d1F ns) t'] := by
    generalize ys.toList = yl at hP₉
    cases hP₉ with
    | cons h1 r => cases r with
      | cons h2 r =>
        cases r
        obtain ⟨k, t, t', e, rfl⟩ := h1
        obtain ⟨k', u, u', e', rfl⟩ := h2
        cases e; cases e'
        exact ⟨_, _, rfl⟩
  obtain ⟨ys⟩ := ys
  dsimp only at hys
  subst hys
  have hud : IntsAre [Value.int (d0F ns) tu, .int (d1F ns) tu'] [d0F ns, d1F ns] := .cons _ _ (.cons _ _ .nil)
  have ho0 := d0_oct ns
  have ho1 := d1_oct ns
  have hoct : ∀ k ∈ [d0F ns, d1F ns], 0 ≤ k ∧ k < 256 := by
    intro k hk
    have h0 := d0_oct ns
    have h1 := d1_oct ns
    unfold Oct at h0 h1
    simp only [List.mem_cons, List.not_mem_nil, or_false] at hk
    rcases hk with rfl | rfl <;> omega
  have Z₉ := (Z₈.keeps hk₉).add hau'
  clear Z₈ hk₉ hau hau' hP₉ hl₈
  generalize d0F ns = d0 at hud hoct ho0 Z₉ ⊢
  generalize d1F ns = d1 at hud hoct ho1 Z₉ ⊢
  generalize [Value.int d0 tu, .int d1 tu'] = vu at hud Z₉
  refine ls_setc (c := L + 1) (v₀ := none) (cs' := [(L + 1 + 1 + 1 + 1, none), (L + 1 + 1 + 1, none), (L + 1 + 1, none), (L + 1, some (.ref au))]) rfl rfl rfl Z₉ (.tail _ (.tail _ (.tail _ (.head _)))) ?_ fun h₁₀ Z₁₀ => ?_
  · intro p hp
    simp only [List.mem_cons, List.not_mem_nil, or_false] at hp
    rcases hp with rfl | rfl | rfl | rfl
    · exact .inr ⟨.head _, Ne.symm hc14⟩
    · exact .inr ⟨.tail _ (.head _), Ne.symm hc13⟩
    · exact .inr ⟨.tail _ (.tail _ (.head _)), Ne.symm hc12⟩
    · exact .inl rfl
  clear Z₉
  dsimp only
  -- alphabet
  refine wpAny_execs_cons ?_
  refine wpAny_Assign_Name ?_
  refine wpAny_BinOp ?_
  refine wpAny_BinOp ?_
  refine wpAny_Constant_str ?_
  refine Call_ ?_
  refine nmG (v := .ref 251) (G.keeps Z₁₀.F.keep) (by k_is) ?_
  refine callWith_K X (by k_is) ?_
  refine spliced_more ?_
  refine nmC (c := L + 1) Z₁₀ (.tail _ (.tail _ (.tail _ (.head _)))) (fun _ _ e => e) rfl ?_
  refine spliced_none ⟨X.keeps Z₁₀.F.keep, ?_⟩
  dsimp only
  refine wpAny_mono (text_call (G.keeps Z₁₀.F.keep) (n := n + 19) R au [d0, d1] vu (Z₁₀.S _ (.head _)) hud hoct (by simp)) (fun v s' hv => ?_) fun _ _ e => e
  obtain ⟨⟨h₁₁, tk₁₁, rfl, hk₁₁⟩, t₁₁, rfl⟩ := hv
  have Z₁₁ := Z₁₀.keeps hk₁₁
  clear Z₁₀ hk₁₁
  refine add_strs (x := abcS) (by rw [abc_len]; decide) (by simp [textF, Str.length]) (by rw [abc_len]; simp [textF, Str.length]) ?_
  refine wpAny_Constant_str ?_
  refine add_strs (by rw [alpha_len1]; decide) (by decide) (by rw [alpha_len1]; decide) ?_
  dsimp only
  refine ls_setc (c := L + 1 + 1) (v₀ := none) (cs' := [(L + 1 + 1 + 1 + 1, none), (L + 1 + 1 + 1, none), (L + 1 + 1, some (.str (alphaS d0 d1) (tk₁₁ + 1 + 1))), (L + 1, some (.ref au))]) rfl rfl rfl (s := Shared.mk h₁₁ _ _ _ _) Z₁₁ (.tail _ (.tail _ (.head _))) ?_ fun h₁₂ Z₁₂ => ?_
  · intro p hp
    simp only [List.mem_cons, List.not_mem_nil, or_false] at hp
    rcases hp with rfl | rfl | rfl | rfl
    · exact .inr ⟨.head _, Ne.symm hc24⟩
    · exact .inr ⟨.tail _ (.head _), Ne.symm hc23⟩
    · exact .inl rfl
    · exact .inr ⟨.tail _ (.tail _ (.tail _ (.head _))), hc12⟩
  clear Z₁₁
  dsimp only at Z₁₂ ⊢
  -- hexes
  refine wpAny_execs_cons ?_
  refine wpAny_Assign_Name ?_
  refine wpAny_Constant_str ?_
  dsimp only
  refine ls_setc (c := L + 1 + 1 + 1) (v₀ := none) (cs' := [(L + 1 + 1 + 1 + 1, none), (L + 1 + 1 + 1, some (.str hexesS (tk₁₁ + 1 + 1 + 1))), (L + 1 + 1, some (.str (alphaS d0 d1) (tk₁₁ + 1 + 1))), (L + 1, some (.ref au))]) rfl rfl rfl (s := Shared.mk h₁₂ _ _ _ _) Z₁₂ (.tail _ (.head _)) ?_ fun h₁₃ Z₁₃ => ?_
  · intro p hp
    simp only [List.mem_cons, List.not_mem_nil, or_false] at hp
    rcases hp with rfl | rfl | rfl | rfl
    · exact .inr ⟨.head _, Ne.symm hc34⟩
    · exact .inl rfl
    · exact .inr ⟨.tail _ (.tail _ (.head _)), hc23⟩
    · exact .inr ⟨.tail _ (.tail _ (.tail _ (.head _))), hc13⟩
  clear Z₁₂
  dsimp only at Z₁₃ ⊢
  -- acts
  have hdl : vd.length ≤ 16 := by have := hdi.length; have := (deeds_len ns).2; omega
  generalize hds : deedsF ns = ds at hdi
  refine wpAny_execs_cons ?_
  refine as_list (Int1 fun k y => ∃ t, y = .int (k.fmod 4) t) rfl (closureFor_none (by decide)) (by decide) rfl (by decide) rfl rfl rfl R.h ?_
  refine nmV Z₁₃.F.ns (by walk_at "mv") ?_
  refine ⟨ad, _, _, rfl, Z₁₃.S _ (.tail _ (.head _)), by simp only [List.size_toArray, sizeLine]; omega, Z₁₃.F.ns, ?_, ?_⟩
  · intro C v s₃ m₃ hv hn hm hk
    obtain ⟨k, t, rfl, _⟩ := ints_mem hdi hv
    refine wpAny_BinOp ?_
    refine nmV hn hm ?_
    refine wpAny_Constant_int ?_
    refine mod_int' (by decide) ?_
    exact ⟨⟨k, t, rfl, _, rfl⟩, ⟨_, _, rfl, fun _ _ e => e⟩⟩
  intro aa h₁₅ tk₁₅ ya _ haa hns hP₁₄ hk₁₄
  have hai := to_ints hdi hP₁₄
  have Z₁₅ := (Z₁₃.assigned hns hk₁₄).add haa
  clear Z₁₃ hk₁₄ haa hP₁₄ hns
  dsimp only
  -- rows
  refine wpAny_execs_cons ?_
  refine as_obj RowsG rfl (closureFor_none (by decide)) (by decide) rfl (by decide) rfl rfl rfl R.h ?_
  refine nmV Z₁₅.F.ns (by walk_at "mv") ?_
  refine ⟨ad, _, _, rfl, Z₁₅.S _ (.tail _ (.tail _ (.head _))), by simp only [List.size_toArray, sizeLine]; omega, Z₁₅.F.ns, ?_, ?_⟩
  · intro C v s₃ m₃ hv hn hm hk
    obtain ⟨k, t, rfl, _⟩ := ints_mem hdi hv
    have K₃ : ∀ b o, s.heap.get? b = some o → s₃.heap.get? b = some o := fun b o e => hk b o (Z₁₅.F.keep b o e)
    refine Call_ ?_
    refine nmG (v := .ref 239) (G.keeps K₃) (by k_is) ?_
    refine callWith_K X (by k_is) ?_
    refine spliced_more ?_
    refine nmV hn hm ?_
    refine spliced_none ⟨X.keeps K₃, ?_⟩
    refine wpAny_mono (fig_call (G.keeps K₃) (n := n + 19) R k t) (fun v s' hv => ?_) fun _ _ e => e
    obtain ⟨hK, D, vf, rfl, hD, ⟨nf, hDf⟩, hvf⟩ := hv
    exact ⟨⟨D, _, rfl, hD, hDf, k, t, vf, nf, rfl, rfl, hvf⟩, hK⟩
  intro ar h₁₇ tk₁₇ yr har hrl hns hP₁₆ hk₁₆
  obtain ⟨rs, hrows, hrp⟩ := rows_are hP₁₆ hdi
  have Z₁₇ := ((Z₁₅.assigned hns hk₁₆).add hrl.isList).addRows hrp
  clear Z₁₅ hk₁₆ hrl hP₁₆ hrp hns
  dsimp only
  have hU := Z₁₇.unique
  have hfig : ∀ g ∈ ds.map figF, Fig g := by
    intro g hg
    obtain ⟨x, _, rfl⟩ := List.mem_map.mp hg
    exact fig_ok x
  have hyl : yr.toList.length ≤ 16 := by have := hrows.length; have := hdi.length; simp only [List.length_map] at *; omega
  generalize hfs : ds.map figF = fs at hrows hfig
  -- parts
  refine wpAny_execs_cons ?_
  refine as_list (RowTo rs fun g y => ∃ t, y = .bytes (octF g) t) rfl (closureFor_none (by decide)) (by decide) rfl (by decide) rfl rfl rfl R.h ?_
  refine nmV Z₁₇.F.ns (by walk_at "mv") ?_
  refine ⟨ar, _, _, rfl, Z₁₇.S _ (.head _), by simp only [sizeLine]; rw [← Array.length_toList]; omega, Z₁₇.F.ns, ?_, ?_⟩
  · intro C v s₃ m₃ hv hn hm hk
    obtain ⟨a, items, g, rfl, hm1, hm2, hI⟩ := hrows.mem hv
    have K₃ : ∀ b o, s.heap.get? b = some o → s₃.heap.get? b = some o := fun b o e => hk b o (Z₁₇.F.keep b o e)
    refine Call_ ?_
    refine nmG (v := .ref 246) (G.keeps K₃) (by k_is) ?_
    refine callWith_K X (by k_is) ?_
    refine spliced_more ?_
    refine nmV hn hm ?_
    refine spliced_none ⟨X.keeps K₃, ?_⟩
    have hpl := (Z₁₇.P _ hm1).at fun o e => hk _ o e
    refine wpAny_mono (oct_call (G.keeps K₃) (n := n + 19) R a g items.toList hpl hI (hfig g hm2).len (hfig g hm2).count) (fun v s' hv => ?_) fun _ _ e => e
    exact ⟨⟨a, items, g, rfl, hm1, hI, hv.2⟩, hv.1⟩
  intro ap h₁₈ tk₁₈ yp _ hpl hns hP₁₈ hk₁₈
  have hparts : Paired (fun (b : Array UInt8) z => ∃ t, z = Value.bytes b t) (fs.map octF) yp.toList := paired_map (hrows.to hU (fun p hp => hp) hP₁₈)
  have Z₁₈ := (Z₁₇.assigned hns hk₁₈).add hpl
  clear Z₁₇ hk₁₈ hpl hP₁₈ hns
  dsimp only
  have hypl : yp.toList.length ≤ 16 := by have := hparts.length; have := hrows.length; simp only [List.length_map] at *; omega
  have hbs : ∀ b ∈ fs.map octF, b.size = 1 ∨ b.size = 2 ∨ b.size = 3 := by
    intro b hb
    obtain ⟨g, hg, rfl⟩ := List.mem_map.mp hb
    exact (hfig g hg).oct
  -- narrow
  refine wpAny_execs_cons ?_
  refine as_list (ByTo narB) rfl (closureFor_none (by decide)) (by decide) rfl (by decide) rfl rfl rfl R.h ?_
  refine nmV Z₁₈.F.ns (by walk_at "mv") ?_
  refine ⟨ap, _, _, rfl, Z₁₈.S _ (.head _), by simp only [sizeLine]; rw [← Array.length_toList]; omega, Z₁₈.F.ns, ?_, ?_⟩
  · intro C v s₃ m₃ hv hn hm hk
    obtain ⟨b, hb, t, rfl⟩ := paired_mem hparts hv
    have hbz := hbs b hb
    have K₃ : ∀ b o, s.heap.get? b = some o → s₃.heap.get? b = some o := fun b o e => hk b o (Z₁₈.F.keep b o e)
    refine Call_ ?_
    refine nmG (v := .ref 251) (G.keeps K₃) (by k_is) ?_
    refine callWith_K X (by k_is) ?_
    refine spliced_more ?_
    refine Call_ ?_
    refine nmG (v := .ref 232) (G.keeps K₃) (by k_is) ?_
    refine callWith_K X (by k_is) ?_
    refine spliced_more ?_
    refine nmV hn hm ?_
    refine spliced_none ⟨X.keeps K₃, ?_⟩
    refine wpAny_mono (b16_call (G.keeps K₃) (n := n + 17) R b t (by omega)) (fun v s' hv => ?_) fun _ _ e => e
    obtain ⟨⟨h₄, tk₄, rfl, hk₄⟩, t₄, rfl⟩ := hv
    have K₄ : ∀ b o, s.heap.get? b = some o → h₄.get? b = some o := fun b o e => hk₄ b o (K₃ b o e)
    refine spliced_none ⟨X.keeps K₄, ?_⟩
    refine wpAny_mono (textb_call (s := Shared.mk h₄ _ _ _ _) (G.keeps K₄) (n := n + 19) R (b16B b) t₄ ?_) (fun v s' hv => ?_) fun _ _ e => e
    · exact Nat.le_trans (nar_len (by omega)) (by decide)
    obtain ⟨hK, t₅, rfl⟩ := hv
    exact ⟨⟨b, t, t₅, rfl, rfl⟩, Keeps.trans ⟨_, _, rfl, hk₄⟩ hK⟩
  intro an h₁₉ tk₁₉ yn _ hnl hns hP₁₉ hk₁₉
  have hnarrow := by_strs hparts hP₁₉
  have Z₁₉ := (Z₁₈.assigned hns hk₁₉).add hnl
  clear Z₁₈ hk₁₉ hnl hP₁₉ hns
  dsimp only
  -- wide
  refine wpAny_execs_cons ?_
  refine as_list (cl := [(Str.ofString "duo", L + 1)]) (ByTo (widB (oU d0) (oU d1))) rfl (by with_unfolding_all rfl) (by decide) rfl (by decide) rfl rfl rfl R.h ?_
  refine nmV Z₁₉.F.ns (by walk_at "mv") ?_
  refine ⟨ap, _, _, rfl, Z₁₉.S _ (.tail _ (.head _)), by simp only [sizeLine]; rw [← Array.length_toList]; omega, Z₁₉.F.ns, ?_, ?_⟩
  · intro C v s₃ m₃ hv hn hm hk
    obtain ⟨b, hb, t, rfl⟩ := paired_mem hparts hv
    have hbz := hbs b hb
    have K₃ : ∀ b o, s.heap.get? b = some o → s₃.heap.get? b = some o := fun b o e => hk b o (Z₁₉.F.keep b o e)
    refine Call_ ?_
    refine nmG (v := .ref 251) (G.keeps K₃) (by k_is) ?_
    refine callWith_K X (by k_is) ?_
    refine spliced_more ?_
    refine Call_ ?_
    refine nmG (v := .ref 225) (G.keeps K₃) (by k_is) ?_
    refine callWith_K X (by k_is) ?_
    refine spliced_more ?_
    refine nmV hn hm ?_
    refine spliced_more ?_
    refine Call_ ?_
    refine nmB (v := .type "bytes") (G.keeps K₃) (by k_is) (by boot_fast) (by decide) ?_
    refine PyProof.Rows.callWith_type1 ?_
    refine spliced_more ?_
    refine nmC (c := L + 1) Z₁₉ (.tail _ (.tail _ (.tail _ (.head _)))) hk rfl ?_
    refine spliced_none ?_
    refine call_bytes_ints (vs := vu) (ns := [d0, d1]) ((Z₁₉.S _ (.tail _ (.tail _ (.tail _ (.tail _ (.head _)))))).at fun o e => hk _ o e) hud hoct (by have := hud.length; simp only [List.length_cons, List.length_nil] at this; simp only [sizeLine]; omega) R.h fun h₄ t₄ tk₄ hk₄ => ?_
    have K₄ : ∀ b o, s.heap.get? b = some o → h₄.get? b = some o := fun b o e => hk₄ b o (K₃ b o e)
    refine spliced_none ⟨X.keeps K₄, ?_⟩
    refine wpAny_mono (b64_call (s := Shared.mk h₄ _ _ _ _) (G.keeps K₄) (n := n + 17) R b t t₄ (oU d0) (oU d1) hbz) (fun v s' hv => ?_) fun _ _ e => e
    obtain ⟨⟨h₅, tk₅, rfl, hk₅⟩, t₅, rfl⟩ := hv
    have K₅ : ∀ b o, s.heap.get? b = some o → h₅.get? b = some o := fun b o e => hk₅ b o (K₄ b o e)
    refine spliced_none ⟨X.keeps K₅, ?_⟩
    refine wpAny_mono (textb_call (s := Shared.mk h₅ _ _ _ _) (G.keeps K₅) (n := n + 19) R (b64B (oU d0) (oU d1) b) t₅ ?_) (fun v s' hv => ?_) fun _ _ e => e
    · rw [wid_len hbz]; decide
    obtain ⟨hK, t₆, rfl⟩ := hv
    exact ⟨⟨b, t, t₆, rfl, rfl⟩, Keeps.trans ⟨_, _, rfl, fun b o e => hk₅ b o (hk₄ b o e)⟩ hK⟩
  intro aw h₂₀ tk₂₀ yw _ hwl hns hP₂₀ hk₂₀
  have hwide := by_strs hparts hP₂₀
  have Z₂₀ := (Z₁₉.assigned hns hk₂₀).add hwl
  clear Z₁₉ hk₂₀ hwl hP₂₀ hns
  dsimp only
  have hu : A.units + 64 < cLine := by have := R.u; show A.units + 64 < 9900; omega
  -- the first test
  refine wpAny_execs_cons ?_
  refine wpAny_If ?_
  refine wpAny_isTrue_Compare1 ?_
  refine nmV Z₂₀.F.ns (by walk_at "mv") ?_
  refine lc_list (fun _ => true) (cl := [(Str.ofString "hexes", L + 1 + 1 + 1)]) (ByTo hexT) (by with_unfolding_all rfl) (by decide) rfl (by decide) rfl R.h ?_
  refine nmV Z₂₀.F.ns (by walk_at "mv") ?_
  refine ⟨ap, _, rfl, Z₂₀.S _ (.tail _ (.tail _ (.head _))), by simp only [sizeLine]; rw [← Array.length_toList]; omega, ?_, ?_, ?_⟩
  · intro C v s₃ m₃ hv hn hm hk
    exact wpAny_pure ⟨rfl, Keeps.refl _⟩
  · intro C v s₃ m₃ hv _ hn hm hk
    obtain ⟨b, hb, t, rfl⟩ := paired_mem hparts hv
    have hbz := hbs b hb
    refine MethodCall_ ?_
    refine wpAny_Constant_str ?_
    refine getMethod_builtin (typeIs_str _ _ _) PySem.F.plainAttrs_str PySem.F.slot_str_join PySem.F.type_str_join (fun _ e => nomatch e) ?_
    refine callWith_method1 ?_
    refine spliced_more ?_
    refine lc_bytes (cl := [(Str.ofString "hexes", L + 1 + 1 + 1)]) (Int1 fun k y => ∃ t, y = .str (hexC k) t) (by with_unfolding_all rfl) (by decide) rfl (by decide) rfl R.h ?_
    refine nmV hn hm ?_
    refine ⟨b, t, rfl, by simp only [sizeLine]; omega, ?_, ?_⟩
    · intro C' c u s₄ m₄ hc hn' hm' hk'
      have hr' := c.toNat_lt
      have d1' : (0 : Int) ≤ (c.toNat : Int).fdiv 16 ∧ (c.toNat : Int).fdiv 16 < 16 := by rw [Int.fdiv_eq_ediv_of_nonneg _ (by omega)]; omega
      have d2' : (0 : Int) ≤ (c.toNat : Int).fmod 16 ∧ (c.toNat : Int).fmod 16 < 16 := ⟨Int.fmod_nonneg_of_pos _ (by omega), Int.fmod_lt_of_pos _ (by omega)⟩
      have hxl : hexesS.length = 16 := by decide +kernel
      have K' : ∀ b o, h₂₀.get? b = some o → s₄.heap.get? b = some o := fun b o e => hk' b o (hk b o e)
      refine wpAny_BinOp ?_
      refine Subscript_ ?_
      refine nmC (c := L + 1 + 1 + 1) Z₂₀ (.tail _ (.head _)) K' rfl ?_
      refine wpAny_BinOp ?_
      refine nmV hn' hm' ?_
      refine wpAny_Constant_int ?_
      refine fl_16 ?_
      refine item_ch d1'.1 (by rw [hxl]; exact d1'.2) (by rw [hxl]; decide) ?_
      dsimp only
      refine Subscript_ ?_
      refine nmC (s := Shared.mk s₄.heap _ _ _ _) (c := L + 1 + 1 + 1) Z₂₀ (.tail _ (.head _)) K' rfl ?_
      refine wpAny_BinOp ?_
      refine nmV hn' hm' ?_
      refine wpAny_Constant_int ?_
      refine mod_int' (by decide) ?_
      refine item_ch d2'.1 (by rw [hxl]; exact d2'.2) (by rw [hxl]; decide) ?_
      dsimp only
      refine add_strs (by simp [chS, Str.length]) (by simp [chS, Str.length]) (by simp [chS, Str.length]) ?_
      exact ⟨⟨_, u, rfl, _, rfl⟩, ⟨_, _, rfl, fun _ _ e => e⟩⟩
    · intro D h' tk' ys vs' hD hlD hi' hP hk'
      have hS := to_strs hi' hP
      refine spliced_none ?_
      refine join_listW (x := Str.ofString "") hlD hS (by decide) ?_ fun t' k' => ?_
      · rw [List.map_map, List.length_map, KBw.ints_length]
        have e1 : (List.map ((fun x : Str => x.length) ∘ hexC) (KBw.bInts b)) = (KBw.bInts b).map fun _ => 2 := List.map_congr_left fun k _ => (Str.length_append _ _)
        rw [e1, List.map_const', List.sum_replicate_nat, KBw.ints_length]
        omega
      · exact ⟨⟨b, t, t', rfl, rfl⟩, ⟨_, _, rfl, hk'⟩⟩
  intro D₂₁ h₂₁ tk₂₁ y₂₁ _ hD₂₁ _ hP₂₁ hk₂₁
  rw [List.filter_eq_self.mpr (fun _ _ => rfl)] at hP₂₁
  have hS₂₁ := by_strs hparts hP₂₁
  have Z₂₁ := Z₂₀.keeps hk₂₁
  clear Z₂₀ hk₂₁ hP₂₁
  have ehex : (fs.map octF).map hexT = (fs.map octF).map narB := List.map_congr_left fun b hb => (nar_hex (by have := hbs b hb; omega)).symm
  rw [ehex] at hS₂₁
  refine ne_strs (Z₂₁.S _ (.tail _ (.head _))) hD₂₁ hnarrow hS₂₁ (fun x hx => ?_) hu ?_
  · obtain ⟨b, hb, rfl⟩ := List.mem_map.mp hx
    exact fun c hc => ((nar_ok (by have := hbs b hb; omega)).1 c hc).2.2
  refine wpAny_truthy_bool ?_
  rw [if_neg (by decide)]
  refine wpAny_execs_nil ?_
  dsimp only
  clear hS₂₁ hD₂₁ ehex
  -- the second test
  refine wpAny_execs_cons ?_
  refine wpAny_If ?_
  refine wpAny_isTrue_Compare1 ?_
  refine nmV Z₂₁.F.ns (by walk_at "mv") ?_
  refine lc_list (fun _ => true) (cl := [(Str.ofString "alphabet", L + 1 + 1)]) (RowTo rs fun g y => ∃ t, y = .str (alT d0 d1 g) t) (by with_unfolding_all rfl) (by decide) rfl (by decide) rfl R.h ?_
  refine nmV Z₂₁.F.ns (by walk_at "mv") ?_
  refine ⟨ar, _, rfl, Z₂₁.S _ (.tail _ (.tail _ (.tail _ (.head _)))), by simp only [sizeLine]; rw [← Array.length_toList]; omega, ?_, ?_, ?_⟩
  · intro C v s₃ m₃ hv hn hm hk
    exact wpAny_pure ⟨rfl, Keeps.refl _⟩
  · intro C v s₃ m₃ hv _ hn hm hk
    obtain ⟨a, items, g, rfl, hm1, hm2, hI⟩ := hrows.mem hv
    have hgl := (hfig g hm2).len
    have hgr := (hfig g hm2).range
    have hpl := (Z₂₁.P _ hm1).at fun o e => hk _ o e
    refine MethodCall_ ?_
    refine wpAny_Constant_str ?_
    refine getMethod_builtin (typeIs_str _ _ _) PySem.F.plainAttrs_str PySem.F.slot_str_join PySem.F.type_str_join (fun _ e => nomatch e) ?_
    refine callWith_method1 ?_
    refine spliced_more ?_
    refine lc_list (fun _ => true) (cl := [(Str.ofString "alphabet", L + 1 + 1)]) (Int1 fun k y => ∃ t, y = .str (chS (alphaS d0 d1) k.toNat) t) (by with_unfolding_all rfl) (by decide) rfl (by decide) rfl R.h ?_
    refine nmV hn hm ?_
    refine ⟨a, items, rfl, hpl.isList, by have := hI.length; simp only [sizeLine]; rw [← Array.length_toList]; omega, ?_, ?_, ?_⟩
    · intro C v s₃ m₃ hv hn hm hk
      exact wpAny_pure ⟨rfl, Keeps.refl _⟩
    · intro C' v' s₄ m₄ hv' _ hn' hm' hk'
      obtain ⟨k, tk', rfl, hkm⟩ := ints_mem hI hv'
      have hkr := hgr k hkm
      have hal := alpha_len d0 d1
      have K' : ∀ b o, h₂₁.get? b = some o → s₄.heap.get? b = some o := fun b o e => hk' b o (hk b o e)
      refine Subscript_ ?_
      refine nmC (c := L + 1 + 1) Z₂₁ (.tail _ (.tail _ (.head _))) K' rfl ?_
      refine nmV hn' hm' ?_
      refine item_ch hkr.1 (by rw [hal]; omega) (by rw [hal]; decide) ?_
      exact ⟨⟨k, tk', rfl, _, rfl⟩, ⟨_, _, rfl, fun _ _ e => e⟩⟩
    · intro D h' tk' ys hD hlD _ hP hk'
      rw [List.filter_eq_self.mpr (fun _ _ => rfl)] at hP
      have hS := to_strs (f := fun k => chS (alphaS d0 d1) k.toNat) hI hP
      refine spliced_none ?_
      refine join_listW (x := Str.ofString "") hlD hS (by decide) ?_ fun t' k' => ?_
      · rw [List.map_map, List.length_map]
        have e1 : (List.map ((fun x : Str => x.length) ∘ fun k : Int => chS (alphaS d0 d1) k.toNat) g) = g.map fun _ => 1 := List.map_congr_left fun k _ => by simp [chS, Str.length]
        rw [e1, sum_ones]
        omega
      · exact ⟨⟨a, items, g, rfl, hm1, hI, t', rfl⟩, ⟨_, _, rfl, hk'⟩⟩
  intro D₂₂ h₂₂ tk₂₂ y₂₂ _ hD₂₂ _ hP₂₂ hk₂₂
  rw [List.filter_eq_self.mpr (fun _ _ => rfl)] at hP₂₂
  have hS₂₂ := fs_strs (f := alT d0 d1) (hrows.to hU (fun p hp => hp) hP₂₂)
  have Z₂₂ := Z₂₁.keeps hk₂₂
  clear Z₂₁ hk₂₂ hP₂₂
  have eal : fs.map (alT d0 d1) = (fs.map octF).map (widB (oU d0) (oU d1)) := by
    rw [List.map_map]
    exact List.map_congr_left fun g hg => (wid_al ho0 ho1 (hfig g hg)).symm
  rw [eal] at hS₂₂
  refine ne_strs (Z₂₂.S _ (.head _)) hD₂₂ hwide hS₂₂ (fun x hx => ?_) hu ?_
  · obtain ⟨b, hb, rfl⟩ := List.mem_map.mp hx
    obtain ⟨g, hg, rfl⟩ := List.mem_map.mp hb
    exact fun c hc => ((wid_ok ho0 ho1 (hfig g hg)).1 c hc).2.2
  refine wpAny_truthy_bool ?_
  rw [if_neg (by decide)]
  refine wpAny_execs_nil ?_
  dsimp only
  clear hS₂₂ hD₂₂ eal
  -- sorts
  refine wpAny_execs_cons ?_
  refine wpAny_Assign_Name ?_
  refine wpAny_BinOp ?_
  refine wpAny_BinOp ?_
  refine wpAny_BinOp ?_
  refine lc_range (n := 52) (Int1 fun k y => ∃ t, y = .int (k.fmod 26) t) (closureFor_none (by decide)) (by decide) rfl (by decide) rfl R.h (by decide) ?_
  refine Call_ ?_
  refine nmB (v := .type "range") (G.keeps Z₂₂.F.keep) (by k_is) (by boot_fast) (by decide) ?_
  refine PyProof.Rows.callWith_type1 ?_
  refine spliced_more ?_
  refine wpAny_Constant_int ?_
  refine spliced_none ?_
  refine range1_rows Z₂₂.F News.nil fun h₂₃ tk₂₃ t₂₃ u₂₃ v₂₃ hr₂₃ _ _ hk₂₃ => ?_
  refine ⟨_, _, _, _, rfl, hr₂₃, ?_, ?_⟩
  · intro C k tv s₃ m₃ hk52 hn hm hk
    refine wpAny_BinOp ?_
    refine nmV hn hm ?_
    refine wpAny_Constant_int ?_
    refine mod_int' (by decide) ?_
    exact ⟨⟨_, tv, rfl, _, rfl⟩, ⟨_, _, rfl, fun _ _ e => e⟩⟩
  intro D₁ h₂₄ tk₂₄ y₁ v₁ hD₁ hI₁ hP₁ hk₂₄
  have hi₁ := to_ints hI₁ hP₁
  have Z₂₄ := ((Z₂₂.keeps hk₂₃).keeps hk₂₄).add hD₁.isList
  clear Z₂₂ hk₂₃ hk₂₄ hD₁ hP₁ hr₂₃ hI₁
  dsimp only
  refine Call_ ?_
  refine nmB (v := .type "list") (G.keeps Z₂₄.F.keep) (by k_is) (by boot_fast) (by decide) ?_
  refine PyProof.Rows.callWith_type1 ?_
  refine spliced_more ?_
  refine Call_ ?_
  refine nmB (v := .type "range") (G.keeps Z₂₄.F.keep) (by k_is) (by boot_fast) (by decide) ?_
  refine PyProof.Rows.callWith_type1 ?_
  refine spliced_more ?_
  refine wpAny_Constant_int ?_
  refine spliced_more ?_
  refine wpAny_Constant_int ?_
  refine spliced_none ?_
  refine range2_rows Z₂₄.F News.nil fun h₂₅ tk₂₅ t₂₅ u₂₅ v₂₅ hr₂₅ F₂₅ _ hk₂₅ => ?_
  refine spliced_none ?_
  refine list_rangeD (n := 10) R.h F₂₅ News.nil hr₂₅ (by decide +kernel) (by decide +kernel) (by decide) fun h₂₆ tk₂₆ y₂ _ _ hk₂₆ _ hD₂ _ hcar => ?_
  have Z₂₆ := ((Z₂₄.keeps hk₂₅).keeps hk₂₆).add hD₂
  clear Z₂₄ hk₂₅ hk₂₆ hD₂ hr₂₅ F₂₅
  have hi₂ : IntsAre y₂ [48, 49, 50, 51, 52, 53, 54, 55, 56, 57] := IntsAre.ofCarried hcar
  clear hcar
  obtain ⟨y₁⟩ := y₁
  dsimp only at Z₂₆ hi₁ ⊢
  refine add_two (vs := y₁) (ws := y₂) (s := Shared.mk h₂₆ _ _ _ _) (Z₂₆.S _ (.tail _ (.head _))) (Z₂₆.S _ (.head _)) ?_ fun h₂₇ D₃ hk₂₇ _ hD₃ => ?_
  · have e1 := hi₁.length
    have e2 := hi₂.length
    simp only [List.length_map, List.length_range, List.length_cons, List.length_nil] at e1 e2
    omega
  have hi₃ := hi₁.append hi₂
  have Z₂₇ := (Z₂₆.keeps hk₂₇).add hD₃
  clear Z₂₆ hk₂₇ hD₃ hi₁ hi₂
  dsimp only
  refine lc_list (fun _ => true) (Int1 fun k y => ∃ t, y = .int (kindF k) t) (closureFor_none (by decide)) (by decide) rfl (by decide) rfl R.h ?_
  refine nmC (s := Shared.mk h₂₇ _ _ _ _) (c := L + 1) Z₂₇ (.tail _ (.tail _ (.tail _ (.head _)))) (fun _ _ e => e) rfl ?_
  refine ⟨au, _, rfl, Z₂₇.S _ (.tail _ (.tail _ (.tail _ (.tail _ (.tail _ (.tail _ (.tail _ (.tail _ (.head _))))))))), ?_, ?_, ?_, ?_⟩
  · have := hud.length
    simp only [List.length_cons, List.length_nil] at this
    simp only [sizeLine, List.size_toArray]
    omega
  · intro C v s₃ m₃ hv hn hm hk
    exact wpAny_pure ⟨rfl, Keeps.refl _⟩
  · intro C v s₃ m₃ hv _ hn hm hk
    obtain ⟨k, t, rfl, _⟩ := ints_mem hud hv
    have K₃ : ∀ b o, s.heap.get? b = some o → s₃.heap.get? b = some o := fun b o e => hk b o (Z₂₇.F.keep b o e)
    refine Call_ ?_
    refine nmG (v := .ref 258) (G.keeps K₃) (by k_is) ?_
    refine callWith_K X (by k_is) ?_
    refine spliced_more ?_
    refine nmV hn hm ?_
    refine spliced_none ⟨X.keeps K₃, ?_⟩
    refine wpAny_mono (kind_call (G.keeps K₃) (n := n + 19) R k t) (fun v s' hv => ?_) fun _ _ e => e
    exact ⟨⟨k, t, rfl, hv.2⟩, hv.1⟩
  intro D₄ h₂₈ tk₂₈ y₄ _ hD₄ _ hP₄ hk₂₈
  rw [List.filter_eq_self.mpr (fun _ _ => rfl)] at hP₄
  have hi₄ := to_ints hud hP₄
  obtain ⟨y₄⟩ := y₄
  have Z₂₈ := (Z₂₇.keeps hk₂₈).add hD₄
  clear Z₂₇ hk₂₈ hD₄ hP₄
  dsimp only at Z₂₈ hi₄ ⊢
  refine add_two (vs := y₁ ++ y₂) (ws := y₄) (s := Shared.mk h₂₈ _ _ _ _) (Z₂₈.S _ (.tail _ (.head _))) (Z₂₈.S _ (.head _)) ?_ fun h₂₉ D₅ hk₂₉ _ hD₅ => ?_
  · have e1 := hi₃.length
    have e2 := hi₄.length
    simp only [List.length_map, List.length_range, List.length_cons, List.length_nil, List.length_append] at e1 e2 ⊢
    omega
  have hi₅ := hi₃.append hi₄
  have Z₂₉ := (Z₂₈.keeps hk₂₉).add hD₅
  clear Z₂₈ hk₂₉ hD₅ hi₃ hi₄
  dsimp only
  refine List_ ?_
  refine spliced_more ?_
  refine wpAny_Constant_int ?_
  refine spliced_none ?_
  refine new_list (s := Shared.mk h₂₉ _ _ _ _) (by simp) fun h₃₀ D₆ hk₃₀ _ hD₆ => ?_
  have Z₃₀ := (Z₂₉.keeps hk₃₀).add hD₆.isList
  clear Z₂₉ hk₃₀ hD₆
  dsimp only at Z₃₀ ⊢
  refine add_two (vs := y₁ ++ y₂ ++ y₄) (s := Shared.mk h₃₀ _ _ _ _) (Z₃₀.S _ (.tail _ (.head _))) (Z₃₀.S _ (.head _)) ?_ fun h₃₁ as hk₃₁ _ has => ?_
  · have e1 := hi₅.length
    simp only [List.length_map, List.length_range, List.length_cons, List.length_nil, List.length_append] at e1 ⊢
    omega
  obtain ⟨vt, hvt, hti⟩ : ∃ vt : List Value, h₃₁.IsList as (Array.mk vt) ∧ IntsAre vt (sortsL d0 d1) := by
    refine ⟨_, has, ?_⟩
    have := hi₅.append (.cons 61 (tk₂₈ : Tok) .nil)
    rw [List.map_map] at this
    exact this
  have Z₃₁ := (Z₃₀.keeps hk₃₁).add hvt
  clear Z₃₀ hk₃₁ has hvt hi₅
  dsimp only
  refine ls_setc (s := Shared.mk h₃₁ _ _ _ _) (c := L + 1 + 1 + 1 + 1) (v₀ := none) (cs' := [(L + 1 + 1 + 1 + 1, some (.ref as)), (L + 1 + 1 + 1, some (.str hexesS (tk₁₁ + 1 + 1 + 1))), (L + 1 + 1, some (.str (alphaS d0 d1) (tk₁₁ + 1 + 1))), (L + 1, some (.ref au))]) rfl rfl rfl Z₃₁ (.head _) ?_ fun h₃₂ Z₃₂ => ?_
  · intro p hp
    simp only [List.mem_cons, List.not_mem_nil, or_false] at hp
    rcases hp with rfl | rfl | rfl | rfl
    · exact .inl rfl
    · exact .inr ⟨.tail _ (.head _), hc34⟩
    · exact .inr ⟨.tail _ (.tail _ (.head _)), hc24⟩
    · exact .inr ⟨.tail _ (.tail _ (.tail _ (.head _))), hc14⟩
  clear Z₃₁
  dsimp only
  have Z : LS s.heap L _ _ [(aw, yw), (an, yn), (ar, yr), (aa, ya), (as, Array.mk vt)] rs h₃₂ := Z₃₂.sub (by
    intro p hp
    simp only [List.mem_cons, List.not_mem_nil, or_false] at hp
    rcases hp with rfl | rfl | rfl | rfl | rfl
    · exact .tail _ (.tail _ (.tail _ (.tail _ (.tail _ (.tail _ (.tail _ (.head _)))))))
    · exact .tail _ (.tail _ (.tail _ (.tail _ (.tail _ (.tail _ (.tail _ (.tail _ (.head _))))))))
    · exact .tail _ (.tail _ (.tail _ (.tail _ (.tail _ (.tail _ (.tail _ (.tail _ (.tail _ (.tail _ (.head _))))))))))
    · exact .tail _ (.tail _ (.tail _ (.tail _ (.tail _ (.tail _ (.tail _ (.tail _ (.tail _ (.tail _ (.tail _ (.head _)))))))))))
    · exact .head _)
  clear Z₃₂
  have hdlen : ds.length ≤ 16 := by have := hdi.length; omega
  have hdf : ds.length = fs.length := by rw [← hfs, List.length_map]
  -- the first run
  refine wpAny_execs_cons ?_
  refine wpAny_If ?_
  refine isTrue_not ?_
  refine isTrue_plain ?_
  refine Call_ ?_
  refine nmG (s := Shared.mk h₃₂ _ _ _ _) (v := .ref 277) (G.keeps Z.F.keep) (by k_is) ?_
  refine callWith_K X (by k_is) ?_
  refine spliced_more ?_
  refine Call_ ?_
  refine nmG (s := Shared.mk h₃₂ _ _ _ _) (v := .ref 182) (G.keeps Z.F.keep) (by k_is) ?_
  refine callWith_K0 (s := Shared.mk h₃₂ _ _ _ _) (X.keeps Z.F.keep) (by k_is) ?_
  refine wpAny_mono (new_call (s := Shared.mk h₃₂ _ _ _ _) (G.keeps Z.F.keep) (n := n + 17) R) (fun v s' hv => ?_) fun _ _ e => e
  obtain ⟨⟨h₃₃, tk₃₃, rfl, hk₃₃⟩, tb, dx, l, rfl, Tb, hpl, hln⟩ := hv
  dsimp only at Tb hpl hln ⊢
  have Z₃₃ := Z.keeps hk₃₃
  refine spliced_more ?_
  refine nmV (s := Shared.mk h₃₃ _ _ _ _) Z₃₃.F.ns (by walk_at "mv") ?_
  refine spliced_more ?_
  refine nmV (s := Shared.mk h₃₃ _ _ _ _) Z₃₃.F.ns (by walk_at "mv") ?_
  refine spliced_more ?_
  refine lc_list (fun _ => true) (RowTo rs fun g y => ∃ t, y = .int (keyF g) t) (closureFor_none (by decide)) (by decide) rfl (by decide) rfl R.h ?_
  refine nmV (s := Shared.mk h₃₃ _ _ _ _) Z₃₃.F.ns (by walk_at "mv") ?_
  refine ⟨ar, _, rfl, Z₃₃.S _ (.tail _ (.tail _ (.head _))), by simp only [sizeLine]; rw [← Array.length_toList]; omega, ?_, ?_, ?_⟩
  · intro C v s₃ m₃ hv hn hm hk
    exact wpAny_pure ⟨rfl, Keeps.refl _⟩
  · intro C v s₃ m₃ hv _ hn hm hk
    obtain ⟨a, items, g, rfl, hm1, hm2, hI⟩ := hrows.mem hv
    have K₃ : ∀ b o, s.heap.get? b = some o → s₃.heap.get? b = some o := fun b o e => hk b o (Z₃₃.F.keep b o e)
    refine Call_ ?_
    refine nmG (v := .ref 265) (G.keeps K₃) (by k_is) ?_
    refine callWith_K X (by k_is) ?_
    refine spliced_more ?_
    refine nmV hn hm ?_
    refine spliced_none ⟨X.keeps K₃, ?_⟩
    have hpl' := (Z₃₃.P _ hm1).at fun o e => hk _ o e
    refine wpAny_mono (key_call (G.keeps K₃) (n := n + 19) R a g items.toList hpl'.isList hI) (fun v s' hv => ?_) fun _ _ e => e
    exact ⟨⟨a, items, g, rfl, hm1, hI, hv.2⟩, hv.1⟩
  intro ak h₃₄ tk₃₄ yk hakn hakl _ hPk hk₃₄
  rw [List.filter_eq_self.mpr (fun _ _ => rfl)] at hPk
  have hki := fs_ints (f := keyF) (hrows.to hU (fun p hp => hp) hPk)
  have Z₃₄ := Z₃₃.keeps hk₃₄
  refine spliced_none ⟨X.keeps Z₃₄.F.keep, ?_⟩
  have hsl : s.heap.get? l = none := by
    cases e : s.heap.get? l with
    | none => rfl
    | some o => have := Z.F.keep _ _ e; rw [hln] at this; cases this
  have hakne : ak ≠ l := by rintro rfl; obtain ⟨_, e⟩ := hpl; rw [hakn] at e; cases e
  have RI := mk_runin (ds := ds) (fs := fs) (nmF := fun g => narB (octF g)) (kf := keyF) (hide_list (Z₃₄.S _ (.tail _ (.tail _ (.tail _ (.head _))))) (list_ne (Z.S _ (.tail _ (.tail _ (.tail _ (.head _))))) hln)) (hide_list (Z₃₄.S _ (.tail _ (.head _))) (list_ne (Z.S _ (.tail _ (.head _))) hln)) (hide_list hakl hakne) hai (by rw [List.map_map] at hnarrow; exact hnarrow) hki hdlen hdf hfig (fun g hg => nar_ok (by have := hg.oct; omega)) fun g g' hg hg' => nar_same hg hg'
  refine wpAny_mono (run_call (s := Shared.mk h₃₄ _ _ _ _) (run_gd G Z₃₄.F.keep hsl) (n := n + 8) R (Tb.keeps hk₃₄) (hpl.at fun o e => hk₃₄ _ o e) RI) (fun v s' hv => ?_) fun _ _ e => e
  obtain ⟨rfl, h₃₅, tk₃₅, rfl, hk₃₅⟩ := hv
  have Z₃₅ := Z.vals (h' := h₃₅) hln fun b o hb e => hk₃₅ b o hb (hk₃₄ b o (hk₃₃ b o e))
  clear Z Z₃₃ Z₃₄ RI hki hPk hakl hakn hk₃₃ hk₃₄ hk₃₅ Tb hpl hln hsl hakne
  refine wpAny_truthy_bool ?_
  dsimp only
  rw [if_neg (by decide)]
  refine wpAny_execs_nil ?_
  dsimp only
  -- the second run
  refine wpAny_execs_cons ?_
  refine wpAny_Return_some ?_
  refine Call_ ?_
  refine nmG (s := Shared.mk h₃₅ _ _ _ _) (v := .ref 277) (G.keeps Z₃₅.F.keep) (by k_is) ?_
  refine callWith_K X (by k_is) ?_
  refine spliced_more ?_
  refine Call_ ?_
  refine nmG (s := Shared.mk h₃₅ _ _ _ _) (v := .ref 182) (G.keeps Z₃₅.F.keep) (by k_is) ?_
  refine callWith_K0 (s := Shared.mk h₃₅ _ _ _ _) (X.keeps Z₃₅.F.keep) (by k_is) ?_
  refine wpAny_mono (new_call (s := Shared.mk h₃₅ _ _ _ _) (G.keeps Z₃₅.F.keep) (n := n + 17) R) (fun v s' hv => ?_) fun _ _ e => e
  obtain ⟨⟨h₃₆, tk₃₆, rfl, hk₃₆⟩, tb, dx, l, rfl, Tb, hpl, hln⟩ := hv
  dsimp only at Tb hpl hln ⊢
  have Z₃₆ := Z₃₅.keeps hk₃₆
  refine spliced_more ?_
  refine nmV (s := Shared.mk h₃₆ _ _ _ _) Z₃₆.F.ns (by walk_at "mv") ?_
  refine spliced_more ?_
  refine nmV (s := Shared.mk h₃₆ _ _ _ _) Z₃₆.F.ns (by walk_at "mv") ?_
  refine spliced_more ?_
  refine lc_list (fun _ => true) (cl := [(Str.ofString "sorts", L + 1 + 1 + 1 + 1)]) (RowTo rs fun g y => ∃ t, y = .int (keyF (g.map (sortF d0 d1))) t) (by with_unfolding_all rfl) (by decide) rfl (by decide) rfl R.h ?_
  refine nmV (s := Shared.mk h₃₆ _ _ _ _) Z₃₆.F.ns (by walk_at "mv") ?_
  refine ⟨ar, _, rfl, Z₃₆.S _ (.tail _ (.tail _ (.head _))), by simp only [sizeLine]; rw [← Array.length_toList]; omega, ?_, ?_, ?_⟩
  · intro C v s₃ m₃ hv hn hm hk
    exact wpAny_pure ⟨rfl, Keeps.refl _⟩
  · intro C v s₃ m₃ hv _ hn hm hk
    obtain ⟨a, items, g, rfl, hm1, hm2, hI⟩ := hrows.mem hv
    have hgl := (hfig g hm2).len
    have hgr := (hfig g hm2).range
    have K₃ : ∀ b o, s.heap.get? b = some o → s₃.heap.get? b = some o := fun b o e => hk b o (Z₃₆.F.keep b o e)
    have hpl' := (Z₃₆.P _ hm1).at fun o e => hk _ o e
    refine Call_ ?_
    refine nmG (v := .ref 265) (G.keeps K₃) (by k_is) ?_
    refine callWith_K X (by k_is) ?_
    refine spliced_more ?_
    refine lc_list (fun _ => true) (cl := [(Str.ofString "sorts", L + 1 + 1 + 1 + 1)]) (Int1 fun k y => ∃ t, y = .int (sortF d0 d1 k) t) (by with_unfolding_all rfl) (by decide) rfl (by decide) rfl R.h ?_
    refine nmV hn hm ?_
    refine ⟨a, items, rfl, hpl'.isList, by have := hI.length; simp only [sizeLine]; rw [← Array.length_toList]; omega, ?_, ?_, ?_⟩
    · intro C v s₃ m₃ hv hn hm hk
      exact wpAny_pure ⟨rfl, Keeps.refl _⟩
    · intro C' v' s₄ m₄ hv' _ hn' hm' hk'
      obtain ⟨k, tk', rfl, hkm⟩ := ints_mem hI hv'
      have hkr := hgr k hkm
      obtain ⟨kn, rfl⟩ := Int.eq_ofNat_of_zero_le hkr.1
      have hslen : (sortsL d0 d1).length = 65 := by simp [sortsL]
      have hget : (sortsL d0 d1)[kn]? = some (sortF d0 d1 (kn : Nat)) := by
        unfold sortF
        rw [Int.toNat_natCast]
        have hlt : kn < (sortsL d0 d1).length := by omega
        simp [hlt]
      obtain ⟨ts, hts⟩ := ints_get hti hget
      have K' : ∀ b o, h₃₆.get? b = some o → s₄.heap.get? b = some o := fun b o e => hk' b o (hk b o e)
      refine Subscript_ ?_
      refine nmC (c := L + 1 + 1 + 1 + 1) Z₃₆ (.head _) K' rfl ?_
      refine nmV hn' hm' ?_
      refine item_at ((Z₃₆.S _ (.tail _ (.tail _ (.tail _ (.tail _ (.head _)))))).at fun o e => K' _ o e) (by omega) hts ?_
      exact ⟨⟨_, tk', rfl, _, rfl⟩, Keeps.refl _⟩
    · intro D h' tk' ys hD hlD _ hP hk'
      rw [List.filter_eq_self.mpr (fun _ _ => rfl)] at hP
      have hS := to_ints hI hP
      have K₄ : ∀ b o, s.heap.get? b = some o → h'.get? b = some o := fun b o e => hk' b o (K₃ b o e)
      refine spliced_none ⟨X.keeps K₄, ?_⟩
      refine wpAny_mono (key_call (s := Shared.mk h' _ _ _ _) (G.keeps K₄) (n := n + 19) R D _ ys.toList hlD hS) (fun v s' hv => ?_) fun _ _ e => e
      exact ⟨⟨a, items, g, rfl, hm1, hI, hv.2⟩, Keeps.trans ⟨_, _, rfl, hk'⟩ hv.1⟩
  intro ak h₃₇ tk₃₇ yk hakn hakl _ hPk hk₃₇
  rw [List.filter_eq_self.mpr (fun _ _ => rfl)] at hPk
  have hki := fs_ints (f := fun g => keyF (g.map (sortF d0 d1))) (hrows.to hU (fun p hp => hp) hPk)
  have Z₃₇ := Z₃₆.keeps hk₃₇
  refine spliced_none ⟨X.keeps Z₃₇.F.keep, ?_⟩
  have hsl : s.heap.get? l = none := by
    cases e : s.heap.get? l with
    | none => rfl
    | some o => have := Z₃₅.F.keep _ _ e; rw [hln] at this; cases this
  have hakne : ak ≠ l := by rintro rfl; obtain ⟨_, e⟩ := hpl; rw [hakn] at e; cases e
  have RI := mk_runin (ds := ds) (fs := fs) (nmF := fun g => widB (oU d0) (oU d1) (octF g)) (kf := fun g => keyF (g.map (sortF d0 d1))) (hide_list (Z₃₇.S _ (.tail _ (.tail _ (.tail _ (.head _))))) (list_ne (Z₃₅.S _ (.tail _ (.tail _ (.tail _ (.head _))))) hln)) (hide_list (Z₃₇.S _ (.head _)) (list_ne (Z₃₅.S _ (.head _)) hln)) (hide_list hakl hakne) hai (by rw [List.map_map] at hwide; exact hwide) hki hdlen hdf hfig (fun g hg => wid_ok ho0 ho1 hg) fun g g' hg hg' => wid_same ho0 ho1 hg hg'
  refine wpAny_mono (run_call (s := Shared.mk h₃₇ _ _ _ _) (run_gd G Z₃₇.F.keep hsl) (n := n + 8) R (Tb.keeps hk₃₇) (hpl.at fun o e => hk₃₇ _ o e) RI) (fun v s' hv => ?_) fun _ _ e => e
  obtain ⟨hv1, h₃₈, tk₃₈, rfl, hk₃₈⟩ := hv
  exact ⟨hv1, h₃₈, tk₃₈, rfl, fun b o e => hk₃₈ b o (by rintro rfl; rw [hsl] at e; cases e) (Z₃₇.F.keep b o e)⟩
end
end

end Mine

set_option maxRecDepth 100000 in
set_option maxHeartbeats 8000000 in
theorem PySem.Challenge.cw_nb0215_01_holds : PySem.Challenge.rw_nb0215_01.Holds := by
  refine Mine.hd ?_
  k_go0
  rename_i w s₀ s₁ mg mb GG YY fa o pm doc ho hgens KX XX VV GL TT BB TE TW w13 w12 MM w11 w10 hcd ns hs hlay0 hL1 hr1 hl2 w8 w7 sc vs w4 hlist ra w1 r0 hI hr hcond hcond' K0 hD h₁ tk₁ F o3 o2 o1 o0 q3 q2 q1 q0 N0 X0
  have G : Mine.Gd w s₁.heap := ⟨KX, mg, mb, topRead_of TT⟩
  have R : ∀ env, Mine.Rm (100 + 20) (callerA.deeper env) := fun env => ⟨rfl, (by decide : callerA.depth + 1 + 120 < 1000), (by decide : callerA.units + 3 + 10 * 120 < 9900)⟩
  with_reducible refine' wpAny_mono (E := Mine.No) ?body ?post ?exc
  case exc => exact fun _ _ f => f.elim
  case body =>
    with_reducible refine' Mine.law_body (n := 100) ?ho G (R _) hlist hI ?z _ h₁ tk₁ _ ?F ?N ?X
    case ho => k_is
    case z => omega
    case F => exact F
    case N => exact N0
    case X => exact X0
  intro fl s' hv

  obtain ⟨hv, h', tk', rfl, hk⟩ := hv
  cases fl with
  | ret v =>
    dsimp only at hv ⊢
    subst hv
    exact ⟨.inl ⟨_, .bool true, [], rfl, fun _ => rfl, .bool true, by with_unfolding_all rfl, unshared_nil⟩, hk, rfl, hgens⟩
  | next => cases hv
  | brk => cases hv
  | cont => cases hv

end
