import PyProof.Rows.All
import Wide.All
import OpenK.AllK
import Wide.FinOn
import PySem.Challenge.RW_il0135_01
open PySem PySem.W PyProof.Rows
set_option Elab.async false
set_option maxRecDepth 100000
set_option maxHeartbeats 8000000
namespace Mine
section
open PySem.Calls
/-- the library's lemma of this name, with the head's look at its end: so that it is shown at once, and not in pieces -/
theorem PySem.W.holds_open {r : OpenRow} {q : Program} {loose : List Str} {Xt : Shared → Bool} {XP : (Str → Option Value) → Heap → Prop} {α : Type} {Yf : Shared → α} {Ya : World → α} {YP : World → Heap → Prop} {d : DefRec} {kwd : List (Str × Expr)} {N : Nat}
    (left : Bool) (hY : ∀ w s, Yf s = Ya w → YP w s.heap) (hYk : ∀ w h h', YP w h → (∀ b o, h.get? b = some o → h'.get? b = some o) → YP w h')
    (hX : ∀ s, Xt s = true → XP (s.heap.nsMap mainGlobals) s.heap) (hXk : ∀ mg h h', XP mg h → (∀ b o, h.get? b = some o → h'.get? b = some o) → XP mg h')
    (hdef : (left, defOf q r.name) = (true, some (d, kwd))) (hp : r.prog.theDef r.name = some (d.params, d.body, d.scope)) (hk : kwWritten? d.params.kwonlyargs d.params.kw_defaults = some kwd) (hRf : ∀ s, Xt s = true → RecFacts r.records s.heap) (hwr : (!r.writes || r.records.isEmpty) = true)
    (k1 : r.wellSaid = true) (ok : (chainsOk q && opensWell r.prog && (frees r.toRowW && r.within.isEmpty)) = true) (hb : r.prog.bare) (hw : r.toRowW.promised)
    (call : (∀ w, (openEnds treeTable r.prog w N).map (fun s => (openSeen q loose (importedModules r.prog.main.body) Xt true s, Yf s)) = some (openGood q loose, Ya w)) ∧ WalkO q loose XP YP r.toRowW d kwd fun f vs => PySem.call f vs) : r.Holds :=
  _root_.PySem.W.holds_open call.1 hY hYk hX hXk (congrArg Prod.snd hdef) hp hk hRf hwr k1 ok hb hw call.2
local macro_rules | `(tactic| rfl) => `(tactic| (change (true, _) = _; exact rfl))
open_top hd for PySem.Challenge.rw_il0135_01.row
end
theorem said0 : PySem.Challenge.rw_il0135_01.wellSaid = true := by decide +kernel
theorem top_off : True := by
  w_top off
  trivial
set_option rowWalk.seconds 0
open PySem.Calls PySem.Spec

theorem warm (w : World) (h : Heap) (x : (Mine.hd.heap_1 w.params).In h) : PySem.Challenge.rw_il0135_01 = PySem.Challenge.rw_il0135_01 ∧ (Mine.hd.heap_1 w.params).In h := by
  k_fill
  exact ⟨rfl, x⟩

abbrev Led := List (Addr × Obj)

/-- the ledger with another object at `a` -/
def setL (led : Led) (a : Addr) (o' : Obj) : Led := led.map fun p => if p.1 = a then (a, o') else p
theorem mem_setL {led : Led} {a : Addr} {o' : Obj} {p : Addr × Obj} (hp : p ∈ led) (hn : p.1 ≠ a) : p ∈ setL led a o' :=
  List.mem_map.mpr ⟨p, hp, if_neg hn⟩
theorem mem_setL_self {led : Led} {a : Addr} {o o' : Obj} (hp : (a, o) ∈ led) : (a, o') ∈ setL led a o' :=
  List.mem_map.mpr ⟨(a, o), hp, if_pos rfl⟩
theorem of_setL {led : Led} {a : Addr} {o' : Obj} {p : Addr × Obj} (hp : p ∈ setL led a o') : (p.1 = a ∧ p.2 = o') ∨ (p ∈ led ∧ p.1 ≠ a) := by
  obtain ⟨q, hq, e⟩ := List.mem_map.mp hp
  by_cases h : q.1 = a
  · rw [if_pos h] at e; subst e; exact .inl ⟨rfl, rfl⟩
  · rw [if_neg h] at e; subst e; exact .inr ⟨hq, h⟩

theorem led_one {h₀ h : Heap} {L a : Addr} {o o' : Obj} {led : Led} (N : News h₀ L h led) (h1 : (a, o) ∈ led) (h2 : (a, o') ∈ led) : o = o' := by
  have e1 := (N _ h1).1
  have e2 := (N _ h2).1
  exact Option.some.inj (e1.symm.trans e2)
theorem led_ne {h₀ h : Heap} {L a b : Addr} {o o' : Obj} {led : Led} (N : News h₀ L h led) (h1 : (a, o) ∈ led) (h2 : (b, o') ∈ led) (d : o ≠ o') : a ≠ b := by
  intro e; subst e; exact d (led_one N h1 h2)
theorem led_sub {h₀ h : Heap} {L : Addr} {led led' : Led} (N : News h₀ L h led) (s : ∀ p ∈ led', p ∈ led) : News h₀ L h led' := fun p hp => N p (s p hp)

theorem upd_led {h₀ h : Heap} {L a : Addr} {m : Str → Option Value} {led : Led} {o o' : Obj} {f : Obj → Obj} (F : Fr h₀ L h m) (N : News h₀ L h led) (hm : (a, o) ∈ led) (e : f o = o') (hf : o'.isFreed = false) :
    Fr h₀ L (h.update a f) m ∧ News h₀ L (h.update a f) (setL led a o') := by
  have D := N _ hm
  obtain ⟨oL, es, ep, hL, r⟩ := F.ns
  refine ⟨⟨⟨oL, es, ep, (Heap.get?_update_ne _ _ _ _ (Ne.symm D.2.1)).trans hL, r⟩, fun b x q => (Heap.get?_update_ne _ _ _ _ fun z => ?_).trans (F.keep b x q), F.above⟩, fun p hp => ?_⟩
  · have := D.2.2; rw [← z, q] at this; cases this
  · rcases of_setL hp with ⟨h1, h2⟩ | ⟨h1, h2⟩
    · rw [h1, h2]; exact ⟨e ▸ Heap.get?_update_self _ D.1 (e ▸ hf), D.2⟩
    · exact ⟨(Heap.get?_update_ne _ _ _ _ h2).trans (N p h1).1, (N p h1).2⟩

theorem nd_update {α : Type} {M : Model} {A : Around} {Q : α → Shared → Prop} {E : Value → Shared → Prop} {s : Shared} {a : Addr} {p : Option Value} {f : Obj → Obj} {k : Unit → Sem α} {o : Obj} (ho : s.heap.get? a = some o)
    (h : wpAny M A (k ()) Q E { s with heap := s.heap.update a f }) : wpAny M A (.update a p f k) Q E s := fun Γ q hΓ => by
  rw [Sem.wp_update]; exact ⟨by rw [ho]; rfl, h Γ q hΓ⟩
theorem nd_raise {α : Type} {M : Model} {A : Around} {Q : α → Shared → Prop} {E : Value → Shared → Prop} {s : Shared} {e : Value} (h : E e s) : wpAny M A (.raise e) Q E s := fun _ _ _ => h
theorem nd_call {α : Type} {M : Model} {A : Around} {Q : α → Shared → Prop} {E : Value → Shared → Prop} {s : Shared} {c : Code} {gd : Bool} {l : List Value} {k : Result → Sem α} (h : codeAny M A c (fun r s' => wpAny M A (k r) Q E s') s) :
    wpAny M A (.call c none gd l k) Q E s := fun Γ p hΓ => by
  rw [Sem.wp_call]; exact wpCode_mono (fun r s' hr => hr Γ p hΓ) (h _ p rfl (hΓ.enter c none p (by intro e; cases e)))
theorem stays_refl {h : Heap} : h.StaysIn h := fun _ _ e => e
theorem stays_push {h₀ h : Heap} {o : Obj} (k : h₀.StaysIn h) : h₀.StaysIn (h.push o) := fun b o' e => Heap.get?_push_of_some _ (k b o' e)
theorem stays_upd {h₀ h : Heap} {a : Addr} {f : Obj → Obj} (n : h₀.get? a = none) (k : h₀.StaysIn h) : h₀.StaysIn (h.update a f) := fun b o e =>
  (Heap.get?_update_ne _ _ _ _ fun z => by rw [z, n] at e; cases e).trans (k b o e)
theorem lookFrom {α : Type} {M : Model} {A : Around} {t : Sem α} {r : α} {Q : α → Shared → Prop} {E : Value → Shared → Prop} {h₀ h : Heap} {g d tk os} (x : Looks M h₀ t r) (k : h₀.StaysIn h) (q : Q r ⟨h, g, d, tk, os⟩) :
    wpAny M A t Q E ⟨h, g, d, tk, os⟩ := x A Q E _ k q
theorem fresh_size {h₀ h : Heap} (k : h₀.StaysIn h) : h₀.get? h.objs.size = none := by
  cases e : h₀.get? h.objs.size with
  | none => rfl
  | some o => exact absurd (Heap.lt_size (k _ _ e)) (Nat.lt_irrefl _)
theorem fresh_size1 {h₀ h : Heap} (k : h₀.StaysIn h) : h₀.get? (h.objs.size + 1) = none := by
  cases e : h₀.get? (h.objs.size + 1) with
  | none => rfl
  | some o => exact absurd (Heap.lt_size (k _ _ e)) (Nat.not_lt.mpr (Nat.le_succ _))
theorem typeAt {M : Model} {h : Heap} {x : Addr} {o : Obj} {c : Value} (hx : h.get? x = some o) (hc : o.cls = c) : Looks M h (typeOf (.ref x)) c := by subst hc; exact (Looks.ld hx).andThen .now

/-- a built-in of a type that is met as an ordinary method or slot -/
structure Bi (i : String) (b : Builtin) (owner n : String) : Prop where
  plain : plainId i = true
  entry : entryFor table i = some b
  kind : builtinKind i = some .slot ∨ builtinKind i = some .method
  split : splitId i = some (owner, n)
theorem Bi.call {prog : Program} {w : World} {A : Around} {R : Result → Shared → Prop} {s : Shared} {i : String} {b : Builtin} {owner n : String} (B : Bi i b owner n) {self : Value} {rest : List Value} {kw : List (Str × Value)}
    (hi : Looks (model prog w) s.heap (isInstance self (.type owner)) true) (ha : argsOk i ⟨self :: rest, kw⟩)
    (h : wpAny (model prog w) A.in1 (b ⟨self :: rest, kw⟩) (fun fin s' => match fin with | .done f => R (.ok f) s' | .again c' => c'.quiet = true ∧ codeAny (model prog w) A c' R s') (fun e s' => R (.error e) s') s) :
    codeAny (model prog w) A (.call (.builtin i) ⟨self :: rest, kw⟩) R s := by
  refine codeAny_call_builtin B.plain B.entry ?_
  rcases B.kind with hk | hk
  · exact @check_slot (model prog w) _ _ _ i owner n self rest kw _ hk B.split hi ha h
  · simp only [checkBuiltinCall, hk, B.split]
    refine wpAny_bind (hi.here ?_)
    simp only [Bool.not_true, Bool.false_eq_true, if_false]
    cases hsig : Manifest.signature? i with
    | none => exact wpAny_pure h
    | some sig =>
      simp only [argsOk, hsig] at ha
      have h2 : Bind.checkArgs i sig ⟨self :: rest, kw⟩ = pure () := ha
      show wpAny (model prog w) A.in1 (Bind.checkArgs i sig ⟨self :: rest, kw⟩) _ _ s
      rw [h2]; exact wpAny_pure h

/-- what stands around a piece of code: the caller's frame and what is written out -/
def Cx (w : World) (A : Around) (h₀ : Heap) (L : Addr) (d : Nat) : Prop :=
  ∃ (A₀ : Around) (base : Heap) (outer : List Env) (env : Env) (p : Program) (loose : List Str) (mean : ExcName → Option Value) (mg mb : Str → Option Value),
    Below A₀ base outer h₀ ∧ A.frames = some (env :: outer) ∧ env.frame = some L ∧ env.scope.kind = .function ∧ (Mine.hd.heap_1 w.params).In h₀ ∧ Top p loose mean mg mb h₀ ∧ A.handled = none ∧
    A.depth + d < recursionLimit ∧ A.units + 8 * d < cLine ∧ CodeHd h₀ 154 150

/-- from the ledger `led` the tree `t` comes to a value and a ledger that stand in `R` -/
def Does (prog : Program) (w : World) {α : Type} (d : Nat) (t : Sem α) (led : Led) (R : α → Led → Prop) : Prop :=
  ∀ (A : Around) (h₀ : Heap) (L : Addr) (m : Str → Option Value) (s : Shared) (Q : α → Shared → Prop) (E : Value → Shared → Prop),
    Cx w A h₀ L d → Fr h₀ L s.heap m → News h₀ L s.heap led →
    (∀ v led' h' tk', Fr h₀ L h' m → News h₀ L h' led' → R v led' → Q v { s with heap := h', toks := tk' }) →
    wpAny (model prog w) A t Q E s
/-- the same of a call's code -/
def DoesC (prog : Program) (w : World) (d : Nat) (f : Value) (args : List Value) (led : Led) (R : Value → Led → Prop) : Prop :=
  ∀ (A : Around) (h₀ : Heap) (L : Addr) (m : Str → Option Value) (s : Shared) (Q E : Value → Shared → Prop),
    Cx w A h₀ L d → Fr h₀ L s.heap m → News h₀ L s.heap led →
    (∀ v led' h' tk', Fr h₀ L h' m → News h₀ L h' led' → R v led' → Q v { s with heap := h', toks := tk' }) →
    codeAny (model prog w) A (.call f ⟨args, []⟩) (fun r s' => match r with | .ok (.ret v) => Q v s' | .ok _ => False | .error e => E e s') s
theorem DoesC.does {prog : Program} {w : World} {d : Nat} {f : Value} {args : List Value} {led : Led} {R : Value → Led → Prop} (D : DoesC prog w d f args led R) : Does prog w d (call f args) led R :=
  fun A h₀ L m s Q E cx F N hQ => wpAny_call (D A h₀ L m s Q E cx F N hQ)
theorem DoesC.then {prog : Program} {w : World} {d : Nat} {f : Value} {args : List Value} {led : Led} {R : Value → Led → Prop} (D : DoesC prog w d f args led R) {A : Around} {h₀ : Heap} {L : Addr} {m : Str → Option Value} {s : Shared} {R' : Result → Shared → Prop}
    (cx : Cx w A h₀ L d) (F : Fr h₀ L s.heap m) (N : News h₀ L s.heap led) (hQ : ∀ v led' h' tk', Fr h₀ L h' m → News h₀ L h' led' → R v led' → R' (.ok (.ret v)) { s with heap := h', toks := tk' }) :
    codeAny (model prog w) A (.call f ⟨args, []⟩) R' s :=
  codeAny_mono (D A h₀ L m s (fun v s' => R' (.ok (.ret v)) s') (fun e s' => R' (.error e) s') cx F N hQ) fun r s' z => by
    rcases r with e | (v | _ | _ | _) <;> first | exact z | exact z.elim
theorem Cx.less {w : World} {A : Around} {h₀ : Heap} {L : Addr} {d d' : Nat} (cx : Cx w A h₀ L d) (le : d' ≤ d) : Cx w A h₀ L d' := by
  obtain ⟨A₀, base, outer, env, p, loose, mean, mg, mb, B, hA, hf, hk, X, T, hh, hd, hu, hC⟩ := cx
  exact ⟨A₀, base, outer, env, p, loose, mean, mg, mb, B, hA, hf, hk, X, T, hh, by omega, by omega, hC⟩
theorem Cx.in1 {w : World} {A : Around} {h₀ : Heap} {L : Addr} {d : Nat} (cx : Cx w A h₀ L (d + 1)) : Cx w A.in1 h₀ L d := by
  obtain ⟨A₀, base, outer, env, p, loose, mean, mg, mb, B, hA, hf, hk, X, T, hh, hd, hu, hC⟩ := cx
  exact ⟨A₀, base, outer, env, p, loose, mean, mg, mb, B, hA, hf, hk, X, T, hh, by show A.depth + d < _; omega, by show A.units + 1 + 8 * d < _; omega, hC⟩

def runT (ok : Thread → Bool) (st : SharedT → Thread → Option (SharedT × Thread)) : Nat → SharedT → Thread → Option SharedT
  | 0, _, _ => none
  | n + 1, s, t => match through t with
    | true => some s
    | false => match ok t with
      | false => none
      | true => match st s t with
        | some (s', t') => runT ok st n s' t'
        | none => none
theorem runT_of {tb : String → Option Builtin} {p : Program} {w : World} {n₀ : Nat} {ann : Option Value} : ∀ {n : Nat} {s s' : SharedT} {t : Thread}, runT (stepOk n₀ ann) (stepT (denote tb) p w) n s t = some s' → topRun tb p w n₀ ann n s.abs t = some s'.abs
  | 0, _, _, _, h => by cases h
  | n + 1, s, s', t, h => by
    unfold runT at h
    unfold topRun
    cases he : through t with
    | true => rw [he] at h; cases h; rfl
    | false =>
      rw [he] at h
      cases hk : stepOk n₀ ann t with
      | false => rw [hk] at h; cases h
      | true =>
        rw [hk] at h
        cases hs : stepT (denote tb) p w s t with
        | none => rw [hs] at h; cases h
        | some r => obtain ⟨s₂, t₂⟩ := r; rw [hs] at h; rw [stepT_spec hs]; exact runT_of h
/-- a heap as a tree -/
def growT : Nat → BT → List Obj → Option BT
  | _, t, [] => some t
  | n, t, o :: r => match ((t.ins n o).get n).isSome with
    | true => growT (n + 1) (t.ins n o) r
    | false => none
theorem growT_of {life : Life} : ∀ {l : List Obj} {n : Nat} {t t' : BT}, growT n t l = some t' → absHeap t' (n + l.length) life = ⟨(absHeap t n life).objs ++ l.toArray, life⟩
  | [], n, t, t', h => by cases h; simp; rfl
  | o :: r, n, t, t', h => by
    unfold growT at h
    cases hs : ((t.ins n o).get n).isSome with
    | false => rw [hs] at h; cases h
    | true =>
      rw [hs] at h
      have ih := growT_of (life := life) h
      rw [show n + (o :: r).length = n + 1 + r.length by rw [List.length_cons]; omega, ih, absHeap_ins hs]
      congr 1
      show (absHeap t n life).objs.push o ++ r.toArray = _
      simp
/-- the top's run on the tree of its objects -/
def topT (p : Program) (w : World) (N : Nat) (s : Shared) : Option SharedT := match s.heap.isNs mainGlobals && s.gens.size == 0 with
  | true => (growT 0 .nil s.heap.objs.toList).bind fun T => runT (stepOk s.heap.objs.size (s.heap.nsMap mainGlobals "__annotations__")) (stepT (denote treeTable) p w) N ⟨T, s.heap.objs.size, s.heap.life, s.gens, s.drawn, s.toks, s.os⟩ (topStub p)
  | false => none
theorem topT_of {p : Program} {w : World} {N : Nat} {s : Shared} {S : SharedT} (h : topT p w N s = some S) (hc : (staticsOk (importedModules p.main.body) s.heap S.abs.heap && namesBound p S.abs.heap && gensDone S.abs && laidKept s.heap S.abs.heap) = true) : topFrom treeTable p w N s = some S.abs := by
  unfold topT at h
  unfold topFrom
  cases hk : (s.heap.isNs mainGlobals && s.gens.size == 0) with
  | false => rw [hk] at h; cases h
  | true =>
    rw [hk] at h
    obtain ⟨T, hT, hr⟩ := Option.bind_eq_some_iff.mp h
    have e := runT_of hr
    have eh : absHeap T s.heap.objs.size s.heap.life = s.heap := by
      have := growT_of (life := s.heap.life) hT
      rw [Nat.zero_add, Array.length_toList] at this
      rw [this]
      show Heap.mk ((absHeap .nil 0 s.heap.life).objs ++ s.heap.objs.toList.toArray) s.heap.life = s.heap
      have e0 : (absHeap .nil 0 s.heap.life).objs = #[] := rfl
      rw [e0]
      simp
    have es : SharedT.abs ⟨T, s.heap.objs.size, s.heap.life, s.gens, s.drawn, s.toks, s.os⟩ = s := by
      show Shared.mk (absHeap T s.heap.objs.size s.heap.life) s.gens s.drawn s.toks s.os = s
      rw [eh]
    rw [es] at e
    dsimp only
    rw [e]
    show (match staticsOk (importedModules p.main.body) s.heap S.abs.heap && namesBound p S.abs.heap && gensDone S.abs && laidKept s.heap S.abs.heap with | true => some S.abs | false => none) = _
    rw [hc]
theorem ends_of {α : Type} {p : Program} {w : World} {N : Nat} {f : Shared → α} {a : α} (h : ((fencedOpening treeTable p w N).bind fun s => (topT p w N s).map fun S =>
    (staticsOk (importedModules p.main.body) s.heap S.abs.heap && namesBound p S.abs.heap && gensDone S.abs && laidKept s.heap S.abs.heap, f S.abs)) = some (true, a)) : (openEnds treeTable p w N).map f = some a := by
  obtain ⟨s, hs, h⟩ := Option.bind_eq_some_iff.mp h
  obtain ⟨S, hS, e⟩ := Option.map_eq_some_iff.mp h
  obtain ⟨e1, e2⟩ := Prod.mk.inj e
  unfold openEnds
  rw [hs]
  show (topFrom treeTable p w N s).map f = _
  rw [topT_of hS e1]
  exact congrArg some e2
theorem split_hd {A B C : Prop} (h : A ∧ B → C) (a : A) : B → C := fun b => h ⟨a, b⟩
def hdW := split_hd Mine.hd (by
  refine fun w => ends_of ?_
  unfold fencedOpening topT
  rw [PySem.W.Fast.te10156331382660048174, PySem.W.Fast.te6613529449190102663, PySem.W.Fast.te11892475500146522536, PySem.W.Fast.te14364793385576792824, PySem.W.Fast.te10274390034422433532, PySem.W.Fast.te14289696077712309145, PySem.W.Fast.te1435165496053646825, PySem.W.Fast.te4187177175401517315, PySem.W.Fast.te5923862056798008813]
  kernel_rfl)
open Builtin

/-- the signs of a path -/
def Good (p : Str) : Prop := ∀ c ∈ p.cps.toList, c = 47 ∨ c = 97 ∨ c = 98
theorem one_eq {c : Nat} {a b : List Nat} {k : Nat} (h : (a ++ c :: b)[k]? = some c) (hn : c ∉ a) : a.length ≤ k := by
  rcases Nat.lt_or_ge k a.length with hk | hk
  · rw [List.getElem?_append_left hk] at h
    exact absurd (List.mem_of_getElem? h) hn
  · exact hk
open PySem.StrLaws in
theorem split_at (a b : List Nat) (h : 61 ∉ a) : Txt.splitMax ⟨(a ++ 61 :: b).toArray⟩ (Str.ofString "=") 1 = [⟨a.toArray⟩, ⟨b.toArray⟩] := by
  have ey : Str.ofString "=" = ⟨#[61]⟩ := by decide
  rw [ey]
  unfold Txt.splitMax
  have hlen : (⟨(a ++ 61 :: b).toArray⟩ : Str).length = a.length + (b.length + 1) := by simp [Str.length]
  have h1 : (decide ((⟨(a ++ 61 :: b).toArray⟩ : Str).length < (⟨#[61]⟩ : Str).length)) = false := by rw [hlen]; simp [Str.length]
  have h2 : (decide (PySem.Builtin.Str.strKind ⟨(a ++ 61 :: b).toArray⟩ < PySem.Builtin.Str.strKind ⟨#[61]⟩)) = false := by
    have e : PySem.Builtin.Str.strKind ⟨#[61]⟩ = 1 := by simp [PySem.Builtin.Str.strKind]
    rw [e]
    unfold PySem.Builtin.Str.strKind
    apply decide_eq_false
    split
    · omega
    · split <;> omega
  rw [h1, h2]
  have hat : At ⟨(a ++ 61 :: b).toArray⟩ ⟨#[61]⟩ (⟨(a ++ 61 :: b).toArray⟩ : Str).length a.length := by
    exact (subAt_one _ _ _).mpr (by simp)
  have hoc : PySem.Builtin.Str.occurrences ⟨(a ++ 61 :: b).toArray⟩ ⟨#[61]⟩ 0 (⟨(a ++ 61 :: b).toArray⟩ : Str).length 1 = [a.length] := by
    rcases occ_head ⟨(a ++ 61 :: b).toArray⟩ ⟨#[61]⟩ 1 (by decide) with ⟨_, hn⟩ | ⟨i, r, e, hi, hf⟩
    · exact absurd hat (hn _)
    · have hl := occ_length_le ⟨(a ++ 61 :: b).toArray⟩ ⟨#[61]⟩ 0 (⟨(a ++ 61 :: b).toArray⟩ : Str).length 1
      rw [e] at hl
      have hr : r = [] := by cases r with | nil => rfl | cons _ _ => simp at hl
      have hia : i = a.length := by
        rcases Nat.lt_trichotomy i a.length with hlt | he | hgt
        · have := (subAt_one _ _ _).mp hi
          have := one_eq (by simpa using this) h
          omega
        · exact he
        · exact absurd hat (hf _ hgt)
      rw [e, hr, hia]
  have hlim : PySem.limitOf ⟨(a ++ 61 :: b).toArray⟩ 1 = 1 := rfl
  rw [hlim, hoc]
  simp [PySem.Builtin.Str.partsBetween, PySem.Builtin.Str.strSub, Str.length]
  rw [show a.length + (b.length + 1) - (a.length + 1) = b.length by omega, List.take_length]
theorem tw_stop {f : Nat → Bool} {l r : List Nat} (hl : l ≠ []) (h : ∀ c ∈ l, f c = false) : (l ++ r).takeWhile f = [] := by
  cases l with
  | nil => exact absurd rfl hl
  | cons a l => rw [List.cons_append, List.takeWhile_cons, h a (List.mem_cons_self ..)]; rfl
theorem strip_mid (pre mid post : List Nat) (h1 : ∀ c ∈ pre, Unicode.isSpace c = true) (h2 : ∀ c ∈ mid, Unicode.isSpace c = false) (h3 : ∀ c ∈ post, Unicode.isSpace c = true) : Txt.strip ⟨(pre ++ (mid ++ post)).toArray⟩ = ⟨mid.toArray⟩ := by
  unfold Txt.strip
  rw [PyProof.Rows.stripBy_eq]
  apply Str.ext'
  apply Array.toList_inj.mp
  rw [PySem.StrLaws.strSub_toList]
  have hlen : (⟨(pre ++ (mid ++ post)).toArray⟩ : Str).length = pre.length + (mid.length + post.length) := by simp [Str.length]
  by_cases hm : mid = []
  · subst hm
    have e1 : stripLo Unicode.isSpace true ⟨(pre ++ ([] ++ post)).toArray⟩ = pre.length + post.length := by
      simp only [stripLo, if_true, List.nil_append]
      rw [List.takeWhile_append_of_pos h1]
      have := List.takeWhile_append_of_pos (l₂ := []) h3
      rw [List.append_nil] at this
      rw [this]; simp
    rw [e1]
    simp
  · have e1 : stripLo Unicode.isSpace true ⟨(pre ++ (mid ++ post)).toArray⟩ = pre.length := by
      simp only [stripLo, if_true]
      rw [List.takeWhile_append_of_pos h1, tw_stop hm h2]; simp
    have e2 : stripHi Unicode.isSpace true ⟨(pre ++ (mid ++ post)).toArray⟩ pre.length = pre.length + mid.length := by
      simp only [stripHi, if_true, hlen]
      rw [List.drop_left, List.reverse_append, List.takeWhile_append_of_pos (fun c hc => h3 c (List.mem_reverse.mp hc))]
      have := tw_stop (r := []) (l := mid.reverse) (f := Unicode.isSpace) (by simpa using hm) (fun c hc => h2 c (List.mem_reverse.mp hc))
      rw [List.append_nil] at this
      rw [this]; simp; omega
    rw [e1, e2]
    simp
theorem good_space {p : Str} (hp : Good p) : ∀ c ∈ p.cps.toList, Unicode.isSpace c = false := fun c hc => by
  rcases hp c hc with rfl | rfl | rfl <;> decide
def Host (h : Str) : Prop := h = Str.ofString "g" ∨ h = Str.ofString "h"
theorem host_list {h : Str} (hh : Host h) : h.cps.toList = [103] ∨ h.cps.toList = [104] := by
  rcases hh with rfl | rfl
  · exact .inl (by decide)
  · exact .inr (by decide)
theorem str_ext {a b : Str} (h : a.cps.toList = b.cps.toList) : a = b := Str.ext' (Array.toList_inj.mp h)
theorem text1 {h p : Str} (hh : Host h) (hp : Good p) : ∃ x1 x2, Txt.splitMax (h ++ Str.ofString " = " ++ p) (Str.ofString "=") 1 = [x1, x2] ∧ Txt.strip x1 = h ∧ Txt.strip x2 = p := by
  have e : h ++ Str.ofString " = " ++ p = ⟨((h.cps.toList ++ [32]) ++ 61 :: (32 :: p.cps.toList)).toArray⟩ := by
    apply str_ext
    rw [show Str.ofString " = " = ⟨#[32, 61, 32]⟩ by decide]
    simp [Str.cps_append]
  have n : 61 ∉ h.cps.toList ++ [32] := by rcases host_list hh with e | e <;> rw [e] <;> decide
  refine ⟨_, _, by rw [e]; exact split_at _ _ n, ?_, ?_⟩
  · have := strip_mid [] h.cps.toList [32] (by simp) (by rcases host_list hh with e | e <;> rw [e] <;> decide) (by decide)
    simpa using this
  · have := strip_mid [32] p.cps.toList [] (by decide) (good_space hp) (by simp)
    simpa using this
theorem text2 {h p : Str} (hh : Host h) (hp : Good p) : ∃ x1 x2, Txt.splitMax (h ++ Str.ofString "=" ++ p) (Str.ofString "=") 1 = [x1, x2] ∧ Txt.strip x1 = h ∧ Txt.strip x2 = p := by
  have e : h ++ Str.ofString "=" ++ p = ⟨(h.cps.toList ++ 61 :: p.cps.toList).toArray⟩ := by
    apply str_ext
    rw [show Str.ofString "=" = ⟨#[61]⟩ by decide]
    simp [Str.cps_append]
  have n : 61 ∉ h.cps.toList := by rcases host_list hh with e | e <;> rw [e] <;> decide
  refine ⟨_, _, by rw [e]; exact split_at _ _ n, ?_, ?_⟩
  · have := strip_mid [] h.cps.toList [] (by simp) (by rcases host_list hh with e | e <;> rw [e] <;> decide) (by simp)
    simpa using this
  · have := strip_mid [] p.cps.toList [] (by simp) (good_space hp) (by simp)
    simpa using this
theorem good_nil : Good (Str.ofString "") := fun c hc => by rw [show (Str.ofString "").cps.toList = [] by decide] at hc; cases hc
theorem good_app {a b : Str} (ha : Good a) (hb : Good b) : Good (a ++ b) := fun c hc => by
  rw [Str.cps_append, Array.toList_append] at hc
  rcases List.mem_append.mp hc with h | h
  · exact ha c h
  · exact hb c h
theorem good_getD {l : List Str} {j : Nat} (h : ∀ a ∈ l, Good a) : Good (l.getD j Str.empty) := by
  rw [List.getD_eq_getElem?_getD]
  cases e : l[j]? with
  | none => exact fun c hc => by cases hc
  | some a => exact h a (List.mem_of_getElem? e)
theorem host_item (k : Int) : Host (Txt.item (Str.ofString "ggh") ((k.fdiv 20).fmod 3)) := by
  have h1 := Int.fmod_nonneg_of_pos (k.fdiv 20) (show (0 : Int) < 3 by decide)
  have h2 := Int.fmod_lt_of_pos (k.fdiv 20) (show (0 : Int) < 3 by decide)
  have : (k.fdiv 20).fmod 3 = 0 ∨ (k.fdiv 20).fmod 3 = 1 ∨ (k.fdiv 20).fmod 3 = 2 := by omega
  rcases this with e | e | e <;> rw [e]
  · exact .inl (by decide)
  · exact .inl (by decide)
  · exact .inr (by decide)
theorem slice_init (x : Str) : (Txt.slice x none (some (-1))).cps.toList = x.cps.toList.dropLast := by
  show (PySem.StrLaws.sliceText x none (some (-1))).cps.toList = _
  rcases Nat.eq_zero_or_pos x.length with h | h
  · have e : x.cps.toList = [] := by rw [← List.length_eq_zero_iff]; simpa [Str.length] using h
    have := Txt.slice_le x none (some (-1))
    have e2 : (Txt.slice x none (some (-1))).cps.toList = [] := by rw [← List.length_eq_zero_iff]; have h2 : (Txt.slice x none (some (-1))).length = 0 := Nat.le_zero.mp (h ▸ this); rw [Array.length_toList]; exact h2
    rw [e]; exact e2
  · rw [PySem.StrLaws.sliceText_to_neg (by decide) (by omega)]
    have hl : x.cps.toList.length = x.length := by simp [Str.length]
    rw [List.dropLast_eq_take, List.drop_zero, hl, show (-1 + (x.length : Int) - 0).toNat = x.length - 1 by omega]
theorem slice_last (x : Str) : (Txt.slice x (some (-1)) none).cps.toList = x.cps.toList.drop (x.cps.toList.length - 1) := by
  show (PySem.StrLaws.sliceText x (some (-1)) none).cps.toList = _
  rcases Nat.eq_zero_or_pos x.length with h | h
  · have e : x.cps.toList = [] := by rw [← List.length_eq_zero_iff]; simpa [Str.length] using h
    have := Txt.slice_le x (some (-1)) none
    have e2 : (Txt.slice x (some (-1)) none).cps.toList = [] := by rw [← List.length_eq_zero_iff]; have h2 : (Txt.slice x (some (-1)) none).length = 0 := Nat.le_zero.mp (h ▸ this); rw [Array.length_toList]; exact h2
    rw [e]; exact e2
  · rw [PySem.StrLaws.sliceText_from_neg (by decide) (by omega)]
    have hl : x.cps.toList.length = x.length := by simp [Str.length]
    rw [hl, show (-1 + (x.length : Int)).toNat = x.length - 1 by omega, show ((x.length : Int) - (-1 + (x.length : Int))).toNat = 1 by omega]
    show List.take 1 _ = _
    apply List.take_of_length_le
    rw [List.length_drop, hl]; omega
theorem good_slice {p : Str} (h : Good p) : Good (Txt.slice p none (some (-1))) := fun c hc => by
  rw [slice_init] at hc
  exact h c (List.dropLast_subset _ hc)
theorem good_step {p : Str} {k : Int} (h : Good p) : Good ([p, p, Str.ofString "", Txt.slice p none (some (-1))].getD (k.fmod 4).toNat Str.empty) := good_getD fun a ha => by
  rcases List.mem_cons.mp ha with rfl | ha; exact h
  rcases List.mem_cons.mp ha with rfl | ha; exact h
  rcases List.mem_cons.mp ha with rfl | ha; exact good_nil
  rcases List.mem_cons.mp ha with rfl | ha; exact good_slice h
  cases ha
theorem good_piece {j : Nat} : Good ([Str.ofString "/", Str.ofString "a", Str.ofString "/a", Str.ofString "/b", Str.ofString ""].getD j Str.empty) := good_getD (by
  have : ∀ a ∈ [Str.ofString "/", Str.ofString "a", Str.ofString "/a", Str.ofString "/b", Str.ofString ""], ∀ c ∈ a.cps.toList, c = 47 ∨ c = 97 ∨ c = 98 := by decide
  exact this)

local macro_rules | `(tactic| walk_at "stays") => `(tactic| repeat (first | with_reducible assumption | exact stays_refl | refine stays_push ?_ | refine stays_upd (by first | assumption | exact fresh_size (by with_reducible assumption) | exact fresh_size1 (by with_reducible assumption)) ?_))
local macro_rules | `(tactic| walk_at "lkk") => `(tactic| first
  | with_reducible refine Looks.at (by assumption) ?_
  | with_reducible refine lookFrom (by assumption) (by walk_at "stays") ?_
  | with_reducible refine wpAny_bind ?_ | with_reducible refine nd_bind ?_ | with_reducible refine wpAny_holding ?_ | with_reducible refine wpAny_onRaise ?_
  | with_reducible refine wpAny_call ?_ | with_reducible refine wpAny_attempt ?_ | with_reducible refine nd_raise ?_
  | k_node)
local macro_rules | `(tactic| walk_at "room") => `(tactic| ((try simp only [depth_under_make, depth_under_kw, depth_in1, depth_deeper, depth_caller, units_deeper, units_in1, units_caller]); omega))
local macro_rules | `(tactic| walk_at "enter") => `(tactic| (refine' code_def ?k1 ?k2 ?k3 ?k4 ?k5 ?kA ?kF ?kK ?k6 ?k7 ?k8 ?k9 ?kB ?_ ?c2 ?c3 ?c4 ?c5; (case kA => first | assumption | exact rfl); (case kF => first | assumption | exact rfl); (case kK => first | assumption | exact rfl); (case k1 => k_asm); (case k2 => k_asm); (case k3 => k_asm); (case k4 => k_asm); (case k5 => k_asm); (case k6 => k_is); (case k7 => k_is); (case k8 => walk_at "room"); (case k9 => exact BindsTo.of_eq rfl); (case c5 => decide); (case kB => exact locs rfl); (case c2 => exact rfl); (case c3 => exact rfl); (case c4 => exact rfl); k_whole))
local macro_rules | `(tactic| walk_at "unpackItems ref") => `(tactic| ((refine' unpackItemsN_ ?k1 ?k2 ?k3 ?k4 ?k5 ?_; (case k1 => k_asm); (case k2 => k_asm); (case k3 => kun_tup); (case k4 => first | assumption | exact rfl); (case k5 => exact rfl); k_whole); intro h' F' N'; (try k_sweep)))
local macro_rules | `(tactic| walk_at "mem") => `(tactic| first | assumption | exact List.Mem.head _ | (refine List.Mem.tail _ ?_; walk_at "mem"))
local macro_rules | `(tactic| walk_at "getMethod ref") => `(tactic| ((with_reducible show wpAny _ _ (getMethod (Value.ref _) (PySem.Str.ofString "append") _) _ _ _); (refine' getMethod_append_N ?N ?m ?_; (case N => k_asm); (case m => walk_at "mem"))))
local macro_rules | `(tactic| walk_at "callWith ref") => `(tactic| ((with_reducible show wpAny _ _ (callWith _ (Value.ref _) _ (backTo _ (starEach (_ :: _) _)) []) _ _ _); k_dflt (first | refine' callWith_K ?k1 ?k2 ?_; (case k1 => k_asm); (case k2 => k_is); k_whole | refine' callWith_M ?k1 ?k2 ?k3 ?k4 ?_; (case k1 => k_asm); (case k2 => k_asm); (case k3 => k_mem); (case k4 => k_is); k_whole)))

theorem pk_mro (w : World) (prog : Program) : peek (Mine.hd.heap_1 w.params) ⟨prog, w.params⟩ (mroOf (.ref 158)) = some [.ref 158, .type "collections.defaultdict", .type "dict", .type "object"] := by kernel_rfl
theorem pk_made (w : World) (prog : Program) : peek (Mine.hd.heap_1 w.params) ⟨prog, w.params⟩ (Bind.madeBy (.ref 158)) = some (some "dict.__new__") := by kernel_rfl
theorem pk_chkNew (w : World) (prog : Program) : peek (Mine.hd.heap_1 w.params) ⟨prog, w.params⟩ (checkBuiltinCall "dict.__new__" ⟨[.ref 158, .ref 284], []⟩) = some () := by kernel_rfl
theorem pk_isType (w : World) (prog : Program) : peek (Mine.hd.heap_1 w.params) ⟨prog, w.params⟩ (isType (.ref 158)) = some true := by kernel_rfl
theorem pk_subDict (w : World) (prog : Program) : peek (Mine.hd.heap_1 w.params) ⟨prog, w.params⟩ (isSubtype (.ref 158) (.type "dict")) = some true := by kernel_rfl
theorem pk_hasDel (w : World) (prog : Program) : peek (Mine.hd.heap_1 w.params) ⟨prog, w.params⟩ (classHasDel 158) = some false := by kernel_rfl
theorem pk_call158 (w : World) (prog : Program) : peek (Mine.hd.heap_1 w.params) ⟨prog, w.params⟩ (specialOf (.ref 158) "__call__") = some (some (.builtin "type.__call__")) := by kernel_rfl
theorem pk_inst158 (w : World) (prog : Program) : peek (Mine.hd.heap_1 w.params) ⟨prog, w.params⟩ (isInstance (.ref 158) (.type "type")) = some true := by kernel_rfl
theorem pk_self158 (w : World) (prog : Program) : peek (Mine.hd.heap_1 w.params) ⟨prog, w.params⟩ (isSubtype (.ref 158) (.ref 158)) = some true := by kernel_rfl
theorem pk_subDD (w : World) (prog : Program) : peek (Mine.hd.heap_1 w.params) ⟨prog, w.params⟩ (isSubtype (.ref 158) (.type "collections.defaultdict")) = some true := by kernel_rfl
theorem pk_subOD (w : World) (prog : Program) : peek (Mine.hd.heap_1 w.params) ⟨prog, w.params⟩ (isSubtype (.ref 158) (.type "collections.OrderedDict")) = some false := by kernel_rfl
theorem pk_init158 (w : World) (prog : Program) : peek (Mine.hd.heap_1 w.params) ⟨prog, w.params⟩ (typeLookup (.ref 158) "__init__") = some (some (.builtin "collections.defaultdict.__init__")) := by kernel_rfl
theorem pk_callf (w : World) (prog : Program) : peek (Mine.hd.heap_1 w.params) ⟨prog, w.params⟩ (specialOf (.ref 284) "__call__") = some (some (.builtin "function.__call__")) := by kernel_rfl
theorem ld158 (w : World) : ∃ oc od cd sl, (Mine.hd.heap_1 w.params).lookup 158 = some ⟨oc, od, .cls cd, sl⟩ := ⟨_, _, _, _, by k_is⟩
theorem e_dictNew : entryFor table "dict.__new__" = some Builtin.«dict.__new__» := entryFor_of_tree (by kernel_rfl)
theorem e_dictInit : entryFor table "dict.__init__" = some Builtin.«dict.__init__» := entryFor_of_tree (by kernel_rfl)
theorem bi_ddInit : Bi "collections.defaultdict.__init__" Builtin.«collections.defaultdict.__init__» "collections.defaultdict" "__init__" where
  plain := by decide +kernel
  entry := entryFor_of_tree (by kernel_rfl)
  kind := .inl (by decide +kernel)
  split := by decide +kernel

/-- a tree's object -/
abbrev nodeObj (dx : Addr) (es : Array DictEntry) (n : Nat) : Obj := { cls := .ref 158, dict := some dx, data := .dict es n, slots := #[some (.ref 284)] }
abbrev nodeRaw (dx : Addr) : Obj := { cls := .ref 158, dict := some dx, data := .dict #[] }
abbrev setSlot0 (o : Obj) : Obj := { o with slots := (o.slots ++ Array.replicate (0 + 1 - o.slots.size) none).setIfInBounds 0 (some (.ref 284)) }

section
variable {prog : Program} {w : World} {A : Around} {R : Result → Shared → Prop} {h h₀ : Heap} {g : Array GenState} {d : Drawn} {t : Nat} {os : OsState}
theorem node_new (X : (Mine.hd.heap_1 w.params).In h₀) (k : h₀.StaysIn h)
    (hq : R (.ok (.ret (.ref (h.objs.size + 1)))) ⟨(h.push emptyDict).push (nodeRaw h.objs.size), g, d, t, os⟩) :
    codeAny (model prog w) A (.call (.builtin "dict.__new__") ⟨[.ref 158, .ref 284], []⟩) R ⟨h, g, d, t, os⟩ := by
  have L1 := Looks.of_peek (M := model prog w) X (pk_chkNew w prog)
  have L2 := Looks.of_peek (M := model prog w) X (pk_isType w prog)
  have L3 := Looks.of_peek (M := model prog w) X (pk_subDict w prog)
  have L4 := Looks.of_peek (M := model prog w) X (pk_mro w prog)
  have L5 := Looks.of_peek (M := model prog w) X (pk_hasDel w prog)
  refine codeAny_call_builtin_code (by decide +kernel) (lookFrom L1 k ?_)
  refine codeAny_builtin e_dictNew ?_
  unfold Builtin.«dict.__new__»
  repeat walk_at "lkk"
  rw [Heap.size_push]
  exact hq

theorem dd_init {x dx : Addr} (X : (Mine.hd.heap_1 w.params).In h₀) (k : h₀.StaysIn h) (n : h₀.get? x = none) (hx : h.get? x = some (nodeRaw dx))
    (hq : R (.ok (.ret .none)) ⟨h.update x setSlot0, g, d, t, os⟩) :
    codeAny (model prog w) A (.call (.builtin "collections.defaultdict.__init__") ⟨[.ref x, .ref 284], []⟩) R ⟨h, g, d, t, os⟩ := by
  have t1 : Looks (model prog w) h (typeOf (.ref x)) (.ref 158) := typeAt hx rfl
  have L8 := Looks.of_peek (M := model prog w) X (pk_subDD w prog)
  have L9 := Looks.of_peek (M := model prog w) X (pk_callf w prog)
  have L10 := Looks.of_peek (M := model prog w) X (pk_subOD w prog)
  refine bi_ddInit.call (t1.andThen (L8.keeps k)) (by unfold argsOk; kernel_rfl) ?_
  unfold Builtin.«collections.defaultdict.__init__» Collections_defaultdict.setFactory slotLetsGo setSlotAt
  repeat walk_at "lkk"
  refine nd_update hx ?_
  refine wpAny_pure (wpAny_bind (wpAny_holding (wpAny_runValue (codeAny_builtin e_dictInit ?_))))
  have hx' : (h.update x setSlot0).get? x = some (setSlot0 (nodeRaw dx)) := Heap.get?_update_self _ hx rfl
  have t2 : Looks (model prog w) (h.update x setSlot0) (typeOf (.ref x)) (.ref 158) := typeAt hx' rfl
  unfold Builtin.«dict.__init__»
  repeat walk_at "lkk"
  exact hq

theorem node_make (X : (Mine.hd.heap_1 w.params).In h₀) (k : h₀.StaysIn h)
    (hq : R (.ok (.ret (.ref (h.objs.size + 1)))) ⟨((h.push emptyDict).push (nodeRaw h.objs.size)).update (h.objs.size + 1) setSlot0, g, d, t, os⟩) :
    codeAny (model prog w) A (.call (.ref 158) ⟨[.ref 284], []⟩) R ⟨h, g, d, t, os⟩ := by
  obtain ⟨oc, od, cd, sl, hl⟩ := ld158 w
  have hC := k _ _ (X _ _ hl)
  have L1 := Looks.of_peek (M := model prog w) X (pk_call158 w prog)
  have L2 := Looks.of_peek (M := model prog w) X (pk_inst158 w prog)
  have L4 := Looks.of_peek (M := model prog w) X (pk_mro w prog)
  have L5 := Looks.of_peek (M := model prog w) X (pk_made w prog)
  have L6 := Looks.of_peek (M := model prog w) X (pk_self158 w prog)
  have L7 := Looks.of_peek (M := model prog w) X (pk_init158 w prog)
  refine codeAny_of_tree ?_
  show wpAny _ _ (callAny (.ref 158) _) _ _ _
  refine nd_load hC ?_
  show wpAny _ _ (callAny.viaDunder (.ref 158) _) _ _ _
  unfold callAny.viaDunder
  refine wpAny_bind (lookFrom L1 k ?_)
  dsimp only
  rw [tc_bind]
  refine wpAny_bind (wpAny_pure (wpAny_bind (wpAny_pure ?_)))
  refine wpAny_pure (a := Fin.again (.call (.builtin "type.__call__") ⟨.ref 158 :: [.ref 284], []⟩)) (And.intro rfl ?_)
  refine codeAny_call_builtin_at (Code.quiet_builtin _ (by decide +kernel)) entry_typeCall ?_
  refine @check_slot (model prog w) _ _ _ "type.__call__" "type" "__call__" (.ref 158) [.ref 284] [] _ tc_kind tc_split (L2.keeps k) (tc_args _ _ _) ?_
  unfold Builtin.«type.__call__»
  repeat walk_at "lkk"
  refine node_new X k ?_
  dsimp only
  have hx : ((h.push emptyDict).push (nodeRaw h.objs.size)).get? (h.objs.size + 1) = some (nodeRaw h.objs.size) := by heap_get
  have t1 : Looks (model prog w) ((h.push emptyDict).push (nodeRaw h.objs.size)) (typeOf (.ref (h.objs.size + 1))) (.ref 158) := typeAt hx rfl
  have b1 : Looks (model prog w) ((h.push emptyDict).push (nodeRaw h.objs.size)) (bindSpecial (.builtin "collections.defaultdict.__init__") (.ref (h.objs.size + 1))) (.builtin "collections.defaultdict.__init__", [.ref (h.objs.size + 1)]) := Looks.of_pure (by kernel_rfl)
  unfold isInstance callSpecial? specialOf
  repeat walk_at "lkk"
  refine dd_init X (by walk_at "stays") (fresh_size1 k) hx ?_
  dsimp only
  repeat walk_at "lkk"
  exact hq
end

theorem node_makeN {prog : Program} {w : World} {A : Around} {h₀ : Heap} {L : Addr} {m : Str → Option Value} {led : Led} {s : Shared} {Q E : Value → Shared → Prop} (X : (Mine.hd.heap_1 w.params).In h₀) (F : Fr h₀ L s.heap m) (N : News h₀ L s.heap led)
    (hq : ∀ x dx h', Fr h₀ L h' m → News h₀ L h' ((x, nodeObj dx #[] 0) :: (dx, emptyDict) :: led) → (∀ p ∈ led, p.1 ≠ x ∧ p.1 ≠ dx) → dx ≠ x → (x == sysModules) = false → Q (.ref x) { s with heap := h' }) :
    wpAny (model prog w) A (call (.ref 158) [.ref 284]) Q E s := by
  obtain ⟨h, gs, d, t, os⟩ := s
  obtain ⟨oc, od, cd, sl, hl⟩ := ld158 w
  have hbig : 158 < h.objs.size := Heap.lt_size (F.keep _ _ (X _ _ hl))
  refine wpAny_call (node_make X F.keep ?_)
  have F2 := (F.push emptyDict).push (nodeRaw h.objs.size)
  have N2 := (N.push F emptyDict).push (F.push _) (nodeRaw h.objs.size)
  rw [Heap.size_push] at N2
  obtain ⟨F3, N3⟩ := upd_led (f := setSlot0) F2 N2 (.head _) rfl rfl
  have fr : ∀ p ∈ led, p.1 ≠ h.objs.size + 1 ∧ p.1 ≠ h.objs.size := fun p hp =>
    have lt : p.1 < h.objs.size := Heap.lt_size (N p hp).1
    ⟨Nat.ne_of_lt (Nat.lt_succ_of_lt lt), Nat.ne_of_lt lt⟩
  refine hq (h.objs.size + 1) h.objs.size _ F3 (led_sub N3 fun p hp => ?_) fr (Nat.ne_of_lt (Nat.lt_succ_self _)) (beq_eq_false_iff_ne.mpr (Nat.ne_of_gt (Nat.lt_of_lt_of_le (by decide : 1 < 158) (Nat.le_of_lt (Nat.lt_succ_of_lt hbig)))))
  rcases List.mem_cons.mp hp with rfl | hp
  · exact mem_setL_self (.head _)
  rcases List.mem_cons.mp hp with rfl | hp
  · exact mem_setL (.tail _ (.head _)) (Nat.ne_of_lt (Nat.lt_succ_self _))
  · exact mem_setL (.tail _ (.tail _ hp)) (fr p hp).1

theorem tree_call {prog : Program} {w : World} {led : Led} : DoesC prog w 4 (.ref 284) [] led (fun v led' => ∃ x dx, v = .ref x ∧ led' = (x, nodeObj dx #[] 0) :: (dx, emptyDict) :: led ∧ (∀ p ∈ led, p.1 ≠ x ∧ p.1 ≠ dx) ∧ dx ≠ x ∧ (x == sysModules) = false) := by
  intro A h₀ L m s Q E cx F N hQ; obtain ⟨A₀, base, outer, env, p, loose, mean, mg, mb, B, hA, hf, hk, X, T, hh, hd, hu, hC⟩ := cx
  walk_at "enter"; intro g1 L1 h1 FG F1 N1 B1 X1 T1; (try dsimp only)
  iterate 10 walk1
  refine node_makeN X1 (by assumption) (by assumption) fun x dx h' F' N' fr ne nm => ?_
  exact leaveK_ F' N' fun F'' N'' => hQ _ _ _ _ F'' N'' ⟨x, dx, rfl, rfl, fr, ne, nm⟩

theorem bi_dictGetitem : Bi "dict.__getitem__" Builtin.«dict.__getitem__» "dict" "__getitem__" where
  plain := by decide +kernel
  entry := entryFor_of_tree (by kernel_rfl)
  kind := by first | exact .inl (by decide +kernel) | exact .inr (by decide +kernel)
  split := by decide +kernel
theorem pk_getitem (w : World) (prog : Program) : peek (Mine.hd.heap_1 w.params) ⟨prog, w.params⟩ (typeLookup (.ref 158) "__getitem__") = some (some (.builtin "dict.__getitem__")) := by kernel_rfl
theorem pk_missing (w : World) (prog : Program) : peek (Mine.hd.heap_1 w.params) ⟨prog, w.params⟩ (typeLookup (.ref 158) "__missing__") = some (some (.ref 148)) := by kernel_rfl
theorem pk_bindMissing (w : World) (prog : Program) (a : Addr) : peek (Mine.hd.heap_1 w.params) ⟨prog, w.params⟩ (bindSpecial (.ref 148) (.ref a)) = some (.ref 148, [.ref a]) := by kernel_rfl
theorem pk_noSeq (w : World) (prog : Program) : peek (Mine.hd.heap_1 w.params) ⟨prog, w.params⟩ (seqItemTypes.anyM fun n => isSubtype (.ref 158) (.type n)) = some false := by kernel_rfl

section
variable {prog : Program} {w : World} {A : Around} {E : Value → Shared → Prop} {h h₀ : Heap} {g : Array GenState} {d : Drawn} {tk : Nat} {os : OsState}
theorem dictGet_str {a : Addr} {o : Obj} {es : Array DictEntry} {n : Nat} {k : Str} {t : Tok} {Q : Option Value → Shared → Prop} {s : Shared} (ha : s.heap.get? a = some o) (hd : o.data = .dict es n) (hall : (es.all fun e => isExactStrKey e.key) = true)
    (hq : Q ((es.find? fun e => e.key.isStr k).map (·.val)) { s with toks := s.toks + 1 }) : wpAny (model prog w) A (dictGet a (.str k t)) Q E s := by
  unfold dictGet
  try with_reducible refine wpAny_holding ?_
  refine wpAny_bind (wpAny_pyHash_str (wpAny_bind (KTD.kt_dictFind_strs (s := { s with toks := s.toks + 1 }) ha hd hall ?_)))
  rw [show (es.find? fun e => e.key.isStr k).map (·.val) = findBy (fun (k : Str) v => v.isStr k) es k from rfl, findBy_of_findIdx?] at hq
  cases q : es.findIdx? (fun e => e.key.isStr k) with
  | none => rw [q] at hq; exact wpAny_pure hq
  | some i =>
    rw [q] at hq
    exact wpAny_bind (wpAny_dictEntries ha hd (wpAny_pure hq))

theorem node_get {a dx : Addr} {es : Array DictEntry} {n : Nat} {k : Str} {t : Tok} {Q : Value → Shared → Prop} (X : (Mine.hd.heap_1 w.params).In h₀) (st : h₀.StaysIn h) (nm : (a == sysModules) = false) (ha : h.get? a = some (nodeObj dx es n)) (hall : (es.all fun e => isExactStrKey e.key) = true)
    (hit : ∀ v, (es.find? fun e => e.key.isStr k).map (·.val) = some v → Q v ⟨h, g, d, tk + 1, os⟩)
    (miss : es.find? (fun e => e.key.isStr k) = none → codeAny (model prog w) A.in1 (.call (.ref 148) ⟨[.ref a, .str k t], []⟩) (fun r s' => match r with | .ok (.ret v) => Q v s' | .ok _ => False | .error e => E e s') ⟨h, g, d, tk + 1, os⟩) :
    wpAny (model prog w) A (getItem (.ref a) (.str k t)) Q E ⟨h, g, d, tk, os⟩ := by
  have t1 : Looks (model prog w) h (typeOf (.ref a)) (.ref 158) := typeAt ha rfl
  have L1 := Looks.of_peek (M := model prog w) X (pk_getitem w prog)
  have L2 := Looks.of_peek (M := model prog w) X (pk_noSeq w prog)
  have L3 := Looks.of_peek (M := model prog w) X (pk_subDict w prog)
  have b1 : Looks (model prog w) h (bindSpecial (.builtin "dict.__getitem__") (.ref a)) (.builtin "dict.__getitem__", [.ref a]) := Looks.of_pure (by kernel_rfl)
  unfold getItem callSpecial? specialOf sequenceKey
  repeat walk_at "lkk"
  refine bi_dictGetitem.call (t1.andThen (L3.keeps st)) (by unfold argsOk; kernel_rfl) ?_
  unfold Builtin.«dict.__getitem__»
  repeat (first | with_reducible refine dictGet_str ha rfl hall ?_ | walk_at "lkk")
  cases q : es.find? (fun e => e.key.isStr k) with
  | some e =>
    repeat walk_at "lkk"
    exact hit _ (by rw [q]; rfl)
  | none =>
    have L4 := Looks.of_peek (M := model prog w) X (pk_missing w prog)
    have L5 := Looks.of_peek (M := model prog w) X (pk_bindMissing w prog a)
    unfold callSpecial? specialOf
    repeat (first | with_reducible refine wpAny_missed_other nm ?_ | walk_at "lkk")
    refine codeAny_mono (miss q) fun r s' z => ?_
    rcases r with e | (v | _ | _ | _) <;> first | exact z | exact z.elim | skip
    repeat walk_at "lkk"
    exact z
end

theorem chk_getattr (a b c : Value) : checkBuiltinCall "getattr" ⟨[a, b, c], []⟩ = pure () := by kernel_rfl
theorem e_getattr : entryFor table "getattr" = some Builtin.«getattr» := entryFor_of_tree (by kernel_rfl)
theorem e_hooked : entryFor table "proto.getattr_hooked" = some Builtin.«proto.getattr_hooked» := entryFor_of_tree (by kernel_rfl)
theorem pk_ga (w : World) (prog : Program) : peek (Mine.hd.heap_1 w.params) ⟨prog, w.params⟩ (typeLookup (.ref 158) "__getattribute__") = some (some (.builtin "collections.defaultdict.__getattribute__")) := by kernel_rfl
theorem pk_gahook (w : World) (prog : Program) : peek (Mine.hd.heap_1 w.params) ⟨prog, w.params⟩ (typeLookup (.ref 158) "__getattr__") = some none := by kernel_rfl
theorem pk_subModule (w : World) (prog : Program) : peek (Mine.hd.heap_1 w.params) ⟨prog, w.params⟩ (isSubtype (.ref 158) (.type "module")) = some false := by kernel_rfl
theorem fo_miss (w : World) : findObj (Mine.hd.heap_1 w.params) 158 (some emptyDict) "_frozen" = some .missing := by kernel_rfl
theorem sub_ae : isSubtype (.type "AttributeError") (.type "AttributeError") = pure true := by rw [isSubtype_type]; kernel_rfl
theorem pk_nameCut (w : World) (prog : Program) : peek (Mine.hd.heap_1 w.params) ⟨prog, w.params⟩ (typeNameCut 100 (.ref 158)) = some "FreezableDefaultDict" := by kernel_rfl
theorem bi_ddGa : Bi "collections.defaultdict.__getattribute__" Builtin.«object.__getattribute__» "collections.defaultdict" "__getattribute__" where
  plain := by decide +kernel
  entry := entryFor_alias (id' := "object.__getattribute__") (by kernel_rfl) (by decide +kernel) (by decide +kernel) (by kernel_rfl)
  kind := by first | exact .inl (by decide +kernel) | exact .inr (by decide +kernel)
  split := by decide +kernel
section
variable {prog : Program} {w : World} {A : Around} {E : Value → Shared → Prop} {h h₀ : Heap} {g : Array GenState} {d : Drawn} {tk : Nat} {os : OsState}
theorem getattr_miss {a dx : Addr} {es : Array DictEntry} {n : Nat} {t : Tok} {b : Value} {Q : Value → Shared → Prop} (X : (Mine.hd.heap_1 w.params).In h₀) (st : h₀.StaysIn h) (hh : A.handled = none) (ha : h.get? a = some (nodeObj dx es n)) (hdx : h.get? dx = some emptyDict)
    (hq : ∀ h' tk', h.StaysIn h' → Q b ⟨h', g, d, tk', os⟩) :
    wpAny (model prog w) A (call (.builtin "getattr") [.ref a, .str "_frozen" t, b]) Q E ⟨h, g, d, tk, os⟩ := by
  have t1 : Looks (model prog w) h (typeOf (.ref a)) (.ref 158) := typeAt ha rfl
  have L1 := Looks.of_peek (M := model prog w) X (pk_ga w prog)
  have L2 := Looks.of_peek (M := model prog w) X (pk_gahook w prog)
  have L3 := Looks.of_peek (M := model prog w) X (pk_subModule w prog)
  have I : InstAt h a (nodeObj dx es n) 158 (some emptyDict) := ⟨ha, rfl, rfl, hdx⟩
  have L4 : Looks (model prog w) h (ObjectAttr.find (.ref a) (.ref 158) "_frozen") .missing := looks_find (X.keeps st) I (fo_miss w)
  refine wpAny_call (codeAny_call_builtin (by decide +kernel) e_getattr ?_)
  rw [chk_getattr]
  refine wpAny_pure ?_
  have L5 := Looks.of_peek (M := model prog w) X (pk_subDD w prog)
  have L6 := Looks.of_peek (M := model prog w) X (pk_nameCut w prog)
  have b1 : Looks (model prog w) h (bindSpecial (.builtin "collections.defaultdict.__getattribute__") (.ref a)) (.builtin "collections.defaultdict.__getattribute__", [.ref a]) := Looks.of_pure (by kernel_rfl)
  unfold Builtin.«getattr» getAttrBy? getAttrBy
  repeat walk_at "lkk"
  refine bi_ddGa.call (t1.andThen (L5.keeps st)) (by unfold argsOk; kernel_rfl) ?_
  unfold Builtin.«object.__getattribute__»
  repeat (first | with_reducible refine wpAny_raiseAttrError hh ?_ ?_ | walk_at "lkk")
  rotate_left
  · decide +kernel
  intro h' tk' e ne
  obtain ⟨t', u', he⟩ := ne.there
  have t2 : Looks (model prog w) h' (typeOf (.ref e)) (.type "AttributeError") := typeAt he rfl
  have L7 : Looks (model prog w) h' (isSubtype (.type "AttributeError") (.type "AttributeError")) true := Looks.of_pure sub_ae
  unfold getattributeRaised hookBehind hookOrError attributeErrorLeaves
  repeat walk_at "lkk"
  exact hq _ _ ne.keeps
end

abbrev frzObj (hs : Int) (tk : Tok) (fn : Addr) : Obj := { cls := .type "dict", data := .dict #[⟨hs, .str "_frozen" tk, .ref fn⟩] 1 }
theorem fo_hit (w : World) (hs : Int) (tk : Tok) (fn : Addr) : findObj (Mine.hd.heap_1 w.params) 158 (some (frzObj hs tk fn)) "_frozen" = some (.value (.ref fn)) := by kernel_rfl
section
variable {prog : Program} {w : World} {A : Around} {E : Value → Shared → Prop} {h h₀ : Heap} {g : Array GenState} {d : Drawn} {tk : Nat} {os : OsState}
theorem getattr_hit {a dx fn : Addr} {es : Array DictEntry} {n : Nat} {t : Tok} {b : Value} {hs : Int} {tf : Tok} {Q : Value → Shared → Prop} (X : (Mine.hd.heap_1 w.params).In h₀) (st : h₀.StaysIn h) (ha : h.get? a = some (nodeObj dx es n)) (hdx : h.get? dx = some (frzObj hs tf fn))
    (hq : Q (.ref fn) ⟨h, g, d, tk, os⟩) :
    wpAny (model prog w) A (call (.builtin "getattr") [.ref a, .str "_frozen" t, b]) Q E ⟨h, g, d, tk, os⟩ := by
  have t1 : Looks (model prog w) h (typeOf (.ref a)) (.ref 158) := typeAt ha rfl
  have L1 := Looks.of_peek (M := model prog w) X (pk_ga w prog)
  have L2 := Looks.of_peek (M := model prog w) X (pk_gahook w prog)
  have L3 := Looks.of_peek (M := model prog w) X (pk_subModule w prog)
  have I : InstAt h a (nodeObj dx es n) 158 (some (frzObj hs tf fn)) := ⟨ha, rfl, rfl, hdx⟩
  have L4 : Looks (model prog w) h (ObjectAttr.find (.ref a) (.ref 158) "_frozen") (.value (.ref fn)) := looks_find (X.keeps st) I (fo_hit w hs tf fn)
  refine wpAny_call (codeAny_call_builtin (by decide +kernel) e_getattr ?_)
  rw [chk_getattr]
  refine wpAny_pure ?_
  have L5 := Looks.of_peek (M := model prog w) X (pk_subDD w prog)
  have b1 : Looks (model prog w) h (bindSpecial (.builtin "collections.defaultdict.__getattribute__") (.ref a)) (.builtin "collections.defaultdict.__getattribute__", [.ref a]) := Looks.of_pure (by kernel_rfl)
  unfold Builtin.«getattr» getAttrBy? getAttrBy
  repeat walk_at "lkk"
  refine bi_ddGa.call (t1.andThen (L5.keeps st)) (by unfold argsOk; kernel_rfl) ?_
  unfold Builtin.«object.__getattribute__»
  repeat walk_at "lkk"
  exact hq
end

theorem bi_superGa : Bi "super.__getattribute__" Builtin.«super.__getattribute__» "super" "__getattribute__" where
  plain := by decide +kernel
  entry := entryFor_of_tree (by kernel_rfl)
  kind := by first | exact .inl (by decide +kernel) | exact .inr (by decide +kernel)
  split := by decide +kernel
theorem lk_superGa : typeLookup (.type "super") "__getattribute__" = pure (some (.builtin "super.__getattribute__")) := by rw [typeLookup_type, builtinLookup_eq_fast]; kernel_rfl
theorem bn_superGa (x : Value) : bindSpecial (.builtin "super.__getattribute__") x = pure (.builtin "super.__getattribute__", [x]) := by kernel_rfl
theorem sub_super : isSubtype (.type "super") (.type "super") = pure true := by rw [isSubtype_type]; kernel_rfl
theorem own_ddMissing : classOwn (.type "collections.defaultdict") "__missing__" = pure (some (.builtin "collections.defaultdict.__missing__")) := by kernel_rfl
theorem ty_ddMissing : typeOf (.builtin "collections.defaultdict.__missing__") = pure (.type "method_descriptor") := by kernel_rfl
theorem lk_mdGet : typeLookup (.type "method_descriptor") "__get__" = pure (some (.builtin "method_descriptor.__get__")) := by rw [typeLookup_type, builtinLookup_eq_fast]; kernel_rfl
theorem pk_opaque (w : World) (prog : Program) : peek (Mine.hd.heap_1 w.params) ⟨prog, w.params⟩ (opaqueClassAbove (.ref 158)) = some none := by kernel_rfl
theorem bi_mdGet : Bi "method_descriptor.__get__" Builtin.«method_descriptor.__get__» "method_descriptor" "__get__" where
  plain := by decide +kernel
  entry := entryFor_of_tree (by kernel_rfl)
  kind := by first | exact .inl (by decide +kernel) | exact .inr (by decide +kernel)
  split := by decide +kernel
theorem inst_md : isInstance (.builtin "collections.defaultdict.__missing__") (.type "method_descriptor") = pure true := by kernel_rfl
section
variable {prog : Program} {w : World} {A : Around} {E : Value → Shared → Prop} {h h₀ : Heap} {g : Array GenState} {d : Drawn} {tk : Nat} {os : OsState}
theorem super_missing {a so : Addr} {Q : Value → Shared → Prop} (X : (Mine.hd.heap_1 w.params).In h₀) (st : h₀.StaysIn h) (na : h₀.get? a = none) (hso : h.get? so = some (ks_superObj 158 a 158)) {dx : Addr} {es : Array DictEntry} {n : Nat} (ha : h.get? a = some (nodeObj dx es n))
    (hq : ∀ h' tk', h.StaysIn h' → h'.get? h.objs.size = some { cls := .type "builtin_function_or_method", data := .fields #[.builtin "collections.defaultdict.__missing__", .ref a] } → Q (.ref h.objs.size) ⟨h', g, d, tk', os⟩) :
    wpAny (model prog w) A (getAttr (.ref so) "__missing__" true) Q E ⟨h, g, d, tk, os⟩ := by
  have t1 : Looks (model prog w) h (typeOf (.ref so)) (.type "super") := typeAt hso rfl
  have L1 : Looks (model prog w) h (typeLookup (.type "super") "__getattribute__") (some (.builtin "super.__getattribute__")) := Looks.of_pure lk_superGa
  have L2 : Looks (model prog w) h (bindSpecial (.builtin "super.__getattribute__") (.ref so)) (.builtin "super.__getattribute__", [.ref so]) := Looks.of_pure (bn_superGa _)
  have L3 : Looks (model prog w) h (isSubtype (.type "super") (.type "super")) true := Looks.of_pure sub_super
  have L4 := Looks.of_peek (M := model prog w) X (pk_mro w prog)
  have L5 := Looks.of_peek (M := model prog w) X (pk_opaque w prog)
  have L6 : Looks (model prog w) h (classOwn (.type "collections.defaultdict") "__missing__") (some (.builtin "collections.defaultdict.__missing__")) := Looks.of_pure own_ddMissing
  have L7 : Looks (model prog w) h (typeOf (.builtin "collections.defaultdict.__missing__")) (.type "method_descriptor") := Looks.of_pure ty_ddMissing
  have L8 : Looks (model prog w) h (typeLookup (.type "method_descriptor") "__get__") (some (.builtin "method_descriptor.__get__")) := Looks.of_pure lk_mdGet
  have f0 : Looks (model prog w) h (field (.ref so) 0) (.ref 158) := looks_field hso 0 rfl
  have f1 : Looks (model prog w) h (field (.ref so) 1) (.ref a) := looks_field hso 1 rfl
  have f2 : Looks (model prog w) h (field (.ref so) 2) (.ref 158) := looks_field hso 2 rfl
  unfold getAttr getAttrBy
  repeat walk_at "lkk"
  refine bi_superGa.call (t1.andThen L3) (by unfold argsOk; kernel_rfl) ?_
  unfold Builtin.«super.__getattribute__»
  repeat walk_at "lkk"
  have na' : (Value.ref a == Value.ref 158) = false := by
    obtain ⟨oc, od, cd, sl, hl⟩ := ld158 w
    refine beq_eq_false_iff_ne.mpr fun e => ?_
    cases e
    rw [X _ _ hl] at na; cases na
  rw [na', if_neg Bool.false_ne_true]
  have L9 : Looks (model prog w) h (isInstance (.builtin "collections.defaultdict.__missing__") (.type "method_descriptor")) true := Looks.of_pure inst_md
  have t2 : Looks (model prog w) h (typeOf (.ref a)) (.ref 158) := typeAt ha rfl
  have L10 : Looks (model prog w) h (isSubtype (.ref 158) (.type (".".intercalate ("collections.defaultdict.__missing__".cutAt '.').dropLast))) true := by
    rw [show ".".intercalate ("collections.defaultdict.__missing__".cutAt '.').dropLast = "collections.defaultdict" from by decide +kernel]
    exact (Looks.of_peek (M := model prog w) X (pk_subDD w prog)).keeps st
  refine bi_mdGet.call L9 (by unfold argsOk; kernel_rfl) ?_
  unfold Builtin.«method_descriptor.__get__»
  repeat walk_at "lkk"
  exact hq _ _ (stays_push stays_refl) (Heap.get?_push_at rfl rfl)
end

abbrev bmObj (a : Addr) : Obj := { cls := .type "builtin_function_or_method", data := .fields #[.builtin "collections.defaultdict.__missing__", .ref a] }
theorem e_ddMissing : entryFor table "collections.defaultdict.__missing__" = some Builtin.«collections.defaultdict.__missing__» := entryFor_of_tree (by kernel_rfl)
theorem e_setdefault : entryFor table "dict.setdefault" = some Builtin.«dict.setdefault» := entryFor_of_tree (by kernel_rfl)
theorem sig_ddm : Manifest.signature? "collections.defaultdict.__missing__" = some { machinery := Manifest.Machinery.oneArg, full := "defaultdict.__missing__", short := "__missing__", receiver := Manifest.Receiver.self, params := [{ name := "object", kind := Manifest.ParamKind.posOnly, required := true }] } := by kernel_rfl
theorem kind_ddm : builtinKind "collections.defaultdict.__missing__" = some .method := by decide +kernel
theorem va_ddm : Manifest.varargsMethods.contains "collections.defaultdict.__missing__" = false := by decide +kernel
theorem pk_borrows (w : World) (prog : Program) : peek (Mine.hd.heap_1 w.params) ⟨prog, w.params⟩ (borrowsExactly (.ref 284)) = some true := by kernel_rfl
theorem cd158 (w : World) : ∃ cd, clsIn (Mine.hd.heap_1 w.params) 158 = some cd ∧ cd.qualname.toString = "FreezableDefaultDict" := ⟨_, by k_is, by decide +kernel⟩
theorem pk_ty158 (w : World) (prog : Program) : peek (Mine.hd.heap_1 w.params) ⟨prog, w.params⟩ (typeOf (.ref 158)) = some (.type "type") := by kernel_rfl
theorem ca_ddm (a b : Value) : Bind.checkArgs "collections.defaultdict.__missing__" { machinery := Manifest.Machinery.oneArg, full := toString "FreezableDefaultDict" ++ toString "." ++ toString (Bind.lastOf "collections.defaultdict.__missing__"), short := "__missing__", receiver := Manifest.Receiver.self, params := [{ name := "object", kind := Manifest.ParamKind.posOnly, required := true }] } ⟨[a, b], []⟩ = pure () := by kernel_rfl
section
variable {prog : Program} {w : World} {A : Around} {E : Value → Shared → Prop} {h h₀ : Heap} {g : Array GenState} {d : Drawn} {tk : Nat} {os : OsState}
theorem dd_missing {a dx bm L : Addr} {es : Array DictEntry} {n : Nat} {k : Str} {t : Tok} {led : Led} {m : Str → Option Value} {Q : Value → Shared → Prop} {s : Shared} (cx : Cx w A h₀ L 7) (F : Fr h₀ L s.heap m) (N : News h₀ L s.heap led)
    (ha : (a, nodeObj dx es n) ∈ led) (hbm : (bm, bmObj a) ∈ led) (hall : (es.all fun e => isExactStrKey e.key) = true) (hno : es.find? (fun e => e.key.isStr k) = none) (hsz : es.size ≤ 1000) (nm : (a == sysModules) = false)
    (hq : ∀ x dx' hs h' tk', Fr h₀ L h' m → News h₀ L h' ((x, nodeObj dx' #[] 0) :: (dx', emptyDict) :: setL led a (nodeObj dx (es.push ⟨hs, .str k t, .ref x⟩) (n + 1))) → (∀ p ∈ led, p.1 ≠ x ∧ p.1 ≠ dx') → dx' ≠ x → (x == sysModules) = false → Q (.ref x) { s with heap := h', toks := tk' }) :
    codeAny (model prog w) A (.call (.ref bm) ⟨[.str k t], []⟩) (fun r s' => match r with | .ok (.ret v) => Q v s' | .ok _ => False | .error e => E e s') s := by
  obtain ⟨h, g, d, tk, os⟩ := s
  have hb := (N _ hbm).1
  have hn := (N _ ha).1
  have X : (Mine.hd.heap_1 w.params).In h₀ := by obtain ⟨A₀, base, outer, env, p, loose, mean, mg, mb, B, hA, hf, hk, X, T, hh, hd, hu, hC⟩ := cx; exact X
  have st : h₀.StaysIn h := F.keep
  have L1 := Looks.of_peek (M := model prog w) X (pk_borrows w prog)
  refine codeAny_of_tree ?_
  show wpAny _ _ (callAny (.ref bm) _) _ _ _
  refine nd_load hb ?_
  show wpAny _ _ (checkBoundCall "collections.defaultdict.__missing__" ⟨[.ref a, .str k t], []⟩ >>= fun _ => again (.builtin "collections.defaultdict.__missing__" ⟨[.ref a, .str k t], []⟩)) _ _ _
  have t1 : Looks (model prog w) h (typeOf (.ref a)) (.ref 158) := typeAt hn rfl
  have L2 := Looks.of_peek (M := model prog w) X (pk_subModule w prog)
  unfold checkBoundCall
  rw [sig_ddm, kind_ddm, va_ddm]
  obtain ⟨cd, hcd, hqn⟩ := cd158 w
  have L3 := looks_clsIn (M := model prog w) X hcd
  have L4 := Looks.of_peek (M := model prog w) X (pk_ty158 w prog)
  have L5 : Looks (model prog w) h (Bind.checkArgs "collections.defaultdict.__missing__" { machinery := Manifest.Machinery.oneArg, full := toString cd.qualname.toString ++ toString "." ++ toString (Bind.lastOf "collections.defaultdict.__missing__"), short := "__missing__", receiver := Manifest.Receiver.self, params := [{ name := "object", kind := Manifest.ParamKind.posOnly, required := true }] } ⟨[.ref a, .str k t], []⟩) () := by
    rw [hqn]; exact Looks.of_pure (ca_ddm _ _)
  repeat walk_at "lkk"
  refine ⟨Code.quiet_builtin _ (by decide +kernel), codeAny_builtin e_ddMissing ?_⟩
  rw [Around.under_plainId (by decide +kernel)]
  have f0 : Looks (model prog w) h (slotAt a 0) (some (.ref 284)) := (Looks.ld hn).andThen (Looks.of_pure rfl)
  unfold Builtin.«collections.defaultdict.__missing__»
  repeat walk_at "lkk"
  refine nd_call (tree_call.then (Cx.in1 (cx.less (by decide))) F N ?_)
  rintro v led' h' tk' F' N' ⟨x, dx', rfl, rfl, fr, ne, nmx⟩
  refine nd_pure (wpAny_pure ⟨Code.quiet_builtin _ (by decide +kernel), codeAny_builtin e_setdefault ?_⟩)
  rw [Around.under_plainId (by decide +kernel)]
  have hn' := (N' _ (.tail _ (.tail _ ha))).1
  have st' : h₀.StaysIn h' := F'.keep
  have t2 : Looks (model prog w) h' (typeOf (.ref a)) (.ref 158) := typeAt hn' rfl
  have L6 := Looks.of_peek (M := model prog w) X (pk_subOD w prog)
  unfold Builtin.«dict.setdefault» dictSetDefault
  repeat (first | with_reducible refine wpAny_pyHash_str ?_ | with_reducible refine KTD.kt_dictFind_strs hn' rfl hall ?_ | walk_at "lkk")
  rw [if_neg (by rw [nm]; exact Bool.false_ne_true)]
  repeat (first | with_reducible refine wpAny_pyHash_str ?_ | with_reducible refine KTD.kt_dictFind_strs hn' rfl hall ?_ | walk_at "lkk")
  have hi : es.findIdx? (fun e => e.key.isStr k) = none := by
    rw [Array.find?_eq_none] at hno
    rw [Array.findIdx?_eq_none_iff]
    intro y hy
    simpa using hno y hy
  rw [hi]
  repeat (first | with_reducible refine wpAny_updateDictKeys hn' rfl ?_ (by rw [sizeLine_eq]; omega) | walk_at "lkk")
  obtain ⟨F2, N2⟩ := upd_led (f := Obj.mapDictKeys fun xs => xs.push { hash := hashStr w k, key := Value.str k t, val := Value.ref x }) (o' := nodeObj dx (es.push ⟨hashStr w k, .str k t, .ref x⟩) (n + 1)) F' N' (.tail _ (.tail _ ha)) rfl rfl
  have hxa : a ≠ x := (fr _ ha).1
  have hda : a ≠ dx' := (fr _ ha).2
  refine hq x dx' (hashStr w k) _ _ F2 (led_sub N2 (led' := (x, nodeObj dx' #[] 0) :: (dx', emptyDict) :: setL led a (nodeObj dx (es.push ⟨hashStr w k, .str k t, .ref x⟩) (n + 1))) ?_) fr ne nmx
  intro p hp
  rcases List.mem_cons.mp hp with rfl | hp
  · exact mem_setL (.head _) (Ne.symm hxa)
  rcases List.mem_cons.mp hp with rfl | hp
  · exact mem_setL (.tail _ (.head _)) (Ne.symm hda)
  · rcases of_setL hp with ⟨h1, h2⟩ | ⟨h1, h2⟩
    · obtain ⟨p1, p2⟩ := p
      dsimp only at h1 h2
      subst h1 h2
      exact mem_setL_self (.tail _ (.tail _ ha))
    · exact mem_setL (.tail _ (.tail _ h1)) h2
end

section
variable {prog : Program} {w : World} {M : Model} {A : Around} {c : Code} {E : Value → Shared → Prop} {s : Shared} {env : Env} {pos : Pos} {Q : Value → Shared → Prop}
theorem at_Call_Call {f2 : Expr} {a2 args : List Expr} {k2 kws : List Keyword} {p2 : Pos} (h : PySem.wpAt M A c (eval (.Call f2 a2 k2 p2) env) (fun fv s₁ => PySem.wpAt M A c (callWith pos fv [] (backTo pos (starEach args env)) (backToKw pos (keywordEach kws env))) Q E s₁) E s) :
    PySem.wpAt M A c (eval (.Call (.Call f2 a2 k2 p2) args kws pos) env) Q E s := PySem.wpAt_bind h
theorem at_Call_Name {x : Str} {args : List Expr} {kws : List Keyword} {p2 : Pos} (h : PySem.wpAt M A c (eval (.Name x p2) env) (fun fv s₁ => PySem.wpAt M A c (callWith pos fv [] (backTo pos (starEach args env)) (backToKw pos (keywordEach kws env))) Q E s₁) E s) :
    PySem.wpAt M A c (eval (.Call (.Name x p2) args kws pos) env) Q E s := PySem.wpAt_bind h
theorem at_Attribute {value : Expr} {attr : Str} (h : PySem.wpAt (model prog w) A c (attributeBase value attr env (eval value env)) (fun o s₁ => wpAny (model prog w) A (getAttr o attr true) Q E s₁) E s) :
    PySem.wpAt (model prog w) A c (eval (.Attribute value attr pos) env) Q E s := by
  show PySem.wpAt _ _ _ (attributeBase value attr env (eval value env) >>= fun o => _) _ _ _
  refine PySem.wpAt_bind (ks_wpAt_mono h (fun o s₁ h₁ => ?_) fun _ _ z => z)
  exact PySem.wpAt_of_wpAny (wpAny_bind (wpAny_standAt (wpAny_bind (wpAny_holding (wpAny_mono h₁ (fun r s₂ h₂ => wpAny_bind (wpAny_letTemporaryGo (wpAny_pure h₂))) fun _ _ z => z)))))
theorem at_spliced {t : Sem Value} {rest : List (Bool × Sem Value)} {Q : List Value → Shared → Prop} (h : PySem.wpAt M A c t (fun v s₁ => PySem.wpAt M A c (spliced rest) (fun vs s₂ => Q (v :: vs) s₂) E s₁) E s) :
    PySem.wpAt M A c (spliced ((false, t) :: rest)) Q E s := by
  show PySem.wpAt M A c (t >>= fun v => pure [v] >>= fun here => holding here (spliced rest) >>= fun r => pure (here ++ r)) Q E s
  refine PySem.wpAt_bind (ks_wpAt_mono h (fun v s₁ h₁ => ?_) fun _ _ z => z)
  refine PySem.wpAt_bind (PySem.wpAt_of_wpAny (wpAny_pure (PySem.wpAt_bind (ks_wpAt_holding (ks_wpAt_mono h₁ (fun vs s₂ h₂ => ?_) fun _ _ z => z)))))
  exact PySem.wpAt_of_wpAny (wpAny_pure h₂)
theorem at_callWith {id : String} {t : Sem Value} {rest : List (Bool × Sem Value)} (ht : rest.any (·.1) = false) (h : PySem.wpAt M A c (spliced ((false, t) :: rest)) (fun vs s1 => wpAny M A (call (.builtin id) vs) Q E s1) E s) :
    PySem.wpAt M A c (callWith pos (.builtin id) [] ((false, t) :: rest) []) Q E s := by
  have hplain : (((false, t) :: rest).any (·.1)) = false := by simpa using ht
  unfold callWith
  refine PySem.wpAt_bind (ks_wpAt_holding ?_)
  unfold evalArgs
  show PySem.wpAt M A c (spliced ((false, t) :: rest) >>= _) _ E s
  refine PySem.wpAt_bind (ks_wpAt_mono h (fun vs s₁ h₁ => PySem.wpAt_of_wpAny ?_) fun _ _ z => z)
  refine wpAny_holding (wpAny_bind (wpAny_pure (wpAny_bind (wpAny_pure (wpAny_pure ?_)))))
  refine fun Γ p hc hΓ => (?_ : wpAny M A _ Q E s₁) Γ p hΓ
  refine wpAny_bind (wpAny_standAt ?_)
  simp only [hplain, List.any_nil, Bool.or_false]
  refine wpAny_bind (wpAny_pure ?_)
  exact wpAny_bind (wpAny_mono h₁ (fun r s₂ hr => wpAny_bind (wpAny_holding (wpAny_point (wpAny_pure hr)))) fun _ _ x => x)
theorem at_spliced_nil {Q : List Value → Shared → Prop} (h : Q [] s) : PySem.wpAt M A c (spliced []) Q E s := PySem.wpAt_of_wpAny (wpAny_pure h)
theorem callWith1 {f : Value} {t : Sem Value} (h : wpAny M A t (fun v s₁ => wpAny M A (keeperOf f) (fun k s₂ => (k = .machine ∨ k = .frame) ∧ wpAny M A (call f [v]) Q E s₂) E s₁) E s) :
    wpAny M A (callWith pos f [] [(false, t)] []) Q E s := by
  unfold callWith
  refine wpAny_bind (wpAny_holding (evalArgs_plain (spliced_cons (wpAny_mono h (fun v s₁ h₁ => spliced_nil ?_) fun _ _ z => z))))
  refine wpAny_bind (wpAny_standAt ?_)
  simp only [List.any_cons, List.any_nil, Bool.or_false]
  have tail : ∀ {t : Sem Value} {s₁ : Shared}, wpAny M A t Q E s₁ → wpAny M A (t >>= fun r => holding [r] point >>= fun _ => pure r) Q E s₁ :=
    fun ht => wpAny_bind (wpAny_mono ht (fun r s₂ hr => wpAny_bind (wpAny_holding (wpAny_point (wpAny_pure hr)))) fun _ _ x => x)
  refine wpAny_bind (wpAny_mono h₁ (fun k s₂ h₂ => ?_) fun _ _ z => z)
  obtain ⟨rfl | rfl, h₂⟩ := h₂
  · exact tail h₂
  · exact tail (wpAny_keep h₂)
end
theorem fr_stays {h₀ h h' : Heap} {L : Addr} {m : Str → Option Value} (F : Fr h₀ L h m) (k : h.StaysIn h') : Fr h₀ L h' m := ⟨F.ns.keeps k, fun b o e => k b o (F.keep b o e), F.above⟩
theorem news_stays {h₀ h h' : Heap} {L : Addr} {led : Led} (N : News h₀ L h led) (k : h.StaysIn h') : News h₀ L h' led := fun p hp => ⟨k _ _ (N p hp).1, (N p hp).2⟩
theorem keeper_bm {M : Model} {h : Heap} {bm : Addr} {vs : Array Value} (hb : h.get? bm = some { cls := .type "builtin_function_or_method", data := .fields vs }) : Looks M h (keeperOf (.ref bm)) .machine :=
  fun A Q E s k q => by
    unfold keeperOf
    exact wpAny_bind (wpAny_load (k _ _ hb) (wpAny_pure q))

theorem cx_deeper {w : World} {A : Around} {e env : Env} {base g1 : Heap} {outer : List Env} {L1 : Addr} {p : Program} {loose : List Str} {mean : ExcName → Option Value} {mg mb : Str → Option Value} {d : Nat}
    (B1 : Below A base (env :: outer) g1) (hf : e.frame = some L1) (hk : e.scope.kind = .function) (X1 : (Mine.hd.heap_1 w.params).In g1) (T1 : Top p loose mean mg mb g1) (hh : A.handled = none)
    (hd : A.depth + (d + 1) < recursionLimit) (hu : A.units + 8 * (d + 1) < cLine) {h₀ : Heap} (hC : CodeHd h₀ 154 150) (k : h₀.StaysIn g1) : Cx w (A.deeper e) g1 L1 d :=
  ⟨A, base, env :: outer, e, p, loose, mean, mg, mb, B1, Around.frames_deeper B1.stack, hf, hk, X1, T1, hh, by show A.depth + 1 + d < _; omega, by show A.units + 3 + 8 * d < _; omega, hC.keeps k⟩
theorem setL_sub {led led' : Led} {a : Addr} {o : Obj} (h : ∀ p ∈ led, p ∈ led') : ∀ p ∈ setL led a o, p ∈ setL led' a o := fun p hp => by
  obtain ⟨q, hq, e⟩ := List.mem_map.mp hp
  exact List.mem_map.mpr ⟨q, h q hq, e⟩

abbrev PG : Program := PySem.Challenge.rw_il0135_01.row.prog
section
variable {w : World} {A : Around} {E : Value → Shared → Prop}
theorem missing_unfrozen {h₀ : Heap} {a dx L : Addr} {es : Array DictEntry} {n : Nat} {k : Str} {t : Tok} {led : Led} {m : Str → Option Value} {Q : Value → Shared → Prop} {s : Shared} (cx : Cx w A h₀ L 9) (F : Fr h₀ L s.heap m) (N : News h₀ L s.heap led)
    (ha : (a, nodeObj dx es n) ∈ led) (hdx : (dx, emptyDict) ∈ led) (hall : (es.all fun e => isExactStrKey e.key) = true) (hno : es.find? (fun e => e.key.isStr k) = none) (hsz : es.size ≤ 1000) (nm : (a == sysModules) = false)
    (hq : ∀ x dx' hs h' tk', Fr h₀ L h' m → News h₀ L h' ((x, nodeObj dx' #[] 0) :: (dx', emptyDict) :: setL led a (nodeObj dx (es.push ⟨hs, .str k t, .ref x⟩) (n + 1))) → (∀ p ∈ led, p.1 ≠ x ∧ p.1 ≠ dx') → dx' ≠ x → (x == sysModules) = false → Q (.ref x) { s with heap := h', toks := tk' }) :
    codeAny (model PG w) A (.call (.ref 148) ⟨[.ref a, .str k t], []⟩) (fun r s' => match r with | .ok (.ret v) => Q v s' | .ok _ => False | .error e => E e s') s := by
  obtain ⟨A₀, base, outer, env, p, loose, mean, mg, mb, B, hA, hf, hk, X, T, hh, hd, hu, hC⟩ := id cx
  (refine' ks_code_super ?k1 ?k2 ?k3 ?k4 ?k5 ?kA ?kF ?kK ?k6 ?k7 ?k8 ?k9 ?kB ?_ ?c5 ?c2 ?c3 ?c4; (case kA => assumption); (case kF => assumption); (case kK => assumption); (case k1 => k_asm); (case k2 => k_asm); (case k3 => k_asm); (case k4 => k_asm); (case k5 => k_asm); (case k6 => k_is); (case k7 => k_is); (case k8 => walk_at "room"); (case k9 => exact BindsTo.of_eq rfl); (case c5 => decide); (case kB => exact locs rfl); (case c2 => exact rfl); (case c3 => exact rfl); (case c4 => exact rfl); k_whole); intro g1 L1 h1 FG F1 N1 B1 X1 T1 lt1; (try dsimp only)
  refine ks_wpAt_execs_cons (ks_wpAt_Return_some (at_Call_Call (at_Call_Name (PySem.wpAt_of_wpAny ?_))))
  refine nameX_B F1 X1 (topRead_of T1) (by k_is) (by boot_by_name) (by decide) ?_
  simp only [backTo, backToKw, starEach, keywordEach, List.map_cons, List.map_nil, Bool.false_eq_true, if_false]
  refine at_callWith rfl (at_spliced (PySem.wpAt_of_wpAny ?_))
  refine nameX_L F1 (by rfl) ?_
  refine at_spliced (PySem.wpAt_of_wpAny (Constant_str ?_))
  refine at_spliced (at_Attribute ?_)
  have I1 : InstAt h1 a (nodeObj dx es n) 158 (some emptyDict) := ⟨(N1 _ ha).1, rfl, rfl, (N1 _ hdx).1⟩
  refine ks_node F1 X1 N1 T1 (by k_is) (by rfl) (by rfl) I1 (by k_is) (by rfl) (by first | rfl | decide +kernel) (by k_is) (by k_is) (by k_is) (by k_is) (by decide) (by rfl) (by rfl) (by rfl) (by rfl) (by decide +kernel) (by first | boot_by_name | rfl | kernel_rfl) ?_
  intro so h2 F2 N2 l2
  refine super_missing X1 F2.keep (N1 _ ha).2.2 (N2 _ (.head _)).1 (N2 _ (.tail _ ha)).1 ?_
  intro h3 tk3 st3 hb3
  obtain ⟨F3, N3, l3⟩ := ks_newsPush (s := { s with heap := h2 }) F2 N2 rfl hb3 st3
  refine at_spliced_nil ?_
  refine getattr_miss X1 F3.keep hh (N3 _ (.tail _ (.tail _ ha))).1 (N3 _ (.tail _ (.tail _ hdx))).1 ?_
  intro h4 tk4 st4
  refine PySem.wpAt_of_wpAny (callWith1 ?_)
  have F4 := fr_stays F3 st4
  have N4 := news_stays N3 st4
  refine nameX_L F4 (by rfl) ?_
  refine (keeper_bm (N4 _ (.head _)).1).here ⟨.inl rfl, ?_⟩
  refine wpAny_call (dd_missing (cx_deeper B1 rfl rfl X1 T1 hh (by omega) (by omega) hC FG.keep) F4 N4 (.tail _ (.tail _ ha)) (.head _) hall hno hsz nm ?_)
  intro x dx' hs h5 tk5 F5 N5 fr ne nmx
  refine leaveK_ F5 N5 fun F6 N6 => hq x dx' hs _ _ F6 (led_sub N6 fun p hp => ?_) (fun p hp => fr p (.tail _ (.tail _ hp))) ne nmx
  rcases List.mem_cons.mp hp with rfl | hp
  · exact .head _
  rcases List.mem_cons.mp hp with rfl | hp
  · exact .tail _ (.head _)
  · exact .tail _ (.tail _ (setL_sub (fun p hp => .tail _ (.tail _ hp)) p hp))
end

section
variable {prog : Program} {w : World} {A : Around} {E : Value → Shared → Prop}
/-- a subscript read through a built-in __getitem__ -/
theorem tail_gen {h : Heap} {g : Array GenState} {d : Drawn} {tk : Nat} {os : OsState} {value slice : Expr} {o i : Value} {ops : List Value} {id : String} {Q : Value → Shared → Prop} (hl : Looks (model prog w) h (specialOf o "__getitem__") (some (.builtin id)))
    (hg : wpAny (model prog w) A (getItem o i) Q E ⟨h, g, d, tk, os⟩) (hs : subscripted slice false o i = operate ops (getItem o i)) : wpAny (model prog w) A (subscriptTail value slice o i) Q E ⟨h, g, d, tk, os⟩ := by
  unfold subscriptTail getitemInPython
  refine wpAny_bind (wpAny_bind (hl.at (wpAny_pure (wpAny_bind ?_))))
  rw [hs]
  exact wpAny_operating (wpAny_mono hg (fun r s₃ h₃ => wpAny_bind (wpAny_letTemporaryGo (wpAny_pure h₃))) fun _ _ x => x)
theorem cx_X {h₀ : Heap} {L : Addr} {d : Nat} (cx : Cx w A h₀ L d) : (Mine.hd.heap_1 w.params).In h₀ := by
  obtain ⟨A₀, base, outer, env, p, loose, mean, mg, mb, B, hA, hf, hk, X, T, hh, hd, hu, hC⟩ := cx; exact X
/-- a node as the ledger bears it, its dict not frozen -/
theorem node_sub {h₀ : Heap} {a dx L : Addr} {es : Array DictEntry} {n : Nat} {k : Str} {t : Tok} {led : Led} {m : Str → Option Value} {Q : Value → Shared → Prop} {s : Shared} (cx : Cx w A h₀ L 10) (F : Fr h₀ L s.heap m) (N : News h₀ L s.heap led)
    (ha : (a, nodeObj dx es n) ∈ led) (hdx : (dx, emptyDict) ∈ led) (hall : (es.all fun e => isExactStrKey e.key) = true) (hsz : es.size ≤ 1000) (nm : (a == sysModules) = false)
    (hit : ∀ e h' tk', es.find? (fun e => e.key.isStr k) = some e → Fr h₀ L h' m → News h₀ L h' led → Q e.val { s with heap := h', toks := tk' })
    (miss : es.find? (fun e => e.key.isStr k) = none → ∀ x dx' hs h' tk', Fr h₀ L h' m → News h₀ L h' ((x, nodeObj dx' #[] 0) :: (dx', emptyDict) :: setL led a (nodeObj dx (es.push ⟨hs, .str k t, .ref x⟩) (n + 1))) → (∀ p ∈ led, p.1 ≠ x ∧ p.1 ≠ dx') → dx' ≠ x → (x == sysModules) = false → Q (.ref x) { s with heap := h', toks := tk' }) :
    wpAny (model PG w) A (getItem (.ref a) (.str k t)) Q E s := by
  obtain ⟨h, g, d, tk, os⟩ := s
  refine node_get (cx_X cx) F.keep nm (N _ ha).1 hall (fun v hv => ?_) fun hno => ?_
  · obtain ⟨e, he, rfl⟩ := Option.map_eq_some_iff.mp hv
    exact hit e h _ he F N
  · exact missing_unfrozen (s := ⟨h, g, d, tk + 1, os⟩) (Cx.in1 cx) F N ha hdx hall hno hsz nm (miss hno)
theorem sp_getitem {h₀ h : Heap} {a dx : Addr} {es : Array DictEntry} {n : Nat} (X : (Mine.hd.heap_1 w.params).In h₀) (st : h₀.StaysIn h) (ha : h.get? a = some (nodeObj dx es n)) : Looks (model prog w) h (specialOf (.ref a) "__getitem__") (some (.builtin "dict.__getitem__")) :=
  (typeAt ha rfl).andThen ((Looks.of_peek (M := model prog w) X (pk_getitem w prog)).keeps st)
/-- node['whole'] = number and its like: a key that may stand there or not -/
theorem bi_setitem : Bi "dict.__setitem__" Builtin.«dict.__setitem__» "dict" "__setitem__" where
  plain := by decide +kernel
  entry := entryFor_of_tree (by kernel_rfl)
  kind := by first | exact .inl (by decide +kernel) | exact .inr (by decide +kernel)
  split := by decide +kernel
theorem pk_setitem (w : World) (prog : Program) : peek (Mine.hd.heap_1 w.params) ⟨prog, w.params⟩ (typeLookup (.ref 158) "__setitem__") = some (some (.builtin "dict.__setitem__")) := by kernel_rfl
theorem node_set {h₀ : Heap} {a dx L : Addr} {es : Array DictEntry} {n : Nat} {k : Str} {t : Tok} {v : Value} {led : Led} {m : Str → Option Value} {Q : Unit → Shared → Prop} {s : Shared} (cx : Cx w A h₀ L 10) (F : Fr h₀ L s.heap m) (N : News h₀ L s.heap led)
    (ha : (a, nodeObj dx es n) ∈ led) (hall : (es.all fun e => isExactStrKey e.key) = true) (hsz : es.size ≤ 1000)
    (there : ∀ i h' tk', es.findIdx? (fun e => e.key.isStr k) = some i → Fr h₀ L h' m → News h₀ L h' (setL led a (nodeObj dx (es.modify i fun e => { e with val := v }) n)) → Q () { s with heap := h', toks := tk' })
    (new : es.findIdx? (fun e => e.key.isStr k) = none → ∀ hs h' tk', Fr h₀ L h' m → News h₀ L h' (setL led a (nodeObj dx (es.push ⟨hs, .str k t, v⟩) (n + 1))) → Q () { s with heap := h', toks := tk' }) :
    wpAny (model prog w) A (setItem (.ref a) (.str k t) v) Q E s := by
  obtain ⟨h, g, d, tk, os⟩ := s
  have X := cx_X cx
  have st : h₀.StaysIn h := F.keep
  have hn := (N _ ha).1
  have t1 : Looks (model prog w) h (typeOf (.ref a)) (.ref 158) := typeAt hn rfl
  have L1 := Looks.of_peek (M := model prog w) X (pk_setitem w prog)
  have L2 := Looks.of_peek (M := model prog w) X (pk_noSeq w prog)
  have L3 := Looks.of_peek (M := model prog w) X (pk_subDict w prog)
  have L4 := Looks.of_peek (M := model prog w) X (pk_subOD w prog)
  have b1 : Looks (model prog w) h (bindSpecial (.builtin "dict.__setitem__") (.ref a)) (.builtin "dict.__setitem__", [.ref a]) := Looks.of_pure (by kernel_rfl)
  unfold setItem callSpecial? specialOf sequenceKey
  repeat walk_at "lkk"
  refine bi_setitem.call (t1.andThen (L3.keeps st)) (by unfold argsOk; kernel_rfl) ?_
  unfold Builtin.«dict.__setitem__» dictSet dictSetHashed
  repeat (first | with_reducible refine wpAny_pyHash_str ?_ | with_reducible refine KTD.kt_dictFind_strs hn rfl hall ?_ | walk_at "lkk")
  cases q : es.findIdx? (fun e => e.key.isStr k) with
  | some i =>
    repeat (first | with_reducible refine wpAny_updateDict hn rfl ?_ (by simp) | walk_at "lkk")
    obtain ⟨F2, N2⟩ := upd_led (f := Obj.mapDict fun xs => xs.modify i fun e => { e with val := v }) (o' := nodeObj dx (es.modify i fun e => { e with val := v }) n) F N ha rfl rfl
    exact there i _ _ q F2 N2
  | none =>
    repeat (first | with_reducible refine wpAny_updateDictKeys hn rfl ?_ (by rw [sizeLine_eq]; omega) | walk_at "lkk")
    obtain ⟨F2, N2⟩ := upd_led (f := Obj.mapDictKeys fun xs => xs.push { hash := hashStr w k, key := Value.str k t, val := v }) (o' := nodeObj dx (es.push ⟨hashStr w k, .str k t, v⟩) (n + 1)) F N ha rfl rfl
    exact new q _ _ _ F2 N2
end

theorem bi_dcontains : Bi "dict.__contains__" Builtin.«dict.__contains__» "dict" "__contains__" where
  plain := by decide +kernel
  entry := entryFor_of_tree (by kernel_rfl)
  kind := by first | exact .inl (by decide +kernel) | exact .inr (by decide +kernel)
  split := by decide +kernel
theorem bi_dlen : Bi "dict.__len__" Builtin.«dict.__len__» "dict" "__len__" where
  plain := by decide +kernel
  entry := entryFor_of_tree (by kernel_rfl)
  kind := by first | exact .inl (by decide +kernel) | exact .inr (by decide +kernel)
  split := by decide +kernel
theorem pk_dcontains (w : World) (prog : Program) : peek (Mine.hd.heap_1 w.params) ⟨prog, w.params⟩ (typeLookup (.ref 158) "__contains__") = some (some (.builtin "dict.__contains__")) := by kernel_rfl
theorem pk_dlen (w : World) (prog : Program) : peek (Mine.hd.heap_1 w.params) ⟨prog, w.params⟩ (typeLookup (.ref 158) "__len__") = some (some (.builtin "dict.__len__")) := by kernel_rfl
theorem pk_findIn {es : Array DictEntry} {k : Str} : es.find? (fun e => e.key.isStr k) = none ↔ es.findIdx? (fun e => e.key.isStr k) = none := by
  rw [Array.find?_eq_none, Array.findIdx?_eq_none_iff]; simp
theorem chk_len (a : Value) : checkBuiltinCall "len" ⟨[a], []⟩ = pure () := by kernel_rfl
theorem e_len : entryFor table "len" = some Builtin.«len» := entryFor_of_tree (by kernel_rfl)
section
variable {prog : Program} {w : World} {A : Around} {E : Value → Shared → Prop}
theorem node_in {h₀ : Heap} {a dx L : Addr} {es : Array DictEntry} {n : Nat} {k : Str} {t : Tok} {d' : Nat} {led : Led} {m : Str → Option Value} {Q : Bool → Shared → Prop} {s : Shared} (cx : Cx w A h₀ L d') (F : Fr h₀ L s.heap m) (N : News h₀ L s.heap led)
    (ha : (a, nodeObj dx es n) ∈ led) (hall : (es.all fun e => isExactStrKey e.key) = true) (nm : (a == sysModules) = false)
    (hq : ∀ tk', Q (es.find? (fun e => e.key.isStr k)).isSome { s with toks := tk' }) :
    wpAny (model prog w) A (contains (.ref a) (.str k t)) Q E s := by
  obtain ⟨h, g, d, tk, os⟩ := s
  have X := cx_X cx
  have st : h₀.StaysIn h := F.keep
  have hn := (N _ ha).1
  have t1 : Looks (model prog w) h (typeOf (.ref a)) (.ref 158) := typeAt hn rfl
  have L1 := Looks.of_peek (M := model prog w) X (pk_dcontains w prog)
  have L3 := Looks.of_peek (M := model prog w) X (pk_subDict w prog)
  have b1 : Looks (model prog w) h (bindSpecial (.builtin "dict.__contains__") (.ref a)) (.builtin "dict.__contains__", [.ref a]) := Looks.of_pure (by kernel_rfl)
  unfold contains callSpecialUnlessNone? specialOf
  repeat walk_at "lkk"
  refine bi_dcontains.call (t1.andThen (L3.keeps st)) (by unfold argsOk; kernel_rfl) ?_
  unfold Builtin.«dict.__contains__»
  repeat (first | with_reducible refine dictGet_str hn rfl hall ?_ | walk_at "lkk")
  cases q : es.find? (fun e => e.key.isStr k) with
  | some e =>
    rw [q] at hq
    repeat walk_at "lkk"
    exact hq _
  | none =>
    rw [q] at hq
    unfold Dict.pendingKey?
    repeat walk_at "lkk"
    rw [if_neg (by rw [nm]; exact Bool.false_ne_true)]
    repeat walk_at "lkk"
    exact hq _
theorem node_len {h₀ : Heap} {a dx L : Addr} {es : Array DictEntry} {n : Nat} {d' : Nat} {led : Led} {m : Str → Option Value} {Q : Value → Shared → Prop} {s : Shared} (cx : Cx w A h₀ L d') (F : Fr h₀ L s.heap m) (N : News h₀ L s.heap led)
    (ha : (a, nodeObj dx es n) ∈ led) (nm : (a == sysModules) = false) (hsz : es.size ≤ 1000)
    (hq : ∀ i tk', Q (.int es.size i) { s with toks := tk' }) :
    wpAny (model prog w) A (call (.builtin "len") [.ref a]) Q E s := by
  obtain ⟨h, g, d, tk, os⟩ := s
  have X := cx_X cx
  have st : h₀.StaysIn h := F.keep
  have hn := (N _ ha).1
  have t1 : Looks (model prog w) h (typeOf (.ref a)) (.ref 158) := typeAt hn rfl
  have L1 := Looks.of_peek (M := model prog w) X (pk_dlen w prog)
  have L3 := Looks.of_peek (M := model prog w) X (pk_subDict w prog)
  have L4 := Looks.of_peek (M := model prog w) X (pk_subOD w prog)
  have b1 : Looks (model prog w) h (bindSpecial (.builtin "dict.__len__") (.ref a)) (.builtin "dict.__len__", [.ref a]) := Looks.of_pure (by kernel_rfl)
  refine wpAny_call (codeAny_call_builtin (by decide +kernel) e_len ?_)
  rw [chk_len]
  refine wpAny_pure ?_
  unfold Builtin.«len» callSpecial? specialOf
  repeat walk_at "lkk"
  refine bi_dlen.call (t1.andThen (L3.keeps st)) (by unfold argsOk; kernel_rfl) ?_
  unfold Builtin.«dict.__len__»
  repeat (first | with_reducible refine wpAny_pendingCount_other nm ?_ | walk_at "lkk")
  rw [if_neg (by have : (2 : Int) ^ 63 = 9223372036854775808 := by decide
                 omega)]
  repeat walk_at "lkk"
  have e0 : ((es.size : Int) + ((0 : Nat) : Int)) = (es.size : Int) := by omega
  rw [e0]
  exact hq _ _
end

theorem rf_node (a : Value) : refuseLoop a "__setattr__" [.ref 158, .type "collections.defaultdict", .type "dict", .type "object"] = pure () := by kernel_rfl
theorem pk_setattr (w : World) (prog : Program) : peek (Mine.hd.heap_1 w.params) ⟨prog, w.params⟩ (typeLookup (.ref 158) "__setattr__") = some (some (.builtin "object.__setattr__")) := by kernel_rfl
theorem pk_frozenOn (w : World) (prog : Program) : peek (Mine.hd.heap_1 w.params) ⟨prog, w.params⟩ (typeLookup (.ref 158) "_frozen") = some none := by kernel_rfl
theorem pk_subObj (w : World) (prog : Program) : peek (Mine.hd.heap_1 w.params) ⟨prog, w.params⟩ (isSubtype (.ref 158) (.type "object")) = some true := by kernel_rfl
theorem bi_osetattr : Bi "object.__setattr__" Builtin.«object.__setattr__» "object" "__setattr__" where
  plain := by decide +kernel
  entry := entryFor_of_tree (by kernel_rfl)
  kind := by first | exact .inl (by decide +kernel) | exact .inr (by decide +kernel)
  split := by decide +kernel
theorem cd158d (w : World) : ∃ cd, clsIn (Mine.hd.heap_1 w.params) 158 = some cd ∧ cd.hasDict = true := ⟨_, by k_is, by decide +kernel⟩
section
variable {prog : Program} {w : World} {A : Around} {E : Value → Shared → Prop}
theorem node_setattr {h₀ : Heap} {a dx L : Addr} {es : Array DictEntry} {n : Nat} {d' : Nat} {led : Led} {m : Str → Option Value} {Q : Unit → Shared → Prop} {s : Shared} (cx : Cx w A h₀ L d') (F : Fr h₀ L s.heap m) (N : News h₀ L s.heap led)
    (ha : (a, nodeObj dx es n) ∈ led) (hdx : (dx, emptyDict) ∈ led) {fn : Addr}
    (hq : ∀ hs tf h' tk', Fr h₀ L h' m → News h₀ L h' (setL led dx (frzObj hs tf fn)) → Q () { s with heap := h', toks := tk' }) :
    wpAny (model prog w) A (setAttr (.ref a) "_frozen" (.ref fn)) Q E s := by
  obtain ⟨h, g, d, tk, os⟩ := s
  have X := cx_X cx
  have st : h₀.StaysIn h := F.keep
  have hn := (N _ ha).1
  have hdn := (N _ hdx).1
  have t1 : Looks (model prog w) h (typeOf (.ref a)) (.ref 158) := typeAt hn rfl
  have L1 := Looks.of_peek (M := model prog w) X (pk_setattr w prog)
  have L2 := Looks.of_peek (M := model prog w) X (pk_frozenOn w prog)
  have L3 := Looks.of_peek (M := model prog w) X (pk_subObj w prog)
  have L4 := Looks.of_peek (M := model prog w) X (pk_mro w prog)
  have L5 : Looks (model prog w) h (refuseLoop (.ref a) "__setattr__" [.ref 158, .type "collections.defaultdict", .type "dict", .type "object"]) () := Looks.of_pure (rf_node _)
  obtain ⟨cd, hcd, hcdd⟩ := cd158d w
  have L6 := looks_clsIn (M := model prog w) X hcd
  have b1 : Looks (model prog w) h (bindSpecial (.builtin "object.__setattr__") (.ref a)) (.builtin "object.__setattr__", [.ref a]) := Looks.of_pure (by kernel_rfl)
  unfold setAttr callSpecial? specialOf
  repeat walk_at "lkk"
  refine bi_osetattr.call (t1.andThen (L3.keeps st)) (by unfold argsOk; kernel_rfl) ?_
  show wpAny _ _ (Builtin.«object.__setattr__» ⟨[Value.ref a, Value.str "_frozen" tk, Value.ref fn], []⟩) _ _ _
  rw [osa_eq, refuse_eq]
  repeat walk_at "lkk"
  rw [hcdd]
  unfold ObjectAttr.storeInDict nsSet
  repeat walk_at "lkk"
  generalize (if (Str.ofString "_frozen").cps.isEmpty = true then (0 : Int) else reduceHash ((model prog w).w.params.strHash (Str.ofString "_frozen").cps)) = hs
  have e1 : Obj.putName "_frozen" hs (.str "_frozen" (tk + 1)) (.ref fn) emptyDict = frzObj hs (tk + 1) fn := by rfl
  obtain ⟨F2, N2⟩ := upd_led (f := Obj.putName "_frozen" hs (.str "_frozen" (tk + 1)) (.ref fn)) F N hdx e1 rfl
  refine nd_update hdn ?_
  have hdn2 := (N2 _ (mem_setL_self hdx)).1
  repeat (first | with_reducible refine wpAny_lookBehind hdn2 rfl ?_ | walk_at "lkk")
  exact hq _ _ _ _ F2 N2
end

theorem pk_freeze (w : World) (prog : Program) : peek (Mine.hd.heap_1 w.params) ⟨prog, w.params⟩ (typeLookup (.ref 158) "freeze") = some (some (.ref 155)) := by kernel_rfl
theorem pk_tyfn (w : World) (prog : Program) : peek (Mine.hd.heap_1 w.params) ⟨prog, w.params⟩ (typeOf (.ref 155)) = some (.type "function") := by kernel_rfl
theorem pk_factory (w : World) (prog : Program) : peek (Mine.hd.heap_1 w.params) ⟨prog, w.params⟩ (typeLookup (.ref 158) "default_factory") = some (some (.builtin "collections.defaultdict.default_factory")) := by kernel_rfl
theorem canon_ddGa : (Manifest.canonical "collections.defaultdict.__getattribute__" != "object.__getattribute__") = false := by decide +kernel
theorem fo_freeze (w : World) : findObj (Mine.hd.heap_1 w.params) 158 (some emptyDict) "freeze" = some (.bind (.builtin "function.__get__") (.ref 155)) := by kernel_rfl
section
variable {prog : Program} {w : World} {A : Around} {E : Value → Shared → Prop}
theorem node_method {h₀ : Heap} {a dx L : Addr} {es : Array DictEntry} {n : Nat} {d' : Nat} {led : Led} {m : Str → Option Value} {pl : Sem Bool} {Q : Value × List Value → Shared → Prop} {s : Shared} (cx : Cx w A h₀ L d') (F : Fr h₀ L s.heap m) (N : News h₀ L s.heap led)
    (ha : (a, nodeObj dx es n) ∈ led) (hdx : (dx, emptyDict) ∈ led)
    (hq : ∀ tk', Q (.ref 155, [.ref a]) { s with toks := tk' }) :
    wpAny (model prog w) A (getMethod (.ref a) "freeze" pl) Q E s := by
  obtain ⟨h, g, d, tk, os⟩ := s
  have X := cx_X cx
  have st : h₀.StaysIn h := F.keep
  have hn := (N _ ha).1
  have t1 : Looks (model prog w) h (typeOf (.ref a)) (.ref 158) := typeAt hn rfl
  have L1 := Looks.of_peek (M := model prog w) X (pk_ga w prog)
  have L2 := Looks.of_peek (M := model prog w) X (pk_gahook w prog)
  have L3 := Looks.of_peek (M := model prog w) X (pk_freeze w prog)
  have L4 := Looks.of_peek (M := model prog w) X (pk_tyfn w prog)
  have L7 : Looks (model prog w) h (nsGet dx "freeze") none := (Looks.ld (N _ hdx).1).andThen (Looks.of_pure (nsLook_of rfl))
  unfold getMethod specialOf
  repeat walk_at "lkk"
  exact hq _
theorem fo_factory (w : World) (od : Obj) : findObj (Mine.hd.heap_1 w.params) 158 (some od) "default_factory" = some (.bind (.builtin "member_descriptor.__get__") (.builtin "collections.defaultdict.default_factory")) := by kernel_rfl
theorem e_factory : entryFor table "collections.defaultdict.default_factory" = some Builtin.«collections.defaultdict.default_factory» := entryFor_of_tree (by kernel_rfl)
theorem type_factory : typeOf (.builtin "collections.defaultdict.default_factory") = pure (.type "member_descriptor") := by show builtinType _ = _; rw [builtinType_eq_fast]; kernel_rfl
theorem node_factory {h₀ : Heap} {a dx L : Addr} {es : Array DictEntry} {n : Nat} {d' : Nat} {od : Obj} {led : Led} {m : Str → Option Value} {pl : Sem Bool} {Q : Value × List Value → Shared → Prop} {s : Shared} (cx : Cx w A h₀ L d') (F : Fr h₀ L s.heap m) (N : News h₀ L s.heap led)
    (ha : (a, nodeObj dx es n) ∈ led) (hdx : (dx, od) ∈ led)
    (hq : ∀ tk', Q (.ref 284, []) { s with toks := tk' }) :
    wpAny (model prog w) A (getMethod (.ref a) "default_factory" pl) Q E s := by
  obtain ⟨h, g, d, tk, os⟩ := s
  have X := cx_X cx
  have st : h₀.StaysIn h := F.keep
  have hn := (N _ ha).1
  have t1 : Looks (model prog w) h (typeOf (.ref a)) (.ref 158) := typeAt hn rfl
  have L1 := Looks.of_peek (M := model prog w) X (pk_ga w prog)
  have L2 := Looks.of_peek (M := model prog w) X (pk_gahook w prog)
  have L3 := Looks.of_peek (M := model prog w) X (pk_factory w prog)
  have L4 : Looks (model prog w) h (typeOf (.builtin "collections.defaultdict.default_factory")) (.type "member_descriptor") := Looks.of_pure type_factory
  have I : InstAt h a (nodeObj dx es n) 158 (some od) := ⟨hn, rfl, rfl, (N _ hdx).1⟩
  have L5 : Looks (model prog w) h (ObjectAttr.find (.ref a) (.ref 158) "default_factory") (.bind (.builtin "member_descriptor.__get__") (.builtin "collections.defaultdict.default_factory")) := looks_find (X.keeps st) I (fo_factory w od)
  have L6 := Looks.of_peek (M := model prog w) X (pk_subDD w prog)
  have b1 : Looks (model prog w) h (bindSpecial (.builtin "collections.defaultdict.__getattribute__") (.ref a)) (.builtin "collections.defaultdict.__getattribute__", [.ref a]) := Looks.of_pure (by kernel_rfl)
  unfold getMethod specialOf getAttr getAttrBy
  repeat walk_at "lkk"
  refine bi_ddGa.call (t1.andThen (L6.keeps st)) (by unfold argsOk; kernel_rfl) ?_
  unfold Builtin.«object.__getattribute__»
  repeat walk_at "lkk"
  refine codeAny_call_builtin KF.slot_mem.plain KF.entry_mem (KF.slot_mem.check _ _ _ _ _ _ _ _ type_factory (KF.args_mem _ _ _) ?_)
  unfold Builtin.«member_descriptor.__get__» Getset_descriptor.descrGet
  rw [dga_obj]
  refine wpAny_bind (wpAny_pure ?_)
  have L10 : Looks (model prog w) h (isSubtype (.ref 158) (.type (".".intercalate ("collections.defaultdict.default_factory".cutAt '.').dropLast))) true := by
    rw [show ".".intercalate ("collections.defaultdict.default_factory".cutAt '.').dropLast = "collections.defaultdict" from by decide +kernel]
    exact L6.keeps st
  unfold Getset_descriptor.descrGetter
  repeat walk_at "lkk"
  refine ⟨Code.quiet_builtin _ (by decide +kernel), codeAny_builtin e_factory ?_⟩
  have f0 : Looks (model prog w) h (slotAt a 0) (some (.ref 284)) := (Looks.ld hn).andThen (Looks.of_pure rfl)
  unfold Builtin.«collections.defaultdict.default_factory»
  repeat walk_at "lkk"
  exact hq _
end

/-- a fresh tree in the ledger behind `led` -/
def NewTree (led : Led) (v : Value) (led' : Led) : Prop := ∃ x dx, v = .ref x ∧ (x, nodeObj dx #[] 0) ∈ led' ∧ (dx, emptyDict) ∈ led' ∧ (∀ p ∈ led, p ∈ led') ∧ (∀ p ∈ led, p.1 ≠ x ∧ p.1 ≠ dx) ∧ dx ≠ x ∧ (x == sysModules) = false
def lamQual : Str := "FreezableDefaultDict.freeze" ++ ".<locals>." ++ "<lambda>"
/-- a call of the function `o` at `fn` gives a fresh tree -/
def GoodFrz (w : World) (o oc oc' : Obj) (fn cl c' a : Addr) : Prop := (∃ fd, o.data = .func fd) ∧ oc.data = .cell (some (.ref a)) ∧ (∃ vs t, oc'.data = .fields vs ∧ vs[1]? = some (.str lamQual t)) ∧ ∀ led : Led, (fn, o) ∈ led → (cl, oc) ∈ led → (c', oc') ∈ led → (∃ dx es n od, (a, nodeObj dx es n) ∈ led ∧ (dx, od) ∈ led) → ∀ k, DoesC PG w 8 (.ref fn) [k] led (NewTree led)
/-- the code table of freeze's one inner function -/
def TabGood (led : Led) : Prop := ∃ ps, (150, tabObj ps) ∈ led ∧ (ps = #[] ∨ ∃ c' oc' vs t, ps = #[rawInt 71, rawInt 23, .ref c'] ∧ (c', oc') ∈ led ∧ oc'.data = .fields vs ∧ vs[1]? = some (.str lamQual t))

theorem callWith0 {M : Model} {A : Around} {E : Value → Shared → Prop} {s : Shared} {pos : Pos} {Q : Value → Shared → Prop} {f : Value} (h : wpAny M A (keeperOf f) (fun k s₂ => (k = .machine ∨ k = .frame) ∧ wpAny M A (call f []) Q E s₂) E s) :
    wpAny M A (callWith pos f [] [] []) Q E s := by
  unfold callWith
  refine wpAny_bind (wpAny_holding ?_)
  have e : evalArgs f true [] [] = pure ⟨[], []⟩ := rfl
  rw [e]
  refine wpAny_pure (wpAny_bind (wpAny_standAt ?_))
  simp only [List.any_nil, Bool.or_false]
  have tail : ∀ {t : Sem Value} {s₁ : Shared}, wpAny M A t Q E s₁ → wpAny M A (t >>= fun r => holding [r] point >>= fun _ => pure r) Q E s₁ :=
    fun ht => wpAny_bind (wpAny_mono ht (fun r s₂ hr => wpAny_bind (wpAny_holding (wpAny_point (wpAny_pure hr)))) fun _ _ x => x)
  refine wpAny_bind (wpAny_mono h (fun k s₂ h₂ => ?_) fun _ _ z => z)
  obtain ⟨rfl | rfl, h₂⟩ := h₂
  · exact tail h₂
  · exact tail (wpAny_keep h₂)
theorem pk_keeper284 (w : World) (prog : Program) : ∃ k, peek (Mine.hd.heap_1 w.params) ⟨prog, w.params⟩ (keeperOf (.ref 284)) = some k ∧ (k = .machine ∨ k = .frame) := ⟨.frame, by kernel_rfl, .inr rfl⟩
section
variable {w : World} {A : Around} {E : Value → Shared → Prop}
theorem freeze_call {h₀ : Heap} {a dx L : Addr} {es : Array DictEntry} {n : Nat} {led : Led} {m : Str → Option Value} {Q : Value → Shared → Prop} {s : Shared} (cx : Cx w A h₀ L 6) (F : Fr h₀ L s.heap m) (N : News h₀ L s.heap led)
    (ha : (a, nodeObj dx es n) ∈ led) (hdx : (dx, emptyDict) ∈ led) (htab : TabGood led)
    (hq : ∀ fn cl c' o oc oc' hs tf led' h' tk', Fr h₀ L h' m → News h₀ L h' led' → (dx, frzObj hs tf fn) ∈ led' → (fn, o) ∈ led' → (cl, oc) ∈ led' → (c', oc') ∈ led' → GoodFrz w o oc oc' fn cl c' a → TabGood led' →
      (∀ p ∈ led, p.1 ≠ dx → p.1 ≠ 150 → p ∈ led') → Q .none { s with heap := h', toks := tk' }) :
    codeAny (model PG w) A (.call (.ref 155) ⟨[.ref a], []⟩) (fun r s' => match r with | .ok (.ret v) => Q v s' | .ok _ => False | .error e => E e s') s := by
  obtain ⟨A₀, base, outer, env, p, loose, mean, mg, mb, B, hA, hf, hk, X, T, hh, hd, hu, hC⟩ := id cx
  obtain ⟨ps, htab, hps⟩ := htab
  (refine' code_defC ?k1 ?k2 ?k3 ?k4 ?k5 ?kA ?kF ?kK ?k6 ?k7 ?k8 ?k9 ?kB ?kD ?_ ?c2 ?c3 ?c4; (case kA => first | assumption | exact rfl); (case kF => first | assumption | exact rfl); (case kK => first | assumption | exact rfl); (case k1 => k_asm); (case k2 => k_asm); (case k3 => k_asm); (case k4 => k_asm); (case k5 => k_asm); (case k6 => k_is); (case k7 => k_is); (case k8 => walk_at "room"); (case k9 => exact BindsTo.of_eq rfl); (case kB => exact rfl); (case kD => decide +kernel); (case c2 => exact rfl); (case c3 => exact rfl); (case c4 => exact rfl); k_whole); intro g1 L1 h1 tk1 cells1 FG F1 N1 Y1 B1 X1 T1 lt1; (try dsimp only)
  k_cells Y1
  rename_i oc hcell
  have hcell : oc.data = .cell (some (.ref a)) := hcell
  have C1 : CodeHd g1 154 150 := hC.keeps FG.keep
  have c150 : L1 + 1 ≠ 150 := led_ne N1 (.head _) (.tail _ htab) (by intro e; rw [e] at hcell; cases hcell)
  have N2 : News g1 L1 h1 ((150, tabObj ps) :: (L1 + 1, oc) :: led.filter fun p => decide (p.1 ≠ 150)) := led_sub N1 fun p hp => by
    rcases List.mem_cons.mp hp with rfl | hp
    · exact .tail _ htab
    rcases List.mem_cons.mp hp with rfl | hp
    · exact .head _
    · exact .tail _ (List.mem_filter.mp hp).1
  have hne : ∀ p ∈ (L1 + 1, oc) :: led.filter (fun p => decide (p.1 ≠ 150)), p.1 ≠ 150 := fun p hp => by
    rcases List.mem_cons.mp hp with rfl | hp
    · exact c150
    · exact of_decide_eq_true (List.mem_filter.mp hp).2
  have d150 : dx ≠ 150 := led_ne N1 (.tail _ hdx) (.tail _ htab) (by intro e; cases e)
  have a150 : a ≠ 150 := led_ne N1 (.tail _ ha) (.tail _ htab) (by intro e; cases e)
  have ha2 : (a, nodeObj dx es n) ∈ led.filter fun p => decide (p.1 ≠ 150) := List.mem_filter.mpr ⟨ha, decide_eq_true a150⟩
  have hdx2 : (dx, emptyDict) ∈ led.filter fun p => decide (p.1 ≠ 150) := List.mem_filter.mpr ⟨hdx, decide_eq_true d150⟩
  walk1
  walk1
  refine kla_eval rfl ?_
  rcases hps with rfl | ⟨c', oc', vs, t, rfl, hc', hd', hv'⟩
  · refine kla_nest F1 N2 T1 C1 rfl (UpdF.head hne) trivial rfl rfl ?_
    intro f c' oc' vs t ctv h2 tk2 F2 N3 d1 d2 l1 l2
    refine nameX_C N3 rfl (.tail _ (.tail _ (.tail _ (.head _)))) hcell ?_
    refine node_setattr (cx_deeper B1 rfl rfl X1 T1 hh (by omega) (by omega) hC FG.keep (d := 1)) F2 N3 (.tail _ (.tail _ (.tail _ (.tail _ ha2)))) (.tail _ (.tail _ (.tail _ (.tail _ hdx2)))) ?_
    intro hs tf h3 tk3 F3 N4
    have n1 : f ≠ dx := led_ne N3 (.head _) (.tail _ (.tail _ (.tail _ (.tail _ hdx2)))) (by intro e; have := congrArg Obj.data e; cases this)
    have n2 : c' ≠ dx := led_ne N3 (.tail _ (.head _)) (.tail _ (.tail _ (.tail _ (.tail _ hdx2)))) (by intro e; rw [e] at d1; cases d1)
    have n3 : L1 + 1 ≠ dx := led_ne N3 (.tail _ (.tail _ (.tail _ (.head _)))) (.tail _ (.tail _ (.tail _ (.tail _ hdx2)))) (by intro e; rw [e] at hcell; cases hcell)
    refine wpAny_execs_nil (leaveK_ F3 N4 fun F5 N5 => hq f (L1 + 1) c' _ oc oc' hs tf _ _ _ F5 N5 (mem_setL_self (.tail _ (.tail _ (.tail _ (.tail _ hdx2))))) (mem_setL (.head _) n1) (mem_setL (.tail _ (.tail _ (.tail _ (.head _)))) n3) (mem_setL (.tail _ (.head _)) n2) ?_ ?_ ?_)
    · refine ⟨⟨_, rfl⟩, hcell, ⟨vs, t, d1, d2⟩, ?_⟩
      intro led2 hf2 hcl2 hc2 hn2 k A' h0' L' m' s' Q' E' cx' F' N' hQ'
      obtain ⟨dx2, es2, n2', od2, ha2', hdx2'⟩ := hn2
      clear F1 N1 B1 X1 T1 F3 N4 FG B X T hC C1 N2 F2 N3 hq cx F N
      obtain ⟨A₀, base, outer, env, p, loose, mean, mg, mb, B, hA, hf, hk, X, T, hh, hd, hu, hC⟩ := cx'
      refine kla_code B F' X N' T hA hf hk hf2 ⟨c', oc', vs, t, rfl, (N' _ hc2).1, d1, d2⟩ (by omega) rfl (locs rfl) (fun g1 L1' h1' FG F1 N1 B1 X1 T1 => ?_) rfl rfl rfl (by decide)
      walk1
      refine nameX_F N1 rfl hcl2 hcell ?_
      refine node_factory (cx_deeper B1 rfl rfl X1 T1 hh (by omega) (by omega) hC FG.keep (d := 4)) F1 N1 ha2' hdx2' ?_
      intro tk4
      simp only [backTo, starEach, List.map_nil]
      refine callWith0 ?_
      obtain ⟨kk, hpk, hkk⟩ := pk_keeper284 w PG
      refine lookFrom (Looks.of_peek X1 hpk) F1.keep ⟨hkk, ?_⟩
      refine tree_call.does _ _ _ _ _ _ _ (cx_deeper B1 rfl rfl X1 T1 hh (by omega) (by omega) hC FG.keep (d := 4)) F1 N1 ?_
      rintro v led3 h3 tk3 F3 N3 ⟨x, dx3, rfl, rfl, fr, ne, nm⟩
      exact leaveK_ F3 N3 fun F4 N4 => hQ' _ _ _ _ F4 N4 ⟨x, dx3, rfl, .head _, .tail _ (.head _), fun p hp => .tail _ (.tail _ hp), fr, ne, nm⟩
    · exact ⟨_, mem_setL (.tail _ (.tail _ (.head _))) (Ne.symm d150), .inr ⟨c', oc', vs, t, rfl, mem_setL (.tail _ (.head _)) n2, d1, d2⟩⟩
    · exact fun p hp h1 h2 => mem_setL (.tail _ (.tail _ (.tail _ (.tail _ (List.mem_filter.mpr ⟨hp, decide_eq_true h2⟩))))) h1
  · have hc2 : (c', oc') ∈ led.filter fun p => decide (p.1 ≠ 150) := List.mem_filter.mpr ⟨hc', decide_eq_true (led_ne N1 (.tail _ hc') (.tail _ htab) (by intro e; rw [e] at hd'; cases hd'; cases hv'))⟩
    refine kla_hit F1 N2 T1 C1 rfl (.head _) (by kn_triples) (by kn_hit) rfl ?_
    intro f ctv h2 tk2 F2 N3 l1
    refine nameX_C N3 rfl (.tail _ (.tail _ (.head _))) hcell ?_
    refine node_setattr (cx_deeper B1 rfl rfl X1 T1 hh (by omega) (by omega) hC FG.keep (d := 1)) F2 N3 (.tail _ (.tail _ (.tail _ ha2))) (.tail _ (.tail _ (.tail _ hdx2))) ?_
    intro hs tf h3 tk3 F3 N4
    have n1 : f ≠ dx := led_ne N3 (.head _) (.tail _ (.tail _ (.tail _ hdx2))) (by intro e; have := congrArg Obj.data e; cases this)
    have n2 : c' ≠ dx := led_ne N3 (.tail _ (.tail _ (.tail _ hc2))) (.tail _ (.tail _ (.tail _ hdx2))) (by intro e; rw [e] at hd'; cases hd')
    have n3 : L1 + 1 ≠ dx := led_ne N3 (.tail _ (.tail _ (.head _))) (.tail _ (.tail _ (.tail _ hdx2))) (by intro e; rw [e] at hcell; cases hcell)
    refine wpAny_execs_nil (leaveK_ F3 N4 fun F5 N5 => hq f (L1 + 1) c' _ oc oc' hs tf _ _ _ F5 N5 (mem_setL_self (.tail _ (.tail _ (.tail _ hdx2)))) (mem_setL (.head _) n1) (mem_setL (.tail _ (.tail _ (.head _))) n3) (mem_setL (.tail _ (.tail _ (.tail _ hc2))) n2) ?_ ?_ ?_)
    · refine ⟨⟨_, rfl⟩, hcell, ⟨vs, t, hd', hv'⟩, ?_⟩
      intro led2 hf2 hcl2 hc2 hn2 k A' h0' L' m' s' Q' E' cx' F' N' hQ'
      obtain ⟨dx2, es2, n2', od2, ha2', hdx2'⟩ := hn2
      clear F1 N1 B1 X1 T1 F3 N4 FG B X T hC C1 N2 F2 N3 hq cx F N
      obtain ⟨A₀, base, outer, env, p, loose, mean, mg, mb, B, hA, hf, hk, X, T, hh, hd, hu, hC⟩ := cx'
      refine kla_code B F' X N' T hA hf hk hf2 ⟨c', oc', vs, t, rfl, (N' _ hc2).1, hd', hv'⟩ (by omega) rfl (locs rfl) (fun g1 L1' h1' FG F1 N1 B1 X1 T1 => ?_) rfl rfl rfl (by decide)
      walk1
      refine nameX_F N1 rfl hcl2 hcell ?_
      refine node_factory (cx_deeper B1 rfl rfl X1 T1 hh (by omega) (by omega) hC FG.keep (d := 4)) F1 N1 ha2' hdx2' ?_
      intro tk4
      simp only [backTo, starEach, List.map_nil]
      refine callWith0 ?_
      obtain ⟨kk, hpk, hkk⟩ := pk_keeper284 w PG
      refine lookFrom (Looks.of_peek X1 hpk) F1.keep ⟨hkk, ?_⟩
      refine tree_call.does _ _ _ _ _ _ _ (cx_deeper B1 rfl rfl X1 T1 hh (by omega) (by omega) hC FG.keep (d := 4)) F1 N1 ?_
      rintro v led3 h3 tk3 F3 N3 ⟨x, dx3, rfl, rfl, fr, ne, nm⟩
      exact leaveK_ F3 N3 fun F4 N4 => hQ' _ _ _ _ F4 N4 ⟨x, dx3, rfl, .head _, .tail _ (.head _), fun p hp => .tail _ (.tail _ hp), fr, ne, nm⟩
    · exact ⟨_, mem_setL (.tail _ (.head _)) (Ne.symm d150), .inr ⟨c', oc', vs, t, rfl, mem_setL (.tail _ (.tail _ (.tail _ hc2))) n2, hd', hv'⟩⟩
    · exact fun p hp h1 h2 => mem_setL (.tail _ (.tail _ (.tail _ (List.mem_filter.mpr ⟨hp, decide_eq_true h2⟩)))) h1
end

section
variable {w : World} {A : Around} {E : Value → Shared → Prop}
theorem keeper_fn {M : Model} {h : Heap} {fn : Addr} {o : Obj} {fd : FuncData} (hb : h.get? fn = some o) (hd : o.data = .func fd) : Looks M h (keeperOf (.ref fn)) .frame :=
  fun A Q E s k q => by
    unfold keeperOf
    refine wpAny_bind (wpAny_load (k _ _ hb) ?_)
    rw [hd]
    exact wpAny_pure q
theorem missing_frozen {h₀ : Heap} {a dx L : Addr} {es : Array DictEntry} {n : Nat} {k : Str} {t : Tok} {fn cl c' : Addr} {o oc oc' : Obj} {hs : Int} {tf : Tok} {led : Led} {m : Str → Option Value} {Q : Value → Shared → Prop} {s : Shared} (cx : Cx w A h₀ L 9) (F : Fr h₀ L s.heap m) (N : News h₀ L s.heap led)
    (ha : (a, nodeObj dx es n) ∈ led) (hdx : (dx, frzObj hs tf fn) ∈ led) (hfn : (fn, o) ∈ led) (hcl : (cl, oc) ∈ led) (hc' : (c', oc') ∈ led) (good : GoodFrz w o oc oc' fn cl c' a)
    (hq : ∀ v led' h' tk', Fr h₀ L h' m → News h₀ L h' led' → NewTree led v led' → Q v { s with heap := h', toks := tk' }) :
    codeAny (model PG w) A (.call (.ref 148) ⟨[.ref a, .str k t], []⟩) (fun r s' => match r with | .ok (.ret v) => Q v s' | .ok _ => False | .error e => E e s') s := by
  obtain ⟨A₀, base, outer, env, p, loose, mean, mg, mb, B, hA, hf, hk, X, T, hh, hd, hu, hC⟩ := id cx
  obtain ⟨⟨fd, hfd⟩, _, _, good⟩ := good
  (refine' ks_code_super ?k1 ?k2 ?k3 ?k4 ?k5 ?kA ?kF ?kK ?k6 ?k7 ?k8 ?k9 ?kB ?_ ?c5 ?c2 ?c3 ?c4; (case kA => assumption); (case kF => assumption); (case kK => assumption); (case k1 => k_asm); (case k2 => k_asm); (case k3 => k_asm); (case k4 => k_asm); (case k5 => k_asm); (case k6 => k_is); (case k7 => k_is); (case k8 => walk_at "room"); (case k9 => exact BindsTo.of_eq rfl); (case c5 => decide); (case kB => exact locs rfl); (case c2 => exact rfl); (case c3 => exact rfl); (case c4 => exact rfl); k_whole); intro g1 L1 h1 FG F1 N1 B1 X1 T1 lt1; (try dsimp only)
  refine ks_wpAt_execs_cons (ks_wpAt_Return_some (at_Call_Call (at_Call_Name (PySem.wpAt_of_wpAny ?_))))
  refine nameX_B F1 X1 (topRead_of T1) (by k_is) (by boot_by_name) (by decide) ?_
  simp only [backTo, backToKw, starEach, keywordEach, List.map_cons, List.map_nil, Bool.false_eq_true, if_false]
  refine at_callWith rfl (at_spliced (PySem.wpAt_of_wpAny ?_))
  refine nameX_L F1 (by rfl) ?_
  refine at_spliced (PySem.wpAt_of_wpAny (Constant_str ?_))
  refine at_spliced (at_Attribute ?_)
  have I1 : InstAt h1 a (nodeObj dx es n) 158 (some (frzObj hs tf fn)) := ⟨(N1 _ ha).1, rfl, rfl, (N1 _ hdx).1⟩
  refine ks_node F1 X1 N1 T1 (by k_is) (by rfl) (by rfl) I1 (by k_is) (by rfl) (by first | rfl | decide +kernel) (by k_is) (by k_is) (by k_is) (by k_is) (by decide) (by rfl) (by rfl) (by rfl) (by rfl) (by decide +kernel) (by first | boot_by_name | rfl | kernel_rfl) ?_
  intro so h2 F2 N2 l2
  refine super_missing X1 F2.keep (N1 _ ha).2.2 (N2 _ (.head _)).1 (N2 _ (.tail _ ha)).1 ?_
  intro h3 tk3 st3 hb3
  obtain ⟨F3, N3, l3⟩ := ks_newsPush (s := { s with heap := h2 }) F2 N2 rfl hb3 st3
  refine at_spliced_nil ?_
  refine getattr_hit X1 F3.keep (N3 _ (.tail _ (.tail _ ha))).1 (N3 _ (.tail _ (.tail _ hdx))).1 ?_
  refine PySem.wpAt_of_wpAny (callWith1 ?_)
  refine nameX_L F3 (by rfl) ?_
  refine (keeper_fn (N3 _ (.tail _ (.tail _ hfn))).1 hfd).here ⟨.inr rfl, ?_⟩
  have N4 : News g1 L1 h3 led := led_sub N3 fun p hp => .tail _ (.tail _ hp)
  refine (good led hfn hcl hc' ⟨_, _, _, _, ha, hdx⟩ _).does _ _ _ _ _ _ _ (cx_deeper B1 rfl rfl X1 T1 hh (by omega) (by omega) hC FG.keep (d := 8)) F3 N4 ?_
  intro v led5 h5 tk5 F5 N5 nt
  exact leaveK_ F5 N5 fun F6 N6 => hq _ _ _ _ F6 N6 nt
/-- what a frozen node needs around it -/
def Frz (w : World) (led : Led) (a dx : Addr) (of : Obj) : Prop := ∃ hs tf fn cl c' o oc oc', of = frzObj hs tf fn ∧ (dx, frzObj hs tf fn) ∈ led ∧ (fn, o) ∈ led ∧ (cl, oc) ∈ led ∧ (c', oc') ∈ led ∧ GoodFrz w o oc oc' fn cl c' a
theorem node_subF {h₀ : Heap} {a dx L : Addr} {es : Array DictEntry} {n : Nat} {k : Str} {t : Tok} {of : Obj} {led : Led} {m : Str → Option Value} {Q : Value → Shared → Prop} {s : Shared} (cx : Cx w A h₀ L 10) (F : Fr h₀ L s.heap m) (N : News h₀ L s.heap led)
    (ha : (a, nodeObj dx es n) ∈ led) (fz : Frz w led a dx of) (hall : (es.all fun e => isExactStrKey e.key) = true) (nm : (a == sysModules) = false)
    (hit : ∀ e h' tk', es.find? (fun e => e.key.isStr k) = some e → Fr h₀ L h' m → News h₀ L h' led → Q e.val { s with heap := h', toks := tk' })
    (miss : es.find? (fun e => e.key.isStr k) = none → ∀ v led' h' tk', Fr h₀ L h' m → News h₀ L h' led' → NewTree led v led' → Q v { s with heap := h', toks := tk' }) :
    wpAny (model PG w) A (getItem (.ref a) (.str k t)) Q E s := by
  obtain ⟨h, g, d, tk, os⟩ := s
  obtain ⟨hs, tf, fn, cl, c', o, oc, oc', rfl, hdx, hfn, hcl, hc', good⟩ := fz
  refine node_get (cx_X cx) F.keep nm (N _ ha).1 hall (fun v hv => ?_) fun hno => ?_
  · obtain ⟨e, he, rfl⟩ := Option.map_eq_some_iff.mp hv
    exact hit e h _ he F N
  · exact missing_frozen (s := ⟨h, g, d, tk + 1, os⟩) (Cx.in1 cx) F N ha hdx hfn hcl hc' good (miss hno)
end

/-- a Pair as the ledger bears it -/
abbrev pairObj (d : Addr) (x y : Str) (t u : Tok) : Obj := { cls := .ref 253, dict := some d, data := .seq #[.str x t, .str y u] 0, slots := #[] }
theorem bi_tupEq : Bi "tuple.__eq__" Builtin.«tuple.__eq__» "tuple" "__eq__" where
  plain := by decide +kernel
  entry := entryFor_of_tree (by kernel_rfl)
  kind := by first | exact .inl (by decide +kernel) | exact .inr (by decide +kernel)
  split := by decide +kernel
theorem pk_pairEq (w : World) (prog : Program) : peek (Mine.hd.heap_1 w.params) ⟨prog, w.params⟩ (typeLookup (.ref 253) "__eq__") = some (some (.builtin "tuple.__eq__")) := by kernel_rfl
theorem pk_pairTup (w : World) (prog : Program) : peek (Mine.hd.heap_1 w.params) ⟨prog, w.params⟩ (isSubtype (.ref 253) (.type "tuple")) = some true := by kernel_rfl
section
variable {prog : Program} {w : World} {A : Around} {E : Value → Shared → Prop} {h h₀ : Heap} {g : Array GenState} {d : Drawn} {tk : Nat} {os : OsState}
theorem eqs_t {a b : Str} {t u : Tok} {Q : Bool → Shared → Prop} {s : Shared} (e : a = b) (h : Q true s) : wpAny (model prog w) A (eqBool (.str a t) (.str b u)) Q E s := wpAny_eqBool_str (by rw [decide_eq_true e]; exact h)
theorem eqs_f {a b : Str} {t u : Tok} {Q : Bool → Shared → Prop} {s : Shared} (e : ¬ a = b) (h : Q false s) : wpAny (model prog w) A (eqBool (.str a t) (.str b u)) Q E s := wpAny_eqBool_str (by rw [decide_eq_false e]; exact h)
theorem pk_pairGetitem (w : World) (prog : Program) : peek (Mine.hd.heap_1 w.params) ⟨prog, w.params⟩ (typeLookup (.ref 253) "__getitem__") = some (some (.builtin "tuple.__getitem__")) := by kernel_rfl
theorem pk_noSeqP (w : World) (prog : Program) : peek (Mine.hd.heap_1 w.params) ⟨prog, w.params⟩ (seqItemTypes.anyM fun n => isSubtype (.ref 253) (.type n)) = some false := by kernel_rfl
theorem bi_tupGet : Bi "tuple.__getitem__" Builtin.«tuple.__getitem__» "tuple" "__getitem__" where
  plain := by decide +kernel
  entry := entryFor_of_tree (by kernel_rfl)
  kind := by first | exact .inl (by decide +kernel) | exact .inr (by decide +kernel)
  split := by decide +kernel
theorem pair_item {a da : Addr} {x y : Str} {t u : Tok} {i : Int} {v : Value} {ti : Tok} {Q : Value → Shared → Prop} (X : (Mine.hd.heap_1 w.params).In h₀) (st : h₀.StaysIn h) (ha : h.get? a = some (pairObj da x y t u)) (hi : (i = 0 ∧ v = .str x t) ∨ (i = 1 ∧ v = .str y u))
    (hq : Q v ⟨h, g, d, tk, os⟩) : wpAny (model prog w) A (getItem (.ref a) (.int i ti)) Q E ⟨h, g, d, tk, os⟩ := by
  have t1 : Looks (model prog w) h (typeOf (.ref a)) (.ref 253) := typeAt ha rfl
  have L1 := Looks.of_peek (M := model prog w) X (pk_pairGetitem w prog)
  have L3 := Looks.of_peek (M := model prog w) X (pk_noSeqP w prog)
  have L2 := Looks.of_peek (M := model prog w) X (pk_pairTup w prog)
  have b1 : Looks (model prog w) h (bindSpecial (.builtin "tuple.__getitem__") (.ref a)) (.builtin "tuple.__getitem__", [.ref a]) := Looks.of_pure (by kernel_rfl)
  have s1 : Looks (model prog w) h (seqItems? (.ref a)) (some #[.str x t, .str y u]) := (Looks.ld ha).andThen (Looks.of_pure rfl)
  unfold getItem sequenceKey callSpecial? specialOf
  repeat walk_at "lkk"
  refine bi_tupGet.call (t1.andThen (L2.keeps st)) (by unfold argsOk; kernel_rfl) ?_
  rcases hi with ⟨rfl, rfl⟩ | ⟨rfl, rfl⟩
  · repeat walk_at "lkk"
    exact hq
  · repeat walk_at "lkk"
    exact hq
theorem pair_eq {a b da db : Addr} {x y x' y' : Str} {t u t' u' : Tok} {Q : Value → Shared → Prop} (X : (Mine.hd.heap_1 w.params).In h₀) (st : h₀.StaysIn h) (ha : h.get? a = some (pairObj da x y t u)) (hb : h.get? b = some (pairObj db x' y' t' u')) (hu : A.units < cLine)
    (hq : ∀ tk, Q (.bool (decide (x = x' ∧ y = y'))) ⟨h, g, d, tk, os⟩) : wpAny (model prog w) A (compareOp .Eq (.ref a) (.ref b)) Q E ⟨h, g, d, tk, os⟩ := by
  have t1 : Looks (model prog w) h (typeOf (.ref a)) (.ref 253) := typeAt ha rfl
  have t2 : Looks (model prog w) h (typeOf (.ref b)) (.ref 253) := typeAt hb rfl
  have L1 := Looks.of_peek (M := model prog w) X (pk_pairEq w prog)
  have L2 := Looks.of_peek (M := model prog w) X (pk_pairTup w prog)
  have b1 : Looks (model prog w) h (bindSpecial (.builtin "tuple.__eq__") (.ref a)) (.builtin "tuple.__eq__", [.ref a]) := Looks.of_pure (by kernel_rfl)
  have s1 : Looks (model prog w) h (seqItems? (.ref a)) (some #[.str x t, .str y u]) := (Looks.ld ha).andThen (Looks.of_pure rfl)
  have s2 : Looks (model prog w) h (seqItems? (.ref b)) (some #[.str x' t', .str y' u']) := (Looks.ld hb).andThen (Looks.of_pure rfl)
  have B1 : Looks (model prog w) h (bindSpecialIfBound? (.ref a) "__eq__") (some (.builtin "tuple.__eq__", [.ref a])) := fun A Q E s k q => by
    obtain ⟨h', g', d', tk', os'⟩ := s
    have t1 := t1.keeps k
    have st : h₀.StaysIn h' := fun b o e => k b o (st b o e)
    have b1 := b1.keeps k
    unfold bindSpecialIfBound? specialOf
    repeat walk_at "lkk"
    split <;> (repeat walk_at "lkk") <;> exact q
  show wpAny _ _ (richCompare .Eq (.ref a) (.ref b)) _ _ _
  unfold richCompare tryCompare callSpecialIfBound?
  repeat (first | with_reducible refine wpAny_cRoomFor hu ?_ | walk_at "lkk")
  refine bi_tupEq.call (t1.andThen (L2.keeps st)) (by unfold argsOk; kernel_rfl) ?_
  by_cases ex : x = x'
  · by_cases ey : y = y'
    · have hq : ∀ tk, Q (.bool true) ⟨h, g, d, tk, os⟩ := fun tk => by have := hq tk; simp only [ex, ey, and_self, and_false, false_and, decide_true, decide_false] at this; exact this
      repeat (first | with_reducible refine eqs_t ex ?_ | with_reducible refine eqs_t ey ?_ | walk_at "lkk")
      exact hq _
    · have hq : ∀ tk, Q (.bool false) ⟨h, g, d, tk, os⟩ := fun tk => by have := hq tk; simp only [ex, ey, and_self, and_false, false_and, decide_true, decide_false] at this; exact this
      repeat (first | with_reducible refine eqs_t ex ?_ | with_reducible refine eqs_f ey ?_ | walk_at "lkk")
      exact hq _
  · have hq : ∀ tk, Q (.bool false) ⟨h, g, d, tk, os⟩ := fun tk => by have := hq tk; simp only [ex, false_and, decide_false] at this; exact this
    repeat (first | with_reducible refine eqs_f ex ?_ | walk_at "lkk")
    exact hq _
end

def same2 (x y x' y' : Str) : Bool := decide (x = x' ∧ y = y')
section
variable {prog : Program} {w : World} {A : Around} {E : Value → Shared → Prop} {g : Heap} {L : Addr} {m : Str → Option Value} {led : Led} {s : Shared}
theorem sp_pairget {h : Heap} {a da : Addr} {x y : Str} {t u : Tok} (X : (Mine.hd.heap_1 w.params).In g) (st : g.StaysIn h) (ha : h.get? a = some (pairObj da x y t u)) : Looks (model prog w) h (specialOf (.ref a) "__getitem__") (some (.builtin "tuple.__getitem__")) :=
  (typeAt ha rfl).andThen ((Looks.of_peek (M := model prog w) X (pk_pairGetitem w prog)).keeps st)
theorem pair_sub0 {value slice : Expr} {ops : List Value} {a da : Addr} {x y : Str} {t u ti : Tok} {Q : Value → Shared → Prop} (F : Fr g L s.heap m) (X : (Mine.hd.heap_1 w.params).In g) (N : News g L s.heap led) (ha : (a, pairObj da x y t u) ∈ led)
    (hs : subscripted slice false (.ref a) (.int 0 ti) = operate ops (getItem (.ref a) (.int 0 ti))) (h : Q (.str x t) s) : wpAny (model prog w) A (subscriptTail value slice (.ref a) (.int 0 ti)) Q E s := by
  obtain ⟨h', g', d', tk', os'⟩ := s
  exact tail_gen (sp_pairget X F.keep (N _ ha).1) (pair_item X F.keep (N _ ha).1 (.inl ⟨rfl, rfl⟩) h) hs
theorem pair_sub1 {value slice : Expr} {ops : List Value} {a da : Addr} {x y : Str} {t u ti : Tok} {Q : Value → Shared → Prop} (F : Fr g L s.heap m) (X : (Mine.hd.heap_1 w.params).In g) (N : News g L s.heap led) (ha : (a, pairObj da x y t u) ∈ led)
    (hs : subscripted slice false (.ref a) (.int 1 ti) = operate ops (getItem (.ref a) (.int 1 ti))) (h : Q (.str y u) s) : wpAny (model prog w) A (subscriptTail value slice (.ref a) (.int 1 ti)) Q E s := by
  obtain ⟨h', g', d', tk', os'⟩ := s
  exact tail_gen (sp_pairget X F.keep (N _ ha).1) (pair_item X F.keep (N _ ha).1 (.inr ⟨rfl, rfl⟩) h) hs
theorem pair_eqN {a b da db : Addr} {x y x' y' : Str} {t u t' u' : Tok} {Q : Value → Shared → Prop} (F : Fr g L s.heap m) (X : (Mine.hd.heap_1 w.params).In g) (N : News g L s.heap led) (ha : (a, pairObj da x y t u) ∈ led) (hb : (b, pairObj db x' y' t' u') ∈ led) (hu : A.units < cLine)
    (hq : ∀ tk, Q (.bool (same2 x y x' y')) { s with toks := tk }) : wpAny (model prog w) A (compareOp .Eq (.ref a) (.ref b)) Q E s := by
  obtain ⟨h', g', d', tk', os'⟩ := s
  exact pair_eq X F.keep (N _ ha).1 (N _ hb).1 hu hq
end
section
local macro_rules | `(tactic| walk_at "compareOp Eq ref ref") => `(tactic| (refine pair_eqN (by assumption) (by assumption) (by assumption) (by assumption) (by assumption) (by walk_at "room") ?_; intro tkE))
local macro_rules | `(tactic| walk_at "subscriptTail Name Constant ref int") => `(tactic| first | refine pair_sub0 (by assumption) (by assumption) (by assumption) (by assumption) rfl ?_ | refine pair_sub1 (by assumption) (by assumption) (by assumption) (by assumption) rfl ?_)
section
variable {w : World} {A : Around} {E : Value → Shared → Prop}
/-- what is_suburi answers -/
def below (x y x' y' : Str) : Bool := cond (same2 x y x' y') true (cond (x != x') false (cond (Txt.slice y (some (-1)) none != Str.ofString "/") (Txt.startswith y' (y ++ Str.ofString "/")) (Txt.startswith y' y)))
theorem suburi_call {a b da db : Addr} {x y x' y' : Str} {t u t' u' : Tok} {self : Value} {led : Led} (ha : (a, pairObj da x y t u) ∈ led) (hb : (b, pairObj db x' y' t' u') ∈ led) (ly : y.length ≤ 1000) (ly' : y'.length ≤ 1000) :
    DoesC PG w 2 (.ref 82) [self, .ref a, .ref b] led (fun v led' => led' = led ∧ v = .bool (below x y x' y')) := by
  intro A h₀ L m s Q E cx F N hQ; obtain ⟨A₀, base, outer, env, p, loose, mean, mg, mb, B, hA, hf, hk, X, T, hh, hd, hu, hC⟩ := cx
  walk_at "enter"; intro g1 L1 h1 FG F1 N1 B1 X1 T1; (try dsimp only)
  k_steps
  · exact hQ _ _ _ _ (by assumption) (by assumption) ⟨rfl, by rw [below, (by assumption : same2 x y x' y' = true)]; rfl⟩
  · exact hQ _ _ _ _ (by assumption) (by assumption) ⟨rfl, by rw [below, (by assumption : same2 x y x' y' = false), (by assumption : (x != x') = true)]; rfl⟩
  · exact hQ _ _ _ _ (by assumption) (by assumption) ⟨rfl, by rw [below, (by assumption : same2 x y x' y' = false), (by assumption : (x != x') = false), (by assumption : (Txt.slice y (some (-1)) none != Str.ofString "/") = true)]; rfl⟩
  · exact hQ _ _ _ _ (by assumption) (by assumption) ⟨rfl, by rw [below, (by assumption : same2 x y x' y' = false), (by assumption : (x != x') = false), (by assumption : (Txt.slice y (some (-1)) none != Str.ofString "/") = false)]; rfl⟩
end
end

theorem pk_pairGa (w : World) (prog : Program) : peek (Mine.hd.heap_1 w.params) ⟨prog, w.params⟩ (typeLookup (.ref 253) "__getattribute__") = some (some (.builtin "tuple.__getattribute__")) := by kernel_rfl
theorem fo_pname (w : World) (od : Obj) : findObj (Mine.hd.heap_1 w.params) 253 (some od) "name" = some (.bind (.ref 111) (.ref 222)) := by kernel_rfl
theorem fo_pvalue (w : World) (od : Obj) : findObj (Mine.hd.heap_1 w.params) 253 (some od) "value" = some (.bind (.ref 111) (.ref 225)) := by kernel_rfl
theorem bi_tupGa : Bi "tuple.__getattribute__" Builtin.«object.__getattribute__» "tuple" "__getattribute__" where
  plain := by decide +kernel
  entry := entryFor_alias (id' := "object.__getattribute__") (by kernel_rfl) (by decide +kernel) (by decide +kernel) (by kernel_rfl)
  kind := by first | exact .inl (by decide +kernel) | exact .inr (by decide +kernel)
  split := by decide +kernel
theorem pk_pairGahook (w : World) (prog : Program) : peek (Mine.hd.heap_1 w.params) ⟨prog, w.params⟩ (typeLookup (.ref 253) "__getattr__") = some none := by kernel_rfl
theorem e_issub : entryFor table "issubclass" = some Builtin.«issubclass» := entryFor_of_tree (by kernel_rfl)
theorem meta_tuple : typeOf (.type "tuple") = pure (.type "type") := by kernel_rfl
theorem e_tg (w : World) : findCls (Mine.hd.heap_1 w.params) (.type "tuple") (.type "type") "__getitem__" = some (.val (.builtin "tuple.__getitem__")) := by kernel_rfl
theorem e_issubn : entryFor table "issubclass.nested" = some Builtin.«issubclass.nested» := entryFor_of_tree (by kernel_rfl)
theorem pk_isTp (w : World) (prog : Program) : peek (Mine.hd.heap_1 w.params) ⟨prog, w.params⟩ (isType (.ref 253)) = some true := by kernel_rfl
theorem pk_isTt (w : World) (prog : Program) : peek (Mine.hd.heap_1 w.params) ⟨prog, w.params⟩ (isType (.type "tuple")) = some true := by kernel_rfl
theorem chk_issub (a b : Value) : checkBuiltinCall "issubclass" ⟨[a, b], []⟩ = pure () := by kernel_rfl
section
theorem issub_pair {prog : Program} {w : World} {A : Around} {E : Value → Shared → Prop} {g : Heap} {s : Shared} {Q : Value → Shared → Prop} (X : (Mine.hd.heap_1 w.params).In g) (st : g.StaysIn s.heap) (h : Q (.bool true) s) : wpAny (model prog w) A (call (.builtin "issubclass") [.ref 253, .type "tuple"]) Q E s := by
  obtain ⟨h', g', d', tk', os'⟩ := s
  have L1 := Looks.of_peek (M := model prog w) X (pk_pairTup w prog)
  refine wpAny_call (codeAny_call_builtin (by decide +kernel) e_issub ?_)
  unfold checkBuiltinCall
  have L2 := Looks.of_peek (M := model prog w) X (pk_isTp w prog)
  have L4 := Looks.of_peek (M := model prog w) X (pk_isTt w prog)
  have L3 : Looks (model prog w) h' (typeOf (.type "tuple")) (.type "type") := Looks.of_pure meta_tuple
  repeat walk_at "lkk"
  refine ⟨by decide +kernel, codeAny_builtin e_issubn ?_⟩
  unfold Builtin.«issubclass.nested»
  repeat walk_at "lkk"
  exact h
theorem call_pairget {prog : Program} {w : World} {A : Around} {E : Value → Shared → Prop} {g : Heap} {L : Addr} {m : Str → Option Value} {led : Led} {s : Shared} {a da : Addr} {x y : Str} {t u : Tok} {i : Int} {v : Value} {ti : Tok} {Q : Value → Shared → Prop} (F : Fr g L s.heap m) (X : (Mine.hd.heap_1 w.params).In g) (N : News g L s.heap led) (ha : (a, pairObj da x y t u) ∈ led) (hi : (i = 0 ∧ v = .str x t) ∨ (i = 1 ∧ v = .str y u))
    (h : Q v s) : wpAny (model prog w) A (call (.builtin "tuple.__getitem__") [.ref a, .int i ti]) Q E s := by
  obtain ⟨h', g', d', tk', os'⟩ := s
  have hn := (N _ ha).1
  have t1 : Looks (model prog w) h' (typeOf (.ref a)) (.ref 253) := typeAt hn rfl
  have L2 := Looks.of_peek (M := model prog w) X (pk_pairTup w prog)
  have s1 : Looks (model prog w) h' (seqItems? (.ref a)) (some #[.str x t, .str y u]) := (Looks.ld hn).andThen (Looks.of_pure rfl)
  refine wpAny_call (bi_tupGet.call (t1.andThen (L2.keeps F.keep)) (by unfold argsOk; kernel_rfl) ?_)
  rcases hi with ⟨rfl, rfl⟩ | ⟨rfl, rfl⟩ <;> (repeat walk_at "lkk") <;> exact h
theorem getter_name {w : World} {a da : Addr} {x y : Str} {t u : Tok} {led : Led} (ha : (a, pairObj da x y t u) ∈ led) (hda : (da, emptyDict) ∈ led) :
    DoesC PG w 3 (.ref 111) [.ref 222, .ref a, .ref 253] led (fun v led' => led' = led ∧ v = .str x t) := by
  intro A h₀ L m s Q E cx F N hQ; obtain ⟨A₀, base, outer, env, p, loose, mean, mg, mb, B, hA, hf, hk, X, T, hh, hd, hu, hC⟩ := cx
  (refine' code_def ?k1 ?k2 ?k3 ?k4 ?k5 ?kA ?kF ?kK ?k6 ?k7 ?k8 ?k9 ?kB ?_ ?c2 ?c3 ?c4 ?c5; (case kA => first | assumption | exact rfl); (case kF => first | assumption | exact rfl); (case kK => first | assumption | exact rfl); (case k1 => k_asm); (case k2 => k_asm); (case k3 => k_asm); (case k4 => k_asm); (case k5 => k_asm); (case k6 => k_is); (case k7 => k_is); (case k8 => walk_at "room"); (case k9 => exact BindsTo.of_defaults rfl ((X.keeps F.keep) _ _ (by k_is)) rfl rfl rfl); (case c5 => decide); (case kB => exact locs rfl); (case c2 => exact rfl); (case c3 => exact rfl); (case c4 => exact rfl); k_whole); intro g1 L1 h1 FG F1 N1 B1 X1 T1; (try dsimp only)
  iterate 24 walk1
  refine call_type_obj (N1 _ ha).1 rfl ?_
  iterate 3 walk1
  (refine' issub_pair X1 ?st ?_; (case st => exact Fr.keep (by assumption)))
  iterate 7 walk1
  (refine' method_type ?F ?X ?m ?hs ?e ?h ?_; (case hs => decide +kernel); (case F => k_asm); (case X => k_asm); (case m => exact meta_tuple); (case e => exact e_tg w); (case h => k_handed))
  iterate 8 walk1
  (refine' call_pairget (s := ⟨_, _, _, _, _⟩) ?F ?X ?N ?ha ?hi ?_; (case F => assumption); (case X => exact X1); (case N => exact N1); (case ha => exact ha); (case hi => exact .inl ⟨rfl, rfl⟩))
  iterate 1 walk1
  exact hQ _ _ _ _ (by assumption) (by assumption) ⟨rfl, rfl⟩
theorem getter_value {w : World} {a da : Addr} {x y : Str} {t u : Tok} {led : Led} (ha : (a, pairObj da x y t u) ∈ led) (hda : (da, emptyDict) ∈ led) :
    DoesC PG w 3 (.ref 111) [.ref 225, .ref a, .ref 253] led (fun v led' => led' = led ∧ v = .str y u) := by
  intro A h₀ L m s Q E cx F N hQ; obtain ⟨A₀, base, outer, env, p, loose, mean, mg, mb, B, hA, hf, hk, X, T, hh, hd, hu, hC⟩ := cx
  (refine' code_def ?k1 ?k2 ?k3 ?k4 ?k5 ?kA ?kF ?kK ?k6 ?k7 ?k8 ?k9 ?kB ?_ ?c2 ?c3 ?c4 ?c5; (case kA => first | assumption | exact rfl); (case kF => first | assumption | exact rfl); (case kK => first | assumption | exact rfl); (case k1 => k_asm); (case k2 => k_asm); (case k3 => k_asm); (case k4 => k_asm); (case k5 => k_asm); (case k6 => k_is); (case k7 => k_is); (case k8 => walk_at "room"); (case k9 => exact BindsTo.of_defaults rfl ((X.keeps F.keep) _ _ (by k_is)) rfl rfl rfl); (case c5 => decide); (case kB => exact locs rfl); (case c2 => exact rfl); (case c3 => exact rfl); (case c4 => exact rfl); k_whole); intro g1 L1 h1 FG F1 N1 B1 X1 T1; (try dsimp only)
  iterate 24 walk1
  refine call_type_obj (N1 _ ha).1 rfl ?_
  iterate 3 walk1
  (refine' issub_pair X1 ?st ?_; (case st => exact Fr.keep (by assumption)))
  iterate 7 walk1
  (refine' method_type ?F ?X ?m ?hs ?e ?h ?_; (case hs => decide +kernel); (case F => k_asm); (case X => k_asm); (case m => exact meta_tuple); (case e => exact e_tg w); (case h => k_handed))
  iterate 8 walk1
  (refine' call_pairget (s := ⟨_, _, _, _, _⟩) ?F ?X ?N ?ha ?hi ?_; (case F => assumption); (case X => exact X1); (case N => exact N1); (case ha => exact ha); (case hi => exact .inr ⟨rfl, rfl⟩))
  iterate 1 walk1
  exact hQ _ _ _ _ (by assumption) (by assumption) ⟨rfl, rfl⟩
end
section
variable {prog : Program} {w : World} {A : Around} {E : Value → Shared → Prop} {g : Heap} {L : Addr} {m : Str → Option Value} {led : Led} {s : Shared}
theorem pair_name {d : Nat} {a da : Addr} {x y : Str} {t u : Tok} {Q : Value → Shared → Prop} (cx : Cx w A g L (d + 5)) (F : Fr g L s.heap m) (N : News g L s.heap led) (ha : (a, pairObj da x y t u) ∈ led) (hda : (da, emptyDict) ∈ led)
    (h : ∀ h' tk', Fr g L h' m → News g L h' led → Q (.str x t) { s with heap := h', toks := tk' }) : wpAny (model PG w) A (getAttr (.ref a) "name" true) Q E s := by
  obtain ⟨h', g', d', tk', os'⟩ := s
  have X := cx_X cx
  have st : g.StaysIn h' := F.keep
  have hn := (N _ ha).1
  have t1 : Looks (model PG w) h' (typeOf (.ref a)) (.ref 253) := typeAt hn rfl
  have L1 := Looks.of_peek (M := model PG w) X (pk_pairGa w PG)
  have L2 := Looks.of_peek (M := model PG w) X (pk_pairGahook w PG)
  have L3 := Looks.of_peek (M := model PG w) X (pk_pairTup w PG)
  have I : InstAt h' a (pairObj da x y t u) 253 (some emptyDict) := ⟨hn, rfl, rfl, (N _ hda).1⟩
  have L5 : Looks (model PG w) h' (ObjectAttr.find (.ref a) (.ref 253) "name") (.bind (.ref 111) (.ref 222)) := looks_find (X.keeps st) I (fo_pname w _)
  have b1 : Looks (model PG w) h' (bindSpecial (.builtin "tuple.__getattribute__") (.ref a)) (.builtin "tuple.__getattribute__", [.ref a]) := Looks.of_pure (by kernel_rfl)
  unfold getAttr getAttrBy
  repeat walk_at "lkk"
  refine bi_tupGa.call (t1.andThen (L3.keeps st)) (by unfold argsOk; kernel_rfl) ?_
  unfold Builtin.«object.__getattribute__»
  repeat walk_at "lkk"
  refine (getter_name (w := w) ha hda).then (Cx.in1 (cx.less (by omega))) F N ?_
  rintro v led' h2 tk2 F2 N2 ⟨rfl, rfl⟩
  repeat walk_at "lkk"
  exact h _ _ F2 N2
theorem pair_value {d : Nat} {a da : Addr} {x y : Str} {t u : Tok} {Q : Value → Shared → Prop} (cx : Cx w A g L (d + 5)) (F : Fr g L s.heap m) (N : News g L s.heap led) (ha : (a, pairObj da x y t u) ∈ led) (hda : (da, emptyDict) ∈ led)
    (h : ∀ h' tk', Fr g L h' m → News g L h' led → Q (.str y u) { s with heap := h', toks := tk' }) : wpAny (model PG w) A (getAttr (.ref a) "value" true) Q E s := by
  obtain ⟨h', g', d', tk', os'⟩ := s
  have X := cx_X cx
  have st : g.StaysIn h' := F.keep
  have hn := (N _ ha).1
  have t1 : Looks (model PG w) h' (typeOf (.ref a)) (.ref 253) := typeAt hn rfl
  have L1 := Looks.of_peek (M := model PG w) X (pk_pairGa w PG)
  have L2 := Looks.of_peek (M := model PG w) X (pk_pairGahook w PG)
  have L3 := Looks.of_peek (M := model PG w) X (pk_pairTup w PG)
  have I : InstAt h' a (pairObj da x y t u) 253 (some emptyDict) := ⟨hn, rfl, rfl, (N _ hda).1⟩
  have L5 : Looks (model PG w) h' (ObjectAttr.find (.ref a) (.ref 253) "value") (.bind (.ref 111) (.ref 225)) := looks_find (X.keeps st) I (fo_pvalue w _)
  have b1 : Looks (model PG w) h' (bindSpecial (.builtin "tuple.__getattribute__") (.ref a)) (.builtin "tuple.__getattribute__", [.ref a]) := Looks.of_pure (by kernel_rfl)
  unfold getAttr getAttrBy
  repeat walk_at "lkk"
  refine bi_tupGa.call (t1.andThen (L3.keeps st)) (by unfold argsOk; kernel_rfl) ?_
  unfold Builtin.«object.__getattribute__»
  repeat walk_at "lkk"
  refine (getter_value (w := w) ha hda).then (Cx.in1 (cx.less (by omega))) F N ?_
  rintro v led' h2 tk2 F2 N2 ⟨rfl, rfl⟩
  repeat walk_at "lkk"
  exact h _ _ F2 N2
end

theorem meta_str1 : typeOf (.type "str") = pure (.type "type") := by kernel_rfl
theorem e_strip (w : World) : findCls (Mine.hd.heap_1 w.params) (.type "str") (.type "type") "strip" = some (.val (.builtin "str.strip")) := by kernel_rfl
theorem pk_tga (w : World) : (findIn (Mine.hd.heap_1 w.params) (.type "type") "__getattribute__") = some (some (.builtin "type.__getattribute__")) := by kernel_rfl
theorem pk_hookB (w : World) : findIn (Mine.hd.heap_1 w.params) (.type "type") "__getattr__" = some none := by kernel_rfl
theorem attr_strip {prog : Program} {w : World} {A : Around} {E : Value → Shared → Prop} {g : Heap} {L : Addr} {m : Str → Option Value} {s : Shared} {ex : Bool} {Q : Value → Shared → Prop} (F : Fr g L s.heap m) (X₀ : (Mine.hd.heap_1 w.params).In g)
    (h : Q (.builtin "str.strip") { s with toks := s.toks + 1 }) : wpAny (model prog w) A (getAttr (.type "str") "strip" ex) Q E s := by
  have X := X₀.keeps F.keep
  have hs : Manifest.isStub "str" = false := by decide +kernel
  have hstub : opaqueClassAbove (.type "str") = pure none := by unfold opaqueClassAbove; dsimp only; rw [hs]; rfl
  refine cls_open X (Looks.of_pure hstub) (Looks.of_pure meta_str1) (pk_tga w) (looks_hook X (r := none) (by rfl)) (by rfl) (e_strip w)
    (wpAny_pure (by show wpAny _ _ (handedOut _) _ _ _; rw [handedOut_of (by k_handed)]; exact wpAny_pure h))

theorem mro_map : mroOf (.type "map") = pure [.type "map", .type "object"] := by rw [mroOf_type]; kernel_rfl
theorem lookup_map_new : typeLookup (.type "map") "__new__" = pure (some (.builtin "map.__new__")) := by rw [typeLookup_type, builtinLookup_eq_fast]; kernel_rfl
theorem slot_map_init : Slot "map" "__init__" "object.__init__" :=
  Slot.of (by rw [typeLookup_type, builtinLookup_eq_fast]; kernel_rfl) (owner := "object") (n := "__init__") (by decide +kernel) (by decide +kernel) (by decide +kernel) (by decide +kernel) (by rw [isSubtype_type]; kernel_rfl)
theorem called_map : TypeCalled "map" "map.__new__" "object.__init__" :=
  ⟨by decide +kernel, by decide +kernel, ⟨_, _, mro_map⟩, madeBy_type mro_map lookup_map_new (by decide +kernel), by decide +kernel, by rw [isSubtype_type]; kernel_rfl, slot_map_init⟩
theorem typeCall_map (a b : Value) : checkTypeCall "map" ⟨[a, b], []⟩ = pure () := by kernel_rfl
theorem newCall_map (a b : Value) : checkBuiltinCall "map.__new__" ⟨[.type "map", a, b], []⟩ = pure () := by kernel_rfl
theorem entry_map_new : entryFor table "map.__new__" = some Builtin.«map.__new__» := entryFor_of_tree (by kernel_rfl)
theorem is_map : isType (.type "map") = pure true := by kernel_rfl
theorem sub_map : isSubtype (.type "map") (.type "map") = pure true := by rw [isSubtype_type]; kernel_rfl
/-- the parts of a map over one list -/
abbrev lit (l : Addr) (i : Int) : Obj := { cls := .type "list_iterator", data := .fields #[.ref l, rawInt i] }
abbrev mtup (J : Addr) : Obj := { cls := .type "tuple", data := .seq #[.ref J] }
abbrev mobj (T : Addr) (f : Value) : Obj := { cls := .type "map", data := .fields #[.ref T, f] }
section
variable {prog : Program} {w : World} {A : Around} {E : Value → Shared → Prop} {g : Heap} {L : Addr} {m : Str → Option Value} {led : Led} {s : Shared}
theorem call_map {l : Addr} {items : Array Value} {f : Value} {Q : Value → Shared → Prop} (F : Fr g L s.heap m) (N : News g L s.heap led) (hl : s.heap.IsList l items)
    (hq : ∀ I T J h' tk', Fr g L h' m → News g L h' ((I, mobj T f) :: (T, mtup J) :: (J, lit l 0) :: led) → (∀ p ∈ led, p.1 < J) → J < T → T < I → Q (.ref I) { s with heap := h', toks := tk' }) : wpAny (model prog w) A (call (.type "map") [f, .ref l]) Q E s := by
  obtain ⟨h, g', d, tk, os⟩ := s
  refine callType_new (S := fun A R s => ∀ prog w, wpAny (model prog w) A.in1 (Builtin.«map.__new__» ⟨.type "map" :: [f, .ref l], []⟩) (fun fin s' => match fin with | .done f => R (.ok f) s' | .again c' => c'.quiet = true ∧ codeAny (model prog w) A c' R s') (fun e s' => R (.error e) s') s) called_map (by decide) (typeCall_map _ _) (newCall_map _ _) (fun obj => PySem.F.args_object_init_3 _ _ _) entry_map_new (fun prog w A R s h => h prog w) fun prog w => ?_
  have L1 : Looks (model prog w) h (isType (.type "map")) true := Looks.of_pure is_map
  have L2 : Looks (model prog w) h (isSubtype (.type "map") (.type "map")) true := Looks.of_pure sub_map
  unfold Builtin.«map.__new__»
  repeat (first | with_reducible refine wpAny_pyIter_list hl ?_ | walk_at "lkk")
  have F1 := Fr.pushS F (lit l 0)
  have N1 := News.push F N (lit l 0)
  have F2 := Fr.pushS F1 (mtup h.objs.size)
  have N2 := News.push F1 N1 (mtup h.objs.size)
  have F3 := Fr.pushS F2 (mobj (h.push (lit l 0)).objs.size f)
  have N3 := News.push F2 N2 (mobj (h.push (lit l 0)).objs.size f)
  have e1 : h.objs.size < (h.push (lit l 0)).objs.size := Heap.lt_size (N1 _ (.head _)).1
  have e2 : (h.push (lit l 0)).objs.size < ((h.push (lit l 0)).push (mtup h.objs.size)).objs.size := Heap.lt_size (N2 _ (.head _)).1
  exact ⟨⟨_, (N3 _ (.head _)).1, rfl⟩, hq _ _ _ _ _ F3 N3 (fun p hp => Heap.lt_size (N p hp).1) e1 e2⟩
end
theorem bi_mapNext : Bi "map.__next__" Builtin.«map.__next__» "map" "__next__" where
  plain := by decide +kernel
  entry := entryFor_of_tree (by kernel_rfl)
  kind := by first | exact .inl (by decide +kernel) | exact .inr (by decide +kernel)
  split := by decide +kernel
theorem bi_listNext : Bi "list_iterator.__next__" Builtin.«list_iterator.__next__» "list_iterator" "__next__" where
  plain := by decide +kernel
  entry := entryFor_of_tree (by kernel_rfl)
  kind := by first | exact .inl (by decide +kernel) | exact .inr (by decide +kernel)
  split := by decide +kernel
theorem lk_mapNext : typeLookup (.type "map") "__next__" = pure (some (.builtin "map.__next__")) := by rw [typeLookup_type, builtinLookup_eq_fast]; kernel_rfl
theorem lk_listNext : typeLookup (.type "list_iterator") "__next__" = pure (some (.builtin "list_iterator.__next__")) := by rw [typeLookup_type, builtinLookup_eq_fast]; kernel_rfl
theorem sub_lit : isSubtype (.type "list_iterator") (.type "list_iterator") = pure true := by rw [isSubtype_type]; kernel_rfl
section
variable {prog : Program} {w : World} {A : Around} {E : Value → Shared → Prop} {h : Heap} {g : Array GenState} {d : Drawn} {tk : Nat} {os : OsState}
theorem lk_strip {l : List Value} {x : Str} {t : Tok} {Q : Value → Shared → Prop} {s : Shared} (e : l = [.str x t]) (lx : x.length ≤ 1000) (h : ∀ t' k, Q (.str (Txt.strip x) t') { s with toks := k }) : wpAny (model prog w) A (call (.builtin "str.strip") l) Q E s := by
  subst e
  exact SCL.strip (fun t' k _ => h t' k) (by rw [sizeLine_eq]; omega)
theorem map_next {I T J l : Addr} {i : Nat} {items : Array Value} {x : Str} {t : Tok} {n : Nat} {Q : Option Value → Shared → Prop} (hI : h.get? I = some (mobj T (.builtin "str.strip"))) (hT : h.get? T = some (mtup J)) (hJ : h.get? J = some (lit l i))
    (hl : h.get? l = some { cls := .type "list", data := .seq items n }) (hx : items[i]? = some (.str x t)) (lx : x.length ≤ 1000)
    (hq : ∀ t' tk', Q (some (.str (Txt.strip x) t')) ⟨h.update J (Obj.mapFields fun vs => vs.setIfInBounds 1 (rawInt (i + 1))), g, d, tk', os⟩) : wpAny (model prog w) A (pyNext (.ref I)) Q E ⟨h, g, d, tk, os⟩ := by
  have t1 : Looks (model prog w) h (typeOf (.ref I)) (.type "map") := typeAt hI rfl
  have t2 : Looks (model prog w) h (typeOf (.ref J)) (.type "list_iterator") := typeAt hJ rfl
  have L1 : Looks (model prog w) h (typeLookup (.type "map") "__next__") _ := Looks.of_pure lk_mapNext
  have L2 : Looks (model prog w) h (typeLookup (.type "list_iterator") "__next__") _ := Looks.of_pure lk_listNext
  have L3 : Looks (model prog w) h (isSubtype (.type "map") (.type "map")) true := Looks.of_pure sub_map
  have L4 : Looks (model prog w) h (isSubtype (.type "list_iterator") (.type "list_iterator")) true := Looks.of_pure sub_lit
  have b1 : Looks (model prog w) h (bindSpecial (.builtin "map.__next__") (.ref I)) (.builtin "map.__next__", [.ref I]) := Looks.of_pure (by kernel_rfl)
  have b2 : Looks (model prog w) h (bindSpecial (.builtin "list_iterator.__next__") (.ref J)) (.builtin "list_iterator.__next__", [.ref J]) := Looks.of_pure (by kernel_rfl)
  have s1 : Looks (model prog w) h (seqItems? (.ref T)) (some #[.ref J]) := (Looks.ld hT).andThen (Looks.of_pure rfl)
  have s2 : Looks (model prog w) h (seqItems? (.ref l)) (some items) := (Looks.ld hl).andThen (Looks.of_pure rfl)
  have f1 : Looks (model prog w) h (field (.ref I) 0) (.ref T) := (Looks.ld hI).andThen (Looks.of_pure rfl)
  have f2 : Looks (model prog w) h (field (.ref I) 1) (.builtin "str.strip") := (Looks.ld hI).andThen (Looks.of_pure rfl)
  have f3 : Looks (model prog w) h (field (.ref J) 0) (.ref l) := (Looks.ld hJ).andThen (Looks.of_pure rfl)
  have f4 : Looks (model prog w) h (field (.ref J) 1) (rawInt i) := (Looks.ld hJ).andThen (Looks.of_pure rfl)
  unfold pyNext callSpecial? specialOf
  repeat walk_at "lkk"
  refine bi_mapNext.call (t1.andThen L3) (by unfold argsOk; kernel_rfl) ?_
  unfold Builtin.«map.__next__»
  repeat walk_at "lkk"
  show codeAny _ _ (.call (.builtin "list_iterator.__next__") ⟨[.ref J], []⟩) _ _
  refine bi_listNext.call (t2.andThen L4) (by unfold argsOk; kernel_rfl) ?_
  unfold Builtin.«list_iterator.__next__»
  have hx' : items[(i : Int).toNat]? = some (.str x t) := hx
  repeat walk_at "lkk"
  rw [hx']
  unfold setField
  have nIJ : I ≠ J := by intro e; rw [e, hJ] at hI; exact absurd (Value.type.inj (congrArg Obj.cls (Option.some.inj hI))) (by decide)
  have hI2 : (h.update J (Obj.mapFields fun vs => vs.setIfInBounds 1 (rawInt (i + 1)))).get? I = some (mobj T (.builtin "str.strip")) := (Heap.get?_update_ne _ _ _ _ nIJ).trans hI
  have f2' : Looks (model prog w) (h.update J (Obj.mapFields fun vs => vs.setIfInBounds 1 (rawInt (i + 1)))) (field (.ref I) 1) (.builtin "str.strip") := (Looks.ld hI2).andThen (Looks.of_pure rfl)
  repeat (first | with_reducible refine nd_update hJ ?_ | with_reducible refine lk_strip rfl lx (fun t' k => ?_) | walk_at "lkk")
  exact hq _ _
theorem map_end {I T J l : Addr} {i : Nat} {items : Array Value} {n : Nat} {Q : Option Value → Shared → Prop} (hh : A.handled = none) (hI : h.get? I = some (mobj T (.builtin "str.strip"))) (hT : h.get? T = some (mtup J)) (hJ : h.get? J = some (lit l i))
    (hl : h.get? l = some { cls := .type "list", data := .seq items n }) (hx : items[i]? = none)
    (hq : ∀ h' tk', (∀ b o, b ≠ J → h.get? b = some o → h'.get? b = some o) → Q none ⟨h', g, d, tk', os⟩) : wpAny (model prog w) A (pyNext (.ref I)) Q E ⟨h, g, d, tk, os⟩ := by
  have t1 : Looks (model prog w) h (typeOf (.ref I)) (.type "map") := typeAt hI rfl
  have t2 : Looks (model prog w) h (typeOf (.ref J)) (.type "list_iterator") := typeAt hJ rfl
  have L1 : Looks (model prog w) h (typeLookup (.type "map") "__next__") _ := Looks.of_pure lk_mapNext
  have L2 : Looks (model prog w) h (typeLookup (.type "list_iterator") "__next__") _ := Looks.of_pure lk_listNext
  have L3 : Looks (model prog w) h (isSubtype (.type "map") (.type "map")) true := Looks.of_pure sub_map
  have L4 : Looks (model prog w) h (isSubtype (.type "list_iterator") (.type "list_iterator")) true := Looks.of_pure sub_lit
  have b1 : Looks (model prog w) h (bindSpecial (.builtin "map.__next__") (.ref I)) (.builtin "map.__next__", [.ref I]) := Looks.of_pure (by kernel_rfl)
  have b2 : Looks (model prog w) h (bindSpecial (.builtin "list_iterator.__next__") (.ref J)) (.builtin "list_iterator.__next__", [.ref J]) := Looks.of_pure (by kernel_rfl)
  have s1 : Looks (model prog w) h (seqItems? (.ref T)) (some #[.ref J]) := (Looks.ld hT).andThen (Looks.of_pure rfl)
  have s2 : Looks (model prog w) h (seqItems? (.ref l)) (some items) := (Looks.ld hl).andThen (Looks.of_pure rfl)
  have f1 : Looks (model prog w) h (field (.ref I) 0) (.ref T) := (Looks.ld hI).andThen (Looks.of_pure rfl)
  have f3 : Looks (model prog w) h (field (.ref J) 0) (.ref l) := (Looks.ld hJ).andThen (Looks.of_pure rfl)
  have f4 : Looks (model prog w) h (field (.ref J) 1) (rawInt i) := (Looks.ld hJ).andThen (Looks.of_pure rfl)
  unfold pyNext callSpecial? specialOf
  repeat walk_at "lkk"
  refine bi_mapNext.call (t1.andThen L3) (by unfold argsOk; kernel_rfl) ?_
  unfold Builtin.«map.__next__»
  repeat walk_at "lkk"
  show codeAny _ _ (.call (.builtin "list_iterator.__next__") ⟨[.ref J], []⟩) _ _
  refine bi_listNext.call (t2.andThen L4) (by unfold argsOk; kernel_rfl) ?_
  unfold Builtin.«list_iterator.__next__»
  have hx' : items[(i : Int).toNat]? = none := hx
  repeat walk_at "lkk"
  rw [hx']
  unfold setField SmallTypes.stopIteration
  repeat (first | with_reducible refine nd_update hJ ?_ | with_reducible refine wpAny_raiseNew_none (show Around.handled (Around.in1 (Around.in1 A)) = none from hh) ?_ | walk_at "lkk")
  refine wpAny_loadPart' (Heap.get?_push_size _ rfl) ?_
  have L9 : Looks (model prog w) h (isSubtype (.type "StopIteration") (.type "StopIteration")) true := Looks.of_pure (by rw [isSubtype_type]; kernel_rfl)
  have stU : ∀ f, h.StaysIn ((h.update J f)) → True := fun _ _ => trivial
  refine wpAny_pure ?_
  rw [show isSubtype (.type "StopIteration") (.type "StopIteration") = pure true from by rw [isSubtype_type]; kernel_rfl]
  refine wpAny_pure ?_
  refine wpAny_pure ?_
  refine hq _ _ fun b o hb e => ?_
  exact Heap.get?_push_of_some _ (Heap.get?_push_of_some _ ((Heap.get?_update_ne _ _ _ _ hb).trans e))
end

theorem map_no_len : typeLookup (.type "map") "__len__" = pure none := by rw [typeLookup_type, builtinLookup_eq_fast]; kernel_rfl
theorem map_no_hint : typeLookup (.type "map") "__length_hint__" = pure none := by rw [typeLookup_type, builtinLookup_eq_fast]; kernel_rfl
theorem map_iter : typeLookup (.type "map") "__iter__" = pure (some (.builtin "map.__iter__")) := by rw [typeLookup_type, builtinLookup_eq_fast]; kernel_rfl
theorem bi_mapIter : Bi "map.__iter__" Builtin.«dict_keyiterator.__iter__» "map" "__iter__" where
  plain := by decide +kernel
  entry := entryFor_alias (id' := "dict_keyiterator.__iter__") (by kernel_rfl) (by decide +kernel) (by decide +kernel) (by kernel_rfl)
  kind := by first | exact .inl (by decide +kernel) | exact .inr (by decide +kernel)
  split := by decide +kernel
section
variable {prog : Program} {w : World} {A : Around} {E : Value → Shared → Prop} {h : Heap} {g : Array GenState} {d : Drawn} {tk : Nat} {os : OsState}
theorem map_self {I T : Addr} {f : Value} {Q : Value → Shared → Prop} (hI : h.get? I = some (mobj T f)) (hq : Q (.ref I) ⟨h, g, d, tk, os⟩) : wpAny (model prog w) A (pyIter (.ref I)) Q E ⟨h, g, d, tk, os⟩ := by
  have t1 : Looks (model prog w) h (typeOf (.ref I)) (.type "map") := typeAt hI rfl
  have L1 : Looks (model prog w) h (typeLookup (.type "map") "__iter__") _ := Looks.of_pure map_iter
  have L2 : Looks (model prog w) h (typeLookup (.type "map") "__next__") _ := Looks.of_pure lk_mapNext
  have L3 : Looks (model prog w) h (isSubtype (.type "map") (.type "map")) true := Looks.of_pure sub_map
  have b1 : Looks (model prog w) h (bindSpecial (.builtin "map.__iter__") (.ref I)) (.builtin "map.__iter__", [.ref I]) := Looks.of_pure (by kernel_rfl)
  have B1 : Looks (model prog w) h (bindSpecialIfBound? (.ref I) "__iter__") (some (.builtin "map.__iter__", [.ref I])) := fun A Q E s k q => by
    obtain ⟨h', g', d', tk', os'⟩ := s
    have t1 := t1.keeps k
    have L1 := L1.keeps k
    have b1 := b1.keeps k
    unfold bindSpecialIfBound? specialOf
    repeat walk_at "lkk"
    split <;> (repeat walk_at "lkk") <;> exact q
  unfold pyIter specialOf callSpecialIfBoundUnlessNone?
  repeat walk_at "lkk"
  refine bi_mapIter.call (t1.andThen L3) (by unfold argsOk; kernel_rfl) ?_
  unfold Builtin.«dict_keyiterator.__iter__»
  repeat walk_at "lkk"
  exact hq
abbrev lobj (xs : Array Value) (n : Nat) : Obj := { cls := .type "list", data := .seq xs n }
theorem ext_step {I T J l S : Addr} {i : Nat} {items acc : Array Value} {x : Str} {t : Tok} {n c : Nat} {R : Result → Shared → Prop} (hI : h.get? I = some (mobj T (.builtin "str.strip"))) (hT : h.get? T = some (mtup J)) (hJ : h.get? J = some (lit l i))
    (hl : h.get? l = some (lobj items n)) (hS : h.get? S = some (lobj acc c)) (hx : items[i]? = some (.str x t)) (lx : x.length ≤ 1000) (la : acc.size ≤ 1000) (nS : S ≠ J ∧ S ≠ I ∧ S ≠ T ∧ S ≠ l ∧ J ≠ I ∧ J ≠ T ∧ J ≠ l)
    (hq : ∀ t' h' tk', h'.get? I = some (mobj T (.builtin "str.strip")) → h'.get? T = some (mtup J) → h'.get? J = some (lit l (i + 1 : Nat)) → h'.get? l = some (lobj items n) → (∃ c', h'.get? S = some (lobj (acc.push (.str (Txt.strip x) t')) c')) →
      (∀ b o, b ≠ J → b ≠ S → h.get? b = some o → h'.get? b = some o) → codeAny (model prog w) A (.builtin "list.extend.loop" ⟨[.ref S, .ref I, .ref S], []⟩) R ⟨h', g, d, tk', os⟩) :
    codeAny (model prog w) A (.builtin "list.extend.loop" ⟨[.ref S, .ref I, .ref S], []⟩) R ⟨h, g, d, tk, os⟩ := by
  refine codeAny_builtin PySem.F.entry_extend_loop ?_
  rw [Around.under_plainId PySem.F.plain_extend_loop _]
  show wpAny _ A.in1 (pyNext (.ref I) >>= _) _ _ _
  refine wpAny_bind (map_next hI hT hJ hl hx lx fun t' tk' => ?_)
  show wpAny _ A.in1 (updateSeq S (·.push _) >>= _) _ _ _
  have up : ∀ b o, b ≠ J → h.get? b = some o → (h.update J (Obj.mapFields fun vs => vs.setIfInBounds 1 (rawInt (i + 1)))).get? b = some o := fun b o hb e => (Heap.get?_update_ne _ _ _ _ hb).trans e
  have hS1 := up _ _ nS.1 hS
  have up2 : ∀ b o, b ≠ S → (h.update J (Obj.mapFields fun vs => vs.setIfInBounds 1 (rawInt (i + 1)))).get? b = some o → ((h.update J (Obj.mapFields fun vs => vs.setIfInBounds 1 (rawInt (i + 1)))).update S (Obj.mapSeq (·.push (.str (Txt.strip x) t')))).get? b = some o := fun b o hb e => (Heap.get?_update_ne _ _ _ _ hb).trans e
  refine wpAny_bind (wpAny_updateSeq hS1 rfl (wpAny_pure ⟨plainId_quiet PySem.F.plain_extend_loop _, hq t' _ tk' (up2 _ _ (Ne.symm nS.2.1) (up _ _ (Ne.symm nS.2.2.2.2.1) hI)) (up2 _ _ (Ne.symm nS.2.2.1) (up _ _ (Ne.symm nS.2.2.2.2.2.1) hT)) (up2 _ _ (Ne.symm nS.1) (Heap.get?_update_self _ hJ rfl)) (up2 _ _ (Ne.symm nS.2.2.2.1) (up _ _ (Ne.symm nS.2.2.2.2.2.2) hl)) ⟨_, Heap.get?_update_self (Obj.mapSeq (·.push (.str (Txt.strip x) t'))) hS1 rfl⟩ (fun b o h1 h2 e => up2 _ _ h2 (up _ _ h1 e))⟩) (by rw [sizeLine_eq]; omega) (by show (acc.push _).size ≤ _; rw [Array.size_push, sizeLine_eq]; omega))
theorem ext_end {I T J l S : Addr} {i : Nat} {items : Array Value} {n : Nat} {R : Result → Shared → Prop} (hh : A.handled = none) (hI : h.get? I = some (mobj T (.builtin "str.strip"))) (hT : h.get? T = some (mtup J)) (hJ : h.get? J = some (lit l i))
    (hl : h.get? l = some (lobj items n)) (hx : items[i]? = none)
    (hq : ∀ h' tk', (∀ b o, b ≠ J → h.get? b = some o → h'.get? b = some o) → R (.ok (.ret (.ref S))) ⟨h', g, d, tk', os⟩) :
    codeAny (model prog w) A (.builtin "list.extend.loop" ⟨[.ref S, .ref I, .ref S], []⟩) R ⟨h, g, d, tk, os⟩ := by
  refine codeAny_builtin PySem.F.entry_extend_loop ?_
  rw [Around.under_plainId PySem.F.plain_extend_loop _]
  show wpAny _ A.in1 (pyNext (.ref I) >>= _) _ _ _
  exact wpAny_bind (map_end hh hI hT hJ hl hx fun h' tk' up => wpAny_pure (hq h' tk' up))
theorem touch {S : Addr} {acc : Array Value} {c : Nat} {Q : Unit → Shared → Prop} (hS : h.get? S = some (lobj acc c)) (la : acc.size ≤ 1000)
    (hq : ∀ c' h', h'.get? S = some (lobj acc c') → (∀ b o, b ≠ S → h.get? b = some o → h'.get? b = some o) → Q () ⟨h', g, d, tk, os⟩) : wpAny (model prog w) A (Builtin.List.listTouch (.ref S)) Q E ⟨h, g, d, tk, os⟩ := by
  show wpAny _ A (updateSeq S (·.push .none) >>= fun _ => updateSeq S (·.pop)) _ _ _
  refine wpAny_bind (wpAny_updateSeq hS rfl ?_ (by rw [sizeLine_eq]; omega) (by show (acc.push _).size ≤ _; rw [Array.size_push, sizeLine_eq]; omega))
  have hS₂ := Heap.get?_update_self (Obj.mapSeq (·.push Value.none)) hS rfl
  refine wpAny_updateSeq hS₂ rfl ?_ (by show (acc.push _).size ≤ _; rw [Array.size_push, sizeLine_eq]; omega) (by show (acc.push _).pop.size ≤ _; rw [Array.size_pop, Array.size_push, sizeLine_eq]; omega)
  have hS₃ := Heap.get?_update_self (Obj.mapSeq (·.pop)) hS₂ rfl
  exact hq _ _ (by rw [hS₃]; simp [Obj.mapSeq]; rfl) fun b o hb e => (Heap.get?_update_ne _ _ _ _ hb).trans ((Heap.get?_update_ne _ _ _ _ hb).trans e)
theorem collect_map2 {I T J l : Addr} {x1 x2 : Str} {t1 t2 : Tok} {n : Nat} {Q : List Value → Shared → Prop} (hh : A.handled = none) (hI : h.get? I = some (mobj T (.builtin "str.strip"))) (hT : h.get? T = some (mtup J)) (hJ : h.get? J = some (lit l (0 : Nat)))
    (hl : h.get? l = some (lobj #[.str x1 t1, .str x2 t2] n)) (lx1 : x1.length ≤ 1000) (lx2 : x2.length ≤ 1000) (nS : J ≠ I ∧ J ≠ T ∧ J ≠ l)
    (hq : ∀ t1' t2' h' tk', (∀ b o, b ≠ J → h.get? b = some o → h'.get? b = some o) → Q [.str (Txt.strip x1) t1', .str (Txt.strip x2) t2'] ⟨h', g, d, tk', os⟩) : wpAny (model prog w) A (collect (.ref I)) Q E ⟨h, g, d, tk, os⟩ := by
  have ty : Looks (model prog w) h (typeOf (.ref I)) (.type "map") := typeAt hI rfl
  have L1 : Looks (model prog w) h (typeLookup (.type "map") "__len__") _ := Looks.of_pure map_no_len
  have L2 : Looks (model prog w) h (typeLookup (.type "map") "__length_hint__") _ := Looks.of_pure map_no_hint
  have st : h.StaysIn h := stays_refl
  have hSI : (h.objs.size == I) = false := by have := Heap.lt_size hI; simp; exact Nat.ne_of_gt this
  unfold collect
  refine wpAny_bind (wpAny_runValue (codeAny_builtin PySem.F.entry_proto_collect ?_))
  rw [Around.under_plainId PySem.F.plain_proto_collect _]
  show wpAny _ A.in1 (newList [] >>= fun l => again (.builtin "list.__iadd__" ⟨[l, .ref I], []⟩)) _ _ _
  refine wpAny_bind (wpAny_newObj_type ?_)
  refine wpAny_pure ⟨plainId_quiet PySem.F.plain_list_iadd _, codeAny_builtin PySem.F.entry_list_iadd ?_⟩
  rw [Around.under_plainId PySem.F.plain_list_iadd _]
  show wpAny _ A.in1 (Builtin.List.listExtendWith (.ref h.objs.size) (.ref I) (.ref h.objs.size)) _ _ _
  unfold Builtin.List.listExtendWith
  have h1 : Builtin.List.listSameRef (.ref h.objs.size) (.ref I) = false := by simp only [Builtin.List.listSameRef]; exact hSI
  have h2 : (Value.type "map" == Value.type "list") = false := by decide
  have h3 : (Value.type "map" == Value.type "tuple") = false := by decide
  repeat walk_at "lkk"
  simp only [h1, h2, h3, Bool.or_false, Bool.false_eq_true, if_false]
  have hS0 : (h.push (lobj #[] 0)).get? h.objs.size = some (lobj #[] 0) := Heap.get?_push_size _ rfl
  repeat (first | with_reducible refine map_self (Heap.get?_push_of_some _ hI) ?_ | with_reducible refine touch hS0 (by simp) fun c1 h1 hS1 up1 => ?_ | walk_at "lkk")
  have nJ : J ≠ h.objs.size := Nat.ne_of_lt (Heap.lt_size hJ)
  have nI : I ≠ h.objs.size := Nat.ne_of_lt (Heap.lt_size hI)
  have nT : T ≠ h.objs.size := Nat.ne_of_lt (Heap.lt_size hT)
  have nl : l ≠ h.objs.size := Nat.ne_of_lt (Heap.lt_size hl)
  have up0 : ∀ b o, b ≠ h.objs.size → h.get? b = some o → h1.get? b = some o := fun b o hb e => up1 b o hb (Heap.get?_push_of_some _ e)
  refine ⟨plainId_quiet PySem.F.plain_extend_loop _, ?_⟩
  refine ext_step (up0 _ _ nI hI) (up0 _ _ nT hT) (up0 _ _ nJ hJ) (up0 _ _ nl hl) hS1 (x := x1) (t := t1) rfl lx1 (by simp) ⟨Ne.symm nJ, Ne.symm nI, Ne.symm nT, Ne.symm nl, nS⟩ fun t1' h2 tk2 I2 T2 J2 l2 ⟨c2, S2⟩ up2 => ?_
  refine ext_step I2 T2 J2 l2 S2 (x := x2) (t := t2) rfl lx2 (by simp) ⟨Ne.symm nJ, Ne.symm nI, Ne.symm nT, Ne.symm nl, nS⟩ fun t2' h3 tk3 I3 T3 J3 l3 ⟨c3, S3⟩ up3 => ?_
  refine ext_end hh I3 T3 J3 l3 rfl fun h4 tk4 up4 => ?_
  have S4 := up4 _ _ (Ne.symm nJ) S3
  refine wpAny_bind (wpAny_load S4 (wpAny_pure ?_))
  refine hq t1' t2' h4 tk4 fun b o hb e => ?_
  have nb : b ≠ h.objs.size := Nat.ne_of_lt (Heap.lt_size e)
  exact up4 _ _ hb (up3 _ _ hb nb (up2 _ _ hb nb (up0 _ _ nb e)))
end
section
variable {prog : Program} {w : World} {A : Around} {E : Value → Shared → Prop} {g : Heap} {L : Addr} {m : Str → Option Value} {led : Led} {s : Shared}
theorem star_map2 {I T J l : Addr} {x1 x2 : Str} {t1 t2 : Tok} {n : Nat} {Q : List Value → Shared → Prop} (F : Fr g L s.heap m) (N : News g L s.heap led) (hh : A.handled = none) (mI : (I, mobj T (.builtin "str.strip")) ∈ led) (mT : (T, mtup J) ∈ led) (mJ : (J, lit l (0 : Nat)) ∈ led)
    (ml : (l, lobj #[.str x1 t1, .str x2 t2] n) ∈ led) (lx1 : x1.length ≤ 1000) (lx2 : x2.length ≤ 1000)
    (hq : ∀ t1' t2' h' tk', Fr g L h' m → News g L h' (led.filter fun p => decide (p.1 ≠ J)) → Q [.str (Txt.strip x1) t1', .str (Txt.strip x2) t2'] { s with heap := h', toks := tk' }) : StarOf (model prog w) A E (.ref I) Q s := by
  obtain ⟨h, g', d, tk, os⟩ := s
  have t1' : Looks (model prog w) h (typeOf (.ref I)) (.type "map") := typeAt (N _ mI).1 rfl
  have L1 : Looks (model prog w) h (typeLookup (.type "map") "__iter__") _ := Looks.of_pure map_iter
  unfold StarOf notIterableAtAll specialOf
  repeat walk_at "lkk"
  have d1 : J ≠ I := led_ne N mJ mI (by intro e; exact absurd (Value.type.inj (congrArg Obj.cls e)) (by decide))
  have d2 : J ≠ T := led_ne N mJ mT (by intro e; exact absurd (Value.type.inj (congrArg Obj.cls e)) (by decide))
  have d3 : J ≠ l := led_ne N mJ ml (by intro e; exact absurd (Value.type.inj (congrArg Obj.cls e)) (by decide))
  refine ⟨rfl, collect_map2 hh (N _ mI).1 (N _ mT).1 (N _ mJ).1 (N _ ml).1 lx1 lx2 ⟨d1, d2, d3⟩ fun a b h' tk' up => ?_⟩
  obtain ⟨oL, es, ep, hL, r⟩ := F.ns
  have gJ := (N _ mJ).2.2
  refine hq a b h' tk' ⟨⟨oL, es, ep, up _ _ (Ne.symm (N _ mJ).2.1) hL, r⟩, fun b o e => up b o (fun z => by rw [z, gJ] at e; cases e) (F.keep b o e), F.above⟩ fun p hp => ?_
  obtain ⟨hp1, hp2⟩ := List.mem_filter.mp hp
  exact ⟨up _ _ (of_decide_eq_true hp2) (N p hp1).1, (N p hp1).2⟩
end

theorem e_tnew (w : World) : findCls (Mine.hd.heap_1 w.params) (.type "tuple") (.type "type") "__new__" = some (.val (.builtin "tuple.__new__")) := by kernel_rfl
theorem pk_chkTup (w : World) (prog : Program) (T : Addr) : peek (Mine.hd.heap_1 w.params) ⟨prog, w.params⟩ (checkBuiltinCall "tuple.__new__" ⟨[.ref 253, .ref T], []⟩) = some () := by kernel_rfl
theorem pk_isTypeP (w : World) (prog : Program) : peek (Mine.hd.heap_1 w.params) ⟨prog, w.params⟩ (isType (.ref 253)) = some true := by kernel_rfl
theorem pk_madeHere (w : World) (prog : Program) : peek (Mine.hd.heap_1 w.params) ⟨prog, w.params⟩ (Bind.madeHere "tuple.__new__" (.ref 253)) = some () := by kernel_rfl
theorem pk_initP (w : World) (prog : Program) : peek (Mine.hd.heap_1 w.params) ⟨prog, w.params⟩ (typeLookup (.ref 253) "__init__") = some (some (.builtin "object.__init__")) := by kernel_rfl
theorem pk_hasDelP (w : World) (prog : Program) : peek (Mine.hd.heap_1 w.params) ⟨prog, w.params⟩ (classHasDel 253) = some false := by kernel_rfl
theorem e_tupNew : entryFor table "tuple.__new__" = some Builtin.«tuple.__new__» := entryFor_of_tree (by kernel_rfl)
section
variable {prog : Program} {w : World} {A : Around} {E : Value → Shared → Prop} {g : Heap} {L : Addr} {m : Str → Option Value} {led : Led} {s : Shared}
theorem collect_tup {h : Heap} {g' : Array GenState} {d : Drawn} {tk : Nat} {os : OsState} {T : Addr} {a b : Value} {n : Nat} {Q : List Value → Shared → Prop} (hT : h.get? T = some { cls := .type "tuple", data := .seq #[a, b] n : Obj })
    (hq : ∀ h', h.StaysIn h' → Q [a, b] ⟨h', g', d, tk, os⟩) : wpAny (model prog w) A (collect (.ref T)) Q E ⟨h, g', d, tk, os⟩ :=
  wpAny_collect_seq (s := ⟨h, g', d, tk, os⟩) T (.inr rfl) hT rfl rfl (fun h' up => hq h' up) (by show 2 ≤ _; rw [sizeLine_eq]; omega)
theorem cc_tuple : checkCount "tuple" 0 1 1 = pure () := by kernel_rfl
theorem tup_new {T : Addr} {x y : Str} {t u : Tok} {n : Nat} {Q : Value → Shared → Prop} (F : Fr g L s.heap m) (X : (Mine.hd.heap_1 w.params).In g) (N : News g L s.heap led) (mT : (T, { cls := .type "tuple", data := .seq #[.str x t, .str y u] n : Obj }) ∈ led)
    (hq : ∀ P D h' tk', Fr g L h' m → News g L h' ((P, pairObj D x y t u) :: (D, emptyDict) :: led) → (∀ p ∈ led, p.1 < D) → D < P → Q (.ref P) { s with heap := h', toks := tk' }) : wpAny (model prog w) A (call (.builtin "tuple.__new__") [.ref 253, .ref T]) Q E s := by
  obtain ⟨h, g', d, tk, os⟩ := s
  have st : g.StaysIn h := F.keep
  have L1 := Looks.of_peek (M := model prog w) X (pk_chkTup w prog T)
  have L2 := Looks.of_peek (M := model prog w) X (pk_isTypeP w prog)
  have L3 := Looks.of_peek (M := model prog w) X (pk_pairTup w prog)
  have L4 := Looks.of_peek (M := model prog w) X (pk_madeHere w prog)
  have L5 := Looks.of_peek (M := model prog w) X (pk_initP w prog)
  have L6 := Looks.of_peek (M := model prog w) X (pk_hasDelP w prog)
  refine wpAny_call (codeAny_call_builtin_code (Code.quiet_builtin _ (by decide +kernel)) (lookFrom L1 st ?_))
  refine codeAny_builtin e_tupNew ?_
  unfold Builtin.«tuple.__new__»
  iterate 20 (walk_at "lkk")
  rw [show [Value.ref T].length = 1 from rfl, cc_tuple]
  refine wpAny_pure ?_
  rw [if_neg (show ¬ ((Value.ref 253 == Value.type "tuple") = true) by decide)]
  refine wpAny_bind (collect_tup (N _ mT).1 fun h2 st2 => ?_)
  have st3 : g.StaysIn h2 := fun b o e => st2 b o (st b o e)
  repeat (first | rw [if_neg (show ¬ ((Value.ref 253 == Value.type "tuple") = true) by decide)] | walk_at "lkk")
  have F2 : Fr g L h2 m := fr_stays F st2
  have N2 := news_stays N st2
  have F3 := Fr.pushS F2 emptyDict
  have N3 := News.push F2 N2 emptyDict
  have F4 := Fr.pushS F3 (pairObj h2.objs.size x y t u)
  have N4 := News.push F3 N3 (pairObj h2.objs.size x y t u)
  exact hq _ _ _ _ F4 N4 (fun p hp => Heap.lt_size (N2 p hp).1) (Heap.lt_size (N3 _ (.head _)).1)
end
section
theorem newPair_call {w : World} {x y : Str} {t u : Tok} {led : Led} :
    DoesC PG w 5 (.ref 180) [.ref 253, .str x t, .str y u] led (fun v led' => ∃ P D T, v = .ref P ∧ led' = (P, pairObj D x y t u) :: (D, emptyDict) :: T :: led ∧ (∀ p ∈ led, p.1 < D) ∧ D < P) := by
  intro A h₀ L m s Q E cx F N hQ; obtain ⟨A₀, base, outer, env, p, loose, mean, mg, mb, B, hA, hf, hk, X, T, hh, hd, hu, hC⟩ := cx
  walk_at "enter"; intro g1 L1 h1 FG F1 N1 B1 X1 T1; (try dsimp only)
  have cx1 : ∀ e : Env, e.frame = some L1 → e.scope.kind = .function → Cx w (A.deeper e) g1 L1 4 := fun e i1 i2 => cx_deeper (e := e) B1 i1 i2 X1 T1 hh (by omega) (by omega) hC FG.keep (d := 4)
  iterate 7 walk1
  (refine' method_type ?F ?X ?m ?hs ?e ?h ?_; (case hs => decide +kernel); (case F => k_asm); (case X => k_asm); (case m => exact meta_tuple); (case e => exact e_tnew w); (case h => k_handed))
  iterate 12 walk1
  rename_i D' h2 F2 N2 l2
  refine tup_new (s := ⟨_, _, _, _, _⟩) F2 X1 N2 (.head _) fun P D h3 tk3 F3 N3 l3 l4 => ?_
  iterate 1 walk1
  exact hQ _ _ _ _ (by assumption) (by assumption) ⟨P, D, _, rfl, rfl, fun p hp => l3 p (.tail _ hp), l4⟩
end

theorem pk_mroP (w : World) (prog : Program) : peek (Mine.hd.heap_1 w.params) ⟨prog, w.params⟩ (mroOf (.ref 253)) = some [.ref 253, .ref 230, .type "tuple", .type "object"] := by kernel_rfl
theorem pk_madeP (w : World) (prog : Program) : peek (Mine.hd.heap_1 w.params) ⟨prog, w.params⟩ (Bind.madeBy (.ref 253)) = some none := by kernel_rfl
theorem pk_callP (w : World) (prog : Program) : peek (Mine.hd.heap_1 w.params) ⟨prog, w.params⟩ (specialOf (.ref 253) "__call__") = some (some (.builtin "type.__call__")) := by kernel_rfl
theorem pk_instP (w : World) (prog : Program) : peek (Mine.hd.heap_1 w.params) ⟨prog, w.params⟩ (isInstance (.ref 253) (.type "type")) = some true := by kernel_rfl
theorem pk_selfP (w : World) (prog : Program) : peek (Mine.hd.heap_1 w.params) ⟨prog, w.params⟩ (isSubtype (.ref 253) (.ref 253)) = some true := by kernel_rfl
theorem pk_subObjP (w : World) (prog : Program) : peek (Mine.hd.heap_1 w.params) ⟨prog, w.params⟩ (isSubtype (.ref 253) (.type "object")) = some true := by kernel_rfl
theorem ldP (w : World) : ∃ oc od cd sl, (Mine.hd.heap_1 w.params).lookup 253 = some ⟨oc, od, .cls cd, sl⟩ := ⟨_, _, _, _, by k_is⟩
theorem e_Pnew (w : World) : findCls (Mine.hd.heap_1 w.params) (.ref 253) (.type "type") "__new__" = some (.get (.builtin "staticmethod.__get__") (.ref 231) .none (.ref 253)) := by kernel_rfl
theorem rec231 (w : World) : recIn (Mine.hd.heap_1 w.params) 231 "staticmethod" = some [.ref 180] := by kernel_rfl
theorem tyP (w : World) : typeIn (Mine.hd.heap_1 w.params) (.ref 253) = some (.type "type") := by kernel_rfl
theorem readsP (w : World) : readsIn (Mine.hd.heap_1 w.params) 253 (.type "type") = true := by kernel_rfl
theorem get_Pnew {prog : Program} {w : World} {A : Around} {E : Value → Shared → Prop} {g : Heap} {L : Addr} {m : Str → Option Value} {s : Shared} {ex : Bool} {Q : Value → Shared → Prop} (F : Fr g L s.heap m) (X : (Mine.hd.heap_1 w.params).In g)
    (h : Q (.ref 180) { s with toks := s.toks + 1 }) : wpAny (model prog w) A (getAttr (.ref 253) "__new__" ex) Q E s := by
  exact cls_sm F X (tyP w) (readsP w) (e_Pnew w) (rec231 w) (by k_handed) h
theorem e_objInit : entryFor table "object.__init__" = some Builtin.«object.__init__» := entryFor_of_tree (by kernel_rfl)
theorem bi_objInit : Bi "object.__init__" Builtin.«object.__init__» "object" "__init__" where
  plain := by decide +kernel
  entry := e_objInit
  kind := by first | exact .inl (by decide +kernel) | exact .inr (by decide +kernel)
  split := by decide +kernel
section
theorem cx_under {w : World} {A : Around} {h₀ : Heap} {L C : Addr} {d : Nat} {vals : List Value} (cx : Cx w A h₀ L (d + 1)) : Cx w (A.under (.builtin "type.__call__" ⟨.ref C :: vals, []⟩)) h₀ L d := by
  obtain ⟨A₀, base, outer, env, p, loose, mean, mg, mb, B, hA, hf, hk, X, T, hh, hd, hu, hC⟩ := cx
  exact ⟨A₀, base, outer, env, p, loose, mean, mg, mb, B, hA, hf, hk, X, T, hh, by rw [depth_under_make]; omega, by rw [units_under_make]; omega, hC⟩
theorem pair_make {w : World} {x y : Str} {t u : Tok} {led : Led} :
    DoesC PG w 8 (.ref 253) [.str x t, .str y u] led (fun v led' => ∃ P D T, v = .ref P ∧ led' = (P, pairObj D x y t u) :: (D, emptyDict) :: T :: led ∧ (∀ p ∈ led, p.1 < D) ∧ D < P) := by
  intro A h₀ L m s Q E cx F N hQ
  have X := cx_X cx
  have k : h₀.StaysIn s.heap := F.keep
  obtain ⟨h, g, d, tk, os⟩ := s
  obtain ⟨oc, od, cd, sl, hl⟩ := ldP w
  have hC := k _ _ (X _ _ hl)
  have L1 := Looks.of_peek (M := model PG w) X (pk_callP w PG)
  have L2 := Looks.of_peek (M := model PG w) X (pk_instP w PG)
  have L4 := Looks.of_peek (M := model PG w) X (pk_mroP w PG)
  have L5 := Looks.of_peek (M := model PG w) X (pk_madeP w PG)
  have L6 := Looks.of_peek (M := model PG w) X (pk_selfP w PG)
  have L7 := Looks.of_peek (M := model PG w) X (pk_initP w PG)
  refine codeAny_of_tree ?_
  show wpAny _ _ (callAny (.ref 253) _) _ _ _
  refine nd_load hC ?_
  show wpAny _ _ (callAny.viaDunder (.ref 253) _) _ _ _
  unfold callAny.viaDunder
  refine wpAny_bind (lookFrom L1 k ?_)
  dsimp only
  rw [tc_bind]
  refine wpAny_bind (wpAny_pure (wpAny_bind (wpAny_pure ?_)))
  refine wpAny_pure (a := Fin.again (.call (.builtin "type.__call__") ⟨.ref 253 :: [.str x t, .str y u], []⟩)) (And.intro rfl ?_)
  refine codeAny_call_builtin_at (Code.quiet_builtin _ (by decide +kernel)) entry_typeCall ?_
  refine @check_slot (model PG w) _ _ _ "type.__call__" "type" "__call__" (.ref 253) [.str x t, .str y u] [] _ tc_kind tc_split (L2.keeps k) (tc_args _ _ _) ?_
  unfold Builtin.«type.__call__»
  repeat (first | with_reducible refine get_Pnew F X ?_ | walk_at "lkk")
  refine newPair_call.then (cx_under (d := 7) cx |>.less (by omega)) F N ?_
  rintro v led' h2 tk2 F2 N2 ⟨P, D, T, rfl, rfl, l1, l2⟩
  have t1 : Looks (model PG w) h2 (typeOf (.ref P)) (.ref 253) := typeAt (N2 _ (.head _)).1 rfl
  have st2 : h₀.StaysIn h2 := F2.keep
  have b1 : Looks (model PG w) h2 (bindSpecial (.builtin "object.__init__") (.ref P)) (.builtin "object.__init__", [.ref P]) := Looks.of_pure (by kernel_rfl)
  have L8 := Looks.of_peek (M := model PG w) X (pk_subObjP w PG)
  unfold isInstance callSpecial? specialOf
  repeat walk_at "lkk"
  refine bi_objInit.call (t1.andThen (L8.keeps st2)) (by unfold argsOk; kernel_rfl) ?_
  unfold Builtin.«object.__init__»
  repeat walk_at "lkk"
  exact hQ _ _ _ _ F2 N2 ⟨P, D, T, rfl, rfl, l1, l2⟩
end

/-- a fresh pair stands in the ledger behind `led`, which keeps what stood -/
def NewPair (led : Led) (x y : Str) (v : Value) (led' : Led) : Prop := ∃ P D t u, v = .ref P ∧ (P, pairObj D x y t u) ∈ led' ∧ (D, emptyDict) ∈ led' ∧ (∀ p ∈ led, p ∈ led') ∧ (∀ p ∈ led, p.1 < D) ∧ D < P
section
theorem parse_call {w : World} {x x1 x2 : Str} {t : Tok} {led : Led} (lx : x.length ≤ 1000) (hx : Txt.splitMax x (Str.ofString "=") 1 = [x1, x2]) :
    DoesC PG w 12 (.ref 247) [.ref 253, .str x t] led (NewPair led (Txt.strip x1) (Txt.strip x2)) := by
  intro A h₀ L m s Q E cx F N hQ; obtain ⟨A₀, base, outer, env, p, loose, mean, mg, mb, B, hA, hf, hk, X, T, hh, hd, hu, hC⟩ := cx
  walk_at "enter"; intro g1 L1 h1 FG F1 N1 B1 X1 T1; (try dsimp only)
  have cx1 : ∀ e : Env, e.frame = some L1 → e.scope.kind = .function → Cx w (A.deeper e) g1 L1 11 := fun e i1 i2 => cx_deeper (e := e) B1 i1 i2 X1 T1 hh (by omega) (by omega) hC FG.keep (d := 11)
  iterate 11 walk1
  (refine' attr_strip (s := ⟨_, _, _, _, _⟩) ?F ?X ?_; (case F => assumption); (case X => exact X1))
  iterate 12 walk1
  rename_i lst h2 tk2 e1 e2 e3 e4 F2 N2
  rw [hx] at e1
  rcases lst with _ | ⟨⟨a, ta⟩, _ | ⟨⟨b, tb⟩, _ | ⟨c, r⟩⟩⟩
  · simp at e1
  · simp at e1
  · obtain ⟨rfl, rfl⟩ : a = x1 ∧ b = x2 := by simpa using e1
    have la : a.length ≤ 1000 := Nat.le_trans (e3 a (by simp)) lx
    have lb : b.length ≤ 1000 := Nat.le_trans (e3 b (by simp)) lx
    dsimp only at N2 e4
    refine call_map (s := ⟨_, _, _, _, _⟩) F2 N2 e4 fun I T J h3 tk3 F3 N3 l1 l2 l3 => ?_
    refine star_map2 (s := ⟨_, _, _, _, _⟩) F3 N3 hh (.head _) (.tail _ (.head _)) (.tail _ (.tail _ (.head _))) (.tail _ (.tail _ (.tail _ (.head _)))) la lb fun ta' tb' h4 tk4 F4 N4 => ?_
    clear N3 F3 F2 N2 e4 e2
    iterate 1 walk1
    refine wpAny_call ?_
    refine pair_make.then (s := ⟨_, _, _, _, _⟩) (cx1 _ rfl rfl |>.less (by omega)) (by assumption) N4 ?_
    rintro v led5 h5 tk5 F5 N5 ⟨P, D, T', rfl, rfl, l5, l6⟩
    iterate 1 walk1
    exact hQ _ _ _ _ (by assumption) (by assumption) ⟨P, D, _, _, rfl, .head _, .tail _ (.head _), fun p hp => .tail _ (.tail _ (.tail _ (List.mem_filter.mpr ⟨.tail _ (.tail _ (.tail _ (.tail _ hp))), decide_eq_true (Nat.ne_of_lt (l1 p (.tail _ hp)))⟩))), fun p hp => l5 p (List.mem_filter.mpr ⟨.tail _ (.tail _ (.tail _ (.tail _ hp))), decide_eq_true (Nat.ne_of_lt (l1 p (.tail _ hp)))⟩), l6⟩
  · simp at e1
end

/-- a ledger that keeps all but iterators, and of those all that stood in `led0` -/
def NotIt (o : Obj) : Prop := ∀ xs : Array Value, o.data = .fields xs → ∀ i : Int, xs[1]? ≠ some (rawInt i)
def IterFree (led0 : Led) (cI : Value) (led led' : Led) : Prop := ∀ p ∈ led, (p ∈ led0 ∨ p.2.cls ≠ cI ∨ NotIt p.2) → p ∈ led'
abbrev rit (x left step : Int) : Obj := { cls := .type "range_iterator", dict := none, data := .fields #[rawInt x, rawInt left, rawInt step], slots := #[] }
section
variable {prog : Program} {w : World} {A : Around} {E : Value → Shared → Prop} {h : Heap} {g : Array GenState} {d : Drawn} {tk : Nat} {os : OsState}
theorem lst_next {J l : Addr} {i : Nat} {items : Array Value} {v : Value} {n : Nat} {Q : Option Value → Shared → Prop} (hJ : h.get? J = some (lit l i)) (hl : h.get? l = some (lobj items n)) (hx : items[i]? = some v)
    (hq : Q (some v) ⟨h.update J (Obj.mapFields fun vs => vs.setIfInBounds 1 (rawInt (i + 1))), g, d, tk, os⟩) : wpAny (model prog w) A (pyNext (.ref J)) Q E ⟨h, g, d, tk, os⟩ := by
  have t2 : Looks (model prog w) h (typeOf (.ref J)) (.type "list_iterator") := typeAt hJ rfl
  have L2 : Looks (model prog w) h (typeLookup (.type "list_iterator") "__next__") _ := Looks.of_pure lk_listNext
  have L4 : Looks (model prog w) h (isSubtype (.type "list_iterator") (.type "list_iterator")) true := Looks.of_pure sub_lit
  have b2 : Looks (model prog w) h (bindSpecial (.builtin "list_iterator.__next__") (.ref J)) (.builtin "list_iterator.__next__", [.ref J]) := Looks.of_pure (by kernel_rfl)
  have s2 : Looks (model prog w) h (seqItems? (.ref l)) (some items) := (Looks.ld hl).andThen (Looks.of_pure rfl)
  have f3 : Looks (model prog w) h (field (.ref J) 0) (.ref l) := (Looks.ld hJ).andThen (Looks.of_pure rfl)
  have f4 : Looks (model prog w) h (field (.ref J) 1) (rawInt i) := (Looks.ld hJ).andThen (Looks.of_pure rfl)
  unfold pyNext callSpecial? specialOf
  repeat walk_at "lkk"
  refine bi_listNext.call (t2.andThen L4) (by unfold argsOk; kernel_rfl) ?_
  unfold Builtin.«list_iterator.__next__»
  have hx' : items[(i : Int).toNat]? = some v := hx
  repeat walk_at "lkk"
  rw [hx']
  unfold setField
  repeat (first | with_reducible refine nd_update hJ ?_ | walk_at "lkk")
  exact hq
end
section
variable {prog : Program} {w : World} {A : Around} {E : Value → Shared → Prop} {g : Heap} {L : Addr} {m : Str → Option Value} {led : Led} {s : Shared}
theorem fr_but {h h' : Heap} {J : Addr} {o : Obj} (F : Fr g L h m) (N : News g L h led) (mJ : (J, o) ∈ led) (up : ∀ b o, b ≠ J → h.get? b = some o → h'.get? b = some o) : Fr g L h' m ∧ News g L h' (led.filter fun p => decide (p.1 ≠ J)) := by
  obtain ⟨oL, es, ep, hL, r⟩ := F.ns
  have gJ := (N _ mJ).2.2
  refine ⟨⟨⟨oL, es, ep, up _ _ (Ne.symm (N _ mJ).2.1) hL, r⟩, fun b o e => up b o (fun z => by rw [z, gJ] at e; cases e) (F.keep b o e), F.above⟩, fun p hp => ?_⟩
  obtain ⟨hp1, hp2⟩ := List.mem_filter.mp hp
  exact ⟨up _ _ (of_decide_eq_true hp2) (N p hp1).1, (N p hp1).2⟩
theorem free_filter {h : Heap} {J : Addr} {o : Obj} {led0 : Led} (hn : ¬ NotIt o) (f0 : ∀ p ∈ led0, p.1 ≠ J) (N : News g L h led) (mJ : (J, o) ∈ led) : IterFree led0 o.cls led (led.filter fun p => decide (p.1 ≠ J)) := fun p hp hc => by
  refine List.mem_filter.mpr ⟨hp, decide_eq_true fun e => ?_⟩
  obtain ⟨a, b⟩ := p
  cases e
  have eb : b = o := led_one N hp mJ
  exact hc.elim (fun h => f0 _ h rfl) fun hc => hc.elim (fun hc => hc (congrArg Obj.cls eb)) fun hc => hn (eb ▸ hc)
theorem free_setL {h : Heap} {J : Addr} {o o' : Obj} {led0 : Led} (hn : ¬ NotIt o) (f0 : ∀ p ∈ led0, p.1 ≠ J) (N : News g L h led) (mJ : (J, o) ∈ led) : IterFree led0 o.cls led (setL led J o') := fun p hp hc => by
  refine mem_setL hp fun e => ?_
  obtain ⟨a, b⟩ := p
  cases e
  have eb : b = o := led_one N hp mJ
  exact hc.elim (fun h => f0 _ h rfl) fun hc => hc.elim (fun hc => hc (congrArg Obj.cls eb)) fun hc => hn (eb ▸ hc)
theorem notIt_lit {l : Addr} {i : Int} : ¬ NotIt (lit l i) := fun h => h _ rfl i rfl
theorem notIt_rit {x left st : Int} : ¬ NotIt (rit x left st) := fun h => h _ rfl left rfl
/-- what a turn of a loop comes to -/
def TurnEnd (g : Heap) (L : Addr) (s₀ : Shared) (It : Addr) (oI : Obj) (J : Led → (Str → Option Value) → Prop) (R : Result → Shared → Prop) (f : Flow) (s₃ : Shared) : Prop :=
  match f with
  | .next | .cont => ∃ h' tk' led' m', s₃ = { s₀ with heap := h', toks := tk' } ∧ Fr g L h' m' ∧ News g L h' led' ∧ (It, oI) ∈ led' ∧ J led' m'
  | .brk => False
  | .ret v => R (.ok (.ret v)) s₃
theorem loop_list {target : Expr} {body : List Stmt} {env : Env} {It l : Addr} {items : Array Value} {n : Nat} {R : Result → Shared → Prop} (hh : A.handled = none) (J : Nat → Led → (Str → Option Value) → Prop)
    (led0 : Led) (f0 : ∀ p ∈ led0, p.1 ≠ It) (Jst : ∀ i led led' m, IterFree led0 (.type "list_iterator") led led' → J i led m → J i led' m)
    (Jl : ∀ i led m, J i led m → (l, lobj items n) ∈ led)
    (F : Fr g L s.heap m) (N : News g L s.heap led) (mI : (It, lit l (0 : Nat)) ∈ led) (h0 : J 0 led m)
    (step : ∀ i v led₁ m₁ h₁ tk₁, items[i]? = some v → J i led₁ m₁ → Fr g L h₁ m₁ → News g L h₁ led₁ → (It, lit l (i + 1 : Nat)) ∈ led₁ →
      ∀ (P : Flow → Shared → Prop) (E' : Value → Shared → Prop), (∀ f s', TurnEnd g L s It (lit l (i + 1 : Nat)) (J (i + 1)) R f s' → P f s') →
      wpAny (model prog w) A (assign target env v) (fun _ s₂ => wpAny (model prog w) A (execs body env) P E' s₂) E' { s with heap := h₁, toks := tk₁ })
    (fin : ∀ h' tk' led' m', Fr g L h' m' → News g L h' led' → J items.size led' m' → R (.ok .next) { s with heap := h', toks := tk' })
    (ht : ∀ v, letOwnedTupleGo target (.ref It) v = pure () := by intro _; rfl) : codeAny (model prog w) A (.forLoop target (.ref It) body [] env) R s := by
  refine codeAny_forLoop (fun k s' => ∃ i led₁ m₁ h₁ tk₁, s' = { s with heap := h₁, toks := tk₁ } ∧ i ≤ items.size ∧ k = items.size - i ∧ J i led₁ m₁ ∧ Fr g L h₁ m₁ ∧ News g L h₁ led₁ ∧ (It, lit l i) ∈ led₁) ?_ items.size ⟨0, led, m, s.heap, s.toks, rfl, Nat.zero_le _, rfl, h0, F, N, mI⟩ ht
  rintro k s' ⟨i, led₁, m₁, h₁, tk₁, rfl, hi, rfl, hJ, F₁, N₁, mI₁⟩
  have ml₁ := Jl _ _ _ hJ
  rcases Nat.lt_or_ge i items.size with hlt | hge
  · have hx : items[i]? = some items[i] := Array.getElem?_eq_getElem hlt
    refine lst_next (N₁ _ mI₁).1 (N₁ _ ml₁).1 hx ?_
    obtain ⟨F₂, N₂⟩ := upd_led (f := Obj.mapFields fun vs => vs.setIfInBounds 1 (rawInt (i + 1))) (o' := lit l (i + 1 : Nat)) F₁ N₁ mI₁ rfl rfl
    have fr := free_setL (o' := lit l (i + 1 : Nat)) notIt_lit f0 N₁ mI₁
    refine wpAny_mono (step i _ _ _ _ tk₁ hx (Jst _ _ _ _ fr hJ) F₂ N₂ (mem_setL_self mI₁) _ _ fun _ _ z => z) (fun _ s₂ hs => wpAny_mono hs (fun f s₃ hf => ?_) fun _ _ z => z) fun _ _ z => z
    unfold TurnEnd at hf
    cases f with
    | next =>
      obtain ⟨h', tk', led', m', rfl, F', N', mI', hJ'⟩ := hf
      exact ⟨items.size - (i + 1), by omega, i + 1, led', m', h', tk', rfl, hlt, rfl, hJ', F', N', mI'⟩
    | cont =>
      obtain ⟨h', tk', led', m', rfl, F', N', mI', hJ'⟩ := hf
      exact ⟨items.size - (i + 1), by omega, i + 1, led', m', h', tk', rfl, hlt, rfl, hJ', F', N', mI'⟩
    | brk => exact hf.elim
    | ret v => exact hf
  · have e : i = items.size := Nat.le_antisymm hi hge
    subst e
    refine wpAny_pyNext_list_end (i := items.size) hh ⟨_, (N₁ _ mI₁).1, rfl, rfl⟩ ⟨_, (N₁ _ ml₁).1, rfl, _, rfl⟩ (Array.getElem?_eq_none (Nat.le_refl _)) fun h' up => ?_
    obtain ⟨F₂, N₂⟩ := fr_but F₁ N₁ mI₁ up
    exact wpAny_execs_nil (fin h' tk₁ _ _ F₂ N₂ (Jst _ _ _ _ (free_filter notIt_lit f0 N₁ mI₁) hJ))
theorem loop_range {target : Expr} {body : List Stmt} {env : Env} {It : Addr} {cnt : Nat} {x st : Int} {R : Result → Shared → Prop} (hh : A.handled = none) (J : Nat → Led → (Str → Option Value) → Prop)
    (led0 : Led) (f0 : ∀ p ∈ led0, p.1 ≠ It) (Jst : ∀ i led led' m, IterFree led0 (.type "range_iterator") led led' → J i led m → J i led' m)
    (F : Fr g L s.heap m) (N : News g L s.heap led) (mI : (It, rit x cnt st) ∈ led) (h0 : J 0 led m)
    (step : ∀ i t led₁ m₁ h₁ tk₁, i < cnt → J i led₁ m₁ → Fr g L h₁ m₁ → News g L h₁ led₁ → (It, rit (x + st * ((i : Int) + 1)) (cnt - (i + 1)) st) ∈ led₁ →
      ∀ (P : Flow → Shared → Prop) (E' : Value → Shared → Prop), (∀ f s', TurnEnd g L s It (rit (x + st * ((i : Int) + 1)) (cnt - (i + 1)) st) (J (i + 1)) R f s' → P f s') →
      wpAny (model prog w) A (assign target env (.int (x + st * i) t)) (fun _ s₂ => wpAny (model prog w) A (execs body env) P E' s₂) E' { s with heap := h₁, toks := tk₁ })
    (fin : ∀ h' tk' led' m', Fr g L h' m' → News g L h' led' → J cnt led' m' → R (.ok .next) { s with heap := h', toks := tk' })
    (ht : ∀ v, letOwnedTupleGo target (.ref It) v = pure () := by intro _; rfl) : codeAny (model prog w) A (.forLoop target (.ref It) body [] env) R s := by
  refine codeAny_forLoop (fun k s' => ∃ (i : Nat) (led₁ : Led) (m₁ : Str → Option Value) (h₁ : Heap) (tk₁ : Nat), s' = { s with heap := h₁, toks := tk₁ } ∧ i ≤ cnt ∧ k = cnt - i ∧ J i led₁ m₁ ∧ Fr g L h₁ m₁ ∧ News g L h₁ led₁ ∧ (It, rit (x + st * (i : Int)) (cnt - i) st) ∈ led₁) ?_ cnt ⟨0, led, m, s.heap, s.toks, rfl, Nat.zero_le _, rfl, h0, F, N, by simpa using mI⟩ ht
  rintro k s' ⟨i, led₁, m₁, h₁, tk₁, rfl, hi, rfl, hJ, F₁, N₁, mI₁⟩
  rcases Nat.lt_or_ge i cnt with hlt | hge
  · refine wpAny_pyNext_range_item (s := { s with heap := h₁, toks := tk₁ }) (N₁ _ mI₁).1 (by omega) fun h₂ hI₂ sb => ?_
    have e1 : x + st * (i : Int) + st = x + st * ((i : Int) + 1) := by rw [Int.mul_add, Int.mul_one, Int.add_assoc]
    have e2 : (cnt : Int) - i - 1 = cnt - (i + 1) := by omega
    rw [e1, e2] at hI₂
    obtain ⟨oL, es, ep, hL, r⟩ := F₁.ns
    have gJ := (N₁ _ mI₁).2.2
    have up : ∀ b o, b ≠ It → h₁.get? b = some o → h₂.get? b = some o := fun b o hb e => (sb.2 b hb).trans e
    have F₂ : Fr g L h₂ m₁ := ⟨⟨oL, es, ep, up _ _ (Ne.symm (N₁ _ mI₁).2.1) hL, r⟩, fun b o e => up b o (fun z => by rw [z, gJ] at e; cases e) (F₁.keep b o e), F₁.above⟩
    have N₂ : News g L h₂ (setL led₁ It (rit (x + st * ((i : Int) + 1)) (cnt - (i + 1)) st)) := fun p hp => by
      rcases of_setL hp with ⟨h1, h2⟩ | ⟨h1, h2⟩
      · rw [h1, h2]; exact ⟨hI₂, (N₁ _ mI₁).2⟩
      · exact ⟨up _ _ h2 (N₁ p h1).1, (N₁ p h1).2⟩
    have fr := free_setL (o' := rit (x + st * ((i : Int) + 1)) (cnt - (i + 1)) st) notIt_rit f0 N₁ mI₁
    refine wpAny_mono (step i _ _ _ _ _ hlt (Jst _ _ _ _ fr hJ) F₂ N₂ (mem_setL_self mI₁) _ _ fun _ _ z => z) (fun _ s₂ hs => wpAny_mono hs (fun f s₃ hf => ?_) fun _ _ z => z) fun _ _ z => z
    unfold TurnEnd at hf
    cases f with
    | next =>
      obtain ⟨h', tk', led', m', rfl, F', N', mI', hJ'⟩ := hf
      exact ⟨cnt - (i + 1), by omega, i + 1, led', m', h', tk', rfl, hlt, rfl, hJ', F', N', by exact_mod_cast mI'⟩
    | cont =>
      obtain ⟨h', tk', led', m', rfl, F', N', mI', hJ'⟩ := hf
      exact ⟨cnt - (i + 1), by omega, i + 1, led', m', h', tk', rfl, hlt, rfl, hJ', F', N', by exact_mod_cast mI'⟩
    | brk => exact hf.elim
    | ret v => exact hf
  · have e : i = cnt := Nat.le_antisymm hi hge
    subst e
    refine wpAny_pyNext_range_end (s := { s with heap := h₁, toks := tk₁ }) hh (N₁ _ mI₁).1 (by omega) fun h' up => ?_
    obtain ⟨F₂, N₂⟩ := fr_but F₁ N₁ mI₁ up
    exact wpAny_execs_nil (fin h' tk₁ _ _ F₂ N₂ (Jst _ _ _ _ (free_filter notIt_rit f0 N₁ mI₁) hJ))
theorem same_led {h h' : Heap} {a : Addr} {o o' : Obj} (F : Fr g L h m) (N : News g L h led) (ma : (a, o) ∈ led) (sb : Heap.SameBut a h h') (e : h'.get? a = some o') : Fr g L h' m ∧ News g L h' (setL led a o') := by
  have D := N _ ma
  obtain ⟨oL, es, ep, hL, r⟩ := F.ns
  refine ⟨⟨⟨oL, es, ep, (sb.2 _ (Ne.symm D.2.1)).trans hL, r⟩, fun b x q => (sb.2 _ fun z => ?_).trans (F.keep b x q), F.above⟩, fun p hp => ?_⟩
  · have := D.2.2; rw [← z, q] at this; cases this
  · rcases of_setL hp with ⟨h1, h2⟩ | ⟨h1, h2⟩
    · rw [h1, h2]; exact ⟨e, D.2⟩
    · exact ⟨(sb.2 _ h2).trans (N p h1).1, (N p h1).2⟩
theorem led_append {l : Addr} {its : Array Value} {n : Nat} {x : Value} {Q : Value → Shared → Prop} (F : Fr g L s.heap m) (N : News g L s.heap led) (ml : (l, lobj its n) ∈ led) (hsz : its.size ≤ 1000)
    (h : ∀ h', Fr g L h' m → News g L h' (setL led l (lobj (its.push x) (n + 1))) → Q .none { s with heap := h' }) : wpAny (model prog w) A (call (.builtin "list.append") [.ref l, x]) Q E s :=
  append_at (N _ ml).1 (fun h' sb e => have z := same_led F N ml sb e; h h' z.1 z.2) (by rw [sizeLine_eq]; omega)
/-- the addresses of two objects that the ledger bears part, where they are of two classes -/
theorem cls_ne {h : Heap} {a b : Addr} {o o' : Obj} (N : News g L h led) (h1 : (a, o) ∈ led) (h2 : (b, o') ∈ led) (d : o.cls ≠ o'.cls) : a ≠ b := led_ne N h1 h2 fun e => d (congrArg Obj.cls e)
theorem keep_setL {h : Heap} {a : Addr} {o o' : Obj} (N : News g L h led) (ma : (a, o) ∈ led) {p : Addr × Obj} (hp : p ∈ led) (d : p.2.cls ≠ o.cls) : p ∈ setL led a o' := mem_setL hp (cls_ne N hp ma d)
theorem pairs_cls {X : Addr → Prop} {p : Addr × Obj} (h : p.2.cls = .ref 253 ∨ (p.2 = emptyDict ∧ ¬ X p.1)) : p.2.cls = .ref 253 ∨ p.2.cls = .type "dict" := h.imp id fun h => by rw [h.1]
theorem ne_list {v : Value} (h : v = .ref 253 ∨ v = .type "dict") : v ≠ .type "list" := by
  rcases h with rfl | rfl <;> decide
theorem ne_lit {v : Value} (h : v = .ref 253 ∨ v = .type "dict") : v ≠ .type "list_iterator" := by
  rcases h with rfl | rfl <;> decide
theorem ne_rit {v : Value} (h : v = .ref 253 ∨ v = .type "dict") : v ≠ .type "range_iterator" := by
  rcases h with rfl | rfl <;> decide
end

/-- the signs of a text -/
abbrev chs (s : Str) : List Nat := s.cps.toList
def endS (p : List Nat) : Bool := p.getLast? == some 47
def normP (p : List Nat) : List Nat := if endS p then p else p ++ [47]
def Covers (p a : List Nat) : Prop := p = a ∨ normP p <+: a
def cW (x : List Nat) : List (List Nat) := if endS x then [] else [x]
/-- the candidates: what may cover a path, the shortest first -/
def cF : List Nat → List Nat → List (List Nat)
  | acc, [] => cW acc
  | acc, c :: cs => if c = 47 then cW acc ++ [acc ++ [47]] ++ cF (acc ++ [47]) cs else cF (acc ++ [c]) cs
theorem endS_snoc (p : List Nat) (c : Nat) : endS (p ++ [c]) = (c == 47) := by
  unfold endS
  rw [List.getLast?_append]
  by_cases h : c = 47 <;> simp [h]
theorem endS_nil : endS [] = false := rfl
theorem cF_len : ∀ (cs acc : List Nat) (p : List Nat), p ∈ cF acc cs → acc.length ≤ p.length ∧ (endS acc = true → acc.length < p.length)
  | [], acc, p, h => by
    unfold cF cW at h
    by_cases e : endS acc = true
    · rw [if_pos e] at h; cases h
    · rw [if_neg e] at h; rw [List.mem_singleton.mp h]; exact ⟨Nat.le_refl _, fun z => absurd z e⟩
  | c :: cs, acc, p, h => by
    unfold cF at h
    by_cases hc : c = 47
    · rw [if_pos hc] at h
      rcases List.mem_append.mp h with h | h
      · rcases List.mem_append.mp h with h | h
        · unfold cW at h
          by_cases e : endS acc = true
          · rw [if_pos e] at h; cases h
          · rw [if_neg e] at h; rw [List.mem_singleton.mp h]; exact ⟨Nat.le_refl _, fun z => absurd z e⟩
        · rw [List.mem_singleton.mp h]; simp
      · have := (cF_len cs _ p h).1
        rw [List.length_append, List.length_singleton] at this
        exact ⟨by omega, fun _ => by omega⟩
    · rw [if_neg hc] at h
      have := (cF_len cs _ p h).1
      rw [List.length_append, List.length_singleton] at this
      exact ⟨by omega, fun _ => by omega⟩
theorem cF_sorted : ∀ (cs acc : List Nat), (cF acc cs).Pairwise fun p q => p.length < q.length
  | [], acc => by
    unfold cF cW
    by_cases e : endS acc = true
    · rw [if_pos e]; exact .nil
    · rw [if_neg e]; exact List.pairwise_singleton _ _
  | c :: cs, acc => by
    unfold cF
    by_cases hc : c = 47
    · rw [if_pos hc]
      refine List.pairwise_append.mpr ⟨List.pairwise_append.mpr ⟨?_, List.pairwise_singleton _ _, ?_⟩, cF_sorted cs _, ?_⟩
      · unfold cW
        by_cases e : endS acc = true
        · rw [if_pos e]; exact .nil
        · rw [if_neg e]; exact List.pairwise_singleton _ _
      · intro p hp q hq
        rw [List.mem_singleton.mp hq]
        unfold cW at hp
        by_cases e : endS acc = true
        · rw [if_pos e] at hp; cases hp
        · rw [if_neg e] at hp; rw [List.mem_singleton.mp hp]; simp
      · intro p hp q hq
        have hl := (cF_len cs _ q hq).2 (by rw [endS_snoc]; rfl)
        rw [List.length_append, List.length_singleton] at hl
        rcases List.mem_append.mp hp with hp | hp
        · unfold cW at hp
          by_cases e : endS acc = true
          · rw [if_pos e] at hp; cases hp
          · rw [if_neg e] at hp; rw [List.mem_singleton.mp hp]; omega
        · rw [List.mem_singleton.mp hp, List.length_append, List.length_singleton]; exact hl
    · rw [if_neg hc]; exact cF_sorted cs _
theorem mem_cF : ∀ (cs acc p : List Nat), p ∈ cF acc cs ↔ ∃ pre suf, cs = pre ++ suf ∧ p = acc ++ pre ∧ ((endS p = false ∧ (suf = [] ∨ suf.head? = some 47)) ∨ (pre ≠ [] ∧ endS p = true))
  | [], acc, p => by
    unfold cF cW
    by_cases e : endS acc = true
    · rw [if_pos e]
      refine ⟨fun h => (by cases h), ?_⟩
      rintro ⟨pre, suf, h1, rfl, h2⟩
      obtain ⟨rfl, rfl⟩ := List.append_eq_nil_iff.mp h1.symm
      rw [List.append_nil] at h2
      rcases h2 with ⟨h2, _⟩ | ⟨h2, _⟩
      · rw [e] at h2; cases h2
      · exact absurd rfl h2
    · rw [if_neg e]
      have e' : endS acc = false := by simpa using e
      refine ⟨fun h => ⟨[], [], rfl, by rw [List.append_nil]; exact List.mem_singleton.mp h, .inl ⟨by rw [List.mem_singleton.mp h]; exact e', .inl rfl⟩⟩, ?_⟩
      rintro ⟨pre, suf, h1, rfl, _⟩
      obtain ⟨rfl, rfl⟩ := List.append_eq_nil_iff.mp h1.symm
      rw [List.append_nil]; exact List.mem_singleton.mpr rfl
  | c :: cs, acc, p => by
    unfold cF
    by_cases hc : c = 47
    · subst hc
      rw [if_pos rfl]
      constructor
      · intro h
        rcases List.mem_append.mp h with h | h
        · rcases List.mem_append.mp h with h | h
          · unfold cW at h
            by_cases e : endS acc = true
            · rw [if_pos e] at h; cases h
            · rw [if_neg e] at h
              rw [List.mem_singleton.mp h]
              exact ⟨[], 47 :: cs, rfl, (List.append_nil _).symm, .inl ⟨by simpa using e, .inr rfl⟩⟩
          · rw [List.mem_singleton.mp h]
            exact ⟨[47], cs, rfl, rfl, .inr ⟨by simp, by rw [endS_snoc]; rfl⟩⟩
        · obtain ⟨pre, suf, rfl, rfl, h2⟩ := (mem_cF cs _ p).mp h
          refine ⟨47 :: pre, suf, rfl, by simp, h2.imp id fun h2 => ⟨by simp, h2.2⟩⟩
      · rintro ⟨pre, suf, h1, rfl, h2⟩
        cases pre with
        | nil =>
          rw [List.append_nil] at h2 ⊢
          rcases h2 with ⟨h2, _⟩ | ⟨h2, _⟩
          · refine List.mem_append_left _ (List.mem_append_left _ ?_)
            unfold cW; rw [h2]; exact List.mem_singleton.mpr rfl
          · exact absurd rfl h2
        | cons c' pre =>
          obtain ⟨rfl, rfl⟩ : 47 = c' ∧ cs = pre ++ suf := by simpa using h1
          by_cases hp : pre = []
          · subst hp
            exact List.mem_append_left _ (List.mem_append_right _ (List.mem_singleton.mpr rfl))
          · refine List.mem_append_right _ ((mem_cF _ _ _).mpr ⟨pre, suf, rfl, by simp, h2.imp id fun h2 => ⟨hp, h2.2⟩⟩)
    · rw [if_neg hc]
      constructor
      · intro h
        obtain ⟨pre, suf, rfl, rfl, h2⟩ := (mem_cF cs _ p).mp h
        refine ⟨c :: pre, suf, rfl, by simp, h2.imp id fun h2 => ⟨by simp, h2.2⟩⟩
      · rintro ⟨pre, suf, h1, rfl, h2⟩
        cases pre with
        | nil =>
          rw [List.append_nil] at h2
          rcases h2 with ⟨_, h2 | h2⟩ | ⟨h2, _⟩
          · subst h2; cases h1
          · have : suf = c :: cs := by simpa using h1.symm
            subst this
            exact absurd (by simpa using h2) hc
          · exact absurd rfl h2
        | cons c' pre =>
          obtain ⟨rfl, rfl⟩ : c = c' ∧ cs = pre ++ suf := by simpa using h1
          refine (mem_cF _ _ _).mpr ⟨pre, suf, rfl, by simp, ?_⟩
          rcases h2 with h2 | ⟨_, h2⟩
          · exact .inl h2
          · by_cases hp : pre = []
            · subst hp; rw [endS_snoc] at h2; exact absurd (by simpa using h2) hc
            · exact .inr ⟨hp, h2⟩

theorem pre_norm (p : List Nat) : p <+: normP p := by
  unfold normP
  split
  · exact List.prefix_refl _
  · exact List.prefix_append _ _
theorem norm_len (p : List Nat) : (normP p).length ≤ p.length + 1 := by
  unfold normP
  split
  · omega
  · simp
theorem Covers.pre {p a : List Nat} (h : Covers p a) : p <+: a := by
  rcases h with rfl | h
  · exact List.prefix_refl _
  · exact (pre_norm p).trans h
theorem pre_eq {p q : List Nat} (h : p <+: q) (hl : q.length ≤ p.length) : p = q := List.IsPrefix.eq_of_length_le h hl
theorem Covers.len {p q : List Nat} (h : Covers p q) (n : p ≠ q) : p.length < q.length := by
  rcases Nat.lt_or_ge p.length q.length with z | z
  · exact z
  · exact absurd (pre_eq h.pre z) n
theorem Covers.chain {p q a : List Nat} (hp : Covers p a) (hq : Covers q a) (hl : p.length ≤ q.length) : Covers p q := by
  have pq : p <+: q := List.prefix_of_prefix_length_le hp.pre hq.pre hl
  by_cases e : p = q
  · exact .inl e
  have lt : p.length < q.length := by
    rcases Nat.lt_or_ge p.length q.length with z | z
    · exact z
    · exact absurd (pre_eq pq z) e
  rcases hp with rfl | hp
  · exact absurd hq.pre.length_le (by omega)
  · exact .inr (List.prefix_of_prefix_length_le hp hq.pre (by have := norm_len p; omega))
theorem Covers.trans {p q r : List Nat} (h : Covers p q) (h' : Covers q r) : Covers p r := by
  rcases h with rfl | h
  · exact h'
  rcases h' with rfl | h'
  · exact .inr h
  · exact .inr (h.trans ((pre_norm q).trans h'))
theorem Covers.anti {p q : List Nat} (h : Covers p q) (h' : Covers q p) : p = q := pre_eq h.pre h'.pre.length_le
theorem endS_iff (p : List Nat) : endS p = true ↔ ∃ q, p = q ++ [47] := by
  unfold endS
  rw [beq_iff_eq, List.getLast?_eq_some_iff]
theorem mem_cand (a p : List Nat) : p ∈ cF [] a ↔ Covers p a := by
  rw [mem_cF]
  constructor
  · rintro ⟨pre, suf, rfl, rfl, h⟩
    rcases h with ⟨h1, rfl | h2⟩ | ⟨_, h⟩
    · exact .inl (List.append_nil _).symm
    · cases suf with
      | nil => cases h2
      | cons c r =>
        obtain rfl : c = 47 := by simpa using h2
        refine .inr ?_
        unfold normP
        rw [h1]
        exact ⟨r, by simp⟩
    · refine .inr ?_
      unfold normP
      rw [h]
      exact List.prefix_append _ _
  · rintro (rfl | h)
    · by_cases e : endS p = true
      · refine ⟨p, [], (List.append_nil _).symm, rfl, .inr ⟨?_, e⟩⟩
        intro z; rw [z] at e; cases e
      · exact ⟨p, [], (List.append_nil _).symm, rfl, .inl ⟨by simpa using e, .inl rfl⟩⟩
    · unfold normP at h
      by_cases e : endS p = true
      · rw [if_pos e] at h
        obtain ⟨r, rfl⟩ := h
        refine ⟨p, r, rfl, rfl, .inr ⟨?_, e⟩⟩
        intro z; rw [z] at e; cases e
      · rw [if_neg e] at h
        obtain ⟨r, rfl⟩ := h
        exact ⟨p, 47 :: r, by simp, rfl, .inl ⟨by simpa using e, .inr rfl⟩⟩
theorem startswith_iff (x y : Str) : Txt.startswith x y = true ↔ chs y <+: chs x := by
  unfold Txt.startswith
  rw [PySem.StrLaws.subAt_eq, List.drop_zero, Bool.and_eq_true, decide_eq_true_eq, beq_iff_eq]
  have hx : x.length = (chs x).length := by simp [Str.length]
  have hy : y.length = (chs y).length := by simp [Str.length]
  rw [hx, hy, Nat.zero_add]
  constructor
  · rintro ⟨_, h⟩
    show y.cps.toList <+: x.cps.toList
    rw [← h]
    exact List.take_prefix _ _
  · intro h
    exact ⟨h.length_le, (List.prefix_iff_eq_take.mp h).symm⟩
theorem drop_last (l : List Nat) : l.drop (l.length - 1) = [47] ↔ endS l = true := by
  rcases List.eq_nil_or_concat l with rfl | ⟨l', c, rfl⟩
  · simp [endS]
  · rw [List.concat_eq_append, endS_snoc, List.length_append, List.length_singleton, Nat.add_sub_cancel, List.drop_left]
    simp
theorem slash_ne (y : Str) : (Txt.slice y (some (-1)) none != Str.ofString "/") = !endS (chs y) := by
  have e : (Txt.slice y (some (-1)) none = Str.ofString "/") ↔ endS (chs y) = true := by
    rw [← drop_last, ← slice_last, show [47] = chs (Str.ofString "/") by decide]
    exact ⟨fun h => by rw [h], fun h => str_ext h⟩
  rw [Bool.eq_iff_iff, bne_iff_ne, Bool.not_eq_true', Ne, e]
  simp

/-- an entry of a book: a child, or a mark -/
inductive Ent where
  | kid (a : Addr)
  | mark (n : Nat)
def EntIs : Ent → Value → Prop
  | .kid a, v => v = .ref a
  | .mark n, v => ∃ t, v = .int (n : Nat) t
abbrev KV := List (Str × Ent)
def EsAre : List DictEntry → KV → Prop
  | [], [] => True
  | e :: es, p :: kv => (∃ t, e.key = .str p.1 t) ∧ EntIs p.2 e.val ∧ EsAre es kv
  | _, _ => False
theorem EsAre.len : ∀ {es : List DictEntry} {kv : KV}, EsAre es kv → es.length = kv.length
  | [], [], _ => rfl
  | _ :: _, _ :: _, ⟨_, _, h⟩ => congrArg (· + 1) h.len
  | [], _ :: _, h => h.elim
  | _ :: _, [], h => h.elim
theorem EsAre.all : ∀ {es : List DictEntry} {kv : KV}, EsAre es kv → (es.all fun e => isExactStrKey e.key) = true
  | [], [], _ => rfl
  | _ :: _, _ :: _, ⟨⟨_, h1⟩, _, h⟩ => by rw [List.all_cons, h1, h.all]; rfl
  | [], _ :: _, h => h.elim
  | _ :: _, [], h => h.elim
theorem isStr_str (x k : Str) (t : Tok) : (Value.str x t).isStr k = (x == k) := rfl
theorem EsAre.find {k : Str} : ∀ {es : List DictEntry} {kv : KV}, EsAre es kv → (es.find? (fun e => e.key.isStr k) = none ∧ kv.lookup k = none) ∨ ∃ e ent, es.find? (fun e => e.key.isStr k) = some e ∧ kv.lookup k = some ent ∧ EntIs ent e.val
  | [], [], _ => .inl ⟨rfl, rfl⟩
  | e :: es, p :: kv, ⟨⟨t, h1⟩, h2, h⟩ => by
    rw [List.find?_cons, h1, isStr_str, List.lookup_cons]
    by_cases z : p.1 = k
    · subst z
      simp only [beq_self_eq_true]
      exact .inr ⟨_, _, rfl, rfl, h2⟩
    · have z1 : (p.1 == k) = false := beq_eq_false_iff_ne.mpr z
      have z2 : (k == p.1) = false := beq_eq_false_iff_ne.mpr fun e => z e.symm
      rw [z1, z2]
      exact h.find
  | [], _ :: _, h => h.elim
  | _ :: _, [], h => h.elim
theorem EsAre.push {k : Str} {t : Tok} {hs : Int} {v : Value} {ent : Ent} (hv : EntIs ent v) : ∀ {es : List DictEntry} {kv : KV}, EsAre es kv → EsAre (es ++ [⟨hs, .str k t, v⟩]) (kv ++ [(k, ent)])
  | [], [], _ => ⟨⟨t, rfl⟩, hv, trivial⟩
  | _ :: _, _ :: _, ⟨h1, h2, h⟩ => ⟨h1, h2, h.push hv⟩
  | [], _ :: _, h => h.elim
  | _ :: _, [], h => h.elim
/-- another entry under a key, at its place or at the end -/
def updKV (key : Str) (e : Ent) : KV → KV
  | [] => [(key, e)]
  | p :: r => if p.1 = key then (p.1, e) :: r else p :: updKV key e r
theorem EsAre.upd {k : Str} {t : Tok} {hs : Int} {v : Value} {ent : Ent} (hv : EntIs ent v) : ∀ {es : List DictEntry} {kv : KV}, EsAre es kv →
    (es.findIdx? (fun e => e.key.isStr k) = none ∧ EsAre (es ++ [⟨hs, .str k t, v⟩]) (updKV k ent kv)) ∨ ∃ i, es.findIdx? (fun e => e.key.isStr k) = some i ∧ EsAre (es.modify i fun e => { e with val := v }) (updKV k ent kv)
  | [], [], _ => .inl ⟨rfl, ⟨⟨t, rfl⟩, hv, trivial⟩⟩
  | e :: es, p :: kv, ⟨⟨t', h1⟩, h2, h⟩ => by
    unfold updKV
    rw [List.findIdx?_cons, h1, isStr_str]
    by_cases z : p.1 = k
    · rw [if_pos z, if_pos (by rw [z]; exact beq_self_eq_true _)]
      exact .inr ⟨0, rfl, ⟨t', h1⟩, hv, h⟩
    · rw [if_neg z, if_neg (by rw [beq_iff_eq]; exact z)]
      rcases h.upd (k := k) (t := t) (hs := hs) hv with ⟨a, b⟩ | ⟨i, a, b⟩
      · rw [a]; exact .inl ⟨rfl, ⟨t', h1⟩, h2, b⟩
      · rw [a]; exact .inr ⟨i + 1, rfl, ⟨t', h1⟩, h2, b⟩
  | [], _ :: _, h => h.elim
  | _ :: _, [], h => h.elim
theorem updKV_keys {key : Str} {e : Ent} : ∀ {kv : KV}, (updKV key e kv).map (·.1) = if key ∈ kv.map (·.1) then kv.map (·.1) else kv.map (·.1) ++ [key]
  | [] => rfl
  | p :: r => by
    unfold updKV
    by_cases z : p.1 = key
    · rw [if_pos z, if_pos (by rw [← z]; exact .head _)]; rfl
    · rw [if_neg z, List.map_cons, updKV_keys]
      by_cases z2 : key ∈ r.map (·.1)
      · rw [if_pos z2, if_pos (.tail _ z2)]; rfl
      · rw [if_neg z2, if_neg]
        · rfl
        · intro h
          rcases List.mem_cons.mp h with h | h
          · exact z h.symm
          · exact z2 h
theorem updKV_mem {key : Str} {e : Ent} {p : Str × Ent} : ∀ {kv : KV}, p ∈ updKV key e kv → p ∈ kv ∨ p = (key, e)
  | [], h => .inr (List.mem_singleton.mp h)
  | q :: r, h => by
    unfold updKV at h
    by_cases z : q.1 = key
    · rw [if_pos z] at h
      rcases List.mem_cons.mp h with h | h
      · exact .inr (by rw [h, z])
      · exact .inl (.tail _ h)
    · rw [if_neg z] at h
      rcases List.mem_cons.mp h with h | h
      · exact .inl (by rw [h]; exact .head _)
      · rcases updKV_mem h with h | h
        · exact .inl (.tail _ h)
        · exact .inr h
theorem mem_updKV {key : Str} {e : Ent} {p : Str × Ent} (n : p.1 ≠ key) : ∀ {kv : KV}, p ∈ kv → p ∈ updKV key e kv
  | q :: r, h => by
    unfold updKV
    by_cases z : q.1 = key
    · rw [if_pos z]
      rcases List.mem_cons.mp h with h | h
      · rw [h] at n; exact absurd z n
      · exact .tail _ h
    · rw [if_neg z]
      rcases List.mem_cons.mp h with h | h
      · rw [h]; exact .head _
      · exact .tail _ (mem_updKV n h)
theorem updKV_lookup {key k : Str} {e : Ent} : ∀ {kv : KV}, (updKV key e kv).lookup k = if k = key then some e else kv.lookup k
  | [] => by
    unfold updKV
    rw [List.lookup_cons]
    by_cases z : k = key
    · rw [if_pos z, z]; simp
    · rw [if_neg z, beq_eq_false_iff_ne.mpr z]
  | p :: r => by
    unfold updKV
    by_cases z : p.1 = key
    · rw [if_pos z, List.lookup_cons, List.lookup_cons]
      by_cases y : k = key
      · rw [if_pos y, y, z]; simp
      · rw [if_neg y, beq_eq_false_iff_ne.mpr (by rw [z]; exact y)]
    · rw [if_neg z, List.lookup_cons, List.lookup_cons, updKV_lookup]
      by_cases y : k = p.1
      · rw [beq_iff_eq.mpr y]
        exact (if_neg (fun h => z (y.symm.trans h))).symm
      · rw [beq_eq_false_iff_ne.mpr y]
theorem lookup_mem {k : Str} {e : Ent} : ∀ {kv : KV}, kv.lookup k = some e → (k, e) ∈ kv
  | p :: r, h => by
    rw [List.lookup_cons] at h
    by_cases y : k = p.1
    · rw [beq_iff_eq.mpr y] at h
      have := Option.some.inj h
      subst this; subst y
      exact .head _
    · rw [beq_eq_false_iff_ne.mpr y] at h
      exact .tail _ (lookup_mem h)
theorem lookup_none {k : Str} : ∀ {kv : KV}, kv.lookup k = none → k ∉ kv.map (·.1)
  | [], _ => by simp
  | p :: r, h => by
    rw [List.lookup_cons] at h
    by_cases y : k = p.1
    · rw [beq_iff_eq.mpr y] at h; cases h
    · rw [beq_eq_false_iff_ne.mpr y] at h
      intro hm
      rcases List.mem_cons.mp hm with hm | hm
      · exact y hm
      · exact lookup_none h hm
theorem lookup_of_mem {k : Str} {e : Ent} : ∀ {kv : KV}, (kv.map (·.1)).Nodup → (k, e) ∈ kv → kv.lookup k = some e
  | p :: r, nd, h => by
    rw [List.lookup_cons]
    obtain ⟨n1, n2⟩ := List.nodup_cons.mp nd
    rcases List.mem_cons.mp h with h | h
    · rw [← h]; simp
    · have : k ≠ p.1 := fun z => n1 (List.mem_map.mpr ⟨_, h, z⟩)
      rw [beq_eq_false_iff_ne.mpr this]
      exact lookup_of_mem n2 h
theorem lookup_snoc {k key : Str} {e : Ent} (n : k ≠ key) : ∀ {kv : KV}, (kv ++ [(key, e)]).lookup k = kv.lookup k
  | [] => by simp [n]
  | p :: r => by
    rw [List.cons_append, List.lookup_cons, List.lookup_cons, lookup_snoc n]
/-- a book of the tree: its way down, its address, its dict's address, what it holds -/
structure Nd where
  path : List Str
  a : Addr
  dx : Addr
  kv : KV
def kWhole : Str := "whole"
def kBelow : Str := "below"
/-- a tree in parts -/
structure TreeOk (S : List Nd) (N : Nat) : Prop where
  root : [] ∈ S.map (·.path)
  paths : (S.map (·.path)).Nodup
  addrs : (S.map (·.a)).Nodup
  dxs : (S.map (·.dx)).Nodup
  keys : ∀ nd ∈ S, (nd.kv.map (·.1)).Nodup
  kids : ∀ nd ∈ S, ∀ k x, (k, Ent.kid x) ∈ nd.kv → (∃ c ∈ S, c.a = x ∧ c.path = nd.path ++ [k]) ∧ k ≠ kWhole ∧ k ≠ kBelow
  up : ∀ c ∈ S, c.path ≠ [] → ∃ nd ∈ S, ∃ k, c.path = nd.path ++ [k] ∧ (k, Ent.kid c.a) ∈ nd.kv
  marks : ∀ nd ∈ S, ∀ k n, (k, Ent.mark n) ∈ nd.kv → k = kWhole ∨ k = kBelow
  size : ∀ nd ∈ S, nd.kv.length ≤ N
def modNd (S : List Nd) (q : List Str) (f : KV → KV) : List Nd := S.map fun c => if c.path = q then { c with kv := f c.kv } else c
theorem mod_path {S : List Nd} {q : List Str} {f : KV → KV} : (modNd S q f).map (·.path) = S.map (·.path) := by
  unfold modNd; rw [List.map_map]; congr 1; funext c; show (if c.path = q then _ else _ : Nd).path = _; split <;> rfl
theorem mod_a {S : List Nd} {q : List Str} {f : KV → KV} : (modNd S q f).map (·.a) = S.map (·.a) := by
  unfold modNd; rw [List.map_map]; congr 1; funext c; show (if c.path = q then _ else _ : Nd).a = _; split <;> rfl
theorem mod_dx {S : List Nd} {q : List Str} {f : KV → KV} : (modNd S q f).map (·.dx) = S.map (·.dx) := by
  unfold modNd; rw [List.map_map]; congr 1; funext c; show (if c.path = q then _ else _ : Nd).dx = _; split <;> rfl
theorem mem_mod {S : List Nd} {q : List Str} {f : KV → KV} {c : Nd} : c ∈ modNd S q f ↔ (c ∈ S ∧ c.path ≠ q) ∨ ∃ c0 ∈ S, c0.path = q ∧ c = { c0 with kv := f c0.kv } := by
  unfold modNd
  rw [List.mem_map]
  constructor
  · rintro ⟨c0, h, e⟩
    by_cases z : c0.path = q
    · rw [if_pos z] at e; exact .inr ⟨c0, h, z, e.symm⟩
    · rw [if_neg z] at e; subst e; exact .inl ⟨h, z⟩
  · rintro (⟨h, z⟩ | ⟨c0, h, z, e⟩)
    · exact ⟨c, h, if_neg z⟩
    · exact ⟨c0, h, by rw [if_pos z, e]⟩
theorem TreeOk.same {S : List Nd} {N : Nat} (ok : TreeOk S N) {c d : Nd} (hc : c ∈ S) (hd : d ∈ S) (e : c.path = d.path) : c = d := by
  obtain ⟨i, hi, ei⟩ := List.getElem_of_mem hc
  obtain ⟨j, hj, ej⟩ := List.getElem_of_mem hd
  have hij : i = j := by
    have := ok.paths
    rw [List.nodup_iff_pairwise_ne, List.pairwise_map, List.pairwise_iff_getElem] at this
    rcases Nat.lt_trichotomy i j with z | z | z
    · exact absurd (by rw [ei, ej]; exact e) (this i j hi hj z)
    · exact z
    · exact absurd (by rw [ei, ej]; exact e.symm) (this j i hj hi z)
  subst hij
  exact ei.symm.trans ej
/-- a new child under the book at `q` -/
def addKid (S : List Nd) (q : List Str) (k : Str) (x dx : Addr) : List Nd := modNd S q (fun kv => kv ++ [(k, .kid x)]) ++ [⟨q ++ [k], x, dx, []⟩]
theorem addKid_path {S : List Nd} {q : List Str} {k : Str} {x dx : Addr} : (addKid S q k x dx).map (·.path) = S.map (·.path) ++ [q ++ [k]] := by
  unfold addKid; rw [List.map_append, mod_path]; rfl
theorem TreeOk.addKid {S : List Nd} {N : Nat} (ok : TreeOk S N) {q : List Str} {k : Str} {x dx : Addr} (hq : q ∈ S.map (·.path)) (hk : q ++ [k] ∉ S.map (·.path)) (kk : k ≠ kWhole ∧ k ≠ kBelow) (hx : x ∉ S.map (·.a)) (hd : dx ∉ S.map (·.dx)) : TreeOk (addKid S q k x dx) (N + 1) := by
  have nq : q ++ [k] ≠ q := fun e => by have := congrArg List.length e; simp at this
  have snoc {α : Type} {l : List α} {y : α} (h : l.Nodup) (hy : y ∉ l) : (l ++ [y]).Nodup := List.nodup_append.mpr ⟨h, by simp, fun a ha b hb => by rw [List.mem_singleton.mp hb]; intro e; exact hy (e ▸ ha)⟩
  have memA : ∀ {c : Nd}, c ∈ Mine.addKid S q k x dx ↔ ((c ∈ S ∧ c.path ≠ q) ∨ ∃ c0 ∈ S, c0.path = q ∧ c = { c0 with kv := c0.kv ++ [(k, .kid x)] }) ∨ c = ⟨q ++ [k], x, dx, []⟩ := by
    intro c; unfold Mine.addKid; rw [List.mem_append, mem_mod, List.mem_singleton]
  have keep : ∀ {c : Nd}, c ∈ S → ∃ c' ∈ Mine.addKid S q k x dx, c'.path = c.path ∧ c'.a = c.a ∧ ∀ p ∈ c.kv, p ∈ c'.kv := fun {c} hc => by
    by_cases z : c.path = q
    · exact ⟨_, memA.mpr (.inl (.inr ⟨c, hc, z, rfl⟩)), rfl, rfl, fun p hp => List.mem_append_left _ hp⟩
    · exact ⟨c, memA.mpr (.inl (.inl ⟨hc, z⟩)), rfl, rfl, fun p hp => hp⟩
  refine ⟨?_, ?_, ?_, ?_, ?_, ?_, ?_, ?_, ?_⟩
  · rw [addKid_path]; exact List.mem_append_left _ ok.root
  · rw [addKid_path]; exact snoc ok.paths hk
  · show ((modNd S q _ ++ [_]).map _).Nodup
    rw [List.map_append, mod_a]; exact snoc ok.addrs hx
  · show ((modNd S q _ ++ [_]).map _).Nodup
    rw [List.map_append, mod_dx]; exact snoc ok.dxs hd
  · intro c hc
    rcases memA.mp hc with (⟨h, _⟩ | ⟨c0, h, z, rfl⟩) | rfl
    · exact ok.keys c h
    · show ((c0.kv ++ [_]).map _).Nodup
      rw [List.map_append]
      refine snoc (ok.keys c0 h) fun hm => ?_
      obtain ⟨⟨k', e⟩, hp, rfl⟩ := List.mem_map.mp hm
      cases e with
      | kid y =>
        obtain ⟨⟨c1, h1, _, p1⟩, _⟩ := ok.kids c0 h _ y hp
        exact hk (List.mem_map.mpr ⟨c1, h1, by rw [p1, z]⟩)
      | mark n => exact (ok.marks c0 h _ n hp).elim kk.1 kk.2
    · exact List.nodup_nil
  · intro c hc k' x' hp
    have old : ∀ {c0 : Nd}, c0 ∈ S → (k', Ent.kid x') ∈ c0.kv → (∃ d ∈ Mine.addKid S q k x dx, d.a = x' ∧ d.path = c0.path ++ [k']) ∧ k' ≠ kWhole ∧ k' ≠ kBelow := fun {c0} h hp => by
      obtain ⟨⟨d, hd1, hd2, hd3⟩, h2⟩ := ok.kids c0 h k' x' hp
      obtain ⟨d', e1, e2, e3, _⟩ := keep hd1
      exact ⟨⟨d', e1, e3.trans hd2, e2.trans hd3⟩, h2⟩
    rcases memA.mp hc with (⟨h, _⟩ | ⟨c0, h, z, rfl⟩) | rfl
    · exact old h hp
    · rcases List.mem_append.mp hp with hp | hp
      · exact old (c0 := c0) h hp
      · obtain ⟨rfl, e⟩ := Prod.mk.inj (List.mem_singleton.mp hp)
        cases e
        exact ⟨⟨_, memA.mpr (.inr rfl), rfl, by show _ = c0.path ++ _; rw [z]⟩, kk⟩
    · cases hp
  · intro c hc hne
    have old : ∀ {c0 : Nd}, c0 ∈ S → c0.path ≠ [] → ∃ nd ∈ Mine.addKid S q k x dx, ∃ k', c0.path = nd.path ++ [k'] ∧ (k', Ent.kid c0.a) ∈ nd.kv := fun {c0} h hne => by
      obtain ⟨nd, h1, k', h2, h3⟩ := ok.up c0 h hne
      obtain ⟨d', e1, e2, _, e4⟩ := keep h1
      exact ⟨d', e1, k', by rw [e2]; exact h2, e4 _ h3⟩
    rcases memA.mp hc with (⟨h, _⟩ | ⟨c0, h, z, rfl⟩) | rfl
    · exact old h hne
    · exact old (c0 := c0) h hne
    · obtain ⟨c0, h0, z⟩ := List.mem_map.mp hq
      exact ⟨_, memA.mpr (.inl (.inr ⟨c0, h0, z, rfl⟩)), k, by show _ = c0.path ++ _; rw [z], List.mem_append_right _ (.head _)⟩
  · intro c hc k' n hp
    rcases memA.mp hc with (⟨h, _⟩ | ⟨c0, h, z, rfl⟩) | rfl
    · exact ok.marks c h k' n hp
    · rcases List.mem_append.mp hp with hp | hp
      · exact ok.marks c0 h k' n hp
      · obtain ⟨_, e⟩ := Prod.mk.inj (List.mem_singleton.mp hp)
        cases e
    · cases hp
  · intro c hc
    rcases memA.mp hc with (⟨h, _⟩ | ⟨c0, h, z, rfl⟩) | rfl
    · exact Nat.le_succ_of_le (ok.size c h)
    · show (c0.kv ++ [_]).length ≤ _
      rw [List.length_append, List.length_singleton]
      exact Nat.succ_le_succ (ok.size c0 h)
    · exact Nat.zero_le _
theorem TreeOk.setMark {S : List Nd} {N : Nat} (ok : TreeOk S N) {q : List Str} {key : Str} {n : Nat} (hk : key = kWhole ∨ key = kBelow) : TreeOk (modNd S q (updKV key (.mark n))) (N + 1) := by
  have keep : ∀ {c : Nd}, c ∈ S → ∃ c' ∈ modNd S q (updKV key (.mark n)), c'.path = c.path ∧ c'.a = c.a ∧ ∀ p ∈ c.kv, p.1 ≠ key → p ∈ c'.kv := fun {c} hc => by
    by_cases z : c.path = q
    · exact ⟨_, mem_mod.mpr (.inr ⟨c, hc, z, rfl⟩), rfl, rfl, fun p hp hn => mem_updKV hn hp⟩
    · exact ⟨c, mem_mod.mpr (.inl ⟨hc, z⟩), rfl, rfl, fun p hp _ => hp⟩
  have nk : ∀ {c : Nd} {k x}, c ∈ S → (k, Ent.kid x) ∈ c.kv → k ≠ key := fun {c k x} h hp e => by
    obtain ⟨_, h2⟩ := ok.kids c h k x hp
    rcases hk with z | z
    · exact h2.1 (e.trans z)
    · exact h2.2 (e.trans z)
  refine ⟨by rw [mod_path]; exact ok.root, by rw [mod_path]; exact ok.paths, by rw [mod_a]; exact ok.addrs, by rw [mod_dx]; exact ok.dxs, ?_, ?_, ?_, ?_, ?_⟩
  · intro c hc
    rcases mem_mod.mp hc with ⟨h, _⟩ | ⟨c0, h, z, rfl⟩
    · exact ok.keys c h
    · show ((updKV _ _ _).map _).Nodup
      rw [updKV_keys]
      split
      · exact ok.keys c0 h
      · rename_i hn
        exact List.nodup_append.mpr ⟨ok.keys c0 h, by simp, fun a ha b hb => by rw [List.mem_singleton.mp hb]; intro e; exact hn (e ▸ ha)⟩
  · intro c hc k' x' hp
    have old : ∀ {c0 : Nd}, c0 ∈ S → (k', Ent.kid x') ∈ c0.kv → (∃ d ∈ modNd S q (updKV key (.mark n)), d.a = x' ∧ d.path = c0.path ++ [k']) ∧ k' ≠ kWhole ∧ k' ≠ kBelow := fun {c0} h hp => by
      obtain ⟨⟨d, hd1, hd2, hd3⟩, h2⟩ := ok.kids c0 h k' x' hp
      obtain ⟨d', e1, e2, e3, _⟩ := keep hd1
      exact ⟨⟨d', e1, e3.trans hd2, e2.trans hd3⟩, h2⟩
    rcases mem_mod.mp hc with ⟨h, _⟩ | ⟨c0, h, z, rfl⟩
    · exact old h hp
    · rcases updKV_mem hp with hp | hp
      · exact old (c0 := c0) h hp
      · cases (Prod.mk.inj hp).2
  · intro c hc hne
    have old : ∀ {c0 : Nd}, c0 ∈ S → c0.path ≠ [] → ∃ nd ∈ modNd S q (updKV key (.mark n)), ∃ k', c0.path = nd.path ++ [k'] ∧ (k', Ent.kid c0.a) ∈ nd.kv := fun {c0} h hne => by
      obtain ⟨nd, h1, k', h2, h3⟩ := ok.up c0 h hne
      obtain ⟨d', e1, e2, _, e4⟩ := keep h1
      exact ⟨d', e1, k', by rw [e2]; exact h2, e4 _ h3 (nk h1 h3)⟩
    rcases mem_mod.mp hc with ⟨h, _⟩ | ⟨c0, h, z, rfl⟩
    · exact old h hne
    · exact old (c0 := c0) h hne
  · intro c hc k' n' hp
    rcases mem_mod.mp hc with ⟨h, _⟩ | ⟨c0, h, z, rfl⟩
    · exact ok.marks c h k' n' hp
    · rcases updKV_mem hp with hp | hp
      · exact ok.marks c0 h k' n' hp
      · rw [(Prod.mk.inj hp).1]; exact hk
  · intro c hc
    rcases mem_mod.mp hc with ⟨h, _⟩ | ⟨c0, h, z, rfl⟩
    · exact Nat.le_succ_of_le (ok.size c h)
    · have e : (updKV key (.mark n) c0.kv).length = ((updKV key (.mark n) c0.kv).map (·.1)).length := (List.length_map ..).symm
      show (updKV key (.mark n) c0.kv).length ≤ _
      rw [e, updKV_keys]
      have := ok.size c0 h
      split
      · rw [List.length_map]; omega
      · rw [List.length_append, List.length_map, List.length_singleton]; omega

def jn : List (List Nat) → List Nat
  | [] => []
  | [p] => p
  | p :: q :: r => p ++ 47 :: jn (q :: r)
def spl : List Nat → List (List Nat)
  | [] => [[]]
  | c :: cs => if c = 47 then [] :: spl cs else match spl cs with
    | [] => [[c]]
    | p :: r => (c :: p) :: r
theorem spl_cons (c : Nat) (cs : List Nat) : spl (c :: cs) = if c = 47 then [] :: spl cs else match spl cs with
    | [] => [[c]]
    | p :: r => (c :: p) :: r := rfl
theorem spl_ne (s : List Nat) : spl s ≠ [] := by
  cases s with
  | nil => simp [spl]
  | cons c cs =>
    unfold spl
    split
    · simp
    · split <;> simp
theorem spl_free_app (p : List Nat) (h : 47 ∉ p) (s : List Nat) : spl (p ++ 47 :: s) = p :: spl s := by
  induction p with
  | nil => rw [List.nil_append, spl_cons, if_pos rfl]
  | cons c p ih =>
    have hc : c ≠ 47 := fun e => h (by rw [e]; exact .head _)
    rw [List.cons_append, spl_cons, if_neg hc, ih fun z => h (.tail _ z)]
theorem spl_free (p : List Nat) (h : 47 ∉ p) : spl p = [p] := by
  induction p with
  | nil => rfl
  | cons c p ih =>
    have hc : c ≠ 47 := fun e => h (by rw [e]; exact .head _)
    rw [spl_cons, if_neg hc, ih fun z => h (.tail _ z)]
def SF (ps : List (List Nat)) : Prop := ∀ p ∈ ps, 47 ∉ p
theorem spl_jn : ∀ {ps : List (List Nat)}, ps ≠ [] → SF ps → spl (jn ps) = ps
  | [], n, _ => absurd rfl n
  | [p], _, h => spl_free p (h p (.head _))
  | p :: q :: r, _, h => by
    show spl (p ++ 47 :: jn (q :: r)) = _
    rw [spl_free_app p (h p (.head _)), spl_jn (by simp) fun x hx => h x (.tail _ hx)]
theorem jn_spl : ∀ s : List Nat, jn (spl s) = s
  | [] => rfl
  | c :: cs => by
    unfold spl
    by_cases hc : c = 47
    · rw [if_pos hc]
      cases e : spl cs with
      | nil => exact absurd e (spl_ne cs)
      | cons p r =>
        show [] ++ 47 :: jn (p :: r) = _
        rw [← e, jn_spl cs, hc]; rfl
    · rw [if_neg hc]
      have ih := jn_spl cs
      cases e : spl cs with
      | nil => exact absurd e (spl_ne cs)
      | cons p r =>
        rw [e] at ih
        cases r with
        | nil => show c :: p = _; rw [← ih]; rfl
        | cons q r => show (c :: p) ++ 47 :: jn (q :: r) = _; rw [← ih]; rfl
theorem spl_SF : ∀ s : List Nat, SF (spl s)
  | [] => fun p hp => by rw [List.mem_singleton.mp hp]; simp
  | c :: cs => fun p hp => by
    have ih := spl_SF cs
    unfold spl at hp
    by_cases hc : c = 47
    · rw [if_pos hc] at hp
      rcases List.mem_cons.mp hp with rfl | hp
      · simp
      · exact ih p hp
    · rw [if_neg hc] at hp
      cases e : spl cs with
      | nil => exact absurd e (spl_ne cs)
      | cons q r =>
        rw [e] at hp ih
        rcases List.mem_cons.mp hp with rfl | hp
        · intro z
          rcases List.mem_cons.mp z with z | z
          · exact hc z.symm
          · exact ih q (.head _) z
        · exact ih p (.tail _ hp)
theorem jn_ends {ps : List (List Nat)} {p : List Nat} (h : ps ≠ []) : jn (ps ++ [p]) = jn ps ++ 47 :: p := by
  induction ps with
  | nil => exact absurd rfl h
  | cons a r ih =>
    cases r with
    | nil => rfl
    | cons b r => show a ++ 47 :: jn (b :: r ++ [p]) = a ++ 47 :: jn (b :: r) ++ 47 :: p; rw [ih (by simp)]; simp
/-- what a telling of a rule marks -/
abbrev Mk := Str → List Str → Str → Option Nat
abbrev sl (p : Str) : Str := Str.ofString "/" ++ p
def SFs (ps : List Str) : Prop := ∀ p ∈ ps, 47 ∉ chs p
theorem SFs.SF {ps : List Str} (h : SFs ps) : SF (ps.map chs) := fun p hp => by
  obtain ⟨x, hx, rfl⟩ := List.mem_map.mp hp
  exact h x hx
def mkS (s : List Nat) : Str := ⟨s.toArray⟩
theorem chs_mkS (s : List Nat) : chs (mkS s) = s := by simp [mkS]
theorem mkS_chs (x : Str) : mkS (chs x) = x := str_ext (by simp [mkS])
theorem map_chs_inj {a b : List Str} (h : a.map chs = b.map chs) : a = b := by
  have := congrArg (List.map mkS) h
  rw [List.map_map, List.map_map] at this
  have e : ∀ l : List Str, l.map (mkS ∘ chs) = l := fun l => by
    rw [show (mkS ∘ chs : Str → Str) = fun x => x by funext x; exact mkS_chs x, List.map_id']
  rwa [e, e] at this
theorem chs_sl (p : Str) : chs (sl p) = 47 :: chs p := by
  show (Str.ofString "/" ++ p).cps.toList = _
  rw [Str.cps_append, Array.toList_append]
  rfl
theorem sl_inj {a b : List Str} (h : a.map sl = b.map sl) : a = b := by
  have h2 := congrArg (List.map fun x => (chs x).drop 1) h
  rw [List.map_map, List.map_map] at h2
  have e : ((fun x : Str => (chs x).drop 1) ∘ sl) = chs := by funext x; show (chs (sl x)).drop 1 = _; rw [chs_sl]; rfl
  rw [e] at h2
  exact map_chs_inj h2
def mkT (T : Str × Str → Option Nat) : Mk := fun h ps key =>
  if ps = [] then none else if key = kWhole then (if endS (jn (ps.map chs)) then none else T (h, mkS (jn (ps.map chs)))) else T (h, mkS (jn (ps.map chs) ++ [47]))
/-- where the telling of a rule sets its mark -/
def baseOf (p : Str) : List Nat := if endS (chs p) then (chs p).dropLast else chs p
def piecesOf (s : List Nat) : List Str := (spl s).map mkS
def keyOf (p : Str) : Str := if endS (chs p) then kBelow else kWhole
theorem pieces_chs (s : List Nat) : (piecesOf s).map chs = spl s := by
  unfold piecesOf
  rw [List.map_map, show (chs ∘ mkS : List Nat → List Nat) = fun x => x by funext x; exact chs_mkS x, List.map_id']
theorem pieces_jn (s : List Nat) : jn ((piecesOf s).map chs) = s := by rw [pieces_chs, jn_spl]
theorem pieces_ne (s : List Nat) : piecesOf s ≠ [] := fun h => spl_ne s (List.map_eq_nil_iff.mp h)
theorem pieces_SF (s : List Nat) : SFs (piecesOf s) := fun p hp => by
  obtain ⟨x, hx, rfl⟩ := List.mem_map.mp hp
  rw [chs_mkS]; exact spl_SF s x hx
theorem pieces_of {ps : List Str} (h : SFs ps) (n : ps ≠ []) : piecesOf (jn (ps.map chs)) = ps := by
  refine map_chs_inj ?_
  rw [pieces_chs, spl_jn (by simpa using n) h.SF]
theorem endS_drop {s : List Nat} (h : endS s = true) : s = s.dropLast ++ [47] := by
  obtain ⟨q, rfl⟩ := (endS_iff s).mp h
  simp
theorem whole_ne : kWhole ≠ kBelow := by decide
theorem mkT_up {T : Str × Str → Option Nat} {h0 p0 : Str} {n : Nat} {h : Str} {ps : List Str} {key : Str} (hs : SFs ps) (hk : key = kWhole ∨ key = kBelow) :
    mkT (fun r' => if r' = (h0, p0) then some n else T r') h ps key = if h = h0 ∧ ps = piecesOf (baseOf p0) ∧ key = keyOf p0 then some n else mkT T h ps key := by
  unfold mkT
  dsimp only
  by_cases e0 : ps = []
  · rw [if_pos e0, if_neg, if_pos e0]
    rintro ⟨_, h2, _⟩
    exact pieces_ne _ (h2.symm.trans e0)
  rw [if_neg e0, if_neg e0]
  have pj : mkS (jn (ps.map chs)) = p0 ↔ jn (ps.map chs) = chs p0 := ⟨fun e => by rw [← e, chs_mkS], fun e => by rw [e, mkS_chs]⟩
  have pj2 : mkS (jn (ps.map chs) ++ [47]) = p0 ↔ jn (ps.map chs) ++ [47] = chs p0 := ⟨fun e => by rw [← e, chs_mkS], fun e => by rw [e, mkS_chs]⟩
  have ej : endS (jn (ps.map chs) ++ [47]) = true := by rw [endS_snoc]; rfl
  rcases hk with rfl | rfl
  · rw [if_pos rfl, if_pos rfl]
    by_cases e1 : endS (jn (ps.map chs)) = true
    · rw [if_pos e1, if_pos e1, if_neg]
      rintro ⟨_, h2, h3⟩
      unfold keyOf at h3
      by_cases e2 : endS (chs p0) = true
      · rw [if_pos e2] at h3; exact whole_ne h3
      · rw [h2, pieces_jn] at e1
        unfold baseOf at e1
        rw [if_neg e2] at e1
        exact e2 e1
    · rw [if_neg e1, if_neg e1]
      by_cases e2 : h = h0 ∧ jn (ps.map chs) = chs p0
      · obtain ⟨rfl, e2⟩ := e2
        rw [if_pos (by rw [pj.mpr e2]), if_pos]
        have e3 : ¬ endS (chs p0) = true := by rw [← e2]; exact e1
        refine ⟨rfl, ?_, by unfold keyOf; rw [if_neg e3]⟩
        unfold baseOf
        rw [if_neg e3, ← e2, pieces_of hs e0]
      · rw [if_neg, if_neg]
        · rintro ⟨h1, h2, h3⟩
          refine e2 ⟨h1, ?_⟩
          unfold keyOf at h3
          by_cases e3 : endS (chs p0) = true
          · rw [if_pos e3] at h3; exact absurd h3 whole_ne
          · rw [h2, pieces_jn]; unfold baseOf; rw [if_neg e3]
        · intro z
          obtain ⟨a, b⟩ := Prod.mk.inj z
          exact e2 ⟨a, pj.mp b⟩
  · rw [if_neg (Ne.symm whole_ne), if_neg (Ne.symm whole_ne)]
    by_cases e2 : h = h0 ∧ jn (ps.map chs) ++ [47] = chs p0
    · obtain ⟨rfl, e2⟩ := e2
      rw [if_pos (by rw [pj2.mpr e2]), if_pos]
      have e3 : endS (chs p0) = true := by rw [← e2]; exact ej
      refine ⟨rfl, ?_, by unfold keyOf; rw [if_pos e3]⟩
      unfold baseOf
      rw [if_pos e3, ← e2, List.dropLast_concat, pieces_of hs e0]
    · rw [if_neg, if_neg]
      · rintro ⟨h1, h2, h3⟩
        refine e2 ⟨h1, ?_⟩
        unfold keyOf at h3
        by_cases e3 : endS (chs p0) = true
        · rw [h2, pieces_jn]; unfold baseOf; rw [if_pos e3]; exact (endS_drop e3).symm
        · rw [if_neg e3] at h3; exact absurd h3.symm whole_ne
      · intro z
        obtain ⟨a, b⟩ := Prod.mk.inj z
        exact e2 ⟨a, pj2.mp b⟩
/-- what `_law_way` has found after `k` pieces -/
def fnd (mk : Mk) (h : Str) (A : List Str) : Nat → List Nat
  | 0 => []
  | k + 1 => (if k + 1 < A.length then (mk h (A.take (k + 1)) kBelow).toList else []) ++ ((mk h (A.take (k + 1)) kWhole).toList ++ fnd mk h A k)
def cH (A : List (List Nat)) : Nat → List (List Nat)
  | 0 => []
  | k + 1 => cH A k ++ (cW (jn (A.take (k + 1))) ++ if k + 1 < A.length then [jn (A.take (k + 1)) ++ [47]] else [])
theorem fnd_cH {T : Str × Str → Option Nat} {h : Str} {A : List Str} : ∀ k, k ≤ A.length → fnd (mkT T) h A k = ((cH (A.map chs) k).filterMap fun p => T (h, mkS p)).reverse
  | 0, _ => rfl
  | k + 1, hk => by
    unfold fnd cH
    rw [fnd_cH k (by omega), List.filterMap_append, List.reverse_append, List.filterMap_append, List.reverse_append, List.append_assoc, List.length_map]
    have n0 : A.take (k + 1) ≠ [] := fun e => by
      have := congrArg List.length e
      rw [List.length_take, List.length_nil] at this
      omega
    congr 1
    · by_cases z : k + 1 < A.length
      · rw [if_pos z, if_pos z]
        unfold mkT
        rw [if_neg n0, if_neg (Ne.symm whole_ne), List.map_take, List.filterMap_cons]
        cases T (h, mkS (jn ((A.map chs).take (k + 1)) ++ [47])) <;> rfl
      · rw [if_neg z, if_neg z]; rfl
    · congr 1
      unfold mkT cW
      rw [if_neg n0, if_pos rfl, List.map_take]
      by_cases z : endS (jn ((A.map chs).take (k + 1))) = true
      · rw [if_pos z, if_pos z]; rfl
      · rw [if_neg z, if_neg z, List.filterMap_cons]
        cases T (h, mkS (jn ((A.map chs).take (k + 1)))) <;> rfl
theorem cF_free : ∀ (p acc : List Nat), 47 ∉ p → cF acc p = cW (acc ++ p)
  | [], acc, _ => by unfold cF; rw [List.append_nil]
  | c :: p, acc, h => by
    have hc : c ≠ 47 := fun e => h (by rw [e]; exact .head _)
    unfold cF
    rw [if_neg hc, cF_free p _ fun z => h (.tail _ z), List.append_assoc]; rfl
theorem cF_free_app : ∀ (p acc s : List Nat), 47 ∉ p → cF acc (p ++ 47 :: s) = cW (acc ++ p) ++ [acc ++ p ++ [47]] ++ cF (acc ++ p ++ [47]) s
  | [], acc, s, _ => by rw [List.nil_append, List.append_nil]; conv => lhs; unfold cF; rw [if_pos rfl]
  | c :: p, acc, s, h => by
    have hc : c ≠ 47 := fun e => h (by rw [e]; exact .head _)
    rw [List.cons_append]
    conv => lhs; unfold cF
    rw [if_neg hc, cF_free_app p _ s fun z => h (.tail _ z), List.append_assoc acc [c] p]; rfl
def accOf (A : List (List Nat)) (i : Nat) : List Nat := if i = 0 then [] else jn (A.take i) ++ [47]
theorem jn_take {A : List (List Nat)} {i : Nat} {p : List Nat} (h : A[i]? = some p) : jn (A.take (i + 1)) = accOf A i ++ p := by
  have e : A.take (i + 1) = A.take i ++ [p] := by rw [List.take_add_one, h]; rfl
  rw [e]
  unfold accOf
  by_cases z : i = 0
  · subst z; rw [if_pos rfl]; rfl
  · rw [if_neg z, jn_ends, List.append_assoc]; rfl
    intro e2
    have hl := congrArg List.length e2
    have := (List.getElem?_eq_some_iff.mp h).1
    rw [List.length_take, List.length_nil] at hl
    omega
theorem cH_succ (A : List (List Nat)) (k : Nat) : cH A (k + 1) = cH A k ++ (cW (jn (A.take (k + 1))) ++ if k + 1 < A.length then [jn (A.take (k + 1)) ++ [47]] else []) := rfl
theorem cH_step {A : List (List Nat)} (hs : SF A) : ∀ i, i < A.length → cH A i ++ cF (accOf A i) (jn (A.drop i)) = cF [] (jn A)
  | 0, _ => rfl
  | i + 1, hi => by
    have ih := cH_step hs i (by omega)
    have h0 : A[i]? = some A[i] := List.getElem?_eq_getElem (by omega)
    have h1 : A.drop i = A[i] :: A[i + 1] :: A.drop (i + 2) := by rw [List.drop_eq_getElem_cons (by omega), List.drop_eq_getElem_cons hi]
    rw [← ih, h1]
    show _ = cH A i ++ cF (accOf A i) (A[i] ++ 47 :: jn (A[i + 1] :: A.drop (i + 2)))
    rw [cF_free_app _ _ _ (hs _ (List.getElem_mem _)), ← jn_take h0]
    have h2 : A.drop (i + 1) = A[i + 1] :: A.drop (i + 2) := List.drop_eq_getElem_cons hi
    rw [← h2]
    rw [cH_succ, if_pos hi]
    have h3 : accOf A (i + 1) = jn (A.take (i + 1)) ++ [47] := by unfold accOf; rw [if_neg (by omega)]
    rw [h3]
    simp only [List.append_assoc]
theorem cH_all {A : List (List Nat)} (hs : SF A) (hn : A ≠ []) : cH A A.length = cF [] (jn A) := by
  obtain ⟨m, hm⟩ : ∃ m, A.length = m + 1 := ⟨A.length - 1, by cases A with | nil => exact absurd rfl hn | cons a r => simp⟩
  have hlt : m < A.length := by omega
  have h0 : A[m]? = some A[m] := List.getElem?_eq_getElem hlt
  have st := cH_step hs m hlt
  have h1 : A.drop m = [A[m]] := by rw [List.drop_eq_getElem_cons hlt, List.drop_of_length_le (by omega)]
  rw [h1] at st
  rw [← st, hm]
  rw [cH_succ, if_neg (by omega), List.append_nil, jn_take h0]
  congr 1
  exact (cF_free _ _ (hs _ (List.getElem_mem _))).symm
theorem found_law {T : Str × Str → Option Nat} {h a : Str} : fnd (mkT T) h (piecesOf (chs a)) (piecesOf (chs a)).length = ((cF [] (chs a)).filterMap fun p => T (h, mkS p)).reverse := by
  rw [fnd_cH _ (Nat.le_refl _), ← List.length_map (f := chs) (as := piecesOf (chs a)), cH_all (pieces_SF _).SF (by simpa using pieces_ne _), pieces_jn]
theorem split_pieces (x : Str) : Txt.split x (Str.ofString "/") = piecesOf (chs x) := by
  have ey : Str.ofString "/" = ⟨#[47]⟩ := by decide
  have sf : SFs (Txt.split x (Str.ofString "/")) := fun p hp => by rw [ey] at hp; exact StrLaws.split_free x 47 p hp
  have jc : ∀ l : List Str, chs (Str.join (Str.ofString "/") l) = jn (l.map chs) := fun l => by
    induction l with
    | nil => decide
    | cons a r ih =>
      cases r with
      | nil => rfl
      | cons b r =>
        show chs (a ++ Str.ofString "/" ++ Str.join (Str.ofString "/") (b :: r)) = chs a ++ 47 :: jn ((b :: r).map chs)
        rw [← ih]
        show (a ++ Str.ofString "/" ++ Str.join (Str.ofString "/") (b :: r)).cps.toList = _
        rw [Str.cps_append, Array.toList_append, Str.cps_append, Array.toList_append, ey]
        simp
  have h := congrArg chs (StrLaws.join_split x (Str.ofString "/"))
  rw [jc] at h
  have ne : Txt.split x (Str.ofString "/") ≠ [] := fun e => by
    unfold Txt.split at e
    split at e
    · cases e
    · split at e
      · cases e
      · rename_i h2
        rw [StrLaws.partsBetween_eq] at e
        obtain ⟨p, q, e3⟩ := StrLaws.partsFrom_ne x (Str.ofString "/").length 0 (PySem.Builtin.Str.occurrences x (Str.ofString "/") 0 x.length (x.length + 1))
        rw [e] at e3
        cases e3
  rw [← h, pieces_of sf ne]

theorem MarksKid {S : List Nd} {N : Nat} {mk : Mk} (ok : TreeOk S N) {q : List Str} {k : Str} {x dx : Addr} (hk : q ++ [k] ∉ S.map (·.path)) (kk : k ≠ kWhole ∧ k ≠ kBelow)
    (M : ∀ h ps key, SFs ps → (key = kWhole ∨ key = kBelow) → (∀ nd ∈ S, nd.path = h :: ps.map sl → nd.kv.lookup key = (mk h ps key).map .mark) ∧ (h :: ps.map sl ∉ S.map (·.path) → mk h ps key = none)) :
    ∀ h ps key, SFs ps → (key = kWhole ∨ key = kBelow) → (∀ nd ∈ addKid S q k x dx, nd.path = h :: ps.map sl → nd.kv.lookup key = (mk h ps key).map .mark) ∧ (h :: ps.map sl ∉ (addKid S q k x dx).map (·.path) → mk h ps key = none) := by
  intro h ps key hs hkey
  obtain ⟨m1, m2⟩ := M h ps key hs hkey
  constructor
  · intro nd hnd e
    unfold addKid at hnd
    rcases List.mem_append.mp hnd with hnd | hnd
    · rcases mem_mod.mp hnd with ⟨h1, _⟩ | ⟨c0, h1, z, rfl⟩
      · exact m1 nd h1 e
      · show (c0.kv ++ [_]).lookup key = _
        rw [lookup_snoc (by rcases hkey with z | z <;> rw [z]; exact fun e => kk.1 e.symm; exact fun e => kk.2 e.symm)]
        exact m1 c0 h1 e
    · obtain rfl := List.mem_singleton.mp hnd
      have e' : q ++ [k] = h :: ps.map sl := e
      rw [m2 (by rw [← e']; exact hk)]; rfl
  · intro hn
    rw [addKid_path] at hn
    exact m2 fun z => hn (List.mem_append_left _ z)
/-- the marks of a tree are what `mk` says -/
def MarksOk (S : List Nd) (mk : Mk) : Prop := ∀ h ps key, SFs ps → (key = kWhole ∨ key = kBelow) → (∀ nd ∈ S, nd.path = h :: ps.map sl → nd.kv.lookup key = (mk h ps key).map .mark) ∧ (h :: ps.map sl ∉ S.map (·.path) → mk h ps key = none)
theorem MarksOk.addKid {S : List Nd} {N : Nat} {mk : Mk} (ok : TreeOk S N) {q : List Str} {k : Str} {x dx : Addr} (hk : q ++ [k] ∉ S.map (·.path)) (kk : k ≠ kWhole ∧ k ≠ kBelow) (M : MarksOk S mk) : MarksOk (addKid S q k x dx) mk := MarksKid ok hk kk M
theorem MarksOk.setMark {S : List Nd} {mk : Mk} {h0 : Str} {ps0 : List Str} {key0 : Str} {n : Nat} (hq : h0 :: ps0.map sl ∈ S.map (·.path)) (M : MarksOk S mk) :
    MarksOk (modNd S (h0 :: ps0.map sl) (updKV key0 (.mark n))) fun h ps key => if h = h0 ∧ ps = ps0 ∧ key = key0 then some n else mk h ps key := by
  intro h ps key hs hkey
  obtain ⟨m1, m2⟩ := M h ps key hs hkey
  dsimp only
  constructor
  · intro nd hnd e
    rcases mem_mod.mp hnd with ⟨h1, z⟩ | ⟨c0, h1, z, rfl⟩
    · rw [if_neg]
      · exact m1 nd h1 e
      · rintro ⟨rfl, rfl, _⟩; exact z e
    · have e' : c0.path = h :: ps.map sl := e
      obtain ⟨rfl, e2⟩ := List.cons.inj (z.symm.trans e')
      have e3 := sl_inj e2
      subst e3
      show (updKV _ _ _).lookup key = _
      rw [updKV_lookup]
      by_cases y : key = key0
      · rw [if_pos y, if_pos ⟨rfl, rfl, y⟩]; rfl
      · rw [if_neg y, if_neg (fun z => y z.2.2)]
        exact m1 c0 h1 e'
  · intro hn
    rw [mod_path] at hn
    rw [if_neg]
    · exact m2 hn
    · rintro ⟨rfl, rfl, _⟩; exact hn hq
theorem MarksOk.congr {S : List Nd} {mk mk' : Mk} (M : MarksOk S mk) (e : ∀ h ps key, SFs ps → (key = kWhole ∨ key = kBelow) → mk' h ps key = mk h ps key) : MarksOk S mk' := fun h ps key hs hk => by
  rw [e h ps key hs hk]; exact M h ps key hs hk
/-- a way down is added where it is lacking -/
def addP (P : List (List Str)) (q : List Str) : List (List Str) := if q ∈ P then P else P ++ [q]
theorem mem_addP {P : List (List Str)} {q r : List Str} : r ∈ addP P q ↔ r ∈ P ∨ r = q := by
  unfold addP
  by_cases z : q ∈ P
  · rw [if_pos z]; exact ⟨.inl, fun h => h.elim (fun h => h) fun h => h ▸ z⟩
  · rw [if_neg z, List.mem_append, List.mem_singleton]
def vis (P : List (List Str)) (h : Str) (ps : List Str) : Nat → List (List Str)
  | 0 => P
  | k + 1 => addP (vis P h ps k) (h :: (ps.take k).map sl)
theorem vis_len (P : List (List Str)) (h : Str) (ps : List Str) : ∀ k, (vis P h ps k).length ≤ P.length + k
  | 0 => Nat.le_refl _
  | k + 1 => by
    unfold vis addP
    have := vis_len P h ps k
    split
    · omega
    · rw [List.length_append, List.length_singleton]; omega
theorem vis_mem {P : List (List Str)} {h : Str} {ps : List Str} {r : List Str} : ∀ {k}, r ∈ vis P h ps k ↔ r ∈ P ∨ ∃ j < k, r = h :: (ps.take j).map sl
  | 0 => by simp [vis]
  | k + 1 => by
    unfold vis
    rw [mem_addP, vis_mem]
    constructor
    · rintro ((h1 | ⟨j, hj, e⟩) | e)
      · exact .inl h1
      · exact .inr ⟨j, by omega, e⟩
      · exact .inr ⟨k, by omega, e⟩
    · rintro (h1 | ⟨j, hj, e⟩)
      · exact .inl (.inl h1)
      · by_cases z : j = k
        · subst z; exact .inr e
        · exact .inl (.inr ⟨j, by omega, e⟩)
/-- the shape of the ways down -/
def Shp (q : List Str) : Prop := q = [] ∨ ∃ h ps, Host h ∧ SFs ps ∧ q = h :: ps.map sl
def conc (q : List Str) : List Nat := (q.map chs).flatten
theorem flat_jn : ∀ ps : List Str, ((ps.map sl).map chs).flatten = jn ([] :: ps.map chs)
  | [] => rfl
  | p :: r => by
    rw [List.map_cons, List.map_cons, List.flatten_cons, flat_jn r, chs_sl]
    show 47 :: chs p ++ jn ([] :: r.map chs) = [] ++ 47 :: jn (chs p :: r.map chs)
    cases r with
    | nil => simp [jn]
    | cons b r => simp [jn]
theorem flat_inj {a b : List Str} (ha : SFs a) (hb : SFs b) (h : ((a.map sl).map chs).flatten = ((b.map sl).map chs).flatten) : a = b := by
  rw [flat_jn, flat_jn] at h
  have h2 := congrArg spl h
  rw [spl_jn (by simp), spl_jn (by simp)] at h2
  · exact map_chs_inj (List.cons.inj h2).2
  · intro p hp
    rcases List.mem_cons.mp hp with rfl | hp
    · simp
    · exact hb.SF p hp
  · intro p hp
    rcases List.mem_cons.mp hp with rfl | hp
    · simp
    · exact ha.SF p hp
theorem conc_inj {q r : List Str} (hq : Shp q) (hr : Shp r) (h : conc q = conc r) : q = r := by
  have ne : ∀ {x : Str} {l : List Str}, Host x → conc (x :: l) ≠ [] := fun {x l} hx e => by
    unfold conc at e
    rw [List.map_cons, List.flatten_cons] at e
    rcases host_list hx with z | z
    · rw [show chs x = [103] from z] at e; cases e
    · rw [show chs x = [104] from z] at e; cases e
  rcases hq with rfl | ⟨x, a, hx, ha, rfl⟩
  · rcases hr with rfl | ⟨y, b, hy, hb, rfl⟩
    · rfl
    · exact absurd h.symm (ne hy)
  · rcases hr with rfl | ⟨y, b, hy, hb, rfl⟩
    · exact absurd h (ne hx)
    · unfold conc at h
      rw [List.map_cons, List.flatten_cons, List.map_cons, List.flatten_cons] at h
      have hl : (chs x).length = (chs y).length := by
        rcases host_list hx with z | z <;> rcases host_list hy with z' | z' <;> rw [show chs x = _ from z, show chs y = _ from z'] <;> rfl
      obtain ⟨h1, h2⟩ := List.append_inj h hl
      rw [show x = y from str_ext h1, flat_inj ha hb h2]
def toS (q : List Str) : Str := mkS (conc q)
theorem toS_inj {q r : List Str} (hq : Shp q) (hr : Shp r) (h : toS q = toS r) : q = r := conc_inj hq hr (by have := congrArg chs h; unfold toS at this; rwa [chs_mkS, chs_mkS] at this)
theorem join_empty : ∀ l : List Str, chs (Str.join (Str.ofString "") l) = (l.map chs).flatten
  | [] => by decide
  | [x] => by show chs x = _; simp
  | x :: y :: r => by
    show chs (x ++ Str.ofString "" ++ Str.join (Str.ofString "") (y :: r)) = _
    rw [List.map_cons, List.flatten_cons, ← join_empty (y :: r)]
    show (x ++ Str.ofString "" ++ Str.join (Str.ofString "") (y :: r)).cps.toList = _
    rw [Str.cps_append, Array.toList_append, Str.cps_append, Array.toList_append, show (Str.ofString "").cps.toList = [] by decide, List.append_nil]
theorem vis_shp {P : List (List Str)} {h : Str} {ps : List Str} {k : Nat} (hP : ∀ q ∈ P, Shp q) (hh : Host h) (hs : SFs ps) : ∀ q ∈ vis P h ps k, Shp q := fun q hq => by
  rcases vis_mem.mp hq with z | ⟨j, _, rfl⟩
  · exact hP q z
  · exact .inr ⟨h, ps.take j, hh, fun p hp => hs p (List.take_subset _ _ hp), rfl⟩

def cntB (S : List Nd) (q : List Str) : Nat := S.countP fun c => q.isPrefixOf c.path
/-- the children of a book, in order -/
def kidsOf : KV → List (Str × Addr)
  | [] => []
  | (k, .kid a) :: r => (k, a) :: kidsOf r
  | (_, .mark _) :: r => kidsOf r
theorem mem_kidsOf {k : Str} {a : Addr} : ∀ {kv : KV}, (k, a) ∈ kidsOf kv ↔ (k, Ent.kid a) ∈ kv
  | [] => by simp [kidsOf]
  | (k', .kid a') :: r => by
    unfold kidsOf
    rw [List.mem_cons, List.mem_cons, mem_kidsOf]
    simp
  | (k', .mark n) :: r => by
    unfold kidsOf
    rw [List.mem_cons, mem_kidsOf]
    simp
theorem kidsOf_nodup : ∀ {kv : KV}, (kv.map (·.1)).Nodup → ((kidsOf kv).map (·.1)).Nodup
  | [], _ => List.nodup_nil
  | (k, .kid a) :: r, h => by
    obtain ⟨n1, n2⟩ := List.nodup_cons.mp h
    unfold kidsOf
    refine List.nodup_cons.mpr ⟨fun hm => ?_, kidsOf_nodup n2⟩
    obtain ⟨⟨k', a'⟩, hp, e⟩ := List.mem_map.mp hm
    exact n1 (List.mem_map.mpr ⟨(k', .kid a'), mem_kidsOf.mp hp, e⟩)
  | (k, .mark n) :: r, h => by
    show ((kidsOf r).map (·.1)).Nodup
    exact kidsOf_nodup (kv := r) (List.nodup_cons.mp h).2
theorem TreeOk.closed {S : List Nd} {N : Nat} (ok : TreeOk S N) : ∀ (n : Nat) (c : Nd), c ∈ S → c.path.length = n → ∀ q, q <+: c.path → q ∈ S.map (·.path)
  | 0, c, hc, hl, q, hq => by
    have e : c.path = [] := List.length_eq_zero_iff.mp hl
    rw [e] at hq
    rw [List.prefix_nil.mp hq]
    exact ok.root
  | n + 1, c, hc, hl, q, hq => by
    obtain ⟨nd, h1, k, h2, _⟩ := ok.up c hc (by intro e; rw [e] at hl; cases hl)
    rw [h2] at hq hl
    rcases List.prefix_concat_iff.mp (by simpa using hq) with e | hq
    · exact List.mem_map.mpr ⟨c, hc, by rw [h2, e]⟩
    · exact ok.closed n nd h1 (by simpa using hl) q hq
theorem sum_add {K : List Str} {a b : Str → Nat} : (K.map fun k => a k + b k).sum = (K.map a).sum + (K.map b).sum := by
  induction K with
  | nil => rfl
  | cons k r ih => rw [List.map_cons, List.sum_cons, List.map_cons, List.sum_cons, List.map_cons, List.sum_cons, ih]; omega
theorem countP_sum {α : Type} (f : α → Bool) (K : List Str) (g : Str → α → Bool) (e0 : α → Bool) : ∀ S : List α, (∀ c ∈ S, (if f c then 1 else 0) = (if e0 c then 1 else 0) + (K.map fun k => if g k c then 1 else 0).sum) →
    S.countP f = S.countP e0 + (K.map fun k => S.countP (g k)).sum
  | [], _ => by
    show 0 = 0 + (K.map fun k => 0).sum
    induction K with
    | nil => rfl
    | cons k r ih =>
      have ih' := ih (by simp)
      rw [List.map_cons, List.sum_cons]; omega
  | c :: S, h => by
    have h1 := h c (.head _)
    have ih := countP_sum f K g e0 S fun c hc => h c (.tail _ hc)
    rw [List.countP_cons, List.countP_cons, ih]
    have e : (K.map fun k => (c :: S).countP (g k)).sum = (K.map fun k => S.countP (g k)).sum + (K.map fun k => if g k c then 1 else 0).sum := by
      rw [← sum_add]
      congr 1
      exact List.map_congr_left fun k _ => List.countP_cons
    rw [e, h1]
    omega
theorem sum_one {K : List Str} (nd : K.Nodup) (p : Str → Bool) {k0 : Str} (h0 : k0 ∈ K) (h1 : p k0 = true) (h2 : ∀ k ∈ K, p k = true → k = k0) : (K.map fun k => if p k then 1 else 0).sum = 1 := by
  induction K with
  | nil => cases h0
  | cons k r ih =>
    obtain ⟨n1, n2⟩ := List.nodup_cons.mp nd
    have zero : ∀ l : List Str, (∀ x ∈ l, p x = false) → (l.map fun k => if p k then 1 else 0).sum = 0 := fun l hl => by
      induction l with
      | nil => rfl
      | cons x l ihl => rw [List.map_cons, List.sum_cons, ihl fun y hy => hl y (.tail _ hy), hl x (.head _)]; rfl
    rw [List.map_cons, List.sum_cons]
    by_cases z : k = k0
    · subst z
      rw [h1, zero r fun x hx => by
        cases hp : p x with
        | false => rfl
        | true => exact absurd (h2 x (.tail _ hx) hp ▸ hx) n1]
      rfl
    · have hk : p k = false := by
        cases hp : p k with
        | false => rfl
        | true => exact absurd (h2 k (.head _) hp) z
      rw [hk, ih n2 ((List.mem_cons.mp h0).resolve_left fun e => z e.symm) fun x hx => h2 x (.tail _ hx)]
      rfl
theorem count_step {S : List Nd} {N : Nat} (ok : TreeOk S N) {nd : Nd} (hnd : nd ∈ S) : cntB S nd.path = 1 + ((kidsOf nd.kv).map fun p => cntB S (nd.path ++ [p.1])).sum := by
  have kn := kidsOf_nodup (ok.keys nd hnd)
  have e1 : S.countP (fun c => c.path == nd.path) = 1 := by
    have h1 : S.countP (fun c => c.path == nd.path) = (S.map (·.path)).count nd.path := by
      rw [List.count, List.countP_map]; rfl
    rw [h1, ok.paths.count, if_pos (List.mem_map.mpr ⟨nd, hnd, rfl⟩)]
  have key := countP_sum (fun c : Nd => nd.path.isPrefixOf c.path) ((kidsOf nd.kv).map (·.1)) (fun k c => (nd.path ++ [k]).isPrefixOf c.path) (fun c => c.path == nd.path) S ?_
  · unfold cntB
    rw [key, e1, List.map_map]
    rfl
  · intro c hc
    have none_of : (∀ k, ¬ (nd.path ++ [k]) <+: c.path) → ((kidsOf nd.kv).map (·.1) |>.map fun k => if (nd.path ++ [k]).isPrefixOf c.path then 1 else 0).sum = 0 := fun h => by
      generalize (kidsOf nd.kv).map (·.1) = K
      induction K with
      | nil => rfl
      | cons k r ih => rw [List.map_cons, List.sum_cons, ih, if_neg (by rw [List.isPrefixOf_iff_prefix]; exact h k)]
    by_cases hp : nd.path <+: c.path
    · rw [if_pos (List.isPrefixOf_iff_prefix.mpr hp)]
      by_cases he : c.path = nd.path
      · rw [if_pos (beq_iff_eq.mpr he), none_of]
        intro k hk
        have := hk.length_le
        rw [he, List.length_append, List.length_singleton] at this
        omega
      · rw [if_neg (by rw [beq_iff_eq]; exact he)]
        obtain ⟨t, ht⟩ := hp
        cases t with
        | nil => rw [List.append_nil] at ht; exact absurd ht.symm he
        | cons k0 r =>
          have pre0 : (nd.path ++ [k0]) <+: c.path := ⟨r, by rw [← ht]; simp⟩
          obtain ⟨c1, h1, e1⟩ := List.mem_map.mp (ok.closed _ c hc rfl _ pre0)
          obtain ⟨p1, hp1, k1, e2, hk1⟩ := ok.up c1 h1 (by intro z; rw [z] at e1; cases hh : nd.path <;> rw [hh] at e1 <;> cases e1)
          have e3 : c1.path = nd.path ++ [k0] := e1
          rw [e3] at e2
          obtain ⟨e4, e5⟩ := List.append_inj' e2 rfl
          obtain rfl : k0 = k1 := (List.cons.inj e5).1
          have e6 : p1 = nd := ok.same hp1 hnd e4.symm
          subst e6
          have hk : k0 ∈ (kidsOf p1.kv).map (·.1) := List.mem_map.mpr ⟨(k0, c1.a), mem_kidsOf.mpr hk1, rfl⟩
          rw [sum_one kn _ hk (List.isPrefixOf_iff_prefix.mpr pre0)]
          intro k _ hk
          have pk := List.isPrefixOf_iff_prefix.mp hk
          rw [← ht] at pk
          have := List.prefix_append_right_inj _ |>.mp pk
          exact (List.cons_prefix_cons.mp this).1
    · rw [if_neg (by rw [List.isPrefixOf_iff_prefix]; exact hp), if_neg, none_of]
      · intro k hk
        exact hp ((List.prefix_append _ _).trans hk)
      · rw [beq_iff_eq]
        intro e; exact hp (e ▸ List.prefix_refl _)
theorem count_all {S : List Nd} : cntB S [] = S.length := by
  unfold cntB
  rw [List.countP_eq_length]
  intro c _
  exact List.isPrefixOf_iff_prefix.mpr (List.nil_prefix)

section
theorem iter_list {prog : Program} {w : World} {A : Around} {E : Value → Shared → Prop} {g : Heap} {L : Addr} {m : Str → Option Value} {led : Led} {s : Shared} {l : Addr} {items : Array Value} {n : Nat} {Q : Value → Shared → Prop} (F : Fr g L s.heap m) (N : News g L s.heap led) (ml : (l, lobj items n) ∈ led)
    (hq : ∀ It h', Fr g L h' m → News g L h' ((It, lit l (0 : Nat)) :: led) → (∀ p ∈ led, p.1 < It) → Q (.ref It) { s with heap := h' }) : wpAny (model prog w) A (pyIter (.ref l)) Q E s :=
  wpAny_pyIter_list ⟨_, (N _ ml).1, rfl, _, rfl⟩ (hq _ _ (Fr.pushS F (lit l (0 : Nat))) (News.push F N (lit l (0 : Nat))) fun p hp => Heap.lt_size (N p hp).1)
theorem regen {α : Type} {M : Model} {A : Around} {t : Sem α} {Q : α → Shared → Prop} {E : Value → Shared → Prop} {hp : Heap} {g : Array GenState} {d : Drawn} {os : OsState} {tk0 : Nat} (h : ∀ tk, wpAny M A t Q E ⟨hp, g, d, tk, os⟩) : wpAny M A t Q E ⟨hp, g, d, tk0, os⟩ := h tk0
theorem getD_le {l : List Str} {j n : Nat} (h : ∀ a ∈ l, a.length ≤ n) : (l.getD j Str.empty).length ≤ n := by
  rw [List.getD_eq_getElem?_getD]
  cases e : l[j]? with
  | none => exact Nat.zero_le _
  | some a => exact h a (List.mem_of_getElem? e)
theorem name_map {g h : Heap} {L : Addr} {m : Str → Option Value} (F : Fr g L h m) : ∃ m0, m0 = m ∧ Fr g L h m0 := ⟨m, rfl, F⟩
theorem lobj_ne {xs : Array Value} {n : Nat} : (lobj xs n).cls ≠ .type "list_iterator" := fun e => absurd (Value.type.inj e) (by decide)
/-- the locals of a loop over those ahead of it -/
def ov2 (m : Str → Option Value) (x : Str) (a : Option Value) (y : Str) (b : Option Value) : Str → Option Value := fun z => if z = x then a else if z = y then b else m z
theorem ov2_set {m : Str → Option Value} {x y : Str} {a b c d : Option Value} (n : x ≠ y) : (fun z => if z = y then b else if z = x then a else ov2 m x c y d z) = ov2 m x a y b := by
  funext z
  unfold ov2
  by_cases e1 : z = x
  · subst e1; rw [if_neg n, if_pos rfl, if_pos rfl]
  · by_cases e2 : z = y
    · subst e2; rw [if_pos rfl, if_neg e1, if_pos rfl]
    · simp only [e1, e2, if_false]
/-- a Pair of the two texts in the ledger, its dict at no address that `X` names -/
def PairIs (X : Addr → Prop) (led : Led) (v : Value) (r : Str × Str) : Prop := ∃ P D t u, v = .ref P ∧ (P, pairObj D r.1 r.2 t u) ∈ led ∧ (D, emptyDict) ∈ led ∧ ¬ X D
def PairsAre (X : Addr → Prop) (led : Led) : List Value → List (Str × Str) → Prop
  | [], [] => True
  | v :: vs, r :: rs => PairIs X led v r ∧ PairsAre X led vs rs
  | _, _ => False
theorem PairIs.mono {X X' : Addr → Prop} {led led' : Led} {v : Value} {r : Str × Str} (h : PairIs X led v r) (k : ∀ p ∈ led, (p.2.cls = .ref 253 ∨ (p.2 = emptyDict ∧ ¬ X p.1)) → p ∈ led') (hX : ∀ D, (D, emptyDict) ∈ led → ¬ X D → ¬ X' D) : PairIs X' led' v r := by
  obtain ⟨P, D, t, u, e, h1, h2, h3⟩ := h
  exact ⟨P, D, t, u, e, k _ h1 (.inl rfl), k _ h2 (.inr ⟨rfl, h3⟩), hX _ h2 h3⟩
theorem PairsAre.mono {X X' : Addr → Prop} {led led' : Led} (k : ∀ p ∈ led, (p.2.cls = .ref 253 ∨ (p.2 = emptyDict ∧ ¬ X p.1)) → p ∈ led') (hX : ∀ D, (D, emptyDict) ∈ led → ¬ X D → ¬ X' D) : ∀ {vs : List Value} {rs : List (Str × Str)}, PairsAre X led vs rs → PairsAre X' led' vs rs
  | [], [], _ => trivial
  | _ :: _, _ :: _, ⟨h, t⟩ => ⟨h.mono k hX, PairsAre.mono k hX t⟩
  | [], _ :: _, h => h.elim
  | _ :: _, [], h => h.elim
theorem PairsAre.snoc {X : Addr → Prop} {led : Led} {v : Value} {r : Str × Str} : ∀ {vs : List Value} {rs : List (Str × Str)}, PairsAre X led vs rs → PairIs X led v r → PairsAre X led (vs ++ [v]) (rs ++ [r])
  | [], [], _, h => ⟨h, trivial⟩
  | _ :: _, _ :: _, ⟨h, t⟩, h' => ⟨h, t.snoc h'⟩
  | [], _ :: _, h, _ => h.elim
  | _ :: _, [], h, _ => h.elim
theorem PairsAre.len {X : Addr → Prop} {led : Led} : ∀ {vs : List Value} {rs : List (Str × Str)}, PairsAre X led vs rs → vs.length = rs.length
  | [], [], _ => rfl
  | _ :: _, _ :: _, ⟨_, t⟩ => congrArg (· + 1) t.len
  | [], _ :: _, h => h.elim
  | _ :: _, [], h => h.elim
theorem PairsAre.get {X : Addr → Prop} {led : Led} : ∀ {vs : List Value} {rs : List (Str × Str)} {i : Nat} {v : Value}, PairsAre X led vs rs → vs[i]? = some v → ∃ r, rs[i]? = some r ∧ PairIs X led v r
  | [], [], _, _, _, h => by simp at h
  | v :: vs, r :: rs, 0, v', ⟨h, _⟩, e => ⟨r, rfl, by simp at e; exact e ▸ h⟩
  | v :: vs, r :: rs, i + 1, v', ⟨_, t⟩, e => t.get (i := i) (by simpa using e)
  | [], _ :: _, _, _, h, _ => h.elim
  | _ :: _, [], _, _, h, _ => h.elim
/-- what every rule of a script is like -/
def GoodRule (r : Str × Str) : Prop := Host r.1 ∧ Good r.2 ∧ r.2.length ≤ 12
theorem rules_call {w : World} {nums : Addr} {items : Array Value} {nn : Nat} {led : Led} (mn : (nums, lobj items nn) ∈ led) (hint : ∀ v ∈ items, ∃ k t, v = .int k t) (hsz : items.size ≤ 6) :
    DoesC PG w 20 (.ref 263) [.ref nums] led (fun v led' => (∀ p ∈ led, p ∈ led') ∧ ∃ l vs c rs, v = .ref l ∧ (l, lobj vs c) ∈ led' ∧ PairsAre (fun _ => False) led' vs.toList rs ∧ rs.length = items.size ∧ ∀ r ∈ rs, GoodRule r) := by
  intro A h₀ L m s Q E cx F N hQ; obtain ⟨A₀, base, outer, env, p, loose, mean, mg, mb, B, hA, hf, hk, X, T, hh, hd, hu, hC⟩ := cx
  walk_at "enter"; intro g1 L1 h1 FG F1 N1 B1 X1 T1; (try dsimp only)
  have cx1 : ∀ e : Env, e.frame = some L1 → e.scope.kind = .function → Cx w (A.deeper e) g1 L1 19 := fun e i1 i2 => cx_deeper (e := e) B1 i1 i2 X1 T1 hh (by omega) (by omega) hC FG.keep (d := 19)
  change Fr g1 L1 h1 (fun y => List.lookup y [(Str.ofString "numbers", Value.ref nums)]) at F1
  refine regen (hp := h1) (g := s.gens) (d := s.drawn) (os := s.os) fun tk1 => ?_
  iterate 21 walk1
  rename_i l hA ltA D hB ltB x1 x2 hC3 F3 N3
  refine wpAny_For (nameX_L F3 (by rfl) ?_)
  refine iter_list (s := ⟨_, _, _, _, _⟩) F3 N3 (.tail _ (.tail _ mn)) fun It h4 F4 N4 l4 => ?_
  obtain ⟨m0, hm0, F4⟩ := name_map F4
  obtain ⟨t0, ht0⟩ : ∃ t0, m0 (Str.ofString "path") = some (.str (Str.ofString "") t0) := ⟨_, by rw [hm0]; rfl⟩
  have fIt : ∀ p ∈ led, p.1 ≠ It := fun p hp => Nat.ne_of_lt (l4 p (.tail _ (.tail _ hp)))
  refine loop_list (items := items) (n := nn) hh (fun i led₁ m₁ => ∃ nv p t vs c rs, m₁ = ov2 m0 (Str.ofString "n") nv (Str.ofString "path") (some (.str p t)) ∧ (l, lobj vs c) ∈ led₁ ∧ (∀ p ∈ led, p ∈ led₁) ∧ p.length ≤ 2 * i ∧ Good p ∧ PairsAre (fun _ => False) led₁ vs.toList rs ∧ rs.length = i ∧ ∀ r ∈ rs, GoodRule r) led fIt ?_ ?_ F4 N4 (.head _) ?_ ?_ ?_
  · rintro i led₁ led₂ m₁ fr ⟨nv, p, t, vs, c, rs, rfl, ml, kp, lp, gp, ps, lr, gr⟩
    refine ⟨nv, p, t, vs, c, rs, rfl, fr _ ml (.inr (.inl lobj_ne)), fun q hq => fr _ (kp q hq) (.inl hq), lp, gp, ps.mono (fun p hp h => fr _ hp (.inr (.inl ?_))) (fun _ _ h => h), lr, gr⟩
    rcases h with h | ⟨h, _⟩
    · rw [h]; intro e; cases e
    · rw [h]; intro e; exact absurd (Value.type.inj e) (by decide)
  · rintro i led₁ m₁ ⟨nv, p, t, vs, c, rs, rfl, ml, kp, lp, gp, ps, lr, gr⟩
    exact kp _ mn
  · refine ⟨none, Str.ofString "", t0, #[], 0, [], ?_, .tail _ (.tail _ (.head _)), fun q hq => .tail _ (.tail _ (.tail _ hq)), Nat.zero_le _, good_nil, trivial, rfl, fun _ h => by cases h⟩
    funext y
    unfold ov2
    by_cases e1 : y = Str.ofString "n"
    · subst e1; rw [hm0]; rfl
    · by_cases e2 : y = Str.ofString "path"
      · subst e2; exact ht0
      · simp only [e1, e2, if_false]
  · rintro i v led₁ m₁ h5 tk5 hv ⟨nv, p, t, vs, c, rs, rfl, ml, kp, lp, gp, ps, lr, gr⟩ F5 N5 mI5 PP EE hPP
    obtain ⟨k, tk, rfl⟩ := hint v (Array.mem_of_getElem? hv)
    have hi : i < items.size := by rcases Nat.lt_or_ge i items.size with h | h; exact h; rw [Array.getElem?_eq_none h] at hv; cases hv
    have lp' : p.length ≤ 1000 := by omega
    clear F4 N4 F3 N3
    subst hm0
    iterate 32 walk1
    rename News _ _ _ _ => N6
    rename Fr g1 _ _ _ => F6
    have m4 := Int.fmod_nonneg_of_pos k (show (0 : Int) < 4 by decide)
    have m4' := Int.fmod_lt_of_pos k (show (0 : Int) < 4 by decide)
    have lsl : (Txt.slice p none (some (-1))).length ≤ p.length := by assumption
    obtain ⟨A1, hA1⟩ : ∃ A1, A1 = [p, p, Str.ofString "", Txt.slice p none (some (-1))].getD (k.fmod 4).toNat Str.empty := ⟨_, rfl⟩
    have lA1 : A1.length ≤ 2 * i := by rw [hA1]; exact getD_le (fun a ha => by rcases List.mem_cons.mp ha with rfl | ha; exact lp; rcases List.mem_cons.mp ha with rfl | ha; exact lp; rcases List.mem_cons.mp ha with rfl | ha; exact Nat.zero_le _; rcases List.mem_cons.mp ha with rfl | ha; exact Nat.le_trans lsl lp; cases ha)
    refine KTb.item_list (ws := [p, p, Str.ofString "", Txt.slice p none (some (-1))]) (News.isList N6 (.head _)) (strsAre_of_values [(p, _), (p, _), (Str.ofString "", _), (Txt.slice p none (some (-1)), _)]) m4 (by exact m4') (by omega) fun t6 _ => ?_
    rw [← hA1]
    refine regen (hp := _) (g := s.gens) (d := s.drawn) (os := s.os) fun tk7 => ?_
    iterate 22 walk1
    rename News _ _ _ _ => N6
    rename Fr g1 _ _ _ => F6
    have m5 := Int.fmod_nonneg_of_pos (k.fdiv 4) (show (0 : Int) < 5 by decide)
    have m5' := Int.fmod_lt_of_pos (k.fdiv 4) (show (0 : Int) < 5 by decide)
    obtain ⟨B1, hB1⟩ : ∃ B1, B1 = [Str.ofString "/", Str.ofString "a", Str.ofString "/a", Str.ofString "/b", Str.ofString ""].getD ((k.fdiv 4).fmod 5).toNat Str.empty := ⟨_, rfl⟩
    have lB1 : B1.length ≤ 2 := by rw [hB1]; exact getD_le (by decide)
    refine KTb.item_list (ws := [Str.ofString "/", Str.ofString "a", Str.ofString "/a", Str.ofString "/b", Str.ofString ""]) (News.isList N6 (.head _)) (strsAre_of_values [(Str.ofString "/", _), (Str.ofString "a", _), (Str.ofString "/a", _), (Str.ofString "/b", _), (Str.ofString "", _)]) m5 (by exact m5') (by omega) fun t7 _ => ?_
    rw [← hB1]
    refine regen (hp := _) (g := s.gens) (d := s.drawn) (os := s.os) fun tk8 => ?_
    iterate 7 walk1
    rename News _ _ _ _ => N8
    refine getMethod_append_N N8 (by walk_at "mem") ?_
    iterate 27 walk1
    rename News _ _ _ _ => N9
    rename Fr g1 _ _ _ => F9
    obtain ⟨T9, hT9⟩ : ∃ T9, T9 = Txt.item (Str.ofString "ggh") ((k.fdiv 20).fmod 3) ++ Str.ofString " = " ++ (A1 ++ B1) := ⟨_, rfl⟩
    rw [← hT9]
    refine call_meth N9 (.head _) ?_
    have gA : Good A1 := by rw [hA1]; exact good_step gp
    have gB : Good B1 := by rw [hB1]; exact good_piece
    obtain ⟨x1, x2, ex, es1, es2⟩ := text1 (host_item k) (good_app gA gB)
    rw [← hT9] at ex
    have lAB : (A1 ++ B1).length ≤ 12 := by show (A1 ++ B1).cps.size ≤ 12; rw [Str.cps_append, Array.size_append]; have a1 : A1.cps.size ≤ 2 * i := lA1; have b1 : B1.cps.size ≤ 2 := lB1; omega
    have lT : T9.length ≤ 1000 := by
      have hx : (Txt.item (Str.ofString "ggh") ((k.fdiv 20).fmod 3)).cps.size ≤ 1 := by rcases host_item k with e | e <;> rw [e] <;> decide
      have hy : (Str.ofString " = ").cps.size = 3 := by decide
      have hz : (A1 ++ B1).cps.size ≤ 12 := lAB
      rw [hT9]; show (_ : Str).cps.size ≤ 1000
      rw [Str.cps_append, Array.size_append, Str.cps_append, Array.size_append]; omega
    refine (parse_call (w := w) lT ex).then (s := ⟨_, _, _, _, _⟩) (cx1 _ rfl rfl |>.less (by omega)) F9 N9 ?_
    rintro v led5 h10 tk10 F10 N10 ⟨P, D', t1, u1, rfl, mP, mD, kp10, lt10, ltP⟩
    rw [es1, es2] at mP
    iterate 1 walk1
    have nl : ∀ p ∈ led, p.1 ≠ l := fun p hp => Nat.ne_of_lt (ltA p hp)
    have zk : (l, lobj vs c) ∈ led5 := kp10 _ (by walk_at "mem")
    refine led_append (s := ⟨_, _, _, _, _⟩) (by assumption) N10 zk (by rw [← Array.length_toList, ps.len, lr]; omega) fun h11 F11 N11 => ?_
    iterate 2 walk1
    have It5 : (It, lit nums (i + 1 : Nat)) ∈ led5 := kp10 _ (by walk_at "mem")
    have k5 : ∀ p ∈ led₁, p ∈ led5 := fun p hp => kp10 _ (by walk_at "mem")
    refine hPP _ _ ⟨_, _, _, _, rfl, F11, N11, keep_setL N10 zk It5 (show Value.type "list_iterator" ≠ Value.type "list" by decide), _, A1 ++ B1, _, vs.push (.ref P), c + 1, rs ++ [(Txt.item (Str.ofString "ggh") ((k.fdiv 20).fmod 3), A1 ++ B1)], ov2_set (x := Str.ofString "n") (y := Str.ofString "path") (by decide), mem_setL_self zk, fun q hq => mem_setL (k5 _ (kp _ hq)) (nl _ hq), ?_, good_app gA gB, ?_, ?_, ?_⟩
    · show (A1 ++ B1).cps.size ≤ _; rw [Str.cps_append, Array.size_append]; have a1 : A1.cps.size ≤ 2 * i := lA1; have b1 : B1.cps.size ≤ 2 := lB1; omega
    · rw [Array.toList_push]
      exact (ps.mono (fun q hq hc => keep_setL N10 zk (k5 q hq) (ne_list (pairs_cls hc))) (fun _ _ h => h)).snoc ⟨P, D', t1, u1, rfl, keep_setL N10 zk mP (show Value.ref 253 ≠ Value.type "list" by decide), keep_setL N10 zk mD (show Value.type "dict" ≠ Value.type "list" by decide), id⟩
    · rw [List.length_append, lr]; rfl
    · intro r hr
      rcases List.mem_append.mp hr with hr | hr
      · exact gr r hr
      · rw [List.mem_singleton.mp hr]; exact ⟨host_item k, good_app gA gB, lAB⟩
  · rintro h6 tk6 led6 m6 F6 N6 ⟨nv, p, t, vs, c, rs, rfl, ml, kp, lp, gp, ps, lr, gr⟩
    clear F4 N4 F3 N3
    subst hm0
    iterate 4 walk1
    exact hQ _ _ _ _ (by assumption) (by assumption) ⟨kp, l, vs, c, rs, rfl, ml, ps, lr, gr⟩
end
section
variable {w : World} {A : Around} {E : Value → Shared → Prop} {g : Heap} {L : Addr} {m : Str → Option Value} {led : Led} {s : Shared}
theorem pair_nameA {n : Nat} {env : Env} {a da : Addr} {x y : Str} {t u : Tok} {Q : Value → Shared → Prop} (c : ∀ e : Env, e.frame = some L → e.scope.kind = .function → Cx w (A.deeper e) g L n) (e1 : env.frame = some L) (e2 : env.scope.kind = .function) (hn : 5 ≤ n) (F : Fr g L s.heap m) (N : News g L s.heap led) (ha : (a, pairObj da x y t u) ∈ led) (hda : (da, emptyDict) ∈ led)
    (h : ∀ h' tk', Fr g L h' m → News g L h' led → Q (.str x t) { s with heap := h', toks := tk' }) : wpAny (model PG w) (A.deeper env) (getAttr (.ref a) "name" true) Q E s := pair_name (d := 0) ((c env e1 e2).less hn) F N ha hda h
theorem pair_valueA {n : Nat} {env : Env} {a da : Addr} {x y : Str} {t u : Tok} {Q : Value → Shared → Prop} (c : ∀ e : Env, e.frame = some L → e.scope.kind = .function → Cx w (A.deeper e) g L n) (e1 : env.frame = some L) (e2 : env.scope.kind = .function) (hn : 5 ≤ n) (F : Fr g L s.heap m) (N : News g L s.heap led) (ha : (a, pairObj da x y t u) ∈ led) (hda : (da, emptyDict) ∈ led)
    (h : ∀ h' tk', Fr g L h' m → News g L h' led → Q (.str y u) { s with heap := h', toks := tk' }) : wpAny (model PG w) (A.deeper env) (getAttr (.ref a) "value" true) Q E s := pair_value (d := 0) ((c env e1 e2).less hn) F N ha hda h
end
local macro_rules | `(tactic| walk_at "compareOp Eq ref ref") => `(tactic| (refine pair_eqN (by assumption) (by assumption) (by assumption) (by assumption) (by assumption) (by walk_at "room") ?_; intro tkE))
local macro_rules | `(tactic| walk_at "getAttr ref") => `(tactic| ((with_reducible show wpAny _ _ (getAttr (Value.ref _) (Str.ofString "name") true) _ _ _); refine pair_nameA (s := ⟨_, _, _, _, _⟩) (by assumption) rfl rfl (by omega) (by assumption) (by assumption) (by walk_at "mem") (by walk_at "mem") ?_; intro h' tk' F' N'))
local macro_rules | `(tactic| walk_at "getAttr ref") => `(tactic| ((with_reducible show wpAny _ _ (getAttr (Value.ref _) (Str.ofString "value") true) _ _ _); refine pair_valueA (s := ⟨_, _, _, _, _⟩) (by assumption) rfl rfl (by omega) (by assumption) (by assumption) (by walk_at "mem") (by walk_at "mem") ?_; intro h' tk' F' N'))

theorem below_iff {x y x' y' : Str} : below x y x' y' = true ↔ x = x' ∧ Covers (chs y) (chs y') := by
  unfold below
  cases e1 : same2 x y x' y' with
  | true =>
    have : x = x' ∧ y = y' := by unfold same2 at e1; exact of_decide_eq_true e1
    obtain ⟨rfl, rfl⟩ := this
    simp [Covers]
  | false =>
    have ne : ¬ (x = x' ∧ y = y') := by unfold same2 at e1; exact of_decide_eq_false e1
    simp only [cond_false]
    by_cases ex : x = x'
    · subst ex
      have ny : y ≠ y' := fun e => ne ⟨rfl, e⟩
      have nc : chs y ≠ chs y' := fun e => ny (str_ext e)
      simp only [bne_self_eq_false, cond_false, true_and]
      rw [slash_ne]
      unfold Covers normP
      cases e2 : endS (chs y) with
      | true => simp only [Bool.not_true, cond_false, if_true]; rw [startswith_iff]; simp [nc]
      | false =>
        simp only [Bool.not_false, cond_true, Bool.false_eq_true, if_false]
        rw [startswith_iff]
        have : chs (y ++ Str.ofString "/") = chs y ++ [47] := by
          show (y ++ Str.ofString "/").cps.toList = _
          rw [Str.cps_append, Array.toList_append]
          rfl
        rw [this]
        simp [nc]
    · have : (x != x') = true := bne_iff_ne.mpr ex
      rw [this]
      simp [ex]

abbrev Rule := Str × Str
abbrev Tab := List (Rule × Nat)
abbrev belowR (r q : Rule) : Bool := below r.1 r.2 q.1 q.2
theorem belowR_self (r : Rule) : belowR r r = true := below_iff.mpr ⟨rfl, .inl rfl⟩
theorem belowR_trans {r q s : Rule} (h : belowR r q = true) (h' : belowR q s = true) : belowR r s = true := by
  obtain ⟨e, c⟩ := below_iff.mp h
  obtain ⟨e', c'⟩ := below_iff.mp h'
  exact below_iff.mpr ⟨e.trans e', c.trans c'⟩
theorem belowR_anti {r q : Rule} (h : belowR r q = true) (h' : belowR q r = true) : r = q := by
  obtain ⟨e, c⟩ := below_iff.mp h
  obtain ⟨_, c'⟩ := below_iff.mp h'
  exact Prod.ext e (str_ext (c.anti c'))
/-- of two rules of the table the earlier one never covers the later -/
def TabOk (tab : Tab) : Prop := tab.Pairwise fun x y => belowR x.1 y.1 = false
def Told (tab : Tab) (T : Rule → Option Nat) : Prop := ∀ r n, (r, n) ∈ tab ↔ T r = some n
def upT (T : Rule → Option Nat) (r : Rule) (n : Nat) : Rule → Option Nat := fun r' => if r' = r then some n else T r'
theorem tab_insert {tab : Tab} {T : Rule → Option Nat} {place : Nat} {r : Rule} {n : Nat} (ok : TabOk tab) (td : Told tab T) (h1 : ∀ e ∈ tab, e.1 ≠ r)
    (h2 : ∀ j e, j < place → tab[j]? = some e → belowR e.1 r = false) (h3 : ∀ e, tab[place]? = some e → belowR e.1 r = true) :
    TabOk (tab.take place ++ (r, n) :: tab.drop place) ∧ Told (tab.take place ++ (r, n) :: tab.drop place) (upT T r n) := by
  have split : tab = tab.take place ++ tab.drop place := (List.take_append_drop _ _).symm
  constructor
  · unfold TabOk at ok ⊢
    rw [split] at ok
    obtain ⟨o1, o2, o3⟩ := List.pairwise_append.mp ok
    refine List.pairwise_append.mpr ⟨o1, List.pairwise_cons.mpr ⟨fun y hy => ?_, o2⟩, fun x hx y hy => ?_⟩
    · rcases Bool.eq_false_or_eq_true (belowR r y.1) with hb | hb
      rotate_left
      · exact hb
      · exfalso
        cases hd : tab.drop place with
        | nil => rw [hd] at hy; cases hy
        | cons z zs =>
          have hz : tab[place]? = some z := by rw [← List.head?_drop, hd]; rfl
          have c1 := h3 z hz
          rw [hd] at hy o2
          rcases List.mem_cons.mp hy with rfl | hy
          · exact h1 y (List.mem_of_getElem? hz) (belowR_anti c1 hb)
          · have := (List.pairwise_cons.mp o2).1 y hy
            rw [belowR_trans c1 hb] at this; cases this
    · rcases List.mem_cons.mp hy with rfl | hy
      · obtain ⟨j, hj⟩ := List.getElem?_of_mem hx
        have hjp : j < place := by
          rcases Nat.lt_or_ge j place with z | z
          · exact z
          · rw [List.getElem?_take_eq_none z] at hj; cases hj
        rw [List.getElem?_take_of_lt hjp] at hj
        exact h2 j x hjp hj
      · exact o3 x hx y hy
  · intro r' n'
    have hm : (r', n') ∈ tab.take place ++ (r, n) :: tab.drop place ↔ (r' = r ∧ n' = n) ∨ (r', n') ∈ tab := by
      rw [List.mem_append, List.mem_cons, Prod.mk.injEq]
      conv => rhs; rw [split, List.mem_append]
      constructor
      · rintro (h | h | h)
        · exact .inr (.inl h)
        · exact .inl h
        · exact .inr (.inr h)
      · rintro (h | h | h)
        · exact .inr (.inl h)
        · exact .inl h
        · exact .inr (.inr h)
    rw [hm]
    unfold upT
    by_cases e : r' = r
    · rw [if_pos e]
      subst e
      constructor
      · rintro (⟨_, rfl⟩ | h)
        · rfl
        · exact absurd rfl (h1 _ h)
      · intro h; exact .inl ⟨rfl, (Option.some.inj h).symm⟩
    · rw [if_neg e]
      constructor
      · rintro (⟨h, _⟩ | h)
        · exact absurd h e
        · exact (td _ _).mp h
      · intro h; exact .inr ((td _ _).mpr h)
theorem tab_uniq {tab : Tab} (ok : TabOk tab) {i j : Nat} {e e' : Rule × Nat} (hi : tab[i]? = some e) (hj : tab[j]? = some e') (h : e.1 = e'.1) : i = j := by
  have key : ∀ {i j : Nat} {e e' : Rule × Nat}, i < j → tab[i]? = some e → tab[j]? = some e' → e.1 = e'.1 → False := fun {i j e e'} lt hi hj h => by
    obtain ⟨hi', ei⟩ := List.getElem?_eq_some_iff.mp hi
    obtain ⟨hj', ej⟩ := List.getElem?_eq_some_iff.mp hj
    have := List.pairwise_iff_getElem.mp ok i j hi' hj' lt
    rw [ei, ej, h, belowR_self] at this; cases this
  rcases Nat.lt_trichotomy i j with z | z | z
  · exact (key z hi hj h).elim
  · exact z
  · exact (key z hj hi h.symm).elim
theorem tab_set {tab : Tab} {T : Rule → Option Nat} {i : Nat} {r : Rule} {n n0 : Nat} (ok : TabOk tab) (td : Told tab T) (h : tab[i]? = some (r, n0)) :
    TabOk (tab.set i (r, n)) ∧ Told (tab.set i (r, n)) (upT T r n) := by
  obtain ⟨hi, ei⟩ := List.getElem?_eq_some_iff.mp h
  constructor
  · refine List.pairwise_iff_getElem.mpr fun a b ha hb lt => ?_
    rw [List.length_set] at ha hb
    have := List.pairwise_iff_getElem.mp ok a b ha hb lt
    rw [List.getElem_set, List.getElem_set]
    have q : ∀ c (hc : c < tab.length), (if i = c then (r, n) else tab[c]).1 = tab[c].1 := fun c hc => by
      by_cases z : i = c
      · subst z; rw [if_pos rfl, ei]
      · rw [if_neg z]
    rw [q a ha, q b hb]
    exact this
  · intro r' n'
    have hm : (r', n') ∈ tab.set i (r, n) ↔ (r' = r ∧ n' = n) ∨ (r' ≠ r ∧ (r', n') ∈ tab) := by
      constructor
      · intro hmem
        obtain ⟨j, hj⟩ := List.getElem?_of_mem hmem
        rw [List.getElem?_set] at hj
        by_cases z : i = j
        · rw [if_pos z] at hj
          by_cases z2 : i < tab.length
          · rw [if_pos z2] at hj
            have e := Option.some.inj hj
            exact .inl ⟨(congrArg Prod.fst e).symm, (congrArg Prod.snd e).symm⟩
          · rw [if_neg z2] at hj; cases hj
        · rw [if_neg z] at hj
          exact .inr ⟨fun e => z (tab_uniq ok h hj e.symm), List.mem_of_getElem? hj⟩
      · rintro (⟨rfl, rfl⟩ | ⟨ne, hmem⟩)
        · exact List.mem_of_getElem? (i := i) (by rw [List.getElem?_set, if_pos rfl, if_pos hi])
        · obtain ⟨j, hj⟩ := List.getElem?_of_mem hmem
          refine List.mem_of_getElem? (i := j) ?_
          rw [List.getElem?_set, if_neg]
          · exact hj
          · intro z; subst z
            rw [h] at hj
            exact ne (congrArg Prod.fst (Option.some.inj hj)).symm
    rw [hm]
    unfold upT
    by_cases e : r' = r
    · rw [if_pos e]
      constructor
      · rintro (⟨_, rfl⟩ | ⟨ne, _⟩)
        · rfl
        · exact absurd e ne
      · intro z; exact .inl ⟨e, (Option.some.inj z).symm⟩
    · rw [if_neg e]
      constructor
      · rintro (⟨z, _⟩ | ⟨_, z⟩)
        · exact absurd z e
        · exact (td _ _).mp z
      · intro z; exact .inr ⟨e, (td _ _).mpr z⟩
theorem sorted_eq {α : Type} {R : α → α → Prop} (irr : ∀ x, ¬ R x x) (as : ∀ x y, R x y → R y x → False) : ∀ {l1 l2 : List α}, l1.Pairwise R → l2.Pairwise R → (∀ x, x ∈ l1 ↔ x ∈ l2) → l1 = l2
  | [], [], _, _, _ => rfl
  | [], y :: _, _, _, h => by have := (h y).mpr (.head _); cases this
  | x :: _, [], _, _, h => by have := (h x).mp (.head _); cases this
  | x :: t1, y :: t2, p1, p2, h => by
    obtain ⟨a1, b1⟩ := List.pairwise_cons.mp p1
    obtain ⟨a2, b2⟩ := List.pairwise_cons.mp p2
    have e : x = y := by
      rcases List.mem_cons.mp ((h x).mp (.head _)) with z | z
      · exact z
      rcases List.mem_cons.mp ((h y).mpr (.head _)) with z' | z'
      · exact z'.symm
      exact (as _ _ (a1 _ z') (a2 _ z)).elim
    subst e
    congr 1
    refine sorted_eq irr as b1 b2 fun z => ⟨fun hz => ?_, fun hz => ?_⟩
    · rcases List.mem_cons.mp ((h z).mp (.tail _ hz)) with e | e
      · subst e; exact absurd (a1 _ hz) (irr _)
      · exact e
    · rcases List.mem_cons.mp ((h z).mpr (.tail _ hz)) with e | e
      · subst e; exact absurd (a2 _ hz) (irr _)
      · exact e
theorem way_law {tab : Tab} {T : Rule → Option Nat} (ok : TabOk tab) (td : Told tab T) (h a : Str) :
    (tab.filter fun e => belowR e.1 (h, a)).map (·.2) = ((cF [] (chs a)).filterMap fun p => T (h, ⟨p.toArray⟩)).reverse := by
  have e : (tab.filter fun e => belowR e.1 (h, a)).map (fun e => (chs e.1.2, e.2)) = ((cF [] (chs a)).filterMap fun p => (T (h, ⟨p.toArray⟩)).map fun n => (p, n)).reverse := by
    refine sorted_eq (R := fun x y : List Nat × Nat => y.1.length < x.1.length) (fun _ => Nat.lt_irrefl _) (fun x y z z' => by omega) ?_ ?_ ?_
    · refine List.pairwise_map.mpr ((List.Pairwise.filter _ ok).imp_of_mem fun {x y} hx hy hxy => ?_)
      obtain ⟨_, bx⟩ := List.mem_filter.mp hx
      obtain ⟨_, bY⟩ := List.mem_filter.mp hy
      obtain ⟨ex, cx⟩ := below_iff.mp bx
      obtain ⟨ey, cy⟩ := below_iff.mp bY
      rcases Nat.lt_or_ge (chs y.1.2).length (chs x.1.2).length with z | z
      · exact z
      · have : belowR x.1 y.1 = true := below_iff.mpr ⟨ex.trans ey.symm, cx.chain cy z⟩
        rw [this] at hxy; cases hxy
    · rw [List.pairwise_reverse]
      refine List.Pairwise.filterMap _ (R := fun p q : List Nat => p.length < q.length) (fun p q hpq x hx y hy => ?_) (cF_sorted _ _)
      obtain ⟨_, _, rfl⟩ := Option.map_eq_some_iff.mp hx
      obtain ⟨_, _, rfl⟩ := Option.map_eq_some_iff.mp hy
      exact hpq
    · rintro ⟨p, n⟩
      rw [List.mem_reverse, List.mem_map, List.mem_filterMap]
      constructor
      · rintro ⟨⟨⟨x, y⟩, n'⟩, hm, e⟩
        obtain ⟨rfl, rfl⟩ : chs y = p ∧ n' = n := by simpa using e
        obtain ⟨hm2, hb⟩ := List.mem_filter.mp hm
        obtain ⟨ex, hc⟩ := below_iff.mp hb
        clear hm
        dsimp only at ex hc
        subst ex
        refine ⟨chs y, (mem_cand _ _).mpr hc, ?_⟩
        have : (⟨(chs y).toArray⟩ : Str) = y := str_ext (by simp)
        rw [this, (td _ _).mp hm2]; rfl
      · rintro ⟨q, hq, e⟩
        obtain ⟨n', hn, e⟩ := Option.map_eq_some_iff.mp e
        obtain ⟨rfl, rfl⟩ : q = p ∧ n' = n := by simpa using e
        refine ⟨((h, ⟨q.toArray⟩), n'), List.mem_filter.mpr ⟨(td _ _).mpr hn, below_iff.mpr ⟨rfl, ?_⟩⟩, by simp⟩
        simpa using (mem_cand _ _).mp hq
  have e2 := congrArg (List.map (·.2)) e
  rw [List.map_map, List.map_reverse, List.map_filterMap] at e2
  have e3 : ((fun x : List Nat × Nat => x.2) ∘ fun e : Rule × Nat => (chs e.1.2, e.2)) = (·.2) := rfl
  rw [e3] at e2
  rw [e2]
  congr 2
  funext p
  cases T (h, ⟨p.toArray⟩) <;> rfl

/-- what every question is like -/
def GoodQ (r : Str × Str) : Prop := Host r.1 ∧ Good r.2 ∧ r.2.length ≤ 14
theorem host_len {h : Str} (x : Host h) : h.length ≤ 1 := by rcases x with rfl | rfl <;> decide
theorem ov2_skip {m : Str → Option Value} {x y : Str} {a b c : Option Value} : (fun z => if z = x then b else ov2 m x a y c z) = ov2 m x b y c := by
  funext z
  unfold ov2
  by_cases e1 : z = x
  · subst e1; rw [if_pos rfl, if_pos rfl]
  · simp only [e1, if_false]
theorem ov2_start {m : Str → Option Value} {x y : Str} (hx : m x = none) (hy : m y = none) : m = ov2 m x none y none := by
  funext z
  unfold ov2
  by_cases e1 : z = x
  · subst e1; rw [if_pos rfl]; exact hx
  · by_cases e2 : z = y
    · subst e2; rw [if_neg e1, if_pos rfl]; exact hy
    · simp only [e1, e2, if_false]
theorem str_assoc (a b c : Str) : a ++ b ++ c = a ++ (b ++ c) := str_ext (by simp [Str.cps_append])
theorem str_len (a b : Str) : (a ++ b).length = a.length + b.length := by show (a ++ b).cps.size = _; rw [Str.cps_append, Array.size_append]; rfl
theorem good_slash : Good (Str.ofString "/") := fun c hc => by rw [show (Str.ofString "/").cps.toList = [47] by decide] at hc; exact .inl (List.mem_singleton.mp hc)
theorem good_slash_a : Good (Str.ofString "/a") := fun c hc => by rw [show (Str.ofString "/a").cps.toList = [47, 97] by decide] at hc; rcases List.mem_cons.mp hc with h | h; exact .inl h; exact .inr (.inl (List.mem_singleton.mp h))
/-- the state between two appends of `_law_questions`' turn -/
structure QSt (XX : Addr → Prop) (led : Led) (l : Addr) (keep : Led) (vs : Array Value) (c : Nat) (as : List (Str × Str)) (led' : Led) : Prop where
  ml : (l, lobj vs c) ∈ led'
  kp : ∀ p ∈ led, p ∈ led'
  kk : ∀ p ∈ keep, p ∈ led'
  ps : PairsAre XX led' vs.toList as
  ga : ∀ r ∈ as, GoodQ r
theorem QSt.more {XX : Addr → Prop} {led keep : Led} {l : Addr} {vs : Array Value} {c : Nat} {as : List (Str × Str)} {led' led'' : Led} (S : QSt XX led l keep vs c as led') (k : ∀ p ∈ led', p ∈ led'') : QSt XX led l keep vs c as led'' :=
  ⟨k _ S.ml, fun p hp => k _ (S.kp p hp), fun p hp => k _ (S.kk p hp), S.ps.mono (fun p hp _ => k _ hp) (fun _ _ h => h), S.ga⟩
theorem QSt.push {g h : Heap} {L : Addr} {XX : Addr → Prop} {led keep : Led} {l : Addr} {vs : Array Value} {c : Nat} {as : List (Str × Str)} {led' : Led} {v : Value} {r : Str × Str} (N : News g L h led') (S : QSt XX led l keep vs c as led') (nl : ∀ p ∈ led, p.1 ≠ l) (nk : ∀ p ∈ keep, p.2.cls ≠ .type "list") (hv : PairIs XX led' v r) (gr : GoodQ r) :
    QSt XX led l keep (vs.push v) (c + 1) (as ++ [r]) (setL led' l (lobj (vs.push v) (c + 1))) where
  ml := mem_setL_self S.ml
  kp := fun p hp => mem_setL (S.kp p hp) (nl p hp)
  kk := fun p hp => keep_setL N S.ml (S.kk p hp) (nk p hp)
  ps := by
    rw [Array.toList_push]
    have k : ∀ q ∈ led', (q.2.cls = .ref 253 ∨ (q.2 = emptyDict ∧ ¬ XX q.1)) → q ∈ setL led' l (lobj (vs.push v) (c + 1)) := fun q hq hc => keep_setL N S.ml hq (ne_list (pairs_cls hc))
    exact (S.ps.mono k (fun _ _ h => h)).snoc (hv.mono k fun _ _ h => h)
  ga := fun q hq => by
    rcases List.mem_append.mp hq with hq | hq
    · exact S.ga q hq
    · rw [List.mem_singleton.mp hq]; exact gr
section
theorem questions_call {w : World} {rl : Addr} {items : Array Value} {nn : Nat} {led : Led} {XX : Addr → Prop} {rs : List (Str × Str)} (mr : (rl, lobj items nn) ∈ led) (ps0 : PairsAre XX led items.toList rs) (gr0 : ∀ r ∈ rs, GoodRule r) (hsz : items.size ≤ 6) (hX : ∀ a, XX a → ∃ o, (a, o) ∈ led) :
    DoesC PG w 20 (.ref 270) [.ref rl] led (fun v led' => (∀ p ∈ led, p ∈ led') ∧ ∃ l vs c as, v = .ref l ∧ (l, lobj vs c) ∈ led' ∧ PairsAre XX led' vs.toList as ∧ as.length = 4 * items.size ∧ (∀ r ∈ as, GoodQ r) ∧ ∀ p ∈ led, p.1 ≠ l) := by
  intro A h₀ L m s Q E cx F N hQ; obtain ⟨A₀, base, outer, env, p, loose, mean, mg, mb, B, hA, hf, hk, X, T, hh, hd, hu, hC⟩ := cx
  walk_at "enter"; intro g1 L1 h1 FG F1 N1 B1 X1 T1; (try dsimp only)
  have cx1 : ∀ e : Env, e.frame = some L1 → e.scope.kind = .function → Cx w (A.deeper e) g1 L1 19 := fun e i1 i2 => cx_deeper (e := e) B1 i1 i2 X1 T1 hh (by omega) (by omega) hC FG.keep (d := 19)
  change Fr g1 L1 h1 (fun y => List.lookup y [(Str.ofString "rules", Value.ref rl)]) at F1
  refine regen (hp := h1) (g := s.gens) (d := s.drawn) (os := s.os) fun tk1 => ?_
  iterate 8 walk1
  rename_i l hA ltA hB F3 N3
  refine wpAny_For (nameX_L F3 (by rfl) ?_)
  refine iter_list (s := ⟨_, _, _, _, _⟩) F3 N3 (.tail _ mr) fun It h4 F4 N4 l4 => ?_
  obtain ⟨m0, hm0, F4⟩ := name_map F4
  have fIt : ∀ p ∈ led, p.1 ≠ It := fun p hp => Nat.ne_of_lt (l4 p (.tail _ hp))
  have nl : ∀ p ∈ led, p.1 ≠ l := fun p hp => Nat.ne_of_lt (ltA p hp)
  refine loop_list (items := items) (n := nn) hh (fun i led₁ m₁ => ∃ ov nv vs c as, m₁ = ov2 m0 (Str.ofString "rule") ov (Str.ofString "other") nv ∧ (l, lobj vs c) ∈ led₁ ∧ (∀ p ∈ led, p ∈ led₁) ∧ PairsAre XX led₁ vs.toList as ∧ as.length = 4 * i ∧ ∀ r ∈ as, GoodQ r) led fIt ?_ ?_ F4 N4 (.head _) ?_ ?_ ?_
  · rintro i led₁ led₂ m₁ fr ⟨ov, nv, vs, c, as, rfl, ml, kp, ps, la, ga⟩
    exact ⟨ov, nv, vs, c, as, rfl, fr _ ml (.inr (.inl lobj_ne)), fun q hq => fr _ (kp q hq) (.inl hq), ps.mono (fun p hp h => fr _ hp (.inr (.inl (ne_lit (pairs_cls h))))) (fun _ _ h => h), la, ga⟩
  · rintro i led₁ m₁ ⟨ov, nv, vs, c, as, rfl, ml, kp, ps, la, ga⟩
    exact kp _ mr
  · exact ⟨none, none, #[], 0, [], ov2_start (by rw [hm0]; rfl) (by rw [hm0]; rfl), .tail _ (.head _), fun q hq => .tail _ (.tail _ hq), trivial, rfl, fun _ h => by cases h⟩
  · rintro i v led₁ m₁ h5 tk5 hv ⟨ov, nv, vs, c, as, rfl, ml, kp, ps, la, ga⟩ F5 N5 mI5 PP EE hPP
    have hi : i < items.size := by rcases Nat.lt_or_ge i items.size with h | h; exact h; rw [Array.getElem?_eq_none h] at hv; cases hv
    obtain ⟨⟨x, y⟩, hr, Pa, Da, ta, ua, rfl, mP, mD, nD⟩ := ps0.get (by rw [Array.getElem?_toList]; exact hv)
    obtain ⟨gh, gp, gl⟩ := gr0 _ (List.mem_of_getElem? hr)
    dsimp only at mP gh gp gl
    replace mP := kp _ mP
    replace mD := kp _ mD
    have lx : x.length ≤ 1 := host_len gh
    clear F4 N4 F3 N3
    subst hm0
    iterate 5 walk1
    rename Fr g1 _ _ _ => F6
    rename News _ _ _ _ => N6
    obtain ⟨m6, hm6, F6⟩ := name_map F6
    refine wpAny_mono (Q := fun v s' => ∃ o t h' tk', v = .str o t ∧ Host o ∧ s' = ⟨h', s.gens, s.drawn, tk', s.os⟩ ∧ Fr g1 L1 h' m6 ∧ News g1 L1 h' led₁) (E := EE) ?_ ?_ (fun _ _ z => z)
    · subst hm6
      iterate 9 walk1
      · walk1
        exact ⟨_, _, _, _, rfl, .inr rfl, rfl, by assumption, by assumption⟩
      · walk1
        exact ⟨_, _, _, _, rfl, .inl rfl, rfl, by assumption, by assumption⟩
    rintro v s' ⟨o, to, h7, tk7, rfl, go, rfl, F7, N7⟩
    clear F6 N6
    have lo : o.length ≤ 1 := host_len go
    subst hm6
    have S0 : QSt XX led l [(It, lit rl (i + 1 : Nat)), (Pa, pairObj Da x y ta ua), (Da, emptyDict)] vs c as led₁ := ⟨ml, kp, fun p hp => (by
      rcases List.mem_cons.mp hp with rfl | hp
      · exact mI5
      rcases List.mem_cons.mp hp with rfl | hp
      · exact mP
      rcases List.mem_cons.mp hp with rfl | hp
      · exact mD
      cases hp), ps, ga⟩
    have nk : ∀ p ∈ [(It, lit rl (i + 1 : Nat)), (Pa, pairObj Da x y ta ua), (Da, emptyDict)], p.2.cls ≠ .type "list" := fun p hp => by
      rcases List.mem_cons.mp hp with rfl | hp
      · exact (show Value.type "list_iterator" ≠ Value.type "list" by decide)
      rcases List.mem_cons.mp hp with rfl | hp
      · exact (show Value.ref 253 ≠ Value.type "list" by decide)
      rcases List.mem_cons.mp hp with rfl | hp
      · exact (show Value.type "dict" ≠ Value.type "list" by decide)
      cases hp
    have sz : vs.size ≤ 24 := by rw [← Array.length_toList, ps.len, la]; omega
    iterate 10 walk1
    rename News _ _ _ _ => N7
    rename Fr g1 _ _ _ => F7
    refine led_append (s := ⟨_, _, _, _, _⟩) F7 N7 ml (by omega) fun h8 F8 N8 => ?_
    have S1 := QSt.push (r := (x, y)) N7 S0 nl nk ⟨Pa, Da, ta, ua, rfl, mP, mD, nD⟩ ⟨gh, gp, Nat.le_trans gl (show (12 : Nat) ≤ 14 by decide)⟩
    clear F7 N7
    revert N8 S1
    generalize setL led₁ l (lobj (vs.push (Value.ref Pa)) (c + 1)) = led₂
    intro N8 S1
    have mP2 := S1.kk _ (.tail _ (.head _))
    have mD2 := S1.kk _ (.tail _ (.tail _ (.head _)))
    have ml2 := S1.ml
    clear S0
    iterate 30 walk1
    rename News _ _ _ _ => N9
    rename Fr g1 _ _ _ => F9
    refine call_meth N9 (.head _) ?_
    obtain ⟨x1, x2, ex, es1, es2⟩ := text2 gh (good_app gp good_slash)
    have lT : (x ++ Str.ofString "=" ++ y ++ Str.ofString "/").length ≤ 1000 := by rw [str_len, str_len, str_len, show (Str.ofString "=").length = 1 by decide, show (Str.ofString "/").length = 1 by decide]; omega
    refine (parse_call (w := w) lT (by rw [str_assoc (x ++ Str.ofString "=")]; exact ex)).then (s := ⟨_, _, _, _, _⟩) (cx1 _ rfl rfl |>.less (by omega)) F9 N9 ?_
    rintro v5 led5 h10 tk10 F10 N10 ⟨P5, D5, t5, u5, rfl, mP5, mD5, kp5, lt5, ltP5⟩
    rw [es1, es2] at mP5
    have nX5 : ¬ XX D5 := fun z => by obtain ⟨o', z⟩ := hX _ z; exact Nat.lt_irrefl _ (lt5 _ (.tail _ (S1.kp _ z)))
    have S2' := S1.more fun p hp => kp5 p (.tail _ hp)
    clear F9 N9 S1 ex
    walk1
    rename News _ _ _ _ => N7
    rename Fr g1 _ _ _ => F7
    refine led_append (s := ⟨_, _, _, _, _⟩) F7 N7 S2'.ml (by simp only [Array.size_push]; omega) fun h8 F8 N8 => ?_
    have S2 := QSt.push (r := (x, y ++ Str.ofString "/")) N7 S2' nl nk ⟨P5, D5, t5, u5, rfl, mP5, mD5, nX5⟩ ⟨gh, (good_app gp good_slash), by show (y ++ Str.ofString "/").length ≤ 14; rw [str_len, show (Str.ofString "/").length = 1 by decide]; omega⟩
    clear F7 N7 S2'
    revert N8 S2
    generalize setL led5 l _ = led₂
    intro N8 S2
    have mP2 := S2.kk _ (.tail _ (.head _))
    have mD2 := S2.kk _ (.tail _ (.tail _ (.head _)))
    have ml2 := S2.ml
    have lsl := Txt.slice_le y none (some (-1))
    iterate 37 walk1
    rename News _ _ _ _ => N9
    rename Fr g1 _ _ _ => F9
    refine call_meth N9 (.head _) ?_
    obtain ⟨x1, x2, ex, es1, es2⟩ := text2 gh (good_slice gp)
    have lT : (x ++ Str.ofString "=" ++ Txt.slice y none (some (-1))).length ≤ 1000 := by rw [str_len, str_len, show (Str.ofString "=").length = 1 by decide]; omega
    refine (parse_call (w := w) lT (by exact ex)).then (s := ⟨_, _, _, _, _⟩) (cx1 _ rfl rfl |>.less (by omega)) F9 N9 ?_
    rintro v5 led5 h10 tk10 F10 N10 ⟨P5, D5, t5, u5, rfl, mP5, mD5, kp5, lt5, ltP5⟩
    rw [es1, es2] at mP5
    have nX5 : ¬ XX D5 := fun z => by obtain ⟨o', z⟩ := hX _ z; exact Nat.lt_irrefl _ (lt5 _ (.tail _ (S2.kp _ z)))
    have S3' := S2.more fun p hp => kp5 p (.tail _ hp)
    clear F9 N9 S2 ex
    walk1
    rename News _ _ _ _ => N7
    rename Fr g1 _ _ _ => F7
    refine led_append (s := ⟨_, _, _, _, _⟩) F7 N7 S3'.ml (by simp only [Array.size_push]; omega) fun h8 F8 N8 => ?_
    have S3 := QSt.push (r := (x, Txt.slice y none (some (-1)))) N7 S3' nl nk ⟨P5, D5, t5, u5, rfl, mP5, mD5, nX5⟩ ⟨gh, (good_slice gp), by exact Nat.le_trans lsl (Nat.le_trans gl (by decide))⟩
    clear F7 N7 S3'
    revert N8 S3
    generalize setL led5 l _ = led₂
    intro N8 S3
    have mP2 := S3.kk _ (.tail _ (.head _))
    have mD2 := S3.kk _ (.tail _ (.tail _ (.head _)))
    have ml2 := S3.ml
    iterate 28 walk1
    rename News _ _ _ _ => N9
    rename Fr g1 _ _ _ => F9
    refine call_meth N9 (.head _) ?_
    obtain ⟨x1, x2, ex, es1, es2⟩ := text2 go (good_app gp good_slash_a)
    have lT : (o ++ Str.ofString "=" ++ y ++ Str.ofString "/a").length ≤ 1000 := by rw [str_len, str_len, str_len, show (Str.ofString "=").length = 1 by decide, show (Str.ofString "/a").length = 2 by decide]; omega
    refine (parse_call (w := w) lT (by rw [str_assoc (o ++ Str.ofString "=")]; exact ex)).then (s := ⟨_, _, _, _, _⟩) (cx1 _ rfl rfl |>.less (by omega)) F9 N9 ?_
    rintro v5 led5 h10 tk10 F10 N10 ⟨P5, D5, t5, u5, rfl, mP5, mD5, kp5, lt5, ltP5⟩
    rw [es1, es2] at mP5
    have nX5 : ¬ XX D5 := fun z => by obtain ⟨o', z⟩ := hX _ z; exact Nat.lt_irrefl _ (lt5 _ (.tail _ (S3.kp _ z)))
    have S4' := S3.more fun p hp => kp5 p (.tail _ hp)
    clear F9 N9 S3 ex
    walk1
    rename News _ _ _ _ => N7
    rename Fr g1 _ _ _ => F7
    refine led_append (s := ⟨_, _, _, _, _⟩) F7 N7 S4'.ml (by simp only [Array.size_push]; omega) fun h8 F8 N8 => ?_
    have S4 := QSt.push (r := (o, y ++ Str.ofString "/a")) N7 S4' nl nk ⟨P5, D5, t5, u5, rfl, mP5, mD5, nX5⟩ ⟨go, (good_app gp good_slash_a), by show (y ++ Str.ofString "/a").length ≤ 14; rw [str_len, show (Str.ofString "/a").length = 2 by decide]; omega⟩
    clear F7 N7 S4'
    revert N8 S4
    generalize setL led5 l _ = led₂
    intro N8 S4
    have mP2 := S4.kk _ (.tail _ (.head _))
    have mD2 := S4.kk _ (.tail _ (.tail _ (.head _)))
    have ml2 := S4.ml
    iterate 1 walk1
    refine hPP _ _ ⟨_, _, _, _, rfl, F8, N8, S4.kk _ (.head _), _, _, _, _, _, ov2_set (x := Str.ofString "rule") (y := Str.ofString "other") (by decide), S4.ml, S4.kp, S4.ps, ?_, S4.ga⟩
    simp only [List.length_append, la, List.length_cons, List.length_nil]
    omega
  · rintro h6 tk6 led6 m6 F6 N6 ⟨ov, nv, vs, c, as, rfl, ml, kp, ps, la, ga⟩
    clear F4 N4 F3 N3
    subst hm0
    iterate 4 walk1
    exact hQ _ _ _ _ (by assumption) (by assumption) ⟨kp, l, vs, c, as, rfl, ml, ps, la, ga, nl⟩
end

abbrev rngObj (n : Int) (t u v : Tok) : Obj := { cls := .type "range", dict := none, data := .fields #[.int 0 t, .int n u, .int 1 v], slots := #[] }
section
variable {prog : Program} {w : World} {A : Around} {E : Value → Shared → Prop} {g : Heap} {L : Addr} {m : Str → Option Value} {led : Led} {s : Shared}
theorem sub_rit_reversed : isSubtype (.type "range_iterator") (.type "reversed") = pure false := by rw [isSubtype_type]; kernel_rfl
theorem push_led {o : Obj} (hf : o.isFreed = false) (F : Fr g L s.heap m) (N : News g L s.heap led) : Fr g L (s.heap.push o) m ∧ News g L (s.heap.push o) ((s.heap.objs.size, o) :: led) ∧ ∀ p ∈ led, p.1 < s.heap.objs.size := ⟨Fr.pushS F o, News.push F N o hf, fun p hp => Heap.lt_size (N p hp).1⟩
theorem range_led {n : Int} {t : Tok} {Q : Value → Shared → Prop} (F : Fr g L s.heap m) (N : News g L s.heap led)
    (hq : ∀ R h' tk' t u v, Fr g L h' m → News g L h' ((R, rngObj n t u v) :: led) → (∀ p ∈ led, p.1 < R) → Q (.ref R) { s with heap := h', toks := tk' }) : wpAny (model prog w) A (call (.type "range") [.int n t]) Q E s := by
  obtain ⟨F1, N1, l1⟩ := push_led (o := rngObj n s.toks t (s.toks + 1)) rfl F N
  exact call_range_1 (hq _ _ _ _ _ _ F1 N1 l1)
theorem small_rng {n : Nat} (hn : n ≤ 1000) : Builtin.Range.small 0 n 1 = true := small_one (by decide) (by decide) (by omega) (by omega)
theorem size_rng {n : Nat} : Builtin.Range.rangeSize 0 n 1 = n := by
  unfold Builtin.Range.rangeSize
  by_cases h : (0 : Int) < n
  · simp; omega
  · simp; omega
theorem iter_rng {R : Addr} {n : Nat} {t u v : Tok} {Q : Value → Shared → Prop} (F : Fr g L s.heap m) (N : News g L s.heap led) (mR : (R, rngObj n t u v) ∈ led) (hn : n ≤ 1000)
    (hq : ∀ It h', Fr g L h' m → News g L h' ((It, rit 0 n 1) :: led) → (∀ p ∈ led, p.1 < It) → Q (.ref It) { s with heap := h' }) : wpAny (model prog w) A (pyIter (.ref R)) Q E s := by
  refine wpAny_pyIter_range (N _ mR).1 (small_rng hn) ?_
  rw [size_rng]
  obtain ⟨F1, N1, l1⟩ := push_led (o := rit 0 n 1) rfl F N
  exact hq _ _ F1 N1 l1
theorem iter_rit {It : Addr} {x left st : Int} {Q : Value → Shared → Prop} (N : News g L s.heap led) (mI : (It, rit x left st) ∈ led) (hq : Q (.ref It) s) : wpAny (model prog w) A (pyIter (.ref It)) Q E s := wpAny_pyIter_rangeiter (N _ mI).1 hq
theorem range_reversed {R : Addr} {n : Nat} {t u v : Tok} {Q : Value → Shared → Prop} (N : News g L s.heap led) (mR : (R, rngObj n t u v) ∈ led) (hn : n ≤ 1000)
    (hq : Q (.ref s.heap.objs.size) { s with heap := s.heap.push (rit ((n : Int) - 1) n (-1)) }) : wpAny (model prog w) A (call (.builtin "range.__reversed__") [.ref R]) Q E s := by
  have hT : s.TypeIs (.ref R) "range" := ⟨_, (N _ mR).1, rfl⟩
  refine wpAny_call_entry F.slot_range_reversed hT F.entry_range_reversed ?_ (F.args_range_reversed_1 _)
  have hR := (N _ mR).1
  obtain ⟨h, g', d, tk, os⟩ := s
  unfold Builtin.«range.__reversed__»
  refine wpAny_bind (wpAny_of_eq (a := Value.ref R) rfl ?_)
  have f0 : Looks (model prog w) h (field (.ref R) 0) (.int 0 t) := (Looks.ld hR).andThen (Looks.of_pure rfl)
  have f1 : Looks (model prog w) h (field (.ref R) 1) (.int n u) := (Looks.ld hR).andThen (Looks.of_pure rfl)
  have f2 : Looks (model prog w) h (field (.ref R) 2) (.int 1 v) := (Looks.ld hR).andThen (Looks.of_pure rfl)
  have rf : Looks (model prog w) h (Builtin.Range.rangeFields (.ref R)) (0, (n : Int), 1) := f0.andThen (Looks.andThen (Looks.of_pure (by rfl)) (f1.andThen (Looks.andThen (Looks.of_pure (by rfl)) (f2.andThen (Looks.andThen (Looks.of_pure (by rfl)) (Looks.of_pure (by rfl)))))))
  refine wpAny_bind (rf.here ?_)
  dsimp only
  have fl : ∀ i : Int, -1000 ≤ i → i ≤ 1000 → Builtin.Range.rangeFitsLong i = true := fun i h1 h2 => by
    unfold Builtin.Range.rangeFitsLong
    rw [Bool.and_eq_true, decide_eq_true_eq, decide_eq_true_eq]
    exact ⟨by omega, by omega⟩
  rw [fl 0 (by decide) (by decide), fl n (by omega) (by omega), fl 1 (by decide) (by decide), fl (-1) (by decide) (by decide), fl (0 - 1) (by decide) (by decide), size_rng, fl n (by omega) (by omega)]
  rw [if_neg (by decide), show (0 + ((n : Int) - 1) * 1) = (n : Int) - 1 by omega]
  repeat walk_at "lkk"
  exact ⟨_, rfl, hq⟩
theorem sub_reversed_r (a : Value) : PySem.Builtin.SmallTypes.newClass "reversed" ⟨[.type "reversed", a], []⟩ = pure (.type "reversed", [a]) := newClass_reversed a
theorem code_reversed_rng {R : Addr} {n : Nat} {t u v : Tok} {Q₁ : Value → Shared → Prop} (N : News g L s.heap led) (mR : (R, rngObj n t u v) ∈ led) (hn : n ≤ 1000)
    (h : Q₁ (.ref s.heap.objs.size) { s with heap := s.heap.push (rit ((n : Int) - 1) n (-1)) }) :
    codeAny (model prog w) A (.call (.builtin "reversed.__new__") ⟨[.type "reversed", .ref R], []⟩) (wants Q₁ E) s := by
  have hT : s.TypeIs (.ref R) "range" := ⟨_, (N _ mR).1, rfl⟩
  refine codeAny_of_tree ?_
  show wpAny _ A.in1 (do checkBuiltinCall "reversed.__new__" ⟨[.type "reversed", .ref R], []⟩; again (.builtin "reversed.__new__" ⟨[.type "reversed", .ref R], []⟩)) _ _ s
  refine wpAny_bind (wpAny_of_eq (F.newCall_reversed_1 _) (wpAny_pure ⟨plainId_quiet F.plain_reversed_new _, codeAny_builtin F.entry_reversed_new ?_⟩))
  rw [Around.under_plainId F.plain_reversed_new _]
  unfold Builtin.«reversed.__new__»
  refine wpAny_bind (wpAny_of_eq (newClass_reversed _) ?_)
  try dsimp only
  refine wpAny_bind (wpAny_of_eq (a := ()) (by first | rfl | kernel_rfl) ?_)
  refine wpAny_bind (wpAny_of_eq (a := ()) (by first | rfl | kernel_rfl) ?_)
  try dsimp only
  refine wpAny_bind (wpAny_specialOf hT F.slot_range_reversed.lookup ?_)
  try dsimp only
  refine wpAny_bind (wpAny_of_eq (F.slot_range_reversed.bind _) ?_)
  try dsimp only
  first
  | rw [if_neg (show ¬ ((Value.builtin "range.__reversed__" == Value.none) = true) from Bool.false_ne_true)]
  | (show wpAny _ _ (if (Value.builtin "range.__reversed__" == Value.none) = true then _ else _) _ _ _; rw [if_neg (show ¬ ((Value.builtin "range.__reversed__" == Value.none) = true) from Bool.false_ne_true)])
  refine wpAny_bind (wpAny_rule ?_)
  refine wpAny_bind (m := runValue (.call (.builtin "range.__reversed__") ⟨[.ref R], []⟩)) (show wpAny _ _ (call (.builtin "range.__reversed__") [.ref R]) _ _ _ from range_reversed N mR hn ?_)
  first
  | exact wpAny_pure h
  | exact wpAny_bind (wpAny_pure (wpAny_pure h))
theorem reversed_led {R : Addr} {n : Nat} {t u v : Tok} {Q : Value → Shared → Prop} (F : Fr g L s.heap m) (N : News g L s.heap led) (mR : (R, rngObj n t u v) ∈ led) (hn : n ≤ 1000)
    (hq : ∀ It h', Fr g L h' m → News g L h' ((It, rit ((n : Int) - 1) n (-1)) :: led) → (∀ p ∈ led, p.1 < It) → Q (.ref It) { s with heap := h' }) : wpAny (model prog w) A (call (.type "reversed") [.ref R]) Q E s := by
  obtain ⟨F1, N1, l1⟩ := push_led (o := rit ((n : Int) - 1) n (-1)) rfl F N
  refine callType_other (U := "range_iterator") (Q₁ := fun obj s₁ => obj = .ref s.heap.objs.size ∧ s₁ = { s with heap := s.heap.push (rit ((n : Int) - 1) n (-1)) }) (by decide +kernel) PySem.F.create_reversed ⟨_, _, PySem.F.mro_reversed⟩ PySem.F.made_reversed sub_rit_reversed (PySem.F.typeCall_reversed_1 _) (code_reversed_rng N mR hn ⟨rfl, rfl⟩) ?_
  rintro obj s₁ ⟨rfl, rfl⟩
  exact ⟨⟨_, Heap.get?_push_size _ rfl, rfl⟩, hq _ _ F1 N1 l1⟩
theorem len_led {l : Addr} {its : Array Value} {n : Nat} {Q : Value → Shared → Prop} (N : News g L s.heap led) (ml : (l, lobj its n) ∈ led) (hsz : its.size ≤ 1000)
    (hq : ∀ t' tk', Q (.int its.size t') { s with toks := tk' }) : wpAny (model prog w) A (call (.builtin "len") [.ref l]) Q E s := call_len_list (News.isList N ml) (by omega) (hq _ _)
theorem led_setitem {l : Addr} {its : Array Value} {n k : Nat} {t : Tok} {v : Value} {Q : Unit → Shared → Prop} (F : Fr g L s.heap m) (N : News g L s.heap led) (ml : (l, lobj its n) ∈ led) (hk : k < its.size) (hsz : its.size ≤ 1000)
    (hq : ∀ h', Fr g L h' m → News g L h' (setL led l (lobj (its.setIfInBounds k v) n)) → Q () { s with heap := h' }) : wpAny (model prog w) A (setItem (.ref l) (.int (k : Nat) t) v) Q E s := by
  have ho := (N _ ml).1
  have hT : s.TypeIs (.ref l) "list" := ⟨_, ho, rfl⟩
  unfold setItem
  try with_reducible refine wpAny_holding ?_
  first | refine wpAny_bind (wpAny_pure ?_) | skip
  refine wpAny_bind (wpAny_sequenceKey hT (by decide) ?_)
  refine wpAny_bind (wpAny_callSpecial?_slot (name := Str.ofString "__setitem__") hT slot_list_setitem (wpAny_call_entry slot_list_setitem hT entry_list_setitem ?_ (args_list_setitem _ _ _)))
  obtain ⟨ki, hki⟩ : ∃ ki : Int, ki = ((k : Nat) : Int) := ⟨_, rfl⟩
  have h0 : 0 ≤ ki := by omega
  have h1 : ki < 2 ^ 63 := by omega
  rw [← hki]
  show wpAny _ _ (Builtin.List.listSubscript? (.int ki t) >>= _) _ _ s
  refine wpAny_bind (wpAny_listSubscript_int (fitsIndex_of h0 h1) ?_)
  clear h0 h1
  subst hki
  show wpAny _ _ ((seqItemAt l k >>= fun r => pure (r.map (k, ·))) >>= _) _ _ s
  refine wpAny_bind (wpAny_bind (wpAny_seqItemAt ho rfl (wpAny_pure ?_)))
  rw [Array.getElem?_eq_getElem hk]
  show wpAny _ _ (setSeqItemAt l k v >>= _) _ _ s
  refine wpAny_bind (wpAny_setSeqItemAt ho rfl ?_)
  have e : Obj.mapSeq (·.setIfInBounds k v) (lobj its n) = lobj (its.setIfInBounds k v) n := by
    unfold Obj.mapSeq lobj
    simp
  obtain ⟨F2, N2⟩ := upd_led F N ml e rfl
  first
    | exact wpAny_bind (wpAny_pure (wpAny_pure ⟨.none, rfl, wpAny_pure (hq _ F2 N2)⟩))
    | exact wpAny_pure ⟨.none, rfl, wpAny_pure (hq _ F2 N2)⟩
theorem led_insert {l : Addr} {its : Array Value} {n k : Nat} {t : Tok} {v : Value} {Q : Value → Shared → Prop} (F : Fr g L s.heap m) (N : News g L s.heap led) (ml : (l, lobj its n) ∈ led) (hk : k ≤ its.size) (hsz : its.size ≤ 1000)
    (hq : ∀ h', Fr g L h' m → News g L h' (setL led l (lobj (its.toList.take k ++ v :: its.toList.drop k).toArray (n + 1))) → Q .none { s with heap := h' }) : wpAny (model prog w) A (call (.builtin "list.insert") [.ref l, .int (k : Nat) t, v]) Q E s := by
  have ho := (N _ ml).1
  have hT : s.TypeIs (.ref l) "list" := ⟨_, ho, rfl⟩
  obtain ⟨ki, hki⟩ : ∃ ki : Int, ki = ((k : Nat) : Int) := ⟨_, rfl⟩
  have hf : Builtin.List.listFitsIndex ki = true := fitsIndex_of (by omega) (by omega)
  have hz : its.size ≤ sizeLine := by rw [sizeLine_eq]; omega
  rw [← hki]
  refine call_meets PySem.F.slot_list_insert hT PySem.F.entry_list_insert (PySem.F.args_list_insert_3 _ _ _) (AutoListH.list_insert_list_int_val_1 l its n ki t v (by rw [hf]; decide) hz) ⟨ho, ?_⟩
  subst hki
  · have e : Obj.mapSeq (fun xs => have k' := if ((k : Nat) : Int) < 0 then (((k : Nat) : Int) + ((xs.size : Nat) : Int)).toNat else min ((k : Nat) : Int).toNat xs.size; (xs.extract 0 k').push v ++ xs.extract k') (lobj its n) = lobj (its.toList.take k ++ v :: its.toList.drop k).toArray (n + 1) := by
      have hneg : ¬ ((k : Nat) : Int) < 0 := by omega
      have hmin : min ((k : Nat) : Int).toNat its.size = k := by omega
      have ey : (its.extract 0 k).push v ++ its.extract k = (its.toList.take k ++ v :: its.toList.drop k).toArray := by
        apply Array.toList_inj.mp
        simp
        exact List.take_of_length_le (by simp)
      unfold Obj.mapSeq lobj
      simp only [hneg, if_false, hmin, ey]
      have hs : ((its.toList.take k ++ v :: its.toList.drop k).toArray.size == its.size) = false := by
        rw [beq_eq_false_iff_ne]
        simp
        omega
      rw [hs]
      rfl
    obtain ⟨F2, N2⟩ := upd_led F N ml e rfl
    exact hq _ F2 N2
end
theorem pk_mGa (w : World) (prog : Program) : peek (Mine.hd.heap_1 w.params) ⟨prog, w.params⟩ (typeLookup (.ref 85) "__getattribute__") = some (some (.builtin "object.__getattribute__")) := by kernel_rfl
theorem pk_mGahook (w : World) (prog : Program) : peek (Mine.hd.heap_1 w.params) ⟨prog, w.params⟩ (typeLookup (.ref 85) "__getattr__") = some none := by kernel_rfl
theorem pk_mSub (w : World) (prog : Program) : peek (Mine.hd.heap_1 w.params) ⟨prog, w.params⟩ (typeLookup (.ref 85) "is_suburi") = some (some (.ref 82)) := by kernel_rfl
theorem pk_mTyfn (w : World) (prog : Program) : peek (Mine.hd.heap_1 w.params) ⟨prog, w.params⟩ (typeOf (.ref 82)) = some (.type "function") := by kernel_rfl
abbrev mgrDict (hs : Int) (t : Tok) (D : Addr) : Obj := { cls := .type "dict", data := .dict #[⟨hs, .str "passwd" t, .ref D⟩] 1 }
/-- the manager as the ledger bears it -/
def MgrIs (led : Led) (a : Addr) : Prop := ∃ dm hs t D, (a, W.instObj 85 dm) ∈ led ∧ (dm, mgrDict hs t D) ∈ led
theorem MgrIs.mono {led led' : Led} {a : Addr} (h : MgrIs led a) (k : ∀ p ∈ led, p ∈ led') : MgrIs led' a := by
  obtain ⟨dm, hs, t, D, h1, h2⟩ := h
  exact ⟨dm, hs, t, D, k _ h1, k _ h2⟩
theorem look_mgr (hs : Int) (t : Tok) (D : Addr) : W.lookIn "is_suburi" (mgrDict hs t D) = some none := by kernel_rfl
section
variable {prog : Program} {w : World} {A : Around} {E : Value → Shared → Prop}
theorem mgr_method {h₀ : Heap} {a L : Addr} {led : Led} {m : Str → Option Value} {pl : Sem Bool} {Q : Value × List Value → Shared → Prop} {s : Shared} (X : (Mine.hd.heap_1 w.params).In h₀) (F : Fr h₀ L s.heap m) (N : News h₀ L s.heap led)
    (ha : MgrIs led a) (hq : ∀ tk', Q (.ref 82, [.ref a]) { s with toks := tk' }) :
    wpAny (model prog w) A (getMethod (.ref a) "is_suburi" pl) Q E s := by
  obtain ⟨h, g, d, tk, os⟩ := s
  obtain ⟨dm, hs, t, D, ha, hdx⟩ := ha
  have st : h₀.StaysIn h := F.keep
  have hn := (N _ ha).1
  have t1 : Looks (model prog w) h (typeOf (.ref a)) (.ref 85) := typeAt hn rfl
  have L1 := Looks.of_peek (M := model prog w) X (pk_mGa w prog)
  have L2 := Looks.of_peek (M := model prog w) X (pk_mGahook w prog)
  have L3 := Looks.of_peek (M := model prog w) X (pk_mSub w prog)
  have L4 := Looks.of_peek (M := model prog w) X (pk_mTyfn w prog)
  have L7 : Looks (model prog w) h (nsGet dm "is_suburi") none := (Looks.ld (N _ hdx).1).andThen (Looks.of_pure (nsLook_of (look_mgr hs t D)))
  unfold getMethod specialOf
  repeat walk_at "lkk"
  exact hq _
end
theorem getMethod_insert_N {prog : Program} {w : World} {A : Around} {E : Value → Shared → Prop} {g : Heap} {L : Addr} {led : Led} {s : Shared} {l : Addr} {its : Array Value} {n : Nat} {pl : Sem Bool} {Q : Value × List Value → Shared → Prop} (N : News g L s.heap led) (ml : (l, lobj its n) ∈ led)
    (h : Q (.builtin "list.insert", [.ref l]) s) : wpAny (model prog w) A (getMethod (.ref l) "insert" pl) Q E s :=
  getMethod_builtin ⟨_, (N _ ml).1, rfl⟩ PySem.F.plainAttrs_list PySem.F.slot_list_insert PySem.F.type_list_insert (fun a e => by cases e; exact ⟨_, (N _ ml).1, rfl⟩) h

/-- a row of the table: a tuple of the rule and its number -/
def RowIs (X : Addr → Prop) (led : Led) (v : Value) (e : Rule × Nat) : Prop := ∃ T P t, v = .ref T ∧ (T, ({ cls := .type "tuple", data := .seq #[P, .int (e.2 : Nat) t] } : Obj)) ∈ led ∧ PairIs X led P e.1
def RowsAre (X : Addr → Prop) (led : Led) : List Value → Tab → Prop
  | [], [] => True
  | v :: vs, r :: rs => RowIs X led v r ∧ RowsAre X led vs rs
  | _, _ => False
theorem row_cls {X : Addr → Prop} {p : Addr × Obj} (h : p.2.cls = .ref 253 ∨ p.2.cls = .type "tuple" ∨ (p.2 = emptyDict ∧ ¬ X p.1)) : p.2.cls = .ref 253 ∨ p.2.cls = .type "tuple" ∨ p.2.cls = .type "dict" := h.imp id fun h => h.imp id fun h => by rw [h.1]
theorem row_ne {v : Value} (h : v = .ref 253 ∨ v = .type "tuple" ∨ v = .type "dict") : v ≠ .type "list" ∧ v ≠ .type "list_iterator" ∧ v ≠ .type "range_iterator" ∧ v ≠ .ref 158 := by
  rcases h with rfl | rfl | rfl <;> decide
theorem RowIs.mono {X X' : Addr → Prop} {led led' : Led} {v : Value} {r : Rule × Nat} (h : RowIs X led v r) (k : ∀ p ∈ led, (p.2.cls = .ref 253 ∨ p.2.cls = .type "tuple" ∨ (p.2 = emptyDict ∧ ¬ X p.1)) → p ∈ led') (hX : ∀ D, (D, emptyDict) ∈ led → ¬ X D → ¬ X' D) : RowIs X' led' v r := by
  obtain ⟨T, P, t, e, h1, h2⟩ := h
  exact ⟨T, P, t, e, k _ h1 (.inr (.inl rfl)), h2.mono (fun p hp h => k p hp (h.imp id .inr)) hX⟩
theorem RowsAre.mono {X X' : Addr → Prop} {led led' : Led} (k : ∀ p ∈ led, (p.2.cls = .ref 253 ∨ p.2.cls = .type "tuple" ∨ (p.2 = emptyDict ∧ ¬ X p.1)) → p ∈ led') (hX : ∀ D, (D, emptyDict) ∈ led → ¬ X D → ¬ X' D) : ∀ {vs : List Value} {rs : Tab}, RowsAre X led vs rs → RowsAre X' led' vs rs
  | [], [], _ => trivial
  | _ :: _, _ :: _, ⟨h, t⟩ => ⟨h.mono k hX, RowsAre.mono k hX t⟩
  | [], _ :: _, h => h.elim
  | _ :: _, [], h => h.elim
theorem RowsAre.len {X : Addr → Prop} {led : Led} : ∀ {vs : List Value} {rs : Tab}, RowsAre X led vs rs → vs.length = rs.length
  | [], [], _ => rfl
  | _ :: _, _ :: _, ⟨_, t⟩ => congrArg (· + 1) t.len
  | [], _ :: _, h => h.elim
  | _ :: _, [], h => h.elim
theorem RowsAre.get {X : Addr → Prop} {led : Led} : ∀ {vs : List Value} {rs : Tab} {i : Nat} {v : Value}, RowsAre X led vs rs → vs[i]? = some v → ∃ r, rs[i]? = some r ∧ RowIs X led v r
  | [], [], _, _, _, h => by simp at h
  | v :: vs, r :: rs, 0, v', ⟨h, _⟩, e => ⟨r, rfl, by simp at e; exact e ▸ h⟩
  | v :: vs, r :: rs, i + 1, v', ⟨_, t⟩, e => t.get (i := i) (by simpa using e)
  | [], _ :: _, _, _, h, _ => h.elim
  | _ :: _, [], _, _, h, _ => h.elim
theorem RowsAre.set {X : Addr → Prop} {led : Led} {v : Value} {r : Rule × Nat} (h' : RowIs X led v r) : ∀ {vs : List Value} {rs : Tab} {i : Nat}, RowsAre X led vs rs → RowsAre X led (vs.set i v) (rs.set i r)
  | [], [], _, _ => trivial
  | _ :: _, _ :: _, 0, ⟨_, t⟩ => ⟨h', t⟩
  | _ :: _, _ :: _, _ + 1, ⟨h, t⟩ => ⟨h, t.set h'⟩
  | [], _ :: _, _, h => h.elim
  | _ :: _, [], _, h => h.elim
theorem RowsAre.ins {X : Addr → Prop} {led : Led} {v : Value} {r : Rule × Nat} (h' : RowIs X led v r) : ∀ {vs : List Value} {rs : Tab} {i : Nat}, RowsAre X led vs rs → RowsAre X led (vs.take i ++ v :: vs.drop i) (rs.take i ++ r :: rs.drop i)
  | [], [], i, _ => by simp only [List.take_nil, List.drop_nil, List.nil_append]; exact ⟨h', trivial⟩
  | _ :: _, _ :: _, 0, ⟨h, t⟩ => ⟨h', h, t⟩
  | _ :: _, _ :: _, _ + 1, ⟨h, t⟩ => ⟨h, t.ins h'⟩
  | [], _ :: _, _, h => h.elim
  | _ :: _, [], _, h => h.elim
section
theorem put_call {w : World} {mg0 tl : Addr} {rv : Value} {tvs : Array Value} {c : Nat} {tab : Tab} {T : Rule → Option Nat} {r : Rule} {n : Nat} {tn : Tok} {led : Led} {XX : Addr → Prop}
    (hmg : MgrIs led mg0) (ml : (tl, lobj tvs c) ∈ led) (rows : RowsAre XX led tvs.toList tab) (hr : PairIs XX led rv r) (hsz : tvs.size ≤ 6) (hlen : ∀ e ∈ tab, e.1.2.length ≤ 1000) (hlr : r.2.length ≤ 1000) (ok : TabOk tab) (td : Told tab T) :
    DoesC PG w 20 (.ref 277) [.ref mg0, .ref tl, rv, .int n tn] led (fun v led' => v = .none ∧ (∀ p ∈ led, p.1 ≠ tl → p ∈ led') ∧ ∃ tvs' c' tab', (tl, lobj tvs' c') ∈ led' ∧ RowsAre XX led' tvs'.toList tab' ∧ TabOk tab' ∧ Told tab' (upT T r n) ∧ tvs'.size ≤ tvs.size + 1) := by
  intro A h₀ L m s Q E cx F N hQ; obtain ⟨A₀, base, outer, env, p, loose, mean, mg, mb, B, hA, hf, hk, X, T, hh, hd, hu, hC⟩ := cx
  walk_at "enter"; intro g1 L1 h1 FG F1 N1 B1 X1 T1; (try dsimp only)
  have cx1 : ∀ e : Env, e.frame = some L1 → e.scope.kind = .function → Cx w (A.deeper e) g1 L1 19 := fun e i1 i2 => cx_deeper (e := e) B1 i1 i2 X1 T1 hh (by omega) (by omega) hC FG.keep (d := 19)
  change Fr g1 L1 h1 (fun y => List.lookup y [(Str.ofString "number", Value.int n tn), (Str.ofString "rule", rv), (Str.ofString "table", Value.ref tl), (Str.ofString "manager", Value.ref mg0)]) at F1
  refine regen (hp := h1) (g := s.gens) (d := s.drawn) (os := s.os) fun tk1 => ?_
  iterate 8 walk1
  refine len_led (s := ⟨_, _, _, _, _⟩) N1 ml (by omega) fun t2 tk2 => ?_
  iterate 3 walk1
  refine wpAny_For ?_
  iterate 14 walk1
  rename News _ _ _ _ => N3
  rename Fr g1 _ _ _ => F3
  refine len_led (s := ⟨_, _, _, _, _⟩) N3 ml (by omega) fun t3 tk3 => ?_
  walk1
  refine range_led (s := ⟨_, _, _, _, _⟩) F3 N3 fun R h4 tk4 r1 r2 r3 F4 N4 lR => ?_
  walk1
  refine reversed_led (s := ⟨_, _, _, _, _⟩) F4 N4 (.head _) (by omega) fun It h5 F5 N5 lI => ?_
  refine iter_rit (s := ⟨_, _, _, _, _⟩) N5 (.head _) ?_
  obtain ⟨m0, hm0, F5⟩ := name_map F5
  have fIt : ∀ p ∈ led, p.1 ≠ It := fun p hp => Nat.ne_of_lt (lI p (.tail _ hp))
  have lt := rows.len
  rw [Array.length_toList] at lt
  have nl : ∀ p ∈ led, p.1 ≠ It := fIt
  refine loop_range (cnt := tvs.size) (x := (tvs.size : Int) - 1) (st := -1) hh (fun i led₁ m₁ => ∃ iv p tp, m₁ = ov2 m0 (Str.ofString "i") iv (Str.ofString "place") (some (.int (p : Nat) tp)) ∧ (∀ q ∈ led, q ∈ led₁) ∧ p ≤ tvs.size ∧
    (∀ j e, tvs.size - i ≤ j → tab[j]? = some e → e.1 ≠ r) ∧ (∀ j e, tvs.size - i ≤ j → j < p → tab[j]? = some e → belowR e.1 r = false) ∧ (∀ e, tab[p]? = some e → belowR e.1 r = true) ∧ tvs.size - i ≤ p) led fIt ?_ F5 N5 (.head _) ?_ ?_ ?_
  · rintro i led₁ led₂ m₁ fr ⟨iv, p, tp, rfl, kp, r⟩
    exact ⟨iv, p, tp, rfl, fun q hq => fr _ (kp q hq) (.inl hq), r⟩
  · refine ⟨none, tvs.size, t2, ?_, fun q hq => .tail _ (.tail _ hq), Nat.le_refl _, fun j e h1 h2 => ?_, fun j e h1 h2 => ?_, fun e h => ?_, by omega⟩
    · rw [hm0]
      funext y
      unfold ov2
      by_cases e1 : y = Str.ofString "i"
      · subst e1; rfl
      · by_cases e2 : y = Str.ofString "place"
        · subst e2; rfl
        · simp only [e1, e2, if_false]
    · rw [List.getElem?_eq_none (by omega)] at h2; cases h2
    · omega
    · rw [List.getElem?_eq_none (by omega)] at h; cases h
  · rintro i ti led₁ m₁ h6 tk6 hi ⟨iv, p, tp, rfl, kp, hp, j1, j2, j3, j4⟩ F6 N6 mI6 PP EE hPP
    have hi2 : tvs.size - 1 - i < tvs.size := by omega
    have ei : (tvs.size : Int) - 1 + -1 * (i : Int) = ((tvs.size - 1 - i : Nat) : Int) := by omega
    rw [ei]
    generalize hk : tvs.size - 1 - i = k at *
    obtain ⟨v, hv⟩ : ∃ v, tvs[k]? = some v := ⟨_, Array.getElem?_eq_getElem hi2⟩
    obtain ⟨⟨⟨x, y⟩, n0⟩, hrow, T0, P0, t0, rfl, mT, Pa, Da, ta, ua, rfl, mP, mD, nD⟩ := rows.get (by rw [Array.getElem?_toList]; exact hv)
    have ml6 := kp _ ml
    have mT6 := kp _ mT
    have mP6 := kp _ mP
    have mD6 := kp _ mD
    have mg6 := hmg.mono kp
    clear F4 N4 F3 N3 F5 N5
    subst hm0
    obtain ⟨x', y'⟩ := r
    obtain ⟨Pr, Dr, tr, ur, rfl, mPr, mDr, nDr⟩ := hr
    have mPr6 := kp _ mPr
    iterate 10 walk1
    rename News _ _ _ _ => N7
    refine item_list (News.isList N7 ml6) (by omega) (by omega) (by simpa using hv) ?_
    iterate 7 walk1
    · have e0 : (x, y) = (x', y') := by
        rename same2 _ _ _ _ = true => hs
        unfold same2 at hs
        obtain ⟨a, b⟩ := of_decide_eq_true hs
        exact Prod.ext a b
      iterate 10 walk1
      rename News _ _ _ _ => N8
      rename Fr g1 _ _ _ => F8
      refine led_setitem (s := ⟨_, _, _, _, _⟩) F8 N8 (.tail _ ml6) hi2 (by omega) fun h9 F9 N9 => ?_
      iterate 3 walk1
      refine hPP (.ret .none) _ ?_
      unfold TurnEnd
      dsimp only
      refine leaveK_ F9 N9 fun F10 N10 => hQ _ _ _ _ F10 N10 ⟨rfl, fun q hq hn => mem_setL (.tail _ (kp _ hq)) hn, _, _, tab.set k ((x', y'), n), mem_setL_self (.tail _ ml6), ?_, ?_⟩
      · have kk := fun (o' : Obj) (q : Addr × Obj) (hq : q ∈ led) (hc : q.2.cls = .ref 253 ∨ q.2.cls = .type "tuple" ∨ (q.2 = emptyDict ∧ ¬ XX q.1)) => keep_setL (o' := o') N8 (.tail _ ml6) (.tail _ (kp q hq)) (row_ne (row_cls hc)).1
        rw [Array.toList_setIfInBounds]
        exact RowsAre.set ⟨_, _, _, rfl, keep_setL N8 (.tail _ ml6) (.head _) (show Value.type "tuple" ≠ Value.type "list" by decide), Pr, Dr, tr, ur, rfl, kk _ _ mPr (.inl rfl), kk _ _ mDr (.inr (.inr ⟨rfl, nDr⟩)), nDr⟩ (rows.mono (kk _) fun _ _ h => h)
      · rw [e0] at hrow
        obtain ⟨o1, o2⟩ := tab_set (n := n) ok td hrow
        exact ⟨o1, o2, by rw [Array.size_setIfInBounds]; omega⟩
    · have e0 : ((x, y) : Rule) ≠ (x', y') := by
        rename same2 _ _ _ _ = false => hs
        unfold same2 at hs
        intro z
        exact of_decide_eq_false hs ⟨congrArg Prod.fst z, congrArg Prod.snd z⟩
      iterate 6 walk1
      rename News _ _ _ _ => N8
      rename Fr g1 _ _ _ => F8
      refine mgr_method (s := ⟨_, _, _, _, _⟩) X1 F8 N8 mg6 fun tk9 => ?_
      iterate 6 walk1
      refine item_list (News.isList N8 ml6) (by omega) (by omega) (by simpa using hv) ?_
      iterate 6 walk1
      refine wpAny_call ((suburi_call (w := w) mP6 mPr6 (hlen _ (List.mem_of_getElem? hrow)) hlr).then (s := ⟨_, _, _, _, _⟩) ((cx1 _ rfl rfl).less (by omega)) F8 N8 ?_)
      rintro v led7 h10 tk10 F10 N10 ⟨rfl, rfl⟩
      clear F8 N8
      iterate 2 walk1
      · rename below _ _ _ _ = true => hb
        iterate 6 walk1
        refine hPP _ _ ⟨_, _, _, _, rfl, by assumption, by assumption, mI6, _, k, ti, ov2_set (x := Str.ofString "i") (y := Str.ofString "place") (by decide), kp, by omega, fun j e h1 h2 => ?_, fun j e h1 h2 h3 => by omega, fun e h => ?_, by omega⟩
        · rcases Nat.lt_or_ge k j with z | z
          · exact j1 j e (by omega) h2
          · obtain rfl : j = k := by omega
            rw [hrow] at h2
            rw [← Option.some.inj h2]
            exact e0
        · rw [hrow] at h
          rw [← Option.some.inj h]
          exact hb
      · rename below _ _ _ _ = false => hb
        iterate 2 walk1
        refine hPP _ _ ⟨_, _, _, _, rfl, by assumption, by assumption, mI6, _, p, tp, ov2_skip, kp, hp, fun j e h1 h2 => ?_, fun j e h1 h2 h3 => ?_, j3, by omega⟩
        · rcases Nat.lt_or_ge k j with z | z
          · exact j1 j e (by omega) h2
          · obtain rfl : j = k := by omega
            rw [hrow] at h2
            rw [← Option.some.inj h2]
            exact e0
        · rcases Nat.lt_or_ge k j with z | z
          · exact j2 j e (by omega) h2 h3
          · obtain rfl : j = k := by omega
            rw [hrow] at h3
            rw [← Option.some.inj h3]
            exact hb
  · rintro h6 tk6 led6 m6 F6 N6 ⟨iv, p, tp, rfl, kp, hp, j1, j2, j3, j4⟩
    clear F4 N4 F3 N3 F5 N5
    subst hm0
    iterate 4 walk1
    have ml6 := kp _ ml
    refine getMethod_insert_N (s := ⟨_, _, _, _, _⟩) N6 ml6 ?_
    iterate 12 walk1
    rename News _ _ _ _ => N8
    rename Fr g1 _ _ _ => F8
    refine led_insert (s := ⟨_, _, _, _, _⟩) F8 N8 (.tail _ ml6) hp (by omega) fun h9 F9 N9 => ?_
    iterate 2 walk1
    refine leaveK_ F9 N9 fun F10 N10 => hQ _ _ _ _ F10 N10 ⟨rfl, fun q hq hn => mem_setL (.tail _ (kp _ hq)) hn, _, _, tab.take p ++ (r, n) :: tab.drop p, mem_setL_self (.tail _ ml6), ?_, ?_⟩
    · have kk := fun (o' : Obj) (q : Addr × Obj) (hq : q ∈ led) (hc : q.2.cls = .ref 253 ∨ q.2.cls = .type "tuple" ∨ (q.2 = emptyDict ∧ ¬ XX q.1)) => keep_setL (o' := o') N8 (.tail _ ml6) (.tail _ (kp q hq)) (row_ne (row_cls hc)).1
      exact RowsAre.ins ⟨_, _, _, rfl, keep_setL N8 (.tail _ ml6) (.head _) (show Value.type "tuple" ≠ Value.type "list" by decide), hr.mono (fun q hq hc => kk _ q hq (hc.imp id .inr)) fun _ _ h => h⟩ (rows.mono (kk _) fun _ _ h => h)
    · obtain ⟨o1, o2⟩ := tab_insert (n := n) ok td (fun e he => by obtain ⟨j, hj⟩ := List.getElem?_of_mem he; exact j1 j e (by omega) hj) (fun j e h1 h2 => j2 j e (by omega) h1 h2) j3
      exact ⟨o1, o2, by simp; omega⟩
end

def wayStr (h : Str) (ps : List Str) (k : Nat) : Str := h ++ Str.join (Str.ofString "") ((ps.take k).map fun p => Str.ofString "/" ++ p)
def noteF (h : Str) (ps : List Str) (ws : List Str) : Nat → List Str
  | 0 => ws
  | k + 1 => if wayStr h ps k ∈ noteF h ps ws k then noteF h ps ws k else noteF h ps ws k ++ [wayStr h ps k]
theorem pick_to {items : Array Value} {k : Nat} : slicePick items none (some (k : Int)) none = (items.toList.take k).toArray := by
  rw [W.kms_pick_eq]
  unfold W.kms_pick W.kms_hi W.kms_lo
  apply Array.toList_inj.mp
  have h : ¬ ((k : Nat) : Int) < 0 := by omega
  simp [h]
theorem pick_from {items : Array Value} {k : Nat} : slicePick items (some (k : Int)) none none = (items.toList.drop k).toArray := by
  rw [W.kms_pick_eq]
  unfold W.kms_pick W.kms_hi W.kms_lo
  apply Array.toList_inj.mp
  have h : ¬ ((k : Nat) : Int) < 0 := by omega
  simp [h]
  rcases Nat.le_total k items.size with z | z
  · rw [Nat.min_eq_left z]; exact List.take_of_length_le (by simp)
  · rw [Nat.min_eq_right z, Nat.sub_self, List.take_zero]; exact (List.drop_of_length_le (by simpa using z)).symm
section
variable {prog : Program} {w : World} {A : Around} {E : Value → Shared → Prop} {g : Heap} {L : Addr} {m : Str → Option Value} {led : Led} {s : Shared}
theorem slice_led {value slice : Expr} {l : Addr} {items : Array Value} {n : Nat} {vl vu : Value} {lo hi : Option Int} {zs : List Value} {Q : Value → Shared → Prop} (F : Fr g L s.heap m) (N : News g L s.heap led) (ml : (l, lobj items n) ∈ led) (pl : IsPart vl lo) (pu : IsPart vu hi) (hz : slicePick items lo hi none = zs.toArray) (hsz : items.size ≤ 1000)
    (hq : ∀ S h', Fr g L h' m → News g L h' ((S, lobj zs.toArray 0) :: led) → (∀ p ∈ led, p.1 < S) → Q (.ref S) { s with heap := h' })
    (hs : subscripted slice false (.ref l) (.ref s.heap.objs.size) = operate [.ref s.heap.objs.size, .ref l] (getItem (.ref l) (.ref s.heap.objs.size)) := by with_unfolding_all rfl)
    (ht : ∀ r, letTemporaryGo value (.ref l) r = pure () := by intro _; with_unfolding_all rfl) :
    wpAny (model prog w) A (subscriptTail value slice (.ref l) (.ref s.heap.objs.size)) Q E { s with heap := s.heap.push { cls := .type "slice", data := .fields #[vl, vu, .none] } } := by
  refine slice_list F N (News.isList N ml) pl pu (fun h' F' N' => ?_) hs ht (by rw [sizeLine_eq]; omega)
  rw [hz] at N'
  exact hq _ _ F' N' fun p hp => Nat.lt_succ_of_lt (Heap.lt_size (N p hp).1)
end
theorem join_led {prog : Program} {w : World} {A : Around} {E : Value → Shared → Prop} {g : Heap} {L : Addr} {led : Led} {s : Shared} {D : Addr} {ys : List Value} {ts : List Str} {sep : Str} {t : Tok} {Q : Value → Shared → Prop} (N : News g L s.heap led) (mD : (D, LCg.lst ys) ∈ led) (hs : StrsAre ys ts) (hl : (ts.map (·.length)).sum + ts.length * sep.length ≤ 1000)
    (hq : ∀ t' k, Q (.str (Str.join sep ts) t') { s with toks := k }) : wpAny (model prog w) A (call (.builtin "str.join") [.str sep t, .ref D]) Q E s := by
  obtain ⟨l, rfl, rfl⟩ := strsAre_values hs
  have h1 : PySem.Builtin.Str.tooLong ((l.map (·.1)).toArray.foldl (· + ·.length + sep.length) 0) = false := by
    rw [StrLaws.joinTotal]
    unfold PySem.Builtin.Str.tooLong
    rw [decide_eq_false_iff_not, sizeLine_eq]
    omega
  have e : Txt.join sep (l.map (·.1)) = Str.join sep (l.map (·.1)) := StrLaws.glued_eq_join _ _
  refine call_meets PySem.F.slot_str_join (typeIs_str _ _ _) PySem.F.entry_str_join (PySem.F.args_str_join_2 _ _) (meets_str_join_list sep t D l h1) ⟨News.isList N mD, post_join l ⟨joinFit_length h1, fun t' k => ?_⟩⟩
  rw [e]
  exact hq t' k
theorem noteF_len (h : Str) (ps ws : List Str) : ∀ k, (noteF h ps ws k).length ≤ ws.length + k
  | 0 => Nat.le_refl _
  | k + 1 => by
    unfold noteF
    have := noteF_len h ps ws k
    split
    · omega
    · rw [List.length_append, List.length_singleton]; omega
theorem sum_le {l : List Str} {n : Nat} (h : ∀ x ∈ l, x.length ≤ n) : (l.map (·.length)).sum ≤ l.length * n := by
  induction l with
  | nil => simp
  | cons a l ih =>
    have h1 := h a (.head _)
    have h2 := ih fun x hx => h x (.tail _ hx)
    rw [List.map_cons, List.sum_cons, List.length_cons, Nat.succ_mul]
    omega
/-- a comprehension by an invariant -/
theorem comp_inv {prog : Program} {w : World} {A : Around} {h₀ : Heap} {L : Addr} {m : Str → Option Value} {env : Env} {elt : Expr} {x : Str} {scope : Scope} {cl : List (Str × Addr)} {s : Shared} {S : Led → Prop} {P : Nat → Value → Prop} {Fin : List Value → Led → Prop} {n : Nat} (J : Nat → List Value → Led → Prop)
    (step : ∀ i ys led v I oI C oC D m₂ h tk (E' : Value → Shared → Prop), i < n → J i ys led → P i v → LCg.NsObj oC m₂ → m₂ x = some v → Fr h₀ L h m → News h₀ L h ((I, oI) :: (C, oC) :: (D, LCg.lst ys) :: led) → LCg.Off3 I C D led → (@Ne Nat I C ∧ @Ne Nat I D ∧ @Ne Nat C D) →
      wpAny (model prog w) A (eval elt (compEnvC scope cl C env)) (LCg.CompEnd h₀ L m { s with heap := h, toks := tk } I oI C oC D (LCg.lst ys) S (fun y led' => J (i + 1) (ys ++ [y]) led')) E' { s with heap := h, toks := tk })
    (fin : ∀ ys led, J n ys led → Fin ys led) : ∀ k i ys led, i + k = n → J i ys led → LCg.CompRest prog w A h₀ L m env elt x scope cl s S P Fin k i ys led
  | 0, i, ys, led, e, hJ => by rw [Nat.add_zero] at e; subst e; exact LCg.CompRest.zero (fin _ _ hJ)
  | k + 1, i, ys, led, e, hJ => LCg.CompRest.succ fun v I oI C oC D m₂ h tk E' hP hN hm F N o d =>
      wpAny_mono (step i ys led v I oI C oC D m₂ h tk E' (by omega) hJ hP hN hm F N o d) (fun y s' ⟨h', tk', led', e1, F', N', o', S', hJ'⟩ => ⟨h', tk', led', e1, F', N', o', S', comp_inv J step fin k (i + 1) _ _ (by omega) hJ'⟩) fun _ _ z => z
section
theorem note_call {w : World} {wl pl : Addr} {wvs pvs : Array Value} {c c1 : Nat} {ws ps : List Str} {ho : Str} {th : Tok} {led : Led}
    (mw : (wl, lobj wvs c) ∈ led) (mp : (pl, lobj pvs c1) ∈ led) (sw : StrsAre wvs.toList ws) (sp : StrsAre pvs.toList ps) (hn : wl ≠ pl) (lp : ∀ p ∈ ps, p.length ≤ 20) (np : ps.length ≤ 20) (lh : ho.length ≤ 20) (nw : ws.length ≤ 900) :
    DoesC PG w 20 (.ref 289) [.ref wl, .str ho th, .ref pl] led (fun v led' => v = .none ∧ (∀ p ∈ led, p.1 ≠ wl → p ∈ led') ∧ ∃ wvs' c', (wl, lobj wvs' c') ∈ led' ∧ StrsAre wvs'.toList (noteF ho ps ws (ps.length + 1))) := by
  intro A h₀ L m s Q E cx F N hQ; obtain ⟨A₀, base, outer, env, p, loose, mean, mg, mb, B, hA, hf, hk, X, T, hh, hd, hu, hC⟩ := cx
  walk_at "enter"; intro g1 L1 h1 FG F1 N1 B1 X1 T1; (try dsimp only)
  have cx1 : ∀ e : Env, e.frame = some L1 → e.scope.kind = .function → Cx w (A.deeper e) g1 L1 19 := fun e i1 i2 => cx_deeper (e := e) B1 i1 i2 X1 T1 hh (by omega) (by omega) hC FG.keep (d := 19)
  change Fr g1 L1 h1 (fun y => List.lookup y [(Str.ofString "pieces", Value.ref pl), (Str.ofString "host", Value.str ho th), (Str.ofString "ways", Value.ref wl)]) at F1
  refine regen (hp := h1) (g := s.gens) (d := s.drawn) (os := s.os) fun tk1 => ?_
  have lps : pvs.size = ps.length := by rw [← Array.length_toList]; exact sp.length
  iterate 1 walk1
  refine wpAny_For ?_
  iterate 11 walk1
  refine len_led (s := ⟨_, _, _, _, _⟩) N1 mp (by omega) fun t2 tk2 => ?_
  iterate 3 walk1
  rename News _ _ _ _ => N3
  rename Fr g1 _ _ _ => F3
  refine range_led (s := ⟨_, _, _, _, _⟩) F3 N3 fun R h4 tk4 r1 r2 r3 F4 N4 lR => ?_
  rw [show ((pvs.size : Int) + 1) = ((pvs.size + 1 : Nat) : Int) by omega] at N4
  refine iter_rng (s := ⟨_, _, _, _, _⟩) F4 N4 (.head _) (by omega) fun It h5 F5 N5 lI => ?_
  obtain ⟨m0, hm0, F5⟩ := name_map F5
  have fIt : ∀ p ∈ led, p.1 ≠ It := fun p hp => Nat.ne_of_lt (lI p (.tail _ hp))
  refine loop_range (cnt := pvs.size + 1) (x := 0) (st := 1) hh (fun i led₁ m₁ => ∃ kv wv wvs' c', m₁ = ov2 m0 (Str.ofString "k") kv (Str.ofString "way") wv ∧ (∀ q ∈ led, q.1 ≠ wl → q ∈ led₁) ∧ (wl, lobj wvs' c') ∈ led₁ ∧ StrsAre wvs'.toList (noteF ho ps ws i)) led fIt ?_ F5 N5 (.head _) ?_ ?_ ?_
  · rintro i led₁ led₂ m₁ fr ⟨kv, wv, wvs', c', rfl, kp, mw', sw'⟩
    exact ⟨kv, wv, wvs', c', rfl, fun q hq hn => fr _ (kp q hq hn) (.inl hq), fr _ mw' (.inr (.inl (show Value.type "list" ≠ Value.type "range_iterator" by decide))), sw'⟩
  · exact ⟨none, none, wvs, c, ov2_start (by rw [hm0]; rfl) (by rw [hm0]; rfl), fun q hq _ => .tail _ (.tail _ hq), .tail _ (.tail _ mw), sw⟩
  · rintro i ti led₁ m₁ h6 tk6 hi ⟨kv, wv, wvs', c', rfl, kp, mw', sw'⟩ F6 N6 mI6 PP EE hPP
    rw [show (0 : Int) + 1 * (i : Int) = (i : Int) by omega]
    have mp6 := kp _ mp (fun e => hn e.symm)
    clear F4 N4 F3 N3 F5 N5
    subst hm0
    iterate 12 walk1
    rename Fr g1 _ _ _ => F7
    rename News _ _ _ _ => N7
    refine LCg.ListComp_U (cl := []) F7 (by with_unfolding_all rfl) (by decide) rfl (by decide) rfl ?_
    iterate 7 walk1
    refine slice_led (s := ⟨_, _, _, _, _⟩) (zs := pvs.toList.take i) F7 N7 mp6 .none (.int _ _) pick_to (by omega) (fun SL h8 F8 N8 lS => ?_)
    refine LCg.CompSrc.ledger hh F8 N8 (.head _) (by rw [sizeLine_eq]; simp; omega) fun g9 => ?_
    obtain ⟨led8, hled8⟩ : ∃ led8, led8 = (SL, lobj (List.take i pvs.toList).toArray 0) :: led₁ := ⟨_, rfl⟩
    rw [← hled8] at N8
    refine comp_inv (n := (pvs.toList.take i).toArray.size) (fun j ys led' => StrsAre ys ((ps.take j).map fun p => Str.ofString "/" ++ p) ∧ led' = led8) ?_ ?_ _ 0 [] _ (Nat.zero_add _) ⟨StrsAre.nil, hled8.symm⟩
    · rintro j ys led' v I oI C oC D m₂ h10 tk10 E' hj ⟨hys, rfl⟩ hv hC hm F10 N10 off dis
      have hj2 : j < i ∧ j < ps.length := by
        rw [List.size_toArray, List.length_take, Array.length_toList] at hj
        omega
      have hv' : pvs.toList[j]? = some v := by
        rw [List.getElem?_toArray, List.getElem?_take_of_lt hj2.1] at hv
        exact hv
      obtain ⟨p, tp, rfl, hp⟩ := sp.item j v hv'
      have lp1 : p.length ≤ 20 := lp p (List.mem_of_getElem? hp)
      iterate 4 walk1
      refine LCg.CompEnd.intro F10 N10 led' (fun p hp => hp) off (.inr ⟨_, by rw [hled8]; exact .head _, rfl, _, rfl⟩) ⟨?_, rfl⟩
      have e : ps.take (j + 1) = ps.take j ++ [p] := by rw [List.take_add_one, hp]; rfl
      rw [e, List.map_append]
      exact hys.append' (.cons _ _ .nil)
    · rintro ys led' ⟨hys, rfl⟩ D9 h11 tk11 F11 N11 off
      have lt : ∀ x ∈ (ps.take i).map (fun p => Str.ofString "/" ++ p), x.length ≤ 21 := fun x hx => by
        obtain ⟨p, hp, rfl⟩ := List.mem_map.mp hx
        have := lp p (List.take_subset _ _ hp)
        rw [str_len, show (Str.ofString "/").length = 1 by decide]; omega
      have sm := sum_le lt
      have ln : ((ps.take i).map (fun p => Str.ofString "/" ++ p)).length ≤ 20 := by rw [List.length_map, List.length_take]; omega
      have ei : ps.take (pvs.toList.take i).toArray.size = ps.take i := by
        rw [List.size_toArray, List.length_take, Array.length_toList, lps]
        rcases Nat.le_total i ps.length with z | z
        · rw [Nat.min_eq_left z]
        · rw [Nat.min_eq_right z, List.take_length, List.take_of_length_le z]
      rw [ei] at hys
      have lj := StrLaws.join_length_le (Str.ofString "") ((ps.take i).map fun p => Str.ofString "/" ++ p)
      rw [show (Str.ofString "").length = 0 by decide, Nat.mul_zero, Nat.add_zero] at lj
      have ljj : (Str.join (Str.ofString "") ((ps.take i).map fun p => Str.ofString "/" ++ p)).length ≤ 500 := by omega
      iterate 1 walk1
      refine join_led (s := ⟨_, _, _, _, _⟩) N11 (.head _) hys (by rw [show (Str.ofString "").length = 0 by decide]; omega) fun t12 tk12 => ?_
      iterate 8 walk1
      rename News _ _ _ _ => N12
      rename Fr g1 _ _ _ => F12
      have mw12 : (wl, lobj wvs' c') ∈ (D9, LCg.lst ys) :: led' := by rw [hled8]; exact .tail _ (.tail _ mw')
      have nwl := noteF_len ho ps ws i
      have sz : wvs'.size ≤ 950 := by rw [← Array.length_toList, sw'.length]; omega
      refine notin_list_strs (vs := wvs'.toList) (by simpa using News.isList N12 mw12) sw' ?_
      iterate 3 walk1
      · rename _ = true => hin
        iterate 2 walk1
        refine hPP _ _ ⟨_, _, _, _, rfl, F12, N12, by rw [hled8]; exact .tail _ (.tail _ mI6), _, _, wvs', c', ov2_set (x := Str.ofString "k") (y := Str.ofString "way") (by decide), fun q hq hn => by rw [hled8]; exact .tail _ (.tail _ (kp q hq hn)), mw12, ?_⟩
        unfold noteF
        rw [if_pos]
        · exact sw'
        · obtain ⟨x, hx, e⟩ := List.any_eq_true.mp hin
          rw [beq_iff_eq] at e
          unfold wayStr; rw [← e]; exact hx
      · rename _ = false => hin
        iterate 9 walk1
        refine led_append (s := ⟨_, _, _, _, _⟩) F12 N12 mw12 (by omega) fun h13 F13 N13 => ?_
        iterate 3 walk1
        have k13 : ∀ q ∈ led₁, q ∈ (D9, LCg.lst ys) :: led' := fun q hq => by rw [hled8]; exact .tail _ (.tail _ hq)
        refine hPP _ _ ⟨_, _, _, _, rfl, F13, N13, keep_setL N12 mw12 (k13 _ mI6) (show Value.type "range_iterator" ≠ Value.type "list" by decide), _, _, _, _, ov2_set (x := Str.ofString "k") (y := Str.ofString "way") (by decide), fun q hq hn => mem_setL (k13 _ (kp q hq hn)) hn, mem_setL_self mw12, ?_⟩
        unfold noteF
        rw [if_neg]
        · exact strsAre_push sw'
        · intro hx
          rw [List.any_eq_false] at hin
          exact hin _ hx (beq_self_eq_true _)
  · rintro h6 tk6 led6 m6 F6 N6 ⟨kv, wv, wvs', c', rfl, kp, mw', sw'⟩
    clear F4 N4 F3 N3 F5 N5
    subst hm0
    iterate 1 walk1
    refine leaveK_ F6 N6 fun F10 N10 => hQ _ _ _ _ F10 N10 ⟨rfl, kp, _, _, mw', ?_⟩
    rw [← lps]
    exact sw'
end

theorem note_vis {P : List (List Str)} {h : Str} {ps : List Str} (hP : ∀ q ∈ P, Shp q) (hh : Host h) (hs : SFs ps) : ∀ k, noteF h ps (P.map toS) k = (vis P h ps k).map toS
  | 0 => rfl
  | k + 1 => by
    have ew : wayStr h ps k = toS (h :: (ps.take k).map sl) := by
      unfold wayStr toS conc
      refine str_ext ?_
      rw [show (mkS _).cps.toList = _ from chs_mkS _, Str.cps_append, Array.toList_append, List.map_cons, List.flatten_cons]
      congr 1
      exact join_empty _
    have sh : Shp (h :: (ps.take k).map sl) := .inr ⟨h, ps.take k, hh, fun p hp => hs p (List.take_subset _ _ hp), rfl⟩
    unfold noteF vis addP
    rw [note_vis hP hh hs k, ew]
    by_cases z : h :: (ps.take k).map sl ∈ vis P h ps k
    · rw [if_pos z, if_pos (List.mem_map.mpr ⟨_, z, rfl⟩)]
    · rw [if_neg z, if_neg]
      · rw [List.map_append]; rfl
      · intro hm
        obtain ⟨r, hr, e⟩ := List.mem_map.mp hm
        exact z (toS_inj (vis_shp hP hh hs r hr) sh e ▸ hr)

/-- a book as the ledger bears it -/
def NdIn (led : Led) (nd : Nd) : Prop := ∃ es n, (nd.a, nodeObj nd.dx es n) ∈ led ∧ EsAre es.toList nd.kv ∧ (nd.a == sysModules) = false
structure TreeIn (w : World) (led : Led) (S : List Nd) (fz : List Str → Bool) (PD : List Addr) : Prop where
  nodes : ∀ nd ∈ S, NdIn led nd
  opens : ∀ nd ∈ S, fz nd.path = false → (nd.dx, emptyDict) ∈ led
  shuts : ∀ nd ∈ S, fz nd.path = true → ∃ of, Frz w led nd.a nd.dx of
  apart : ∀ nd ∈ S, nd.dx ∉ PD
  pd : ∀ a ∈ PD, (a, emptyDict) ∈ led
/-- the objects that a tree is made of, beside its books -/
def TNon (o : Obj) : Prop := o.cls = .type "dict" ∨ (∃ fd, o.data = .func fd) ∨ (∃ x, o.data = .cell x) ∨ ∃ vs t, o.data = .fields vs ∧ vs[1]? = some (.str lamQual t)
def TObj (o : Obj) : Prop := (∃ dx es n, o = nodeObj dx es n) ∨ TNon o
theorem TNon.ne_node {o : Obj} {dx : Addr} {es : Array DictEntry} {n : Nat} (h : TNon o) : o ≠ nodeObj dx es n := by
  intro e
  rcases h with h | ⟨fd, h⟩ | ⟨x, h⟩ | ⟨vs, t, h, _⟩ <;> rw [e] at h <;> cases h
theorem TObj.ne_seq {o : Obj} (h : TObj o) {c : Value} {d : Option Addr} {xs : Array Value} {n : Nat} {sl : Array (Option Value)} (hc : c ≠ .type "dict") : o ≠ { cls := c, dict := d, data := .seq xs n, slots := sl } := by
  intro e
  rcases h with ⟨dx, es, m, h⟩ | h | ⟨fd, h⟩ | ⟨x, h⟩ | ⟨vs, t, h, _⟩
  · rw [e] at h; cases h
  · rw [e] at h; exact hc h
  · rw [e] at h; cases h
  · rw [e] at h; cases h
  · rw [e] at h; cases h
theorem TObj.ne_it {o : Obj} (h : TObj o) {c : Value} {d : Option Addr} {xs : Array Value} {sl : Array (Option Value)} {i : Int} (hc : c ≠ .type "dict") (hx : xs[1]? = some (rawInt i)) : o ≠ { cls := c, dict := d, data := .fields xs, slots := sl } := by
  intro e
  rcases h with ⟨dx, es, m, h⟩ | h | ⟨fd, h⟩ | ⟨x, h⟩ | ⟨vs, t, h, h2⟩
  · rw [e] at h; cases h
  · rw [e] at h; exact hc h
  · rw [e] at h; cases h
  · rw [e] at h; cases h
  · rw [e] at h
    cases h
    rw [hx] at h2
    cases h2
theorem TreeIn.mono2 {w : World} {led led' : Led} {S : List Nd} {fz : List Str → Bool} {PD : List Addr} (kn : ∀ p ∈ led, (∃ nd ∈ S, p.1 = nd.a) → p ∈ led') (k : ∀ p ∈ led, TNon p.2 → p ∈ led') (h : TreeIn w led S fz PD) : TreeIn w led' S fz PD where
  nodes := fun nd hn => by
    obtain ⟨es, n, h1, h2, h3⟩ := h.nodes nd hn
    exact ⟨es, n, kn _ h1 ⟨nd, hn, rfl⟩, h2, h3⟩
  opens := fun nd hn hz => k _ (h.opens nd hn hz) (.inl rfl)
  shuts := fun nd hn hz => by
    obtain ⟨of, hs, tf, fn, cl, c', o, oc, oc', e, h1, h2, h3, h4, g⟩ := h.shuts nd hn hz
    obtain ⟨g1, g2, g3, g4⟩ := id g
    exact ⟨of, hs, tf, fn, cl, c', o, oc, oc', e, k _ h1 (.inl rfl), k _ h2 (.inr (.inl g1)), k _ h3 (.inr (.inr (.inl ⟨_, g2⟩))), k _ h4 (.inr (.inr (.inr g3))), g⟩
  apart := h.apart
  pd := fun a ha => k _ (h.pd a ha) (.inl rfl)
theorem TreeIn.mono {w : World} {led led' : Led} {S : List Nd} {fz : List Str → Bool} {PD : List Addr} (k : ∀ p ∈ led, TObj p.2 → p ∈ led') (h : TreeIn w led S fz PD) : TreeIn w led' S fz PD where
  nodes := fun nd hn => by
    obtain ⟨es, n, h1, h2, h3⟩ := h.nodes nd hn
    exact ⟨es, n, k _ h1 (.inl ⟨_, _, _, rfl⟩), h2, h3⟩
  opens := fun nd hn hz => k _ (h.opens nd hn hz) (.inr (.inl rfl))
  shuts := fun nd hn hz => by
    obtain ⟨of, hs, tf, fn, cl, c', o, oc, oc', e, h1, h2, h3, h4, g⟩ := h.shuts nd hn hz
    obtain ⟨g1, g2, g3, g4⟩ := id g
    exact ⟨of, hs, tf, fn, cl, c', o, oc, oc', e, k _ h1 (.inr (.inl rfl)), k _ h2 (.inr (.inr (.inl g1))), k _ h3 (.inr (.inr (.inr (.inl ⟨_, g2⟩)))), k _ h4 (.inr (.inr (.inr (.inr g3)))), g⟩
  apart := h.apart
  pd := fun a ha => k _ (h.pd a ha) (.inr (.inl rfl))
/-- the tree, and where one stands in it: at a book of it, or (behind the freezing) at a lost one -/
def Cur (w : World) (md : Bool) (mk : Mk) (PD : List Addr) (rt : Addr) (P : List (List Str)) (N : Nat) (led : Led) (q : List Str) (a : Addr) : Prop :=
  ∃ S, S.map (·.path) = P ∧ TreeOk S N ∧ MarksOk S mk ∧ TreeIn w led S (fun _ => md) PD ∧ (∃ r ∈ S, r.path = [] ∧ r.a = rt) ∧
    ((∃ nd ∈ S, nd.path = q ∧ nd.a = a) ∨ (md = true ∧ q ∉ P ∧ ∃ dx, (a, nodeObj dx #[] 0) ∈ led ∧ (dx, emptyDict) ∈ led ∧ (a == sysModules) = false ∧ a ∉ S.map (·.a)))
theorem TreeOk.more {S : List Nd} {N M : Nat} (ok : TreeOk S N) (h : N ≤ M) : TreeOk S M := ⟨ok.root, ok.paths, ok.addrs, ok.dxs, ok.keys, ok.kids, ok.up, ok.marks, fun nd hn => Nat.le_trans (ok.size nd hn) h⟩
theorem Cur.mono {w : World} {md : Bool} {mk : Mk} {PD : List Addr} {rt : Addr} {P : List (List Str)} {N M : Nat} {led led' : Led} {q : List Str} {a : Addr} (k : ∀ p ∈ led, TObj p.2 → p ∈ led') (hM : N ≤ M) (h : Cur w md mk PD rt P N led q a) : Cur w md mk PD rt P M led' q a := by
  obtain ⟨S, h1, h2, h3, h4, hr, h5⟩ := h
  refine ⟨S, h1, h2.more hM, h3, h4.mono k, hr, h5.imp id ?_⟩
  rintro ⟨z, hq, dx, a1, a2, a3⟩
  exact ⟨z, hq, dx, k _ a1 (.inl ⟨_, _, _, rfl⟩), k _ a2 (.inr (.inl rfl)), a3⟩
theorem Cur.home {w : World} {md : Bool} {mk : Mk} {PD : List Addr} {rt : Addr} {P : List (List Str)} {N : Nat} {led : Led} {q : List Str} {a : Addr} (h : Cur w md mk PD rt P N led q a) : Cur w md mk PD rt P N led [] rt := by
  obtain ⟨S, h1, h2, h3, h4, hr, _⟩ := h
  exact ⟨S, h1, h2, h3, h4, hr, .inl hr⟩
theorem mod_keep {S : List Nd} {q : List Str} {f : KV → KV} {c : Nd} (hc : c ∈ S) : ∃ c' ∈ modNd S q f, c'.path = c.path ∧ c'.a = c.a ∧ c'.dx = c.dx := by
  by_cases z : c.path = q
  · exact ⟨_, mem_mod.mpr (.inr ⟨c, hc, z, rfl⟩), rfl, rfl, rfl⟩
  · exact ⟨c, mem_mod.mpr (.inl ⟨hc, z⟩), rfl, rfl, rfl⟩
theorem addKid_keep {S : List Nd} {q : List Str} {k : Str} {x dx : Addr} {c : Nd} (hc : c ∈ S) : ∃ c' ∈ addKid S q k x dx, c'.path = c.path ∧ c'.a = c.a ∧ c'.dx = c.dx := by
  obtain ⟨c', h, e⟩ := mod_keep (f := fun kv => kv ++ [(k, .kid x)]) (q := q) hc
  exact ⟨c', List.mem_append_left _ h, e⟩
theorem es_all {es : Array DictEntry} {kv : KV} (h : EsAre es.toList kv) : (es.all fun e => isExactStrKey e.key) = true := by rw [← Array.all_toList]; exact h.all
theorem es_find {es : Array DictEntry} {kv : KV} {k : Str} (h : EsAre es.toList kv) : (es.find? (fun e => e.key.isStr k) = none ∧ kv.lookup k = none) ∨ ∃ e ent, es.find? (fun e => e.key.isStr k) = some e ∧ kv.lookup k = some ent ∧ EntIs ent e.val := by
  rw [← Array.find?_toList]; exact h.find
theorem es_size {es : Array DictEntry} {kv : KV} (h : EsAre es.toList kv) : es.size = kv.length := by rw [← Array.length_toList]; exact h.len
theorem node_one {g h : Heap} {L : Addr} {led : Led} (N : News g L h led) {a dx dx' : Addr} {es es' : Array DictEntry} {n n' : Nat} (h1 : (a, nodeObj dx es n) ∈ led) (h2 : (a, nodeObj dx' es' n') ∈ led) : dx = dx' := by
  have := congrArg Obj.dict (led_one N h1 h2)
  exact Option.some.inj this

/-- no book -/
def NN (o : Obj) : Prop := ∀ dx es n, o ≠ nodeObj dx es n
theorem nn {o : Obj} (h : o.cls ≠ .ref 158) : NN o := fun dx es n e => h (by rw [e])

section
variable {w : World} {A : Around} {E : Value → Shared → Prop} {h₀ : Heap} {L : Addr} {m : Str → Option Value} {led : Led} {s : Shared} {mk : Mk} {PD : List Addr} {rt : Addr} {P : List (List Str)} {N : Nat} {q : List Str} {a : Addr} {k : Str} {t : Tok}
theorem child_of {S : List Nd} {N : Nat} (ok : TreeOk S N) {nd : Nd} (hnd : nd ∈ S) {k : Str} {ent : Ent} (kk : k ≠ kWhole ∧ k ≠ kBelow) (hl : nd.kv.lookup k = some ent) : ∃ c ∈ S, ent = .kid c.a ∧ c.path = nd.path ++ [k] := by
  have hm := lookup_mem hl
  cases ent with
  | mark n => exact ((ok.marks nd hnd k n hm).elim kk.1 kk.2).elim
  | kid x =>
    obtain ⟨⟨c, h1, h2, h3⟩, _⟩ := ok.kids nd hnd k x hm
    exact ⟨c, h1, by rw [h2], h3⟩
theorem no_child {S : List Nd} {N : Nat} (ok : TreeOk S N) {nd : Nd} (hnd : nd ∈ S) {k : Str} (hl : nd.kv.lookup k = none) : nd.path ++ [k] ∉ S.map (·.path) := by
  intro hm
  obtain ⟨c, hc, e⟩ := List.mem_map.mp hm
  obtain ⟨p, hp, k', e2, hk⟩ := ok.up c hc (by intro z; rw [z] at e; cases hh : nd.path <;> rw [hh] at e <;> cases e)
  have e' : c.path = nd.path ++ [k] := e
  rw [e'] at e2
  obtain ⟨e4, e5⟩ := List.append_inj' e2 rfl
  obtain rfl : k = k' := (List.cons.inj e5).1
  have e6 : p = nd := ok.same hp hnd e4.symm
  subst e6
  rw [lookup_of_mem (ok.keys p hp) hk] at hl
  cases hl
theorem TreeIn.addKid {S : List Nd} {N : Nat} {L : Addr} {h₀ h : Heap} {led : Led} (ok : TreeOk S N) (NW : News h₀ L h led) (T : TreeIn w led S (fun _ => false) PD) {nd : Nd} (hnd : nd ∈ S) {es : Array DictEntry} {n : Nat} (ha : (nd.a, nodeObj nd.dx es n) ∈ led) (he : EsAre es.toList nd.kv)
    {x dx' : Addr} {hs : Int} (fr : ∀ p ∈ led, p.1 ≠ x ∧ p.1 ≠ dx') (ne : dx' ≠ x) (nmx : (x == sysModules) = false) :
    TreeIn w ((x, nodeObj dx' #[] 0) :: (dx', emptyDict) :: setL led nd.a (nodeObj nd.dx (es.push ⟨hs, .str k t, .ref x⟩) (n + 1))) (addKid S nd.path k x dx') (fun _ => false) PD := by
  have kp : ∀ p ∈ led, p.1 ≠ nd.a → p ∈ (x, nodeObj dx' #[] 0) :: (dx', emptyDict) :: setL led nd.a (nodeObj nd.dx (es.push ⟨hs, .str k t, .ref x⟩) (n + 1)) := fun p hp hn => .tail _ (.tail _ (mem_setL hp hn))
  have kd : ∀ b, (b, emptyDict) ∈ led → (b, emptyDict) ∈ (x, nodeObj dx' #[] 0) :: (dx', emptyDict) :: setL led nd.a (nodeObj nd.dx (es.push ⟨hs, .str k t, .ref x⟩) (n + 1)) := fun b hb => kp _ hb (cls_ne NW hb ha (show Value.type "dict" ≠ Value.ref 158 by decide))
  have memA : ∀ {c : Nd}, c ∈ Mine.addKid S nd.path k x dx' ↔ ((c ∈ S ∧ c.path ≠ nd.path) ∨ ∃ c0 ∈ S, c0.path = nd.path ∧ c = { c0 with kv := c0.kv ++ [(k, .kid x)] }) ∨ c = ⟨nd.path ++ [k], x, dx', []⟩ := by
    intro c; unfold Mine.addKid; rw [List.mem_append, mem_mod, List.mem_singleton]
  refine ⟨?_, ?_, ?_, ?_, fun b hb => kd b (T.pd b hb)⟩
  · intro c hc
    rcases memA.mp hc with (⟨h1, z⟩ | ⟨c0, h1, z, rfl⟩) | rfl
    · obtain ⟨es2, n2, b1, b2, b3⟩ := T.nodes c h1
      refine ⟨es2, n2, kp _ b1 fun e => ?_, b2, b3⟩
      have : c = nd := by
        obtain ⟨i, hi, ei⟩ := List.getElem_of_mem h1
        obtain ⟨j, hj, ej⟩ := List.getElem_of_mem hnd
        have hij : i = j := by
          have := ok.addrs
          rw [List.nodup_iff_pairwise_ne, List.pairwise_map, List.pairwise_iff_getElem] at this
          rcases Nat.lt_trichotomy i j with y | y | y
          · exact absurd (by rw [ei, ej]; exact e) (this i j hi hj y)
          · exact y
          · exact absurd (by rw [ei, ej]; exact e.symm) (this j i hj hi y)
        subst hij
        exact ei.symm.trans ej
      exact z (by rw [this])
    · obtain rfl : c0 = nd := ok.same h1 hnd z
      obtain ⟨es2, n2, b1, b2, b3⟩ := T.nodes c0 h1
      refine ⟨_, _, .tail _ (.tail _ (mem_setL_self ha)), ?_, b3⟩
      rw [Array.toList_push]
      exact he.push (show EntIs (.kid x) (.ref x) from rfl)
    · exact ⟨_, _, .head _, trivial, nmx⟩
  · intro c hc _
    rcases memA.mp hc with (⟨h1, z⟩ | ⟨c0, h1, z, rfl⟩) | rfl
    · exact kd _ (T.opens c h1 rfl)
    · exact kd _ (T.opens c0 h1 rfl)
    · exact .tail _ (.head _)
  · intro c hc z; cases z
  · intro c hc
    rcases memA.mp hc with (⟨h1, z⟩ | ⟨c0, h1, z, rfl⟩) | rfl
    · exact T.apart c h1
    · exact T.apart c0 h1
    · intro hm; exact (fr _ (T.pd _ hm)).2 rfl
theorem snoc_not {S : List Nd} {N : Nat} (ok : TreeOk S N) (h : q ∉ S.map (·.path)) : q ++ [k] ∉ S.map (·.path) := fun hm => by
  obtain ⟨c, hc, e⟩ := List.mem_map.mp hm
  exact h (ok.closed _ c hc rfl _ ⟨[k], e.symm⟩)
theorem cur_sub {md : Bool} {Q : Value → Shared → Prop} (cx : Cx w A h₀ L 10) (F : Fr h₀ L s.heap m) (NW : News h₀ L s.heap led) (C : Cur w md mk PD rt P N led q a) (kk : k ≠ kWhole ∧ k ≠ kBelow) (hN : N ≤ 900)
    (hq : ∀ a' led' h' tk', Fr h₀ L h' m → News h₀ L h' led' → Cur w md mk PD rt (if md then P else addP P (q ++ [k])) (N + 1) led' (q ++ [k]) a' → (∀ p ∈ led, NN p.2 → p ∈ led') → Q (.ref a') { s with heap := h', toks := tk' }) :
    wpAny (model PG w) A (getItem (.ref a) (.str k t)) Q E s := by
  obtain ⟨S, rfl, ok, M, T, hrt, ⟨nd, hnd, rfl, rfl⟩ | ⟨rfl, hqP, dx, ha, hdx, nm, hna⟩⟩ := C
  · obtain ⟨es, n, ha, he, nm⟩ := T.nodes nd hnd
    have hsz : es.size ≤ 1000 := by rw [es_size he]; have := ok.size nd hnd; omega
    have hit : ∀ e h' tk', es.find? (fun e => e.key.isStr k) = some e → Fr h₀ L h' m → News h₀ L h' led → Q e.val { s with heap := h', toks := tk' } := fun e h' tk' hf F' N' => by
      rcases es_find (k := k) he with ⟨h1, _⟩ | ⟨e', ent, h1, h2, h3⟩
      · rw [h1] at hf; cases hf
      · rw [h1] at hf
        obtain rfl := Option.some.inj hf
        obtain ⟨c, hc, rfl, hcp⟩ := child_of ok hnd kk h2
        have hv : e'.val = .ref c.a := h3
        rw [hv]
        have hm : nd.path ++ [k] ∈ S.map (·.path) := List.mem_map.mpr ⟨c, hc, hcp⟩
        refine hq _ _ _ _ F' N' ⟨S, ?_, ok.more (by omega), M, T, hrt, .inl ⟨c, hc, hcp, rfl⟩⟩ fun p hp _ => hp
        unfold addP
        rw [if_pos hm]
        cases md <;> rfl
    cases md with
    | false =>
      refine node_sub cx F NW ha (T.opens nd hnd rfl) (es_all he) hsz nm hit fun hno x dx' hs h' tk' F' N' fr ne nmx => ?_
      have hl : nd.kv.lookup k = none := by
        rcases es_find (k := k) he with ⟨_, h2⟩ | ⟨e', ent, h1, _, _⟩
        · exact h2
        · rw [h1] at hno; cases hno
      have hk := no_child ok hnd hl
      have hx : x ∉ S.map (·.a) := fun hm => by
        obtain ⟨c, hc, e⟩ := List.mem_map.mp hm
        obtain ⟨es2, n2, b1, _⟩ := T.nodes c hc
        exact (fr _ b1).1 e
      have hd : dx' ∉ S.map (·.dx) := fun hm => by
        obtain ⟨c, hc, e⟩ := List.mem_map.mp hm
        exact (fr _ (T.opens c hc rfl)).2 e
      refine hq _ _ _ _ F' N' ⟨addKid S nd.path k x dx', ?_, ok.addKid (List.mem_map.mpr ⟨nd, hnd, rfl⟩) hk kk hx hd, M.addKid ok hk kk, T.addKid ok NW hnd ha he fr ne nmx, (by obtain ⟨r, h1, h2, h3⟩ := hrt; obtain ⟨r', e1, e2, e3, _⟩ := addKid_keep h1; exact ⟨r', e1, e2.trans h2, e3.trans h3⟩), .inl ⟨_, List.mem_append_right _ (.head _), rfl, rfl⟩⟩ fun p hp hc => .tail _ (.tail _ (mem_setL hp (led_ne NW hp ha (hc _ _ _))))
      rw [addKid_path]
      unfold addP
      rw [if_neg hk]; rfl
    | true =>
      obtain ⟨of, fz⟩ := T.shuts nd hnd rfl
      refine node_subF cx F NW ha fz (es_all he) nm hit fun hno v led' h' tk' F' N' nt => ?_
      obtain ⟨x, dx', rfl, b1, b2, b3, b4, b5, b6⟩ := nt
      have hl : nd.kv.lookup k = none := by
        rcases es_find (k := k) he with ⟨_, h2⟩ | ⟨e', ent, h1, _, _⟩
        · exact h2
        · rw [h1] at hno; cases hno
      refine hq _ _ _ _ F' N' ⟨S, rfl, ok.more (by omega), M, T.mono fun p hp _ => b3 p hp, hrt, .inr ⟨rfl, no_child ok hnd hl, dx', b1, b2, b6, fun hm => ?_⟩⟩ fun p hp _ => b3 p hp
      obtain ⟨c, hc, e⟩ := List.mem_map.mp hm
      obtain ⟨es2, n2, c1, _⟩ := T.nodes c hc
      exact (b4 _ c1).1 e
  · refine node_sub cx F NW ha hdx (by simp) (by simp) nm (fun e h' tk' hf _ _ => by simp at hf) fun _ x dx' hs h' tk' F' N' fr ne nmx => ?_
    refine hq _ _ _ _ F' N' ⟨S, rfl, ok.more (by omega), M, T.mono2 (fun p hp ht => .tail _ (.tail _ (mem_setL hp ?_))) fun p hp ht => .tail _ (.tail _ (mem_setL hp (led_ne NW hp ha ht.ne_node))), hrt, .inr ⟨rfl, snoc_not ok hqP, dx', .head _, .tail _ (.head _), nmx, fun hm => ?_⟩⟩ fun p hp hc => .tail _ (.tail _ (mem_setL hp (led_ne NW hp ha (hc _ _ _))))
    · obtain ⟨c, hc, e⟩ := ht
      intro z
      exact hna (List.mem_map.mpr ⟨c, hc, e.symm.trans z⟩)
    · obtain ⟨c, hc, e⟩ := List.mem_map.mp hm
      obtain ⟨es2, n2, c1, _⟩ := T.nodes c hc
      exact (fr _ c1).1 e
end

theorem fidx (es : Array DictEntry) (p : DictEntry → Bool) : es.toList.findIdx? p = es.findIdx? p := by rw [← List.findIdx?_toArray]
section
variable {w : World} {A : Around} {E : Value → Shared → Prop} {h₀ : Heap} {L : Addr} {m : Str → Option Value} {led : Led} {s : Shared} {mk : Mk} {PD : List Addr} {rt : Addr} {P : List (List Str)} {N : Nat} {q : List Str} {a : Addr} {k : Str} {t : Tok}
theorem Cur.node {md : Bool} (C : Cur w md mk PD rt P N led q a) : ∃ dx es n kv, (a, nodeObj dx es n) ∈ led ∧ EsAre es.toList kv ∧ (a == sysModules) = false ∧ kv.length ≤ N ∧
    (∀ h ps key, SFs ps → (key = kWhole ∨ key = kBelow) → q = h :: ps.map sl → kv.lookup key = (mk h ps key).map .mark) := by
  obtain ⟨S, rfl, ok, M, T, hrt, ⟨nd, hnd, rfl, rfl⟩ | ⟨rfl, hqP, dx, ha, hdx, nm, hna⟩⟩ := C
  · obtain ⟨es, n, ha, he, nm⟩ := T.nodes nd hnd
    exact ⟨_, es, n, nd.kv, ha, he, nm, ok.size nd hnd, fun h ps key hs hk e => (M h ps key hs hk).1 nd hnd e⟩
  · refine ⟨dx, #[], 0, [], ha, trivial, nm, Nat.zero_le _, fun h ps key hs hk e => ?_⟩
    rw [(M h ps key hs hk).2 (by rw [← e]; exact hqP)]; rfl
theorem cur_tail {md : Bool} {value slice : Expr} {ops : List Value} {Q : Value → Shared → Prop} (cx : Cx w A h₀ L 10) (F : Fr h₀ L s.heap m) (NW : News h₀ L s.heap led) (C : Cur w md mk PD rt P N led q a) (kk : k ≠ kWhole ∧ k ≠ kBelow) (hN : N ≤ 900)
    (hq : ∀ a' led' h' tk', Fr h₀ L h' m → News h₀ L h' led' → Cur w md mk PD rt (if md then P else addP P (q ++ [k])) (N + 1) led' (q ++ [k]) a' → (∀ p ∈ led, NN p.2 → p ∈ led') → Q (.ref a') { s with heap := h', toks := tk' })
    (hs : subscripted slice false (.ref a) (.str k t) = operate ops (getItem (.ref a) (.str k t)) := by with_unfolding_all rfl) :
    wpAny (model PG w) A (subscriptTail value slice (.ref a) (.str k t)) Q E s := by
  obtain ⟨dx, es, n, kv, ha, _⟩ := C.node
  have := cur_sub cx F NW C kk hN hq (t := t) (E := E)
  obtain ⟨h', g', d', tk', os'⟩ := s
  exact tail_gen (sp_getitem (cx_X cx) F.keep (NW _ ha).1) this hs
theorem cur_in {md : Bool} {d' : Nat} {h : Str} {ps : List Str} {Q : Bool → Shared → Prop} (cx : Cx w A h₀ L d') (F : Fr h₀ L s.heap m) (NW : News h₀ L s.heap led) (C : Cur w md mk PD rt P N led (h :: ps.map sl) a) (hs : SFs ps) (hk : k = kWhole ∨ k = kBelow)
    (hq : ∀ tk', Q (mk h ps k).isSome { s with toks := tk' }) : wpAny (model PG w) A (contains (.ref a) (.str k t)) Q E s := by
  obtain ⟨dx, es, n, kv, ha, he, nm, _, ml⟩ := C.node
  have e := ml h ps k hs hk rfl
  refine node_in cx F NW ha (es_all he) nm fun tk' => ?_
  have e2 : (es.find? (fun e => e.key.isStr k)).isSome = (mk h ps k).isSome := by
    rcases es_find (k := k) he with ⟨h1, h2⟩ | ⟨e', ent, h1, h2, _⟩
    · rw [h1]
      rw [h2] at e
      cases hm : mk h ps k with
      | none => rfl
      | some x => rw [hm] at e; cases e
    · rw [h1]
      rw [h2] at e
      cases hm : mk h ps k with
      | none => rw [hm] at e; cases e
      | some x => rfl
  rw [e2]
  exact hq tk'
theorem cur_get {md : Bool} {value slice : Expr} {ops : List Value} {h : Str} {ps : List Str} {n : Nat} {Q : Value → Shared → Prop} (X : (Mine.hd.heap_1 w.params).In h₀) (F : Fr h₀ L s.heap m) (NW : News h₀ L s.heap led) (C : Cur w md mk PD rt P N led (h :: ps.map sl) a) (hs : SFs ps) (hk : k = kWhole ∨ k = kBelow) (hm : mk h ps k = some n)
    (hq : ∀ t' tk', Q (.int (n : Nat) t') { s with toks := tk' })
    (hsub : subscripted slice false (.ref a) (.str k t) = operate ops (getItem (.ref a) (.str k t)) := by with_unfolding_all rfl) :
    wpAny (model PG w) A (subscriptTail value slice (.ref a) (.str k t)) Q E s := by
  obtain ⟨dx, es, n', kv, ha, he, nm, _, ml⟩ := C.node
  have e := ml h ps k hs hk rfl
  rw [hm] at e
  obtain ⟨h', g', d', tk', os'⟩ := s
  refine tail_gen (sp_getitem X F.keep (NW _ ha).1) (node_get X F.keep nm (NW _ ha).1 (es_all he) (fun v hv => ?_) fun hno => ?_) hsub
  · rcases es_find (k := k) he with ⟨_, h2⟩ | ⟨e', ent, h1, h2, h3⟩
    · rw [h2] at e; cases e
    · rw [h2] at e
      obtain rfl := Option.some.inj e
      rw [h1] at hv
      obtain rfl := Option.some.inj hv
      obtain ⟨t', ht⟩ := h3
      show Q e'.val _
      rw [ht]
      exact hq t' _
  · rcases es_find (k := k) he with ⟨_, h2⟩ | ⟨e', ent, h1, _, _⟩
    · rw [h2] at e; cases e
    · rw [h1] at hno; cases hno
theorem cur_set {h : Str} {ps : List Str} {n : Nat} {tn : Tok} {Q : Unit → Shared → Prop} (cx : Cx w A h₀ L 10) (F : Fr h₀ L s.heap m) (NW : News h₀ L s.heap led) (C : Cur w false mk PD rt P N led (h :: ps.map sl) a) (hk : k = kWhole ∨ k = kBelow) (hN : N ≤ 900)
    (hq : ∀ led' h' tk', Fr h₀ L h' m → News h₀ L h' led' → Cur w false (fun h' ps' key' => if h' = h ∧ ps' = ps ∧ key' = k then some n else mk h' ps' key') PD rt P (N + 1) led' (h :: ps.map sl) a → (∀ p ∈ led, NN p.2 → p ∈ led') → Q () { s with heap := h', toks := tk' }) :
    wpAny (model PG w) A (setItem (.ref a) (.str k t) (.int (n : Nat) tn)) Q E s := by
  obtain ⟨S, rfl, ok, M, T, hrt, ⟨nd, hnd, hp, rfl⟩ | ⟨z, _⟩⟩ := C
  rotate_left
  · cases z
  obtain ⟨es, n', ha, he, nm⟩ := T.nodes nd hnd
  have hsz : es.size ≤ 1000 := by rw [es_size he]; have := ok.size nd hnd; omega
  have hv : EntIs (.mark n) (.int (n : Nat) tn) := ⟨tn, rfl⟩
  have hm : h :: ps.map sl ∈ S.map (·.path) := List.mem_map.mpr ⟨nd, hnd, hp⟩
  have same : ∀ c ∈ S, c.a = nd.a → c = nd := fun c hc e => by
    obtain ⟨i, hi, ei⟩ := List.getElem_of_mem hc
    obtain ⟨j, hj, ej⟩ := List.getElem_of_mem hnd
    have hij : i = j := by
      have := ok.addrs
      rw [List.nodup_iff_pairwise_ne, List.pairwise_map, List.pairwise_iff_getElem] at this
      rcases Nat.lt_trichotomy i j with y | y | y
      · exact absurd (by rw [ei, ej]; exact e) (this i j hi hj y)
      · exact y
      · exact absurd (by rw [ei, ej]; exact e.symm) (this j i hj hi y)
    subst hij
    exact ei.symm.trans ej
  have fin : ∀ (es' : Array DictEntry) (n2 : Nat) (h' : Heap) (tk' : Nat), EsAre es'.toList (updKV k (.mark n) nd.kv) → Fr h₀ L h' m → News h₀ L h' (setL led nd.a (nodeObj nd.dx es' n2)) → Q () { s with heap := h', toks := tk' } := fun es' n2 h' tk' he' F' N' => by
    have kd : ∀ b, (b, emptyDict) ∈ led → (b, emptyDict) ∈ setL led nd.a (nodeObj nd.dx es' n2) := fun b hb => mem_setL hb (cls_ne NW hb ha (show Value.type "dict" ≠ Value.ref 158 by decide))
    refine hq _ _ _ F' N' ⟨modNd S (h :: ps.map sl) (updKV k (.mark n)), mod_path, ok.setMark hk, M.setMark hm, ⟨?_, ?_, ?_, ?_, fun b hb => kd b (T.pd b hb)⟩, (by obtain ⟨r, h1, h2, h3⟩ := hrt; obtain ⟨r', e1, e2, e3, _⟩ := mod_keep h1; exact ⟨r', e1, e2.trans h2, e3.trans h3⟩), .inl ⟨_, mem_mod.mpr (.inr ⟨nd, hnd, hp, rfl⟩), hp, rfl⟩⟩ fun p hp' hc => mem_setL hp' (led_ne NW hp' ha (hc _ _ _))
    · intro c hc
      rcases mem_mod.mp hc with ⟨h1, z⟩ | ⟨c0, h1, z, rfl⟩
      · obtain ⟨es2, n3, b1, b2, b3⟩ := T.nodes c h1
        exact ⟨es2, n3, mem_setL b1 fun e => z (by rw [same c h1 e]; exact hp), b2, b3⟩
      · obtain rfl : c0 = nd := ok.same h1 hnd (z.trans hp.symm)
        exact ⟨_, _, mem_setL_self ha, he', nm⟩
    · intro c hc _
      rcases mem_mod.mp hc with ⟨h1, z⟩ | ⟨c0, h1, z, rfl⟩
      · exact kd _ (T.opens c h1 rfl)
      · exact kd _ (T.opens c0 h1 rfl)
    · intro c hc z; cases z
    · intro c hc
      rcases mem_mod.mp hc with ⟨h1, z⟩ | ⟨c0, h1, z, rfl⟩
      · exact T.apart c h1
      · exact T.apart c0 h1
  refine node_set cx F NW ha (es_all he) hsz (fun i h' tk' hi F' N' => ?_) fun hno hs h' tk' F' N' => ?_
  · refine fin _ _ _ _ ?_ F' N'
    rcases EsAre.upd (k := k) (t := t) (hs := 0) hv he with ⟨h1, _⟩ | ⟨i', h1, h2⟩
    · rw [fidx] at h1; rw [hi] at h1; cases h1
    · rw [fidx] at h1
      rw [hi] at h1
      obtain rfl := Option.some.inj h1
      rw [Array.toList_modify]
      exact h2
  · refine fin _ _ _ _ ?_ F' N'
    rcases EsAre.upd (k := k) (t := t) (hs := hs) hv he with ⟨_, h2⟩ | ⟨i', h1, _⟩
    · rw [Array.toList_push]; exact h2
    · rw [fidx] at h1; rw [hno] at h1; cases h1
end

theorem slash_eq (y : Str) : (Txt.slice y (some (-1)) none == Str.ofString "/") = endS (chs y) := by
  have h := slash_ne y
  rw [bne] at h
  exact Bool.not_inj h
theorem TObj.notIt {o : Obj} {c : Value} (h : TObj o) (h1 : c ≠ .type "dict") (h2 : c ≠ .ref 158) : o.cls ≠ c ∨ NotIt o := by
  rcases h with ⟨dx, es, m, h⟩ | h | ⟨fd, h⟩ | ⟨x, h⟩ | ⟨vs, t, h, h3⟩
  · rw [h]; exact .inl (Ne.symm h2)
  · rw [h]; exact .inl (Ne.symm h1)
  · refine .inr fun xs e => ?_; rw [h] at e; cases e
  · refine .inr fun xs e => ?_; rw [h] at e; cases e
  · refine .inr fun xs e i => ?_
    rw [h] at e
    cases e
    rw [h3]
    intro z; cases z
theorem host_key {h : Str} (x : Host h) : h ≠ kWhole ∧ h ≠ kBelow := by
  rcases x with rfl | rfl <;> decide
theorem sl_key (p : Str) : sl p ≠ kWhole ∧ sl p ≠ kBelow := by
  constructor
  · intro e
    have h : (chs (sl p)).head? = (chs kWhole).head? := by rw [e]
    rw [chs_sl, List.head?_cons] at h
    exact absurd h (by decide)
  · intro e
    have h : (chs (sl p)).head? = (chs kBelow).head? := by rw [e]
    rw [chs_sl, List.head?_cons] at h
    exact absurd h (by decide)
theorem spl_len : ∀ s : List Nat, (spl s).length ≤ s.length + 1
  | [] => Nat.le_refl _
  | c :: cs => by
    have ih := spl_len cs
    rw [spl_cons]
    split
    · simpa using ih
    · split
      · simp
      · rename_i e
        rw [e] at ih
        simp at ih ⊢
        omega
theorem pieces_len (s : List Nat) : (piecesOf s).length ≤ s.length + 1 := by unfold piecesOf; rw [List.length_map]; exact spl_len s
section
theorem mark_call {w : World} {rt wl : Addr} {rv : Value} {wvs : Array Value} {c : Nat} {mk : Mk} {PD : List Addr} {P : List (List Str)} {N0 n : Nat} {tn : Tok} {led : Led} {XX : Addr → Prop} {r : Str × Str}
    (C0 : Cur w false mk PD rt P N0 led [] rt) (mw : (wl, lobj wvs c) ∈ led) (sw : StrsAre wvs.toList (P.map toS)) (hr : PairIs XX led rv r) (gr : GoodRule r) (hN : N0 ≤ 880) (hP : ∀ q ∈ P, Shp q) (lP : P.length ≤ 700) :
    DoesC PG w 40 (.ref 296) [.ref rt, .ref wl, rv, .int n tn] led (fun v led' => v = .none ∧ (∀ p ∈ led, NN p.2 → p.1 ≠ wl → p ∈ led') ∧
      Cur w false (fun h ps key => if h = r.1 ∧ ps = piecesOf (baseOf r.2) ∧ key = keyOf r.2 then some n else mk h ps key) PD rt (vis P r.1 (piecesOf (baseOf r.2)) ((piecesOf (baseOf r.2)).length + 1)) (N0 + 20) led' [] rt ∧
      ∃ wvs' c', (wl, lobj wvs' c') ∈ led' ∧ StrsAre wvs'.toList ((vis P r.1 (piecesOf (baseOf r.2)) ((piecesOf (baseOf r.2)).length + 1)).map toS)) := by
  obtain ⟨x, y⟩ := r
  obtain ⟨gh, gp, gl⟩ := gr
  obtain ⟨Pa, Da, ta, ua, rfl, mP, mD, nD⟩ := hr
  dsimp only at gh gp gl mP
  have lx : x.length ≤ 1 := host_len gh
  dsimp only
  obtain ⟨ps, hps⟩ : ∃ ps, ps = piecesOf (baseOf y) := ⟨_, rfl⟩
  have sf : SFs ps := by rw [hps]; exact pieces_SF _
  simp only [← hps]
  intro A h₀ L m s Q E cx F N hQ; obtain ⟨A₀, base, outer, env, p, loose, mean, mg, mb, B, hA, hf, hk, X, T, hh, hd, hu, hC⟩ := cx
  walk_at "enter"; intro g1 L1 h1 FG F1 N1 B1 X1 T1; (try dsimp only)
  have cx1 : ∀ e : Env, e.frame = some L1 → e.scope.kind = .function → Cx w (A.deeper e) g1 L1 39 := fun e i1 i2 => cx_deeper (e := e) B1 i1 i2 X1 T1 hh (by omega) (by omega) hC FG.keep (d := 39)
  change Fr g1 L1 h1 (fun y => List.lookup y [(Str.ofString "number", Value.int n tn), (Str.ofString "rule", Value.ref Pa), (Str.ofString "ways", Value.ref wl), (Str.ofString "tree", Value.ref rt)]) at F1
  refine regen (hp := h1) (g := s.gens) (d := s.drawn) (os := s.os) fun tk1 => ?_
  iterate 22 walk1
  rename News _ _ _ _ => N2
  rename Fr g1 _ _ _ => F2
  obtain ⟨m2, hm2, F2⟩ := name_map F2
  refine wpAny_mono (Q := fun v s' => ∃ z t h' tk', v = .str z t ∧ chs z = baseOf y ∧ z.length ≤ 12 ∧ s' = ⟨h', s.gens, s.drawn, tk', s.os⟩ ∧ Fr g1 L1 h' m2 ∧ News g1 L1 h' led) (E := _) ?_ ?_ (fun _ _ z => z)
  · subst hm2
    iterate 5 walk1
    · rename _ = true => hb
      iterate 13 walk1
      rw [slash_eq] at hb
      have lz := Txt.slice_le y none (some (-1))
      exact ⟨_, _, _, _, rfl, by unfold baseOf; rw [if_pos hb]; exact slice_init y, Nat.le_trans lz gl, rfl, by assumption, by assumption⟩
    · rename _ = false => hb
      iterate 3 walk1
      rw [slash_eq] at hb
      exact ⟨_, _, _, _, rfl, by unfold baseOf; rw [hb]; rfl, gl, rfl, by assumption, by assumption⟩
  rintro v s' ⟨z, tz, h7, tk7, rfl, ez, lz, rfl, F7, N7⟩
  subst hm2
  rw [slash_eq] at F7
  have fr7 : ∀ p ∈ led, p.1 < h7.objs.size := fun p hp => Heap.lt_size (N7 p hp).1
  iterate 15 walk1
  rename News _ _ _ _ => N9
  rename Fr g1 _ _ _ => F9
  rename List (Str × Tok) => lst
  rename List.map (fun x => x.fst) lst = Txt.split z (Str.ofString "/") => e9
  rename StrsAre (strValues lst) _ => sp
  rename ∀ a ∈ List.map (fun x => x.fst) lst, a.length ≤ z.length => lpz
  have e10 : Txt.split z (Str.ofString "/") = piecesOf (baseOf y) := by rw [split_pieces, ez]
  rw [e9, e10] at sp
  rw [e9, e10] at lpz
  obtain ⟨pl, hpl⟩ : ∃ pl, pl = h7.objs.size := ⟨_, rfl⟩
  dsimp only at N9 F9
  rw [← hpl] at fr7 N9 F9

  rw [← hps] at sp lpz
  refine cur_tail (s := ⟨_, _, _, _, _⟩) ((cx1 _ rfl rfl).less (by omega)) F9 N9 (C0.mono (fun p hp _ => .tail _ hp) (Nat.le_refl _)) (host_key gh) (by omega) fun a1 led1 h10 tk10 F10 N10 C1 k1 => ?_
  have mpl : (pl, lobj (strValues lst).toArray 0) ∈ led1 := k1 _ (.head _) (nn (show Value.type "list" ≠ Value.ref 158 by decide))
  have C1 : Cur w false mk PD rt (vis P x ps 1) (N0 + 1) led1 [x] a1 := C1
  iterate 2 walk1
  rename News _ _ _ _ => N11
  rename Fr g1 _ _ _ => F11
  refine wpAny_For (nameX_L F11 (by rfl) ?_)
  refine iter_list (s := ⟨_, _, _, _, _⟩) F11 N11 mpl fun It h12 F12 N12 l12 => ?_
  obtain ⟨m0, hm0, F12⟩ := name_map F12
  have lpz2 : ∀ a ∈ ps, a.length ≤ 20 := fun a ha => Nat.le_trans (lpz a ha) (Nat.le_trans lz (by decide))
  have lps : lst.length = ps.length := by have := sp.length; simpa [strValues] using this
  have nps : ps.length ≤ 13 := by
    have h1 := pieces_len (baseOf y)
    rw [← hps] at h1
    have h2 : (baseOf y).length ≤ 12 := by rw [← ez]; exact lz
    omega
  refine loop_list (items := (strValues lst).toArray) (n := 0) hh (fun i led₁ m₁ => ∃ pv a, m₁ = ov2 m0 (Str.ofString "piece") pv (Str.ofString "node") (some (.ref a)) ∧ (∀ q ∈ led1, NN q.2 → q ∈ led₁) ∧ Cur w false mk PD rt (vis P x ps (i + 1)) (N0 + 1 + i) led₁ (x :: (ps.take i).map sl) a) led1 (fun q hq => Nat.ne_of_lt (l12 q hq)) ?_ ?_ F12 N12 (.head _) ?_ ?_ ?_
  · rintro i led₁ led₂ m₁ fr ⟨pv, a, rfl, kp, CC⟩
    exact ⟨pv, a, rfl, fun q hq hc => fr _ (kp q hq hc) (.inl hq), CC.mono (fun p hp ht => fr _ hp (.inr (ht.notIt (by decide) (by decide)))) (Nat.le_refl _)⟩
  · rintro i led₁ m₁ ⟨pv, a, rfl, kp, CC⟩
    exact kp _ mpl (nn (show Value.type "list" ≠ Value.ref 158 by decide))
  · refine ⟨none, a1, ?_, fun q hq _ => .tail _ hq, C1.mono (fun p hp _ => .tail _ hp) (Nat.le_refl _)⟩
    rw [hm0]
    funext v
    unfold ov2
    by_cases e1 : v = Str.ofString "piece"
    · subst e1; rfl
    · by_cases e2 : v = Str.ofString "node"
      · subst e2; rfl
      · simp only [e1, e2, if_false]
  · rintro i v led₁ m₁ h13 tk13 hv ⟨pv, a, rfl, kp, CC⟩ F13 N13 mI13 PP EE hPP
    have hv' : (strValues lst)[i]? = some v := by simpa using hv
    obtain ⟨p, tp, rfl, hp⟩ := sp.item i v hv'
    have hi := (List.getElem?_eq_some_iff.mp hp).1
    have lp1 : p.length ≤ 20 := lpz2 p (List.mem_of_getElem? hp)
    clear F11 N11 F12 N12
    subst hm0
    iterate 11 walk1
    rename News _ _ _ _ => N14
    rename Fr g1 _ _ _ => F14
    refine cur_tail (s := ⟨_, _, _, _, _⟩) ((cx1 _ rfl rfl).less (by omega)) F14 N14 CC (sl_key p) (by omega) fun a' led' h15 tk15 F15 N15 C' k15 => ?_
    have et : ps.take (i + 1) = ps.take i ++ [p] := by rw [List.take_add_one, hp]; rfl
    have C' : Cur w false mk PD rt (vis P x ps (i + 1 + 1)) (N0 + 1 + (i + 1)) led' (x :: (ps.take (i + 1)).map sl) a' := by
      have e : x :: (ps.take (i + 1)).map sl = (x :: (ps.take i).map sl) ++ [sl p] := by rw [et, List.map_append]; rfl
      show Cur w false mk PD rt (addP (vis P x ps (i + 1)) (x :: (ps.take (i + 1)).map sl)) _ _ _ _
      rw [e]
      exact C'
    iterate 2 walk1
    refine hPP _ _ ⟨_, _, _, _, rfl, by assumption, by assumption, k15 _ mI13 (nn (show Value.type "list_iterator" ≠ Value.ref 158 by decide)), _, a', ov2_set (x := Str.ofString "piece") (y := Str.ofString "node") (by decide), fun q hq hc => k15 _ (kp q hq hc) hc, C'⟩
  · rintro h13 tk13 led13 m13 F13 N13 ⟨pv, a, rfl, kp, CC⟩
    clear F11 N11 F12 N12
    have esz : (strValues lst).toArray.size = ps.length := by simp [strValues, lps]
    rw [esz, List.take_length] at CC
    subst hm0
    iterate 4 walk1
    rename News _ _ _ _ => N14
    rename Fr g1 _ _ _ => F14
    obtain ⟨m14, hm14, F14⟩ := name_map F14
    refine wpAny_mono (Q := fun v s' => ∃ t tk', v = .str (keyOf y) t ∧ s' = ⟨h13, s.gens, s.drawn, tk', s.os⟩) (E := _) ?_ ?_ (fun _ _ z => z)
    · subst hm14
      iterate 5 walk1
      · rename _ = true => hb
        iterate 1 walk1
        exact ⟨_, _, by unfold keyOf; rw [if_pos hb]; rfl, rfl⟩
      · rename _ = false => hb
        iterate 1 walk1
        exact ⟨_, _, by unfold keyOf; rw [hb]; rfl, rfl⟩
    rintro v s' ⟨t14, tk14, rfl, rfl⟩
    subst hm14
    have ky : keyOf y = kWhole ∨ keyOf y = kBelow := by unfold keyOf; split; exact .inr rfl; exact .inl rfl
    have mw1 : (wl, lobj wvs c) ∈ led1 := k1 _ (.tail _ mw) (nn (show Value.type "list" ≠ Value.ref 158 by decide))
    refine cur_set (s := ⟨_, _, _, _, _⟩) ((cx1 _ rfl rfl).less (by omega)) F14 N14 CC ky (by omega) fun led' h15 tk15 F15 N15 C' k15 => ?_
    have kk : ∀ p ∈ led, NN p.2 → p ∈ led' := fun p hp hc => k15 _ (kp _ (k1 _ (.tail _ hp) hc) hc) hc
    have mP5 := kk _ mP (nn (show Value.ref 253 ≠ Value.ref 158 by decide))
    have mD5 := kk _ mD (nn (show Value.type "dict" ≠ Value.ref 158 by decide))
    clear F14 N14
    iterate 15 walk1
    rename News _ _ _ _ => N16
    rename Fr g1 _ _ _ => F16
    have mw5 := kk _ mw (nn (show Value.type "list" ≠ Value.ref 158 by decide))
    have mpl5 := k15 _ (kp _ mpl (nn (show Value.type "list" ≠ Value.ref 158 by decide))) (nn (show Value.type "list" ≠ Value.ref 158 by decide))
    refine wpAny_call ((note_call (w := w) (ho := x) mw5 mpl5 sw (by simpa using sp) (Nat.ne_of_lt (fr7 _ mw)) lpz2 (by omega) (by omega) (by rw [List.length_map]; omega)).then (s := ⟨_, _, _, _, _⟩) ((cx1 _ rfl rfl).less (by omega)) F16 N16 ?_)
    rintro v led6 h17 tk17 F17 N17 ⟨rfl, k17, wvs', c', mw', sw'⟩
    iterate 1 walk1
    refine leaveK_ F17 N17 fun F18 N18 => hQ _ _ _ _ F18 N18 ⟨rfl, fun p hp hc hn => k17 _ (kk p hp hc) hn, ?_, wvs', c', mw', ?_⟩
    · exact (C'.mono (fun p hp ht => k17 p hp (led_ne N16 hp mw5 (ht.ne_seq (by decide)))) (by omega)).home
    · rw [← note_vis hP gh sf]
      exact sw'
end

/-- the state of `_law_way`'s turn -/
structure WSt (w : World) (md : Bool) (mk : Mk) (PD : List Addr) (rt : Addr) (P : List (List Str)) (N : Nat) (q : List Str) (a l : Addr) (ledB keep : Led) (ns : List Nat) (led' : Led) : Prop where
  cur : Cur w md mk PD rt P N led' q a
  kp : ∀ p ∈ ledB, NN p.2 → p.1 ≠ l → p ∈ led'
  kk : ∀ p ∈ keep, p ∈ led'
  found : ∃ vs c, (l, lobj vs c) ∈ led' ∧ IntsAre vs.toList (ns.map fun n : Nat => (n : Int)) ∧ vs.size ≤ ns.length
theorem fnd_len (mk : Mk) (h : Str) (A : List Str) : ∀ k, (fnd mk h A k).length ≤ 2 * k
  | 0 => Nat.le_refl _
  | k + 1 => by
    have ih := fnd_len mk h A k
    have o : ∀ o : Option Nat, o.toList.length ≤ 1 := fun o => by cases o <;> simp
    unfold fnd
    rw [List.length_append, List.length_append]
    have h1 := o (mk h (A.take (k + 1)) kWhole)
    have h2 := o (mk h (A.take (k + 1)) kBelow)
    split
    · omega
    · rw [List.length_nil]; omega
theorem WSt.more {w : World} {md : Bool} {mk : Mk} {PD : List Addr} {rt : Addr} {P P' : List (List Str)} {N N' : Nat} {q q' : List Str} {a a' l : Addr} {ledB keep : Led} {ns : List Nat} {led' led'' : Led} (S : WSt w md mk PD rt P N q a l ledB keep ns led') (nk : ∀ p ∈ keep, NN p.2) (k : ∀ p ∈ led', NN p.2 → p ∈ led'') (C : Cur w md mk PD rt P' N' led'' q' a') : WSt w md mk PD rt P' N' q' a' l ledB keep ns led'' where
  cur := C
  kp := fun p hp hc hn => k _ (S.kp p hp hc hn) hc
  kk := fun p hp => k _ (S.kk p hp) (nk p hp)
  found := by
    obtain ⟨vs, c, h1, h2, h3⟩ := S.found
    exact ⟨vs, c, k _ h1 (nn (show Value.type "list" ≠ Value.ref 158 by decide)), h2, h3⟩
theorem WSt.ins {g h : Heap} {L : Addr} {w : World} {md : Bool} {mk : Mk} {PD : List Addr} {rt : Addr} {P : List (List Str)} {N : Nat} {q : List Str} {a l : Addr} {ledB keep : Led} {ns : List Nat} {led' : Led} (NW : News g L h led') (S : WSt w md mk PD rt P N q a l ledB keep ns led') (nk : ∀ p ∈ keep, p.2.cls ≠ .type "list") {vs : Array Value} {c : Nat} (ml : (l, lobj vs c) ∈ led') (hi : IntsAre vs.toList (ns.map fun n : Nat => (n : Int))) (hz : vs.size ≤ ns.length) {n : Nat} {t : Tok} :
    WSt w md mk PD rt P N q a l ledB keep (n :: ns) (setL led' l (lobj (vs.toList.take 0 ++ .int (n : Nat) t :: vs.toList.drop 0).toArray (c + 1))) where
  cur := S.cur.mono (fun p hp ht => mem_setL hp (led_ne NW hp ml (ht.ne_seq (by decide)))) (Nat.le_refl _)
  kp := fun p hp hc hn => mem_setL (S.kp p hp hc hn) hn
  kk := fun p hp => keep_setL NW ml (S.kk p hp) (nk p hp)
  found := ⟨_, _, mem_setL_self ml, by simpa using IntsAre.cons (n : Int) t hi, by simp; omega⟩
section
theorem cur_inOp {w : World} {A : Around} {E : Value → Shared → Prop} {h₀ : Heap} {L : Addr} {m : Str → Option Value} {led : Led} {s : Shared} {mk : Mk} {PD : List Addr} {rt : Addr} {P : List (List Str)} {N : Nat} {a : Addr} {k : Str} {t : Tok} {md : Bool} {d' : Nat} {h : Str} {ps : List Str} {Q : Value → Shared → Prop} (cx : Cx w A h₀ L d') (F : Fr h₀ L s.heap m) (NW : News h₀ L s.heap led) (C : Cur w md mk PD rt P N led (h :: ps.map sl) a) (hs : SFs ps) (hk : k = kWhole ∨ k = kBelow)
    {b : Bool} (hb : (mk h ps k).isSome = b) (hq : ∀ tk', Q (.bool b) { s with toks := tk' }) : wpAny (model PG w) A (compareOp .In (.str k t) (.ref a)) Q E s := by
  show wpAny _ _ (contains (.ref a) (.str k t) >>= fun b => pure (Value.bool b)) _ _ _
  subst hb
  exact wpAny_bind (cur_in cx F NW C hs hk fun tk' => wpAny_pure (hq tk'))
theorem way_call {w : World} {md : Bool} {rt : Addr} {rv : Value} {mk : Mk} {PD : List Addr} {P : List (List Str)} {N0 : Nat} {led : Led} {XX : Addr → Prop} {r : Str × Str}
    (C0 : Cur w md mk PD rt P N0 led [] rt) (hr : PairIs XX led rv r) (gr : GoodQ r) (hN : N0 ≤ 880) :
    DoesC PG w 40 (.ref 303) [.ref rt, rv] led (fun v led' => (∀ p ∈ led, NN p.2 → p ∈ led') ∧
      Cur w md mk PD rt (if md then P else vis P r.1 (piecesOf (chs r.2)) ((piecesOf (chs r.2)).length + 1)) (N0 + 20) led' [] rt ∧
      ∃ l vs c, v = .ref l ∧ (l, lobj vs c) ∈ led' ∧ IntsAre vs.toList ((fnd mk r.1 (piecesOf (chs r.2)) (piecesOf (chs r.2)).length).map fun n : Nat => (n : Int)) ∧ ∀ p ∈ led, NN p.2 → p.1 ≠ l) := by
  obtain ⟨x, y⟩ := r
  obtain ⟨gh, gp, gl⟩ := gr
  obtain ⟨Pa, Da, ta, ua, rfl, mP, mD, nD⟩ := hr
  dsimp only at gh gp gl mP
  have lx : x.length ≤ 1 := host_len gh
  dsimp only
  obtain ⟨ps, hps⟩ : ∃ ps, ps = piecesOf (chs y) := ⟨_, rfl⟩
  have sf : SFs ps := by rw [hps]; exact pieces_SF _
  simp only [← hps]
  intro A h₀ L m s Q E cx F N hQ; obtain ⟨A₀, base, outer, env, p, loose, mean, mg, mb, B, hA, hf, hk, X, T, hh, hd, hu, hC⟩ := cx
  walk_at "enter"; intro g1 L1 h1 FG F1 N1 B1 X1 T1; (try dsimp only)
  have cx1 : ∀ e : Env, e.frame = some L1 → e.scope.kind = .function → Cx w (A.deeper e) g1 L1 39 := fun e i1 i2 => cx_deeper (e := e) B1 i1 i2 X1 T1 hh (by omega) (by omega) hC FG.keep (d := 39)
  change Fr g1 L1 h1 (fun y => List.lookup y [(Str.ofString "address", Value.ref Pa), (Str.ofString "tree", Value.ref rt)]) at F1
  refine regen (hp := h1) (g := s.gens) (d := s.drawn) (os := s.os) fun tk1 => ?_
  iterate 9 walk1
  rename News _ _ _ _ => N2
  rename Fr g1 _ _ _ => F2
  refine cur_tail (s := ⟨_, _, _, _, _⟩) ((cx1 _ rfl rfl).less (by omega)) F2 N2 C0 (host_key gh) (by omega) fun a1 led1 h10 tk10 F10 N10 C1 k1 => ?_
  have mP1 := k1 _ mP (nn (show Value.ref 253 ≠ Value.ref 158 by decide))
  have mD1 := k1 _ mD (nn (show Value.type "dict" ≠ Value.ref 158 by decide))
  clear F2 N2
  iterate 30 walk1
  rename News _ _ _ _ => N3
  rename Fr g1 _ _ _ => F3
  rename List (Str × Tok) => lst
  rename List.map (fun x => x.fst) lst = Txt.split y (Str.ofString "/") => e9
  rename StrsAre (strValues lst) _ => sp
  rename ∀ a ∈ List.map (fun x => x.fst) lst, a.length ≤ y.length => lpz
  have e10 : Txt.split y (Str.ofString "/") = ps := by rw [split_pieces, hps]
  rw [e9, e10] at sp
  rw [e9, e10] at lpz
  rename_i hA tA hB kB aB l hC ltl D hD ltD hE hF hG hH
  dsimp only at N3 F3
  obtain ⟨pl, hpl⟩ : ∃ pl, pl = hA.objs.size := ⟨_, rfl⟩
  rw [← hpl] at N3 F3
  have lps : lst.length = ps.length := by have := sp.length; simpa [strValues] using this
  have nps : ps.length ≤ 15 := by
    have h1 := pieces_len (chs y)
    rw [← hps] at h1
    have h2 : (chs y).length ≤ 14 := gl
    omega
  have allLt : ∀ {d : Nat} {g : Led}, AllLt d g → ∀ p ∈ g, p.1 < d := fun {d g} => by
    induction g with
    | nil => intro _ p hp; cases hp
    | cons q r ih =>
      intro h p hp
      rcases List.mem_cons.mp hp with rfl | hp
      · exact h.1
      · exact ih h.2 p hp
  have frl : ∀ p ∈ led1, p.1 ≠ l := fun p hp => Nat.ne_of_lt (allLt ltl.2 p hp)
  have pll : pl ≠ l := by rw [hpl]; exact Nat.ne_of_lt ltl.1
  refine wpAny_For ?_
  iterate 10 walk1
  refine len_led (s := ⟨_, _, _, _, _⟩) N3 (.tail _ (.tail _ (.head _))) (by simp [strValues]; omega) fun t4 tk4 => ?_
  walk1
  refine range_led (s := ⟨_, _, _, _, _⟩) F3 N3 fun R h4 tk5 r1 r2 r3 F4 N4 lR => ?_
  refine iter_rng (s := ⟨_, _, _, _, _⟩) F4 N4 (.head _) (by simp [strValues]; omega) fun It h5 F5 N5 lI => ?_
  obtain ⟨m0, hm0, F5⟩ := name_map F5
  have esz : (strValues lst).toArray.size = ps.length := by simp [strValues, lps]
  rw [esz] at N5
  obtain ⟨led2, hled2⟩ : ∃ led2, led2 = (R, rngObj (ps.length : Nat) r1 r2 r3) :: (D, ({ cls := Value.type "tuple", data := Data.seq #[Value.ref a1, Value.ref pl, Value.ref l] } : Obj)) :: (l, lobj #[] 0) :: (pl, lobj (strValues lst).toArray 0) :: led1 := ⟨_, rfl⟩
  have N5 : News g1 L1 h5 ((It, rit 0 (ps.length : Nat) 1) :: led2) := by rw [hled2]; exact N5
  have lI2 : ∀ p ∈ led2, p.1 ≠ It := by rw [hled2]; exact fun p hp => Nat.ne_of_lt (lI (p.1, p.2) (by rw [esz]; exact hp))
  obtain ⟨ledB, hledB⟩ : ∃ ledB, ledB = (pl, lobj (strValues lst).toArray 0) :: led1 := ⟨_, rfl⟩
  have kB : ∀ p ∈ ledB, p ∈ led2 := by rw [hledB, hled2]; exact fun p hp => .tail _ (.tail _ (.tail _ hp))
  have C1 : Cur w md mk PD rt (if md then P else vis P x ps 1) (N0 + 1) led1 [x] a1 := C1
  refine loop_range (cnt := ps.length) (x := 0) (st := 1) hh (fun i led₁ m₁ => ∃ kv a, m₁ = ov2 m0 (Str.ofString "k") kv (Str.ofString "node") (some (.ref a)) ∧ WSt w md mk PD rt (if md then P else vis P x ps (i + 1)) (N0 + 1 + i) (x :: (ps.take i).map sl) a l ledB [] (fnd mk x ps i) led₁) led2 lI2 ?_ F5 N5 (.head _) ?_ ?_ ?_
  · rintro i led₁ led₂ m₁ fr ⟨kv, a, rfl, S⟩
    refine ⟨kv, a, rfl, S.cur.mono (fun p hp ht => fr _ hp (.inr (ht.notIt (by decide) (by decide)))) (Nat.le_refl _), fun p hp hc hn => fr _ (S.kp p hp hc hn) (.inl (kB p hp)), fun p hp => (nomatch hp), ?_⟩
    obtain ⟨vs, c, h1, h2, h3⟩ := S.found
    exact ⟨vs, c, fr _ h1 (.inr (.inl (show Value.type "list" ≠ Value.type "range_iterator" by decide))), h2, h3⟩
  · refine ⟨none, a1, ?_, C1.mono (fun p hp _ => .tail _ (kB _ (by rw [hledB]; exact .tail _ hp))) (Nat.le_refl _), fun p hp _ _ => .tail _ (kB _ hp), fun p hp => (nomatch hp), #[], 0, (by rw [hled2]; exact .tail _ (.tail _ (.tail _ (.head _)))), .nil, Nat.le_refl _⟩
    rw [hm0]
    funext v
    unfold ov2
    by_cases e1 : v = Str.ofString "k"
    · subst e1; rfl
    · by_cases e2 : v = Str.ofString "node"
      · subst e2; rfl
      · simp only [e1, e2, if_false]
  · rintro i ti led₁ m₁ h6 tk6 hi ⟨kv, a, rfl, S⟩ F6 N6 mI6 PP EE hPP
    rw [show (0 : Int) + 1 * (i : Int) = (i : Int) by omega]
    obtain ⟨p, hp⟩ : ∃ p, ps[i]? = some p := ⟨_, List.getElem?_eq_getElem hi⟩
    obtain ⟨tp, hvp⟩ := sp.at hp
    have lp1 : p.length ≤ 20 := Nat.le_trans (lpz p (List.mem_of_getElem? hp)) (Nat.le_trans gl (by decide))
    have mpl : (pl, lobj (strValues lst).toArray 0) ∈ led₁ := S.kp _ (by rw [hledB]; exact .head _) (nn (show Value.type "list" ≠ Value.ref 158 by decide)) pll
    clear F4 N4 F3 N3 F5
    subst hm0
    iterate 12 walk1
    rename News _ _ _ _ => N7
    refine item_list (News.isList N7 mpl) (by omega) (by omega) (show (strValues lst).toArray[((i : Nat) : Int).toNat]? = some (.str p tp) by simpa using hvp) ?_
    walk1
    rename Fr g1 _ _ _ => F7
    refine cur_tail (s := ⟨_, _, _, _, _⟩) ((cx1 _ rfl rfl).less (by omega)) F7 N7 S.cur (sl_key p) (by omega) fun a' led' h15 tk15 F15 N15 C' k15 => ?_
    have et : ps.take (i + 1) = ps.take i ++ [p] := by rw [List.take_add_one, hp]; rfl
    have C' : Cur w md mk PD rt (if md then P else vis P x ps (i + 1 + 1)) (N0 + 1 + (i + 1)) led' (x :: (ps.take (i + 1)).map sl) a' := by
      have e : x :: (ps.take (i + 1)).map sl = (x :: (ps.take i).map sl) ++ [sl p] := by rw [et, List.map_append]; rfl
      have e2 : (if md then P else vis P x ps (i + 1 + 1)) = if md then (if md then P else vis P x ps (i + 1)) else addP (if md then P else vis P x ps (i + 1)) ((x :: (ps.take i).map sl) ++ [sl p]) := by
        cases md
        · show addP _ _ = addP _ _; rw [e]; rfl
        · rfl
      rw [e2, e]
      exact C'
    have S0 : WSt w md mk PD rt (if md then P else vis P x ps (i + 1)) (N0 + 1 + i) (x :: (ps.take i).map sl) a l ledB [(It, rit (0 + 1 * ((i : Int) + 1)) ((ps.length : Nat) - (i + 1)) 1)] (fnd mk x ps i) led₁ := ⟨S.cur, S.kp, fun q hq => by rw [List.mem_singleton.mp hq]; exact mI6, S.found⟩
    have nk : ∀ q ∈ [(It, rit (0 + 1 * ((i : Int) + 1)) ((ps.length : Nat) - (i + 1)) 1)], NN q.2 ∧ q.2.cls ≠ .type "list" := fun q hq => by rw [List.mem_singleton.mp hq]; exact ⟨(nn (show Value.type "range_iterator" ≠ Value.ref 158 by decide)), (show Value.type "range_iterator" ≠ Value.type "list" by decide)⟩
    have S1 := S0.more (fun q hq => (nk q hq).1) k15 C'
    have sfi : SFs (ps.take (i + 1)) := fun q hq => sf q (List.take_subset _ _ hq)
    have lfn := fnd_len mk x ps i
    clear F7 N7 S0 mI6
    iterate 2 walk1
    rename News _ _ _ _ => N8
    rename Fr g1 _ _ _ => F8
    obtain ⟨m8, hm8, F8⟩ := name_map F8
    refine wpAny_mono (Q := fun fl s' => fl = .next ∧ ∃ led2 h2 tk2, s' = ⟨h2, s.gens, s.drawn, tk2, s.os⟩ ∧ Fr g1 L1 h2 m8 ∧ News g1 L1 h2 led2 ∧ WSt w md mk PD rt (if md then P else vis P x ps (i + 1 + 1)) (N0 + 1 + (i + 1)) (x :: (ps.take (i + 1)).map sl) a' l ledB [(It, rit (0 + 1 * ((i : Int) + 1)) ((ps.length : Nat) - (i + 1)) 1)] ((mk x (ps.take (i + 1)) kWhole).toList ++ fnd mk x ps i) led2) (E := _) ?_ ?_ (fun _ _ z => z)
    · subst hm8
      cases hm : mk x (ps.take (i + 1)) kWhole with
      | none =>
        iterate 4 walk1
        refine cur_inOp (s := ⟨_, _, _, _, _⟩) ((cx1 _ rfl rfl).less (d' := 1) (by omega)) F8 N8 S1.cur sfi (.inl rfl) (b := false) (by show (mk x (ps.take (i + 1)) kWhole).isSome = false; rw [hm]; rfl) fun tk16 => ?_
        iterate 3 walk1
        exact ⟨rfl, _, _, _, rfl, F8, N8, S1⟩
      | some n =>
        iterate 4 walk1
        refine cur_inOp (s := ⟨_, _, _, _, _⟩) ((cx1 _ rfl rfl).less (d' := 1) (by omega)) F8 N8 S1.cur sfi (.inl rfl) (b := true) (by show (mk x (ps.take (i + 1)) kWhole).isSome = true; rw [hm]; rfl) fun tk16 => ?_
        iterate 6 walk1
        obtain ⟨vs, c, mls, hvs, zvs⟩ := S1.found
        refine getMethod_insert_N (s := ⟨_, _, _, _, _⟩) N8 mls ?_
        iterate 7 walk1
        refine cur_get (s := ⟨_, _, _, _, _⟩) X1 F8 N8 S1.cur sfi (.inl rfl) hm fun t17 tk17 => ?_
        iterate 1 walk1
        refine led_insert (s := ⟨_, _, _, _, _⟩) (k := 0) F8 N8 mls (Nat.zero_le _) (by omega) fun h18 F18 N18 => ?_
        iterate 2 walk1
        exact ⟨rfl, _, _, _, rfl, F18, N18, S1.ins N8 (fun q hq => (nk q hq).2) mls hvs zvs⟩
    rintro fl s' ⟨rfl, led2, h16, tk16, rfl, F9, N9, S2⟩
    clear F8 N8 S1
    have fin : ∀ ns led2 h2 tk2, Fr g1 L1 h2 m8 → News g1 L1 h2 led2 → ns = fnd mk x ps (i + 1) → WSt w md mk PD rt (if md then P else vis P x ps (i + 1 + 1)) (N0 + 1 + (i + 1)) (x :: (ps.take (i + 1)).map sl) a' l ledB [(It, rit (0 + 1 * ((i : Int) + 1)) ((ps.length : Nat) - (i + 1)) 1)] ns led2 → PP .next ⟨h2, s.gens, s.drawn, tk2, s.os⟩ := fun ns led2 h2 tk2 F N e S => hPP _ _ ⟨_, _, _, _, rfl, F, N, S.kk _ (.head _), _, a', hm8.trans (ov2_set (x := Str.ofString "k") (y := Str.ofString "node") (by decide)), S.cur, S.kp, fun q hq => (nomatch hq), by rw [← e]; exact S.found⟩
    subst hm8
    iterate 2 walk1
    cases hm : mk x (ps.take (i + 1)) kBelow with
    | none =>
      have e3 : (mk x (ps.take (i + 1)) kWhole).toList ++ fnd mk x ps i = fnd mk x ps (i + 1) := by
        conv => rhs; unfold fnd
        rw [hm]
        split <;> rfl
      iterate 4 walk1
      refine cur_inOp (s := ⟨_, _, _, _, _⟩) ((cx1 _ rfl rfl).less (d' := 1) (by omega)) F9 N9 S2.cur sfi (.inr rfl) (b := false) (by show (mk x (ps.take (i + 1)) kBelow).isSome = false; rw [hm]; rfl) fun tk16 => ?_
      iterate 5 walk1
      exact fin _ _ _ _ F9 N9 e3 S2
    | some n =>
      iterate 4 walk1
      refine cur_inOp (s := ⟨_, _, _, _, _⟩) ((cx1 _ rfl rfl).less (d' := 1) (by omega)) F9 N9 S2.cur sfi (.inr rfl) (b := true) (by show (mk x (ps.take (i + 1)) kBelow).isSome = true; rw [hm]; rfl) fun tk16 => ?_
      iterate 14 walk1
      have mpl2 : (pl, lobj (strValues lst).toArray 0) ∈ led2 := S2.kp _ (by rw [hledB]; exact .head _) (nn (show Value.type "list" ≠ Value.ref 158 by decide)) pll
      refine len_led (s := ⟨_, _, _, _, _⟩) N9 mpl2 (by rw [esz]; omega) fun t17 tk17 => ?_
      rw [esz]
      by_cases hlt : i + 1 < ps.length
      · have hlt2 : decide (((i : Nat) : Int) + 1 < (ps.length : Nat)) = true := decide_eq_true (by omega)
        iterate 9 walk1
        obtain ⟨vs, c, mls, hvs, zvs⟩ := S2.found
        have zl : ((mk x (ps.take (i + 1)) kWhole).toList ++ fnd mk x ps i).length ≤ 2 * i + 1 := by
          rw [List.length_append]
          cases mk x (ps.take (i + 1)) kWhole <;> simp <;> omega
        refine getMethod_insert_N (s := ⟨_, _, _, _, _⟩) N9 mls ?_
        iterate 7 walk1
        refine cur_get (s := ⟨_, _, _, _, _⟩) X1 F9 N9 S2.cur sfi (.inr rfl) hm fun t18 tk18 => ?_
        iterate 1 walk1
        refine led_insert (s := ⟨_, _, _, _, _⟩) (k := 0) F9 N9 mls (Nat.zero_le _) (by omega) fun h19 F19 N19 => ?_
        iterate 3 walk1
        refine fin _ _ _ _ F19 N19 ?_ (S2.ins N9 (fun q hq => (nk q hq).2) mls hvs zvs (n := n))
        conv => rhs; unfold fnd
        rw [hm, if_pos hlt]
        rfl
      · have hlt2 : decide (((i : Nat) : Int) + 1 < (ps.length : Nat)) = false := decide_eq_false (by omega)
        iterate 6 walk1
        refine fin _ _ _ _ F9 N9 ?_ S2
        conv => rhs; unfold fnd
        rw [if_neg hlt]
        rfl
  · rintro h6 tk6 led6 m6 F6 N6 ⟨kv, a, rfl, S⟩
    clear F4 N4 F3 N3 F5
    subst hm0
    iterate 4 walk1
    obtain ⟨vs, c, mls, hvs, _⟩ := S.found
    exact hQ _ _ _ _ (by assumption) (by assumption) ⟨fun p hp hc => S.kp p (by rw [hledB]; exact .tail _ (k1 p hp hc)) hc (frl p (k1 p hp hc)), (S.cur.mono (fun p hp _ => hp) (by omega)).home, l, vs, c, rfl, mls, hvs, fun p hp hc => frl p (k1 p hp hc)⟩
end

/-- the iterator over a book's keys -/
abbrev kitr (a : Addr) (i n ep : Nat) : Obj := { cls := .type "dict_keyiterator", data := .fields #[.ref a, rawInt i, rawInt n, rawInt ep] }
theorem pk_diter (w : World) (prog : Program) : peek (Mine.hd.heap_1 w.params) ⟨prog, w.params⟩ (typeLookup (.ref 158) "__iter__") = some (some (.builtin "dict.__iter__")) := by kernel_rfl
theorem bi_diter : Bi "dict.__iter__" Builtin.«dict.__iter__» "dict" "__iter__" where
  plain := by decide +kernel
  entry := entryFor_of_tree (by kernel_rfl)
  kind := by first | exact .inl (by decide +kernel) | exact .inr (by decide +kernel)
  split := by decide +kernel
section
variable {prog : Program} {w : World} {A : Around} {E : Value → Shared → Prop} {h h₀ : Heap} {g : Array GenState} {d : Drawn} {tk : Nat} {os : OsState}
theorem node_iter {a dx : Addr} {es : Array DictEntry} {n : Nat} {Q : Value → Shared → Prop} (X : (Mine.hd.heap_1 w.params).In h₀) (st : h₀.StaysIn h) (nm : (a == sysModules) = false) (ha : h.get? a = some (nodeObj dx es n))
    (hq : Q (.ref h.objs.size) ⟨h.push (kitr a 0 es.size n), g, d, tk, os⟩) : wpAny (model prog w) A (pyIter (.ref a)) Q E ⟨h, g, d, tk, os⟩ := by
  have t1 : Looks (model prog w) h (typeOf (.ref a)) (.ref 158) := typeAt ha rfl
  have L1 := Looks.of_peek (M := model prog w) X (pk_diter w prog)
  have L3 := Looks.of_peek (M := model prog w) X (pk_subDict w prog)
  have L4 := Looks.of_peek (M := model prog w) X (pk_subOD w prog)
  have b1 : Looks (model prog w) h (bindSpecial (.builtin "dict.__iter__") (.ref a)) (.builtin "dict.__iter__", [.ref a]) := Looks.of_pure (by kernel_rfl)
  have B1 : Looks (model prog w) h (bindSpecialIfBound? (.ref a) "__iter__") (some (.builtin "dict.__iter__", [.ref a])) := fun A Q E s k q => by
    obtain ⟨h', g', d', tk', os'⟩ := s
    have t1 := t1.keeps k
    have st : h₀.StaysIn h' := fun b o e => k b o (st b o e)
    have b1 := b1.keeps k
    unfold bindSpecialIfBound? specialOf
    repeat walk_at "lkk"
    split <;> (repeat walk_at "lkk") <;> exact q
  unfold pyIter specialOf callSpecialIfBoundUnlessNone?
  repeat walk_at "lkk"
  refine bi_diter.call (t1.andThen (L3.keeps st)) (by unfold argsOk; kernel_rfl) ?_
  unfold Builtin.«dict.__iter__» Builtin.Dict.dictSlotNone Builtin.Dict.showsAll
  repeat walk_at "lkk"
  rw [if_neg (by rw [nm]; exact Bool.false_ne_true)]
  repeat (first | with_reducible refine wpAny_dictEntries ha rfl ?_ | with_reducible refine wpAny_dictEpoch ha rfl ?_ | walk_at "lkk")
  have hI : (h.push (kitr a 0 es.size n)).get? h.objs.size = some (kitr a 0 es.size n) := Heap.get?_push_size _ rfl
  refine wpAny_loadPart' hI (wpAny_pure (wpAny_pure ?_))
  exact wpAny_pure hq
/-- one key more -/
theorem key_next {J a dx : Addr} {i n : Nat} {es : Array DictEntry} {e : DictEntry} {Q : Option Value → Shared → Prop} (hJ : h.get? J = some (kitr a i es.size n)) (ha : h.get? a = some (nodeObj dx es n)) (hx : es[i]? = some e)
    (hq : Q (some e.key) ⟨h.update J (Obj.mapFields fun vs => vs.setIfInBounds 1 (rawInt ((i : Int) + 1))), g, d, tk, os⟩) : wpAny (model prog w) A (pyNext (.ref J)) Q E ⟨h, g, d, tk, os⟩ := by
  have hT : (⟨h, g, d, tk, os⟩ : Shared).TypeIs (.ref J) "dict_keyiterator" := ⟨_, hJ, rfl⟩
  unfold pyNext
  refine wpAny_bind (wpAny_attempt (wpAny_callSpecial?_slot (name := Str.ofString "__next__") hT PySem.F.slot_dict_keyiterator_next (wpAny_call_entry PySem.F.slot_dict_keyiterator_next hT PySem.F.entry_dict_keyiterator_next ?_ (PySem.F.args_dict_keyiterator_next_1 _))))
  refine wpAny_bind (wpAny_pure (wpAny_bind (wpAny_bind ?_)))
  refine wpAny_bind (wpAny_typeNameOfWhole_keyiter hT (wpAny_pure ?_))
  refine wpAny_bind (wpAny_fieldsOf hJ rfl ?_)
  rw [show Builtin.Dict_items.ownsTuple "dict_keyiterator" = false by decide]
  show wpAny _ _ (if (Value.ref a == Value.none) = true then _ else _) _ _ _
  rw [if_neg (show ¬ ((Value.ref a == Value.none) = true) from Bool.false_ne_true)]
  refine wpAny_bind (wpAny_pure (wpAny_bind (wpAny_dictEntries ha rfl ?_)))
  rw [if_neg (by simp)]
  refine wpAny_bind (wpAny_pure (wpAny_bind (wpAny_dictEpoch ha rfl ?_)))
  rw [if_neg (by simp)]
  refine wpAny_pure ?_
  dsimp only
  rw [if_neg (by omega), Int.toNat_natCast, hx]
  refine wpAny_bind (wpAny_bind (wpAny_typeNameOfWhole_keyiter hT (wpAny_pure ?_)))
  refine wpAny_bind (wpAny_isOneOf_keyiter hT ?_)
  show wpAny _ _ (setField (.ref J) 1 (rawInt ((i : Int) + 1)) >>= _) _ _ _
  refine wpAny_bind (wpAny_setField hJ rfl (by simp) ?_)
  have hJ2 : (h.update J (Obj.mapFields fun vs => vs.setIfInBounds 1 (rawInt ((i : Int) + 1)))).get? J = some (kitr a (i + 1) es.size n) := Heap.get?_update_self _ hJ rfl
  refine wpAny_bind (wpAny_holding (wpAny_bind (wpAny_isOneOf_keyiter ⟨_, hJ2, rfl⟩ ?_)))
  show wpAny _ _ (pure e.key) _ _ _
  exact wpAny_pure (wpAny_pure ⟨_, rfl, wpAny_pure hq⟩)
theorem key_end {J a dx : Addr} {i n : Nat} {es : Array DictEntry} {Q : Option Value → Shared → Prop} (hh : A.handled = none) (hJ : h.get? J = some (kitr a i es.size n)) (ha : h.get? a = some (nodeObj dx es n)) (hx : es[i]? = none)
    (hq : ∀ h', Heap.ExtBut J h h' → Q none ⟨h', g, d, tk, os⟩) : wpAny (model prog w) A (pyNext (.ref J)) Q E ⟨h, g, d, tk, os⟩ := by
  have hT : (⟨h, g, d, tk, os⟩ : Shared).TypeIs (.ref J) "dict_keyiterator" := ⟨_, hJ, rfl⟩
  unfold pyNext
  refine wpAny_bind (wpAny_attempt (wpAny_callSpecial?_slot (name := Str.ofString "__next__") hT PySem.F.slot_dict_keyiterator_next (wpAny_call_entry PySem.F.slot_dict_keyiterator_next hT PySem.F.entry_dict_keyiterator_next ?_ (PySem.F.args_dict_keyiterator_next_1 _))))
  refine wpAny_bind (wpAny_pure (wpAny_bind (wpAny_bind ?_)))
  refine wpAny_bind (wpAny_typeNameOfWhole_keyiter hT (wpAny_pure ?_))
  refine wpAny_bind (wpAny_fieldsOf hJ rfl ?_)
  rw [show Builtin.Dict_items.ownsTuple "dict_keyiterator" = false by decide]
  show wpAny _ _ (if (Value.ref a == Value.none) = true then _ else _) _ _ _
  rw [if_neg (show ¬ ((Value.ref a == Value.none) = true) from Bool.false_ne_true)]
  refine wpAny_bind (wpAny_pure (wpAny_bind (wpAny_dictEntries ha rfl ?_)))
  rw [if_neg (by simp)]
  refine wpAny_bind (wpAny_pure (wpAny_bind (wpAny_dictEpoch ha rfl ?_)))
  rw [if_neg (by simp)]
  refine wpAny_pure ?_
  dsimp only
  rw [if_neg (by omega), Int.toNat_natCast, hx]
  refine wpAny_bind (wpAny_bind (wpAny_typeNameOfWhole_keyiter hT (wpAny_pure ?_)))
  show wpAny _ _ (setField (.ref J) 0 .none >>= _) _ _ _
  refine wpAny_bind (wpAny_setField hJ rfl (by simp) ?_)
  show wpAny _ _ (newExc (.type "StopIteration") [] >>= _) _ _ _
  refine wpAny_bind ?_
  simp only [newExc, newTuple]
  refine wpAny_bind (wpAny_newObj_type ?_ (by size_fits))
  refine wpAny_bind (m := firstArgMember _ _) (wpAny_of_eq (a := Value.none) (by first | rfl | (simp only [firstArgMember]; rfl)) ?_)
  refine wpAny_newObj_type ?_ (by size_fits)
  simp only [raiseNew]
  refine wpAny_bind (wpAny_handled ?_)
  rw [show A.in1.handled = none from hh]
  refine wpAny_bind (wpAny_pure (wpAny_throw ?_))
  refine wpAny_bind (wpAny_isInstance (T := "StopIteration") (b := true) ⟨_, Heap.get?_push_size _ rfl, rfl⟩ isSubtype_stop ?_)
  exact wpAny_pure (hq _ (((Heap.SameBut.update ..).extBut.push _).push _))
end
/-- a book's keys, one by one -/
theorem Walks.node {prog : Program} {w : World} {A : Around} (hh : A.handled = none) (J a dx : Addr) (hne : a ≠ J) (es : Array DictEntry) (n : Nat) :
    Walks prog w A J [J, a] [J] es.size (fun i v => ∃ e, es[i]? = some e ∧ v = e.key) (fun i h => h.get? J = some (kitr a i es.size n) ∧ h.get? a = some (nodeObj dx es n)) where
  sub := fun b hb => by simp at hb; simp [hb]
  frame := fun i h h' st hk => ⟨hk J (by simp) _ st.1, hk a (by simp) _ st.2⟩
  item := fun i s Q E hi st hQ => by
    obtain ⟨h, g, d, tk, os⟩ := s
    refine key_next st.1 st.2 (Array.getElem?_eq_getElem hi) ?_
    exact hQ _ _ _ ⟨_, Array.getElem?_eq_getElem hi, rfl⟩ ⟨Heap.get?_update_self _ st.1 rfl, (Heap.get?_update_ne _ _ _ _ hne).trans st.2⟩ fun b o hb e => (Heap.get?_update_ne _ _ _ _ (by simpa using hb)).trans e
  done := fun s Q E st hQ => by
    obtain ⟨h, g, d, tk, os⟩ := s
    exact key_end hh st.1 st.2 (Array.getElem?_eq_none (Nat.le_refl _)) fun h' he => hQ h' _ fun b o hb e => he b o (by simpa using hb) e
  self := fun i s Q E st hQ => by
    have hT : s.TypeIs (.ref J) "dict_keyiterator" := ⟨_, st.1, rfl⟩
    refine wpAny_pyIter_slot hT PySem.F.slot_dict_keyiterator_iter (wpAny_call_entry PySem.F.slot_dict_keyiterator_iter hT PySem.F.entry_dict_keyiterator_iter ?_ (PySem.F.args_dict_keyiterator_iter_1 _))
    show wpAny _ _ (ret (.ref J)) _ _ s
    exact wpAny_pure ⟨_, rfl, "dict_keyiterator", _, hT, PySem.F.slot_dict_keyiterator_next.lookup, hQ⟩

theorem comp_invT {prog : Program} {w : World} {A : Around} {h₀ : Heap} {L : Addr} {m : Str → Option Value} {env : Env} {ct elt : Expr} {x : Str} {scope : Scope} {cl : List (Str × Addr)} {s : Shared} {S : Led → Prop} {P : Nat → Value → Prop} {Fin : List Value → Led → Prop} {n : Nat} (J : Nat → List Value → Led → Prop)
    (step : ∀ i ys led v I oI C oC D m₂ h tk (E' : Value → Shared → Prop), i < n → J i ys led → P i v → LCg.NsObj oC m₂ → m₂ x = some v → Fr h₀ L h m → News h₀ L h ((I, oI) :: (C, oC) :: (D, LCg.lst ys) :: led) → LCg.Off3 I C D led → (@Ne Nat I C ∧ @Ne Nat I D ∧ @Ne Nat C D) →
      wpAny (model prog w) A (isTrue ct (compEnvC scope cl C env) (eval ct (compEnvC scope cl C env))) (fun ok s' => if ok = true then
        wpAny (model prog w) A (eval elt (compEnvC scope cl C env)) (LCg.CompEnd h₀ L m { s with heap := h, toks := tk } I oI C oC D (LCg.lst ys) S (fun y led' => J (i + 1) (ys ++ [y]) led')) E' s'
        else LCg.CompEnd h₀ L m { s with heap := h, toks := tk } I oI C oC D (LCg.lst ys) S (fun _ led' => J (i + 1) ys led') Value.none s') E' { s with heap := h, toks := tk })
    (fin : ∀ ys led, J n ys led → Fin ys led) : ∀ k i ys led, i + k = n → J i ys led → LCt.CompRestT prog w A h₀ L m env ct elt x scope cl s S P Fin k i ys led
  | 0, i, ys, led, e, hJ => by rw [Nat.add_zero] at e; subst e; exact LCt.CompRestT.zero (fin _ _ hJ)
  | k + 1, i, ys, led, e, hJ => LCt.CompRestT.succ fun v I oI C oC D m₂ h tk E' hP hN hm F N o d =>
      wpAny_mono (step i ys led v I oI C oC D m₂ h tk E' (by omega) hJ hP hN hm F N o d) (fun ok s' hs => by
        cases ok with
        | true =>
          rw [if_pos rfl] at hs ⊢
          exact wpAny_mono hs (fun y s' ⟨h', tk', led', e1, F', N', o', S', hJ'⟩ => ⟨h', tk', led', e1, F', N', o', S', comp_invT J step fin k (i + 1) _ _ (by omega) hJ'⟩) fun _ _ z => z
        | false =>
          rw [if_neg Bool.false_ne_true] at hs ⊢
          obtain ⟨h', tk', led', e1, F', N', o', S', hJ'⟩ := hs
          exact ⟨h', tk', led', e1, F', N', o', S', comp_invT J step fin k (i + 1) _ _ (by omega) hJ'⟩) fun _ _ z => z
theorem ListComp_N {prog : Program} {w : World} {A : Around} {E : Value → Shared → Prop} {s : Shared} {h₀ : Heap} {L : Addr} {m : Str → Option Value} {env : Env} {ct elt iter : Expr} {x : Str} {px : Pos} {scope : Scope} {cl : List (Str × Addr)} {pos : Pos} {Q : Value → Shared → Prop} (X : (Mine.hd.heap_1 w.params).In h₀) (_F₀ : Fr h₀ L s.heap m)
    (hclos : closureFor scope env = pure cl) (hcell : ∀ y ∈ scope.names, y.2 ≠ .cell) (hkind : scope.kind = .function)
    (hnames : ∀ y ∈ scope.names, y.2 = .local → scope.names.lookup y.1 = some .local) (hx : scope.names.lookup x = some .local)
    (h : wpAny (model prog w) A (eval iter env) (fun xv s₁ => ∃ a dx es n led, xv = .ref a ∧ A.handled = none ∧ Fr h₀ L s₁.heap m ∧ News h₀ L s₁.heap led ∧ (a, nodeObj dx es n) ∈ led ∧ (a == sysModules) = false ∧ es.size ≤ sizeLine ∧
      ∀ s₂ : Shared, (∃ h, s₂ = { s₁ with heap := h }) → LCt.CompRestT prog w A h₀ L m env ct elt x scope cl s₂ (fun led' => (a, nodeObj dx es n) ∈ led') (fun i v => ∃ e, es[i]? = some e ∧ v = e.key) (LCg.FinE h₀ L m s₂ Q) es.size 0 [] led) E s)
    (hs : ∀ x, foldedSetIterable iter env x = pure x := by intro _; rfl) :
    wpAny (model prog w) A (eval (.ListComp elt [⟨.Name x px, iter, [ct], 0⟩] scope pos) env) Q E s := by
  rw [eval_ListComp]
  refine wpAny_comprehension_free (use := none) rfl hs hclos hkind hnames (wpAny_mono h (fun xv s₁ h₁ => ?_) fun _ _ e => e)
  obtain ⟨a, dx, es, n, led, rfl, hh, F, N, ma, nm, hsz, R⟩ := h₁
  obtain ⟨hp, g, d, tk, os⟩ := s₁
  have ha := (N _ ma).1
  have hlt : a < hp.objs.size := Heap.lt_size ha
  refine node_iter X F.keep nm ha ?_
  have up : ∀ b o, hp.get? b = some o → (hp.push (kitr a 0 es.size n)).get? b = some o := fun b o e => Heap.get?_push_of_some _ e
  refine LCt.block_T (Walks.node hh hp.objs.size a dx (Nat.ne_of_lt hlt) es n) hsz (fun i h st => ⟨_, st.1⟩) ?_ hcell hkind hx ⟨Heap.get?_push_size _ rfl, up _ _ ha⟩ (fun b hb => ?_)
    (F.keeps up) (N.grown up) (Nat.ne_of_lt F.ns.lt) (next_is_new F) (fun p hp => Nat.ne_of_lt (Heap.lt_size (N p hp).1)) ma (R _ ⟨_, rfl⟩) ?_
  · intro i h h' o nw st e e' k N' S'
    refine ⟨?_, (N' _ S').1⟩
    rw [e', ← e]; exact st.1
  · show b < (hp.push _).objs.size
    rw [Heap.size_push]
    rcases List.mem_cons.mp hb with rfl | hb
    · exact Nat.lt_succ_self _
    · rw [List.mem_singleton.mp hb]; exact Nat.lt_succ_of_lt hlt
  · intro D C h tk m' ys news' F' N' o1 hn hC₀ hD₀ hCL hDL hCD offC fin
    refine ⟨m', hn, fun h'' hs'' => fin D h'' tk (F'.change hs'' hCL hC₀) (fun p hp => ?_) o1⟩
    refine ⟨hs''.extBut _ _ ?_ (N' p hp).1, (N' p hp).2⟩
    rcases List.mem_cons.mp hp with rfl | hp
    · exact Ne.symm hCD
    · exact offC p hp
theorem kidsOf_append : ∀ {a b : KV}, kidsOf (a ++ b) = kidsOf a ++ kidsOf b
  | [], _ => rfl
  | (k, .kid x) :: r, b => by
    show (k, x) :: kidsOf (r ++ b) = _
    rw [kidsOf_append]; rfl
  | (k, .mark n) :: r, b => by
    show kidsOf (r ++ b) = _
    rw [kidsOf_append]; rfl
theorem EsAre.get : ∀ {es : List DictEntry} {kv : KV} {i : Nat} {e : DictEntry}, EsAre es kv → es[i]? = some e → ∃ p, kv[i]? = some p ∧ (∃ t, e.key = .str p.1 t) ∧ EntIs p.2 e.val
  | [], [], _, _, _, h => by simp at h
  | e :: es, p :: kv, 0, e', ⟨h1, h2, _⟩, h => ⟨p, rfl, by simp at h; exact h ▸ ⟨h1, h2⟩⟩
  | e :: es, p :: kv, i + 1, e', ⟨_, _, t⟩, h => t.get (i := i) (by simpa using h)
  | [], _ :: _, _, _, h, _ => h.elim
  | _ :: _, [], _, _, h, _ => h.elim
section
theorem floors_call {w : World} {a dx : Addr} {es : Array DictEntry} {n : Nat} {kv : KV} {led : Led} (ma : (a, nodeObj dx es n) ∈ led) (he : EsAre es.toList kv) (nm : (a == sysModules) = false) (hnd : (kv.map (·.1)).Nodup)
    (hk1 : ∀ k x, (k, Ent.kid x) ∈ kv → k ≠ kWhole ∧ k ≠ kBelow) (hk2 : ∀ k n, (k, Ent.mark n) ∈ kv → k = kWhole ∨ k = kBelow) (hz : kv.length ≤ 900) :
    DoesC PG w 20 (.ref 308) [.ref a] led (fun v led' => (∀ p ∈ led, p ∈ led') ∧ ∃ l vs c, v = .ref l ∧ (l, lobj vs c) ∈ led' ∧ vs.toList = (kidsOf kv).map fun p => .ref p.2) := by
  intro A h₀ L m s Q E cx F N hQ; obtain ⟨A₀, base, outer, env, p, loose, mean, mg, mb, B, hA, hf, hk, X, T, hh, hd, hu, hC⟩ := cx
  (refine' code_defC ?k1 ?k2 ?k3 ?k4 ?k5 ?kA ?kF ?kK ?k6 ?k7 ?k8 ?k9 ?kB ?kD ?_ ?c2 ?c3 ?c4; (case kA => first | assumption | exact rfl); (case kF => first | assumption | exact rfl); (case kK => first | assumption | exact rfl); (case k1 => k_asm); (case k2 => k_asm); (case k3 => k_asm); (case k4 => k_asm); (case k5 => k_asm); (case k6 => k_is); (case k7 => k_is); (case k8 => walk_at "room"); (case k9 => exact BindsTo.of_eq rfl); (case kB => exact rfl); (case kD => decide +kernel); (case c2 => exact rfl); (case c3 => exact rfl); (case c4 => exact rfl); k_whole); intro g1 L1 h1 tk1 cells1 FG F1 N1 Y1 B1 X1 T1 lt1; (try dsimp only)
  k_cells Y1
  rename_i oc hcell
  have hcell : oc.data = .cell (some (.ref a)) := hcell
  have N1 : News g1 L1 h1 ((L1 + 1, oc) :: led) := N1
  obtain ⟨m0, hm0, F1⟩ := name_map F1
  clear hm0
  iterate 2 walk1
  refine ListComp_N X1 F1 (cl := [(Str.ofString "node", L1 + 1)]) (by with_unfolding_all rfl) (by decide) rfl (by decide) rfl ?_
  refine nameX_C N1 rfl (.head _) hcell ?_
  have esz := es_size he
  refine ⟨a, dx, es, n, _, rfl, hh, F1, N1, .tail _ ma, nm, by rw [sizeLine_eq]; omega, fun s₂ hs₂ => ?_⟩
  obtain ⟨h2, rfl⟩ := hs₂
  obtain ⟨led1, hled1⟩ : ∃ led1, led1 = (L1 + 1, oc) :: led := ⟨_, rfl⟩
  rw [← hled1] at N1 ⊢
  refine comp_invT (n := es.size) (fun i ys led' => ys = (kidsOf (kv.take i)).map (fun p => Value.ref p.2) ∧ ∀ p ∈ led1, p ∈ led') ?_ ?_ _ 0 [] _ (Nat.zero_add _) ⟨rfl, fun p hp => hp⟩
  · rintro i ys led' v I oI C oC D m₂ h10 tk10 E' hi ⟨rfl, kp⟩ ⟨e, he1, rfl⟩ hC hm F10 N10 off dis
    obtain ⟨⟨k, ent⟩, hp, ⟨t, hkey⟩, hval⟩ := he.get (by rw [Array.getElem?_toList]; exact he1)
    rw [hkey] at hm
    have hkm := List.mem_of_getElem? hp
    have et : kv.take (i + 1) = kv.take i ++ [(k, ent)] := by rw [List.take_add_one, hp]; rfl
    iterate 13 walk1
    · rename _ = true => hin
      rename News _ _ _ _ => N12
      rename Fr g1 _ _ _ => F12
      have hk' : k = kWhole ∨ k = kBelow := by
        simp only [List.any_cons, List.any_nil, Bool.or_false, Bool.or_eq_true, beq_iff_eq] at hin
        exact hin.imp (fun e => e.symm) fun e => e.symm
      refine LCg.CompEnd.intro F12 N12 led' (fun q hq => .tail _ hq) off (kp _ (by rw [hled1]; exact .tail _ ma)) ⟨?_, kp⟩
      rw [et, kidsOf_append]
      cases ent with
      | kid x => exact (hk'.elim (hk1 _ x hkm).1 (hk1 _ x hkm).2).elim
      | mark m => show _ = (kidsOf (kv.take i) ++ []).map _; rw [List.append_nil]
    · rename _ = false => hin
      rename News _ _ _ _ => N12
      rename Fr g1 _ _ _ => F12
      have hk' : k ≠ kWhole ∧ k ≠ kBelow := by
        simp only [List.any_cons, List.any_nil, Bool.or_false, Bool.or_eq_false_iff, beq_eq_false_iff_ne] at hin
        exact ⟨fun e => hin.1 e.symm, fun e => hin.2 e.symm⟩
      obtain ⟨x, rfl⟩ : ∃ x, ent = .kid x := by
        cases ent with
        | kid x => exact ⟨x, rfl⟩
        | mark m => exact ((hk2 _ m hkm).elim hk'.1 hk'.2).elim
      have ma12 : (a, nodeObj dx es n) ∈ led' := kp _ (by rw [hled1]; exact .tail _ ma)
      have mc : (L1 + 1, oc) ∈ led' := kp _ (by rw [hled1]; exact .head _)
      iterate 1 walk1
      refine lcf_cell (v := .ref a) N12 (by rfl) (.tail _ (.tail _ (.tail _ (.tail _ mc)))) hcell ?_ (by rfl) (by rfl)
      iterate 1 walk1
      refine tail_gen (sp_getitem X1 F12.keep (N12 _ (.tail _ (.tail _ (.tail _ (.tail _ ma12))))).1) (node_get X1 F12.keep nm (N12 _ (.tail _ (.tail _ (.tail _ (.tail _ ma12))))).1 (es_all he) (fun v hv => ?_) fun hno => ?_) (by with_unfolding_all rfl)
      · rcases es_find (k := k) he with ⟨_, q2⟩ | ⟨e', ent', q1, q2, q3⟩
        · rw [lookup_of_mem hnd hkm] at q2; cases q2
        · rw [lookup_of_mem hnd hkm] at q2
          obtain rfl := Option.some.inj q2
          rw [q1] at hv
          obtain rfl := Option.some.inj hv
          have q4 : e'.val = .ref x := q3
          show LCg.CompEnd _ _ _ _ _ _ _ _ _ _ _ _ e'.val _
          rw [q4]
          refine LCg.CompEnd.intro F12 N12 led' (fun q hq => .tail _ hq) off ma12 ⟨?_, kp⟩
          rw [et, kidsOf_append, List.map_append]
          rfl
      · rcases es_find (k := k) he with ⟨_, q2⟩ | ⟨e', ent', q1, _, _⟩
        · rw [lookup_of_mem hnd hkm] at q2; cases q2
        · rw [q1] at hno; cases hno
  · rintro ys led' ⟨rfl, kp⟩ D h11 tk11 F11 N11 off
    have e1 : kv.take es.size = kv := by rw [esz, List.take_length]
    rw [e1] at N11
    iterate 1 walk1
    exact hQ _ _ _ _ (by assumption) (by assumption) ⟨fun p hp => .tail _ (kp _ (by rw [hled1]; exact .tail _ hp)), D, _, _, rfl, .head _, rfl⟩
end

theorem ints_snoc {x : Int} {t : Tok} : ∀ {vs : List Value} {ns : List Int}, IntsAre vs ns → IntsAre (vs ++ [.int x t]) (ns ++ [x])
  | _, _, .nil => .cons x t .nil
  | _, _, .cons n t' h => .cons n t' (ints_snoc h)
theorem kidsOf_len : ∀ kv : KV, (kidsOf kv).length ≤ kv.length
  | [] => Nat.le_refl _
  | (_, .kid _) :: r => Nat.succ_le_succ (kidsOf_len r)
  | (_, .mark _) :: r => Nat.le_succ_of_le (kidsOf_len r)
section
theorem count_turn {w : World} {S : List Nd} {N0 d0 : Nat} {fz : List Str → Bool} {PD : List Addr} (ok : TreeOk S N0) (hN : N0 ≤ 900) {nd : Nd} {led : Led} (hnd : nd ∈ S) (TT : TreeIn w led S fz PD)
    (ih : ∀ c ∈ S, c.path.length = nd.path.length + 1 → ∀ led', TreeIn w led' S fz PD → DoesC PG w (30 + d0) (.ref 313) [.ref c.a] led' (fun v led'' => (∀ p ∈ led', p ∈ led'') ∧ ∃ t, v = .int (cntB S c.path : Nat) t)):
    DoesC PG w (40 + d0) (.ref 313) [.ref nd.a] led (fun v led' => (∀ p ∈ led, p ∈ led') ∧ ∃ t, v = .int (cntB S nd.path : Nat) t) := by
  obtain ⟨es, n, ma, he, nm⟩ := TT.nodes nd hnd
  intro A h₀ L m s Q E cx F N hQ; obtain ⟨A₀, base, outer, env, p, loose, mean, mg, mb, B, hA, hf, hk, X, T, hh, hd, hu, hC⟩ := cx
  walk_at "enter"; intro g1 L1 h1 FG F1 N1 B1 X1 T1; (try dsimp only)
  have cx1 : ∀ e : Env, e.frame = some L1 → e.scope.kind = .function → Cx w (A.deeper e) g1 L1 (39 + d0) := fun e i1 i2 => cx_deeper (e := e) B1 i1 i2 X1 T1 hh (by omega) (by omega) hC FG.keep (d := 39 + d0)
  change Fr g1 L1 h1 (fun y => List.lookup y [(Str.ofString "node", Value.ref nd.a)]) at F1
  refine regen (hp := h1) (g := s.gens) (d := s.drawn) (os := s.os) fun tk1 => ?_
  iterate 8 walk1
  refine LCg.ListComp_U (cl := []) F1 (by with_unfolding_all rfl) (by decide) rfl (by decide) rfl ?_
  iterate 7 walk1
  refine wpAny_call ((floors_call (w := w) ma he nm (ok.keys nd hnd) (fun k x h => (ok.kids nd hnd k x h).2) (fun k n h => ok.marks nd hnd k n h) (Nat.le_trans (ok.size nd hnd) hN)).then (s := ⟨_, _, _, _, _⟩) ((cx1 _ rfl rfl).less (by omega)) F1 N1 ?_)
  rintro v led5 h5 tk5 F5 N5 ⟨k5, l, vs, c5, rfl, ml, hvs⟩
  have esz : vs.size = (kidsOf nd.kv).length := by rw [← Array.length_toList, hvs, List.length_map]
  have kl : (kidsOf nd.kv).length ≤ 900 := Nat.le_trans (kidsOf_len _) (Nat.le_trans (ok.size nd hnd) hN)
  refine LCg.CompSrc.ledger hh F5 N5 ml (by rw [sizeLine_eq]; omega) fun g9 => ?_
  have TT5 : TreeIn w led5 S fz PD := TT.mono fun p hp _ => k5 p hp
  refine comp_inv (n := vs.size) (fun i ys led' => IntsAre ys (((kidsOf nd.kv).take i).map fun p => (cntB S (nd.path ++ [p.1]) : Int)) ∧ ∀ p ∈ led5, p ∈ led') ?_ ?_ _ 0 [] _ (Nat.zero_add _) ⟨.nil, fun p hp => hp⟩
  · rintro i ys led' v I oI C oC D m₂ h10 tk10 E' hi ⟨hys, kp⟩ hv hC' hm F10 N10 off dis
    have hv' : vs.toList[i]? = some v := by rw [Array.getElem?_toList]; exact hv
    rw [hvs, List.getElem?_map] at hv'
    obtain ⟨⟨k', x⟩, hkx, rfl⟩ := Option.map_eq_some_iff.mp hv'
    obtain ⟨⟨c, hc, hcx, hcp⟩, _⟩ := ok.kids nd hnd k' x (mem_kidsOf.mp (List.mem_of_getElem? hkx))
    dsimp only at hm
    rw [← hcx] at hm
    iterate 8 walk1
    have TT6 : TreeIn w ((I, oI) :: (C, oC) :: (D, LCg.lst ys) :: led') S fz PD := TT5.mono fun p hp _ => .tail _ (.tail _ (.tail _ (kp p hp)))
    refine wpAny_call ((ih c hc (by rw [hcp, List.length_append]; rfl) _ TT6).then (s := ⟨_, _, _, _, _⟩) ((cx1 _ rfl rfl).less (by omega)) F10 N10 ?_)
    rintro v led7 h12 tk12 F12 N12 ⟨k12, t12, rfl⟩
    show LCg.CompEnd _ _ _ _ _ _ _ _ _ _ _ _ _ _
    refine LCg.CompEnd.intro F12 N12 led' k12 off (.inr ⟨_, kp _ ml, rfl, _, rfl⟩) ⟨?_, kp⟩
    have et : (kidsOf nd.kv).take (i + 1) = (kidsOf nd.kv).take i ++ [(k', x)] := by rw [List.take_add_one, hkx]; rfl
    rw [et, List.map_append, hcp]
    exact ints_snoc hys
  · rintro ys led' ⟨hys, kp⟩ D h11 tk11 F11 N11 off
    iterate 1 walk1
    rw [esz, List.take_length] at hys
    refine LSm.sum_ints (s := ⟨_, _, _, _, _⟩) F11 N11 hh (News.isList N11 (.head _)) hys fun h12 tk12 t12 F12 N12 => ?_
    have es2 : ((kidsOf nd.kv).map fun p => (cntB S (nd.path ++ [p.1]) : Int)).sum = (((kidsOf nd.kv).map fun p => cntB S (nd.path ++ [p.1])).sum : Nat) := by
      generalize kidsOf nd.kv = K
      induction K with
      | nil => rfl
      | cons p r ih => simp only [List.map_cons, List.sum_cons, ih]; omega
    have ec := count_step ok hnd
    have es3 : (1 : Int) + ((kidsOf nd.kv).map fun p => (cntB S (nd.path ++ [p.1]) : Int)).sum = (cntB S nd.path : Nat) := by rw [es2, ec]; omega
    iterate 2 walk1
    rw [es3]
    exact hQ _ _ _ _ (by assumption) (by assumption) ⟨fun p hp => .tail _ (kp _ (k5 p hp)), _, rfl⟩
theorem count_call {w : World} {S : List Nd} {N0 : Nat} {fz : List Str → Bool} {PD : List Addr} (ok : TreeOk S N0) (hN : N0 ≤ 900) : ∀ (k : Nat) (nd : Nd) (led : Led), nd ∈ S → (∀ c ∈ S, c.path.length ≤ nd.path.length + k) → TreeIn w led S fz PD →
    DoesC PG w (40 + 10 * k) (.ref 313) [.ref nd.a] led (fun v led' => (∀ p ∈ led, p ∈ led') ∧ ∃ t, v = .int (cntB S nd.path : Nat) t)
  | 0, nd, led, hnd, hk, TT => count_turn (d0 := 0) ok hN hnd TT fun c hc e => by have := hk c hc; omega
  | k + 1, nd, led, hnd, hk, TT => by
    have := count_turn (d0 := 10 * (k + 1)) ok hN hnd TT fun c hc e led' TT' => by
      have := count_call ok hN k c led' hc (fun c' hc' => by have := hk c' hc'; omega) TT'
      rw [show 40 + 10 * k = 30 + 10 * (k + 1) by omega] at this
      exact this
    exact this
end

theorem TreeIn.congr {w : World} {led : Led} {S : List Nd} {fz fz' : List Str → Bool} {PD : List Addr} (h : TreeIn w led S fz PD) (e : ∀ nd ∈ S, fz' nd.path = fz nd.path) : TreeIn w led S fz' PD :=
  ⟨h.nodes, fun nd hn hz => h.opens nd hn (by rw [← e nd hn]; exact hz), fun nd hn hz => h.shuts nd hn (by rw [← e nd hn]; exact hz), h.apart, h.pd⟩
theorem TabGood.mono {led led' : Led} (h : TabGood led) (k1 : ∀ ps, (150, tabObj ps) ∈ led → (150, tabObj ps) ∈ led') (k2 : ∀ p ∈ led, TNon p.2 → p ∈ led') : TabGood led' := by
  obtain ⟨ps, h1, h2⟩ := h
  refine ⟨ps, k1 _ h1, h2.imp id ?_⟩
  rintro ⟨c', oc', vs, t, e, h3, h4, h5⟩
  exact ⟨c', oc', vs, t, e, k2 _ h3 (.inr (.inr (.inr ⟨vs, t, h4, h5⟩))), h4, h5⟩
theorem tab_ne {led : Led} {g h : Heap} {L : Addr} (N : News g L h led) (T : TabGood led) {p : Addr × Obj} (hp : p ∈ led) (ht : TObj p.2) : p.1 ≠ 150 := by
  obtain ⟨ps, h1, h2⟩ := T
  refine led_ne N hp h1 fun e => ?_
  rcases ht with ⟨dx, es, m, h⟩ | h | ⟨fd, h⟩ | ⟨x, h⟩ | ⟨vs, t, h, h3⟩
  · rw [e] at h; have := congrArg Obj.cls h; cases this
  · rw [e] at h; cases h
  · rw [e] at h; cases h
  · rw [e] at h; cases h
  · rw [e] at h
    cases h
    rcases h2 with rfl | ⟨c', oc', vs', t', rfl, _⟩
    · cases h3
    · cases h3
theorem TreeIn.freeze {w : World} {led led' : Led} {g h : Heap} {L : Addr} {S : List Nd} {N0 : Nat} {fz : List Str → Bool} {PD : List Addr} (ok : TreeOk S N0) (NW : News g L h led) (T : TreeIn w led S fz PD) (TG : TabGood led) {nd : Nd} (hnd : nd ∈ S) (hz : fz nd.path = false)
    (k : ∀ p ∈ led, p.1 ≠ nd.dx → p.1 ≠ 150 → p ∈ led') {of : Obj} (hf : Frz w led' nd.a nd.dx of) : TreeIn w led' S (fun q => fz q || q == nd.path) PD := by
  have hdx := T.opens nd hnd hz
  have kN : ∀ p ∈ led, TObj p.2 → p.2 ≠ emptyDict → p ∈ led' := fun p hp ht hn => k p hp (led_ne NW hp hdx hn) (tab_ne NW TG hp ht)
  refine ⟨fun c hc => ?_, fun c hc hz' => ?_, fun c hc hz' => ?_, T.apart, fun a ha => ?_⟩
  · obtain ⟨es, n, h1, h2, h3⟩ := T.nodes c hc
    exact ⟨es, n, kN _ h1 (.inl ⟨_, _, _, rfl⟩) (fun e => by have := congrArg Obj.cls e; cases this), h2, h3⟩
  · obtain ⟨z1, z2⟩ := Bool.or_eq_false_iff.mp hz'
    have h1 := T.opens c hc z1
    refine k _ h1 (fun e => ?_) (tab_ne NW TG h1 (.inr (.inl rfl)))
    have : c = nd := by
      obtain ⟨i, hi, ei⟩ := List.getElem_of_mem hc
      obtain ⟨j, hj, ej⟩ := List.getElem_of_mem hnd
      have hij : i = j := by
        have := ok.dxs
        rw [List.nodup_iff_pairwise_ne, List.pairwise_map, List.pairwise_iff_getElem] at this
        rcases Nat.lt_trichotomy i j with y | y | y
        · exact absurd (by rw [ei, ej]; exact e) (this i j hi hj y)
        · exact y
        · exact absurd (by rw [ei, ej]; exact e.symm) (this j i hj hi y)
      subst hij
      exact ei.symm.trans ej
    rw [this] at z2
    simp at z2
  · by_cases e : c.path = nd.path
    · rw [ok.same hc hnd e]; exact ⟨of, hf⟩
    · have z1 : fz c.path = true := by
        cases z : fz c.path with
        | true => rfl
        | false => rw [z, Bool.false_or, beq_iff_eq] at hz'; exact absurd hz' e
      obtain ⟨of', hs, tf, fn, cl, c', o, oc, oc', e', h1, h2, h3, h4, gg⟩ := T.shuts c hc z1
      obtain ⟨g1, g2, g3, g4⟩ := id gg
      refine ⟨of', hs, tf, fn, cl, c', o, oc, oc', e', kN _ h1 (.inr (.inl rfl)) (fun e => ?_), kN _ h2 (.inr (.inr (.inl g1))) (fun e => ?_), kN _ h3 (.inr (.inr (.inr (.inl ⟨_, g2⟩)))) (fun e => ?_), kN _ h4 (.inr (.inr (.inr (.inr g3)))) (fun e => ?_), gg⟩
      · have := congrArg Obj.data e; cases this
      · obtain ⟨fd, g1⟩ := g1; dsimp only at e; rw [e] at g1; cases g1
      · dsimp only at e; rw [e] at g2; cases g2
      · obtain ⟨vs, t, g3, _⟩ := g3; dsimp only at e; rw [e] at g3; cases g3
  · have h1 := T.pd a ha
    refine k _ h1 (fun e => T.apart nd hnd ?_) (tab_ne NW TG h1 (.inr (.inl rfl)))
    have e' : a = nd.dx := e
    rw [← e']; exact ha
theorem tab_cls {led : Led} {g h : Heap} {L : Addr} (N : News g L h led) (T : TabGood led) {p : Addr × Obj} (hp : p ∈ led) (hc : p.2.cls = .type "list" ∨ p.2.cls = .type "list_iterator" ∨ p.2.cls = .ref 253 ∨ p.2.cls = .ref 85) : p.1 ≠ 150 := by
  obtain ⟨ps, h1, _⟩ := T
  refine led_ne N hp h1 fun e => ?_
  rw [e] at hc
  rcases hc with h | h | h | h
  · cases h
  · cases h
  · cases h
  · cases h
theorem dx_ne {w : World} {led : Led} {g h : Heap} {L : Addr} {S : List Nd} {fz : List Str → Bool} {PD : List Addr} (N : News g L h led) (T : TreeIn w led S fz PD) {p : Addr × Obj} (hp : p ∈ led) (hc : p.2.cls ≠ .type "dict") : ∀ c ∈ S, p.1 ≠ c.dx := fun c hcS => by
  cases hz : fz c.path with
  | false => exact cls_ne N hp (T.opens c hcS hz) hc
  | true =>
    obtain ⟨of, hs, tf, fn, cl, c', o, oc, oc', e, h1, _⟩ := T.shuts c hcS hz
    exact cls_ne N hp h1 hc
/-- what a freezing turn leaves frozen -/
def fzTo (fz : List Str → Bool) (nd : Nd) (i : Nat) (q : List Str) : Bool := fz q || ((kidsOf nd.kv).take i).any fun p => (nd.path ++ [p.1]).isPrefixOf q
theorem fzTo_end {S : List Nd} {N : Nat} (ok : TreeOk S N) {nd : Nd} (hnd : nd ∈ S) (fz : List Str → Bool) {i : Nat} (hi : (kidsOf nd.kv).length ≤ i) : ∀ c ∈ S, (fz c.path || nd.path.isPrefixOf c.path) = (fzTo fz nd i c.path || c.path == nd.path) := fun c hc => by
  unfold fzTo
  rw [List.take_of_length_le hi, Bool.or_assoc]
  congr 1
  rw [Bool.eq_iff_iff, Bool.or_eq_true, List.isPrefixOf_iff_prefix, beq_iff_eq, List.any_eq_true]
  constructor
  · intro hp
    by_cases he : c.path = nd.path
    · exact .inr he
    · refine .inl ?_
      obtain ⟨t, ht⟩ := hp
      cases t with
      | nil => rw [List.append_nil] at ht; exact absurd ht.symm he
      | cons k0 r =>
        have pre0 : (nd.path ++ [k0]) <+: c.path := ⟨r, by rw [← ht]; simp⟩
        obtain ⟨c1, h1, e1⟩ := List.mem_map.mp (ok.closed _ c hc rfl _ pre0)
        obtain ⟨p1, hp1, k1, e2, hk1⟩ := ok.up c1 h1 (by intro z; rw [z] at e1; cases hh : nd.path <;> rw [hh] at e1 <;> cases e1)
        have e3 : c1.path = nd.path ++ [k0] := e1
        rw [e3] at e2
        obtain ⟨e4, e5⟩ := List.append_inj' e2 rfl
        obtain rfl : k0 = k1 := (List.cons.inj e5).1
        have e6 : p1 = nd := ok.same hp1 hnd e4.symm
        subst e6
        exact ⟨(k0, c1.a), mem_kidsOf.mpr hk1, List.isPrefixOf_iff_prefix.mpr pre0⟩
  · rintro (⟨p, _, hp⟩ | e)
    · exact (List.prefix_append _ _).trans (List.isPrefixOf_iff_prefix.mp hp)
    · rw [e]; exact List.prefix_refl _
theorem fzTo_next {fz : List Str → Bool} {nd : Nd} {i : Nat} {k : Str} {x : Addr} (h : (kidsOf nd.kv)[i]? = some (k, x)) (q : List Str) : fzTo fz nd (i + 1) q = (fzTo fz nd i q || (nd.path ++ [k]).isPrefixOf q) := by
  unfold fzTo
  rw [List.take_add_one, h, List.any_append, Bool.or_assoc]
  simp
theorem fzTo_off {fz : List Str → Bool} {nd : Nd} {i : Nat} {k : Str} {x : Addr} (kn : (nd.kv.map (·.1)).Nodup) (h : (kidsOf nd.kv)[i]? = some (k, x)) {q : List Str} (hq : (nd.path ++ [k]) <+: q) (hz : fz q = false) : fzTo fz nd i q = false := by
  unfold fzTo
  rw [hz, Bool.false_or, List.any_eq_false]
  rintro ⟨k', x'⟩ hm hp
  have hp := List.isPrefixOf_iff_prefix.mp hp
  have e : nd.path ++ [k'] = nd.path ++ [k] := List.prefix_of_prefix_length_le hp hq (by simp) |>.eq_of_length (by simp)
  have ek : k' = k := (List.cons.inj (List.append_cancel_left e)).1
  obtain ⟨j, hj, ej⟩ := List.getElem_of_mem hm
  rw [List.getElem_take] at ej
  have lj : j < i := by rw [List.length_take] at hj; omega
  have n2 := kidsOf_nodup kn
  obtain ⟨hi, ei⟩ := List.getElem?_eq_some_iff.mp h
  rw [List.nodup_iff_pairwise_ne, List.pairwise_map, List.pairwise_iff_getElem] at n2
  have := n2 j i (by omega) hi lj
  rw [ej, ei] at this
  exact this ek
theorem ov2_set1 {m : Str → Option Value} {x y : Str} {a c d : Option Value} : (fun z => if z = x then a else ov2 m x c y d z) = ov2 m x a y d := by
  funext z
  unfold ov2
  by_cases e1 : z = x
  · subst e1; rw [if_pos rfl, if_pos rfl]
  · simp only [e1, if_false]
theorem callWithR {M : Model} {A : Around} {E : Value → Shared → Prop} {s : Shared} {pos : Pos} {Q : Value → Shared → Prop} {f v : Value} (h : wpAny M A (keeperOf f) (fun k s₂ => (k = .machine ∨ k = .frame) ∧ wpAny M A (call f [v]) Q E s₂) E s) :
    wpAny M A (callWith pos f [v] [] []) Q E s := by
  unfold callWith
  refine wpAny_bind (wpAny_holding ?_)
  have e : evalArgs f true [] [] = pure ⟨[], []⟩ := rfl
  rw [e]
  refine wpAny_pure (wpAny_bind (wpAny_standAt ?_))
  simp only [List.any_nil, Bool.or_false]
  have tail : ∀ {t : Sem Value} {s₁ : Shared}, wpAny M A t Q E s₁ → wpAny M A (t >>= fun r => holding [r] point >>= fun _ => pure r) Q E s₁ :=
    fun ht => wpAny_bind (wpAny_mono ht (fun r s₂ hr => wpAny_bind (wpAny_holding (wpAny_point (wpAny_pure hr)))) fun _ _ x => x)
  refine wpAny_bind (wpAny_mono h (fun k s₂ h₂ => ?_) fun _ _ z => z)
  obtain ⟨rfl | rfl, h₂⟩ := h₂
  · exact tail h₂
  · exact tail (wpAny_keep h₂)
theorem pk_keeper155 (w : World) (prog : Program) : ∃ k, peek (Mine.hd.heap_1 w.params) ⟨prog, w.params⟩ (keeperOf (.ref 155)) = some k ∧ (k = .machine ∨ k = .frame) := ⟨.frame, by kernel_rfl, .inr rfl⟩
theorem fzTo_self {fz : List Str → Bool} {nd : Nd} {i : Nat} (hz : fz nd.path = false) : fzTo fz nd i nd.path = false := by
  unfold fzTo
  rw [hz, Bool.false_or, List.any_eq_false]
  rintro ⟨k', x'⟩ _ hp
  have := (List.isPrefixOf_iff_prefix.mp hp).length_le
  simp at this
  omega
section
theorem shut_turn {w : World} {S : List Nd} {N0 d0 : Nat} {PD : List Addr} (ok : TreeOk S N0) (hN : N0 ≤ 900) {nd : Nd} {led : Led} {fz : List Str → Bool} (hnd : nd ∈ S) (TT : TreeIn w led S fz PD) (TG : TabGood led) (hz : ∀ c ∈ S, nd.path <+: c.path → fz c.path = false)
    (ih : ∀ c ∈ S, c.path.length = nd.path.length + 1 → ∀ led' fz', TreeIn w led' S fz' PD → TabGood led' → (∀ c' ∈ S, c.path <+: c'.path → fz' c'.path = false) → DoesC PG w (30 + d0) (.ref 320) [.ref c.a] led' (fun v led'' => v = .none ∧ TreeIn w led'' S (fun q => fz' q || c.path.isPrefixOf q) PD ∧ TabGood led'' ∧ ∀ p ∈ led', (∀ c ∈ S, p.1 ≠ c.dx) → p.1 ≠ 150 → p ∈ led'')) :
    DoesC PG w (40 + d0) (.ref 320) [.ref nd.a] led (fun v led' => v = .none ∧ TreeIn w led' S (fun q => fz q || nd.path.isPrefixOf q) PD ∧ TabGood led' ∧ ∀ p ∈ led, (∀ c ∈ S, p.1 ≠ c.dx) → p.1 ≠ 150 → p ∈ led') := by
  obtain ⟨es, n, ma, he, nm⟩ := TT.nodes nd hnd
  intro A h₀ L m s Q E cx F N hQ; obtain ⟨A₀, base, outer, env, p, loose, mean, mg, mb, B, hA, hf, hk, X, T, hh, hd, hu, hC⟩ := cx
  walk_at "enter"; intro g1 L1 h1 FG F1 N1 B1 X1 T1; (try dsimp only)
  have cx1 : ∀ e : Env, e.frame = some L1 → e.scope.kind = .function → Cx w (A.deeper e) g1 L1 (39 + d0) := fun e i1 i2 => cx_deeper (e := e) B1 i1 i2 X1 T1 hh (by omega) (by omega) hC FG.keep (d := 39 + d0)
  change Fr g1 L1 h1 (fun y => List.lookup y [(Str.ofString "node", Value.ref nd.a)]) at F1
  refine regen (hp := h1) (g := s.gens) (d := s.drawn) (os := s.os) fun tk1 => ?_
  iterate 1 walk1
  refine wpAny_For ?_
  iterate 7 walk1
  refine wpAny_call ((floors_call (w := w) ma he nm (ok.keys nd hnd) (fun k x h => (ok.kids nd hnd k x h).2) (fun k n h => ok.marks nd hnd k n h) (Nat.le_trans (ok.size nd hnd) hN)).then (s := ⟨_, _, _, _, _⟩) ((cx1 _ rfl rfl).less (by omega)) F1 N1 ?_)
  rintro v led5 h5 tk5 F5 N5 ⟨k5, l, vs, c5, rfl, ml, hvs⟩
  have TT5 : TreeIn w led5 S fz PD := TT.mono fun p hp _ => k5 p hp
  have TG5 : TabGood led5 := TG.mono (fun ps h => k5 _ h) fun p hp _ => k5 p hp
  have esz : vs.size = (kidsOf nd.kv).length := by rw [← Array.length_toList, hvs, List.length_map]
  refine iter_list (s := ⟨_, _, _, _, _⟩) F5 N5 ml fun It h6 F6 N6 l6 => ?_
  obtain ⟨m0, hm0, F6⟩ := name_map F6
  refine loop_list (items := vs) (n := c5) hh (fun i led₁ m₁ => ∃ fv, m₁ = ov2 m0 (Str.ofString "floor") fv (Str.ofString "node") (some (.ref nd.a)) ∧ TreeIn w led₁ S (fzTo fz nd i) PD ∧ TabGood led₁ ∧ ∀ p ∈ led5, (∀ c ∈ S, p.1 ≠ c.dx) → p.1 ≠ 150 → p ∈ led₁) led5 (fun q hq => Nat.ne_of_lt (l6 q hq)) ?_ ?_ F6 N6 (.head _) ?_ ?_ ?_
  · rintro i led₁ led₂ m₁ fr ⟨fv, rfl, T1', G1', kp⟩
    exact ⟨fv, rfl, T1'.mono fun p hp ht => fr _ hp (.inr (ht.notIt (by decide) (by decide))), G1'.mono (fun ps h => fr _ h (.inr (.inl fun e => by cases e))) fun p hp ht => fr _ hp (.inr ((TObj.notIt (.inr ht)) (by decide) (by decide))), fun q hq h1 h2 => fr _ (kp q hq h1 h2) (.inl hq)⟩
  · rintro i led₁ m₁ ⟨fv, rfl, T1', G1', kp⟩
    exact kp _ ml (dx_ne N5 TT5 ml (show Value.type "list" ≠ Value.type "dict" by decide)) (tab_cls N5 TG5 ml (.inl rfl))
  · refine ⟨none, ?_, (TT5.congr fun c _ => ?_).mono fun p hp _ => .tail _ hp, TG5.mono (fun ps h => .tail _ h) fun p hp _ => .tail _ hp, fun q hq _ _ => .tail _ hq⟩
    · rw [hm0]
      funext v
      unfold ov2
      by_cases e1 : v = Str.ofString "floor"
      · subst e1; rfl
      · by_cases e2 : v = Str.ofString "node"
        · subst e2; rfl
        · simp only [e1, e2, if_false]
    · unfold fzTo; simp
  · rintro i v led₁ m₁ h13 tk13 hv ⟨fv, rfl, T1', G1', kp⟩ F13 N13 mI13 PP EE hPP
    have hv' : vs.toList[i]? = some v := by rw [Array.getElem?_toList]; exact hv
    rw [hvs, List.getElem?_map] at hv'
    obtain ⟨⟨k', x⟩, hkx, rfl⟩ := Option.map_eq_some_iff.mp hv'
    obtain ⟨⟨c, hc, hcx, hcp⟩, _⟩ := ok.kids nd hnd k' x (mem_kidsOf.mp (List.mem_of_getElem? hkx))
    clear F1 N1 F5 F6
    subst hm0
    dsimp only
    rw [← hcx]
    iterate 12 walk1
    rename News _ _ _ _ => N14
    rename Fr g1 _ _ _ => F14
    refine wpAny_call ((ih c hc (by rw [hcp, List.length_append]; rfl) _ _ T1' G1' (fun c' hc' hp => ?_)).then (s := ⟨_, _, _, _, _⟩) ((cx1 _ rfl rfl).less (by omega)) F14 N14 ?_)
    · rw [hcp] at hp
      exact fzTo_off (ok.keys nd hnd) hkx hp (hz c' hc' ((List.prefix_append _ _).trans hp))
    rintro v led7 h15 tk15 F15 N15 ⟨rfl, T2, G2, k2⟩
    iterate 1 walk1
    refine hPP _ _ ⟨_, _, _, _, rfl, F15, N15, k2 _ mI13 (dx_ne N14 T1' mI13 (show Value.type "list_iterator" ≠ Value.type "dict" by decide)) (tab_cls N14 G1' mI13 (.inr (.inl rfl))), _, ov2_set1, T2.congr (fun c' _ => by rw [fzTo_next hkx, hcp]), G2, fun q hq h1 h2 => k2 _ (kp q hq h1 h2) h1 h2⟩
  · rintro h13 tk13 led13 m13 F13 N13 ⟨fv, rfl, T1', G1', kp⟩
    clear F1 N1 F5 F6
    subst hm0
    dsimp only
    iterate 4 walk1
    obtain ⟨es', n', ma', he', nm'⟩ := T1'.nodes nd hnd
    refine node_method (s := ⟨_, _, _, _, _⟩) ((cx1 _ rfl rfl).less (d' := 1) (by omega)) F13 N13 ma' (T1'.opens nd hnd (fzTo_self (hz nd hnd (List.prefix_refl _)))) fun tk14 => ?_
    simp only [backTo, starEach, List.map_nil]
    refine callWithR ?_
    obtain ⟨kk, hpk, hkk⟩ := pk_keeper155 w PG
    refine lookFrom (Looks.of_peek X1 hpk) F13.keep ⟨hkk, ?_⟩
    refine wpAny_call (freeze_call (s := ⟨_, _, _, _, _⟩) ((cx1 _ rfl rfl).less (by omega)) F13 N13 ma' (T1'.opens nd hnd (fzTo_self (hz nd hnd (List.prefix_refl _)))) G1' fun fn cl c' o oc oc' hs tf led' h' tk' F15 N15 z1 z2 z3 z4 z5 z6 z7 => ?_)
    iterate 1 walk1
    refine leaveK_ F15 N15 fun F18 N18 => hQ _ _ _ _ F18 N18 ⟨rfl, ?_, z6, fun p hp h1 h2 => z7 _ (kp _ (k5 _ hp) h1 h2) (h1 nd hnd) h2⟩
    refine (TreeIn.freeze ok N13 T1' G1' hnd (fzTo_self (hz nd hnd (List.prefix_refl _))) z7 (of := frzObj hs tf fn) ⟨hs, tf, fn, cl, c', o, oc, oc', rfl, z1, z2, z3, z4, z5⟩).congr fun c hc => fzTo_end ok hnd fz (by omega) c hc
theorem shut_call {w : World} {S : List Nd} {N0 : Nat} {PD : List Addr} (ok : TreeOk S N0) (hN : N0 ≤ 900) : ∀ (k : Nat) (nd : Nd) (led : Led) (fz : List Str → Bool), nd ∈ S → (∀ c ∈ S, c.path.length ≤ nd.path.length + k) → TreeIn w led S fz PD → TabGood led → (∀ c ∈ S, nd.path <+: c.path → fz c.path = false) →
    DoesC PG w (40 + 10 * k) (.ref 320) [.ref nd.a] led (fun v led' => v = .none ∧ TreeIn w led' S (fun q => fz q || nd.path.isPrefixOf q) PD ∧ TabGood led' ∧ ∀ p ∈ led, (∀ c ∈ S, p.1 ≠ c.dx) → p.1 ≠ 150 → p ∈ led')
  | 0, nd, led, fz, hnd, hk, TT, TG, hz => shut_turn (d0 := 0) ok hN hnd TT TG hz fun c hc e => by have := hk c hc; omega
  | k + 1, nd, led, fz, hnd, hk, TT, TG, hz => by
    have := shut_turn (d0 := 10 * (k + 1)) ok hN hnd TT TG hz fun c hc e led' fz' TT' TG' hz' => by
      have := shut_call ok hN k c led' fz' hc (fun c' hc' => by have := hk c' hc'; omega) TT' TG' hz'
      rw [show 40 + 10 * k = 30 + 10 * (k + 1) by omega] at this
      exact this
    exact this
end

theorem fill_iadd : fillsInplaceSlot (.type "list") "add" true = pure false := by
  simp only [fillsInplaceSlot, PySem.F.slot_list_iadd.lookup, pure_bind]
  rfl
theorem seq_iadd : seqSlot? (.type "list") (dunderI "add") = pure (some (.builtin "list.__iadd__")) := PySem.seqSlot_of PySem.F.slot_list_iadd.lookup (by decide +kernel)
theorem iadd_led {prog : Program} {w : World} {A : Around} {E : Value → Shared → Prop} {g : Heap} {L : Addr} {m : Str → Option Value} {led : Led} {s : Shared} {l b : Addr} {its its2 : Array Value} {n n2 : Nat} {Q : Value → Shared → Prop} (F : Fr g L s.heap m) (N : News g L s.heap led) (ml : (l, lobj its n) ∈ led) (mb : (b, lobj its2 n2) ∈ led) (hsz : its.size + its2.size ≤ 1000)
    {o' : Obj} (ho' : Obj.mapSeq (fun x => x ++ its2) (lobj its n) = o') (hf : o'.isFreed = false) (hne : (!its.isEmpty && Builtin.List.listTooLong (its.size + its2.size)) = false)
    (hq : ∀ h', Fr g L h' m → News g L h' (setL led l o') → Q (.ref l) { s with heap := h' }) : wpAny (model prog w) A (inplaceOp .Add (.ref l) (.ref b)) Q E s := by
  have ho := (N _ ml).1
  have hT : s.TypeIs (.ref l) "list" := ⟨_, ho, rfl⟩
  have hTb : s.TypeIs (.ref b) "list" := ⟨_, (N _ mb).1, rfl⟩
  obtain ⟨F', N'⟩ := upd_led (o' := o') F N ml ho' hf
  unfold inplaceOp
  refine wpAny_holding (wpAny_bind (wpAny_typeOf hT ?_))
  refine wpAny_bind (PySem.wpAny_of_eq fill_iadd ?_)
  rw [if_neg Bool.false_ne_true]
  refine wpAny_bind (PySem.wpAny_binaryOp1_none (nm := "add") hT hTb PySem.noFill_list_add ?_)
  refine wpAny_bind (PySem.wpAny_of_eq seq_iadd ?_)
  refine wpAny_bind (wpAny_rule ?_)
  refine call_meets PySem.F.slot_list_iadd hT PySem.F.entry_list_iadd (PySem.F.args_list_iadd_2 _ _) (PySem.AutoSeq1.list___iadd___list_list_0 l its n b its2 n2 (by rw [hne]; decide) (by rw [sizeLine_eq]; omega) (by rw [sizeLine_eq]; omega)) ⟨ho, (N _ mb).1, ?_⟩
  exact hq _ F' N'
theorem not_shp_z {r : List Str} : ¬ Shp (Str.ofString "z" :: r) := by
  rintro (h | ⟨h, ps, hh, _, e⟩)
  · cases h
  · have e1 := (List.cons.inj e).1
    rcases hh with rfl | rfl <;> exact absurd e1 (by decide)
theorem Cur.lost {w : World} {mk : Mk} {PD : List Addr} {rt : Addr} {P : List (List Str)} {N : Nat} {led : Led} {q : List Str} {a : Addr} (C : Cur w true mk PD rt P N led q a) (hq : q ∉ P) : ∃ dx, (a, nodeObj dx #[] 0) ∈ led ∧ (a == sysModules) = false := by
  obtain ⟨S, rfl, _, _, _, _, ⟨nd, hnd, rfl, rfl⟩ | ⟨_, _, dx, ha, hdx, nm, hna⟩⟩ := C
  · exact (hq (List.mem_map.mpr ⟨nd, hnd, rfl⟩)).elim
  · exact ⟨dx, ha, nm⟩
theorem one_ok (x dx : Addr) : TreeOk [⟨[], x, dx, []⟩] 0 where
  root := .head _
  paths := by simp
  addrs := by simp
  dxs := by simp
  keys := fun nd h => by rw [List.mem_singleton.mp h]; exact List.nodup_nil
  kids := fun nd h k x hk => by rw [List.mem_singleton.mp h] at hk; cases hk
  up := fun c h hc => by rw [List.mem_singleton.mp h] at hc; exact (hc rfl).elim
  marks := fun nd h k n hk => by rw [List.mem_singleton.mp h] at hk; cases hk
  size := fun nd h => by rw [List.mem_singleton.mp h]; exact Nat.le_refl _
theorem one_in {w : World} {led : Led} {x dx : Addr} {PD : List Addr} (h1 : (x, nodeObj dx #[] 0) ∈ led) (h2 : (dx, emptyDict) ∈ led) (nm : (x == sysModules) = false) (hd : dx ∉ PD) (hp : ∀ a ∈ PD, (a, emptyDict) ∈ led) : TreeIn w led [⟨[], x, dx, []⟩] (fun _ => false) PD where
  nodes := fun nd h => by rw [List.mem_singleton.mp h]; exact ⟨_, _, h1, trivial, nm⟩
  opens := fun nd h _ => by rw [List.mem_singleton.mp h]; exact h2
  shuts := fun nd h z => by cases z
  apart := fun nd h => by rw [List.mem_singleton.mp h]; exact hd
  pd := hp
theorem Cur.start {w : World} {led : Led} {x dx : Addr} {PD : List Addr} (h1 : (x, nodeObj dx #[] 0) ∈ led) (h2 : (dx, emptyDict) ∈ led) (nm : (x == sysModules) = false) (hd : dx ∉ PD) (hp : ∀ a ∈ PD, (a, emptyDict) ∈ led) : Cur w false (fun _ _ _ => none) PD x [[]] 0 led [] x := by
  refine ⟨_, rfl, one_ok x dx, ?_, one_in h1 h2 nm hd hp, ⟨_, .head _, rfl, rfl⟩, .inl ⟨_, .head _, rfl, rfl⟩⟩
  intro h ps key _ _
  refine ⟨fun nd hn _ => ?_, fun _ => rfl⟩
  rw [List.mem_singleton.mp hn]; rfl
theorem fresh_call {w : World} {mk : Mk} {PD : List Addr} {rt : Addr} {P : List (List Str)} {N0 : Nat} {led : Led} (C0 : Cur w true mk PD rt P N0 led [] rt) (hN : N0 ≤ 880) (hP : ∀ q ∈ P, Shp q) :
    DoesC PG w 80 (.ref 327) [.ref rt] led (fun v led' => v = .bool true ∧ (∀ p ∈ led, NN p.2 → p ∈ led') ∧ Cur w true mk PD rt P (N0 + 20) led' [] rt) := by
  intro A h₀ L m s Q E cx F N hQ; obtain ⟨A₀, base, outer, env, p, loose, mean, mg, mb, B, hA, hf, hk, X, T, hh, hd, hu, hC⟩ := cx
  walk_at "enter"; intro g1 L1 h1 FG F1 N1 B1 X1 T1; (try dsimp only)
  have cx1 : ∀ e : Env, e.frame = some L1 → e.scope.kind = .function → Cx w (A.deeper e) g1 L1 79 := fun e i1 i2 => cx_deeper (e := e) B1 i1 i2 X1 T1 hh (by omega) (by omega) hC FG.keep (d := 79)
  change Fr g1 L1 h1 (fun y => List.lookup y [(Str.ofString "tree", Value.ref rt)]) at F1
  refine regen (hp := h1) (g := s.gens) (d := s.drawn) (os := s.os) fun tk1 => ?_
  iterate 14 walk1
  refine cur_tail (s := ⟨_, _, _, _, _⟩) ((cx1 _ rfl rfl).less (by omega)) F1 N1 C0 (k := Str.ofString "z") (by decide) (by omega) fun a1 led1 h10 tk10 F10 N10 C1 k1 => ?_
  iterate 2 walk1
  have ne1 : ∀ r, Str.ofString "z" :: r ∉ P := fun r h => not_shp_z (hP _ h)
  refine cur_tail (s := ⟨_, _, _, _, _⟩) ((cx1 _ rfl rfl).less (by omega)) F10 N10 C1 (k := Str.ofString "/q") (by decide) (by omega) fun a2 led2 h11 tk11 F11 N11 C2 k2 => ?_
  clear F1 N1 F10 N10
  obtain ⟨dx2, ma2, nm2⟩ := C2.lost (ne1 _)
  iterate 1 walk1
  refine node_len (s := ⟨_, _, _, _, _⟩) ((cx1 _ rfl rfl).less (d' := 1) (by omega)) F11 N11 ma2 nm2 (by decide) fun t12 tk12 => ?_
  iterate 8 walk1
  refine cur_tail (s := ⟨_, _, _, _, _⟩) ((cx1 _ rfl rfl).less (by omega)) F11 N11 C2.home (k := Str.ofString "z") (by decide) (by omega) fun a3 led3 h13 tk13 F13 N13 C3 k3 => ?_
  obtain ⟨dx3, ma3, nm3⟩ := C3.lost (ne1 [])
  clear F11 N11
  iterate 1 walk1
  refine node_len (s := ⟨_, _, _, _, _⟩) ((cx1 _ rfl rfl).less (d' := 1) (by omega)) F13 N13 ma3 nm3 (by decide) fun t14 tk14 => ?_
  iterate 6 walk1
  rename News _ _ _ _ => N15
  rename Fr g1 _ _ _ => F15
  rename_i l0 h15 lt15
  have fl3 : ∀ p ∈ led3, p.1 ≠ l0 := fun p hp => Nat.ne_of_lt (lt15 p hp)
  refine wpAny_call ((tree_call (w := w)).then (s := ⟨_, _, _, _, _⟩) ((cx1 _ rfl rfl).less (by omega)) F15 N15 ?_)
  rintro v led4 h16 tk16 F16 N16 ⟨x, dx, rfl, rfl, fr, ne, nm⟩
  clear F15 N15
  iterate 24 walk1
  rename News _ _ _ _ => N17
  rename Fr g1 _ _ _ => F17
  rename_i h17 ltD
  generalize hled17 : ((_, _) :: (x, nodeObj dx #[] 0) :: _ : Led) = led17 at N17
  have mx17 : (x, nodeObj dx #[] 0) ∈ led17 := by rw [← hled17]; exact .tail _ (.head _)
  have md17 : (dx, emptyDict) ∈ led17 := by rw [← hled17]; exact .tail _ (.tail _ (.head _))
  have ml17 : (l0, lobj #[Value.int (Array.size (#[] : Array DictEntry)) t12, Value.int (Array.size (#[] : Array DictEntry)) t14] 0) ∈ led17 := by rw [← hled17]; exact .tail _ (.tail _ (.tail _ (.head _)))
  have k17 : ∀ p ∈ led3, p ∈ led17 := by rw [← hled17]; exact fun p hp => .tail _ (.tail _ (.tail _ (.tail _ hp)))
  have fx3 : ∀ p ∈ led3, p.1 ≠ x := fun p hp => (fr p (.tail _ hp)).1
  clear hled17
  have all0 : (Array.all (#[] : Array DictEntry) fun e => isExactStrKey e.key) = true := by simp
  refine tail_gen (sp_getitem X1 F17.keep (N17 _ mx17).1) (node_sub (es := #[]) (n := 0) (dx := dx) (s := ⟨_, _, _, _, _⟩) ((cx1 _ rfl rfl).less (by omega)) F17 N17 mx17 md17 all0 (by decide) nm (fun e h' tk' he _ _ => by cases he) fun _ x1 dx1 hs1 h18 tk18 F18 N18 fr1 ne1' nm1 => ?_) (by with_unfolding_all rfl)
  clear F17
  iterate 3 walk1
  rename News g1 L1 h18 _ => N18
  refine tail_gen (sp_getitem X1 F18.keep (N18 _ (.head _)).1) (node_sub (es := #[]) (n := 0) (dx := dx1) (s := ⟨_, _, _, _, _⟩) ((cx1 _ rfl rfl).less (by omega)) F18 N18 (.head _) (.tail _ (.head _)) all0 (by decide) nm1 (fun e h' tk' he _ _ => by cases he) fun _ x2 dx2' hs2 h19 tk19 F19 N19 fr2 ne2 nm2' => ?_) (by with_unfolding_all rfl)
  clear F18
  iterate 2 walk1
  rename News g1 L1 h19 _ => N19
  refine node_len (s := ⟨_, _, _, _, _⟩) ((cx1 _ rfl rfl).less (d' := 1) (by omega)) F19 N19 (.head _) nm2' (by decide) fun t20 tk20 => ?_
  have T17 : TreeIn w led17 [⟨[], x, dx, []⟩] (fun _ => false) [] := one_in mx17 md17 nm (fun h => by cases h) (fun a h => by cases h)
  have T18 := T17.addKid (one_ok x dx) N17 (.head _) mx17 trivial fr1 ne1' nm1 (k := Str.ofString "z") (t := tk) (hs := hs1)
  have O18 : TreeOk (addKid [⟨[], x, dx, []⟩] [] (Str.ofString "z") x1 dx1) 1 := (one_ok x dx).addKid (.head _) (by simp) (by decide) (fun h => (fr1 _ mx17).1 (List.mem_singleton.mp h).symm) (fun h => (fr1 _ md17).2 (List.mem_singleton.mp h).symm)
  have mem1 : (⟨[Str.ofString "z"], x1, dx1, []⟩ : Nd) ∈ addKid [⟨[], x, dx, []⟩] [] (Str.ofString "z") x1 dx1 := List.mem_append_right _ (.head _)
  have mx18 : (x, nodeObj dx #[⟨hs1, .str (Str.ofString "z") tk, .ref x1⟩] (0 + 1)) ∈ (x1, nodeObj dx1 #[] 0) :: (dx1, emptyDict) :: setL led17 x (nodeObj dx #[⟨hs1, .str (Str.ofString "z") tk, .ref x1⟩] (0 + 1)) := .tail _ (.tail _ (mem_setL_self mx17))
  have k18 : ∀ p ∈ led17, p.1 ≠ x → p ∈ (x1, nodeObj dx1 #[] 0) :: (dx1, emptyDict) :: setL led17 x (nodeObj dx #[⟨hs1, .str (Str.ofString "z") tk, .ref x1⟩] (0 + 1)) := fun p hp hn => .tail _ (.tail _ (mem_setL hp hn))
  have T19 := T18.addKid O18 N18 mem1 (.head _) trivial fr2 ne2 nm2' (k := Str.ofString "/q") (t := tk18) (hs := hs2)
  have O19 : TreeOk (addKid (addKid [⟨[], x, dx, []⟩] [] (Str.ofString "z") x1 dx1) [Str.ofString "z"] (Str.ofString "/q") x2 dx2') 2 := by
    refine O18.addKid (List.mem_map.mpr ⟨_, mem1, rfl⟩) ?_ (by decide) ?_ ?_
    · unfold addKid; rw [List.map_append, mod_path]; simp
    · unfold addKid; rw [List.map_append, mod_a]; simp
      exact ⟨fun h => (fr2 _ mx18).1 h.symm, fun h => (fr2 _ (.head _)).1 h.symm⟩
    · unfold addKid modNd; simp
      exact ⟨fun h => (fr2 _ (k18 _ md17 ne)).2 h.symm, fun h => (fr2 _ (.tail _ (.head _))).2 h.symm⟩
  have mx19 := List.Mem.tail (x2, nodeObj dx2' #[] 0) (.tail (dx2', emptyDict) (mem_setL (o' := nodeObj dx1 #[⟨hs2, .str (Str.ofString "/q") tk18, .ref x2⟩] (0 + 1)) mx18 (fr1 _ mx17).1))
  have md19 := List.Mem.tail (x2, nodeObj dx2' #[] 0) (.tail (dx2', emptyDict) (mem_setL (o' := nodeObj dx1 #[⟨hs2, .str (Str.ofString "/q") tk18, .ref x2⟩] (0 + 1)) (k18 _ md17 ne) (fr1 _ md17).1))
  have m119 := List.Mem.tail (x2, nodeObj dx2' #[] 0) (.tail (dx2', emptyDict) (mem_setL_self (a := x1) (o := nodeObj dx1 #[] 0) (o' := nodeObj dx1 #[⟨hs2, .str (Str.ofString "/q") tk18, .ref x2⟩] (0 + 1)) (.head ((dx1, emptyDict) :: setL led17 x (nodeObj dx #[⟨hs1, .str (Str.ofString "z") tk, .ref x1⟩] (0 + 1))))))
  have k19 := fun p hp (hn : p.1 ≠ x) => List.Mem.tail (x2, nodeObj dx2' #[] 0) (.tail (dx2', emptyDict) (mem_setL (o' := nodeObj dx1 #[⟨hs2, .str (Str.ofString "/q") tk18, .ref x2⟩] (0 + 1)) (k18 p hp hn) (fr1 _ hp).1))
  generalize hled19 : ((x2, nodeObj dx2' #[] 0) :: (dx2', emptyDict) :: _ : Led) = led19 at N19
  have T19 : TreeIn w led19 (addKid (addKid [⟨[], x, dx, []⟩] [] (Str.ofString "z") x1 dx1) [Str.ofString "z"] (Str.ofString "/q") x2 dx2') (fun _ => false) [] := by rw [← hled19]; exact T19
  have mx19 : (x, nodeObj dx #[⟨hs1, .str (Str.ofString "z") tk, .ref x1⟩] (0 + 1)) ∈ led19 := by rw [← hled19]; exact mx19
  have md19 : (dx, emptyDict) ∈ led19 := by rw [← hled19]; exact md19
  have m119 : (x1, nodeObj dx1 #[⟨hs2, .str (Str.ofString "/q") tk18, .ref x2⟩] (0 + 1)) ∈ led19 := by rw [← hled19]; exact m119
  have k19 : ∀ p ∈ led17, p.1 ≠ x → p ∈ led19 := by rw [← hled19]; exact k19
  clear hled19 N17 N18 T17 T18 mx18 k18
  iterate 8 walk1
  have one1 : (Array.all #[(⟨hs1, .str (Str.ofString "z") tk, .ref x1⟩ : DictEntry)] fun e => isExactStrKey e.key) = true := by simp [isExactStrKey]
  refine tail_gen (sp_getitem X1 F19.keep (N19 _ mx19).1) (node_sub (es := #[⟨hs1, .str (Str.ofString "z") tk, .ref x1⟩]) (n := 0 + 1) (dx := dx) (s := ⟨_, _, _, _, _⟩) ((cx1 _ rfl rfl).less (by omega)) F19 N19 mx19 md19 one1 (Nat.le_of_ble_eq_true rfl) nm (fun e h' tk' he F20 N20 => ?_) fun hno => ?_) (by with_unfolding_all rfl)
  rotate_left
  · exfalso; revert hno; simp [Value.isStr]
  have ee : e.val = .ref x1 := by
    have hm := Array.mem_of_find?_eq_some he
    have hm' : e = ⟨hs1, .str (Str.ofString "z") tk, .ref x1⟩ := by simpa using hm
    rw [hm']
  rw [ee]
  clear F19 N19 he
  iterate 1 walk1
  refine node_len (s := ⟨_, _, _, _, _⟩) ((cx1 _ rfl rfl).less (d' := 1) (by omega)) F20 N20 m119 nm1 (Nat.le_of_ble_eq_true rfl) fun t21 tk21 => ?_
  iterate 2 walk1
  rename News _ _ _ _ => N21
  rename Fr g1 _ _ _ => F21
  have ml19 := k19 _ ml17 (fun e => (fr _ (.head _)).1 e)
  have nl : ∀ p ∈ led19, TObj p.2 → p.1 ≠ l0 := fun p hp ht => led_ne N21 (.tail _ hp) (.tail _ ml19) (ht.ne_seq (by decide))
  refine iadd_led (s := ⟨_, _, _, _, _⟩) F21 N21 (.tail _ (k19 _ ml17 (fun e => (fr _ (.head _)).1 e))) (.head _) (Nat.le_of_ble_eq_true rfl) (o' := lobj #[.int 0 t12, .int 0 t14, .int 0 t20, .int 1 t21] 1) rfl rfl rfl fun h22 F22 N22 => ?_
  iterate 18 walk1
  rename News _ _ _ _ => N23
  rename Fr g1 _ _ _ => F23
  refine ke_eq_ints (News.isList N23 (.tail _ (mem_setL_self (.tail _ (k19 _ ml17 (fun e => (fr _ (.head _)).1 e)))))) (News.isList N23 (.head _)) (xs := [.int 0 t12, .int 0 t14, .int 0 t20, .int 1 t21]) (ns := [0, 0, 0, 1]) (ms := [0, 0, 0, 1]) (.cons _ _ (.cons _ _ (.cons _ _ (.cons _ _ .nil)))) (.cons _ _ (.cons _ _ (.cons _ _ (.cons _ _ .nil)))) ?_ ?_
  · walk_at "room"
  iterate 11 walk1
  obtain ⟨c1, hc1, p1, a1e, _⟩ := addKid_keep (q := []) (k := Str.ofString "z") (x := x1) (dx := dx1) (List.Mem.head (a := (⟨[], x, dx, []⟩ : Nd)) [])
  obtain ⟨c2, hc2, p2, a2e, _⟩ := addKid_keep (q := [Str.ofString "z"]) (k := Str.ofString "/q") (x := x2) (dx := dx2') hc1
  have hp2 : c2.path = [] := p2.trans p1
  have ha2 : x = c2.a := (a2e.trans a1e).symm
  have hlen : (addKid (addKid [⟨[], x, dx, []⟩] [] (Str.ofString "z") x1 dx1) [Str.ofString "z"] (Str.ofString "/q") x2 dx2').length = 3 := by unfold addKid modNd; simp
  have hmax : ∀ c ∈ addKid (addKid [⟨[], x, dx, []⟩] [] (Str.ofString "z") x1 dx1) [Str.ofString "z"] (Str.ofString "/q") x2 dx2', c.path.length ≤ c2.path.length + 2 := fun c hc => by
    have hm : c.path ∈ (addKid (addKid [⟨[], x, dx, []⟩] [] (Str.ofString "z") x1 dx1) [Str.ofString "z"] (Str.ofString "/q") x2 dx2').map (·.path) := List.mem_map.mpr ⟨c, hc, rfl⟩
    unfold addKid at hm
    rw [List.map_append, mod_path, List.map_append, mod_path] at hm
    simp at hm
    rcases hm with e | e | e <;> rw [e] <;> simp
  obtain ⟨led23, k23, N23⟩ : ∃ led23, (∀ p ∈ led19, p.1 ≠ l0 → p ∈ led23) ∧ News g1 L1 _ led23 := ⟨_, fun p hp hn => List.Mem.tail _ (mem_setL (.tail _ hp) hn), N23⟩
  have T23 := T19.mono (led' := led23) fun p hp ht => k23 p hp (nl p hp ht)
  rw [ha2]
  refine wpAny_call ((count_call (w := w) O19 (by omega) 2 c2 _ hc2 hmax T23).then (s := ⟨_, _, _, _, _⟩) ((cx1 _ rfl rfl).less (by omega)) F23 N23 ?_)
  rw [hp2, count_all, hlen]
  rintro v led24 h24 tk24 F24 N24 ⟨k24, t24, rfl⟩
  iterate 3 walk1
  have kk : ∀ p ∈ led3, p ∈ led24 := fun p hp => k24 _ (k23 _ (k19 _ (k17 _ hp) (fx3 p hp)) (fl3 p hp))
  exact hQ _ _ _ _ (by assumption) (by assumption) ⟨rfl, fun p hp hc => kk _ (k3 _ (k2 _ (k1 _ hp hc) hc) hc), C3.home.mono (fun p hp _ => kk p hp) (by omega)⟩

section
variable {prog : Program} {w : World} {A : Around} {E : Value → Shared → Prop} {s : Shared} {h₀ : Heap} {L : Addr} {m : Str → Option Value} {env : Env}
/-- what a turn of a comprehension with a test comes to -/
def TestEnd (prog : Program) (w : World) (A : Around) (ct elt : Expr) (ce : Env) (P : Value → Shared → Prop) (P0 : Shared → Prop) (E' : Value → Shared → Prop) (s : Shared) : Prop :=
  wpAny (model prog w) A (isTrue ct ce (eval ct ce)) (fun ok s' => if ok = true then wpAny (model prog w) A (eval elt ce) P E' s' else P0 s') E' s
/-- one turn of a comprehension over pairs -/
def PairTurn (prog : Program) (w : World) (A : Around) (h₀ : Heap) (L : Addr) (m : Str → Option Value) (env : Env) (ct elt : Expr) (x y : Str) (scope : Scope) (cl : List (Str × Addr)) (s : Shared) (J : Nat → List Value → Led → Prop) (i : Nat) (v : Value) : Prop :=
  ∀ ys led, J i ys led → ∃ T v₁ v₂ nt, v = .ref T ∧ (T, ({ cls := .type "tuple", data := .seq #[v₁, v₂] nt } : Obj)) ∈ led ∧
    ∀ I oI C oC D m₂ h tk (E' : Value → Shared → Prop), LCg.NsObj oC m₂ → m₂ x = some v₁ → m₂ y = some v₂ → Fr h₀ L h m → News h₀ L h ((I, oI) :: (C, oC) :: (D, LCg.lst ys) :: led) → LCg.Off3 I C D led → (@Ne Nat I C ∧ @Ne Nat I D ∧ @Ne Nat C D) →
      TestEnd prog w A ct elt (compEnvC scope cl C env) (LCg.CompEnd h₀ L m { s with heap := h, toks := tk } I oI C oC D (LCg.lst ys) (fun _ => True) (fun z led' => J (i + 1) (ys ++ [z]) led'))
        (fun s' => LCg.CompEnd h₀ L m { s with heap := h, toks := tk } I oI C oC D (LCg.lst ys) (fun _ => True) (fun _ led' => J (i + 1) ys led') .none s') E' { s with heap := h, toks := tk }
theorem pair_block {ct elt iter : Expr} {x y : Str} {px py tp : Pos} {tc : Nat} {scope : Scope} {cl : List (Str × Addr)} {pos : Pos} {I ax : Addr} {its : Array Value} {nn : Nat} {led : Led} {Fin : List Value → Led → Prop} {RR : Value → Addr → Result → Shared → Prop} (J : Nat → List Value → Led → Prop)
    (hh : A.handled = none) (hsz : its.size ≤ 1000) (hcell : ∀ z ∈ scope.names, z.2 ≠ .cell) (hkind : scope.kind = .function) (hx : scope.names.lookup x = some .local) (hy : scope.names.lookup y = some .local) (hxy : x ≠ y)
    (F : Fr h₀ L s.heap m) (N : News h₀ L s.heap ((I, lit ax (0 : Nat)) :: led)) (off : ∀ p ∈ led, p.1 ≠ I) (ml : ∀ i ys led', J i ys led' → (ax, lobj its nn) ∈ led') (J0 : J 0 [] led)
    (step : ∀ i v, its[i]? = some v → PairTurn prog w A h₀ L m env ct elt x y scope cl s J i v) (fin : ∀ ys led', J its.size ys led' → Fin ys led')
    (hRR : ∀ D C h tk m' ys led', Fr h₀ L h m → News h₀ L h ((D, LCg.lst ys) :: led') → LCg.Off1 D led' → h.Ns C m' → h₀.get? C = none → C ≠ L → C ≠ D → (∀ p ∈ led', p.1 ≠ C) → Fin ys led' → RR (.ref D) C (.ok .next) { s with heap := h, toks := tk }) :
    wpAny (model prog w) A (newList []) (fun acc s₃ => wpAny (model prog w) A (newFunctionEnv scope env.globals cl [] env.qual none .none (some env)) (fun cenv s₄ =>
      codeAny (model prog w) A (.compStart (.ListComp elt [⟨.Tuple [.Name x px, .Name y py] tc tp, iter, [ct], 0⟩] scope pos) 0 (.ref I) acc { cenv with scope := relabel scope env }) (RR acc cenv.locals) s₄) E s₃) E s := by
  refine wpAny_newObj_type (wpAny_newFunctionEnv hcell (by intro z hz; simp at hz) (fun h₁ hns₁ hsb₁ => ?_) hkind)
  dsimp only at hns₁ hsb₁ ⊢
  obtain ⟨D, hD⟩ : ∃ D, D = s.heap.objs.size := ⟨_, rfl⟩
  obtain ⟨H2, hH2⟩ : ∃ H2, H2 = s.heap.push (LCg.lst []) := ⟨_, rfl⟩
  obtain ⟨F1, N1, l1⟩ := push_led (o := LCg.lst []) rfl F N
  rw [← hH2, ← hD] at N1
  rw [← hH2] at F1
  rw [← hD] at l1
  change h₁.Ns (s.heap.push (LCg.lst [])).objs.size _ at hns₁
  change Heap.SameBut (s.heap.push (LCg.lst [])).objs.size ((s.heap.push (LCg.lst [])).push { cls := .type "dict", data := .dict #[] }) h₁ at hsb₁
  change codeAny _ _ (.compStart _ _ _ (.ref s.heap.objs.size) (compEnvC scope cl (s.heap.push (LCg.lst [])).objs.size env)) (RR (.ref s.heap.objs.size) (s.heap.push (LCg.lst [])).objs.size) _
  rw [← hD]
  rw [← hH2] at hns₁ hsb₁ ⊢
  obtain ⟨F2, N2, l2⟩ := push_led (s := { s with heap := H2 }) (o := { cls := .type "dict", data := .dict #[] }) rfl F1 N1
  dsimp only at F2 N2 l2
  obtain ⟨C, hC⟩ : ∃ C, C = H2.objs.size := ⟨_, rfl⟩
  rw [← hC] at N2 l2 hns₁ hsb₁ ⊢
  obtain ⟨oC, eC, nC⟩ := LCg.ns_obj hns₁
  obtain ⟨F3, N3⟩ := same_led F2 N2 (.head _) hsb₁ eC
  have hDI : D ≠ I := Ne.symm (Nat.ne_of_lt (l1 _ (.head _)))
  have hCI : C ≠ I := Ne.symm (Nat.ne_of_lt (l2 _ (.tail _ (.head _))))
  have hCD : C ≠ D := Ne.symm (Nat.ne_of_lt (l2 _ (.head _)))
  have off0 : LCg.Off3 I C D led := LCg.Off3.of fun p hp => ⟨off p hp, Nat.ne_of_lt (l2 p (.tail _ (.tail _ hp))), Nat.ne_of_lt (l1 p (.tail _ hp))⟩
  have N4 : News h₀ L h₁ ((I, lit ax (0 : Nat)) :: (C, oC) :: (D, LCg.lst []) :: led) := led_sub N3 fun p hp => by
    rcases List.mem_cons.mp hp with rfl | hp
    · exact mem_setL (.tail _ (.tail _ (.head _))) (Ne.symm hCI)
    rcases List.mem_cons.mp hp with rfl | hp
    · exact mem_setL_self (.head _)
    rcases List.mem_cons.mp hp with rfl | hp
    · exact mem_setL (.tail _ (.head _)) (Ne.symm hCD)
    · exact mem_setL (.tail _ (.tail _ (.tail _ hp))) (off0.mem p hp).2.1
  clear N1 N2 N3 F1 F2 l1 l2 hns₁ hsb₁
  have loop : ∀ s₃ : Shared, s₃ = { s with heap := h₁, toks := s.toks + ([] : List (Str × Value)).length } →
      codeAny (model prog w) A (.compLoop (.ListComp elt [⟨.Tuple [.Name x px, .Name y py] tc tp, iter, [ct], 0⟩] scope pos) 0 (.ref I) (.ref D) (compEnvC scope cl C env)) (RR (.ref D) C) s₃ := by
    rintro s₃ rfl
    refine kct_loop (fun k s' => ∃ h' tk i ys led' oC m', s' = { s with heap := h', toks := tk } ∧ i ≤ its.size ∧ k = its.size - i ∧ ys.length ≤ i ∧ Fr h₀ L h' m ∧ LCg.NsObj oC m' ∧ News h₀ L h' ((I, lit ax i) :: (C, oC) :: (D, LCg.lst ys) :: led') ∧ LCg.Off3 I C D led' ∧ J i ys led') ?_ its.size
      ⟨h₁, _, 0, [], led, oC, _, rfl, Nat.zero_le _, rfl, Nat.le_refl _, F3, nC, N4, off0, J0⟩
    rintro k s' ⟨h', tk, i, ys, led', oC', m', rfl, hi, rfl, hyl, F', nC', N', off', hJ⟩
    have max := ml _ _ _ hJ
    by_cases hlt : i < its.size
    · have hv : its[i]? = some its[i] := Array.getElem?_eq_getElem hlt
      obtain ⟨T, v₁, v₂, nt, eT, mT, st⟩ := step i _ hv ys led' hJ
      rw [eT] at hv
      refine lst_next (N' _ (.head _)).1 (N' _ (.tail _ (.tail _ (.tail _ max)))).1 hv ?_
      obtain ⟨F₂, N₂⟩ := upd_led (f := Obj.mapFields fun vs => vs.setIfInBounds 1 (rawInt (i + 1))) (o' := lit ax (i + 1 : Nat)) F' N' (.head _) rfl rfl
      have N₂ : News h₀ L _ ((I, lit ax (i + 1 : Nat)) :: (C, oC') :: (D, LCg.lst ys) :: led') := led_sub N₂ fun p hp => by
        rcases List.mem_cons.mp hp with rfl | hp
        · exact mem_setL_self (.head _)
        refine mem_setL (.tail _ hp) ?_
        rcases List.mem_cons.mp hp with rfl | hp
        · exact hCI
        rcases List.mem_cons.mp hp with rfl | hp
        · exact hDI
        · exact (off'.mem p hp).1
      refine wpAny_letOwnedTupleGo_listiter ⟨_, (N₂ _ (.head _)).1, rfl, rfl⟩ ?_
      refine assign_Tuple_tuple hh ⟨_, (N₂ _ (.tail _ (.tail _ (.tail _ mT)))).1, rfl, nt, rfl⟩ rfl rfl fun h₅ he => ?_
      have he' : ∀ b o, Heap.get? _ b = some o → h₅.get? b = some o := fun b o e => he b o (Nat.ne_of_lt (Heap.lt_size e)) e
      have F₅ := F₂.keeps he'
      have N₅ := N₂.grown he'
      refine assignInOrder_cons (wpAny_assign_Name (wpAny_storeName_local (lookup_relabel_local hx) (nC'.ns (N₅ _ (.tail _ (.head _))).1) (fun h₆ hn₆ hs₆ => ?_) (by simp [compEnvC, relabel, hkind])))
      obtain ⟨oC6, eC6, nC6⟩ := LCg.ns_obj hn₆
      obtain ⟨F₆, N₆⟩ := same_led F₅ N₅ (.tail _ (.head _)) hs₆ eC6
      refine assignInOrder_cons (wpAny_assign_Name (wpAny_storeName_local (lookup_relabel_local hy) (nC6.ns eC6) (fun h₇ hn₇ hs₇ => ?_) (by simp [compEnvC, relabel, hkind])))
      refine assignInOrder_nil ?_
      obtain ⟨oC7, eC7, nC7⟩ := LCg.ns_obj hn₇
      obtain ⟨F₇, N₇⟩ := same_led F₆ N₆ (mem_setL_self (.tail _ (.head _))) hs₇ eC7
      have N₇ : News h₀ L h₇ ((I, lit ax (i + 1 : Nat)) :: (C, oC7) :: (D, LCg.lst ys) :: led') := led_sub N₇ fun p hp => by
        rcases List.mem_cons.mp hp with rfl | hp
        · exact mem_setL (mem_setL (.head _) (Ne.symm hCI)) (Ne.symm hCI)
        rcases List.mem_cons.mp hp with rfl | hp
        · exact mem_setL_self (mem_setL_self (.tail _ (.head _)))
        rcases List.mem_cons.mp hp with rfl | hp
        · exact mem_setL (mem_setL (.tail _ (.tail _ (.head _))) (Ne.symm hCD)) (Ne.symm hCD)
        · exact mem_setL (mem_setL (.tail _ (.tail _ (.tail _ hp))) (off'.mem p hp).2.1) (off'.mem p hp).2.1
      have e1 : its.size - (i + 1) < its.size - i := by omega
      refine wpAny_mono (st I _ C oC7 D _ h₇ _ _ nC7 (by simp [hxy]) (by simp) F₇ N₇ off' ⟨Ne.symm hCI, Ne.symm hDI, hCD⟩) (fun ok s₄ h₄ => ?_) fun _ _ e => e
      cases ok with
      | true =>
        rw [if_pos rfl] at h₄ ⊢
        refine wpAny_mono h₄ (fun z s₅ h₅ => ?_) fun _ _ e => e
        obtain ⟨h₈, tk₈, led₈, rfl, F₈, N₈, off₈, _, hJ₈⟩ := h₅
        refine led_append F₈ N₈ (.tail _ (.tail _ (.head _))) (by rw [List.size_toArray]; omega) fun h₉ F₉ N₉ => ?_
        refine ⟨_, e1, h₉, _, i + 1, ys ++ [z], led₈, oC7, _, rfl, hlt, rfl, by rw [List.length_append, List.length_singleton]; omega, F₉, nC7, led_sub N₉ fun p hp => ?_, off₈, hJ₈⟩
        rcases List.mem_cons.mp hp with rfl | hp
        · exact mem_setL (.head _) (Ne.symm hDI)
        rcases List.mem_cons.mp hp with rfl | hp
        · exact mem_setL (.tail _ (.head _)) hCD
        rcases List.mem_cons.mp hp with rfl | hp
        · have e2 : lobj (ys.toArray.push z) (ys.length + 1) = LCg.lst (ys ++ [z]) := LCg.lst_snoc ys z
          rw [← e2]
          exact mem_setL_self (.tail _ (.tail _ (.head _)))
        · exact mem_setL (.tail _ (.tail _ (.tail _ hp))) (off₈.mem p hp).2.2
      | false =>
        rw [if_neg Bool.false_ne_true] at h₄ ⊢
        obtain ⟨h₈, tk₈, led₈, rfl, F₈, N₈, off₈, _, hJ₈⟩ := h₄
        exact ⟨_, e1, h₈, _, i + 1, ys, led₈, oC7, _, rfl, hlt, rfl, by omega, F₈, nC7, N₈, off₈, hJ₈⟩
    · obtain rfl : i = its.size := by omega
      refine wpAny_pyNext_list_end (i := its.size) hh ⟨_, (N' _ (.head _)).1, rfl, rfl⟩ ⟨_, (N' _ (.tail _ (.tail _ (.tail _ max)))).1, rfl, _, rfl⟩ (Array.getElem?_eq_none (Nat.le_refl _)) fun h₂ up => ?_
      obtain ⟨F₂, N₂⟩ := fr_but F' N' (.head _) up
      have c0 := N' _ (.tail _ (.head _))
      refine hRR D C h₂ tk m' ys led' F₂ (led_sub N₂ fun p hp => ?_) off'.one (nC'.ns (N₂ (C, oC') (List.mem_filter.mpr ⟨.tail _ (.head _), decide_eq_true hCI⟩)).1) c0.2.2 c0.2.1 hCD (fun p hp => (off'.mem p hp).2.1) (fin _ _ hJ)
      rcases List.mem_cons.mp hp with rfl | hp
      · exact List.mem_filter.mpr ⟨.tail _ (.tail _ (.head _)), decide_eq_true hDI⟩
      · exact List.mem_filter.mpr ⟨.tail _ (.tail _ (.tail _ hp)), decide_eq_true (off'.mem p hp).1⟩
  exact codeAny_compStart_list (loop _ rfl) (wpAny_pyIter_listiter ⟨_, (N4 _ (.head _)).1, rfl, rfl⟩ (loop _ rfl))
theorem ListComp_PT {ct elt iter : Expr} {x y : Str} {px py tp : Pos} {tc : Nat} {scope : Scope} {cl : List (Str × Addr)} {pos : Pos} {Q : Value → Shared → Prop} (_F₀ : Fr h₀ L s.heap m)
    (hclos : closureFor scope env = pure cl) (hcell : ∀ z ∈ scope.names, z.2 ≠ .cell) (hkind : scope.kind = .function)
    (hnames : ∀ z ∈ scope.names, z.2 = .local → scope.names.lookup z.1 = some .local) (hx : scope.names.lookup x = some .local) (hy : scope.names.lookup y = some .local) (hxy : x ≠ y) (hh : A.handled = none)
    (h : wpAny (model prog w) A (eval iter env) (fun xv s₁ => ∃ ax its nn led, xv = .ref ax ∧ its.size ≤ 1000 ∧ Fr h₀ L s₁.heap m ∧ News h₀ L s₁.heap led ∧
      ∀ s₂ : Shared, (∃ h, s₂ = { s₁ with heap := h }) → ∃ J : Nat → List Value → Led → Prop, (∀ i ys led', J i ys led' → (ax, lobj its nn) ∈ led') ∧ J 0 [] led ∧ (∀ i v, its[i]? = some v → PairTurn prog w A h₀ L m env ct elt x y scope cl s₂ J i v) ∧
        ∀ ys led', J its.size ys led' → LCg.FinE h₀ L m s₂ Q ys led') E s)
    (hs : ∀ x, foldedSetIterable iter env x = pure x := by intro _; rfl) :
    wpAny (model prog w) A (eval (.ListComp elt [⟨.Tuple [.Name x px, .Name y py] tc tp, iter, [ct], 0⟩] scope pos) env) Q E s := by
  rw [eval_ListComp]
  refine wpAny_comprehension_free (use := none) rfl hs hclos hkind hnames (wpAny_mono h (fun xv s₁ h₁ => ?_) fun _ _ e => e)
  obtain ⟨ax, its, nn, led, rfl, hsz, F, N, R⟩ := h₁
  obtain ⟨hp, g, d, tk, os⟩ := s₁
  obtain ⟨J0, ml0, J00, _, _⟩ := R ⟨hp, g, d, tk, os⟩ ⟨_, rfl⟩
  refine iter_list F N (ml0 _ _ _ J00) fun It h2 F2 N2 l2 => ?_
  obtain ⟨J, ml, J1, step, fin⟩ := R { heap := h2, gens := g, drawn := d, toks := tk, os := os } ⟨_, rfl⟩
  refine pair_block (s := { heap := h2, gens := g, drawn := d, toks := tk, os := os }) J hh hsz hcell hkind hx hy hxy F2 N2 (fun p hp => Nat.ne_of_lt (l2 p hp)) ml J1 step fin fun D C h tk m' ys led' F' N' o1 hn hC₀ hCL hCD offC hf => ?_
  refine ⟨m', hn, fun h'' hs'' => hf D h'' tk (F'.change hs'' hCL hC₀) (fun p hp => ?_) o1⟩
  refine ⟨hs''.extBut _ _ ?_ (N' p hp).1, (N' p hp).2⟩
  rcases List.mem_cons.mp hp with rfl | hp
  · exact Ne.symm hCD
  · exact offC p hp
end

theorem cx_law {w : World} {g : Heap} {e : Env} {L : Addr} {p : Program} {loose : List Str} {mean : ExcName → Option Value} {mg mb : Str → Option Value} (K : Below callerA g [] g) (hf : e.frame = some L) (hk : e.scope.kind = .function) (X : (Mine.hd.heap_1 w.params).In g) (T : Top p loose mean mg mb g) (hC : CodeHd g 154 150) : Cx w (callerA.deeper e) g L 300 :=
  ⟨callerA, g, [], e, p, loose, mean, mg, mb, K, Around.frames_deeper K.stack, hf, hk, X, T, rfl, (show 1 + claimMargin + 1 + 300 < recursionLimit by decide), (show 4 + 3 + 8 * 300 < cLine by decide), hC⟩
theorem ints_all {vs : List Value} {ns : List Int} (h : IntsAre vs ns) : ∀ v ∈ vs, ∃ k t, v = .int k t := by
  induction h with
  | nil => intro v hv; cases hv
  | cons n t _ ih =>
    intro v hv
    rcases List.mem_cons.mp hv with rfl | hv
    · exact ⟨_, _, rfl⟩
    · exact ih v hv
theorem name_led {g h : Heap} {L : Addr} {led : Led} (N : News g L h led) : ∃ led0, led0 = led ∧ News g L h led0 := ⟨led, rfl, N⟩
section
variable {prog : Program} {w : World} {A : Around} {E : Value → Shared → Prop} {g : Heap} {L : Addr} {m : Str → Option Value} {led : Led}
theorem slice_any {h : Heap} {gs : Array GenState} {d : Drawn} {tk : Nat} {os : OsState} {value slice : Expr} {l : Addr} {items : Array Value} {vl vu : Value} {lo hi : Option Int} {zs : List Value} {Q : Value → Shared → Prop} (F : Fr g L h m) (N : News g L h led) (hl : h.IsList l items) (pl : IsPart vl lo) (pu : IsPart vu hi) (hz : slicePick items lo hi none = zs.toArray) (hsz : items.size ≤ 1000)
    (hq : ∀ S h', Fr g L h' m → News g L h' ((S, lobj zs.toArray 0) :: led) → (∀ p ∈ led, p.1 < S) → Q (.ref S) ⟨h', gs, d, tk, os⟩)
    (hs : subscripted slice false (.ref l) (.ref h.objs.size) = operate [.ref h.objs.size, .ref l] (getItem (.ref l) (.ref h.objs.size)) := by with_unfolding_all rfl) :
    wpAny (model prog w) A (subscriptTail value slice (.ref l) (.ref h.objs.size)) Q E ⟨h.push { cls := .type "slice", data := .fields #[vl, vu, .none] }, gs, d, tk, os⟩ := by
  obtain ⟨o, ho, hc, _⟩ := id hl
  have sp : Looks (model prog w) (h.push { cls := .type "slice", data := .fields #[vl, vu, .none] }) (specialOf (.ref l) "__getitem__") (some (.builtin "list.__getitem__")) := (typeAt (Heap.get?_push_of_some _ ho) hc).andThen (Looks.of_pure list_getitem_lookup)
  refine tail_gen sp ?_ hs
  refine wpAny_getItem_list_slice (hl.push _) (Heap.IsSliceOf.new ..) pl pu .none (by simp) ?_ (by rw [sizeLine_eq]; omega)
  obtain ⟨F1, N1, l1⟩ := push_led (s := ⟨h, gs, d, tk, os⟩) (o := { cls := .type "slice", data := .fields #[vl, vu, .none] }) rfl F N
  obtain ⟨F2, N2, l2⟩ := push_led (s := ⟨h.push { cls := .type "slice", data := .fields #[vl, vu, .none] }, gs, d, tk, os⟩) (o := { cls := .type "list", data := .seq (slicePick items lo hi none) }) rfl F1 N1
  rw [hz] at N2 F2 ⊢
  exact hq _ _ F2 (led_sub N2 fun p hp => by
    rcases List.mem_cons.mp hp with rfl | hp
    · exact .head _
    · exact .tail _ (.tail _ hp)) fun p hp => l2 p (.tail _ hp)
end
theorem news_drop1 {g h : Heap} {L : Addr} {a b : Addr × Obj} {led : Led} (N : News g L h (a :: b :: led)) : News g L h (a :: led) := led_sub N fun p hp => by
  rcases List.mem_cons.mp hp with rfl | hp
  · exact .head _
  · exact .tail _ (.tail _ hp)
theorem store_cell {M : Model} {A : Around} {E : Value → Shared → Prop} {s : Shared} {g : Heap} {L : Addr} {m : Str → Option Value} {led : Led} {env : Env} {x : Str} {v : Value} {c : Addr} {o : Obj} {v₀ : Option Value} {Q : Unit → Shared → Prop} (F : Fr g L s.heap m) (N : News g L s.heap led) (hc : env.cells.lookup x = some c) (mc : (c, o) ∈ led) (hd : o.data = .cell v₀)
    (h : ∀ h' o', Fr g L h' m → News g L h' (setL led c o') → (c, o') ∈ setL led c o' → o'.data = .cell (some v) → Q () { s with heap := h' })
    (hk : env.scope.kind = .function := by rfl) (hx : env.kindOf x = some .cell := by rfl) : wpAny M A (storeName env x v) Q E s := by
  refine wpAny_storeName_cell hk hx hc ⟨o, (N _ mc).1, hd⟩ fun h' hv hs => ?_
  obtain ⟨o', ho', hd'⟩ := hv
  obtain ⟨F', N'⟩ := same_led F N mc hs ho'
  exact h h' o' F' N' (mem_setL_self mc) hd'

/-- what the law bears beside its lists and its tree -/
def FO (PD : List Addr) (p : Addr × Obj) : Prop := (∃ v, p.2.data = .cell v) ∨ p.2.cls = .ref 85 ∨ p.2.cls = .ref 253 ∨ p.2.cls = .type "tuple" ∨ (∃ hs t D, p.2 = mgrDict hs t D) ∨ (p.2 = emptyDict ∧ p.1 ∈ PD)
theorem FO.nn {PD : List Addr} {p : Addr × Obj} (h : FO PD p) : NN p.2 := fun dx es n e => by
  rcases h with ⟨v, h⟩ | h | h | h | ⟨hs, t, D, h⟩ | ⟨h, _⟩ <;> rw [e] at h
  · cases h
  · exact absurd (Value.ref.inj h) (by decide)
  · exact absurd (Value.ref.inj h) (by decide)
  · cases h
  · have := congrArg Obj.cls h; cases this
  · have := congrArg Obj.cls h; cases this
theorem FO.ni {PD : List Addr} {p : Addr × Obj} {c : Value} (h : FO PD p) (hc : c = .type "list_iterator" ∨ c = .type "range_iterator") : p.2.cls ≠ c ∨ NotIt p.2 := by
  rcases h with ⟨v, h⟩ | h | h | h | ⟨hs, t, D, h⟩ | ⟨h, _⟩
  · refine .inr fun xs e => ?_
    rw [h] at e; cases e
  · refine .inl ?_; rw [h]; rcases hc with rfl | rfl <;> decide
  · refine .inl ?_; rw [h]; rcases hc with rfl | rfl <;> decide
  · refine .inl ?_; rw [h]; rcases hc with rfl | rfl <;> decide
  · refine .inl ?_; rw [h]; show Value.type "dict" ≠ c; rcases hc with rfl | rfl <;> decide
  · refine .inl ?_; rw [h]; rcases hc with rfl | rfl <;> decide
/-- of all that the law bears: no list -/
def OB (PD : List Addr) (p : Addr × Obj) : Prop := FO PD p ∨ TObj p.2 ∨ ∃ ps, p = (150, tabObj ps)
theorem OB.nl {PD : List Addr} {p : Addr × Obj} {xs : Array Value} {n : Nat} (h : OB PD p) : p.2 ≠ lobj xs n := fun e => by
  rcases h with (⟨v, h⟩ | h | h | h | ⟨hs, t, D, h⟩ | ⟨h, _⟩) | h | ⟨ps, h⟩
  · rw [e] at h; cases h
  · rw [e] at h; cases h
  · rw [e] at h; cases h
  · rw [e] at h; exact absurd (Value.type.inj h) (by decide)
  · rw [e] at h; have := congrArg Obj.data h; cases this
  · rw [e] at h; have := congrArg Obj.data h; cases this
  · exact h.ne_seq (by decide) e
  · rw [h] at e; have := congrArg Obj.data e; cases this
theorem tab_nn {ps : Array Value} : NN (tabObj ps) := fun dx es n e => by have := congrArg Obj.data e; cases this
/-- what a loop's cell holds: nothing yet, or a pair -/
def CellOk (led : Led) (v : Option Value) : Prop := v = none ∨ ∃ a D x y t u, v = some (.ref a) ∧ (a, pairObj D x y t u) ∈ led
structure Fix (led : Led) (PD : List Addr) (L xm : Addr) (lv : List Value) (rs : List Rule) : Prop where
  cm : ∃ o, (L + 1, o) ∈ led ∧ o.data = .cell (some (.ref xm))
  ca : ∃ o v, (L + 1 + 1, o) ∈ led ∧ o.data = .cell v ∧ CellOk led v
  mg : MgrIs led xm
  ps : PairsAre (· ∉ PD) led lv rs
theorem pair_FO {PD : List Addr} {p : Addr × Obj} (h : p.2.cls = .ref 253 ∨ (p.2 = emptyDict ∧ ¬ (p.1 ∉ PD))) : FO PD p := h.elim (fun h => .inr (.inr (.inl h))) fun h => .inr (.inr (.inr (.inr (.inr ⟨h.1, Decidable.not_not.mp h.2⟩))))
theorem row_FO {PD : List Addr} {p : Addr × Obj} (h : p.2.cls = .ref 253 ∨ p.2.cls = .type "tuple" ∨ (p.2 = emptyDict ∧ ¬ (p.1 ∉ PD))) : FO PD p := h.elim (fun h => .inr (.inr (.inl h))) fun h => h.elim (fun h => .inr (.inr (.inr (.inl h)))) fun h => .inr (.inr (.inr (.inr (.inr ⟨h.1, Decidable.not_not.mp h.2⟩))))
theorem Fix.mono {led led' : Led} {PD : List Addr} {L xm : Addr} {lv : List Value} {rs : List Rule} (h : Fix led PD L xm lv rs) (k : ∀ p ∈ led, FO PD p → p ∈ led') : Fix led' PD L xm lv rs where
  cm := by obtain ⟨o, h1, h2⟩ := h.cm; exact ⟨o, k _ h1 (.inl ⟨_, h2⟩), h2⟩
  ca := by obtain ⟨o, v, h1, h2, h3⟩ := h.ca; exact ⟨o, v, k _ h1 (.inl ⟨_, h2⟩), h2, h3.imp id fun ⟨a, D, x, y, t, u, e, hm⟩ => ⟨a, D, x, y, t, u, e, k _ hm (.inr (.inr (.inl rfl)))⟩⟩
  mg := by obtain ⟨dm, hs, t, D, h1, h2⟩ := h.mg; exact ⟨dm, hs, t, D, k _ h1 (.inr (.inl rfl)), k _ h2 (.inr (.inr (.inr (.inr (.inl ⟨_, _, _, rfl⟩)))))⟩
  ps := h.ps.mono (fun p hp hc => k p hp (pair_FO hc)) fun _ _ h => h
section
variable {w : World} {md : Bool} {led led' : Led} {PD : List Addr} {L xm x tl wl rl : Addr} {c : Nat} {vs : Array Value} {rs : List Rule} {T : Rule → Option Nat} {mk : Mk} {P W : List (List Str)} {N i : Nat}
/-- what stands between the law's steps: the tree's ways `P`, the list's ways `W`, the table's rules `T`, the tree's marks `mk` -/
structure LawSt (w : World) (md : Bool) (led : Led) (PD : List Addr) (L xm x tl wl rl : Addr) (c : Nat) (vs : Array Value) (rs : List Rule) (T : Rule → Option Nat) (mk : Mk) (P W : List (List Str)) (N i : Nat) : Prop where
  fx : Fix led PD L xm vs.toList rs
  ru : (rl, lobj vs c) ∈ led
  tg : TabGood led
  tb : ∃ tvs tc tab, (tl, lobj tvs tc) ∈ led ∧ RowsAre (· ∉ PD) led tvs.toList tab ∧ TabOk tab ∧ Told tab T ∧ tvs.size ≤ i
  wy : ∃ wvs wc, (wl, lobj wvs wc) ∈ led ∧ StrsAre wvs.toList (W.map toS)
  tr : Cur w md mk PD x P N led [] x
  hT : ∀ r n, T r = some n → r.2.length ≤ 1000
  hp : ∀ q ∈ P, Shp q ∧ q.length ≤ 17
  hw : ∀ q ∈ W, Shp q ∧ q.length ≤ 17
  d1 : rl ≠ tl
  d2 : rl ≠ wl
  d3 : tl ≠ wl
theorem LawSt.mono (S : LawSt w md led PD L xm x tl wl rl c vs rs T mk P W N i) (k : ∀ p ∈ led, (OB PD p ∨ ∃ xs n, p.2 = lobj xs n) → p ∈ led') : LawSt w md led' PD L xm x tl wl rl c vs rs T mk P W N i where
  fx := S.fx.mono fun p hp h => k p hp (.inl (.inl h))
  ru := k _ S.ru (.inr ⟨_, _, rfl⟩)
  tg := S.tg.mono (fun ps h => k _ h (.inl (.inr (.inr ⟨_, rfl⟩)))) fun p hp h => k p hp (.inl (.inr (.inl (.inr h))))
  tb := by obtain ⟨tvs, tc, tab, h1, h2, h3⟩ := S.tb; exact ⟨tvs, tc, tab, k _ h1 (.inr ⟨_, _, rfl⟩), h2.mono (fun p hp hc => k p hp (.inl (.inl (row_FO hc)))) (fun _ _ h => h), h3⟩
  wy := by obtain ⟨wvs, wc, h1, h2⟩ := S.wy; exact ⟨wvs, wc, k _ h1 (.inr ⟨_, _, rfl⟩), h2⟩
  tr := S.tr.mono (fun p hp h => k p hp (.inl (.inr (.inl h)))) (Nat.le_refl _)
  hT := S.hT
  hp := S.hp
  hw := S.hw
  d1 := S.d1
  d2 := S.d2
  d3 := S.d3
theorem LawSt.free {led0 : Led} {cI : Value} (S : LawSt w md led PD L xm x tl wl rl c vs rs T mk P W N i) (hc : cI = .type "list_iterator" ∨ cI = .type "range_iterator") (fr : IterFree led0 cI led led') : LawSt w md led' PD L xm x tl wl rl c vs rs T mk P W N i :=
  S.mono fun p hp h => fr p hp (.inr (by
    rcases h with (h | h | ⟨ps, h⟩) | ⟨xs, n, h⟩
    · exact h.ni hc
    · rcases hc with rfl | rfl
      · exact h.notIt (by decide) (by decide)
      · exact h.notIt (by decide) (by decide)
    · rw [h]; rcases hc with rfl | rfl <;> exact .inl (fun e => by cases e)
    · rw [h]; rcases hc with rfl | rfl <;> exact .inl (show Value.type "list" ≠ _ by decide)))
theorem put_step {rv : Value} {r : Rule} {n : Nat} {tn : Tok} (S : LawSt w md led PD L xm x tl wl rl c vs rs T mk P W N i) (hr : PairIs (· ∉ PD) led rv r) (hlr : r.2.length ≤ 1000) (hi : i ≤ 6) :
    DoesC PG w 20 (.ref 277) [.ref xm, .ref tl, rv, .int n tn] led (fun v led' => v = .none ∧ LawSt w md led' PD L xm x tl wl rl c vs rs (upT T r n) mk P W N (i + 1) ∧ ∀ p ∈ led, p.1 ≠ tl → p ∈ led') := by
  intro A h₀ L0 m s Q E cx F NW hQ
  obtain ⟨tvs, tc, tab, mt, rows, ok, td, sz⟩ := S.tb
  have hlen : ∀ e ∈ tab, e.1.2.length ≤ 1000 := fun e he => S.hT e.1 e.2 ((td _ _).mp he)
  refine put_call S.fx.mg mt rows hr (by omega) hlen hlr ok td A h₀ L0 m s Q E cx F NW ?_
  rintro v led' h' tk' F' N' ⟨rfl, kp, tvs', c', tab', mt', rows', ok', td', sz'⟩
  have km : ∀ p ∈ led, OB PD p → p ∈ led' := fun p hp h => kp p hp (led_ne NW hp mt h.nl)
  obtain ⟨wvs, wc, mw, sw⟩ := S.wy
  refine hQ _ led' h' tk' F' N' ⟨rfl, ⟨S.fx.mono fun p hp h => km p hp (.inl h), kp _ S.ru S.d1, S.tg.mono (fun ps h => km _ h (.inr (.inr ⟨_, rfl⟩))) (fun p hp h => km p hp (.inr (.inl (.inr h)))), ⟨tvs', c', tab', mt', rows', ok', td', by omega⟩, ⟨wvs, wc, kp _ mw (Ne.symm S.d3), sw⟩,
    S.tr.mono (fun p hp h => km p hp (.inr (.inl h))) (Nat.le_refl _), fun r' n' h => ?_, S.hp, S.hw, S.d1, S.d2, S.d3⟩, kp⟩
  unfold upT at h
  by_cases e : r' = r
  · rw [e]; exact hlr
  · rw [if_neg e] at h; exact S.hT _ _ h
theorem baseOf_len (p : Str) : (baseOf p).length ≤ p.length := by
  unfold baseOf
  split
  · rw [List.length_dropLast]; show p.cps.toList.length - 1 ≤ p.cps.size; simp
  · show p.cps.toList.length ≤ p.cps.size; simp
theorem vis_hp {h : Str} {ps : List Str} {k : Nat} (hP : ∀ q ∈ P, Shp q ∧ q.length ≤ 17) (hh : Host h) (hs : SFs ps) (hl : ps.length ≤ 16) : ∀ q ∈ vis P h ps k, Shp q ∧ q.length ≤ 17 := fun q hq => by
  refine ⟨vis_shp (fun q hq => (hP q hq).1) hh hs q hq, ?_⟩
  rcases vis_mem.mp hq with z | ⟨j, _, rfl⟩
  · exact (hP q z).2
  · rw [List.length_cons, List.length_map, List.length_take]; omega
theorem mark_step {rv : Value} {r : Rule} {n : Nat} {tn : Tok} (S : LawSt w false led PD L xm x tl wl rl c vs rs T mk P P N i) (hr : PairIs (· ∉ PD) led rv r) (gr : GoodRule r) (hN : N ≤ 880) (lP : P.length ≤ 700) :
    DoesC PG w 40 (.ref 296) [.ref x, .ref wl, rv, .int n tn] led (fun v led' => v = .none ∧ (∃ P', P'.length ≤ P.length + 14 ∧ LawSt w false led' PD L xm x tl wl rl c vs rs T (fun h ps key => if h = r.1 ∧ ps = piecesOf (baseOf r.2) ∧ key = keyOf r.2 then some n else mk h ps key) P' P' (N + 20) i) ∧ ∀ p ∈ led, NN p.2 → p.1 ≠ wl → p ∈ led') := by
  intro A h₀ L0 m s Q E cx F NW hQ
  obtain ⟨wvs, wc, mw, sw⟩ := S.wy
  refine mark_call S.tr mw sw hr gr hN (fun q hq => (S.hp q hq).1) lP A h₀ L0 m s Q E cx F NW ?_
  rintro v led' h' tk' F' N' ⟨rfl, kp, C', wvs', wc', mw', sw'⟩
  have km : ∀ p ∈ led, FO PD p → p ∈ led' := fun p hp h => kp p hp h.nn (led_ne NW hp mw (OB.nl (.inl h)))
  have kt : ∀ p ∈ led, TNon p.2 → p ∈ led' := fun p hp h => kp p hp (fun _ _ _ => h.ne_node) (led_ne NW hp mw (OB.nl (PD := PD) (.inr (.inl (.inr h)))))
  obtain ⟨tvs, tc, tab, mt, rows, h3⟩ := S.tb
  have lb : (piecesOf (baseOf r.2)).length ≤ 13 := Nat.le_trans (pieces_len _) (by have := baseOf_len r.2; have := gr.2.2; omega)
  have hp' := vis_hp (k := (piecesOf (baseOf r.2)).length + 1) S.hp gr.1 (pieces_SF (baseOf r.2)) (by omega)
  refine hQ _ led' h' tk' F' N' ⟨rfl, ⟨_, Nat.le_trans (vis_len _ _ _ _) (by omega), S.fx.mono km, kp _ S.ru (nn (show Value.type "list" ≠ Value.ref 158 by decide)) S.d2, S.tg.mono (fun ps h => kp _ h tab_nn (led_ne NW h mw (OB.nl (PD := PD) (.inr (.inr ⟨_, rfl⟩))))) kt,
    ⟨tvs, tc, tab, kp _ mt (nn (show Value.type "list" ≠ Value.ref 158 by decide)) S.d3, rows.mono (fun p hp hc => km p hp (row_FO hc)) (fun _ _ h => h), h3⟩, ⟨wvs', wc', mw', sw'⟩, C', S.hT, hp', hp', S.d1, S.d2, S.d3⟩, kp⟩
theorem Cur.congr {q : List Str} {a : Addr} {mk' : Mk} (C : Cur w md mk PD x P N led q a) (e : ∀ h ps key, SFs ps → (key = kWhole ∨ key = kBelow) → mk' h ps key = mk h ps key) : Cur w md mk' PD x P N led q a := by
  obtain ⟨S, h1, h2, h3, h4⟩ := C
  exact ⟨S, h1, h2, h3.congr e, h4⟩
theorem LawSt.congr {mk' : Mk} (S : LawSt w md led PD L xm x tl wl rl c vs rs T mk P W N i) (e : ∀ h ps key, SFs ps → (key = kWhole ∨ key = kBelow) → mk' h ps key = mk h ps key) : LawSt w md led PD L xm x tl wl rl c vs rs T mk' P W N i :=
  ⟨S.fx, S.ru, S.tg, S.tb, S.wy, S.tr.congr e, S.hT, S.hp, S.hw, S.d1, S.d2, S.d3⟩
end

section
variable {w : World} {md : Bool} {led led' : Led} {PD : List Addr} {L xm x tl wl rl : Addr} {c : Nat} {vs : Array Value} {rs : List Rule} {T : Rule → Option Nat} {mk : Mk} {P W : List (List Str)} {N i : Nat}
theorem way_step {rv : Value} {r : Rule} (S : LawSt w md led PD L xm x tl wl rl c vs rs T mk P W N i) (hr : PairIs (· ∉ PD) led rv r) (gr : GoodQ r) (hN : N ≤ 880) :
    DoesC PG w 40 (.ref 303) [.ref x, rv] led (fun v led' => LawSt w md led' PD L xm x tl wl rl c vs rs T mk (if md then P else vis P r.1 (piecesOf (chs r.2)) ((piecesOf (chs r.2)).length + 1)) W (N + 20) i ∧ (∀ p ∈ led, NN p.2 → p ∈ led') ∧
      ∃ l xs n, v = .ref l ∧ (l, lobj xs n) ∈ led' ∧ IntsAre xs.toList ((fnd mk r.1 (piecesOf (chs r.2)) (piecesOf (chs r.2)).length).map fun n : Nat => (n : Int)) ∧ ∀ p ∈ led, NN p.2 → p.1 ≠ l) := by
  intro A h₀ L0 m s Q E cx F NW hQ
  refine way_call S.tr hr gr hN A h₀ L0 m s Q E cx F NW ?_
  rintro v led' h' tk' F' N' ⟨kp, C', l, xs, n, e, ml, hx, hfr⟩
  have km : ∀ p ∈ led, FO PD p → p ∈ led' := fun p hp h => kp p hp h.nn
  obtain ⟨tvs, tc, tab, mt, rows, h3⟩ := S.tb
  obtain ⟨wvs, wc, mw, sw⟩ := S.wy
  have nl : ∀ {xs : Array Value} {n : Nat}, NN (lobj xs n) := fun {xs n} => nn (show Value.type "list" ≠ Value.ref 158 by decide)
  have lb : (piecesOf (chs r.2)).length ≤ 15 := Nat.le_trans (pieces_len _) (by have := gr.2.2; have e : (chs r.2).length = r.2.length := by show r.2.cps.toList.length = r.2.cps.size; simp
                                                                                omega)
  refine hQ _ led' h' tk' F' N' ⟨⟨S.fx.mono km, kp _ S.ru nl, S.tg.mono (fun ps h => kp _ h tab_nn) (fun p hp h => kp p hp fun _ _ _ => h.ne_node), ⟨tvs, tc, tab, kp _ mt nl, rows.mono (fun p hp hc => km p hp (row_FO hc)) (fun _ _ h => h), h3⟩, ⟨wvs, wc, kp _ mw nl, sw⟩, C', S.hT, ?_, S.hw, S.d1, S.d2, S.d3⟩, kp, l, xs, n, e, ml, hx, hfr⟩
  cases md with
  | true => exact S.hp
  | false => exact vis_hp S.hp gr.1 (pieces_SF _) (by omega)
theorem note_step {h : Str} {th : Tok} {pl : Addr} {pvs : Array Value} {c1 : Nat} {ps : List Str} (S : LawSt w md led PD L xm x tl wl rl c vs rs T mk P W N i) (mp : (pl, lobj pvs c1) ∈ led) (sp : StrsAre pvs.toList ps) (hn : wl ≠ pl) (lp : ∀ p ∈ ps, p.length ≤ 20) (np : ps.length ≤ 16) (hh : Host h) (hs : SFs ps) (lW : W.length ≤ 800) :
    DoesC PG w 20 (.ref 289) [.ref wl, .str h th, .ref pl] led (fun v led' => v = .none ∧ LawSt w md led' PD L xm x tl wl rl c vs rs T mk P (vis W h ps (ps.length + 1)) N i ∧ ∀ p ∈ led, p.1 ≠ wl → p ∈ led') := by
  intro A h₀ L0 m s Q E cx F NW hQ
  obtain ⟨tvs, tc, tab, mt, rows, h3⟩ := S.tb
  obtain ⟨wvs, wc, mw, sw⟩ := S.wy
  refine note_call mw mp sw sp hn lp (by omega) (Nat.le_trans (host_len hh) (by decide)) (by rw [List.length_map]; omega) A h₀ L0 m s Q E cx F NW ?_
  rintro v led' h' tk' F' N' ⟨rfl, kp, wvs', c', mw', sw'⟩
  have km : ∀ p ∈ led, OB PD p → p ∈ led' := fun p hp h => kp p hp (led_ne NW hp mw h.nl)
  rw [note_vis (fun q hq => (S.hw q hq).1) hh hs] at sw'
  exact hQ _ led' h' tk' F' N' ⟨rfl, ⟨S.fx.mono fun p hp h => km p hp (.inl h), kp _ S.ru S.d2, S.tg.mono (fun ps h => km _ h (.inr (.inr ⟨_, rfl⟩))) (fun p hp h => km p hp (.inr (.inl (.inr h)))), ⟨tvs, tc, tab, kp _ mt S.d3, rows.mono (fun p hp hc => km p hp (.inl (row_FO hc))) (fun _ _ h => h), h3⟩, ⟨wvs', c', mw', sw'⟩,
    S.tr.mono (fun p hp h => km p hp (.inr (.inl h))) (Nat.le_refl _), S.hT, S.hp, vis_hp S.hw hh hs np, S.d1, S.d2, S.d3⟩, kp⟩
theorem DoesC.less {prog : Program} {d d' : Nat} {f : Value} {args : List Value} {R : Value → Led → Prop} (D : DoesC prog w d f args led R) (le : d ≤ d') : DoesC prog w d' f args led R := fun A h₀ L m s Q E cx F N hQ => D A h₀ L m s Q E (cx.less le) F N hQ
theorem count_cur (C : Cur w md mk PD x P N led [] x) (hN : N ≤ 900) (hp : ∀ q ∈ P, q.length ≤ 17) : DoesC PG w 240 (.ref 313) [.ref x] led (fun v led' => (∀ p ∈ led, p ∈ led') ∧ ∃ t, v = .int (P.length : Nat) t) := by
  obtain ⟨S, rfl, ok, M, TT, ⟨r, hr, hrp, rfl⟩, _⟩ := C
  have := count_call ok hN 17 r led hr (fun c hc => by rw [hrp]; have := hp c.path (List.mem_map.mpr ⟨c, hc, rfl⟩); simpa using this) TT
  rw [hrp, count_all] at this
  rw [List.length_map]
  exact DoesC.less this (by decide)
theorem FO.n150 {h₀ h : Heap} {L0 : Addr} (NW : News h₀ L0 h led) (TG : TabGood led) {p : Addr × Obj} (hp : p ∈ led) (hf : FO PD p) : p.1 ≠ 150 := by
  obtain ⟨ps, h1, _⟩ := TG
  refine led_ne NW hp h1 fun e => ?_
  rcases hf with ⟨v, h⟩ | h | h | h | ⟨hs, t, D, h⟩ | ⟨h, _⟩ <;> rw [e] at h
  · cases h
  · cases h
  · cases h
  · cases h
  · have := congrArg Obj.cls h; cases this
  · have := congrArg Obj.cls h; cases this
theorem shut_step (S : LawSt w false led PD L xm x tl wl rl c vs rs T mk P W N i) (hN : N ≤ 900) : DoesC PG w 240 (.ref 320) [.ref x] led (fun v led' => v = .none ∧ LawSt w true led' PD L xm x tl wl rl c vs rs T mk P W N i) := by
  intro A h₀ L0 m s Q E cx F NW hQ
  obtain ⟨ns, e1, ok, M, TT, ⟨r, hr, hrp, hra⟩, h5⟩ := S.tr
  have hk : ∀ c ∈ ns, c.path.length ≤ r.path.length + 17 := fun c hc => by
    rw [hrp]; have := (S.hp c.path (e1 ▸ List.mem_map.mpr ⟨c, hc, rfl⟩)).2; simpa using this
  have D := DoesC.less (shut_call ok hN 17 r led (fun _ => false) hr hk TT S.tg (fun _ _ _ => rfl)) (show 40 + 10 * 17 ≤ 240 by decide)
  rw [hra] at D
  refine D A h₀ L0 m s Q E cx F NW ?_
  rintro v led' h' tk' F' N' ⟨rfl, T', G', kp⟩
  have nd : ∀ p ∈ led, p.2 ≠ emptyDict ∨ p.1 ∈ PD → ∀ c ∈ ns, p.1 ≠ c.dx := fun p hp h c hc => by
    rcases h with h | h
    · exact led_ne NW hp (TT.opens c hc rfl) h
    · intro e; exact TT.apart c hc (e ▸ h)
  have nl : ∀ {xs : Array Value} {n : Nat}, lobj xs n ≠ emptyDict := fun {xs n} e => by have := congrArg Obj.data e; cases this
  have nt : ∀ {a : Addr} {xs : Array Value} {n : Nat}, (a, lobj xs n) ∈ led → a ≠ 150 := fun {a xs n} hm => by
    obtain ⟨ps, h1, _⟩ := S.tg
    exact led_ne NW hm h1 fun e => by have := congrArg Obj.data e; cases this
  have kl : ∀ {a : Addr} {xs : Array Value} {n : Nat}, (a, lobj xs n) ∈ led → (a, lobj xs n) ∈ led' := fun {a xs n} hm => kp _ hm (nd _ hm (.inl nl)) (nt hm)
  have km : ∀ p ∈ led, FO PD p → p ∈ led' := fun p hp h => by
    refine kp p hp (nd p hp ?_) (h.n150 NW S.tg hp)
    rcases h with ⟨v, h⟩ | h | h | h | ⟨hs, t, D, h⟩ | ⟨_, h⟩
    · exact .inl fun e => by rw [e] at h; cases h
    · exact .inl fun e => by rw [e] at h; cases h
    · exact .inl fun e => by rw [e] at h; cases h
    · exact .inl fun e => by rw [e] at h; exact absurd (Value.type.inj h) (by decide)
    · exact .inl fun e => by rw [e] at h; have := congrArg Obj.data h; simp at this
    · exact .inr h
  obtain ⟨tvs, tc, tab, mt, rows, h3⟩ := S.tb
  obtain ⟨wvs, wc, mw, sw⟩ := S.wy
  refine hQ _ led' h' tk' F' N' ⟨rfl, S.fx.mono km, kl S.ru, G', ⟨tvs, tc, tab, kl mt, rows.mono (fun p hp hc => km p hp (row_FO hc)) (fun _ _ h => h), h3⟩, ⟨wvs, wc, kl mw, sw⟩, ⟨ns, e1, ok, M, T'.congr fun c hc => ?_, ⟨r, hr, hrp, hra⟩, .inl ⟨r, hr, hrp, hra⟩⟩, S.hT, S.hp, S.hw, S.d1, S.d2, S.d3⟩
  rw [hrp]
  show true = (false || List.isPrefixOf [] c.path)
  simp
theorem fresh_step (S : LawSt w true led PD L xm x tl wl rl c vs rs T mk P W N i) (hN : N ≤ 880) : DoesC PG w 80 (.ref 327) [.ref x] led (fun v led' => v = .bool true ∧ LawSt w true led' PD L xm x tl wl rl c vs rs T mk P W (N + 20) i) := by
  intro A h₀ L0 m s Q E cx F NW hQ
  refine fresh_call S.tr hN (fun q hq => (S.hp q hq).1) A h₀ L0 m s Q E cx F NW ?_
  rintro v led' h' tk' F' N' ⟨rfl, kp, C'⟩
  have km : ∀ p ∈ led, FO PD p → p ∈ led' := fun p hp h => kp p hp h.nn
  obtain ⟨tvs, tc, tab, mt, rows, h3⟩ := S.tb
  obtain ⟨wvs, wc, mw, sw⟩ := S.wy
  have nl : ∀ {xs : Array Value} {n : Nat}, NN (lobj xs n) := fun {xs n} => nn (show Value.type "list" ≠ Value.ref 158 by decide)
  exact hQ _ led' h' tk' F' N' ⟨rfl, S.fx.mono km, kp _ S.ru nl, S.tg.mono (fun ps h => kp _ h tab_nn) (fun p hp h => kp p hp fun _ _ _ => h.ne_node), ⟨tvs, tc, tab, kp _ mt nl, rows.mono (fun p hp hc => km p hp (row_FO hc)) (fun _ _ h => h), h3⟩, ⟨wvs, wc, kp _ mw nl, sw⟩, C', S.hT, S.hp, S.hw, S.d1, S.d2, S.d3⟩
end
theorem allLt_mem {d : Addr} : ∀ {l : Led}, AllLt d l → ∀ p ∈ l, p.1 < d
  | [], _, p, hp => nomatch hp
  | q :: r, h, p, hp => by
    rcases List.mem_cons.mp hp with rfl | hp
    · exact h.1
    · exact allLt_mem h.2 p hp
theorem pairs_PD {X : Addr → Prop} {led : Led} : ∀ {vs : List Value} {rs : List Rule}, PairsAre X led vs rs → ∃ PD : List Addr, (∀ a ∈ PD, (a, emptyDict) ∈ led ∧ ¬ X a) ∧ PairsAre (· ∉ PD) led vs rs
  | [], [], _ => ⟨[], fun a h => (nomatch h), trivial⟩
  | v :: vs, r :: rs, ⟨h, t⟩ => by
    obtain ⟨PD, h1, h2⟩ := pairs_PD t
    obtain ⟨P, D, ta, ua, e, mP, mD, nX⟩ := h
    refine ⟨D :: PD, fun a ha => ?_, ⟨P, D, ta, ua, e, mP, mD, fun h => h (.head _)⟩, h2.mono (fun p hp hc => hp) fun D' _ hn h => hn fun hm => h (.tail _ hm)⟩
    rcases List.mem_cons.mp ha with rfl | ha
    · exact ⟨mD, nX⟩
    · exact h1 a ha
  | [], _ :: _, h => h.elim
  | _ :: _, [], h => h.elim
def ov1 (m : Str → Option Value) (x : Str) (a : Option Value) : Str → Option Value := fun z => if z = x then a else m z
theorem ov1_set {m : Str → Option Value} {x : Str} {a b : Option Value} : (fun z => if z = x then b else ov1 m x a z) = ov1 m x b := by
  funext z
  unfold ov1
  by_cases e1 : z = x
  · subst e1; rw [if_pos rfl, if_pos rfl]
  · simp only [e1, if_false]
theorem ov1_start {m : Str → Option Value} {x : Str} (hx : m x = none) : m = ov1 m x none := by
  funext z
  unfold ov1
  by_cases e1 : z = x
  · subst e1; rw [if_pos rfl]; exact hx
  · simp only [e1, if_false]
theorem toS_nil : toS [] = Str.ofString "" := by decide
theorem mkT_none : mkT (fun _ => none) = fun _ _ _ => none := by
  funext h ps key
  unfold mkT
  split
  · rfl
  · split
    · split <;> rfl
    · rfl
theorem mgr_of {g h : Heap} {L : Addr} {led : Led} (_N : News g L h led) {a dm : Addr} {hs : Int} {t : Tok} {D : Addr} (h1 : (a, W.instObj 85 dm) ∈ led) (h2 : (dm, mgrDict hs t D) ∈ led) : MgrIs led a := ⟨dm, hs, t, D, h1, h2⟩

theorem PairsAre.monoO {X : Addr → Prop} {led led' : Led} (k : ∀ a D x y t u, (a, pairObj D x y t u) ∈ led → (a, pairObj D x y t u) ∈ led') (kD : ∀ D, (D, emptyDict) ∈ led → (D, emptyDict) ∈ led') : ∀ {vs : List Value} {rs : List Rule}, PairsAre X led vs rs → PairsAre X led' vs rs
  | [], [], _ => trivial
  | _ :: _, _ :: _, ⟨⟨P, D, t, u, e, h1, h2, h3⟩, ht⟩ => ⟨⟨P, D, t, u, e, k _ _ _ _ _ _ h1, kD _ h2, h3⟩, PairsAre.monoO k kD ht⟩
  | [], _ :: _, h => h.elim
  | _ :: _, [], h => h.elim
/-- the law's state where its loops begin -/
theorem law_start {w : World} {g h : Heap} {L0 : Addr} {led4 led7 : Led} {L xm x dx tl wl rl : Addr} {om om9 oa : Obj} {v0 : Option Value} {vs : Array Value} {c4 : Nat} {rs : List Rule} {t : Tok} (N8 : News g L0 h led7) (dcm : om.data = .cell v0) (mm4 : (L + 1, om) ∈ led4) (ma4 : (L + 1 + 1, oa) ∈ led4) (dca : oa.data = .cell none)
    (m150 : (150, tabObj #[]) ∈ led4) (mr : (rl, lobj vs c4) ∈ led4) (ps : PairsAre (fun _ => False) led4 vs.toList rs) (hmg : MgrIs led7 xm) (mt7 : (tl, lobj #[] 0) ∈ led7) (mw7 : (wl, lobj #[.str (Str.ofString "") t] 0) ∈ led7) (mx7 : (x, nodeObj dx #[] 0) ∈ led7) (md7 : (dx, emptyDict) ∈ led7)
    (k7 : ∀ p ∈ led4, p ∈ led7) (d1 : rl ≠ tl) (d2 : rl ≠ wl) (d3 : tl ≠ wl) (fr4 : ∀ p ∈ led4, p.1 ≠ x ∧ p.1 ≠ dx) (nm : (x == sysModules) = false) (dcm9 : om9.data = .cell (some (.ref xm))) :
    ∃ PD, LawSt w false (setL led7 (L + 1) om9) PD L xm x tl wl rl c4 vs rs (fun _ => none) (mkT fun _ => none) [[]] [[]] 0 0 := by
  have mm7 := k7 _ mm4
  have k9 : ∀ p ∈ led7, (∀ v, p.2.data ≠ .cell v) → p ∈ setL led7 (L + 1) om9 := fun p hp hn => mem_setL hp (led_ne N8 hp mm7 (fun e => hn v0 (by rw [e]; exact dcm)))
  have nl : ∀ {xs : Array Value} {n : Nat} (v : Option Value), (lobj xs n).data ≠ .cell v := fun {xs n} v e => by cases e
  obtain ⟨PD, hPD, ps9⟩ := pairs_PD ps
  obtain ⟨dm, hs, t', D, g1, g2⟩ := hmg
  have mx9 := k9 _ mx7 (fun v e => by cases e)
  have md9 := k9 _ md7 (fun v e => by cases e)
  have pd9 : ∀ a ∈ PD, (a, emptyDict) ∈ setL led7 (L + 1) om9 := fun a ha => k9 _ (k7 _ (hPD a ha).1) (fun v e => by cases e)
  have C := Cur.start (w := w) (PD := PD) mx9 md9 nm (fun hm => (fr4 _ (hPD _ hm).1).2 rfl) pd9
  refine ⟨PD, ⟨⟨om9, mem_setL_self mm7, dcm9⟩, ⟨oa, none, mem_setL (k7 _ ma4) (Nat.ne_of_gt (Nat.lt_succ_self _)), dca, .inl rfl⟩, ⟨dm, hs, t', D, k9 _ g1 (fun v e => by cases e), k9 _ g2 (fun v e => by cases e)⟩, ps9.monoO (fun a D x y t u hm => k9 _ (k7 _ hm) (fun v e => by cases e)) fun D hm => k9 _ (k7 _ hm) (fun v e => by cases e)⟩, k9 _ (k7 _ mr) nl,
    ⟨#[], k9 _ (k7 _ m150) (fun v e => by cases e), .inl rfl⟩, ⟨#[], 0, [], k9 _ mt7 nl, trivial, .nil, fun r n => ⟨fun h => (nomatch h), fun h => (nomatch h)⟩, Nat.le_refl _⟩, ⟨_, 0, k9 _ mw7 nl, ?_⟩, ?_, fun r n h => (nomatch h), ?_, ?_, d1, d2, d3⟩
  · rw [List.map_cons, toS_nil]; exact .cons _ _ .nil
  · rw [mkT_none]; exact C
  · intro q hq; rw [List.mem_singleton.mp hq]; exact ⟨.inl rfl, Nat.zero_le _⟩
  · intro q hq; rw [List.mem_singleton.mp hq]; exact ⟨.inl rfl, Nat.zero_le _⟩

theorem RowsAre.monoO {X : Addr → Prop} {led led' : Led} (k : ∀ a D x y t u, (a, pairObj D x y t u) ∈ led → (a, pairObj D x y t u) ∈ led') (kD : ∀ D, (D, emptyDict) ∈ led → (D, emptyDict) ∈ led') (kT : ∀ a xs, (a, ({ cls := .type "tuple", data := .seq xs } : Obj)) ∈ led → (a, ({ cls := .type "tuple", data := .seq xs } : Obj)) ∈ led') : ∀ {vs : List Value} {rs : Tab}, RowsAre X led vs rs → RowsAre X led' vs rs
  | [], [], _ => trivial
  | _ :: _, _ :: _, ⟨⟨T, P, t, e, h1, ⟨P', D, t', u, e', h2, h3, h4⟩⟩, ht⟩ => ⟨⟨T, P, t, e, kT _ _ h1, ⟨P', D, t', u, e', k _ _ _ _ _ _ h2, kD _ h3, h4⟩⟩, RowsAre.monoO k kD kT ht⟩
  | [], _ :: _, h => h.elim
  | _ :: _, [], h => h.elim
section
variable {w : World} {md : Bool} {led led' : Led} {PD : List Addr} {L xm x tl wl rl : Addr} {c : Nat} {vs : Array Value} {rs : List Rule} {T : Rule → Option Nat} {mk : Mk} {P W : List (List Str)} {N i : Nat}
theorem LawSt.cell {g h : Heap} {L0 : Addr} {o o' : Obj} {v : Option Value} {a D : Addr} {y z : Str} {t u : Tok} (NW : News g L0 h led) (S : LawSt w md led PD L xm x tl wl rl c vs rs T mk P W N i) (mo : (L + 1 + 1, o) ∈ led) (ho : o.data = .cell v) (hc : CellOk led v) (ho' : o'.data = .cell (some (.ref a))) (hp : (a, pairObj D y z t u) ∈ led) :
    LawSt w md (setL led (L + 1 + 1) o') PD L xm x tl wl rl c vs rs T mk P W N i := by
  have kd : ∀ p ∈ led, (∀ v, p.2.data ≠ .cell v) → p ∈ setL led (L + 1 + 1) o' := fun p hp hn => mem_setL hp (led_ne NW hp mo (fun e => hn v (by rw [e]; exact ho)))
  have kl : ∀ {b : Addr} {xs : Array Value} {n : Nat}, (b, lobj xs n) ∈ led → (b, lobj xs n) ∈ setL led (L + 1 + 1) o' := fun {b xs n} hm => kd _ hm (fun v e => by cases e)
  have kp : ∀ a D x y t u, (a, pairObj D x y t u) ∈ led → (a, pairObj D x y t u) ∈ setL led (L + 1 + 1) o' := fun a D x y t u hm => kd _ hm (fun v e => by cases e)
  have ke : ∀ D, (D, emptyDict) ∈ led → (D, emptyDict) ∈ setL led (L + 1 + 1) o' := fun D hm => kd _ hm (fun v e => by cases e)
  obtain ⟨om, h1, h2⟩ := S.fx.cm
  obtain ⟨dm, hs, t', D', g1, g2⟩ := S.fx.mg
  obtain ⟨pz, t1, t2⟩ := S.tg
  obtain ⟨tvs, tc, tab, b1, b2, b3⟩ := S.tb
  obtain ⟨wvs, wc, w1, w2⟩ := S.wy
  obtain ⟨ns, e1, ok, M, TT, hrt, h5⟩ := S.tr
  refine ⟨⟨⟨om, mem_setL h1 (Nat.ne_of_lt (Nat.lt_succ_self _)), h2⟩, ⟨o', _, mem_setL_self mo, ho', .inr ⟨a, D, y, z, t, u, rfl, kp _ _ _ _ _ _ hp⟩⟩, ⟨dm, hs, t', D', kd _ g1 (fun v e => by cases e), kd _ g2 (fun v e => by cases e)⟩, S.fx.ps.monoO kp ke⟩, kl S.ru,
    ⟨pz, kd _ t1 (fun v e => by cases e), t2.imp id fun ⟨c', oc', vs', tt, q1, q2, q3, q4⟩ => ⟨c', oc', vs', tt, q1, kd _ q2 (fun v e => by rw [q3] at e; cases e), q3, q4⟩⟩, ⟨tvs, tc, tab, kl b1, b2.monoO kp ke (fun a xs hm => kd _ hm (fun v e => by cases e)), b3⟩, ⟨wvs, wc, kl w1, w2⟩,
    ⟨ns, e1, ok, M, ⟨fun nd hn => ?_, fun nd hn hz => ke _ (TT.opens nd hn hz), fun nd hn hz => ?_, TT.apart, fun a ha => ke _ (TT.pd a ha)⟩, hrt, h5.imp id fun ⟨z, hq, dx, a1, a2, a3⟩ => ⟨z, hq, dx, kd _ a1 (fun v e => by cases e), ke _ a2, a3⟩⟩, S.hT, S.hp, S.hw, S.d1, S.d2, S.d3⟩
  · obtain ⟨es, n, q1, q2⟩ := TT.nodes nd hn
    exact ⟨es, n, kd _ q1 (fun v e => by cases e), q2⟩
  · obtain ⟨of, hs, tf, fn, cl, c', o1, oc, oc', e, q1, q2, q3, q4, gg⟩ := TT.shuts nd hn hz
    obtain ⟨⟨fd, z1⟩, z2, ⟨vs', tt, z3, z4⟩, _⟩ := id gg
    refine ⟨of, hs, tf, fn, cl, c', o1, oc, oc', e, kd _ q1 (fun v e => by cases e), kd _ q2 (fun v e => by rw [z1] at e; cases e), mem_setL q3 fun ecl => ?_, kd _ q4 (fun v e => by rw [z3] at e; cases e), gg⟩
    have ecl' : cl = L + 1 + 1 := ecl
    subst ecl'
    have eo : oc = o := led_one NW q3 mo
    rw [eo, ho] at z2
    rcases hc with hc | ⟨a', D'', x', y', t'', u', hc, hm⟩
    · rw [hc] at z2; cases z2
    · rw [hc] at z2
      obtain ⟨es, n, q1', _⟩ := TT.nodes nd hn
      have ea : a' = nd.a := by cases z2; rfl
      subst ea
      have := congrArg Obj.data (led_one NW hm q1')
      cases this
theorem ask_step (S : LawSt w false led PD L xm x tl wl rl c vs rs T mk P W N i) (gr0 : ∀ r ∈ rs, GoodRule r) (hsz : vs.size ≤ 6) :
    DoesC PG w 20 (.ref 270) [.ref rl] led (fun v led' => ∃ ql avs ac as PD', v = .ref ql ∧ LawSt w false led' PD' L xm x tl wl ql ac avs as T mk P W N i ∧ as.length = 4 * vs.size ∧ ∀ r ∈ as, GoodQ r) := by
  intro A h₀ L0 m s Q E cx F NW hQ
  refine questions_call (XX := fun a => a ∉ PD ∧ ∃ o, (a, o) ∈ led) S.ru (S.fx.ps.mono (fun p hp _ => hp) fun D _ h hn => h hn.1) gr0 hsz (fun a h => h.2) A h₀ L0 m s Q E cx F NW ?_
  rintro v led' h' tk' F' N' ⟨kp, ql, avs, ac, as, rfl, mq, ps, la, ga, nl⟩
  obtain ⟨PD2, h2, ps2⟩ := pairs_PD ps
  have S' := S.mono (led' := led') fun p hp _ => kp p hp
  obtain ⟨tvs, tc, tab, b1, b2, b3⟩ := S'.tb
  obtain ⟨_, _, _, b0, _⟩ := S.tb
  obtain ⟨_, _, w0, _⟩ := S.wy
  obtain ⟨ns, e1, ok, M, TT, hrt, h5⟩ := S.tr
  have TT' := TT.mono (led' := led') fun p hp _ => kp p hp
  refine hQ _ led' h' tk' F' N' ⟨ql, avs, ac, as, PD ++ PD2, rfl, ⟨⟨S'.fx.cm, S'.fx.ca, S'.fx.mg, ps2.mono (fun p hp _ => hp) fun D _ h hn => h fun hm => hn (List.mem_append_right _ hm)⟩, mq, S'.tg, ⟨tvs, tc, tab, b1, b2.mono (fun p hp _ => hp) (fun D _ h hn => h fun hm => hn (List.mem_append_left _ hm)), b3⟩, S'.wy,
    ⟨ns, e1, ok, M, ⟨TT'.nodes, TT'.opens, TT'.shuts, fun nd hn hm => ?_, fun a ha => ?_⟩, hrt, h5.imp id fun h => (nomatch h.1)⟩, S.hT, S.hp, S.hw, Ne.symm (nl _ b0), Ne.symm (nl _ w0), S.d3⟩, la, ga⟩
  · exact (List.mem_append.mp hm).elim (TT.apart nd hn) fun h => (h2 _ h).2 ⟨TT.apart nd hn, _, TT.opens nd hn rfl⟩
  · exact (List.mem_append.mp ha).elim (fun h => TT'.pd a h) fun h => (h2 a h).1
end

section
variable {w : World} {md : Bool} {led led' : Led} {PD : List Addr} {L xm x tl wl rl : Addr} {c : Nat} {vs : Array Value} {rs : List Rule} {T : Rule → Option Nat} {mk : Mk} {P W : List (List Str)} {N i : Nat}
theorem LawSt.cons {g h : Heap} {L0 : Addr} {p : Addr × Obj} (_N : News g L0 h (p :: led)) (S : LawSt w md led PD L xm x tl wl rl c vs rs T mk P W N i) : LawSt w md (p :: led) PD L xm x tl wl rl c vs rs T mk P W N i := S.mono fun q hq _ => .tail _ hq
theorem LawSt.wlt {n : Nat} (S : LawSt w md led PD L xm x tl wl rl c vs rs T mk P W N i) (h : ∀ p ∈ led, p.1 < n) : wl ≠ n := by
  obtain ⟨_, _, mw, _⟩ := S.wy
  exact Nat.ne_of_lt (h _ mw)
end
theorem gq_len {r : Rule} (g : GoodQ r) : (piecesOf (chs r.2)).length ≤ 15 := by
  have h1 := pieces_len (chs r.2)
  have h2 := g.2.2
  have e : (chs r.2).length = r.2.length := by show r.2.cps.toList.length = r.2.cps.size; simp
  omega
theorem LawSt.nw {w : World} {md : Bool} {led : Led} {PD : List Addr} {L xm x tl wl rl : Addr} {c : Nat} {vs : Array Value} {rs : List Rule} {T : Rule → Option Nat} {mk : Mk} {P W : List (List Str)} {N i : Nat} {g h : Heap} {L0 : Addr} {p : Addr × Obj} (S : LawSt w md led PD L xm x tl wl rl c vs rs T mk P W N i) (NW : News g L0 h led) (hp : p ∈ led) (ho : OB PD p) : p.1 ≠ wl := by
  obtain ⟨_, _, mw, _⟩ := S.wy
  exact led_ne NW hp mw ho.nl

abbrev subTest (p1 p2 p3 p4 p5 : Pos) : Expr := .Call (.Attribute (.Name (Str.ofString "manager") p1) (Str.ofString "is_suburi") p2) [.Name (Str.ofString "rule") p3, .Name (Str.ofString "address") p4] [] p5
abbrev subScope : Scope := { kind := ScopeKind.function, names := [(Str.ofString ".0", NameKind.local), (Str.ofString "rule", NameKind.local), (Str.ofString "number", NameKind.local), (Str.ofString "address", NameKind.free), (Str.ofString "manager", NameKind.free)], isGenerator := false, isCoroutine := false }
abbrev subEnv (ca cm C : Addr) (env : Env) : Env := compEnvC subScope [(Str.ofString "manager", cm), (Str.ofString "address", ca)] C env
theorem suburi_turn {w : World} {A : Around} {g : Heap} {L cm ca xm a D : Addr} {m : Str → Option Value} {env : Env} {p1 p2 p3 p4 p5 p6 : Pos} {s₂ : Shared} {led0 : Led} {XX : Addr → Prop} {tvs : Array Value} {tab : Tab} {om oa : Obj} {r : Rule} {t u : Tok} {i : Nat} {v : Value}
    (he : ∀ C, ∃ pl : Sem Bool, eval (subTest p1 p2 p3 p4 p5) (subEnv ca cm C env) = (do
      let ov ← eval (.Name (Str.ofString "manager") p1) (subEnv ca cm C env)
      standAt p2.atName
      let (f, first) ← holding [ov] (getMethod ov (Str.ofString "is_suburi") pl)
      callWith p5 f first (backTo p5 (starEach [.Name (Str.ofString "rule") p3, .Name (Str.ofString "address") p4] (subEnv ca cm C env))) []))
    (q0 : ∀ C, (subEnv ca cm C env).scope.kind = .function) (q1 : ∀ C, (subEnv ca cm C env).kindOf (Str.ofString "rule") = some .local) (q2 : ∀ C, (subEnv ca cm C env).kindOf (Str.ofString "number") = some .local) (q3 : ∀ C, (subEnv ca cm C env).kindOf (Str.ofString "address") = some .cell) (q4 : ∀ C, (subEnv ca cm C env).kindOf (Str.ofString "manager") = some .cell)
    (cx : Cx w A g L 30) (rows : RowsAre XX led0 tvs.toList tab) (hm : MgrIs led0 xm) (hcm : (cm, om) ∈ led0) (dm : om.data = .cell (some (.ref xm))) (hca : (ca, oa) ∈ led0) (da : oa.data = .cell (some (.ref a))) (hp : (a, pairObj D r.1 r.2 t u) ∈ led0) (hlen : ∀ e ∈ tab, e.1.2.length ≤ 1000) (lr : r.2.length ≤ 1000) (hv : tvs[i]? = some v) :
    PairTurn PG w A g L m env (subTest p1 p2 p3 p4 p5) (.Name (Str.ofString "number") p6) (Str.ofString "rule") (Str.ofString "number") subScope [(Str.ofString "manager", cm), (Str.ofString "address", ca)] s₂ (fun i ys led' => IntsAre ys (((tab.take i).filter fun e => belowR e.1 r).map fun e => ((e.2 : Nat) : Int)) ∧ ∀ p ∈ led0, p ∈ led') i v := by
  obtain ⟨A₀, base, outer, env', p, loose, mean, mg, mb, B, hA, hf, hk, X1, T1, hh, hd, hu, hC⟩ := id cx
  rintro ys led' ⟨hys, kp⟩
  obtain ⟨⟨⟨x, y⟩, nq⟩, hrow, T0, P0, t0, rfl, mT, Pa, Da, t1, t2, rfl, mPa, mDa, nDa⟩ := rows.get (by rw [Array.getElem?_toList]; exact hv)
  refine ⟨T0, .ref Pa, .int (nq : Nat) t0, 0, rfl, kp _ mT, ?_⟩
  intro I oI C oC D' m₂ h tk E' hC' hx hy F N off dis
  unfold TestEnd
  obtain ⟨h2, g2, d2, tk2, os2⟩ := s₂
  dsimp only
  have k3 : ∀ p ∈ led', p ∈ (I, oI) :: (C, oC) :: (D', LCg.lst ys) :: led' := fun p hp => .tail _ (.tail _ (.tail _ hp))
  iterate 1 walk1
  obtain ⟨pl, he⟩ := he C
  refine MethodCall_ (pl := pl) ?_ he
  refine lcf_cell N (by rfl) (k3 _ (kp _ hcm)) dm ?_ (q0 C) (q4 C)
  refine mgr_method (s := ⟨_, _, _, _, _⟩) X1 F N (MgrIs.mono (hm.mono kp) k3) fun tk9 => ?_
  iterate 2 walk1
  refine LCgL.ld_own N (.tail _ (.head _)) hC' hx ?_ (q0 C) (q1 C)
  iterate 1 walk1
  refine lcf_cell N (by rfl) (k3 _ (kp _ hca)) da ?_ (q0 C) (q3 C)
  iterate 2 walk1
  refine wpAny_call ((suburi_call (w := w) (k3 _ (kp _ mPa)) (k3 _ (kp _ hp)) (hlen _ (List.mem_of_getElem? hrow)) lr).then (s := ⟨_, _, _, _, _⟩) (cx.less (by omega)) F N ?_)
  rintro v led7 h10 tk10 F10 N10 ⟨rfl, rfl⟩
  iterate 1 walk1
  have et : tab.take (i + 1) = tab.take i ++ [((x, y), nq)] := by rw [List.take_add_one, hrow]; rfl
  cases hb : below x y r.1 r.2 with
  | true =>
    rw [if_pos rfl]
    refine LCgL.ld_own N10 (.tail _ (.head _)) hC' hy ?_ (q0 C) (q2 C)
    refine LCg.CompEnd.intro F10 N10 led' (fun p hp => hp) off trivial ⟨?_, kp⟩
    rw [et, List.filter_append, List.map_append, List.filter_cons_of_pos (p := fun e : Rule × Nat => belowR e.1 r) (show below x y r.1 r.2 = true from hb)]
    exact ints_snoc hys
  | false =>
    rw [if_neg Bool.false_ne_true]
    refine LCg.CompEnd.intro F10 N10 led' (fun p hp => hp) off trivial ⟨?_, kp⟩
    rw [et, List.filter_append, List.map_append, List.filter_cons_of_neg (p := fun e : Rule × Nat => belowR e.1 r) (show ¬ below x y r.1 r.2 = true by rw [hb]; exact Bool.false_ne_true)]
    simpa using hys
theorem law_eq {tab : Tab} {T : Rule → Option Nat} {r : Rule} (ok : TabOk tab) (td : Told tab T) : ((tab.filter fun e => belowR e.1 r).map fun e => ((e.2 : Nat) : Int)) = (fnd (mkT T) r.1 (piecesOf (chs r.2)) (piecesOf (chs r.2)).length).map fun n : Nat => (n : Int) := by
  have h := way_law ok td r.1 r.2
  have h2 := congrArg (List.map fun n : Nat => (n : Int)) h
  rw [List.map_map] at h2
  rw [found_law]
  exact h2
theorem ov1_self {m : Str → Option Value} {x : Str} : m = ov1 m x (m x) := by
  funext z
  unfold ov1
  by_cases e1 : z = x
  · subst e1; rw [if_pos rfl]
  · rw [if_neg e1]
theorem law_walk : PySem.Challenge.rw_il0135_01.row.Holds := hdW (by
  k_go0
  (all_goals try k_fold)
  rename_i h1 tk1 oa om dca dcm Y1 X1 T1 K1 F0 N0 l150
  rename Shared => s1
  rename World => w
  rename IntsAre _ _ => hI
  generalize ghostOf s1.heap [(154, 150)] = g at *
  generalize hL : s1.heap.objs.size = L at *
  have dca : oa.data = .cell none := dca
  have F1 : Fr g L h1 (fun z => if z = Str.ofString "script" then some (Value.ref _) else none) := F0
  clear F0
  have cx1 : ∀ e : Env, e.frame = some L → e.scope.kind = .function → Cx w (callerA.deeper e) g L 300 := fun e i1 i2 => cx_law K1 i1 i2 X1 T1 codeHd
  iterate 6 walk1
  obtain ⟨m0, hm0, F2⟩ := name_map F1
  clear F1
  refine wpAny_mono (Q := fun v s' => ∃ l its h' tk', v = .ref l ∧ s' = ⟨h', s1.gens, s1.drawn, tk', s1.os⟩ ∧ Fr g L h' m0 ∧ News g L h' ((l, lobj its 0) :: [(L + 1 + 1, oa), (L + 1, om), (150, tabObj #[])]) ∧ (∀ v ∈ its, ∃ k t, v = .int k t) ∧ its.size ≤ 6) (E := _) ?_ ?_ (fun _ _ z => z)
  · subst hm0
    iterate 4 walk1
    rename List Int => ns
    by_cases hpos : 0 < ns.length
    · rw [if_pos (decide_eq_true hpos)]
      iterate 5 walk1
      refine slice_any (hi := some 6) F2 N0 (Heap.IsList.at lifted fun o e => F2.keep _ _ e) .none (.int _ _) (pick_to (k := 6)) (by rw [List.size_toArray]; have e := hI.length; omega) (fun S h' F' N' _ => ?_)
      refine ⟨_, _, _, _, rfl, rfl, F', N', fun v hv => ints_all hI v (List.take_subset _ _ (by simpa using hv)), by simp; omega⟩
    · rw [if_neg (by rw [decide_eq_true_eq]; exact hpos)]
      refine BoolOp_one ?_
      iterate 18 walk1
      rename Fr g L _ _ => F3
      rename News g L _ _ => N3
      refine slice_any (hi := some 6) F3 N3 (News.isList N3 (.head _)) .none (.int _ _) (pick_to (k := 6)) (Nat.le_of_ble_eq_true rfl) (fun S h' F' N' lS => ?_)
      refine ⟨_, _, _, _, rfl, rfl, F', news_drop1 N', fun v hv => ?_, ?_⟩
      · have hv := Array.mem_toList_iff.mpr hv
        simp at hv
        rcases hv with rfl | rfl | rfl | rfl | rfl <;> exact ⟨_, _, rfl⟩
      · exact Nat.le_of_ble_eq_true rfl
  rintro v s' ⟨l, its, h2, tk2, rfl, rfl, F2, N2, hint, hsz⟩
  clear N0
  iterate 2 walk1
  refine wpAny_call ((rules_call (w := w) (.head _) hint hsz).then (s := ⟨_, _, _, _, _⟩) ((cx1 _ rfl rfl).less (by omega)) F2 N2 ?_)
  rintro v led4 h4 tk4 F4 N4 ⟨k4, rl, vs, c4, rs, rfl, mr, ps, lr, gr⟩
  subst hm0
  rename Fr g L h1 _ => F1
  clear N2 F2 F1
  iterate 22 walk1
  rename Fr g L _ _ => F5
  rename News g L _ _ => N5
  refine wpAny_call ((tree_call (w := w)).then (s := ⟨_, _, _, _, _⟩) ((cx1 _ rfl rfl).less (by omega)) F5 N5 ?_)
  rintro v led6 h6 tk6 F6 N6 ⟨x, dx, rfl, rfl, fr, ne, nm⟩
  clear F5 N5
  iterate 15 walk1
  rename Fr g L _ _ => F7
  rename News g L _ _ => N7
  rename_i tl ht1 lt1 wl hw1 lw1 D7 hD1 lD1 h7
  have mm4 : (L + 1, om) ∈ led4 := k4 _ (.tail _ (.tail _ (.head _)))
  have ma4 : (L + 1 + 1, oa) ∈ led4 := k4 _ (.tail _ (.head _))
  have m150 : (150, tabObj #[]) ∈ led4 := k4 _ (.tail _ (.tail _ (.tail _ (.head _))))
  have hmg7 := mgr_of N7 (.tail _ (.tail _ (.tail _ (.tail _ (.tail _ (.tail _ (.head _))))))) (.tail _ (.tail _ (.tail _ (.tail _ (.tail _ (.tail _ (.tail _ (.head _))))))))
  obtain ⟨led7, hled7, N8⟩ := name_led N7
  rw [← hled7] at hmg7
  obtain ⟨xm, exm, hmg7⟩ : ∃ xm, xm = _ ∧ MgrIs led7 xm := ⟨_, rfl, hmg7⟩
  subst exm
  have lv : vs.size = rs.length := by rw [← Array.length_toList]; exact ps.len
  have mt7 : (tl, lobj #[] 0) ∈ led7 := by rw [hled7]; exact .tail _ (.tail _ (.head _))
  have mw7 : (wl, lobj #[.str (Str.ofString "") tk6] 0) ∈ led7 := by rw [hled7]; exact .tail _ (.head _)
  have mx7 : (x, nodeObj dx #[] 0) ∈ led7 := by rw [hled7]; walk_at "mem"
  have md7 : (dx, emptyDict) ∈ led7 := by rw [hled7]; walk_at "mem"
  have k7 : ∀ p ∈ led4, p ∈ led7 := by rw [hled7]; intro p hp; exact .tail _ (.tail _ (.tail _ (.tail _ (.tail _ (.tail _ (.tail _ (.tail _ hp)))))))
  have d1 : rl ≠ tl := Nat.ne_of_lt (allLt_mem (l := led4) (by simpa only [AllLt] using lt1.2.2.2.2.2) _ mr)
  have d2 : rl ≠ wl := Nat.ne_of_lt (allLt_mem (l := led4) (by simpa only [AllLt] using lw1.2.2.2.2.2.2) _ mr)
  have d3 : tl ≠ wl := Nat.ne_of_lt lw1.1
  have fr4 : ∀ p ∈ led4, p.1 ≠ x ∧ p.1 ≠ dx := fun p hp => fr p (.tail _ (.tail _ (.tail _ hp)))
  clear N7 lt1 lw1 lD1 hled7 fr
  refine store_cell F7 N8 (by rfl) (k7 _ mm4) dcm fun h9 om9 F9 N9 mm9 dcm9 => ?_
  obtain ⟨PD, S0⟩ := law_start (w := w) N8 dcm mm4 ma4 dca m150 mr ps hmg7 mt7 mw7 mx7 md7 k7 d1 d2 d3 fr4 nm dcm9
  obtain ⟨led9, hled9, N10⟩ := name_led N9
  rw [← hled9] at S0
  clear N9 N8 hled9 mm9 F7 mt7 mw7 mx7 md7 k7 fr4 hmg7 m150 mm4 ma4 mr k4 ps dcm9 dcm dca
  iterate 12 walk1
  refine wpAny_For ?_
  iterate 10 walk1
  rename Fr g L _ _ => F11
  rename News g L _ _ => N11
  refine len_led (s := ⟨_, _, _, _, _⟩) N11 S0.ru (by omega) fun t12 tk12 => ?_
  iterate 1 walk1
  refine range_led (s := ⟨_, _, _, _, _⟩) F11 N11 fun R h13 tk13 r1 r2 r3 F13 N13 lR => ?_
  refine iter_rng (s := ⟨_, _, _, _, _⟩) F13 N13 (.head _) (by omega) fun It h14 F14 N14 lI => ?_
  obtain ⟨m1, hm1, F15⟩ := name_map F14
  have fIt : ∀ p ∈ led9, p.1 ≠ It := fun p hp => Nat.ne_of_lt (lI p (.tail _ hp))
  have hIt : It ≠ tl := by obtain ⟨_, _, _, hm, _⟩ := S0.tb; exact Ne.symm (fIt _ hm)
  have hIw : It ≠ wl := by obtain ⟨_, _, hm, _⟩ := S0.wy; exact Ne.symm (fIt _ hm)
  clear F11 N11 F13 N13 F14 lR lI
  refine loop_range (cnt := vs.size) (x := 0) (st := 1) rfl (fun i led₁ m₁ => ∃ kv T P, m₁ = ov1 m1 (Str.ofString "k") kv ∧ P.length ≤ 1 + 14 * i ∧ LawSt w false led₁ PD L xm x tl wl rl c4 vs rs T (mkT T) P P (20 * i) i) led9 fIt ?_ F15 N14 (.head _) ?_ ?_ ?_
  · rintro i led₁ led₂ m₁ fr ⟨kv, T, P, rfl, lP, S⟩
    exact ⟨kv, T, P, rfl, lP, S.free (.inr rfl) fr⟩
  · exact ⟨none, fun _ => none, [[]], ov1_start (by rw [hm1]; rfl), Nat.le_refl _, S0.mono fun p hp _ => .tail _ (.tail _ hp)⟩
  · rintro i ti led₁ m₁ h16 tk16 hi ⟨kv, T, P, rfl, lP, S⟩ F16 N16 mI16 PP EE hPP
    rw [show (0 : Int) + 1 * (i : Int) = (i : Int) by omega]
    clear F15 N14 fIt S0
    subst hm1
    obtain ⟨v, hv⟩ : ∃ v, vs[i]? = some v := ⟨_, Array.getElem?_eq_getElem hi⟩
    obtain ⟨r, hr, hpr⟩ := S.fx.ps.get (by rw [Array.getElem?_toList]; exact hv)
    have gr' := gr r (List.mem_of_getElem? hr)
    obtain ⟨om1, mm1, dm1⟩ := S.fx.cm
    iterate 16 walk1
    rename Fr g L _ _ => F17
    rename News g L _ _ => N17
    refine item_list (News.isList N17 S.ru) (by omega) (by omega) (by simpa using hv) ?_
    iterate 4 walk1
    refine wpAny_call ((put_step (n := i) S hpr (Nat.le_trans gr'.2.2 (by decide)) (by omega)).then (s := ⟨_, _, _, _, _⟩) ((cx1 _ rfl rfl).less (by omega)) F17 N17 ?_)
    rintro v2 led18 h18 tk18 F18 N18 ⟨rfl, S2, k2⟩
    clear N17
    iterate 13 walk1
    rename Fr g L _ _ => F19
    rename News g L _ _ => N19
    refine item_list (News.isList N19 S2.ru) (by omega) (by omega) (by simpa using hv) ?_
    iterate 4 walk1
    obtain ⟨r2, hr2, hpr2⟩ := S2.fx.ps.get (i := i) (v := v) (by rw [Array.getElem?_toList]; exact hv)
    obtain rfl : r = r2 := by rw [hr] at hr2; exact Option.some.inj hr2
    refine wpAny_call ((mark_step (n := i) S2 hpr2 gr' (by omega) (by omega)).then (s := ⟨_, _, _, _, _⟩) ((cx1 _ rfl rfl).less (by omega)) F19 N19 ?_)
    rintro v3 led20 h20 tk20 F20 N20 ⟨rfl, ⟨P', lP', S3⟩, k3⟩
    try clear N19
    iterate 1 walk1
    exact hPP _ _ ⟨_, _, _, _, rfl, F20, N20, k3 _ (k2 _ mI16 hIt) (nn (show Value.type "range_iterator" ≠ Value.ref 158 by decide)) hIw, _, _, P', ov1_set, by omega, S3.congr fun h ps key hs hk => mkT_up (h0 := r.1) (p0 := r.2) hs hk⟩
  · rintro h16 tk16 led16 m16 F16 N16 ⟨kv, T, P, rfl, lP, S⟩
    clear F15 N14 fIt S0
    subst hm1
    iterate 9 walk1
    rename Fr g L _ _ => F17
    rename News g L _ _ => N17
    refine wpAny_call ((ask_step S gr (by omega)).then (s := ⟨_, _, _, _, _⟩) ((cx1 _ rfl rfl).less (by omega)) F17 N17 ?_)
    rintro v led18 h18 tk18 F18 N18 ⟨ql, avs, ac, as, PD2, rfl, S2, las, ga⟩
    clear N17
    have lav : avs.size = as.length := by rw [← Array.length_toList]; exact S2.fx.ps.len
    iterate 11 walk1
    rename Fr g L _ _ => F19
    rename News g L _ _ => N19
    refine len_led (s := ⟨_, _, _, _, _⟩) N19 S2.ru (by omega) fun t20 tk20 => ?_
    iterate 5 walk1
    refine wpAny_For ?_
    iterate 7 walk1
    rename Fr g L _ _ => F21
    rename News g L _ _ => N21
    try clear N19
    have eh : Int.fdiv (avs.size : Int) 2 = ((2 * vs.size : Nat) : Int) := by rw [Int.fdiv_eq_ediv_of_nonneg _ (by decide)]; omega
    refine slice_any (hi := some _) F21 N21 (News.isList N21 S2.ru) .none (.int _ _) (zs := avs.toList.take (2 * vs.size)) (by rw [eh]; exact pick_to) (by omega) (fun SL h22 F22 N22 lSL => ?_)
    refine iter_list (s := ⟨_, _, _, _, _⟩) F22 N22 (.head _) fun It h23 F23 N23 lI2 => ?_
    obtain ⟨m2, hm2, F24⟩ := name_map F23
    try clear F21
    try clear N21
    try clear F22
    try clear F23
    have fIt : ∀ p ∈ led18, p.1 ≠ It := fun p hp => Nat.ne_of_lt (lI2 p (.tail _ hp))
    have hIt2 : It ≠ wl := by obtain ⟨_, _, hm, _⟩ := S2.wy; exact Ne.symm (fIt _ hm)
    have hSw : SL ≠ wl := by obtain ⟨_, _, hm, _⟩ := S2.wy; exact Ne.symm (Nat.ne_of_lt (lSL _ hm))
    have lPb : P.length ≤ 100 := by omega
    refine loop_list (items := (avs.toList.take (2 * vs.size)).toArray) (n := 0) rfl (fun i led₁ m₁ => ∃ dv P', m₁ = ov1 m2 (Str.ofString "due") dv ∧ P'.length ≤ 100 + 16 * i ∧ LawSt w false led₁ PD2 L xm x tl wl ql ac avs as T (mkT T) P' P' (20 * vs.size + 20 * i) vs.size ∧ (SL, lobj (avs.toList.take (2 * vs.size)).toArray 0) ∈ led₁) led18 fIt ?_ ?_ F24 N23 (.head _) ?_ ?_ ?_
    · rintro i led₁ led₂ m₁ fr ⟨dv, P', rfl, lP', S, mSL⟩
      exact ⟨dv, P', rfl, lP', S.free (.inl rfl) fr, fr _ mSL (.inr (.inl (show Value.type "list" ≠ Value.type "list_iterator" by decide)))⟩
    · rintro i led₁ m₁ ⟨dv, P', rfl, lP', S, mSL⟩
      exact mSL
    · exact ⟨none, P, ov1_start (by rw [hm2]; rfl), lPb, S2.mono fun p hp _ => .tail _ (.tail _ hp), .tail _ (.head _)⟩
    · rintro i v led₁ m₁ h25 tk25 hv ⟨dv, P', rfl, lP', S3, mSL⟩ F25 N25 mI25 PP EE hPP
      try clear N22
      try clear N23
      try clear F24
      try clear N18
      try clear F18
      clear lI2 lSL fIt
      subst hm2
      have hi : i < 2 * vs.size := by
        rcases Nat.lt_or_ge i (2 * vs.size) with h | h
        · exact h
        · rw [Array.getElem?_eq_none (by rw [List.size_toArray, List.length_take]; omega)] at hv; cases hv
      have hv' : avs.toList[i]? = some v := by rw [List.getElem?_toArray, List.getElem?_take_of_lt hi] at hv; exact hv
      obtain ⟨r, hr, a, D, ta, ua, rfl, mP, mD, nD⟩ := S3.fx.ps.get hv'
      have gq := ga r (List.mem_of_getElem? hr)
      obtain ⟨oa1, va1, ma1, da1, ca1⟩ := S3.fx.ca
      iterate 1 walk1
      refine store_cell F25 N25 (by rfl) ma1 da1 fun h26 oa2 F26 N26 ma2 da2 => ?_
      have kd : ∀ p ∈ led₁, (∀ v, p.2.data ≠ .cell v) → p ∈ setL led₁ (L + 1 + 1) oa2 := fun p hp hn => mem_setL hp (led_ne N25 hp ma1 (fun e => hn va1 (by rw [e]; exact da1)))
      have S4 := S3.cell N25 ma1 da1 ca1 da2 mP
      have mP4 := kd _ mP (fun v e => by cases e)
      have mD4 := kd _ mD (fun v e => by cases e)
      have mI4 := kd _ mI25 (fun v e => by cases e)
      have mS4 := kd _ mSL (fun v e => by cases e)
      clear kd S3 mP mD mI25 mSL ma1 ca1 F25
      obtain ⟨led26, hled26, N27⟩ := name_led N26
      rw [← hled26] at S4 mP4 mD4 mI4 mS4 ma2
      clear hled26 N26 N25
      have hpr : PairIs (· ∉ PD2) led26 (.ref a) r := ⟨a, D, ta, ua, rfl, mP4, mD4, nD⟩
      iterate 11 walk1
      rename Fr g L _ _ => F28
      rename News g L _ _ => N28
      refine wpAny_call ((way_step S4 hpr gq (by omega)).then (s := ⟨_, _, _, _, _⟩) ((cx1 _ rfl rfl).less (by omega)) F28 N28 ?_)
      rintro v29 led29 h29 tk29 F29 N29 ⟨S5, k29, dl, xs, xn, rfl, md29, hx, hfr⟩
      have S5 : LawSt w false led29 PD2 L xm x tl wl ql ac avs as T (mkT T) (vis P' r.1 (piecesOf (chs r.2)) ((piecesOf (chs r.2)).length + 1)) P' (20 * vs.size + 20 * i + 20) vs.size := S5
      have mP5 := k29 _ mP4 (nn (show Value.ref 253 ≠ Value.ref 158 by decide))
      have mD5 := k29 _ mD4 (nn (show Value.type "dict" ≠ Value.ref 158 by decide))
      have mI5 := k29 _ mI4 (nn (show Value.type "list_iterator" ≠ Value.ref 158 by decide))
      have mS5 := k29 _ mS4 (nn (show Value.type "list" ≠ Value.ref 158 by decide))
      have ma5 := k29 _ ma2 (FO.nn (PD := []) (.inl ⟨_, da2⟩))
      have hdw : dl ≠ wl := by obtain ⟨_, _, mw, _⟩ := S4.wy; exact Ne.symm (hfr _ mw (nn (show Value.type "list" ≠ Value.ref 158 by decide)))
      clear S4 mP4 mD4 mI4 mS4 ma2 k29 hpr hfr
      have lr2 : r.2.length ≤ 1000 := Nat.le_trans gq.2.2 (by decide)
      iterate 23 walk1
      rename News g L _ _ => N30
      have fr30 := fun p hp => Heap.lt_size (N30 p hp).1
      iterate 3 walk1
      rename News g L _ _ => N31
      rename Fr g L _ _ => F31
      rename List (Str × Tok) => lst
      rename List.map (fun x => x.fst) lst = Txt.split _ (Str.ofString "/") => e9
      rename StrsAre (strValues lst) _ => sp
      rename ∀ a ∈ List.map (fun x => x.fst) lst, a.length ≤ _ => lpz
      rw [e9, split_pieces] at sp
      rw [e9, split_pieces] at lpz
      have lpc := gq_len gq
      have S6 := S5.cons N31
      have hpl := S5.wlt fr30
      refine wpAny_call ((note_step S6 (.head _) (by simpa using sp) hpl (fun p hp => Nat.le_trans (lpz p hp) (Nat.le_trans gq.2.2 (by decide))) (by omega) gq.1 (pieces_SF _) (by omega)).then (s := ⟨_, _, _, _, _⟩) ((cx1 _ rfl rfl).less (by omega)) F31 N31 ?_)
      rintro v32 led32 h32 tk32 F32 N32 ⟨rfl, S7, k32⟩
      obtain ⟨tvs, tc, tab, mt, rows, ok, td, sz⟩ := S7.tb
      obtain ⟨om7, mm7, dm7⟩ := S7.fx.cm
      have ma7 := k32 _ (.tail _ ma5) (S6.nw N31 (.tail _ ma5) (.inl (.inl ⟨_, da2⟩)))
      have mP7 := k32 _ (.tail _ mP5) (S6.nw N31 (.tail _ mP5) (.inl (.inr (.inr (.inl rfl)))))
      have md7 := k32 _ (.tail _ md29) hdw
      have mI7 := k32 _ (.tail _ mI5) hIt2
      have mS7 := k32 _ (.tail _ mS5) hSw
      have hlen : ∀ e ∈ tab, e.1.2.length ≤ 1000 := fun e he => S7.hT e.1 e.2 ((td _ _).mp he)
      clear S5 S6 k32 ma5 mP5 mD5 mI5 mS5 md29 N31 F31
      iterate 3 walk1
      refine ListComp_PT F32 (cl := [(Str.ofString "manager", L + 1), (Str.ofString "address", L + 1 + 1)]) (by with_unfolding_all rfl) (by decide) rfl (by decide) rfl rfl (by decide) rfl ?_
      refine nameX_L F32 (by rfl) ?_
      refine ⟨tl, tvs, tc, led32, rfl, by omega, F32, N32, ?_⟩
      rintro s₂ ⟨h33, rfl⟩
      refine ⟨fun i ys led' => IntsAre ys (((tab.take i).filter fun e => belowR e.1 r).map fun e => ((e.2 : Nat) : Int)) ∧ ∀ p ∈ led32, p ∈ led', fun i ys led' h => h.2 _ mt, ⟨.nil, fun p hp => hp⟩, fun i v hv => suburi_turn (fun C => ⟨_, rfl⟩) (fun C => rfl) (fun C => rfl) (fun C => rfl) (fun C => rfl) (fun C => rfl) ((cx1 _ rfl rfl).less (by omega)) rows S7.fx.mg mm7 dm7 ma7 da2 mP7 hlen lr2 hv, ?_⟩
      rintro ys led33 ⟨hys, kp33⟩ D34 h34 tk34 F34 N34 off34
      iterate 1 walk1
      have el : tab.take tvs.size = tab := by rw [← Array.length_toList, rows.len, List.take_length]
      rw [el, law_eq (r := r) ok td] at hys
      refine ke_ne_ints (News.isList N34 (.head _)) (by simpa using News.isList N34 (.tail _ (kp33 _ md7))) hys hx (show 4 + 3 + 64 < cLine by decide) ?_
      rw [decide_eq_true rfl]
      iterate 4 walk1
      have lv3 := vis_len P' r.1 (piecesOf (chs r.2)) ((piecesOf (chs r.2)).length + 1)
      have e20 : 20 * vs.size + 20 * (i + 1) = 20 * vs.size + 20 * i + 20 := by omega
      have S8 := S7.mono (led' := (D34, LCg.lst ys) :: led33) fun p hp _ => .tail _ (kp33 p hp)
      rw [← e20] at S8
      exact hPP _ _ ⟨_, _, _, _, rfl, F34, N34, .tail _ (kp33 _ mI7), _, _, ov1_set, by omega, S8, .tail _ (kp33 _ mS7)⟩
    · rintro h25 tk25 led25 m25 F25 N25 ⟨dv, P', rfl, lP', S3, mSL⟩
      try clear N22
      try clear N23
      try clear F24
      try clear N18
      try clear F18
      clear lI2 lSL fIt
      subst hm2
      have esz : ((avs.toList.take (2 * vs.size)).toArray).size = 2 * vs.size := by rw [List.size_toArray, List.length_take, Array.length_toList]; omega
      rw [esz] at lP' S3
      iterate 9 walk1
      rename Fr g L _ _ => F26
      rename News g L _ _ => N26
      refine wpAny_call ((shut_step S3 (by omega)).then (s := ⟨_, _, _, _, _⟩) ((cx1 _ rfl rfl).less (by omega)) F26 N26 ?_)
      rintro v27 led27 h27 tk27 F27 N27 ⟨rfl, S4⟩
      iterate 11 walk1
      rename Fr g L _ _ => F28
      rename News g L _ _ => N28
      refine wpAny_call ((fresh_step S4 (by omega)).then (s := ⟨_, _, _, _, _⟩) ((cx1 _ rfl rfl).less (by omega)) F28 N28 ?_)
      rintro v29 led29 h29 tk29 F29 N29 ⟨rfl, S5⟩
      iterate 4 walk1
      refine wpAny_For ?_
      iterate 8 walk1
      rename Fr g L _ _ => F30
      rename News g L _ _ => N30
      refine slice_any (lo := some _) F30 N30 (News.isList N30 S5.ru) (.int _ _) .none (zs := avs.toList.drop (2 * vs.size)) (by rw [eh]; exact pick_from) (by omega) (fun SA h31 F31 N31 lSA => ?_)
      iterate 7 walk1
      rename Fr g L _ _ => F32
      rename News g L _ _ => N32
      refine slice_any (hi := some _) F32 N32 (News.isList N32 (.tail _ S5.ru)) .none (.int _ _) (zs := avs.toList.take (2 * vs.size)) (by rw [eh]; exact pick_to) (by omega) (fun SB h33 F33 N33 lSB => ?_)
      clear F30 N30
      refine add_lists (vs := avs.toList.drop (2 * vs.size)) (ws := avs.toList.take (2 * vs.size)) F33 N33 (News.isList N33 (.tail _ (.head _))) (News.isList N33 (.head _)) (fun h34 F34 N34 => ?_) (by rw [sizeLine_eq, List.length_drop, List.length_take, Array.length_toList]; omega)
      refine iter_list (s := ⟨_, _, _, _, _⟩) F34 N34 (.head _) fun It3 h35 F35 N35 lI3 => ?_
      obtain ⟨m3, hm3, F36⟩ := name_map F35
      clear lI3 lSA lSB F33 N33 F34 N34 F35
      have ez3 : ((avs.toList.drop (2 * vs.size) ++ avs.toList.take (2 * vs.size)).toArray).size ≤ 24 := by rw [List.size_toArray, List.length_append, List.length_drop, List.length_take, Array.length_toList]; omega
      refine loop_list (items := (avs.toList.drop (2 * vs.size) ++ avs.toList.take (2 * vs.size)).toArray) (n := 0) rfl (fun i led₁ m₁ => ∃ dv, m₁ = ov1 m3 (Str.ofString "due") dv ∧ LawSt w true led₁ PD2 L xm x tl wl ql ac avs as T (mkT T) P' P' (20 * vs.size + 20 * (2 * vs.size) + 20 + 20 * i) vs.size ∧ (h33.objs.size, lobj (avs.toList.drop (2 * vs.size) ++ avs.toList.take (2 * vs.size)).toArray 0) ∈ led₁) [] (fun _ h => (nomatch h)) ?_ ?_ F36 N35 (.head _) ?_ ?_ ?_
      · rintro i led₁ led₂ m₁ fr ⟨dv, rfl, S, mSL⟩
        exact ⟨dv, rfl, S.free (.inl rfl) fr, fr _ mSL (.inr (.inl (show Value.type "list" ≠ Value.type "list_iterator" by decide)))⟩
      · rintro i led₁ m₁ ⟨dv, rfl, S, mSL⟩
        exact mSL
      · exact ⟨_, ov1_self, S5.mono fun p hp _ => .tail _ (.tail _ (.tail _ (.tail _ hp))), .tail _ (.head _)⟩
      · rintro i v led₁ m₁ h37 tk37 hv ⟨dv3, rfl, S6, mSL⟩ F37 N37 mI37 PP EE hPP
        clear F36 N35 S5 S4 S3
        subst hm3
        have hi : i < 24 := by
          rcases Nat.lt_or_ge i 24 with h | h
          · exact h
          · rw [Array.getElem?_eq_none (Nat.le_trans ez3 h)] at hv; cases hv
        have hvm : v ∈ avs.toList := by
          rw [List.getElem?_toArray] at hv
          rcases List.mem_append.mp (List.mem_of_getElem? hv) with h | h
          · exact List.drop_subset _ _ h
          · exact List.take_subset _ _ h
        obtain ⟨j, hv'⟩ := List.getElem?_of_mem hvm
        obtain ⟨r, hr, a, D, ta, ua, rfl, mP, mD, nD⟩ := S6.fx.ps.get hv'
        have gq := ga r (List.mem_of_getElem? hr)
        obtain ⟨oa1, va1, ma1, da1, ca1⟩ := S6.fx.ca
        iterate 1 walk1
        refine store_cell F37 N37 (by rfl) ma1 da1 fun h38 oa2 F38 N38 ma2 da2 => ?_
        have kd : ∀ p ∈ led₁, (∀ v, p.2.data ≠ .cell v) → p ∈ setL led₁ (L + 1 + 1) oa2 := fun p hp hn => mem_setL hp (led_ne N37 hp ma1 (fun e => hn va1 (by rw [e]; exact da1)))
        have S7 := S6.cell N37 ma1 da1 ca1 da2 mP
        have mP4 := kd _ mP (fun v e => by cases e)
        have mD4 := kd _ mD (fun v e => by cases e)
        have mI4 := kd _ mI37 (fun v e => by cases e)
        have mS4 := kd _ mSL (fun v e => by cases e)
        clear kd S6 mP mD mI37 mSL ma1 ca1 F37
        obtain ⟨led38, hled38, N39⟩ := name_led N38
        rw [← hled38] at S7 mP4 mD4 mI4 mS4 ma2
        clear hled38 N38 N37
        have hpr : PairIs (· ∉ PD2) led38 (.ref a) r := ⟨a, D, ta, ua, rfl, mP4, mD4, nD⟩
        iterate 11 walk1
        rename Fr g L _ _ => F40
        rename News g L _ _ => N40
        refine wpAny_call ((way_step S7 hpr gq (by omega)).then (s := ⟨_, _, _, _, _⟩) ((cx1 _ rfl rfl).less (by omega)) F40 N40 ?_)
        rintro v41 led41 h41 tk41 F41 N41 ⟨S8, k41, dl, xs, xn, rfl, md41, hx, hfr⟩
        have S8 : LawSt w true led41 PD2 L xm x tl wl ql ac avs as T (mkT T) P' P' (20 * vs.size + 20 * (2 * vs.size) + 20 + 20 * i + 20) vs.size := S8
        have mP5 := k41 _ mP4 (nn (show Value.ref 253 ≠ Value.ref 158 by decide))
        have mI5 := k41 _ mI4 (nn (show Value.type "list_iterator" ≠ Value.ref 158 by decide))
        have mS5 := k41 _ mS4 (nn (show Value.type "list" ≠ Value.ref 158 by decide))
        have ma5 := k41 _ ma2 (FO.nn (PD := []) (.inl ⟨_, da2⟩))
        clear S7 mP4 mD4 mI4 mS4 ma2 k41 hpr hfr
        have lr2 : r.2.length ≤ 1000 := Nat.le_trans gq.2.2 (by decide)
        obtain ⟨tvs, tc, tab, mt, rows, ok, td, sz⟩ := S8.tb
        obtain ⟨om7, mm7, dm7⟩ := S8.fx.cm
        have hlen : ∀ e ∈ tab, e.1.2.length ≤ 1000 := fun e he => S8.hT e.1 e.2 ((td _ _).mp he)
        iterate 5 walk1
        rename Fr g L _ _ => F42
        rename News g L _ _ => N42
        refine ListComp_PT F42 (cl := [(Str.ofString "manager", L + 1), (Str.ofString "address", L + 1 + 1)]) (by with_unfolding_all rfl) (by decide) rfl (by decide) rfl rfl (by decide) rfl ?_
        refine nameX_L F42 (by rfl) ?_
        refine ⟨tl, tvs, tc, led41, rfl, by omega, F42, N42, ?_⟩
        rintro s₂ ⟨h43, rfl⟩
        refine ⟨fun i ys led' => IntsAre ys (((tab.take i).filter fun e => belowR e.1 r).map fun e => ((e.2 : Nat) : Int)) ∧ ∀ p ∈ led41, p ∈ led', fun i ys led' h => h.2 _ mt, ⟨.nil, fun p hp => hp⟩, fun i v hv => suburi_turn (fun C => ⟨_, rfl⟩) (fun C => rfl) (fun C => rfl) (fun C => rfl) (fun C => rfl) (fun C => rfl) ((cx1 _ rfl rfl).less (by omega)) rows S8.fx.mg mm7 dm7 ma5 da2 mP5 hlen lr2 hv, ?_⟩
        rintro ys led43 ⟨hys, kp43⟩ D44 h44 tk44 F44 N44 off44
        iterate 1 walk1
        have el : tab.take tvs.size = tab := by rw [← Array.length_toList, rows.len, List.take_length]
        rw [el, law_eq (r := r) ok td] at hys
        refine ke_ne_ints (News.isList N44 (.head _)) (by simpa using News.isList N44 (.tail _ (kp43 _ md41))) hys hx (show 4 + 3 + 64 < cLine by decide) ?_
        rw [decide_eq_true rfl]
        iterate 4 walk1
        have e20 : 20 * vs.size + 20 * (2 * vs.size) + 20 + 20 * (i + 1) = 20 * vs.size + 20 * (2 * vs.size) + 20 + 20 * i + 20 := by omega
        have S9 := S8.mono (led' := (D44, LCg.lst ys) :: led43) fun p hp _ => .tail _ (kp43 p hp)
        rw [← e20] at S9
        exact hPP _ _ ⟨_, _, _, _, rfl, F44, N44, .tail _ (kp43 _ mI5), _, ov1_set, S9, .tail _ (kp43 _ mS5)⟩
      · rintro h37 tk37 led37 m37 F37 N37 ⟨dv3, rfl, S6, mSL⟩
        clear F36 N35 S5 S4 S3
        subst hm3
        iterate 10 walk1
        rename Fr g L _ _ => F45
        rename News g L _ _ => N45
        refine wpAny_call ((count_cur S6.tr (by omega) (fun q hq => (S6.hp q hq).2)).then (s := ⟨_, _, _, _, _⟩) ((cx1 _ rfl rfl).less (by omega)) F45 N45 ?_)
        rintro v46 led46 h46 tk46 F46 N46 ⟨k46, t46, rfl⟩
        obtain ⟨wvs, wc, mw, sw⟩ := S6.wy
        have hw : wvs.size = P'.length := by rw [← Array.length_toList, sw.length, List.length_map]
        iterate 6 walk1
        rename Fr g L _ _ => F47
        rename News g L _ _ => N47
        refine len_led (s := ⟨_, _, _, _, _⟩) N47 (k46 _ mw) (by omega) fun t48 tk48 => ?_
        rw [hw]
        iterate 2 walk1
        · rw [beq_self_eq_true]
          wrow_close
        · obtain ⟨pz, hz, _⟩ := S6.tg
          exact ⟨GrownAt.of N47 (k46 _ hz), True.intro⟩)
end Mine
theorem PySem.Challenge.cw_il0135_01_holds : PySem.Challenge.rw_il0135_01.Holds := by
  exact PySem.W.holds_law Mine.said0 fun _ => Mine.law_walk
