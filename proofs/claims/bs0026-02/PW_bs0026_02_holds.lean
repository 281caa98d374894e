import PyProof.Rows.All
import Wide.All
import OpenK.AllK
import Wide.FinOn
import Lean
import PySem.Challenge.RW_bs0026_02
open PySem PySem.W PyProof.Rows PySem.Calls PySem.Spec
set_option Elab.async false
set_option maxRecDepth 100000
set_option maxHeartbeats 8000000
set_option linter.all false
-- C1
namespace Mine

section raw
variable {prog : Program} {w : World} {A : Around} {E : Value → Shared → Prop} {s : Shared} {K : Frag} {x C dx : Addr} {es : List DictEntry} {n : Nat} {name : Str} {v : Value}

/-- an own object with a written-out dict -/
def Inst (h : Heap) (x C dx : Addr) (es : List DictEntry) (n : Nat) : Prop := h.get? x = some (instObj C dx) ∧ h.get? dx = some (dictOf es n)
theorem Inst.at {h : Heap} (I : Inst h x C dx es n) : PySem.W.InstAt h x (instObj C dx) C (some (dictOf es n)) := ⟨I.1, rfl, rfl, I.2⟩

/-- what is asked of a class whose instances are plain -/
structure PlainCls (K : Frag) (C : Addr) : Prop where
  ga : findIn K (.ref C) "__getattribute__" = some (some (.builtin "object.__getattribute__"))
  gt : findIn K (.ref C) "__getattr__" = some none
  sa : findIn K (.ref C) "__setattr__" = some (some (.builtin "object.__setattr__"))
  over : plainOver K C = true
  hd : hasDictIn K C = true

theorem set_raw {Q : Unit → Shared → Prop} (X : K.In s.heap) (P : PlainCls K C) (I : Inst s.heap x C dx es n)
    (ht : takerIn K C name = some none) (hl : (getL name es).isSome = true) (hz : (putL name (PyData.keyHash w.params name) (.str name (s.toks + 1)) v es).length ≤ 1000)
    (h : ∀ h', h'.get? dx = some (dictOf (putL name (PyData.keyHash w.params name) (.str name (s.toks + 1)) v es) (putN name es n)) → Heap.SameBut dx s.heap h' → Q () { s with heap := h', toks := s.toks + 2 }) :
    wpAny (model prog w) A (setAttr (.ref x) name v) Q E s := by
  obtain ⟨hp, g, d, t, os⟩ := s
  refine set_plain X I.at P.sa ?_
  refine osa_open (s := ⟨hp, g, d, t + 1, os⟩) X I.at P.over ht fun b => ?_
  obtain ⟨cd, hc, hd'⟩ := any_some P.hd
  refine wpAny_bind (wpAny_pure (wpAny_bind (wpAny_bind (wpAny_loadPart I.1 ?_))))
  dsimp only [instObj]
  refine wpAny_bind (Looks.here (s := ⟨hp, g, d, t + 1, os⟩) (looks_clsIn X hc) ?_)
  rw [hd']
  refine wpAny_pure (a := some dx) (wpAny_bind (wpAny_pure (wpAny_bind ?_)))
  unfold nsSet
  refine wpAny_bind (wpAny_bind (wpAny_askSetting (wpAny_pure (wpAny_bind (wpAny_mkText (wpAny_bind (wpAny_loadPart I.2 ?_)))))))
  dsimp only
  have c : aRefKeyMayBeTheName name es.toArray = false := by
    rw [aRefKeyMayBeTheName_at]
    unfold getL at hl
    rw [← Array.any_toList, ← Array.any_toList]
    split at hl
    · rename_i en he
      rw [List.any_eq_true.mpr ⟨en, List.mem_of_find?_eq_some he, List.find?_some he⟩]; rfl
    · split at hl
      · cases hl
      · rename_i z; rw [Bool.not_eq_true] at z; rw [z, Bool.and_false]
  rw [c]
  refine wpAny_updatePart I.2 ?_
  have D' : (hp.update dx (Obj.putName name (PyData.keyHash w.params name) (.str name (t + 1)) v)).get? dx = some (dictOf (putL name (PyData.keyHash w.params name) (.str name (t + 1)) v es) (putN name es n)) := by
    have := Heap.get?_update_self (Obj.putName name (PyData.keyHash w.params name) (.str name (t + 1)) v) I.2 (by rw [putName_dict]; rfl)
    rw [this, putName_dict]
  refine wpAny_bind (wpAny_lookBehind D' (pastItsLine_dict (by rw [List.size_toArray, sizeLine_eq]; exact Nat.le_trans hz (by decide))) ?_)
  exact wpAny_pure (h _ D' (Heap.SameBut.update ..))

theorem get_raw {Q : Value → Shared → Prop} {expr : Bool} {attr : Option Value} (X : K.In s.heap) (P : PlainCls K C) (I : Inst s.heap x C dx es n)
    (ha : findIn K (.ref C) name = some attr) (hn : noGet K attr = true) (hl : getL name es = some (some v)) (hv : handedIn v = true) (h : Q v { s with toks := s.toks + 1 }) :
    wpAny (model prog w) A (getAttr (.ref x) name expr) Q E s :=
  get_value X I.at P.ga (findObj_own P.hd ha hn hl) hv h

theorem meth_raw {pl : Sem Bool} {Q : Value × List Value → Shared → Prop} {f : Addr} (X : K.In s.heap) (P : PlainCls K C) (I : Inst s.heap x C dx es n)
    (hf : findIn K (.ref C) name = some (some (.ref f))) (ht : typeIn K (.ref f) = some (.type "function")) (hl : getL name es = some none) (h : Q (.ref f, [.ref x]) s) :
    wpAny (model prog w) A (getMethod (.ref x) name pl) Q E s :=
  method_fn X I.at P.ga P.gt hf ht (by show (lookIn name (dictOf es n)).map _ = _; rw [lookIn_dict, hl]; rfl) h

theorem prop_raw {Q : Value → Shared → Prop} {expr : Bool} {p fget : Addr} {rest : List Value} (X : K.In s.heap) (P : PlainCls K C) (I : Inst s.heap x C dx es n)
    (ha : findIn K (.ref C) name = some (some (.ref p))) (hn : specialIn K (.ref p) "__get__" = some (some (.builtin "property.__get__"))) (ht : takesIn K (.ref p) = some true) (hp : recIn K p "property" = some (.ref fget :: rest))
    (h : codeAny (model prog w) A.in1 (.call (.ref fget) ⟨[.ref x], []⟩) (fun r s' => match r with | .ok (.ret v) => wpAny (model prog w) A (handedOut v) Q E s' | .ok _ => False | .error e => wpAny (model prog w) A (noteIf true (.ref x) (.str name s.toks) e) (fun _ s'' => E e s'') E s') { s with toks := s.toks + 1 }) :
    wpAny (model prog w) A (getAttr (.ref x) name expr) Q E s :=
  get_bind X I.at P.ga (findObj_data (by obtain ⟨cd, hc, _⟩ := any_some P.hd; rw [hc]; rfl) ha hn ht) P.gt (wpAny_call (prop_get (s := { s with toks := s.toks + 1 }) X hp h))

/-- the class's name, short enough for the message -/
def nameShort (K : Frag) (C : Addr) : Bool := (clsIn K C).any fun cd => decide (cd.name.cps.foldl (fun k c => k + (Str.utf8Of c).length) 0 ≤ 100) && decide (cd.name.toString.length ≤ 50)

theorem pre_short {a : String} (h : a.length ≤ 50) : (s!"'{a}' object has no attribute '").length ≤ 90 := by
  have e : (s!"'{a}' object has no attribute '") = "'" ++ a ++ "' object has no attribute '" := rfl
  rw [e, String.length_append, String.length_append]
  have e1 : "'".length = 1 := by decide
  have e2 : "' object has no attribute '".length = 27 := by decide
  omega

theorem miss_raw {Q : Value → Shared → Prop} {expr : Bool} (X : K.In s.heap) (P : PlainCls K C) (hN : nameShort K C = true) (I : Inst s.heap x C dx es n)
    (ha : findIn K (.ref C) name = some none) (hc : copiedNames.contains name = false) (hl : getL name es = some none) (hA : A.handled = none) (hsz : name.length + 100 ≤ sizeLine)
    (h : ∀ h' tk e, Heap.NewExcOf s.heap h' e "AttributeError" → E (.ref e) { s with heap := h', toks := tk }) :
    wpAny (model prog w) A (getAttr (.ref x) name expr) Q E s := by
  have hf : findObj K C (some (dictOf es n)) name = some .missing := by
    obtain ⟨cd, hcd, hd⟩ := any_some P.hd
    unfold findObj
    have ho : PySem.W.ownOf cd (some (dictOf es n)) name = some none := by unfold PySem.W.ownOf; rw [if_pos hd]; exact hl
    rw [hcd, Option.bind_some, ha, Option.bind_some]
    simp only [ho, hc, Option.bind_some, Bool.false_and, Bool.false_eq_true, if_false]
  refine get_open X I.at P.ga ?_
  obtain ⟨hh', gg, d, t, os⟩ := s
  have L0 := I.at.type (M := model prog w)
  have L1 := looks_find (M := model prog w) X I.at hf
  have L2 := looks_findIn (M := model prog w) X P.gt
  obtain ⟨cd, hcd, hnn⟩ := any_some hN
  rw [Bool.and_eq_true, decide_eq_true_eq, decide_eq_true_eq] at hnn
  have L3 := looks_clsIn (M := model prog w) X hcd
  refine wpAny_bind (wpAny_pure (wpAny_bind (L0.at (wpAny_bind (L1.at (wpAny_bind (L2.at ?_)))))))
  show wpAny _ _ (Builtin.ObjectAttr.noSuchAttribute (.ref x) name) _ _ _
  unfold Builtin.ObjectAttr.noSuchAttribute typeNameOfCut shownTypeOf
  refine wpAny_bind (wpAny_bind (wpAny_bind (L0.at ?_)))
  rw [if_neg (by simp)]
  refine wpAny_pure ?_
  unfold typeNameCut
  refine wpAny_bind (L3.at ?_)
  rw [if_pos hnn.1]
  refine wpAny_pure ?_
  refine wpAny_raiseAttrError hA (fun h' tk e he => ?_) (attrMsg_fits (pre_short hnn.2) hsz)
  show wpAny _ _ (noteAttr (.ref e) (.ref x) (.str name t)) _ _ _
  obtain ⟨t', u', he'⟩ := he.there
  have f1 := sub_AttributeError
  unfold noteAttr lacksNameAndObj
  repeat (any_goals (first | assumption | wp_step))
  exact h _ _ _ he.of

end raw
end Mine

-- C2
namespace Mine

/-- the constants of a proof: the program, the world, the written part, the two namespaces, the heap at the call, its system -/
structure G where
  prog : Program
  w : World
  K : Frag
  mg : Str → Option Value
  mb : Str → Option Value
  B : Heap
  os : OsState
  gk : Nat → Option GenState

structure St0 (g : G) (h : Heap) : Prop where
  kin : g.K.In h
  gns : h.Ns mainGlobals g.mg
  bns : h.Ns builtinsNs g.mb
  nl : h.NoLimit
  bu : ∀ x : Str, x ≠ "__name__" → g.mb x = bootBuiltins x
theorem St0.keeps {g : G} {h h' : Heap} (S : St0 g h) (k : h.StaysIn h') : St0 g h' := ⟨S.kin.keeps k, S.gns.keeps k, S.bns.keeps k, S.nl.keeps k, S.bu⟩

abbrev G.M (g : G) : Model := model g.prog g.w

/-- data -/
inductive AV where
  | none | bool (b : Bool) | int (i : Int) | ref (a : Addr) | list (xs : List AV)

inductive RV (X : Addr → Prop) (h : Heap) : AV → Value → Prop where
  | none : RV X h .none .none
  | bool (b : Bool) : RV X h (.bool b) (.bool b)
  | int (i : Int) (t : Tok) : RV X h (.int i) (.int i t)
  | ref (a : Addr) : RV X h (.ref a) (.ref a)
  | list {xs : List AV} {vs : List Value} {a : Addr} {o : Obj} {n : Nat} : X a → h.get? a = some o → o.cls = .type "list" → o.data = .seq vs.toArray n → xs.length = vs.length → (∀ (i : Nat) (x : AV) (v : Value), xs[i]? = some x → vs[i]? = some v → RV X h x v) → RV X h (.list xs) (.ref a)

def nd (o : Obj) : Prop := ∀ es n, o.data ≠ .dict es n
theorem nd_list {vs : Array Value} {n : Nat} : nd (listOf vs n) := fun _ _ h => nomatch h
theorem nd_seq {o : Obj} {vs : Array Value} {n : Nat} (e : o.data = .seq vs n) : nd o := fun _ _ h => by rw [e] at h; cases h

theorem RV.mono {X X' : Addr → Prop} {h h' : Heap} {v : AV} {val : Value} (r : RV X h v val) (hX : ∀ a o, h.get? a = some o → nd o → X a → X' a ∧ h'.get? a = some o) : RV X' h' v val := by
  induction r with
  | none => exact .none
  | bool b => exact .bool b
  | int i t => exact .int i t
  | ref a => exact .ref a
  | list ha hg hc hd hl _ ih =>
    obtain ⟨h1, h2⟩ := hX _ _ hg (nd_seq hd) ha
    exact .list h1 h2 hc hd hl ih

/-- what may be changed: instances (class, dict's address, attributes) and lists of ints -/
inductive MO where
  | inst (C d : Addr) (at_ : List (Str × AV))
  | lst (xs : List Int)
  | opq
abbrev MH := Addr → Option MO
def isL : Option MO → Bool
  | some (.lst _) => true
  | some .opq => true
  | _ => false
def isM : Option MO → Bool
  | some (.lst _) => true
  | _ => false
theorem isM_of {o : Option MO} (h : isL o = false) : isM o = false := by cases o with | none => rfl | some o => cases o <;> first | rfl | cases h
def Im (mh : MH) (a : Addr) : Prop := isL (mh a) = false

/-- a dict's entries say the attributes -/
inductive AttrR : List DictEntry → List (Str × AV) → Prop where
  | nil : AttrR [] []
  | cons {es at_} {hsh : Int} {x : Str} {t : Tok} {val : Value} {v : AV} : RV (fun _ => False) {} v val → AttrR es at_ → AttrR (⟨hsh, .str x t, val⟩ :: es) ((x, v) :: at_)

def MRep (h : Heap) (a : Addr) : MO → Prop
  | .inst C d at_ => ∃ es n, Inst h a C d es n ∧ AttrR es at_
  | .lst xs => ∃ vs n, h.get? a = some (listOf vs.toArray n) ∧ IntsAre vs xs
  | .opq => ∃ vs n, h.get? a = some (listOf vs n)

def MO.inB (B : Heap) (ps : List Addr) (a : Addr) : MO → Prop
  | .inst _ d at_ => B.get? a = none ∧ B.get? d = none ∧ d ∉ ps ∧ at_.length ≤ 20
  | .lst _ => B.get? a = none
  | .opq => True

structure H (g : G) (stk : List Env) (ps : List Addr) (mh : MH) (s : Shared) : Prop where
  stays : g.B.StaysIn s.heap
  os : s.os = g.os
  bare : AllBare s.gens ∧ ∀ (i : Nat) (st : GenState), g.gk i = some st → s.gens[i]? = some st
  rep : ∀ a o, mh a = some o → MRep s.heap a o
  off : ∀ a o, mh a = some o → o.inB g.B ps a
  inj : ∀ a a' C C' d at_ at', mh a = some (.inst C d at_) → mh a' = some (.inst C' d at') → a = a'
  frm : s.heap.FunFrames g.B stk
  sps : ∀ L, L ∈ stk.filterMap (·.frame) → L ∈ ps
  psd : ∀ L ∈ ps, g.B.get? L = none ∧ ∃ o es n, s.heap.get? L = some o ∧ o.data = .dict es n

/-- what an expression keeps -/
structure T (ps : List Addr) (h h' : Heap) : Prop where
  nd : ∀ b o, h.get? b = some o → nd o → h'.get? b = some o
  ns : ∀ L ∈ ps, ∀ o es n, h.get? L = some o → o.data = .dict es n → ∃ o', h'.get? L = some o' ∧ o'.data = .dict es n
  live : ∀ b o, h.get? b = some o → ∃ o', h'.get? b = some o'
theorem T.refl (ps : List Addr) (h : Heap) : T ps h h := ⟨fun _ _ e _ => e, fun _ _ o _ _ e d => ⟨o, e, d⟩, fun _ o e => ⟨o, e⟩⟩
theorem T.trans {ps : List Addr} {h h' h'' : Heap} (x : T ps h h') (y : T ps h' h'') : T ps h h'' :=
  ⟨fun b o e d => y.nd b o (x.nd b o e d) d, fun L hL o es n e d => by obtain ⟨o', e', d'⟩ := x.ns L hL o es n e d; exact y.ns L hL o' es n e' d', fun b o e => by obtain ⟨o', e'⟩ := x.live b o e; exact y.live b o' e'⟩
theorem T.of_keeps {ps : List Addr} {h h' : Heap} (k : ∀ b o, h.get? b = some o → h'.get? b = some o) : T ps h h' :=
  ⟨fun b o e _ => k b o e, fun _ _ o _ _ e d => ⟨o, k _ _ e, d⟩, fun b o e => ⟨o, k b o e⟩⟩
theorem T.sub {ps ps' : List Addr} {h h' : Heap} (x : T ps h h') (k : ∀ a ∈ ps', a ∈ ps) : T ps' h h' := ⟨x.nd, fun L hL => x.ns L (k L hL), x.live⟩

theorem Ns.of_data {h h' : Heap} {L : Addr} {m : Str → Option Value} (n : h.Ns L m) (k : ∀ o es ep, h.get? L = some o → o.data = .dict es ep → ∃ o', h'.get? L = some o' ∧ o'.data = .dict es ep) : h'.Ns L m := by
  obtain ⟨o, es, ep, e, d, r⟩ := n
  obtain ⟨o', e', d'⟩ := k o es ep e d
  exact ⟨o', es, ep, e', d', r⟩
theorem T.Ns {ps : List Addr} {h h' : Heap} (x : T ps h h') {L : Addr} {m : Str → Option Value} (hL : L ∈ ps) (n : h.Ns L m) : h'.Ns L m := Ns.of_data n (x.ns L hL)

/-- the frame's names -/
abbrev FR := List (Str × AV)
def Rd (env : Env) (h : Heap) (x : Str) (v : Value) : Prop :=
  (env.kindOf x = some .local ∧ ∃ m, h.Ns env.locals m ∧ m x = some v) ∨ ((env.kindOf x = some .cell ∨ env.kindOf x = some .free) ∧ ∃ c, env.cells.lookup x = some c ∧ h.IsCell c (some v))
structure FrR (env : Env) (fr : FR) (mh : MH) (h : Heap) : Prop where
  loc : ∃ m, h.Ns env.locals m
  cel : ∀ x c, (x, c) ∈ env.cells → ∃ v0, h.IsCell c v0
  nam : ∀ x v, fr.lookup x = some v → ∃ val, Rd env h x val ∧ RV (Im mh) h v val

theorem Rd.T {ps : List Addr} {h h' : Heap} {env : Env} {x : Str} {v : Value} (r : Rd env h x v) (t : T ps h h') (hL : env.locals ∈ ps) : Rd env h' x v := by
  rcases r with ⟨hk, m, hn, hm⟩ | ⟨hk, c, hc, o, ho, hd⟩
  · exact .inl ⟨hk, m, t.Ns hL hn, hm⟩
  · exact .inr ⟨hk, c, hc, o, t.nd _ _ ho (by intro es n q; rw [hd] at q; cases q), hd⟩
theorem FrR.T {ps : List Addr} {h h' : Heap} {env : Env} {fr : FR} {mh mh' : MH} (F : FrR env fr mh h) (t : T ps h h') (hL : env.locals ∈ ps) (hm : ∀ a o, h.get? a = some o → Im mh a → Im mh' a) : FrR env fr mh' h' := ⟨let ⟨m, hn⟩ := F.loc; ⟨m, t.Ns hL hn⟩, fun x c e => let ⟨v0, o, ho, hd⟩ := F.cel x c e; ⟨v0, o, t.nd _ _ ho (by intro es n q; rw [hd] at q; cases q), hd⟩, fun x v e => by
  obtain ⟨val, r, rv⟩ := F.nam x v e
  exact ⟨val, r.T t hL, rv.mono fun a o e d hi => ⟨hm a o e hi, t.nd a o e d⟩⟩⟩
theorem FrR.sub {h : Heap} {env : Env} {fr fr' : FR} {mh : MH} (F : FrR env fr mh h) (k : ∀ x v, fr'.lookup x = some v → fr.lookup x = some v) : FrR env fr' mh h := ⟨F.loc, F.cel, fun x v e => F.nam x v (k x v e)⟩

/-- the lists that may change stay as they are -/
def SameL (mh mh' : MH) : Prop := ∀ a, isL (mh a) = true ∨ isL (mh' a) = true → mh' a = mh a
theorem SameL.refl (mh : MH) : SameL mh mh := fun _ _ => rfl
theorem SameL.trans {a b c : MH} (x : SameL a b) (y : SameL b c) : SameL a c := fun i h => by
  rcases h with h | h
  · have := x i (.inl h); rw [← this] at h; exact (y i (.inl h)).trans this
  · have := y i (.inr h); rw [this] at h; exact this.trans (x i (.inr h))
theorem SameL.im {mh mh' : MH} (x : SameL mh mh') {a : Addr} (h : Im mh a) : Im mh' a := by
  unfold Im at *
  cases q : isL (mh' a) with
  | false => rfl
  | true => rw [x a (.inr q), h] at q; cases q

/-- room for n calls more -/
structure Room (n : Nat) (A : Around) (stk : List Env) : Prop where
  handled : A.handled = none
  frames : A.frames = some stk
  depth : A.depth + n < recursionLimit
  units : A.units + 16 * n + 64 < cLine
theorem Room.less {n m : Nat} {A : Around} {stk : List Env} (R : Room n A stk) (h : m ≤ n) : Room m A stk := ⟨R.handled, R.frames, by have := R.depth; omega, by have := R.units; omega⟩
theorem Room.in1 {n : Nat} {A : Around} {stk : List Env} (R : Room (n + 1) A stk) : Room n A.in1 stk := ⟨R.handled, R.frames, by have := R.depth; show A.depth + n < _; omega, by have := R.units; show A.units + 1 + 16 * n + 64 < _; omega⟩
theorem Room.deeper {n : Nat} {A : Around} {stk : List Env} (R : Room (n + 1) A stk) (env : Env) : Room n (A.deeper env) (env :: stk) :=
  ⟨R.handled, by show A.frames.map _ = _; rw [R.frames]; rfl, by have := R.depth; show A.depth + 1 + n < _; omega, by have := R.units; show A.units + 3 + 16 * n + 64 < _; omega⟩

/-- an expression's judgement -/
def EV (g : G) (stk : List Env) (ps : List Addr) (n : Nat) (env : Env) (fr : FR) (mh : MH) (e : Expr) (P : AV → MH → Prop) : Prop :=
  ∀ (A : Around) (s : Shared) (Q : Value → Shared → Prop) (E : Value → Shared → Prop), Room n A stk → H g stk ps mh s → FrR env fr mh s.heap →
    (∀ s' v val mh', P v mh' → H g stk ps mh' s' → T ps s.heap s'.heap → SameL mh mh' → RV (Im mh') s'.heap v val → Q val s') → wpAny g.M A (eval e env) Q E s

/-- a list of arguments -/
abbrev RVs (X : Addr → Prop) (h : Heap) (vs : List AV) (vals : List Value) : Prop := PySem.Paired (RV X h) vs vals
/-- a call's judgement: the arguments are data -/
def CA (g : G) (n : Nat) (f : Value) (as : List AV) (mh : MH) (P : AV → MH → Prop) : Prop :=
  ∀ (stk : List Env) (ps : List Addr) (A : Around) (s : Shared) (vals : List Value) (R : Result → Shared → Prop), Room n A stk → H g stk ps mh s → RVs (Im mh) s.heap as vals →
    (∀ s' v val mh', P v mh' → H g stk ps mh' s' → T ps s.heap s'.heap → SameL mh mh' → RV (Im mh') s'.heap v val → R (.ok (.ret val)) s') → codeAny g.M A (.call f ⟨vals, []⟩) R s
theorem CA.mono {g : G} {n : Nat} {f : Value} {as : List AV} {mh : MH} {P P' : AV → MH → Prop} (h : CA g n f as mh P) (k : ∀ v m, P v m → P' v m) : CA g n f as mh P' :=
  fun stk ps A s vals R Rm hs ra hq => h stk ps A s vals R Rm hs ra fun s' v val mh' p => hq s' v val mh' (k v mh' p)
theorem CA.less {g : G} {n m : Nat} {f : Value} {as : List AV} {mh : MH} {P : AV → MH → Prop} (h : CA g n f as mh P) (k : n ≤ m) : CA g m f as mh P :=
  fun stk ps A s vals R Rm hs ra hq => h stk ps A s vals R (Rm.less k) hs ra hq

end Mine

-- C3
namespace Mine

theorem AttrR.nodata {es : List DictEntry} {at_ : List (Str × AV)} (r : AttrR es at_) : True := trivial

theorem MRep.keeps {h h' : Heap} {a : Addr} {o : MO} (r : MRep h a o) (k : ∀ b ob, h.get? b = some ob → h'.get? b = some ob) : MRep h' a o := by
  cases o with
  | inst C d at_ => obtain ⟨es, n, ⟨i1, i2⟩, ar⟩ := r; exact ⟨es, n, ⟨k _ _ i1, k _ _ i2⟩, ar⟩
  | lst xs => obtain ⟨vs, n, e, iv⟩ := r; exact ⟨vs, n, k _ _ e, iv⟩
  | opq => obtain ⟨vs, n, e⟩ := r; exact ⟨vs, n, k _ _ e⟩

theorem funFrames_keeps {B h h' : Heap} {l : List Env} (f : h.FunFrames B l) (k : ∀ b o, h.get? b = some o → h'.get? b = some o) : h'.FunFrames B l :=
  f.of_keeps fun b o e _ => ⟨o, k b o e, rfl⟩

section
variable {g : G} {stk : List Env} {ps : List Addr} {n : Nat} {env : Env} {fr : FR} {mh : MH}

/-- nothing that was there turns -/
structure Kp (s s' : Shared) : Prop where
  heap : ∀ b o, s.heap.get? b = some o → s'.heap.get? b = some o
  gens : s'.gens = s.gens
  os : s'.os = s.os
theorem H.keeps {s s' : Shared} (h : H g stk ps mh s) (k : Kp s s') : H g stk ps mh s' :=
  ⟨fun b o e => k.heap b o (h.stays b o e), k.os.trans h.os, by rw [k.gens]; exact h.bare, fun a o e => (h.rep a o e).keeps k.heap, h.off, h.inj, funFrames_keeps h.frm k.heap, h.sps, fun L hL => ⟨(h.psd L hL).1, let ⟨o, es, n, e, d⟩ := (h.psd L hL).2; ⟨o, es, n, k.heap _ _ e, d⟩⟩⟩

theorem Kp.refl (s : Shared) : Kp s s := ⟨fun _ _ e => e, rfl, rfl⟩
theorem Kp.tok (s : Shared) (t : Nat) : Kp s { s with toks := t } := ⟨fun _ _ e => e, rfl, rfl⟩
theorem Kp.of {s : Shared} {h' : Heap} {t : Nat} (k : ∀ b o, s.heap.get? b = some o → h'.get? b = some o) : Kp s { s with heap := h', toks := t } := ⟨k, rfl, rfl⟩
theorem Kp.trans {s s' s'' : Shared} (a : Kp s s') (b : Kp s' s'') : Kp s s'' := ⟨fun b' o e => b.heap b' o (a.heap b' o e), b.gens.trans a.gens, b.os.trans a.os⟩
theorem Kp.T {s s' : Shared} (k : Kp s s') (ps : List Addr) : T ps s.heap s'.heap := T.of_keeps k.heap
theorem Kp.push (s : Shared) (o : Obj) (t : Nat) : Kp s { s with heap := s.heap.push o, toks := t } := .of fun _ _ e => Heap.get?_push_of_some _ e

/-- a fresh address is none of the lists that may change -/
theorem H.im_new {s : Shared} (h : H g stk ps mh s) {a : Addr} (e : s.heap.get? a = none) : Im mh a := by
  unfold Im
  cases q : mh a with
  | none => rfl
  | some o =>
    cases o with
    | inst => rfl
    | lst xs => obtain ⟨vs, n, e', _⟩ := h.rep a _ q; rw [e] at e'; cases e'
    | opq => obtain ⟨vs, n, e'⟩ := h.rep a _ q; rw [e] at e'; cases e'

/-- an operation on data -/
def OP2 (g : G) (mh : MH) (f : Value → Value → Sem Value) (v1 v2 v : AV) : Prop :=
  ∀ (A : Around) (stk : List Env) (ps : List Addr) (s : Shared) (x1 x2 : Value) (Q : Value → Shared → Prop) (E : Value → Shared → Prop), A.handled = none → A.units + 64 < cLine → H g stk ps mh s → RV (Im mh) s.heap v1 x1 → RV (Im mh) s.heap v2 x2 →
    (∀ s' val, Kp s s' → RV (Im mh) s'.heap v val → Q val s') → wpAny g.M A (f x1 x2) Q E s
def OP1 (g : G) (mh : MH) (f : Value → Sem Value) (v1 v : AV) : Prop :=
  ∀ (A : Around) (stk : List Env) (ps : List Addr) (s : Shared) (x1 : Value) (Q : Value → Shared → Prop) (E : Value → Shared → Prop), A.handled = none → A.units + 64 < cLine → H g stk ps mh s → RV (Im mh) s.heap v1 x1 →
    (∀ s' val, Kp s s' → RV (Im mh) s'.heap v val → Q val s') → wpAny g.M A (f x1) Q E s

theorem EV.mono {e : Expr} {P P' : AV → MH → Prop} (h : EV g stk ps n env fr mh e P) (k : ∀ v m, P v m → P' v m) : EV g stk ps n env fr mh e P' :=
  fun A s Q E R hs hf hq => h A s Q E R hs hf fun s' v val mh' p => hq s' v val mh' (k v mh' p)
theorem EV.less {m : Nat} {e : Expr} {P : AV → MH → Prop} (h : EV g stk ps m env fr mh e P) (k : m ≤ n) : EV g stk ps n env fr mh e P :=
  fun A s Q E R hs hf hq => h A s Q E (R.less k) hs hf hq

/-- the same value, nothing turned -/
abbrev Is (mh : MH) (v : AV) : AV → MH → Prop := fun v' m' => v' = v ∧ m' = mh

theorem EV.const_int {i : Int} {k : Nat} {pos : Pos} : EV g stk ps n env fr mh (.Constant (.int i) k pos) (Is mh (.int i)) := fun A s Q E R hs hf hq =>
  wpAny_Constant_int (hq _ _ _ mh ⟨rfl, rfl⟩ (hs.keeps (Kp.tok s _)) ((Kp.tok s _).T ps) (SameL.refl _) (.int _ _))
theorem EV.const_bool {b : Bool} {k : Nat} {pos : Pos} : EV g stk ps n env fr mh (.Constant (.bool b) k pos) (Is mh (.bool b)) := fun A s Q E R hs hf hq =>
  wpAny_Constant_bool (hq _ _ _ mh ⟨rfl, rfl⟩ hs (T.refl ..) (SameL.refl _) (.bool _))
theorem EV.const_none {k : Nat} {pos : Pos} : EV g stk ps n env fr mh (.Constant .none k pos) (Is mh .none) := fun A s Q E R hs hf hq =>
  wpAny_Constant_none (hq _ _ _ mh ⟨rfl, rfl⟩ hs (T.refl ..) (SameL.refl _) .none)

theorem Rd.load {A : Around} {s : Shared} {Q : Value → Shared → Prop} {E : Value → Shared → Prop} {x : Str} {v : Value} (r : Rd env s.heap x v) (hk : env.scope.kind = .function) (hn : (x == ("__classdict__" : Str)) = false) (h : Q v s) : wpAny g.M A (loadName env x) Q E s := by
  rcases r with ⟨hl, m, hm, hv⟩ | ⟨hl | hl, c, hc, hv⟩
  · exact wpAny_loadName_local hk hl hm hv h
  · exact wpAny_loadName_cell hk hl hc hv h
  · exact wpAny_loadName_free hk hl hc hv h hn

theorem EV.name {x : Str} {pos : Pos} {v : AV} (hk : env.scope.kind = .function) (e : fr.lookup x = some v) (hd : (x == ("__debug__" : Str)) = false) (hn : (x == ("__classdict__" : Str)) = false) : EV g stk ps n env fr mh (.Name x pos) (Is mh v) := fun A s Q E R hs hf hq => by
  obtain ⟨val, r, rv⟩ := hf.nam x v e
  exact wpAny_Name (r.load hk hn (hq _ _ _ mh ⟨rfl, rfl⟩ hs (T.refl ..) (SameL.refl _) rv)) hd

/-- a name of the module's that holds an object -/
theorem EV.glob {x : Str} {pos : Pos} {a : Addr} (SB : St0 g g.B) (hk : env.scope.kind = .function) (hg : env.globals = mainGlobals) (hx : env.kindOf x = some .globalImplicit) (e : g.mg x = some (.ref a)) (hd : (x == ("__debug__" : Str)) = false) :
    EV g stk ps n env fr mh (.Name x pos) (Is mh (.ref a)) := fun A s Q E R hs hf hq => by
  have S := SB.keeps hs.stays
  exact Calls.Name_function_global hk hx (Calls.loadGlobal_global (by rw [hg]; exact S.gns) e (hq _ _ _ mh ⟨rfl, rfl⟩ hs (T.refl ..) (SameL.refl _) (.ref a))) hd

theorem fr_next {s s' : Shared} {mh' : MH} (hf : FrR env fr mh s.heap) (t : T ps s.heap s'.heap) (hL : env.locals ∈ ps) (sl : SameL mh mh') : FrR env fr mh' s'.heap := hf.T t hL fun _ _ _ => sl.im
theorem rv_next {s s' : Shared} {mh' : MH} {v : AV} {val : Value} (r : RV (Im mh) s.heap v val) (t : T ps s.heap s'.heap) (sl : SameL mh mh') : RV (Im mh') s'.heap v val := r.mono fun a o e d hi => ⟨sl.im hi, t.nd a o e d⟩

theorem EV.bin {l r : Expr} {op : Operator} {pos : Pos} {P1 : AV → MH → Prop} {P2 : AV → AV → MH → Prop} {P : AV → MH → Prop} (hL : env.locals ∈ ps) (hn : 0 < n)
    (h1 : EV g stk ps n env fr mh l P1) (h2 : ∀ v1 m1, P1 v1 m1 → EV g stk ps n env fr m1 r (P2 v1)) (h3 : ∀ v1 m1 v2 m2, P1 v1 m1 → P2 v1 v2 m2 → ∃ v, OP2 g m2 (binaryOp op) v1 v2 v ∧ P v m2) :
    EV g stk ps n env fr mh (.BinOp l op r pos) P := fun A s Q E R hs hf hq => by
  refine wpAny_BinOp (h1 A s _ E R hs hf fun s1 v1 x1 m1 p1 hs1 t1 sl1 r1 => ?_)
  refine h2 v1 m1 p1 A s1 _ E R hs1 (fr_next hf t1 hL sl1) fun s2 v2 x2 m2 p2 hs2 t2 sl2 r2 => ?_
  obtain ⟨v, op, pv⟩ := h3 v1 m1 v2 m2 p1 p2
  refine op A stk ps s2 x1 x2 Q E R.handled (by have := R.units; omega) hs2 (rv_next r1 t2 sl2) r2 fun s3 val k rv => ?_
  exact hq s3 v val m2 pv (hs2.keeps k) ((t1.trans t2).trans (k.T ps)) (sl1.trans sl2) rv

theorem EV.cmp {l r : Expr} {op : CmpOp} {pos : Pos} {P1 : AV → MH → Prop} {P2 : AV → AV → MH → Prop} {P : AV → MH → Prop} (hL : env.locals ∈ ps) (hn : 0 < n)
    (h1 : EV g stk ps n env fr mh l P1) (h2 : ∀ v1 m1, P1 v1 m1 → EV g stk ps n env fr m1 r (P2 v1)) (h3 : ∀ v1 m1 v2 m2, P1 v1 m1 → P2 v1 v2 m2 → ∃ v, OP2 g m2 (compareOp op) v1 v2 v ∧ P v m2) (hm : behindInMarks op r = false) :
    EV g stk ps n env fr mh (.Compare l [op] [r] pos) P := fun A s Q E R hs hf hq => by
  refine wpAny_Compare1 (h1 A s _ E R hs hf fun s1 v1 x1 m1 p1 hs1 t1 sl1 r1 => ?_) hm
  refine h2 v1 m1 p1 A s1 _ E R hs1 (fr_next hf t1 hL sl1) fun s2 v2 x2 m2 p2 hs2 t2 sl2 r2 => ?_
  obtain ⟨v, op, pv⟩ := h3 v1 m1 v2 m2 p1 p2
  refine op A stk ps s2 x1 x2 Q E R.handled (by have := R.units; omega) hs2 (rv_next r1 t2 sl2) r2 fun s3 val k rv => ?_
  exact hq s3 v val m2 pv (hs2.keeps k) ((t1.trans t2).trans (k.T ps)) (sl1.trans sl2) rv

theorem EV.un {l : Expr} {op : UnaryOp} {pos : Pos} {P1 : AV → MH → Prop} {P : AV → MH → Prop} (hn : 0 < n)
    (h1 : EV g stk ps n env fr mh l P1) (h3 : ∀ v1 m1, P1 v1 m1 → ∃ v, OP1 g m1 (unaryOp op) v1 v ∧ P v m1) :
    EV g stk ps n env fr mh (.UnaryOp op l pos) P := fun A s Q E R hs hf hq => by
  refine wpAny_UnaryOp (h1 A s _ E R hs hf fun s1 v1 x1 m1 p1 hs1 t1 sl1 r1 => ?_)
  obtain ⟨v, op, pv⟩ := h3 v1 m1 p1
  refine op A stk ps s1 x1 Q E R.handled (by have := R.units; omega) hs1 r1 fun s3 val k rv => ?_
  exact hq s3 v val m1 pv (hs1.keeps k) (t1.trans (k.T ps)) sl1 rv

-- ints
theorem op_add {a b : Int} : OP2 g mh (binaryOp .Add) (.int a) (.int b) (.int (a + b)) := fun A stk ps s x1 x2 Q E _ _ _ r1 r2 hq => by
  cases r1; cases r2; exact PyProof.Rows.add_int (hq _ _ (Kp.tok s _) (.int _ _))
theorem op_sub {a b : Int} : OP2 g mh (binaryOp .Sub) (.int a) (.int b) (.int (a - b)) := fun A stk ps s x1 x2 Q E _ _ _ r1 r2 hq => by
  cases r1; cases r2; exact PyProof.Rows.sub_int (hq _ _ (Kp.tok s _) (.int _ _))
theorem op_mod {a b : Int} (hb : b ≠ 0) : OP2 g mh (binaryOp .Mod) (.int a) (.int b) (.int (a.fmod b)) := fun A stk ps s x1 x2 Q E _ _ _ r1 r2 hq => by
  cases r1; cases r2; exact PyProof.Rows.mod_int' hb (hq _ _ (Kp.tok s _) (.int _ _))
theorem op_eq {a b : Int} : OP2 g mh (compareOp .Eq) (.int a) (.int b) (.bool (a == b)) := fun A stk ps s x1 x2 Q E _ _ _ r1 r2 hq => by
  cases r1; cases r2; exact PyProof.Rows.eq_int (hq _ _ (Kp.refl s) (.bool _))
theorem op_ne {a b : Int} : OP2 g mh (compareOp .NotEq) (.int a) (.int b) (.bool (a != b)) := fun A stk ps s x1 x2 Q E _ _ _ r1 r2 hq => by
  cases r1; cases r2; exact PyProof.Rows.ne_int (hq _ _ (Kp.refl s) (.bool _))
theorem op_lt {a b : Int} : OP2 g mh (compareOp .Lt) (.int a) (.int b) (.bool (decide (a < b))) := fun A stk ps s x1 x2 Q E _ _ _ r1 r2 hq => by
  cases r1; cases r2; exact PyProof.Rows.lt_int (hq _ _ (Kp.refl s) (.bool _))
theorem op_gt {a b : Int} : OP2 g mh (compareOp .Gt) (.int a) (.int b) (.bool (decide (b < a))) := fun A stk ps s x1 x2 Q E _ _ _ r1 r2 hq => by
  cases r1; cases r2; exact PyProof.Rows.gt_int (hq _ _ (Kp.refl s) (.bool _))
theorem op_le {a b : Int} : OP2 g mh (compareOp .LtE) (.int a) (.int b) (.bool (decide (a ≤ b))) := fun A stk ps s x1 x2 Q E _ _ _ r1 r2 hq => by
  cases r1; cases r2; exact PyProof.Rows.le_int (hq _ _ (Kp.refl s) (.bool _))
theorem op_ge {a b : Int} : OP2 g mh (compareOp .GtE) (.int a) (.int b) (.bool (decide (b ≤ a))) := fun A stk ps s x1 x2 Q E _ _ _ r1 r2 hq => by
  cases r1; cases r2; exact PyProof.Rows.ge_int (hq _ _ (Kp.refl s) (.bool _))
theorem op_neb {a b : Bool} : OP2 g mh (compareOp .NotEq) (.bool a) (.bool b) (.bool (a != b)) := fun A stk ps s x1 x2 Q E _ _ _ r1 r2 hq => by
  cases r1; cases r2; exact PyProof.Rows.ne_bool (hq _ _ (Kp.refl s) (.bool _))
theorem op_neg {a : Int} : OP1 g mh (unaryOp .USub) (.int a) (.int (-a)) := fun A stk ps s x1 Q E _ _ _ r1 hq => by
  cases r1; exact PyProof.Rows.neg_int (hq _ _ (Kp.tok s _) (.int _ _))
theorem op_mul {a b : Int} (ha : a.natAbs < 2 ^ 40) (hb : b.natAbs < 2 ^ 40) : OP2 g mh (binaryOp .Mult) (.int a) (.int b) (.int (a * b)) := fun A stk ps s x1 x2 Q E _ _ _ r1 r2 hq => by
  cases r1; cases r2; exact PyProof.Rows.mul_int (hq _ _ (Kp.tok s _) (.int _ _)) (by mul_fits)
theorem op_div {a b : Int} (hb : b ≠ 0) (ha : a.natAbs < 2 ^ 30) (hb' : b.natAbs < 2 ^ 30) : OP2 g mh (binaryOp .FloorDiv) (.int a) (.int b) (.int (a.fdiv b)) := fun A stk ps s x1 x2 Q E _ _ _ r1 r2 hq => by
  cases r1; cases r2; exact PyProof.Rows.floordiv_int hb (hq _ _ (Kp.tok s _) (.int _ _)) (.inl (PyProof.noPylong_small (by omega)))
theorem op_pow {a b : Int} (h0 : 0 ≤ b) (h1 : b ≤ 1000000) (ha : a.natAbs < 2 ^ 64) : OP2 g mh (binaryOp .Pow) (.int a) (.int b) (.int (a ^ b.toNat)) := fun A stk ps s x1 x2 Q E _ _ _ r1 r2 hq => by
  cases r1; cases r2; exact PyProof.Rows.pow_int_small h0 h1 ha (hq _ _ (Kp.tok s _) (.int _ _))
end
end Mine

-- C4
namespace Mine

-- attributes
def putA (x : Str) (v : AV) : List (Str × AV) → List (Str × AV)
  | [] => [(x, v)]
  | (y, u) :: r => if y == x then (y, v) :: r else (y, u) :: putA x v r

theorem attr_get {es : List DictEntry} {at_ : List (Str × AV)} (r : AttrR es at_) {x : Str} : (∀ v, at_.lookup x = some v → ∃ val, getL x es = some (some val) ∧ RV (fun _ => False) {} v val) ∧ (at_.lookup x = none → getL x es = some none) := by
  induction r with
  | nil => exact ⟨fun v e => (nomatch e), fun _ => rfl⟩
  | @cons es at_ hsh y t val v rv r ih =>
    unfold getL at ih ⊢
    rw [List.find?_cons, List.lookup_cons, List.any_cons]
    have hk : (Value.str y t).isStr x = (y == x) := rfl
    have hr : (DictEntry.refKey ⟨hsh, .str y t, val⟩) = false := rfl
    dsimp only
    rw [hk, hr, Bool.false_or]
    by_cases e : y = x
    · subst e
      simp only [beq_self_eq_true]
      exact ⟨fun u hu => ⟨val, rfl, by cases hu; exact rv⟩, fun hu => nomatch hu⟩
    · have e1 : (y == x) = false := by simpa using e
      have e2 : (x == y) = false := by simpa using fun q : x = y => e q.symm
      rw [e1, e2]
      exact ih

theorem attr_put {w : World} {es : List DictEntry} {at_ : List (Str × AV)} (r : AttrR es at_) {x : Str} {v : AV} {val : Value} {hsh : Int} {t : Tok} (rv : RV (fun _ => False) {} v val) : AttrR (putL x hsh (.str x t) val es) (putA x v at_) := by
  induction r with
  | nil => exact .cons rv .nil
  | @cons es at_ hsh' y t' val' v' rv' r ih =>
    unfold putL putA
    have hk : (Value.str y t').isStr x = (y == x) := rfl
    dsimp only
    rw [hk]
    by_cases e : (y == x) = true
    · rw [if_pos e, if_pos e]; exact .cons rv r
    · rw [if_neg e, if_neg e]; exact .cons rv' ih
theorem AttrR.length {es : List DictEntry} {at_ : List (Str × AV)} (r : AttrR es at_) : es.length = at_.length := by
  induction r with
  | nil => rfl
  | cons _ _ ih => simp [ih]

/-- a value that points at no list -/
inductive Flat : AV → Prop where
  | none : Flat .none
  | bool (b : Bool) : Flat (.bool b)
  | int (i : Int) : Flat (.int i)
  | ref (a : Addr) : Flat (.ref a)
theorem Flat.any {v : AV} (f : Flat v) {X X' : Addr → Prop} {h h' : Heap} {val : Value} (r : RV X h v val) : RV X' h' v val := by
  cases f <;> cases r <;> constructor
theorem flat_of {v : AV} {val : Value} (r : RV (fun _ => False) {} v val) : Flat v := by
  cases r with
  | none => exact .none
  | bool b => exact .bool b
  | int i t => exact .int i
  | ref a => exact .ref a
  | list h => exact h.elim
theorem handed {X : Addr → Prop} {h : Heap} {v : AV} {val : Value} (r : RV X h v val) : handedIn val = true := by cases r <;> rfl

section
variable {g : G} {stk : List Env} {ps : List Addr} {n : Nat} {env : Env} {fr : FR} {mh : MH}

theorem RVs.mono {X X' : Addr → Prop} {h h' : Heap} {vs : List AV} {vals : List Value} (r : RVs X h vs vals) (hX : ∀ a o, h.get? a = some o → nd o → X a → X' a ∧ h'.get? a = some o) : RVs X' h' vs vals := by
  induction r with
  | nil => exact .nil
  | cons a _ ih => exact .cons (a.mono hX) ih

def EVs (g : G) (stk : List Env) (ps : List Addr) (n : Nat) (env : Env) (fr : FR) (mh : MH) (es : List Expr) (P : List AV → MH → Prop) : Prop :=
  ∀ (pos : Pos) (A : Around) (s : Shared) (Q : List Value → Shared → Prop) (E : Value → Shared → Prop), Room n A stk → H g stk ps mh s → FrR env fr mh s.heap →
    (∀ s' vs vals mh', P vs mh' → H g stk ps mh' s' → T ps s.heap s'.heap → SameL mh mh' → RVs (Im mh') s'.heap vs vals → Q vals s') → wpAny g.M A (spliced (backTo pos (starEach es env))) Q E s

theorem EVs.nil : EVs g stk ps n env fr mh [] (fun vs m => vs = [] ∧ m = mh) := fun pos A s Q E R hs hf hq =>
  wpAny_items_nil (hq s [] [] mh ⟨rfl, rfl⟩ hs (T.refl ..) (SameL.refl _) .nil)
def unstar (e : Expr) : Bool := match e with | .Starred .. => false | _ => true
theorem starEach_cons {e : Expr} {rest : List Expr} {env : Env} (h : unstar e = true) : starEach (e :: rest) env = (false, eval e env) :: starEach rest env := by
  cases e <;> first | rfl | cases h
theorem EVs.cons {e : Expr} {rest : List Expr} {P1 : AV → MH → Prop} {P2 : AV → List AV → MH → Prop} {P : List AV → MH → Prop} (hL : env.locals ∈ ps) (hu : unstar e = true)
    (h1 : EV g stk ps n env fr mh e P1) (h2 : ∀ v1 m1, P1 v1 m1 → EVs g stk ps n env fr m1 rest (P2 v1)) (h3 : ∀ v1 m1 vs m2, P1 v1 m1 → P2 v1 vs m2 → P (v1 :: vs) m2) : EVs g stk ps n env fr mh (e :: rest) P := fun pos A s Q E R hs hf hq => by
  refine wpAny_items_cons (h1 A s _ E R hs hf fun s1 v1 x1 m1 p1 hs1 t1 sl1 r1 => ?_) (starEach_cons hu)
  refine h2 v1 m1 p1 pos A s1 _ E R hs1 (fr_next hf t1 hL sl1) fun s2 vs vals m2 p2 hs2 t2 sl2 r2 => ?_
  exact hq s2 (v1 :: vs) (x1 :: vals) m2 (h3 _ _ _ _ p1 p2) hs2 (t1.trans t2) (sl1.trans sl2) (.cons (rv_next r1 t2 sl2) r2)
theorem EVs.mono {es : List Expr} {P P' : List AV → MH → Prop} (h : EVs g stk ps n env fr mh es P) (k : ∀ v m, P v m → P' v m) : EVs g stk ps n env fr mh es P' :=
  fun pos A s Q E R hs hf hq => h pos A s Q E R hs hf fun s' v val mh' p => hq s' v val mh' (k v mh' p)

/-- an attribute that an own object holds itself -/
theorem EV.attr {o : Expr} {name : Str} {pos : Pos} {a C d : Addr} {at_ : List (Str × AV)} {v : AV} {attr : Option Value} (SB : St0 g g.B) (ho : EV g stk ps n env fr mh o (Is mh (.ref a))) (hm : mh a = some (.inst C d at_)) (PC : PlainCls g.K C)
    (ha : findIn g.K (.ref C) name = some attr) (hn : noGet g.K attr = true) (hl : at_.lookup name = some v)
    (he : eval (.Attribute o name pos) env = (do
      let o' ← eval o env
      standAt pos.atName
      let r ← holding [o'] (getAttr o' name true)
      letTemporaryGo o o' r
      pure r)) : EV g stk ps n env fr mh (.Attribute o name pos) (Is mh v) := fun A s Q E R hs hf hq => by
  refine Attribute_any_ (ho A s _ E R hs hf ?_) he
  rintro s1 v1 x1 m1 ⟨rfl, rfl⟩ hs1 t1 sl1 r1
  cases r1
  obtain ⟨es, nn, I, ar⟩ := hs1.rep a _ hm
  obtain ⟨val, hg, rv⟩ := (attr_get ar).1 v hl
  refine get_raw (SB.keeps hs1.stays).kin PC I ha hn hg (handed rv) ?_
  exact hq _ v val _ ⟨rfl, rfl⟩ (hs1.keeps (Kp.tok s1 _)) (t1.trans ((Kp.tok s1 _).T ps)) sl1 ((flat_of rv).any rv)

theorem unstars : ∀ {l : List Expr} {env : Env} {pos : Pos}, l.all unstar = true → (backTo pos (starEach l env)).any (·.1) = false
  | [], _, _, _ => rfl
  | x :: l, env, pos, h => by
    rw [List.all_cons, Bool.and_eq_true] at h
    rw [starEach_cons h.1]
    show (false || (backTo pos (starEach l env)).any (·.1)) = false
    rw [unstars h.2]; rfl

abbrev IsMeth (o : Expr) (name : Str) (apos pos : Pos) (args : List Expr) (env : Env) : Prop := ∃ pl, eval (.Call (.Attribute o name apos) args [] pos) env = (do
      let ov ← eval o env
      standAt apos.atName
      let (f, first) ← holding [ov] (getMethod ov name pl)
      callWith pos f first (backTo pos (starEach args env)) (backToKw pos (keywordEach [] env)))

/-- a method that a class bears -/
structure HasMeth (K : Frag) (C : Addr) (name : Str) (f : Addr) : Prop where
  pc : PlainCls K C
  fd : findIn K (.ref C) name = some (some (.ref f))
  ty : typeIn K (.ref f) = some (.type "function")
  kp : keepIn K (.ref f) = true

/-- a method's call: the receiver is an own object, its class bears the method -/
theorem EV.meth {o : Expr} {name : Str} {apos pos : Pos} {e0 : Expr} {rest : List Expr} {a C d f : Addr} {at_ : List (Str × AV)} {Pa : List AV → MH → Prop} {P : AV → MH → Prop} (SB : St0 g g.B) (hL : env.locals ∈ ps)
    (ho : EV g stk ps n env fr mh o (Is mh (.ref a))) (hm : mh a = some (.inst C d at_)) (HM : HasMeth g.K C name f) (hl : at_.lookup name = none)
    (ha : EVs g stk ps n env fr mh (e0 :: rest) Pa) (hc : ∀ vs m1, Pa vs m1 → CA g n (.ref f) (.ref a :: vs) m1 P) (hu : ((e0 :: rest).all unstar) = true)
    (he : IsMeth o name apos pos (e0 :: rest) env) : EV g stk ps n env fr mh (.Call (.Attribute o name apos) (e0 :: rest) [] pos) P := fun A s Q E R hs hf' hq => by
  obtain ⟨pl, he⟩ := he
  refine methodCall_KW (pl := pl) (ho A s _ E R hs hf' ?_) he
  rintro s1 v1 x1 m1 ⟨rfl, rfl⟩ hs1 t1 sl1 r1
  cases r1
  obtain ⟨es, nn, I, ar⟩ := hs1.rep a _ hm
  have X1 := (SB.keeps hs1.stays).kin
  refine meth_raw X1 HM.pc I HM.fd HM.ty ((attr_get ar).2 hl) ?_
  show wpAny _ A (callWith pos (.ref f) [.ref a] (backTo pos (starEach (e0 :: rest) env)) []) Q E s1
  rw [List.all_cons, Bool.and_eq_true] at hu
  refine callWith_K (h₀ := s1.heap) X1 HM.kp (ha pos A s1 _ E R hs1 (fr_next hf' t1 hL sl1) ?_) (starEach_cons hu.1) (unstars hu.2)
  intro s2 vs vals m2 p2 hs2 t2 sl2 r2
  refine ⟨(SB.keeps hs2.stays).kin, wpAny_call ?_⟩
  refine hc vs m2 p2 stk ps A s2 _ _ R hs2 (.cons (.ref a) r2) fun s3 v val m3 p3 hs3 t3 sl3 r3 => ?_
  exact hq s3 v val m3 p3 hs3 ((t1.trans t2).trans t3) ((sl1.trans sl2).trans sl3) r3

theorem EV.meth0 {o : Expr} {name : Str} {apos pos : Pos} {a C d f : Addr} {at_ : List (Str × AV)} {P : AV → MH → Prop} (SB : St0 g g.B)
    (ho : EV g stk ps n env fr mh o (Is mh (.ref a))) (hm : mh a = some (.inst C d at_)) (HM : HasMeth g.K C name f) (hl : at_.lookup name = none)
    (hc : CA g n (.ref f) [.ref a] mh P)
    (he : IsMeth o name apos pos [] env) : EV g stk ps n env fr mh (.Call (.Attribute o name apos) [] [] pos) P := fun A s Q E R hs hf' hq => by
  obtain ⟨pl, he⟩ := he
  refine methodCall_KW (pl := pl) (ho A s _ E R hs hf' ?_) he
  rintro s1 v1 x1 m1 ⟨rfl, rfl⟩ hs1 t1 sl1 r1
  cases r1
  obtain ⟨es, nn, I, ar⟩ := hs1.rep a _ hm
  have X1 := (SB.keeps hs1.stays).kin
  refine meth_raw X1 HM.pc I HM.fd HM.ty ((attr_get ar).2 hl) ?_
  show wpAny _ A (callWith pos (.ref f) [.ref a] (backTo pos (starEach [] env)) []) Q E s1
  refine callWith_K0 X1 HM.kp (wpAny_call ?_)
  refine hc stk ps A s1 _ _ R hs1 (.cons (.ref a) .nil) fun s3 v val m3 p3 hs3 t3 sl3 r3 => ?_
  exact hq s3 v val m3 p3 hs3 (t1.trans t3) (sl1.trans sl3) r3
end
end Mine

-- C5
namespace Mine

/-- how a statement ends -/
inductive FL where
  | next | brk | cont | ret (v : AV)
inductive FlR (X : Addr → Prop) (h : Heap) : FL → Flow → Prop where
  | next : FlR X h .next .next
  | brk : FlR X h .brk .brk
  | cont : FlR X h .cont .cont
  | ret {v : AV} {val : Value} : RV X h v val → FlR X h (.ret v) (.ret val)

/-- what a statement keeps: cs the frame's cells, qs the namespaces around -/
structure Ts (cs qs : List Addr) (mh mh' : MH) (h h' : Heap) : Prop where
  nd : ∀ b o, h.get? b = some o → nd o → b ∉ cs → isM (mh b) = false → h'.get? b = some o
  nm : ∀ b, isM (mh b) = false → h.get? b ≠ none → isM (mh' b) = false
  nw : ∀ b, Im mh b → h.get? b ≠ none → Im mh' b
  op : ∀ b, mh b = some .opq → mh' b = some .opq
  ns : ∀ L ∈ qs, ∀ o es n, h.get? L = some o → o.data = .dict es n → ∃ o', h'.get? L = some o' ∧ o'.data = .dict es n
  live : ∀ b o, h.get? b = some o → ∃ o', h'.get? b = some o'
theorem Ts.refl (cs qs : List Addr) (mh : MH) (h : Heap) : Ts cs qs mh mh h h := ⟨fun _ _ e _ _ _ => e, fun _ h _ => h, fun _ h _ => h, fun _ h => h, fun _ _ o _ _ e d => ⟨o, e, d⟩, fun _ o e => ⟨o, e⟩⟩
theorem Ts.ex {cs qs : List Addr} {m m' : MH} {h h' : Heap} (x : Ts cs qs m m' h h') {b : Addr} (e : h.get? b ≠ none) : h'.get? b ≠ none := by
  cases q : h.get? b with
  | none => exact absurd q e
  | some o => obtain ⟨o', e'⟩ := x.live b o q; rw [e']; simp
theorem Ts.trans {cs qs : List Addr} {m m' m'' : MH} {h h' h'' : Heap} (x : Ts cs qs m m' h h') (y : Ts cs qs m' m'' h' h'') : Ts cs qs m m'' h h'' :=
  ⟨fun b o e d hc hi => y.nd b o (x.nd b o e d hc hi) d hc (x.nm b hi (by rw [e]; simp)),
   fun b hi e => y.nm b (x.nm b hi e) (x.ex e), fun b hi e => y.nw b (x.nw b hi e) (x.ex e), fun b e => y.op b (x.op b e),
   fun L hL o es n e d => by obtain ⟨o', e', d'⟩ := x.ns L hL o es n e d; exact y.ns L hL o' es n e' d', fun b o e => by obtain ⟨o', e'⟩ := x.live b o e; exact y.live b o' e'⟩
theorem isL_of {o : Option MO} (h : isM o = true) : isL o = true := by cases o with | none => cases h | some o => cases o <;> first | rfl | cases h
theorem T.s {cs qs ps : List Addr} {m m' : MH} {h h' : Heap} (x : T ps h h') (sl : SameL m m') (sub : ∀ q ∈ qs, q ∈ ps) : Ts cs qs m m' h h' where
  nd := fun b o e d _ _ => x.nd b o e d
  nm := fun b hi _ => by
    cases q : isM (m' b) with
    | false => rfl
    | true =>
      have e := sl b (.inr (isL_of q))
      rw [e, hi] at q
      cases q
  nw := fun b hi _ => sl.im hi
  op := fun b e => (sl b (.inl (by rw [e]; rfl))).trans e
  ns := fun L hL => x.ns L (sub L hL)
  live := x.live

structure EnvOk (g : G) (env : Env) (ps qs : List Addr) : Prop where
  kind : env.scope.kind = .function
  glob : env.globals = mainGlobals
  blt : env.builtins = builtinsNs
  loc : env.locals ∈ ps
  out : env.locals ∉ qs
  sub : ∀ q ∈ qs, q ∈ ps
  cellB : ∀ x c, env.cells.lookup x = some c → g.B.get? c = none
  cinj : ∀ x y c, env.cells.lookup x = some c → env.cells.lookup y = some c → x = y

section
variable {g : G} {stk : List Env} {ps qs : List Addr} {n : Nat} {env : Env} {fr : FR} {mh : MH}

def SJ (g : G) (stk : List Env) (ps qs : List Addr) (n : Nat) (env : Env) (fr : FR) (mh : MH) (t : Sem Flow) (P : FL → FR → MH → Prop) : Prop :=
  ∀ (A : Around) (s : Shared) (Q : Flow → Shared → Prop) (E : Value → Shared → Prop), Room n A stk → H g stk ps mh s → FrR env fr mh s.heap →
    (∀ s' fl f fr' mh', P fl fr' mh' → H g stk ps mh' s' → FrR env fr' mh' s'.heap → Ts (env.cells.map (·.2)) qs mh mh' s.heap s'.heap → FlR (Im mh') s'.heap fl f → Q f s') → wpAny g.M A t Q E s
abbrev ST (g : G) (stk : List Env) (ps qs : List Addr) (n : Nat) (env : Env) (fr : FR) (mh : MH) (ss : List Stmt) (P : FL → FR → MH → Prop) : Prop := SJ g stk ps qs n env fr mh (execs ss env) P

theorem ST.mono {t : Sem Flow} {P P' : FL → FR → MH → Prop} (h : SJ g stk ps qs n env fr mh t P) (k : ∀ f r m, P f r m → P' f r m) : SJ g stk ps qs n env fr mh t P' :=
  fun A s Q E R hs hf hq => h A s Q E R hs hf fun s' fl f fr' mh' p => hq s' fl f fr' mh' (k _ _ _ p)
theorem ST.nil : ST g stk ps qs n env fr mh [] (fun fl r m => fl = .next ∧ r = fr ∧ m = mh) := fun A s Q E R hs hf hq =>
  wpAny_execs_nil (hq s .next .next fr mh ⟨rfl, rfl, rfl⟩ hs hf (Ts.refl ..) .next)
theorem ST.cons {st : Stmt} {rest : List Stmt} {P1 P : FL → FR → MH → Prop} (h1 : SJ g stk ps qs n env fr mh (exec st env) P1)
    (h2 : ∀ r1 m1, P1 .next r1 m1 → ST g stk ps qs n env r1 m1 rest P) (h3 : ∀ fl r1 m1, P1 fl r1 m1 → fl ≠ .next → P fl r1 m1) : ST g stk ps qs n env fr mh (st :: rest) P := fun A s Q E R hs hf hq => by
  refine wpAny_execs_cons (h1 A s _ E R hs hf fun s1 fl f r1 m1 p1 hs1 hf1 t1 fl1 => ?_)
  cases fl1 with
  | next => exact h2 r1 m1 p1 A s1 Q E R hs1 hf1 fun s2 fl f r2 m2 p2 hs2 hf2 t2 fl2 => hq s2 fl f r2 m2 p2 hs2 hf2 (t1.trans t2) fl2
  | brk => exact hq s1 _ _ r1 m1 (h3 _ _ _ p1 (by simp)) hs1 hf1 t1 .brk
  | cont => exact hq s1 _ _ r1 m1 (h3 _ _ _ p1 (by simp)) hs1 hf1 t1 .cont
  | ret rv => exact hq s1 _ _ r1 m1 (h3 _ _ _ p1 (by simp)) hs1 hf1 t1 (.ret rv)

theorem FrR.weaken {fr' : FR} {t : Sem Flow} {P : FL → FR → MH → Prop} (h : SJ g stk ps qs n env fr' mh t P) (k : ∀ x v, fr'.lookup x = some v → fr.lookup x = some v) : SJ g stk ps qs n env fr mh t P :=
  fun A s Q E R hs hf hq => h A s Q E R hs (hf.sub k) hq

theorem SJ.return_ {e : Expr} {pos : Pos} {P : AV → MH → Prop} (ok : EnvOk g env ps qs) (h : EV g stk ps n env fr mh e P) : SJ g stk ps qs n env fr mh (exec (.Return (some e) pos) env) (fun fl r m => r = fr ∧ ∃ v, fl = .ret v ∧ P v m) := fun A s Q E R hs hf hq =>
  wpAny_Return_some (h A s _ E R hs hf fun s1 v x m p hs1 t1 sl1 r1 => hq s1 (.ret v) _ fr m ⟨rfl, v, rfl, p⟩ hs1 (fr_next hf t1 ok.loc sl1) (t1.s sl1 ok.sub) (.ret r1))
theorem SJ.returnN {pos : Pos} : SJ g stk ps qs n env fr mh (exec (.Return none pos) env) (fun fl r m => r = fr ∧ m = mh ∧ fl = .ret .none) := fun A s Q E R hs hf hq =>
  wpAny_Return_none (hq s (.ret .none) _ fr mh ⟨rfl, rfl, rfl⟩ hs hf (Ts.refl ..) (.ret .none))
theorem SJ.pass {pos : Pos} : SJ g stk ps qs n env fr mh (exec (.Pass pos) env) (fun fl r m => fl = .next ∧ r = fr ∧ m = mh) := fun A s Q E R hs hf hq =>
  wpAny_Pass (hq s .next .next fr mh ⟨rfl, rfl, rfl⟩ hs hf (Ts.refl ..) .next)

/-- an expression for its effect -/
theorem SJ.expr {e : Expr} {pos : Pos} {P : AV → MH → Prop} (ok : EnvOk g env ps qs) (h : EV g stk ps n env fr mh e P) (hi : interactive env = false) (hsw : swapsWith e none pos.line env = pure false) :
    SJ g stk ps qs n env fr mh (exec (.Expr e pos) env) (fun fl r m => fl = .next ∧ r = fr ∧ ∃ v, P v m) := fun A s Q E R hs hf hq =>
  wpAny_Expr_any (h A s _ E R hs hf fun s1 v x m p hs1 t1 sl1 r1 => hq s1 .next .next fr m ⟨rfl, rfl, v, p⟩ hs1 (fr_next hf t1 ok.loc sl1) (t1.s sl1 ok.sub) .next) hi hsw

theorem funFrames_of {B h h' : Heap} : ∀ {l : List Env}, h.FunFrames B l → (∀ b o, h.get? b = some o → (∀ vs, o.data ≠ .fields vs) → ∃ o', h'.get? b = some o' ∧ ∀ vs, o'.data ≠ .fields vs) → h'.FunFrames B l
  | [], _, _ => trivial
  | env :: _, ⟨hk, ⟨L, o, hf, hn, ho, hd⟩, hr⟩, k => ⟨hk, (let ⟨o', e', d'⟩ := k L o ho hd; ⟨L, o', hf, hn, e', d'⟩), funFrames_of hr k⟩

/-- the heap's part, where one namespace turned -/
theorem H.ns {s : Shared} {h' : Heap} {L : Addr} {m : Str → Option Value} {t : Nat} (h : H g stk ps mh s) (hL : L ∈ ps) (hn : h'.Ns L m) (hb : Heap.SameBut L s.heap h') : H g stk ps mh { s with heap := h', toks := t } := by
  obtain ⟨hB, oL, esL, nL, eL, dL⟩ := h.psd L hL
  obtain ⟨o', es', n', e', d', _⟩ := hn
  have other : ∀ b o, s.heap.get? b = some o → b ≠ L → h'.get? b = some o := fun b o e q => (hb.2 b q).trans e
  refine ⟨fun b o e => other b o (h.stays b o e) (fun q => by rw [q, hB] at e; cases e), h.os, h.bare, fun a o e => ?_, h.off, h.inj, ?_, h.sps, fun q hq => ?_⟩
  · have r := h.rep a o e
    cases o with
    | inst C d at_ =>
      obtain ⟨es, n, ⟨i1, i2⟩, ar⟩ := r
      refine ⟨es, n, ⟨other _ _ i1 fun q => ?_, other _ _ i2 fun q => ?_⟩, ar⟩
      · rw [q, eL] at i1; cases i1; cases dL
      · exact (h.off a _ e).2.2.1 (q ▸ hL)
    | lst xs =>
      obtain ⟨vs, n, e1, iv⟩ := r
      exact ⟨vs, n, other _ _ e1 (fun q => by rw [q, eL] at e1; cases e1; cases dL), iv⟩
    | opq =>
      obtain ⟨vs, n, e1⟩ := r
      exact ⟨vs, n, other _ _ e1 (fun q => by rw [q, eL] at e1; cases e1; cases dL)⟩
  · refine funFrames_of h.frm fun b o e d => ?_
    by_cases q : b = L
    · subst q; exact ⟨o', e', fun vs z => by rw [d'] at z; cases z⟩
    · exact ⟨o, other b o e q, d⟩
  · obtain ⟨b1, o, es, n, e, d⟩ := h.psd q hq
    by_cases z : q = L
    · subst z; exact ⟨b1, o', es', n', e', d'⟩
    · exact ⟨b1, o, es, n, other _ _ e z, d⟩

theorem nd_ne {h : Heap} {L b : Addr} {oL o : Obj} {es : Array DictEntry} {n : Nat} (eL : h.get? L = some oL) (dL : oL.data = .dict es n) (e : h.get? b = some o) (d : nd o) : b ≠ L := fun q => by
  subst q; rw [eL] at e; cases e; exact d _ _ dL

/-- a name of the frame's stored -/
theorem store {x : Str} {v : AV} {val : Value} {A : Around} {s : Shared} {Q : Unit → Shared → Prop} {E : Value → Shared → Prop} (ok : EnvOk g env ps qs) (hk : env.kindOf x = some .local ∨ (env.kindOf x = some .cell ∧ ∃ c, env.cells.lookup x = some c))
    (hs : H g stk ps mh s) (hf : FrR env fr mh s.heap) (rv : RV (Im mh) s.heap v val)
    (hq : ∀ s', H g stk ps mh s' → FrR env ((x, v) :: fr) mh s'.heap → Ts (env.cells.map (·.2)) qs mh mh s.heap s'.heap → Q () s') : wpAny g.M A (storeName env x val) Q E s := by
  rcases hk with hk | ⟨hk, c, hc⟩
  · obtain ⟨m, hm⟩ := hf.loc
    refine wpAny_storeName_local hk hm (fun h' hn hb => ?_) (by rw [ok.kind]; rfl)
    obtain ⟨hB, oL, esL, nL, eL, dL⟩ := hs.psd _ ok.loc
    have ndk : ∀ b o, s.heap.get? b = some o → nd o → h'.get? b = some o := fun b o e d => (hb.2 b (nd_ne eL dL e d)).trans e
    refine hq _ (hs.ns ok.loc hn hb) ⟨⟨_, hn⟩, fun y c e => (let ⟨v0, o, ho, hd⟩ := hf.cel y c e; ⟨v0, o, ndk _ _ ho (by intro es n q; rw [hd] at q; cases q), hd⟩), fun y u hy => ?_⟩ ⟨fun b o e d _ _ => ndk b o e d, fun b hi _ => hi, fun b hi _ => hi, fun b e => e, fun q hq o es n e d => ⟨o, (hb.2 q fun z => ok.out (z ▸ hq)).trans e, d⟩, fun b o e => ?_⟩
    · rw [List.lookup_cons] at hy
      by_cases q : y = x
      · subst q
        simp only [beq_self_eq_true] at hy
        cases hy
        exact ⟨val, .inl ⟨hk, _, hn, by simp⟩, rv.mono fun a o e d hi => ⟨hi, ndk a o e d⟩⟩
      · have q' : (y == x) = false := by simpa using q
        rw [q'] at hy
        obtain ⟨val', r, rv'⟩ := hf.nam y u hy
        refine ⟨val', ?_, rv'.mono fun a o e d hi => ⟨hi, ndk a o e d⟩⟩
        rcases r with ⟨hl, m', hm', hv⟩ | ⟨hl, c, hc, o, ho, hd⟩
        · refine .inl ⟨hl, _, hn, ?_⟩
          rw [if_neg q]
          obtain ⟨o1, es1, ep1, e1, d1, _, f1⟩ := hm
          obtain ⟨o2, es2, ep2, e2, d2, _, f2⟩ := hm'
          rw [e1] at e2; cases e2; rw [d1] at d2; cases d2
          rw [← f1, f2]; exact hv
        · exact .inr ⟨hl, c, hc, o, ndk c o ho (fun es n z => by rw [hd] at z; cases z), hd⟩
    · by_cases z : b = env.locals
      · obtain ⟨o', _, _, e', _⟩ := hn; exact ⟨o', z ▸ e'⟩
      · exact ⟨o, (hb.2 b z).trans e⟩
  · obtain ⟨v0, hcell⟩ := hf.cel x c (mem_of_lookup hc)
    refine wpAny_storeName_cell ok.kind hk hc hcell fun h' hn hb => ?_
    obtain ⟨oc, eoc, dc⟩ := hcell
    have other : ∀ b o, s.heap.get? b = some o → b ≠ c → h'.get? b = some o := fun b o e q => (hb.2 b q).trans e
    have isd : ∀ b o es n, s.heap.get? b = some o → o.data = .dict es n → b ≠ c := fun b o es n e d q => by subst q; rw [eoc] at e; cases e; rw [dc] at d; cases d
    have isl : ∀ b vs n, s.heap.get? b = some (listOf vs n) → b ≠ c := fun b vs n e q => by subst q; rw [eoc] at e; cases e; cases dc
    obtain ⟨oc', eoc', dc'⟩ := hn
    refine hq _ ⟨fun b o e => other b o (hs.stays b o e) (fun q => by rw [q, ok.cellB x c hc] at e; cases e), hs.os, hs.bare, fun a o e => ?_, hs.off, hs.inj, ?_, hs.sps, fun q hq => ?_⟩ ⟨(let ⟨m, o, es, ep, e, d, r⟩ := hf.loc; ⟨m, o, es, ep, other _ _ e (isd _ _ _ _ e d), d, r⟩), fun y c2 e => ?_, fun y u hy => ?_⟩ ⟨fun b o e d hcs _ => other b o e fun q => hcs ?_, fun b hi _ => hi, fun b hi _ => hi, fun b e => e, fun q hq o es n e d => ⟨o, other q o e (isd q o es n e d), d⟩, fun b o e => ?_⟩
    · have r := hs.rep a o e
      cases o with
      | inst C d at_ =>
        obtain ⟨es, n, ⟨i1, i2⟩, ar⟩ := r
        exact ⟨es, n, ⟨other _ _ i1 (fun q => by rw [q, eoc] at i1; cases i1; cases dc), other _ _ i2 (isd _ _ _ _ i2 rfl)⟩, ar⟩
      | lst xs =>
        obtain ⟨vs, n, e1, iv⟩ := r
        exact ⟨vs, n, other _ _ e1 (isl _ _ _ e1), iv⟩
      | opq =>
        obtain ⟨vs, n, e1⟩ := r
        exact ⟨vs, n, other _ _ e1 (isl _ _ _ e1)⟩
    · refine funFrames_of hs.frm fun b o e d => ?_
      by_cases q : b = c
      · subst q; exact ⟨oc', eoc', fun vs z => by rw [dc'] at z; cases z⟩
      · exact ⟨o, other b o e q, d⟩
    · obtain ⟨b1, o, es, n, e, d⟩ := hs.psd q hq
      exact ⟨b1, o, es, n, other _ _ e (isd _ _ _ _ e d), d⟩
    · obtain ⟨v2, o2, ho2, hd2⟩ := hf.cel y c2 e
      by_cases q : c2 = c
      · subst q; exact ⟨_, oc', eoc', dc'⟩
      · exact ⟨v2, o2, other _ _ ho2 q, hd2⟩
    · rw [List.lookup_cons] at hy
      have rvm : ∀ {u : AV} {z : Value}, RV (Im mh) s.heap u z → RV (Im mh) h' u z := fun r => by
        induction r with
        | none => exact .none
        | bool b => exact .bool b
        | int i t => exact .int i t
        | ref a => exact .ref a
        | list ha hg hcl hdt hl _ ih => exact .list ha (other _ _ hg (fun q => by rw [q, eoc] at hg; cases hg; rw [dc] at hdt; cases hdt)) hcl hdt hl ih
      by_cases q : y = x
      · subst q
        simp only [beq_self_eq_true] at hy
        cases hy
        exact ⟨val, .inr ⟨.inl hk, c, hc, oc', eoc', dc'⟩, rvm rv⟩
      · have q' : (y == x) = false := by simpa using q
        rw [q'] at hy
        obtain ⟨val', r, rv'⟩ := hf.nam y u hy
        refine ⟨val', ?_, rvm rv'⟩
        rcases r with ⟨hl, m', ⟨o, es, ep, e, d, r⟩, hv⟩ | ⟨hl, c2, hc2, o, ho, hd⟩
        · exact .inl ⟨hl, m', ⟨o, es, ep, other _ _ e (isd _ _ _ _ e d), d, r⟩, hv⟩
        · exact .inr ⟨hl, c2, hc2, o, other _ _ ho fun z => q (ok.cinj y x c (z ▸ hc2) hc), hd⟩
    · have : (x, c) ∈ env.cells := mem_of_lookup hc
      exact List.mem_map.mpr ⟨(x, c), this, q.symm⟩
    · by_cases z : b = c
      · exact ⟨oc', z ▸ eoc'⟩
      · exact ⟨o, other b o e z⟩
end
end Mine

-- C6
namespace Mine
section
variable {g : G} {stk : List Env} {ps qs : List Addr} {n : Nat} {env : Env} {fr : FR} {mh : MH}

abbrev Stored (fr : FR) (x : Str) (P : AV → MH → Prop) : FL → FR → MH → Prop := fun fl r m => ∃ v, fl = .next ∧ r = (x, v) :: fr ∧ P v m

theorem SJ.assign {x : Str} {px pos : Pos} {e : Expr} {P : AV → MH → Prop} (ok : EnvOk g env ps qs) (hk : env.kindOf x = some .local ∨ (env.kindOf x = some .cell ∧ ∃ c, env.cells.lookup x = some c)) (h : EV g stk ps n env fr mh e P)
    (hsw : swapsWith e (some (.Name x px)) pos.line env = pure false) : SJ g stk ps qs n env fr mh (exec (.Assign [.Name x px] e pos) env) (Stored fr x P) := fun A s Q E R hs hf hq =>
  wpAny_Assign_Name (h A s _ E R hs hf fun s1 v val m p hs1 t1 sl1 r1 =>
    store ok hk hs1 (fr_next hf t1 ok.loc sl1) r1 fun s2 hs2 hf2 ts => hq s2 .next .next _ m ⟨v, rfl, rfl, p⟩ hs2 hf2 ((t1.s sl1 ok.sub).trans ts) .next) hsw

-- tests
def TJ (g : G) (stk : List Env) (ps : List Addr) (n : Nat) (env : Env) (fr : FR) (mh : MH) (e : Expr) (P : Bool → MH → Prop) : Prop :=
  ∀ (A : Around) (s : Shared) (Q : Bool → Shared → Prop) (E : Value → Shared → Prop), Room n A stk → H g stk ps mh s → FrR env fr mh s.heap →
    (∀ s' b mh', P b mh' → H g stk ps mh' s' → T ps s.heap s'.heap → SameL mh mh' → Q b s') → wpAny g.M A (isTrue e env (eval e env)) Q E s
def TR (g : G) (v : AV) (b : Bool) : Prop :=
  ∀ (A : Around) (X : Addr → Prop) (s : Shared) (x1 : Value) (Q : Bool → Shared → Prop) (E : Value → Shared → Prop), A.handled = none → RV X s.heap v x1 → (∀ s', Kp s s' → Q b s') → wpAny g.M A (truthy x1) Q E s
theorem tr_bool {b : Bool} : TR g (.bool b) b := fun A X s x1 Q E _ r hq => by cases r; exact wpAny_truthy_bool (hq s (Kp.refl s))
theorem tr_none : TR g .none false := fun A X s x1 Q E _ r hq => by
  cases r
  exact hq s (Kp.refl s) |> fun h => (show wpAny g.M A (truthy .none) Q E s from fun _ _ _ => h)
theorem tr_int {i : Int} : TR g (.int i) (i != 0) := fun A X s x1 Q E _ r hq => by cases r; exact PySem.P.truthy_int (hq s (Kp.refl s))

abbrev Tst (mh : MH) (b : Bool) : Bool → MH → Prop := fun b' m => b' = b ∧ m = mh

theorem TJ.mono {e : Expr} {P P' : Bool → MH → Prop} (h : TJ g stk ps n env fr mh e P) (k : ∀ v m, P v m → P' v m) : TJ g stk ps n env fr mh e P' :=
  fun A s Q E R hs hf hq => h A s Q E R hs hf fun s' v mh' p => hq s' v mh' (k v mh' p)

theorem TJ.cmp {l r : Expr} {op : CmpOp} {pos : Pos} {P1 : AV → MH → Prop} {P2 : AV → AV → MH → Prop} {P : Bool → MH → Prop} (hL : env.locals ∈ ps) (hn : 0 < n)
    (h1 : EV g stk ps n env fr mh l P1) (h2 : ∀ v1 m1, P1 v1 m1 → EV g stk ps n env fr m1 r (P2 v1)) (h3 : ∀ v1 m1 v2 m2, P1 v1 m1 → P2 v1 v2 m2 → ∃ b, OP2 g m2 (compareOp op) v1 v2 (.bool b) ∧ P b m2) (hm : behindInMarks op r = false) :
    TJ g stk ps n env fr mh (.Compare l [op] [r] pos) P := fun A s Q E R hs hf hq => by
  refine wpAny_isTrue_Compare1 (h1 A s _ E R hs hf fun s1 v1 x1 m1 p1 hs1 t1 sl1 r1 => ?_) hm
  refine h2 v1 m1 p1 A s1 _ E R hs1 (fr_next hf t1 hL sl1) fun s2 v2 x2 m2 p2 hs2 t2 sl2 r2 => ?_
  obtain ⟨b, op, pv⟩ := h3 v1 m1 v2 m2 p1 p2
  refine op A stk ps s2 x1 x2 _ E R.handled (by have := R.units; omega) hs2 (rv_next r1 t2 sl2) r2 fun s3 val k rv => ?_
  cases rv
  exact wpAny_truthy_bool (hq s3 b m2 pv (hs2.keeps k) ((t1.trans t2).trans (k.T ps)) (sl1.trans sl2))
theorem TJ.not {e : Expr} {pos : Pos} {P : Bool → MH → Prop} {P' : Bool → MH → Prop} (h : TJ g stk ps n env fr mh e P) (k : ∀ b m, P b m → P' (!b) m) : TJ g stk ps n env fr mh (.UnaryOp .Not e pos) P' := fun A s Q E R hs hf hq =>
  wpAny_isTrue_Not (h A s _ E R hs hf fun s1 b m p hs1 t1 sl1 => hq s1 (!b) m (k b m p) hs1 t1 sl1)
theorem TJ.value {e : Expr} {P1 : AV → MH → Prop} {P : Bool → MH → Prop} (h : EV g stk ps n env fr mh e P1) (k : ∀ v m, P1 v m → ∃ b, TR g v b ∧ P b m)
    (he : isTrue e env (eval e env) = (do let v ← eval e env; standAt e.pos; holding [v] (truthy v))) : TJ g stk ps n env fr mh e P := fun A s Q E R hs hf hq =>
  wpAny_isTrue_value (h A s _ E R hs hf fun s1 v x m p hs1 t1 sl1 r1 => by
    obtain ⟨b, tr, pb⟩ := k v m p
    exact tr A _ s1 x _ E R.handled r1 fun s2 kp => hq s2 b m pb (hs1.keeps kp) (t1.trans (kp.T ps)) sl1) he
theorem TJ.or2 {x y : Expr} {pos : Pos} {P1 : Bool → MH → Prop} {P : Bool → MH → Prop} (hL : env.locals ∈ ps) (h1 : TJ g stk ps n env fr mh x P1) (ht : ∀ m, P1 true m → P true m) (h2 : ∀ m, P1 false m → TJ g stk ps n env fr m y P) : TJ g stk ps n env fr mh (.BoolOp .Or [x, y] pos) P := fun A s Q E R hs hf hq => by
  refine wpAny_isTrue_BoolOp (wpAny_allTrue_Or_cons (h1 A s _ E R hs hf fun s1 b m p hs1 t1 sl1 => ?_))
  cases b with
  | true => exact hq s1 true m (ht m p) hs1 t1 sl1
  | false =>
    refine wpAny_allTrue_Or_cons (h2 m p A s1 _ E R hs1 (fr_next hf t1 hL sl1) fun s2 b m2 p2 hs2 t2 sl2 => ?_)
    cases b with
    | true => exact hq s2 true m2 p2 hs2 (t1.trans t2) (sl1.trans sl2)
    | false => exact wpAny_allTrue_Or_nil (hq s2 false m2 p2 hs2 (t1.trans t2) (sl1.trans sl2))
theorem TJ.or3 {x y z : Expr} {pos : Pos} {P1 P2 : Bool → MH → Prop} {P : Bool → MH → Prop} (hL : env.locals ∈ ps) (h1 : TJ g stk ps n env fr mh x P1) (ht : ∀ m, P1 true m → P true m) (h2 : ∀ m, P1 false m → TJ g stk ps n env fr m y P2) (ht2 : ∀ m, P2 true m → P true m) (h3 : ∀ m, P2 false m → TJ g stk ps n env fr m z P) : TJ g stk ps n env fr mh (.BoolOp .Or [x, y, z] pos) P := fun A s Q E R hs hf hq => by
  refine wpAny_isTrue_BoolOp (wpAny_allTrue_Or_cons (h1 A s _ E R hs hf fun s1 b m p hs1 t1 sl1 => ?_))
  cases b with
  | true => exact hq s1 true m (ht m p) hs1 t1 sl1
  | false =>
    refine wpAny_allTrue_Or_cons (h2 m p A s1 _ E R hs1 (fr_next hf t1 hL sl1) fun s2 b m2 p2 hs2 t2 sl2 => ?_)
    cases b with
    | true => exact hq s2 true m2 (ht2 m2 p2) hs2 (t1.trans t2) (sl1.trans sl2)
    | false =>
      refine wpAny_allTrue_Or_cons (h3 m2 p2 A s2 _ E R hs2 (fr_next (fr_next hf t1 hL sl1) t2 hL sl2) fun s3 b m3 p3 hs3 t3 sl3 => ?_)
      cases b with
      | true => exact hq s3 true m3 p3 hs3 ((t1.trans t2).trans t3) ((sl1.trans sl2).trans sl3)
      | false => exact wpAny_allTrue_Or_nil (hq s3 false m3 p3 hs3 ((t1.trans t2).trans t3) ((sl1.trans sl2).trans sl3))
theorem TJ.and2 {x y : Expr} {pos : Pos} {P1 : Bool → MH → Prop} {P : Bool → MH → Prop} (hL : env.locals ∈ ps) (h1 : TJ g stk ps n env fr mh x P1) (ht : ∀ m, P1 false m → P false m) (h2 : ∀ m, P1 true m → TJ g stk ps n env fr m y P) : TJ g stk ps n env fr mh (.BoolOp .And [x, y] pos) P := fun A s Q E R hs hf hq => by
  refine wpAny_isTrue_BoolOp (wpAny_allTrue_And_cons (h1 A s _ E R hs hf fun s1 b m p hs1 t1 sl1 => ?_))
  cases b with
  | false => exact hq s1 false m (ht m p) hs1 t1 sl1
  | true =>
    refine wpAny_allTrue_And_cons (h2 m p A s1 _ E R hs1 (fr_next hf t1 hL sl1) fun s2 b m2 p2 hs2 t2 sl2 => ?_)
    cases b with
    | false => exact hq s2 false m2 p2 hs2 (t1.trans t2) (sl1.trans sl2)
    | true => exact wpAny_allTrue_And_nil (hq s2 true m2 p2 hs2 (t1.trans t2) (sl1.trans sl2))

theorem SJ.if_ {test : Expr} {body orelse : List Stmt} {pos : Pos} {P1 : Bool → MH → Prop} {P : FL → FR → MH → Prop} (ok : EnvOk g env ps qs) (h : TJ g stk ps n env fr mh test P1)
    (ht : ∀ m, P1 true m → ST g stk ps qs n env fr m body P) (he : ∀ m, P1 false m → ST g stk ps qs n env fr m orelse P) : SJ g stk ps qs n env fr mh (exec (.If test body orelse pos) env) P := fun A s Q E R hs hf hq => by
  refine wpAny_If (h A s _ E R hs hf fun s1 b m p hs1 t1 sl1 => ?_)
  cases b with
  | true => exact ht m p A s1 Q E R hs1 (fr_next hf t1 ok.loc sl1) fun s2 fl f r2 m2 p2 hs2 hf2 t2 fl2 => hq s2 fl f r2 m2 p2 hs2 hf2 ((t1.s sl1 ok.sub).trans t2) fl2
  | false => exact he m p A s1 Q E R hs1 (fr_next hf t1 ok.loc sl1) fun s2 fl f r2 m2 p2 hs2 hf2 t2 fl2 => hq s2 fl f r2 m2 p2 hs2 hf2 ((t1.s sl1 ok.sub).trans t2) fl2

theorem SJ.assert_ {test : Expr} {msg : Option Expr} {pos : Pos} {P1 : Bool → MH → Prop} (ok : EnvOk g env ps qs) (h : TJ g stk ps n env fr mh test P1) (ht : ∀ b m, P1 b m → b = true) : SJ g stk ps qs n env fr mh (exec (.Assert test msg pos) env) (fun fl r m => fl = .next ∧ r = fr ∧ P1 true m) := fun A s Q E R hs hf hq =>
  wpAny_Assert_holds (h A s _ E R hs hf fun s1 b m p hs1 t1 sl1 => by
    obtain rfl := ht b m p
    exact ⟨rfl, hq s1 .next .next fr m ⟨rfl, rfl, p⟩ hs1 (fr_next hf t1 ok.loc sl1) (t1.s sl1 ok.sub) .next⟩)

-- is
theorem op_is_other {a b C C' d d' : Addr} {at_ at' : List (Str × AV)} (ha : mh a = some (.inst C d at_)) (hb : mh b = some (.inst C' d' at')) (hne : a ≠ b) : OP2 g mh (compareOp .Is) (.ref a) (.ref b) (.bool false) := fun A stk ps s x1 x2 Q E _ _ hs r1 r2 hq => by
  cases r1; cases r2
  obtain ⟨_, _, ⟨e1, _⟩, _⟩ := hs.rep a _ ha
  obtain ⟨_, _, ⟨e2, _⟩, _⟩ := hs.rep b _ hb
  exact wpAny_is_ref_other hne e1 e2 (by simp) (hq s _ (Kp.refl s) (.bool _))
theorem op_isnot_other {a b C C' d d' : Addr} {at_ at' : List (Str × AV)} (ha : mh a = some (.inst C d at_)) (hb : mh b = some (.inst C' d' at')) (hne : a ≠ b) : OP2 g mh (compareOp .IsNot) (.ref a) (.ref b) (.bool true) := fun A stk ps s x1 x2 Q E _ _ hs r1 r2 hq => by
  cases r1; cases r2
  obtain ⟨_, _, ⟨e1, _⟩, _⟩ := hs.rep a _ ha
  obtain ⟨_, _, ⟨e2, _⟩, _⟩ := hs.rep b _ hb
  exact wpAny_isNot_ref_other hne e1 e2 (by simp) (hq s _ (Kp.refl s) (.bool _))
theorem op_is_none_ref {b : Addr} : OP2 g mh (compareOp .Is) (.ref b) .none (.bool false) := fun A stk ps s x1 x2 Q E _ _ _ r1 r2 hq => by
  cases r1; cases r2; exact is_none (hq s _ (Kp.refl s) (.bool _))
theorem op_is_none_none : OP2 g mh (compareOp .Is) .none .none (.bool true) := fun A stk ps s x1 x2 Q E _ _ _ r1 r2 hq => by
  cases r1; cases r2; exact is_none (hq s _ (Kp.refl s) (.bool _))
theorem op_isnot_none_ref {b : Addr} : OP2 g mh (compareOp .IsNot) (.ref b) .none (.bool true) := fun A stk ps s x1 x2 Q E _ _ _ r1 r2 hq => by
  cases r1; cases r2; exact isNot_none (hq s _ (Kp.refl s) (.bool _))
theorem op_isnot_none_none : OP2 g mh (compareOp .IsNot) .none .none (.bool false) := fun A stk ps s x1 x2 Q E _ _ _ r1 r2 hq => by
  cases r1; cases r2; exact isNot_none (hq s _ (Kp.refl s) (.bool _))
theorem op_is_self {a : Addr} : OP2 g mh (compareOp .Is) (.ref a) (.ref a) (.bool true) := fun A stk ps s x1 x2 Q E _ _ _ r1 r2 hq => by
  cases r1; cases r2; exact wpAny_is_ref_self (hq s _ (Kp.refl s) (.bool _))
theorem op_isnot_self {a : Addr} : OP2 g mh (compareOp .IsNot) (.ref a) (.ref a) (.bool false) := fun A stk ps s x1 x2 Q E _ _ _ r1 r2 hq => by
  cases r1; cases r2; exact wpAny_isNot_ref_self (hq s _ (Kp.refl s) (.bool _))
theorem op_is_none_l {b : Addr} : OP2 g mh (compareOp .Is) .none (.ref b) (.bool false) := fun A stk ps s x1 x2 Q E _ _ _ r1 r2 hq => by
  cases r1; cases r2
  exact wpAny_is_plain (a := .none) (b := .ref b) rfl (hq s _ (Kp.refl s) (.bool _))
end
end Mine

-- C7
namespace Mine
section
variable {g : G} {stk : List Env} {ps qs : List Addr} {n : Nat} {env : Env} {fr : FR} {mh : MH}

def upd (mh : MH) (a : Addr) (o : MO) : MH := fun b => if b = a then some o else mh b
theorem upd_self {a : Addr} {o : MO} : upd mh a o a = some o := if_pos rfl
theorem upd_ne {a b : Addr} {o : MO} (h : b ≠ a) : upd mh a o b = mh b := if_neg h
theorem upd_sameL {a : Addr} {C d C' d' : Addr} {at_ at' : List (Str × AV)} (h : mh a = some (.inst C d at_)) : SameL mh (upd mh a (.inst C' d' at')) := fun b hb => by
  by_cases q : b = a
  · subst q; rw [upd_self, h] at hb; rcases hb with hb | hb <;> cases hb
  · exact upd_ne q
theorem putA_length (x : Str) (v : AV) : ∀ l : List (Str × AV), (putA x v l).length ≤ l.length + 1
  | [] => Nat.le_refl _
  | (y, u) :: r => by unfold putA; split <;> simp only [List.length_cons] <;> first | omega | (have := putA_length x v r; omega)

theorem putA_len_same {x : Str} {v : AV} : ∀ {l : List (Str × AV)}, l.lookup x ≠ none → (putA x v l).length = l.length
  | [], h => absurd rfl h
  | (z, u) :: r, h => by
    unfold putA
    by_cases q : z = x
    · subst q; simp
    · have e : (z == x) = false := by simpa using q
      have e' : (x == z) = false := by simpa using fun w : x = z => q w.symm
      rw [e, if_neg (by simp)]
      rw [List.lookup_cons, e'] at h
      simp only [List.length_cons]
      rw [putA_len_same h]

/-- an own object's dict turned -/
theorem H.put {s : Shared} {h' : Heap} {t : Nat} {a C d : Addr} {at_ at' : List (Str × AV)} {es : List DictEntry} {k : Nat} (h : H g stk ps mh s) (hm : mh a = some (.inst C d at_)) (hd : h'.get? d = some (dictOf es k)) (ar : AttrR es at') (hl : at'.length ≤ 20) (hb : Heap.SameBut d s.heap h') :
    H g stk ps (upd mh a (.inst C d at')) { s with heap := h', toks := t } ∧ T ps s.heap h' := by
  obtain ⟨es0, k0, ⟨i1, i2⟩, ar0⟩ := h.rep a _ hm
  obtain ⟨b1, b2, b3, b4⟩ := h.off a _ hm
  have other : ∀ b o, s.heap.get? b = some o → b ≠ d → h'.get? b = some o := fun b o e q => (hb.2 b q).trans e
  have ndk : ∀ b o, s.heap.get? b = some o → nd o → h'.get? b = some o := fun b o e q => other b o e (nd_ne i2 rfl e q)
  have ndi : ∀ C d, nd (instObj C d) := fun C d es n z => nomatch z
  refine ⟨⟨fun b o e => other b o (h.stays b o e) (fun q => by rw [q, b2] at e; cases e), h.os, h.bare, fun b o e => ?_, fun b o e => ?_, fun x y C1 C2 d1 at1 at2 e1 e2 => ?_, ?_, h.sps, fun L hL => ?_⟩,
    ⟨ndk, fun L hL o es n e z => ⟨o, other L o e (fun q => b3 (q ▸ hL)), z⟩, fun b o e => ?_⟩⟩
  · by_cases q : b = a
    · subst q
      rw [upd_self] at e; cases e
      exact ⟨es, k, ⟨ndk _ _ i1 (ndi _ _), hd⟩, ar⟩
    · rw [upd_ne q] at e
      have r := h.rep b o e
      cases o with
      | inst C' d' at2 =>
        obtain ⟨es', n', ⟨j1, j2⟩, ar'⟩ := r
        exact ⟨es', n', ⟨ndk _ _ j1 (ndi _ _), other _ _ j2 fun z => q (h.inj b a C' C d' at2 at_ e (by rw [hm, z]))⟩, ar'⟩
      | lst xs => obtain ⟨vs, n, e1, iv⟩ := r; exact ⟨vs, n, ndk _ _ e1 nd_list, iv⟩
      | opq => obtain ⟨vs, n, e1⟩ := r; exact ⟨vs, n, ndk _ _ e1 nd_list⟩
  · by_cases q : b = a
    · subst q; rw [upd_self] at e; cases e; exact ⟨b1, b2, b3, hl⟩
    · rw [upd_ne q] at e; exact h.off b o e
  · have f : ∀ z C' at', upd mh a (.inst C d at') z = some (.inst C' d1 at1) ∨ True → True := fun _ _ _ _ => trivial
    have g1 : ∃ Cx atx, mh x = some (.inst Cx d1 atx) := by
      by_cases q : x = a
      · subst q; rw [upd_self] at e1; cases e1; exact ⟨_, _, hm⟩
      · rw [upd_ne q] at e1; exact ⟨_, _, e1⟩
    have g2 : ∃ Cx atx, mh y = some (.inst Cx d1 atx) := by
      by_cases q : y = a
      · subst q; rw [upd_self] at e2; cases e2; exact ⟨_, _, hm⟩
      · rw [upd_ne q] at e2; exact ⟨_, _, e2⟩
    obtain ⟨_, _, g1⟩ := g1
    obtain ⟨_, _, g2⟩ := g2
    exact h.inj x y _ _ d1 _ _ g1 g2
  · refine funFrames_of h.frm fun b o e z => ?_
    by_cases q : b = d
    · subst q; exact ⟨_, hd, fun vs z => nomatch z⟩
    · exact ⟨o, other b o e q, z⟩
  · obtain ⟨c1, o, es', n', e, z⟩ := h.psd L hL
    exact ⟨c1, o, es', n', other L o e (fun q => b3 (q ▸ hL)), z⟩
  · by_cases q : b = d
    · exact ⟨_, q ▸ hd⟩
    · exact ⟨o, other b o e q⟩

/-- an own object's attribute stored -/
theorem SJ.setattr {o e : Expr} {name : Str} {pa pos : Pos} {a C d : Addr} {at_ : List (Str × AV)} {v : AV} (SB : St0 g g.B) (ok : EnvOk g env ps qs) (h : EV g stk ps n env fr mh e (Is mh v)) (ho : EV g stk ps n env fr mh o (Is mh (.ref a)))
    (hm : mh a = some (.inst C d at_)) (PC : PlainCls g.K C) (ht : takerIn g.K C name = some none) (hl : at_.length < 20 ∨ at_.lookup name ≠ none) (hv : Flat v) (hsw : swapsWith e (some (.Attribute o name pa)) pos.line env = pure false) :
    SJ g stk ps qs n env fr mh (exec (.Assign [.Attribute o name pa] e pos) env) (fun fl r m => fl = .next ∧ r = fr ∧ m = upd mh a (.inst C d (putA name v at_))) := fun A s Q E R hs hf hq => by
  refine plainObj_wpAny_Assign_Attribute (h A s _ E R hs hf ?_) hsw
  rintro s1 v1 val m1 ⟨rfl, rfl⟩ hs1 t1 sl1 r1
  refine ho A s1 _ E R hs1 (fr_next hf t1 ok.loc sl1) ?_
  rintro s2 v2 x2 m2 ⟨rfl, rfl⟩ hs2 t2 sl2 r2
  cases r2
  obtain ⟨es, k, I, ar⟩ := hs2.rep a _ hm
  have hgl : (getL name es).isSome = true := by
    cases q : at_.lookup name with
    | none => rw [(attr_get ar).2 q]; rfl
    | some u => obtain ⟨x, e, _⟩ := (attr_get ar).1 u q; rw [e]; rfl
  have ar' := attr_put (w := g.w) (x := name) (hsh := PyData.keyHash g.w.params name) (t := s2.toks + 1) ar (hv.any r1)
  have hlen : (putA name v1 at_).length ≤ 20 := by
    rcases hl with hl | hl
    · exact Nat.le_trans (putA_length _ _ _) hl
    · rw [putA_len_same hl]; exact (hs2.off a _ hm).2.2.2
  refine set_raw (SB.keeps hs2.stays).kin PC I ht hgl ?_ fun h' hd hb => ?_
  · rw [ar'.length]; omega
  · obtain ⟨hs3, t3⟩ := hs2.put (t := s2.toks + 2) hm hd ar' hlen hb
    have sl3 := upd_sameL (C' := C) (d' := d) (at' := putA name v1 at_) hm
    have tt := (t1.trans t2).trans t3
    have sl := (sl1.trans sl2).trans sl3
    exact hq _ .next .next fr _ ⟨rfl, rfl, rfl⟩ hs3 (hf.T tt ok.loc fun _ _ _ => sl.im) (tt.s sl ok.sub) .next

/-- lists that may change, put out of sight -/
def hideL (mh : MH) : MH := fun a => match mh a with
  | some (.lst _) => some .opq
  | o => o
def backL (mh m0 : MH) : MH := fun a => if isL (mh a) = true then mh a else m0 a
theorem hideL_im {a : Addr} : Im (hideL mh) a ↔ Im mh a := by
  unfold Im hideL
  cases mh a with
  | none => rfl
  | some o => cases o <;> simp [isL]
theorem hideL_noM (a : Addr) : isM (hideL mh a) = false := by
  unfold hideL
  cases mh a with
  | none => rfl
  | some o => cases o <;> rfl
theorem H.hide {s : Shared} (h : H g stk ps mh s) : H g stk ps (hideL mh) s := by
  have inst : ∀ a C d at_, hideL mh a = some (.inst C d at_) → mh a = some (.inst C d at_) := fun a C d at_ e => by
    unfold hideL at e
    cases q : mh a with
    | none => rw [q] at e; cases e
    | some o => rw [q] at e; cases o <;> first | exact e | cases e
  refine ⟨h.stays, h.os, h.bare, fun a o e => ?_, fun a o e => ?_, fun x y C C' d at_ at' e1 e2 => h.inj x y C C' d at_ at' (inst _ _ _ _ e1) (inst _ _ _ _ e2), h.frm, h.sps, h.psd⟩
  · unfold hideL at e
    cases q : mh a with
    | none => rw [q] at e; cases e
    | some o' =>
      rw [q] at e
      have r := h.rep a o' q
      cases o' with
      | inst => cases e; exact r
      | lst xs => cases e; obtain ⟨vs, n, e1, _⟩ := r; exact ⟨_, n, e1⟩
      | opq => cases e; exact r
  · unfold hideL at e
    cases q : mh a with
    | none => rw [q] at e; cases e
    | some o' =>
      rw [q] at e
      have r := h.off a o' q
      cases o' with
      | inst => cases e; exact r
      | lst xs => cases e; trivial
      | opq => cases e; exact r

def retOf : FL → AV
  | .ret v => v
  | _ => .none

/-- a plain def's frame -/
theorem callEnv_ok {fd : FuncData} {L f : Addr} {ps : List Addr} (hk : fd.scope.kind = .function) (hgl : fd.globals = mainGlobals) (hbl : fd.builtins = builtinsNs) (hcl : fd.closure = []) (hL : L ∉ ps) : EnvOk g (callEnv fd L f) (L :: ps) ps where
  kind := hk
  glob := hgl
  blt := hbl
  loc := List.mem_cons_self
  out := hL
  sub := fun q hq => List.mem_cons_of_mem _ hq
  cellB := fun x c e => by
    have : (callEnv fd L f).cells = [] := hcl
    rw [this] at e; cases e
  cinj := fun x y c e => by
    have : (callEnv fd L f).cells = [] := hcl
    rw [this] at e; cases e
end

section
variable {g : G} {n : Nat} {mh : MH}
theorem CA.def_ {f : Addr} {fd : FuncData} {body : List Stmt} {as : List AV} {fr0 : FR} {P0 : AV → MH → Prop} (SB : St0 g g.B)
    (ho : ∃ oc od osl, g.K.lookup f = some ⟨oc, od, .func fd, osl⟩) (hcd : codeIn g.K fd.code fd.qualname = true) (hbody : fd.body = .stmts body)
    (hk : fd.scope.kind = .function) (hco : fd.scope.isCoroutine = false) (hgen : fd.scope.isGenerator = false) (hcell : ∀ x ∈ fd.scope.names, x.2 ≠ .cell) (hgl : fd.globals = mainGlobals) (hbl : fd.builtins = builtinsNs) (hcl : fd.closure = [])
    (hbind : ∀ (s : Shared) (vals : List Value) (X : Addr → Prop), g.K.In s.heap → RVs X s.heap as vals → ∃ binds, BindsTo s fd ⟨vals, []⟩ binds ∧ (∀ x ∈ binds, fd.scope.names.lookup x.1 = some .local) ∧ ∀ x v, fr0.lookup x = some v → ∃ val, (callEnv fd 0 f).kindOf x = some .local ∧ binds.reverse.lookup x = some val ∧ RV X s.heap v val)
    (hno : ∀ v m, P0 v m → ∀ a, isL (m a) = true → isL (mh a) = true)
    (hb : ∀ (L : Addr) (stk : List Env) (ps : List Addr), L ∉ ps → ST g (callEnv fd L f :: stk) (L :: ps) ps n (callEnv fd L f) fr0 (hideL mh) body (fun fl r m => P0 (retOf fl) m)) :
    CA g (n + 1) (.ref f) as mh (fun v m => ∃ m0, P0 v m0 ∧ m = backL mh m0) := fun stk ps A s vals R Rm hs ra hq => by
  obtain ⟨oc, od, osl, ho⟩ := ho
  have S := SB.keeps hs.stays
  obtain ⟨binds, hbd, hloc, hfr⟩ := hbind s vals (Im mh) S.kin ra
  refine codeAny_call_def (fd := fd) (body := body) (binds := binds) (by have := Rm.depth; omega) (S.kin _ _ ho) rfl S.nl (codeRec_of S.kin hcd) hbody hbd hcell hloc (fun h₀ hns hkp => ?_) hco hgen hk
  have hLn : s.heap.get? s.heap.objs.size = none := by
    cases q : s.heap.get? s.heap.objs.size with
    | none => rfl
    | some o => exact absurd (Heap.lt_size q) (Nat.lt_irrefl _)
  have hLp : s.heap.objs.size ∉ ps := fun q => by obtain ⟨_, o, _, _, e, _⟩ := hs.psd _ q; rw [hLn] at e; cases e
  have hBn : g.B.get? s.heap.objs.size = none := by
    cases q : g.B.get? s.heap.objs.size with
    | none => rfl
    | some o => have := hs.stays _ _ q; rw [hLn] at this; cases this
  have hh := hs.hide
  have hns' := hns
  obtain ⟨oL, esL, nL, eL, dL, _⟩ := hns'
  have hs0 : H g (callEnv fd s.heap.objs.size f :: stk) (s.heap.objs.size :: ps) (hideL mh) { s with heap := h₀, toks := s.toks + binds.length } := by
    have k := hh.keeps (Kp.of (s := s) (t := s.toks + binds.length) hkp)
    refine ⟨k.stays, k.os, k.bare, k.rep, fun a o e => ?_, k.inj, ⟨by show fd.scope.kind ≠ .module; rw [hk]; decide, ⟨_, oL, rfl, hBn, eL, fun vs z => by rw [dL] at z; cases z⟩, k.frm⟩, fun L hL => ?_, fun L hL => ?_⟩
    · have r := hh.off a o e
      cases o with
      | inst C d at_ =>
        refine ⟨r.1, r.2.1, fun q => ?_, r.2.2.2⟩
        rcases List.mem_cons.mp q with q | q
        · obtain ⟨_, _, ⟨_, i2⟩, _⟩ := hh.rep a _ e; rw [q, hLn] at i2; cases i2
        · exact r.2.2.1 q
      | lst => exact r
      | opq => trivial
    · rw [List.filterMap_cons] at hL
      rcases List.mem_cons.mp (show L ∈ s.heap.objs.size :: stk.filterMap (·.frame) from hL) with q | q
      · rw [q]; exact List.mem_cons_self
      · exact List.mem_cons_of_mem _ (hs.sps L q)
    · rcases List.mem_cons.mp hL with q | q
      · rw [q]; exact ⟨hBn, oL, esL, nL, eL, dL⟩
      · exact k.psd L q
  have hf0 : FrR (callEnv fd s.heap.objs.size f) fr0 (hideL mh) h₀ := by
    refine ⟨⟨_, hns⟩, fun x c e => ?_, fun x v e => ?_⟩
    · have : (callEnv fd s.heap.objs.size f).cells = [] := hcl
      rw [this] at e; cases e
    · obtain ⟨val, hkd, hb1, rv⟩ := hfr x v e
      exact ⟨val, .inl ⟨hkd, _, hns, hb1⟩, rv.mono fun a o e d hi => ⟨hideL_im.mpr hi, hkp a o e⟩⟩
  refine hb s.heap.objs.size stk ps hLp (A.deeper (callEnv fd s.heap.objs.size f)) _ _ _ (Rm.deeper _) hs0 hf0 fun s' fl fv r m0 p hs' hf' ts flr => ?_
  have cn : (callEnv fd s.heap.objs.size f).cells = [] := hcl
  have keep : ∀ b o, s.heap.get? b = some o → nd o → s'.heap.get? b = some o := fun b o e d => ts.nd b o (hkp b o e) d (by rw [cn]; simp) (hideL_noM b)
  have opq : ∀ a, isL (mh a) = true → m0 a = some .opq := fun a e => ts.op a (by
    unfold hideL
    cases q : mh a with
    | none => rw [q] at e; cases e
    | some o => rw [q] at e; cases o <;> first | rfl | cases e)
  have im : ∀ a, Im m0 a → Im (backL mh m0) a := fun a i => by
    unfold Im backL
    split
    · rename_i z; have := opq a z; unfold Im at i; rw [this] at i; cases i
    · exact i
  have hres : H g stk ps (backL mh m0) s' := by
    refine ⟨hs'.stays, hs'.os, hs'.bare, fun a o e => ?_, fun a o e => ?_, fun x y C C' d at_ at' e1 e2 => ?_, hs'.frm.2.2, fun L hL => hs.sps L hL, fun L hL => hs'.psd L (List.mem_cons_of_mem _ hL)⟩
    · unfold backL at e
      split at e
      · rename_i z
        have r := hs.rep a o e
        cases o with
        | inst => rw [e] at z; cases z
        | lst xs => obtain ⟨vs, n, e1, iv⟩ := r; exact ⟨vs, n, keep _ _ e1 nd_list, iv⟩
        | opq => obtain ⟨vs, n, e1⟩ := r; exact ⟨vs, n, keep _ _ e1 nd_list⟩
      · exact hs'.rep a o e
    · unfold backL at e
      split at e
      · rename_i z
        have r := hs.off a o e
        cases o with
        | inst => rw [e] at z; cases z
        | lst xs => exact r
        | opq => trivial
      · have r := hs'.off a o e
        cases o with
        | inst C d at_ => exact ⟨r.1, r.2.1, fun q => r.2.2.1 (List.mem_cons_of_mem _ q), r.2.2.2⟩
        | lst => exact r
        | opq => trivial
    · have un : ∀ z C at_, backL mh m0 z = some (.inst C d at_) → m0 z = some (.inst C d at_) := fun z C at_ e => by
        unfold backL at e
        split at e
        · rename_i q; rw [e] at q; cases q
        · exact e
      exact hs'.inj x y C C' d at_ at' (un _ _ _ e1) (un _ _ _ e2)
  have tt : T ps s.heap s'.heap := ⟨keep, fun L hL o es k e d => ts.ns L hL o es k (hkp _ _ e) d, fun b o e => ts.live b o (hkp _ _ e)⟩
  have sl : SameL mh (backL mh m0) := fun a e => by
    unfold backL at *
    by_cases z : isL (mh a) = true
    · rw [if_pos z]
    · rw [if_neg z] at e ⊢
      rcases e with e | e
      · exact absurd e z
      · exact absurd (hno _ _ p a e) z
  cases flr with
  | ret rv => exact hq s' _ _ _ ⟨m0, p, rfl⟩ hres tt sl (rv.mono fun a o e d i => ⟨im a i, e⟩)
  | next => exact hq s' .none .none _ ⟨m0, p, rfl⟩ hres tt sl .none
  | brk => exact hq s' .none .none _ ⟨m0, p, rfl⟩ hres tt sl .none
  | cont => exact hq s' .none .none _ ⟨m0, p, rfl⟩ hres tt sl .none
end
end Mine

-- C8
namespace Mine
section
variable {g : G} {stk : List Env} {ps qs : List Addr} {n : Nat} {env : Env} {fr : FR} {mh : MH}

theorem H.slots {s : Shared} {h' : Heap} {t : Nat} (h : H g stk ps mh s) (k1 : ∀ b o, s.heap.get? b = some o → b ∉ stk.filterMap (·.frame) → h'.get? b = some o)
    (k2 : ∀ b o, s.heap.get? b = some o → b ∈ stk.filterMap (·.frame) → ∃ sl, h'.get? b = some { o with slots := sl }) : H g stk ps mh { s with heap := h', toks := t } ∧ T ps s.heap h' := by
  have off : ∀ b o, s.heap.get? b = some o → nd o → b ∉ stk.filterMap (·.frame) := fun b o e d q => by
    obtain ⟨_, o', es, n, e', d'⟩ := h.psd b (h.sps b q)
    rw [e] at e'; cases e'; exact d _ _ d'
  have ndi : ∀ C d, nd (instObj C d) := fun C d es n z => nomatch z
  have dat : ∀ b o, s.heap.get? b = some o → ∃ o', h'.get? b = some o' ∧ o'.data = o.data := fun b o e => by
    by_cases q : b ∈ stk.filterMap (·.frame)
    · obtain ⟨sl, e'⟩ := k2 b o e q; exact ⟨_, e', rfl⟩
    · exact ⟨o, k1 b o e q, rfl⟩
  refine ⟨⟨fun b o e => k1 b o (h.stays b o e) (fun q => by rw [(h.psd b (h.sps b q)).1] at e; cases e), h.os, h.bare, fun a o e => ?_, h.off, h.inj, ?_, h.sps, fun L hL => ?_⟩, fun b o e d => k1 b o e (off b o e d), fun L hL o es n e d => ?_, fun b o e => ?_⟩
  · have r := h.rep a o e
    cases o with
    | inst C d at_ =>
      obtain ⟨es, n, ⟨i1, i2⟩, ar⟩ := r
      exact ⟨es, n, ⟨k1 _ _ i1 (off _ _ i1 (ndi _ _)), k1 _ _ i2 fun q => (h.off a _ e).2.2.1 (h.sps _ q)⟩, ar⟩
    | lst xs => obtain ⟨vs, n, e1, iv⟩ := r; exact ⟨vs, n, k1 _ _ e1 (off _ _ e1 nd_list), iv⟩
    | opq => obtain ⟨vs, n, e1⟩ := r; exact ⟨vs, n, k1 _ _ e1 (off _ _ e1 nd_list)⟩
  · refine funFrames_of h.frm fun b o e d => ?_
    obtain ⟨o', e', d'⟩ := dat b o e
    exact ⟨o', e', fun vs z => d vs (d' ▸ z)⟩
  · obtain ⟨b1, o, es, n, e, d⟩ := h.psd L hL
    obtain ⟨o', e', d'⟩ := dat L o e
    exact ⟨b1, o', es, n, e', d'.trans d⟩
  · obtain ⟨o', e', d'⟩ := dat L o e
    exact ⟨o', e', d'.trans d⟩
  · obtain ⟨o', e', _⟩ := dat b o e; exact ⟨o', e'⟩

theorem rebase {B B' h h' : Heap} : ∀ {l : List Env}, h.FunFrames B l → (∀ L ∈ l.filterMap (·.frame), B'.get? L = none) → (∀ b o, h.get? b = some o → h'.get? b = some o) → h'.FunFrames B' l
  | [], _, _, _ => trivial
  | env :: l, ⟨hk, ⟨L, o, hf, hn, ho, hd⟩, hr⟩, k1, k2 => ⟨hk, ⟨L, o, hf, k1 L (by rw [List.filterMap_cons, hf]; exact List.mem_cons_self), k2 _ _ ho, hd⟩,
      rebase hr (fun L' h' => k1 L' (by rw [List.filterMap_cons, hf]; exact List.mem_cons_of_mem _ h')) k2⟩

theorem SJ.try_hit {body : List Stmt} {h0 : ExceptHandler} {hs0 : List ExceptHandler} {orelse : List Stmt} {pos : Pos} {P : FL → FR → MH → Prop} (h : ST g stk ps qs n env fr mh body P) (hP : ∀ r m, ¬ P .next r m) : SJ g stk ps qs n env fr mh (exec (.Try body (h0 :: hs0) orelse [] pos) env) P := fun A s Q E R hs hf hq => by
  refine wpAny_Try_except (h A s _ _ R hs hf fun s1 fl f r m p hs1 hf1 ts flr => ?_)
  cases flr with
  | next => exact absurd p (hP r m)
  | brk => exact hq s1 .brk .brk r m p hs1 hf1 ts .brk
  | cont => exact hq s1 .cont .cont r m p hs1 hf1 ts .cont
  | ret rv => exact hq s1 _ _ r m p hs1 hf1 ts (.ret rv)

theorem SJ.try_miss {x attr : Str} {px pa pr pn pk pr2 ph pos : Pos} {k : Nat} {a C d L : Addr} {at_ : List (Str × AV)} (SB : St0 g g.B) (ok : EnvOk g env ps qs) (hstk : ∃ outer, stk = env :: outer) (hfr : env.frame = some L)
    (hx : fr.lookup x = some (.ref a)) (hxd : (x == ("__debug__" : Str)) = false) (hxn : (x == ("__classdict__" : Str)) = false) (hm : mh a = some (.inst C d at_)) (PC : PlainCls g.K C) (hN : nameShort g.K C = true) (hfd : findIn g.K (.ref C) attr = some none) (hl : at_.lookup attr = none)
    (hc : copiedNames.contains attr = false) (hsz : attr.length + 100 ≤ sizeLine) (hkA : env.kindOf "AttributeError" = some .globalImplicit) (hmg : g.mg "AttributeError" = none)
    (he : eval (.Attribute (.Name x px) attr pa) env = (do
      let o' ← eval (.Name x px) env
      standAt pa.atName
      let r ← holding [o'] (getAttr o' attr true)
      letTemporaryGo (.Name x px) o' r
      pure r)) :
    SJ g stk ps qs n env fr mh (exec (.Try [.Return (some (.Attribute (.Name x px) attr pa)) pr] [.ExceptHandler (some (.Name "AttributeError" pn)) none [.Return (some (.Constant .none k pk)) pr2] ph] [] [] pos) env) (fun fl r m => fl = .ret .none ∧ r = fr ∧ m = mh) := fun A s Q E R hs hf hq => by
  obtain ⟨outer, rfl⟩ := hstk
  have S := SB.keeps hs.stays
  obtain ⟨es, nn, I, ar⟩ := hs.rep a _ hm
  obtain ⟨xv, rd, rv⟩ := hf.nam x _ hx
  cases rv
  refine wpAny_Try_except (wpAny_execs_cons (wpAny_Return_some (Attribute_any_ (wpAny_Name (rd.load ok.kind hxn ?_) hxd) he)))
  refine miss_raw S.kin PC hN I hfd hc ((attr_get ar).2 hl) R.handled hsz fun h' tk e hx => ?_
  obtain ⟨ob, vs, ehe, hcls, hd, h1⟩ := hx.there
  have hsz1 : 1 < vs.size := (Array.getElem?_eq_some_iff.mp h1).1
  have h0 : vs[0]? = some vs[0] := Array.getElem?_eq_getElem (by omega)
  let fs := (env :: outer).filterMap (·.frame)
  let hb := hideAll s.heap fs
  have hbk : hb.StaysIn h' := fun b o e => hx.keeps b o (of_hideAll fs e)
  have hbe : hb.get? e = none := by
    cases q : hb.get? e with
    | none => rfl
    | some o => have := of_hideAll fs q; rw [hx.new] at this; cases this
  have hff : h'.FunFrames hb (env :: outer) := rebase hs.frm (fun L hL => hideAll_none fs hL) hx.keeps
  unfold noteFrame
  simp only [hfr]
  refine wpAny_bind (wpAny_field (s := { s with heap := h', toks := tk }) ehe hd h1 ?_)
  rw [if_neg (by decide)]
  refine wpAny_entryW (s := { s with heap := h', toks := tk }) (a0 := vs[0]) R.frames hff hfr ehe hbk hbe hd hsz1 h0 fun h2 hN => ?_
  obtain ⟨k1, k2, k3, k4⟩ := hN
  refine wpAny_landsW (s := { s with heap := h2, toks := tk }) (base := hb) (l := env :: outer) (L := L) (cls := ob.cls) (a0 := vs[0]) ⟨k1, hbe, k2, k3⟩ fun h3 hfl u3 => ?_
  have BS : ∀ h4 : Heap, hb.StaysIn h4 → g.B.StaysIn h4 := fun h4 z b o e => z b o (hideAll_get fs (hs.stays b o e) fun q => by rw [(hs.psd b (hs.sps b q)).1] at e; cases e)
  have S3 := SB.keeps (BS h3 hfl.1)
  refine wpAny_handleBy_builtin (X := "AttributeError") (T := "AttributeError") (b := true) (isSubtype_of_subB (by decide +kernel)) (isSubtype_of_subB (by decide +kernel)) sub_AttributeError ?_
  refine Calls.Name_function_global ok.kind hkA (Calls.loadGlobal_builtin (mg := g.mg) (mb := g.mb) (v := .type "AttributeError") (by rw [ok.glob]; exact S3.gns) hmg (by rw [ok.blt]; exact S3.bns) ((S3.bu _ (by decide +kernel)).trans (by decide +kernel)) ?_) (by decide +kernel)
  obtain ⟨oe, hoe, hoc⟩ := hfl.there
  refine ⟨rfl, ⟨oe, hoe, hoc.trans hcls⟩, ?_⟩
  rw [if_pos rfl]
  obtain ⟨f1, f2, f3, f4⟩ := hfl
  refine wpAny_setFlight_noneW (s := { s with heap := h3, toks := tk }) f1 f3 f4.at fun h5 z1 z2 z3 z4 => ?_
  refine wpAny_execs_cons (wpAny_Return_some (wpAny_Constant_none ?_))
  have kk1 : ∀ b o, s.heap.get? b = some o → b ∉ fs → h5.get? b = some o := fun b o e q => z1 b o (hideAll_get fs e q)
  have kk2 : ∀ b o, s.heap.get? b = some o → b ∈ fs → ∃ sl, h5.get? b = some { o with slots := sl } := fun b o e q => by
    obtain ⟨_, o', es', n', e', d'⟩ := hs.psd b (hs.sps b q)
    rw [e] at e'; cases e'
    have nf : ∀ vs, o.data ≠ .fields vs := fun vs z => by rw [d'] at z; cases z
    obtain ⟨s2, e2⟩ := k4 b o (hx.keeps b o e) nf
    obtain ⟨s3, e3⟩ := u3 b _ e2 nf
    exact ⟨s3, z4 b _ e3 nf⟩
  obtain ⟨hs5, t5⟩ := hs.slots (t := tk) kk1 kk2
  exact hq _ (.ret .none) (.ret .none) fr mh ⟨rfl, rfl, rfl⟩ hs5 (hf.T t5 ok.loc fun _ _ _ h => h) (t5.s (SameL.refl _) ok.sub) (.ret .none)
end
end Mine

-- C9
namespace Mine

def fld (mh : MH) (a : Addr) (x : Str) : Option AV := match mh a with | some (.inst _ _ at_) => at_.lookup x | _ => none
def kls (mh : MH) (a : Addr) : Option Addr := match mh a with | some (.inst C _ _) => some C | _ => none
def setA (mh : MH) (a : Addr) (x : Str) (v : AV) : MH := match mh a with | some (.inst C d at_) => upd mh a (.inst C d (putA x v at_)) | _ => mh
def asz (mh : MH) (a : Addr) : Nat := match mh a with | some (.inst _ _ at_) => at_.length | _ => 0
theorem cls_ex {mh : MH} {a C : Addr} (h : kls mh a = some C) : ∃ d at_, mh a = some (.inst C d at_) := by
  unfold kls at h
  split at h
  · rename_i C' d at_ e; cases h; exact ⟨d, at_, e⟩
  · cases h
theorem attr_at {mh : MH} {a C d : Addr} {at_ : List (Str × AV)} (e : mh a = some (.inst C d at_)) (x : Str) : fld mh a x = at_.lookup x := by unfold fld; rw [e]
theorem setA_at {mh : MH} {a C d : Addr} {at_ : List (Str × AV)} (e : mh a = some (.inst C d at_)) (x : Str) (v : AV) : setA mh a x v = upd mh a (.inst C d (putA x v at_)) := by unfold setA; rw [e]
theorem putA_lookup (x : Str) (v : AV) (y : Str) : ∀ l : List (Str × AV), (putA x v l).lookup y = if y = x then some v else l.lookup y
  | [] => by
    unfold putA
    rw [List.lookup_cons]
    by_cases e : y = x
    · subst e; simp
    · have : (y == x) = false := by simpa using e
      rw [this, if_neg e]
  | (z, u) :: r => by
    have ih := putA_lookup x v y r
    unfold putA
    by_cases q : z = x
    · subst q
      simp only [beq_self_eq_true, if_true]
      rw [List.lookup_cons, List.lookup_cons]
      by_cases e : y = z
      · subst e; simp
      · have : (y == z) = false := by simpa using e
        rw [this, if_neg e]
    · have : (z == x) = false := by simpa using q
      rw [this, if_neg (by simp), List.lookup_cons, List.lookup_cons, ih]
      by_cases e : y = z
      · subst e; simp [q]
      · have : (y == z) = false := by simpa using e
        rw [this]
theorem setA_other {mh : MH} {a b : Addr} {x : Str} {v : AV} (h : b ≠ a) : setA mh a x v b = mh b := by
  unfold setA
  cases mh a with
  | none => rfl
  | some o => cases o <;> first | exact upd_ne h | rfl
theorem attr_setA {mh : MH} {a C : Addr} (hc : kls mh a = some C) (x : Str) (v : AV) (b : Addr) (y : Str) : fld (setA mh a x v) b y = if b = a ∧ y = x then some v else fld mh b y := by
  obtain ⟨d, at_, e⟩ := cls_ex hc
  rw [setA_at e]
  by_cases q : b = a
  · subst q
    unfold fld
    rw [upd_self, e]
    dsimp only
    rw [putA_lookup]
    by_cases z : y = x <;> simp [z]
  · unfold fld
    rw [upd_ne q, if_neg (fun z => q z.1)]
theorem cls_setA {mh : MH} (a : Addr) (x : Str) (v : AV) (b : Addr) : kls (setA mh a x v) b = kls mh b := by
  unfold setA
  split
  · rename_i C d at_ e
    unfold kls
    by_cases q : b = a
    · subst q; rw [upd_self, e]
    · rw [upd_ne q]
  · rfl
theorem size_setA {mh : MH} (a : Addr) (x : Str) (v : AV) (b : Addr) : asz (setA mh a x v) b ≤ asz mh b + 1 := by
  unfold setA
  split
  · rename_i C d at_ e
    unfold asz
    by_cases q : b = a
    · subst q; rw [upd_self, e]; exact putA_length _ _ _
    · rw [upd_ne q]; exact Nat.le_succ _
  · exact Nat.le_succ _
theorem cls_hide (mh : MH) (a : Addr) : kls (hideL mh) a = kls mh a := by
  unfold kls hideL
  cases mh a with
  | none => rfl
  | some o => cases o <;> rfl
theorem attr_hide (mh : MH) (a : Addr) (x : Str) : fld (hideL mh) a x = fld mh a x := by
  unfold fld hideL
  cases mh a with
  | none => rfl
  | some o => cases o <;> rfl
theorem size_hide (mh : MH) (a : Addr) : asz (hideL mh) a = asz mh a := by
  unfold asz hideL
  cases mh a with
  | none => rfl
  | some o => cases o <;> rfl
theorem hide_setA {mh : MH} (a : Addr) (x : Str) (v : AV) : hideL (setA mh a x v) = setA (hideL mh) a x v := by
  funext b
  by_cases q : b = a
  · subst q
    unfold setA
    cases e : mh b with
    | none => unfold hideL; simp only [e]
    | some o =>
      cases o with
      | inst C d at_ => unfold hideL; simp only [e, upd_self]
      | lst xs => unfold hideL; simp only [e]
      | opq => unfold hideL; simp only [e]
  · rw [setA_other q]
    unfold hideL
    rw [setA_other q]
theorem back_hide (mh : MH) : backL mh (hideL mh) = mh := by
  funext a
  unfold backL hideL
  cases e : mh a with
  | none => rfl
  | some o => cases o <;> rfl
theorem back_hide_of {mh m : MH} (h : ∀ a, isL (mh a) = true ∨ isL (m a) = true → m a = mh a) : backL mh (hideL m) = m := by
  funext a
  unfold backL
  split
  · rename_i q; exact (h a (.inl q)).symm
  · rename_i q
    unfold hideL
    cases e : m a with
    | none => rfl
    | some o =>
      cases o with
      | inst => rfl
      | lst xs => have := h a (.inr (by rw [e]; rfl)); rw [← this, e] at q; exact absurd rfl q
      | opq => rfl
theorem sameL_setA {mh : MH} (a : Addr) (x : Str) (v : AV) : SameL mh (setA mh a x v) := by
  unfold setA
  split
  · rename_i e; exact upd_sameL e
  · exact SameL.refl _

section
variable {g : G} {stk : List Env} {ps qs : List Addr} {n : Nat} {env : Env} {fr : FR} {mh : MH}

theorem EV.att {o : Expr} {name : Str} {pos : Pos} {a C : Addr} {v : AV} {at0 : Option Value} (SB : St0 g g.B) (ho : EV g stk ps n env fr mh o (Is mh (.ref a))) (hm : kls mh a = some C) (PC : PlainCls g.K C)
    (ha : findIn g.K (.ref C) name = some at0) (hn : noGet g.K at0 = true) (hl : fld mh a name = some v)
    (he : eval (.Attribute o name pos) env = (do
      let o' ← eval o env
      standAt pos.atName
      let r ← holding [o'] (getAttr o' name true)
      letTemporaryGo o o' r
      pure r)) : EV g stk ps n env fr mh (.Attribute o name pos) (Is mh v) := by
  obtain ⟨d, at_, e⟩ := cls_ex hm
  exact EV.attr SB ho e PC ha hn ((attr_at e name).symm.trans hl) he
theorem EV.met {o : Expr} {name : Str} {apos pos : Pos} {e0 : Expr} {rest : List Expr} {a C f : Addr} {Pa : List AV → MH → Prop} {P : AV → MH → Prop} (SB : St0 g g.B) (hL : env.locals ∈ ps)
    (ho : EV g stk ps n env fr mh o (Is mh (.ref a))) (hm : kls mh a = some C) (HM : HasMeth g.K C name f) (hl : fld mh a name = none)
    (ha : EVs g stk ps n env fr mh (e0 :: rest) Pa) (hc : ∀ vs m1, Pa vs m1 → CA g n (.ref f) (.ref a :: vs) m1 P) (hu : ((e0 :: rest).all unstar) = true)
    (he : IsMeth o name apos pos (e0 :: rest) env) : EV g stk ps n env fr mh (.Call (.Attribute o name apos) (e0 :: rest) [] pos) P := by
  obtain ⟨d, at_, e⟩ := cls_ex hm
  exact EV.meth SB hL ho e HM ((attr_at e name).symm.trans hl) ha hc hu he
theorem EV.met0 {o : Expr} {name : Str} {apos pos : Pos} {a C f : Addr} {P : AV → MH → Prop} (SB : St0 g g.B)
    (ho : EV g stk ps n env fr mh o (Is mh (.ref a))) (hm : kls mh a = some C) (HM : HasMeth g.K C name f) (hl : fld mh a name = none)
    (hc : CA g n (.ref f) [.ref a] mh P)
    (he : IsMeth o name apos pos [] env) : EV g stk ps n env fr mh (.Call (.Attribute o name apos) [] [] pos) P := by
  obtain ⟨d, at_, e⟩ := cls_ex hm
  exact EV.meth0 SB ho e HM ((attr_at e name).symm.trans hl) hc he
theorem SJ.seta {o e : Expr} {name : Str} {pa pos : Pos} {a C : Addr} {v : AV} (SB : St0 g g.B) (ok : EnvOk g env ps qs) (h : EV g stk ps n env fr mh e (Is mh v)) (ho : EV g stk ps n env fr mh o (Is mh (.ref a)))
    (hm : kls mh a = some C) (PC : PlainCls g.K C) (ht : takerIn g.K C name = some none) (hl : asz mh a < 20 ∨ fld mh a name ≠ none) (hv : Flat v) (hsw : swapsWith e (some (.Attribute o name pa)) pos.line env = pure false) :
    SJ g stk ps qs n env fr mh (exec (.Assign [.Attribute o name pa] e pos) env) (fun fl r m => fl = .next ∧ r = fr ∧ m = setA mh a name v) := by
  obtain ⟨d, at_, e⟩ := cls_ex hm
  rw [setA_at e]
  exact SJ.setattr SB ok h ho e PC ht (hl.imp (fun hl => by unfold asz at hl; rw [e] at hl; exact hl) (fun hl => attr_at e name ▸ hl)) hv hsw
end
end Mine

-- C10
namespace Mine

theorem zip_lookup_not {β : Type} {x : Str} : ∀ {names : List Str} {vs : List β}, x ∉ names → (names.zip vs).lookup x = none
  | [], _, _ => rfl
  | _ :: _, [], _ => rfl
  | y :: names, v :: vs, h => by
    rw [List.zip_cons_cons, List.lookup_cons]
    have e : (x == y) = false := by simpa using fun q : x = y => h (q ▸ List.mem_cons_self)
    rw [e]
    exact zip_lookup_not fun q => h (List.mem_cons_of_mem _ q)
theorem lookup_append {β : Type} {x : Str} : ∀ {l r : List (Str × β)}, (l ++ r).lookup x = match l.lookup x with | some v => some v | none => r.lookup x
  | [], _ => rfl
  | (y, v) :: l, r => by
    rw [List.cons_append, List.lookup_cons, List.lookup_cons]
    cases x == y with
    | true => rfl
    | false => exact lookup_append
theorem zip_binds {X : Addr → Prop} {h : Heap} {x : Str} {v : AV} : ∀ {names : List Str} {as : List AV} {vals : List Value}, names.Nodup → RVs X h as vals → (names.zip as).lookup x = some v → x ∈ names ∧ ∃ val, (names.zip vals).reverse.lookup x = some val ∧ RV X h v val
  | [], _, _, _, _, e => by cases e
  | _ :: _, _, _, _, .nil, e => by cases e
  | y :: names, _, _, hn, .cons (a := a) (b := b) (l₁ := as) (l₂ := vals) r rs, e => by
    rw [List.zip_cons_cons, List.lookup_cons] at e
    rw [List.zip_cons_cons, List.reverse_cons, lookup_append]
    rw [List.nodup_cons] at hn
    by_cases q : x = y
    · subst q
      simp only [beq_self_eq_true] at e
      cases e
      refine ⟨List.mem_cons_self, b, ?_, r⟩
      have z : (names.zip vals).reverse.lookup x = none := by
        have : ∀ l : List (Str × Value), (∀ p ∈ l, p.1 ≠ x) → l.lookup x = none := by
          intro l
          induction l with
          | nil => intro _; rfl
          | cons p l ih =>
            intro hp
            rw [List.lookup_cons]
            have e : (x == p.1) = false := by simpa using fun q : x = p.1 => hp p List.mem_cons_self q.symm
            rw [e]
            exact ih fun p' h' => hp p' (List.mem_cons_of_mem _ h')
        refine this _ fun p hp q => hn.1 ?_
        rw [← q]
        exact (List.of_mem_zip (List.mem_reverse.mp hp)).1
      rw [z]; simp [List.lookup_cons]
    · have e' : (x == y) = false := by simpa using q
      rw [e'] at e
      obtain ⟨hm, val, hl, rv⟩ := zip_binds hn.2 rs e
      refine ⟨List.mem_cons_of_mem _ hm, val, ?_, rv⟩
      rw [hl]

def argNames (fd : FuncData) : List Str := fd.params.args.map (·.arg)
section
variable {g : G} {n : Nat} {mh : MH}
theorem CA.def3 {f : Addr} {fd : FuncData} {body : List Stmt} {as as' : List AV} {P : AV → MH → Prop} (SB : St0 g g.B)
    (ho : ∃ oc od osl, g.K.lookup f = some ⟨oc, od, .func fd, osl⟩) (hcd : codeIn g.K fd.code fd.qualname = true) (hbody : fd.body = .stmts body)
    (hk : fd.scope.kind = .function) (hco : fd.scope.isCoroutine = false) (hgen : fd.scope.isGenerator = false) (hcell : ∀ x ∈ fd.scope.names, x.2 ≠ .cell) (hgl : fd.globals = mainGlobals) (hbl : fd.builtins = builtinsNs) (hcl : fd.closure = [])
    (hnd : (argNames fd).Nodup) (hloc : ∀ x ∈ argNames fd, fd.scope.names.lookup x = some .local)
    (hbind : ∀ (s : Shared) (vals : List Value) (X : Addr → Prop), g.K.In s.heap → RVs X s.heap as vals → ∃ vals', RVs X s.heap as' vals' ∧ BindsTo s fd ⟨vals, []⟩ ((argNames fd).zip vals'))
    (hb : ∀ (L : Addr) (stk : List Env) (ps : List Addr), L ∉ ps → EnvOk g (callEnv fd L f) (L :: ps) ps → ST g (callEnv fd L f :: stk) (L :: ps) ps n (callEnv fd L f) ((argNames fd).zip as') (hideL mh) body (fun fl r m => ∃ m1, m = hideL m1 ∧ SameL mh m1 ∧ P (retOf fl) m1)) :
    CA g (n + 1) (.ref f) as mh P := by
  refine CA.mono (CA.def_ (fr0 := (argNames fd).zip as') (P0 := fun v m => ∃ m1, m = hideL m1 ∧ SameL mh m1 ∧ P v m1) SB ho hcd hbody hk hco hgen hcell hgl hbl hcl ?_ ?_ fun L stk ps hL => hb L stk ps hL (callEnv_ok hk hgl hbl hcl hL)) ?_
  · intro s vals X hK ra
    obtain ⟨vals', r', hb'⟩ := hbind s vals X hK ra
    refine ⟨_, hb', fun x hx => hloc _ (List.of_mem_zip hx).1, fun x v e => ?_⟩
    obtain ⟨hm, val, hl, rv⟩ := zip_binds hnd r' e
    exact ⟨val, hloc x hm, hl, rv⟩
  · rintro v m ⟨m1, rfl, sl, _⟩ a ha
    have h1 : isL (m1 a) = true := by
      unfold hideL at ha
      cases e : m1 a with
      | none => rw [e] at ha; cases ha
      | some o => rw [e] at ha; cases o <;> first | rfl | cases ha
    rw [← sl a (.inr h1)]; exact h1
  · rintro v m ⟨m0, ⟨m1, rfl, sl, p⟩, rfl⟩
    rw [back_hide_of sl]; exact p
end
section
variable {g : G} {stk : List Env} {ps qs : List Addr} {n : Nat} {env : Env} {fr : FR} {mh m1 : MH} {rest : List Stmt} {P : FL → FR → MH → Prop} {v : AV}

theorem ST.retI {e : Expr} {pos : Pos} (ok : EnvOk g env ps qs) (h : EV g stk ps n env fr mh e (Is m1 v)) (k : P (.ret v) fr m1) : ST g stk ps qs n env fr mh (.Return (some e) pos :: rest) P :=
  ST.cons (SJ.return_ ok h) (fun r m => by rintro ⟨_, v', e, _⟩; cases e) (by rintro fl r m ⟨rfl, v', rfl, rfl, rfl⟩ _; exact k)
theorem ST.ret {e : Expr} {pos : Pos} {Pe : AV → MH → Prop} (ok : EnvOk g env ps qs) (h : EV g stk ps n env fr mh e Pe) (k : ∀ v m, Pe v m → P (.ret v) fr m) : ST g stk ps qs n env fr mh (.Return (some e) pos :: rest) P :=
  ST.cons (SJ.return_ ok h) (fun r m => by rintro ⟨_, v', e, _⟩; cases e) (by rintro fl r m ⟨rfl, v', rfl, p⟩ _; exact k _ _ p)
theorem ST.nilI (k : P .next fr mh) : ST g stk ps qs n env fr mh [] P := ST.mono ST.nil (by rintro f r m ⟨rfl, rfl, rfl⟩; exact k)
theorem ST.retN {pos : Pos} (k : P (.ret .none) fr mh) : ST g stk ps qs n env fr mh (.Return none pos :: rest) P :=
  ST.cons SJ.returnN (fun r m => by rintro ⟨_, _, e⟩; cases e) (by rintro fl r m ⟨rfl, rfl, rfl⟩ _; exact k)
theorem ST.stepI {x : Str} {px pos : Pos} {e : Expr} (ok : EnvOk g env ps qs) (hk : env.kindOf x = some .local ∨ (env.kindOf x = some .cell ∧ ∃ c, env.cells.lookup x = some c)) (h : EV g stk ps n env fr mh e (Is m1 v))
    (k : ST g stk ps qs n env ((x, v) :: fr) m1 rest P) (hsw : swapsWith e (some (.Name x px)) pos.line env = pure false := by rfl) : ST g stk ps qs n env fr mh (.Assign [.Name x px] e pos :: rest) P :=
  ST.cons (SJ.assign ok hk h hsw) (by rintro r m ⟨v', _, rfl, rfl, rfl⟩; exact k) (by rintro fl r m ⟨v', rfl, _⟩ h; exact absurd rfl h)
theorem ST.step {x : Str} {px pos : Pos} {e : Expr} {Pe : AV → MH → Prop} (ok : EnvOk g env ps qs) (hk : env.kindOf x = some .local ∨ (env.kindOf x = some .cell ∧ ∃ c, env.cells.lookup x = some c)) (h : EV g stk ps n env fr mh e Pe)
    (k : ∀ v m, Pe v m → ST g stk ps qs n env ((x, v) :: fr) m rest P) (hsw : swapsWith e (some (.Name x px)) pos.line env = pure false := by rfl) : ST g stk ps qs n env fr mh (.Assign [.Name x px] e pos :: rest) P :=
  ST.cons (SJ.assign ok hk h hsw) (by rintro r m ⟨v', _, rfl, p⟩; exact k _ _ p) (by rintro fl r m ⟨v', rfl, _⟩ h; exact absurd rfl h)
theorem ST.exprI {e : Expr} {pos : Pos} (ok : EnvOk g env ps qs) (h : EV g stk ps n env fr mh e (Is m1 v)) (k : ST g stk ps qs n env fr m1 rest P) (hi : interactive env = false := by rfl) (hsw : swapsWith e none pos.line env = pure false := by rfl) :
    ST g stk ps qs n env fr mh (.Expr e pos :: rest) P :=
  ST.cons (SJ.expr ok h hi hsw) (by rintro r m ⟨_, rfl, v', rfl, rfl⟩; exact k) (by rintro fl r m ⟨rfl, _⟩ h; exact absurd rfl h)
theorem ST.exprP {e : Expr} {pos : Pos} {Pe : AV → MH → Prop} (ok : EnvOk g env ps qs) (h : EV g stk ps n env fr mh e Pe) (k : ∀ v m, Pe v m → ST g stk ps qs n env fr m rest P) (hi : interactive env = false := by rfl) (hsw : swapsWith e none pos.line env = pure false := by rfl) :
    ST g stk ps qs n env fr mh (.Expr e pos :: rest) P :=
  ST.cons (SJ.expr ok h hi hsw) (by rintro r m ⟨_, rfl, v', p⟩; exact k _ _ p) (by rintro fl r m ⟨rfl, _⟩ h; exact absurd rfl h)
theorem ST.setI {o e : Expr} {name : Str} {pa pos : Pos} {a C : Addr} (SB : St0 g g.B) (ok : EnvOk g env ps qs) (h : EV g stk ps n env fr mh e (Is mh v)) (ho : EV g stk ps n env fr mh o (Is mh (.ref a)))
    (hm : kls mh a = some C) (PC : PlainCls g.K C) (ht : takerIn g.K C name = some none) (hl : asz mh a < 20 ∨ fld mh a name ≠ none) (hv : Flat v) (k : ST g stk ps qs n env fr (setA mh a name v) rest P) (hsw : swapsWith e (some (.Attribute o name pa)) pos.line env = pure false := by rfl) :
    ST g stk ps qs n env fr mh (.Assign [.Attribute o name pa] e pos :: rest) P :=
  ST.cons (SJ.seta SB ok h ho hm PC ht hl hv hsw) (by rintro r m ⟨_, rfl, rfl⟩; exact k) (by rintro fl r m ⟨rfl, _⟩ h; exact absurd rfl h)
theorem ST.ifT {test : Expr} {body orelse : List Stmt} {pos : Pos} (ok : EnvOk g env ps qs) (h : TJ g stk ps n env fr mh test (Tst m1 true)) (k : ST g stk ps qs n env fr m1 body (fun fl r m => (fl = .next → ST g stk ps qs n env r m rest P) ∧ (fl ≠ .next → P fl r m))) : ST g stk ps qs n env fr mh (.If test body orelse pos :: rest) P :=
  ST.cons (SJ.if_ (P := fun fl r m => (fl = .next → ST g stk ps qs n env r m rest P) ∧ (fl ≠ .next → P fl r m)) ok h (by rintro m ⟨_, rfl⟩; exact k) (by rintro m ⟨e, _⟩; cases e)) (fun r m p => p.1 rfl) (fun fl r m p q => p.2 q)
theorem ST.ifF {test : Expr} {body : List Stmt} {pos : Pos} (ok : EnvOk g env ps qs) (h : TJ g stk ps n env fr mh test (Tst m1 false)) (k : ST g stk ps qs n env fr m1 rest P) : ST g stk ps qs n env fr mh (.If test body [] pos :: rest) P :=
  ST.cons (SJ.if_ (P := fun fl r m => fl = .next ∧ r = fr ∧ m = m1) ok h (by rintro m ⟨e, _⟩; cases e) (by rintro m ⟨_, rfl⟩; exact ST.nil)) (by rintro r m ⟨_, rfl, rfl⟩; exact k) (by rintro fl r m ⟨rfl, _⟩ q; exact absurd rfl q)
theorem ST.assertI {test : Expr} {msg : Option Expr} {pos : Pos} (ok : EnvOk g env ps qs) (h : TJ g stk ps n env fr mh test (Tst m1 true)) (k : ST g stk ps qs n env fr m1 rest P) : ST g stk ps qs n env fr mh (.Assert test msg pos :: rest) P :=
  ST.cons (SJ.assert_ ok h (by rintro b m ⟨rfl, _⟩; rfl)) (by rintro r m ⟨_, rfl, _, rfl⟩; exact k) (by rintro fl r m ⟨rfl, _⟩ q; exact absurd rfl q)
theorem ST.tryHit {body : List Stmt} {h0 : ExceptHandler} {hs0 : List ExceptHandler} {orelse : List Stmt} {pos : Pos} (h : ST g stk ps qs n env fr mh body (fun fl r m => fl ≠ .next ∧ P fl r m)) : ST g stk ps qs n env fr mh (.Try body (h0 :: hs0) orelse [] pos :: rest) P :=
  ST.cons (SJ.try_hit h (fun r m p => p.1 rfl)) (fun r m p => absurd rfl p.1) (fun fl r m p _ => p.2)
theorem ST.of {st : Stmt} {fl : FL} (h : SJ g stk ps qs n env fr mh (exec st env) (fun f r m => f = fl ∧ r = fr ∧ m = mh)) (hf : fl ≠ .next) (k : P fl fr mh) : ST g stk ps qs n env fr mh (st :: rest) P :=
  ST.cons h (by rintro r m ⟨e, _⟩; exact absurd e.symm hf) (by rintro f r m ⟨rfl, rfl, rfl⟩ _; exact k)

-- pure pairs
theorem EV.cmpI {l r : Expr} {op : CmpOp} {pos : Pos} {v1 v2 : AV} {b : Bool} {m2 : MH} (hL : env.locals ∈ ps) (hn : 0 < n) (h1 : EV g stk ps n env fr mh l (Is m1 v1)) (h2 : EV g stk ps n env fr m1 r (Is m2 v2)) (h3 : OP2 g m2 (compareOp op) v1 v2 (.bool b)) (hm : behindInMarks op r = false := by with_unfolding_all rfl) :
    EV g stk ps n env fr mh (.Compare l [op] [r] pos) (Is m2 (.bool b)) := EV.cmp (P2 := fun _ => Is m2 v2) hL hn h1 (by rintro v m ⟨rfl, rfl⟩; exact h2) (by rintro _ _ _ _ ⟨rfl, rfl⟩ ⟨rfl, rfl⟩; exact ⟨_, h3, rfl, rfl⟩) hm
theorem TJ.cmpI {l r : Expr} {op : CmpOp} {pos : Pos} {v1 v2 : AV} {b : Bool} {m2 : MH} (hL : env.locals ∈ ps) (hn : 0 < n) (h1 : EV g stk ps n env fr mh l (Is m1 v1)) (h2 : EV g stk ps n env fr m1 r (Is m2 v2)) (h3 : OP2 g m2 (compareOp op) v1 v2 (.bool b)) (hm : behindInMarks op r = false := by with_unfolding_all rfl) :
    TJ g stk ps n env fr mh (.Compare l [op] [r] pos) (Tst m2 b) := TJ.cmp (P2 := fun _ => Is m2 v2) hL hn h1 (by rintro v m ⟨rfl, rfl⟩; exact h2) (by rintro _ _ _ _ ⟨rfl, rfl⟩ ⟨rfl, rfl⟩; exact ⟨_, h3, rfl, rfl⟩) hm
theorem EV.binI {l r : Expr} {op : Operator} {pos : Pos} {v1 v2 v : AV} {m2 : MH} (hL : env.locals ∈ ps) (hn : 0 < n) (h1 : EV g stk ps n env fr mh l (Is m1 v1)) (h2 : EV g stk ps n env fr m1 r (Is m2 v2)) (h3 : OP2 g m2 (binaryOp op) v1 v2 v) :
    EV g stk ps n env fr mh (.BinOp l op r pos) (Is m2 v) := EV.bin (P2 := fun _ => Is m2 v2) hL hn h1 (by rintro v m ⟨rfl, rfl⟩; exact h2) (by rintro _ _ _ _ ⟨rfl, rfl⟩ ⟨rfl, rfl⟩; exact ⟨_, h3, rfl, rfl⟩)
theorem EV.unI {l : Expr} {op : UnaryOp} {pos : Pos} {v1 v : AV} (hn : 0 < n) (h1 : EV g stk ps n env fr mh l (Is m1 v1)) (h3 : OP1 g m1 (unaryOp op) v1 v) :
    EV g stk ps n env fr mh (.UnaryOp op l pos) (Is m1 v) := EV.un hn h1 (by rintro _ _ ⟨rfl, rfl⟩; exact ⟨_, h3, rfl, rfl⟩)
theorem TJ.valI {e : Expr} {b : Bool} (h : EV g stk ps n env fr mh e (Is m1 v)) (tr : TR g v b) (he : isTrue e env (eval e env) = (do let v ← eval e env; standAt e.pos; holding [v] (truthy v)) := by rfl) : TJ g stk ps n env fr mh e (Tst m1 b) :=
  TJ.value h (by rintro _ _ ⟨rfl, rfl⟩; exact ⟨b, tr, rfl, rfl⟩) he
theorem TJ.notI {e : Expr} {pos : Pos} {b : Bool} (h : TJ g stk ps n env fr mh e (Tst m1 b)) : TJ g stk ps n env fr mh (.UnaryOp .Not e pos) (Tst m1 (!b)) := TJ.not h (by rintro _ _ ⟨rfl, rfl⟩; exact ⟨rfl, rfl⟩)
theorem TJ.orT {x y : Expr} {pos : Pos} (hL : env.locals ∈ ps) (h1 : TJ g stk ps n env fr mh x (Tst m1 true)) : TJ g stk ps n env fr mh (.BoolOp .Or [x, y] pos) (Tst m1 true) :=
  TJ.or2 hL h1 (by rintro m ⟨_, rfl⟩; exact ⟨rfl, rfl⟩) (by rintro m ⟨e, _⟩; cases e)
theorem TJ.orF {x y : Expr} {pos : Pos} {m2 : MH} {b : Bool} (hL : env.locals ∈ ps) (h1 : TJ g stk ps n env fr mh x (Tst m1 false)) (h2 : TJ g stk ps n env fr m1 y (Tst m2 b)) : TJ g stk ps n env fr mh (.BoolOp .Or [x, y] pos) (Tst m2 b) :=
  TJ.or2 hL h1 (by rintro m ⟨e, _⟩; cases e) (by rintro m ⟨_, rfl⟩; exact h2)
theorem EVs.one {e : Expr} (hL : env.locals ∈ ps) (hu : unstar e = true) (h : EV g stk ps n env fr mh e (Is m1 v)) : EVs g stk ps n env fr mh [e] (fun vs m => vs = [v] ∧ m = m1) :=
  EVs.cons (P2 := fun _ vs m => vs = [] ∧ m = m1) hL hu h (by rintro v1 m2 ⟨rfl, rfl⟩; exact EVs.nil) (by rintro v1 m2 vs m3 ⟨rfl, rfl⟩ ⟨rfl, rfl⟩; exact ⟨rfl, rfl⟩)
theorem EVs.two {e f : Expr} {u : AV} {m2 : MH} (hL : env.locals ∈ ps) (hu : unstar e = true) (hu' : unstar f = true) (h : EV g stk ps n env fr mh e (Is m1 v)) (h' : EV g stk ps n env fr m1 f (Is m2 u)) : EVs g stk ps n env fr mh [e, f] (fun vs m => vs = [v, u] ∧ m = m2) :=
  EVs.cons (P2 := fun _ vs m => vs = [u] ∧ m = m2) hL hu h (by rintro _ _ ⟨rfl, rfl⟩; exact EVs.one hL hu' h') (by rintro v1 m2 vs m3 ⟨rfl, rfl⟩ ⟨rfl, rfl⟩; exact ⟨rfl, rfl⟩)
/-- a method's call with one argument, two -/
theorem EV.met1 {o e : Expr} {name : Str} {apos pos : Pos} {a C f : Addr} {u : AV} {P : AV → MH → Prop} (SB : St0 g g.B) (hL : env.locals ∈ ps)
    (ho : EV g stk ps n env fr mh o (Is mh (.ref a))) (hm : kls mh a = some C) (HM : HasMeth g.K C name f) (hl : fld mh a name = none)
    (h1 : EV g stk ps n env fr mh e (Is m1 u)) (hc : CA g n (.ref f) [.ref a, u] m1 P) (hu : unstar e = true := by rfl)
    (he : IsMeth o name apos pos [e] env := by exact ⟨_, rfl⟩) : EV g stk ps n env fr mh (.Call (.Attribute o name apos) [e] [] pos) P :=
  EV.met SB hL ho hm HM hl (EVs.one hL hu h1) (by rintro vs m ⟨rfl, rfl⟩; exact hc) (by rw [List.all_cons, hu]; rfl) he
theorem EV.met2 {o e e' : Expr} {name : Str} {apos pos : Pos} {a C f : Addr} {u u' : AV} {m2 : MH} {P : AV → MH → Prop} (SB : St0 g g.B) (hL : env.locals ∈ ps)
    (ho : EV g stk ps n env fr mh o (Is mh (.ref a))) (hm : kls mh a = some C) (HM : HasMeth g.K C name f) (hl : fld mh a name = none)
    (h1 : EV g stk ps n env fr mh e (Is m1 u)) (h2 : EV g stk ps n env fr m1 e' (Is m2 u')) (hc : CA g n (.ref f) [.ref a, u, u'] m2 P) (hu : unstar e = true := by rfl) (hu' : unstar e' = true := by rfl)
    (he : IsMeth o name apos pos [e, e'] env := by exact ⟨_, rfl⟩) : EV g stk ps n env fr mh (.Call (.Attribute o name apos) [e, e'] [] pos) P :=
  EV.met SB hL ho hm HM hl (EVs.two hL hu hu' h1 h2) (by rintro vs m ⟨rfl, rfl⟩; exact hc) (by rw [List.all_cons, hu, List.all_cons, hu']; rfl) he
end
end Mine

-- E1
namespace Mine

abbrev nxt (mh : MH) (a : Addr) : Option AV := fld mh a "next_on_list"
abbrev prv (mh : MH) (a : Addr) : Option AV := fld mh a "prev_on_list"
def Lnk (mh : MH) (a b : Addr) : Prop := nxt mh a = some (.ref b) ∧ prv mh b = some (.ref a)
/-- a chain from a through xs to b -/
def Chn (mh : MH) : Addr → List Addr → Addr → Prop
  | a, [], b => Lnk mh a b
  | a, x :: xs, b => Lnk mh a x ∧ Chn mh x xs b
theorem Chn.app {mh : MH} : ∀ {xs ys : List Addr} {a y b : Addr}, Chn mh a (xs ++ y :: ys) b ↔ Chn mh a xs y ∧ Chn mh y ys b
  | [], ys, a, y, b => Iff.rfl
  | x :: xs, ys, a, y, b => by
    show Lnk mh a x ∧ Chn mh x (xs ++ y :: ys) b ↔ (Lnk mh a x ∧ Chn mh x xs y) ∧ Chn mh y ys b
    rw [Chn.app (xs := xs), and_assoc]
theorem Chn.frame {mh mh' : MH} : ∀ {xs : List Addr} {a b : Addr}, Chn mh a xs b → (∀ x, x = a ∨ x ∈ xs → nxt mh' x = nxt mh x) → (∀ x, x ∈ xs ∨ x = b → prv mh' x = prv mh x) → Chn mh' a xs b
  | [], a, b, h, h1, h2 => ⟨(h1 a (.inl rfl)).trans h.1, (h2 b (.inr rfl)).trans h.2⟩
  | x :: xs, a, b, h, h1, h2 => ⟨⟨(h1 a (.inl rfl)).trans h.1.1, (h2 x (.inl List.mem_cons_self)).trans h.1.2⟩, h.2.frame
      (fun z hz => h1 z (.inr (by rcases hz with rfl | hz; exact List.mem_cons_self; exact List.mem_cons_of_mem _ hz))) (fun z hz => h2 z (hz.imp (List.mem_cons_of_mem _) id))⟩
theorem Chn.last {mh : MH} {xs : List Addr} {a b : Addr} (h : Chn mh a xs b) : ∃ p, prv mh b = some (.ref p) ∧ nxt mh p = some (.ref b) ∧ ((xs = [] ∧ p = a) ∨ ∃ ys, xs = ys ++ [p]) := by
  rcases List.eq_nil_or_concat xs with rfl | ⟨ys, p, rfl⟩
  · exact ⟨a, h.2, h.1, .inl ⟨rfl, rfl⟩⟩
  · rw [List.concat_eq_append] at h ⊢
    obtain ⟨_, h2⟩ := Chn.app.mp h
    exact ⟨p, h2.2, h2.1, .inr ⟨ys, rfl⟩⟩

/-- off the lists, with room for its links -/
def Off (mh : MH) (x : Addr) : Prop := (nxt mh x = none ∧ prv mh x = none ∧ asz mh x ≤ 10) ∨ (nxt mh x = some (.ref x) ∧ prv mh x = some (.ref x))

/-- only the links of S turned -/
structure SameO (S : Addr → Prop) (mh mh' : MH) : Prop where
  k : ∀ b, kls mh' b = kls mh b
  f : ∀ b (y : Str), y ≠ "next_on_list" → y ≠ "prev_on_list" → fld mh' b y = fld mh b y
  o : ∀ b, ¬ S b → mh' b = mh b
theorem SameO.refl {S : Addr → Prop} (mh : MH) : SameO S mh mh := ⟨fun _ => rfl, fun _ _ _ _ => rfl, fun _ _ => rfl⟩
theorem SameO.trans {S : Addr → Prop} {a b c : MH} (x : SameO S a b) (y : SameO S b c) : SameO S a c := ⟨fun z => (y.k z).trans (x.k z), fun z w h1 h2 => (y.f z w h1 h2).trans (x.f z w h1 h2), fun z h => (y.o z h).trans (x.o z h)⟩
theorem SameO.mono {S S' : Addr → Prop} {a b : MH} (x : SameO S a b) (h : ∀ z, S z → S' z) : SameO S' a b := ⟨x.k, x.f, fun z hz => x.o z fun q => hz (h z q)⟩
theorem SameO.setA {S : Addr → Prop} {mh : MH} {a C : Addr} {x : Str} {v : AV} (hc : kls mh a = some C) (hx : x = "next_on_list" ∨ x = "prev_on_list") (hS : S a) : SameO S mh (setA mh a x v) :=
  ⟨fun b => cls_setA _ _ _ _, fun b y h1 h2 => by rw [attr_setA hc, if_neg]; rintro ⟨_, rfl⟩; rcases hx with h | h; exact h1 h; exact h2 h, fun b hb => setA_other fun q => hb (q ▸ hS)⟩
theorem SameO.nx {S : Addr → Prop} {mh mh' : MH} (s : SameO S mh mh') {b : Addr} (h : ¬ S b) (y : Str) : fld mh' b y = fld mh b y := by unfold fld; rw [s.o b h]
theorem SameO.sz {S : Addr → Prop} {mh mh' : MH} (s : SameO S mh mh') {b : Addr} (h : ¬ S b) : asz mh' b = asz mh b := by unfold asz; rw [s.o b h]

/-- insert before a: p is what stood before -/
def insB (mh : MH) (a x p : Addr) : MH := setA (setA (setA (setA mh a "prev_on_list" (.ref x)) x "next_on_list" (.ref a)) x "prev_on_list" (.ref p)) p "next_on_list" (.ref x)
def insA (mh : MH) (a x q : Addr) : MH := setA (setA (setA (setA mh a "next_on_list" (.ref x)) x "prev_on_list" (.ref a)) x "next_on_list" (.ref q)) q "prev_on_list" (.ref x)
/-- taken out: p stands before, q behind -/
def cut (mh : MH) (x p q : Addr) : MH := setA (setA (setA (setA mh p "next_on_list" (.ref q)) q "prev_on_list" (.ref p)) x "next_on_list" (.ref x)) x "prev_on_list" (.ref x)

section
variable {mh : MH} {a x p q Ca Cx Cp Cq : Addr}
theorem insB_same (ha : kls mh a = some Ca) (hx : kls mh x = some Cx) (hp : kls mh p = some Cp) {S : Addr → Prop} (Sa : S a) (Sx : S x) (Sp : S p) : SameO S mh (insB mh a x p) := by
  unfold insB
  refine (((SameO.setA ha (.inr rfl) Sa).trans (SameO.setA (C := Cx) ?_ (.inl rfl) Sx)).trans (SameO.setA (C := Cx) ?_ (.inr rfl) Sx)).trans (SameO.setA (C := Cp) ?_ (.inl rfl) Sp) <;> simp only [cls_setA, ha, hx, hp]
theorem insA_same (ha : kls mh a = some Ca) (hx : kls mh x = some Cx) (hp : kls mh p = some Cp) {S : Addr → Prop} (Sa : S a) (Sx : S x) (Sp : S p) : SameO S mh (insA mh a x p) := by
  unfold insA
  refine (((SameO.setA ha (.inl rfl) Sa).trans (SameO.setA (C := Cx) ?_ (.inr rfl) Sx)).trans (SameO.setA (C := Cx) ?_ (.inl rfl) Sx)).trans (SameO.setA (C := Cp) ?_ (.inr rfl) Sp) <;> simp only [cls_setA, ha, hx, hp]
theorem cut_same (hx : kls mh x = some Cx) (hp : kls mh p = some Cp) (hq : kls mh q = some Cq) {S : Addr → Prop} (Sx : S x) (Sp : S p) (Sq : S q) : SameO S mh (cut mh x p q) := by
  unfold cut
  refine (((SameO.setA hp (.inl rfl) Sp).trans (SameO.setA (C := Cq) ?_ (.inr rfl) Sq)).trans (SameO.setA (C := Cx) ?_ (.inl rfl) Sx)).trans (SameO.setA (C := Cx) ?_ (.inr rfl) Sx) <;> simp only [cls_setA, hx, hp, hq]
theorem ne_np : ("next_on_list" : Str) ≠ "prev_on_list" := by decide +kernel
theorem ne_pn : ("prev_on_list" : Str) ≠ "next_on_list" := by decide +kernel
theorem insB_nxt (ha : kls mh a = some Ca) (hx : kls mh x = some Cx) (hp : kls mh p = some Cp) (b : Addr) : nxt (insB mh a x p) b = if b = p then some (.ref x) else if b = x then some (.ref a) else nxt mh b := by
  unfold insB nxt
  rw [attr_setA (C := Cp) (by simp only [cls_setA, hp]), attr_setA (C := Cx) (by simp only [cls_setA, hx]), attr_setA (C := Cx) (by simp only [cls_setA, hx]), attr_setA ha]
  simp only [ne_np, and_false, if_false, and_true]
theorem insB_prv (ha : kls mh a = some Ca) (hx : kls mh x = some Cx) (hp : kls mh p = some Cp) (b : Addr) : prv (insB mh a x p) b = if b = x then some (.ref p) else if b = a then some (.ref x) else prv mh b := by
  unfold insB prv
  rw [attr_setA (C := Cp) (by simp only [cls_setA, hp]), attr_setA (C := Cx) (by simp only [cls_setA, hx]), attr_setA (C := Cx) (by simp only [cls_setA, hx]), attr_setA ha]
  simp only [ne_pn, and_false, if_false, and_true]
theorem insA_nxt (ha : kls mh a = some Ca) (hx : kls mh x = some Cx) (hp : kls mh p = some Cp) (b : Addr) : nxt (insA mh a x p) b = if b = x then some (.ref p) else if b = a then some (.ref x) else nxt mh b := by
  unfold insA nxt
  rw [attr_setA (C := Cp) (by simp only [cls_setA, hp]), attr_setA (C := Cx) (by simp only [cls_setA, hx]), attr_setA (C := Cx) (by simp only [cls_setA, hx]), attr_setA ha]
  simp only [ne_np, and_false, if_false, and_true]
theorem insA_prv (ha : kls mh a = some Ca) (hx : kls mh x = some Cx) (hp : kls mh p = some Cp) (b : Addr) : prv (insA mh a x p) b = if b = p then some (.ref x) else if b = x then some (.ref a) else prv mh b := by
  unfold insA prv
  rw [attr_setA (C := Cp) (by simp only [cls_setA, hp]), attr_setA (C := Cx) (by simp only [cls_setA, hx]), attr_setA (C := Cx) (by simp only [cls_setA, hx]), attr_setA ha]
  simp only [ne_pn, and_false, if_false, and_true]
theorem cut_nxt (hx : kls mh x = some Cx) (hp : kls mh p = some Cp) (hq : kls mh q = some Cq) (b : Addr) : nxt (cut mh x p q) b = if b = x then some (.ref x) else if b = p then some (.ref q) else nxt mh b := by
  unfold cut nxt
  rw [attr_setA (C := Cx) (by simp only [cls_setA, hx]), attr_setA (C := Cx) (by simp only [cls_setA, hx]), attr_setA (C := Cq) (by simp only [cls_setA, hq]), attr_setA hp]
  simp only [ne_np, and_false, if_false, and_true]
theorem cut_prv (hx : kls mh x = some Cx) (hp : kls mh p = some Cp) (hq : kls mh q = some Cq) (b : Addr) : prv (cut mh x p q) b = if b = x then some (.ref x) else if b = q then some (.ref p) else prv mh b := by
  unfold cut prv
  rw [attr_setA (C := Cx) (by simp only [cls_setA, hx]), attr_setA (C := Cx) (by simp only [cls_setA, hx]), attr_setA (C := Cq) (by simp only [cls_setA, hq]), attr_setA hp]
  simp only [ne_pn, and_false, if_false, and_true]
end

/-- the chain with x put at its end -/
theorem Chn.put_last {mh : MH} {a b x p Cb Cx Cp : Addr} {xs : List Addr} (h : Chn mh a xs b) (hn : (a :: xs).Nodup) (hb : b = a ∨ b ∉ xs) (hxa : x ≠ a) (hxb : x ≠ b) (hxs : x ∉ xs) (kb : kls mh b = some Cb) (kx : kls mh x = some Cx) (kp : kls mh p = some Cp) (hp : prv mh b = some (.ref p)) : Chn (insB mh b x p) a (xs ++ [x]) b := by
  obtain ⟨p', e1, e2, e3⟩ := h.last
  rw [hp] at e1; cases e1
  have hb' : b ∉ xs := by
    rcases hb with rfl | hb
    · exact (List.nodup_cons.mp hn).1
    · exact hb
  have N := insB_nxt kb kx kp
  have V := insB_prv kb kx kp
  have hpx : p ≠ x := by
    rcases e3 with ⟨_, rfl⟩ | ⟨ys, rfl⟩
    · exact fun q => hxa q.symm
    · exact fun q => hxs (by rw [← q]; simp)
  have L2 : Lnk (insB mh b x p) x b := ⟨by rw [N, if_neg fun q => hpx q.symm, if_pos rfl], by rw [V, if_neg fun q => hxb q.symm, if_pos rfl]⟩
  have L1 : Lnk (insB mh b x p) p x := ⟨by rw [N, if_pos rfl], by rw [V, if_pos rfl]⟩
  rcases e3 with ⟨rfl, rfl⟩ | ⟨ys, rfl⟩
  · exact ⟨L1, L2⟩
  · refine Chn.app.mpr ⟨Chn.app.mpr ⟨(Chn.app.mp h).1.frame (fun z hz => ?_) (fun z hz => ?_), L1⟩, L2⟩
    · have h1 : z ≠ p := by
        rintro rfl
        rw [List.nodup_cons, List.nodup_append] at hn
        rcases hz with rfl | hz
        · exact hn.1 (by simp)
        · exact hn.2.2.2 z hz z (by simp) rfl
      have h2 : z ≠ x := by
        rintro rfl
        rcases hz with rfl | hz
        · exact hxa rfl
        · exact hxs (by simp [hz])
      rw [N, if_neg h1, if_neg h2]
    · have hm : z ∈ ys ++ [p] := by rcases hz with hz | rfl <;> simp [*]
      have h1 : z ≠ x := by rintro rfl; exact hxs hm
      have h2 : z ≠ b := by rintro rfl; exact hb' hm
      rw [V, if_neg h1, if_neg h2]
/-- the chain with x put at its head -/
theorem Chn.put_first {mh : MH} {a x q Ca Cx Cq : Addr} {xs : List Addr} (h : Chn mh a xs a) (hn : (a :: xs).Nodup) (hxa : x ≠ a) (hxs : x ∉ xs) (ka : kls mh a = some Ca) (kx : kls mh x = some Cx) (kq : kls mh q = some Cq) (hq : nxt mh a = some (.ref q)) : Chn (insA mh a x q) a (x :: xs) a := by
  have N := insA_nxt ka kx kq
  have V := insA_prv ka kx kq
  have L1 : ∀ {q}, q ≠ x → Lnk (insA mh a x q) a x → True := fun _ _ => trivial
  cases xs with
  | nil =>
    have e := h.1; rw [hq] at e; cases e
    exact ⟨⟨by rw [N, if_neg fun z => hxa z.symm, if_pos rfl], by rw [V, if_neg hxa, if_pos rfl]⟩, ⟨by rw [N, if_pos rfl], by rw [V, if_pos rfl]⟩⟩
  | cons y ys =>
    have e := h.1.1; rw [hq] at e; cases e
    have hqx : q ≠ x := fun z => hxs (by rw [z]; exact List.mem_cons_self)
    rw [List.nodup_cons, List.nodup_cons] at hn
    refine ⟨⟨by rw [N, if_neg fun z => hxa z.symm, if_pos rfl], by rw [V, if_neg fun z => hqx z.symm, if_pos rfl]⟩, ⟨by rw [N, if_pos rfl], by rw [V, if_pos rfl]⟩, h.2.frame (fun z hz => ?_) (fun z hz => ?_)⟩
    · have hm : z ∈ q :: ys := by rcases hz with rfl | hz; exact List.mem_cons_self; exact List.mem_cons_of_mem _ hz
      rw [N, if_neg (by rintro rfl; exact hxs hm), if_neg (by rintro rfl; exact hn.1 hm)]
    · have h1 : z ≠ q := by
        rintro rfl
        rcases hz with hz | rfl
        · exact hn.2.1 hz
        · exact hn.1 List.mem_cons_self
      have h2 : z ≠ x := by
        rintro rfl
        rcases hz with hz | rfl
        · exact hxs (List.mem_cons_of_mem _ hz)
        · exact hxa rfl
      rw [V, if_neg h1, if_neg h2]
theorem Chn.last_eq {mh : MH} {xs : List Addr} {a b : Addr} (h : Chn mh a xs b) {p : Addr} (hp : prv mh b = some (.ref p)) : p ∈ a :: xs ∧ nxt mh p = some (.ref b) := by
  obtain ⟨p', e1, e2, e3⟩ := h.last
  rw [hp] at e1; cases e1
  refine ⟨?_, e2⟩
  rcases e3 with ⟨_, rfl⟩ | ⟨ys, rfl⟩ <;> simp
/-- the chain with x taken out -/
theorem Chn.drop {mh : MH} {a b x p q Cx Cp Cq : Addr} {l r : List Addr} (h : Chn mh a (l ++ x :: r) b) (hn : (a :: (l ++ x :: r)).Nodup) (hb : b = a ∨ b ∉ l ++ x :: r) (kx : kls mh x = some Cx) (kp : kls mh p = some Cp) (kq : kls mh q = some Cq) (hp : prv mh x = some (.ref p)) (hq : nxt mh x = some (.ref q)) :
    Chn (cut mh x p q) a (l ++ r) b := by
  obtain ⟨h1, h2⟩ := Chn.app.mp h
  have N := cut_nxt kx kp kq
  have V := cut_prv kx kp kq
  rw [List.nodup_cons] at hn
  have hbx : b ∉ l ++ x :: r := by rcases hb with rfl | hb; exact hn.1; exact hb
  have nd := hn.2
  rw [List.nodup_append, List.nodup_cons] at nd
  have xl : x ∉ l := fun z => nd.2.2 x z x List.mem_cons_self rfl
  have xa : x ≠ a := fun z => hn.1 (by rw [← z]; simp)
  have xb : x ≠ b := fun z => hbx (by rw [← z]; simp)
  have bl : b ∉ l := fun z => hbx (by simp [z])
  have br : b ∉ r := fun z => hbx (by simp [z])
  have al : a ∉ l := fun z => hn.1 (by simp [z])
  have ar : a ∉ r := fun z => hn.1 (by simp [z])
  -- the left part up to p
  have hpm := h1.last_eq hp
  have left : ∀ l' , (l = [] ∧ p = a ∧ l' = []) ∨ (l = l' ++ [p]) → ∀ z, (prv (cut mh x p q) z = some (.ref p) → nxt (cut mh x p q) p = some (.ref z) → Chn (cut mh x p q) a l z) := by
    rintro l' (⟨rfl, rfl, rfl⟩ | rfl) z e1 e2
    · exact ⟨e2, e1⟩
    · refine Chn.app.mpr ⟨(Chn.app.mp h1).1.frame (fun w hw => ?_) (fun w hw => ?_), ⟨e2, e1⟩⟩
      · rw [N]
        have w1 : w ≠ x := by
          rintro rfl
          rcases hw with rfl | hw
          · exact xa rfl
          · exact xl (by simp [hw])
        have w2 : w ≠ p := by
          rintro rfl
          rcases hw with rfl | hw
          · exact al (by simp)
          · have := nd.1; rw [List.nodup_append] at this; exact this.2.2 w hw w (by simp) rfl
        rw [if_neg w1, if_neg w2]
      · have wm : w ∈ l' ++ [p] := by rcases hw with hw | rfl <;> simp [*]
        have w1 : w ≠ x := by rintro rfl; exact xl wm
        have w2 : w ≠ q := by
          rintro rfl
          cases r with
          | nil => have := h2.1; rw [hq] at this; cases this; exact bl wm
          | cons y ys => have := h2.1.1; rw [hq] at this; cases this; exact nd.2.2 w wm w (by simp) rfl
        rw [V, if_neg w1, if_neg w2]
  obtain ⟨l', hl'⟩ : ∃ l', (l = [] ∧ p = a ∧ l' = []) ∨ (l = l' ++ [p]) := by
    obtain ⟨p', e1, e2, e3⟩ := h1.last
    rw [hp] at e1; cases e1
    rcases e3 with ⟨rfl, rfl⟩ | ⟨ys, rfl⟩
    · exact ⟨[], .inl ⟨rfl, rfl, rfl⟩⟩
    · exact ⟨ys, .inr rfl⟩
  have px : p ≠ x := by
    rintro rfl
    rcases List.mem_cons.mp hpm.1 with z | z
    · exact xa z
    · exact xl z
  have nq : nxt (cut mh x p q) p = some (.ref q) := by rw [N, if_neg px, if_pos rfl]
  cases r with
  | nil =>
    have := h2.1; rw [hq] at this; cases this
    rw [List.append_nil]
    exact left l' hl' b (by rw [V, if_neg fun z => xb z.symm, if_pos rfl]) nq
  | cons y ys =>
    have := h2.1.1; rw [hq] at this; cases this
    have qx : q ≠ x := fun z => nd.2.1.1 (by rw [z]; exact List.mem_cons_self)
    refine Chn.app.mpr ⟨left l' hl' q (by rw [V, if_neg qx, if_pos rfl]) nq, h2.2.frame (fun w hw => ?_) (fun w hw => ?_)⟩
    · have wm : w ∈ q :: ys := by rcases hw with rfl | hw; exact List.mem_cons_self; exact List.mem_cons_of_mem _ hw
      have w1 : w ≠ x := by rintro rfl; exact nd.2.1.1 wm
      have w2 : w ≠ p := by
        rintro rfl
        rcases List.mem_cons.mp hpm.1 with z | z
        · exact ar (z ▸ wm)
        · exact nd.2.2 w z w (by simp [wm]) rfl
      rw [N, if_neg w1, if_neg w2]
    · have w1 : w ≠ x := by
        rintro rfl
        rcases hw with hw | rfl
        · exact nd.2.1.1 (List.mem_cons_of_mem _ hw)
        · exact xb rfl
      have w2 : w ≠ q := by
        rintro rfl
        rcases hw with hw | rfl
        · have := nd.2.1.2; rw [List.nodup_cons] at this; exact this.1 hw
        · exact br List.mem_cons_self
      rw [V, if_neg w1, if_neg w2]
end Mine

-- C11
namespace Mine
theorem Room.make {n : Nat} {A : Around} {stk : List Env} {C : Addr} {rest : List Value} {kw : List (Str × Value)} (R : Room (n + 1) A stk) : Room n (A.under (.builtin "type.__call__" ⟨.ref C :: rest, kw⟩)) stk :=
  ⟨R.handled, R.frames, by have := R.depth; show A.depth + 1 + n < _; omega, by
    have := R.units
    have e : (A.under (.builtin "type.__call__" ⟨.ref C :: rest, kw⟩)).units ≤ A.units + 3 := by
      show A.units + Code.cUnits _ ≤ _
      have : Code.cUnits (.builtin "type.__call__" ⟨.ref C :: rest, kw⟩) ≤ 3 := by rw [show Code.cUnits (.builtin "type.__call__" ⟨.ref C :: rest, kw⟩) = Code.cUnits (.builtin "type.__call__" ⟨[], []⟩) from rfl]; decide +kernel
      omega
    omega⟩
section
variable {g : G} {stk : List Env} {ps qs : List Addr} {n : Nat} {env : Env} {fr : FR} {mh : MH}

theorem upd_sameL_new {a : Addr} {C' d' : Addr} {at' : List (Str × AV)} (h : mh a = none) : SameL mh (upd mh a (.inst C' d' at')) := fun b hb => by
  by_cases q : b = a
  · subst q; rw [upd_self, h] at hb; rcases hb with hb | hb <;> cases hb
  · exact upd_ne q

/-- a new own object -/
theorem H.fresh {C : Addr} {hh : Heap} {gn : Array GenState} {dr : Drawn} {t : Nat} {os : OsState} (h : H g stk ps mh ⟨hh, gn, dr, t, os⟩) :
    mh (hh.objs.size + 1) = none ∧ H g stk ps (upd mh (hh.objs.size + 1) (.inst C hh.objs.size [])) ⟨(hh.push emptyDict).push (instObj C hh.objs.size), gn, dr, t, os⟩ ∧ ∀ b o, hh.get? b = some o → ((hh.push emptyDict).push (instObj C hh.objs.size)).get? b = some o := by
  have k : ∀ b o, hh.get? b = some o → ((hh.push emptyDict).push (instObj C hh.objs.size)).get? b = some o := fun b o e => Heap.get?_push_of_some _ (Heap.get?_push_of_some _ e)
  have n0 : ∀ a, hh.objs.size ≤ a → hh.get? a = none := fun a ha => by
    cases q : hh.get? a with
    | none => rfl
    | some o => have := Heap.lt_size q; exact absurd this (by show ¬ a < hh.objs.size; omega)
  have bn : ∀ a, hh.objs.size ≤ a → g.B.get? a = none := fun a ha => by
    cases q : g.B.get? a with
    | none => rfl
    | some o => have := h.stays _ _ q; rw [show (Shared.heap ⟨hh, gn, dr, t, os⟩) = hh from rfl, n0 a ha] at this; cases this
  have mn : ∀ a, hh.objs.size ≤ a → mh a = none := fun a ha => by
    cases q : mh a with
    | none => rfl
    | some o =>
      have r := h.rep a o q
      cases o with
      | inst C d at_ => obtain ⟨_, _, ⟨i1, _⟩, _⟩ := r; rw [show (Shared.heap ⟨hh, gn, dr, t, os⟩) = hh from rfl, n0 a ha] at i1; cases i1
      | lst => obtain ⟨_, _, i1, _⟩ := r; rw [show (Shared.heap ⟨hh, gn, dr, t, os⟩) = hh from rfl, n0 a ha] at i1; cases i1
      | opq => obtain ⟨_, _, i1⟩ := r; rw [show (Shared.heap ⟨hh, gn, dr, t, os⟩) = hh from rfl, n0 a ha] at i1; cases i1
  have gd : ((hh.push emptyDict).push (instObj C hh.objs.size)).get? hh.objs.size = some emptyDict := by heap_get
  have gx : ((hh.push emptyDict).push (instObj C hh.objs.size)).get? (hh.objs.size + 1) = some (instObj C hh.objs.size) := by heap_get
  refine ⟨mn _ (by omega), ?_, k⟩
  have hk := h.keeps (Kp.of (s := ⟨hh, gn, dr, t, os⟩) (t := t) k)
  refine ⟨hk.stays, hk.os, hk.bare, fun a o e => ?_, fun a o e => ?_, fun a a' C1 C2 d at1 at2 e1 e2 => ?_, hk.frm, hk.sps, hk.psd⟩
  · by_cases q : a = hh.objs.size + 1
    · subst q
      rw [upd_self] at e; cases e
      exact ⟨[], 0, ⟨gx, gd⟩, .nil⟩
    · rw [upd_ne q] at e; exact hk.rep a o e
  · by_cases q : a = hh.objs.size + 1
    · subst q
      rw [upd_self] at e; cases e
      refine ⟨bn _ (by omega), bn _ (Nat.le_refl _), fun q => ?_, Nat.zero_le _⟩
      obtain ⟨_, o, _, _, e, _⟩ := h.psd _ q
      rw [show (Shared.heap ⟨hh, gn, dr, t, os⟩) = hh from rfl, n0 _ (Nat.le_refl _)] at e; cases e
    · rw [upd_ne q] at e; exact h.off a o e
  · have od : ∀ a C at_, mh a = some (.inst C hh.objs.size at_) → False := fun a C at_ e => by
      obtain ⟨_, _, ⟨_, i2⟩, _⟩ := h.rep a _ e
      rw [show (Shared.heap ⟨hh, gn, dr, t, os⟩) = hh from rfl, n0 _ (Nat.le_refl _)] at i2; cases i2
    by_cases q : a = hh.objs.size + 1 <;> by_cases q' : a' = hh.objs.size + 1
    · rw [q, q']
    · subst q; rw [upd_self] at e1; rw [upd_ne q'] at e2; cases e1; exact (od _ _ _ e2).elim
    · subst q'; rw [upd_self] at e2; rw [upd_ne q] at e1; cases e2; exact (od _ _ _ e1).elim
    · rw [upd_ne q] at e1; rw [upd_ne q'] at e2; exact h.inj _ _ _ _ _ _ _ e1 e2

theorem CA.new {C fI : Addr} {as : List AV} {P : AV → MH → Prop} (SB : St0 g g.B) (hm : makesIn g.K C = true) (hi : findIn g.K (.ref C) "__init__" = some (some (.ref fI))) (hf : typeIn g.K (.ref fI) = some (.type "function"))
    (hc : ∀ x d, mh x = none → CA g n (.ref fI) (.ref x :: as) (upd mh x (.inst C d [])) (fun v m => v = .none ∧ P (.ref x) m)) : CA g (n + 1) (.ref C) as mh P := fun stk ps A s vals R Rm hs ra hq => by
  obtain ⟨hh, gn, dr, t, os⟩ := s
  obtain ⟨f1, f2, f3⟩ := hs.fresh (C := C)
  have S := SB.keeps hs.stays
  refine make_core (makes_of S.kin hm) (looks_findIn S.kin hi) (fun self => bind_fn S.kin self hf) (.inl rfl) ?_
  have sl : SameL mh (upd mh (hh.objs.size + 1) (.inst C hh.objs.size [])) := upd_sameL_new f1
  refine hc _ hh.objs.size f1 stk ps _ _ _ _ Rm.make f2 (.cons (.ref _) (RVs.mono ra fun a o e d i => ⟨sl.im i, f3 a o e⟩)) fun s' v val m p hs' t' sl' rv => ?_
  obtain ⟨rfl, p⟩ := p
  cases rv
  exact ⟨rfl, hq s' _ _ m p hs' ((T.of_keeps f3).trans t') (sl.trans sl') (.ref _)⟩

/-- a call by a module's name, or by any name that holds a function -/
theorem EV.call {x : Str} {px pos : Pos} {e0 : Expr} {rest : List Expr} {f : Addr} {Pa : List AV → MH → Prop} {P : AV → MH → Prop} (SB : St0 g g.B) (hL : env.locals ∈ ps)
    (ho : EV g stk ps n env fr mh (.Name x px) (Is mh (.ref f))) (hk : keepIn g.K (.ref f) = true)
    (ha : EVs g stk ps n env fr mh (e0 :: rest) Pa) (hc : ∀ vs m1, Pa vs m1 → CA g n (.ref f) vs m1 P) (hu : ((e0 :: rest).all unstar) = true) : EV g stk ps n env fr mh (.Call (.Name x px) (e0 :: rest) [] pos) P := fun A s Q E R hs hf' hq => by
  refine PyProof.Rows.Call_Name rfl (ho A s _ E R hs hf' ?_)
  rintro s1 v1 x1 m1 ⟨rfl, rfl⟩ hs1 t1 sl1 r1
  cases r1
  rw [List.all_cons, Bool.and_eq_true] at hu
  refine callWith_K (h₀ := s1.heap) (SB.keeps hs1.stays).kin hk (ha pos A s1 _ E R hs1 (fr_next hf' t1 hL sl1) ?_) (starEach_cons hu.1) (unstars hu.2)
  intro s2 vs vals m2 p2 hs2 t2 sl2 r2
  refine ⟨(SB.keeps hs2.stays).kin, wpAny_call ?_⟩
  refine hc vs m2 p2 stk ps A s2 _ _ R hs2 r2 fun s3 v val m3 p3 hs3 t3 sl3 r3 => ?_
  exact hq s3 v val m3 p3 hs3 ((t1.trans t2).trans t3) ((sl1.trans sl2).trans sl3) r3

/-- a call of what a class holds -/
theorem EV.clsCall {o : Expr} {name : Str} {apos pos : Pos} {e0 : Expr} {rest : List Expr} {c f : Addr} {mc : Value} {Pa : List AV → MH → Prop} {P : AV → MH → Prop} (SB : St0 g g.B) (hL : env.locals ∈ ps)
    (ho : EV g stk ps n env fr mh o (Is mh (.ref c))) (hg : specialIn g.K (.ref c) "__getattribute__" = some (some (.builtin "type.__getattribute__"))) (hr : readsIn g.K c mc = true) (hv : findCls g.K (.ref c) mc name = some (.val (.ref f))) (hk : keepIn g.K (.ref f) = true)
    (ha : EVs g stk ps n env fr mh (e0 :: rest) Pa) (hc : ∀ vs m1, Pa vs m1 → CA g n (.ref f) vs m1 P) (hu : ((e0 :: rest).all unstar) = true)
    (he : IsMeth o name apos pos (e0 :: rest) env) : EV g stk ps n env fr mh (.Call (.Attribute o name apos) (e0 :: rest) [] pos) P := fun A s Q E R hs hf' hq => by
  obtain ⟨pl, he⟩ := he
  refine methodCall_KW (pl := pl) (ho A s _ E R hs hf' ?_) he
  rintro s1 v1 x1 m1 ⟨rfl, rfl⟩ hs1 t1 sl1 r1
  cases r1
  have X1 := (SB.keeps hs1.stays).kin
  refine method_cls X1 hg (cls_value X1 hr hv rfl ?_)
  have hs1' := hs1.keeps (Kp.tok s1 (s1.toks + 1))
  show wpAny _ A (callWith pos (.ref f) [] (backTo pos (starEach (e0 :: rest) env)) []) Q E { s1 with toks := s1.toks + 1 }
  rw [List.all_cons, Bool.and_eq_true] at hu
  refine callWith_K (h₀ := s1.heap) X1 hk (ha pos A _ _ E R hs1' (fr_next hf' t1 hL sl1) ?_) (starEach_cons hu.1) (unstars hu.2)
  intro s2 vs vals m2 p2 hs2 t2 sl2 r2
  refine ⟨(SB.keeps hs2.stays).kin, wpAny_call ?_⟩
  refine hc vs m2 p2 stk ps A s2 _ _ R hs2 r2 fun s3 v val m3 p3 hs3 t3 sl3 r3 => ?_
  exact hq s3 v val m3 p3 hs3 ((t1.trans t2).trans t3) ((sl1.trans sl2).trans sl3) r3

/-- a property read -/
theorem EV.prop {o : Expr} {name : Str} {pos : Pos} {a C p fget : Addr} {rest : List Value} {P : AV → MH → Prop} (SB : St0 g g.B) (ho : EV g stk ps (n + 1) env fr mh o (Is mh (.ref a))) (hm : kls mh a = some C) (PC : PlainCls g.K C)
    (ha : findIn g.K (.ref C) name = some (some (.ref p))) (hn : specialIn g.K (.ref p) "__get__" = some (some (.builtin "property.__get__"))) (ht : takesIn g.K (.ref p) = some true) (hp : recIn g.K p "property" = some (.ref fget :: rest))
    (hc : CA g n (.ref fget) [.ref a] mh P)
    (he : eval (.Attribute o name pos) env = (do
      let o' ← eval o env
      standAt pos.atName
      let r ← holding [o'] (getAttr o' name true)
      letTemporaryGo o o' r
      pure r)) : EV g stk ps (n + 1) env fr mh (.Attribute o name pos) P := fun A s Q E R hs hf hq => by
  refine Attribute_any_ (ho A s _ E R hs hf ?_) he
  rintro s1 v1 x1 m1 ⟨rfl, rfl⟩ hs1 t1 sl1 r1
  cases r1
  obtain ⟨d, at_, e⟩ := cls_ex hm
  obtain ⟨es, nn, I, ar⟩ := hs1.rep a _ e
  have X1 := (SB.keeps hs1.stays).kin
  refine prop_raw X1 PC I ha hn ht hp ?_
  have hs1' := hs1.keeps (Kp.tok s1 (s1.toks + 1))
  refine hc stk ps A.in1 _ _ _ R.in1 hs1' (.cons (.ref a) .nil) fun s3 v val m3 p3 hs3 t3 sl3 r3 => ?_
  refine handed_on (handed r3) (hq s3 v val m3 p3 hs3 (t1.trans t3) (sl1.trans sl3) r3)

theorem EV.call1 {x : Str} {px pos : Pos} {e0 : Expr} {f : Addr} {m1 : MH} {u : AV} {P : AV → MH → Prop} (SB : St0 g g.B) (hL : env.locals ∈ ps)
    (ho : EV g stk ps n env fr mh (.Name x px) (Is mh (.ref f))) (hk : keepIn g.K (.ref f) = true)
    (ha : EV g stk ps n env fr mh e0 (Is m1 u)) (hc : CA g n (.ref f) [u] m1 P) (hu : unstar e0 = true := by rfl) : EV g stk ps n env fr mh (.Call (.Name x px) [e0] [] pos) P :=
  EV.call SB hL ho hk (EVs.one hL hu ha) (by rintro vs m ⟨rfl, rfl⟩; exact hc) (by rw [List.all_cons, hu]; rfl)
theorem EV.clsCall1 {o : Expr} {name : Str} {apos pos : Pos} {e0 : Expr} {c f : Addr} {mc : Value} {m1 : MH} {u : AV} {P : AV → MH → Prop} (SB : St0 g g.B) (hL : env.locals ∈ ps)
    (ho : EV g stk ps n env fr mh o (Is mh (.ref c))) (hg : specialIn g.K (.ref c) "__getattribute__" = some (some (.builtin "type.__getattribute__"))) (hr : readsIn g.K c mc = true) (hv : findCls g.K (.ref c) mc name = some (.val (.ref f))) (hk : keepIn g.K (.ref f) = true)
    (ha : EV g stk ps n env fr mh e0 (Is m1 u)) (hc : CA g n (.ref f) [u] m1 P) (hu : unstar e0 = true := by rfl)
    (he : IsMeth o name apos pos [e0] env := by exact ⟨_, rfl⟩) : EV g stk ps n env fr mh (.Call (.Attribute o name apos) [e0] [] pos) P :=
  EV.clsCall SB hL ho hg hr hv hk (EVs.one hL hu ha) (by rintro vs m ⟨rfl, rfl⟩; exact hc) (by rw [List.all_cons, hu]; rfl) he

/-- not, as a value -/
theorem EV.notT {e : Expr} {pos : Pos} {P1 : AV → MH → Prop} {P : AV → MH → Prop} (h : EV g stk ps n env fr mh e P1) (k : ∀ v m, P1 v m → ∃ b, TR g v b ∧ P (.bool !b) m) : EV g stk ps n env fr mh (.UnaryOp .Not e pos) P := fun A s Q E R hs hf hq => by
  refine wpAny_UnaryOp (h A s _ E R hs hf fun s1 v1 x1 m1 p1 hs1 t1 sl1 r1 => ?_)
  obtain ⟨b, tr, p⟩ := k v1 m1 p1
  refine not_value (tr A _ s1 x1 _ E R.handled r1 fun s2 kp => ?_)
  exact hq s2 (.bool !b) _ m1 p (hs1.keeps kp) (t1.trans (kp.T ps)) sl1 (.bool _)
end
end Mine

-- C12
namespace Mine

theorem rv_mono2 {X X' : Addr → Prop} {h h' : Heap} {v : AV} {val : Value} (r : RV X h v val) (hX : ∀ a o vs n, h.get? a = some o → o.data = .seq vs n → X a → X' a ∧ h'.get? a = some o) : RV X' h' v val := by
  induction r with
  | none => exact RV.none
  | bool b => exact .bool b
  | int i t => exact .int i t
  | ref a => exact .ref a
  | list ha hg hc hd hl _ ih =>
    obtain ⟨h1, h2⟩ := hX _ _ _ _ hg hd ha
    exact .list h1 h2 hc hd hl ih

/-- a list's items, seen from its value -/
structure LAt (X : Addr → Prop) (h : Heap) (xs : List AV) (a : Addr) (vs : List Value) : Prop where
  l : h.IsList a vs.toArray
  n : xs.length = vs.length
  i : ∀ (i : Nat) (x : AV) (v : Value), xs[i]? = some x → vs[i]? = some v → RV X h x v
def il (ns : List Int) : List AV := ns.map .int
/-- a value that is a list: data, or a list that may change -/
def LV (mh : MH) (v : AV) (xs : List AV) : Prop := v = .list xs ∨ ∃ a ns, v = .ref a ∧ mh a = some (.lst ns) ∧ xs = il ns
theorem LV.list {mh : MH} {xs : List AV} : LV mh (.list xs) xs := .inl rfl
theorem LV.lst {mh : MH} {a : Addr} {ns : List Int} (h : mh a = some (.lst ns)) : LV mh (.ref a) (il ns) := .inr ⟨a, ns, rfl, h, rfl⟩
theorem LAt_il : ∀ {vs : List Value} {ns : List Int}, IntsAre vs ns → (il ns).length = vs.length ∧ ∀ (X : Addr → Prop) (h : Heap) (i : Nat) (x : AV) (v : Value), (il ns)[i]? = some x → vs[i]? = some v → RV X h x v := fun {vs ns} hi => by
  refine ⟨by unfold il; rw [List.length_map, hi.length], fun X h i x v hx hv => ?_⟩
  unfold il at hx
  rw [List.getElem?_map] at hx
  obtain ⟨k, hk, rfl⟩ := Option.map_eq_some_iff.mp hx
  obtain ⟨t, ht⟩ := hi.get i k hk
  rw [hv] at ht; cases ht
  exact .int k t
theorem LAt.intsAre {X : Addr → Prop} {h : Heap} {ns : List Int} {a : Addr} {vs : List Value} (L : LAt X h (il ns) a vs) : IntsAre vs ns := by
  obtain ⟨l, n, i⟩ := L
  clear l
  induction ns generalizing vs with
  | nil =>
    cases vs with
    | nil => exact .nil
    | cons v vs => simp [il] at n
  | cons k ns ih =>
    cases vs with
    | nil => simp [il] at n
    | cons v vs =>
      have r := i 0 (.int k) v rfl rfl
      cases r
      exact .cons _ _ (ih (by simpa [il] using n) fun j x u hx hu => i (j + 1) x u (by simpa [il] using hx) (by simpa using hu))

section
variable {g : G} {stk : List Env} {ps qs : List Addr} {n : Nat} {env : Env} {fr : FR} {mh : MH}
theorem LV.at {s : Shared} {v : AV} {val : Value} {xs : List AV} (l : LV mh v xs) (hs : H g stk ps mh s) (r : RV (Im mh) s.heap v val) : ∃ a vs, val = .ref a ∧ LAt (Im mh) s.heap xs a vs := by
  rcases l with rfl | ⟨a, ns, rfl, hm, rfl⟩
  · cases r with
    | list ha hg hc hd hl hi => exact ⟨_, _, rfl, ⟨_, hg, hc, _, hd⟩, hl, hi⟩
  · cases r
    obtain ⟨vs, k, e, iv⟩ := hs.rep a _ hm
    obtain ⟨h1, h2⟩ := LAt_il iv
    exact ⟨a, vs, rfl, ⟨_, e, rfl, _, rfl⟩, h1, fun i x v => h2 _ _ i x v⟩

/-- a fresh list is data -/
theorem rv_fresh {s : Shared} {xs : List AV} {vs : List Value} (hs : H g stk ps mh s) (hl : xs.length = vs.length) (hi : ∀ (i : Nat) (x : AV) (v : Value), xs[i]? = some x → vs[i]? = some v → RV (Im mh) s.heap x v) :
    RV (Im mh) (s.heap.push { cls := .type "list", data := .seq vs.toArray }) (.list xs) (.ref s.heap.objs.size) := by
  have e : s.heap.get? s.heap.objs.size = none := by
    cases q : s.heap.get? s.heap.objs.size with
    | none => rfl
    | some o => exact absurd (Heap.lt_size q) (Nat.lt_irrefl _)
  exact .list (hs.im_new e) (Heap.get?_push_size _ rfl) rfl rfl hl fun i x v hx hv => (hi i x v hx hv).mono fun a o q d im => ⟨im, Heap.get?_push_of_some _ q⟩
theorem rvs_items {X : Addr → Prop} {h : Heap} {xs : List AV} {vs : List Value} (r : RVs X h xs vs) : xs.length = vs.length ∧ ∀ (i : Nat) (x : AV) (v : Value), xs[i]? = some x → vs[i]? = some v → RV X h x v := by
  induction r with
  | nil => exact ⟨rfl, fun i x v h => by simp at h⟩
  | cons r _ ih =>
    refine ⟨by simp [ih.1], fun i x v hx hv => ?_⟩
    cases i with
    | zero => simp at hx hv; subst hx hv; exact r
    | succ i => exact ih.2 i x v (by simpa using hx) (by simpa using hv)

theorem EV.list {es : List Expr} {pos : Pos} {Pa : List AV → MH → Prop} {P : AV → MH → Prop} (h : EVs g stk ps n env fr mh es Pa) (k : ∀ vs m, Pa vs m → vs.length ≤ 1000 ∧ P (.list vs) m) : EV g stk ps n env fr mh (.List es pos) P := fun A s Q E R hs hf hq =>
  wpAny_List (h pos A s _ E R hs hf fun s1 vs vals m p hs1 t1 sl1 r1 => by
    obtain ⟨hl, hi⟩ := rvs_items r1
    obtain ⟨h1, h2⟩ := k vs m p
    refine ⟨by rw [← hl, sizeLine_eq]; omega, ?_⟩
    have kp := Kp.push s1 { cls := .type "list", data := .seq vals.toArray } s1.toks
    exact hq _ (.list vs) _ m h2 (hs1.keeps kp) (t1.trans (kp.T ps)) sl1 (rv_fresh hs1 hl hi))

-- operations on lists
theorem op_addL {v1 v2 : AV} {xs ys : List AV} (l1 : LV mh v1 xs) (l2 : LV mh v2 ys) (hz : xs.length + ys.length ≤ 1000) : OP2 g mh (binaryOp .Add) v1 v2 (.list (xs ++ ys)) := fun A stk ps s x1 x2 Q E _ _ hs r1 r2 hq => by
  obtain ⟨a, vs, rfl, L1⟩ := l1.at hs r1
  obtain ⟨b, ws, rfl, L2⟩ := l2.at hs r2
  obtain ⟨⟨cls, dd, data, sl⟩, ho, hc, k, hd⟩ := id L1.l
  obtain ⟨⟨cls2, dd2, data2, sl2⟩, ho2, hc2, k2, hd2⟩ := id L2.l
  simp only at hc hd hc2 hd2
  subst hc hd hc2 hd2
  have e : vs.toArray ++ ws.toArray = (vs ++ ws).toArray := by simp
  refine concat_meets ⟨_, ho, rfl⟩ ⟨_, ho2, rfl⟩ noFill_list_add seq_list_add PySem.F.slot_list_add PySem.F.entry_list_add (PySem.F.args_list_add_2 _ _) (list_addW a b vs.toArray ws.toArray k k2 dd dd2 sl sl2 (by rw [sizeLine_eq, List.size_toArray, List.size_toArray, ← L1.n, ← L2.n]; omega)) ⟨ho, ho2, ?_⟩
  rw [e]
  refine hq _ _ (Kp.push s _ s.toks) (rv_fresh hs (by rw [List.length_append, List.length_append, L1.n, L2.n]) fun i x v hx hv => ?_)
  by_cases q : i < xs.length
  · rw [List.getElem?_append_left q] at hx
    rw [List.getElem?_append_left (by rw [← L1.n]; exact q)] at hv
    exact L1.i i x v hx hv
  · have q := Nat.le_of_not_lt q
    rw [List.getElem?_append_right q] at hx
    rw [List.getElem?_append_right (by rw [← L1.n]; exact q), ← L1.n] at hv
    exact L2.i _ x v hx hv
theorem op_eqL {v1 v2 : AV} {ns ms : List Int} (l1 : LV mh v1 (il ns)) (l2 : LV mh v2 (il ms)) : OP2 g mh (compareOp .Eq) v1 v2 (.bool (decide (ns = ms))) := fun A stk ps s x1 x2 Q E _ hu hs r1 r2 hq => by
  obtain ⟨a, vs, rfl, L1⟩ := l1.at hs r1
  obtain ⟨b, ws, rfl, L2⟩ := l2.at hs r2
  exact eq_intsK L1.l L1.intsAre L2.l L2.intsAre hu (hq _ _ (Kp.refl s) (.bool _))
theorem op_neL {v1 v2 : AV} {ns ms : List Int} (l1 : LV mh v1 (il ns)) (l2 : LV mh v2 (il ms)) : OP2 g mh (compareOp .NotEq) v1 v2 (.bool (!decide (ns = ms))) := fun A stk ps s x1 x2 Q E _ hu hs r1 r2 hq => by
  obtain ⟨a, vs, rfl, L1⟩ := l1.at hs r1
  obtain ⟨b, ws, rfl, L2⟩ := l2.at hs r2
  exact ne_intsK L1.l L1.intsAre L2.l L2.intsAre hu (hq _ _ (Kp.refl s) (.bool _))
theorem op_notinL {k : Int} {v2 : AV} {ns : List Int} (l2 : LV mh v2 (il ns)) : OP2 g mh (compareOp .NotIn) (.int k) v2 (.bool (!(ns.any (· == k)))) := fun A stk ps s x1 x2 Q E _ hu hs r1 r2 hq => by
  obtain ⟨b, ws, rfl, L2⟩ := l2.at hs r2
  cases r1
  exact notin_list_ints L2.l L2.intsAre (hq _ _ (Kp.refl s) (.bool _))

theorem foldl_rep (items : Array Value) : ∀ (k : Nat) (acc : Array Value), List.foldl (fun x1 x2 => x1 ++ x2) acc (List.replicate k items) = acc ++ (List.replicate k items.toList).flatten.toArray
  | 0, acc => by simp
  | k + 1, acc => by
    rw [List.replicate_succ, List.foldl_cons, foldl_rep items k, List.replicate_succ, List.flatten_cons]
    apply Array.ext'
    simp
theorem EV.rep {c : Int} {k : Nat} {pl pc pos : Pos} {e : Expr} {j : Int} (hL : env.locals ∈ ps) (h : EV g stk ps n env fr mh e (Is mh (.int j))) (h0 : 0 ≤ j) (hj : j ≤ 1000) :
    EV g stk ps n env fr mh (.BinOp (.List [.Constant (.int c) k pc] pl) .Mult e pos) (Is mh (.list (il (List.replicate j.toNat c)))) := fun A s Q E R hs hf hq => by
  refine wpAny_BinOp (wpAny_List (wpAny_items_cons (wpAny_Constant_int (wpAny_items_nil ⟨by rw [sizeLine_eq]; show (1 : Nat) ≤ _; decide, ?_⟩)) rfl))
  have hs1 := hs.keeps (Kp.push s { cls := .type "list", data := .seq #[.int c s.toks] } (s.toks + 1))
  have t1 : T ps s.heap (s.heap.push { cls := .type "list", data := .seq #[.int c s.toks] }) := (Kp.push s { cls := .type "list", data := .seq #[.int c s.toks] } (s.toks + 1)).T ps
  have g1 : (s.heap.push { cls := .type "list", data := .seq #[.int c s.toks] }).get? s.heap.objs.size = some { cls := .type "list", data := .seq #[.int c s.toks] } := Heap.get?_push_size _ rfl
  refine h A _ _ E R hs1 (fr_next hf t1 hL (SameL.refl _)) ?_
  rintro s2 v2 x2 m2 ⟨rfl, rfl⟩ hs2 t2 sl2 r2
  cases r2
  rename_i u
  have hl := t2.nd _ _ g1 (nd_seq rfl)
  have hm : (#[Value.int c s.toks] : Array Value).size * j.toNat ≤ 1000 := by show 1 * j.toNat ≤ 1000; omega
  refine wpAny_binaryOp_repeat_ref (T := "list") (U := "int") (by decide) ⟨_, hl, rfl⟩ (fun s' => typeIs_int s' j u) noFill_list_mul PySem.F.fills_int_mul PySem.F.slot_int_rmul repeat_list PySem.F.slot_int_index.lookup
    (call_meets PySem.F.slot_int_rmul (typeIs_int s2 j u) PySem.F.entry_int_rmul (PySem.F.args_int_rmul_2 _ _) (int___rmul___int_list j u _ _ _)
      ⟨hl, rfl, ⟨_, hl, rfl⟩, call_meets PySem.F.slot_list_mul ⟨_, hl, rfl⟩ PySem.F.entry_list_mul (PySem.F.args_list_mul_2 _ _)
        (AutoListH.list___mul___list_int_3 _ _ _ j u (by simp [Builtin.List.listFitsIndex]; omega) (by omega) (by simp [Builtin.List.listTooLong, sizeLine]; omega))
        ⟨hl, ?_⟩⟩)
  rw [foldl_rep]
  simp only [Array.isEmpty, List.size_toArray, List.length_cons, List.length_nil]
  have e2 : (#[] ++ (List.replicate (if decide ((0 : Nat) + 1 = 0) = true then 0 else j.toNat) (#[Value.int c s.toks] : Array Value).toList).flatten.toArray : Array Value) = (List.replicate j.toNat (Value.int c s.toks)).toArray := by
    simp
  have fin := hq _ (.list (il (List.replicate j.toNat c))) (.ref s2.heap.objs.size) m2 ⟨rfl, rfl⟩ (hs2.keeps (Kp.push s2 { cls := .type "list", data := .seq (List.replicate j.toNat (Value.int c s.toks)).toArray } s2.toks)) ((t1.trans t2).trans ((Kp.push s2 _ s2.toks).T ps)) sl2 (rv_fresh hs2 (by simp [il]) fun i x v hx hv => by
    simp [il, List.getElem?_replicate] at hx hv
    obtain ⟨_, rfl⟩ := hv
    obtain ⟨_, rfl⟩ := hx
    exact .int _ _)
  rw [e2] at *
  exact fin

/-- the items read by an index -/
theorem EV.idx {e i : Expr} {pos : Pos} {v : AV} {m1 m2 : MH} {xs : List AV} {k : Int} {x : AV} (hL : env.locals ∈ ps) (h1 : EV g stk ps n env fr mh e (Is m1 v)) (h2 : EV g stk ps n env fr m1 i (Is m2 (.int k))) (lv : LV m2 v xs)
    (hx : (0 ≤ k ∧ xs[k.toNat]? = some x) ∨ (k < 0 ∧ -(xs.length : Int) ≤ k ∧ xs[(k + xs.length).toNat]? = some x)) (hz : xs.length ≤ 1000)
    (hs : ∀ a t, subscripted i false (.ref a) (.int k t) = operate [.ref a, .int k t] (getItem (.ref a) (.int k t)) := by intro _ _; with_unfolding_all rfl) (ht : ∀ a r, letTemporaryGo e (.ref a) r = pure () := by intro _ _; with_unfolding_all rfl) :
    EV g stk ps n env fr mh (.Subscript e i pos) (Is m2 x) := fun A s Q E R hs0 hf hq => by
  refine Subscript_ (h1 A s _ E R hs0 hf ?_)
  rintro s1 v1 x1 m ⟨rfl, rfl⟩ hs1 t1 sl1 r1
  refine h2 A s1 _ E R hs1 (fr_next hf t1 hL sl1) ?_
  rintro s2 v2 x2 m ⟨rfl, rfl⟩ hs2 t2 sl2 r2
  cases r2
  obtain ⟨a, vs, rfl, L⟩ := lv.at hs2 (rv_next r1 t2 sl2)
  refine subscriptTail_builtin L.l.typeIs list_getitem_lookup ?_ (hs _ _) (ht _)
  have fin : ∀ y, vs.toArray[(if 0 ≤ k then k.toNat else (k + xs.length).toNat)]? = some y → Q y s2 := fun y hy => by
    have hy' : vs[(if 0 ≤ k then k.toNat else (k + xs.length).toNat)]? = some y := by simpa using hy
    refine hq s2 x y _ ⟨rfl, rfl⟩ hs2 (t1.trans t2) (sl1.trans sl2) (L.i _ _ _ ?_ hy')
    rcases hx with ⟨h0, hx⟩ | ⟨h0, _, hx⟩
    · rw [if_pos h0]; exact hx
    · rw [if_neg (by omega)]; exact hx
  have ex : ∀ j : Nat, (∃ x : AV, xs[j]? = some x) → ∃ y, vs.toArray[j]? = some y := fun j ⟨x, hx⟩ => by
    obtain ⟨hj, _⟩ := List.getElem?_eq_some_iff.mp hx
    rw [L.n] at hj
    exact ⟨vs[j], by simp [hj]⟩
  rcases hx with ⟨h0, hx⟩ | ⟨h0, hl, hx⟩
  · obtain ⟨y, hy⟩ := ex _ ⟨x, hx⟩
    obtain ⟨hj, _⟩ := List.getElem?_eq_some_iff.mp hx
    refine wpAny_getItem_list L.l h0 (by omega) hy (fin y ?_)
    rw [if_pos h0]; exact hy
  · obtain ⟨y, hy⟩ := ex _ ⟨x, hx⟩
    have sz : vs.toArray.size = xs.length := by simp [L.n]
    refine wpAny_getItem_list_neg L.l h0 (by rw [sz]; exact hl) (by omega) (by rw [sz]; exact hy) (fin y ?_)
    rw [if_neg (by omega)]; exact hy

theorem EV.ifT {test body orelse : Expr} {pos : Pos} {m1 : MH} {P : AV → MH → Prop} (hL : env.locals ∈ ps) (h : TJ g stk ps n env fr mh test (Tst m1 true)) (h2 : EV g stk ps n env fr m1 body P) : EV g stk ps n env fr mh (.IfExp test body orelse pos) P := fun A s Q E R hs hf hq => by
  refine wpAny_IfExp (h A s _ E R hs hf ?_)
  rintro s1 b m ⟨rfl, rfl⟩ hs1 t1 sl1
  exact h2 A s1 Q E R hs1 (fr_next hf t1 hL sl1) fun s2 v x m2 p hs2 t2 sl2 r2 => hq s2 v x m2 p hs2 (t1.trans t2) (sl1.trans sl2) r2
theorem EV.ifF {test body orelse : Expr} {pos : Pos} {m1 : MH} {P : AV → MH → Prop} (hL : env.locals ∈ ps) (h : TJ g stk ps n env fr mh test (Tst m1 false)) (h2 : EV g stk ps n env fr m1 orelse P) : EV g stk ps n env fr mh (.IfExp test body orelse pos) P := fun A s Q E R hs hf hq => by
  refine wpAny_IfExp (h A s _ E R hs hf ?_)
  rintro s1 b m ⟨rfl, rfl⟩ hs1 t1 sl1
  exact h2 A s1 Q E R hs1 (fr_next hf t1 hL sl1) fun s2 v x m2 p hs2 t2 sl2 r2 => hq s2 v x m2 p hs2 (t1.trans t2) (sl1.trans sl2) r2
theorem EV.andT {e1 e2 : Expr} {pos : Pos} {m1 : MH} {b : Bool} {v : AV} {P : AV → MH → Prop} (hL : env.locals ∈ ps) (h1 : EV g stk ps n env fr mh e1 (Is m1 v)) (tr : TR g v true) (h2 : EV g stk ps n env fr m1 e2 P) : EV g stk ps n env fr mh (.BoolOp .And [e1, e2] pos) P := fun A s Q E R hs hf hq => by
  refine BoolOp_and (h1 A s _ E R hs hf ?_)
  rintro s1 v1 x1 m ⟨rfl, rfl⟩ hs1 t1 sl1 r1
  refine tr A _ s1 x1 _ E R.handled r1 fun s2 kp => ?_
  rw [if_pos rfl]
  have t2 := t1.trans (kp.T ps)
  exact h2 A s2 Q E R (hs1.keeps kp) (fr_next hf t2 hL sl1) fun s3 v x m2 p hs2 t3 sl2 r2 => hq s3 v x m2 p hs2 (t2.trans t3) (sl1.trans sl2) r2
theorem EV.andF {e1 e2 : Expr} {pos : Pos} {m1 : MH} {v : AV} {P : AV → MH → Prop} (hL : env.locals ∈ ps) (h1 : EV g stk ps n env fr mh e1 (Is m1 v)) (tr : TR g v false) (k : P v m1) : EV g stk ps n env fr mh (.BoolOp .And [e1, e2] pos) P := fun A s Q E R hs hf hq => by
  refine BoolOp_and (h1 A s _ E R hs hf ?_)
  rintro s1 v1 x1 m ⟨rfl, rfl⟩ hs1 t1 sl1 r1
  refine tr A _ s1 x1 _ E R.handled r1 fun s2 kp => ?_
  rw [if_neg Bool.false_ne_true]
  exact hq s2 v1 x1 m k (hs1.keeps kp) (t1.trans (kp.T ps)) sl1 (r1.mono fun a o e d i => ⟨i, kp.heap a o e⟩)
end
end Mine

-- C13
namespace Mine
section
variable {g : G} {stk : List Env} {ps qs : List Addr} {n : Nat} {env : Env} {fr : FR} {mh : MH}

/-- a builtin's name -/
theorem bname {x : Str} {px : Pos} {v : Value} {A : Around} {s : Shared} {Q : Value → Shared → Prop} {E : Value → Shared → Prop} (SB : St0 g g.B) (hk : env.scope.kind = .function) (hg : env.globals = mainGlobals) (hb : env.builtins = builtinsNs) (hx : env.kindOf x = some .globalImplicit) (hm : g.mg x = none) (hv : bootBuiltins x = some v) (hn : x ≠ "__name__") (hd : (x == ("__debug__" : Str)) = false)
    (hs : H g stk ps mh s) (h : Q v s) : wpAny g.M A (eval (.Name x px) env) Q E s := by
  have S := SB.keeps hs.stays
  exact Calls.Name_function_global hk hx (Calls.loadGlobal_builtin (mg := g.mg) (mb := g.mb) (by rw [hg]; exact S.gns) hm (by rw [hb]; exact S.bns) ((S.bu x hn).trans hv) h) hd

structure BN (g : G) (env : Env) (x : Str) (v : Value) : Prop where
  kind : env.scope.kind = .function
  glob : env.globals = mainGlobals
  blt : env.builtins = builtinsNs
  hx : env.kindOf x = some .globalImplicit
  hm : g.mg x = none
  hv : bootBuiltins x = some v
  hn : x ≠ "__name__"
  hd : (x == ("__debug__" : Str)) = false
theorem BN.go {x : Str} {px : Pos} {v : Value} {A : Around} {s : Shared} {Q : Value → Shared → Prop} {E : Value → Shared → Prop} (b : BN g env x v) (SB : St0 g g.B) (hs : H g stk ps mh s) (h : Q v s) : wpAny g.M A (eval (.Name x px) env) Q E s :=
  bname SB b.kind b.glob b.blt b.hx b.hm b.hv b.hn b.hd hs h

theorem EV.len {e : Expr} {px pos : Pos} {v : AV} {m1 : MH} {xs : List AV} (SB : St0 g g.B) (b : BN g env "len" (.builtin "len")) (h1 : EV g stk ps n env fr mh e (Is m1 v)) (lv : LV m1 v xs) (hz : xs.length ≤ 1000) (hu : unstar e = true := by rfl) :
    EV g stk ps n env fr mh (.Call (.Name "len" px) [e] [] pos) (Is m1 (.int xs.length)) := fun A s Q E R hs hf hq => by
  refine PyProof.Rows.Call_Name rfl (b.go SB hs ?_)
  rw [starEach_cons hu]
  refine Calls.callWith_builtin rfl (Calls.evalArgs_plain ?_)
  show wpAny _ A (spliced (backTo pos ((false, eval e env) :: starEach [] env))) _ E s
  rw [← starEach_cons hu]
  refine wpAny_items_cons (h1 A s _ E R hs hf ?_) (starEach_cons hu)
  rintro s1 v1 x1 m ⟨rfl, rfl⟩ hs1 t1 sl1 r1
  obtain ⟨a, vs, rfl, L⟩ := lv.at hs1 r1
  refine wpAny_items_nil (call_len_list L.l (by rw [List.size_toArray, ← L.n]; omega) ?_)
  have e : ((vs.toArray.size : Nat) : Int) = (xs.length : Int) := by rw [List.size_toArray, L.n]
  rw [e]
  exact hq _ (.int xs.length) _ _ ⟨rfl, rfl⟩ (hs1.keeps (Kp.tok s1 _)) (t1.trans ((Kp.tok s1 _).T ps)) sl1 (.int _ _)

theorem pick_upto (items : Array Value) (b : Nat) : slicePick items none (some (b : Int)) none = (items.toList.take b).toArray := by
  by_cases h : b ≤ items.size
  · exact slicePick_upto items b h
  · have e := slicePick_upto items items.size (Nat.le_refl _)
    have h2 : sliceBounds none (some (b : Int)) none items.size = sliceBounds none (some (items.size : Int)) none items.size := by
      simp only [sliceBounds, Option.getD_none]
      have h1 : ¬ ((b : Int) < 0) := by omega
      have h3 : ¬ ((items.size : Int) < 0) := by omega
      simp only [h1, h3, if_false]
      simp
      omega
    have h3 : slicePick items none (some (b : Int)) none = slicePick items none (some (items.size : Int)) none := by unfold slicePick; rw [h2]
    have l : items.toList.length = items.size := by simp
    rw [h3, e, List.take_of_length_le (by omega), List.take_of_length_le (by omega)]
theorem rv_slice {s : Shared} {o : Obj} {xs' : List AV} {vs' : List Value} (hs : H g stk ps mh s) (hl : xs'.length = vs'.length) (hi : ∀ (i : Nat) (x : AV) (v : Value), xs'[i]? = some x → vs'[i]? = some v → RV (Im mh) s.heap x v) :
    RV (Im mh) ((s.heap.push o).push { cls := .type "list", data := .seq vs'.toArray }) (.list xs') (.ref (s.heap.objs.size + 1)) := by
  have e := rv_fresh (s := { s with heap := s.heap.push o }) (hs.keeps (Kp.push s o s.toks)) hl fun i x v hx hv => (hi i x v hx hv).mono fun a o q d im => ⟨im, Heap.get?_push_of_some _ q⟩
  rw [show Shared.heap { s with heap := s.heap.push o } = s.heap.push o from rfl, Heap.size_push] at e
  exact e
theorem EV.sliceTo {e u : Expr} {p pos : Pos} {v : AV} {m1 m2 : MH} {xs : List AV} {b : Nat} (hL : env.locals ∈ ps) (h1 : EV g stk ps n env fr mh e (Is m1 v)) (h2 : EV g stk ps n env fr m1 u (Is m2 (.int b))) (lv : LV m2 v xs) (hz : xs.length ≤ 1000)
    (ht : ∀ o r, letTemporaryGo e o r = pure () := by intro _ _; rfl) :
    EV g stk ps n env fr mh (.Subscript e (.Slice none (some u) none p) pos) (Is m2 (.list (xs.take b))) := fun A s Q E R hs hf hq => by
  refine wpAny_Subscript_list_slice (h1 A s _ E R hs hf ?_) ht
  rintro s1 v1 x1 m ⟨rfl, rfl⟩ hs1 t1 sl1 r1
  rw [evalPart_none]
  refine wpAny_pure ?_
  rw [evalPart_some]
  refine h2 A s1 _ E R hs1 (fr_next hf t1 hL sl1) ?_
  rintro s2 v2 x2 m ⟨rfl, rfl⟩ hs2 t2 sl2 r2
  cases r2
  rename_i tk
  obtain ⟨a, vs, rfl, L⟩ := lv.at hs2 (rv_next r1 t2 sl2)
  refine ⟨a, vs.toArray, none, some b, rfl, L.l, by rw [List.size_toArray, ← L.n, sizeLine_eq]; omega, .none, .int _ _, ?_⟩
  rw [pick_upto, show vs.toArray.toList = vs from rfl]
  have kp : Kp s2 { s2 with heap := (s2.heap.push { cls := .type "slice", data := .fields #[.none, .int b tk, .none] }).push { cls := .type "list", data := .seq (vs.take b).toArray } } := Kp.of (t := s2.toks) fun _ _ e => Heap.get?_push_of_some _ (Heap.get?_push_of_some _ e)
  refine hq _ (.list (xs.take b)) _ _ ⟨rfl, rfl⟩ (hs2.keeps kp) ((t1.trans t2).trans (kp.T ps)) (sl1.trans sl2) (rv_slice hs2 (by simp [L.n]) fun i x v hx hv => ?_)
  rw [List.getElem?_take] at hx hv
  split at hx
  · rename_i q; rw [if_pos q] at hv; exact L.i i x v hx hv
  · cases hx
theorem EV.sliceFrom {e u : Expr} {p pos : Pos} {v : AV} {m1 m2 : MH} {xs : List AV} {b : Nat} (hL : env.locals ∈ ps) (h1 : EV g stk ps n env fr mh e (Is m1 v)) (h2 : EV g stk ps n env fr m1 u (Is m2 (.int b))) (lv : LV m2 v xs) (hz : xs.length ≤ 1000) (hb : b ≤ xs.length)
    (ht : ∀ o r, letTemporaryGo e o r = pure () := by intro _ _; rfl) :
    EV g stk ps n env fr mh (.Subscript e (.Slice (some u) none none p) pos) (Is m2 (.list (xs.drop b))) := fun A s Q E R hs hf hq => by
  refine wpAny_Subscript_list_slice (h1 A s _ E R hs hf ?_) ht
  rintro s1 v1 x1 m ⟨rfl, rfl⟩ hs1 t1 sl1 r1
  rw [evalPart_some]
  refine h2 A s1 _ E R hs1 (fr_next hf t1 hL sl1) ?_
  rintro s2 v2 x2 m ⟨rfl, rfl⟩ hs2 t2 sl2 r2
  cases r2
  rename_i tk
  rw [evalPart_none]
  refine wpAny_pure ?_
  obtain ⟨a, vs, rfl, L⟩ := lv.at hs2 (rv_next r1 t2 sl2)
  refine ⟨a, vs.toArray, some b, none, rfl, L.l, by rw [List.size_toArray, ← L.n, sizeLine_eq]; omega, .int _ _, .none, ?_⟩
  rw [slicePick_from _ _ (by rw [List.size_toArray, ← L.n]; exact hb), show vs.toArray.toList = vs from rfl]
  have kp : Kp s2 { s2 with heap := (s2.heap.push { cls := .type "slice", data := .fields #[.int b tk, .none, .none] }).push { cls := .type "list", data := .seq (vs.drop b).toArray } } := Kp.of (t := s2.toks) fun _ _ e => Heap.get?_push_of_some _ (Heap.get?_push_of_some _ e)
  refine hq _ (.list (xs.drop b)) _ _ ⟨rfl, rfl⟩ (hs2.keeps kp) ((t1.trans t2).trans (kp.T ps)) (sl1.trans sl2) (rv_slice hs2 (by simp [L.n]) fun i x v hx hv => ?_)
  rw [List.getElem?_drop] at hx hv
  exact L.i _ x v hx hv

-- iterators
structure Wk (g : G) (it : Addr) (N : Nat) (item : Nat → AV) (St : Nat → Heap → Prop) (X : Addr → Prop) : Prop where
  nx : ∀ (i : Nat) (A : Around) (s : Shared) (Q : Option Value → Shared → Prop) (E : Value → Shared → Prop), i < N → A.handled = none → St i s.heap →
    (∀ val h' t', RV X h' (item i) val → St (i + 1) h' → (∀ b o, b ≠ it → s.heap.get? b = some o → h'.get? b = some o) → Q (some val) { s with heap := h', toks := t' }) → wpAny g.M A (pyNext (.ref it)) Q E s
  dn : ∀ (A : Around) (s : Shared) (Q : Option Value → Shared → Prop) (E : Value → Shared → Prop), A.handled = none → St N s.heap →
    (∀ h', (∀ b o, b ≠ it → s.heap.get? b = some o → h'.get? b = some o) → Q none { s with heap := h' }) → wpAny g.M A (pyNext (.ref it)) Q E s
  sf : ∀ (i : Nat) (A : Around) (s : Shared) (Q : Value → Shared → Prop) (E : Value → Shared → Prop), St i s.heap → Q (.ref it) s → wpAny g.M A (pyIter (.ref it)) Q E s
  fr : ∀ (i : Nat) (h h' : Heap), St i h → (∀ b o, h.get? b = some o → (b = it ∨ (X b ∧ ∃ vs k, o.data = .seq vs k)) → h'.get? b = some o) → St i h'
  ob : ∀ (i : Nat) (h : Heap), St i h → ∃ o vs, h.get? it = some o ∧ o.data = .fields vs

theorem Wk.list {it l : Addr} {xs : List AV} {vs : List Value} {X : Addr → Prop} (hX : X l) (hn : xs.length = vs.length) :
    Wk g it xs.length (fun i => xs.getD i .none) (fun i h => h.IsListIter it l i ∧ LAt X h xs l vs) X where
  nx i A s Q E hi hh st hq := by
    obtain ⟨h1, L⟩ := st
    have hv : vs.toArray[i]? = some (vs[i]'(by omega)) := by simp
    refine wpAny_pyNext_list_item h1 L.l hv fun h' h2 sb => ?_
    have hk : ∀ b o vs' k, s.heap.get? b = some o → o.data = .seq vs' k → h'.get? b = some o := fun b o vs' k e d => sb.extBut b o (fun q => by
      obtain ⟨o', e', _, d'⟩ := h1
      rw [q, e'] at e; cases e; rw [d] at d'; cases d') e
    have rvm : ∀ {x v}, RV X s.heap x v → RV X h' x v := fun r => rv_mono2 r fun a o vs' k e d hx => ⟨hx, hk a o vs' k e d⟩
    refine hq _ h' s.toks (rvm (L.i i _ _ (by rw [List.getD_eq_getElem?_getD, List.getElem?_eq_getElem hi]; rfl) (List.getElem?_eq_getElem (by omega)))) ⟨h2, ?_, L.n, fun j x v hx hv => rvm (L.i j x v hx hv)⟩ fun b o hb e => sb.extBut b o hb e
    obtain ⟨o, e, hc, k, hd⟩ := L.l
    exact ⟨o, hk l o _ _ e hd, hc, k, hd⟩
  dn A s Q E hh st hq := by
    obtain ⟨h1, L⟩ := st
    exact wpAny_pyNext_list_end hh h1 L.l (by simp [L.n]) fun h' sb => hq h' fun b o hb e => sb b o hb e
  sf i A s Q E st hq := wpAny_pyIter_listiter st.1 hq
  fr i h h' st hk := by
    obtain ⟨⟨o, e, hc, hd⟩, L⟩ := st
    refine ⟨⟨o, hk _ _ e (.inl rfl), hc, hd⟩, ?_, L.n, fun j x v hx hv => rv_mono2 (L.i j x v hx hv) fun a o vs' k e d hx => ⟨hx, hk a o e (.inr ⟨hx, _, _, d⟩)⟩⟩
    obtain ⟨o, e, hc, k, hd⟩ := L.l
    exact ⟨o, hk l o e (.inr ⟨hX, _, _, hd⟩), hc, k, hd⟩
  ob i h st := by obtain ⟨⟨o, e, hc, hd⟩, _⟩ := st; exact ⟨o, _, e, hd⟩
theorem Wk.range {it : Addr} {a : Int} {N : Nat} {X : Addr → Prop} : Wk g it N (fun i => .int (a + i)) (fun i h => IsRangeIter h it (a + i) ((N : Int) - i) 1) X where
  nx i A s Q E hi hh st hq := wpAny_pyNext_range_item st (by omega) fun h' h2 sb => hq _ h' (s.toks + 1) (.int _ _) (by
    have e1 : a + ((i + 1 : Nat) : Int) = a + i + 1 := by omega
    have e2 : (N : Int) - ((i + 1 : Nat) : Int) = (N : Int) - i - 1 := by omega
    rw [e1, e2]; exact h2) fun b o hb e => sb.extBut b o hb e
  dn A s Q E hh st hq := wpAny_pyNext_range_end hh st (by omega) fun h' sb => hq h' fun b o hb e => sb b o hb e
  sf i A s Q E st hq := wpAny_pyIter_rangeiter st hq
  fr i h h' st hk := hk _ _ st (.inl rfl)
  ob i h st := ⟨_, _, st, rfl⟩

/-- an iterable's judgement -/
def ITJ (g : G) (stk : List Env) (ps : List Addr) (n : Nat) (env : Env) (fr : FR) (mh : MH) (e : Expr) (N : Nat) (item : Nat → AV) (m : MH) : Prop :=
  ∀ (A : Around) (s : Shared) (K : Value → Shared → Prop) (E : Value → Shared → Prop), Room n A stk → H g stk ps mh s → FrR env fr mh s.heap →
    (∀ s' it St, Wk g it N item St (fun b => Im m b ∧ s'.heap.get? b ≠ none) → St 0 s'.heap → H g stk ps m s' → T ps s.heap s'.heap → SameL mh m → s.heap.get? it = none → K (.ref it) s') →
    wpAny g.M A (eval e env) (fun xv s1 => wpAny g.M A (pyIter xv) K E s1) E s

theorem ITJ.list {e : Expr} {xs : List AV} {m : MH} (h : EV g stk ps n env fr mh e (Is m (.list xs))) : ITJ g stk ps n env fr mh e xs.length (fun i => xs.getD i .none) m := fun A s K E R hs hf hK => by
  refine h A s _ E R hs hf ?_
  rintro s1 v1 x1 m1 ⟨rfl, rfl⟩ hs1 t1 sl1 r1
  cases r1 with
  | @list _ vs l o k ha hg hc hd hl hi =>
  have hil : s1.heap.IsList l vs.toArray := ⟨o, hg, hc, k, hd⟩
  refine wpAny_pyIter_list hil ?_
  have new : s1.heap.get? s1.heap.objs.size = none := by
    cases q : s1.heap.get? s1.heap.objs.size with
    | none => rfl
    | some o => exact absurd (Heap.lt_size q) (Nat.lt_irrefl _)
  have kp := Kp.push s1 { cls := .type "list_iterator", data := .fields #[.ref l, .int 0 0] } s1.toks
  have rvm : ∀ {x v}, RV (Im m1) s1.heap x v → RV (fun b => Im m1 b ∧ (s1.heap.push { cls := .type "list_iterator", data := .fields #[.ref l, .int 0 0] }).get? b ≠ none) (s1.heap.push { cls := .type "list_iterator", data := .fields #[.ref l, .int 0 0] }) x v := fun r => rv_mono2 r fun a o vs' k e d hx => ⟨⟨hx, by rw [Heap.get?_push_of_some _ e]; simp⟩, Heap.get?_push_of_some _ e⟩
  refine hK _ s1.heap.objs.size _ (Wk.list (l := l) ⟨ha, by rw [Heap.get?_push_of_some _ hg]; simp⟩ hl) ⟨⟨_, Heap.get?_push_size _ rfl, rfl, rfl⟩, ⟨o, Heap.get?_push_of_some _ hg, hc, k, hd⟩, hl, fun j x v hx hv => rvm (hi j x v hx hv)⟩ (hs1.keeps kp) (t1.trans (kp.T ps)) sl1 ?_
  cases q : s.heap.get? s1.heap.objs.size with
  | none => rfl
  | some o => obtain ⟨o', e'⟩ := t1.live _ _ q; rw [new] at e'; cases e'

theorem ITJ.range1 {e : Expr} {rp pos : Pos} {k : Int} {m : MH} (SB : St0 g g.B) (b : BN g env "range" (.type "range")) (h : EV g stk ps n env fr mh e (Is m (.int k))) (hk : -1000 ≤ k) (hk2 : k ≤ 1000) (hu : unstar e = true := by rfl) :
    ITJ g stk ps n env fr mh (.Call (.Name "range" rp) [e] [] pos) k.toNat (fun i => .int (0 + i)) m := fun A s K E R hs hf hK => by
  refine PyProof.Rows.Call_Name rfl (b.go SB hs ?_)
  rw [starEach_cons hu]
  refine PyProof.Rows.callWith_type rfl (Calls.evalArgs_plain ?_)
  show wpAny _ A (spliced (backTo pos ((false, eval e env) :: starEach [] env))) _ E s
  rw [← starEach_cons hu]
  refine wpAny_items_cons (h A s _ E R hs hf ?_) (starEach_cons hu)
  rintro s1 v1 x1 m1 ⟨rfl, rfl⟩ hs1 t1 sl1 r1
  cases r1
  refine wpAny_items_nil (call_range_1 ?_)
  refine wpAny_pyIter_range (IsRange.new ..) (small_one (by decide) (by decide) (by omega) (by omega)) ?_
  have hsz : Builtin.Range.rangeSize 0 k 1 = ((k.toNat : Nat) : Int) := by rw [rangeSize_one]; split <;> omega
  have new : s1.heap.get? (s1.heap.objs.size + 1) = none := by
    cases q : s1.heap.get? (s1.heap.objs.size + 1) with
    | none => rfl
    | some o => exact absurd (Nat.lt_trans (Nat.lt_succ_self _) (Heap.lt_size q)) (Nat.lt_irrefl _)
  rename_i u
  have kp : ∀ h', (∀ b o, s1.heap.get? b = some o → h'.get? b = some o) → Kp s1 { s1 with heap := h', toks := s1.toks + 1 + 1 } := fun h' k => Kp.of k
  rw [show Shared.heap { s1 with heap := s1.heap.push { cls := .type "range", data := .fields #[.int 0 s1.toks, .int k u, .int 1 (s1.toks + 1)] }, toks := s1.toks + 1 + 1 } = s1.heap.push { cls := .type "range", data := .fields #[.int 0 s1.toks, .int k u, .int 1 (s1.toks + 1)] } from rfl, Heap.size_push, hsz]
  have kk : ∀ b o, s1.heap.get? b = some o → ((s1.heap.push { cls := .type "range", data := .fields #[.int 0 s1.toks, .int k u, .int 1 (s1.toks + 1)] }).push { cls := .type "range_iterator", data := .fields #[rawInt 0, rawInt ((k.toNat : Nat) : Int), rawInt 1] }).get? b = some o := fun _ _ e => Heap.get?_push_of_some _ (Heap.get?_push_of_some _ e)
  refine hK _ (s1.heap.objs.size + 1) _ Wk.range ?_ (hs1.keeps (kp _ kk)) (t1.trans ((kp _ kk).T ps)) sl1 ?_
  · have e : ((s1.heap.push { cls := .type "range", data := .fields #[.int 0 s1.toks, .int k u, .int 1 (s1.toks + 1)] }).push { cls := .type "range_iterator", data := .fields #[rawInt 0, rawInt ((k.toNat : Nat) : Int), rawInt 1] }).get? (s1.heap.push { cls := .type "range", data := .fields #[.int 0 s1.toks, .int k u, .int 1 (s1.toks + 1)] }).objs.size = _ := Heap.get?_push_size _ rfl
    rw [Heap.size_push] at e
    have e1 : (0 : Int) + ((0 : Nat) : Int) = 0 := by simp
    have e2 : ((k.toNat : Nat) : Int) - ((0 : Nat) : Int) = ((k.toNat : Nat) : Int) := by simp
    show IsRangeIter _ _ _ _ _
    rw [e1, e2]
    exact e
  · cases q : s.heap.get? (s1.heap.objs.size + 1) with
    | none => rfl
    | some o => obtain ⟨o', e'⟩ := t1.live _ _ q; rw [new] at e'; cases e'
theorem ITJ.range2 {e e' : Expr} {rp pos : Pos} {a k : Int} {m m' : MH} (SB : St0 g g.B) (b : BN g env "range" (.type "range")) (hL : env.locals ∈ ps) (h : EV g stk ps n env fr mh e (Is m (.int a))) (h' : EV g stk ps n env fr m e' (Is m' (.int k))) (ha : -1000 ≤ a) (ha2 : a ≤ 1000) (hk : -1000 ≤ k) (hk2 : k ≤ 1000) (hu : unstar e = true := by rfl) (hu' : unstar e' = true := by rfl) :
    ITJ g stk ps n env fr mh (.Call (.Name "range" rp) [e, e'] [] pos) (k - a).toNat (fun i => .int (a + i)) m' := fun A s K E R hs hf hK => by
  refine PyProof.Rows.Call_Name rfl (b.go SB hs ?_)
  rw [starEach_cons hu]
  rw [starEach_cons hu']
  refine PyProof.Rows.callWith_type rfl (Calls.evalArgs_plain ?_)
  rw [← starEach_cons hu']
  show wpAny _ A (spliced (backTo pos ((false, eval e env) :: starEach [e'] env))) _ E s
  rw [← starEach_cons hu]
  refine wpAny_items_cons (h A s _ E R hs hf ?_) (starEach_cons hu)
  rintro s1 v1 x1 m1 ⟨rfl, rfl⟩ hs1 t1 sl1 r1
  cases r1
  refine wpAny_items_cons (h' A s1 _ E R hs1 (fr_next hf t1 hL sl1) ?_) (starEach_cons hu')
  rintro s2 v1 x1 m2 ⟨rfl, rfl⟩ hs2 t2 sl2 r2
  cases r2
  refine wpAny_items_nil (call_range_2 ?_)
  refine wpAny_pyIter_range (IsRange.new ..) (small_one (by omega) (by omega) (by omega) (by omega)) ?_
  have hsz : Builtin.Range.rangeSize a k 1 = (((k - a).toNat : Nat) : Int) := by rw [rangeSize_one]; split <;> omega
  have new : s2.heap.get? (s2.heap.objs.size + 1) = none := by
    cases q : s2.heap.get? (s2.heap.objs.size + 1) with
    | none => rfl
    | some o => exact absurd (Nat.lt_trans (Nat.lt_succ_self _) (Heap.lt_size q)) (Nat.lt_irrefl _)
  rename_i u0 u
  have kp : ∀ h', (∀ b o, s2.heap.get? b = some o → h'.get? b = some o) → Kp s2 { s2 with heap := h', toks := s2.toks + 1 } := fun h' k => Kp.of k
  rw [show Shared.heap { s2 with heap := s2.heap.push { cls := .type "range", data := .fields #[.int a u0, .int k u, .int 1 s2.toks] }, toks := s2.toks + 1 } = s2.heap.push { cls := .type "range", data := .fields #[.int a u0, .int k u, .int 1 s2.toks] } from rfl, Heap.size_push, hsz]
  have kk : ∀ b o, s2.heap.get? b = some o → ((s2.heap.push { cls := .type "range", data := .fields #[.int a u0, .int k u, .int 1 s2.toks] }).push { cls := .type "range_iterator", data := .fields #[rawInt a, rawInt (((k - a).toNat : Nat) : Int), rawInt 1] }).get? b = some o := fun _ _ e => Heap.get?_push_of_some _ (Heap.get?_push_of_some _ e)
  refine hK _ (s2.heap.objs.size + 1) _ Wk.range ?_ (hs2.keeps (kp _ kk)) ((t1.trans t2).trans ((kp _ kk).T ps)) (sl1.trans sl2) ?_
  · have e : ((s2.heap.push { cls := .type "range", data := .fields #[.int a u0, .int k u, .int 1 s2.toks] }).push { cls := .type "range_iterator", data := .fields #[rawInt a, rawInt (((k - a).toNat : Nat) : Int), rawInt 1] }).get? (s2.heap.push { cls := .type "range", data := .fields #[.int a u0, .int k u, .int 1 s2.toks] }).objs.size = _ := Heap.get?_push_size _ rfl
    rw [Heap.size_push] at e
    have e1 : (a : Int) + ((0 : Nat) : Int) = a := by simp
    have e2 : (((k - a).toNat : Nat) : Int) - ((0 : Nat) : Int) = (((k - a).toNat : Nat) : Int) := by simp
    show IsRangeIter _ _ _ _ _
    rw [e1, e2]
    exact e
  · cases q : s.heap.get? (s2.heap.objs.size + 1) with
    | none => rfl
    | some o => obtain ⟨o', e'⟩ := (t1.trans t2).live _ _ q; rw [new] at e'; cases e'
end
end Mine

-- C14
namespace Mine
theorem funFrames_in {B h h' : Heap} : ∀ {l : List Env}, h.FunFrames B l → (∀ L ∈ l.filterMap (·.frame), ∀ o, h.get? L = some o → (∀ vs, o.data ≠ .fields vs) → ∃ o', h'.get? L = some o' ∧ ∀ vs, o'.data ≠ .fields vs) → h'.FunFrames B l
  | [], _, _ => trivial
  | env :: _, ⟨hk, ⟨L, o, hf, hn, ho, hd⟩, hr⟩, k => ⟨hk, (let ⟨o', e', d'⟩ := k L (by rw [List.filterMap_cons, hf]; exact List.mem_cons_self) o ho hd; ⟨L, o', hf, hn, e', d'⟩),
      funFrames_in hr fun L' h' => k L' (by rw [List.filterMap_cons, hf]; exact List.mem_cons_of_mem _ h')⟩
section
variable {g : G} {stk : List Env} {ps qs : List Addr} {n : Nat} {env : Env} {fr : FR} {mh : MH}

/-- one object turned that nobody looks at -/
theorem H.except {s : Shared} {h' : Heap} {t : Nat} {it : Addr} (hs : H g stk ps mh s) (hps : it ∉ ps) (hB : g.B.get? it = none) (hM : ∀ a C d at_, mh a = some (.inst C d at_) → a ≠ it ∧ d ≠ it) (hL : isL (mh it) = false)
    (k : ∀ b o, b ≠ it → s.heap.get? b = some o → h'.get? b = some o) : H g stk ps mh { s with heap := h', toks := t } := by
  refine ⟨fun b o e => k b o (fun q => by rw [q, hB] at e; cases e) (hs.stays b o e), hs.os, hs.bare, fun a o e => ?_, hs.off, hs.inj, funFrames_in hs.frm fun L hL o e d => ⟨o, k L o (fun q => hps (q ▸ hs.sps L hL)) e, d⟩, hs.sps, fun L hL => ?_⟩
  · have r := hs.rep a o e
    cases o with
    | inst C d at_ =>
      obtain ⟨es, n, ⟨i1, i2⟩, ar⟩ := r
      obtain ⟨m1, m2⟩ := hM a C d at_ e
      exact ⟨es, n, ⟨k _ _ m1 i1, k _ _ m2 i2⟩, ar⟩
    | lst xs => obtain ⟨vs, n, e1, iv⟩ := r; exact ⟨vs, n, k _ _ (fun q => by rw [q] at e; rw [e] at hL; cases hL) e1, iv⟩
    | opq => obtain ⟨vs, n, e1⟩ := r; exact ⟨vs, n, k _ _ (fun q => by rw [q] at e; rw [e] at hL; cases hL) e1⟩
  · obtain ⟨b1, o, es, n, e, d⟩ := hs.psd L hL
    exact ⟨b1, o, es, n, k L o (fun q => hps (q ▸ hL)) e, d⟩
theorem T.except {h0 h h' : Heap} {it : Addr} (t : T ps h0 h) (hn : h0.get? it = none) (k : ∀ b o, b ≠ it → h.get? b = some o → h'.get? b = some o) : T ps h0 h' := by
  have ne : ∀ b o, h0.get? b = some o → b ≠ it := fun b o e q => by rw [q, hn] at e; cases e
  refine ⟨fun b o e d => k b o (ne b o e) (t.nd b o e d), fun L hL o es n e d => ?_, fun b o e => ?_⟩
  · obtain ⟨o', e', d'⟩ := t.ns L hL o es n e d; exact ⟨o', k L o' (ne L o e) e', d'⟩
  · obtain ⟨o', e'⟩ := t.live b o e; exact ⟨o', k b o' (ne b o e) e'⟩
theorem Ts.except {cs : List Addr} {m m' : MH} {h0 h h' : Heap} {it : Addr} (t : Ts cs qs m m' h0 h) (hn : h0.get? it = none) (k : ∀ b o, b ≠ it → h.get? b = some o → h'.get? b = some o) : Ts cs qs m m' h0 h' := by
  have ne : ∀ b o, h0.get? b = some o → b ≠ it := fun b o e q => by rw [q, hn] at e; cases e
  refine ⟨fun b o e d hc hi => k b o (ne b o e) (t.nd b o e d hc hi), t.nm, t.nw, t.op, fun L hL o es n e d => ?_, fun b o e => ?_⟩
  · obtain ⟨o', e', d'⟩ := t.ns L hL o es n e d; exact ⟨o', k L o' (ne L o e) e', d'⟩
  · obtain ⟨o', e'⟩ := t.live b o e; exact ⟨o', k b o' (ne b o e) e'⟩
/-- an iterator is nobody's -/
theorem H.notIter {s : Shared} {it : Addr} (hs : H g stk ps mh s) (hit : ∃ o vs, s.heap.get? it = some o ∧ o.data = .fields vs) : it ∉ ps ∧ (∀ a C d at_, mh a = some (.inst C d at_) → a ≠ it ∧ d ≠ it) ∧ isL (mh it) = false := by
  obtain ⟨o, vs, e, d⟩ := hit
  refine ⟨fun q => ?_, fun a C d' at_ q => ⟨fun z => ?_, fun z => ?_⟩, ?_⟩
  · obtain ⟨_, o', es, n, e', d'⟩ := hs.psd _ q; rw [e] at e'; cases e'; rw [d] at d'; cases d'
  · obtain ⟨_, _, ⟨i1, _⟩, _⟩ := hs.rep a _ q; rw [z, e] at i1; cases i1; cases d
  · obtain ⟨_, _, ⟨_, i2⟩, _⟩ := hs.rep a _ q; rw [z, e] at i2; cases i2; cases d
  · cases q : mh it with
    | none => rfl
    | some o' =>
      have r := hs.rep it o' q
      cases o' with
      | inst => rfl
      | lst => obtain ⟨_, _, e1, _⟩ := r; rw [e] at e1; cases e1; cases d
      | opq => obtain ⟨_, _, e1⟩ := r; rw [e] at e1; cases e1; cases d
theorem FrR.iter {h h' : Heap} {it : Addr} (hf : FrR env fr mh h) (hit : ∃ o vs, h.get? it = some o ∧ o.data = .fields vs) (k : ∀ b o, b ≠ it → h.get? b = some o → h'.get? b = some o) : FrR env fr mh h' := by
  obtain ⟨o0, vs0, e0, d0⟩ := hit
  have kc : ∀ c v0, h.IsCell c v0 → h'.IsCell c v0 := fun c v0 ⟨o, e, d⟩ => ⟨o, k c o (fun q => by rw [q, e0] at e; cases e; rw [d0] at d; cases d) e, d⟩
  have kn : ∀ L m, h.Ns L m → h'.Ns L m := fun L m ⟨o, es, ep, e, d, r⟩ => ⟨o, es, ep, k L o (fun q => by rw [q, e0] at e; cases e; rw [d0] at d; cases d) e, d, r⟩
  refine ⟨(let ⟨m, hm⟩ := hf.loc; ⟨m, kn _ _ hm⟩), fun x c e => (let ⟨v0, hc⟩ := hf.cel x c e; ⟨v0, kc _ _ hc⟩), fun x v e => ?_⟩
  obtain ⟨val, r, rv⟩ := hf.nam x v e
  refine ⟨val, ?_, rv_mono2 rv fun a o vs n e d i => ⟨i, k a o (fun q => by rw [q, e0] at e; cases e; rw [d0] at d; cases d) e⟩⟩
  rcases r with ⟨hl, m, hm, hv⟩ | ⟨hl, c, hc, hv⟩
  · exact .inl ⟨hl, m, kn _ _ hm, hv⟩
  · exact .inr ⟨hl, c, hc, kc _ _ hv⟩

abbrev ForP (Inv : FR → MH → Prop) (P : FL → FR → MH → Prop) : FL → FR → MH → Prop := fun fl r m => match fl with
  | .next | .cont => Inv r m
  | .brk => P .next r m
  | .ret v => P (.ret v) r m

theorem SJ.forW {x : Str} {px pos : Pos} {iter : Expr} {body : List Stmt} {N : Nat} {item : Nat → AV} {m0 : MH} {P : FL → FR → MH → Prop} (ok : EnvOk g env ps qs) (hk : env.kindOf x = some .local ∨ (env.kindOf x = some .cell ∧ ∃ c, env.cells.lookup x = some c))
    (hi : ITJ g stk ps n env fr mh iter N item m0) (Inv : Nat → FR → MH → Prop) (h0 : Inv 0 fr m0) (hb : ∀ i r m, i < N → Inv i r m → ST g stk ps qs n env ((x, item i) :: r) m body (ForP (Inv (i + 1)) P))
    (hd : ∀ r m, Inv N r m → P .next r m) (hs : ∀ x, foldedSetIterable iter env x = pure x := by intro _; rfl) : SJ g stk ps qs n env fr mh (exec (.For (.Name x px) iter body [] pos) env) P := fun A s Q E R hs0 hf hq => by
  refine wpAny_For (hi A s _ E R hs0 hf fun s2 it St W st0 hs2 t2 sl2 hnew => ?_) hs
  let cs := env.cells.map (·.2)
  have hB : g.B.get? it = none := by
    cases q : g.B.get? it with
    | none => rfl
    | some o => have := hs0.stays _ _ q; rw [hnew] at this; cases this
  refine codeAny_forLoop (I := fun k s3 => ∃ i r m, k = N - i ∧ i ≤ N ∧ Inv i r m ∧ H g stk ps m s3 ∧ FrR env r m s3.heap ∧ Ts cs qs mh m s.heap s3.heap ∧ (∀ b, b ≠ it → Im m0 b → s2.heap.get? b ≠ none → Im m b ∧ s3.heap.get? b ≠ none) ∧ St i s3.heap) ?_ N ⟨0, fr, m0, by omega, by omega, h0, hs2, fr_next hf t2 ok.loc sl2, t2.s sl2 ok.sub, fun b _ i e => ⟨i, e⟩, st0⟩
  rintro k s3 ⟨i, r, m, rfl, hiN, inv, hs3, hf3, tA, tB, st⟩
  have ob := W.ob i _ st
  obtain ⟨nps, nM, nL⟩ := hs3.notIter ob
  by_cases hlt : i < N
  · refine W.nx i A s3 _ _ hlt R.handled st fun val h' t' rv st' kk => ?_
    have hs4 := hs3.except (t := t') nps hB nM nL kk
    have hf4 := hf3.iter ob kk
    have tA4 := tA.except hnew kk
    obtain ⟨oi, vi, ei, di⟩ := W.ob (i + 1) _ st'
    have neS : ∀ b o vs k', h'.get? b = some o → o.data = .seq vs k' → b ≠ it := fun b o vs k' e d q => by rw [q, ei] at e; cases e; rw [di] at d; cases d
    have rv4 : RV (Im m) h' (item i) val := rv_mono2 rv fun a o vs k' e d hx => ⟨(tB a (neS a o vs k' e d) hx.1 hx.2).1, e⟩
    refine wpAny_assign_Name (store (s := { s3 with heap := h', toks := t' }) ok hk hs4 hf4 rv4 fun s5 hs5 hf5 ts5 => ?_)
    have tA5 := tA4.trans ts5
    refine hb i r m hlt inv A s5 _ _ R hs5 hf5 fun s6 fl f r6 m6 p hs6 hf6 ts6 flr => ?_
    have ts56 := ts5.trans ts6
    have ncs : ∀ b o, h'.get? b = some o → (∀ v0, o.data ≠ .cell v0) → b ∉ cs := fun b o e d q => by
      obtain ⟨⟨y, c'⟩, hm, rfl⟩ := List.mem_map.mp q
      obtain ⟨v0, o', e', d'⟩ := hf4.cel y c' hm
      rw [e] at e'; cases e'; exact d _ d'
    have stand : St (i + 1) s6.heap := W.fr _ _ _ st' fun b o e hb => by
      rcases hb with rfl | ⟨hx, vs, k', d⟩
      · rw [ei] at e; cases e
        exact ts56.nd _ _ ei (by intro es n q; rw [di] at q; cases q) (ncs _ _ ei (by intro v0 q; rw [di] at q; cases q)) (isM_of nL)
      · exact ts56.nd _ _ e (nd_seq d) (ncs _ _ e (by intro v0 q; rw [d] at q; cases q)) (isM_of (tB b (neS b o vs k' e d) hx.1 hx.2).1)
    have tB6 : ∀ b, b ≠ it → Im m0 b → s2.heap.get? b ≠ none → Im m6 b ∧ s6.heap.get? b ≠ none := fun b hb i e => by
      obtain ⟨z1, z2⟩ := tB b hb i e
      have z3 : h'.get? b ≠ none := by
        cases q : s3.heap.get? b with
        | none => exact absurd q z2
        | some o => rw [kk b o hb q]; simp
      exact ⟨ts56.nw b z1 z3, ts56.ex z3⟩
    cases flr with
    | next => exact ⟨N - (i + 1), by omega, i + 1, r6, m6, rfl, hlt, p, hs6, hf6, tA5.trans ts6, tB6, stand⟩
    | cont => exact ⟨N - (i + 1), by omega, i + 1, r6, m6, rfl, hlt, p, hs6, hf6, tA5.trans ts6, tB6, stand⟩
    | brk => exact hq s6 .next .next r6 m6 p hs6 hf6 (tA5.trans ts6) .next
    | ret rv => exact hq s6 _ _ r6 m6 p hs6 hf6 (tA5.trans ts6) (.ret rv)
  · obtain rfl : i = N := by omega
    refine W.dn A s3 _ _ R.handled st fun h' kk => ?_
    refine wpAny_execs_nil ?_
    have hs4 := hs3.except (t := s3.toks) nps hB nM nL kk
    exact hq _ .next .next r m (hd r m inv) hs4 (hf3.iter ob kk) (tA.except hnew kk) .next

/-- the tests of a comprehension -/
def TJs (g : G) (stk : List Env) (ps : List Addr) (n : Nat) (env : Env) (fr : FR) (mh : MH) (ifs : List Expr) (P : Bool → MH → Prop) : Prop :=
  ∀ (A : Around) (s : Shared) (Q : Bool → Shared → Prop) (E : Value → Shared → Prop), Room n A stk → H g stk ps mh s → FrR env fr mh s.heap →
    (∀ s' b mh', P b mh' → H g stk ps mh' s' → T ps s.heap s'.heap → SameL mh mh' → Q b s') →
    wpAny g.M A (forIn ifs true fun c r => if r = true then do let ok ← isTrue c env (eval c env); pure (ForInStep.yield ok) else pure (ForInStep.yield r)) Q E s
theorem TJs.nil : TJs g stk ps n env fr mh [] (Tst mh true) := fun A s Q E R hs hf hq => wpAny_tests_nil (hq s true mh ⟨rfl, rfl⟩ hs (T.refl ..) (SameL.refl _))
theorem TJs.one {c : Expr} {P : Bool → MH → Prop} (h : TJ g stk ps n env fr mh c P) : TJs g stk ps n env fr mh [c] P := fun A s Q E R hs hf hq => wpAny_tests_one (h A s Q E R hs hf hq)

theorem cenv_ok {scope : Scope} {cl : List (Str × Addr)} {C : Addr} (ok : EnvOk g env ps qs) (hks : scope.kind = .function) (hC : C ∉ ps) (hcl : ∀ y c, cl.lookup y = some c → env.cells.lookup y = some c) : EnvOk g (compEnvC scope cl C env) (C :: ps) ps where
  kind := hks
  glob := ok.glob
  blt := ok.blt
  loc := List.mem_cons_self
  out := hC
  sub := fun q h => List.mem_cons_of_mem _ h
  cellB := fun x c e => ok.cellB x c (hcl x c e)
  cinj := fun x y c e e' => ok.cinj x y c (hcl x c e) (hcl y c e')

/-- a captured name -/
structure Cap (env : Env) (scope : Scope) (cl : List (Str × Addr)) (y : Str) : Prop where
  ex : ∃ c, env.cells.lookup y = some c ∧ cl.lookup y = some c
  ko : env.kindOf y = some .cell ∨ env.kindOf y = some .free
  ki : (relabel scope env).names.lookup y = some .cell ∨ (relabel scope env).names.lookup y = some .free

/-- the comprehension's own namespace goes -/
theorem H.drop {s : Shared} {C : Addr} {h9 : Heap} {t : Nat} (hs : H g stk (C :: ps) mh s) (hsp : ∀ L ∈ stk.filterMap (·.frame), L ∈ ps) (hCp : C ∉ ps) (kk : ∀ b o, b ≠ C → s.heap.get? b = some o → h9.get? b = some o) : H g stk ps mh { s with heap := h9, toks := t } := by
  obtain ⟨nB, oC, esC, epC, eC, dC⟩ := hs.psd C List.mem_cons_self
  have hs5 : H g stk ps mh s := ⟨hs.stays, hs.os, hs.bare, hs.rep, fun a o e => by
      have r := hs.off a o e
      cases o with
      | inst C' d at_ => exact ⟨r.1, r.2.1, fun q => r.2.2.1 (List.mem_cons_of_mem _ q), r.2.2.2⟩
      | lst => exact r
      | opq => trivial, hs.inj, hs.frm, hsp, fun L hL => hs.psd L (List.mem_cons_of_mem _ hL)⟩
  refine hs5.except hCp nB (fun a C' d at_ q => ?_) ?_ kk
  · obtain ⟨_, _, ⟨i1, i2⟩, _⟩ := hs.rep a _ q
    exact ⟨(fun z => by rw [z, eC] at i1; cases i1; cases dC), fun z => (hs.off a _ q).2.2.1 (z ▸ List.mem_cons_self)⟩
  · cases q : mh C with
    | none => rfl
    | some o' =>
      have r := hs.rep C o' q
      cases o' with
      | inst => rfl
      | lst => obtain ⟨_, _, e1, _⟩ := r; rw [eC] at e1; cases e1; cases dC
      | opq => obtain ⟨_, _, e1⟩ := r; rw [eC] at e1; cases e1; cases dC

theorem compF_gen {elt iter : Expr} {x : Str} {px pos : Pos} {ifs : List Expr} {scope : Scope} {cl : List (Str × Addr)} {N : Nat} {item : Nat → AV} {m0 : MH} (ok : EnvOk g env ps qs)
    (hks : scope.kind = .function) (hcell : ∀ y ∈ scope.names, y.2 ≠ .cell) (hnames : ∀ y ∈ scope.names, y.2 = .local → scope.names.lookup y.1 = some .local) (hx : scope.names.lookup x = some .local)
    (hclos : closureFor scope env = pure cl) (hcl : ∀ y c, cl.lookup y = some c → env.cells.lookup y = some c) (hcm : ∀ y c, (y, c) ∈ cl → (y, c) ∈ env.cells) (hi : ITJ g stk ps n env fr mh iter N item m0) (hN : N ≤ 1000) (frc : FR)
    (hcap : ∀ y v, frc.lookup y = some v → fr.lookup y = some v ∧ Cap env scope cl y)
    (Inv : Nat → List AV → MH → Prop) (h0 : Inv 0 [] m0)
    (hb : ∀ C i vs m, C ∉ ps → EnvOk g (compEnvC scope cl C env) (C :: ps) ps → i < N → Inv i vs m → ∃ PT : Bool → MH → Prop, TJs g stk (C :: ps) n (compEnvC scope cl C env) ((x, item i) :: frc) m ifs PT ∧ (∀ m', PT false m' → Inv (i + 1) vs m') ∧
      (∀ m', PT true m' → EV g stk (C :: ps) n (compEnvC scope cl C env) ((x, item i) :: frc) m' elt (fun v m'' => Flat v ∧ Inv (i + 1) (vs ++ [v]) m'')))
    (hs : ∀ x, foldedSetIterable iter env x = pure x) {pos' : Pos} {use : Option (Value → Sem Unit)} {A : Around} {s : Shared} {Q : Value → Shared → Prop} {E : Value → Shared → Prop} (R : Room n A stk) (hs0 : H g stk ps mh s) (hf : FrR env fr mh s.heap)
    (hfin : ∀ C D vs m s4, C ∉ ps → Inv N vs m → H g stk (C :: ps) m s4 → (∃ mm, s4.heap.Ns C mm) → T ps s.heap s4.heap → SameL mh m → RV (Im m) s4.heap (.list vs) (.ref D) → s.heap.get? C = none → compPost g.M A E use Q (.ref D) C (.ok .next) s4) :
    wpAny g.M A (comprehension (.ListComp elt [⟨.Name x px, iter, ifs, 0⟩] scope pos) scope env pos' (newList []) false (eval iter env) use) Q E s := by
  refine wpAny_comprehension_free (use := use) rfl hs hclos hks hnames (hi A s _ E R hs0 hf fun s2 it St W st0 hs2 t2 sl2 hnew => ?_)
  have hf2 := fr_next hf t2 ok.loc sl2
  refine wpAny_newObj_type (wpAny_newFunctionEnv hcell (by intro y hy; cases hy) (fun h1 hns1 hsb1 => ?_) hks)
  dsimp only at hns1 hsb1 ⊢
  generalize hH2 : s2.heap.push { cls := .type "list", dict := none, data := .seq ([] : List Value).toArray } = H2 at hns1 hsb1 ⊢
  have hC : H2.objs.size = s2.heap.objs.size + 1 := by rw [← hH2, Heap.size_push]
  generalize hCe : H2.objs.size = C at hns1 hsb1 hC ⊢
  generalize hDe : s2.heap.objs.size = D at hC ⊢
  have fresh : ∀ a, D ≤ a → s2.heap.get? a = none := fun a ha => by
    cases e : s2.heap.get? a with
    | none => rfl
    | some o' => have := Heap.lt_size e; rw [hDe] at this; exact absurd this (Nat.not_lt.mpr ha)
  have nC := fresh C (by rw [hC]; exact Nat.le_succ _)
  have nD := fresh D (Nat.le_refl _)
  have hDC : D ≠ C := by rw [hC]; exact Nat.ne_of_lt (Nat.lt_succ_self _)
  have ex2 : ∀ b o, s2.heap.get? b = some o → b ≠ C ∧ b ≠ D := fun b o e => ⟨(fun q => by rw [q, nC] at e; cases e), (fun q => by rw [q, nD] at e; cases e)⟩
  have old : ∀ b o, s2.heap.get? b = some o → h1.get? b = some o := fun b o e => hsb1.extBut b o (ex2 b o e).1 (Heap.get?_push_of_some _ (hH2 ▸ Heap.get?_push_of_some _ e))
  have hD1 : h1.get? D = some (listOf #[] 0) := hsb1.extBut _ _ hDC (Heap.get?_push_of_some _ (by rw [← hH2, ← hDe]; exact Heap.get?_push_size _ rfl))
  have nB : ∀ a, s2.heap.get? a = none → g.B.get? a = none := fun a ha => by
    cases q : g.B.get? a with
    | none => rfl
    | some o => have := hs2.stays _ _ q; rw [ha] at this; cases this
  have nS : ∀ a, s2.heap.get? a = none → s.heap.get? a = none := fun a ha => by
    cases q : s.heap.get? a with
    | none => rfl
    | some o => obtain ⟨o', e'⟩ := t2.live _ _ q; rw [ha] at e'; cases e'
  have hCp : C ∉ ps := fun q => by obtain ⟨_, o, _, _, e, _⟩ := hs2.psd _ q; rw [nC] at e; cases e
  have hitB : g.B.get? it = none := by
    cases q : g.B.get? it with
    | none => rfl
    | some o => have := hs0.stays _ _ q; rw [hnew] at this; cases this
  have obi := W.ob 0 _ st0
  have itCD : it ≠ C ∧ it ≠ D := by obtain ⟨o, _, e, _⟩ := obi; exact ex2 _ _ e
  have cok := cenv_ok ok hks hCp hcl
  have kx : (compEnvC scope cl C env).kindOf x = some .local := lookup_relabel_local hx
  have hh1 : H g stk (C :: ps) m0 { s2 with heap := h1, toks := s2.toks + ([] : List (Str × Value)).length } := by
    have k := hs2.keeps (Kp.of (t := s2.toks + ([] : List (Str × Value)).length) old)
    refine ⟨k.stays, k.os, k.bare, k.rep, fun a o e => ?_, k.inj, k.frm, fun L hL => List.mem_cons_of_mem _ (k.sps L hL), fun L hL => ?_⟩
    · have r := k.off a o e
      cases o with
      | inst C' d at_ =>
        refine ⟨r.1, r.2.1, fun q => ?_, r.2.2.2⟩
        rcases List.mem_cons.mp q with q | q
        · obtain ⟨_, _, ⟨_, i2⟩, _⟩ := hs2.rep a _ e; rw [q, nC] at i2; cases i2
        · exact r.2.2.1 q
      | lst => exact r
      | opq => trivial
    · rcases List.mem_cons.mp hL with q | q
      · obtain ⟨o, es, ep, e, d, _⟩ := hns1; rw [q]; exact ⟨nB _ nC, o, es, ep, e, d⟩
      · exact k.psd L q
  -- the captured names
  have cap : ∀ (h : Heap) (m : MH) (mm : Str → Option Value), h.Ns C mm → (∀ b o, b ≠ it → s2.heap.get? b = some o → nd o → h.get? b = some o) → SameL m0 m → FrR (compEnvC scope cl C env) frc m h := fun h m mm hn hk sl => by
    obtain ⟨oi, vi, ei, di⟩ := obi
    have kc : ∀ c v0, s2.heap.IsCell c v0 → h.IsCell c v0 := fun c v0 ⟨o, e, d⟩ => ⟨o, hk c o (fun q => by rw [q, ei] at e; cases e; rw [di] at d; cases d) e (by intro es n q; rw [d] at q; cases q), d⟩
    refine ⟨⟨mm, hn⟩, fun y c e => (let ⟨v0, hc⟩ := hf2.cel y c (hcm y c e); ⟨v0, kc _ _ hc⟩), fun y v e => ?_⟩
    obtain ⟨e1, ⟨c, c1, c2⟩, ko, ki⟩ := hcap y v e
    obtain ⟨val, r, rv⟩ := hf2.nam y v e1
    refine ⟨val, .inr ⟨ki, c, c2, ?_⟩, rv_mono2 rv fun a o vs n e d i => ⟨sl.im i, hk a o (fun q => by rw [q, ei] at e; cases e; rw [di] at d; cases d) e (nd_seq d)⟩⟩
    rcases r with ⟨hl, _⟩ | ⟨_, c', hc', hv⟩
    · rcases ko with ko | ko <;> rw [ko] at hl <;> cases hl
    · rw [c1] at hc'; cases hc'; exact kc _ _ hv
  have imD : Im m0 D := hs2.im_new nD
  have st1 : St 0 h1 := W.fr _ _ _ st0 fun b o e _ => old b o e
  let Acc (h : Heap) (vs : List AV) : Prop := ∃ (vals : List Value) (kD : Nat), h.get? D = some (listOf vals.toArray kD) ∧ vs.length = vals.length ∧ ∀ (j : Nat) (v : AV) (val : Value), vs[j]? = some v → vals[j]? = some val → ∀ (X : Addr → Prop) (h : Heap), RV X h v val
  let I : Nat → Shared → Prop := fun k s3 => ∃ i vs m, k = N - i ∧ i ≤ N ∧ Inv i vs m ∧ vs.length ≤ i ∧ H g stk (C :: ps) m s3 ∧ (∃ mm, s3.heap.Ns C mm) ∧ T ps s.heap s3.heap ∧ SameL mh m ∧ SameL m0 m ∧ (∀ b o, b ≠ it → s2.heap.get? b = some o → nd o → s3.heap.get? b = some o) ∧ St i s3.heap ∧ Acc s3.heap vs
  have loop : codeAny g.M A (.compLoop (.ListComp elt [⟨.Name x px, iter, ifs, 0⟩] scope pos) 0 (.ref it) (.ref D) (compEnvC scope cl C env)) (compPost g.M A E use Q (.ref D) C) { s2 with heap := h1, toks := s2.toks + ([] : List (Str × Value)).length } := by
    refine codeAny_compLoop_tests I ?_ N ⟨0, [], m0, by omega, by omega, h0, by simp, hh1, ⟨_, hns1⟩, t2.trans (T.of_keeps old), sl2, SameL.refl _, fun b o _ e _ => old b o e, st1, [], 0, hD1, rfl, fun j v val e => by simp at e⟩
    rintro k s3 ⟨i, vs, m, rfl, hiN, inv, hvl, hs3, ⟨mm, hn3⟩, tA, slA, slB, kB, st, vals, kD, hD3, hvn, hvi⟩
    have ob := W.ob i _ st
    obtain ⟨nps, nM, nL⟩ := hs3.notIter ob
    by_cases hlt : i < N
    · refine W.nx i A s3 _ _ hlt R.handled st fun val h' t' rv st' kk => ?_
      have hs4 := hs3.except (t := t') nps hitB nM nL kk
      obtain ⟨oi, vi, ei, di⟩ := W.ob (i + 1) _ st'
      have hn4 : h'.Ns C mm := by obtain ⟨o, es, ep, e, d, r⟩ := hn3; exact ⟨o, es, ep, kk C o itCD.1.symm e, d, r⟩
      refine wpAny_assign_Name (wpAny_storeName_local (s := { s3 with heap := h', toks := t' }) kx hn4 (fun h5 hn5 hb5 => ?_) (by rw [cok.kind]; rfl))
      have hs5 := hs4.ns (t := t' + 1) List.mem_cons_self hn5 hb5
      have isd : ∀ b o, h'.get? b = some o → nd o → b ≠ C := fun b o e d q => by obtain ⟨oc, es, ep, ec, dc, _⟩ := hn4; rw [q, ec] at e; cases e; exact d _ _ dc
      have kB5 : ∀ b o, b ≠ it → s2.heap.get? b = some o → nd o → h5.get? b = some o := fun b o hb e d => hb5.extBut b o (ex2 b o e).1 (kk b o hb (kB b o hb e d))
      have tA5 : T ps s.heap h5 := (tA.except hnew kk).except (nS C nC) fun b o hb e => hb5.extBut b o hb e
      have fc := cap h5 m _ hn5 kB5 slB
      have hf5 : FrR (compEnvC scope cl C env) ((x, item i) :: frc) m h5 := by
        refine ⟨fc.loc, fc.cel, fun y u hy => ?_⟩
        rw [List.lookup_cons] at hy
        by_cases q : y = x
        · subst q
          simp only [beq_self_eq_true] at hy
          cases hy
          refine ⟨val, .inl ⟨kx, _, hn5, by simp⟩, rv_mono2 rv fun a o vs k' e d hx => ?_⟩
          have neI : a ≠ it := fun q => by rw [q, ei] at e; cases e; rw [di] at d; cases d
          exact ⟨slB.im hx.1, hb5.extBut a o (isd a o e (nd_seq d)) e⟩
        · have q' : (y == x) = false := by simpa using q
          rw [q'] at hy
          exact fc.nam y u hy
      have hD5 : h5.get? D = some (listOf vals.toArray kD) := hb5.extBut D _ hDC (kk D _ itCD.2.symm hD3)
      have st5 : St (i + 1) h5 := W.fr _ _ _ st' fun b o e hb => hb5.extBut b o (by
        rcases hb with rfl | ⟨_, _, _, d⟩
        · exact itCD.1
        · exact isd b o e (nd_seq d)) e
      obtain ⟨PT, ht, hF, hT⟩ := hb C i vs m hCp cok hlt inv
      refine ht A _ _ _ R hs5 hf5 fun s6 b m6 p hs6 t6 sl6 => ?_
      -- what a step keeps
      have next : ∀ (s7 : Shared) (m7 : MH), H g stk (C :: ps) m7 s7 → T (C :: ps) h5 s7.heap → SameL m m7 → (∃ mm, s7.heap.Ns C mm) ∧ T ps s.heap s7.heap ∧ (∀ b o, b ≠ it → s2.heap.get? b = some o → nd o → s7.heap.get? b = some o) ∧ St (i + 1) s7.heap ∧ s7.heap.get? D = some (listOf vals.toArray kD) := fun s7 m7 hs7 t7 sl7 =>
        ⟨⟨_, t7.Ns List.mem_cons_self hn5⟩, tA5.trans (t7.sub fun a ha => List.mem_cons_of_mem _ ha), fun b o hb e d => t7.nd b o (kB5 b o hb e d) d, W.fr _ _ _ st5 fun b o e hb => t7.nd b o e (by
          rcases hb with rfl | ⟨_, _, _, d⟩
          · have : h5.get? b = some oi := hb5.extBut b _ itCD.1 ei
            rw [this] at e; cases e; intro es n q; rw [di] at q; cases q
          · exact nd_seq d), t7.nd D _ hD5 nd_list⟩
      cases b with
      | false =>
        rw [if_neg Bool.false_ne_true]
        obtain ⟨z1, z2, z3, z4, z5⟩ := next s6 m6 hs6 t6 sl6
        exact ⟨N - (i + 1), by omega, i + 1, vs, m6, rfl, hlt, hF m6 p, by omega, hs6, z1, z2, slA.trans sl6, slB.trans sl6, z3, z4, vals, kD, z5, hvn, hvi⟩
      | true =>
        rw [if_pos rfl]
        refine hT m6 p A s6 _ _ R hs6 (fr_next hf5 t6 List.mem_cons_self sl6) fun s7 v val7 m7 p7 hs7 t7 sl7 r7 => ?_
        obtain ⟨fl, inv7⟩ := p7
        obtain ⟨⟨mm7, z1⟩, z2, z3, z4, z5⟩ := next s7 m7 hs7 (t6.trans t7) (sl6.trans sl7)
        refine append_at z5 (fun h8 sb8 hD8 => ?_) (by rw [List.size_toArray, ← hvn, sizeLine_eq]; omega)
        have dps : D ∉ C :: ps := fun q => by obtain ⟨_, o, es, n, e, d⟩ := hs7.psd _ q; rw [z5] at e; cases e; cases d
        have dM : ∀ a C d at_, m7 a = some (.inst C d at_) → a ≠ D ∧ d ≠ D := fun a C d at_ q => by
          obtain ⟨_, _, ⟨i1, i2⟩, _⟩ := hs7.rep a _ q
          exact ⟨(fun z => by rw [z, z5] at i1; cases i1), (fun z => by rw [z, z5] at i2; have := congrArg Obj.data (Option.some.inj i2); cases this)⟩
        have dL : isL (m7 D) = false := ((slB.trans sl6).trans sl7).im imD
        have hs8 := hs7.except (t := s7.toks) dps (nB _ nD) dM dL fun b o hb e => sb8.extBut b o hb e
        refine ⟨N - (i + 1), by omega, i + 1, vs ++ [v], m7, rfl, hlt, inv7, by simp; omega, hs8, ⟨mm7, z1.extBut sb8.extBut hDC.symm⟩, z2.except (nS D nD) fun b o hb e => sb8.extBut b o hb e, (slA.trans sl6).trans sl7, (slB.trans sl6).trans sl7,
          fun b o hb e d => sb8.extBut b o (ex2 b o e).2 (z3 b o hb e d), W.fr _ _ _ z4 fun b o e hb => sb8.extBut b o (fun q => ?_) e, vals ++ [val7], kD + 1, by rw [hD8]; simp [PySem.W.listOf], by simp [hvn], fun j u w hu hw X h => ?_⟩
        · rcases hb with hb | ⟨hx, _⟩
          · exact itCD.2 (hb ▸ q)
          · exact hx.2 (q ▸ nD)
        · by_cases q : j < vs.length
          · rw [List.getElem?_append_left q] at hu
            rw [List.getElem?_append_left (by omega)] at hw
            exact hvi j u w hu hw X h
          · rw [List.getElem?_append_right (by omega)] at hu
            rw [List.getElem?_append_right (by omega), ← hvn] at hw
            have : j - vs.length = 0 := by
              cases e : j - vs.length with
              | zero => rfl
              | succ z => rw [e] at hu; simp at hu
            rw [this] at hu hw
            simp at hu hw
            subst hu hw
            exact fl.any r7
    · obtain rfl : i = N := by omega
      refine W.dn A s3 _ _ R.handled st fun h' kk => ?_
      have hs4 := hs3.except (t := s3.toks) nps hitB nM nL kk
      have hn4 : h'.Ns C mm := by obtain ⟨o, es, ep, e, d, r⟩ := hn3; exact ⟨o, es, ep, kk C o itCD.1.symm e, d, r⟩
      exact hfin C D vs m _ hCp inv hs4 ⟨mm, hn4⟩ (tA.except hnew kk) slA (.list (slB.im imD) (kk _ _ itCD.2.symm hD3) rfl rfl hvn fun j v val e1 e2 => hvi j v val e1 e2 _ _) (nS C nC)
  exact codeAny_compStart_list loop (W.sf 0 _ _ _ _ st1 loop)

theorem EV.compF {elt iter : Expr} {x : Str} {px pos : Pos} {ifs : List Expr} {scope : Scope} {cl : List (Str × Addr)} {N : Nat} {item : Nat → AV} {m0 : MH} (ok : EnvOk g env ps qs)
    (hks : scope.kind = .function) (hcell : ∀ y ∈ scope.names, y.2 ≠ .cell) (hnames : ∀ y ∈ scope.names, y.2 = .local → scope.names.lookup y.1 = some .local) (hx : scope.names.lookup x = some .local)
    (hclos : closureFor scope env = pure cl) (hcl : ∀ y c, cl.lookup y = some c → env.cells.lookup y = some c) (hcm : ∀ y c, (y, c) ∈ cl → (y, c) ∈ env.cells) (hi : ITJ g stk ps n env fr mh iter N item m0) (hN : N ≤ 1000) (frc : FR)
    (hcap : ∀ y v, frc.lookup y = some v → fr.lookup y = some v ∧ Cap env scope cl y)
    (Inv : Nat → List AV → MH → Prop) (h0 : Inv 0 [] m0)
    (hb : ∀ C i vs m, C ∉ ps → EnvOk g (compEnvC scope cl C env) (C :: ps) ps → i < N → Inv i vs m → ∃ PT : Bool → MH → Prop, TJs g stk (C :: ps) n (compEnvC scope cl C env) ((x, item i) :: frc) m ifs PT ∧ (∀ m', PT false m' → Inv (i + 1) vs m') ∧
      (∀ m', PT true m' → EV g stk (C :: ps) n (compEnvC scope cl C env) ((x, item i) :: frc) m' elt (fun v m'' => Flat v ∧ Inv (i + 1) (vs ++ [v]) m'')))
    (hs : ∀ x, foldedSetIterable iter env x = pure x := by intro _; rfl) :
    EV g stk ps n env fr mh (.ListComp elt [⟨.Name x px, iter, ifs, 0⟩] scope pos) (fun v m => ∃ vs, v = .list vs ∧ Inv N vs m) := fun A s Q E R hs0 hf hq => by
  rw [eval_ListComp]
  refine compF_gen ok hks hcell hnames hx hclos hcl hcm hi hN frc hcap Inv h0 hb hs R hs0 hf fun C D vs m s4 hCp inv hs4 hn4 tA sl rv hC0 => ?_
  obtain ⟨mm, hn4⟩ := hn4
  obtain ⟨oC, esC, epC, eC, dC, _⟩ := id hn4
  refine ⟨mm, hn4, fun h9 sb9 => ?_⟩
  have kk9 : ∀ b o, b ≠ C → s4.heap.get? b = some o → h9.get? b = some o := fun b o hb e => sb9.extBut b o hb e
  refine hq _ (.list vs) (.ref D) m ⟨vs, rfl, inv⟩ (hs4.drop (t := s4.toks) hs0.sps hCp kk9) (tA.except hC0 kk9) sl (rv_mono2 rv fun a o vs n e d i => ⟨i, kk9 a o (fun q => by rw [q, eC] at e; cases e; rw [dC] at d; cases d) e⟩)

theorem EnvOk.more {C : Addr} (ok : EnvOk g env ps qs) (hC : C ∉ ps) : EnvOk g env (C :: ps) (C :: qs) :=
  ⟨ok.kind, ok.glob, ok.blt, List.mem_cons_of_mem _ ok.loc, fun q => by
    rcases List.mem_cons.mp q with q | q
    · exact hC (q ▸ ok.loc)
    · exact ok.out q, fun q hq => by
    rcases List.mem_cons.mp hq with q | q
    · rw [q]; exact List.mem_cons_self
    · exact List.mem_cons_of_mem _ (ok.sub _ q), ok.cellB, ok.cinj⟩
/-- the end of a comprehension that a name takes at once -/
theorem comp_use {y : Str} {py : Pos} {C D : Addr} {vs : List AV} {m : MH} {s s4 : Shared} {A : Around} {Q : Value → Shared → Prop} {E : Value → Shared → Prop} (ok : EnvOk g env ps qs) (hk : env.kindOf y = some .local ∨ (env.kindOf y = some .cell ∧ ∃ c, env.cells.lookup y = some c)) (hs0 : H g stk ps mh s) (hf : FrR env fr mh s.heap)
    (hCp : C ∉ ps) (hs4 : H g stk (C :: ps) m s4) (hn4 : ∃ mm, s4.heap.Ns C mm) (tA : T ps s.heap s4.heap) (sl : SameL mh m) (rv : RV (Im m) s4.heap (.list vs) (.ref D)) (hC0 : s.heap.get? C = none)
    (hq : ∀ s', H g stk ps m s' → FrR env ((y, .list vs) :: fr) m s'.heap → Ts (env.cells.map (·.2)) qs mh m s.heap s'.heap → Q .none s') :
    compPost g.M A E (some (assign (.Name y py) env)) Q (.ref D) C (.ok .next) s4 := by
  obtain ⟨mm, hn4⟩ := hn4
  show wpAny g.M A (assign (.Name y py) env (.ref D)) _ E s4
  refine wpAny_assign_Name (store (ok.more hCp) hk hs4 (hf.T tA ok.loc fun _ _ _ => sl.im) rv fun s5 hs5 hf5 ts5 => ?_)
  have hn5 : s5.heap.Ns C mm := Ns.of_data hn4 fun o es ep e d => ts5.ns C List.mem_cons_self o es ep e d
  obtain ⟨oC, esC, epC, eC, dC, _⟩ := id hn5
  refine ⟨mm, hn5, fun h9 sb9 => ?_⟩
  have kk9 : ∀ b o, b ≠ C → s5.heap.get? b = some o → h9.get? b = some o := fun b o hb e => sb9.extBut b o hb e
  have neC : ∀ b o, s5.heap.get? b = some o → (∀ es ep, o.data ≠ .dict es ep) → b ≠ C := fun b o e d q => by rw [q, eC] at e; cases e; exact d _ _ dC
  have LC : env.locals ≠ C := fun q => hCp (q ▸ ok.loc)
  refine hq _ (hs5.drop (t := s5.toks) hs0.sps hCp kk9) ⟨?_, fun x c e => ?_, fun x v e => ?_⟩ (((tA.s sl ok.sub).trans ⟨ts5.nd, ts5.nm, ts5.nw, ts5.op, fun L hL => ts5.ns L (List.mem_cons_of_mem _ hL), ts5.live⟩).except hC0 kk9)
  · obtain ⟨m', o, es, ep, e, d, r⟩ := hf5.loc
    exact ⟨m', o, es, ep, kk9 _ _ LC e, d, r⟩
  · obtain ⟨v0, o, e1, d1⟩ := hf5.cel x c e
    exact ⟨v0, o, kk9 _ _ (neC c o e1 (by intro es ep q; rw [d1] at q; cases q)) e1, d1⟩
  · obtain ⟨val, r, rv⟩ := hf5.nam x v e
    refine ⟨val, ?_, rv_mono2 rv fun a o vs n e d i => ⟨i, kk9 a o (neC a o e (by intro es ep q; rw [d] at q; cases q)) e⟩⟩
    rcases r with ⟨hl, m', ⟨o, es, ep, e, d, r⟩, hv⟩ | ⟨hl, c, hc, o, e1, d1⟩
    · exact .inl ⟨hl, m', ⟨o, es, ep, kk9 _ _ LC e, d, r⟩, hv⟩
    · exact .inr ⟨hl, c, hc, o, kk9 _ _ (neC c o e1 (by intro es ep q; rw [d1] at q; cases q)) e1, d1⟩

/-- a name that takes a comprehension at once -/
theorem SJ.compF {elt iter : Expr} {x y : Str} {px py pos spos : Pos} {ifs : List Expr} {scope : Scope} {cl : List (Str × Addr)} {N : Nat} {item : Nat → AV} {m0 : MH} (ok : EnvOk g env ps qs) (hk : env.kindOf y = some .local ∨ (env.kindOf y = some .cell ∧ ∃ c, env.cells.lookup y = some c))
    (hks : scope.kind = .function) (hcell : ∀ y ∈ scope.names, y.2 ≠ .cell) (hnames : ∀ y ∈ scope.names, y.2 = .local → scope.names.lookup y.1 = some .local) (hx : scope.names.lookup x = some .local)
    (hclos : closureFor scope env = pure cl) (hcl : ∀ y c, cl.lookup y = some c → env.cells.lookup y = some c) (hcm : ∀ y c, (y, c) ∈ cl → (y, c) ∈ env.cells) (hi : ITJ g stk ps n env fr mh iter N item m0) (hN : N ≤ 1000) (frc : FR)
    (hcap : ∀ y v, frc.lookup y = some v → fr.lookup y = some v ∧ Cap env scope cl y)
    (Inv : Nat → List AV → MH → Prop) (h0 : Inv 0 [] m0)
    (hb : ∀ C i vs m, C ∉ ps → EnvOk g (compEnvC scope cl C env) (C :: ps) ps → i < N → Inv i vs m → ∃ PT : Bool → MH → Prop, TJs g stk (C :: ps) n (compEnvC scope cl C env) ((x, item i) :: frc) m ifs PT ∧ (∀ m', PT false m' → Inv (i + 1) vs m') ∧
      (∀ m', PT true m' → EV g stk (C :: ps) n (compEnvC scope cl C env) ((x, item i) :: frc) m' elt (fun v m'' => Flat v ∧ Inv (i + 1) (vs ++ [v]) m'')))
    (hs : ∀ x, foldedSetIterable iter env x = pure x) (hsw : swapsWith (.ListComp elt [⟨.Name x px, iter, ifs, 0⟩] scope pos) (some (.Name y py)) spos.line env = pure true) :
    SJ g stk ps qs n env fr mh (exec (.Assign [.Name y py] (.ListComp elt [⟨.Name x px, iter, ifs, 0⟩] scope pos) spos) env) (fun fl r m => ∃ vs, fl = .next ∧ r = (y, .list vs) :: fr ∧ Inv N vs m) := fun A s Q E R hs0 hf hq => by
  rw [exec_Assign_Name_used _ _ _ _ hsw]
  refine wpAny_bind (wpAny_standAt (wpAny_bind ?_))
  show wpAny _ A (do let _ ← comprehension (.ListComp elt [⟨.Name x px, iter, ifs, 0⟩] scope pos) scope env _ (newList []) false (eval iter env) (some (PySem.assign (.Name y py) env))) _ _ s
  refine wpAny_bind (wpAny_mono (compF_gen (Q := fun _ s' => Q .next s') ok hks hcell hnames hx hclos hcl hcm hi hN frc hcap Inv h0 hb hs R hs0 hf fun C D vs m s4 hCp inv hs4 hn4 tA sl rv hC0 => comp_use ok hk hs0 hf hCp hs4 hn4 tA sl rv hC0 fun s' h1 h2 h3 => hq s' .next .next _ m ⟨vs, rfl, rfl, inv⟩ h1 h2 h3 .next) (fun _ s' hq => wpAny_pure (wpAny_pure hq)) fun _ _ e => e)
end
end Mine

-- C15
namespace Mine
/-- lists that were there and may change stay as they are -/
def SX (h : Heap) (mh mh' : MH) : Prop := ∀ a, h.get? a ≠ none → isL (mh a) = true ∨ isL (mh' a) = true → mh' a = mh a
theorem SX.of {h : Heap} {mh mh' : MH} (s : SameL mh mh') : SX h mh mh' := fun a _ e => s a e
theorem SX.trans {ps : List Addr} {h h' : Heap} {a b c : MH} (x : SX h a b) (t : T ps h h') (y : SX h' b c) : SX h a c := fun i e hi => by
  have e' : h'.get? i ≠ none := by
    cases q : h.get? i with
    | none => exact absurd q e
    | some o => obtain ⟨o', q'⟩ := t.live i o q; rw [q']; simp
  rcases hi with hi | hi
  · have := x i e (.inl hi); rw [← this] at hi; exact (y i e' (.inl hi)).trans this
  · have := y i e' (.inr hi); rw [this] at hi; exact this.trans (x i e (.inr hi))
theorem SX.im {h : Heap} {mh mh' : MH} (x : SX h mh mh') {a : Addr} (e : h.get? a ≠ none) (i : Im mh a) : Im mh' a := by
  unfold Im at *
  cases q : isL (mh' a) with
  | false => rfl
  | true => rw [x a e (.inr q), i] at q; cases q
section
variable {g : G} {stk : List Env} {ps qs : List Addr} {n : Nat} {env : Env} {fr : FR} {mh : MH}

theorem T.sx {cs : List Addr} {s : Shared} {h' : Heap} {m' : MH} (hs : H g stk ps mh s) (x : T ps s.heap h') (sl : SX s.heap mh m') (sub : ∀ q ∈ qs, q ∈ ps) : Ts cs qs mh m' s.heap h' where
  nd := fun b o e d _ _ => x.nd b o e d
  nm := fun b hi e => by
    cases q : isM (m' b) with
    | false => rfl
    | true =>
      have e := sl b e (.inr (isL_of q))
      rw [e, hi] at q
      cases q
  nw := fun b hi e => sl.im e hi
  op := fun b e => (sl b (by obtain ⟨_, _, e1⟩ := hs.rep b _ e; rw [e1]; simp) (.inl (by rw [e]; rfl))).trans e
  ns := fun L hL => x.ns L (sub L hL)
  live := x.live

/-- an expression that may make a list of its own -/
def EVX (g : G) (stk : List Env) (ps : List Addr) (n : Nat) (env : Env) (fr : FR) (mh : MH) (e : Expr) (P : AV → MH → Prop) : Prop :=
  ∀ (A : Around) (s : Shared) (Q : Value → Shared → Prop) (E : Value → Shared → Prop), Room n A stk → H g stk ps mh s → FrR env fr mh s.heap →
    (∀ s' v val mh', P v mh' → H g stk ps mh' s' → T ps s.heap s'.heap → SX s.heap mh mh' → RV (Im mh') s'.heap v val → Q val s') → wpAny g.M A (eval e env) Q E s
theorem EVX.of {e : Expr} {P : AV → MH → Prop} (h : EV g stk ps n env fr mh e P) : EVX g stk ps n env fr mh e P := fun A s Q E R hs hf hq => h A s Q E R hs hf fun s' v val m p hs' t sl r => hq s' v val m p hs' t (SX.of sl) r
theorem H.lstNew {s : Shared} (hs : H g stk ps mh s) {t : Nat} : mh s.heap.objs.size = none ∧ H g stk ps (upd mh s.heap.objs.size (.lst [])) { s with heap := s.heap.push { cls := .type "list", data := .seq ([] : List Value).toArray }, toks := t } := by
  have e : s.heap.get? s.heap.objs.size = none := by
    cases q : s.heap.get? s.heap.objs.size with
    | none => rfl
    | some o => exact absurd (Heap.lt_size q) (Nat.lt_irrefl _)
  have mn : mh s.heap.objs.size = none := by
    cases q : mh s.heap.objs.size with
    | none => rfl
    | some o =>
      have r := hs.rep _ o q
      cases o with
      | inst C d at_ => obtain ⟨_, _, ⟨i1, _⟩, _⟩ := r; rw [e] at i1; cases i1
      | lst => obtain ⟨_, _, i1, _⟩ := r; rw [e] at i1; cases i1
      | opq => obtain ⟨_, _, i1⟩ := r; rw [e] at i1; cases i1
  refine ⟨mn, ?_⟩
  have k := hs.keeps (Kp.push s { cls := .type "list", data := .seq ([] : List Value).toArray } t)
  refine ⟨k.stays, k.os, k.bare, fun a o q => ?_, fun a o q => ?_, fun a a' C C' d at_ at' e1 e2 => ?_, k.frm, k.sps, k.psd⟩
  · by_cases z : a = s.heap.objs.size
    · subst z; rw [upd_self] at q; cases q; exact ⟨[], 0, Heap.get?_push_size _ rfl, .nil⟩
    · rw [upd_ne z] at q; exact k.rep a o q
  · by_cases z : a = s.heap.objs.size
    · subst z; rw [upd_self] at q; cases q
      show g.B.get? _ = none
      cases w : g.B.get? s.heap.objs.size with
      | none => rfl
      | some o => have := hs.stays _ _ w; rw [e] at this; cases this
    · rw [upd_ne z] at q; exact k.off a o q
  · have f : ∀ z C at_, upd mh s.heap.objs.size (.lst []) z = some (.inst C d at_) → mh z = some (.inst C d at_) := fun z C at_ q => by
      by_cases y : z = s.heap.objs.size
      · subst y; rw [upd_self] at q; cases q
      · rw [upd_ne y] at q; exact q
    exact hs.inj _ _ _ _ _ _ _ (f _ _ _ e1) (f _ _ _ e2)
theorem sx_lstNew {h : Heap} {a : Addr} (e : h.get? a = none) {o : MO} : SX h mh (upd mh a o) := fun b hb _ => upd_ne fun q => hb (q ▸ e)
theorem EVX.newL {pos : Pos} : EVX g stk ps n env fr mh (.List [] pos) (fun v m => ∃ a, v = .ref a ∧ mh a = none ∧ m = upd mh a (.lst [])) := fun A s Q E R hs hf hq =>
  wpAny_List (wpAny_items_nil ⟨by rw [sizeLine_eq]; simp, by
    obtain ⟨h1, h2⟩ := hs.lstNew (t := s.toks)
    have e : s.heap.get? s.heap.objs.size = none := by
      cases q : s.heap.get? s.heap.objs.size with
      | none => rfl
      | some o => exact absurd (Heap.lt_size q) (Nat.lt_irrefl _)
    exact hq _ (.ref s.heap.objs.size) _ _ ⟨_, rfl, h1, rfl⟩ h2 ((Kp.push s _ s.toks).T ps) (sx_lstNew e) (.ref _)⟩)

def EVXs (g : G) (stk : List Env) (ps : List Addr) (n : Nat) (env : Env) (fr : FR) (mh : MH) (es : List Expr) (P : List AV → MH → Prop) : Prop :=
  ∀ (pos : Pos) (A : Around) (s : Shared) (Q : List Value → Shared → Prop) (E : Value → Shared → Prop), Room n A stk → H g stk ps mh s → FrR env fr mh s.heap →
    (∀ s' vs vals mh', P vs mh' → H g stk ps mh' s' → T ps s.heap s'.heap → SX s.heap mh mh' → RVs (Im mh') s'.heap vs vals → Q vals s') → wpAny g.M A (spliced (backTo pos (starEach es env))) Q E s
theorem EVXs.nil {P : List AV → MH → Prop} (k : P [] mh) : EVXs g stk ps n env fr mh [] P := fun pos A s Q E R hs hf hq =>
  wpAny_items_nil (hq s [] [] mh k hs (T.refl ..) (SX.of (SameL.refl _)) .nil)
theorem frx_next {s s' : Shared} {mh' : MH} (hf : FrR env fr mh s.heap) (t : T ps s.heap s'.heap) (hL : env.locals ∈ ps) (sl : SX s.heap mh mh') : FrR env fr mh' s'.heap := hf.T t hL fun a o e i => sl.im (by rw [e]; simp) i
theorem rvx_next {s s' : Shared} {mh' : MH} {v : AV} {val : Value} (r : RV (Im mh) s.heap v val) (t : T ps s.heap s'.heap) (sl : SX s.heap mh mh') : RV (Im mh') s'.heap v val := r.mono fun a o e d hi => ⟨sl.im (by rw [e]; simp) hi, t.nd a o e d⟩
theorem EVXs.cons {e : Expr} {rest : List Expr} {P1 : AV → MH → Prop} {P : List AV → MH → Prop} (hL : env.locals ∈ ps)
    (h1 : EVX g stk ps n env fr mh e P1) (h2 : ∀ v1 m1, P1 v1 m1 → EVXs g stk ps n env fr m1 rest (fun vs m => P (v1 :: vs) m)) (hu : unstar e = true := by rfl) : EVXs g stk ps n env fr mh (e :: rest) P := fun pos A s Q E R hs hf hq => by
  refine wpAny_items_cons (h1 A s _ E R hs hf fun s1 v1 x1 m1 p1 hs1 t1 sl1 r1 => ?_) (starEach_cons hu)
  refine h2 v1 m1 p1 pos A s1 _ E R hs1 (frx_next hf t1 hL sl1) fun s2 vs vals m2 p2 hs2 t2 sl2 r2 => ?_
  exact hq s2 (v1 :: vs) (x1 :: vals) m2 p2 hs2 (t1.trans t2) (sl1.trans t1 sl2) (.cons (rvx_next r1 t2 sl2) r2)
theorem EVXs.consI {e : Expr} {rest : List Expr} {v1 : AV} {m1 : MH} {P : List AV → MH → Prop} (hL : env.locals ∈ ps)
    (h1 : EV g stk ps n env fr mh e (Is m1 v1)) (h2 : EVXs g stk ps n env fr m1 rest (fun vs m => P (v1 :: vs) m)) (hu : unstar e = true := by rfl) : EVXs g stk ps n env fr mh (e :: rest) P :=
  EVXs.cons hL (EVX.of h1) (by rintro v m ⟨rfl, rfl⟩; exact h2) hu

abbrev NmK (env : Env) (x : Str) : Prop := env.kindOf x = some .local ∨ (env.kindOf x = some .cell ∧ ∃ c, env.cells.lookup x = some c)
/-- names stored one after the other -/
theorem stores {A : Around} {E : Value → Shared → Prop} (ok : EnvOk g env ps qs) : ∀ {xs : List Str} {vs : List AV} {vals : List Value} {ts : List (Value → Sem Unit)} {fr : FR} {s : Shared} {Q : Unit → Shared → Prop}, (∀ x ∈ xs, NmK env x) → xs.length = vs.length → RVs (Im mh) s.heap vs vals → H g stk ps mh s → FrR env fr mh s.heap →
    ts.length = xs.length → (∀ (i : Nat) t x, ts[i]? = some t → xs[i]? = some x → ∀ val s Q, wpAny g.M A (storeName env x val) Q E s → wpAny g.M A (t val) Q E s) →
    (∀ s', H g stk ps mh s' → FrR env ((xs.zip vs).reverse ++ fr) mh s'.heap → Ts (env.cells.map (·.2)) qs mh mh s.heap s'.heap → Q () s') → wpAny g.M A (assignInOrder ts vals) Q E s
  | [], vs, vals, ts, fr, s, Q, _, hl, rv, hs, hf, ht, _, hq => by
    cases ts with
    | nil => exact assignInOrder_nil (hq s hs hf (Ts.refl ..))
    | cons => simp at ht
  | x :: xs, vs, vals, ts, fr, s, Q, hk, hl, rv, hs, hf, ht, htt, hq => by
    cases ts with
    | nil => simp at ht
    | cons t ts =>
    cases rv with
    | nil => simp at hl
    | @cons v val vs vals r rs =>
    refine assignInOrder_cons (htt 0 t x rfl rfl val s _ (store ok (hk x List.mem_cons_self) hs hf r fun s1 hs1 hf1 ts1 => ?_))
    have rs1 : RVs (Im mh) s1.heap vs vals := by
      clear hl hq
      have kk : ∀ a o vs n, s.heap.get? a = some o → o.data = .seq vs n → Im mh a → Im mh a ∧ s1.heap.get? a = some o := fun a o vs n e d i => ⟨i, ts1.nd a o e (nd_seq d) (fun q => by
        obtain ⟨⟨y, c'⟩, hm, rfl⟩ := List.mem_map.mp q
        obtain ⟨v0, o', e', d'⟩ := hf.cel y c' hm
        rw [e] at e'; cases e'; rw [d] at d'; cases d') (isM_of i)⟩
      induction rs with
      | nil => exact .nil
      | cons r _ ih => exact .cons (rv_mono2 r kk) (ih)
    refine stores ok (fun y hy => hk y (List.mem_cons_of_mem _ hy)) (by simpa using hl) rs1 hs1 hf1 (by simpa using ht) (fun i t' x' e1 e2 => htt (i + 1) t' x' (by simpa using e1) (by simpa using e2)) fun s2 hs2 hf2 ts2 => hq s2 hs2 ?_ (ts1.trans ts2)
    rw [List.zip_cons_cons, List.reverse_cons, List.append_assoc]
    exact hf2

def namesOf : List Expr → Option (List Str)
  | [] => some []
  | .Name x _ :: r => (namesOf r).map (x :: ·)
  | _ => none
theorem namesOf_each {env : Env} {A : Around} {E : Value → Shared → Prop} : ∀ {elts : List Expr} {xs : List Str}, namesOf elts = some xs → (assignEach elts env).length = xs.length ∧ ((assignEach elts env).map (·.2)).length = xs.length ∧ (assignEach elts env).findIdx? (·.1) = none ∧
    ∀ (i : Nat) t x, ((assignEach elts env).map (·.2))[i]? = some t → xs[i]? = some x → ∀ val s Q, wpAny g.M A (storeName env x val) Q E s → wpAny g.M A (t val) Q E s
  | [], xs, h => by cases h; exact ⟨rfl, rfl, rfl, fun i t x e => by simp [assignEach] at e⟩
  | e :: r, xs, h => by
    cases e with
    | Name x p =>
      obtain ⟨ys, h', rfl⟩ := Option.map_eq_some_iff.mp h
      obtain ⟨a, b, c, d⟩ := namesOf_each (env := env) (A := A) (E := E) h'
      have e : assignEach (.Name x p :: r) env = (false, assign (.Name x p) env) :: assignEach r env := rfl
      rw [e]
      refine ⟨by simp [a], by simpa using b, by rw [List.findIdx?_cons]; simp [c], fun i t y h1 h2 val s Q hq => ?_⟩
      cases i with
      | zero => simp at h1 h2; subst h1 h2; exact PyProof.Rows.assign_Name hq
      | succ i => exact d i t y (by simpa using h1) (by simpa using h2) val s Q hq
    | _ => simp [namesOf] at h

section
variable {elts es : List Expr} {k k2 : Nat} {tp p2 pos : Pos} {xs : List Str} {rest : List Stmt} {P : FL → FR → MH → Prop} {Pa : List AV → MH → Prop}
theorem ST.tup (ok : EnvOk g env ps qs) (hx : namesOf elts = some xs) (hk : ∀ x ∈ xs, NmK env x) (h : EVXs g stk ps n env fr mh es Pa) (hl : ∀ vs m, Pa vs m → xs.length = vs.length)
    (hq : ∀ vs m, Pa vs m → ST g stk ps qs n env ((xs.zip vs).reverse ++ fr) m rest P)
    (hs : swapsWithSole [.Tuple elts k tp] (.Tuple es k2 p2) pos.line env = pure false := by rfl) (hw : swappedStores [.Tuple elts k tp] (.Tuple es k2 p2) env = pure none := by rfl) (hz : xs.length ≤ 100 := by decide) : ST g stk ps qs n env fr mh (.Assign [.Tuple elts k tp] (.Tuple es k2 p2) pos :: rest) P :=
  ST.cons (P1 := fun fl r m => ∃ vs, Pa vs m ∧ fl = .next ∧ r = (xs.zip vs).reverse ++ fr) (fun A s Q E R hs0 hf hq' => by
    refine PyProof.Rows.Assign_Tuple (wpAny_Tuple_spliced (h p2 A s _ E R hs0 hf fun s1 vs vals m p hs1 t1 sl1 r1 => ?_)) hs hw
    have hlen : vals.length = xs.length := by rw [hl vs m p]; exact (Paired.length r1).symm
    obtain ⟨n1, n2, n3, n4⟩ := namesOf_each (g := g) (env := env) (A := A) (E := E) hx
    refine ⟨by rw [hlen, sizeLine_eq]; omega, ?_⟩
    let o : Obj := { cls := .type "tuple", data := .seq vals.toArray }
    have ht : (s1.heap.push o).IsTuple s1.heap.objs.size vals.toArray := ⟨_, Heap.get?_push_size _ rfl, rfl, _, rfl⟩
    refine wpAny_assign_Tuple R.handled ht (by rw [n1, List.size_toArray, hlen]) n3 fun h' ex => ?_
    have kp : ∀ b o', s1.heap.get? b = some o' → h'.get? b = some o' := fun b o' e => ex b o' (by rw [Heap.size_push]; exact Nat.ne_of_lt (Nat.lt_succ_of_lt (Heap.lt_size e))) (Heap.get?_push_of_some _ e)
    have kk : Kp s1 { s1 with heap := h' } := Kp.of (t := s1.toks) kp
    have t2 := t1.trans (kk.T ps)
    have ts2 : Ts (env.cells.map (·.2)) qs mh m s.heap h' := T.sx hs0 t2 sl1 ok.sub
    refine stores (mh := m) (vs := vs) ok hk (hl vs m p) (RVs.mono r1 fun a o' e d i => ⟨i, kp a o' e⟩) (hs1.keeps kk) (frx_next (s' := { s1 with heap := h' }) hf t2 ok.loc sl1) n2 n4 fun s2 hs2 hf2 ts => ?_
    exact hq' s2 .next .next _ m ⟨vs, p, rfl, rfl⟩ hs2 hf2 (ts2.trans ts) .next) (by rintro r m ⟨vs, p, _, rfl⟩; exact hq vs m p) (by rintro fl r m ⟨vs, p, rfl, _⟩ q; exact absurd rfl q)
theorem paired_rev {X : Addr → Prop} {h : Heap} : ∀ {vs : List AV} {vals : List Value}, RVs X h vs vals → RVs X h vs.reverse vals.reverse
  | _, _, .nil => .nil
  | _, _, .cons r rs => by rw [List.reverse_cons, List.reverse_cons]; exact (paired_rev rs).snoc r
/-- two or three names of one line, stored from the last to the first -/
theorem ST.tupS (ok : EnvOk g env ps qs) (hk : ∀ x ∈ xs, NmK env x) (h : EVXs g stk ps n env fr mh es Pa) (hl : ∀ vs m, Pa vs m → xs.length = vs.length)
    (hq : ∀ vs m, Pa vs m → ST g stk ps qs n env ((xs.reverse.zip vs.reverse).reverse ++ fr) m rest P)
    (hw : swappedStores [.Tuple elts k tp] (.Tuple es k2 p2) env = pure (some xs) := by rfl) (hs : swapsWithSole [.Tuple elts k tp] (.Tuple es k2 p2) pos.line env = pure false := by rfl) (hz : xs.length ≤ 100 := by decide) : ST g stk ps qs n env fr mh (.Assign [.Tuple elts k tp] (.Tuple es k2 p2) pos :: rest) P :=
  ST.cons (P1 := fun fl r m => ∃ vs, Pa vs m ∧ fl = .next ∧ r = (xs.reverse.zip vs.reverse).reverse ++ fr) (fun A s Q E R hs0 hf hq' => by
    refine PyProof.Rows.Assign_Tuple_swapped (names := xs) (wpAny_Tuple_spliced (h p2 A s _ E R hs0 hf fun s1 vs vals m p hs1 t1 sl1 r1 => ?_)) hs hw
    have hlen : vals.length = xs.length := by rw [hl vs m p]; exact (Paired.length r1).symm
    refine ⟨by rw [hlen, sizeLine_eq]; omega, ?_⟩
    let o : Obj := { cls := .type "tuple", data := .seq vals.toArray }
    have ht : (s1.heap.push o).IsTuple s1.heap.objs.size vals.toArray := ⟨_, Heap.get?_push_size _ rfl, rfl, _, rfl⟩
    have he : xs.length = vals.toArray.size := by rw [List.size_toArray, hlen]
    rw [he]
    refine wpAny_unpackItems_tuple R.handled ht fun h' ex => ?_
    have kp : ∀ b o', s1.heap.get? b = some o' → h'.get? b = some o' := fun b o' e => ex b o' (by rw [Heap.size_push]; exact Nat.ne_of_lt (Nat.lt_succ_of_lt (Heap.lt_size e))) (Heap.get?_push_of_some _ e)
    have kk : Kp s1 { s1 with heap := h' } := Kp.of (t := s1.toks) kp
    have t2 := t1.trans (kk.T ps)
    have ts2 : Ts (env.cells.map (·.2)) qs mh m s.heap h' := T.sx hs0 t2 sl1 ok.sub
    refine stores (mh := m) (xs := xs.reverse) (vs := vs.reverse) ok (fun x hx => hk x (List.mem_reverse.mp hx)) (by rw [List.length_reverse, List.length_reverse]; exact hl vs m p) (paired_rev (RVs.mono r1 fun a o' e d i => ⟨i, kp a o' e⟩)) (hs1.keeps kk) (frx_next (s' := { s1 with heap := h' }) hf t2 ok.loc sl1) (by simp) (fun i t x e1 e2 val s Q hst => ?_) fun s2 hs2 hf2 ts => ?_
    · rw [List.getElem?_map, e2] at e1
      cases e1
      exact wpAny_bindName hst
    · exact hq' s2 .next .next _ m ⟨vs, p, rfl, rfl⟩ hs2 hf2 (ts2.trans ts) .next) (by rintro r m ⟨vs, p, _, rfl⟩; exact hq vs m p) (by rintro fl r m ⟨vs, p, rfl, _⟩ q; exact absurd rfl q)
end

theorem ST.stepX {x : Str} {px pos : Pos} {e : Expr} {rest : List Stmt} {P : FL → FR → MH → Prop} {Pe : AV → MH → Prop} (ok : EnvOk g env ps qs) (hk : NmK env x) (h : EVX g stk ps n env fr mh e Pe)
    (k : ∀ v m, Pe v m → ST g stk ps qs n env ((x, v) :: fr) m rest P) (hsw : swapsWith e (some (.Name x px)) pos.line env = pure false := by rfl) : ST g stk ps qs n env fr mh (.Assign [.Name x px] e pos :: rest) P :=
  ST.cons (P1 := fun fl r m => ∃ v, Pe v m ∧ fl = .next ∧ r = (x, v) :: fr) (fun A s Q E R hs hf hq => wpAny_Assign_Name (h A s _ E R hs hf fun s1 v val m p hs1 t1 sl1 r1 =>
    store ok hk hs1 (frx_next hf t1 ok.loc sl1) r1 fun s2 hs2 hf2 ts => hq s2 .next .next _ m ⟨v, p, rfl, rfl⟩ hs2 hf2 ((T.sx hs t1 sl1 ok.sub).trans ts) .next) hsw)
    (by rintro r m ⟨v, p, _, rfl⟩; exact k v m p) (by rintro fl r m ⟨v, p, rfl, _⟩ q; exact absurd rfl q)

/-- a list's items turned -/
theorem H.lst {s : Shared} {h' : Heap} {t : Nat} {a : Addr} {ns ns' : List Int} {vs : List Value} {k : Nat} (hs : H g stk ps mh s) (hm : mh a = some (.lst ns)) (hg : h'.get? a = some (PySem.W.listOf vs.toArray k)) (hi : IntsAre vs ns') (kk : ∀ b o, b ≠ a → s.heap.get? b = some o → h'.get? b = some o) :
    H g stk ps (upd mh a (.lst ns')) { s with heap := h', toks := t } ∧ Ts [] ps mh (upd mh a (.lst ns')) s.heap h' := by
  obtain ⟨vs0, k0, e0, _⟩ := hs.rep a _ hm
  have hB := hs.off a _ hm
  have nps : ∀ L, L ∈ ps → L ≠ a := fun L hL q => by obtain ⟨_, o', es, n, e', d'⟩ := hs.psd _ hL; rw [q, e0] at e'; cases e'; cases d'
  have fin : ∀ z C d at_, upd mh a (.lst ns') z = some (.inst C d at_) → mh z = some (.inst C d at_) := fun z C d at_ q => by
    by_cases y : z = a
    · subst y; rw [upd_self] at q; cases q
    · rw [upd_ne y] at q; exact q
  have imE : ∀ b, isL (upd mh a (.lst ns') b) = isL (mh b) := fun b => by
    by_cases q : b = a
    · subst q; rw [upd_self, hm]; rfl
    · rw [upd_ne q]
  refine ⟨⟨fun b o e => kk b o (fun q => by rw [q, hB] at e; cases e) (hs.stays b o e), hs.os, hs.bare, fun b o e => ?_, fun b o e => ?_, fun x y C C' d at_ at' e1 e2 => hs.inj _ _ _ _ _ _ _ (fin _ _ _ _ e1) (fin _ _ _ _ e2), funFrames_in hs.frm fun L hL o e d => ⟨o, kk L o (nps L (hs.sps L hL)) e, d⟩, hs.sps, fun L hL => ?_⟩, ⟨fun b o e d _ hi => kk b o (fun q => by rw [q, hm] at hi; cases hi) e, fun b hi _ => ?_, fun b hi _ => ?_, fun b e => ?_, fun L hL o es n e d => ⟨o, kk L o (nps L hL) e, d⟩, fun b o e => ?_⟩⟩
  · by_cases q : b = a
    · subst q; rw [upd_self] at e; cases e; exact ⟨vs, k, hg, hi⟩
    · rw [upd_ne q] at e
      have r := hs.rep b o e
      cases o with
      | inst C d at_ =>
        obtain ⟨es, n, ⟨i1, i2⟩, ar⟩ := r
        exact ⟨es, n, ⟨kk _ _ q i1, kk _ _ (fun z => by rw [z, e0] at i2; have := congrArg Obj.data (Option.some.inj i2); cases this) i2⟩, ar⟩
      | lst xs => obtain ⟨vs, n, e1, iv⟩ := r; exact ⟨vs, n, kk _ _ q e1, iv⟩
      | opq => obtain ⟨vs, n, e1⟩ := r; exact ⟨vs, n, kk _ _ q e1⟩
  · by_cases q : b = a
    · subst q; rw [upd_self] at e; cases e; exact hB
    · rw [upd_ne q] at e; exact hs.off b o e
  · obtain ⟨b1, o, es, n, e, d⟩ := hs.psd L hL
    exact ⟨b1, o, es, n, kk L o (nps L hL) e, d⟩
  · by_cases q : b = a
    · subst q; rw [hm] at hi; cases hi
    · rw [upd_ne q]; exact hi
  · unfold Im; rw [imE]; exact hi
  · by_cases q : b = a
    · subst q; rw [hm] at e; cases e
    · rw [upd_ne q]; exact e
  · by_cases q : b = a
    · subst q; exact ⟨_, hg⟩
    · exact ⟨o, kk b o q e⟩
theorem Ts.weakC {cs : List Addr} {m m' : MH} {h h' : Heap} (x : Ts [] ps m m' h h') (sub : ∀ q ∈ qs, q ∈ ps) : Ts cs qs m m' h h' := ⟨fun b o e d _ hi => x.nd b o e d (by simp) hi, x.nm, x.nw, x.op, fun L hL => x.ns L (sub L hL), x.live⟩
/-- a frame beside a list that turned -/
theorem FrR.lst {s : Shared} {h' : Heap} {a : Addr} {ns ns' : List Int} (hs : H g stk ps mh s) (hm : mh a = some (.lst ns)) (hf : FrR env fr mh s.heap) (kk : ∀ b o, b ≠ a → s.heap.get? b = some o → h'.get? b = some o) : FrR env fr (upd mh a (.lst ns')) h' := by
  obtain ⟨vs0, k0, e0, _⟩ := hs.rep a _ hm
  have nd0 : ∀ o vs k, o = PySem.W.listOf vs k → ∀ es n, o.data ≠ .dict es n := fun o vs k q es n z => by subst q; cases z
  have kc : ∀ c v0, s.heap.IsCell c v0 → h'.IsCell c v0 := fun c v0 ⟨o, e, d⟩ => ⟨o, kk c o (fun q => by rw [q, e0] at e; cases e; cases d) e, d⟩
  have kn : ∀ L m, s.heap.Ns L m → h'.Ns L m := fun L m ⟨o, es, ep, e, d, r⟩ => ⟨o, es, ep, kk L o (fun q => by rw [q, e0] at e; cases e; cases d) e, d, r⟩
  refine ⟨(let ⟨m, hm⟩ := hf.loc; ⟨m, kn _ _ hm⟩), fun x c e => (let ⟨v0, hc⟩ := hf.cel x c e; ⟨v0, kc _ _ hc⟩), fun x v e => ?_⟩
  obtain ⟨val, r, rv⟩ := hf.nam x v e
  refine ⟨val, ?_, rv_mono2 rv fun b o vs n e d i => ?_⟩
  · rcases r with ⟨hl, m, hm, hv⟩ | ⟨hl, c, hc, hv⟩
    · exact .inl ⟨hl, m, kn _ _ hm, hv⟩
    · exact .inr ⟨hl, c, hc, kc _ _ hv⟩
  · have ne : b ≠ a := fun q => by unfold Im at i; rw [q, hm] at i; cases i
    exact ⟨by unfold Im; rw [upd_ne ne]; exact i, kk b o ne e⟩
/-- x.append(e) on a list of one's own -/
theorem ST.append {o e : Expr} {ap cp pos : Pos} {a : Addr} {k : Int} {m1 : MH} {ns : List Int} {rest : List Stmt} {P : FL → FR → MH → Prop} (ok : EnvOk g env ps qs) (ho : EV g stk ps n env fr mh o (Is mh (.ref a))) (h : EV g stk ps n env fr mh e (Is m1 (.int k)))
    (hm0 : mh a = some (.lst ns)) (hm : m1 a = some (.lst ns)) (hz : ns.length ≤ 1000) (kq : ST g stk ps qs n env fr (upd m1 a (.lst (ns ++ [k]))) rest P) (hu : unstar e = true := by rfl)
    (he : IsMeth o "append" ap cp [e] env := by exact ⟨_, rfl⟩) (hi : interactive env = false := by rfl) (hsw : swapsWith (.Call (.Attribute o "append" ap) [e] [] cp) none pos.line env = pure false := by rfl) : ST g stk ps qs n env fr mh (.Expr (.Call (.Attribute o "append" ap) [e] [] cp) pos :: rest) P :=
  ST.cons (P1 := fun fl r m => fl = .next ∧ r = fr ∧ m = upd m1 a (.lst (ns ++ [k]))) (fun A s Q E R hs hf hq => by
    obtain ⟨pl, he⟩ := he
    refine wpAny_Expr_any (methodCall_KW (pl := pl) (ho A s _ E R hs hf ?_) he) hi hsw
    rintro s1 v1 x1 m ⟨rfl, rfl⟩ hs1 t1 sl1 r1
    cases r1
    obtain ⟨vs0, k0, e0, _⟩ := hs1.rep a _ hm0
    refine Calls.getMethod_list_append e0 rfl rfl ?_
    rw [starEach_cons hu]
    refine Calls.callWith_builtin rfl (Calls.evalArgs_plain ?_)
    show wpAny _ A (spliced (backTo cp ((false, eval e env) :: starEach [] env))) _ E s1
    rw [← starEach_cons hu]
    refine wpAny_items_cons (h A s1 _ E R hs1 (fr_next hf t1 ok.loc sl1) ?_) (starEach_cons hu)
    rintro s2 v2 x2 m2 ⟨rfl, rfl⟩ hs2 t2 sl2 r2
    cases r2
    rename_i tk
    refine wpAny_items_nil ?_
    obtain ⟨vs, k1, e1, iv⟩ := hs2.rep a _ hm
    refine append_at e1 (fun h' sb hg => ?_) (by rw [List.size_toArray, iv.length, sizeLine_eq]; omega)
    have hg' : h'.get? a = some (PySem.W.listOf (vs ++ [Value.int k tk]).toArray (k1 + 1)) := by rw [hg]; simp [PySem.W.listOf]
    have kk : ∀ b o, b ≠ a → s2.heap.get? b = some o → h'.get? b = some o := fun b o hb e => sb.extBut b o hb e
    obtain ⟨hs3, ts3⟩ := hs2.lst (t := s2.toks) (ns' := ns ++ [k]) hm hg' (iv.append (.cons k tk .nil)) kk
    exact hq _ .next .next fr _ ⟨rfl, rfl, rfl⟩ hs3 (FrR.lst hs2 hm (hf.T (t1.trans t2) ok.loc fun _ _ _ => (sl1.trans sl2).im) kk) (((t1.trans t2).s (sl1.trans sl2) ok.sub).trans (ts3.weakC ok.sub)) .next)
    (by rintro r m ⟨_, rfl, rfl⟩; exact kq) (by rintro fl r m ⟨rfl, _⟩ q; exact absurd rfl q)
theorem ST.brk {pos : Pos} {rest : List Stmt} {P : FL → FR → MH → Prop} (k : P .brk fr mh) : ST g stk ps qs n env fr mh (.Break pos :: rest) P :=
  ST.cons (P1 := fun fl r m => fl = .brk ∧ r = fr ∧ m = mh) (fun A s Q E R hs hf hq => wpAny_Break (hq s .brk .brk fr mh ⟨rfl, rfl, rfl⟩ hs hf (Ts.refl ..) .brk)) (by rintro r m ⟨h, _⟩; cases h) (by rintro fl r m ⟨rfl, rfl, rfl⟩ _; exact k)
theorem ST.cont {pos : Pos} {rest : List Stmt} {P : FL → FR → MH → Prop} (k : P .cont fr mh) : ST g stk ps qs n env fr mh (.Continue pos :: rest) P :=
  ST.cons (P1 := fun fl r m => fl = .cont ∧ r = fr ∧ m = mh) (fun A s Q E R hs hf hq => wpAny_Continue (hq s .cont .cont fr mh ⟨rfl, rfl, rfl⟩ hs hf (Ts.refl ..) .cont)) (by rintro r m ⟨h, _⟩; cases h) (by rintro fl r m ⟨rfl, rfl, rfl⟩ _; exact k)
/-- a loop among the rest -/
theorem ST.for_ {x : Str} {px pos : Pos} {iter : Expr} {body rest : List Stmt} {N : Nat} {item : Nat → AV} {m0 : MH} {P : FL → FR → MH → Prop} (ok : EnvOk g env ps qs) (hk : NmK env x)
    (hi : ITJ g stk ps n env fr mh iter N item m0) (Inv : Nat → FR → MH → Prop) (h0 : Inv 0 fr m0)
    (hb : ∀ i r m, i < N → Inv i r m → ST g stk ps qs n env ((x, item i) :: r) m body (ForP (Inv (i + 1)) (fun fl r m => (fl = .next → ST g stk ps qs n env r m rest P) ∧ (fl ≠ .next → P fl r m))))
    (hd : ∀ r m, Inv N r m → ST g stk ps qs n env r m rest P) (hs : ∀ x, foldedSetIterable iter env x = pure x := by intro _; rfl) : ST g stk ps qs n env fr mh (.For (.Name x px) iter body [] pos :: rest) P :=
  ST.cons (P1 := fun fl r m => (fl = .next → ST g stk ps qs n env r m rest P) ∧ (fl ≠ .next → P fl r m)) (SJ.forW ok hk hi Inv h0 hb (fun r m p => ⟨fun _ => hd r m p, fun q => absurd rfl q⟩) hs) (fun r m p => p.1 rfl) (fun fl r m p q => p.2 q)
/-- only some names looked at -/
theorem ST.sub {fr' : FR} {ss : List Stmt} {P : FL → FR → MH → Prop} (k : ∀ p ∈ fr', fr.lookup p.1 = some p.2) (h : ST g stk ps qs n env fr' mh ss P) : ST g stk ps qs n env fr mh ss P :=
  FrR.weaken h fun x v e => k (x, v) (mem_of_lookup e)
end
end Mine

-- C16
namespace Mine
theorem bindL_out {k : Str → Option NameKind} {x : Str} : ∀ {b : List (Str × Value)} {m : Str → Option Value}, x ∉ b.map (·.1) → bindL k b m x = m x
  | [], _, _ => rfl
  | (n, v) :: r, m, h => by
    have h1 : x ≠ n := fun q => h (by rw [q]; exact List.mem_cons_self)
    have h2 : x ∉ r.map (·.1) := fun q => h (List.mem_cons_of_mem _ q)
    show bindL k r _ x = m x
    rw [bindL_out h2]
    split
    · exact if_neg h1
    · rfl
theorem bindL_in {k : Str → Option NameKind} {x : Str} {v : Value} (hk : k x = some .local) : ∀ {b : List (Str × Value)} {m : Str → Option Value}, (b.map (·.1)).Nodup → (x, v) ∈ b → bindL k b m x = some v
  | (n, u) :: r, m, hn, h => by
    rw [List.map_cons, List.nodup_cons] at hn
    show bindL k r _ x = some v
    rcases List.mem_cons.mp h with q | q
    · cases q
      rw [bindL_out hn.1, if_pos hk, if_pos rfl]
    · exact bindL_in hk hn.2 q
theorem bindC_out {k : Str → Option NameKind} {x : Str} : ∀ {b : List (Str × Value)} {m : Str → Option Value}, x ∉ b.map (·.1) → bindC k b m x = m x
  | [], _, _ => rfl
  | (n, v) :: r, m, h => by
    have h1 : x ≠ n := fun q => h (by rw [q]; exact List.mem_cons_self)
    have h2 : x ∉ r.map (·.1) := fun q => h (List.mem_cons_of_mem _ q)
    show bindC k r _ x = m x
    rw [bindC_out h2]
    split
    · rfl
    · exact if_neg h1
theorem bindC_in {k : Str → Option NameKind} {x : Str} {v : Value} (hk : k x ≠ some .local) : ∀ {b : List (Str × Value)} {m : Str → Option Value}, (b.map (·.1)).Nodup → (x, v) ∈ b → bindC k b m x = some v
  | (n, u) :: r, m, hn, h => by
    rw [List.map_cons, List.nodup_cons] at hn
    show bindC k r _ x = some v
    rcases List.mem_cons.mp h with q | q
    · cases q
      rw [bindC_out hn.1, if_neg hk, if_pos rfl]
    · exact bindC_in hk hn.2 q
theorem zip_mem {X : Addr → Prop} {h : Heap} {x : Str} {v : AV} : ∀ {names : List Str} {as : List AV} {vals : List Value}, RVs X h as vals → (names.zip as).lookup x = some v → ∃ val, (x, val) ∈ names.zip vals ∧ RV X h v val
  | [], _, _, _, e => by cases e
  | _ :: _, _, _, .nil, e => by cases e
  | y :: names, _, _, .cons r rs, e => by
    rw [List.zip_cons_cons, List.lookup_cons] at e
    rw [List.zip_cons_cons]
    split at e
    · rename_i q
      cases e
      rw [beq_iff_eq.mp q]
      exact ⟨_, List.mem_cons_self, r⟩
    · obtain ⟨val, hm, rv⟩ := zip_mem rs e
      exact ⟨val, List.mem_cons_of_mem _ hm, rv⟩
theorem zip_fst : ∀ {names : List Str} {vals : List Value}, names.length = vals.length → (names.zip vals).map (·.1) = names
  | [], [], _ => rfl
  | _ :: _, _ :: _, h => by rw [List.zip_cons_cons, List.map_cons, zip_fst (by simpa using h)]

theorem pair_inj {a b : Str × Addr} : ∀ {cs : List (Str × Addr)}, (cs.Pairwise fun x y => x.2 ≠ y.2) → a ∈ cs → b ∈ cs → a.2 = b.2 → a = b
  | c :: cs, h, ha, hb, e => by
    rw [List.pairwise_cons] at h
    rcases List.mem_cons.mp ha with q1 | q1 <;> rcases List.mem_cons.mp hb with q2 | q2
    · rw [q1, q2]
    · exact absurd e (by rw [q1]; exact h.1 b q2)
    · exact absurd e.symm (by rw [q2]; exact h.1 a q1)
    · exact pair_inj h.2 q1 q2 e
section
variable {g : G} {n : Nat} {mh : MH}
theorem CA.defC {f : Addr} {fd : FuncData} {body : List Stmt} {as : List AV} {P : AV → MH → Prop} (SB : St0 g g.B)
    (ho : ∃ oc od osl, g.K.lookup f = some ⟨oc, od, .func fd, osl⟩) (hcd : codeIn g.K fd.code fd.qualname = true) (hbody : fd.body = .stmts body)
    (hk : fd.scope.kind = .function) (hco : fd.scope.isCoroutine = false) (hgen : fd.scope.isGenerator = false) (hgl : fd.globals = mainGlobals) (hbl : fd.builtins = builtinsNs) (hcl : fd.closure = [])
    (hcm : ∀ (L : Nat) x c, (x, c) ∈ cellsFrom (L + 1) fd.scope.names [] → (cellsFrom (L + 1) fd.scope.names []).lookup x = some c)
    (hnd : (argNames fd).Nodup) (hkind : ∀ x ∈ argNames fd, fd.scope.names.lookup x = some .local ∨ (fd.scope.names.lookup x = some .cell ∧ ∀ L : Nat, ((cellsFrom (L + 1) fd.scope.names []).lookup x).isSome = true)) (hal : (argNames fd).length = as.length)
    (hbind : ∀ (vals : List Value), vals.length = as.length → bindArgs fd ⟨vals, []⟩ = pure ((argNames fd).zip vals))
    (hb : ∀ (L : Addr) (stk : List Env) (ps : List Addr), L ∉ ps → EnvOk g (callEnvC fd L f) (L :: ps) ps → ST g (callEnvC fd L f :: stk) (L :: ps) ps n (callEnvC fd L f) ((argNames fd).zip as) (hideL mh) body (fun fl r m => ∃ m1, m = hideL m1 ∧ SameL mh m1 ∧ P (retOf fl) m1)) :
    CA g (n + 1) (.ref f) as mh P := fun stk ps A s vals R Rm hs ra hq => by
  obtain ⟨oc, od, osl, ho⟩ := ho
  have S := SB.keeps hs.stays
  have hvl : vals.length = as.length := (Paired.length ra).symm
  have hzf : ((argNames fd).zip vals).map (·.1) = argNames fd := zip_fst (by rw [hal, hvl])
  refine codeAny_call_cells (fd := fd) (body := body) (binds := (argNames fd).zip vals) (by have := Rm.depth; omega) (S.kin _ _ ho) rfl S.nl (codeRec_of S.kin hcd) hbody (hbind vals hvl) hcl (fun x hx => (hkind x.1 (List.of_mem_zip hx).1).imp id fun z => ⟨z.1, z.2 _⟩) (fun s₁ ic => ?_) hco hgen hk
  obtain ⟨h₀, tk, rfl, hkp⟩ := ic.done
  have hns : h₀.Ns s.heap.objs.size (bindL (callEnvC fd s.heap.objs.size f).kindOf ((argNames fd).zip vals) fun _ => none) := ic.toInCall.ns
  have none_at : ∀ c, s.heap.objs.size ≤ c → s.heap.get? c = none := fun c hc => by
    cases q : s.heap.get? c with
    | none => rfl
    | some o => exact absurd (Heap.lt_size q) (Nat.not_lt.mpr hc)
  have hLn := none_at _ (Nat.le_refl _)
  have hLp : s.heap.objs.size ∉ ps := fun q => by obtain ⟨_, o, _, _, e, _⟩ := hs.psd _ q; rw [hLn] at e; cases e
  have bn : ∀ c, s.heap.get? c = none → g.B.get? c = none := fun c hc => by
    cases q : g.B.get? c with
    | none => rfl
    | some o => have := hs.stays _ _ q; rw [hc] at this; cases this
  have hBn := bn _ hLn
  have cells : (callEnvC fd s.heap.objs.size f).cells = cellsFrom (s.heap.objs.size + 1) fd.scope.names [] := rfl
  have cnone : ∀ x c, (x, c) ∈ (callEnvC fd s.heap.objs.size f).cells → s.heap.get? c = none := fun x c hc => none_at c (Nat.le_of_lt (ic.above x c hc))
  have cinj : ∀ x y c, (x, c) ∈ (callEnvC fd s.heap.objs.size f).cells → (y, c) ∈ (callEnvC fd s.heap.objs.size f).cells → x = y := fun x y c h1 h2 => by
    have := pair_inj ic.apart h1 h2 rfl
    cases this; rfl
  have ok : EnvOk g (callEnvC fd s.heap.objs.size f) (s.heap.objs.size :: ps) ps := ⟨hk, hgl, hbl, List.mem_cons_self, hLp, fun q hq => List.mem_cons_of_mem _ hq, fun x c e => bn c (cnone x c (mem_of_lookup e)), fun x y c e1 e2 => cinj x y c (mem_of_lookup e1) (mem_of_lookup e2)⟩
  have hh := hs.hide
  obtain ⟨oL, esL, nL, eL, dL, rL⟩ := id hns
  have hs0 : H g (callEnvC fd s.heap.objs.size f :: stk) (s.heap.objs.size :: ps) (hideL mh) { s with heap := h₀, toks := tk } := by
    have k := hh.keeps (Kp.of (s := s) (t := tk) hkp)
    refine ⟨k.stays, k.os, k.bare, k.rep, fun a o e => ?_, k.inj, ⟨by show fd.scope.kind ≠ .module; rw [hk]; decide, ⟨_, oL, rfl, hBn, eL, fun vs z => by rw [dL] at z; cases z⟩, k.frm⟩, fun L hL => ?_, fun L hL => ?_⟩
    · have r := hh.off a o e
      cases o with
      | inst C d at_ =>
        refine ⟨r.1, r.2.1, fun q => ?_, r.2.2.2⟩
        rcases List.mem_cons.mp q with q | q
        · obtain ⟨_, _, ⟨_, i2⟩, _⟩ := hh.rep a _ e; rw [q, hLn] at i2; cases i2
        · exact r.2.2.1 q
      | lst => exact r
      | opq => trivial
    · rw [List.filterMap_cons] at hL
      rcases List.mem_cons.mp (show L ∈ s.heap.objs.size :: stk.filterMap (·.frame) from hL) with q | q
      · rw [q]; exact List.mem_cons_self
      · exact List.mem_cons_of_mem _ (hs.sps L q)
    · rcases List.mem_cons.mp hL with q | q
      · rw [q]; exact ⟨hBn, oL, esL, nL, eL, dL⟩
      · exact k.psd L q
  have hf0 : FrR (callEnvC fd s.heap.objs.size f) ((argNames fd).zip as) (hideL mh) h₀ := by
    refine ⟨⟨_, hns⟩, fun x c e => ⟨_, ic.cell x c (hcm _ x c e)⟩, fun x v e => ?_⟩
    obtain ⟨val, hm, rv⟩ := zip_mem ra e
    have hx := (List.of_mem_zip hm).1
    refine ⟨val, ?_, rv.mono fun a o e d hi => ⟨hideL_im.mpr hi, hkp a o e⟩⟩
    rcases hkind x hx with kl | ⟨kc, ks⟩
    · exact .inl ⟨kl, _, hns, bindL_in kl (by rw [hzf]; exact hnd) hm⟩
    · obtain ⟨c, hc⟩ := Option.isSome_iff_exists.mp (ks s.heap.objs.size)
      refine .inr ⟨.inl kc, c, hc, ?_⟩
      have := ic.cell x c hc
      rwa [bindC_in (v := val) (by show fd.scope.names.lookup x ≠ _; rw [kc]; simp) (by rw [hzf]; exact hnd) hm] at this
  refine hb s.heap.objs.size stk ps hLp ok (A.deeper (callEnvC fd s.heap.objs.size f)) _ _ _ (Rm.deeper _) hs0 hf0 fun s' fl fv r m0 p hs' hf' ts flr => ?_
  obtain ⟨m1, rfl, sl, p⟩ := p
  have keep : ∀ b o, s.heap.get? b = some o → nd o → s'.heap.get? b = some o := fun b o e d => ts.nd b o (hkp b o e) d (fun q => by
    obtain ⟨⟨y, c'⟩, hm, rfl⟩ := List.mem_map.mp q
    rw [cnone y c' hm] at e; cases e) (hideL_noM b)
  have hres : H g stk ps m1 s' := by
    have e1 := back_hide_of sl
    have un : ∀ a o, m1 a = some o → isL (some o) = false → hideL m1 a = some o := fun a o e i => by unfold hideL; rw [e]; cases o <;> first | rfl | cases i
    have eqL : ∀ a o, m1 a = some o → isL (some o) = true → mh a = some o := fun a o e i => by rw [← sl a (.inr (by rw [e]; exact i))]; exact e
    refine ⟨hs'.stays, hs'.os, hs'.bare, fun a o e => ?_, fun a o e => ?_, fun x y C C' d at_ at' e1 e2 => hs'.inj x y C C' d at_ at' (un _ _ e1 rfl) (un _ _ e2 rfl), hs'.frm.2.2, fun L hL => hs.sps L hL, fun L hL => hs'.psd L (List.mem_cons_of_mem _ hL)⟩
    · cases o with
      | inst C d at_ => exact hs'.rep a _ (un _ _ e rfl)
      | lst xs => obtain ⟨vs, n, e1, iv⟩ := hs.rep a _ (eqL a _ e rfl); exact ⟨vs, n, keep _ _ e1 nd_list, iv⟩
      | opq => obtain ⟨vs, n, e1⟩ := hs.rep a _ (eqL a _ e rfl); exact ⟨vs, n, keep _ _ e1 nd_list⟩
    · cases o with
      | inst C d at_ => have r := hs'.off a _ (un _ _ e rfl); exact ⟨r.1, r.2.1, fun q => r.2.2.1 (List.mem_cons_of_mem _ q), r.2.2.2⟩
      | lst xs => exact hs.off a _ (eqL a _ e rfl)
      | opq => trivial
  have tt : T ps s.heap s'.heap := ⟨keep, fun L hL o es k e d => ts.ns L hL o es k (hkp _ _ e) d, fun b o e => ts.live b o (hkp _ _ e)⟩
  have im : ∀ a, Im (hideL m1) a → Im m1 a := fun a i => hideL_im.mp i
  cases flr with
  | ret rv => exact hq s' _ _ _ p hres tt sl (rv.mono fun a o e d i => ⟨im a i, e⟩)
  | next => exact hq s' .none .none _ p hres tt sl .none
  | brk => exact hq s' .none .none _ p hres tt sl .none
  | cont => exact hq s' .none .none _ p hres tt sl .none
end
end Mine

-- C17
namespace Mine
section
variable {g : G} {stk : List Env} {ps qs : List Addr} {n : Nat} {env : Env} {fr : FR} {mh : MH}
/-- a comprehension whose items turn nothing -/
theorem EV.compP {elt iter : Expr} {x : Str} {px pos : Pos} {scope : Scope} {N : Nat} {item : Nat → AV} {m0 : MH} (cl : List (Str × Addr)) (frc : FR) (val : Nat → AV) (ok : EnvOk g env ps qs) (hi : ITJ g stk ps n env fr mh iter N item m0) (hN : N ≤ 1000) (hF : ∀ i, i < N → Flat (val i))
    (hb : ∀ C i, i < N → EnvOk g (compEnvC scope cl C env) (C :: ps) ps → EV g stk (C :: ps) n (compEnvC scope cl C env) ((x, item i) :: frc) m0 elt (Is m0 (val i)))
    (hclos : closureFor scope env = pure cl := by with_unfolding_all rfl) (hks : scope.kind = .function := by rfl) (hcell : ∀ y ∈ scope.names, y.2 ≠ .cell := by decide) (hnames : ∀ y ∈ scope.names, y.2 = .local → scope.names.lookup y.1 = some .local := by decide) (hx : scope.names.lookup x = some .local := by rfl)
    (hcl : ∀ p ∈ cl, env.cells.lookup p.1 = some p.2 := by (intro p hp; first | exact absurd hp List.not_mem_nil | (simp only [List.mem_cons, List.not_mem_nil, or_false] at hp; first | (rcases hp with rfl | rfl <;> rfl) | (subst hp; rfl))))
    (hcap : ∀ p ∈ frc, fr.lookup p.1 = some p.2 ∧ Cap env scope cl p.1 := by (intro p hp; first | exact absurd hp List.not_mem_nil | (simp only [List.mem_cons, List.not_mem_nil, or_false] at hp; first | (rcases hp with rfl | rfl <;> exact ⟨rfl, ⟨⟨_, rfl, rfl⟩, .inl rfl, .inl rfl⟩⟩) | (subst hp; exact ⟨rfl, ⟨⟨_, rfl, rfl⟩, .inl rfl, .inl rfl⟩⟩))))
    (hs : ∀ x, foldedSetIterable iter env x = pure x := by intro _; rfl) :
    EV g stk ps n env fr mh (.ListComp elt [⟨.Name x px, iter, [], 0⟩] scope pos) (Is m0 (.list ((List.range N).map val))) := by
  refine EV.mono (EV.compF ok hks hcell hnames hx hclos (fun y c e => hcl (y, c) (mem_of_lookup e)) (fun y c e => mem_of_lookup (hcl (y, c) e)) hi hN frc (fun y v e => hcap (y, v) (mem_of_lookup e)) (fun i vs m => m = m0 ∧ vs = (List.range i).map val) ⟨rfl, rfl⟩ ?_ hs) ?_
  · rintro C i vs m hC cok hlt ⟨e, rfl⟩
    have e := e.symm
    subst e
    refine ⟨_, TJs.nil, (fun m' z => by cases z.1), ?_⟩
    rintro m' ⟨_, rfl⟩
    refine EV.mono (hb C i hlt cok) ?_
    rintro v m ⟨rfl, rfl⟩
    exact ⟨hF i hlt, rfl, by rw [List.range_succ, List.map_append]; rfl⟩
  · rintro v m ⟨vs, rfl, rfl, rfl⟩
    exact ⟨rfl, rfl⟩

theorem take_il (ns : List Int) (b : Nat) : (il ns).take b = il (ns.take b) := by unfold il; rw [List.map_take]
theorem drop_il (ns : List Int) (b : Nat) : (il ns).drop b = il (ns.drop b) := by unfold il; rw [List.map_drop]
theorem il_append (a b : List Int) : il a ++ il b = il (a ++ b) := by unfold il; rw [List.map_append]
theorem il_len {ns : List Int} : (il ns).length = ns.length := by unfold il; rw [List.length_map]
theorem il_get {ns : List Int} {i : Nat} (hi : i < ns.length) : (il ns)[i]? = some (.int (ns.getD i 0)) := by
  unfold il
  rw [List.getElem?_map, List.getElem?_eq_getElem hi, List.getD_eq_getElem?_getD, List.getElem?_eq_getElem hi]; rfl
theorem il_getD {ns : List Int} {i : Nat} (hi : i < ns.length) : (il ns).getD i .none = .int (ns.getD i 0) := by
  rw [List.getD_eq_getElem?_getD, il_get hi]; rfl
def bl (bs : List Bool) : List AV := bs.map .bool
theorem bl_len {bs : List Bool} : (bl bs).length = bs.length := by unfold bl; rw [List.length_map]
theorem bl_get {bs : List Bool} {i : Nat} (hi : i < bs.length) : (bl bs)[i]? = some (.bool (bs.getD i false)) := by
  unfold bl
  rw [List.getElem?_map, List.getElem?_eq_getElem hi, List.getD_eq_getElem?_getD, List.getElem?_eq_getElem hi]; rfl
variable {m0 m1 m2 : MH}
theorem EV.sliceToI {e u : Expr} {p pos : Pos} {v : AV} {ns : List Int} {b : Nat} (hL : env.locals ∈ ps) (h1 : EV g stk ps n env fr mh e (Is m1 v)) (h2 : EV g stk ps n env fr m1 u (Is m2 (.int b))) (lv : LV m2 v (il ns)) (hz : ns.length ≤ 1000)
    (ht : ∀ o r, letTemporaryGo e o r = pure () := by intro _ _; rfl) : EV g stk ps n env fr mh (.Subscript e (.Slice none (some u) none p) pos) (Is m2 (.list (il (ns.take b)))) := by
  have h := EV.sliceTo (p := p) (pos := pos) hL h1 h2 lv (by rw [il_len]; exact hz) ht
  rwa [take_il] at h
theorem EV.sliceFromI {e u : Expr} {p pos : Pos} {v : AV} {ns : List Int} {b : Nat} (hL : env.locals ∈ ps) (h1 : EV g stk ps n env fr mh e (Is m1 v)) (h2 : EV g stk ps n env fr m1 u (Is m2 (.int b))) (lv : LV m2 v (il ns)) (hz : ns.length ≤ 1000) (hb : b ≤ ns.length)
    (ht : ∀ o r, letTemporaryGo e o r = pure () := by intro _ _; rfl) : EV g stk ps n env fr mh (.Subscript e (.Slice (some u) none none p) pos) (Is m2 (.list (il (ns.drop b)))) := by
  have h := EV.sliceFrom (p := p) (pos := pos) hL h1 h2 lv (by rw [il_len]; exact hz) (by rw [il_len]; exact hb) ht
  rwa [drop_il] at h
theorem EV.lenI {e : Expr} {px pos : Pos} {v : AV} {ns : List Int} (SB : St0 g g.B) (b : BN g env "len" (.builtin "len")) (h1 : EV g stk ps n env fr mh e (Is m1 v)) (lv : LV m1 v (il ns)) (hz : ns.length ≤ 1000) (hu : unstar e = true := by rfl) : EV g stk ps n env fr mh (.Call (.Name "len" px) [e] [] pos) (Is m1 (.int ns.length)) := by
  have h := EV.len (px := px) (pos := pos) SB b h1 lv (by rw [il_len]; exact hz) hu
  rwa [il_len] at h
theorem EV.idxI {e i : Expr} {pos : Pos} {v : AV} {ns : List Int} {k : Int} (hL : env.locals ∈ ps) (h1 : EV g stk ps n env fr mh e (Is m1 v)) (h2 : EV g stk ps n env fr m1 i (Is m2 (.int k))) (lv : LV m2 v (il ns)) (h0 : 0 ≤ k) (hk : k < ns.length) (hz : ns.length ≤ 1000)
    (hs : ∀ a t, subscripted i false (.ref a) (.int k t) = operate [.ref a, .int k t] (getItem (.ref a) (.int k t)) := by intro _ _; with_unfolding_all rfl) (ht : ∀ a r, letTemporaryGo e (.ref a) r = pure () := by intro _ _; with_unfolding_all rfl) : EV g stk ps n env fr mh (.Subscript e i pos) (Is m2 (.int (ns.getD k.toNat 0))) :=
  EV.idx hL h1 h2 lv (.inl ⟨h0, il_get (by omega)⟩) (by rw [il_len]; exact hz) hs ht
theorem EV.idxB {e i : Expr} {pos : Pos} {v : AV} {bs : List Bool} {k : Int} (hL : env.locals ∈ ps) (h1 : EV g stk ps n env fr mh e (Is m1 v)) (h2 : EV g stk ps n env fr m1 i (Is m2 (.int k))) (lv : LV m2 v (bl bs)) (h0 : 0 ≤ k) (hk : k < bs.length) (hz : bs.length ≤ 1000)
    (hs : ∀ a t, subscripted i false (.ref a) (.int k t) = operate [.ref a, .int k t] (getItem (.ref a) (.int k t)) := by intro _ _; with_unfolding_all rfl) (ht : ∀ a r, letTemporaryGo e (.ref a) r = pure () := by intro _ _; with_unfolding_all rfl) : EV g stk ps n env fr mh (.Subscript e i pos) (Is m2 (.bool (bs.getD k.toNat false))) :=
  EV.idx hL h1 h2 lv (.inl ⟨h0, bl_get (by omega)⟩) (by rw [bl_len]; exact hz) hs ht
theorem range_il {ns : List Int} {f : Int → AV} : (List.range (il ns).length).map (fun i => f (ns.getD i 0)) = ns.map f := by
  apply List.ext_getElem
  · simp [il]
  · intro i h1 h2
    have hi : i < ns.length := by simpa [il] using h1
    simp [il, List.getD_eq_getElem?_getD, List.getElem?_eq_getElem hi]
/-- a comprehension over ints -/
theorem EV.compL {elt iter : Expr} {x : Str} {px pos : Pos} {scope : Scope} {ns : List Int} (cl : List (Str × Addr)) (frc : FR) (val : Int → AV) (ok : EnvOk g env ps qs) (hi : EV g stk ps n env fr mh iter (Is m0 (.list (il ns)))) (hN : ns.length ≤ 1000) (hF : ∀ k ∈ ns, Flat (val k))
    (hb : ∀ C k, k ∈ ns → EnvOk g (compEnvC scope cl C env) (C :: ps) ps → EV g stk (C :: ps) n (compEnvC scope cl C env) ((x, .int k) :: frc) m0 elt (Is m0 (val k)))
    (hclos : closureFor scope env = pure cl := by with_unfolding_all rfl) (hks : scope.kind = .function := by rfl) (hcell : ∀ y ∈ scope.names, y.2 ≠ .cell := by decide) (hnames : ∀ y ∈ scope.names, y.2 = .local → scope.names.lookup y.1 = some .local := by decide) (hx : scope.names.lookup x = some .local := by rfl)
    (hcl : ∀ p ∈ cl, env.cells.lookup p.1 = some p.2 := by (intro p hp; first | exact absurd hp List.not_mem_nil | (simp only [List.mem_cons, List.not_mem_nil, or_false] at hp; first | (rcases hp with rfl | rfl <;> rfl) | (subst hp; rfl))))
    (hcap : ∀ p ∈ frc, fr.lookup p.1 = some p.2 ∧ Cap env scope cl p.1 := by (intro p hp; first | exact absurd hp List.not_mem_nil | (simp only [List.mem_cons, List.not_mem_nil, or_false] at hp; first | (rcases hp with rfl | rfl <;> exact ⟨rfl, ⟨⟨_, rfl, rfl⟩, .inl rfl, .inl rfl⟩⟩) | (subst hp; exact ⟨rfl, ⟨⟨_, rfl, rfl⟩, .inl rfl, .inl rfl⟩⟩))))
    (hs : ∀ x, foldedSetIterable iter env x = pure x := by intro _; rfl) :
    EV g stk ps n env fr mh (.ListComp elt [⟨.Name x px, iter, [], 0⟩] scope pos) (Is m0 (.list (ns.map val))) := by
  have mem : ∀ i, i < ns.length → ns.getD i 0 ∈ ns := fun i hi => by rw [List.getD_eq_getElem?_getD, List.getElem?_eq_getElem hi]; exact List.getElem_mem _
  have h := EV.compP (px := px) (pos := pos) (fr := fr) cl frc (fun i => val (ns.getD i 0)) ok (ITJ.list hi) (by rw [il_len]; exact hN) (fun i hi => hF _ (mem i (by rwa [il_len] at hi))) (fun C i hi cok => by
    rw [il_len] at hi
    rw [il_getD hi]
    exact hb C _ (mem i hi) cok) hclos hks hcell hnames hx hcl hcap hs
  rwa [range_il] at h
/-- a comprehension over a range -/
theorem EV.compR {elt e : Expr} {x : Str} {px pos rp rpos : Pos} {scope : Scope} {k : Int} (SB : St0 g g.B) (b : BN g env "range" (.type "range")) (cl : List (Str × Addr)) (frc : FR) (val : Nat → AV) (ok : EnvOk g env ps qs) (hi : EV g stk ps n env fr mh e (Is m0 (.int k))) (h0 : 0 ≤ k) (hN : k ≤ 1000) (hF : ∀ i, i < k.toNat → Flat (val i))
    (hb : ∀ C (i : Nat), i < k.toNat → EnvOk g (compEnvC scope cl C env) (C :: ps) ps → EV g stk (C :: ps) n (compEnvC scope cl C env) ((x, .int i) :: frc) m0 elt (Is m0 (val i)))
    (hu : unstar e = true := by rfl)
    (hclos : closureFor scope env = pure cl := by with_unfolding_all rfl) (hks : scope.kind = .function := by rfl) (hcell : ∀ y ∈ scope.names, y.2 ≠ .cell := by decide) (hnames : ∀ y ∈ scope.names, y.2 = .local → scope.names.lookup y.1 = some .local := by decide) (hx : scope.names.lookup x = some .local := by rfl)
    (hcl : ∀ p ∈ cl, env.cells.lookup p.1 = some p.2 := by (intro p hp; first | exact absurd hp List.not_mem_nil | (simp only [List.mem_cons, List.not_mem_nil, or_false] at hp; first | (rcases hp with rfl | rfl <;> rfl) | (subst hp; rfl))))
    (hcap : ∀ p ∈ frc, fr.lookup p.1 = some p.2 ∧ Cap env scope cl p.1 := by (intro p hp; first | exact absurd hp List.not_mem_nil | (simp only [List.mem_cons, List.not_mem_nil, or_false] at hp; first | (rcases hp with rfl | rfl <;> exact ⟨rfl, ⟨⟨_, rfl, rfl⟩, .inl rfl, .inl rfl⟩⟩) | (subst hp; exact ⟨rfl, ⟨⟨_, rfl, rfl⟩, .inl rfl, .inl rfl⟩⟩)))) :
    EV g stk ps n env fr mh (.ListComp elt [⟨.Name x px, .Call (.Name "range" rp) [e] [] rpos, [], 0⟩] scope pos) (Is m0 (.list ((List.range k.toNat).map val))) :=
  EV.compP cl frc val ok (ITJ.range1 SB b hi (by omega) hN hu) (by omega) hF (fun C i hi cok => by
    have := hb C i hi cok
    rwa [← Int.zero_add (i : Int)] at this) hclos hks hcell hnames hx hcl hcap (by intro _; rfl)

/-- the same, taken at once by a name -/
theorem ST.compP {elt iter : Expr} {x y : Str} {px py pos spos : Pos} {rest : List Stmt} {P : FL → FR → MH → Prop} {scope : Scope} {N : Nat} {item : Nat → AV} {m0 : MH} (cl : List (Str × Addr)) (frc : FR) (val : Nat → AV) (ok : EnvOk g env ps qs) (hi : ITJ g stk ps n env fr mh iter N item m0) (hN : N ≤ 1000) (hF : ∀ i, i < N → Flat (val i))
    (hb : ∀ C i, i < N → EnvOk g (compEnvC scope cl C env) (C :: ps) ps → EV g stk (C :: ps) n (compEnvC scope cl C env) ((x, item i) :: frc) m0 elt (Is m0 (val i)))
    (hclos : closureFor scope env = pure cl := by with_unfolding_all rfl) (hks : scope.kind = .function := by rfl) (hcell : ∀ y ∈ scope.names, y.2 ≠ .cell := by decide) (hnames : ∀ y ∈ scope.names, y.2 = .local → scope.names.lookup y.1 = some .local := by decide) (hx : scope.names.lookup x = some .local := by rfl)
    (hcl : ∀ p ∈ cl, env.cells.lookup p.1 = some p.2 := by (intro p hp; first | exact absurd hp List.not_mem_nil | (simp only [List.mem_cons, List.not_mem_nil, or_false] at hp; first | (rcases hp with rfl | rfl <;> rfl) | (subst hp; rfl))))
    (hcap : ∀ p ∈ frc, fr.lookup p.1 = some p.2 ∧ Cap env scope cl p.1 := by (intro p hp; first | exact absurd hp List.not_mem_nil | (simp only [List.mem_cons, List.not_mem_nil, or_false] at hp; first | (rcases hp with rfl | rfl <;> exact ⟨rfl, ⟨⟨_, rfl, rfl⟩, .inl rfl, .inl rfl⟩⟩) | (subst hp; exact ⟨rfl, ⟨⟨_, rfl, rfl⟩, .inl rfl, .inl rfl⟩⟩))))
    (hs : ∀ x, foldedSetIterable iter env x = pure x := by intro _; rfl) (hk : NmK env y := by first | exact .inl rfl | exact .inr ⟨rfl, _, rfl⟩) (hsw : swapsWith (.ListComp elt [⟨.Name x px, iter, [], 0⟩] scope pos) (some (.Name y py)) spos.line env = pure true := by rfl)
    (kq : ST g stk ps qs n env ((y, .list ((List.range N).map val)) :: fr) m0 rest P) :
    ST g stk ps qs n env fr mh (.Assign [.Name y py] (.ListComp elt [⟨.Name x px, iter, [], 0⟩] scope pos) spos :: rest) P := by
  refine ST.cons (SJ.compF ok hk hks hcell hnames hx hclos (fun y c e => hcl (y, c) (mem_of_lookup e)) (fun y c e => mem_of_lookup (hcl (y, c) e)) hi hN frc (fun y v e => hcap (y, v) (mem_of_lookup e)) (fun i vs m => m = m0 ∧ vs = (List.range i).map val) ⟨rfl, rfl⟩ ?_ hs hsw) ?_ ?_
  · rintro C i vs m hC cok hlt ⟨e, rfl⟩
    have e := e.symm
    subst e
    refine ⟨_, TJs.nil, (fun m' z => by cases z.1), ?_⟩
    rintro m' ⟨_, rfl⟩
    refine EV.mono (hb C i hlt cok) ?_
    rintro v m ⟨rfl, rfl⟩
    exact ⟨hF i hlt, rfl, by rw [List.range_succ, List.map_append]; rfl⟩
  · rintro r m ⟨vs, _, rfl, rfl, rfl⟩
    exact kq
  · rintro fl r m ⟨vs, rfl, _⟩ q
    exact absurd rfl q

/-- a comprehension over ints -/
theorem ST.compL {elt iter : Expr} {x y : Str} {px py pos spos : Pos} {rest : List Stmt} {P : FL → FR → MH → Prop} {scope : Scope} {ns : List Int} (cl : List (Str × Addr)) (frc : FR) (val : Int → AV) (ok : EnvOk g env ps qs) (hi : EV g stk ps n env fr mh iter (Is m0 (.list (il ns)))) (hN : ns.length ≤ 1000) (hF : ∀ k ∈ ns, Flat (val k))
    (hb : ∀ C k, k ∈ ns → EnvOk g (compEnvC scope cl C env) (C :: ps) ps → EV g stk (C :: ps) n (compEnvC scope cl C env) ((x, .int k) :: frc) m0 elt (Is m0 (val k)))
    (hclos : closureFor scope env = pure cl := by with_unfolding_all rfl) (hks : scope.kind = .function := by rfl) (hcell : ∀ y ∈ scope.names, y.2 ≠ .cell := by decide) (hnames : ∀ y ∈ scope.names, y.2 = .local → scope.names.lookup y.1 = some .local := by decide) (hx : scope.names.lookup x = some .local := by rfl)
    (hcl : ∀ p ∈ cl, env.cells.lookup p.1 = some p.2 := by (intro p hp; first | exact absurd hp List.not_mem_nil | (simp only [List.mem_cons, List.not_mem_nil, or_false] at hp; first | (rcases hp with rfl | rfl <;> rfl) | (subst hp; rfl))))
    (hcap : ∀ p ∈ frc, fr.lookup p.1 = some p.2 ∧ Cap env scope cl p.1 := by (intro p hp; first | exact absurd hp List.not_mem_nil | (simp only [List.mem_cons, List.not_mem_nil, or_false] at hp; first | (rcases hp with rfl | rfl <;> exact ⟨rfl, ⟨⟨_, rfl, rfl⟩, .inl rfl, .inl rfl⟩⟩) | (subst hp; exact ⟨rfl, ⟨⟨_, rfl, rfl⟩, .inl rfl, .inl rfl⟩⟩))))
    (hs : ∀ x, foldedSetIterable iter env x = pure x := by intro _; rfl) (hk : NmK env y := by first | exact .inl rfl | exact .inr ⟨rfl, _, rfl⟩) (hsw : swapsWith (.ListComp elt [⟨.Name x px, iter, [], 0⟩] scope pos) (some (.Name y py)) spos.line env = pure true := by rfl)
    (kq : ST g stk ps qs n env ((y, .list (ns.map val)) :: fr) m0 rest P) :
    ST g stk ps qs n env fr mh (.Assign [.Name y py] (.ListComp elt [⟨.Name x px, iter, [], 0⟩] scope pos) spos :: rest) P := by
  have mem : ∀ i, i < ns.length → ns.getD i 0 ∈ ns := fun i hi => by rw [List.getD_eq_getElem?_getD, List.getElem?_eq_getElem hi]; exact List.getElem_mem _
  refine ST.compP (px := px) (pos := pos) (fr := fr) cl frc (fun i => val (ns.getD i 0)) ok (ITJ.list hi) (by rw [il_len]; exact hN) (fun i hi => hF _ (mem i (by rwa [il_len] at hi))) (fun C i hi cok => by
    rw [il_len] at hi
    rw [il_getD hi]
    exact hb C _ (mem i hi) cok) hclos hks hcell hnames hx hcl hcap hs hk hsw (by rw [range_il]; exact kq)

/-- a comprehension over a range -/
theorem ST.compR {elt e : Expr} {x y : Str} {px py pos spos rp rpos : Pos} {rest : List Stmt} {P : FL → FR → MH → Prop} {scope : Scope} {k : Int} (SB : St0 g g.B) (b : BN g env "range" (.type "range")) (cl : List (Str × Addr)) (frc : FR) (val : Nat → AV) (ok : EnvOk g env ps qs) (hi : EV g stk ps n env fr mh e (Is m0 (.int k))) (h0 : 0 ≤ k) (hN : k ≤ 1000) (hF : ∀ i, i < k.toNat → Flat (val i))
    (hb : ∀ C (i : Nat), i < k.toNat → EnvOk g (compEnvC scope cl C env) (C :: ps) ps → EV g stk (C :: ps) n (compEnvC scope cl C env) ((x, .int i) :: frc) m0 elt (Is m0 (val i)))
    (hu : unstar e = true := by rfl)
    (hclos : closureFor scope env = pure cl := by with_unfolding_all rfl) (hks : scope.kind = .function := by rfl) (hcell : ∀ y ∈ scope.names, y.2 ≠ .cell := by decide) (hnames : ∀ y ∈ scope.names, y.2 = .local → scope.names.lookup y.1 = some .local := by decide) (hx : scope.names.lookup x = some .local := by rfl)
    (hcl : ∀ p ∈ cl, env.cells.lookup p.1 = some p.2 := by (intro p hp; first | exact absurd hp List.not_mem_nil | (simp only [List.mem_cons, List.not_mem_nil, or_false] at hp; first | (rcases hp with rfl | rfl <;> rfl) | (subst hp; rfl))))
    (hcap : ∀ p ∈ frc, fr.lookup p.1 = some p.2 ∧ Cap env scope cl p.1 := by (intro p hp; first | exact absurd hp List.not_mem_nil | (simp only [List.mem_cons, List.not_mem_nil, or_false] at hp; first | (rcases hp with rfl | rfl <;> exact ⟨rfl, ⟨⟨_, rfl, rfl⟩, .inl rfl, .inl rfl⟩⟩) | (subst hp; exact ⟨rfl, ⟨⟨_, rfl, rfl⟩, .inl rfl, .inl rfl⟩⟩)))) (hk : NmK env y := by first | exact .inl rfl | exact .inr ⟨rfl, _, rfl⟩) (hsw : swapsWith (.ListComp elt [⟨.Name x px, .Call (.Name "range" rp) [e] [] rpos, [], 0⟩] scope pos) (some (.Name y py)) spos.line env = pure true := by rfl)
    (kq : ST g stk ps qs n env ((y, .list ((List.range k.toNat).map val)) :: fr) m0 rest P) :
    ST g stk ps qs n env fr mh (.Assign [.Name y py] (.ListComp elt [⟨.Name x px, .Call (.Name "range" rp) [e] [] rpos, [], 0⟩] scope pos) spos :: rest) P :=
  ST.compP cl frc val ok (ITJ.range1 SB b hi (by omega) hN hu) (by omega) hF (fun C i hi cok => by
    have := hb C i hi cok
    rwa [← Int.zero_add (i : Int)] at this) hclos hks hcell hnames hx hcl hcap (by intro _; rfl) hk hsw kq

theorem ITJ.rangeN {e : Expr} {rp pos : Pos} {k : Int} {m : MH} (SB : St0 g g.B) (b : BN g env "range" (.type "range")) (h : EV g stk ps n env fr mh e (Is m (.int k))) (hk : -1000 ≤ k) (hk2 : k ≤ 1000) (hu : unstar e = true := by rfl) :
    ITJ g stk ps n env fr mh (.Call (.Name "range" rp) [e] [] pos) k.toNat (fun i => .int i) m := by
  have h := ITJ.range1 (rp := rp) (pos := pos) SB b h hk hk2 hu
  rwa [show (fun i : Nat => AV.int (0 + (i : Int))) = fun i : Nat => AV.int (i : Int) from funext fun i => by rw [Int.zero_add]] at h
theorem ST.ifE {test : Expr} {body orelse rest : List Stmt} {pos : Pos} {P : FL → FR → MH → Prop} (ok : EnvOk g env ps qs) (h : TJ g stk ps n env fr mh test (Tst m1 false)) (k : ST g stk ps qs n env fr m1 orelse (fun fl r m => (fl = .next → ST g stk ps qs n env r m rest P) ∧ (fl ≠ .next → P fl r m))) : ST g stk ps qs n env fr mh (.If test body orelse pos :: rest) P :=
  ST.cons (SJ.if_ (P := fun fl r m => (fl = .next → ST g stk ps qs n env r m rest P) ∧ (fl ≠ .next → P fl r m)) ok h (by rintro m ⟨e, _⟩; cases e) (by rintro m ⟨_, rfl⟩; exact k)) (fun r m p => p.1 rfl) (fun fl r m p q => p.2 q)
end
end Mine

-- C18
namespace Mine
theorem IntsAre.setN : ∀ {vs : List Value} {ns : List Int}, PyProof.Rows.IntsAre vs ns → ∀ (j : Nat) (k : Int) (t : Tok), PyProof.Rows.IntsAre (vs.set j (.int k t)) (ns.set j k)
  | _, _, .nil, j, k, t => by rw [List.set_nil, List.set_nil]; exact .nil
  | _, _, .cons n t0 h, 0, k, t => .cons k t h
  | _, _, .cons n t0 h, j + 1, k, t => .cons n t0 (IntsAre.setN h j k t)
section
variable {g : G} {stk : List Env} {ps qs : List Addr} {n : Nat} {env : Env} {fr : FR} {mh : MH}
/-- x[i] = e on a list of one's own -/
theorem ST.setItem2 {o i e : Expr} {p' pos : Pos} {a : Addr} {k j : Int} {m1 m2 : MH} {ns : List Int} {rest : List Stmt} {P : FL → FR → MH → Prop} (ok : EnvOk g env ps qs) (h : EV g stk ps n env fr mh e (Is m1 (.int k))) (ho : EV g stk ps n env fr m1 o (Is m1 (.ref a))) (hi : EV g stk ps n env fr m1 i (Is m2 (.int j)))
    (hm : m2 a = some (.lst ns)) (hz : ns.length ≤ 1000) (h0 : 0 ≤ j) (h1 : j < ns.length) (kq : ST g stk ps qs n env fr (upd m2 a (.lst (ns.set j.toNat k))) rest P)
    (hsw : swapsWith e (some (.Subscript o i p')) pos.line env = pure false := by rfl) : ST g stk ps qs n env fr mh (.Assign [.Subscript o i p'] e pos :: rest) P :=
  ST.cons (P1 := fun fl r m => fl = .next ∧ r = fr ∧ m = upd m2 a (.lst (ns.set j.toNat k))) (fun A s Q E R hs hf hq => by
    refine wpAny_Assign_Subscript (h A s _ E R hs hf ?_) hsw
    rintro s1 v1 x1 m ⟨rfl, rfl⟩ hs1 t1 sl1 r1
    cases r1
    rename_i tk
    have hf1 := fr_next hf t1 ok.loc sl1
    refine ho A s1 _ E R hs1 hf1 ?_
    rintro s2 v2 x2 m ⟨rfl, rfl⟩ hs2 t2 sl2 r2
    cases r2
    have hf2 := fr_next hf1 t2 ok.loc sl2
    refine hi A s2 _ E R hs2 hf2 ?_
    rintro s3 v3 x3 m ⟨rfl, rfl⟩ hs3 t3 sl3 r3
    cases r3
    obtain ⟨vs, k1, e1, iv⟩ := hs3.rep a _ hm
    have hln : vs.length = ns.length := iv.length
    refine ki_setAt e1 h0 (by omega) (by rw [List.size_toArray]; omega) ?_
    have hg' : (s3.heap.update a (Obj.mapSeq (·.setIfInBounds j.toNat (Value.int k tk)))).get? a = some (PySem.W.listOf (vs.set j.toNat (Value.int k tk)).toArray k1) := by
      rw [Heap.get?_update_self _ e1 rfl]
      simp [Obj.mapSeq, PySem.W.listOf]
    have kk : ∀ b o, b ≠ a → s3.heap.get? b = some o → (s3.heap.update a (Obj.mapSeq (·.setIfInBounds j.toNat (Value.int k tk)))).get? b = some o := fun b o hb e => (Heap.SameBut.update ..).extBut b o hb e
    obtain ⟨hs4, ts4⟩ := hs3.lst (t := s3.toks) (ns' := ns.set j.toNat k) hm hg' (IntsAre.setN iv _ _ _) kk
    exact hq _ .next .next fr _ ⟨rfl, rfl, rfl⟩ hs4 (FrR.lst hs3 hm (fr_next hf2 t3 ok.loc sl3) kk) ((((t1.trans t2).trans t3).s ((sl1.trans sl2).trans sl3) ok.sub).trans (ts4.weakC ok.sub)) .next)
    (by rintro r m ⟨_, rfl, rfl⟩; exact kq) (by rintro fl r m ⟨rfl, _⟩ q; exact absurd rfl q)
end
end Mine

-- C19
namespace Mine
section
variable {g : G} {stk : List Env} {ps qs : List Addr} {n : Nat} {env : Env} {fr : FR} {mh : MH}
theorem ints_rep (t : Tok) (c : Int) : ∀ k, PyProof.Rows.IntsAre (List.replicate k (Value.int c t)) (List.replicate k c)
  | 0 => .nil
  | k + 1 => .cons c t (ints_rep t c k)
/-- a new list of one's own, with items -/
theorem H.lstNew2 {s : Shared} (hs : H g stk ps mh s) {t : Nat} {ns : List Int} {vs : List Value} (hi : PyProof.Rows.IntsAre vs ns) : mh s.heap.objs.size = none ∧ s.heap.get? s.heap.objs.size = none ∧ H g stk ps (upd mh s.heap.objs.size (.lst ns)) { s with heap := s.heap.push { cls := .type "list", data := .seq vs.toArray }, toks := t } := by
  have e : s.heap.get? s.heap.objs.size = none := by
    cases q : s.heap.get? s.heap.objs.size with
    | none => rfl
    | some o => exact absurd (Heap.lt_size q) (Nat.lt_irrefl _)
  have mn : mh s.heap.objs.size = none := by
    cases q : mh s.heap.objs.size with
    | none => rfl
    | some o =>
      have r := hs.rep _ o q
      cases o with
      | inst C d at_ => obtain ⟨_, _, ⟨i1, _⟩, _⟩ := r; rw [e] at i1; cases i1
      | lst => obtain ⟨_, _, i1, _⟩ := r; rw [e] at i1; cases i1
      | opq => obtain ⟨_, _, i1⟩ := r; rw [e] at i1; cases i1
  refine ⟨mn, e, ?_⟩
  have k := hs.keeps (Kp.push s { cls := .type "list", data := .seq vs.toArray } t)
  refine ⟨k.stays, k.os, k.bare, fun a o q => ?_, fun a o q => ?_, fun a a' C C' d at_ at' e1 e2 => ?_, k.frm, k.sps, k.psd⟩
  · by_cases z : a = s.heap.objs.size
    · subst z; rw [upd_self] at q; cases q; exact ⟨vs, 0, Heap.get?_push_size _ rfl, hi⟩
    · rw [upd_ne z] at q; exact k.rep a o q
  · by_cases z : a = s.heap.objs.size
    · subst z; rw [upd_self] at q; cases q
      show g.B.get? _ = none
      cases w : g.B.get? s.heap.objs.size with
      | none => rfl
      | some o => have := hs.stays _ _ w; rw [e] at this; cases this
    · rw [upd_ne z] at q; exact k.off a o q
  · have f : ∀ z C at_, upd mh s.heap.objs.size (.lst ns) z = some (.inst C d at_) → mh z = some (.inst C d at_) := fun z C at_ q => by
      by_cases y : z = s.heap.objs.size
      · subst y; rw [upd_self] at q; cases q
      · rw [upd_ne y] at q; exact q
    exact hs.inj _ _ _ _ _ _ _ (f _ _ _ e1) (f _ _ _ e2)
/-- [c] * e as a list of one's own -/
theorem EVX.rep {c : Int} {k : Nat} {pl pc pos : Pos} {e : Expr} {j : Int} (hL : env.locals ∈ ps) (h : EV g stk ps n env fr mh e (Is mh (.int j))) (h0 : 0 ≤ j) (hj : j ≤ 1000) :
    EVX g stk ps n env fr mh (.BinOp (.List [.Constant (.int c) k pc] pl) .Mult e pos) (fun v m => ∃ a, v = .ref a ∧ mh a = none ∧ m = upd mh a (.lst (List.replicate j.toNat c))) := fun A s Q E R hs hf hq => by
  refine wpAny_BinOp (wpAny_List (wpAny_items_cons (wpAny_Constant_int (wpAny_items_nil ⟨by rw [sizeLine_eq]; show (1 : Nat) ≤ _; decide, ?_⟩)) rfl))
  have hs1 := hs.keeps (Kp.push s { cls := .type "list", data := .seq #[.int c s.toks] } (s.toks + 1))
  have t1 : T ps s.heap (s.heap.push { cls := .type "list", data := .seq #[.int c s.toks] }) := (Kp.push s { cls := .type "list", data := .seq #[.int c s.toks] } (s.toks + 1)).T ps
  have g1 : (s.heap.push { cls := .type "list", data := .seq #[.int c s.toks] }).get? s.heap.objs.size = some { cls := .type "list", data := .seq #[.int c s.toks] } := Heap.get?_push_size _ rfl
  refine h A _ _ E R hs1 (fr_next hf t1 hL (SameL.refl _)) ?_
  rintro s2 v2 x2 m2 ⟨rfl, rfl⟩ hs2 t2 sl2 r2
  cases r2
  rename_i u
  have hl := t2.nd _ _ g1 (nd_seq rfl)
  have hm : (#[Value.int c s.toks] : Array Value).size * j.toNat ≤ 1000 := by show 1 * j.toNat ≤ 1000; omega
  refine wpAny_binaryOp_repeat_ref (T := "list") (U := "int") (by decide) ⟨_, hl, rfl⟩ (fun s' => typeIs_int s' j u) noFill_list_mul PySem.F.fills_int_mul PySem.F.slot_int_rmul repeat_list PySem.F.slot_int_index.lookup
    (call_meets PySem.F.slot_int_rmul (typeIs_int s2 j u) PySem.F.entry_int_rmul (PySem.F.args_int_rmul_2 _ _) (int___rmul___int_list j u _ _ _)
      ⟨hl, rfl, ⟨_, hl, rfl⟩, call_meets PySem.F.slot_list_mul ⟨_, hl, rfl⟩ PySem.F.entry_list_mul (PySem.F.args_list_mul_2 _ _)
        (AutoListH.list___mul___list_int_3 _ _ _ j u (by simp [Builtin.List.listFitsIndex]; omega) (by omega) (by simp [Builtin.List.listTooLong, sizeLine]; omega))
        ⟨hl, ?_⟩⟩)
  rw [foldl_rep]
  simp only [Array.isEmpty, List.size_toArray, List.length_cons, List.length_nil]
  have e2 : (#[] ++ (List.replicate (if decide ((0 : Nat) + 1 = 0) = true then 0 else j.toNat) (#[Value.int c s.toks] : Array Value).toList).flatten.toArray : Array Value) = (List.replicate j.toNat (Value.int c s.toks)).toArray := by
    simp
  obtain ⟨mn, nn, hs3⟩ := hs2.lstNew2 (t := s2.toks) (ints_rep s.toks c j.toNat)
  have fin := hq _ (.ref s2.heap.objs.size) (.ref s2.heap.objs.size) _ ⟨_, rfl, mn, rfl⟩ hs3 ((t1.trans t2).trans ((Kp.push s2 _ s2.toks).T ps)) ((SX.of sl2).trans (t1.trans t2) (sx_lstNew nn)) (.ref _)
  rw [← e2] at fin
  exact fin
end
end Mine

-- C20
namespace Mine
theorem il_map {α : Type} (f : α → Int) (l : List α) : il (l.map f) = l.map fun x => .int (f x) := by unfold il; rw [List.map_map]; rfl
theorem bl_map {α : Type} (f : α → Bool) (l : List α) : bl (l.map f) = l.map fun x => .bool (f x) := by unfold bl; rw [List.map_map]; rfl
theorem bl_append (a b : List Bool) : bl a ++ bl b = bl (a ++ b) := by unfold bl; rw [List.map_append]
theorem sub_cons {x : Str} {v : AV} {b r : FR} (h : ∀ p ∈ b, r.lookup p.1 = some p.2) (hx : ∀ p ∈ b, p.1 ≠ x) : ∀ p ∈ (x, v) :: b, ((x, v) :: r).lookup p.1 = some p.2 := fun p hp => by
  rcases List.mem_cons.mp hp with rfl | hp
  · simp [List.lookup_cons]
  · rw [List.lookup_cons]
    have : (p.1 == x) = false := by simpa using hx p hp
    rw [this]; exact h p hp
theorem getD_at {α : Type} {l : List α} {i : Nat} {d : α} (h : i < l.length) : l.getD i d = l[i] := by rw [List.getD_eq_getElem?_getD, List.getElem?_eq_getElem h]; rfl
section
variable {g : G} {stk : List Env} {ps : List Addr} {n : Nat} {env : Env} {fr : FR} {mh m1 m2 : MH}
theorem EVs.three {e f k : Expr} {u v z : AV} {m2 m3 : MH} (hL : env.locals ∈ ps) (hu : unstar e = true) (hu' : unstar f = true) (hu'' : unstar k = true) (h : EV g stk ps n env fr mh e (Is m1 v)) (h' : EV g stk ps n env fr m1 f (Is m2 u)) (h'' : EV g stk ps n env fr m2 k (Is m3 z)) : EVs g stk ps n env fr mh [e, f, k] (fun vs m => vs = [v, u, z] ∧ m = m3) :=
  EVs.cons (P2 := fun _ vs m => vs = [u, z] ∧ m = m3) hL hu h (by rintro _ _ ⟨rfl, rfl⟩; exact EVs.two hL hu' hu'' h' h'') (by rintro v1 m2 vs m3 ⟨rfl, rfl⟩ ⟨rfl, rfl⟩; exact ⟨rfl, rfl⟩)
theorem EVs.four {e f k q : Expr} {u v z y : AV} {m2 m3 m4 : MH} (hL : env.locals ∈ ps) (hu : unstar e = true) (hu' : unstar f = true) (hu'' : unstar k = true) (hu3 : unstar q = true) (h : EV g stk ps n env fr mh e (Is m1 v)) (h' : EV g stk ps n env fr m1 f (Is m2 u)) (h'' : EV g stk ps n env fr m2 k (Is m3 z)) (h3 : EV g stk ps n env fr m3 q (Is m4 y)) : EVs g stk ps n env fr mh [e, f, k, q] (fun vs m => vs = [v, u, z, y] ∧ m = m4) :=
  EVs.cons (P2 := fun _ vs m => vs = [u, z, y] ∧ m = m4) hL hu h (by rintro _ _ ⟨rfl, rfl⟩; exact EVs.three hL hu' hu'' hu3 h' h'' h3) (by rintro v1 m2 vs m3 ⟨rfl, rfl⟩ ⟨rfl, rfl⟩; exact ⟨rfl, rfl⟩)
theorem EV.nilL {pos : Pos} : EV g stk ps n env fr mh (.List [] pos) (Is mh (.list [])) := EV.list EVs.nil (by rintro vs m ⟨rfl, rfl⟩; exact ⟨by simp, rfl, rfl⟩)
theorem EV.oneL {e : Expr} {pos : Pos} {v : AV} (hL : env.locals ∈ ps) (h : EV g stk ps n env fr mh e (Is m1 v)) (hu : unstar e = true := by rfl) : EV g stk ps n env fr mh (.List [e] pos) (Is m1 (.list [v])) := EV.list (EVs.one hL hu h) (by rintro vs m ⟨rfl, rfl⟩; exact ⟨by simp, rfl, rfl⟩)
theorem TJ.andF1 {x y : Expr} {pos : Pos} (hL : env.locals ∈ ps) (h1 : TJ g stk ps n env fr mh x (Tst m1 false)) : TJ g stk ps n env fr mh (.BoolOp .And [x, y] pos) (Tst m1 false) :=
  TJ.and2 hL h1 (by rintro m ⟨_, rfl⟩; exact ⟨rfl, rfl⟩) (by rintro m ⟨e, _⟩; cases e)
theorem TJ.andT2 {x y : Expr} {pos : Pos} {b : Bool} (hL : env.locals ∈ ps) (h1 : TJ g stk ps n env fr mh x (Tst m1 true)) (h2 : TJ g stk ps n env fr m1 y (Tst m2 b)) : TJ g stk ps n env fr mh (.BoolOp .And [x, y] pos) (Tst m2 b) :=
  TJ.and2 hL h1 (by rintro m ⟨e, _⟩; cases e) (by rintro m ⟨_, rfl⟩; exact h2)
theorem TJ.or3I {x y z : Expr} {pos : Pos} {b : Bool} {m3 : MH} (hL : env.locals ∈ ps) (h1 : TJ g stk ps n env fr mh x (Tst m1 false)) (h2 : TJ g stk ps n env fr m1 y (Tst m2 false)) (h3 : TJ g stk ps n env fr m2 z (Tst m3 b)) : TJ g stk ps n env fr mh (.BoolOp .Or [x, y, z] pos) (Tst m3 b) :=
  TJ.or3 (P1 := Tst m1 false) (P2 := Tst m2 false) hL h1 (by rintro m ⟨e, _⟩; cases e) (by rintro m ⟨_, rfl⟩; exact h2) (by rintro m ⟨e, _⟩; cases e) (by rintro m ⟨_, rfl⟩; exact h3)
end
end Mine

-- C21
namespace Mine
section
variable {g : G} {stk : List Env} {ps qs : List Addr} {n : Nat} {env : Env} {fr : FR} {mh : MH}
/-- an expression whose lists are all new -/
def EVN (g : G) (stk : List Env) (ps : List Addr) (n : Nat) (env : Env) (fr : FR) (mh : MH) (e : Expr) (P : AV → MH → Prop) : Prop :=
  ∀ (A : Around) (s : Shared) (Q : Value → Shared → Prop) (E : Value → Shared → Prop), Room n A stk → H g stk ps mh s → FrR env fr mh s.heap →
    (∀ s' v val mh', P v mh' → H g stk ps mh' s' → T ps s.heap s'.heap → SameL mh mh' → RV (fun a => Im mh' a ∧ s.heap.get? a = none) s'.heap v val → Q val s') → wpAny g.M A (eval e env) Q E s
theorem EVN.ev {e : Expr} {P : AV → MH → Prop} (h : EVN g stk ps n env fr mh e P) : EV g stk ps n env fr mh e P := fun A s Q E R hs hf hq =>
  h A s Q E R hs hf fun s' v val m p hs' t sl r => hq s' v val m p hs' t sl (rv_mono2 r fun a o vs k e d hx => ⟨hx.1, e⟩)
theorem EVN.flat {e : Expr} {P : AV → MH → Prop} (h : EV g stk ps n env fr mh e (fun v m => Flat v ∧ P v m)) : EVN g stk ps n env fr mh e P := fun A s Q E R hs hf hq =>
  h A s Q E R hs hf fun s' v val m p hs' t sl r => hq s' v val m p.2 hs' t sl (p.1.any r)
theorem EVN.mono {e : Expr} {P P' : AV → MH → Prop} (h : EVN g stk ps n env fr mh e P) (k : ∀ v m, P v m → P' v m) : EVN g stk ps n env fr mh e P' :=
  fun A s Q E R hs hf hq => h A s Q E R hs hf fun s' v val mh' p => hq s' v val mh' (k v mh' p)
theorem compN_gen {elt iter : Expr} {x : Str} {px pos : Pos} {ifs : List Expr} {scope : Scope} {cl : List (Str × Addr)} {N : Nat} {item : Nat → AV} {m0 : MH} (ok : EnvOk g env ps qs)
    (hks : scope.kind = .function) (hcell : ∀ y ∈ scope.names, y.2 ≠ .cell) (hnames : ∀ y ∈ scope.names, y.2 = .local → scope.names.lookup y.1 = some .local) (hx : scope.names.lookup x = some .local)
    (hclos : closureFor scope env = pure cl) (hcl : ∀ y c, cl.lookup y = some c → env.cells.lookup y = some c) (hcm : ∀ y c, (y, c) ∈ cl → (y, c) ∈ env.cells) (hi : ITJ g stk ps n env fr mh iter N item m0) (hN : N ≤ 1000) (frc : FR)
    (hcap : ∀ y v, frc.lookup y = some v → fr.lookup y = some v ∧ Cap env scope cl y)
    (Inv : Nat → List AV → MH → Prop) (h0 : Inv 0 [] m0)
    (hb : ∀ C i vs m, C ∉ ps → EnvOk g (compEnvC scope cl C env) (C :: ps) ps → i < N → Inv i vs m → ∃ PT : Bool → MH → Prop, TJs g stk (C :: ps) n (compEnvC scope cl C env) ((x, item i) :: frc) m ifs PT ∧ (∀ m', PT false m' → Inv (i + 1) vs m') ∧
      (∀ m', PT true m' → EVN g stk (C :: ps) n (compEnvC scope cl C env) ((x, item i) :: frc) m' elt (fun v m'' => Inv (i + 1) (vs ++ [v]) m'')))
    (hs : ∀ x, foldedSetIterable iter env x = pure x) {pos' : Pos} {use : Option (Value → Sem Unit)} {A : Around} {s : Shared} {Q : Value → Shared → Prop} {E : Value → Shared → Prop} (R : Room n A stk) (hs0 : H g stk ps mh s) (hf : FrR env fr mh s.heap)
    (hfin : ∀ C D vs m s4, C ∉ ps → Inv N vs m → H g stk (C :: ps) m s4 → (∃ mm, s4.heap.Ns C mm) → T ps s.heap s4.heap → SameL mh m → RV (fun a => Im m a ∧ s.heap.get? a = none) s4.heap (.list vs) (.ref D) → s.heap.get? C = none → compPost g.M A E use Q (.ref D) C (.ok .next) s4) :
    wpAny g.M A (comprehension (.ListComp elt [⟨.Name x px, iter, ifs, 0⟩] scope pos) scope env pos' (newList []) false (eval iter env) use) Q E s := by
  refine wpAny_comprehension_free (use := use) rfl hs hclos hks hnames (hi A s _ E R hs0 hf fun s2 it St W st0 hs2 t2 sl2 hnew => ?_)
  have hf2 := fr_next hf t2 ok.loc sl2
  refine wpAny_newObj_type (wpAny_newFunctionEnv hcell (by intro y hy; cases hy) (fun h1 hns1 hsb1 => ?_) hks)
  dsimp only at hns1 hsb1 ⊢
  generalize hH2 : s2.heap.push { cls := .type "list", dict := none, data := .seq ([] : List Value).toArray } = H2 at hns1 hsb1 ⊢
  have hC : H2.objs.size = s2.heap.objs.size + 1 := by rw [← hH2, Heap.size_push]
  generalize hCe : H2.objs.size = C at hns1 hsb1 hC ⊢
  generalize hDe : s2.heap.objs.size = D at hC ⊢
  have fresh : ∀ a, D ≤ a → s2.heap.get? a = none := fun a ha => by
    cases e : s2.heap.get? a with
    | none => rfl
    | some o' => have := Heap.lt_size e; rw [hDe] at this; exact absurd this (Nat.not_lt.mpr ha)
  have nC := fresh C (by rw [hC]; exact Nat.le_succ _)
  have nD := fresh D (Nat.le_refl _)
  have hDC : D ≠ C := by rw [hC]; exact Nat.ne_of_lt (Nat.lt_succ_self _)
  have ex2 : ∀ b o, s2.heap.get? b = some o → b ≠ C ∧ b ≠ D := fun b o e => ⟨(fun q => by rw [q, nC] at e; cases e), (fun q => by rw [q, nD] at e; cases e)⟩
  have old : ∀ b o, s2.heap.get? b = some o → h1.get? b = some o := fun b o e => hsb1.extBut b o (ex2 b o e).1 (Heap.get?_push_of_some _ (hH2 ▸ Heap.get?_push_of_some _ e))
  have hD1 : h1.get? D = some (listOf #[] 0) := hsb1.extBut _ _ hDC (Heap.get?_push_of_some _ (by rw [← hH2, ← hDe]; exact Heap.get?_push_size _ rfl))
  have nB : ∀ a, s2.heap.get? a = none → g.B.get? a = none := fun a ha => by
    cases q : g.B.get? a with
    | none => rfl
    | some o => have := hs2.stays _ _ q; rw [ha] at this; cases this
  have nS : ∀ a, s2.heap.get? a = none → s.heap.get? a = none := fun a ha => by
    cases q : s.heap.get? a with
    | none => rfl
    | some o => obtain ⟨o', e'⟩ := t2.live _ _ q; rw [ha] at e'; cases e'
  have hCp : C ∉ ps := fun q => by obtain ⟨_, o, _, _, e, _⟩ := hs2.psd _ q; rw [nC] at e; cases e
  have hitB : g.B.get? it = none := by
    cases q : g.B.get? it with
    | none => rfl
    | some o => have := hs0.stays _ _ q; rw [hnew] at this; cases this
  have obi := W.ob 0 _ st0
  have itCD : it ≠ C ∧ it ≠ D := by obtain ⟨o, _, e, _⟩ := obi; exact ex2 _ _ e
  have cok := cenv_ok ok hks hCp hcl
  have kx : (compEnvC scope cl C env).kindOf x = some .local := lookup_relabel_local hx
  have hh1 : H g stk (C :: ps) m0 { s2 with heap := h1, toks := s2.toks + ([] : List (Str × Value)).length } := by
    have k := hs2.keeps (Kp.of (t := s2.toks + ([] : List (Str × Value)).length) old)
    refine ⟨k.stays, k.os, k.bare, k.rep, fun a o e => ?_, k.inj, k.frm, fun L hL => List.mem_cons_of_mem _ (k.sps L hL), fun L hL => ?_⟩
    · have r := k.off a o e
      cases o with
      | inst C' d at_ =>
        refine ⟨r.1, r.2.1, fun q => ?_, r.2.2.2⟩
        rcases List.mem_cons.mp q with q | q
        · obtain ⟨_, _, ⟨_, i2⟩, _⟩ := hs2.rep a _ e; rw [q, nC] at i2; cases i2
        · exact r.2.2.1 q
      | lst => exact r
      | opq => trivial
    · rcases List.mem_cons.mp hL with q | q
      · obtain ⟨o, es, ep, e, d, _⟩ := hns1; rw [q]; exact ⟨nB _ nC, o, es, ep, e, d⟩
      · exact k.psd L q
  -- the captured names
  have cap : ∀ (h : Heap) (m : MH) (mm : Str → Option Value), h.Ns C mm → (∀ b o, b ≠ it → s2.heap.get? b = some o → nd o → h.get? b = some o) → SameL m0 m → FrR (compEnvC scope cl C env) frc m h := fun h m mm hn hk sl => by
    obtain ⟨oi, vi, ei, di⟩ := obi
    have kc : ∀ c v0, s2.heap.IsCell c v0 → h.IsCell c v0 := fun c v0 ⟨o, e, d⟩ => ⟨o, hk c o (fun q => by rw [q, ei] at e; cases e; rw [di] at d; cases d) e (by intro es n q; rw [d] at q; cases q), d⟩
    refine ⟨⟨mm, hn⟩, fun y c e => (let ⟨v0, hc⟩ := hf2.cel y c (hcm y c e); ⟨v0, kc _ _ hc⟩), fun y v e => ?_⟩
    obtain ⟨e1, ⟨c, c1, c2⟩, ko, ki⟩ := hcap y v e
    obtain ⟨val, r, rv⟩ := hf2.nam y v e1
    refine ⟨val, .inr ⟨ki, c, c2, ?_⟩, rv_mono2 rv fun a o vs n e d i => ⟨sl.im i, hk a o (fun q => by rw [q, ei] at e; cases e; rw [di] at d; cases d) e (nd_seq d)⟩⟩
    rcases r with ⟨hl, _⟩ | ⟨_, c', hc', hv⟩
    · rcases ko with ko | ko <;> rw [ko] at hl <;> cases hl
    · rw [c1] at hc'; cases hc'; exact kc _ _ hv
  have imD : Im m0 D := hs2.im_new nD
  have st1 : St 0 h1 := W.fr _ _ _ st0 fun b o e _ => old b o e
  let Acc (h : Heap) (m : MH) (vs : List AV) : Prop := ∃ (vals : List Value) (kD : Nat), h.get? D = some (listOf vals.toArray kD) ∧ vs.length = vals.length ∧ ∀ (j : Nat) (v : AV) (val : Value), vs[j]? = some v → vals[j]? = some val → RV (fun a => Im m a ∧ s.heap.get? a = none ∧ a ≠ D) h v val
  let I : Nat → Shared → Prop := fun k s3 => ∃ i vs m, k = N - i ∧ i ≤ N ∧ Inv i vs m ∧ vs.length ≤ i ∧ H g stk (C :: ps) m s3 ∧ (∃ mm, s3.heap.Ns C mm) ∧ T ps s.heap s3.heap ∧ SameL mh m ∧ SameL m0 m ∧ (∀ b o, b ≠ it → s2.heap.get? b = some o → nd o → s3.heap.get? b = some o) ∧ St i s3.heap ∧ Acc s3.heap m vs
  have loop : codeAny g.M A (.compLoop (.ListComp elt [⟨.Name x px, iter, ifs, 0⟩] scope pos) 0 (.ref it) (.ref D) (compEnvC scope cl C env)) (compPost g.M A E use Q (.ref D) C) { s2 with heap := h1, toks := s2.toks + ([] : List (Str × Value)).length } := by
    refine codeAny_compLoop_tests I ?_ N ⟨0, [], m0, by omega, by omega, h0, by simp, hh1, ⟨_, hns1⟩, t2.trans (T.of_keeps old), sl2, SameL.refl _, fun b o _ e _ => old b o e, st1, [], 0, hD1, rfl, fun j v val e => by simp at e⟩
    rintro k s3 ⟨i, vs, m, rfl, hiN, inv, hvl, hs3, ⟨mm, hn3⟩, tA, slA, slB, kB, st, vals, kD, hD3, hvn, hvi⟩
    have ob := W.ob i _ st
    obtain ⟨nps, nM, nL⟩ := hs3.notIter ob
    by_cases hlt : i < N
    · refine W.nx i A s3 _ _ hlt R.handled st fun val h' t' rv st' kk => ?_
      have hs4 := hs3.except (t := t') nps hitB nM nL kk
      obtain ⟨oi, vi, ei, di⟩ := W.ob (i + 1) _ st'
      have hn4 : h'.Ns C mm := by obtain ⟨o, es, ep, e, d, r⟩ := hn3; exact ⟨o, es, ep, kk C o itCD.1.symm e, d, r⟩
      refine wpAny_assign_Name (wpAny_storeName_local (s := { s3 with heap := h', toks := t' }) kx hn4 (fun h5 hn5 hb5 => ?_) (by rw [cok.kind]; rfl))
      have hs5 := hs4.ns (t := t' + 1) List.mem_cons_self hn5 hb5
      have isd : ∀ b o, h'.get? b = some o → nd o → b ≠ C := fun b o e d q => by obtain ⟨oc, es, ep, ec, dc, _⟩ := hn4; rw [q, ec] at e; cases e; exact d _ _ dc
      have kB5 : ∀ b o, b ≠ it → s2.heap.get? b = some o → nd o → h5.get? b = some o := fun b o hb e d => hb5.extBut b o (ex2 b o e).1 (kk b o hb (kB b o hb e d))
      have tA5 : T ps s.heap h5 := (tA.except hnew kk).except (nS C nC) fun b o hb e => hb5.extBut b o hb e
      have fc := cap h5 m _ hn5 kB5 slB
      have hf5 : FrR (compEnvC scope cl C env) ((x, item i) :: frc) m h5 := by
        refine ⟨fc.loc, fc.cel, fun y u hy => ?_⟩
        rw [List.lookup_cons] at hy
        by_cases q : y = x
        · subst q
          simp only [beq_self_eq_true] at hy
          cases hy
          refine ⟨val, .inl ⟨kx, _, hn5, by simp⟩, rv_mono2 rv fun a o vs k' e d hx => ?_⟩
          have neI : a ≠ it := fun q => by rw [q, ei] at e; cases e; rw [di] at d; cases d
          exact ⟨slB.im hx.1, hb5.extBut a o (isd a o e (nd_seq d)) e⟩
        · have q' : (y == x) = false := by simpa using q
          rw [q'] at hy
          exact fc.nam y u hy
      have hD5 : h5.get? D = some (listOf vals.toArray kD) := hb5.extBut D _ hDC (kk D _ itCD.2.symm hD3)
      have st5 : St (i + 1) h5 := W.fr _ _ _ st' fun b o e hb => hb5.extBut b o (by
        rcases hb with rfl | ⟨_, _, _, d⟩
        · exact itCD.1
        · exact isd b o e (nd_seq d)) e
      have stay : ∀ a o vs' n', s3.heap.get? a = some o → o.data = .seq vs' n' → h5.get? a = some o := fun a o vs' n' e d => by
        obtain ⟨o3, v3, e3, d3⟩ := ob
        have e4 := kk a o (fun q => by rw [q, e3] at e; cases e; rw [d3] at d; cases d) e
        exact hb5.extBut a o (isd a o e4 (nd_seq d)) e4
      obtain ⟨PT, ht, hF, hT⟩ := hb C i vs m hCp cok hlt inv
      refine ht A _ _ _ R hs5 hf5 fun s6 b m6 p hs6 t6 sl6 => ?_
      -- what a step keeps
      have next : ∀ (s7 : Shared) (m7 : MH), H g stk (C :: ps) m7 s7 → T (C :: ps) h5 s7.heap → SameL m m7 → (∃ mm, s7.heap.Ns C mm) ∧ T ps s.heap s7.heap ∧ (∀ b o, b ≠ it → s2.heap.get? b = some o → nd o → s7.heap.get? b = some o) ∧ St (i + 1) s7.heap ∧ s7.heap.get? D = some (listOf vals.toArray kD) := fun s7 m7 hs7 t7 sl7 =>
        ⟨⟨_, t7.Ns List.mem_cons_self hn5⟩, tA5.trans (t7.sub fun a ha => List.mem_cons_of_mem _ ha), fun b o hb e d => t7.nd b o (kB5 b o hb e d) d, W.fr _ _ _ st5 fun b o e hb => t7.nd b o e (by
          rcases hb with rfl | ⟨_, _, _, d⟩
          · have : h5.get? b = some oi := hb5.extBut b _ itCD.1 ei
            rw [this] at e; cases e; intro es n q; rw [di] at q; cases q
          · exact nd_seq d), t7.nd D _ hD5 nd_list⟩
      cases b with
      | false =>
        rw [if_neg Bool.false_ne_true]
        obtain ⟨z1, z2, z3, z4, z5⟩ := next s6 m6 hs6 t6 sl6
        exact ⟨N - (i + 1), by omega, i + 1, vs, m6, rfl, hlt, hF m6 p, by omega, hs6, z1, z2, slA.trans sl6, slB.trans sl6, z3, z4, vals, kD, z5, hvn, fun j v val e1 e2 => rv_mono2 (hvi j v val e1 e2) fun a o vs' n' e d hx => ⟨⟨sl6.im hx.1, hx.2⟩, t6.nd a o (stay a o vs' n' e d) (nd_seq d)⟩⟩
      | true =>
        rw [if_pos rfl]
        refine hT m6 p A s6 _ _ R hs6 (fr_next hf5 t6 List.mem_cons_self sl6) fun s7 v val7 m7 p7 hs7 t7 sl7 r7 => ?_
        have inv7 := p7
        have hD6 := t6.nd D _ hD5 nd_list
        obtain ⟨⟨mm7, z1⟩, z2, z3, z4, z5⟩ := next s7 m7 hs7 (t6.trans t7) (sl6.trans sl7)
        refine append_at z5 (fun h8 sb8 hD8 => ?_) (by rw [List.size_toArray, ← hvn, sizeLine_eq]; omega)
        have dps : D ∉ C :: ps := fun q => by obtain ⟨_, o, es, n, e, d⟩ := hs7.psd _ q; rw [z5] at e; cases e; cases d
        have dM : ∀ a C d at_, m7 a = some (.inst C d at_) → a ≠ D ∧ d ≠ D := fun a C d at_ q => by
          obtain ⟨_, _, ⟨i1, i2⟩, _⟩ := hs7.rep a _ q
          exact ⟨(fun z => by rw [z, z5] at i1; cases i1), (fun z => by rw [z, z5] at i2; have := congrArg Obj.data (Option.some.inj i2); cases this)⟩
        have dL : isL (m7 D) = false := ((slB.trans sl6).trans sl7).im imD
        have hs8 := hs7.except (t := s7.toks) dps (nB _ nD) dM dL fun b o hb e => sb8.extBut b o hb e
        refine ⟨N - (i + 1), by omega, i + 1, vs ++ [v], m7, rfl, hlt, inv7, by simp; omega, hs8, ⟨mm7, z1.extBut sb8.extBut hDC.symm⟩, z2.except (nS D nD) fun b o hb e => sb8.extBut b o hb e, (slA.trans sl6).trans sl7, (slB.trans sl6).trans sl7,
          fun b o hb e d => sb8.extBut b o (ex2 b o e).2 (z3 b o hb e d), W.fr _ _ _ z4 fun b o e hb => sb8.extBut b o (fun q => ?_) e, vals ++ [val7], kD + 1, by rw [hD8]; simp [PySem.W.listOf], by simp [hvn], fun j u w hu hw => ?_⟩
        · rcases hb with hb | ⟨hx, _⟩
          · exact itCD.2 (hb ▸ q)
          · exact hx.2 (q ▸ nD)
        · by_cases q : j < vs.length
          · rw [List.getElem?_append_left q] at hu
            rw [List.getElem?_append_left (by omega)] at hw
            exact rv_mono2 (hvi j u w hu hw) fun a o vs' n' e d hx => ⟨⟨sl7.im (sl6.im hx.1), hx.2⟩, sb8.extBut a o hx.2.2 (t7.nd a o (t6.nd a o (stay a o vs' n' e d) (nd_seq d)) (nd_seq d))⟩
          · rw [List.getElem?_append_right (by omega)] at hu
            rw [List.getElem?_append_right (by omega), ← hvn] at hw
            have : j - vs.length = 0 := by
              cases e : j - vs.length with
              | zero => rfl
              | succ z => rw [e] at hu; simp at hu
            rw [this] at hu hw
            simp at hu hw
            subst hu hw
            refine rv_mono2 r7 fun a o vs' n' e d hx => ?_
            have neD : a ≠ D := fun q => by rw [q, hD6] at hx; exact absurd hx.2 (by simp)
            have nsa : s.heap.get? a = none := by
              cases q : s.heap.get? a with
              | none => rfl
              | some o' =>
                obtain ⟨o2, e2⟩ := tA5.live _ _ q
                obtain ⟨o3, e3⟩ := t6.live _ _ e2
                rw [e3] at hx; exact absurd hx.2 (by simp)
            exact ⟨⟨hx.1, nsa, neD⟩, sb8.extBut a o neD e⟩
    · obtain rfl : i = N := by omega
      refine W.dn A s3 _ _ R.handled st fun h' kk => ?_
      have hs4 := hs3.except (t := s3.toks) nps hitB nM nL kk
      have hn4 : h'.Ns C mm := by obtain ⟨o, es, ep, e, d, r⟩ := hn3; exact ⟨o, es, ep, kk C o itCD.1.symm e, d, r⟩
      exact hfin C D vs m _ hCp inv hs4 ⟨mm, hn4⟩ (tA.except hnew kk) slA (.list ⟨slB.im imD, nS D nD⟩ (kk _ _ itCD.2.symm hD3) rfl rfl hvn fun j v val e1 e2 => rv_mono2 (hvi j v val e1 e2) fun a o vs' n' e d hx => ⟨⟨hx.1, hx.2.1⟩, kk a o (fun q => by obtain ⟨o3, v3, e3, d3⟩ := ob; rw [q, e3] at e; cases e; rw [d3] at d; cases d) e⟩) (nS C nC)
  exact codeAny_compStart_list loop (W.sf 0 _ _ _ _ st1 loop)

theorem EVN.comp {elt iter : Expr} {x : Str} {px pos : Pos} {ifs : List Expr} {scope : Scope} {cl : List (Str × Addr)} {N : Nat} {item : Nat → AV} {m0 : MH} (ok : EnvOk g env ps qs)
    (hks : scope.kind = .function) (hcell : ∀ y ∈ scope.names, y.2 ≠ .cell) (hnames : ∀ y ∈ scope.names, y.2 = .local → scope.names.lookup y.1 = some .local) (hx : scope.names.lookup x = some .local)
    (hclos : closureFor scope env = pure cl) (hcl : ∀ y c, cl.lookup y = some c → env.cells.lookup y = some c) (hcm : ∀ y c, (y, c) ∈ cl → (y, c) ∈ env.cells) (hi : ITJ g stk ps n env fr mh iter N item m0) (hN : N ≤ 1000) (frc : FR)
    (hcap : ∀ y v, frc.lookup y = some v → fr.lookup y = some v ∧ Cap env scope cl y)
    (Inv : Nat → List AV → MH → Prop) (h0 : Inv 0 [] m0)
    (hb : ∀ C i vs m, C ∉ ps → EnvOk g (compEnvC scope cl C env) (C :: ps) ps → i < N → Inv i vs m → ∃ PT : Bool → MH → Prop, TJs g stk (C :: ps) n (compEnvC scope cl C env) ((x, item i) :: frc) m ifs PT ∧ (∀ m', PT false m' → Inv (i + 1) vs m') ∧
      (∀ m', PT true m' → EVN g stk (C :: ps) n (compEnvC scope cl C env) ((x, item i) :: frc) m' elt (fun v m'' => Inv (i + 1) (vs ++ [v]) m'')))
    (hs : ∀ x, foldedSetIterable iter env x = pure x := by intro _; rfl) :
    EVN g stk ps n env fr mh (.ListComp elt [⟨.Name x px, iter, ifs, 0⟩] scope pos) (fun v m => ∃ vs, v = .list vs ∧ Inv N vs m) := fun A s Q E R hs0 hf hq => by
  rw [eval_ListComp]
  refine compN_gen ok hks hcell hnames hx hclos hcl hcm hi hN frc hcap Inv h0 hb hs R hs0 hf fun C D vs m s4 hCp inv hs4 hn4 tA sl rv hC0 => ?_
  obtain ⟨mm, hn4⟩ := hn4
  obtain ⟨oC, esC, epC, eC, dC, _⟩ := id hn4
  refine ⟨mm, hn4, fun h9 sb9 => ?_⟩
  have kk9 : ∀ b o, b ≠ C → s4.heap.get? b = some o → h9.get? b = some o := fun b o hb e => sb9.extBut b o hb e
  refine hq _ (.list vs) (.ref D) m ⟨vs, rfl, inv⟩ (hs4.drop (t := s4.toks) hs0.sps hCp kk9) (tA.except hC0 kk9) sl (rv_mono2 rv fun a o vs n e d i => ⟨i, kk9 a o (fun q => by rw [q, eC] at e; cases e; rw [dC] at d; cases d) e⟩)

end
end Mine

-- C22
namespace Mine
section
variable {g : G} {stk : List Env} {ps qs : List Addr} {n : Nat} {env : Env} {fr : FR} {mh : MH}
theorem op_isnot_none_int {i : Int} : OP2 g mh (compareOp .IsNot) (.int i) .none (.bool true) := fun A stk ps s x1 x2 Q E _ _ _ r1 r2 hq => by
  cases r1; cases r2; exact isNot_none (hq s _ (Kp.refl s) (.bool _))
/-- min of two -/
theorem EV.min2 {e e' : Expr} {px pos : Pos} {a k : Int} {m m' : MH} (SB : St0 g g.B) (b : BN g env "min" (.builtin "min")) (hL : env.locals ∈ ps) (h : EV g stk ps n env fr mh e (Is m (.int a))) (h' : EV g stk ps n env fr m e' (Is m' (.int k))) (hu : unstar e = true := by rfl) (hu' : unstar e' = true := by rfl) :
    EV g stk ps n env fr mh (.Call (.Name "min" px) [e, e'] [] pos) (Is m' (.int (if k < a then k else a))) := fun A s Q E R hs hf hq => by
  refine PyProof.Rows.Call_Name rfl (b.go SB hs ?_)
  rw [starEach_cons hu]
  rw [starEach_cons hu']
  refine Calls.callWith_builtin rfl (Calls.evalArgs_plain ?_)
  rw [← starEach_cons hu']
  show wpAny _ A (spliced (backTo pos ((false, eval e env) :: starEach [e'] env))) _ E s
  rw [← starEach_cons hu]
  refine wpAny_items_cons (h A s _ E R hs hf ?_) (starEach_cons hu)
  rintro s1 v1 x1 m1 ⟨rfl, rfl⟩ hs1 t1 sl1 r1
  cases r1
  refine wpAny_items_cons (h' A s1 _ E R hs1 (fr_next hf t1 hL sl1) ?_) (starEach_cons hu')
  rintro s2 v1 x1 m2 ⟨rfl, rfl⟩ hs2 t2 sl2 r2
  cases r2
  refine wpAny_items_nil (min_two_ints R.handled fun h9 tk hk => ?_)
  have kp : Kp s2 { s2 with heap := h9, toks := tk } := Kp.of hk
  refine hq _ _ _ m2 ⟨rfl, rfl⟩ (hs2.keeps kp) ((t1.trans t2).trans (kp.T ps)) (sl1.trans sl2) ?_
  split
  · exact .int _ _
  · exact .int _ _
theorem Wk.rangeD {it : Addr} {a : Int} {N : Nat} {X : Addr → Prop} : Wk g it N (fun i => .int (a - i)) (fun i h => IsRangeIter h it (a - i) ((N : Int) - i) (-1)) X where
  nx i A s Q E hi hh st hq := wpAny_pyNext_range_item st (by omega) fun h' h2 sb => hq _ h' (s.toks + 1) (.int _ _) (by
    have e1 : a - ((i + 1 : Nat) : Int) = a - i + (-1) := by omega
    have e2 : (N : Int) - ((i + 1 : Nat) : Int) = (N : Int) - i - 1 := by omega
    rw [e1, e2]; exact h2) fun b o hb e => sb.extBut b o hb e
  dn A s Q E hh st hq := wpAny_pyNext_range_end hh st (by omega) fun h' sb => hq h' fun b o hb e => sb b o hb e
  sf i A s Q E st hq := wpAny_pyIter_rangeiter st hq
  fr i h h' st hk := hk _ _ st (.inl rfl)
  ob i h st := ⟨_, _, st, rfl⟩
/-- a range that falls by one -/
theorem ITJ.rangeD {e e' e'' : Expr} {rp pos : Pos} {a k : Int} {m m' m'' : MH} (SB : St0 g g.B) (b : BN g env "range" (.type "range")) (hL : env.locals ∈ ps) (h : EV g stk ps n env fr mh e (Is m (.int a))) (h' : EV g stk ps n env fr m e' (Is m' (.int k))) (h'' : EV g stk ps n env fr m' e'' (Is m'' (.int (-1)))) (ha : -1000 ≤ a) (ha2 : a ≤ 1000) (hk : -1000 ≤ k) (hk2 : k ≤ 1000) (hu : unstar e = true := by rfl) (hu' : unstar e' = true := by rfl) (hu'' : unstar e'' = true := by rfl) :
    ITJ g stk ps n env fr mh (.Call (.Name "range" rp) [e, e', e''] [] pos) (a - k).toNat (fun i => .int (a - i)) m'' := fun A s K E R hs hf hK => by
  refine PyProof.Rows.Call_Name rfl (b.go SB hs ?_)
  rw [starEach_cons hu]
  rw [starEach_cons hu']
  rw [starEach_cons hu'']
  refine PyProof.Rows.callWith_type rfl (Calls.evalArgs_plain ?_)
  rw [← starEach_cons hu'']
  rw [← starEach_cons hu']
  show wpAny _ A (spliced (backTo pos ((false, eval e env) :: starEach [e', e''] env))) _ E s
  rw [← starEach_cons hu]
  refine wpAny_items_cons (h A s _ E R hs hf ?_) (starEach_cons hu)
  rintro s1 v1 x1 m1 ⟨rfl, rfl⟩ hs1 t1 sl1 r1
  cases r1
  have hf1 := fr_next hf t1 hL sl1
  refine wpAny_items_cons (h' A s1 _ E R hs1 hf1 ?_) (starEach_cons hu')
  rintro s2 v1 x1 m2 ⟨rfl, rfl⟩ hs2 t2 sl2 r2
  cases r2
  refine wpAny_items_cons (h'' A s2 _ E R hs2 (fr_next hf1 t2 hL sl2) ?_) (starEach_cons hu'')
  rintro s3 v1 x1 m3 ⟨rfl, rfl⟩ hs3 t3 sl3 r3
  cases r3
  refine wpAny_items_nil (call_range_3 (by decide) ?_ (.inl (PyProof.noPylong_small (by omega))))
  refine wpAny_pyIter_range (IsRange.new ..) (small_down (by omega) (by omega) (by omega) (by omega)) ?_
  have hsz := rangeSize_downNat a k
  have new : s3.heap.get? (s3.heap.objs.size + 1) = none := by
    cases q : s3.heap.get? (s3.heap.objs.size + 1) with
    | none => rfl
    | some o => exact absurd (Nat.lt_trans (Nat.lt_succ_self _) (Heap.lt_size q)) (Nat.lt_irrefl _)
  rename_i u0 u u2
  have kp : ∀ h', (∀ b o, s3.heap.get? b = some o → h'.get? b = some o) → Kp s3 { s3 with heap := h', toks := s3.toks } := fun h' k => Kp.of k
  rw [show Shared.heap { s3 with heap := s3.heap.push { cls := .type "range", data := .fields #[.int a u0, .int k u, .int (-1) u2] }, toks := s3.toks } = s3.heap.push { cls := .type "range", data := .fields #[.int a u0, .int k u, .int (-1) u2] } from rfl, Heap.size_push, hsz]
  have kk : ∀ b o, s3.heap.get? b = some o → ((s3.heap.push { cls := .type "range", data := .fields #[.int a u0, .int k u, .int (-1) u2] }).push { cls := .type "range_iterator", data := .fields #[rawInt a, rawInt (((a - k).toNat : Nat) : Int), rawInt (-1)] }).get? b = some o := fun _ _ e => Heap.get?_push_of_some _ (Heap.get?_push_of_some _ e)
  have tt := (t1.trans t2).trans t3
  refine hK _ (s3.heap.objs.size + 1) _ Wk.rangeD ?_ (hs3.keeps (kp _ kk)) (tt.trans ((kp _ kk).T ps)) ((sl1.trans sl2).trans sl3) ?_
  · have e : ((s3.heap.push { cls := .type "range", data := .fields #[.int a u0, .int k u, .int (-1) u2] }).push { cls := .type "range_iterator", data := .fields #[rawInt a, rawInt (((a - k).toNat : Nat) : Int), rawInt (-1)] }).get? (s3.heap.push { cls := .type "range", data := .fields #[.int a u0, .int k u, .int (-1) u2] }).objs.size = _ := Heap.get?_push_size _ rfl
    rw [Heap.size_push] at e
    have e1 : (a : Int) - ((0 : Nat) : Int) = a := by simp
    have e2 : (((a - k).toNat : Nat) : Int) - ((0 : Nat) : Int) = (((a - k).toNat : Nat) : Int) := by simp
    show IsRangeIter _ _ _ _ _
    rw [e1, e2]
    exact e
  · cases q : s.heap.get? (s3.heap.objs.size + 1) with
    | none => rfl
    | some o => obtain ⟨o', e'⟩ := tt.live _ _ q; rw [new] at e'; cases e'
/-- a property read of what an expression gives -/
theorem EV.propP {o : Expr} {name : Str} {pos : Pos} {C p fget : Addr} {rest : List Value} {P1 P : AV → MH → Prop} (SB : St0 g g.B) (ho : EV g stk ps (n + 1) env fr mh o P1) (PC : PlainCls g.K C)
    (ha : findIn g.K (.ref C) name = some (some (.ref p))) (hn : specialIn g.K (.ref p) "__get__" = some (some (.builtin "property.__get__"))) (ht : takesIn g.K (.ref p) = some true) (hp : recIn g.K p "property" = some (.ref fget :: rest))
    (hc : ∀ v m, P1 v m → ∃ a, v = .ref a ∧ kls m a = some C ∧ CA g n (.ref fget) [.ref a] m P)
    (he : eval (.Attribute o name pos) env = (do
      let o' ← eval o env
      standAt pos.atName
      let r ← holding [o'] (getAttr o' name true)
      letTemporaryGo o o' r
      pure r)) : EV g stk ps (n + 1) env fr mh (.Attribute o name pos) P := fun A s Q E R hs hf hq => by
  refine Attribute_any_ (ho A s _ E R hs hf ?_) he
  intro s1 v1 x1 m1 p1 hs1 t1 sl1 r1
  obtain ⟨a, rfl, hm, hc⟩ := hc v1 m1 p1
  cases r1
  obtain ⟨d, at_, e⟩ := cls_ex hm
  obtain ⟨es, nn, I, ar⟩ := hs1.rep a _ e
  have X1 := (SB.keeps hs1.stays).kin
  refine prop_raw X1 PC I ha hn ht hp ?_
  have hs1' := hs1.keeps (Kp.tok s1 (s1.toks + 1))
  refine hc stk ps A.in1 _ _ _ R.in1 hs1' (.cons (.ref a) .nil) fun s3 v val m3 p3 hs3 t3 sl3 r3 => ?_
  refine handed_on (handed r3) (hq s3 v val m3 p3 hs3 (t1.trans t3) (sl1.trans sl3) r3)

/-- an item of what is itself an item -/
theorem EV.idxL {e i : Expr} {pos : Pos} {v : AV} {m1 m2 : MH} {xs : List AV} {k : Int} {x : AV} (hL : env.locals ∈ ps) (h1 : EV g stk ps n env fr mh e (Is m1 v)) (h2 : EV g stk ps n env fr m1 i (Is m2 (.int k))) (lv : LV m2 v xs)
    (h0 : 0 ≤ k) (hx : xs[k.toNat]? = some x) (hz : xs.length ≤ 1000)
    (hs : ∀ a t, subscripted i false (.ref a) (.int k t) = operate [.ref a, .int k t] (getItem (.ref a) (.int k t)) := by intro _ _; with_unfolding_all rfl) :
    EV g stk ps n env fr mh (.Subscript e i pos) (Is m2 x) := fun A s Q E R hs0 hf hq => by
  refine Subscript_ (h1 A s _ E R hs0 hf ?_)
  rintro s1 v1 x1 m ⟨rfl, rfl⟩ hs1 t1 sl1 r1
  refine h2 A s1 _ E R hs1 (fr_next hf t1 hL sl1) ?_
  rintro s2 v2 x2 m ⟨rfl, rfl⟩ hs2 t2 sl2 r2
  cases r2
  obtain ⟨a, vs, rfl, L⟩ := lv.at hs2 (rv_next r1 t2 sl2)
  obtain ⟨hj, _⟩ := List.getElem?_eq_some_iff.mp hx
  have hj' := hj
  rw [L.n] at hj'
  have hy : vs[k.toNat]? = some vs[k.toNat] := List.getElem?_eq_getElem hj'
  have hya : vs.toArray[k.toNat]? = some vs[k.toNat] := by simp [hj']
  refine subscriptTail_builtinR (x := vs[k.toNat]) L.l.typeIs list_getitem_lookup ?_ (hs _ _)
  exact wpAny_getItem_list L.l h0 (by omega) hya ⟨rfl, hq s2 x _ _ ⟨rfl, rfl⟩ hs2 (t1.trans t2) (sl1.trans sl2) (L.i _ _ _ hx hy)⟩
/-- a list of one's own that turns no more -/
def drp (mh : MH) (a : Addr) : MH := fun b => if b = a then none else mh b
theorem drp_ne {m : MH} {a b : Addr} (h : b ≠ a) : drp m a b = m b := if_neg h
theorem drp_self {m : MH} {a : Addr} : drp m a a = none := if_pos rfl
theorem ST.freeze {x : Str} {a : Addr} {ns : List Int} {ss : List Stmt} {P : FL → FR → MH → Prop} (hm : mh a = some (.lst ns)) (hx : fr.lookup x = some (.ref a)) (h : ST g stk ps qs n env ((x, .list (il ns)) :: fr) (drp mh a) ss P) : ST g stk ps qs n env fr mh ss P := fun A s Q E R hs hf hq => by
  have un : ∀ b o, drp mh a b = some o → mh b = some o := fun b o e => by
    by_cases q : b = a
    · rw [q, drp_self] at e; cases e
    · rwa [drp_ne q] at e
  have im : ∀ b, Im mh b → Im (drp mh a) b := fun b i => by
    unfold Im at *
    by_cases q : b = a
    · rw [q, drp_self]; rfl
    · rw [drp_ne q]; exact i
  have hs' : H g stk ps (drp mh a) s := ⟨hs.stays, hs.os, hs.bare, fun b o e => hs.rep b o (un b o e), fun b o e => hs.off b o (un b o e), fun x y C C' d at_ at' e1 e2 => hs.inj x y C C' d at_ at' (un _ _ e1) (un _ _ e2), hs.frm, hs.sps, hs.psd⟩
  have hf' : FrR env ((x, .list (il ns)) :: fr) (drp mh a) s.heap := by
    refine ⟨hf.loc, hf.cel, fun y v e => ?_⟩
    rw [List.lookup_cons] at e
    split at e
    · rename_i q
      cases e
      obtain ⟨val, r, rv⟩ := hf.nam x _ hx
      cases rv
      obtain ⟨vs, k, e1, iv⟩ := hs.rep a _ hm
      obtain ⟨h1, h2⟩ := LAt_il iv
      rw [beq_iff_eq.mp q]
      exact ⟨.ref a, r, .list (by unfold Im; rw [drp_self]; rfl) e1 rfl rfl h1 fun i x v => h2 _ _ i x v⟩
    · obtain ⟨val, r, rv⟩ := hf.nam y v e
      exact ⟨val, r, rv.mono fun b o e d i => ⟨im b i, e⟩⟩
  have ts : Ts (env.cells.map (·.2)) qs mh (drp mh a) s.heap s.heap := ⟨fun b o e _ _ _ => e, fun b i _ => by
      by_cases q : b = a
      · rw [q, drp_self]; rfl
      · rw [drp_ne q]; exact i, fun b i _ => im b i, fun b e => (drp_ne (fun q => by rw [q, hm] at e; cases e)).trans e, fun L hL o es n e d => ⟨o, e, d⟩, fun b o e => ⟨o, e⟩⟩
  exact h A s Q E R hs' hf' fun s' fl f r m p hs2 hf2 ts2 flr => hq s' fl f r m p hs2 hf2 (ts.trans ts2) flr
end
end Mine

set_option maxHeartbeats 8000000
namespace Mine
open_top hd for PySem.Challenge.rw_bs0026_02
end Mine

-- D
namespace Mine
theorem dummy (P : Params) : PySem.Challenge.rw_bs0026_02 = PySem.Challenge.rw_bs0026_02 → hd.heap_39 P = hd.heap_39 P := by
  k_fill
  intro _; rfl

theorem pcT (P : Params) : PlainCls (hd.heap_39 P) 193 := ⟨by k_is, by k_is, by k_is, by k_is, by k_is⟩
theorem pcL (P : Params) : PlainCls (hd.heap_39 P) 101 := ⟨by k_is, by k_is, by k_is, by k_is, by k_is⟩
theorem pcO (P : Params) : PlainCls (hd.heap_39 P) 238 := ⟨by k_is, by k_is, by k_is, by k_is, by k_is⟩

/-- a class whose instances may be linked -/
structure LkC (K : Frag) (C : Addr) : Prop where
  pc : PlainCls K C
  sh : nameShort K C = true
  n0 : findIn K (.ref C) "next_on_list" = some none
  p0 : findIn K (.ref C) "prev_on_list" = some none
  n1 : takerIn K C "next_on_list" = some none
  p1 : takerIn K C "prev_on_list" = some none
  ne : C ≠ 193
theorem nameShort_of {K : Frag} {C : Addr} {cd : ClassData} (h : clsIn K C = some cd) (e : (decide (cd.name.cps.foldl (fun k c => k + (Str.utf8Of c).length) 0 ≤ 100) && decide (cd.name.toString.length ≤ 50)) = true) : nameShort K C = true := by unfold nameShort; rw [h]; exact e
theorem lkL (P : Params) : LkC (hd.heap_39 P) 101 := ⟨pcL P, nameShort_of (by k_is) (by decide +kernel), by k_is, by k_is, by k_is, by k_is, by decide⟩
theorem lkO (P : Params) : LkC (hd.heap_39 P) 238 := ⟨pcO P, nameShort_of (by k_is) (by decide +kernel), by k_is, by k_is, by k_is, by k_is, by decide⟩

noncomputable abbrev g3 (w : World) (mg mb : Str → Option Value) (B : Heap) (os : OsState) (gs : Nat → Option GenState) : G := ⟨PySem.Challenge.rw_bs0026_02.row.prog, w, hd.heap_39 w.params, mg, mb, B, os, gs⟩

local macro_rules | `(tactic| tb_start) => `(tactic| (
  (refine' CA.def3 ?SB ?ho ?hcd ?hbody ?hk ?hco ?hgen ?hcell ?hgl ?hbl ?hcl ?hnd ?hloc ?hbind ?hb);
  (case SB => assumption);
  (case ho => exact ⟨_, _, _, (by k_is : List.lookup _ (hd.heap_39 _) = _)⟩);
  (case hcd => (show codeIn (hd.heap_39 _) _ _ = true); k_is);
  (case hbody => exact rfl); (case hk => exact rfl); (case hco => exact rfl); (case hgen => exact rfl); (case hcell => decide); (case hgl => exact rfl); (case hbl => exact rfl); (case hcl => exact rfl);
  (case hnd => decide); (case hloc => decide);
  (case hbind => (intro s vals X hK rv; refine ⟨vals, rv, ?_⟩; (repeat (rename PySem.Paired _ _ _ => rv; cases rv)); exact BindsTo.of_eq rfl))))


section
variable {w : World} {mg mb : Str → Option Value} {B : Heap} {os : OsState} {gs : Nat → Option GenState} {n : Nat} {mh : MH}

theorem ca_next_hit (SB : St0 (g3 w mg mb B os gs) B) (T a y C : Addr) (hC : LkC (hd.heap_39 w.params) C) (h : kls mh a = some C) (hx : fld mh a "next_on_list" = some (.ref y)) : CA (g3 w mg mb B os gs) (n + 1) (.ref 141) [.ref T, .ref a] mh (Is mh (.ref y)) := by
  tb_start
  intro L stk ps hL ok
  exact ST.tryHit (ST.retI ok (EV.att SB (EV.name rfl rfl rfl rfl) ((cls_hide mh a).trans h) hC.pc hC.n0 rfl ((attr_hide mh a _).trans hx) (by with_unfolding_all rfl)) ⟨by simp, mh, rfl, SameL.refl _, rfl, rfl⟩)
theorem ca_prev_hit (SB : St0 (g3 w mg mb B os gs) B) (T a y C : Addr) (hC : LkC (hd.heap_39 w.params) C) (h : kls mh a = some C) (hx : fld mh a "prev_on_list" = some (.ref y)) : CA (g3 w mg mb B os gs) (n + 1) (.ref 155) [.ref T, .ref a] mh (Is mh (.ref y)) := by
  tb_start
  intro L stk ps hL ok
  exact ST.tryHit (ST.retI ok (EV.att SB (EV.name rfl rfl rfl rfl) ((cls_hide mh a).trans h) hC.pc hC.p0 rfl ((attr_hide mh a _).trans hx) (by with_unfolding_all rfl)) ⟨by simp, mh, rfl, SameL.refl _, rfl, rfl⟩)
theorem ca_next_miss (SB : St0 (g3 w mg mb B os gs) B) (hAE : mg "AttributeError" = none) (T a C : Addr) (hC : LkC (hd.heap_39 w.params) C) (h : kls mh a = some C) (hx : fld mh a "next_on_list" = none) : CA (g3 w mg mb B os gs) (n + 1) (.ref 141) [.ref T, .ref a] mh (Is mh .none) := by
  obtain ⟨d, at_, e⟩ := cls_ex ((cls_hide mh a).trans h)
  tb_start
  intro L stk ps hL ok
  exact ST.of (SJ.try_miss SB ok ⟨_, rfl⟩ rfl rfl rfl rfl e hC.pc hC.sh hC.n0 (((attr_at e _).symm.trans (attr_hide mh a _)).trans hx) (by decide +kernel) (by decide +kernel) rfl hAE (by with_unfolding_all rfl)) (by simp) ⟨mh, rfl, SameL.refl _, rfl, rfl⟩
theorem ca_prev_miss (SB : St0 (g3 w mg mb B os gs) B) (hAE : mg "AttributeError" = none) (T a C : Addr) (hC : LkC (hd.heap_39 w.params) C) (h : kls mh a = some C) (hx : fld mh a "prev_on_list" = none) : CA (g3 w mg mb B os gs) (n + 1) (.ref 155) [.ref T, .ref a] mh (Is mh .none) := by
  obtain ⟨d, at_, e⟩ := cls_ex ((cls_hide mh a).trans h)
  tb_start
  intro L stk ps hL ok
  exact ST.of (SJ.try_miss SB ok ⟨_, rfl⟩ rfl rfl rfl rfl e hC.pc hC.sh hC.p0 (((attr_at e _).symm.trans (attr_hide mh a _)).trans hx) (by decide +kernel) (by decide +kernel) rfl hAE (by with_unfolding_all rfl)) (by simp) ⟨mh, rfl, SameL.refl _, rfl, rfl⟩
theorem ca_set_next (SB : St0 (g3 w mg mb B os gs) B) (T a y C : Addr) (hC : LkC (hd.heap_39 w.params) C) (h : kls mh a = some C) (hz : asz mh a < 20 ∨ fld mh a "next_on_list" ≠ none) : CA (g3 w mg mb B os gs) (n + 1) (.ref 148) [.ref T, .ref a, .ref y] mh (Is (setA mh a "next_on_list" (.ref y)) .none) := by
  tb_start
  intro L stk ps hL ok
  exact ST.setI SB ok (EV.name rfl rfl rfl rfl) (EV.name rfl rfl rfl rfl) ((cls_hide mh a).trans h) hC.pc hC.n1 (by rw [size_hide, attr_hide]; exact hz) (.ref y) (ST.nilI ⟨_, (hide_setA _ _ _).symm, sameL_setA _ _ _, rfl, rfl⟩)
theorem ca_set_prev (SB : St0 (g3 w mg mb B os gs) B) (T a y C : Addr) (hC : LkC (hd.heap_39 w.params) C) (h : kls mh a = some C) (hz : asz mh a < 20 ∨ fld mh a "prev_on_list" ≠ none) : CA (g3 w mg mb B os gs) (n + 1) (.ref 162) [.ref T, .ref a, .ref y] mh (Is (setA mh a "prev_on_list" (.ref y)) .none) := by
  tb_start
  intro L stk ps hL ok
  exact ST.setI SB ok (EV.name rfl rfl rfl rfl) (EV.name rfl rfl rfl rfl) ((cls_hide mh a).trans h) hC.pc hC.p1 (by rw [size_hide, attr_hide]; exact hz) (.ref y) (ST.nilI ⟨_, (hide_setA _ _ _).symm, sameL_setA _ _ _, rfl, rfl⟩)

/-- the type's own object -/
structure IsT (mh : MH) (T : Addr) : Prop where
  k : kls mh T = some 193
  f : ∀ x, fld mh T x = none
theorem IsT.hide {mh : MH} {T : Addr} (h : IsT mh T) : IsT (hideL mh) T := ⟨(cls_hide _ _).trans h.k, fun x => (attr_hide _ _ _).trans (h.f x)⟩
theorem IsT.setA {mh : MH} {T a : Addr} {x : Str} {v : AV} (h : IsT mh T) (C : Addr) (hc : kls mh a = some C) (hC : C ≠ 193) : IsT (setA mh a x v) T := ⟨(cls_setA _ _ _ _).trans h.k, fun y => by
  rw [attr_setA hc, if_neg (fun q => hC (by rw [← q.1, h.k] at hc; exact (Option.some.inj hc).symm))]; exact h.f y⟩
theorem hmT_next (P : Params) : HasMeth (hd.heap_39 P) 193 "node_next" 141 := ⟨pcT P, by k_is, by k_is, by k_is⟩
theorem hmT_prev (P : Params) : HasMeth (hd.heap_39 P) 193 "node_prev" 155 := ⟨pcT P, by k_is, by k_is, by k_is⟩
theorem hmT_snext (P : Params) : HasMeth (hd.heap_39 P) 193 "node_set_next" 148 := ⟨pcT P, by k_is, by k_is, by k_is⟩
theorem hmT_sprev (P : Params) : HasMeth (hd.heap_39 P) 193 "node_set_prev" 162 := ⟨pcT P, by k_is, by k_is, by k_is⟩
theorem hmT_ion (P : Params) : HasMeth (hd.heap_39 P) 193 "node_is_on_list" 169 := ⟨pcT P, by k_is, by k_is, by k_is⟩
theorem hmT_init (P : Params) : HasMeth (hd.heap_39 P) 193 "node_init" 134 := ⟨pcT P, by k_is, by k_is, by k_is⟩
theorem hmT_after (P : Params) : HasMeth (hd.heap_39 P) 193 "node_insert_after" 176 := ⟨pcT P, by k_is, by k_is, by k_is⟩
theorem hmT_before (P : Params) : HasMeth (hd.heap_39 P) 193 "node_insert_before" 183 := ⟨pcT P, by k_is, by k_is, by k_is⟩
theorem hmT_unlink (P : Params) : HasMeth (hd.heap_39 P) 193 "node_unlink" 190 := ⟨pcT P, by k_is, by k_is, by k_is⟩

theorem kls_inst {mh : MH} {a C : Addr} (h : kls mh a = some C) : ∃ d at_, mh a = some (.inst C d at_) := cls_ex h
theorem op_is_ne {g : G} {a b C C' : Addr} (ha : kls mh a = some C) (hb : kls mh b = some C') (hne : a ≠ b) : OP2 g mh (compareOp .Is) (.ref a) (.ref b) (.bool false) := by
  obtain ⟨_, _, e⟩ := cls_ex ha; obtain ⟨_, _, e'⟩ := cls_ex hb; exact op_is_other e e' hne
theorem op_isnot_ne {g : G} {a b C C' : Addr} (ha : kls mh a = some C) (hb : kls mh b = some C') (hne : a ≠ b) : OP2 g mh (compareOp .IsNot) (.ref a) (.ref b) (.bool true) := by
  obtain ⟨_, _, e⟩ := cls_ex ha; obtain ⟨_, _, e'⟩ := cls_ex hb; exact op_isnot_other e e' hne

theorem ca_ion_t (SB : St0 (g3 w mg mb B os gs) B) (T a y C C' : Addr) (hT : IsT mh T) (hC : LkC (hd.heap_39 w.params) C) (h : kls mh a = some C) (hx : fld mh a "next_on_list" = some (.ref y)) (hy : kls mh y = some C') (hne : y ≠ a) : CA (g3 w mg mb B os gs) (n + 2) (.ref 169) [.ref T, .ref a] mh (Is mh (.bool true)) := by
  tb_start
  intro L stk ps hL ok
  refine ST.stepI ok (.inl rfl) (EV.met1 SB ok.loc (EV.name rfl rfl rfl rfl) hT.hide.k (hmT_next _) (hT.hide.f _) (EV.name rfl rfl rfl rfl) (ca_next_hit SB T a y C hC ((cls_hide mh a).trans h) ((attr_hide mh a _).trans hx))) ?_
  refine ST.ifF ok (TJ.orF ok.loc (TJ.cmpI ok.loc (Nat.succ_pos _) (EV.name rfl rfl rfl rfl) (EV.name rfl rfl rfl rfl) (op_is_ne ((cls_hide mh y).trans hy) ((cls_hide mh a).trans h) hne)) (TJ.cmpI ok.loc (Nat.succ_pos _) (EV.name rfl rfl rfl rfl) EV.const_none op_is_none_ref)) ?_
  exact ST.retI ok EV.const_bool ⟨mh, rfl, SameL.refl _, rfl, rfl⟩

theorem ca_ion_f (SB : St0 (g3 w mg mb B os gs) B) (hAE : mg "AttributeError" = none) (T a C : Addr) (hT : IsT mh T) (hC : LkC (hd.heap_39 w.params) C) (h : kls mh a = some C) (hx : Off mh a) : CA (g3 w mg mb B os gs) (n + 2) (.ref 169) [.ref T, .ref a] mh (Is mh (.bool false)) := by
  tb_start
  intro L stk ps hL ok
  have k := (cls_hide mh a).trans h
  rcases hx with ⟨h1, h2, _⟩ | ⟨h1, h2⟩
  · refine ST.stepI ok (.inl rfl) (EV.met1 SB ok.loc (EV.name rfl rfl rfl rfl) hT.hide.k (hmT_next _) (hT.hide.f _) (EV.name rfl rfl rfl rfl) (ca_next_miss SB hAE T a C hC k ((attr_hide mh a _).trans h1))) ?_
    refine ST.ifT ok (TJ.orF ok.loc (TJ.cmpI ok.loc (Nat.succ_pos _) (EV.name rfl rfl rfl rfl) (EV.name rfl rfl rfl rfl) op_is_none_l) (TJ.cmpI ok.loc (Nat.succ_pos _) (EV.name rfl rfl rfl rfl) EV.const_none op_is_none_none)) ?_
    refine ST.assertI ok (TJ.cmpI ok.loc (Nat.succ_pos _) (EV.met1 SB ok.loc (EV.name rfl rfl rfl rfl) hT.hide.k (hmT_prev _) (hT.hide.f _) (EV.name rfl rfl rfl rfl) (ca_prev_miss SB hAE T a C hC k ((attr_hide mh a _).trans h2))) (EV.name rfl rfl rfl rfl) op_is_none_none) ?_
    exact ST.retI ok EV.const_bool ⟨(fun q => nomatch q), fun _ => ⟨mh, rfl, SameL.refl _, rfl, rfl⟩⟩
  · refine ST.stepI ok (.inl rfl) (EV.met1 SB ok.loc (EV.name rfl rfl rfl rfl) hT.hide.k (hmT_next _) (hT.hide.f _) (EV.name rfl rfl rfl rfl) (ca_next_hit SB T a a C hC k ((attr_hide mh a _).trans h1))) ?_
    refine ST.ifT ok (TJ.orT ok.loc (TJ.cmpI ok.loc (Nat.succ_pos _) (EV.name rfl rfl rfl rfl) (EV.name rfl rfl rfl rfl) op_is_self)) ?_
    refine ST.assertI ok (TJ.cmpI ok.loc (Nat.succ_pos _) (EV.met1 SB ok.loc (EV.name rfl rfl rfl rfl) hT.hide.k (hmT_prev _) (hT.hide.f _) (EV.name rfl rfl rfl rfl) (ca_prev_hit SB T a a C hC k ((attr_hide mh a _).trans h2))) (EV.name rfl rfl rfl rfl) op_is_self) ?_
    exact ST.retI ok EV.const_bool ⟨(fun q => nomatch q), fun _ => ⟨mh, rfl, SameL.refl _, rfl, rfl⟩⟩

theorem nn {o : Option AV} {v : AV} (h : o = some v) : o ≠ none := by rw [h]; simp
theorem off_hide {x : Addr} (h : Off mh x) : Off (hideL mh) x := by
  unfold Off nxt prv at *
  rw [attr_hide, attr_hide, size_hide]; exact h
/-- a field set on an object off the lists leaves room for the next -/
theorem room2 {a C : Addr} {x y : Str} {v : AV} (hc : kls mh a = some C) (h : (fld mh a x = none ∧ fld mh a y = none ∧ asz mh a ≤ 10) ∨ (fld mh a y ≠ none)) : asz (setA mh a x v) a < 20 ∨ fld (setA mh a x v) a y ≠ none := by
  rcases h with ⟨_, _, h⟩ | h
  · left; have := size_setA (mh := mh) a x v a; omega
  · right; rw [attr_setA hc]; split <;> simp [h]

theorem ca_init (SB : St0 (g3 w mg mb B os gs) B) (hAE : mg "AttributeError" = none) (T a C : Addr) (hT : IsT mh T) (hC : LkC (hd.heap_39 w.params) C) (h : kls mh a = some C) (hx : Off mh a) :
    CA (g3 w mg mb B os gs) (n + 3) (.ref 134) [.ref T, .ref a] mh (Is (setA (setA mh a "next_on_list" (.ref a)) a "prev_on_list" (.ref a)) .none) := by
  tb_start
  intro L stk ps hL ok
  have k := (cls_hide mh a).trans h
  have hx' := off_hide hx
  refine ST.assertI ok (TJ.notI (TJ.valI (EV.met1 SB ok.loc (EV.name rfl rfl rfl rfl) hT.hide.k (hmT_ion _) (hT.hide.f _) (EV.name rfl rfl rfl rfl) (ca_ion_f SB hAE T a C hT.hide hC k hx')) tr_bool)) ?_
  have r1 : asz (hideL mh) a < 20 ∨ fld (hideL mh) a "next_on_list" ≠ none := hx'.imp (fun z => by omega) (fun z => nn z.1)
  refine ST.exprI ok (EV.met2 SB ok.loc (EV.name rfl rfl rfl rfl) hT.hide.k (hmT_snext _) (hT.hide.f _) (EV.name rfl rfl rfl rfl) (EV.name rfl rfl rfl rfl) (ca_set_next SB T a a C hC k r1)) ?_
  have hT1 := hT.hide.setA (x := "next_on_list") (v := .ref a) C k hC.ne
  refine ST.exprI ok (EV.met2 SB ok.loc (EV.name rfl rfl rfl rfl) hT1.k (hmT_sprev _) (hT1.f _) (EV.name rfl rfl rfl rfl) (EV.name rfl rfl rfl rfl) (ca_set_prev SB T a a C hC ((cls_setA _ _ _ _).trans k) (room2 k (hx'.imp id fun z => nn z.2)))) ?_
  exact ST.nilI ⟨_, by rw [← hide_setA, ← hide_setA], (sameL_setA _ _ _).trans (sameL_setA _ _ _), rfl, rfl⟩

theorem ca_before (SB : St0 (g3 w mg mb B os gs) B) (hAE : mg "AttributeError" = none) (T a x p C D : Addr) (hT : IsT mh T) (hC : LkC (hd.heap_39 w.params) C) (h : kls mh a = some C) (hD : LkC (hd.heap_39 w.params) D) (hk : kls mh x = some D) (hx : Off mh x)
    (hp : fld mh a "prev_on_list" = some (.ref p)) (hpn : fld mh p "next_on_list" ≠ none) (hpk : kls mh p = some Cp) (hCp : LkC (hd.heap_39 w.params) Cp) (hax : a ≠ x) :
    CA (g3 w mg mb B os gs) (n + 3) (.ref 183) [.ref T, .ref a, .ref x] mh (Is (insB mh a x p) .none) := by
  tb_start
  intro L stk ps hL ok
  have ka := (cls_hide mh a).trans h
  have kx := (cls_hide mh x).trans hk
  have kp := (cls_hide mh p).trans hpk
  have hx' := off_hide hx
  have hp' := (attr_hide mh a "prev_on_list").trans hp
  have nm : ∀ {fr : FR} {env : Env} {stk : List Env} {ps : List Addr} {m : MH} {x : Str} {pos : Pos} {v : AV}, env.scope.kind = .function → fr.lookup x = some v → (x == ("__debug__" : Str)) = false → (x == ("__classdict__" : Str)) = false → EV (g3 w mg mb B os gs) stk ps (n + 2) env fr m (.Name x pos) (Is m v) := EV.name
  refine ST.assertI ok (TJ.notI (TJ.valI (EV.met1 SB ok.loc (nm rfl rfl rfl rfl) hT.hide.k (hmT_ion _) (hT.hide.f _) (nm rfl rfl rfl rfl) (ca_ion_f SB hAE T x D hT.hide hD kx hx')) tr_bool)) ?_
  refine ST.assertI ok (TJ.cmpI ok.loc (Nat.succ_pos _) (nm rfl rfl rfl rfl) (nm rfl rfl rfl rfl) (op_isnot_ne ka kx hax)) ?_
  refine ST.stepI ok (.inl rfl) (EV.met1 SB ok.loc (nm rfl rfl rfl rfl) hT.hide.k (hmT_prev _) (hT.hide.f _) (nm rfl rfl rfl rfl) (ca_prev_hit SB T a p C hC ka hp')) ?_
  refine ST.assertI ok (TJ.cmpI ok.loc (Nat.succ_pos _) (nm rfl rfl rfl rfl) EV.const_none op_isnot_none_ref) ?_
  refine ST.exprI ok (EV.met2 SB ok.loc (nm rfl rfl rfl rfl) hT.hide.k (hmT_sprev _) (hT.hide.f _) (nm rfl rfl rfl rfl) (nm rfl rfl rfl rfl) (ca_set_prev SB T a x C hC ka (.inr (by rw [hp']; simp)))) ?_
  have hT1 := hT.hide.setA (x := "prev_on_list") (v := .ref x) C ka hC.ne
  have off1 : Off (setA (hideL mh) a "prev_on_list" (.ref x)) x := by
    unfold Off nxt prv at *
    rw [attr_setA ka, attr_setA ka, if_neg (fun z => hax z.1.symm), if_neg (fun z => hax z.1.symm)]
    refine hx'.imp (fun z => ⟨z.1, z.2.1, ?_⟩) id
    have : setA (hideL mh) a "prev_on_list" (.ref x) x = hideL mh x := setA_other hax.symm
    unfold asz at *
    rw [this]; exact z.2.2
  have kx1 := (cls_setA (mh := hideL mh) a "prev_on_list" (.ref x) x).trans kx
  refine ST.exprI ok (EV.met2 SB ok.loc (nm rfl rfl rfl rfl) hT1.k (hmT_snext _) (hT1.f _) (nm rfl rfl rfl rfl) (nm rfl rfl rfl rfl) (ca_set_next SB T x a D hD kx1 (off1.imp (fun z => by omega) (fun z => nn z.1)))) ?_
  have hT2 := hT1.setA (x := "next_on_list") (v := .ref a) D kx1 hD.ne
  have kx2 := (cls_setA (mh := setA (hideL mh) a "prev_on_list" (.ref x)) x "next_on_list" (.ref a) x).trans kx1
  refine ST.exprI ok (EV.met2 SB ok.loc (nm rfl rfl rfl rfl) hT2.k (hmT_sprev _) (hT2.f _) (nm rfl rfl rfl rfl) (nm rfl rfl rfl rfl) (ca_set_prev SB T x p D hD kx2 (room2 kx1 (off1.imp id fun z => nn z.2)))) ?_
  have hT3 := hT2.setA (x := "prev_on_list") (v := .ref p) D kx2 hD.ne
  have kp3 : kls (setA (setA (setA (hideL mh) a "prev_on_list" (.ref x)) x "next_on_list" (.ref a)) x "prev_on_list" (.ref p)) p = some Cp := by rw [cls_setA, cls_setA, cls_setA]; exact kp
  refine ST.exprI ok (EV.met2 SB ok.loc (nm rfl rfl rfl rfl) hT3.k (hmT_snext _) (hT3.f _) (nm rfl rfl rfl rfl) (nm rfl rfl rfl rfl) (ca_set_next SB T p x Cp hCp kp3 (.inr (by
    rw [attr_setA kx2, attr_setA kx1, attr_setA ka, attr_hide]
    split
    · simp
    · split
      · simp
      · split
        · simp
        · exact hpn)))) ?_
  exact ST.nilI ⟨_, by rw [← hide_setA, ← hide_setA, ← hide_setA, ← hide_setA], (((sameL_setA _ _ _).trans (sameL_setA _ _ _)).trans (sameL_setA _ _ _)).trans (sameL_setA _ _ _), rfl, rfl⟩

abbrev nmT : ∀ {w : World} {mg mb : Str → Option Value} {B : Heap} {os : OsState} {gs : Nat → Option GenState} {n : Nat} {fr : FR} {env : Env} {stk : List Env} {ps : List Addr} {m : MH} {x : Str} {pos : Pos} {v : AV}, env.scope.kind = .function → fr.lookup x = some v → (x == ("__debug__" : Str)) = false → (x == ("__classdict__" : Str)) = false → EV (g3 w mg mb B os gs) stk ps n env fr m (.Name x pos) (Is m v) := EV.name

theorem ca_after (SB : St0 (g3 w mg mb B os gs) B) (hAE : mg "AttributeError" = none) (T a x p C D Cp : Addr) (hT : IsT mh T) (hC : LkC (hd.heap_39 w.params) C) (h : kls mh a = some C) (hD : LkC (hd.heap_39 w.params) D) (hk : kls mh x = some D) (hx : Off mh x)
    (hp : fld mh a "next_on_list" = some (.ref p)) (hpn : fld mh p "prev_on_list" ≠ none) (hpk : kls mh p = some Cp) (hCp : LkC (hd.heap_39 w.params) Cp) (hax : a ≠ x) :
    CA (g3 w mg mb B os gs) (n + 3) (.ref 176) [.ref T, .ref a, .ref x] mh (Is (insA mh a x p) .none) := by
  tb_start
  intro L stk ps hL ok
  have ka := (cls_hide mh a).trans h
  have kx := (cls_hide mh x).trans hk
  have kp := (cls_hide mh p).trans hpk
  have hx' := off_hide hx
  have hp' := (attr_hide mh a "next_on_list").trans hp
  have nm : ∀ {fr : FR} {env : Env} {stk : List Env} {ps : List Addr} {m : MH} {x : Str} {pos : Pos} {v : AV}, env.scope.kind = .function → fr.lookup x = some v → (x == ("__debug__" : Str)) = false → (x == ("__classdict__" : Str)) = false → EV (g3 w mg mb B os gs) stk ps (n + 2) env fr m (.Name x pos) (Is m v) := EV.name
  refine ST.assertI ok (TJ.notI (TJ.valI (EV.met1 SB ok.loc (nm rfl rfl rfl rfl) hT.hide.k (hmT_ion _) (hT.hide.f _) (nm rfl rfl rfl rfl) (ca_ion_f SB hAE T x D hT.hide hD kx hx')) tr_bool)) ?_
  refine ST.assertI ok (TJ.cmpI ok.loc (Nat.succ_pos _) (nm rfl rfl rfl rfl) (nm rfl rfl rfl rfl) (op_isnot_ne ka kx hax)) ?_
  refine ST.stepI ok (.inl rfl) (EV.met1 SB ok.loc (nm rfl rfl rfl rfl) hT.hide.k (hmT_next _) (hT.hide.f _) (nm rfl rfl rfl rfl) (ca_next_hit SB T a p C hC ka hp')) ?_
  refine ST.assertI ok (TJ.cmpI ok.loc (Nat.succ_pos _) (nm rfl rfl rfl rfl) EV.const_none op_isnot_none_ref) ?_
  refine ST.exprI ok (EV.met2 SB ok.loc (nm rfl rfl rfl rfl) hT.hide.k (hmT_snext _) (hT.hide.f _) (nm rfl rfl rfl rfl) (nm rfl rfl rfl rfl) (ca_set_next SB T a x C hC ka (.inr (by rw [hp']; simp)))) ?_
  have hT1 := hT.hide.setA (x := "next_on_list") (v := .ref x) C ka hC.ne
  have off1 : Off (setA (hideL mh) a "next_on_list" (.ref x)) x := by
    unfold Off nxt prv at *
    rw [attr_setA ka, attr_setA ka, if_neg (fun z => hax z.1.symm), if_neg (fun z => hax z.1.symm)]
    refine hx'.imp (fun z => ⟨z.1, z.2.1, ?_⟩) id
    have : setA (hideL mh) a "next_on_list" (.ref x) x = hideL mh x := setA_other hax.symm
    unfold asz at *
    rw [this]; exact z.2.2
  have kx1 := (cls_setA (mh := hideL mh) a "next_on_list" (.ref x) x).trans kx
  refine ST.exprI ok (EV.met2 SB ok.loc (nm rfl rfl rfl rfl) hT1.k (hmT_sprev _) (hT1.f _) (nm rfl rfl rfl rfl) (nm rfl rfl rfl rfl) (ca_set_prev SB T x a D hD kx1 (off1.imp (fun z => by omega) (fun z => nn z.2)))) ?_
  have hT2 := hT1.setA (x := "prev_on_list") (v := .ref a) D kx1 hD.ne
  have kx2 := (cls_setA (mh := setA (hideL mh) a "next_on_list" (.ref x)) x "prev_on_list" (.ref a) x).trans kx1
  refine ST.exprI ok (EV.met2 SB ok.loc (nm rfl rfl rfl rfl) hT2.k (hmT_snext _) (hT2.f _) (nm rfl rfl rfl rfl) (nm rfl rfl rfl rfl) (ca_set_next SB T x p D hD kx2 (room2 kx1 (off1.imp (fun z => ⟨z.2.1, z.1, z.2.2⟩) fun z => nn z.1)))) ?_
  have hT3 := hT2.setA (x := "next_on_list") (v := .ref p) D kx2 hD.ne
  have kp3 : kls (setA (setA (setA (hideL mh) a "next_on_list" (.ref x)) x "prev_on_list" (.ref a)) x "next_on_list" (.ref p)) p = some Cp := by rw [cls_setA, cls_setA, cls_setA]; exact kp
  refine ST.exprI ok (EV.met2 SB ok.loc (nm rfl rfl rfl rfl) hT3.k (hmT_sprev _) (hT3.f _) (nm rfl rfl rfl rfl) (nm rfl rfl rfl rfl) (ca_set_prev SB T p x Cp hCp kp3 (.inr (by
    rw [attr_setA kx2, attr_setA kx1, attr_setA ka, attr_hide]
    split
    · simp
    · split
      · simp
      · split
        · simp
        · exact hpn)))) ?_
  exact ST.nilI ⟨insA mh _ x p, by unfold insA; rw [← hide_setA, ← hide_setA, ← hide_setA, ← hide_setA], (((sameL_setA _ _ _).trans (sameL_setA _ _ _)).trans (sameL_setA _ _ _)).trans (sameL_setA _ _ _), rfl, rfl⟩

theorem ca_unlink (SB : St0 (g3 w mg mb B os gs) B) (hAE : mg "AttributeError" = none) (T x p q C Cp Cq : Addr) (hT : IsT mh T) (hC : LkC (hd.heap_39 w.params) C) (h : kls mh x = some C) (hCp : LkC (hd.heap_39 w.params) Cp) (hpk : kls mh p = some Cp) (hCq : LkC (hd.heap_39 w.params) Cq) (hqk : kls mh q = some Cq)
    (hp : prv mh x = some (.ref p)) (hq : nxt mh x = some (.ref q)) (hpn : nxt mh p ≠ none) (hqn : prv mh q ≠ none) (hqx : q ≠ x) :
    CA (g3 w mg mb B os gs) (n + 3) (.ref 190) [.ref T, .ref x] mh (Is (cut mh x p q) .none) := by
  tb_start
  intro L stk ps hL ok
  have kx := (cls_hide mh x).trans h
  have kp := (cls_hide mh p).trans hpk
  have kq := (cls_hide mh q).trans hqk
  have hp' := (attr_hide mh x "prev_on_list").trans hp
  have hq' := (attr_hide mh x "next_on_list").trans hq
  have nm : ∀ {fr : FR} {env : Env} {stk : List Env} {ps : List Addr} {m : MH} {x : Str} {pos : Pos} {v : AV}, env.scope.kind = .function → fr.lookup x = some v → (x == ("__debug__" : Str)) = false → (x == ("__classdict__" : Str)) = false → EV (g3 w mg mb B os gs) stk ps (n + 2) env fr m (.Name x pos) (Is m v) := EV.name
  refine ST.ifF ok (TJ.notI (TJ.valI (EV.met1 SB ok.loc (nm rfl rfl rfl rfl) hT.hide.k (hmT_ion _) (hT.hide.f _) (nm rfl rfl rfl rfl) (ca_ion_t SB T x q C Cq hT.hide hC kx hq' kq hqx)) tr_bool)) ?_
  refine ST.stepI ok (.inl rfl) (EV.met1 SB ok.loc (nm rfl rfl rfl rfl) hT.hide.k (hmT_prev _) (hT.hide.f _) (nm rfl rfl rfl rfl) (ca_prev_hit SB T x p C hC kx hp')) ?_
  refine ST.stepI ok (.inl rfl) (EV.met1 SB ok.loc (nm rfl rfl rfl rfl) hT.hide.k (hmT_next _) (hT.hide.f _) (nm rfl rfl rfl rfl) (ca_next_hit SB T x q C hC kx hq')) ?_
  refine ST.exprI ok (EV.met2 SB ok.loc (nm rfl rfl rfl rfl) hT.hide.k (hmT_snext _) (hT.hide.f _) (nm rfl rfl rfl rfl) (nm rfl rfl rfl rfl) (ca_set_next SB T p q Cp hCp kp (.inr (by rw [attr_hide]; exact hpn)))) ?_
  have hT1 := hT.hide.setA (x := "next_on_list") (v := .ref q) Cp kp hCp.ne
  have k1 := fun b => cls_setA (mh := hideL mh) p "next_on_list" (.ref q) b
  refine ST.exprI ok (EV.met2 SB ok.loc (nm rfl rfl rfl rfl) hT1.k (hmT_sprev _) (hT1.f _) (nm rfl rfl rfl rfl) (nm rfl rfl rfl rfl) (ca_set_prev SB T q p Cq hCq ((k1 q).trans kq) (.inr (by rw [attr_setA kp, attr_hide]; split; simp; exact hqn)))) ?_
  have hT2 := hT1.setA (x := "prev_on_list") (v := .ref p) Cq ((k1 q).trans kq) hCq.ne
  have k2 := fun b => (cls_setA (mh := setA (hideL mh) p "next_on_list" (.ref q)) q "prev_on_list" (.ref p) b).trans (k1 b)
  refine ST.exprI ok (EV.met2 SB ok.loc (nm rfl rfl rfl rfl) hT2.k (hmT_snext _) (hT2.f _) (nm rfl rfl rfl rfl) (nm rfl rfl rfl rfl) (ca_set_next SB T x x C hC ((k2 x).trans kx) (.inr (by
    rw [attr_setA ((k1 q).trans kq), attr_setA kp, hq']; split; simp; split <;> simp)))) ?_
  have hT3 := hT2.setA (x := "next_on_list") (v := .ref x) C ((k2 x).trans kx) hC.ne
  have k3 := fun b => (cls_setA (mh := setA (setA (hideL mh) p "next_on_list" (.ref q)) q "prev_on_list" (.ref p)) x "next_on_list" (.ref x) b).trans (k2 b)
  refine ST.exprI ok (EV.met2 SB ok.loc (nm rfl rfl rfl rfl) hT3.k (hmT_sprev _) (hT3.f _) (nm rfl rfl rfl rfl) (nm rfl rfl rfl rfl) (ca_set_prev SB T x x C hC ((k3 x).trans kx) (.inr (by
    rw [attr_setA ((k2 x).trans kx), attr_setA ((k1 q).trans kq), attr_setA kp, hp']; split; simp; split; simp; split <;> simp)))) ?_
  exact ST.nilI ⟨cut mh x p q, by unfold cut; rw [← hide_setA, ← hide_setA, ← hide_setA, ← hide_setA], (((sameL_setA _ _ _).trans (sameL_setA _ _ _)).trans (sameL_setA _ _ _)).trans (sameL_setA _ _ _), rfl, rfl⟩

theorem ca_unlink_off (SB : St0 (g3 w mg mb B os gs) B) (hAE : mg "AttributeError" = none) (T x C : Addr) (hT : IsT mh T) (hC : LkC (hd.heap_39 w.params) C) (h : kls mh x = some C) (hx : Off mh x) :
    CA (g3 w mg mb B os gs) (n + 3) (.ref 190) [.ref T, .ref x] mh (Is mh .none) := by
  tb_start
  intro L stk ps hL ok
  refine ST.ifT ok (TJ.notI (TJ.valI (EV.met1 SB ok.loc (EV.name rfl rfl rfl rfl) hT.hide.k (hmT_ion _) (hT.hide.f _) (EV.name rfl rfl rfl rfl) (ca_ion_f SB hAE T x C hT.hide hC ((cls_hide mh x).trans h) (off_hide hx))) tr_bool)) ?_
  exact ST.retN ⟨(fun q => nomatch q), fun _ => ⟨mh, rfl, SameL.refl _, rfl, rfl⟩⟩

/-- a list's own object -/
structure Lst (mh : MH) (T h : Addr) : Prop where
  k : kls mh h = some 101
  t : fld mh h "list_type" = some (.ref T)
  d : fld mh h "head" = some (.ref h)
  f : ∀ y : Str, y ≠ "list_type" → y ≠ "head" → y ≠ "next_on_list" → y ≠ "prev_on_list" → fld mh h y = none
theorem Lst.hide {mh : MH} {T h : Addr} (x : Lst mh T h) : Lst (hideL mh) T h := ⟨(cls_hide _ _).trans x.k, (attr_hide _ _ _).trans x.t, (attr_hide _ _ _).trans x.d, fun y a b c d => (attr_hide _ _ _).trans (x.f y a b c d)⟩
theorem Lst.same {S : Addr → Prop} {mh mh' : MH} {T h : Addr} (x : Lst mh T h) (s : SameO S mh mh') : Lst mh' T h := ⟨(s.k h).trans x.k, (s.f h _ (by decide +kernel) (by decide +kernel)).trans x.t, (s.f h _ (by decide +kernel) (by decide +kernel)).trans x.d, fun y a b c d => (s.f h y c d).trans (x.f y a b c d)⟩
theorem IsT.same {S : Addr → Prop} {mh mh' : MH} {T : Addr} (x : IsT mh T) (s : SameO S mh mh') (hS : ¬ S T) : IsT mh' T := ⟨(s.k T).trans x.k, fun y => (s.nx hS y).trans (x.f y)⟩

theorem hmL_ion (P : Params) : HasMeth (hd.heap_39 P) 101 "is_on_list" 56 := ⟨pcL P, by k_is, by k_is, by k_is⟩
theorem hmL_emp (P : Params) : HasMeth (hd.heap_39 P) 101 "is_empty" 42 := ⟨pcL P, by k_is, by k_is, by k_is⟩
theorem hmL_app (P : Params) : HasMeth (hd.heap_39 P) 101 "append" 63 := ⟨pcL P, by k_is, by k_is, by k_is⟩
theorem hmL_pre (P : Params) : HasMeth (hd.heap_39 P) 101 "prepend" 70 := ⟨pcL P, by k_is, by k_is, by k_is⟩
theorem hmL_rem (P : Params) : HasMeth (hd.heap_39 P) 101 "remove" 84 := ⟨pcL P, by k_is, by k_is, by k_is⟩
theorem hmL_pop (P : Params) : HasMeth (hd.heap_39 P) 101 "pop_first" 91 := ⟨pcL P, by k_is, by k_is, by k_is⟩
theorem hmL_clr (P : Params) : HasMeth (hd.heap_39 P) 101 "clear" 49 := ⟨pcL P, by k_is, by k_is, by k_is⟩
theorem hmL_gen (P : Params) : HasMeth (hd.heap_39 P) 101 "generator" 98 := ⟨pcL P, by k_is, by k_is, by k_is⟩
theorem fdL_t (P : Params) : findIn (hd.heap_39 P) (.ref 101) "list_type" = some none := by k_is
theorem fdL_h (P : Params) : findIn (hd.heap_39 P) (.ref 101) "head" = some none := by k_is
theorem tkL_t (P : Params) : takerIn (hd.heap_39 P) 101 "list_type" = some none := by k_is
theorem tkL_h (P : Params) : takerIn (hd.heap_39 P) 101 "head" = some none := by k_is

section
variable {stk : List Env} {ps : List Addr} {env : Env} {fr : FR}
theorem ev_t (SB : St0 (g3 w mg mb B os gs) B) {T h : Addr} (x : Lst mh T h) {o : Expr} {pos : Pos} (ho : EV (g3 w mg mb B os gs) stk ps n env fr mh o (Is mh (.ref h)))
    (he : eval (.Attribute o "list_type" pos) env = (do
      let o' ← eval o env
      standAt pos.atName
      let r ← holding [o'] (getAttr o' "list_type" true)
      letTemporaryGo o o' r
      pure r)) : EV (g3 w mg mb B os gs) stk ps n env fr mh (.Attribute o "list_type" pos) (Is mh (.ref T)) := EV.att SB ho x.k (pcL _) (fdL_t _) rfl x.t he
theorem ev_h (SB : St0 (g3 w mg mb B os gs) B) {T h : Addr} (x : Lst mh T h) {o : Expr} {pos : Pos} (ho : EV (g3 w mg mb B os gs) stk ps n env fr mh o (Is mh (.ref h)))
    (he : eval (.Attribute o "head" pos) env = (do
      let o' ← eval o env
      standAt pos.atName
      let r ← holding [o'] (getAttr o' "head" true)
      letTemporaryGo o o' r
      pure r)) : EV (g3 w mg mb B os gs) stk ps n env fr mh (.Attribute o "head" pos) (Is mh (.ref h)) := EV.att SB ho x.k (pcL _) (fdL_h _) rfl x.d he
end

theorem ca_Lappend (SB : St0 (g3 w mg mb B os gs) B) (hAE : mg "AttributeError" = none) (T h x p D Cp : Addr) (hT : IsT mh T) (hL : Lst mh T h) (hD : LkC (hd.heap_39 w.params) D) (hk : kls mh x = some D) (hx : Off mh x)
    (hp : prv mh h = some (.ref p)) (hpn : nxt mh p ≠ none) (hpk : kls mh p = some Cp) (hCp : LkC (hd.heap_39 w.params) Cp) (hax : h ≠ x) :
    CA (g3 w mg mb B os gs) (n + 4) (.ref 63) [.ref h, .ref x] mh (Is (insB mh h x p) .none) := by
  tb_start
  intro L stk ps hL' ok
  have hl := hL.hide
  refine ST.exprI ok (EV.met2 SB ok.loc (ev_t SB hl (EV.name rfl rfl rfl rfl) (by with_unfolding_all rfl)) hT.hide.k (hmT_before _) (hT.hide.f _) (ev_h SB hl (EV.name rfl rfl rfl rfl) (by with_unfolding_all rfl)) (EV.name rfl rfl rfl rfl)
    (ca_before SB hAE T h x p 101 D hT.hide (lkL _) hl.k hD ((cls_hide mh x).trans hk) (off_hide hx) ((attr_hide mh h _).trans hp) (by rw [attr_hide]; exact hpn) ((cls_hide mh p).trans hpk) hCp hax)) ?_
  exact ST.nilI ⟨insB mh _ x p, by unfold insB; rw [← hide_setA, ← hide_setA, ← hide_setA, ← hide_setA], (((sameL_setA _ _ _).trans (sameL_setA _ _ _)).trans (sameL_setA _ _ _)).trans (sameL_setA _ _ _), rfl, rfl⟩
theorem ca_Lprepend (SB : St0 (g3 w mg mb B os gs) B) (hAE : mg "AttributeError" = none) (T h x p D Cp : Addr) (hT : IsT mh T) (hL : Lst mh T h) (hD : LkC (hd.heap_39 w.params) D) (hk : kls mh x = some D) (hx : Off mh x)
    (hp : nxt mh h = some (.ref p)) (hpn : prv mh p ≠ none) (hpk : kls mh p = some Cp) (hCp : LkC (hd.heap_39 w.params) Cp) (hax : h ≠ x) :
    CA (g3 w mg mb B os gs) (n + 4) (.ref 70) [.ref h, .ref x] mh (Is (insA mh h x p) .none) := by
  tb_start
  intro L stk ps hL' ok
  have hl := hL.hide
  refine ST.exprI ok (EV.met2 SB ok.loc (ev_t SB hl (EV.name rfl rfl rfl rfl) (by with_unfolding_all rfl)) hT.hide.k (hmT_after _) (hT.hide.f _) (ev_h SB hl (EV.name rfl rfl rfl rfl) (by with_unfolding_all rfl)) (EV.name rfl rfl rfl rfl)
    (ca_after SB hAE T h x p 101 D Cp hT.hide (lkL _) hl.k hD ((cls_hide mh x).trans hk) (off_hide hx) ((attr_hide mh h _).trans hp) (by rw [attr_hide]; exact hpn) ((cls_hide mh p).trans hpk) hCp hax)) ?_
  exact ST.nilI ⟨insA mh _ x p, by unfold insA; rw [← hide_setA, ← hide_setA, ← hide_setA, ← hide_setA], (((sameL_setA _ _ _).trans (sameL_setA _ _ _)).trans (sameL_setA _ _ _)).trans (sameL_setA _ _ _), rfl, rfl⟩
theorem ca_Lremove (SB : St0 (g3 w mg mb B os gs) B) (hAE : mg "AttributeError" = none) (T h x p q C Cp Cq : Addr) (hT : IsT mh T) (hL : Lst mh T h) (hC : LkC (hd.heap_39 w.params) C) (hk : kls mh x = some C) (hCp : LkC (hd.heap_39 w.params) Cp) (hpk : kls mh p = some Cp) (hCq : LkC (hd.heap_39 w.params) Cq) (hqk : kls mh q = some Cq)
    (hp : prv mh x = some (.ref p)) (hq : nxt mh x = some (.ref q)) (hpn : nxt mh p ≠ none) (hqn : prv mh q ≠ none) (hqx : q ≠ x) :
    CA (g3 w mg mb B os gs) (n + 4) (.ref 84) [.ref h, .ref x] mh (Is (cut mh x p q) .none) := by
  tb_start
  intro L stk ps hL' ok
  have hl := hL.hide
  refine ST.exprI ok (EV.met1 SB ok.loc (ev_t SB hl (EV.name rfl rfl rfl rfl) (by with_unfolding_all rfl)) hT.hide.k (hmT_unlink _) (hT.hide.f _) (EV.name rfl rfl rfl rfl)
    (ca_unlink SB hAE T x p q C Cp Cq hT.hide hC ((cls_hide mh x).trans hk) hCp ((cls_hide mh p).trans hpk) hCq ((cls_hide mh q).trans hqk) ((attr_hide mh x _).trans hp) ((attr_hide mh x _).trans hq) (by rw [nxt, attr_hide]; exact hpn) (by rw [prv, attr_hide]; exact hqn) hqx)) ?_
  exact ST.nilI ⟨cut mh x p q, by unfold cut; rw [← hide_setA, ← hide_setA, ← hide_setA, ← hide_setA], (((sameL_setA _ _ _).trans (sameL_setA _ _ _)).trans (sameL_setA _ _ _)).trans (sameL_setA _ _ _), rfl, rfl⟩
theorem ca_Lion_t (SB : St0 (g3 w mg mb B os gs) B) (T h x q C Cq : Addr) (hT : IsT mh T) (hL : Lst mh T h) (hC : LkC (hd.heap_39 w.params) C) (hk : kls mh x = some C) (hqk : kls mh q = some Cq) (hq : nxt mh x = some (.ref q)) (hqx : q ≠ x) :
    CA (g3 w mg mb B os gs) (n + 3) (.ref 56) [.ref h, .ref x] mh (Is mh (.bool true)) := by
  tb_start
  intro L stk ps hL' ok
  have hl := hL.hide
  exact ST.retI ok (EV.met1 SB ok.loc (ev_t SB hl (EV.name rfl rfl rfl rfl) (by with_unfolding_all rfl)) hT.hide.k (hmT_ion _) (hT.hide.f _) (EV.name rfl rfl rfl rfl)
    (ca_ion_t SB T x q C Cq hT.hide hC ((cls_hide mh x).trans hk) ((attr_hide mh x _).trans hq) ((cls_hide mh q).trans hqk) hqx)) ⟨mh, rfl, SameL.refl _, rfl, rfl⟩
theorem ca_Lion_f (SB : St0 (g3 w mg mb B os gs) B) (hAE : mg "AttributeError" = none) (T h x C : Addr) (hT : IsT mh T) (hL : Lst mh T h) (hC : LkC (hd.heap_39 w.params) C) (hk : kls mh x = some C) (hx : Off mh x) :
    CA (g3 w mg mb B os gs) (n + 3) (.ref 56) [.ref h, .ref x] mh (Is mh (.bool false)) := by
  tb_start
  intro L stk ps hL' ok
  have hl := hL.hide
  exact ST.retI ok (EV.met1 SB ok.loc (ev_t SB hl (EV.name rfl rfl rfl rfl) (by with_unfolding_all rfl)) hT.hide.k (hmT_ion _) (hT.hide.f _) (EV.name rfl rfl rfl rfl)
    (ca_ion_f SB hAE T x C hT.hide hC ((cls_hide mh x).trans hk) (off_hide hx))) ⟨mh, rfl, SameL.refl _, rfl, rfl⟩
theorem ca_Lemp_f (SB : St0 (g3 w mg mb B os gs) B) (T h q Cq : Addr) (hT : IsT mh T) (hL : Lst mh T h) (hqk : kls mh q = some Cq) (hq : nxt mh h = some (.ref q)) (hqx : q ≠ h) :
    CA (g3 w mg mb B os gs) (n + 3) (.ref 42) [.ref h] mh (Is mh (.bool false)) := by
  tb_start
  intro L stk ps hL' ok
  have hl := hL.hide
  exact ST.retI ok (EV.notT (EV.met1 SB ok.loc (ev_t SB hl (EV.name rfl rfl rfl rfl) (by with_unfolding_all rfl)) hT.hide.k (hmT_ion _) (hT.hide.f _) (ev_h SB hl (EV.name rfl rfl rfl rfl) (by with_unfolding_all rfl))
    (ca_ion_t SB T h q 101 Cq hT.hide (lkL _) hl.k ((attr_hide mh h _).trans hq) ((cls_hide mh q).trans hqk) hqx)) (by rintro v m ⟨rfl, rfl⟩; exact ⟨true, tr_bool, rfl, rfl⟩)) ⟨mh, rfl, SameL.refl _, rfl, rfl⟩
theorem ca_Lemp_t (SB : St0 (g3 w mg mb B os gs) B) (hAE : mg "AttributeError" = none) (T h : Addr) (hT : IsT mh T) (hL : Lst mh T h) (hx : Off mh h) :
    CA (g3 w mg mb B os gs) (n + 3) (.ref 42) [.ref h] mh (Is mh (.bool true)) := by
  tb_start
  intro L stk ps hL' ok
  have hl := hL.hide
  exact ST.retI ok (EV.notT (EV.met1 SB ok.loc (ev_t SB hl (EV.name rfl rfl rfl rfl) (by with_unfolding_all rfl)) hT.hide.k (hmT_ion _) (hT.hide.f _) (ev_h SB hl (EV.name rfl rfl rfl rfl) (by with_unfolding_all rfl))
    (ca_ion_f SB hAE T h 101 hT.hide (lkL _) hl.k (off_hide hx))) (by rintro v m ⟨rfl, rfl⟩; exact ⟨false, tr_bool, rfl, rfl⟩)) ⟨mh, rfl, SameL.refl _, rfl, rfl⟩
theorem ca_Lpop_none (SB : St0 (g3 w mg mb B os gs) B) (T h : Addr) (hT : IsT mh T) (hL : Lst mh T h) (hq : nxt mh h = some (.ref h)) :
    CA (g3 w mg mb B os gs) (n + 3) (.ref 91) [.ref h] mh (Is mh .none) := by
  tb_start
  intro L stk ps hL' ok
  have hl := hL.hide
  refine ST.stepI ok (.inl rfl) (EV.met1 SB ok.loc (ev_t SB hl (EV.name rfl rfl rfl rfl) (by with_unfolding_all rfl)) hT.hide.k (hmT_next _) (hT.hide.f _) (ev_h SB hl (EV.name rfl rfl rfl rfl) (by with_unfolding_all rfl))
    (ca_next_hit SB T h h 101 (lkL _) hl.k ((attr_hide mh h _).trans hq))) ?_
  refine ST.ifT ok (TJ.cmpI ok.loc (Nat.succ_pos _) (EV.name rfl rfl rfl rfl) (ev_h SB hl (EV.name rfl rfl rfl rfl) (by with_unfolding_all rfl)) op_is_self) ?_
  exact ST.retI ok EV.const_none ⟨(fun q => nomatch q), fun _ => ⟨mh, rfl, SameL.refl _, rfl, rfl⟩⟩
theorem ca_Lpop (SB : St0 (g3 w mg mb B os gs) B) (hAE : mg "AttributeError" = none) (T h x p q C Cq : Addr) (hT : IsT mh T) (hL : Lst mh T h) (hC : LkC (hd.heap_39 w.params) C) (hk : kls mh x = some C) (hCq : LkC (hd.heap_39 w.params) Cq) (hqk : kls mh q = some Cq)
    (hh : nxt mh h = some (.ref x)) (hxh : x ≠ h) (hp : prv mh x = some (.ref h)) (hq : nxt mh x = some (.ref q)) (hqn : prv mh q ≠ none) (hqx : q ≠ x) :
    CA (g3 w mg mb B os gs) (n + 5) (.ref 91) [.ref h] mh (Is (cut mh x h q) (.ref x)) := by
  tb_start
  intro L stk ps hL' ok
  have hl := hL.hide
  refine ST.stepI ok (.inl rfl) (EV.met1 SB ok.loc (ev_t SB hl (EV.name rfl rfl rfl rfl) (by with_unfolding_all rfl)) hT.hide.k (hmT_next _) (hT.hide.f _) (ev_h SB hl (EV.name rfl rfl rfl rfl) (by with_unfolding_all rfl))
    (ca_next_hit SB T h x 101 (lkL _) hl.k ((attr_hide mh h _).trans hh))) ?_
  refine ST.ifF ok (TJ.cmpI ok.loc (Nat.succ_pos _) (EV.name rfl rfl rfl rfl) (ev_h SB hl (EV.name rfl rfl rfl rfl) (by with_unfolding_all rfl)) (op_is_ne ((cls_hide mh x).trans hk) hl.k hxh)) ?_
  refine ST.exprI ok (EV.met1 SB ok.loc (EV.name rfl rfl rfl rfl) hl.k (hmL_rem _) (hl.f _ (by decide +kernel) (by decide +kernel) (by decide +kernel) (by decide +kernel)) (EV.name rfl rfl rfl rfl)
    (ca_Lremove SB hAE T h x h q C 101 Cq hT.hide hl hC ((cls_hide mh x).trans hk) (lkL _) hl.k hCq ((cls_hide mh q).trans hqk) ((attr_hide mh x _).trans hp) ((attr_hide mh x _).trans hq) (by rw [nxt, attr_hide, show fld mh h "next_on_list" = some (.ref x) from hh]; simp) (by rw [prv, attr_hide]; exact hqn) hqx)) ?_
  exact ST.retI ok (EV.name rfl rfl rfl rfl) ⟨cut mh x h q, by unfold cut; rw [← hide_setA, ← hide_setA, ← hide_setA, ← hide_setA], (((sameL_setA _ _ _).trans (sameL_setA _ _ _)).trans (sameL_setA _ _ _)).trans (sameL_setA _ _ _), rfl, rfl⟩

theorem fT_ga (P : Params) : specialIn (hd.heap_39 P) (.ref 193) "__getattribute__" = some (some (.builtin "type.__getattribute__")) := by k_is
theorem fT_rd (P : Params) : readsIn (hd.heap_39 P) 193 (.type "type") = true := by k_is
theorem fT_L (P : Params) : findCls (hd.heap_39 P) (.ref 193) (.type "type") "List" = some (.val (.ref 101)) := by k_is
theorem kL (P : Params) : keepIn (hd.heap_39 P) (.ref 101) = true := by k_is
theorem kT (P : Params) : keepIn (hd.heap_39 P) (.ref 193) = true := by k_is
theorem kO (P : Params) : keepIn (hd.heap_39 P) (.ref 238) = true := by k_is
theorem mkL (P : Params) : makesIn (hd.heap_39 P) 101 = true := by k_is
theorem mkT (P : Params) : makesIn (hd.heap_39 P) 193 = true := by k_is
theorem mkO (P : Params) : makesIn (hd.heap_39 P) 238 = true := by k_is
theorem inL (P : Params) : findIn (hd.heap_39 P) (.ref 101) "__init__" = some (some (.ref 35)) := by k_is
theorem inT (P : Params) : findIn (hd.heap_39 P) (.ref 193) "__init__" = some (some (.ref 113)) := by k_is
theorem inO (P : Params) : findIn (hd.heap_39 P) (.ref 238) "__init__" = some (some (.ref 212)) := by k_is
theorem fnL (P : Params) : typeIn (hd.heap_39 P) (.ref 35) = some (.type "function") := by k_is
theorem fnT (P : Params) : typeIn (hd.heap_39 P) (.ref 113) = some (.type "function") := by k_is
theorem fnO (P : Params) : typeIn (hd.heap_39 P) (.ref 212) = some (.type "function") := by k_is
theorem tkO_s (P : Params) : takerIn (hd.heap_39 P) 238 "sink" = some none := by k_is
theorem tkO_p (P : Params) : takerIn (hd.heap_39 P) 238 "_path" = some none := by k_is
theorem tkO_f (P : Params) : takerIn (hd.heap_39 P) 238 "_for_route_refresh" = some none := by k_is
theorem fdO_p (P : Params) : findIn (hd.heap_39 P) (.ref 238) "_path" = some none := by k_is
theorem fdO_path (P : Params) : findIn (hd.heap_39 P) (.ref 238) "path" = some (some (.ref 220)) := by k_is
theorem pr1 (P : Params) : specialIn (hd.heap_39 P) (.ref 220) "__get__" = some (some (.builtin "property.__get__")) := by k_is
theorem pr2 (P : Params) : takesIn (hd.heap_39 P) (.ref 220) = some true := by k_is
theorem pr3 (P : Params) : ∃ rest, recIn (hd.heap_39 P) 220 "property" = some (.ref 219 :: rest) := ⟨_, by k_is⟩
/-- a list's object, made -/
def iniL (mh : MH) (T h : Addr) : MH := setA (setA (setA (setA mh h "list_type" (.ref T)) h "head" (.ref h)) h "next_on_list" (.ref h)) h "prev_on_list" (.ref h)
theorem ca_Linit (SB : St0 (g3 w mg mb B os gs) B) (hAE : mg "AttributeError" = none) (T h d : Addr) (hT : IsT mh T) (hm : mh h = some (.inst 101 d [])) (hTh : T ≠ h) :
    CA (g3 w mg mb B os gs) (n + 4) (.ref 35) [.ref h, .ref T] mh (Is (iniL mh T h) .none) := by
  tb_start
  intro L stk ps hL' ok
  have hm' : hideL mh h = some (.inst 101 d []) := by unfold hideL; rw [hm]
  have k0 : kls (hideL mh) h = some 101 := by unfold kls; rw [hm']
  have z0 : asz (hideL mh) h = 0 := by unfold asz; rw [hm']; rfl
  have f0 : ∀ y, fld (hideL mh) h y = none := fun y => by unfold fld; rw [hm']; rfl
  refine ST.setI SB ok (EV.name rfl rfl rfl rfl) (EV.name rfl rfl rfl rfl) k0 (pcL _) (tkL_t _) (.inl (by omega)) (.ref T) ?_
  have k1 := fun b => cls_setA (mh := hideL mh) h "list_type" (.ref T) b
  have s1 := size_setA (mh := hideL mh) h "list_type" (.ref T) h
  have hT1 := hT.hide.setA (x := "list_type") (v := .ref T) 101 k0 (by decide)
  refine ST.setI SB ok (EV.name rfl rfl rfl rfl) (EV.name rfl rfl rfl rfl) ((k1 h).trans k0) (pcL _) (tkL_h _) (.inl (by omega)) (.ref h) ?_
  have k2 := fun b => (cls_setA (mh := setA (hideL mh) h "list_type" (.ref T)) h "head" (.ref h) b).trans (k1 b)
  have s2 := size_setA (mh := setA (hideL mh) h "list_type" (.ref T)) h "head" (.ref h) h
  have hT2 := hT1.setA (x := "head") (v := .ref h) 101 ((k1 h).trans k0) (by decide)
  have ft : fld (setA (setA (hideL mh) h "list_type" (.ref T)) h "head" (.ref h)) h "list_type" = some (.ref T) := by
    rw [attr_setA ((k1 h).trans k0), if_neg (fun q => absurd q.2 (by decide +kernel)), attr_setA k0, if_pos ⟨rfl, rfl⟩]
  have fh : fld (setA (setA (hideL mh) h "list_type" (.ref T)) h "head" (.ref h)) h "head" = some (.ref h) := by
    rw [attr_setA ((k1 h).trans k0), if_pos ⟨rfl, rfl⟩]
  have fo : ∀ y : Str, y ≠ "list_type" → y ≠ "head" → fld (setA (setA (hideL mh) h "list_type" (.ref T)) h "head" (.ref h)) h y = none := fun y a b => by
    rw [attr_setA ((k1 h).trans k0), if_neg (fun q => b q.2), attr_setA k0, if_neg (fun q => a q.2), f0]
  refine ST.exprI ok (EV.met1 SB ok.loc (EV.att SB (EV.name rfl rfl rfl rfl) ((k2 h).trans k0) (pcL _) (fdL_t _) rfl ft (by with_unfolding_all rfl)) hT2.k (hmT_init _) (hT2.f _) (EV.att SB (EV.name rfl rfl rfl rfl) ((k2 h).trans k0) (pcL _) (fdL_h _) rfl fh (by with_unfolding_all rfl))
    (ca_init SB hAE T h 101 hT2 (lkL _) ((k2 h).trans k0) (.inl ⟨fo _ (by decide +kernel) (by decide +kernel), fo _ (by decide +kernel) (by decide +kernel), by omega⟩))) ?_
  exact ST.nilI ⟨iniL mh T h, by unfold iniL; rw [← hide_setA, ← hide_setA, ← hide_setA, ← hide_setA], (((sameL_setA _ _ _).trans (sameL_setA _ _ _)).trans (sameL_setA _ _ _)).trans (sameL_setA _ _ _), rfl, rfl⟩

theorem hide_upd {mh : MH} {a C d : Addr} {at_ : List (Str × AV)} : hideL (upd mh a (.inst C d at_)) = upd (hideL mh) a (.inst C d at_) := by
  funext b
  unfold hideL upd
  by_cases q : b = a
  · rw [if_pos q, if_pos q]
  · rw [if_neg q, if_neg q]
theorem hide_none {mh : MH} {a : Addr} (h : hideL mh a = none) : mh a = none := by
  unfold hideL at h
  cases e : mh a with
  | none => rfl
  | some o => rw [e] at h; cases o <;> cases h

theorem IsT.upd {mh : MH} {T a C d : Addr} (h : IsT mh T) (hn : mh a = none) : IsT (upd mh a (.inst C d [])) T := by
  have : T ≠ a := fun q => by have := h.k; unfold kls at this; rw [q, hn] at this; cases this
  exact ⟨by unfold kls; rw [upd_ne this]; exact h.k, fun x => by unfold fld; rw [upd_ne this]; exact h.f x⟩
theorem ca_create (SB : St0 (g3 w mg mb B os gs) B) (hAE : mg "AttributeError" = none) (hCL : mg "CircularListType" = some (.ref 193)) (T : Addr) (hT : IsT mh T) :
    CA (g3 w mg mb B os gs) (n + 6) (.ref 120) [.ref T] mh (fun v m => ∃ h d, v = .ref h ∧ mh h = none ∧ m = iniL (upd mh h (.inst 101 d [])) T h) := by
  tb_start
  intro L stk ps hL' ok
  refine ST.ret ok (EV.clsCall1 (f := 101) (mc := .type "type") SB ok.loc (EV.glob SB rfl rfl rfl hCL rfl) (fT_ga _) (fT_rd _) (fT_L _) (kL _) (EV.name rfl rfl rfl rfl)
    (CA.new (C := 101) (fI := 35) (P := fun v m => ∃ h d, v = .ref h ∧ hideL mh h = none ∧ m = iniL (upd (hideL mh) h (.inst 101 d [])) T h) SB (mkL _) (inL _) (fnL _) fun x d hx => ?_)) ?_
  · refine CA.mono (ca_Linit SB hAE T x d (hT.hide.upd hx) upd_self fun q => ?_) ?_
    · have := hT.hide.k; unfold kls at this; rw [q, hx] at this; cases this
    · rintro v m ⟨rfl, rfl⟩; exact ⟨rfl, x, d, rfl, hx, rfl⟩
  · rintro v m ⟨h, d, rfl, hx, rfl⟩
    refine ⟨iniL (upd mh h (.inst 101 d [])) T h, ?_, ?_, h, d, rfl, hide_none hx, rfl⟩
    · unfold iniL; rw [hide_setA, hide_setA, hide_setA, hide_setA, hide_upd]
    · exact (upd_sameL_new (hide_none hx)).trans ((((sameL_setA _ _ _).trans (sameL_setA _ _ _)).trans (sameL_setA _ _ _)).trans (sameL_setA _ _ _))

/-- a route's object, made -/
def iniO (mh : MH) (x : Addr) (k : Int) : MH := setA (setA (setA mh x "sink" .none) x "_path" (.int k)) x "_for_route_refresh" (.bool false)
theorem ca_Oinit (SB : St0 (g3 w mg mb B os gs) B) (x d : Addr) (k : Int) (hk : k ≠ 0) (hm : mh x = some (.inst 238 d [])) :
    CA (g3 w mg mb B os gs) (n + 2) (.ref 212) [.ref x, .int k] mh (Is (iniO mh x k) .none) := by
  refine CA.def3 (as' := [.ref x, .int k, .bool false]) SB ⟨_, _, _, (by k_is : List.lookup _ (hd.heap_39 _) = _)⟩ (show codeIn (hd.heap_39 _) _ _ = true by k_is) rfl rfl rfl rfl (by decide) rfl rfl rfl (by decide) (by decide) ?_ ?_
  · intro s vals X hK rv
    cases rv with | cons a rv => cases rv with | cons b rv => cases rv with | nil =>
    exact ⟨[_, _, .bool false], .cons a (.cons b (.cons (.bool false) .nil)), binds_K (K := hd.heap_39 w.params) hK rfl (by k_is : List.lookup _ (hd.heap_39 _) = _) rfl rfl rfl⟩
  intro L stk ps hL' ok
  have hm' : hideL mh x = some (.inst 238 d []) := by unfold hideL; rw [hm]
  have k0 : kls (hideL mh) x = some 238 := by unfold kls; rw [hm']
  have z0 : asz (hideL mh) x = 0 := by unfold asz; rw [hm']; rfl
  refine ST.assertI ok (TJ.valI (EV.name rfl rfl rfl rfl) (b := true) (by have := tr_int (g := g3 w mg mb B os gs) (i := k); rwa [show (k != 0) = true by simpa using hk] at this)) ?_
  refine ST.setI SB ok EV.const_none (EV.name rfl rfl rfl rfl) k0 (pcO _) (tkO_s _) (.inl (by omega)) .none ?_
  have k1 := fun b => cls_setA (mh := hideL mh) x "sink" .none b
  have s1 := size_setA (mh := hideL mh) x "sink" .none x
  refine ST.setI SB ok (EV.name rfl rfl rfl rfl) (EV.name rfl rfl rfl rfl) ((k1 x).trans k0) (pcO _) (tkO_p _) (.inl (by omega)) (.int k) ?_
  have k2 := fun b => (cls_setA (mh := setA (hideL mh) x "sink" .none) x "_path" (.int k) b).trans (k1 b)
  have s2 := size_setA (mh := setA (hideL mh) x "sink" .none) x "_path" (.int k) x
  refine ST.setI SB ok (EV.name rfl rfl rfl rfl) (EV.name rfl rfl rfl rfl) ((k2 x).trans k0) (pcO _) (tkO_f _) (.inl (by omega)) (.bool false) ?_
  exact ST.nilI ⟨iniO mh x k, by unfold iniO; rw [← hide_setA, ← hide_setA, ← hide_setA], (((sameL_setA _ _ _).trans (sameL_setA _ _ _)).trans (sameL_setA _ _ _)), rfl, rfl⟩
theorem ca_newO (SB : St0 (g3 w mg mb B os gs) B) (k : Int) (hk : k ≠ 0) :
    CA (g3 w mg mb B os gs) (n + 3) (.ref 238) [.int k] mh (fun v m => ∃ x d, v = .ref x ∧ mh x = none ∧ m = iniO (upd mh x (.inst 238 d [])) x k) :=
  CA.new (C := 238) (fI := 212) (P := fun v m => ∃ x d, v = .ref x ∧ mh x = none ∧ m = iniO (upd mh x (.inst 238 d [])) x k) SB (mkO _) (inO _) (fnO _) fun x d hx =>
    CA.mono (ca_Oinit SB x d k hk upd_self) (by rintro v m ⟨rfl, rfl⟩; exact ⟨rfl, x, d, rfl, hx, rfl⟩)
theorem ca_path (SB : St0 (g3 w mg mb B os gs) B) (x : Addr) (k : Int) (hk : kls mh x = some 238) (hp : fld mh x "_path" = some (.int k)) :
    CA (g3 w mg mb B os gs) (n + 1) (.ref 219) [.ref x] mh (Is mh (.int k)) := by
  tb_start
  intro L stk ps hL' ok
  exact ST.retI ok (EV.att SB (EV.name rfl rfl rfl rfl) ((cls_hide mh x).trans hk) (pcO _) (fdO_p _) rfl ((attr_hide mh x _).trans hp) (by with_unfolding_all rfl)) ⟨mh, rfl, SameL.refl _, rfl, rfl⟩
theorem ev_path {stk : List Env} {ps : List Addr} {env : Env} {fr : FR} (SB : St0 (g3 w mg mb B os gs) B) {x : Addr} {k : Int} (hk : kls mh x = some 238) (hp : fld mh x "_path" = some (.int k)) {o : Expr} {pos : Pos} (ho : EV (g3 w mg mb B os gs) stk ps (n + 2) env fr mh o (Is mh (.ref x)))
    (he : eval (.Attribute o "path" pos) env = (do
      let o' ← eval o env
      standAt pos.atName
      let r ← holding [o'] (getAttr o' "path" true)
      letTemporaryGo o o' r
      pure r)) : EV (g3 w mg mb B os gs) stk ps (n + 2) env fr mh (.Attribute o "path" pos) (Is mh (.int k)) :=
  let ⟨_, h3⟩ := pr3 w.params; EV.prop SB ho hk (pcO _) (p := 220) (fget := 219) (fdO_path _) (pr1 _) (pr2 _) h3 (ca_path SB x k hk hp) he

/-- the type's own object, made -/
theorem ev_newT {stk : List Env} {ps : List Addr} {env : Env} {fr : FR} {px pos p1 p2 q1 q2 : Pos} {k1 k2 : Nat} {u1 u2 : Str} (SB : St0 (g3 w mg mb B os gs) B) (hf : env.scope.kind = .function) (hgl : env.globals = mainGlobals) (hx : env.kindOf "CircularListType" = some .globalImplicit) (hCL : mg "CircularListType" = some (.ref 193)) :
    EV (g3 w mg mb B os gs) stk ps (n + 3) env fr mh (.Call (.Name "CircularListType" px) [] [.mk (some "next_attr_name") (.Constant (.str u1) k1 p1) q1, .mk (some "prev_attr_name") (.Constant (.str u2) k2 p2) q2] pos) (fun v m => ∃ T d, v = .ref T ∧ mh T = none ∧ m = upd mh T (.inst 193 d [])) := fun A s Q E R hs hf' hq => by
  refine wpAny_Call_Name_kw (EV.glob (n := n + 3) SB hf hgl hx hCL rfl A s _ E R hs hf' ?_)
  rintro s1 v1 x1 m1 ⟨rfl, rfl⟩ hs1 t1 sl1 r1
  cases r1
  refine callWith_KW0 (K := hd.heap_39 w.params) (SB.keeps hs1.stays).kin (kT _) rfl ?_
  refine wpAny_evalAll_cons ?_
  show wpAny _ A (do let v ← eval (.Constant (.str u1) k1 p1) env; standAt pos; pure v) _ E s1
  refine wpAny_bind (wpAny_Constant_str (wpAny_bind (wpAny_standAt (wpAny_pure (wpAny_evalAll_cons ?_)))))
  show wpAny _ A (do let v ← eval (.Constant (.str u2) k2 p2) env; standAt pos; pure v) _ E _
  refine wpAny_bind (wpAny_Constant_str (wpAny_bind (wpAny_standAt (wpAny_pure (wpAny_evalAll_nil ?_)))))
  have hs2 := hs1.keeps (Kp.tok s1 (s1.toks + 1 + 1))
  refine ⟨(SB.keeps hs2.stays).kin, wpAny_call ?_⟩
  obtain ⟨hh, gn, dr, t, os'⟩ := s1
  obtain ⟨f1, f2, f3⟩ := hs2.fresh (C := 193)
  have S2 := SB.keeps hs2.stays
  refine make_core (makes_of (K := hd.heap_39 w.params) S2.kin (mkT _)) (looks_findIn (K := hd.heap_39 w.params) S2.kin (inT _)) (fun self => bind_fn (K := hd.heap_39 w.params) S2.kin self (fnT _)) (.inl rfl) ?_
  have S3 := SB.keeps f2.stays
  have R3 := R.make (C := 193) (rest := []) (kw := [])
  refine codeAny_call_def (o := ⟨_, _, .func _, _⟩) (by have := R3.depth; exact Nat.lt_of_le_of_lt (Nat.le_add_right _ _) this) (S3.kin _ _ (by k_is : List.lookup 113 (hd.heap_39 _) = _)) rfl S3.nl (codeRec_of S3.kin (show codeIn (hd.heap_39 _) _ _ = true by k_is)) rfl (binds_K (K := hd.heap_39 w.params) (binds := [("self", .ref _), ("next_attr_name", .str u1 _), ("prev_attr_name", .str u2 _)]) S3.kin rfl (by k_is : List.lookup _ (hd.heap_39 _) = _) rfl rfl rfl) (by decide) (by intro x hx; simp only [List.mem_cons] at hx; rcases hx with rfl | rfl | rfl | h <;> first | rfl | cases h) (fun h₀ hns hkp => ?_)
  refine wpAny_execs_cons (wpAny_Pass (wpAny_execs_nil ?_))
  have hs4 := f2.keeps (Kp.of (t := t + 1 + 1 + 3) hkp)
  refine ⟨rfl, hq _ _ _ _ ⟨_, hh.objs.size, rfl, f1, rfl⟩ hs4 (t1.trans (T.of_keeps fun b o e => hkp b o (f3 b o e))) (sl1.trans (upd_sameL_new f1)) (.ref _)⟩
end
end Mine

-- R
namespace Mine
/-- a ring: the head h, its nodes xs -/
structure Ring (mh : MH) (T h : Addr) (xs : List Addr) : Prop where
  L : Lst mh T h
  c : Chn mh h xs h
  n : (h :: xs).Nodup
  k : ∀ x ∈ xs, kls mh x = some 238
theorem Ring.frame {S : Addr → Prop} {mh m : MH} {T h : Addr} {xs : List Addr} (R : Ring mh T h xs) (s : SameO S mh m) (hS : ∀ x, x = h ∨ x ∈ xs → ¬ S x) : Ring m T h xs :=
  ⟨R.L.same s, R.c.frame (fun x hx => s.nx (hS x hx) _) (fun x hx => s.nx (hS x hx.symm) _), R.n, fun x hx => (s.k x).trans (R.k x hx)⟩
theorem Off.frame {S : Addr → Prop} {mh m : MH} {x : Addr} (h : Off mh x) (s : SameO S mh m) (hS : ¬ S x) : Off m x := by
  unfold Off nxt prv at *
  rw [s.nx hS, s.nx hS, s.sz hS]; exact h
theorem Off.self {mh : MH} {x : Addr} (h1 : nxt mh x = some (.ref x)) (h2 : prv mh x = some (.ref x)) : Off mh x := .inr ⟨h1, h2⟩
theorem Ring.notT {mh : MH} {T h : Addr} {xs : List Addr} (R : Ring mh T h xs) (hT : IsT mh T) : T ≠ h ∧ T ∉ xs :=
  ⟨(fun q => by have := R.L.k; rw [← q, hT.k] at this; cases this), (fun q => by have := R.k T q; rw [hT.k] at this; cases this)⟩
theorem Ring.head_ne {mh : MH} {T h x : Addr} {xs : List Addr} (R : Ring mh T h xs) (hx : kls mh x = some 238) : x ≠ h := fun q => by have := R.L.k; rw [← q, hx] at this; cases this
/-- what stands in a ring may be linked -/
theorem Ring.lk {mh : MH} {T h p : Addr} {xs : List Addr} (R : Ring mh T h xs) (P : Params) (hp : p ∈ h :: xs) : ∃ C, LkC (hd.heap_39 P) C ∧ kls mh p = some C := by
  rcases List.mem_cons.mp hp with rfl | hp
  · exact ⟨101, lkL P, R.L.k⟩
  · exact ⟨238, lkO P, R.k p hp⟩
section
variable {w : World} {mg mb : Str → Option Value} {B : Heap} {os : OsState} {gs : Nat → Option GenState} {n : Nat} {mh : MH} {T h x : Addr} {xs : List Addr}
abbrev On (h x : Addr) (xs : List Addr) : Addr → Prop := fun z => z ∈ h :: x :: xs

theorem Chn.nxt_ne {mh : MH} : ∀ {xs : List Addr} {a b p : Addr}, Chn mh a xs b → p ∈ a :: xs → nxt mh p ≠ none
  | [], a, b, p, h, hp => by
    rcases List.mem_cons.mp hp with rfl | hp
    · exact nn h.1
    · cases hp
  | y :: ys, a, b, p, h, hp => by
    rcases List.mem_cons.mp hp with rfl | hp
    · exact nn h.1.1
    · exact h.2.nxt_ne hp
theorem Chn.prv_ne {mh : MH} : ∀ {xs : List Addr} {a b p : Addr}, Chn mh a xs b → p = b ∨ p ∈ xs → prv mh p ≠ none
  | [], a, b, p, h, hp => by
    rcases hp with rfl | hp
    · exact nn h.2
    · cases hp
  | y :: ys, a, b, p, h, hp => by
    rcases hp with rfl | hp
    · exact h.2.prv_ne (.inl rfl)
    · rcases List.mem_cons.mp hp with rfl | hp
      · exact nn h.1.2
      · exact h.2.prv_ne (.inr hp)

theorem ring_append (SB : St0 (g3 w mg mb B os gs) B) (hAE : mg "AttributeError" = none) (hT : IsT mh T) (R : Ring mh T h xs) (kx : kls mh x = some 238) (hx : Off mh x) (hxs : x ∉ xs) :
    CA (g3 w mg mb B os gs) (n + 4) (.ref 63) [.ref h, .ref x] mh (fun v m => v = .none ∧ Ring m T h (xs ++ [x]) ∧ SameO (On h x xs) mh m) := by
  have hxh := R.head_ne kx
  obtain ⟨p, hp, hpn, _⟩ := R.c.last
  have hpm := (R.c.last_eq hp).1
  obtain ⟨Cp, lp, kp⟩ := R.lk w.params hpm
  refine CA.mono (ca_Lappend SB hAE T h x p 238 Cp hT R.L (lkO _) kx hx hp (nn hpn) kp lp hxh.symm) ?_
  rintro v m ⟨rfl, rfl⟩
  have sm : SameO (On h x xs) mh (insB mh h x p) := insB_same R.L.k kx kp List.mem_cons_self (List.mem_cons_of_mem _ List.mem_cons_self) (by rcases List.mem_cons.mp hpm with rfl | q; exact List.mem_cons_self; exact List.mem_cons_of_mem _ (List.mem_cons_of_mem _ q))
  refine ⟨rfl, ⟨R.L.same sm, R.c.put_last R.n (.inl rfl) hxh hxh hxs R.L.k kx kp hp, ?_, fun y hy => (sm.k y).trans ?_⟩, sm⟩
  · have := R.n
    rw [List.nodup_cons] at this ⊢
    refine ⟨fun q => ?_, ?_⟩
    · rcases List.mem_append.mp q with q | q
      · exact this.1 q
      · exact hxh (List.mem_singleton.mp q).symm
    · rw [List.nodup_append]
      exact ⟨this.2, by simp, fun a ha b hb q => hxs (by rw [← List.mem_singleton.mp hb, ← q]; exact ha)⟩
  · rcases List.mem_append.mp hy with hy | hy
    · exact R.k y hy
    · rw [List.mem_singleton.mp hy]; exact kx
theorem ring_prepend (SB : St0 (g3 w mg mb B os gs) B) (hAE : mg "AttributeError" = none) (hT : IsT mh T) (R : Ring mh T h xs) (kx : kls mh x = some 238) (hx : Off mh x) (hxs : x ∉ xs) :
    CA (g3 w mg mb B os gs) (n + 4) (.ref 70) [.ref h, .ref x] mh (fun v m => v = .none ∧ Ring m T h (x :: xs) ∧ SameO (On h x xs) mh m) := by
  have hxh := R.head_ne kx
  obtain ⟨p, hp, hpm, hpp⟩ : ∃ p, nxt mh h = some (.ref p) ∧ p ∈ h :: xs ∧ prv mh p ≠ none := by
    cases xs with
    | nil => exact ⟨h, R.c.1, List.mem_cons_self, nn R.c.2⟩
    | cons y ys => exact ⟨y, R.c.1.1, by simp, nn R.c.1.2⟩
  obtain ⟨Cp, lp, kp⟩ := R.lk w.params hpm
  refine CA.mono (ca_Lprepend SB hAE T h x p 238 Cp hT R.L (lkO _) kx hx hp hpp kp lp hxh.symm) ?_
  rintro v m ⟨rfl, rfl⟩
  have sm : SameO (On h x xs) mh (insA mh h x p) := insA_same R.L.k kx kp List.mem_cons_self (List.mem_cons_of_mem _ List.mem_cons_self) (by rcases List.mem_cons.mp hpm with rfl | q; exact List.mem_cons_self; exact List.mem_cons_of_mem _ (List.mem_cons_of_mem _ q))
  refine ⟨rfl, ⟨R.L.same sm, R.c.put_first R.n hxh hxs R.L.k kx kp hp, ?_, fun y hy => (sm.k y).trans ?_⟩, sm⟩
  · have := R.n
    rw [List.nodup_cons] at this ⊢
    refine ⟨fun q => ?_, List.nodup_cons.mpr ⟨hxs, this.2⟩⟩
    rcases List.mem_cons.mp q with q | q
    · exact hxh q.symm
    · exact this.1 q
  · rcases List.mem_cons.mp hy with rfl | hy
    · exact kx
    · exact R.k y hy

theorem ring_cut (R : Ring mh T h (l ++ x :: r)) {p q : Addr} (hp : prv mh x = some (.ref p)) (hq : nxt mh x = some (.ref q)) (hpm : p ∈ h :: (l ++ x :: r)) (hqm : q ∈ h :: (l ++ x :: r)) :
    Ring (cut mh x p q) T h (l ++ r) ∧ (nxt (cut mh x p q) x = some (.ref x) ∧ prv (cut mh x p q) x = some (.ref x)) ∧ SameO (On h x (l ++ r)) mh (cut mh x p q) := by
  have kk : ∀ z ∈ h :: (l ++ x :: r), ∃ C, kls mh z = some C := fun z hz => by
    rcases List.mem_cons.mp hz with rfl | hz
    · exact ⟨_, R.L.k⟩
    · exact ⟨_, R.k z hz⟩
  have on : ∀ z ∈ h :: (l ++ x :: r), On h x (l ++ r) z := fun z hz => by
    show z ∈ h :: x :: (l ++ r)
    simp only [List.mem_cons, List.mem_append] at hz ⊢
    rcases hz with h | h | h | h
    · exact .inl h
    · exact .inr (.inr (.inl h))
    · exact .inr (.inl h)
    · exact .inr (.inr (.inr h))
  obtain ⟨Cp, kp⟩ := kk p hpm
  obtain ⟨Cq, kq⟩ := kk q hqm
  have kx : kls mh x = some 238 := R.k x (by simp)
  have sm : SameO (On h x (l ++ r)) mh (cut mh x p q) := cut_same kx kp kq (on x (by simp)) (on p hpm) (on q hqm)
  refine ⟨⟨R.L.same sm, R.c.drop R.n (.inl rfl) kx kp kq hp hq, ?_, fun y hy => (sm.k y).trans (R.k y ?_)⟩, ⟨?_, ?_⟩, sm⟩
  · have := R.n
    simp only [List.nodup_cons, List.nodup_append, List.mem_append, List.mem_cons] at this ⊢
    refine ⟨fun q => this.1 (q.imp id .inr), this.2.1, this.2.2.1.2, fun a ha b hb => this.2.2.2 a ha b (.inr hb)⟩
  · rcases List.mem_append.mp hy with h | h <;> simp [h]
  · rw [cut_nxt kx kp kq, if_pos rfl]
  · rw [cut_prv kx kp kq, if_pos rfl]
theorem ring_pq (R : Ring mh T h (l ++ x :: r)) : ∃ p q, prv mh x = some (.ref p) ∧ nxt mh x = some (.ref q) ∧ p ∈ h :: (l ++ x :: r) ∧ q ∈ h :: (l ++ x :: r) ∧ q ≠ x ∧ p ≠ x := by
  obtain ⟨h1, h2⟩ := Chn.app.mp R.c
  obtain ⟨p, hp, _, _⟩ := h1.last
  have hpm := (h1.last_eq hp).1
  have nd := R.n
  simp only [List.nodup_cons, List.nodup_append, List.mem_append, List.mem_cons] at nd
  have hxh : x ≠ h := fun q => nd.1 (.inr (.inl q.symm))
  have pm : p ∈ h :: (l ++ x :: r) := by
    rcases List.mem_cons.mp hpm with rfl | q
    · simp
    · simp [q]
  have px : p ≠ x := by
    rintro rfl
    rcases List.mem_cons.mp hpm with q | q
    · exact hxh q
    · exact nd.2.2.2 p q p (.inl rfl) rfl
  cases r with
  | nil => exact ⟨p, h, hp, h2.1, pm, by simp, hxh.symm, px⟩
  | cons y ys => exact ⟨p, y, hp, h2.1.1, pm, by simp, fun q => nd.2.2.1.1 (q ▸ List.mem_cons_self), px⟩
theorem ring_remove (SB : St0 (g3 w mg mb B os gs) B) (hAE : mg "AttributeError" = none) (hT : IsT mh T) (R : Ring mh T h (l ++ x :: r)) :
    CA (g3 w mg mb B os gs) (n + 4) (.ref 84) [.ref h, .ref x] mh (fun v m => v = .none ∧ Ring m T h (l ++ r) ∧ (nxt m x = some (.ref x) ∧ prv m x = some (.ref x)) ∧ SameO (On h x (l ++ r)) mh m) := by
  obtain ⟨p, q, hp, hq, pm, qm, qx, px⟩ := ring_pq R
  obtain ⟨Cp, lp, kp⟩ := R.lk w.params pm
  obtain ⟨Cq, lq, kq⟩ := R.lk w.params qm
  refine CA.mono (ca_Lremove SB hAE T h x p q 238 Cp Cq hT R.L (lkO _) (R.k x (by simp)) lp kp lq kq hp hq (R.c.nxt_ne pm) (R.c.prv_ne (List.mem_cons.mp qm)) qx) ?_
  rintro v m ⟨rfl, rfl⟩
  exact ⟨rfl, ring_cut R hp hq pm qm⟩
theorem ring_pop (SB : St0 (g3 w mg mb B os gs) B) (hAE : mg "AttributeError" = none) (hT : IsT mh T) (R : Ring mh T h (x :: xs)) :
    CA (g3 w mg mb B os gs) (n + 5) (.ref 91) [.ref h] mh (fun v m => v = .ref x ∧ Ring m T h xs ∧ (nxt m x = some (.ref x) ∧ prv m x = some (.ref x)) ∧ SameO (On h x xs) mh m) := by
  have R' : Ring mh T h ([] ++ x :: xs) := R
  obtain ⟨p, q, hp, hq, pm, qm, qx, px⟩ := ring_pq R'
  have e : prv mh x = some (.ref h) := R.c.1.2
  rw [e] at hp; cases hp
  obtain ⟨Cq, lq, kq⟩ := R.lk w.params qm
  refine CA.mono (ca_Lpop SB hAE T h x h q 238 Cq hT R.L (lkO _) (R.k x (by simp)) lq kq R.c.1.1 px.symm e hq (R.c.prv_ne (List.mem_cons.mp qm)) qx) ?_
  rintro v m ⟨rfl, rfl⟩
  exact ⟨rfl, ring_cut R' e hq pm qm⟩
theorem ring_pop_nil (SB : St0 (g3 w mg mb B os gs) B) (hT : IsT mh T) (R : Ring mh T h []) : CA (g3 w mg mb B os gs) (n + 3) (.ref 91) [.ref h] mh (Is mh .none) := ca_Lpop_none SB T h hT R.L R.c.1
theorem ring_empty (SB : St0 (g3 w mg mb B os gs) B) (hAE : mg "AttributeError" = none) (hT : IsT mh T) (R : Ring mh T h xs) : CA (g3 w mg mb B os gs) (n + 3) (.ref 42) [.ref h] mh (Is mh (.bool xs.isEmpty)) := by
  cases xs with
  | nil => exact ca_Lemp_t SB hAE T h hT R.L (.inr R.c)
  | cons y ys => exact ca_Lemp_f SB T h y 238 hT R.L (R.k y List.mem_cons_self) R.c.1.1 (R.head_ne (R.k y List.mem_cons_self))
theorem ring_on (SB : St0 (g3 w mg mb B os gs) B) (hAE : mg "AttributeError" = none) (hT : IsT mh T) (R : Ring mh T h xs) (hx : x ∈ xs) : CA (g3 w mg mb B os gs) (n + 3) (.ref 56) [.ref h, .ref x] mh (Is mh (.bool true)) := by
  obtain ⟨l, r, rfl⟩ := List.append_of_mem hx
  obtain ⟨p, q, hp, hq, pm, qm, qx, px⟩ := ring_pq R
  obtain ⟨Cq, lq, kq⟩ := R.lk w.params qm
  exact ca_Lion_t SB T h x q 238 Cq hT R.L (lkO _) (R.k x hx) kq hq qx
theorem ring_off (SB : St0 (g3 w mg mb B os gs) B) (hAE : mg "AttributeError" = none) (hT : IsT mh T) (R : Ring mh T h xs) (kx : kls mh x = some 238) (hx : Off mh x) : CA (g3 w mg mb B os gs) (n + 3) (.ref 56) [.ref h, .ref x] mh (Is mh (.bool false)) :=
  ca_Lion_f SB hAE T h x 238 hT R.L (lkO _) kx hx

/-- what else stands as it stood -/
def But (a : Addr) (mh m : MH) : Prop := ∀ b, b ≠ a → m b = mh b
theorem But.fld {a b : Addr} {mh m : MH} (h : But a mh m) (hb : b ≠ a) (y : Str) : fld m b y = fld mh b y := by unfold Mine.fld; rw [h b hb]
theorem But.kls {a b : Addr} {mh m : MH} (h : But a mh m) (hb : b ≠ a) : kls m b = kls mh b := by unfold Mine.kls; rw [h b hb]
theorem But.asz {a b : Addr} {mh m : MH} (h : But a mh m) (hb : b ≠ a) : asz m b = asz mh b := by unfold Mine.asz; rw [h b hb]
theorem ne_of_kls {mh : MH} {a b C : Addr} (hn : mh a = none) (h : kls mh b = some C) : b ≠ a := fun q => by unfold kls at h; rw [q, hn] at h; cases h
theorem Ring.but {mh m : MH} {T h a : Addr} {xs : List Addr} (R : Ring mh T h xs) (s : But a mh m) (hn : mh a = none) : Ring m T h xs := by
  have hh : h ≠ a := ne_of_kls hn R.L.k
  have hx : ∀ x ∈ xs, x ≠ a := fun x hx => ne_of_kls hn (R.k x hx)
  refine ⟨⟨(s.kls hh).trans R.L.k, (s.fld hh _).trans R.L.t, (s.fld hh _).trans R.L.d, fun y a b c d => (s.fld hh y).trans (R.L.f y a b c d)⟩, R.c.frame (fun x q => s.fld ?_ _) (fun x q => s.fld ?_ _), R.n, fun x q => (s.kls (hx x q)).trans (R.k x q)⟩
  · rcases q with rfl | q; exact hh; exact hx x q
  · rcases q with q | rfl; exact hx x q; exact hh
theorem Off.but {mh m : MH} {a x C : Addr} (h : Off mh x) (s : But a mh m) (hn : mh a = none) (hk : kls mh x = some C) : Off m x := by
  have := ne_of_kls hn hk
  unfold Off nxt prv at *
  rw [s.fld this, s.fld this, s.asz this]; exact h
theorem IsT.but {mh m : MH} {a T : Addr} (h : IsT mh T) (s : But a mh m) (hn : mh a = none) : IsT m T := by
  have := ne_of_kls hn h.k
  exact ⟨(s.kls this).trans h.k, fun y => (s.fld this y).trans (h.f y)⟩
theorem iniL_ring {d : Addr} (hn : mh h = none) : Ring (iniL (upd mh h (.inst 101 d [])) T h) T h [] ∧ But h mh (iniL (upd mh h (.inst 101 d [])) T h) := by
  have k0 : kls (upd mh h (.inst 101 d [])) h = some 101 := by unfold kls; rw [upd_self]
  have f0 : ∀ y, fld (upd mh h (.inst 101 d [])) h y = none := fun y => by unfold fld; rw [upd_self]; rfl
  have F : ∀ y : Str, fld (iniL (upd mh h (.inst 101 d [])) T h) h y = if y = "prev_on_list" then some (.ref h) else if y = "next_on_list" then some (.ref h) else if y = "head" then some (.ref h) else if y = "list_type" then some (.ref T) else none := fun y => by
    unfold iniL
    rw [attr_setA (C := 101) (by simp only [cls_setA, k0]), attr_setA (C := 101) (by simp only [cls_setA, k0]), attr_setA (C := 101) (by simp only [cls_setA, k0]), attr_setA k0, f0]
    simp only [true_and]
  refine ⟨⟨⟨by unfold iniL; simp only [cls_setA, k0], ?_, ?_, fun y a b c d => ?_⟩, ⟨?_, ?_⟩, by simp, fun x hx => by cases hx⟩, fun b hb => ?_⟩
  · rw [F, if_neg (by decide +kernel), if_neg (by decide +kernel), if_neg (by decide +kernel), if_pos rfl]
  · rw [F, if_neg (by decide +kernel), if_neg (by decide +kernel), if_pos rfl]
  · rw [F, if_neg d, if_neg c, if_neg b, if_neg a]
  · rw [nxt, F, if_neg (by decide +kernel), if_pos rfl]
  · rw [prv, F, if_pos rfl]
  · unfold iniL; rw [setA_other hb, setA_other hb, setA_other hb, setA_other hb, upd_ne hb]
/-- a node of its own -/
structure Node (mh : MH) (x : Addr) (i : Int) : Prop where
  k : kls mh x = some 238
  p : fld mh x "_path" = some (.int i)
theorem Node.same {S : Addr → Prop} {mh m : MH} {x : Addr} {k : Int} (h : Node mh x k) (s : SameO S mh m) : Node m x k := ⟨(s.k x).trans h.k, (s.f x _ (by decide +kernel) (by decide +kernel)).trans h.p⟩
theorem Node.but {mh m : MH} {a x : Addr} {k : Int} (h : Node mh x k) (s : But a mh m) (hn : mh a = none) : Node m x k := by
  have := ne_of_kls hn h.k
  exact ⟨(s.kls this).trans h.k, (s.fld this _).trans h.p⟩
theorem iniO_node {d x : Addr} {k : Int} : Node (iniO (upd mh x (.inst 238 d [])) x k) x k ∧ Off (iniO (upd mh x (.inst 238 d [])) x k) x ∧ But x mh (iniO (upd mh x (.inst 238 d [])) x k) := by
  have k0 : kls (upd mh x (.inst 238 d [])) x = some 238 := by unfold kls; rw [upd_self]
  have f0 : ∀ y, fld (upd mh x (.inst 238 d [])) x y = none := fun y => by unfold fld; rw [upd_self]; rfl
  have z0 : asz (upd mh x (.inst 238 d [])) x = 0 := by unfold asz; rw [upd_self]; rfl
  have F : ∀ y : Str, fld (iniO (upd mh x (.inst 238 d [])) x k) x y = if y = "_for_route_refresh" then some (.bool false) else if y = "_path" then some (.int k) else if y = "sink" then some .none else none := fun y => by
    unfold iniO
    rw [attr_setA (C := 238) (by simp only [cls_setA, k0]), attr_setA (C := 238) (by simp only [cls_setA, k0]), attr_setA k0, f0]
    simp only [true_and]
  refine ⟨⟨by unfold iniO; simp only [cls_setA, k0], ?_⟩, .inl ⟨?_, ?_, ?_⟩, fun b hb => ?_⟩
  · rw [F, if_neg (by decide +kernel), if_pos rfl]
  · rw [nxt, F, if_neg (by decide +kernel), if_neg (by decide +kernel), if_neg (by decide +kernel)]
  · rw [prv, F, if_neg (by decide +kernel), if_neg (by decide +kernel), if_neg (by decide +kernel)]
  · have h1 := size_setA (mh := upd mh x (.inst 238 d [])) x "sink" .none x
    have h2 := size_setA (mh := setA (upd mh x (.inst 238 d [])) x "sink" .none) x "_path" (.int k) x
    have h3 := size_setA (mh := setA (setA (upd mh x (.inst 238 d [])) x "sink" .none) x "_path" (.int k)) x "_for_route_refresh" (.bool false) x
    unfold iniO; omega
  · unfold iniO; rw [setA_other hb, setA_other hb, setA_other hb, upd_ne hb]
end
end Mine

-- G0
namespace Mine
theorem Room.func {n : Nat} {A : Around} {stk : List Env} {body : List Stmt} {env : Env} (R : Room (n + 1) A stk) : Room n (A.over (.func body env) []) (env :: stk) := by
  have h1 : (A.over (.func body env) []).handled = A.handled := rfl
  have h2 : (A.over (.func body env) []).depth = A.depth + 0 + 1 := rfl
  have h3 : (A.over (.func body env) []).units = A.units + 0 + 3 := rfl
  have h4 : (A.over (.func body env) []).frames = pushEnvs [env] (pushEnvs [] A.frames) := rfl
  refine ⟨h1.trans R.handled, ?_, by rw [h2]; have := R.depth; omega, by rw [h3]; have := R.units; omega⟩
  rw [h4, R.frames]; rfl
theorem Room.while {n : Nat} {A : Around} {stk : List Env} {body bd oe : List Stmt} {test : Expr} {env : Env} {k : Result → Sem Fin} {p : Pos} (R : Room (n + 1) A stk) : Room n (A.over (.whileLoop test bd oe env) [.ret k none false [] (.func body env) p []]) (env :: stk) := by
  have h1 : (A.over (.whileLoop test bd oe env) [.ret k none false [] (.func body env) p []]).handled = A.handled := rfl
  have h2 : (A.over (.whileLoop test bd oe env) [.ret k none false [] (.func body env) p []]).depth = A.depth + 1 + 0 := rfl
  have h3 : (A.over (.whileLoop test bd oe env) [.ret k none false [] (.func body env) p []]).units = A.units + 3 + 0 := rfl
  have h4 : (A.over (.whileLoop test bd oe env) [.ret k none false [] (.func body env) p []]).frames = pushEnvs [] (pushEnvs [env] A.frames) := rfl
  refine ⟨h1.trans R.handled, ?_, by rw [h2]; have := R.depth; omega, by rw [h3]; have := R.units; omega⟩
  rw [h4, R.frames]; rfl
end Mine

-- G
namespace Mine

section
variable {prog : Program} {w : World} {A : Around} {E : Value → Shared → Prop} {s : Shared}
/-- a def's generator asked for its next -/
theorem pyNext_own {a : Addr} {gi n : Nat} {gs : GenState} {P : Nat → Shared → Shared → Prop} {Y : Protocol} {Q : Option Value → Shared → Prop} (hh : A.handled = none) (hl : s.heap.NoLimit) (hroom : A.depth < recursionLimit) (hg : s.heap.IsGen a gi) (hgs : s.gens[gi]? = some gs)
    (hgo : gs.Goes (model prog w) A.in1 (fun n s₀ r s₁ => r = .ok (.ret .none) ∧ P n s₀ s₁) Y n (.send .none) (s.setGen gi .running))
    (hY : ∀ v s₁ gs', gs'.bare = true → Y (n - 1) (s.setGen gi .running) v s₁ (fun r' s'' => match n with
        | 0 => False
        | m + 1 => gs'.Goes (model prog w) A.in1 (fun n s₀ r s₁ => r = .ok (.ret .none) ∧ P n s₀ s₁) Y m r' s'') → Q (some v) (s₁.setGen gi gs'))
    (hP : ∀ s₁, P n (s.setGen gi .running) s₁ → ∀ h', (∀ b o, s₁.heap.get? b = some o → h'.get? b = some o) → Q none { s₁.setGen gi .finished with heap := h' }) :
    wpAny (model prog w) A (pyNext (.ref a)) Q E s := by
  unfold pyNext
  refine wpAny_bind (wpAny_attempt (wpAny_callSpecial?_slot (name := Str.ofString "__next__") hg.typeIs slot_gen_next (wpAny_call_entry slot_gen_next hg.typeIs entry_gen_next ?_ (args_gen_next _))))
  show wpAny _ A.in1 (Builtin.Generator.genWake (.ref a) (.send .none)) _ _ s
  unfold Builtin.Generator.genWake
  refine wpAny_bind (wpAny_holding (wpAny_genNumber hg (wpAny_bind (wpAny_genState hgs ?_))))
  have alive : gs.status = .suspended ∨ gs.status = .fresh ∨ True := .inr (.inr trivial)
  cases gs with
  | running => exact hgo.elim
  | finished => exact hgo.elim
  | _ =>
    refine wpAny_bind (wpAny_roomToWake hl hroom ?_)
    show wpAny _ A.in1 (.resume gi (.send .none) [] _) _ _ s
    refine wpAny_resumeQ hgs hgo (fun x s₁ hx => ?_) (fun v s₁ gs' hb hv => wpAny_pure ⟨v, rfl, wpAny_pure (hY v s₁ gs' hb hv)⟩)
    obtain ⟨rfl, hp⟩ := hx
    show wpAny _ A.in1 (newExc (.type "StopIteration") [] >>= _) _ _ _
    refine wpAny_bind ?_
    simp only [newExc, newTuple]
    refine wpAny_bind (wpAny_newObj_type ?_ (by size_fits))
    refine wpAny_bind (m := firstArgMember _ _) (wpAny_of_eq (a := Value.none) (by first | rfl | (simp only [firstArgMember]; rfl)) ?_)
    refine wpAny_newObj_type ?_ (by size_fits)
    simp only [raiseNew]
    refine wpAny_bind (wpAny_bind (wpAny_handled ?_))
    first | rw [show A.in1.handled = none from hh] | rw [hh]
    refine wpAny_throw ?_
    refine wpAny_bind (wpAny_isInstance (T := "StopIteration") (b := true) ⟨_, Heap.get?_push_size _ rfl, rfl⟩ isSubtype_stop ?_)
    exact wpAny_pure (hP s₁ hp _ fun b o hb => Heap.get?_push_of_some _ (Heap.get?_push_of_some _ hb))
end

section
variable {g : G} {stk : List Env} {ps qs : List Addr} {n : Nat} {env : Env} {fr : FR} {mh : MH} {Lg : Addr}

/-- a generator's frame -/
structure GEnv (g : G) (env : Env) (Lg : Addr) (ps : List Addr) : Prop where
  ok : EnvOk g env (Lg :: ps) ps
  co : env.scope.isCoroutine = false
  int : interactive env = false
  kn : env.kindOf "node" = some .local
  kx : env.kindOf "next" = some .local
  fr : env.frame = some Lg
  loc : env.locals = Lg
  cel : env.cells = []
theorem H.pushE {s : Shared} (ge : GEnv g env Lg ps) (hs : H g stk (Lg :: ps) mh s) : H g (env :: stk) (Lg :: ps) mh s := by
  obtain ⟨b, o, es, k, e, d⟩ := hs.psd Lg List.mem_cons_self
  refine ⟨hs.stays, hs.os, hs.bare, hs.rep, hs.off, hs.inj, ⟨by rw [ge.ok.kind]; decide, ⟨Lg, o, ge.fr, b, e, fun vs z => by rw [d] at z; cases z⟩, hs.frm⟩, fun L hL => ?_, hs.psd⟩
  rw [List.filterMap_cons, ge.fr] at hL
  rcases List.mem_cons.mp hL with q | q
  · rw [q]; exact List.mem_cons_self
  · exact hs.sps L q
theorem H.popE {s : Shared} (hs : H g (env :: stk) (Lg :: ps) mh s) : H g stk (Lg :: ps) mh s := ⟨hs.stays, hs.os, hs.bare, hs.rep, hs.off, hs.inj, hs.frm.2.2, fun L hL => hs.sps L (by
  rw [List.filterMap_cons]; split
  · exact hL
  · exact List.mem_cons_of_mem _ hL), hs.psd⟩
theorem H.back {s s' : Shared} {stk0 : List Env} {ps0 : List Addr} (h : H g stk0 ps0 mh s) (h' : H g stk ps (hideL mh) s') (keep : ∀ b o, s.heap.get? b = some o → nd o → s'.heap.get? b = some o) : H g stk ps mh s' := by
  have un : ∀ a o, mh a = some o → isL (some o) = false → hideL mh a = some o := fun a o e i => by unfold hideL; rw [e]; cases o <;> first | rfl | cases i
  refine ⟨h'.stays, h'.os, h'.bare, fun a o e => ?_, fun a o e => ?_, fun x y C C' d at_ at' e1 e2 => h'.inj x y C C' d at_ at' (un _ _ e1 rfl) (un _ _ e2 rfl), h'.frm, h'.sps, h'.psd⟩
  · cases o with
    | inst C d at_ => exact h'.rep a _ (un _ _ e rfl)
    | lst xs => obtain ⟨vs, n, e1, iv⟩ := h.rep a _ e; exact ⟨vs, n, keep _ _ e1 nd_list, iv⟩
    | opq => obtain ⟨vs, n, e1⟩ := h.rep a _ e; exact ⟨vs, n, keep _ _ e1 nd_list⟩
  · cases o with
    | inst C d at_ => exact h'.off a _ (un _ _ e rfl)
    | lst xs => exact h.off a _ e
    | opq => trivial

/-- a statement in a generator -/
theorem seg_sj {A1 : Around} {R : GenEnd} {Y : Protocol} {c : Code} {fs : List Frame} {s0 s : Shared} {k : Nat} {st : Stmt} {rest : List Stmt} {P : FL → FR → MH → Prop} {K : Flow → Sem Fin} {Hh : Value → Sem Fin} {gd : Bool → Bool} {lv : List Value → List Value}
    (h : SJ g (env :: stk) (Lg :: ps) ps n env fr mh (exec st env) P) (Rm : Room n (A1.over c fs) (env :: stk)) (hs : H g (env :: stk) (Lg :: ps) mh s) (hf : FrR env fr mh s.heap) (hn : ∀ fl r m, P fl r m → fl = .next)
    (kq : ∀ s' r m, P .next r m → H g (env :: stk) (Lg :: ps) m s' → FrR env r m s'.heap → Ts (env.cells.map (·.2)) ps mh m s.heap s'.heap → Seg g.M A1 R Y k s0 c ((execs rest env).wrap K Hh gd lv) fs s') :
    Seg g.M A1 R Y k s0 c ((execs (st :: rest) env).wrap K Hh gd lv) fs s := by
  refine seg_execs_cons (seg_wrap (h (A1.over c fs) s _ _ Rm hs hf fun s' fl f r m p hs' hf' ts flr => ?_))
  obtain rfl := hn _ _ _ p
  cases flr
  exact kq s' r m p hs' hf' ts

theorem FrR.pick {h : Heap} {fr' : FR} (F : FrR env fr mh h) (k : ∀ p ∈ fr', fr.lookup p.1 = some p.2) : FrR env fr' mh h := F.sub fun x v e => k (x, v) (mem_of_lookup e)
/-- nothing else is stepped on -/
theorem Ts.toT {h h' : Heap} {m m' : MH} (t : Ts [] ps m m' h h') (no : ∀ b, isM (m b) = false) : T ps h h' := ⟨fun b o e d => t.nd b o e d (by simp) (no b), t.ns, t.live⟩
end

abbrev nxE (a b c d : Pos) (arg : Expr) : Expr := .Call (.Attribute (.Attribute (.Name "self" a) "list_type" b) "node_next" c) [arg] [] d
abbrev gTest (q15 q16 q17 q18 : Pos) : Expr := .Compare (.Name "node" q15) [.IsNot] [(.Attribute (.Name "self" q16) "head" q17)] q18
abbrev gB2 (q22 q23 q24 q25 q26 q27 q28 q29 q30 q31 : Pos) : List Stmt := [.Assign [(.Name "node" q22)] (.Name "next" q23) q24, .Assign [(.Name "next" q25)] (nxE q27 q28 q29 q30 (.Name "node" q26)) q31]
abbrev gW (q19 q20 q21 q22 q23 q24 q25 q26 q27 q28 q29 q30 q31 : Pos) : List Stmt := .Expr (.Yield (some (.Name "node" q19)) q20) q21 :: gB2 q22 q23 q24 q25 q26 q27 q28 q29 q30 q31
abbrev gBody (q0 q1 q2 q3 q4 q5 q6 q7 q8 q9 q10 q11 q12 q13 q14 q15 q16 q17 q18 q19 q20 q21 q22 q23 q24 q25 q26 q27 q28 q29 q30 q31 q32 : Pos) : List Stmt := [.Assign [(.Name "node" q0)] (nxE q3 q4 q5 q6 (.Attribute (.Name "self" q1) "head" q2)) q7, .Assign [(.Name "next" q8)] (nxE q10 q11 q12 q13 (.Name "node" q9)) q14, .While (gTest q15 q16 q17 q18) (gW q19 q20 q21 q22 q23 q24 q25 q26 q27 q28 q29 q30 q31) [] q32]

def nxA (xs : List Addr) (h : Addr) (i : Nat) : Addr := xs.getD i h
theorem nxA_end {xs : List Addr} {h : Addr} {i : Nat} (hi : xs.length ≤ i) : nxA xs h i = h := by unfold nxA; rw [List.getD_eq_getElem?_getD, List.getElem?_eq_none hi]; rfl
/-- what stands at each asking: the memory at the i-th -/
structure GenSeq (ms : Nat → MH) (T h : Addr) (xs : List Addr) : Prop where
  noM : ∀ i b, isM (ms i b) = false
  t : ∀ i, i ≤ xs.length → IsT (ms i) T
  l : ∀ i, i ≤ xs.length → Lst (ms i) T h
  k : ∀ i, i < xs.length → kls (ms i) (nxA xs h i) = some 238
  st : nxt (ms 0) h = some (.ref (nxA xs h 0))
  z : ∀ i, i ≤ xs.length → ∃ z, nxt (ms i) (nxA xs h i) = some (.ref z) ∧ (i < xs.length → z = nxA xs h (i + 1))
  ne : ∀ i, i < xs.length → nxA xs h i ≠ h

section
variable {q0 q1 q2 q3 q4 q5 q6 q7 q8 q9 q10 q11 q12 q13 q14 q15 q16 q17 q18 q19 q20 q21 q22 q23 q24 q25 q26 q27 q28 q29 q30 q31 q32 : Pos}
variable {w : World} {mg mb : Str → Option Value} {B : Heap} {os : OsState} {gk : Nat → Option GenState} {n : Nat} {stk : List Env} {ps : List Addr} {env : Env} {fr : FR} {m : MH} {Lg T h : Addr} {xs : List Addr} {ms : Nat → MH}
theorem ev_nx (SB : St0 (g3 w mg mb B os gk) B) (hL : env.locals ∈ ps) {y z C : Addr} {a b c d : Pos} {arg : Expr} (hk : env.scope.kind = .function) (hs : fr.lookup ("self" : Str) = some (.ref h)) (hT : IsT m T) (hl : Lst m T h)
    (ha : EV (g3 w mg mb B os gk) stk ps (n + 1) env fr m arg (Is m (.ref y))) (hC : LkC (hd.heap_39 w.params) C) (ky : kls m y = some C) (hz : nxt m y = some (.ref z)) (hu : unstar arg = true := by rfl) (he : IsMeth (.Attribute (.Name "self" a) "list_type" b) "node_next" c d [arg] env := by exact ⟨_, rfl⟩) :
    EV (g3 w mg mb B os gk) stk ps (n + 1) env fr m (nxE a b c d arg) (Is m (.ref z)) :=
  EV.met1 SB hL (ev_t SB hl (EV.name hk hs rfl rfl) (by with_unfolding_all rfl)) hT.k (hmT_next _) (hT.f _) ha (ca_next_hit SB T y z C hC ky hz) hu he

/-- ready to be asked for the i-th -/
structure CondR (g : G) (stk : List Env) (ps : List Addr) (env : Env) (Lg : Addr) (ms : Nat → MH) (h : Addr) (xs : List Addr) (i : Nat) (s : Shared) : Prop where
  H : H g stk (Lg :: ps) (ms i) s
  F : FrR env (if i = 0 then [("self", .ref h)] else [("next", .ref (nxA xs h i)), ("self", .ref h)]) (ms i) s.heap

def GP (g : G) (stk : List Env) (ps : List Addr) (Lg : Addr) (ms : Nat → MH) (xs : List Addr) : Nat → Shared → Shared → Prop := fun k s0 s1 => k = 1 ∧ H g stk (Lg :: ps) (ms xs.length) s1 ∧ Mine.T ps s0.heap s1.heap
def GR (g : G) (stk : List Env) (ps : List Addr) (Lg : Addr) (ms : Nat → MH) (xs : List Addr) : GenEnd := fun k s0 r s1 => r = .ok (.ret .none) ∧ GP g stk ps Lg ms xs k s0 s1
def GY (g : G) (stk : List Env) (ps : List Addr) (env : Env) (Lg : Addr) (ms : Nat → MH) (h : Addr) (xs : List Addr) : Protocol := fun k s0 v s' kap => ∃ i, i + k = xs.length ∧ i < xs.length ∧ v = .ref (nxA xs h i) ∧ H g stk (Lg :: ps) (ms i) s' ∧ Mine.T ps s0.heap s'.heap ∧
  FrR env [("next", .ref (nxA xs h (i + 1))), ("self", .ref h)] (ms i) s'.heap ∧ ∀ s'', CondR g stk ps env Lg ms h xs (i + 1) s'' → kap (.send .none) s''

theorem gen_head (hme : IsMeth (.Attribute (.Name "self" q27) "list_type" q28) "node_next" q29 q30 [.Name "node" q26] env) (SB : St0 (g3 w mg mb B os gk) B) (ge : GEnv (g3 w mg mb B os gk) env Lg ps) (S : GenSeq ms T h xs) {A1 : Around} (Rm : Room (n + 2) A1 stk) {body : List Stmt} {kret : Result → Sem Fin} {p : Pos}
    (hk : ∀ s0 s, GR (g3 w mg mb B os gk) stk ps Lg ms xs 1 s0 (.ok (.ret .none)) s → Seg (g3 w mg mb B os gk).M A1 (GR (g3 w mg mb B os gk) stk ps Lg ms xs) (GY (g3 w mg mb B os gk) stk ps env Lg ms h xs) 1 s0 (.func body env) (kret (.ok .next)) [] s) :
    ∀ (d i : Nat), d + i = xs.length → ∀ (s0 s : Shared) (z : Addr), H (g3 w mg mb B os gk) (env :: stk) (Lg :: ps) (ms i) s → FrR env [("next", .ref z), ("node", .ref (nxA xs h i)), ("self", .ref h)] (ms i) s.heap → (i < xs.length → z = nxA xs h (i + 1)) → Mine.T ps s0.heap s.heap →
      Seg (g3 w mg mb B os gk).M A1 (GR (g3 w mg mb B os gk) stk ps Lg ms xs) (GY (g3 w mg mb B os gk) stk ps env Lg ms h xs) (d + 1) s0 (.whileLoop (gTest q15 q16 q17 q18) (gW q19 q20 q21 q22 q23 q24 q25 q26 q27 q28 q29 q30 q31) [] env) ((g3 w mg mb B os gk).M.den (.whileLoop (gTest q15 q16 q17 q18) (gW q19 q20 q21 q22 q23 q24 q25 q26 q27 q28 q29 q30 q31) [] env)) [.ret kret none false [] (.func body env) p []] s := by
  intro d
  induction d with
  | zero =>
    intro i hi s0 s z hs hf hz t0
    have ei : i = xs.length := by omega
    have Rw : Room (n + 1) (A1.over (.whileLoop (gTest q15 q16 q17 q18) (gW q19 q20 q21 q22 q23 q24 q25 q26 q27 q28 q29 q30 q31) [] env) [.ret kret none false [] (.func body env) p []]) (env :: stk) := Rm.while
    have tj : TJ (g3 w mg mb B os gk) (env :: stk) (Lg :: ps) (n + 1) env [("next", .ref z), ("node", .ref (nxA xs h i)), ("self", .ref h)] (ms i) (gTest q15 q16 q17 q18) (Tst (ms i) false) :=
      TJ.cmpI ge.ok.loc (Nat.succ_pos _) (EV.name ge.ok.kind rfl rfl rfl) (ev_h SB (S.l i (by omega)) (EV.name ge.ok.kind rfl rfl rfl) (by with_unfolding_all rfl)) (by rw [nxA_end (by omega)]; exact op_isnot_self)
    refine seg_whileLoop (tj _ s _ _ Rw hs hf ?_)
    rintro s1 b m1 ⟨rfl, rfl⟩ hs1 t1 sl1
    rw [if_neg Bool.false_ne_true]
    refine seg_execs_nil ?_
    refine seg_leaf (.ok .next) (hk s0 s1 ⟨rfl, rfl, ?_, t0.trans (t1.sub fun a ha => List.mem_cons_of_mem _ ha)⟩)
    rw [← ei]; exact hs1.popE
  | succ d ih =>
    intro i hi s0 s z hs hf hz t0
    have hlt : i < xs.length := by omega
    obtain rfl := hz hlt
    have Rw : Room (n + 1) (A1.over (.whileLoop (gTest q15 q16 q17 q18) (gW q19 q20 q21 q22 q23 q24 q25 q26 q27 q28 q29 q30 q31) [] env) [.ret kret none false [] (.func body env) p []]) (env :: stk) := Rm.while
    have tj : TJ (g3 w mg mb B os gk) (env :: stk) (Lg :: ps) (n + 1) env [("next", .ref (nxA xs h (i + 1))), ("node", .ref (nxA xs h i)), ("self", .ref h)] (ms i) (gTest q15 q16 q17 q18) (Tst (ms i) true) :=
      TJ.cmpI ge.ok.loc (Nat.succ_pos _) (EV.name ge.ok.kind rfl rfl rfl) (ev_h SB (S.l i (by omega)) (EV.name ge.ok.kind rfl rfl rfl) (by with_unfolding_all rfl)) (op_isnot_ne (S.k i hlt) (S.l i (by omega)).k (S.ne i hlt))
    refine seg_whileLoop (tj _ s _ _ Rw hs hf ?_)
    rintro s1 b m1 ⟨rfl, rfl⟩ hs1 t1 sl1
    rw [if_pos rfl]
    have hf1 := hf.T t1 ge.ok.loc fun _ _ _ i => i
    have ev : EV (g3 w mg mb B os gk) (env :: stk) (Lg :: ps) (n + 1) env [("next", .ref (nxA xs h (i + 1))), ("node", .ref (nxA xs h i)), ("self", .ref h)] (ms i) (.Name "node" q19) (Is (ms i) (.ref (nxA xs h i))) := EV.name ge.ok.kind rfl rfl rfl
    refine seg_execs_cons (seg_Expr_Yield rfl rfl rfl (ev _ s1 _ _ Rw hs1 hf1 ?_) ge.co ge.int)
    rintro s2 v2 x2 m2 ⟨rfl, rfl⟩ hs2 t2 sl2 r2
    cases r2
    intro kap hkap
    have t12 := (t1.trans t2).sub (ps' := ps) fun a ha => List.mem_cons_of_mem _ ha
    have hf2 := hf1.T t2 ge.ok.loc fun _ _ _ i => i
    refine ⟨i, by omega, hlt, rfl, hs2.popE, t0.trans t12, hf2.pick (by intro p hp; simp only [List.mem_cons, List.not_mem_nil, or_false] at hp; rcases hp with rfl | rfl <;> rfl), fun s3 hc => hkap .none s3 ?_⟩
    -- resumed
    have hs3 := hc.H.pushE ge
    have hf3 : FrR env [("next", .ref (nxA xs h (i + 1))), ("self", .ref h)] (ms (i + 1)) s3.heap := by have := hc.F; rwa [if_neg (Nat.succ_ne_zero i)] at this
    show Seg _ A1 _ _ (d + 1) s3 _ ((execs (gB2 q22 q23 q24 q25 q26 q27 q28 q29 q30 q31) env).wrap _ _ _ _) _ s3
    refine seg_sj (SJ.assign ge.ok (.inl ge.kn) (EV.name (n := n + 1) (v := .ref (nxA xs h (i + 1))) ge.ok.kind rfl rfl rfl) (by rfl)) Rw hs3 hf3 (by rintro fl r m ⟨v, rfl, _⟩; rfl) ?_
    rintro s4 r m4 ⟨v, _, rfl, rfl, rfl⟩ hs4 hf4 ts4
    obtain ⟨z, hz, hz'⟩ := S.z (i + 1) (by omega)
    obtain ⟨C, hC, kC⟩ : ∃ C, LkC (hd.heap_39 w.params) C ∧ kls (ms (i + 1)) (nxA xs h (i + 1)) = some C := by
      by_cases q : i + 1 < xs.length
      · exact ⟨238, lkO _, S.k _ q⟩
      · rw [nxA_end (by omega)]; exact ⟨101, lkL _, (S.l (i + 1) (by omega)).k⟩
    refine seg_sj (SJ.assign ge.ok (.inl ge.kx) (ev_nx SB ge.ok.loc ge.ok.kind rfl (S.t _ (by omega)) (S.l _ (by omega)) (EV.name ge.ok.kind rfl rfl rfl) hC kC hz rfl hme) (by rfl)) Rw hs4 hf4 (by rintro fl r m ⟨v, rfl, _⟩; rfl) ?_
    rintro s5 r m5 ⟨v, _, rfl, rfl, rfl⟩ hs5 hf5 ts5
    refine seg_execs_nil (seg_again rfl ?_)
    have tt := ts4.trans ts5
    rw [ge.cel] at tt
    refine ih (i + 1) (by omega) s3 s5 z hs5 (hf5.pick (by intro p hp; simp only [List.mem_cons, List.not_mem_nil, or_false] at hp; rcases hp with rfl | rfl | rfl <;> rfl)) hz' (Ts.toT tt (S.noM _))

/-- the three calls' form, for the places at hand -/
structure GMeth (env : Env) (q0 q1 q2 q3 q4 q5 q6 q7 q8 q9 q10 q11 q12 q13 q14 q15 q16 q17 q18 q19 q20 q21 q22 q23 q24 q25 q26 q27 q28 q29 q30 q31 q32 : Pos) : Prop where
  m1 : IsMeth (.Attribute (.Name "self" q3) "list_type" q4) "node_next" q5 q6 [.Attribute (.Name "self" q1) "head" q2] env
  m2 : IsMeth (.Attribute (.Name "self" q10) "list_type" q11) "node_next" q12 q13 [.Name "node" q9] env
  m3 : IsMeth (.Attribute (.Name "self" q27) "list_type" q28) "node_next" q29 q30 [.Name "node" q26] env

theorem gen_fresh (gm : GMeth env q0 q1 q2 q3 q4 q5 q6 q7 q8 q9 q10 q11 q12 q13 q14 q15 q16 q17 q18 q19 q20 q21 q22 q23 q24 q25 q26 q27 q28 q29 q30 q31 q32) (SB : St0 (g3 w mg mb B os gk) B) (ge : GEnv (g3 w mg mb B os gk) env Lg ps) (S : GenSeq ms T h xs) {A1 : Around} (Rm : Room (n + 2) A1 stk) (s : Shared) (hc : CondR (g3 w mg mb B os gk) stk ps env Lg ms h xs 0 s) :
    Seg (g3 w mg mb B os gk).M A1 (GR (g3 w mg mb B os gk) stk ps Lg ms xs) (GY (g3 w mg mb B os gk) stk ps env Lg ms h xs) (xs.length + 1) s (.func (gBody q0 q1 q2 q3 q4 q5 q6 q7 q8 q9 q10 q11 q12 q13 q14 q15 q16 q17 q18 q19 q20 q21 q22 q23 q24 q25 q26 q27 q28 q29 q30 q31 q32) env) ((g3 w mg mb B os gk).M.den (.func (gBody q0 q1 q2 q3 q4 q5 q6 q7 q8 q9 q10 q11 q12 q13 q14 q15 q16 q17 q18 q19 q20 q21 q22 q23 q24 q25 q26 q27 q28 q29 q30 q31 q32) env)) [] s := by
  have hs := hc.H.pushE ge
  have hf : FrR env [("self", .ref h)] (ms 0) s.heap := hc.F
  have Rf : Room (n + 1) (A1.over (.func (gBody q0 q1 q2 q3 q4 q5 q6 q7 q8 q9 q10 q11 q12 q13 q14 q15 q16 q17 q18 q19 q20 q21 q22 q23 q24 q25 q26 q27 q28 q29 q30 q31 q32) env) []) (env :: stk) := Rm.func
  refine seg_func ?_
  refine seg_sj (SJ.assign ge.ok (.inl ge.kn) (ev_nx SB ge.ok.loc ge.ok.kind rfl (S.t 0 (Nat.zero_le _)) (S.l 0 (Nat.zero_le _)) (ev_h SB (S.l 0 (Nat.zero_le _)) (EV.name ge.ok.kind rfl rfl rfl) (by with_unfolding_all rfl)) (lkL _) (S.l 0 (Nat.zero_le _)).k S.st rfl gm.m1) (by rfl)) Rf hs hf (by rintro fl r m ⟨v, rfl, _⟩; rfl) ?_
  rintro s1 r1 m1 ⟨v, _, rfl, rfl, rfl⟩ hs1 hf1 ts1
  obtain ⟨z, hz, hz'⟩ := S.z 0 (Nat.zero_le _)
  obtain ⟨C, hC, kC⟩ : ∃ C, LkC (hd.heap_39 w.params) C ∧ kls (ms 0) (nxA xs h 0) = some C := by
    by_cases q : 0 < xs.length
    · exact ⟨238, lkO _, S.k _ q⟩
    · rw [nxA_end (by omega)]; exact ⟨101, lkL _, (S.l 0 (by omega)).k⟩
  refine seg_sj (SJ.assign ge.ok (.inl ge.kx) (ev_nx SB ge.ok.loc ge.ok.kind rfl (S.t 0 (Nat.zero_le _)) (S.l 0 (Nat.zero_le _)) (EV.name ge.ok.kind rfl rfl rfl) hC kC hz rfl gm.m2) (by rfl)) Rf hs1 hf1 (by rintro fl r m ⟨v, rfl, _⟩; rfl) ?_
  rintro s2 r2 m2 ⟨v, _, rfl, rfl, rfl⟩ hs2 hf2 ts2
  have tt := ts1.trans ts2
  rw [ge.cel] at tt
  refine seg_execs_cons (seg_While fun p => ?_)
  refine gen_head gm.m3 SB ge S Rm (fun s0 s9 hR => ?_) xs.length 0 rfl s s2 z hs2 hf2 hz' (Ts.toT tt (S.noM _))
  exact seg_end (.ok (.ret .none)) hR

def gS (gk : Nat → Option GenState) (gi : Nat) (st : GenState) : Nat → Option GenState := fun j => if j = gi then some st else gk j
theorem H.regen {gk' : Nat → Option GenState} {s : Shared} {gens : Array GenState} (hs : H (g3 w mg mb B os gk) stk ps m s) (hb : AllBare gens) (hk : ∀ (i : Nat) st, gk' i = some st → gens[i]? = some st) : H (g3 w mg mb B os gk') stk ps m { s with gens := gens } :=
  ⟨hs.stays, hs.os, ⟨hb, hk⟩, hs.rep, hs.off, hs.inj, hs.frm, hs.sps, hs.psd⟩
theorem bare_set {gens : Array GenState} {gi : Nat} {st : GenState} (h : AllBare gens) (hb : st.bare = true) : AllBare (gens.setIfInBounds gi st) := fun y hy => by
  obtain ⟨i, hi, rfl⟩ := Array.mem_iff_getElem.mp hy
  rw [Array.getElem_setIfInBounds (by simpa using hi)]
  split
  · exact hb
  · exact h _ (Array.getElem_mem _)
theorem H.setG {s : Shared} {gi : Nat} {st st' : GenState} (hs : H (g3 w mg mb B os (gS gk gi st)) stk ps m s) (hb : st'.bare = true) : H (g3 w mg mb B os (gS gk gi st')) stk ps m (s.setGen gi st') :=
  hs.regen (bare_set hs.bare.1 hb) fun i z e => by
    have h0 := hs.bare.2 gi st (if_pos rfl)
    by_cases q : i = gi
    · subst q
      unfold gS at e; rw [if_pos rfl] at e; cases e
      exact setGen_self (s := s) h0
    · unfold gS at e; rw [if_neg q] at e
      have h1 := hs.bare.2 i z (by show gS gk gi st i = some z; unfold gS; rw [if_neg q]; exact e)
      rw [Array.getElem?_setIfInBounds]
      rw [if_neg (fun z => q z.symm)]
      exact h1

/-- the generator, to be asked for the i-th -/
structure GAt (w : World) (mg mb : Str → Option Value) (B : Heap) (os : OsState) (gk : Nat → Option GenState) (stk : List Env) (ps : List Addr) (env : Env) (Lg : Addr) (ms : Nat → MH) (h : Addr) (xs : List Addr) (A : Around) (ag : Addr) (gi : Nat) (i : Nat) (st : GenState) (s : Shared) : Prop where
  F : FrR env (if i = 0 then [("self", .ref h)] else [("next", .ref (nxA xs h i)), ("self", .ref h)]) (ms i) s.heap
  gen : s.heap.IsGen ag gi
  go : ∀ s'', CondR (g3 w mg mb B os (gS gk gi .running)) stk ps env Lg ms h xs i s'' → st.Goes (g3 w mg mb B os gk).M A.in1 (GR (g3 w mg mb B os (gS gk gi .running)) stk ps Lg ms xs) (GY (g3 w mg mb B os (gS gk gi .running)) stk ps env Lg ms h xs) (xs.length - i + 1) (.send .none) s''

theorem gen_ask (SB : St0 (g3 w mg mb B os gk) B) {A : Around} (Rm : Room n A stk) {ag : Addr} {gi i : Nat} {st : GenState} {s : Shared} {Q : Option Value → Shared → Prop} {E : Value → Shared → Prop} (hi : i ≤ xs.length)
    (hs : H (g3 w mg mb B os (gS gk gi st)) stk (Lg :: ps) (ms i) s) (ga : GAt w mg mb B os gk stk ps env Lg ms h xs A ag gi i st s)
    (hq : i < xs.length → ∀ s' st', H (g3 w mg mb B os (gS gk gi st')) stk (Lg :: ps) (ms i) s' → Mine.T ps s.heap s'.heap → FrR env [("next", .ref (nxA xs h (i + 1))), ("self", .ref h)] (ms i) s'.heap → s'.heap.IsGen ag gi →
      (∀ s'', CondR (g3 w mg mb B os (gS gk gi .running)) stk ps env Lg ms h xs (i + 1) s'' → st'.Goes (g3 w mg mb B os gk).M A.in1 (GR (g3 w mg mb B os (gS gk gi .running)) stk ps Lg ms xs) (GY (g3 w mg mb B os (gS gk gi .running)) stk ps env Lg ms h xs) (xs.length - (i + 1) + 1) (.send .none) s'') → Q (some (.ref (nxA xs h i))) s')
    (hn : i = xs.length → ∀ s', H (g3 w mg mb B os (gS gk gi .finished)) stk (Lg :: ps) (ms i) s' → Mine.T ps s.heap s'.heap → Q none s') : wpAny (g3 w mg mb B os gk).M A (pyNext (.ref ag)) Q E s := by
  have S0 := SB.keeps hs.stays
  have hgs : s.gens[gi]? = some st := hs.bare.2 gi st (if_pos rfl)
  have hs1 : H (g3 w mg mb B os (gS gk gi .running)) stk (Lg :: ps) (ms i) (s.setGen gi .running) := hs.setG rfl
  have go := ga.go (s.setGen gi .running) ⟨hs1, ga.F⟩
  refine pyNext_own (P := GP (g3 w mg mb B os (gS gk gi .running)) stk ps Lg ms xs) Rm.handled S0.nl (Nat.lt_of_le_of_lt (Nat.le_add_right _ _) Rm.depth) ga.gen hgs go (fun v s1 gs' hb hy => ?_) (fun s1 hp h' hk => ?_)
  · obtain ⟨j, hj, hlt, rfl, hH, hT, hF, hK⟩ := hy
    have ej : j = i := by omega
    subst ej
    refine hq hlt _ gs' (hH.setG hb) hT hF (let ⟨o, nm, qn, e, hc, hd, hsl⟩ := ga.gen; ⟨o, nm, qn, hT.nd _ _ e (by intro es n q; rw [hd] at q; cases q), hc, hd, hsl⟩) fun s'' hc => ?_
    have e2 : xs.length - (j + 1) + 1 = xs.length - j := by omega
    rw [e2]
    exact hK s'' hc
  · obtain ⟨h0, hH, hT⟩ := hp
    have ei : i = xs.length := by omega
    have h1 := hH.setG (st' := .finished) rfl
    have h2 := h1.keeps (Kp.of (s := s1.setGen gi .finished) (t := s1.toks) hk)
    refine hn ei _ (by rw [ei]; exact h2) (hT.trans (T.of_keeps hk))

section
variable {M : Model} {A : Around} {E : Value → Shared → Prop} {s : Shared} {K : Frag} {x C f : Addr} {ox : Obj} {od : Option Obj}
/-- iter() of an object whose class bears a def for it -/
theorem iter_own {Q : Value → Shared → Prop} {T id : String} (X : K.In s.heap) (I : PySem.W.InstAt s.heap x ox C od) (hs : findIn K (.ref C) "__iter__" = some (some (.ref f))) (hf : typeIn K (.ref f) = some (.type "function")) (hl : typeLookup (.type T) "__next__" = pure (some (.builtin id)))
    (h : wpAny M A (call (.ref f) [.ref x]) (fun v s' => s'.TypeIs v T ∧ Q v s') E s) : wpAny M A (pyIter (.ref x)) Q E s := by
  have done : ∀ v s', s'.TypeIs v T ∧ Q v s' → wpAny M A (specialOf v "__next__") (fun r s₂ => match r with | none => False | some _ => Q v s₂) E s' := fun v s' h => wpAny_specialOf h.1 hl h.2
  have called : wpAny M A (call (.ref f) [.ref x] >>= fun v => pure (some v)) (fun r s' => ∃ v, r = some v ∧ s'.TypeIs v T ∧ Q v s') E s := wpAny_bind (wpAny_mono h (fun v s' h' => wpAny_pure ⟨v, rfl, h'⟩) fun _ _ z => z)
  have bound : ∀ refuse : Sem Value, wpAny M A (callSpecialIfBoundUnlessNone? (.ref x) "__iter__" refuse) (fun r s' => ∃ v, r = some v ∧ s'.TypeIs v T ∧ Q v s') E s := by
    intro refuse
    unfold callSpecialIfBoundUnlessNone? bindSpecialIfBound?
    refine wpAny_holding (wpAny_bind (wpAny_bind (wpAny_bind (I.type.here ((looks_findIn X hs).here (wpAny_bind (wpAny_askSetting (wpAny_ite ?_))))))))
    split
    · exact wpAny_bind ((bind_fn X _ hf).here (wpAny_pure (by exact called)))
    · exact wpAny_tryCatch (wpAny_bind ((bind_fn X _ hf).here (wpAny_pure (by exact called))))
  unfold pyIter
  refine wpAny_bind (wpAny_bind (I.type.here ((looks_findIn X hs).here ?_)))
  show wpAny M A (callSpecialIfBoundUnlessNone? (.ref x) "__iter__" _ >>= _) Q E s
  refine wpAny_bind (wpAny_mono (bound _) (fun r s' hr => ?_) fun _ _ z => z)
  obtain ⟨v, rfl, hv⟩ := hr
  refine wpAny_bind (wpAny_mono (done v s' hv) (fun r s₂ hr => ?_) fun _ _ z => z)
  cases r with
  | none => exact hr.elim
  | some g => exact wpAny_pure hr
end

theorem itL (P : Params) : findIn (hd.heap_39 P) (.ref 101) "__iter__" = some (some (.ref 77)) := by k_is
theorem itF (P : Params) : typeIn (hd.heap_39 P) (.ref 77) = some (.type "function") := by k_is

/-- what is asked of the generator's def -/
structure GFd (K : Frag) (fd : FuncData) (q0 q1 q2 q3 q4 q5 q6 q7 q8 q9 q10 q11 q12 q13 q14 q15 q16 q17 q18 q19 q20 q21 q22 q23 q24 q25 q26 q27 q28 q29 q30 q31 q32 : Pos) : Prop where
  ob : ∃ o d sl, K.lookup 98 = some ⟨o, d, .func fd, sl⟩
  code : codeIn K fd.code fd.qualname = true
  body : fd.body = .stmts (gBody q0 q1 q2 q3 q4 q5 q6 q7 q8 q9 q10 q11 q12 q13 q14 q15 q16 q17 q18 q19 q20 q21 q22 q23 q24 q25 q26 q27 q28 q29 q30 q31 q32)
  kind : fd.scope.kind = .function
  co : fd.scope.isCoroutine = false
  gen : fd.scope.isGenerator = true
  cell : ∀ x ∈ fd.scope.names, x.2 ≠ .cell
  glob : fd.globals = mainGlobals
  blt : fd.builtins = builtinsNs
  clos : fd.closure = []
  ks : fd.scope.names.lookup ("self" : Str) = some .local
  kn : fd.scope.names.lookup ("node" : Str) = some .local
  kx : fd.scope.names.lookup ("next" : Str) = some .local
  int : ∀ L a, interactive (callEnv fd L a) = false
  bind : ∀ v, bindArgs fd ⟨[v], []⟩ = pure [(("self" : Str), v)]
  meth : ∀ env, GMeth env q0 q1 q2 q3 q4 q5 q6 q7 q8 q9 q10 q11 q12 q13 q14 q15 q16 q17 q18 q19 q20 q21 q22 q23 q24 q25 q26 q27 q28 q29 q30 q31 q32
theorem gen_fd (P : Params) : ∃ fd q0 q1 q2 q3 q4 q5 q6 q7 q8 q9 q10 q11 q12 q13 q14 q15 q16 q17 q18 q19 q20 q21 q22 q23 q24 q25 q26 q27 q28 q29 q30 q31 q32, GFd (hd.heap_39 P) fd q0 q1 q2 q3 q4 q5 q6 q7 q8 q9 q10 q11 q12 q13 q14 q15 q16 q17 q18 q19 q20 q21 q22 q23 q24 q25 q26 q27 q28 q29 q30 q31 q32 :=
  ⟨_, _, _, _, _, _, _, _, _, _, _, _, _, _, _, _, _, _, _, _, _, _, _, _, _, _, _, _, _, _, _, _, _, _, ⟨⟨_, _, _, (by k_is : List.lookup 98 (hd.heap_39 _) = _)⟩, (show codeIn (hd.heap_39 _) _ _ = true by k_is), rfl, rfl, rfl, rfl, by decide, rfl, rfl, rfl, rfl, rfl, rfl, fun _ _ => rfl, fun _ => rfl, fun _ => ⟨⟨_, rfl⟩, ⟨_, rfl⟩, ⟨_, rfl⟩⟩⟩⟩

/-- a new generator -/
structure GNew (w : World) (mg mb : Str → Option Value) (B : Heap) (os : OsState) (gk : Nat → Option GenState) (stk : List Env) (ps : List Addr) (m : MH) (h : Addr) (s s' : Shared) (env : Env) (Lg ag : Addr) (gi : Nat) (body : List Stmt) : Prop where
  ge : GEnv (g3 w mg mb B os gk) env Lg ps
  H : H (g3 w mg mb B os (gS gk gi (.fresh (.func body env)))) stk (Lg :: ps) m s'
  F : ∀ m, FrR env [("self", .ref h)] m s'.heap
  gen : s'.heap.IsGen ag gi
  keep : ∀ b o, s.heap.get? b = some o → s'.heap.get? b = some o
  nL : Lg ∉ ps
  nB : B.get? Lg = none
  nS : s.heap.get? Lg = none
  nA : s.heap.get? ag = none
  ng : ∀ st, gk gi ≠ some st

theorem gen_make (SB : St0 (g3 w mg mb B os gk) B) {A : Around} (Rm : Room (n + 2) A stk) {s : Shared} {Q : Value → Shared → Prop} {E : Value → Shared → Prop} (hs : H (g3 w mg mb B os gk) stk ps m s) (hl : Lst m T h)
    (hq : ∀ s' env Lg ag gi (q0 q1 q2 q3 q4 q5 q6 q7 q8 q9 q10 q11 q12 q13 q14 q15 q16 q17 q18 q19 q20 q21 q22 q23 q24 q25 q26 q27 q28 q29 q30 q31 q32 : Pos), GMeth env q0 q1 q2 q3 q4 q5 q6 q7 q8 q9 q10 q11 q12 q13 q14 q15 q16 q17 q18 q19 q20 q21 q22 q23 q24 q25 q26 q27 q28 q29 q30 q31 q32 → GNew w mg mb B os gk stk ps m h s s' env Lg ag gi (gBody q0 q1 q2 q3 q4 q5 q6 q7 q8 q9 q10 q11 q12 q13 q14 q15 q16 q17 q18 q19 q20 q21 q22 q23 q24 q25 q26 q27 q28 q29 q30 q31 q32) → Q (.ref ag) s') : wpAny (g3 w mg mb B os gk).M A (pyIter (.ref h)) Q E s := by
  obtain ⟨d, at_, e⟩ := cls_ex hl.k
  obtain ⟨es, nn, I, ar⟩ := hs.rep h _ e
  have S := SB.keeps hs.stays
  refine iter_own (K := hd.heap_39 w.params) S.kin I.at (itL _) (itF _) slot_gen_next.lookup (wpAny_call ?_)
  -- __iter__
  refine codeAny_call_def (o := ⟨_, _, .func _, _⟩) (binds := [("self", .ref h)]) (Nat.lt_of_le_of_lt (Nat.le_add_right _ _) Rm.depth) (S.kin _ _ (by k_is : List.lookup 77 (hd.heap_39 _) = _)) rfl S.nl (codeRec_of S.kin (show codeIn (hd.heap_39 _) _ _ = true by k_is)) rfl (BindsTo.of_eq rfl) (by decide) (by intro x hx; simp only [List.mem_cons] at hx; rcases hx with rfl | hh <;> first | rfl | cases hh) (fun h1 hns1 hk1 => ?_)
  have S1 : St0 (g3 w mg mb B os gk) h1 := ⟨fun b o e => hk1 b o (S.kin b o e), S.gns.keeps hk1, S.bns.keeps hk1, S.nl.keeps hk1, S.bu⟩
  have I1 : Inst h1 h 101 d es nn := ⟨hk1 _ _ I.1, hk1 _ _ I.2⟩
  refine wpAny_execs_cons (wpAny_Return_some (methodCall_KW (wpAny_Name (wpAny_loadName_local rfl rfl hns1 rfl ?_) (by decide)) rfl))
  have hm := hmL_gen w.params
  refine meth_raw S1.kin hm.pc I1 hm.fd hm.ty ((attr_get ar).2 ((attr_at e _).symm.trans (hl.f _ (by decide +kernel) (by decide +kernel) (by decide +kernel) (by decide +kernel)))) ?_
  refine callWith_K0 S1.kin hm.kp (wpAny_call ?_)
  -- generator
  obtain ⟨fd, q0, q1, q2, q3, q4, q5, q6, q7, q8, q9, q10, q11, q12, q13, q14, q15, q16, q17, q18, q19, q20, q21, q22, q23, q24, q25, q26, q27, q28, q29, q30, q31, q32, gf⟩ := gen_fd w.params
  obtain ⟨oc, od, osl, hob⟩ := gf.ob
  refine codeAny_call_generator (fd := fd) (Nat.lt_of_le_of_lt (Nat.le_add_right _ _) (Rm.deeper (n := n + 1) (callEnv _ s.heap.objs.size 77)).depth) (S1.kin _ _ hob) rfl gf.co gf.gen gf.body (codeRec_of S1.kin gf.code) ?_
  refine wpAny_of_eq (gf.bind (.ref h)) ?_
  refine (wpAny_newFunctionEnv gf.cell (by intro x hx; simp only [List.mem_singleton] at hx; rw [hx]; exact gf.ks) (fun h2 hns2 hsb2 => ⟨S1.nl.fresh _ hsb2, ?_⟩) gf.kind)
  dsimp only
  refine ⟨⟨_, Heap.get?_push_size _ rfl, rfl⟩, ?_⟩
  have z1 : h1.get? h1.objs.size = none := by
    cases q : h1.get? h1.objs.size with
    | none => rfl
    | some o => exact absurd (Heap.lt_size q) (Nat.lt_irrefl _)
  have z2 : h2.get? h2.objs.size = none := by
    cases q : h2.get? h2.objs.size with
    | none => rfl
    | some o => exact absurd (Heap.lt_size q) (Nat.lt_irrefl _)
  have k2 : ∀ b o, h1.get? b = some o → h2.get? b = some o := fun b o q => hsb2.extBut b o (fun z => by rw [z, z1] at q; cases q) (Heap.get?_push_of_some _ q)
  have k02 : ∀ b o, s.heap.get? b = some o → h2.get? b = some o := fun b o q => k2 b o (hk1 b o q)
  have none_of : ∀ {ha hb : Heap} {a : Addr}, (∀ b o, ha.get? b = some o → hb.get? b = some o) → hb.get? a = none → ha.get? a = none := fun {ha hb a} k q => by
    cases z : ha.get? a with
    | none => rfl
    | some o => rw [k _ _ z] at q; cases q
  have nS : s.heap.get? h1.objs.size = none := none_of hk1 z1
  have nB : B.get? h1.objs.size = none := none_of (fun b o q => hs.stays b o q) nS
  have nL : h1.objs.size ∉ ps := fun q => by obtain ⟨_, o, _, _, e', _⟩ := hs.psd _ q; rw [nS] at e'; cases e'
  have hns3 := hns2
  obtain ⟨oL, esL, nLL, eL, dL, _⟩ := hns3
  have ce : (callEnv fd h1.objs.size 98).cells = [] := gf.clos
  have ge : GEnv (g3 w mg mb B os gk) (callEnv fd h1.objs.size 98) h1.objs.size ps := ⟨callEnv_ok (g := g3 w mg mb B os gk) gf.kind gf.glob gf.blt gf.clos nL, gf.co, gf.int _ _, gf.kn, gf.kx, rfl, rfl, ce⟩
  refine hq _ (callEnv fd h1.objs.size 98) h1.objs.size h2.objs.size s.gens.size q0 q1 q2 q3 q4 q5 q6 q7 q8 q9 q10 q11 q12 q13 q14 q15 q16 q17 q18 q19 q20 q21 q22 q23 q24 q25 q26 q27 q28 q29 q30 q31 q32 (gf.meth _) ⟨ge, ?_, fun m' => ⟨⟨_, hns2.push _⟩, fun x c q => ?_, fun x v q => ?_⟩, ⟨_, _, _, Heap.get?_push_size _ rfl, rfl, rfl, rfl⟩, fun b o q => Heap.get?_push_of_some _ (k02 b o q), nL, nB, nS, none_of k02 z2, fun st q => by have := hs.bare.2 _ _ q; rw [Array.getElem?_eq_none (Nat.le_refl _)] at this; cases this⟩
  · have h3 := fun t o => hs.keeps (Kp.of (s := s) (t := t) fun b o' q => Heap.get?_push_of_some o (k02 b o' q))
    have h4 := fun t o => (h3 t o).regen (gk' := gS gk s.gens.size (.fresh (.func (gBody q0 q1 q2 q3 q4 q5 q6 q7 q8 q9 q10 q11 q12 q13 q14 q15 q16 q17 q18 q19 q20 q21 q22 q23 q24 q25 q26 q27 q28 q29 q30 q31 q32) (callEnv fd h1.objs.size 98)))) (AllBare.push hs.bare.1 rfl) fun i st q => by
      unfold gS at q
      by_cases z : i = s.gens.size
      · subst z; rw [if_pos rfl] at q; cases q; exact Array.getElem?_push_size ..
      · rw [if_neg z] at q
        have := hs.bare.2 i st q
        obtain ⟨hi, _⟩ := Array.getElem?_eq_some_iff.mp this
        rw [Array.getElem?_push, if_neg z]; exact this
    refine ⟨(h4 _ _).stays, (h4 0 default).os, (h4 0 default).bare, (h4 _ _).rep, fun a o q => ?_, (h4 0 default).inj, (h4 _ _).frm, fun L hL => List.mem_cons_of_mem _ ((h4 0 default).sps L hL), fun L hL => ?_⟩
    · have r := (h4 0 default).off a o q
      cases o with
      | inst C' d' at' =>
        refine ⟨r.1, r.2.1, fun z => ?_, r.2.2.2⟩
        rcases List.mem_cons.mp z with z | z
        · obtain ⟨_, _, ⟨_, i2⟩, _⟩ := hs.rep a _ q; rw [z, nS] at i2; cases i2
        · exact r.2.2.1 z
      | lst => exact r
      | opq => trivial
    · rcases List.mem_cons.mp hL with z | z
      · rw [z]; exact ⟨nB, oL, esL, nLL, Heap.get?_push_of_some _ eL, dL⟩
      · obtain ⟨p1, o, es, k, p2, p3⟩ := hs.psd L z
        exact ⟨p1, o, es, k, Heap.get?_push_of_some _ (k02 _ _ p2), p3⟩
  · rw [ce] at q; cases q
  · rw [List.lookup_cons] at q
    split at q
    · rename_i z
      cases q
      rw [beq_iff_eq.mp z]
      exact ⟨.ref h, .inl ⟨gf.ks, _, hns2.push _, rfl⟩, .ref h⟩
    · cases q
end
end Mine

-- L
namespace Mine
theorem Chn.nxts {mh : MH} : ∀ {xs : List Addr} {a b : Addr}, Chn mh a xs b → nxt mh a = some (.ref (nxA xs b 0)) ∧ ∀ i, i < xs.length → nxt mh (nxA xs b i) = some (.ref (nxA xs b (i + 1)))
  | [], a, b, h => ⟨h.1, fun i hi => by simp at hi⟩
  | x :: xs, a, b, h => by
    obtain ⟨h1, h2⟩ := h.2.nxts
    refine ⟨h.1.1, fun i hi => ?_⟩
    cases i with
    | zero => exact h1
    | succ i => exact h2 i (by simpa using hi)
theorem nxA_mem {xs : List Addr} {h : Addr} {i : Nat} (hi : i < xs.length) : nxA xs h i ∈ xs := by
  unfold nxA; rw [List.getD_eq_getElem?_getD, List.getElem?_eq_getElem hi]; exact List.getElem_mem hi
theorem ring_seq {m : MH} {T h : Addr} {xs : List Addr} (R : Ring m T h xs) (hT : IsT m T) (no : ∀ b, isM (m b) = false) : GenSeq (fun _ => m) T h xs where
  noM := fun _ => no
  t := fun _ _ => hT
  l := fun _ _ => R.L
  k := fun i hi => R.k _ (nxA_mem hi)
  st := R.c.nxts.1
  z := fun i hi => by
    rcases Nat.lt_or_ge i xs.length with q | q
    · exact ⟨_, R.c.nxts.2 i q, fun _ => rfl⟩
    · rw [nxA_end q]; exact ⟨_, R.c.nxts.1, fun z => by omega⟩
  ne := fun i hi q => by
    have := R.n
    rw [List.nodup_cons] at this
    exact this.1 (q ▸ nxA_mem hi)
theorem Ring.hide {m : MH} {T h : Addr} {xs : List Addr} (R : Ring m T h xs) : Ring (hideL m) T h xs :=
  ⟨R.L.hide, R.c.frame (fun x _ => attr_hide _ _ _) (fun x _ => attr_hide _ _ _), R.n, fun x hx => (cls_hide _ _).trans (R.k x hx)⟩

section
variable {w : World} {mg mb : Str → Option Value} {B : Heap} {os : OsState} {gk : Nat → Option GenState} {n : Nat} {stk : List Env} {ps qs : List Addr} {env : Env} {fr : FR} {m mh : MH} {Lg T h : Addr} {xs : List Addr} {ms : Nat → MH}

/-- a generator's frame whose namespace stands -/
theorem frG {genv : Env} {fr : FR} {m m' : MH} {h h' : Heap} (F : FrR genv fr m h) (hc : genv.cells = []) (hf : ∀ p ∈ fr, Flat p.2) (k : ∀ mm, h.Ns genv.locals mm → h'.Ns genv.locals mm) : FrR genv fr m' h' := by
  refine ⟨(let ⟨mm, hm⟩ := F.loc; ⟨mm, k _ hm⟩), fun x c e => (by rw [hc] at e; cases e), fun x v e => ?_⟩
  obtain ⟨val, r, rv⟩ := F.nam x v e
  refine ⟨val, ?_, (hf (x, v) (mem_of_lookup e)).any rv⟩
  rcases r with ⟨hl, mm, hm, hv⟩ | ⟨_, c, hc', _⟩
  · exact .inl ⟨hl, mm, k _ hm, hv⟩
  · rw [hc] at hc'; cases hc'
theorem GEnv.more {g : G} {genv : Env} {C : Addr} (ge : GEnv g genv Lg ps) (hC : Lg ≠ C) : GEnv g genv Lg (C :: ps) :=
  ⟨⟨ge.ok.kind, ge.ok.glob, ge.ok.blt, by rw [ge.loc]; exact List.mem_cons_self, fun q => by
    rw [ge.loc] at q
    rcases List.mem_cons.mp q with q | q
    · exact hC q
    · have := ge.ok.out; rw [ge.loc] at this; exact this q, fun q hq => List.mem_cons_of_mem _ hq, ge.ok.cellB, ge.ok.cinj⟩, ge.co, ge.int, ge.kn, ge.kx, ge.fr, ge.loc, ge.cel⟩
theorem gfr_flat {i : Nat} : ∀ p ∈ (if i = 0 then [(("self" : Str), AV.ref h)] else [("next", .ref (nxA xs h i)), ("self", .ref h)]), Flat p.2 := by
  intro p hp
  split at hp <;> simp only [List.mem_cons, List.not_mem_nil, or_false] at hp
  · subst hp; exact .ref _
  · rcases hp with rfl | rfl <;> exact .ref _

theorem compG_gen {elt iter : Expr} {x : Str} {px pos : Pos} {scope : Scope} {cl : List (Str × Addr)} {val : Nat → AV} (SB : ∀ gk, St0 (g3 w mg mb B os gk) B) (ok : EnvOk (g3 w mg mb B os gk) env ps qs)
    (hks : scope.kind = .function) (hcell : ∀ y ∈ scope.names, y.2 ≠ .cell) (hnames : ∀ y ∈ scope.names, y.2 = .local → scope.names.lookup y.1 = some .local) (hx : scope.names.lookup x = some .local)
    (hclos : closureFor scope env = pure cl) (hcl : ∀ y c, cl.lookup y = some c → env.cells.lookup y = some c) (hcm : ∀ y c, (y, c) ∈ cl → (y, c) ∈ env.cells) (hi : EV (g3 w mg mb B os gk) stk ps (n + 3) env fr mh iter (Is mh (.ref h))) (hT : IsT mh T) (R : Ring mh T h xs) (hN : xs.length ≤ 1000)
    (hv : ∀ i, i < xs.length → Flat (val i))
    (hb : ∀ C Lg gk i, i < xs.length → EV (g3 w mg mb B os gk) stk (Lg :: C :: ps) (n + 3) (compEnvC scope cl C env) [(x, .ref (nxA xs h i))] (hideL mh) elt (Is (hideL mh) (val i)))
    (hs : ∀ x, foldedSetIterable iter env x = pure x) {pos' : Pos} {use : Option (Value → Sem Unit)} {A : Around} {s : Shared} {Q : Value → Shared → Prop} {E : Value → Shared → Prop} (Rm : Room (n + 3) A stk) (hs0 : H (g3 w mg mb B os gk) stk ps mh s) (hf : FrR env fr mh s.heap)
    (hfin : ∀ C D s4, C ∉ ps → H (g3 w mg mb B os gk) stk (C :: ps) mh s4 → (∃ mm, s4.heap.Ns C mm) → Mine.T ps s.heap s4.heap → RV (Im mh) s4.heap (.list ((List.range xs.length).map val)) (.ref D) → s.heap.get? C = none → compPost (g3 w mg mb B os gk).M A E use Q (.ref D) C (.ok .next) s4) :
    wpAny (g3 w mg mb B os gk).M A (comprehension (.ListComp elt [⟨.Name x px, iter, [], 0⟩] scope pos) scope env pos' (newList []) false (eval iter env) use) Q E s := by
  refine wpAny_comprehension_free (use := use) rfl hs hclos hks hnames (hi A s _ E Rm hs0 hf ?_)
  rintro s1 v1 x1 m1 ⟨rfl, e2⟩ hs1 t1 sl1 r1
  have e2 := e2.symm
  subst e2
  cases r1
  refine gen_make (n := n + 1) (SB gk) Rm (hs1.hide) R.L.hide fun s2 genv Lg ag gi q0 q1 q2 q3 q4 q5 q6 q7 q8 q9 q10 q11 q12 q13 q14 q15 q16 q17 q18 q19 q20 q21 q22 q23 q24 q25 q26 q27 q28 q29 q30 q31 q32 gm gn => ?_
  refine wpAny_newObj_type (wpAny_newFunctionEnv hcell (by intro y hy; cases hy) (fun h1 hns1 hsb1 => ?_) hks)
  dsimp only at hns1 hsb1 ⊢
  generalize hH2 : s2.heap.push { cls := .type "list", dict := none, data := .seq ([] : List Value).toArray } = H2 at hns1 hsb1 ⊢
  have hC : H2.objs.size = s2.heap.objs.size + 1 := by rw [← hH2, Heap.size_push]
  generalize hCe : H2.objs.size = C at hns1 hsb1 hC ⊢
  generalize hDe : s2.heap.objs.size = D at hC ⊢
  have fresh : ∀ a, D ≤ a → s2.heap.get? a = none := fun a ha => by
    cases e : s2.heap.get? a with
    | none => rfl
    | some o' => have := Heap.lt_size e; rw [hDe] at this; exact absurd this (Nat.not_lt.mpr ha)
  have nC := fresh C (by rw [hC]; exact Nat.le_succ _)
  have nD := fresh D (Nat.le_refl _)
  have hDC : D ≠ C := by rw [hC]; exact Nat.ne_of_lt (Nat.lt_succ_self _)
  have ex2 : ∀ b o, s2.heap.get? b = some o → b ≠ C ∧ b ≠ D := fun b o e => ⟨(fun q => by rw [q, nC] at e; cases e), (fun q => by rw [q, nD] at e; cases e)⟩
  have old : ∀ b o, s2.heap.get? b = some o → h1.get? b = some o := fun b o e => hsb1.extBut b o (ex2 b o e).1 (Heap.get?_push_of_some _ (hH2 ▸ Heap.get?_push_of_some _ e))
  have old1 : ∀ b o, s1.heap.get? b = some o → h1.get? b = some o := fun b o e => old b o (gn.keep b o e)
  have hD1 : h1.get? D = some (PySem.W.listOf #[] 0) := hsb1.extBut _ _ hDC (Heap.get?_push_of_some _ (by rw [← hH2, ← hDe]; exact Heap.get?_push_size _ rfl))
  have nB : ∀ a, s2.heap.get? a = none → B.get? a = none := fun a ha => by
    cases q : B.get? a with
    | none => rfl
    | some o => have := gn.H.stays _ _ q; rw [ha] at this; cases this
  have n12 : ∀ a, s2.heap.get? a = none → s1.heap.get? a = none := fun a ha => by
    cases q : s1.heap.get? a with
    | none => rfl
    | some o => rw [gn.keep _ _ q] at ha; cases ha
  have nS : ∀ a, s1.heap.get? a = none → s.heap.get? a = none := fun a ha => by
    cases q : s.heap.get? a with
    | none => rfl
    | some o => obtain ⟨o', e'⟩ := t1.live _ _ q; rw [ha] at e'; cases e'
  have hCp : C ∉ ps := fun q => by obtain ⟨_, o, _, _, e, _⟩ := hs1.psd _ q; rw [n12 C nC] at e; cases e
  have hLgC : Lg ≠ C := by obtain ⟨_, o, _, _, e, _⟩ := gn.H.psd Lg List.mem_cons_self; exact (ex2 _ _ e).1
  have hagCD : ag ≠ C ∧ ag ≠ D := by obtain ⟨o, _, _, e, _⟩ := gn.gen; exact ex2 _ _ e
  have ge := gn.ge.more hLgC
  have kx : (compEnvC scope cl C env).kindOf x = some .local := lookup_relabel_local hx
  have hh1 : H (g3 w mg mb B os (gS gk gi (.fresh (.func (gBody q0 q1 q2 q3 q4 q5 q6 q7 q8 q9 q10 q11 q12 q13 q14 q15 q16 q17 q18 q19 q20 q21 q22 q23 q24 q25 q26 q27 q28 q29 q30 q31 q32) genv)))) stk (Lg :: C :: ps) (hideL mh) { s2 with heap := h1, toks := s2.toks + ([] : List (Str × Value)).length } := by
    have k := gn.H.keeps (Kp.of (t := s2.toks + ([] : List (Str × Value)).length) old)
    refine ⟨k.stays, k.os, k.bare, k.rep, fun a o e => ?_, k.inj, k.frm, fun L hL => ?_, fun L hL => ?_⟩
    · have r := k.off a o e
      cases o with
      | inst C' d at_ =>
        refine ⟨r.1, r.2.1, fun q => ?_, r.2.2.2⟩
        rcases List.mem_cons.mp q with q | q
        · exact r.2.2.1 (q ▸ List.mem_cons_self)
        · rcases List.mem_cons.mp q with q | q
          · obtain ⟨_, _, ⟨_, i2⟩, _⟩ := gn.H.rep a _ e; rw [q, nC] at i2; cases i2
          · exact r.2.2.1 (List.mem_cons_of_mem _ q)
      | lst => exact r
      | opq => trivial
    · rcases List.mem_cons.mp (k.sps L hL) with q | q
      · rw [q]; exact List.mem_cons_self
      · exact List.mem_cons_of_mem _ (List.mem_cons_of_mem _ q)
    · rcases List.mem_cons.mp hL with q | q
      · exact k.psd L (q ▸ List.mem_cons_self)
      · rcases List.mem_cons.mp q with q | q
        · obtain ⟨o, es, ep, e, d, _⟩ := hns1; rw [q]; exact ⟨nB _ nC, o, es, ep, e, d⟩
        · exact k.psd L (List.mem_cons_of_mem _ q)
  have hTm := hT.hide
  have Rh := R.hide
  have S := ring_seq Rh hTm (fun b => hideL_noM (mh := mh) b)
  have imD : Im mh D := hs1.im_new (n12 D nD)
  have frc : ∀ (h' : Heap) (mm : Str → Option Value) (i : Nat) (val' : Value), h'.Ns C mm → mm x = some val' → val' = .ref (nxA xs h i) → (∀ b o, s1.heap.get? b = some o → nd o → h'.get? b = some o) → FrR (compEnvC scope cl C env) [(x, .ref (nxA xs h i))] (hideL mh) h' := fun h' mm i val' hn hm hv hk => by
    have hf1 := fr_next hf t1 ok.loc sl1
    refine ⟨⟨mm, hn⟩, fun y c e => ?_, fun y v e => ?_⟩
    · obtain ⟨v0, o, e1, d1⟩ := hf1.cel y c (hcm y c e)
      exact ⟨v0, o, hk c o e1 (by intro es n q; rw [d1] at q; cases q), d1⟩
    · rw [List.lookup_cons] at e
      split at e
      · rename_i q
        cases e
        rw [beq_iff_eq.mp q]
        exact ⟨val', .inl ⟨kx, mm, hn, hm⟩, by rw [hv]; exact .ref _⟩
      · cases e
  let Acc (h' : Heap) (vs : List AV) : Prop := ∃ (vals : List Value) (kD : Nat), h'.get? D = some (PySem.W.listOf vals.toArray kD) ∧ vs.length = vals.length ∧ ∀ (j : Nat) (v : AV) (val : Value), vs[j]? = some v → vals[j]? = some val → ∀ (X : Addr → Prop) (h : Heap), RV X h v val
  let vsAt (i : Nat) : List AV := (List.range i).map val
  let I : Nat → Shared → Prop := fun k s3 => ∃ i st, k = xs.length - i ∧ i ≤ xs.length ∧ H (g3 w mg mb B os (gS gk gi st)) stk (Lg :: C :: ps) (hideL mh) s3 ∧ GAt w mg mb B os gk stk (C :: ps) genv Lg (fun _ => hideL mh) h xs A ag gi i st s3 ∧ (∃ mm, s3.heap.Ns C mm) ∧ Mine.T ps s.heap s3.heap ∧ (∀ b o, s1.heap.get? b = some o → nd o → s3.heap.get? b = some o) ∧ Acc s3.heap (vsAt i)
  have kT : ∀ {h' h'' : Heap}, (∀ b o, b ≠ D → h'.get? b = some o → h''.get? b = some o) → (∃ o vs k, h'.get? D = some o ∧ o.data = .seq vs k) → ∀ L mm, h'.Ns L mm → h''.Ns L mm := fun {h' h''} kk hD L mm hn => by
    obtain ⟨o, es, ep, e, d, r⟩ := hn
    obtain ⟨oD, vs, k, eD, dD⟩ := hD
    exact ⟨o, es, ep, kk L o (fun q => by rw [q, eD] at e; cases e; rw [dD] at d; cases d) e, d, r⟩
  have loop : codeAny (g3 w mg mb B os gk).M A (.compLoop (.ListComp elt [⟨.Name x px, iter, [], 0⟩] scope pos) 0 (.ref ag) (.ref D) (compEnvC scope cl C env)) (compPost (g3 w mg mb B os gk).M A E use Q (.ref D) C) { s2 with heap := h1, toks := s2.toks + ([] : List (Str × Value)).length } := by
    refine codeAny_compLoop_tests I ?turn xs.length ?start
    case start =>
     refine ⟨0, _, by omega, by omega, hh1, ⟨?_, ?_, fun s'' hc => ⟨rfl, ?_⟩⟩, ⟨_, hns1⟩, t1.trans (Mine.T.of_keeps old1), fun b o e _ => old1 b o e, [], 0, hD1, rfl, fun j v val e => by simp [vsAt] at e⟩
     · exact frG (gn.F (hideL mh)) gn.ge.cel (gfr_flat (xs := xs) (i := 0)) fun mm hn => by rw [gn.ge.loc] at *; exact hn.keeps old
     · obtain ⟨o, nm, qn, e, r⟩ := gn.gen; exact ⟨o, nm, qn, old _ _ e, r⟩
     · have z := gen_fresh (n := n) gm (SB (gS gk gi .running)) ⟨ge.ok |> fun k => ⟨k.kind, k.glob, k.blt, k.loc, k.out, k.sub, k.cellB, k.cinj⟩, ge.co, ge.int, ge.kn, ge.kx, ge.fr, ge.loc, ge.cel⟩ S (A1 := A.in1) (Rm.in1) s'' hc
       rw [Nat.sub_zero]; exact z
    rintro k s3 ⟨i, st, rfl, hiN, hs3, ga, ⟨mm, hn3⟩, tA, kB, vals, kD, hD3, hvn, hvi⟩
    refine gen_ask (n := n + 3) (SB gk) Rm hiN hs3 ga (fun hlt s4 st' hs4 t4 hF4 hg4 go4 => ?_) (fun hN' s4 hs4 t4 => ?_)
    · -- an item
      have hn4 : s4.heap.Ns C mm := t4.Ns List.mem_cons_self hn3
      have kB4 : ∀ b o, s1.heap.get? b = some o → nd o → s4.heap.get? b = some o := fun b o e d => t4.nd b o (kB b o e d) d
      have hD4 := t4.nd D _ hD3 nd_list
      refine wpAny_assign_Name (wpAny_storeName_local kx hn4 (fun h5 hn5 hb5 => ?_) (by rw [show (compEnvC scope cl C env).scope.kind = .function from hks]; rfl))
      have hs5 := hs4.ns (t := s4.toks + 1) (List.mem_cons_of_mem _ List.mem_cons_self) hn5 hb5
      have isd : ∀ b o, s4.heap.get? b = some o → nd o → b ≠ C := fun b o e d q => by obtain ⟨oc, es, ep, ec, dc, _⟩ := hn4; rw [q, ec] at e; cases e; exact d _ _ dc
      have k5 : ∀ b o, s4.heap.get? b = some o → b ≠ C → h5.get? b = some o := fun b o e q => hb5.extBut b o q e
      have kB5 : ∀ b o, s1.heap.get? b = some o → nd o → h5.get? b = some o := fun b o e d => k5 b o (kB4 b o e d) (isd b o (kB4 b o e d) d)
      have tA5 : Mine.T ps s.heap h5 := (tA.trans (t4.sub fun a ha => List.mem_cons_of_mem _ ha)).except (nS C (n12 C nC)) fun b o hb e => k5 b o e hb
      have hf5 := frc h5 _ i (.ref (nxA xs h i)) hn5 (by simp) rfl kB5
      have hD5 := k5 D _ hD4 hDC
      have hF5 : FrR genv [("next", .ref (nxA xs h (i + 1))), ("self", .ref h)] (hideL mh) h5 := frG hF4 ge.cel (by intro p hp; simp only [List.mem_cons, List.not_mem_nil, or_false] at hp; rcases hp with rfl | rfl <;> exact .ref _) fun mm' hn => by
        obtain ⟨o, es, ep, e, d, r⟩ := hn
        rw [ge.loc] at e ⊢
        exact ⟨o, es, ep, k5 Lg o e hLgC, d, r⟩
      have hg5 : h5.IsGen ag gi := by obtain ⟨o, nm, qn, e, r⟩ := hg4; exact ⟨o, nm, qn, k5 _ _ e hagCD.1, r⟩
      refine wpAny_tests_nil ?_
      rw [if_pos rfl]
      refine hb C Lg (gS gk gi st') i hlt A _ _ _ Rm hs5 hf5 ?_
      rintro s7 v val7 m7 ⟨rfl, rfl⟩ hs7 t7 sl7 r7
      have fl := hv i hlt
      have hD7 := t7.nd D _ hD5 nd_list
      have hn7 := t7.Ns (List.mem_cons_of_mem _ List.mem_cons_self) hn5
      refine append_at hD7 (fun h8 sb8 hD8 => ?_) (by rw [List.size_toArray, ← hvn, sizeLine_eq]; show ((List.range i).map val).length ≤ _; simp; omega)
      have kk8 : ∀ b o, b ≠ D → s7.heap.get? b = some o → h8.get? b = some o := fun b o hb e => sb8.extBut b o hb e
      have dps : D ∉ Lg :: C :: ps := fun q => by obtain ⟨_, o, es, n, e, d⟩ := hs7.psd _ q; rw [hD7] at e; cases e; cases d
      have dM : ∀ a C d at_, hideL mh a = some (.inst C d at_) → a ≠ D ∧ d ≠ D := fun a C d at_ q => by
        obtain ⟨_, _, ⟨i1, i2⟩, _⟩ := hs7.rep a _ q
        exact ⟨(fun z => by rw [z, hD7] at i1; cases i1), (fun z => by rw [z, hD7] at i2; have := congrArg Obj.data (Option.some.inj i2); cases this)⟩
      have dL : isL (hideL mh D) = false := hideL_im.mpr imD
      have hs8 := hs7.except (t := s7.toks) dps (nB _ nD) dM dL kk8
      have kNs := kT kk8 ⟨_, _, _, hD7, rfl⟩
      refine ⟨xs.length - (i + 1), by omega, i + 1, st', rfl, hlt, hs8, ⟨?_, ?_, go4⟩, ⟨_, kNs _ _ hn7⟩, (tA5.trans (t7.sub fun a ha => List.mem_cons_of_mem _ (List.mem_cons_of_mem _ ha))).except (nS D (n12 D nD)) kk8,
        fun b o e d => kk8 b o (fun q => by rw [q, n12 D nD] at e; cases e) (t7.nd b o (kB5 b o e d) d), vals ++ [val7], kD + 1, by rw [hD8, show (vals ++ [val7]).toArray = vals.toArray.push val7 by simp], by rw [show (vsAt (i + 1)).length = (vsAt i).length + 1 by show ((List.range (i + 1)).map val).length = ((List.range i).map val).length + 1; simp, hvn]; simp, fun j u w' hu hw X h' => ?_⟩
      · exact frG hF5 ge.cel (gfr_flat (i := i + 1)) fun mm' hn => kNs _ _ (by rw [ge.loc] at hn ⊢; exact t7.Ns List.mem_cons_self hn)
      · obtain ⟨o, nm, qn, e, r⟩ := hg5
        exact ⟨o, nm, qn, kk8 _ _ hagCD.2 (t7.nd _ _ e (by intro es n q; rw [r.2.1] at q; cases q)), r⟩
      · have hl : (vsAt i).length = i := by show ((List.range i).map val).length = i; simp
        have hvs : vsAt (i + 1) = vsAt i ++ [val i] := by show (List.range (i + 1)).map val = (List.range i).map val ++ [val i]; simp [List.range_succ]
        rw [hvs] at hu
        by_cases q : j < (vsAt i).length
        · rw [List.getElem?_append_left q] at hu
          rw [List.getElem?_append_left (by omega)] at hw
          exact hvi j u w' hu hw X h'
        · rw [List.getElem?_append_right (by omega)] at hu
          rw [List.getElem?_append_right (by omega), ← hvn] at hw
          have : j - (vsAt i).length = 0 := by
            cases e : j - (vsAt i).length with
            | zero => rfl
            | succ z => rw [e] at hu; simp at hu
          rw [this] at hu hw
          simp at hu hw
          subst hu hw
          exact fl.any r7
    · -- the end
      subst hN'
      have hn4 : s4.heap.Ns C mm := t4.Ns List.mem_cons_self hn3
      have hD4 := t4.nd D _ hD3 nd_list
      have hs5 : H (g3 w mg mb B os gk) stk (C :: ps) (hideL mh) s4 := ⟨hs4.stays, hs4.os, ⟨hs4.bare.1, fun i st q => hs4.bare.2 i st (by
          show gS gk gi _ i = _
          unfold gS
          rw [if_neg (fun z : i = gi => gn.ng st (z ▸ q))]; exact q)⟩, hs4.rep, fun a o e => by
          have r := hs4.off a o e
          cases o with
          | inst C' d at_ => exact ⟨r.1, r.2.1, fun q => r.2.2.1 (List.mem_cons_of_mem _ q), r.2.2.2⟩
          | lst => exact r
          | opq => trivial, hs4.inj, hs4.frm, fun L hL => List.mem_cons_of_mem _ (hs1.sps L hL), fun L hL => hs4.psd L (List.mem_cons_of_mem _ hL)⟩
      have tB : ∀ b o, s1.heap.get? b = some o → nd o → s4.heap.get? b = some o := fun b o e d => t4.nd b o (kB b o e d) d
      exact hfin C D s4 hCp (hs1.back hs5 tB) ⟨mm, hn4⟩ (tA.trans (t4.sub fun a ha => List.mem_cons_of_mem _ ha)) (.list imD hD4 rfl rfl hvn fun j v val e1 e2 => hvi j v val e1 e2 _ _) (nS C (n12 C nC))
  have g1 : h1.IsGen ag gi := by obtain ⟨o, nm, qn, e, r⟩ := gn.gen; exact ⟨o, nm, qn, old _ _ e, r⟩
  exact codeAny_compStart_list loop (wpAny_pyIter_gen g1 loop)

theorem EV.compG {elt iter : Expr} {x : Str} {px pos : Pos} {scope : Scope} {cl : List (Str × Addr)} {val : Nat → AV} (SB : ∀ gk, St0 (g3 w mg mb B os gk) B) (ok : EnvOk (g3 w mg mb B os gk) env ps qs)
    (hks : scope.kind = .function) (hcell : ∀ y ∈ scope.names, y.2 ≠ .cell) (hnames : ∀ y ∈ scope.names, y.2 = .local → scope.names.lookup y.1 = some .local) (hx : scope.names.lookup x = some .local)
    (hclos : closureFor scope env = pure cl) (hcl : ∀ y c, cl.lookup y = some c → env.cells.lookup y = some c) (hcm : ∀ y c, (y, c) ∈ cl → (y, c) ∈ env.cells) (hi : EV (g3 w mg mb B os gk) stk ps (n + 3) env fr mh iter (Is mh (.ref h))) (hT : IsT mh T) (R : Ring mh T h xs) (hN : xs.length ≤ 1000)
    (hv : ∀ i, i < xs.length → Flat (val i))
    (hb : ∀ C Lg gk i, i < xs.length → EV (g3 w mg mb B os gk) stk (Lg :: C :: ps) (n + 3) (compEnvC scope cl C env) [(x, .ref (nxA xs h i))] (hideL mh) elt (Is (hideL mh) (val i)))
    (hs : ∀ x, foldedSetIterable iter env x = pure x := by intro _; rfl) :
    EV (g3 w mg mb B os gk) stk ps (n + 3) env fr mh (.ListComp elt [⟨.Name x px, iter, [], 0⟩] scope pos) (Is mh (.list ((List.range xs.length).map val))) := fun A s Q E Rm hs0 hf hq => by
  rw [eval_ListComp]
  refine compG_gen SB ok hks hcell hnames hx hclos hcl hcm hi hT R hN hv hb hs Rm hs0 hf fun C D s4 hCp hs4 hn4 tA rv hC0 => ?_
  obtain ⟨mm, hn4⟩ := hn4
  obtain ⟨oC, esC, epC, eC, dC, _⟩ := id hn4
  refine ⟨mm, hn4, fun h9 sb9 => ?_⟩
  have kk9 : ∀ b o, b ≠ C → s4.heap.get? b = some o → h9.get? b = some o := fun b o hb e => sb9.extBut b o hb e
  refine hq _ _ (.ref D) mh ⟨rfl, rfl⟩ (hs4.drop (t := s4.toks) hs0.sps hCp kk9) (tA.except hC0 kk9) (SameL.refl _) (rv_mono2 rv fun a o vs n e d i => ⟨i, kk9 a o (fun q => by rw [q, eC] at e; cases e; rw [dC] at d; cases d) e⟩)
theorem SJ.compG {y : Str} {py spos : Pos} {elt iter : Expr} {x : Str} {px pos : Pos} {scope : Scope} {cl : List (Str × Addr)} {val : Nat → AV} (SB : ∀ gk, St0 (g3 w mg mb B os gk) B) (ok : EnvOk (g3 w mg mb B os gk) env ps qs)
    (hks : scope.kind = .function) (hcell : ∀ y ∈ scope.names, y.2 ≠ .cell) (hnames : ∀ y ∈ scope.names, y.2 = .local → scope.names.lookup y.1 = some .local) (hx : scope.names.lookup x = some .local)
    (hclos : closureFor scope env = pure cl) (hcl : ∀ y c, cl.lookup y = some c → env.cells.lookup y = some c) (hcm : ∀ y c, (y, c) ∈ cl → (y, c) ∈ env.cells) (hi : EV (g3 w mg mb B os gk) stk ps (n + 3) env fr mh iter (Is mh (.ref h))) (hT : IsT mh T) (R : Ring mh T h xs) (hN : xs.length ≤ 1000)
    (hv : ∀ i, i < xs.length → Flat (val i))
    (hb : ∀ C Lg gk i, i < xs.length → EV (g3 w mg mb B os gk) stk (Lg :: C :: ps) (n + 3) (compEnvC scope cl C env) [(x, .ref (nxA xs h i))] (hideL mh) elt (Is (hideL mh) (val i)))
    (hk : NmK env y) (hs : ∀ x, foldedSetIterable iter env x = pure x) (hsw : swapsWith (.ListComp elt [⟨.Name x px, iter, [], 0⟩] scope pos) (some (.Name y py)) spos.line env = pure true) :
    SJ (g3 w mg mb B os gk) stk ps qs (n + 3) env fr mh (exec (.Assign [.Name y py] (.ListComp elt [⟨.Name x px, iter, [], 0⟩] scope pos) spos) env) (fun fl r m => fl = .next ∧ r = (y, .list ((List.range xs.length).map val)) :: fr ∧ m = mh) := fun A s Q E Rm hs0 hf hq => by
  rw [exec_Assign_Name_used _ _ _ _ hsw]
  refine wpAny_bind (wpAny_standAt (wpAny_bind ?_))
  show wpAny _ A (do let _ ← comprehension (.ListComp elt [⟨.Name x px, iter, [], 0⟩] scope pos) scope env _ (newList []) false (eval iter env) (some (PySem.assign (.Name y py) env))) _ _ s
  refine wpAny_bind (wpAny_mono (compG_gen (Q := fun _ s' => Q .next s') SB ok hks hcell hnames hx hclos hcl hcm hi hT R hN hv hb hs Rm hs0 hf fun C D s4 hCp hs4 hn4 tA rv hC0 => comp_use ok hk hs0 hf hCp hs4 hn4 tA (SameL.refl _) rv hC0 fun s' h1 h2 h3 => hq s' .next .next _ _ ⟨rfl, rfl, rfl⟩ h1 h2 h3 .next) (fun _ s' hq => wpAny_pure (wpAny_pure hq)) fun _ _ e => e)

theorem range_ks {ks : List Int} : (List.range ks.length).map (fun i => AV.int (ks.getD i 0)) = il ks := by
  have h := range_il (ns := ks) (f := fun k => AV.int k)
  rw [il_len] at h
  exact h
theorem paths_elt {g : G} {x : Str} {px ap : Pos} {C Lg : Addr} {gk' : Nat → Option GenState} {cenv : Env} {stk : List Env} {a : Addr} {k : Int} (SB : ∀ gk, St0 (g3 w mg mb B os gk) B) (hck : cenv.scope.kind = .function) (hd : (x == ("__debug__" : Str)) = false) (hn : (x == ("__classdict__" : Str)) = false) (nd : Node mh a k) :
    EV (g3 w mg mb B os gk') stk ps (n + 3) cenv [(x, .ref a)] (hideL mh) (.Attribute (.Name x px) "path" ap) (Is (hideL mh) (.int k)) :=
  ev_path (n := n + 1) (SB gk') ((cls_hide mh a).trans nd.k) ((attr_hide mh a _).trans nd.p) (EV.name hck (by simp [List.lookup_cons]) hd hn) (by with_unfolding_all rfl)
theorem EV.paths {iter : Expr} {x : Str} {px px' ap pos : Pos} {scope : Scope} (ks : List Int) (SB : ∀ gk, St0 (g3 w mg mb B os gk) B) (ok : EnvOk (g3 w mg mb B os gk) env ps qs) (hi : EV (g3 w mg mb B os gk) stk ps (n + 3) env fr mh iter (Is mh (.ref h))) (hT : IsT mh T) (R : Ring mh T h xs) (hN : xs.length ≤ 1000)
    (hl : xs.length = ks.length) (hn : ∀ i, i < xs.length → Node mh (nxA xs h i) (ks.getD i 0)) (hd : (x == ("__debug__" : Str)) = false := by rfl) (hn' : (x == ("__classdict__" : Str)) = false := by rfl)
    (hclos : closureFor scope env = pure [] := by with_unfolding_all rfl) (hks : scope.kind = .function := by rfl) (hcell : ∀ y ∈ scope.names, y.2 ≠ .cell := by decide) (hnames : ∀ y ∈ scope.names, y.2 = .local → scope.names.lookup y.1 = some .local := by decide) (hx : scope.names.lookup x = some .local := by rfl)
    (hs : ∀ x, foldedSetIterable iter env x = pure x := by intro _; rfl) :
    EV (g3 w mg mb B os gk) stk ps (n + 3) env fr mh (.ListComp (.Attribute (.Name x px') "path" ap) [⟨.Name x px, iter, [], 0⟩] scope pos) (Is mh (.list (il ks))) := by
  have h := EV.compG (px := px) (pos := pos) (val := fun i => .int (ks.getD i 0)) (fr := fr) (elt := .Attribute (.Name x px') "path" ap) SB ok hks hcell hnames hx hclos (fun y c e => by cases e) (fun y c e => by cases e) hi hT R hN (fun _ _ => .int _) (fun C Lg gk' i hlt => paths_elt (g := g3 w mg mb B os gk) (C := C) (Lg := Lg) SB hks hd hn' (hn i hlt)) hs
  rw [hl, range_ks] at h
  exact h
theorem ST.paths {iter : Expr} {x y : Str} {px px' py ap pos spos : Pos} {scope : Scope} {rest : List Stmt} {P : FL → FR → MH → Prop} (ks : List Int) (SB : ∀ gk, St0 (g3 w mg mb B os gk) B) (ok : EnvOk (g3 w mg mb B os gk) env ps qs) (hi : EV (g3 w mg mb B os gk) stk ps (n + 3) env fr mh iter (Is mh (.ref h))) (hT : IsT mh T) (R : Ring mh T h xs) (hN : xs.length ≤ 1000)
    (hl : xs.length = ks.length) (hn : ∀ i, i < xs.length → Node mh (nxA xs h i) (ks.getD i 0)) (kq : ST (g3 w mg mb B os gk) stk ps qs (n + 3) env ((y, .list (il ks)) :: fr) mh rest P) (hd : (x == ("__debug__" : Str)) = false := by rfl) (hn' : (x == ("__classdict__" : Str)) = false := by rfl)
    (hclos : closureFor scope env = pure [] := by with_unfolding_all rfl) (hks : scope.kind = .function := by rfl) (hcell : ∀ y ∈ scope.names, y.2 ≠ .cell := by decide) (hnames : ∀ y ∈ scope.names, y.2 = .local → scope.names.lookup y.1 = some .local := by decide) (hx : scope.names.lookup x = some .local := by rfl)
    (hk : NmK env y := by first | exact .inl rfl | exact .inr ⟨rfl, _, rfl⟩) (hs : ∀ x, foldedSetIterable iter env x = pure x := by intro _; rfl) (hsw : swapsWith (.ListComp (.Attribute (.Name x px') "path" ap) [⟨.Name x px, iter, [], 0⟩] scope pos) (some (.Name y py)) spos.line env = pure true := by rfl) :
    ST (g3 w mg mb B os gk) stk ps qs (n + 3) env fr mh (.Assign [.Name y py] (.ListComp (.Attribute (.Name x px') "path" ap) [⟨.Name x px, iter, [], 0⟩] scope pos) spos :: rest) P := by
  refine ST.cons (SJ.compG (val := fun i => .int (ks.getD i 0)) SB ok hks hcell hnames hx hclos (fun y c e => by cases e) (fun y c e => by cases e) hi hT R hN (fun _ _ => .int _) (fun C Lg gk' i hlt => paths_elt (g := g3 w mg mb B os gk) (C := C) (Lg := Lg) SB hks hd hn' (hn i hlt)) hk hs hsw) ?_ ?_
  · rintro r m ⟨_, rfl, rfl⟩
    rw [hl, range_ks]
    exact kq
  · rintro fl r m ⟨rfl, _⟩ q
    exact absurd rfl q
end
end Mine

-- F
namespace Mine
local macro_rules | `(tactic| tb_start) => `(tactic| (
  (refine' CA.def3 ?SB ?ho ?hcd ?hbody ?hk ?hco ?hgen ?hcell ?hgl ?hbl ?hcl ?hnd ?hloc ?hbind ?hb);
  (case SB => assumption);
  (case ho => exact ⟨_, _, _, (by k_is : List.lookup _ (hd.heap_39 _) = _)⟩);
  (case hcd => (show codeIn (hd.heap_39 _) _ _ = true); k_is);
  (case hbody => exact rfl); (case hk => exact rfl); (case hco => exact rfl); (case hgen => exact rfl); (case hcell => decide); (case hgl => exact rfl); (case hbl => exact rfl); (case hcl => exact rfl);
  (case hnd => decide); (case hloc => decide);
  (case hbind => (intro s vals X hK rv; refine ⟨vals, rv, ?_⟩; (repeat (rename PySem.Paired _ _ _ => rv; cases rv)); exact BindsTo.of_eq rfl))))
section
variable {w : World} {mg mb : Str → Option Value} {B : Heap} {os : OsState} {gk : Nat → Option GenState} {n : Nat} {stk : List Env} {ps qs : List Addr} {env : Env} {fr : FR} {m mh : MH} {T h : Addr} {xs : List Addr} {ms : Nat → MH}
/-- a loop over the program's own generator -/
theorem SJ.forG {x : Str} {px pos : Pos} {iter : Expr} {body : List Stmt} (SB : ∀ gk, St0 (g3 w mg mb B os gk) B) (ok : EnvOk (g3 w mg mb B os gk) env ps qs) (hcel : env.cells = []) (hkx : env.kindOf x = some .local) (S : GenSeq ms T h xs) (hx : ∀ p ∈ fr, p.1 ≠ x)
    (hfr0 : ∀ p ∈ fr, fr.lookup p.1 = some p.2)
    (hi : EV (g3 w mg mb B os gk) stk ps (n + 3) env fr (ms 0) iter (Is (ms 0) (.ref h)))
    (hb : ∀ gk' Lg i, i < xs.length → Lg ∉ ps → EnvOk (g3 w mg mb B os gk') env (Lg :: ps) (Lg :: qs) → ST (g3 w mg mb B os gk') stk (Lg :: ps) (Lg :: qs) (n + 3) env ((x, .ref (nxA xs h i)) :: fr) (ms i) body (fun fl r m => fl = .next ∧ (∀ p ∈ fr, r.lookup p.1 = some p.2) ∧ m = ms (i + 1)))
    (hs : ∀ x, foldedSetIterable iter env x = pure x := by intro _; rfl) :
    SJ (g3 w mg mb B os gk) stk ps qs (n + 3) env fr (ms 0) (exec (.For (.Name x px) iter body [] pos) env) (fun fl r m => fl = .next ∧ (∀ p ∈ fr, r.lookup p.1 = some p.2) ∧ m = ms xs.length) := fun A s Q E Rm hs0 hf hq => by
  refine wpAny_For (hi A s _ E Rm hs0 hf ?_) hs
  rintro s1 v1 x1 m1 ⟨rfl, e2⟩ hs1 t1 sl1 r1
  subst e2
  cases r1
  refine gen_make (n := n + 1) (SB gk) Rm hs1 (S.l 0 (Nat.zero_le _)) fun s2 genv Lg ag gi q0 q1 q2 q3 q4 q5 q6 q7 q8 q9 q10 q11 q12 q13 q14 q15 q16 q17 q18 q19 q20 q21 q22 q23 q24 q25 q26 q27 q28 q29 q30 q31 q32 gm gn => ?_
  have ge := gn.ge
  have hf2 : FrR env fr (ms 0) s2.heap := (fr_next hf t1 ok.loc sl1).T (Mine.T.of_keeps (ps := ps) gn.keep) ok.loc fun _ _ _ i => i
  have ts0 : Ts [] qs (ms 0) (ms 0) s.heap s2.heap := (t1.trans (Mine.T.of_keeps gn.keep)).s (SameL.refl _) ok.sub
  have okL : ∀ gk', EnvOk (g3 w mg mb B os gk') env (Lg :: ps) (Lg :: qs) := fun gk' => (show EnvOk (g3 w mg mb B os gk') env ps qs from ⟨ok.kind, ok.glob, ok.blt, ok.loc, ok.out, ok.sub, ok.cellB, ok.cinj⟩).more gn.nL
  refine codeAny_forLoop (I := fun k s3 => ∃ i st r, k = xs.length - i ∧ i ≤ xs.length ∧ H (g3 w mg mb B os (gS gk gi st)) stk (Lg :: ps) (ms i) s3 ∧ GAt w mg mb B os gk stk ps genv Lg ms h xs A ag gi i st s3 ∧ FrR env r (ms i) s3.heap ∧ (∀ p ∈ fr, r.lookup p.1 = some p.2) ∧ Ts [] qs (ms 0) (ms i) s.heap s3.heap) ?turn xs.length ?start
  case start =>
    refine ⟨0, _, fr, by omega, by omega, gn.H, ⟨gn.F _, gn.gen, fun s'' hc => ⟨rfl, ?_⟩⟩, hf2, hfr0, ts0⟩
    have z := gen_fresh (n := n) gm (SB (gS gk gi .running)) ⟨ge.ok |> fun k => ⟨k.kind, k.glob, k.blt, k.loc, k.out, k.sub, k.cellB, k.cinj⟩, ge.co, ge.int, ge.kn, ge.kx, ge.fr, ge.loc, ge.cel⟩ S (A1 := A.in1) (Rm.in1) s'' hc
    rw [Nat.sub_zero]; exact z
  rintro k s3 ⟨i, st, r, rfl, hiN, hs3, ga, hf3, hr3, tA⟩
  refine gen_ask (n := n + 3) (SB gk) Rm hiN hs3 ga (fun hlt s4 st' hs4 t4 hF4 hg4 go4 => ?_) (fun hN' s4 hs4 t4 => ?_)
  · have hf4 := hf3.T t4 ok.loc fun _ _ _ i => i
    refine wpAny_assign_Name (store (g := g3 w mg mb B os (gS gk gi st')) (okL _) (.inl hkx) hs4 hf4 (.ref (nxA xs h i)) fun s5 hs5 hf5 ts5 => ?_)
    have hf5' : FrR env ((x, .ref (nxA xs h i)) :: fr) (ms i) s5.heap := hf5.sub fun y v e => by
      rw [List.lookup_cons] at e ⊢
      split at e
      · exact e
      · exact hr3 (y, v) (mem_of_lookup e)
    refine hb (gS gk gi st') Lg i hlt gn.nL (okL _) A s5 _ _ Rm hs5 hf5' fun s6 fl f r6 m6 p hs6 hf6 ts6 flr => ?_
    obtain ⟨rfl, hr6, rfl⟩ := p
    cases flr
    have ts56 := ts5.trans ts6
    rw [hcel] at ts56
    have ts56 : Ts [] (Lg :: qs) (ms i) (ms (i + 1)) s4.heap s6.heap := ts56
    refine ⟨xs.length - (i + 1), by omega, i + 1, st', r6, rfl, hlt, hs6, ⟨?_, ?_, go4⟩, hf6, hr6, ?_⟩
    · exact frG hF4 ge.cel (gfr_flat (i := i + 1)) fun mm' hn => Ns.of_data hn fun o es ep e d => ts56.ns _ (by rw [ge.loc]; exact List.mem_cons_self) o es ep e d
    · obtain ⟨o, nm, qn, e, hc, hd, hsl⟩ := hg4
      exact ⟨o, nm, qn, ts56.nd _ _ e (by intro es n q; rw [hd] at q; cases q) (by simp) (S.noM _ _), hc, hd, hsl⟩
    · exact (tA.trans (t4.s (SameL.refl _) ok.sub)).trans ⟨ts56.nd, ts56.nm, ts56.nw, ts56.op, fun L hL => ts56.ns L (List.mem_cons_of_mem _ hL), ts56.live⟩
  · subst hN'
    refine wpAny_execs_nil ?_
    have hs5 : H (g3 w mg mb B os gk) stk ps (ms xs.length) s4 := ⟨hs4.stays, hs4.os, ⟨hs4.bare.1, fun i st q => hs4.bare.2 i st (by
          show gS gk gi _ i = _
          unfold gS
          rw [if_neg (fun z : i = gi => gn.ng st (z ▸ q))]; exact q)⟩, hs4.rep, fun a o e => by
          have r := hs4.off a o e
          cases o with
          | inst C' d at_ => exact ⟨r.1, r.2.1, fun q => r.2.2.1 (List.mem_cons_of_mem _ q), r.2.2.2⟩
          | lst => exact r
          | opq => trivial, hs4.inj, hs4.frm, fun L hL => hs1.sps L hL, fun L hL => hs4.psd L (List.mem_cons_of_mem _ hL)⟩
    have tt := tA.trans (t4.s (SameL.refl _) ok.sub)
    exact hq s4 .next .next r _ ⟨rfl, hr3, rfl⟩ hs5 (hf3.T t4 ok.loc fun _ _ _ i => i) (by rw [hcel]; exact tt) .next

/-- the nodes taken out one after the other -/
def clr (m : MH) (xs : List Addr) (h : Addr) : Nat → MH
  | 0 => m
  | i + 1 => cut (clr m xs h i) (nxA xs h i) h (nxA xs h (i + 1))
theorem isM_setA {m : MH} {a : Addr} {x : Str} {v : AV} (no : ∀ b, isM (m b) = false) (b : Addr) : isM (setA m a x v b) = false := by
  unfold setA
  cases e : m a with
  | none => exact no b
  | some o =>
    cases o with
    | inst C d at_ =>
      show isM (upd m a (.inst C d (putA x v at_)) b) = false
      unfold upd; split
      · rfl
      · exact no b
    | lst => exact no b
    | opq => exact no b
theorem clr_noM {m : MH} {xs : List Addr} {h : Addr} (no : ∀ b, isM (m b) = false) : ∀ i b, isM (clr m xs h i b) = false
  | 0 => no
  | i + 1 => fun b => isM_setA (isM_setA (isM_setA (isM_setA (clr_noM no i)))) b
theorem clr_hide {m : MH} {xs : List Addr} {h : Addr} : ∀ i, clr (hideL m) xs h i = hideL (clr m xs h i)
  | 0 => rfl
  | i + 1 => by
    show cut (clr (hideL m) xs h i) _ _ _ = hideL (cut (clr m xs h i) _ _ _)
    rw [clr_hide i]
    unfold cut
    rw [hide_setA, hide_setA, hide_setA, hide_setA]
theorem clr_sameL {m : MH} {xs : List Addr} {h : Addr} : ∀ i, SameL m (clr m xs h i)
  | 0 => SameL.refl _
  | i + 1 => (clr_sameL i).trans ((((sameL_setA _ _ _).trans (sameL_setA _ _ _)).trans (sameL_setA _ _ _)).trans (sameL_setA _ _ _))
theorem drop_nxA {xs : List Addr} {h : Addr} {i : Nat} : nxA (xs.drop i) h 0 = nxA xs h i := by
  unfold nxA; rw [List.getD_eq_getElem?_getD, List.getD_eq_getElem?_getD, List.getElem?_drop]; simp
theorem drop_cons {xs : List Addr} {h : Addr} {i : Nat} (hi : i < xs.length) : xs.drop i = nxA xs h i :: xs.drop (i + 1) := by
  rw [List.drop_eq_getElem_cons hi]
  unfold nxA; rw [List.getD_eq_getElem?_getD, List.getElem?_eq_getElem hi]; rfl
theorem ring_first {m : MH} {T h x : Addr} {r : List Addr} (R : Ring m T h (x :: r)) : prv m x = some (.ref h) ∧ nxt m x = some (.ref (nxA r h 0)) :=
  ⟨R.c.1.2, R.c.2.nxts.1⟩
theorem clr_step {m : MH} {T h : Addr} {xs : List Addr} {i : Nat} (hi : i < xs.length) (R : Ring (clr m xs h i) T h (xs.drop i)) :
    Ring (clr m xs h (i + 1)) T h (xs.drop (i + 1)) ∧ (nxt (clr m xs h (i + 1)) (nxA xs h i) = some (.ref (nxA xs h i)) ∧ prv (clr m xs h (i + 1)) (nxA xs h i) = some (.ref (nxA xs h i))) ∧ SameO (On h (nxA xs h i) (xs.drop (i + 1))) (clr m xs h i) (clr m xs h (i + 1)) := by
  rw [drop_cons (h := h) hi] at R
  obtain ⟨h1, h2⟩ := ring_first R
  rw [drop_nxA] at h2
  have qm : nxA xs h (i + 1) ∈ h :: ([] ++ nxA xs h i :: xs.drop (i + 1)) := by
    by_cases q : i + 1 < xs.length
    · have e := drop_cons (xs := xs) (h := h) q
      rw [List.nil_append, e]; simp
    · rw [nxA_end (xs := xs) (i := i + 1) (by omega)]; simp
  exact ring_cut (l := []) R h1 h2 (by simp) qm
theorem clr_inv {m : MH} {T h : Addr} {xs : List Addr} (R : Ring m T h xs) : ∀ i, i ≤ xs.length →
    Ring (clr m xs h i) T h (xs.drop i) ∧ SameO (fun z => z ∈ h :: xs) m (clr m xs h i) ∧ ∀ j, j < i → nxt (clr m xs h i) (nxA xs h j) = some (.ref (nxA xs h j)) ∧ prv (clr m xs h i) (nxA xs h j) = some (.ref (nxA xs h j))
  | 0, _ => ⟨R, SameO.refl _, fun j hj => by omega⟩
  | i + 1, hi => by
    obtain ⟨R1, s1, f1⟩ := clr_inv R i (by omega)
    obtain ⟨R2, f2, s2⟩ := clr_step (by omega) R1
    have sub : ∀ z, On h (nxA xs h i) (xs.drop (i + 1)) z → z ∈ h :: xs := fun z hz => by
      rcases List.mem_cons.mp hz with q | q
      · rw [q]; exact List.mem_cons_self
      · rcases List.mem_cons.mp q with q | q
        · rw [q]; exact List.mem_cons_of_mem _ (nxA_mem (by omega))
        · exact List.mem_cons_of_mem _ (List.mem_of_mem_drop q)
    refine ⟨R2, s1.trans (s2.mono sub), fun j hj => ?_⟩
    rcases Nat.lt_succ_iff_lt_or_eq.mp hj with q | q
    · have nin : ¬ On h (nxA xs h i) (xs.drop (i + 1)) (nxA xs h j) := fun z => by
        have nd := List.nodup_cons.mp R.n
        have mj := nxA_mem (xs := xs) (h := h) (i := j) (by omega)
        have e1 := drop_cons (xs := xs) (h := h) (i := i) (by omega)
        rcases List.mem_cons.mp z with q' | q'
        · exact nd.1 (q' ▸ mj)
        · have : nxA xs h j ∈ xs.drop i := by rw [e1]; exact q'
          have nd2 := nd.2
          rw [← List.take_append_drop i xs, List.nodup_append] at nd2
          refine nd2.2.2 (nxA xs h j) ?_ (nxA xs h j) this rfl
          unfold nxA
          rw [List.getD_eq_getElem?_getD, List.getElem?_eq_getElem (show j < xs.length by omega)]
          exact List.mem_take_iff_getElem.mpr ⟨j, by omega, rfl⟩
      unfold nxt prv
      rw [s2.nx nin, s2.nx nin]; exact f1 j q
    · subst q; exact f2
theorem clr_seq {m : MH} {T h : Addr} {xs : List Addr} (R : Ring m T h xs) (hT : IsT m T) (no : ∀ b, isM (m b) = false) : GenSeq (clr m xs h) T h xs where
  noM := clr_noM no
  t := fun i hi => hT.same (clr_inv R i hi).2.1 fun z => by
    rcases List.mem_cons.mp z with q | q
    · exact (R.notT hT).1 q
    · exact (R.notT hT).2 q
  l := fun i hi => (clr_inv R i hi).1.L
  k := fun i hi => (clr_inv R i (by omega)).1.k _ (by rw [drop_cons (h := h) hi]; exact List.mem_cons_self)
  st := R.c.nxts.1
  z := fun i hi => by
    have R1 := (clr_inv R i hi).1
    by_cases q : i < xs.length
    · rw [drop_cons (h := h) q] at R1
      refine ⟨_, (ring_first R1).2, fun _ => drop_nxA⟩
    · rw [List.drop_of_length_le (by omega)] at R1
      rw [nxA_end (by omega)]
      exact ⟨_, R1.c.1, fun z => by omega⟩
  ne := fun i hi q => (List.nodup_cons.mp R.n).1 (q ▸ nxA_mem hi)
theorem ring_clear (SB : ∀ gk, St0 (g3 w mg mb B os gk) B) (hAE : mg "AttributeError" = none) (hT : IsT mh T) (R : Ring mh T h xs) :
    CA (g3 w mg mb B os gk) (n + 9) (.ref 49) [.ref h] mh (fun v m => v = .none ∧ Ring m T h [] ∧ (∀ x ∈ xs, nxt m x = some (.ref x) ∧ prv m x = some (.ref x)) ∧ SameO (fun z => z ∈ h :: xs) mh m ∧ SameL mh m) := by
  have SB' := SB gk
  tb_start
  intro L stk ps hL ok
  have Rh := R.hide
  have hTh := hT.hide
  have S := clr_seq Rh hTh (hideL_noM)
  refine ST.cons (SJ.forG (n := n + 5) (fr := [("self", .ref h)]) SB ok rfl rfl S (by intro p hp; rw [List.mem_singleton] at hp; subst hp; exact (by decide +kernel : ("self" : Str) ≠ "node")) (by intro p hp; rw [List.mem_singleton] at hp; subst hp; rfl) (EV.name rfl rfl rfl rfl) ?body) ?fin (by rintro fl r m ⟨rfl, _⟩ q; exact absurd rfl q)
  case body =>
    intro gk' Lg i hi hLg okL
    have Ri := (clr_inv Rh i (by omega)).1
    have hTi := S.t i (by omega)
    rw [drop_cons (h := h) hi] at Ri
    obtain ⟨h1, h2⟩ := ring_first Ri
    rw [drop_nxA] at h2
    have qm : nxA xs h (i + 1) ∈ h :: ([] ++ nxA xs h i :: xs.drop (i + 1)) := by
      by_cases q : i + 1 < xs.length
      · have e := drop_cons (xs := xs) (h := h) q
        rw [List.nil_append, e]; simp
      · rw [nxA_end (xs := xs) (i := i + 1) (by omega)]; simp
    obtain ⟨Cq, lq, kq⟩ := Ri.lk w.params qm
    have hqx : nxA xs h (i + 1) ≠ nxA xs h i := fun q => by
      obtain ⟨p', q', _, hq', _, _, hn, _⟩ := ring_pq (l := []) Ri
      rw [h2] at hq'; cases hq'; exact hn q
    refine ST.exprP okL (EV.met1 (SB gk') okL.loc (EV.name rfl rfl rfl rfl) Ri.L.k (hmL_rem _) (Ri.L.f _ (by decide +kernel) (by decide +kernel) (by decide +kernel) (by decide +kernel)) (EV.name rfl rfl rfl rfl)
      (ca_Lremove (n := n + 4) (SB gk') hAE T h (nxA xs h i) h (nxA xs h (i + 1)) 238 101 Cq hTi Ri.L (lkO _) (Ri.k _ List.mem_cons_self) (lkL _) Ri.L.k lq kq h1 h2 (by rw [show nxt (clr (hideL mh) xs h i) h = _ from Ri.c.1.1]; simp) (Ri.c.prv_ne (List.mem_cons.mp qm)) hqx)) ?_
    rintro v m ⟨rfl, rfl⟩
    exact ST.nilI ⟨rfl, by intro p hp; rw [List.mem_singleton] at hp; subst hp; rfl, rfl⟩
  case fin =>
    rintro r m ⟨_, _, rfl⟩
    rw [clr_hide]
    obtain ⟨R9, s9, f9⟩ := clr_inv R xs.length (Nat.le_refl _)
    rw [List.drop_length] at R9
    refine ST.nilI ⟨_, rfl, clr_sameL _, rfl, R9, fun x hx => ?_, s9, clr_sameL _⟩
    obtain ⟨j, hj, rfl⟩ := List.mem_iff_getElem.mp hx
    have e : nxA xs h j = xs[j] := by unfold nxA; rw [List.getD_eq_getElem?_getD, List.getElem?_eq_getElem hj]; rfl
    have := f9 j hj
    rwa [e] at this
end
end Mine

-- U
namespace Mine
/-- the unlike ones, in the order of their first place -/
def addL (acc : List Int) (x : Int) : List Int := if x ∈ acc then acc else acc ++ [x]
def latF (l : List Int) : List Int := l.foldl addL []
theorem addL_mem {acc : List Int} {x y : Int} : y ∈ addL acc x ↔ y ∈ acc ∨ y = x := by
  unfold addL
  split
  · rename_i h
    exact ⟨.inl, fun z => z.elim id fun q => q ▸ h⟩
  · simp
theorem foldl_mem : ∀ {l acc : List Int} {y : Int}, y ∈ l.foldl addL acc ↔ y ∈ acc ∨ y ∈ l
  | [], acc, y => by simp
  | x :: l, acc, y => by
    rw [List.foldl_cons, foldl_mem, addL_mem, List.mem_cons, or_assoc]
theorem latF_mem {l : List Int} {y : Int} : y ∈ latF l ↔ y ∈ l := by unfold latF; rw [foldl_mem]; simp
theorem addL_nodup {acc : List Int} {x : Int} (h : acc.Nodup) : (addL acc x).Nodup := by
  unfold addL
  split
  · exact h
  · rename_i q
    rw [List.nodup_append]
    exact ⟨h, by simp, fun a ha b hb => by rw [List.mem_singleton.mp hb]; exact fun e => q (e ▸ ha)⟩
theorem foldl_nodup : ∀ {l acc : List Int}, acc.Nodup → (l.foldl addL acc).Nodup
  | [], _, h => h
  | x :: l, _, h => by rw [List.foldl_cons]; exact foldl_nodup (addL_nodup h)
theorem latF_nodup (l : List Int) : (latF l).Nodup := foldl_nodup List.nodup_nil
theorem foldl_pre : ∀ {l acc : List Int}, ∃ b, l.foldl addL acc = acc ++ b
  | [], acc => ⟨[], by simp⟩
  | x :: l, acc => by
    rw [List.foldl_cons]
    obtain ⟨b, hb⟩ := foldl_pre (l := l) (acc := addL acc x)
    rw [hb]
    unfold addL
    split
    · exact ⟨b, rfl⟩
    · exact ⟨[x] ++ b, by simp⟩
theorem latF_snoc (l : List Int) (x : Int) : latF (l ++ [x]) = addL (latF l) x := by unfold latF; rw [List.foldl_append]; rfl
theorem latF_len : ∀ l : List Int, (latF l).length ≤ l.length := by
  have : ∀ l acc : List Int, (l.foldl addL acc).length ≤ acc.length + l.length := by
    intro l
    induction l with
    | nil => intro acc; simp
    | cons x l ih =>
      intro acc
      rw [List.foldl_cons]
      have h := ih (addL acc x)
      have : (addL acc x).length ≤ acc.length + 1 := by unfold addL; split <;> simp
      simp; omega
  intro l
  have := this l []
  show (l.foldl addL []).length ≤ _
  simpa using this
theorem foldl_key (key : Int) : ∀ (l acc : List Int), l.foldl addL (key :: acc.filter (· ≠ key)) = key :: (l.foldl addL acc).filter (· ≠ key)
  | [], acc => rfl
  | x :: l, acc => by
    rw [List.foldl_cons, List.foldl_cons, ← foldl_key key l (addL acc x)]
    congr 1
    unfold addL
    by_cases q : x = key
    · subst q
      rw [if_pos List.mem_cons_self]
      split
      · rfl
      · rw [List.filter_append]; simp
    · by_cases z : x ∈ acc
      · rw [if_pos z, if_pos (List.mem_cons_of_mem _ (List.mem_filter.mpr ⟨z, by simpa using q⟩))]
      · rw [if_neg z, if_neg (fun h => by
          rcases List.mem_cons.mp h with h | h
          · exact q h
          · exact z (List.mem_filter.mp h).1)]
        rw [List.filter_append, List.cons_append]
        congr 2
        simp [q]
/-- with a key asked anew -/
theorem latF_cons (key : Int) (l : List Int) : latF (key :: l) = key :: (latF l).filter (· ≠ key) := by
  have h := foldl_key key l []
  exact h
theorem filter_un (key : Int) (l : List Int) : (latF (key :: l)).filter (· ≠ key) = (latF l).filter (· ≠ key) := by
  rw [latF_cons, List.filter_cons]
  simp [List.filter_filter]
/-- where a key stands -/
theorem latF_split {l : List Int} {i : Nat} {key : Int} (hi : l[i]? = some key) (hn : key ∉ l.take i) : ∃ b, latF l = latF (l.take i) ++ key :: b := by
  have hlt : i < l.length := by
    rcases Nat.lt_or_ge i l.length with h | h
    · exact h
    · rw [List.getElem?_eq_none h] at hi; cases hi
  have e : l = l.take i ++ key :: l.drop (i + 1) := by
    have h := List.take_append_drop i l
    rw [List.drop_eq_getElem_cons hlt] at h
    rw [List.getElem?_eq_getElem hlt] at hi
    cases hi
    exact h.symm
  have h2 : latF l = (l.drop (i + 1)).foldl addL (addL (latF (l.take i)) key) := by
    conv => lhs; rw [e]
    unfold latF
    rw [List.foldl_append, List.foldl_cons]
  obtain ⟨b, hb⟩ := foldl_pre (l := l.drop (i + 1)) (acc := addL (latF (l.take i)) key)
  rw [h2, hb]
  have : addL (latF (l.take i)) key = latF (l.take i) ++ [key] := by
    unfold addL
    rw [if_neg (fun h => hn (latF_mem.mp h))]
  rw [this]
  exact ⟨b, by simp⟩
theorem mem_take_split {a b : List Int} {key : Int} {r : Nat} (hn : key ∉ a) : key ∈ (a ++ key :: b).take (r + 1) ↔ a.length ≤ r := by
  constructor
  · intro h
    rcases Nat.lt_or_ge r a.length with q | q
    · rw [List.take_append_of_le_length (by omega)] at h
      exact absurd (List.mem_of_mem_take h) hn
    · exact q
  · intro h
    rw [List.take_append, show r + 1 - a.length = (r - a.length) + 1 by omega, List.take_succ_cons]
    simp
/-- the row held by a store with room for r + 1 -/
def heldR (la : List Int) (r : Nat) : List Int := (la.take (r + 1)).reverse
theorem un_split {a b : List Int} {key : Int} (hn : (a ++ key :: b).Nodup) : (a ++ key :: b).filter (· ≠ key) = a ++ b ∧ key ∉ a ∧ key ∉ b := by
  rw [List.nodup_append, List.nodup_cons] at hn
  obtain ⟨h1, ⟨h2, h3⟩, h4⟩ := hn
  have ka : key ∉ a := fun q => h4 key q key List.mem_cons_self rfl
  refine ⟨?_, ka, h2⟩
  rw [List.filter_append, List.filter_cons]
  have fa : a.filter (· ≠ key) = a := List.filter_eq_self.mpr fun x hx => by simpa using fun q : x = key => ka (q ▸ hx)
  have fb : b.filter (· ≠ key) = b := List.filter_eq_self.mpr fun x hx => by simpa using fun q : x = key => h2 (q ▸ hx)
  simp only [decide_not] at fa fb ⊢
  simp [fa, fb]
theorem filter_no {a : List Int} {key : Int} (h : key ∉ a) : a.filter (· ≠ key) = a := List.filter_eq_self.mpr fun x hx => by simpa using fun q : x = key => h (q ▸ hx)
/-- found: taken out -/
theorem held_found {la : List Int} {key : Int} {r : Nat} (hn : la.Nodup) (h : key ∈ heldR la r) : (heldR la r).filter (· ≠ key) = ((la.filter (· ≠ key)).take r).reverse := by
  unfold heldR at *
  rw [List.mem_reverse] at h
  obtain ⟨a, b, e⟩ := List.append_of_mem (List.mem_of_mem_take h)
  subst e
  obtain ⟨e1, ka, kb⟩ := un_split hn
  have hl := (mem_take_split ka).mp h
  rw [e1, List.filter_reverse]
  congr 1
  rw [List.take_append, show r + 1 - a.length = (r - a.length) + 1 by omega, List.take_succ_cons, List.take_append]
  rw [List.take_of_length_le (by omega : a.length ≤ r + 1), List.take_of_length_le hl]
  have hn2 : (a ++ key :: b.take (r - a.length)).Nodup := by
    refine List.Sublist.nodup ?_ hn
    exact List.Sublist.append_left (List.Sublist.cons_cons _ (List.take_sublist _ _)) _
  exact (un_split hn2).1
/-- not found, and no room: the first goes -/
theorem held_full {la : List Int} {key : Int} {r : Nat} (hn : la.Nodup) (h : key ∉ heldR la r) (hr : r < (la.filter (· ≠ key)).length) : heldR la r = (la.filter (· ≠ key)).getD r 0 :: ((la.filter (· ≠ key)).take r).reverse := by
  unfold heldR at *
  rw [List.mem_reverse] at h
  have e : la.take (r + 1) = (la.filter (· ≠ key)).take (r + 1) := by
    by_cases q : key ∈ la
    · obtain ⟨a, b, e⟩ := List.append_of_mem q
      subst e
      obtain ⟨e1, ka, kb⟩ := un_split hn
      have hl : ¬ a.length ≤ r := fun z => h ((mem_take_split ka).mpr z)
      rw [e1, List.take_append_of_le_length (by omega), List.take_append_of_le_length (by omega)]
    · rw [filter_no q]
  rw [e, List.take_succ_eq_append_getElem hr, List.reverse_append]
  rw [List.getD_eq_getElem?_getD, List.getElem?_eq_getElem hr]
  rfl
/-- not found, with room -/
theorem held_room {la : List Int} {key : Int} {r : Nat} (hn : la.Nodup) (h : key ∉ heldR la r) (hr : ¬ r < (la.filter (· ≠ key)).length) : heldR la r = ((la.filter (· ≠ key)).take r).reverse := by
  unfold heldR at *
  rw [List.mem_reverse] at h
  have q : key ∉ la := fun q => by
    obtain ⟨a, b, e⟩ := List.append_of_mem q
    subst e
    obtain ⟨e1, ka, kb⟩ := un_split hn
    rw [e1] at hr
    simp at hr
    exact h ((mem_take_split ka).mpr (by omega))
  rw [filter_no q] at hr ⊢
  rw [List.take_of_length_le (by omega), List.take_of_length_le (by omega)]
theorem held_new {un : List Int} {key : Int} {r : Nat} : (un.take r).reverse ++ [key] = heldR (key :: un) r := by
  unfold heldR; rw [List.take_succ_cons, List.reverse_cons]
theorem held_nil (r : Nat) : heldR [] r = [] := by simp [heldR]
/-- as the law tells it -/
theorem held_told {lt : List Int} {r N : Nat} (hN : N = if r + 1 < lt.length then r + 1 else lt.length) : (List.range N).map (fun i => lt.getD (N - 1 - i) 0) = heldR lt r := by
  unfold heldR
  have hl : (lt.take (r + 1)).length = N := by rw [List.length_take, hN]; split <;> omega
  apply List.ext_getElem
  · simp [hl]
  · intro i h1 h2
    simp only [List.length_map, List.length_range] at h1
    rw [List.getElem_map, List.getElem_range, List.getElem_reverse]
    rw [List.getElem_take, List.getD_eq_getElem?_getD, List.getElem?_eq_getElem (by rw [List.length_take] at hl; omega)]
    simp only [Option.getD_some, hl]
end Mine

-- M
namespace Mine
def updR (R : Nat → List Int) (i : Nat) (xs : List Int) : Nat → List Int := fun j => if j = i then xs else R j
theorem updR_self {R : Nat → List Int} {i : Nat} {xs : List Int} : updR R i xs i = xs := if_pos rfl
theorem updR_ne {R : Nat → List Int} {i j : Nat} {xs : List Int} (h : j ≠ i) : updR R i xs j = R j := if_neg h
theorem updR_twice {R : Nat → List Int} {i : Nat} {xs ys : List Int} : updR (updR R i xs) i ys = updR R i ys := by
  funext j
  by_cases q : j = i
  · rw [q, updR_self, updR_self]
  · rw [updR_ne q, updR_ne q, updR_ne q]
/-- the memory: four rings, six nodes for each -/
structure Law2 (m : MH) (T : Addr) (hs : Nat → Addr) (f : Nat → Int → Addr) (R : Nat → List Int) : Prop where
  t : IsT m T
  r : ∀ i, i < 4 → Ring m T (hs i) ((R i).map (f i))
  nd : ∀ i, i < 4 → ∀ k, 1 ≤ k ∧ k ≤ 6 → Node m (f i k) k
  hi : ∀ i j, i < 4 → j < 4 → hs i = hs j → i = j
  fi : ∀ i j k l, i < 4 → j < 4 → 1 ≤ k ∧ k ≤ 6 → 1 ≤ l ∧ l ≤ 6 → f i k = f j l → i = j ∧ k = l
  off : ∀ i, i < 4 → ∀ k, 1 ≤ k ∧ k ≤ 6 → k ∉ R i → Off m (f i k)
  kb : ∀ i, i < 4 → ∀ k ∈ R i, 1 ≤ k ∧ k ≤ 6
  nk : ∀ i, i < 4 → (R i).Nodup
theorem kls_noL {m : MH} {z C : Addr} (h : kls m z = some C) : isL (m z) = false := by
  unfold kls at h
  cases q : m z with
  | none => rfl
  | some o => cases o with
    | inst => rfl
    | lst => rw [q] at h; cases h
    | opq => rw [q] at h; cases h
section
variable {m m' : MH} {T : Addr} {hs : Nat → Addr} {f : Nat → Int → Addr} {R : Nat → List Int} {i : Nat} {k : Int}
/-- only the classes' objects are looked at -/
theorem Law2.agree (L : Law2 m T hs f R) (u0 : ∀ z C, kls m z = some C → m' z = m z) : Law2 m' T hs f R := by
  have u : ∀ {z C}, kls m z = some C → m' z = m z := fun h => u0 _ _ h
  have fk : ∀ {z C} (y : Str), kls m z = some C → fld m' z y = fld m z y := fun y h => by unfold fld; rw [u h]
  have kk : ∀ {z C}, kls m z = some C → kls m' z = some C := fun h => by have e := u h; unfold kls at *; rw [e]; exact h
  have rg : ∀ {h xs}, Ring m T h xs → Ring m' T h xs := fun {h xs} r =>
    ⟨⟨kk r.L.k, (fk _ r.L.k).trans r.L.t, (fk _ r.L.k).trans r.L.d, fun y a b c d => (fk y r.L.k).trans (r.L.f y a b c d)⟩,
      r.c.frame (fun x hx => by rcases hx with rfl | hx; exact fk _ r.L.k; exact fk _ (r.k x hx)) (fun x hx => by rcases hx with hx | rfl; exact fk _ (r.k x hx); exact fk _ r.L.k), r.n, fun x hx => kk (r.k x hx)⟩
  refine ⟨⟨kk L.t.k, fun y => (fk y L.t.k).trans (L.t.f y)⟩, fun i hi => rg (L.r i hi), fun i hi k hk => ⟨kk (L.nd i hi k hk).k, (fk _ (L.nd i hi k hk).k).trans (L.nd i hi k hk).p⟩, L.hi, L.fi, fun i hi k hk hn => ?_, L.kb, L.nk⟩
  have h := L.off i hi k hk hn
  have kx := (L.nd i hi k hk).k
  unfold Off nxt prv asz at *
  rw [fk _ kx, fk _ kx, u kx]; exact h
theorem Law2.upd {a : Addr} {ns : List Int} (L : Law2 m T hs f R) (ha : m a = none ∨ ∃ l, m a = some (.lst l)) : Law2 (upd m a (.lst ns)) T hs f R :=
  L.agree fun z C h => upd_ne fun q => by unfold kls at h; rw [q] at h; rcases ha with e | ⟨l, e⟩ <;> rw [e] at h <;> cases h
theorem Law2.drp {a : Addr} {ns : List Int} (L : Law2 m T hs f R) (ha : m a = some (.lst ns)) : Law2 (drp m a) T hs f R :=
  L.agree fun z C h => drp_ne fun q => by unfold kls at h; rw [q, ha] at h; cases h
theorem sameO_L {S : Addr → Prop} (s : SameO S m m') (kn : ∀ z, S z → ∃ C, kls m z = some C) : SameL m m' := fun a e => by
  refine s.o a fun z => ?_
  obtain ⟨C, h1⟩ := kn a z
  rcases e with e | e
  · rw [kls_noL h1] at e; cases e
  · rw [kls_noL ((s.k a).trans h1)] at e; cases e
/-- what is done on store i leaves the others alone -/
theorem Law2.step (L : Law2 m T hs f R) (hi : i < 4) {S : Addr → Prop} (s : SameO S m m') (hS : ∀ z, S z → z = hs i ∨ ∃ k, (1 ≤ k ∧ k ≤ 6) ∧ z = f i k) {R' : List Int} (hR : Ring m' T (hs i) (R'.map (f i)))
    (hoff : ∀ k, 1 ≤ k ∧ k ≤ 6 → k ∉ R' → Off m' (f i k)) (hkb : ∀ k ∈ R', 1 ≤ k ∧ k ≤ 6) (hnk : R'.Nodup) : Law2 m' T hs f (updR R i R') ∧ SameL m m' := by
  have kn : ∀ z, S z → kls m z = some 101 ∨ kls m z = some 238 := fun z hz => by
    rcases hS z hz with rfl | ⟨k, hk, rfl⟩
    · exact .inl (L.r i hi).L.k
    · exact .inr (L.nd i hi k hk).k
  have aw : ∀ j, j < 4 → j ≠ i → ∀ k, 1 ≤ k ∧ k ≤ 6 → ¬ S (f j k) := fun j hj ne k hk z => by
    rcases hS _ z with q | ⟨l, hl, q⟩
    · have := (L.nd j hj k hk).k; rw [q, (L.r i hi).L.k] at this; cases this
    · exact ne (L.fi j i k l hj hi hk hl q).1
  have awh : ∀ j, j < 4 → j ≠ i → ¬ S (hs j) := fun j hj ne z => by
    rcases hS _ z with q | ⟨l, hl, q⟩
    · exact ne (L.hi j i hj hi q)
    · have := (L.r j hj).L.k; rw [q, (L.nd i hi l hl).k] at this; cases this
  refine ⟨⟨L.t.same s fun z => ?_, fun j hj => ?_, fun j hj k hk => (L.nd j hj k hk).same s, L.hi, L.fi, fun j hj k hk hn => ?_, fun j hj k hk => ?_, fun j hj => ?_⟩, sameO_L s fun z hz => (kn z hz).elim (fun q => ⟨_, q⟩) fun q => ⟨_, q⟩⟩
  · have := kn T z; rw [L.t.k] at this; rcases this with q | q <;> cases q
  · by_cases q : j = i
    · subst q; rw [updR_self]; exact hR
    · rw [updR_ne q]
      refine (L.r j hj).frame s fun x hx => ?_
      rcases hx with rfl | hx
      · exact awh j hj q
      · obtain ⟨l, hl, rfl⟩ := List.mem_map.mp hx
        exact aw j hj q l (L.kb j hj l hl)
  · by_cases q : j = i
    · subst q; rw [updR_self] at hn; exact hoff k hk hn
    · rw [updR_ne q] at hn
      exact (L.off j hj k hk hn).frame s (aw j hj q k hk)
  · by_cases q : j = i
    · subst q; rw [updR_self] at hk; exact hkb k hk
    · rw [updR_ne q] at hk; exact L.kb j hj k hk
  · by_cases q : j = i
    · subst q; rw [updR_self]; exact hnk
    · rw [updR_ne q]; exact L.nk j hj
theorem on_S (L : Law2 m T hs f R) (hi : i < 4) (hk : 1 ≤ k ∧ k ≤ 6) {xs : List Int} (hx : ∀ j ∈ xs, 1 ≤ j ∧ j ≤ 6) : ∀ z, On (hs i) (f i k) (xs.map (f i)) z → z = hs i ∨ ∃ k, (1 ≤ k ∧ k ≤ 6) ∧ z = f i k := fun z hz => by
  rcases List.mem_cons.mp hz with q | q
  · exact .inl q
  · rcases List.mem_cons.mp q with q | q
    · exact .inr ⟨k, hk, q⟩
    · obtain ⟨j, hj, e⟩ := List.mem_map.mp q
      exact .inr ⟨j, hx j hj, e.symm⟩
theorem not_on (L : Law2 m T hs f R) (hi : i < 4) (hk : 1 ≤ k ∧ k ≤ 6) {xs : List Int} (hx : ∀ j ∈ xs, 1 ≤ j ∧ j ≤ 6) {j : Int} (hj : 1 ≤ j ∧ j ≤ 6) (hne : j ≠ k) (hn : j ∉ xs) : ¬ On (hs i) (f i k) (xs.map (f i)) (f i j) := fun z => by
  rcases List.mem_cons.mp z with q | q
  · have := (L.nd i hi j hj).k; rw [q, (L.r i hi).L.k] at this; cases this
  · rcases List.mem_cons.mp q with q | q
    · exact hne (L.fi i i j k hi hi hj hk q).2
    · obtain ⟨l, hl, e⟩ := List.mem_map.mp q
      exact hn ((L.fi i i l j hi hi (hx l hl) hj e).2 ▸ hl)
section
variable {w : World} {mg mb : Str → Option Value} {B : Heap} {os : OsState} {gk : Nat → Option GenState} {n : Nat}
theorem law2_ion (SB : St0 (g3 w mg mb B os gk) B) (hAE : mg "AttributeError" = none) (L : Law2 m T hs f R) (hi : i < 4) (hk : 1 ≤ k ∧ k ≤ 6) :
    CA (g3 w mg mb B os gk) (n + 3) (.ref 56) [.ref (hs i), .ref (f i k)] m (Is m (.bool (decide (k ∈ R i)))) := by
  by_cases q : k ∈ R i
  · rw [show decide (k ∈ R i) = true from decide_eq_true q]
    exact ring_on SB hAE L.t (L.r i hi) (List.mem_map_of_mem q)
  · rw [show decide (k ∈ R i) = false from decide_eq_false q]
    exact ring_off SB hAE L.t (L.r i hi) (L.nd i hi k hk).k (L.off i hi k hk q)
theorem law2_remove (SB : St0 (g3 w mg mb B os gk) B) (hAE : mg "AttributeError" = none) (L : Law2 m T hs f R) (hi : i < 4) (hk : k ∈ R i) :
    CA (g3 w mg mb B os gk) (n + 4) (.ref 84) [.ref (hs i), .ref (f i k)] m (fun v m' => v = .none ∧ Law2 m' T hs f (updR R i ((R i).filter (· ≠ k))) ∧ SameL m m') := by
  obtain ⟨a, b, e⟩ := List.append_of_mem hk
  have hkk := L.kb i hi k hk
  have nk := L.nk i hi
  rw [e] at nk
  obtain ⟨e1, ka, kb⟩ := un_split nk
  have hab : ∀ j ∈ a ++ b, 1 ≤ j ∧ j ≤ 6 := fun j hj => L.kb i hi j (by rw [e]; rcases List.mem_append.mp hj with q | q <;> simp [q])
  have hr := L.r i hi
  rw [e, List.map_append, List.map_cons] at hr
  refine CA.mono (ring_remove SB hAE L.t hr) ?_
  rintro v m' ⟨rfl, hR, ⟨h1, h2⟩, s⟩
  rw [← List.map_append] at hR s
  refine ⟨rfl, ?_⟩
  rw [e, e1]
  refine L.step hi s (on_S L hi hkk hab) hR (fun j hj hn => ?_) hab ?_
  · by_cases q : j = k
    · subst q; exact .inr ⟨h1, h2⟩
    · refine (L.off i hi j hj fun z => hn ?_).frame s (not_on L hi hkk hab hj q hn)
      rw [e] at z
      rcases List.mem_append.mp z with z | z
      · simp [z]
      · rcases List.mem_cons.mp z with z | z
        · exact absurd z q
        · simp [z]
  · exact List.Sublist.nodup (List.Sublist.append_left (List.sublist_cons_self _ _) _) nk
theorem law2_pop (SB : St0 (g3 w mg mb B os gk) B) (hAE : mg "AttributeError" = none) (L : Law2 m T hs f R) (hi : i < 4) {xs : List Int} (e : R i = k :: xs) :
    CA (g3 w mg mb B os gk) (n + 5) (.ref 91) [.ref (hs i)] m (fun v m' => v = .ref (f i k) ∧ Law2 m' T hs f (updR R i xs) ∧ SameL m m') := by
  have hkk := L.kb i hi k (by rw [e]; exact List.mem_cons_self)
  have nk := L.nk i hi
  rw [e] at nk
  have hab : ∀ j ∈ xs, 1 ≤ j ∧ j ≤ 6 := fun j hj => L.kb i hi j (by rw [e]; simp [hj])
  have hr := L.r i hi
  rw [e, List.map_cons] at hr
  refine CA.mono (ring_pop SB hAE L.t hr) ?_
  rintro v m' ⟨rfl, hR, ⟨h1, h2⟩, s⟩
  refine ⟨rfl, L.step hi s (on_S L hi hkk hab) hR (fun j hj hn => ?_) hab (List.nodup_cons.mp nk).2⟩
  by_cases q : j = k
  · subst q; exact .inr ⟨h1, h2⟩
  · refine (L.off i hi j hj fun z => hn ?_).frame s (not_on L hi hkk hab hj q hn)
    rw [e] at z
    rcases List.mem_cons.mp z with z | z
    · exact absurd z q
    · exact z
theorem law2_append (SB : St0 (g3 w mg mb B os gk) B) (hAE : mg "AttributeError" = none) (L : Law2 m T hs f R) (hi : i < 4) (hk : 1 ≤ k ∧ k ≤ 6) (hn : k ∉ R i) :
    CA (g3 w mg mb B os gk) (n + 4) (.ref 63) [.ref (hs i), .ref (f i k)] m (fun v m' => v = .none ∧ Law2 m' T hs f (updR R i (R i ++ [k])) ∧ SameL m m') := by
  have fk : f i k ∉ (R i).map (f i) := fun q => by
    obtain ⟨j, hj, e⟩ := List.mem_map.mp q
    exact hn ((L.fi i i j k hi hi (L.kb i hi j hj) hk e).2 ▸ hj)
  refine CA.mono (ring_append SB hAE L.t (L.r i hi) (L.nd i hi k hk).k (L.off i hi k hk hn) fk) ?_
  rintro v m' ⟨rfl, hR, s⟩
  refine ⟨rfl, L.step hi s (on_S L hi hk (L.kb i hi)) (by rw [List.map_append]; exact hR) (fun j hj hnj => ?_) (fun j hj => ?_) ?_⟩
  · have h1 : j ∉ R i := fun z => hnj (by simp [z])
    have h2 : j ≠ k := fun z => hnj (by simp [z])
    exact (L.off i hi j hj h1).frame s (not_on L hi hk (L.kb i hi) hj h2 h1)
  · rcases List.mem_append.mp hj with q | q
    · exact L.kb i hi j q
    · rw [List.mem_singleton.mp q]; exact hk
  · rw [List.nodup_append]
    exact ⟨L.nk i hi, by simp, fun a ha b hb => by rw [List.mem_singleton.mp hb]; exact fun e => hn (e ▸ ha)⟩
theorem law2_clear (SB : ∀ gk, St0 (g3 w mg mb B os gk) B) (hAE : mg "AttributeError" = none) (L : Law2 m T hs f R) (hi : i < 4) :
    CA (g3 w mg mb B os gk) (n + 9) (.ref 49) [.ref (hs i)] m (fun v m' => v = .none ∧ Law2 m' T hs f (updR R i []) ∧ SameL m m') := by
  refine CA.mono (ring_clear SB hAE L.t (L.r i hi)) ?_
  rintro v m' ⟨rfl, hR, h0, s, sl⟩
  refine ⟨rfl, (L.step (R' := []) hi s (fun z hz => ?_) hR (fun j hj _ => ?_) (fun j hj => (nomatch hj)) List.nodup_nil).1, sl⟩
  · rcases List.mem_cons.mp hz with q | q
    · exact .inl q
    · obtain ⟨j, hj, e⟩ := List.mem_map.mp q
      exact .inr ⟨j, L.kb i hi j hj, e.symm⟩
  · by_cases q : j ∈ R i
    · exact .inr (h0 _ (List.mem_map_of_mem q))
    · refine (L.off i hi j hj q).frame s fun z => ?_
      rcases List.mem_cons.mp z with z | z
      · have := (L.nd i hi j hj).k; rw [z, (L.r i hi).L.k] at this; cases this
      · obtain ⟨l, hl, e⟩ := List.mem_map.mp z
        exact q ((L.fi i i l j hi hi (L.kb i hi l hl) hj e).2 ▸ hl)
/-- the path of what is popped -/
theorem ev_popPath {stk : List Env} {ps : List Addr} {env : Env} {fr : FR} (SB : St0 (g3 w mg mb B os gk) B) {P1 : AV → MH → Prop} {kk : Int} {o : Expr} {pos : Pos} (ho : EV (g3 w mg mb B os gk) stk ps (n + 2) env fr m o P1) (hP : ∀ v m', P1 v m' → ∃ x, v = .ref x ∧ Node m' x kk)
    (he : eval (.Attribute o "path" pos) env = (do
      let o' ← eval o env
      standAt pos.atName
      let r ← holding [o'] (getAttr o' "path" true)
      letTemporaryGo o o' r
      pure r)) : EV (g3 w mg mb B os gk) stk ps (n + 2) env fr m (.Attribute o "path" pos) (fun v m' => v = .int kk ∧ ∃ v0, P1 v0 m') :=
  let ⟨_, h3⟩ := pr3 w.params
  EV.propP SB ho (pcO _) (p := 220) (fget := 219) (fdO_path _) (pr1 _) (pr2 _) h3 (fun v m' p => by
    obtain ⟨x, rfl, nd⟩ := hP v m' p
    exact ⟨x, rfl, nd.k, CA.mono (ca_path SB x kk nd.k nd.p) (by rintro v m2 ⟨rfl, rfl⟩; exact ⟨rfl, _, p⟩)⟩) he
end
end
end Mine

-- V
namespace Mine
/-- the module's names -/
structure MG (mg : Str → Option Value) : Prop where
  ae : mg "AttributeError" = none
  cl : mg "CircularListType" = some (.ref 193)
  orr : mg "OutgoingRoute" = some (.ref 238)
  len : mg "len" = none
  range : mg "range" = none
  min : mg "min" = none
/-- what the law draws from its script -/
def rest16 : List Int := [0, 1, 0, 2, 3, 1, 4, 0, 5, 2, 1, 1, 3, 10, 0, 7]
def cellsOf (ns : List Int) : List Int := (ns.take 16).map (fun k => k.fmod 1000000) ++ rest16.drop (ns.take 16).length
theorem cells_len (ns : List Int) : (cellsOf ns).length = 16 := by unfold cellsOf rest16; simp; omega
section
variable {g : G} {stk : List Env} {ps : List Addr} {n : Nat} {env : Env} {fr : FR} {mh m1 m2 : MH}
theorem EVs.consts (hL : env.locals ∈ ps) (cs : List (Int × Nat × Pos)) : EVs g stk ps n env fr mh (cs.map fun c => .Constant (.int c.1) c.2.1 c.2.2) (fun vs m => vs = il (cs.map (·.1)) ∧ m = mh) := by
  induction cs with
  | nil => exact EVs.mono EVs.nil (by rintro vs m ⟨rfl, rfl⟩; exact ⟨rfl, rfl⟩)
  | cons c cs ih => exact EVs.cons (P2 := fun _ vs m => vs = il (cs.map (·.1)) ∧ m = mh) hL rfl EV.const_int (by rintro _ _ ⟨rfl, rfl⟩; exact ih) (by rintro v1 m2 vs m3 ⟨rfl, rfl⟩ ⟨rfl, rfl⟩; exact ⟨rfl, rfl⟩)
theorem ev_ints (hL : env.locals ∈ ps) (cs : List (Int × Nat × Pos)) {pos : Pos} {e : Expr} {ks : List Int} (he : e = .List (cs.map fun c => .Constant (.int c.1) c.2.1 c.2.2) pos) (hk : ks = cs.map (·.1)) (hz : cs.length ≤ 1000) : EV g stk ps n env fr mh e (Is mh (.list (il ks))) := by
  subst he hk
  exact EV.list (EVs.consts hL cs) (by rintro vs m ⟨rfl, rfl⟩; exact ⟨by rw [il_len, List.length_map]; exact hz, rfl, rfl⟩)
end
def linesV (hs : Nat → Addr) (i : Nat) : List AV := (List.range i).map fun j => .ref (hs j)
def rowV (g : Int → Addr) (q : Nat) : List AV := (List.range q).map fun k : Nat => .ref (g ((k : Int) + 1))
def nodesV (f : Nat → Int → Addr) (i : Nat) : List AV := (List.range i).map fun j => .list (rowV (f j) 6)
theorem linesV_succ {hs hs' : Nat → Addr} {i : Nat} {h : Addr} (h0 : ∀ j, j < i → hs' j = hs j) (h1 : hs' i = h) : linesV hs' (i + 1) = linesV hs i ++ [.ref h] := by
  unfold linesV
  rw [List.range_succ, List.map_append, List.map_cons, List.map_nil, h1]
  congr 1
  exact List.map_congr_left fun j hj => by rw [h0 j (List.mem_range.mp hj)]
theorem rowV_succ {g g' : Int → Addr} {q : Nat} {x : Addr} (h0 : ∀ k : Nat, k < q → g' ((k : Int) + 1) = g ((k : Int) + 1)) (h1 : g' ((q : Int) + 1) = x) : rowV g' (q + 1) = rowV g q ++ [.ref x] := by
  unfold rowV
  rw [List.range_succ, List.map_append, List.map_cons, List.map_nil, h1]
  congr 1
  exact List.map_congr_left fun j hj => by rw [h0 j (List.mem_range.mp hj)]
theorem nodesV_succ {f f' : Nat → Int → Addr} {i : Nat} {g : Int → Addr} (h0 : ∀ j, j < i → f' j = f j) (h1 : f' i = g) : nodesV f' (i + 1) = nodesV f i ++ [.list (rowV g 6)] := by
  unfold nodesV
  rw [List.range_succ, List.map_append, List.map_cons, List.map_nil, h1]
  congr 1
  exact List.map_congr_left fun j hj => by rw [h0 j (List.mem_range.mp hj)]
/-- four empty rings -/
structure Heads (m : MH) (T : Addr) (hs : Nat → Addr) (i : Nat) : Prop where
  t : IsT m T
  r : ∀ j, j < i → Ring m T (hs j) []
  inj : ∀ j k, j < i → k < i → hs j = hs k → j = k
/-- nodes made -/
structure Nds (m : MH) (f : Nat → Int → Addr) (i : Nat) : Prop where
  nd : ∀ j, j < i → ∀ k, 1 ≤ k ∧ k ≤ 6 → Node m (f j k) k ∧ Off m (f j k)
  inj : ∀ j j' k l, j < i → j' < i → 1 ≤ k ∧ k ≤ 6 → 1 ≤ l ∧ l ≤ 6 → f j k = f j' l → j = j' ∧ k = l
structure Row (m : MH) (f : Nat → Int → Addr) (i : Nat) (g : Int → Addr) (q : Nat) : Prop where
  nd : ∀ k, 1 ≤ k ∧ k ≤ (q : Int) → Node m (g k) k ∧ Off m (g k) ∧ ∀ j, j < i → ∀ l, 1 ≤ l ∧ l ≤ 6 → g k ≠ f j l
  inj : ∀ k l, 1 ≤ k ∧ k ≤ (q : Int) → 1 ≤ l ∧ l ≤ (q : Int) → g k = g l → k = l
theorem Heads.but {m m' : MH} {T x : Addr} {hs : Nat → Addr} {i : Nat} (H : Heads m T hs i) (b : But x m m') (nx : m x = none) : Heads m' T hs i := ⟨H.t.but b nx, fun j hj => (H.r j hj).but b nx, H.inj⟩
theorem Nds.but {m m' : MH} {x : Addr} {f : Nat → Int → Addr} {i : Nat} (N : Nds m f i) (b : But x m m') (nx : m x = none) : Nds m' f i :=
  ⟨fun j hj k hk => ⟨(N.nd j hj k hk).1.but b nx, (N.nd j hj k hk).2.but b nx (N.nd j hj k hk).1.k⟩, N.inj⟩
theorem Row.but {m m' : MH} {x : Addr} {f : Nat → Int → Addr} {i q : Nat} {g : Int → Addr} (N : Row m f i g q) (b : But x m m') (nx : m x = none) : Row m' f i g q :=
  ⟨fun k hk => ⟨(N.nd k hk).1.but b nx, (N.nd k hk).2.1.but b nx (N.nd k hk).1.k, (N.nd k hk).2.2⟩, N.inj⟩
theorem any_no {ns : List Int} {k : Int} (h : k ∉ ns) : (!(ns.any (· == k))) = true := by
  rw [Bool.not_eq_true', List.any_eq_false]
  intro x hx
  simp only [beq_iff_eq]
  exact fun e => h (e ▸ hx)
theorem upd_upd {m : MH} {a : Addr} {x y : MO} : upd (upd m a x) a y = upd m a y := by
  funext b
  unfold upd
  by_cases q : b = a
  · rw [if_pos q, if_pos q]
  · rw [if_neg q, if_neg q, if_neg q]
/-- the names that the loops look at -/
abbrev bas (hs : Nat → Addr) (f : Nat → Int → Addr) (a : Addr) : FR := [("asked", .ref a), ("nodes", .list (nodesV f 4)), ("lines", .list (linesV hs 4))]
abbrev bak (hs : Nat → Addr) (f : Nat → Int → Addr) (a : Addr) (key : Int) : FR := ("key", .int key) :: bas hs f a
abbrev bag (hs : Nat → Addr) (f : Nat → Int → Addr) (a : Addr) (key : Int) (b : Addr) (ago : AV) : FR := ("ago", ago) :: ("since", .ref b) :: bak hs f a key
abbrev bal (hs : Nat → Addr) (f : Nat → Int → Addr) (a : Addr) (key : Int) (ago v : AV) : FR := ("latest", v) :: ("ago", ago) :: bak hs f a key
abbrev bau (hs : Nat → Addr) (f : Nat → Int → Addr) (a : Addr) (key : Int) (ago : AV) (lt un : List Int) : FR := ("unlike", .list (il un)) :: bal hs f a key ago (.list (il lt))
abbrev bar (hs : Nat → Addr) (f : Nat → Int → Addr) (a : Addr) (key : Int) (ago : AV) (lt un : List Int) (i : Nat) (fd : Bool) : FR := ("found", .bool fd) :: ("node", .ref (f i key)) :: ("line", .ref (hs i)) :: ("room", .int i) :: bau hs f a key ago lt un
theorem updR_id {R : Nat → List Int} {i : Nat} : updR R i (R i) = R := by
  funext j
  by_cases q : j = i
  · rw [q, updR_self]
  · rw [updR_ne q]
theorem Law2.congr {m : MH} {T : Addr} {hs : Nat → Addr} {f : Nat → Int → Addr} {R R' : Nat → List Int} (L : Law2 m T hs f R) (h : ∀ j, j < 4 → R' j = R j) : Law2 m T hs f R' :=
  ⟨L.t, fun i hi => by rw [h i hi]; exact L.r i hi, L.nd, L.hi, L.fi, fun i hi k hk hn => L.off i hi k hk (by rwa [h i hi] at hn), fun i hi k hk => L.kb i hi k (by rwa [h i hi] at hk), fun i hi => by rw [h i hi]; exact L.nk i hi⟩
/-- how many others were asked since -/
def Ago (rev : List Int) (key : Int) (ago : AV) : Prop := (ago = .none ∧ key ∉ rev) ∨ ∃ i, ago = .int ((latF (rev.take i)).length : Nat) ∧ rev[i]? = some key ∧ key ∉ rev.take i
theorem linesV_get {hs : Nat → Addr} {i j : Nat} (h : j < i) : (linesV hs i)[j]? = some (.ref (hs j)) := by unfold linesV; rw [List.getElem?_map, List.getElem?_range h]; rfl
theorem nodesV_get {f : Nat → Int → Addr} {i j : Nat} (h : j < i) : (nodesV f i)[j]? = some (.list (rowV (f j) 6)) := by unfold nodesV; rw [List.getElem?_map, List.getElem?_range h]; rfl
theorem rowV_get {g : Int → Addr} {k : Int} (h : 1 ≤ k ∧ k ≤ 6) : (rowV g 6)[(k - 1).toNat]? = some (.ref (g k)) := by
  unfold rowV
  rw [List.getElem?_map, List.getElem?_range (by omega)]
  show some (AV.ref (g _)) = _
  rw [show (((k - 1).toNat : Nat) : Int) + 1 = k by omega]
section
variable {w : World} {mg mb : Str → Option Value} {B : Heap} {os : OsState} {gk : Nat → Option GenState} {n : Nat} {mh : MH}
abbrev LawP : FL → FR → MH → Prop := fun fl _ _ => fl = .ret (.bool true)
theorem law_walk (SB : ∀ gk, St0 (g3 w mg mb B os gk) B) (M : MG mg) (ns : List Int) (hns : ns.length ≤ 1000) (hm : ∀ a, isM (mh a) = false) {fd : FuncData} {body : List Stmt} (hfd : ∃ o d sl, (hd.heap_39 w.params).lookup 247 = some ⟨o, d, .func fd, sl⟩) (hbody : fd.body = .stmts body) {sc : Scope} (hsc : fd.scope = sc)
    {L fa : Addr} {cd : Value} {stk : List Env} {ps qs : List Addr} (ok : EnvOk (g3 w mg mb B os gk) (envOfC "law" sc L fa cd) ps qs) :
    ST (g3 w mg mb B os gk) stk ps qs (n + 30) (envOfC "law" sc L fa cd) [("script", .list (il ns))] mh body LawP := by
  obtain ⟨o, d, sl, hfd⟩ := hfd
  have e := hfd.symm.trans (by k_is : List.lookup 247 (hd.heap_39 _) = _)
  injection e with e
  injection e with e1 e2 e3 e4
  injection e3 with e3
  subst e3
  injection hbody with hbody
  dsimp only at hsc
  subst hsc
  subst hbody
  generalize hgl : Expr.List (_ :: _ :: _ :: _ :: _) _ = e0
  have hc := cells_len ns
  -- rest
  refine ST.stepI ok (.inl rfl) (v := .list (il rest16)) (m1 := mh) ?hrl ?_ ?hsw
  case hsw => subst hgl; rfl
  case hrl =>
    exact ev_ints ok.loc [(0, _, _), (1, _, _), (0, _, _), (2, _, _), (3, _, _), (1, _, _), (4, _, _), (0, _, _), (5, _, _), (2, _, _), (1, _, _), (1, _, _), (3, _, _), (10, _, _), (0, _, _), (7, _, _)] hgl.symm rfl (by decide)
  clear hgl
  -- cells
  have len16 : (ns.take 16).length ≤ 16 := by simp; omega
  refine ST.stepI ok (.inl rfl) (v := .list (il (cellsOf ns))) (m1 := mh) (EV.binI (v1 := .list ((ns.take 16).map fun k => .int (k.fmod 1000000))) (v2 := .list (il (rest16.drop (ns.take 16).length))) ok.loc (by omega)
    (EV.compL [] [] (fun k => .int (k.fmod 1000000)) ok (EV.sliceToI (b := 16) ok.loc (EV.name rfl rfl rfl rfl) EV.const_int LV.list hns) (by omega) (fun _ _ => .int _) fun C k hk cok => EV.binI cok.loc (by omega) (EV.name rfl rfl rfl rfl) EV.const_int (op_mod (by omega)))
    (EV.sliceFromI ok.loc (EV.name rfl rfl rfl rfl) (EV.lenI (SB gk) ⟨rfl, rfl, rfl, rfl, M.len, by decide +kernel, by decide +kernel, rfl⟩ (EV.sliceToI (b := 16) ok.loc (EV.name rfl rfl rfl rfl) EV.const_int LV.list hns) LV.list (by omega)) LV.list (by simp [rest16]) (by simpa [rest16] using len16)) ?b3) ?_
  case b3 =>
    have h := op_addL (g := g3 w mg mb B os gk) (mh := mh) (v1 := .list (il ((ns.take 16).map fun k => k.fmod 1000000))) (v2 := .list (il (rest16.drop (ns.take 16).length))) LV.list LV.list (by rw [il_len, il_len]; simp [rest16]; omega)
    rw [il_append, il_map] at h
    exact h
  -- made
  refine ST.step ok (.inr ⟨rfl, _, rfl⟩) (ev_newT (n := n + 27) (SB gk) rfl rfl rfl M.cl) ?_
  rintro v m1 ⟨T, dT, rfl, nT, rfl⟩
  have hT1 : IsT (upd mh T (.inst 193 dT [])) T := ⟨by unfold kls; rw [upd_self], fun x => by unfold fld; rw [upd_self]; rfl⟩
  generalize upd mh T (.inst 193 dT []) = m1 at hT1 ⊢
  have hmT : HasMeth (hd.heap_39 w.params) 193 "create" 120 := ⟨pcT _, by k_is, by k_is, by k_is⟩
  -- lines, nodes, asked
  refine ST.tup (xs := ["lines", "nodes", "asked"]) ok rfl (by intro x hx; simp only [List.mem_cons, List.not_mem_nil, or_false] at hx; rcases hx with rfl | rfl | rfl <;> first | exact .inl rfl | exact .inr ⟨rfl, _, rfl⟩)
    (Pa := fun vs m => ∃ hs f a, vs = [.list (linesV hs 4), .list (nodesV f 4), .ref a] ∧ Heads m T hs 4 ∧ Nds m f 4 ∧ m a = some (.lst [])) ?tv (by rintro vs m ⟨hs, f, a, rfl, _⟩; rfl) ?_
  case tv =>
    refine EVXs.cons (P1 := fun v m => ∃ vs, v = .list vs ∧ ∃ hs, vs = linesV hs 4 ∧ Heads m T hs 4) ok.loc (EVX.of (EV.compF (N := (4 : Int).toNat) (item := fun i => .int i) (m0 := m1) (cl := [("made", L + 1)]) ok rfl (by decide) (by decide) rfl (by with_unfolding_all rfl) ?hcl ?hcm
      (ITJ.rangeN (k := 4) (SB gk) ⟨rfl, rfl, rfl, rfl, M.range, by decide +kernel, by decide +kernel, rfl⟩ EV.const_int (by omega) (by omega)) (by decide) [("made", .ref T)] ?hcap (fun i vs m => ∃ hs, vs = linesV hs i ∧ Heads m T hs i) ⟨fun _ => 0, rfl, hT1, fun j hj => by omega, fun j k hj => by omega⟩ ?hbody)) ?_
    case hcl => intro y c' e; have := mem_of_lookup e; simp at this; rcases this with ⟨rfl, rfl⟩; rfl
    case hcm => intro y c' e; simp at e; rcases e with ⟨rfl, rfl⟩; exact mem_of_lookup (by rfl)
    case hcap => intro y v e; have := mem_of_lookup e; simp at this; rcases this with ⟨rfl, rfl⟩; exact ⟨rfl, ⟨⟨_, rfl, rfl⟩, .inl rfl, .inl rfl⟩⟩
    case hbody =>
      rintro C i vs m hC cok hi ⟨hs, rfl, Hd⟩
      refine ⟨_, TJs.nil, (fun m' z => by cases z.1), ?_⟩
      rintro m' ⟨_, rfl⟩
      refine EV.mono (EV.met0 (SB gk) (EV.name rfl rfl rfl rfl) Hd.t.k hmT (Hd.t.f _) (ca_create (n := n + 24) (SB gk) M.ae M.cl T Hd.t) ⟨_, rfl⟩) ?_
      rintro v m2 ⟨h, dh, rfl, nh, rfl⟩
      obtain ⟨R1, b1⟩ := iniL_ring (T := T) (d := dh) nh
      have Hd2 := Hd.but b1 nh
      have hne : ∀ j, j < i → hs j ≠ h := fun j hj => ne_of_kls nh (Hd.r j hj).L.k
      generalize iniL (upd m' h (.inst 101 dh [])) T h = m3 at R1 b1 Hd2 ⊢
      refine ⟨.ref _, fun j => if j = i then h else hs j, (linesV_succ (hs := hs) (hs' := fun j => if j = i then h else hs j) (fun j hj => if_neg (by omega)) (if_pos rfl)).symm, Hd2.t, fun j hj => ?_, fun j k hj hk e => ?_⟩
      · by_cases q : j = i
        · rw [if_pos q]; exact R1
        · rw [if_neg q]; exact Hd2.r j (by omega)
      · by_cases q : j = i <;> by_cases q' : k = i
        · omega
        · rw [if_pos q, if_neg q'] at e; exact absurd e.symm (hne k (by omega))
        · rw [if_neg q, if_pos q'] at e; exact absurd e (hne j (by omega))
        · rw [if_neg q, if_neg q'] at e; exact Hd2.inj j k (by omega) (by omega) e
    rintro v m2 ⟨_, rfl, hs, rfl, Hd⟩
    refine EVXs.cons (P1 := fun v m => ∃ vs, v = .list vs ∧ ∃ f, vs = nodesV f 4 ∧ Heads m T hs 4 ∧ Nds m f 4) ok.loc (EVX.of (EVN.ev (EVN.comp (N := (4 : Int).toNat) (item := fun i => .int i) (m0 := m2) (cl := []) ok rfl (by decide) (by decide) rfl (by with_unfolding_all rfl) (by intro y c e; cases e) (by intro y c e; cases e)
      (ITJ.rangeN (k := 4) (SB gk) ⟨rfl, rfl, rfl, rfl, M.range, by decide +kernel, by decide +kernel, rfl⟩ EV.const_int (by omega) (by omega)) (by decide) [] (by intro y v e; cases e) (fun i vs m => ∃ f, vs = nodesV f i ∧ Heads m T hs 4 ∧ Nds m f i) ⟨fun _ _ => 0, rfl, Hd, fun j hj => by omega, fun j j' k l hj => by omega⟩ ?hbody2))) ?_
    case hbody2 =>
      rintro C i vs m hC cok hi ⟨f, rfl, Hd, Nd⟩
      refine ⟨_, TJs.nil, (fun m' z => by cases z.1), ?_⟩
      rintro m' ⟨_, rfl⟩
      refine EVN.mono (EVN.comp (N := (6 : Int).toNat) (item := fun i => .int i) (m0 := m') (cl := []) cok rfl (by decide) (by decide) rfl (by with_unfolding_all rfl) (by intro y c e; cases e) (by intro y c e; cases e)
        (ITJ.rangeN (k := 6) (SB gk) ⟨rfl, rfl, rfl, rfl, M.range, by decide +kernel, by decide +kernel, rfl⟩ EV.const_int (by omega) (by omega)) (by decide) [] (by intro y v e; cases e) (fun q ws m => ∃ g, ws = rowV g q ∧ Heads m T hs 4 ∧ Nds m f i ∧ Row m f i g q) ⟨fun _ => 0, rfl, Hd, Nd, fun k hk => by omega, fun k l hk => by omega⟩ ?hbody3) ?hend3
      case hend3 =>
        rintro v m2 ⟨_, rfl, g, rfl, Hd2, Nd2, Rw⟩
        refine ⟨fun j => if j = i then g else f j, (nodesV_succ (f := f) (f' := fun j => if j = i then g else f j) (fun j hj => if_neg (by omega)) (if_pos rfl)).symm, Hd2, fun j hj k hk => ?_, fun j j' k l hj hj' hk hl e => ?_⟩
        · by_cases q : j = i
          · rw [if_pos q]; exact ⟨(Rw.nd k hk).1, (Rw.nd k hk).2.1⟩
          · rw [if_neg q]; exact Nd2.nd j (by omega) k hk
        · by_cases q : j = i <;> by_cases q' : j' = i
          · rw [if_pos q, if_pos q'] at e
            exact ⟨by omega, Rw.inj k l hk hl e⟩
          · rw [if_pos q, if_neg q'] at e
            exact absurd e ((Rw.nd k hk).2.2 j' (by omega) l hl)
          · rw [if_neg q, if_pos q'] at e
            exact absurd e.symm ((Rw.nd l hl).2.2 j (by omega) k hk)
          · rw [if_neg q, if_neg q'] at e
            exact Nd2.inj j j' k l (by omega) (by omega) hk hl e
      case hbody3 =>
        rintro C2 q ws m2 hC2 cok2 hq ⟨g, rfl, Hd2, Nd2, Rw⟩
        refine ⟨_, TJs.nil, (fun m' z => by cases z.1), ?_⟩
        rintro m3 ⟨_, rfl⟩
        refine EVN.flat (EV.mono (EV.call1 (SB gk) cok2.loc (EV.glob (SB gk) rfl rfl rfl M.orr rfl) (kO _) (EV.binI cok2.loc (by omega) (EV.name rfl rfl rfl rfl) EV.const_int op_add) (ca_newO (n := n + 27) (SB gk) ((q : Int) + 1) (by omega))) ?_)
        rintro v m4 ⟨x, d, rfl, nx, rfl⟩
        obtain ⟨nd, off, bx⟩ := iniO_node (mh := m3) (x := x) (d := d) (k := (q : Int) + 1)
        have Hd3 := Hd2.but bx nx
        have Nd3 := Nd2.but bx nx
        have Rw3 := Rw.but bx nx
        have ne1 : ∀ k, 1 ≤ k ∧ k ≤ (q : Int) → g k ≠ x := fun k hk => ne_of_kls nx (Rw.nd k hk).1.k
        have ne2 : ∀ j, j < i → ∀ l, 1 ≤ l ∧ l ≤ 6 → x ≠ f j l := fun j hj l hl => (ne_of_kls nx (Nd2.nd j hj l hl).1.k).symm
        generalize iniO (upd m3 x (.inst 238 d [])) x ((q : Int) + 1) = m5 at nd off Hd3 Nd3 Rw3 ⊢
        refine ⟨.ref _, fun k => if k = (q : Int) + 1 then x else g k, (rowV_succ (g := g) (g' := fun k => if k = (q : Int) + 1 then x else g k) (fun k hk => if_neg (by omega)) (if_pos rfl)).symm, Hd3, Nd3, fun k hk => ?_, fun k l hk hl e => ?_⟩
        · by_cases z : k = (q : Int) + 1
          · rw [if_pos z, z]; exact ⟨nd, off, ne2⟩
          · rw [if_neg z]; exact Rw3.nd k (by omega)
        · by_cases z : k = (q : Int) + 1 <;> by_cases z' : l = (q : Int) + 1
          · omega
          · rw [if_pos z, if_neg z'] at e; exact absurd e.symm (ne1 l (by omega))
          · rw [if_neg z, if_pos z'] at e; exact absurd e (ne1 k (by omega))
          · rw [if_neg z, if_neg z'] at e; exact Rw3.inj k l (by omega) (by omega) e
    rintro v m3 ⟨_, rfl, f, rfl, Hd3, Nd3⟩
    refine EVXs.cons ok.loc EVX.newL ?_
    rintro v m4 ⟨a, rfl, na, rfl⟩
    have ba : But a m3 (upd m3 a (.lst [])) := fun b hb => upd_ne hb
    exact EVXs.nil ⟨hs, f, a, rfl, Hd3.but ba na, Nd3.but ba na, upd_self⟩
  rintro vs m2 ⟨hs, f, a0, rfl, Hd, Nd, ha0⟩
  have L0 : Law2 m2 T hs f (heldR (latF ([] : List Int).reverse)) := by
    have e0 : ∀ i, heldR (latF ([] : List Int).reverse) i = [] := fun i => held_nil i
    refine ⟨Hd.t, fun i hi => by rw [e0]; exact Hd.r i hi, fun i hi k hk => (Nd.nd i hi k hk).1, Hd.inj, Nd.inj, fun i hi k hk _ => (Nd.nd i hi k hk).2, fun i hi k hk => ?_, fun i hi => ?_⟩
    · rw [e0] at hk; cases hk
    · rw [e0]; exact List.nodup_nil
  clear Hd Nd
  -- the questions
  refine ST.for_ ok (.inl rfl) (ITJ.list (EV.name rfl rfl rfl rfl)) (fun d r m => ∃ a asked, (∀ p ∈ bas hs f a, r.lookup p.1 = some p.2) ∧ Law2 m T hs f (heldR (latF asked.reverse)) ∧ m a = some (.lst asked) ∧ asked.length ≤ d) ?q0 ?qb ?qd
  case q0 => exact ⟨a0, [], by intro p hp; simp only [bas, List.mem_cons, List.not_mem_nil, or_false] at hp; rcases hp with rfl | rfl | rfl <;> rfl, L0, ha0, by simp⟩
  case qd =>
    rintro r m ⟨a, asked, _⟩
    exact ST.retI ok EV.const_bool rfl
  clear L0 ha0
  rintro dd r m hd ⟨a, asked, hfr, LW, ha, hal⟩
  rw [il_len, hc] at hd
  rw [il_getD (by rw [hc]; exact hd)]
  obtain ⟨draw, hdraw⟩ : ∃ draw, (cellsOf ns).getD dd 0 = draw := ⟨_, rfl⟩
  rw [hdraw]
  refine ST.sub (fr' := ("draw", .int draw) :: bas hs f a) (sub_cons hfr (fun p hp q => ?_)) ?_
  · have hin : p.1 ∈ (["asked", "nodes", "lines"] : List Str) := by
      simp only [bas, List.mem_cons, List.not_mem_nil, or_false] at hp
      rcases hp with rfl | rfl | rfl <;> simp
    rw [q] at hin
    exact absurd hin (by decide +kernel)
  clear hfr
  by_cases h28 : draw.fmod 29 = 28
  · -- emptied
    refine ST.ifT ok (TJ.cmpI ok.loc (by omega) (EV.binI ok.loc (by omega) (EV.name rfl rfl rfl rfl) EV.const_int (op_mod (by omega))) EV.const_int (by have := op_eq (g := g3 w mg mb B os gk) (mh := m) (a := draw.fmod 29) (b := 28); rwa [show (draw.fmod 29 == 28) = true by rw [h28]; rfl] at this)) ?_
    refine ST.for_ ok (.inl rfl) (ITJ.rangeN (k := 4) (SB gk) ⟨rfl, rfl, rfl, rfl, M.range, by decide +kernel, by decide +kernel, rfl⟩ EV.const_int (by omega) (by omega)) (fun i r m => (∀ p ∈ bas hs f a, r.lookup p.1 = some p.2) ∧ Law2 m T hs f (fun j => if j < i then [] else heldR (latF asked.reverse) j)) ?c0 ?cb ?cd
    case c0 => exact ⟨by intro p hp; simp only [bas, List.mem_cons, List.not_mem_nil, or_false] at hp; rcases hp with rfl | rfl | rfl <;> rfl, by simpa using LW⟩
    case cb =>
      rintro i r m hi ⟨hfr, L1⟩
      have hi : i < 4 := by omega
      refine ST.sub (fr' := ("room", .int (i : Int)) :: bas hs f a) (sub_cons hfr (fun p hp q => ?_)) ?_
      · have hin : p.1 ∈ (["asked", "nodes", "lines"] : List Str) := by
          simp only [bas, List.mem_cons, List.not_mem_nil, or_false] at hp
          rcases hp with rfl | rfl | rfl <;> simp
        rw [q] at hin
        exact absurd hin (by decide +kernel)
      have hL := (L1.r i hi).L
      refine ST.exprP ok (EV.met0 (SB gk) (EV.idx (xs := linesV hs 4) (k := (i : Int)) (x := .ref (hs i)) ok.loc (EV.name rfl rfl rfl rfl) (EV.name rfl rfl rfl rfl) LV.list (.inl ⟨by omega, by rw [Int.toNat_natCast]; exact linesV_get hi⟩) (by simp [linesV])) hL.k (hmL_clr _) (hL.f _ (by decide +kernel) (by decide +kernel) (by decide +kernel) (by decide +kernel)) (law2_clear (n := n + 21) SB M.ae L1 hi) ⟨_, rfl⟩) ?_
      rintro v m1 ⟨_, L2, sl2⟩
      refine ST.nilI ⟨by intro p hp; simp only [bas, List.mem_cons, List.not_mem_nil, or_false] at hp; rcases hp with rfl | rfl | rfl <;> rfl, ?_⟩
      have e : updR (fun j => if j < i then [] else heldR (latF asked.reverse) j) i [] = fun j => if j < i + 1 then [] else heldR (latF asked.reverse) j := by
        funext j
        by_cases q : j = i
        · rw [q, updR_self, if_pos (by omega)]
        · rw [updR_ne q]
          by_cases z : j < i
          · rw [if_pos z, if_pos (by omega)]
          · rw [if_neg z, if_neg (by omega)]
      rw [← e]; exact L2
    rintro r m1 ⟨hfr, L1⟩
    refine ST.sub hfr ?_
    refine ST.stepX ok (.inr ⟨rfl, _, rfl⟩) EVX.newL ?_
    rintro v m2 ⟨a2, rfl, na2, rfl⟩
    have L2 := L1.upd (ns := []) (.inl na2)
    refine ST.cont ⟨fun q => (nomatch q), fun _ => ⟨a2, [], by intro p hp; simp only [bas, List.mem_cons, List.not_mem_nil, or_false] at hp; rcases hp with rfl | rfl | rfl <;> rfl, ?_, upd_self, by simp⟩⟩
    refine ⟨L2.t, fun i hi => ?_, L2.nd, L2.hi, L2.fi, fun i hi k hk _ => ?_, fun i hi k hk => ?_, fun i hi => ?_⟩
    · have := L2.r i hi
      rw [if_pos (show i < (4 : Int).toNat from hi)] at this
      rw [show heldR (latF ([] : List Int).reverse) i = [] from held_nil i]; exact this
    · exact L2.off i hi k hk (by rw [if_pos (show i < (4 : Int).toNat from hi)]; simp)
    · rw [show heldR (latF ([] : List Int).reverse) i = [] from held_nil i] at hk; cases hk
    · rw [show heldR (latF ([] : List Int).reverse) i = [] from held_nil i]; exact List.nodup_nil
  refine ST.ifF ok (TJ.cmpI ok.loc (by omega) (EV.binI ok.loc (by omega) (EV.name rfl rfl rfl rfl) EV.const_int (op_mod (by omega))) EV.const_int (by have := op_eq (g := g3 w mg mb B os gk) (mh := m) (a := draw.fmod 29) (b := 28); rwa [show (draw.fmod 29 == 28) = false by simpa using h28] at this)) ?_
  -- key
  obtain ⟨key, hkey⟩ : ∃ key, 1 + draw.fmod 6 = key := ⟨_, rfl⟩
  have hkb : 1 ≤ key ∧ key ≤ 6 := by rw [← hkey, Int.fmod_eq_emod_of_nonneg _ (by omega)]; omega
  refine ST.stepI ok (.inr ⟨rfl, _, rfl⟩) (v := .int key) (m1 := m) (EV.binI ok.loc (by omega) EV.const_int (EV.binI ok.loc (by omega) (EV.name rfl rfl rfl rfl) EV.const_int (op_mod (by omega))) (by rw [← hkey]; exact op_add)) ?_
  clear hkey h28
  -- since, ago
  refine ST.tupS (xs := ["since", "ago"]) ok (by intro x hx; simp only [List.mem_cons, List.not_mem_nil, or_false] at hx; rcases hx with rfl | rfl <;> exact .inl rfl)
    (Pa := fun vs m' => ∃ b, vs = [.ref b, .none] ∧ m b = none ∧ m' = upd m b (.lst [])) (EVXs.cons ok.loc EVX.newL (by rintro v m' ⟨b, rfl, nb, rfl⟩; exact EVXs.consI ok.loc EV.const_none (EVXs.nil ⟨b, rfl, nb, rfl⟩))) (by rintro vs m ⟨b, rfl, _⟩; rfl) ?_
  rintro vs m1 ⟨b, rfl, nb, rfl⟩
  refine ST.sub (fr' := bag hs f a key b .none) (by intro p hp; simp only [bag, bak, bas, List.mem_cons, List.not_mem_nil, or_false] at hp; rcases hp with rfl | rfl | rfl | rfl | rfl | rfl <;> rfl) ?_
  obtain ⟨rev, hrev⟩ : ∃ rev, asked.reverse = rev := ⟨_, rfl⟩
  have hrl : rev.length = asked.length := by rw [← hrev]; simp
  rw [hrev] at LW
  have hasked : ∀ k : Nat, k < asked.length → (-1 - (k : Int) < 0 ∧ -((il asked).length : Int) ≤ -1 - (k : Int) ∧ (il asked)[((-1 - (k : Int)) + (il asked).length).toNat]? = some (.int (rev.getD k 0))) := fun k hk => by
    rw [il_len]
    refine ⟨by omega, by omega, ?_⟩
    rw [show ((-1 - (k : Int)) + (asked.length : Int)).toNat = asked.length - 1 - k by omega, il_get (by omega), ← hrev, List.getD_eq_getElem?_getD, List.getD_eq_getElem?_getD, List.getElem?_reverse (by omega)]
  have hrk : (List.range ((asked.length : Nat) : Int).toNat).map (fun k : Nat => AV.int (rev.getD k 0)) = il rev := by
    rw [Int.toNat_natCast, ← hrl]; exact range_ks
  have hab : a ≠ b := fun q => by rw [q, nb] at ha; cases ha
  have ha1 : ∀ sl, upd m b (.lst sl) a = some (.lst asked) := fun sl => (upd_ne hab).trans ha
  refine ST.cons (P1 := fun fl r m' => fl = .next ∧ ∃ ago, Ago rev key ago ∧ (∀ p ∈ bag hs f a key b ago, r.lookup p.1 = some p.2) ∧ ∃ sl, m' = upd m b (.lst sl))
    (SJ.forW (N := (il rev).length) (item := fun i => (il rev).getD i .none) (m0 := upd m b (.lst [])) ok (.inl rfl) (ITJ.list (by
      rw [← hrk]
      exact EV.compR (SB gk) ⟨rfl, rfl, rfl, rfl, M.range, by decide +kernel, by decide +kernel, rfl⟩ [("asked", L + 1 + 1 + 1)] [("asked", .ref a)] (fun k => .int (rev.getD k 0)) ok (EV.lenI (SB gk) ⟨rfl, rfl, rfl, rfl, M.len, by decide +kernel, by decide +kernel, rfl⟩ (EV.name rfl rfl rfl rfl) (LV.lst (ha1 _)) (by omega)) (by omega) (by omega) (fun _ _ => .int _) (fun C k hk cok =>
        EV.idx (xs := il asked) (k := -1 - (k : Int)) (x := .int (rev.getD k 0)) cok.loc (EV.name rfl rfl rfl rfl) (EV.binI cok.loc (by omega) (EV.unI (by omega) EV.const_int op_neg) (EV.name rfl rfl rfl rfl) op_sub) (LV.lst (ha1 _)) (.inr (hasked k (by omega))) (by rw [il_len]; omega))))
      (fun i r m' => (∀ p ∈ bag hs f a key b .none, r.lookup p.1 = some p.2) ∧ m' = upd m b (.lst (latF (rev.take i))) ∧ key ∉ rev.take i) ?s0 ?sb ?sd) ?sr ?sn
  case sn => rintro fl r m' ⟨rfl, _⟩ q; exact absurd rfl q
  case s0 => exact ⟨by intro p hp; simp only [bag, bak, bas, List.mem_cons, List.not_mem_nil, or_false] at hp; rcases hp with rfl | rfl | rfl | rfl | rfl | rfl <;> rfl, rfl, by simp⟩
  case sd =>
    rintro r m' ⟨hfr, rfl, hn⟩
    rw [il_len, List.take_length] at hn
    exact ⟨rfl, .none, .inl ⟨rfl, hn⟩, hfr, _, rfl⟩
  case sb =>
    rintro i r m' hi ⟨hfr, rfl, hn⟩
    rw [il_len] at hi
    rw [il_getD hi]
    refine ST.sub (fr' := ("past", .int (rev.getD i 0)) :: bag hs f a key b .none) (sub_cons hfr (fun p hp q => ?_)) ?_
    · have hin : p.1 ∈ (["ago", "since", "key", "asked", "nodes", "lines"] : List Str) := by
        simp only [bag, bak, bas, List.mem_cons, List.not_mem_nil, or_false] at hp
        rcases hp with rfl | rfl | rfl | rfl | rfl | rfl <;> simp
      rw [q] at hin
      exact absurd hin (by decide +kernel)
    clear hfr
    have hri : rev[i]? = some (rev.getD i 0) := by rw [List.getElem?_eq_getElem hi, getD_at hi]
    have htk : rev.take (i + 1) = rev.take i ++ [rev.getD i 0] := by rw [List.take_succ_eq_append_getElem hi, getD_at hi]
    obtain ⟨past, hpast⟩ : ∃ past, rev.getD i 0 = past := ⟨_, rfl⟩
    rw [hpast] at hri htk ⊢
    have hln := latF_len (rev.take i)
    have hln2 : (rev.take i).length ≤ rev.length := by simp; omega
    by_cases hp : past = key
    · refine ST.ifT ok (TJ.cmpI ok.loc (by omega) (EV.name rfl rfl rfl rfl) (EV.name rfl rfl rfl rfl) (by have := op_eq (g := g3 w mg mb B os gk) (mh := upd m b (.lst (latF (rev.take i)))) (a := past) (b := key); rwa [show (past == key) = true by simpa using hp] at this)) ?_
      refine ST.stepI ok (.inl rfl) (v := .int ((latF (rev.take i)).length : Nat)) (m1 := upd m b (.lst (latF (rev.take i)))) (EV.lenI (SB gk) ⟨rfl, rfl, rfl, rfl, M.len, by decide +kernel, by decide +kernel, rfl⟩ (EV.name rfl rfl rfl rfl) (LV.lst upd_self) (by omega)) ?_
      exact ST.brk ⟨fun q => (nomatch q), fun _ => ⟨rfl, _, .inr ⟨i, rfl, by rw [← hp]; exact hri, hn⟩, by intro p hp; simp only [bag, bak, bas, List.mem_cons, List.not_mem_nil, or_false] at hp; rcases hp with rfl | rfl | rfl | rfl | rfl | rfl <;> rfl, _, rfl⟩⟩
    · refine ST.ifF ok (TJ.cmpI ok.loc (by omega) (EV.name rfl rfl rfl rfl) (EV.name rfl rfl rfl rfl) (by have := op_eq (g := g3 w mg mb B os gk) (mh := upd m b (.lst (latF (rev.take i)))) (a := past) (b := key); rwa [show (past == key) = false by simpa using hp] at this)) ?_
      have hn' : key ∉ rev.take (i + 1) := by rw [htk]; simp; exact ⟨hn, fun q => hp q.symm⟩
      have hlat : latF (rev.take (i + 1)) = addL (latF (rev.take i)) past := by rw [htk, latF_snoc]
      by_cases hq : past ∈ latF (rev.take i)
      · refine ST.ifF ok (TJ.cmpI ok.loc (by omega) (EV.name rfl rfl rfl rfl) (EV.name rfl rfl rfl rfl) (by have := op_notinL (g := g3 w mg mb B os gk) (k := past) (LV.lst (mh := upd m b (.lst (latF (rev.take i)))) upd_self); rwa [show (!((latF (rev.take i)).any (· == past))) = false by simpa using hq] at this)) ?_
        refine ST.nilI ⟨by intro p hp; simp only [bag, bak, bas, List.mem_cons, List.not_mem_nil, or_false] at hp; rcases hp with rfl | rfl | rfl | rfl | rfl | rfl <;> rfl, ?_, hn'⟩
        rw [hlat]; unfold addL; rw [if_pos hq]
      · refine ST.ifT ok (TJ.cmpI ok.loc (by omega) (EV.name rfl rfl rfl rfl) (EV.name rfl rfl rfl rfl) (by have := op_notinL (g := g3 w mg mb B os gk) (k := past) (LV.lst (mh := upd m b (.lst (latF (rev.take i)))) upd_self); rwa [show (!((latF (rev.take i)).any (· == past))) = true from any_no hq] at this)) ?_
        refine ST.append ok (EV.name rfl rfl rfl rfl) (EV.name rfl rfl rfl rfl) upd_self upd_self (by omega) ?_
        rw [upd_upd]
        refine ST.nilI ⟨fun _ => ST.nilI ⟨by intro p hp; simp only [bag, bak, bas, List.mem_cons, List.not_mem_nil, or_false] at hp; rcases hp with rfl | rfl | rfl | rfl | rfl | rfl <;> rfl, ?_, hn'⟩, fun q => absurd rfl q⟩
        rw [hlat]; unfold addL; rw [if_neg hq]
  case sr =>
  rintro r m2 ⟨_, ago, hago, hfr, sl, rfl⟩
  refine ST.sub hfr ?_
  clear hfr
  have LW2 := LW.upd (ns := sl) (.inl nb)
  have ha2 := ha1 sl
  generalize upd m b (.lst sl) = m2 at LW2 ha2 ⊢
  clear LW ha nb hab ha1
  -- latest
  refine ST.stepX ok (.inr ⟨rfl, _, rfl⟩) EVX.newL ?_
  rintro v m3 ⟨c, rfl, nc, rfl⟩
  have hac : a ≠ c := fun q => by rw [q, nc] at ha2; cases ha2
  have ha3 : ∀ sl, upd m2 c (.lst sl) a = some (.lst asked) := fun sl => (upd_ne hac).trans ha2
  refine ST.for_ ok (.inl rfl) (ITJ.list (xs := il (key :: rev)) (m := upd m2 c (.lst [])) (EV.binI (v1 := .list (il [key])) (v2 := .list (il rev)) ok.loc (by omega) (EV.oneL ok.loc (EV.name rfl rfl rfl rfl)) (by
      rw [← hrk]
      exact EV.compR (SB gk) ⟨rfl, rfl, rfl, rfl, M.range, by decide +kernel, by decide +kernel, rfl⟩ [("asked", L + 1 + 1 + 1)] [("asked", .ref a)] (fun k => .int (rev.getD k 0)) ok (EV.lenI (SB gk) ⟨rfl, rfl, rfl, rfl, M.len, by decide +kernel, by decide +kernel, rfl⟩ (EV.name rfl rfl rfl rfl) (LV.lst (ha3 _)) (by omega)) (by omega) (by omega) (fun _ _ => .int _) (fun C k hk cok =>
        EV.idx (xs := il asked) (k := -1 - (k : Int)) (x := .int (rev.getD k 0)) cok.loc (EV.name rfl rfl rfl rfl) (EV.binI cok.loc (by omega) (EV.unI (by omega) EV.const_int op_neg) (EV.name rfl rfl rfl rfl) op_sub) (LV.lst (ha3 _)) (.inr (hasked k (by omega))) (by rw [il_len]; omega))) (by
      have := op_addL (g := g3 w mg mb B os gk) (mh := upd m2 c (.lst [])) (v1 := .list (il [key])) (v2 := .list (il rev)) LV.list LV.list (by rw [il_len, il_len]; simp; omega)
      rw [il_append] at this
      exact this)))
    (fun i r m' => (∀ p ∈ bal hs f a key ago (.ref c), r.lookup p.1 = some p.2) ∧ m' = upd m2 c (.lst (latF ((key :: rev).take i)))) ?l0 ?lb ?ld
  case l0 => exact ⟨by intro p hp; simp only [bal, bak, bas, List.mem_cons, List.not_mem_nil, or_false] at hp; rcases hp with rfl | rfl | rfl | rfl | rfl | rfl <;> rfl, rfl⟩
  case lb =>
    rintro i r m' hi ⟨hfr, rfl⟩
    rw [il_len] at hi
    rw [il_getD hi]
    refine ST.sub (fr' := ("past", .int ((key :: rev).getD i 0)) :: bal hs f a key ago (.ref c)) (sub_cons hfr (fun p hp q => ?_)) ?_
    · have hin : p.1 ∈ (["latest", "ago", "key", "asked", "nodes", "lines"] : List Str) := by
        simp only [bal, bak, bas, List.mem_cons, List.not_mem_nil, or_false] at hp
        rcases hp with rfl | rfl | rfl | rfl | rfl | rfl <;> simp
      rw [q] at hin
      exact absurd hin (by decide +kernel)
    clear hfr
    have htk : (key :: rev).take (i + 1) = (key :: rev).take i ++ [(key :: rev).getD i 0] := by rw [List.take_succ_eq_append_getElem hi, getD_at hi]
    obtain ⟨past, hpast⟩ : ∃ past, (key :: rev).getD i 0 = past := ⟨_, rfl⟩
    rw [hpast] at htk ⊢
    have hlat : latF ((key :: rev).take (i + 1)) = addL (latF ((key :: rev).take i)) past := by rw [htk, latF_snoc]
    have hln := latF_len ((key :: rev).take i)
    have hln2 : ((key :: rev).take i).length ≤ rev.length + 1 := by simp; omega
    generalize latF ((key :: rev).take i) = la at hlat hln ⊢
    by_cases hq : past ∈ la
    · refine ST.ifF ok (TJ.cmpI ok.loc (by omega) (EV.name rfl rfl rfl rfl) (EV.name rfl rfl rfl rfl) (by have := op_notinL (g := g3 w mg mb B os gk) (k := past) (LV.lst (mh := upd m2 c (.lst la)) upd_self); rwa [show (!(la.any (· == past))) = false by simpa using hq] at this)) ?_
      refine ST.nilI ⟨by intro p hp; simp only [bal, bak, bas, List.mem_cons, List.not_mem_nil, or_false] at hp; rcases hp with rfl | rfl | rfl | rfl | rfl | rfl <;> rfl, ?_⟩
      rw [hlat]; unfold addL; rw [if_pos hq]
    · refine ST.ifT ok (TJ.cmpI ok.loc (by omega) (EV.name rfl rfl rfl rfl) (EV.name rfl rfl rfl rfl) (by have := op_notinL (g := g3 w mg mb B os gk) (k := past) (LV.lst (mh := upd m2 c (.lst la)) upd_self); rwa [show (!(la.any (· == past))) = true from any_no hq] at this)) ?_
      refine ST.append ok (EV.name rfl rfl rfl rfl) (EV.name rfl rfl rfl rfl) upd_self upd_self (by omega) ?_
      rw [upd_upd]
      refine ST.nilI ⟨fun _ => ST.nilI ⟨by intro p hp; simp only [bal, bak, bas, List.mem_cons, List.not_mem_nil, or_false] at hp; rcases hp with rfl | rfl | rfl | rfl | rfl | rfl <;> rfl, ?_⟩, fun q => absurd rfl q⟩
      rw [hlat]; unfold addL; rw [if_neg hq]
  rintro r m3 ⟨hfr, rfl⟩
  refine ST.sub hfr ?_
  clear hfr
  rw [il_len, List.take_length]
  have hln := latF_len (key :: rev)
  have hlt := latF_cons key rev
  have hun := filter_un key rev
  generalize hlte : latF (key :: rev) = lt at hln hlt hun ⊢
  have LW3 := (LW2.upd (ns := lt) (.inl nc)).drp (ns := lt) upd_self
  have ha4 : drp (upd m2 c (.lst lt)) c a = some (.lst asked) := (drp_ne hac).trans (ha3 _)
  refine ST.freeze (x := "latest") (a := c) (ns := lt) upd_self rfl ?_
  generalize drp (upd m2 c (.lst lt)) c = m4 at LW3 ha4 ⊢
  clear ha3 hac nc ha2 LW2
  -- unlike
  have hla := latF_nodup rev
  have hlam : ∀ y, y ∈ latF rev → y ∈ rev := fun y hy => latF_mem.mp hy
  have hsplit := fun i => latF_split (l := rev) (i := i) (key := key)
  obtain ⟨la, hlae⟩ : ∃ la, latF rev = la := ⟨_, rfl⟩
  obtain ⟨un, hune⟩ : ∃ un, la.filter (· ≠ key) = un := ⟨_, rfl⟩
  rw [hlae] at hlt hun hla LW3 hlam
  simp only [hlae] at hsplit
  rw [hune] at hlt hun
  have hunk : key ∉ un := fun q => by rw [← hune] at q; simpa using (List.mem_filter.mp q).2
  have hul : un.length ≤ 1000 := by rw [hlt] at hln; simp at hln; omega
  refine ST.cons (P1 := fun fl r m' => fl = .next ∧ (∀ p ∈ bau hs f a key ago lt un, r.lookup p.1 = some p.2) ∧ m' = m4)
    (ST.mono (SJ.compF (N := (il lt).length) (item := fun i => (il lt).getD i .none) (m0 := m4) (cl := [("key", L + 1 + 1)]) ok (.inl rfl) rfl (by decide) (by decide) rfl (by with_unfolding_all rfl) ?ucl ?ucm
      (ITJ.list (EV.name rfl rfl rfl rfl)) (by rw [il_len]; simp at hln; omega) [("key", .int key)] ?ucap (fun i vs m' => m' = m4 ∧ vs = il ((lt.take i).filter (· ≠ key))) ⟨rfl, rfl⟩ ?ub (by intro _; rfl) (by rfl)) ?ue) ?ur (by rintro fl r m' ⟨rfl, _⟩ q; exact absurd rfl q)
  case ucl => intro y c' e; have := mem_of_lookup e; simp at this; rcases this with ⟨rfl, rfl⟩; rfl
  case ucm => intro y c' e; simp at e; rcases e with ⟨rfl, rfl⟩; exact mem_of_lookup (by rfl)
  case ucap => intro y v e; have := mem_of_lookup e; simp at this; rcases this with ⟨rfl, rfl⟩; exact ⟨rfl, ⟨⟨_, rfl, rfl⟩, .inl rfl, .inl rfl⟩⟩
  case ue =>
    rintro fl r m' ⟨vs, rfl, rfl, rfl, rfl⟩
    rw [il_len, List.take_length, hun]
    exact ⟨rfl, by intro p hp; simp only [bau, bal, bak, bas, List.mem_cons, List.not_mem_nil, or_false] at hp; rcases hp with rfl | rfl | rfl | rfl | rfl | rfl | rfl <;> rfl, rfl⟩
  case ub =>
    rintro C i vs m' hC cok hi ⟨rfl, rfl⟩
    rw [il_len] at hi
    have htk : lt.take (i + 1) = lt.take i ++ [lt.getD i 0] := by rw [List.take_succ_eq_append_getElem hi, getD_at hi]
    refine ⟨Tst m' (lt.getD i 0 != key), TJs.one (TJ.cmpI cok.loc (by omega) (EV.name rfl (v := .int (lt.getD i 0)) (by rw [← il_getD hi]; rfl) rfl rfl) (EV.name rfl rfl rfl rfl) op_ne), fun m2 z => ⟨z.2, ?_⟩, fun m2 z => ?_⟩
    · rw [htk, List.filter_append]
      have : lt.getD i 0 = key := by simpa using z.1.symm
      rw [List.filter_cons, if_neg (by simpa using this)]
      simp
    · obtain ⟨z1, rfl⟩ := z
      refine EV.mono (EV.name rfl (v := .int (lt.getD i 0)) (by rw [← il_getD hi]; rfl) rfl rfl) ?_
      rintro v m3 ⟨rfl, rfl⟩
      refine ⟨.int _, rfl, ?_⟩
      have : lt.getD i 0 ≠ key := by simpa using z1.symm
      rw [htk, List.filter_append, List.filter_cons, if_pos (by simpa using this), List.filter_nil, ← il_append]; rfl
  case ur =>
  rintro r m' ⟨_, hfr, rfl⟩
  refine ST.sub hfr ?_
  clear hfr
  -- the stores
  refine ST.for_ ok (.inl rfl) (ITJ.rangeN (k := 4) (SB gk) ⟨rfl, rfl, rfl, rfl, M.range, by decide +kernel, by decide +kernel, rfl⟩ EV.const_int (by omega) (by omega)) (fun i r m => (∀ p ∈ bau hs f a key ago lt un, r.lookup p.1 = some p.2) ∧ Law2 m T hs f (fun j => if j < i then heldR lt j else heldR la j) ∧ m a = some (.lst asked)) ?r0 ?rb ?rd
  case r0 => exact ⟨by intro p hp; simp only [bau, bal, bak, bas, List.mem_cons, List.not_mem_nil, or_false] at hp; rcases hp with rfl | rfl | rfl | rfl | rfl | rfl | rfl <;> rfl, by simpa using LW3, ha4⟩
  case rd =>
    rintro r m5 ⟨hfr, L5, ha5⟩
    refine ST.sub hfr ?_
    refine ST.append ok (EV.name rfl rfl rfl rfl) (EV.name rfl rfl rfl rfl) ha5 ha5 (by omega) ?_
    have L6 := L5.upd (ns := asked ++ [key]) (.inr ⟨_, ha5⟩)
    refine ST.nilI ⟨a, asked ++ [key], by intro p hp; simp only [bas, List.mem_cons, List.not_mem_nil, or_false] at hp; rcases hp with rfl | rfl | rfl <;> rfl, L6.congr fun j hj => ?_, upd_self, by simp; omega⟩
    rw [List.reverse_append, hrev]
    show heldR (latF (key :: rev)) j = _
    rw [hlte, if_pos (show j < (4 : Int).toNat from hj)]
  case rb =>
  clear LW3 ha4 hlte
  rintro i r m5 hi ⟨hfr, L5, ha5⟩
  have hi : i < 4 := by omega
  refine ST.sub (fr' := ("room", .int (i : Int)) :: bau hs f a key ago lt un) (sub_cons hfr (fun p hp q => ?_)) ?_
  · have hin : p.1 ∈ (["unlike", "latest", "ago", "key", "asked", "nodes", "lines"] : List Str) := by
      simp only [bau, bal, bak, bas, List.mem_cons, List.not_mem_nil, or_false] at hp
      rcases hp with rfl | rfl | rfl | rfl | rfl | rfl | rfl <;> simp
    rw [q] at hin
    exact absurd hin (by decide +kernel)
  clear hfr
  have hRi : (fun j => if j < i then heldR lt j else heldR la j) i = heldR la i := if_neg (Nat.lt_irrefl i)
  generalize hR : (fun j => if j < i then heldR lt j else heldR la j) = R at L5 hRi
  have hL := (L5.r i hi).L
  -- line, node
  refine ST.tupS (xs := ["line", "node"]) ok (by intro x hx; simp only [List.mem_cons, List.not_mem_nil, or_false] at hx; rcases hx with rfl | rfl <;> exact .inl rfl)
    (Pa := fun vs m' => vs = [.ref (hs i), .ref (f i key)] ∧ m' = m5) (EVXs.consI ok.loc (EV.idx (xs := linesV hs 4) (k := (i : Int)) (x := .ref (hs i)) ok.loc (EV.name rfl rfl rfl rfl) (EV.name rfl rfl rfl rfl) LV.list (.inl ⟨by omega, by rw [Int.toNat_natCast]; exact linesV_get hi⟩) (by simp [linesV]))
      (EVXs.consI ok.loc (EV.idxL (xs := rowV (f i) 6) (k := key - 1) (x := .ref (f i key)) ok.loc (EV.idx (xs := nodesV f 4) (k := (i : Int)) (x := .list (rowV (f i) 6)) ok.loc (EV.name rfl rfl rfl rfl) (EV.name rfl rfl rfl rfl) LV.list (.inl ⟨by omega, by rw [Int.toNat_natCast]; exact nodesV_get hi⟩) (by simp [nodesV])) (EV.binI ok.loc (by omega) (EV.name rfl rfl rfl rfl) EV.const_int op_sub) LV.list (by omega) (rowV_get hkb) (by simp [rowV])) (EVXs.nil ⟨rfl, rfl⟩))) (by rintro vs m ⟨rfl, _⟩; rfl) ?_
  rintro vs m ⟨rfl, rfl⟩
  -- found
  obtain ⟨fd, hfd⟩ : ∃ fd, decide (key ∈ heldR la i) = fd := ⟨_, rfl⟩
  refine ST.stepI ok (.inl rfl) (v := .bool fd) (m1 := m) (EV.met1 (SB gk) ok.loc (EV.name rfl rfl rfl rfl) hL.k (hmL_ion _) (hL.f _ (by decide +kernel) (by decide +kernel) (by decide +kernel) (by decide +kernel)) (EV.name rfl rfl rfl rfl) (by
    have := law2_ion (n := n + 27) (SB gk) M.ae L5 hi hkb
    rw [hRi, hfd] at this
    exact this)) ?_
  refine ST.sub (fr' := bar hs f a key ago lt un i fd) (by intro p hp; simp only [bar, bau, bal, bak, bas, List.mem_cons, List.not_mem_nil, or_false] at hp; rcases hp with rfl | rfl | rfl | rfl | rfl | rfl | rfl | rfl | rfl | rfl | rfl <;> rfl) ?_
  -- as told
  refine ST.ifF ok (TJ.cmpI ok.loc (by omega) (EV.name rfl rfl rfl rfl) ?agoE (by have := op_neb (g := g3 w mg mb B os gk) (mh := m) (a := fd) (b := fd); rwa [show (fd != fd) = false by simp] at this)) ?_
  case agoE =>
    rcases hago with ⟨rfl, hn⟩ | ⟨q, rfl, hq, hn⟩
    · refine EV.andF (v := .bool false) ok.loc (EV.cmpI ok.loc (by omega) (EV.name rfl rfl rfl rfl) EV.const_none op_isnot_none_none) tr_bool ⟨?_, rfl⟩
      have : key ∉ heldR la i := fun z => hn (hlam key (List.mem_of_mem_take (List.mem_reverse.mp z)))
      rw [← hfd, decide_eq_false this]
    · refine EV.andT (b := true) ok.loc (EV.cmpI ok.loc (by omega) (EV.name rfl rfl rfl rfl) EV.const_none op_isnot_none_int) tr_bool (EV.cmpI ok.loc (by omega) (EV.name rfl rfl rfl rfl) (EV.name rfl rfl rfl rfl) ?_)
      obtain ⟨b9, hb9⟩ := hsplit q hq hn
      have hkn : key ∉ latF (rev.take q) := fun z => hn (latF_mem.mp z)
      have hm9 := mem_take_split (b := b9) (r := i) hkn
      have e9 : fd = decide ((((latF (rev.take q)).length : Nat) : Int) ≤ (i : Int)) := by
        rw [← hfd]
        apply Bool.eq_iff_iff.mpr
        rw [decide_eq_true_eq, decide_eq_true_eq]
        unfold heldR
        rw [List.mem_reverse, hb9, hm9]
        omega
      rw [e9]
      exact op_le
  clear hago hsplit
  -- taken off its place, or the first goes
  have hX : fd = false → key ∉ heldR la i := fun h z => by rw [← hfd, decide_eq_true z] at h; cases h
  refine ST.cons (P1 := fun fl r m' => fl = .next ∧ (∀ p ∈ bar hs f a key ago lt un i fd, r.lookup p.1 = some p.2) ∧ Law2 m' T hs f (updR R i ((un.take i).reverse)) ∧ m' a = some (.lst asked))
    (SJ.if_ (P1 := Tst m fd) ok (TJ.valI (EV.name rfl rfl rfl rfl) tr_bool) ?ft ?ff) ?fr (by rintro fl r m' ⟨rfl, _⟩ q; exact absurd rfl q)
  case ft =>
    rintro m' ⟨hb, rfl⟩
    have hmem : key ∈ heldR la i := of_decide_eq_true (hfd.trans hb.symm)
    refine ST.exprP ok (EV.met1 (SB gk) ok.loc (EV.name rfl rfl rfl rfl) hL.k (hmL_rem _) (hL.f _ (by decide +kernel) (by decide +kernel) (by decide +kernel) (by decide +kernel)) (EV.name rfl rfl rfl rfl) (law2_remove (n := n + 26) (SB gk) M.ae L5 hi (k := key) (by rw [hRi]; exact hmem))) ?_
    rintro v m1 ⟨_, L6, sl6⟩
    rw [hRi, held_found hla hmem, hune] at L6
    exact ST.nilI ⟨rfl, by intro p hp; simp only [bar, bau, bal, bak, bas, List.mem_cons, List.not_mem_nil, or_false] at hp; rcases hp with rfl | rfl | rfl | rfl | rfl | rfl | rfl | rfl | rfl | rfl | rfl <;> rfl, L6, (sl6 a (.inl (by rw [ha5]; rfl))).trans ha5⟩
  case ff =>
    rintro m' ⟨hb, rfl⟩
    have hnm := hX hb.symm
    by_cases hr : i < un.length
    · have hfull := held_full hla hnm (by rw [hune]; exact hr)
      rw [hune] at hfull
      obtain ⟨x, hx⟩ : ∃ x, un.getD i 0 = x := ⟨_, rfl⟩
      rw [hx] at hfull
      have hRx : R i = x :: (un.take i).reverse := hRi.trans hfull
      have hxb := L5.kb i hi x (by rw [hRx]; exact List.mem_cons_self)
      refine ST.cons (P1 := fun fl r m2 => fl = .next ∧ (∀ p ∈ bar hs f a key ago lt un i fd, r.lookup p.1 = some p.2) ∧ Law2 m2 T hs f (updR R i ((un.take i).reverse)) ∧ m2 a = some (.lst asked))
        (SJ.if_ (P1 := fun b m2 => b = false ∧ Law2 m2 T hs f (updR R i ((un.take i).reverse)) ∧ SameL m' m2) ok (TJ.and2 (P1 := Tst m' true) ok.loc (TJ.cmpI ok.loc (by omega) (EV.lenI (SB gk) ⟨rfl, rfl, rfl, rfl, M.len, by decide +kernel, by decide +kernel, rfl⟩ (EV.name rfl rfl rfl rfl) LV.list hul) (EV.name rfl rfl rfl rfl) (by have := op_gt (g := g3 w mg mb B os gk) (mh := m') (a := (un.length : Int)) (b := (i : Int)); rwa [show decide ((i : Int) < (un.length : Int)) = true by simp only [decide_eq_true_eq]; omega] at this)) (by rintro m ⟨e, _⟩; cases e) ?pop) (by rintro m2 ⟨e, _⟩; cases e) ?nx) (by rintro r m2 ⟨_, h⟩; exact ST.nilI ⟨rfl, h⟩) (by rintro fl r m' ⟨rfl, _⟩ q; exact absurd rfl q)
      case nx =>
        rintro m2 ⟨_, L6, sl6⟩
        exact ST.nilI ⟨rfl, by intro p hp; simp only [bar, bau, bal, bak, bas, List.mem_cons, List.not_mem_nil, or_false] at hp; rcases hp with rfl | rfl | rfl | rfl | rfl | rfl | rfl | rfl | rfl | rfl | rfl <;> rfl, L6, (sl6 a (.inl (by rw [ha5]; rfl))).trans ha5⟩
      case pop =>
        rintro m2 ⟨_, rfl⟩
        refine TJ.cmp (P1 := fun v m3 => v = .int x ∧ Law2 m3 T hs f (updR R i ((un.take i).reverse)) ∧ SameL m2 m3) (P2 := fun _ v m3 => v = .int x ∧ Law2 m3 T hs f (updR R i ((un.take i).reverse)) ∧ SameL m2 m3) ok.loc (by omega)
          (EV.mono (ev_popPath (n := n + 28) (kk := x) (SB gk) (EV.met0 (SB gk) (EV.name rfl rfl rfl rfl) hL.k (hmL_pop _) (hL.f _ (by decide +kernel) (by decide +kernel) (by decide +kernel) (by decide +kernel)) (law2_pop (n := n + 25) (SB gk) M.ae L5 hi hRx) ⟨_, rfl⟩) (by rintro v m3 ⟨rfl, L6, _⟩; exact ⟨_, rfl, L6.nd i hi x hxb⟩) (by with_unfolding_all rfl)) (by rintro v m3 ⟨rfl, v0, rfl, L6, sl6⟩; exact ⟨rfl, L6, sl6⟩)) ?e2 ?e3 (by with_unfolding_all rfl)
        case e2 =>
          rintro v1 m3 ⟨rfl, y⟩
          refine EV.mono (EV.idxI (ns := un) (k := (i : Int)) ok.loc (EV.name rfl rfl rfl rfl) (EV.name rfl rfl rfl rfl) LV.list (by omega) (by omega) hul) ?_
          rintro v2 m4 ⟨rfl, rfl⟩
          rw [Int.toNat_natCast, hx]
          exact ⟨rfl, y⟩
        case e3 =>
          rintro v1 m3 v2 m4 ⟨rfl, _⟩ ⟨rfl, y⟩
          refine ⟨false, ?_, rfl, y⟩
          have := op_ne (g := g3 w mg mb B os gk) (mh := m4) (a := x) (b := x)
          rwa [show (x != x) = false by simp] at this
    · refine ST.ifF ok (TJ.andF1 ok.loc (TJ.cmpI ok.loc (by omega) (EV.lenI (SB gk) ⟨rfl, rfl, rfl, rfl, M.len, by decide +kernel, by decide +kernel, rfl⟩ (EV.name rfl rfl rfl rfl) LV.list hul) (EV.name rfl rfl rfl rfl) (by have := op_gt (g := g3 w mg mb B os gk) (mh := m') (a := (un.length : Int)) (b := (i : Int)); rwa [show decide ((i : Int) < (un.length : Int)) = false by simp only [decide_eq_false_iff_not]; omega] at this))) ?_
      have hroom := held_room hla hnm (by rw [hune]; exact hr)
      rw [hune] at hroom
      refine ST.nilI ⟨rfl, by intro p hp; simp only [bar, bau, bal, bak, bas, List.mem_cons, List.not_mem_nil, or_false] at hp; rcases hp with rfl | rfl | rfl | rfl | rfl | rfl | rfl | rfl | rfl | rfl | rfl <;> rfl, ?_, ha5⟩
      rw [← hroom, ← hRi, updR_id]; exact L5
  case fr =>
  rintro r m1 ⟨_, hfr, L6, ha6⟩
  refine ST.sub hfr ?_
  clear hfr L5 ha5 hL
  -- at the end of its line
  have hL6 := (L6.r i hi).L
  have hk6 : key ∉ updR R i ((un.take i).reverse) i := by
    rw [updR_self]
    exact fun z => hunk (List.mem_of_mem_take (List.mem_reverse.mp z))
  refine ST.exprP ok (EV.met1 (SB gk) ok.loc (EV.name rfl rfl rfl rfl) hL6.k (hmL_app _) (hL6.f _ (by decide +kernel) (by decide +kernel) (by decide +kernel) (by decide +kernel)) (EV.name rfl rfl rfl rfl) (law2_append (n := n + 26) (SB gk) M.ae L6 hi hkb hk6)) ?_
  rintro v m2 ⟨_, L7, sl7⟩
  have ha7 : m2 a = some (.lst asked) := (sl7 a (.inl (by rw [ha6]; rfl))).trans ha6
  rw [updR_twice, updR_self, held_new, ← hlt] at L7
  have hnext : updR R i (heldR lt i) = fun j => if j < i + 1 then heldR lt j else heldR la j := by
    funext j
    by_cases q : j = i
    · rw [q, updR_self, if_pos (by omega)]
    · rw [updR_ne q, ← hR]
      show (if j < i then heldR lt j else heldR la j) = _
      by_cases z : j < i
      · rw [if_pos z, if_pos (by omega)]
      · rw [if_neg z, if_neg (by omega)]
  clear L6 ha6 hL6 hk6
  -- held
  have R7 := L7.r i hi
  rw [updR_self] at R7
  have hhl : (heldR lt i).length ≤ 1000 := by unfold heldR; simp at hln ⊢; omega
  have hltl : lt.length ≤ 1000 := by simp at hln; omega
  refine ST.paths (n := n + 27) (ks := heldR lt i) SB ok (EV.name rfl rfl rfl rfl) L7.t R7 (by rw [List.length_map]; exact hhl) (by rw [List.length_map]) ?nd ?_
  case nd =>
    intro j hj
    rw [List.length_map] at hj
    have e : nxA ((heldR lt i).map (f i)) (hs i) j = f i ((heldR lt i).getD j 0) := by
      unfold nxA
      rw [List.getD_eq_getElem?_getD, List.getElem?_map, List.getElem?_eq_getElem hj, List.getD_eq_getElem?_getD, List.getElem?_eq_getElem hj]; rfl
    rw [e]
    refine L7.nd i hi _ (L7.kb i hi _ ?_)
    rw [updR_self, getD_at hj]
    exact List.getElem_mem _
  obtain ⟨N, hN⟩ : ∃ N : Nat, N = if i + 1 < lt.length then i + 1 else lt.length := ⟨_, rfl⟩
  have hNb : N ≤ i + 1 ∧ N ≤ lt.length := by rw [hN]; split <;> omega
  have hNi : (if (i : Int) + 1 < (lt.length : Int) then (i : Int) + 1 else (lt.length : Int)) = (N : Int) := by
    rw [hN]
    by_cases q : i + 1 < lt.length
    · rw [if_pos q, if_pos (by omega)]; rfl
    · rw [if_neg q, if_neg (by omega)]
  have hNn : (((N : Nat) : Int) - 1 - -1).toNat = N := by omega
  have htold : (List.range (((N : Nat) : Int) - 1 - -1).toNat).map (fun q : Nat => AV.int (lt.getD (N - 1 - q) 0)) = il (heldR lt i) := by
    rw [hNn, ← held_told hN, il_map]
  refine ST.ifF ok (TJ.orF (m1 := m2) ok.loc (TJ.cmpI (v2 := .list (il (heldR lt i))) (m2 := m2) ok.loc (by omega) (EV.name rfl rfl rfl rfl) ?told ?tne)
    (TJ.valI (EV.met0 (SB gk) (EV.name rfl rfl rfl rfl) R7.L.k (hmL_emp _) (R7.L.f _ (by decide +kernel) (by decide +kernel) (by decide +kernel) (by decide +kernel)) (ring_empty (n := n + 27) (SB gk) M.ae L7.t R7) ⟨_, rfl⟩) ?emp)) ?_
  case told =>
    rw [← htold]
    refine EV.compP (item := fun q : Nat => .int (((N : Nat) : Int) - 1 - (q : Int))) (m0 := m2) [("latest", L + 1 + 1 + 1 + 1)] [("latest", .list (il lt))] (fun q => .int (lt.getD (N - 1 - q) 0)) ok
      (ITJ.rangeD (a := ((N : Nat) : Int) - 1) (k := -1) (SB gk) ⟨rfl, rfl, rfl, rfl, M.range, by decide +kernel, by decide +kernel, rfl⟩ ok.loc (EV.binI ok.loc (by omega) (by
        rw [← hNi]
        exact EV.min2 (SB gk) ⟨rfl, rfl, rfl, rfl, M.min, by decide +kernel, by decide +kernel, rfl⟩ ok.loc (EV.lenI (SB gk) ⟨rfl, rfl, rfl, rfl, M.len, by decide +kernel, by decide +kernel, rfl⟩ (EV.name rfl rfl rfl rfl) LV.list hltl) (EV.binI ok.loc (by omega) (EV.name rfl rfl rfl rfl) EV.const_int op_add)) EV.const_int op_sub) (EV.unI (by omega) EV.const_int op_neg) (EV.unI (by omega) EV.const_int op_neg) (by omega) (by omega) (by omega) (by omega)) (by omega) (fun _ _ => .int _) (fun C q hq cok => ?_)
    rw [show N - 1 - q = (((N : Nat) : Int) - 1 - (q : Int)).toNat by omega]
    exact EV.idxI (ns := lt) cok.loc (EV.name rfl rfl rfl rfl) (EV.name rfl rfl rfl rfl) LV.list (by omega) (by omega) hltl
  case tne =>
    have := op_neL (g := g3 w mg mb B os gk) (mh := m2) (v1 := .list (il (heldR lt i))) (v2 := .list (il (heldR lt i))) LV.list LV.list
    rwa [show (!decide (heldR lt i = heldR lt i)) = false by simp] at this
  case emp =>
    have : ((heldR lt i).map (f i)).isEmpty = false := by
      rw [List.isEmpty_map, hlt, ← held_new]
      simp
    rw [this]; exact tr_bool
  refine ST.nilI ⟨by intro p hp; simp only [bau, bal, bak, bas, List.mem_cons, List.not_mem_nil, or_false] at hp; rcases hp with rfl | rfl | rfl | rfl | rfl | rfl | rfl <;> rfl, ?_, ha7⟩
  rw [← hnext]; exact L7
end
end Mine

-- T
namespace Mine
theorem mgs {P : Params} {h : Heap} {mg : Str → Option Value} (X : (hd.heap_39 P).In h) (G : h.Ns mainGlobals mg) : MG mg :=
  ⟨mg_none_of X G (by k_is), mg_of X G (by k_is), mg_of X G (by k_is), mg_none_of X G (by k_is), mg_none_of X G (by k_is), mg_none_of X G (by k_is)⟩

theorem law_call {w : World} {mg mb : Str → Option Value} {s : Shared} {fa : Addr} {o : Obj} {fd fd' : FuncData} {body : List Stmt} {ns : List Int} {sc : Addr} {vs : List Value} {R : Result → Shared → Prop}
    (KX : (hd.heap_39 w.params).In s.heap) (hgn : s.heap.Ns mainGlobals mg) (hbn : s.heap.Ns builtinsNs mb) (hnl : s.heap.NoLimit) (hbu : ∀ x : Str, x ≠ "__name__" → mb x = bootBuiltins x)
    (hfd : ∃ o d sl, (hd.heap_39 w.params).lookup 247 = some ⟨o, d, .func fd, sl⟩) (hbody : fd.body = .stmts body) (ho : s.heap.get? fa = some o) (hod : o.data = .func fd')
    (e1 : fd'.scope = fd.scope) (e2 : fd'.body = fd.body) (e3 : bindArgs fd' ⟨[.ref sc], []⟩ = pure [(("script" : Str), Value.ref sc)]) (e4 : fd'.globals = mainGlobals) (e5 : fd'.builtins = builtinsNs) (e6 : fd'.closure = []) (e7 : fd'.qualname = "law") (hcd : s.heap.CodeRec fd'.code fd'.qualname)
    (hL : s.heap.IsList sc vs.toArray) (hI : IntsAre vs ns) (hns : ns.length ≤ 63) (hg : s.gens = #[])
    (hR : ∀ s', (∀ b o, s.heap.get? b = some o → s'.heap.get? b = some o) → s'.os = s.os → AllBare s'.gens → R (.ok (.ret (.bool true))) s') :
    codeAny (model PySem.Challenge.rw_bs0026_02.row.prog w) callerA (.call (.ref fa) ⟨[.ref sc], []⟩) R s := by
  have M := mgs KX hgn
  have SB : ∀ gk, St0 (g3 w mg mb s.heap s.os gk) s.heap := fun gk => ⟨KX, hgn, hbn, hnl, hbu⟩
  obtain ⟨o', d, sl, hfd'⟩ := hfd
  have e := hfd'.symm.trans (by k_is : List.lookup 247 (hd.heap_39 _) = _)
  injection e with e
  injection e with _ _ e _
  injection e with e
  have k1 : fd.scope.kind = .function := by rw [e]
  have k2 : fd.scope.names.lookup ("script" : Str) = some .local := by rw [e]; rfl
  have k3 : fd.scope.isCoroutine = false := by rw [e]
  have k4 : fd.scope.isGenerator = false := by rw [e]
  have k5 : ∀ (L : Nat) x c, (x, c) ∈ cellsFrom (L + 1) fd.scope.names [] → (cellsFrom (L + 1) fd.scope.names []).lookup x = some c := by
    rw [e]
    intro L x c hx
    simp [cellsFrom] at hx
    rcases hx with ⟨rfl, rfl⟩ | ⟨rfl, rfl⟩ | ⟨rfl, rfl⟩ | ⟨rfl, rfl⟩ <;> rfl
  clear e
  refine codeAny_call_cells (fd := fd') (body := body) (binds := [("script", .ref sc)]) (by show 1 + claimMargin < recursionLimit; decide) ho hod hnl hcd (e2.trans hbody) ?bind e6 ?kind (fun s₁ ic => ?_) (by rw [e1]; exact k3) (by rw [e1]; exact k4) (by rw [e1]; exact k1)
  case bind => exact e3
  case kind => intro x hx; rw [List.mem_singleton] at hx; subst hx; rw [e1]; exact .inl k2
  obtain ⟨h₀, tk, rfl, hkp⟩ := ic.done
  have hns0 : h₀.Ns s.heap.objs.size (bindL (callEnvC fd' s.heap.objs.size fa).kindOf [("script", .ref sc)] fun _ => none) := ic.toInCall.ns
  have none_at : ∀ c, s.heap.objs.size ≤ c → s.heap.get? c = none := fun c hc => by
    cases q : s.heap.get? c with
    | none => rfl
    | some o => exact absurd (Heap.lt_size q) (Nat.not_lt.mpr hc)
  have hLn := none_at _ (Nat.le_refl _)
  have cnone : ∀ x c, (x, c) ∈ (callEnvC fd' s.heap.objs.size fa).cells → s.heap.get? c = none := fun x c hc => none_at c (Nat.le_of_lt (ic.above x c hc))
  have cinj : ∀ x y c, (x, c) ∈ (callEnvC fd' s.heap.objs.size fa).cells → (y, c) ∈ (callEnvC fd' s.heap.objs.size fa).cells → x = y := fun x y c h1 h2 => by
    have := pair_inj ic.apart h1 h2 rfl
    cases this; rfl
  have ee : callEnvC fd' s.heap.objs.size fa = envOfC "law" fd.scope s.heap.objs.size fa fd'.code := by
    show newEnv fd'.scope s.heap.objs.size fd'.globals (cellsFrom (s.heap.objs.size + 1) fd'.scope.names []) (fd'.qualname ++ ".<locals>.") (some fa) fd'.code none fd'.builtins = _
    rw [e4, e5, e7, e1]; rfl
  have ok : EnvOk (g3 w mg mb s.heap s.os fun _ => none) (callEnvC fd' s.heap.objs.size fa) [s.heap.objs.size] [] := ⟨by show fd'.scope.kind = _; rw [e1]; exact k1, e4, e5, List.mem_singleton.mpr rfl, List.not_mem_nil, fun q hq => (by cases hq), fun x c e => cnone x c (mem_of_lookup e), fun x y c e1 e2 => cinj x y c (mem_of_lookup e1) (mem_of_lookup e2)⟩
  obtain ⟨oL, esL, nL, eL, dL, rL⟩ := id hns0
  have hs0 : H (g3 w mg mb s.heap s.os fun _ => none) [callEnvC fd' s.heap.objs.size fa] [s.heap.objs.size] (fun _ => none) { s with heap := h₀, toks := tk } :=
    ⟨hkp, rfl, ⟨by rw [show Shared.gens { s with heap := h₀, toks := tk } = #[] from hg]; exact AllBare.empty, fun i st q => (by cases q)⟩, fun a o e => (by cases e), fun a o e => (by cases e), fun a a' C C' d at_ at' e => (by cases e),
      ⟨by show fd'.scope.kind ≠ _; rw [e1, k1]; decide, ⟨_, oL, rfl, hLn, eL, fun vs z => by rw [dL] at z; cases z⟩, trivial⟩, fun L hL => (show L ∈ [s.heap.objs.size] from hL), fun L hL => by rw [List.mem_singleton.mp hL]; exact ⟨hLn, oL, esL, nL, eL, dL⟩⟩
  have hf0 : FrR (callEnvC fd' s.heap.objs.size fa) [("script", .list (il ns))] (fun _ => none) h₀ := by
    refine ⟨⟨_, hns0⟩, fun x c e => ?_, fun x v e => ?_⟩
    · refine ⟨_, ic.cell x c ?_⟩
      have e' : (x, c) ∈ cellsFrom (s.heap.objs.size + 1) fd'.scope.names [] := e
      show (cellsFrom (s.heap.objs.size + 1) fd'.scope.names []).lookup x = some c
      rw [e1] at e' ⊢
      exact k5 _ x c e'
    · have := mem_of_lookup e
      rw [List.mem_singleton] at this
      cases this
      obtain ⟨ol, hol, hcl, nl, hdl⟩ := hL
      obtain ⟨h1, h2⟩ := LAt_il hI
      refine ⟨.ref sc, .inl ⟨by show fd'.scope.names.lookup _ = _; rw [e1]; exact k2, _, hns0, bindL_in (by show fd'.scope.names.lookup _ = _; rw [e1]; exact k2) (by simp) (by simp)⟩, .list rfl (hkp _ _ hol) hcl hdl h1 fun i x v => h2 _ _ i x v⟩
  rw [ee] at ok hs0 hf0
  show wpAny _ (callerA.deeper (callEnvC fd' s.heap.objs.size fa)) (execs body (callEnvC fd' s.heap.objs.size fa)) _ _ _
  rw [ee]
  have Rm : Room 40 callerA ([] : List Env) := ⟨rfl, rfl, by show 1 + claimMargin + 40 < recursionLimit; decide, by show 4 + 16 * 40 + 64 < cLine; decide⟩
  have walk := law_walk (n := 9) (mh := fun _ => none) (gk := fun _ => none) SB M ns (by omega) (fun _ => rfl) (fd := fd) (body := body) (L := s.heap.objs.size) (fa := fa) (cd := fd'.code) (stk := [envOfC "law" fd.scope s.heap.objs.size fa fd'.code]) (ps := [s.heap.objs.size]) (qs := []) ⟨_, _, _, hfd'⟩ hbody rfl ok
  refine walk (callerA.deeper _) _ _ _ (Rm.deeper (n := 39) _) hs0 hf0 fun s' fl fv r m p hs' hf' ts flr => ?_
  have p : fl = .ret (.bool true) := p
  subst p
  cases flr with
  | ret rv =>
    cases rv
    exact hR s' hs'.stays hs'.os hs'.bare.1
end Mine

-- Z
theorem PySem.Challenge.cw_bs0026_02_holds : PySem.Challenge.rw_bs0026_02.Holds := by
  refine Mine.hd ?_
  k_fill
  intro w s₀ s₁ mg mb G Y fa o pm cd doc dV kV ho hd' hcd hD hmg hg args vals as hpre hlay hrd hwl hlo
  have KX := kIn_of Y
  have zd : dV = .none := hD.pos_none rfl
  have zk : kV = .none := hD.kw_none rfl
  subst zd zk
  refine Ground.open G ?_
  intro T B D TE TW
  try (refine guard_noD D (by decide +kernel) ?_; clear D)
  wrow_args hpre hlay hrd hwl hlo
  all_goals first | refine callC_kw (enter_call ?_) | refine enter_call ?_
  w_top on
  rename_i ns hs hlay0 hL1 hr1 hl2 a4 a3 sc vs aw hL ra w1' r0 hI hr hc1 hc2
  have hl := (by k_is : List.lookup 247 (Mine.hd.heap_39 w.params) = _)
  refine Mine.law_call KX T.g T.b T.nolimit T.builtins ⟨_, _, _, hl⟩ rfl ho hd' rfl rfl rfl rfl rfl rfl rfl hcd hL hI (by omega) hg fun s' hk hos hba => ?_
  refine ⟨.inl ⟨.bool true, .bool true, [], rfl, fun cls => ?_, ?_, ?_, ?_⟩, .of_keep hk, hos, hba⟩
  · rfl
  · exact .bool true
  · first | with_unfolding_all rfl | kernel_rfl | (with_unfolding_all decide)
  · exact fun _ => ⟨List.nodup_nil, fun a ha => by cases ha⟩

